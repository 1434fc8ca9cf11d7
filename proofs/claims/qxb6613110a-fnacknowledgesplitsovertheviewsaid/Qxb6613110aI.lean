import Derived.Test.Qxb6613110aH
namespace Go.Proofs.Qxb6613110a
open Go.RowKit

set_option maxHeartbeats 400000 in
set_option maxRecDepth 100000 in
theorem clo48_any (bw : Nat) (a : Option Addr) (n c : Nat) (B : Nat → ByteArray) (C : Nat → Int) (m : ByteArray) (br bl bm lo j : Nat) (w : World) (hn : n ≤ 1073741824) (hv : VecAt w a n B C) (hj : lo + j < n)
    (hs : w.cell? ⟨bw, 0, none⟩ = some (.slice a n c)) (hr : w.cell? ⟨br, 0, none⟩ = some (.pointer (some ⟨bw, 0, none⟩))) (hl : w.cell? ⟨bl, 0, none⟩ = some (.int .i64 lo)) (hm : w.cell? ⟨bm, 0, none⟩ = some (.string m)) :
    Calls Try.prog 48 #[.int .i64 j, .pointer (some ⟨br, 0, none⟩), .pointer (some ⟨bl, 0, none⟩), .pointer (some ⟨bm, 0, none⟩)] w fun e w' => e = .returned (.bool (!Op.bytesLess (B (lo + j)).toList m.toList)) ∧ Below w.heap.size w w' := by
  obtain ⟨b, off, ha, h0, h1⟩ := hv
  have g0 := cell_regrown (h0 (lo + j) hj)
  have g1 := cell_regrown (h1 (lo + j) hj)
  have gs := cell_regrown hs
  have gr := cell_regrown hr
  have gl := cell_regrown hl
  have gm := cell_regrown hm
  have hix := ixAtI (c := c) Try.underlying33 sz66 ha ((lo : Int) + (j : Int)) (lo + j) (by omega) hj
  have hme := meth_member
  simp [nmMember, slash] at hme
  clear h0 h1 ha hs hr hl hm
  go_enter Try.func48, Try.ntmps48
  go_wp2
  refine wp_region_quiet_below (by kernel_rfl) (by kernel_rfl) ?_
  repeat (go_big_quiet_step ((exact member_re _ _ _ _ _)))
  refine wpQuiet_nil ?_
  intro _ hw'
  obtain ⟨⟨dq, osq⟩, hw''⟩ := hw'
  subst hw''
  go_wp2
  go_ret
  exact ⟨rfl, below_regrown w dq osq⟩
end Go.Proofs.Qxb6613110a
