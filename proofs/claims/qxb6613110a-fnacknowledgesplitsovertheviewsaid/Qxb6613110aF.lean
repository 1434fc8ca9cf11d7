import Derived.Test.Qxb6613110aE
import Derived.Test.Qxb6613110aOrd
namespace Go.Proofs.Qxb6613110a
open Go.RowKit

/-- what search and find hand back: the place of m's entry, or where it would go -/
def FindRes (n : Nat) (B : Nat → ByteArray) (m : ByteArray) (e : Ending) : Prop :=
  ∃ r : Nat, e = .returned (.tuple #[.int .i64 r, .bool (decide (r < n) && ((B r).toList == m.toList))]) ∧ r ≤ n ∧ (∀ k, k < r → Op.bytesLess (B k).toList m.toList = true) ∧ (∀ k, r ≤ k → k < n → Op.bytesLess (B k).toList m.toList = false)

set_option maxHeartbeats 400000 in
set_option maxRecDepth 100000 in
theorem searchVE_any (a : Option Addr) (n c : Nat) (B : Nat → ByteArray) (C : Nat → Int) (m : ByteArray) (w : World) (hn : n ≤ 1073741824) (hv : VecAt w a n B C) (hok : VecOk n B) :
    Calls Try.prog 46 #[.slice a n c, .string m] w fun e w' => FindRes n B m e ∧ Below w.heap.size w w' := by
  have hmf : ∀ (fn : Fn) (first cap : Array Value) (w : World), (Instr.makeFunc fn first cap).run Try.prog w = .ok (.func fn first cap) w := fun _ _ _ _ => rfl
  go_enter Try.func46, Try.ntmps46
  go_wp2_with fail
  have hbA : Below w.heap.size w ((w.alloc (.cells #[.slice a n c] 33)).alloc (.cells #[.string m] 30)) := ((Below.refl _ _).alloc (Nat.le_refl _) _).alloc (by simp) _
  have hsz : ((w.alloc (.cells #[.slice a n c] 33)).alloc (.cells #[.string m] 30)).heap.size = w.heap.size + 2 := by simp
  have hcs : ((w.alloc (.cells #[.slice a n c] 33)).alloc (.cells #[.string m] 30)).cell? ⟨w.heap.size, 0, none⟩ = some (.slice a n c) := by simp [go_sem]
  have hcm : ((w.alloc (.cells #[.slice a n c] 33)).alloc (.cells #[.string m] 30)).cell? ⟨w.heap.size + 1, 0, none⟩ = some (.string m) := by simp [go_sem]
  have hvA := hv.below hbA
  clear hv
  generalize ((w.alloc (.cells #[.slice a n c] 33)).alloc (.cells #[.string m] 30)) = wA at *
  refine (search49_any n (fun i => !Op.bytesLess (B i).toList m.toList) _ _ wA hn (VecOk.mono hok m) ?_).mono ?_
  · intro i hi w' hb
    exact clo49_any a n c B C m _ _ i w' (hvA.below hb) hi ((hb.cell (lt_of_cell hcs)).trans hcs) ((hb.cell (lt_of_cell hcm)).trans hcm)
  rintro e w2 ⟨⟨r, rfl, hr, hlo, hhi⟩, hb⟩
  have gcs := cell_regrown ((hb.cell (lt_of_cell hcs)).trans hcs)
  have gcm := cell_regrown ((hb.cell (lt_of_cell hcm)).trans hcm)
  have HL : Hid _ := hlo
  have HH : Hid _ := hhi
  obtain ⟨b, off, ha, h0, h1⟩ := hvA.below hb
  have hb2 : Below w.heap.size w w2 := hbA.trans (hb.mono (by omega))
  have hme := meth_member
  simp [nmMember, slash] at hme
  clear hlo hhi hvA hcs hcm hbA hb hsz hmf
  by_cases hlt : r < n
  · have g0 := cell_regrown (h0 r hlt)
    have g1 := cell_regrown (h1 r hlt)
    have hix := ixAt (c := c) Try.underlying33 sz66 ha r hlt
    have hlt' : (r : Int) < n := by omega
    clear h0 h1 ha
    go_wp2_with fail
    refine wp_region_quiet_below (by kernel_rfl) (by kernel_rfl) ?_
    repeat (go_big_quiet_step ((exact member_re _ _ _ _ _)))
    refine wpQuiet_nil ?_
    intro _ hw'
    obtain ⟨⟨dq, osq⟩, hw''⟩ := hw'
    subst hw''
    go_wp2
    go_ret2
    exact ⟨⟨r, by simp [hlt], hr, fun k hk => by simpa using HL.out k hk, fun k h1 h2 => by simpa using HH.out k h1 h2⟩, hb2.trans ((below_regrown w2 dq osq).mono hb2.size)⟩
  · have hd : decide ((r : Int) < n) = false := by simp; omega
    clear h0 h1 ha
    go_wp2_with fail
    refine wp_region_quiet_below (by kernel_rfl) (by kernel_rfl) ?_
    repeat (go_big_quiet_step ((exact member_re _ _ _ _ _)))
    refine wpQuiet_nil ?_
    intro _ hw'
    obtain ⟨⟨dq, osq⟩, hw''⟩ := hw'
    subst hw''
    go_wp2
    go_ret2
    exact ⟨⟨r, by simp [hlt], hr, fun k hk => by simpa using HL.out k hk, fun k h1 h2 => by simpa using HH.out k h1 h2⟩, hb2.trans ((below_regrown w2 dq osq).mono hb2.size)⟩
end Go.Proofs.Qxb6613110a
