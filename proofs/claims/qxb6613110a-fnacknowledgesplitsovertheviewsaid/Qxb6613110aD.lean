import Derived.Test.Qxb6613110aBase
namespace Go.Proofs.Qxb6613110a
open Go.RowKit Go.Sort

set_option maxHeartbeats 400000 in
theorem member_any (m : ByteArray) (c : Int) (w : World) :
    Calls Try.prog 69 #[.agg #[.string m, .int .u64 c]] w fun e w' => e = .returned (.string m) ∧ Below w.heap.size w w' := by
  go_enter Try.func69, Try.ntmps69
  go_wp2
  go_ret
  exact ⟨rfl, (Below.refl _ _).alloc (Nat.le_refl _) _⟩

theorem member_re (m : ByteArray) (c : Int) (w : World) (d : Nat) (os : Array Obj) :
    Calls Try.prog 69 #[.agg #[.string m, .int .u64 c]] (grow (redrawn w d) os) fun e w'' => e = .returned (.string m) ∧ ∃ p : Regrown, w'' = grow (redrawn w p.d) p.os :=
  Calls.regrown_of (member_any m c _)

set_option maxHeartbeats 400000 in
/-- the method's name, put together -/
def slash : String := String.singleton (Char.ofNat 47)
def nmMember : String := "example.com" ++ (slash ++ ("rumorline" ++ (slash ++ "rumorline.member")))
theorem meth_member (m : ByteArray) (c : Int) (w : World) : (method 229 66 (.agg #[.string m, .int .u64 c]) nmMember).run Try.prog w = .ok (69, .agg #[.string m, .int .u64 c]) w := by kernel_rfl

set_option maxRecDepth 100000 in
theorem clo49_any (a : Option Addr) (n c : Nat) (B : Nat → ByteArray) (C : Nat → Int) (m : ByteArray) (bs bm i : Nat) (w : World) (hv : VecAt w a n B C) (hi : i < n)
    (hs : w.cell? ⟨bs, 0, none⟩ = some (.slice a n c)) (hm : w.cell? ⟨bm, 0, none⟩ = some (.string m)) :
    Calls Try.prog 49 #[.int .i64 i, .pointer (some ⟨bs, 0, none⟩), .pointer (some ⟨bm, 0, none⟩)] w fun e w' => e = .returned (.bool (!Op.bytesLess (B i).toList m.toList)) ∧ Below w.heap.size w w' := by
  obtain ⟨b, off, ha, h0, h1⟩ := hv
  have g0 := cell_regrown (h0 i hi)
  have g1 := cell_regrown (h1 i hi)
  have gs := cell_regrown hs
  have gm := cell_regrown hm
  have hix := ixAt (c := c) Try.underlying33 sz66 ha i hi
  have hme := meth_member
  simp [nmMember, slash] at hme
  clear h0 h1 ha
  go_enter Try.func49, Try.ntmps49
  go_wp2
  refine wp_region_quiet_below (by kernel_rfl) (by kernel_rfl) ?_
  repeat (go_big_quiet_step ((exact member_re _ _ _ _ _)))
  refine wpQuiet_nil ?_
  intro _ hw'
  obtain ⟨⟨dq, osq⟩, hw''⟩ := hw'
  subst hw''
  go_wp2
  go_ret
  exact ⟨rfl, below_regrown w dq osq⟩
end Go.Proofs.Qxb6613110a
