import Derived.Test.Qxb6613110aN
import Derived.Test.Qxb6613110aM
namespace Go.Proofs.Qxb6613110a
open Go.RowKit

/-- a Replica as the law makes it -/
structure RepAt (w : World) (R : Nat) (me : ByteArray) (view sum ack : Value) (bm : Nat) : Prop where
  self_ : w.cell? ⟨R, 1, none⟩ = some (.string me)
  view : w.cell? ⟨R, 4, none⟩ = some view
  sum : w.cell? ⟨R, 5, none⟩ = some sum
  ack : w.cell? ⟨R, 6, none⟩ = some ack
  free : w.frozen? ⟨R, 6, none⟩ = false
  gone : w.cell? ⟨R, 10, none⟩ = some (.map (some bm))

set_option maxHeartbeats 1000000 in
theorem newReplica_any (me : ByteArray) (view sum ack : Value) (hview : ∃ a n c, view = .slice a n c) (hsum : ∃ a n c, sum = .slice a n c) (hack : ∃ a n c, ack = .slice a n c) (bm : Nat) (w : World) :
    Calls Try.prog 20 #[.string me, .int .u64 0, view, sum, ack, .map (some bm)] w fun e w' => e = .returned (.pointer (some ⟨w.heap.size, 0, none⟩)) ∧ RepAt w' w.heap.size me view sum ack bm ∧ w'.heap.size = w.heap.size + 1 ∧ Below w.heap.size w w' := by
  obtain ⟨a1, n1, c1, rfl⟩ := hview
  obtain ⟨a2, n2, c2, rfl⟩ := hsum
  obtain ⟨a3, n3, c3, rfl⟩ := hack
  go_enter Try.func20, Try.ntmps20
  go_wp2
  go_ret
  exact ⟨rfl, ⟨by simp [go_sem], by simp [go_sem], by simp [go_sem], by simp [go_sem], by simp [go_sem], by simp [go_sem]⟩, by simp, (Below.refl _ _).alloc (Nat.le_refl _) _⟩

set_option maxHeartbeats 1000000 in
theorem bounds_any (R q bm n i : Nat) (V : VRow) (w : World) (hg : w.cell? ⟨R, 10, none⟩ = some (.map (some bm))) (hid : w.cell? ⟨q, 0, none⟩ = some (.string (V.id i))) (hst : w.cell? ⟨q, 2, none⟩ = some (.string (V.st i)))
    (hi : i < n) (hs : (V.id i).size ≤ maxLen) (hG : GoneAt w bm n V) :
    Calls Try.prog 40 #[.pointer (some ⟨R, 0, none⟩), .pointer (some ⟨q, 0, none⟩)] w fun e w' => e = .returned (.bool (cntB (V.st i) (V.gone i))) ∧ Below w.heap.size w w' := by
  have hlk : ∀ nq, (Instr.lookup 47 (.map (some bm)) (.string (V.id i)) false).run Try.prog (w.drewN nq) = .ok (.int .u64 (V.gone i)) (w.drewN nq) := fun nq => GoneAt.look (w := w.drewN nq) hG hi hs
  cases h1 : ((V.st i).toList == [109, 101, 109, 98, 101, 114])
  · cases h2 : ((V.st i).toList == [102, 97, 105, 108, 101, 100])
    · go_enter Try.func40, Try.ntmps40
      go_wp2
      go_quiet (fail)
      go_wp2
      go_ret
      exact ⟨by simp [cntB, h1, h2], below_drewN (Below.refl _ _) _⟩
    · go_enter Try.func40, Try.ntmps40
      go_wp2
      go_quiet (fail)
      go_wp2
      go_ret
      exact ⟨by simp [cntB, h1, h2], below_drewN (Below.refl _ _) _⟩
  · go_enter Try.func40, Try.ntmps40
    go_wp2
    go_quiet (fail)
    go_wp2
    go_ret
    exact ⟨by simp [cntB, h1], below_drewN (Below.refl _ _) _⟩
end Go.Proofs.Qxb6613110a
