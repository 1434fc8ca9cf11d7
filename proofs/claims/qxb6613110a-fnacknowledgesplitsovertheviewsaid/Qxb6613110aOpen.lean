import Derived.Test.Qxb6613110aBase
import Derived.ProofKit
import Derived.OpenShut
import Derived.ShutString
import Derived.ChangeOld
import Derived.Below
import Derived.Deep.Slices
import Derived.Deep.SlicePairs
namespace Go.Proofs.Qxb6613110a
open Go.ChangeShapes Go.WideShapes Go.ChangeAt Go.RowKit

theorem Try.cells63 : Try.prog.cellsOf 63 = 2 := by kernel_rfl
theorem Try.cells38 : Try.prog.cellsOf 38 = 6 := by kernel_rfl
theorem Try.cells9 : Try.prog.cellsOf 9 = 1 := by kernel_rfl
theorem Try.cells28 : Try.prog.cellsOf 28 = 1 := by kernel_rfl
theorem Try.cells4 : Try.prog.cellsOf 4 = 1 := by kernel_rfl

section
variable {H : Type} {enc : TypeId × Value → H} {W : World} {base : Nat} {spare : Nat → Bool} {held : Bool}

theorem add_lit (b off i : Nat) : (⟨b, off, none⟩ : Addr).add i = ⟨b, off + i, none⟩ := by unfold Addr.add; split <;> simp_all

/-- a cell behind an address: the address is a plain one -/
theorem plain_of {a : Addr} {v : Value} (h : W.cell? (a.add 0) = some v) : ∃ b off, a = ⟨b, off, none⟩ := by
  obtain ⟨b, off, spot⟩ := a
  have hs := World.cell?_spot h
  exact ⟨b, off, by simpa [Addr.add] using hs⟩

theorem vecAt_of {fuel : Nat} {a : Option Addr} {n c : Nat} {x : DataW H × List MemPlace} (h : DataW.trod enc Try.prog W base spare held fuel 23 [.slice a n c] = some x) :
    ∃ B C, VecAt W a n B C ∧ n ≤ maxLen ∧ (a = none → n = 0 ∧ c = 0) ∧ ∀ i, i < n → (Lit.int .u64 (C i)).wf = true := by
  rcases Go.Deep.open_slice_pairs Try.underlying23 Try.underlying63 Try.cells63 rfl rfl Try.cells9 Try.cells28 h with ⟨hcs, _⟩ | ⟨a', len, cap, m, n', V0, V1, D0, D1, P0, P1, hcs, _, hl, hm, hmm, _, hx⟩
  · simp at hcs
    obtain ⟨rfl, rfl, rfl⟩ := hcs
    exact ⟨fun _ => ByteArray.empty, fun _ => 0, ⟨0, 0, Or.inl (Nat.le_refl _), fun i hi => by omega, fun i hi => by omega⟩, Nat.zero_le _, fun _ => ⟨rfl, rfl⟩, fun i hi => by omega⟩
  · simp at hcs
    obtain ⟨rfl, rfl, rfl⟩ := hcs
    have hlm : n ≤ m := by rw [hmm]; split <;> omega
    have each : ∀ i, i < n → ∃ q : ByteArray × Int, W.cell? (a'.add (i * 2)) = some (.string q.1) ∧ W.cell? (a'.add (i * 2 + 1)) = some (.int .u64 q.2) ∧ (Lit.int .u64 q.2).wf = true := by
      intro i hi
      obtain ⟨c0, c1, r0, r1⟩ := hx i (by omega)
      obtain ⟨s, e0, _, _⟩ := DataW.trod_string Try.underlying9 r0
      obtain ⟨z, e1, _, hz⟩ := DataW.trod_int Try.underlying28 r1
      simp at e0 e1
      exact ⟨(s, z), by rw [c0, e0], by rw [c1, e1], hz⟩
    obtain ⟨q, hq⟩ := Go.Deep.choose_lt each
    refine ⟨fun i => (q i).1, fun i => (q i).2, ?_, by omega, fun h => (by cases h), fun i hi => (hq i hi).2.2⟩
    by_cases h0 : n = 0
    · exact ⟨0, 0, Or.inl (by omega), fun i hi => by omega, fun i hi => by omega⟩
    · obtain ⟨b, off, rfl⟩ := plain_of (W := W) (by simpa using (hq 0 (by omega)).1)
      refine ⟨b, off, Or.inr rfl, fun i hi => ?_, fun i hi => ?_⟩
      · have := (hq i hi).1; rwa [add_lit] at this
      · have := (hq i hi).2.1; rwa [add_lit, ← Nat.add_assoc] at this

set_option maxRecDepth 100000 in
theorem viewAt_of {fuel : Nat} {a : Option Addr} {n c : Nat} {x : DataW H × List MemPlace} (h : DataW.trod enc Try.prog W base spare held fuel 22 [.slice a n c] = some x) :
    ∃ V, ViewAt W a n V ∧ n ≤ maxLen ∧ (∀ i, i < n → (V.id i).size ≤ maxLen) ∧ ∀ i, i < n → (Lit.int .u64 (V.gone i)).wf = true := by
  rcases Go.Deep.open_slice Try.underlying22 h with ⟨hcs, _⟩ | ⟨a', len, cap, m, n', D, Pl, hcs, _, hl, hm, hmm, _, hx⟩
  · simp at hcs
    obtain ⟨rfl, rfl, rfl⟩ := hcs
    exact ⟨⟨fun _ => ByteArray.empty, fun _ => ByteArray.empty, fun _ => 0, fun _ => false, fun _ => 0, fun _ => 0⟩, ⟨0, 0, Or.inl (Nat.le_refl _), fun i hi => by omega, fun i hi => by omega, fun i hi => by omega, fun i hi => by omega, fun i hi => by omega, fun i hi => by omega⟩, Nat.zero_le _, fun i hi => by omega, fun i hi => by omega⟩
  · simp at hcs
    obtain ⟨rfl, rfl, rfl⟩ := hcs
    have hlm : n ≤ m := by rw [hmm]; split <;> omega
    have each : ∀ i, i < n → ∃ q : ByteArray × ByteArray × Int × Bool × Int × Int, (W.cell? (a'.add (i * 6)) = some (.string q.1) ∧ W.cell? (a'.add (i * 6 + 1)) = some (.string q.2.1) ∧ W.cell? (a'.add (i * 6 + 2)) = some (.int .u64 q.2.2.1) ∧
        W.cell? (a'.add (i * 6 + 3)) = some (.bool q.2.2.2.1) ∧ W.cell? (a'.add (i * 6 + 4)) = some (.int .u64 q.2.2.2.2.1) ∧ W.cell? (a'.add (i * 6 + 5)) = some (.int .u64 q.2.2.2.2.2)) ∧ q.1.size ≤ maxLen ∧ (Lit.int .u64 q.2.2.2.2.2).wf = true := by
      intro i hi
      obtain ⟨cs', h1, h2⟩ := hx i (by omega)
      rw [Try.cells38] at h1
      obtain ⟨_, hlen, hcell⟩ := World.cells?_some h1
      obtain ⟨xs, k, hk, hxy, _, hxl, hf⟩ := DataW.trod_struct Try.underlying38 h2
      match cs', hlen with
      | [v0, v1, v2, v3, v4, v5], _ =>
        have g0 := hf 0 _ rfl
        have g1 := hf 1 _ rfl
        have g2 := hf 2 _ rfl
        have g3 := hf 3 _ rfl
        have g4 := hf 4 _ rfl
        have g5 := hf 5 _ rfl
        simp [Try.cells9, Try.cells28, Try.cells4] at g0 g1 g2 g3 g4 g5
        have lx : xs.length = 6 := hxl
        have some_of : ∀ j, j < 6 → ∃ y, xs[j]? = some y := fun j hj => ⟨xs[j]'(by omega), by simp [lx, hj]⟩
        obtain ⟨y0, e0⟩ := some_of 0 (by omega)
        obtain ⟨y1, e1⟩ := some_of 1 (by omega)
        obtain ⟨y2, e2⟩ := some_of 2 (by omega)
        obtain ⟨y3, e3⟩ := some_of 3 (by omega)
        obtain ⟨y4, e4⟩ := some_of 4 (by omega)
        obtain ⟨y5, e5⟩ := some_of 5 (by omega)
        rw [e0] at g0
        rw [e1] at g1
        rw [e2] at g2
        rw [e3] at g3
        rw [e4] at g4
        rw [e5] at g5
        obtain ⟨s0, u0, _, hs0⟩ := DataW.trod_string Try.underlying9 g0
        obtain ⟨s1, u1, _, _⟩ := DataW.trod_string Try.underlying9 g1
        obtain ⟨z2, u2, _, _⟩ := DataW.trod_int Try.underlying28 g2
        obtain ⟨b3, u3, _⟩ := DataW.trod_bool Try.underlying4 g3
        obtain ⟨z4, u4, _, _⟩ := DataW.trod_int Try.underlying28 g4
        obtain ⟨z5, u5, _, hz5⟩ := DataW.trod_int Try.underlying28 g5
        simp only [List.cons.injEq, and_true] at u0 u1 u2 u3 u4 u5
        subst u0 u1 u2 u3 u4 u5
        have q0 := hcell 0 (by omega)
        have q1 := hcell 1 (by omega)
        have q2 := hcell 2 (by omega)
        have q3 := hcell 3 (by omega)
        have q4 := hcell 4 (by omega)
        have q5 := hcell 5 (by omega)
        rw [Go.Deep.add_add] at q0 q1 q2 q3 q4 q5
        exact ⟨(s0, s1, z2, b3, z4, z5), ⟨by simpa using q0, by simpa using q1, by simpa using q2, by simpa using q3, by simpa using q4, by simpa using q5⟩, hs0, hz5⟩
    obtain ⟨q, hq⟩ := Go.Deep.choose_lt each
    refine ⟨⟨fun i => (q i).1, fun i => (q i).2.1, fun i => (q i).2.2.1, fun i => (q i).2.2.2.1, fun i => (q i).2.2.2.2.1, fun i => (q i).2.2.2.2.2⟩, ?_, by omega, fun i hi => (hq i hi).2.1, fun i hi => (hq i hi).2.2⟩
    by_cases h0 : n = 0
    · exact ⟨0, 0, Or.inl (by omega), fun i hi => by omega, fun i hi => by omega, fun i hi => by omega, fun i hi => by omega, fun i hi => by omega, fun i hi => by omega⟩
    · obtain ⟨b, off, rfl⟩ := plain_of (W := W) (by simpa using (hq 0 (by omega)).1.1)
      refine ⟨b, off, Or.inr rfl, fun i hi => ?_, fun i hi => ?_, fun i hi => ?_, fun i hi => ?_, fun i hi => ?_, fun i hi => ?_⟩
      · have := (hq i hi).1.1; rwa [add_lit] at this
      · have := (hq i hi).1.2.1; rwa [add_lit, ← Nat.add_assoc] at this
      · have := (hq i hi).1.2.2.1; rwa [add_lit, ← Nat.add_assoc] at this
      · have := (hq i hi).1.2.2.2.1; rwa [add_lit, ← Nat.add_assoc] at this
      · have := (hq i hi).1.2.2.2.2.1; rwa [add_lit, ← Nat.add_assoc] at this
      · have := (hq i hi).1.2.2.2.2.2; rwa [add_lit, ← Nat.add_assoc] at this
end
end Go.Proofs.Qxb6613110a
