import Derived.Test.Qxb6612650aDoorBase
import Derived.ProofKit
import Derived.LaidMore
import Derived.OpenShut
import Derived.OpenVars
import Derived.Deep.Slices
import Derived.Stop.Joined
namespace Go.Proofs.Qxb6612650aDoor
open Go.ChangeShapes Go.WideShapes Go.ChangeAt Go.RowKit

theorem Tryd.cells5 : Tryd.prog.cellsOf 5 = 1 := by kernel_rfl
theorem Tryd.cells3 : Tryd.prog.cellsOf 3 = 1 := by kernel_rfl
theorem Tryd.own : ownKnob Tryd.prog.godebug = none := by kernel_rfl
theorem Tryd.laidOut : laidOutB Tryd.prog = true := by kernel_rfl

section
variable {H : Type} {enc : TypeId × Value → H} {W : World} {base : Nat} {spare : Nat → Bool} {held : Bool}

theorem add_lit (b off i : Nat) : (⟨b, off, none⟩ : Addr).add i = ⟨b, off + i, none⟩ := by unfold Addr.add; split <;> simp_all
/-- a cell behind an address: the address is a plain one -/
theorem plain_of {a : Addr} {v : Value} (h : W.cell? (a.add 0) = some v) : ∃ b off, a = ⟨b, off, none⟩ := by
  obtain ⟨b, off, spot⟩ := a
  have hs := World.cell?_spot h
  exact ⟨b, off, by simpa [Addr.add] using hs⟩

theorem bytesAt_of {fuel : Nat} {a : Option Addr} {n c : Nat} {x : DataW H × List MemPlace} (h : DataW.trod enc Tryd.prog W base spare held fuel 22 [.slice a n c] = some x) :
    ∃ C, BytesAt W a n C ∧ n ≤ maxLen := by
  rcases Go.Deep.open_slice1 Tryd.underlying22 Tryd.cells5 h with ⟨hcs, _⟩ | ⟨a', len, cap, m, n', V, D, P, hcs, _, hl, hm, hmm, _, hx⟩
  · simp at hcs
    obtain ⟨rfl, rfl, rfl⟩ := hcs
    exact ⟨fun _ => 0, ⟨0, 0, Or.inl (Nat.le_refl _), fun i hi => by omega⟩, Nat.zero_le _⟩
  · simp at hcs
    obtain ⟨rfl, rfl, rfl⟩ := hcs
    have hlm : n ≤ m := by rw [hmm]; split <;> omega
    have each : ∀ i, i < n → ∃ q : Int, W.cell? (a'.add i) = some (.int .u8 q) := by
      intro i hi
      obtain ⟨c0, r0⟩ := hx i (by omega)
      obtain ⟨z, e0, _, _⟩ := DataW.trod_int Tryd.underlying5 r0
      simp at e0
      exact ⟨z, by rw [c0, e0]⟩
    obtain ⟨q, hq⟩ := Go.Deep.choose_lt each
    refine ⟨q, ?_, by omega⟩
    by_cases h0 : n = 0
    · exact ⟨0, 0, Or.inl (by omega), fun i hi => by omega⟩
    · obtain ⟨b, off, rfl⟩ := plain_of (W := W) (hq 0 (by omega))
      exact ⟨b, off, Or.inr rfl, fun i hi => by have := hq i hi; rwa [add_lit] at this⟩

theorem intsAt_of {fuel : Nat} {a : Option Addr} {n c : Nat} {x : DataW H × List MemPlace} (h : DataW.trod enc Tryd.prog W base spare held fuel 23 [.slice a n c] = some x) :
    ∃ C, IntsAt W a n C ∧ n ≤ maxLen ∧ (a = none → n = 0 ∧ c = 0) ∧ n ≤ c := by
  rcases Go.Deep.open_slice1 Tryd.underlying23 Tryd.cells3 h with ⟨hcs, _⟩ | ⟨a', len, cap, m, n', V, D, P, hcs, _, hl, hm, hmm, _, hx⟩
  · simp at hcs
    obtain ⟨rfl, rfl, rfl⟩ := hcs
    exact ⟨fun _ => 0, ⟨0, 0, Or.inl (Nat.le_refl _), fun i hi => by omega⟩, Nat.zero_le _, fun _ => ⟨rfl, rfl⟩, Nat.le_refl _⟩
  · simp at hcs
    obtain ⟨rfl, rfl, rfl⟩ := hcs
    have hlm : n ≤ m := by rw [hmm]; split <;> omega
    have each : ∀ i, i < n → ∃ q : Int, W.cell? (a'.add i) = some (.int .i64 q) := by
      intro i hi
      obtain ⟨c0, r0⟩ := hx i (by omega)
      obtain ⟨z, e0, _, _⟩ := DataW.trod_int Tryd.underlying3 r0
      simp at e0
      exact ⟨z, by rw [c0, e0]⟩
    obtain ⟨q, hq⟩ := Go.Deep.choose_lt each
    refine ⟨q, ?_, by omega, fun h => (by cases h), hl⟩
    by_cases h0 : n = 0
    · exact ⟨0, 0, Or.inl (by omega), fun i hi => by omega⟩
    · obtain ⟨b, off, rfl⟩ := plain_of (W := W) (hq 0 (by omega))
      exact ⟨b, off, Or.inr rfl, fun i hi => by have := hq i hi; rwa [add_lit] at this⟩
end

theorem gRes : Tryd.prog.globalNamed "example.com/tessellate/tessellate/internal/inventory.Resources" = some 0 := by kernel_rfl
theorem tRes : (Tryd.prog.globals[0]?).map (·.type) = some 87 := by kernel_rfl

set_option maxRecDepth 100000 in
/-- the listed variable's cells -/
theorem glob_of {W : World} (h : laidMetH Tryd.prog [("example.com/tessellate/tessellate/internal/inventory.Resources", Rows.laid_example_com_tessellate_tessellate_internal_inventory_Resources)] W) : Glob W := by
  rw [MakeChecks.laidMetH_plain _ _ _ (by kernel_rfl)] at h
  obtain ⟨ps, ⟨g0, t0, cs0, f0, p0, q0, hg0, ht0, hv0, hd0, _, _⟩, _⟩ := h
  obtain rfl := Option.some.inj (gRes.symm.trans hg0)
  obtain rfl := Option.some.inj (tRes.symm.trans ht0)
  obtain ⟨xs, m1, rfl, hx1, hlen, hn, hel⟩ := DataW.trod_array Tryd.underlying87 hd0
  have c54 : Tryd.prog.cellsOf 54 = 1 := by kernel_rfl
  have c87 : Tryd.prog.cellsOf 87 = 2 := by kernel_rfl
  have c0 := World.var?_cell hg0 hv0 0
  have c1 := World.var?_cell hg0 hv0 1
  obtain ⟨l⟩ := cs0
  obtain ⟨v0, v1, rfl⟩ : ∃ v0 v1, l = [v0, v1] := by
    rw [c87] at hlen
    match l, hlen with
    | [a, b], _ => exact ⟨a, b, rfl⟩
  obtain ⟨x0, x1, rfl⟩ : ∃ x0 x1, xs = [x0, x1] := by
    match xs, hn with
    | [a, b], _ => exact ⟨a, b, rfl⟩
  have h0 := hel 0 (by decide)
  have h1 := hel 1 (by decide)
  simp only [Prod.mk.injEq, Rows.laid_example_com_tessellate_tessellate_internal_inventory_Resources, DataW.agg.injEq, List.map_cons, List.map_nil, List.cons.injEq, and_true] at hx1
  obtain ⟨k0, e0, f0, _⟩ := DataW.trod_int Tryd.underlying54 (show DataW.trod _ Tryd.prog W 0 _ false m1 54 _ = some x0 from h0)
  obtain ⟨k1, e1, f1, _⟩ := DataW.trod_int Tryd.underlying54 (show DataW.trod _ Tryd.prog W 0 _ false m1 54 _ = some x1 from h1)
  have hk0 : k0 = 0 := by rw [f0] at hx1; simpa using hx1.1.1.symm
  have hk1 : k1 = 1 := by rw [f1] at hx1; simpa using hx1.1.2.symm
  rw [c54] at e0 e1
  simp only [List.drop, List.take, List.cons.injEq, and_true] at e0 e1
  rw [e0, hk0] at c0
  rw [e1, hk1] at c1
  exact ⟨by simpa using c0, by simpa using c1⟩
end Go.Proofs.Qxb6612650aDoor
