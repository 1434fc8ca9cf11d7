import Derived.Test.Qxb6613110aU
namespace Go.Proofs.Qxb6613110a
open Go.RowKit

def updB (B : Nat → ByteArray) (p : Nat) (me : ByteArray) (i : Nat) : ByteArray := if i = p then me else B i
def updC (C : Nat → Int) (p : Nat) (cl : Int) (i : Nat) : Int := if i = p then cl else C i

/-- what set leaves where it found the entry -/
def SetUpd (w w' : World) (R A n cap p : Nat) (B : Nat → ByteArray) (C : Nat → Int) (me : ByteArray) (cl : Int) : Prop :=
  w'.cell? ⟨R, 6, none⟩ = some (.slice (some ⟨A, 0, none⟩) n cap) ∧ w'.frozen? ⟨R, 6, none⟩ = false ∧ OwnVec w' A n cap (updB B p me) (updC C p cl) ∧ But (· = A) w w'

theorem OwnVec.at {w : World} {g n cap : Nat} {B : Nat → ByteArray} {C : Nat → Int} (h : OwnVec w g n cap B C) (j : Nat) (hj : j < n * 2) : ∃ v, w.cell? ⟨g, j, none⟩ = some v ∧ w.frozen? ⟨g, j, none⟩ = false := by
  obtain ⟨cur, hh, hn, hm, hs, _⟩ := h
  refine ⟨cur[j]'(by omega), ?_, ?_⟩
  · exact cell_of_heap hh (by simp)
  · simp [World.frozen?, hh]

theorem OwnVec.put {w : World} {g n cap p : Nat} {B : Nat → ByteArray} {C : Nat → Int} (h : OwnVec w g n cap B C) (hp : p < n) (me : ByteArray) (cl : Int) :
    OwnVec ((w.setCell ⟨g, p * 2, none⟩ (.string me)).setCell ⟨g, p * 2 + 1, none⟩ (.int .u64 cl)) g n cap (updB B p me) (updC C p cl) := by
  obtain ⟨cur, hh, hn, hm, hs, hc⟩ := h
  refine ⟨(cur.setIfInBounds (p * 2) (.string me)).setIfInBounds (p * 2 + 1) (.int .u64 cl), heap_setCell_same _ _ _ _ _ _ (heap_setCell_same _ _ _ _ _ _ hh), hn, hm, by simpa using hs, fun i hi => ?_⟩
  by_cases e : i = p
  · subst e
    constructor
    · rw [Array.getElem?_setIfInBounds_ne (by omega), Array.getElem?_setIfInBounds_self_of_lt (by omega)]; simp [updB]
    · rw [Array.getElem?_setIfInBounds_self_of_lt (by simp; omega)]; simp [updC]
  · have := hc i (by omega)
    constructor
    · rw [Array.getElem?_setIfInBounds_ne (by omega), Array.getElem?_setIfInBounds_ne (by omega)]; simpa [updB, e] using this.1
    · rw [Array.getElem?_setIfInBounds_ne (by omega), Array.getElem?_setIfInBounds_ne (by omega)]; simpa [updC, e] using this.2

theorem OwnVec.below {w w' : World} {g n cap : Nat} {B : Nat → ByteArray} {C : Nat → Int} (h : OwnVec w g n cap B C) (hb : Below w.heap.size w w') : OwnVec w' g n cap B C := h.but (But.of_below (S := fun _ => False) hb) (fun h => h)

set_option maxHeartbeats 1000000 in
set_option maxRecDepth 100000 in
theorem set_old (R A n cap p : Nat) (B : Nat → ByteArray) (C : Nat → Int) (me : ByteArray) (cl : Int) (w : World)
    (hcell : w.cell? ⟨R, 6, none⟩ = some (.slice (some ⟨A, 0, none⟩) n cap)) (hfr : w.frozen? ⟨R, 6, none⟩ = false) (hV : OwnVec w A n cap B C) (hok : VecOk n B) (hn : n ≤ 1073741824) (hp : p < n) (heq : (B p).toList = me.toList) (hAR : A ≠ R) :
    Calls Try.prog 41 #[.pointer (some ⟨R, 6, none⟩), .string me, .int .u64 cl] w fun e w' => e = .returned (.tuple #[]) ∧ SetUpd w w' R A n cap p B C me cl := by
  have hq : ((n : Int) == 0) = false := by simp; omega
  have hlt : Op.bytesLess (B (n - 1)).toList me.toList = false := by
    rw [← heq]
    by_cases e : p = n - 1
    · rw [e]; exact bl_irrefl _
    · exact bl_asymm (hok.lt (n - 1) p (by omega) (by omega))
  have HE : Hid _ := heq
  have hv := hV.vec
  obtain ⟨b, off, ha, v0, _⟩ := hV.vec
  have g0 := v0 (n - 1) (by omega)
  have hix := ixAtI (c := cap) Try.underlying34 sz66 ha ((n : Int) - 1) (n - 1) (by omega) (by omega)
  clear heq v0 ha
  go_enter Try.func41, Try.ntmps41
  go_wp2_with fail
  refine (vfind_any _ n cap B C me _ hn hv hok).mono ?_
  rintro e w2 ⟨⟨r, rfl, hr, hlo, hhi⟩, hb⟩
  obtain rfl : r = p := by
    have h1 : ¬ p < r := fun h => by have := hlo p h; rw [HE.out, bl_irrefl] at this; exact absurd this (by simp)
    by_cases e : r = p
    · exact e
    · have h2 := hhi r (Nat.le_refl _) (by omega)
      rw [← HE.out, hok.lt p r (by omega) hp] at h2
      exact absurd h2 (by simp)
  have hhit : (decide (r < n) && ((B r).toList == me.toList)) = true := by simp [hp, HE.out]
  rw [hhit]
  have hV2 := hV.below hb
  have c6 := down hb hcell
  have f6 := downF hb hcell hfr
  obtain ⟨u0, c0, f0⟩ := hV2.at (r * 2) (by omega)
  obtain ⟨u1, c1, f1⟩ := hV2.at (r * 2 + 1) (by omega)
  clear hlo hhi hhit hix g0 hv hcell hfr
  have hne : ¬ A = R := hAR
  go_wp2
  go_end0
  refine ⟨rfl, ?_, ?_, hV2.put hp me cl, ((But.of_below (S := (· = A)) hb).setCell (p := ⟨A, r * 2, none⟩) (Or.inl rfl) _).setCell (p := ⟨A, r * 2 + 1, none⟩) (Or.inl rfl) _⟩
  · rw [World.cell?_setCell_other _ _ _ _ (fun h => hne (by injection h)), World.cell?_setCell_other _ _ _ _ (fun h => hne (by injection h))]; exact c6
  · rw [World.frozen?_setCell, World.frozen?_setCell]; exact f6
end Go.Proofs.Qxb6613110a
