import Derived.Test.Qxb6612650aDoorP
namespace Go.Proofs.Qxb6612650aDoor
open Go.RowKit

theorem inU_split (U : Nat → Int) (k i : Nat) : ∀ j, inU U (k + j) i = (inU U k i || inU (fun x => U (k + x)) j i) := by
  intro j
  induction j with
  | zero => simp [inU]
  | succ j ih =>
    show (inU U (k + j) i || (U (k + j) == (i : Int))) = (inU U k i || (inU (fun x => U (k + x)) j i || (U (k + j) == (i : Int))))
    rw [ih, Bool.or_assoc]
theorem clr_clr (c : Nat → Nat → Nat) (r : Nat) (U : Nat → Int) (k m : Nat) (hk : k ≤ m) : clr (clr c r U k) r (fun x => U (k + x)) (m - k) = clr c r U m := by
  funext q i
  have := inU_split U k i (m - k)
  rw [show k + (m - k) = m from by omega] at this
  simp only [clr, this]
  by_cases h1 : q = r
  · cases inU U k i <;> cases inU (fun x => U (k + x)) (m - k) i <;> simp [h1]
  · simp [h1]
theorem updI_updI (F : Nat → Int) (r : Nat) (x y : Int) : updI (updI F r x) r y = updI F r (x + y) := by
  funext q
  simp only [updI]
  by_cases h : q = r
  · simp [h]; omega
  · simp [h]
theorem updI_zero (F : Nat → Int) (r : Nat) : updI F r 0 = F := by
  funext q
  simp only [updI]
  by_cases h : q = r
  · simp [h]
  · simp [h]
theorem hold_clr {n0 n1 m : Nat} {C0 C1 U : Nat → Int} {r : Nat} (hr : r < 2) (hU : Units (pick2 C0 C1 r) (pick2 n0 n1 r) m U) (k : Nat) (hk : k ≤ m) :
    hold (pick2 n0 n1) (clr (fun q i => rl (pick2 C0 C1 q i)) r U k) = decide (k < cnt (is1 C0) n0 + cnt (is1 C1) n1) ∧ m ≤ cnt (is1 C0) n0 + cnt (is1 C1) n1 := by
  have h1 := cnt_clr hU (fun q i => rl (pick2 C0 C1 q i)) r (fun i => rfl) k hk
  have h3 := cnt_clr hU (fun q i => rl (pick2 C0 C1 q i)) r (fun i => rfl) m (Nat.le_refl _)
  have h2 : ∀ q, q ≠ r → (q = 0 ∨ q = 1) → cnt (fun i => clr (fun q i => rl (pick2 C0 C1 q i)) r U k q i == 1) (pick2 n0 n1 q) = cnt (is1 (pick2 C0 C1 q)) (pick2 n0 n1 q) := fun q hq _ => cnt_congr _ _ _ fun i _ => by
    rw [Bool.eq_iff_iff]
    simp only [clr, hq, false_and, if_false, rl, is1, beq_iff_eq]
    by_cases e1 : pick2 C0 C1 q i = 1
    · simp [e1]
    · by_cases e2 : pick2 C0 C1 q i = 2
      · simp [e2]
      · simp [e1, e2]
  unfold hold
  rcases (by omega : r = 0 ∨ r = 1) with rfl | rfl
  · have e := h2 1 (by omega) (Or.inr rfl)
    rw [e]
    simp only [pick2, if_true, Nat.one_ne_zero, if_false] at h1 h3 ⊢
    refine ⟨?_, by omega⟩
    rw [Bool.eq_iff_iff]; simp only [decide_eq_true_iff]; omega
  · have e := h2 0 (by omega) (Or.inl rfl)
    rw [e]
    simp only [pick2, if_true, Nat.one_ne_zero, if_false] at h1 h3 ⊢
    refine ⟨?_, by omega⟩
    rw [Bool.eq_iff_iff]; simp only [decide_eq_true_iff]; omega

/-- taking back in two pieces is taking back at once -/
theorem split_law {n0 n1 m : Nat} {C0 C1 U : Nat → Int} {sW aO : Bool} {r : Nat} (hr : r < 2) (hU : Units (pick2 C0 C1 r) (pick2 n0 n1 r) m U) (k : Nat) (hk : k ≤ m) :
    tkA (pick2 n0 n1) (tkA (pick2 n0 n1) (startA n0 n1 C0 C1 sW aO) r U k) r (fun x => U (k + x)) (m - k) = tkA (pick2 n0 n1) (startA n0 n1 C0 C1 sW aO) r U m ∧
    tkE (pick2 n0 n1) (tkA (pick2 n0 n1) (startA n0 n1 C0 C1 sW aO) r U k) r (fun x => U (k + x)) (m - k) = tkE (pick2 n0 n1) (startA n0 n1 C0 C1 sW aO) r U m ∧
    (∀ j, j ≤ m → tkE (pick2 n0 n1) (startA n0 n1 C0 C1 sW aO) r U j = (!decide (j < cnt (is1 C0) n0 + cnt (is1 C1) n1) && !aO)) ∧
    m ≤ cnt (is1 C0) n0 + cnt (is1 C1) n1 ∧
    (tkA (pick2 n0 n1) (startA n0 n1 C0 C1 sW aO) r U m).F r = (startA n0 n1 C0 C1 sW aO).F r + m := by
  have hc : (startA n0 n1 C0 C1 sW aO).c = fun q i => rl (pick2 C0 C1 q i) := rfl
  have hle := (hold_clr hr hU 0 (Nat.zero_le _)).2
  have hh : ∀ j, j ≤ m → hold (pick2 n0 n1) (clr (startA n0 n1 C0 C1 sW aO).c r U j) = decide (j < cnt (is1 C0) n0 + cnt (is1 C1) n1) := fun j hj => (hold_clr hr hU j hj).1
  have hE : ∀ j, j ≤ m → tkE (pick2 n0 n1) (startA n0 n1 C0 C1 sW aO) r U j = (!decide (j < cnt (is1 C0) n0 + cnt (is1 C1) n1) && !aO) := fun j hj => by
    unfold tkE; rw [hh j hj]; rfl
  have hF : (tkA (pick2 n0 n1) (startA n0 n1 C0 C1 sW aO) r U m).F r = (startA n0 n1 C0 C1 sW aO).F r + m := by
    unfold tkA
    split <;> simp [mid, updI]
  generalize startA n0 n1 C0 C1 sW aO = A at *
  have hmid : mid (mid A r U k) r (fun x => U (k + x)) (m - k) = mid A r U m := by
    simp only [mid, clr_clr A.c r U k m hk, updI_updI]
    have e1 : (k : Int) + ((m - k : Nat) : Int) = (m : Int) := by omega
    have e2 : -(k : Int) + -((m - k : Nat) : Int) = -(m : Int) := by omega
    rw [e1, e2]
  by_cases hlt : k < cnt (is1 C0) n0 + cnt (is1 C1) n1
  · have ek : tkA (pick2 n0 n1) A r U k = mid A r U k := by
      unfold tkA; rw [if_pos (by rw [hh k hk]; simpa using hlt)]
    rw [ek]
    have hc2 : clr (mid A r U k).c r (fun x => U (k + x)) (m - k) = clr A.c r U m := clr_clr A.c r U k m hk
    refine ⟨?_, ?_, hE, hle, hF⟩
    · unfold tkA
      rw [hc2, hmid]
      rfl
    · unfold tkE
      rw [hc2]
      rfl
  · have hkm : k = m := by omega
    subst hkm
    have hfalse : hold (pick2 n0 n1) (clr A.c r U k) = false := by rw [hh k hk]; simpa using hlt
    have ek : tkA (pick2 n0 n1) A r U k = { mid A r U k with gOn := false, W := A.W && !A.sW, sOn := A.sOn && A.hOn } := by
      unfold tkA; rw [if_neg (by rw [hfalse]; simp)]
    have hc2 : clr (tkA (pick2 n0 n1) A r U k).c r (fun x => U (k + x)) (k - k) = clr A.c r U k := by
      rw [ek, Nat.sub_self, clr_zero]; rfl
    refine ⟨?_, ?_, hE, hle, hF⟩
    · rw [show tkA (pick2 n0 n1) (tkA (pick2 n0 n1) A r U k) r (fun x => U (k + x)) (k - k) = { mid (tkA (pick2 n0 n1) A r U k) r (fun x => U (k + x)) (k - k) with gOn := false, W := (tkA (pick2 n0 n1) A r U k).W && !(tkA (pick2 n0 n1) A r U k).sW, sOn := (tkA (pick2 n0 n1) A r U k).sOn && (tkA (pick2 n0 n1) A r U k).hOn } from by
        rw [tkA, hc2, if_neg (by rw [hfalse]; simp)]]
      rw [ek]
      simp only [mid, Nat.sub_self, clr_zero, Int.natCast_zero, Int.neg_zero, updI_zero]
      cases A.W <;> cases A.sW <;> cases A.sOn <;> cases A.hOn <;> rfl
    · unfold tkE
      rw [hc2, ek]
      rfl
end Go.Proofs.Qxb6612650aDoor
