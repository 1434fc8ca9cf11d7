import Derived.Test.Qxb6613110aBase
namespace Go.Proofs.Qxb6613110a
open Go.RowKit

theorem bl_eq : ∀ (x y : List UInt8), Op.bytesLess x y = decide (x < y)
  | _, [] => by simp [Op.bytesLess]
  | [], _ :: _ => by simp [Op.bytesLess]
  | a :: x, b :: y => by
    rw [Op.bytesLess, bl_eq x y]
    simp only [List.cons_lt_cons_iff]
    by_cases h1 : a < b <;> by_cases h2 : a = b <;> by_cases h3 : x < y <;> simp [h1, h2, h3]

theorem bl_trans {x y z : List UInt8} (h1 : Op.bytesLess x y = true) (h2 : Op.bytesLess y z = true) : Op.bytesLess x z = true := by
  rw [bl_eq] at *
  simp only [decide_eq_true_eq] at *
  exact List.lt_trans h1 h2
theorem bl_irrefl (x : List UInt8) : Op.bytesLess x x = false := by
  rw [bl_eq]; simp [List.lt_irrefl]
theorem bl_asymm {x y : List UInt8} (h : Op.bytesLess x y = true) : Op.bytesLess y x = false := by
  cases e : Op.bytesLess y x
  · rfl
  · have := bl_trans h e
    rw [bl_irrefl] at this; exact absurd this (by simp)
theorem bl_ne {x y : List UInt8} (h : Op.bytesLess x y = true) : (x == y) = false := by
  rw [beq_eq_false_iff_ne]; rintro rfl
  rw [bl_irrefl] at h; exact absurd h (by simp)
theorem bl_ne' {x y : List UInt8} (h : Op.bytesLess x y = true) : (y == x) = false := by
  rw [beq_eq_false_iff_ne]; rintro rfl
  rw [bl_irrefl] at h; exact absurd h (by simp)
/-- neither less: the same -/
theorem bl_tri {x y : List UInt8} (h1 : Op.bytesLess x y = false) (h2 : Op.bytesLess y x = false) : x = y := by
  rw [bl_eq] at h1 h2
  simp only [decide_eq_false_iff_not] at h1 h2
  exact List.le_antisymm (List.not_lt.1 h2) (List.not_lt.1 h1)
theorem bl_tri' {x y : List UInt8} (h1 : Op.bytesLess x y = false) (h2 : (x == y) = false) : Op.bytesLess y x = true := by
  cases e : Op.bytesLess y x
  · rw [bl_tri h1 e] at h2; simp at h2
  · rfl
/-- not less, and the greater is less than a third: the third is not less -/
theorem bl_le_lt {x y m : List UInt8} (h1 : Op.bytesLess x m = false) (h2 : Op.bytesLess x y = true) : Op.bytesLess y m = false := by
  cases e : Op.bytesLess y m
  · rfl
  · rw [bl_trans h2 e] at h1; exact absurd h1 (by simp)

theorem VecOk.lt {n : Nat} {B : Nat → ByteArray} (h : VecOk n B) : ∀ j i, i < j → j < n → Op.bytesLess (B i).toList (B j).toList = true
  | 0, i, h1, _ => by omega
  | j + 1, i, h1, h2 => by
    by_cases e : i = j
    · subst e; exact h i h2
    · exact bl_trans (VecOk.lt h j i (by omega) (by omega)) (h j h2)

/-- 'not before m' goes up -/
theorem VecOk.mono {n : Nat} {B : Nat → ByteArray} (h : VecOk n B) (m : ByteArray) : ∀ i j, i ≤ j → j < n → (!Op.bytesLess (B i).toList m.toList) = true → (!Op.bytesLess (B j).toList m.toList) = true := by
  intro i j h1 h2 h3
  by_cases e : i = j
  · subst e; exact h3
  · have := bl_le_lt (by simpa using h3) (h.lt j i (by omega) h2)
    simpa using this
end Go.Proofs.Qxb6613110a
