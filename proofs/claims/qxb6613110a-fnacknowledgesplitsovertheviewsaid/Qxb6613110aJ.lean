import Derived.Test.Qxb6613110aI
namespace Go.Proofs.Qxb6613110a
open Go.RowKit

/-- sort.Search's answer is there, and is the only one -/
theorem search_exists (P : Nat → Bool) : ∀ n, (∀ i j, i ≤ j → j < n → P i = true → P j = true) → ∃ r, r ≤ n ∧ (∀ k, k < r → P k = false) ∧ (∀ k, r ≤ k → k < n → P k = true)
  | 0, _ => ⟨0, Nat.le_refl _, fun k hk => by omega, fun k _ hk => by omega⟩
  | n + 1, h => by
    obtain ⟨r, h1, h2, h3⟩ := search_exists P n (fun i j a b c => h i j a (by omega) c)
    cases e : P n
    · have hr : r = n := by
        by_cases hrn : r = n
        · exact hrn
        · have := h r n (by omega) (by omega) (h3 r (Nat.le_refl _) (by omega))
          rw [e] at this; exact absurd this (by simp)
      subst hr
      refine ⟨r + 1, Nat.le_refl _, fun k hk => ?_, fun k _ hk => by omega⟩
      by_cases hk2 : k = r
      · subst hk2; exact e
      · exact h2 k (by omega)
    · refine ⟨r, by omega, h2, fun k hk1 hk2 => ?_⟩
      by_cases hk3 : k = n
      · subst hk3; exact e
      · exact h3 k hk1 (by omega)

theorem search_unique {P : Nat → Bool} {n r s : Nat} (hr : r ≤ n) (h2 : ∀ k, k < r → P k = false) (h3 : ∀ k, r ≤ k → k < n → P k = true) (hs : s ≤ n) (k2 : ∀ k, k < s → P k = false) (k3 : ∀ k, s ≤ k → k < n → P k = true) : s = r := by
  by_cases h : s < r
  · have e1 := h2 s h
    have e2 := k3 s (Nat.le_refl _) (by omega)
    rw [e1] at e2; exact absurd e2 (by simp)
  · by_cases h' : r < s
    · have e1 := k2 r h'
      have e2 := h3 r (Nat.le_refl _) (by omega)
      rw [e1] at e2; exact absurd e2 (by simp)
    · omega

theorem search48_at (n r : Nat) (P : Nat → Bool) (p1 p2 p3 : Value) (w : World) (hn : n ≤ 1073741824) (hmono : ∀ i j, i ≤ j → j < n → P i = true → P j = true)
    (hr : r ≤ n) (h2 : ∀ k, k < r → P k = false) (h3 : ∀ k, r ≤ k → k < n → P k = true)
    (hf : ∀ i, i < n → ∀ w', Below w.heap.size w w' → Calls Try.prog 48 #[.int .i64 i, p1, p2, p3] w' fun e w'' => e = .returned (.bool (P i)) ∧ Below w'.heap.size w' w'') :
    Calls Try.prog 47 #[.int .i64 n, .func (.func 48) #[] #[p1, p2, p3]] w fun e w' => e = .returned (.int .i64 r) ∧ Below w.heap.size w w' := by
  refine (search48_any n P p1 p2 p3 w hn hmono hf).mono ?_
  rintro e w' ⟨⟨s, rfl, hs, k2, k3⟩, hb⟩
  rw [search_unique hr h2 h3 hs k2 k3]
  exact ⟨rfl, hb⟩

theorem findRes_at {n x : Nat} {B : Nat → ByteArray} {m : ByteArray} (hok : VecOk n B) (hlt : x < n) (heq : ((B x).toList == m.toList) = true) :
    FindRes n B m (.returned (.tuple #[.int .i64 x, .bool true])) := by
  have he : (B x).toList = m.toList := by simpa using heq
  refine ⟨x, by rw [heq]; simp [hlt], by omega, fun k hk => ?_, fun k h1 h2 => ?_⟩
  · rw [← he]; exact hok.lt x k hk hlt
  · rw [← he]
    by_cases e : k = x
    · subst e; exact bl_irrefl _
    · exact bl_asymm (hok.lt k x (by omega) h2)

/-- the bracket's search in the walk -/
theorem findRes_bracket {n lo hi r : Nat} {B : Nat → ByteArray} {m : ByteArray} (hok : VecOk n B) (hlo : ∀ k, k < lo → Op.bytesLess (B k).toList m.toList = true) (hlh : lo ≤ hi) (hhn : hi ≤ n)
    (hend : hi < n → lo < hi ∧ Op.bytesLess (B (hi - 1)).toList m.toList = false) (hr : r ≤ hi - lo) (h2 : ∀ k, k < r → (!Op.bytesLess (B (lo + k)).toList m.toList) = false)
    (h3 : ∀ k, r ≤ k → k < hi - lo → (!Op.bytesLess (B (lo + k)).toList m.toList) = true) (q : Bool) (hq : q = (decide (lo + r < n) && ((B (lo + r)).toList == m.toList))) :
    FindRes n B m (.returned (.tuple #[.int .i64 ((lo : Int) + (r : Int)), .bool q])) := by
  refine ⟨lo + r, by rw [hq]; rfl, by omega, fun k hk => ?_, fun k hk1 hk2 => ?_⟩
  · by_cases e : k < lo
    · exact hlo k e
    · have := h2 (k - lo) (by omega)
      rw [show lo + (k - lo) = k from by omega] at this
      simpa using this
  · by_cases e : k < hi
    · have := h3 (k - lo) (by omega) (by omega)
      rw [show lo + (k - lo) = k from by omega] at this
      simpa using this
    · have := hend (by omega)
      have h4 := hok.lt k (hi - 1) (by omega) hk2
      exact bl_le_lt this.2 h4
end Go.Proofs.Qxb6613110a
