import Derived.Test.Qxb6613110aD
namespace Go.Proofs.Qxb6613110a
open Go.RowKit

/-- what sort.Search hands back -/
def SearchRes (n : Nat) (P : Nat → Bool) (e : Ending) : Prop := ∃ r : Nat, e = .returned (.int .i64 r) ∧ r ≤ n ∧ (∀ k, k < r → P k = false) ∧ (∀ k, r ≤ k → k < n → P k = true)

theorem search_lo {n x y h : Nat} {P : Nat → Bool} (hmono : ∀ i j, i ≤ j → j < n → P i = true → P j = true) (hr : (∀ k, k < x → P k = false) ∧ (∀ k, y ≤ k → k < n → P k = true)) (hp : P h = false) (hn : h < n) :
    Hid ((∀ k, k < h + 1 → P k = false) ∧ (∀ k, y ≤ k → k < n → P k = true)) := by
  refine ⟨fun k hk => ?_, hr.2⟩
  cases e : P k
  · rfl
  · have := hmono k h (by omega) hn e
    rw [hp] at this; exact absurd this (by simp)
theorem search_hi {n x y h : Nat} {P : Nat → Bool} (hmono : ∀ i j, i ≤ j → j < n → P i = true → P j = true) (hr : (∀ k, k < x → P k = false) ∧ (∀ k, y ≤ k → k < n → P k = true)) (hp : P h = true) :
    Hid ((∀ k, k < x → P k = false) ∧ (∀ k, h ≤ k → k < n → P k = true)) :=
  ⟨hr.1, fun k h1 h2 => hmono h k h1 h2 hp⟩

set_option maxHeartbeats 400000 in
theorem search49_any (n : Nat) (P : Nat → Bool) (p1 p2 : Value) (w : World) (hn : n ≤ 1073741824) (hmono : ∀ i j, i ≤ j → j < n → P i = true → P j = true)
    (hf : ∀ i, i < n → ∀ w', Below w.heap.size w w' → Calls Try.prog 49 #[.int .i64 i, p1, p2] w' fun e w'' => e = .returned (.bool (P i)) ∧ Below w'.heap.size w' w'') :
    Calls Try.prog 47 #[.int .i64 n, .func (.func 49) #[] #[p1, p2]] w fun e w' => SearchRes n P e ∧ Below w.heap.size w w' := by
  have HM : Hid _ := hmono
  have HF : Hid _ := hf
  clear hmono hf
  go_enter Try.func47, Try.ntmps47
  go_wp2_with fail
  go_loopw [5, 6] (fun i j wr => ∃ x y : Nat, x ≤ y ∧ y ≤ n ∧ i = .int .i64 x ∧ j = .int .i64 y ∧ Hid ((∀ k, k < x → P k = false) ∧ (∀ k, y ≤ k → k < n → P k = true)) ∧ Below w.heap.size w wr) (fun i j _ => (intOf j - intOf i).toNat)
  case atStart => exact ⟨0, n, Nat.zero_le _, Nat.le_refl _, rfl, rfl, ⟨fun k hk => by omega, fun k h1 h2 => by omega⟩, Below.refl _ _⟩
  case round =>
    obtain ⟨x, y, hxy, hyn, rfl, rfl, HR, hb⟩ := hrel
    by_cases hlt : x < y
    · go_wp2_with fail
      obtain ⟨h, hh⟩ : ∃ h : Nat, h = (x + y) / 2 := ⟨_, rfl⟩
      rw [show ((x : Int) + (y : Int)) / 2 = (h : Int) from by omega]
      have hxh : x ≤ h := by omega
      have hhy : h < y := by omega
      clear hh
      refine (HF.out h (by omega) _ hb).mono ?_
      rintro e w2 ⟨rfl, hb2⟩
      have hb3 : Below w.heap.size w w2 := hb.trans (hb2.mono hb.size)
      clear hb2
      cases hp : P h
      · go_wp2
        go_roundw
        case rel => exact ⟨h + 1, y, by omega, hyn, by go_num, rfl, search_lo HM.out HR.out hp (by omega), hb3⟩
        case measure => simp [intOf]; omega
      · go_wp2
        go_roundw
        case rel => exact ⟨x, h, by omega, by omega, rfl, by go_num, search_hi HM.out HR.out hp, hb3⟩
        case measure => simp [intOf]; omega
    · go_wp2
      go_ret
      exact ⟨⟨x, rfl, by omega, HR.out.1, fun k h1 h2 => HR.out.2 k (by omega) h2⟩, hb⟩

set_option maxHeartbeats 400000 in
theorem search48_any (n : Nat) (P : Nat → Bool) (p1 p2 p3 : Value) (w : World) (hn : n ≤ 1073741824) (hmono : ∀ i j, i ≤ j → j < n → P i = true → P j = true)
    (hf : ∀ i, i < n → ∀ w', Below w.heap.size w w' → Calls Try.prog 48 #[.int .i64 i, p1, p2, p3] w' fun e w'' => e = .returned (.bool (P i)) ∧ Below w'.heap.size w' w'') :
    Calls Try.prog 47 #[.int .i64 n, .func (.func 48) #[] #[p1, p2, p3]] w fun e w' => SearchRes n P e ∧ Below w.heap.size w w' := by
  have HM : Hid _ := hmono
  have HF : Hid _ := hf
  clear hmono hf
  go_enter Try.func47, Try.ntmps47
  go_wp2_with fail
  go_loopw [5, 6] (fun i j wr => ∃ x y : Nat, x ≤ y ∧ y ≤ n ∧ i = .int .i64 x ∧ j = .int .i64 y ∧ Hid ((∀ k, k < x → P k = false) ∧ (∀ k, y ≤ k → k < n → P k = true)) ∧ Below w.heap.size w wr) (fun i j _ => (intOf j - intOf i).toNat)
  case atStart => exact ⟨0, n, Nat.zero_le _, Nat.le_refl _, rfl, rfl, ⟨fun k hk => by omega, fun k h1 h2 => by omega⟩, Below.refl _ _⟩
  case round =>
    obtain ⟨x, y, hxy, hyn, rfl, rfl, HR, hb⟩ := hrel
    by_cases hlt : x < y
    · go_wp2_with fail
      obtain ⟨h, hh⟩ : ∃ h : Nat, h = (x + y) / 2 := ⟨_, rfl⟩
      rw [show ((x : Int) + (y : Int)) / 2 = (h : Int) from by omega]
      have hxh : x ≤ h := by omega
      have hhy : h < y := by omega
      clear hh
      refine (HF.out h (by omega) _ hb).mono ?_
      rintro e w2 ⟨rfl, hb2⟩
      have hb3 : Below w.heap.size w w2 := hb.trans (hb2.mono hb.size)
      clear hb2
      cases hp : P h
      · go_wp2
        go_roundw
        case rel => exact ⟨h + 1, y, by omega, hyn, by go_num, rfl, search_lo HM.out HR.out hp (by omega), hb3⟩
        case measure => simp [intOf]; omega
      · go_wp2
        go_roundw
        case rel => exact ⟨x, h, by omega, by omega, rfl, by go_num, search_hi HM.out HR.out hp, hb3⟩
        case measure => simp [intOf]; omega
    · go_wp2
      go_ret
      exact ⟨⟨x, rfl, by omega, HR.out.1, fun k h1 h2 => HR.out.2 k (by omega) h2⟩, hb⟩
end Go.Proofs.Qxb6613110a
