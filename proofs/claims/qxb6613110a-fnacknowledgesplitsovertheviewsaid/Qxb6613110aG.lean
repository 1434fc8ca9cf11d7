import Derived.Test.Qxb6613110aF
namespace Go.Proofs.Qxb6613110a
open Go.RowKit

theorem lookF_at (B : Nat → ByteArray) (C : Nat → Int) (m : ByteArray) (r : Nat) (hr : ((B r).toList == m.toList) = true) : ∀ (f k : Nat), k ≤ r → r < k + f → (∀ j, k ≤ j → j < r → ((B j).toList == m.toList) = false) → lookF B C m k f = C r
  | 0, k, h1, h2, _ => by omega
  | f + 1, k, h1, h2, h3 => by
    unfold lookF
    by_cases e : k = r
    · subst e; rw [if_pos hr]
    · rw [if_neg (by rw [h3 k (Nat.le_refl _) (by omega)]; simp)]
      exact lookF_at B C m r hr f (k + 1) (by omega) (by omega) (fun j h4 h5 => h3 j (by omega) h5)
theorem lookF_none (B : Nat → ByteArray) (C : Nat → Int) (m : ByteArray) : ∀ (f k : Nat), (∀ j, k ≤ j → j < k + f → ((B j).toList == m.toList) = false) → lookF B C m k f = 0
  | 0, k, _ => rfl
  | f + 1, k, h3 => by
    unfold lookF
    rw [if_neg (by rw [h3 k (Nat.le_refl _) (by omega)]; simp)]
    exact lookF_none B C m f (k + 1) (fun j h4 h5 => h3 j (by omega) (by omega))

/-- what find hands back tells what look finds -/
theorem look_find {n r : Nat} {B : Nat → ByteArray} (C : Nat → Int) {m : ByteArray} (hok : VecOk n B) (hr : r ≤ n) (hlo : ∀ k, k < r → Op.bytesLess (B k).toList m.toList = true) (hhi : ∀ k, r ≤ k → k < n → Op.bytesLess (B k).toList m.toList = false) :
    (r < n → ((B r).toList == m.toList) = true → lookF B C m 0 n = C r) ∧ ((decide (r < n) && ((B r).toList == m.toList)) = false → lookF B C m 0 n = 0) := by
  refine ⟨fun h1 h2 => lookF_at B C m r h2 n 0 (Nat.zero_le _) (by omega) (fun j _ hj => bl_ne (hlo j hj)), fun h => lookF_none B C m n 0 (fun j _ hj => ?_)⟩
  by_cases e : j < r
  · exact bl_ne (hlo j e)
  · have hrn : r < n := by omega
    have hne : ((B r).toList == m.toList) = false := by simpa [hrn] using h
    by_cases e2 : j = r
    · subst e2; exact hne
    · have h5 : Op.bytesLess m.toList (B r).toList = true := bl_tri' (hhi r (Nat.le_refl _) hrn) hne
      exact bl_ne' (bl_trans h5 (hok.lt j r (by omega) (by omega)))

set_option maxHeartbeats 400000 in
theorem vfind_any (a : Option Addr) (n c : Nat) (B : Nat → ByteArray) (C : Nat → Int) (m : ByteArray) (w : World) (hn : n ≤ 1073741824) (hv : VecAt w a n B C) (hok : VecOk n B) :
    Calls Try.prog 45 #[.slice a n c, .string m] w fun e w' => FindRes n B m e ∧ Below w.heap.size w w' := by
  go_enter Try.func45, Try.ntmps45
  go_wp2_with fail
  refine (searchVE_any a n c B C m _ hn hv hok).mono ?_
  rintro e w2 ⟨⟨r, rfl, hr, hlo, hhi⟩, hb⟩
  have HL : Hid _ := hlo
  have HH : Hid _ := hhi
  clear hlo hhi
  go_wp2
  go_ret2
  exact ⟨⟨r, rfl, hr, HL.out, HH.out⟩, hb⟩

set_option maxHeartbeats 400000 in
theorem vget_any (a : Option Addr) (n c : Nat) (B : Nat → ByteArray) (C : Nat → Int) (m : ByteArray) (w : World) (hn : n ≤ 1073741824) (hv : VecAt w a n B C) (hok : VecOk n B) :
    Calls Try.prog 42 #[.slice a n c, .string m] w fun e w' => e = .returned (.int .u64 (lookF B C m 0 n)) ∧ Below w.heap.size w w' := by
  go_enter Try.func42, Try.ntmps42
  go_wp2_with fail
  refine (vfind_any a n c B C m _ hn hv hok).mono ?_
  rintro e w2 ⟨⟨r, rfl, hr, hlo, hhi⟩, hb⟩
  have HF : Hid _ := look_find C hok hr hlo hhi
  clear hlo hhi
  obtain ⟨b, off, ha, h0, h1⟩ := hv.below hb
  clear hv
  cases hq : (decide (r < n) && ((B r).toList == m.toList))
  · go_wp2
    go_ret
    exact ⟨ret_int (by rw [HF.out.2 hq]), hb⟩
  · have hlt : r < n := by simp at hq; exact hq.1
    have heq : ((B r).toList == m.toList) = true := by simp at hq; simpa using hq.2
    have g1 := h1 r hlt
    have hix := ixAt (c := c) Try.underlying34 sz66 ha r hlt
    clear h0 h1 ha
    have HE : Hid _ := heq
    clear heq
    go_wp2
    go_ret
    exact ⟨ret_int (by rw [HF.out.1 hlt HE.out]), hb⟩
end Go.Proofs.Qxb6613110a
