import Derived.Test.Qxb6612650aDoorL
import Derived.Test.Qxb6612650aDoorC1
namespace Go.Proofs.Qxb6612650aDoor
open Go.RowKit

set_option maxHeartbeats 400000 in
theorem zzTakeBack_any (B : TB) (N : Nat → Nat) (A : AS) (r m c ch : Nat) (a : Option Addr) (U : Nat → Int) (w : World) (hm : ∀ q, q < 2 → N q ≤ 32768) (hmm : m ≤ 32768) (hr : r < 2) (h : StAt w B N A) (hCh : ChanAt w B.n ch) (hG : Glob w)
    (hU : IntsAt w a m U) (hin : ∀ i, i < m → 0 ≤ U i ∧ U i < N r) (hoff : ∀ x, a = some x → x.block ∉ B.blocks) (hg0 : 0 ∉ B.blocks) (hx : ∀ b, B.h = some b → b ∉ B.blocks)
    (hF : 0 ≤ A.F r ∧ A.F r ≤ 100000) (hH : -100000 ≤ A.H r ∧ A.H r ≤ 100000) :
    Calls Tryd.prog 9 #[.pointer (some ⟨B.n, 0, none⟩), .pointer (some ⟨B.s, 0, none⟩), .pointer (some ⟨B.g, 0, none⟩), .int .i64 r, .slice a m c] w fun e w' =>
      e = .returned (.bool (tkE N A r U m)) ∧ StAt w' B N (tkA N A r U m) ∧ ChanLater w w' B.n ch ∧ But (Fr B.blocks ch w) w w' := by
  have K : Hid (Calls Tryd.prog 24 #[.pointer (some ⟨B.n, 0, none⟩), .pointer (some ⟨B.s, 0, none⟩), .pointer (some ⟨B.g, 0, none⟩), .int .i64 r, .slice a m c] w fun e w' =>
      e = .returned (.bool (tkE N A r U m)) ∧ StAt w' B N (tkA N A r U m) ∧ ChanLater w w' B.n ch ∧ But (Fr B.blocks ch w) w w') := takeBack_any B N A r m c ch a U w hm hmm hr h hCh hG hU hin hoff hg0 hx hF hH
  clear hm hmm h hCh hG hU hin hoff hg0 hx hF hH
  go_enter Tryd.func9, Tryd.ntmps9
  go_wp2_with fail
  refine Calls.mono K.out ?_
  rintro e w' ⟨rfl, h1, h2, h3⟩
  have H : Hid (StAt w' B N (tkA N A r U m) ∧ ChanLater w w' B.n ch ∧ But (Fr B.blocks ch w) w w') := ⟨h1, h2, h3⟩
  clear K h1 h2 h3
  go_wp2
  go_ret
  exact ⟨rfl, H.out⟩

/-! the plain law -/
theorem cnt_drop (p q : Nat → Bool) (z n : Nat) (hz : z < n) (hpz : p z = true) (hqz : q z = false) (h : ∀ i, i ≠ z → q i = p i) : cnt q n + 1 = cnt p n := by
  induction n with
  | zero => omega
  | succ k ih =>
    by_cases e : z = k
    · subst e
      rw [cnt_step p z hpz, cnt_stay q z hqz]
      congr 1
      have : ∀ m, m ≤ z → cnt q m = cnt p m := by
        intro m hm
        induction m with
        | zero => rfl
        | succ j ihj => unfold cnt; rw [ihj (by omega), h j (by omega)]
      exact this z (Nat.le_refl _)
    · unfold cnt
      rw [h k (by omega)]
      have := ih (by omega)
      omega
theorem cnt_congr (p q : Nat → Bool) (n : Nat) (h : ∀ i, i < n → q i = p i) : cnt q n = cnt p n := by
  induction n with
  | zero => rfl
  | succ k ih => unfold cnt; rw [ih (fun i hi => h i (by omega)), h k (by omega)]

/-- s's units left of r behind m that were taken back -/
theorem cnt_clr {C : Nat → Int} {n m : Nat} {U : Nat → Int} (hU : Units C n m U) (c : Nat → Nat → Nat) (r : Nat) (hc : ∀ i, c r i = rl (C i)) : ∀ k, k ≤ m → cnt (fun i => clr c r U k r i == 1) n + k = cnt (is1 C) n := by
  intro k
  induction k with
  | zero =>
    intro _
    rw [clr_zero, Nat.add_zero]
    exact cnt_congr _ _ _ fun i _ => by
      rw [hc i, Bool.eq_iff_iff]
      simp only [rl, is1, beq_iff_eq]
      by_cases h1 : C i = 1
      · simp [h1]
      · by_cases h2 : C i = 2
        · simp [h2]
        · simp [h1, h2]
  | succ k ih =>
    intro hk
    have := ih (by omega)
    have l := hU.lo k (by omega)
    have l2 := hU.hi k (by omega)
    obtain ⟨z, hz⟩ : ∃ z : Nat, U k = (z : Int) := ⟨(U k).toNat, by omega⟩
    have h1 : C z = 1 := by have := hU.one k (by omega); rw [hz] at this; simpa using this
    have hnot : inU U k z = false := by
      cases e : inU U k z
      · rfl
      · obtain ⟨j, hj, hj2⟩ := (inU_iff U k z).1 e
        exact absurd (hj2.trans hz.symm) (hU.dis j k hj (by omega))
    rw [← clr_step c r U k z hz]
    have := cnt_drop (fun i => clr c r U k r i == 1) (fun i => put0 (clr c r U k) r z r i == 1) z n (by omega) (by simp [clr, hnot, hc, rl, h1]) (by simp [put0]) (fun i hi => by simp [put0, hi])
    omega
end Go.Proofs.Qxb6612650aDoor
