import Derived.Test.Qxb6613110aBase
namespace Go.Proofs.Qxb6613110a
open Go.RowKit

set_option maxHeartbeats 400000 in
theorem counted_any (id st : ByteArray) (inc sd gone : Int) (su : Bool) (w : World) :
    Calls Try.prog 15 #[.agg #[.string id, .string st, .int .u64 inc, .bool su, .int .u64 sd, .int .u64 gone]] w fun e w' => e = .returned (.bool (cntB st gone)) ∧ Below w.heap.size w w' := by
  cases h1 : (st.toList == [109, 101, 109, 98, 101, 114])
  · cases h2 : (st.toList == [102, 97, 105, 108, 101, 100])
    · go_enter Try.func15, Try.ntmps15
      go_wp2
      go_ret
      exact ⟨by simp [cntB, h1, h2], (Below.refl _ _).alloc (Nat.le_refl _) _⟩
    · go_enter Try.func15, Try.ntmps15
      go_wp2
      go_ret
      exact ⟨by simp [cntB, h1, h2], (Below.refl _ _).alloc (Nat.le_refl _) _⟩
  · go_enter Try.func15, Try.ntmps15
    go_wp2
    go_ret
    exact ⟨by simp [cntB, h1], (Below.refl _ _).alloc (Nat.le_refl _) _⟩

set_option maxHeartbeats 400000 in
theorem vecOK_any (a : Option Addr) (n c : Nat) (B : Nat → ByteArray) (C : Nat → Int) (w : World) (hm : n ≤ maxLen) (hv : VecAt w a n B C) :
    Calls Try.prog 12 #[.slice a n c] w fun e w' => OkRes e (VecOk n B) ∧ Below w.heap.size w w' := by
  unfold maxLen at hm
  obtain ⟨b, off, ha, h0, h1⟩ := hv
  clear h1
  rcases ha with ha | rfl
  all_goals
    go_enter Try.func12, Try.ntmps12
    go_wp2
    go_loopw [3] (fun i wr => ∃ k : Nat, (k ≤ n ∨ k = 1) ∧ 1 ≤ k ∧ i = .int .i64 k ∧ (∀ j, j + 1 < k → Op.bytesLess (B j).toList (B (j + 1)).toList = true) ∧ Below w.heap.size w wr) (fun i _ => n - (intOf i).toNat)
    case atStart => exact ⟨1, Or.inr rfl, Nat.le_refl _, rfl, fun j hj => by omega, Below.refl _ _⟩
    case round =>
      obtain ⟨k, hk, hk1, rfl, hj, hb⟩ := hrel
      have HJ : Hid (∀ j, j + 1 < k → Op.bytesLess (B j).toList (B (j + 1)).toList = true) := hj
      clear hj
      by_cases hlt : k < n
      · first
        | (exfalso; omega)
        | (have g0 := h0 k hlt
           have g1 := h0 (k - 1) (by omega)
           have q0 := (hb.cell (lt_of_cell g0)).trans g0
           have q1 := (hb.cell (lt_of_cell g1)).trans g1
           have hkk : (0 : Int) ≤ (k : Int) - 1 := by omega
           have hkn : (k : Int) - 1 < n := by omega
           clear h0 g0 g1 hk
           go_wp2
           go_quiet (fail)
           go_wp2
           · go_ret
             exact ⟨okRes_no, below_drewN hb _⟩
           · have hl : (!Op.bytesLess (B (k - 1)).toList (B k).toList) = false := by assumption
             go_roundw
             case rel =>
               refine ⟨k + 1, Or.inl (by omega), by omega, by go_num, ?_, below_drewN hb _⟩
               intro j hj
               by_cases hjk : j + 1 < k
               · exact HJ.out j hjk
               · have e : j = k - 1 := by omega
                 subst e
                 rw [show k - 1 + 1 = k from by omega]
                 simpa using hl
             case measure => simp [intOf]; omega)
      · go_wp2
        go_ret
        exact ⟨okRes_yes fun i hi => HJ.out i (by omega), hb⟩

theorem okStep {V : VRow} {k : Nat} (h : (∀ i, i < k → (V.id i).toList.isEmpty = false) ∧ (∀ j, j + 1 < k → Op.bytesLess (V.id j).toList (V.id (j + 1)).toList = true))
    (he : (V.id k).toList.isEmpty = false) (hl : 0 < k → Op.bytesLess (V.id (k - 1)).toList (V.id k).toList = true) :
    (∀ i, i < k + 1 → (V.id i).toList.isEmpty = false) ∧ (∀ j, j + 1 < k + 1 → Op.bytesLess (V.id j).toList (V.id (j + 1)).toList = true) := by
  refine ⟨fun i hi => ?_, fun j hj => ?_⟩
  · by_cases e : i = k
    · subst e; exact he
    · exact h.1 i (by omega)
  · by_cases e : j + 1 < k
    · exact h.2 j e
    · have e : j = k - 1 := by omega
      subst e
      rw [show k - 1 + 1 = k from by omega]
      exact hl (by omega)

set_option maxHeartbeats 400000 in
theorem viewOK_any (a : Option Addr) (n c : Nat) (V : VRow) (w : World) (hm : n ≤ maxLen) (hv : ViewAt w a n V) :
    Calls Try.prog 11 #[.slice a n c] w fun e w' => OkRes e (ViewOk n V) ∧ Below w.heap.size w w' := by
  unfold maxLen at hm
  obtain ⟨b, off, ha, h0, h1⟩ := hv
  clear h1
  rcases ha with ha | rfl
  all_goals
    go_enter Try.func11, Try.ntmps11
    go_wp2
    go_loopw [3] (fun i wr => ∃ k : Nat, k ≤ n ∧ i = .int .i64 k ∧ Hid ((∀ i, i < k → (V.id i).toList.isEmpty = false) ∧ (∀ j, j + 1 < k → Op.bytesLess (V.id j).toList (V.id (j + 1)).toList = true)) ∧ Below w.heap.size w wr) (fun i _ => n - (intOf i).toNat)
    case atStart => exact ⟨0, Nat.zero_le _, rfl, ⟨fun j hj => by omega, fun j hj => by omega⟩, Below.refl _ _⟩
    case round =>
      obtain ⟨k, hk, rfl, HJ, hb⟩ := hrel
      by_cases hlt : k < n
      · first
        | (exfalso; omega)
        | (have g0 := h0 k hlt
           have q0 := (hb.cell (lt_of_cell g0)).trans g0
           by_cases hk0 : 0 < k
           · have g1 := h0 (k - 1) (by omega)
             have q1 := (hb.cell (lt_of_cell g1)).trans g1
             have hkk : (0 : Int) ≤ (k : Int) - 1 := by omega
             have hkn : (k : Int) - 1 < n := by omega
             have hkp : (0 : Int) < (k : Int) := by omega
             clear h0 g0 g1
             go_wp2
             · go_ret
               exact ⟨okRes_no, hb⟩
             · have he : (V.id k).toList.isEmpty = false := by assumption
               go_quiet (fail)
               go_wp2
               · go_ret
                 exact ⟨okRes_no, below_drewN hb _⟩
               · have hl : (!Op.bytesLess (V.id (k - 1)).toList (V.id k).toList) = false := by assumption
                 go_roundw
                 case rel => exact ⟨k + 1, by omega, by go_num, okStep HJ.out he (fun _ => by simpa using hl), below_drewN hb _⟩
                 case measure => simp [intOf]; omega
           · have hd : decide ((0 : Int) < (k : Int)) = false := by simp; omega
             have hk0' : ¬ (0 : Int) < (k : Int) := by omega
             clear h0 g0
             go_wp2
             · go_ret
               exact ⟨okRes_no, hb⟩
             · have he : (V.id k).toList.isEmpty = false := by assumption
               go_quiet (fail)
               go_wp2
               go_roundw
               case rel => exact ⟨k + 1, by omega, by go_num, okStep HJ.out he (fun h => absurd h hk0), below_drewN hb _⟩
               case measure => simp [intOf]; omega)
      · go_wp2
        go_ret
        exact ⟨okRes_yes ⟨fun i hi => HJ.out.1 i (by omega), fun i hi => HJ.out.2 i (by omega)⟩, hb⟩
end Go.Proofs.Qxb6613110a
