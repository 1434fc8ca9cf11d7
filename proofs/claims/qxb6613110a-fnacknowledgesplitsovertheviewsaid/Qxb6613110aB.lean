import Derived.Test.Qxb6613110aA
namespace Go.Proofs.Qxb6613110a
open Go.RowKit

set_option maxHeartbeats 400000 in
theorem selfClock_any (a : Option Addr) (n c : Nat) (B : Nat → ByteArray) (C : Nat → Int) (m : ByteArray) (w : World) (hm : n ≤ maxLen) (hv : VecAt w a n B C) :
    Calls Try.prog 28 #[.slice a n c, .string m] w fun e w' => e = .returned (.tuple #[.int .u64 (lookF B C m 0 n), .bool (hasF B m 0 n)]) ∧ Below w.heap.size w w' := by
  unfold maxLen at hm
  obtain ⟨b, off, ha, h0, h1⟩ := hv
  go_enter Try.func28, Try.ntmps28
  go_wp2
  go_loop [6] (fun i => ∃ k : Nat, k ≤ n ∧ i = .int .i64 k ∧ Hid (lookF B C m 0 n = lookF B C m k (n - k)) ∧ Hid (hasF B m 0 n = hasF B m k (n - k))) (fun i => n - (intOf i).toNat)
  case atStart => exact ⟨0, Nat.zero_le _, rfl, rfl, rfl⟩
  case round =>
      obtain ⟨k, hk, rfl, HL, HH⟩ := hrel
      by_cases hlt : k < n
      · have g0 := h0 k hlt
        have g1 := h1 k hlt
        have hix := ixAt (c := c) Try.underlying34 sz66 ha k hlt
        clear h0 h1 ha
        have e : n - k = (n - (k + 1)) + 1 := by omega
        have HS : Hid (lookF B C m 0 n = if ((B k).toList == m.toList) = true then C k else lookF B C m (k + 1) (n - (k + 1))) := by
             unfold Hid; rw [HL.out, e]; rfl
        have HT : Hid (hasF B m 0 n = if ((B k).toList == m.toList) = true then true else hasF B m (k + 1) (n - (k + 1))) := by
             unfold Hid; rw [HH.out, e]; rfl
        clear HL HH e
        go_wp2
        · have hc : ((B k).toList == m.toList) = true := by assumption
          go_ret2
          rw [HS.out, HT.out, if_pos hc, if_pos hc]
          exact ⟨rfl, Below.refl _ _⟩
        · have hc : ¬ ((B k).toList == m.toList) = true := by simp [*]
          go_round
          case rel => exact ⟨k + 1, by omega, by go_num, by rw [HS.out, if_neg hc]; rfl, by rw [HT.out, if_neg hc]; rfl⟩
          case measure => simp [intOf]; omega
      · go_wp2
        go_ret2
        rw [HL.out, HH.out, show n - k = 0 from by omega]
        exact ⟨rfl, Below.refl _ _⟩

set_option maxHeartbeats 400000 in
theorem entryAt_any (a : Option Addr) (n c : Nat) (B : Nat → ByteArray) (C : Nat → Int) (j : Nat) (m : ByteArray) (cl : Int) (w : World) (hv : VecAt w a n B C) :
    Calls Try.prog 36 #[.slice a n c, .int .i64 j, .string m, .int .u64 cl] w fun e w' => e = .returned (.bool (entB B C n j m cl)) ∧ w' = w := by
  obtain ⟨b, off, ha, h0, h1⟩ := hv
  by_cases hlt : j < n
  · have g0 := h0 j hlt
    have g1 := h1 j hlt
    have hix := ixAt (c := c) Try.underlying34 sz66 ha j hlt
    have hlt' : (j : Int) < n := by omega
    clear h0 h1 ha
    cases hq : ((B j).toList == m.toList)
    · go_enter Try.func36, Try.ntmps36
      go_wp2
      go_ret
      exact ⟨ret_bool (by simp [entB, hlt, hq]), rfl⟩
    · go_enter Try.func36, Try.ntmps36
      go_wp2
      go_ret
      exact ⟨ret_bool (by simp [entB, hlt, hq]), rfl⟩
  · have hd : decide ((j : Int) < n) = false := by simp; omega
    go_enter Try.func36, Try.ntmps36
    go_wp2
    go_ret
    exact ⟨ret_bool (by simp [entB, hlt]), rfl⟩

theorem own_step' {X : Int} {nv : Nat} (V : VRow) (look : ByteArray → Int) (k : Nat) (z : Int) (hlt : k < nv) (h : X = ownF V look k (nv - k) z) :
    Hid ((cntB (V.st k) (V.gone k) = false → X = ownF V look (k + 1) (nv - (k + 1)) z) ∧
      (cntB (V.st k) (V.gone k) = true → (look (V.id k) < z → X = ownF V look (k + 1) (nv - (k + 1)) (look (V.id k))) ∧ (z ≤ look (V.id k) → X = ownF V look (k + 1) (nv - (k + 1)) z))) := by
  have e : nv - k = (nv - (k + 1)) + 1 := by omega
  rw [e] at h
  unfold ownF at h
  refine ⟨fun hc => ?_, fun hc => ⟨fun hl => ?_, fun hl => ?_⟩⟩
  · rw [h, if_neg (by simp [hc])]
  · rw [h, if_pos hc, if_pos hl]
  · rw [h, if_pos hc, if_neg (by omega)]

set_option maxHeartbeats 400000 in
theorem ownAck_any (self : ByteArray) (av : Option Addr) (nv cv : Nat) (V : VRow) (aa : Option Addr) (na ca : Nat) (Ba : Nat → ByteArray) (Ca : Nat → Int) (w : World)
    (hmv : nv ≤ maxLen) (hma : na ≤ maxLen) (hv : ViewAt w av nv V) (hva : VecAt w aa na Ba Ca) :
    Calls Try.prog 19 #[.string self, .slice av nv cv, .slice aa na ca] w fun e w' =>
      e = .returned (.int .u64 (ownF V (fun m => lookF Ba Ca m 0 na) 0 nv (lookF Ba Ca self 0 na))) ∧ Below w.heap.size w w' := by
  have hvk := hv
  unfold maxLen at hmv
  obtain ⟨bv, ov, xv, v0, v1, v2, v3, v4, v5⟩ := hv
  go_enter Try.func19, Try.ntmps19
  go_wp2_with fail
  refine (lookup_any aa na ca Ba Ca self _ hma hva).mono ?_
  rintro e w1 ⟨rfl, hb1⟩
  go_wp2_with fail
  go_loopw [7, 8] (fun t i wr => ∃ k : Nat, k ≤ nv ∧ i = .int .i64 k ∧ (∃ z : Int, t = .int .u64 z ∧ Hid (ownF V (fun m => lookF Ba Ca m 0 na) 0 nv (lookF Ba Ca self 0 na) = ownF V (fun m => lookF Ba Ca m 0 na) k (nv - k) z)) ∧ Below w.heap.size w wr) (fun _ i _ => nv - (intOf i).toNat)
  case atStart => exact ⟨0, Nat.zero_le _, rfl, ⟨_, rfl, rfl⟩, hb1⟩
  case round =>
    clear hb1
    obtain ⟨k, hk, rfl, ⟨z, rfl, HL⟩, hb⟩ := hrel
    by_cases hlt : k < nv
    · have g0 := (hb.cell (lt_of_cell (v0 k hlt))).trans (v0 k hlt)
      have g1 := (hb.cell (lt_of_cell (v1 k hlt))).trans (v1 k hlt)
      have g2 := (hb.cell (lt_of_cell (v2 k hlt))).trans (v2 k hlt)
      have g3 := (hb.cell (lt_of_cell (v3 k hlt))).trans (v3 k hlt)
      have g4 := (hb.cell (lt_of_cell (v4 k hlt))).trans (v4 k hlt)
      have g5 := (hb.cell (lt_of_cell (v5 k hlt))).trans (v5 k hlt)
      have hix := ixAt (c := cv) Try.underlying22 sz38 xv k hlt
      clear v0 v1 v2 v3 v4 v5 xv
      have HS' := own_step' (nv := nv) V (fun m => lookF Ba Ca m 0 na) k z hlt HL.out
      clear HL
      go_wp2_with fail
      cases hc : cntB (V.st k) (V.gone k)
      · refine (counted_any _ _ _ _ _ _ _).mono ?_
        rintro e w2 ⟨rfl, hb2⟩
        go_wp2
        go_roundw
        case rel => exact ⟨k + 1, by omega, by go_num, ⟨_, rfl, HS'.out.1 hc⟩, hb.trans (hb2.mono hb.size)⟩
        case measure => simp [intOf]; omega
      · refine (counted_any _ _ _ _ _ _ _).mono ?_
        rintro e w2 ⟨rfl, hb2⟩
        have q0 := (hb2.cell (lt_of_cell g0)).trans g0
        have hb3 : Below w.heap.size w w2 := hb.trans (hb2.mono hb.size)
        clear g0 g1 g2 g3 g4 g5 hb hb2
        go_wp2_with fail
        refine (lookup_any aa na ca Ba Ca _ _ hma (hva.below hb3)).mono ?_
        rintro e w3 ⟨rfl, hb4⟩
        have hb5 : Below w.heap.size w w3 := hb3.trans (hb4.mono hb3.size)
        clear hb4
        go_wp2
        · go_roundw
          case rel => exact ⟨k + 1, by omega, by go_num, ⟨_, rfl, (HS'.out.2 hc).1 ‹_›⟩, hb5⟩
          case measure => simp [intOf]; omega
        · go_roundw
          case rel => exact ⟨k + 1, by omega, by go_num, ⟨_, rfl, (HS'.out.2 hc).2 (by omega)⟩, hb5⟩
          case measure => simp [intOf]; omega
    · go_wp2
      go_ret
      exact ⟨ret_int (by rw [HL.out, show nv - k = 0 from by omega]; rfl), hb⟩
end Go.Proofs.Qxb6613110a
