import Derived.Test.Qxb6613110aB
namespace Go.Proofs.Qxb6613110a
open Go.RowKit

/-- got is old with the entry at p made (me, want): old names me there -/
structure SetOld (n : Nat) (B : Nat → ByteArray) (C : Nat → Int) (me : ByteArray) (want : Int) (n' : Nat) (B' : Nat → ByteArray) (C' : Nat → Int) (p : Nat) : Prop where
  lt : p < n
  len : n' = n
  low : ∀ i, i < p → Op.bytesLess me.toList (B i).toList = false ∧ ((B i).toList == me.toList) = false
  at_ : Op.bytesLess me.toList (B p).toList = false ∧ ((B p).toList == me.toList) = true
  high : ∀ i, p < i → i < n → ((B i).toList == me.toList) = false
  new : entB B' C' n' p me want = true
  old : ∀ i, i < n → i ≠ p → entB B' C' n' i (B i) (C i) = true

/-- got is old with the entry (me, want) put in at p: old does not name me -/
structure SetNew (n : Nat) (B : Nat → ByteArray) (C : Nat → Int) (me : ByteArray) (want : Int) (n' : Nat) (B' : Nat → ByteArray) (C' : Nat → Int) (p : Nat) : Prop where
  le : p ≤ n
  len : n' = n + 1
  low : ∀ i, i < p → Op.bytesLess me.toList (B i).toList = false
  high : ∀ i, p ≤ i → i < n → Op.bytesLess me.toList (B i).toList = true
  ne : ∀ i, i < n → ((B i).toList == me.toList) = false
  new : entB B' C' n' p me want = true
  old : ∀ i, i < p → entB B' C' n' i (B i) (C i) = true
  past : ∀ i, p ≤ i → i < n → entB B' C' n' (i + 1) (B i) (C i) = true

set_option maxHeartbeats 1000000 in
theorem ackIs_old (a' : Option Addr) (n' c' : Nat) (B' : Nat → ByteArray) (C' : Nat → Int) (a : Option Addr) (n c : Nat) (B : Nat → ByteArray) (C : Nat → Int) (me : ByteArray) (want : Int) (p : Nat) (w : World)
    (hm : n ≤ maxLen) (hv' : VecAt w a' n' B' C') (hv : VecAt w a n B C) (S : SetOld n B C me want n' B' C' p) :
    Calls Try.prog 24 #[.slice a' n' c', .slice a n c, .string me, .int .u64 want] w fun e w' => e = .returned (.bool true) ∧ Below w.heap.size w w' := by
  unfold maxLen at hm
  obtain ⟨b, off, xa, h0, h1⟩ := hv
  have hpn := S.lt
  go_enter Try.func24, Try.ntmps24
  go_wp2
  go_loopw [9, 10, 11] (fun j q i wr => ∃ k : Nat, k ≤ n ∧ i = .int .i64 k ∧ j = .int .i64 k ∧ q = .bool (decide (p < k)) ∧ Below w.heap.size w wr) (fun _ _ i _ => n - (intOf i).toNat)
  case atStart => exact ⟨0, Nat.zero_le _, rfl, rfl, by simp, Below.refl _ _⟩
  case round =>
    obtain ⟨k, hk, rfl, rfl, rfl, hb⟩ := hrel
    have hv2 := hv'.below hb
    by_cases hlt : k < n
    · have g0 := (hb.cell (lt_of_cell (h0 k hlt))).trans (h0 k hlt)
      have g1 := (hb.cell (lt_of_cell (h1 k hlt))).trans (h1 k hlt)
      have hix := ixAt (c := c) Try.underlying23 sz63 xa k hlt
      clear h0 h1 xa
      by_cases hkp : k < p
      · have hd : decide (p < k) = false := by simp; omega
        have hd2 : decide (p < k + 1) = false := by simp; omega
        have e1 := (S.low k hkp).1
        have e2 := (S.low k hkp).2
        have e3 := S.old k hlt (by omega)
        rw [hd]
        go_wp2_with fail
        go_quiet ((go_at_call 36; refine Calls.quiet_of_same (entryAt_any a' n' c' B' C' k _ _ _ ?_); exact hv2))
        go_wp2
        go_roundw
        case rel => exact ⟨k + 1, by omega, by go_num, by go_num, by rw [hd2], below_drewN hb _⟩
        case measure => simp [intOf]; omega
      · by_cases hke : k = p
        · subst hke
          have hd : decide (k < k) = false := by simp
          have e1 := S.at_.1
          have e2 := S.at_.2
          have e3 := S.new
          rw [hd]
          go_wp2_with fail
          refine (entryAt_any a' n' c' B' C' k _ _ _ hv2).mono ?_
          rintro e w2 ⟨rfl, rfl⟩
          go_wp2
          go_roundw
          case rel => exact ⟨k + 1, by omega, by go_num, by go_num, by simp, hb⟩
          case measure => simp [intOf]; omega
        · have hd : decide (p < k) = true := by simp; omega
          have hd2 : decide (p < k + 1) = true := by simp; omega
          have e2 := S.high k (by omega) hlt
          have e3 := S.old k hlt (by omega)
          rw [hd]
          go_wp2_with fail
          go_quiet ((go_at_call 36; refine Calls.quiet_of_same (entryAt_any a' n' c' B' C' k _ _ _ ?_); exact hv2))
          go_wp2
          go_roundw
          case rel => exact ⟨k + 1, by omega, by go_num, by go_num, by rw [hd2], below_drewN hb _⟩
          case measure => simp [intOf]; omega
    · have hd : decide (p < k) = true := by simp; omega
      have hl := S.len
      have hq : ((k : Int) == (n' : Int)) = true := by rw [beq_iff_eq]; omega
      clear hl
      rw [hd]
      go_wp2
      go_ret
      exact ⟨rfl, hb⟩

set_option maxHeartbeats 1000000 in
theorem ackIs_new (a' : Option Addr) (n' c' : Nat) (B' : Nat → ByteArray) (C' : Nat → Int) (a : Option Addr) (n c : Nat) (B : Nat → ByteArray) (C : Nat → Int) (me : ByteArray) (want : Int) (p : Nat) (w : World)
    (hm : n ≤ 4096) (hv' : VecAt w a' n' B' C') (hv : VecAt w a n B C) (S : SetNew n B C me want n' B' C' p) :
    Calls Try.prog 24 #[.slice a' n' c', .slice a n c, .string me, .int .u64 want] w fun e w' => e = .returned (.bool true) ∧ Below w.heap.size w w' := by
  obtain ⟨b, off, xa, h0, h1⟩ := hv
  have hpn := S.le
  go_enter Try.func24, Try.ntmps24
  go_wp2
  go_loopw [9, 10, 11] (fun j q i wr => ∃ k j' : Nat, k ≤ n ∧ i = .int .i64 k ∧ j = .int .i64 j' ∧ j' ≤ k + 1 ∧ (p < k → j' = k + 1) ∧ (k ≤ p → j' = k) ∧ q = .bool (decide (p < k)) ∧ Below w.heap.size w wr) (fun _ _ i _ => n - (intOf i).toNat)
  case atStart => exact ⟨0, 0, Nat.zero_le _, rfl, rfl, by omega, by omega, by omega, by simp, Below.refl _ _⟩
  case round =>
    obtain ⟨k, j', hk, rfl, rfl, hj0, hj1, hj2, rfl, hb⟩ := hrel
    have hv2 := hv'.below hb
    by_cases hlt : k < n
    · have g0 := (hb.cell (lt_of_cell (h0 k hlt))).trans (h0 k hlt)
      have g1 := (hb.cell (lt_of_cell (h1 k hlt))).trans (h1 k hlt)
      have hix := ixAt (c := c) Try.underlying23 sz63 xa k hlt
      clear h0 h1 xa
      have e2 := S.ne k hlt
      by_cases hkp : k < p
      · obtain rfl : j' = k := hj2 (by omega)
        clear hj1 hj2
        have hd : decide (p < j') = false := by simp; omega
        have hd2 : decide (p < j' + 1) = false := by simp; omega
        have e1 := S.low j' hkp
        have e3 := S.old j' hkp
        rw [hd]
        go_wp2_with fail
        go_quiet ((go_at_call 36; refine Calls.quiet_of_same (entryAt_any a' n' c' B' C' j' _ _ _ ?_); exact hv2))
        go_wp2
        go_roundw
        case rel => exact ⟨j' + 1, j' + 1, by omega, by go_num, by go_num, by omega, by omega, by omega, by rw [hd2], below_drewN hb _⟩
        case measure => simp [intOf]; omega
      · by_cases hke : k = p
        · subst hke
          obtain rfl : j' = k := hj2 (by omega)
          clear hj1 hj2
          have hd : decide (j' < j') = false := by simp
          have e1 := S.high j' (Nat.le_refl _) hlt
          have e3 := S.new
          have e4 := S.past j' (Nat.le_refl _) hlt
          rw [hd]
          go_wp2_with fail
          refine (entryAt_any a' n' c' B' C' j' _ _ _ hv2).mono ?_
          rintro e w2 ⟨rfl, rfl⟩
          go_wp2_with fail
          rw [show ((j' : Int) + 1) = ((j' + 1 : Nat) : Int) from by omega]
          go_quiet ((go_at_call 36; refine Calls.quiet_of_same (entryAt_any a' n' c' B' C' (j' + 1) _ _ _ ?_); exact hv2))
          go_wp2
          go_roundw
          case rel => exact ⟨j' + 1, j' + 2, by omega, by go_num, by go_num, by omega, by omega, by omega, by simp, below_drewN hb _⟩
          case measure => simp [intOf]; omega
        · obtain rfl : j' = k + 1 := hj1 (by omega)
          clear hj1 hj2
          have hd : decide (p < k) = true := by simp; omega
          have hd2 : decide (p < k + 1) = true := by simp; omega
          have e3 := S.past k (by omega) hlt
          rw [hd]
          go_wp2_with fail
          go_quiet ((go_at_call 36; refine Calls.quiet_of_same (entryAt_any a' n' c' B' C' (k + 1) _ _ _ ?_); exact hv2))
          go_wp2
          go_roundw
          case rel => exact ⟨k + 1, k + 2, by omega, by go_num, by go_num, by omega, by omega, by omega, by rw [hd2], below_drewN hb _⟩
          case measure => simp [intOf]; omega
    · have hkn : k = n := by omega
      subst hkn
      by_cases hp : p < k
      · obtain rfl : j' = k + 1 := hj1 hp
        clear hj1 hj2
        have hd : decide (p < k) = true := by simp; omega
        have hl := S.len
        have hq : (((k : Int) + 1) == (n' : Int)) = true := by rw [beq_iff_eq]; omega
        clear hl
        rw [hd]
        go_wp2
        go_ret
        exact ⟨rfl, hb⟩
      · obtain rfl : j' = k := hj2 (by omega)
        clear hj1 hj2
        have hpe : p = j' := by omega
        subst hpe
        have hd : decide (p < p) = false := by simp
        have hl := S.len
        have hq : (((p : Int) + 1) == (n' : Int)) = true := by rw [beq_iff_eq]; omega
        have e3 := S.new
        clear hl
        rw [hd]
        go_wp2_with fail
        refine (entryAt_any a' n' c' B' C' p _ _ _ hv2).mono ?_
        rintro e w2 ⟨rfl, rfl⟩
        go_wp2
        go_ret
        exact ⟨rfl, hb⟩
end Go.Proofs.Qxb6613110a
