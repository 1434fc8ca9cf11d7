import Derived.Test.Qxb6613110aA
namespace Go.Proofs.Qxb6613110a
open Go.RowKit

set_option maxHeartbeats 1000000 in
theorem sizeOK_any (av : Option Addr) (nv cv : Nat) (V : VRow) (aa : Option Addr) (na ca : Nat) (Ba : Nat → ByteArray) (Ca : Nat → Int) (ab : Option Addr) (nb cb : Nat) (Bb : Nat → ByteArray) (Cb : Nat → Int) (ex : Int) (w : World)
    (hmv : nv ≤ maxLen) (hma : na ≤ maxLen) (hmb : nb ≤ maxLen) (hv : ViewAt w av nv V) (hva : VecAt w aa na Ba Ca) (hvb : VecAt w ab nb Bb Cb) :
    Calls Try.prog 10 #[.slice av nv cv, .slice aa na ca, .slice ab nb cb, .slice none 0 0, .int .i64 ex] w fun e w' => OkRes e True ∧ Below w.heap.size w w' := by
  unfold maxLen at hmv hma hmb
  obtain ⟨bv, ov, xv, v0, v1, _⟩ := hv
  obtain ⟨ba, oa, xa, a0, _⟩ := hva
  obtain ⟨bb, ob, xb, b0, _⟩ := hvb
  go_enter Try.func10, Try.ntmps10
  go_wp2
  · go_ret
    exact ⟨okRes_no, Below.refl _ _⟩
  go_loopw [11, 12] (fun t i wr => ∃ k : Nat, k ≤ nv ∧ i = .int .i64 k ∧ (∃ z : Int, t = .int .i64 z) ∧ Below w.heap.size w wr) (fun _ i _ => nv - (intOf i).toNat)
  case atStart => exact ⟨0, Nat.zero_le _, rfl, ⟨_, rfl⟩, Below.refl _ _⟩
  case round =>
    obtain ⟨k, hk, rfl, ⟨z, rfl⟩, hb⟩ := hrel
    by_cases hlt : k < nv
    · have g0 := v0 k hlt
      have g1 := v1 k hlt
      have q0 := (hb.cell (lt_of_cell g0)).trans g0
      have q1 := (hb.cell (lt_of_cell g1)).trans g1
      have hix := ixAt (c := cv) Try.underlying22 sz38 xv k hlt
      clear v0 v1 g0 g1 a0 b0 xv xa xb
      go_wp2
      go_quiet (fail)
      go_wp2
      · go_ret
        exact ⟨okRes_no, below_drewN hb _⟩
      · go_roundw
        case rel => exact ⟨k + 1, by omega, by go_num, ⟨_, rfl⟩, below_drewN hb _⟩
        case measure => simp [intOf]; omega
    · go_wp2
      go_loopw [11, 13] (fun t i wr => ∃ k : Nat, k ≤ na ∧ i = .int .i64 k ∧ (∃ z : Int, t = .int .i64 z) ∧ Below w.heap.size w wr) (fun _ i _ => na - (intOf i).toNat)
      case atStart => exact ⟨0, Nat.zero_le _, rfl, ⟨_, rfl⟩, hb⟩
      case round =>
        clear hb
        obtain ⟨k2, hk2, rfl, ⟨z2, rfl⟩, hb⟩ := hrel
        by_cases hlt : k2 < na
        · have g0 := a0 k2 hlt
          have q0 := (hb.cell (lt_of_cell g0)).trans g0
          have hix := ixAt (c := ca) Try.underlying23 sz63 xa k2 hlt
          clear v0 v1 g0 a0 b0 xv xa xb
          go_wp2
          · go_ret
            exact ⟨okRes_no, hb⟩
          · go_roundw
            case rel => exact ⟨k2 + 1, by omega, by go_num, ⟨_, rfl⟩, hb⟩
            case measure => simp [intOf]; omega
        · go_wp2
          go_loopw [11, 14] (fun t i wr => ∃ k : Nat, k ≤ nb ∧ i = .int .i64 k ∧ (∃ z : Int, t = .int .i64 z) ∧ Below w.heap.size w wr) (fun _ i _ => nb - (intOf i).toNat)
          case atStart => exact ⟨0, Nat.zero_le _, rfl, ⟨_, rfl⟩, hb⟩
          case round =>
            clear hb
            obtain ⟨k3, hk3, rfl, ⟨z3, rfl⟩, hb⟩ := hrel
            by_cases hlt : k3 < nb
            · have g0 := b0 k3 hlt
              have q0 := (hb.cell (lt_of_cell g0)).trans g0
              have hix := ixAt (c := cb) Try.underlying23 sz63 xb k3 hlt
              clear v0 v1 g0 a0 b0 xv xa xb
              go_wp2
              · go_ret
                exact ⟨okRes_no, hb⟩
              · go_roundw
                case rel => exact ⟨k3 + 1, by omega, by go_num, ⟨_, rfl⟩, hb⟩
                case measure => simp [intOf]; omega
            · go_wp2
              go_loopw [15] (fun i wr => i = .int .i64 0 ∧ Below w.heap.size w wr) (fun _ _ => 0)
              case atStart => exact ⟨rfl, hb⟩
              case round =>
                clear hb
                obtain ⟨rfl, hb⟩ := hrel
                go_wp2
                go_ret
                exact ⟨okRes_yes trivial, hb⟩

set_option maxHeartbeats 1000000 in
theorem bytes5_any (self : ByteArray) (av : Option Addr) (nv cv : Nat) (V : VRow) (aa : Option Addr) (na ca : Nat) (Ba : Nat → ByteArray) (Ca : Nat → Int) (ab : Option Addr) (nb cb : Nat) (Bb : Nat → ByteArray) (Cb : Nat → Int) (w : World)
    (hmv : nv ≤ maxLen) (hma : na ≤ maxLen) (hmb : nb ≤ maxLen) (hv : ViewAt w av nv V) (hva : VecAt w aa na Ba Ca) (hvb : VecAt w ab nb Bb Cb) :
    Calls Try.prog 18 #[.string self, .slice av nv cv, .slice aa na ca, .slice ab nb cb] w fun e w' => OkRes e True ∧ Below w.heap.size w w' := by
  unfold maxLen at hmv hma hmb
  obtain ⟨bv, ov, xv, v0, v1, _⟩ := hv
  obtain ⟨ba, oa, xa, a0, _⟩ := hva
  obtain ⟨bb, ob, xb, b0, _⟩ := hvb
  go_enter Try.func18, Try.ntmps18
  go_wp2
  all_goals first
    | (go_ret; exact ⟨okRes_no, Below.refl _ _⟩)
    | skip
  go_loopw [9, 10] (fun t i wr => ∃ k : Nat, k ≤ nv ∧ i = .int .i64 k ∧ (∃ z : Int, t = .int .i64 z) ∧ Below w.heap.size w wr) (fun _ i _ => nv - (intOf i).toNat)
  case atStart => exact ⟨0, Nat.zero_le _, rfl, ⟨_, rfl⟩, Below.refl _ _⟩
  case round =>
    obtain ⟨k, hk, rfl, ⟨z, rfl⟩, hb⟩ := hrel
    by_cases hlt : k < nv
    · have g0 := v0 k hlt
      have g1 := v1 k hlt
      have q0 := (hb.cell (lt_of_cell g0)).trans g0
      have q1 := (hb.cell (lt_of_cell g1)).trans g1
      have hix := ixAt (c := cv) Try.underlying22 sz38 xv k hlt
      clear v0 v1 g0 g1 a0 b0 xv xa xb
      go_wp2
      all_goals first
        | (go_ret; exact ⟨okRes_no, hb⟩)
        | skip
      go_roundw
      case rel => exact ⟨k + 1, by omega, by go_num, ⟨_, rfl⟩, hb⟩
      case measure => simp [intOf]; omega
    · go_wp2
      all_goals first
        | (go_ret; exact ⟨okRes_no, hb⟩)
        | skip
      go_loopw [9, 11] (fun t i wr => ∃ k : Nat, k ≤ na ∧ i = .int .i64 k ∧ (∃ z : Int, t = .int .i64 z) ∧ Below w.heap.size w wr) (fun _ i _ => na - (intOf i).toNat)
      case atStart => exact ⟨0, Nat.zero_le _, rfl, ⟨_, rfl⟩, hb⟩
      case round =>
        clear hb
        obtain ⟨k2, hk2, rfl, ⟨z2, rfl⟩, hb⟩ := hrel
        by_cases hlt : k2 < na
        · have g0 := a0 k2 hlt
          have q0 := (hb.cell (lt_of_cell g0)).trans g0
          have hix := ixAt (c := ca) Try.underlying23 sz63 xa k2 hlt
          clear v0 v1 g0 a0 b0 xv xa xb
          go_wp2
          all_goals first
            | (go_ret; exact ⟨okRes_no, hb⟩)
            | skip
          go_roundw
          case rel => exact ⟨k2 + 1, by omega, by go_num, ⟨_, rfl⟩, hb⟩
          case measure => simp [intOf]; omega
        · go_wp2
          all_goals first
            | (go_ret; exact ⟨okRes_no, hb⟩)
            | skip
          go_loopw [9, 12] (fun t i wr => ∃ k : Nat, k ≤ nb ∧ i = .int .i64 k ∧ (∃ z : Int, t = .int .i64 z) ∧ Below w.heap.size w wr) (fun _ i _ => nb - (intOf i).toNat)
          case atStart => exact ⟨0, Nat.zero_le _, rfl, ⟨_, rfl⟩, hb⟩
          case round =>
            clear hb
            obtain ⟨k3, hk3, rfl, ⟨z3, rfl⟩, hb⟩ := hrel
            by_cases hlt : k3 < nb
            · have g0 := b0 k3 hlt
              have q0 := (hb.cell (lt_of_cell g0)).trans g0
              have hix := ixAt (c := cb) Try.underlying23 sz63 xb k3 hlt
              clear v0 v1 g0 a0 b0 xv xa xb
              go_wp2
              all_goals first
                | (go_ret; exact ⟨okRes_no, hb⟩)
                | skip
              go_roundw
              case rel => exact ⟨k3 + 1, by omega, by go_num, ⟨_, rfl⟩, hb⟩
              case measure => simp [intOf]; omega
            · go_wp2
              go_ret
              exact ⟨okRes_yes trivial, hb⟩

set_option maxHeartbeats 1000000 in
theorem bytes6_any (self : ByteArray) (av : Option Addr) (nv cv : Nat) (V : VRow) (aa : Option Addr) (na ca : Nat) (Ba : Nat → ByteArray) (Ca : Nat → Int) (ab : Option Addr) (nb cb : Nat) (Bb : Nat → ByteArray) (Cb : Nat → Int) (kk : Int) (w : World)
    (hmv : nv ≤ maxLen) (hma : na ≤ maxLen) (hmb : nb ≤ maxLen) (hv : ViewAt w av nv V) (hva : VecAt w aa na Ba Ca) (hvb : VecAt w ab nb Bb Cb) :
    Calls Try.prog 26 #[.string self, .slice av nv cv, .slice aa na ca, .slice ab nb cb, .int .i64 kk] w fun e w' => OkRes e True ∧ Below w.heap.size w w' := by
  unfold maxLen at hmv hma hmb
  obtain ⟨bv, ov, xv, v0, v1, _⟩ := hv
  obtain ⟨ba, oa, xa, a0, _⟩ := hva
  obtain ⟨bb, ob, xb, b0, _⟩ := hvb
  go_enter Try.func26, Try.ntmps26
  go_wp2
  all_goals first
    | (go_ret; exact ⟨okRes_no, Below.refl _ _⟩)
    | skip
  go_loopw [11, 12] (fun t i wr => ∃ k : Nat, k ≤ nv ∧ i = .int .i64 k ∧ (∃ z : Int, t = .int .i64 z) ∧ Below w.heap.size w wr) (fun _ i _ => nv - (intOf i).toNat)
  case atStart => exact ⟨0, Nat.zero_le _, rfl, ⟨_, rfl⟩, Below.refl _ _⟩
  case round =>
    obtain ⟨k, hk, rfl, ⟨z, rfl⟩, hb⟩ := hrel
    by_cases hlt : k < nv
    · have g0 := v0 k hlt
      have g1 := v1 k hlt
      have q0 := (hb.cell (lt_of_cell g0)).trans g0
      have q1 := (hb.cell (lt_of_cell g1)).trans g1
      have hix := ixAt (c := cv) Try.underlying22 sz38 xv k hlt
      clear v0 v1 g0 g1 a0 b0 xv xa xb
      go_wp2
      all_goals first
        | (go_ret; exact ⟨okRes_no, hb⟩)
        | skip
      go_roundw
      case rel => exact ⟨k + 1, by omega, by go_num, ⟨_, rfl⟩, hb⟩
      case measure => simp [intOf]; omega
    · go_wp2
      all_goals first
        | (go_ret; exact ⟨okRes_no, hb⟩)
        | skip
      go_loopw [11, 13] (fun t i wr => ∃ k : Nat, k ≤ na ∧ i = .int .i64 k ∧ (∃ z : Int, t = .int .i64 z) ∧ Below w.heap.size w wr) (fun _ i _ => na - (intOf i).toNat)
      case atStart => exact ⟨0, Nat.zero_le _, rfl, ⟨_, rfl⟩, hb⟩
      case round =>
        clear hb
        obtain ⟨k2, hk2, rfl, ⟨z2, rfl⟩, hb⟩ := hrel
        by_cases hlt : k2 < na
        · have g0 := a0 k2 hlt
          have q0 := (hb.cell (lt_of_cell g0)).trans g0
          have hix := ixAt (c := ca) Try.underlying23 sz63 xa k2 hlt
          clear v0 v1 g0 a0 b0 xv xa xb
          go_wp2
          all_goals first
            | (go_ret; exact ⟨okRes_no, hb⟩)
            | skip
          go_roundw
          case rel => exact ⟨k2 + 1, by omega, by go_num, ⟨_, rfl⟩, hb⟩
          case measure => simp [intOf]; omega
        · go_wp2
          all_goals first
            | (go_ret; exact ⟨okRes_no, hb⟩)
            | skip
          go_loopw [11, 14] (fun t i wr => ∃ k : Nat, k ≤ nb ∧ i = .int .i64 k ∧ (∃ z : Int, t = .int .i64 z) ∧ Below w.heap.size w wr) (fun _ i _ => nb - (intOf i).toNat)
          case atStart => exact ⟨0, Nat.zero_le _, rfl, ⟨_, rfl⟩, hb⟩
          case round =>
            clear hb
            obtain ⟨k3, hk3, rfl, ⟨z3, rfl⟩, hb⟩ := hrel
            by_cases hlt : k3 < nb
            · have g0 := b0 k3 hlt
              have q0 := (hb.cell (lt_of_cell g0)).trans g0
              have hix := ixAt (c := cb) Try.underlying23 sz63 xb k3 hlt
              clear v0 v1 g0 a0 b0 xv xa xb
              go_wp2
              all_goals first
                | (go_ret; exact ⟨okRes_no, hb⟩)
                | skip
              go_roundw
              case rel => exact ⟨k3 + 1, by omega, by go_num, ⟨_, rfl⟩, hb⟩
              case measure => simp [intOf]; omega
            · go_wp2
              go_ret
              exact ⟨okRes_yes trivial, hb⟩
end Go.Proofs.Qxb6613110a
