import Derived.Test.Qxb6612650aDoorBase
namespace Go.Proofs.Qxb6612650aDoor
open Go.RowKit

/-- is v among the first n of P? -/
def hasF (P : Nat → Option Addr) (v : Option Addr) : Nat → Nat → Bool
  | _, 0 => false
  | k, f + 1 => if (v == P k) = true then true else hasF P v (k + 1) f
/-- the first place of v from k on, or -1 -/
def idxF (P : Nat → Option Addr) (v : Option Addr) : Nat → Nat → Int
  | _, 0 => -1
  | k, f + 1 => if (v == P k) = true then (k : Int) else idxF P v (k + 1) f
theorem idxF_geq (P : Nat → Option Addr) (v : Option Addr) (k f : Nat) : decide (idxF P v k f ≥ 0) = hasF P v k f := by
  induction f generalizing k with
  | zero => simp [idxF, hasF]
  | succ f ih =>
    unfold idxF hasF
    cases (v == P k)
    · simpa using ih (k + 1)
    · simp

def PtrsAt (w : World) (b n : Nat) (P : Nat → Option Addr) : Prop := ∀ i, i < n → w.cell? ⟨b, i, none⟩ = some (.pointer (P i))

set_option maxHeartbeats 400000 in
set_option maxRecDepth 100000 in
theorem index_any (b n c : Nat) (P : Nat → Option Addr) (v : Option Addr) (w : World) (hm : n ≤ 32768) (hv : PtrsAt w b n P) (hl : ∀ i, i < n → Liv w (P i)) (hlv : Liv w v) :
    Calls Tryd.prog 37 #[.slice (some ⟨b, 0, none⟩) n c, .pointer v] w fun e w' => e = .returned (.int .i64 (idxF P v 0 n)) ∧ w' = w := by
  go_enter Tryd.func37, Tryd.ntmps37
  go_wp2
  go_loop [5, 8] (fun _ i => ∃ k : Nat, k ≤ n ∧ i = .int .i64 k ∧ Hid (idxF P v 0 n = idxF P v k (n - k))) (fun _ i => n - (intOf i).toNat)
  case atStart => exact ⟨0, Nat.zero_le _, rfl, rfl⟩
  case round =>
      obtain ⟨k, hk, rfl, HL⟩ := hrel
      by_cases hlt : k < n
      · have g0 := hv k hlt
        have hq := eql31 hlv (hl k hlt)
        have HS : Hid (idxF P v 0 n = if (v == P k) = true then (k : Int) else idxF P v (k + 1) (n - (k + 1))) := by
             have e : n - k = (n - (k + 1)) + 1 := by omega
             unfold Hid; rw [HL.out, e]; rfl
        clear HL hv hl hlv
        cases e1 : (v == P k)
        · rw [e1] at HS
          go_wp2
          go_round
          case rel => exact ⟨k + 1, by omega, by go_num, by rw [HS.out]; rfl⟩
          case measure => simp [intOf]; omega
        · rw [e1] at HS
          go_wp2
          go_ret
          exact ⟨ret_int (by rw [HS.out]; rfl), rfl⟩
      · go_wp2
        go_ret
        exact ⟨ret_int (by rw [HL.out, show n - k = 0 from by omega]; rfl), rfl⟩

set_option maxHeartbeats 400000 in
theorem contains_any (b n c : Nat) (P : Nat → Option Addr) (v : Option Addr) (w : World) (hm : n ≤ 32768) (hv : PtrsAt w b n P) (hl : ∀ i, i < n → Liv w (P i)) (hlv : Liv w v) :
    Calls Tryd.prog 34 #[.slice (some ⟨b, 0, none⟩) n c, .pointer v] w fun e w' => e = .returned (.bool (hasF P v 0 n)) ∧ w' = w := by
  have H : Hid (decide (idxF P v 0 n ≥ 0) = hasF P v 0 n) := idxF_geq P v 0 n
  have K := index_any b n c P v w hm hv hl hlv
  generalize idxF P v 0 n = z at *
  generalize hasF P v 0 n = q at *
  have HK : Hid _ := K
  clear K hv hl hlv
  go_enter Tryd.func34, Tryd.ntmps34
  go_wp2_with fail
  refine Calls.mono HK.out ?_
  rintro e w2 ⟨rfl, rfl⟩
  go_wp2
  go_ret
  exact ⟨ret_bool H.out, rfl⟩

def anyF (N : Nat → Nat) (P : Nat → Nat → Option Addr) (v : Option Addr) : Bool := hasF (P 0) v 0 (N 0) || hasF (P 1) v 0 (N 1)

theorem StAt.liv {w : World} {B : TB} {N : Nat → Nat} {A : AS} (h : StAt w B N A) (k : Nat) : Liv w (B.ptr k) := by
  unfold TB.ptr
  split
  · exact Or.inr ⟨B.s, rfl, h.sw.l⟩
  · split
    · exact Or.inr ⟨B.t, rfl, (h.theld 0 (by omega)).l⟩
    · exact Or.inl rfl

theorem ix0 (w : World) : (Instr.index 87 (Value.agg #[.int .i64 0, .int .i64 1]) (.int .i64 0)).run Tryd.prog w = .ok (.int .i64 0) w := by
  simp [Instr.index, run_underlying Tryd.underlying87, asIntOf, go_sem]
theorem ix1 (w : World) : (Instr.index 87 (Value.agg #[.int .i64 0, .int .i64 1]) (.int .i64 1)).run Tryd.prog w = .ok (.int .i64 1) w := by
  simp [Instr.index, run_underlying Tryd.underlying87, asIntOf, go_sem]

set_option maxHeartbeats 400000 in
set_option maxRecDepth 100000 in
theorem holdsOn_any (B : TB) (N : Nat → Nat) (A : AS) (w : World) (hm : ∀ r, r < 2 → N r ≤ 32768) (h : StAt w B N A) (hG : Glob w) :
    Calls Tryd.prog 28 #[.pointer (some ⟨B.s, 0, none⟩), .pointer (some ⟨B.g, 0, none⟩)] w fun e w' => e = .returned (.bool (anyF N (fun r i => B.ptr (A.c r i)) (some ⟨B.s, 0, none⟩))) ∧ w' = w := by
  have hls : Liv w (some ⟨B.s, 0, none⟩) := Or.inr ⟨B.s, rfl, h.sw.l⟩
  have K0 := contains_any (B.o 0) (N 0) (N 0) (fun i => B.ptr (A.c 0 i)) (some ⟨B.s, 0, none⟩) w (hm 0 (by omega)) (fun i hi => (h.cells 0 (by omega) i hi).c) (fun i _ => h.liv _) hls
  have K1 := contains_any (B.o 1) (N 1) (N 1) (fun i => B.ptr (A.c 1 i)) (some ⟨B.s, 0, none⟩) w (hm 1 (by omega)) (fun i hi => (h.cells 1 (by omega) i hi).c) (fun i _ => h.liv _) hls
  have c0 := (h.own 0 (by omega)).c
  have c1 := (h.own 1 (by omega)).c
  have ga := hG.a
  have gb := hG.b
  have HE : Hid (anyF N (fun r i => B.ptr (A.c r i)) (some ⟨B.s, 0, none⟩) = (hasF (fun i => B.ptr (A.c 0 i)) (some ⟨B.s, 0, none⟩) 0 (N 0) || hasF (fun i => B.ptr (A.c 1 i)) (some ⟨B.s, 0, none⟩) 0 (N 1))) := rfl
  generalize anyF N (fun r i => B.ptr (A.c r i)) (some ⟨B.s, 0, none⟩) = q at *
  generalize hasF (fun i => B.ptr (A.c 0 i)) (some ⟨B.s, 0, none⟩) 0 (N 0) = q0 at *
  generalize hasF (fun i => B.ptr (A.c 1 i)) (some ⟨B.s, 0, none⟩) 0 (N 1) = q1 at *
  have HK0 : Hid _ := K0
  have HK1 : Hid _ := K1
  clear K0 K1 h hG hls hm
  simp only [Nat.add_zero, Nat.reduceAdd] at c0 c1
  go_enter Tryd.func28, Tryd.ntmps28
  go_wp2
  go_loop [6, 8] (fun _ i => ∃ k : Nat, k ≤ 2 ∧ i = .int .i64 k ∧ Hid ((0 < k → q0 = false) ∧ (1 < k → q1 = false))) (fun _ i => 2 - (intOf i).toNat)
  case atStart => exact ⟨0, by omega, rfl, fun h => by omega, fun h => by omega⟩
  case round =>
    obtain ⟨k, hk, rfl, HL⟩ := hrel
    rcases (by omega : k = 0 ∨ k = 1 ∨ k = 2) with rfl | rfl | rfl
    · have hx := ix0 w
      go_wp2_with fail
      refine Calls.mono HK0.out ?_
      rintro e w2 ⟨rfl, rfl⟩
      cases q0
      · go_wp2
        go_round
        case rel => exact ⟨1, by omega, by go_num, fun _ => trivial, fun h => by omega⟩
        case measure => simp [intOf]
      · go_wp2
        go_ret
        exact ⟨ret_bool (by rw [HE.out]; rfl), rfl⟩
    · have hx := ix1 w
      go_wp2_with fail
      refine Calls.mono HK1.out ?_
      rintro e w2 ⟨rfl, rfl⟩
      cases q1
      · go_wp2
        go_round
        case rel => exact ⟨2, by omega, by go_num, fun _ => HL.out.1 (by omega), fun _ => trivial⟩
        case measure => simp [intOf]
      · go_wp2
        go_ret
        exact ⟨ret_bool (by rw [HE.out]; simp), rfl⟩
    · go_wp2
      go_ret
      exact ⟨ret_bool (by rw [HE.out, HL.out.1 (by omega), HL.out.2 (by omega)]; rfl), rfl⟩
end Go.Proofs.Qxb6612650aDoor
