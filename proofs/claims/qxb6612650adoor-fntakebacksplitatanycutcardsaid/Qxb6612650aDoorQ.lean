import Derived.Test.Qxb6612650aDoorO
import Derived.Deep.RegionHeld2
namespace Go.Proofs.Qxb6612650aDoor
open Go.RowKit

section
variable {W : World} {B : TB} {N : Nat → Nat} {A : AS}
theorem StAt.ownC0 (h : StAt W B N A) (u : Nat) (hu : u < N 0) : Calls Tryd.prog 13 #[.pointer (some ⟨B.g, 0, none⟩), .int .i64 0, .int .i64 u] W fun e w' => e = .returned (.pointer (B.ptr (A.c 0 u))) ∧ w' = W := h.ownC 0 u (by omega) hu
theorem StAt.ownC1 (h : StAt W B N A) (u : Nat) (hu : u < N 1) : Calls Tryd.prog 13 #[.pointer (some ⟨B.g, 0, none⟩), .int .i64 1, .int .i64 u] W fun e w' => e = .returned (.pointer (B.ptr (A.c 1 u))) ∧ w' = W := h.ownC 1 u (by omega) hu
end

set_option maxHeartbeats 40000000 in
set_option maxRecDepth 100000 in
theorem same_any (B1 B2 : TB) (N : Nat → Nat) (A : AS) (w : World) (hm0 : N 0 ≤ 32768) (hm1 : N 1 ≤ 32768) (h1 : StAt w B1 N A) (h2 : StAt w B2 N A) :
    Calls Tryd.prog 18 #[.agg #[.pointer (some ⟨B1.n, 0, none⟩), .pointer (some ⟨B1.s, 0, none⟩), .pointer (some ⟨B1.t, 0, none⟩), .pointer (some ⟨B1.g, 0, none⟩), .pointer B1.hp], .agg #[.pointer (some ⟨B2.n, 0, none⟩), .pointer (some ⟨B2.s, 0, none⟩), .pointer (some ⟨B2.t, 0, none⟩), .pointer (some ⟨B2.g, 0, none⟩), .pointer B2.hp], .int .i64 (N 0), .int .i64 (N 1)] w fun e w' => e = .returned (.bool true) ∧ Below w.heap.size w w' := by
  have E : Env w ((w.alloc (.cells #[.pointer (some ⟨B1.n, 0, none⟩), .pointer (some ⟨B1.s, 0, none⟩), .pointer (some ⟨B1.t, 0, none⟩), .pointer (some ⟨B1.g, 0, none⟩), .pointer B1.hp] 34)).alloc (.cells #[.pointer (some ⟨B2.n, 0, none⟩), .pointer (some ⟨B2.s, 0, none⟩), .pointer (some ⟨B2.t, 0, none⟩), .pointer (some ⟨B2.g, 0, none⟩), .pointer B2.hp] 34)) B1 B2 N A := by
    have b1 : Below w.heap.size w (w.alloc (.cells #[.pointer (some ⟨B1.n, 0, none⟩), .pointer (some ⟨B1.s, 0, none⟩), .pointer (some ⟨B1.t, 0, none⟩), .pointer (some ⟨B1.g, 0, none⟩), .pointer B1.hp] 34)) := (Below.refl _ _).alloc (Nat.le_refl _) _
    have b2 : Below (w.alloc (.cells #[.pointer (some ⟨B1.n, 0, none⟩), .pointer (some ⟨B1.s, 0, none⟩), .pointer (some ⟨B1.t, 0, none⟩), .pointer (some ⟨B1.g, 0, none⟩), .pointer B1.hp] 34)).heap.size (w.alloc (.cells #[.pointer (some ⟨B1.n, 0, none⟩), .pointer (some ⟨B1.s, 0, none⟩), .pointer (some ⟨B1.t, 0, none⟩), .pointer (some ⟨B1.g, 0, none⟩), .pointer B1.hp] 34)) ((w.alloc (.cells #[.pointer (some ⟨B1.n, 0, none⟩), .pointer (some ⟨B1.s, 0, none⟩), .pointer (some ⟨B1.t, 0, none⟩), .pointer (some ⟨B1.g, 0, none⟩), .pointer B1.hp] 34)).alloc (.cells #[.pointer (some ⟨B2.n, 0, none⟩), .pointer (some ⟨B2.s, 0, none⟩), .pointer (some ⟨B2.t, 0, none⟩), .pointer (some ⟨B2.g, 0, none⟩), .pointer B2.hp] 34)) := (Below.refl _ _).alloc (Nat.le_refl _) _
    have e : (w.alloc (.cells #[.pointer (some ⟨B1.n, 0, none⟩), .pointer (some ⟨B1.s, 0, none⟩), .pointer (some ⟨B1.t, 0, none⟩), .pointer (some ⟨B1.g, 0, none⟩), .pointer B1.hp] 34)).heap.size = w.heap.size + 1 := by simp
    refine ⟨TmpAt.below ⟨cel_new _ _ 34 0 _ rfl, cel_new _ _ 34 1 _ rfl, cel_new _ _ 34 2 _ rfl, cel_new _ _ 34 3 _ rfl, cel_new _ _ 34 4 _ rfl⟩ b2, ?_, (h1.below b1).below b2, (h2.below b1).below b2, b1.trans (b2.mono b1.size)⟩
    rw [← e]
    exact ⟨cel_new _ _ 34 0 _ rfl, cel_new _ _ 34 1 _ rfl, cel_new _ _ 34 2 _ rfl, cel_new _ _ 34 3 _ rfl, cel_new _ _ 34 4 _ rfl⟩
  clear h1 h2
  go_enter Tryd.func18, Tryd.ntmps18
  go_wp2_with fail
  go_loopw [9] (fun i wr => ∃ k : Nat, k ≤ N 0 ∧ i = .int .i64 k ∧ Env w wr B1 B2 N A) (fun i _ => N 0 - (intOf i).toNat)
  case atStart => exact ⟨0, Nat.zero_le _, rfl, E⟩
  case round =>
    clear E
    obtain ⟨k, hk, rfl, E⟩ := hrel
    by_cases hlt : k < N 0
    · have p0 := E.T1.n.c
      have p1 := E.T1.s.c
      have p2 := E.T1.t.c
      have p3 := E.T1.g.c
      have p4 := E.T1.h.c
      have p5 := E.T2.n.c
      have p6 := E.T2.s.c
      have p7 := E.T2.t.c
      have p8 := E.T2.g.c
      have p9 := E.T2.h.c
      have E0 := E.drew
      go_wp2_with fail
      go_region_held2 (fun W' => W'.cell? ⟨w.heap.size, 0, none⟩ = some (.pointer (some ⟨B1.n, 0, none⟩)) ∧ W'.cell? ⟨w.heap.size, 1, none⟩ = some (.pointer (some ⟨B1.s, 0, none⟩)) ∧ W'.cell? ⟨w.heap.size, 2, none⟩ = some (.pointer (some ⟨B1.t, 0, none⟩)) ∧ W'.cell? ⟨w.heap.size, 3, none⟩ = some (.pointer (some ⟨B1.g, 0, none⟩)) ∧ W'.cell? ⟨w.heap.size, 4, none⟩ = some (.pointer B1.hp) ∧ W'.cell? ⟨w.heap.size + 1, 0, none⟩ = some (.pointer (some ⟨B2.n, 0, none⟩)) ∧ W'.cell? ⟨w.heap.size + 1, 1, none⟩ = some (.pointer (some ⟨B2.s, 0, none⟩)) ∧ W'.cell? ⟨w.heap.size + 1, 2, none⟩ = some (.pointer (some ⟨B2.t, 0, none⟩)) ∧ W'.cell? ⟨w.heap.size + 1, 3, none⟩ = some (.pointer (some ⟨B2.g, 0, none⟩)) ∧ W'.cell? ⟨w.heap.size + 1, 4, none⟩ = some (.pointer B2.hp)) (go_keep)
        (first
          | (go_at_call 13; with_reducible (refine Calls.mono (E0.S1.ownC0 k hlt) ?_); rintro e w5 ⟨rfl, rfl⟩)
          | (go_at_call 26; with_reducible (refine Calls.mono (E0.S1.roleC _) ?_); rintro e w6 ⟨rfl, b6⟩; have E6 := E0.below b6; have q0 := E6.T1.n.c; have q1 := E6.T1.s.c; have q2 := E6.T1.t.c; have q3 := E6.T1.g.c; have q4 := E6.T1.h.c; have q5 := E6.T2.n.c; have q6 := E6.T2.s.c; have q7 := E6.T2.t.c; have q8 := E6.T2.g.c; have q9 := E6.T2.h.c)
          | (go_at_call 13; with_reducible (refine Calls.mono (E6.S2.ownC0 k hlt) ?_); rintro e w5 ⟨rfl, rfl⟩)
          | (go_at_call 26; with_reducible (refine Calls.mono (E6.S2.roleC _) ?_); rintro e w7 ⟨rfl, b7⟩; have E7 := E6.below b7; have o0 := E7.T1.n.c; have o1 := E7.T1.s.c; have o2 := E7.T1.t.c; have o3 := E7.T1.g.c; have o4 := E7.T1.h.c; have o5 := E7.T2.n.c; have o6 := E7.T2.s.c; have o7 := E7.T2.t.c; have o8 := E7.T2.g.c; have o9 := E7.T2.h.c))
      go_wp2
      go_roundw
      case rel => exact ⟨k + 1, by omega, by go_num, E7⟩
      case measure => simp [intOf]; omega
    · go_wp2_with fail
      clear hlt hk
      go_loopw [10] (fun i wr => ∃ k : Nat, k ≤ N 1 ∧ i = .int .i64 k ∧ Env w wr B1 B2 N A) (fun i _ => N 1 - (intOf i).toNat)
      case atStart => exact ⟨0, Nat.zero_le _, rfl, E⟩
      case round =>
        clear E
        obtain ⟨k, hk, rfl, E⟩ := hrel
        by_cases hlt : k < N 1
        · have p0 := E.T1.n.c
          have p1 := E.T1.s.c
          have p2 := E.T1.t.c
          have p3 := E.T1.g.c
          have p4 := E.T1.h.c
          have p5 := E.T2.n.c
          have p6 := E.T2.s.c
          have p7 := E.T2.t.c
          have p8 := E.T2.g.c
          have p9 := E.T2.h.c
          have E0 := E.drew
          go_wp2_with fail
          go_region_held2 (fun W' => W'.cell? ⟨w.heap.size, 0, none⟩ = some (.pointer (some ⟨B1.n, 0, none⟩)) ∧ W'.cell? ⟨w.heap.size, 1, none⟩ = some (.pointer (some ⟨B1.s, 0, none⟩)) ∧ W'.cell? ⟨w.heap.size, 2, none⟩ = some (.pointer (some ⟨B1.t, 0, none⟩)) ∧ W'.cell? ⟨w.heap.size, 3, none⟩ = some (.pointer (some ⟨B1.g, 0, none⟩)) ∧ W'.cell? ⟨w.heap.size, 4, none⟩ = some (.pointer B1.hp) ∧ W'.cell? ⟨w.heap.size + 1, 0, none⟩ = some (.pointer (some ⟨B2.n, 0, none⟩)) ∧ W'.cell? ⟨w.heap.size + 1, 1, none⟩ = some (.pointer (some ⟨B2.s, 0, none⟩)) ∧ W'.cell? ⟨w.heap.size + 1, 2, none⟩ = some (.pointer (some ⟨B2.t, 0, none⟩)) ∧ W'.cell? ⟨w.heap.size + 1, 3, none⟩ = some (.pointer (some ⟨B2.g, 0, none⟩)) ∧ W'.cell? ⟨w.heap.size + 1, 4, none⟩ = some (.pointer B2.hp)) (go_keep)
            (first
              | (go_at_call 13; with_reducible (refine Calls.mono (E0.S1.ownC1 k hlt) ?_); rintro e w5 ⟨rfl, rfl⟩)
              | (go_at_call 26; with_reducible (refine Calls.mono (E0.S1.roleC _) ?_); rintro e w6 ⟨rfl, b6⟩; have E6 := E0.below b6; have q0 := E6.T1.n.c; have q1 := E6.T1.s.c; have q2 := E6.T1.t.c; have q3 := E6.T1.g.c; have q4 := E6.T1.h.c; have q5 := E6.T2.n.c; have q6 := E6.T2.s.c; have q7 := E6.T2.t.c; have q8 := E6.T2.g.c; have q9 := E6.T2.h.c)
              | (go_at_call 13; with_reducible (refine Calls.mono (E6.S2.ownC1 k hlt) ?_); rintro e w5 ⟨rfl, rfl⟩)
              | (go_at_call 26; with_reducible (refine Calls.mono (E6.S2.roleC _) ?_); rintro e w7 ⟨rfl, b7⟩; have E7 := E6.below b7; have o0 := E7.T1.n.c; have o1 := E7.T1.s.c; have o2 := E7.T1.t.c; have o3 := E7.T1.g.c; have o4 := E7.T1.h.c; have o5 := E7.T2.n.c; have o6 := E7.T2.s.c; have o7 := E7.T2.t.c; have o8 := E7.T2.g.c; have o9 := E7.T2.h.c))
          go_wp2
          go_roundw
          case rel => exact ⟨k + 1, by omega, by go_num, E7⟩
          case measure => simp [intOf]; omega
        · go_wp2_with fail
          clear hlt hk
          go_loopw [11] (fun i wr => ∃ k : Nat, k ≤ 2 ∧ i = .int .i64 k ∧ Env w wr B1 B2 N A) (fun i _ => 2 - (intOf i).toNat)
          case atStart => exact ⟨0, Nat.zero_le _, rfl, E⟩
          case round =>
            clear E
            obtain ⟨k, hk, rfl, E⟩ := hrel
            by_cases hlt : k < 2
            · have p0 := E.T1.n.c
              have p1 := E.T1.s.c
              have p2 := E.T1.t.c
              have p3 := E.T1.g.c
              have p4 := E.T1.h.c
              have p5 := E.T2.n.c
              have p6 := E.T2.s.c
              have p7 := E.T2.t.c
              have p8 := E.T2.g.c
              have p9 := E.T2.h.c
              have E0 := E.drew
              have E1 := E0.drew
              have E2 := E1.drew
              go_wp2_with fail
              go_region_held2 (fun W' => W'.cell? ⟨w.heap.size, 0, none⟩ = some (.pointer (some ⟨B1.n, 0, none⟩)) ∧ W'.cell? ⟨w.heap.size, 1, none⟩ = some (.pointer (some ⟨B1.s, 0, none⟩)) ∧ W'.cell? ⟨w.heap.size, 2, none⟩ = some (.pointer (some ⟨B1.t, 0, none⟩)) ∧ W'.cell? ⟨w.heap.size, 3, none⟩ = some (.pointer (some ⟨B1.g, 0, none⟩)) ∧ W'.cell? ⟨w.heap.size, 4, none⟩ = some (.pointer B1.hp) ∧ W'.cell? ⟨w.heap.size + 1, 0, none⟩ = some (.pointer (some ⟨B2.n, 0, none⟩)) ∧ W'.cell? ⟨w.heap.size + 1, 1, none⟩ = some (.pointer (some ⟨B2.s, 0, none⟩)) ∧ W'.cell? ⟨w.heap.size + 1, 2, none⟩ = some (.pointer (some ⟨B2.t, 0, none⟩)) ∧ W'.cell? ⟨w.heap.size + 1, 3, none⟩ = some (.pointer (some ⟨B2.g, 0, none⟩)) ∧ W'.cell? ⟨w.heap.size + 1, 4, none⟩ = some (.pointer B2.hp)) (go_keep)
                (first
                  | (go_at_call 11; with_reducible (refine Calls.mono (free_any B1.g k (A.F k) _ hlt (E0.S1.free k hlt)) ?_); rintro e w5 ⟨rfl, rfl⟩)
                  | (go_at_call 11; with_reducible (refine Calls.mono (free_any B2.g k (A.F k) _ hlt (E0.S2.free k hlt)) ?_); rintro e w5 ⟨rfl, rfl⟩))
              go_wp2_with fail
              go_region_held2 (fun W' => W'.cell? ⟨w.heap.size, 0, none⟩ = some (.pointer (some ⟨B1.n, 0, none⟩)) ∧ W'.cell? ⟨w.heap.size, 1, none⟩ = some (.pointer (some ⟨B1.s, 0, none⟩)) ∧ W'.cell? ⟨w.heap.size, 2, none⟩ = some (.pointer (some ⟨B1.t, 0, none⟩)) ∧ W'.cell? ⟨w.heap.size, 3, none⟩ = some (.pointer (some ⟨B1.g, 0, none⟩)) ∧ W'.cell? ⟨w.heap.size, 4, none⟩ = some (.pointer B1.hp) ∧ W'.cell? ⟨w.heap.size + 1, 0, none⟩ = some (.pointer (some ⟨B2.n, 0, none⟩)) ∧ W'.cell? ⟨w.heap.size + 1, 1, none⟩ = some (.pointer (some ⟨B2.s, 0, none⟩)) ∧ W'.cell? ⟨w.heap.size + 1, 2, none⟩ = some (.pointer (some ⟨B2.t, 0, none⟩)) ∧ W'.cell? ⟨w.heap.size + 1, 3, none⟩ = some (.pointer (some ⟨B2.g, 0, none⟩)) ∧ W'.cell? ⟨w.heap.size + 1, 4, none⟩ = some (.pointer B2.hp)) (go_keep)
                (first
                  | (go_at_call 12; with_reducible (refine Calls.mono (held_any B1.s k (A.H k) _ hlt (E1.S1.held k hlt)) ?_); rintro e w5 ⟨rfl, rfl⟩)
                  | (go_at_call 12; with_reducible (refine Calls.mono (held_any B2.s k (A.H k) _ hlt (E1.S2.held k hlt)) ?_); rintro e w5 ⟨rfl, rfl⟩))
              go_wp2_with fail
              go_region_held2 (fun W' => W'.cell? ⟨w.heap.size, 0, none⟩ = some (.pointer (some ⟨B1.n, 0, none⟩)) ∧ W'.cell? ⟨w.heap.size, 1, none⟩ = some (.pointer (some ⟨B1.s, 0, none⟩)) ∧ W'.cell? ⟨w.heap.size, 2, none⟩ = some (.pointer (some ⟨B1.t, 0, none⟩)) ∧ W'.cell? ⟨w.heap.size, 3, none⟩ = some (.pointer (some ⟨B1.g, 0, none⟩)) ∧ W'.cell? ⟨w.heap.size, 4, none⟩ = some (.pointer B1.hp) ∧ W'.cell? ⟨w.heap.size + 1, 0, none⟩ = some (.pointer (some ⟨B2.n, 0, none⟩)) ∧ W'.cell? ⟨w.heap.size + 1, 1, none⟩ = some (.pointer (some ⟨B2.s, 0, none⟩)) ∧ W'.cell? ⟨w.heap.size + 1, 2, none⟩ = some (.pointer (some ⟨B2.t, 0, none⟩)) ∧ W'.cell? ⟨w.heap.size + 1, 3, none⟩ = some (.pointer (some ⟨B2.g, 0, none⟩)) ∧ W'.cell? ⟨w.heap.size + 1, 4, none⟩ = some (.pointer B2.hp)) (go_keep)
                (first
                  | (go_at_call 12; with_reducible (refine Calls.mono (held_any B1.t k (A.T k) _ hlt (E2.S1.theld k hlt)) ?_); rintro e w5 ⟨rfl, rfl⟩)
                  | (go_at_call 12; with_reducible (refine Calls.mono (held_any B2.t k (A.T k) _ hlt (E2.S2.theld k hlt)) ?_); rintro e w5 ⟨rfl, rfl⟩))
              go_wp2
              go_roundw
              case rel => exact ⟨k + 1, by omega, by go_num, E2⟩
              case measure => simp [intOf]; omega
            · have p0 := E.T1.n.c
              have p1 := E.T1.s.c
              have p2 := E.T1.t.c
              have p3 := E.T1.g.c
              have p4 := E.T1.h.c
              have p5 := E.T2.n.c
              have p6 := E.T2.s.c
              have p7 := E.T2.t.c
              have p8 := E.T2.g.c
              have p9 := E.T2.h.c
              obtain ⟨cap1, _, G1⟩ := E.S1.gpus
              obtain ⟨cap2, _, G2⟩ := E.S2.gpus
              obtain ⟨L, hL⟩ : ∃ L, L = A.gOn.toNat + A.hOn.toNat := ⟨_, rfl⟩
              have HL : Hid (L = A.gOn.toNat + A.hOn.toNat) := hL
              have hL2 : L ≤ 2 := by rw [hL]; cases A.gOn <;> cases A.hOn <;> simp
              rw [← hL] at G1 G2
              clear hL
              go_wp2_with fail
              refine Calls.mono (gpus_any _ _ _ G1) ?_
              rintro e w5 ⟨rfl, rfl⟩
              go_wp2_with fail
              refine Calls.mono (gpus_any _ _ _ G2) ?_
              rintro e w6 ⟨rfl, rfl⟩
              go_wp2_with fail
              clear G1 G2 p0 p1 p2 p3 p4 p5 p6 p7 p8 p9
              go_loopw [14] (fun i wr => ∃ k : Nat, k ≤ L ∧ i = .int .i64 k ∧ Env w wr B1 B2 N A) (fun i _ => L - (intOf i).toNat)
              case atStart => exact ⟨0, Nat.zero_le _, rfl, E⟩
              case round =>
                clear E
                obtain ⟨k, hk, rfl, E⟩ := hrel
                by_cases hlt : k < L
                · have p0 := E.T1.n.c
                  have p1 := E.T1.s.c
                  have p2 := E.T1.t.c
                  have p3 := E.T1.g.c
                  have p4 := E.T1.h.c
                  have p5 := E.T2.n.c
                  have p6 := E.T2.s.c
                  have p7 := E.T2.t.c
                  have p8 := E.T2.g.c
                  have p9 := E.T2.h.c
                  have hk2 : k < A.gOn.toNat + A.hOn.toNat := by have := HL.out; omega
                  have x1 := (E.S1.xs.at k hk2).c
                  have x2 := (E.S2.xs.at k hk2).c
                  have E0 := E.drew
                  go_wp2_with fail
                  go_region_held2 (fun W' => W'.cell? ⟨w.heap.size, 0, none⟩ = some (.pointer (some ⟨B1.n, 0, none⟩)) ∧ W'.cell? ⟨w.heap.size, 1, none⟩ = some (.pointer (some ⟨B1.s, 0, none⟩)) ∧ W'.cell? ⟨w.heap.size, 2, none⟩ = some (.pointer (some ⟨B1.t, 0, none⟩)) ∧ W'.cell? ⟨w.heap.size, 3, none⟩ = some (.pointer (some ⟨B1.g, 0, none⟩)) ∧ W'.cell? ⟨w.heap.size, 4, none⟩ = some (.pointer B1.hp) ∧ W'.cell? ⟨w.heap.size + 1, 0, none⟩ = some (.pointer (some ⟨B2.n, 0, none⟩)) ∧ W'.cell? ⟨w.heap.size + 1, 1, none⟩ = some (.pointer (some ⟨B2.s, 0, none⟩)) ∧ W'.cell? ⟨w.heap.size + 1, 2, none⟩ = some (.pointer (some ⟨B2.t, 0, none⟩)) ∧ W'.cell? ⟨w.heap.size + 1, 3, none⟩ = some (.pointer (some ⟨B2.g, 0, none⟩)) ∧ W'.cell? ⟨w.heap.size + 1, 4, none⟩ = some (.pointer B2.hp) ∧ W'.cell? ⟨B1.x, k, none⟩ = some (.pointer (el A.gOn (some ⟨B1.g, 0, none⟩) B1.hp k)) ∧ W'.cell? ⟨B2.x, k, none⟩ = some (.pointer (el A.gOn (some ⟨B2.g, 0, none⟩) B2.hp k))) (go_keep)
                    (first
                      | (go_at_call 27; with_reducible (refine Calls.mono (E0.S1.roleG k hk2) ?_); rintro e w6 ⟨rfl, b6⟩; have E6 := E0.below b6; have q0 := E6.T1.n.c; have q1 := E6.T1.s.c; have q2 := E6.T1.t.c; have q3 := E6.T1.g.c; have q4 := E6.T1.h.c; have q5 := E6.T2.n.c; have q6 := E6.T2.s.c; have q7 := E6.T2.t.c; have q8 := E6.T2.g.c; have q9 := E6.T2.h.c; have y1 := (E6.S1.xs.at k hk2).c; have y2 := (E6.S2.xs.at k hk2).c)
                      | (go_at_call 27; with_reducible (refine Calls.mono (E6.S2.roleG k hk2) ?_); rintro e w7 ⟨rfl, b7⟩; have E7 := E6.below b7; have o0 := E7.T1.n.c; have o1 := E7.T1.s.c; have o2 := E7.T1.t.c; have o3 := E7.T1.g.c; have o4 := E7.T1.h.c; have o5 := E7.T2.n.c; have o6 := E7.T2.s.c; have o7 := E7.T2.t.c; have o8 := E7.T2.g.c; have o9 := E7.T2.h.c; have z1 := (E7.S1.xs.at k hk2).c; have z2 := (E7.S2.xs.at k hk2).c))
                  go_wp2
                  go_roundw
                  case rel => exact ⟨k + 1, by omega, by go_num, E7⟩
                  case measure => simp [intOf]; omega
                · have p0 := E.T1.n.c
                  have p1 := E.T1.s.c
                  have p2 := E.T1.t.c
                  have p3 := E.T1.g.c
                  have p4 := E.T1.h.c
                  have p5 := E.T2.n.c
                  have p6 := E.T2.s.c
                  have p7 := E.T2.t.c
                  have p8 := E.T2.g.c
                  have p9 := E.T2.h.c
                  have E0 := E.drew
                  clear HL
                  obtain ⟨cap3, _, G3⟩ := E0.S1.grants
                  obtain ⟨cap4, _, G4⟩ := E0.S2.grants
                  obtain ⟨M, hM⟩ : ∃ M, M = A.sOn.toNat + A.tOn.toNat := ⟨_, rfl⟩
                  have HL : Hid (M = A.sOn.toNat + A.tOn.toNat) := hM
                  have hM2 : M ≤ 2 := by rw [hM]; cases A.sOn <;> cases A.tOn <;> simp
                  rw [← hM] at G3 G4
                  clear hM
                  go_wp2_with fail
                  go_region_held2 (fun W' => W'.cell? ⟨w.heap.size, 0, none⟩ = some (.pointer (some ⟨B1.n, 0, none⟩)) ∧ W'.cell? ⟨w.heap.size, 1, none⟩ = some (.pointer (some ⟨B1.s, 0, none⟩)) ∧ W'.cell? ⟨w.heap.size, 2, none⟩ = some (.pointer (some ⟨B1.t, 0, none⟩)) ∧ W'.cell? ⟨w.heap.size, 3, none⟩ = some (.pointer (some ⟨B1.g, 0, none⟩)) ∧ W'.cell? ⟨w.heap.size, 4, none⟩ = some (.pointer B1.hp) ∧ W'.cell? ⟨w.heap.size + 1, 0, none⟩ = some (.pointer (some ⟨B2.n, 0, none⟩)) ∧ W'.cell? ⟨w.heap.size + 1, 1, none⟩ = some (.pointer (some ⟨B2.s, 0, none⟩)) ∧ W'.cell? ⟨w.heap.size + 1, 2, none⟩ = some (.pointer (some ⟨B2.t, 0, none⟩)) ∧ W'.cell? ⟨w.heap.size + 1, 3, none⟩ = some (.pointer (some ⟨B2.g, 0, none⟩)) ∧ W'.cell? ⟨w.heap.size + 1, 4, none⟩ = some (.pointer B2.hp)) (go_keep)
                    (first
                      | (go_at_call 15; with_reducible (refine Calls.mono (whole_any B1.g _ _ E0.S1.whole) ?_); rintro e w5 ⟨rfl, rfl⟩)
                      | (go_at_call 15; with_reducible (refine Calls.mono (whole_any B2.g _ _ E0.S2.whole) ?_); rintro e w5 ⟨rfl, rfl⟩))
                  go_wp2_with fail
                  refine Calls.mono (grants_any _ _ _ G3) ?_
                  rintro e w5 ⟨rfl, rfl⟩
                  go_wp2_with fail
                  refine Calls.mono (grants_any _ _ _ G4) ?_
                  rintro e w5 ⟨rfl, rfl⟩
                  go_wp2_with fail
                  clear G3 G4 p0 p1 p2 p3 p4 p5 p6 p7 p8 p9
                  go_loopw [17] (fun i wr => ∃ k : Nat, k ≤ M ∧ i = .int .i64 k ∧ Env w wr B1 B2 N A) (fun i _ => M - (intOf i).toNat)
                  case atStart => exact ⟨0, Nat.zero_le _, rfl, E0⟩
                  case round =>
                    clear E E0
                    obtain ⟨k, hk, rfl, E⟩ := hrel
                    by_cases hlt : k < M
                    · have p0 := E.T1.n.c
                      have p1 := E.T1.s.c
                      have p2 := E.T1.t.c
                      have p3 := E.T1.g.c
                      have p4 := E.T1.h.c
                      have p5 := E.T2.n.c
                      have p6 := E.T2.s.c
                      have p7 := E.T2.t.c
                      have p8 := E.T2.g.c
                      have p9 := E.T2.h.c
                      have hk2 : k < A.sOn.toNat + A.tOn.toNat := by have := HL.out; omega
                      have x1 := (E.S1.ys.at k hk2).c
                      have x2 := (E.S2.ys.at k hk2).c
                      have E0 := E.drew
                      go_wp2_with fail
                      go_region_held2 (fun W' => W'.cell? ⟨w.heap.size, 0, none⟩ = some (.pointer (some ⟨B1.n, 0, none⟩)) ∧ W'.cell? ⟨w.heap.size, 1, none⟩ = some (.pointer (some ⟨B1.s, 0, none⟩)) ∧ W'.cell? ⟨w.heap.size, 2, none⟩ = some (.pointer (some ⟨B1.t, 0, none⟩)) ∧ W'.cell? ⟨w.heap.size, 3, none⟩ = some (.pointer (some ⟨B1.g, 0, none⟩)) ∧ W'.cell? ⟨w.heap.size, 4, none⟩ = some (.pointer B1.hp) ∧ W'.cell? ⟨w.heap.size + 1, 0, none⟩ = some (.pointer (some ⟨B2.n, 0, none⟩)) ∧ W'.cell? ⟨w.heap.size + 1, 1, none⟩ = some (.pointer (some ⟨B2.s, 0, none⟩)) ∧ W'.cell? ⟨w.heap.size + 1, 2, none⟩ = some (.pointer (some ⟨B2.t, 0, none⟩)) ∧ W'.cell? ⟨w.heap.size + 1, 3, none⟩ = some (.pointer (some ⟨B2.g, 0, none⟩)) ∧ W'.cell? ⟨w.heap.size + 1, 4, none⟩ = some (.pointer B2.hp) ∧ W'.cell? ⟨B1.y, k, none⟩ = some (.pointer (el A.sOn (some ⟨B1.s, 0, none⟩) (some ⟨B1.t, 0, none⟩) k)) ∧ W'.cell? ⟨B2.y, k, none⟩ = some (.pointer (el A.sOn (some ⟨B2.s, 0, none⟩) (some ⟨B2.t, 0, none⟩) k))) (go_keep)
                        (first
                          | (go_at_call 26; with_reducible (refine Calls.mono (E0.S1.roleE A.sOn k) ?_); rintro e w6 ⟨rfl, b6⟩; have E6 := E0.below b6; have q0 := E6.T1.n.c; have q1 := E6.T1.s.c; have q2 := E6.T1.t.c; have q3 := E6.T1.g.c; have q4 := E6.T1.h.c; have q5 := E6.T2.n.c; have q6 := E6.T2.s.c; have q7 := E6.T2.t.c; have q8 := E6.T2.g.c; have q9 := E6.T2.h.c; have y1 := (E6.S1.ys.at k hk2).c; have y2 := (E6.S2.ys.at k hk2).c)
                          | (go_at_call 26; with_reducible (refine Calls.mono (E6.S2.roleE A.sOn k) ?_); rintro e w7 ⟨rfl, b7⟩; have E7 := E6.below b7; have o0 := E7.T1.n.c; have o1 := E7.T1.s.c; have o2 := E7.T1.t.c; have o3 := E7.T1.g.c; have o4 := E7.T1.h.c; have o5 := E7.T2.n.c; have o6 := E7.T2.s.c; have o7 := E7.T2.t.c; have o8 := E7.T2.g.c; have o9 := E7.T2.h.c; have z1 := (E7.S1.ys.at k hk2).c; have z2 := (E7.S2.ys.at k hk2).c))
                      go_wp2
                      go_roundw
                      case rel => exact ⟨k + 1, by omega, by go_num, E7⟩
                      case measure => simp [intOf]; omega
                    · go_wp2
                      go_ret
                      exact ⟨rfl, E.B⟩
end Go.Proofs.Qxb6612650aDoor
