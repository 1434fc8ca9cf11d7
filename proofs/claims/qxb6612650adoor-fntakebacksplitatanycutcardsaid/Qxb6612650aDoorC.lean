import Derived.Test.Qxb6612650aDoorC1
namespace Go.Proofs.Qxb6612650aDoor
open Go.RowKit

theorem Tryd.info32 : (Tryd.prog.info? 32).map (fun i => (i.zero, i.size, i.bytes)) = some (some (.pointer none), 1, 8) := by kernel_rfl
/-- two elements in a row of their own -/
theorem app2 {w : World} {base e : Nat} {v u0 u1 : Value} (h : w.ownsRow base e 1 v 2 [u0, u1]) : ∃ x cap, v = .slice (some ⟨x, 0, none⟩) 2 cap ∧ base ≤ x ∧ 2 ≤ cap ∧ Cel w ⟨x, 0, none⟩ u0 ∧ Cel w ⟨x, 1, none⟩ u1 := by
  obtain ⟨_, h2⟩ := h
  rcases h2 with ⟨_, h3⟩ | ⟨g, cap, cur, hv, hb, hh, h2c, _, hs, ht⟩
  · omega
  · refine ⟨g, cap, hv, hb, h2c, cel_of_heap hh ?_, cel_of_heap hh ?_⟩
    · have hk := congrArg (fun l => l[0]?) ht
      simp only [List.getElem?_take, Array.getElem?_toList] at hk
      simpa using hk
    · have hk := congrArg (fun l => l[1]?) ht
      simp only [List.getElem?_take, Array.getElem?_toList] at hk
      simpa using hk
theorem one_holds {w : World} {b : Nat} {v : Value} (h : Cel w ⟨b, 0, none⟩ v) : ∀ a, (some ⟨b, 0, none⟩ : Option Addr) = some a → ∀ (j : Nat) u, ([v] : List Value)[j]? = some u → w.cell? (a.add j) = some u := by
  intro a ha j u hu
  cases ha
  cases j with
  | zero => simp at hu; subst hu; exact h.c
  | succ j => simp at hu
/-- five cells of another block are written -/
theorem cel5 {W : World} {z : Nat} {p : Addr} {v u0 u1 u2 u3 u4 : Value} (h : Cel W p v) (hz : p.block ≠ z) : Cel (((((W.setCell ⟨z, 0, none⟩ u0).setCell ⟨z, 1, none⟩ u1).setCell ⟨z, 2, none⟩ u2).setCell ⟨z, 3, none⟩ u3).setCell ⟨z, 4, none⟩ u4) p v := by
  have k : ∀ j, (⟨z, j, none⟩ : Addr) ≠ p := fun j e => hz (by rw [← e])
  exact ((((h.other _ (k 0)).other _ (k 1)).other _ (k 2)).other _ (k 3)).other _ (k 4)
theorem alive5 {W : World} {z b : Nat} {u0 u1 u2 u3 u4 : Value} (h : Alive W b) : Alive (((((W.setCell ⟨z, 0, none⟩ u0).setCell ⟨z, 1, none⟩ u1).setCell ⟨z, 2, none⟩ u2).setCell ⟨z, 3, none⟩ u3).setCell ⟨z, 4, none⟩ u4) b := ((((h.setCell _ _ _).setCell _ _ _).setCell _ _ _).setCell _ _ _).setCell _ _ _
theorem chan5 {W : World} {z b ch : Nat} {u0 u1 u2 u3 u4 : Value} (h : ChanAt W b ch) (hz : b ≠ z) : ChanAt (((((W.setCell ⟨z, 0, none⟩ u0).setCell ⟨z, 1, none⟩ u1).setCell ⟨z, 2, none⟩ u2).setCell ⟨z, 3, none⟩ u3).setCell ⟨z, 4, none⟩ u4) b ch :=
  ((((h.setCell _ (blk_ne (Ne.symm hz))).setCell _ (blk_ne (Ne.symm hz))).setCell _ (blk_ne (Ne.symm hz))).setCell _ (blk_ne (Ne.symm hz))).setCell _ (blk_ne (Ne.symm hz))

set_option maxHeartbeats 2000000 in
set_option maxRecDepth 100000 in
theorem build_any (a0 a1 : Option Addr) (n0 c0 n1 c1 : Nat) (C0 C1 : Nat → Int) (sW aO : Bool) (w : World) (hm0 : n0 ≤ 32768) (hm1 : n1 ≤ 32768) (hv0 : BytesAt w a0 n0 C0) (hv1 : BytesAt w a1 n1 C1) :
    Calls Tryd.prog 8 #[.slice a0 n0 c0, .slice a1 n1 c1, .bool sW, .bool aO] w fun e w' => BuildRes n0 n1 C0 C1 sW aO w e w' := by
  obtain ⟨s0, hs0⟩ : ∃ x, x = cnt (is1 C0) n0 := ⟨_, rfl⟩
  obtain ⟨s1, hs1⟩ : ∃ x, x = cnt (is1 C1) n1 := ⟨_, rfl⟩
  obtain ⟨t0, ht0⟩ : ∃ x, x = cnt (is2 C0) n0 := ⟨_, rfl⟩
  obtain ⟨t1, ht1⟩ : ∃ x, x = cnt (is2 C1) n1 := ⟨_, rfl⟩
  obtain ⟨f0, hf0⟩ : ∃ x, x = cnt (is3 C0) n0 := ⟨_, rfl⟩
  obtain ⟨f1, hf1⟩ : ∃ x, x = cnt (is3 C1) n1 := ⟨_, rfl⟩
  have l0 : s0 ≤ 32768 := by rw [hs0]; exact Nat.le_trans (cnt_le _ _) hm0
  have l1 : s1 ≤ 32768 := by rw [hs1]; exact Nat.le_trans (cnt_le _ _) hm1
  have l2 : t0 ≤ 32768 := by rw [ht0]; exact Nat.le_trans (cnt_le _ _) hm0
  have l3 : t1 ≤ 32768 := by rw [ht1]; exact Nat.le_trans (cnt_le _ _) hm1
  obtain ⟨W0, hW0⟩ : ∃ W0, W0 = w.alloc (.cells #[.pointer none, .pointer none, .pointer none, .pointer none, .pointer none] 34) := ⟨_, rfl⟩
  have hbW0 : Below w.heap.size w W0 := by rw [hW0]; exact (Below.refl _ _).alloc (Nat.le_refl _) _
  have K0 := count_any a0 n0 c0 C0 W0 (by omega) (hv0.below hbW0)
  have K1 := count_any a1 n1 c1 C1 W0 (by omega) (hv1.below hbW0)
  rw [← hs0, ← ht0, ← hf0] at K0
  rw [← hs1, ← ht1, ← hf1] at K1
  have EQ : Hid (s0 = cnt (is1 C0) n0 ∧ s1 = cnt (is1 C1) n1 ∧ t0 = cnt (is2 C0) n0 ∧ t1 = cnt (is2 C1) n1 ∧ f0 = cnt (is3 C0) n0 ∧ f1 = cnt (is3 C1) n1) := ⟨hs0, hs1, ht0, ht1, hf0, hf1⟩
  have HK0 : Hid _ := K0
  have HK1 : Hid _ := K1
  clear K0 K1 hs0 hs1 ht0 ht1 hf0 hf1
  have HV0 : Hid (BytesAt w a0 n0 C0) := hv0
  have HV1 : Hid (BytesAt w a1 n1 C1) := hv1
  clear hv0 hv1
  have HO0 : Hid (∀ W' s t, Below w.heap.size w W' → Calls Tryd.prog 21 #[.slice a0 n0 c0, .pointer s, .pointer t] W' fun e w' => e = .returned (.slice (some ⟨W'.heap.size, 0, none⟩) n0 n0) ∧ OwnAt w' W'.heap.size n0 (fun i => ownP s t (C0 i)) ∧ Below W'.heap.size W' w') := fun W' s t hb => owners_any a0 n0 c0 C0 s t W' hm0 (HV0.out.below hb)
  have HO1 : Hid (∀ W' s t, Below w.heap.size w W' → Calls Tryd.prog 21 #[.slice a1 n1 c1, .pointer s, .pointer t] W' fun e w' => e = .returned (.slice (some ⟨W'.heap.size, 0, none⟩) n1 n1) ∧ OwnAt w' W'.heap.size n1 (fun i => ownP s t (C1 i)) ∧ Below W'.heap.size W' w') := fun W' s t hb => owners_any a1 n1 c1 C1 s t W' hm1 (HV1.out.below hb)
  subst hW0
  go_enter Tryd.func8, Tryd.ntmps8
  go_wp2_with fail
  refine Calls.mono HK0.out ?_
  rintro e w1 ⟨rfl, rfl⟩
  go_wp2_with fail
  refine Calls.mono HK1.out ?_
  rintro e w1 ⟨rfl, rfl⟩
  clear HK0 HK1
  have T : TmpAt ((w.alloc (.cells #[.pointer none, .pointer none, .pointer none, .pointer none, .pointer none] 34)).alloc (.cells #[.pointer none, .pointer none, .pointer none, .pointer none, .pointer none] 34)) (w.heap.size + 1) none none none none none := by
    have e : (w.alloc (.cells #[.pointer none, .pointer none, .pointer none, .pointer none, .pointer none] 34)).heap.size = w.heap.size + 1 := by simp
    rw [← e]
    exact ⟨cel_new _ _ 34 0 _ rfl, cel_new _ _ 34 1 _ rfl, cel_new _ _ 34 2 _ rfl, cel_new _ _ 34 3 _ rfl, cel_new _ _ 34 4 _ rfl⟩
  have R : TmpAt ((w.alloc (.cells #[.pointer none, .pointer none, .pointer none, .pointer none, .pointer none] 34)).alloc (.cells #[.pointer none, .pointer none, .pointer none, .pointer none, .pointer none] 34)) w.heap.size none none none none none :=
    TmpAt.below ⟨cel_new _ _ 34 0 _ rfl, cel_new _ _ 34 1 _ rfl, cel_new _ _ 34 2 _ rfl, cel_new _ _ 34 3 _ rfl, cel_new _ _ 34 4 _ rfl⟩ ((Below.refl _ _).alloc (Nat.le_refl _) _)
  have BB : Below w.heap.size w ((w.alloc (.cells #[.pointer none, .pointer none, .pointer none, .pointer none, .pointer none] 34)).alloc (.cells #[.pointer none, .pointer none, .pointer none, .pointer none, .pointer none] 34)) := ((Below.refl _ _).alloc (Nat.le_refl _) _).alloc (by simp) _
  clear hbW0
  cases aO
  · go_wp2_with fail
    have hz : ((w.alloc (.cells #[.pointer none, .pointer none, .pointer none, .pointer none, .pointer none] 34)).alloc (.cells #[.pointer none, .pointer none, .pointer none, .pointer none, .pointer none] 34)).heap.size ≥ w.heap.size + 2 := by simp
    generalize ((w.alloc (.cells #[.pointer none, .pointer none, .pointer none, .pointer none, .pointer none] 34)).alloc (.cells #[.pointer none, .pointer none, .pointer none, .pointer none, .pointer none] 34)) = W at *
    refine Calls.mono (newGrant_any _ _ _ _) ?_
    rintro e w2 ⟨rfl, GS, b2, z2⟩
    have hs2 : W.heap.size < w2.heap.size := by omega
    clear z2
    replace T := T.below b2
    replace R := R.below b2
    replace BB := BB.trans (b2.mono BB.size)
    clear b2
    generalize W.heap.size = bs at *
    have kc := T.s.c
    have kf := T.s.f
    go_wp2_with fail
    replace T := T.set1 (some ⟨bs, 0, none⟩)
    replace R := R.other (b' := w.heap.size + 1) (j := 1) (.pointer (some ⟨bs, 0, none⟩)) (by omega)
    replace GS := GS.other (b' := w.heap.size + 1) (j := 1) (.pointer (some ⟨bs, 0, none⟩)) (by omega)
    replace BB := BB.setCell (p := ⟨w.heap.size + 1, 1, none⟩) (by simp) (.pointer (some ⟨bs, 0, none⟩))
    have hz3 : bs < (w2.setCell ⟨w.heap.size + 1, 1, none⟩ (.pointer (some ⟨bs, 0, none⟩))).heap.size := by simpa [World.setCell] using hs2
    clear kc kf hs2
    generalize w2.setCell ⟨w.heap.size + 1, 1, none⟩ (.pointer (some ⟨bs, 0, none⟩)) = W3 at *
    refine Calls.mono (newGrant_any _ _ _ _) ?_
    rintro e w4 ⟨rfl, GT, b4, z4⟩
    have hs4 : W3.heap.size < w4.heap.size := by omega
    clear z4
    replace T := T.below b4
    replace R := R.below b4
    replace GS := GS.below b4
    replace BB := BB.trans (b4.mono BB.size)
    clear b4
    generalize W3.heap.size = bt at *
    have kc := T.t.c
    have kf := T.t.f
    go_wp2_with fail
    replace T := T.set2 (some ⟨bt, 0, none⟩)
    replace R := R.other (b' := w.heap.size + 1) (j := 2) (.pointer (some ⟨bt, 0, none⟩)) (by omega)
    replace GS := GS.other (b' := w.heap.size + 1) (j := 2) (.pointer (some ⟨bt, 0, none⟩)) (by omega)
    replace GT := GT.other (b' := w.heap.size + 1) (j := 2) (.pointer (some ⟨bt, 0, none⟩)) (by omega)
    replace BB := BB.setCell (p := ⟨w.heap.size + 1, 2, none⟩) (by simp) (.pointer (some ⟨bt, 0, none⟩))
    have hz5 : bt < (w4.setCell ⟨w.heap.size + 1, 2, none⟩ (.pointer (some ⟨bt, 0, none⟩))).heap.size := by simpa [World.setCell] using hs4
    clear kc kf hs4
    generalize w4.setCell ⟨w.heap.size + 1, 2, none⟩ (.pointer (some ⟨bt, 0, none⟩)) = W5 at *
    have ks := T.s.c
    have kt := T.t.c
    have kg1 := T.g.c
    have kg2 := T.g.f
    have BBd : Below w.heap.size w W5.drew := BB.drew
    go_region_held3 (fun W' => W'.cell? ⟨w.heap.size + 1, 1, none⟩ = some (.pointer (some ⟨bs, 0, none⟩)) ∧ W'.cell? ⟨w.heap.size + 1, 2, none⟩ = some (.pointer (some ⟨bt, 0, none⟩))) (go_keep)
      (first
        | (go_at_call 21; with_reducible (refine Calls.mono (HO0.out _ _ _ BBd) ?_); rintro e w6 ⟨rfl, O6, b6⟩; have T6 := T.drew.below b6; have ks6 := T6.s.c; have kt6 := T6.t.c; have kg6 := T6.g.c; have kg6f := T6.g.f; have BB6 := BBd.trans (b6.mono BBd.size))
        | (go_at_call 21; with_reducible (refine Calls.mono (HO1.out _ _ _ BB6) ?_); rintro e w7 ⟨rfl, O7, b7⟩; have T7 := T6.below b7; have ks7 := T7.s.c; have kt7 := T7.t.c; have kg7 := T7.g.c; have kg7f := T7.g.f; have BB7 := BB6.trans (b7.mono BB6.size))
        | (go_at_call 20; refine Calls.mono (newGPU_any _ _ _ _ _ _ _ _ _ _ _) ?_; rintro e w8 ⟨rfl, GG, b8, z8⟩; have T8 := T7.below b8; have ks8 := T8.s.c; have kt8 := T8.t.c; have kg8 := T8.g.c; have kg8f := T8.g.f; have T9 := T8.set3 (some ⟨w7.heap.size, 0, none⟩); have ks9 := T9.s.c; have kt9 := T9.t.c))
    have y5 := hz5
    have y6 : W5.heap.size < w6.heap.size := O6.l.lt
    have y7 := O7.l.lt
    have ST : Stage w (w8.setCell ⟨w.heap.size + 1, 3, none⟩ (.pointer (some ⟨w7.heap.size, 0, none⟩))) ⟨bs, bt, W5.heap.size, w6.heap.size, w7.heap.size, n0, n1, fun i => ownP (some ⟨bs, 0, none⟩) (some ⟨bt, 0, none⟩) (C0 i), fun i => ownP (some ⟨bs, 0, none⟩) (some ⟨bt, 0, none⟩) (C1 i), sW, s0, s1, t0, t1, f0, f1⟩ none none (.slice none 0 0) (.slice none 0 0) :=
      ⟨T9, (((R.drew.below b6).below b7).below b8).other _ (by omega), (((GS.drew.below b6).below b7).below b8).other _ (by omega), (((GT.drew.below b6).below b7).below b8).other _ (by omega), GG.other _ (by omega), ((O6.below b7).below b8).other _ (by show w.heap.size + 1 ≠ W5.heap.size; omega), (O7.below b8).other _ (by omega), (BB7.trans (b8.mono BB7.size)).setCell (by simp) _, by simp only; omega, by simp only; omega, by simp only; omega, by simp only; omega, by simp only; omega, by simp only [World.setCell, Array.size_modify]; omega⟩
    clear T R GS GT BB ks kt kg1 kg2 BBd O6 b6 T6 ks6 kt6 kg6 kg6f BB6 O7 b7 T7 ks7 kt7 kg7 kg7f BB7 GG b8 z8 T8 ks8 kt8 kg8 kg8f T9 ks9 kt9 hz hz3 hz5 y5 y6 y7 HO0 HO1 HV0 HV1
    try clear ‹_ ∧ _›
    generalize w8.setCell ⟨w.heap.size + 1, 3, none⟩ (.pointer (some ⟨w7.heap.size, 0, none⟩)) = W9 at *
    generalize W5.heap.size = o0 at *
    generalize w6.heap.size = o1 at *
    generalize w7.heap.size = g at *
    clear w8 w7 w6 W5 w4 W3 w2 W
    have r0 := ST.q0
    have r1 := ST.q1
    have r2 := ST.q2
    have r3 := ST.q3
    have r4 := ST.q4
    have qx := ST.q5
    simp only at r0 r1 r2 r3 r4 qx
    have X0 := cel_new W9 #[.pointer (some ⟨g, 0, none⟩)] 32 0 _ rfl
    have ST1 := ST.alloc (.cells #[.pointer (some ⟨g, 0, none⟩)] 32)
    have k1 := ST.T.g.c
    have k2 := ST1.T.s.c
    simp only at k1 k2
    go_wp2_with fail
    refine Calls.mono (setGPUs_any _ _ _ _ _ _ ST1.S.gp) ?_
    rintro e w10 ⟨rfl, rfl⟩
    clear k1 k2 ST
    have ST := ST1.setS (.slice (some ⟨W9.heap.size, 0, none⟩) 1 1)
    simp only at ST
    have XT : Two ((W9.alloc (.cells #[.pointer (some ⟨g, 0, none⟩)] 32)).setCell ⟨bs, 1, none⟩ (.slice (some ⟨W9.heap.size, 0, none⟩) 1 1)) W9.heap.size true false (some ⟨g, 0, none⟩) none := ⟨fun _ => X0.other _ (blk_ne (by omega)), fun h => absurd h (by simp)⟩
    clear X0 ST1
    generalize (W9.alloc (.cells #[.pointer (some ⟨g, 0, none⟩)] 32)).setCell ⟨bs, 1, none⟩ (.slice (some ⟨W9.heap.size, 0, none⟩) 1 1) = W10 at *
    generalize W9.heap.size = x at *
    have qy : x < W10.heap.size := (XT.one rfl).lt
    have Y0 := cel_new W10 #[.pointer (some ⟨bs, 0, none⟩)] 31 0 _ rfl
    have ST1 := ST.alloc (.cells #[.pointer (some ⟨bs, 0, none⟩)] 31)
    replace XT := XT.below ((Below.refl _ _).alloc (Nat.le_refl _) (.cells #[.pointer (some ⟨bs, 0, none⟩)] 31))
    have k1 := ST.T.s.c
    simp only at k1
    by_cases ht : 0 < t0 + t1
    · have hto : Hid (true = decide (0 < t0 + t1)) := by unfold Hid; simp [ht]
      have ST2 := ST1.alloc (.cells #[.pointer (some ⟨g, 0, none⟩)] 32)
      have k2 := ST1.T.t.c
      have k3 := ST1.T.g.c
      simp only at k2 k3
      go_wp2_with fail
      refine Calls.mono (setGPUs_any _ _ _ _ _ _ ST2.U.gp) ?_
      rintro e w11 ⟨rfl, rfl⟩
      have ST3 := ST2.setT (.slice (some ⟨W10.heap.size + 1, 0, none⟩) 1 1)
      simp only at ST3
      have XT3 : Two (((W10.alloc (.cells #[.pointer (some ⟨bs, 0, none⟩)] 31)).alloc (.cells #[.pointer (some ⟨g, 0, none⟩)] 32)).setCell ⟨bt, 1, none⟩ (.slice (some ⟨W10.heap.size + 1, 0, none⟩) 1 1)) x true false (some ⟨g, 0, none⟩) none := ⟨fun e => ((XT.one e).alloc _).other _ (blk_ne (by omega)), fun e => ((XT.two e).alloc _).other _ (blk_ne (by omega))⟩
      have Y3 := (Y0.alloc (.cells #[.pointer (some ⟨g, 0, none⟩)] 32)).other (b := bt) (j := 1) (.slice (some ⟨W10.heap.size + 1, 0, none⟩) 1 1) (blk_ne (by omega))
      clear ST ST1 ST2 XT Y0 k1 k2 k3
      have qz := Y3.lt
      simp only at qz
      generalize ((W10.alloc (.cells #[.pointer (some ⟨bs, 0, none⟩)] 31)).alloc (.cells #[.pointer (some ⟨g, 0, none⟩)] 32)).setCell ⟨bt, 1, none⟩ (.slice (some ⟨W10.heap.size + 1, 0, none⟩) 1 1) = WQ at *
      generalize W10.heap.size = y0 at *
      have k4 := ST3.T.t.c
      simp only at k4
      have D0 := cel_new WQ #[.pointer (some ⟨bt, 0, none⟩)] 31 0 _ rfl
      have ST4 := ST3.alloc (.cells #[.pointer (some ⟨bt, 0, none⟩)] 31)
      have Y4 := Y3.alloc (.cells #[.pointer (some ⟨bt, 0, none⟩)] 31)
      have XT4 := XT3.below ((Below.refl _ _).alloc (Nat.le_refl _) (.cells #[.pointer (some ⟨bt, 0, none⟩)] 31))
      obtain ⟨i0, hi, hz0, hz1, hz2⟩ := info_parts Tryd.info31
      have HDH : Hid (∀ b, (some ⟨y0, 0, none⟩ : Option Addr) = some b → ∀ (j : Nat) u, ([.pointer (some ⟨bs, 0, none⟩)] : List Value)[j]? = some u → (WQ.alloc (.cells #[.pointer (some ⟨bt, 0, none⟩)] 31)).cell? (b.add j) = some u) := one_holds Y4
      have HDN : Hid (∀ (j : Nat) u, ([.pointer (some ⟨bt, 0, none⟩)] : List Value)[j]? = some u → (WQ.alloc (.cells #[.pointer (some ⟨bt, 0, none⟩)] 31)).cell? ((⟨WQ.heap.size, 0, none⟩ : Addr).add j) = some u) := one_holds D0 _ rfl
      clear Y3 XT3 ST3 D0 Y4
      go_wp2_with (first | (at_builtin; refine wpList_append_grows _ rfl (.tmp 92) (.tmp 95) 44 rfl 31 i0 (.pointer none) 1 8 Tryd.underlying44 hi hz0 hz1 hz2 rfl (by decide) (some ⟨y0, 0, none⟩) 1 1 [.pointer (some ⟨bs, 0, none⟩)] rfl (fun h => by cases h) rfl HDH.out ⟨WQ.heap.size, 0, none⟩ 1 1 [.pointer (some ⟨bt, 0, none⟩)] rfl rfl HDN.out (by simp [Value.oneCell']) (by omega) (by unfold maxLen; omega) (by omega) ?_; intro v1 W11 hown1 hg1; obtain ⟨y, cy, hve, hy1, hy2, Y5, Y6⟩ := app2 hown1; rw [hve]; have b13 : Below (WQ.alloc (.cells #[.pointer (some ⟨bt, 0, none⟩)] 31)).heap.size (WQ.alloc (.cells #[.pointer (some ⟨bt, 0, none⟩)] 31)) W11 := (Below.refl _ _).grown hg1 (Nat.le_refl _) (fun k hk => by cases hk); clear hve hown1 hg1) | fail)
      have ST1 := ST4.below b13
      have XT := XT4.below b13
      have YT : Two W11 y true true (some ⟨bs, 0, none⟩) (some ⟨bt, 0, none⟩) := ⟨fun _ => Y5, fun _ => Y6⟩
      have qy1 : y0 < y := by simp at hy1; omega
      clear ST4 XT4 b13 Y5 Y6 hy1 HDH HDN k4 hi hz0 hz1 hz2
      have qn : y < W11.heap.size := (YT.one rfl).lt
      refine Calls.mono (newNode_any _ _ _ _) ?_
      rintro e w12 ⟨rfl, N6, NC, b12, z12⟩
      clear z12
      have ST := ST1.below b12
      replace XT := XT.below b12
      replace YT := YT.below b12
      clear ST1 b12
      have qn2 : y < W11.heap.size + 1 := by omega
      have qc : W11.heap.size < W11.heap.size + 1 := by omega
      generalize W11.heap.size + 1 = n at *
      have k0 := ST.T.n.c
      have k0f := ST.T.n.f
      have ST2 := ST.setN (some ⟨n, 0, none⟩)
      have c0 := ST2.T.n.c
      have c1 := ST2.T.s.c
      have c2 := ST2.T.t.c
      have c3 := ST2.T.g.c
      have c4 := ST2.T.h.c
      have e0 := ST2.R.n.c
      have e1 := ST2.R.s.c
      have e2 := ST2.R.t.c
      have e3 := ST2.R.g.c
      have e4 := ST2.R.h.c
      have e0f := ST2.R.n.f
      have e1f := ST2.R.s.f
      have e2f := ST2.R.t.f
      have e3f := ST2.R.g.f
      have e4f := ST2.R.h.f
      simp only at k0 c0 c1 c2 c3 c4
      go_wp2
      have g0 := ST2.R.set0 (some ⟨n, 0, none⟩)
      have g1 := g0.set1 (some ⟨bs, 0, none⟩)
      have g2 := g1.set2 (some ⟨bt, 0, none⟩)
      have g3 := g2.set3 (some ⟨g, 0, none⟩)
      have g4 := g3.set4 none
      have f0' := g0.n.c
      have f1' := g1.s.c
      have f2' := g2.t.c
      have f3' := g3.g.c
      have f4' := g4.h.c
      clear g0 g1 g2 g3 g4
      refine bodyPost_ret (v := .agg #[.pointer (some ⟨n, 0, none⟩), .pointer (some ⟨bs, 0, none⟩), .pointer (some ⟨bt, 0, none⟩), .pointer (some ⟨g, 0, none⟩), .pointer none]) (by simp [results, Tryd.results8, go_sem, f0', f1', f2', f3', f4']) rfl ?_
      clear f0' f1' f2' f3' f4'
      have XT2 : Two (w12.setCell ⟨w.heap.size + 1, 0, none⟩ (.pointer (some ⟨n, 0, none⟩))) x true false (some ⟨g, 0, none⟩) (none.map fun b => ⟨b, 0, none⟩) := ⟨fun e => (XT.one e).other _ (blk_ne (by omega)), fun e => (XT.two e).other _ (blk_ne (by omega))⟩
      have YT2 : Two (w12.setCell ⟨w.heap.size + 1, 0, none⟩ (.pointer (some ⟨n, 0, none⟩))) y true true (some ⟨bs, 0, none⟩) (some ⟨bt, 0, none⟩) := ⟨fun e => (YT.one e).other _ (blk_ne (by omega)), fun e => (YT.two e).other _ (blk_ne (by omega))⟩
      have N62 := N6.other (b := w.heap.size + 1) (j := 0) (.pointer (some ⟨n, 0, none⟩)) (blk_ne (by omega))
      have NC2 := NC.setCell (b := w.heap.size + 1) (j := 0) (.pointer (some ⟨n, 0, none⟩)) (blk_ne (by omega))
      have BB2 := ST2.B
      clear ST XT YT N6 NC k0 k0f c0 c1 c2 c3 c4 e0 e1 e2 e3 e4 e0f e1f e2f e3f e4f
      generalize w12.setCell ⟨w.heap.size + 1, 0, none⟩ (.pointer (some ⟨n, 0, none⟩)) = Wn at *
      exact finish (aO := false) (tO := true) (hb := none) EQ.out hto.out (by simpa using ST2) XT2 YT2 N62 NC2 ⟨qn, qc⟩ (by simp ) (by simp ; omega) (by omega) (by omega) (by omega) (fun b e => by cases e) (fun e => by cases e) (fun p v hp hc => cel5 hc hp) (fun b ha => alive5 ha) (fun k c hk hc => chan5 hc hk) (((((BB2.setCell (by simp) _).setCell (by simp) _).setCell (by simp) _).setCell (by simp) _).setCell (by simp) _)
    · have hto : Hid (false = decide (0 < t0 + t1)) := by unfold Hid; simp; omega
      have YT : Two (W10.alloc (.cells #[.pointer (some ⟨bs, 0, none⟩)] 31)) W10.heap.size true false (some ⟨bs, 0, none⟩) (some ⟨bt, 0, none⟩) := ⟨fun _ => Y0, fun h => absurd h (by simp)⟩
      clear Y0 ST
      go_wp2_with fail
      clear k1
      generalize W10.alloc (.cells #[.pointer (some ⟨bs, 0, none⟩)] 31) = W11 at *
      generalize W10.heap.size = y at *
      have qn : y < W11.heap.size := (YT.one rfl).lt
      refine Calls.mono (newNode_any _ _ _ _) ?_
      rintro e w12 ⟨rfl, N6, NC, b12, z12⟩
      clear z12
      have ST := ST1.below b12
      replace XT := XT.below b12
      replace YT := YT.below b12
      clear ST1 b12
      have qn2 : y < W11.heap.size + 1 := by omega
      have qc : W11.heap.size < W11.heap.size + 1 := by omega
      generalize W11.heap.size + 1 = n at *
      have k0 := ST.T.n.c
      have k0f := ST.T.n.f
      have ST2 := ST.setN (some ⟨n, 0, none⟩)
      have c0 := ST2.T.n.c
      have c1 := ST2.T.s.c
      have c2 := ST2.T.t.c
      have c3 := ST2.T.g.c
      have c4 := ST2.T.h.c
      have e0 := ST2.R.n.c
      have e1 := ST2.R.s.c
      have e2 := ST2.R.t.c
      have e3 := ST2.R.g.c
      have e4 := ST2.R.h.c
      have e0f := ST2.R.n.f
      have e1f := ST2.R.s.f
      have e2f := ST2.R.t.f
      have e3f := ST2.R.g.f
      have e4f := ST2.R.h.f
      simp only at k0 c0 c1 c2 c3 c4
      go_wp2
      have g0 := ST2.R.set0 (some ⟨n, 0, none⟩)
      have g1 := g0.set1 (some ⟨bs, 0, none⟩)
      have g2 := g1.set2 (some ⟨bt, 0, none⟩)
      have g3 := g2.set3 (some ⟨g, 0, none⟩)
      have g4 := g3.set4 none
      have f0' := g0.n.c
      have f1' := g1.s.c
      have f2' := g2.t.c
      have f3' := g3.g.c
      have f4' := g4.h.c
      clear g0 g1 g2 g3 g4
      refine bodyPost_ret (v := .agg #[.pointer (some ⟨n, 0, none⟩), .pointer (some ⟨bs, 0, none⟩), .pointer (some ⟨bt, 0, none⟩), .pointer (some ⟨g, 0, none⟩), .pointer none]) (by simp [results, Tryd.results8, go_sem, f0', f1', f2', f3', f4']) rfl ?_
      clear f0' f1' f2' f3' f4'
      have XT2 : Two (w12.setCell ⟨w.heap.size + 1, 0, none⟩ (.pointer (some ⟨n, 0, none⟩))) x true false (some ⟨g, 0, none⟩) (none.map fun b => ⟨b, 0, none⟩) := ⟨fun e => (XT.one e).other _ (blk_ne (by omega)), fun e => (XT.two e).other _ (blk_ne (by omega))⟩
      have YT2 : Two (w12.setCell ⟨w.heap.size + 1, 0, none⟩ (.pointer (some ⟨n, 0, none⟩))) y true false (some ⟨bs, 0, none⟩) (some ⟨bt, 0, none⟩) := ⟨fun e => (YT.one e).other _ (blk_ne (by omega)), fun e => (YT.two e).other _ (blk_ne (by omega))⟩
      have N62 := N6.other (b := w.heap.size + 1) (j := 0) (.pointer (some ⟨n, 0, none⟩)) (blk_ne (by omega))
      have NC2 := NC.setCell (b := w.heap.size + 1) (j := 0) (.pointer (some ⟨n, 0, none⟩)) (blk_ne (by omega))
      have BB2 := ST2.B
      clear ST XT YT N6 NC k0 k0f c0 c1 c2 c3 c4 e0 e1 e2 e3 e4 e0f e1f e2f e3f e4f
      generalize w12.setCell ⟨w.heap.size + 1, 0, none⟩ (.pointer (some ⟨n, 0, none⟩)) = Wn at *
      exact finish (aO := false) (tO := false) (hb := none) EQ.out hto.out (by simpa using ST2) XT2 YT2 N62 NC2 ⟨qn, qc⟩ (by simp ) (by simp ) (by omega) (by omega) (by omega) (fun b e => by cases e) (fun e => by cases e) (fun p v hp hc => cel5 hc hp) (fun b ha => alive5 ha) (fun k c hk hc => chan5 hc hk) (((((BB2.setCell (by simp) _).setCell (by simp) _).setCell (by simp) _).setCell (by simp) _).setCell (by simp) _)
  · go_wp2_with fail
    have hz : ((w.alloc (.cells #[.pointer none, .pointer none, .pointer none, .pointer none, .pointer none] 34)).alloc (.cells #[.pointer none, .pointer none, .pointer none, .pointer none, .pointer none] 34)).heap.size ≥ w.heap.size + 2 := by simp
    generalize ((w.alloc (.cells #[.pointer none, .pointer none, .pointer none, .pointer none, .pointer none] 34)).alloc (.cells #[.pointer none, .pointer none, .pointer none, .pointer none, .pointer none] 34)) = W at *
    refine Calls.mono (newGrant_any _ _ _ _) ?_
    rintro e w2 ⟨rfl, GS, b2, z2⟩
    have hs2 : W.heap.size < w2.heap.size := by omega
    clear z2
    replace T := T.below b2
    replace R := R.below b2
    replace BB := BB.trans (b2.mono BB.size)
    clear b2
    generalize W.heap.size = bs at *
    have kc := T.s.c
    have kf := T.s.f
    go_wp2_with fail
    replace T := T.set1 (some ⟨bs, 0, none⟩)
    replace R := R.other (b' := w.heap.size + 1) (j := 1) (.pointer (some ⟨bs, 0, none⟩)) (by omega)
    replace GS := GS.other (b' := w.heap.size + 1) (j := 1) (.pointer (some ⟨bs, 0, none⟩)) (by omega)
    replace BB := BB.setCell (p := ⟨w.heap.size + 1, 1, none⟩) (by simp) (.pointer (some ⟨bs, 0, none⟩))
    have hz3 : bs < (w2.setCell ⟨w.heap.size + 1, 1, none⟩ (.pointer (some ⟨bs, 0, none⟩))).heap.size := by simpa [World.setCell] using hs2
    clear kc kf hs2
    generalize w2.setCell ⟨w.heap.size + 1, 1, none⟩ (.pointer (some ⟨bs, 0, none⟩)) = W3 at *
    refine Calls.mono (newGrant_any _ _ _ _) ?_
    rintro e w4 ⟨rfl, GT, b4, z4⟩
    have hs4 : W3.heap.size < w4.heap.size := by omega
    clear z4
    replace T := T.below b4
    replace R := R.below b4
    replace GS := GS.below b4
    replace BB := BB.trans (b4.mono BB.size)
    clear b4
    generalize W3.heap.size = bt at *
    have kc := T.t.c
    have kf := T.t.f
    go_wp2_with fail
    replace T := T.set2 (some ⟨bt, 0, none⟩)
    replace R := R.other (b' := w.heap.size + 1) (j := 2) (.pointer (some ⟨bt, 0, none⟩)) (by omega)
    replace GS := GS.other (b' := w.heap.size + 1) (j := 2) (.pointer (some ⟨bt, 0, none⟩)) (by omega)
    replace GT := GT.other (b' := w.heap.size + 1) (j := 2) (.pointer (some ⟨bt, 0, none⟩)) (by omega)
    replace BB := BB.setCell (p := ⟨w.heap.size + 1, 2, none⟩) (by simp) (.pointer (some ⟨bt, 0, none⟩))
    have hz5 : bt < (w4.setCell ⟨w.heap.size + 1, 2, none⟩ (.pointer (some ⟨bt, 0, none⟩))).heap.size := by simpa [World.setCell] using hs4
    clear kc kf hs4
    generalize w4.setCell ⟨w.heap.size + 1, 2, none⟩ (.pointer (some ⟨bt, 0, none⟩)) = W5 at *
    have ks := T.s.c
    have kt := T.t.c
    have kg1 := T.g.c
    have kg2 := T.g.f
    have BBd : Below w.heap.size w W5.drew := BB.drew
    go_region_held3 (fun W' => W'.cell? ⟨w.heap.size + 1, 1, none⟩ = some (.pointer (some ⟨bs, 0, none⟩)) ∧ W'.cell? ⟨w.heap.size + 1, 2, none⟩ = some (.pointer (some ⟨bt, 0, none⟩))) (go_keep)
      (first
        | (go_at_call 21; with_reducible (refine Calls.mono (HO0.out _ _ _ BBd) ?_); rintro e w6 ⟨rfl, O6, b6⟩; have T6 := T.drew.below b6; have ks6 := T6.s.c; have kt6 := T6.t.c; have kg6 := T6.g.c; have kg6f := T6.g.f; have BB6 := BBd.trans (b6.mono BBd.size))
        | (go_at_call 21; with_reducible (refine Calls.mono (HO1.out _ _ _ BB6) ?_); rintro e w7 ⟨rfl, O7, b7⟩; have T7 := T6.below b7; have ks7 := T7.s.c; have kt7 := T7.t.c; have kg7 := T7.g.c; have kg7f := T7.g.f; have BB7 := BB6.trans (b7.mono BB6.size))
        | (go_at_call 20; refine Calls.mono (newGPU_any _ _ _ _ _ _ _ _ _ _ _) ?_; rintro e w8 ⟨rfl, GG, b8, z8⟩; have T8 := T7.below b8; have ks8 := T8.s.c; have kt8 := T8.t.c; have kg8 := T8.g.c; have kg8f := T8.g.f; have T9 := T8.set3 (some ⟨w7.heap.size, 0, none⟩); have ks9 := T9.s.c; have kt9 := T9.t.c))
    have y5 := hz5
    have y6 : W5.heap.size < w6.heap.size := O6.l.lt
    have y7 := O7.l.lt
    have ST : Stage w (w8.setCell ⟨w.heap.size + 1, 3, none⟩ (.pointer (some ⟨w7.heap.size, 0, none⟩))) ⟨bs, bt, W5.heap.size, w6.heap.size, w7.heap.size, n0, n1, fun i => ownP (some ⟨bs, 0, none⟩) (some ⟨bt, 0, none⟩) (C0 i), fun i => ownP (some ⟨bs, 0, none⟩) (some ⟨bt, 0, none⟩) (C1 i), sW, (s0 : Int) + 1, s1, t0, t1, f0, f1⟩ none none (.slice none 0 0) (.slice none 0 0) :=
      ⟨T9, (((R.drew.below b6).below b7).below b8).other _ (by omega), (((GS.drew.below b6).below b7).below b8).other _ (by omega), (((GT.drew.below b6).below b7).below b8).other _ (by omega), GG.other _ (by omega), ((O6.below b7).below b8).other _ (by show w.heap.size + 1 ≠ W5.heap.size; omega), (O7.below b8).other _ (by omega), (BB7.trans (b8.mono BB7.size)).setCell (by simp) _, by simp only; omega, by simp only; omega, by simp only; omega, by simp only; omega, by simp only; omega, by simp only [World.setCell, Array.size_modify]; omega⟩
    clear T R GS GT BB ks kt kg1 kg2 BBd O6 b6 T6 ks6 kt6 kg6 kg6f BB6 O7 b7 T7 ks7 kt7 kg7 kg7f BB7 GG b8 z8 T8 ks8 kt8 kg8 kg8f T9 ks9 kt9 hz hz3 hz5 y5 y6 y7 HO0 HO1 HV0 HV1
    try clear ‹_ ∧ _›
    generalize w8.setCell ⟨w.heap.size + 1, 3, none⟩ (.pointer (some ⟨w7.heap.size, 0, none⟩)) = W9 at *
    generalize W5.heap.size = o0 at *
    generalize w6.heap.size = o1 at *
    generalize w7.heap.size = g at *
    clear w8 w7 w6 W5 w4 W3 w2 W
    have r0 := ST.q0
    have r1 := ST.q1
    have r2 := ST.q2
    have r3 := ST.q3
    have r4 := ST.q4
    have qx := ST.q5
    simp only at r0 r1 r2 r3 r4 qx
    have X0 := (cel_new W9 #[.pointer (some ⟨g, 0, none⟩)] 32 0 _ rfl).alloc (.cells #[.pointer (some ⟨bs, 0, none⟩)] 31)
    have ST1 := ST.alloc (.cells #[.pointer (some ⟨g, 0, none⟩)] 32)
    have ST2 := ST1.alloc (.cells #[.pointer (some ⟨bs, 0, none⟩)] 31)
    have k1 := ST.T.g.c
    have k2 := ST1.T.s.c
    simp only at k1 k2
    go_wp2_with fail
    clear k1 k2 ST ST1
    have hsz : W9.heap.size + 2 ≤ ((W9.alloc (.cells #[.pointer (some ⟨g, 0, none⟩)] 32)).alloc (.cells #[.pointer (some ⟨bs, 0, none⟩)] 31)).heap.size := by simp
    generalize ((W9.alloc (.cells #[.pointer (some ⟨g, 0, none⟩)] 32)).alloc (.cells #[.pointer (some ⟨bs, 0, none⟩)] 31)) = WA at *
    refine Calls.mono (newGPU_any _ _ _ _ _ _ _ _ _ _ _) ?_
    rintro e w10 ⟨rfl, GH, b10, z10⟩
    have ST := ST2.below b10
    replace X0 := X0.below b10
    have AH := GH.wh.l
    have qh : W9.heap.size < WA.heap.size := by omega
    have qh2 : WA.heap.size < w10.heap.size := by omega
    clear z10 GH b10 hsz ST2
    generalize W9.heap.size = x0 at *
    generalize WA.heap.size = hb at *
    have k3 := ST.T.h.c
    have k3f := ST.T.h.f
    go_upto_region 13 with fail
    have ST3 := ST.setH (some ⟨hb, 0, none⟩)
    have X3 := X0.other (b := w.heap.size + 1) (j := 4) (.pointer (some ⟨hb, 0, none⟩)) (blk_ne (by omega))
    have AH3 : Alive (w10.setCell ⟨w.heap.size + 1, 4, none⟩ (.pointer (some ⟨hb, 0, none⟩))) hb := AH.setCell _ _ _
    have qh3 : hb < (w10.setCell ⟨w.heap.size + 1, 4, none⟩ (.pointer (some ⟨hb, 0, none⟩))).heap.size := AH3.lt
    clear ST X0 AH k3 k3f
    generalize w10.setCell ⟨w.heap.size + 1, 4, none⟩ (.pointer (some ⟨hb, 0, none⟩)) = WB at *
    have k5 := ST3.T.h.c
    have D0 := cel_new WB #[.pointer (some ⟨hb, 0, none⟩)] 32 0 _ rfl
    have ST4 := ST3.alloc (.cells #[.pointer (some ⟨hb, 0, none⟩)] 32)
    have X4 := X3.alloc (.cells #[.pointer (some ⟨hb, 0, none⟩)] 32)
    have AH4 := AH3.below ((Below.refl _ _).alloc (Nat.le_refl _) (.cells #[.pointer (some ⟨hb, 0, none⟩)] 32))
    obtain ⟨i0, hi, hz0, hz1, hz2⟩ := info_parts Tryd.info32
    have HDH : Hid (∀ b, (some ⟨x0, 0, none⟩ : Option Addr) = some b → ∀ (j : Nat) u, ([.pointer (some ⟨g, 0, none⟩)] : List Value)[j]? = some u → (WB.alloc (.cells #[.pointer (some ⟨hb, 0, none⟩)] 32)).cell? (b.add j) = some u) := one_holds X4
    have HDN : Hid (∀ (j : Nat) u, ([.pointer (some ⟨hb, 0, none⟩)] : List Value)[j]? = some u → (WB.alloc (.cells #[.pointer (some ⟨hb, 0, none⟩)] 32)).cell? ((⟨WB.heap.size, 0, none⟩ : Addr).add j) = some u) := one_holds D0 _ rfl
    clear X3 ST3 AH3 D0 X4
    go_wp2_with (first | (at_builtin; refine wpList_append_grows _ rfl (.tmp 70) (.tmp 73) 40 rfl 32 i0 (.pointer none) 1 8 Tryd.underlying40 hi hz0 hz1 hz2 rfl (by decide) (some ⟨x0, 0, none⟩) 1 1 [.pointer (some ⟨g, 0, none⟩)] rfl (fun h => by cases h) rfl HDH.out ⟨WB.heap.size, 0, none⟩ 1 1 [.pointer (some ⟨hb, 0, none⟩)] rfl rfl HDN.out (by simp [Value.oneCell']) (by omega) (by unfold maxLen; omega) (by omega) ?_; intro v1 w14 hown1 hg1; obtain ⟨x, cx, hve, hx1, hx2, X5, X6⟩ := app2 hown1; rw [hve]; have b14 : Below (WB.alloc (.cells #[.pointer (some ⟨hb, 0, none⟩)] 32)).heap.size (WB.alloc (.cells #[.pointer (some ⟨hb, 0, none⟩)] 32)) w14 := (Below.refl _ _).grown hg1 (Nat.le_refl _) (fun k hk => by cases hk); clear hve hown1 hg1; have ST5 := ST4.below b14; have k6 := ST5.T.s.c; simp only at k6) | fail)
    refine Calls.mono (setGPUs_any _ _ _ _ _ _ ST5.S.gp) ?_
    rintro e w15 ⟨rfl, rfl⟩
    have ST := ST5.setS (.slice (some ⟨x, 0, none⟩) 2 cx)
    simp only at ST
    have qx1 : hb < x := by simp at hx1; omega
    have XT : Two (w14.setCell ⟨bs, 1, none⟩ (.slice (some ⟨x, 0, none⟩) 2 cx)) x true true (some ⟨g, 0, none⟩) (some ⟨hb, 0, none⟩) := ⟨fun _ => X5.other _ (blk_ne (by omega)), fun _ => X6.other _ (blk_ne (by omega))⟩
    have AH : Alive (w14.setCell ⟨bs, 1, none⟩ (.slice (some ⟨x, 0, none⟩) 2 cx)) hb := (AH4.below b14).setCell _ _ _
    clear ST5 ST4 AH4 b14 X5 X6 hx1 k6 k5 hi hz0 hz1 hz2 HDH HDN
    generalize w14.setCell ⟨bs, 1, none⟩ (.slice (some ⟨x, 0, none⟩) 2 cx) = W10 at *
    have qy : x < W10.heap.size := (XT.one rfl).lt
    have Y0 := cel_new W10 #[.pointer (some ⟨bs, 0, none⟩)] 31 0 _ rfl
    have ST1 := ST.alloc (.cells #[.pointer (some ⟨bs, 0, none⟩)] 31)
    replace XT := XT.below ((Below.refl _ _).alloc (Nat.le_refl _) (.cells #[.pointer (some ⟨bs, 0, none⟩)] 31))
    replace AH := AH.below ((Below.refl _ _).alloc (Nat.le_refl _) (.cells #[.pointer (some ⟨bs, 0, none⟩)] 31))
    have k1 := ST.T.s.c
    simp only at k1
    by_cases ht : 0 < t0 + t1
    · have hto : Hid (true = decide (0 < t0 + t1)) := by unfold Hid; simp [ht]
      have ST2 := ST1.alloc (.cells #[.pointer (some ⟨g, 0, none⟩)] 32)
      have k2 := ST1.T.t.c
      have k3 := ST1.T.g.c
      simp only at k2 k3
      go_wp2_with fail
      refine Calls.mono (setGPUs_any _ _ _ _ _ _ ST2.U.gp) ?_
      rintro e w11 ⟨rfl, rfl⟩
      have ST3 := ST2.setT (.slice (some ⟨W10.heap.size + 1, 0, none⟩) 1 1)
      simp only at ST3
      have XT3 : Two (((W10.alloc (.cells #[.pointer (some ⟨bs, 0, none⟩)] 31)).alloc (.cells #[.pointer (some ⟨g, 0, none⟩)] 32)).setCell ⟨bt, 1, none⟩ (.slice (some ⟨W10.heap.size + 1, 0, none⟩) 1 1)) x true true (some ⟨g, 0, none⟩) (some ⟨hb, 0, none⟩) := ⟨fun e => ((XT.one e).alloc _).other _ (blk_ne (by omega)), fun e => ((XT.two e).alloc _).other _ (blk_ne (by omega))⟩
      have Y3 := (Y0.alloc (.cells #[.pointer (some ⟨g, 0, none⟩)] 32)).other (b := bt) (j := 1) (.slice (some ⟨W10.heap.size + 1, 0, none⟩) 1 1) (blk_ne (by omega))
      replace AH := (AH.below ((Below.refl _ _).alloc (Nat.le_refl _) (.cells #[.pointer (some ⟨g, 0, none⟩)] 32))).setCell bt 1 (.slice (some ⟨W10.heap.size + 1, 0, none⟩) 1 1)
      clear ST ST1 ST2 XT Y0 k1 k2 k3
      have qz := Y3.lt
      simp only at qz
      generalize ((W10.alloc (.cells #[.pointer (some ⟨bs, 0, none⟩)] 31)).alloc (.cells #[.pointer (some ⟨g, 0, none⟩)] 32)).setCell ⟨bt, 1, none⟩ (.slice (some ⟨W10.heap.size + 1, 0, none⟩) 1 1) = WQ at *
      generalize W10.heap.size = y0 at *
      have k4 := ST3.T.t.c
      simp only at k4
      have D0 := cel_new WQ #[.pointer (some ⟨bt, 0, none⟩)] 31 0 _ rfl
      have ST4 := ST3.alloc (.cells #[.pointer (some ⟨bt, 0, none⟩)] 31)
      have Y4 := Y3.alloc (.cells #[.pointer (some ⟨bt, 0, none⟩)] 31)
      have XT4 := XT3.below ((Below.refl _ _).alloc (Nat.le_refl _) (.cells #[.pointer (some ⟨bt, 0, none⟩)] 31))
      replace AH := AH.below ((Below.refl _ _).alloc (Nat.le_refl _) (.cells #[.pointer (some ⟨bt, 0, none⟩)] 31))
      obtain ⟨i0, hi, hz0, hz1, hz2⟩ := info_parts Tryd.info31
      have HDH : Hid (∀ b, (some ⟨y0, 0, none⟩ : Option Addr) = some b → ∀ (j : Nat) u, ([.pointer (some ⟨bs, 0, none⟩)] : List Value)[j]? = some u → (WQ.alloc (.cells #[.pointer (some ⟨bt, 0, none⟩)] 31)).cell? (b.add j) = some u) := one_holds Y4
      have HDN : Hid (∀ (j : Nat) u, ([.pointer (some ⟨bt, 0, none⟩)] : List Value)[j]? = some u → (WQ.alloc (.cells #[.pointer (some ⟨bt, 0, none⟩)] 31)).cell? ((⟨WQ.heap.size, 0, none⟩ : Addr).add j) = some u) := one_holds D0 _ rfl
      clear Y3 XT3 ST3 D0 Y4
      go_wp2_with (first | (at_builtin; refine wpList_append_grows _ rfl (.tmp 92) (.tmp 95) 44 rfl 31 i0 (.pointer none) 1 8 Tryd.underlying44 hi hz0 hz1 hz2 rfl (by decide) (some ⟨y0, 0, none⟩) 1 1 [.pointer (some ⟨bs, 0, none⟩)] rfl (fun h => by cases h) rfl HDH.out ⟨WQ.heap.size, 0, none⟩ 1 1 [.pointer (some ⟨bt, 0, none⟩)] rfl rfl HDN.out (by simp [Value.oneCell']) (by omega) (by unfold maxLen; omega) (by omega) ?_; intro v1 W11 hown1 hg1; obtain ⟨y, cy, hve, hy1, hy2, Y5, Y6⟩ := app2 hown1; rw [hve]; have b13 : Below (WQ.alloc (.cells #[.pointer (some ⟨bt, 0, none⟩)] 31)).heap.size (WQ.alloc (.cells #[.pointer (some ⟨bt, 0, none⟩)] 31)) W11 := (Below.refl _ _).grown hg1 (Nat.le_refl _) (fun k hk => by cases hk); clear hve hown1 hg1) | fail)
      have ST1 := ST4.below b13
      have XT := XT4.below b13
      replace AH := AH.below b13
      have YT : Two W11 y true true (some ⟨bs, 0, none⟩) (some ⟨bt, 0, none⟩) := ⟨fun _ => Y5, fun _ => Y6⟩
      have qy1 : y0 < y := by simp at hy1; omega
      clear ST4 XT4 b13 Y5 Y6 hy1 HDH HDN k4 hi hz0 hz1 hz2
      have qn : y < W11.heap.size := (YT.one rfl).lt
      refine Calls.mono (newNode_any _ _ _ _) ?_
      rintro e w12 ⟨rfl, N6, NC, b12, z12⟩
      clear z12
      have ST := ST1.below b12
      replace XT := XT.below b12
      replace YT := YT.below b12
      replace AH := AH.below b12
      clear ST1 b12
      have qn2 : y < W11.heap.size + 1 := by omega
      have qc : W11.heap.size < W11.heap.size + 1 := by omega
      generalize W11.heap.size + 1 = n at *
      have k0 := ST.T.n.c
      have k0f := ST.T.n.f
      have ST2 := ST.setN (some ⟨n, 0, none⟩)
      have c0 := ST2.T.n.c
      have c1 := ST2.T.s.c
      have c2 := ST2.T.t.c
      have c3 := ST2.T.g.c
      have c4 := ST2.T.h.c
      have e0 := ST2.R.n.c
      have e1 := ST2.R.s.c
      have e2 := ST2.R.t.c
      have e3 := ST2.R.g.c
      have e4 := ST2.R.h.c
      have e0f := ST2.R.n.f
      have e1f := ST2.R.s.f
      have e2f := ST2.R.t.f
      have e3f := ST2.R.g.f
      have e4f := ST2.R.h.f
      simp only at k0 c0 c1 c2 c3 c4
      go_wp2
      have g0 := ST2.R.set0 (some ⟨n, 0, none⟩)
      have g1 := g0.set1 (some ⟨bs, 0, none⟩)
      have g2 := g1.set2 (some ⟨bt, 0, none⟩)
      have g3 := g2.set3 (some ⟨g, 0, none⟩)
      have g4 := g3.set4 (some ⟨hb, 0, none⟩)
      have f0' := g0.n.c
      have f1' := g1.s.c
      have f2' := g2.t.c
      have f3' := g3.g.c
      have f4' := g4.h.c
      clear g0 g1 g2 g3 g4
      refine bodyPost_ret (v := .agg #[.pointer (some ⟨n, 0, none⟩), .pointer (some ⟨bs, 0, none⟩), .pointer (some ⟨bt, 0, none⟩), .pointer (some ⟨g, 0, none⟩), .pointer (some ⟨hb, 0, none⟩)]) (by simp [results, Tryd.results8, go_sem, f0', f1', f2', f3', f4']) rfl ?_
      clear f0' f1' f2' f3' f4'
      have XT2 : Two (w12.setCell ⟨w.heap.size + 1, 0, none⟩ (.pointer (some ⟨n, 0, none⟩))) x true true (some ⟨g, 0, none⟩) ((some hb).map fun b => ⟨b, 0, none⟩) := ⟨fun e => (XT.one e).other _ (blk_ne (by omega)), fun e => (XT.two e).other _ (blk_ne (by omega))⟩
      have YT2 : Two (w12.setCell ⟨w.heap.size + 1, 0, none⟩ (.pointer (some ⟨n, 0, none⟩))) y true true (some ⟨bs, 0, none⟩) (some ⟨bt, 0, none⟩) := ⟨fun e => (YT.one e).other _ (blk_ne (by omega)), fun e => (YT.two e).other _ (blk_ne (by omega))⟩
      have N62 := N6.other (b := w.heap.size + 1) (j := 0) (.pointer (some ⟨n, 0, none⟩)) (blk_ne (by omega))
      have NC2 := NC.setCell (b := w.heap.size + 1) (j := 0) (.pointer (some ⟨n, 0, none⟩)) (blk_ne (by omega))
      have BB2 := ST2.B
      have AH2 : Alive (w12.setCell ⟨w.heap.size + 1, 0, none⟩ (.pointer (some ⟨n, 0, none⟩))) hb := AH.setCell _ _ _
      clear AH
      clear ST XT YT N6 NC k0 k0f c0 c1 c2 c3 c4 e0 e1 e2 e3 e4 e0f e1f e2f e3f e4f
      generalize w12.setCell ⟨w.heap.size + 1, 0, none⟩ (.pointer (some ⟨n, 0, none⟩)) = Wn at *
      exact finish (aO := true) (tO := true) (hb := (some hb)) EQ.out hto.out (by simpa using ST2) XT2 YT2 N62 NC2 ⟨qn, qc⟩ (by simp ; omega) (by simp ; omega) (by omega) (by omega) (by omega) (fun b e => by cases e; exact ⟨by omega, by omega, AH2⟩) (fun _ e => by cases e) (fun p v hp hc => cel5 hc hp) (fun b ha => alive5 ha) (fun k c hk hc => chan5 hc hk) (((((BB2.setCell (by simp) _).setCell (by simp) _).setCell (by simp) _).setCell (by simp) _).setCell (by simp) _)
    · have hto : Hid (false = decide (0 < t0 + t1)) := by unfold Hid; simp; omega
      have YT : Two (W10.alloc (.cells #[.pointer (some ⟨bs, 0, none⟩)] 31)) W10.heap.size true false (some ⟨bs, 0, none⟩) (some ⟨bt, 0, none⟩) := ⟨fun _ => Y0, fun h => absurd h (by simp)⟩
      clear Y0 ST
      go_wp2_with fail
      clear k1
      generalize W10.alloc (.cells #[.pointer (some ⟨bs, 0, none⟩)] 31) = W11 at *
      generalize W10.heap.size = y at *
      have qn : y < W11.heap.size := (YT.one rfl).lt
      refine Calls.mono (newNode_any _ _ _ _) ?_
      rintro e w12 ⟨rfl, N6, NC, b12, z12⟩
      clear z12
      have ST := ST1.below b12
      replace XT := XT.below b12
      replace YT := YT.below b12
      replace AH := AH.below b12
      clear ST1 b12
      have qn2 : y < W11.heap.size + 1 := by omega
      have qc : W11.heap.size < W11.heap.size + 1 := by omega
      generalize W11.heap.size + 1 = n at *
      have k0 := ST.T.n.c
      have k0f := ST.T.n.f
      have ST2 := ST.setN (some ⟨n, 0, none⟩)
      have c0 := ST2.T.n.c
      have c1 := ST2.T.s.c
      have c2 := ST2.T.t.c
      have c3 := ST2.T.g.c
      have c4 := ST2.T.h.c
      have e0 := ST2.R.n.c
      have e1 := ST2.R.s.c
      have e2 := ST2.R.t.c
      have e3 := ST2.R.g.c
      have e4 := ST2.R.h.c
      have e0f := ST2.R.n.f
      have e1f := ST2.R.s.f
      have e2f := ST2.R.t.f
      have e3f := ST2.R.g.f
      have e4f := ST2.R.h.f
      simp only at k0 c0 c1 c2 c3 c4
      go_wp2
      have g0 := ST2.R.set0 (some ⟨n, 0, none⟩)
      have g1 := g0.set1 (some ⟨bs, 0, none⟩)
      have g2 := g1.set2 (some ⟨bt, 0, none⟩)
      have g3 := g2.set3 (some ⟨g, 0, none⟩)
      have g4 := g3.set4 (some ⟨hb, 0, none⟩)
      have f0' := g0.n.c
      have f1' := g1.s.c
      have f2' := g2.t.c
      have f3' := g3.g.c
      have f4' := g4.h.c
      clear g0 g1 g2 g3 g4
      refine bodyPost_ret (v := .agg #[.pointer (some ⟨n, 0, none⟩), .pointer (some ⟨bs, 0, none⟩), .pointer (some ⟨bt, 0, none⟩), .pointer (some ⟨g, 0, none⟩), .pointer (some ⟨hb, 0, none⟩)]) (by simp [results, Tryd.results8, go_sem, f0', f1', f2', f3', f4']) rfl ?_
      clear f0' f1' f2' f3' f4'
      have XT2 : Two (w12.setCell ⟨w.heap.size + 1, 0, none⟩ (.pointer (some ⟨n, 0, none⟩))) x true true (some ⟨g, 0, none⟩) ((some hb).map fun b => ⟨b, 0, none⟩) := ⟨fun e => (XT.one e).other _ (blk_ne (by omega)), fun e => (XT.two e).other _ (blk_ne (by omega))⟩
      have YT2 : Two (w12.setCell ⟨w.heap.size + 1, 0, none⟩ (.pointer (some ⟨n, 0, none⟩))) y true false (some ⟨bs, 0, none⟩) (some ⟨bt, 0, none⟩) := ⟨fun e => (YT.one e).other _ (blk_ne (by omega)), fun e => (YT.two e).other _ (blk_ne (by omega))⟩
      have N62 := N6.other (b := w.heap.size + 1) (j := 0) (.pointer (some ⟨n, 0, none⟩)) (blk_ne (by omega))
      have NC2 := NC.setCell (b := w.heap.size + 1) (j := 0) (.pointer (some ⟨n, 0, none⟩)) (blk_ne (by omega))
      have BB2 := ST2.B
      have AH2 : Alive (w12.setCell ⟨w.heap.size + 1, 0, none⟩ (.pointer (some ⟨n, 0, none⟩))) hb := AH.setCell _ _ _
      clear AH
      clear ST XT YT N6 NC k0 k0f c0 c1 c2 c3 c4 e0 e1 e2 e3 e4 e0f e1f e2f e3f e4f
      generalize w12.setCell ⟨w.heap.size + 1, 0, none⟩ (.pointer (some ⟨n, 0, none⟩)) = Wn at *
      exact finish (aO := true) (tO := false) (hb := (some hb)) EQ.out hto.out (by simpa using ST2) XT2 YT2 N62 NC2 ⟨qn, qc⟩ (by simp ; omega) (by simp ) (by omega) (by omega) (by omega) (fun b e => by cases e; exact ⟨by omega, by omega, AH2⟩) (fun _ e => by cases e) (fun p v hp hc => cel5 hc hp) (fun b ha => alive5 ha) (fun k c hk hc => chan5 hc hk) (((((BB2.setCell (by simp) _).setCell (by simp) _).setCell (by simp) _).setCell (by simp) _).setCell (by simp) _)
end Go.Proofs.Qxb6612650aDoor
