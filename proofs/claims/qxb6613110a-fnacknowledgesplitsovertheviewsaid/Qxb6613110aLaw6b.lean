import Derived.Test.Qxb6613110aLaw6
namespace Go.Proofs.Qxb6613110a
open Go.RowKit

theorem ackIs_ret {w : World} {me : ByteArray} {cl : Int} {nk : Nat} {Bk : Nat → ByteArray} {Ck : Nat → Int} {A n' cap' : Nat} {B' : Nat → ByteArray} {C' : Nat → Int} {p : Nat} (hV : OwnVec w A n' cap' B' C') (hor : SetNew nk Bk Ck me cl n' B' C' p ∨ SetOld nk Bk Ck me cl n' B' C' p)
    (ak : Option Addr) (ck : Nat) (hk : VecAt w ak nk Bk Ck) (hnk : nk ≤ 4096) :
    Calls Try.prog 24 #[.slice (some ⟨A, 0, none⟩) n' cap', .slice ak nk ck, .string me, .int .u64 cl] w fun e w' => e = .returned (.bool true) ∧ Below w.heap.size w w' := by
  rcases hor with h | h
  · exact ackIs_new _ n' cap' B' C' ak nk ck Bk Ck me cl p w hnk hV.vec hk h
  · exact ackIs_old _ n' cap' B' C' ak nk ck Bk Ck me cl p w (by unfold maxLen; omega) hV.vec hk h

set_option maxHeartbeats 4000000 in
set_option maxRecDepth 100000 in
theorem law6 (me : ByteArray) (av : Option Addr) (nv cv : Nat) (V : VRow) (as_ : Option Addr) (ns cs : Nat) (Bs : Nat → ByteArray) (Cs : Nat → Int) (ak : Option Addr) (nk ck : Nat) (Bk : Nat → ByteArray) (Ck : Nat → Int) (kk : Int) (w : World)
    (I : Inp w me av nv V as_ ns cs Bs Cs ak nk ck Bk Ck) (hcv : nv ≤ cv) :
    Calls Try.prog 6 #[.string me, .slice av nv cv, .slice as_ ns cs, .slice ak nk ck, .int .i64 kk] w fun e w' => e = .returned (.bool true) ∧ Below w.heap.size w w' := by
  go_enter Try.func6, Try.ntmps6
  go_wp2_with fail
  refine (bytes6_any me av nv cv V as_ ns cs Bs Cs ak nk ck Bk Ck kk _ I.maxV I.maxS I.maxK I.view I.sum I.ack).mono ?_
  rintro e w1 ⟨⟨r1, rfl, _⟩, hb1⟩
  cases r1
  · go_wp2
    go_ret
    exact ⟨rfl, hb1⟩
  by_cases h1 : (4096 : Int) < (me.size : Int)
  · go_wp2
    go_ret
    exact ⟨rfl, hb1⟩
  by_cases h2 : (4096 : Int) < (nv : Int)
  · go_wp2
    go_ret
    exact ⟨rfl, hb1⟩
  by_cases h3 : (4096 : Int) < (ns : Int)
  · go_wp2
    go_ret
    exact ⟨rfl, hb1⟩
  by_cases h4 : (4096 : Int) < (nk : Int)
  · go_wp2
    go_ret
    exact ⟨rfl, hb1⟩
  have k1 : decide ((4096 : Int) < (me.size : Int)) = false := by simp; omega
  have k2 : decide ((4096 : Int) < (nv : Int)) = false := by simp; omega
  have k3 : decide ((4096 : Int) < (ns : Int)) = false := by simp; omega
  have k4 : decide ((4096 : Int) < (nk : Int)) = false := by simp; omega
  have hnv : nv ≤ 4096 := by omega
  have hns : ns ≤ 4096 := by omega
  have hnk : nk ≤ 4096 := by omega
  go_wp2_with fail
  clear k1 k2 k3 k4 h1 h2 h3 h4
  refine (sizeOK_any av nv cv V as_ ns cs Bs Cs ak nk ck Bk Ck _ _ I.maxV I.maxS I.maxK (I.view.below hb1) (I.sum.below hb1) (I.ack.below hb1)).mono ?_
  rintro e w2 ⟨⟨r2, rfl, _⟩, hb2'⟩
  have hb2 : Below w.heap.size w w2 := hb1.trans (hb2'.mono hb1.size)
  clear hb1 hb2'
  cases r2
  · go_wp2
    go_ret
    exact ⟨rfl, hb2⟩
  go_wp2_with fail
  refine (viewOK_any av nv cv V _ I.maxV (I.view.below hb2)).mono ?_
  rintro e w3 ⟨⟨r3, rfl, hr3⟩, hb3'⟩
  have hb3 : Below w.heap.size w w3 := hb2.trans (hb3'.mono hb2.size)
  clear hb2 hb3'
  cases r3
  · clear hr3
    go_wp2
    go_ret
    exact ⟨rfl, hb3⟩
  have HV := hr3 rfl
  clear hr3
  go_wp2_with fail
  refine (vecOK_any as_ ns cs Bs Cs _ I.maxS (I.sum.below hb3)).mono ?_
  rintro e w4 ⟨⟨r4, rfl, hr4⟩, hb4'⟩
  have hb4 : Below w.heap.size w w4 := hb3.trans (hb4'.mono hb3.size)
  clear hb3 hb4'
  cases r4
  · clear hr4
    go_wp2
    go_ret
    exact ⟨rfl, hb4⟩
  have HVS := hr4 rfl
  clear hr4
  go_wp2_with fail
  refine (vecOK_any ak nk ck Bk Ck _ I.maxK (I.ack.below hb4)).mono ?_
  rintro e w5 ⟨⟨r5, rfl, hr5⟩, hb5'⟩
  have hb5 : Below w.heap.size w w5 := hb4.trans (hb5'.mono hb4.size)
  clear hb4 hb5'
  cases r5
  · clear hr5
    go_wp2
    go_ret
    exact ⟨rfl, hb5⟩
  have HVK := hr5 rfl
  clear hr5
  have G : Given nv V ns Bs Cs nk Bk := ⟨hns, hnv, hnk, HVS, HVK, HV, I.ids, fun m => lookF_top m ns 0 (fun i _ hi => I.clocks i (by omega))⟩
  clear HVS HVK HV
  by_cases hk0 : kk < 0
  · go_wp2
    go_ret
    exact ⟨rfl, hb5⟩
  by_cases hk1 : (nv : Int) < kk
  · go_wp2
    go_ret
    exact ⟨rfl, hb5⟩
  obtain ⟨k, rfl⟩ := Int.eq_ofNat_of_zero_le (show 0 ≤ kk by omega)
  have hkn : k ≤ nv := by omega
  have kd0 : decide ((k : Int) < 0) = false := by simp
  have kd1 : decide ((nv : Int) < (k : Int)) = false := by simp; omega
  have hs1 := run_part (av := av) (nv := nv) (cv := cv) k (by omega)
  have hs2 := run_rest (av := av) (nv := nv) (cv := cv) k hkn
  have hvr := I.view.rest k hkn hcv
  have hvp := I.view.part k hkn
  generalize (if cv = k then av else av.map (·.add (k * 6))) = a2 at hs2 hvr
  go_wp2_with fail
  clear kd0 kd1 hk0 hk1
  refine (ackAfter_any me av nv cv V as_ ns cs Bs Cs ak nk ck Bk Ck _ G (I.view.below hb5) (I.sum.below hb5) (I.ack.below hb5) I.gone I.snil I.knil).mono ?_
  rintro e w6 ⟨⟨Aw, nw, cw, Bw, Cw, pw, rfl, hVw, hokw, hnw, hpw, hBw, hCw, horw⟩, hb6'⟩
  have hb6 : Below w.heap.size w w6 := hb5.trans (hb6'.mono hb5.size)
  have SW : Hid _ := self_at hokw hpw hBw hCw
  clear hb5 hb6' hBw hCw
  go_wp2_with fail
  refine (ackAfter_any me av k cv V as_ ns cs Bs Cs ak nk ck Bk Ck _ (G.part k hkn) (hvp.below hb6) (I.sum.below hb6) (I.ack.below hb6) (fun i hi => I.gone i (by omega)) I.snil I.knil).mono ?_
  rintro e w7 ⟨⟨Al, nl, cl, Bl, Cl, pl, rfl, hVl, hokl, hnl, hpl, hBl, hCl, horl⟩, hb7'⟩
  have hVw7 := hVw.below hb7'
  have hb7 : Below w.heap.size w w7 := hb6.trans (hb7'.mono hb6.size)
  have SL : Hid _ := self_at hokl hpl hBl hCl
  clear hb6 hb7' hBl hCl horl hVw
  go_wp2_with fail
  refine (ackAfter_any me a2 (nv - k) (cv - k) (shiftV V k) as_ ns cs Bs Cs ak nk ck Bk Ck _ (G.rest k hkn) (hvr.below hb7) (I.sum.below hb7) (I.ack.below hb7) (fun i hi => I.gone (k + i) (by omega)) I.snil I.knil).mono ?_
  rintro e w8 ⟨⟨Ar, nr, cr, Br, Cr, pr, rfl, hVr, hokr, hnr, hpr, hBr, hCr, horr⟩, hb8'⟩
  have hVw8 := hVw7.below hb8'
  have hVl8 := hVl.below hb8'
  have hb8 : Below w.heap.size w w8 := hb7.trans (hb8'.mono hb7.size)
  have SR : Hid _ := self_at hokr hpr hBr hCr
  clear hb7 hb8' hBr hCr horr hVw7 hVl hs1 hs2 hvp hvr
  have HW : Hid _ := want_split me nv k hkn V ns Bs Cs
  have HLE : want me nv V ns Bs Cs ≤ lookF Bs Cs me 0 ns := ownF_le_top V _ nv 0 _
  have HIS : Hid _ := ownF_is V (fun m => lookF Bs Cs m 0 ns) nv 0 (lookF Bs Cs me 0 ns)
  have HORW : Hid _ := horw
  clear horw
  have HWdef : Hid (want me nv V ns Bs Cs = ownF V (fun m => lookF Bs Cs m 0 ns) 0 nv (lookF Bs Cs me 0 ns)) := rfl
  generalize hWg : want me nv V ns Bs Cs = W at *
  generalize want me k V ns Bs Cs = L at *
  generalize want me (nv - k) (shiftV V k) ns Bs Cs = Rr at *
  clear hWg
  go_wp2_with fail
  refine (selfClock_any _ nw cw Bw Cw me _ (by unfold maxLen; omega) hVw8.vec).mono ?_
  rintro e w9 ⟨rfl, hb9'⟩
  rw [SW.out.1, SW.out.2]
  have hVl9 := hVl8.below hb9'
  have hVr9 := hVr.below hb9'
  have hVw9 := hVw8.below hb9'
  have hb9 : Below w.heap.size w w9 := hb8.trans (hb9'.mono hb8.size)
  clear hb8 hb9' hVl8 hVr hVw8
  go_wp2_with fail
  refine (selfClock_any _ nl cl Bl Cl me _ (by unfold maxLen; omega) hVl9.vec).mono ?_
  rintro e w10 ⟨rfl, hb10'⟩
  rw [SL.out.1, SL.out.2]
  have hVr10 := hVr9.below hb10'
  have hVw10 := hVw9.below hb10'
  have hb10 : Below w.heap.size w w10 := hb9.trans (hb10'.mono hb9.size)
  clear hb9 hb10' hVl9 hVr9 hVw9
  go_wp2_with fail
  refine (selfClock_any _ nr cr Br Cr me _ (by unfold maxLen; omega) hVr10.vec).mono ?_
  rintro e w11 ⟨rfl, hb11'⟩
  rw [SR.out.1, SR.out.2]
  have hVw11 := hVw10.below hb11'
  have hb11 : Below w.heap.size w w11 := hb10.trans (hb11'.mono hb10.size)
  clear hb10 hb11' hVr10 hVw10
  have HACK : Hid (Calls Try.prog 24 #[.slice (some ⟨Aw, 0, none⟩) nw cw, .slice ak nk ck, .string me, .int .u64 W] w11 fun e w' => e = .returned (.bool true) ∧ Below w11.heap.size w11 w') := ackIs_ret hVw11 HORW.out ak ck (I.ack.below hb11) hnk
  have hne : (W != W) = false := by simp
  by_cases hlr : Rr < L
  · obtain rfl : W = Rr := HW.out.1 hlr
    go_wp2_with fail
    refine Calls.mono HACK.out ?_
    rintro e w12 ⟨rfl, hb12'⟩
    have hb12 : Below w.heap.size w w12 := hb11.trans (hb12'.mono hb11.size)
    clear hb12' hb11 HACK hVw11
    go_wp2_with fail
    refine (lookup_any as_ ns cs Bs Cs me _ I.maxS (I.sum.below hb12)).mono ?_
    rintro e w13 ⟨rfl, hb13'⟩
    have hb13 : Below w.heap.size w w13 := hb12.trans (hb13'.mono hb12.size)
    clear hb12 hb13'
    cases hWO : (W == lookF Bs Cs me 0 ns)
    · have hex : ∃ i, i < nv ∧ cntB (V.st i) (V.gone i) = true ∧ lookF Bs Cs (V.id i) 0 ns = W := by
        rcases HIS.out with h | ⟨i, _, h2, h3, h4⟩
        · rw [← HWdef.out] at h; rw [h] at hWO; simp at hWO
        · rw [← HWdef.out] at h4; exact ⟨i, by omega, h3, h4⟩
      obtain ⟨x, hx1, hx2, hx3⟩ := hex
      have HX2 : Hid _ := hx2
      have HX3 : Hid _ := hx3
      clear hx2 hx3
      go_wp2_with fail
      go_loopw [22] (fun i wr => ∃ j : Nat, j ≤ x ∧ i = .int .i64 j ∧ Below w.heap.size w wr) (fun i _ => nv - (intOf i).toNat)
      case atStart => exact ⟨0, Nat.zero_le _, rfl, hb13⟩
      case round =>
        clear hb13
        obtain ⟨j, hj, rfl, hb⟩ := hrel
        have hlt : j < nv := by omega
        obtain ⟨bv, ov, xv, v0, v1, v2, v3, v4, v5⟩ := I.view
        have g0 := down hb (v0 j hlt)
        have g1 := down hb (v1 j hlt)
        have g2 := down hb (v2 j hlt)
        have g3 := down hb (v3 j hlt)
        have g4 := down hb (v4 j hlt)
        have g5 := down hb (v5 j hlt)
        have hix := ixAt (c := cv) Try.underlying22 sz38 xv j hlt
        clear v0 v1 v2 v3 v4 v5 xv
        go_wp2_with fail
        refine (counted_any _ _ _ _ _ _ _).mono ?_
        rintro e w14 ⟨rfl, hb14'⟩
        have q0 := down hb14' g0
        have hb14 : Below w.heap.size w w14 := hb.trans (hb14'.mono hb.size)
        clear g0 g1 g2 g3 g4 g5 hb hb14'
        cases hc : cntB (V.st j) (V.gone j)
        · have hjx : j ≠ x := fun e => by rw [e, HX2.out] at hc; simp at hc
          go_wp2
          go_roundw
          case rel => exact ⟨j + 1, by omega, by go_num, hb14⟩
          case measure => simp [intOf]; omega
        · go_wp2_with fail
          refine (lookup_any as_ ns cs Bs Cs _ _ I.maxS (I.sum.below hb14)).mono ?_
          rintro e w15 ⟨rfl, hb15'⟩
          have hb15 : Below w.heap.size w w15 := hb14.trans (hb15'.mono hb14.size)
          clear hb14 hb15' q0
          cases hl : (lookF Bs Cs (V.id j) 0 ns == W)
          · have hjx : j ≠ x := fun e => by rw [e, HX3.out] at hl; simp at hl
            go_wp2
            go_roundw
            case rel => exact ⟨j + 1, by omega, by go_num, hb15⟩
            case measure => simp [intOf]; omega
          · go_wp2
            go_ret
            exact ⟨rfl, hb15⟩
    · go_wp2
      go_ret
      exact ⟨rfl, hb13⟩
  · obtain rfl : W = L := HW.out.2 (by omega)
    go_wp2_with fail
    refine Calls.mono HACK.out ?_
    rintro e w12 ⟨rfl, hb12'⟩
    have hb12 : Below w.heap.size w w12 := hb11.trans (hb12'.mono hb11.size)
    clear hb12' hb11 HACK hVw11
    go_wp2_with fail
    refine (lookup_any as_ ns cs Bs Cs me _ I.maxS (I.sum.below hb12)).mono ?_
    rintro e w13 ⟨rfl, hb13'⟩
    have hb13 : Below w.heap.size w w13 := hb12.trans (hb13'.mono hb12.size)
    clear hb12 hb13'
    cases hWO : (W == lookF Bs Cs me 0 ns)
    · have hex : ∃ i, i < nv ∧ cntB (V.st i) (V.gone i) = true ∧ lookF Bs Cs (V.id i) 0 ns = W := by
        rcases HIS.out with h | ⟨i, _, h2, h3, h4⟩
        · rw [← HWdef.out] at h; rw [h] at hWO; simp at hWO
        · rw [← HWdef.out] at h4; exact ⟨i, by omega, h3, h4⟩
      obtain ⟨x, hx1, hx2, hx3⟩ := hex
      have HX2 : Hid _ := hx2
      have HX3 : Hid _ := hx3
      clear hx2 hx3
      go_wp2_with fail
      go_loopw [22] (fun i wr => ∃ j : Nat, j ≤ x ∧ i = .int .i64 j ∧ Below w.heap.size w wr) (fun i _ => nv - (intOf i).toNat)
      case atStart => exact ⟨0, Nat.zero_le _, rfl, hb13⟩
      case round =>
        clear hb13
        obtain ⟨j, hj, rfl, hb⟩ := hrel
        have hlt : j < nv := by omega
        obtain ⟨bv, ov, xv, v0, v1, v2, v3, v4, v5⟩ := I.view
        have g0 := down hb (v0 j hlt)
        have g1 := down hb (v1 j hlt)
        have g2 := down hb (v2 j hlt)
        have g3 := down hb (v3 j hlt)
        have g4 := down hb (v4 j hlt)
        have g5 := down hb (v5 j hlt)
        have hix := ixAt (c := cv) Try.underlying22 sz38 xv j hlt
        clear v0 v1 v2 v3 v4 v5 xv
        go_wp2_with fail
        refine (counted_any _ _ _ _ _ _ _).mono ?_
        rintro e w14 ⟨rfl, hb14'⟩
        have q0 := down hb14' g0
        have hb14 : Below w.heap.size w w14 := hb.trans (hb14'.mono hb.size)
        clear g0 g1 g2 g3 g4 g5 hb hb14'
        cases hc : cntB (V.st j) (V.gone j)
        · have hjx : j ≠ x := fun e => by rw [e, HX2.out] at hc; simp at hc
          go_wp2
          go_roundw
          case rel => exact ⟨j + 1, by omega, by go_num, hb14⟩
          case measure => simp [intOf]; omega
        · go_wp2_with fail
          refine (lookup_any as_ ns cs Bs Cs _ _ I.maxS (I.sum.below hb14)).mono ?_
          rintro e w15 ⟨rfl, hb15'⟩
          have hb15 : Below w.heap.size w w15 := hb14.trans (hb15'.mono hb14.size)
          clear hb14 hb15' q0
          cases hl : (lookF Bs Cs (V.id j) 0 ns == W)
          · have hjx : j ≠ x := fun e => by rw [e, HX3.out] at hl; simp at hl
            go_wp2
            go_roundw
            case rel => exact ⟨j + 1, by omega, by go_num, hb15⟩
            case measure => simp [intOf]; omega
          · go_wp2
            go_ret
            exact ⟨rfl, hb15⟩
    · go_wp2
      go_ret
      exact ⟨rfl, hb13⟩
end Go.Proofs.Qxb6613110a
