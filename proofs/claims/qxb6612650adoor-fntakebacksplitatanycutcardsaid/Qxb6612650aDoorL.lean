import Derived.Test.Qxb6612650aDoorK
namespace Go.Proofs.Qxb6612650aDoor
open Go.RowKit

set_option maxHeartbeats 1000000 in
set_option maxRecDepth 100000 in
theorem takeBack_any (B : TB) (N : Nat → Nat) (A : AS) (r m c ch : Nat) (a : Option Addr) (U : Nat → Int) (w : World) (hm : ∀ q, q < 2 → N q ≤ 32768) (hmm : m ≤ 32768) (hr : r < 2) (h : StAt w B N A) (hCh : ChanAt w B.n ch) (hG : Glob w)
    (hU : IntsAt w a m U) (hin : ∀ i, i < m → 0 ≤ U i ∧ U i < N r) (hoff : ∀ x, a = some x → x.block ∉ B.blocks) (hg0 : 0 ∉ B.blocks) (hx : ∀ b, B.h = some b → b ∉ B.blocks)
    (hF : 0 ≤ A.F r ∧ A.F r ≤ 100000) (hH : -100000 ≤ A.H r ∧ A.H r ≤ 100000) :
    Calls Tryd.prog 24 #[.pointer (some ⟨B.n, 0, none⟩), .pointer (some ⟨B.s, 0, none⟩), .pointer (some ⟨B.g, 0, none⟩), .int .i64 r, .slice a m c] w fun e w' =>
      e = .returned (.bool (tkE N A r U m)) ∧ StAt w' B N (tkA N A r U m) ∧ ChanLater w w' B.n ch ∧ But (Fr B.blocks ch w) w w' := by
  have HX : Hid _ := hx
  have HM : Hid _ := hm
  have HCH : Hid (ChanAt w B.n ch) := hCh
  have HG : Hid _ := hG
  have HLO : Hid (∀ k, k ∈ B.blocks → k < w.heap.size) := h.lo
  clear hx hm hCh hG
  have i60 := ix60 B.g r hr
  have i61 := ix61 B.g 18 r hr
  have i61' := ix61 B.s 2 r hr
  go_enter Tryd.func24, Tryd.ntmps24
  go_wp2
  go_loopw [12, 15] (fun _ i wr => ∃ k : Nat, k ≤ m ∧ i = .int .i64 k ∧ StAt wr B N { A with c := clr A.c r U k } ∧ Cel wr ⟨w.heap.size, 0, none⟩ (.pointer (some ⟨B.s, 0, none⟩)) ∧ Cel wr ⟨w.heap.size + 1, 0, none⟩ (.pointer (some ⟨B.g, 0, none⟩)) ∧ But (· ∈ B.blocks) w wr ∧ Hid (ChanAt wr B.n ch)) (fun _ i _ => m - (intOf i).toNat)
  case atStart =>
    refine ⟨0, Nat.zero_le _, rfl, ?_, ?_, ?_, ((But.refl _ _).alloc _).alloc _, HCH.out.below (((Below.refl _ _).alloc (Nat.le_refl _) _).alloc (by simp) _)⟩
    · rw [clr_zero]
      exact h.below (((Below.refl _ _).alloc (Nat.le_refl _) _).alloc (by simp) _)
    · exact (cel_new w _ 31 0 _ rfl).alloc _
    · have := cel_new (w.alloc (.cells #[.pointer (some ⟨B.s, 0, none⟩)] 31)) #[.pointer (some ⟨B.g, 0, none⟩)] 32 0 _ rfl
      simpa using this
  case round =>
    obtain ⟨k, hk, rfl, hS, hc6, hc7, hb, hch⟩ := hrel
    by_cases hlt : k < m
    · obtain ⟨b, off, ha, h4⟩ := hU
      obtain ⟨z, hz⟩ : ∃ z : Nat, U k = (z : Int) := ⟨(U k).toNat, by have := (hin k hlt).1; omega⟩
      have HZ : Hid (U k = (z : Int)) := hz
      have hzn : z < N r := by have := (hin k hlt).2; omega
      have hbn : b ∉ B.blocks := by
        rcases ha with ha | ha
        · omega
        · exact hoff _ ha
      have g4 := hb.cell (h4 k hlt) hbn
      rw [hz] at g4
      have hix4 := ixAt (c := c) Tryd.underlying23 sz3 ha k k rfl hlt
      have g6 := hc6.c
      have g7 := hc7.c
      have go := (hS.own r hr).c
      have gz := hS.cells r hr z hzn
      have gz1 := gz.c
      have gz2 := gz.f
      clear ha h4 hz hin hoff hbn gz h
      go_wp2
      go_roundw
      case rel =>
        have hlo : ∀ k, k ∈ B.blocks → k < w.heap.size := HLO.out
        have hor : B.o r ∈ B.blocks := by rcases (by omega : r = 0 ∨ r = 1) with rfl | rfl <;> simp [TB.blocks]
        refine ⟨k + 1, by omega, by go_num, ?_, hc6.other _ (blk_ne (by have := hlo _ hor; omega)), hc7.other _ (blk_ne (by have := hlo _ hor; omega)), hb.setCell (p := ⟨B.o r, z, none⟩) (Or.inl hor) _, hch.out.setCell _ (blk_ne ((ne_of hS.dis).on r hr))⟩
        have := hS.setOwner hr hzn
        simp only [clr_step _ _ _ _ _ HZ.out] at this
        exact this
      case measure => simp [intOf]; omega
    · have e : k = m := by omega
      subst e
      have g6 := hc6.c
      have g7 := hc7.c
      have gF := (hS.free r hr)
      have gF1 := gF.c
      have gF2 := gF.f
      have gH := (hS.held r hr)
      have gH1 := gH.c
      have gH2 := gH.f
      simp only at gF1 gH1
      clear hU hin hoff gF gH h
      have hgB : B.g ∈ B.blocks := by simp [TB.blocks]
      have hsB : B.s ∈ B.blocks := by simp [TB.blocks]
      have hng := HLO.out _ hgB
      have hns := HLO.out _ hsB
      go_wp2_with fail
      go_region
      have S1 := (hS.setFree hr k).drew
      have c6 := (hc6.other (b := B.g) (j := 18 + r) (.int .i64 (A.F r + k)) (blk_ne (by omega))).drew
      have c7 := (hc7.other (b := B.g) (j := 18 + r) (.int .i64 (A.F r + k)) (blk_ne (by omega))).drew
      have b1 := (hb.setCell (p := ⟨B.g, 18 + r, none⟩) (Or.inl hgB) (.int .i64 (A.F r + k))).drew
      have ch1 : Hid (ChanAt (wr.setCell ⟨B.g, 18 + r, none⟩ (.int .i64 (A.F r + k))).drew B.n ch) := (hch.out.setCell _ (blk_ne (ne_of hS.dis).ng.symm)).drew
      simp only at S1
      clear hch hS hc6 hc7 hb g6 g7 gF1 gF2 gH1 gH2
      generalize (wr.setCell ⟨B.g, 18 + r, none⟩ (.int .i64 (A.F r + k))).drew = W1 at *
      have g6 := c6.c
      have gH := (S1.held r hr)
      have gH1 := gH.c
      have gH2 := gH.f
      simp only at gH1
      clear gH
      go_wp2_with fail
      go_region
      have S2 := (S1.setHeld hr (-(k : Int))).drew
      simp only [← Int.sub_eq_add_neg] at S2
      have d6 := (c6.other (b := B.s) (j := 2 + r) (.int .i64 (A.H r - k)) (blk_ne (by omega))).drew
      have d7 := (c7.other (b := B.s) (j := 2 + r) (.int .i64 (A.H r - k)) (blk_ne (by omega))).drew
      have b2 := (b1.setCell (p := ⟨B.s, 2 + r, none⟩) (Or.inl hsB) (.int .i64 (A.H r - k))).drew
      have ch2 : Hid (ChanAt (W1.setCell ⟨B.s, 2 + r, none⟩ (.int .i64 (A.H r - k))).drew B.n ch) := (ch1.out.setCell _ (blk_ne (ne_of S1.dis).ns.symm)).drew
      clear ch1 S1 c6 c7 b1 g6 gH1 gH2
      generalize (W1.setCell ⟨B.s, 2 + r, none⟩ (.int .i64 (A.H r - k))).drew = W2 at *
      have hG2 : Glob W2 := ⟨b2.cell HG.out.a hg0, b2.cell HG.out.b hg0⟩
      have HK := holdsOn_any B N _ W2 HM.out S2 hG2
      simp only [any_hold (ne_of S2.dis)] at HK
      have HKK : Hid _ := HK
      have g6 := d6.c
      have g7 := d7.c
      clear HK hG2
      go_wp2_with fail
      refine Calls.mono HKK.out ?_
      rintro e w3 ⟨rfl, rfl⟩
      have S3 : StAt w3 B N (mid A r U k) := S2
      clear S2 HKK
      cases hh : hold N (clr A.c r U k)
      · obtain ⟨cap, hcap, hgp⟩ := S3.gpus
        have hT := S3.xs
        have hlx := S3.al B.x (by simp [TB.blocks])
        have q1 := hgp.c
        have q2 := hgp.f
        have E := ne_of S3.dis
        have hne : (B.hp == some ⟨B.g, 0, none⟩) = false := S3.hp_ne
        have hxlt := HLO.out B.x (by simp [TB.blocks])
        have HD : Hid _ := delete_29 B.x cap A.gOn A.hOn (some ⟨B.g, 0, none⟩) B.hp (w.heap.size + 1) w3.drew hcap S3.drew.xs (Or.inr ⟨B.g, rfl, S3.drew.whole.l⟩) S3.drew.hp_liv hne d7.drew (S3.drew.al B.x (by simp [TB.blocks]))
        have e1 : (mid A r U k).gOn = A.gOn := rfl
        have e2 : (mid A r U k).hOn = A.hOn := rfl
        rw [e1, e2] at q1
        clear hcap hT hne e1 e2
        go_wp2_with fail
        go_cut [61] (fun _ wx => StAt wx B N { mid A r U k with gOn := false } ∧ Cel wx ⟨w.heap.size, 0, none⟩ (.pointer (some ⟨B.s, 0, none⟩)) ∧ Cel wx ⟨w.heap.size + 1, 0, none⟩ (.pointer (some ⟨B.g, 0, none⟩)) ∧ But (· ∈ B.blocks) w wx ∧ Hid (ChanAt wx B.n ch))
        case first =>
          go_region_with (first | (go_at_call 29; refine Calls.mono HD.out ?_; rintro e w4 ⟨cap', rfl, hc1, hT1, hb1, ha1⟩; have z := hgp.drew.but hb1 E.sx; have z1 := z.c; have z2 := z.f; have y := d6.drew.but hb1 (by simp; omega); have y1 := y.c) | fail)
          all_goals go_wp2_with fail
          all_goals
            go_meet
            exact ⟨S3.drew.setX hb1 ha1 hT1 hc1 (fun b e h' => HX.out b e (by rw [h']; simp [TB.blocks])), y.other _ (blk_ne (by omega)), (d7.drew.but hb1 (by simp; omega)).other _ (blk_ne (by omega)),
              (b2.drew.trans (hb1.mono fun k _ e => by rw [e]; simp [TB.blocks])).setCell (p := ⟨B.s, 1, none⟩) (Or.inl hsB) _, (ch2.out.drew.keep hb1 (S3.drew.al B.x (by simp [TB.blocks])) E.nx).setCell _ (blk_ne E.ns.symm)⟩
        case rest =>
          obtain ⟨S4, c6, c7, b4, ch4⟩ := hcut
          simp only at S4
          clear S3 d6 d7 b2 ch2 g6 g7 hgp hlx q1 q2 HD
          have l6 := c6.c
          have l7 := c7.c
          have v1 := S4.sw.c
          have v2 := S4.whole.c
          have v3 := S4.whole.f
          cases hW : A.sW
          · rw [show (mid A r U k).sW = false from hW] at v1
            have S5 : StAt wc B N { mid A r U k with gOn := false, W := A.W } := S4
            have ch5 : Hid (ChanLater w wc B.n ch) := ⟨ch, ch4.out, Or.inl rfl⟩
            have b5 := b4.fr (ch := ch)
            obtain ⟨cap3, hcap3, hg3⟩ := S5.gpus
            clear S4 ch4 b4 v2 v3
            have v4 := hg3.c
            cases hH2 : A.hOn
            · simp only [show (mid A r U k).hOn = false from hH2, Bool.toNat_false, Nat.add_zero] at v4
              obtain ⟨cap2, hcap2, hgr⟩ := S5.grants
              have HD2 : Hid (Calls Tryd.prog 32 #[.slice (some ⟨B.y, 0, none⟩) (A.sOn.toNat + A.tOn.toNat) cap2, .func (.func 33) #[] #[.pointer (some ⟨w.heap.size, 0, none⟩)]] wc fun e w' => DelRes B.y A.tOn (some ⟨B.s, 0, none⟩) (some ⟨B.t, 0, none⟩) wc e w') := delete_32 B.y cap2 A.sOn A.tOn (some ⟨B.s, 0, none⟩) (some ⟨B.t, 0, none⟩) w.heap.size wc hcap2 S5.ys (Or.inr ⟨B.s, rfl, S5.sw.l⟩) (Or.inr ⟨B.t, rfl, (S5.theld 0 (by omega)).l⟩) (by have := E.st.symm; simp) c6 (S5.al B.y (by simp [TB.blocks]))
              have p1 := hgr.c
              simp only [show (mid A r U k).sOn = A.sOn from rfl, show (mid A r U k).tOn = A.tOn from rfl] at p1
              go_wp2_with fail
              refine Calls.mono HD2.out ?_
              rintro e w6 ⟨cap', rfl, hc1, hT1, hb1, ha1⟩
              have z := hgr.but hb1 E.ny
              have z1 := z.c
              have z2 := z.f
              clear p1 z HD2 v4
              go_wp2
              go_ret
              have et : tkA N A r U k = { mid A r U k with gOn := false, W := A.W, sOn := false } := by simp [tkA, hh, hW, hH2, mid]
              rw [et]
              exact ⟨ret_bool (by simp [tkE, hh, hH2]), S5.setY hb1 ha1 hT1 hc1 (fun b e h' => HX.out b e (by rw [h']; simp [TB.blocks])), (let ⟨ch', hch', hq⟩ := ch5.out; ⟨ch', (hch'.keep hb1 (S5.al B.y (by simp [TB.blocks])) E.ny).setCell _ (off_ne (by omega)), hq⟩),
                (b5.fr_trans (hb1.mono (S' := Fr [B.y] ch wc) fun k _ e => Or.inl (by rw [e]; simp)) (fun x hx => by simp at hx; rw [hx]; simp [TB.blocks])).setCell (p := ⟨B.n, 6, none⟩) (Or.inl (Or.inl (by simp [TB.blocks]))) _⟩
            · simp only [show (mid A r U k).hOn = true from hH2, Bool.toNat_false, Bool.toNat_true, Nat.zero_add] at v4
              go_wp2
              go_ret
              have et : tkA N A r U k = { mid A r U k with gOn := false, W := A.W } := by simp [tkA, hh, hW, hH2, mid]
              rw [et]
              exact ⟨ret_bool (by simp [tkE, hh, hH2]), S5, ch5.out, b5⟩
          · rw [show (mid A r U k).sW = true from hW] at v1
            have S4' := S4.setW false
            have ch4' := ch4.out.setCell (b := B.g) (j := 20) (.bool false) (blk_ne E.ng.symm)
            have HCC : Hid (Calls Tryd.prog 31 #[.pointer (some ⟨B.n, 0, none⟩)] (wc.setCell ⟨B.g, 20, none⟩ (.bool false)) fun e w' => e = .returned (.tuple #[]) ∧ ChanLater (wc.setCell ⟨B.g, 20, none⟩ (.bool false)) w' B.n ch ∧ But (Fr [B.n] ch (wc.setCell ⟨B.g, 20, none⟩ (.bool false))) (wc.setCell ⟨B.g, 20, none⟩ (.bool false)) w' ∧ (∀ p v, p.block = B.n → p ≠ ⟨B.n, 10, none⟩ → Cel (wc.setCell ⟨B.g, 20, none⟩ (.bool false)) p v → Cel w' p v)) := changed_any B.n ch _ ch4'
            clear ch4'
            go_wp2_with fail
            refine Calls.mono HCC.out ?_
            rintro e w5 ⟨rfl, ch5', hbn, hcn⟩
            have ch5 : Hid (ChanLater w w5 B.n ch) := (let ⟨x, h1, h2⟩ := ch5'; ⟨x, h1, h2.imp_right fun h => Nat.le_trans b4.size (by simpa [World.setCell] using h)⟩)
            have S5 : StAt w5 B N { mid A r U k with gOn := false, W := false } := S4'.liftN (fun p v _ hp hc => hc.frame hbn (by simpa using hp)) (fun v hc => hcn _ v rfl (off_ne (by omega)) hc) (fun b hb ha => if e : b = B.n then by { subst e; obtain ⟨_, h1, _⟩ := ch5'; exact h1.c.l } else ha.frame hbn (by simpa using e))
            have c6' := (c6.other (b := B.g) (j := 20) (.bool false) (blk_ne (by omega))).frame hbn (by have := HLO.out B.n (by simp [TB.blocks]); simp; omega)
            have b5 := (b4.fr.setCell (p := ⟨B.g, 20, none⟩) (Or.inl (Or.inl hgB)) (.bool false)).fr_trans hbn (fun x hx => by simp at hx; rw [hx]; simp [TB.blocks])
            clear S4 S4' ch4 ch5' b4 v1 v2 v3 HCC hbn hcn l6 l7 c6 c7
            have c6 := c6'
            have l6 := c6.c
            clear c6'
            obtain ⟨cap3, hcap3, hg3⟩ := S5.gpus
            have v4 := hg3.c
            cases hH2 : A.hOn
            · simp only [show (mid A r U k).hOn = false from hH2, Bool.toNat_false, Nat.add_zero] at v4
              obtain ⟨cap2, hcap2, hgr⟩ := S5.grants
              have HD2 : Hid (Calls Tryd.prog 32 #[.slice (some ⟨B.y, 0, none⟩) (A.sOn.toNat + A.tOn.toNat) cap2, .func (.func 33) #[] #[.pointer (some ⟨w.heap.size, 0, none⟩)]] w5 fun e w' => DelRes B.y A.tOn (some ⟨B.s, 0, none⟩) (some ⟨B.t, 0, none⟩) w5 e w') := delete_32 B.y cap2 A.sOn A.tOn (some ⟨B.s, 0, none⟩) (some ⟨B.t, 0, none⟩) w.heap.size w5 hcap2 S5.ys (Or.inr ⟨B.s, rfl, S5.sw.l⟩) (Or.inr ⟨B.t, rfl, (S5.theld 0 (by omega)).l⟩) (by have := E.st.symm; simp) c6 (S5.al B.y (by simp [TB.blocks]))
              have p1 := hgr.c
              simp only [show (mid A r U k).sOn = A.sOn from rfl, show (mid A r U k).tOn = A.tOn from rfl] at p1
              go_wp2_with fail
              refine Calls.mono HD2.out ?_
              rintro e w6 ⟨cap', rfl, hc1, hT1, hb1, ha1⟩
              have z := hgr.but hb1 E.ny
              have z1 := z.c
              have z2 := z.f
              clear p1 z HD2 v4
              go_wp2
              go_ret
              have et : tkA N A r U k = { mid A r U k with gOn := false, W := false, sOn := false } := by simp [tkA, hh, hW, hH2, mid]
              rw [et]
              exact ⟨ret_bool (by simp [tkE, hh, hH2]), S5.setY hb1 ha1 hT1 hc1 (fun b e h' => HX.out b e (by rw [h']; simp [TB.blocks])), (let ⟨ch', hch', hq⟩ := ch5.out; ⟨ch', (hch'.keep hb1 (S5.al B.y (by simp [TB.blocks])) E.ny).setCell _ (off_ne (by omega)), hq⟩),
                (b5.fr_trans (hb1.mono (S' := Fr [B.y] ch w5) fun k _ e => Or.inl (by rw [e]; simp)) (fun x hx => by simp at hx; rw [hx]; simp [TB.blocks])).setCell (p := ⟨B.n, 6, none⟩) (Or.inl (Or.inl (by simp [TB.blocks]))) _⟩
            · simp only [show (mid A r U k).hOn = true from hH2, Bool.toNat_false, Bool.toNat_true, Nat.zero_add] at v4
              go_wp2
              go_ret
              have et : tkA N A r U k = { mid A r U k with gOn := false, W := false } := by simp [tkA, hh, hW, hH2, mid]
              rw [et]
              exact ⟨ret_bool (by simp [tkE, hh, hH2]), S5, ch5.out, b5⟩
      · go_wp2
        go_ret
        exact ⟨ret_bool (by simp [tkE, hh]), by simpa [tkA, hh] using S3, ⟨ch, ch2.out, Or.inl rfl⟩, b2.fr⟩
end Go.Proofs.Qxb6612650aDoor
