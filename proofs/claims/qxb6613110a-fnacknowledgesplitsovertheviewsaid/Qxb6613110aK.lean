import Derived.Test.Qxb6613110aJ
namespace Go.Proofs.Qxb6613110a
open Go.RowKit

/-- all that find's regions read, at a world -/
structure FEnv (w : World) (r s bw : Nat) (a : Option Addr) (n c x : Nat) (B : Nat → ByteArray) (C : Nat → Int) (m : ByteArray) : Prop where
  recv : w.cell? ⟨r, 0, none⟩ = some (.pointer (some ⟨bw, 0, none⟩))
  mem : w.cell? ⟨s, 0, none⟩ = some (.string m)
  walk : WalkAt w bw a n c x
  vec : VecAt w a n B C
theorem FEnv.below {w w' : World} {r s bw : Nat} {a : Option Addr} {n c x : Nat} {B : Nat → ByteArray} {C : Nat → Int} {m : ByteArray} (h : FEnv w r s bw a n c x B C m) (hb : Below w.heap.size w w') : FEnv w' r s bw a n c x B C m :=
  ⟨down hb h.recv, down hb h.mem, h.walk.below hb, h.vec.below hb⟩

theorem WalkAt.putI {w : World} {bw : Nat} {a : Option Addr} {n c x : Nat} (h : WalkAt w bw a n c x) (v : Int) (y : Nat) (hv : v = y) (hy : y ≤ n) : WalkAt (w.setCell ⟨bw, 1, none⟩ (.int .i64 v)) bw a n c y := by
  subst hv; exact h.put hy

theorem searchVE_at (a : Option Addr) (n c r : Nat) (B : Nat → ByteArray) (C : Nat → Int) (m : ByteArray) (w : World) (hn : n ≤ 1073741824) (hv : VecAt w a n B C) (hok : VecOk n B)
    (hr : r ≤ n) (h2 : ∀ k, k < r → (!Op.bytesLess (B k).toList m.toList) = false) (h3 : ∀ k, r ≤ k → k < n → (!Op.bytesLess (B k).toList m.toList) = true) (d : Nat) (os : Array Obj) :
    Calls Try.prog 46 #[.slice a n c, .string m] (Sort.grow (redrawn w d) os) fun e w'' => e = .returned (.tuple #[.int .i64 r, .bool (decide (r < n) && ((B r).toList == m.toList))]) ∧ ∃ p : Regrown, w'' = Sort.grow (redrawn w p.d) p.os := by
  refine Calls.regrown_of ((searchVE_any a n c B C m _ hn (hv.below (below_regrown w d os)) hok).mono ?_)
  rintro e w' ⟨⟨s, rfl, hs, k2, k3⟩, hb⟩
  rw [search_unique (P := fun k => !Op.bytesLess (B k).toList m.toList) hr h2 h3 hs (fun k hk => by simp [k2 k hk]) (fun k hk1 hk2 => by simp [k3 k hk1 hk2])]
  exact ⟨rfl, hb⟩

theorem search48_re (bw : Nat) (a : Option Addr) (n c x : Nat) (B : Nat → ByteArray) (C : Nat → Int) (m : ByteArray) (br bl bm lo hi r : Nat) (w : World) (hn : n ≤ 1073741824) (E : FEnv w br bm bw a n c x B C m) (hok : VecOk n B)
    (hl : w.cell? ⟨bl, 0, none⟩ = some (.int .i64 lo)) (hlh : lo ≤ hi) (hhn : hi ≤ n) (N : Int) (hN : N = ((hi - lo : Nat) : Int))
    (hr : r ≤ hi - lo) (h2 : ∀ k, k < r → (!Op.bytesLess (B (lo + k)).toList m.toList) = false) (h3 : ∀ k, r ≤ k → k < hi - lo → (!Op.bytesLess (B (lo + k)).toList m.toList) = true) (d : Nat) (os : Array Obj) :
    Calls Try.prog 47 #[.int .i64 N, .func (.func 48) #[] #[.pointer (some ⟨br, 0, none⟩), .pointer (some ⟨bl, 0, none⟩), .pointer (some ⟨bm, 0, none⟩)]] (Sort.grow (redrawn w d) os) fun e w'' => e = .returned (.int .i64 r) ∧ ∃ p : Regrown, w'' = Sort.grow (redrawn w p.d) p.os := by
  subst hN
  refine Calls.regrown_of (search48_at (hi - lo) r (fun k => !Op.bytesLess (B (lo + k)).toList m.toList) _ _ _ _ (by omega) ?_ hr h2 h3 ?_)
  · intro i j h4 h5 h6
    exact hok.mono m (lo + i) (lo + j) (by omega) (by omega) h6
  · intro i h4 w' hb
    have hb0 := below_regrown w d os
    have E' := (E.below hb0).below hb
    exact clo48_any bw a n c B C m br bl bm lo i w' hn E'.vec (by omega) E'.walk.s E'.recv (down hb (down hb0 hl)) E'.mem

theorem mono_off {n : Nat} {B : Nat → ByteArray} (hok : VecOk n B) (m : ByteArray) (lo hi : Nat) (hhn : hi ≤ n) : ∀ i j, i ≤ j → j < hi - lo → (!Op.bytesLess (B (lo + i)).toList m.toList) = true → (!Op.bytesLess (B (lo + j)).toList m.toList) = true :=
  fun i j h4 h5 h6 => hok.mono m (lo + i) (lo + j) (by omega) (by omega) h6

set_option maxHeartbeats 4000000 in
set_option maxRecDepth 100000 in
theorem wfind_any (bw : Nat) (a : Option Addr) (n c x : Nat) (B : Nat → ByteArray) (C : Nat → Int) (m : ByteArray) (w : World) (hn : n ≤ 1073741824) (hw : WalkAt w bw a n c x) (hv : VecAt w a n B C) (hok : VecOk n B) (hoff : ∀ y, a = some y → ¬ y.block = bw) :
    Calls Try.prog 44 #[.pointer (some ⟨bw, 0, none⟩), .string m] w fun e w' => FindRes n B m e ∧ (∃ y, WalkAt w' bw a n c y) ∧ But (· = bw) w w' := by
  have hbA : Below w.heap.size w ((w.alloc (.cells #[.pointer (some ⟨bw, 0, none⟩)] 95)).alloc (.cells #[.string m] 30)) := ((Below.refl _ _).alloc (Nat.le_refl _) _).alloc (by simp) _
  have EA : FEnv ((w.alloc (.cells #[.pointer (some ⟨bw, 0, none⟩)] 95)).alloc (.cells #[.string m] 30)) w.heap.size (w.heap.size + 1) bw a n c x B C m := ⟨by simp [go_sem], by simp [go_sem], hw.below hbA, hv.below hbA⟩
  have hcr := EA.recv
  have hnx := EA.walk.next
  have hle := hw.le
  have HO : Hid _ := hoff
  have hme := meth_member
  simp [nmMember, slash] at hme
  clear hv hw hoff
  go_enter Try.func44, Try.ntmps44
  go_wp2_with fail
  generalize ((w.alloc (.cells #[.pointer (some ⟨bw, 0, none⟩)] 95)).alloc (.cells #[.string m] 30)) = wA at *
  have gs := cell_regrown EA.walk.s
  have gr := cell_regrown EA.recv
  have gm := cell_regrown EA.mem
  clear hcr hnx
  obtain ⟨b, off, ha, h0, h1⟩ := EA.vec
  by_cases hlt : x < n
  · have g0 := cell_regrown (h0 x hlt)
    have g1 := cell_regrown (h1 x hlt)
    have hix := ixAt (c := c) Try.underlying33 sz66 ha x hlt
    have hlt' : (x : Int) < n := by omega
    cases hq : ((B x).toList == m.toList)
    · clear h0 h1 ha
      refine wp_region_quiet_below (by kernel_rfl) (by kernel_rfl) ?_
      repeat (go_big_quiet_step ((exact member_re _ _ _ _ _)))
      refine wpQuiet_nil ?_
      intro _ hw'
      obtain ⟨⟨dq, osq⟩, hw''⟩ := hw'
      subst hw''
      have hbq := below_regrown wA dq osq
      generalize Sort.grow (redrawn wA dq) osq = wB at *
      clear gs gr gm g0 g1 hix hlt'
      have EB := EA.below hbq
      have hbB := hbA.trans (hbq.mono hbA.size)
      clear hbq hbA EA
      have gs := cell_regrown EB.walk.s
      have gr := cell_regrown EB.recv
      have gm := cell_regrown EB.mem
      obtain ⟨b, off, ha, h0, h1⟩ := EB.vec
      by_cases hx0 : 0 < x
      · have g0 := cell_regrown (h0 (x - 1) (by omega))
        have g1 := cell_regrown (h1 (x - 1) (by omega))
        have hix := ixAtI (c := c) Try.underlying33 sz66 ha ((x : Int) - 1) (x - 1) (by omega) (by omega)
        have hx0' : (0 : Int) < x := by omega
        clear h0 h1 ha
        cases hq1 : Op.bytesLess (B (x - 1)).toList m.toList
        · go_wp2_with fail
          refine wp_region_quiet_below (by kernel_rfl) (by kernel_rfl) ?_
          repeat (go_big_quiet_step ((exact member_re _ _ _ _ _)))
          refine wpQuiet_nil ?_
          intro _ hw'
          obtain ⟨⟨dq, osq⟩, hw''⟩ := hw'
          subst hw''
          have hbq := below_regrown wB dq osq
          generalize Sort.grow (redrawn wB dq) osq = wC at *
          have EC := EB.below hbq
          have hbC := hbB.trans (hbq.mono hbB.size)
          clear hbq hbB EB gs gr gm g0 g1 hix
          have gs := cell_regrown EC.walk.s
          have gr := cell_regrown EC.recv
          have gm := cell_regrown EC.mem
          obtain ⟨r, hr, hr2, hr3⟩ := search_exists (fun k => !Op.bytesLess (B k).toList m.toList) n (hok.mono m)
          have HC : Hid _ := searchVE_at a n c r B C m wC hn EC.vec hok hr hr2 hr3
          have HR : Hid _ := And.intro hr (And.intro hr2 hr3)
          clear hr hr2 hr3
          go_wp2_with fail
          refine wp_region_quiet_below (by kernel_rfl) (by kernel_rfl) ?_
          repeat (go_big_quiet_step ((exact HC.out _ _)))
          refine wpQuiet_nil ?_
          intro _ hw'
          obtain ⟨⟨dq, osq⟩, hw''⟩ := hw'
          subst hw''
          have hbq := below_regrown wC dq osq
          generalize Sort.grow (redrawn wC dq) osq = wD at *
          have ED := EC.below hbq
          have hbD := hbC.trans (hbq.mono hbC.size)
          clear hbq hbC EC gs gr gm
          go_wp2
          go_ret2
          exact ⟨⟨r, rfl, HR.out.1, fun k hk => by simpa using HR.out.2.1 k hk, fun k hk1 hk2 => by simpa using HR.out.2.2 k hk1 hk2⟩, ⟨x, ED.walk⟩, But.of_below hbD⟩
        · go_wp2_with fail
          refine wp_region_quiet_below (by kernel_rfl) (by kernel_rfl) ?_
          repeat (go_big_quiet_step ((exact member_re _ _ _ _ _)))
          refine wpQuiet_nil ?_
          intro _ hw'
          obtain ⟨⟨dq, osq⟩, hw''⟩ := hw'
          subst hw''
          have hbq := below_regrown wB dq osq
          generalize Sort.grow (redrawn wB dq) osq = wC at *
          have HX : Hid (∀ k, k < x → Op.bytesLess (B k).toList m.toList = true) := fun k hk => by
            by_cases e : k = x - 1
            · subst e; exact hq1
            · exact bl_trans (hok.lt (x - 1) k (by omega) (by omega)) hq1
          clear hq1 hx0 hx0' g0 g1 hix
          have EC := EB.below hbq
          have hbC := hbB.trans (hbq.mono hbB.size)
          clear hbq hbB EB gs gr gm
          go_wp2_with fail
          go_loopw [8] (fun h wr => ∃ lo hi : Nat, h = .int .i64 hi ∧ lo < hi ∧ lo ≤ n ∧ hi ≤ 3 * n + 1 ∧ Hid (∀ k, k < lo → Op.bytesLess (B k).toList m.toList = true) ∧ wr.cell? ⟨wC.heap.size, 0, none⟩ = some (.int .i64 lo) ∧ wr.frozen? ⟨wC.heap.size, 0, none⟩ = false ∧ Below wC.heap.size wC wr ∧ wC.heap.size < wr.heap.size) (fun h _ => (3 * n + 2 - intOf h).toNat)
          case atStart => exact ⟨x, x + 1, by go_num, by omega, hle, by omega, HX, by simp [go_sem], by simp [go_sem], (Below.refl _ _).alloc (Nat.le_refl _) _, by simp⟩
          case round =>
            clear HX
            obtain ⟨lo, hi, rfl, hlh, hlon, hhi3, HX, hcl, hfl, hbr, hszr⟩ := hrel
            have ER := EC.below hbr
            have gs := cell_regrown ER.walk.s
            have gr := cell_regrown ER.recv
            have gm := cell_regrown ER.mem
            by_cases hh : hi < n
            · obtain ⟨b2, off2, ha2, h02, h12⟩ := ER.vec
              have g0 := cell_regrown (h02 (hi - 1) (by omega))
              have g1 := cell_regrown (h12 (hi - 1) (by omega))
              have hix := ixAtI (c := c) Try.underlying33 sz66 ha2 ((hi : Int) - 1) (hi - 1) (by omega) (by omega)
              have hh' : (hi : Int) < n := by omega
              clear h02 h12 ha2
              cases hq2 : Op.bytesLess (B (hi - 1)).toList m.toList
              · have hend : hi < n → lo < hi ∧ Op.bytesLess (B (hi - 1)).toList m.toList = false := fun _ => ⟨hlh, hq2⟩
                have HEND : Hid _ := hend
                clear hend
                go_wp2_with fail
                refine wp_region_quiet_below (by kernel_rfl) (by kernel_rfl) ?_
                repeat (go_big_quiet_step ((exact member_re _ _ _ _ _)))
                refine wpQuiet_nil ?_
                intro _ hw'
                obtain ⟨⟨dq, osq⟩, hw''⟩ := hw'
                subst hw''
                have hbq := below_regrown wr dq osq
                generalize Sort.grow (redrawn wr dq) osq = wE at *
                clear g0 g1 hix hq2
                have EE := ER.below hbq
                have hclE := down hbq hcl
                have hbE := hbr.trans (hbq.mono (Nat.le_of_lt hszr))
                clear gs gr gm hbq hcl hfl
                obtain ⟨r, hr, hr2, hr3⟩ := search_exists (fun k => !Op.bytesLess (B (lo + k)).toList m.toList) (hi - lo) (mono_off hok m lo hi (by omega))
                have HC : Hid _ := search48_re bw a n c x B C m w.heap.size wC.heap.size (w.heap.size + 1) lo hi r wE hn EE hok hclE (by omega) (by omega) ((hi : Int) - (lo : Int)) (by omega) hr hr2 hr3
                have HR : Hid _ := fun q hq => findRes_bracket hok HX.out (show lo ≤ hi by omega) (show hi ≤ n by omega) HEND.out hr hr2 hr3 q hq
                have hmf : ∀ (fn : Fn) (first cap : Array Value) (w : World), (Instr.makeFunc fn first cap).run Try.prog w = .ok (.func fn first cap) w := fun _ _ _ _ => rfl
                have qs := EE.walk.s
                have qr := EE.recv
                have gl := cell_regrown hclE
                clear hr2 hr3
                go_wp2_with fail
                refine wp_region_quiet_below (by kernel_rfl) (by kernel_rfl) ?_
                repeat (go_big_quiet_step ((exact HC.out _ _)))
                refine wpQuiet_nil ?_
                intro _ hw'
                obtain ⟨⟨dq, osq⟩, hw''⟩ := hw'
                subst hw''
                have hbq := below_regrown wE dq osq
                generalize Sort.grow (redrawn wE dq) osq = wF at *
                have EF := EE.below hbq
                have hbF := hbE.trans (hbq.mono hbE.size)
                have hbT := hbC.trans (hbF.mono hbC.size)
                clear gl hbq hbE hbF qs qr hmf hclE EE hbC EC HC
                have gs := cell_regrown EF.walk.s
                have gr := cell_regrown EF.recv
                have gm := cell_regrown EF.mem
                by_cases hin : lo + r < n
                · obtain ⟨b3, off3, ha3, h03, h13⟩ := EF.vec
                  have g0 := cell_regrown (h03 (lo + r) hin)
                  have g1 := cell_regrown (h13 (lo + r) hin)
                  have hix := ixAtI (c := c) Try.underlying33 sz66 ha3 ((lo : Int) + (r : Int)) (lo + r) (by omega) hin
                  have hin' : (lo : Int) + (r : Int) < n := by omega
                  clear h03 h13 ha3
                  cases hq3 : ((B (lo + r)).toList == m.toList)
                  · have HR2 : Hid _ := HR.out false (by simp [hin, hq3])
                    clear HR
                    go_wp2_with fail
                    refine wp_region_quiet_below (by kernel_rfl) (by kernel_rfl) ?_
                    repeat (go_big_quiet_step ((exact member_re _ _ _ _ _)))
                    refine wpQuiet_nil ?_
                    intro _ hw'
                    obtain ⟨⟨dq, osq⟩, hw''⟩ := hw'
                    subst hw''
                    have hbq := below_regrown wF dq osq
                    generalize Sort.grow (redrawn wF dq) osq = wG at *
                    have EG := EF.below hbq
                    have hbU := hbT.trans (hbq.mono hbT.size)
                    clear hbq hbT gs gr gm EF
                    have qr := EG.recv
                    have qn := EG.walk.next
                    have qf := EG.walk.free
                    have HP := EG.walk.putI ((lo : Int) + (r : Int)) (lo + r) (by omega) (by omega)
                    clear EG
                    go_wp2
                    go_ret2
                    exact ⟨HR2.out, ⟨_, HP⟩, (But.of_below (S := (· = bw)) hbU).setCell (p := ⟨bw, 1, none⟩) (Or.inl rfl) _⟩
                  · have HR2 : Hid _ := HR.out true (by simp [hin, hq3])
                    clear HR
                    go_wp2_with fail
                    refine wp_region_quiet_below (by kernel_rfl) (by kernel_rfl) ?_
                    repeat (go_big_quiet_step ((exact member_re _ _ _ _ _)))
                    refine wpQuiet_nil ?_
                    intro _ hw'
                    obtain ⟨⟨dq, osq⟩, hw''⟩ := hw'
                    subst hw''
                    have hbq := below_regrown wF dq osq
                    generalize Sort.grow (redrawn wF dq) osq = wG at *
                    have EG := EF.below hbq
                    have hbU := hbT.trans (hbq.mono hbT.size)
                    clear hbq hbT gs gr gm EF
                    have qr := EG.recv
                    have qn := EG.walk.next
                    have qf := EG.walk.free
                    have HP := (EG.walk.putI ((lo : Int) + (r : Int)) (lo + r) (by omega) (by omega)).putI ((lo : Int) + (r : Int) + 1) (lo + r + 1) (by omega) (by omega)
                    clear EG
                    go_wp2
                    go_ret2
                    exact ⟨HR2.out, ⟨_, HP⟩, ((But.of_below (S := (· = bw)) hbU).setCell (p := ⟨bw, 1, none⟩) (Or.inl rfl) _).setCell (p := ⟨bw, 1, none⟩) (Or.inl rfl) _⟩
                · exact absurd (show lo + r < n by omega) hin
              · go_wp2_with fail
                refine wp_region_quiet_below (by kernel_rfl) (by kernel_rfl) ?_
                repeat (go_big_quiet_step ((exact member_re _ _ _ _ _)))
                refine wpQuiet_nil ?_
                intro _ hw'
                obtain ⟨⟨dq, osq⟩, hw''⟩ := hw'
                subst hw''
                have hbq := below_regrown wr dq osq
                generalize Sort.grow (redrawn wr dq) osq = wE at *
                have EE := ER.below hbq
                have hclE := down hbq hcl
                have hflE := downF hbq hcl hfl
                have hbE := hbr.trans (hbq.mono (Nat.le_of_lt hszr))
                have hszE : wC.heap.size < wE.heap.size := Nat.lt_of_lt_of_le hszr hbq.size
                clear gs gr gm hbq hcl hfl g0 g1 hix
                have HX2 : Hid (∀ k, k < hi → Op.bytesLess (B k).toList m.toList = true) := fun k hk => by
                  by_cases e : k = hi - 1
                  · subst e; exact hq2
                  · exact bl_trans (hok.lt (hi - 1) k (by omega) (by omega)) hq2
                clear hq2
                go_wp2
                go_roundw
                case rel => exact ⟨hi, hi + 2 * (hi - lo), congrArg (Value.int .i64) (by omega), by omega, by omega, by omega, HX2, World.cell?_setCell_same _ _ _ hclE, by rw [World.frozen?_setCell]; exact hflE, hbE.setCell (p := ⟨wC.heap.size, 0, none⟩) (Nat.le_refl _) _, by simpa [World.setCell] using hszE⟩
                case measure => simp [intOf]; omega
            · have hdh : decide ((hi : Int) < n) = false := by simp; omega
              have hend : n < n → lo < n ∧ Op.bytesLess (B (n - 1)).toList m.toList = false := fun h => absurd h (Nat.lt_irrefl _)
              have HEND : Hid _ := hend
              clear hend
              go_wp2_with fail
              refine wp_region_quiet_below (by kernel_rfl) (by kernel_rfl) ?_
              repeat (go_big_quiet_step ((exact member_re _ _ _ _ _)))
              refine wpQuiet_nil ?_
              intro _ hw'
              obtain ⟨⟨dq, osq⟩, hw''⟩ := hw'
              subst hw''
              have hbq := below_regrown wr dq osq
              generalize Sort.grow (redrawn wr dq) osq = wE at *
              clear hdh
              have hge : n ≤ hi := by omega
              rcases Nat.lt_or_eq_of_le hge with hgt | hgt
              · skip
                have EE := ER.below hbq
                have hclE := down hbq hcl
                have hbE := hbr.trans (hbq.mono (Nat.le_of_lt hszr))
                clear gs gr gm hbq hcl hfl
                obtain ⟨r, hr, hr2, hr3⟩ := search_exists (fun k => !Op.bytesLess (B (lo + k)).toList m.toList) (n - lo) (mono_off hok m lo n (by omega))
                have HC : Hid _ := search48_re bw a n c x B C m w.heap.size wC.heap.size (w.heap.size + 1) lo n r wE hn EE hok hclE (by omega) (by omega) ((n : Int) - (lo : Int)) (by omega) hr hr2 hr3
                have HR : Hid _ := fun q hq => findRes_bracket hok HX.out (show lo ≤ n by omega) (show n ≤ n by omega) HEND.out hr hr2 hr3 q hq
                have hmf : ∀ (fn : Fn) (first cap : Array Value) (w : World), (Instr.makeFunc fn first cap).run Try.prog w = .ok (.func fn first cap) w := fun _ _ _ _ => rfl
                have qs := EE.walk.s
                have qr := EE.recv
                have gl := cell_regrown hclE
                clear hr2 hr3
                go_wp2_with fail
                refine wp_region_quiet_below (by kernel_rfl) (by kernel_rfl) ?_
                repeat (go_big_quiet_step ((exact HC.out _ _)))
                refine wpQuiet_nil ?_
                intro _ hw'
                obtain ⟨⟨dq, osq⟩, hw''⟩ := hw'
                subst hw''
                have hbq := below_regrown wE dq osq
                generalize Sort.grow (redrawn wE dq) osq = wF at *
                have EF := EE.below hbq
                have hbF := hbE.trans (hbq.mono hbE.size)
                have hbT := hbC.trans (hbF.mono hbC.size)
                clear gl hbq hbE hbF qs qr hmf hclE EE hbC EC HC
                have gs := cell_regrown EF.walk.s
                have gr := cell_regrown EF.recv
                have gm := cell_regrown EF.mem
                by_cases hin : lo + r < n
                · obtain ⟨b3, off3, ha3, h03, h13⟩ := EF.vec
                  have g0 := cell_regrown (h03 (lo + r) hin)
                  have g1 := cell_regrown (h13 (lo + r) hin)
                  have hix := ixAtI (c := c) Try.underlying33 sz66 ha3 ((lo : Int) + (r : Int)) (lo + r) (by omega) hin
                  have hin' : (lo : Int) + (r : Int) < n := by omega
                  clear h03 h13 ha3
                  cases hq3 : ((B (lo + r)).toList == m.toList)
                  · have HR2 : Hid _ := HR.out false (by simp [hin, hq3])
                    clear HR
                    go_wp2_with fail
                    refine wp_region_quiet_below (by kernel_rfl) (by kernel_rfl) ?_
                    repeat (go_big_quiet_step ((exact member_re _ _ _ _ _)))
                    refine wpQuiet_nil ?_
                    intro _ hw'
                    obtain ⟨⟨dq, osq⟩, hw''⟩ := hw'
                    subst hw''
                    have hbq := below_regrown wF dq osq
                    generalize Sort.grow (redrawn wF dq) osq = wG at *
                    have EG := EF.below hbq
                    have hbU := hbT.trans (hbq.mono hbT.size)
                    clear hbq hbT gs gr gm EF
                    have qr := EG.recv
                    have qn := EG.walk.next
                    have qf := EG.walk.free
                    have HP := EG.walk.putI ((lo : Int) + (r : Int)) (lo + r) (by omega) (by omega)
                    clear EG
                    go_wp2
                    go_ret2
                    exact ⟨HR2.out, ⟨_, HP⟩, (But.of_below (S := (· = bw)) hbU).setCell (p := ⟨bw, 1, none⟩) (Or.inl rfl) _⟩
                  · have HR2 : Hid _ := HR.out true (by simp [hin, hq3])
                    clear HR
                    go_wp2_with fail
                    refine wp_region_quiet_below (by kernel_rfl) (by kernel_rfl) ?_
                    repeat (go_big_quiet_step ((exact member_re _ _ _ _ _)))
                    refine wpQuiet_nil ?_
                    intro _ hw'
                    obtain ⟨⟨dq, osq⟩, hw''⟩ := hw'
                    subst hw''
                    have hbq := below_regrown wF dq osq
                    generalize Sort.grow (redrawn wF dq) osq = wG at *
                    have EG := EF.below hbq
                    have hbU := hbT.trans (hbq.mono hbT.size)
                    clear hbq hbT gs gr gm EF
                    have qr := EG.recv
                    have qn := EG.walk.next
                    have qf := EG.walk.free
                    have HP := (EG.walk.putI ((lo : Int) + (r : Int)) (lo + r) (by omega) (by omega)).putI ((lo : Int) + (r : Int) + 1) (lo + r + 1) (by omega) (by omega)
                    clear EG
                    go_wp2
                    go_ret2
                    exact ⟨HR2.out, ⟨_, HP⟩, ((But.of_below (S := (· = bw)) hbU).setCell (p := ⟨bw, 1, none⟩) (Or.inl rfl) _).setCell (p := ⟨bw, 1, none⟩) (Or.inl rfl) _⟩
                · have hdi : decide ((lo : Int) + (r : Int) < n) = false := by simp; omega
                  have HR2 : Hid _ := HR.out false (by simp [hin])
                  clear HR
                  go_wp2_with fail
                  refine wp_region_quiet_below (by kernel_rfl) (by kernel_rfl) ?_
                  repeat (go_big_quiet_step ((exact member_re _ _ _ _ _)))
                  refine wpQuiet_nil ?_
                  intro _ hw'
                  obtain ⟨⟨dq, osq⟩, hw''⟩ := hw'
                  subst hw''
                  have hbq := below_regrown wF dq osq
                  generalize Sort.grow (redrawn wF dq) osq = wG at *
                  have EG := EF.below hbq
                  have hbU := hbT.trans (hbq.mono hbT.size)
                  clear hbq hbT gs gr gm EF
                  have qr := EG.recv
                  have qn := EG.walk.next
                  have qf := EG.walk.free
                  have HP := EG.walk.putI ((lo : Int) + (r : Int)) (lo + r) (by omega) (by omega)
                  clear EG
                  go_wp2
                  go_ret2
                  exact ⟨HR2.out, ⟨_, HP⟩, (But.of_below (S := (· = bw)) hbU).setCell (p := ⟨bw, 1, none⟩) (Or.inl rfl) _⟩
              · subst hgt
                have EE := ER.below hbq
                have hclE := down hbq hcl
                have hbE := hbr.trans (hbq.mono (Nat.le_of_lt hszr))
                clear gs gr gm hbq hcl hfl
                obtain ⟨r, hr, hr2, hr3⟩ := search_exists (fun k => !Op.bytesLess (B (lo + k)).toList m.toList) (n - lo) (mono_off hok m lo n (by omega))
                have HC : Hid _ := search48_re bw a n c x B C m w.heap.size wC.heap.size (w.heap.size + 1) lo n r wE hn EE hok hclE (by omega) (by omega) ((n : Int) - (lo : Int)) (by omega) hr hr2 hr3
                have HR : Hid _ := fun q hq => findRes_bracket hok HX.out (show lo ≤ n by omega) (show n ≤ n by omega) HEND.out hr hr2 hr3 q hq
                have hmf : ∀ (fn : Fn) (first cap : Array Value) (w : World), (Instr.makeFunc fn first cap).run Try.prog w = .ok (.func fn first cap) w := fun _ _ _ _ => rfl
                have qs := EE.walk.s
                have qr := EE.recv
                have gl := cell_regrown hclE
                clear hr2 hr3
                go_wp2_with fail
                refine wp_region_quiet_below (by kernel_rfl) (by kernel_rfl) ?_
                repeat (go_big_quiet_step ((exact HC.out _ _)))
                refine wpQuiet_nil ?_
                intro _ hw'
                obtain ⟨⟨dq, osq⟩, hw''⟩ := hw'
                subst hw''
                have hbq := below_regrown wE dq osq
                generalize Sort.grow (redrawn wE dq) osq = wF at *
                have EF := EE.below hbq
                have hbF := hbE.trans (hbq.mono hbE.size)
                have hbT := hbC.trans (hbF.mono hbC.size)
                clear gl hbq hbE hbF qs qr hmf hclE EE hbC EC HC
                have gs := cell_regrown EF.walk.s
                have gr := cell_regrown EF.recv
                have gm := cell_regrown EF.mem
                by_cases hin : lo + r < n
                · obtain ⟨b3, off3, ha3, h03, h13⟩ := EF.vec
                  have g0 := cell_regrown (h03 (lo + r) hin)
                  have g1 := cell_regrown (h13 (lo + r) hin)
                  have hix := ixAtI (c := c) Try.underlying33 sz66 ha3 ((lo : Int) + (r : Int)) (lo + r) (by omega) hin
                  have hin' : (lo : Int) + (r : Int) < n := by omega
                  clear h03 h13 ha3
                  cases hq3 : ((B (lo + r)).toList == m.toList)
                  · have HR2 : Hid _ := HR.out false (by simp [hin, hq3])
                    clear HR
                    go_wp2_with fail
                    refine wp_region_quiet_below (by kernel_rfl) (by kernel_rfl) ?_
                    repeat (go_big_quiet_step ((exact member_re _ _ _ _ _)))
                    refine wpQuiet_nil ?_
                    intro _ hw'
                    obtain ⟨⟨dq, osq⟩, hw''⟩ := hw'
                    subst hw''
                    have hbq := below_regrown wF dq osq
                    generalize Sort.grow (redrawn wF dq) osq = wG at *
                    have EG := EF.below hbq
                    have hbU := hbT.trans (hbq.mono hbT.size)
                    clear hbq hbT gs gr gm EF
                    have qr := EG.recv
                    have qn := EG.walk.next
                    have qf := EG.walk.free
                    have HP := EG.walk.putI ((lo : Int) + (r : Int)) (lo + r) (by omega) (by omega)
                    clear EG
                    go_wp2
                    go_ret2
                    exact ⟨HR2.out, ⟨_, HP⟩, (But.of_below (S := (· = bw)) hbU).setCell (p := ⟨bw, 1, none⟩) (Or.inl rfl) _⟩
                  · have HR2 : Hid _ := HR.out true (by simp [hin, hq3])
                    clear HR
                    go_wp2_with fail
                    refine wp_region_quiet_below (by kernel_rfl) (by kernel_rfl) ?_
                    repeat (go_big_quiet_step ((exact member_re _ _ _ _ _)))
                    refine wpQuiet_nil ?_
                    intro _ hw'
                    obtain ⟨⟨dq, osq⟩, hw''⟩ := hw'
                    subst hw''
                    have hbq := below_regrown wF dq osq
                    generalize Sort.grow (redrawn wF dq) osq = wG at *
                    have EG := EF.below hbq
                    have hbU := hbT.trans (hbq.mono hbT.size)
                    clear hbq hbT gs gr gm EF
                    have qr := EG.recv
                    have qn := EG.walk.next
                    have qf := EG.walk.free
                    have HP := (EG.walk.putI ((lo : Int) + (r : Int)) (lo + r) (by omega) (by omega)).putI ((lo : Int) + (r : Int) + 1) (lo + r + 1) (by omega) (by omega)
                    clear EG
                    go_wp2
                    go_ret2
                    exact ⟨HR2.out, ⟨_, HP⟩, ((But.of_below (S := (· = bw)) hbU).setCell (p := ⟨bw, 1, none⟩) (Or.inl rfl) _).setCell (p := ⟨bw, 1, none⟩) (Or.inl rfl) _⟩
                · have hdi : decide ((lo : Int) + (r : Int) < n) = false := by simp; omega
                  have HR2 : Hid _ := HR.out false (by simp [hin])
                  clear HR
                  go_wp2_with fail
                  refine wp_region_quiet_below (by kernel_rfl) (by kernel_rfl) ?_
                  repeat (go_big_quiet_step ((exact member_re _ _ _ _ _)))
                  refine wpQuiet_nil ?_
                  intro _ hw'
                  obtain ⟨⟨dq, osq⟩, hw''⟩ := hw'
                  subst hw''
                  have hbq := below_regrown wF dq osq
                  generalize Sort.grow (redrawn wF dq) osq = wG at *
                  have EG := EF.below hbq
                  have hbU := hbT.trans (hbq.mono hbT.size)
                  clear hbq hbT gs gr gm EF
                  have qr := EG.recv
                  have qn := EG.walk.next
                  have qf := EG.walk.free
                  have HP := EG.walk.putI ((lo : Int) + (r : Int)) (lo + r) (by omega) (by omega)
                  clear EG
                  go_wp2
                  go_ret2
                  exact ⟨HR2.out, ⟨_, HP⟩, (But.of_below (S := (· = bw)) hbU).setCell (p := ⟨bw, 1, none⟩) (Or.inl rfl) _⟩
      · have hd0 : decide ((0 : Int) < x) = false := by simp; omega
        clear h0 h1 ha
        go_wp2_with fail
        refine wp_region_quiet_below (by kernel_rfl) (by kernel_rfl) ?_
        repeat (go_big_quiet_step ((exact member_re _ _ _ _ _)))
        refine wpQuiet_nil ?_
        intro _ hw'
        obtain ⟨⟨dq, osq⟩, hw''⟩ := hw'
        subst hw''
        have hbq := below_regrown wB dq osq
        generalize Sort.grow (redrawn wB dq) osq = wC at *
        have HX : Hid (∀ k, k < x → Op.bytesLess (B k).toList m.toList = true) := fun k hk => by omega
        clear hx0 hd0
        have EC := EB.below hbq
        have hbC := hbB.trans (hbq.mono hbB.size)
        clear hbq hbB EB gs gr gm
        go_wp2_with fail
        go_loopw [8] (fun h wr => ∃ lo hi : Nat, h = .int .i64 hi ∧ lo < hi ∧ lo ≤ n ∧ hi ≤ 3 * n + 1 ∧ Hid (∀ k, k < lo → Op.bytesLess (B k).toList m.toList = true) ∧ wr.cell? ⟨wC.heap.size, 0, none⟩ = some (.int .i64 lo) ∧ wr.frozen? ⟨wC.heap.size, 0, none⟩ = false ∧ Below wC.heap.size wC wr ∧ wC.heap.size < wr.heap.size) (fun h _ => (3 * n + 2 - intOf h).toNat)
        case atStart => exact ⟨x, x + 1, by go_num, by omega, hle, by omega, HX, by simp [go_sem], by simp [go_sem], (Below.refl _ _).alloc (Nat.le_refl _) _, by simp⟩
        case round =>
          clear HX
          obtain ⟨lo, hi, rfl, hlh, hlon, hhi3, HX, hcl, hfl, hbr, hszr⟩ := hrel
          have ER := EC.below hbr
          have gs := cell_regrown ER.walk.s
          have gr := cell_regrown ER.recv
          have gm := cell_regrown ER.mem
          by_cases hh : hi < n
          · obtain ⟨b2, off2, ha2, h02, h12⟩ := ER.vec
            have g0 := cell_regrown (h02 (hi - 1) (by omega))
            have g1 := cell_regrown (h12 (hi - 1) (by omega))
            have hix := ixAtI (c := c) Try.underlying33 sz66 ha2 ((hi : Int) - 1) (hi - 1) (by omega) (by omega)
            have hh' : (hi : Int) < n := by omega
            clear h02 h12 ha2
            cases hq2 : Op.bytesLess (B (hi - 1)).toList m.toList
            · have hend : hi < n → lo < hi ∧ Op.bytesLess (B (hi - 1)).toList m.toList = false := fun _ => ⟨hlh, hq2⟩
              have HEND : Hid _ := hend
              clear hend
              go_wp2_with fail
              refine wp_region_quiet_below (by kernel_rfl) (by kernel_rfl) ?_
              repeat (go_big_quiet_step ((exact member_re _ _ _ _ _)))
              refine wpQuiet_nil ?_
              intro _ hw'
              obtain ⟨⟨dq, osq⟩, hw''⟩ := hw'
              subst hw''
              have hbq := below_regrown wr dq osq
              generalize Sort.grow (redrawn wr dq) osq = wE at *
              clear g0 g1 hix hq2
              have EE := ER.below hbq
              have hclE := down hbq hcl
              have hbE := hbr.trans (hbq.mono (Nat.le_of_lt hszr))
              clear gs gr gm hbq hcl hfl
              obtain ⟨r, hr, hr2, hr3⟩ := search_exists (fun k => !Op.bytesLess (B (lo + k)).toList m.toList) (hi - lo) (mono_off hok m lo hi (by omega))
              have HC : Hid _ := search48_re bw a n c x B C m w.heap.size wC.heap.size (w.heap.size + 1) lo hi r wE hn EE hok hclE (by omega) (by omega) ((hi : Int) - (lo : Int)) (by omega) hr hr2 hr3
              have HR : Hid _ := fun q hq => findRes_bracket hok HX.out (show lo ≤ hi by omega) (show hi ≤ n by omega) HEND.out hr hr2 hr3 q hq
              have hmf : ∀ (fn : Fn) (first cap : Array Value) (w : World), (Instr.makeFunc fn first cap).run Try.prog w = .ok (.func fn first cap) w := fun _ _ _ _ => rfl
              have qs := EE.walk.s
              have qr := EE.recv
              have gl := cell_regrown hclE
              clear hr2 hr3
              go_wp2_with fail
              refine wp_region_quiet_below (by kernel_rfl) (by kernel_rfl) ?_
              repeat (go_big_quiet_step ((exact HC.out _ _)))
              refine wpQuiet_nil ?_
              intro _ hw'
              obtain ⟨⟨dq, osq⟩, hw''⟩ := hw'
              subst hw''
              have hbq := below_regrown wE dq osq
              generalize Sort.grow (redrawn wE dq) osq = wF at *
              have EF := EE.below hbq
              have hbF := hbE.trans (hbq.mono hbE.size)
              have hbT := hbC.trans (hbF.mono hbC.size)
              clear gl hbq hbE hbF qs qr hmf hclE EE hbC EC HC
              have gs := cell_regrown EF.walk.s
              have gr := cell_regrown EF.recv
              have gm := cell_regrown EF.mem
              by_cases hin : lo + r < n
              · obtain ⟨b3, off3, ha3, h03, h13⟩ := EF.vec
                have g0 := cell_regrown (h03 (lo + r) hin)
                have g1 := cell_regrown (h13 (lo + r) hin)
                have hix := ixAtI (c := c) Try.underlying33 sz66 ha3 ((lo : Int) + (r : Int)) (lo + r) (by omega) hin
                have hin' : (lo : Int) + (r : Int) < n := by omega
                clear h03 h13 ha3
                cases hq3 : ((B (lo + r)).toList == m.toList)
                · have HR2 : Hid _ := HR.out false (by simp [hin, hq3])
                  clear HR
                  go_wp2_with fail
                  refine wp_region_quiet_below (by kernel_rfl) (by kernel_rfl) ?_
                  repeat (go_big_quiet_step ((exact member_re _ _ _ _ _)))
                  refine wpQuiet_nil ?_
                  intro _ hw'
                  obtain ⟨⟨dq, osq⟩, hw''⟩ := hw'
                  subst hw''
                  have hbq := below_regrown wF dq osq
                  generalize Sort.grow (redrawn wF dq) osq = wG at *
                  have EG := EF.below hbq
                  have hbU := hbT.trans (hbq.mono hbT.size)
                  clear hbq hbT gs gr gm EF
                  have qr := EG.recv
                  have qn := EG.walk.next
                  have qf := EG.walk.free
                  have HP := EG.walk.putI ((lo : Int) + (r : Int)) (lo + r) (by omega) (by omega)
                  clear EG
                  go_wp2
                  go_ret2
                  exact ⟨HR2.out, ⟨_, HP⟩, (But.of_below (S := (· = bw)) hbU).setCell (p := ⟨bw, 1, none⟩) (Or.inl rfl) _⟩
                · have HR2 : Hid _ := HR.out true (by simp [hin, hq3])
                  clear HR
                  go_wp2_with fail
                  refine wp_region_quiet_below (by kernel_rfl) (by kernel_rfl) ?_
                  repeat (go_big_quiet_step ((exact member_re _ _ _ _ _)))
                  refine wpQuiet_nil ?_
                  intro _ hw'
                  obtain ⟨⟨dq, osq⟩, hw''⟩ := hw'
                  subst hw''
                  have hbq := below_regrown wF dq osq
                  generalize Sort.grow (redrawn wF dq) osq = wG at *
                  have EG := EF.below hbq
                  have hbU := hbT.trans (hbq.mono hbT.size)
                  clear hbq hbT gs gr gm EF
                  have qr := EG.recv
                  have qn := EG.walk.next
                  have qf := EG.walk.free
                  have HP := (EG.walk.putI ((lo : Int) + (r : Int)) (lo + r) (by omega) (by omega)).putI ((lo : Int) + (r : Int) + 1) (lo + r + 1) (by omega) (by omega)
                  clear EG
                  go_wp2
                  go_ret2
                  exact ⟨HR2.out, ⟨_, HP⟩, ((But.of_below (S := (· = bw)) hbU).setCell (p := ⟨bw, 1, none⟩) (Or.inl rfl) _).setCell (p := ⟨bw, 1, none⟩) (Or.inl rfl) _⟩
              · exact absurd (show lo + r < n by omega) hin
            · go_wp2_with fail
              refine wp_region_quiet_below (by kernel_rfl) (by kernel_rfl) ?_
              repeat (go_big_quiet_step ((exact member_re _ _ _ _ _)))
              refine wpQuiet_nil ?_
              intro _ hw'
              obtain ⟨⟨dq, osq⟩, hw''⟩ := hw'
              subst hw''
              have hbq := below_regrown wr dq osq
              generalize Sort.grow (redrawn wr dq) osq = wE at *
              have EE := ER.below hbq
              have hclE := down hbq hcl
              have hflE := downF hbq hcl hfl
              have hbE := hbr.trans (hbq.mono (Nat.le_of_lt hszr))
              have hszE : wC.heap.size < wE.heap.size := Nat.lt_of_lt_of_le hszr hbq.size
              clear gs gr gm hbq hcl hfl g0 g1 hix
              have HX2 : Hid (∀ k, k < hi → Op.bytesLess (B k).toList m.toList = true) := fun k hk => by
                by_cases e : k = hi - 1
                · subst e; exact hq2
                · exact bl_trans (hok.lt (hi - 1) k (by omega) (by omega)) hq2
              clear hq2
              go_wp2
              go_roundw
              case rel => exact ⟨hi, hi + 2 * (hi - lo), congrArg (Value.int .i64) (by omega), by omega, by omega, by omega, HX2, World.cell?_setCell_same _ _ _ hclE, by rw [World.frozen?_setCell]; exact hflE, hbE.setCell (p := ⟨wC.heap.size, 0, none⟩) (Nat.le_refl _) _, by simpa [World.setCell] using hszE⟩
              case measure => simp [intOf]; omega
          · have hdh : decide ((hi : Int) < n) = false := by simp; omega
            have hend : n < n → lo < n ∧ Op.bytesLess (B (n - 1)).toList m.toList = false := fun h => absurd h (Nat.lt_irrefl _)
            have HEND : Hid _ := hend
            clear hend
            go_wp2_with fail
            refine wp_region_quiet_below (by kernel_rfl) (by kernel_rfl) ?_
            repeat (go_big_quiet_step ((exact member_re _ _ _ _ _)))
            refine wpQuiet_nil ?_
            intro _ hw'
            obtain ⟨⟨dq, osq⟩, hw''⟩ := hw'
            subst hw''
            have hbq := below_regrown wr dq osq
            generalize Sort.grow (redrawn wr dq) osq = wE at *
            clear hdh
            have hge : n ≤ hi := by omega
            rcases Nat.lt_or_eq_of_le hge with hgt | hgt
            · skip
              have EE := ER.below hbq
              have hclE := down hbq hcl
              have hbE := hbr.trans (hbq.mono (Nat.le_of_lt hszr))
              clear gs gr gm hbq hcl hfl
              obtain ⟨r, hr, hr2, hr3⟩ := search_exists (fun k => !Op.bytesLess (B (lo + k)).toList m.toList) (n - lo) (mono_off hok m lo n (by omega))
              have HC : Hid _ := search48_re bw a n c x B C m w.heap.size wC.heap.size (w.heap.size + 1) lo n r wE hn EE hok hclE (by omega) (by omega) ((n : Int) - (lo : Int)) (by omega) hr hr2 hr3
              have HR : Hid _ := fun q hq => findRes_bracket hok HX.out (show lo ≤ n by omega) (show n ≤ n by omega) HEND.out hr hr2 hr3 q hq
              have hmf : ∀ (fn : Fn) (first cap : Array Value) (w : World), (Instr.makeFunc fn first cap).run Try.prog w = .ok (.func fn first cap) w := fun _ _ _ _ => rfl
              have qs := EE.walk.s
              have qr := EE.recv
              have gl := cell_regrown hclE
              clear hr2 hr3
              go_wp2_with fail
              refine wp_region_quiet_below (by kernel_rfl) (by kernel_rfl) ?_
              repeat (go_big_quiet_step ((exact HC.out _ _)))
              refine wpQuiet_nil ?_
              intro _ hw'
              obtain ⟨⟨dq, osq⟩, hw''⟩ := hw'
              subst hw''
              have hbq := below_regrown wE dq osq
              generalize Sort.grow (redrawn wE dq) osq = wF at *
              have EF := EE.below hbq
              have hbF := hbE.trans (hbq.mono hbE.size)
              have hbT := hbC.trans (hbF.mono hbC.size)
              clear gl hbq hbE hbF qs qr hmf hclE EE hbC EC HC
              have gs := cell_regrown EF.walk.s
              have gr := cell_regrown EF.recv
              have gm := cell_regrown EF.mem
              by_cases hin : lo + r < n
              · obtain ⟨b3, off3, ha3, h03, h13⟩ := EF.vec
                have g0 := cell_regrown (h03 (lo + r) hin)
                have g1 := cell_regrown (h13 (lo + r) hin)
                have hix := ixAtI (c := c) Try.underlying33 sz66 ha3 ((lo : Int) + (r : Int)) (lo + r) (by omega) hin
                have hin' : (lo : Int) + (r : Int) < n := by omega
                clear h03 h13 ha3
                cases hq3 : ((B (lo + r)).toList == m.toList)
                · have HR2 : Hid _ := HR.out false (by simp [hin, hq3])
                  clear HR
                  go_wp2_with fail
                  refine wp_region_quiet_below (by kernel_rfl) (by kernel_rfl) ?_
                  repeat (go_big_quiet_step ((exact member_re _ _ _ _ _)))
                  refine wpQuiet_nil ?_
                  intro _ hw'
                  obtain ⟨⟨dq, osq⟩, hw''⟩ := hw'
                  subst hw''
                  have hbq := below_regrown wF dq osq
                  generalize Sort.grow (redrawn wF dq) osq = wG at *
                  have EG := EF.below hbq
                  have hbU := hbT.trans (hbq.mono hbT.size)
                  clear hbq hbT gs gr gm EF
                  have qr := EG.recv
                  have qn := EG.walk.next
                  have qf := EG.walk.free
                  have HP := EG.walk.putI ((lo : Int) + (r : Int)) (lo + r) (by omega) (by omega)
                  clear EG
                  go_wp2
                  go_ret2
                  exact ⟨HR2.out, ⟨_, HP⟩, (But.of_below (S := (· = bw)) hbU).setCell (p := ⟨bw, 1, none⟩) (Or.inl rfl) _⟩
                · have HR2 : Hid _ := HR.out true (by simp [hin, hq3])
                  clear HR
                  go_wp2_with fail
                  refine wp_region_quiet_below (by kernel_rfl) (by kernel_rfl) ?_
                  repeat (go_big_quiet_step ((exact member_re _ _ _ _ _)))
                  refine wpQuiet_nil ?_
                  intro _ hw'
                  obtain ⟨⟨dq, osq⟩, hw''⟩ := hw'
                  subst hw''
                  have hbq := below_regrown wF dq osq
                  generalize Sort.grow (redrawn wF dq) osq = wG at *
                  have EG := EF.below hbq
                  have hbU := hbT.trans (hbq.mono hbT.size)
                  clear hbq hbT gs gr gm EF
                  have qr := EG.recv
                  have qn := EG.walk.next
                  have qf := EG.walk.free
                  have HP := (EG.walk.putI ((lo : Int) + (r : Int)) (lo + r) (by omega) (by omega)).putI ((lo : Int) + (r : Int) + 1) (lo + r + 1) (by omega) (by omega)
                  clear EG
                  go_wp2
                  go_ret2
                  exact ⟨HR2.out, ⟨_, HP⟩, ((But.of_below (S := (· = bw)) hbU).setCell (p := ⟨bw, 1, none⟩) (Or.inl rfl) _).setCell (p := ⟨bw, 1, none⟩) (Or.inl rfl) _⟩
              · have hdi : decide ((lo : Int) + (r : Int) < n) = false := by simp; omega
                have HR2 : Hid _ := HR.out false (by simp [hin])
                clear HR
                go_wp2_with fail
                refine wp_region_quiet_below (by kernel_rfl) (by kernel_rfl) ?_
                repeat (go_big_quiet_step ((exact member_re _ _ _ _ _)))
                refine wpQuiet_nil ?_
                intro _ hw'
                obtain ⟨⟨dq, osq⟩, hw''⟩ := hw'
                subst hw''
                have hbq := below_regrown wF dq osq
                generalize Sort.grow (redrawn wF dq) osq = wG at *
                have EG := EF.below hbq
                have hbU := hbT.trans (hbq.mono hbT.size)
                clear hbq hbT gs gr gm EF
                have qr := EG.recv
                have qn := EG.walk.next
                have qf := EG.walk.free
                have HP := EG.walk.putI ((lo : Int) + (r : Int)) (lo + r) (by omega) (by omega)
                clear EG
                go_wp2
                go_ret2
                exact ⟨HR2.out, ⟨_, HP⟩, (But.of_below (S := (· = bw)) hbU).setCell (p := ⟨bw, 1, none⟩) (Or.inl rfl) _⟩
            · subst hgt
              have EE := ER.below hbq
              have hclE := down hbq hcl
              have hbE := hbr.trans (hbq.mono (Nat.le_of_lt hszr))
              clear gs gr gm hbq hcl hfl
              obtain ⟨r, hr, hr2, hr3⟩ := search_exists (fun k => !Op.bytesLess (B (lo + k)).toList m.toList) (n - lo) (mono_off hok m lo n (by omega))
              have HC : Hid _ := search48_re bw a n c x B C m w.heap.size wC.heap.size (w.heap.size + 1) lo n r wE hn EE hok hclE (by omega) (by omega) ((n : Int) - (lo : Int)) (by omega) hr hr2 hr3
              have HR : Hid _ := fun q hq => findRes_bracket hok HX.out (show lo ≤ n by omega) (show n ≤ n by omega) HEND.out hr hr2 hr3 q hq
              have hmf : ∀ (fn : Fn) (first cap : Array Value) (w : World), (Instr.makeFunc fn first cap).run Try.prog w = .ok (.func fn first cap) w := fun _ _ _ _ => rfl
              have qs := EE.walk.s
              have qr := EE.recv
              have gl := cell_regrown hclE
              clear hr2 hr3
              go_wp2_with fail
              refine wp_region_quiet_below (by kernel_rfl) (by kernel_rfl) ?_
              repeat (go_big_quiet_step ((exact HC.out _ _)))
              refine wpQuiet_nil ?_
              intro _ hw'
              obtain ⟨⟨dq, osq⟩, hw''⟩ := hw'
              subst hw''
              have hbq := below_regrown wE dq osq
              generalize Sort.grow (redrawn wE dq) osq = wF at *
              have EF := EE.below hbq
              have hbF := hbE.trans (hbq.mono hbE.size)
              have hbT := hbC.trans (hbF.mono hbC.size)
              clear gl hbq hbE hbF qs qr hmf hclE EE hbC EC HC
              have gs := cell_regrown EF.walk.s
              have gr := cell_regrown EF.recv
              have gm := cell_regrown EF.mem
              by_cases hin : lo + r < n
              · obtain ⟨b3, off3, ha3, h03, h13⟩ := EF.vec
                have g0 := cell_regrown (h03 (lo + r) hin)
                have g1 := cell_regrown (h13 (lo + r) hin)
                have hix := ixAtI (c := c) Try.underlying33 sz66 ha3 ((lo : Int) + (r : Int)) (lo + r) (by omega) hin
                have hin' : (lo : Int) + (r : Int) < n := by omega
                clear h03 h13 ha3
                cases hq3 : ((B (lo + r)).toList == m.toList)
                · have HR2 : Hid _ := HR.out false (by simp [hin, hq3])
                  clear HR
                  go_wp2_with fail
                  refine wp_region_quiet_below (by kernel_rfl) (by kernel_rfl) ?_
                  repeat (go_big_quiet_step ((exact member_re _ _ _ _ _)))
                  refine wpQuiet_nil ?_
                  intro _ hw'
                  obtain ⟨⟨dq, osq⟩, hw''⟩ := hw'
                  subst hw''
                  have hbq := below_regrown wF dq osq
                  generalize Sort.grow (redrawn wF dq) osq = wG at *
                  have EG := EF.below hbq
                  have hbU := hbT.trans (hbq.mono hbT.size)
                  clear hbq hbT gs gr gm EF
                  have qr := EG.recv
                  have qn := EG.walk.next
                  have qf := EG.walk.free
                  have HP := EG.walk.putI ((lo : Int) + (r : Int)) (lo + r) (by omega) (by omega)
                  clear EG
                  go_wp2
                  go_ret2
                  exact ⟨HR2.out, ⟨_, HP⟩, (But.of_below (S := (· = bw)) hbU).setCell (p := ⟨bw, 1, none⟩) (Or.inl rfl) _⟩
                · have HR2 : Hid _ := HR.out true (by simp [hin, hq3])
                  clear HR
                  go_wp2_with fail
                  refine wp_region_quiet_below (by kernel_rfl) (by kernel_rfl) ?_
                  repeat (go_big_quiet_step ((exact member_re _ _ _ _ _)))
                  refine wpQuiet_nil ?_
                  intro _ hw'
                  obtain ⟨⟨dq, osq⟩, hw''⟩ := hw'
                  subst hw''
                  have hbq := below_regrown wF dq osq
                  generalize Sort.grow (redrawn wF dq) osq = wG at *
                  have EG := EF.below hbq
                  have hbU := hbT.trans (hbq.mono hbT.size)
                  clear hbq hbT gs gr gm EF
                  have qr := EG.recv
                  have qn := EG.walk.next
                  have qf := EG.walk.free
                  have HP := (EG.walk.putI ((lo : Int) + (r : Int)) (lo + r) (by omega) (by omega)).putI ((lo : Int) + (r : Int) + 1) (lo + r + 1) (by omega) (by omega)
                  clear EG
                  go_wp2
                  go_ret2
                  exact ⟨HR2.out, ⟨_, HP⟩, ((But.of_below (S := (· = bw)) hbU).setCell (p := ⟨bw, 1, none⟩) (Or.inl rfl) _).setCell (p := ⟨bw, 1, none⟩) (Or.inl rfl) _⟩
              · have hdi : decide ((lo : Int) + (r : Int) < n) = false := by simp; omega
                have HR2 : Hid _ := HR.out false (by simp [hin])
                clear HR
                go_wp2_with fail
                refine wp_region_quiet_below (by kernel_rfl) (by kernel_rfl) ?_
                repeat (go_big_quiet_step ((exact member_re _ _ _ _ _)))
                refine wpQuiet_nil ?_
                intro _ hw'
                obtain ⟨⟨dq, osq⟩, hw''⟩ := hw'
                subst hw''
                have hbq := below_regrown wF dq osq
                generalize Sort.grow (redrawn wF dq) osq = wG at *
                have EG := EF.below hbq
                have hbU := hbT.trans (hbq.mono hbT.size)
                clear hbq hbT gs gr gm EF
                have qr := EG.recv
                have qn := EG.walk.next
                have qf := EG.walk.free
                have HP := EG.walk.putI ((lo : Int) + (r : Int)) (lo + r) (by omega) (by omega)
                clear EG
                go_wp2
                go_ret2
                exact ⟨HR2.out, ⟨_, HP⟩, (But.of_below (S := (· = bw)) hbU).setCell (p := ⟨bw, 1, none⟩) (Or.inl rfl) _⟩
    · clear h0 h1 ha
      refine wp_region_quiet_below (by kernel_rfl) (by kernel_rfl) ?_
      repeat (go_big_quiet_step ((exact member_re _ _ _ _ _)))
      refine wpQuiet_nil ?_
      intro _ hw'
      obtain ⟨⟨dq, osq⟩, hw''⟩ := hw'
      subst hw''
      have hbq := below_regrown wA dq osq
      generalize Sort.grow (redrawn wA dq) osq = wB at *
      have EB := EA.below hbq
      clear gs gr gm g0 g1
      have qs := EB.walk.s
      have qr := EB.recv
      have qn := EB.walk.next
      have qf := EB.walk.free
      have HP := EB.walk.put (y := x + 1) (by omega)
      have hbt := hbA.trans (hbq.mono hbA.size)
      clear hbq
      go_wp2
      go_ret2
      exact ⟨findRes_at hok hlt hq, ⟨x + 1, HP⟩, (But.of_below (S := (· = bw)) hbt).setCell (p := ⟨bw, 1, none⟩) (Or.inl rfl) _⟩
  · have hd : decide ((x : Int) < n) = false := by simp; omega
    clear h0 h1 ha
    refine wp_region_quiet_below (by kernel_rfl) (by kernel_rfl) ?_
    repeat (go_big_quiet_step ((exact member_re _ _ _ _ _)))
    refine wpQuiet_nil ?_
    intro _ hw'
    obtain ⟨⟨dq, osq⟩, hw''⟩ := hw'
    subst hw''
    have hbq := below_regrown wA dq osq
    generalize Sort.grow (redrawn wA dq) osq = wB at *
    clear gs gr gm hd
    have EB := EA.below hbq
    have hbB := hbA.trans (hbq.mono hbA.size)
    clear hbq hbA EA
    have gs := cell_regrown EB.walk.s
    have gr := cell_regrown EB.recv
    have gm := cell_regrown EB.mem
    obtain ⟨b, off, ha, h0, h1⟩ := EB.vec
    by_cases hx0 : 0 < x
    · have g0 := cell_regrown (h0 (x - 1) (by omega))
      have g1 := cell_regrown (h1 (x - 1) (by omega))
      have hix := ixAtI (c := c) Try.underlying33 sz66 ha ((x : Int) - 1) (x - 1) (by omega) (by omega)
      have hx0' : (0 : Int) < x := by omega
      clear h0 h1 ha
      cases hq1 : Op.bytesLess (B (x - 1)).toList m.toList
      · go_wp2_with fail
        refine wp_region_quiet_below (by kernel_rfl) (by kernel_rfl) ?_
        repeat (go_big_quiet_step ((exact member_re _ _ _ _ _)))
        refine wpQuiet_nil ?_
        intro _ hw'
        obtain ⟨⟨dq, osq⟩, hw''⟩ := hw'
        subst hw''
        have hbq := below_regrown wB dq osq
        generalize Sort.grow (redrawn wB dq) osq = wC at *
        have EC := EB.below hbq
        have hbC := hbB.trans (hbq.mono hbB.size)
        clear hbq hbB EB gs gr gm g0 g1 hix
        have gs := cell_regrown EC.walk.s
        have gr := cell_regrown EC.recv
        have gm := cell_regrown EC.mem
        obtain ⟨r, hr, hr2, hr3⟩ := search_exists (fun k => !Op.bytesLess (B k).toList m.toList) n (hok.mono m)
        have HC : Hid _ := searchVE_at a n c r B C m wC hn EC.vec hok hr hr2 hr3
        have HR : Hid _ := And.intro hr (And.intro hr2 hr3)
        clear hr hr2 hr3
        go_wp2_with fail
        refine wp_region_quiet_below (by kernel_rfl) (by kernel_rfl) ?_
        repeat (go_big_quiet_step ((exact HC.out _ _)))
        refine wpQuiet_nil ?_
        intro _ hw'
        obtain ⟨⟨dq, osq⟩, hw''⟩ := hw'
        subst hw''
        have hbq := below_regrown wC dq osq
        generalize Sort.grow (redrawn wC dq) osq = wD at *
        have ED := EC.below hbq
        have hbD := hbC.trans (hbq.mono hbC.size)
        clear hbq hbC EC gs gr gm
        go_wp2
        go_ret2
        exact ⟨⟨r, rfl, HR.out.1, fun k hk => by simpa using HR.out.2.1 k hk, fun k hk1 hk2 => by simpa using HR.out.2.2 k hk1 hk2⟩, ⟨x, ED.walk⟩, But.of_below hbD⟩
      · go_wp2_with fail
        refine wp_region_quiet_below (by kernel_rfl) (by kernel_rfl) ?_
        repeat (go_big_quiet_step ((exact member_re _ _ _ _ _)))
        refine wpQuiet_nil ?_
        intro _ hw'
        obtain ⟨⟨dq, osq⟩, hw''⟩ := hw'
        subst hw''
        have hbq := below_regrown wB dq osq
        generalize Sort.grow (redrawn wB dq) osq = wC at *
        have HX : Hid (∀ k, k < x → Op.bytesLess (B k).toList m.toList = true) := fun k hk => by
          by_cases e : k = x - 1
          · subst e; exact hq1
          · exact bl_trans (hok.lt (x - 1) k (by omega) (by omega)) hq1
        clear hq1 hx0 hx0' g0 g1 hix
        have EC := EB.below hbq
        have hbC := hbB.trans (hbq.mono hbB.size)
        clear hbq hbB EB gs gr gm
        go_wp2_with fail
        go_loopw [8] (fun h wr => ∃ lo hi : Nat, h = .int .i64 hi ∧ lo < hi ∧ lo ≤ n ∧ hi ≤ 3 * n + 1 ∧ Hid (∀ k, k < lo → Op.bytesLess (B k).toList m.toList = true) ∧ wr.cell? ⟨wC.heap.size, 0, none⟩ = some (.int .i64 lo) ∧ wr.frozen? ⟨wC.heap.size, 0, none⟩ = false ∧ Below wC.heap.size wC wr ∧ wC.heap.size < wr.heap.size) (fun h _ => (3 * n + 2 - intOf h).toNat)
        case atStart => exact ⟨x, x + 1, by go_num, by omega, hle, by omega, HX, by simp [go_sem], by simp [go_sem], (Below.refl _ _).alloc (Nat.le_refl _) _, by simp⟩
        case round =>
          clear HX
          obtain ⟨lo, hi, rfl, hlh, hlon, hhi3, HX, hcl, hfl, hbr, hszr⟩ := hrel
          have ER := EC.below hbr
          have gs := cell_regrown ER.walk.s
          have gr := cell_regrown ER.recv
          have gm := cell_regrown ER.mem
          by_cases hh : hi < n
          · obtain ⟨b2, off2, ha2, h02, h12⟩ := ER.vec
            have g0 := cell_regrown (h02 (hi - 1) (by omega))
            have g1 := cell_regrown (h12 (hi - 1) (by omega))
            have hix := ixAtI (c := c) Try.underlying33 sz66 ha2 ((hi : Int) - 1) (hi - 1) (by omega) (by omega)
            have hh' : (hi : Int) < n := by omega
            clear h02 h12 ha2
            cases hq2 : Op.bytesLess (B (hi - 1)).toList m.toList
            · have hend : hi < n → lo < hi ∧ Op.bytesLess (B (hi - 1)).toList m.toList = false := fun _ => ⟨hlh, hq2⟩
              have HEND : Hid _ := hend
              clear hend
              go_wp2_with fail
              refine wp_region_quiet_below (by kernel_rfl) (by kernel_rfl) ?_
              repeat (go_big_quiet_step ((exact member_re _ _ _ _ _)))
              refine wpQuiet_nil ?_
              intro _ hw'
              obtain ⟨⟨dq, osq⟩, hw''⟩ := hw'
              subst hw''
              have hbq := below_regrown wr dq osq
              generalize Sort.grow (redrawn wr dq) osq = wE at *
              clear g0 g1 hix hq2
              have EE := ER.below hbq
              have hclE := down hbq hcl
              have hbE := hbr.trans (hbq.mono (Nat.le_of_lt hszr))
              clear gs gr gm hbq hcl hfl
              obtain ⟨r, hr, hr2, hr3⟩ := search_exists (fun k => !Op.bytesLess (B (lo + k)).toList m.toList) (hi - lo) (mono_off hok m lo hi (by omega))
              have HC : Hid _ := search48_re bw a n c x B C m w.heap.size wC.heap.size (w.heap.size + 1) lo hi r wE hn EE hok hclE (by omega) (by omega) ((hi : Int) - (lo : Int)) (by omega) hr hr2 hr3
              have HR : Hid _ := fun q hq => findRes_bracket hok HX.out (show lo ≤ hi by omega) (show hi ≤ n by omega) HEND.out hr hr2 hr3 q hq
              have hmf : ∀ (fn : Fn) (first cap : Array Value) (w : World), (Instr.makeFunc fn first cap).run Try.prog w = .ok (.func fn first cap) w := fun _ _ _ _ => rfl
              have qs := EE.walk.s
              have qr := EE.recv
              have gl := cell_regrown hclE
              clear hr2 hr3
              go_wp2_with fail
              refine wp_region_quiet_below (by kernel_rfl) (by kernel_rfl) ?_
              repeat (go_big_quiet_step ((exact HC.out _ _)))
              refine wpQuiet_nil ?_
              intro _ hw'
              obtain ⟨⟨dq, osq⟩, hw''⟩ := hw'
              subst hw''
              have hbq := below_regrown wE dq osq
              generalize Sort.grow (redrawn wE dq) osq = wF at *
              have EF := EE.below hbq
              have hbF := hbE.trans (hbq.mono hbE.size)
              have hbT := hbC.trans (hbF.mono hbC.size)
              clear gl hbq hbE hbF qs qr hmf hclE EE hbC EC HC
              have gs := cell_regrown EF.walk.s
              have gr := cell_regrown EF.recv
              have gm := cell_regrown EF.mem
              by_cases hin : lo + r < n
              · obtain ⟨b3, off3, ha3, h03, h13⟩ := EF.vec
                have g0 := cell_regrown (h03 (lo + r) hin)
                have g1 := cell_regrown (h13 (lo + r) hin)
                have hix := ixAtI (c := c) Try.underlying33 sz66 ha3 ((lo : Int) + (r : Int)) (lo + r) (by omega) hin
                have hin' : (lo : Int) + (r : Int) < n := by omega
                clear h03 h13 ha3
                cases hq3 : ((B (lo + r)).toList == m.toList)
                · have HR2 : Hid _ := HR.out false (by simp [hin, hq3])
                  clear HR
                  go_wp2_with fail
                  refine wp_region_quiet_below (by kernel_rfl) (by kernel_rfl) ?_
                  repeat (go_big_quiet_step ((exact member_re _ _ _ _ _)))
                  refine wpQuiet_nil ?_
                  intro _ hw'
                  obtain ⟨⟨dq, osq⟩, hw''⟩ := hw'
                  subst hw''
                  have hbq := below_regrown wF dq osq
                  generalize Sort.grow (redrawn wF dq) osq = wG at *
                  have EG := EF.below hbq
                  have hbU := hbT.trans (hbq.mono hbT.size)
                  clear hbq hbT gs gr gm EF
                  have qr := EG.recv
                  have qn := EG.walk.next
                  have qf := EG.walk.free
                  have HP := EG.walk.putI ((lo : Int) + (r : Int)) (lo + r) (by omega) (by omega)
                  clear EG
                  go_wp2
                  go_ret2
                  exact ⟨HR2.out, ⟨_, HP⟩, (But.of_below (S := (· = bw)) hbU).setCell (p := ⟨bw, 1, none⟩) (Or.inl rfl) _⟩
                · have HR2 : Hid _ := HR.out true (by simp [hin, hq3])
                  clear HR
                  go_wp2_with fail
                  refine wp_region_quiet_below (by kernel_rfl) (by kernel_rfl) ?_
                  repeat (go_big_quiet_step ((exact member_re _ _ _ _ _)))
                  refine wpQuiet_nil ?_
                  intro _ hw'
                  obtain ⟨⟨dq, osq⟩, hw''⟩ := hw'
                  subst hw''
                  have hbq := below_regrown wF dq osq
                  generalize Sort.grow (redrawn wF dq) osq = wG at *
                  have EG := EF.below hbq
                  have hbU := hbT.trans (hbq.mono hbT.size)
                  clear hbq hbT gs gr gm EF
                  have qr := EG.recv
                  have qn := EG.walk.next
                  have qf := EG.walk.free
                  have HP := (EG.walk.putI ((lo : Int) + (r : Int)) (lo + r) (by omega) (by omega)).putI ((lo : Int) + (r : Int) + 1) (lo + r + 1) (by omega) (by omega)
                  clear EG
                  go_wp2
                  go_ret2
                  exact ⟨HR2.out, ⟨_, HP⟩, ((But.of_below (S := (· = bw)) hbU).setCell (p := ⟨bw, 1, none⟩) (Or.inl rfl) _).setCell (p := ⟨bw, 1, none⟩) (Or.inl rfl) _⟩
              · exact absurd (show lo + r < n by omega) hin
            · go_wp2_with fail
              refine wp_region_quiet_below (by kernel_rfl) (by kernel_rfl) ?_
              repeat (go_big_quiet_step ((exact member_re _ _ _ _ _)))
              refine wpQuiet_nil ?_
              intro _ hw'
              obtain ⟨⟨dq, osq⟩, hw''⟩ := hw'
              subst hw''
              have hbq := below_regrown wr dq osq
              generalize Sort.grow (redrawn wr dq) osq = wE at *
              have EE := ER.below hbq
              have hclE := down hbq hcl
              have hflE := downF hbq hcl hfl
              have hbE := hbr.trans (hbq.mono (Nat.le_of_lt hszr))
              have hszE : wC.heap.size < wE.heap.size := Nat.lt_of_lt_of_le hszr hbq.size
              clear gs gr gm hbq hcl hfl g0 g1 hix
              have HX2 : Hid (∀ k, k < hi → Op.bytesLess (B k).toList m.toList = true) := fun k hk => by
                by_cases e : k = hi - 1
                · subst e; exact hq2
                · exact bl_trans (hok.lt (hi - 1) k (by omega) (by omega)) hq2
              clear hq2
              go_wp2
              go_roundw
              case rel => exact ⟨hi, hi + 2 * (hi - lo), congrArg (Value.int .i64) (by omega), by omega, by omega, by omega, HX2, World.cell?_setCell_same _ _ _ hclE, by rw [World.frozen?_setCell]; exact hflE, hbE.setCell (p := ⟨wC.heap.size, 0, none⟩) (Nat.le_refl _) _, by simpa [World.setCell] using hszE⟩
              case measure => simp [intOf]; omega
          · have hdh : decide ((hi : Int) < n) = false := by simp; omega
            have hend : n < n → lo < n ∧ Op.bytesLess (B (n - 1)).toList m.toList = false := fun h => absurd h (Nat.lt_irrefl _)
            have HEND : Hid _ := hend
            clear hend
            go_wp2_with fail
            refine wp_region_quiet_below (by kernel_rfl) (by kernel_rfl) ?_
            repeat (go_big_quiet_step ((exact member_re _ _ _ _ _)))
            refine wpQuiet_nil ?_
            intro _ hw'
            obtain ⟨⟨dq, osq⟩, hw''⟩ := hw'
            subst hw''
            have hbq := below_regrown wr dq osq
            generalize Sort.grow (redrawn wr dq) osq = wE at *
            clear hdh
            have hge : n ≤ hi := by omega
            rcases Nat.lt_or_eq_of_le hge with hgt | hgt
            · skip
              have EE := ER.below hbq
              have hclE := down hbq hcl
              have hbE := hbr.trans (hbq.mono (Nat.le_of_lt hszr))
              clear gs gr gm hbq hcl hfl
              obtain ⟨r, hr, hr2, hr3⟩ := search_exists (fun k => !Op.bytesLess (B (lo + k)).toList m.toList) (n - lo) (mono_off hok m lo n (by omega))
              have HC : Hid _ := search48_re bw a n c x B C m w.heap.size wC.heap.size (w.heap.size + 1) lo n r wE hn EE hok hclE (by omega) (by omega) ((n : Int) - (lo : Int)) (by omega) hr hr2 hr3
              have HR : Hid _ := fun q hq => findRes_bracket hok HX.out (show lo ≤ n by omega) (show n ≤ n by omega) HEND.out hr hr2 hr3 q hq
              have hmf : ∀ (fn : Fn) (first cap : Array Value) (w : World), (Instr.makeFunc fn first cap).run Try.prog w = .ok (.func fn first cap) w := fun _ _ _ _ => rfl
              have qs := EE.walk.s
              have qr := EE.recv
              have gl := cell_regrown hclE
              clear hr2 hr3
              go_wp2_with fail
              refine wp_region_quiet_below (by kernel_rfl) (by kernel_rfl) ?_
              repeat (go_big_quiet_step ((exact HC.out _ _)))
              refine wpQuiet_nil ?_
              intro _ hw'
              obtain ⟨⟨dq, osq⟩, hw''⟩ := hw'
              subst hw''
              have hbq := below_regrown wE dq osq
              generalize Sort.grow (redrawn wE dq) osq = wF at *
              have EF := EE.below hbq
              have hbF := hbE.trans (hbq.mono hbE.size)
              have hbT := hbC.trans (hbF.mono hbC.size)
              clear gl hbq hbE hbF qs qr hmf hclE EE hbC EC HC
              have gs := cell_regrown EF.walk.s
              have gr := cell_regrown EF.recv
              have gm := cell_regrown EF.mem
              by_cases hin : lo + r < n
              · obtain ⟨b3, off3, ha3, h03, h13⟩ := EF.vec
                have g0 := cell_regrown (h03 (lo + r) hin)
                have g1 := cell_regrown (h13 (lo + r) hin)
                have hix := ixAtI (c := c) Try.underlying33 sz66 ha3 ((lo : Int) + (r : Int)) (lo + r) (by omega) hin
                have hin' : (lo : Int) + (r : Int) < n := by omega
                clear h03 h13 ha3
                cases hq3 : ((B (lo + r)).toList == m.toList)
                · have HR2 : Hid _ := HR.out false (by simp [hin, hq3])
                  clear HR
                  go_wp2_with fail
                  refine wp_region_quiet_below (by kernel_rfl) (by kernel_rfl) ?_
                  repeat (go_big_quiet_step ((exact member_re _ _ _ _ _)))
                  refine wpQuiet_nil ?_
                  intro _ hw'
                  obtain ⟨⟨dq, osq⟩, hw''⟩ := hw'
                  subst hw''
                  have hbq := below_regrown wF dq osq
                  generalize Sort.grow (redrawn wF dq) osq = wG at *
                  have EG := EF.below hbq
                  have hbU := hbT.trans (hbq.mono hbT.size)
                  clear hbq hbT gs gr gm EF
                  have qr := EG.recv
                  have qn := EG.walk.next
                  have qf := EG.walk.free
                  have HP := EG.walk.putI ((lo : Int) + (r : Int)) (lo + r) (by omega) (by omega)
                  clear EG
                  go_wp2
                  go_ret2
                  exact ⟨HR2.out, ⟨_, HP⟩, (But.of_below (S := (· = bw)) hbU).setCell (p := ⟨bw, 1, none⟩) (Or.inl rfl) _⟩
                · have HR2 : Hid _ := HR.out true (by simp [hin, hq3])
                  clear HR
                  go_wp2_with fail
                  refine wp_region_quiet_below (by kernel_rfl) (by kernel_rfl) ?_
                  repeat (go_big_quiet_step ((exact member_re _ _ _ _ _)))
                  refine wpQuiet_nil ?_
                  intro _ hw'
                  obtain ⟨⟨dq, osq⟩, hw''⟩ := hw'
                  subst hw''
                  have hbq := below_regrown wF dq osq
                  generalize Sort.grow (redrawn wF dq) osq = wG at *
                  have EG := EF.below hbq
                  have hbU := hbT.trans (hbq.mono hbT.size)
                  clear hbq hbT gs gr gm EF
                  have qr := EG.recv
                  have qn := EG.walk.next
                  have qf := EG.walk.free
                  have HP := (EG.walk.putI ((lo : Int) + (r : Int)) (lo + r) (by omega) (by omega)).putI ((lo : Int) + (r : Int) + 1) (lo + r + 1) (by omega) (by omega)
                  clear EG
                  go_wp2
                  go_ret2
                  exact ⟨HR2.out, ⟨_, HP⟩, ((But.of_below (S := (· = bw)) hbU).setCell (p := ⟨bw, 1, none⟩) (Or.inl rfl) _).setCell (p := ⟨bw, 1, none⟩) (Or.inl rfl) _⟩
              · have hdi : decide ((lo : Int) + (r : Int) < n) = false := by simp; omega
                have HR2 : Hid _ := HR.out false (by simp [hin])
                clear HR
                go_wp2_with fail
                refine wp_region_quiet_below (by kernel_rfl) (by kernel_rfl) ?_
                repeat (go_big_quiet_step ((exact member_re _ _ _ _ _)))
                refine wpQuiet_nil ?_
                intro _ hw'
                obtain ⟨⟨dq, osq⟩, hw''⟩ := hw'
                subst hw''
                have hbq := below_regrown wF dq osq
                generalize Sort.grow (redrawn wF dq) osq = wG at *
                have EG := EF.below hbq
                have hbU := hbT.trans (hbq.mono hbT.size)
                clear hbq hbT gs gr gm EF
                have qr := EG.recv
                have qn := EG.walk.next
                have qf := EG.walk.free
                have HP := EG.walk.putI ((lo : Int) + (r : Int)) (lo + r) (by omega) (by omega)
                clear EG
                go_wp2
                go_ret2
                exact ⟨HR2.out, ⟨_, HP⟩, (But.of_below (S := (· = bw)) hbU).setCell (p := ⟨bw, 1, none⟩) (Or.inl rfl) _⟩
            · subst hgt
              have EE := ER.below hbq
              have hclE := down hbq hcl
              have hbE := hbr.trans (hbq.mono (Nat.le_of_lt hszr))
              clear gs gr gm hbq hcl hfl
              obtain ⟨r, hr, hr2, hr3⟩ := search_exists (fun k => !Op.bytesLess (B (lo + k)).toList m.toList) (n - lo) (mono_off hok m lo n (by omega))
              have HC : Hid _ := search48_re bw a n c x B C m w.heap.size wC.heap.size (w.heap.size + 1) lo n r wE hn EE hok hclE (by omega) (by omega) ((n : Int) - (lo : Int)) (by omega) hr hr2 hr3
              have HR : Hid _ := fun q hq => findRes_bracket hok HX.out (show lo ≤ n by omega) (show n ≤ n by omega) HEND.out hr hr2 hr3 q hq
              have hmf : ∀ (fn : Fn) (first cap : Array Value) (w : World), (Instr.makeFunc fn first cap).run Try.prog w = .ok (.func fn first cap) w := fun _ _ _ _ => rfl
              have qs := EE.walk.s
              have qr := EE.recv
              have gl := cell_regrown hclE
              clear hr2 hr3
              go_wp2_with fail
              refine wp_region_quiet_below (by kernel_rfl) (by kernel_rfl) ?_
              repeat (go_big_quiet_step ((exact HC.out _ _)))
              refine wpQuiet_nil ?_
              intro _ hw'
              obtain ⟨⟨dq, osq⟩, hw''⟩ := hw'
              subst hw''
              have hbq := below_regrown wE dq osq
              generalize Sort.grow (redrawn wE dq) osq = wF at *
              have EF := EE.below hbq
              have hbF := hbE.trans (hbq.mono hbE.size)
              have hbT := hbC.trans (hbF.mono hbC.size)
              clear gl hbq hbE hbF qs qr hmf hclE EE hbC EC HC
              have gs := cell_regrown EF.walk.s
              have gr := cell_regrown EF.recv
              have gm := cell_regrown EF.mem
              by_cases hin : lo + r < n
              · obtain ⟨b3, off3, ha3, h03, h13⟩ := EF.vec
                have g0 := cell_regrown (h03 (lo + r) hin)
                have g1 := cell_regrown (h13 (lo + r) hin)
                have hix := ixAtI (c := c) Try.underlying33 sz66 ha3 ((lo : Int) + (r : Int)) (lo + r) (by omega) hin
                have hin' : (lo : Int) + (r : Int) < n := by omega
                clear h03 h13 ha3
                cases hq3 : ((B (lo + r)).toList == m.toList)
                · have HR2 : Hid _ := HR.out false (by simp [hin, hq3])
                  clear HR
                  go_wp2_with fail
                  refine wp_region_quiet_below (by kernel_rfl) (by kernel_rfl) ?_
                  repeat (go_big_quiet_step ((exact member_re _ _ _ _ _)))
                  refine wpQuiet_nil ?_
                  intro _ hw'
                  obtain ⟨⟨dq, osq⟩, hw''⟩ := hw'
                  subst hw''
                  have hbq := below_regrown wF dq osq
                  generalize Sort.grow (redrawn wF dq) osq = wG at *
                  have EG := EF.below hbq
                  have hbU := hbT.trans (hbq.mono hbT.size)
                  clear hbq hbT gs gr gm EF
                  have qr := EG.recv
                  have qn := EG.walk.next
                  have qf := EG.walk.free
                  have HP := EG.walk.putI ((lo : Int) + (r : Int)) (lo + r) (by omega) (by omega)
                  clear EG
                  go_wp2
                  go_ret2
                  exact ⟨HR2.out, ⟨_, HP⟩, (But.of_below (S := (· = bw)) hbU).setCell (p := ⟨bw, 1, none⟩) (Or.inl rfl) _⟩
                · have HR2 : Hid _ := HR.out true (by simp [hin, hq3])
                  clear HR
                  go_wp2_with fail
                  refine wp_region_quiet_below (by kernel_rfl) (by kernel_rfl) ?_
                  repeat (go_big_quiet_step ((exact member_re _ _ _ _ _)))
                  refine wpQuiet_nil ?_
                  intro _ hw'
                  obtain ⟨⟨dq, osq⟩, hw''⟩ := hw'
                  subst hw''
                  have hbq := below_regrown wF dq osq
                  generalize Sort.grow (redrawn wF dq) osq = wG at *
                  have EG := EF.below hbq
                  have hbU := hbT.trans (hbq.mono hbT.size)
                  clear hbq hbT gs gr gm EF
                  have qr := EG.recv
                  have qn := EG.walk.next
                  have qf := EG.walk.free
                  have HP := (EG.walk.putI ((lo : Int) + (r : Int)) (lo + r) (by omega) (by omega)).putI ((lo : Int) + (r : Int) + 1) (lo + r + 1) (by omega) (by omega)
                  clear EG
                  go_wp2
                  go_ret2
                  exact ⟨HR2.out, ⟨_, HP⟩, ((But.of_below (S := (· = bw)) hbU).setCell (p := ⟨bw, 1, none⟩) (Or.inl rfl) _).setCell (p := ⟨bw, 1, none⟩) (Or.inl rfl) _⟩
              · have hdi : decide ((lo : Int) + (r : Int) < n) = false := by simp; omega
                have HR2 : Hid _ := HR.out false (by simp [hin])
                clear HR
                go_wp2_with fail
                refine wp_region_quiet_below (by kernel_rfl) (by kernel_rfl) ?_
                repeat (go_big_quiet_step ((exact member_re _ _ _ _ _)))
                refine wpQuiet_nil ?_
                intro _ hw'
                obtain ⟨⟨dq, osq⟩, hw''⟩ := hw'
                subst hw''
                have hbq := below_regrown wF dq osq
                generalize Sort.grow (redrawn wF dq) osq = wG at *
                have EG := EF.below hbq
                have hbU := hbT.trans (hbq.mono hbT.size)
                clear hbq hbT gs gr gm EF
                have qr := EG.recv
                have qn := EG.walk.next
                have qf := EG.walk.free
                have HP := EG.walk.putI ((lo : Int) + (r : Int)) (lo + r) (by omega) (by omega)
                clear EG
                go_wp2
                go_ret2
                exact ⟨HR2.out, ⟨_, HP⟩, (But.of_below (S := (· = bw)) hbU).setCell (p := ⟨bw, 1, none⟩) (Or.inl rfl) _⟩
    · have hd0 : decide ((0 : Int) < x) = false := by simp; omega
      clear h0 h1 ha
      go_wp2_with fail
      refine wp_region_quiet_below (by kernel_rfl) (by kernel_rfl) ?_
      repeat (go_big_quiet_step ((exact member_re _ _ _ _ _)))
      refine wpQuiet_nil ?_
      intro _ hw'
      obtain ⟨⟨dq, osq⟩, hw''⟩ := hw'
      subst hw''
      have hbq := below_regrown wB dq osq
      generalize Sort.grow (redrawn wB dq) osq = wC at *
      have HX : Hid (∀ k, k < x → Op.bytesLess (B k).toList m.toList = true) := fun k hk => by omega
      clear hx0 hd0
      have EC := EB.below hbq
      have hbC := hbB.trans (hbq.mono hbB.size)
      clear hbq hbB EB gs gr gm
      go_wp2_with fail
      go_loopw [8] (fun h wr => ∃ lo hi : Nat, h = .int .i64 hi ∧ lo < hi ∧ lo ≤ n ∧ hi ≤ 3 * n + 1 ∧ Hid (∀ k, k < lo → Op.bytesLess (B k).toList m.toList = true) ∧ wr.cell? ⟨wC.heap.size, 0, none⟩ = some (.int .i64 lo) ∧ wr.frozen? ⟨wC.heap.size, 0, none⟩ = false ∧ Below wC.heap.size wC wr ∧ wC.heap.size < wr.heap.size) (fun h _ => (3 * n + 2 - intOf h).toNat)
      case atStart => exact ⟨x, x + 1, by go_num, by omega, hle, by omega, HX, by simp [go_sem], by simp [go_sem], (Below.refl _ _).alloc (Nat.le_refl _) _, by simp⟩
      case round =>
        clear HX
        obtain ⟨lo, hi, rfl, hlh, hlon, hhi3, HX, hcl, hfl, hbr, hszr⟩ := hrel
        have ER := EC.below hbr
        have gs := cell_regrown ER.walk.s
        have gr := cell_regrown ER.recv
        have gm := cell_regrown ER.mem
        by_cases hh : hi < n
        · obtain ⟨b2, off2, ha2, h02, h12⟩ := ER.vec
          have g0 := cell_regrown (h02 (hi - 1) (by omega))
          have g1 := cell_regrown (h12 (hi - 1) (by omega))
          have hix := ixAtI (c := c) Try.underlying33 sz66 ha2 ((hi : Int) - 1) (hi - 1) (by omega) (by omega)
          have hh' : (hi : Int) < n := by omega
          clear h02 h12 ha2
          cases hq2 : Op.bytesLess (B (hi - 1)).toList m.toList
          · have hend : hi < n → lo < hi ∧ Op.bytesLess (B (hi - 1)).toList m.toList = false := fun _ => ⟨hlh, hq2⟩
            have HEND : Hid _ := hend
            clear hend
            go_wp2_with fail
            refine wp_region_quiet_below (by kernel_rfl) (by kernel_rfl) ?_
            repeat (go_big_quiet_step ((exact member_re _ _ _ _ _)))
            refine wpQuiet_nil ?_
            intro _ hw'
            obtain ⟨⟨dq, osq⟩, hw''⟩ := hw'
            subst hw''
            have hbq := below_regrown wr dq osq
            generalize Sort.grow (redrawn wr dq) osq = wE at *
            clear g0 g1 hix hq2
            have EE := ER.below hbq
            have hclE := down hbq hcl
            have hbE := hbr.trans (hbq.mono (Nat.le_of_lt hszr))
            clear gs gr gm hbq hcl hfl
            obtain ⟨r, hr, hr2, hr3⟩ := search_exists (fun k => !Op.bytesLess (B (lo + k)).toList m.toList) (hi - lo) (mono_off hok m lo hi (by omega))
            have HC : Hid _ := search48_re bw a n c x B C m w.heap.size wC.heap.size (w.heap.size + 1) lo hi r wE hn EE hok hclE (by omega) (by omega) ((hi : Int) - (lo : Int)) (by omega) hr hr2 hr3
            have HR : Hid _ := fun q hq => findRes_bracket hok HX.out (show lo ≤ hi by omega) (show hi ≤ n by omega) HEND.out hr hr2 hr3 q hq
            have hmf : ∀ (fn : Fn) (first cap : Array Value) (w : World), (Instr.makeFunc fn first cap).run Try.prog w = .ok (.func fn first cap) w := fun _ _ _ _ => rfl
            have qs := EE.walk.s
            have qr := EE.recv
            have gl := cell_regrown hclE
            clear hr2 hr3
            go_wp2_with fail
            refine wp_region_quiet_below (by kernel_rfl) (by kernel_rfl) ?_
            repeat (go_big_quiet_step ((exact HC.out _ _)))
            refine wpQuiet_nil ?_
            intro _ hw'
            obtain ⟨⟨dq, osq⟩, hw''⟩ := hw'
            subst hw''
            have hbq := below_regrown wE dq osq
            generalize Sort.grow (redrawn wE dq) osq = wF at *
            have EF := EE.below hbq
            have hbF := hbE.trans (hbq.mono hbE.size)
            have hbT := hbC.trans (hbF.mono hbC.size)
            clear gl hbq hbE hbF qs qr hmf hclE EE hbC EC HC
            have gs := cell_regrown EF.walk.s
            have gr := cell_regrown EF.recv
            have gm := cell_regrown EF.mem
            by_cases hin : lo + r < n
            · obtain ⟨b3, off3, ha3, h03, h13⟩ := EF.vec
              have g0 := cell_regrown (h03 (lo + r) hin)
              have g1 := cell_regrown (h13 (lo + r) hin)
              have hix := ixAtI (c := c) Try.underlying33 sz66 ha3 ((lo : Int) + (r : Int)) (lo + r) (by omega) hin
              have hin' : (lo : Int) + (r : Int) < n := by omega
              clear h03 h13 ha3
              cases hq3 : ((B (lo + r)).toList == m.toList)
              · have HR2 : Hid _ := HR.out false (by simp [hin, hq3])
                clear HR
                go_wp2_with fail
                refine wp_region_quiet_below (by kernel_rfl) (by kernel_rfl) ?_
                repeat (go_big_quiet_step ((exact member_re _ _ _ _ _)))
                refine wpQuiet_nil ?_
                intro _ hw'
                obtain ⟨⟨dq, osq⟩, hw''⟩ := hw'
                subst hw''
                have hbq := below_regrown wF dq osq
                generalize Sort.grow (redrawn wF dq) osq = wG at *
                have EG := EF.below hbq
                have hbU := hbT.trans (hbq.mono hbT.size)
                clear hbq hbT gs gr gm EF
                have qr := EG.recv
                have qn := EG.walk.next
                have qf := EG.walk.free
                have HP := EG.walk.putI ((lo : Int) + (r : Int)) (lo + r) (by omega) (by omega)
                clear EG
                go_wp2
                go_ret2
                exact ⟨HR2.out, ⟨_, HP⟩, (But.of_below (S := (· = bw)) hbU).setCell (p := ⟨bw, 1, none⟩) (Or.inl rfl) _⟩
              · have HR2 : Hid _ := HR.out true (by simp [hin, hq3])
                clear HR
                go_wp2_with fail
                refine wp_region_quiet_below (by kernel_rfl) (by kernel_rfl) ?_
                repeat (go_big_quiet_step ((exact member_re _ _ _ _ _)))
                refine wpQuiet_nil ?_
                intro _ hw'
                obtain ⟨⟨dq, osq⟩, hw''⟩ := hw'
                subst hw''
                have hbq := below_regrown wF dq osq
                generalize Sort.grow (redrawn wF dq) osq = wG at *
                have EG := EF.below hbq
                have hbU := hbT.trans (hbq.mono hbT.size)
                clear hbq hbT gs gr gm EF
                have qr := EG.recv
                have qn := EG.walk.next
                have qf := EG.walk.free
                have HP := (EG.walk.putI ((lo : Int) + (r : Int)) (lo + r) (by omega) (by omega)).putI ((lo : Int) + (r : Int) + 1) (lo + r + 1) (by omega) (by omega)
                clear EG
                go_wp2
                go_ret2
                exact ⟨HR2.out, ⟨_, HP⟩, ((But.of_below (S := (· = bw)) hbU).setCell (p := ⟨bw, 1, none⟩) (Or.inl rfl) _).setCell (p := ⟨bw, 1, none⟩) (Or.inl rfl) _⟩
            · exact absurd (show lo + r < n by omega) hin
          · go_wp2_with fail
            refine wp_region_quiet_below (by kernel_rfl) (by kernel_rfl) ?_
            repeat (go_big_quiet_step ((exact member_re _ _ _ _ _)))
            refine wpQuiet_nil ?_
            intro _ hw'
            obtain ⟨⟨dq, osq⟩, hw''⟩ := hw'
            subst hw''
            have hbq := below_regrown wr dq osq
            generalize Sort.grow (redrawn wr dq) osq = wE at *
            have EE := ER.below hbq
            have hclE := down hbq hcl
            have hflE := downF hbq hcl hfl
            have hbE := hbr.trans (hbq.mono (Nat.le_of_lt hszr))
            have hszE : wC.heap.size < wE.heap.size := Nat.lt_of_lt_of_le hszr hbq.size
            clear gs gr gm hbq hcl hfl g0 g1 hix
            have HX2 : Hid (∀ k, k < hi → Op.bytesLess (B k).toList m.toList = true) := fun k hk => by
              by_cases e : k = hi - 1
              · subst e; exact hq2
              · exact bl_trans (hok.lt (hi - 1) k (by omega) (by omega)) hq2
            clear hq2
            go_wp2
            go_roundw
            case rel => exact ⟨hi, hi + 2 * (hi - lo), congrArg (Value.int .i64) (by omega), by omega, by omega, by omega, HX2, World.cell?_setCell_same _ _ _ hclE, by rw [World.frozen?_setCell]; exact hflE, hbE.setCell (p := ⟨wC.heap.size, 0, none⟩) (Nat.le_refl _) _, by simpa [World.setCell] using hszE⟩
            case measure => simp [intOf]; omega
        · have hdh : decide ((hi : Int) < n) = false := by simp; omega
          have hend : n < n → lo < n ∧ Op.bytesLess (B (n - 1)).toList m.toList = false := fun h => absurd h (Nat.lt_irrefl _)
          have HEND : Hid _ := hend
          clear hend
          go_wp2_with fail
          refine wp_region_quiet_below (by kernel_rfl) (by kernel_rfl) ?_
          repeat (go_big_quiet_step ((exact member_re _ _ _ _ _)))
          refine wpQuiet_nil ?_
          intro _ hw'
          obtain ⟨⟨dq, osq⟩, hw''⟩ := hw'
          subst hw''
          have hbq := below_regrown wr dq osq
          generalize Sort.grow (redrawn wr dq) osq = wE at *
          clear hdh
          have hge : n ≤ hi := by omega
          rcases Nat.lt_or_eq_of_le hge with hgt | hgt
          · skip
            have EE := ER.below hbq
            have hclE := down hbq hcl
            have hbE := hbr.trans (hbq.mono (Nat.le_of_lt hszr))
            clear gs gr gm hbq hcl hfl
            obtain ⟨r, hr, hr2, hr3⟩ := search_exists (fun k => !Op.bytesLess (B (lo + k)).toList m.toList) (n - lo) (mono_off hok m lo n (by omega))
            have HC : Hid _ := search48_re bw a n c x B C m w.heap.size wC.heap.size (w.heap.size + 1) lo n r wE hn EE hok hclE (by omega) (by omega) ((n : Int) - (lo : Int)) (by omega) hr hr2 hr3
            have HR : Hid _ := fun q hq => findRes_bracket hok HX.out (show lo ≤ n by omega) (show n ≤ n by omega) HEND.out hr hr2 hr3 q hq
            have hmf : ∀ (fn : Fn) (first cap : Array Value) (w : World), (Instr.makeFunc fn first cap).run Try.prog w = .ok (.func fn first cap) w := fun _ _ _ _ => rfl
            have qs := EE.walk.s
            have qr := EE.recv
            have gl := cell_regrown hclE
            clear hr2 hr3
            go_wp2_with fail
            refine wp_region_quiet_below (by kernel_rfl) (by kernel_rfl) ?_
            repeat (go_big_quiet_step ((exact HC.out _ _)))
            refine wpQuiet_nil ?_
            intro _ hw'
            obtain ⟨⟨dq, osq⟩, hw''⟩ := hw'
            subst hw''
            have hbq := below_regrown wE dq osq
            generalize Sort.grow (redrawn wE dq) osq = wF at *
            have EF := EE.below hbq
            have hbF := hbE.trans (hbq.mono hbE.size)
            have hbT := hbC.trans (hbF.mono hbC.size)
            clear gl hbq hbE hbF qs qr hmf hclE EE hbC EC HC
            have gs := cell_regrown EF.walk.s
            have gr := cell_regrown EF.recv
            have gm := cell_regrown EF.mem
            by_cases hin : lo + r < n
            · obtain ⟨b3, off3, ha3, h03, h13⟩ := EF.vec
              have g0 := cell_regrown (h03 (lo + r) hin)
              have g1 := cell_regrown (h13 (lo + r) hin)
              have hix := ixAtI (c := c) Try.underlying33 sz66 ha3 ((lo : Int) + (r : Int)) (lo + r) (by omega) hin
              have hin' : (lo : Int) + (r : Int) < n := by omega
              clear h03 h13 ha3
              cases hq3 : ((B (lo + r)).toList == m.toList)
              · have HR2 : Hid _ := HR.out false (by simp [hin, hq3])
                clear HR
                go_wp2_with fail
                refine wp_region_quiet_below (by kernel_rfl) (by kernel_rfl) ?_
                repeat (go_big_quiet_step ((exact member_re _ _ _ _ _)))
                refine wpQuiet_nil ?_
                intro _ hw'
                obtain ⟨⟨dq, osq⟩, hw''⟩ := hw'
                subst hw''
                have hbq := below_regrown wF dq osq
                generalize Sort.grow (redrawn wF dq) osq = wG at *
                have EG := EF.below hbq
                have hbU := hbT.trans (hbq.mono hbT.size)
                clear hbq hbT gs gr gm EF
                have qr := EG.recv
                have qn := EG.walk.next
                have qf := EG.walk.free
                have HP := EG.walk.putI ((lo : Int) + (r : Int)) (lo + r) (by omega) (by omega)
                clear EG
                go_wp2
                go_ret2
                exact ⟨HR2.out, ⟨_, HP⟩, (But.of_below (S := (· = bw)) hbU).setCell (p := ⟨bw, 1, none⟩) (Or.inl rfl) _⟩
              · have HR2 : Hid _ := HR.out true (by simp [hin, hq3])
                clear HR
                go_wp2_with fail
                refine wp_region_quiet_below (by kernel_rfl) (by kernel_rfl) ?_
                repeat (go_big_quiet_step ((exact member_re _ _ _ _ _)))
                refine wpQuiet_nil ?_
                intro _ hw'
                obtain ⟨⟨dq, osq⟩, hw''⟩ := hw'
                subst hw''
                have hbq := below_regrown wF dq osq
                generalize Sort.grow (redrawn wF dq) osq = wG at *
                have EG := EF.below hbq
                have hbU := hbT.trans (hbq.mono hbT.size)
                clear hbq hbT gs gr gm EF
                have qr := EG.recv
                have qn := EG.walk.next
                have qf := EG.walk.free
                have HP := (EG.walk.putI ((lo : Int) + (r : Int)) (lo + r) (by omega) (by omega)).putI ((lo : Int) + (r : Int) + 1) (lo + r + 1) (by omega) (by omega)
                clear EG
                go_wp2
                go_ret2
                exact ⟨HR2.out, ⟨_, HP⟩, ((But.of_below (S := (· = bw)) hbU).setCell (p := ⟨bw, 1, none⟩) (Or.inl rfl) _).setCell (p := ⟨bw, 1, none⟩) (Or.inl rfl) _⟩
            · have hdi : decide ((lo : Int) + (r : Int) < n) = false := by simp; omega
              have HR2 : Hid _ := HR.out false (by simp [hin])
              clear HR
              go_wp2_with fail
              refine wp_region_quiet_below (by kernel_rfl) (by kernel_rfl) ?_
              repeat (go_big_quiet_step ((exact member_re _ _ _ _ _)))
              refine wpQuiet_nil ?_
              intro _ hw'
              obtain ⟨⟨dq, osq⟩, hw''⟩ := hw'
              subst hw''
              have hbq := below_regrown wF dq osq
              generalize Sort.grow (redrawn wF dq) osq = wG at *
              have EG := EF.below hbq
              have hbU := hbT.trans (hbq.mono hbT.size)
              clear hbq hbT gs gr gm EF
              have qr := EG.recv
              have qn := EG.walk.next
              have qf := EG.walk.free
              have HP := EG.walk.putI ((lo : Int) + (r : Int)) (lo + r) (by omega) (by omega)
              clear EG
              go_wp2
              go_ret2
              exact ⟨HR2.out, ⟨_, HP⟩, (But.of_below (S := (· = bw)) hbU).setCell (p := ⟨bw, 1, none⟩) (Or.inl rfl) _⟩
          · subst hgt
            have EE := ER.below hbq
            have hclE := down hbq hcl
            have hbE := hbr.trans (hbq.mono (Nat.le_of_lt hszr))
            clear gs gr gm hbq hcl hfl
            obtain ⟨r, hr, hr2, hr3⟩ := search_exists (fun k => !Op.bytesLess (B (lo + k)).toList m.toList) (n - lo) (mono_off hok m lo n (by omega))
            have HC : Hid _ := search48_re bw a n c x B C m w.heap.size wC.heap.size (w.heap.size + 1) lo n r wE hn EE hok hclE (by omega) (by omega) ((n : Int) - (lo : Int)) (by omega) hr hr2 hr3
            have HR : Hid _ := fun q hq => findRes_bracket hok HX.out (show lo ≤ n by omega) (show n ≤ n by omega) HEND.out hr hr2 hr3 q hq
            have hmf : ∀ (fn : Fn) (first cap : Array Value) (w : World), (Instr.makeFunc fn first cap).run Try.prog w = .ok (.func fn first cap) w := fun _ _ _ _ => rfl
            have qs := EE.walk.s
            have qr := EE.recv
            have gl := cell_regrown hclE
            clear hr2 hr3
            go_wp2_with fail
            refine wp_region_quiet_below (by kernel_rfl) (by kernel_rfl) ?_
            repeat (go_big_quiet_step ((exact HC.out _ _)))
            refine wpQuiet_nil ?_
            intro _ hw'
            obtain ⟨⟨dq, osq⟩, hw''⟩ := hw'
            subst hw''
            have hbq := below_regrown wE dq osq
            generalize Sort.grow (redrawn wE dq) osq = wF at *
            have EF := EE.below hbq
            have hbF := hbE.trans (hbq.mono hbE.size)
            have hbT := hbC.trans (hbF.mono hbC.size)
            clear gl hbq hbE hbF qs qr hmf hclE EE hbC EC HC
            have gs := cell_regrown EF.walk.s
            have gr := cell_regrown EF.recv
            have gm := cell_regrown EF.mem
            by_cases hin : lo + r < n
            · obtain ⟨b3, off3, ha3, h03, h13⟩ := EF.vec
              have g0 := cell_regrown (h03 (lo + r) hin)
              have g1 := cell_regrown (h13 (lo + r) hin)
              have hix := ixAtI (c := c) Try.underlying33 sz66 ha3 ((lo : Int) + (r : Int)) (lo + r) (by omega) hin
              have hin' : (lo : Int) + (r : Int) < n := by omega
              clear h03 h13 ha3
              cases hq3 : ((B (lo + r)).toList == m.toList)
              · have HR2 : Hid _ := HR.out false (by simp [hin, hq3])
                clear HR
                go_wp2_with fail
                refine wp_region_quiet_below (by kernel_rfl) (by kernel_rfl) ?_
                repeat (go_big_quiet_step ((exact member_re _ _ _ _ _)))
                refine wpQuiet_nil ?_
                intro _ hw'
                obtain ⟨⟨dq, osq⟩, hw''⟩ := hw'
                subst hw''
                have hbq := below_regrown wF dq osq
                generalize Sort.grow (redrawn wF dq) osq = wG at *
                have EG := EF.below hbq
                have hbU := hbT.trans (hbq.mono hbT.size)
                clear hbq hbT gs gr gm EF
                have qr := EG.recv
                have qn := EG.walk.next
                have qf := EG.walk.free
                have HP := EG.walk.putI ((lo : Int) + (r : Int)) (lo + r) (by omega) (by omega)
                clear EG
                go_wp2
                go_ret2
                exact ⟨HR2.out, ⟨_, HP⟩, (But.of_below (S := (· = bw)) hbU).setCell (p := ⟨bw, 1, none⟩) (Or.inl rfl) _⟩
              · have HR2 : Hid _ := HR.out true (by simp [hin, hq3])
                clear HR
                go_wp2_with fail
                refine wp_region_quiet_below (by kernel_rfl) (by kernel_rfl) ?_
                repeat (go_big_quiet_step ((exact member_re _ _ _ _ _)))
                refine wpQuiet_nil ?_
                intro _ hw'
                obtain ⟨⟨dq, osq⟩, hw''⟩ := hw'
                subst hw''
                have hbq := below_regrown wF dq osq
                generalize Sort.grow (redrawn wF dq) osq = wG at *
                have EG := EF.below hbq
                have hbU := hbT.trans (hbq.mono hbT.size)
                clear hbq hbT gs gr gm EF
                have qr := EG.recv
                have qn := EG.walk.next
                have qf := EG.walk.free
                have HP := (EG.walk.putI ((lo : Int) + (r : Int)) (lo + r) (by omega) (by omega)).putI ((lo : Int) + (r : Int) + 1) (lo + r + 1) (by omega) (by omega)
                clear EG
                go_wp2
                go_ret2
                exact ⟨HR2.out, ⟨_, HP⟩, ((But.of_below (S := (· = bw)) hbU).setCell (p := ⟨bw, 1, none⟩) (Or.inl rfl) _).setCell (p := ⟨bw, 1, none⟩) (Or.inl rfl) _⟩
            · have hdi : decide ((lo : Int) + (r : Int) < n) = false := by simp; omega
              have HR2 : Hid _ := HR.out false (by simp [hin])
              clear HR
              go_wp2_with fail
              refine wp_region_quiet_below (by kernel_rfl) (by kernel_rfl) ?_
              repeat (go_big_quiet_step ((exact member_re _ _ _ _ _)))
              refine wpQuiet_nil ?_
              intro _ hw'
              obtain ⟨⟨dq, osq⟩, hw''⟩ := hw'
              subst hw''
              have hbq := below_regrown wF dq osq
              generalize Sort.grow (redrawn wF dq) osq = wG at *
              have EG := EF.below hbq
              have hbU := hbT.trans (hbq.mono hbT.size)
              clear hbq hbT gs gr gm EF
              have qr := EG.recv
              have qn := EG.walk.next
              have qf := EG.walk.free
              have HP := EG.walk.putI ((lo : Int) + (r : Int)) (lo + r) (by omega) (by omega)
              clear EG
              go_wp2
              go_ret2
              exact ⟨HR2.out, ⟨_, HP⟩, (But.of_below (S := (· = bw)) hbU).setCell (p := ⟨bw, 1, none⟩) (Or.inl rfl) _⟩
end Go.Proofs.Qxb6613110a
