import Derived.Test.Qxb6612650aDoorC
import Derived.Test.Qxb6612650aDoorQ
import Derived.Test.Qxb6612650aDoorS
import Derived.Laws.CopyOwn
import Derived.Deep.RegionHeld2
namespace Go.Proofs.Qxb6612650aDoor
open Go.RowKit

theorem run_part {av : Option Addr} {nv cv : Nat} (k : Nat) (hk : k ≤ cv) (wx : World) : (Instr.sliceAt 23 (.slice av nv cv) none (some (.int .i64 (k : Int))) none).run Tryd.prog wx = .ok (.slice av k cv) wx := by
  have he : Tryd.prog.elem 23 = 3 := by simp [Program.elem, Tryd.underlying23]
  have hu : Tryd.prog.underlying 23 = some (.slice (Tryd.prog.elem 23)) := by rw [he]; exact Tryd.underlying23
  rw [run_sliceAt_slice (h := hu), run_slice_h (ht := hu) (h0 := by omega) (h2 := by omega), he, sz3]
  cases av <;> simp [sliced, Addr.add]
theorem run_rest {av : Option Addr} {nv cv : Nat} (k : Nat) (hk : k ≤ nv) (wx : World) : (Instr.sliceAt 23 (.slice av nv cv) (some (.int .i64 (k : Int))) none none).run Tryd.prog wx = .ok (.slice (if cv = k then av else av.map (·.add k)) (nv - k) (cv - k)) wx := by
  have he : Tryd.prog.elem 23 = 3 := by simp [Program.elem, Tryd.underlying23]
  have hu : Tryd.prog.underlying 23 = some (.slice (Tryd.prog.elem 23)) := by rw [he]; exact Tryd.underlying23
  rw [run_sliceAt_slice (h := hu), run_slice_l (ht := hu) (h0 := by omega) (h1 := by omega), he, sz3]
  simp [sliced]
theorem Tryd.info3 : (Tryd.prog.info? 3).map (fun i => (i.zero, i.size, i.bytes)) = some (some (.int .i64 0), 1, 8) := by kernel_rfl
theorem Tryd.size3 : (Tryd.prog.info? 3).map (·.size) = some 1 := by kernel_rfl

/-- the copy's cells -/
def csL (m : Nat) (U : Nat → Int) : List Value := (List.range m).map fun i => Value.int .i64 (U i)
theorem csL_length (m : Nat) (U : Nat → Int) : (csL m U).length = m := by simp [csL]
theorem csL_get {m : Nat} {U : Nat → Int} {i : Nat} (h : i < m) : (csL m U)[i]? = some (.int .i64 (U i)) := by simp [csL, h]
theorem csL_src {w : World} {a : Option Addr} {m : Nat} {U : Nat → Int} (h : IntsAt w a m U) (x : Addr) (hx : a = some x) : ∀ (j : Nat) v, (csL m U)[j]? = some v → w.cell? (x.add j) = some v := by
  intro j v hj
  have hl : j < m := by
    have := (List.getElem?_eq_some_iff.1 hj).1
    rwa [csL_length] at this
  rw [csL_get hl] at hj
  obtain ⟨b, off, ha, hc⟩ := h
  rcases ha with ha | ha
  · omega
  · rw [ha] at hx
    cases hx
    cases hj
    rw [show (⟨b, off, none⟩ : Addr).add j = ⟨b, off + j, none⟩ from by simp [Addr.add]]
    exact hc j hl
theorem csL_one (m : Nat) (U : Nat → Int) : ∀ v ∈ csL m U, v.oneCell' = true := by
  intro v hv
  simp only [csL, List.mem_map] at hv
  obtain ⟨i, _, rfl⟩ := hv
  rfl
theorem premise_any (a0 a1 a4 : Option Addr) (n0 c0 n1 c1 m c4 : Nat) (C0 C1 U : Nat → Int) (sW : Bool) (q : Nat) (w : World) (hq : q < 2) (hm0 : n0 ≤ 32768) (hm1 : n1 ≤ 32768) (hm4 : m ≤ 32768) (hv0 : BytesAt w a0 n0 C0) (hv1 : BytesAt w a1 n1 C1) (hv4 : IntsAt w a4 m U) :
    Calls Tryd.prog 6 #[.slice a0 n0 c0, .slice a1 n1 c1, .bool sW, .int .i64 (q : Int), .slice a4 m c4] w fun e w' => PremRes e (Units (pick2 C0 C1 q) (pick2 n0 n1 q) m U) ∧ Below w.heap.size w w' := by
  rcases (by omega : q = 0 ∨ q = 1) with rfl | rfl
  · exact premise_0 a0 a1 a4 n0 c0 n1 c1 m c4 C0 C1 U sW w hm0 hm1 hm4 hv0 hv1 hv4
  · exact premise_1 a0 a1 a4 n0 c0 n1 c1 m c4 C0 C1 U sW w hm0 hm1 hm4 hv0 hv1 hv4
/-- what lies before the law's second half -/
structure Half (w W : World) (a : Option Addr) (m c : Nat) (U : Nat → Int) : Prop where
  u : IntsAt W a m U
  lt : ∀ x, a = some x → x.block < W.heap.size
  cap : m ≤ c
  B : Below w.heap.size w W

set_option maxHeartbeats 4000000 in
set_option maxRecDepth 100000 in
theorem law_any (a0 a1 a5 : Option Addr) (n0 c0 n1 c1 m c5 : Nat) (C0 C1 U : Nat → Int) (sW aO : Bool) (r k : Int) (w : World) (h0 : BytesAt w a0 n0 C0) (h1 : BytesAt w a1 n1 C1) (h5 : IntsAt w a5 m U) (hx0 : n0 ≤ maxLen) (hx1 : n1 ≤ maxLen) (hx5 : m ≤ maxLen)
    (hnil : a5 = none → m = 0 ∧ c5 = 0) (hcap : m ≤ c5) (hG : Glob w) :
    Calls Tryd.prog 4 #[.slice a0 n0 c0, .slice a1 n1 c1, .bool sW, .bool aO, .int .i64 r, .slice a5 m c5, .int .i64 k] w fun e w' => e = .returned (.bool true) ∧ Below w.heap.size w w' := by
  have HB : Hid (Calls Tryd.prog 17 #[.slice a0 n0 c0, .slice a1 n1 c1, .bool sW, .bool aO, .int .i64 r, .slice a5 m c5, .int .i64 k] w fun e w' => OkRes e True ∧ w' = w) := zzBytes_any a0 a1 a5 n0 c0 n1 c1 m c5 _ _ _ _ w hx0 hx1 hx5
  have HI : Hid (BytesAt w a0 n0 C0 ∧ BytesAt w a1 n1 C1 ∧ IntsAt w a5 m U ∧ Glob w) := ⟨h0, h1, h5, hG⟩
  have HN : Hid (a5 = none → m = 0 ∧ c5 = 0) := hnil
  unfold maxLen at hx0 hx1 hx5
  clear h0 h1 h5 hG hnil
  go_enter Tryd.func4, Tryd.ntmps4
  go_wp2_with fail
  refine Calls.mono HB.out ?_
  rintro e w1 ⟨⟨r1, rfl, _⟩, rfl⟩
  clear HB
  cases r1
  · go_wp2
    go_ret
    exact ⟨rfl, Below.refl _ _⟩
  by_cases g1 : (32768 : Int) < (n0 : Int)
  · go_wp2
    go_ret
    exact ⟨rfl, Below.refl _ _⟩
  by_cases g2 : (32768 : Int) < (n1 : Int)
  · go_wp2
    go_ret
    exact ⟨rfl, Below.refl _ _⟩
  by_cases g3 : (32768 : Int) < (m : Int)
  · go_wp2
    go_ret
    exact ⟨rfl, Below.refl _ _⟩
  by_cases g4 : k < 0
  · go_wp2
    go_ret
    exact ⟨rfl, Below.refl _ _⟩
  by_cases g5 : (m : Int) < k
  · go_wp2
    go_ret
    exact ⟨rfl, Below.refl _ _⟩
  obtain ⟨j, rfl⟩ : ∃ j : Nat, k = (j : Int) := ⟨k.toNat, by omega⟩
  have e1 : decide ((32768 : Int) < (n0 : Int)) = false := by simp; omega
  have e2 : decide ((32768 : Int) < (n1 : Int)) = false := by simp; omega
  have e3 : decide ((32768 : Int) < (m : Int)) = false := by simp; omega
  have e5 : decide ((m : Int) < (j : Int)) = false := by simp; omega
  have l0 : n0 ≤ 32768 := by omega
  have l1 : n1 ≤ 32768 := by omega
  have l5 : m ≤ 32768 := by omega
  have lj : j ≤ m := by omega
  have hneq : ∀ wx, (binOp .neq 23 (.slice a5 m c5) (.slice none 0 0)).run Tryd.prog wx = .ok (.bool (!a5.isNone)) wx := fun wx => by
    simp [binOp, Op.equal, Op.maxDepth, Lib.run_equalIn_slice_nil wx 9999 23 3 a5 m c5 0 0 Tryd.underlying23]
  clear hx0 hx1 hx5 g1 g2 g3 g4 g5
  go_upto_if 62 with fail
  clear e1 e2 e3 e5 hneq
  go_cut [5, 15] (fun v5 _ wx => ∃ a' c', v5 = .slice a' m c' ∧ Half w1 wx a' m c' U)
  case first =>
    cases a5 with
    | none =>
      obtain ⟨rfl, rfl⟩ := HN.out rfl
      go_wp2_with fail
      go_meet
      exact ⟨none, 0, rfl, ⟨0, 0, Or.inl (Nat.le_refl _), fun i hi => by omega⟩, fun x e => (by cases e), Nat.le_refl _, Below.refl _ _⟩
    | some x =>
      obtain ⟨i0, hi, hz0, hz1, hz2⟩ := info_parts Tryd.info3
      go_upto_region 9 with (first | (at_make; refine wpList_make_full _ rfl _ _ 23 rfl w1.heap.size 3 i0 _ 1 Tryd.underlying23 hi hz0 hz1 _ _ _ _ m rfl rfl rfl rfl (by rw [hz2]; omega) (by unfold maxLen; omega) (Nat.le_refl _) ?_; intro w2 hown hg; obtain ⟨cur, hh, hsz, _⟩ := made_one rfl hown; have hb1 : Below w1.heap.size w1 w2 := (Below.refl _ _).grown hg (Nat.le_refl _) (fun k hk => by cases hk); have HH : Hid (w2.heap[w1.heap.size]? = some (.cells cur.toList.toArray 3 (0, 0)) ∧ cur.toList.length = m) := ⟨by simpa using hh, by simpa using hsz⟩; clear hown hg hi hz0 hz1 hz2 hh hsz) | fail)
      go_wp2_with (refine wpList_copy_splice rfl (.tmp 66) (.tmp 67) 23 23 rfl 3 Tryd.underlying23 Tryd.size3 (some ⟨w1.heap.size, 0, none⟩) (some x) m m m c5 rfl rfl w1.heap.size 0 cur.toList 3 HH.out.1 (csL m U) (by rw [csL_length]; exact (Nat.min_self m).symm) (fun _ => ⟨rfl, x, rfl, csL_src (HI.out.2.2.1.below hb1) x rfl⟩) (by rw [csL_length, HH.out.2]; omega) (csL_one m U) w1.heap.size w1 hb1 (Nat.le_refl _) ?_; intro w3 hh3 hb3)
      go_meet
      refine ⟨some ⟨w1.heap.size, 0, none⟩, m, rfl, ⟨w1.heap.size, 0, Or.inr rfl, fun i hi => ?_⟩, fun x e => (by cases e; exact (Array.getElem?_eq_some_iff.1 hh3.out).1), Nat.le_refl _, hb3⟩
      refine (cel_of_heap hh3.out ?_).c
      simp only [splice, List.take_zero, List.nil_append, List.getElem?_toArray, Nat.zero_add]
      rw [List.getElem?_append_left (by rw [csL_length]; exact hi)]
      exact csL_get hi
  case rest =>
    obtain ⟨a', c', rfl, HF⟩ := hcut
    have v0 := HI.out.1.below HF.B
    have v1 := HI.out.2.1.below HF.B
    have vG := HI.out.2.2.2.below HF.B
    by_cases hr : r = 0 ∨ r = 1
    · obtain ⟨q, rfl, hq⟩ : ∃ q : Nat, r = (q : Int) ∧ q < 2 := ⟨r.toNat, by omega, by omega⟩
      have HP : Hid (Calls Tryd.prog 6 #[.slice a0 n0 c0, .slice a1 n1 c1, .bool sW, .int .i64 (q : Int), .slice a' m c'] wc fun e w' => PremRes e (Units (pick2 C0 C1 q) (pick2 n0 n1 q) m U) ∧ Below wc.heap.size wc w') := premise_any a0 a1 a' n0 c0 n1 c1 m c' C0 C1 U sW q wc hq l0 l1 l5 v0 v1 HF.u
      have HV : Hid (BytesAt wc a0 n0 C0 ∧ BytesAt wc a1 n1 C1 ∧ Glob wc) := ⟨v0, v1, vG⟩
      clear v0 v1 vG hr
      go_wp2_with fail
      refine Calls.mono HP.out ?_
      rintro e w2 ⟨⟨vt, r2, rfl, hr2⟩, b2⟩
      cases r2
      · clear hr2
        go_wp2
        go_ret
        exact ⟨rfl, HF.B.trans (b2.mono HF.B.size)⟩
      have HU : Hid (Units (pick2 C0 C1 q) (pick2 n0 n1 q) m U) := hr2 rfl
      clear hr2 HP
      have BB : Below w1.heap.size w1 w2 := HF.B.trans (b2.mono HF.B.size)
      have x0 := HV.out.1.below b2
      have x1 := HV.out.2.1.below b2
      have xG := HV.out.2.2.below b2
      have xU := HF.u.below b2
      have xl : ∀ x, a' = some x → x.block < w2.heap.size := fun x e => Nat.lt_of_lt_of_le (HF.lt x e) b2.size
      have xc := HF.cap
      clear HV HF b2 HI HN
      obtain ⟨s0, hs0⟩ : ∃ x, x = cnt (is1 C0) n0 := ⟨_, rfl⟩
      obtain ⟨s1, hs1⟩ : ∃ x, x = cnt (is1 C1) n1 := ⟨_, rfl⟩
      obtain ⟨f0, hf0⟩ : ∃ x, x = cnt (is3 C0) n0 := ⟨_, rfl⟩
      obtain ⟨f1, hf1⟩ : ∃ x, x = cnt (is3 C1) n1 := ⟨_, rfl⟩
      have K0 := count_any a0 n0 c0 C0 w2 (by omega) x0
      have K1 := count_any a1 n1 c1 C1 w2 (by omega) x1
      rw [← hs0, ← hf0] at K0
      rw [← hs1, ← hf1] at K1
      generalize cnt (is2 C0) n0 = t0 at K0
      generalize cnt (is2 C1) n1 = t1 at K1
      have HK0 : Hid _ := K0
      have HK1 : Hid _ := K1
      have EQ : Hid (s0 = cnt (is1 C0) n0 ∧ s1 = cnt (is1 C1) n1 ∧ f0 = cnt (is3 C0) n0 ∧ f1 = cnt (is3 C1) n1) := ⟨hs0, hs1, hf0, hf1⟩
      have ls0 : s0 ≤ 32768 := by rw [hs0]; exact Nat.le_trans (cnt_le _ _) l0
      have ls1 : s1 ≤ 32768 := by rw [hs1]; exact Nat.le_trans (cnt_le _ _) l1
      have lf0 : f0 ≤ 32768 := by rw [hf0]; exact Nat.le_trans (cnt_le _ _) l0
      have lf1 : f1 ≤ 32768 := by rw [hf1]; exact Nat.le_trans (cnt_le _ _) l1
      have HX : Hid (BytesAt w2 a0 n0 C0 ∧ BytesAt w2 a1 n1 C1 ∧ Glob w2 ∧ IntsAt w2 a' m U ∧ (∀ x, a' = some x → x.block < w2.heap.size)) := ⟨x0, x1, xG, xU, xl⟩
      clear K0 K1 hs0 hs1 hf0 hf1 x0 x1 xG xU xl
      go_wp2_with fail
      refine Calls.mono HK0.out ?_
      rintro e w3 ⟨rfl, rfl⟩
      go_wp2_with fail
      refine Calls.mono HK1.out ?_
      rintro e w4 ⟨rfl, rfl⟩
      clear HK0 HK1
      go_wp2_with fail
      refine Calls.mono (build_any a0 a1 n0 c0 n1 c1 C0 C1 sW aO _ l0 l1 HX.out.1 HX.out.2.1) ?_
      rintro e w5 ⟨B1, rfl, S1, ⟨ch1, Ch1, hch1, _⟩, lo1, hx1, b5⟩
      have hS1lo := S1.lo
      have hS1h : ∀ k, B1.h = some k → k < w5.heap.size := fun k e => (S1.lh k e).lt
      go_wp2_with fail
      have T1 : TmpAt (w5.alloc (.cells #[.pointer (some ⟨B1.n, 0, none⟩), .pointer (some ⟨B1.s, 0, none⟩), .pointer (some ⟨B1.t, 0, none⟩), .pointer (some ⟨B1.g, 0, none⟩), .pointer B1.hp] 34)) w5.heap.size (some ⟨B1.n, 0, none⟩) (some ⟨B1.s, 0, none⟩) (some ⟨B1.t, 0, none⟩) (some ⟨B1.g, 0, none⟩) B1.hp := ⟨cel_new _ _ 34 0 _ rfl, cel_new _ _ 34 1 _ rfl, cel_new _ _ 34 2 _ rfl, cel_new _ _ 34 3 _ rfl, cel_new _ _ 34 4 _ rfl⟩
      have bA : Below w5.heap.size w5 (w5.alloc (.cells #[.pointer (some ⟨B1.n, 0, none⟩), .pointer (some ⟨B1.s, 0, none⟩), .pointer (some ⟨B1.t, 0, none⟩), .pointer (some ⟨B1.g, 0, none⟩), .pointer B1.hp] 34)) := (Below.refl _ _).alloc (Nat.le_refl _) _
      replace S1 := S1.below bA
      replace Ch1 := Ch1.below bA
      have b6 : Below w4.heap.size w4 (w5.alloc (.cells #[.pointer (some ⟨B1.n, 0, none⟩), .pointer (some ⟨B1.s, 0, none⟩), .pointer (some ⟨B1.t, 0, none⟩), .pointer (some ⟨B1.g, 0, none⟩), .pointer B1.hp] 34)) := b5.trans (bA.mono b5.size)
      have hp1 : w4.heap.size ≤ w5.heap.size := b5.size
      have hpl1 : ∀ k, k ∈ B1.blocks ∨ B1.h = some k → k ≠ w5.heap.size := fun k hk => by rcases hk with hk | hk; exact Nat.ne_of_lt (hS1lo k hk); exact Nat.ne_of_lt (hS1h k hk)
      clear bA b5
      generalize w5.alloc (.cells #[.pointer (some ⟨B1.n, 0, none⟩), .pointer (some ⟨B1.s, 0, none⟩), .pointer (some ⟨B1.t, 0, none⟩), .pointer (some ⟨B1.g, 0, none⟩), .pointer B1.hp] 34) = W6 at *
      generalize w5.heap.size = p1 at *
      refine Calls.mono (build_any a0 a1 n0 c0 n1 c1 C0 C1 sW aO _ l0 l1 (HX.out.1.below b6) (HX.out.2.1.below b6)) ?_
      rintro e w7 ⟨B2, rfl, S2, ⟨ch2, Ch2, hch2, _⟩, lo2, hx2, b7⟩
      have hS2lo := S2.lo
      have hS2h : ∀ k, B2.h = some k → k < w7.heap.size := fun k e => (S2.lh k e).lt
      have hpl2 : ∀ k, k ∈ B2.blocks ∨ B2.h = some k → k ≠ w7.heap.size := fun k hk => by rcases hk with hk | hk; exact Nat.ne_of_lt (hS2lo k hk); exact Nat.ne_of_lt (hS2h k hk)
      have bA : Below w7.heap.size w7 (w7.alloc (.cells #[.pointer (some ⟨B2.n, 0, none⟩), .pointer (some ⟨B2.s, 0, none⟩), .pointer (some ⟨B2.t, 0, none⟩), .pointer (some ⟨B2.g, 0, none⟩), .pointer B2.hp] 34)) := (Below.refl _ _).alloc (Nat.le_refl _) _
      have b78 : Below W6.heap.size W6 (w7.alloc (.cells #[.pointer (some ⟨B2.n, 0, none⟩), .pointer (some ⟨B2.s, 0, none⟩), .pointer (some ⟨B2.t, 0, none⟩), .pointer (some ⟨B2.g, 0, none⟩), .pointer B2.hp] 34)) := b7.trans (bA.mono b7.size)
      have T2 : TmpAt (w7.alloc (.cells #[.pointer (some ⟨B2.n, 0, none⟩), .pointer (some ⟨B2.s, 0, none⟩), .pointer (some ⟨B2.t, 0, none⟩), .pointer (some ⟨B2.g, 0, none⟩), .pointer B2.hp] 34)) w7.heap.size (some ⟨B2.n, 0, none⟩) (some ⟨B2.s, 0, none⟩) (some ⟨B2.t, 0, none⟩) (some ⟨B2.g, 0, none⟩) B2.hp := ⟨cel_new _ _ 34 0 _ rfl, cel_new _ _ 34 1 _ rfl, cel_new _ _ 34 2 _ rfl, cel_new _ _ 34 3 _ rfl, cel_new _ _ 34 4 _ rfl⟩
      have hd1 : ∀ k, k ∈ B1.blocks ∨ B1.h = some k → k < W6.heap.size := fun k hk => by rcases hk with hk | hk; exact S1.lo k hk; exact (S1.lh k hk).lt
      have hd2 : p1 < W6.heap.size := T1.n.lt
      have hd4 : ch1 < W6.heap.size := heap_lt Ch1.o
      have hd5 : w4.heap.size ≤ W6.heap.size := b6.size
      have hd3 : W6.heap.size ≤ w7.heap.size := b7.size
      replace T1 := T1.below b78
      replace S1 := S1.below b78
      replace Ch1 := Ch1.below b78
      replace S2 := S2.below bA
      replace Ch2 := Ch2.below bA
      have b8 : Below w4.heap.size w4 (w7.alloc (.cells #[.pointer (some ⟨B2.n, 0, none⟩), .pointer (some ⟨B2.s, 0, none⟩), .pointer (some ⟨B2.t, 0, none⟩), .pointer (some ⟨B2.g, 0, none⟩), .pointer B2.hp] 34)) := b6.trans (b78.mono b6.size)
      clear bA b78 b7 b6
      have k1 := T1.n.c
      have k2 := T1.s.c
      have k3 := T1.g.c
      go_wp2_with fail
      generalize w7.alloc (.cells #[.pointer (some ⟨B2.n, 0, none⟩), .pointer (some ⟨B2.s, 0, none⟩), .pointer (some ⟨B2.t, 0, none⟩), .pointer (some ⟨B2.g, 0, none⟩), .pointer B2.hp] 34) = W8 at *
      generalize w7.heap.size = p2 at *
      generalize W6.heap.size = z6 at *
      have hzz : z6 ≤ W8.heap.size := Nat.le_trans hd3 (Nat.le_of_lt T2.n.lt)
      have SP : Hid (Sep w4.heap.size z6 B1 B2 p1 p2 a') := ⟨lt_of_cell HX.out.2.2.1.a, hd5, HX.out.2.2.2.2, fun k hk => ⟨lo1 k hk, hd1 k hk, hpl1 k hk⟩, fun k hk => ⟨lo2 k hk, hpl2 k hk⟩, hd2, hd3, hx1, hx2⟩
      have D0 : Duo w4 W8 z6 B1 B2 p1 p2 (pick2 n0 n1) (startA n0 n1 C0 C1 sW aO) (startA n0 n1 C0 C1 sW aO) := ⟨T1, T2, S1, S2, ⟨ch2, Ch2, hch2⟩, b8, hzz⟩
      have HM : Hid (∀ q, q < 2 → pick2 n0 n1 q ≤ 32768) := fun q _ => by unfold pick2; split <;> assumption
      have SF := start_FH (n0 := n0) (n1 := n1) (C0 := C0) (C1 := C1) (sW := sW) (aO := aO) q l0 l1
      obtain ⟨g1, g2, g3, g4, g5⟩ := split_law (sW := sW) (aO := aO) hq HU.out j lj
      have hF0 : (startA n0 n1 C0 C1 sW aO).F q = pick2 (f0 : Int) (f1 : Int) q := by simp only [startA, EQ.out.2.2.1, EQ.out.2.2.2]
      rw [← EQ.out.1, ← EQ.out.2.1] at g3 g4
      generalize startA n0 n1 C0 C1 sW aO = A at *
      have gm := g3 m (Nat.le_refl _)
      have gj := g3 j lj
      obtain ⟨bw, hbw⟩ : ∃ b, b = (!decide (m < s0 + s1) && !aO) := ⟨_, rfl⟩
      obtain ⟨bj, hbj⟩ : ∃ b, b = (!decide (j < s0 + s1) && !aO) := ⟨_, rfl⟩
      rw [← hbw] at gm
      rw [← hbj] at gj
      have FH := tkA_FH (pick2 n0 n1) A q U j
      have H1 : Hid (Calls Tryd.prog 9 #[.pointer (some ⟨B1.n, 0, none⟩), .pointer (some ⟨B1.s, 0, none⟩), .pointer (some ⟨B1.g, 0, none⟩), .int .i64 q, .slice a' m c'] W8 fun e w' =>
          e = .returned (.bool bw) ∧ Duo w4 w' z6 B1 B2 p1 p2 (pick2 n0 n1) (tkA (pick2 n0 n1) A q U m) A) := by
        have := duo_one (c := c') SP.out D0 Ch1 ⟨hch1, hd4⟩ HM.out l5 hq HX.out.2.2.1 HX.out.2.2.2.1 (fun i hi => ⟨HU.out.lo i hi, HU.out.hi i hi⟩) (by omega) (by omega)
        rwa [gm] at this
      have H2 : Hid (∀ wx, Duo w4 wx z6 B1 B2 p1 p2 (pick2 n0 n1) (tkA (pick2 n0 n1) A q U m) A → Calls Tryd.prog 9 #[.pointer (some ⟨B2.n, 0, none⟩), .pointer (some ⟨B2.s, 0, none⟩), .pointer (some ⟨B2.g, 0, none⟩), .int .i64 q, .slice a' j c'] wx fun e w' =>
          e = .returned (.bool bj) ∧ Duo w4 w' z6 B1 B2 p1 p2 (pick2 n0 n1) (tkA (pick2 n0 n1) A q U m) (tkA (pick2 n0 n1) A q U j)) := fun wx D => by
        have := duo_two (c := c') SP.out D HM.out (by omega) hq HX.out.2.2.1 (HX.out.2.2.2.1.pre j lj) HX.out.2.2.2.2 (fun i hi => ⟨HU.out.lo i (by omega), HU.out.hi i (by omega)⟩) (by omega) (by omega)
        rwa [gj] at this
      have hrest := fun wx => run_rest (av := a') (nv := m) (cv := c') j lj wx
      have hpart := fun wx => run_part (av := a') (nv := m) (cv := c') j (by omega) wx
      have uR := HX.out.2.2.2.1.post (c := c') j lj xc
      have uL := rest_lt (c := c') (j := j) HX.out.2.2.2.2
      generalize (if c' = j then a' else a'.map (·.add j)) = a'' at hrest uR uL
      have H3 : Hid (∀ wx, Duo w4 wx z6 B1 B2 p1 p2 (pick2 n0 n1) (tkA (pick2 n0 n1) A q U m) (tkA (pick2 n0 n1) A q U j) → Calls Tryd.prog 9 #[.pointer (some ⟨B2.n, 0, none⟩), .pointer (some ⟨B2.s, 0, none⟩), .pointer (some ⟨B2.g, 0, none⟩), .int .i64 q, .slice a'' (m - j) (c' - j)] wx fun e w' =>
          e = .returned (.bool bw) ∧ Duo w4 w' z6 B1 B2 p1 p2 (pick2 n0 n1) (tkA (pick2 n0 n1) A q U m) (tkA (pick2 n0 n1) A q U m)) := fun wx D => by
        have := duo_two (c := c' - j) SP.out D HM.out (by omega) hq HX.out.2.2.1 uR uL (fun i hi => ⟨HU.out.lo (j + i) (by omega), HU.out.hi (j + i) (by omega)⟩) (by omega) (by omega)
        rwa [g1, g2, gm] at this
      have HW : Hid (bw = (!decide (m < s0 + s1) && !aO) ∧ bj = (!decide (j < s0 + s1) && !aO) ∧ m ≤ s0 + s1 ∧ (tkA (pick2 n0 n1) A q U m).F q = pick2 (f0 : Int) (f1 : Int) q + m) := ⟨hbw, hbj, g4, by rw [g5, hF0]⟩
      generalize tkA (pick2 n0 n1) A q U m = Am at *
      generalize tkA (pick2 n0 n1) A q U j = Aj at *
      clear SF D0 T1 T2 S1 S2 Ch1 Ch2 hch1 hch2 hd1 hd2 hd3 hd4 hd5 hzz hpl1 hpl2 hx1 hx2 lo1 lo2 hS1lo hS1h hS2lo hS2h k1 k2 k3 b8 hp1 g1 g2 g3 g4 g5 hF0 hbw hbj gm gj FH uR uL
      refine Calls.mono H1.out ?_
      rintro e w9 ⟨rfl, D1⟩
      clear H1
      have D1' := D1.drew
      have k1 := D1.T2.n.c
      have k2 := D1.T2.s.c
      have k3 := D1.T2.g.c
      clear D1
      go_wp2_with fail
      go_region_held2 (fun W' => W'.cell? ⟨p2, 0, none⟩ = some (.pointer (some ⟨B2.n, 0, none⟩)) ∧ W'.cell? ⟨p2, 1, none⟩ = some (.pointer (some ⟨B2.s, 0, none⟩)) ∧ W'.cell? ⟨p2, 3, none⟩ = some (.pointer (some ⟨B2.g, 0, none⟩))) (go_keep)
        (first | (go_at_call 9; with_reducible (refine Calls.mono (H2.out _ D1') ?_); rintro e w10 ⟨rfl, D2⟩; have q1 := D2.T2.n.c; have q2 := D2.T2.s.c; have q3 := D2.T2.g.c))
      have D2' := D2.drew
      clear D2 D1' k1 k2 k3 H2
      go_wp2_with fail
      go_region_held2 (fun W' => W'.cell? ⟨p2, 0, none⟩ = some (.pointer (some ⟨B2.n, 0, none⟩)) ∧ W'.cell? ⟨p2, 1, none⟩ = some (.pointer (some ⟨B2.s, 0, none⟩)) ∧ W'.cell? ⟨p2, 3, none⟩ = some (.pointer (some ⟨B2.g, 0, none⟩))) (go_keep)
        (first | (go_at_call 9; with_reducible (refine Calls.mono (H3.out _ D2') ?_); rintro e w11 ⟨rfl, D3⟩; have r1 := D3.T2.n.c; have r2 := D3.T2.s.c; have r3 := D3.T2.g.c))
      clear D2' q1 q2 q3 H3 r1 r2 r3 hrest hpart
      obtain ⟨hb1, hb2, hle, hFq⟩ := HW.out
      have HFr : Hid (q = 0 ∧ Calls Tryd.prog 11 #[.pointer (some ⟨B1.g, 0, none⟩), .int .i64 0] w11 (fun e w' => e = .returned (.int .i64 ((f0 : Int) + m)) ∧ w' = w11) ∨ q = 1 ∧ Calls Tryd.prog 11 #[.pointer (some ⟨B1.g, 0, none⟩), .int .i64 1] w11 (fun e w' => e = .returned (.int .i64 ((f1 : Int) + m)) ∧ w' = w11)) := by
        have hfree := free_any B1.g q (Am.F q) w11 hq (D3.S1.free q hq)
        rw [hFq] at hfree
        rcases (by omega : q = 0 ∨ q = 1) with rfl | rfl
        · exact Or.inl ⟨rfl, by simpa [pick2] using hfree⟩
        · exact Or.inr ⟨rfl, by simpa [pick2] using hfree⟩
      have HSM : Hid (Calls Tryd.prog 18 #[.agg #[.pointer (some ⟨B1.n, 0, none⟩), .pointer (some ⟨B1.s, 0, none⟩), .pointer (some ⟨B1.t, 0, none⟩), .pointer (some ⟨B1.g, 0, none⟩), .pointer B1.hp], .agg #[.pointer (some ⟨B2.n, 0, none⟩), .pointer (some ⟨B2.s, 0, none⟩), .pointer (some ⟨B2.t, 0, none⟩), .pointer (some ⟨B2.g, 0, none⟩), .pointer B2.hp], .int .i64 n0, .int .i64 n1] w11 fun e w' => e = .returned (.bool true) ∧ Below w11.heap.size w11 w') := by
        have := same_any B1 B2 (pick2 n0 n1) Am w11 (HM.out 0 (by omega)) (HM.out 1 (by omega)) D3.S1 D3.S2
        simp only [pick2, if_true, Nat.one_ne_zero, if_false] at this
        exact this
      have HD : Hid (Below w4.heap.size w4 w11) := D3.B
      have k1 := D3.T1.n.c
      have k2 := D3.T1.s.c
      have k3 := D3.T1.t.c
      have k4 := D3.T1.g.c
      have k5 := D3.T1.h.c
      have q1 := D3.T2.n.c
      have q2 := D3.T2.s.c
      have q3 := D3.T2.t.c
      have q4 := D3.T2.g.c
      have q5 := D3.T2.h.c
      clear D3 HW hFq HM HU EQ HX SP
      rcases HFr.out with ⟨rfl, hfr⟩ | ⟨rfl, hfr⟩
      · have HFQ : Hid _ := hfr
        clear HFr hfr hq
        by_cases hz : m < s0 + s1
        · have hj : j < s0 + s1 := by omega
          simp only [hz, hj, decide_true, Bool.not_true, Bool.false_and] at hb1 hb2
          subst hb1 hb2
          have ez : decide ((s0 : Int) + s1 - m = 0) = false := by simp; omega
          clear hle
          go_wp2_with fail
          all_goals
            refine Calls.mono HFQ.out ?_
            rintro e w12 ⟨rfl, rfl⟩
            go_wp2_with fail
            refine Calls.mono HSM.out ?_
            rintro e w13 ⟨rfl, b13⟩
            go_wp2
            go_ret
            exact ⟨rfl, BB.trans ((HD.out.trans (b13.mono HD.out.size)).mono BB.size)⟩
        · have hzz : (s0 : Int) + s1 = m := by omega
          simp only [hz, decide_false, Bool.not_false, Bool.true_and] at hb1
          by_cases hjm : j < m
          · have hj : j < s0 + s1 := by omega
            simp only [hj, decide_true, Bool.not_true, Bool.false_and] at hb2
            subst hb1 hb2
            clear hle hz hj
            cases aO
            all_goals
              go_wp2_with fail
              all_goals
                try (exfalso; omega)
                refine Calls.mono HFQ.out ?_
                rintro e w12 ⟨rfl, rfl⟩
                go_wp2_with fail
                refine Calls.mono HSM.out ?_
                rintro e w13 ⟨rfl, b13⟩
                go_wp2
                go_ret
                exact ⟨rfl, BB.trans ((HD.out.trans (b13.mono HD.out.size)).mono BB.size)⟩
          · have hj : ¬ j < s0 + s1 := by omega
            simp only [hj, decide_false, Bool.not_false, Bool.true_and] at hb2
            subst hb1 hb2
            clear hle hz hj
            cases aO
            all_goals
              go_wp2_with fail
              all_goals
                try (exfalso; omega)
                refine Calls.mono HFQ.out ?_
                rintro e w12 ⟨rfl, rfl⟩
                go_wp2_with fail
                refine Calls.mono HSM.out ?_
                rintro e w13 ⟨rfl, b13⟩
                go_wp2
                go_ret
                exact ⟨rfl, BB.trans ((HD.out.trans (b13.mono HD.out.size)).mono BB.size)⟩
      · have HFQ : Hid _ := hfr
        clear HFr hfr hq
        by_cases hz : m < s0 + s1
        · have hj : j < s0 + s1 := by omega
          simp only [hz, hj, decide_true, Bool.not_true, Bool.false_and] at hb1 hb2
          subst hb1 hb2
          have ez : decide ((s0 : Int) + s1 - m = 0) = false := by simp; omega
          clear hle
          go_wp2_with fail
          all_goals
            refine Calls.mono HFQ.out ?_
            rintro e w12 ⟨rfl, rfl⟩
            go_wp2_with fail
            refine Calls.mono HSM.out ?_
            rintro e w13 ⟨rfl, b13⟩
            go_wp2
            go_ret
            exact ⟨rfl, BB.trans ((HD.out.trans (b13.mono HD.out.size)).mono BB.size)⟩
        · have hzz : (s0 : Int) + s1 = m := by omega
          simp only [hz, decide_false, Bool.not_false, Bool.true_and] at hb1
          by_cases hjm : j < m
          · have hj : j < s0 + s1 := by omega
            simp only [hj, decide_true, Bool.not_true, Bool.false_and] at hb2
            subst hb1 hb2
            clear hle hz hj
            cases aO
            all_goals
              go_wp2_with fail
              all_goals
                try (exfalso; omega)
                refine Calls.mono HFQ.out ?_
                rintro e w12 ⟨rfl, rfl⟩
                go_wp2_with fail
                refine Calls.mono HSM.out ?_
                rintro e w13 ⟨rfl, b13⟩
                go_wp2
                go_ret
                exact ⟨rfl, BB.trans ((HD.out.trans (b13.mono HD.out.size)).mono BB.size)⟩
          · have hj : ¬ j < s0 + s1 := by omega
            simp only [hj, decide_false, Bool.not_false, Bool.true_and] at hb2
            subst hb1 hb2
            clear hle hz hj
            cases aO
            all_goals
              go_wp2_with fail
              all_goals
                try (exfalso; omega)
                refine Calls.mono HFQ.out ?_
                rintro e w12 ⟨rfl, rfl⟩
                go_wp2_with fail
                refine Calls.mono HSM.out ?_
                rintro e w13 ⟨rfl, b13⟩
                go_wp2
                go_ret
                exact ⟨rfl, BB.trans ((HD.out.trans (b13.mono HD.out.size)).mono BB.size)⟩
    · have HP : Hid (Calls Tryd.prog 6 #[.slice a0 n0 c0, .slice a1 n1 c1, .bool sW, .int .i64 r, .slice a' m c'] wc fun e w' => PremRes e False ∧ w' = wc) := premise_no a0 a1 a' n0 c0 n1 c1 m c' False sW r wc (fun h => hr (Or.inl h)) (fun h => hr (Or.inr h))
      clear v0 v1 vG hr
      go_wp2_with fail
      refine Calls.mono HP.out ?_
      rintro e w2 ⟨⟨vt, r2, rfl, hr2⟩, rfl⟩
      cases r2
      · clear hr2
        go_wp2
        go_ret
        exact ⟨rfl, HF.B⟩
      · exact (hr2 rfl).elim
end Go.Proofs.Qxb6612650aDoor
