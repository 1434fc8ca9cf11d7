import Derived.Test.Qxb6612650aDoorBase
namespace Go.Proofs.Qxb6612650aDoor
open Go.RowKit

set_option maxHeartbeats 400000 in
theorem count_any (a : Option Addr) (n c : Nat) (C : Nat → Int) (w : World) (hm : n ≤ 1048576) (hv : BytesAt w a n C) :
    Calls Tryd.prog 7 #[.slice a n c] w fun e w' => e = .returned (.tuple #[.int .i64 (cnt (is1 C) n), .int .i64 (cnt (is2 C) n), .int .i64 (cnt (is3 C) n)]) ∧ w' = w := by
  obtain ⟨b, off, ha, h0⟩ := hv
  go_enter Tryd.func7, Tryd.ntmps7
  go_wp2
  go_loop [5, 6, 7, 8] (fun s t f i => ∃ k s' t' f' : Nat, k ≤ n ∧ i = .int .i64 k ∧ s = .int .i64 s' ∧ t = .int .i64 t' ∧ f = .int .i64 f' ∧ Hid (s' = cnt (is1 C) k ∧ t' = cnt (is2 C) k ∧ f' = cnt (is3 C) k)) (fun _ _ _ i => n - (intOf i).toNat)
  case atStart => exact ⟨0, 0, 0, 0, Nat.zero_le _, rfl, rfl, rfl, rfl, rfl, rfl, rfl⟩
  case round =>
      obtain ⟨k, s, t, f, hk, rfl, rfl, rfl, rfl, HL⟩ := hrel
      have l1 : s ≤ 1048576 := by have := cnt_le (is1 C) k; have := HL.out.1; omega
      have l2 : t ≤ 1048576 := by have := cnt_le (is2 C) k; have := HL.out.2.1; omega
      have l3 : f ≤ 1048576 := by have := cnt_le (is3 C) k; have := HL.out.2.2; omega
      by_cases hlt : k < n
      · have g0 := h0 k hlt
        have hix := ixAt (c := c) Tryd.underlying22 sz5 ha k k rfl hlt
        clear h0 ha
        cases e1 : (C k == 1)
        · cases e2 : (C k == 2)
          · have H1 : Hid (is1 C k = false ∧ is2 C k = false ∧ is3 C k = true) := ⟨e1, e2, by simp only [is3, e1, e2]; rfl⟩
            go_wp2
            go_round
            case rel => exact ⟨k + 1, s, t, f + 1, by omega, by go_num, rfl, rfl, by go_num, by rw [HL.out.1, cnt_stay _ _ H1.out.1], by rw [HL.out.2.1, cnt_stay _ _ H1.out.2.1], by rw [HL.out.2.2, cnt_step _ _ H1.out.2.2]⟩
            case measure => simp [intOf]; omega
          · have H1 : Hid (is1 C k = false ∧ is2 C k = true ∧ is3 C k = false) := ⟨e1, e2, by simp only [is3, e1, e2]; rfl⟩
            go_wp2
            go_round
            case rel => exact ⟨k + 1, s, t + 1, f, by omega, by go_num, rfl, by go_num, rfl, by rw [HL.out.1, cnt_stay _ _ H1.out.1], by rw [HL.out.2.1, cnt_step _ _ H1.out.2.1], by rw [HL.out.2.2, cnt_stay _ _ H1.out.2.2]⟩
            case measure => simp [intOf]; omega
        · have e2 : (C k == 2) = false := by have := eq_of_beq e1; rw [this]; rfl
          have H1 : Hid (is1 C k = true ∧ is2 C k = false ∧ is3 C k = false) := ⟨e1, e2, by simp only [is3, e1, e2]; rfl⟩
          go_wp2
          go_round
          case rel => exact ⟨k + 1, s + 1, t, f, by omega, by go_num, by go_num, rfl, rfl, by rw [HL.out.1, cnt_step _ _ H1.out.1], by rw [HL.out.2.1, cnt_stay _ _ H1.out.2.1], by rw [HL.out.2.2, cnt_stay _ _ H1.out.2.2]⟩
          case measure => simp [intOf]; omega
      · go_wp2
        refine bodyPost_ret (v := .tuple #[.int .i64 s, .int .i64 t, .int .i64 f]) (by simp [results, Tryd.results7, go_sem]) rfl ?_
        have e : k = n := by omega
        subst e
        exact ⟨by rw [HL.out.1, HL.out.2.1, HL.out.2.2], rfl⟩

def Is (e : Ending) (b : Bool) : Prop := e = .returned (.bool b)

set_option maxHeartbeats 400000 in
theorem zzBytes_any (a1 a2 a5 : Option Addr) (n1 c1 n2 c2 n5 c5 : Nat) (v2 v3 v4 v6 : Value) (w : World) (h1 : n1 ≤ maxLen) (h2 : n2 ≤ maxLen) (h5 : n5 ≤ maxLen) :
    Calls Tryd.prog 17 #[.slice a1 n1 c1, .slice a2 n2 c2, v2, v3, v4, .slice a5 n5 c5, v6] w fun e w' => OkRes e True ∧ w' = w := by
  unfold maxLen at h1 h2 h5
  go_enter Tryd.func17, Tryd.ntmps17
  go_wp2
  all_goals
    go_ret
    first
      | exact ⟨okRes_no, rfl⟩
      | exact ⟨okRes_yes trivial, rfl⟩

/-- the units are s's own, each named once -/
structure Units (C : Nat → Int) (n m : Nat) (U : Nat → Int) : Prop where
  lo : ∀ i, i < m → 0 ≤ U i
  hi : ∀ i, i < m → U i < n
  one : ∀ i, i < m → C (U i).toNat = 1
  dis : ∀ i j, i < j → j < m → U i ≠ U j

/-- what tbPremise tells -/
def PremRes (e : Ending) (p : Prop) : Prop := ∃ (v : Value) (r : Bool), e = .returned (.tuple #[v, .bool r]) ∧ (r = true → p)
theorem premRes_no {v : Value} {p : Prop} : PremRes (.returned (.tuple #[v, .bool false])) p := ⟨_, false, rfl, fun h => absurd h (by simp)⟩
theorem premRes_yes {v : Value} {p : Prop} (h : p) : PremRes (.returned (.tuple #[v, .bool true])) p := ⟨_, true, rfl, fun _ => h⟩

def inU (U : Nat → Int) : Nat → Nat → Bool
  | 0, _ => false
  | k + 1, i => inU U k i || (U k == (i : Int))
theorem inU_iff (U : Nat → Int) (m i : Nat) : inU U m i = true ↔ ∃ j, j < m ∧ U j = (i : Int) := by
  induction m with
  | zero => simp [inU]
  | succ k ih =>
    simp only [inU, Bool.or_eq_true, ih, beq_iff_eq]
    constructor
    · rintro (⟨j, h1, h2⟩ | h)
      · exact ⟨j, by omega, h2⟩
      · exact ⟨k, by omega, h⟩
    · rintro ⟨j, h1, h2⟩
      by_cases e : j = k
      · subst e; exact Or.inr h2
      · exact Or.inl ⟨j, by omega, h2⟩
theorem Units.step {C : Nat → Int} {n k : Nat} {U : Nat → Int} {z : Nat} (h : Units C n k U) (hz : U k = (z : Int)) (hn : z < n) (h1 : C z = 1) (ht : inU U k z = false) : Units C n (k + 1) U := by
  refine ⟨fun i hi => ?_, fun i hi => ?_, fun i hi => ?_, fun i j hi hj => ?_⟩
  · by_cases e : i = k
    · subst e; omega
    · exact h.lo i (by omega)
  · by_cases e : i = k
    · subst e; omega
    · exact h.hi i (by omega)
  · by_cases e : i = k
    · subst e; rw [hz]; exact h1
    · exact h.one i (by omega)
  · by_cases e : j = k
    · subst e
      intro hij
      have : inU U j z = true := (inU_iff U j z).2 ⟨i, hi, by rw [hij, hz]⟩
      rw [this] at ht; exact absurd ht (by simp)
    · exact h.dis i j hi (by omega)

theorem Tryd.info4 : (Tryd.prog.info? 4).map (fun i => (i.zero, i.size, i.bytes)) = some (some (.bool false), 1, 1) := by kernel_rfl

theorem made_one {w : World} {base g e n : Nat} {z : Value} (hz : z.cells = #[z]) (h : w.ownsRow base e 1 (.slice (some ⟨g, 0, none⟩) n n) n (madeCells z.cells (n * 1)).toList) : ∃ cur, w.heap[g]? = some (.cells cur e (0, 0)) ∧ cur.size = n ∧ ∀ i, i < n → cur[i]? = some z := by
  obtain ⟨_, h2⟩ := h
  rcases h2 with ⟨h3, _⟩ | ⟨g', cap', cur, hv, _, hh, _, _, hs, ht⟩
  · cases h3
  · cases hv
    refine ⟨cur, hh, by omega, fun i hi => ?_⟩
    rw [hz, toList_madeCells_one, List.take_of_length_le (by simp; omega)] at ht
    rw [← Array.getElem?_toList, ht]
    simp [hi]

/-- the table of the units seen so far -/
def Seen (w : World) (g n k : Nat) (U : Nat → Int) : Prop := ∃ cur, w.heap[g]? = some (.cells cur 4 (0, 0)) ∧ cur.size = n ∧ ∀ i, i < n → cur[i]? = some (.bool (inU U k i))
theorem Seen.step {w : World} {g n k z : Nat} {U : Nat → Int} (h : Seen w g n k U) (hz : U k = (z : Int)) (hn : z < n) : Seen (w.setCell ⟨g, z, none⟩ (.bool true)) g n (k + 1) U := by
  obtain ⟨cur, hh, hs, hc⟩ := h
  refine ⟨cur.setIfInBounds z (.bool true), heap_setCell_same _ _ _ _ _ _ hh, by simpa using hs, fun i hi => ?_⟩
  by_cases e : i = z
  · subst e
    rw [Array.getElem?_setIfInBounds_self_of_lt (by omega)]
    simp [inU, hz]
  · rw [Array.getElem?_setIfInBounds_ne (by omega), hc i hi]
    have : (U k == (i : Int)) = false := by rw [hz]; simp; omega
    simp [inU, this]

set_option maxHeartbeats 1000000 in
set_option maxRecDepth 100000 in
theorem premise_0 (a0 a1 a4 : Option Addr) (n0 c0 n1 c1 m c4 : Nat) (C0 C1 U : Nat → Int) (sW : Bool) (w : World) (hm0 : n0 ≤ 32768) (hm1 : n1 ≤ 32768) (hm4 : m ≤ 32768) (hv0 : BytesAt w a0 n0 C0) (hv1 : BytesAt w a1 n1 C1) (hv4 : IntsAt w a4 m U) :
    Calls Tryd.prog 6 #[.slice a0 n0 c0, .slice a1 n1 c1, .bool sW, .int .i64 0, .slice a4 m c4] w fun e w' => PremRes e (Units C0 n0 m U) ∧ Below w.heap.size w w' := by
  obtain ⟨i0, hi, hz0, hz1, hz2⟩ := info_parts Tryd.info4
  have l0 := cnt_le (is1 C0) n0
  have l1 := cnt_le (is1 C1) n1
  have l2 := cnt_le (is2 C0) n0
  have l3 := cnt_le (is2 C1) n1
  have K0 := count_any a0 n0 c0 C0 w (by omega) hv0
  have K1 := count_any a1 n1 c1 C1 w (by omega) hv1
  generalize cnt (is1 C0) n0 = s0 at K0 l0
  generalize cnt (is1 C1) n1 = s1 at K1 l1
  generalize cnt (is2 C0) n0 = t0 at K0 l2
  generalize cnt (is2 C1) n1 = t1 at K1 l3
  generalize cnt (is3 C0) n0 = f0 at K0
  generalize cnt (is3 C1) n1 = f1 at K1
  obtain ⟨b, off, ha, h0⟩ := hv0
  obtain ⟨b4, off4, ha4, h4⟩ := hv4
  have HK0 : Hid _ := K0
  have HK1 : Hid _ := K1
  clear K0 K1 hv1
  go_enter Tryd.func6, Tryd.ntmps6
  go_wp2_with fail
  refine Calls.mono HK0.out ?_
  rintro e w1 ⟨rfl, rfl⟩
  go_wp2_with fail
  refine Calls.mono HK1.out ?_
  rintro e w2 ⟨rfl, rfl⟩
  clear HK0 HK1
  cases sW
  all_goals
    go_wp2_with (first | (at_make; refine wpList_make_full _ rfl _ _ 25 rfl w2.heap.size 4 i0 _ 1 Tryd.underlying25 hi hz0 hz1 _ _ _ _ n0 rfl rfl rfl rfl (by rw [hz2]; omega) (by unfold maxLen; omega) (Nat.le_refl _) ?_; intro w1 hown1 hg1) | fail)
    all_goals first
      | (go_ret2; exact ⟨premRes_no, Below.refl _ _⟩)
      | skip
    obtain ⟨cur, hh, hsz, hcs⟩ := made_one rfl hown1
    have hb1 : Below w2.heap.size w2 w1 := (Below.refl _ _).grown hg1 (Nat.le_refl _) (fun k hk => by cases hk)
    clear hown1 hg1 hi hz0 hz1 hz2
    go_loopw [20, 21] (fun i u wr => ∃ k : Nat, k ≤ m ∧ i = .int .i64 k ∧ Hid (Units C0 n0 k U) ∧ Seen wr w2.heap.size n0 k U ∧ Below w2.heap.size w2 wr) (fun i _ _ => m - (intOf i).toNat)
    case atStart => exact ⟨0, Nat.zero_le _, rfl, ⟨fun i hi => by omega, fun i hi => by omega, fun i hi => by omega, fun i j _ hj => by omega⟩, ⟨cur, hh, hsz, hcs⟩, hb1⟩
    case round =>
      clear hh hsz hcs hb1
      obtain ⟨k, hk, rfl, HU, hS, hb⟩ := hrel
      by_cases hlt : k < m
      · have g4 := down hb (h4 k hlt)
        have hix4 := ixAt (c := c4) Tryd.underlying23 sz3 ha4 k k rfl hlt
        by_cases hneg : U k < 0
        · clear h0 h4 ha ha4
          go_wp2
          go_ret2
          exact ⟨premRes_no, hb⟩
        · obtain ⟨z, hz⟩ : ∃ z : Nat, U k = (z : Int) := ⟨(U k).toNat, by omega⟩
          have HZ : Hid (U k = (z : Int)) := hz
          rw [hz] at g4
          clear hz hneg
          by_cases hzn : z < n0
          · have g0 := down hb (h0 z hzn)
            have hix := ixAt (c := c0) Tryd.underlying22 sz5 ha z z rfl hzn
            obtain ⟨cur', hh', hsz', hcs'⟩ := hS
            have ct := cel_of_heap hh' (hcs' z hzn)
            have ct1 := ct.c
            have ct2 := ct.f
            have HS : Hid (Seen wr w2.heap.size n0 k U) := ⟨cur', hh', hsz', hcs'⟩
            clear h0 h4 ha ha4 hh' hsz' hcs' ct
            cases e1 : (C0 z == 1)
            · have e1' : (C0 z != 1) = true := by simp [bne, e1]
              go_wp2
              go_ret2
              exact ⟨premRes_no, hb⟩
            · have e1' : (C0 z != 1) = false := by simp [bne, e1]
              cases e2 : inU U k z
              · rw [e2] at ct1
                have HE : Hid (C0 z = 1 ∧ inU U k z = false) := ⟨eq_of_beq e1, e2⟩
                clear e2
                go_wp2
                go_roundw
                case rel => exact ⟨k + 1, by omega, by go_num, HU.out.step HZ.out hzn HE.out.1 HE.out.2, HS.out.step HZ.out hzn, hb.setCell (p := ⟨w2.heap.size, z, none⟩) (Nat.le_refl _) _⟩
                case measure => simp [intOf]; omega
              · rw [e2] at ct1
                clear e2
                go_wp2
                go_ret2
                exact ⟨premRes_no, hb⟩
          · clear h0 h4 ha ha4
            go_wp2
            go_ret2
            exact ⟨premRes_no, hb⟩
      · clear h0 h4 ha ha4
        go_wp2
        go_ret2
        have e : k = m := by omega
        subst e
        exact ⟨premRes_yes HU.out, hb⟩

set_option maxHeartbeats 1000000 in
set_option maxRecDepth 100000 in
theorem premise_1 (a0 a1 a4 : Option Addr) (n0 c0 n1 c1 m c4 : Nat) (C0 C1 U : Nat → Int) (sW : Bool) (w : World) (hm0 : n0 ≤ 32768) (hm1 : n1 ≤ 32768) (hm4 : m ≤ 32768) (hv0 : BytesAt w a0 n0 C0) (hv1 : BytesAt w a1 n1 C1) (hv4 : IntsAt w a4 m U) :
    Calls Tryd.prog 6 #[.slice a0 n0 c0, .slice a1 n1 c1, .bool sW, .int .i64 1, .slice a4 m c4] w fun e w' => PremRes e (Units C1 n1 m U) ∧ Below w.heap.size w w' := by
  obtain ⟨i0, hi, hz0, hz1, hz2⟩ := info_parts Tryd.info4
  have l0 := cnt_le (is1 C0) n0
  have l1 := cnt_le (is1 C1) n1
  have l2 := cnt_le (is2 C0) n0
  have l3 := cnt_le (is2 C1) n1
  have K0 := count_any a0 n0 c0 C0 w (by omega) hv0
  have K1 := count_any a1 n1 c1 C1 w (by omega) hv1
  generalize cnt (is1 C0) n0 = s0 at K0 l0
  generalize cnt (is1 C1) n1 = s1 at K1 l1
  generalize cnt (is2 C0) n0 = t0 at K0 l2
  generalize cnt (is2 C1) n1 = t1 at K1 l3
  generalize cnt (is3 C0) n0 = f0 at K0
  generalize cnt (is3 C1) n1 = f1 at K1
  obtain ⟨b, off, ha, h0⟩ := hv1
  obtain ⟨b4, off4, ha4, h4⟩ := hv4
  have HK0 : Hid _ := K0
  have HK1 : Hid _ := K1
  clear K0 K1 hv0
  go_enter Tryd.func6, Tryd.ntmps6
  go_wp2_with fail
  refine Calls.mono HK0.out ?_
  rintro e w1 ⟨rfl, rfl⟩
  go_wp2_with fail
  refine Calls.mono HK1.out ?_
  rintro e w2 ⟨rfl, rfl⟩
  clear HK0 HK1
  cases sW
  all_goals
    go_wp2_with (first | (at_make; refine wpList_make_full _ rfl _ _ 25 rfl w2.heap.size 4 i0 _ 1 Tryd.underlying25 hi hz0 hz1 _ _ _ _ n1 rfl rfl rfl rfl (by rw [hz2]; omega) (by unfold maxLen; omega) (Nat.le_refl _) ?_; intro w1 hown1 hg1) | fail)
    all_goals first
      | (go_ret2; exact ⟨premRes_no, Below.refl _ _⟩)
      | skip
    obtain ⟨cur, hh, hsz, hcs⟩ := made_one rfl hown1
    have hb1 : Below w2.heap.size w2 w1 := (Below.refl _ _).grown hg1 (Nat.le_refl _) (fun k hk => by cases hk)
    clear hown1 hg1 hi hz0 hz1 hz2
    go_loopw [20, 21] (fun i u wr => ∃ k : Nat, k ≤ m ∧ i = .int .i64 k ∧ Hid (Units C1 n1 k U) ∧ Seen wr w2.heap.size n1 k U ∧ Below w2.heap.size w2 wr) (fun i _ _ => m - (intOf i).toNat)
    case atStart => exact ⟨0, Nat.zero_le _, rfl, ⟨fun i hi => by omega, fun i hi => by omega, fun i hi => by omega, fun i j _ hj => by omega⟩, ⟨cur, hh, hsz, hcs⟩, hb1⟩
    case round =>
      clear hh hsz hcs hb1
      obtain ⟨k, hk, rfl, HU, hS, hb⟩ := hrel
      by_cases hlt : k < m
      · have g4 := down hb (h4 k hlt)
        have hix4 := ixAt (c := c4) Tryd.underlying23 sz3 ha4 k k rfl hlt
        by_cases hneg : U k < 0
        · clear h0 h4 ha ha4
          go_wp2
          go_ret2
          exact ⟨premRes_no, hb⟩
        · obtain ⟨z, hz⟩ : ∃ z : Nat, U k = (z : Int) := ⟨(U k).toNat, by omega⟩
          have HZ : Hid (U k = (z : Int)) := hz
          rw [hz] at g4
          clear hz hneg
          by_cases hzn : z < n1
          · have g0 := down hb (h0 z hzn)
            have hix := ixAt (c := c1) Tryd.underlying22 sz5 ha z z rfl hzn
            obtain ⟨cur', hh', hsz', hcs'⟩ := hS
            have ct := cel_of_heap hh' (hcs' z hzn)
            have ct1 := ct.c
            have ct2 := ct.f
            have HS : Hid (Seen wr w2.heap.size n1 k U) := ⟨cur', hh', hsz', hcs'⟩
            clear h0 h4 ha ha4 hh' hsz' hcs' ct
            cases e1 : (C1 z == 1)
            · have e1' : (C1 z != 1) = true := by simp [bne, e1]
              go_wp2
              go_ret2
              exact ⟨premRes_no, hb⟩
            · have e1' : (C1 z != 1) = false := by simp [bne, e1]
              cases e2 : inU U k z
              · rw [e2] at ct1
                have HE : Hid (C1 z = 1 ∧ inU U k z = false) := ⟨eq_of_beq e1, e2⟩
                clear e2
                go_wp2
                go_roundw
                case rel => exact ⟨k + 1, by omega, by go_num, HU.out.step HZ.out hzn HE.out.1 HE.out.2, HS.out.step HZ.out hzn, hb.setCell (p := ⟨w2.heap.size, z, none⟩) (Nat.le_refl _) _⟩
                case measure => simp [intOf]; omega
              · rw [e2] at ct1
                clear e2
                go_wp2
                go_ret2
                exact ⟨premRes_no, hb⟩
          · clear h0 h4 ha ha4
            go_wp2
            go_ret2
            exact ⟨premRes_no, hb⟩
      · clear h0 h4 ha ha4
        go_wp2
        go_ret2
        have e : k = m := by omega
        subst e
        exact ⟨premRes_yes HU.out, hb⟩

set_option maxHeartbeats 400000 in
theorem premise_no (a0 a1 a4 : Option Addr) (n0 c0 n1 c1 m c4 : Nat) (p : Prop) (sW : Bool) (r : Int) (w : World) (h0 : r ≠ 0) (h1 : r ≠ 1) :
    Calls Tryd.prog 6 #[.slice a0 n0 c0, .slice a1 n1 c1, .bool sW, .int .i64 r, .slice a4 m c4] w fun e w' => PremRes e p ∧ w' = w := by
  have e0 : (r != 0) = true := by simp [h0]
  have e1 : (r != 1) = true := by simp [h1]
  clear h0 h1
  go_enter Tryd.func6, Tryd.ntmps6
  go_wp2
  go_ret2
  exact ⟨premRes_no, rfl⟩
end Go.Proofs.Qxb6612650aDoor
