import Derived.Test.Qxb6613110aH
namespace Go.Proofs.Qxb6613110a
open Go.RowKit

theorem Try.info66 : (Try.prog.info? 66).map (fun i => (i.zero, i.size, i.bytes)) = some (some (.agg #[.string ByteArray.empty, .int .u64 0]), 2, 24) := by kernel_rfl

/-- a Vector in a block of its own, from the block's head -/
def OwnVec (w : World) (g n cap : Nat) (B : Nat → ByteArray) (C : Nat → Int) : Prop :=
  ∃ cur, w.heap[g]? = some (.cells cur 66 (0, 0)) ∧ n ≤ cap ∧ cap ≤ maxLen ∧ cur.size = cap * 2 ∧ ∀ i, i < n → cur[i * 2]? = some (.string (B i)) ∧ cur[i * 2 + 1]? = some (.int .u64 (C i))

/-- .. being filled: the first k entries are laid -/
def VecFill (w : World) (g n k : Nat) (B : Nat → ByteArray) (C : Nat → Int) : Prop :=
  ∃ cur, w.heap[g]? = some (.cells cur 66 (0, 0)) ∧ cur.size = n * 2 ∧ ∀ i, i < k → cur[i * 2]? = some (.string (B i)) ∧ cur[i * 2 + 1]? = some (.int .u64 (C i))

theorem ownsRow_block {w : World} {base g e size n cap : Nat} {xs : List Value} (h : w.ownsRow base e size (.slice (some ⟨g, 0, none⟩) n cap) n xs) : ∃ cur, w.heap[g]? = some (.cells cur e (0, 0)) ∧ cur.size = cap * size := by
  obtain ⟨_, h2⟩ := h
  rcases h2 with ⟨h3, _⟩ | ⟨g', cap', cur, hv, _, hh, _, _, hs, _⟩
  · cases h3
  · cases hv; exact ⟨cur, hh, hs⟩

theorem VecFill.at {w : World} {g n k : Nat} {B : Nat → ByteArray} {C : Nat → Int} (h : VecFill w g n k B C) (j : Nat) (hj : j < n * 2) : ∃ v, w.cell? ⟨g, j, none⟩ = some v ∧ w.frozen? ⟨g, j, none⟩ = false := by
  obtain ⟨cur, hh, hs, _⟩ := h
  refine ⟨cur[j]'(by omega), ?_, ?_⟩
  · simp [World.cell?, hh]
  · simp [World.frozen?, hh]

theorem VecFill.own {w : World} {g n : Nat} {B : Nat → ByteArray} {C : Nat → Int} (h : VecFill w g n n B C) (hn : n ≤ 4096) : OwnVec w g n n B C := by
  obtain ⟨cur, hh, hs, hc⟩ := h
  exact ⟨cur, hh, Nat.le_refl _, by unfold maxLen; omega, hs, hc⟩

theorem VecFill.step {w : World} {g n k : Nat} {B : Nat → ByteArray} {C : Nat → Int} (h : VecFill w g n k B C) (hk : k < n) :
    VecFill ((w.setCell ⟨g, k * 2, none⟩ (.string (B k))).setCell ⟨g, k * 2 + 1, none⟩ (.int .u64 (C k))).drew g n (k + 1) B C := by
  obtain ⟨cur, hh, hs, hc⟩ := h
  refine ⟨(cur.setIfInBounds (k * 2) (.string (B k))).setIfInBounds (k * 2 + 1) (.int .u64 (C k)), heap_setCell_same _ _ _ _ _ _ (heap_setCell_same _ _ _ _ _ _ hh), by simpa using hs, fun i hi => ?_⟩
  by_cases e : i = k
  · subst e
    constructor
    · rw [Array.getElem?_setIfInBounds_ne (by omega), Array.getElem?_setIfInBounds_self_of_lt (by omega)]
    · rw [Array.getElem?_setIfInBounds_self_of_lt (by simp; omega)]
  · have := hc i (by omega)
    constructor
    · rw [Array.getElem?_setIfInBounds_ne (by omega), Array.getElem?_setIfInBounds_ne (by omega)]; exact this.1
    · rw [Array.getElem?_setIfInBounds_ne (by omega), Array.getElem?_setIfInBounds_ne (by omega)]; exact this.2

theorem OwnVec.vec {w : World} {g n cap : Nat} {B : Nat → ByteArray} {C : Nat → Int} (h : OwnVec w g n cap B C) : VecAt w (some ⟨g, 0, none⟩) n B C := by
  obtain ⟨cur, hh, hn, hm, hs, hc⟩ := h
  refine ⟨g, 0, Or.inr rfl, fun i hi => ?_, fun i hi => ?_⟩
  · have := (hc i hi).1
    simp [World.cell?, hh, this]
  · have := (hc i hi).2
    simp [World.cell?, hh, this]
theorem OwnVec.lt {w : World} {g n cap : Nat} {B : Nat → ByteArray} {C : Nat → Int} (h : OwnVec w g n cap B C) : g < w.heap.size := by
  obtain ⟨cur, hh, _⟩ := h
  exact (Array.getElem?_eq_some_iff.1 hh).1
theorem OwnVec.but {S : Nat → Prop} {w w' : World} {g n cap : Nat} {B : Nat → ByteArray} {C : Nat → Int} (h : OwnVec w g n cap B C) (hb : But S w w') (hs : ¬ S g) : OwnVec w' g n cap B C := by
  have hl := h.lt
  obtain ⟨cur, hh, r⟩ := h
  exact ⟨cur, (hb.block g hl hs).trans hh, r⟩

set_option maxHeartbeats 1000000 in
set_option maxRecDepth 100000 in
theorem buildVec_any (a : Option Addr) (n c : Nat) (B : Nat → ByteArray) (C : Nat → Int) (w : World) (hm : n ≤ 4096) (hv : VecAt w a n B C) (hne : a.isSome = true) :
    Calls Try.prog 14 #[.slice a n c] w fun e w' => e = .returned (.slice (some ⟨w.heap.size, 0, none⟩) n n) ∧ OwnVec w' w.heap.size n n B C ∧ Below w.heap.size w w' := by
  obtain ⟨b, off, ha, h0, h1⟩ := hv
  obtain ⟨i0, hi, hz0, hz1, hz2⟩ := info_parts Try.info66
  obtain ⟨x, rfl⟩ := Option.isSome_iff_exists.1 hne
  have heq : ∀ w, (binOp .eql 23 (.slice (some x) n c) (.slice none 0 0)).run Try.prog w = .ok (.bool false) w := fun w => Lib.run_eql_slice_nil w 23 63 (some x) n c 0 0 Try.underlying23
  go_enter Try.func14, Try.ntmps14
  go_wp2_with (first | (at_make; refine wpList_make_full _ rfl _ _ 34 rfl w.heap.size 66 i0 _ 2 Try.underlying34 hi hz0 hz1 _ _ _ _ n rfl rfl rfl rfl (by rw [hz2]; omega) (by unfold maxLen; omega) (Nat.le_refl _) ?_; intro w1 hown1 hg1) | fail)
  obtain ⟨cur, hh, hsz⟩ := ownsRow_block hown1
  have hb1 : Below w.heap.size w w1 := (Below.refl _ _).grown hg1 (Nat.le_refl _) (fun k hk => by cases hk)
  clear hown1 hg1 hi hz0 hz1 hz2
  go_loopw [4] (fun i wr => ∃ k : Nat, k ≤ n ∧ i = .int .i64 k ∧ VecFill wr w.heap.size n k B C ∧ Below w.heap.size w wr) (fun i _ => n - (intOf i).toNat)
  case atStart => exact ⟨0, Nat.zero_le _, rfl, ⟨cur, hh, hsz, fun i hi => by omega⟩, hb1⟩
  case round =>
    clear hh hsz hb1
    obtain ⟨k, hk, rfl, hf, hb⟩ := hrel
    by_cases hlt : k < n
    · have g0 := down hb (h0 k hlt)
      have g1 := down hb (h1 k hlt)
      have hix := ixAt (c := c) Try.underlying23 sz63 ha k hlt
      obtain ⟨v0, c0, f0⟩ := hf.at (k * 2) (by omega)
      obtain ⟨v1, c1, f1⟩ := hf.at (k * 2 + 1) (by omega)
      clear h0 h1 ha
      go_wp2
      go_region
      all_goals
        go_wp2
        go_roundw
        case rel => exact ⟨k + 1, by omega, by go_num, hf.step (by omega), ((hb.setCell (p := ⟨w.heap.size, k * 2, none⟩) (Nat.le_refl _) _).setCell (p := ⟨w.heap.size, k * 2 + 1, none⟩) (Nat.le_refl _) _).drew⟩
        case measure => simp [intOf]; omega
    · go_wp2
      go_ret
      have e : k = n := by omega
      subst e
      exact ⟨rfl, hf.own (by omega), hb⟩

set_option maxHeartbeats 400000 in
theorem buildVec_nil (w : World) :
    Calls Try.prog 14 #[.slice none 0 0] w fun e w' => e = .returned (.slice none 0 0) ∧ w' = w := by
  have heq : ∀ w, (binOp .eql 23 (.slice none 0 0) (.slice none 0 0)).run Try.prog w = .ok (.bool true) w := fun w => Lib.run_eql_slice_nil w 23 63 none 0 0 0 0 Try.underlying23
  go_enter Try.func14, Try.ntmps14
  go_wp2
  go_ret
  exact ⟨rfl, rfl⟩

set_option maxHeartbeats 1000000 in
theorem entryOf_any (id st : ByteArray) (inc sd gone : Int) (su : Bool) (w : World) :
    Calls Try.prog 34 #[.agg #[.string id, .string st, .int .u64 inc, .bool su, .int .u64 sd, .int .u64 gone]] w fun e w' =>
      e = .returned (.agg #[.string id, .string { data := #[] }, .string st, .int .u64 0, .int .u64 0, .int .u64 0, .string { data := #[] }, .int .u64 0, .int .u64 inc, .bool su, .int .u64 sd, .int .u64 0, .slice none 0 0, .bool false]) ∧ Below w.heap.size w w' := by
  go_enter Try.func34, Try.ntmps34
  go_wp2
  exact bodyPost_ret (v := .agg #[.string id, .string { data := #[] }, .string st, .int .u64 0, .int .u64 0, .int .u64 0, .string { data := #[] }, .int .u64 0, .int .u64 inc, .bool su, .int .u64 sd, .int .u64 0, .slice none 0 0, .bool false])
    (by simp [results, Try.results34, go_sem]) rfl ⟨rfl, ((Below.refl _ _).alloc (Nat.le_refl _) _).alloc (by simp) _⟩
end Go.Proofs.Qxb6613110a
