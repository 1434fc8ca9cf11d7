import Derived.Test.Qxb6613110aH
import Derived.Maps.Own
import Derived.Maps.Views
namespace Go.Proofs.Qxb6613110a
open Go.RowKit Go.Maps Go.WideMaps

theorem law30 : Keyed Try.prog 30 := string_keyed Try.underlying30
theorem zero29 (w : World) : (zeroValue 29).run Try.prog w = .ok (.int .u64 0) w := by kernel_rfl

/-- the view's goneAt map after k rounds -/
def goneD (V : VRow) : Nat → DataW Unit
  | 0 => .map []
  | k + 1 => if (V.gone k != 0) = true then (goneD V k).put (.string (V.id k).data.toList) (.lit (.int .u64 (V.gone k))) else goneD V k

def GoneAt (w : World) (bm n : Nat) (V : VRow) : Prop :=
  ∃ D : DataW Unit, w.ownsMap Try.prog 30 (plainElem Try.prog 29) bm n D ∧ ∀ i, i < n → D.atKey (.string (V.id i).data.toList) (.lit (.int .u64 0)) = .lit (.int .u64 (V.gone i))

theorem goneD_isMap (V : VRow) : ∀ k, IsMap (goneD V k)
  | 0 => isMap_empty
  | k + 1 => by
    unfold goneD
    split
    · exact (goneD_isMap V k).put _ _
    · exact goneD_isMap V k

theorem toList_inj {x y : ByteArray} (h : x.data.toList = y.data.toList) : x.toList = y.toList := by
  rw [ByteArray.toList_eq, ByteArray.toList_eq]; exact h

theorem goneD_at (V : VRow) (n : Nat) (hne : ∀ i j, i < j → j < n → (V.id i).data.toList ≠ (V.id j).data.toList) : ∀ k, k ≤ n → (∀ i, i < k → (goneD V k).atKey (.string (V.id i).data.toList) (.lit (.int .u64 0)) = .lit (.int .u64 (V.gone i))) ∧
    ∀ i, k ≤ i → i < n → (goneD V k).atKey (.string (V.id i).data.toList) (.lit (.int .u64 0)) = .lit (.int .u64 0)
  | 0, _ => ⟨fun i hi => by omega, fun i _ _ => rfl⟩
  | k + 1, hk => by
    obtain ⟨h1, h2⟩ := goneD_at V n hne k (by omega)
    unfold goneD
    by_cases hg : (V.gone k != 0) = true
    · rw [if_pos hg]
      refine ⟨fun i hi => ?_, fun i hi1 hi2 => ?_⟩
      · by_cases e : i = k
        · subst e
          exact atKey_put_same (goneD_isMap V i) (by simp [WideAt.IsKeyLit]) _ _
        · rw [atKey_put_other (fun e => hne i k (by omega) (by omega) (Lit.string.inj e))]
          exact h1 i (by omega)
      · rw [atKey_put_other (fun e => hne k i (by omega) hi2 (Lit.string.inj e).symm)]
        exact h2 i (by omega) hi2
    · rw [if_neg hg]
      refine ⟨fun i hi => ?_, fun i hi1 hi2 => h2 i (by omega) hi2⟩
      by_cases e : i = k
      · subst e
        rw [h2 i (Nat.le_refl _) (by omega)]
        have : V.gone i = 0 := by simpa using hg
        rw [this]
      · exact h1 i (by omega)

theorem GoneAt.look {w : World} {bm n : Nat} {V : VRow} (h : GoneAt w bm n V) {i : Nat} (hi : i < n) (hs : (V.id i).size ≤ maxLen) :
    (Instr.lookup 47 (.map (some bm)) (.string (V.id i)) false).run Try.prog w = .ok (.int .u64 (V.gone i)) w := by
  obtain ⟨D, hown, hat⟩ := h
  obtain ⟨c, hrun, hc, _⟩ := hown.lookup_int law30 Try.underlying47 Try.underlying29 (zero29 _) (keyOf_string_mk Try.underlying30 hs)
  rw [hat i hi] at hc
  cases hc
  exact hrun

theorem ownsMap_heap {w w' : World} {b n : Nat} {D : DataW Unit} (h : w.ownsMap Try.prog 30 (plainElem Try.prog 29) b n D) (hb : w'.heap[b]? = w.heap[b]?) : w'.ownsMap Try.prog 30 (plainElem Try.prog 29) b n D := by
  obtain ⟨es, clock, h1, h2⟩ := h
  exact ⟨es, clock, hb.trans h1, h2⟩
theorem GoneAt.lt {w : World} {bm n : Nat} {V : VRow} (h : GoneAt w bm n V) : bm < w.heap.size := by
  obtain ⟨D, hown, _⟩ := h; exact hown.lt
theorem GoneAt.but {S : Nat → Prop} {w w' : World} {bm n : Nat} {V : VRow} (h : GoneAt w bm n V) (hb : But S w w') (hs : ¬ S bm) : GoneAt w' bm n V := by
  have hl := h.lt
  obtain ⟨D, hown, hat⟩ := h
  exact ⟨D, ownsMap_heap hown (hb.block bm hl hs), hat⟩
theorem GoneAt.below {w w' : World} {bm n : Nat} {V : VRow} (h : GoneAt w bm n V) (hb : Below w.heap.size w w') : GoneAt w' bm n V := h.but (But.of_below (S := fun _ => False) hb) (fun h => h)

set_option maxHeartbeats 1000000 in
set_option maxRecDepth 100000 in
theorem buildGone_any (a : Option Addr) (n c : Nat) (V : VRow) (w : World) (hm : n ≤ 4096) (hv : ViewAt w a n V) (hid : ∀ i, i < n → (V.id i).size ≤ maxLen) (hg : ∀ i, i < n → (Lit.int .u64 (V.gone i)).wf = true) :
    Calls Try.prog 22 #[.slice a n c] w fun e w' => e = .returned (.map (some w.heap.size)) ∧ w'.ownsMap Try.prog 30 (plainElem Try.prog 29) w.heap.size n (goneD V n) ∧ Below w.heap.size w w' := by
  obtain ⟨b, off, ha, h0, _, _, _, _, h5⟩ := hv
  have HI : Hid _ := hid
  have HG : Hid _ := hg
  clear hid hg
  have hmm := @run_makeMap Try.prog
  go_enter Try.func22, Try.ntmps22
  go_wp2
  go_loopw [4] (fun i wr => ∃ k : Nat, k ≤ n ∧ i = .int .i64 k ∧ wr.ownsMap Try.prog 30 (plainElem Try.prog 29) w.heap.size k (goneD V k) ∧ Below w.heap.size w wr) (fun i _ => n - (intOf i).toNat)
  case atStart => exact ⟨0, Nat.zero_le _, rfl, World.ownsMap_made _ _ _ _, (Below.refl _ _).alloc (Nat.le_refl _) _⟩
  case round =>
    obtain ⟨k, hk, rfl, hown, hb⟩ := hrel
    by_cases hlt : k < n
    · have g0 := down hb (h0 k hlt)
      have g5 := down hb (h5 k hlt)
      have hix := ixAt (c := c) Try.underlying22 sz38 ha k hlt
      clear h0 h5 ha
      cases hq : (V.gone k != 0)
      · go_wp2
        go_roundw
        case rel => exact ⟨k + 1, by omega, by go_num, by unfold goneD; rw [if_neg (by simp [hq])]; exact hown.mono (by omega), hb⟩
        case measure => simp [intOf]; omega
      · obtain ⟨w1, hrun, hown1, hg1⟩ := hown.drew.update law30 Try.underlying47 (by unfold maxLen; omega) (keyOf_string_mk Try.underlying30 (HI.out k hlt)) (plainElem_int Try.underlying29 (HG.out k hlt))
        clear hown
        go_wp2
        go_region
        all_goals
          go_wp2
          go_roundw
          case rel => exact ⟨k + 1, by omega, by go_num, by unfold goneD; rw [if_pos hq]; exact hown1, hb.drew.grown hg1 hb.size (fun j hj => by cases hj; exact Nat.le_refl _)⟩
          case measure => simp [intOf]; omega
    · go_wp2
      go_ret
      have e : k = n := by omega
      subst e
      exact ⟨rfl, hown, hb⟩

theorem gone_at {w w' : World} {n : Nat} {V : VRow} (hok : ViewOk n V) (h : w'.ownsMap Try.prog 30 (plainElem Try.prog 29) w.heap.size n (goneD V n)) : GoneAt w' w.heap.size n V := by
  refine ⟨_, h, (goneD_at V n (fun i j hij hj e => ?_) n (Nat.le_refl _)).1⟩
  have := VecOk.lt (B := V.id) (n := n) hok.2 j i hij hj
  rw [toList_inj e, bl_irrefl] at this
  exact absurd this (by simp)
end Go.Proofs.Qxb6613110a
