import Derived.Test.Qxb6613110aL
namespace Go.Proofs.Qxb6613110a
open Go.RowKit

theorem Try.info79 : (Try.prog.info? 79).map (fun i => (i.zero, i.size, i.bytes)) = some (some (.pointer none), 1, 8) := by kernel_rfl

/-- the view's entries as buildView lays them: in blocks from base on, below top -/
def EntsAt (w : World) (base top g n : Nat) (V : VRow) : Prop :=
  ∀ i, i < n → ∃ q, base ≤ q ∧ q < top ∧ q ≠ g ∧ w.cell? ⟨g, i, none⟩ = some (.pointer (some ⟨q, 0, none⟩)) ∧ w.cell? ⟨q, 0, none⟩ = some (.string (V.id i)) ∧ w.cell? ⟨q, 2, none⟩ = some (.string (V.st i))

theorem EntsAt.below {w w' : World} {base top top' g n : Nat} {V : VRow} (h : EntsAt w base top g n V) (hb : Below w.heap.size w w') (ht : top ≤ top') : EntsAt w' base top' g n V := fun i hi =>
  let ⟨q, h1, h2, h3, h4, h5, h6⟩ := h i hi
  ⟨q, h1, by omega, h3, down hb h4, down hb h5, down hb h6⟩
theorem EntsAt.but {S : Nat → Prop} {w w' : World} {base top g n : Nat} {V : VRow} (h : EntsAt w base top g n V) (hb : But S w w') (hg : ¬ S g) (hs : ∀ q, base ≤ q → q < top → ¬ S q) : EntsAt w' base top g n V := fun i hi =>
  let ⟨q, h1, h2, h3, h4, h5, h6⟩ := h i hi
  ⟨q, h1, h2, h3, hb.cell h4 hg, hb.cell h5 (hs q h1 h2), hb.cell h6 (hs q h1 h2)⟩

theorem cell_of_heap {w : World} {b j : Nat} {cs : Array Value} {e : TypeId} {v : Value} (h1 : w.heap[b]? = some (.cells cs e (0, 0))) (h2 : cs[j]? = some v) : w.cell? ⟨b, j, none⟩ = some v := by
  unfold World.cell?; rw [h1]; exact h2

theorem ents_step {w : World} {base top g k : Nat} {V : VRow} {cur : Array Value} (hh : w.heap[g]? = some (.cells cur 79 (0, 0))) (hk : k < cur.size) (hg : g < w.heap.size) (hb : base ≤ w.heap.size) (ht : top = w.heap.size + 1)
    (h : EntsAt w base w.heap.size g k V) (cs : Array Value) (hc0 : cs[0]? = some (.string (V.id k))) (hc2 : cs[2]? = some (.string (V.st k))) :
    EntsAt ((w.setCell ⟨g, k, none⟩ (.pointer (some ⟨w.heap.size, 0, none⟩))).alloc (.cells cs 77)) base top g (k + 1) V := by
  have hsz : (w.setCell ⟨g, k, none⟩ (.pointer (some ⟨w.heap.size, 0, none⟩))).heap.size = w.heap.size := by simp [World.setCell]
  have cA : w.cell? ⟨g, k, none⟩ = some (cur[k]'hk) := by simp [World.cell?, hh, hk]
  intro i hi
  by_cases e : i = k
  · subst e
    refine ⟨w.heap.size, hb, by omega, by omega, ?_, ?_, ?_⟩
    · rw [World.cell?_alloc_lt _ _ _ (by rw [hsz]; exact hg)]
      exact World.cell?_setCell_same _ _ _ cA
    · have := (MapKept.heap_alloc (w.setCell ⟨g, i, none⟩ (.pointer (some ⟨w.heap.size, 0, none⟩))) (.cells cs 77)).1
      rw [hsz] at this
      exact cell_of_heap this hc0
    · have := (MapKept.heap_alloc (w.setCell ⟨g, i, none⟩ (.pointer (some ⟨w.heap.size, 0, none⟩))) (.cells cs 77)).1
      rw [hsz] at this
      exact cell_of_heap this hc2
  · obtain ⟨q, h1, h2, h3, h4, h5, h6⟩ := h i (by omega)
    refine ⟨q, h1, by omega, h3, ?_, ?_, ?_⟩
    · rw [World.cell?_alloc_lt _ _ _ (by rw [hsz]; exact hg), World.cell?_setCell_other _ _ _ _ (fun h => e (by injection h with _ h2; exact h2.symm))]; exact h4
    · rw [World.cell?_alloc_lt _ _ _ (by rw [hsz]; exact h2), World.cell?_setCell_other _ _ _ _ (fun h => h3 (by injection h with h1; exact h1.symm))]; exact h5
    · rw [World.cell?_alloc_lt _ _ _ (by rw [hsz]; exact h2), World.cell?_setCell_other _ _ _ _ (fun h => h3 (by injection h with h1; exact h1.symm))]; exact h6

set_option maxHeartbeats 1000000 in
set_option maxRecDepth 100000 in
theorem buildView_any (a : Option Addr) (n c : Nat) (V : VRow) (w : World) (hm : n ≤ 4096) (hv : ViewAt w a n V) :
    Calls Try.prog 21 #[.slice a n c] w fun e w' => e = .returned (.slice (some ⟨w.heap.size, 0, none⟩) n n) ∧ w.heap.size < w'.heap.size ∧ EntsAt w' w.heap.size w'.heap.size w.heap.size n V ∧ Below w.heap.size w w' := by
  obtain ⟨b, off, ha, h0, h1, h2, h3, h4, h5⟩ := hv
  obtain ⟨i0, hi, hz0, hz1, hz2⟩ := info_parts Try.info79
  go_enter Try.func21, Try.ntmps21
  go_wp2_with (first | (at_make; refine wpList_make_full _ rfl _ _ 45 rfl w.heap.size 79 i0 _ 1 Try.underlying45 hi hz0 hz1 _ _ _ _ n rfl rfl rfl rfl (by rw [hz2]; omega) (by unfold maxLen; omega) (Nat.le_refl _) ?_; intro w1 hown1 hg1) | fail)
  obtain ⟨cur, hh, hsz⟩ := ownsRow_block hown1
  have hb1 : Below w.heap.size w w1 := (Below.refl _ _).grown hg1 (Nat.le_refl _) (fun k hk => by cases hk)
  clear hown1 hg1 hi hz0 hz1 hz2
  go_loopw [4] (fun i wr => ∃ k : Nat, k ≤ n ∧ i = .int .i64 k ∧ (∃ cur, wr.heap[w.heap.size]? = some (.cells cur 79 (0, 0)) ∧ cur.size = n) ∧ EntsAt wr w.heap.size wr.heap.size w.heap.size k V ∧ Below w.heap.size w wr) (fun i _ => n - (intOf i).toNat)
  case atStart => exact ⟨0, Nat.zero_le _, rfl, ⟨cur, hh, by omega⟩, fun i hi => by omega, hb1⟩
  case round =>
    clear hh hsz hb1
    obtain ⟨k, hk, rfl, ⟨cur, hh, hsz⟩, hE, hb⟩ := hrel
    have hgl : w.heap.size < wr.heap.size := (Array.getElem?_eq_some_iff.1 hh).1
    by_cases hlt : k < n
    · have g0 := down hb (h0 k hlt)
      have g1 := down hb (h1 k hlt)
      have g2 := down hb (h2 k hlt)
      have g3 := down hb (h3 k hlt)
      have g4 := down hb (h4 k hlt)
      have g5 := down hb (h5 k hlt)
      have hix := ixAt (c := c) Try.underlying22 sz38 ha k hlt
      have HH : Hid _ := hh
      clear h0 h1 h2 h3 h4 h5 ha hh
      go_wp2_with fail
      refine (entryOf_any _ _ _ _ _ _ _).mono ?_
      rintro e w2 ⟨rfl, hb2⟩
      have hh2 : w2.heap[w.heap.size]? = some (.cells cur 79 (0, 0)) := (hb2.block _ hgl).trans HH.out
      have hgl2 := hb2.size
      have c0 : w2.cell? ⟨w.heap.size, k, none⟩ = some (cur[k]'(by omega)) := by simp [World.cell?, hh2]
      have f0 : w2.frozen? ⟨w.heap.size, k, none⟩ = false := by simp [World.frozen?, hh2]
      have HH2 : Hid _ := hh2
      have hgl3 : w.heap.size < w2.heap.size := by omega
      clear g0 g1 g2 g3 g4 g5 hh2 HH
      go_wp2
      have hE2 : EntsAt w2 w.heap.size w2.heap.size w.heap.size k V := hE.below hb2 hgl2
      have hb3 : Below w.heap.size w w2 := hb.trans (hb2.mono hb.size)
      go_roundw
      case rel =>
        refine ⟨k + 1, by omega, by go_num, ⟨cur.setIfInBounds k (.pointer (some ⟨w2.heap.size, 0, none⟩)), ?_, by simpa using hsz⟩, ?_, ?_⟩
        · rw [Below.heap_alloc _ _ _ (by simpa [World.setCell] using hgl3)]
          exact heap_setCell_same _ _ _ _ _ _ HH2.out
        · exact ents_step HH2.out (by omega) hgl3 (by omega) (by simp [World.setCell]) hE2 _ rfl rfl
        · exact (hb3.setCell (p := ⟨w.heap.size, k, none⟩) (Nat.le_refl _) _).alloc (by simp [World.setCell]; omega) _
      case measure => simp [intOf]; omega
    · go_wp2
      go_ret
      have e : k = n := by omega
      subst e
      exact ⟨rfl, hgl, hE, hb⟩
end Go.Proofs.Qxb6613110a
