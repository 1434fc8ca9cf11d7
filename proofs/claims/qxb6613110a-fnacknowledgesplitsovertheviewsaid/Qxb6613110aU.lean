import Derived.Test.Qxb6613110aR
namespace Go.Proofs.Qxb6613110a
open Go.RowKit

def insB (B : Nat → ByteArray) (p : Nat) (me : ByteArray) (i : Nat) : ByteArray := if i < p then B i else if i = p then me else B (i - 1)
def insC (C : Nat → Int) (p : Nat) (cl : Int) (i : Nat) : Int := if i < p then C i else if i = p then cl else C (i - 1)

/-- what set leaves where it put an entry in: the vector lies in a new block -/
def SetIns (w w' : World) (R n p : Nat) (B : Nat → ByteArray) (C : Nat → Int) (me : ByteArray) (cl : Int) : Prop :=
  ∃ g cap', w.heap.size ≤ g ∧ w'.cell? ⟨R, 6, none⟩ = some (.slice (some ⟨g, 0, none⟩) (n + 1) cap') ∧ w'.frozen? ⟨R, 6, none⟩ = false ∧ OwnVec w' g (n + 1) cap' (insB B p me) (insC C p cl) ∧ But (· = R) w w' ∧ ∀ j, j ≠ 6 → w'.cell? ⟨R, j, none⟩ = w.cell? ⟨R, j, none⟩

theorem holds_olds {w : World} {a : Option Addr} {n : Nat} {B : Nat → ByteArray} {C : Nat → Int} (h : VecAt w a n B C) : ∀ b, a = some b → ∀ j u, (pairsL B C n)[j]? = some u → w.cell? (b.add j) = some u := by
  rintro b rfl j u hj
  obtain ⟨b', off, ha, h0, h1⟩ := h
  rcases ha with ha | ha
  · obtain rfl : n = 0 := by omega
    simp [pairsL] at hj
  · cases ha
    exact pairsL_cells h0 h1 j u hj

theorem ownVec_of_row {w : World} {base n : Nat} {v : Value} {B : Nat → ByteArray} {C : Nat → Int} (h : w.ownsRow base 66 2 v (n + 1) (pairsL B C (n + 1))) : ∃ g cap', base ≤ g ∧ v = .slice (some ⟨g, 0, none⟩) (n + 1) cap' ∧ OwnVec w g (n + 1) cap' B C := by
  obtain ⟨_, h2⟩ := h
  rcases h2 with ⟨_, h3⟩ | ⟨g, cap, cur, hv, hb, hh, hn, hm, hs, ht⟩
  · omega
  · refine ⟨g, cap, hb, hv, cur, hh, hn, hm, hs, fun i hi => ?_⟩
    have hp := pairsL_get B C (n + 1) i hi
    rw [← ht] at hp
    rw [List.getElem?_take, List.getElem?_take, if_pos (by omega), if_pos (by omega)] at hp
    simpa using hp

theorem pairsL_congr {B B' : Nat → ByteArray} {C C' : Nat → Int} : ∀ n, (∀ i, i < n → B i = B' i ∧ C i = C' i) → pairsL B C n = pairsL B' C' n
  | 0, _ => rfl
  | n + 1, h => by
    unfold pairsL
    rw [pairsL_congr n (fun i hi => h i (by omega)), (h n (by omega)).1, (h n (by omega)).2]

theorem pairsL_snoc (B : Nat → ByteArray) (C : Nat → Int) (n : Nat) (me : ByteArray) (cl : Int) : pairsL B C n ++ [.string me, .int .u64 cl] = pairsL (insB B n me) (insC C n cl) (n + 1) := by
  conv => rhs; unfold pairsL
  rw [pairsL_congr (B := insB B n me) (C := insC C n cl) (B' := B) (C' := C) n (fun i hi => by simp [insB, insC, hi])]
  simp [insB, insC]

/-- behind an append that grew: the new vector, and what has stayed -/
theorem app_facts {w w1 : World} {R n : Nat} {B : Nat → ByteArray} {C : Nat → Int} {me : ByteArray} {cl : Int} {v1 vR : Value} {o : Obj} (hc : w.cell? ⟨R, 6, none⟩ = some vR) (hf : w.frozen? ⟨R, 6, none⟩ = false)
    (hown : w1.ownsRow (w.alloc o).heap.size 66 2 v1 (n + 1) (pairsL B C n ++ [.string me, .int .u64 cl])) (hg : (w.alloc o).grownBy w1 none) :
    ∃ g cap', v1 = .slice (some ⟨g, 0, none⟩) (n + 1) cap' ∧ w1.cell? ⟨R, 6, none⟩ = some vR ∧ w1.frozen? ⟨R, 6, none⟩ = false ∧ w.heap.size ≤ g ∧ g ≠ R ∧ OwnVec w1 g (n + 1) cap' (insB B n me) (insC C n cl) ∧ But (fun _ => False) w w1 := by
  rw [pairsL_snoc] at hown
  obtain ⟨g, cap', hgb, hve, hV⟩ := ownVec_of_row hown
  have hbg : But (fun _ => False) (w.alloc o) w1 := ⟨hg.os, hg.tape, hg.output, hg.size, fun k hk _ => hg.block k hk (by simp)⟩
  have hbt : But (fun _ => False) w w1 := ((But.refl (fun _ => False) w).alloc _).trans hbg
  have hRl := lt_of_cell hc
  simp at hgb hRl
  exact ⟨g, cap', hve, hbt.cell hc (fun h => h), (hbt.frozen hc (fun h => h)).trans hf, by omega, by omega, hV, hbt⟩

set_option maxHeartbeats 1000000 in
set_option maxRecDepth 100000 in
theorem set_app (R : Nat) (a : Option Addr) (n cap : Nat) (B : Nat → ByteArray) (C : Nat → Int) (me : ByteArray) (cl : Int) (w : World)
    (hcell : w.cell? ⟨R, 6, none⟩ = some (.slice a n cap)) (hfr : w.frozen? ⟨R, 6, none⟩ = false) (hv : VecAt w a n B C) (hnone : a = none → n = 0 ∧ cap = 0) (hcap : cap < n + 1) (hn : n ≤ 4096) (hlast : n = 0 ∨ Op.bytesLess (B (n - 1)).toList me.toList = true) :
    Calls Try.prog 41 #[.pointer (some ⟨R, 6, none⟩), .string me, .int .u64 cl] w fun e w' => e = .returned (.tuple #[]) ∧ SetIns w w' R n n B C me cl := by
  obtain ⟨i0, hi, hz0, hz1, hz2⟩ := info_parts Try.info66
  have hRl := lt_of_cell hcell
  have HN : Hid _ := hnone
  have hbA : Below w.heap.size w (w.alloc (.cells #[.string me, .int .u64 cl] 66)) := (Below.refl _ _).alloc (Nat.le_refl _) _
  have hvA := hv.below hbA
  have cA := down hbA hcell
  have fA := downF hbA hcell hfr
  have hnews : ∀ j u, ([.string me, .int .u64 cl] : List Value)[j]? = some u → (w.alloc (.cells #[.string me, .int .u64 cl] 66)).cell? ((⟨w.heap.size, 0, none⟩ : Addr).add j) = some u := by
    intro j u hj
    match j, hj with
    | 0, hj => simp at hj; subst hj; simp [Addr.add, go_sem]
    | 1, hj => simp at hj; subst hj; simp [Addr.add, go_sem]
  have hone : ∀ u ∈ ([.string me, .int .u64 cl] : List Value), u.oneCell' = true := by
    intro u hu; simp at hu; rcases hu with rfl | rfl <;> rfl
  have hmx : n + 1 ≤ maxLen := by unfold maxLen; omega
  have hby : (n + 1) * 24 ≤ 140737488355328 := by omega
  clear hnone
  by_cases h0 : n = 0
  · have hq : ((n : Int) == 0) = true := by simp [h0]
    clear h0 hlast hbA
    go_enter Try.func41, Try.ntmps41
    go_wp2_with (first | (at_builtin; refine wpList_append_grows _ rfl (.tmp 30) (.tmp 34) 34 rfl 66 i0 (.agg #[.string ByteArray.empty, .int .u64 0]) 2 24 Try.underlying34 hi hz0 hz1 hz2 rfl (by decide) a n cap (pairsL B C n) rfl HN.out (pairsL_length B C n) (holds_olds hvA) ⟨w.heap.size, 0, none⟩ 1 1 [.string me, .int .u64 cl] rfl rfl hnews hone hcap hmx hby ?_; intro v1 w1 hown1 hg1; obtain ⟨g, cap', hve, c1, f1, hgb, hgR, hV, hbt⟩ := app_facts hcell hfr hown1 hg1; rw [hve]; clear hve hown1 hg1) | fail)
    refine bodyPost_ret (results_none rfl _ _ _) rfl ?_
    refine ⟨rfl, g, cap', hgb, World.cell?_setCell_same _ _ _ c1, by rw [World.frozen?_setCell]; exact f1, ?_, (hbt.mono (S' := (· = R)) (fun _ _ h => h.elim)).setCell (p := ⟨R, 6, none⟩) (Or.inl rfl) _, fun j hj => (World.cell?_setCell_other _ _ _ _ (fun h => hj (by injection h with _ h2; exact h2.symm))).trans (World.cell?_of_block (w := w) (hbt.block R hRl (fun h => h)))⟩
    exact hV.but ((But.refl (· = R) w1).setCell (p := ⟨R, 6, none⟩) (Or.inl rfl) _) hgR
  · have hq : ((n : Int) == 0) = false := by simp [h0]
    have hlt : Op.bytesLess (B (n - 1)).toList me.toList = true := by rcases hlast with h | h; exact absurd h h0; exact h
    obtain ⟨b, off, ha, v0, _⟩ := hv
    have g0 := v0 (n - 1) (by omega)
    have hix := ixAtI (c := cap) Try.underlying34 sz66 ha ((n : Int) - 1) (n - 1) (by omega) (by omega)
    clear hlast hbA v0 ha
    go_enter Try.func41, Try.ntmps41
    go_wp2_with (first | (at_builtin; refine wpList_append_grows _ rfl (.tmp 30) (.tmp 34) 34 rfl 66 i0 (.agg #[.string ByteArray.empty, .int .u64 0]) 2 24 Try.underlying34 hi hz0 hz1 hz2 rfl (by decide) a n cap (pairsL B C n) rfl HN.out (pairsL_length B C n) (holds_olds hvA) ⟨w.heap.size, 0, none⟩ 1 1 [.string me, .int .u64 cl] rfl rfl hnews hone hcap hmx hby ?_; intro v1 w1 hown1 hg1; obtain ⟨g, cap', hve, c1, f1, hgb, hgR, hV, hbt⟩ := app_facts hcell hfr hown1 hg1; rw [hve]; clear hve hown1 hg1) | fail)
    refine bodyPost_ret (results_none rfl _ _ _) rfl ?_
    refine ⟨rfl, g, cap', hgb, World.cell?_setCell_same _ _ _ c1, by rw [World.frozen?_setCell]; exact f1, ?_, (hbt.mono (S' := (· = R)) (fun _ _ h => h.elim)).setCell (p := ⟨R, 6, none⟩) (Or.inl rfl) _, fun j hj => (World.cell?_setCell_other _ _ _ _ (fun h => hj (by injection h with _ h2; exact h2.symm))).trans (World.cell?_of_block (w := w) (hbt.block R hRl (fun h => h)))⟩
    exact hV.but ((But.refl (· = R) w1).setCell (p := ⟨R, 6, none⟩) (Or.inl rfl) _) hgR
end Go.Proofs.Qxb6613110a
