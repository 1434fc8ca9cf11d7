import Derived.Test.Qxb6613110aV
import Derived.Deep.RegionLaw
namespace Go.Proofs.Qxb6613110a
open Go.RowKit

def shB (B : Nat → ByteArray) (r : Nat) (i : Nat) : ByteArray := if i ≤ r then B i else B (i - 1)
def shC (C : Nat → Int) (r : Nat) (i : Nat) : Int := if i ≤ r then C i else C (i - 1)

theorem OwnVec.congr {w : World} {g n cap : Nat} {B B' : Nat → ByteArray} {C C' : Nat → Int} (h : OwnVec w g n cap B C) (hc : ∀ i, B i = B' i ∧ C i = C' i) : OwnVec w g n cap B' C' := by
  obtain ⟨cur, hh, hn, hm, hs, hx⟩ := h
  exact ⟨cur, hh, hn, hm, hs, fun i hi => by rw [← (hc i).1, ← (hc i).2]; exact hx i hi⟩

theorem ins_upd (B : Nat → ByteArray) (C : Nat → Int) (r : Nat) (me : ByteArray) (cl : Int) : ∀ i, updB (shB B r) r me i = insB B r me i ∧ updC (shC C r) r cl i = insC C r cl i := by
  intro i
  unfold updB updC shB shC insB insC
  by_cases e : i = r
  · subst e; simp
  · by_cases h : i < r
    · simp [e, h, Nat.le_of_lt h]
    · have : ¬ i ≤ r := by omega
      simp [e, h, this]

theorem shift_own {w : World} {g n r cap : Nat} {B : Nat → ByteArray} {C : Nat → Int} {cur : Array Value} {X : List Value} {e : ByteArray} (hp : r < n)
    (hh : w.heap[g]? = some (.cells (cur.toList.take ((r + 1) * 2) ++ X ++ cur.toList.drop ((r + 1) * 2 + X.length)).toArray 66 (0, 0))) (hXl : X.length = (n - r) * 2) (hX : ∀ j, j < (n - r) * 2 → X[j]? = cur[r * 2 + j]?)
    (hc : ∀ i, i < n + 1 → cur[i * 2]? = some (.string (insB B n e i)) ∧ cur[i * 2 + 1]? = some (.int .u64 (insC C n 0 i))) (hn : n + 1 ≤ cap) (hm : cap ≤ maxLen) (hs : cur.size = cap * 2) :
    OwnVec w g (n + 1) cap (shB B r) (shC C r) := by
  have hl1 : (cur.toList.take ((r + 1) * 2)).length = (r + 1) * 2 := by simp; omega
  refine ⟨_, hh, hn, hm, by simp; omega, fun i hi => ?_⟩
  by_cases hir : i ≤ r
  · have h1 := hc i hi
    have e1 : insB B n e i = B i := by unfold insB; rw [if_pos (by omega)]
    have e2 : insC C n 0 i = C i := by unfold insC; rw [if_pos (by omega)]
    rw [e1, e2] at h1
    simp only [shB, shC, if_pos hir]
    constructor
    · rw [List.getElem?_toArray, List.append_assoc, List.getElem?_append_left (by omega), List.getElem?_take, if_pos (by omega)]; simpa using h1.1
    · rw [List.getElem?_toArray, List.append_assoc, List.getElem?_append_left (by omega), List.getElem?_take, if_pos (by omega)]; simpa using h1.2
  · have h1 := hc (i - 1) (by omega)
    have e1 : insB B n e (i - 1) = B (i - 1) := by unfold insB; rw [if_pos (by omega)]
    have e2 : insC C n 0 (i - 1) = C (i - 1) := by unfold insC; rw [if_pos (by omega)]
    rw [e1, e2] at h1
    simp only [shB, shC, if_neg hir]
    constructor
    · rw [List.getElem?_toArray, List.append_assoc, List.getElem?_append_right (by omega), List.getElem?_append_left (by omega), hX _ (by omega), show r * 2 + (i * 2 - (cur.toList.take ((r + 1) * 2)).length) = (i - 1) * 2 by omega]
      exact h1.1
    · rw [List.getElem?_toArray, List.append_assoc, List.getElem?_append_right (by omega), List.getElem?_append_left (by omega), hX _ (by omega), show r * 2 + (i * 2 + 1 - (cur.toList.take ((r + 1) * 2)).length) = (i - 1) * 2 + 1 by omega]
      exact h1.2

set_option maxHeartbeats 2000000 in
set_option maxRecDepth 100000 in
theorem set_mid (R A n p : Nat) (B : Nat → ByteArray) (C : Nat → Int) (me : ByteArray) (cl : Int) (w : World)
    (hcell : w.cell? ⟨R, 6, none⟩ = some (.slice (some ⟨A, 0, none⟩) n n)) (hfr : w.frozen? ⟨R, 6, none⟩ = false) (hV : OwnVec w A n n B C) (hok : VecOk n B) (hn : n ≤ 4096) (hp : p < n)
    (hlow : ∀ k, k < p → Op.bytesLess (B k).toList me.toList = true) (hhigh : ∀ k, p ≤ k → k < n → Op.bytesLess me.toList (B k).toList = true) :
    Calls Try.prog 41 #[.pointer (some ⟨R, 6, none⟩), .string me, .int .u64 cl] w fun e w' => e = .returned (.tuple #[]) ∧ SetIns w w' R n p B C me cl := by
  obtain ⟨i0, hi, hz0, hz1, hz2⟩ := info_parts Try.info66
  have hq : ((n : Int) == 0) = false := by simp; omega
  have hlt : Op.bytesLess (B (n - 1)).toList me.toList = false := bl_asymm (hhigh (n - 1) (by omega) (by omega))
  have HL : Hid _ := hlow
  have HH : Hid _ := hhigh
  have hv := hV.vec
  obtain ⟨b, off, ha, v0, _⟩ := hV.vec
  have g0 := v0 (n - 1) (by omega)
  have hix := ixAtI (c := n) Try.underlying34 sz66 ha ((n : Int) - 1) (n - 1) (by omega) (by omega)
  clear v0 ha hlow hhigh
  go_enter Try.func41, Try.ntmps41
  go_wp2_with fail
  refine (vfind_any _ n n B C me _ (by omega) hv hok).mono ?_
  rintro e w2 ⟨⟨r, rfl, hr, hlo, hhi⟩, hb⟩
  obtain rfl : r = p := by
    have h1 : ¬ p < r := fun h => by have := hlo p h; rw [bl_asymm (HH.out p (Nat.le_refl _) hp)] at this; exact absurd this (by simp)
    by_cases e : r = p
    · exact e
    · have h2 := hhi r (Nat.le_refl _) (by omega)
      rw [HL.out r (by omega)] at h2
      exact absurd h2 (by simp)
  have hmiss : (decide (r < n) && ((B r).toList == me.toList)) = false := by rw [bl_ne' (HH.out r (Nat.le_refl _) hp)]; simp
  rw [hmiss]
  have hV2 := hV.below hb
  have c6 := down hb hcell
  have f6 := downF hb hcell hfr
  have hbA : Below w2.heap.size w2 (w2.alloc (.cells #[.string { data := #[] }, .int .u64 0] 66)) := (Below.refl _ _).alloc (Nat.le_refl _) _
  have hvA := hV2.vec.below hbA
  have cA := down hbA c6
  have fA := downF hbA c6 f6
  have hnews : ∀ j u, ([.string { data := #[] }, .int .u64 0] : List Value)[j]? = some u → (w2.alloc (.cells #[.string { data := #[] }, .int .u64 0] 66)).cell? ((⟨w2.heap.size, 0, none⟩ : Addr).add j) = some u := by
    intro j u hj
    match j, hj with
    | 0, hj => simp at hj; subst hj; simp [Addr.add, go_sem]
    | 1, hj => simp at hj; subst hj; simp [Addr.add, go_sem]
  have hone : ∀ u ∈ ([.string { data := #[] }, .int .u64 0] : List Value), u.oneCell' = true := by
    intro u hu; simp at hu; rcases hu with rfl | rfl <;> rfl
  have hmx : n + 1 ≤ maxLen := by unfold maxLen; omega
  have hby : (n + 1) * 24 ≤ 140737488355328 := by omega
  have hcap : n < n + 1 := by omega
  have hRl := lt_of_cell hcell
  clear hlo hhi hmiss hix g0 hv hcell hfr
  go_wp2_with (first | (at_builtin; refine wpList_append_grows _ rfl (.tmp 50) (.tmp 52) 34 rfl 66 i0 (.agg #[.string ByteArray.empty, .int .u64 0]) 2 24 Try.underlying34 hi hz0 hz1 hz2 rfl (by decide) (some ⟨A, 0, none⟩) n n (pairsL B C n) rfl (fun h => by cases h) (pairsL_length B C n) (holds_olds hvA) ⟨w2.heap.size, 0, none⟩ 1 1 [.string { data := #[] }, .int .u64 0] rfl rfl hnews hone hcap hmx hby ?_; intro v1 w1 hown1 hg1; obtain ⟨g, cap', hve, c1, f1, hgb, hgR, hV1, hbt⟩ := app_facts c6 f6 hown1 hg1; rw [hve]; clear hve hown1 hg1) | fail)
  have h3c : (w1.setCell ⟨R, 6, none⟩ (.slice (some ⟨g, 0, none⟩) (n + 1) cap')).cell? ⟨R, 6, none⟩ = some (.slice (some ⟨g, 0, none⟩) (n + 1) cap') := World.cell?_setCell_same _ _ _ c1
  have h3f : (w1.setCell ⟨R, 6, none⟩ (.slice (some ⟨g, 0, none⟩) (n + 1) cap')).frozen? ⟨R, 6, none⟩ = false := by rw [World.frozen?_setCell]; exact f1
  have hb3 : But (· = R) w1 (w1.setCell ⟨R, 6, none⟩ (.slice (some ⟨g, 0, none⟩) (n + 1) cap')) := (But.refl (· = R) w1).setCell (p := ⟨R, 6, none⟩) (Or.inl rfl) _
  have hV3 := hV1.but hb3 hgR
  have hgW : w.heap.size ≤ g := by have := hb.size; omega
  have hbW : But (fun _ => False) w w1 := (But.of_below hb).trans hbt
  have h3o : ∀ j, j ≠ 6 → (w1.setCell ⟨R, 6, none⟩ (.slice (some ⟨g, 0, none⟩) (n + 1) cap')).cell? ⟨R, j, none⟩ = w.cell? ⟨R, j, none⟩ := fun j hj => (World.cell?_setCell_other _ _ _ _ (fun h => hj (by injection h with _ h2; exact h2.symm))).trans (World.cell?_of_block (w := w) (hbW.block R hRl (fun h => h)))
  have H3O : Hid _ := h3o
  clear h3o
  generalize (w1.setCell ⟨R, 6, none⟩ (.slice (some ⟨g, 0, none⟩) (n + 1) cap')) = w3 at *
  obtain ⟨cur, hh, hnc, hcm, hsz, hcc⟩ := hV3
  clear hvA cA fA hnews hone hmx hby c1 f1 hb hbA
  have hw1 : IntKind.i64.wrap ((r : Int) + 1) = (r : Int) + 1 := by rw [IntKind.wrap_i64]; omega
  have ht1 : ((r : Int) + 1).toNat = r + 1 := by omega
  have hA1 : (0 : Int) ≤ (r : Int) + 1 := by omega
  have hA2 : (r : Int) ≤ (n : Int) := by omega
  have hA3 : (r : Int) ≤ (n : Int) + 1 := by omega
  have hA4 : (r : Int) + 1 ≤ (n : Int) + 1 := by omega
  have hA5 : (r : Int) < (n : Int) + 1 := by omega
  have hne1 : ¬ cap' = r + 1 := by omega
  have hne2 : ¬ cap' = r := by omega
  obtain ⟨X, hX⟩ : ∃ X, X = (cur.toList.drop (r * 2)).take ((n - r) * 2) := ⟨_, rfl⟩
  have hXl : X.length = (n - r) * 2 := by rw [hX]; simp; omega
  have hXn : X.length = Nat.min (n + 1 - r) (n - r) * i0.size := by rw [hXl, hz1]; show _ = min (n + 1 - r) (n - r) * 2; omega
  have hXg : ∀ j, j < (n - r) * 2 → X[j]? = cur[r * 2 + j]? := by
    intro j hj; rw [hX, List.getElem?_take, if_pos hj, List.getElem?_drop]; simp
  have hXs : ∀ j v, X[j]? = some v → w3.drew.cell? ((⟨g, r * 2, none⟩ : Addr).add j) = some v := by
    intro j v hj
    have hl : j < (n - r) * 2 := by have := (List.getElem?_eq_some_iff.1 hj).1; omega
    rw [hXg j hl] at hj
    have hadd : (⟨g, r * 2, none⟩ : Addr).add j = ⟨g, r * 2 + j, none⟩ := by unfold Addr.add; split <;> simp_all
    rw [hadd]
    exact cell_of_heap (w := w3.drew) hh hj
  have hX1 : ∀ v ∈ X, v.oneCell' = true := by
    intro v hv
    obtain ⟨j, hj⟩ := List.getElem?_of_mem hv
    have hl : j < (n - r) * 2 := by have := (List.getElem?_eq_some_iff.1 hj).1; omega
    rw [hXg j hl] at hj
    have hc := hcc (r + j / 2) (by omega)
    by_cases e : j % 2 = 0
    · rw [show (r + j / 2) * 2 = r * 2 + j by omega, hj] at hc
      cases hc.1; rfl
    · rw [show (r + j / 2) * 2 + 1 = r * 2 + j by omega, hj] at hc
      cases hc.2; rfl
  have hXf : (r + 1) * 2 + X.length ≤ cur.size := by omega
  have HX : Hid _ := hXg
  have HC : Hid _ := hcc
  clear hX hXg hcc
  go_region_law (refine step_copy_wide rfl (.tmp 60) (.tmp 65) 34 34 rfl 66 i0 Try.underlying34 hi g ((r + 1) * 2) (n - r) (cap' - (r + 1)) ⟨g, r * 2, none⟩ (n + 1 - r) (cap' - r) rfl rfl cur 66 hh X hXn hXs hXf hX1 ?_; intro w4 hh4 hb4)
  all_goals
    have V4 := shift_own hp hh4.out hXl HX.out HC.out hnc hcm hsz
    have c64 : w4.cell? ⟨R, 6, none⟩ = some (.slice (some ⟨g, 0, none⟩) (n + 1) cap') := hb4.cell (w := w3.drew) h3c (fun h => hgR h.symm)
    have f64 : w4.frozen? ⟨R, 6, none⟩ = false := (hb4.frozen (w := w3.drew) h3c (fun h => hgR h.symm)).trans h3f
    obtain ⟨u0, k0, z0⟩ := V4.at (r * 2) (by omega)
    obtain ⟨u1, k1, z1⟩ := V4.at (r * 2 + 1) (by omega)
    have hbF : But (· = R) w w4 := by
      have t1 : But (fun k => k = R ∨ w.heap.size ≤ k) w w1 := hbW.mono (fun k _ h => h.elim)
      have t2 : But (fun k => k = R ∨ w.heap.size ≤ k) w1 w3 := hb3.mono (fun k _ h => Or.inl h)
      have t3 : But (fun k => k = R ∨ w.heap.size ≤ k) w3 w3.drew := (But.refl _ w3).drew
      have t4 : But (fun k => k = R ∨ w.heap.size ≤ k) w3.drew w4 := hb4.mono (fun k _ h => Or.inr (by subst h; exact hgW))
      exact (((t1.trans t2).trans t3).trans t4).mono (fun k hk h => h.elim id (fun h => by omega))
    have hb4k := hb4.block
    have HB4 : Hid _ := hb4k
    clear hb4k
    have hR3 : R < w3.drew.heap.size := lt_of_cell (w := w3.drew) h3c
    clear hh4 hb4 hh hXs hX1
    go_wp2
    go_end0
    refine ⟨rfl, g, cap', hgW, ?_, by rw [World.frozen?_setCell, World.frozen?_setCell]; exact f64, (V4.put (by omega) me cl).congr (ins_upd B C r me cl), (hbF.setCell (p := ⟨g, r * 2, none⟩) (Or.inr hgW) _).setCell (p := ⟨g, r * 2 + 1, none⟩) (Or.inr hgW) _, fun j hj => ?_⟩
    rotate_left
    · have hR4 : w4.cell? ⟨R, j, none⟩ = w3.cell? ⟨R, j, none⟩ := World.cell?_of_block (w := w3.drew) (HB4.out R hR3 (fun h => hgR h.symm))
      rw [World.cell?_setCell_other _ _ _ _ (fun h => hgR (by injection h)), World.cell?_setCell_other _ _ _ _ (fun h => hgR (by injection h)), hR4]; exact H3O.out j hj
    rw [World.cell?_setCell_other _ _ _ _ (fun h => hgR (by injection h)), World.cell?_setCell_other _ _ _ _ (fun h => hgR (by injection h))]; exact c64
end Go.Proofs.Qxb6613110a
