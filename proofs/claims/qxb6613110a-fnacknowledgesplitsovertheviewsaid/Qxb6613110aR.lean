import Derived.Test.Qxb6613110aQ
import Derived.Laws.CopyOwn
import Derived.ArgAppend
namespace Go.Proofs.Qxb6613110a
open Go.RowKit

/-- copy between slices whose elements take 'i.size' cells -/
theorem run_copy_wide {P : Program} (w : World) (dT sT ty elem : TypeId) (i : TypeInfo) (g o dLen dCap : Nat) (a : Addr) (sLen sCap : Nat) (cur : Array Value) (t : TypeId) (cs : List Value)
    (hu : P.underlying dT = some (.slice elem)) (hi : P.info? elem = some i)
    (hg : w.heap[g]? = some (.cells cur t (0, 0))) (hn : cs.length = Nat.min sLen dLen * i.size)
    (hsrc : ∀ j v, cs[j]? = some v → w.cell? (a.add j) = some v) (hfit : o + cs.length ≤ cur.size) (h1 : ∀ v ∈ cs, v.oneCell' = true) :
    (Builtin.copy_ #[dT, sT] ty #[.slice (some ⟨g, o, none⟩) dLen dCap, .slice (some a) sLen sCap]).run P w =
      .ok (goInt (Nat.min sLen dLen)) (w.setRow g (cur.toList.take o ++ cs ++ cur.toList.drop (o + cs.length)).toArray) := by
  have hl := run_loadCells_list (P := P) w a cs hsrc
  have hst := run_storeCells_at P g o t cs 0 cur w hg (by simpa using hfit) h1
  simp only [Nat.add_zero] at hst
  simp [Builtin.copy_, run_underlying hu, Builtin.lenOf, Builtin.firstCells, sizeOf, typeInfo, hi]
  rw [← hn, hl]
  simp [hst]

/-- .. as one step of a region that draws its order -/
theorem step_copy_wide {P : Program} {ops : Array Oper} {op : Oper} {a : Act} {w : World} {K : Act → World → Prop} {Q : Exit → Act → World → Prop} {E : Prop} (hgd : op.guard = none) (d s : Operand) (dT sT : TypeId)
    (ho : op.op = .call { callee := .builtin .copy, args := #[d, s], argTypes := #[dT, sT] }) (elem : TypeId) (i : TypeInfo) (hu : P.underlying dT = some (.slice elem)) (hi : P.info? elem = some i)
    (g o dLen dCap : Nat) (ad : Addr) (sLen sCap : Nat) (hd : a.eval d = .slice (some ⟨g, o, none⟩) dLen dCap) (hs : a.eval s = .slice (some ad) sLen sCap)
    (cur : Array Value) (t : TypeId) (hg : w.heap[g]? = some (.cells cur t (0, 0))) (cs : List Value) (hn : cs.length = Nat.min sLen dLen * i.size)
    (hsrc : ∀ j v, cs[j]? = some v → w.cell? (ad.add j) = some v) (hfit : o + cs.length ≤ cur.size) (h1 : ∀ v ∈ cs, v.oneCell' = true)
    (h : ∀ w', Hid (w'.heap[g]? = some (.cells (cur.toList.take o ++ cs ++ cur.toList.drop (o + cs.length)).toArray t (0, 0))) → But (· = g) w w' → K (a.put op.dst (goInt (Nat.min sLen dLen))) w') :
    if Region.wanted op (yielded ops a.tmps) = true then Oper.wp P op a w K Q else E := by
  have hw : Region.wanted op (yielded ops a.tmps) = true := by simp [Region.wanted, hgd]
  rw [if_pos hw]
  have hrun := run_copy_wide (P := P) w dT sT op.type elem i g o dLen dCap ad sLen sCap cur t cs hu hi hg hn hsrc hfit h1
  unfold Oper.wp
  simp only [execOp, ho, resolve, invoke, builtin, Sem.run_bind, Sem.run_pure, Result.andThen_ok, List.map_toArray, List.map_cons, List.map_nil, hd, hs, hrun]
  exact h _ (setRow_heap w g cur _ t _ hg) ⟨rfl, rfl, rfl, by simp [World.setRow], fun k _ hk => setRow_other w g k _ hk⟩

/-- the cells of a vector -/
def pairsL (B : Nat → ByteArray) (C : Nat → Int) : Nat → List Value
  | 0 => []
  | n + 1 => pairsL B C n ++ [.string (B n), .int .u64 (C n)]
theorem pairsL_length (B : Nat → ByteArray) (C : Nat → Int) : ∀ n, (pairsL B C n).length = n * 2
  | 0 => rfl
  | n + 1 => by simp [pairsL, pairsL_length B C n]; omega
theorem pairsL_get (B : Nat → ByteArray) (C : Nat → Int) : ∀ n i, i < n → (pairsL B C n)[i * 2]? = some (.string (B i)) ∧ (pairsL B C n)[i * 2 + 1]? = some (.int .u64 (C i))
  | 0, i, h => by omega
  | n + 1, i, h => by
    have hl := pairsL_length B C n
    unfold pairsL
    by_cases e : i = n
    · subst e
      constructor
      · rw [List.getElem?_append_right (by omega), hl]; simp
      · rw [List.getElem?_append_right (by omega), hl]; simp
    · have := pairsL_get B C n i (by omega)
      constructor
      · rw [List.getElem?_append_left (by omega)]; exact this.1
      · rw [List.getElem?_append_left (by omega)]; exact this.2
theorem pairsL_one (B : Nat → ByteArray) (C : Nat → Int) : ∀ n, ∀ u ∈ pairsL B C n, u.oneCell' = true
  | 0, u, h => by simp [pairsL] at h
  | n + 1, u, h => by
    simp only [pairsL, List.mem_append] at h
    rcases h with h | h
    · exact pairsL_one B C n u h
    · simp at h; rcases h with rfl | rfl <;> rfl
/-- where the cells of a vector lie, its list lies -/
theorem pairsL_cells {w : World} {b off n : Nat} {B : Nat → ByteArray} {C : Nat → Int} (h0 : ∀ i, i < n → w.cell? ⟨b, off + i * 2, none⟩ = some (.string (B i))) (h1 : ∀ i, i < n → w.cell? ⟨b, off + i * 2 + 1, none⟩ = some (.int .u64 (C i))) :
    ∀ j u, (pairsL B C n)[j]? = some u → w.cell? ((⟨b, off, none⟩ : Addr).add j) = some u := by
  intro j u hj
  have hlt : j < n * 2 := by
    have := (List.getElem?_eq_some_iff.1 hj).1
    rwa [pairsL_length] at this
  have hadd : (⟨b, off, none⟩ : Addr).add j = ⟨b, off + j, none⟩ := by unfold Addr.add; split <;> simp_all
  rw [hadd]
  have hg := pairsL_get B C n (j / 2) (by omega)
  by_cases e : j % 2 = 0
  · have ej : j / 2 * 2 = j := by omega
    rw [ej] at hg
    rw [hg.1] at hj; cases hj
    have := h0 (j / 2) (by omega)
    rwa [ej] at this
  · have ej : j / 2 * 2 + 1 = j := by omega
    rw [ej] at hg
    rw [hg.2] at hj; cases hj
    have := h1 (j / 2) (by omega)
    rwa [Nat.add_assoc, ej] at this
end Go.Proofs.Qxb6613110a
