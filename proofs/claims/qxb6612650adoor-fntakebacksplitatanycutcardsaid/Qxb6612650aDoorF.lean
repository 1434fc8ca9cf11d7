import Derived.Test.Qxb6612650aDoorBase
namespace Go.Proofs.Qxb6612650aDoor
open Go.RowKit

theorem Tryd.info67 : (Tryd.prog.info? 67).map (fun i => (i.size, i.bytes)) = some (0, 0) := by kernel_rfl
theorem mkChan (w : World) : (Instr.makeChan 79 (.int .i64 0)).run Tryd.prog w = .ok (.chan (some w.heap.size)) (w.alloc (.chan 0 #[] false 0 0 false)) := by
  obtain ⟨i, hi, hb⟩ := Option.map_eq_some_iff.1 Tryd.info67
  have hb := (Prod.mk.inj hb).2
  simpa using Conc.run_makeChan (P := Tryd.prog) (w := w) Tryd.underlying79 hi .i64 0 (by omega) (by rw [hb]; omega)

theorem But.setObj {S : Nat → Prop} {a w : World} (h : But S a w) {c : Nat} (hp : S c ∨ a.heap.size ≤ c) (o : Obj) : But S a { w with heap := w.heap.setIfInBounds c o } :=
  ⟨h.os, h.tape, h.output, by simpa using h.size, fun k hk hs => by
    show (w.heap.setIfInBounds c o)[k]? = _
    rw [Array.getElem?_setIfInBounds_ne (by rintro rfl; rcases hp with hp | hp <;> first | exact hs hp | omega)]; exact h.block k hk hs⟩

set_option maxHeartbeats 400000 in
set_option maxRecDepth 100000 in
/-- what the closing of the node's channel and the making of a new one turn -/
theorem changed_any (n ch : Nat) (w : World) (h : ChanAt w n ch) :
    Calls Tryd.prog 31 #[.pointer (some ⟨n, 0, none⟩)] w fun e w' => e = .returned (.tuple #[]) ∧ ChanLater w w' n ch ∧ But (Fr [n] ch w) w w' ∧ (∀ p v, p.block = n → p ≠ ⟨n, 10, none⟩ → Cel w p v → Cel w' p v) := by
  obtain ⟨h1, h2⟩ := h
  have hcl := fun ats ty => run_close_open (P := Tryd.prog) (w := w) ats ty h2
  have hB : But (Fr [n] ch w) w { w with heap := w.heap.setIfInBounds ch (.chan 0 #[] true 0 0 false) } := (But.refl _ _).setObj (Or.inl (Or.inr ⟨rfl, _, _, _, _, _, _, h2⟩)) _
  have hC : ∀ p v, Cel w p v → Cel { w with heap := w.heap.setIfInBounds ch (.chan 0 #[] true 0 0 false) } p v := fun p v hc =>
    have hne : ch ≠ p.block := by
      rintro rfl
      obtain ⟨cs, ty, h'⟩ := hc.l
      rw [h'] at h2
      exact absurd h2 (by simp)
    hc.but (S := (· = ch)) ((But.refl (· = ch) _).setObj (Or.inl rfl) _) (fun h => hne h.symm)
  have H1 := (hC _ _ h1).alloc (.chan 0 #[] false 0 0 false)
  have k1 := H1.c
  have k2 := H1.f
  have g1 := h1.c
  have g2 := h1.f
  have mk := mkChan { w with heap := w.heap.setIfInBounds ch (.chan 0 #[] true 0 0 false) }
  have HB : Hid _ := hB
  have HC : Hid (∀ p v, Cel w p v → Cel { w with heap := w.heap.setIfInBounds ch (.chan 0 #[] true 0 0 false) } p v) := hC
  clear h2 h1 hB hC
  go_enter Tryd.func31, Tryd.ntmps31
  go_wp2
  go_end0
  have hs : ({ w with heap := w.heap.setIfInBounds ch (.chan 0 #[] true 0 0 false) } : World).heap.size = w.heap.size := by simp
  generalize ({ w with heap := w.heap.setIfInBounds ch (.chan 0 #[] true 0 0 false) } : World) = W at *
  rw [← hs]
  refine ⟨rfl, ⟨W.heap.size, ⟨H1.same _, ?_⟩, Or.inr (Nat.le_of_eq hs.symm)⟩, (HB.out.alloc _).setCell (p := ⟨n, 10, none⟩) (Or.inl (Or.inl (by simp))) _, fun p v hp hne hc => ((HC.out p v hc).alloc _).other _ (fun h => hne h.symm)⟩
  have := (MapKept.heap_alloc W (.chan 0 #[] false 0 0 false)).1
  rw [Below.heap_setCell _ _ _ _ (fun h => ?_)]
  · exact this
  · obtain ⟨cs, ty, h'⟩ := H1.l
    simp only at h h'
    rw [← h, this] at h'
    exact absurd h' (by simp)
end Go.Proofs.Qxb6612650aDoor
