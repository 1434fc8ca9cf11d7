import Derived.Test.Qxb6613110aG
namespace Go.Proofs.Qxb6613110a
open Go.RowKit

/-- all blocks of w but those of S are as they were -/
structure But (S : Nat → Prop) (w w' : World) : Prop where
  os : w'.os = w.os
  tape : w'.tape = w.tape
  output : w'.output = w.output
  size : w.heap.size ≤ w'.heap.size
  block : ∀ k, k < w.heap.size → ¬ S k → w'.heap[k]? = w.heap[k]?

theorem But.refl (S : Nat → Prop) (w : World) : But S w w := ⟨rfl, rfl, rfl, Nat.le_refl _, fun _ _ _ => rfl⟩
theorem But.of_below {S : Nat → Prop} {w w' : World} (h : Below w.heap.size w w') : But S w w' := ⟨h.os, h.tape, h.output, h.size, fun k hk _ => h.block k hk⟩
theorem But.trans {S : Nat → Prop} {a b c : World} (h : But S a b) (k : But S b c) : But S a c :=
  ⟨k.os.trans h.os, k.tape.trans h.tape, k.output.trans h.output, Nat.le_trans h.size k.size, fun i hi hs => (k.block i (Nat.lt_of_lt_of_le hi h.size) hs).trans (h.block i hi hs)⟩
theorem But.mono {S S' : Nat → Prop} {w w' : World} (h : But S w w') (hS : ∀ k, k < w.heap.size → S k → S' k) : But S' w w' :=
  ⟨h.os, h.tape, h.output, h.size, fun k hk hs => h.block k hk (fun h' => hs (hS k hk h'))⟩
theorem But.setCell {S : Nat → Prop} {a w : World} (h : But S a w) {p : Addr} (hp : S p.block ∨ a.heap.size ≤ p.block) (u : Value) : But S a (w.setCell p u) :=
  ⟨h.os, h.tape, h.output, by simpa [World.setCell] using h.size, fun k hk hs => by
    rw [Below.heap_setCell _ _ _ _ (by rintro rfl; rcases hp with hp | hp <;> first | exact hs hp | omega)]; exact h.block k hk hs⟩
theorem But.alloc {S : Nat → Prop} {a w : World} (h : But S a w) (o : Obj) : But S a (w.alloc o) :=
  ⟨h.os, h.tape, h.output, by have := h.size; simp; omega, fun k hk hs => by rw [Below.heap_alloc _ _ _ (Nat.lt_of_lt_of_le hk h.size)]; exact h.block k hk hs⟩
theorem But.drewN {S : Nat → Prop} {a w : World} (h : But S a w) (n : Nat) : But S a (w.drewN n) := ⟨h.os, h.tape, h.output, h.size, h.block⟩
theorem But.drew {S : Nat → Prop} {a w : World} (h : But S a w) : But S a w.drew := ⟨h.os, h.tape, h.output, h.size, h.block⟩
theorem But.cell {S : Nat → Prop} {w w' : World} (h : But S w w') {p : Addr} {v : Value} (hc : w.cell? p = some v) (hp : ¬ S p.block) : w'.cell? p = some v :=
  (World.cell?_of_block (w := w) (h.block p.block (lt_of_cell hc) hp)).trans hc
theorem But.frozen {S : Nat → Prop} {w w' : World} (h : But S w w') {p : Addr} {v : Value} (hc : w.cell? p = some v) (hp : ¬ S p.block) : w'.frozen? p = w.frozen? p :=
  World.frozen?_of_block (w := w) (h.block p.block (lt_of_cell hc) hp)
/-- a But whose S lies behind the old blocks is a Below -/
theorem But.below {S : Nat → Prop} {w w' : World} (h : But S w w') (hS : ∀ k, k < w.heap.size → ¬ S k) : Below w.heap.size w w' := ⟨h.os, h.tape, h.output, h.size, fun k hk => h.block k hk (hS k hk)⟩
theorem VecAt.but {S : Nat → Prop} {w w' : World} {a : Option Addr} {n : Nat} {B : Nat → ByteArray} {C : Nat → Int} (h : VecAt w a n B C) (hb : But S w w') (hs : ∀ x, a = some x → ¬ S x.block) : VecAt w' a n B C := by
  obtain ⟨b, off, ha, h0, h1⟩ := h
  refine ⟨b, off, ha, fun i hi => hb.cell (h0 i hi) ?_, fun i hi => hb.cell (h1 i hi) ?_⟩
  all_goals
    rcases ha with ha | ha
    · omega
    · exact hs ⟨b, off, none⟩ ha

theorem down {w w' : World} (hb : Below w.heap.size w w') {p : Addr} {v : Value} (hc : w.cell? p = some v) : w'.cell? p = some v := (hb.cell (lt_of_cell hc)).trans hc
theorem downF {w w' : World} (hb : Below w.heap.size w w') {p : Addr} {v : Value} (hc : w.cell? p = some v) (hf : w.frozen? p = false) : w'.frozen? p = false := (hb.frozen (lt_of_cell hc)).trans hf

/-- a vectorWalk over the vector, its next search from x -/
structure WalkAt (w : World) (bw : Nat) (a : Option Addr) (n c : Nat) (x : Nat) : Prop where
  s : w.cell? ⟨bw, 0, none⟩ = some (.slice a n c)
  next : w.cell? ⟨bw, 1, none⟩ = some (.int .i64 x)
  free : w.frozen? ⟨bw, 1, none⟩ = false
  le : x ≤ n
theorem WalkAt.below {w w' : World} {bw : Nat} {a : Option Addr} {n c x : Nat} (h : WalkAt w bw a n c x) (hb : Below w.heap.size w w') : WalkAt w' bw a n c x :=
  ⟨down hb h.s, down hb h.next, downF hb h.next h.free, h.le⟩
theorem WalkAt.but {S : Nat → Prop} {w w' : World} {bw : Nat} {a : Option Addr} {n c x : Nat} (h : WalkAt w bw a n c x) (hb : But S w w') (hs : ¬ S bw) : WalkAt w' bw a n c x :=
  ⟨hb.cell h.s hs, hb.cell h.next hs, (hb.frozen h.next hs).trans h.free, h.le⟩
theorem WalkAt.put {w : World} {bw : Nat} {a : Option Addr} {n c x y : Nat} (h : WalkAt w bw a n c x) (hy : y ≤ n) : WalkAt (w.setCell ⟨bw, 1, none⟩ (.int .i64 y)) bw a n c y := by
  refine ⟨?_, ?_, ?_, hy⟩
  · rw [World.cell?_setCell_other _ _ _ _ (by simp)]; exact h.s
  · exact World.cell?_setCell_same _ _ _ h.next
  · rw [World.frozen?_setCell]; exact h.free

def hitB (n : Nat) (B : Nat → ByteArray) (x : Nat) (m : ByteArray) : Bool := decide (x < n) && ((B x).toList == m.toList)
def hitC (n : Nat) (B : Nat → ByteArray) (C : Nat → Int) (x : Nat) (m : ByteArray) : Int := if hitB n B x m = true then C x else 0

set_option maxHeartbeats 400000 in
theorem following_any (bw : Nat) (a : Option Addr) (n c x : Nat) (B : Nat → ByteArray) (C : Nat → Int) (m : ByteArray) (w : World) (hn : n ≤ 1073741824) (hw : WalkAt w bw a n c x) (hv : VecAt w a n B C) (hoff : ∀ y, a = some y → ¬ y.block = bw) :
    Calls Try.prog 43 #[.pointer (some ⟨bw, 0, none⟩), .string m] w fun e w' =>
      e = .returned (.tuple #[.int .u64 (hitC n B C x m), .bool (hitB n B x m)]) ∧ (∃ y, WalkAt w' bw a n c y) ∧ But (· = bw) w w' := by
  have hwk := hw
  obtain ⟨hs, hnx, hfr, hle⟩ := hw
  obtain ⟨b, off, ha, h0, h1⟩ := hv
  by_cases hlt : x < n
  · have g0 := h0 x hlt
    have hix := ixAt (c := c) Try.underlying33 sz66 ha x hlt
    have hlt' : (x : Int) < n := by omega
    cases hq : ((B x).toList == m.toList)
    · clear h0 h1 ha
      go_enter Try.func43, Try.ntmps43
      go_wp2
      go_ret2
      exact ⟨by simp [hitB, hitC, hq], ⟨x, hwk⟩, But.refl _ _⟩
    · have HP := hwk.put (y := x + 1) (by omega)
      have g1 := h1 x hlt
      have hne : ¬ b = bw := by
        rcases ha with ha | ha
        · omega
        · exact hoff _ ha
      have hne' : ¬ bw = b := fun h => hne h.symm
      clear h0 h1 ha hoff
      go_enter Try.func43, Try.ntmps43
      go_wp2
      go_ret2
      exact ⟨by simp [hitB, hitC, hlt, hq], ⟨x + 1, HP⟩, (But.refl (· = bw) w).setCell (p := ⟨bw, 1, none⟩) (Or.inl rfl) _⟩
  · have hd : decide ((x : Int) < n) = false := by simp; omega
    clear h0 h1 ha
    go_enter Try.func43, Try.ntmps43
    go_wp2
    go_ret2
    exact ⟨by simp [hitB, hitC, hlt], ⟨x, hwk⟩, But.refl _ _⟩
end Go.Proofs.Qxb6613110a
