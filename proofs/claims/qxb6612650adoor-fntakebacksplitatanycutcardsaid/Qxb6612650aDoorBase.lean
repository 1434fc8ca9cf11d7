import Derived.Test.Qxb6612650aDoorRows
import Derived.WalkKit
import Derived.WalkSpells
import Derived.WalkLawsBesides
import Derived.BigQuiet
import Derived.Lib.QuietBelow
import Derived.Conc.LoneCalls
import Derived.LaidEqlPtr
namespace Go.Proofs.Qxb6612650aDoor
open Go.RowKit

theorem ret_int {k : IntKind} {a b : Int} (h : a = b) : Ending.returned (.int k a) = .returned (.int k b) := by rw [h]
theorem ret_bool {a b : Bool} (h : a = b) : Ending.returned (.bool a) = .returned (.bool b) := by rw [h]
theorem lt_of_cell {w : World} {a : Addr} {v : Value} (h : w.cell? a = some v) : a.block < w.heap.size := World.block_lt_of_cell? w a h

/-- a Bool is returned; where it is true, p holds -/
def OkRes (e : Ending) (p : Prop) : Prop := ∃ r : Bool, e = .returned (.bool r) ∧ (r = true → p)
theorem okRes_no {p : Prop} : OkRes (.returned (.bool false)) p := ⟨false, rfl, fun h => absurd h (by simp)⟩
theorem okRes_yes {p : Prop} (h : p) : OkRes (.returned (.bool true)) p := ⟨true, rfl, fun _ => h⟩

/-- a []uint8 as it lies in memory -/
def BytesAt (w : World) (a : Option Addr) (n : Nat) (C : Nat → Int) : Prop :=
  ∃ b off, (n ≤ 0 ∨ a = some ⟨b, off, none⟩) ∧ ∀ i, i < n → w.cell? ⟨b, off + i, none⟩ = some (.int .u8 (C i))
theorem BytesAt.below {w w' : World} {a : Option Addr} {n : Nat} {C : Nat → Int} (h : BytesAt w a n C) (hb : Below w.heap.size w w') : BytesAt w' a n C := by
  obtain ⟨b, off, ha, h0⟩ := h
  exact ⟨b, off, ha, fun i hi => (hb.cell (lt_of_cell (h0 i hi))).trans (h0 i hi)⟩
/-- a []int as it lies in memory -/
def IntsAt (w : World) (a : Option Addr) (n : Nat) (U : Nat → Int) : Prop :=
  ∃ b off, (n ≤ 0 ∨ a = some ⟨b, off, none⟩) ∧ ∀ i, i < n → w.cell? ⟨b, off + i, none⟩ = some (.int .i64 (U i))
theorem IntsAt.below {w w' : World} {a : Option Addr} {n : Nat} {C : Nat → Int} (h : IntsAt w a n C) (hb : Below w.heap.size w w') : IntsAt w' a n C := by
  obtain ⟨b, off, ha, h0⟩ := h
  exact ⟨b, off, ha, fun i hi => (hb.cell (lt_of_cell (h0 i hi))).trans (h0 i hi)⟩

theorem sz5 (wx : World) : (sizeOf 5).run Tryd.prog wx = .ok 1 wx := by simp [go_sem]
theorem sz3 (wx : World) : (sizeOf 3).run Tryd.prog wx = .ok 1 wx := by simp [go_sem]
theorem sz4 (wx : World) : (sizeOf 4).run Tryd.prog wx = .ok 1 wx := by simp [go_sem]
theorem sz31 (wx : World) : (sizeOf 31).run Tryd.prog wx = .ok 1 wx := by simp [go_sem]
theorem sz32 (wx : World) : (sizeOf 32).run Tryd.prog wx = .ok 1 wx := by simp [go_sem]
/-- an element's address, whether the slice is nil or not (where it is, there is no element) -/
theorem ixAt {t e : TypeId} (ht : Tryd.prog.underlying t = some (.slice e)) (hs : ∀ wx, (sizeOf e).run Tryd.prog wx = .ok 1 wx) {a : Option Addr} {n c b off : Nat} (ha : n ≤ 0 ∨ a = some ⟨b, off, none⟩) (i : Int) (k : Nat) (hi : i = k) (hk : k < n) (wx : World) :
    (Instr.indexAt t (.slice a n c) (.int .i64 i)).run Tryd.prog wx = .ok (.pointer (some ⟨b, off + k, none⟩)) wx := by
  subst hi
  rcases ha with ha | rfl
  · omega
  · have he : Tryd.prog.elem t = e := by simp [Program.elem, ht]
    have := run_indexAt_slice (P := Tryd.prog) (w := wx) t ⟨b, off, none⟩ n c .i64 k (by rw [he]; exact ht)
    rw [this, if_pos (by omega), he, hs]
    simp [Addr.add]

/-- all blocks of w but those of S are as they were -/
structure But (S : Nat → Prop) (w w' : World) : Prop where
  os : w'.os = w.os
  tape : w'.tape = w.tape
  output : w'.output = w.output
  size : w.heap.size ≤ w'.heap.size
  block : ∀ k, k < w.heap.size → ¬ S k → w'.heap[k]? = w.heap[k]?

theorem But.refl (S : Nat → Prop) (w : World) : But S w w := ⟨rfl, rfl, rfl, Nat.le_refl _, fun _ _ _ => rfl⟩
theorem But.of_below {S : Nat → Prop} {w w' : World} (h : Below w.heap.size w w') : But S w w' := ⟨h.os, h.tape, h.output, h.size, fun k hk _ => h.block k hk⟩
theorem But.trans {S : Nat → Prop} {a b c : World} (h : But S a b) (k : But S b c) : But S a c :=
  ⟨k.os.trans h.os, k.tape.trans h.tape, k.output.trans h.output, Nat.le_trans h.size k.size, fun i hi hs => (k.block i (Nat.lt_of_lt_of_le hi h.size) hs).trans (h.block i hi hs)⟩
theorem But.mono {S S' : Nat → Prop} {w w' : World} (h : But S w w') (hS : ∀ k, k < w.heap.size → S k → S' k) : But S' w w' :=
  ⟨h.os, h.tape, h.output, h.size, fun k hk hs => h.block k hk (fun h' => hs (hS k hk h'))⟩
theorem But.setCell {S : Nat → Prop} {a w : World} (h : But S a w) {p : Addr} (hp : S p.block ∨ a.heap.size ≤ p.block) (u : Value) : But S a (w.setCell p u) :=
  ⟨h.os, h.tape, h.output, by simpa [World.setCell] using h.size, fun k hk hs => by
    rw [Below.heap_setCell _ _ _ _ (by rintro rfl; rcases hp with hp | hp <;> first | exact hs hp | omega)]; exact h.block k hk hs⟩
theorem But.alloc {S : Nat → Prop} {a w : World} (h : But S a w) (o : Obj) : But S a (w.alloc o) :=
  ⟨h.os, h.tape, h.output, by have := h.size; simp; omega, fun k hk hs => by rw [Below.heap_alloc _ _ _ (Nat.lt_of_lt_of_le hk h.size)]; exact h.block k hk hs⟩
theorem But.drewN {S : Nat → Prop} {a w : World} (h : But S a w) (n : Nat) : But S a (w.drewN n) := ⟨h.os, h.tape, h.output, h.size, h.block⟩
theorem But.drew {S : Nat → Prop} {a w : World} (h : But S a w) : But S a w.drew := ⟨h.os, h.tape, h.output, h.size, h.block⟩
theorem But.cell {S : Nat → Prop} {w w' : World} (h : But S w w') {p : Addr} {v : Value} (hc : w.cell? p = some v) (hp : ¬ S p.block) : w'.cell? p = some v :=
  (World.cell?_of_block (w := w) (h.block p.block (lt_of_cell hc) hp)).trans hc
theorem But.frozen {S : Nat → Prop} {w w' : World} (h : But S w w') {p : Addr} {v : Value} (hc : w.cell? p = some v) (hp : ¬ S p.block) : w'.frozen? p = w.frozen? p :=
  World.frozen?_of_block (w := w) (h.block p.block (lt_of_cell hc) hp)
/-- a But whose S lies behind the old blocks is a Below -/
theorem But.below {S : Nat → Prop} {w w' : World} (h : But S w w') (hS : ∀ k, k < w.heap.size → ¬ S k) : Below w.heap.size w w' := ⟨h.os, h.tape, h.output, h.size, fun k hk => h.block k hk (hS k hk)⟩
theorem down {w w' : World} (hb : Below w.heap.size w w') {p : Addr} {v : Value} (hc : w.cell? p = some v) : w'.cell? p = some v := (hb.cell (lt_of_cell hc)).trans hc
theorem downF {w w' : World} (hb : Below w.heap.size w w') {p : Addr} {v : Value} (hc : w.cell? p = some v) (hf : w.frozen? p = false) : w'.frozen? p = false := (hb.frozen (lt_of_cell hc)).trans hf

/-- a block of cells, none of them frozen -/
def Alive (w : World) (b : Nat) : Prop := ∃ cs ty, w.heap[b]? = some (.cells cs ty (0, 0))
theorem Alive.block {w w' : World} {b : Nat} (h : Alive w b) (e : w'.heap[b]? = w.heap[b]?) : Alive w' b := let ⟨cs, ty, h'⟩ := h; ⟨cs, ty, e.trans h'⟩
theorem Alive.lt {w : World} {b : Nat} (h : Alive w b) : b < w.heap.size := let ⟨_, _, h'⟩ := h; (Array.getElem?_eq_some_iff.1 h').1
theorem Alive.below {w w' : World} {b : Nat} (h : Alive w b) (hb : Below w.heap.size w w') : Alive w' b := h.block (hb.block b h.lt)
theorem Alive.setCell {w : World} {b : Nat} (h : Alive w b) (b' j : Nat) (u : Value) : Alive (w.setCell ⟨b', j, none⟩ u) b := by
  by_cases e : b' = b
  · subst e
    obtain ⟨cs, ty, h'⟩ := h
    exact ⟨_, ty, heap_setCell_same _ _ _ _ _ _ h'⟩
  · exact h.block (Below.heap_setCell _ _ _ _ (fun h => e h.symm))
/-- a cell that holds v and may be written -/
structure Cel (w : World) (p : Addr) (v : Value) : Prop where
  c : w.cell? p = some v
  f : w.frozen? p = false
  l : Alive w p.block
theorem Cel.lt {w : World} {p : Addr} {v : Value} (h : Cel w p v) : p.block < w.heap.size := lt_of_cell h.c
theorem Cel.below {w w' : World} {p : Addr} {v : Value} (h : Cel w p v) (hb : Below w.heap.size w w') : Cel w' p v := ⟨down hb h.c, downF hb h.c h.f, h.l.below hb⟩
theorem Cel.but {S : Nat → Prop} {w w' : World} {p : Addr} {v : Value} (h : Cel w p v) (hb : But S w w') (hp : ¬ S p.block) : Cel w' p v := ⟨hb.cell h.c hp, (hb.frozen h.c hp).trans h.f, h.l.block (hb.block _ h.lt hp)⟩
theorem Cel.same {w : World} {b j : Nat} {v : Value} (h : Cel w ⟨b, j, none⟩ v) (u : Value) : Cel (w.setCell ⟨b, j, none⟩ u) ⟨b, j, none⟩ u := ⟨World.cell?_setCell_same _ _ _ h.c, by rw [World.frozen?_setCell]; exact h.f, h.l.setCell _ _ _⟩
theorem Cel.other {w : World} {b j : Nat} {q : Addr} {v : Value} (h : Cel w q v) (u : Value) (hq : (⟨b, j, none⟩ : Addr) ≠ q) : Cel (w.setCell ⟨b, j, none⟩ u) q v := ⟨by rw [World.cell?_setCell_other _ _ _ _ hq]; exact h.c, by rw [World.frozen?_setCell]; exact h.f, h.l.setCell _ _ _⟩
theorem Cel.drewN {w : World} {p : Addr} {v : Value} (h : Cel w p v) (n : Nat) : Cel (w.drewN n) p v := ⟨h.c, h.f, h.l⟩
theorem Cel.drew {w : World} {p : Addr} {v : Value} (h : Cel w p v) : Cel w.drew p v := ⟨h.c, h.f, h.l⟩
theorem Cel.alloc {w : World} {p : Addr} {v : Value} (h : Cel w p v) (o : Obj) : Cel (w.alloc o) p v := h.below ((Below.refl _ _).alloc (Nat.le_refl _) o)
theorem cel_of_heap {w : World} {b j : Nat} {cs : Array Value} {e : TypeId} {v : Value} (h1 : w.heap[b]? = some (.cells cs e (0, 0))) (h2 : cs[j]? = some v) : Cel w ⟨b, j, none⟩ v :=
  ⟨by unfold World.cell?; rw [h1]; exact h2, by simp [World.frozen?, h1], ⟨cs, e, h1⟩⟩
/-- a block just made -/
theorem cel_new (w : World) (cs : Array Value) (e : TypeId) (j : Nat) (v : Value) (h : cs[j]? = some v) : Cel (w.alloc (.cells cs e)) ⟨w.heap.size, j, none⟩ v :=
  cel_of_heap (MapKept.heap_alloc w (.cells cs e)).1 h

/-- a pointer that is nil or leads to the head of a block of ours -/
def Liv (w : World) (p : Option Addr) : Prop := p = none ∨ ∃ b, p = some ⟨b, 0, none⟩ ∧ Alive w b
theorem Liv.below {w w' : World} {p : Option Addr} (h : Liv w p) (hb : Below w.heap.size w w') : Liv w' p := h.imp id fun ⟨b, h1, h2⟩ => ⟨b, h1, h2.below hb⟩
theorem eql_ptr {tp te : TypeId} {j : TypeInfo} (hp : Tryd.prog.underlying tp = some (.pointer te)) (hte : Tryd.prog.info? te = some j) (hsz : j.size ≠ 0) {w : World} {p q : Option Addr} (h1 : Liv w p) (h2 : Liv w q) :
    (binOp .eql tp (.pointer p) (.pointer q)).run Tryd.prog w = .ok (.bool (p == q)) w := by
  have hpt : Tryd.prog.underlying tp = some (.pointer (Tryd.prog.pointee tp)) := by simp [Program.pointee, hp]
  rcases h2 with rfl | ⟨b2, rfl, ⟨c2, t2, g2⟩⟩
  · rw [run_eql_pointer_nil _ tp p hpt]
    cases p <;> rfl
  · rcases h1 with rfl | ⟨b1, rfl, ⟨c1, t1, g1⟩⟩
    · have h : ∀ d : Nat, (Op.equalIn (d + 1) tp (.pointer none) (.pointer (some ⟨b2, 0, none⟩))).run Tryd.prog w = .ok false w := fun d => by
        simp [Op.equalIn, run_underlying hp]
      simp only [binOp]
      simp [Op.equal, Op.maxDepth, h 9999]
    · by_cases e : b1 = b2
      · subst e
        rw [run_eql_ptr_same w _ hp hte]
        simp
      · rw [run_eql_ptr_other w hp hte hsz (by intro h; injection h with h; exact e h) g1 g2]
        have : ((some ⟨b1, 0, none⟩ : Option Addr) == some ⟨b2, 0, none⟩) = false := by simp
        rw [this]
theorem Tryd.info66 : (Tryd.prog.info? 66).map (fun i => i.size) = some 6 := by kernel_rfl
theorem Tryd.info63 : (Tryd.prog.info? 63).map (fun i => i.size) = some 21 := by kernel_rfl
theorem eql31 {w : World} {p q : Option Addr} (h1 : Liv w p) (h2 : Liv w q) : (binOp .eql 31 (.pointer p) (.pointer q)).run Tryd.prog w = .ok (.bool (p == q)) w := by
  obtain ⟨j, hj, hs⟩ := Option.map_eq_some_iff.1 Tryd.info66
  exact eql_ptr Tryd.underlying31 hj (by rw [hs]; decide) h1 h2
theorem eql32 {w : World} {p q : Option Addr} (h1 : Liv w p) (h2 : Liv w q) : (binOp .eql 32 (.pointer p) (.pointer q)).run Tryd.prog w = .ok (.bool (p == q)) w := by
  obtain ⟨j, hj, hs⟩ := Option.map_eq_some_iff.1 Tryd.info63
  exact eql_ptr Tryd.underlying32 hj (by rw [hs]; decide) h1 h2

/-! the state that tbBuild makes, by roles: 1 is s, 2 is t, another number is nil -/
structure TB where
  n : Nat
  s : Nat
  t : Nat
  g : Nat
  h : Option Nat
  o : Nat → Nat
  x : Nat
  y : Nat
def TB.blocks (B : TB) : List Nat := [B.n, B.s, B.t, B.g, B.o 0, B.o 1, B.x, B.y]
def TB.ptr (B : TB) (k : Nat) : Option Addr := if k = 1 then some ⟨B.s, 0, none⟩ else if k = 2 then some ⟨B.t, 0, none⟩ else none
def TB.hp (B : TB) : Option Addr := B.h.map fun b => ⟨b, 0, none⟩
structure AS where
  c : Nat → Nat → Nat
  F : Nat → Int
  H : Nat → Int
  T : Nat → Int
  W : Bool
  sW : Bool
  gOn : Bool
  hOn : Bool
  sOn : Bool
  tOn : Bool

/-- the cells of a slice that holds p (where b1) and then q (where b2) -/
structure Two (w : World) (blk : Nat) (b1 b2 : Bool) (p q : Option Addr) : Prop where
  one : b1 = true → Cel w ⟨blk, 0, none⟩ (.pointer p)
  two : b2 = true → Cel w ⟨blk, b1.toNat, none⟩ (.pointer q)
theorem Two.below {w w' : World} {blk : Nat} {b1 b2 : Bool} {p q : Option Addr} (h : Two w blk b1 b2 p q) (hb : Below w.heap.size w w') : Two w' blk b1 b2 p q := ⟨fun e => (h.one e).below hb, fun e => (h.two e).below hb⟩
theorem Two.but {S : Nat → Prop} {w w' : World} {blk : Nat} {b1 b2 : Bool} {p q : Option Addr} (h : Two w blk b1 b2 p q) (hb : But S w w') (hs : ¬ S blk) : Two w' blk b1 b2 p q := ⟨fun e => (h.one e).but hb hs, fun e => (h.two e).but hb hs⟩

structure StAt (w : World) (B : TB) (N : Nat → Nat) (A : AS) : Prop where
  dis : B.blocks.Nodup
  al : ∀ k, k ∈ B.blocks → Alive w k
  hg : B.h ≠ some B.g
  hn : A.hOn = true → B.h ≠ none
  lh : ∀ b, B.h = some b → Alive w b
  own : ∀ r, r < 2 → Cel w ⟨B.g, 16 + r, none⟩ (.slice (some ⟨B.o r, 0, none⟩) (N r) (N r))
  cells : ∀ r, r < 2 → ∀ i, i < N r → Cel w ⟨B.o r, i, none⟩ (.pointer (B.ptr (A.c r i)))
  free : ∀ r, r < 2 → Cel w ⟨B.g, 18 + r, none⟩ (.int .i64 (A.F r))
  whole : Cel w ⟨B.g, 20, none⟩ (.bool A.W)
  sw : Cel w ⟨B.s, 0, none⟩ (.bool A.sW)
  held : ∀ r, r < 2 → Cel w ⟨B.s, 2 + r, none⟩ (.int .i64 (A.H r))
  theld : ∀ r, r < 2 → Cel w ⟨B.t, 2 + r, none⟩ (.int .i64 (A.T r))
  gpus : ∃ cap, A.gOn.toNat + A.hOn.toNat ≤ cap ∧ Cel w ⟨B.s, 1, none⟩ (.slice (some ⟨B.x, 0, none⟩) (A.gOn.toNat + A.hOn.toNat) cap)
  xs : Two w B.x A.gOn A.hOn (some ⟨B.g, 0, none⟩) B.hp
  grants : ∃ cap, A.sOn.toNat + A.tOn.toNat ≤ cap ∧ Cel w ⟨B.n, 6, none⟩ (.slice (some ⟨B.y, 0, none⟩) (A.sOn.toNat + A.tOn.toNat) cap)
  ys : Two w B.y A.sOn A.tOn (some ⟨B.s, 0, none⟩) (some ⟨B.t, 0, none⟩)

/-- every cell of the state's blocks is as it was: so is the state -/
theorem StAt.lift {w w' : World} {B : TB} {N : Nat → Nat} {A : AS} (h : StAt w B N A) (hc : ∀ p v, p.block ∈ B.blocks → Cel w p v → Cel w' p v) (ha : ∀ b, b ∈ B.blocks ∨ B.h = some b → Alive w b → Alive w' b) : StAt w' B N A where
  dis := h.dis
  al := fun k hk => ha k (Or.inl hk) (h.al k hk)
  hg := h.hg
  hn := h.hn
  lh := fun b e => ha b (Or.inr e) (h.lh b e)
  own := fun r hr => hc _ _ (by simp [TB.blocks]) (h.own r hr)
  cells := fun r hr i hi => hc _ _ (by rcases (by omega : r = 0 ∨ r = 1) with rfl | rfl <;> simp [TB.blocks]) (h.cells r hr i hi)
  free := fun r hr => hc _ _ (by simp [TB.blocks]) (h.free r hr)
  whole := hc _ _ (by simp [TB.blocks]) h.whole
  sw := hc _ _ (by simp [TB.blocks]) h.sw
  held := fun r hr => hc _ _ (by simp [TB.blocks]) (h.held r hr)
  theld := fun r hr => hc _ _ (by simp [TB.blocks]) (h.theld r hr)
  gpus := let ⟨cap, h1, h2⟩ := h.gpus; ⟨cap, h1, hc _ _ (by simp [TB.blocks]) h2⟩
  xs := ⟨fun e => hc _ _ (by simp [TB.blocks]) (h.xs.one e), fun e => hc _ _ (by simp [TB.blocks]) (h.xs.two e)⟩
  grants := let ⟨cap, h1, h2⟩ := h.grants; ⟨cap, h1, hc _ _ (by simp [TB.blocks]) h2⟩
  ys := ⟨fun e => hc _ _ (by simp [TB.blocks]) (h.ys.one e), fun e => hc _ _ (by simp [TB.blocks]) (h.ys.two e)⟩
theorem StAt.lo {w : World} {B : TB} {N : Nat → Nat} {A : AS} (h : StAt w B N A) : ∀ k, k ∈ B.blocks → k < w.heap.size := fun k hk => (h.al k hk).lt
theorem StAt.below {w w' : World} {B : TB} {N : Nat → Nat} {A : AS} (h : StAt w B N A) (hb : Below w.heap.size w w') : StAt w' B N A := h.lift (fun _ _ _ hc => hc.below hb) fun _ _ ha => ha.below hb

/-- what takeBack may turn: the blocks of L, and the channel ch -/
def Fr (L : List Nat) (ch : Nat) (w : World) (k : Nat) : Prop := k ∈ L ∨ (k = ch ∧ ∃ a b c d e f, w.heap[k]? = some (.chan a b c d e f))
theorem Cel.frame {L : List Nat} {ch : Nat} {w w' : World} {p : Addr} {v : Value} (h : Cel w p v) (hb : But (Fr L ch w) w w') (hp : p.block ∉ L) : Cel w' p v := h.but hb (by
  rintro (h' | ⟨_, a, b, c, d, e, f, h'⟩)
  · exact hp h'
  · have := h.c
    unfold World.cell? at this
    rw [h'] at this
    exact absurd this (by simp))
theorem Alive.frame {L : List Nat} {ch : Nat} {w w' : World} {b : Nat} (h : Alive w b) (hb : But (Fr L ch w) w w') (hp : b ∉ L) : Alive w' b := h.block (hb.block b h.lt (by
  rintro (h' | ⟨_, x1, x2, x3, x4, x5, x6, h'⟩)
  · exact hp h'
  · obtain ⟨cs, ty, h2⟩ := h
    rw [h'] at h2
    exact absurd h2 (by simp)))
theorem StAt.frame {L : List Nat} {ch : Nat} {w w' : World} {B : TB} {N : Nat → Nat} {A : AS} (h : StAt w B N A) (hb : But (Fr L ch w) w w') (hL : ∀ k, k ∈ B.blocks ∨ B.h = some k → k ∉ L) : StAt w' B N A := h.lift (fun p _ hp hc => hc.frame hb (hL p.block (Or.inl hp))) fun b e ha => ha.frame hb (hL b e)

/-- the node's channel is open -/
structure ChanAt (w : World) (n ch : Nat) : Prop where
  c : Cel w ⟨n, 10, none⟩ (.chan (some ch))
  o : w.heap[ch]? = some (.chan 0 #[] false 0 0 false)
theorem heap_lt {w : World} {k : Nat} {o : Obj} (h : w.heap[k]? = some o) : k < w.heap.size := (Array.getElem?_eq_some_iff.1 h).1
theorem ChanAt.below {w w' : World} {n ch : Nat} (h : ChanAt w n ch) (hb : Below w.heap.size w w') : ChanAt w' n ch := ⟨h.c.below hb, (hb.block ch (heap_lt h.o)).trans h.o⟩
theorem heap_setCell_chan {w : World} {ch b j : Nat} {u : Value} {x1 : Nat} {x2 : Array Value} {x3 : Bool} {x4 x5 : Nat} {x6 : Bool} (h : w.heap[ch]? = some (.chan x1 x2 x3 x4 x5 x6)) : (w.setCell ⟨b, j, none⟩ u).heap[ch]? = some (.chan x1 x2 x3 x4 x5 x6) := by
  simp only [World.setCell, Array.getElem?_modify, h]
  split <;> simp
theorem ChanAt.setCell {w : World} {n ch : Nat} (h : ChanAt w n ch) {b j : Nat} (u : Value) (hne : (⟨b, j, none⟩ : Addr) ≠ ⟨n, 10, none⟩) : ChanAt (w.setCell ⟨b, j, none⟩ u) n ch := ⟨h.c.other _ hne, heap_setCell_chan h.o⟩
theorem ChanAt.drew {w : World} {n ch : Nat} (h : ChanAt w n ch) : ChanAt w.drew n ch := ⟨h.c.drew, h.o⟩
/-- a block of cells is turned: no channel is -/
theorem ChanAt.keep {w w' : World} {n ch x : Nat} (h : ChanAt w n ch) (hb : But (· = x) w w') (ha : Alive w x) (hn : n ≠ x) : ChanAt w' n ch :=
  ⟨h.c.but hb hn, (hb.block ch (heap_lt h.o) (by
    rintro rfl
    obtain ⟨cs, ty, h'⟩ := ha
    rw [h.o] at h'
    exact absurd h' (by simp))).trans h.o⟩
/-- another node's channel is turned -/
theorem ChanAt.frame {L : List Nat} {w w' : World} {n ch ch' : Nat} (h : ChanAt w n ch) (hb : But (Fr L ch' w) w w') (hn : n ∉ L) (hL : ch ∉ L) (hc : ch ≠ ch') : ChanAt w' n ch :=
  ⟨h.c.frame hb hn, (hb.block ch (heap_lt h.o) (by
    rintro (h' | ⟨h', _⟩)
    · exact hL h'
    · exact hc h')).trans h.o⟩
/-- the node's channel is open: the old one, or a new one -/
def ChanLater (w w' : World) (n ch : Nat) : Prop := ∃ ch', ChanAt w' n ch' ∧ (ch' = ch ∨ w.heap.size ≤ ch')
/-- the resources' table -/
structure Glob (w : World) : Prop where
  a : w.cell? ⟨0, 0, none⟩ = some (.int .i64 0)
  b : w.cell? ⟨0, 1, none⟩ = some (.int .i64 1)
theorem Glob.below {w w' : World} (h : Glob w) (hb : Below w.heap.size w w') : Glob w' := ⟨down hb h.a, down hb h.b⟩

/-- how many i below n have p -/
def cnt (p : Nat → Bool) : Nat → Nat
  | 0 => 0
  | k + 1 => cnt p k + (p k).toNat
theorem cnt_le (p : Nat → Bool) (n : Nat) : cnt p n ≤ n := by
  induction n with
  | zero => exact Nat.le_refl _
  | succ k ih => unfold cnt; cases p k <;> simp <;> omega
theorem cnt_step (p : Nat → Bool) (k : Nat) (h : p k = true) : cnt p (k + 1) = cnt p k + 1 := by simp [cnt, h]
theorem cnt_stay (p : Nat → Bool) (k : Nat) (h : p k = false) : cnt p (k + 1) = cnt p k := by simp [cnt, h]
def is1 (C : Nat → Int) (i : Nat) : Bool := C i == 1
def is2 (C : Nat → Int) (i : Nat) : Bool := C i == 2
def is3 (C : Nat → Int) (i : Nat) : Bool := !(C i == 1) && !(C i == 2)
end Go.Proofs.Qxb6612650aDoor
