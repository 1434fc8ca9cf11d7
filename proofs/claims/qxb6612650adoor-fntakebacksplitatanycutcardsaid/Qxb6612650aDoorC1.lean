import Derived.Test.Qxb6612650aDoorB
import Derived.Deep.RegionHeld3
namespace Go.Proofs.Qxb6612650aDoor
open Go.RowKit

def pick2 {α : Type} (x y : α) (r : Nat) : α := if r = 0 then x else y
def startA (n0 n1 : Nat) (C0 C1 : Nat → Int) (sW aO : Bool) : AS :=
  { c := fun r i => rl (pick2 C0 C1 r i), F := fun r => pick2 (cnt (is3 C0) n0 : Int) (cnt (is3 C1) n1 : Int) r, H := fun r => pick2 ((cnt (is1 C0) n0 : Int) + aO.toNat) (cnt (is1 C1) n1 : Int) r,
    T := fun r => pick2 (cnt (is2 C0) n0 : Int) (cnt (is2 C1) n1 : Int) r, W := sW, sW := sW, gOn := true, hOn := aO, sOn := true, tOn := decide (0 < cnt (is2 C0) n0 + cnt (is2 C1) n1) }
/-- what tbBuild hands back -/
def BuildRes (n0 n1 : Nat) (C0 C1 : Nat → Int) (sW aO : Bool) (w : World) (e : Ending) (w' : World) : Prop :=
  ∃ B : TB, e = .returned (.agg #[.pointer (some ⟨B.n, 0, none⟩), .pointer (some ⟨B.s, 0, none⟩), .pointer (some ⟨B.t, 0, none⟩), .pointer (some ⟨B.g, 0, none⟩), .pointer B.hp]) ∧
    StAt w' B (pick2 n0 n1) (startA n0 n1 C0 C1 sW aO) ∧ (∃ ch, ChanAt w' B.n ch ∧ w.heap.size ≤ ch ∧ ch ∉ B.blocks) ∧ (∀ k, k ∈ B.blocks ∨ B.h = some k → w.heap.size ≤ k) ∧ (∀ b, B.h = some b → b ∉ B.blocks) ∧ Below w.heap.size w w'

/-- the blocks of a tbBuild under way -/
structure SD where
  bs : Nat
  bt : Nat
  o0 : Nat
  o1 : Nat
  g : Nat
  n0 : Nat
  n1 : Nat
  P0 : Nat → Option Addr
  P1 : Nat → Option Addr
  sW : Bool
  h0 : Int
  h1 : Int
  t0 : Int
  t1 : Int
  f0 : Int
  f1 : Int
/-- .. and what they hold -/
structure Stage (w W : World) (d : SD) (n h : Option Addr) (vS vT : Value) : Prop where
  T : TmpAt W (w.heap.size + 1) n (some ⟨d.bs, 0, none⟩) (some ⟨d.bt, 0, none⟩) (some ⟨d.g, 0, none⟩) h
  R : TmpAt W w.heap.size none none none none none
  S : GrantAt W d.bs d.sW vS d.h0 d.h1
  U : GrantAt W d.bt false vT d.t0 d.t1
  G : GpuAt W d.g (.slice (some ⟨d.o0, 0, none⟩) d.n0 d.n0) (.slice (some ⟨d.o1, 0, none⟩) d.n1 d.n1) d.f0 d.f1 d.sW
  O0 : OwnAt W d.o0 d.n0 d.P0
  O1 : OwnAt W d.o1 d.n1 d.P1
  B : Below w.heap.size w W
  q0 : w.heap.size + 1 < d.bs
  q1 : d.bs < d.bt
  q2 : d.bt < d.o0
  q3 : d.o0 < d.o1
  q4 : d.o1 < d.g
  q5 : d.g < W.heap.size
section
variable {w W W' : World} {d : SD} {n h : Option Addr} {vS vT : Value}
theorem Stage.below (H : Stage w W d n h vS vT) (hb : Below W.heap.size W W') : Stage w W' d n h vS vT :=
  ⟨H.T.below hb, H.R.below hb, H.S.below hb, H.U.below hb, H.G.below hb, H.O0.below hb, H.O1.below hb, H.B.trans (hb.mono H.B.size), H.q0, H.q1, H.q2, H.q3, H.q4, Nat.lt_of_lt_of_le H.q5 hb.size⟩
theorem Stage.alloc (H : Stage w W d n h vS vT) (o : Obj) : Stage w (W.alloc o) d n h vS vT := H.below ((Below.refl _ _).alloc (Nat.le_refl _) o)
theorem Stage.setH (H : Stage w W d n h vS vT) (u : Option Addr) : Stage w (W.setCell ⟨w.heap.size + 1, 4, none⟩ (.pointer u)) d n u vS vT := by
  have := H.q0; have := H.q1; have := H.q2; have := H.q3; have := H.q4
  exact ⟨H.T.set4 _, H.R.other _ (by omega), H.S.other _ (by omega), H.U.other _ (by omega), H.G.other _ (by omega), H.O0.other _ (by omega), H.O1.other _ (by omega), H.B.setCell (by simp) _, H.q0, H.q1, H.q2, H.q3, H.q4, by simpa [World.setCell] using H.q5⟩
theorem Stage.setN (H : Stage w W d n h vS vT) (u : Option Addr) : Stage w (W.setCell ⟨w.heap.size + 1, 0, none⟩ (.pointer u)) d u h vS vT := by
  have := H.q0; have := H.q1; have := H.q2; have := H.q3; have := H.q4
  exact ⟨H.T.set0 _, H.R.other _ (by omega), H.S.other _ (by omega), H.U.other _ (by omega), H.G.other _ (by omega), H.O0.other _ (by omega), H.O1.other _ (by omega), H.B.setCell (by simp) _, H.q0, H.q1, H.q2, H.q3, H.q4, by simpa [World.setCell] using H.q5⟩
theorem Stage.setS (H : Stage w W d n h vS vT) (u : Value) : Stage w (W.setCell ⟨d.bs, 1, none⟩ u) d n h u vT := by
  have := H.q0; have := H.q1; have := H.q2; have := H.q3; have := H.q4
  exact ⟨H.T.other _ (by omega), H.R.other _ (by omega), H.S.put _, H.U.other _ (by omega), H.G.other _ (by omega), H.O0.other _ (by omega), H.O1.other _ (by omega), H.B.setCell (p := ⟨d.bs, 1, none⟩) (by simp; omega) _, H.q0, H.q1, H.q2, H.q3, H.q4, by simpa [World.setCell] using H.q5⟩
theorem Stage.setT (H : Stage w W d n h vS vT) (u : Value) : Stage w (W.setCell ⟨d.bt, 1, none⟩ u) d n h vS u := by
  have := H.q0; have := H.q1; have := H.q2; have := H.q3; have := H.q4
  exact ⟨H.T.other _ (by omega), H.R.other _ (by omega), H.S.other _ (by omega), H.U.put _, H.G.other _ (by omega), H.O0.other _ (by omega), H.O1.other _ (by omega), H.B.setCell (p := ⟨d.bt, 1, none⟩) (by simp; omega) _, H.q0, H.q1, H.q2, H.q3, H.q4, by simpa [World.setCell] using H.q5⟩
end

theorem ptr_own (B : TB) (x : Int) : ownP (some ⟨B.s, 0, none⟩) (some ⟨B.t, 0, none⟩) x = B.ptr (rl x) := by
  unfold ownP rl TB.ptr
  by_cases h1 : x = 1
  · simp [h1]
  · by_cases h2 : x = 2
    · simp [h2]
    · simp [h1, h2]

/-- the state as tbBuild has made it -/
theorem finish {w W Wf : World} {n0 n1 : Nat} {C0 C1 : Nat → Int} {sW aO tO : Bool} {bs bt o0 o1 g x y n cx cy ch : Nat} {hb : Option Nat} {vT : Value} {s0 s1 t0 t1 f0 f1 : Nat}
    (EQ : s0 = cnt (is1 C0) n0 ∧ s1 = cnt (is1 C1) n1 ∧ t0 = cnt (is2 C0) n0 ∧ t1 = cnt (is2 C1) n1 ∧ f0 = cnt (is3 C0) n0 ∧ f1 = cnt (is3 C1) n1) (htO : tO = decide (0 < t0 + t1))
    (ST : Stage w W ⟨bs, bt, o0, o1, g, n0, n1, fun i => ownP (some ⟨bs, 0, none⟩) (some ⟨bt, 0, none⟩) (C0 i), fun i => ownP (some ⟨bs, 0, none⟩) (some ⟨bt, 0, none⟩) (C1 i), sW, (s0 : Int) + aO.toNat, s1, t0, t1, f0, f1⟩ (some ⟨n, 0, none⟩) (hb.map fun b => ⟨b, 0, none⟩) (.slice (some ⟨x, 0, none⟩) (1 + aO.toNat) cx) vT)
    (XT : Two W x true aO (some ⟨g, 0, none⟩) (hb.map fun b => ⟨b, 0, none⟩)) (YT : Two W y true tO (some ⟨bs, 0, none⟩) (some ⟨bt, 0, none⟩)) (N6 : Cel W ⟨n, 6, none⟩ (.slice (some ⟨y, 0, none⟩) (1 + tO.toNat) cy)) (NC : ChanAt W n ch) (hch : y < ch ∧ ch < n)
    (hcx : 1 + aO.toNat ≤ cx) (hcy : 1 + tO.toNat ≤ cy) (q1 : g < x) (q2 : x < y) (q3 : y < n) (hh : ∀ b, hb = some b → g < b ∧ b < x ∧ Alive W b) (hn : aO = true → hb ≠ none)
    (five : ∀ p v, p.block ≠ w.heap.size → Cel W p v → Cel Wf p v) (fiveA : ∀ b, Alive W b → Alive Wf b) (fiveC : ∀ k c, k ≠ w.heap.size → ChanAt W k c → ChanAt Wf k c) (BB : Below w.heap.size w Wf) :
    BuildRes n0 n1 C0 C1 sW aO w (.returned (.agg #[.pointer (some ⟨n, 0, none⟩), .pointer (some ⟨bs, 0, none⟩), .pointer (some ⟨bt, 0, none⟩), .pointer (some ⟨g, 0, none⟩), .pointer (hb.map fun b => ⟨b, 0, none⟩)])) Wf := by
  obtain ⟨e1, e2, e3, e4, e5, e6⟩ := EQ
  have r0 := ST.q0
  have r1 := ST.q1
  have r2 := ST.q2
  have r3 := ST.q3
  have r4 := ST.q4
  simp only at r0 r1 r2 r3 r4
  have hmem : ∀ k, k ∈ (TB.blocks ⟨n, bs, bt, g, hb, pick2 o0 o1, x, y⟩) → w.heap.size + 1 < k ∧ (k ≤ g ∨ x ≤ k) := by
    intro k hk
    simp only [TB.blocks, pick2, List.mem_cons, List.not_mem_nil, or_false] at hk
    rcases hk with rfl | rfl | rfl | rfl | rfl | rfl | rfl | rfl <;> (try simp) <;> omega
  refine ⟨⟨n, bs, bt, g, hb, pick2 o0 o1, x, y⟩, rfl, ?_, ⟨ch, fiveC _ _ (by simp only; omega) NC, by omega, fun hk => ?_⟩, ?_, ?_, BB⟩
  rotate_left
  · simp only [TB.blocks, pick2, List.mem_cons, List.not_mem_nil, or_false] at hk
    rcases hk with rfl | rfl | rfl | rfl | rfl | rfl | rfl | rfl <;> (try simp at hch) <;> omega
  rotate_right
  · exact
    { dis := by simp [TB.blocks, pick2]; omega
      al := fun k hk => by
        simp only [TB.blocks, pick2, List.mem_cons, List.not_mem_nil, or_false] at hk
        rcases hk with rfl | rfl | rfl | rfl | rfl | rfl | rfl | rfl
        · exact fiveA _ N6.l
        · exact fiveA _ ST.S.wh.l
        · exact fiveA _ ST.U.wh.l
        · exact fiveA _ ST.G.wh.l
        · exact fiveA _ ST.O0.l
        · exact fiveA _ ST.O1.l
        · exact fiveA _ (XT.one rfl).l
        · exact fiveA _ (YT.one rfl).l
      hg := fun e => by have := (hh _ e).1; simp only at this; omega
      hn := fun e => hn e
      lh := fun b e => fiveA _ (hh b e).2.2
      own := fun r hr => by
        rcases (by omega : r = 0 ∨ r = 1) with rfl | rfl
        · exact five _ _ (by simp only; omega) ST.G.v0
        · exact five _ _ (by simp only; omega) ST.G.v1
      cells := fun r hr i hi => by
        rcases (by omega : r = 0 ∨ r = 1) with rfl | rfl
        · have := ST.O0.c i hi
          simp only at this
          rw [ptr_own ⟨n, bs, bt, g, hb, pick2 o0 o1, x, y⟩] at this
          exact five _ _ (by simp only; show o0 ≠ _; omega) this
        · have := ST.O1.c i hi
          simp only at this
          rw [ptr_own ⟨n, bs, bt, g, hb, pick2 o0 o1, x, y⟩] at this
          exact five _ _ (by simp only; show o1 ≠ _; omega) this
      free := fun r hr => by
        rcases (by omega : r = 0 ∨ r = 1) with rfl | rfl
        · have := five _ _ (by simp only; omega) ST.G.f0
          simp only [e5] at this
          exact this
        · have := five _ _ (by simp only; omega) ST.G.f1
          simp only [e6] at this
          exact this
      whole := five _ _ (by simp only; omega) ST.G.wh
      sw := five _ _ (by simp only; omega) ST.S.wh
      held := fun r hr => by
        rcases (by omega : r = 0 ∨ r = 1) with rfl | rfl
        · have := five _ _ (by simp only; omega) ST.S.h0
          simp only [e1] at this
          exact this
        · have := five _ _ (by simp only; omega) ST.S.h1
          simp only [e2] at this
          exact this
      theld := fun r hr => by
        rcases (by omega : r = 0 ∨ r = 1) with rfl | rfl
        · have := five _ _ (by simp only; omega) ST.U.h0
          simp only [e3] at this
          exact this
        · have := five _ _ (by simp only; omega) ST.U.h1
          simp only [e4] at this
          exact this
      gpus := ⟨cx, hcx, five _ _ (by simp only; omega) ST.S.gp⟩
      xs := ⟨fun e => five _ _ (by simp only; omega) (XT.one e), fun e => five _ _ (by simp only; omega) (XT.two e)⟩
      grants := ⟨cy, by subst htO; rw [e3, e4] at hcy; exact hcy, by subst htO; rw [e3, e4] at N6; exact five _ _ (by simp only; omega) N6⟩
      ys := by subst htO; rw [e3, e4] at YT; exact ⟨fun e => five _ _ (by simp only; omega) (YT.one e), fun e => five _ _ (by simp only; omega) (YT.two e)⟩ }
  · rintro k (hk | hk)
    · have := (hmem k hk).1; omega
    · have := (hh k hk).1; omega
  · intro b hb' hk
    have h1 := hh b hb'
    have h2 := (hmem b hk).2
    omega

end Go.Proofs.Qxb6612650aDoor
