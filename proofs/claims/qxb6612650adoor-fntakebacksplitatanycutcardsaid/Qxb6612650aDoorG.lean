import Derived.Test.Qxb6612650aDoorA
import Derived.Test.Qxb6612650aDoorE
import Derived.Test.Qxb6612650aDoorF
namespace Go.Proofs.Qxb6612650aDoor
open Go.RowKit

structure Apt (B : TB) : Prop where
  ns : B.n ≠ B.s
  nt : B.n ≠ B.t
  ng : B.n ≠ B.g
  nx : B.n ≠ B.x
  ny : B.n ≠ B.y
  st : B.s ≠ B.t
  sg : B.s ≠ B.g
  sx : B.s ≠ B.x
  sy : B.s ≠ B.y
  tg : B.t ≠ B.g
  tx : B.t ≠ B.x
  ty : B.t ≠ B.y
  gx : B.g ≠ B.x
  gy : B.g ≠ B.y
  xy : B.x ≠ B.y
  on : ∀ r, r < 2 → B.o r ≠ B.n
  os : ∀ r, r < 2 → B.o r ≠ B.s
  ot : ∀ r, r < 2 → B.o r ≠ B.t
  og : ∀ r, r < 2 → B.o r ≠ B.g
  ox : ∀ r, r < 2 → B.o r ≠ B.x
  oy : ∀ r, r < 2 → B.o r ≠ B.y
  oo : ∀ r q, r < 2 → q < 2 → r ≠ q → B.o r ≠ B.o q
theorem ne_of {B : TB} (h : B.blocks.Nodup) : Apt B := by
  simp only [TB.blocks, List.nodup_cons, List.mem_cons, List.not_mem_nil, or_false, not_or, List.nodup_nil, and_true, not_false_eq_true] at h
  obtain ⟨⟨a1, a2, a3, a4, a5, a6, a7⟩, ⟨b1, b2, b3, b4, b5, b6⟩, ⟨c1, c2, c3, c4, c5⟩, ⟨d1, d2, d3, d4⟩, ⟨e1, e2, e3⟩, ⟨f1, f2⟩, g1⟩ := h

  exact ⟨a1, a2, a3, a6, a7, b1, b2, b5, b6, c1, c4, c5, d3, d4, g1,
    fun r hr => (by omega : r = 0 ∨ r = 1).elim (fun e h => a4 (by rw [e] at h; exact h.symm)) (fun e h => a5 (by rw [e] at h; exact h.symm)),
    fun r hr => (by omega : r = 0 ∨ r = 1).elim (fun e h => b3 (by rw [e] at h; exact h.symm)) (fun e h => b4 (by rw [e] at h; exact h.symm)),
    fun r hr => (by omega : r = 0 ∨ r = 1).elim (fun e h => c2 (by rw [e] at h; exact h.symm)) (fun e h => c3 (by rw [e] at h; exact h.symm)),
    fun r hr => (by omega : r = 0 ∨ r = 1).elim (fun e h => d1 (by rw [e] at h; exact h.symm)) (fun e h => d2 (by rw [e] at h; exact h.symm)),
    fun r hr => (by omega : r = 0 ∨ r = 1).elim (fun e h => e2 (by rw [e] at h; exact h)) (fun e h => f1 (by rw [e] at h; exact h)),
    fun r hr => (by omega : r = 0 ∨ r = 1).elim (fun e h => e3 (by rw [e] at h; exact h)) (fun e h => f2 (by rw [e] at h; exact h)),
    fun r q hr hq hrq => (by omega : (r = 0 ∧ q = 1) ∨ (r = 1 ∧ q = 0)).elim (fun ⟨e, e'⟩ h => e1 (by rw [e, e'] at h; exact h)) (fun ⟨e, e'⟩ h => e1 (by rw [e, e'] at h; exact h.symm))⟩
theorem blk_ne {b b' j j' : Nat} (h : b ≠ b') : (⟨b, j, none⟩ : Addr) ≠ ⟨b', j', none⟩ := fun e => h (congrArg Addr.block e)
theorem off_ne {b b' j j' : Nat} (h : j ≠ j') : (⟨b, j, none⟩ : Addr) ≠ ⟨b', j', none⟩ := fun e => h (congrArg Addr.off e)

section
variable {w : World} {B : TB} {N : Nat → Nat} {A : AS}

def put0 (c : Nat → Nat → Nat) (r z : Nat) : Nat → Nat → Nat := fun q i => if q = r ∧ i = z then 0 else c q i
theorem StAt.setOwner (h : StAt w B N A) {r z : Nat} (hr : r < 2) (hz : z < N r) : StAt (w.setCell ⟨B.o r, z, none⟩ (.pointer none)) B N { A with c := put0 A.c r z } :=
  have E := ne_of h.dis
  { dis := h.dis, al := fun k hk => (h.al k hk).setCell _ _ _, hg := h.hg, hn := h.hn, lh := fun b e => (h.lh b e).setCell _ _ _
    own := fun q hq => (h.own q hq).other _ (blk_ne (E.og r hr))
    cells := fun q hq i hi => by
      by_cases e : q = r ∧ i = z
      · obtain ⟨rfl, rfl⟩ := e
        have := (h.cells q hq i hi).same (.pointer none)
        simpa [put0, TB.ptr] using this
      · have hp : put0 A.c r z q i = A.c q i := if_neg e
        show Cel _ _ (.pointer (B.ptr (put0 A.c r z q i)))
        rw [hp]
        refine (h.cells q hq i hi).other _ ?_
        by_cases e' : q = r
        · exact off_ne (fun hh => e ⟨e', hh.symm⟩)
        · exact blk_ne (E.oo r q hr hq (fun hh => e' hh.symm))
    free := fun q hq => (h.free q hq).other _ (blk_ne (E.og r hr))
    whole := h.whole.other _ (blk_ne (E.og r hr))
    sw := h.sw.other _ (blk_ne (E.os r hr))
    held := fun q hq => (h.held q hq).other _ (blk_ne (E.os r hr))
    theld := fun q hq => (h.theld q hq).other _ (blk_ne (E.ot r hr))
    gpus := let ⟨cap, h1, h2⟩ := h.gpus; ⟨cap, h1, h2.other _ (blk_ne (E.os r hr))⟩
    xs := ⟨fun e => (h.xs.one e).other _ (blk_ne (E.ox r hr)), fun e => (h.xs.two e).other _ (blk_ne (E.ox r hr))⟩
    grants := let ⟨cap, h1, h2⟩ := h.grants; ⟨cap, h1, h2.other _ (blk_ne (E.on r hr))⟩
    ys := ⟨fun e => (h.ys.one e).other _ (blk_ne (E.oy r hr)), fun e => (h.ys.two e).other _ (blk_ne (E.oy r hr))⟩ }

def updI (F : Nat → Int) (r : Nat) (d : Int) : Nat → Int := fun q => if q = r then F r + d else F q
theorem StAt.setFree (h : StAt w B N A) {r : Nat} (hr : r < 2) (d : Int) : StAt (w.setCell ⟨B.g, 18 + r, none⟩ (.int .i64 (A.F r + d))) B N { A with F := updI A.F r d } :=
  have E := ne_of h.dis
  { dis := h.dis, al := fun k hk => (h.al k hk).setCell _ _ _, hg := h.hg, hn := h.hn, lh := fun b e => (h.lh b e).setCell _ _ _
    own := fun q hq => (h.own q hq).other _ (off_ne (by omega))
    cells := fun q hq i hi => (h.cells q hq i hi).other _ (blk_ne (E.og q hq).symm)
    free := fun q hq => by
      by_cases e : q = r
      · subst e
        have := (h.free q hq).same (.int .i64 (A.F q + d))
        simpa [updI] using this
      · have hp : updI A.F r d q = A.F q := if_neg e
        show Cel _ _ (.int .i64 (updI A.F r d q))
        rw [hp]
        exact (h.free q hq).other _ (off_ne (by omega))
    whole := h.whole.other _ (off_ne (by omega))
    sw := h.sw.other _ (blk_ne E.sg.symm)
    held := fun q hq => (h.held q hq).other _ (blk_ne E.sg.symm)
    theld := fun q hq => (h.theld q hq).other _ (blk_ne E.tg.symm)
    gpus := let ⟨cap, h1, h2⟩ := h.gpus; ⟨cap, h1, h2.other _ (blk_ne E.sg.symm)⟩
    xs := ⟨fun e => (h.xs.one e).other _ (blk_ne E.gx), fun e => (h.xs.two e).other _ (blk_ne E.gx)⟩
    grants := let ⟨cap, h1, h2⟩ := h.grants; ⟨cap, h1, h2.other _ (blk_ne E.ng.symm)⟩
    ys := ⟨fun e => (h.ys.one e).other _ (blk_ne E.gy), fun e => (h.ys.two e).other _ (blk_ne E.gy)⟩ }
theorem StAt.setHeld (h : StAt w B N A) {r : Nat} (hr : r < 2) (d : Int) : StAt (w.setCell ⟨B.s, 2 + r, none⟩ (.int .i64 (A.H r + d))) B N { A with H := updI A.H r d } :=
  have E := ne_of h.dis
  { dis := h.dis, al := fun k hk => (h.al k hk).setCell _ _ _, hg := h.hg, hn := h.hn, lh := fun b e => (h.lh b e).setCell _ _ _
    own := fun q hq => (h.own q hq).other _ (blk_ne E.sg)
    cells := fun q hq i hi => (h.cells q hq i hi).other _ (blk_ne (E.os q hq).symm)
    free := fun q hq => (h.free q hq).other _ (blk_ne E.sg)
    whole := h.whole.other _ (blk_ne E.sg)
    sw := h.sw.other _ (off_ne (by omega))
    held := fun q hq => by
      by_cases e : q = r
      · subst e
        have := (h.held q hq).same (.int .i64 (A.H q + d))
        simpa [updI] using this
      · have hp : updI A.H r d q = A.H q := if_neg e
        show Cel _ _ (.int .i64 (updI A.H r d q))
        rw [hp]
        exact (h.held q hq).other _ (off_ne (by omega))
    theld := fun q hq => (h.theld q hq).other _ (blk_ne E.st)
    gpus := let ⟨cap, h1, h2⟩ := h.gpus; ⟨cap, h1, h2.other _ (off_ne (by omega))⟩
    xs := ⟨fun e => (h.xs.one e).other _ (blk_ne E.sx), fun e => (h.xs.two e).other _ (blk_ne E.sx)⟩
    grants := let ⟨cap, h1, h2⟩ := h.grants; ⟨cap, h1, h2.other _ (blk_ne E.ns.symm)⟩
    ys := ⟨fun e => (h.ys.one e).other _ (blk_ne E.sy), fun e => (h.ys.two e).other _ (blk_ne E.sy)⟩ }
theorem StAt.setW (h : StAt w B N A) (v : Bool) : StAt (w.setCell ⟨B.g, 20, none⟩ (.bool v)) B N { A with W := v } :=
  have E := ne_of h.dis
  { dis := h.dis, al := fun k hk => (h.al k hk).setCell _ _ _, hg := h.hg, hn := h.hn, lh := fun b e => (h.lh b e).setCell _ _ _
    own := fun q hq => (h.own q hq).other _ (off_ne (by omega))
    cells := fun q hq i hi => (h.cells q hq i hi).other _ (blk_ne (E.og q hq).symm)
    free := fun q hq => (h.free q hq).other _ (off_ne (by omega))
    whole := h.whole.same _
    sw := h.sw.other _ (blk_ne E.sg.symm)
    held := fun q hq => (h.held q hq).other _ (blk_ne E.sg.symm)
    theld := fun q hq => (h.theld q hq).other _ (blk_ne E.tg.symm)
    gpus := let ⟨cap, h1, h2⟩ := h.gpus; ⟨cap, h1, h2.other _ (blk_ne E.sg.symm)⟩
    xs := ⟨fun e => (h.xs.one e).other _ (blk_ne E.gx), fun e => (h.xs.two e).other _ (blk_ne E.gx)⟩
    grants := let ⟨cap, h1, h2⟩ := h.grants; ⟨cap, h1, h2.other _ (blk_ne E.ng.symm)⟩
    ys := ⟨fun e => (h.ys.one e).other _ (blk_ne E.gy), fun e => (h.ys.two e).other _ (blk_ne E.gy)⟩ }
/-- g is taken out of s's GPUs -/
theorem StAt.setX (h : StAt w B N A) {w' : World} (hb : But (· = B.x) w w') (hA : Alive w' B.x) (hT : Two w' B.x false A.hOn (some ⟨B.g, 0, none⟩) B.hp) {cap : Nat} (hc : A.hOn.toNat ≤ cap) (hx : ∀ b, B.h = some b → b ≠ B.x) :
    StAt (w'.setCell ⟨B.s, 1, none⟩ (.slice (some ⟨B.x, 0, none⟩) A.hOn.toNat cap)) B N { A with gOn := false } :=
  have E := ne_of h.dis
  { dis := h.dis, al := fun k hk => if e : k = B.x then by { subst e; exact hA.setCell _ _ _ } else ((h.al k hk).block (hb.block k (h.al k hk).lt e)).setCell _ _ _, hg := h.hg, hn := h.hn, lh := fun b e => ((h.lh b e).block (hb.block b (h.lh b e).lt (hx b e))).setCell _ _ _
    own := fun q hq => ((h.own q hq).but hb E.gx).other _ (blk_ne E.sg)
    cells := fun q hq i hi => ((h.cells q hq i hi).but hb (E.ox q hq)).other _ (blk_ne (E.os q hq).symm)
    free := fun q hq => ((h.free q hq).but hb E.gx).other _ (blk_ne E.sg)
    whole := (h.whole.but hb E.gx).other _ (blk_ne E.sg)
    sw := (h.sw.but hb E.sx).other _ (off_ne (by omega))
    held := fun q hq => ((h.held q hq).but hb E.sx).other _ (off_ne (by omega))
    theld := fun q hq => ((h.theld q hq).but hb E.tx).other _ (blk_ne E.st)
    gpus := let ⟨_, _, h2⟩ := h.gpus; ⟨cap, by simpa using hc, by simpa using (h2.but hb E.sx).same (.slice (some ⟨B.x, 0, none⟩) A.hOn.toNat cap)⟩
    xs := ⟨fun e => absurd e (by simp), fun e => (hT.two e).other _ (blk_ne E.sx)⟩
    grants := let ⟨cap, h1, h2⟩ := h.grants; ⟨cap, h1, (h2.but hb E.nx).other _ (blk_ne E.ns.symm)⟩
    ys := ⟨fun e => ((h.ys.one e).but hb E.xy.symm).other _ (blk_ne E.sy), fun e => ((h.ys.two e).but hb E.xy.symm).other _ (blk_ne E.sy)⟩ }
/-- s is taken out of the node's grants -/
theorem StAt.setY (h : StAt w B N A) {w' : World} (hb : But (· = B.y) w w') (hA : Alive w' B.y) (hT : Two w' B.y false A.tOn (some ⟨B.s, 0, none⟩) (some ⟨B.t, 0, none⟩)) {cap : Nat} (hc : A.tOn.toNat ≤ cap) (hx : ∀ b, B.h = some b → b ≠ B.y) :
    StAt (w'.setCell ⟨B.n, 6, none⟩ (.slice (some ⟨B.y, 0, none⟩) A.tOn.toNat cap)) B N { A with sOn := false } :=
  have E := ne_of h.dis
  { dis := h.dis, al := fun k hk => if e : k = B.y then by { subst e; exact hA.setCell _ _ _ } else ((h.al k hk).block (hb.block k (h.al k hk).lt e)).setCell _ _ _, hg := h.hg, hn := h.hn, lh := fun b e => ((h.lh b e).block (hb.block b (h.lh b e).lt (hx b e))).setCell _ _ _
    own := fun q hq => ((h.own q hq).but hb E.gy).other _ (blk_ne E.ng)
    cells := fun q hq i hi => ((h.cells q hq i hi).but hb (E.oy q hq)).other _ (blk_ne (E.on q hq).symm)
    free := fun q hq => ((h.free q hq).but hb E.gy).other _ (blk_ne E.ng)
    whole := (h.whole.but hb E.gy).other _ (blk_ne E.ng)
    sw := (h.sw.but hb E.sy).other _ (blk_ne E.ns)
    held := fun q hq => ((h.held q hq).but hb E.sy).other _ (blk_ne E.ns)
    theld := fun q hq => ((h.theld q hq).but hb E.ty).other _ (blk_ne E.nt)
    gpus := let ⟨cap, h1, h2⟩ := h.gpus; ⟨cap, h1, (h2.but hb E.sy).other _ (blk_ne E.ns)⟩
    xs := ⟨fun e => ((h.xs.one e).but hb E.xy).other _ (blk_ne E.nx), fun e => ((h.xs.two e).but hb E.xy).other _ (blk_ne E.nx)⟩
    grants := let ⟨_, _, h2⟩ := h.grants; ⟨cap, by simpa using hc, by simpa using (h2.but hb E.ny).same (.slice (some ⟨B.y, 0, none⟩) A.tOn.toNat cap)⟩
    ys := ⟨fun e => absurd e (by simp), fun e => (hT.two e).other _ (blk_ne E.ny)⟩ }
end

/-- the units U 0 .. U (k - 1) of r are nobody's -/
def clr (c : Nat → Nat → Nat) (r : Nat) (U : Nat → Int) (k : Nat) : Nat → Nat → Nat := fun q i => if q = r ∧ inU U k i = true then 0 else c q i
theorem clr_zero (c : Nat → Nat → Nat) (r : Nat) (U : Nat → Int) : clr c r U 0 = c := by
  funext q i; simp [clr, inU]
theorem clr_step (c : Nat → Nat → Nat) (r : Nat) (U : Nat → Int) (k z : Nat) (hz : U k = (z : Int)) : put0 (clr c r U k) r z = clr c r U (k + 1) := by
  funext q i
  have e : (U k == (i : Int)) = (i == z) := by
    rw [hz, Bool.eq_iff_iff]; simp; omega
  simp only [put0, clr, inU, e, Bool.or_eq_true, beq_iff_eq]
  by_cases h1 : q = r
  · by_cases h2 : i = z
    · simp [h1, h2]
    · simp [h1, h2]
  · simp [h1]
end Go.Proofs.Qxb6612650aDoor
