import Derived.Test.Qxb6612650aDoorG
import Derived.Deep.RegionWith
import Derived.Deep.DeepCutAuto
namespace Go.Proofs.Qxb6612650aDoor
open Go.RowKit

theorem hasF_iff (P : Nat → Option Addr) (v : Option Addr) (k f : Nat) : hasF P v k f = true ↔ ∃ i, k ≤ i ∧ i < k + f ∧ P i = v := by
  induction f generalizing k with
  | zero => simp [hasF]; intro i h1 h2; omega
  | succ f ih =>
    unfold hasF
    by_cases e : (v == P k) = true
    · rw [if_pos e]
      exact ⟨fun _ => ⟨k, by omega, by omega, (eq_of_beq e).symm⟩, fun _ => rfl⟩
    · rw [if_neg e, ih]
      constructor
      · rintro ⟨i, h1, h2, h3⟩; exact ⟨i, by omega, by omega, h3⟩
      · rintro ⟨i, h1, h2, h3⟩
        by_cases e' : i = k
        · subst e'; exact absurd (by rw [h3]; simp) e
        · exact ⟨i, by omega, by omega, h3⟩
theorem cnt_pos (p : Nat → Bool) (n : Nat) : 0 < cnt p n ↔ ∃ i, i < n ∧ p i = true := by
  induction n with
  | zero => simp [cnt]
  | succ k ih =>
    cases e : p k
    · rw [cnt_stay p k e, ih]
      constructor
      · rintro ⟨i, h1, h2⟩; exact ⟨i, by omega, h2⟩
      · rintro ⟨i, h1, h2⟩
        by_cases e' : i = k
        · subst e'; rw [e] at h2; exact absurd h2 (by simp)
        · exact ⟨i, by omega, h2⟩
    · rw [cnt_step p k e]
      exact ⟨fun _ => ⟨k, by omega, e⟩, fun _ => by omega⟩

/-- does s hold a unit? -/
def hold (N : Nat → Nat) (c : Nat → Nat → Nat) : Bool := decide (0 < cnt (fun i => c 0 i == 1) (N 0) + cnt (fun i => c 1 i == 1) (N 1))
theorem ptr_s {B : TB} (E : Apt B) (k : Nat) : B.ptr k = some ⟨B.s, 0, none⟩ ↔ k = 1 := by
  unfold TB.ptr
  by_cases e : k = 1
  · simp [e]
  · by_cases e2 : k = 2
    · simp only [e2]
      constructor
      · intro h; simp at h; exact absurd h.symm E.st
      · intro h; omega
    · simp [e, e2]
theorem has_ptr {B : TB} (E : Apt B) (c : Nat → Nat) (n : Nat) : hasF (fun i => B.ptr (c i)) (some ⟨B.s, 0, none⟩) 0 n = decide (0 < cnt (fun i => c i == 1) n) := by
  rw [Bool.eq_iff_iff, hasF_iff, decide_eq_true_iff, cnt_pos]
  constructor
  · rintro ⟨i, _, h2, h3⟩
    exact ⟨i, by omega, by simp [(ptr_s E (c i)).1 h3]⟩
  · rintro ⟨i, h2, h3⟩
    exact ⟨i, by omega, by omega, (ptr_s E (c i)).2 (eq_of_beq h3)⟩
theorem any_hold {B : TB} (E : Apt B) (N : Nat → Nat) (c : Nat → Nat → Nat) : anyF N (fun r i => B.ptr (c r i)) (some ⟨B.s, 0, none⟩) = hold N c := by
  unfold anyF hold
  rw [has_ptr E (c 0), has_ptr E (c 1), Bool.eq_iff_iff]
  simp only [Bool.or_eq_true, decide_eq_true_iff]
  omega

/-- what takeBack makes of the state, and what it answers -/
def mid (A : AS) (r : Nat) (U : Nat → Int) (m : Nat) : AS := { A with c := clr A.c r U m, F := updI A.F r m, H := updI A.H r (-(m : Int)) }
def tkA (N : Nat → Nat) (A : AS) (r : Nat) (U : Nat → Int) (m : Nat) : AS :=
  if hold N (clr A.c r U m) = true then mid A r U m else { mid A r U m with gOn := false, W := A.W && !A.sW, sOn := A.sOn && A.hOn }
def tkE (N : Nat → Nat) (A : AS) (r : Nat) (U : Nat → Int) (m : Nat) : Bool := !hold N (clr A.c r U m) && !A.hOn

theorem ix60 (b r : Nat) (hr : r < 2) (wx : World) : (Instr.indexAt 60 (.pointer (some ⟨b, 16, none⟩)) (.int .i64 (r : Int))).run Tryd.prog wx = .ok (.pointer (some ⟨b, 16 + r, none⟩)) wx := by
  rcases (by omega : r = 0 ∨ r = 1) with rfl | rfl
  · simp [go_sem]
  · simp [go_sem]
theorem ix61 (b j r : Nat) (hr : r < 2) (wx : World) : (Instr.indexAt 61 (.pointer (some ⟨b, j, none⟩)) (.int .i64 (r : Int))).run Tryd.prog wx = .ok (.pointer (some ⟨b, j + r, none⟩)) wx := by
  rcases (by omega : r = 0 ∨ r = 1) with rfl | rfl
  · simp [go_sem]
  · simp [go_sem]
theorem StAt.drew {w : World} {B : TB} {N : Nat → Nat} {A : AS} (h : StAt w B N A) : StAt w.drew B N A := h.lift (fun _ _ _ hc => hc.drew) fun _ _ ha => ha
theorem StAt.hp_ne {w : World} {B : TB} {N : Nat → Nat} {A : AS} (h : StAt w B N A) : (B.hp == some ⟨B.g, 0, none⟩) = false := by
  have := h.hg
  unfold TB.hp
  cases e : B.h with
  | none => rfl
  | some b =>
    have hne : b ≠ B.g := fun h' => this (by rw [e, h'])
    simp
theorem StAt.hp_liv {w : World} {B : TB} {N : Nat → Nat} {A : AS} (h : StAt w B N A) : Liv w B.hp := by
  unfold TB.hp
  cases e : B.h with
  | none => exact Or.inl rfl
  | some b => exact Or.inr ⟨b, rfl, h.lh b e⟩
/-- .. where the node's channel may turn -/
theorem StAt.liftN {w w' : World} {B : TB} {N : Nat → Nat} {A : AS} (h : StAt w B N A) (hc : ∀ p v, p.block ∈ B.blocks → p.block ≠ B.n → Cel w p v → Cel w' p v) (hn : ∀ v, Cel w ⟨B.n, 6, none⟩ v → Cel w' ⟨B.n, 6, none⟩ v) (ha : ∀ b, b ∈ B.blocks ∨ B.h = some b → Alive w b → Alive w' b) : StAt w' B N A :=
  have E := ne_of h.dis
  { dis := h.dis, hg := h.hg, hn := h.hn, al := fun k hk => ha k (Or.inl hk) (h.al k hk), lh := fun b e => ha b (Or.inr e) (h.lh b e)
    own := fun r hr => hc _ _ (by simp [TB.blocks]) E.ng.symm (h.own r hr)
    cells := fun r hr i hi => hc _ _ (by rcases (by omega : r = 0 ∨ r = 1) with rfl | rfl <;> simp [TB.blocks]) (E.on r hr) (h.cells r hr i hi)
    free := fun r hr => hc _ _ (by simp [TB.blocks]) E.ng.symm (h.free r hr)
    whole := hc _ _ (by simp [TB.blocks]) E.ng.symm h.whole
    sw := hc _ _ (by simp [TB.blocks]) E.ns.symm h.sw
    held := fun r hr => hc _ _ (by simp [TB.blocks]) E.ns.symm (h.held r hr)
    theld := fun r hr => hc _ _ (by simp [TB.blocks]) E.nt.symm (h.theld r hr)
    gpus := let ⟨cap, h1, h2⟩ := h.gpus; ⟨cap, h1, hc _ _ (by simp [TB.blocks]) E.ns.symm h2⟩
    xs := ⟨fun e => hc _ _ (by simp [TB.blocks]) E.nx.symm (h.xs.one e), fun e => hc _ _ (by simp [TB.blocks]) E.nx.symm (h.xs.two e)⟩
    grants := let ⟨cap, h1, h2⟩ := h.grants; ⟨cap, h1, hn _ h2⟩
    ys := ⟨fun e => hc _ _ (by simp [TB.blocks]) E.ny.symm (h.ys.one e), fun e => hc _ _ (by simp [TB.blocks]) E.ny.symm (h.ys.two e)⟩ }
theorem But.fr_trans {L L' : List Nat} {ch : Nat} {w a b : World} (h : But (Fr L ch w) w a) (k : But (Fr L' ch a) a b) (hL : ∀ x, x ∈ L' → x ∈ L) : But (Fr L ch w) w b :=
  ⟨k.os.trans h.os, k.tape.trans h.tape, k.output.trans h.output, Nat.le_trans h.size k.size, fun i hi hs => by
    have e := h.block i hi hs
    refine (k.block i (Nat.lt_of_lt_of_le hi h.size) ?_).trans e
    rintro (h' | ⟨e', x1, x2, x3, x4, x5, x6, h'⟩)
    · exact hs (Or.inl (hL i h'))
    · rw [e] at h'
      exact hs (Or.inr ⟨e', _, _, _, _, _, _, h'⟩)⟩
theorem But.fr {L : List Nat} {ch : Nat} {w a : World} (h : But (· ∈ L) w a) : But (Fr L ch w) w a := h.mono fun _ _ hk => Or.inl hk
end Go.Proofs.Qxb6612650aDoor
