import Derived.Test.Qxb6612650aDoorM
namespace Go.Proofs.Qxb6612650aDoor
open Go.RowKit

def TB.n? (B : TB) : Option Addr := some ⟨B.n, 0, none⟩
def TB.s? (B : TB) : Option Addr := some ⟨B.s, 0, none⟩
def TB.t? (B : TB) : Option Addr := some ⟨B.t, 0, none⟩
def TB.g? (B : TB) : Option Addr := some ⟨B.g, 0, none⟩
/-- a tbState as a value -/
def TB.val (B : TB) : Value := .agg #[.pointer (some ⟨B.n, 0, none⟩), .pointer (some ⟨B.s, 0, none⟩), .pointer (some ⟨B.t, 0, none⟩), .pointer (some ⟨B.g, 0, none⟩), .pointer B.hp]

/-- the role that a code has -/
def rv (c : Nat) : Int := if c = 1 then 1 else if c = 2 then 2 else 0
theorem role_ptr {B : TB} (E : Apt B) (c : Nat) : roleS (B.ptr c) (some ⟨B.s, 0, none⟩) (some ⟨B.t, 0, none⟩) = rv c := by
  have := E.st.symm
  unfold roleS TB.ptr rv
  by_cases h1 : c = 1
  · simp [h1]
  · by_cases h2 : c = 2
    · simp [h2]
    · simp [h1, h2]
/-- the k-th of p (where b) and q -/
def el (b : Bool) (p q : Option Addr) (k : Nat) : Option Addr := if b = true ∧ k = 0 then p else q
theorem Two.at {w : World} {blk : Nat} {b1 b2 : Bool} {p q : Option Addr} (h : Two w blk b1 b2 p q) (k : Nat) (hk : k < b1.toNat + b2.toNat) : Cel w ⟨blk, k, none⟩ (.pointer (el b1 p q k)) := by
  unfold el
  cases b1
  · cases b2
    · simp at hk
    · have : k = 0 := by simp at hk; omega
      subst this
      simpa using h.two rfl
  · by_cases e : k = 0
    · subst e; simpa using h.one rfl
    · cases b2
      · simp at hk; omega
      · have : k = 1 := by simp at hk; omega
        subst this
        simpa using h.two rfl
def re (b : Bool) (k : Nat) : Int := if b = true ∧ k = 0 then 1 else 2
theorem role_el {b : Bool} {p q : Option Addr} (hp : (p == none) = false) (hq : (q == none) = false) (hne : (q == p) = false) (k : Nat) : roleS (el b p q k) p q = re b k := by
  unfold el re
  split
  · simp [roleS, hp]
  · simp [roleS, hq, hne]

/-- where tbSame stands -/
structure Env (w W : World) (B1 B2 : TB) (N : Nat → Nat) (A : AS) : Prop where
  T1 : TmpAt W w.heap.size (some ⟨B1.n, 0, none⟩) (some ⟨B1.s, 0, none⟩) (some ⟨B1.t, 0, none⟩) (some ⟨B1.g, 0, none⟩) B1.hp
  T2 : TmpAt W (w.heap.size + 1) (some ⟨B2.n, 0, none⟩) (some ⟨B2.s, 0, none⟩) (some ⟨B2.t, 0, none⟩) (some ⟨B2.g, 0, none⟩) B2.hp
  S1 : StAt W B1 N A
  S2 : StAt W B2 N A
  B : Below w.heap.size w W
section
variable {w W W' : World} {B1 B2 B : TB} {N : Nat → Nat} {A : AS}
theorem Env.below (E : Env w W B1 B2 N A) (hb : Below W.heap.size W W') : Env w W' B1 B2 N A := ⟨E.T1.below hb, E.T2.below hb, E.S1.below hb, E.S2.below hb, E.B.trans (hb.mono E.B.size)⟩
theorem Env.drew (E : Env w W B1 B2 N A) : Env w W.drew B1 B2 N A := ⟨E.T1.drew, E.T2.drew, E.S1.drew, E.S2.drew, E.B.drew⟩
theorem StAt.ownC (h : StAt W B N A) (r u : Nat) (hr : r < 2) (hu : u < N r) : Calls Tryd.prog 13 #[.pointer (some ⟨B.g, 0, none⟩), .int .i64 r, .int .i64 u] W fun e w' => e = .returned (.pointer (B.ptr (A.c r u))) ∧ w' = W :=
  own_any B.g r (B.o r) (N r) u _ W hr (h.own r hr) hu (h.cells r hr u hu)
theorem StAt.roleC (h : StAt W B N A) (c : Nat) : Calls Tryd.prog 26 #[.pointer (B.ptr c), .agg #[.pointer (some ⟨B.n, 0, none⟩), .pointer (some ⟨B.s, 0, none⟩), .pointer (some ⟨B.t, 0, none⟩), .pointer (some ⟨B.g, 0, none⟩), .pointer B.hp]] W fun e w' => e = .returned (.int .i64 (rv c)) ∧ Below W.heap.size W w' := by
  have := grantRole_any (B.ptr c) (some ⟨B.n, 0, none⟩) (some ⟨B.s, 0, none⟩) (some ⟨B.t, 0, none⟩) (some ⟨B.g, 0, none⟩) B.hp W (h.liv c) (Or.inr ⟨B.s, rfl, h.sw.l⟩) (Or.inr ⟨B.t, rfl, (h.theld 0 (by omega)).l⟩)
  rwa [role_ptr (ne_of h.dis)] at this
theorem StAt.roleE (h : StAt W B N A) (b : Bool) (k : Nat) : Calls Tryd.prog 26 #[.pointer (el b (some ⟨B.s, 0, none⟩) (some ⟨B.t, 0, none⟩) k), .agg #[.pointer (some ⟨B.n, 0, none⟩), .pointer (some ⟨B.s, 0, none⟩), .pointer (some ⟨B.t, 0, none⟩), .pointer (some ⟨B.g, 0, none⟩), .pointer B.hp]] W fun e w' => e = .returned (.int .i64 (re b k)) ∧ Below W.heap.size W w' := by
  have ls : Liv W (some ⟨B.s, 0, none⟩) := Or.inr ⟨B.s, rfl, h.sw.l⟩
  have lt : Liv W (some ⟨B.t, 0, none⟩) := Or.inr ⟨B.t, rfl, (h.theld 0 (by omega)).l⟩
  have := grantRole_any (el b (some ⟨B.s, 0, none⟩) (some ⟨B.t, 0, none⟩) k) (some ⟨B.n, 0, none⟩) (some ⟨B.s, 0, none⟩) (some ⟨B.t, 0, none⟩) (some ⟨B.g, 0, none⟩) B.hp W (by unfold el; split; exact ls; exact lt) ls lt
  rwa [role_el rfl rfl (by have := (ne_of h.dis).st.symm; simp)] at this
theorem StAt.roleG (h : StAt W B N A) (k : Nat) (hk : k < A.gOn.toNat + A.hOn.toNat) : Calls Tryd.prog 27 #[.pointer (el A.gOn (some ⟨B.g, 0, none⟩) B.hp k), .agg #[.pointer (some ⟨B.n, 0, none⟩), .pointer (some ⟨B.s, 0, none⟩), .pointer (some ⟨B.t, 0, none⟩), .pointer (some ⟨B.g, 0, none⟩), .pointer B.hp]] W fun e w' => e = .returned (.int .i64 (re A.gOn k)) ∧ Below W.heap.size W w' := by
  have lg : Liv W (some ⟨B.g, 0, none⟩) := Or.inr ⟨B.g, rfl, h.whole.l⟩
  have := gpuRole_any (el A.gOn (some ⟨B.g, 0, none⟩) B.hp k) (some ⟨B.n, 0, none⟩) (some ⟨B.s, 0, none⟩) (some ⟨B.t, 0, none⟩) (some ⟨B.g, 0, none⟩) B.hp W (by unfold el; split; exact lg; exact h.hp_liv) lg h.hp_liv
  have e : roleS (el A.gOn (some ⟨B.g, 0, none⟩) B.hp k) (some ⟨B.g, 0, none⟩) B.hp = re A.gOn k := by
    by_cases hk0 : A.gOn = true ∧ k = 0
    · simp [el, re, roleS, hk0]
    · have ho : A.hOn = true := by
        cases e : A.hOn
        · rw [e] at hk
          cases e2 : A.gOn
          · rw [e2] at hk; simp at hk
          · rw [e2] at hk; simp at hk; exact absurd ⟨e2, by omega⟩ hk0
        · rfl
      refine role_el rfl ?_ h.hp_ne k
      have := h.hn ho
      unfold TB.hp
      cases e : B.h with
      | none => exact absurd e this
      | some b => rfl
  rwa [e] at this
end
end Go.Proofs.Qxb6612650aDoor
