import Derived.Test.Qxb6613110aW
import Derived.Test.Qxb6613110aJ
namespace Go.Proofs.Qxb6613110a
open Go.RowKit

/-- the vector that a Replica's ack field holds -/
def AckAt (w : World) (R : Nat) (v : Value) (n : Nat) (B : Nat → ByteArray) (C : Nat → Int) : Prop :=
  (v = .slice none 0 0 ∧ n = 0) ∨ ∃ A cap, v = .slice (some ⟨A, 0, none⟩) n cap ∧ OwnVec w A n cap B C ∧ A ≠ R

/-- what set leaves -/
def SetRes (w w' : World) (R : Nat) (v : Value) (n : Nat) (B : Nat → ByteArray) (C : Nat → Int) (me : ByteArray) (cl : Int) : Prop :=
  (∃ p, p ≤ n ∧ (∀ k, k < p → Op.bytesLess (B k).toList me.toList = true) ∧ (∀ k, p ≤ k → k < n → Op.bytesLess me.toList (B k).toList = true) ∧ SetIns w w' R n p B C me cl) ∨
  (∃ A cap p, v = .slice (some ⟨A, 0, none⟩) n cap ∧ p < n ∧ (B p).toList = me.toList ∧ SetUpd w w' R A n cap p B C me cl)

theorem set_any (R : Nat) (v : Value) (n : Nat) (B : Nat → ByteArray) (C : Nat → Int) (me : ByteArray) (cl : Int) (w : World)
    (hcell : w.cell? ⟨R, 6, none⟩ = some v) (hfr : w.frozen? ⟨R, 6, none⟩ = false) (hA : AckAt w R v n B C) (hcap : ∀ A cap, v = .slice (some ⟨A, 0, none⟩) n cap → cap = n) (hok : VecOk n B) (hn : n ≤ 4096) :
    Calls Try.prog 41 #[.pointer (some ⟨R, 6, none⟩), .string me, .int .u64 cl] w fun e w' => e = .returned (.tuple #[]) ∧ SetRes w w' R v n B C me cl := by
  rcases hA with ⟨rfl, rfl⟩ | ⟨A, cap, rfl, hV, hAR⟩
  · refine (set_app R none 0 0 B C me cl w hcell hfr ⟨0, 0, Or.inl (Nat.le_refl _), fun i hi => by omega, fun i hi => by omega⟩ (fun _ => ⟨rfl, rfl⟩) (by omega) (by omega) (Or.inl rfl)).mono ?_
    rintro e w' ⟨he, hS⟩
    exact ⟨he, Or.inl ⟨0, Nat.le_refl _, fun k hk => by omega, fun k _ hk => by omega, hS⟩⟩
  · obtain rfl : cap = n := hcap A cap rfl
    obtain ⟨p, hp, hlo, hhi⟩ := search_exists (fun k => !Op.bytesLess (B k).toList me.toList) cap (hok.mono me)
    have hlo' : ∀ k, k < p → Op.bytesLess (B k).toList me.toList = true := fun k hk => by simpa using hlo k hk
    have hhi' : ∀ k, p ≤ k → k < cap → Op.bytesLess (B k).toList me.toList = false := fun k h1 h2 => by simpa using hhi k h1 h2
    by_cases hpn : p < cap
    · by_cases heq : (B p).toList = me.toList
      · refine (set_old R A cap cap p B C me cl w hcell hfr hV hok (by omega) hpn heq hAR).mono ?_
        rintro e w' ⟨he, hS⟩
        exact ⟨he, Or.inr ⟨A, cap, p, rfl, hpn, heq, hS⟩⟩
      · have hm : Op.bytesLess me.toList (B p).toList = true := bl_tri' (hhi' p (Nat.le_refl _) hpn) (by simpa using heq)
        have hhigh : ∀ k, p ≤ k → k < cap → Op.bytesLess me.toList (B k).toList = true := fun k h1 h2 => by
          by_cases e : k = p
          · subst e; exact hm
          · exact bl_trans hm (hok.lt k p (by omega) h2)
        refine (set_mid R A cap p B C me cl w hcell hfr hV hok hn hpn hlo' hhigh).mono ?_
        rintro e w' ⟨he, hS⟩
        exact ⟨he, Or.inl ⟨p, hp, hlo', hhigh, hS⟩⟩
    · obtain rfl : p = cap := by omega
      refine (set_app R (some ⟨A, 0, none⟩) p p B C me cl w hcell hfr hV.vec (fun h => by cases h) (by omega) hn ?_).mono ?_
      · by_cases h0 : p = 0
        · exact Or.inl h0
        · exact Or.inr (hlo' (p - 1) (by omega))
      rintro e w' ⟨he, hS⟩
      exact ⟨he, Or.inl ⟨p, hp, hlo', fun k h1 h2 => by omega, hS⟩⟩

/-- SetIns tells what ackIs asks -/
theorem setNew_of {n p : Nat} {B : Nat → ByteArray} {C : Nat → Int} {me : ByteArray} {cl : Int} (hp : p ≤ n) (hlo : ∀ k, k < p → Op.bytesLess (B k).toList me.toList = true) (hhi : ∀ k, p ≤ k → k < n → Op.bytesLess me.toList (B k).toList = true) :
    SetNew n B C me cl (n + 1) (insB B p me) (insC C p cl) p where
  le := hp
  len := rfl
  low := fun i hi => bl_asymm (hlo i hi)
  high := hhi
  ne := fun i hi => by
    by_cases e : i < p
    · exact bl_ne (hlo i e)
    · exact bl_ne' (hhi i (by omega) hi)
  new := by simp [entB, insB, insC]; omega
  old := fun i hi => by simp [entB, insB, insC, hi]; omega
  past := fun i h1 h2 => by
    have e1 : ¬ i + 1 < p := by omega
    have e2 : ¬ i + 1 = p := by omega
    simp [entB, insB, insC, e1, e2, h2]

theorem setOld_of {n p : Nat} {B : Nat → ByteArray} {C : Nat → Int} {me : ByteArray} {cl : Int} (hok : VecOk n B) (hp : p < n) (heq : (B p).toList = me.toList) :
    SetOld n B C me cl n (updB B p me) (updC C p cl) p where
  lt := hp
  len := rfl
  low := fun i hi => by
    have := hok.lt p i hi hp
    rw [heq] at this
    exact ⟨bl_asymm this, bl_ne this⟩
  at_ := by rw [heq]; exact ⟨bl_irrefl _, by simp⟩
  high := fun i h1 h2 => by
    have := hok.lt i p h1 h2
    rw [heq] at this
    exact bl_ne' this
  new := by simp [entB, updB, updC, hp]
  old := fun i h1 h2 => by simp [entB, updB, updC, h1, h2]

set_option maxHeartbeats 400000 in
theorem zzack_any (R : Nat) (a : Option Addr) (n c : Nat) (w : World) (h : w.cell? ⟨R, 6, none⟩ = some (.slice a n c)) :
    Calls Try.prog 25 #[.pointer (some ⟨R, 0, none⟩)] w fun e w' => e = .returned (.slice a n c) ∧ w' = w := by
  go_enter Try.func25, Try.ntmps25
  go_wp2
  go_ret
  exact ⟨rfl, rfl⟩
end Go.Proofs.Qxb6613110a
