import Derived.Test.Qxb6612650aDoorR
namespace Go.Proofs.Qxb6612650aDoor
open Go.RowKit

/-- where two built states and their holders lie -/
structure Sep (L z : Nat) (B1 B2 : TB) (p1 p2 : Nat) (a : Option Addr) : Prop where
  l0 : 0 < L
  lz : L ≤ z
  off : ∀ x, a = some x → x.block < L
  one : ∀ k, k ∈ B1.blocks ∨ B1.h = some k → L ≤ k ∧ k < z ∧ k ≠ p1
  two : ∀ k, k ∈ B2.blocks ∨ B2.h = some k → z ≤ k ∧ k ≠ p2
  q1 : p1 < z
  q2 : z ≤ p2
  h1 : ∀ b, B1.h = some b → b ∉ B1.blocks
  h2 : ∀ b, B2.h = some b → b ∉ B2.blocks
/-- the two states -/
structure Duo (w W : World) (z : Nat) (B1 B2 : TB) (p1 p2 : Nat) (N : Nat → Nat) (A1 A2 : AS) : Prop where
  T1 : TmpAt W p1 (some ⟨B1.n, 0, none⟩) (some ⟨B1.s, 0, none⟩) (some ⟨B1.t, 0, none⟩) (some ⟨B1.g, 0, none⟩) B1.hp
  T2 : TmpAt W p2 (some ⟨B2.n, 0, none⟩) (some ⟨B2.s, 0, none⟩) (some ⟨B2.t, 0, none⟩) (some ⟨B2.g, 0, none⟩) B2.hp
  S1 : StAt W B1 N A1
  S2 : StAt W B2 N A2
  C2 : ∃ ch, ChanAt W B2.n ch ∧ z ≤ ch
  B : Below w.heap.size w W
  lz : z ≤ W.heap.size

theorem below_frame {w W w' : World} {Ls : List Nat} {ch : Nat} (hB : Below w.heap.size w W) (hb : But (Fr Ls ch W) W w') (h1 : ∀ k, k ∈ Ls → w.heap.size ≤ k) (h2 : w.heap.size ≤ ch) : Below w.heap.size w w' :=
  ⟨hb.os.trans hB.os, hb.tape.trans hB.tape, hb.output.trans hB.output, Nat.le_trans hB.size hb.size, fun k hk => (hb.block k (Nat.lt_of_lt_of_le hk hB.size) (by
    rintro (h | ⟨h, _⟩)
    · have := h1 k h; omega
    · omega)).trans (hB.block k hk)⟩
theorem below_drewW {n : Nat} {w W : World} (h : Below n w W) : Below n w W.drew := ⟨h.os, h.tape, h.output, h.size, h.block⟩

variable {w W : World} {z : Nat} {B1 B2 : TB} {p1 p2 : Nat} {N : Nat → Nat} {A1 A2 : AS} {a : Option Addr}
theorem Duo.drew (D : Duo w W z B1 B2 p1 p2 N A1 A2) : Duo w W.drew z B1 B2 p1 p2 N A1 A2 :=
  ⟨D.T1.drew, D.T2.drew, D.S1.drew, D.S2.drew, let ⟨ch, h, h'⟩ := D.C2; ⟨ch, h.drew, h'⟩, below_drewW D.B, D.lz⟩

/-- takeBack on the first state -/
theorem duo_one (S : Sep w.heap.size z B1 B2 p1 p2 a) (D : Duo w W z B1 B2 p1 p2 N A1 A2) {ch : Nat} (hC : ChanAt W B1.n ch) (hc : w.heap.size ≤ ch ∧ ch < z) {m c r : Nat} {U : Nat → Int} (hm : ∀ q, q < 2 → N q ≤ 32768) (hmm : m ≤ 32768) (hr : r < 2)
    (hG : Glob w) (hU : IntsAt w a m U) (hin : ∀ i, i < m → 0 ≤ U i ∧ U i < N r) (hF : 0 ≤ A1.F r ∧ A1.F r ≤ 100000) (hH : -100000 ≤ A1.H r ∧ A1.H r ≤ 100000) :
    Calls Tryd.prog 9 #[.pointer (some ⟨B1.n, 0, none⟩), .pointer (some ⟨B1.s, 0, none⟩), .pointer (some ⟨B1.g, 0, none⟩), .int .i64 r, .slice a m c] W fun e w' =>
      e = .returned (.bool (tkE N A1 r U m)) ∧ Duo w w' z B1 B2 p1 p2 N (tkA N A1 r U m) A2 := by
  refine Calls.mono (zzTakeBack_any B1 N A1 r m c ch a U W hm hmm hr D.S1 hC (hG.below D.B) (hU.below D.B) hin (fun x e hk => ?_) (fun hk => ?_) S.h1 hF hH) ?_
  · have := S.off x e; have := (S.one _ (Or.inl hk)).1; omega
  · have := S.l0; have := (S.one _ (Or.inl hk)).1; omega
  rintro e w' ⟨rfl, h1, _, hb⟩
  have n1 : ∀ k, k ∈ B2.blocks ∨ B2.h = some k → k ∉ B1.blocks := fun k hk hk1 => by have := (S.one k (Or.inl hk1)).2.1; have := (S.two k hk).1; omega
  refine ⟨rfl, D.T1.frame hb (fun hk => (S.one _ (Or.inl hk)).2.2 rfl), D.T2.frame hb (fun hk => ?_), h1, D.S2.frame hb n1, ?_, below_frame D.B hb (fun k hk => (S.one k (Or.inl hk)).1) hc.1, Nat.le_trans D.lz hb.size⟩
  · have := (S.one _ (Or.inl hk)).2.1; have := S.q2; omega
  · obtain ⟨c2, h2, h3⟩ := D.C2
    exact ⟨c2, h2.frame hb (n1 _ (Or.inl (by simp [TB.blocks]))) (fun hk => by have := (S.one _ (Or.inl hk)).2.1; omega) (by omega), h3⟩

/-- takeBack on the second state -/
theorem duo_two (S : Sep w.heap.size z B1 B2 p1 p2 a) (D : Duo w W z B1 B2 p1 p2 N A1 A2) {m c r : Nat} {a' : Option Addr} {U : Nat → Int} (hm : ∀ q, q < 2 → N q ≤ 32768) (hmm : m ≤ 32768) (hr : r < 2)
    (hG : Glob w) (hU : IntsAt w a' m U) (ha' : ∀ x, a' = some x → x.block < w.heap.size) (hin : ∀ i, i < m → 0 ≤ U i ∧ U i < N r) (hF : 0 ≤ A2.F r ∧ A2.F r ≤ 100000) (hH : -100000 ≤ A2.H r ∧ A2.H r ≤ 100000) :
    Calls Tryd.prog 9 #[.pointer (some ⟨B2.n, 0, none⟩), .pointer (some ⟨B2.s, 0, none⟩), .pointer (some ⟨B2.g, 0, none⟩), .int .i64 r, .slice a' m c] W fun e w' =>
      e = .returned (.bool (tkE N A2 r U m)) ∧ Duo w w' z B1 B2 p1 p2 N A1 (tkA N A2 r U m) := by
  obtain ⟨ch, hC, hc⟩ := D.C2
  have lz := S.lz
  refine Calls.mono (zzTakeBack_any B2 N A2 r m c ch a' U W hm hmm hr D.S2 hC (hG.below D.B) (hU.below D.B) hin (fun x e hk => ?_) (fun hk => ?_) S.h2 hF hH) ?_
  · have := ha' x e; have := (S.two _ (Or.inl hk)).1; omega
  · have := S.l0; have := (S.two _ (Or.inl hk)).1; omega
  rintro e w' ⟨rfl, h1, ⟨c', hC', hc'⟩, hb⟩
  have n1 : ∀ k, k ∈ B1.blocks ∨ B1.h = some k → k ∉ B2.blocks := fun k hk hk1 => by have := (S.two k (Or.inl hk1)).1; have := (S.one k hk).2.1; omega
  refine ⟨rfl, D.T1.frame hb (fun hk => ?_), D.T2.frame hb (fun hk => (S.two _ (Or.inl hk)).2 rfl), D.S1.frame hb n1, h1, ⟨c', hC', ?_⟩, below_frame D.B hb (fun k hk => Nat.le_trans lz (S.two k (Or.inl hk)).1) (Nat.le_trans lz hc), Nat.le_trans D.lz hb.size⟩
  · have := (S.two _ (Or.inl hk)).1; have := S.q1; omega
  · rcases hc' with h | h
    · omega
    · exact Nat.le_trans D.lz h

theorem tkA_FH (N : Nat → Nat) (A : AS) (r : Nat) (U : Nat → Int) (m : Nat) : (tkA N A r U m).F r = A.F r + m ∧ (tkA N A r U m).H r = A.H r - m := by
  unfold tkA
  split <;> simp [mid, updI] <;> omega
theorem start_FH {n0 n1 : Nat} {C0 C1 : Nat → Int} {sW aO : Bool} (r : Nat) (h0 : n0 ≤ 32768) (h1 : n1 ≤ 32768) : (0 ≤ (startA n0 n1 C0 C1 sW aO).F r ∧ (startA n0 n1 C0 C1 sW aO).F r ≤ 40000) ∧ (0 ≤ (startA n0 n1 C0 C1 sW aO).H r ∧ (startA n0 n1 C0 C1 sW aO).H r ≤ 40000) := by
  have k0 := cnt_le (is3 C0) n0
  have k1 := cnt_le (is3 C1) n1
  have k2 := cnt_le (is1 C0) n0
  have k3 := cnt_le (is1 C1) n1
  have k4 : aO.toNat ≤ 1 := by cases aO <;> simp
  simp only [startA, pick2]
  split <;> omega
/-- a part of a slice of ints -/
theorem IntsAt.pre {m : Nat} {U : Nat → Int} (h : IntsAt w a m U) (j : Nat) (hj : j ≤ m) : IntsAt w a j U := by
  obtain ⟨b, off, ha, h0⟩ := h
  exact ⟨b, off, by rcases ha with h | h; exact Or.inl (by omega); exact Or.inr h, fun i hi => h0 i (by omega)⟩
theorem IntsAt.post {m c : Nat} {U : Nat → Int} (h : IntsAt w a m U) (j : Nat) (hj : j ≤ m) (hc : m ≤ c) : IntsAt w (if c = j then a else a.map (·.add j)) (m - j) (fun x => U (j + x)) := by
  obtain ⟨b, off, ha, h0⟩ := h
  refine ⟨b, off + j, ?_, fun i hi => by rw [Nat.add_assoc]; exact h0 (j + i) (by omega)⟩
  by_cases e : m - j ≤ 0
  · exact Or.inl e
  · right
    rw [if_neg (by omega)]
    rcases ha with h | h
    · omega
    · rw [h]; simp [Addr.add]
theorem rest_lt {L c j : Nat} (h : ∀ x, a = some x → x.block < L) : ∀ x, (if c = j then a else a.map (·.add j)) = some x → x.block < L := by
  intro x
  split
  · exact h x
  · cases a with
    | none => intro e; cases e
    | some y => intro e; cases e; have := h y rfl; unfold Addr.add; split <;> simpa using this
end Go.Proofs.Qxb6612650aDoor
