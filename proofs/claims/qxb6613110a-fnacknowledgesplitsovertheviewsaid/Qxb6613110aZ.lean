import Derived.Test.Qxb6613110aX
import Derived.Test.Qxb6613110aY
namespace Go.Proofs.Qxb6613110a
open Go.RowKit

/-- block k is none of those that acknowledge reads -/
structure Off (k g bm base top : Nat) (a : Option Addr) : Prop where
  g : k ≠ g
  bm : k ≠ bm
  ents : ∀ q, base ≤ q → q < top → q ≠ k
  vec : ∀ y, a = some y → y.block ≠ k

/-- what acknowledge reads, but for the ack vector itself -/
structure Setup (w : World) (R : Nat) (me : ByteArray) (g nv bm base top : Nat) (V : VRow) (a : Option Addr) (n c : Nat) (B : Nat → ByteArray) (C : Nat → Int) : Prop where
  self_ : w.cell? ⟨R, 1, none⟩ = some (.string me)
  view : w.cell? ⟨R, 4, none⟩ = some (.slice (some ⟨g, 0, none⟩) nv nv)
  sum : w.cell? ⟨R, 5, none⟩ = some (.slice a n c)
  gone : w.cell? ⟨R, 10, none⟩ = some (.map (some bm))
  ents : EntsAt w base top g nv V
  goneAt : GoneAt w bm nv V
  vec : VecAt w a n B C
  ab : ∀ y, a = some y → y.block < w.heap.size
  gs : g < w.heap.size
  tops : top ≤ w.heap.size
  off : Off R g bm base top a

section
variable {w w' : World} {R : Nat} {me : ByteArray} {g nv bm base top : Nat} {V : VRow} {a : Option Addr} {n c : Nat} {B : Nat → ByteArray} {C : Nat → Int}

theorem Setup.below (h : Setup w R me g nv bm base top V a n c B C) (hb : Below w.heap.size w w') : Setup w' R me g nv bm base top V a n c B C where
  self_ := down hb h.self_
  view := down hb h.view
  sum := down hb h.sum
  gone := down hb h.gone
  ents := h.ents.below hb (Nat.le_refl _)
  goneAt := h.goneAt.below hb
  vec := h.vec.below hb
  ab := fun y hy => Nat.lt_of_lt_of_le (h.ab y hy) hb.size
  gs := Nat.lt_of_lt_of_le h.gs hb.size
  tops := Nat.le_trans h.tops hb.size
  off := h.off

theorem Setup.but (h : Setup w R me g nv bm base top V a n c B C) {A : Nat} (hb : But (· = A) w w') (hA : Off A g bm base top a) (hAR : A ≠ R) : Setup w' R me g nv bm base top V a n c B C where
  self_ := hb.cell h.self_ (fun e => hAR e.symm)
  view := hb.cell h.view (fun e => hAR e.symm)
  sum := hb.cell h.sum (fun e => hAR e.symm)
  gone := hb.cell h.gone (fun e => hAR e.symm)
  ents := h.ents.but hb (fun e => hA.g e.symm) (fun q h1 h2 => hA.ents q h1 h2)
  goneAt := h.goneAt.but hb (fun e => hA.bm e.symm)
  vec := h.vec.but hb (fun y hy => hA.vec y hy)
  ab := fun y hy => Nat.lt_of_lt_of_le (h.ab y hy) hb.size
  gs := Nat.lt_of_lt_of_le h.gs hb.size
  tops := Nat.le_trans h.tops hb.size
  off := h.off

theorem Setup.ins (h : Setup w R me g nv bm base top V a n c B C) (hb : But (· = R) w w') (hc : ∀ j, j ≠ 6 → w'.cell? ⟨R, j, none⟩ = w.cell? ⟨R, j, none⟩) : Setup w' R me g nv bm base top V a n c B C where
  self_ := (hc 1 (by omega)).trans h.self_
  view := (hc 4 (by omega)).trans h.view
  sum := (hc 5 (by omega)).trans h.sum
  gone := (hc 10 (by omega)).trans h.gone
  ents := h.ents.but hb (fun e => h.off.g e.symm) (fun q h1 h2 => h.off.ents q h1 h2)
  goneAt := h.goneAt.but hb (fun e => h.off.bm e.symm)
  vec := h.vec.but hb (fun y hy => h.off.vec y hy)
  ab := fun y hy => Nat.lt_of_lt_of_le (h.ab y hy) hb.size
  gs := Nat.lt_of_lt_of_le h.gs hb.size
  tops := Nat.le_trans h.tops hb.size
  off := h.off

theorem Setup.offNew (h : Setup w R me g nv bm base top V a n c B C) {k : Nat} (hk : w.heap.size ≤ k) : Off k g bm base top a where
  g := by have := h.gs; omega
  bm := by have := h.goneAt.lt; omega
  ents := fun q _ h2 => by have := h.tops; omega
  vec := fun y hy => by have := h.ab y hy; omega
end

/-- behind acknowledge: the ack field holds the old vector with (me, cl) set in it -/
def AckDone (w : World) (R : Nat) (me : ByteArray) (cl : Int) (nk : Nat) (Bk : Nat → ByteArray) (Ck : Nat → Int) (lo g bm base top : Nat) (a : Option Addr) : Prop :=
  ∃ (A n' cap' : Nat) (B' : Nat → ByteArray) (C' : Nat → Int) (p : Nat), w.cell? ⟨R, 6, none⟩ = some (.slice (some ⟨A, 0, none⟩) n' cap') ∧ w.frozen? ⟨R, 6, none⟩ = false ∧ OwnVec w A n' cap' B' C' ∧ A ≠ R ∧ Off A g bm base top a ∧ lo ≤ A ∧
    VecOk n' B' ∧ n' ≤ 4097 ∧ p < n' ∧ B' p = me ∧ C' p = cl ∧ (SetNew nk Bk Ck me cl n' B' C' p ∨ SetOld nk Bk Ck me cl n' B' C' p)

theorem vecOk_ins {n p : Nat} {B : Nat → ByteArray} {me : ByteArray} (hok : VecOk n B) (hp : p ≤ n) (hlo : ∀ k, k < p → Op.bytesLess (B k).toList me.toList = true) (hhi : ∀ k, p ≤ k → k < n → Op.bytesLess me.toList (B k).toList = true) : VecOk (n + 1) (insB B p me) := by
  intro i hi
  unfold insB
  by_cases h1 : i + 1 < p
  · rw [if_pos (by omega), if_pos h1]; exact hok i (by omega)
  · by_cases h2 : i + 1 = p
    · rw [if_pos (by omega), if_neg (by omega), if_pos h2]; exact hlo i (by omega)
    · by_cases h3 : i = p
      · rw [if_neg (by omega), if_pos h3, if_neg (by omega), if_neg (by omega)]; exact hhi _ (by omega) (by omega)
      · rw [if_neg (by omega), if_neg h3, if_neg (by omega), if_neg (by omega)]
        have := hok (i - 1) (by omega)
        rwa [show i - 1 + 1 = i + 1 - 1 by omega] at this
theorem updB_list {B : Nat → ByteArray} {p : Nat} {me : ByteArray} (heq : (B p).toList = me.toList) (i : Nat) : (updB B p me i).toList = (B i).toList := by
  unfold updB
  by_cases e : i = p
  · rw [if_pos e, e, heq]
  · rw [if_neg e]
theorem vecOk_upd {n p : Nat} {B : Nat → ByteArray} {me : ByteArray} (hok : VecOk n B) (heq : (B p).toList = me.toList) : VecOk n (updB B p me) := by
  intro i hi
  rw [updB_list heq, updB_list heq]; exact hok i hi

theorem upd_same {B' : Nat → ByteArray} {C' : Nat → Int} {p : Nat} {me : ByteArray} {cl : Int} (hB : B' p = me) (hC : C' p = cl) : ∀ i, updB B' p me i = B' i ∧ updC C' p cl i = C' i := by
  intro i
  unfold updB updC
  by_cases e : i = p
  · subst e; simp [hB, hC]
  · simp [e]

set_option maxHeartbeats 400000 in
theorem zzacknowledge_of {R : Nat} {w : World} {Q : World → Prop} (h : Calls Try.prog 35 #[.pointer (some ⟨R, 0, none⟩)] w fun e w' => e = .returned (.tuple #[]) ∧ Q w') :
    Calls Try.prog 23 #[.pointer (some ⟨R, 0, none⟩)] w fun e w' => e = .returned (.tuple #[]) ∧ Q w' := by
  have H : Hid (Calls Try.prog 35 #[.pointer (some ⟨R, 0, none⟩)] w fun e w' => e = .returned (.tuple #[]) ∧ Q w') := h
  clear h
  go_enter Try.func23, Try.ntmps23
  go_wp2_with fail
  refine Calls.mono H.out ?_
  rintro e w1 ⟨rfl, hq⟩
  go_wp2
  go_end0
  exact ⟨rfl, hq⟩

/-- the facts on the law's input that acknowledge leans on -/
structure Given (nv : Nat) (V : VRow) (n : Nat) (B : Nat → ByteArray) (C : Nat → Int) (nk : Nat) (Bk : Nat → ByteArray) : Prop where
  hn : n ≤ 4096
  hnv : nv ≤ 4096
  hnk : nk ≤ 4096
  sumOk : VecOk n B
  ackOk : VecOk nk Bk
  viewOk : ViewOk nv V
  ids : ∀ i, i < nv → (V.id i).size ≤ maxLen
  top : ∀ m, lookF B C m 0 n ≤ topC

def want (me : ByteArray) (nv : Nat) (V : VRow) (n : Nat) (B : Nat → ByteArray) (C : Nat → Int) : Int := ownF V (fun m => lookF B C m 0 n) 0 nv (lookF B C me 0 n)

theorem ack_first {w : World} {R : Nat} {me : ByteArray} {g nv bm base top : Nat} {V : VRow} {a : Option Addr} {n c : Nat} {B : Nat → ByteArray} {C : Nat → Int} {nk : Nat} {Bk : Nat → ByteArray} {Ck : Nat → Int} {v : Value} {lo : Nat}
    (G : Given nv V n B C nk Bk) (hS : Setup w R me g nv bm base top V a n c B C) (hc : w.cell? ⟨R, 6, none⟩ = some v) (hf : w.frozen? ⟨R, 6, none⟩ = false) (hA : AckAt w R v nk Bk Ck)
    (hcap : ∀ A cap, v = .slice (some ⟨A, 0, none⟩) nk cap → cap = nk ∧ Off A g bm base top a ∧ lo ≤ A) (hlo : lo ≤ w.heap.size) (hloR : lo ≤ R) :
    Calls Try.prog 23 #[.pointer (some ⟨R, 0, none⟩)] w fun e w' => e = .returned (.tuple #[]) ∧ Setup w' R me g nv bm base top V a n c B C ∧ AckDone w' R me (want me nv V n B C) nk Bk Ck lo g bm base top a ∧ Below lo w w' := by
  refine zzacknowledge_of ?_
  refine (ack_any R me g nv bm base top V a n c B C v w (by have := G.hn; omega) G.hnv ⟨hS.self_, hS.view, hS.sum, hc, hf, hS.gone⟩ hS.ents hS.goneAt hS.vec G.sumOk G.viewOk G.ids hS.ab G.top
    (fun w' w'' => SetRes w' w'' R v nk Bk Ck me (want me nv V n B C)) (want me nv V n B C) rfl ?_).mono ?_
  · intro w' hb
    refine set_any R v nk Bk Ck me _ w' (down hb hc) (downF hb hc hf) ?_ (fun A cap h => (hcap A cap h).1) G.ackOk G.hnk
    rcases hA with h | ⟨A, cap, h1, h2, h3⟩
    · exact Or.inl h
    · exact Or.inr ⟨A, cap, h1, h2.below hb, h3⟩
  · rintro e w2 ⟨he, w1, hb, hr⟩
    have hS1 := hS.below hb
    have hb0 : Below lo w w1 := hb.mono hlo
    refine ⟨he, ?_⟩
    rcases hr with ⟨p, hp, hl, hh, g', cap', hg', k1, k2, k3, k4, k5⟩ | ⟨A, cap, p, hv, hp, heq, k1, k2, k3, k4⟩
    · refine ⟨hS1.ins k4 k5, ⟨g', nk + 1, cap', _, _, p, k1, k2, k3, ?_, hS1.offNew hg', ?_, vecOk_ins G.ackOk hp hl hh, by have := G.hnk; omega, by omega, by simp [insB], by simp [insC], Or.inl (setNew_of hp hl hh)⟩, ?_⟩
      · have := lt_of_cell hS1.self_; simp at this; omega
      · have := hb.size; omega
      · exact below_but hb0 (by have := hb.size; omega) k4 (fun k hk => by omega)
    · obtain ⟨hcc, hoA, hlA⟩ := hcap A cap hv
      have hAR : A ≠ R := by
        rcases hA with ⟨h, _⟩ | ⟨A', cap', h1, _, h3⟩
        · rw [h] at hv; cases hv
        · rw [h1] at hv; cases hv; exact h3
      refine ⟨hS1.but k4 hoA hAR, ⟨A, nk, cap, _, _, p, k1, k2, k3, hAR, hoA, hlA, vecOk_upd G.ackOk heq, by have := G.hnk; omega, hp, by simp [updB], by simp [updC], Or.inr (setOld_of G.ackOk hp heq)⟩, ?_⟩
      exact below_but hb0 (by have := hb.size; omega) k4 (fun k hk => by omega)

theorem ack_again {w : World} {R : Nat} {me : ByteArray} {g nv bm base top : Nat} {V : VRow} {a : Option Addr} {n c : Nat} {B : Nat → ByteArray} {C : Nat → Int} {nk : Nat} {Bk : Nat → ByteArray} {Ck : Nat → Int} {lo : Nat}
    (G : Given nv V n B C nk Bk) (hS : Setup w R me g nv bm base top V a n c B C) (hD : AckDone w R me (want me nv V n B C) nk Bk Ck lo g bm base top a) (hlo : lo ≤ w.heap.size) :
    Calls Try.prog 23 #[.pointer (some ⟨R, 0, none⟩)] w fun e w' => e = .returned (.tuple #[]) ∧ AckDone w' R me (want me nv V n B C) nk Bk Ck lo g bm base top a ∧ Below lo w w' := by
  obtain ⟨A, n', cap', B', C', p, hc, hf, hV, hAR, hoA, hlA, hok, hn', hp, hB, hC, hor⟩ := hD
  refine zzacknowledge_of ?_
  refine (ack_any R me g nv bm base top V a n c B C _ w (by have := G.hn; omega) G.hnv ⟨hS.self_, hS.view, hS.sum, hc, hf, hS.gone⟩ hS.ents hS.goneAt hS.vec G.sumOk G.viewOk G.ids hS.ab G.top
    (fun w' w'' => SetUpd w' w'' R A n' cap' p B' C' me (want me nv V n B C)) (want me nv V n B C) rfl ?_).mono ?_
  · intro w' hb
    exact set_old R A n' cap' p B' C' me _ w' (down hb hc) (downF hb hc hf) (hV.below hb) hok (by omega) hp (by rw [hB]) hAR
  · rintro e w2 ⟨he, w1, hb, k1, k2, k3, k4⟩
    have hb0 : Below lo w w1 := hb.mono hlo
    exact ⟨he, ⟨A, n', cap', B', C', p, k1, k2, k3.congr (upd_same hB hC), hAR, hoA, hlA, hok, hn', hp, hB, hC, hor⟩, below_but hb0 (by have := hb.size; omega) k4 (fun k hk => by omega)⟩

theorem ackIs_done {w : World} {R : Nat} {me : ByteArray} {cl : Int} {nk : Nat} {Bk : Nat → ByteArray} {Ck : Nat → Int} {lo g bm base top : Nat} {a : Option Addr} (hD : AckDone w R me cl nk Bk Ck lo g bm base top a) (ak : Option Addr) (ck : Nat) (hk : VecAt w ak nk Bk Ck) (hnk : nk ≤ 4096) :
    ∃ A n' cap', w.cell? ⟨R, 6, none⟩ = some (.slice (some ⟨A, 0, none⟩) n' cap') ∧
      Calls Try.prog 24 #[.slice (some ⟨A, 0, none⟩) n' cap', .slice ak nk ck, .string me, .int .u64 cl] w fun e w' => e = .returned (.bool true) ∧ Below w.heap.size w w' := by
  obtain ⟨A, n', cap', B', C', p, hc, hf, hV, hAR, hoA, hlA, hok, hn', hp, hB, hC, hor⟩ := hD
  refine ⟨A, n', cap', hc, ?_⟩
  rcases hor with h | h
  · exact ackIs_new _ n' cap' B' C' ak nk ck Bk Ck me cl p w hnk hV.vec hk h
  · exact ackIs_old _ n' cap' B' C' ak nk ck Bk Ck me cl p w (by unfold maxLen; omega) hV.vec hk h
end Go.Proofs.Qxb6613110a
