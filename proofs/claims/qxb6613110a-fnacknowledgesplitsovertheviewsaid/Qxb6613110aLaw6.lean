import Derived.Test.Qxb6613110aLaw5
namespace Go.Proofs.Qxb6613110a
open Go.RowKit

/-- what ackAfter hands back -/
def AckRet (w : World) (me : ByteArray) (cl : Int) (nk : Nat) (Bk : Nat → ByteArray) (Ck : Nat → Int) (e : Ending) : Prop :=
  ∃ (A n' cap' : Nat) (B' : Nat → ByteArray) (C' : Nat → Int) (p : Nat), e = .returned (.slice (some ⟨A, 0, none⟩) n' cap') ∧ OwnVec w A n' cap' B' C' ∧ VecOk n' B' ∧ n' ≤ 4097 ∧ p < n' ∧ B' p = me ∧ C' p = cl ∧
    (SetNew nk Bk Ck me cl n' B' C' p ∨ SetOld nk Bk Ck me cl n' B' C' p)

set_option maxHeartbeats 4000000 in
set_option maxRecDepth 100000 in
theorem ackAfter_any (me : ByteArray) (av : Option Addr) (nv cv : Nat) (V : VRow) (as_ : Option Addr) (ns cs : Nat) (Bs : Nat → ByteArray) (Cs : Nat → Int) (ak : Option Addr) (nk ck : Nat) (Bk : Nat → ByteArray) (Ck : Nat → Int) (w : World)
    (G : Given nv V ns Bs Cs nk Bk) (iv : ViewAt w av nv V) (is_ : VecAt w as_ ns Bs Cs) (ik : VecAt w ak nk Bk Ck) (ig : ∀ i, i < nv → (Lit.int .u64 (V.gone i)).wf = true) (isn : as_ = none → ns = 0 ∧ cs = 0) (ikn : ak = none → nk = 0 ∧ ck = 0) :
    Calls Try.prog 27 #[.string me, .slice av nv cv, .slice as_ ns cs, .slice ak nk ck] w fun e w' => AckRet w' me (want me nv V ns Bs Cs) nk Bk Ck e ∧ Below w.heap.size w w' := by
  have ISN : Hid _ := isn
  have IKN : Hid _ := ikn
  have IG : Hid _ := ig
  clear isn ikn ig
  go_enter Try.func27, Try.ntmps27
  go_wp2_with fail
  refine (buildView_any av nv cv V _ G.hnv iv).mono ?_
  rintro e w7 ⟨rfl, hg7, hE7, hb7⟩
  go_wp2_with fail
  refine (buildVec_all as_ ns cs Bs Cs _ G.hn (is_.below hb7) ISN.out).mono ?_
  rintro e w8 ⟨⟨a8, c8, rfl, hv8, hn8, ho8⟩, hb8⟩
  have hw8 : Below w.heap.size w w8 := hb7.trans (hb8.mono hb7.size)
  have H8 : Hid _ := And.intro hn8 ho8
  clear hn8 ho8
  go_wp2_with fail
  refine (buildVec_all ak nk ck Bk Ck _ G.hnk (ik.below hw8) IKN.out).mono ?_
  rintro e w9 ⟨⟨a9, c9, rfl, hv9, hn9, ho9⟩, hb9⟩
  have hw9 : Below w.heap.size w w9 := hw8.trans (hb9.mono hw8.size)
  have H9 : Hid _ := And.intro hn9 ho9
  clear hn9 ho9
  go_wp2_with fail
  refine (buildGone_any av nv cv V _ G.hnv (iv.below hw9) G.ids IG.out).mono ?_
  rintro e w10 ⟨rfl, hm10, hb10⟩
  have hw10 : Below w.heap.size w w10 := hw9.trans (hb10.mono hw9.size)
  have hG10 := gone_at G.viewOk hm10
  clear hm10
  go_wp2_with fail
  refine (newReplica_any me _ _ _ ⟨_, _, _, rfl⟩ ⟨_, _, _, rfl⟩ ⟨_, _, _, rfl⟩ w9.heap.size w10).mono ?_
  rintro e w11 ⟨rfl, hR11, hz11, hb11⟩
  have hw11 : Below w.heap.size w w11 := hw10.trans (hb11.mono hw10.size)
  have hS : Setup w11 w10.heap.size me w.heap.size nv w9.heap.size w.heap.size w7.heap.size V a8 ns c8 Bs Cs := by
    have z7 := hb7.size
    have z8 := hb8.size
    have z9 := hb9.size
    have z10 := hb10.size
    have zg := hG10.lt
    refine ⟨hR11.self_, hR11.view, hR11.sum, hR11.gone, ?_, hG10.below hb11, ?_, ?_, by omega, by omega, ?_⟩
    · exact (((hE7.below hb8 (Nat.le_refl _)).below hb9 (Nat.le_refl _)).below hb10 (Nat.le_refl _)).below hb11 (Nat.le_refl _)
    · exact ((hv8.below hb9).below hb10).below hb11
    · intro y hy
      obtain ⟨rfl, _, hV⟩ := H8.out.2 y hy
      have := hV.lt
      simp; omega
    · refine ⟨by omega, by omega, fun q h1 h2 => by omega, fun y hy => ?_⟩
      obtain ⟨rfl, _, hV⟩ := H8.out.2 y hy
      have := hV.lt
      simp; omega
  have hA : AckAt w11 w10.heap.size (.slice a9 nk c9) nk Bk Ck := by
    have z10 := hb10.size
    cases ha : a9 with
    | none =>
      obtain ⟨h1, h2⟩ := H9.out.1 ha
      subst h1 h2
      exact Or.inl ⟨rfl, rfl⟩
    | some y =>
      obtain ⟨rfl, rfl, hV⟩ := H9.out.2 y ha
      have := hV.lt
      exact Or.inr ⟨_, _, rfl, (hV.below hb10).below hb11, by omega⟩
  have hcap : ∀ A cap, Value.slice a9 nk c9 = .slice (some ⟨A, 0, none⟩) nk cap → cap = nk ∧ Off A w.heap.size w9.heap.size w.heap.size w7.heap.size a8 ∧ w.heap.size ≤ A := by
    intro A cap h
    injection h with h1 h2 h3
    obtain ⟨hy, rfl, hV⟩ := H9.out.2 _ h1
    injection hy with hy1
    subst hy1
    have z7 := hb7.size
    have z8 := hb8.size
    have zl := hV.lt
    have zw := hw8.size
    refine ⟨h3.symm, ⟨by omega, by omega, fun q h1 h2 => by omega, fun y hy => ?_⟩, by omega⟩
    obtain ⟨rfl, _, hV8⟩ := H8.out.2 y hy
    have := hV8.lt
    simp; omega
  have HC : Hid _ := hcap
  have c6 := hR11.ack
  have f6 := hR11.free
  have hlo11 := hw11.size
  have hloR := hw10.size
  clear hcap H8 H9 hv8 hv9 hE7 hG10 hR11 hb7 hb8 hb9 hb10 hb11 hw8 hw9 hw10
  go_wp2_with fail
  refine (ack_first (lo := w.heap.size) G hS c6 f6 hA HC.out hlo11 hloR).mono ?_
  rintro e w12 ⟨rfl, hS12, hD12, hb12⟩
  have hw12 : Below w.heap.size w w12 := hw11.trans hb12
  obtain ⟨A, n', cap', B', C', p, hc, hf, hV, hAR, hoA, hlA, hok, hn', hp, hB, hC, hor⟩ := hD12
  have HP : Hid _ := And.intro hB (And.intro hC hor)
  clear hB hC hor hS12 hS hA HC c6 f6
  go_wp2_with fail
  refine (zzack_any w10.heap.size _ _ _ w12 hc).mono ?_
  rintro e w12' ⟨rfl, rfl⟩
  go_wp2
  go_ret
  exact ⟨⟨A, n', cap', B', C', p, rfl, hV, hok, hn', hp, HP.out.1, HP.out.2.1, HP.out.2.2⟩, hw12⟩

/-! ### the plain law -/
theorem ownF_split (V : VRow) (look : ByteArray → Int) : ∀ f k g m, ownF V look k (f + g) m = ownF V look (k + f) g (ownF V look k f m)
  | 0, k, g, m => by simp [ownF]
  | f + 1, k, g, m => by
    rw [show f + 1 + g = (f + g) + 1 by omega]
    by_cases hc : cntB (V.st k) (V.gone k) = true
    · rw [ownF_yes V look (f + g) k m hc, ownF_yes V look f k m hc]
      by_cases h : look (V.id k) < m
      · rw [if_pos h, if_pos h, ownF_split V look f (k + 1) g, show k + 1 + f = k + (f + 1) by omega]
      · rw [if_neg h, if_neg h, ownF_split V look f (k + 1) g, show k + 1 + f = k + (f + 1) by omega]
    · rw [ownF_no V look (f + g) k m hc, ownF_no V look f k m hc, ownF_split V look f (k + 1) g, show k + 1 + f = k + (f + 1) by omega]

def shiftV (V : VRow) (k : Nat) : VRow := ⟨fun i => V.id (k + i), fun i => V.st (k + i), fun i => V.inc (k + i), fun i => V.su (k + i), fun i => V.sd (k + i), fun i => V.gone (k + i)⟩

theorem ownF_shift (V : VRow) (look : ByteArray → Int) (d : Nat) : ∀ f k m, ownF (shiftV V d) look k f m = ownF V look (d + k) f m
  | 0, k, m => rfl
  | f + 1, k, m => by
    by_cases hc : cntB (V.st (d + k)) (V.gone (d + k)) = true
    · rw [ownF_yes V look f (d + k) m hc, ownF_yes (shiftV V d) look f k m hc, ownF_shift V look d f (k + 1), ownF_shift V look d f (k + 1)]
      rfl
    · rw [ownF_no V look f (d + k) m hc, ownF_no (shiftV V d) look f k m hc, ownF_shift V look d f (k + 1)]
      rfl

/-- the whole's is the lesser of the parts' -/
theorem want_split (me : ByteArray) (nv k : Nat) (hk : k ≤ nv) (V : VRow) (n : Nat) (B : Nat → ByteArray) (C : Nat → Int) :
    (want me (nv - k) (shiftV V k) n B C < want me k V n B C → want me nv V n B C = want me (nv - k) (shiftV V k) n B C) ∧ (want me k V n B C ≤ want me (nv - k) (shiftV V k) n B C → want me nv V n B C = want me k V n B C) := by
  have e1 : want me nv V n B C = ownF V (fun m => lookF B C m 0 n) k (nv - k) (want me k V n B C) := by
    unfold want
    have := ownF_split V (fun m => lookF B C m 0 n) k 0 (nv - k) (lookF B C me 0 n)
    rw [show k + (nv - k) = nv by omega, Nat.zero_add] at this
    exact this
  have e2 : want me (nv - k) (shiftV V k) n B C = ownF V (fun m => lookF B C m 0 n) k (nv - k) (lookF B C me 0 n) := by
    unfold want
    rw [ownF_shift]; rfl
  have h3 := ownF_min V (fun m => lookF B C m 0 n) (nv - k) k (want me k V n B C) (lookF B C me 0 n) (ownF_le_top V _ k 0 _)
  rw [e1, e2]
  exact h3

theorem ownF_is (V : VRow) (look : ByteArray → Int) : ∀ f k m, ownF V look k f m = m ∨ ∃ i, k ≤ i ∧ i < k + f ∧ cntB (V.st i) (V.gone i) = true ∧ look (V.id i) = ownF V look k f m
  | 0, k, m => Or.inl rfl
  | f + 1, k, m => by
    by_cases hc : cntB (V.st k) (V.gone k) = true
    · rw [ownF_yes V look f k m hc]
      by_cases h : look (V.id k) < m
      · rw [if_pos h]
        rcases ownF_is V look f (k + 1) (look (V.id k)) with e | ⟨i, h1, h2, h3, h4⟩
        · exact Or.inr ⟨k, Nat.le_refl _, by omega, hc, e.symm⟩
        · exact Or.inr ⟨i, by omega, by omega, h3, h4⟩
      · rw [if_neg h]
        rcases ownF_is V look f (k + 1) m with e | ⟨i, h1, h2, h3, h4⟩
        · exact Or.inl e
        · exact Or.inr ⟨i, by omega, by omega, h3, h4⟩
    · rw [ownF_no V look f k m hc]
      rcases ownF_is V look f (k + 1) m with e | ⟨i, h1, h2, h3, h4⟩
      · exact Or.inl e
      · exact Or.inr ⟨i, by omega, by omega, h3, h4⟩

theorem hasF_at (B : Nat → ByteArray) (m : ByteArray) (r : Nat) (hr : ((B r).toList == m.toList) = true) : ∀ (f k : Nat), k ≤ r → r < k + f → hasF B m k f = true
  | 0, k, h1, h2 => by omega
  | f + 1, k, h1, h2 => by
    unfold hasF
    by_cases e : ((B k).toList == m.toList) = true
    · rw [if_pos e]
    · rw [if_neg e]
      have hne : k ≠ r := fun e2 => e (by rw [e2]; exact hr)
      exact hasF_at B m r hr f (k + 1) (by omega) (by omega)

theorem self_at {n p : Nat} {B : Nat → ByteArray} {C : Nat → Int} {me : ByteArray} {cl : Int} (hok : VecOk n B) (hp : p < n) (hB : B p = me) (hC : C p = cl) : lookF B C me 0 n = cl ∧ hasF B me 0 n = true := by
  have he : ((B p).toList == me.toList) = true := by rw [hB]; simp
  refine ⟨?_, hasF_at B me p he n 0 (Nat.zero_le _) (by omega)⟩
  rw [← hC]
  exact lookF_at B C me p he n 0 (Nat.zero_le _) (by omega) (fun j _ hj => by rw [← hB]; exact bl_ne (hok.lt p j hj hp))

theorem ViewAt.part {w : World} {av : Option Addr} {nv : Nat} {V : VRow} (h : ViewAt w av nv V) (k : Nat) (hk : k ≤ nv) : ViewAt w av k V := by
  obtain ⟨b, off, ha, h0, h1, h2, h3, h4, h5⟩ := h
  exact ⟨b, off, ha.elim (fun h => Or.inl (by omega)) Or.inr, fun i hi => h0 i (by omega), fun i hi => h1 i (by omega), fun i hi => h2 i (by omega), fun i hi => h3 i (by omega), fun i hi => h4 i (by omega), fun i hi => h5 i (by omega)⟩

theorem ViewAt.rest {w : World} {av : Option Addr} {nv cv : Nat} {V : VRow} (h : ViewAt w av nv V) (k : Nat) (hk : k ≤ nv) (hc : nv ≤ cv) : ViewAt w (if cv = k then av else av.map (·.add (k * 6))) (nv - k) (shiftV V k) := by
  obtain ⟨b, off, ha, h0, h1, h2, h3, h4, h5⟩ := h
  refine ⟨b, off + k * 6, ?_, fun i hi => ?_, fun i hi => ?_, fun i hi => ?_, fun i hi => ?_, fun i hi => ?_, fun i hi => ?_⟩
  · by_cases hkn : nv - k ≤ 0
    · exact Or.inl hkn
    · right
      rw [if_neg (by omega)]
      rcases ha with ha | ha
      · omega
      · rw [ha]
        simp [Addr.add]
  · have := h0 (k + i) (by omega); rwa [show off + (k + i) * 6 = off + k * 6 + i * 6 by omega] at this
  · have := h1 (k + i) (by omega); rwa [show off + (k + i) * 6 = off + k * 6 + i * 6 by omega] at this
  · have := h2 (k + i) (by omega); rwa [show off + (k + i) * 6 = off + k * 6 + i * 6 by omega] at this
  · have := h3 (k + i) (by omega); rwa [show off + (k + i) * 6 = off + k * 6 + i * 6 by omega] at this
  · have := h4 (k + i) (by omega); rwa [show off + (k + i) * 6 = off + k * 6 + i * 6 by omega] at this
  · have := h5 (k + i) (by omega); rwa [show off + (k + i) * 6 = off + k * 6 + i * 6 by omega] at this

theorem Given.part {nv : Nat} {V : VRow} {n : Nat} {B : Nat → ByteArray} {C : Nat → Int} {nk : Nat} {Bk : Nat → ByteArray} (G : Given nv V n B C nk Bk) (k : Nat) (hk : k ≤ nv) : Given k V n B C nk Bk :=
  ⟨G.hn, by have := G.hnv; omega, G.hnk, G.sumOk, G.ackOk, ⟨fun i hi => G.viewOk.1 i (by omega), fun i hi => G.viewOk.2 i (by omega)⟩, fun i hi => G.ids i (by omega), G.top⟩
theorem Given.rest {nv : Nat} {V : VRow} {n : Nat} {B : Nat → ByteArray} {C : Nat → Int} {nk : Nat} {Bk : Nat → ByteArray} (G : Given nv V n B C nk Bk) (k : Nat) (hk : k ≤ nv) : Given (nv - k) (shiftV V k) n B C nk Bk :=
  ⟨G.hn, by have := G.hnv; omega, G.hnk, G.sumOk, G.ackOk, ⟨fun i hi => G.viewOk.1 (k + i) (by omega), fun i hi => G.viewOk.2 (k + i) (by omega)⟩, fun i hi => G.ids (k + i) (by omega), G.top⟩

theorem run_part {av : Option Addr} {nv cv : Nat} (k : Nat) (hk : k ≤ cv) (wx : World) : (Instr.sliceAt 22 (.slice av nv cv) none (some (.int .i64 (k : Int))) none).run Try.prog wx = .ok (.slice av k cv) wx := by
  have he : Try.prog.elem 22 = 38 := by simp [Program.elem, Try.underlying22]
  have hu : Try.prog.underlying 22 = some (.slice (Try.prog.elem 22)) := by rw [he]; exact Try.underlying22
  rw [run_sliceAt_slice (h := hu), run_slice_h (ht := hu) (h0 := by omega) (h2 := by omega), he, sz38]
  cases av <;> simp [sliced, Addr.add]
theorem run_rest {av : Option Addr} {nv cv : Nat} (k : Nat) (hk : k ≤ nv) (wx : World) : (Instr.sliceAt 22 (.slice av nv cv) (some (.int .i64 (k : Int))) none none).run Try.prog wx = .ok (.slice (if cv = k then av else av.map (·.add (k * 6))) (nv - k) (cv - k)) wx := by
  have he : Try.prog.elem 22 = 38 := by simp [Program.elem, Try.underlying22]
  have hu : Try.prog.underlying 22 = some (.slice (Try.prog.elem 22)) := by rw [he]; exact Try.underlying22
  rw [run_sliceAt_slice (h := hu), run_slice_l (ht := hu) (h0 := by omega) (h1 := by omega), he, sz38]
  simp [sliced]
end Go.Proofs.Qxb6613110a
