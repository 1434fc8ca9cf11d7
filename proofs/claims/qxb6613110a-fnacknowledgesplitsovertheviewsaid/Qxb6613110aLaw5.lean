import Derived.Test.Qxb6613110aZ
import Derived.Test.Qxb6613110aS
namespace Go.Proofs.Qxb6613110a
open Go.RowKit

theorem AckDone.below {w w' : World} {R : Nat} {me : ByteArray} {cl : Int} {nk : Nat} {Bk : Nat → ByteArray} {Ck : Nat → Int} {lo g bm base top : Nat} {a : Option Addr} (h : AckDone w R me cl nk Bk Ck lo g bm base top a) (hb : Below w.heap.size w w') : AckDone w' R me cl nk Bk Ck lo g bm base top a := by
  obtain ⟨A, n', cap', B', C', p, hc, hf, hV, r⟩ := h
  exact ⟨A, n', cap', B', C', p, down hb hc, downF hb hc hf, hV.below hb, r⟩

/-- what buildVec hands back, nil or not -/
def Built (w w' : World) (n : Nat) (B : Nat → ByteArray) (C : Nat → Int) (e : Ending) : Prop :=
  ∃ a' c', e = .returned (.slice a' n c') ∧ VecAt w' a' n B C ∧ (a' = none → n = 0 ∧ c' = 0) ∧ (∀ y, a' = some y → y = ⟨w.heap.size, 0, none⟩ ∧ c' = n ∧ OwnVec w' w.heap.size n n B C)

theorem buildVec_all (a : Option Addr) (n c : Nat) (B : Nat → ByteArray) (C : Nat → Int) (w : World) (hm : n ≤ 4096) (hv : VecAt w a n B C) (hnil : a = none → n = 0 ∧ c = 0) :
    Calls Try.prog 14 #[.slice a n c] w fun e w' => Built w w' n B C e ∧ Below w.heap.size w w' := by
  cases ha : a with
  | none =>
    obtain ⟨rfl, rfl⟩ := hnil ha
    refine (buildVec_nil w).mono ?_
    rintro e w' ⟨he, rfl⟩
    exact ⟨⟨none, 0, he, ⟨0, 0, Or.inl (Nat.le_refl _), fun i hi => by omega, fun i hi => by omega⟩, fun _ => ⟨rfl, rfl⟩, fun y hy => by cases hy⟩, Below.refl _ _⟩
  | some x =>
    rw [ha] at hv
    refine (buildVec_any (some x) n c B C w hm hv rfl).mono ?_
    rintro e w' ⟨he, hV, hb⟩
    refine ⟨⟨_, n, he, hV.vec, ?_, ?_⟩, hb⟩
    · intro h; cases h
    · intro y hy; exact ⟨(Option.some.inj hy).symm, rfl, hV⟩

/-- the law's input, as it lies in memory -/
structure Inp (w : World) (me : ByteArray) (av : Option Addr) (nv : Nat) (V : VRow) (as_ : Option Addr) (ns cs : Nat) (Bs : Nat → ByteArray) (Cs : Nat → Int) (ak : Option Addr) (nk ck : Nat) (Bk : Nat → ByteArray) (Ck : Nat → Int) : Prop where
  maxV : nv ≤ maxLen
  maxS : ns ≤ maxLen
  maxK : nk ≤ maxLen
  view : ViewAt w av nv V
  sum : VecAt w as_ ns Bs Cs
  ack : VecAt w ak nk Bk Ck
  ids : ∀ i, i < nv → (V.id i).size ≤ maxLen
  gone : ∀ i, i < nv → (Lit.int .u64 (V.gone i)).wf = true
  clocks : ∀ i, i < ns → Cs i ≤ topC
  snil : as_ = none → ns = 0 ∧ cs = 0
  knil : ak = none → nk = 0 ∧ ck = 0

theorem lookF_top {B : Nat → ByteArray} {C : Nat → Int} (m : ByteArray) : ∀ f k, (∀ i, k ≤ i → i < k + f → C i ≤ topC) → lookF B C m k f ≤ topC
  | 0, k, _ => by simp [lookF, topC]
  | f + 1, k, h => by
    unfold lookF
    split
    · exact h k (Nat.le_refl _) (by omega)
    · exact lookF_top m f (k + 1) (fun i h1 h2 => h i (by omega) (by omega))

set_option maxHeartbeats 4000000 in
set_option maxRecDepth 100000 in
theorem law5 (me : ByteArray) (av : Option Addr) (nv cv : Nat) (V : VRow) (as_ : Option Addr) (ns cs : Nat) (Bs : Nat → ByteArray) (Cs : Nat → Int) (ak : Option Addr) (nk ck : Nat) (Bk : Nat → ByteArray) (Ck : Nat → Int) (w : World)
    (I : Inp w me av nv V as_ ns cs Bs Cs ak nk ck Bk Ck) :
    Calls Try.prog 5 #[.string me, .slice av nv cv, .slice as_ ns cs, .slice ak nk ck] w fun e w' => e = .returned (.bool true) ∧ Below w.heap.size w w' := by
  go_enter Try.func5, Try.ntmps5
  go_wp2_with fail
  refine (bytes5_any me av nv cv V as_ ns cs Bs Cs ak nk ck Bk Ck _ I.maxV I.maxS I.maxK I.view I.sum I.ack).mono ?_
  rintro e w1 ⟨⟨r1, rfl, _⟩, hb1⟩
  cases r1
  · go_wp2
    go_ret
    exact ⟨rfl, hb1⟩
  by_cases h1 : (4096 : Int) < (me.size : Int)
  · go_wp2
    go_ret
    exact ⟨rfl, hb1⟩
  by_cases h2 : (4096 : Int) < (nv : Int)
  · go_wp2
    go_ret
    exact ⟨rfl, hb1⟩
  by_cases h3 : (4096 : Int) < (ns : Int)
  · go_wp2
    go_ret
    exact ⟨rfl, hb1⟩
  by_cases h4 : (4096 : Int) < (nk : Int)
  · go_wp2
    go_ret
    exact ⟨rfl, hb1⟩
  have k1 : decide ((4096 : Int) < (me.size : Int)) = false := by simp; omega
  have k2 : decide ((4096 : Int) < (nv : Int)) = false := by simp; omega
  have k3 : decide ((4096 : Int) < (ns : Int)) = false := by simp; omega
  have k4 : decide ((4096 : Int) < (nk : Int)) = false := by simp; omega
  have hnv : nv ≤ 4096 := by omega
  have hns : ns ≤ 4096 := by omega
  have hnk : nk ≤ 4096 := by omega
  go_wp2_with fail
  clear k1 k2 k3 k4 h1 h2 h3 h4
  refine (sizeOK_any av nv cv V as_ ns cs Bs Cs ak nk ck Bk Ck _ _ I.maxV I.maxS I.maxK (I.view.below hb1) (I.sum.below hb1) (I.ack.below hb1)).mono ?_
  rintro e w2 ⟨⟨r2, rfl, _⟩, hb2'⟩
  have hb2 : Below w.heap.size w w2 := hb1.trans (hb2'.mono hb1.size)
  clear hb1 hb2'
  cases r2
  · go_wp2
    go_ret
    exact ⟨rfl, hb2⟩
  go_wp2_with fail
  refine (viewOK_any av nv cv V _ I.maxV (I.view.below hb2)).mono ?_
  rintro e w3 ⟨⟨r3, rfl, hr3⟩, hb3'⟩
  have hb3 : Below w.heap.size w w3 := hb2.trans (hb3'.mono hb2.size)
  clear hb2 hb3'
  cases r3
  · clear hr3
    go_wp2
    go_ret
    exact ⟨rfl, hb3⟩
  have HV := hr3 rfl
  clear hr3
  go_wp2_with fail
  refine (vecOK_any as_ ns cs Bs Cs _ I.maxS (I.sum.below hb3)).mono ?_
  rintro e w4 ⟨⟨r4, rfl, hr4⟩, hb4'⟩
  have hb4 : Below w.heap.size w w4 := hb3.trans (hb4'.mono hb3.size)
  clear hb3 hb4'
  cases r4
  · clear hr4
    go_wp2
    go_ret
    exact ⟨rfl, hb4⟩
  have HVS := hr4 rfl
  clear hr4
  go_wp2_with fail
  refine (vecOK_any ak nk ck Bk Ck _ I.maxK (I.ack.below hb4)).mono ?_
  rintro e w5 ⟨⟨r5, rfl, hr5⟩, hb5'⟩
  have hb5 : Below w.heap.size w w5 := hb4.trans (hb5'.mono hb4.size)
  clear hb4 hb5'
  cases r5
  · clear hr5
    go_wp2
    go_ret
    exact ⟨rfl, hb5⟩
  have HVK := hr5 rfl
  clear hr5
  have G : Given nv V ns Bs Cs nk Bk := ⟨hns, hnv, hnk, HVS, HVK, HV, I.ids, fun m => lookF_top m ns 0 (fun i _ hi => I.clocks i (by omega))⟩
  clear HVS HVK HV
  go_wp2_with fail
  refine (ownAck_any me av nv cv V as_ ns cs Bs Cs _ I.maxV I.maxS (I.view.below hb5) (I.sum.below hb5)).mono ?_
  rintro e w6 ⟨rfl, hb6'⟩
  have hb6 : Below w.heap.size w w6 := hb5.trans (hb6'.mono hb5.size)
  clear hb5 hb6'
  go_wp2_with fail
  refine (buildView_any av nv cv V _ hnv (I.view.below hb6)).mono ?_
  rintro e w7 ⟨rfl, hg7, hE7, hb7⟩
  have hw7 : Below w.heap.size w w7 := hb6.trans (hb7.mono hb6.size)
  go_wp2_with fail
  refine (buildVec_all as_ ns cs Bs Cs _ hns (I.sum.below hw7) I.snil).mono ?_
  rintro e w8 ⟨⟨a8, c8, rfl, hv8, hn8, ho8⟩, hb8⟩
  have hw8 : Below w.heap.size w w8 := hw7.trans (hb8.mono hw7.size)
  have H8 : Hid _ := And.intro hn8 ho8
  clear hn8 ho8
  go_wp2_with fail
  refine (buildVec_all ak nk ck Bk Ck _ hnk (I.ack.below hw8) I.knil).mono ?_
  rintro e w9 ⟨⟨a9, c9, rfl, hv9, hn9, ho9⟩, hb9⟩
  have hw9 : Below w.heap.size w w9 := hw8.trans (hb9.mono hw8.size)
  have H9 : Hid _ := And.intro hn9 ho9
  clear hn9 ho9
  go_wp2_with fail
  refine (buildGone_any av nv cv V _ hnv (I.view.below hw9) I.ids I.gone).mono ?_
  rintro e w10 ⟨rfl, hm10, hb10⟩
  have hw10 : Below w.heap.size w w10 := hw9.trans (hb10.mono hw9.size)
  have hG10 := gone_at G.viewOk hm10
  clear hm10
  go_wp2_with fail
  refine (newReplica_any me _ _ _ ⟨_, _, _, rfl⟩ ⟨_, _, _, rfl⟩ ⟨_, _, _, rfl⟩ w9.heap.size w10).mono ?_
  rintro e w11 ⟨rfl, hR11, hz11, hb11⟩
  have hw11 : Below w.heap.size w w11 := hw10.trans (hb11.mono hw10.size)
  have hS : Setup w11 w10.heap.size me w6.heap.size nv w9.heap.size w6.heap.size w7.heap.size V a8 ns c8 Bs Cs := by
    have z7 := hb7.size
    have z8 := hb8.size
    have z9 := hb9.size
    have z10 := hb10.size
    have zg := hG10.lt
    refine ⟨hR11.self_, hR11.view, hR11.sum, hR11.gone, ?_, hG10.below hb11, ?_, ?_, by omega, by omega, ?_⟩
    · exact (((hE7.below hb8 (Nat.le_refl _)).below hb9 (Nat.le_refl _)).below hb10 (Nat.le_refl _)).below hb11 (Nat.le_refl _)
    · exact ((hv8.below hb9).below hb10).below hb11
    · intro y hy
      obtain ⟨rfl, _, hV⟩ := H8.out.2 y hy
      have := hV.lt
      simp; omega
    · refine ⟨by omega, by omega, fun q h1 h2 => by omega, fun y hy => ?_⟩
      obtain ⟨rfl, _, hV⟩ := H8.out.2 y hy
      have := hV.lt
      simp; omega
  have hA : AckAt w11 w10.heap.size (.slice a9 nk c9) nk Bk Ck := by
    have z10 := hb10.size
    cases ha : a9 with
    | none =>
      obtain ⟨h1, h2⟩ := H9.out.1 ha
      subst h1 h2
      exact Or.inl ⟨rfl, rfl⟩
    | some y =>
      obtain ⟨rfl, rfl, hV⟩ := H9.out.2 y ha
      have := hV.lt
      exact Or.inr ⟨_, _, rfl, (hV.below hb10).below hb11, by omega⟩
  have hcap : ∀ A cap, Value.slice a9 nk c9 = .slice (some ⟨A, 0, none⟩) nk cap → cap = nk ∧ Off A w6.heap.size w9.heap.size w6.heap.size w7.heap.size a8 ∧ w.heap.size ≤ A := by
    intro A cap h
    injection h with h1 h2 h3
    obtain ⟨hy, rfl, hV⟩ := H9.out.2 _ h1
    injection hy with hy1
    subst hy1
    have z7 := hb7.size
    have z8 := hb8.size
    have zl := hV.lt
    have zw := hw8.size
    refine ⟨h3.symm, ⟨by omega, by omega, fun q h1 h2 => by omega, fun y hy => ?_⟩, by omega⟩
    obtain ⟨rfl, _, hV8⟩ := H8.out.2 y hy
    have := hV8.lt
    simp; omega
  have HC : Hid _ := hcap
  have c6 := hR11.ack
  have f6 := hR11.free
  have hlo11 := hw11.size
  have hloR := hw10.size
  clear hcap H8 H9 hv8 hv9 hE7 hG10 hR11 hb7 hb8 hb9 hb10 hb11 hw7 hw8 hw9 hw10 hb6
  go_wp2_with fail
  refine (ack_first (lo := w.heap.size) G hS c6 f6 hA HC.out hlo11 hloR).mono ?_
  rintro e w12 ⟨rfl, hS12, hD12, hb12⟩
  have hw12 : Below w.heap.size w w12 := hw11.trans hb12
  obtain ⟨A, n', cap', hc12, hack⟩ := ackIs_done hD12 ak ck (I.ack.below hw12) hnk
  have HACK : Hid (Calls Try.prog 24 #[.slice (some ⟨A, 0, none⟩) n' cap', .slice ak nk ck, .string me, .int .u64 (want me nv V ns Bs Cs)] w12 fun e w' => e = .returned (.bool true) ∧ Below w12.heap.size w12 w') := hack
  clear hack hS hA HC c6 f6
  go_wp2_with fail
  refine (zzack_any w10.heap.size _ _ _ w12 hc12).mono ?_
  rintro e w12' ⟨rfl, rfl⟩
  go_wp2_with fail
  refine Calls.mono HACK.out ?_
  rintro e w13 ⟨rfl, hb13⟩
  have hS13 := hS12.below hb13
  have hD13 := hD12.below hb13
  have hw13 : Below w.heap.size w w13 := hw12.trans (hb13.mono hw12.size)
  clear hS12 hD12 hb13 HACK hc12
  go_wp2_with fail
  refine (ack_again (lo := w.heap.size) G hS13 hD13 hw13.size).mono ?_
  rintro e w14 ⟨rfl, hD14, hb14⟩
  have hw14 : Below w.heap.size w w14 := hw13.trans hb14
  obtain ⟨A2, n2, cap2, hc14, hack⟩ := ackIs_done hD14 ak ck (I.ack.below hw14) hnk
  have HACK : Hid (Calls Try.prog 24 #[.slice (some ⟨A2, 0, none⟩) n2 cap2, .slice ak nk ck, .string me, .int .u64 (want me nv V ns Bs Cs)] w14 fun e w' => e = .returned (.bool true) ∧ Below w14.heap.size w14 w') := hack
  clear hack
  go_wp2_with fail
  refine (zzack_any w10.heap.size _ _ _ w14 hc14).mono ?_
  rintro e w14' ⟨rfl, rfl⟩
  go_wp2_with fail
  refine Calls.mono HACK.out ?_
  rintro e w15 ⟨rfl, hb15⟩
  go_wp2
  go_ret
  exact ⟨rfl, hw14.trans (hb15.mono hw14.size)⟩
end Go.Proofs.Qxb6613110a
