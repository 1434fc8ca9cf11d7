import Derived.Test.Qxb6613110aO
import Derived.Test.Qxb6613110aP
import Derived.Test.Qxb6613110aC
namespace Go.Proofs.Qxb6613110a
open Go.RowKit

def topC : Int := 18446744073709551615

/-- one round of least: what it makes of the least so far -/
theorem own_step_top {X : Int} {nv : Nat} (V : VRow) (look : ByteArray → Int) (k : Nat) (z : Int) (hlt : k < nv) (h : X = ownF V look k (nv - k) z) :
    (cntB (V.st k) (V.gone k) = false → X = ownF V look (k + 1) (nv - (k + 1)) z) ∧
      (cntB (V.st k) (V.gone k) = true → (look (V.id k) ≤ z → X = ownF V look (k + 1) (nv - (k + 1)) (look (V.id k))) ∧ (z ≤ look (V.id k) → X = ownF V look (k + 1) (nv - (k + 1)) z)) := by
  have := (own_step' V look k z hlt h).out
  refine ⟨this.1, fun hc => ⟨fun hl => ?_, (this.2 hc).2⟩⟩
  by_cases e : look (V.id k) < z
  · exact (this.2 hc).1 e
  · have e2 : look (V.id k) = z := by omega
    rw [e2]; exact (this.2 hc).2 (by omega)

theorem below_but {s : Nat} {S : Nat → Prop} {w wr w2 : World} (h : Below s w wr) (hs : s ≤ wr.heap.size) (hb : But S wr w2) (hS : ∀ k, k < s → ¬ S k) : Below s w w2 :=
  ⟨hb.os.trans h.os, hb.tape.trans h.tape, hb.output.trans h.output, Nat.le_trans h.size hb.size, fun k hk => (hb.block k (by omega) (hS k hk)).trans (h.block k hk)⟩

theorem RepAt.below {w w' : World} {R : Nat} {me : ByteArray} {view sum ack : Value} {bm : Nat} (h : RepAt w R me view sum ack bm) (hb : Below w.heap.size w w') : RepAt w' R me view sum ack bm :=
  ⟨down hb h.self_, down hb h.view, down hb h.sum, down hb h.ack, downF hb h.ack h.free, down hb h.gone⟩

set_option maxHeartbeats 2000000 in
set_option maxRecDepth 100000 in
theorem least_any (R : Nat) (me : ByteArray) (g nv bm base top : Nat) (V : VRow) (a : Option Addr) (n c : Nat) (B : Nat → ByteArray) (C : Nat → Int) (sum ack : Value) (w : World) (hn : n ≤ 1073741824) (hnv : nv ≤ 4096)
    (hR : RepAt w R me (.slice (some ⟨g, 0, none⟩) nv nv) sum ack bm) (hE : EntsAt w base top g nv V) (hG : GoneAt w bm nv V) (hv : VecAt w a n B C) (hok : VecOk n B) (hvo : ViewOk nv V)
    (hids : ∀ i, i < nv → (V.id i).size ≤ maxLen) (hab : ∀ y, a = some y → y.block < w.heap.size) (htop : ∀ m, lookF B C m 0 n ≤ topC) :
    Calls Try.prog 39 #[.pointer (some ⟨R, 0, none⟩), .slice a n c, .func (.func 40) #[.pointer (some ⟨R, 0, none⟩)] #[]] w fun e w' =>
      (∃ H : ByteArray, e = .returned (.tuple #[.int .u64 (ownF V (fun m => lookF B C m 0 n) 0 nv topC), .string H])) ∧ Below w.heap.size w w' := by
  have HAB : Hid _ := hab
  have HID : Hid _ := hids
  have HT : Hid _ := htop
  clear hab hids htop
  go_enter Try.func39, Try.ntmps39
  go_wp2_with fail
  refine (vwalk_any a n c _).mono ?_
  rintro e w1 ⟨rfl, hb1⟩
  have hbL : Below w.heap.size w (w1.alloc (.cells #[.slice a n c, .int .i64 0] 84)) := hb1.alloc hb1.size _
  have hWL : WalkAt (w1.alloc (.cells #[.slice a n c, .int .i64 0] 84)) w1.heap.size a n c 0 := ⟨by simp [go_sem], by simp [go_sem], by simp [go_sem], Nat.zero_le _⟩
  have hbw : w.heap.size ≤ w1.heap.size := hb1.size
  have r4 := down hbL hR.view
  have HOFF : Hid (∀ y, a = some y → ¬ y.block = w1.heap.size) := fun y hy => by have := HAB.out y hy; omega
  go_wp2_with fail
  go_loopw [8, 9, 22] (fun t h i wr => ∃ k : Nat, k ≤ nv ∧ i = .int .i64 k ∧ (∃ z : Int, t = .int .u64 z ∧ ∃ hs : ByteArray, h = .string hs ∧ Hid ((hs.toList.isEmpty = true → z = topC) ∧ ownF V (fun m => lookF B C m 0 n) 0 nv topC = ownF V (fun m => lookF B C m 0 n) k (nv - k) z)) ∧
      (∃ y, WalkAt wr w1.heap.size a n c y) ∧ Below w.heap.size w wr) (fun _ _ i _ => nv - (intOf i).toNat)
  case atStart => exact ⟨0, Nat.zero_le _, rfl, ⟨_, rfl, _, rfl, fun _ => rfl, rfl⟩, ⟨0, hWL⟩, hbL⟩
  case round =>
    clear hbL hWL r4
    obtain ⟨k, hk, rfl, ⟨z, rfl, hs, rfl, HZ⟩, ⟨y, hy⟩, hb⟩ := hrel
    by_cases hlt : k < nv
    · obtain ⟨q, hq1, hq2, hq3, e0, e1, e2⟩ := hE k hlt
      have HS : Hid _ := own_step_top V (fun m => lookF B C m 0 n) k z hlt HZ.out.2
      have c0 := down hb e0
      have HR := hR.below hb
      have hGr := hG.below hb
      go_wp2_with fail
      refine (bounds_any R q bm nv k V wr HR.gone (down hb e1) (down hb e2) hlt (HID.out k hlt) hGr).mono ?_
      rintro e w2 ⟨rfl, hb2⟩
      have hb3 : Below w.heap.size w w2 := hb.trans (hb2.mono hb.size)
      have hy3 := hy.below hb2
      clear c0 HR hGr hb hy hb2
      cases hc : cntB (V.st k) (V.gone k)
      · go_wp2
        go_roundw
        case rel => exact ⟨k + 1, by omega, by go_num, ⟨_, rfl, _, rfl, HZ.out.1, HS.out.1 hc⟩, ⟨_, hy3⟩, hb3⟩
        case measure => simp [intOf]; omega
      · have HNE : Hid _ := hvo.1 k hlt
        have q1 := down hb3 e1
        have hv3 := hv.below hb3
        go_wp2_with fail
        refine (following_any w1.heap.size a n c y B C _ w2 hn hy3 hv3 HOFF.out).mono ?_
        rintro e w3 ⟨rfl, ⟨y4, hy4⟩, hb4⟩
        have hb5 : Below w.heap.size w w3 := below_but hb3 hb3.size hb4 (fun k hk => by omega)
        have HH : Hid _ := fun h => hit_look (x := y) (m := V.id k) C hok h
        clear q1 hb4 hy3 hb3 hv3
        have q1 := down hb5 e1
        cases hh : hitB n B y (V.id k)
        · have hv5 := hv.below hb5
          go_wp2_with fail
          refine (wget_any w1.heap.size a n c y4 B C _ w3 hn hy4 hv5 hok HOFF.out).mono ?_
          rintro e w5 ⟨rfl, ⟨y5, hy5⟩, hb6⟩
          have hb7 : Below w.heap.size w w5 := below_but hb5 hb5.size hb6 (fun k hk => by omega)
          clear q1 hb6 hy4 hb5 hv5 HH
          rename Below w.heap.size w w5 => hb5
          have q1 := down hb5 e1
          cases hem : hs.toList.isEmpty
          · by_cases hlz : lookF B C (V.id k) 0 n < z
            · go_wp2_with fail
              go_quiet (fail)
              go_wp2
              go_roundw
              case rel => exact ⟨k + 1, by omega, by go_num, ⟨_, rfl, _, rfl, fun h => absurd h (by rw [HNE.out]; simp), (HS.out.2 hc).1 (by omega)⟩, ⟨_, hy5.below (below_drewN (Below.refl _ _) _)⟩, below_drewN hb5 _⟩
              case measure => simp [intOf]; omega
            · go_wp2
              go_roundw
              case rel => exact ⟨k + 1, by omega, by go_num, ⟨_, rfl, _, rfl, fun h => absurd h (by rw [hem]; simp), (HS.out.2 hc).2 (by omega)⟩, ⟨_, hy5⟩, hb5⟩
              case measure => simp [intOf]; omega
          · go_wp2_with fail
            go_quiet (fail)
            go_wp2
            go_roundw
            case rel => exact ⟨k + 1, by omega, by go_num, ⟨_, rfl, _, rfl, fun h => absurd h (by rw [HNE.out]; simp), (HS.out.2 hc).1 (by have h1 := HZ.out.1 hem; have h2 := HT.out (V.id k); rw [h1]; exact h2)⟩, ⟨_, hy5.below (below_drewN (Below.refl _ _) _)⟩, below_drewN hb5 _⟩
            case measure => simp [intOf]; omega
        · have HV : Hid _ := HH.out hh
          rename WalkAt w3 w1.heap.size a n c y4 => hy5
          clear HH
          rw [HV.out]
          cases hem : hs.toList.isEmpty
          · by_cases hlz : lookF B C (V.id k) 0 n < z
            · go_wp2_with fail
              go_quiet (fail)
              go_wp2
              go_roundw
              case rel => exact ⟨k + 1, by omega, by go_num, ⟨_, rfl, _, rfl, fun h => absurd h (by rw [HNE.out]; simp), (HS.out.2 hc).1 (by omega)⟩, ⟨_, hy5.below (below_drewN (Below.refl _ _) _)⟩, below_drewN hb5 _⟩
              case measure => simp [intOf]; omega
            · go_wp2
              go_roundw
              case rel => exact ⟨k + 1, by omega, by go_num, ⟨_, rfl, _, rfl, fun h => absurd h (by rw [hem]; simp), (HS.out.2 hc).2 (by omega)⟩, ⟨_, hy5⟩, hb5⟩
              case measure => simp [intOf]; omega
          · go_wp2_with fail
            go_quiet (fail)
            go_wp2
            go_roundw
            case rel => exact ⟨k + 1, by omega, by go_num, ⟨_, rfl, _, rfl, fun h => absurd h (by rw [HNE.out]; simp), (HS.out.2 hc).1 (by have h1 := HZ.out.1 hem; have h2 := HT.out (V.id k); rw [h1]; exact h2)⟩, ⟨_, hy5.below (below_drewN (Below.refl _ _) _)⟩, below_drewN hb5 _⟩
            case measure => simp [intOf]; omega
    · go_wp2
      go_ret2
      exact ⟨⟨hs, by rw [HZ.out.2, show nv - k = 0 from by omega]; rfl⟩, hb⟩
end Go.Proofs.Qxb6613110a
