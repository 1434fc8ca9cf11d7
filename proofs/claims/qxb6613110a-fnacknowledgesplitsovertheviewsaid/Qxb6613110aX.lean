import Derived.Test.Qxb6613110aQ
import Derived.Deep.RegionWith
namespace Go.Proofs.Qxb6613110a
open Go.RowKit

/-- the least of m and of the counted members' clocks, m drawn out -/
theorem ownF_le_top (V : VRow) (look : ByteArray → Int) : ∀ f k m, ownF V look k f m ≤ m
  | 0, k, m => Int.le_refl _
  | f + 1, k, m => by
    unfold ownF
    split
    · split
      · have := ownF_le_top V look f (k + 1) (look (V.id k)); omega
      · exact ownF_le_top V look f (k + 1) m
    · exact ownF_le_top V look f (k + 1) m
theorem ownF_yes (V : VRow) (look : ByteArray → Int) (f k : Nat) (m : Int) (hc : cntB (V.st k) (V.gone k) = true) : ownF V look k (f + 1) m = if look (V.id k) < m then ownF V look (k + 1) f (look (V.id k)) else ownF V look (k + 1) f m := by
  show (if cntB (V.st k) (V.gone k) = true then _ else _) = _
  rw [if_pos hc]
theorem ownF_no (V : VRow) (look : ByteArray → Int) (f k : Nat) (m : Int) (hc : ¬ cntB (V.st k) (V.gone k) = true) : ownF V look k (f + 1) m = ownF V look (k + 1) f m := by
  show (if cntB (V.st k) (V.gone k) = true then _ else _) = _
  rw [if_neg hc]
theorem ownF_min (V : VRow) (look : ByteArray → Int) : ∀ f k m t, m ≤ t → (ownF V look k f t < m → ownF V look k f m = ownF V look k f t) ∧ (m ≤ ownF V look k f t → ownF V look k f m = m)
  | 0, k, m, t, h => ⟨fun h1 => by simp only [ownF] at h1; omega, fun _ => rfl⟩
  | f + 1, k, m, t, h => by
    by_cases hc : cntB (V.st k) (V.gone k) = true
    · rw [ownF_yes V look f k m hc, ownF_yes V look f k t hc]
      by_cases h1 : look (V.id k) < m
      · rw [if_pos h1, if_pos (show look (V.id k) < t by omega)]
        have := ownF_le_top V look f (k + 1) (look (V.id k))
        exact ⟨fun _ => rfl, fun h2 => by omega⟩
      · rw [if_neg h1]
        by_cases h2 : look (V.id k) < t
        · rw [if_pos h2]; exact ownF_min V look f (k + 1) m _ (by omega)
        · rw [if_neg h2]; exact ownF_min V look f (k + 1) m t h
    · rw [ownF_no V look f k m hc, ownF_no V look f k t hc]; exact ownF_min V look f (k + 1) m t h

set_option maxHeartbeats 2000000 in
set_option maxRecDepth 100000 in
theorem ack_any (R : Nat) (me : ByteArray) (g nv bm base top : Nat) (V : VRow) (a : Option Addr) (n c : Nat) (B : Nat → ByteArray) (C : Nat → Int) (ack : Value) (w : World) (hn : n ≤ 1073741824) (hnv : nv ≤ 4096)
    (hR : RepAt w R me (.slice (some ⟨g, 0, none⟩) nv nv) (.slice a n c) ack bm) (hE : EntsAt w base top g nv V) (hG : GoneAt w bm nv V) (hv : VecAt w a n B C) (hok : VecOk n B) (hvo : ViewOk nv V)
    (hids : ∀ i, i < nv → (V.id i).size ≤ maxLen) (hab : ∀ y, a = some y → y.block < w.heap.size) (htop : ∀ m, lookF B C m 0 n ≤ topC) (Post : World → World → Prop) (CL : Int) (hCL : CL = ownF V (fun m => lookF B C m 0 n) 0 nv (lookF B C me 0 n))
    (hset : ∀ w', Below w.heap.size w w' → Calls Try.prog 41 #[.pointer (some ⟨R, 6, none⟩), .string me, .int .u64 CL] w' fun e w'' => e = .returned (.tuple #[]) ∧ Post w' w'') :
    Calls Try.prog 35 #[.pointer (some ⟨R, 0, none⟩)] w fun e w'' => e = .returned (.tuple #[]) ∧ ∃ w', Below w.heap.size w w' ∧ Post w' w'' := by
  have hmf : ∀ (fn : Fn) (first cap : Array Value) (w : World), (Instr.makeFunc fn first cap).run Try.prog w = .ok (.func fn first cap) w := fun _ _ _ _ => rfl
  have HS : Hid _ := hset
  have HCL : Hid _ := hCL
  have HT : Hid _ := htop
  have HID : Hid _ := hids
  have HAB : Hid _ := hab
  have c5 := hR.sum
  clear hset hCL htop hids hab
  go_enter Try.func35, Try.ntmps35
  go_wp2_with fail
  refine (least_any R me g nv bm base top V a n c B C _ ack w hn hnv hR hE hG hv hok hvo HID.out HAB.out HT.out).mono ?_
  rintro e w1 ⟨⟨H, rfl⟩, hb1⟩
  have d1 := down hb1 hR.self_
  have d5 := down hb1 hR.sum
  have hv1 := hv.below hb1
  have HF : Hid _ := ownF_min V (fun m => lookF B C m 0 n) nv 0 (lookF B C me 0 n) topC (HT.out me)
  clear hR hE hG hv c5 HID HAB
  by_cases hlt : ownF V (fun m => lookF B C m 0 n) 0 nv topC < lookF B C me 0 n
  · have HE : CL = ownF V (fun m => lookF B C m 0 n) 0 nv topC := by rw [HCL.out]; exact HF.out.1 hlt
    subst HE
    go_wp2_with fail
    go_region_with (first | (go_at_call 42; refine (vget_any a n c B C me _ hn ?_ hok).mono ?_; exact hv1; rintro e w5 ⟨rfl, hb5⟩; have d51 := down hb5 d1; have hb6 : Below w.heap.size w w5 := hb1.drew.trans (hb5.mono hb1.size); clear hb5) | (go_at_call 41; refine (HS.out _ hb6).mono ?_; rintro e w7 ⟨rfl, hP⟩))
    all_goals
      go_wp2
      go_end0
      exact ⟨rfl, w5, hb6, hP⟩
  · have HE : CL = lookF B C me 0 n := by rw [HCL.out]; exact HF.out.2 (by omega)
    subst HE
    have HLE : Hid _ := hlt
    go_wp2_with fail
    go_region_with (first | (go_at_call 42; refine (vget_any a n c B C me _ hn ?_ hok).mono ?_; exact hv1; rintro e w5 ⟨rfl, hb5⟩; have d51 := down hb5 d1; have hb6 : Below w.heap.size w w5 := hb1.drew.trans (hb5.mono hb1.size); clear hb5) | (go_at_call 41; (try rw [if_neg HLE.out]); refine (HS.out _ hb6).mono ?_; rintro e w7 ⟨rfl, hP⟩))
    all_goals
      go_wp2
      go_end0
      exact ⟨rfl, w5, hb6, hP⟩
end Go.Proofs.Qxb6613110a
