import Derived.Test.Qxb6612650aDoorD
import Derived.Lib.SliceRun
namespace Go.Proofs.Qxb6612650aDoor
open Go.RowKit

/-- the first place from k on that holds v, or -1 -/
def idxG (P : Nat → Option Addr) (v : Option Addr) : Nat → Nat → Int
  | _, 0 => -1
  | k, f + 1 => if (P k == v) = true then (k : Int) else idxG P v (k + 1) f

/-- what DeleteFunc leaves of a slice that held p (perhaps) and q (perhaps), p being deleted -/
def DelRes (blk : Nat) (b2 : Bool) (p q : Option Addr) (w : World) (e : Ending) (w' : World) : Prop :=
  ∃ cap', e = .returned (.slice (some ⟨blk, 0, none⟩) b2.toNat cap') ∧ b2.toNat ≤ cap' ∧ Two w' blk false b2 p q ∧ But (· = blk) w w' ∧ Alive w' blk

set_option maxHeartbeats 400000 in
theorem is_30 (p v : Option Addr) (cb : Nat) (w : World) (hc : w.cell? ⟨cb, 0, none⟩ = some (.pointer v)) (hp : Liv w p) (hv : Liv w v) :
    Calls Tryd.prog 30 #[.pointer p, .pointer (some ⟨cb, 0, none⟩)] w fun e w' => e = .returned (.bool (p == v)) ∧ w' = w := by
  have hq := eql32 hp hv
  clear hp hv
  go_enter Tryd.func30, Tryd.ntmps30
  go_wp2
  go_ret
  exact ⟨rfl, rfl⟩

set_option maxHeartbeats 400000 in
set_option maxRecDepth 100000 in
theorem indexFunc_35 (b n c : Nat) (P : Nat → Option Addr) (v : Option Addr) (cb : Nat) (w : World) (hm : n ≤ 32768) (hv : PtrsAt w b n P) (hl : ∀ i, i < n → Liv w (P i)) (hlv : Liv w v) (hc : w.cell? ⟨cb, 0, none⟩ = some (.pointer v)) :
    Calls Tryd.prog 35 #[.slice (some ⟨b, 0, none⟩) n c, .func (.func 30) #[] #[.pointer (some ⟨cb, 0, none⟩)]] w fun e w' => e = .returned (.int .i64 (idxG P v 0 n)) ∧ w' = w := by
  go_enter Tryd.func35, Tryd.ntmps35
  go_wp2
  go_loop [5, 8] (fun _ i => ∃ k : Nat, k ≤ n ∧ i = .int .i64 k ∧ Hid (idxG P v 0 n = idxG P v k (n - k))) (fun _ i => n - (intOf i).toNat)
  case atStart => exact ⟨0, Nat.zero_le _, rfl, rfl⟩
  case round =>
      obtain ⟨k, hk, rfl, HL⟩ := hrel
      by_cases hlt : k < n
      · have g0 := hv k hlt
        have HK : Hid _ := is_30 (P k) v cb w hc (hl k hlt) hlv
        have HS : Hid (idxG P v 0 n = if (P k == v) = true then (k : Int) else idxG P v (k + 1) (n - (k + 1))) := by
             have e : n - k = (n - (k + 1)) + 1 := by omega
             unfold Hid; rw [HL.out, e]; rfl
        clear HL hv hl hlv
        go_wp2_with fail
        refine Calls.mono HK.out ?_
        rintro e w2 ⟨rfl, rfl⟩
        clear HK
        cases e1 : (P k == v)
        · rw [e1] at HS
          go_wp2
          go_round
          case rel => exact ⟨k + 1, by omega, by go_num, by rw [HS.out]; rfl⟩
          case measure => simp [intOf]; omega
        · rw [e1] at HS
          go_wp2
          go_ret
          exact ⟨ret_int (by rw [HS.out]; rfl), rfl⟩
      · go_wp2
        go_ret
        exact ⟨ret_int (by rw [HL.out, show n - k = 0 from by omega]; rfl), rfl⟩

theorem zero32 (w : World) : (zeroValue 32).run Tryd.prog w = .ok (.pointer none) w := by kernel_rfl
theorem clr40 (w : World) (b o c : Nat) {v : Value} (h : Cel w ⟨b, o, none⟩ v) (ty : TypeId) : (Builtin.clear_ #[40] ty #[.slice (some ⟨b, o, none⟩) 1 c]).run Tryd.prog w = .ok (.tuple #[]) (w.setCell ⟨b, o, none⟩ (.pointer none)) :=
  Lib.run_clear_slice w 40 32 ty (.pointer none) Tryd.underlying40 zero32 rfl rfl b o 1 c (by omega)
    (fun j hj => by rw [show j = 0 from by omega]; rw [show o + 0 = o from rfl, h.c]; rfl) (fun j hj => by rw [show j = 0 from by omega]; exact h.f)

set_option maxHeartbeats 1000000 in
set_option maxRecDepth 100000 in
theorem delete_29 (blk cap : Nat) (b1 b2 : Bool) (p q : Option Addr) (cb : Nat) (w : World) (hcap : b1.toNat + b2.toNat ≤ cap) (hT : Two w blk b1 b2 p q) (hlp : Liv w p) (hlq : Liv w q) (hne : (q == p) = false) (hcb : Cel w ⟨cb, 0, none⟩ (.pointer p)) (hal : Alive w blk) :
    Calls Tryd.prog 29 #[.slice (some ⟨blk, 0, none⟩) (b1.toNat + b2.toNat) cap, .func (.func 30) #[] #[.pointer (some ⟨cb, 0, none⟩)]] w fun e w' => DelRes blk b2 p q w e w' := by
  have hc := hcb.c
  have HAL : Hid (Alive w blk) := hal
  clear hal
  cases b1
  · cases b2
    · have HK : Hid (Calls Tryd.prog 35 #[.slice (some ⟨blk, 0, none⟩) 0 cap, .func (.func 30) #[] #[.pointer (some ⟨cb, 0, none⟩)]] w fun e w' => e = .returned (.int .i64 (-1)) ∧ w' = w) := indexFunc_35 blk 0 cap (fun _ => none) p cb w (by omega) (fun i hi => by omega) (fun i hi => by omega) hlp hc
      have HT : Hid _ := hT
      clear hT hlp hlq hne hcb hc
      go_enter Tryd.func29, Tryd.ntmps29
      go_wp2_with fail
      refine Calls.mono HK.out ?_
      rintro e w2 ⟨rfl, rfl⟩
      go_wp2
      go_ret
      exact ⟨cap, rfl, Nat.zero_le _, HT.out, But.refl _ _, HAL.out⟩
    · have HK : Hid (Calls Tryd.prog 35 #[.slice (some ⟨blk, 0, none⟩) 1 cap, .func (.func 30) #[] #[.pointer (some ⟨cb, 0, none⟩)]] w fun e w' => e = .returned (.int .i64 (-1)) ∧ w' = w) := by
        have := indexFunc_35 blk 1 cap (fun _ => q) p cb w (by omega) (fun i hi => by rw [show i = 0 from by omega]; exact (hT.two rfl).c) (fun i hi => hlq) hlp hc
        unfold Hid; simpa [idxG, hne] using this
      have HT : Hid _ := hT
      have HC : Hid (1 ≤ cap) := hcap
      clear hT hlp hlq hne hcb hc hcap
      go_enter Tryd.func29, Tryd.ntmps29
      go_wp2_with fail
      refine Calls.mono HK.out ?_
      rintro e w2 ⟨rfl, rfl⟩
      go_wp2
      go_ret
      exact ⟨cap, rfl, HC.out, HT.out, But.refl _ _, HAL.out⟩
  · cases b2
    · have HK : Hid (Calls Tryd.prog 35 #[.slice (some ⟨blk, 0, none⟩) 1 cap, .func (.func 30) #[] #[.pointer (some ⟨cb, 0, none⟩)]] w fun e w' => e = .returned (.int .i64 0) ∧ w' = w) := by
        have := indexFunc_35 blk 1 cap (fun _ => p) p cb w (by omega) (fun i hi => by rw [show i = 0 from by omega]; exact (hT.one rfl).c) (fun i hi => hlp) hlp hc
        unfold Hid; simpa [idxG] using this
      have hcl := fun c => clr40 w blk 0 c (hT.one rfl)
      have HT : Hid _ := hT
      have hcap' : 1 ≤ cap := hcap
      clear hT hlp hlq hne hcb hc hcap
      go_enter Tryd.func29, Tryd.ntmps29
      go_wp2_with fail
      refine Calls.mono HK.out ?_
      rintro e w2 ⟨rfl, rfl⟩
      go_wp2
      go_loopw [5, 6, 7] (fun i j _ wr => i = .int .i64 0 ∧ j = .int .i64 1 ∧ wr = w2) (fun _ j _ _ => 2 - (intOf j).toNat)
      case atStart => exact ⟨rfl, rfl, rfl⟩
      case round =>
        obtain ⟨rfl, rfl, rfl⟩ := hrel
        go_wp2
        go_ret
        exact ⟨_, rfl, Nat.zero_le _, ⟨fun h => absurd h (by simp), fun h => absurd h (by simp)⟩, (But.refl (· = blk) _).setCell (p := ⟨blk, 0, none⟩) (Or.inl rfl) _, HAL.out.setCell _ _ _⟩
    · have HK : Hid (Calls Tryd.prog 35 #[.slice (some ⟨blk, 0, none⟩) 2 cap, .func (.func 30) #[] #[.pointer (some ⟨cb, 0, none⟩)]] w fun e w' => e = .returned (.int .i64 0) ∧ w' = w) := by
        have := indexFunc_35 blk 2 cap (fun i => if i = 0 then p else q) p cb w (by omega) (fun i hi => by rcases (by omega : i = 0 ∨ i = 1) with rfl | rfl; exact (hT.one rfl).c; exact (hT.two rfl).c) (fun i hi => by split; exact hlp; exact hlq) hlp hc
        unfold Hid; simpa [idxG] using this
      have C0 := hT.one rfl
      have C1 := hT.two rfl
      have HI : Hid _ := is_30 q p cb w hc hlq hlp
      obtain ⟨W, hW⟩ : ∃ W, W = w.setCell ⟨blk, 0, none⟩ (.pointer q) := ⟨_, rfl⟩
      have hcl := fun c => clr40 (w.setCell ⟨blk, 0, none⟩ (.pointer q)) blk 1 c (C1.other _ (by simp))
      have HR : Hid (Two ((w.setCell ⟨blk, 0, none⟩ (.pointer q)).setCell ⟨blk, 1, none⟩ (.pointer none)) blk false true p q) := ⟨fun h => absurd h (by simp), fun _ => (C0.same _).other _ (by simp)⟩
      have g0 := C0.c
      have g0f := C0.f
      have g1 := C1.c
      have hcap' : 2 ≤ cap := hcap
      simp only [Bool.toNat_true] at g1
      clear hT hlp hlq hcb hc hcap C0 C1 hW W
      go_enter Tryd.func29, Tryd.ntmps29
      go_wp2_with fail
      refine Calls.mono HK.out ?_
      rintro e w2 ⟨rfl, rfl⟩
      clear HK
      go_wp2
      go_loopw [5, 6, 7] (fun i j _ wr => (i = .int .i64 0 ∧ j = .int .i64 1 ∧ wr = w2) ∨ (i = .int .i64 1 ∧ j = .int .i64 2 ∧ wr = w2.setCell ⟨blk, 0, none⟩ (.pointer q))) (fun _ j _ _ => 2 - (intOf j).toNat)
      case atStart => exact Or.inl ⟨rfl, rfl, rfl⟩
      case round =>
        rcases hrel with ⟨rfl, rfl, rfl⟩ | ⟨rfl, rfl, rfl⟩
        · go_wp2_with fail
          refine Calls.mono HI.out ?_
          rintro e w3 ⟨rfl, rfl⟩
          clear HI hcl
          go_wp2
          go_roundw
          case rel => exact Or.inr ⟨by go_num, by go_num, trivial⟩
          case measure => simp [intOf]
        · clear g0 g0f g1
          go_wp2
          go_ret
          exact ⟨_, rfl, by simp; omega, HR.out, ((But.refl (· = blk) _).setCell (p := ⟨blk, 0, none⟩) (Or.inl rfl) _).setCell (p := ⟨blk, 1, none⟩) (Or.inl rfl) _, (HAL.out.setCell _ _ _).setCell _ _ _⟩

set_option maxHeartbeats 400000 in
theorem is_33 (p v : Option Addr) (cb : Nat) (w : World) (hc : w.cell? ⟨cb, 0, none⟩ = some (.pointer v)) (hp : Liv w p) (hv : Liv w v) :
    Calls Tryd.prog 33 #[.pointer p, .pointer (some ⟨cb, 0, none⟩)] w fun e w' => e = .returned (.bool (p == v)) ∧ w' = w := by
  have hq := eql31 hp hv
  clear hp hv
  go_enter Tryd.func33, Tryd.ntmps33
  go_wp2
  go_ret
  exact ⟨rfl, rfl⟩

set_option maxHeartbeats 400000 in
set_option maxRecDepth 100000 in
theorem indexFunc_36 (b n c : Nat) (P : Nat → Option Addr) (v : Option Addr) (cb : Nat) (w : World) (hm : n ≤ 32768) (hv : PtrsAt w b n P) (hl : ∀ i, i < n → Liv w (P i)) (hlv : Liv w v) (hc : w.cell? ⟨cb, 0, none⟩ = some (.pointer v)) :
    Calls Tryd.prog 36 #[.slice (some ⟨b, 0, none⟩) n c, .func (.func 33) #[] #[.pointer (some ⟨cb, 0, none⟩)]] w fun e w' => e = .returned (.int .i64 (idxG P v 0 n)) ∧ w' = w := by
  go_enter Tryd.func36, Tryd.ntmps36
  go_wp2
  go_loop [5, 8] (fun _ i => ∃ k : Nat, k ≤ n ∧ i = .int .i64 k ∧ Hid (idxG P v 0 n = idxG P v k (n - k))) (fun _ i => n - (intOf i).toNat)
  case atStart => exact ⟨0, Nat.zero_le _, rfl, rfl⟩
  case round =>
      obtain ⟨k, hk, rfl, HL⟩ := hrel
      by_cases hlt : k < n
      · have g0 := hv k hlt
        have HK : Hid _ := is_33 (P k) v cb w hc (hl k hlt) hlv
        have HS : Hid (idxG P v 0 n = if (P k == v) = true then (k : Int) else idxG P v (k + 1) (n - (k + 1))) := by
             have e : n - k = (n - (k + 1)) + 1 := by omega
             unfold Hid; rw [HL.out, e]; rfl
        clear HL hv hl hlv
        go_wp2_with fail
        refine Calls.mono HK.out ?_
        rintro e w2 ⟨rfl, rfl⟩
        clear HK
        cases e1 : (P k == v)
        · rw [e1] at HS
          go_wp2
          go_round
          case rel => exact ⟨k + 1, by omega, by go_num, by rw [HS.out]; rfl⟩
          case measure => simp [intOf]; omega
        · rw [e1] at HS
          go_wp2
          go_ret
          exact ⟨ret_int (by rw [HS.out]; rfl), rfl⟩
      · go_wp2
        go_ret
        exact ⟨ret_int (by rw [HL.out, show n - k = 0 from by omega]; rfl), rfl⟩

theorem zero31 (w : World) : (zeroValue 31).run Tryd.prog w = .ok (.pointer none) w := by kernel_rfl
theorem clr44 (w : World) (b o c : Nat) {v : Value} (h : Cel w ⟨b, o, none⟩ v) (ty : TypeId) : (Builtin.clear_ #[44] ty #[.slice (some ⟨b, o, none⟩) 1 c]).run Tryd.prog w = .ok (.tuple #[]) (w.setCell ⟨b, o, none⟩ (.pointer none)) :=
  Lib.run_clear_slice w 44 31 ty (.pointer none) Tryd.underlying44 zero31 rfl rfl b o 1 c (by omega)
    (fun j hj => by rw [show j = 0 from by omega]; rw [show o + 0 = o from rfl, h.c]; rfl) (fun j hj => by rw [show j = 0 from by omega]; exact h.f)

set_option maxHeartbeats 1000000 in
set_option maxRecDepth 100000 in
theorem delete_32 (blk cap : Nat) (b1 b2 : Bool) (p q : Option Addr) (cb : Nat) (w : World) (hcap : b1.toNat + b2.toNat ≤ cap) (hT : Two w blk b1 b2 p q) (hlp : Liv w p) (hlq : Liv w q) (hne : (q == p) = false) (hcb : Cel w ⟨cb, 0, none⟩ (.pointer p)) (hal : Alive w blk) :
    Calls Tryd.prog 32 #[.slice (some ⟨blk, 0, none⟩) (b1.toNat + b2.toNat) cap, .func (.func 33) #[] #[.pointer (some ⟨cb, 0, none⟩)]] w fun e w' => DelRes blk b2 p q w e w' := by
  have hc := hcb.c
  have HAL : Hid (Alive w blk) := hal
  clear hal
  cases b1
  · cases b2
    · have HK : Hid (Calls Tryd.prog 36 #[.slice (some ⟨blk, 0, none⟩) 0 cap, .func (.func 33) #[] #[.pointer (some ⟨cb, 0, none⟩)]] w fun e w' => e = .returned (.int .i64 (-1)) ∧ w' = w) := indexFunc_36 blk 0 cap (fun _ => none) p cb w (by omega) (fun i hi => by omega) (fun i hi => by omega) hlp hc
      have HT : Hid _ := hT
      clear hT hlp hlq hne hcb hc
      go_enter Tryd.func32, Tryd.ntmps32
      go_wp2_with fail
      refine Calls.mono HK.out ?_
      rintro e w2 ⟨rfl, rfl⟩
      go_wp2
      go_ret
      exact ⟨cap, rfl, Nat.zero_le _, HT.out, But.refl _ _, HAL.out⟩
    · have HK : Hid (Calls Tryd.prog 36 #[.slice (some ⟨blk, 0, none⟩) 1 cap, .func (.func 33) #[] #[.pointer (some ⟨cb, 0, none⟩)]] w fun e w' => e = .returned (.int .i64 (-1)) ∧ w' = w) := by
        have := indexFunc_36 blk 1 cap (fun _ => q) p cb w (by omega) (fun i hi => by rw [show i = 0 from by omega]; exact (hT.two rfl).c) (fun i hi => hlq) hlp hc
        unfold Hid; simpa [idxG, hne] using this
      have HT : Hid _ := hT
      have HC : Hid (1 ≤ cap) := hcap
      clear hT hlp hlq hne hcb hc hcap
      go_enter Tryd.func32, Tryd.ntmps32
      go_wp2_with fail
      refine Calls.mono HK.out ?_
      rintro e w2 ⟨rfl, rfl⟩
      go_wp2
      go_ret
      exact ⟨cap, rfl, HC.out, HT.out, But.refl _ _, HAL.out⟩
  · cases b2
    · have HK : Hid (Calls Tryd.prog 36 #[.slice (some ⟨blk, 0, none⟩) 1 cap, .func (.func 33) #[] #[.pointer (some ⟨cb, 0, none⟩)]] w fun e w' => e = .returned (.int .i64 0) ∧ w' = w) := by
        have := indexFunc_36 blk 1 cap (fun _ => p) p cb w (by omega) (fun i hi => by rw [show i = 0 from by omega]; exact (hT.one rfl).c) (fun i hi => hlp) hlp hc
        unfold Hid; simpa [idxG] using this
      have hcl := fun c => clr44 w blk 0 c (hT.one rfl)
      have HT : Hid _ := hT
      have hcap' : 1 ≤ cap := hcap
      clear hT hlp hlq hne hcb hc hcap
      go_enter Tryd.func32, Tryd.ntmps32
      go_wp2_with fail
      refine Calls.mono HK.out ?_
      rintro e w2 ⟨rfl, rfl⟩
      go_wp2
      go_loopw [5, 6, 7] (fun i j _ wr => i = .int .i64 0 ∧ j = .int .i64 1 ∧ wr = w2) (fun _ j _ _ => 2 - (intOf j).toNat)
      case atStart => exact ⟨rfl, rfl, rfl⟩
      case round =>
        obtain ⟨rfl, rfl, rfl⟩ := hrel
        go_wp2
        go_ret
        exact ⟨_, rfl, Nat.zero_le _, ⟨fun h => absurd h (by simp), fun h => absurd h (by simp)⟩, (But.refl (· = blk) _).setCell (p := ⟨blk, 0, none⟩) (Or.inl rfl) _, HAL.out.setCell _ _ _⟩
    · have HK : Hid (Calls Tryd.prog 36 #[.slice (some ⟨blk, 0, none⟩) 2 cap, .func (.func 33) #[] #[.pointer (some ⟨cb, 0, none⟩)]] w fun e w' => e = .returned (.int .i64 0) ∧ w' = w) := by
        have := indexFunc_36 blk 2 cap (fun i => if i = 0 then p else q) p cb w (by omega) (fun i hi => by rcases (by omega : i = 0 ∨ i = 1) with rfl | rfl; exact (hT.one rfl).c; exact (hT.two rfl).c) (fun i hi => by split; exact hlp; exact hlq) hlp hc
        unfold Hid; simpa [idxG] using this
      have C0 := hT.one rfl
      have C1 := hT.two rfl
      have HI : Hid _ := is_33 q p cb w hc hlq hlp
      obtain ⟨W, hW⟩ : ∃ W, W = w.setCell ⟨blk, 0, none⟩ (.pointer q) := ⟨_, rfl⟩
      have hcl := fun c => clr44 (w.setCell ⟨blk, 0, none⟩ (.pointer q)) blk 1 c (C1.other _ (by simp))
      have HR : Hid (Two ((w.setCell ⟨blk, 0, none⟩ (.pointer q)).setCell ⟨blk, 1, none⟩ (.pointer none)) blk false true p q) := ⟨fun h => absurd h (by simp), fun _ => (C0.same _).other _ (by simp)⟩
      have g0 := C0.c
      have g0f := C0.f
      have g1 := C1.c
      have hcap' : 2 ≤ cap := hcap
      simp only [Bool.toNat_true] at g1
      clear hT hlp hlq hcb hc hcap C0 C1 hW W
      go_enter Tryd.func32, Tryd.ntmps32
      go_wp2_with fail
      refine Calls.mono HK.out ?_
      rintro e w2 ⟨rfl, rfl⟩
      clear HK
      go_wp2
      go_loopw [5, 6, 7] (fun i j _ wr => (i = .int .i64 0 ∧ j = .int .i64 1 ∧ wr = w2) ∨ (i = .int .i64 1 ∧ j = .int .i64 2 ∧ wr = w2.setCell ⟨blk, 0, none⟩ (.pointer q))) (fun _ j _ _ => 2 - (intOf j).toNat)
      case atStart => exact Or.inl ⟨rfl, rfl, rfl⟩
      case round =>
        rcases hrel with ⟨rfl, rfl, rfl⟩ | ⟨rfl, rfl, rfl⟩
        · go_wp2_with fail
          refine Calls.mono HI.out ?_
          rintro e w3 ⟨rfl, rfl⟩
          clear HI hcl
          go_wp2
          go_roundw
          case rel => exact Or.inr ⟨by go_num, by go_num, trivial⟩
          case measure => simp [intOf]
        · clear g0 g0f g1
          go_wp2
          go_ret
          exact ⟨_, rfl, by simp; omega, HR.out, ((But.refl (· = blk) _).setCell (p := ⟨blk, 0, none⟩) (Or.inl rfl) _).setCell (p := ⟨blk, 1, none⟩) (Or.inl rfl) _, (HAL.out.setCell _ _ _).setCell _ _ _⟩
end Go.Proofs.Qxb6612650aDoor
