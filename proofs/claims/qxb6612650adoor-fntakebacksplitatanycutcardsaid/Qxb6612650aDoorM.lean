import Derived.Test.Qxb6612650aDoorB
namespace Go.Proofs.Qxb6612650aDoor
open Go.RowKit

theorem ix60' (b j r : Nat) (hr : r < 2) (wx : World) : (Instr.indexAt 60 (.pointer (some ⟨b, j, none⟩)) (.int .i64 (r : Int))).run Tryd.prog wx = .ok (.pointer (some ⟨b, j + r, none⟩)) wx := by
  rcases (by omega : r = 0 ∨ r = 1) with rfl | rfl
  · simp [go_sem]
  · simp [go_sem]

set_option maxHeartbeats 400000 in
set_option maxRecDepth 100000 in
theorem free_any (g r : Nat) (f : Int) (w : World) (hr : r < 2) (h : Cel w ⟨g, 18 + r, none⟩ (.int .i64 f)) :
    Calls Tryd.prog 11 #[.pointer (some ⟨g, 0, none⟩), .int .i64 r] w fun e w' => e = .returned (.int .i64 f) ∧ w' = w := by
  have hi := ix61 g 18 r hr
  have h1 := h.c
  clear h
  go_enter Tryd.func11, Tryd.ntmps11
  go_wp2
  go_ret
  exact ⟨rfl, rfl⟩
set_option maxHeartbeats 400000 in
set_option maxRecDepth 100000 in
theorem held_any (g r : Nat) (f : Int) (w : World) (hr : r < 2) (h : Cel w ⟨g, 2 + r, none⟩ (.int .i64 f)) :
    Calls Tryd.prog 12 #[.pointer (some ⟨g, 0, none⟩), .int .i64 r] w fun e w' => e = .returned (.int .i64 f) ∧ w' = w := by
  have hi := ix61 g 2 r hr
  have h1 := h.c
  clear h
  go_enter Tryd.func12, Tryd.ntmps12
  go_wp2
  go_ret
  exact ⟨rfl, rfl⟩
set_option maxHeartbeats 400000 in
set_option maxRecDepth 100000 in
theorem own_any (g r o n u : Nat) (p : Option Addr) (w : World) (hr : r < 2) (h : Cel w ⟨g, 16 + r, none⟩ (.slice (some ⟨o, 0, none⟩) n n)) (hu : u < n) (hc : Cel w ⟨o, u, none⟩ (.pointer p)) :
    Calls Tryd.prog 13 #[.pointer (some ⟨g, 0, none⟩), .int .i64 r, .int .i64 u] w fun e w' => e = .returned (.pointer p) ∧ w' = w := by
  have hi := ix60' g 16 r hr
  have h1 := h.c
  have h2 := hc.c
  clear h hc
  go_enter Tryd.func13, Tryd.ntmps13
  go_wp2
  go_ret
  exact ⟨rfl, rfl⟩
set_option maxHeartbeats 400000 in
theorem gpus_any (s : Nat) (v : Value) (w : World) (h : Cel w ⟨s, 1, none⟩ v) :
    Calls Tryd.prog 14 #[.pointer (some ⟨s, 0, none⟩)] w fun e w' => e = .returned v ∧ w' = w := by
  have h1 := h.c
  clear h
  go_enter Tryd.func14, Tryd.ntmps14
  go_wp2
  go_ret
  exact ⟨rfl, rfl⟩
set_option maxHeartbeats 400000 in
theorem whole_any (g : Nat) (v : Value) (w : World) (h : Cel w ⟨g, 20, none⟩ v) :
    Calls Tryd.prog 15 #[.pointer (some ⟨g, 0, none⟩)] w fun e w' => e = .returned v ∧ w' = w := by
  have h1 := h.c
  clear h
  go_enter Tryd.func15, Tryd.ntmps15
  go_wp2
  go_ret
  exact ⟨rfl, rfl⟩
set_option maxHeartbeats 400000 in
set_option maxRecDepth 100000 in
theorem grants_any (n : Nat) (v : Value) (w : World) (h : Cel w ⟨n, 6, none⟩ v) :
    Calls Tryd.prog 16 #[.pointer (some ⟨n, 0, none⟩)] w fun e w' => e = .returned v ∧ w' = w := by
  have h1 := h.c
  clear h
  go_enter Tryd.func16, Tryd.ntmps16
  go_wp2
  go_ret
  exact ⟨rfl, rfl⟩

/-- a grant's role; a GPU's role -/
def roleS (p s t : Option Addr) : Int := if (p == none) = true then 0 else if (p == s) = true then 1 else if (p == t) = true then 2 else 3
set_option maxHeartbeats 1000000 in
set_option maxRecDepth 100000 in
theorem grantRole_any (p n s t g h : Option Addr) (w : World) (hp : Liv w p) (hs : Liv w s) (ht : Liv w t) :
    Calls Tryd.prog 26 #[.pointer p, .agg #[.pointer n, .pointer s, .pointer t, .pointer g, .pointer h]] w fun e w' => e = .returned (.int .i64 (roleS p s t)) ∧ Below w.heap.size w w' := by
  have b1 : Below w.heap.size w (w.alloc (.cells #[.pointer n, .pointer s, .pointer t, .pointer g, .pointer h] 34)) := (Below.refl _ _).alloc (Nat.le_refl _) _
  have q0 := eql31 (hp.below b1) (Or.inl rfl : Liv _ none)
  have q1 := eql31 (hp.below b1) (hs.below b1)
  have q2 := eql31 (hp.below b1) (ht.below b1)
  have HB : Hid _ := b1
  clear b1 hp hs ht
  cases e0 : (p == none)
  · cases e1 : (p == s)
    · cases e2 : (p == t)
      · rw [e0] at q0; rw [e1] at q1; rw [e2] at q2
        have HR : Hid (roleS p s t = 3) := by unfold Hid; simp only [roleS, e0, e1, e2]; rfl
        clear e0 e1 e2
        go_enter Tryd.func26, Tryd.ntmps26
        go_wp2
        go_ret
        exact ⟨ret_int HR.out.symm, HB.out⟩
      · rw [e0] at q0; rw [e1] at q1; rw [e2] at q2
        have HR : Hid (roleS p s t = 2) := by unfold Hid; simp only [roleS, e0, e1, e2]; rfl
        clear e0 e1 e2
        go_enter Tryd.func26, Tryd.ntmps26
        go_wp2
        go_ret
        exact ⟨ret_int HR.out.symm, HB.out⟩
    · rw [e0] at q0; rw [e1] at q1
      have HR : Hid (roleS p s t = 1) := by unfold Hid; simp only [roleS, e0, e1]; rfl
      clear e0 e1
      go_enter Tryd.func26, Tryd.ntmps26
      go_wp2
      go_ret
      exact ⟨ret_int HR.out.symm, HB.out⟩
  · rw [e0] at q0
    have HR : Hid (roleS p s t = 0) := by unfold Hid; simp only [roleS, e0]; rfl
    clear e0
    go_enter Tryd.func26, Tryd.ntmps26
    go_wp2
    go_ret
    exact ⟨ret_int HR.out.symm, HB.out⟩
set_option maxHeartbeats 1000000 in
set_option maxRecDepth 100000 in
theorem gpuRole_any (p n s t g h : Option Addr) (w : World) (hp : Liv w p) (hs : Liv w g) (ht : Liv w h) :
    Calls Tryd.prog 27 #[.pointer p, .agg #[.pointer n, .pointer s, .pointer t, .pointer g, .pointer h]] w fun e w' => e = .returned (.int .i64 (roleS p g h)) ∧ Below w.heap.size w w' := by
  have b1 : Below w.heap.size w (w.alloc (.cells #[.pointer n, .pointer s, .pointer t, .pointer g, .pointer h] 34)) := (Below.refl _ _).alloc (Nat.le_refl _) _
  have q0 := eql32 (hp.below b1) (Or.inl rfl : Liv _ none)
  have q1 := eql32 (hp.below b1) (hs.below b1)
  have q2 := eql32 (hp.below b1) (ht.below b1)
  have HB : Hid _ := b1
  clear b1 hp hs ht
  cases e0 : (p == none)
  · cases e1 : (p == g)
    · cases e2 : (p == h)
      · rw [e0] at q0; rw [e1] at q1; rw [e2] at q2
        have HR : Hid (roleS p g h = 3) := by unfold Hid; simp only [roleS, e0, e1, e2]; rfl
        clear e0 e1 e2
        go_enter Tryd.func27, Tryd.ntmps27
        go_wp2
        go_ret
        exact ⟨ret_int HR.out.symm, HB.out⟩
      · rw [e0] at q0; rw [e1] at q1; rw [e2] at q2
        have HR : Hid (roleS p g h = 2) := by unfold Hid; simp only [roleS, e0, e1, e2]; rfl
        clear e0 e1 e2
        go_enter Tryd.func27, Tryd.ntmps27
        go_wp2
        go_ret
        exact ⟨ret_int HR.out.symm, HB.out⟩
    · rw [e0] at q0; rw [e1] at q1
      have HR : Hid (roleS p g h = 1) := by unfold Hid; simp only [roleS, e0, e1]; rfl
      clear e0 e1
      go_enter Tryd.func27, Tryd.ntmps27
      go_wp2
      go_ret
      exact ⟨ret_int HR.out.symm, HB.out⟩
  · rw [e0] at q0
    have HR : Hid (roleS p g h = 0) := by unfold Hid; simp only [roleS, e0]; rfl
    clear e0
    go_enter Tryd.func27, Tryd.ntmps27
    go_wp2
    go_ret
    exact ⟨ret_int HR.out.symm, HB.out⟩
end Go.Proofs.Qxb6612650aDoor
