import Derived.Test.Qxb6612650aDoorK
namespace Go.Proofs.Qxb6612650aDoor
open Go.RowKit

def grantC (wh : Bool) (h0 h1 : Int) : Array Value := #[.bool wh, .slice none 0 0, .int .i64 h0, .int .i64 h1, .bool false, .pointer none]
def gpuC (mi : Int) (v0 v1 : Value) (f0 f1 : Int) (wh : Bool) : Array Value :=
  #[.int .i64 0, .int .i64 mi, .string { data := #[] }, .string { data := #[] }, .string { data := #[] }, .string { data := #[] }, .string { data := #[] }, .int .i64 0, .string { data := #[] }, .string { data := #[] }, .string { data := #[] }, .string { data := #[] }, .string { data := #[] }, .string { data := #[] }, .string { data := #[] }, .string { data := #[] }, v0, v1, .int .i64 f0, .int .i64 f1, .bool wh]
def nodeC (v : Value) (ch : Nat) : Array Value :=
  #[.int .i32 0, .int .u32 0, .slice none 0 0, .map none, .slice none 0 0, .int .i64 0, v, .pointer none, .string { data := #[] }, .nilFunc, .chan (some ch)]

/-- a grant in memory -/
structure GrantAt (w : World) (b : Nat) (wh : Bool) (v : Value) (h0 h1 : Int) : Prop where
  wh : Cel w ⟨b, 0, none⟩ (.bool wh)
  gp : Cel w ⟨b, 1, none⟩ v
  h0 : Cel w ⟨b, 2, none⟩ (.int .i64 h0)
  h1 : Cel w ⟨b, 3, none⟩ (.int .i64 h1)
theorem GrantAt.below {w w' : World} {b : Nat} {wh : Bool} {v : Value} {h0 h1 : Int} (h : GrantAt w b wh v h0 h1) (hb : Below w.heap.size w w') : GrantAt w' b wh v h0 h1 := ⟨h.wh.below hb, h.gp.below hb, h.h0.below hb, h.h1.below hb⟩
theorem GrantAt.other {w : World} {b : Nat} {wh : Bool} {v : Value} {h0 h1 : Int} (h : GrantAt w b wh v h0 h1) {b' j : Nat} (u : Value) (hne : b' ≠ b) : GrantAt (w.setCell ⟨b', j, none⟩ u) b wh v h0 h1 := ⟨h.wh.other _ (blk_ne hne), h.gp.other _ (blk_ne hne), h.h0.other _ (blk_ne hne), h.h1.other _ (blk_ne hne)⟩
theorem GrantAt.put {w : World} {b : Nat} {wh : Bool} {v : Value} {h0 h1 : Int} (h : GrantAt w b wh v h0 h1) (u : Value) : GrantAt (w.setCell ⟨b, 1, none⟩ u) b wh u h0 h1 := ⟨h.wh.other _ (off_ne (by omega)), h.gp.same _, h.h0.other _ (off_ne (by omega)), h.h1.other _ (off_ne (by omega))⟩
theorem GrantAt.drew {w : World} {b : Nat} {wh : Bool} {v : Value} {h0 h1 : Int} (h : GrantAt w b wh v h0 h1) : GrantAt w.drew b wh v h0 h1 := ⟨h.wh.drew, h.gp.drew, h.h0.drew, h.h1.drew⟩
/-- a GPU in memory -/
structure GpuAt (w : World) (b : Nat) (v0 v1 : Value) (f0 f1 : Int) (wh : Bool) : Prop where
  v0 : Cel w ⟨b, 16, none⟩ v0
  v1 : Cel w ⟨b, 17, none⟩ v1
  f0 : Cel w ⟨b, 18, none⟩ (.int .i64 f0)
  f1 : Cel w ⟨b, 19, none⟩ (.int .i64 f1)
  wh : Cel w ⟨b, 20, none⟩ (.bool wh)
theorem GpuAt.below {w w' : World} {b : Nat} {v0 v1 : Value} {f0 f1 : Int} {wh : Bool} (h : GpuAt w b v0 v1 f0 f1 wh) (hb : Below w.heap.size w w') : GpuAt w' b v0 v1 f0 f1 wh := ⟨h.v0.below hb, h.v1.below hb, h.f0.below hb, h.f1.below hb, h.wh.below hb⟩
theorem GpuAt.other {w : World} {b : Nat} {v0 v1 : Value} {f0 f1 : Int} {wh : Bool} (h : GpuAt w b v0 v1 f0 f1 wh) {b' j : Nat} (u : Value) (hne : b' ≠ b) : GpuAt (w.setCell ⟨b', j, none⟩ u) b v0 v1 f0 f1 wh := ⟨h.v0.other _ (blk_ne hne), h.v1.other _ (blk_ne hne), h.f0.other _ (blk_ne hne), h.f1.other _ (blk_ne hne), h.wh.other _ (blk_ne hne)⟩
/-- a tbState in memory -/
structure TmpAt (w : World) (b : Nat) (n s t g h : Option Addr) : Prop where
  n : Cel w ⟨b, 0, none⟩ (.pointer n)
  s : Cel w ⟨b, 1, none⟩ (.pointer s)
  t : Cel w ⟨b, 2, none⟩ (.pointer t)
  g : Cel w ⟨b, 3, none⟩ (.pointer g)
  h : Cel w ⟨b, 4, none⟩ (.pointer h)
theorem TmpAt.below {w w' : World} {b : Nat} {n s t g h : Option Addr} (H : TmpAt w b n s t g h) (hb : Below w.heap.size w w') : TmpAt w' b n s t g h := ⟨H.n.below hb, H.s.below hb, H.t.below hb, H.g.below hb, H.h.below hb⟩
theorem TmpAt.other {w : World} {b : Nat} {n s t g h : Option Addr} (H : TmpAt w b n s t g h) {b' j : Nat} (u : Value) (hne : b' ≠ b) : TmpAt (w.setCell ⟨b', j, none⟩ u) b n s t g h := ⟨H.n.other _ (blk_ne hne), H.s.other _ (blk_ne hne), H.t.other _ (blk_ne hne), H.g.other _ (blk_ne hne), H.h.other _ (blk_ne hne)⟩
theorem TmpAt.drew {w : World} {b : Nat} {n s t g h : Option Addr} (H : TmpAt w b n s t g h) : TmpAt w.drew b n s t g h := ⟨H.n.drew, H.s.drew, H.t.drew, H.g.drew, H.h.drew⟩
theorem TmpAt.frame {L : List Nat} {ch : Nat} {w w' : World} {b : Nat} {n s t g h : Option Addr} (H : TmpAt w b n s t g h) (hb : But (Fr L ch w) w w') (hL : b ∉ L) : TmpAt w' b n s t g h := ⟨H.n.frame hb hL, H.s.frame hb hL, H.t.frame hb hL, H.g.frame hb hL, H.h.frame hb hL⟩
theorem TmpAt.set0 {w : World} {b : Nat} {n s t g h : Option Addr} (H : TmpAt w b n s t g h) (u : Option Addr) : TmpAt (w.setCell ⟨b, 0, none⟩ (.pointer u)) b u s t g h := ⟨H.n.same _, H.s.other _ (off_ne (by omega)), H.t.other _ (off_ne (by omega)), H.g.other _ (off_ne (by omega)), H.h.other _ (off_ne (by omega))⟩
theorem TmpAt.set1 {w : World} {b : Nat} {n s t g h : Option Addr} (H : TmpAt w b n s t g h) (u : Option Addr) : TmpAt (w.setCell ⟨b, 1, none⟩ (.pointer u)) b n u t g h := ⟨H.n.other _ (off_ne (by omega)), H.s.same _, H.t.other _ (off_ne (by omega)), H.g.other _ (off_ne (by omega)), H.h.other _ (off_ne (by omega))⟩
theorem TmpAt.set2 {w : World} {b : Nat} {n s t g h : Option Addr} (H : TmpAt w b n s t g h) (u : Option Addr) : TmpAt (w.setCell ⟨b, 2, none⟩ (.pointer u)) b n s u g h := ⟨H.n.other _ (off_ne (by omega)), H.s.other _ (off_ne (by omega)), H.t.same _, H.g.other _ (off_ne (by omega)), H.h.other _ (off_ne (by omega))⟩
theorem TmpAt.set3 {w : World} {b : Nat} {n s t g h : Option Addr} (H : TmpAt w b n s t g h) (u : Option Addr) : TmpAt (w.setCell ⟨b, 3, none⟩ (.pointer u)) b n s t u h := ⟨H.n.other _ (off_ne (by omega)), H.s.other _ (off_ne (by omega)), H.t.other _ (off_ne (by omega)), H.g.same _, H.h.other _ (off_ne (by omega))⟩
theorem TmpAt.set4 {w : World} {b : Nat} {n s t g h : Option Addr} (H : TmpAt w b n s t g h) (u : Option Addr) : TmpAt (w.setCell ⟨b, 4, none⟩ (.pointer u)) b n s t g u := ⟨H.n.other _ (off_ne (by omega)), H.s.other _ (off_ne (by omega)), H.t.other _ (off_ne (by omega)), H.g.other _ (off_ne (by omega)), H.h.same _⟩
/-- the owners' cells -/
structure OwnAt (w : World) (b n : Nat) (f : Nat → Option Addr) : Prop where
  c : ∀ i, i < n → Cel w ⟨b, i, none⟩ (.pointer (f i))
  l : Alive w b
theorem OwnAt.below {w w' : World} {b n : Nat} {f : Nat → Option Addr} (h : OwnAt w b n f) (hb : Below w.heap.size w w') : OwnAt w' b n f := ⟨fun i hi => (h.c i hi).below hb, h.l.below hb⟩
theorem OwnAt.other {w : World} {b n : Nat} {f : Nat → Option Addr} (h : OwnAt w b n f) {b' j : Nat} (u : Value) (hne : b' ≠ b) : OwnAt (w.setCell ⟨b', j, none⟩ u) b n f := ⟨fun i hi => (h.c i hi).other _ (blk_ne hne), h.l.setCell _ _ _⟩

set_option maxHeartbeats 400000 in
set_option maxRecDepth 100000 in
theorem newGrant_any (wh : Bool) (h0 h1 : Int) (w : World) :
    Calls Tryd.prog 19 #[.bool wh, .int .i64 h0, .int .i64 h1] w fun e w' => e = .returned (.pointer (some ⟨w.heap.size, 0, none⟩)) ∧ GrantAt w' w.heap.size wh (.slice none 0 0) h0 h1 ∧ Below w.heap.size w w' ∧ w'.heap.size = w.heap.size + 1 := by
  go_enter Tryd.func19, Tryd.ntmps19
  go_wp2
  go_ret
  exact ⟨rfl, ⟨cel_new w _ 66 0 _ rfl, cel_new w _ 66 1 _ rfl, cel_new w _ 66 2 _ rfl, cel_new w _ 66 3 _ rfl⟩, (Below.refl _ _).alloc (Nat.le_refl _) _, by simp⟩
set_option maxHeartbeats 400000 in
set_option maxRecDepth 100000 in
theorem newGPU_any (mi : Int) (a0 a1 : Option Addr) (n0 c0 n1 c1 : Nat) (f0 f1 : Int) (wh : Bool) (w : World) :
    Calls Tryd.prog 20 #[.int .i64 mi, .slice a0 n0 c0, .slice a1 n1 c1, .int .i64 f0, .int .i64 f1, .bool wh] w fun e w' => e = .returned (.pointer (some ⟨w.heap.size, 0, none⟩)) ∧ GpuAt w' w.heap.size (.slice a0 n0 c0) (.slice a1 n1 c1) f0 f1 wh ∧ Below w.heap.size w w' ∧ w'.heap.size = w.heap.size + 1 := by
  go_enter Tryd.func20, Tryd.ntmps20
  go_wp2
  go_ret
  exact ⟨rfl, ⟨cel_new w _ 63 16 _ rfl, cel_new w _ 63 17 _ rfl, cel_new w _ 63 18 _ rfl, cel_new w _ 63 19 _ rfl, cel_new w _ 63 20 _ rfl⟩, (Below.refl _ _).alloc (Nat.le_refl _) _, by simp⟩
set_option maxHeartbeats 400000 in
set_option maxRecDepth 100000 in
theorem newNode_any (a0 : Option Addr) (n0 c0 : Nat) (w : World) :
    Calls Tryd.prog 23 #[.slice a0 n0 c0] w fun e w' => e = .returned (.pointer (some ⟨w.heap.size + 1, 0, none⟩)) ∧ Cel w' ⟨w.heap.size + 1, 6, none⟩ (.slice a0 n0 c0) ∧ ChanAt w' (w.heap.size + 1) w.heap.size ∧ Below w.heap.size w w' ∧ w'.heap.size = w.heap.size + 2 := by
  have mk := mkChan w
  go_enter Tryd.func23, Tryd.ntmps23
  go_wp2
  go_ret
  have k6 := cel_new (w.alloc (.chan 0 #[] false 0 0 false)) (nodeC (.slice a0 n0 c0) w.heap.size) 81 6 _ rfl
  have k10 := cel_new (w.alloc (.chan 0 #[] false 0 0 false)) (nodeC (.slice a0 n0 c0) w.heap.size) 81 10 _ rfl
  have hs : (w.alloc (.chan 0 #[] false 0 0 false)).heap.size = w.heap.size + 1 := by simp
  rw [hs] at k6 k10
  refine ⟨rfl, k6, ⟨k10, ?_⟩, ((Below.refl _ _).alloc (Nat.le_refl _) _).alloc (by simp) _, by simp⟩
  rw [Below.heap_alloc _ _ _ (by simp)]
  exact (MapKept.heap_alloc w _).1
set_option maxHeartbeats 400000 in
set_option maxRecDepth 100000 in
theorem setGPUs_any (b : Nat) (a : Option Addr) (n c : Nat) (v : Value) (w : World) (h : Cel w ⟨b, 1, none⟩ v) :
    Calls Tryd.prog 22 #[.pointer (some ⟨b, 0, none⟩), .slice a n c] w fun e w' => e = .returned (.tuple #[]) ∧ w' = w.setCell ⟨b, 1, none⟩ (.slice a n c) := by
  have h1 := h.c
  have h2 := h.f
  clear h
  go_enter Tryd.func22, Tryd.ntmps22
  go_wp2
  go_end0
  exact ⟨rfl, rfl⟩

/-- a code's role -/
def rl (x : Int) : Nat := if x = 1 then 1 else if x = 2 then 2 else 0
def ownP (s t : Option Addr) (x : Int) : Option Addr := if x = 1 then s else if x = 2 then t else none
set_option maxHeartbeats 400000 in
theorem owner_any (x : Int) (s t : Option Addr) (w : World) :
    Calls Tryd.prog 25 #[.int .u8 x, .pointer s, .pointer t] w fun e w' => e = .returned (.pointer (ownP s t x)) ∧ w' = w := by
  by_cases h1 : x = 1
  · subst h1
    go_enter Tryd.func25, Tryd.ntmps25
    go_wp2
    go_ret
    exact ⟨rfl, rfl⟩
  · by_cases h2 : x = 2
    · subst h2
      go_enter Tryd.func25, Tryd.ntmps25
      go_wp2
      go_ret
      exact ⟨rfl, rfl⟩
    · have e1 : (x == 1) = false := by simpa using h1
      have e2 : (x == 2) = false := by simpa using h2
      have e3 : ownP s t x = none := by simp [ownP, h1, h2]
      rw [e3]
      clear h1 h2 e3
      go_enter Tryd.func25, Tryd.ntmps25
      go_wp2
      go_ret
      exact ⟨rfl, rfl⟩

theorem Tryd.info31 : (Tryd.prog.info? 31).map (fun i => (i.zero, i.size, i.bytes)) = some (some (.pointer none), 1, 8) := by kernel_rfl

set_option maxHeartbeats 1000000 in
set_option maxRecDepth 100000 in
theorem owners_any (a : Option Addr) (n c : Nat) (C : Nat → Int) (s t : Option Addr) (w : World) (hm : n ≤ 32768) (hv : BytesAt w a n C) :
    Calls Tryd.prog 21 #[.slice a n c, .pointer s, .pointer t] w fun e w' => e = .returned (.slice (some ⟨w.heap.size, 0, none⟩) n n) ∧ OwnAt w' w.heap.size n (fun i => ownP s t (C i)) ∧ Below w.heap.size w w' := by
  obtain ⟨b, off, ha, h0⟩ := hv
  obtain ⟨i0, hi, hz0, hz1, hz2⟩ := info_parts Tryd.info31
  go_enter Tryd.func21, Tryd.ntmps21
  go_wp2_with (first | (at_make; refine wpList_make_full _ rfl _ _ 44 rfl w.heap.size 31 i0 _ 1 Tryd.underlying44 hi hz0 hz1 _ _ _ _ n rfl rfl rfl rfl (by rw [hz2]; omega) (by unfold maxLen; omega) (Nat.le_refl _) ?_; intro w1 hown1 hg1) | fail)
  obtain ⟨cur, hh, hsz, _⟩ := made_one rfl hown1
  have hb1 : Below w.heap.size w w1 := (Below.refl _ _).grown hg1 (Nat.le_refl _) (fun k hk => by cases hk)
  clear hown1 hg1 hi hz0 hz1 hz2
  go_loopw [8] (fun i wr => ∃ k : Nat, k ≤ n ∧ i = .int .i64 k ∧ (∃ cur, wr.heap[w.heap.size]? = some (.cells cur 31 (0, 0)) ∧ cur.size = n ∧ ∀ i, i < k → cur[i]? = some (.pointer (ownP s t (C i)))) ∧ Below w.heap.size w wr) (fun i _ => n - (intOf i).toNat)
  case atStart => exact ⟨0, Nat.zero_le _, rfl, ⟨cur, hh, hsz, fun i hi => by omega⟩, hb1⟩
  case round =>
    clear hh hsz hb1
    obtain ⟨k, hk, rfl, ⟨cur, hh, hsz, hcs⟩, hb⟩ := hrel
    by_cases hlt : k < n
    · have g0 := down hb (h0 k hlt)
      have hix := ixAt (c := c) Tryd.underlying22 sz5 ha k k rfl hlt
      have ct := cel_of_heap hh (show cur[k]? = some (cur[k]'(by omega)) from by simp [show k < cur.size from by omega])
      have c1 := ct.c
      have c2 := ct.f
      have HH : Hid _ := hh
      have HC : Hid (∀ i, i < k → cur[i]? = some (.pointer (ownP s t (C i)))) := hcs
      have HK : Hid _ := owner_any (C k) s t wr
      clear h0 ha hh hcs ct
      go_wp2_with fail
      refine Calls.mono HK.out ?_
      rintro e w2 ⟨rfl, rfl⟩
      clear HK
      go_wp2
      go_roundw
      case rel =>
        refine ⟨k + 1, by omega, by go_num, ⟨cur.setIfInBounds k (.pointer (ownP s t (C k))), heap_setCell_same _ _ _ _ _ _ HH.out, by simpa using hsz, fun i hi => ?_⟩, hb.setCell (p := ⟨w.heap.size, k, none⟩) (Nat.le_refl _) _⟩
        by_cases e : i = k
        · subst e
          rw [Array.getElem?_setIfInBounds_self_of_lt (by omega)]
        · rw [Array.getElem?_setIfInBounds_ne (by omega)]; exact HC.out i (by omega)
      case measure => simp [intOf]; omega
    · go_wp2
      go_ret
      have e : k = n := by omega
      subst e
      exact ⟨rfl, ⟨fun i hi => cel_of_heap hh (hcs i hi), ⟨_, _, hh⟩⟩, hb⟩
end Go.Proofs.Qxb6612650aDoor
