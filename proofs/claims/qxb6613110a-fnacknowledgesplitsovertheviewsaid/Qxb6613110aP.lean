import Derived.Test.Qxb6613110aK
namespace Go.Proofs.Qxb6613110a
open Go.RowKit

theorem hit_look {n x : Nat} {B : Nat → ByteArray} (C : Nat → Int) {m : ByteArray} (hok : VecOk n B) (h : hitB n B x m = true) : hitC n B C x m = lookF B C m 0 n := by
  unfold hitC; rw [if_pos h]
  simp only [hitB, Bool.and_eq_true, decide_eq_true_eq] at h
  have he : (B x).toList = m.toList := by simpa using h.2
  exact (lookF_at B C m x h.2 n 0 (Nat.zero_le _) (by omega) (fun j _ hj => by rw [← he]; exact bl_ne (hok.lt x j hj h.1))).symm

set_option maxHeartbeats 400000 in
theorem wget_any (bw : Nat) (a : Option Addr) (n c x : Nat) (B : Nat → ByteArray) (C : Nat → Int) (m : ByteArray) (w : World) (hn : n ≤ 1073741824) (hw : WalkAt w bw a n c x) (hv : VecAt w a n B C) (hok : VecOk n B) (hoff : ∀ y, a = some y → ¬ y.block = bw) :
    Calls Try.prog 38 #[.pointer (some ⟨bw, 0, none⟩), .string m] w fun e w' => e = .returned (.int .u64 (lookF B C m 0 n)) ∧ (∃ y, WalkAt w' bw a n c y) ∧ But (· = bw) w w' := by
  have HO : Hid _ := hoff
  clear hoff
  go_enter Try.func38, Try.ntmps38
  go_wp2_with fail
  refine (following_any bw a n c x B C m _ hn hw hv HO.out).mono ?_
  rintro e w1 ⟨rfl, ⟨y, hy⟩, hb1⟩
  have HH : Hid _ := fun h => hit_look (x := x) (m := m) C hok h
  cases hh : hitB n B x m
  · have hv1 := hv.but hb1 HO.out
    clear hv hw
    go_wp2_with fail
    refine (wfind_any bw a n c y B C m _ hn hy hv1 hok HO.out).mono ?_
    rintro e w2 ⟨⟨r, rfl, hr, hlo, hhi⟩, ⟨z, hz⟩, hb2⟩
    have HF : Hid _ := look_find C hok hr hlo hhi
    have hb3 := hb1.trans hb2
    obtain ⟨b, off, ha, h0, h1⟩ := hv1.but hb2 HO.out
    have qs := hz.s
    clear hlo hhi hv1 hb1 hb2 hy
    cases hq : (decide (r < n) && ((B r).toList == m.toList))
    · go_wp2
      go_ret
      exact ⟨ret_int (by rw [HF.out.2 hq]), ⟨z, hz⟩, hb3⟩
    · have hlt : r < n := by simp at hq; exact hq.1
      have heq : ((B r).toList == m.toList) = true := by simp at hq; simpa using hq.2
      have g1 := h1 r hlt
      have hix := ixAt (c := c) Try.underlying33 sz66 ha r hlt
      clear h0 h1 ha
      have HE : Hid _ := heq
      clear heq
      go_wp2
      go_ret
      exact ⟨ret_int (by rw [HF.out.1 hlt HE.out]), ⟨z, hz⟩, hb3⟩
  · go_wp2
    go_ret
    exact ⟨ret_int (HH.out hh), ⟨y, hy⟩, hb1⟩

set_option maxHeartbeats 400000 in
theorem vwalk_any (a : Option Addr) (n c : Nat) (w : World) :
    Calls Try.prog 37 #[.slice a n c] w fun e w' => e = .returned (.agg #[.slice a n c, .int .i64 0]) ∧ Below w.heap.size w w' := by
  go_enter Try.func37, Try.ntmps37
  go_wp2
  exact bodyPost_ret (v := .agg #[.slice a n c, .int .i64 0]) (by simp [results, Try.results37, go_sem]) rfl ⟨rfl, (Below.refl _ _).alloc (Nat.le_refl _) _⟩
end Go.Proofs.Qxb6613110a
