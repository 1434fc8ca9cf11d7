/-
  THE SHELL OF A PROOF OF 'Rows.FnRefuseCarriesStatusMessageDetailSaid' ('example.com/nutcracker/nutcracker/zzlaws_internal_tokenapi_b1.FnRefuseCarriesStatusMessageDetail'), WRITTEN BY PROGRAM (proof-skeleton.mjs) off the guide's own print for that function. Not trusted: Lean checks it.
  ALL BUT THE WALK AND THE CONTRACTS AHEAD OF IT IS THE GUIDE's TEMPLATE (howto/template/XProofs.lean) at this function's number and types: leave it.
-/
import Derived.Test.Qxb6612630aRows
import Derived.WalkKit
import Derived.ProofKit
import Derived.OpenShut
import Derived.ShutString
import Derived.WalkSpells
import Derived.WalkLawsBesides
import Derived.BigQuiet
namespace Go.Proofs.Qxb6612630a.fnRefuseCarriesStatusMessageDetail
open Go.ChangeShapes Go.WideShapes Go.ChangeAt Go.RowKit
open Go.ChangeMaps (open_string shut_string)
set_option linter.unusedVariables false      -- a walk need not use every 'w<i>' (that an integer argument fits its kind)

theorem own : ownKnob Try.prog.godebug = none := by kernel_rfl

/-- a Bool is returned -/
def SomeBool (e : Ending) : Prop := ∃ r : Bool, e = .returned (.bool r)

set_option maxHeartbeats 1000000 in
theorem bytes_any (a0 : Int) (a1 a2 : ByteArray) (w : World) :
    Calls Try.prog 4 #[.int .i64 a0, .string a1, .string a2] w fun e w' => SomeBool e ∧ w' = w := by
  go_enter Try.func4, Try.ntmps4
  go_wp2
  all_goals
    go_ret
    exact ⟨⟨_, rfl⟩, rfl⟩

theorem error_any (b : Nat) (m : ByteArray) (w : World) (h : w.cell? ⟨b, 1, none⟩ = some (.string m)) :
    Calls Try.prog 22 #[.pointer (some ⟨b, 0, none⟩)] w fun e w' => e = .returned (.string m) ∧ w' = w := by
  go_enter Try.func22, Try.ntmps22
  go_wp2
  go_ret
  exact ⟨rfl, rfl⟩

theorem refuse_any (a0 : Int) (a1 a2 : ByteArray) (w : World) :
    Calls Try.prog 6 #[.int .i64 a0, .string a1, .string a2] w fun e w' => e = .returned (.iface 28 (.pointer (some ⟨w.heap.size, 0, none⟩))) ∧ w' = w.alloc (.cells #[.int .i64 a0, .string a1, .string a2] 31) := by
  go_enter Try.func6, Try.ntmps6
  go_wp2
  go_ret
  exact ⟨rfl, rfl⟩

theorem assert_ref (a : Addr) (w : World) : (Instr.typeAssert (.iface 28 (.pointer (some a))) 26 28 true).run Try.prog w = .ok (.tuple #[.pointer (some a), .bool true]) w := by kernel_rfl

theorem method_err (a : Addr) (w : World) : (method 149 28 (.pointer (some a)) "Error").run Try.prog w = .ok (22, .pointer (some a)) w := by kernel_rfl

set_option maxHeartbeats 1000000 in
set_option maxRecDepth 100000 in
theorem parts_any (a0 : Int) (a1 a2 : ByteArray) (w : World) :
    Calls Try.prog 5 #[.int .i64 a0, .string a1, .string a2] w fun e w' => e = .returned (.tuple #[.bool true, .int .i64 a0, .string a1, .string a2, .string a1]) ∧ Grown w w' := by
  have hta := assert_ref
  have hme := method_err
  have hG : Grown w (w.alloc (.cells #[.int .i64 a0, .string a1, .string a2] 31)) := by repeat (first | exact Grown.refl _ | apply Grown.drew | apply Grown.alloc)
  have c0 : (w.alloc (.cells #[.int .i64 a0, .string a1, .string a2] 31)).cell? ⟨w.heap.size, 0, none⟩ = some (.int .i64 a0) := by simp [go_sem]
  have c1 : (w.alloc (.cells #[.int .i64 a0, .string a1, .string a2] 31)).cell? ⟨w.heap.size, 1, none⟩ = some (.string a1) := by simp [go_sem]
  have c2 : (w.alloc (.cells #[.int .i64 a0, .string a1, .string a2] 31)).cell? ⟨w.heap.size, 2, none⟩ = some (.string a2) := by simp [go_sem]
  go_enter Try.func5, Try.ntmps5
  go_wp2_with (go_at_call 6; refine (refuse_any _ _ _ _).mono ?_; rintro e w1 ⟨rfl, rfl⟩)
  generalize w.alloc (.cells #[.int .i64 a0, .string a1, .string a2] 31) = wA at *
  have HC : Hid (∀ n, Calls Try.prog 22 #[.pointer (some ⟨w.heap.size, 0, none⟩)] (wA.drewN n) fun e w'' => e = .returned (.string a1) ∧ ∃ m, w'' = wA.drewN m) := fun n => Calls.quiet_of_same (error_any w.heap.size a1 (wA.drewN n) c1)
  go_quiet ((exact HC.out _))
  go_wp2
  exact bodyPost_ret (v := .tuple #[.bool true, .int .i64 a0, .string a1, .string a2, .string a1]) (by simp [results, Try.results5, go_sem]) rfl ⟨rfl, hG⟩

/-! ### STEP 1: THE WALK: the Go text returns true. 'Grown w w'': the world has at most new blocks (Derived/RowKit3.lean). Part the cases AHEAD of 'go_enter' where a test parts the walk; take each callee by a contract of your own. -/
theorem walk (a0 : Int) (a1 : ByteArray) (a2 : ByteArray) (w0 : (Lit.int .i64 a0).wf = true) (w1 : a1.size ≤ maxLen) (w2 : a2.size ≤ maxLen) (w : World) :
    Calls Try.prog 3 #[.int .i64 a0, .string a1, .string a2] w fun e w' => e = .returned (.bool true) ∧ Grown w w' := by
  go_enter Try.func3, Try.ntmps3
  go_wp2_with fail
  refine (bytes_any a0 a1 a2 w).mono ?_
  rintro e w1 ⟨⟨r, rfl⟩, rfl⟩
  cases r
  · go_wp2
    go_ret
    exact ⟨rfl, Grown.refl _⟩
  by_cases h1 : (524288 : Int) < (a1.size : Int)
  · go_wp2
    go_ret
    exact ⟨rfl, Grown.refl _⟩
  by_cases h2 : (524288 : Int) < (a2.size : Int)
  · go_wp2
    go_ret
    exact ⟨rfl, Grown.refl _⟩
  go_wp2_with fail
  refine (parts_any a0 a1 a2 _).mono ?_
  rintro e w2 ⟨rfl, hG⟩
  go_wp2
  go_ret
  exact ⟨rfl, hG⟩

/-! ### THE ROW's STEP: WRITTEN OUT: LEAVE IT -/
set_option maxRecDepth 100000 in
theorem lifted (os : Os) (started : os.Started) (H : Type) (enc : TypeId × Value → H) :
    ReturnsInHanded {} Try.checked os 3 .any (Rows.fnRefuseCarriesStatusMessageDetailSpec.pre6 enc Try.prog Try.f3 Rows.fnRefuseCarriesStatusMessageDetailRow.domain false) (Rows.fnRefuseCarriesStatusMessageDetailSpec.post enc Try.prog Try.f3 false true false false) := by
  refine returnsInHanded_of_change (C := Try.checked) own started (by kernel_rfl) Try.func3
    (ChangeSpec.witness6 (enc := enc) (C := Try.checked) false ⟨#[], #[.int .i64 0, .string ByteArray.empty, .string ByteArray.empty], []⟩ 8 (by kernel_rfl) (by kernel_rfl) (by kernel_rfl) (by kernel_rfl)) ?_
  intro W base args ds gs before hval0 hW hcnd _
  have hval : ∀ (j : Nat) t v, Try.f3.params[j]? = some t → args[j]? = some v → Value.okWide Try.prog W .any base t v := hval0
  have hW' := hW
  obtain ⟨p, q, hA0, hV, rfl, hfz, hnd⟩ := hW
  have hA : DataW.TrodAll enc Try.prog W 0 (fun _ => true) true Try.f3.params.toList args.toList ds p := hA0
  rw [Try.params3] at hA hval
  obtain ⟨v0, vs0, d0, ds0, p0, q0, hargs, rfl, rfl, h0, r0⟩ := trodAll_cons hA
  obtain ⟨v1, vs1, d1, ds1, p1, q1, rfl, rfl, rfl, h1, r1⟩ := trodAll_cons r0
  obtain ⟨v2, vs2, d2, ds2, p2, q2, rfl, rfl, rfl, h2, r2⟩ := trodAll_cons r1
  obtain ⟨rfl, rfl, rfl⟩ := trodAll_nil r2
  obtain rfl : args = #[v0, v1, v2] := by cases args; simp_all
  obtain ⟨rfl, rfl⟩ := trodVars_none hV
  obtain ⟨a0, rfl, rfl, rfl, w0⟩ := open_int Try.underlying3 (hval 0 3 v0 rfl rfl) h0
  obtain ⟨a1, rfl, rfl, rfl, w1⟩ := open_string Try.underlying9 (hval 1 9 v1 rfl rfl) h1
  obtain ⟨a2, rfl, rfl, rfl, w2⟩ := open_string Try.underlying9 (hval 2 9 v2 rfl rfl) h2
  clear hA0 hval0
  simp only [List.append_nil] at hW'
  refine (walk a0 a1 a2 w0 w1 w2 W).mono fun e W' ⟨he, hg⟩ => ?_
  subst he
  exact ⟨_, rfl, post_of_same (pa := []) (pv := []) hW' (fun _ _ _ => (trodAll_cons_mk (shut_bool Try.underlying4 _) trodAll_mk0)) (fun sp _ => (trodAll_cons_mk (shut_int Try.underlying3 w0) (trodAll_cons_mk (shut_string Try.underlying9 w1) (trodAll_cons_mk (shut_string Try.underlying9 w2) trodAll_mk0)))) (fun _ _ => rfl) rfl
    (hg.frame _) hg.2.1 (ok_one (by kernel_rfl) rfl (okWide_bool_mk Try.underlying4 _))⟩

theorem over : Rows.fnRefuseCarriesStatusMessageDetailRow.holds Try.pinned (OpenSpec.ofChange Rows.fnRefuseCarriesStatusMessageDetailSpec) :=
  OpenClaim.holds_of_wide 3 Try.f3 rfl rfl rfl rfl rfl rfl rfl ⟨rfl, rfl, rfl, rfl, rfl⟩ rfl rfl rfl rfl rfl (by kernel_rfl) Try.func3 (by kernel_rfl)
    (of_decide_eq_true (by kernel_rfl)) (by unfold Func.isWrapper; first | (rw [if_pos (by decide +kernel)]; kernel_rfl) | (rw [if_neg (by decide +kernel)]; exact ⟨rfl, rfl⟩))
    (fun os started H enc _ => lifted os started H enc)

/-- ████ THE STATEMENT ████ -/
theorem proved : Rows.FnRefuseCarriesStatusMessageDetailSaid :=
  over
#print axioms proved
end Go.Proofs.Qxb6612630a.fnRefuseCarriesStatusMessageDetail
