import Derived.Test.Qxb6612650aDoorProof
import Derived.Test.Qxb6612650aDoorTie
import Derived.Test.Qxb6612650aDoorCards
import Derived.SevenTiedAt
namespace Go.Proofs.Qxb6612650aDoor
open Go

theorem card_holds : Rows.FnTakeBackSplitAtAnyCutCardSaid :=
  Claim7.holds_tied_plain_at .later [] [.widerDeep] true (true, "c138b495de2b1d9ba96f2cc20c11c93d6cb7553914f6a7460815a18e149f6bc5") false
    row_holds (fun _ h => by cases h) (by kernel_rfl) (fun _ h => by cases h) fnTakeBackSplitAtAnyCut_row_tie rfl ⟨rfl, rfl⟩ (by kernel_rfl) rfl
    (fun f fn hf hfn => by
      obtain rfl : f = 4 := Option.some.inj ((show Tryd.prog.funcNamed "example.com/tessellate/tessellate/zzlaws_internal_placement_b1.FnTakeBackSplitAtAnyCut" = some 4 by kernel_rfl).symm.trans hf) |>.symm
      obtain rfl : fn = Tryd.f4 := (Option.some.inj (Tryd.func4.symm.trans hfn)).symm
      exact ⟨by kernel_rfl, fun j t ht => by
        rw [Tryd.params4] at ht
        have hm : t ∈ [22, 22, 4, 4, 3, 23, 3] := by simpa using Array.mem_of_getElem? ht
        have hall : ([22, 22, 4, 4, 3, 23, 3].all fun u => !Tryd.prog.wantsStandIn u) = true := by kernel_rfl
        exact (show Tryd.prog.wantsStandIn t = false by simpa using List.all_eq_true.1 hall t hm)⟩)
    (by kernel_rfl)
#print axioms card_holds
end Go.Proofs.Qxb6612650aDoor
