/-
  NARROWER THAN 'FOR EVERY INPUT', by the rows' own cells (each row's printed sentence says how): FnTakeBackFreesExactlyTheUnitsGiven: laid · FnTakeBackSplitAtAnyCut: laid.
  DERIVED. THE GIVEN ROWS OF THIS SEAT. 2 by the template 'for every input the law returns true; each argument reads behind the call as it read before'; 0 by the template 'total and deterministic' (their statements: Qxb6612650aDoorTotals.lean).
  GIVEN WITH THE SEED: the statements are not yours to turn. If you find one false, say at which input.
  Laid BY PROGRAM, IN A SANDBOX (cutbox-rows.mjs): the forced cells as the released guide's own fill.sh prints them over the translation 0164ef378690a7e3… (all of the seat's roots in one cut). By AI agents, Wed Nov 11 2026. No macro, syntax, notation, axiom, sorry.
-/
import Derived.Test.Qxb6612650aDoorChecked
import GoSem.Claim
import GoSem.ClaimJoined
import GoSem.ClaimMapViews
import Derived.JoinedTies
import Derived.KernelRfl
namespace Go.Proofs.Qxb6612650aDoor
/- THE CELL 'sum', in the pinned program and in every row, IS THE sha256 OF THE DUMP (.gsa) THAT Qxb6612650aDoorProg.lean LOADS. Nothing in Lean hashes anything: it is a label: what it is worth is what the hold of that sum in a sandbox is worth. -/
noncomputable def Tryd.pinned : Pinned := { name := "qxb6612650adoor", sum := "0164ef378690a7e3461efe5181773bed9388c97f1a45ebc03f44830650d4e552", checked := Tryd.checked }
namespace Rows
def none {H : Type} : Left H := { results := [], args := [] }

/- WHAT THE LISTED PACKAGE-LEVEL VARIABLES READ AS WHEN THE CALL BEGINS. Each datum BY PROGRAM (the guide's laid-datum.mjs) off the statement by which the dump's own 'gosem.cut.vars' lays the variable. In a bare row this is a premise. The card (Qxb6612650aDoorCards.lean) ties it to the program's text. -/
def laid_example_com_tessellate_tessellate_internal_inventory_Resources {H : Type} : DataW H := .agg [.lit (.int .i64 0), .lit (.int .i64 1)]

/-- 'zzlaws_internal_placement_b1.FnTakeBackFreesExactlyTheUnitsGiven': WHATEVER THE INPUT: true; the input reads as it did. -/
def fnTakeBackFreesExactlyTheUnitsGivenSpec : ChangeSpec := { name := "fnTakeBackFreesExactlyTheUnitsGiven", vars := ["example.com/tessellate/tessellate/internal/inventory.Resources"], fn := fun _ => fun
  | [d1, d2, d3, d4, d5, d6, g1] => { results := [.lit (.bool true)], args := [d1, d2, d3, d4, d5, d6], vars := [g1] }
  | _ => none }
def fnTakeBackFreesExactlyTheUnitsGivenRow : OpenClaim := { program := "qxb6612650adoor", sum := "0164ef378690a7e3461efe5181773bed9388c97f1a45ebc03f44830650d4e552", func := "example.com/tessellate/tessellate/zzlaws_internal_placement_b1.FnTakeBackFreesExactlyTheUnitsGiven", spec := "fnTakeBackFreesExactlyTheUnitsGiven", unfollowed := true, recurses := true, named := ["example.com/tessellate/tessellate/internal/inventory.Resources"], apart := false, laid := [("example.com/tessellate/tessellate/internal/inventory.Resources", laid_example_com_tessellate_tessellate_internal_inventory_Resources)] }
def FnTakeBackFreesExactlyTheUnitsGivenSaid : Prop := fnTakeBackFreesExactlyTheUnitsGivenRow.holds Tryd.pinned (OpenSpec.ofChange fnTakeBackFreesExactlyTheUnitsGivenSpec)

/-- ITS FALSE NEIGHBOUR: 'it returns false'. Refute it at one input. -/
def fnTakeBackFreesExactlyTheUnitsGivenWrong : ChangeSpec := { name := "fnTakeBackFreesExactlyTheUnitsGiven", vars := ["example.com/tessellate/tessellate/internal/inventory.Resources"], fn := fun _ => fun
  | [d1, d2, d3, d4, d5, d6, g1] => { results := [.lit (.bool false)], args := [d1, d2, d3, d4, d5, d6], vars := [g1] }
  | _ => none }
def FnTakeBackFreesExactlyTheUnitsGivenWrongFalsely : Prop := fnTakeBackFreesExactlyTheUnitsGivenRow.holds Tryd.pinned (OpenSpec.ofChange fnTakeBackFreesExactlyTheUnitsGivenWrong)

/-- 'zzlaws_internal_placement_b1.FnTakeBackSplitAtAnyCut': WHATEVER THE INPUT: true; the input reads as it did. -/
def fnTakeBackSplitAtAnyCutSpec : ChangeSpec := { name := "fnTakeBackSplitAtAnyCut", vars := ["example.com/tessellate/tessellate/internal/inventory.Resources"], fn := fun _ => fun
  | [d1, d2, d3, d4, d5, d6, d7, g1] => { results := [.lit (.bool true)], args := [d1, d2, d3, d4, d5, d6, d7], vars := [g1] }
  | _ => none }
def fnTakeBackSplitAtAnyCutRow : OpenClaim := { program := "qxb6612650adoor", sum := "0164ef378690a7e3461efe5181773bed9388c97f1a45ebc03f44830650d4e552", func := "example.com/tessellate/tessellate/zzlaws_internal_placement_b1.FnTakeBackSplitAtAnyCut", spec := "fnTakeBackSplitAtAnyCut", unfollowed := true, recurses := true, named := ["example.com/tessellate/tessellate/internal/inventory.Resources"], apart := false, laid := [("example.com/tessellate/tessellate/internal/inventory.Resources", laid_example_com_tessellate_tessellate_internal_inventory_Resources)] }
def FnTakeBackSplitAtAnyCutSaid : Prop := fnTakeBackSplitAtAnyCutRow.holds Tryd.pinned (OpenSpec.ofChange fnTakeBackSplitAtAnyCutSpec)

/-- ITS FALSE NEIGHBOUR: 'it returns false'. Refute it at one input. -/
def fnTakeBackSplitAtAnyCutWrong : ChangeSpec := { name := "fnTakeBackSplitAtAnyCut", vars := ["example.com/tessellate/tessellate/internal/inventory.Resources"], fn := fun _ => fun
  | [d1, d2, d3, d4, d5, d6, d7, g1] => { results := [.lit (.bool false)], args := [d1, d2, d3, d4, d5, d6, d7], vars := [g1] }
  | _ => none }
def FnTakeBackSplitAtAnyCutWrongFalsely : Prop := fnTakeBackSplitAtAnyCutRow.holds Tryd.pinned (OpenSpec.ofChange fnTakeBackSplitAtAnyCutWrong)

end Rows
end Go.Proofs.Qxb6612650aDoor
