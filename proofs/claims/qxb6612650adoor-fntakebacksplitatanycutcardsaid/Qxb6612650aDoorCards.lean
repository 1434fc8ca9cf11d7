/-
  DERIVED. GIVEN WITH THE SEED: THE CARDS: each row of Qxb6612650aDoorRows.lean that lists a variable, with what it lists TIED to the program's text (the seventh form; the later family's looks); each row that meets fmt, with fmt's text TOLD by the authors' own Lean function (tested against real Go, not proved from fmt's source: count such statements apart). THE CARD IS WHAT COUNTS. Prove the row's statement (the work); the ties are given (Qxb6612650aDoorTie.lean); close each card by the builder's one call (the guide's Derived/Test/ToyasCard.lean, 'card_holds'). Laid BY PROGRAM, IN A SANDBOX (cutbox-door.mjs). By AI agents, Wed Nov 11 2026. No macro, syntax, notation, axiom, sorry.
-/
import Derived.Test.Qxb6612650aDoorRows
import GoSem.ClaimSeven
namespace Go.Proofs.Qxb6612650aDoor
namespace Rows

/-- THE TIED CARD OF 'zzlaws_internal_placement_b1.FnTakeBackFreesExactlyTheUnitsGiven'. -/
def fnTakeBackFreesExactlyTheUnitsGivenCard : Claim7 := { stood := { row := fnTakeBackFreesExactlyTheUnitsGivenRow, standIns := [], harness := (true, "c138b495de2b1d9ba96f2cc20c11c93d6cb7553914f6a7460815a18e149f6bc5"), looks := false }, kinds := [], alts := [], laidByText := true, laidKinds := [.widerDeep], laidTests := true, laidLooks := .later }
def FnTakeBackFreesExactlyTheUnitsGivenCardSaid : Prop := Claim7.holds Tryd.pinned (.plain (OpenSpec.ofChange fnTakeBackFreesExactlyTheUnitsGivenSpec)) fnTakeBackFreesExactlyTheUnitsGivenCard

/-- THE TIED CARD OF 'zzlaws_internal_placement_b1.FnTakeBackSplitAtAnyCut'. -/
def fnTakeBackSplitAtAnyCutCard : Claim7 := { stood := { row := fnTakeBackSplitAtAnyCutRow, standIns := [], harness := (true, "c138b495de2b1d9ba96f2cc20c11c93d6cb7553914f6a7460815a18e149f6bc5"), looks := false }, kinds := [], alts := [], laidByText := true, laidKinds := [.widerDeep], laidTests := true, laidLooks := .later }
def FnTakeBackSplitAtAnyCutCardSaid : Prop := Claim7.holds Tryd.pinned (.plain (OpenSpec.ofChange fnTakeBackSplitAtAnyCutSpec)) fnTakeBackSplitAtAnyCutCard
end Rows
end Go.Proofs.Qxb6612650aDoor
