/-
  No cell of these rows narrows 'for every input' (looked for: loops, veiled, ifaces, maps, wideKeys, modest, calm, conditions, laid).
  DERIVED. THE GIVEN ROWS OF THIS SEAT. 1 by the template 'for every input the law returns true; each argument reads behind the call as it read before'; 0 by the template 'total and deterministic' (their statements: Qxb6612630aTotals.lean).
  GIVEN WITH THE SEED: the statements are not yours to turn. If you find one false, say at which input.
  Laid BY PROGRAM, IN A SANDBOX (cutbox-rows.mjs): the forced cells as the released guide's own fill.sh prints them over the translation b8dcb47af45c3621… (all of the seat's roots in one cut). By AI agents, Wed Nov 11 2026. No macro, syntax, notation, axiom, sorry.
-/
import Derived.Test.Qxb6612630aChecked
import GoSem.Claim
import GoSem.ClaimJoined
import GoSem.ClaimMapViews
import Derived.JoinedTies
import Derived.KernelRfl
namespace Go.Proofs.Qxb6612630a
/- THE CELL 'sum', in the pinned program and in every row, IS THE sha256 OF THE DUMP (.gsa) THAT Qxb6612630aProg.lean LOADS. Nothing in Lean hashes anything: it is a label: what it is worth is what the hold of that sum in a sandbox is worth. -/
noncomputable def Try.pinned : Pinned := { name := "qxb6612630a", sum := "b8dcb47af45c3621c9ead5095da9c5f91f06ca0bbe2605ee6a21337eb32f8db8", checked := Try.checked }
namespace Rows
def none {H : Type} : Left H := { results := [], args := [] }

/-- 'zzlaws_internal_tokenapi_b1.FnRefuseCarriesStatusMessageDetail': WHATEVER THE INPUT: true; the input reads as it did. -/
def fnRefuseCarriesStatusMessageDetailSpec : ChangeSpec := { name := "fnRefuseCarriesStatusMessageDetail", fn := fun _ => fun
  | [d1, d2, d3] => { results := [.lit (.bool true)], args := [d1, d2, d3] }
  | _ => none }
def fnRefuseCarriesStatusMessageDetailRow : OpenClaim := { program := "qxb6612630a", sum := "b8dcb47af45c3621c9ead5095da9c5f91f06ca0bbe2605ee6a21337eb32f8db8", func := "example.com/nutcracker/nutcracker/zzlaws_internal_tokenapi_b1.FnRefuseCarriesStatusMessageDetail", spec := "fnRefuseCarriesStatusMessageDetail", unfollowed := true, recurses := true, apart := false }
def FnRefuseCarriesStatusMessageDetailSaid : Prop := fnRefuseCarriesStatusMessageDetailRow.holds Try.pinned (OpenSpec.ofChange fnRefuseCarriesStatusMessageDetailSpec)

/-- ITS FALSE NEIGHBOUR: 'it returns false'. Refute it at one input. -/
def fnRefuseCarriesStatusMessageDetailWrong : ChangeSpec := { name := "fnRefuseCarriesStatusMessageDetail", fn := fun _ => fun
  | [d1, d2, d3] => { results := [.lit (.bool false)], args := [d1, d2, d3] }
  | _ => none }
def FnRefuseCarriesStatusMessageDetailWrongFalsely : Prop := fnRefuseCarriesStatusMessageDetailRow.holds Try.pinned (OpenSpec.ofChange fnRefuseCarriesStatusMessageDetailWrong)

end Rows
end Go.Proofs.Qxb6612630a
