/-
  No cell of these rows narrows 'for every input' (looked for: loops, veiled, ifaces, maps, wideKeys, modest, calm, conditions, laid).
  DERIVED. THE GIVEN ROWS OF THIS SEAT. 2 by the template 'for every input the law returns true; each argument reads behind the call as it read before'; 0 by the template 'total and deterministic' (their statements: Qxb6612528aTotals.lean).
  GIVEN WITH THE SEED: the statements are not yours to turn. If you find one false, say at which input.
  Laid BY PROGRAM, IN A SANDBOX (cutbox-rows.mjs): the forced cells as the released guide's own fill.sh prints them over the translation fe108f6431d6b5b1… (all of the seat's roots in one cut). By AI agents, Wed Nov 11 2026. No macro, syntax, notation, axiom, sorry.
-/
import Derived.Test.Qxb6612528aChecked
import GoSem.Claim
import GoSem.ClaimJoined
import GoSem.ClaimMapViews
import Derived.JoinedTies
import Derived.KernelRfl
namespace Go.Proofs.Qxb6612528a
/- THE CELL 'sum', in the pinned program and in every row, IS THE sha256 OF THE DUMP (.gsa) THAT Qxb6612528aProg.lean LOADS. Nothing in Lean hashes anything: it is a label: what it is worth is what the hold of that sum in a sandbox is worth. -/
noncomputable def Try.pinned : Pinned := { name := "qxb6612528a", sum := "fe108f6431d6b5b1d3292f2b9731d5cc2146b28e233f2a46f14f0f8bb852c7bb", checked := Try.checked }
namespace Rows
def none {H : Type} : Left H := { results := [], args := [] }

/-- 'zzlaws_internal_relay_b1.FnComeDueIsLeastOfRowsAndRound': WHATEVER THE INPUT: true; the input reads as it did. -/
def fnComeDueIsLeastOfRowsAndRoundSpec : ChangeSpec := { name := "fnComeDueIsLeastOfRowsAndRound", fn := fun _ => fun
  | [d1, d2] => { results := [.lit (.bool true)], args := [d1, d2] }
  | _ => none }
def fnComeDueIsLeastOfRowsAndRoundRow : OpenClaim := { program := "qxb6612528a", sum := "fe108f6431d6b5b1d3292f2b9731d5cc2146b28e233f2a46f14f0f8bb852c7bb", func := "example.com/relaybox/relaybox/zzlaws_internal_relay_b1.FnComeDueIsLeastOfRowsAndRound", spec := "fnComeDueIsLeastOfRowsAndRound", apart := false }
def FnComeDueIsLeastOfRowsAndRoundSaid : Prop := fnComeDueIsLeastOfRowsAndRoundRow.holds Try.pinned (OpenSpec.ofChange fnComeDueIsLeastOfRowsAndRoundSpec)

/-- ITS FALSE NEIGHBOUR: 'it returns false'. Refute it at one input. -/
def fnComeDueIsLeastOfRowsAndRoundWrong : ChangeSpec := { name := "fnComeDueIsLeastOfRowsAndRound", fn := fun _ => fun
  | [d1, d2] => { results := [.lit (.bool false)], args := [d1, d2] }
  | _ => none }
def FnComeDueIsLeastOfRowsAndRoundWrongFalsely : Prop := fnComeDueIsLeastOfRowsAndRoundRow.holds Try.pinned (OpenSpec.ofChange fnComeDueIsLeastOfRowsAndRoundWrong)

/-- 'zzlaws_internal_relay_b1.FnComeDueIdempotentMonotoneBytesFree': WHATEVER THE INPUT: true; the input reads as it did. -/
def fnComeDueIdempotentMonotoneBytesFreeSpec : ChangeSpec := { name := "fnComeDueIdempotentMonotoneBytesFree", fn := fun _ => fun
  | [d1, d2, d3, d4] => { results := [.lit (.bool true)], args := [d1, d2, d3, d4] }
  | _ => none }
def fnComeDueIdempotentMonotoneBytesFreeRow : OpenClaim := { program := "qxb6612528a", sum := "fe108f6431d6b5b1d3292f2b9731d5cc2146b28e233f2a46f14f0f8bb852c7bb", func := "example.com/relaybox/relaybox/zzlaws_internal_relay_b1.FnComeDueIdempotentMonotoneBytesFree", spec := "fnComeDueIdempotentMonotoneBytesFree", apart := false }
def FnComeDueIdempotentMonotoneBytesFreeSaid : Prop := fnComeDueIdempotentMonotoneBytesFreeRow.holds Try.pinned (OpenSpec.ofChange fnComeDueIdempotentMonotoneBytesFreeSpec)

/-- ITS FALSE NEIGHBOUR: 'it returns false'. Refute it at one input. -/
def fnComeDueIdempotentMonotoneBytesFreeWrong : ChangeSpec := { name := "fnComeDueIdempotentMonotoneBytesFree", fn := fun _ => fun
  | [d1, d2, d3, d4] => { results := [.lit (.bool false)], args := [d1, d2, d3, d4] }
  | _ => none }
def FnComeDueIdempotentMonotoneBytesFreeWrongFalsely : Prop := fnComeDueIdempotentMonotoneBytesFreeRow.holds Try.pinned (OpenSpec.ofChange fnComeDueIdempotentMonotoneBytesFreeWrong)

end Rows
end Go.Proofs.Qxb6612528a
