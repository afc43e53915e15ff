/-
  No cell of these rows narrows 'for every input' (looked for: loops, veiled, ifaces, maps, wideKeys, modest, calm, conditions, laid).
  DERIVED. THE GIVEN ROWS OF THIS SEAT. 3 by the template 'for every input the law returns true; each argument reads behind the call as it read before'; 0 by the template 'total and deterministic' (their statements: Qxb6001473aTotals.lean).
  GIVEN WITH THE SEED: the statements are not yours to turn. If you find one false, say at which input.
  Laid BY PROGRAM, IN A SANDBOX (cutbox-rows.mjs): the forced cells as the released guide's own fill.sh prints them over the translation 48e0e5158327eaea… (all of the seat's roots in one cut). By AI agents, Wed Nov 11 2026. No macro, syntax, notation, axiom, sorry.
-/
import Derived.Test.Qxb6001473aChecked
import GoSem.Claim
import GoSem.ClaimJoined
import GoSem.ClaimMapViews
import Derived.JoinedTies
import Derived.KernelRfl
namespace Go.Proofs.Qxb6001473a
/- THE CELL 'sum', in the pinned program and in every row, IS THE sha256 OF THE DUMP (.gsa) THAT Qxb6001473aProg.lean LOADS. Nothing in Lean hashes anything: it is a label: what it is worth is what the hold of that sum in a sandbox is worth. -/
noncomputable def Try.pinned : Pinned := { name := "qxb6001473a", sum := "48e0e5158327eaeac1e1b79957e1f046bd728736ae22b5d6cc73f4ee4a8fc474", checked := Try.checked }
namespace Rows
def none {H : Type} : Left H := { results := [], args := [] }

/-- 'zzlaws_root_b1.FnCellNoneOnlyForNothing': WHATEVER THE INPUT: true; the input reads as it did. -/
def fnCellNoneOnlyForNothingSpec : ChangeSpec := { name := "fnCellNoneOnlyForNothing", fn := fun _ => fun
  | [d] => { results := [.lit (.bool true)], args := [d] }
  | _ => none }
def fnCellNoneOnlyForNothingRow : OpenClaim := { program := "qxb6001473a", sum := "48e0e5158327eaeac1e1b79957e1f046bd728736ae22b5d6cc73f4ee4a8fc474", func := "example.com/grantline/grantline/zzlaws_root_b1.FnCellNoneOnlyForNothing", spec := "fnCellNoneOnlyForNothing", inPlace := ["internal/abi.NoEscape", "internal/bytealg.MakeNoZero"], apart := false }
def FnCellNoneOnlyForNothingSaid : Prop := fnCellNoneOnlyForNothingRow.holds Try.pinned (OpenSpec.ofChange fnCellNoneOnlyForNothingSpec)

/-- ITS FALSE NEIGHBOUR: 'it returns false'. Refute it at one input. -/
def fnCellNoneOnlyForNothingWrong : ChangeSpec := { name := "fnCellNoneOnlyForNothing", fn := fun _ => fun
  | [d] => { results := [.lit (.bool false)], args := [d] }
  | _ => none }
def FnCellNoneOnlyForNothingWrongFalsely : Prop := fnCellNoneOnlyForNothingRow.holds Try.pinned (OpenSpec.ofChange fnCellNoneOnlyForNothingWrong)

/-- 'zzlaws_root_b1.FnCellSplitRoundTrip': WHATEVER THE INPUT: true; the input reads as it did. -/
def fnCellSplitRoundTripSpec : ChangeSpec := { name := "fnCellSplitRoundTrip", fn := fun _ => fun
  | [d] => { results := [.lit (.bool true)], args := [d] }
  | _ => none }
def fnCellSplitRoundTripRow : OpenClaim := { program := "qxb6001473a", sum := "48e0e5158327eaeac1e1b79957e1f046bd728736ae22b5d6cc73f4ee4a8fc474", func := "example.com/grantline/grantline/zzlaws_root_b1.FnCellSplitRoundTrip", spec := "fnCellSplitRoundTrip", inPlace := ["internal/abi.NoEscape", "internal/bytealg.MakeNoZero"], apart := false }
def FnCellSplitRoundTripSaid : Prop := fnCellSplitRoundTripRow.holds Try.pinned (OpenSpec.ofChange fnCellSplitRoundTripSpec)

/-- ITS FALSE NEIGHBOUR: 'it returns false'. Refute it at one input. -/
def fnCellSplitRoundTripWrong : ChangeSpec := { name := "fnCellSplitRoundTrip", fn := fun _ => fun
  | [d] => { results := [.lit (.bool false)], args := [d] }
  | _ => none }
def FnCellSplitRoundTripWrongFalsely : Prop := fnCellSplitRoundTripRow.holds Try.pinned (OpenSpec.ofChange fnCellSplitRoundTripWrong)

/-- 'zzlaws_root_b1.FnCellConcat': WHATEVER THE INPUT: true; the input reads as it did. -/
def fnCellConcatSpec : ChangeSpec := { name := "fnCellConcat", fn := fun _ => fun
  | [d1, d2] => { results := [.lit (.bool true)], args := [d1, d2] }
  | _ => none }
def fnCellConcatRow : OpenClaim := { program := "qxb6001473a", sum := "48e0e5158327eaeac1e1b79957e1f046bd728736ae22b5d6cc73f4ee4a8fc474", func := "example.com/grantline/grantline/zzlaws_root_b1.FnCellConcat", spec := "fnCellConcat", inPlace := ["internal/abi.NoEscape", "internal/bytealg.MakeNoZero"], apart := false }
def FnCellConcatSaid : Prop := fnCellConcatRow.holds Try.pinned (OpenSpec.ofChange fnCellConcatSpec)

/-- ITS FALSE NEIGHBOUR: 'it returns false'. Refute it at one input. -/
def fnCellConcatWrong : ChangeSpec := { name := "fnCellConcat", fn := fun _ => fun
  | [d1, d2] => { results := [.lit (.bool false)], args := [d1, d2] }
  | _ => none }
def FnCellConcatWrongFalsely : Prop := fnCellConcatRow.holds Try.pinned (OpenSpec.ofChange fnCellConcatWrong)

end Rows
end Go.Proofs.Qxb6001473a
