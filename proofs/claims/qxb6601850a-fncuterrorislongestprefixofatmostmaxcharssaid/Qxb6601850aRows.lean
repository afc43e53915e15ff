/-
  No cell of these rows narrows 'for every input' (looked for: loops, veiled, ifaces, maps, wideKeys, modest, calm, conditions, laid).
  DERIVED. THE GIVEN ROWS OF THIS SEAT. 3 by the template 'for every input the law returns true; each argument reads behind the call as it read before'; 0 by the template 'total and deterministic' (their statements: Qxb6601850aTotals.lean).
  GIVEN WITH THE SEED: the statements are not yours to turn. If you find one false, say at which input.
  Laid BY PROGRAM, IN A SANDBOX (cutbox-rows.mjs): the forced cells as the released guide's own fill.sh prints them over the translation bf2d2d69e3fdf565… (all of the seat's roots in one cut). By AI agents, Wed Nov 11 2026. No macro, syntax, notation, axiom, sorry.
-/
import Derived.Test.Qxb6601850aChecked
import GoSem.Claim
import GoSem.ClaimJoined
import GoSem.ClaimMapViews
import Derived.JoinedTies
import Derived.KernelRfl
namespace Go.Proofs.Qxb6601850a
/- THE CELL 'sum', in the pinned program and in every row, IS THE sha256 OF THE DUMP (.gsa) THAT Qxb6601850aProg.lean LOADS. Nothing in Lean hashes anything: it is a label: what it is worth is what the hold of that sum in a sandbox is worth. -/
noncomputable def Try.pinned : Pinned := { name := "qxb6601850a", sum := "bf2d2d69e3fdf56550559d87a18c32e37ce99866036a15561bef2cf3687ee9a9", checked := Try.checked }
namespace Rows
def none {H : Type} : Left H := { results := [], args := [] }

/-- 'zzlaws_pkg_ledger_b1.FnCutErrorIsLongestPrefixOfAtMostMaxChars': WHATEVER THE INPUT: true; the input reads as it did. -/
def fnCutErrorIsLongestPrefixOfAtMostMaxCharsSpec : ChangeSpec := { name := "fnCutErrorIsLongestPrefixOfAtMostMaxChars", fn := fun _ => fun
  | [d] => { results := [.lit (.bool true)], args := [d] }
  | _ => none }
def fnCutErrorIsLongestPrefixOfAtMostMaxCharsRow : OpenClaim := { program := "qxb6601850a", sum := "bf2d2d69e3fdf56550559d87a18c32e37ce99866036a15561bef2cf3687ee9a9", func := "example.com/jobledger/jobledger/zzlaws_pkg_ledger_b1.FnCutErrorIsLongestPrefixOfAtMostMaxChars", spec := "fnCutErrorIsLongestPrefixOfAtMostMaxChars", apart := false }
def FnCutErrorIsLongestPrefixOfAtMostMaxCharsSaid : Prop := fnCutErrorIsLongestPrefixOfAtMostMaxCharsRow.holds Try.pinned (OpenSpec.ofChange fnCutErrorIsLongestPrefixOfAtMostMaxCharsSpec)

/-- ITS FALSE NEIGHBOUR: 'it returns false'. Refute it at one input. -/
def fnCutErrorIsLongestPrefixOfAtMostMaxCharsWrong : ChangeSpec := { name := "fnCutErrorIsLongestPrefixOfAtMostMaxChars", fn := fun _ => fun
  | [d] => { results := [.lit (.bool false)], args := [d] }
  | _ => none }
def FnCutErrorIsLongestPrefixOfAtMostMaxCharsWrongFalsely : Prop := fnCutErrorIsLongestPrefixOfAtMostMaxCharsRow.holds Try.pinned (OpenSpec.ofChange fnCutErrorIsLongestPrefixOfAtMostMaxCharsWrong)

/-- 'zzlaws_pkg_ledger_b1.FnCutErrorByteLengthBounds': WHATEVER THE INPUT: true; the input reads as it did. -/
def fnCutErrorByteLengthBoundsSpec : ChangeSpec := { name := "fnCutErrorByteLengthBounds", fn := fun _ => fun
  | [d] => { results := [.lit (.bool true)], args := [d] }
  | _ => none }
def fnCutErrorByteLengthBoundsRow : OpenClaim := { program := "qxb6601850a", sum := "bf2d2d69e3fdf56550559d87a18c32e37ce99866036a15561bef2cf3687ee9a9", func := "example.com/jobledger/jobledger/zzlaws_pkg_ledger_b1.FnCutErrorByteLengthBounds", spec := "fnCutErrorByteLengthBounds", apart := false }
def FnCutErrorByteLengthBoundsSaid : Prop := fnCutErrorByteLengthBoundsRow.holds Try.pinned (OpenSpec.ofChange fnCutErrorByteLengthBoundsSpec)

/-- ITS FALSE NEIGHBOUR: 'it returns false'. Refute it at one input. -/
def fnCutErrorByteLengthBoundsWrong : ChangeSpec := { name := "fnCutErrorByteLengthBounds", fn := fun _ => fun
  | [d] => { results := [.lit (.bool false)], args := [d] }
  | _ => none }
def FnCutErrorByteLengthBoundsWrongFalsely : Prop := fnCutErrorByteLengthBoundsRow.holds Try.pinned (OpenSpec.ofChange fnCutErrorByteLengthBoundsWrong)

/-- 'zzlaws_pkg_ledger_b1.FnCutErrorIsIdempotent': WHATEVER THE INPUT: true; the input reads as it did. -/
def fnCutErrorIsIdempotentSpec : ChangeSpec := { name := "fnCutErrorIsIdempotent", fn := fun _ => fun
  | [d] => { results := [.lit (.bool true)], args := [d] }
  | _ => none }
def fnCutErrorIsIdempotentRow : OpenClaim := { program := "qxb6601850a", sum := "bf2d2d69e3fdf56550559d87a18c32e37ce99866036a15561bef2cf3687ee9a9", func := "example.com/jobledger/jobledger/zzlaws_pkg_ledger_b1.FnCutErrorIsIdempotent", spec := "fnCutErrorIsIdempotent", apart := false }
def FnCutErrorIsIdempotentSaid : Prop := fnCutErrorIsIdempotentRow.holds Try.pinned (OpenSpec.ofChange fnCutErrorIsIdempotentSpec)

/-- ITS FALSE NEIGHBOUR: 'it returns false'. Refute it at one input. -/
def fnCutErrorIsIdempotentWrong : ChangeSpec := { name := "fnCutErrorIsIdempotent", fn := fun _ => fun
  | [d] => { results := [.lit (.bool false)], args := [d] }
  | _ => none }
def FnCutErrorIsIdempotentWrongFalsely : Prop := fnCutErrorIsIdempotentRow.holds Try.pinned (OpenSpec.ofChange fnCutErrorIsIdempotentWrong)

end Rows
end Go.Proofs.Qxb6601850a
