/-
  No cell of these rows narrows 'for every input' (looked for: loops, veiled, ifaces, maps, wideKeys, modest, calm, conditions, laid).
  DERIVED. THE GIVEN ROWS OF THIS SEAT. 3 by the template 'for every input the law returns true; each argument reads behind the call as it read before'; 0 by the template 'total and deterministic' (their statements: Qxb6602906aTotals.lean).
  GIVEN WITH THE SEED: the statements are not yours to turn. If you find one false, say at which input.
  Laid BY PROGRAM, IN A SANDBOX (cutbox-rows.mjs): the forced cells as the released guide's own fill.sh prints them over the translation bd8374434d7a9f39… (all of the seat's roots in one cut). By AI agents, Wed Nov 11 2026. No macro, syntax, notation, axiom, sorry.
-/
import Derived.Test.Qxb6602906aChecked
import GoSem.Claim
import GoSem.ClaimJoined
import GoSem.ClaimMapViews
import Derived.JoinedTies
import Derived.KernelRfl
namespace Go.Proofs.Qxb6602906a
/- THE CELL 'sum', in the pinned program and in every row, IS THE sha256 OF THE DUMP (.gsa) THAT Qxb6602906aProg.lean LOADS. Nothing in Lean hashes anything: it is a label: what it is worth is what the hold of that sum in a sandbox is worth. -/
noncomputable def Try.pinned : Pinned := { name := "qxb6602906a", sum := "bd8374434d7a9f39dbe1468c8ef0d390eb11e8f40693f3e937c28915aa6b0e15", checked := Try.checked }
namespace Rows
def none {H : Type} : Left H := { results := [], args := [] }

/-- 'zzlaws_hook_b1.FnLastQuoteMatchesBackwardScan': WHATEVER THE INPUT: true; the input reads as it did. -/
def fnLastQuoteMatchesBackwardScanSpec : ChangeSpec := { name := "fnLastQuoteMatchesBackwardScan", fn := fun _ => fun
  | [d] => { results := [.lit (.bool true)], args := [d] }
  | _ => none }
def fnLastQuoteMatchesBackwardScanRow : OpenClaim := { program := "qxb6602906a", sum := "bd8374434d7a9f39dbe1468c8ef0d390eb11e8f40693f3e937c28915aa6b0e15", func := "example.com/hookwright/hookwright/zzlaws_hook_b1.FnLastQuoteMatchesBackwardScan", spec := "fnLastQuoteMatchesBackwardScan", inPlace := ["internal/bytealg.IndexByte"], apart := false }
def FnLastQuoteMatchesBackwardScanSaid : Prop := fnLastQuoteMatchesBackwardScanRow.holds Try.pinned (OpenSpec.ofChange fnLastQuoteMatchesBackwardScanSpec)

/-- ITS FALSE NEIGHBOUR: 'it returns false'. Refute it at one input. -/
def fnLastQuoteMatchesBackwardScanWrong : ChangeSpec := { name := "fnLastQuoteMatchesBackwardScan", fn := fun _ => fun
  | [d] => { results := [.lit (.bool false)], args := [d] }
  | _ => none }
def FnLastQuoteMatchesBackwardScanWrongFalsely : Prop := fnLastQuoteMatchesBackwardScanRow.holds Try.pinned (OpenSpec.ofChange fnLastQuoteMatchesBackwardScanWrong)

/-- 'zzlaws_hook_b1.FnLastQuoteSplitsOverConcatenation': WHATEVER THE INPUT: true; the input reads as it did. -/
def fnLastQuoteSplitsOverConcatenationSpec : ChangeSpec := { name := "fnLastQuoteSplitsOverConcatenation", fn := fun _ => fun
  | [d1, d2] => { results := [.lit (.bool true)], args := [d1, d2] }
  | _ => none }
def fnLastQuoteSplitsOverConcatenationRow : OpenClaim := { program := "qxb6602906a", sum := "bd8374434d7a9f39dbe1468c8ef0d390eb11e8f40693f3e937c28915aa6b0e15", func := "example.com/hookwright/hookwright/zzlaws_hook_b1.FnLastQuoteSplitsOverConcatenation", spec := "fnLastQuoteSplitsOverConcatenation", inPlace := ["internal/bytealg.IndexByte"], apart := false }
def FnLastQuoteSplitsOverConcatenationSaid : Prop := fnLastQuoteSplitsOverConcatenationRow.holds Try.pinned (OpenSpec.ofChange fnLastQuoteSplitsOverConcatenationSpec)

/-- ITS FALSE NEIGHBOUR: 'it returns false'. Refute it at one input. -/
def fnLastQuoteSplitsOverConcatenationWrong : ChangeSpec := { name := "fnLastQuoteSplitsOverConcatenation", fn := fun _ => fun
  | [d1, d2] => { results := [.lit (.bool false)], args := [d1, d2] }
  | _ => none }
def FnLastQuoteSplitsOverConcatenationWrongFalsely : Prop := fnLastQuoteSplitsOverConcatenationRow.holds Try.pinned (OpenSpec.ofChange fnLastQuoteSplitsOverConcatenationWrong)

/-- 'zzlaws_hook_b1.FnNextLandsOnTheRightByte': WHATEVER THE INPUT: true; the input reads as it did. -/
def fnNextLandsOnTheRightByteSpec : ChangeSpec := { name := "fnNextLandsOnTheRightByte", fn := fun _ => fun
  | [d1, d2, d3] => { results := [.lit (.bool true)], args := [d1, d2, d3] }
  | _ => none }
def fnNextLandsOnTheRightByteRow : OpenClaim := { program := "qxb6602906a", sum := "bd8374434d7a9f39dbe1468c8ef0d390eb11e8f40693f3e937c28915aa6b0e15", func := "example.com/hookwright/hookwright/zzlaws_hook_b1.FnNextLandsOnTheRightByte", spec := "fnNextLandsOnTheRightByte", apart := false }
def FnNextLandsOnTheRightByteSaid : Prop := fnNextLandsOnTheRightByteRow.holds Try.pinned (OpenSpec.ofChange fnNextLandsOnTheRightByteSpec)

/-- ITS FALSE NEIGHBOUR: 'it returns false'. Refute it at one input. -/
def fnNextLandsOnTheRightByteWrong : ChangeSpec := { name := "fnNextLandsOnTheRightByte", fn := fun _ => fun
  | [d1, d2, d3] => { results := [.lit (.bool false)], args := [d1, d2, d3] }
  | _ => none }
def FnNextLandsOnTheRightByteWrongFalsely : Prop := fnNextLandsOnTheRightByteRow.holds Try.pinned (OpenSpec.ofChange fnNextLandsOnTheRightByteWrong)

end Rows
end Go.Proofs.Qxb6602906a
