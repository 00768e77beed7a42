/-
  No cell of these rows narrows 'for every input' (looked for: loops, veiled, ifaces, maps, wideKeys, modest, calm, conditions, laid).
  DERIVED. THE GIVEN ROWS OF THIS SEAT. 2 by the template 'for every input the law returns true; each argument reads behind the call as it read before'; 0 by the template 'total and deterministic' (their statements: Qxb6602822aTotals.lean).
  GIVEN WITH THE SEED: the statements are not yours to turn. If you find one false, say at which input.
  Laid BY PROGRAM, IN A SANDBOX (cutbox-rows.mjs): the forced cells as the released guide's own fill.sh prints them over the translation 281f85b94164308b… (all of the seat's roots in one cut). By AI agents, Wed Nov 11 2026. No macro, syntax, notation, axiom, sorry.
-/
import Derived.Test.Qxb6602822aChecked
import GoSem.Claim
import GoSem.ClaimJoined
import GoSem.ClaimMapViews
import Derived.JoinedTies
import Derived.KernelRfl
namespace Go.Proofs.Qxb6602822a
/- THE CELL 'sum', in the pinned program and in every row, IS THE sha256 OF THE DUMP (.gsa) THAT Qxb6602822aProg.lean LOADS. Nothing in Lean hashes anything: it is a label: what it is worth is what the hold of that sum in a sandbox is worth. -/
noncomputable def Try.pinned : Pinned := { name := "qxb6602822a", sum := "281f85b94164308b4679ee9c20a19adde9ae57dcdfbae2ab2a59480bb4ee68ed", checked := Try.checked }
namespace Rows
def none {H : Type} : Left H := { results := [], args := [] }

/-- 'zzlaws_load_b1.FnEscapedUnitRoundTrip': WHATEVER THE INPUT: true; the input reads as it did. -/
def fnEscapedUnitRoundTripSpec : ChangeSpec := { name := "fnEscapedUnitRoundTrip", fn := fun _ => fun
  | [d] => { results := [.lit (.bool true)], args := [d] }
  | _ => none }
def fnEscapedUnitRoundTripRow : OpenClaim := { program := "qxb6602822a", sum := "281f85b94164308b4679ee9c20a19adde9ae57dcdfbae2ab2a59480bb4ee68ed", func := "example.com/lamina/lamina/zzlaws_load_b1.FnEscapedUnitRoundTrip", spec := "fnEscapedUnitRoundTrip", apart := false }
def FnEscapedUnitRoundTripSaid : Prop := fnEscapedUnitRoundTripRow.holds Try.pinned (OpenSpec.ofChange fnEscapedUnitRoundTripSpec)

/-- ITS FALSE NEIGHBOUR: 'it returns false'. Refute it at one input. -/
def fnEscapedUnitRoundTripWrong : ChangeSpec := { name := "fnEscapedUnitRoundTrip", fn := fun _ => fun
  | [d] => { results := [.lit (.bool false)], args := [d] }
  | _ => none }
def FnEscapedUnitRoundTripWrongFalsely : Prop := fnEscapedUnitRoundTripRow.holds Try.pinned (OpenSpec.ofChange fnEscapedUnitRoundTripWrong)

/-- 'zzlaws_load_b1.FnEscapedUnitInverse': WHATEVER THE INPUT: true; the input reads as it did. -/
def fnEscapedUnitInverseSpec : ChangeSpec := { name := "fnEscapedUnitInverse", fn := fun _ => fun
  | [d1, d2] => { results := [.lit (.bool true)], args := [d1, d2] }
  | _ => none }
def fnEscapedUnitInverseRow : OpenClaim := { program := "qxb6602822a", sum := "281f85b94164308b4679ee9c20a19adde9ae57dcdfbae2ab2a59480bb4ee68ed", func := "example.com/lamina/lamina/zzlaws_load_b1.FnEscapedUnitInverse", spec := "fnEscapedUnitInverse", apart := false }
def FnEscapedUnitInverseSaid : Prop := fnEscapedUnitInverseRow.holds Try.pinned (OpenSpec.ofChange fnEscapedUnitInverseSpec)

/-- ITS FALSE NEIGHBOUR: 'it returns false'. Refute it at one input. -/
def fnEscapedUnitInverseWrong : ChangeSpec := { name := "fnEscapedUnitInverse", fn := fun _ => fun
  | [d1, d2] => { results := [.lit (.bool false)], args := [d1, d2] }
  | _ => none }
def FnEscapedUnitInverseWrongFalsely : Prop := fnEscapedUnitInverseRow.holds Try.pinned (OpenSpec.ofChange fnEscapedUnitInverseWrong)

end Rows
end Go.Proofs.Qxb6602822a
