/-
  No cell of these rows narrows 'for every input' (looked for: loops, veiled, ifaces, maps, wideKeys, modest, calm, conditions, laid).
  DERIVED. THE GIVEN ROWS OF THIS SEAT. 3 by the template 'for every input the law returns true; each argument reads behind the call as it read before'; 0 by the template 'total and deterministic' (their statements: Qxb6601596aTotals.lean).
  GIVEN WITH THE SEED: the statements are not yours to turn. If you find one false, say at which input.
  Laid BY PROGRAM, IN A SANDBOX (cutbox-rows.mjs): the forced cells as the released guide's own fill.sh prints them over the translation 98da13cb52d81a06… (all of the seat's roots in one cut). By AI agents, Wed Nov 11 2026. No macro, syntax, notation, axiom, sorry.
-/
import Derived.Test.Qxb6601596aChecked
import GoSem.Claim
import GoSem.ClaimJoined
import GoSem.ClaimMapViews
import Derived.JoinedTies
import Derived.KernelRfl
namespace Go.Proofs.Qxb6601596a
/- THE CELL 'sum', in the pinned program and in every row, IS THE sha256 OF THE DUMP (.gsa) THAT Qxb6601596aProg.lean LOADS. Nothing in Lean hashes anything: it is a label: what it is worth is what the hold of that sum in a sandbox is worth. -/
noncomputable def Try.pinned : Pinned := { name := "qxb6601596a", sum := "98da13cb52d81a06c02526cad73dbe28c03cf33eb57e1862fa5a5ecaea62a81b", checked := Try.checked }
namespace Rows
def none {H : Type} : Left H := { results := [], args := [] }

/-- 'zzlaws_decimal_b1.FnIsDigitsConcat': WHATEVER THE INPUT: true; the input reads as it did. -/
def fnIsDigitsConcatSpec : ChangeSpec := { name := "fnIsDigitsConcat", fn := fun _ => fun
  | [d1, d2] => { results := [.lit (.bool true)], args := [d1, d2] }
  | _ => none }
def fnIsDigitsConcatRow : OpenClaim := { program := "qxb6601596a", sum := "98da13cb52d81a06c02526cad73dbe28c03cf33eb57e1862fa5a5ecaea62a81b", func := "example.com/tenderbook/tenderbook/zzlaws_decimal_b1.FnIsDigitsConcat", spec := "fnIsDigitsConcat", apart := false }
def FnIsDigitsConcatSaid : Prop := fnIsDigitsConcatRow.holds Try.pinned (OpenSpec.ofChange fnIsDigitsConcatSpec)

/-- ITS FALSE NEIGHBOUR: 'it returns false'. Refute it at one input. -/
def fnIsDigitsConcatWrong : ChangeSpec := { name := "fnIsDigitsConcat", fn := fun _ => fun
  | [d1, d2] => { results := [.lit (.bool false)], args := [d1, d2] }
  | _ => none }
def FnIsDigitsConcatWrongFalsely : Prop := fnIsDigitsConcatRow.holds Try.pinned (OpenSpec.ofChange fnIsDigitsConcatWrong)

/-- 'zzlaws_decimal_b1.FnMagnitudeSymmetricBounded': WHATEVER THE INPUT: true; the input reads as it did. -/
def fnMagnitudeSymmetricBoundedSpec : ChangeSpec := { name := "fnMagnitudeSymmetricBounded", fn := fun _ => fun
  | [d] => { results := [.lit (.bool true)], args := [d] }
  | _ => none }
def fnMagnitudeSymmetricBoundedRow : OpenClaim := { program := "qxb6601596a", sum := "98da13cb52d81a06c02526cad73dbe28c03cf33eb57e1862fa5a5ecaea62a81b", func := "example.com/tenderbook/tenderbook/zzlaws_decimal_b1.FnMagnitudeSymmetricBounded", spec := "fnMagnitudeSymmetricBounded", apart := false }
def FnMagnitudeSymmetricBoundedSaid : Prop := fnMagnitudeSymmetricBoundedRow.holds Try.pinned (OpenSpec.ofChange fnMagnitudeSymmetricBoundedSpec)

/-- ITS FALSE NEIGHBOUR: 'it returns false'. Refute it at one input. -/
def fnMagnitudeSymmetricBoundedWrong : ChangeSpec := { name := "fnMagnitudeSymmetricBounded", fn := fun _ => fun
  | [d] => { results := [.lit (.bool false)], args := [d] }
  | _ => none }
def FnMagnitudeSymmetricBoundedWrongFalsely : Prop := fnMagnitudeSymmetricBoundedRow.holds Try.pinned (OpenSpec.ofChange fnMagnitudeSymmetricBoundedWrong)

/-- 'zzlaws_decimal_b1.FnMagnitudeMonotone': WHATEVER THE INPUT: true; the input reads as it did. -/
def fnMagnitudeMonotoneSpec : ChangeSpec := { name := "fnMagnitudeMonotone", fn := fun _ => fun
  | [d1, d2] => { results := [.lit (.bool true)], args := [d1, d2] }
  | _ => none }
def fnMagnitudeMonotoneRow : OpenClaim := { program := "qxb6601596a", sum := "98da13cb52d81a06c02526cad73dbe28c03cf33eb57e1862fa5a5ecaea62a81b", func := "example.com/tenderbook/tenderbook/zzlaws_decimal_b1.FnMagnitudeMonotone", spec := "fnMagnitudeMonotone", apart := false }
def FnMagnitudeMonotoneSaid : Prop := fnMagnitudeMonotoneRow.holds Try.pinned (OpenSpec.ofChange fnMagnitudeMonotoneSpec)

/-- ITS FALSE NEIGHBOUR: 'it returns false'. Refute it at one input. -/
def fnMagnitudeMonotoneWrong : ChangeSpec := { name := "fnMagnitudeMonotone", fn := fun _ => fun
  | [d1, d2] => { results := [.lit (.bool false)], args := [d1, d2] }
  | _ => none }
def FnMagnitudeMonotoneWrongFalsely : Prop := fnMagnitudeMonotoneRow.holds Try.pinned (OpenSpec.ofChange fnMagnitudeMonotoneWrong)

end Rows
end Go.Proofs.Qxb6601596a
