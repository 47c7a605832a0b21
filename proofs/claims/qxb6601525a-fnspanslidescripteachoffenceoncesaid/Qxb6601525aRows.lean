/-
  No cell of these rows narrows 'for every input' (looked for: loops, veiled, ifaces, maps, wideKeys, modest, calm, conditions, laid).
  DERIVED. THE GIVEN ROWS OF THIS SEAT. 4 by the template 'for every input the law returns true; each argument reads behind the call as it read before'; 0 by the template 'total and deterministic' (their statements: Qxb6601525aTotals.lean).
  GIVEN WITH THE SEED: the statements are not yours to turn. If you find one false, say at which input.
  Laid BY PROGRAM, IN A SANDBOX (cutbox-rows.mjs): the forced cells as the released guide's own fill.sh prints them over the translation 7fbdc418d8b923c9… (all of the seat's roots in one cut). By AI agents, Wed Nov 11 2026. No macro, syntax, notation, axiom, sorry.
-/
import Derived.Test.Qxb6601525aChecked
import GoSem.Claim
import GoSem.ClaimJoined
import GoSem.ClaimMapViews
import Derived.JoinedTies
import Derived.KernelRfl
namespace Go.Proofs.Qxb6601525a
/- THE CELL 'sum', in the pinned program and in every row, IS THE sha256 OF THE DUMP (.gsa) THAT Qxb6601525aProg.lean LOADS. Nothing in Lean hashes anything: it is a label: what it is worth is what the hold of that sum in a sandbox is worth. -/
noncomputable def Try.pinned : Pinned := { name := "qxb6601525a", sum := "7fbdc418d8b923c9545eda07fd6836d235d36a1d24e5704fa45dd64afb93e1dc", checked := Try.checked }
namespace Rows
def none {H : Type} : Left H := { results := [], args := [] }

/-- 'zzlaws_root_b1.FnShortNatCmpIsNumericOrder': WHATEVER THE INPUT: true; the input reads as it did. -/
def fnShortNatCmpIsNumericOrderSpec : ChangeSpec := { name := "fnShortNatCmpIsNumericOrder", fn := fun _ => fun
  | [d1, d2, d3, d4] => { results := [.lit (.bool true)], args := [d1, d2, d3, d4] }
  | _ => none }
def fnShortNatCmpIsNumericOrderRow : OpenClaim := { program := "qxb6601525a", sum := "7fbdc418d8b923c9545eda07fd6836d235d36a1d24e5704fa45dd64afb93e1dc", func := "example.com/forfeit/forfeit/zzlaws_root_b1.FnShortNatCmpIsNumericOrder", spec := "fnShortNatCmpIsNumericOrder", apart := false }
def FnShortNatCmpIsNumericOrderSaid : Prop := fnShortNatCmpIsNumericOrderRow.holds Try.pinned (OpenSpec.ofChange fnShortNatCmpIsNumericOrderSpec)

/-- ITS FALSE NEIGHBOUR: 'it returns false'. Refute it at one input. -/
def fnShortNatCmpIsNumericOrderWrong : ChangeSpec := { name := "fnShortNatCmpIsNumericOrder", fn := fun _ => fun
  | [d1, d2, d3, d4] => { results := [.lit (.bool false)], args := [d1, d2, d3, d4] }
  | _ => none }
def FnShortNatCmpIsNumericOrderWrongFalsely : Prop := fnShortNatCmpIsNumericOrderRow.holds Try.pinned (OpenSpec.ofChange fnShortNatCmpIsNumericOrderWrong)

/-- 'zzlaws_root_b1.FnShortNatCmpAntisymmetric': WHATEVER THE INPUT: true; the input reads as it did. -/
def fnShortNatCmpAntisymmetricSpec : ChangeSpec := { name := "fnShortNatCmpAntisymmetric", fn := fun _ => fun
  | [d1, d2, d3, d4] => { results := [.lit (.bool true)], args := [d1, d2, d3, d4] }
  | _ => none }
def fnShortNatCmpAntisymmetricRow : OpenClaim := { program := "qxb6601525a", sum := "7fbdc418d8b923c9545eda07fd6836d235d36a1d24e5704fa45dd64afb93e1dc", func := "example.com/forfeit/forfeit/zzlaws_root_b1.FnShortNatCmpAntisymmetric", spec := "fnShortNatCmpAntisymmetric", apart := false }
def FnShortNatCmpAntisymmetricSaid : Prop := fnShortNatCmpAntisymmetricRow.holds Try.pinned (OpenSpec.ofChange fnShortNatCmpAntisymmetricSpec)

/-- ITS FALSE NEIGHBOUR: 'it returns false'. Refute it at one input. -/
def fnShortNatCmpAntisymmetricWrong : ChangeSpec := { name := "fnShortNatCmpAntisymmetric", fn := fun _ => fun
  | [d1, d2, d3, d4] => { results := [.lit (.bool false)], args := [d1, d2, d3, d4] }
  | _ => none }
def FnShortNatCmpAntisymmetricWrongFalsely : Prop := fnShortNatCmpAntisymmetricRow.holds Try.pinned (OpenSpec.ofChange fnShortNatCmpAntisymmetricWrong)

/-- 'zzlaws_root_b1.FnSpanSlideMovesToWindow': WHATEVER THE INPUT: true; the input reads as it did. -/
def fnSpanSlideMovesToWindowSpec : ChangeSpec := { name := "fnSpanSlideMovesToWindow", fn := fun _ => fun
  | [d1, d2, d3, d4, d5] => { results := [.lit (.bool true)], args := [d1, d2, d3, d4, d5] }
  | _ => none }
def fnSpanSlideMovesToWindowRow : OpenClaim := { program := "qxb6601525a", sum := "7fbdc418d8b923c9545eda07fd6836d235d36a1d24e5704fa45dd64afb93e1dc", func := "example.com/forfeit/forfeit/zzlaws_root_b1.FnSpanSlideMovesToWindow", spec := "fnSpanSlideMovesToWindow", apart := false }
def FnSpanSlideMovesToWindowSaid : Prop := fnSpanSlideMovesToWindowRow.holds Try.pinned (OpenSpec.ofChange fnSpanSlideMovesToWindowSpec)

/-- ITS FALSE NEIGHBOUR: 'it returns false'. Refute it at one input. -/
def fnSpanSlideMovesToWindowWrong : ChangeSpec := { name := "fnSpanSlideMovesToWindow", fn := fun _ => fun
  | [d1, d2, d3, d4, d5] => { results := [.lit (.bool false)], args := [d1, d2, d3, d4, d5] }
  | _ => none }
def FnSpanSlideMovesToWindowWrongFalsely : Prop := fnSpanSlideMovesToWindowRow.holds Try.pinned (OpenSpec.ofChange fnSpanSlideMovesToWindowWrong)

/-- 'zzlaws_root_b1.FnSpanSlideScriptEachOffenceOnce': WHATEVER THE INPUT: true; the input reads as it did. -/
def fnSpanSlideScriptEachOffenceOnceSpec : ChangeSpec := { name := "fnSpanSlideScriptEachOffenceOnce", fn := fun _ => fun
  | [d1, d2] => { results := [.lit (.bool true)], args := [d1, d2] }
  | _ => none }
def fnSpanSlideScriptEachOffenceOnceRow : OpenClaim := { program := "qxb6601525a", sum := "7fbdc418d8b923c9545eda07fd6836d235d36a1d24e5704fa45dd64afb93e1dc", func := "example.com/forfeit/forfeit/zzlaws_root_b1.FnSpanSlideScriptEachOffenceOnce", spec := "fnSpanSlideScriptEachOffenceOnce", apart := false }
def FnSpanSlideScriptEachOffenceOnceSaid : Prop := fnSpanSlideScriptEachOffenceOnceRow.holds Try.pinned (OpenSpec.ofChange fnSpanSlideScriptEachOffenceOnceSpec)

/-- ITS FALSE NEIGHBOUR: 'it returns false'. Refute it at one input. -/
def fnSpanSlideScriptEachOffenceOnceWrong : ChangeSpec := { name := "fnSpanSlideScriptEachOffenceOnce", fn := fun _ => fun
  | [d1, d2] => { results := [.lit (.bool false)], args := [d1, d2] }
  | _ => none }
def FnSpanSlideScriptEachOffenceOnceWrongFalsely : Prop := fnSpanSlideScriptEachOffenceOnceRow.holds Try.pinned (OpenSpec.ofChange fnSpanSlideScriptEachOffenceOnceWrong)

end Rows
end Go.Proofs.Qxb6601525a
