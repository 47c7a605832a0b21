/-
  No cell of these rows narrows 'for every input' (looked for: loops, veiled, ifaces, maps, wideKeys, modest, calm, conditions, laid).
  DERIVED. THE GIVEN ROWS OF THIS SEAT. 3 by the template 'for every input the law returns true; each argument reads behind the call as it read before'; 0 by the template 'total and deterministic' (their statements: Qxb6601667aTotals.lean).
  GIVEN WITH THE SEED: the statements are not yours to turn. If you find one false, say at which input.
  Laid BY PROGRAM, IN A SANDBOX (cutbox-rows.mjs): the forced cells as the released guide's own fill.sh prints them over the translation 7bc7d89fa06b26b9… (all of the seat's roots in one cut). By AI agents, Wed Nov 11 2026. No macro, syntax, notation, axiom, sorry.
-/
import Derived.Test.Qxb6601667aChecked
import GoSem.Claim
import GoSem.ClaimJoined
import GoSem.ClaimMapViews
import Derived.JoinedTies
import Derived.KernelRfl
namespace Go.Proofs.Qxb6601667a
/- THE CELL 'sum', in the pinned program and in every row, IS THE sha256 OF THE DUMP (.gsa) THAT Qxb6601667aProg.lean LOADS. Nothing in Lean hashes anything: it is a label: what it is worth is what the hold of that sum in a sandbox is worth. -/
noncomputable def Try.pinned : Pinned := { name := "qxb6601667a", sum := "7bc7d89fa06b26b9f2d216f4fd26110ab0a43903a39da2d63b195f21f4aa5574", checked := Try.checked }
namespace Rows
def none {H : Type} : Left H := { results := [], args := [] }

/-- 'zzlaws_pkg_jcs_b1.FnPlainExact': WHATEVER THE INPUT: true; the input reads as it did. -/
def fnPlainExactSpec : ChangeSpec := { name := "fnPlainExact", fn := fun _ => fun
  | [d] => { results := [.lit (.bool true)], args := [d] }
  | _ => none }
def fnPlainExactRow : OpenClaim := { program := "qxb6601667a", sum := "7bc7d89fa06b26b9f2d216f4fd26110ab0a43903a39da2d63b195f21f4aa5574", func := "example.com/surety/surety/zzlaws_pkg_jcs_b1.FnPlainExact", spec := "fnPlainExact", unfollowed := true, recurses := true, apart := false }
def FnPlainExactSaid : Prop := fnPlainExactRow.holds Try.pinned (OpenSpec.ofChange fnPlainExactSpec)

/-- ITS FALSE NEIGHBOUR: 'it returns false'. Refute it at one input. -/
def fnPlainExactWrong : ChangeSpec := { name := "fnPlainExact", fn := fun _ => fun
  | [d] => { results := [.lit (.bool false)], args := [d] }
  | _ => none }
def FnPlainExactWrongFalsely : Prop := fnPlainExactRow.holds Try.pinned (OpenSpec.ofChange fnPlainExactWrong)

/-- 'zzlaws_pkg_jcs_b1.FnNumberNextMatchesGrammar': WHATEVER THE INPUT: true; the input reads as it did. -/
def fnNumberNextMatchesGrammarSpec : ChangeSpec := { name := "fnNumberNextMatchesGrammar", fn := fun _ => fun
  | [d] => { results := [.lit (.bool true)], args := [d] }
  | _ => none }
def fnNumberNextMatchesGrammarRow : OpenClaim := { program := "qxb6601667a", sum := "7bc7d89fa06b26b9f2d216f4fd26110ab0a43903a39da2d63b195f21f4aa5574", func := "example.com/surety/surety/zzlaws_pkg_jcs_b1.FnNumberNextMatchesGrammar", spec := "fnNumberNextMatchesGrammar", apart := false }
def FnNumberNextMatchesGrammarSaid : Prop := fnNumberNextMatchesGrammarRow.holds Try.pinned (OpenSpec.ofChange fnNumberNextMatchesGrammarSpec)

/-- ITS FALSE NEIGHBOUR: 'it returns false'. Refute it at one input. -/
def fnNumberNextMatchesGrammarWrong : ChangeSpec := { name := "fnNumberNextMatchesGrammar", fn := fun _ => fun
  | [d] => { results := [.lit (.bool false)], args := [d] }
  | _ => none }
def FnNumberNextMatchesGrammarWrongFalsely : Prop := fnNumberNextMatchesGrammarRow.holds Try.pinned (OpenSpec.ofChange fnNumberNextMatchesGrammarWrong)

/-- 'zzlaws_pkg_jcs_b1.FnNumberNextRefusesOutsideNumbers': WHATEVER THE INPUT: true; the input reads as it did. -/
def fnNumberNextRefusesOutsideNumbersSpec : ChangeSpec := { name := "fnNumberNextRefusesOutsideNumbers", fn := fun _ => fun
  | [d1, d2] => { results := [.lit (.bool true)], args := [d1, d2] }
  | _ => none }
def fnNumberNextRefusesOutsideNumbersRow : OpenClaim := { program := "qxb6601667a", sum := "7bc7d89fa06b26b9f2d216f4fd26110ab0a43903a39da2d63b195f21f4aa5574", func := "example.com/surety/surety/zzlaws_pkg_jcs_b1.FnNumberNextRefusesOutsideNumbers", spec := "fnNumberNextRefusesOutsideNumbers", apart := false }
def FnNumberNextRefusesOutsideNumbersSaid : Prop := fnNumberNextRefusesOutsideNumbersRow.holds Try.pinned (OpenSpec.ofChange fnNumberNextRefusesOutsideNumbersSpec)

/-- ITS FALSE NEIGHBOUR: 'it returns false'. Refute it at one input. -/
def fnNumberNextRefusesOutsideNumbersWrong : ChangeSpec := { name := "fnNumberNextRefusesOutsideNumbers", fn := fun _ => fun
  | [d1, d2] => { results := [.lit (.bool false)], args := [d1, d2] }
  | _ => none }
def FnNumberNextRefusesOutsideNumbersWrongFalsely : Prop := fnNumberNextRefusesOutsideNumbersRow.holds Try.pinned (OpenSpec.ofChange fnNumberNextRefusesOutsideNumbersWrong)

end Rows
end Go.Proofs.Qxb6601667a
