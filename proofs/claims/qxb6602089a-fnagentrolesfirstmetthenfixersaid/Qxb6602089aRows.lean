/-
  No cell of these rows narrows 'for every input' (looked for: loops, veiled, ifaces, maps, wideKeys, modest, calm, conditions, laid).
  DERIVED. THE GIVEN ROWS OF THIS SEAT. 5 by the template 'for every input the law returns true; each argument reads behind the call as it read before'; 0 by the template 'total and deterministic' (their statements: Qxb6602089aTotals.lean).
  GIVEN WITH THE SEED: the statements are not yours to turn. If you find one false, say at which input.
  Laid BY PROGRAM, IN A SANDBOX (cutbox-rows.mjs): the forced cells as the released guide's own fill.sh prints them over the translation a7ecfaed0431f4e0… (all of the seat's roots in one cut). By AI agents, Wed Nov 11 2026. No macro, syntax, notation, axiom, sorry.
-/
import Derived.Test.Qxb6602089aChecked
import GoSem.Claim
import GoSem.ClaimJoined
import GoSem.ClaimMapViews
import Derived.JoinedTies
import Derived.KernelRfl
namespace Go.Proofs.Qxb6602089a
/- THE CELL 'sum', in the pinned program and in every row, IS THE sha256 OF THE DUMP (.gsa) THAT Qxb6602089aProg.lean LOADS. Nothing in Lean hashes anything: it is a label: what it is worth is what the hold of that sum in a sandbox is worth. -/
noncomputable def Try.pinned : Pinned := { name := "qxb6602089a", sum := "a7ecfaed0431f4e00dd6cc1be0dae29d66a2b66f4f0e1728e974aec9e4c6aae2", checked := Try.checked }
namespace Rows
def none {H : Type} : Left H := { results := [], args := [] }

/-- 'zzlaws_pkg_workflow_b1.FnAgentRolesFirstMetThenFixer': WHATEVER THE INPUT: true; the input reads as it did. -/
def fnAgentRolesFirstMetThenFixerSpec : ChangeSpec := { name := "fnAgentRolesFirstMetThenFixer", fn := fun _ => fun
  | [d1, d2, d3] => { results := [.lit (.bool true)], args := [d1, d2, d3] }
  | _ => none }
def fnAgentRolesFirstMetThenFixerRow : OpenClaim := { program := "qxb6602089a", sum := "a7ecfaed0431f4e00dd6cc1be0dae29d66a2b66f4f0e1728e974aec9e4c6aae2", func := "example.com/switchyard/switchyard/zzlaws_pkg_workflow_b1.FnAgentRolesFirstMetThenFixer", spec := "fnAgentRolesFirstMetThenFixer", apart := false }
def FnAgentRolesFirstMetThenFixerSaid : Prop := fnAgentRolesFirstMetThenFixerRow.holds Try.pinned (OpenSpec.ofChange fnAgentRolesFirstMetThenFixerSpec)

/-- ITS FALSE NEIGHBOUR: 'it returns false'. Refute it at one input. -/
def fnAgentRolesFirstMetThenFixerWrong : ChangeSpec := { name := "fnAgentRolesFirstMetThenFixer", fn := fun _ => fun
  | [d1, d2, d3] => { results := [.lit (.bool false)], args := [d1, d2, d3] }
  | _ => none }
def FnAgentRolesFirstMetThenFixerWrongFalsely : Prop := fnAgentRolesFirstMetThenFixerRow.holds Try.pinned (OpenSpec.ofChange fnAgentRolesFirstMetThenFixerWrong)

/-- 'zzlaws_pkg_workflow_b1.FnAgentRolesOfPrefixIsPrefix': WHATEVER THE INPUT: true; the input reads as it did. -/
def fnAgentRolesOfPrefixIsPrefixSpec : ChangeSpec := { name := "fnAgentRolesOfPrefixIsPrefix", fn := fun _ => fun
  | [d1, d2, d3, d4] => { results := [.lit (.bool true)], args := [d1, d2, d3, d4] }
  | _ => none }
def fnAgentRolesOfPrefixIsPrefixRow : OpenClaim := { program := "qxb6602089a", sum := "a7ecfaed0431f4e00dd6cc1be0dae29d66a2b66f4f0e1728e974aec9e4c6aae2", func := "example.com/switchyard/switchyard/zzlaws_pkg_workflow_b1.FnAgentRolesOfPrefixIsPrefix", spec := "fnAgentRolesOfPrefixIsPrefix", apart := false }
def FnAgentRolesOfPrefixIsPrefixSaid : Prop := fnAgentRolesOfPrefixIsPrefixRow.holds Try.pinned (OpenSpec.ofChange fnAgentRolesOfPrefixIsPrefixSpec)

/-- ITS FALSE NEIGHBOUR: 'it returns false'. Refute it at one input. -/
def fnAgentRolesOfPrefixIsPrefixWrong : ChangeSpec := { name := "fnAgentRolesOfPrefixIsPrefix", fn := fun _ => fun
  | [d1, d2, d3, d4] => { results := [.lit (.bool false)], args := [d1, d2, d3, d4] }
  | _ => none }
def FnAgentRolesOfPrefixIsPrefixWrongFalsely : Prop := fnAgentRolesOfPrefixIsPrefixRow.holds Try.pinned (OpenSpec.ofChange fnAgentRolesOfPrefixIsPrefixWrong)

/-- 'zzlaws_pkg_workflow_b1.FnDecisionTaskIsPersonsWithOfferSaveFixWithoutFixer': WHATEVER THE INPUT: true; the input reads as it did. -/
def fnDecisionTaskIsPersonsWithOfferSaveFixWithoutFixerSpec : ChangeSpec := { name := "fnDecisionTaskIsPersonsWithOfferSaveFixWithoutFixer", fn := fun _ => fun
  | [d1, d2, d3, d4, d5] => { results := [.lit (.bool true)], args := [d1, d2, d3, d4, d5] }
  | _ => none }
def fnDecisionTaskIsPersonsWithOfferSaveFixWithoutFixerRow : OpenClaim := { program := "qxb6602089a", sum := "a7ecfaed0431f4e00dd6cc1be0dae29d66a2b66f4f0e1728e974aec9e4c6aae2", func := "example.com/switchyard/switchyard/zzlaws_pkg_workflow_b1.FnDecisionTaskIsPersonsWithOfferSaveFixWithoutFixer", spec := "fnDecisionTaskIsPersonsWithOfferSaveFixWithoutFixer", apart := false }
def FnDecisionTaskIsPersonsWithOfferSaveFixWithoutFixerSaid : Prop := fnDecisionTaskIsPersonsWithOfferSaveFixWithoutFixerRow.holds Try.pinned (OpenSpec.ofChange fnDecisionTaskIsPersonsWithOfferSaveFixWithoutFixerSpec)

/-- ITS FALSE NEIGHBOUR: 'it returns false'. Refute it at one input. -/
def fnDecisionTaskIsPersonsWithOfferSaveFixWithoutFixerWrong : ChangeSpec := { name := "fnDecisionTaskIsPersonsWithOfferSaveFixWithoutFixer", fn := fun _ => fun
  | [d1, d2, d3, d4, d5] => { results := [.lit (.bool false)], args := [d1, d2, d3, d4, d5] }
  | _ => none }
def FnDecisionTaskIsPersonsWithOfferSaveFixWithoutFixerWrongFalsely : Prop := fnDecisionTaskIsPersonsWithOfferSaveFixWithoutFixerRow.holds Try.pinned (OpenSpec.ofChange fnDecisionTaskIsPersonsWithOfferSaveFixWithoutFixerWrong)

/-- 'zzlaws_pkg_workflow_b1.FnDecisionChoicesIdempotent': WHATEVER THE INPUT: true; the input reads as it did. -/
def fnDecisionChoicesIdempotentSpec : ChangeSpec := { name := "fnDecisionChoicesIdempotent", fn := fun _ => fun
  | [d1, d2, d3, d4, d5] => { results := [.lit (.bool true)], args := [d1, d2, d3, d4, d5] }
  | _ => none }
def fnDecisionChoicesIdempotentRow : OpenClaim := { program := "qxb6602089a", sum := "a7ecfaed0431f4e00dd6cc1be0dae29d66a2b66f4f0e1728e974aec9e4c6aae2", func := "example.com/switchyard/switchyard/zzlaws_pkg_workflow_b1.FnDecisionChoicesIdempotent", spec := "fnDecisionChoicesIdempotent", apart := false }
def FnDecisionChoicesIdempotentSaid : Prop := fnDecisionChoicesIdempotentRow.holds Try.pinned (OpenSpec.ofChange fnDecisionChoicesIdempotentSpec)

/-- ITS FALSE NEIGHBOUR: 'it returns false'. Refute it at one input. -/
def fnDecisionChoicesIdempotentWrong : ChangeSpec := { name := "fnDecisionChoicesIdempotent", fn := fun _ => fun
  | [d1, d2, d3, d4, d5] => { results := [.lit (.bool false)], args := [d1, d2, d3, d4, d5] }
  | _ => none }
def FnDecisionChoicesIdempotentWrongFalsely : Prop := fnDecisionChoicesIdempotentRow.holds Try.pinned (OpenSpec.ofChange fnDecisionChoicesIdempotentWrong)

/-- 'zzlaws_pkg_workflow_b1.FnRunnableCompletingKeepsOthersRunnable': WHATEVER THE INPUT: true; the input reads as it did. -/
def fnRunnableCompletingKeepsOthersRunnableSpec : ChangeSpec := { name := "fnRunnableCompletingKeepsOthersRunnable", fn := fun _ => fun
  | [d1, d2, d3, d4, d5, d6] => { results := [.lit (.bool true)], args := [d1, d2, d3, d4, d5, d6] }
  | _ => none }
def fnRunnableCompletingKeepsOthersRunnableRow : OpenClaim := { program := "qxb6602089a", sum := "a7ecfaed0431f4e00dd6cc1be0dae29d66a2b66f4f0e1728e974aec9e4c6aae2", func := "example.com/switchyard/switchyard/zzlaws_pkg_workflow_b1.FnRunnableCompletingKeepsOthersRunnable", spec := "fnRunnableCompletingKeepsOthersRunnable", apart := false }
def FnRunnableCompletingKeepsOthersRunnableSaid : Prop := fnRunnableCompletingKeepsOthersRunnableRow.holds Try.pinned (OpenSpec.ofChange fnRunnableCompletingKeepsOthersRunnableSpec)

/-- ITS FALSE NEIGHBOUR: 'it returns false'. Refute it at one input. -/
def fnRunnableCompletingKeepsOthersRunnableWrong : ChangeSpec := { name := "fnRunnableCompletingKeepsOthersRunnable", fn := fun _ => fun
  | [d1, d2, d3, d4, d5, d6] => { results := [.lit (.bool false)], args := [d1, d2, d3, d4, d5, d6] }
  | _ => none }
def FnRunnableCompletingKeepsOthersRunnableWrongFalsely : Prop := fnRunnableCompletingKeepsOthersRunnableRow.holds Try.pinned (OpenSpec.ofChange fnRunnableCompletingKeepsOthersRunnableWrong)

end Rows
end Go.Proofs.Qxb6602089a
