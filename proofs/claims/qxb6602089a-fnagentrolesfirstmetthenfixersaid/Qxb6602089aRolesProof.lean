import Derived.Test.Qxb6602089aOpen
import Derived.WalkKit
import Derived.ShutString
import Derived.ChangeOld
import Derived.Below
namespace Go.Proofs.Qxb6602089a.fnAgentRolesFirstMetThenFixer
open Go.ChangeShapes Go.WideShapes Go.ChangeAt Go.RowKit
open Go.ChangeMaps (open_string shut_string)
set_option linter.unusedVariables false

theorem own : ownKnob Try.prog.godebug = none := by kernel_rfl
theorem laidOut : laidOutB Try.prog = true := by kernel_rfl

theorem walk (name fixer : ByteArray) (v : Value) (w : World) (hname : name.size ≤ 9223372036854775807) (hfix : fixer.size ≤ 9223372036854775807)
    (hv : (v = .slice none 0 0) ∨ ∃ (x : Addr) (n c : Nat), v = .slice (some x) n c ∧ n ≤ 9223372036854775807 ∧ (n = 0 ∨ ∃ (b off : Nat) (T : Tk), x = ⟨b, off, none⟩ ∧ TasksAt w b off n T)) :
    Calls Try.prog 3 #[.string name, .string fixer, v] w fun e w' => e = .returned (.bool true) ∧ Below w.heap.size w w' := by
  have T0 : Tk := ⟨fun _ => ⟨#[]⟩, fun _ => ⟨#[]⟩, fun _ => ⟨#[]⟩, fun _ => none, fun _ => 0, fun _ => 0⟩
  rcases hv with rfl | ⟨x, n, c, rfl, hn, rfl | ⟨b, off, T, rfl, hT⟩⟩
  · exact law_nil name fixer T0 w hname hfix
  · exact law_core name fixer (some x) 0 c T0 w hn (bytes_zero name fixer (some x) c T0 w hname hfix) (defBytes_zero name fixer (some x) c w hname hfix) (fun _ _ => ct_zero x c T0 w)
  · exact law_core name fixer _ n c T w hn (bytes_core name fixer b off n c T w hname hfix hn hT) (defBytes_core name fixer b off n c T w hname hfix hn hT) (fun h1 h2 => ct_core b off n c T w h1 hT h2)

set_option maxRecDepth 100000 in
theorem lifted (os : Os) (started : os.Started) (H : Type) (enc : TypeId × Value → H) :
    ReturnsInHanded {} Try.checked os 3 .any (Rows.fnAgentRolesFirstMetThenFixerSpec.pre6 enc Try.prog Try.f3 Rows.fnAgentRolesFirstMetThenFixerRow.domain false) (Rows.fnAgentRolesFirstMetThenFixerSpec.post enc Try.prog Try.f3 false true false false) := by
  refine returnsInHanded_of_change (C := Try.checked) own started (by kernel_rfl) Try.func3
    (ChangeSpec.witness6 (enc := enc) (C := Try.checked) false ⟨#[], #[.string ⟨#[]⟩, .string ⟨#[]⟩, .slice none 0 0], []⟩ 8 (by kernel_rfl) (by kernel_rfl) (by kernel_rfl) (by kernel_rfl)) ?_
  intro W base args ds gs before hval0 hW hcnd _
  have hval : ∀ (j : Nat) t v, Try.f3.params[j]? = some t → args[j]? = some v → Value.okWide Try.prog W .any base t v := hval0
  have hW' := hW
  obtain ⟨p, q, hA0, hV, rfl, hfz, hnd⟩ := hW
  have hA : DataW.TrodAll enc Try.prog W 0 (fun _ => true) true Try.f3.params.toList args.toList ds p := hA0
  rw [Try.params3] at hA hval
  obtain ⟨v0, vs0, d0, ds0, p0, q0, hargs, rfl, rfl, h0, r0⟩ := trodAll_cons hA
  obtain ⟨v1, vs1, d1, ds1, p1, q1, rfl, rfl, rfl, h1, r1⟩ := trodAll_cons r0
  obtain ⟨v2, vs2, d2, ds2, p2, q2, rfl, rfl, rfl, h2, r2⟩ := trodAll_cons r1
  obtain ⟨rfl, rfl, rfl⟩ := trodAll_nil r2
  obtain rfl : args = #[v0, v1, v2] := by cases args; simp_all
  obtain ⟨rfl, rfl⟩ := trodVars_none hV
  have k2 := h2
  have lt2 : ∀ x ∈ p2, x.block < W.heap.size := by obtain ⟨m, hm⟩ := k2; exact DataW.trod_lt m _ _ _ hm
  obtain ⟨s0, rfl, rfl, rfl, z0⟩ := open_string Try.underlying9 (hval 0 9 v0 rfl rfl) h0
  obtain ⟨s1, rfl, rfl, rfl, z1⟩ := open_string Try.underlying9 (hval 1 9 v1 rfl rfl) h1
  have hv2 := open_tasks h2 (okWide_slice Try.underlying22 (hval 2 22 v2 rfl rfl))
  clear hA0 hval0
  refine (walk s0 s1 v2 W (by unfold maxLen at z0; omega) (by unfold maxLen at z1; omega) hv2).mono fun e W' ⟨he, bel⟩ => ?_
  subst he
  exact ⟨_, rfl, _, _, _, [], _, [], hW', trodAll_mk1 (shut_bool Try.underlying4 _), (trodAll_cons_mk (shut_string Try.underlying9 z0) (trodAll_cons_mk (shut_string Try.underlying9 z1) (trodAll_cons_mk (Below.trod laidOut (by kernel_rfl) (of_decide_eq_true (by kernel_rfl)) k2 bel lt2) trodAll_mk0))), rfl, bel.frame _, fun h => by cases h⟩

theorem over : Rows.fnAgentRolesFirstMetThenFixerRow.holds Try.pinned (OpenSpec.ofChange Rows.fnAgentRolesFirstMetThenFixerSpec) :=
  OpenClaim.holds_of_wide 3 Try.f3 rfl rfl rfl rfl rfl rfl rfl ⟨rfl, rfl, rfl, rfl, rfl⟩ rfl rfl rfl rfl rfl (by kernel_rfl) Try.func3 (by kernel_rfl)
    (of_decide_eq_true (by kernel_rfl)) (by unfold Func.isWrapper; first | (rw [if_pos (by decide +kernel)]; kernel_rfl) | (rw [if_neg (by decide +kernel)]; exact ⟨rfl, rfl⟩))
    (fun os started H enc _ => lifted os started H enc)

/-- THE STATEMENT. -/
theorem proved : Rows.FnAgentRolesFirstMetThenFixerSaid := over
end Go.Proofs.Qxb6602089a.fnAgentRolesFirstMetThenFixer
