import Derived.Test.Qxb6601596aRows
import Derived.WalkKit
import Derived.ProofKit
import Derived.OpenShut
import Derived.ShutString
namespace Go.Proofs.Qxb6601596a.fnMagnitudeSymmetricBounded
open Go.ChangeShapes Go.WideShapes Go.ChangeAt Go.RowKit
open Go.ChangeMaps (open_string shut_string)
set_option linter.unusedVariables false      -- a walk need not use every 'w<i>' (that an integer argument fits its kind)

theorem own : ownKnob Try.prog.godebug = none := by kernel_rfl

/-- The magnitude. -/
def mag (x : Int) : Int := if x < 0 then -x else x
theorem mag_neg {x : Int} (h0 : x < 0) (h1 : -9223372036854775808 ≤ x) : IntKind.u64.wrap (wrap64 (-x)) = mag x := by
  unfold mag
  rw [if_pos h0, IntKind.wrap_u64]
  unfold wrap64
  omega
theorem mag_opp {x : Int} (h0 : -9223372036854775808 ≤ x) (h1 : x ≤ 9223372036854775807) : mag (wrap64 (-x)) = mag x ∧ -9223372036854775808 ≤ wrap64 (-x) ∧ wrap64 (-x) ≤ 9223372036854775807 := by
  unfold mag wrap64
  refine ⟨?_, ?_, ?_⟩
  · split <;> split <;> omega
  · omega
  · omega

theorem ret_int {k : IntKind} {a b : Int} (h : a = b) : Ending.returned (.int k a) = .returned (.int k b) := by rw [h]

theorem mag_any (x : Int) (h0 : -9223372036854775808 ≤ x) (h1 : x ≤ 9223372036854775807) (w : World) :
    Calls Try.prog 8 #[.int .i64 x] w fun e w' => e = .returned (.int .u64 (mag x)) ∧ w' = w := by
  by_cases hx : x < 0
  · have HM : Hid (IntKind.u64.wrap (wrap64 (-x)) = mag x) := mag_neg hx h0
    go_enter Try.func8, Try.ntmps8
    go_wp2
    go_ret
    exact ⟨ret_int HM.out, rfl⟩
  · have HM : Hid (x = mag x) := by unfold Hid mag; rw [if_neg hx]
    go_enter Try.func8, Try.ntmps8
    go_wp2
    go_ret
    exact ⟨ret_int HM.out, rfl⟩

theorem walk (a0 : Int) (w0 : (Lit.int .i64 a0).wf = true) (w : World) :
    Calls Try.prog 4 #[.int .i64 a0] w fun e w' => e = .returned (.bool true) ∧ Grown w w' := by
  have hb := bounds_i64 w0
  have h0 : -9223372036854775808 ≤ a0 := by omega
  have h1 : a0 ≤ 9223372036854775807 := by omega
  obtain ⟨e1, b0, b1⟩ := mag_opp h0 h1
  have HE : Hid (mag (wrap64 (-a0)) = mag a0) := e1
  have m0 : ¬ 9223372036854775808 < mag a0 := by unfold mag; split <;> omega
  have m1 : (mag a0 == 0) = (a0 == 0) := by
    rw [Bool.eq_iff_iff, beq_iff_eq, beq_iff_eq]
    unfold mag
    split <;> omega
  have HM : Hid ((mag a0 == 0) = (a0 == 0)) := m1
  clear e1 m1 hb
  have HA := mag_any a0 h0 h1
  have HB := fun w => (mag_any (wrap64 (-a0)) b0 b1 w)
  rw [HE.out] at HB
  generalize mag a0 = m at *
  go_enter Try.func4, Try.ntmps4
  go_wp2_with fail
  refine (HA _).mono ?_
  rintro e w1 ⟨rfl, rfl⟩
  go_wp2_with fail
  refine (HB _).mono ?_
  rintro e w2 ⟨rfl, rfl⟩
  have hne : (m != m) = false := by simp
  clear HA HB b0 b1
  go_wp2
  go_ret
  refine ⟨?_, Grown.refl _⟩
  show Ending.returned (.bool ((m == 0) == (a0 == 0))) = _
  rw [HM.out]
  simp

/-! ### THE ROW's STEP: WRITTEN OUT: LEAVE IT -/
set_option maxRecDepth 100000 in
theorem lifted (os : Os) (started : os.Started) (H : Type) (enc : TypeId × Value → H) :
    ReturnsInHanded {} Try.checked os 4 .any (Rows.fnMagnitudeSymmetricBoundedSpec.pre6 enc Try.prog Try.f4 Rows.fnMagnitudeSymmetricBoundedRow.domain false) (Rows.fnMagnitudeSymmetricBoundedSpec.post enc Try.prog Try.f4 false true false false) := by
  refine returnsInHanded_of_change (C := Try.checked) own started (by kernel_rfl) Try.func4
    (ChangeSpec.witness6 (enc := enc) (C := Try.checked) false ⟨#[], #[.int .i64 0], []⟩ 8 (by kernel_rfl) (by kernel_rfl) (by kernel_rfl) (by kernel_rfl)) ?_
  intro W base args ds gs before hval0 hW hcnd _
  have hval : ∀ (j : Nat) t v, Try.f4.params[j]? = some t → args[j]? = some v → Value.okWide Try.prog W .any base t v := hval0
  have hW' := hW
  obtain ⟨p, q, hA0, hV, rfl, hfz, hnd⟩ := hW
  have hA : DataW.TrodAll enc Try.prog W 0 (fun _ => true) true Try.f4.params.toList args.toList ds p := hA0
  rw [Try.params4] at hA hval
  obtain ⟨v0, vs0, d0, ds0, p0, q0, hargs, rfl, rfl, h0, r0⟩ := trodAll_cons hA
  obtain ⟨rfl, rfl, rfl⟩ := trodAll_nil r0
  obtain rfl : args = #[v0] := by cases args; simp_all
  obtain ⟨rfl, rfl⟩ := trodVars_none hV
  obtain ⟨a0, rfl, rfl, rfl, w0⟩ := open_int Try.underlying2 (hval 0 2 v0 rfl rfl) h0
  clear hA0 hval0
  simp only [List.append_nil] at hW'
  refine (walk a0 w0 W).mono fun e W' ⟨he, hg⟩ => ?_
  subst he
  exact ⟨_, rfl, post_of_same (pa := []) (pv := []) hW' (fun _ _ _ => (trodAll_cons_mk (shut_bool Try.underlying4 _) trodAll_mk0)) (fun sp _ => (trodAll_cons_mk (shut_int Try.underlying2 w0) trodAll_mk0)) (fun _ _ => rfl) rfl
    (hg.frame _) hg.2.1 (ok_one (by kernel_rfl) rfl (okWide_bool_mk Try.underlying4 _))⟩

theorem over : Rows.fnMagnitudeSymmetricBoundedRow.holds Try.pinned (OpenSpec.ofChange Rows.fnMagnitudeSymmetricBoundedSpec) :=
  OpenClaim.holds_of_wide 4 Try.f4 rfl rfl rfl rfl rfl rfl rfl ⟨rfl, rfl, rfl, rfl, rfl⟩ rfl rfl rfl rfl rfl (by kernel_rfl) Try.func4 (by kernel_rfl)
    (of_decide_eq_true (by kernel_rfl)) (by unfold Func.isWrapper; first | (rw [if_pos (by decide +kernel)]; kernel_rfl) | (rw [if_neg (by decide +kernel)]; exact ⟨rfl, rfl⟩))
    (fun os started H enc _ => lifted os started H enc)

/-- THE STATEMENT. -/
theorem proved : Rows.FnMagnitudeSymmetricBoundedSaid :=
  over
end Go.Proofs.Qxb6601596a.fnMagnitudeSymmetricBounded
