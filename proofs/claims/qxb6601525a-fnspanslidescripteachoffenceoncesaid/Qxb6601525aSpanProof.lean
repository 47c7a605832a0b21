import Derived.Test.Qxb6601525aRows
import Derived.Test.Qxb6601525aSpanWalk
import Derived.WalkKit
import Derived.ProofKit
import Derived.OpenShut
import Derived.ShutString
import Derived.ChangeOld
import Derived.Below
namespace Go.Proofs.Qxb6601525a.fnSpanSlideScriptEachOffenceOnce
open Go.ChangeShapes Go.WideShapes Go.ChangeAt Go.RowKit
open Go.ChangeMaps (open_string shut_string)
set_option linter.unusedVariables false

theorem own : ownKnob Try.prog.godebug = none := by kernel_rfl
theorem laidOut : laidOutB Try.prog = true := by kernel_rfl

/-- WHAT THE WALK IS TOLD OF A SLICE OF INTEGERS THAT CAME IN: it is nil; or it leads to a row of 'cap' cells, the numbers 'zs' (the first 'len' are its elements, the rest its spare room), each fitting its kind. -/
def IsRow (k : IntKind) (w : World) (a : Option Addr) (len cap : Nat) (zs : List Int) : Prop :=
  (a = none ∧ len = 0 ∧ cap = 0 ∧ zs = []) ∨
  ∃ x, a = some x ∧ len ≤ cap ∧ cap ≤ maxLen ∧ zs.length = cap ∧ (∀ i, i < zs.length → w.cell? (x.add i) = some (.int k (zs.getD i 0))) ∧ ∀ n ∈ zs, (Lit.int k n).wf = true

theorem wf_u64 {n : Int} (h : (Lit.int .u64 n).wf = true) : 0 ≤ n ∧ n < 18446744073709551616 := by
  have := bounds_u64 h
  omega

/-! ### THE WALK -/
set_option maxHeartbeats 1000000 in
theorem walk_zero (a : Option Addr) (c : Nat) (width : Int) (w : World) (hw0 : 0 ≤ width) (hw1 : width ≤ 9007199254740991) (hn : a = none → c = 0) :
    Calls Try.prog 6 #[.slice a 0 c, .int .u64 width] w fun r w' => r = .returned (.bool true) ∧ Below w.heap.size w w' := by
  cases a with
  | none =>
    obtain rfl := hn rfl
    go_enter Try.func6, Try.ntmps6
    go_wp2_with fail
    refine (bytes_any _ 0 0 width w (by omega)).mono ?_
    rintro r w1 ⟨rfl, rfl⟩
    go_wp2_with fail
    refine (dom_zero none 0 [] w1).mono ?_
    rintro r w2 ⟨d, rfl, _, q, rfl⟩
    cases d
    · go_wp2
      go_ret
      exact ⟨rfl, ⟨rfl, rfl, rfl, Nat.le_refl _, fun _ _ => rfl⟩⟩
    go_wp2_with fail
    refine (copy_nil (w1.drewN q)).mono ?_
    rintro r w3 ⟨rfl, hw3⟩
    subst hw3
    go_wp2_with fail
    refine (newSpan_zero none 0 width (w1.drewN q)).mono ?_
    rintro r w4 ⟨gs, rfl, hgr4⟩
    go_wp2
    refine wp_loop_rounds 1 ?_
    rw [rounds_succ]
    go_wp2
    go_ret
    have h1 : Below w1.heap.size w1 (w1.drewN q) := ⟨rfl, rfl, rfl, Nat.le_refl _, fun _ _ => rfl⟩
    exact ⟨rfl, h1.grown hgr4 (Nat.le_refl _) (by simp)⟩
  | some x =>
    go_enter Try.func6, Try.ntmps6
    go_wp2_with fail
    refine (bytes_any _ 0 c width w (by omega)).mono ?_
    rintro r w1 ⟨rfl, rfl⟩
    go_wp2_with fail
    refine (dom_zero (some x) c [] w1).mono ?_
    rintro r w2 ⟨d, rfl, _, q, rfl⟩
    cases d
    · go_wp2
      go_ret
      exact ⟨rfl, ⟨rfl, rfl, rfl, Nat.le_refl _, fun _ _ => rfl⟩⟩
    go_wp2_with fail
    refine (copy_zero x c [] (w1.drewN q)).mono ?_
    rintro r w3 ⟨g, rfl, hg, hep, hgr3⟩
    go_wp2_with fail
    refine (newSpan_zero (some ⟨g, 0, none⟩) 0 width w3).mono ?_
    rintro r w4 ⟨gs, rfl, hgr4⟩
    go_wp2
    refine wp_loop_rounds 1 ?_
    rw [rounds_succ]
    go_wp2
    go_ret
    have h1 : Below w1.heap.size w1 (w1.drewN q) := ⟨rfl, rfl, rfl, Nat.le_refl _, fun _ _ => rfl⟩
    have h2 : Below w1.heap.size w1 w3 := h1.grown hgr3 (Nat.le_refl _) (by simp)
    exact ⟨rfl, h2.grown hgr4 h2.size (by simp)⟩

set_option maxHeartbeats 1000000 in
theorem walk_far (a : Option Addr) (n c : Nat) (width : Int) (w : World) (hm : n ≤ maxLen) (h : 65536 < n ∨ 9007199254740991 < width) :
    Calls Try.prog 6 #[.slice a n c, .int .u64 width] w fun r w' => r = .returned (.bool true) ∧ Below w.heap.size w w' := by
  unfold maxLen at hm
  by_cases h1 : 1048576 < n
  · go_enter Try.func6, Try.ntmps6
    go_wp2
    go_ret
    exact ⟨rfl, Below.refl _ _⟩
  by_cases h2 : 65536 < n
  · go_enter Try.func6, Try.ntmps6
    go_wp2
    go_ret
    exact ⟨rfl, Below.refl _ _⟩
  have h3 : 9007199254740991 < width := by omega
  go_enter Try.func6, Try.ntmps6
  go_wp2
  go_ret
  exact ⟨rfl, Below.refl _ _⟩

theorem walk (a0 : Option Addr) (len0 cap0 : Nat) (z0 : List Int) (a1 : Int) (w : World) (w0 : IsRow .u64 w a0 len0 cap0 z0) (w1 : (Lit.int .u64 a1).wf = true) :
    Calls Try.prog 6 #[.slice a0 len0 cap0, .int .u64 a1] w fun e w' => e = .returned (.bool true) ∧ Below w.heap.size w w' := by
  have hw := wf_u64 w1
  have hm : len0 ≤ maxLen := by
    rcases w0 with ⟨_, rfl, _⟩ | ⟨x, _, h1, h2, _⟩
    · exact Nat.zero_le _
    · exact Nat.le_trans h1 h2
  by_cases hf : 65536 < len0 ∨ 9007199254740991 < a1
  · exact walk_far a0 len0 cap0 a1 w hm hf
  by_cases hz : len0 = 0
  · subst hz
    refine walk_zero a0 cap0 a1 w hw.1 (by omega) (fun h => ?_)
    rcases w0 with ⟨_, _, h, _⟩ | ⟨x, h1, _⟩
    · exact h
    · rw [h1] at h; cases h
  rcases w0 with ⟨_, h, _⟩ | ⟨x, rfl, h1, _, hl, hc, hwf⟩
  · omega
  · obtain ⟨b, off, rfl, hcell⟩ := ints_at hc (by omega)
    refine script_core b off len0 cap0 z0 a1 w (by omega) (by omega) hw.1 (by omega) (fun i hi => ?_) (fun i => ?_)
    · have := hcell i (by omega)
      simpa using this
    · by_cases hi : i < z0.length
      · rw [List.getElem?_eq_getElem hi]
        exact (wf_u64 (hwf _ (List.getElem_mem hi))).1
      · rw [List.getElem?_eq_none (by omega)]; decide

/-! ### THE ROW's STEP: WRITTEN OUT: LEAVE IT -/
set_option maxRecDepth 100000 in
theorem lifted (os : Os) (started : os.Started) (H : Type) (enc : TypeId × Value → H) :
    ReturnsInHanded {} Try.checked os 6 .any (Rows.fnSpanSlideScriptEachOffenceOnceSpec.pre6 enc Try.prog Try.f6 Rows.fnSpanSlideScriptEachOffenceOnceRow.domain false) (Rows.fnSpanSlideScriptEachOffenceOnceSpec.post enc Try.prog Try.f6 false true false false) := by
  refine returnsInHanded_of_change (C := Try.checked) own started (by kernel_rfl) Try.func6
    (ChangeSpec.witness6 (enc := enc) (C := Try.checked) false ⟨#[], #[.slice none 0 0, .int .u64 0], []⟩ 8 (by kernel_rfl) (by kernel_rfl) (by kernel_rfl) (by kernel_rfl)) ?_
  intro W base args ds gs before hval0 hW hcnd _
  have hval : ∀ (j : Nat) t v, Try.f6.params[j]? = some t → args[j]? = some v → Value.okWide Try.prog W .any base t v := hval0
  have hW' := hW
  obtain ⟨p, q, hA0, hV, rfl, hfz, hnd⟩ := hW
  have hA : DataW.TrodAll enc Try.prog W 0 (fun _ => true) true Try.f6.params.toList args.toList ds p := hA0
  rw [Try.params6] at hA hval
  obtain ⟨v0, vs0, d0, ds0, p0, q0, hargs, rfl, rfl, h0, r0⟩ := trodAll_cons hA
  obtain ⟨v1, vs1, d1, ds1, p1, q1, rfl, rfl, rfl, h1, r1⟩ := trodAll_cons r0
  obtain ⟨rfl, rfl, rfl⟩ := trodAll_nil r1
  obtain rfl : args = #[v0, v1] := by cases args; simp_all
  obtain ⟨rfl, rfl⟩ := trodVars_none hV
  obtain ⟨a0, len0, cap0, rfl⟩ := okWide_slice Try.underlying28 (hval 0 28 v0 rfl rfl)
  have k0 := h0
  have lt0 : ∀ x ∈ p0, x.block < W.heap.size := by obtain ⟨m, hm⟩ := k0; exact DataW.trod_lt m _ _ _ hm
  obtain ⟨z0, w0⟩ : ∃ zs, IsRow .u64 W a0 len0 cap0 zs := by
    obtain ⟨fuel, hf⟩ := h0
    rcases open_ints Try.underlying28 Try.underlying22 (by kernel_rfl) hf with ⟨hcs, _⟩ | ⟨x, l, c, zs, hcs, _, hl, hm, hz, _, hcell, hwz⟩
    · simp [Value.cells] at hcs
      obtain ⟨rfl, rfl, rfl⟩ := hcs
      exact ⟨[], .inl ⟨rfl, rfl, rfl, rfl⟩⟩
    · simp [Value.cells] at hcs
      obtain ⟨rfl, rfl, rfl⟩ := hcs
      exact ⟨zs, .inr ⟨_, rfl, hl, hm, by simpa using hz, hcell, hwz⟩⟩
  obtain ⟨a1, rfl, rfl, rfl, w1⟩ := open_int Try.underlying22 (hval 1 22 v1 rfl rfl) h1
  clear hA0 hval0
  refine (walk a0 len0 cap0 z0 a1 W w0 w1).mono fun e W' ⟨he, bel⟩ => ?_
  subst he
  exact ⟨_, rfl, _, _, _, [], _, [], hW', trodAll_mk1 (shut_bool Try.underlying4 _), (trodAll_cons_mk (Below.trod laidOut (by kernel_rfl) (of_decide_eq_true (by kernel_rfl)) k0 bel lt0) (trodAll_cons_mk (shut_int Try.underlying22 w1) trodAll_mk0)), rfl, bel.frame _, fun h => by cases h⟩

theorem over : Rows.fnSpanSlideScriptEachOffenceOnceRow.holds Try.pinned (OpenSpec.ofChange Rows.fnSpanSlideScriptEachOffenceOnceSpec) :=
  OpenClaim.holds_of_wide 6 Try.f6 rfl rfl rfl rfl rfl rfl rfl ⟨rfl, rfl, rfl, rfl, rfl⟩ rfl rfl rfl rfl rfl (by kernel_rfl) Try.func6 (by kernel_rfl)
    (of_decide_eq_true (by kernel_rfl)) (by unfold Func.isWrapper; first | (rw [if_pos (by decide +kernel)]; kernel_rfl) | (rw [if_neg (by decide +kernel)]; exact ⟨rfl, rfl⟩))
    (fun os started H enc _ => lifted os started H enc)

/-- THE STATEMENT. -/
theorem proved : Rows.FnSpanSlideScriptEachOffenceOnceSaid := over
end Go.Proofs.Qxb6601525a.fnSpanSlideScriptEachOffenceOnce
