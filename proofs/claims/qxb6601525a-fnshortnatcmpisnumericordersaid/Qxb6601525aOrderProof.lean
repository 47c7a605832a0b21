import Derived.Test.Qxb6601525aRows
import Derived.Test.Qxb6601525aOrderWalk
import Derived.WalkKit
import Derived.ProofKit
import Derived.OpenShut
import Derived.ShutString
import Derived.ChangeOld
import Derived.Below
namespace Go.Proofs.Qxb6601525a.fnShortNatCmpIsNumericOrder
open Go.ChangeShapes Go.WideShapes Go.ChangeAt Go.RowKit
set_option linter.unusedVariables false

theorem own : ownKnob Try.prog.godebug = none := by kernel_rfl
theorem laidOut : laidOutB Try.prog = true := by kernel_rfl
theorem cells23 : Try.prog.cellsOf 23 = 8 := by kernel_rfl

theorem wf_u64 {n : Int} (h : (Lit.int .u64 n).wf = true) : 0 ≤ n ∧ n < 18446744073709551616 := by
  have := bounds_u64 h
  omega

/-- An array of eight words, opened: its cells and its words. -/
theorem open_words {H : Type} {enc : TypeId × Value → H} {W : World} {base base' : Nat} {spare : Nat → Bool} {held : Bool} {v : Value} {d : DataW H} {ps : List MemPlace}
    (hval : Value.okWide Try.prog W .any base' 23 v) (hd : DataW.Trod enc Try.prog W base spare held 23 v d ps) : ∃ (C : Array Value) (A : List Int), v = .agg C ∧ Words C A := by
  obtain ⟨C, rfl, hsz, _⟩ : ∃ cs, v = .agg cs ∧ cs.size = Try.prog.cellsOf 23 ∧ Row.okWide Try.prog W .any base' 23 cs := by
    simpa [Value.okWide, Try.underlying23] using hval
  rw [cells23] at hsz
  obtain ⟨fuel, hf⟩ := hd
  obtain ⟨xs, m, rfl, hx, hl, hxs, hi⟩ := DataW.trod_array Try.underlying23 hf
  have hC : ∀ k : Nat, k < 8 → ∃ n, C[k]? = some (.int .u64 n) ∧ (Lit.int .u64 n).wf = true := by
    intro k hk
    have h1 := hi k hk
    rw [cells22, Nat.mul_one] at h1
    obtain ⟨y, hy⟩ : ∃ y, xs[k]? = some y := ⟨xs[k]'(by omega), List.getElem?_eq_getElem _⟩
    rw [hy] at h1
    obtain ⟨n, e, _, hw⟩ := DataW.trod_int Try.underlying22 h1
    refine ⟨n, ?_, hw⟩
    simp only [Value.cells] at e
    have e2 : ((C.toList.drop k).take 1)[0]? = some (.int .u64 n) := by rw [e]; rfl
    simpa using e2
  let f : Nat → Int := fun k => match C[k]? with | some (.int .u64 n) => n | _ => 0
  have hf8 : ∀ k : Nat, k < 8 → C[k]? = some (.int .u64 (f k)) ∧ (Lit.int .u64 (f k)).wf = true := by
    intro k hk
    obtain ⟨n, h1, h2⟩ := hC k hk
    have : f k = n := by simp only [f, h1]
    rw [this]; exact ⟨h1, h2⟩
  have hget : ∀ k : Nat, k < 8 → ((List.range 8).map f)[k]?.getD 0 = f k := by
    intro k hk
    simp [List.getElem?_map, List.getElem?_range hk]
  refine ⟨C, (List.range 8).map f, rfl, hsz, by simp, fun k hk => by rw [hget k hk]; exact (hf8 k hk).1, fun k => ?_⟩
  by_cases hk : k < 8
  · rw [hget k hk]; exact wf_u64 (hf8 k hk).2
  · rw [List.getElem?_eq_none (by simp; omega)]; decide

set_option maxRecDepth 100000 in
theorem lifted (os : Os) (started : os.Started) (H : Type) (enc : TypeId × Value → H) :
    ReturnsInHanded {} Try.checked os 3 .any (Rows.fnShortNatCmpIsNumericOrderSpec.pre6 enc Try.prog Try.f3 Rows.fnShortNatCmpIsNumericOrderRow.domain false) (Rows.fnShortNatCmpIsNumericOrderSpec.post enc Try.prog Try.f3 false true false false) := by
  refine returnsInHanded_of_change (C := Try.checked) own started (by kernel_rfl) Try.func3
    (ChangeSpec.witness6 (enc := enc) (C := Try.checked) false ⟨#[], #[.agg #[.int .u64 0, .int .u64 0, .int .u64 0, .int .u64 0, .int .u64 0, .int .u64 0, .int .u64 0, .int .u64 0], .int .i64 0, .agg #[.int .u64 0, .int .u64 0, .int .u64 0, .int .u64 0, .int .u64 0, .int .u64 0, .int .u64 0, .int .u64 0], .int .i64 0], []⟩ 8 (by kernel_rfl) (by kernel_rfl) (by kernel_rfl) (by kernel_rfl)) ?_
  intro W base args ds gs before hval0 hW hcnd _
  have hval : ∀ (j : Nat) t v, Try.f3.params[j]? = some t → args[j]? = some v → Value.okWide Try.prog W .any base t v := hval0
  have hW' := hW
  obtain ⟨p, q, hA0, hV, rfl, hfz, hnd⟩ := hW
  have hA : DataW.TrodAll enc Try.prog W 0 (fun _ => true) true Try.f3.params.toList args.toList ds p := hA0
  rw [Try.params3] at hA hval
  obtain ⟨v0, vs0, d0, ds0, p0, q0, hargs, rfl, rfl, h0, r0⟩ := trodAll_cons hA
  obtain ⟨v1, vs1, d1, ds1, p1, q1, rfl, rfl, rfl, h1, r1⟩ := trodAll_cons r0
  obtain ⟨v2, vs2, d2, ds2, p2, q2, rfl, rfl, rfl, h2, r2⟩ := trodAll_cons r1
  obtain ⟨v3, vs3, d3, ds3, p3, q3, rfl, rfl, rfl, h3, r3⟩ := trodAll_cons r2
  obtain ⟨rfl, rfl, rfl⟩ := trodAll_nil r3
  obtain rfl : args = #[v0, v1, v2, v3] := by cases args; simp_all
  obtain ⟨rfl, rfl⟩ := trodVars_none hV
  have k0 := h0
  have k2 := h2
  have lt0 : ∀ x ∈ p0, x.block < W.heap.size := by obtain ⟨m, hm⟩ := k0; exact DataW.trod_lt m _ _ _ hm
  have lt2 : ∀ x ∈ p2, x.block < W.heap.size := by obtain ⟨m, hm⟩ := k2; exact DataW.trod_lt m _ _ _ hm
  obtain ⟨C, A, rfl, hC⟩ := open_words (hval 0 23 v0 rfl rfl) h0
  obtain ⟨a1, rfl, rfl, rfl, w1⟩ := open_int Try.underlying3 (hval 1 3 v1 rfl rfl) h1
  obtain ⟨D, B, rfl, hD⟩ := open_words (hval 2 23 v2 rfl rfl) h2
  obtain ⟨a3, rfl, rfl, rfl, w3⟩ := open_int Try.underlying3 (hval 3 3 v3 rfl rfl) h3
  clear hA0 hval0
  refine (order_walk C D A B hC hD a1 a3 W).mono fun e W' ⟨he, bel⟩ => ?_
  subst he
  exact ⟨_, rfl, _, _, _, [], _, [], hW', trodAll_mk1 (shut_bool Try.underlying4 _), (trodAll_cons_mk (Below.trod laidOut (by kernel_rfl) (of_decide_eq_true (by kernel_rfl)) k0 bel lt0) (trodAll_cons_mk (shut_int Try.underlying3 w1) (trodAll_cons_mk (Below.trod laidOut (by kernel_rfl) (of_decide_eq_true (by kernel_rfl)) k2 bel lt2) (trodAll_cons_mk (shut_int Try.underlying3 w3) trodAll_mk0)))), rfl, bel.frame _, fun h => by cases h⟩

theorem over : Rows.fnShortNatCmpIsNumericOrderRow.holds Try.pinned (OpenSpec.ofChange Rows.fnShortNatCmpIsNumericOrderSpec) :=
  OpenClaim.holds_of_wide 3 Try.f3 rfl rfl rfl rfl rfl rfl rfl ⟨rfl, rfl, rfl, rfl, rfl⟩ rfl rfl rfl rfl rfl (by kernel_rfl) Try.func3 (by kernel_rfl)
    (of_decide_eq_true (by kernel_rfl)) (by unfold Func.isWrapper; first | (rw [if_pos (by decide +kernel)]; kernel_rfl) | (rw [if_neg (by decide +kernel)]; exact ⟨rfl, rfl⟩))
    (fun os started H enc _ => lifted os started H enc)

/-- THE STATEMENT. -/
theorem proved : Rows.FnShortNatCmpIsNumericOrderSaid := over
end Go.Proofs.Qxb6601525a.fnShortNatCmpIsNumericOrder
