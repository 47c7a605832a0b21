import Derived.Test.Qxb6602089aSmall
namespace Go.Proofs.Qxb6602089a
open Go.RowKit

/-- The first k 'WaitsOn' slices are short. -/
def Short (T : Tk) (k : Nat) : Prop := ∀ i : Nat, i < k → T.wl i ≤ 1048576
theorem Short.step {T : Tk} {k : Nat} (h : Short T k) (hk : T.wl k ≤ 1048576) : Short T (k + 1) := fun i hi => by
  by_cases e : i = k
  · rw [e]; exact hk
  · exact h i (by omega)
def BytesPost (T : Tk) (n : Nat) (e : Ending) : Prop := ∃ b : Bool, e = .returned (.bool b) ∧ (b = true → Short T n)
theorem BytesPost.no (T : Tk) (n : Nat) : BytesPost T n (.returned (.bool false)) := ⟨false, rfl, fun h => by cases h⟩

set_option maxRecDepth 20000 in
set_option maxHeartbeats 4000000 in
theorem bytes_core (name fixer : ByteArray) (b off n c : Nat) (T : Tk) (w : World) (hname : name.size ≤ 9223372036854775807) (hfix : fixer.size ≤ 9223372036854775807) (hn : n ≤ 9223372036854775807) (hT : TasksAt w b off n T) :
    Calls Try.prog 8 #[.string name, .string fixer, .slice (some ⟨b, off, none⟩) n c] w fun e w' => BytesPost T n e ∧ w = w' := by
  go_enter Try.func8, Try.ntmps8
  go_wp2_with fail
  all_goals first | (go_ret; exact ⟨BytesPost.no _ _, rfl⟩) | skip
  go_loop [7, 8] (fun t i => ∃ (k : Nat) (v : Int), k ≤ n ∧ i = .int .i64 k ∧ t = .int .i64 v ∧ 0 ≤ v ∧ v ≤ 1048576 ∧ Short T k) (fun _ i => n - (intOf i).toNat)
  case atStart => exact ⟨0, _, Nat.zero_le _, rfl, rfl, by omega, by omega, fun i h => by omega⟩
  case round =>
    obtain ⟨k, u, hk, rfl, rfl, hu0, hu1, hsh⟩ := hrel
    by_cases hlt : k < n
    · have c0 := hT.ro k hlt
      have c1 := hT.ki k hlt
      have c2 := hT.ph k hlt
      have c3 := hT.wt k hlt
      have z0 := hT.ros k hlt
      have z1 := hT.kis k hlt
      have z2 := hT.phs k hlt
      have z3 := hT.wls k hlt
      have hst := hT.strs k hlt
      have HS : Hid (T.wl k ≤ 1048576 → Short T (k + 1)) := fun h => hsh.step h
      rcases hst with hz | ⟨b', o', ha, hs⟩
      · rw [hz] at c3 z3
        go_wp2_with fail
        all_goals first | (go_ret; exact ⟨BytesPost.no _ _, rfl⟩) | skip
        refine wp_loop_rounds 1 ?_
        rw [rounds_succ]
        go_wp2_with fail
        go_round
        case rel => exact ⟨k + 1, _, by omega, by go_num, rfl, by omega, by omega, HS.out (by omega)⟩
        case measure => simp [intOf]; omega
      · rw [ha] at c3
        have HB : Hid (∀ j : Nat, j < T.wl k → ∃ s : ByteArray, w.cell? ⟨b', o' + j, none⟩ = some (.string s) ∧ s.size ≤ maxLen) := hs
        clear hs ha hsh
        go_wp2_with fail
        all_goals first | (go_ret; exact ⟨BytesPost.no _ _, rfl⟩) | skip
        have HL : Hid (T.wl k ≤ 1048576) := by unfold Hid; omega
        go_loop [7, 9] (fun t i => ∃ (j : Nat) (v : Int), j ≤ T.wl k ∧ i = .int .i64 j ∧ t = .int .i64 v ∧ 0 ≤ v ∧ v ≤ 1048576) (fun _ i => T.wl k - (intOf i).toNat)
        case atStart => exact ⟨0, _, Nat.zero_le _, rfl, rfl, by omega, by omega⟩
        case round =>
          obtain ⟨j, v, hj, rfl, rfl, hv0, hv1⟩ := hrel
          by_cases hjl : j < T.wl k
          · obtain ⟨s, hc, hsz⟩ := HB.out j hjl
            unfold maxLen at hsz
            have hjl' : (j : Int) < T.wl k := by omega
            go_wp2_with fail
            all_goals first | (go_ret; exact ⟨BytesPost.no _ _, rfl⟩) | skip
            go_round
            case rel => exact ⟨j + 1, _, by omega, by go_num, rfl, by omega, by omega⟩
            case measure => simp [intOf]; omega
          · go_wp2_with fail
            go_round
            case rel => exact ⟨k + 1, _, by omega, by go_num, rfl, hv0, hv1, HS.out HL.out⟩
            case measure => simp [intOf]; omega
    · obtain rfl : n = k := by omega
      go_wp2_with fail
      go_ret
      exact ⟨⟨true, rfl, fun _ => hsh⟩, rfl⟩

set_option maxRecDepth 20000 in
set_option maxHeartbeats 1000000 in
theorem bytes_zero (name fixer : ByteArray) (a : Option Addr) (c : Nat) (T : Tk) (w : World) (hname : name.size ≤ 9223372036854775807) (hfix : fixer.size ≤ 9223372036854775807) :
    Calls Try.prog 8 #[.string name, .string fixer, .slice a 0 c] w fun e w' => BytesPost T 0 e ∧ w = w' := by
  go_enter Try.func8, Try.ntmps8
  go_wp2_with fail
  all_goals first | (go_ret; exact ⟨BytesPost.no _ _, rfl⟩) | skip
  refine wp_loop_rounds 1 ?_
  rw [rounds_succ]
  go_wp2_with fail
  go_ret
  exact ⟨⟨true, rfl, fun _ i h => by omega⟩, rfl⟩
end Go.Proofs.Qxb6602089a
