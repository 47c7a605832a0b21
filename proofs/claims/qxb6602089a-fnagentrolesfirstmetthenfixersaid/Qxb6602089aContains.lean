import Derived.Test.Qxb6602089aDef
namespace Go.Proofs.Qxb6602089a
open Go.RowKit

/-- Is x among R? -/
def hasB (R : List ByteArray) (x : ByteArray) : Bool := R.any fun y => x.toList == y.toList
theorem hasB_take {R : List ByteArray} {x : ByteArray} {k : Nat} (hk : k < R.length) (h : hasB (R.take k) x = false) (hx : (x.toList == (R.getD k ⟨#[]⟩).toList) = false) : hasB (R.take (k + 1)) x = false := by
  unfold hasB at *
  rw [List.take_succ_eq_append_getElem hk, List.any_append, h]
  have e : R.getD k ⟨#[]⟩ = R[k] := by simp [hk]
  rw [e] at hx
  simpa using hx
theorem hasB_hit {R : List ByteArray} {x : ByteArray} {k : Nat} (hk : k < R.length) (hx : (x.toList == (R.getD k ⟨#[]⟩).toList) = true) : hasB R x = true := by
  unfold hasB
  rw [List.any_eq_true]
  have e : R.getD k ⟨#[]⟩ = R[k] := by simp [hk]
  rw [e] at hx
  exact ⟨R[k], List.getElem_mem hk, hx⟩

/-- The strings R lie in the row that the slice value v leads to. -/
def StrRow (w : World) (v : Value) (R : List ByteArray) : Prop := (R = [] ∧ v = .slice none 0 0) ∨ ∃ g c : Nat, R ≠ [] ∧ v = .slice (some ⟨g, 0, none⟩) R.length c ∧ ∀ j : Nat, j < R.length → w.cell? ⟨g, j, none⟩ = some (.string (R.getD j ⟨#[]⟩))

def IdxPost (R : List ByteArray) (x : ByteArray) (e : Ending) : Prop := ∃ v : Int, e = .returned (.int .i64 v) ∧ decide (0 ≤ v) = hasB R x

set_option maxHeartbeats 400000 in
theorem index_core (g c : Nat) (R : List ByteArray) (x : ByteArray) (w : World) (hn : R.length ≤ 1048576) (hR : ∀ j : Nat, j < R.length → w.cell? ⟨g, j, none⟩ = some (.string (R.getD j ⟨#[]⟩))) :
    Calls Try.prog 31 #[.slice (some ⟨g, 0, none⟩) R.length c, .string x] w fun e w' => IdxPost R x e ∧ w = w' := by
  have HR : Hid (∀ j : Nat, j < R.length → w.cell? ⟨g, j, none⟩ = some (.string (R.getD j ⟨#[]⟩))) := hR
  clear hR
  go_enter Try.func31, Try.ntmps31
  go_wp2
  go_loop [8] (fun i => ∃ k : Nat, k ≤ R.length ∧ i = .int .i64 k ∧ Hid (hasB (R.take k) x = false)) (fun i => R.length - (intOf i).toNat)
  case atStart => exact ⟨0, Nat.zero_le _, rfl, by simp [Hid, hasB]⟩
  case round =>
    obtain ⟨k, hk, rfl, HK⟩ := hrel
    by_cases hlt : k < R.length
    · obtain ⟨y, hy⟩ : ∃ y, y = R.getD k ⟨#[]⟩ := ⟨_, rfl⟩
      have hc := HR.out k hlt
      rw [← hy] at hc
      have HY : Hid (y = R.getD k ⟨#[]⟩) := hy
      clear hy
      cases hb : (x.toList == y.toList)
      · have HN : Hid (hasB (R.take (k + 1)) x = false) := hasB_take hlt HK.out (by rw [← HY.out]; exact hb)
        go_wp2
        go_round
        case rel => exact ⟨k + 1, by omega, by go_num, HN⟩
        case measure => simp [intOf]; omega
      · have HN : Hid (hasB R x = true) := hasB_hit hlt (by rw [← HY.out]; exact hb)
        go_wp2
        go_ret
        exact ⟨⟨k, rfl, by rw [HN.out]; simp⟩, rfl⟩
    · have HN : Hid (hasB R x = false) := by
        have := HK.out
        rwa [List.take_of_length_le (by omega)] at this
      go_wp2
      go_ret
      exact ⟨⟨-1, rfl, by rw [HN.out]; rfl⟩, rfl⟩

set_option maxHeartbeats 400000 in
theorem index_nil (x : ByteArray) (w : World) : Calls Try.prog 31 #[.slice none 0 0, .string x] w fun e w' => IdxPost [] x e ∧ w = w' := by
  go_enter Try.func31, Try.ntmps31
  go_wp2
  refine wp_loop_rounds 1 ?_
  rw [rounds_succ]
  go_wp2
  go_ret
  exact ⟨⟨-1, rfl, rfl⟩, rfl⟩

set_option maxHeartbeats 400000 in
theorem contains_any (v : Value) (R : List ByteArray) (x : ByteArray) (w : World) (hn : R.length ≤ 1048576) (hR : StrRow w v R) :
    Calls Try.prog 28 #[v, .string x] w fun e w' => e = .returned (.bool (hasB R x)) ∧ w = w' := by
  rcases hR with ⟨rfl, rfl⟩ | ⟨g, c, _, rfl, hR⟩
  · go_enter Try.func28, Try.ntmps28
    go_wp2_with fail
    refine (index_nil x w).mono ?_
    rintro e w' ⟨⟨v, rfl, hv⟩, rfl⟩
    have HV : Hid (decide (0 ≤ v) = hasB [] x) := hv
    clear hv
    go_wp2
    go_ret
    exact ⟨by rw [← HV.out]; rfl, rfl⟩
  · go_enter Try.func28, Try.ntmps28
    go_wp2_with fail
    refine (index_core g c R x w hn hR).mono ?_
    rintro e w' ⟨⟨v, rfl, hv⟩, rfl⟩
    have HV : Hid (decide (0 ≤ v) = hasB R x) := hv
    clear hv hR
    go_wp2
    go_ret
    exact ⟨by rw [← HV.out]; rfl, rfl⟩
end Go.Proofs.Qxb6602089a
