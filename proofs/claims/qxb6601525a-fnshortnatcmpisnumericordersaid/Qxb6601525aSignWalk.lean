import Derived.Test.Qxb6601525aNatCalls
namespace Go.Proofs.Qxb6601525a
open Go.RowKit

theorem wrap_ne {a b : Int} (ha : 0 ≤ a ∧ a < 18446744073709551616) (hb : 0 ≤ b ∧ b < 18446744073709551616) (h : a ≠ b) : (IntKind.u64.wrap (IntKind.u64.wrap (a - b)) != 0) = true := by
  rw [bne_iff_ne]
  simp only [IntKind.wrap_u64]
  omega
/-- The borrow and the mark 'nonzero', out of the comparison of the words so far. -/
def borOf (c : Int) : Int := if c = -1 then 1 else 0
def nzOf (c : Int) : Bool := decide (c ≠ 0)

set_option maxHeartbeats 1000000 in
theorem sign_any (C D : Array Value) (A B : List Int) (hC : Words C A) (hD : Words D B) (w : World) :
    Calls Try.prog 9 #[.agg C, .agg D] w fun e w' => e = .returned (.int .i64 (cmpTop A B 8)) ∧ ∃ n, w' = ((w.alloc (.cells C 23)).alloc (.cells D 23)).drewN n := by
  have hsc := hC.size
  have hsd := hD.size
  go_enter Try.func9, Try.ntmps9
  go_wp2
  clear hsc hsd
  go_loopw [5, 6, 7] (fun u v i wr => ∃ k nq : Nat, k ≤ 8 ∧ u = .int .u64 (borOf (cmpTop A B k)) ∧ v = .bool (nzOf (cmpTop A B k)) ∧ i = .int .i64 k ∧ wr = ((w.alloc (.cells C 23)).alloc (.cells D 23)).drewN nq) (fun _ _ i _ => 8 - (intOf i).toNat)
  case atStart => exact ⟨0, 0, by omega, rfl, rfl, rfl, rfl⟩
  case round =>
    obtain ⟨k, nq, hk, hu, hv, rfl, rfl⟩ := hrel
    by_cases hlt : k < 8
    · have hca := hC.at_ k hlt
      have hcb := hD.at_ k hlt
      have hba := hC.bound k
      have hbb := hD.bound k
      have Hs : Hid (A[k]?.getD 0 = B[k]?.getD 0 → cmpTop A B (k + 1) = cmpTop A B k) := cmpTop_same
      have Hl : Hid (A[k]?.getD 0 < B[k]?.getD 0 → cmpTop A B (k + 1) = -1) := cmpTop_lt
      have Hg : Hid (B[k]?.getD 0 < A[k]?.getD 0 → cmpTop A B (k + 1) = 1) := cmpTop_gt
      generalize A[k]?.getD 0 = a at *
      generalize B[k]?.getD 0 = b at *
      rcases cmpTop_range A B k with h | h | h
      · rw [h] at hu hv
        simp [borOf] at hu
        simp [nzOf] at hv
        subst hu hv
        have HC : Hid (cmpTop A B k = -1) := h
        clear h
        by_cases hab : a < b
        · have HK : Hid (cmpTop A B (k + 1) = -1) := Hl.out hab
          go_wp2
          go_quiet (fail)
          go_wp2
          go_quiet (fail)
          go_wp2
          all_goals
            go_roundw
            case rel => exact ⟨k + 1, _, by omega, by rw [HK.out]; rfl, by rw [HK.out]; rfl, by go_num, rfl⟩
            case measure => simp [intOf]; omega
        by_cases hba' : b < a
        · have HK : Hid (cmpTop A B (k + 1) = 1) := Hg.out hba'
          have e1 : decide (a < b) = false := by simpa using hab
          have e2 : (a == b) = false := beq_eq_false_iff_ne.2 (by omega)
          go_wp2
          go_quiet (fail)
          go_wp2
          go_quiet (fail)
          go_wp2
          all_goals
            go_roundw
            case rel => exact ⟨k + 1, _, by omega, by rw [HK.out]; rfl, by rw [HK.out]; rfl, by go_num, rfl⟩
            case measure => simp [intOf]; omega
        · obtain rfl : a = b := by omega
          have HK : Hid (cmpTop A B (k + 1) = -1) := (Hs.out rfl).trans HC.out
          have e1 : decide (a < a) = false := by simp
          have e2 : (a == a) = true := by simp
          go_wp2
          go_quiet (fail)
          go_wp2
          go_quiet (fail)
          go_wp2
          all_goals
            go_roundw
            case rel => exact ⟨k + 1, _, by omega, by rw [HK.out]; rfl, by rw [HK.out]; rfl, by go_num, rfl⟩
            case measure => simp [intOf]; omega
      · rw [h] at hu hv
        simp [borOf] at hu
        simp [nzOf] at hv
        subst hu hv
        have HC : Hid (cmpTop A B k = 0) := h
        clear h
        by_cases hab : a < b
        · have HK : Hid (cmpTop A B (k + 1) = -1) := Hl.out hab
          have hd := wrap_ne hba hbb (by omega)
          go_wp2
          go_quiet (fail)
          go_wp2
          go_quiet (fail)
          go_wp2
          all_goals
            go_roundw
            case rel => exact ⟨k + 1, _, by omega, by rw [HK.out]; rfl, by rw [HK.out]; rfl, by go_num, rfl⟩
            case measure => simp [intOf]; omega
        by_cases hba' : b < a
        · have HK : Hid (cmpTop A B (k + 1) = 1) := Hg.out hba'
          have hd := wrap_ne hba hbb (by omega)
          have e1 : decide (a < b) = false := by simpa using hab
          have e2 : (a == b) = false := beq_eq_false_iff_ne.2 (by omega)
          go_wp2
          go_quiet (fail)
          go_wp2
          go_quiet (fail)
          go_wp2
          all_goals
            go_roundw
            case rel => exact ⟨k + 1, _, by omega, by rw [HK.out]; rfl, by rw [HK.out]; rfl, by go_num, rfl⟩
            case measure => simp [intOf]; omega
        · obtain rfl : a = b := by omega
          have HK : Hid (cmpTop A B (k + 1) = 0) := (Hs.out rfl).trans HC.out
          have e1 : decide (a < a) = false := by simp
          have e2 : (a == a) = true := by simp
          go_wp2
          go_quiet (fail)
          go_wp2
          go_quiet (fail)
          go_wp2
          all_goals
            go_roundw
            case rel => exact ⟨k + 1, _, by omega, by rw [HK.out]; rfl, by rw [HK.out]; rfl, by go_num, rfl⟩
            case measure => simp [intOf]; omega
      · rw [h] at hu hv
        simp [borOf] at hu
        simp [nzOf] at hv
        subst hu hv
        have HC : Hid (cmpTop A B k = 1) := h
        clear h
        by_cases hab : a < b
        · have HK : Hid (cmpTop A B (k + 1) = -1) := Hl.out hab
          go_wp2
          go_quiet (fail)
          go_wp2
          go_quiet (fail)
          go_wp2
          all_goals
            go_roundw
            case rel => exact ⟨k + 1, _, by omega, by rw [HK.out]; rfl, by rw [HK.out]; rfl, by go_num, rfl⟩
            case measure => simp [intOf]; omega
        by_cases hba' : b < a
        · have HK : Hid (cmpTop A B (k + 1) = 1) := Hg.out hba'
          have e1 : decide (a < b) = false := by simpa using hab
          have e2 : (a == b) = false := beq_eq_false_iff_ne.2 (by omega)
          go_wp2
          go_quiet (fail)
          go_wp2
          go_quiet (fail)
          go_wp2
          all_goals
            go_roundw
            case rel => exact ⟨k + 1, _, by omega, by rw [HK.out]; rfl, by rw [HK.out]; rfl, by go_num, rfl⟩
            case measure => simp [intOf]; omega
        · obtain rfl : a = b := by omega
          have HK : Hid (cmpTop A B (k + 1) = 1) := (Hs.out rfl).trans HC.out
          have e1 : decide (a < a) = false := by simp
          have e2 : (a == a) = true := by simp
          go_wp2
          go_quiet (fail)
          go_wp2
          go_quiet (fail)
          go_wp2
          all_goals
            go_roundw
            case rel => exact ⟨k + 1, _, by omega, by rw [HK.out]; rfl, by rw [HK.out]; rfl, by go_num, rfl⟩
            case measure => simp [intOf]; omega
    · have h8 : k = 8 := by omega
      subst h8
      rcases cmpTop_range A B 8 with h | h | h
      all_goals
        rw [h] at hu hv
        simp [borOf] at hu
        simp [nzOf] at hv
        subst hu hv
        have HC : Hid (cmpTop A B 8 = _) := h
        clear h
        go_wp2
        go_ret
        exact ⟨ret_int (by rw [HC.out]), _, rfl⟩
end Go.Proofs.Qxb6601525a
