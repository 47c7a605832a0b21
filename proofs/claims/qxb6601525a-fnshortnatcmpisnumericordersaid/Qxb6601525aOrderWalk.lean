import Derived.Test.Qxb6601525aSignWalk
import Derived.Deep.RegionHeld3
namespace Go.Proofs.Qxb6601525a
open Go.RowKit

/-- Words that are the same above m do not part the comparison. -/
theorem cmpTop_down {A B : List Int} {m : Nat} (hA : Zer A m 8) (hB : Zer B m 8) : ∀ d : Nat, m + d ≤ 8 → cmpTop A B (m + d) = cmpTop A B m
  | 0, _ => rfl
  | d + 1, h => by
    rw [show m + (d + 1) = (m + d) + 1 from rfl, cmpTop_same (by rw [hA (m + d) (by omega) (by omega), hB (m + d) (by omega) (by omega)])]
    exact cmpTop_down hA hB d (by omega)

theorem Zer.up {A : List Int} {m n : Nat} (h : Zer A m 8) (hmn : m ≤ n) : Zer A n 8 := fun j h1 h2 => h j (by omega) h2

theorem cmpTop_shorter {A B : List Int} {m n : Nat} (hA : WF A m) (hB : WF B n) (hb : ∀ k : Nat, 0 ≤ B[k]?.getD 0) (h : m < n) : cmpTop A B 8 = -1 := by
  have hn8 : n ≤ 8 := by have := hB.hi; omega
  have zA : Zer A m 8 := by simpa using hA.rest
  have zB : Zer B n 8 := by simpa using hB.rest
  have e := cmpTop_down (zA.up (Nat.le_of_lt h)) zB (8 - n) (by omega)
  rw [show n + (8 - n) = 8 by omega] at e
  rw [e]
  obtain ⟨k, rfl⟩ : ∃ k, n = k + 1 := ⟨n - 1, by omega⟩
  refine cmpTop_lt ?_
  have h1 := zA k (by omega) (by omega)
  have h2 : B[k]?.getD 0 ≠ 0 := by simpa using hB.top (by omega)
  have h3 := hb k
  omega

/-- 'cmp' of two well-formed numbers is the sign of the difference of all eight words. -/
theorem cmpI_is_sign {A B : List Int} {m n : Nat} (hA : WF A m) (hB : WF B n) (ha : ∀ k : Nat, 0 ≤ A[k]?.getD 0) (hb : ∀ k : Nat, 0 ≤ B[k]?.getD 0) : cmpTop A B 8 = cmpI A m B n := by
  unfold cmpI
  by_cases h : m = n
  · subst h
    rw [if_pos rfl]
    have hm8 : m ≤ 8 := by have := hB.hi; omega
    have e := cmpTop_down (m := m) (A := A) (B := B) (by simpa using hA.rest) (by simpa using hB.rest) (8 - m) (by omega)
    rwa [show m + (8 - m) = 8 by omega] at e
  · rw [if_neg h]
    by_cases h2 : m < n
    · rw [if_pos h2]; exact cmpTop_shorter hA hB hb h2
    · rw [if_neg h2]
      have := cmpTop_anti B A 8
      rw [cmpTop_shorter hB hA ha (by omega)] at this
      exact this

set_option maxHeartbeats 2000000 in
theorem order_walk (C D : Array Value) (A B : List Int) (hC : Words C A) (hD : Words D B) (an bn : Int) (w : World) :
    Calls Try.prog 3 #[.agg C, .int .i64 an, .agg D, .int .i64 bn] w fun e w' => e = .returned (.bool true) ∧ Below w.heap.size w w' := by
  obtain rfl := hC.lit
  obtain rfl := hD.lit
  go_enter Try.func3, Try.ntmps3
  go_wp2_with fail
  refine (wf_any _ _ A hC _).mono ?_
  rintro e w' ⟨⟨b, rfl, hb⟩, rfl⟩
  cases b
  · go_wp2
    go_ret
    exact ⟨rfl, by repeat (first | with_reducible apply Bel.alloc | with_reducible apply Bel.drewN | with_reducible exact Below.refl _ _)⟩
  have ha := hb rfl
  clear hb
  go_wp2_with fail
  refine (wf_any _ _ B hD _).mono ?_
  rintro e w' ⟨⟨b, rfl, hb⟩, rfl⟩
  cases b
  · go_wp2
    go_ret
    exact ⟨rfl, by repeat (first | with_reducible apply Bel.alloc | with_reducible apply Bel.drewN | with_reducible exact Below.refl _ _)⟩
  have hb := hb rfl
  obtain ⟨m, rfl⟩ := Int.eq_ofNat_of_zero_le ha.lo
  obtain ⟨n, rfl⟩ := Int.eq_ofNat_of_zero_le hb.lo
  have hm8 : m ≤ 8 := by have := ha.hi; omega
  have hn8 : n ≤ 8 := by have := hb.hi; omega
  have HS : Hid (cmpTop A B 8 = cmpI A m B n) := cmpI_is_sign ha hb (fun k => (hC.bound k).1) (fun k => (hD.bound k).1)
  go_wp2_with fail
  go_region_held3 (fun w' => w'.cell? ⟨w.heap.size, 0, none⟩ = some (.int .u64 (A[0]?.getD 0)) ∧ w'.cell? ⟨w.heap.size, 1, none⟩ = some (.int .u64 (A[1]?.getD 0)) ∧ w'.cell? ⟨w.heap.size, 2, none⟩ = some (.int .u64 (A[2]?.getD 0)) ∧ w'.cell? ⟨w.heap.size, 3, none⟩ = some (.int .u64 (A[3]?.getD 0)) ∧ w'.cell? ⟨w.heap.size, 4, none⟩ = some (.int .u64 (A[4]?.getD 0)) ∧ w'.cell? ⟨w.heap.size, 5, none⟩ = some (.int .u64 (A[5]?.getD 0)) ∧ w'.cell? ⟨w.heap.size, 6, none⟩ = some (.int .u64 (A[6]?.getD 0)) ∧ w'.cell? ⟨w.heap.size, 7, none⟩ = some (.int .u64 (A[7]?.getD 0)) ∧ w'.cell? ⟨w.heap.size + 1, 0, none⟩ = some (.int .u64 (B[0]?.getD 0)) ∧ w'.cell? ⟨w.heap.size + 1, 1, none⟩ = some (.int .u64 (B[1]?.getD 0)) ∧ w'.cell? ⟨w.heap.size + 1, 2, none⟩ = some (.int .u64 (B[2]?.getD 0)) ∧ w'.cell? ⟨w.heap.size + 1, 3, none⟩ = some (.int .u64 (B[3]?.getD 0)) ∧ w'.cell? ⟨w.heap.size + 1, 4, none⟩ = some (.int .u64 (B[4]?.getD 0)) ∧ w'.cell? ⟨w.heap.size + 1, 5, none⟩ = some (.int .u64 (B[5]?.getD 0)) ∧ w'.cell? ⟨w.heap.size + 1, 6, none⟩ = some (.int .u64 (B[6]?.getD 0)) ∧ w'.cell? ⟨w.heap.size + 1, 7, none⟩ = some (.int .u64 (B[7]?.getD 0))) (simp [go_sem, World.cell?_alloc_past])
    (first
      | (go_at_call 8; refine (zz_any _ _ A B hC hD m n _ hm8 hn8).mono ?_; rintro e w' ⟨rfl, o1, o2, o3, o4, q, rfl⟩)
      | (go_at_call 9; refine (sign_any _ _ A B hC hD _).mono ?_; rintro e w' ⟨rfl, q, rfl⟩))
  go_wp2
  go_ret
  refine ⟨?_, by repeat (first | with_reducible apply Bel.alloc | with_reducible apply Bel.drewN | with_reducible exact Below.refl _ _)⟩
  show Ending.returned (.bool (cmpI A m B n == cmpTop A B 8)) = _
  rw [HS.out]
  simp
end Go.Proofs.Qxb6601525a
