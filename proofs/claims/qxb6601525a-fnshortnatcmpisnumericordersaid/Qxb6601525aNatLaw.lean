import Derived.Test.Qxb6601525aNatWalks
namespace Go.Proofs.Qxb6601525a
open Go.RowKit

theorem cmpTop_self (A : List Int) : ∀ k, cmpTop A A k = 0
  | 0 => rfl
  | k + 1 => by simp [cmpTop, cmpTop_self A k]
theorem cmpTop_range (A B : List Int) : ∀ k, cmpTop A B k = -1 ∨ cmpTop A B k = 0 ∨ cmpTop A B k = 1
  | 0 => .inr (.inl rfl)
  | k + 1 => by
    unfold cmpTop
    by_cases h1 : A[k]?.getD 0 = B[k]?.getD 0
    · rw [if_pos h1]; exact cmpTop_range A B k
    · rw [if_neg h1]
      by_cases h2 : A[k]?.getD 0 < B[k]?.getD 0
      · rw [if_pos h2]; exact .inl rfl
      · rw [if_neg h2]; exact .inr (.inr rfl)
theorem cmpTop_anti (A B : List Int) : ∀ k, cmpTop B A k = - cmpTop A B k
  | 0 => rfl
  | k + 1 => by
    have ih := cmpTop_anti A B k
    unfold cmpTop
    by_cases h1 : A[k]?.getD 0 = B[k]?.getD 0
    · rw [if_pos h1, if_pos h1.symm]; exact ih
    · rw [if_neg h1, if_neg (fun h => h1 h.symm)]
      by_cases h2 : A[k]?.getD 0 < B[k]?.getD 0
      · rw [if_pos h2, if_neg (by omega)]; rfl
      · rw [if_neg h2, if_pos (by omega)]
theorem cmpTop_zero (A B : List Int) : ∀ k, cmpTop A B k = 0 → ∀ j, j < k → A[j]?.getD 0 = B[j]?.getD 0
  | 0, _, j, hj => by omega
  | k + 1, h, j, hj => by
    unfold cmpTop at h
    by_cases h1 : A[k]?.getD 0 = B[k]?.getD 0
    · rw [if_pos h1] at h
      by_cases e : j = k
      · rw [e]; exact h1
      · exact cmpTop_zero A B k h j (by omega)
    · rw [if_neg h1] at h
      by_cases h2 : A[k]?.getD 0 < B[k]?.getD 0
      · rw [if_pos h2] at h; omega
      · rw [if_neg h2] at h; omega

theorem cmpI_self (A : List Int) (a : Nat) : cmpI A a A a = 0 := by simp [cmpI, cmpTop_self]
theorem cmpI_range (A : List Int) (a : Nat) (B : List Int) (b : Nat) : cmpI A a B b = -1 ∨ cmpI A a B b = 0 ∨ cmpI A a B b = 1 := by
  unfold cmpI
  by_cases h : a = b
  · rw [if_pos h]; exact cmpTop_range _ _ _
  · rw [if_neg h]
    by_cases h2 : a < b
    · rw [if_pos h2]; exact .inl rfl
    · rw [if_neg h2]; exact .inr (.inr rfl)
theorem cmpI_anti (A : List Int) (a : Nat) (B : List Int) (b : Nat) : cmpI B b A a = - cmpI A a B b := by
  unfold cmpI
  by_cases h : a = b
  · subst h; rw [if_pos rfl, if_pos rfl]; exact cmpTop_anti _ _ _
  · rw [if_neg h, if_neg (fun e => h e.symm)]
    by_cases h2 : a < b
    · rw [if_pos h2, if_neg (by omega)]; rfl
    · rw [if_neg h2, if_pos (by omega)]

theorem ext8 {A B : List Int} (ha : A.length = 8) (hb : B.length = 8) (h : ∀ j, j < 8 → A[j]?.getD 0 = B[j]?.getD 0) : A = B := by
  apply List.ext_getElem (by omega)
  intro i h1 h2
  have := h i (by omega)
  simpa [List.getElem?_eq_getElem, h1, h2] using this
/-- The answer 0: the same count and the same words. -/
theorem cmpI_zero {A B : List Int} {a b : Nat} (hA : WF A a) (hB : WF B b) (la : A.length = 8) (lb : B.length = 8) (h : cmpI A a B b = 0) : a = b ∧ A = B := by
  unfold cmpI at h
  by_cases e : a = b
  · subst e
    rw [if_pos rfl] at h
    refine ⟨rfl, ext8 la lb fun j hj => ?_⟩
    by_cases hj' : j < a
    · exact cmpTop_zero A B a h j hj'
    · rw [hA.rest j (by simp; omega) hj, hB.rest j (by simp; omega) hj]
  · rw [if_neg e] at h
    by_cases h2 : a < b
    · rw [if_pos h2] at h; omega
    · rw [if_neg h2] at h; omega
end Go.Proofs.Qxb6601525a
