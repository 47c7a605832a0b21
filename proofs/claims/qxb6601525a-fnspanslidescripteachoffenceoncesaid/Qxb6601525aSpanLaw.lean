import Derived.Test.Qxb6601525aNewSpan
namespace Go.Proofs.Qxb6601525a
open Go.RowKit

/-- Sorted epochs: an earlier one is no greater. -/
theorem InDom.mono {E : List Int} {n : Nat} (h : InDom E n) {i : Nat} : ∀ d : Nat, i + d < n → E[i]?.getD 0 ≤ E[i + d]?.getD 0
  | 0, _ => Int.le_refl _
  | d + 1, hd => by
    have h1 := h.mono d (i := i) (by omega)
    have h2 := (h (i + (d + 1)) hd).2 (by omega)
    rw [show i + (d + 1) - 1 = i + d by omega] at h2
    omega
theorem InDom.le {E : List Int} {n i j : Nat} (h : InDom E n) (hij : i ≤ j) (hj : j < n) : E[i]?.getD 0 ≤ E[j]?.getD 0 := by
  have := h.mono (i := i) (j - i) (by omega)
  rwa [show i + (j - i) = j by omega] at this

/-- What holds ahead of round k: left l, entered e. -/
structure Inv (E : List Int) (n : Nat) (width : Int) (k l e : Nat) : Prop where
  lk : l ≤ k
  ke : k ≤ e
  en : e ≤ n
  inn : ∀ j : Nat, j < e → ∀ m : Nat, k ≤ m → m < n → E[j]?.getD 0 ≤ E[m]?.getD 0 + width
  gone : ∀ j : Nat, j < l → ∀ m : Nat, k ≤ m → m < n → E[j]?.getD 0 + width < E[m]?.getD 0

theorem Inv.start (E : List Int) (n : Nat) (width : Int) : Inv E n width 0 0 0 := ⟨Nat.le_refl _, Nat.le_refl _, Nat.zero_le _, fun j h => by omega, fun j h => by omega⟩

/-- What the round's tests ask. -/
structure Tests (E : List Int) (n : Nat) (width : Int) (k l e : Nat) : Prop where
  lk : l ≤ k
  ke : k < e
  en : e ≤ n
  t1 : E[k]?.getD 0 ≤ E[l]?.getD 0 + width
  t2 : E[e - 1]?.getD 0 ≤ E[k]?.getD 0 + width
  t3 : 0 < l → E[l - 1]?.getD 0 + width < E[k]?.getD 0
  t4 : e < n → E[k]?.getD 0 + width < E[e]?.getD 0

theorem Slid.tests {E : List Int} {n : Nat} {width : Int} {k l e l' e' : Nat} (hd : InDom E n) (hw : 0 ≤ width) (hk : k < n) (hi : Inv E n width k l e) (h : Slid E n width (E[k]?.getD 0) k l e l' e') : Tests E n width k l' e' ∧ Inv E n width (k + 1) l' e' := by
  have hee := h.ee
  have hen := h.en
  have hll := h.ll
  have hlk := h.lk
  have hke : k < e' := by
    by_cases hc : k < e'
    · exact hc
    · have h1 := h.out (by omega)
      have h2 := hd.le (show e' ≤ k by omega) hk
      omega
  have inn : ∀ j : Nat, j < e' → ∀ m : Nat, k ≤ m → m < n → E[j]?.getD 0 ≤ E[m]?.getD 0 + width := fun j hj m hm hmn => by
    have h2 := hd.le hm hmn
    by_cases hc : j < e
    · exact hi.inn j hc m hm hmn
    · have h1 := h.inn j (by omega) hj
      omega
  have gone : ∀ j : Nat, j < l' → ∀ m : Nat, k ≤ m → m < n → E[j]?.getD 0 + width < E[m]?.getD 0 := fun j hj m hm hmn => by
    have h2 := hd.le hm hmn
    by_cases hc : j < l
    · exact hi.gone j hc m hm hmn
    · have h1 := h.gone j (by omega) hj
      omega
  exact ⟨⟨hlk, hke, hen, h.stay, inn (e' - 1) (by omega) k (Nat.le_refl _) hk, fun hp => gone (l' - 1) (by omega) k (Nat.le_refl _) hk, h.out⟩,
    ⟨by omega, by omega, hen, fun j hj m hm hmn => inn j hj m (by omega) hmn, fun j hj m hm hmn => gone j hj m (by omega) hmn⟩⟩
end Go.Proofs.Qxb6601525a
