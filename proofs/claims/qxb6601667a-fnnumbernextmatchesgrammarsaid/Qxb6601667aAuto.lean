import Derived.Test.Qxb6601667aNext
namespace Go.Proofs.Qxb6601667a
open Go.RowKit

/-- The state behind k bytes. -/
def sta (S : List Int) : Nat → Int
  | 0 => 11
  | k + 1 => (nxt (sta S k) (S[k]?.getD 0)).1
/-- The first i bytes are taken, and lead to the state s. -/
structure At (S : List Int) (i : Nat) (s : Int) : Prop where
  acc : ∀ j : Nat, j < i → (nxt (sta S j) (S[j]?.getD 0)).2 = true
  eq : sta S i = s
theorem At.start (S : List Int) : At S 0 11 := ⟨fun j h => by omega, rfl⟩
theorem At.step {S : List Int} {i : Nat} {s s' : Int} (h : At S i s) (hn : nxt s (S[i]?.getD 0) = (s', true)) : At S (i + 1) s' := by
  refine ⟨fun j hj => ?_, ?_⟩
  · by_cases e : j = i
    · rw [e, h.eq, hn]
    · exact h.acc j (by omega)
  · show (nxt (sta S i) (S[i]?.getD 0)).1 = s'
    rw [h.eq, hn]
/-- The automaton stands at i, of n bytes, in state s, and goes no further. -/
structure Final (S : List Int) (n i : Nat) (s : Int) : Prop where
  at_ : At S i s
  le : i ≤ n
  stuck : i < n → (nxt s (S[i]?.getD 0)).2 = false
  lo : 11 ≤ s
  hi : s ≤ 18
theorem Final.not_lt {S : List Int} {n i k : Nat} {s t : Int} (h : Final S n i s) (h' : Final S n k t) : ¬ i < k := fun hlt => by
  have h1 := h'.at_.acc i hlt
  have h2 := h.stuck (by have := h'.le; omega)
  rw [h.at_.eq, h2] at h1
  cases h1
theorem Final.unique {S : List Int} {n i k : Nat} {s t : Int} (h : Final S n i s) (h' : Final S n k t) : i = k ∧ s = t := by
  have e : i = k := by have h1 := h.not_lt h'; have h2 := h'.not_lt h; omega
  subst e
  exact ⟨rfl, h.at_.eq.symm.trans h'.at_.eq⟩

/-! the automaton's steps, by the byte -/
/-- A decimal digit. -/
def dig (c : Int) : Bool := decide (48 ≤ c ∧ c ≤ 57)
theorem dig_bounds {c : Int} (h : dig c = true) : 48 ≤ c ∧ c ≤ 57 := by simpa [dig] using h
theorem dig_not {c : Int} (h : dig c = false) : c < 48 ∨ 57 < c := by
  have := of_decide_eq_false h
  omega
theorem nx_zero {c : Int} (h : c = 48) : nxt 11 c = (15, true) := by subst h; decide
theorem nx_first {c : Int} (h0 : c ≠ 48) (h : dig c = true) : nxt 11 c = (16, true) := by
  have := dig_bounds h
  simp [nxt, this, h0]
theorem nx_none {c : Int} (h : dig c = false) : (nxt 11 c).2 = false := by
  have := dig_not h
  unfold nxt
  repeat' split
  all_goals first | rfl | (exfalso; omega)
theorem nx_int {c : Int} (h : dig c = true) : nxt 16 c = (16, true) := by
  have := dig_bounds h
  simp [nxt, this]
theorem nx_point {s c : Int} (hs : s = 15 ∨ s = 16) (h : c = 46) : nxt s c = (12, true) := by
  subst h
  rcases hs with rfl | rfl <;> decide
theorem nx_frac {s c : Int} (hs : s = 12 ∨ s = 17) (h : dig c = true) : nxt s c = (17, true) := by
  have := dig_bounds h
  rcases hs with rfl | rfl <;> simp [nxt, this]
theorem nx_nofrac {c : Int} (h : dig c = false) : (nxt 12 c).2 = false := by
  have := dig_not h
  unfold nxt
  repeat' split
  all_goals first | rfl | (exfalso; omega)
theorem nx_mark {s c : Int} (hs : s = 15 ∨ s = 16 ∨ s = 17) (h : c = 101 ∨ c = 69) : nxt s c = (13, true) := by
  rcases hs with rfl | rfl | rfl <;> rcases h with rfl | rfl <;> decide
theorem nx_sign {c : Int} (h : c = 43 ∨ c = 45) : nxt 13 c = (14, true) := by
  rcases h with rfl | rfl <;> decide
theorem nx_exp {s c : Int} (hs : s = 13 ∨ s = 14 ∨ s = 18) (h : dig c = true) : nxt s c = (18, true) := by
  have := dig_bounds h
  rcases hs with rfl | rfl | rfl <;> simp [nxt, this]
theorem nx_noexp {s c : Int} (hs : s = 13 ∨ s = 14) (hn : s = 13 → ¬ (c = 43 ∨ c = 45)) (h : dig c = false) : (nxt s c).2 = false := by
  have := dig_not h
  unfold nxt
  repeat' split
  all_goals first | rfl | (exfalso; omega)
theorem nx_expend {c : Int} (h : dig c = false) : (nxt 18 c).2 = false := by
  have := dig_not h
  unfold nxt
  repeat' split
  all_goals first | rfl | (exfalso; omega)
/-- A whole number ends: no digit (but behind a leading zero any digit), no point (but behind a fraction), no exponent's mark. -/
theorem nx_end {s c : Int} (hs : s = 15 ∨ s = 16 ∨ s = 17) (hd : s ≠ 15 → dig c = false) (hp : s ≠ 17 → c ≠ 46) (he : ¬ (c = 101 ∨ c = 69)) : (nxt s c).2 = false := by
  have h1 : s ≠ 15 → c < 48 ∨ 57 < c := fun h => dig_not (hd h)
  unfold nxt
  repeat' split
  all_goals first | rfl | (exfalso; omega)

/-- What the scanner answers. -/
def PrePost (S : List Int) (n : Nat) (e : Ending) : Prop := ∃ (i : Nat) (s : Int) (b : Bool), e = .returned (.tuple #[.int .i64 i, .bool b]) ∧ Final S n i s ∧ b = decide (15 ≤ s)
theorem PrePost.yes {S : List Int} {n i : Nat} {s x : Int} (hx : x = (i : Int)) (h : At S i s) (hi : i ≤ n) (hs : 15 ≤ s) (hs' : s ≤ 18) (hst : i < n → (nxt s (S[i]?.getD 0)).2 = false) : PrePost S n (.returned (.tuple #[.int .i64 x, .bool true])) := by
  subst hx
  exact ⟨i, s, true, rfl, ⟨h, hi, hst, by omega, hs'⟩, by simp [hs]⟩
theorem PrePost.no {S : List Int} {n i : Nat} {s x : Int} (hx : x = (i : Int)) (h : At S i s) (hi : i ≤ n) (hs : 11 ≤ s) (hs' : s < 15) (hst : i < n → (nxt s (S[i]?.getD 0)).2 = false) : PrePost S n (.returned (.tuple #[.int .i64 x, .bool false])) := by
  subst hx
  exact ⟨i, s, false, rfl, ⟨h, hi, hst, hs, by omega⟩, by simp; omega⟩

set_option maxHeartbeats 400000 in
theorem digit_any (c : Int) (w : World) : Calls Try.prog 12 #[.int .u8 c] w fun e w' => e = .returned (.bool (dig c)) ∧ w = w' := by
  by_cases h1 : 48 ≤ c
  · by_cases h2 : c ≤ 57
    · have H : Hid (dig c = true) := by simp [Hid, dig, h1, h2]
      go_enter Try.func12, Try.ntmps12
      go_wp2
      go_ret
      exact ⟨by rw [H.out]; rfl, rfl⟩
    · have H : Hid (dig c = false) := by simp [Hid, dig, h2]
      go_enter Try.func12, Try.ntmps12
      go_wp2
      go_ret
      exact ⟨by rw [H.out]; rfl, rfl⟩
  · have H : Hid (dig c = false) := by simp [Hid, dig, h1]
    go_enter Try.func12, Try.ntmps12
    go_wp2
    go_ret
    exact ⟨by rw [H.out]; rfl, rfl⟩
end Go.Proofs.Qxb6601667a
