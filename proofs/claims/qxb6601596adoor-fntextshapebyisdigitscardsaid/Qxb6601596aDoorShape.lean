import Derived.Test.Qxb6601596aDoorLaw
namespace Go.Proofs.Qxb6601596aDoor
open Go.RowKit

theorem ofNat_digit {d : Nat} (h : d < 10) : (UInt8.ofNat (48 + d)).toNat = 48 + d := by
  rw [UInt8.toNat_ofNat']
  omega

theorem decDigits_digs (u : Nat) : Digs (Lib.decDigits u) := by
  induction u using Nat.strongRecOn with
  | _ u ih =>
    by_cases h : u < 10
    · rw [Lib.decDigits, dif_pos h]
      refine ⟨by simp, fun x hx => ?_⟩
      rw [List.mem_singleton] at hx
      subst hx
      rw [ofNat_digit h]
      omega
    · obtain ⟨h1, h2⟩ := ih (u / 10) (by omega)
      rw [Lib.decDigits, dif_neg h]
      refine ⟨by simp, fun x hx => ?_⟩
      rw [List.mem_append, List.mem_singleton] at hx
      rcases hx with hx | rfl
      · exact h2 x hx
      · rw [ofNat_digit (by omega)]
        omega

/-- No leading zero but in "0". -/
theorem decDigits_lead (u : Nat) : ∃ x r, Lib.decDigits u = x :: r ∧ (u = 0 ∨ x ≠ 48) := by
  induction u using Nat.strongRecOn with
  | _ u ih =>
    by_cases h : u < 10
    · rw [Lib.decDigits, dif_pos h]
      refine ⟨_, [], rfl, ?_⟩
      by_cases h0 : u = 0
      · exact .inl h0
      · refine .inr fun e => ?_
        have := congrArg UInt8.toNat e
        rw [ofNat_digit h] at this
        have h48 : (48 : UInt8).toNat = 48 := rfl
        omega
    · obtain ⟨x, r, h1, h2⟩ := ih (u / 10) (by omega)
      rw [Lib.decDigits, dif_neg h, h1]
      exact ⟨x, _, rfl, .inr (h2.resolve_left (by omega))⟩

theorem Digs.pad {D : List UInt8} (h : Digs D) (k : Nat) : Digs (List.replicate k 48 ++ D) := by
  refine ⟨by simp [h.1], fun x hx => ?_⟩
  rw [List.mem_append] at hx
  rcases hx with hx | hx
  · rw [(List.mem_replicate.1 hx).2]; decide
  · exact h.2 x hx

theorem shape_of {U : Int} {s p : Nat} {X : List UInt8} (hU0 : -9223372036854775808 ≤ U) (hU1 : U ≤ 9223372036854775807) (hs : s ≤ 18) (hsp : s ≤ p) (h : IsText U s p X) : ∃ I F, Shape U p X I F := by
  obtain ⟨Y, ⟨k, hY, hk⟩, hlt, rfl⟩ := h
  have hdd := decDigits_digs (mag U)
  have hYd : Digs Y := by rw [hY]; exact hdd.pad k
  have hlen := decDigits_len (mag_lt hU0 hU1)
  have hD0 : 0 < (Lib.decDigits (mag U)).length := List.length_pos_iff.2 hdd.1
  have hYl : Y.length = k + (Lib.decDigits (mag U)).length := by rw [hY, List.length_append, List.length_replicate]
  have hY20 : Y.length ≤ 20 := by omega
  -- a cut of Y of c digits, c > 0
  have hI : ∀ c, 0 < c → c ≤ Y.length → (k = 0 ∨ c = 1) → Digs (Y.take c) ∧ ((Y.take c).length = 1 ∨ ∃ x r, Y.take c = x :: r ∧ x ≠ 48) ∧ (Y.take c).length ≤ 20 := fun c hc0 hc1 hor => by
    refine ⟨⟨?_, fun x hx => hYd.2 x (List.mem_of_mem_take hx)⟩, ?_, by rw [List.length_take]; omega⟩
    · intro e
      have := congrArg List.length e
      rw [List.length_take, List.length_nil] at this
      omega
    · rcases hor with hor | hor
      · subst hor
        obtain ⟨x, r, h1, h2⟩ := decDigits_lead (mag U)
        rw [List.replicate_zero, List.nil_append] at hY
        rcases h2 with h2 | h2
        · left
          have h3 : Lib.decDigits 0 = [48] := by rw [Lib.decDigits]; rfl
          rw [h2, h3] at hY
          rw [List.length_take]
          rw [hY] at hc1 ⊢
          simp at hc1 ⊢
          omega
        · right
          obtain ⟨c', rfl⟩ : ∃ c', c = c' + 1 := ⟨c - 1, by omega⟩
          exact ⟨x, r.take c', by rw [hY, h1, List.take_succ_cons], h2⟩
      · left
        rw [List.length_take]
        omega
  by_cases hp : p = 0
  · subst hp
    obtain rfl : s = 0 := by omega
    have h1 := hI Y.length (by omega) (Nat.le_refl _) (by omega)
    rw [List.take_length] at h1
    exact ⟨Y, [], ⟨by simp, h1.1, fun h => absurd h (by omega), h1.2.1, h1.2.2⟩⟩
  · obtain ⟨h1, h2, h3⟩ := hI (Y.length - s) (by omega) (by omega) (by omega)
    refine ⟨Y.take (Y.length - s), Y.drop (Y.length - s) ++ List.replicate (p - s) 48, ⟨by rw [if_neg hp, if_neg hp], h1, fun _ => ⟨?_, ?_, fun x hx => ?_⟩, h2, h3⟩⟩
    · rw [List.length_append, List.length_drop, List.length_replicate]
      omega
    · intro e
      have := congrArg List.length e
      rw [List.length_append, List.length_drop, List.length_replicate, List.length_nil] at this
      omega
    · rw [List.mem_append] at hx
      rcases hx with hx | hx
      · exact hYd.2 x (List.mem_of_mem_drop hx)
      · rw [(List.mem_replicate.1 hx).2]; decide

set_option maxHeartbeats 1000000 in
theorem walk (U s p : Int) (bU : -9223372036854775808 ≤ U ∧ U ≤ 9223372036854775807) (w : World) (htab : PowTab w) :
    Calls Tryd.prog 5 #[.int .i64 U, .int .i64 s, .int .i64 p] w fun e w' => e = .returned (.bool true) ∧ Below w.heap.size w w' := by
  by_cases h1 : 0 ≤ s ∧ s ≤ 18
  · by_cases h2 : s ≤ p ∧ p ≤ 65536
    · obtain ⟨s', rfl⟩ : ∃ n : Nat, s = n := ⟨s.toNat, by omega⟩
      obtain ⟨p', rfl⟩ : ∃ n : Nat, p = n := ⟨p.toNat, by omega⟩
      exact law_in U s' p' (by omega) (by omega) (by omega) (by omega) (by omega) w htab (fun X hX => shape_of (by omega) (by omega) (by omega) (by omega) hX)
    · clear bU htab
      by_cases h3 : p < s
      · go_enter Tryd.func5, Tryd.ntmps5
        go_wp2
        go_ret
        exact ⟨rfl, Below.refl _ _⟩
      · have h4 : 65536 < p := by omega
        go_enter Tryd.func5, Tryd.ntmps5
        go_wp2
        go_ret
        exact ⟨rfl, Below.refl _ _⟩
  · clear bU htab
    by_cases h3 : s < 0
    · go_enter Tryd.func5, Tryd.ntmps5
      go_wp2
      go_ret
      exact ⟨rfl, Below.refl _ _⟩
    · have h4 : 18 < s := by omega
      go_enter Tryd.func5, Tryd.ntmps5
      go_wp2
      go_ret
      exact ⟨rfl, Below.refl _ _⟩
end Go.Proofs.Qxb6601596aDoor
