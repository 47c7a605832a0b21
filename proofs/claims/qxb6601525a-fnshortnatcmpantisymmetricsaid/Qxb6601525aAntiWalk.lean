import Derived.Test.Qxb6601525aNatCalls
namespace Go.Proofs.Qxb6601525a
open Go.RowKit

set_option maxHeartbeats 2000000 in
theorem anti_walk (C D : Array Value) (A B : List Int) (hC : Words C A) (hD : Words D B) (an bn : Int) (w : World) :
    Calls Try.prog 4 #[.agg C, .int .i64 an, .agg D, .int .i64 bn] w fun e w' => e = .returned (.bool true) ∧ Below w.heap.size w w' := by
  obtain rfl := hC.lit
  obtain rfl := hD.lit
  go_enter Try.func4, Try.ntmps4
  go_wp2_with fail
  refine (wf_any _ _ A hC _).mono ?_
  rintro e w' ⟨⟨b, rfl, hb⟩, rfl⟩
  cases b
  · go_wp2
    go_ret
    exact ⟨rfl, by repeat (first | with_reducible apply Bel.alloc | with_reducible apply Bel.drewN | with_reducible exact Below.refl _ _)⟩
  have ha := hb rfl
  clear hb
  go_wp2_with fail
  refine (wf_any _ _ B hD _).mono ?_
  rintro e w' ⟨⟨b, rfl, hb⟩, rfl⟩
  cases b
  · go_wp2
    go_ret
    exact ⟨rfl, by repeat (first | with_reducible apply Bel.alloc | with_reducible apply Bel.drewN | with_reducible exact Below.refl _ _)⟩
  have hb := hb rfl
  obtain ⟨m, rfl⟩ := Int.eq_ofNat_of_zero_le ha.lo
  obtain ⟨n, rfl⟩ := Int.eq_ofNat_of_zero_le hb.lo
  have hm8 : m ≤ 8 := by have := ha.hi; omega
  have hn8 : n ≤ 8 := by have := hb.hi; omega
  have H0 : Hid (cmpI A m A m = 0) := cmpI_self A m
  have HZ : Hid (cmpI A m B n = 0 → m = n ∧ A = B) := cmpI_zero ha hb hC.len hD.len
  have HN : Hid (cmpI B n A m = - cmpI A m B n) := cmpI_anti A m B n
  rcases cmpI_range A m B n with h | h | h
  · have HAB : Hid (cmpI A m B n = -1) := h
    have HBA : Hid (cmpI B n A m = 1) := by have h1 := HN.out; show cmpI B n A m = 1; omega
    clear h HN
    have HX : Hid (m = n → A ≠ B) := fun e1 e2 => by
      have := HAB.out
      rw [e1, e2, cmpI_self] at this
      omega
    go_wp2_with fail
    refine (zz_any _ _ A B hC hD m n _ hm8 hn8).mono ?_
    rintro e w' ⟨he, o1, o2, o3, o4, q, rfl⟩
    rw [HAB.out] at he
    subst he
    go_wp2_with fail
    refine (zz_any _ _ B A hD hC n m _ hn8 hm8).mono ?_
    rintro e w' ⟨he, p1, p2, p3, p4, q', rfl⟩
    rw [HBA.out] at he
    subst he
    go_wp2_with fail
    refine (zz_any _ _ A A hC hC m m _ hm8 hm8).mono ?_
    rintro e w' ⟨he, r1, r2, r3, r4, q'', rfl⟩
    rw [H0.out] at he
    subst he
    by_cases hmn : m = n
    · subst hmn
      have hne := equal8_ne hC hD (HX.out rfl)
      go_wp2
      go_ret
      exact ⟨rfl, by repeat (first | with_reducible apply Bel.alloc | with_reducible apply Bel.drewN | with_reducible exact Below.refl _ _)⟩
    · have hf : ((m : Int) == (n : Int)) = false := beq_eq_false_iff_ne.2 (by omega)
      go_wp2
      go_ret
      exact ⟨rfl, by repeat (first | with_reducible apply Bel.alloc | with_reducible apply Bel.drewN | with_reducible exact Below.refl _ _)⟩

  · have HAB : Hid (cmpI A m B n = 0) := h
    have HBA : Hid (cmpI B n A m = 0) := by have h1 := HN.out; show cmpI B n A m = 0; omega
    clear h HN
    obtain ⟨rfl, rfl⟩ := HZ.out HAB.out
    have hsame := equal8_same hC
    go_wp2_with fail
    refine (zz_any _ _ A A hC hC m m _ hm8 hm8).mono ?_
    rintro e w' ⟨he, o1, o2, o3, o4, q, rfl⟩
    rw [H0.out] at he
    subst he
    go_wp2_with fail
    refine (zz_any _ _ A A hC hC m m _ hm8 hm8).mono ?_
    rintro e w' ⟨he, p1, p2, p3, p4, q', rfl⟩
    rw [H0.out] at he
    subst he
    go_wp2_with fail
    refine (zz_any _ _ A A hC hC m m _ hm8 hm8).mono ?_
    rintro e w' ⟨he, r1, r2, r3, r4, q'', rfl⟩
    rw [H0.out] at he
    subst he
    have hf : ((m : Int) == (m : Int)) = true := beq_iff_eq.2 rfl
    go_wp2
    go_ret
    exact ⟨rfl, by repeat (first | with_reducible apply Bel.alloc | with_reducible apply Bel.drewN | with_reducible exact Below.refl _ _)⟩

  · have HAB : Hid (cmpI A m B n = 1) := h
    have HBA : Hid (cmpI B n A m = -1) := by have h1 := HN.out; show cmpI B n A m = -1; omega
    clear h HN
    have HX : Hid (m = n → A ≠ B) := fun e1 e2 => by
      have := HAB.out
      rw [e1, e2, cmpI_self] at this
      omega
    go_wp2_with fail
    refine (zz_any _ _ A B hC hD m n _ hm8 hn8).mono ?_
    rintro e w' ⟨he, o1, o2, o3, o4, q, rfl⟩
    rw [HAB.out] at he
    subst he
    go_wp2_with fail
    refine (zz_any _ _ B A hD hC n m _ hn8 hm8).mono ?_
    rintro e w' ⟨he, p1, p2, p3, p4, q', rfl⟩
    rw [HBA.out] at he
    subst he
    go_wp2_with fail
    refine (zz_any _ _ A A hC hC m m _ hm8 hm8).mono ?_
    rintro e w' ⟨he, r1, r2, r3, r4, q'', rfl⟩
    rw [H0.out] at he
    subst he
    by_cases hmn : m = n
    · subst hmn
      have hne := equal8_ne hC hD (HX.out rfl)
      go_wp2
      go_ret
      exact ⟨rfl, by repeat (first | with_reducible apply Bel.alloc | with_reducible apply Bel.drewN | with_reducible exact Below.refl _ _)⟩
    · have hf : ((m : Int) == (n : Int)) = false := beq_eq_false_iff_ne.2 (by omega)
      go_wp2
      go_ret
      exact ⟨rfl, by repeat (first | with_reducible apply Bel.alloc | with_reducible apply Bel.drewN | with_reducible exact Below.refl _ _)⟩

end Go.Proofs.Qxb6601525a
