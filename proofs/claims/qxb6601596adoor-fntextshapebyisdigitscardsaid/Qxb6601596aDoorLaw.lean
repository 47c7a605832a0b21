import Derived.Test.Qxb6601596aDoorDigits
namespace Go.Proofs.Qxb6601596aDoor
open Go.RowKit

/-- The text's shape. -/
structure Shape (U : Int) (p : Nat) (X I F : List UInt8) : Prop where
  eq : X = sgn U ++ (I ++ (if p = 0 then [] else 46 :: F))
  int : Digs I
  frac : 0 < p → F.length = p ∧ Digs F
  lead : I.length = 1 ∨ ∃ x r, I = x :: r ∧ x ≠ 48
  short : I.length ≤ 20

theorem extract_list (L : List UInt8) (a b : Nat) : (⟨L.toArray⟩ : ByteArray).extract a b = ⟨((L.take b).drop a).toArray⟩ := by
  apply ByteArray.ext
  rw [ByteArray.data_extract]
  simp [List.extract_eq_take_drop, List.drop_take]
theorem size_list (L : List UInt8) : (⟨L.toArray⟩ : ByteArray).size = L.length := by simp [ByteArray.size]
theorem at_list (L : List UInt8) (k : Nat) (h : k < (⟨L.toArray⟩ : ByteArray).size) : (⟨L.toArray⟩ : ByteArray)[k] = L[k]'(by rwa [size_list] at h) := rfl
/-- The lead: one digit, or not a zero. -/
theorem lead_list {I : List UInt8} (h : I.length = 1 ∨ ∃ x r, I = x :: r ∧ x ≠ 48) {q : ByteArray} (hq : q = ⟨I.toArray⟩) : (q.size : Int) = 1 ∨ ∃ h0 : 0 < q.size, ((q[0]'h0).toNat : Int) ≠ 48 := by
  subst hq
  rcases h with h | ⟨x, r, rfl, hx⟩
  · exact .inl (by rw [size_list]; omega)
  · refine .inr ⟨by simp [size_list], fun h => hx ?_⟩
    have e2 : ∀ hh, ((⟨(x :: r).toArray⟩ : ByteArray)[0]'hh) = x := fun _ => rfl
    rw [e2] at h
    exact UInt8.toNat_inj.1 (by show x.toNat = 48; omega)

theorem Shape.first {U : Int} {p : Nat} {X I F : List UInt8} (h : Shape U p X I F) {t : ByteArray} (ht : t = ⟨X.toArray⟩) : ∃ h0 : 0 < t.size, (((t[0]'h0).toNat : Int) == 45) = decide (U < 0) := by
  subst ht
  obtain ⟨hne, hd⟩ := h.int
  cases hI : I with
  | nil => exact absurd hI hne
  | cons x r =>
    have hx := hd x (by rw [hI]; exact List.mem_cons_self)
    have heq := h.eq
    by_cases hU : U < 0
    · have e1 : X = 45 :: (I ++ (if p = 0 then [] else 46 :: F)) := by rw [heq]; unfold sgn; rw [if_pos hU]; rfl
      subst e1
      refine ⟨by simp [ByteArray.size], ?_⟩
      rw [decide_eq_true hU]
      rfl
    · have e1 : X = x :: (r ++ (if p = 0 then [] else 46 :: F)) := by rw [heq]; unfold sgn; rw [if_neg hU, hI]; rfl
      subst e1
      refine ⟨by simp [ByteArray.size], ?_⟩
      rw [decide_eq_false hU]
      have e2 : ∀ hh, ((⟨(x :: (r ++ (if p = 0 then [] else 46 :: F))).toArray⟩ : ByteArray)[0]'hh) = x := fun _ => rfl
      rw [e2, beq_eq_false_iff_ne]
      omega

set_option maxRecDepth 20000 in
set_option maxHeartbeats 4000000 in
theorem law_in (U : Int) (s p : Nat) (hU0 : -9223372036854775808 ≤ U) (hU1 : U ≤ 9223372036854775807) (hs : s ≤ 18) (hsp : s ≤ p) (hp : p ≤ 65536) (w : World) (htab : PowTab w)
    (hlaw : ∀ X, IsText U s p X → ∃ I F, Shape U p X I F) :
    Calls Tryd.prog 5 #[.int .i64 U, .int .i64 s, .int .i64 p] w fun e w' => e = .returned (.bool true) ∧ Below w.heap.size w w' := by
  have hzz := zztext_any U s p hU0 hU1 hs hsp hp w htab
  go_enter Tryd.func5, Tryd.ntmps5
  go_wp2_with fail
  refine hzz.mono ?_
  rintro e w1 ⟨⟨X, rfl, hX⟩, hbel⟩
  obtain ⟨I, F, hsh⟩ := hlaw X hX
  clear hzz hX hlaw htab
  obtain ⟨t, ht⟩ : ∃ t : ByteArray, t = ⟨X.toArray⟩ := ⟨_, rfl⟩
  rw [← ht]
  obtain ⟨R, hR⟩ : ∃ R, R = I ++ (if p = 0 then [] else 46 :: F) := ⟨_, rfl⟩
  have hXR : X = sgn U ++ R := by rw [hR]; exact hsh.eq
  have HT := Lib.hid ht
  have HR := Lib.hid hR
  have HXR := Lib.hid hXR
  clear ht hR hXR
  obtain ⟨ht0, h45⟩ := hsh.first HT.out
  obtain ⟨r, hr⟩ : ∃ r : ByteArray, r = ⟨R.toArray⟩ := ⟨_, rfl⟩
  have HRr := Lib.hid hr
  clear hr
  go_upto_region 6 with fail
  go_cut [8] (fun v wx => v = .bool (decide (U < 0)) ∧ w1 = wx)
  case first =>
    go_wp2_with fail
    go_meet
    case rel => exact ⟨rfl, rfl⟩
  case rest =>
    obtain ⟨rfl, rfl⟩ := hcut
    clear h45
    go_upto_if 45 with fail
    go_cut [9] (fun v wx => v = .string r ∧ w1 = wx)
    case first =>
      by_cases hneg : U < 0
      · have HE : Hid (t.extract 1 t.size = r) := by
          unfold Hid
          rw [HT.out, HRr.out, HXR.out, extract_list, size_list, List.take_length]
          unfold sgn
          rw [if_pos hneg]
          rfl
        go_wp2_with fail
        go_meet
        case rel => exact ⟨by rw [HE.out], rfl⟩
      · have HE : Hid (t = r) := by unfold Hid; rw [HT.out, HRr.out, HXR.out]; unfold sgn; rw [if_neg hneg]; rfl
        go_wp2_with fail
        go_meet
        case rel => exact ⟨by rw [HE.out], rfl⟩
    case rest =>
      obtain ⟨rfl, rfl⟩ := hcut
      clear ht0 HT HXR
      by_cases hp0 : p = 0
      · subst hp0
        have hRI : R = I := by rw [HR.out, if_pos rfl, List.append_nil]
        subst hRI
        have hsz : r.size = R.length := by rw [HRr.out, size_list]
        have hsh' := hsh.short
        have hpos : 0 < r.size := by rw [hsz]; exact List.length_pos_iff.2 hsh.int.1
        have H46 : Hid (∀ (k : Nat) (h : k < r.size), ((r[k].toNat : Int) == 46) = false) := fun k h => by
          have hd := hsh.int.2
          clear hsz hpos
          have e := HRr.out
          subst e
          rw [at_list, beq_eq_false_iff_ne]
          have := hd _ (List.getElem_mem (by rwa [size_list] at h))
          omega
        have hr1 : r.size ≤ 30 := by omega
        have HDg := fun w => (digits_any R hsh.int (by omega) w)
        rw [← HRr.out] at HDg
        have hlead := lead_list hsh.lead HRr.out
        clear hsz hsh hsh' HRr HR
        go_wp2_with fail
        go_loop [10, 11, 12] (fun d c i => d = .int .i64 (-1) ∧ c = .int .i64 0 ∧ ∃ k : Nat, i = .int .i64 k ∧ k ≤ r.size) (fun _ _ i => r.size - (intOf i).toNat)
        case atStart => exact ⟨rfl, rfl, 0, rfl, by omega⟩
        case round =>
          obtain ⟨rfl, rfl, k, rfl, hk⟩ := hrel
          by_cases hlt : (k : Int) < r.size
          · have h46 := H46.out k (by omega)
            go_wp2_with fail
            go_round
            case rel => exact ⟨rfl, rfl, k + 1, by go_num, by omega⟩
            case measure => simp [intOf]; omega
          · go_wp2_with fail
            refine (HDg _).mono ?_
            rintro e w2 ⟨rfl, rfl⟩
            rcases hlead with h | ⟨h0, h⟩
            · go_wp2
              go_ret
              exact ⟨rfl, hbel⟩
            · have HL : Hid (((r.size : Int) == 1 || (r[0].toNat : Int) != 48) = true) := by unfold Hid; simp [h]
              by_cases h1 : (r.size : Int) = 1
              · go_wp2
                go_ret
                exact ⟨rfl, hbel⟩
              · go_wp2
                go_ret
                exact ⟨by rw [← HL.out]; rfl, hbel⟩
      · have hp1 : 0 < p := by omega
        obtain ⟨hFl, hFd⟩ := hsh.frac hp1
        have hRI : R = I ++ 46 :: F := by rw [HR.out, if_neg hp0]
        subst hRI
        have hsh' := hsh.short
        obtain ⟨a, ha⟩ : ∃ a, a = I.length := ⟨_, rfl⟩
        have hsz : r.size = a + 1 + p := by rw [HRr.out, size_list, List.length_append, List.length_cons, hFl, ha]; omega
        have H46 : Hid (∀ (k : Nat) (h : k < r.size), ((r[k].toNat : Int) == 46) = decide (k = a)) := fun k h => by
          have hd := hsh.int.2
          have hd' := hFd.2
          clear hsz
          have e := HRr.out
          subst e
          rw [at_list]
          rw [size_list, List.length_append, List.length_cons] at h
          rcases Nat.lt_trichotomy k a with h1 | h1 | h1
          · rw [decide_eq_false (by omega), beq_eq_false_iff_ne, List.getElem_append_left (by omega)]
            have := hd _ (List.getElem_mem (l := I) (n := k) (by omega))
            omega
          · subst h1
            rw [decide_eq_true rfl, List.getElem_append_right (by omega)]
            simp [ha]
          · rw [decide_eq_false (by omega), beq_eq_false_iff_ne, List.getElem_append_right (by omega), List.getElem_cons]
            rw [dif_neg (by omega)]
            have := hd' _ (List.getElem_mem (l := F) (n := k - I.length - 1) (by omega))
            omega
        obtain ⟨q, hq⟩ : ∃ q : ByteArray, q = ⟨I.toArray⟩ := ⟨_, rfl⟩
        obtain ⟨f, hf⟩ : ∃ f : ByteArray, f = ⟨F.toArray⟩ := ⟨_, rfl⟩
        have e1 : r.extract 0 a = q := by rw [HRr.out, hq, extract_list, ha, List.take_left, List.drop_zero]
        have e2 : r.extract (a + 1) r.size = f := by
          rw [HRr.out, hf, extract_list, size_list, List.take_length, ha]
          congr 2
          rw [show I.length + 1 = I.length + (1 : Nat) from rfl, List.drop_length_add_append]
          rfl
        have hfs : f.size = p := by rw [hf, size_list, hFl]
        have hqs : q.size = a := by rw [hq, size_list, ha]
        have ha0 : 0 < a := by rw [ha]; exact List.length_pos_iff.2 hsh.int.1
        have hr1 : r.size ≤ 100000 := by omega
        have HDq := fun w => (digits_any I hsh.int (by omega) w)
        have HDf := fun w => (digits_any F hFd (by omega) w)
        rw [← hq] at HDq
        rw [← hf] at HDf
        have hlead := lead_list hsh.lead hq
        have ha20 : a ≤ 20 := by omega
        have HZ := Lib.hid hsz
        clear hsh hsh' HRr HR hq hf hFd hFl ha hsz
        go_wp2_with fail
        go_loop [10, 11, 12] (fun d c i => ∃ k : Nat, i = .int .i64 k ∧ k ≤ r.size ∧ ((k ≤ a ∧ d = .int .i64 (-1) ∧ c = .int .i64 0) ∨ (a < k ∧ d = .int .i64 a ∧ c = .int .i64 1))) (fun _ _ i => r.size - (intOf i).toNat)
        case atStart => exact ⟨0, rfl, by omega, .inl ⟨by omega, rfl, rfl⟩⟩
        case round =>
          obtain ⟨k, rfl, hk, hor⟩ := hrel
          by_cases hlt : (k : Int) < r.size
          · have h46 := H46.out k (by omega)
            rcases hor with ⟨h1, rfl, rfl⟩ | ⟨h1, rfl, rfl⟩
            · by_cases hka : k = a
              · subst hka
                rw [decide_eq_true rfl] at h46
                go_wp2_with fail
                go_round
                case rel => exact ⟨k + 1, by go_num, by omega, .inr ⟨by omega, rfl, rfl⟩⟩
                case measure => simp [intOf]; omega
              · rw [decide_eq_false hka] at h46
                go_wp2_with fail
                go_round
                case rel => exact ⟨k + 1, by go_num, by omega, .inl ⟨by omega, rfl, rfl⟩⟩
                case measure => simp [intOf]; omega
            · rw [decide_eq_false (by omega)] at h46
              go_wp2_with fail
              go_round
              case rel => exact ⟨k + 1, by go_num, by omega, .inr ⟨by omega, rfl, rfl⟩⟩
              case measure => simp [intOf]; omega
          · have hz := HZ.out
            obtain ⟨h1, rfl, rfl⟩ : a < k ∧ _ := by
              rcases hor with ⟨h1, _⟩ | h
              · omega
              · exact h
            have ha1 : (a : Int) ≤ r.size := by omega
            have ha2 : (a : Int) + 1 ≤ r.size := by omega
            clear hz
            go_wp2_with fail
            refine (HDf _).mono ?_
            rintro e w2 ⟨rfl, rfl⟩
            go_wp2_with fail
            refine (HDq _).mono ?_
            rintro e w3 ⟨rfl, rfl⟩
            rcases hlead with h | ⟨h0, h⟩
            · go_wp2
              go_ret
              exact ⟨rfl, hbel⟩
            · have HL : Hid (((a : Int) == 1 || (q[0].toNat : Int) != 48) = true) := by unfold Hid; simp [h]
              by_cases h1 : (q.size : Int) = 1
              · go_wp2
                go_ret
                exact ⟨rfl, hbel⟩
              · go_wp2
                go_ret
                exact ⟨by rw [← HL.out]; rfl, hbel⟩
end Go.Proofs.Qxb6601596aDoor
