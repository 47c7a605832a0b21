import Derived.Test.Qxb6602089aBefore
namespace Go.Proofs.Qxb6602089a
open Go.RowKit

theorem all_plain {T : Tk} {n : Nat} {fixer : ByteArray} (h : fixer.toList = [] ∨ hasB (rolesTo T n) fixer = true) : rolesAll T n fixer = rolesTo T n := by
  unfold rolesAll
  rcases h with h | h
  · rw [if_pos h]
  · by_cases hf : fixer.toList = []
    · rw [if_pos hf]
    · rw [if_neg hf, if_pos h]
theorem all_fix {T : Tk} {n : Nat} {fixer : ByteArray} (h1 : fixer.toList ≠ []) (h2 : hasB (rolesTo T n) fixer = false) : rolesAll T n fixer = rolesTo T n ++ [fixer] := by
  unfold rolesAll
  rw [if_neg h1, h2]
  rfl

set_option maxRecDepth 20000 in
set_option maxHeartbeats 4000000 in
theorem law_core (name fixer : ByteArray) (a : Option Addr) (n c : Nat) (T : Tk) (w : World) (hn0 : n ≤ 9223372036854775807)
    (h8 : Hid (Calls Try.prog 8 #[.string name, .string fixer, .slice a n c] w fun e w' => BytesPost T n e ∧ w = w'))
    (h9 : Hid (Calls Try.prog 9 #[.string name, .string fixer, .slice a n c] w fun e w' => IntPost e ∧ w = w'))
    (h10 : Hid (n ≤ 4096 → Short T n → Calls Try.prog 10 #[.slice a n c] w fun e w' => CtPost w T n e w')) :
    Calls Try.prog 3 #[.string name, .string fixer, .slice a n c] w fun e w' => e = .returned (.bool true) ∧ Below w.heap.size w w' := by
  go_enter Try.func3, Try.ntmps3
  go_wp2_with fail
  refine h8.out.mono ?_
  rintro e w' ⟨⟨ok, rfl, hsh⟩, rfl⟩
  cases ok
  · go_wp2
    go_ret
    exact ⟨rfl, Below.refl _ _⟩
  have hshort := hsh rfl
  clear hsh
  go_wp2_with fail
  refine h9.out.mono ?_
  rintro e w' ⟨⟨v, rfl, hv0, hv1⟩, rfl⟩
  by_cases hv : 1048576 < v
  · go_wp2
    go_ret
    exact ⟨rfl, Below.refl _ _⟩
  by_cases hn : 4096 < n
  · go_wp2
    go_ret
    exact ⟨rfl, Below.refl _ _⟩
  go_wp2_with fail
  refine (h10.out (by omega) hshort).mono ?_
  rintro e w1 ⟨g, rfl, hg, hct, hgr1⟩
  go_wp2_with fail
  refine (def_core name fixer g n T w1 (by omega) hct).mono ?_
  rintro e w2 ⟨g2, rfl, hg2, hct2, hgr2⟩
  have hct2a : CT (w2.alloc (.cells #[.string name, .string fixer, .slice (some ⟨g2, 0, none⟩) n n] 28)) g2 59 T n n := hct2.of (Below.heap_alloc _ _ _ hct2.lt)
  have hcta : CT (w2.alloc (.cells #[.string name, .string fixer, .slice (some ⟨g2, 0, none⟩) n n] 28)) g 33 T n n := (hct.of (hgr2.block g hct.lt (by simp))).of (Below.heap_alloc _ _ _ (Nat.lt_of_lt_of_le hct.lt hgr2.size))
  have hgra : w.grownBy (w2.alloc (.cells #[.string name, .string fixer, .slice (some ⟨g2, 0, none⟩) n n] 28)) none := Gr.alloc (Gr.trans hgr1 hgr2) _
  clear hct hct2 hgr1 hgr2 hshort h8 h9 h10
  go_wp2_with fail
  refine (agent_core name fixer g2 n T _ (by omega) hct2a).mono ?_
  rintro e w5 ⟨gv, rfl, hrow, hgr5⟩
  have hct5 : CT w5 g 33 T n n := hcta.of (hgr5.block g hcta.lt (by simp))
  have hgrw : w.grownBy w5 none := Gr.trans hgra hgr5
  have hbel : Below w.heap.size w w5 := (Below.refl _ _).grown hgrw (Nat.le_refl _) (by simp)
  clear hct2a hcta hgra hgr5 hgrw
  have q30 : ∀ (w : World) (a : Option Addr) (n c n' c' : Nat), (binOp .eql 30 (.slice a n c) (.slice none n' c')).run Try.prog w = .ok (.bool a.isNone) w := fun w a n c n' c' => Lib.run_eql_slice_nil w 30 9 a n c n' c' Try.underlying30
  rcases hrow with ⟨hR, rfl⟩ | ⟨gr, cr, hR, rfl, hcells⟩
  · have HRN : Hid (rolesAll T n fixer = []) := hR
    clear hR
    go_wp2_with fail
    go_loopw [9, 10] (fun cn i wr => ∃ k q : Nat, k ≤ n ∧ i = .int .i64 k ∧ cn = .int .i64 (rolesTo T k).length ∧ wr = w5.drewN q) (fun _ i _ => n - (intOf i).toNat)
    case atStart => exact ⟨0, 0, Nat.zero_le _, rfl, rfl, rfl⟩
    case round =>
      obtain ⟨k, q, hk, rfl, rfl, rfl⟩ := hrel
      by_cases hlt : k < n
      · have c0 := hct5.ro hlt
        have c1 := hct5.ki hlt
        have hlen := rolesTo_le T k
        have hkn : (k : Int) < n := by omega
        cases hag : isAg (T.ki k)
        · have hag' : ((T.ki k).toList == [97, 103, 101, 110, 116]) = false := hag
          have HR : Hid (rolesTo T (k + 1) = rolesTo T k) := rolesTo_no hag
          clear hag
          go_wp2_with fail
          go_roundw
          case rel => exact ⟨k + 1, q, by omega, by go_num, by rw [HR.out], rfl⟩
          case measure => simp [intOf]; omega
        · have hag' : ((T.ki k).toList == [97, 103, 101, 110, 116]) = true := hag
          cases hhas : hasB (rolesTo T k) (T.ro k)
          · exfalso
            have h1 := (all_at (fixer := fixer) hlt hag hhas).1
            rw [HRN.out] at h1
            simp at h1
          · have HR : Hid (rolesTo T (k + 1) = rolesTo T k) := rolesTo_has hhas
            have hcon := before_core g n k T (T.ro k) (w5.drewN q) (by omega) (by omega) hct5
            rw [before_has, hhas] at hcon
            clear hag hhas
            go_wp2_with fail
            refine hcon.mono ?_
            rintro e w' ⟨rfl, rfl⟩
            clear hcon
            go_wp2_with fail
            go_roundw
            case rel => exact ⟨k + 1, q, by omega, by go_num, by rw [HR.out], rfl⟩
            case measure => simp [intOf]; omega
      · obtain rfl : n = k := by omega
        have hlen := rolesTo_le T n
        have hfe : fixer.toList = [] := by
          by_cases hf : fixer.toList = []
          · exact hf
          · exfalso
            have hh := HRN.out
            cases hb : hasB (rolesTo T n) fixer
            · rw [all_fix hf hb] at hh; simp at hh
            · rw [all_plain (.inr hb)] at hh
              rw [hh] at hb
              cases hb
        have h0 : (rolesTo T n).length = 0 := by
          have hh := HRN.out
          rw [all_plain (.inl hfe)] at hh
          rw [hh]; rfl
        rw [h0]
        go_wp2_with fail
        go_ret
        exact ⟨rfl, hbel.trans ⟨rfl, rfl, rfl, Nat.le_refl _, fun _ _ => rfl⟩⟩
  · go_wp2_with fail
    have HC : Hid (∀ j : Nat, j < (rolesAll T n fixer).length → w5.cell? ⟨gr, j, none⟩ = some (.string ((rolesAll T n fixer).getD j ⟨#[]⟩))) := hcells
    clear hcells
    go_loopw [9, 10] (fun cn i wr => ∃ k q : Nat, k ≤ n ∧ i = .int .i64 k ∧ cn = .int .i64 (rolesTo T k).length ∧ wr = w5.drewN q) (fun _ i _ => n - (intOf i).toNat)
    case atStart => exact ⟨0, 0, Nat.zero_le _, rfl, rfl, rfl⟩
    case round =>
      obtain ⟨k, q, hk, rfl, rfl, rfl⟩ := hrel
      by_cases hlt : k < n
      · have c0 := hct5.ro hlt
        have c1 := hct5.ki hlt
        have hlen := rolesTo_le T k
        have hkn : (k : Int) < n := by omega
        cases hag : isAg (T.ki k)
        · have hag' : ((T.ki k).toList == [97, 103, 101, 110, 116]) = false := hag
          have HR : Hid (rolesTo T (k + 1) = rolesTo T k) := rolesTo_no hag
          clear hag
          go_wp2_with fail
          go_roundw
          case rel => exact ⟨k + 1, q, by omega, by go_num, by rw [HR.out], rfl⟩
          case measure => simp [intOf]; omega
        · have hag' : ((T.ki k).toList == [97, 103, 101, 110, 116]) = true := hag
          cases hhas : hasB (rolesTo T k) (T.ro k)
          · have HR : Hid (rolesTo T (k + 1) = rolesTo T k ++ [T.ro k]) := rolesTo_new hag hhas
            obtain ⟨hl1, hl2⟩ := all_at (fixer := fixer) hlt hag hhas
            have cg := HC.out _ hl1
            rw [hl2] at cg
            have hl1' : ¬ (((rolesAll T n fixer).length : Int) ≤ (rolesTo T k).length) := by omega
            have hl1b : decide (((rolesAll T n fixer).length : Int) ≤ (rolesTo T k).length) = false := by simpa using hl1'
            have hl1c : ((rolesTo T k).length : Int) < (rolesAll T n fixer).length := by omega
            have hsame : ((T.ro k).toList != (T.ro k).toList) = false := by simp
            have hcon := before_core g n k T (T.ro k) (w5.drewN q) (by omega) (by omega) hct5
            rw [before_has, hhas] at hcon
            clear hag hhas hl2
            go_wp2_with fail
            refine hcon.mono ?_
            rintro e w' ⟨rfl, rfl⟩
            clear hcon
            go_wp2_with fail
            go_quiet (fail)
            go_wp2_with fail
            go_roundw
            case rel => exact ⟨k + 1, _, by omega, by go_num, by rw [HR.out, List.length_append]; go_num, rfl⟩
            case measure => simp [intOf]; omega
          · have HR : Hid (rolesTo T (k + 1) = rolesTo T k) := rolesTo_has hhas
            have hcon := before_core g n k T (T.ro k) (w5.drewN q) (by omega) (by omega) hct5
            rw [before_has, hhas] at hcon
            clear hag hhas
            go_wp2_with fail
            refine hcon.mono ?_
            rintro e w' ⟨rfl, rfl⟩
            clear hcon
            go_wp2_with fail
            go_roundw
            case rel => exact ⟨k + 1, q, by omega, by go_num, by rw [HR.out], rfl⟩
            case measure => simp [intOf]; omega
      · obtain rfl : n = k := by omega
        have hlen := rolesTo_le T n
        have hpos : (rolesAll T n fixer).length ≠ 0 := fun h => hR (List.length_eq_zero_iff.1 h)
        by_cases hfe : fixer.toList = []
        · have e1 : (rolesAll T n fixer).length = (rolesTo T n).length := by rw [all_plain (.inl hfe)]
          have hz : (((rolesTo T n).length : Int) == 0) = false := beq_eq_false_iff_ne.2 (by omega)
          have hq : (((rolesTo T n).length : Int) != ((rolesTo T n).length : Int)) = false := by simp
          rw [e1]
          clear e1
          go_wp2_with fail
          go_ret
          exact ⟨rfl, hbel.trans ⟨rfl, rfl, rfl, Nat.le_refl _, fun _ _ => rfl⟩⟩
        · have hfe1 : fixer.toList.isEmpty = false := by simpa using hfe
          cases hhas : hasB (rolesTo T n) fixer
          · have e1 : (rolesAll T n fixer).length = (rolesTo T n).length + 1 := by rw [all_fix hfe hhas]; simp
            have cg := HC.out (rolesTo T n).length (by omega)
            have e2 : (rolesAll T n fixer).getD (rolesTo T n).length ⟨#[]⟩ = fixer := by rw [all_fix hfe hhas]; simp [List.getD]
            rw [e2] at cg
            have hz : (((rolesTo T n).length : Int) + 1 == 0) = false := beq_eq_false_iff_ne.2 (by omega)
            have hq : (((rolesTo T n).length : Int) + 1 != ((rolesTo T n).length : Int) + 1) = false := by simp
            have hsame : (fixer.toList != fixer.toList) = false := by simp
            have hcon := before_core g n n T fixer (w5.drewN q) (by omega) (Nat.le_refl _) hct5
            rw [before_has, hhas] at hcon
            rw [e1]
            clear e1 e2 hhas hpos
            go_wp2_with fail
            refine hcon.mono ?_
            rintro e w' ⟨rfl, rfl⟩
            clear hcon
            go_wp2_with fail
            go_ret
            exact ⟨rfl, hbel.trans ⟨rfl, rfl, rfl, Nat.le_refl _, fun _ _ => rfl⟩⟩
          · have e1 : (rolesAll T n fixer).length = (rolesTo T n).length := by rw [all_plain (.inr hhas)]
            have hz : (((rolesTo T n).length : Int) == 0) = false := beq_eq_false_iff_ne.2 (by omega)
            have hq : (((rolesTo T n).length : Int) != ((rolesTo T n).length : Int)) = false := by simp
            have hcon := before_core g n n T fixer (w5.drewN q) (by omega) (Nat.le_refl _) hct5
            rw [before_has, hhas] at hcon
            rw [e1]
            clear e1 hhas hpos
            go_wp2_with fail
            refine hcon.mono ?_
            rintro e w' ⟨rfl, rfl⟩
            clear hcon
            go_wp2_with fail
            go_ret
            exact ⟨rfl, hbel.trans ⟨rfl, rfl, rfl, Nat.le_refl _, fun _ _ => rfl⟩⟩
end Go.Proofs.Qxb6602089a
