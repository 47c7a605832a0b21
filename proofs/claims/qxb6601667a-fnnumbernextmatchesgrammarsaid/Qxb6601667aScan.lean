import Derived.Test.Qxb6601667aAuto
import Derived.Deep.DeepCutAuto
namespace Go.Proofs.Qxb6601667a
open Go.RowKit

/-- Behind the whole part: a lone zero, or digits that have ended. -/
def IntEnd (S : List Int) (n k : Nat) : Prop := ∃ s : Int, k ≤ n ∧ At S k s ∧ (s = 15 ∨ (s = 16 ∧ (k < n → dig (S[k]?.getD 0) = false)))
/-- Behind the fraction, if any. -/
def FracEnd (S : List Int) (n k : Nat) : Prop := ∃ s : Int, k ≤ n ∧ At S k s ∧ (s = 15 ∨ s = 16 ∨ s = 17) ∧ (k < n → (s ≠ 15 → dig (S[k]?.getD 0) = false) ∧ (s ≠ 17 → S[k]?.getD 0 ≠ 46))
/-- Behind the exponent's mark and sign. -/
def SignEnd (S : List Int) (n k : Nat) : Prop := ∃ s : Int, k ≤ n ∧ At S k s ∧ (s = 13 ∨ s = 14) ∧ (k < n → s = 13 → ¬ (S[k]?.getD 0 = 43 ∨ S[k]?.getD 0 = 45))
/-- Behind the whole number. -/
def NumEnd (S : List Int) (n k : Nat) : Prop := ∃ s : Int, k ≤ n ∧ At S k s ∧ 15 ≤ s ∧ s ≤ 18 ∧ (k < n → (nxt s (S[k]?.getD 0)).2 = false)
def ptAt (S : List Int) (n k : Nat) : Bool := decide (k < n ∧ S[k]?.getD 0 = 46)
def markAt (S : List Int) (n k : Nat) : Bool := decide (k < n ∧ (S[k]?.getD 0 = 101 ∨ S[k]?.getD 0 = 69))
def signAt (S : List Int) (n k : Nat) : Bool := decide (k < n ∧ (S[k]?.getD 0 = 43 ∨ S[k]?.getD 0 = 45))
theorem IntEnd.noFrac {S : List Int} {n k : Nat} (h : IntEnd S n k) (hp : ptAt S n k = false) : FracEnd S n k := by
  obtain ⟨s, h1, h2, h3⟩ := h
  have hp' := of_decide_eq_false hp
  refine ⟨s, h1, h2, by omega, fun hk => ⟨fun hs => ?_, fun _ h46 => hp' ⟨hk, h46⟩⟩⟩
  rcases h3 with h3 | ⟨_, h3⟩
  · exact absurd h3 hs
  · exact h3 hk
theorem IntEnd.point {S : List Int} {n k : Nat} (h : IntEnd S n k) (hp : ptAt S n k = true) : k < n ∧ At S (k + 1) 12 := by
  obtain ⟨s, h1, h2, h3⟩ := h
  have hp' := of_decide_eq_true hp
  exact ⟨hp'.1, h2.step (nx_point (by omega) hp'.2)⟩
theorem FracEnd.noExp {S : List Int} {n k : Nat} (h : FracEnd S n k) (hp : markAt S n k = false) : NumEnd S n k := by
  obtain ⟨s, h1, h2, h3, h4⟩ := h
  have hp' := of_decide_eq_false hp
  exact ⟨s, h1, h2, by omega, by omega, fun hk => nx_end h3 (h4 hk).1 (h4 hk).2 (fun he => hp' ⟨hk, he⟩)⟩
theorem FracEnd.mark {S : List Int} {n k : Nat} (h : FracEnd S n k) (hp : markAt S n k = true) : k < n ∧ At S (k + 1) 13 := by
  obtain ⟨s, h1, h2, h3, h4⟩ := h
  have hp' := of_decide_eq_true hp
  exact ⟨hp'.1, h2.step (nx_mark h3 hp'.2)⟩
theorem SignEnd.no {S : List Int} {n k : Nat} (h : At S k 13) (hk : k ≤ n) (hp : signAt S n k = false) : SignEnd S n k := by
  have hp' := of_decide_eq_false hp
  exact ⟨13, hk, h, .inl rfl, fun hk' _ hc => hp' ⟨hk', hc⟩⟩
theorem SignEnd.yes {S : List Int} {n k : Nat} (h : At S k 13) (hp : signAt S n k = true) : SignEnd S n (k + 1) := by
  have hp' := of_decide_eq_true hp
  exact ⟨14, by omega, h.step (nx_sign hp'.2), .inr rfl, fun _ h => by omega⟩
theorem NumEnd.post {S : List Int} {n k : Nat} (h : NumEnd S n k) : PrePost S n (.returned (.tuple #[.int .i64 k, .bool true])) := by
  obtain ⟨s, h1, h2, h3, h4, h5⟩ := h
  exact PrePost.yes rfl h2 h1 h3 h4 h5

set_option maxRecDepth 20000 in
set_option maxHeartbeats 4000000 in
theorem scan_any (g n c : Nat) (S : List Int) (w : World) (hn0 : 0 < n) (hn : n ≤ 1048576) (hS0 : ∀ i : Nat, i < n → w.cell? ⟨g, i, none⟩ = some (.int .u8 (S[i]?.getD 0))) :
    Calls Try.prog 9 #[.slice (some ⟨g, 0, none⟩) n c] w fun e w' => PrePost S n e ∧ w = w' := by
  have hn1 : ((n : Int) == 0) = false := beq_eq_false_iff_ne.2 (by omega)
  have hn2 : (0 : Int) < n := by omega
  have HS : Hid (∀ i : Nat, i < n → w.cell? ⟨g, i, none⟩ = some (.int .u8 (S[i]?.getD 0))) := hS0
  clear hS0
  obtain ⟨a, Ha⟩ : ∃ x : Int, Hid (x = S[0]?.getD 0) := ⟨S[0]?.getD 0, show _ = _ from rfl⟩
  have cca : w.cell? ⟨g, 0, none⟩ = some (.int .u8 a) := by rw [Ha.out]; exact HS.out 0 hn0
  go_enter Try.func9, Try.ntmps9
  go_upto_if 13 with fail
  go_cut [5] (fun i wx => w = wx ∧ ∃ k : Nat, i = .int .i64 k ∧ IntEnd S n k)
  case first =>
    by_cases h48 : a = 48
    · have h48' : (a == 48) = true := beq_iff_eq.2 h48
      have hat : At S 1 15 := (At.start S).step (by rw [← Ha.out]; exact nx_zero h48)
      have HI : Hid (IntEnd S n 1) := ⟨15, by omega, hat, .inl rfl⟩
      clear h48 hat
      go_wp2_with fail
      go_meet
      case rel => exact ⟨rfl, 1, rfl, HI.out⟩
    · have h48' : (a == 48) = false := beq_eq_false_iff_ne.2 h48
      cases hda : dig a
      · have hfin : PrePost S n (.returned (.tuple #[.int .i64 0, .bool false])) := PrePost.no (i := 0) rfl (At.start S) (Nat.zero_le _) (by omega) (by omega) (fun _ => by rw [← Ha.out]; exact nx_none hda)
        have hb := dig_not hda
        rcases hb with hb | hb
        · go_wp2_with fail
          go_ret2
          exact ⟨hfin, rfl⟩
        · go_wp2_with fail
          go_ret2
          exact ⟨hfin, rfl⟩
      · have hb := dig_bounds hda
        have hb1 : 49 ≤ a := by omega
        have hb2 : a ≤ 57 := by omega
        have hat1 : At S 1 16 := (At.start S).step (by rw [← Ha.out]; exact nx_first h48 hda)
        clear hb hda h48
        rw [h48']
        go_wp2_with fail
        go_loop [5] (fun i => ∃ j : Nat, i = .int .i64 j ∧ j ≤ n ∧ At S j 16) (fun i => n - (intOf i).toNat)
        case atStart => exact ⟨1, rfl, by omega, hat1⟩
        case round =>
          obtain ⟨j, rfl, hj, hat⟩ := hrel
          by_cases hjn : (j : Int) < n
          · obtain ⟨d, Hd⟩ : ∃ x : Int, Hid (x = S[j]?.getD 0) := ⟨S[j]?.getD 0, show _ = _ from rfl⟩
            have ccd : w.cell? ⟨g, j, none⟩ = some (.int .u8 d) := by rw [Hd.out]; exact HS.out j (by omega)
            cases hdd : dig d
            · have HI : Hid (IntEnd S n j) := ⟨16, hj, hat, .inr ⟨rfl, fun _ => by rw [← Hd.out]; exact hdd⟩⟩
              go_wp2_with (go_at_call 12; refine (digit_any _ _).mono ?_; rintro e w' ⟨rfl, rfl⟩)
              go_meet
              case rel => exact ⟨rfl, j, rfl, HI.out⟩
            · have hat' : At S (j + 1) 16 := hat.step (by rw [← Hd.out]; exact nx_int hdd)
              go_wp2_with (go_at_call 12; refine (digit_any _ _).mono ?_; rintro e w' ⟨rfl, rfl⟩)
              go_round
              case rel => exact ⟨j + 1, by go_num, by omega, hat'⟩
              case measure => simp [intOf]; omega
          · have HI : Hid (IntEnd S n j) := ⟨16, hj, hat, .inr ⟨rfl, fun h => by omega⟩⟩
            go_wp2_with fail
            go_meet
            case rel => exact ⟨rfl, j, rfl, HI.out⟩
  case rest =>
    obtain ⟨rfl, k, rfl, hI⟩ := hcut
    clear cca Ha
    go_upto_region 12 with fail
    go_cut [45] (fun b wx => w = wx ∧ b = .bool (ptAt S n k))
    case first =>
      by_cases hkn : (k : Int) < n
      · obtain ⟨d, Hd⟩ : ∃ x : Int, Hid (x = S[k]?.getD 0) := ⟨S[k]?.getD 0, show _ = _ from rfl⟩
        have ccd : w.cell? ⟨g, k, none⟩ = some (.int .u8 d) := by rw [Hd.out]; exact HS.out k (by omega)
        by_cases h46 : d = 46
        · have h46' : (d == 46) = true := beq_iff_eq.2 h46
          have HP : Hid (ptAt S n k = true) := by unfold Hid ptAt; rw [← Hd.out]; simp [h46]; omega
          clear h46
          go_wp2_with fail
          go_meet
          case rel => exact ⟨rfl, by rw [HP.out]⟩
        · have h46' : (d == 46) = false := beq_eq_false_iff_ne.2 h46
          have HP : Hid (ptAt S n k = false) := by unfold Hid ptAt; rw [← Hd.out]; simp [h46]
          clear h46
          go_wp2_with fail
          go_meet
          case rel => exact ⟨rfl, by rw [HP.out]⟩
      · have HP : Hid (ptAt S n k = false) := by unfold Hid ptAt; simp; omega
        go_wp2_with fail
        go_meet
        case rel => exact ⟨rfl, by rw [HP.out]⟩
    case rest =>
      obtain ⟨rfl, rfl⟩ := hcut
      go_upto_if 45 with fail
      go_cut [5] (fun i wx => w = wx ∧ ∃ j : Nat, i = .int .i64 j ∧ FracEnd S n j)
      case first =>
        cases hpt : ptAt S n k
        · have HF : Hid (FracEnd S n k) := hI.noFrac hpt
          go_wp2_with fail
          go_meet
          case rel => exact ⟨rfl, k, rfl, HF.out⟩
        · obtain ⟨hk1, hat1⟩ := hI.point hpt
          by_cases hk2 : k + 1 < n
          · have hk2' : (((k : Int) + 1) == (n : Int)) = false := beq_eq_false_iff_ne.2 (by omega)
            have hk2b : (k : Int) + 1 < n := by omega
            obtain ⟨d, Hd⟩ : ∃ x : Int, Hid (x = S[k + 1]?.getD 0) := ⟨S[k + 1]?.getD 0, show _ = _ from rfl⟩
            have ccd : w.cell? ⟨g, k + 1, none⟩ = some (.int .u8 d) := by rw [Hd.out]; exact HS.out (k + 1) (by omega)
            cases hdd : dig d
            · have HF : Hid (PrePost S n (.returned (.tuple #[.int .i64 ((k : Int) + 1), .bool false]))) := PrePost.no (i := k + 1) (by omega) hat1 (by omega) (by omega) (by omega) (fun _ => by rw [← Hd.out]; exact nx_nofrac hdd)
              go_wp2_with (go_at_call 12; refine (digit_any _ _).mono ?_; rintro e w' ⟨rfl, rfl⟩)
              go_ret2
              exact ⟨HF.out, rfl⟩
            · have HDD : Hid (dig d = true) := hdd
              go_wp2_with (go_at_call 12; refine (digit_any _ _).mono ?_; rintro e w' ⟨rfl, rfl⟩)
              clear hdd
              go_loop [5] (fun i => ∃ (j : Nat) (t : Int), i = .int .i64 j ∧ j ≤ n ∧ At S j t ∧ Hid (t = 17 ∨ (j = k + 1 ∧ t = 12))) (fun i => n - (intOf i).toNat)
              case atStart => exact ⟨k + 1, 12, by go_num, by omega, hat1, .inr ⟨rfl, rfl⟩⟩
              case round =>
                obtain ⟨j, t, rfl, hj, hatj, HT⟩ := hrel
                by_cases hjn : (j : Int) < n
                · obtain ⟨f, Hf⟩ : ∃ x : Int, Hid (x = S[j]?.getD 0) := ⟨S[j]?.getD 0, show _ = _ from rfl⟩
                  have ccf : w.cell? ⟨g, j, none⟩ = some (.int .u8 f) := by rw [Hf.out]; exact HS.out j (by omega)
                  cases hdf : dig f
                  · have HF : Hid (FracEnd S n j) := by
                      have h17 : t = 17 := by
                        rcases HT.out with h | ⟨h, _⟩
                        · exact h
                        · exfalso
                          have h1 := Hf.out
                          rw [h, ← Hd.out] at h1
                          rw [h1, HDD.out] at hdf
                          cases hdf
                      exact ⟨t, hj, hatj, by omega, fun _ => ⟨fun _ => by rw [← Hf.out]; exact hdf, fun h => absurd h17 h⟩⟩
                    go_wp2_with (go_at_call 12; refine (digit_any _ _).mono ?_; rintro e w' ⟨rfl, rfl⟩)
                    go_meet
                    case rel => exact ⟨rfl, j, rfl, HF.out⟩
                  · have hat' : At S (j + 1) 17 := hatj.step (by rw [← Hf.out]; exact nx_frac (by have := HT.out; omega) hdf)
                    go_wp2_with (go_at_call 12; refine (digit_any _ _).mono ?_; rintro e w' ⟨rfl, rfl⟩)
                    go_round
                    case rel => exact ⟨j + 1, 17, by go_num, by omega, hat', .inl rfl⟩
                    case measure => simp [intOf]; omega
                · have HF : Hid (FracEnd S n j) := ⟨t, hj, hatj, by have := HT.out; omega, fun h => by omega⟩
                  go_wp2_with fail
                  go_meet
                  case rel => exact ⟨rfl, j, rfl, HF.out⟩
          · have hk2' : (((k : Int) + 1) == (n : Int)) = true := beq_iff_eq.2 (by omega)
            have HF : Hid (PrePost S n (.returned (.tuple #[.int .i64 ((k : Int) + 1), .bool false]))) := PrePost.no (i := k + 1) (by omega) hat1 (by omega) (by omega) (by omega) (fun h => by omega)
            go_wp2_with fail
            go_ret2
            exact ⟨HF.out, rfl⟩
      case rest =>
        obtain ⟨rfl, k2, rfl, hF⟩ := hcut
        clear hI
        go_upto_region 18 with fail
        go_cut [88] (fun b wx => w = wx ∧ b = .bool (markAt S n k2))
        case first =>
          by_cases hkn : (k2 : Int) < n
          · obtain ⟨d, Hd⟩ : ∃ x : Int, Hid (x = S[k2]?.getD 0) := ⟨S[k2]?.getD 0, show _ = _ from rfl⟩
            have ccd : w.cell? ⟨g, k2, none⟩ = some (.int .u8 d) := by rw [Hd.out]; exact HS.out k2 (by omega)
            by_cases h1 : d = 101
            · have h1' : (d == 101) = true := beq_iff_eq.2 h1
              have HP : Hid (markAt S n k2 = true) := by unfold Hid markAt; rw [← Hd.out]; simp [h1]; omega
              clear h1
              go_wp2_with fail
              go_meet
              case rel => exact ⟨rfl, by rw [HP.out]⟩
            · have h1' : (d == 101) = false := beq_eq_false_iff_ne.2 h1
              by_cases h2 : d = 69
              · have h2' : (d == 69) = true := beq_iff_eq.2 h2
                have HP : Hid (markAt S n k2 = true) := by unfold Hid markAt; rw [← Hd.out]; simp [h2]; omega
                clear h1 h2
                go_wp2_with fail
                go_meet
                case rel => exact ⟨rfl, by rw [HP.out]⟩
              · have h2' : (d == 69) = false := beq_eq_false_iff_ne.2 h2
                have HP : Hid (markAt S n k2 = false) := by unfold Hid markAt; rw [← Hd.out]; simp [h1, h2]
                clear h1 h2
                go_wp2_with fail
                go_meet
                case rel => exact ⟨rfl, by rw [HP.out]⟩
          · have HP : Hid (markAt S n k2 = false) := by unfold Hid markAt; simp; omega
            go_wp2_with fail
            go_meet
            case rel => exact ⟨rfl, by rw [HP.out]⟩
        case rest =>
          obtain ⟨rfl, rfl⟩ := hcut
          go_upto_if 88 with fail
          go_cut [5] (fun i wx => w = wx ∧ ∃ j : Nat, i = .int .i64 j ∧ NumEnd S n j)
          case first =>
            cases hmk : markAt S n k2
            · have HF : Hid (NumEnd S n k2) := hF.noExp hmk
              go_wp2_with fail
              go_meet
              case rel => exact ⟨rfl, k2, rfl, HF.out⟩
            · obtain ⟨hk1, hat1⟩ := hF.mark hmk
              clear hF
              go_upto_region 20 with fail
              go_cut [107] (fun b wx => w = wx ∧ b = .bool (signAt S n (k2 + 1)))
              case first =>
                by_cases hkn : (k2 : Int) + 1 < n
                · obtain ⟨d, Hd⟩ : ∃ x : Int, Hid (x = S[k2 + 1]?.getD 0) := ⟨S[k2 + 1]?.getD 0, show _ = _ from rfl⟩
                  have ccd : w.cell? ⟨g, k2 + 1, none⟩ = some (.int .u8 d) := by rw [Hd.out]; exact HS.out (k2 + 1) (by omega)
                  by_cases h1 : d = 43
                  · have h1' : (d == 43) = true := beq_iff_eq.2 h1
                    have HP : Hid (signAt S n (k2 + 1) = true) := by unfold Hid signAt; rw [← Hd.out]; simp [h1]; omega
                    clear h1
                    go_wp2_with fail
                    go_meet
                    case rel => exact ⟨rfl, by rw [HP.out]⟩
                  · have h1' : (d == 43) = false := beq_eq_false_iff_ne.2 h1
                    by_cases h2 : d = 45
                    · have h2' : (d == 45) = true := beq_iff_eq.2 h2
                      have HP : Hid (signAt S n (k2 + 1) = true) := by unfold Hid signAt; rw [← Hd.out]; simp [h2]; omega
                      clear h1 h2
                      go_wp2_with fail
                      go_meet
                      case rel => exact ⟨rfl, by rw [HP.out]⟩
                    · have h2' : (d == 45) = false := beq_eq_false_iff_ne.2 h2
                      have HP : Hid (signAt S n (k2 + 1) = false) := by unfold Hid signAt; rw [← Hd.out]; simp [h1, h2]
                      clear h1 h2
                      go_wp2_with fail
                      go_meet
                      case rel => exact ⟨rfl, by rw [HP.out]⟩
                · have HP : Hid (signAt S n (k2 + 1) = false) := by unfold Hid signAt; simp; omega
                  go_wp2_with fail
                  go_meet
                  case rel => exact ⟨rfl, by rw [HP.out]⟩
              case rest =>
                obtain ⟨rfl, rfl⟩ := hcut
                go_upto_if 107 with fail
                go_cut [5] (fun i wx => w = wx ∧ ∃ j : Nat, i = .int .i64 j ∧ SignEnd S n j)
                case first =>
                  cases hsg : signAt S n (k2 + 1)
                  · have HF : Hid (SignEnd S n (k2 + 1)) := SignEnd.no hat1 (by omega) hsg
                    go_wp2_with fail
                    go_meet
                    case rel => exact ⟨rfl, k2 + 1, by go_num, HF.out⟩
                  · have hlt := (of_decide_eq_true hsg).1
                    have HF : Hid (SignEnd S n (k2 + 1 + 1)) := SignEnd.yes hat1 hsg
                    go_wp2_with fail
                    go_meet
                    case rel => exact ⟨rfl, k2 + 1 + 1, by go_num, HF.out⟩
                case rest =>
                  obtain ⟨rfl, k3, rfl, hE⟩ := hcut
                  clear hat1
                  obtain ⟨s, hk3, hat3, hs3, hns⟩ := hE
                  have HNS : Hid (k3 < n → s = 13 → ¬ (S[k3]?.getD 0 = 43 ∨ S[k3]?.getD 0 = 45)) := hns
                  have HS3 : Hid (s = 13 ∨ s = 14) := hs3
                  clear hns hs3
                  by_cases hk4 : k3 < n
                  · have hk4' : ((k3 : Int) == (n : Int)) = false := beq_eq_false_iff_ne.2 (by omega)
                    have hk4b : (k3 : Int) < n := by omega
                    obtain ⟨d, Hd⟩ : ∃ x : Int, Hid (x = S[k3]?.getD 0) := ⟨S[k3]?.getD 0, show _ = _ from rfl⟩
                    have ccd : w.cell? ⟨g, k3, none⟩ = some (.int .u8 d) := by rw [Hd.out]; exact HS.out k3 (by omega)
                    cases hdd : dig d
                    · have HF : Hid (PrePost S n (.returned (.tuple #[.int .i64 (k3 : Int), .bool false]))) := PrePost.no (i := k3) rfl hat3 (by omega) (by have := HS3.out; omega) (by have := HS3.out; omega) (fun h => by
                        have h1 := HNS.out h
                        rw [← Hd.out] at h1 ⊢
                        exact nx_noexp HS3.out h1 hdd)
                      go_wp2_with (go_at_call 12; refine (digit_any _ _).mono ?_; rintro e w' ⟨rfl, rfl⟩)
                      go_ret2
                      exact ⟨HF.out, rfl⟩
                    · have HDD : Hid (dig d = true) := hdd
                      go_wp2_with (go_at_call 12; refine (digit_any _ _).mono ?_; rintro e w' ⟨rfl, rfl⟩)
                      clear hdd
                      go_loop [5] (fun i => ∃ (j : Nat) (t : Int), i = .int .i64 j ∧ j ≤ n ∧ At S j t ∧ Hid (t = 18 ∨ (j = k3 ∧ t = s))) (fun i => n - (intOf i).toNat)
                      case atStart => exact ⟨k3, s, by go_num, by omega, hat3, .inr ⟨rfl, rfl⟩⟩
                      case round =>
                        obtain ⟨j, t, rfl, hj, hatj, HT⟩ := hrel
                        by_cases hjn : (j : Int) < n
                        · obtain ⟨f, Hf⟩ : ∃ x : Int, Hid (x = S[j]?.getD 0) := ⟨S[j]?.getD 0, show _ = _ from rfl⟩
                          have ccf : w.cell? ⟨g, j, none⟩ = some (.int .u8 f) := by rw [Hf.out]; exact HS.out j (by omega)
                          cases hdf : dig f
                          · have HF : Hid (NumEnd S n j) := by
                              have h18 : t = 18 := by
                                rcases HT.out with h | ⟨h, _⟩
                                · exact h
                                · exfalso
                                  have h1 := Hf.out
                                  rw [h, ← Hd.out] at h1
                                  rw [h1, HDD.out] at hdf
                                  cases hdf
                              exact ⟨t, hj, hatj, by omega, by omega, fun _ => by rw [h18, ← Hf.out]; exact nx_expend hdf⟩
                            go_wp2_with (go_at_call 12; refine (digit_any _ _).mono ?_; rintro e w' ⟨rfl, rfl⟩)
                            go_meet
                            case rel => exact ⟨rfl, j, rfl, HF.out⟩
                          · have hat' : At S (j + 1) 18 := hatj.step (by rw [← Hf.out]; exact nx_exp (by have := HT.out; have := HS3.out; omega) hdf)
                            go_wp2_with (go_at_call 12; refine (digit_any _ _).mono ?_; rintro e w' ⟨rfl, rfl⟩)
                            go_round
                            case rel => exact ⟨j + 1, 18, by go_num, by omega, hat', .inl rfl⟩
                            case measure => simp [intOf]; omega
                        · have HF : Hid (NumEnd S n j) := by
                            have h18 : t = 18 := by have := HT.out; omega
                            exact ⟨t, hj, hatj, by omega, by omega, fun h => by omega⟩
                          go_wp2_with fail
                          go_meet
                          case rel => exact ⟨rfl, j, rfl, HF.out⟩
                  · have hk4' : ((k3 : Int) == (n : Int)) = true := beq_iff_eq.2 (by omega)
                    have HF : Hid (PrePost S n (.returned (.tuple #[.int .i64 (k3 : Int), .bool false]))) := PrePost.no (i := k3) rfl hat3 (by omega) (by have := HS3.out; omega) (by have := HS3.out; omega) (fun h => by omega)
                    go_wp2_with fail
                    go_ret2
                    exact ⟨HF.out, rfl⟩
          case rest =>
            obtain ⟨rfl, k4, rfl, hN⟩ := hcut
            go_wp2
            go_ret2
            exact ⟨hN.post, rfl⟩
end Go.Proofs.Qxb6601667a
