import Derived.Test.Qxb6602089aAgent
namespace Go.Proofs.Qxb6602089a
open Go.RowKit

/-- Is one of the first m tasks an agent's of role r? -/
def before (T : Tk) (r : ByteArray) : Nat → Bool
  | 0 => false
  | m + 1 => before T r m || (isAg (T.ki m) && ((T.ro m).toList == r.toList))
theorem before_mono {T : Tk} {r : ByteArray} {k : Nat} (h : before T r k = true) : ∀ d, before T r (k + d) = true
  | 0 => h
  | d + 1 => by
    show (before T r (k + d) || _) = true
    rw [before_mono h d]; rfl

set_option maxRecDepth 20000 in
set_option maxHeartbeats 1000000 in
theorem before_core (g n i : Nat) (T : Tk) (r : ByteArray) (w : World) (hn : n ≤ 4096) (hi : i ≤ n) (hT : CT w g 33 T n n) :
    Calls Try.prog 13 #[.slice (some ⟨g, 0, none⟩) n n, .int .i64 i, .string r] w fun e w' => e = .returned (.bool (before T r i)) ∧ w = w' := by
  go_enter Try.func13, Try.ntmps13
  go_wp2
  go_loop [7] (fun j => ∃ k : Nat, k ≤ i ∧ j = .int .i64 k ∧ Hid (before T r k = false)) (fun j => i - (intOf j).toNat)
  case atStart => exact ⟨0, Nat.zero_le _, rfl, rfl⟩
  case round =>
    obtain ⟨k, hk, rfl, HK⟩ := hrel
    by_cases hlt : k < i
    · have c0 := hT.ro (show k < n by omega)
      have c1 := hT.ki (show k < n by omega)
      have hki : (k : Int) < i := by omega
      have hkn : (k : Int) < n := by omega
      have HS : Hid (before T r (k + 1) = (before T r k || (isAg (T.ki k) && ((T.ro k).toList == r.toList)))) := rfl
      cases hag : isAg (T.ki k)
      · have hag' : ((T.ki k).toList == [97, 103, 101, 110, 116]) = false := hag
        have HN : Hid (before T r (k + 1) = false) := by unfold Hid; rw [HS.out, HK.out, hag]; rfl
        clear hag
        go_wp2
        go_round
        case rel => exact ⟨k + 1, by omega, by go_num, HN⟩
        case measure => simp [intOf]; omega
      · have hag' : ((T.ki k).toList == [97, 103, 101, 110, 116]) = true := hag
        cases hro : ((T.ro k).toList == r.toList)
        · have HN : Hid (before T r (k + 1) = false) := by unfold Hid; rw [HS.out, HK.out, hag, hro]; rfl
          clear hag
          go_wp2
          go_round
          case rel => exact ⟨k + 1, by omega, by go_num, HN⟩
          case measure => simp [intOf]; omega
        · have HN : Hid (before T r i = true) := by
            have h1 : before T r (k + 1) = true := by rw [HS.out, HK.out, hag, hro]; rfl
            have := before_mono h1 (i - (k + 1))
            rwa [show k + 1 + (i - (k + 1)) = i by omega] at this
          clear hag
          go_wp2
          go_ret
          exact ⟨by rw [HN.out]; rfl, rfl⟩
    · obtain rfl : i = k := by omega
      have hki : ¬ (i : Int) < i := by omega
      go_wp2
      go_ret
      exact ⟨by rw [HK.out]; rfl, rfl⟩

set_option maxHeartbeats 400000 in
theorem before_nil (T : Tk) (a : Option Addr) (c : Nat) (r : ByteArray) (w : World) :
    Calls Try.prog 13 #[.slice a 0 c, .int .i64 0, .string r] w fun e w' => e = .returned (.bool (before T r 0)) ∧ w = w' := by
  go_enter Try.func13, Try.ntmps13
  go_wp2
  refine wp_loop_rounds 1 ?_
  rw [rounds_succ]
  go_wp2
  go_ret
  exact ⟨rfl, rfl⟩

/-! ### the plain law -/
theorem same_iff {a b : ByteArray} : (a.toList == b.toList) = true ↔ a.toList = b.toList := beq_iff_eq
theorem hasB_iff {R : List ByteArray} {x : ByteArray} : hasB R x = true ↔ ∃ y, y ∈ R ∧ x.toList = y.toList := by
  unfold hasB
  rw [List.any_eq_true]
  constructor
  · rintro ⟨y, h1, h2⟩; exact ⟨y, h1, beq_iff_eq.1 h2⟩
  · rintro ⟨y, h1, h2⟩; exact ⟨y, h1, beq_iff_eq.2 h2⟩
theorem hasB_append {R : List ByteArray} {x y : ByteArray} : hasB (R ++ [y]) x = (hasB R x || (x.toList == y.toList)) := by simp [hasB]
/-- An earlier agent task has the role r, just where r is among the roles gathered so far. -/
theorem before_has (T : Tk) (r : ByteArray) : ∀ k, before T r k = hasB (rolesTo T k) r
  | 0 => rfl
  | k + 1 => by
    have ih := before_has T r k
    show (before T r k || (isAg (T.ki k) && ((T.ro k).toList == r.toList))) = _
    rw [ih]
    cases hag : isAg (T.ki k)
    · rw [rolesTo_no hag]; simp
    · cases hh : hasB (rolesTo T k) (T.ro k)
      · rw [rolesTo_new hag hh, hasB_append]
        have e : ((T.ro k).toList == r.toList) = (r.toList == (T.ro k).toList) := by
          rw [Bool.eq_iff_iff, beq_iff_eq, beq_iff_eq]; exact ⟨Eq.symm, Eq.symm⟩
        rw [e]; simp
      · rw [rolesTo_has hh]
        cases hr : ((T.ro k).toList == r.toList)
        · simp
        · obtain ⟨y, h1, h2⟩ := hasB_iff.1 hh
          have h3 := beq_iff_eq.1 hr
          have : hasB (rolesTo T k) r = true := hasB_iff.2 ⟨y, h1, h3.symm.trans h2⟩
          rw [this]; rfl
/-- The roles of the first k tasks begin the list of all. -/
theorem rolesTo_pre (T : Tk) (k : Nat) : ∀ d, ∃ rest, rolesTo T (k + d) = rolesTo T k ++ rest
  | 0 => ⟨[], by simp⟩
  | d + 1 => by
    obtain ⟨rest, h⟩ := rolesTo_pre T k d
    show ∃ rest, rolesTo T ((k + d) + 1) = _
    cases hag : isAg (T.ki (k + d))
    · rw [rolesTo_no hag]; exact ⟨rest, h⟩
    · cases hh : hasB (rolesTo T (k + d)) (T.ro (k + d))
      · rw [rolesTo_new hag hh, h]; exact ⟨rest ++ [T.ro (k + d)], by simp⟩
      · rw [rolesTo_has hh]; exact ⟨rest, h⟩
theorem rolesAll_pre (T : Tk) (n : Nat) (fixer : ByteArray) : ∃ rest, rolesAll T n fixer = rolesTo T n ++ rest := by
  unfold rolesAll
  split
  · exact ⟨[], by simp⟩
  · split
    · exact ⟨[], by simp⟩
    · exact ⟨[fixer], rfl⟩
/-- A task that is met first stands at its place in the list. -/
theorem all_at {T : Tk} {n k : Nat} {fixer : ByteArray} (hk : k < n) (h1 : isAg (T.ki k) = true) (h2 : hasB (rolesTo T k) (T.ro k) = false) :
    (rolesTo T k).length < (rolesAll T n fixer).length ∧ (rolesAll T n fixer).getD (rolesTo T k).length ⟨#[]⟩ = T.ro k := by
  obtain ⟨r1, e1⟩ := rolesAll_pre T n fixer
  obtain ⟨r2, e2⟩ := rolesTo_pre T (k + 1) (n - (k + 1))
  rw [show k + 1 + (n - (k + 1)) = n by omega] at e2
  rw [e1, e2, rolesTo_new h1 h2]
  constructor
  · simp
  · simp [List.getD]
end Go.Proofs.Qxb6602089a
