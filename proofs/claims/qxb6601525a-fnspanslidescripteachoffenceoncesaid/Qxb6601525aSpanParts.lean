import Derived.Test.Qxb6601525aZZSlide
namespace Go.Proofs.Qxb6601525a
open Go.RowKit

set_option maxHeartbeats 1000000 in
theorem isRun_any (g o m : Nat) (w : World) (h : IntsTo w g o m m) (hm : m ≤ 65536) (ho : o ≤ 65536) :
    Calls Try.prog 17 #[.slice (some ⟨g, 0, none⟩) m m, .int .i64 (o : Int), .int .i64 ((o : Int) + m)] w fun r w' => r = .returned (.bool true) ∧ w' = w := by
  have h1 : ((m : Int) != (o : Int) + m - o) = false := by simp; omega
  go_enter Try.func17, Try.ntmps17
  go_wp2
  go_loop [16] (fun i => ∃ k : Nat, k ≤ m ∧ i = .int .i64 k) (fun i => m - (intOf i).toNat)
  case atStart => exact ⟨0, Nat.zero_le _, rfl⟩
  case round =>
    obtain ⟨k, hk, rfl⟩ := hrel
    by_cases hlt : k < m
    · have hc := h.at_ hlt
      have h2 : (((o : Int) + k) != (o : Int) + k) = false := by simp
      go_wp2
      go_round
      case rel => exact ⟨k + 1, by omega, by go_num⟩
      case measure => simp [intOf]; omega
    · go_wp2
      go_ret
      exact ⟨rfl, rfl⟩

set_option maxHeartbeats 1000000 in
theorem bytes_any (a : Option Addr) (n c : Nat) (x : Int) (w : World) (hn : n ≤ 65536) :
    Calls Try.prog 18 #[.slice a n c, .int .u64 x] w fun r w' => r = .returned (.bool true) ∧ w' = w := by
  go_enter Try.func18, Try.ntmps18
  go_wp2
  go_ret
  exact ⟨rfl, rfl⟩

/-- The first k epochs are in the documented range and in order. -/
def InDom (E : List Int) (k : Nat) : Prop := ∀ i : Nat, i < k → E[i]?.getD 0 ≤ 9007199254740991 ∧ (0 < i → E[i - 1]?.getD 0 ≤ E[i]?.getD 0)
theorem InDom.step {E : List Int} {k : Nat} (h : InDom E k) (h1 : E[k]?.getD 0 ≤ 9007199254740991) (h2 : 0 < k → E[k - 1]?.getD 0 ≤ E[k]?.getD 0) : InDom E (k + 1) := fun i hi => by
  by_cases e : i = k
  · subst e; exact ⟨h1, h2⟩
  · exact h i (by omega)
def DomAns (E : List Int) (n : Nat) (w : World) (r : Ending) (w' : World) : Prop := ∃ b : Bool, r = .returned (.bool b) ∧ (b = true → InDom E n) ∧ ∃ q, w' = w.drewN q

set_option maxHeartbeats 1000000 in
theorem dom_any (b off n c : Nat) (E : List Int) (w : World) (hn : n ≤ 65536) (hE : ∀ i : Nat, i < n → w.cell? ⟨b, off + i, none⟩ = some (.int .u64 (E[i]?.getD 0))) :
    Calls Try.prog 11 #[.slice (some ⟨b, off, none⟩) n c] w fun r w' => DomAns E n w r w' := by
  go_enter Try.func11, Try.ntmps11
  go_wp2
  go_loopw [6] (fun i wr => ∃ k q : Nat, k ≤ n ∧ i = .int .i64 k ∧ InDom E k ∧ wr = w.drewN q) (fun i _ => n - (intOf i).toNat)
  case atStart => exact ⟨0, 0, Nat.zero_le _, rfl, fun i h => by omega, rfl⟩
  case round =>
    obtain ⟨k, q, hk, rfl, hd, rfl⟩ := hrel
    by_cases hlt : k < n
    · have hc := hE k hlt
      by_cases h1 : 9007199254740991 < E[k]?.getD 0
      · go_wp2
        go_ret
        exact ⟨false, rfl, (fun h => by cases h), _, rfl⟩
      · by_cases hk0 : 0 < k
        · have hk0' : (0 : Int) < k := by omega
          have hc' := hE (k - 1) (by omega)
          have hkn : (k : Int) - 1 < n := by omega
          have hkn2 : (k : Int) < n := by omega
          by_cases h2 : E[k]?.getD 0 < E[k - 1]?.getD 0
          · go_wp2
            go_quiet (fail)
            go_wp2
            go_ret
            exact ⟨false, rfl, (fun h => by cases h), _, World.drewN_drewN _ _ _⟩
          · have hd' : decide (E[k]?.getD 0 < E[k - 1]?.getD 0) = false := by simpa using h2
            have hst := hd.step (by omega) (fun _ => by omega)
            go_wp2
            go_quiet (fail)
            go_wp2
            go_roundw
            case rel => exact ⟨k + 1, _, by omega, by go_num, hst, rfl⟩
            case measure => simp [intOf]; omega
        · have hk0' : decide ((0 : Int) < k) = false := by simp; omega
          have hst := hd.step (by omega) (fun h => by omega)
          go_wp2
          go_quiet (fail)
          go_wp2
          go_roundw
          case rel => exact ⟨k + 1, _, by omega, by go_num, hst, rfl⟩
          case measure => simp [intOf]; omega
    · go_wp2
      go_ret
      obtain rfl : k = n := by omega
      exact ⟨true, rfl, fun _ => hd, _, rfl⟩
end Go.Proofs.Qxb6601525a
