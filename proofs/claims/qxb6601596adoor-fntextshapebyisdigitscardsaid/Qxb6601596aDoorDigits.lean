import Derived.Test.Qxb6601596aDoorText
namespace Go.Proofs.Qxb6601596aDoor
open Go.RowKit

/-- Each byte is a digit, and there is one. -/
def Digs (X : List UInt8) : Prop := X ≠ [] ∧ ∀ x ∈ X, 48 ≤ x.toNat ∧ x.toNat ≤ 57

theorem ne_of_size {s : ByteArray} (h : 0 < s.size) : s.toList.isEmpty = false := by
  rw [ByteArray.toList_eq]
  cases hl : s.data.toList with
  | nil =>
    have : s.data.toList.length = 0 := by rw [hl]; rfl
    rw [Array.length_toList] at this
    have h2 : s.size = s.data.size := rfl
    omega
  | cons _ _ => rfl

set_option maxRecDepth 20000 in
set_option maxHeartbeats 1000000 in
theorem isDigits_any (s : ByteArray) (hs : ∀ (i : Nat) (h : i < s.size), 48 ≤ s[i].toNat ∧ s[i].toNat ≤ 57) (h0 : 0 < s.size) (h1 : s.size ≤ 1000000) (w : World) :
    Calls Tryd.prog 12 #[.string s] w fun e w' => e = .returned (.bool true) ∧ w' = w := by
  have HS := Lib.hid hs
  have hne := ne_of_size h0
  clear hs
  go_enter Tryd.func12, Tryd.ntmps12
  go_wp2
  go_loop [6] (fun i => ∃ k : Nat, i = .int .i64 k ∧ k ≤ s.size) (fun i => s.size - (intOf i).toNat)
  case atStart => exact ⟨0, rfl, by omega⟩
  case round =>
    obtain ⟨k, rfl, hk⟩ := hrel
    by_cases hlt : (k : Int) < s.size
    · have hb := HS.out k (by omega)
      have hb1 : (48 : Int) ≤ (s[k].toNat : Int) := by omega
      have hb2 : (s[k].toNat : Int) ≤ 57 := by omega
      go_wp2_with fail
      go_round
      case rel => exact ⟨k + 1, by go_num, by omega⟩
      case measure => simp [intOf]; omega
    · go_wp2_with fail
      go_ret
      exact ⟨rfl, rfl⟩

theorem digits_any (X : List UInt8) (hX : Digs X) (h1 : X.length ≤ 1000000) (w : World) :
    Calls Tryd.prog 10 #[.string ⟨X.toArray⟩] w fun e w' => e = .returned (.bool true) ∧ w' = w := by
  have hsz : (⟨X.toArray⟩ : ByteArray).size = X.length := by simp [ByteArray.size]
  have h12 := isDigits_any ⟨X.toArray⟩ (fun i h => by
    have e : (⟨X.toArray⟩ : ByteArray)[i] = X[i]'(by rw [hsz] at h; exact h) := rfl
    rw [e]
    exact hX.2 _ (List.getElem_mem _)) (by rw [hsz]; exact List.length_pos_iff.2 hX.1) (by rw [hsz]; exact h1) w
  generalize (⟨X.toArray⟩ : ByteArray) = s at *
  go_enter Tryd.func10, Tryd.ntmps10
  go_wp2_with fail
  refine h12.mono ?_
  rintro e w' ⟨rfl, rfl⟩
  go_wp2
  go_ret
  exact ⟨rfl, rfl⟩

theorem zztext_any (U : Int) (s p : Nat) (hU0 : -9223372036854775808 ≤ U) (hU1 : U ≤ 9223372036854775807) (hs : s ≤ 18) (hsp : s ≤ p) (hp : p ≤ 65536) (w : World) (htab : PowTab w) :
    Calls Tryd.prog 6 #[.int .i64 U, .int .i64 s, .int .i64 p] w fun e w' => (∃ X, e = .returned (.string ⟨X.toArray⟩) ∧ IsText U s p X) ∧ Below w.heap.size w w' := by
  have h11 := text_any U s p hU0 hU1 hs hsp hp w htab
  go_enter Tryd.func6, Tryd.ntmps6
  go_wp2_with fail
  refine h11.mono ?_
  rintro e w' ⟨⟨X, rfl, hX⟩, hb⟩
  have HX := Lib.hid hX
  clear hX
  go_wp2
  go_ret
  exact ⟨⟨X, rfl, HX.out⟩, hb⟩
end Go.Proofs.Qxb6601596aDoor
