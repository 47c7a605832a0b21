import Derived.Test.Qxb6601525aRows
import Derived.WalkKit
import Derived.WalkSpells
import Derived.WalkLawsBesides
import Derived.Outline
import Derived.LoopTactic
import Derived.Deep.QuietTactic
import Derived.BigQuiet
namespace Go.Proofs.Qxb6601525a
open Go.RowKit

/-- The words 'zs' are zero from m up to k. -/
def Zer (zs : List Int) (m k : Nat) : Prop := ∀ j : Nat, m ≤ j → j < k → zs[j]?.getD 0 = 0
theorem Zer.nil (zs : List Int) (m : Nat) : Zer zs m m := fun j h1 h2 => by omega
theorem Zer.snoc {zs : List Int} {m k : Nat} (h : Zer zs m k) (e : zs[k]?.getD 0 = 0) : Zer zs m (k + 1) := fun j h1 h2 => by
  by_cases hj : j = k
  · rw [hj]; exact e
  · exact h j h1 (by omega)

/-- A shortNat's words 'zs' and count 'n' are well formed. -/
structure WF (zs : List Int) (n : Int) : Prop where
  lo : 0 ≤ n
  hi : n ≤ 8
  top : 0 < n → zs[n.toNat - 1]?.getD 0 ≠ 0
  rest : Zer zs n.toNat 8

/-- The array value 'C' holds the words 'zs'. -/
structure Words (C : Array Value) (zs : List Int) : Prop where
  size : C.size = 8
  len : zs.length = 8
  at_ : ∀ k : Nat, k < 8 → C[k]? = some (.int .u64 (zs[k]?.getD 0))
  bound : ∀ k : Nat, 0 ≤ zs[k]?.getD 0 ∧ zs[k]?.getD 0 < 18446744073709551616

/-- What 'wellFormedNat' answers, a count in range. -/
def WfAns (zs : List Int) (m : Nat) (e : Ending) : Prop := ∃ b : Bool, e = .returned (.bool b) ∧ (b = true → (0 < m → zs[m - 1]?.getD 0 ≠ 0) ∧ Zer zs m 8)

set_option maxHeartbeats 400000 in
/-- 'wellFormedNat', the count in range: its loop. -/
theorem wf_in (C : Array Value) (m : Nat) (zs : List Int) (hC : Words C zs) (hm : m ≤ 8) (w : World) :
    Calls Try.prog 7 #[.agg C, .int .i64 m] w fun e w' => WfAns zs m e ∧ w' = w.alloc (.cells C 23) := by
  have hsz := hC.size
  by_cases ht : (zs[m - 1]?.getD 0 == 0) = true ∧ 0 < m
  · obtain ⟨ht, hm0⟩ := ht
    have hx : C[m - 1]? = some (.int .u64 (zs[m - 1]?.getD 0)) := hC.at_ _ (by omega)
    go_enter Try.func7, Try.ntmps7
    go_wp2
    go_ret
    exact ⟨⟨false, rfl, fun h => by cases h⟩, rfl⟩
  · have HT : Hid (0 < m → zs[m - 1]?.getD 0 ≠ 0) := fun h e => ht ⟨by simp [e], h⟩
    have hx : 0 < m → C[m - 1]? = some (.int .u64 (zs[m - 1]?.getD 0)) := fun h => hC.at_ _ (by omega)
    by_cases hm0 : 0 < m
    all_goals
      have hf : 0 < m → (zs[m - 1]?.getD 0 == 0) = false := fun h => by simpa using HT.out h
      go_enter Try.func7, Try.ntmps7
      go_wp2
      clear hsz hx hf ht
      go_loop [5] (fun i => ∃ k : Nat, m ≤ k ∧ k ≤ 8 ∧ i = .int .i64 k ∧ Zer zs m k) (fun i => 8 - (intOf i).toNat)
      case atStart => exact ⟨m, Nat.le_refl _, hm, rfl, Zer.nil _ _⟩
      case round =>
        obtain ⟨k, hk1, hk2, rfl, hz⟩ := hrel
        by_cases hlt : k < 8
        · have hck := hC.at_ k hlt
          go_wp2
          · go_ret
            exact ⟨⟨false, rfl, fun h => by cases h⟩, rfl⟩
          · go_round
            case rel => exact ⟨k + 1, by omega, by omega, by go_num, hz.snoc (by simpa using ‹(zs[k]?.getD 0 != 0) = false›)⟩
            case measure => simp [intOf]; omega
        · go_wp2
          go_ret
          have h8 : k = 8 := by omega
          exact ⟨⟨true, rfl, fun _ => ⟨HT.out, h8 ▸ hz⟩⟩, rfl⟩

/-- What 'wellFormedNat' answers. -/
def WfPost (zs : List Int) (n : Int) (e : Ending) : Prop := ∃ b : Bool, e = .returned (.bool b) ∧ (b = true → WF zs n)

set_option maxHeartbeats 400000 in
theorem wf_any (C : Array Value) (n : Int) (zs : List Int) (hC : Words C zs) (w : World) :
    Calls Try.prog 7 #[.agg C, .int .i64 n] w fun e w' => WfPost zs n e ∧ w' = w.alloc (.cells C 23) := by
  have hsz := hC.size
  by_cases h0 : n < 0
  · go_enter Try.func7, Try.ntmps7
    go_wp2
    go_ret
    exact ⟨⟨false, rfl, fun h => by cases h⟩, rfl⟩
  by_cases h8 : 8 < n
  · go_enter Try.func7, Try.ntmps7
    go_wp2
    go_ret
    exact ⟨⟨false, rfl, fun h => by cases h⟩, rfl⟩
  obtain ⟨m, rfl⟩ := Int.eq_ofNat_of_zero_le (Int.not_lt.1 h0)
  refine (wf_in C m zs hC (by omega) w).mono ?_
  rintro e w' ⟨⟨b, rfl, hb⟩, rfl⟩
  refine ⟨⟨b, rfl, fun h => ?_⟩, rfl⟩
  obtain ⟨h1, h2⟩ := hb h
  exact ⟨by omega, by omega, fun hp => by simpa using h1 (by omega), by simpa using h2⟩

/-- What 'cmp' makes of the first k words, from the top. -/
def cmpTop (A B : List Int) : Nat → Int
  | 0 => 0
  | k + 1 => if A[k]?.getD 0 = B[k]?.getD 0 then cmpTop A B k else if A[k]?.getD 0 < B[k]?.getD 0 then -1 else 1
def cmpI (A : List Int) (an : Nat) (B : List Int) (bn : Nat) : Int := if an = bn then cmpTop A B an else if an < bn then -1 else 1

/-- Block 'b' of the world holds a shortNat. -/
structure NatAt (w : World) (b : Nat) (A : List Int) (an : Nat) : Prop where
  cells : ∀ k : Nat, k < 8 → w.cell? ⟨b, k, none⟩ = some (.int .u64 (A[k]?.getD 0))
  count : w.cell? ⟨b, 8, none⟩ = some (.int .i64 an)
  le : an ≤ 8

theorem dn2 (w : World) (a b : Nat) : ∃ n, (w.drewN a).drewN b = w.drewN n := ⟨_, World.drewN_drewN _ _ _⟩
theorem dn3 (w : World) (a b c : Nat) : ∃ n, ((w.drewN a).drewN b).drewN c = w.drewN n := by rw [World.drewN_drewN, World.drewN_drewN]; exact ⟨_, rfl⟩
theorem ret_int {k : IntKind} {a b : Int} (h : a = b) : Ending.returned (.int k a) = .returned (.int k b) := by rw [h]
theorem cmpTop_same {A B : List Int} {k : Nat} (h : A[k]?.getD 0 = B[k]?.getD 0) : cmpTop A B (k + 1) = cmpTop A B k := by simp [cmpTop, h]
theorem cmpTop_lt {A B : List Int} {k : Nat} (h : A[k]?.getD 0 < B[k]?.getD 0) : cmpTop A B (k + 1) = -1 := by
  have : ¬ A[k]?.getD 0 = B[k]?.getD 0 := by omega
  simp [cmpTop, h, this]
theorem cmpTop_gt {A B : List Int} {k : Nat} (h : B[k]?.getD 0 < A[k]?.getD 0) : cmpTop A B (k + 1) = 1 := by
  have h1 : ¬ A[k]?.getD 0 = B[k]?.getD 0 := by omega
  have h2 : ¬ A[k]?.getD 0 < B[k]?.getD 0 := by omega
  simp [cmpTop, h1, h2]

set_option maxHeartbeats 400000 in
theorem cmp_any (ba bb : Nat) (A B : List Int) (an bn : Nat) (w : World) (ha : NatAt w ba A an) (hb : NatAt w bb B bn) :
    Calls Try.prog 19 #[.pointer (some ⟨ba, 0, none⟩), .pointer (some ⟨bb, 0, none⟩)] w fun e w' => e = .returned (.int .i64 (cmpI A an B bn)) ∧ ∃ n, w' = w.drewN n := by
  have ha8 := ha.count
  have hb8 := hb.count
  have hal := ha.le
  have hbl := hb.le
  by_cases hne : an = bn
  · subst hne
    have HF : Hid (cmpI A an B an = cmpTop A B an) := by simp [Hid, cmpI]
    go_enter Try.func19, Try.ntmps19
    go_wp2
    go_quiet (fail)
    go_wp2
    go_loopw [5] (fun i wr => ∃ k nq : Nat, k ≤ an ∧ i = .int .i64 ((k : Int) - 1) ∧ Hid (cmpTop A B an = cmpTop A B k) ∧ wr = w.drewN nq) (fun i _ => (intOf i + 1).toNat)
    case atStart => exact ⟨an, _, Nat.le_refl _, rfl, rfl, rfl⟩
    case round =>
      obtain ⟨k, nq, hk, rfl, HK, rfl⟩ := hrel
      by_cases hk0 : k = 0
      · subst hk0
        go_wp2
        go_ret
        exact ⟨ret_int (by rw [HF.out, HK.out]; rfl), _, rfl⟩
      · obtain ⟨j, rfl⟩ : ∃ j, k = j + 1 := ⟨k - 1, by omega⟩
        have hca := ha.cells j (by omega)
        have hcb := hb.cells j (by omega)
        by_cases he : A[j]?.getD 0 = B[j]?.getD 0
        · have HE : Hid (cmpTop A B (j + 1) = cmpTop A B j) := cmpTop_same he
          have hb1 : (A[j]?.getD 0 != B[j]?.getD 0) = false := by simp [he]
          clear he
          go_wp2
          go_quiet (fail)
          go_wp2
          go_roundw
          case rel => exact ⟨j, _, by omega, rfl, HK.out.trans HE.out, rfl⟩
          case measure => simp [intOf]
        · have hb1 : (A[j]?.getD 0 != B[j]?.getD 0) = true := by simp [he]
          by_cases hl : A[j]?.getD 0 < B[j]?.getD 0
          · have HE : Hid (cmpTop A B (j + 1) = -1) := cmpTop_lt hl
            go_wp2
            go_quiet (fail)
            go_wp2
            go_quiet (fail)
            go_wp2
            go_ret
            exact ⟨ret_int (by rw [HF.out, HK.out, HE.out]), dn3 _ _ _ _⟩
          · have HE : Hid (cmpTop A B (j + 1) = 1) := cmpTop_gt (by omega)
            go_wp2
            go_quiet (fail)
            go_wp2
            go_quiet (fail)
            go_wp2
            go_ret
            exact ⟨ret_int (by rw [HF.out, HK.out, HE.out]), dn3 _ _ _ _⟩
  · have hn : ((an : Int) != (bn : Int)) = true := by rw [bne_iff_ne]; omega
    by_cases hlt : (an : Int) < bn
    · have HF : Hid (cmpI A an B bn = -1) := by simp [Hid, cmpI, hne]; omega
      go_enter Try.func19, Try.ntmps19
      go_wp2
      go_quiet (fail)
      go_wp2
      go_quiet (fail)
      go_wp2
      go_ret
      exact ⟨ret_int HF.out.symm, dn2 _ _ _⟩
    · have HF : Hid (cmpI A an B bn = 1) := by simp [Hid, cmpI, hne]; omega
      go_enter Try.func19, Try.ntmps19
      go_wp2
      go_quiet (fail)
      go_wp2
      go_quiet (fail)
      go_wp2
      go_ret
      exact ⟨ret_int HF.out.symm, dn2 _ _ _⟩
end Go.Proofs.Qxb6601525a
