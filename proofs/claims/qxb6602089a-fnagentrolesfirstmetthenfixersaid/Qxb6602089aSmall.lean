import Derived.Test.Qxb6602089aMem
import Derived.Deep.DeepCutAuto
namespace Go.Proofs.Qxb6602089a
open Go.RowKit

/-- A count in the law's range. -/
def IntPost (e : Ending) : Prop := ∃ v : Int, e = .returned (.int .i64 v) ∧ 0 ≤ v ∧ v ≤ 2097152
set_option maxHeartbeats 400000 in
theorem add_any (t n : Int) (w : World) (ht : 0 ≤ t) (hn : 0 ≤ n) : Calls Try.prog 16 #[.int .i64 t, .int .i64 n] w fun e w' => IntPost e ∧ w = w' := by
  by_cases h1 : 1048576 < t
  · go_enter Try.func16, Try.ntmps16
    go_wp2
    go_ret
    exact ⟨⟨_, rfl, by decide, by decide⟩, rfl⟩
  by_cases h2 : 1048576 < n
  · go_enter Try.func16, Try.ntmps16
    go_wp2
    go_ret
    exact ⟨⟨_, rfl, by decide, by decide⟩, rfl⟩
  · go_enter Try.func16, Try.ntmps16
    go_wp2
    go_ret
    exact ⟨⟨_, rfl, by omega, by omega⟩, rfl⟩

/-- n strings lie at the address a (where there are any). -/
def StrsAt (w : World) (a : Option Addr) (n : Nat) : Prop := n = 0 ∨ ∃ b o : Nat, a = some ⟨b, o, none⟩ ∧ ∀ j : Nat, j < n → ∃ s : ByteArray, w.cell? ⟨b, o + j, none⟩ = some (.string s) ∧ s.size ≤ maxLen

set_option maxHeartbeats 400000 in
theorem strs_core (t : Int) (b o n c : Nat) (w : World) (ht : 0 ≤ t) (hn : n ≤ 9223372036854775807) (hs : ∀ j : Nat, j < n → ∃ s : ByteArray, w.cell? ⟨b, o + j, none⟩ = some (.string s) ∧ s.size ≤ maxLen) :
    Calls Try.prog 17 #[.int .i64 t, .slice (some ⟨b, o, none⟩) n c] w fun e w' => IntPost e ∧ w = w' := by
  have HS : Hid (∀ j : Nat, j < n → ∃ s : ByteArray, w.cell? ⟨b, o + j, none⟩ = some (.string s) ∧ s.size ≤ maxLen) := hs
  clear hs
  by_cases h1 : 1048576 < n
  · go_enter Try.func17, Try.ntmps17
    go_wp2
    go_ret
    exact ⟨⟨_, rfl, by decide, by decide⟩, rfl⟩
  · go_enter Try.func17, Try.ntmps17
    go_wp2_with fail
    refine (add_any _ _ w ht (by omega)).mono ?_
    rintro e w' ⟨⟨v, rfl, hv0, hv1⟩, rfl⟩
    go_wp2_with fail
    go_loop [0, 5] (fun t i => ∃ (k : Nat) (v : Int), k ≤ n ∧ i = .int .i64 k ∧ t = .int .i64 v ∧ 0 ≤ v ∧ v ≤ 2097152) (fun _ i => n - (intOf i).toNat)
    case atStart => exact ⟨0, v, Nat.zero_le _, rfl, rfl, hv0, hv1⟩
    case round =>
      obtain ⟨k, u, hk, rfl, rfl, hu0, hu1⟩ := hrel
      by_cases hlt : k < n
      · by_cases hle : u ≤ 1048576
        · obtain ⟨s, hc, hsz⟩ := HS.out k hlt
          unfold maxLen at hsz
          go_wp2_with fail
          refine (add_any u _ w hu0 (by omega)).mono ?_
          rintro e w' ⟨⟨v2, rfl, hv20, hv21⟩, rfl⟩
          go_wp2_with fail
          go_round
          case rel => exact ⟨k + 1, v2, by omega, by go_num, rfl, hv20, hv21⟩
          case measure => simp [intOf]; omega
        · go_wp2_with fail
          go_ret
          exact ⟨⟨_, rfl, hu0, hu1⟩, rfl⟩
      · go_wp2_with fail
        go_ret
        exact ⟨⟨_, rfl, hu0, hu1⟩, rfl⟩

set_option maxHeartbeats 400000 in
theorem strs_zero (t : Int) (a : Option Addr) (c : Nat) (w : World) (ht : 0 ≤ t) :
    Calls Try.prog 17 #[.int .i64 t, .slice a 0 c] w fun e w' => IntPost e ∧ w = w' := by
  go_enter Try.func17, Try.ntmps17
  go_wp2_with fail
  refine (add_any _ _ w ht (by omega)).mono ?_
  rintro e w' ⟨⟨v, rfl, hv0, hv1⟩, rfl⟩
  go_wp2_with fail
  refine wp_loop_rounds 1 ?_
  rw [rounds_succ]
  go_wp2_with fail
  go_ret
  exact ⟨⟨_, rfl, hv0, hv1⟩, rfl⟩

theorem strs_any (t : Int) (a : Option Addr) (n c : Nat) (w : World) (ht : 0 ≤ t) (hn : n ≤ 9223372036854775807) (hs : StrsAt w a n) :
    Calls Try.prog 17 #[.int .i64 t, .slice a n c] w fun e w' => IntPost e ∧ w = w' := by
  rcases hs with rfl | ⟨b, o, rfl, hs⟩
  · exact strs_zero t a c w ht
  · exact strs_core t b o n c w ht hn hs

/-- What is known of the tasks: per index their strings and their 'WaitsOn' slice. -/
structure Tk where
  ro : Nat → ByteArray
  ki : Nat → ByteArray
  ph : Nat → ByteArray
  wa : Nat → Option Addr
  wl : Nat → Nat
  wc : Nat → Nat
/-- n tasks lie from the cell 'off' of block b on. -/
structure TasksAt (w : World) (b off n : Nat) (T : Tk) : Prop where
  ro : ∀ i : Nat, i < n → w.cell? ⟨b, off + i * 4, none⟩ = some (.string (T.ro i))
  ki : ∀ i : Nat, i < n → w.cell? ⟨b, off + i * 4 + 1, none⟩ = some (.string (T.ki i))
  ph : ∀ i : Nat, i < n → w.cell? ⟨b, off + i * 4 + 2, none⟩ = some (.string (T.ph i))
  wt : ∀ i : Nat, i < n → w.cell? ⟨b, off + i * 4 + 3, none⟩ = some (.slice (T.wa i) (T.wl i) (T.wc i))
  strs : ∀ i : Nat, i < n → StrsAt w (T.wa i) (T.wl i)
  ros : ∀ i : Nat, i < n → (T.ro i).size ≤ 9223372036854775807
  kis : ∀ i : Nat, i < n → (T.ki i).size ≤ 9223372036854775807
  phs : ∀ i : Nat, i < n → (T.ph i).size ≤ 9223372036854775807
  wls : ∀ i : Nat, i < n → T.wl i ≤ 9223372036854775807
  nil : ∀ i : Nat, i < n → T.wa i = none → T.wl i = 0 ∧ T.wc i = 0

set_option maxRecDepth 20000 in
set_option maxHeartbeats 1000000 in
theorem defBytes_core (name fixer : ByteArray) (b off n c : Nat) (T : Tk) (w : World) (hname : name.size ≤ 9223372036854775807) (hfix : fixer.size ≤ 9223372036854775807) (hn : n ≤ 9223372036854775807) (hT : TasksAt w b off n T) :
    Calls Try.prog 9 #[.string name, .string fixer, .slice (some ⟨b, off, none⟩) n c] w fun e w' => IntPost e ∧ w = w' := by
  go_enter Try.func9, Try.ntmps9
  go_wp2_with fail
  refine (add_any _ _ _ (by omega) (by omega)).mono ?_
  rintro e w' ⟨⟨v1, rfl, v10, v11⟩, rfl⟩
  go_wp2_with fail
  refine (add_any _ _ _ (by omega) (by omega)).mono ?_
  rintro e w' ⟨⟨v2, rfl, v20, v21⟩, rfl⟩
  by_cases h1 : 1048576 < n
  · go_wp2_with fail
    go_ret
    exact ⟨⟨_, rfl, by decide, by decide⟩, rfl⟩
  go_wp2_with fail
  refine (add_any _ _ _ (by omega) (by omega)).mono ?_
  rintro e w' ⟨⟨v3, rfl, v30, v31⟩, rfl⟩
  go_wp2_with fail
  go_loop [7, 8] (fun t i => ∃ (k : Nat) (v : Int), k ≤ n ∧ i = .int .i64 k ∧ t = .int .i64 v ∧ 0 ≤ v ∧ v ≤ 2097152) (fun _ i => n - (intOf i).toNat)
  case atStart => exact ⟨0, v3, Nat.zero_le _, rfl, rfl, v30, v31⟩
  case round =>
    obtain ⟨k, u, hk, rfl, rfl, hu0, hu1⟩ := hrel
    clear v30 v31 v20 v21 v10 v11
    by_cases hlt : k < n
    · by_cases hle : u ≤ 1048576
      · have c0 := hT.ro k hlt
        have c1 := hT.ki k hlt
        have c2 := hT.ph k hlt
        have c3 := hT.wt k hlt
        have z0 := hT.ros k hlt
        have z1 := hT.kis k hlt
        have z2 := hT.phs k hlt
        have z3 := hT.wls k hlt
        have hst := hT.strs k hlt
        go_wp2_with fail
        refine (add_any _ _ _ (by omega) (by omega)).mono ?_
        rintro e w' ⟨⟨a1, rfl, a10, a11⟩, rfl⟩
        go_wp2_with fail
        refine (add_any _ _ _ (by omega) (by omega)).mono ?_
        rintro e w' ⟨⟨a2, rfl, a20, a21⟩, rfl⟩
        go_wp2_with fail
        refine (add_any _ _ _ (by omega) (by omega)).mono ?_
        rintro e w' ⟨⟨a3, rfl, a30, a31⟩, rfl⟩
        go_wp2_with fail
        refine (strs_any _ _ _ _ _ (by omega) (by omega) hst).mono ?_
        rintro e w' ⟨⟨a4, rfl, a40, a41⟩, rfl⟩
        go_wp2_with fail
        go_round
        case rel => exact ⟨k + 1, a4, by omega, by go_num, rfl, a40, a41⟩
        case measure => simp [intOf]; omega
      · go_wp2_with fail
        go_ret
        exact ⟨⟨_, rfl, hu0, hu1⟩, rfl⟩
    · go_wp2_with fail
      go_ret
      exact ⟨⟨_, rfl, hu0, hu1⟩, rfl⟩

set_option maxRecDepth 20000 in
set_option maxHeartbeats 1000000 in
theorem defBytes_zero (name fixer : ByteArray) (a : Option Addr) (c : Nat) (w : World) (hname : name.size ≤ 9223372036854775807) (hfix : fixer.size ≤ 9223372036854775807) :
    Calls Try.prog 9 #[.string name, .string fixer, .slice a 0 c] w fun e w' => IntPost e ∧ w = w' := by
  go_enter Try.func9, Try.ntmps9
  go_wp2_with fail
  refine (add_any _ _ _ (by omega) (by omega)).mono ?_
  rintro e w' ⟨⟨v1, rfl, v10, v11⟩, rfl⟩
  go_wp2_with fail
  refine (add_any _ _ _ (by omega) (by omega)).mono ?_
  rintro e w' ⟨⟨v2, rfl, v20, v21⟩, rfl⟩
  go_wp2_with fail
  refine (add_any _ _ _ (by omega) (by omega)).mono ?_
  rintro e w' ⟨⟨v3, rfl, v30, v31⟩, rfl⟩
  go_wp2_with fail
  refine wp_loop_rounds 1 ?_
  rw [rounds_succ]
  go_wp2_with fail
  go_ret
  exact ⟨⟨_, rfl, v30, v31⟩, rfl⟩
end Go.Proofs.Qxb6602089a
