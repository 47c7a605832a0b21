import Derived.Test.Qxb6601667aScan
import Derived.Test.Qxb6601667aMem
import Derived.Lib.SliceRun
namespace Go.Proofs.Qxb6601667a
open Go.RowKit

set_option maxHeartbeats 1000000 in
theorem scan_zero (a : Option Addr) (c : Nat) (S : List Int) (w : World) :
    Calls Try.prog 9 #[.slice a 0 c] w fun e w' => PrePost S 0 e ∧ w = w' := by
  have hfin : PrePost S 0 (.returned (.tuple #[.int .i64 0, .bool false])) := PrePost.no (i := 0) rfl (At.start S) (Nat.zero_le _) (by omega) (by omega) (fun h => by omega)
  go_enter Try.func9, Try.ntmps9
  go_wp2
  go_ret2
  exact ⟨hfin, rfl⟩

theorem info5 : (Try.prog.info? 5).map (fun i => (i.zero, i.size, i.bytes)) = some (some (.int .u8 0), 1, 1) := by kernel_rfl
def zeroBytes (m : Nat) : Array Value := madeCells #[.int .u8 0] m
theorem make25 (m : Nat) (hm : m ≤ 1048576) (W : World) :
    (Instr.makeSlice 25 (.int .i64 (m : Int)) (.int .i64 (m : Int))).run Try.prog W = .ok (.slice (some ⟨W.heap.size, 0, none⟩) m m) (W.alloc (.cells (zeroBytes m) 5)) := by
  obtain ⟨i, hi, hz, hs, hb⟩ := info_parts info5
  have hr := run_make (P := Try.prog) W 25 5 i (.int .u8 0) Try.underlying25 hi hz .i64 .i64 m m (by omega) (Int.le_refl _) (by rw [hb]; omega) (by omega)
  simp only [Int.toNat_natCast, hs, Nat.mul_one] at hr
  exact hr

/-- The first k cells of the row 'g' (n cells in all) are the bytes S. -/
def BtTo (w : World) (g : Nat) (S : List Int) (k n : Nat) : Prop := ∃ cur, Blk w g cur 5 ∧ cur.size = n ∧ ∀ j : Nat, j < k → cur[j]? = some (.int .u8 (S[j]?.getD 0))
theorem BtTo.new (w : World) (S : List Int) (n : Nat) : BtTo (w.alloc (.cells (zeroBytes n) 5)) w.heap.size S 0 n := ⟨zeroBytes n, Blk.new _ _ _, size_madeCells _ _, fun j h => by omega⟩
theorem BtTo.there {w : World} {g : Nat} {S : List Int} {k n : Nat} (h : BtTo w g S k n) {j : Nat} (hj : j < n) : (∃ v, w.cell? ⟨g, j, none⟩ = some v) ∧ w.frozen? ⟨g, j, none⟩ = false := by
  obtain ⟨cur, hb, hs, _⟩ := h
  exact ⟨⟨cur[j]'(by omega), by rw [hb.cell]; exact Array.getElem?_eq_getElem _⟩, hb.free j⟩
theorem BtTo.at_ {w : World} {g : Nat} {S : List Int} {k n : Nat} (h : BtTo w g S k n) {j : Nat} (hj : j < k) : w.cell? ⟨g, j, none⟩ = some (.int .u8 (S[j]?.getD 0)) := by
  obtain ⟨cur, hb, _, hc⟩ := h
  rw [hb.cell]; exact hc j hj
theorem BtTo.step {w : World} {g : Nat} {S : List Int} {k n : Nat} (h : BtTo w g S k n) (hk : k < n) : BtTo (w.setCell ⟨g, k, none⟩ (.int .u8 (S[k]?.getD 0))) g S (k + 1) n := by
  obtain ⟨cur, hb, hs, hc⟩ := h
  refine ⟨_, hb.set k _, by simpa using hs, fun j hj => ?_⟩
  by_cases e : j = k
  · subst e
    rw [Array.getElem?_setIfInBounds_self_of_lt (by omega)]
  · rw [Array.getElem?_setIfInBounds_ne (fun h => e h.symm)]
    exact hc j (by omega)

/-- What the law knows behind its loop: the automaton has come to its end. -/
theorem fin_eq {S : List Int} {n k : Nat} {s : Int} (h : Final S n k s) {e : Ending} (hp : PrePost S n e) : e = .returned (.tuple #[.int .i64 k, .bool (decide (15 ≤ s))]) := by
  obtain ⟨i, t, b, rfl, hf, rfl⟩ := hp
  obtain ⟨rfl, rfl⟩ := h.unique hf
  rfl

set_option maxHeartbeats 1000000 in
theorem bytes_any (a : Option Addr) (n c : Nat) (w : World) (hn : n ≤ 1048576) :
    Calls Try.prog 7 #[.slice a n c] w fun r w' => r = .returned (.bool true) ∧ w = w' := by
  go_enter Try.func7, Try.ntmps7
  go_wp2
  go_ret
  exact ⟨rfl, rfl⟩

/-- Behind k taken bytes the state is a number's. -/
theorem At.range {S : List Int} {k : Nat} {s : Int} (h : At S k s) : 11 ≤ s ∧ s ≤ 18 := by
  have h1 : ∀ k : Nat, 11 ≤ sta S k ∧ sta S k ≤ 18 := fun k => by
    induction k with
    | zero => exact ⟨show (11 : Int) ≤ 11 by decide, show (11 : Int) ≤ 18 by decide⟩
    | succ k ih =>
      show 11 ≤ (nxt (sta S k) (S[k]?.getD 0)).1 ∧ (nxt (sta S k) (S[k]?.getD 0)).1 ≤ 18
      generalize sta S k = t at *
      unfold nxt
      repeat' split
      all_goals first | exact ih | exact ⟨by decide, by decide⟩
  rw [← h.eq]
  exact h1 k
theorem nxt_refuse {s c a : Int} (h : nxt s c = (a, false)) : a = s := by
  unfold nxt at h
  repeat' (split at h)
  all_goals first | (simp only [Prod.mk.injEq] at h; first | exact h.1.symm | (exact absurd h.2 (by decide)))

set_option maxRecDepth 20000 in
set_option maxHeartbeats 2000000 in
theorem match_core (b off n c : Nat) (S : List Int) (w : World) (hn0 : 0 < n) (hn : n ≤ 1048576)
    (hE : ∀ i : Nat, i < n → w.cell? ⟨b, off + i, none⟩ = some (.int .u8 (S[i]?.getD 0))) (hb : ∀ i : Nat, 0 ≤ S[i]?.getD 0 ∧ S[i]?.getD 0 ≤ 255) :
    Calls Try.prog 4 #[.slice (some ⟨b, off, none⟩) n c] w fun r w' => r = .returned (.bool true) ∧ Below w.heap.size w w' := by
  have q25 : ∀ (w : World) (a : Option Addr) (n c n' c' : Nat), (binOp .neq 25 (.slice a n c) (.slice none n' c')).run Try.prog w = .ok (.bool (!a.isNone)) w := fun w a n c n' c' => run_neq_slice_nil_any w 25 5 a n c n' c' Try.underlying25
  have mk := make25 n hn
  have HE : Hid (∀ i : Nat, i < n → w.cell? ⟨b, off + i, none⟩ = some (.int .u8 (S[i]?.getD 0))) := hE
  have HB : Hid (∀ i : Nat, 0 ≤ S[i]?.getD 0 ∧ S[i]?.getD 0 ≤ 255) := hb
  clear hE hb
  go_enter Try.func4, Try.ntmps4
  go_wp2_with (go_at_call 7; refine (bytes_any _ n c _ hn).mono ?_; rintro e w' ⟨rfl, rfl⟩)
  obtain ⟨g, hg⟩ : ∃ g : Nat, g = w.heap.size := ⟨_, rfl⟩
  have HG : Hid (g = w.heap.size) := hg
  rw [← hg]
  have hst := BtTo.new w S n
  rw [← hg] at hst
  clear hg mk q25
  go_loopw [4] (fun i wr => ∃ k : Nat, k ≤ n ∧ i = .int .i64 k ∧ BtTo wr g S k n ∧ w.grownBy wr none) (fun i _ => n - (intOf i).toNat)
  case atStart => exact ⟨0, Nat.zero_le _, rfl, hst, Gr.alloc (Gr.refl _ _) _⟩
  case round =>
    obtain ⟨k, hk, rfl, hto, hgr⟩ := hrel
    clear hst
    by_cases hlt : k < n
    · have hc : wr.cell? ⟨b, off + k, none⟩ = some (.int .u8 (S[k]?.getD 0)) := hgr.cell (HE.out k hlt) (by simp)
      obtain ⟨⟨v, hv⟩, hfr⟩ := hto.there hlt
      go_wp2_with fail
      go_roundw
      case rel => exact ⟨k + 1, by omega, by go_num, hto.step hlt, Gr.setNew hgr (Nat.le_of_eq HG.out.symm) _ _⟩
      case measure => simp [intOf]; omega
    · obtain rfl : n = k := by omega
      clear hlt
      have HC : Hid (∀ i : Nat, i < n → wr.cell? ⟨g, i, none⟩ = some (.int .u8 (S[i]?.getD 0))) := fun i hi => hto.at_ hi
      have hbel : Below w.heap.size w wr := (Below.refl _ _).grown hgr (Nat.le_refl _) (by simp)
      go_wp2_with fail
      obtain ⟨wo, rfl⟩ : ∃ wo : World, wo = wr := ⟨_, rfl⟩
      go_loop [5, 6] (fun st i => ∃ (k : Nat) (s : Int), k ≤ n ∧ i = .int .i64 k ∧ st = .int .i64 s ∧ At S k s) (fun _ i => n - (intOf i).toNat)
      case atStart => exact ⟨0, 11, Nat.zero_le _, rfl, rfl, At.start S⟩
      case round =>
        obtain ⟨k, s, hk, rfl, rfl, hat⟩ := hrel
        have hrg := hat.range
        by_cases hlt : k < n
        · have hkn : (k : Int) < n := by omega
          obtain ⟨d, Hd⟩ : ∃ x : Int, Hid (x = S[k]?.getD 0) := ⟨S[k]?.getD 0, show _ = _ from rfl⟩
          have ccd : wo.cell? ⟨g, k, none⟩ = some (.int .u8 d) := by rw [Hd.out]; exact HC.out k hlt
          have hd0 : 0 ≤ d := by rw [Hd.out]; exact (HB.out k).1
          have hd1 : d ≤ 255 := by rw [Hd.out]; exact (HB.out k).2
          obtain ⟨t, ok, ht⟩ : ∃ t ok, nxt s d = (t, ok) := ⟨_, _, rfl⟩
          have HT : Hid (nxt s d = (t, ok)) := ht
          clear ht
          go_wp2_with fail
          refine (zznext_any s d _ hd0 hd1).mono ?_
          rintro e w5 ⟨he, hw5⟩
          subst hw5
          unfold NextPost at he
          rw [HT.out] at he
          subst he
          cases ok
          · obtain rfl := nxt_refuse HT.out
            have hfin : Final S n k t := ⟨hat, hk, fun _ => by rw [← Hd.out, HT.out], hrg.1, hrg.2⟩
            have HF : Hid (Final S n k t) := hfin
            have hne : (t != t) = false := by simp
            go_wp2_with fail
            refine (scan_any g n n S _ hn0 hn HC.out).mono ?_
            rintro e w6 ⟨hp, hw6⟩
            subst hw6
            obtain rfl := fin_eq HF.out hp
            clear hp
            have hkk : ((k : Int) != (k : Int)) = false := by simp
            obtain ⟨h11, h18⟩ := hrg
            go_wp2_with fail
            go_ret
            exact ⟨rfl, hbel⟩
          · have hat' : At S (k + 1) t := hat.step (by rw [← Hd.out]; exact HT.out)
            go_wp2_with fail
            go_round
            case rel => exact ⟨k + 1, t, by omega, by go_num, rfl, hat'⟩
            case measure => simp [intOf]; omega
        · obtain rfl : n = k := by omega
          have HF : Hid (Final S n n s) := ⟨hat, hk, fun h => by omega, hrg.1, hrg.2⟩
          go_wp2_with fail
          refine (scan_any g n n S _ hn0 hn HC.out).mono ?_
          rintro e w6 ⟨hp, hw6⟩
          subst hw6
          obtain rfl := fin_eq HF.out hp
          clear hp
          have hkk : ((n : Int) != (n : Int)) = false := by simp
          obtain ⟨h11, h18⟩ := hrg
          go_wp2_with fail
          go_ret
          exact ⟨rfl, hbel⟩

set_option maxRecDepth 20000 in
set_option maxHeartbeats 2000000 in
theorem match_zero (a : Option Addr) (c : Nat) (w : World) :
    Calls Try.prog 4 #[.slice a 0 c] w fun r w' => r = .returned (.bool true) ∧ Below w.heap.size w w' := by
  have q25 : ∀ (w : World) (a : Option Addr) (n c n' c' : Nat), (binOp .neq 25 (.slice a n c) (.slice none n' c')).run Try.prog w = .ok (.bool (!a.isNone)) w := fun w a n c n' c' => run_neq_slice_nil_any w 25 5 a n c n' c' Try.underlying25
  have mk := make25 0 (by omega)
  rw [Int.natCast_zero] at mk
  have HF : Final [] 0 0 11 := ⟨At.start [], Nat.le_refl _, fun h => by omega, by decide, by decide⟩
  cases a with
  | none =>
    go_enter Try.func4, Try.ntmps4
    go_wp2_with (go_at_call 7; refine (bytes_any _ 0 c _ (by omega)).mono ?_; rintro e w' ⟨rfl, rfl⟩)
    refine wp_loop_rounds 1 ?_
    rw [rounds_succ]
    go_wp2_with fail
    refine (scan_zero none c [] _).mono ?_
    rintro e w6 ⟨hp, hw6⟩
    subst hw6
    obtain rfl := fin_eq HF hp
    clear hp HF
    go_wp2_with fail
    go_ret
    exact ⟨rfl, Below.refl _ _⟩
  | some x =>
    go_enter Try.func4, Try.ntmps4
    go_wp2_with (go_at_call 7; refine (bytes_any _ 0 c _ (by omega)).mono ?_; rintro e w' ⟨rfl, rfl⟩)
    refine wp_loop_rounds 1 ?_
    rw [rounds_succ]
    go_wp2_with fail
    refine wp_loop_rounds 1 ?_
    rw [rounds_succ]
    go_wp2_with fail
    refine (scan_zero _ 0 [] _).mono ?_
    rintro e w6 ⟨hp, hw6⟩
    subst hw6
    obtain rfl := fin_eq HF hp
    clear hp HF
    go_wp2_with fail
    go_ret
    exact ⟨rfl, (Below.refl _ _).alloc (Nat.le_refl _) _⟩
end Go.Proofs.Qxb6601667a
