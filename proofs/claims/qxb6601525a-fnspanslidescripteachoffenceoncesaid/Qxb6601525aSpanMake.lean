import Derived.Test.Qxb6601525aSpanParts
import Derived.Lib.SliceRun
namespace Go.Proofs.Qxb6601525a
open Go.RowKit

set_option maxHeartbeats 1000000 in
theorem dom_zero (a : Option Addr) (c : Nat) (E : List Int) (w : World) :
    Calls Try.prog 11 #[.slice a 0 c] w fun r w' => DomAns E 0 w r w' := by
  go_enter Try.func11, Try.ntmps11
  go_wp2
  refine wp_loop_rounds 1 ?_
  rw [rounds_succ]
  go_wp2
  go_ret
  exact ⟨true, rfl, fun _ i h => by omega, 0, rfl⟩

theorem info22' : (Try.prog.info? 22).map (fun i => (i.zero, i.size, i.bytes)) = some (some (.int .u64 0), 1, 8) := by kernel_rfl
def zeroWords (m : Nat) : Array Value := madeCells #[.int .u64 0] m
theorem make28 (m : Nat) (hm : m ≤ 65536) (W : World) :
    (Instr.makeSlice 28 (.int .i64 (m : Int)) (.int .i64 (m : Int))).run Try.prog W = .ok (.slice (some ⟨W.heap.size, 0, none⟩) m m) (W.alloc (.cells (zeroWords m) 22)) := by
  obtain ⟨i, hi, hz, hs, hb⟩ := info_parts info22'
  have hr := run_make (P := Try.prog) W 28 22 i (.int .u64 0) Try.underlying28 hi hz .i64 .i64 m m (by omega) (Int.le_refl _) (by rw [hb]; omega) (by omega)
  simp only [Int.toNat_natCast, hs, Nat.mul_one] at hr
  exact hr

/-- The first k cells of the row 'g' (n cells in all) are the epochs E. -/
def EpTo (w : World) (g : Nat) (E : List Int) (k n : Nat) : Prop := ∃ cur, Blk w g cur 22 ∧ cur.size = n ∧ ∀ j : Nat, j < k → cur[j]? = some (.int .u64 (E[j]?.getD 0))
theorem EpTo.new (w : World) (E : List Int) (n : Nat) : EpTo (w.alloc (.cells (zeroWords n) 22)) w.heap.size E 0 n := ⟨zeroWords n, Blk.new _ _ _, size_madeCells _ _, fun j h => by omega⟩
theorem EpTo.there {w : World} {g : Nat} {E : List Int} {k n : Nat} (h : EpTo w g E k n) {j : Nat} (hj : j < n) : (∃ v, w.cell? ⟨g, j, none⟩ = some v) ∧ w.frozen? ⟨g, j, none⟩ = false := by
  obtain ⟨cur, hb, hs, _⟩ := h
  exact ⟨⟨cur[j]'(by omega), by rw [hb.cell]; exact Array.getElem?_eq_getElem _⟩, hb.free j⟩
theorem EpTo.at_ {w : World} {g : Nat} {E : List Int} {k n : Nat} (h : EpTo w g E k n) {j : Nat} (hj : j < k) : w.cell? ⟨g, j, none⟩ = some (.int .u64 (E[j]?.getD 0)) := by
  obtain ⟨cur, hb, _, hc⟩ := h
  rw [hb.cell]; exact hc j hj
theorem EpTo.step {w : World} {g : Nat} {E : List Int} {k n : Nat} (h : EpTo w g E k n) (hk : k < n) : EpTo (w.setCell ⟨g, k, none⟩ (.int .u64 (E[k]?.getD 0))) g E (k + 1) n := by
  obtain ⟨cur, hb, hs, hc⟩ := h
  refine ⟨_, hb.set k _, by simpa using hs, fun j hj => ?_⟩
  by_cases e : j = k
  · subst e
    rw [Array.getElem?_setIfInBounds_self_of_lt (by omega)]
  · rw [Array.getElem?_setIfInBounds_ne (fun h => e h.symm)]
    exact hc j (by omega)
theorem EpTo.of {w w' : World} {g : Nat} {E : List Int} {k n : Nat} (h : EpTo w g E k n) (hh : w'.heap[g]? = w.heap[g]?) : EpTo w' g E k n := by
  obtain ⟨cur, hb, hr⟩ := h
  exact ⟨cur, hb.of hh, hr⟩
theorem EpTo.lt {w : World} {g : Nat} {E : List Int} {k n : Nat} (h : EpTo w g E k n) : g < w.heap.size := by
  obtain ⟨cur, hb, _⟩ := h
  exact hb.lt

/-- What 'copyEpochs' leaves of a slice that is not nil. -/
def CopyPost (w : World) (E : List Int) (n : Nat) (r : Ending) (w' : World) : Prop :=
  ∃ g : Nat, r = .returned (.slice (some ⟨g, 0, none⟩) n n) ∧ w.heap.size ≤ g ∧ EpTo w' g E n n ∧ w.grownBy w' none

set_option maxHeartbeats 1000000 in
theorem copy_any (b off n c : Nat) (E : List Int) (w : World) (hn : n ≤ 65536) (hE : ∀ i : Nat, i < n → w.cell? ⟨b, off + i, none⟩ = some (.int .u64 (E[i]?.getD 0))) :
    Calls Try.prog 14 #[.slice (some ⟨b, off, none⟩) n c] w fun r w' => CopyPost w E n r w' := by
  have q28 : ∀ (w : World) (a : Option Addr) (n c n' c' : Nat), (binOp .eql 28 (.slice a n c) (.slice none n' c')).run Try.prog w = .ok (.bool a.isNone) w := fun w a n c n' c' => Lib.run_eql_slice_nil w 28 22 a n c n' c' Try.underlying28
  have mk := make28 n hn
  go_enter Try.func14, Try.ntmps14
  go_wp2
  obtain ⟨g, hg⟩ : ∃ g : Nat, g = w.heap.size := ⟨_, rfl⟩
  have HG : Hid (g = w.heap.size) := hg
  rw [← hg]
  have hst := EpTo.new w E n
  rw [← hg] at hst
  clear hg
  go_loopw [12] (fun i wr => ∃ k : Nat, k ≤ n ∧ i = .int .i64 k ∧ EpTo wr g E k n ∧ w.grownBy wr none) (fun i _ => n - (intOf i).toNat)
  case atStart => exact ⟨0, Nat.zero_le _, rfl, hst, Gr.alloc (Gr.refl _ _) _⟩
  case round =>
    obtain ⟨k, hk, rfl, hto, hgr⟩ := hrel
    by_cases hlt : k < n
    · have hb : b < w.heap.size := by have := World.block_lt_of_cell? w _ (hE k hlt); simpa using this
      have hc : wr.cell? ⟨b, off + k, none⟩ = some (.int .u64 (E[k]?.getD 0)) := hgr.cell (hE k hlt) (by simp)
      obtain ⟨⟨v, hv⟩, hfr⟩ := hto.there hlt
      go_wp2
      go_roundw
      case rel => exact ⟨k + 1, by omega, by go_num, hto.step hlt, Gr.setNew hgr (Nat.le_of_eq HG.out.symm) _ _⟩
      case measure => simp [intOf]; omega
    · obtain rfl : n = k := by omega
      go_wp2
      go_ret
      exact ⟨g, rfl, Nat.le_of_eq HG.out.symm, hto, hgr⟩

set_option maxHeartbeats 1000000 in
theorem copy_zero (a : Addr) (c : Nat) (E : List Int) (w : World) :
    Calls Try.prog 14 #[.slice (some a) 0 c] w fun r w' => CopyPost w E 0 r w' := by
  have q28 : ∀ (w : World) (a : Option Addr) (n c n' c' : Nat), (binOp .eql 28 (.slice a n c) (.slice none n' c')).run Try.prog w = .ok (.bool a.isNone) w := fun w a n c n' c' => Lib.run_eql_slice_nil w 28 22 a n c n' c' Try.underlying28
  have mk := make28 0 (by omega)
  rw [Int.natCast_zero] at mk
  go_enter Try.func14, Try.ntmps14
  go_wp2
  refine wp_loop_rounds 1 ?_
  rw [rounds_succ]
  go_wp2
  go_ret
  exact ⟨w.heap.size, rfl, Nat.le_refl _, EpTo.new w E 0, Gr.alloc (Gr.refl _ _) _⟩

set_option maxHeartbeats 1000000 in
theorem copy_nil (w : World) : Calls Try.prog 14 #[.slice none 0 0] w fun r w' => r = .returned (.slice none 0 0) ∧ w' = w := by
  have q28 : ∀ (w : World) (a : Option Addr) (n c n' c' : Nat), (binOp .eql 28 (.slice a n c) (.slice none n' c')).run Try.prog w = .ok (.bool a.isNone) w := fun w a n c n' c' => Lib.run_eql_slice_nil w 28 22 a n c n' c' Try.underlying28
  go_enter Try.func14, Try.ntmps14
  go_wp2
  go_ret
  exact ⟨rfl, rfl⟩
end Go.Proofs.Qxb6601525a
