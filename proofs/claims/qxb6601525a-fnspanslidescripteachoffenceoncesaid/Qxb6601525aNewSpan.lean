import Derived.Test.Qxb6601525aSpanMake
namespace Go.Proofs.Qxb6601525a
open Go.RowKit

theorem info47 : (Try.prog.info? 47).map (fun i => (i.zero, i.size, i.bytes)) = some (some (.agg #[.int .i64 0, .int .i64 0, .int .u64 0, .int .u64 0, .int .i64 0]), 5, 40) := by kernel_rfl
def zeroOffs (m : Nat) : Array Value := madeCells #[.int .i64 0, .int .i64 0, .int .u64 0, .int .u64 0, .int .i64 0] (m * 5)
theorem make45 (m : Nat) (hm : m ≤ 65536) (W : World) :
    (Instr.makeSlice 45 (.int .i64 (m : Int)) (.int .i64 (m : Int))).run Try.prog W = .ok (.slice (some ⟨W.heap.size, 0, none⟩) m m) (W.alloc (.cells (zeroOffs m) 47)) := by
  obtain ⟨i, hi, hz, hs, hb⟩ := info_parts info47
  have hr := run_make (P := Try.prog) W 45 47 i _ Try.underlying45 hi hz .i64 .i64 m m (by omega) (Int.le_refl _) (by rw [hb]; omega) (by omega)
  simp only [Int.toNat_natCast, hs] at hr
  exact hr

def OffTo (w : World) (go : Nat) (E : List Int) (k n : Nat) : Prop :=
  ∃ cur, Blk w go cur 47 ∧ cur.size = n * 5 ∧ ∀ j : Nat, j < k → cur[j * 5]? = some (.int .i64 j) ∧ cur[j * 5 + 2]? = some (.int .u64 (E[j]?.getD 0))
theorem OffTo.new (w : World) (E : List Int) (n : Nat) : OffTo (w.alloc (.cells (zeroOffs n) 47)) w.heap.size E 0 n := ⟨zeroOffs n, Blk.new _ _ _, size_madeCells _ _, fun j h => by omega⟩
theorem OffTo.offs {w : World} {go : Nat} {E : List Int} {n : Nat} (h : OffTo w go E n n) : Offs w go E n := by
  obtain ⟨cur, hb, _, hc⟩ := h
  exact ⟨cur, hb, hc⟩
theorem OffTo.there {w : World} {g : Nat} {E : List Int} {k n : Nat} (h : OffTo w g E k n) {j : Nat} (hj : j < n * 5) : (∃ v, w.cell? ⟨g, j, none⟩ = some v) ∧ w.frozen? ⟨g, j, none⟩ = false := by
  obtain ⟨cur, hb, hs, _⟩ := h
  exact ⟨⟨cur[j]'(by omega), by rw [hb.cell]; exact Array.getElem?_eq_getElem _⟩, hb.free j⟩
theorem OffTo.alloc {w : World} {go : Nat} {E : List Int} {k n : Nat} (h : OffTo w go E k n) (o : Obj) : OffTo (w.alloc o) go E k n := by
  obtain ⟨cur, hb, hr⟩ := h
  exact ⟨cur, hb.alloc o, hr⟩


theorem getElem?_set_self {C : Array Value} {i : Nat} {v : Value} (h : i < C.size) : (C.setIfInBounds i v)[i]? = some v := Array.getElem?_setIfInBounds_self_of_lt h
theorem getElem?_set_ne {C : Array Value} {i j : Nat} {v : Value} (h : i ≠ j) : (C.setIfInBounds i v)[j]? = C[j]? := Array.getElem?_setIfInBounds_ne h
theorem OffTo.step {w : World} {go : Nat} {E : List Int} {k n : Nat} (h : OffTo w go E k n) (hk : k < n) (x y z : Value) :
    OffTo (((((w.setCell ⟨go, k * 5, none⟩ (.int .i64 k)).setCell ⟨go, k * 5 + 1, none⟩ x).setCell ⟨go, k * 5 + 2, none⟩ (.int .u64 (E[k]?.getD 0))).setCell ⟨go, k * 5 + 3, none⟩ y).setCell ⟨go, k * 5 + 4, none⟩ z) go E (k + 1) n := by
  obtain ⟨cur, hb, hs, hc⟩ := h
  refine ⟨_, ((((hb.set _ _).set _ _).set _ _).set _ _).set _ _, by simpa using hs, fun j hj => ?_⟩
  by_cases e : j = k
  · subst e
    refine ⟨?_, ?_⟩
    · rw [getElem?_set_ne (by omega), getElem?_set_ne (by omega), getElem?_set_ne (by omega), getElem?_set_ne (by omega), getElem?_set_self (by omega)]
    · rw [getElem?_set_ne (by omega), getElem?_set_ne (by omega), getElem?_set_self (by simp; omega)]
  · have hj' := hc j (by omega)
    refine ⟨?_, ?_⟩
    · rw [getElem?_set_ne (by omega), getElem?_set_ne (by omega), getElem?_set_ne (by omega), getElem?_set_ne (by omega), getElem?_set_ne (by omega)]; exact hj'.1
    · rw [getElem?_set_ne (by omega), getElem?_set_ne (by omega), getElem?_set_ne (by omega), getElem?_set_ne (by omega), getElem?_set_ne (by omega)]; exact hj'.2

/-- What 'ZZNewSpan' leaves. -/
def NewPost (w : World) (E : List Int) (n : Nat) (width : Int) (r : Ending) (w' : World) : Prop :=
  ∃ go gs : Nat, r = .returned (.pointer (some ⟨gs, 0, none⟩)) ∧ w.heap.size ≤ go ∧ go < gs ∧ Offs w' go E n ∧ SpanAt w' gs go n width 0 0 ∧ w.grownBy w' none

set_option maxHeartbeats 1000000 in
theorem newSpan_any (g n : Nat) (E : List Int) (width : Int) (w : World) (hn : n ≤ 65536) (hE : EpTo w g E n n) :
    Calls Try.prog 15 #[.slice (some ⟨g, 0, none⟩) n n, .int .u64 width, .int .i64 0, .int .i64 0] w fun r w' => NewPost w E n width r w' := by
  have mk := make45 n hn
  go_enter Try.func15, Try.ntmps15
  go_wp2
  obtain ⟨go, hgo⟩ : ∃ go : Nat, go = w.heap.size := ⟨_, rfl⟩
  have HG : Hid (go = w.heap.size) := hgo
  rw [← hgo]
  have hst := OffTo.new w E n
  rw [← hgo] at hst
  clear hgo
  go_loopw [16] (fun i wr => ∃ k : Nat, k ≤ n ∧ i = .int .i64 k ∧ OffTo wr go E k n ∧ w.grownBy wr none) (fun i _ => n - (intOf i).toNat)
  case atStart => exact ⟨0, Nat.zero_le _, rfl, hst, Gr.alloc (Gr.refl _ _) _⟩
  case round =>
    obtain ⟨k, hk, rfl, hto, hgr⟩ := hrel
    by_cases hlt : k < n
    · have hc : wr.cell? ⟨g, k, none⟩ = some (.int .u64 (E[k]?.getD 0)) := hgr.cell (hE.at_ hlt) (by simp)
      obtain ⟨⟨v0, hv0⟩, hf0⟩ := hto.there (show k * 5 < n * 5 by omega)
      obtain ⟨⟨v1, hv1⟩, hf1⟩ := hto.there (show k * 5 + 1 < n * 5 by omega)
      obtain ⟨⟨v2, hv2⟩, hf2⟩ := hto.there (show k * 5 + 2 < n * 5 by omega)
      obtain ⟨⟨v3, hv3⟩, hf3⟩ := hto.there (show k * 5 + 3 < n * 5 by omega)
      obtain ⟨⟨v4, hv4⟩, hf4⟩ := hto.there (show k * 5 + 4 < n * 5 by omega)
      go_wp2
      go_roundw
      case rel => exact ⟨k + 1, by omega, by go_num, hto.step hlt _ _ _, Gr.setNew (Gr.setNew (Gr.setNew (Gr.setNew (Gr.setNew hgr (Nat.le_of_eq HG.out.symm) _ _) (Nat.le_of_eq HG.out.symm) _ _) (Nat.le_of_eq HG.out.symm) _ _) (Nat.le_of_eq HG.out.symm) _ _) (Nat.le_of_eq HG.out.symm) _ _⟩
      case measure => simp [intOf]; omega
    · obtain rfl : n = k := by omega
      go_wp2
      go_ret
      refine ⟨go, wr.heap.size, rfl, Nat.le_of_eq HG.out.symm, ?_, (hto.alloc _).offs, ⟨Blk.new _ _ _⟩, Gr.alloc hgr _⟩
      obtain ⟨cur, hb, _⟩ := hto
      exact hb.lt

set_option maxHeartbeats 1000000 in
theorem newSpan_zero (a : Option Addr) (c : Nat) (width : Int) (w : World) :
    Calls Try.prog 15 #[.slice a 0 c, .int .u64 width, .int .i64 0, .int .i64 0] w fun r w' => ∃ gs : Nat, r = .returned (.pointer (some ⟨gs, 0, none⟩)) ∧ w.grownBy w' none := by
  have mk := make45 0 (by omega)
  rw [Int.natCast_zero] at mk
  go_enter Try.func15, Try.ntmps15
  go_wp2
  refine wp_loop_rounds 1 ?_
  rw [rounds_succ]
  go_wp2
  go_ret
  exact ⟨_, rfl, Gr.alloc (Gr.alloc (Gr.refl _ _) _) _⟩
end Go.Proofs.Qxb6601525a
