import Derived.Test.Qxb6602089aClone
namespace Go.Proofs.Qxb6602089a
open Go.RowKit

theorem info33 : (Try.prog.info? 33).map (fun i => (i.zero, i.size, i.bytes)) = some (some (.agg #[.string ⟨#[]⟩, .string ⟨#[]⟩, .string ⟨#[]⟩, .slice none 0 0]), 4, 72) := by kernel_rfl
theorem info59 : (Try.prog.info? 59).map (fun i => (i.zero, i.size, i.bytes)) = some (some (.agg #[.string ⟨#[]⟩, .string ⟨#[]⟩, .string ⟨#[]⟩, .slice none 0 0]), 4, 72) := by kernel_rfl
def zeroTasks (m : Nat) : Array Value := madeCells #[.string ⟨#[]⟩, .string ⟨#[]⟩, .string ⟨#[]⟩, .slice none 0 0] (m * 4)
theorem make22 (m : Nat) (hm : m ≤ 4096) (W : World) :
    (Instr.makeSlice 22 (.int .i64 (m : Int)) (.int .i64 (m : Int))).run Try.prog W = .ok (.slice (some ⟨W.heap.size, 0, none⟩) m m) (W.alloc (.cells (zeroTasks m) 33)) := by
  obtain ⟨i, hi, hz, hs, hb⟩ := info_parts info33
  have hr := run_make (P := Try.prog) W 22 33 i _ Try.underlying22 hi hz .i64 .i64 m m (by omega) (Int.le_refl _) (by rw [hb]; omega) (by omega)
  simp only [Int.toNat_natCast, hs] at hr
  exact hr
theorem make26 (m : Nat) (hm : m ≤ 4096) (W : World) :
    (Instr.makeSlice 26 (.int .i64 (m : Int)) (.int .i64 (m : Int))).run Try.prog W = .ok (.slice (some ⟨W.heap.size, 0, none⟩) m m) (W.alloc (.cells (zeroTasks m) 59)) := by
  obtain ⟨i, hi, hz, hs, hb⟩ := info_parts info59
  have hr := run_make (P := Try.prog) W 26 59 i _ Try.underlying26 hi hz .i64 .i64 m m (by omega) (Int.le_refl _) (by rw [hb]; omega) (by omega)
  simp only [Int.toNat_natCast, hs] at hr
  exact hr

/-- The first k of the n tasks of row g (element type t) bear T's roles and kinds. -/
def CT (w : World) (g : Nat) (t : TypeId) (T : Tk) (k n : Nat) : Prop :=
  ∃ cur, Blk w g cur t ∧ cur.size = n * 4 ∧ ∀ j : Nat, j < k → cur[j * 4]? = some (.string (T.ro j)) ∧ cur[j * 4 + 1]? = some (.string (T.ki j)) ∧ (∃ p, cur[j * 4 + 2]? = some (.string p)) ∧ ∃ a l c, cur[j * 4 + 3]? = some (.slice a l c)
section
variable {w w' : World} {g : Nat} {t : TypeId} {T : Tk} {k n : Nat}
theorem CT.new (w : World) (T : Tk) (t : TypeId) (n : Nat) : CT (w.alloc (.cells (zeroTasks n) t)) w.heap.size t T 0 n := ⟨zeroTasks n, Blk.new _ _ _, size_madeCells _ _, fun j h => by omega⟩
theorem CT.there (h : CT w g t T k n) {j : Nat} (hj : j < n * 4) : (∃ v, w.cell? ⟨g, j, none⟩ = some v) ∧ w.frozen? ⟨g, j, none⟩ = false := by
  obtain ⟨cur, hb, hs, _⟩ := h
  exact ⟨⟨cur[j]'(by omega), by rw [hb.cell]; exact Array.getElem?_eq_getElem _⟩, hb.free j⟩
theorem CT.lt (h : CT w g t T k n) : g < w.heap.size := by
  obtain ⟨cur, hb, _⟩ := h
  exact hb.lt
theorem CT.of (h : CT w g t T k n) (hh : w'.heap[g]? = w.heap[g]?) : CT w' g t T k n := by
  obtain ⟨cur, hb, hr⟩ := h
  exact ⟨cur, hb.of hh, hr⟩
theorem CT.ro (h : CT w g t T k n) {j : Nat} (hj : j < k) : w.cell? ⟨g, j * 4, none⟩ = some (.string (T.ro j)) := by
  obtain ⟨cur, hb, _, hc⟩ := h
  rw [hb.cell]; exact (hc j hj).1
theorem CT.ki (h : CT w g t T k n) {j : Nat} (hj : j < k) : w.cell? ⟨g, j * 4 + 1, none⟩ = some (.string (T.ki j)) := by
  obtain ⟨cur, hb, _, hc⟩ := h
  rw [hb.cell]; exact (hc j hj).2.1
theorem CT.ph (h : CT w g t T k n) {j : Nat} (hj : j < k) : ∃ p, w.cell? ⟨g, j * 4 + 2, none⟩ = some (.string p) := by
  obtain ⟨cur, hb, _, hc⟩ := h
  rw [hb.cell]; exact (hc j hj).2.2.1
theorem CT.wt (h : CT w g t T k n) {j : Nat} (hj : j < k) : ∃ a l c, w.cell? ⟨g, j * 4 + 3, none⟩ = some (.slice a l c) := by
  obtain ⟨cur, hb, _, hc⟩ := h
  rw [hb.cell]; exact (hc j hj).2.2.2
theorem getElem?_set_self {C : Array Value} {i : Nat} {v : Value} (h : i < C.size) : (C.setIfInBounds i v)[i]? = some v := Array.getElem?_setIfInBounds_self_of_lt h
theorem getElem?_set_ne {C : Array Value} {i j : Nat} {v : Value} (h : i ≠ j) : (C.setIfInBounds i v)[j]? = C[j]? := Array.getElem?_setIfInBounds_ne h
theorem CT.step (h : CT w g t T k n) (hk : k < n) (p : ByteArray) (a : Option Addr) (l c : Nat) :
    CT ((((w.setCell ⟨g, k * 4, none⟩ (.string (T.ro k))).setCell ⟨g, k * 4 + 1, none⟩ (.string (T.ki k))).setCell ⟨g, k * 4 + 2, none⟩ (.string p)).setCell ⟨g, k * 4 + 3, none⟩ (.slice a l c)) g t T (k + 1) n := by
  obtain ⟨cur, hb, hs, hc⟩ := h
  refine ⟨_, (((hb.set _ _).set _ _).set _ _).set _ _, by simpa using hs, fun j hj => ?_⟩
  by_cases e : j = k
  · subst e
    refine ⟨?_, ?_, ⟨p, ?_⟩, ⟨a, l, c, ?_⟩⟩
    · rw [getElem?_set_ne (by omega), getElem?_set_ne (by omega), getElem?_set_ne (by omega), getElem?_set_self (by omega)]
    · rw [getElem?_set_ne (by omega), getElem?_set_ne (by omega), getElem?_set_self (by simp; omega)]
    · rw [getElem?_set_ne (by omega), getElem?_set_self (by simp; omega)]
    · rw [getElem?_set_self (by simp; omega)]
  · obtain ⟨h1, h2, h3, h4⟩ := hc j (by omega)
    refine ⟨?_, ?_, ?_, ?_⟩ <;> rw [getElem?_set_ne (by omega), getElem?_set_ne (by omega), getElem?_set_ne (by omega), getElem?_set_ne (by omega)]
    · exact h1
    · exact h2
    · exact h3
    · exact h4
end

theorem StrsAt.grown {w w' : World} {a : Option Addr} {n : Nat} (h : StrsAt w a n) (hg : w.grownBy w' none) : StrsAt w' a n := by
  rcases h with h | ⟨b, o, h1, h2⟩
  · exact .inl h
  · refine .inr ⟨b, o, h1, fun j hj => ?_⟩
    obtain ⟨s, h3, h4⟩ := h2 j hj
    exact ⟨s, hg.cell h3 (by simp), h4⟩

/-- What 'zzCloneTaskDefs' leaves of a slice that is not nil. -/
def CtPost (w : World) (T : Tk) (n : Nat) (e : Ending) (w' : World) : Prop :=
  ∃ g : Nat, e = .returned (.slice (some ⟨g, 0, none⟩) n n) ∧ w.heap.size ≤ g ∧ CT w' g 33 T n n ∧ w.grownBy w' none

set_option maxRecDepth 20000 in
set_option maxHeartbeats 1000000 in
theorem ct_core (b off n c : Nat) (T : Tk) (w : World) (hn : n ≤ 4096) (hT : TasksAt w b off n T) (hS : Short T n) :
    Calls Try.prog 10 #[.slice (some ⟨b, off, none⟩) n c] w fun e w' => CtPost w T n e w' := by
  have q22 : ∀ (w : World) (a : Option Addr) (n c n' c' : Nat), (binOp .eql 22 (.slice a n c) (.slice none n' c')).run Try.prog w = .ok (.bool a.isNone) w := fun w a n c n' c' => Lib.run_eql_slice_nil w 22 33 a n c n' c' Try.underlying22
  have mk := make22 n hn
  go_enter Try.func10, Try.ntmps10
  go_wp2
  obtain ⟨g, hg⟩ : ∃ g : Nat, g = w.heap.size := ⟨_, rfl⟩
  have HG : Hid (g = w.heap.size) := hg
  have hst := CT.new w T 33 n
  rw [← hg] at hst ⊢
  clear hg q22 mk
  go_loopw [4] (fun i wr => ∃ k : Nat, k ≤ n ∧ i = .int .i64 k ∧ CT wr g 33 T k n ∧ w.grownBy wr none) (fun i _ => n - (intOf i).toNat)
  case atStart => exact ⟨0, Nat.zero_le _, rfl, hst, Gr.alloc (Gr.refl _ _) _⟩
  case round =>
    obtain ⟨k, hk, rfl, hto, hgr⟩ := hrel
    clear hst
    by_cases hlt : k < n
    · have c0 := hgr.cell (hT.ro k hlt) (by simp)
      have c1 := hgr.cell (hT.ki k hlt) (by simp)
      have c2 := hgr.cell (hT.ph k hlt) (by simp)
      have c3 := hgr.cell (hT.wt k hlt) (by simp)
      have hgw : g < wr.heap.size := hto.lt
      have hst := (hT.strs k hlt).grown (Gr.alloc hgr (.cells #[.string (T.ro k), .string (T.ki k), .string (T.ph k), .slice (T.wa k) (T.wl k) (T.wc k)] 33))
      have hbt := Blk.new wr #[.string (T.ro k), .string (T.ki k), .string (T.ph k), .slice (T.wa k) (T.wl k) (T.wc k)] 33
      have hto0 : CT (wr.alloc (.cells #[.string (T.ro k), .string (T.ki k), .string (T.ph k), .slice (T.wa k) (T.wl k) (T.wc k)] 33)) g 33 T k n := hto.of (Below.heap_alloc _ _ _ hgw)
      have hgr0 := Gr.alloc hgr (.cells #[.string (T.ro k), .string (T.ki k), .string (T.ph k), .slice (T.wa k) (T.wl k) (T.wc k)] 33)
      have hnil := hT.nil k hlt
      have HN : Hid (T.wa k = none → T.wl k = 0 ∧ T.wc k = 0) := hnil
      have hsk := hS k hlt
      clear hnil hto hgr
      go_wp2_with fail
      refine (cl_any _ _ _ _ hsk hst HN.out).mono ?_
      rintro e w1 ⟨a1, l1, c1', rfl, hgr1⟩
      have hb1 := hbt.grown hgr1 (by simp)
      have hto1 : CT w1 g 33 T k n := hto0.of (hgr1.block g hto0.lt (by simp))
      have hgr2 : w.grownBy w1 none := Gr.trans hgr0 hgr1
      have hwr : w.heap.size ≤ wr.heap.size := by have := HG.out; omega
      obtain ⟨tb, htb⟩ : ∃ tb : Nat, tb = wr.heap.size := ⟨_, rfl⟩
      rw [← htb] at hb1 hgw hwr ⊢
      have d0 : w1.cell? ⟨tb, 0, none⟩ = some (.string (T.ro k)) := hb1.cell 0
      have d1 : w1.cell? ⟨tb, 1, none⟩ = some (.string (T.ki k)) := hb1.cell 1
      have d2 : w1.cell? ⟨tb, 2, none⟩ = some (.string (T.ph k)) := hb1.cell 2
      have d3 : w1.cell? ⟨tb, 3, none⟩ = some (.slice (T.wa k) (T.wl k) (T.wc k)) := hb1.cell 3
      have df := hb1.free 3
      obtain ⟨⟨v0, e0⟩, f0⟩ := hto1.there (show k * 4 < n * 4 by omega)
      obtain ⟨⟨v1, e1⟩, f1⟩ := hto1.there (show k * 4 + 1 < n * 4 by omega)
      obtain ⟨⟨v2, e2⟩, f2⟩ := hto1.there (show k * 4 + 2 < n * 4 by omega)
      obtain ⟨⟨v3, e3⟩, f3⟩ := hto1.there (show k * 4 + 3 < n * 4 by omega)
      have hne1 : ¬ g = tb := by omega
      have hne2 : ¬ tb = g := by omega
      have hgg : w.heap.size ≤ g := Nat.le_of_eq HG.out.symm
      have hto2 : CT (w1.setCell ⟨tb, 3, none⟩ (.slice a1 l1 c1')) g 33 T k n := hto1.of (heap_setCell_other _ _ _ _ (by simpa using hne1))
      clear hb1 hto0 hto1 hst hbt hgr0 hgr1 c0 c1 c2 c3 htb
      go_wp2_with fail
      go_roundw
      case rel => exact ⟨k + 1, by omega, by go_num, hto2.step hlt _ _ _ _, Gr.setNew (Gr.setNew (Gr.setNew (Gr.setNew (Gr.setNew hgr2 hwr _ _) hgg _ _) hgg _ _) hgg _ _) hgg _ _⟩
      case measure => simp [intOf]; omega
    · obtain rfl : n = k := by omega
      go_wp2
      go_ret
      exact ⟨g, rfl, Nat.le_of_eq HG.out.symm, hto, hgr⟩

set_option maxHeartbeats 1000000 in
theorem ct_zero (x : Addr) (c : Nat) (T : Tk) (w : World) : Calls Try.prog 10 #[.slice (some x) 0 c] w fun e w' => CtPost w T 0 e w' := by
  have q22 : ∀ (w : World) (a : Option Addr) (n c n' c' : Nat), (binOp .eql 22 (.slice a n c) (.slice none n' c')).run Try.prog w = .ok (.bool a.isNone) w := fun w a n c n' c' => Lib.run_eql_slice_nil w 22 33 a n c n' c' Try.underlying22
  have mk := make22 0 (by omega)
  rw [Int.natCast_zero] at mk
  go_enter Try.func10, Try.ntmps10
  go_wp2
  refine wp_loop_rounds 1 ?_
  rw [rounds_succ]
  go_wp2
  go_ret
  exact ⟨_, rfl, Nat.le_refl _, CT.new w T 33 0, Gr.alloc (Gr.refl _ _) _⟩

set_option maxHeartbeats 1000000 in
theorem ct_nil (w : World) : Calls Try.prog 10 #[.slice none 0 0] w fun e w' => e = .returned (.slice none 0 0) ∧ w = w' := by
  have q22 : ∀ (w : World) (a : Option Addr) (n c n' c' : Nat), (binOp .eql 22 (.slice a n c) (.slice none n' c')).run Try.prog w = .ok (.bool a.isNone) w := fun w a n c n' c' => Lib.run_eql_slice_nil w 22 33 a n c n' c' Try.underlying22
  go_enter Try.func10, Try.ntmps10
  go_wp2
  go_ret
  exact ⟨rfl, rfl⟩
end Go.Proofs.Qxb6602089a
