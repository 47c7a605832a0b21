import Derived.Test.Qxb6602089aBytes
import Derived.Lib.SliceRun
namespace Go.Proofs.Qxb6602089a
open Go.RowKit

theorem info9 : (Try.prog.info? 9).map (fun i => (i.zero, i.size, i.bytes)) = some (some (.string ⟨#[]⟩), 1, 16) := by kernel_rfl
def zeroStrs (m : Nat) : Array Value := madeCells #[.string ⟨#[]⟩] m
theorem make30 (m : Nat) (hm : m ≤ 1048576) (W : World) :
    (Instr.makeSlice 30 (.int .i64 (m : Int)) (.int .i64 (m : Int))).run Try.prog W = .ok (.slice (some ⟨W.heap.size, 0, none⟩) m m) (W.alloc (.cells (zeroStrs m) 9)) := by
  obtain ⟨i, hi, hz, hs, hb⟩ := info_parts info9
  have hr := run_make (P := Try.prog) W 30 9 i (.string ⟨#[]⟩) Try.underlying30 hi hz .i64 .i64 m m (by omega) (Int.le_refl _) (by rw [hb]; omega) (by omega)
  simp only [Int.toNat_natCast, hs, Nat.mul_one] at hr
  exact hr

/-- Block g is a row of m cells of type t. -/
def RowOf (w : World) (g m : Nat) (t : TypeId) : Prop := ∃ cur, Blk w g cur t ∧ cur.size = m
theorem RowOf.there {w : World} {g m : Nat} {t : TypeId} (h : RowOf w g m t) {j : Nat} (hj : j < m) : (∃ v, w.cell? ⟨g, j, none⟩ = some v) ∧ w.frozen? ⟨g, j, none⟩ = false := by
  obtain ⟨cur, hb, hs⟩ := h
  exact ⟨⟨cur[j]'(by omega), by rw [hb.cell]; exact Array.getElem?_eq_getElem _⟩, hb.free j⟩
theorem RowOf.set {w : World} {g m : Nat} {t : TypeId} (h : RowOf w g m t) (j : Nat) (u : Value) : RowOf (w.setCell ⟨g, j, none⟩ u) g m t := by
  obtain ⟨cur, hb, hs⟩ := h
  exact ⟨_, hb.set j u, by simpa using hs⟩

/-- What 'zzCloneStrings' leaves: some slice, nothing old turned. -/
def ClPost (w : World) (e : Ending) (w' : World) : Prop := ∃ (a : Option Addr) (l c : Nat), e = .returned (.slice a l c) ∧ w.grownBy w' none

set_option maxHeartbeats 1000000 in
theorem cl_nil (w : World) (l c : Nat) : Calls Try.prog 18 #[.slice none l c] w fun e w' => ClPost w e w' := by
  have q30 : ∀ (w : World) (a : Option Addr) (n c n' c' : Nat), (binOp .eql 30 (.slice a n c) (.slice none n' c')).run Try.prog w = .ok (.bool a.isNone) w := fun w a n c n' c' => Lib.run_eql_slice_nil w 30 9 a n c n' c' Try.underlying30
  go_enter Try.func18, Try.ntmps18
  go_wp2
  go_ret
  exact ⟨none, 0, 0, rfl, Gr.refl _ _⟩

set_option maxHeartbeats 1000000 in
theorem cl_zero (x : Addr) (c : Nat) (w : World) : Calls Try.prog 18 #[.slice (some x) 0 c] w fun e w' => ClPost w e w' := by
  have q30 : ∀ (w : World) (a : Option Addr) (n c n' c' : Nat), (binOp .eql 30 (.slice a n c) (.slice none n' c')).run Try.prog w = .ok (.bool a.isNone) w := fun w a n c n' c' => Lib.run_eql_slice_nil w 30 9 a n c n' c' Try.underlying30
  have mk := make30 0 (by omega)
  rw [Int.natCast_zero] at mk
  go_enter Try.func18, Try.ntmps18
  go_wp2
  refine wp_loop_rounds 1 ?_
  rw [rounds_succ]
  go_wp2
  go_ret
  exact ⟨_, _, _, rfl, Gr.alloc (Gr.refl _ _) _⟩

set_option maxHeartbeats 1000000 in
theorem cl_core (b o n c : Nat) (w : World) (hn : n ≤ 1048576) (hs : ∀ j : Nat, j < n → ∃ s : ByteArray, w.cell? ⟨b, o + j, none⟩ = some (.string s) ∧ s.size ≤ maxLen) :
    Calls Try.prog 18 #[.slice (some ⟨b, o, none⟩) n c] w fun e w' => ClPost w e w' := by
  have q30 : ∀ (w : World) (a : Option Addr) (n c n' c' : Nat), (binOp .eql 30 (.slice a n c) (.slice none n' c')).run Try.prog w = .ok (.bool a.isNone) w := fun w a n c n' c' => Lib.run_eql_slice_nil w 30 9 a n c n' c' Try.underlying30
  have mk := make30 n hn
  have HS : Hid (∀ j : Nat, j < n → ∃ s : ByteArray, w.cell? ⟨b, o + j, none⟩ = some (.string s) ∧ s.size ≤ maxLen) := hs
  clear hs
  go_enter Try.func18, Try.ntmps18
  go_wp2
  obtain ⟨g, hg⟩ : ∃ g : Nat, g = w.heap.size := ⟨_, rfl⟩
  have HG : Hid (g = w.heap.size) := hg
  have hst : RowOf (w.alloc (.cells (zeroStrs n) 9)) g n 9 := hg ▸ ⟨zeroStrs n, Blk.new _ _ _, size_madeCells _ _⟩
  rw [← hg]
  clear hg q30 mk
  go_loopw [4] (fun i wr => ∃ k : Nat, k ≤ n ∧ i = .int .i64 k ∧ RowOf wr g n 9 ∧ w.grownBy wr none) (fun i _ => n - (intOf i).toNat)
  case atStart => exact ⟨0, Nat.zero_le _, rfl, hst, Gr.alloc (Gr.refl _ _) _⟩
  case round =>
    obtain ⟨k, hk, rfl, hto, hgr⟩ := hrel
    by_cases hlt : k < n
    · obtain ⟨s, hs, _⟩ := HS.out k hlt
      have hc : wr.cell? ⟨b, o + k, none⟩ = some (.string s) := hgr.cell hs (by simp)
      obtain ⟨⟨v, hv⟩, hfr⟩ := hto.there hlt
      clear hs
      go_wp2
      go_roundw
      case rel => exact ⟨k + 1, by omega, by go_num, hto.set _ _, Gr.setNew hgr (Nat.le_of_eq HG.out.symm) _ _⟩
      case measure => simp [intOf]; omega
    · go_wp2
      go_ret
      exact ⟨_, _, _, rfl, hgr⟩

theorem cl_any (a : Option Addr) (n c : Nat) (w : World) (hn : n ≤ 1048576) (hs : StrsAt w a n) (h0 : a = none → n = 0 ∧ c = 0) :
    Calls Try.prog 18 #[.slice a n c] w fun e w' => ClPost w e w' := by
  cases a with
  | none =>
    obtain ⟨rfl, rfl⟩ := h0 rfl
    exact cl_nil w 0 0
  | some x =>
    rcases hs with rfl | ⟨b, o, hx, hs⟩
    · exact cl_zero x c w
    · simp only [Option.some.injEq] at hx
      subst hx
      exact cl_core b o n c w hn hs
end Go.Proofs.Qxb6602089a
