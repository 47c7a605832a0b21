import Derived.Test.Qxb6602089aTasks
import Derived.BigRegion
namespace Go.Proofs.Qxb6602089a
open Go.RowKit

theorem RowOf.other {w : World} {g g' m : Nat} {t : TypeId} (h : RowOf w g m t) (hne : g ≠ g') (j : Nat) (u : Value) : RowOf (w.setCell ⟨g', j, none⟩ u) g m t := by
  obtain ⟨cur, hb, hs⟩ := h
  exact ⟨cur, hb.other hne j u, hs⟩
theorem CT.other {w : World} {g g' : Nat} {t : TypeId} {T : Tk} {k n : Nat} (h : CT w g t T k n) (hne : g ≠ g') (j : Nat) (u : Value) : CT (w.setCell ⟨g', j, none⟩ u) g t T k n :=
  h.of (heap_setCell_other _ _ _ _ hne)

/-- What 'zzDefinition' leaves of a slice that is not nil. -/
def DefPost (w : World) (name fixer : ByteArray) (T : Tk) (n : Nat) (e : Ending) (w' : World) : Prop :=
  ∃ g : Nat, e = .returned (.agg #[.string name, .string fixer, .slice (some ⟨g, 0, none⟩) n n]) ∧ w.heap.size ≤ g ∧ CT w' g 59 T n n ∧ w.grownBy w' none

set_option maxRecDepth 20000 in
set_option maxHeartbeats 1000000 in
theorem def_core (name fixer : ByteArray) (g n : Nat) (T : Tk) (w : World) (hn : n ≤ 4096) (hT : CT w g 33 T n n) :
    Calls Try.prog 11 #[.string name, .string fixer, .slice (some ⟨g, 0, none⟩) n n] w fun e w' => DefPost w name fixer T n e w' := by
  have q22 : ∀ (w : World) (a : Option Addr) (n c n' c' : Nat), (binOp .neq 22 (.slice a n c) (.slice none n' c')).run Try.prog w = .ok (.bool (!a.isNone)) w := fun w a n c n' c' => run_neq_slice_nil_any w 22 33 a n c n' c' Try.underlying22
  have mk := make26 n hn
  go_enter Try.func11, Try.ntmps11
  go_wp2
  have hrow : RowOf ((w.alloc (.cells #[.string { data := #[] }, .string { data := #[] }, .slice none 0 0] 28)).alloc (.cells (zeroTasks n) 59)) w.heap.size 3 28 :=
    ⟨_, (Blk.new w #[.string { data := #[] }, .string { data := #[] }, .slice none 0 0] 28).alloc _, rfl⟩
  have hst := CT.new (w.alloc (.cells #[.string { data := #[] }, .string { data := #[] }, .slice none 0 0] 28)) T 59 n
  have hsz : (w.alloc (.cells #[.string { data := #[] }, .string { data := #[] }, .slice none 0 0] 28)).heap.size = w.heap.size + 1 := by simp
  rw [hsz] at hst
  clear hsz q22 mk
  obtain ⟨g0, hg0⟩ : ∃ g : Nat, g = w.heap.size := ⟨_, rfl⟩
  have hgg : g < g0 := by rw [hg0]; exact hT.lt
  have HG : Hid (g0 = w.heap.size) := hg0
  rw [← hg0] at hst hrow ⊢
  clear hg0
  obtain ⟨g2, hg2⟩ : ∃ g : Nat, g = g0 + 1 := ⟨_, rfl⟩
  have hg02 : g0 < g2 := by omega
  rw [← hg2] at hst ⊢
  clear hg2
  go_loopw [8] (fun i wr => ∃ k : Nat, k ≤ n ∧ i = .int .i64 k ∧ CT wr g2 59 T k n ∧ RowOf wr g0 3 28 ∧ w.grownBy wr none) (fun i _ => n - (intOf i).toNat)
  case atStart => exact ⟨0, Nat.zero_le _, rfl, hst, hrow, Gr.alloc (Gr.alloc (Gr.refl _ _) _) _⟩
  case round =>
    obtain ⟨k, hk, rfl, hto, hrw, hgr⟩ := hrel
    clear hst hrow
    by_cases hlt : k < n
    · have hTr : CT wr g 33 T n n := hT.of (hgr.block g hT.lt (by simp))
      have c0 := hTr.ro hlt
      have c1 := hTr.ki hlt
      obtain ⟨p, c2⟩ := hTr.ph hlt
      obtain ⟨a3, l3, cc3, c3⟩ := hTr.wt hlt
      obtain ⟨⟨v0, e0⟩, f0⟩ := hto.there (show k * 4 < n * 4 by omega)
      obtain ⟨⟨v1, e1⟩, f1⟩ := hto.there (show k * 4 + 1 < n * 4 by omega)
      obtain ⟨⟨v2, e2⟩, f2⟩ := hto.there (show k * 4 + 2 < n * 4 by omega)
      obtain ⟨⟨v3, e3⟩, f3⟩ := hto.there (show k * 4 + 3 < n * 4 by omega)
      have hkn : (k : Int) < n := by omega
      have hgn : w.heap.size ≤ g2 := by have := HG.out; omega
      clear hTr
      go_wp2
      go_region
      go_wp2
      go_roundw
      case rel => exact ⟨k + 1, by omega, by go_num, (hto.step hlt p a3 l3 cc3).of rfl, ((((hrw.other (by omega) _ _).other (by omega) _ _).other (by omega) _ _).other (by omega) _ _), Gr.drewN (Gr.setNew (Gr.setNew (Gr.setNew (Gr.setNew hgr hgn _ _) hgn _ _) hgn _ _) hgn _ _) 1⟩
      case measure => simp [intOf]; omega
    · obtain rfl : n = k := by omega
      obtain ⟨⟨v0, e0⟩, f0⟩ := hrw.there (show 0 < 3 by omega)
      obtain ⟨⟨v1, e1⟩, f1⟩ := hrw.there (show 1 < 3 by omega)
      obtain ⟨⟨v2, e2⟩, f2⟩ := hrw.there (show 2 < 3 by omega)
      have hgn : w.heap.size ≤ g0 := Nat.le_of_eq HG.out.symm
      go_wp2
      refine bodyPost_ret (v := .agg #[.string name, .string fixer, .slice (some ⟨g2, 0, none⟩) n n]) (by simp [results, Try.results11, go_sem, e0, e1, e2]) rfl ?_
      refine ⟨g2, rfl, by omega, ?_, Gr.setNew (Gr.setNew (Gr.setNew hgr hgn _ _) hgn _ _) hgn _ _⟩
      exact ((hto.other (by omega) _ _).other (by omega) _ _).other (by omega) _ _

set_option maxHeartbeats 1000000 in
theorem def_zero (name fixer : ByteArray) (g : Nat) (T : Tk) (w : World) :
    Calls Try.prog 11 #[.string name, .string fixer, .slice (some ⟨g, 0, none⟩) 0 0] w fun e w' => DefPost w name fixer T 0 e w' := by
  have q22 : ∀ (w : World) (a : Option Addr) (n c n' c' : Nat), (binOp .neq 22 (.slice a n c) (.slice none n' c')).run Try.prog w = .ok (.bool (!a.isNone)) w := fun w a n c n' c' => run_neq_slice_nil_any w 22 33 a n c n' c' Try.underlying22
  have mk := make26 0 (by omega)
  rw [Int.natCast_zero] at mk
  go_enter Try.func11, Try.ntmps11
  go_wp2
  refine wp_loop_rounds 1 ?_
  rw [rounds_succ]
  go_wp2
  refine bodyPost_ret (v := .agg #[.string name, .string fixer, .slice (some ⟨w.heap.size + 1, 0, none⟩) 0 0]) (by simp [results, Try.results11, go_sem]) rfl ?_
  have h := CT.new (w.alloc (.cells #[.string name, .string fixer, .slice (some ⟨w.heap.size + 1, 0, none⟩) 0 0] 28)) T 59 0
  exact ⟨w.heap.size + 1, rfl, by omega, by simpa using h, Gr.alloc (Gr.alloc (Gr.refl _ _) _) _⟩

set_option maxHeartbeats 1000000 in
theorem def_nil (name fixer : ByteArray) (w : World) :
    Calls Try.prog 11 #[.string name, .string fixer, .slice none 0 0] w fun e w' => e = .returned (.agg #[.string name, .string fixer, .slice none 0 0]) ∧ w.grownBy w' none := by
  have q22 : ∀ (w : World) (a : Option Addr) (n c n' c' : Nat), (binOp .neq 22 (.slice a n c) (.slice none n' c')).run Try.prog w = .ok (.bool (!a.isNone)) w := fun w a n c n' c' => run_neq_slice_nil_any w 22 33 a n c n' c' Try.underlying22
  go_enter Try.func11, Try.ntmps11
  go_wp2
  refine wp_loop_rounds 1 ?_
  rw [rounds_succ]
  go_wp2
  refine bodyPost_ret (v := .agg #[.string name, .string fixer, .slice none 0 0]) (by simp [results, Try.results11, go_sem]) rfl ?_
  exact ⟨rfl, Gr.alloc (Gr.refl _ _) _⟩
end Go.Proofs.Qxb6602089a
