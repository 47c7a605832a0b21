import Derived.Test.Qxb6601525aNatLaw
import Derived.RowKit3
import Derived.ChangeKeysEq
namespace Go.Proofs.Qxb6601525a
open Go.RowKit

theorem Words.lit {C : Array Value} {zs : List Int} (h : Words C zs) : C = #[.int .u64 (zs[0]?.getD 0), .int .u64 (zs[1]?.getD 0), .int .u64 (zs[2]?.getD 0), .int .u64 (zs[3]?.getD 0), .int .u64 (zs[4]?.getD 0), .int .u64 (zs[5]?.getD 0), .int .u64 (zs[6]?.getD 0), .int .u64 (zs[7]?.getD 0)] := by
  apply Array.ext_getElem?
  intro i
  by_cases hi : i < 8
  · rw [h.at_ i hi]
    rcases (show i = 0 ∨ i = 1 ∨ i = 2 ∨ i = 3 ∨ i = 4 ∨ i = 5 ∨ i = 6 ∨ i = 7 by omega) with rfl | rfl | rfl | rfl | rfl | rfl | rfl | rfl <;> rfl
  · rw [Array.getElem?_eq_none (by rw [h.size]; omega), Array.getElem?_eq_none (by simp; omega)]

theorem natAt_new (w : World) (A : List Int) (an : Nat) (h : an ≤ 8) :
    NatAt (w.alloc (.cells #[.int .u64 (A[0]?.getD 0), .int .u64 (A[1]?.getD 0), .int .u64 (A[2]?.getD 0), .int .u64 (A[3]?.getD 0), .int .u64 (A[4]?.getD 0), .int .u64 (A[5]?.getD 0), .int .u64 (A[6]?.getD 0), .int .u64 (A[7]?.getD 0), .int .i64 an] 42)) w.heap.size A an := by
  refine ⟨fun k hk => ?_, ?_, h⟩
  · rw [World.cell?_alloc_new]
    rcases (show k = 0 ∨ k = 1 ∨ k = 2 ∨ k = 3 ∨ k = 4 ∨ k = 5 ∨ k = 6 ∨ k = 7 by omega) with rfl | rfl | rfl | rfl | rfl | rfl | rfl | rfl <;> rfl
  · rw [World.cell?_alloc_new]; rfl
theorem NatAt.alloc {w : World} {b : Nat} {A : List Int} {an : Nat} (h : NatAt w b A an) (hb : b < w.heap.size) (o : Obj) : NatAt (w.alloc o) b A an :=
  ⟨fun k hk => by rw [World.cell?_alloc_past _ _ _ hb]; exact h.cells k hk, by rw [World.cell?_alloc_past _ _ _ hb]; exact h.count, h.le⟩

set_option maxHeartbeats 400000 in
theorem zz_any (C D : Array Value) (A B : List Int) (hC : Words C A) (hD : Words D B) (an bn : Nat) (w : World) (ha : an ≤ 8) (hb : bn ≤ 8) :
    Calls Try.prog 8 #[.agg C, .int .i64 an, .agg D, .int .i64 bn] w fun e w' => e = .returned (.int .i64 (cmpI A an B bn)) ∧
      ∃ (o1 o2 o3 o4 : Array Value) (n : Nat), w' = ((((w.alloc (.cells o1 23)).alloc (.cells o2 23)).alloc (.cells o3 42)).alloc (.cells o4 42)).drewN n := by
  rw [hC.lit, hD.lit]
  go_enter Try.func8, Try.ntmps8
  go_wp2_with fail
  refine (cmp_any (w.heap.size + 1 + 1) (w.heap.size + 1 + 1 + 1) A B an bn _ ?_ ?_).mono ?_
  · refine NatAt.alloc ?_ (by simp) _
    exact (show w.heap.size + 1 + 1 = ((w.alloc _).alloc _).heap.size by simp) ▸ natAt_new _ A an ha
  · exact (show w.heap.size + 1 + 1 + 1 = (((w.alloc _).alloc _).alloc _).heap.size by simp) ▸ natAt_new _ B bn hb
  · rintro e w' ⟨rfl, n, rfl⟩
    go_wp2
    go_ret
    exact ⟨rfl, _, _, _, _, _, rfl⟩

theorem Words.mk8 (A : List Int) (hl : A.length = 8) (hb : ∀ k : Nat, 0 ≤ A[k]?.getD 0 ∧ A[k]?.getD 0 < 18446744073709551616) :
    Words #[.int .u64 (A[0]?.getD 0), .int .u64 (A[1]?.getD 0), .int .u64 (A[2]?.getD 0), .int .u64 (A[3]?.getD 0), .int .u64 (A[4]?.getD 0), .int .u64 (A[5]?.getD 0), .int .u64 (A[6]?.getD 0), .int .u64 (A[7]?.getD 0)] A :=
  ⟨rfl, hl, fun k hk => by rcases (show k = 0 ∨ k = 1 ∨ k = 2 ∨ k = 3 ∨ k = 4 ∨ k = 5 ∨ k = 6 ∨ k = 7 by omega) with rfl | rfl | rfl | rfl | rfl | rfl | rfl | rfl <;> rfl, hb⟩


theorem cells22 : Try.prog.cellsOf 22 = 1 := by kernel_rfl
theorem info22 : ∃ i, Try.prog.info? 22 = some i := by
  have : (Try.prog.info? 22).isSome = true := by kernel_rfl
  exact Option.isSome_iff_exists.1 this
theorem plain22 : Try.prog.plainKey 22 = true := by kernel_rfl

theorem eqItems_words {C D : Array Value} {A B : List Int} (hC : Words C A) (hD : Words D B) (w : World) : ∀ is : List Nat, (∀ i, i ∈ is → i < 8) →
    (Op.eqItems 9999 22 1 C D is).run Try.prog w = .ok (is.all fun i => A[i]?.getD 0 == B[i]?.getD 0) w
  | [], _ => by simp [Op.eqItems]
  | i :: is, h => by
    have hi : i < 8 := h i (List.mem_cons_self ..)
    have p1 := run_part_plain w plain22 (off := i * 1) (by rw [Nat.mul_one]; exact hC.at_ i hi)
    have p2 := run_part_plain w plain22 (off := i * 1) (by rw [Nat.mul_one]; exact hD.at_ i hi)
    have ih := eqItems_words hC hD w is (fun j hj => h j (List.mem_cons_of_mem _ hj))
    have p3 := run_equalIn_int (P := Try.prog) w 9998 22 .u64 .u64 (A[i]?.getD 0) (B[i]?.getD 0) Try.underlying22
    simp only [Op.eqItems, Sem.run_bind, p1, p2, p3, Result.andThen_ok]
    cases hr : (A[i]?.getD 0 == B[i]?.getD 0)
    · simp [hr]
    · simp [hr, ih]

theorem equal8 {C D : Array Value} {A B : List Int} (hC : Words C A) (hD : Words D B) (w : World) :
    (Op.equalIn 10000 23 (.agg C) (.agg D)).run Try.prog w = .ok ((List.range 8).all fun i => A[i]?.getD 0 == B[i]?.getD 0) w := by
  obtain ⟨i, hi⟩ := info22
  rw [run_equalIn_array w 9999 _ _ Try.underlying23 hi, cells22]
  exact eqItems_words hC hD w _ (fun i hi => by simpa using hi)
theorem equal8_ne {C D : Array Value} {A B : List Int} (hC : Words C A) (hD : Words D B) (h : A ≠ B) (w : World) : (Op.equalIn 10000 23 (.agg C) (.agg D)).run Try.prog w = .ok false w := by
  rw [equal8 hC hD]
  congr 1
  rw [Bool.eq_false_iff]
  intro ha
  rw [List.all_eq_true] at ha
  exact h (ext8 hC.len hD.len fun j hj => by simpa using ha j (by simpa using hj))
theorem equal8_same {C : Array Value} {A : List Int} (hC : Words C A) (w : World) : (Op.equalIn 10000 23 (.agg C) (.agg C)).run Try.prog w = .ok true w := by
  rw [equal8 hC hC]
  congr 1
  simp

theorem Bel.alloc {w w' : World} (h : Below w.heap.size w w') (o : Obj) : Below w.heap.size w (w'.alloc o) := h.alloc h.size o
theorem Bel.drewN {w w' : World} (h : Below w.heap.size w w') (n : Nat) : Below w.heap.size w (w'.drewN n) := ⟨h.os, h.tape, h.output, h.size, h.block⟩
end Go.Proofs.Qxb6601525a
