import Derived.Test.Qxb6601596aDoorShelf
import Derived.WalkKit
import Derived.WalkSpells
import Derived.WalkLawsBesides
import Derived.Outline
import Derived.LoopTactic
import Derived.Deep.QuietTactic
import Derived.BigQuiet
import Derived.Below
namespace Go.Proofs.Qxb6601596aDoor
open Go.RowKit

/-- Block 'g' is a row of cells 'cur' (elements of type 'e', none frozen). -/
def Blk (w : World) (g : Nat) (cur : Array Value) (e : TypeId) : Prop := w.heap[g]? = some (.cells cur e (0, 0))
section
variable {w w' : World} {g g' : Nat} {cur : Array Value} {e : TypeId}
theorem Blk.lt (h : Blk w g cur e) : g < w.heap.size := (Array.getElem?_eq_some_iff.1 h).1
theorem Blk.cell (h : Blk w g cur e) (j : Nat) : w.cell? ⟨g, j, none⟩ = cur[j]? := cell_of_row w g j cur e (0, 0) h
theorem Blk.free (h : Blk w g cur e) (j : Nat) : w.frozen? ⟨g, j, none⟩ = false := frozen_of_row w g j cur e h
theorem Blk.new (w : World) (cur : Array Value) (e : TypeId) : Blk (w.alloc (.cells cur e)) w.heap.size cur e := by
  show (w.heap.push _)[w.heap.size]? = _
  simp
theorem Blk.of (h : Blk w g cur e) (hh : w'.heap[g]? = w.heap[g]?) : Blk w' g cur e := hh.trans h
theorem Blk.alloc (h : Blk w g cur e) (o : Obj) : Blk (w.alloc o) g cur e := h.of (Below.heap_alloc w o g h.lt)
theorem Blk.drewN (h : Blk w g cur e) (n : Nat) : Blk (w.drewN n) g cur e := h
theorem Blk.set (h : Blk w g cur e) (j : Nat) (u : Value) : Blk (w.setCell ⟨g, j, none⟩ u) g (cur.setIfInBounds j u) e := heap_setCell_same w g j cur e u h
theorem Blk.other (h : Blk w g cur e) (hne : g ≠ g') (j : Nat) (u : Value) : Blk (w.setCell ⟨g', j, none⟩ u) g cur e := h.of (heap_setCell_other w ⟨g', j, none⟩ g u hne)
theorem Blk.grown {row : Option Nat} (h : Blk w g cur e) (hg : w.grownBy w' row) (hne : some g ≠ row) : Blk w' g cur e := h.of (hg.block g h.lt hne)
end

theorem Gr.refl (w : World) (r : Option Nat) : w.grownBy w r := ⟨rfl, rfl, rfl, Nat.le_refl _, fun _ _ _ => rfl⟩
theorem Gr.trans {a b c : World} {r : Option Nat} (h : a.grownBy b r) (k : b.grownBy c r) : a.grownBy c r :=
  ⟨k.os.trans h.os, k.tape.trans h.tape, k.output.trans h.output, Nat.le_trans h.size k.size, fun i hi hn => (k.block i (Nat.lt_of_lt_of_le hi h.size) hn).trans (h.block i hi hn)⟩
theorem Gr.alloc {a b : World} {r : Option Nat} (h : a.grownBy b r) (o : Obj) : a.grownBy (b.alloc o) r :=
  Gr.trans h ⟨rfl, rfl, rfl, by simp, fun k hk _ => Below.heap_alloc _ _ _ hk⟩
theorem Gr.drewN {a b : World} {r : Option Nat} (h : a.grownBy b r) (n : Nat) : a.grownBy (b.drewN n) r := ⟨h.os, h.tape, h.output, h.size, h.block⟩
theorem Gr.set {a b : World} {g : Nat} (h : a.grownBy b (some g)) (j : Nat) (u : Value) : a.grownBy (b.setCell ⟨g, j, none⟩ u) (some g) :=
  Gr.trans h ⟨rfl, rfl, rfl, by simp [World.setCell], fun k _ hn => heap_setCell_other b ⟨g, j, none⟩ k u (fun e => hn (by rw [e]))⟩
/-- A store into a block that is new. -/
theorem Gr.setNew {a b : World} {r : Option Nat} (h : a.grownBy b r) {g : Nat} (hg : a.heap.size ≤ g) (j : Nat) (u : Value) : a.grownBy (b.setCell ⟨g, j, none⟩ u) r :=
  ⟨h.os, h.tape, h.output, by have := h.size; simp [World.setCell]; exact this, fun k hk hn => (heap_setCell_other b ⟨g, j, none⟩ k u (fun e => by simp at e; omega)).trans (h.block k hk hn)⟩
theorem Gr.any {a b : World} {r : Option Nat} (h : a.grownBy b none) : a.grownBy b r := ⟨h.os, h.tape, h.output, h.size, fun k hk _ => h.block k hk (by simp)⟩
theorem Below.gr {B : Nat} {a w w' : World} {r : Option Nat} (h : Below B a w) (hg : w.grownBy w' r) (hB : B ≤ w.heap.size) (hr : ∀ k, r = some k → B ≤ k) : Below B a w' := h.grown hg hB hr
end Go.Proofs.Qxb6601596aDoor
