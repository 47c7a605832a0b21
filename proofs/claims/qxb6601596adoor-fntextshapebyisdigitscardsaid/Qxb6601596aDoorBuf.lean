import Derived.Test.Qxb6601596aDoorMem
import Derived.ArgAppend
import Derived.Lib.AppendStr
import Derived.Lib.AppendIntMem
import Derived.Laws.IdiomCopy
namespace Go.Proofs.Qxb6601596aDoor
open Go.RowKit

theorem Blk.setCells {g : Nat} {t : TypeId} : ∀ (vs : List Value) (o : Nat) {w : World} {cur : Array Value}, Blk w g cur t → o + vs.length ≤ cur.size →
    ∃ cur', Blk (w.setCells g o vs) g cur' t ∧ cur'.size = cur.size ∧ (∀ j, j < vs.length → cur'[o + j]? = vs[j]?) ∧ (∀ k, k < o ∨ o + vs.length ≤ k → cur'[k]? = cur[k]?)
  | [], o, w, cur, h, _ => ⟨cur, h, rfl, fun j hj => by simp at hj, fun _ _ => rfl⟩
  | v :: vs, o, w, cur, h, hfit => by
    simp only [List.length_cons] at hfit
    obtain ⟨cur', h1, h2, h3, h4⟩ := Blk.setCells vs (o + 1) (h.set o v) (by simp; omega)
    refine ⟨cur', h1, by simpa using h2, fun j hj => ?_, fun k hk => ?_⟩
    · cases j with
      | zero =>
        rw [Nat.add_zero, h4 o (by omega), Array.getElem?_setIfInBounds_self_of_lt (by omega)]
        rfl
      | succ j =>
        have := h3 j (by simpa using hj)
        rw [show o + (j + 1) = o + 1 + j by omega, this]
        rfl
    · simp only [List.length_cons] at hk
      rw [h4 k (by omega), Array.getElem?_setIfInBounds_ne (by omega)]

theorem Gr.setCells {a : World} {g : Nat} : ∀ (vs : List Value) (o : Nat) {b : World}, a.grownBy b (some g) → a.grownBy (b.setCells g o vs) (some g)
  | [], _, _, h => h
  | v :: vs, o, _, h => Gr.setCells vs (o + 1) (Gr.set h o v)

/-- Block g (tag t, c cells) begins with the bytes X. -/
def BtAt (w : World) (g : Nat) (t : TypeId) (c : Nat) (X : List UInt8) : Prop :=
  ∃ cur, Blk w g cur t ∧ cur.size = c ∧ X.length ≤ c ∧ ∀ (j : Nat) (x : UInt8), X[j]? = some x → cur[j]? = some (.int .u8 (x.toNat : Int))
section
variable {w w' : World} {g c : Nat} {t : TypeId} {X Y : List UInt8}
theorem BtAt.there (h : BtAt w g t c X) {j : Nat} (hj : j < c) : (w.cell? ⟨g, j, none⟩).isSome = true ∧ w.frozen? ⟨g, j, none⟩ = false := by
  obtain ⟨cur, hb, hs, _⟩ := h
  exact ⟨by rw [hb.cell, Array.getElem?_eq_getElem (by omega)]; rfl, hb.free j⟩
theorem BtAt.cell (h : BtAt w g t c X) {j : Nat} {x : UInt8} (hx : X[j]? = some x) : w.cell? ⟨g, j, none⟩ = some (.int .u8 (x.toNat : Int)) := by
  obtain ⟨cur, hb, _, _, hc⟩ := h
  rw [hb.cell]; exact hc j x hx
theorem BtAt.le (h : BtAt w g t c X) : X.length ≤ c := by
  obtain ⟨cur, hb, _, h1, _⟩ := h
  exact h1
theorem BtAt.lt (h : BtAt w g t c X) : g < w.heap.size := by
  obtain ⟨cur, hb, _⟩ := h
  exact hb.lt
theorem BtAt.of (h : BtAt w g t c X) (hh : w'.heap[g]? = w.heap[g]?) : BtAt w' g t c X := by
  obtain ⟨cur, hb, hr⟩ := h
  exact ⟨cur, hb.of hh, hr⟩
/-- A cut of the row is written over: X's first o bytes, then Y. -/
theorem BtAt.write (h : BtAt w g t c X) {o : Nat} (ho : o ≤ X.length) (hfit : o + Y.length ≤ c) : BtAt (w.setCells g o (Lib.byteCells Y)) g t c (X.take o ++ Y ++ X.drop (o + Y.length)) := by
  obtain ⟨cur, hb, hs, hl, hc⟩ := h
  obtain ⟨cur', h1, h2, h3, h4⟩ := hb.setCells (Lib.byteCells Y) o (by rw [Lib.byteCells_length]; omega)
  rw [Lib.byteCells_length] at h3 h4
  refine ⟨cur', h1, by omega, by simp; omega, fun j x hj => ?_⟩
  by_cases c1 : j < o
  · rw [h4 j (.inl c1)]
    apply hc
    rw [List.append_assoc, List.getElem?_append_left (by simp; omega), List.getElem?_take, if_pos c1] at hj
    exact hj
  by_cases c2 : j < o + Y.length
  · have h5 := h3 (j - o) (by omega)
    rw [show o + (j - o) = j by omega] at h5
    rw [h5]
    rw [List.append_assoc, List.getElem?_append_right (by simp; omega), List.getElem?_append_left (by simp; omega)] at hj
    rw [List.length_take, Nat.min_eq_left ho] at hj
    simp [Lib.byteCells, hj]
  · rw [h4 j (.inr (by omega))]
    apply hc
    rw [List.getElem?_append_right (by simp; omega), List.getElem?_drop] at hj
    simp only [List.length_append, List.length_take, Nat.min_eq_left ho] at hj
    rw [show o + Y.length + (j - (o + Y.length)) = j by omega] at hj
    exact hj
theorem BtAt.append (h : BtAt w g t c X) (hfit : X.length + Y.length ≤ c) : BtAt (w.setCells g X.length (Lib.byteCells Y)) g t c (X ++ Y) := by
  have := h.write (Y := Y) (Nat.le_refl _) hfit
  rwa [List.take_length, List.drop_eq_nil_of_le (by omega), List.append_nil] at this
end

/-! ### laws: an append or a copy whose run is known -/
section
variable {P : Program}
theorem wpList_append_run (w : World) {ops : Array Oper} {rest : List Oper} {o : Oper} {a : Act} {Q : Exit → Act → World → Prop} (hgd : o.guard = none) (d s : Operand) (t t' : TypeId)
    (ho : o.op = .call { callee := .builtin .append, args := #[d, s], argTypes := #[t, t'] }) (v u : Value) (hd : a.eval d = v) (hs : a.eval s = u) {v' : Value} {w' : World}
    (hr : (Builtin.append_ #[t, t'] o.type #[v, u]).run P w = .ok v' w') (h : wpList P ops Q rest (a.put o.dst v') w') : wpList P ops Q (o :: rest) a w := by
  refine wpList_plain hgd fun K hK => ?_
  unfold Oper.wp execOp
  simp only [ho, resolve, invoke, builtin, Sem.run_bind, Sem.run_pure, Result.andThen_ok, List.map_toArray, List.map_cons, List.map_nil, hd, hs, hr]
  exact hK _ _ h

/-- 'append(dst, s...)', s a string, there is room; of dst's block nothing is asked but its cells. -/
theorem run_append_str_cells (w : World) (t u ty e : TypeId) (i : TypeInfo) (ht : P.underlying t = some (.slice e)) (hu : P.underlying u = some .string) (hi : P.info? e = some i) (hs1 : i.size = 1)
    (b sLen sCap : Nat) (s : ByteArray) (hroom : sLen + s.size ≤ sCap) (hc : ∀ j, j < s.size → (w.cell? ⟨b, sLen + j, none⟩).isSome = true) (hf : ∀ j, j < s.size → w.frozen? ⟨b, sLen + j, none⟩ = false) :
    (Builtin.append_ #[t, u] ty #[.slice (some ⟨b, 0, none⟩) sLen sCap, .string s]).run P w = .ok (.slice (some ⟨b, 0, none⟩) (sLen + s.size) sCap) (w.setCells b sLen (Lib.byteCells s.data.toList)) := by
  have hfs := Lib.run_firstCells_string (P := P) w 1 s
  have hlen : (Lib.strCells s).length = s.size := Lib.strCells_length s
  have hst := run_storeCells_cells (P := P) b sLen (Lib.strCells s) 0 w (by simpa [hlen] using hc) (by simpa [hlen] using hf) (Lib.strCells_oneCell s)
  simp only [Nat.add_zero] at hst
  rw [Lib.strCells_eq] at hst hfs
  simp [Builtin.append_, run_underlying ht, run_underlying hu, sizeOf, typeInfo, hi, hs1, Builtin.lenOf, hroom, hfs, Addr.add_lit, hst]
end
end Go.Proofs.Qxb6601596aDoor
