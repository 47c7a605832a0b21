import Derived.Test.Qxb6601525aSlide
namespace Go.Proofs.Qxb6601525a
open Go.RowKit

theorem info3 : (Try.prog.info? 3).map (fun i => (i.zero, i.size, i.bytes)) = some (some (.int .i64 0), 1, 8) := by kernel_rfl

/-- A new row of m zero numbers. -/
def zeroInts (m : Nat) : Array Value := madeCells #[.int .i64 0] m
theorem make37 (m : Nat) (hm : m ≤ 65536) (W : World) :
    (Instr.makeSlice 37 (.int .i64 (m : Int)) (.int .i64 (m : Int))).run Try.prog W = .ok (.slice (some ⟨W.heap.size, 0, none⟩) m m) (W.alloc (.cells (zeroInts m) 3)) := by
  obtain ⟨i, hi, hz, hs, hb⟩ := info_parts info3
  have hr := run_make (P := Try.prog) W 37 3 i (.int .i64 0) Try.underlying37 hi hz .i64 .i64 m m (by omega) (Int.le_refl _) (by rw [hb]; omega) (by omega)
  simp only [Int.toNat_natCast, hs, Nat.mul_one] at hr
  exact hr

/-- The first k cells of the row 'g' (m cells in all) are o, o+1, .. -/
def IntsTo (w : World) (g o k m : Nat) : Prop := ∃ cur, Blk w g cur 3 ∧ cur.size = m ∧ ∀ j : Nat, j < k → cur[j]? = some (.int .i64 ((o : Int) + j))
theorem IntsTo.new (w : World) (o m : Nat) : IntsTo (w.alloc (.cells (zeroInts m) 3)) w.heap.size o 0 m := ⟨zeroInts m, Blk.new _ _ _, size_madeCells _ _, fun j h => by omega⟩
theorem IntsTo.there {w : World} {g o k m : Nat} (h : IntsTo w g o k m) {j : Nat} (hj : j < m) : (∃ v, w.cell? ⟨g, j, none⟩ = some v) ∧ w.frozen? ⟨g, j, none⟩ = false := by
  obtain ⟨cur, hb, hs, _⟩ := h
  exact ⟨⟨cur[j]'(by omega), by rw [hb.cell]; exact Array.getElem?_eq_getElem _⟩, hb.free j⟩
theorem IntsTo.at_ {w : World} {g o k m : Nat} (h : IntsTo w g o k m) {j : Nat} (hj : j < k) : w.cell? ⟨g, j, none⟩ = some (.int .i64 ((o : Int) + j)) := by
  obtain ⟨cur, hb, _, hc⟩ := h
  rw [hb.cell]; exact hc j hj
theorem IntsTo.step {w : World} {g o k m : Nat} (h : IntsTo w g o k m) (hk : k < m) : IntsTo (w.setCell ⟨g, k, none⟩ (.int .i64 ((o : Int) + k))) g o (k + 1) m := by
  obtain ⟨cur, hb, hs, hc⟩ := h
  refine ⟨_, hb.set k _, by simpa using hs, fun j hj => ?_⟩
  by_cases e : j = k
  · subst e
    rw [Array.getElem?_setIfInBounds_self_of_lt (by omega)]
  · rw [Array.getElem?_setIfInBounds_ne (fun h => e h.symm)]
    exact hc j (by omega)
theorem IntsTo.of {w w' : World} {g o k m : Nat} (h : IntsTo w g o k m) (hh : w'.heap[g]? = w.heap[g]?) : IntsTo w' g o k m := by
  obtain ⟨cur, hb, hr⟩ := h
  exact ⟨cur, hb.of hh, hr⟩
theorem IntsTo.lt {w : World} {g o k m : Nat} (h : IntsTo w g o k m) : g < w.heap.size := by
  obtain ⟨cur, hb, _⟩ := h
  exact hb.lt
theorem SpanAt.of {w w' : World} {gs go n : Nat} {width : Int} {l e : Nat} (h : SpanAt w gs go n width l e) (hh : w'.heap[gs]? = w.heap[gs]?) : SpanAt w' gs go n width l e := ⟨h.blk.of hh⟩
theorem Offs.part {w : World} {go : Nat} {E : List Int} {n : Nat} (h : Offs w go E n) {o o' m : Nat} (ho : 0 < m → o' = o * 5) (hn : o + m ≤ n) {j : Nat} (hj : j < m) : w.cell? ⟨go, o' + j * 5, none⟩ = some (.int .i64 ((o : Int) + j)) := by
  have h1 := h.index (j := o + j) (by omega)
  rw [ho (by omega), show o * 5 + j * 5 = (o + j) * 5 by omega, h1]
  rfl

/-- What 'ZZSpanSlide' leaves. -/
def ZPost (w : World) (gs go n : Nat) (E : List Int) (width x : Int) (k l e : Nat) (r : Ending) (w' : World) : Prop :=
  ∃ m1 m2 g1 g2 : Nat, Slid E n width x k l e (l + m2) (e + m1) ∧ r = .returned (.tuple #[.int .i64 ((l : Int) + m2), .int .i64 ((e : Int) + m1), .slice (some ⟨g1, 0, none⟩) m1 m1, .slice (some ⟨g2, 0, none⟩) m2 m2]) ∧
    IntsTo w' g1 e m1 m1 ∧ IntsTo w' g2 l m2 m2 ∧ SpanAt w' gs go n width (l + m2) (e + m1) ∧ w.grownBy w' (some gs)

set_option maxHeartbeats 4000000 in
theorem zzslide_any (gs go n : Nat) (E : List Int) (width x : Int) (k l e : Nat) (w : World) (hoff : Offs w go E n) (hsp : SpanAt w gs go n width l e) (hne : gs ≠ go)
    (hn : n ≤ 65536) (hw0 : 0 ≤ width) (hw1 : width ≤ 9007199254740991) (hx0 : 0 ≤ x) (hx1 : x ≤ 9007199254740991) (he : e ≤ n) (hlk : l ≤ k) (hkn : k < n) (hEk : Hid (x = E[k]?.getD 0)) (hE0 : ∀ i : Nat, 0 ≤ E[i]?.getD 0) :
    Calls Try.prog 16 #[.pointer (some ⟨gs, 0, none⟩), .int .u64 x] w fun r w' => ZPost w gs go n E width x k l e r w' := by
  have hgo : go < w.heap.size := by obtain ⟨cur, hb, _⟩ := hoff; exact hb.lt
  have hgs : gs < w.heap.size := hsp.blk.lt
  go_enter Try.func16, Try.ntmps16
  go_wp2_with fail
  refine (slide_any gs go n E width x k l e w hoff hsp hne hn hw0 hw1 hx0 hx1 he hlk hkn hEk hE0).mono ?_
  rintro r w1 ⟨l', e', v1, v2, hsl, rfl, hp1, hp2, hsp1, hgr1⟩
  obtain ⟨m1, rfl⟩ : ∃ m, e' = e + m := ⟨e' - e, by have := hsl.ee; omega⟩
  obtain ⟨m2, rfl⟩ : ∃ m, l' = l + m := ⟨l' - l, by have := hsl.ll; omega⟩
  rw [Nat.add_sub_cancel_left] at hp1 hp2
  obtain ⟨o1, c1, rfl, ho1⟩ := hp1
  obtain ⟨o2, c2, rfl, ho2⟩ := hp2
  have he1 : e + m1 ≤ n := hsl.en
  have hl1 : l + m2 ≤ k := hsl.lk
  have hoff1 : Offs w1 go E n := hoff.of (hgr1.block go hgo (by simp; omega))
  have mk1 := make37 m1 (by omega)
  have mk2 := make37 m2 (by omega)
  have hs1 : w.heap.size ≤ w1.heap.size := hgr1.size
  have HO1 : Hid (0 < m1 → o1 = e * 5) := ho1
  have HO2 : Hid (0 < m2 → o2 = l * 5) := ho2
  clear ho1 ho2
  go_wp2
  obtain ⟨g1, hg1⟩ : ∃ g : Nat, g = w1.heap.size := ⟨_, rfl⟩
  have HG1 : Hid (g1 = w1.heap.size) := hg1
  rw [← hg1]
  have hst := IntsTo.new w1 e m1
  rw [← hg1] at hst
  clear hg1
  go_loopw [23] (fun i wr => ∃ k' : Nat, k' ≤ m1 ∧ i = .int .i64 k' ∧ IntsTo wr g1 e k' m1 ∧ SpanAt wr gs go n width (l + m2) (e + m1) ∧ w.grownBy wr (some gs)) (fun i _ => m1 - (intOf i).toNat)
  case atStart => exact ⟨0, Nat.zero_le _, rfl, hst, ⟨hsp1.blk.alloc _⟩, Gr.alloc hgr1 _⟩
  case round =>
    obtain ⟨k', hk', rfl, hto, hspr, hgr⟩ := hrel
    have hoffr : Offs wr go E n := hoff.of (hgr.block go hgo (by simp; omega))
    have hg1w : w.heap.size ≤ g1 := by rw [HG1.out]; exact hs1
    by_cases hlt : k' < m1
    · have hcell := hoffr.part HO1.out he1 hlt
      obtain ⟨⟨v, hv⟩, hfr⟩ := hto.there hlt
      go_wp2
      go_roundw
      case rel => exact ⟨k' + 1, by omega, by go_num, hto.step hlt, ⟨hspr.blk.other (by omega) _ _⟩, Gr.setNew hgr hg1w _ _⟩
      case measure => simp [intOf]; omega
    · obtain rfl : m1 = k' := by omega
      go_wp2
      obtain ⟨wo, rfl⟩ : ∃ wo : World, wo = wr := ⟨_, rfl⟩
      obtain ⟨g2, hg2⟩ : ∃ g : Nat, g = wo.heap.size := ⟨_, rfl⟩
      have HG2 : Hid (g2 = wo.heap.size) := hg2
      rw [← hg2]
      have hst2 := IntsTo.new wo l m2
      rw [← hg2] at hst2
      clear hg2 hlt
      have hg12 : g1 < g2 := by rw [HG2.out]; exact hto.lt
      have hg2w : w.heap.size ≤ g2 := by omega
      go_loopw [40] (fun i wr => ∃ k' : Nat, k' ≤ m2 ∧ i = .int .i64 k' ∧ IntsTo wr g2 l k' m2 ∧ IntsTo wr g1 e m1 m1 ∧ SpanAt wr gs go n width (l + m2) (e + m1) ∧ w.grownBy wr (some gs)) (fun i _ => m2 - (intOf i).toNat)
      case atStart => exact ⟨0, Nat.zero_le _, rfl, hst2, hto.of (Below.heap_alloc _ _ _ hto.lt), ⟨hspr.blk.alloc _⟩, Gr.alloc hgr _⟩
      case round =>
        obtain ⟨k', hk', rfl, hto2, hto1, hspr2, hgr2⟩ := hrel
        have hoff2 : Offs wr go E n := hoff.of (hgr2.block go hgo (by simp; omega))
        by_cases hlt : k' < m2
        · have hcell := hoff2.part HO2.out (show l + m2 ≤ n by omega) hlt
          obtain ⟨⟨v, hv⟩, hfr⟩ := hto2.there hlt
          go_wp2
          go_roundw
          case rel => exact ⟨k' + 1, by omega, by go_num, hto2.step hlt, hto1.of (heap_setCell_other _ _ _ _ (by simp; omega)), ⟨hspr2.blk.other (by omega) _ _⟩, Gr.setNew hgr2 hg2w _ _⟩
          case measure => simp [intOf]; omega
        · obtain rfl : m2 = k' := by omega
          have c2' := hspr2.c2
          have c3' := hspr2.c3
          go_wp2
          go_quiet (fail)
          go_wp2
          refine bodyPost_ret (v := .tuple #[.int .i64 ((l : Int) + m2), .int .i64 ((e : Int) + m1), .slice (some ⟨g1, 0, none⟩) m1 m1, .slice (some ⟨g2, 0, none⟩) m2 m2]) (by simp [results, Try.results16, go_sem]) rfl ?_
          exact ⟨m1, m2, g1, g2, hsl, rfl, hto1, hto2, hspr2.drewN _, Gr.drewN hgr2 _⟩
end Go.Proofs.Qxb6601525a
