import Derived.Test.Qxb6601596aDoorInsert
import Derived.Deep.DeepCutAuto
import Derived.Deep.LoopGhost
import Derived.Laws.IdiomStrings
namespace Go.Proofs.Qxb6601596aDoor
open Go.RowKit

/-! ### magnitude -/
def mag (x : Int) : Nat := (if x < 0 then -x else x).toNat
theorem mag_neg {x : Int} (h0 : x < 0) (h1 : -9223372036854775808 ≤ x) : IntKind.u64.wrap (wrap64 (-x)) = (mag x : Int) := by
  unfold mag
  rw [if_pos h0, IntKind.wrap_u64]
  unfold wrap64
  omega
theorem mag_pos {x : Int} (h0 : ¬ x < 0) : x = (mag x : Int) := by
  unfold mag
  rw [if_neg h0]
  omega
theorem mag_lt {x : Int} (h0 : -9223372036854775808 ≤ x) (h1 : x ≤ 9223372036854775807) : mag x < 18446744073709551616 := by
  unfold mag
  split <;> omega
theorem ret_int {k : IntKind} {a b : Int} (h : a = b) : Ending.returned (.int k a) = .returned (.int k b) := by rw [h]
theorem mag_any (x : Int) (h0 : -9223372036854775808 ≤ x) (h1 : x ≤ 9223372036854775807) (w : World) :
    Calls Tryd.prog 14 #[.int .i64 x] w fun e w' => e = .returned (.int .u64 (mag x : Nat)) ∧ w' = w := by
  by_cases hx : x < 0
  · have HM : Hid (IntKind.u64.wrap (wrap64 (-x)) = (mag x : Int)) := mag_neg hx h0
    go_enter Tryd.func14, Tryd.ntmps14
    go_wp2
    go_ret
    exact ⟨ret_int HM.out, rfl⟩
  · have HM : Hid (x = (mag x : Int)) := mag_pos hx
    go_enter Tryd.func14, Tryd.ntmps14
    go_wp2
    go_ret
    exact ⟨ret_int HM.out, rfl⟩

/-! ### text -/
def sgn (U : Int) : List UInt8 := if U < 0 then [45] else []
/-- The decimal lies in block gd, the buffer in block gb. -/
structure St (w0 w : World) (gd gb : Nat) (U s : Int) : Prop where
  dec : Blk w gd #[.int .i64 U, .int .i64 s] 31
  bel : Below w0.heap.size w0 w
  lo : w0.heap.size ≤ gd
  lo' : gd < gb
theorem St.c0 {w0 w : World} {gd gb : Nat} {U s : Int} (h : St w0 w gd gb U s) : w.cell? ⟨gd, 0, none⟩ = some (.int .i64 U) := h.dec.cell 0
theorem St.c1 {w0 w : World} {gd gb : Nat} {U s : Int} (h : St w0 w gd gb U s) : w.cell? ⟨gd, 1, none⟩ = some (.int .i64 s) := h.dec.cell 1
theorem St.grown {w0 w w' : World} {gd gb : Nat} {U s : Int} (h : St w0 w gd gb U s) (hg : w.grownBy w' (some gb)) : St w0 w' gd gb U s :=
  ⟨h.dec.grown hg (by have := h.lo'; simp; omega), h.bel.grown hg h.bel.size (by have h1 := h.lo'; have h2 := h.lo; simp; omega), h.lo, h.lo'⟩
theorem St.alloc {w0 w : World} {gd gb : Nat} {U s : Int} (h : St w0 w gd gb U s) (o : Obj) : St w0 (w.alloc o) gd gb U s :=
  ⟨h.dec.alloc o, h.bel.alloc h.bel.size o, h.lo, h.lo'⟩

theorem BtAt.empty {w : World} {o : Array Value} {t : TypeId} {c g : Nat} (h : o.size = c) (hg : g = w.heap.size) : BtAt (w.alloc (.cells o t)) g t c [] := by
  subst hg
  exact ⟨_, Blk.new _ _ _, h, Nat.zero_le _, fun j x hj => by simp at hj⟩

theorem St.move {w0 w : World} {gd gb gb' : Nat} {U s : Int} (h : St w0 w gd gb U s) (hg : gd < gb') : St w0 w gd gb' U s := ⟨h.dec, h.bel, h.lo, hg⟩

/-- append(b, x): in place where there is room, else in a new row. -/
theorem append_byte (w : World) (g c : Nat) (t ty : TypeId) (X : List UInt8) (x : UInt8) (z : Int) (hz : z = x.toNat) (hb : BtAt w g t c X) (hX : X.length + 1 ≤ 1000000) :
    ∃ (g' c' : Nat) (t' : TypeId) (w' : World), (Builtin.append_ #[25, 25] ty #[.slice (some ⟨g, 0, none⟩) X.length c, .slice (some ⟨w.heap.size, 0, none⟩) 1 1]).run Tryd.prog (w.alloc (.cells #[.int .u8 z] 5)) = .ok (.slice (some ⟨g', 0, none⟩) (X.length + 1) c') w' ∧
      BtAt w' g' t' c' (X ++ [x]) ∧ w.grownBy w' (some g) ∧ (g' = g ∨ w.heap.size ≤ g') ∧ (X.length + 1 ≤ c → g' = g ∧ t' = t ∧ c' = c) := by
  subst hz
  obtain ⟨i0, hi, hz0, hs1, hb1⟩ := i5
  have hV : OneByte (w.alloc (.cells #[.int .u8 (x.toNat : Int)] 5)) w.heap.size x := Blk.new _ _ _
  have hbA : BtAt (w.alloc (.cells #[.int .u8 (x.toNat : Int)] 5)) g t c X := hb.of (Below.heap_alloc _ _ _ hb.lt)
  have hn : ∀ j v, ([.int .u8 (x.toNat : Int)] : List Value)[j]? = some v → (w.alloc (.cells #[.int .u8 (x.toNat : Int)] 5)).cell? ((⟨w.heap.size, 0, none⟩ : Addr).add j) = some v := fun j v hj => by
    rw [Addr.add_lit, hV.cell, Nat.zero_add]; simpa using hj
  have hgr : w.grownBy (w.alloc (.cells #[.int .u8 (x.toNat : Int)] 5)) (some g) := Gr.alloc (Gr.refl _ _) _
  rcases Nat.lt_or_ge c (X.length + 1) with h | h
  · obtain ⟨v', w', hrun, hown, hg'⟩ := run_append_arg_grows (P := Tryd.prog) (w.alloc (.cells #[.int .u8 (x.toNat : Int)] 5)) 25 ty 5 i0 (.int .u8 0) 1 1 Tryd.underlying25 hi hz0 hs1 hb1 rfl (by decide) ⟨g, 0, none⟩ X.length c (Lib.byteCells X) (by rw [Lib.byteCells_length, Nat.mul_one])
      (fun j v hj => by
        have hjl : j < X.length := by
          have h5 := (List.getElem?_eq_some_iff.1 hj).1
          rwa [Lib.byteCells_length] at h5
        have e5 : (Lib.byteCells X)[j]? = some (Value.int .u8 (X[j].toNat : Int)) := by simp [Lib.byteCells, hjl]
        rw [e5] at hj
        cases hj
        rw [Addr.add_lit, Nat.zero_add]
        exact hbA.cell (List.getElem?_eq_getElem hjl))
      ⟨w.heap.size, 0, none⟩ 1 1 [.int .u8 (x.toNat : Int)] rfl hn h (by unfold maxLen; omega) (by omega)
    obtain ⟨hl, h0 | ⟨g', cap, cur, rfl, hle, hh, hnc, _, hcz, htk⟩⟩ := hown
    · omega
    · refine ⟨g', cap, 5, w', hrun, ⟨cur, hh, by rw [hcz, Nat.mul_one], by simp; omega, fun j x' hj => ?_⟩, Gr.trans hgr (Gr.any hg'), .inr (by simp at hle; omega), fun h' => by omega⟩
      have e6 : Lib.byteCells X ++ [Value.int .u8 (x.toNat : Int)] = Lib.byteCells (X ++ [x]) := by simp [Lib.byteCells]
      rw [e6, Nat.mul_one] at htk
      have hjl : j < X.length + 1 := by
        have h5 := (List.getElem?_eq_some_iff.1 hj).1
        simpa using h5
      have e7 : (cur.toList.take (X.length + 1))[j]? = some (Value.int .u8 (x'.toNat : Int)) := by
        rw [htk]
        simp only [Lib.byteCells, List.getElem?_map, hj, Option.map_some]
      rw [List.getElem?_take, if_pos hjl] at e7
      rw [← Array.getElem?_toList]
      exact e7
  · have hrun := run_append_room_cells (P := Tryd.prog) (w.alloc (.cells #[.int .u8 (x.toNat : Int)] 5)) 25 ty 5 i0 Tryd.underlying25 hi g 0 X.length c ⟨w.heap.size, 0, none⟩ 1 1 [.int .u8 (x.toNat : Int)] (by rw [hs1]; rfl)
      hn (fun v hv => by simp at hv; subst hv; rfl) h
      (fun j hj => by simp at hj; subst hj; exact (hbA.there (by rw [hs1]; omega)).1) (fun j hj => by simp at hj; subst hj; exact (hbA.there (by rw [hs1]; omega)).2)
    rw [hs1, Nat.mul_one, Nat.zero_add] at hrun
    exact ⟨g, c, t, _, hrun, hbA.append (Y := [x]) (by simpa using h), Gr.setCells _ _ hgr, .inl rfl, fun _ => ⟨rfl, rfl, rfl⟩⟩

/-- slices.Insert(b, i, x), x in a new block. -/
theorem insert_new (g i n : Nat) (X : List UInt8) (x : UInt8) (z : Int) (hz : z = x.toNat) (w : World) (hb : BtAt w g 34 39 X) (hn : n = X.length) (hi : i ≤ X.length) (hX : X.length + 1 ≤ 39) :
    Calls Tryd.prog 15 #[.slice (some ⟨g, 0, none⟩) n 39, .int .i64 i, .slice (some ⟨w.heap.size, 0, none⟩) 1 1] (w.alloc (.cells #[.int .u8 z] 5)) fun e w' =>
      e = .returned (.slice (some ⟨g, 0, none⟩) (n + 1) 39) ∧ BtAt w' g 34 39 (X.take i ++ x :: X.drop i) ∧ w.grownBy w' (some g) := by
  subst hz hn
  have hV : OneByte (w.alloc (.cells #[.int .u8 (x.toNat : Int)] 5)) w.heap.size x := Blk.new _ _ _
  have hbA : BtAt (w.alloc (.cells #[.int .u8 (x.toNat : Int)] 5)) g 34 39 X := hb.of (Below.heap_alloc _ _ _ hb.lt)
  have hgr : w.grownBy (w.alloc (.cells #[.int .u8 (x.toNat : Int)] 5)) (some g) := Gr.alloc (Gr.refl _ _) _
  refine (insert_any g i w.heap.size X x _ hbA hi hX hV (by have := hb.lt; omega)).mono ?_
  rintro e w' ⟨rfl, h1, h2⟩
  exact ⟨rfl, h1, Gr.trans hgr h2⟩

/-- string(b). -/
theorem text_of (w : World) (g c : Nat) (t : TypeId) (X : List UInt8) (n : Nat) (hn : n = X.length) (hb : BtAt w g t c X) : (convert 25 9 (.slice (some ⟨g, 0, none⟩) n c)).run Tryd.prog w = .ok (.string ⟨X.toArray⟩) w := by
  subst hn
  exact run_convert_bytes_back w 25 9 5 ⟨g, 0, none⟩ c X Tryd.underlying25 Tryd.underlying5 Tryd.underlying9 (fun j hj => by rw [Addr.add_lit, Nat.zero_add]; exact hb.cell (List.getElem?_eq_getElem hj))

/-- The text so far, ahead of the point. -/
def Pad (D : List UInt8) (s : Nat) (Y : List UInt8) : Prop := ∃ k, Y = List.replicate k 48 ++ D ∧ (k = 0 ∨ Y.length ≤ s + 1)

theorem Pad.start (D : List UInt8) (s : Nat) : Pad D s D := ⟨0, by simp, .inl rfl⟩
theorem Pad.more {D : List UInt8} {s : Nat} {Y : List UInt8} (h : Pad D s Y) (hl : Y.length ≤ s) : Pad D s (48 :: Y) := by
  obtain ⟨k, rfl, _⟩ := h
  exact ⟨k + 1, by rw [List.replicate_succ, List.cons_append], .inr (by simp at hl ⊢; omega)⟩
def sliceLen : Value → Nat
  | .slice _ n _ => n
  | _ => 0

/-- What 'text' writes. -/
def IsText (U : Int) (s p : Nat) (X : List UInt8) : Prop :=
  ∃ Y, Pad (Lib.decDigits (mag U)) s Y ∧ s < Y.length ∧
    X = sgn U ++ (if p = 0 then Y else Y.take (Y.length - s) ++ 46 :: (Y.drop (Y.length - s) ++ List.replicate (p - s) 48))

set_option maxRecDepth 20000 in
set_option maxHeartbeats 4000000 in
theorem text_any (U : Int) (s p : Nat) (hU0 : -9223372036854775808 ≤ U) (hU1 : U ≤ 9223372036854775807) (hs : s ≤ 18) (hsp : s ≤ p) (hp : p ≤ 65536) (w : World) (htab : PowTab w) :
    Calls Tryd.prog 11 #[.agg #[.int .i64 U, .int .i64 s], .int .i64 p] w fun e w' => (∃ X, e = .returned (.string ⟨X.toArray⟩) ∧ IsText U s p X) ∧ Below w.heap.size w w' := by
  go_enter Tryd.func11, Tryd.ntmps11
  go_upto_region 2 with fail
  go_cut [6] (fun v wx => v = .slice (some ⟨w.heap.size + 1, 0, none⟩) 0 39 ∧ St w wx w.heap.size (w.heap.size + 1) U s ∧ BtAt wx (w.heap.size + 1) 34 39 [])
  case first =>
    go_wp2_with fail
    go_meet
    case rel =>
      refine ⟨rfl, ⟨(Blk.new _ _ _).alloc _, ((Below.refl _ _).alloc (Nat.le_refl _) _).alloc (by simp) _, Nat.le_refl _, Nat.lt_succ_self _⟩, ?_⟩
      exact BtAt.empty (by simp) (by simp)
  case rest =>
    obtain ⟨rfl, hst, hbt⟩ := hcut
    obtain ⟨gb, hgb⟩ : ∃ gb, gb = w.heap.size + 1 := ⟨_, rfl⟩
    rw [← hgb] at hst hbt ⊢
    obtain ⟨gd, hgd⟩ : ∃ gd, gd = w.heap.size := ⟨_, rfl⟩
    rw [← hgd] at hst ⊢
    clear hgd hgb
    have c0 := hst.c0
    go_upto_if 11 with fail
    go_cut [6] (fun v wx => v = .slice (some ⟨gb, 0, none⟩) (sgn U).length 39 ∧ St w wx gd gb U s ∧ BtAt wx gb 34 39 (sgn U))
    case first =>
      by_cases hneg : U < 0
      · have HS : Hid (sgn U = [45]) := by unfold Hid sgn; rw [if_pos hneg]
        obtain ⟨g', c', t', w', hrun, hbt', hgr', _, heq⟩ := append_byte wc gb 39 34 25 [] 45 45 rfl hbt (by decide)
        obtain ⟨rfl, rfl, rfl⟩ := heq (by decide)
        have hst' := hst.grown hgr'
        have HR := Lib.hid hrun
        clear hrun heq hgr'
        go_wp2_with (at_builtin; refine wpList_append_run _ rfl _ _ 25 25 rfl _ _ rfl rfl HR.out ?_)
        go_meet
        case rel => rw [HS.out]; exact ⟨rfl, hst', hbt'⟩
      · have HS : Hid (sgn U = []) := by unfold Hid sgn; rw [if_neg hneg]
        go_wp2_with fail
        go_meet
        case rel => rw [HS.out]; exact ⟨rfl, hst, hbt⟩
    case rest =>
      obtain ⟨rfl, hst1, hbt1⟩ := hcut
      clear hst hbt c0
      have c0 := hst1.c0
      have hsg : (sgn U).length ≤ 1 := by unfold sgn; split <;> simp
      have hm := mag_lt hU0 hU1
      obtain ⟨S, hS⟩ : ∃ S, S = sgn U := ⟨_, rfl⟩
      rw [← hS] at hbt1 hsg ⊢
      obtain ⟨n, hn⟩ : ∃ n, n = S.length := ⟨_, rfl⟩
      have HN := Lib.hid hn
      rw [← hn] at hsg ⊢
      have HS := Lib.hid hS
      clear hS hn
      go_wp2_with fail
      refine (mag_any U hU0 hU1 _).mono ?_
      rintro e w2 ⟨rfl, rfl⟩
      have hui := uint_any gb (mag U) S hm w2 hbt1 (by rw [← HN.out]; omega) (Lib.tabBelow_of_tabIs htab w2 hst1.bel)
      rw [List.length_append, ← HN.out] at hui
      have hD20 := decDigits_len hm
      go_wp2_with fail
      refine hui.mono ?_
      rintro e w3 ⟨rfl, hbt3, hgr3⟩
      have hst3 := hst1.grown hgr3
      obtain ⟨D, hD⟩ : ∃ D, D = Lib.decDigits (mag U) := ⟨_, rfl⟩
      rw [← hD] at hbt3 hD20 ⊢
      have HD := Lib.hid hD
      clear hui hst1 hbt1 hgr3 c0 hD
      go_wp2
      go_loopw [6] (fun v wr => ∃ Y, v = .slice (some ⟨gb, 0, none⟩) (n + Y.length) 39 ∧ Pad D s Y ∧ Y.length ≤ 20 ∧ St w wr gd gb U s ∧ BtAt wr gb 34 39 (S ++ Y)) (fun v _ => 40 - sliceLen v)
      case atStart => exact ⟨D, rfl, Pad.start _ _, hD20, hst3, hbt3⟩
      case round =>
        obtain ⟨Y, rfl, hpad, hY20, hstr, hbtr⟩ := hrel
        clear hst3 hbt3
        have c1 := hstr.c1
        by_cases hYs : Y.length ≤ s
        · have hYs' : ((Y.length : Nat) : Int) ≤ s := by omega
          have hins := insert_new gb n (n + Y.length) (S ++ Y) 48 48 rfl wr hbtr (by rw [List.length_append, HN.out]) (by rw [List.length_append, HN.out]; omega) (by rw [List.length_append, ← HN.out]; omega)
          rw [HN.out, List.take_left, List.drop_left, ← HN.out] at hins
          have hpad' := hpad.more hYs
          go_wp2_with fail
          refine hins.mono ?_
          rintro e w4 ⟨rfl, hbt4, hgr4⟩
          have hst4 := hstr.grown hgr4
          clear hins hgr4
          go_wp2_with fail
          go_roundw
          case rel => exact ⟨48 :: Y, by simp [Nat.add_assoc], hpad', by simp; omega, hst4, hbt4⟩
          case measure => simp [sliceLen]; omega
        · have hYs' : ¬ ((Y.length : Nat) : Int) ≤ s := by omega
          by_cases hp0 : p = 0
          · subst hp0
            have hcv := text_of wr gb 39 34 (S ++ Y) (n + Y.length) (by rw [List.length_append, HN.out]) hbtr
            have HT : Hid (IsText U s 0 (S ++ Y)) := ⟨Y, by rw [← HD.out]; exact hpad, by omega, by rw [HS.out, if_pos rfl]⟩
            go_wp2
            go_ret
            exact ⟨⟨_, rfl, HT.out⟩, hstr.bel⟩
          · have hp1 : (0 : Int) < p := by omega
            have hins := insert_new gb (n + Y.length - s) (n + Y.length) (S ++ Y) 46 46 rfl wr hbtr (by rw [List.length_append, HN.out]) (by rw [List.length_append, HN.out]; omega) (by rw [List.length_append, ← HN.out]; omega)
            rw [show ((n + Y.length - s : Nat) : Int) = (n : Int) + (Y.length : Int) - (s : Int) by omega] at hins
            go_wp2_with fail
            refine hins.mono ?_
            rintro e w4 ⟨rfl, hbt4, hgr4⟩
            have hst4 := hstr.grown hgr4
            have e8 : List.take (n + Y.length - s) (S ++ Y) ++ 46 :: List.drop (n + Y.length - s) (S ++ Y) = S ++ (Y.take (Y.length - s) ++ 46 :: Y.drop (Y.length - s)) := by
              rw [show n + Y.length - s = S.length + (Y.length - s) by rw [← HN.out]; omega, List.take_length_add_append, List.drop_length_add_append, List.append_assoc]
            rw [e8] at hbt4
            obtain ⟨Z, hZ⟩ : ∃ Z, Z = S ++ (Y.take (Y.length - s) ++ 46 :: Y.drop (Y.length - s)) := ⟨_, rfl⟩
            have hZl : Z.length = n + Y.length + 1 := by rw [hZ]; simp [HN.out]; omega
            rw [← hZ] at hbt4
            have HT : Hid (IsText U s p (Z ++ List.replicate (p - s) 48)) := ⟨Y, by rw [← HD.out]; exact hpad, by omega, by rw [hZ, HS.out, if_neg hp0]; simp⟩
            obtain ⟨L, hL⟩ : ∃ L, L = n + Y.length + 1 := ⟨_, rfl⟩
            have HL : Hid (L = Z.length) := hL.trans hZl.symm
            have hL30 : L ≤ 30 := by omega
            rw [← hL]
            have c1' := hst4.c1
            clear hins hgr4 e8 hbtr hstr c1 hZ hZl hL
            go_wp2_with fail
            go_loopw [6, 47] (fun v i wx => ∃ (k g c : Nat) (t : TypeId), i = .int .i64 k ∧ v = .slice (some ⟨g, 0, none⟩) (L + k) c ∧ k ≤ p - s ∧ St w wx gd g U s ∧ BtAt wx g t c (Z ++ List.replicate k 48)) (fun _ i _ => (p - s) - (intOf i).toNat)
            case atStart => exact ⟨0, gb, 39, 34, rfl, rfl, Nat.zero_le _, hst4, by simpa using hbt4⟩
            case round =>
              obtain ⟨k, g, c, t, rfl, rfl, hk, hstx, hbtx⟩ := hrel
              by_cases hlt : (k : Int) < (p : Int) - s
              · obtain ⟨g', c', t', w', hrun, hbt', hgr', hor, _⟩ := append_byte wr g c t 25 (Z ++ List.replicate k 48) 48 48 rfl hbtx (by rw [List.length_append, List.length_replicate, ← HL.out]; omega)
                rw [List.length_append, List.length_replicate, ← HL.out, List.append_assoc, ← List.replicate_succ'] at *
                have hst' : St w w' gd g' U s := (hstx.grown hgr').move (by have h1 := hstx.lo'; have h2 := hstx.dec.lt; omega)
                have HR := Lib.hid hrun
                clear hrun hgr' hor
                go_wp2_with (at_builtin; refine wpList_append_run _ rfl _ _ 25 25 rfl _ _ rfl rfl HR.out ?_)
                go_roundw
                case rel => exact ⟨k + 1, g', c', t', by go_num, by rw [Nat.add_assoc], by omega, hst', hbt'⟩
                case measure => simp [intOf]; omega
              · obtain rfl : k = p - s := by omega
                have hcv := text_of wr g c t (Z ++ List.replicate (p - s) 48) (L + (p - s)) (by rw [List.length_append, List.length_replicate, HL.out]) hbtx
                go_wp2
                go_ret
                exact ⟨⟨_, rfl, HT.out⟩, hstx.bel⟩
end Go.Proofs.Qxb6601596aDoor
