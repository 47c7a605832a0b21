import Derived.Test.Qxb6601596aDoorUint
import Derived.Shelf.Spec.SlicesInsert
import Derived.Deep.RegionLaw
namespace Go.Proofs.Qxb6601596aDoor
open Go.RowKit Go.Lib

/-- One byte, in a block of its own. -/
def OneByte (w : World) (v : Nat) (x : UInt8) : Prop := Blk w v #[.int .u8 (x.toNat : Int)] 5

theorem blk_shape {w : World} {g : Nat} {cur : Array Value} {e : TypeId} (h : Blk w g cur e) : w.shape? g = some (e, cur.size) := by
  unfold Blk at h
  simp [World.shape?, h]

set_option maxHeartbeats 4000000 in
set_option maxRecDepth 100000 in
/-- slices.Insert(s, i, x), room, i < len(s): in place. -/
theorem insert_shift (b n c i vb vt : Nat) (cur : Array Value) (cs : List Value) (x : UInt8) (w : World) (hi : i < n) (hroom : n + 1 ≤ c) (hc63 : c ≤ 9223372036854775807) (hvb : vb ≠ b)
    (hcl : cs.length = n) (hB : Blk w b cur vt) (hcz : n + 1 ≤ cur.size) (hV : OneByte w vb x)
    (hcs : ∀ j v, cs[j]? = some v → w.cell? ⟨b, j, none⟩ = some v) (h1c : ∀ v ∈ cs, v.oneCell' = true) :
    Calls Tryd.prog 15 #[.slice (some ⟨b, 0, none⟩) n c, .int .i64 i, .slice (some ⟨vb, 0, none⟩) 1 1] w fun e w' =>
      e = .returned (.slice (some ⟨b, 0, none⟩) (n + 1) c) ∧ w' = (w.drew.setCells b (i + 1) (cs.drop i)).setCells b i [.int .u8 (x.toNat : Int)] := by
  have hsp : ∀ j, j < n + 1 → (w.cell? ⟨b, j, none⟩).isSome = true := fun j hj => by rw [hB.cell, Array.getElem?_eq_getElem (by omega)]; rfl
  have hfz : ∀ j, j < n + 1 → w.frozen? ⟨b, j, none⟩ = false := fun j _ => hB.free j
  have hz2 : ¬ ((i : Int) = (n : Int)) := by omega
  have hsz : (Tryd.prog.info? 5).map (·.size) = some 1 := by
    obtain ⟨i0, hi0, h0, h1, h2⟩ := i5
    rw [hi0]; simp [h1]
  have hov : ∀ lb cb, (callFunc 17 #[.slice (some ⟨vb, 0, none⟩) 1 1, .slice (some ⟨b, i + 1, none⟩) lb cb]).run Tryd.prog w = .ok (.value (.bool false)) w := fun lb cb => by
    rw [run_callFunc_extern Tryd.func17 (by kernel_rfl) (by kernel_rfl) (by kernel_rfl) (e := Extern.SlicesOverlaps.overlaps #[25, 25] #[4]) (by kernel_rfl),
      Lib.run_overlaps_apart w 25 4 5 Tryd.underlying25 1 Tryd.sizeOf5 ⟨vb, 0, none⟩ ⟨b, i + 1, none⟩ 1 1 lb cb hvb _ _ _ _ (blk_shape hV) (blk_shape hB) (by omega) (hV.free 0) (hV.free _)]
    rfl
  have hdl : (cs.drop i).length = n - i := by rw [List.length_drop, hcl]
  have hw1 : IntKind.i64.wrap ((i : Int) + 1) = (i : Int) + 1 := by rw [IntKind.wrap_i64]; omega
  have hb1 : (0 : Int) ≤ (i : Int) + 1 := by omega
  have hin : i ≤ n := by omega
  have htn : ((i : Int) + 1).toNat = i + 1 := by omega
  have hb2 : ¬ (c = i + 1) := by omega
  have hb3 : (i : Int) ≤ (n : Int) + 1 := by omega
  have hb4 : ¬ (c = i) := by omega
  have hcp1 : ∀ ty dc sc, (Builtin.copy_ #[25, 25] ty #[.slice (some ⟨b, i + 1, none⟩) (n - i) dc, .slice (some ⟨b, i, none⟩) (n + 1 - i) sc]).run Tryd.prog w.drew = .ok (goInt (cs.drop i).length) (w.drew.setCells b (i + 1) (cs.drop i)) := fun ty dc sc =>
    run_copy_cells w.drew _ _ ty 5 b (i + 1) (n - i) dc ⟨b, i, none⟩ (n + 1 - i) sc (cs.drop i) Tryd.underlying25 hsz (by rw [hdl]; simp only [Nat.min_def]; split <;> omega)
      (fun j v hj => by rw [Addr.add_lit]; exact hcs (i + j) v (by rwa [List.getElem?_drop] at hj))
      (fun j hj => hsp _ (by omega)) (fun j hj => hfz _ (by omega)) (fun v hv => h1c v (List.mem_of_mem_drop hv))
  obtain ⟨W1, hW1⟩ : ∃ W1, W1 = w.drew.setCells b (i + 1) (cs.drop i) := ⟨_, rfl⟩
  have hsp1 : ∀ k, k < n + 1 → (W1.cell? ⟨b, k, none⟩).isSome = true := fun k hk => by
    rw [hW1]
    exact isSome_setCells b (cs.drop i) (i + 1) w.drew (fun j hj => hsp _ (by omega)) _ (hsp k hk)
  have hcp2 : ∀ (W : World), (∀ x, W.cell? x = W1.cell? x) → (∀ x, W.frozen? x = W1.frozen? x) → ∀ ty dc, (Builtin.copy_ #[25, 25] ty #[.slice (some ⟨b, i, none⟩) (n + 1 - i) dc, .slice (some ⟨vb, 0, none⟩) 1 1]).run Tryd.prog W = .ok (goInt ([.int .u8 (x.toNat : Int)] : List Value).length) (W.setCells b i [.int .u8 (x.toNat : Int)]) := fun W hWc hWf ty dc =>
    run_copy_cells W _ _ ty 5 b i (n + 1 - i) dc ⟨vb, 0, none⟩ 1 1 [.int .u8 (x.toNat : Int)] Tryd.underlying25 hsz (by simp only [List.length_singleton, Nat.min_def]; split <;> omega)
      (fun j v hj => by
        rw [Addr.add_lit, hWc, hW1, World.cell?_setCells_out b _ _ _ _ (fun h _ => absurd h hvb)]
        show w.cell? _ = _
        rw [hV.cell, Nat.zero_add]
        simpa using hj)
      (fun j hj => by rw [hWc]; exact hsp1 _ (by simp at hj; omega)) (fun j hj => by rw [hWf, hW1, World.frozen?_setCells]; exact hfz _ (by simp at hj; omega)) (fun v hv => by simp at hv; subst hv; rfl)
  rw [← hW1] at hcp1
  have HB := Lib.hid hB
  have HV := Lib.hid hV
  clear hB hV
  go_enter Tryd.func15, Tryd.ntmps15
  go_wp2_with (simp only [hov])
  go_region_law (refine step_copy_runI rfl _ _ 25 25 rfl _ _ (by simp [Act.eval, Act.put]) (by simp [Act.eval, Act.put]) (hcp1 _ _ _) ?_)
  go_wp2_with (at_builtin; refine wpList_copy_runI _ rfl _ _ 25 25 rfl _ _ rfl rfl (hcp2 _ (fun _ => rfl) (fun _ => rfl) _ _) ?_)
  go_ret
  first | exact ⟨rfl, rfl⟩ | exact ⟨rfl, by rw [hW1]⟩

set_option maxHeartbeats 4000000 in
set_option maxRecDepth 100000 in
/-- At the end: an append, in place. -/
theorem insert_end (b n c vb vt : Nat) (cur : Array Value) (x : UInt8) (w : World) (hroom : n + 1 ≤ c) (hc63 : c ≤ 9223372036854775807) (hB : Blk w b cur vt) (hcz : n + 1 ≤ cur.size) (hV : OneByte w vb x) :
    Calls Tryd.prog 15 #[.slice (some ⟨b, 0, none⟩) n c, .int .i64 n, .slice (some ⟨vb, 0, none⟩) 1 1] w fun e w' =>
      e = .returned (.slice (some ⟨b, 0, none⟩) (n + 1) c) ∧ w' = w.setCells b n [.int .u8 (x.toNat : Int)] := by
  obtain ⟨i0, hi, _, hs1, _⟩ := i5
  have hrun := run_append_room_cells (P := Tryd.prog) w 25 25 5 i0 Tryd.underlying25 hi b 0 n c ⟨vb, 0, none⟩ 1 1 [.int .u8 (x.toNat : Int)] (by rw [hs1]; rfl)
    (fun j v hj => by rw [Addr.add_lit, hV.cell, Nat.zero_add]; simpa using hj) (fun v hv => by simp at hv; subst hv; rfl) hroom
    (fun j hj => by simp at hj; subst hj; rw [hB.cell, hs1, Array.getElem?_eq_getElem (by omega)]; rfl) (fun j hj => hB.free _)
  rw [hs1, Nat.mul_one, Nat.zero_add] at hrun
  have HR := Lib.hid hrun
  have HB := Lib.hid hB
  have HV := Lib.hid hV
  clear hB hV hrun
  go_enter Tryd.func15, Tryd.ntmps15
  go_wp2_with (at_builtin; refine Qxb6601596aDoor.wpList_append_run _ rfl _ _ 25 25 rfl _ _ rfl rfl HR.out ?_)
  go_ret
  exact ⟨rfl, rfl⟩

/-- slices.Insert(s, i, x) in the 39-byte buffer. -/
theorem insert_any (g i vb : Nat) (X : List UInt8) (x : UInt8) (w : World) (hb : BtAt w g 34 39 X) (hi : i ≤ X.length) (hX : X.length + 1 ≤ 39) (hV : OneByte w vb x) (hne : vb ≠ g) :
    Calls Tryd.prog 15 #[.slice (some ⟨g, 0, none⟩) X.length 39, .int .i64 i, .slice (some ⟨vb, 0, none⟩) 1 1] w fun e w' =>
      e = .returned (.slice (some ⟨g, 0, none⟩) (X.length + 1) 39) ∧ BtAt w' g 34 39 (X.take i ++ x :: X.drop i) ∧ w.grownBy w' (some g) := by
  obtain ⟨cur, hB, hcz, hle, hc⟩ := hb
  have hb : BtAt w g 34 39 X := ⟨cur, hB, hcz, hle, hc⟩
  rcases Nat.lt_or_ge i X.length with h | h
  · refine (insert_shift g X.length 39 i vb 34 cur (Lib.byteCells X) x w h hX (by omega) hne (Lib.byteCells_length X) hB (by omega) hV (fun j v hj => ?_) byteCells_one).mono ?_
    · have hjl : j < X.length := by
        have h5 := (List.getElem?_eq_some_iff.1 hj).1
        rwa [Lib.byteCells_length] at h5
      have e5 : (Lib.byteCells X)[j]? = some (Value.int .u8 (X[j].toNat : Int)) := by simp [Lib.byteCells, hjl]
      rw [e5] at hj
      cases hj
      exact hb.cell (List.getElem?_eq_getElem hjl)
    · rintro e w' ⟨rfl, rfl⟩
      have e6 : (Lib.byteCells X).drop i = Lib.byteCells (X.drop i) := by simp [Lib.byteCells, List.map_drop]
      rw [e6]
      have h1 : BtAt w.drew g 34 39 X := hb.of rfl
      have h2 := h1.write (o := i + 1) (Y := X.drop i) (by omega) (by rw [List.length_drop]; omega)
      have h3 := h2.write (o := i) (Y := [x]) (by simp; omega) (by simp; omega)
      refine ⟨rfl, ?_, Gr.setCells _ _ (Gr.setCells _ _ (Gr.drewN (Gr.refl _ _) 1))⟩
      have e7 : List.take i (List.take (i + 1) X ++ List.drop i X ++ List.drop (i + 1 + (List.drop i X).length) X) ++ [x] ++ List.drop (i + [x].length) (List.take (i + 1) X ++ List.drop i X ++ List.drop (i + 1 + (List.drop i X).length) X) = X.take i ++ x :: X.drop i := by
        have d1 : List.drop (i + 1 + (List.drop i X).length) X = [] := List.drop_eq_nil_of_le (by simp; omega)
        have d2 : List.drop (i + 1) (List.take (i + 1) X) = [] := List.drop_eq_nil_of_le (by simp; omega)
        rw [d1, List.append_nil]
        rw [List.take_append_of_le_length (by simp; omega), List.take_take, Nat.min_eq_left (by omega)]
        rw [List.length_singleton, List.drop_append_of_le_length (by simp; omega), d2]
        simp
      rw [e7] at h3
      exact h3
  · have hiX : i = X.length := by omega
    subst hiX
    refine (insert_end g X.length 39 vb 34 cur x w hX (by omega) hB (by omega) hV).mono ?_
    rintro e w' ⟨rfl, rfl⟩
    refine ⟨rfl, ?_, Gr.setCells _ _ (Gr.refl _ _)⟩
    have h1 := hb.append (Y := [x]) (by simpa using hX)
    rw [List.take_length, List.drop_length]
    exact h1
end Go.Proofs.Qxb6601596aDoor
