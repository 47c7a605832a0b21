import Derived.Test.Qxb6601596aDoorBuf
import Derived.Lib.AppendIntMem
import Derived.Lib.ItoaMem
import Derived.Lib.Hide
namespace Go.Proofs.Qxb6601596aDoor
open Go.RowKit Go.Sort

/-- The table of the powers of ten. -/
abbrev pow10Name : String := Rows.fnTextShapeByIsDigitsRow.named.headD ""
abbrev PowTab (w : World) : Prop := Lib.TabIs Tryd.prog w pow10Name .u64 Lib.pow10Tab

theorem numDigits_any (u : Nat) (h1 : 1 ≤ u) (h2 : u < 18446744073709551616) (w : World) (htab : PowTab w) :
    Calls Tryd.prog 20 #[.int .u64 u] w fun e w' => e = .returned (.int .i64 (Lib.nDigits u)) ∧ w' = w :=
  Any.internal_strconv_numDigits Tryd.laysM284 u h1 h2 w htab

theorem decDigits_len {u : Nat} (h2 : u < 18446744073709551616) : (Lib.decDigits u).length ≤ 20 := by
  rw [Lib.decDigits_length]
  by_cases h10 : u < 10
  · rw [Lib.nDigits_small h10]; omega
  · have := Lib.numDigits_eq u (by omega) h2
    split at this <;> omega

theorem i5 : ∃ i0 : TypeInfo, Tryd.prog.info? 5 = some i0 ∧ i0.zero = some (.int .u8 0) ∧ i0.size = 1 ∧ i0.bytes = 1 := info_parts Tryd.laysM284.i5

set_option maxHeartbeats 1600000 in
set_option maxRecDepth 100000 in
theorem uint_small (g u : Nat) (X : List UInt8) (hu : u < 100) (w : World) (hb : BtAt w g 34 39 X) (hX : X.length + 20 ≤ 39) :
    Calls Tryd.prog 16 #[.slice (some ⟨g, 0, none⟩) X.length 39, .int .u64 u, .int .i64 10] w fun e w' =>
      e = .returned (.slice (some ⟨g, 0, none⟩) (X ++ Lib.decDigits u).length 39) ∧ BtAt w' g 34 39 (X ++ Lib.decDigits u) ∧ w.grownBy w' (some g) := by
  have hlen := decDigits_len (u := u) (by omega)
  obtain ⟨i0, hi, _, hs1, _⟩ := i5
  have hsz : (⟨(Lib.decDigits u).toArray⟩ : ByteArray).size = (Lib.decDigits u).length := by simp [ByteArray.size]
  have hrun := run_append_str_cells (P := Tryd.prog) w 25 9 25 5 i0 Tryd.underlying25 Tryd.underlying9 hi hs1 g X.length 39 ⟨(Lib.decDigits u).toArray⟩ (by rw [hsz]; omega)
    (fun j hj => (hb.there (by rw [hsz] at hj; omega)).1) (fun j hj => (hb.there (by rw [hsz] at hj; omega)).2)
  rw [hsz] at hrun
  have iu : (u : Int) < 100 := by omega
  have HR := Lib.hid hrun
  have HB := Lib.hid hb
  clear hb hrun
  go_enter Tryd.func16, Tryd.ntmps16
  go_wp2_with fail
  refine (Tryd.internal_strconv_small u hu _).mono ?_
  rintro e w' ⟨rfl, rfl⟩
  go_wp2_with (at_builtin; refine wpList_append_run _ rfl _ _ 25 9 rfl _ _ rfl rfl HR.out ?_)
  go_ret
  refine ⟨by rw [List.length_append]; rfl, HB.out.append (by omega), Gr.setCells _ _ (Gr.refl _ _)⟩

theorem byteCells_one {Y : List UInt8} : ∀ u ∈ Lib.byteCells Y, u.oneCell' = true := by
  intro u hu
  simp only [Lib.byteCells, List.mem_map] at hu
  obtain ⟨b, _, rfl⟩ := hu
  rfl

theorem Gr.grow (w : World) (k : Nat) (os : Array Obj) (r : Option Nat) : w.grownBy (grow (w.drewN k) os) r :=
  ⟨rfl, rfl, rfl, Lib.size_grow w k os, fun i hi _ => Lib.heap_grow_old w k os i hi⟩

set_option maxHeartbeats 3200000 in
set_option maxRecDepth 100000 in
theorem uint_big (g u : Nat) (X : List UInt8) (hu : 100 ≤ u) (hu64 : u < 18446744073709551616) (w : World) (hb : BtAt w g 34 39 X) (hX : X.length + 20 ≤ 39) (htab : PowTab w) :
    Calls Tryd.prog 16 #[.slice (some ⟨g, 0, none⟩) X.length 39, .int .u64 u, .int .i64 10] w fun e w' =>
      e = .returned (.slice (some ⟨g, 0, none⟩) (X ++ Lib.decDigits u).length 39) ∧ BtAt w' g 34 39 (X ++ Lib.decDigits u) ∧ w.grownBy w' (some g) := by
  have hlen := decDigits_len hu64
  obtain ⟨i0, hi, _, hs1, _⟩ := i5
  have hu1 : 1 ≤ u := by omega
  have hnd20 : Lib.nDigits u ≤ 20 := by rw [← Lib.decDigits_length]; exact hlen
  have hal : Tryd.prog.arrayLen 38 = 24 := by simp [Program.arrayLen, Tryd.underlying38]
  have hsl : ∀ W, (Instr.sliceAt 38 (.pointer (some ⟨w.heap.size, 0, none⟩)) none (some (.int .i64 (Lib.nDigits u : Int))) none).run Tryd.prog W = .ok (.slice (some ⟨w.heap.size, 0, none⟩) (Lib.nDigits u) 24) W := fun W => by
    rw [run_sliceAt_array_h W 38 ⟨w.heap.size, 0, none⟩ (by simp [Program.arrayLen, Program.elem, Tryd.underlying38]) .i64 (Lib.nDigits u : Int) (by omega) (by rw [hal]; omega)]
    go_simp
  have hH0 := Lib.holds_zero0 w 38 (Lib.nDigits u) (by omega)
  have hfmt := Tryd.internal_strconv_formatBase10 w.heap.size 0 24 u (Array.replicate (Lib.nDigits u) 0) (w.alloc (.cells Lib.zeros24 38)) hH0 (by rw [Array.size_replicate]; exact Lib.lt_pow_nDigits u) hu64 (by rw [Array.size_replicate]; omega)
  rw [Array.size_replicate] at hfmt
  have HH0 := Lib.hid hH0
  have iu : (100 : Int) ≤ (u : Int) := by omega
  have HB := Lib.hid hb
  clear hH0 hal hb
  go_enter Tryd.func16, Tryd.ntmps16
  go_wp2_with fail
  refine (numDigits_any u hu1 hu64 _ (Lib.tabIs_alloc htab _)).mono ?_
  rintro e w' ⟨rfl, rfl⟩
  go_wp2_with fail
  refine hfmt.mono ?_
  rintro e w' ⟨rfl, k, v', dk, rfl, hF⟩
  have hcells : ∀ j u', (Lib.byteCells (Lib.decDigits u))[j]? = some u' → ((putRow (fun (b : UInt8) => Value.int .u8 (b.toNat : Int)) (w.alloc (.cells Lib.zeros24 38)) w.heap.size 0 dk).drewN k).cell? ((⟨w.heap.size, 0, none⟩ : Addr).add j) = some u' := by
    intro j u' hj
    have hjl : j < (Lib.decDigits u).length := by
      have h5 := (List.getElem?_eq_some_iff.1 hj).1
      rwa [Lib.byteCells_length] at h5
    have e5 : (Lib.byteCells (Lib.decDigits u))[j]? = some (Value.int .u8 ((Lib.decDigits u)[j].toNat : Int)) := by simp [Lib.byteCells, hjl]
    rw [e5] at hj
    cases hj
    rw [Lib.row_is_numeral hF j hjl, Lib.add_plain, World.cell?_drewN]
    exact cell?_putRow (fun (b : UInt8) => Value.int .u8 (b.toNat : Int)) _ w.heap.size 0 _ dk HH0.out (by rw [hF.size, Array.size_replicate]) j (by rw [hF.size]; rw [Lib.decDigits_length] at hjl; exact hjl)
  obtain ⟨os, eo⟩ := Lib.fin_at w (.cells Lib.zeros24 38) dk k 0
  have hb2 : BtAt ((putRow (fun (b : UInt8) => Value.int .u8 (b.toNat : Int)) (w.alloc (.cells Lib.zeros24 38)) w.heap.size 0 dk).drewN k) g 34 39 X := by
    rw [eo]; exact HB.out.of (Lib.heap_grow_old w k os g HB.out.lt)
  have hg2 : w.grownBy ((putRow (fun (b : UInt8) => Value.int .u8 (b.toNat : Int)) (w.alloc (.cells Lib.zeros24 38)) w.heap.size 0 dk).drewN k) (some g) := by rw [eo]; exact Gr.grow w k os _
  generalize (putRow (fun (b : UInt8) => Value.int .u8 (b.toNat : Int)) (w.alloc (.cells Lib.zeros24 38)) w.heap.size 0 dk).drewN k = W2 at hcells hb2 hg2 ⊢
  clear eo HH0 hfmt
  have hrun := run_append_room_cells (P := Tryd.prog) W2 25 25 5 i0 Tryd.underlying25 hi g 0 X.length 39 ⟨w.heap.size, 0, none⟩ (Lib.nDigits u) 24 (Lib.byteCells (Lib.decDigits u)) (by rw [Lib.byteCells_length, Lib.decDigits_length, hs1, Nat.mul_one]) hcells byteCells_one (by omega)
    (fun j hj => by rw [Lib.byteCells_length] at hj; exact (hb2.there (by rw [hs1]; omega)).1) (fun j hj => by rw [Lib.byteCells_length] at hj; exact (hb2.there (by rw [hs1]; omega)).2)
  rw [hs1, Nat.mul_one, Nat.zero_add] at hrun
  have HR := Lib.hid hrun
  have HC := Lib.hid hcells
  have HB2 := Lib.hid hb2
  clear hrun hcells hb2 HB
  go_wp2_with (at_builtin; refine wpList_append_run _ rfl _ _ 25 25 rfl _ _ rfl rfl HR.out ?_)
  go_ret
  refine ⟨by rw [List.length_append, Lib.decDigits_length]; rfl, HB2.out.append (by omega), Gr.setCells _ _ hg2⟩

/-- AppendUint(dst, u, 10), dst a cut of the 39-byte buffer: the decimal numeral behind it, in place. -/
theorem uint_any (g u : Nat) (X : List UInt8) (hu64 : u < 18446744073709551616) (w : World) (hb : BtAt w g 34 39 X) (hX : X.length + 20 ≤ 39) (htab : PowTab w) :
    Calls Tryd.prog 13 #[.slice (some ⟨g, 0, none⟩) X.length 39, .int .u64 u, .int .i64 10] w fun e w' =>
      e = .returned (.slice (some ⟨g, 0, none⟩) (X ++ Lib.decDigits u).length 39) ∧ BtAt w' g 34 39 (X ++ Lib.decDigits u) ∧ w.grownBy w' (some g) := by
  have h16 : Calls Tryd.prog 16 #[.slice (some ⟨g, 0, none⟩) X.length 39, .int .u64 u, .int .i64 10] w fun e w' =>
      e = .returned (.slice (some ⟨g, 0, none⟩) (X ++ Lib.decDigits u).length 39) ∧ BtAt w' g 34 39 (X ++ Lib.decDigits u) ∧ w.grownBy w' (some g) := by
    by_cases h : u < 100
    · exact uint_small g u X h w hb hX
    · exact uint_big g u X (by omega) hu64 w hb hX htab
  generalize hL : (X ++ Lib.decDigits u).length = L at *
  go_enter Tryd.func13, Tryd.ntmps13
  go_wp2_with fail
  refine h16.mono ?_
  rintro e w' ⟨rfl, h1, h2⟩
  go_wp2
  go_ret
  exact ⟨rfl, h1, h2⟩
end Go.Proofs.Qxb6601596aDoor
