import Derived.Test.Qxb6602089aNil
import Derived.ProofKit
import Derived.OpenShut
import Derived.Deep.Slices
namespace Go.Proofs.Qxb6602089a
open Go.ChangeShapes Go.WideShapes Go.ChangeAt Go.RowKit Go.Deep

theorem cells9 : Try.prog.cellsOf 9 = 1 := by kernel_rfl
theorem cells30 : Try.prog.cellsOf 30 = 1 := by kernel_rfl
theorem cells33 : Try.prog.cellsOf 33 = 4 := by kernel_rfl
theorem fields33 : ∃ f0 f1 f2 f3 : Field, Try.prog.underlying 33 = some (.struct #[f0, f1, f2, f3]) ∧ (f0.type = 9 ∧ f0.offset = 0) ∧ (f1.type = 9 ∧ f1.offset = 1) ∧ (f2.type = 9 ∧ f2.offset = 2) ∧ (f3.type = 30 ∧ f3.offset = 3) :=
  ⟨_, _, _, _, Try.underlying33, ⟨rfl, rfl⟩, ⟨rfl, rfl⟩, ⟨rfl, rfl⟩, ⟨rfl, rfl⟩⟩

section
variable {H : Type} {enc : TypeId × Value → H} {W : World}

/-- A slice of strings, as the reading gives it. -/
theorem open_strs30 {n : Nat} {v : Value} {x : DataW H × List MemPlace} (h : DataW.trod enc Try.prog W 0 (fun _ => true) true n 30 [v] = some x) :
    ∃ (a : Option Addr) (l c : Nat), v = .slice a l c ∧ StrsAt W a l ∧ l ≤ 9223372036854775807 ∧ (a = none → l = 0 ∧ c = 0) := by
  rcases open_slice1 Try.underlying30 cells9 h with ⟨hc, _⟩ | ⟨a, len, cap, m, k, V, D, Pl, hc, _, hl, hm, hmm, _, hx⟩
  · simp only [List.cons.injEq, and_true] at hc
    exact ⟨none, 0, 0, hc, .inl rfl, by omega, fun _ => ⟨rfl, rfl⟩⟩
  · simp only [List.cons.injEq, and_true] at hc
    simp only [if_true] at hmm
    subst hmm
    refine ⟨some a, len, m, hc, ?_, by unfold maxLen at hm; omega, fun h => by cases h⟩
    by_cases h0 : len = 0
    · exact .inl h0
    · right
      obtain ⟨b, o, sp⟩ := a
      have hsp : sp = none := by
        have := World.cell?_spot (hx 0 (by omega)).1
        simpa [Addr.add] using this
      subst hsp
      refine ⟨b, o, rfl, fun j hj => ?_⟩
      obtain ⟨h1, h2⟩ := hx j (by omega)
      obtain ⟨s, h3, _, h4⟩ := DataW.trod_string Try.underlying9 h2
      simp only [List.cons.injEq, and_true] at h3
      rw [Go.WideShapes.add_plain, h3] at h1
      exact ⟨s, h1, h4⟩

/-- The tasks, as the reading gives them. -/
theorem open_tasks {v : Value} {d : DataW H} {ps : List MemPlace} (hd : DataW.Trod enc Try.prog W 0 (fun _ => true) true 22 v d ps) (hv : ∃ a l c, v = .slice a l c) :
    (v = .slice none 0 0) ∨ ∃ (x : Addr) (n c : Nat), v = .slice (some x) n c ∧ n ≤ 9223372036854775807 ∧ (n = 0 ∨ ∃ (b off : Nat) (T : Tk), x = ⟨b, off, none⟩ ∧ TasksAt W b off n T) := by
  obtain ⟨a, l, c, rfl⟩ := hv
  obtain ⟨fuel, hf⟩ := hd
  rcases open_slice Try.underlying22 hf with ⟨hc, _⟩ | ⟨x, len, cap, m, k, D, Pl, hc, _, hl, hm, hmm, _, hx⟩
  · simp only [Value.cells] at hc
    left
    simpa using hc
  · right
    have hc' : Value.slice a l c = .slice (some x) len cap := by simpa [Value.cells] using hc
    rw [hc']
    simp only [if_true] at hmm
    subst hmm
    refine ⟨x, len, m, rfl, by unfold maxLen at hm; omega, ?_⟩
    by_cases h0 : len = 0
    · exact .inl h0
    right
    rw [cells33] at hx
    obtain ⟨b, off, sp⟩ := x
    have hsp : sp = none := by
      obtain ⟨cs', h1, _⟩ := hx 0 (by omega)
      obtain ⟨_, h3, h2⟩ := World.cells?_some h1
      have h4 := h2 0 (by omega)
      rw [List.getElem?_eq_getElem (by omega)] at h4
      have := World.cell?_spot h4
      simpa [Addr.add] using this
    subst hsp
    have hone : ∀ i, i < len → ∃ t : ByteArray × ByteArray × ByteArray × Option Addr × Nat × Nat,
        W.cell? ⟨b, off + i * 4, none⟩ = some (.string t.1) ∧ W.cell? ⟨b, off + i * 4 + 1, none⟩ = some (.string t.2.1) ∧ W.cell? ⟨b, off + i * 4 + 2, none⟩ = some (.string t.2.2.1) ∧
        W.cell? ⟨b, off + i * 4 + 3, none⟩ = some (.slice t.2.2.2.1 t.2.2.2.2.1 t.2.2.2.2.2) ∧ StrsAt W t.2.2.2.1 t.2.2.2.2.1 ∧ t.1.size ≤ 9223372036854775807 ∧ t.2.1.size ≤ 9223372036854775807 ∧ t.2.2.1.size ≤ 9223372036854775807 ∧
        t.2.2.2.2.1 ≤ 9223372036854775807 ∧ (t.2.2.2.1 = none → t.2.2.2.2.1 = 0 ∧ t.2.2.2.2.2 = 0) := by
      intro i hi
      obtain ⟨cs', h1, h2⟩ := hx i (by omega)
      obtain ⟨_, hlen, hcell⟩ := World.cells?_some h1
      obtain ⟨f0, f1, f2, f3, hu, ⟨t0, o0⟩, ⟨t1, o1⟩, ⟨t2, o2⟩, ⟨t3, o3⟩⟩ := fields33
      obtain ⟨xs, q, _, _, _, hxs, hfs⟩ := DataW.trod_struct hu h2
      match cs', hlen, hxs with
      | [v0, v1, v2, v3], _, hxs =>
        have g0 := hfs 0 f0 rfl
        have g1 := hfs 1 f1 rfl
        have g2 := hfs 2 f2 rfl
        have g3 := hfs 3 f3 rfl
        rw [t0, o0, cells9, List.getElem?_eq_getElem (by rw [hxs]; simp)] at g0
        rw [t1, o1, cells9, List.getElem?_eq_getElem (by rw [hxs]; simp)] at g1
        rw [t2, o2, cells9, List.getElem?_eq_getElem (by rw [hxs]; simp)] at g2
        rw [t3, o3, cells30, List.getElem?_eq_getElem (by rw [hxs]; simp)] at g3
        obtain ⟨s0, e0, _, z0⟩ := DataW.trod_string Try.underlying9 g0
        obtain ⟨s1, e1, _, z1⟩ := DataW.trod_string Try.underlying9 g1
        obtain ⟨s2, e2, _, z2⟩ := DataW.trod_string Try.underlying9 g2
        obtain ⟨wa, wl, wc, e3, hst, hwl, hnil⟩ := open_strs30 g3
        simp at e0 e1 e2
        subst e0 e1 e2 e3
        have k0 := hcell 0 (by omega)
        have k1 := hcell 1 (by omega)
        have k2 := hcell 2 (by omega)
        have k3 := hcell 3 (by omega)
        simp only [Go.WideShapes.add_plain] at k0 k1 k2 k3
        exact ⟨(s0, s1, s2, wa, wl, wc), by simpa using k0, by simpa using k1, by simpa using k2, by simpa using k3, hst, z0, z1, z2, hwl, hnil⟩
    obtain ⟨F, hF⟩ := choose_lt hone
    exact ⟨b, off, ⟨fun i => (F i).1, fun i => (F i).2.1, fun i => (F i).2.2.1, fun i => (F i).2.2.2.1, fun i => (F i).2.2.2.2.1, fun i => (F i).2.2.2.2.2⟩, rfl,
      fun i hi => (hF i hi).1, fun i hi => (hF i hi).2.1, fun i hi => (hF i hi).2.2.1, fun i hi => (hF i hi).2.2.2.1, fun i hi => (hF i hi).2.2.2.2.1, fun i hi => (hF i hi).2.2.2.2.2.1, fun i hi => (hF i hi).2.2.2.2.2.2.1,
      fun i hi => (hF i hi).2.2.2.2.2.2.2.1, fun i hi => (hF i hi).2.2.2.2.2.2.2.2.1, fun i hi => (hF i hi).2.2.2.2.2.2.2.2.2⟩
end
end Go.Proofs.Qxb6602089a
