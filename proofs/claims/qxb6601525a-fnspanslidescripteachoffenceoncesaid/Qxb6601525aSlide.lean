import Derived.Test.Qxb6601525aMem
import Derived.Deep.LoopGhost
namespace Go.Proofs.Qxb6601525a
open Go.RowKit

/-- Block 'go' holds the offences of the epochs E. -/
def Offs (w : World) (go : Nat) (E : List Int) (n : Nat) : Prop :=
  ∃ cur, Blk w go cur 47 ∧ ∀ j : Nat, j < n → cur[j * 5]? = some (.int .i64 j) ∧ cur[j * 5 + 2]? = some (.int .u64 (E[j]?.getD 0))
theorem Offs.index {w : World} {go : Nat} {E : List Int} {n : Nat} (h : Offs w go E n) {j : Nat} (hj : j < n) : w.cell? ⟨go, j * 5, none⟩ = some (.int .i64 j) := by
  obtain ⟨cur, hb, hc⟩ := h
  rw [hb.cell]; exact (hc j hj).1
theorem Offs.epoch {w : World} {go : Nat} {E : List Int} {n : Nat} (h : Offs w go E n) {j : Nat} (hj : j < n) : w.cell? ⟨go, j * 5 + 2, none⟩ = some (.int .u64 (E[j]?.getD 0)) := by
  obtain ⟨cur, hb, hc⟩ := h
  rw [hb.cell]; exact (hc j hj).2
theorem Offs.of {w w' : World} {go : Nat} {E : List Int} {n : Nat} (h : Offs w go E n) (hh : w'.heap[go]? = w.heap[go]?) : Offs w' go E n := by
  obtain ⟨cur, hb, hc⟩ := h
  exact ⟨cur, hb.of hh, hc⟩

/-- The span's cells. -/
def spanCells (go n : Nat) (width : Int) (l e : Nat) : Array Value := #[.slice (some ⟨go, 0, none⟩) n n, .int .u64 width, .int .i64 l, .int .i64 e]
structure SpanAt (w : World) (gs go n : Nat) (width : Int) (l e : Nat) : Prop where
  blk : Blk w gs (spanCells go n width l e) 49
theorem SpanAt.c0 {w : World} {gs go n : Nat} {width : Int} {l e : Nat} (h : SpanAt w gs go n width l e) : w.cell? ⟨gs, 0, none⟩ = some (.slice (some ⟨go, 0, none⟩) n n) := h.blk.cell 0
theorem SpanAt.c1 {w : World} {gs go n : Nat} {width : Int} {l e : Nat} (h : SpanAt w gs go n width l e) : w.cell? ⟨gs, 1, none⟩ = some (.int .u64 width) := h.blk.cell 1
theorem SpanAt.c2 {w : World} {gs go n : Nat} {width : Int} {l e : Nat} (h : SpanAt w gs go n width l e) : w.cell? ⟨gs, 2, none⟩ = some (.int .i64 l) := h.blk.cell 2
theorem SpanAt.c3 {w : World} {gs go n : Nat} {width : Int} {l e : Nat} (h : SpanAt w gs go n width l e) : w.cell? ⟨gs, 3, none⟩ = some (.int .i64 e) := h.blk.cell 3

/-- The end cursor so far: all from e to j lie at 'last' or below. -/
def EndTo (E : List Int) (last : Int) (e j : Nat) : Prop := e ≤ j ∧ ∀ i : Nat, e ≤ i → i < j → E[i]?.getD 0 ≤ last
def FirstTo (E : List Int) (first : Int) (l j : Nat) : Prop := l ≤ j ∧ ∀ i : Nat, l ≤ i → i < j → E[i]?.getD 0 < first


theorem EndTo.start (E : List Int) (last : Int) (e : Nat) : EndTo E last e e := ⟨Nat.le_refl _, fun i h1 h2 => by omega⟩
theorem EndTo.step {E : List Int} {last : Int} {e j : Nat} (h : EndTo E last e j) (hj : E[j]?.getD 0 ≤ last) : EndTo E last e (j + 1) :=
  ⟨by have := h.1; omega, fun i h1 h2 => by
    by_cases hi : i = j
    · rw [hi]; exact hj
    · exact h.2 i h1 (by omega)⟩
theorem FirstTo.start (E : List Int) (first : Int) (l : Nat) : FirstTo E first l l := ⟨Nat.le_refl _, fun i h1 h2 => by omega⟩
theorem FirstTo.step {E : List Int} {first : Int} {l j : Nat} (h : FirstTo E first l j) (hj : E[j]?.getD 0 < first) : FirstTo E first l (j + 1) :=
  ⟨by have := h.1; omega, fun i h1 h2 => by
    by_cases hi : i = j
    · rw [hi]; exact hj
    · exact h.2 i h1 (by omega)⟩
theorem SpanAt.setEnd {w : World} {gs go n : Nat} {width : Int} {l e : Nat} (h : SpanAt w gs go n width l e) (e' : Nat) (v : Value) (hv : v = .int .i64 e') : SpanAt (w.setCell ⟨gs, 3, none⟩ v) gs go n width l e' := by
  subst hv
  exact ⟨h.blk.set 3 _⟩
theorem SpanAt.setFirst {w : World} {gs go n : Nat} {width : Int} {l e : Nat} (h : SpanAt w gs go n width l e) (l' : Nat) (v : Value) (hv : v = .int .i64 l') : SpanAt (w.setCell ⟨gs, 2, none⟩ v) gs go n width l' e := by
  subst hv
  exact ⟨h.blk.set 2 _⟩
theorem SpanAt.drewN {w : World} {gs go n : Nat} {width : Int} {l e : Nat} (h : SpanAt w gs go n width l e) (q : Nat) : SpanAt (w.drewN q) gs go n width l e := ⟨h.blk⟩


/-- What 'slide' leaves. -/
structure Slid (E : List Int) (n : Nat) (width x : Int) (k l e l' e' : Nat) : Prop where
  ee : e ≤ e'
  en : e' ≤ n
  inn : ∀ i : Nat, e ≤ i → i < e' → E[i]?.getD 0 ≤ x + width
  out : e' < n → x + width < E[e']?.getD 0
  ll : l ≤ l'
  lk : l' ≤ k
  gone : ∀ i : Nat, l ≤ i → i < l' → E[i]?.getD 0 + width < x
  stay : x ≤ E[l']?.getD 0 + width
/-- A cut of the row 'go': 'm' elements of five cells from the place 'o' on (where there are any). -/
def Part (v : Value) (go o m : Nat) : Prop := ∃ (o' c : Nat), v = .slice (some ⟨go, o', none⟩) m c ∧ (0 < m → o' = o * 5)
def SlidPost (w : World) (gs go n : Nat) (E : List Int) (width x : Int) (k l e : Nat) (r : Ending) (w' : World) : Prop :=
  ∃ (l' e' : Nat) (v1 v2 : Value), Slid E n width x k l e l' e' ∧ r = .returned (.tuple #[v1, v2]) ∧ Part v1 go e (e' - e) ∧ Part v2 go l (l' - l) ∧ SpanAt w' gs go n width l' e' ∧ w.grownBy w' (some gs)


theorem mkSlid {E : List Int} {n : Nat} {width x first : Int} {k l e j i : Nat} (hE0 : ∀ i : Nat, 0 ≤ E[i]?.getD 0) (hf : (width ≤ x ∧ first = x - width) ∨ (x < width ∧ first = 0))
    (hj : j ≤ n) (hto : EndTo E (x + width) e j) (HE : Hid (j < n → x + width < E[j]?.getD 0)) (hi : i ≤ k) (hfo : FirstTo E first l i) (hst : first ≤ E[i]?.getD 0) : Slid E n width x k l e i j := by
  refine ⟨hto.1, hj, hto.2, HE.out, hfo.1, hi, fun q h1 h2 => ?_, ?_⟩
  · have h3 := hfo.2 q h1 h2
    have h4 := hE0 q
    omega
  · have h4 := hE0 i
    omega

theorem cutAddr (go n e j : Nat) (hj : j ≤ n) : ∃ A : Nat, (if n = e then some ({ block := go, off := 0 } : Addr) else some { block := go, off := e * 5 }) = some ({ block := go, off := A } : Addr) ∧ Hid (0 < j - e → A = e * 5) := by
  by_cases h : n = e
  · exact ⟨0, by rw [if_pos h], fun h' => by omega⟩
  · exact ⟨e * 5, by rw [if_neg h], fun _ => rfl⟩

set_option maxHeartbeats 4000000 in
theorem slide_any (gs go n : Nat) (E : List Int) (width x : Int) (k l e : Nat) (w : World) (hoff : Offs w go E n) (hsp : SpanAt w gs go n width l e) (hne : gs ≠ go)
    (hn : n ≤ 65536) (hw0 : 0 ≤ width) (hw1 : width ≤ 9007199254740991) (hx0 : 0 ≤ x) (hx1 : x ≤ 9007199254740991) (he : e ≤ n) (hlk : l ≤ k) (hkn : k < n) (hEk : Hid (x = E[k]?.getD 0)) (hE0 : ∀ i : Nat, 0 ≤ E[i]?.getD 0) :
    Calls Try.prog 20 #[.pointer (some ⟨gs, 0, none⟩), .int .u64 x] w fun r w' => SlidPost w gs go n E width x k l e r w' := by
  have s0 := hsp.c0
  have s1 := hsp.c1
  have s2 := hsp.c2
  have s3 := hsp.c3
  by_cases hwx : width ≤ x
  · go_enter Try.func20, Try.ntmps20
    go_wp2
    go_loopg [] (n - e) (fun g wr => ∃ j : Nat, g = n - j ∧ j ≤ n ∧ EndTo E (x + width) e j ∧ SpanAt wr gs go n width l j ∧ w.grownBy wr (some gs))
    case atStart => exact ⟨e, rfl, he, EndTo.start _ _ _, hsp, Gr.refl _ _⟩
    case round =>
      obtain ⟨j, rfl, hj, hto, hspr, hgr⟩ := hrel
      clear s0 s1 s2 s3
      have hgo : go < w.heap.size := by obtain ⟨cur, hb, _⟩ := hoff; exact hb.lt
      have hoffr : Offs wr go E n := hoff.of (hgr.block go hgo (by simp; omega))
      have c0 := hspr.c0
      have c1 := hspr.c1
      have c2 := hspr.c2
      have c3 := hspr.c3
      have f3 := hspr.blk.free 3
      by_cases hcont : j < n ∧ E[j]?.getD 0 ≤ x + width
      · obtain ⟨hlt', hle⟩ := hcont
        have hlt : (j : Int) < n := by omega
        have ce := hoffr.epoch hlt'
        have hto' := hto.step hle
        go_wp2
        go_quiet (fail)
        go_wp2
        go_roundg (n - (j + 1))
        case measure => omega
        case rel => exact ⟨j + 1, rfl, by omega, hto', (hspr.drewN _).setEnd (j + 1) _ (by go_num), Gr.set (Gr.drewN hgr _) 3 _⟩
      · have HE : Hid (j < n → x + width < E[j]?.getD 0) := fun h => by omega
        have hej := hto.1
        by_cases hlt : (j : Int) < n
        · have ce := hoffr.epoch (show j < n by omega)
          have hd : decide (E[j]?.getD 0 ≤ x + width) = false := by simp; omega
          clear hcont
          go_wp2
          go_quiet (fail)
          go_wp2
          clear c0 c1 c2 c3 f3 ce hd hlt
          obtain ⟨wo, rfl⟩ : ∃ wo : World, wo = wr := ⟨_, rfl⟩
          go_loopg [] (k - l) (fun g wr => ∃ i : Nat, g = k - i ∧ i ≤ k ∧ FirstTo E (x - width) l i ∧ SpanAt wr gs go n width i j ∧ w.grownBy wr (some gs))
          case atStart => exact ⟨l, rfl, hlk, FirstTo.start _ _ _, hspr.drewN _, Gr.drewN hgr _⟩
          case round =>
            obtain ⟨i, rfl, hi, hfo, hsp2, hgr2⟩ := hrel
            have hoff2 : Offs wr go E n := hoff.of (hgr2.block go hgo (by simp; omega))
            have d0 := hsp2.c0
            have d1 := hsp2.c1
            have d2 := hsp2.c2
            have d3 := hsp2.c3
            have f2 := hsp2.blk.free 2
            have ce := hoff2.epoch (show i < n by omega)
            have hin : (i : Int) < n := by omega
            by_cases hlt : E[i]?.getD 0 < x - width
            · have hik : i ≠ k := fun h => by have h1 := hEk.out; have h2 := hE0 i; rw [← h] at h1; omega
              have hfo' := hfo.step hlt
              go_wp2
              go_quiet (fail)
              go_wp2
              go_roundg (k - (i + 1))
              case measure => omega
              case rel => exact ⟨i + 1, rfl, by omega, hfo', (hsp2.drewN _).setFirst (i + 1) _ (by go_num), Gr.set (Gr.drewN hgr2 _) 2 _⟩
            · have hd : decide (E[i]?.getD 0 < x - width) = false := by simpa using hlt
              have hsl : Slid E n width x k l e i j := mkSlid (first := x - width) hE0 (.inl ⟨hwx, rfl⟩) hj hto HE hi hfo (by omega)
              have hli := hfo.1
              have hej' : (e : Int) ≤ j := by omega
              have hli' : (l : Int) ≤ i := by omega
              have hjn' : (j : Int) ≤ n := by omega
              have hln : ¬ n = l := by omega
              obtain ⟨A, hA, HA⟩ := cutAddr go n e j hj
              go_wp2
              go_quiet (fail)
              go_wp2
              go_quiet (fail)
              go_wp2
              go_ret2
              exact ⟨i, j, _, _, hsl, rfl, ⟨_, _, rfl, HA.out⟩, ⟨_, _, rfl, fun h => rfl⟩, (hsp2.drewN _).drewN _, Gr.drewN (Gr.drewN hgr2 _) _⟩
        · obtain rfl : n = j := by omega
          clear hcont hlt
          have hd : decide ((n : Int) < n) = false := by simp
          go_wp2
          go_quiet (fail)
          go_wp2
          clear c0 c1 c2 c3 f3 hd
          obtain ⟨wo, rfl⟩ : ∃ wo : World, wo = wr := ⟨_, rfl⟩
          go_loopg [] (k - l) (fun g wr => ∃ i : Nat, g = k - i ∧ i ≤ k ∧ FirstTo E (x - width) l i ∧ SpanAt wr gs go n width i n ∧ w.grownBy wr (some gs))
          case atStart => exact ⟨l, rfl, hlk, FirstTo.start _ _ _, hspr.drewN _, Gr.drewN hgr _⟩
          case round =>
            obtain ⟨i, rfl, hi, hfo, hsp2, hgr2⟩ := hrel
            have hoff2 : Offs wr go E n := hoff.of (hgr2.block go hgo (by simp; omega))
            have d0 := hsp2.c0
            have d1 := hsp2.c1
            have d2 := hsp2.c2
            have d3 := hsp2.c3
            have f2 := hsp2.blk.free 2
            have ce := hoff2.epoch (show i < n by omega)
            have hin : (i : Int) < n := by omega
            by_cases hlt : E[i]?.getD 0 < x - width
            · have hik : i ≠ k := fun h => by have h1 := hEk.out; have h2 := hE0 i; rw [← h] at h1; omega
              have hfo' := hfo.step hlt
              go_wp2
              go_quiet (fail)
              go_wp2
              go_roundg (k - (i + 1))
              case measure => omega
              case rel => exact ⟨i + 1, rfl, by omega, hfo', (hsp2.drewN _).setFirst (i + 1) _ (by go_num), Gr.set (Gr.drewN hgr2 _) 2 _⟩
            · have hd : decide (E[i]?.getD 0 < x - width) = false := by simpa using hlt
              have hsl : Slid E n width x k l e i n := mkSlid (first := x - width) hE0 (.inl ⟨hwx, rfl⟩) hj hto HE hi hfo (by omega)
              have hli := hfo.1
              have hej' : (e : Int) ≤ n := by omega
              have hli' : (l : Int) ≤ i := by omega
              have hjn' : (n : Int) ≤ n := by omega
              have hln : ¬ n = l := by omega
              obtain ⟨A, hA, HA⟩ := cutAddr go n e n hj
              go_wp2
              go_quiet (fail)
              go_wp2
              go_quiet (fail)
              go_wp2
              go_ret2
              exact ⟨i, n, _, _, hsl, rfl, ⟨_, _, rfl, HA.out⟩, ⟨_, _, rfl, fun h => rfl⟩, (hsp2.drewN _).drewN _, Gr.drewN (Gr.drewN hgr2 _) _⟩
  · go_enter Try.func20, Try.ntmps20
    go_wp2
    go_loopg [] (n - e) (fun g wr => ∃ j : Nat, g = n - j ∧ j ≤ n ∧ EndTo E (x + width) e j ∧ SpanAt wr gs go n width l j ∧ w.grownBy wr (some gs))
    case atStart => exact ⟨e, rfl, he, EndTo.start _ _ _, hsp, Gr.refl _ _⟩
    case round =>
      obtain ⟨j, rfl, hj, hto, hspr, hgr⟩ := hrel
      clear s0 s1 s2 s3
      have hgo : go < w.heap.size := by obtain ⟨cur, hb, _⟩ := hoff; exact hb.lt
      have hoffr : Offs wr go E n := hoff.of (hgr.block go hgo (by simp; omega))
      have c0 := hspr.c0
      have c1 := hspr.c1
      have c2 := hspr.c2
      have c3 := hspr.c3
      have f3 := hspr.blk.free 3
      by_cases hcont : j < n ∧ E[j]?.getD 0 ≤ x + width
      · obtain ⟨hlt', hle⟩ := hcont
        have hlt : (j : Int) < n := by omega
        have ce := hoffr.epoch hlt'
        have hto' := hto.step hle
        go_wp2
        go_quiet (fail)
        go_wp2
        go_roundg (n - (j + 1))
        case measure => omega
        case rel => exact ⟨j + 1, rfl, by omega, hto', (hspr.drewN _).setEnd (j + 1) _ (by go_num), Gr.set (Gr.drewN hgr _) 3 _⟩
      · have HE : Hid (j < n → x + width < E[j]?.getD 0) := fun h => by omega
        have hej := hto.1
        by_cases hlt : (j : Int) < n
        · have ce := hoffr.epoch (show j < n by omega)
          have hd : decide (E[j]?.getD 0 ≤ x + width) = false := by simp; omega
          clear hcont
          go_wp2
          go_quiet (fail)
          go_wp2
          clear c0 c1 c2 c3 f3 ce hd hlt
          obtain ⟨wo, rfl⟩ : ∃ wo : World, wo = wr := ⟨_, rfl⟩
          go_loopg [] (k - l) (fun g wr => ∃ i : Nat, g = k - i ∧ i ≤ k ∧ FirstTo E (0) l i ∧ SpanAt wr gs go n width i j ∧ w.grownBy wr (some gs))
          case atStart => exact ⟨l, rfl, hlk, FirstTo.start _ _ _, hspr.drewN _, Gr.drewN hgr _⟩
          case round =>
            obtain ⟨i, rfl, hi, hfo, hsp2, hgr2⟩ := hrel
            have hoff2 : Offs wr go E n := hoff.of (hgr2.block go hgo (by simp; omega))
            have d0 := hsp2.c0
            have d1 := hsp2.c1
            have d2 := hsp2.c2
            have d3 := hsp2.c3
            have f2 := hsp2.blk.free 2
            have ce := hoff2.epoch (show i < n by omega)
            have hin : (i : Int) < n := by omega
            by_cases hlt : E[i]?.getD 0 < 0
            · have hik : i ≠ k := fun h => by have h1 := hEk.out; have h2 := hE0 i; rw [← h] at h1; omega
              have hfo' := hfo.step hlt
              go_wp2
              go_quiet (fail)
              go_wp2
              go_roundg (k - (i + 1))
              case measure => omega
              case rel => exact ⟨i + 1, rfl, by omega, hfo', (hsp2.drewN _).setFirst (i + 1) _ (by go_num), Gr.set (Gr.drewN hgr2 _) 2 _⟩
            · have hd : decide (E[i]?.getD 0 < 0) = false := by simpa using hlt
              have hsl : Slid E n width x k l e i j := mkSlid (first := 0) hE0 (.inr ⟨by omega, rfl⟩) hj hto HE hi hfo (by omega)
              have hli := hfo.1
              have hej' : (e : Int) ≤ j := by omega
              have hli' : (l : Int) ≤ i := by omega
              have hjn' : (j : Int) ≤ n := by omega
              have hln : ¬ n = l := by omega
              obtain ⟨A, hA, HA⟩ := cutAddr go n e j hj
              go_wp2
              go_quiet (fail)
              go_wp2
              go_quiet (fail)
              go_wp2
              go_ret2
              exact ⟨i, j, _, _, hsl, rfl, ⟨_, _, rfl, HA.out⟩, ⟨_, _, rfl, fun h => rfl⟩, (hsp2.drewN _).drewN _, Gr.drewN (Gr.drewN hgr2 _) _⟩
        · obtain rfl : n = j := by omega
          clear hcont hlt
          have hd : decide ((n : Int) < n) = false := by simp
          go_wp2
          go_quiet (fail)
          go_wp2
          clear c0 c1 c2 c3 f3 hd
          obtain ⟨wo, rfl⟩ : ∃ wo : World, wo = wr := ⟨_, rfl⟩
          go_loopg [] (k - l) (fun g wr => ∃ i : Nat, g = k - i ∧ i ≤ k ∧ FirstTo E (0) l i ∧ SpanAt wr gs go n width i n ∧ w.grownBy wr (some gs))
          case atStart => exact ⟨l, rfl, hlk, FirstTo.start _ _ _, hspr.drewN _, Gr.drewN hgr _⟩
          case round =>
            obtain ⟨i, rfl, hi, hfo, hsp2, hgr2⟩ := hrel
            have hoff2 : Offs wr go E n := hoff.of (hgr2.block go hgo (by simp; omega))
            have d0 := hsp2.c0
            have d1 := hsp2.c1
            have d2 := hsp2.c2
            have d3 := hsp2.c3
            have f2 := hsp2.blk.free 2
            have ce := hoff2.epoch (show i < n by omega)
            have hin : (i : Int) < n := by omega
            by_cases hlt : E[i]?.getD 0 < 0
            · have hik : i ≠ k := fun h => by have h1 := hEk.out; have h2 := hE0 i; rw [← h] at h1; omega
              have hfo' := hfo.step hlt
              go_wp2
              go_quiet (fail)
              go_wp2
              go_roundg (k - (i + 1))
              case measure => omega
              case rel => exact ⟨i + 1, rfl, by omega, hfo', (hsp2.drewN _).setFirst (i + 1) _ (by go_num), Gr.set (Gr.drewN hgr2 _) 2 _⟩
            · have hd : decide (E[i]?.getD 0 < 0) = false := by simpa using hlt
              have hsl : Slid E n width x k l e i n := mkSlid (first := 0) hE0 (.inr ⟨by omega, rfl⟩) hj hto HE hi hfo (by omega)
              have hli := hfo.1
              have hej' : (e : Int) ≤ n := by omega
              have hli' : (l : Int) ≤ i := by omega
              have hjn' : (n : Int) ≤ n := by omega
              have hln : ¬ n = l := by omega
              obtain ⟨A, hA, HA⟩ := cutAddr go n e n hj
              go_wp2
              go_quiet (fail)
              go_wp2
              go_quiet (fail)
              go_wp2
              go_ret2
              exact ⟨i, n, _, _, hsl, rfl, ⟨_, _, rfl, HA.out⟩, ⟨_, _, rfl, fun h => rfl⟩, (hsp2.drewN _).drewN _, Gr.drewN (Gr.drewN hgr2 _) _⟩
end Go.Proofs.Qxb6601525a
