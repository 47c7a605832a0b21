import Derived.Test.Qxb6601525aSpanLaw
namespace Go.Proofs.Qxb6601525a
open Go.RowKit

set_option maxRecDepth 20000 in
set_option maxHeartbeats 4000000 in
theorem script_core (b off n c : Nat) (E : List Int) (width : Int) (w : World) (hn0 : 0 < n) (hn : n ≤ 65536) (hw0 : 0 ≤ width) (hw1 : width ≤ 9007199254740991)
    (hE : ∀ i : Nat, i < n → w.cell? ⟨b, off + i, none⟩ = some (.int .u64 (E[i]?.getD 0))) (hE0 : ∀ i : Nat, 0 ≤ E[i]?.getD 0) :
    Calls Try.prog 6 #[.slice (some ⟨b, off, none⟩) n c, .int .u64 width] w fun r w' => r = .returned (.bool true) ∧ Below w.heap.size w w' := by
  go_enter Try.func6, Try.ntmps6
  go_wp2_with fail
  refine (bytes_any _ n c width w hn).mono ?_
  rintro r w1 ⟨rfl, rfl⟩
  go_wp2_with fail
  refine (dom_any b off n c E w1 hn hE).mono ?_
  rintro r w2 ⟨d, rfl, hd, q, rfl⟩
  cases d
  · go_wp2
    go_ret
    exact ⟨rfl, ⟨rfl, rfl, rfl, Nat.le_refl _, fun _ _ => rfl⟩⟩
  have hdom := hd rfl
  clear hd
  go_wp2_with fail
  refine (copy_any b off n c E (w1.drewN q) hn hE).mono ?_
  rintro r w3 ⟨g, rfl, hg, hep, hgr3⟩
  go_wp2_with fail
  refine (newSpan_any g n E width w3 hn hep).mono ?_
  rintro r w4 ⟨go, gs, rfl, hgo, hgs, hoff, hsp, hgr4⟩
  have hep4 : EpTo w4 g E n n := hep.of (hgr4.block g hep.lt (by simp))
  have hbel : Below w1.heap.size w1 w4 := by
    have h1 : Below w1.heap.size w1 (w1.drewN q) := ⟨rfl, rfl, rfl, Nat.le_refl _, fun _ _ => rfl⟩
    have h2 : Below w1.heap.size w1 w3 := h1.grown hgr3 (Nat.le_refl _) (by simp)
    exact h2.grown hgr4 h2.size (by simp)
  have hg' : w1.heap.size ≤ g := hg
  have hgo' : g < go := Nat.lt_of_lt_of_le hep.lt hgo
  clear hgr4 hgr3 hep hg
  go_wp2
  go_loopw [7, 8, 9] (fun en le i wr => ∃ k l e : Nat, k ≤ n ∧ i = .int .i64 k ∧ en = .int .i64 e ∧ le = .int .i64 l ∧ Inv E n width k l e ∧ EpTo wr g E n n ∧ Offs wr go E n ∧ SpanAt wr gs go n width l e ∧ Below w1.heap.size w1 wr) (fun _ _ i _ => n - (intOf i).toNat)
  case atStart => exact ⟨0, 0, 0, Nat.zero_le _, rfl, rfl, rfl, Inv.start _ _ _, hep4, hoff, hsp, hbel⟩
  case round =>
    obtain ⟨k, l, e, hk, rfl, rfl, rfl, hinv, hepr, hoffr, hspr, hbr⟩ := hrel
    clear hep4 hoff hsp hbel
    by_cases hlt : k < n
    · have hc := hepr.at_ hlt
      have hx1 := (hdom k hlt).1
      have hx0 := hE0 k
      have HT : Hid (∀ l' e' : Nat, Slid E n width (E[k]?.getD 0) k l e l' e' → Tests E n width k l' e' ∧ Inv E n width (k + 1) l' e') := fun l' e' h => Slid.tests hdom hw0 hlt hinv h
      obtain ⟨x, hx⟩ : ∃ x, x = E[k]?.getD 0 := ⟨_, rfl⟩
      rw [← hx] at hc hx1 hx0
      have HX : Hid (x = E[k]?.getD 0) := hx
      clear hx
      go_wp2_with fail
      refine (zzslide_any gs go n E width x k l e wr hoffr hspr (by omega) hn hw0 hw1 hx0 hx1 hinv.en hinv.lk hlt HX hE0).mono ?_
      rintro r w5 ⟨m1, m2, g1, g2, hsl, rfl, hi1, hi2, hsp5, hgr5⟩
      obtain ⟨ht, hinv'⟩ := HT.out (l + m2) (e + m1) (HX.out ▸ hsl)
      have hep5 : EpTo w5 g E n n := hepr.of (hgr5.block g hepr.lt (by simp; omega))
      have hoff5 : Offs w5 go E n := hoffr.of (hgr5.block go (by obtain ⟨cur, hb, _⟩ := hoffr; exact hb.lt) (by simp; omega))
      have hbr5 : Below w1.heap.size w1 w5 := hbr.grown hgr5 hbr.size (by simp; omega)
      have hA := ht.lk
      have hB := ht.ke
      have hC := ht.en
      have cl := hep5.at_ (j := l + m2) (by omega)
      have ce := hep5.at_ (j := e + m1 - 1) (by omega)
      have t1 := ht.t1
      have t2 := ht.t2
      have t3 := ht.t3
      have t4 := ht.t4
      have cl1 : 0 < l + m2 → w5.cell? ⟨g, l + m2 - 1, none⟩ = some (.int .u64 (E[l + m2 - 1]?.getD 0)) := fun h => hep5.at_ (by omega)
      have ce1 : e + m1 < n → w5.cell? ⟨g, e + m1, none⟩ = some (.int .u64 (E[e + m1]?.getD 0)) := fun h => hep5.at_ h
      have b1 := (hdom (l + m2) (by omega)).1
      have b2 := (hdom (e + m1 - 1) (by omega)).1
      have b3 : 0 < l + m2 → E[l + m2 - 1]?.getD 0 ≤ 9007199254740991 := fun h => (hdom (l + m2 - 1) (by omega)).1
      have p1 := hE0 (l + m2)
      have p2 := hE0 (e + m1 - 1)
      have p3 := hE0 (l + m2 - 1)
      rw [← HX.out] at t1 t2 t3 t4
      generalize E[l + m2]?.getD 0 = y1 at *
      generalize E[e + m1 - 1]?.getD 0 = y2 at *
      generalize E[l + m2 - 1]?.getD 0 = y3 at *
      generalize E[e + m1]?.getD 0 = y4 at *
      clear ht hinv hepr hoffr hspr hbr hgr5 HT hsl
      go_wp2_with fail
      refine (isRun_any g1 e m1 w5 hi1 (by omega) (by omega)).mono ?_
      rintro r w6 ⟨rfl, rfl⟩
      go_wp2_with fail
      refine (isRun_any g2 l m2 w6 hi2 (by omega) (by omega)).mono ?_
      rintro r w7 ⟨rfl, rfl⟩
      have i1 : ((l : Int) + m2) ≤ k := by omega
      have i2 : (k : Int) < (e : Int) + m1 := by omega
      have i3 : ((e : Int) + m1) ≤ n := by omega
      clear hE0 hdom HX hi1 hi2 hE
      have nq1 : ¬ 0 < l + m2 → ¬ (0 : Int) < (l : Int) + m2 := fun h => by omega
      have nq2 : ¬ e + m1 < n → ¬ (e : Int) + m1 < n := fun h => by omega
      by_cases q1 : 0 < l + m2
      · have q1' : (0 : Int) < (l : Int) + m2 := by omega
        have cl1' := cl1 q1
        have t3' := t3 q1
        have b3' := b3 q1
        clear cl1 t3 b3 nq1
        by_cases q2 : e + m1 < n
        · have q2' : (e : Int) + m1 < n := by omega
          have ce1' := ce1 q2
          have t4' := t4 q2
          clear ce1 t4 nq2
          go_wp2_with fail
          go_roundw
          case rel => exact ⟨k + 1, l + m2, e + m1, by omega, by go_num, by go_num, by go_num, hinv', hep5, hoff5, hsp5, hbr5⟩
          case measure => simp [intOf]; omega
        · have q2' := nq2 q2
          clear ce1 t4 nq2
          go_wp2_with fail
          go_roundw
          case rel => exact ⟨k + 1, l + m2, e + m1, by omega, by go_num, by go_num, by go_num, hinv', hep5, hoff5, hsp5, hbr5⟩
          case measure => simp [intOf]; omega
      · have q1' := nq1 q1
        clear cl1 t3 b3 nq1
        by_cases q2 : e + m1 < n
        · have q2' : (e : Int) + m1 < n := by omega
          have ce1' := ce1 q2
          have t4' := t4 q2
          clear ce1 t4 nq2
          go_wp2_with fail
          go_roundw
          case rel => exact ⟨k + 1, l + m2, e + m1, by omega, by go_num, by go_num, by go_num, hinv', hep5, hoff5, hsp5, hbr5⟩
          case measure => simp [intOf]; omega
        · have q2' := nq2 q2
          clear ce1 t4 nq2
          go_wp2_with fail
          go_roundw
          case rel => exact ⟨k + 1, l + m2, e + m1, by omega, by go_num, by go_num, by go_num, hinv', hep5, hoff5, hsp5, hbr5⟩
          case measure => simp [intOf]; omega
    · obtain rfl : n = k := by omega
      obtain rfl : n = e := by have h1 := hinv.ke; have h2 := hinv.en; omega
      go_wp2
      go_ret
      exact ⟨by simp, hbr⟩
end Go.Proofs.Qxb6601525a
