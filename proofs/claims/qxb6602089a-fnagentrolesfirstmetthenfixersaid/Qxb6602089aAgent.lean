import Derived.Test.Qxb6602089aContains
import Derived.OwnWalk
namespace Go.Proofs.Qxb6602089a
open Go.RowKit

/-- Is the kind "agent"? -/
def isAg (k : ByteArray) : Bool := k.toList == [97, 103, 101, 110, 116]
/-- The roles of the first k tasks, each agent's once, in order. -/
def rolesTo (T : Tk) : Nat → List ByteArray
  | 0 => []
  | k + 1 => if isAg (T.ki k) && !hasB (rolesTo T k) (T.ro k) then rolesTo T k ++ [T.ro k] else rolesTo T k
theorem rolesTo_le (T : Tk) : ∀ k, (rolesTo T k).length ≤ k
  | 0 => Nat.le_refl _
  | k + 1 => by
    have ih := rolesTo_le T k
    unfold rolesTo
    split
    · simp; omega
    · omega

/-- v owns the strings R (among the call's own blocks); nil where there are none. -/
def Owns (w : World) (B : Nat) (v : Value) (R : List ByteArray) : Prop := w.ownsRow B 9 1 v R.length (R.map Value.string) ∧ (R = [] → v = .slice none 0 0)
theorem Owns.row {w : World} {B : Nat} {v : Value} {R : List ByteArray} (h : Owns w B v R) : StrRow w v R := by
  obtain ⟨⟨hl, h1⟩, h2⟩ := h
  by_cases hR : R = []
  · exact .inl ⟨hR, h2 hR⟩
  · rcases h1 with ⟨_, h0⟩ | ⟨g, cap, cur, rfl, _, hg, _, _, _, htake⟩
    · exact absurd (List.length_eq_zero_iff.1 h0) hR
    · refine .inr ⟨g, cap, hR, rfl, fun j hj => ?_⟩
      rw [cell_of_row w g j cur 9 (0, 0) hg]
      have h3 : (cur.toList.take (R.length * 1))[j]? = (R.map Value.string)[j]? := by rw [htake]
      rw [List.getElem?_take, if_pos (by omega)] at h3
      simpa [hj] using h3

theorem rolesTo_no {T : Tk} {k : Nat} (h : isAg (T.ki k) = false) : rolesTo T (k + 1) = rolesTo T k := by simp [rolesTo, h]
theorem rolesTo_has {T : Tk} {k : Nat} (h : hasB (rolesTo T k) (T.ro k) = true) : rolesTo T (k + 1) = rolesTo T k := by simp [rolesTo, h]
theorem rolesTo_new {T : Tk} {k : Nat} (h1 : isAg (T.ki k) = true) (h2 : hasB (rolesTo T k) (T.ro k) = false) : rolesTo T (k + 1) = rolesTo T k ++ [T.ro k] := by simp [rolesTo, h1, h2]
theorem Owns.alloc {w : World} {B : Nat} {v : Value} {R : List ByteArray} (h : Owns w B v R) (o : Obj) : Owns (w.alloc o) B v R := ⟨h.1.alloc o, h.2⟩
theorem Owns.push {w' : World} {B : Nat} {v' : Value} {R : List ByteArray} {x : ByteArray} (h : w'.ownsRow B 9 1 v' (R.length + 1) (R.map Value.string ++ [.string x])) : Owns w' B v' (R ++ [x]) :=
  ⟨by simpa using h, fun h0 => by simp at h0⟩

theorem Gr.own {w W w1 : World} {row : Option Nat} (h : w.grownBy W none) (hg : W.grownBy w1 row) (hr : ∀ k, row = some k → w.heap.size ≤ k) : w.grownBy w1 none :=
  ⟨hg.os.trans h.os, hg.tape.trans h.tape, hg.output.trans h.output, Nat.le_trans h.size hg.size, fun i hi _ => (hg.block i (Nat.lt_of_lt_of_le hi h.size) (fun e => by have := hr i e.symm; omega)).trans (h.block i hi (by simp))⟩

/-- What 'AgentRoles' hands back. -/
def rolesAll (T : Tk) (n : Nat) (fixer : ByteArray) : List ByteArray := if fixer.toList = [] then rolesTo T n else if hasB (rolesTo T n) fixer = true then rolesTo T n else rolesTo T n ++ [fixer]
def AgPost (w : World) (T : Tk) (n : Nat) (fixer : ByteArray) (e : Ending) (w' : World) : Prop := ∃ v : Value, e = .returned v ∧ StrRow w' v (rolesAll T n fixer) ∧ w.grownBy w' none

set_option maxRecDepth 20000 in
set_option maxHeartbeats 1000000 in
theorem agent_core (name fixer : ByteArray) (g n : Nat) (T : Tk) (w : World) (hn : n ≤ 4096) (hT : CT w g 59 T n n) :
    Calls Try.prog 12 #[.agg #[.string name, .string fixer, .slice (some ⟨g, 0, none⟩) n n]] w fun e w' => AgPost w T n fixer e w' := by
  obtain ⟨i0, hi, hz0, hz1, hz2⟩ := info_parts info9
  go_enter Try.func12, Try.ntmps12
  go_wp2
  have hst := Blk.new w #[.string name, .string fixer, .slice (some ⟨g, 0, none⟩) n n] 28
  have hTg : CT (w.alloc (.cells #[.string name, .string fixer, .slice (some ⟨g, 0, none⟩) n n] 28)) g 59 T n n := hT.of (Below.heap_alloc _ _ _ hT.lt)
  obtain ⟨d0, hd0⟩ : ∃ d : Nat, d = w.heap.size := ⟨_, rfl⟩
  have HD : Hid (d0 = w.heap.size) := hd0
  rw [← hd0] at hst ⊢
  have hgd : g < d0 := by rw [hd0]; exact hT.lt
  clear hd0
  go_loopw [3, 9] (fun v i wr => ∃ k : Nat, k ≤ n ∧ i = .int .i64 k ∧ Owns wr (d0 + 1) v (rolesTo T k) ∧ Blk wr d0 #[.string name, .string fixer, .slice (some ⟨g, 0, none⟩) n n] 28 ∧ CT wr g 59 T n n ∧ w.grownBy wr none) (fun _ i _ => n - (intOf i).toNat)
  case atStart => exact ⟨0, Nat.zero_le _, rfl, ⟨World.ownsRow_nil _ _ _ _, fun _ => rfl⟩, hst, hTg, Gr.alloc (Gr.refl _ _) _⟩
  case round =>
    obtain ⟨k, hk, rfl, hown, hblk, hct, hgr⟩ := hrel
    clear hst hTg
    by_cases hlt : k < n
    · have c0 := hct.ro hlt
      have c1 := hct.ki hlt
      obtain ⟨p, c2⟩ := hct.ph hlt
      obtain ⟨a3, l3, cc3, c3⟩ := hct.wt hlt
      have hlen := rolesTo_le T k
      have hdw := hblk.lt
      have hrow := (hown.alloc (.cells #[.string (T.ro k), .string (T.ki k), .string p, .slice a3 l3 cc3] 59)).row
      cases hag : isAg (T.ki k)
      · have hag' : ((T.ki k).toList == [97, 103, 101, 110, 116]) = false := hag
        have HR : Hid (rolesTo T (k + 1) = rolesTo T k) := rolesTo_no hag
        clear hag
        go_wp2_with fail
        go_roundw
        case rel => exact ⟨k + 1, by omega, by go_num, by rw [HR.out]; exact hown.alloc _, hblk.alloc _, hct.of (Below.heap_alloc _ _ _ hct.lt), Gr.alloc hgr _⟩
        case measure => simp [intOf]; omega
      · have hag' : ((T.ki k).toList == [97, 103, 101, 110, 116]) = true := hag
        cases hhas : hasB (rolesTo T k) (T.ro k)
        · have HR : Hid (rolesTo T (k + 1) = rolesTo T k ++ [T.ro k]) := rolesTo_new hag hhas
          have HH : Hid (hasB (rolesTo T k) (T.ro k) = false) := hhas
          have hcon := contains_any _ _ (T.ro k) _ (by omega) hrow
          rw [hhas] at hcon
          clear hag hhas hrow
          go_wp2_with fail
          refine hcon.mono ?_
          rintro e w' ⟨rfl, rfl⟩
          clear hcon
          go_wp2_with (at_builtin; refine wpList_append_own _ rfl _ _ 30 rfl (d0 + 1) 9 i0 (.string { data := #[] }) 1 16 Try.underlying30 hi hz0 hz1 hz2 rfl (by decide) _ _ _ rfl ((hown.1.alloc _).alloc _) ⟨wr.heap.size + 1, 0, none⟩ 1 1 [.string (T.ro k)] rfl rfl ?c1 ?c2 ?c3 ?c4 ?c5 ?_)
          case c1 =>
            intro j u hj
            match j, hj with
            | 0, hj => simp at hj; subst hj; simp [Addr.add]
          case c2 => intro u hu; simp at hu; subst hu; rfl
          case c3 => unfold maxLen; omega
          case c4 => omega
          case c5 => simp; omega
          intro v' w1 hown' hgrow _
          have hnew : Owns w1 (d0 + 1) v' (rolesTo T k ++ [T.ro k]) := Owns.push hown'
          have hbk := hown.1.lt
          have hblk1 := ((hblk.alloc (.cells #[.string (T.ro k), .string (T.ki k), .string p, .slice a3 l3 cc3] 59)).alloc (.cells #[.string (T.ro k)] 9)).grown hgrow (fun h => by have := (hbk _ h.symm).1; omega)
          have hct0 : CT ((wr.alloc (.cells #[.string (T.ro k), .string (T.ki k), .string p, .slice a3 l3 cc3] 59)).alloc (.cells #[.string (T.ro k)] 9)) g 59 T n n := (hct.of (Below.heap_alloc _ _ _ hct.lt)).of (Below.heap_alloc _ _ _ (by have := hct.lt; simp; omega))
          have hct1 : CT w1 g 59 T n n := hct0.of (hgrow.block g hct0.lt (fun h => by have := (hbk _ h.symm).1; omega))
          have hgr1 : w.grownBy w1 none := Gr.own (Gr.alloc (Gr.alloc hgr _) _) hgrow (fun q hq => by have := (hbk q hq).1; have := HD.out; omega)
          clear hown' hgrow hct0 hbk hown hblk hct hgr c0 c1 c2 c3
          go_wp2_with fail
          go_roundw
          case rel => exact ⟨k + 1, by omega, by go_num, by rw [HR.out]; exact hnew, hblk1, hct1, hgr1⟩
          case measure => simp [intOf]; omega
        · have HR : Hid (rolesTo T (k + 1) = rolesTo T k) := rolesTo_has hhas
          have hcon := contains_any _ _ (T.ro k) _ (by omega) hrow
          rw [hhas] at hcon
          clear hag hhas hrow
          go_wp2_with fail
          refine hcon.mono ?_
          rintro e w' ⟨rfl, rfl⟩
          clear hcon
          go_wp2_with fail
          go_roundw
          case rel => exact ⟨k + 1, by omega, by go_num, by rw [HR.out]; exact hown.alloc _, hblk.alloc _, hct.of (Below.heap_alloc _ _ _ hct.lt), Gr.alloc hgr _⟩
          case measure => simp [intOf]; omega
    · obtain rfl : n = k := by omega
      have f0 : wr.cell? ⟨d0, 1, none⟩ = some (.string fixer) := hblk.cell 1
      have hrow := hown.row
      have hlen := rolesTo_le T n
      have hdw := hblk.lt
      by_cases hfe : fixer.toList = []
      · have HR : Hid (rolesAll T n fixer = rolesTo T n) := by unfold Hid rolesAll; rw [if_pos hfe]
        go_wp2_with fail
        go_ret
        exact ⟨_, rfl, by rw [HR.out]; exact hrow, hgr⟩
      · have hfe1 : fixer.toList.isEmpty = false := by simpa using hfe
        cases hhas : hasB (rolesTo T n) fixer
        · have HR : Hid (rolesAll T n fixer = rolesTo T n ++ [fixer]) := by unfold Hid rolesAll; rw [if_neg hfe, hhas]; rfl
          have hcon := contains_any _ _ fixer _ (by omega) hrow
          rw [hhas] at hcon
          clear hhas hrow
          go_wp2_with fail
          refine hcon.mono ?_
          rintro e w' ⟨rfl, rfl⟩
          clear hcon
          go_wp2_with (at_builtin; refine wpList_append_own _ rfl _ _ 30 rfl (d0 + 1) 9 i0 (.string { data := #[] }) 1 16 Try.underlying30 hi hz0 hz1 hz2 rfl (by decide) _ _ _ rfl (hown.1.alloc _) ⟨wr.heap.size, 0, none⟩ 1 1 [.string fixer] rfl rfl ?d1 ?d2 ?d3 ?d4 ?d5 ?_)
          case d1 =>
            intro j u hj
            match j, hj with
            | 0, hj => simp at hj; subst hj; simp [Addr.add]
          case d2 => intro u hu; simp at hu; subst hu; rfl
          case d3 => unfold maxLen; omega
          case d4 => omega
          case d5 => simp; omega
          intro v' w1 hown' hgrow _
          have hnew : Owns w1 (d0 + 1) v' (rolesTo T n ++ [fixer]) := Owns.push hown'
          have hbk := hown.1.lt
          have hgr1 : w.grownBy w1 none := Gr.own (Gr.alloc hgr _) hgrow (fun q hq => by have := (hbk q hq).1; have := HD.out; omega)
          have hrow1 := hnew.row
          clear hown' hgrow hbk hown hblk hct hgr
          go_wp2_with fail
          go_ret
          exact ⟨_, rfl, by rw [HR.out]; exact hrow1, hgr1⟩
        · have HR : Hid (rolesAll T n fixer = rolesTo T n) := by unfold Hid rolesAll; rw [if_neg hfe, hhas]; rfl
          have HW : Hid (StrRow wr _ (rolesTo T n)) := hrow
          have hcon := contains_any _ _ fixer _ (by omega) hrow
          rw [hhas] at hcon
          clear hhas hrow
          go_wp2_with fail
          refine hcon.mono ?_
          rintro e w' ⟨rfl, rfl⟩
          clear hcon
          go_wp2_with fail
          go_ret
          exact ⟨_, rfl, by rw [HR.out]; exact HW.out, hgr⟩

set_option maxRecDepth 20000 in
set_option maxHeartbeats 1000000 in
theorem agent_nil (name fixer : ByteArray) (T : Tk) (w : World) :
    Calls Try.prog 12 #[.agg #[.string name, .string fixer, .slice none 0 0]] w fun e w' => AgPost w T 0 fixer e w' := by
  obtain ⟨i0, hi, hz0, hz1, hz2⟩ := info_parts info9
  by_cases hfe : fixer.toList = []
  · have HR : Hid (rolesAll T 0 fixer = []) := by unfold Hid rolesAll; rw [if_pos hfe]; rfl
    go_enter Try.func12, Try.ntmps12
    go_wp2
    refine wp_loop_rounds 1 ?_
    rw [rounds_succ]
    go_wp2
    go_ret
    exact ⟨_, rfl, by rw [HR.out]; exact .inl ⟨rfl, rfl⟩, Gr.alloc (Gr.refl _ _) _⟩
  · have hfe1 : fixer.toList.isEmpty = false := by simpa using hfe
    have HR : Hid (rolesAll T 0 fixer = [fixer]) := by unfold Hid rolesAll; rw [if_neg hfe]; rfl
    have hcon := fun W => contains_any (.slice none 0 0) [] fixer W (by simp) (.inl ⟨rfl, rfl⟩)
    have hh : hasB [] fixer = false := rfl
    rw [hh] at hcon
    clear hh
    go_enter Try.func12, Try.ntmps12
    go_wp2
    refine wp_loop_rounds 1 ?_
    rw [rounds_succ]
    go_wp2_with fail
    refine (hcon _).mono ?_
    rintro e w' ⟨rfl, rfl⟩
    clear hcon
    go_wp2_with (at_builtin; refine wpList_append_own _ rfl _ _ 30 rfl (w.heap.size + 1) 9 i0 (.string { data := #[] }) 1 16 Try.underlying30 hi hz0 hz1 hz2 rfl (by decide) _ _ _ rfl (World.ownsRow_nil _ _ _ _) ⟨w.heap.size + 1, 0, none⟩ 1 1 [.string fixer] rfl rfl ?d1 ?d2 ?d3 ?d4 ?d5 ?_)
    case d1 =>
      intro j u hj
      match j, hj with
      | 0, hj => simp at hj; subst hj; simp [Addr.add]
    case d2 => intro u hu; simp at hu; subst hu; rfl
    case d3 => unfold maxLen; omega
    case d4 => omega
    case d5 => simp
    intro v' w1 hown' hgrow _
    have hnew : Owns w1 (w.heap.size + 1) v' ([] ++ [fixer]) := Owns.push hown'
    have hgr1 : w.grownBy w1 none := Gr.own (Gr.alloc (Gr.alloc (Gr.refl _ _) _) _) hgrow (fun q hq => by simp [Value.ownBlock] at hq)
    have hrow1 := hnew.row
    clear hown' hgrow
    go_wp2_with fail
    go_ret
    exact ⟨_, rfl, by rw [HR.out]; exact hrow1, hgr1⟩
end Go.Proofs.Qxb6602089a
