import Derived.Test.Qxb6602089aLaw
namespace Go.Proofs.Qxb6602089a
open Go.RowKit

set_option maxRecDepth 20000 in
set_option maxHeartbeats 4000000 in
theorem law_nil (name fixer : ByteArray) (T : Tk) (w : World) (hname : name.size ≤ 9223372036854775807) (hfix : fixer.size ≤ 9223372036854775807) :
    Calls Try.prog 3 #[.string name, .string fixer, .slice none 0 0] w fun e w' => e = .returned (.bool true) ∧ Below w.heap.size w w' := by
  have q30 : ∀ (w : World) (a : Option Addr) (n c n' c' : Nat), (binOp .eql 30 (.slice a n c) (.slice none n' c')).run Try.prog w = .ok (.bool a.isNone) w := fun w a n c n' c' => Lib.run_eql_slice_nil w 30 9 a n c n' c' Try.underlying30
  go_enter Try.func3, Try.ntmps3
  go_wp2_with fail
  refine (bytes_zero name fixer none 0 T w hname hfix).mono ?_
  rintro e w' ⟨⟨ok, rfl, _⟩, rfl⟩
  cases ok
  · go_wp2
    go_ret
    exact ⟨rfl, Below.refl _ _⟩
  go_wp2_with fail
  refine (defBytes_zero name fixer none 0 w hname hfix).mono ?_
  rintro e w' ⟨⟨v, rfl, hv0, hv1⟩, rfl⟩
  by_cases hv : 1048576 < v
  · go_wp2
    go_ret
    exact ⟨rfl, Below.refl _ _⟩
  go_wp2_with fail
  refine (ct_nil w).mono ?_
  rintro e w' ⟨rfl, rfl⟩
  go_wp2_with fail
  refine (def_nil name fixer w).mono ?_
  rintro e w2 ⟨rfl, hgr2⟩
  have hgra : w.grownBy (w2.alloc (.cells #[.string name, .string fixer, .slice none 0 0] 28)) none := Gr.alloc hgr2 _
  clear hgr2
  go_wp2_with fail
  refine (agent_nil name fixer T _).mono ?_
  rintro e w5 ⟨gv, rfl, hrow, hgr5⟩
  have hbel : Below w.heap.size w w5 := (Below.refl _ _).grown (Gr.trans hgra hgr5) (Nat.le_refl _) (by simp)
  clear hgra hgr5
  by_cases hfe : fixer.toList = []
  · have hall : rolesAll T 0 fixer = [] := by rw [all_plain (.inl hfe)]; rfl
    rw [hall] at hrow
    rcases hrow with ⟨_, rfl⟩ | ⟨gr, cr, hR, _⟩
    · clear hall
      go_wp2_with fail
      refine wp_loop_rounds 1 ?_
      rw [rounds_succ]
      go_wp2_with fail
      go_ret
      exact ⟨rfl, hbel⟩
    · exact absurd rfl hR
  · have hfe1 : fixer.toList.isEmpty = false := by simpa using hfe
    have hall : rolesAll T 0 fixer = [fixer] := all_fix hfe rfl
    rw [hall] at hrow
    rcases hrow with ⟨hR, _⟩ | ⟨gr, cr, _, rfl, hcells⟩
    · cases hR
    · have cg : w5.cell? ⟨gr, 0, none⟩ = some (.string fixer) := hcells 0 (by simp)
      have hsame : (fixer.toList != fixer.toList) = false := by simp
      have hlen1 : [fixer].length = 1 := rfl
      rw [hlen1]
      have hcon := before_nil T none 0 fixer w5
      have hb0 : before T fixer 0 = false := rfl
      rw [hb0] at hcon
      clear hall hcells hlen1 hb0
      go_wp2_with fail
      refine wp_loop_rounds 1 ?_
      rw [rounds_succ]
      go_wp2_with fail
      refine hcon.mono ?_
      rintro e w' ⟨rfl, rfl⟩
      clear hcon
      go_wp2_with fail
      go_ret
      exact ⟨rfl, hbel⟩
end Go.Proofs.Qxb6602089a
