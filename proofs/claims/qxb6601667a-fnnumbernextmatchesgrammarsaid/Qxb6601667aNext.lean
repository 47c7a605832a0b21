import Derived.Test.Qxb6601667aRows
import Derived.WalkKit
import Derived.WalkSpells
import Derived.WalkLawsBesides
import Derived.Outline
import Derived.LoopTactic
import Derived.Deep.Light
namespace Go.Proofs.Qxb6601667a
open Go.RowKit

/-- What 'numberNext' answers: the next state, and whether the byte continues the number. -/
def nxt (s c : Int) : Int × Bool :=
  if 48 ≤ c ∧ c ≤ 57 then
    if s = 11 then (if c = 48 then (15, true) else (16, true))
    else if s = 16 then (16, true)
    else if s = 12 ∨ s = 17 then (17, true)
    else if s = 13 ∨ s = 14 ∨ s = 18 then (18, true)
    else (s, false)
  else if c = 46 then (if s = 15 ∨ s = 16 then (12, true) else (s, false))
  else if c = 101 ∨ c = 69 then (if s = 15 ∨ s = 16 ∨ s = 17 then (13, true) else (s, false))
  else if c = 43 ∨ c = 45 then (if s = 13 then (14, true) else (s, false))
  else (s, false)

def NextPost (s c : Int) (e : Ending) : Prop := e = .returned (.tuple #[.int .i64 (nxt s c).1, .bool (nxt s c).2])
theorem NextPost.mk {s c a : Int} {b : Bool} (h : nxt s c = (a, b)) : NextPost s c (.returned (.tuple #[.int .i64 a, .bool b])) := by
  unfold NextPost
  rw [h]

set_option maxHeartbeats 1000000 in
theorem next_any (s c : Int) (w : World) (hc0 : 0 ≤ c) (hc : c ≤ 255) :
    Calls Try.prog 11 #[.int .i64 s, .int .u8 c] w fun e w' => NextPost s c e ∧ w' = w := by
  go_enter Try.func11, Try.ntmps11
  go_wp2
  all_goals
    go_ret2
    refine ⟨NextPost.mk ?_, rfl⟩
    go_light
    simp only [beq_iff_eq, beq_eq_false_iff_ne, ne_eq] at *
    unfold nxt
    repeat' split
    all_goals first | rfl | (exfalso; omega)

set_option maxHeartbeats 1000000 in
theorem zznext_any (s c : Int) (w : World) (hc0 : 0 ≤ c) (hc : c ≤ 255) :
    Calls Try.prog 8 #[.int .i64 s, .int .u8 c] w fun e w' => NextPost s c e ∧ w' = w := by
  go_enter Try.func8, Try.ntmps8
  go_wp2_with fail
  refine (next_any s c w hc0 hc).mono ?_
  rintro e w1 ⟨he, rfl⟩
  obtain ⟨a, b, hab⟩ : ∃ a b, nxt s c = (a, b) := ⟨_, _, rfl⟩
  have H : Hid (nxt s c = (a, b)) := hab
  unfold NextPost at he
  rw [hab] at he
  subst he
  clear hab
  go_wp2
  go_ret2
  exact ⟨NextPost.mk H.out, rfl⟩

theorem nxt_out {s c : Int} (h : s < 11 ∨ 18 < s) : nxt s c = (s, false) := by
  unfold nxt
  repeat' split
  all_goals first | rfl | (exfalso; omega)
end Go.Proofs.Qxb6601667a
