/-
  The walks of the number automaton.
-/
import Derived.Test.Qxb6605207aRows
import Derived.Test.Qxb6605207aPlainAuto
import Derived.WalkKit
import Derived.WalkSpells
import Derived.WalkLawsBesides
import Derived.Deep.Light
namespace Go.Proofs.Qxb6605207a
open Go.RowKit
set_option linter.unusedVariables false

theorem retInt {k : IntKind} {a b : Int} (h : a = b) : Ending.returned (.int k a) = .returned (.int k b) := by rw [h]
theorem retBool {a b : Bool} (h : a = b) : Ending.returned (.bool a) = .returned (.bool b) := by rw [h]

theorem isDigit_any (x : Int) (h0 : 0 ≤ x) (h1 : x ≤ 255) (w : World) :
    Calls Try.prog 30 #[.int .u8 x] w fun e w' => e = .returned (.bool (digB x)) ∧ w' = w := by
  go_enter Try.func30, Try.ntmps30
  go_wp2
  all_goals go_ret
  all_goals refine ⟨retBool ?_, rfl⟩
  all_goals (rw [Bool.eq_iff_iff]; simp [digB] <;> omega)

theorem accepting_any (st : Nat) (h1 : st ≤ 8) (w : World) :
    Calls Try.prog 24 #[.int .i64 st] w fun e w' => e = .returned (.bool (nacc st)) ∧ w' = w := by
  go_enter Try.func24, Try.ntmps24
  go_wp2
  all_goals go_ret
  all_goals refine ⟨retBool ?_, rfl⟩
  all_goals (rw [Bool.eq_iff_iff]; simp [nacc] <;> omega)

set_option maxRecDepth 100000 in
set_option maxHeartbeats 2000000 in
theorem numStep_any (st : Nat) (h : st ≤ 8) (x : Int) (h0 : 0 ≤ x) (h1 : x ≤ 255) (w : World) :
    Calls Try.prog 23 #[.int .i64 st, .int .u8 x] w fun e w' => e = .returned (.int .i64 (nstep st x)) ∧ w' = w := by
  have H := isDigit_any x h0 h1 w
  generalize hd : digB x = d at H
  have HD : Hid (digB x = d) := hd
  clear hd
  have hst : st = 0 ∨ st = 1 ∨ st = 2 ∨ st = 3 ∨ st = 4 ∨ st = 5 ∨ st = 6 ∨ st = 7 ∨ st = 8 := by omega
  rcases hst with rfl | rfl | rfl | rfl | rfl | rfl | rfl | rfl | rfl
  all_goals
    go_enter Try.func23, Try.ntmps23
    go_wp2_with (go_at_call 30; refine H.mono ?_; rintro e w' ⟨rfl, rfl⟩)
  all_goals go_ret
  all_goals refine ⟨retInt ?_, rfl⟩
  all_goals
    clear H
    go_light
    have hd := HD.out
    clear HD
    unfold digB at hd
    simp only [nstep, digB, hd, beq_iff_eq, beq_eq_false_iff_ne, ne_eq] at *
    first
      | omega
      | (cases d <;> simp at * <;> omega)

end Go.Proofs.Qxb6605207a
