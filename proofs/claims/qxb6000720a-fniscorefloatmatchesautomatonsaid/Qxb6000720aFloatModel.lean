/-
  THE WALKS of isDigit (23), floatStep (20), isNaNWord (12), coreFloatModel (10).
-/
import Derived.Test.Qxb6000720aRows
import Derived.Test.Qxb6000720aFloatPlain
import Derived.WalkSpells
import Derived.Outline
import Derived.Deep.Light
namespace Go.Proofs.Qxb6000720a
open Go.RowKit

theorem ret_int {k : IntKind} {a b : Int} (h : a = b) : Ending.returned (.int k a) = .returned (.int k b) := by rw [h]
theorem ret_bool {a b : Bool} (h : a = b) : Ending.returned (.bool a) = .returned (.bool b) := by rw [h]

def digB (c : Int) : Bool := decide (48 ≤ c ∧ c ≤ 57)
theorem digB_yes {c : Int} (h : digB c = true) : 48 ≤ c ∧ c ≤ 57 := by simpa [digB] using h
theorem digB_no {c : Int} (h : digB c = false) : ¬ (48 ≤ c ∧ c ≤ 57) := by simp only [digB, decide_eq_false_iff_not] at h; exact h

theorem digit_any (c : Int) (w : World) : Calls Try.prog 23 #[.int .u8 c] w fun e w' => e = .returned (.bool (digB c)) ∧ w' = w := by
  by_cases h1 : 48 ≤ c
  all_goals by_cases h2 : c ≤ 57
  all_goals
    go_enter Try.func23, Try.ntmps23
    go_wp2
    go_ret
    exact ⟨ret_bool (by simp [digB, h1, h2]), rfl⟩

set_option maxHeartbeats 4000000 in
theorem step_any (q c : Int) (w : World) : Calls Try.prog 20 #[.int .i64 q, .int .u8 c] w fun e w' => e = .returned (.int .i64 (stepA q c)) ∧ w' = w := by
  cases hd : digB c
  all_goals go_enter Try.func20, Try.ntmps20
  all_goals go_wp2_with (go_at_call 23; refine (digit_any _ _).mono ?_; rintro e w' ⟨rfl, rfl⟩)
  all_goals
    go_ret
    refine ⟨ret_int ?_, rfl⟩
    go_light
    first | (have hd' := digB_yes hd) | (have hd' := digB_no hd)
    clear hd
    simp only [beq_iff_eq, beq_eq_false_iff_ne, ne_eq] at *
    show (_ : Int) = stepA _ _
    unfold stepA
    omega
end Go.Proofs.Qxb6000720a
