/-
  THE WALK of FnIsCoreFloatMatchesAutomaton (function 3), out of the contracts of isCoreFloat (19, 9) and of the automaton (10).
-/
import Derived.Test.Qxb6000720aFloatCore
namespace Go.Proofs.Qxb6000720a
open Go.RowKit

set_option maxHeartbeats 1600000 in
set_option maxRecDepth 1000000 in
theorem core_any (s : ByteArray) (w : World) (hs : s.size ≤ 1048576) :
    Calls Try.prog 19 #[.string s] w fun e w' => e = .returned (.bool (nan s.toList || (inf (strip s.data.toList) || num (strip s.data.toList)))) ∧ w' = w := by
  cases hn : nan s.toList
  · cases hi : inf (strip s.data.toList)
    · exact core_no s w hs hn hi
    · simp only [Bool.true_or, Bool.false_or]
      have HI : Hid (inf (strip s.data.toList) = true) := hi
      obtain ⟨n1, n2, n3⟩ := nan_no hn
      clear hi hn
      rcases head_cases s with ⟨h0, he, hT⟩ | ⟨h0, he, hc, hT⟩ | ⟨h0, he, hc, hT⟩ | ⟨h0, he, hc, hc', hT⟩
      all_goals
        rcases inf_yes HI.out with h | h | h
        all_goals
          rw [h] at hT
          clear HI h
          first
            | (exfalso; rw [hT] at he; exact absurd he (by decide))
            | (go_enter Try.func19, Try.ntmps19
               go_wp2
               go_ret
               exact ⟨rfl, rfl⟩)
  · simp only [Bool.true_or]
    rcases nan_yes hn with h | h | h
    all_goals
      clear hn
      go_enter Try.func19, Try.ntmps19
      go_wp2
      go_ret
      exact ⟨rfl, rfl⟩

theorem zzcore_any (s : ByteArray) (w : World) (hs : s.size ≤ 1048576) :
    Calls Try.prog 9 #[.string s] w fun e w' => e = .returned (.bool (nan s.toList || (inf (strip s.data.toList) || num (strip s.data.toList)))) ∧ w' = w := by
  go_enter Try.func9, Try.ntmps9
  go_wp2_with (go_at_call 19; refine (core_any s _ hs).mono ?_; rintro e w' ⟨rfl, rfl⟩)
  go_ret
  exact ⟨rfl, rfl⟩

theorem float_walk (s : ByteArray) (w : World) : Calls Try.prog 3 #[.string s] w fun e w' => e = .returned (.bool true) ∧ Below w.heap.size w w' := by
  by_cases hs : s.size ≤ 1048576
  · obtain ⟨b, hc, hm⟩ : ∃ b, Hid (∀ w, Calls Try.prog 9 #[.string s] w fun e w' => e = .returned (.bool b) ∧ w' = w) ∧ Hid (∀ w, Calls Try.prog 10 #[.string s] w fun e w' => e = .returned (.bool b) ∧ w' = w) :=
      ⟨_, fun w => zzcore_any s w hs, fun w => by rw [← run_num]; exact model_any s w hs⟩
    go_enter Try.func3, Try.ntmps3
    go_wp2_with (first
      | (go_at_call 8; refine (bytes8_yes s _ hs).mono ?_; rintro e w' ⟨rfl, rfl⟩)
      | (go_at_call 9; refine (hc.out _).mono ?_; rintro e w' ⟨rfl, rfl⟩)
      | (go_at_call 10; refine (hm.out _).mono ?_; rintro e w' ⟨rfl, rfl⟩)
      | fail)
    go_ret
    exact ⟨ret_bool (by simp), Below.refl _ _⟩
  · have hs' : 1048576 < s.size := by omega
    go_enter Try.func3, Try.ntmps3
    go_wp2_with (first
      | (go_at_call 8; refine (bytes8_no s _ hs').mono ?_; rintro e w' ⟨rfl, rfl⟩)
      | fail)
    go_ret
    exact ⟨rfl, Below.refl _ _⟩
end Go.Proofs.Qxb6000720a
