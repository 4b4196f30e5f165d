/-
  THE WALK of FnOpChunksAddHoldsEveryOpInPlace (9) outside its own bounds: it returns true at once.
-/
import Derived.Test.Qxb6000819aSameOp
namespace Go.Proofs.Qxb6000819a
open Go.RowKit

theorem law_long (size n : Int) (key : ByteArray) (hkey : 1048576 < key.size) (w : World) :
    Calls Try.prog 9 #[.int .i64 size, .int .i64 n, .string key] w fun e w' => e = .returned (.bool true) ∧ Below w.heap.size w w' := by
  go_enter Try.func9, Try.ntmps9
  go_wp2_with (first
    | (go_at_call 22; refine (bytes22_no size n key _ hkey).mono ?_; rintro e w' ⟨rfl, rfl⟩)
    | fail)
  go_ret
  exact ⟨rfl, Below.refl _ _⟩

theorem law_out (size n : Int) (key : ByteArray) (hkey : key.size ≤ 1048576) (w : World) (h : size < 0 ∨ 65536 < size ∨ n < 0 ∨ 65536 < n) :
    Calls Try.prog 9 #[.int .i64 size, .int .i64 n, .string key] w fun e w' => e = .returned (.bool true) ∧ Below w.heap.size w w' := by
  by_cases h1 : size < 0
  · go_enter Try.func9, Try.ntmps9
    go_wp2_with (first
      | (go_at_call 22; refine (bytes22_yes size n key _ hkey).mono ?_; rintro e w' ⟨rfl, rfl⟩)
      | fail)
    go_ret
    exact ⟨rfl, Below.refl _ _⟩
  by_cases h2 : 65536 < size
  · go_enter Try.func9, Try.ntmps9
    go_wp2_with (first
      | (go_at_call 22; refine (bytes22_yes size n key _ hkey).mono ?_; rintro e w' ⟨rfl, rfl⟩)
      | fail)
    go_ret
    exact ⟨rfl, Below.refl _ _⟩
  by_cases h3 : n < 0
  · go_enter Try.func9, Try.ntmps9
    go_wp2_with (first
      | (go_at_call 22; refine (bytes22_yes size n key _ hkey).mono ?_; rintro e w' ⟨rfl, rfl⟩)
      | fail)
    go_ret
    exact ⟨rfl, Below.refl _ _⟩
  have h4 : 65536 < n := by omega
  go_enter Try.func9, Try.ntmps9
  go_wp2_with (first
    | (go_at_call 22; refine (bytes22_yes size n key _ hkey).mono ?_; rintro e w' ⟨rfl, rfl⟩)
    | fail)
  go_ret
  exact ⟨rfl, Below.refl _ _⟩
end Go.Proofs.Qxb6000819a
