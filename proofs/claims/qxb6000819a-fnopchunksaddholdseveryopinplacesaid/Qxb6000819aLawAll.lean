/-
  FnOpChunksAddHoldsEveryOpInPlace (9) at every input: it returns true.
-/
import Derived.Test.Qxb6000819aLaw
import Derived.Test.Qxb6000819aLawOut
namespace Go.Proofs.Qxb6000819a
open Go.RowKit

theorem law_any (size n : Int) (key : ByteArray) (w : World) :
    Calls Try.prog 9 #[.int .i64 size, .int .i64 n, .string key] w fun e w' => e = .returned (.bool true) ∧ Below w.heap.size w w' := by
  by_cases hkey : key.size ≤ 1048576
  · by_cases h : size < 0 ∨ 65536 < size ∨ n < 0 ∨ 65536 < n
    · exact law_out size n key hkey w h
    · obtain ⟨s, rfl⟩ := Int.eq_ofNat_of_zero_le (show 0 ≤ size by omega)
      obtain ⟨m, rfl⟩ := Int.eq_ofNat_of_zero_le (show 0 ≤ n by omega)
      exact law_in s m key (by omega) (by omega) hkey w
  · exact law_long size n key (by omega) w
end Go.Proofs.Qxb6000819a
