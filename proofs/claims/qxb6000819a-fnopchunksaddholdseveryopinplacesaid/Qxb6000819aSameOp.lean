/-
  THE WALK of zzB1SameOp (26) at two operations of the same twelve cells; the small ones: ZZNewOpChunks (23), ZZOpChunksCount (27), ZZOpChunksChunks (28), zzBytes (22).
-/
import Derived.Test.Qxb6000819aOpFor
namespace Go.Proofs.Qxb6000819a
open Go.RowKit

set_option maxHeartbeats 1600000 in
theorem same_plain (p c r : Int) (f ky o ar s1 s2 : ByteArray) (b1 b2 : Bool) (w : World) :
    Calls Try.prog 26 #[.agg #[.int .i64 p, .string f, .string ky, .string o, .int .i64 c, .int .i64 r, .string ar, .string s1, .bool b1, .string s2, .bool b2, .slice none 0 0], .agg #[.int .i64 p, .string f, .string ky, .string o, .int .i64 c, .int .i64 r, .string ar, .string s1, .bool b1, .string s2, .bool b2, .slice none 0 0]] w
      fun e w' => e = .returned (.bool true) ∧ Below w.heap.size w w' := by
  have hq := fun w => Lib.run_eql_slice_nil (P := Try.prog) w 44 9 none 0 0 0 0 Try.underlying44
  go_enter Try.func26, Try.ntmps26
  go_wp2
  refine wp_loop_rounds 1 ?_
  rw [rounds_succ]
  go_wp2
  go_ret
  exact ⟨rfl, ((Below.refl _ _).alloc (Nat.le_refl _) _).alloc (by simp) _⟩

theorem same_any (k : Nat) (key : ByteArray) (w : World) : Calls Try.prog 26 #[.agg (opA k key), .agg (opA k key)] w fun e w' => e = .returned (.bool true) ∧ Below w.heap.size w w' := by
  unfold opA
  exact same_plain _ _ _ _ _ _ _ _ _ _ _ _

theorem new_any (size : Int) (w : World) : Calls Try.prog 23 #[.int .i64 size] w fun e w' => e = .returned (.pointer (some ⟨w.heap.size, 0, none⟩)) ∧ w' = w.alloc (.cells #[.slice none 0 0, .int .i64 0, .int .i64 size] 58) := by
  go_enter Try.func23, Try.ntmps23
  go_wp2
  go_ret
  exact ⟨rfl, rfl⟩

theorem count_any (C : Nat) (n : Int) (w : World) (hc : w.cell? ⟨C, 1, none⟩ = some (.int .i64 n)) : Calls Try.prog 27 #[.pointer (some ⟨C, 0, none⟩)] w fun e w' => e = .returned (.int .i64 n) ∧ w' = w := by
  go_enter Try.func27, Try.ntmps27
  go_wp2
  go_ret
  exact ⟨rfl, rfl⟩

theorem chunks_any (C : Nat) (a : Option Addr) (m c : Nat) (w : World) (hc : w.cell? ⟨C, 0, none⟩ = some (.slice a m c)) : Calls Try.prog 28 #[.pointer (some ⟨C, 0, none⟩)] w fun e w' => e = .returned (.slice a m c) ∧ w' = w := by
  go_enter Try.func28, Try.ntmps28
  go_wp2
  go_ret
  exact ⟨rfl, rfl⟩

theorem bytes22_yes (s n : Int) (key : ByteArray) (w : World) (hs : key.size ≤ 1048576) : Calls Try.prog 22 #[.int .i64 s, .int .i64 n, .string key] w fun e w' => e = .returned (.bool true) ∧ w' = w := by
  go_enter Try.func22, Try.ntmps22
  go_wp2
  go_ret
  exact ⟨rfl, rfl⟩
theorem bytes22_no (s n : Int) (key : ByteArray) (w : World) (hs : 1048576 < key.size) : Calls Try.prog 22 #[.int .i64 s, .int .i64 n, .string key] w fun e w' => e = .returned (.bool false) ∧ w' = w := by
  go_enter Try.func22, Try.ntmps22
  go_wp2
  go_ret
  exact ⟨rfl, rfl⟩
end Go.Proofs.Qxb6000819a
