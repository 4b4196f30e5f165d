/-
  add's contract; THE WALK of ZZOpChunksAdd (25).
-/
import Derived.Test.Qxb6000819aAdd
namespace Go.Proofs.Qxb6000819a
open Go.RowKit

/-- What an add leaves. -/
def Added (B C size k : Nat) (key : ByteArray) (vch : Value) (CH : List Ch) (w : World) (e : Ending) (w' : World) : Prop :=
  ∃ g j vch' CH', e = .returned (.pointer (some ⟨g, j * 12, none⟩)) ∧ St w' B C key size vch' CH' (k + 1) ∧ ptrsOf CH' = ptrsOf CH ++ [.pointer (some ⟨g, j * 12, none⟩)] ∧
      w'.rangeAt g (j * 12) (opA k key).toList ∧ CH'.length ≤ k + 1 ∧ Kept (Mods C vch CH) w w'

theorem add_any (B C size k : Nat) (key : ByteArray) (vch : Value) (CH : List Ch) (w : World) (h : St w B C key size vch CH k) (hk : k ≤ 65536) (hlen : CH.length ≤ k) (hsize : size ≤ 65536) (hBw : B ≤ w.heap.size) :
    Calls Try.prog 32 #[.pointer (some ⟨C, 0, none⟩), .agg (opA k key)] w (Added B C size k key vch CH w) :=
  add_plain B C size k key vch CH _ _ _ _ _ _ _ _ _ _ _ _ (show opA k key = _ from rfl) (by intro u hu; simp only [List.mem_cons, List.not_mem_nil, or_false] at hu; rcases hu with rfl | rfl | rfl | rfl | rfl | rfl | rfl | rfl | rfl | rfl | rfl | rfl <;> rfl) w h hk hlen hsize hBw

theorem zadd_any (B C size k : Nat) (key : ByteArray) (vch : Value) (CH : List Ch) (w : World) (h : St w B C key size vch CH k) (hk : k ≤ 65536) (hlen : CH.length ≤ k) (hsize : size ≤ 65536) (hBw : B ≤ w.heap.size) :
    Calls Try.prog 25 #[.pointer (some ⟨C, 0, none⟩), .agg (opA k key)] w (Added B C size k key vch CH w) := by
  have hb := (Below.refl w.heap.size w).alloc (Nat.le_refl _) (.cells (opA k key) 46)
  have HS : Hid (St w B C key size vch CH k) := h
  have hBw' : B ≤ (w.alloc (.cells (opA k key) 46)).heap.size := by simp; omega
  clear h
  unfold opA
  go_enter Try.func25, Try.ntmps25
  go_wp2_with (go_at_call 32; refine (add_any B C size k key vch CH (w.alloc (.cells (opA k key) 46)) (HS.out.below hb) hk hlen hsize hBw').mono ?_; rintro e w' ⟨g, j, vch', CH', rfl, h1, h2, h3, h4, h5⟩)
  all_goals
    go_ret
    exact ⟨g, j, vch', CH', rfl, h1, h2, h3, h4, (Kept.of_below hb).trans h5⟩
end Go.Proofs.Qxb6000819a
