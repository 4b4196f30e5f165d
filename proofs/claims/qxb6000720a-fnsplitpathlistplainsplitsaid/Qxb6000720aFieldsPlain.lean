/-
  PLAIN: the plain colon-separated list; where no dollar stands in the text it is the path list.
-/
import Derived.Test.Qxb6000720aPlain
namespace Go.Proofs.Qxb6000720a
open Go.RowKit

def pf (s : ByteArray) : Nat → Ents × Nat
  | 0 => ([], 0)
  | k + 1 => if k = s.size ∨ bt s k = 58 then (if (pf s k).2 < k then (pf s k).1 ++ [((pf s k).2, k)] else (pf s k).1, k + 1) else pf s k

section ways
variable {s : ByteArray} {k sn : Nat} {E : Ents}
theorem pf_push (h : Hid (pf s k = (E, sn))) (hc : k = s.size ∨ bt s k = 58) (h3 : sn < k) : Hid (pf s (k + 1) = (E ++ [(sn, k)], k + 1)) := by
  unfold Hid at h ⊢
  rw [pf, h, if_pos hc, if_pos h3]
theorem pf_skip (h : Hid (pf s k = (E, sn))) (hc : k = s.size ∨ bt s k = 58) (h3 : ¬ sn < k) : Hid (pf s (k + 1) = (E, k + 1)) := by
  unfold Hid at h ⊢
  rw [pf, h, if_pos hc, if_neg h3]
theorem pf_on (h : Hid (pf s k = (E, sn))) (hc : ¬ (k = s.size ∨ bt s k = 58)) : Hid (pf s (k + 1) = (E, sn)) := by
  unfold Hid at h ⊢
  rw [pf, h, if_neg hc]
end ways

theorem st_plain (s : ByteArray) (hd : ∀ j, j < s.size → bt s j ≠ 36) (k : Nat) (hk : k ≤ s.size) : st s k = ((pf s k).1, (pf s k).2, 0) := by
  induction k with
  | zero => rfl
  | succ k ih =>
    rw [st, ih (by omega), step, pf]
    have h36 : ¬ (bt s k = 123 ∧ 0 < k ∧ bt s (k - 1) = 36) := fun h => hd (k - 1) (by omega) h.2.2
    rw [if_neg h36, if_neg (by simp)]
    by_cases c : bt s k = 58
    · simp only [c, true_and, or_true, if_true]
    · rw [if_neg (by simp [c]), if_neg (by omega)]

theorem ents_plain (s : ByteArray) (hd : ∀ j, j < s.size → bt s j ≠ 36) : (pf s (s.size + 1)).1 = ents s ∧ (st s s.size).2.2 = 0 := by
  have h := st_plain s hd s.size (Nat.le_refl _)
  refine ⟨?_, by rw [h]⟩
  unfold ents
  rw [h, pf, if_pos (.inl rfl)]
end Go.Proofs.Qxb6000720a
