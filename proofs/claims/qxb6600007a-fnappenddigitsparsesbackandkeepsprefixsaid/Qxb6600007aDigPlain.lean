/-
  PLAIN: the decimal digits of n in a fixed width, as bytes.
-/
import Derived.WalkKit
namespace Go.Proofs.Qxb6600007a
open Go.RowKit

/-- The p-th byte (from the left, of wd) when the t digits from the right have been written. -/
def dig (n wd t p : Nat) : Int := 48 + ((if wd - 1 - p < t then n / 10 ^ (wd - 1 - p) % 10 else 0 : Nat) : Int)
def L (n wd t : Nat) : List Int := (List.range wd).map (dig n wd t)
/-- All wd digits. -/
def digs (n wd : Nat) : List Int := L n wd wd

theorem L_length (n wd t : Nat) : (L n wd t).length = wd := by simp [L]
theorem L_zero (n wd : Nat) : L n wd 0 = List.replicate wd 48 := by
  apply List.ext_getElem?
  intro j
  by_cases hj : j < wd
  · simp [L, dig, hj]
  · simp [L, hj]
theorem L_get (n wd t p : Nat) (h : p < wd) : (L n wd t)[p]? = some (dig n wd t p) := by simp [L, h]

/-- One digit more. -/
theorem L_succ (n wd t : Nat) (h : t < wd) : L n wd (t + 1) = (L n wd t).set (wd - 1 - t) (48 + ((n / 10 ^ t % 10 : Nat) : Int)) := by
  apply List.ext_getElem?
  intro j
  by_cases hj : j < wd
  · rw [L_get _ _ _ _ hj, List.getElem?_set]
    by_cases e : wd - 1 - t = j
    · rw [if_pos e, if_pos (by rw [L_length]; omega)]
      have : wd - 1 - j = t := by omega
      simp [dig, this]
    · rw [if_neg e, L_get _ _ _ _ hj]
      unfold dig
      have : (wd - 1 - j < t + 1) ↔ (wd - 1 - j < t) := by omega
      simp only [this]
  · rw [List.getElem?_eq_none (by rw [L_length]; omega), List.getElem?_eq_none (by simp [L_length]; omega)]

theorem pow_mono {a b : Nat} (h : a ≤ b) : 10 ^ a ≤ 10 ^ b := Nat.pow_le_pow_right (by decide) h

/-- Where nothing is left, all digits are written. -/
theorem L_done (n wd t : Nat) (h : n / 10 ^ t = 0) (ht : t ≤ wd) : L n wd t = digs n wd := by
  apply List.ext_getElem?
  intro j
  unfold digs
  by_cases hj : j < wd
  · rw [L_get _ _ _ _ hj, L_get _ _ _ _ hj]
    unfold dig
    by_cases e : wd - 1 - j < t
    · rw [if_pos e, if_pos (by omega)]
    · have hn : n < 10 ^ t := by
        rcases Nat.lt_or_ge n (10 ^ t) with h' | h'
        · exact h'
        · exact absurd h (by have := Nat.div_pos h' (Nat.pow_pos (by decide)); omega)
      have : n / 10 ^ (wd - 1 - j) = 0 := Nat.div_eq_of_lt (Nat.lt_of_lt_of_le hn (pow_mono (by omega)))
      rw [if_neg e, if_pos (by omega), this]
  · rw [List.getElem?_eq_none (by rw [L_length]; omega), List.getElem?_eq_none (by rw [L_length]; omega)]

theorem t_lt {n wd t : Nat} (h : n < 10 ^ wd) (hp : 0 < n / 10 ^ t) : t < wd := by
  rcases Nat.lt_or_ge t wd with h' | h'
  · exact h'
  · have : n / 10 ^ t = 0 := Nat.div_eq_of_lt (Nat.lt_of_lt_of_le h (pow_mono h'))
    omega
theorem div_succ (n t : Nat) : n / 10 ^ t / 10 = n / 10 ^ (t + 1) := by rw [Nat.div_div_eq_div_mul, Nat.pow_succ]

/-- The cell that the round reads: the zero digit. -/
theorem L_at (n wd t : Nat) (h : t < wd) : dig n wd t (wd - 1 - t) = 48 := by
  have : ¬ (wd - 1 - (wd - 1 - t) < t) := by omega
  simp [dig, this]

/-! ### the widths, written out -/
theorem digs0 (n : Nat) : digs n 0 = [] := rfl
theorem digs1 (n : Nat) : digs n 1 = [48 + ((n % 10 : Nat) : Int)] := by simp [digs, L, dig, List.range_succ]
theorem digs2 (n : Nat) : digs n 2 = [48 + ((n / 10 % 10 : Nat) : Int), 48 + ((n % 10 : Nat) : Int)] := by simp [digs, L, dig, List.range_succ]
theorem digs3 (n : Nat) : digs n 3 = [48 + ((n / 100 % 10 : Nat) : Int), 48 + ((n / 10 % 10 : Nat) : Int), 48 + ((n % 10 : Nat) : Int)] := by simp [digs, L, dig, List.range_succ]
theorem digs4 (n : Nat) : digs n 4 = [48 + ((n / 1000 % 10 : Nat) : Int), 48 + ((n / 100 % 10 : Nat) : Int), 48 + ((n / 10 % 10 : Nat) : Int), 48 + ((n % 10 : Nat) : Int)] := by simp [digs, L, dig, List.range_succ]

/-- Bytewise comparison. -/
def lexc : List Int → List Int → Int
  | a :: x, b :: y => if a < b then -1 else if b < a then 1 else lexc x y
  | [], _ :: _ => -1
  | _ :: _, [] => 1
  | [], [] => 0

theorem lexc_digs (n m wd : Nat) (hw : wd ≤ 4) (hn : n < 10 ^ wd) (hm : m < 10 ^ wd) : (n < m → lexc (digs n wd) (digs m wd) = -1) ∧ (m < n → lexc (digs n wd) (digs m wd) = 1) ∧ (n = m → lexc (digs n wd) (digs m wd) = 0) := by
  match wd, hw with
  | 0, _ => simp at hn hm; subst hn hm; simp [digs0, lexc]
  | 1, _ => rw [digs1, digs1]; simp only [lexc]; simp at hn hm; omega
  | 2, _ => rw [digs2, digs2]; simp only [lexc]; simp at hn hm; omega
  | 3, _ => rw [digs3, digs3]; simp only [lexc]; simp at hn hm; omega
  | 4, _ => rw [digs4, digs4]; simp only [lexc]; simp at hn hm; omega

/-- Reading the digits back. -/
def val (l : List Int) : Int := l.foldl (fun v c => v * 10 + (c - 48)) 0
theorem val_digs (n wd : Nat) (hw : wd ≤ 4) (hn : n < 10 ^ wd) : val (digs n wd) = n := by
  match wd, hw with
  | 0, _ => simp at hn; subst hn; rfl
  | 1, _ => rw [digs1]; simp only [val, List.foldl]; simp at hn; omega
  | 2, _ => rw [digs2]; simp only [val, List.foldl]; simp at hn; omega
  | 3, _ => rw [digs3]; simp only [val, List.foldl]; simp at hn; omega
  | 4, _ => rw [digs4]; simp only [val, List.foldl]; simp at hn; omega
theorem digs_range (n wd : Nat) : ∀ c ∈ digs n wd, 48 ≤ c ∧ c ≤ 57 := by
  intro c hc
  unfold digs L at hc
  obtain ⟨p, _, rfl⟩ := List.mem_map.1 hc
  unfold dig
  split <;> omega
end Go.Proofs.Qxb6600007a
