/-
  PLAIN: the core schema's floats: 'num' (what isCoreFloat reads behind the words and the sign) and the automaton 'stepA' agree.
-/
import Derived.WalkKit
namespace Go.Proofs.Qxb6000720a
open Go.RowKit

abbrev Bs := List UInt8
def isd (c : UInt8) : Bool := 48 ≤ c.toNat && c.toNat ≤ 57
def ld (l : Bs) : Nat := (l.takeWhile isd).length
def isSign (c : UInt8) : Bool := c.toNat == 43 || c.toNat == 45
def isExp (c : UInt8) : Bool := c.toNat == 101 || c.toNat == 69
def strip : Bs → Bs
  | [] => []
  | c :: r => if isSign c then r else c :: r
def expo : Bs → Bool
  | [] => true
  | c :: r => if isExp c then (if ld (strip r) = 0 then false else ((strip r).drop (ld (strip r))).isEmpty) else false
def frac : Bs → Nat × Bs
  | [] => (0, [])
  | c :: r => if c.toNat = 46 then (ld r, r.drop (ld r)) else (0, c :: r)
def num (l : Bs) : Bool := if ld l = 0 ∧ (frac (l.drop (ld l))).1 = 0 then false else expo (frac (l.drop (ld l))).2

def stepA (q c : Int) : Int :=
  if q = 0 then (if c = 43 ∨ c = 45 then 1 else if 48 ≤ c ∧ c ≤ 57 then 2 else if c = 46 then 3 else -1)
  else if q = 1 then (if 48 ≤ c ∧ c ≤ 57 then 2 else if c = 46 then 3 else -1)
  else if q = 2 then (if 48 ≤ c ∧ c ≤ 57 then 2 else if c = 46 then 4 else if c = 101 ∨ c = 69 then 5 else -1)
  else if q = 3 then (if 48 ≤ c ∧ c ≤ 57 then 4 else -1)
  else if q = 4 then (if 48 ≤ c ∧ c ≤ 57 then 4 else if c = 101 ∨ c = 69 then 5 else -1)
  else if q = 5 then (if c = 43 ∨ c = 45 then 6 else if 48 ≤ c ∧ c ≤ 57 then 7 else -1)
  else if q = 6 ∨ q = 7 then (if 48 ≤ c ∧ c ≤ 57 then 7 else -1)
  else -1

def fold (q : Int) (l : Bs) : Int := l.foldl (fun q c => stepA q c.toNat) q
def acc (q : Int) : Bool := q == 2 || q == 4 || q == 7
abbrev run (q : Int) (l : Bs) : Bool := acc (fold q l)

theorem fold_cons (q : Int) (c : UInt8) (l : Bs) : fold q (c :: l) = fold (stepA q c.toNat) l := rfl
theorem fold_snoc (q : Int) (c : UInt8) (l : Bs) : fold q (l ++ [c]) = stepA (fold q l) c.toNat := by simp [fold]
theorem fold_dead (l : Bs) : fold (-1) l = -1 := by
  induction l with
  | nil => rfl
  | cons c l ih => rw [fold_cons]; exact ih
theorem fold_dead_append (q : Int) (a b : Bs) (h : fold q a = -1) : fold q (a ++ b) = -1 := by
  have := fold_dead b
  unfold fold at h this ⊢
  rw [List.foldl_append, h, this]
theorem run_dead (l : Bs) : run (-1) l = false := by unfold run; rw [fold_dead]; rfl

theorem ld_nil : ld [] = 0 := rfl
theorem ld_digit {c : UInt8} {r : Bs} (h : isd c = true) : ld (c :: r) = ld r + 1 := by simp [ld, h]
theorem ld_other {c : UInt8} {r : Bs} (h : isd c = false) : ld (c :: r) = 0 := by simp [ld, h]
theorem isd_iff (c : UInt8) : isd c = true ↔ 48 ≤ (c.toNat : Int) ∧ (c.toNat : Int) ≤ 57 := by simp [isd]; omega
theorem isd_iff' (c : UInt8) : isd c = false ↔ ¬ (48 ≤ (c.toNat : Int) ∧ (c.toNat : Int) ≤ 57) := by rw [← isd_iff]; simp
theorem sign_iff (c : UInt8) : isSign c = true ↔ ((c.toNat : Int) = 43 ∨ (c.toNat : Int) = 45) := by simp [isSign]; omega
theorem exp_iff (c : UInt8) : isExp c = true ↔ ((c.toNat : Int) = 101 ∨ (c.toNat : Int) = 69) := by simp [isExp]; omega

theorem run7 (l : Bs) : run 7 l = (l.drop (ld l)).isEmpty := by
  induction l with
  | nil => rfl
  | cons c l ih =>
    by_cases h : isd c = true
    · have h' := (isd_iff c).1 h
      have e : stepA 7 c.toNat = 7 := by simp [stepA, h']
      rw [ld_digit h]
      show acc (fold _ (c :: l)) = _
      rw [fold_cons, e]
      exact ih
    · have h0 : isd c = false := by simpa using h
      have h' := (isd_iff' c).1 h0
      have e : stepA 7 c.toNat = -1 := by simp [stepA, h']
      rw [ld_other h0]
      show acc (fold _ (c :: l)) = _
      rw [fold_cons, e, fold_dead]
      rfl

theorem run_digits67 {q : Int} (hq : q = 5 ∨ q = 6) (l : Bs) (hs : q = 5 → ∀ c r, l = c :: r → isSign c = false) : run q l = if ld l = 0 then false else (l.drop (ld l)).isEmpty := by
  cases l with
  | nil => rcases hq with rfl | rfl <;> rfl
  | cons c l =>
    have hns : q = 5 → ¬ ((c.toNat : Int) = 43 ∨ (c.toNat : Int) = 45) := fun e => by have := hs e c l rfl; rw [← sign_iff]; simp [this]
    by_cases h : isd c = true
    · have h' := (isd_iff c).1 h
      have e : stepA q c.toNat = 7 := by
        rcases hq with rfl | rfl
        · have := hns rfl; simp [stepA, h', this]
        · simp [stepA, h']
      rw [ld_digit h, if_neg (by omega)]
      show acc (fold _ (c :: l)) = _
      rw [fold_cons, e]
      exact run7 l
    · have h0 : isd c = false := by simpa using h
      have h' := (isd_iff' c).1 h0
      have e : stepA q c.toNat = -1 := by
        rcases hq with rfl | rfl
        · have := hns rfl; simp [stepA, h', this]
        · simp [stepA, h']
      rw [ld_other h0]
      show acc (fold _ (c :: l)) = _
      rw [fold_cons, e, fold_dead]
      rfl

theorem run5 (l : Bs) : run 5 l = if ld (strip l) = 0 then false else ((strip l).drop (ld (strip l))).isEmpty := by
  cases l with
  | nil => rfl
  | cons c l =>
    by_cases h : isSign c = true
    · have h' := (sign_iff c).1 h
      have e : stepA 5 c.toNat = 6 := by simp [stepA, h']
      have es : strip (c :: l) = l := by simp [strip, h]
      rw [es, ← run_digits67 (.inr rfl) l (fun e => by omega)]
      show acc (fold _ (c :: l)) = _
      rw [fold_cons, e]
    · have h0 : isSign c = false := by simpa using h
      have es : strip (c :: l) = c :: l := by simp [strip, h0]
      rw [es, ← run_digits67 (.inl rfl) (c :: l) (fun _ c' r' e => by simp at e; rw [← e.1]; exact h0)]

theorem run4 (l : Bs) : run 4 l = expo (l.drop (ld l)) := by
  induction l with
  | nil => rfl
  | cons c l ih =>
    by_cases h : isd c = true
    · have h' := (isd_iff c).1 h
      have e : stepA 4 c.toNat = 4 := by simp [stepA, h']
      rw [ld_digit h]
      show acc (fold _ (c :: l)) = _
      rw [fold_cons, e]
      exact ih
    · have h0 : isd c = false := by simpa using h
      have h' := (isd_iff' c).1 h0
      rw [ld_other h0]
      show acc (fold _ (c :: l)) = expo (c :: l)
      rw [fold_cons]
      by_cases hx : isExp c = true
      · have hx' := (exp_iff c).1 hx
        have e : stepA 4 c.toNat = 5 := by simp [stepA, h', hx']
        rw [e, expo, if_pos hx]
        exact run5 l
      · have hx' : ¬ _ := fun h => hx ((exp_iff c).2 h)
        have e : stepA 4 c.toNat = -1 := by simp [stepA, h', hx']
        rw [e, expo, if_neg hx, fold_dead]
        rfl

theorem run3 (l : Bs) : run 3 l = if ld l = 0 then false else expo (l.drop (ld l)) := by
  cases l with
  | nil => rfl
  | cons c l =>
    by_cases h : isd c = true
    · have h' := (isd_iff c).1 h
      have e : stepA 3 c.toNat = 4 := by simp [stepA, h']
      rw [ld_digit h, if_neg (by omega)]
      show acc (fold _ (c :: l)) = _
      rw [fold_cons, e]
      exact run4 l
    · have h0 : isd c = false := by simpa using h
      have h' := (isd_iff' c).1 h0
      have e : stepA 3 c.toNat = -1 := by simp [stepA, h']
      rw [ld_other h0]
      show acc (fold _ (c :: l)) = _
      rw [fold_cons, e, fold_dead]
      rfl

theorem run2 (l : Bs) : run 2 l = expo (frac (l.drop (ld l))).2 := by
  induction l with
  | nil => rfl
  | cons c l ih =>
    by_cases h : isd c = true
    · have h' := (isd_iff c).1 h
      have e : stepA 2 c.toNat = 2 := by simp [stepA, h']
      rw [ld_digit h]
      show acc (fold _ (c :: l)) = _
      rw [fold_cons, e]
      exact ih
    · have h0 : isd c = false := by simpa using h
      have h' := (isd_iff' c).1 h0
      rw [ld_other h0]
      show acc (fold _ (c :: l)) = expo (frac (c :: l)).2
      rw [fold_cons]
      by_cases hp : c.toNat = 46
      · have e : stepA 2 c.toNat = 4 := by simp [stepA, hp]
        rw [e, frac, if_pos hp]
        exact run4 l
      · have hp' : ¬ (c.toNat : Int) = 46 := by omega
        rw [frac, if_neg hp, expo]
        by_cases hx : isExp c = true
        · have hx' := (exp_iff c).1 hx
          have e : stepA 2 c.toNat = 5 := by simp [stepA, h', hx', hp']
          rw [e, if_pos hx]
          exact run5 l
        · have hx' : ¬ _ := fun h => hx ((exp_iff c).2 h)
          have e : stepA 2 c.toNat = -1 := by simp [stepA, h', hx', hp']
          rw [e, if_neg hx, fold_dead]
          rfl

/-- From state 0 at a text that begins with no sign, and from state 1 at any. -/
theorem run01 {q : Int} (hq : q = 0 ∨ q = 1) (l : Bs) (hs : q = 0 → ∀ c r, l = c :: r → isSign c = false) : run q l = num l := by
  cases l with
  | nil => rcases hq with rfl | rfl <;> rfl
  | cons c l =>
    have hns : q = 0 → ¬ ((c.toNat : Int) = 43 ∨ (c.toNat : Int) = 45) := fun e => by have := hs e c l rfl; rw [← sign_iff]; simp [this]
    show acc (fold _ (c :: l)) = _
    rw [fold_cons]
    by_cases h : isd c = true
    · have h' := (isd_iff c).1 h
      have e : stepA q c.toNat = 2 := by
        rcases hq with rfl | rfl
        · have := hns rfl; simp [stepA, h', this]
        · simp [stepA, h']
      rw [e, num, ld_digit h, if_neg (by omega)]
      exact run2 l
    · have h0 : isd c = false := by simpa using h
      have h' := (isd_iff' c).1 h0
      rw [num, ld_other h0, List.drop_zero]
      by_cases hp : c.toNat = 46
      · have e : stepA q c.toNat = 3 := by rcases hq with rfl | rfl <;> simp [stepA, hp]
        rw [e, frac, if_pos hp]
        have := run3 l
        simp only [true_and]
        exact this
      · have hp' : ¬ (c.toNat : Int) = 46 := by omega
        have e : stepA q c.toNat = -1 := by
          rcases hq with rfl | rfl
          · have := hns rfl; simp [stepA, h', this, hp']
          · simp [stepA, h', hp']
        rw [e, frac, if_neg hp, fold_dead, if_pos ⟨rfl, rfl⟩]
        rfl

/-- THE PLAIN LAW. -/
theorem run_num (l : Bs) : run 0 l = num (strip l) := by
  cases l with
  | nil => rfl
  | cons c l =>
    by_cases h : isSign c = true
    · have h' := (sign_iff c).1 h
      have e : stepA 0 c.toNat = 1 := by simp [stepA, h']
      have es : strip (c :: l) = l := by simp [strip, h]
      rw [es, ← run01 (.inr rfl) l (fun e => by omega)]
      show acc (fold _ (c :: l)) = _
      rw [fold_cons, e]
    · have h0 : isSign c = false := by simpa using h
      have es : strip (c :: l) = c :: l := by simp [strip, h0]
      rw [es]
      exact run01 (.inl rfl) (c :: l) (fun _ c' r' e => by simp at e; rw [← e.1]; exact h0)
end Go.Proofs.Qxb6000720a
