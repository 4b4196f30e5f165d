/-
  PLAIN: how the entries of 'ents s' lie in s.
-/
import Derived.Test.Qxb6000720aPlain
namespace Go.Proofs.Qxb6000720a
open Go.RowKit

def endAt (ps : Ents) : Nat → Nat
  | 0 => 0
  | k + 1 => (ps.getD k (0, 0)).2

/-- Entry k lies well: between the end of the one before it and its start there are colons alone; it is not empty, begins with no colon, and ends at a colon or at the end. -/
def Lies (s : ByteArray) (p : Nat) (q : Nat × Nat) : Prop :=
  p ≤ q.1 ∧ (∀ j, p ≤ j → j < q.1 → bt s j = 58) ∧ q.1 < q.2 ∧ q.2 ≤ s.size ∧ bt s q.1 ≠ 58 ∧ (q.2 < s.size → bt s q.2 = 58)

def Good (s : ByteArray) (ps : Ents) : Prop := ∀ k, k < ps.length → Lies s (endAt ps k) (ps.getD k (0, 0))

theorem endAt_snoc (ps : Ents) (q : Nat × Nat) (k : Nat) (h : k ≤ ps.length) : endAt (ps ++ [q]) k = endAt ps k := by
  cases k with
  | zero => rfl
  | succ k => simp [endAt, List.getElem?_append_left (show k < ps.length by omega)]

theorem endAt_last (ps : Ents) (q : Nat × Nat) : endAt (ps ++ [q]) (ps.length + 1) = q.2 := by simp [endAt]

theorem good_snoc {s : ByteArray} {ps : Ents} {q : Nat × Nat} (h : Good s ps) (hq : Lies s (endAt ps ps.length) q) : Good s (ps ++ [q]) := by
  intro k hk
  rw [List.length_append, List.length_singleton] at hk
  rw [endAt_snoc _ _ _ (by omega)]
  by_cases e : k < ps.length
  · have := h k e
    simpa [List.getElem?_append_left e] using this
  · obtain rfl : k = ps.length := by omega
    simpa using hq

/-- What holds behind the first k rounds. -/
def Inv (s : ByteArray) (k : Nat) (q : Ents × Nat × Nat) : Prop :=
  Good s q.1 ∧ endAt q.1 q.1.length ≤ q.2.1 ∧ q.2.1 ≤ k ∧ (∀ j, endAt q.1 q.1.length ≤ j → j < q.2.1 → bt s j = 58) ∧ (q.2.1 < k → bt s q.2.1 ≠ 58) ∧ (q.2.1 = k → q.2.2 = 0)

theorem inv_st (s : ByteArray) (k : Nat) (hk : k ≤ s.size) : Inv s k (st s k) := by
  induction k with
  | zero => exact ⟨fun k hk => by simp [st] at hk, by simp [st, endAt], by simp [st], by simp [st], by simp [st], by simp [st]⟩
  | succ k ih =>
    have ih := ih (by omega)
    rw [st]
    generalize hq : st s k = q at ih
    obtain ⟨E, sn, dn⟩ := q
    obtain ⟨h1, h2, h3, h4, h5, h6⟩ := ih
    simp only at h1 h2 h3 h4 h5 h6
    unfold step
    by_cases c1 : bt s k = 123 ∧ 0 < k ∧ bt s (k - 1) = 36
    · rw [if_pos c1]
      refine ⟨h1, h2, by simp only; omega, h4, fun _ => ?_, fun h => by simp only at h; omega⟩
      by_cases e : sn = k
      · simp only; rw [e]; omega
      · exact h5 (by omega)
    rw [if_neg c1]
    simp only
    by_cases c2 : bt s k = 125 ∧ 0 < dn
    · rw [if_pos c2]
      refine ⟨h1, h2, by simp only; omega, h4, fun _ => ?_, fun h => by simp only at h; omega⟩
      by_cases e : sn = k
      · simp only; rw [e]; omega
      · exact h5 (by omega)
    rw [if_neg c2]
    by_cases c3 : bt s k = 58 ∧ dn = 0
    · rw [if_pos c3]
      by_cases c4 : sn < k
      · rw [if_pos c4]
        have hl : Lies s (endAt E E.length) (sn, k) := ⟨h2, h4, c4, by simp only; omega, h5 c4, fun _ => c3.1⟩
        refine ⟨good_snoc h1 hl, ?_, Nat.le_refl _, ?_, fun h => by simp only at h; omega, fun _ => c3.2⟩
        · simp only [List.length_append, List.length_singleton, endAt_last]; omega
        · intro j hj hj2
          simp only [List.length_append, List.length_singleton, endAt_last] at hj hj2
          obtain rfl : j = k := by omega
          exact c3.1
      · rw [if_neg c4]
        refine ⟨h1, by simp only; omega, Nat.le_refl _, ?_, fun h => by simp only at h; omega, fun _ => c3.2⟩
        intro j hj hj2
        simp only at hj hj2
        by_cases e : j = k
        · rw [e]; exact c3.1
        · exact h4 j hj (by omega)
    · rw [if_neg c3]
      refine ⟨h1, h2, by simp only; omega, h4, fun _ => ?_, fun h => by simp only at h; omega⟩
      by_cases e : sn = k
      · simp only
        have := h6 e
        rw [e]
        omega
      · exact h5 (by omega)

theorem good_ents (s : ByteArray) : Good s (ents s) ∧ endAt (ents s) (ents s).length ≤ s.size ∧ ∀ j, endAt (ents s) (ents s).length ≤ j → j < s.size → bt s j = 58 := by
  have ih := inv_st s s.size (Nat.le_refl _)
  unfold ents
  generalize hq : st s s.size = q at ih
  obtain ⟨E, sn, dn⟩ := q
  obtain ⟨h1, h2, h3, h4, h5, h6⟩ := ih
  simp only at h1 h2 h3 h4 h5 h6 ⊢
  by_cases c : sn < s.size
  · rw [if_pos c]
    have hl : Lies s (endAt E E.length) (sn, s.size) := ⟨h2, h4, c, Nat.le_refl _, h5 c, fun h => absurd h (Nat.lt_irrefl _)⟩
    refine ⟨good_snoc h1 hl, ?_, ?_⟩
    · simp [endAt_last]
    · intro j hj hj2
      simp [endAt_last] at hj
      omega
  · rw [if_neg c]
    obtain rfl : sn = s.size := by omega
    exact ⟨h1, h2, h4⟩

/-! ### in the walk's own words -/
theorem lies_walk {s : ByteArray} {ps : Ents} (hg : Good s ps) {k : Nat} (hk : k < ps.length) :
    ∃ (a : Nat) (e : ByteArray), (ps.map (sub s))[k]? = some (.string e) ∧ endAt ps k ≤ a ∧ Hid (∀ j (h : j < s.size), endAt ps k ≤ j → j < a → ((s[j].toNat : Int) == 58) = true) ∧ a < s.size ∧ Hid (∀ h : a < s.size, ((s[a].toNat : Int) == 58) = false) ∧
      0 < e.size ∧ Hid (∀ h : 0 < e.size, ((e[0].toNat : Int) == 58) = false) ∧ e.toList.isEmpty = false ∧ a + e.size ≤ s.size ∧ Hid (endAt ps (k + 1) = a + e.size) ∧ s.extract a (a + e.size) = e ∧ Hid (∀ h : a + e.size < s.size, ((s[a + e.size].toNat : Int) != 58) = false) := by
  obtain ⟨h1, h2, h3, h4, h5, h6⟩ := hg k hk
  have hget : ps[k]? = some (ps.getD k (0, 0)) := by rw [List.getD_eq_getElem?_getD, List.getElem?_eq_getElem hk]; rfl
  generalize hq : ps.getD k (0, 0) = q at *
  obtain ⟨a, b⟩ := q
  simp only at h1 h2 h3 h4 h5 h6
  have hsz : (s.extract a b).size = b - a := by simp [ByteArray.size_extract]; omega
  have hab : a + (s.extract a b).size = b := by rw [hsz]; omega
  refine ⟨a, s.extract a b, by rw [List.getElem?_map, hget]; rfl, h1, ?_, by omega, ?_, by omega, ?_, ?_, by omega, ?_, ?_, ?_⟩
  · intro j hj p q
    have := h2 j p q
    rw [bt_eq s j hj] at this
    simp only [beq_iff_eq]
    omega
  · intro h
    rw [bt_eq s a h] at h5
    simp only [beq_eq_false_iff_ne]
    omega
  · intro h
    rw [bt_eq s a (by omega)] at h5
    rw [ByteArray.getElem_extract]
    simp only [Nat.add_zero, beq_eq_false_iff_ne]
    omega
  · rw [ByteArray.toList_eq]
    have : (s.extract a b).data.toList.length = b - a := hsz
    cases hl : (s.extract a b).data.toList with
    | nil => rw [hl] at this; simp at this; omega
    | cons x r => rfl
  · unfold Hid
    rw [endAt, hq, hab]
  · rw [hab]
  · intro h
    have := h6 (by omega)
    have hb : (s[a + (s.extract a b).size].toNat : Int) = bt s (a + (s.extract a b).size) := by rw [bt_eq s _ h]
    rw [hb, hab, this]
    rfl
theorem tail_walk {s : ByteArray} {p j : Nat} (h : ∀ j, p ≤ j → j < s.size → bt s j = 58) (hj : p ≤ j) (hs : j < s.size) : ((s[j].toNat : Int) != 58) = false := by
  have := h j hj hs
  rw [bt_eq s j hs] at this
  rw [this]
  rfl
end Go.Proofs.Qxb6000720a
