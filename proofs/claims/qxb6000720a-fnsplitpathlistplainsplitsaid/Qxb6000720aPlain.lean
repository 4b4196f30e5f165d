/-
  PLAIN: the splitting of a path list, without Go. 'st s k': what splitPathList holds behind its first k rounds: the entries (as pairs of places), where the next one starts, how deep it stands. 'pf s k': the same for the plain colon-separated list.
-/
import Derived.WalkKit
namespace Go.Proofs.Qxb6000720a
open Go.RowKit

/-- The byte at place j (0 behind the end). -/
def bt (s : ByteArray) (j : Nat) : Nat := (s.data.toList.getD j 0).toNat

theorem bt_eq (s : ByteArray) (k : Nat) (h : k < s.size) : bt s k = s[k].toNat := by
  have h' : k < s.data.toList.length := by simpa using h
  unfold bt
  rw [List.getD_eq_getElem?_getD, List.getElem?_eq_getElem h']
  rfl

abbrev Ents := List (Nat × Nat)

def step (s : ByteArray) (k : Nat) (q : Ents × Nat × Nat) : Ents × Nat × Nat :=
  if bt s k = 123 ∧ 0 < k ∧ bt s (k - 1) = 36 then (q.1, q.2.1, q.2.2 + 1)
  else if bt s k = 125 ∧ 0 < q.2.2 then (q.1, q.2.1, q.2.2 - 1)
  else if bt s k = 58 ∧ q.2.2 = 0 then (if q.2.1 < k then q.1 ++ [(q.2.1, k)] else q.1, k + 1, q.2.2)
  else q

def st (s : ByteArray) : Nat → Ents × Nat × Nat
  | 0 => ([], 0, 0)
  | k + 1 => step s k (st s k)

/-- The entries of the whole text. -/
def ents (s : ByteArray) : Ents :=
  if (st s s.size).2.1 < s.size then (st s s.size).1 ++ [((st s s.size).2.1, s.size)] else (st s s.size).1

def sub (s : ByteArray) (p : Nat × Nat) : Value := .string (s.extract p.1 p.2)

/-! ### what a round does, way by way, in the walk's own words -/
section ways
variable {s : ByteArray} {k sn dn : Nat} {E : Ents}

theorem way_open (hk : k < s.size) (h : Hid (st s k = (E, sn, dn))) (h1 : (s[k].toNat : Int) = 123) (h2 : 0 < k) (h3 : (((s[k - 1]'(by omega)).toNat : Int) == 36) = true) : Hid (st s (k + 1) = (E, sn, dn + 1)) := by
  have e1 := bt_eq s k hk
  have e2 := bt_eq s (k - 1) (by omega)
  have h3' : ((s[k - 1]'(by omega)).toNat : Int) = 36 := by simpa using h3
  unfold Hid at h ⊢
  rw [st, h, step, if_pos (by omega)]
theorem way_brace (hk : k < s.size) (h : Hid (st s k = (E, sn, dn))) (h1 : (s[k].toNat : Int) = 123) (h3 : ∀ h : 0 < k, (((s[k - 1]'(by omega)).toNat : Int) == 36) = false) : Hid (st s (k + 1) = (E, sn, dn)) := by
  have e1 := bt_eq s k hk
  have h3' : ¬ (bt s k = 123 ∧ 0 < k ∧ bt s (k - 1) = 36) := by
    rintro ⟨_, hp, hq⟩
    have e2 := bt_eq s (k - 1) (by omega)
    have := h3 hp
    simp at this
    omega
  unfold Hid at h ⊢
  rw [st, h, step, if_neg h3', if_neg (by omega), if_neg (by omega)]
theorem way_close (hk : k < s.size) (h : Hid (st s k = (E, sn, dn))) (h1 : (s[k].toNat : Int) = 125) (h2 : 0 < dn) : Hid (st s (k + 1) = (E, sn, dn - 1)) := by
  have e1 := bt_eq s k hk
  unfold Hid at h ⊢
  rw [st, h, step, if_neg (by omega), if_pos (by constructor <;> (try simp only) <;> omega)]
theorem way_closed (hk : k < s.size) (h : Hid (st s k = (E, sn, dn))) (h1 : (s[k].toNat : Int) = 125) (h2 : ¬ 0 < dn) : Hid (st s (k + 1) = (E, sn, dn)) := by
  have e1 := bt_eq s k hk
  unfold Hid at h ⊢
  rw [st, h, step, if_neg (by omega), if_neg (by simp only; omega), if_neg (by omega)]
theorem way_colon (hk : k < s.size) (h : Hid (st s k = (E, sn, dn))) (h1 : (s[k].toNat : Int) = 58) (h2 : ((dn : Int) == 0) = true) (h3 : sn < k) : Hid (st s (k + 1) = (E ++ [(sn, k)], k + 1, dn)) := by
  have e1 := bt_eq s k hk
  have h2' : (dn : Int) = 0 := by simpa using h2
  unfold Hid at h ⊢
  rw [st, h, step, if_neg (by omega), if_neg (by omega), if_pos (by constructor <;> (try simp only) <;> omega), if_pos h3]
theorem way_colons (hk : k < s.size) (h : Hid (st s k = (E, sn, dn))) (h1 : (s[k].toNat : Int) = 58) (h2 : ((dn : Int) == 0) = true) (h3 : ¬ sn < k) : Hid (st s (k + 1) = (E, k + 1, dn)) := by
  have e1 := bt_eq s k hk
  have h2' : (dn : Int) = 0 := by simpa using h2
  unfold Hid at h ⊢
  rw [st, h, step, if_neg (by omega), if_neg (by omega), if_pos (by constructor <;> (try simp only) <;> omega), if_neg h3]
theorem way_deep (hk : k < s.size) (h : Hid (st s k = (E, sn, dn))) (h1 : (s[k].toNat : Int) = 58) (h2 : ((dn : Int) == 0) = false) : Hid (st s (k + 1) = (E, sn, dn)) := by
  have e1 := bt_eq s k hk
  have h2' : ¬ (dn : Int) = 0 := by simpa using h2
  unfold Hid at h ⊢
  rw [st, h, step, if_neg (by omega), if_neg (by omega), if_neg (by simp only; omega)]
theorem way_else (hk : k < s.size) (h : Hid (st s k = (E, sn, dn))) (h1 : ¬ (s[k].toNat : Int) = 123) (h2 : ¬ (s[k].toNat : Int) = 125) (h3 : ¬ (s[k].toNat : Int) = 58) : Hid (st s (k + 1) = (E, sn, dn)) := by
  have e1 := bt_eq s k hk
  unfold Hid at h ⊢
  rw [st, h, step, if_neg (by omega), if_neg (by omega), if_neg (by omega)]
theorem way_last (h : Hid (st s s.size = (E, sn, dn))) (h1 : sn < s.size) : ents s = E ++ [(sn, s.size)] := by
  unfold Hid at h
  unfold ents
  rw [h, if_pos h1]
theorem way_none (h : Hid (st s s.size = (E, sn, dn))) (h1 : ¬ sn < s.size) : ents s = E := by
  unfold Hid at h
  unfold ents
  rw [h, if_neg h1]
end ways
end Go.Proofs.Qxb6000720a
