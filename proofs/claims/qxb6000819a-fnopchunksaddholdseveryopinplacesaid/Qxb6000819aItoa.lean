/-
  THE WALK of zzB1Itoa (31): the string is a function of k alone.
-/
import Derived.Test.Qxb6000819aRows
import Derived.WalkKit
import Derived.WalkSpells
import Derived.WalkLawsBesides
import Derived.Outline
import Derived.Laws.IdiomStrings
namespace Go.Proofs.Qxb6000819a
open Go.RowKit

/-- How many digits k has (k at most 99999). -/
def nd (k : Nat) : Nat := if k = 0 then 0 else if k < 10 then 1 else if k < 100 then 2 else if k < 1000 then 3 else if k < 10000 then 4 else 5
def dgt (k j : Nat) : Nat := 48 + k / 10 ^ j % 10
def itoaL (k : Nat) : List UInt8 := (List.range (nd k)).map fun p => UInt8.ofNat (dgt k (nd k - 1 - p))
def itoa (k : Nat) : ByteArray := if k = 0 then ⟨#[48]⟩ else ⟨(itoaL k).toArray⟩

theorem nd_of {k t : Nat} (hk : k ≤ 99999) (ht : t ≤ 24) (h0 : k / 10 ^ t = 0) (h1 : t = 0 ∨ 0 < k / 10 ^ (t - 1)) : t = nd k := by
  have t5 : t ≤ 5 := by
    rcases h1 with h1 | h1
    · omega
    · rcases Nat.lt_or_ge 5 t with h | h
      · have : 10 ^ 5 ≤ 10 ^ (t - 1) := Nat.pow_le_pow_right (by decide) (by omega)
        have : k / 10 ^ (t - 1) = 0 := Nat.div_eq_of_lt (by omega)
        omega
      · exact h
  match t, t5 with
  | 0, _ => simp at h0; subst h0; rfl
  | 1, _ => simp at h0 h1; unfold nd; rw [if_neg (by omega), if_pos (by omega)]
  | 2, _ => simp at h0 h1; unfold nd; rw [if_neg (by omega), if_neg (by omega), if_pos (by omega)]
  | 3, _ => simp at h0 h1; unfold nd; rw [if_neg (by omega), if_neg (by omega), if_neg (by omega), if_pos (by omega)]
  | 4, _ => simp at h0 h1; unfold nd; rw [if_neg (by omega), if_neg (by omega), if_neg (by omega), if_neg (by omega), if_pos (by omega)]
  | 5, _ => simp at h0 h1; unfold nd; rw [if_neg (by omega), if_neg (by omega), if_neg (by omega), if_neg (by omega), if_neg (by omega)]

theorem nd_pos {k : Nat} (h : ¬ k = 0) : 0 < nd k := by
  unfold nd
  rw [if_neg h]
  (repeat' split) <;> omega

theorem itoaL_at (k j : Nat) (hj : j < (itoaL k).length) : ((itoaL k)[j].toNat : Int) = (dgt k (nd k - 1 - j) : Int) := by
  have : dgt k (nd k - 1 - j) < 256 := by unfold dgt; omega
  simp [itoaL, Nat.mod_eq_of_lt this]
theorem itoaL_length (k : Nat) : (itoaL k).length = nd k := by simp [itoaL]

/-- The array behind the first t rounds. -/
def Arr (w : World) (B k t : Nat) : Prop := ∃ cur : Array Value, w.heap[B]? = some (.cells cur 62 (0, 0)) ∧ cur.size = 24 ∧ ∀ j, j < t → cur[23 - j]? = some (.int .u8 (dgt k j))

theorem arr_step {w wr : World} {B k t nt : Nat} (ht : t < 24) (h : Arr wr B k t) (hb : Below B w wr) (hnt : Hid (k / 10 ^ t = nt)) :
    (∃ v, wr.cell? ⟨B, 24 - t - 1, none⟩ = some v) ∧ wr.frozen? ⟨B, 24 - t - 1, none⟩ = false ∧
    Arr (wr.setCell ⟨B, 24 - t - 1, none⟩ (.int .u8 (48 + (nt : Int) % 10))) B k (t + 1) ∧ Below B w (wr.setCell ⟨B, 24 - t - 1, none⟩ (.int .u8 (48 + (nt : Int) % 10))) := by
  obtain ⟨cur, h1, h2, h3⟩ := h
  have e23 : 24 - t - 1 = 23 - t := by omega
  have ed : (48 + (nt : Int) % 10) = (dgt k t : Int) := by unfold dgt; rw [hnt.out]; omega
  rw [e23, ed]
  refine ⟨⟨cur[23 - t]'(by omega), ?_⟩, ?_, ⟨cur.setIfInBounds (23 - t) (.int .u8 (dgt k t)), ?_, by simpa using h2, ?_⟩, hb.setCell (Nat.le_refl _) _⟩
  · rw [cell_of_row wr B (23 - t) cur 62 (0, 0) h1]; simp
  · exact frozen_of_row wr B (23 - t) cur 62 h1
  · exact heap_setCell_same wr B (23 - t) cur 62 _ h1
  · intro j hj
    by_cases e : j = t
    · subst e
      rw [Array.getElem?_setIfInBounds_self_of_lt (by omega)]
    · rw [Array.getElem?_setIfInBounds_ne (by omega)]
      exact h3 j (by omega)

theorem t_lt5 {k t nt : Nat} (hk : k ≤ 99999) (h : Hid (k / 10 ^ t = nt)) (hp : 0 < nt) : t < 5 := by
  rcases Nat.lt_or_ge t 5 with h' | h'
  · exact h'
  · have : 10 ^ 5 ≤ 10 ^ t := Nat.pow_le_pow_right (by decide) h'
    have : k / 10 ^ t = 0 := Nat.div_eq_of_lt (by omega)
    have := h.out
    omega

/-- The string that the last two operations make. -/
theorem arr_string {w : World} {B k : Nat} (hk : k ≠ 0) (h : Arr w B k (nd k)) (h24 : nd k ≤ 24) (cap : Nat) :
    (convert 23 9 (.slice (some ⟨B, 24 - nd k, none⟩) (nd k) cap)).run Try.prog w = .ok (.string (itoa k)) w := by
  obtain ⟨cur, h1, h2, h3⟩ := h
  have e := run_convert_bytes_back (P := Try.prog) w 23 9 5 ⟨B, 24 - nd k, none⟩ cap (itoaL k) Try.underlying23 Try.underlying5 Try.underlying9 (fun j hj => by
    rw [itoaL_at k j hj]
    rw [itoaL_length] at hj
    rw [Addr.add_lit, cell_of_row w B (24 - nd k + j) cur 62 (0, 0) h1]
    have := h3 (nd k - 1 - j) (by omega)
    rw [show 23 - (nd k - 1 - j) = 24 - nd k + j from by omega] at this
    exact this)
  rw [itoaL_length] at e
  rw [e]
  unfold itoa
  rw [if_neg hk]

theorem Try.alen : Try.prog.arrayLen 62 = 24 := by kernel_rfl
theorem Try.aelem : Try.prog.elem 62 = 5 := by kernel_rfl
theorem Try.info5s : (Try.prog.info? 5).map (fun i => (i.zero, i.size, i.bytes)) = some (some (.int .u8 0), 1, 1) := by kernel_rfl

/-- 'buf[p:]' of the array variable. -/
theorem buf_slice (B n : Nat) (hn : n ≤ 5) (h0 : 0 < n) (w : World) :
    (Instr.sliceAt 62 (.pointer (some ⟨B, 0, none⟩)) (some (.int .i64 ((24 : Int) - n))) none none).run Try.prog w = .ok (.slice (some ⟨B, 24 - n, none⟩) n n) w := by
  obtain ⟨i0, hi, _, hz1, _⟩ := info_parts Try.info5s
  have e := run_sliceAt_array_l (P := Try.prog) w 62 ⟨B, 0, none⟩ (by rw [Try.alen, Try.aelem]; exact Try.underlying62) .i64 ((24 : Int) - n) (by omega) (by rw [Try.alen]; omega)
  rw [e, Try.alen, Try.aelem]
  have e1 : ((24 : Int) - n).toNat = 24 - n := by omega
  have e2 : ¬ (24 = 24 - n) := by omega
  have e3 : 24 - (24 - n) = n := by omega
  simp [sizeOf, typeInfo, hi, hz1, slicedAt, e1, e2, e3, Addr.add_lit]

set_option maxHeartbeats 1600000 in
theorem itoa_any (k : Nat) (hk : k ≤ 99999) (w : World) :
    Calls Try.prog 31 #[.int .i64 k] w fun e w' => e = .returned (.string (itoa k)) ∧ Below w.heap.size w w' := by
  by_cases h0 : k = 0
  · subst h0
    go_enter Try.func31, Try.ntmps31
    go_wp2
    go_ret
    exact ⟨rfl, Below.refl _ _⟩
  · have hpos : 0 < k := by omega
    go_enter Try.func31, Try.ntmps31
    go_wp2
    go_loopw [0, 4] (fun q p wr => ∃ t nt : Nat, t ≤ 5 ∧ q = .int .i64 nt ∧ p = .int .i64 ((24 : Int) - t) ∧ Hid (k / 10 ^ t = nt) ∧ nt ≤ 99999 ∧ Hid (t = 0 ∨ 0 < k / 10 ^ (t - 1)) ∧ Arr wr w.heap.size k t ∧ Below w.heap.size w wr) (fun q _ _ => (intOf q).toNat)
    case atStart => exact ⟨0, k, by omega, rfl, rfl, by simp [Hid], hk, .inl rfl, ⟨_, heap_alloc_new w _, rfl, fun j hj => absurd hj (Nat.not_lt_zero _)⟩, (Below.refl _ _).alloc (Nat.le_refl _) _⟩
    case round =>
      obtain ⟨t, nt, ht, rfl, rfl, hnt, hle, h1, harr, hb⟩ := hrel
      by_cases hp : 0 < nt
      · have ht5 : t < 5 := t_lt5 hk hnt hp
        obtain ⟨⟨v, c1⟩, c2, R1, R2⟩ := arr_step (by omega) harr hb hnt
        have hnt' : Hid (k / 10 ^ (t + 1) = nt / 10) := by unfold Hid; rw [Nat.pow_succ, ← Nat.div_div_eq_div_mul, hnt.out]
        have h1' : Hid (t + 1 = 0 ∨ 0 < k / 10 ^ (t + 1 - 1)) := by right; rw [Nat.add_sub_cancel, hnt.out]; exact hp
        clear harr hb
        go_wp2
        go_roundw
        case rel => exact ⟨t + 1, nt / 10, by omega, by go_num, by go_num, hnt', by omega, h1', R1, R2⟩
        case measure => simp [intOf]; omega
      · obtain rfl : nt = 0 := by omega
        obtain rfl := nd_of hk (by omega) hnt.out h1.out
        have hstr := fun cap => arr_string h0 harr (by omega) cap
        have hsl := fun w' => buf_slice w.heap.size (nd k) ht (nd_pos h0) w'
        go_wp2
        go_ret
        exact ⟨rfl, hb⟩
end Go.Proofs.Qxb6000819a
