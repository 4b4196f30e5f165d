/-
  THE WALK of cloneBytes (8): a fresh copy; nil stays nil.
-/
import Derived.Test.Qxb6600007aRows
import Derived.WalkKit
import Derived.WalkSpells
import Derived.Outline
import Derived.OpenShut
namespace Go.Proofs.Qxb6600007a
open Go.RowKit
theorem Try.info5 : (Try.prog.info? 5).map (fun i => (i.zero, i.size, i.bytes)) = some (some (.int .u8 0), 1, 1) := by kernel_rfl

/-- The bytes of a list of numbers, as cells. -/
abbrev cellsU8 (zs : List Int) : List Value := zs.map (Value.int .u8)

theorem clone_nil (w : World) : Calls Try.prog 8 #[.slice none 0 0] w fun e w' => e = .returned (.slice none 0 0) ∧ w' = w := by
  have hq := fun w => Lib.run_eql_slice_nil (P := Try.prog) w 22 5 none 0 0 0 0 Try.underlying22
  go_enter Try.func8, Try.ntmps8
  go_wp2
  go_ret
  exact ⟨rfl, rfl⟩

/-- What a round does to the copy. -/
theorem clone_step {B len k : Nat} {zs : List Int} {w wr : World} {xs : List Value} (hk : k < len)
    (hown : wr.ownsRow B 5 1 (.slice (some ⟨B, 0, none⟩) len len) len xs) (hx : Hid (∀ j, j < k → xs[j]? = some (.int .u8 (zs.getD j 0)))) (hb : Below B w wr) :
    ∃ xs', (wr.setCell ⟨B, k, none⟩ (.int .u8 (zs.getD k 0))).ownsRow B 5 1 (.slice (some ⟨B, 0, none⟩) len len) len xs' ∧ Hid (∀ j, j < k + 1 → xs'[j]? = some (.int .u8 (zs.getD j 0))) ∧
      Below B w (wr.setCell ⟨B, k, none⟩ (.int .u8 (zs.getD k 0))) := by
  have h := hown.stored k (.int .u8 (zs.getD k 0))
  have hl : xs.length = len := by have := hown.1; omega
  refine ⟨_, h.1, ?_, hb.setCell (Nat.le_refl _) _⟩
  intro j hj
  by_cases e : j = k
  · subst e
    rw [List.getElem?_set_self (by omega)]
  · rw [List.getElem?_set_ne (by omega)]
    exact hx.out j (by omega)

theorem clone_done {len : Nat} {zs : List Int} {xs : List Value} (hl : xs.length = len) (hz : len ≤ zs.length) (hx : Hid (∀ j, j < len → xs[j]? = some (.int .u8 (zs.getD j 0)))) : xs = cellsU8 (zs.take len) := by
  apply List.ext_getElem?
  intro j
  by_cases hj : j < len
  · rw [hx.out j hj, List.getElem?_map, List.getElem?_take, if_pos hj, List.getD_eq_getElem?_getD, List.getElem?_eq_getElem (by omega)]
    rfl
  · rw [List.getElem?_eq_none (by omega), List.getElem?_eq_none (by simp; omega)]

theorem store_cell {w : World} {B len k : Nat} {xs : List Value} (hk : k < len) (hown : w.ownsRow B 5 1 (.slice (some ⟨B, 0, none⟩) len len) len xs) :
    (∃ v, w.cell? ⟨B, k, none⟩ = some v) ∧ w.frozen? ⟨B, k, none⟩ = false := by
  have hl := hown.1
  refine ⟨⟨xs[k]'(by omega), ?_⟩, hown.frozenAt k⟩
  rw [hown.cellAt k (by omega), List.getElem?_eq_getElem (by omega)]

set_option maxHeartbeats 1600000 in
theorem clone_some (b off len cap : Nat) (zs : List Int) (w : World) (hlen : len ≤ 1048576) (hz : len ≤ zs.length)
    (hc : Hid (∀ j, j < zs.length → w.cell? ⟨b, off + j, none⟩ = some (.int .u8 (zs.getD j 0)))) (hb : b < w.heap.size) :
    Calls Try.prog 8 #[.slice (some ⟨b, off, none⟩) len cap] w fun e w' => e = .returned (.slice (some ⟨w.heap.size, 0, none⟩) len len) ∧
      w'.ownsRow w.heap.size 5 1 (.slice (some ⟨w.heap.size, 0, none⟩) len len) len (cellsU8 (zs.take len)) ∧ Below w.heap.size w w' := by
  obtain ⟨i0, hi, hz0, hz1, hz2⟩ := info_parts Try.info5
  have hq := fun w => Lib.run_eql_slice_nil (P := Try.prog) w 22 5 (some ⟨b, off, none⟩) len cap 0 0 Try.underlying22
  go_enter Try.func8, Try.ntmps8
  go_wp2_with (at_make; refine wpList_make_full _ rfl _ _ 22 rfl w.heap.size 5 i0 (.int .u8 0) 1 Try.underlying22 hi hz0 hz1 .i64 .i64 _ _ len rfl rfl rfl rfl (by rw [hz2]; omega) (by unfold maxLen; omega) (Nat.le_refl _) ?_; intro w0 hown0 hgrow0)
  have hb0 : Below w.heap.size w w0 := (Below.refl _ _).grown hgrow0 (Nat.le_refl _) (fun k h => by cases h)
  go_loopw [4] (fun i wr => ∃ (k : Nat) (xs : List Value), k ≤ len ∧ i = .int .i64 k ∧ wr.ownsRow w.heap.size 5 1 (.slice (some ⟨w.heap.size, 0, none⟩) len len) len xs ∧ Hid (∀ j, j < k → xs[j]? = some (.int .u8 (zs.getD j 0))) ∧ Below w.heap.size w wr) (fun i _ => len - (intOf i).toNat)
  case atStart => exact ⟨0, _, Nat.zero_le _, rfl, hown0, fun j hj => absurd hj (Nat.not_lt_zero _), hb0⟩
  case round =>
    obtain ⟨k, xs, hk, rfl, hown, hx, hbr⟩ := hrel
    clear hown0 hgrow0 hb0
    by_cases hlt : k < len
    · have hcx : wr.cell? ⟨b, off + k, none⟩ = some (.int .u8 (zs.getD k 0)) := (hbr.cell (by exact hb)).trans (hc.out k (by omega))
      obtain ⟨⟨v, hv⟩, hf⟩ := store_cell hlt hown
      obtain ⟨xs', R1, R2, R3⟩ := clone_step hlt hown hx hbr
      clear hown hx hbr
      generalize zs.getD k 0 = z at *
      go_wp2
      go_roundw
      case rel => exact ⟨k + 1, xs', by omega, by go_num, R1, R2, R3⟩
      case measure => simp [intOf]; omega
    · obtain rfl : k = len := by omega
      have hxs := clone_done (by have := hown.1; omega) hz hx
      subst hxs
      go_wp2
      go_ret
      exact ⟨rfl, hown, hbr⟩

/-- An empty slice that is not nil: whatever its address. -/
theorem clone_empty (a : Addr) (cap : Nat) (w : World) :
    Calls Try.prog 8 #[.slice (some a) 0 cap] w fun e w' => e = .returned (.slice (some ⟨w.heap.size, 0, none⟩) 0 0) ∧
      w'.ownsRow w.heap.size 5 1 (.slice (some ⟨w.heap.size, 0, none⟩) 0 0) 0 [] ∧ Below w.heap.size w w' := by
  obtain ⟨i0, hi, hz0, hz1, hz2⟩ := info_parts Try.info5
  have hq := fun w => Lib.run_eql_slice_nil (P := Try.prog) w 22 5 (some a) 0 cap 0 0 Try.underlying22
  go_enter Try.func8, Try.ntmps8
  go_wp2_with (at_make; refine wpList_make_full _ rfl _ _ 22 rfl w.heap.size 5 i0 (.int .u8 0) 1 Try.underlying22 hi hz0 hz1 .i64 .i64 _ _ 0 rfl rfl rfl rfl (by rw [hz2]; omega) (by unfold maxLen; omega) (Nat.le_refl _) ?_; intro w0 hown0 hgrow0)
  have hb0 : Below w.heap.size w w0 := (Below.refl _ _).grown hgrow0 (Nat.le_refl _) (fun k h => by cases h)
  refine wp_loop_rounds 1 ?_
  rw [rounds_succ]
  go_wp2
  go_ret
  have he : (madeCells (Value.int .u8 0).cells (0 * 1)).toList = [] := List.eq_nil_of_length_eq_zero (by have := hown0.1; omega)
  rw [he] at hown0
  exact ⟨rfl, hown0, hb0⟩

/-- What the clone gives: nil, or a row of the call's own at its head. -/
def Cloned (w : World) (B : Nat) (a : Option Addr) (len c : Nat) (ys : List Int) : Prop :=
  ys.length = len ∧ ((a = none ∧ len = 0 ∧ c = 0) ∨ (a = some ⟨B, 0, none⟩ ∧ c = len ∧ w.ownsRow B 5 1 (.slice (some ⟨B, 0, none⟩) len len) len (cellsU8 ys)))

/-- What a slice of bytes that came in is (the shell's own words). -/
def InRow (w : World) (a : Option Addr) (len cap : Nat) (zs : List Int) : Prop :=
  (a = none ∧ len = 0 ∧ cap = 0 ∧ zs = []) ∨
  ∃ x, a = some x ∧ len ≤ cap ∧ cap ≤ maxLen ∧ zs.length = cap ∧ (∀ i, i < zs.length → w.cell? (x.add i) = some (.int .u8 (zs.getD i 0))) ∧ ∀ n ∈ zs, (Lit.int .u8 n).wf = true

theorem clone_any (a : Option Addr) (len cap : Nat) (zs : List Int) (w : World) (h : InRow w a len cap zs) (hlen : len ≤ 1048576) :
    Calls Try.prog 8 #[.slice a len cap] w fun e w' => ∃ a' c', e = .returned (.slice a' len c') ∧ Cloned w' w.heap.size a' len c' (zs.take len) ∧ Below w.heap.size w w' := by
  rcases h with ⟨rfl, rfl, rfl, rfl⟩ | ⟨x, rfl, h1, h2, h3, hc, _⟩
  · exact (clone_nil w).mono fun e w' h => ⟨none, 0, h.1, ⟨rfl, .inl ⟨rfl, rfl, rfl⟩⟩, by rw [h.2]; exact Below.refl _ _⟩
  · by_cases h0 : len = 0
    · subst h0
      exact (clone_empty x cap w).mono fun e w' h => ⟨_, 0, h.1, ⟨by simp, .inr ⟨rfl, rfl, by simpa using h.2.1⟩⟩, h.2.2⟩
    · obtain ⟨b, off, rfl, hcs⟩ := Go.ints_at hc (by omega)
      have hb : b < w.heap.size := World.block_lt_of_cell? w _ (hcs 0 (by omega))
      exact (clone_some b off len cap zs w hlen (by omega) hcs hb).mono fun e w' h => ⟨_, len, h.1, ⟨by simp; omega, .inr ⟨rfl, rfl, h.2.1⟩⟩, h.2.2⟩
end Go.Proofs.Qxb6600007a
