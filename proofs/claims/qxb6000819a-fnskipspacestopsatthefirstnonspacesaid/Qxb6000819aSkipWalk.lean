/-
  THE WALK of FnSkipSpaceStopsAtTheFirstNonSpace (function 6).
-/
import Derived.Test.Qxb6000819aSkip
namespace Go.Proofs.Qxb6000819a
open Go.RowKit

theorem bytes17_yes (a : Option Addr) (len cap : Nat) (i : Int) (w : World) (hs : len ≤ 1048576) : Calls Try.prog 17 #[.slice a len cap, .int .i64 i] w fun e w' => e = .returned (.bool true) ∧ w' = w := by
  go_enter Try.func17, Try.ntmps17
  go_wp2
  go_ret
  exact ⟨rfl, rfl⟩
theorem bytes17_no (a : Option Addr) (len cap : Nat) (i : Int) (w : World) (hs : 1048576 < len) : Calls Try.prog 17 #[.slice a len cap, .int .i64 i] w fun e w' => e = .returned (.bool false) ∧ w' = w := by
  go_enter Try.func17, Try.ntmps17
  go_wp2
  go_ret
  exact ⟨rfl, rfl⟩

theorem cloned_row {w : World} {B len c : Nat} {a : Option Addr} {ys : List Int} (h : Cloned w B a len c ys) (h0 : 0 < len) :
    a = some ⟨B, 0, none⟩ ∧ c = len ∧ B < w.heap.size ∧ Hid (∀ j, j < len → w.cell? ⟨B, j, none⟩ = some (.int .u8 (ys.getD j 0))) := by
  obtain ⟨hl, h⟩ := h
  rcases h with h | ⟨h1, h2, h3⟩
  · omega
  · refine ⟨h1, h2, (h3.lt _ rfl).2, fun j hj => ?_⟩
    rw [h3.cellAt j (by omega), List.getElem?_map, List.getElem?_eq_getElem (by omega), List.getD_eq_getElem?_getD, List.getElem?_eq_getElem (by omega)]
    rfl

set_option maxHeartbeats 800000 in
theorem stops_end (a : Option Addr) (len cap : Nat) (zs : List Int) (i : Int) (w : World) (h : InRow w a len cap zs) (hs : len ≤ 1048576) (h0 : 0 ≤ i) (hi : (len : Int) ≤ i) :
    Calls Try.prog 6 #[.slice a len cap, .int .i64 i] w fun e w' => e = .returned (.bool true) ∧ Below w.heap.size w w' := by
  have hcl : Hid (∀ _ : True, _) := fun _ => clone_any a len cap zs w h hs
  clear h
  go_enter Try.func6, Try.ntmps6
  go_wp2_with (first
    | (go_at_call 17; refine (bytes17_yes a len cap i _ hs).mono ?_; rintro e w' ⟨rfl, rfl⟩)
    | fail)
  refine (hcl.out trivial).mono ?_
  rintro e w1 ⟨a', c', rfl, hclo, hb1⟩
  go_wp2_with (go_at_call 18; refine (zzskip_end a' len c' i _ hi).mono ?_; rintro e w2 ⟨rfl, hb2⟩)
  go_ret
  exact ⟨ret_bool' (by simp), hb1.trans (hb2.mono hb1.size)⟩

set_option maxHeartbeats 1600000 in
theorem stops_run (a : Option Addr) (len cap : Nat) (zs : List Int) (i : Nat) (w : World) (h : InRow w a len cap zs) (hs : len ≤ 1048576) (hi : i < len) :
    Calls Try.prog 6 #[.slice a len cap, .int .i64 i] w fun e w' => e = .returned (.bool true) ∧ Below w.heap.size w w' := by
  have hcl := clone_any a len cap zs w h hs
  replace hcl : Calls Try.prog 11 #[.slice a len cap] w fun e w' => e = .returned (.slice (some ⟨w.heap.size, 0, none⟩) len len) ∧ w.heap.size < w'.heap.size ∧ Hid (∀ j, j < len → w'.cell? ⟨w.heap.size, j, none⟩ = some (.int .u8 ((zs.take len).getD j 0))) ∧ Below w.heap.size w w' := by
    refine hcl.mono ?_
    rintro e w1 ⟨a', c', rfl, hclo, hb1⟩
    obtain ⟨rfl, rfl, h3, h4⟩ := cloned_row hclo (by omega)
    exact ⟨rfl, h3, h4, hb1⟩
  generalize zs.take len = ys at hcl
  clear h
  have HC : Hid (∀ _ : True, _) := fun _ => hcl
  clear hcl
  go_enter Try.func6, Try.ntmps6
  go_wp2_with (first
    | (go_at_call 17; refine (bytes17_yes a len cap i _ hs).mono ?_; rintro e w' ⟨rfl, rfl⟩)
    | fail)
  refine (HC.out trivial).mono ?_
  rintro e w1 ⟨rfl, hB, hcs, hb1⟩
  go_wp2_with fail
  refine (zzskip_run w'.heap.size len len ys i w1 hi hs hB hcs).mono ?_
  rintro e w2 ⟨j, rfl, h1, h2, hsp, hns, hb2⟩
  have HB : Hid (Below w'.heap.size w' w2) := hb1.trans (hb2.mono hb1.size)
  have hcs2 : Hid (∀ j, j < len → w2.cell? ⟨w'.heap.size, j, none⟩ = some (.int .u8 (ys.getD j 0))) := fun j hj => (hb2.cell (by exact hB)).trans (hcs.out j hj)
  clear hb1 hb2 hcs HC
  have HN : Hid (j < len → spB (ys.getD j 0) = false) := hns
  clear hns
  have d0 : decide (len ≤ i) = false := decide_eq_false (by omega)
  have d1 : decide (j < i) = false := decide_eq_false (by omega)
  have d2 : decide (len < j) = false := decide_eq_false (by omega)
  go_wp2
  go_loop [6] (fun q => ∃ k : Nat, i ≤ k ∧ k ≤ j ∧ q = .int .i64 k) (fun q => j - (intOf q).toNat)
  case atStart => exact ⟨i, Nat.le_refl _, h1, rfl⟩
  case round =>
    obtain ⟨k, hk1, hk2, rfl⟩ := hrel
    by_cases hlt : k < j
    · have hc := hcs2.out k (by omega)
      have hS := space_any (ys.getD k 0) w2
      rw [hsp.out k hk1 hlt] at hS
      have HS : Hid (∀ _ : True, _) := fun _ => hS
      clear hS
      generalize ys.getD k 0 = cv at *
      go_wp2_with (go_at_call 19; refine (HS.out trivial).mono ?_; rintro e w3 ⟨rfl, hw3⟩; obtain rfl := hw3.symm)
      go_round
      case rel => exact ⟨k + 1, by omega, by omega, by go_num⟩
      case measure => simp [intOf]; omega
    · by_cases hjl : j < len
      · have hc := hcs2.out j hjl
        have hS := space_any (ys.getD j 0) w2
        rw [HN.out hjl] at hS
        have HS : Hid (∀ _ : True, _) := fun _ => hS
        have hne : ((j : Int) == (len : Int)) = false := beq_eq_false_iff_ne.2 (by omega)
        clear hS HN hsp hcs2
        generalize ys.getD j 0 = cv at *
        go_wp2_with (go_at_call 19; refine (HS.out trivial).mono ?_; rintro e w3 ⟨rfl, rfl⟩)
        go_ret
        exact ⟨rfl, HB.out⟩
      · obtain rfl : j = len := by omega
        go_wp2
        go_ret
        exact ⟨rfl, HB.out⟩

theorem stops_long (a : Option Addr) (len cap : Nat) (i : Int) (w : World) (hs : 1048576 < len) :
    Calls Try.prog 6 #[.slice a len cap, .int .i64 i] w fun e w' => e = .returned (.bool true) ∧ Below w.heap.size w w' := by
  go_enter Try.func6, Try.ntmps6
  go_wp2_with (first
    | (go_at_call 17; refine (bytes17_no a len cap i _ hs).mono ?_; rintro e w' ⟨rfl, rfl⟩)
    | fail)
  go_ret
  exact ⟨rfl, Below.refl _ _⟩

theorem stops_neg (a : Option Addr) (len cap : Nat) (i : Int) (w : World) (hs : len ≤ 1048576) (hi : i < 0) :
    Calls Try.prog 6 #[.slice a len cap, .int .i64 i] w fun e w' => e = .returned (.bool true) ∧ Below w.heap.size w w' := by
  go_enter Try.func6, Try.ntmps6
  go_wp2_with (first
    | (go_at_call 17; refine (bytes17_yes a len cap i _ hs).mono ?_; rintro e w' ⟨rfl, rfl⟩)
    | fail)
  go_ret
  exact ⟨rfl, Below.refl _ _⟩

theorem stops_walk (a : Option Addr) (len cap : Nat) (zs : List Int) (i : Int) (w : World) (h : InRow w a len cap zs) :
    Calls Try.prog 6 #[.slice a len cap, .int .i64 i] w fun e w' => e = .returned (.bool true) ∧ Below w.heap.size w w' := by
  by_cases hs : len ≤ 1048576
  · by_cases h0 : 0 ≤ i
    · by_cases hi : (len : Int) ≤ i
      · exact stops_end a len cap zs i w h hs h0 hi
      · obtain ⟨n, rfl⟩ := Int.eq_ofNat_of_zero_le h0
        exact stops_run a len cap zs n w h hs (by omega)
    · exact stops_neg a len cap i w hs (by omega)
  · exact stops_long a len cap i w (by omega)
end Go.Proofs.Qxb6000819a
