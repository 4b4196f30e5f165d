/-
  THE WALKS of lexCompare (10), pow10Width (7), and of the law FnAppendDigitsOrderMatchesNumbers (4).
-/
import Derived.Test.Qxb6600007aDig
import Derived.Deep.QuietTactic
import Derived.BigQuiet
namespace Go.Proofs.Qxb6600007a
open Go.RowKit

theorem ret_int {k : IntKind} {a b : Int} (h : a = b) : Ending.returned (.int k a) = .returned (.int k b) := by rw [h]
theorem ret_bool {a b : Bool} (h : a = b) : Ending.returned (.bool a) = .returned (.bool b) := by rw [h]
theorem below_drewN {B : Nat} {a w : World} (h : Below B a w) (m : Nat) : Below B a (w.drewN m) := ⟨h.os, h.tape, h.output, h.size, h.block⟩

theorem drew2 (w : World) (m n : Nat) : (w.drewN m).drewN n = w.drewN (m + n) := by simp [World.drewN, Nat.add_assoc]

theorem row_cells {w : World} {B g n cap : Nat} {xs : List Int} (h : w.ownsRow B 5 1 (.slice (some ⟨g, 0, none⟩) n cap) n (cellsU8 xs)) :
    xs.length = n ∧ Hid (∀ j, j < n → w.cell? ⟨g, j, none⟩ = some (.int .u8 (xs.getD j 0))) := by
  have hl : xs.length = n := by have := h.1; simpa using this
  refine ⟨hl, fun j hj => ?_⟩
  rw [h.cellAt j (by omega), List.getElem?_map, List.getElem?_eq_getElem (by omega), List.getD_eq_getElem?_getD, List.getElem?_eq_getElem (by omega)]
  rfl

theorem lexc_drop {xs ys : List Int} {k : Nat} (hx : k < xs.length) (hy : k < ys.length) :
    lexc (xs.drop k) (ys.drop k) = if xs.getD k 0 < ys.getD k 0 then -1 else if ys.getD k 0 < xs.getD k 0 then 1 else lexc (xs.drop (k + 1)) (ys.drop (k + 1)) := by
  rw [List.drop_eq_getElem_cons hx, List.drop_eq_getElem_cons hy, lexc]
  simp [List.getElem?_eq_getElem hx, List.getElem?_eq_getElem hy]

theorem lex_none (n : Nat) (hn : n = 0) (a b : Option Addr) (ca cb : Nat) (w : World) : Calls Try.prog 10 #[.slice a n ca, .slice b n cb] w fun e w' => e = .returned (.int .i64 0) ∧ w' = w := by
  subst hn
  go_enter Try.func10, Try.ntmps10
  go_wp2
  refine wp_loop_rounds 1 ?_
  rw [rounds_succ]
  go_wp2
  go_ret
  exact ⟨rfl, rfl⟩

set_option maxHeartbeats 1600000 in
theorem lex_some (n g h ca cb : Nat) (xs ys : List Int) (hx : xs.length = n) (hy : ys.length = n) (hn : n ≤ 1048580) (w : World)
    (hg : Hid (∀ j, j < n → w.cell? ⟨g, j, none⟩ = some (.int .u8 (xs.getD j 0)))) (hh : Hid (∀ j, j < n → w.cell? ⟨h, j, none⟩ = some (.int .u8 (ys.getD j 0)))) :
    Calls Try.prog 10 #[.slice (some ⟨g, 0, none⟩) n ca, .slice (some ⟨h, 0, none⟩) n cb] w fun e w' => e = .returned (.int .i64 (lexc xs ys)) ∧ ∃ m, w' = w.drewN m := by
  have HX : Hid (xs.length = n) := hx
  have HY : Hid (ys.length = n) := hy
  clear hx hy
  go_enter Try.func10, Try.ntmps10
  go_wp2
  go_loopw [5] (fun i wr => ∃ k m : Nat, k ≤ n ∧ i = .int .i64 k ∧ wr = w.drewN m ∧ Hid (lexc xs ys = lexc (xs.drop k) (ys.drop k))) (fun i _ => n - (intOf i).toNat)
  case atStart => exact ⟨0, 0, Nat.zero_le _, rfl, rfl, by simp [Hid]⟩
  case round =>
    obtain ⟨k, m, hk, rfl, rfl, hlex⟩ := hrel
    by_cases hlt : k < n
    · have c1 := hg.out k hlt
      have c2 := hh.out k hlt
      have hd := lexc_drop (xs := xs) (ys := ys) (k := k) (by rw [HX.out]; exact hlt) (by rw [HY.out]; exact hlt)
      rw [← hlex.out] at hd
      have HD : Hid (_ = _) := hd
      clear hd hlex
      generalize xs.getD k 0 = x at *
      generalize ys.getD k 0 = y at *
      by_cases hxy : x < y
      · go_wp2
        go_quiet (fail)
        go_wp2
        go_ret
        exact ⟨ret_int (by rw [HD.out, if_pos hxy]), _, drew2 _ _ _⟩
      · by_cases hyx : y < x
        · go_wp2
          go_quiet (fail)
          go_wp2
          go_quiet (fail)
          go_wp2
          go_ret
          exact ⟨ret_int (by rw [HD.out, if_neg (by omega), if_pos hyx]), _, by rw [drew2, drew2]⟩
        · have HD' : Hid (lexc xs ys = lexc (xs.drop (k + 1)) (ys.drop (k + 1))) := by unfold Hid; rw [HD.out, if_neg hxy, if_neg hyx]
          go_wp2
          go_quiet (fail)
          go_wp2
          go_quiet (fail)
          go_wp2
          go_roundw
          case rel => exact ⟨k + 1, _, by omega, by go_num, rfl, HD'⟩
          case measure => simp [intOf]; omega
    · have hend : Hid (lexc xs ys = 0) := by unfold Hid; rw [hlex.out, List.drop_eq_nil_of_le (by rw [HX.out]; omega), List.drop_eq_nil_of_le (by rw [HY.out]; omega)]; rfl
      go_wp2
      go_ret
      exact ⟨ret_int (by rw [hend.out]), m, rfl⟩

theorem lex_rows (n : Nat) (xs ys : List Int) (B B' : Nat) (va vb : Value) (w : World) (hn : n ≤ 1048580) (ha : w.ownsRow B 5 1 va n (cellsU8 xs)) (hb : w.ownsRow B' 5 1 vb n (cellsU8 ys)) :
    Calls Try.prog 10 #[va, vb] w fun e w' => e = .returned (.int .i64 (lexc xs ys)) ∧ ∃ m, w' = w.drewN m := by
  have hx : xs.length = n := by have := ha.1; simpa using this
  have hy : ys.length = n := by have := hb.1; simpa using this
  have none : ∀ (a b : Option Addr) (ca cb : Nat), n = 0 → Calls Try.prog 10 #[.slice a n ca, .slice b n cb] w fun e w' => e = .returned (.int .i64 (lexc xs ys)) ∧ ∃ m, w' = w.drewN m := by
    intro a b ca cb h0
    refine (lex_none n h0 a b ca cb w).mono fun e w' h => ⟨?_, 0, h.2⟩
    rw [h.1, List.eq_nil_of_length_eq_zero (hx.trans h0), List.eq_nil_of_length_eq_zero (hy.trans h0)]
    rfl
  rcases ha.2 with ⟨rfl, h0⟩ | ⟨g, cap, cur, rfl, _⟩
  · rcases hb.2 with ⟨rfl, _⟩ | ⟨g', cap', cur', rfl, _⟩
    · have := none Option.none Option.none 0 0 h0; rw [h0] at this; exact this
    · have := none Option.none (some ⟨g', 0, Option.none⟩) 0 cap' h0; rw [h0] at this ⊢; exact this
  · rcases hb.2 with ⟨rfl, h0⟩ | ⟨g', cap', cur', rfl, _⟩
    · have := none (some ⟨g, 0, Option.none⟩) Option.none cap 0 h0; rw [h0] at this ⊢; exact this
    · exact lex_some n g g' cap cap' xs ys hx hy hn w (row_cells ha).2 (row_cells hb).2

theorem pow_any (wd : Nat) (hw : wd ≤ 4) (w : World) : Calls Try.prog 7 #[.int .i64 wd] w fun e w' => e = .returned (.int .i64 ((10 ^ wd : Nat) : Int)) ∧ w' = w := by
  rcases (show wd = 0 ∨ wd = 1 ∨ wd = 2 ∨ wd = 3 ∨ wd = 4 by omega) with rfl | rfl | rfl | rfl | rfl
  all_goals
    go_enter Try.func7, Try.ntmps7
    go_wp2
    go_ret
    exact ⟨rfl, rfl⟩
end Go.Proofs.Qxb6600007a
