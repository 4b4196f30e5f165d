/-
  THE WALKS of zzB1IsJSONSpace (19), skipSpace (30), ZZSkipSpace (18).
-/
import Derived.Test.Qxb6000819aClone
import Derived.WalkLawsBesides
import Derived.Deep.LoopGhost
import Derived.Deep.QuietTactic
import Derived.BigQuiet
namespace Go.Proofs.Qxb6000819a
open Go.RowKit

theorem ret_bool' {a b : Bool} (h : a = b) : Ending.returned (.bool a) = .returned (.bool b) := by rw [h]

def spB (c : Int) : Bool := c == 32 || (c == 9 || (c == 10 || c == 13))
theorem spB_yes {c : Int} (h : spB c = true) : c = 32 ∨ c = 9 ∨ c = 10 ∨ c = 13 := by simpa only [spB, Bool.or_eq_true, beq_iff_eq] using h
theorem spB_no {c : Int} (h : spB c = false) : (c == 32) = false ∧ (c == 9) = false ∧ (c == 10) = false ∧ (c == 13) = false := by simpa only [spB, Bool.or_eq_false_iff] using h

theorem space_any (c : Int) (w : World) : Calls Try.prog 19 #[.int .u8 c] w fun e w' => e = .returned (.bool (spB c)) ∧ w' = w := by
  cases h : spB c
  · obtain ⟨h1, h2, h3, h4⟩ := spB_no h
    clear h
    go_enter Try.func19, Try.ntmps19
    go_wp2
    go_ret
    exact ⟨rfl, rfl⟩
  · rcases spB_yes h with rfl | rfl | rfl | rfl
    all_goals
      clear h
      go_enter Try.func19, Try.ntmps19
      go_wp2
      go_ret
      exact ⟨rfl, rfl⟩

theorem below_drewN' {B : Nat} {a w : World} (h : Below B a w) (m : Nat) : Below B a (w.drewN m) := ⟨h.os, h.tape, h.output, h.size, h.block⟩

theorem skip_step {w wr : World} {B j : Nat} {v : Value} (m : Nat) (r1 : wr.cell? ⟨B, 1, none⟩ = some (.int .i64 j)) (r0 : wr.cell? ⟨B, 0, none⟩ = some v) (rf : wr.frozen? ⟨B, 1, none⟩ = false) (hb : Below B w wr) :
    ((wr.drewN m).setCell ⟨B, 1, none⟩ (.int .i64 ((j : Int) + 1))).cell? ⟨B, 1, none⟩ = some (.int .i64 ((j + 1 : Nat) : Int)) ∧ ((wr.drewN m).setCell ⟨B, 1, none⟩ (.int .i64 ((j : Int) + 1))).cell? ⟨B, 0, none⟩ = some v ∧
      ((wr.drewN m).setCell ⟨B, 1, none⟩ (.int .i64 ((j : Int) + 1))).frozen? ⟨B, 1, none⟩ = false ∧ Below B w ((wr.drewN m).setCell ⟨B, 1, none⟩ (.int .i64 ((j : Int) + 1))) := by
  have r1' : (wr.drewN m).cell? ⟨B, 1, none⟩ = some (.int .i64 j) := r1
  refine ⟨?_, (World.cell?_setCell_other _ _ _ _ (by simp)).trans r0, (World.frozen?_setCell _ _ _ _).trans rf, (below_drewN' hb m).setCell (Nat.le_refl _) _⟩
  rw [World.cell?_setCell_same _ _ _ r1']
  simp

set_option maxHeartbeats 1600000 in
theorem skip_run (B Bl len c : Nat) (ys : List Int) (i : Nat) (w : World) (hi : i < len) (hlen : len ≤ 1048576) (hB : Bl < B)
    (c0 : w.cell? ⟨B, 0, none⟩ = some (.slice (some ⟨Bl, 0, none⟩) len c)) (c1 : w.cell? ⟨B, 1, none⟩ = some (.int .i64 i)) (f1 : w.frozen? ⟨B, 1, none⟩ = false)
    (hcs : Hid (∀ j, j < len → w.cell? ⟨Bl, j, none⟩ = some (.int .u8 (ys.getD j 0)))) :
    Calls Try.prog 30 #[.pointer (some ⟨B, 0, none⟩)] w fun e w' => e = .returned (.tuple #[]) ∧ ∃ j : Nat, i ≤ j ∧ j ≤ len ∧ w'.cell? ⟨B, 1, none⟩ = some (.int .i64 j) ∧ Hid (∀ k, i ≤ k → k < j → spB (ys.getD k 0) = true) ∧ (j < len → spB (ys.getD j 0) = false) ∧ Below B w w' := by
  go_enter Try.func30, Try.ntmps30
  go_wp2
  go_loopg [] (len - i) (fun gk wr => ∃ j : Nat, i ≤ j ∧ j ≤ len ∧ gk = len - j ∧ wr.cell? ⟨B, 1, none⟩ = some (.int .i64 j) ∧ wr.cell? ⟨B, 0, none⟩ = some (.slice (some ⟨Bl, 0, none⟩) len c) ∧ wr.frozen? ⟨B, 1, none⟩ = false ∧ Below B w wr ∧ Hid (∀ k, i ≤ k → k < j → spB (ys.getD k 0) = true))
  case atStart => exact ⟨i, Nat.le_refl _, by omega, rfl, c1, c0, f1, Below.refl _ _, fun k h1 h2 => by omega⟩
  case round =>
    obtain ⟨j, hj1, hj2, hgk, r1, r0, rf, hb, hsp⟩ := hrel
    have HG : Hid (gk = len - j) := hgk
    clear hgk c0 c1 f1
    by_cases hlt : j < len
    · have hc : wr.cell? ⟨Bl, j, none⟩ = some (.int .u8 (ys.getD j 0)) := (hb.cell (by exact hB)).trans (hcs.out j hlt)
      cases hs : spB (ys.getD j 0)
      · obtain ⟨q1, q2, q3, q4⟩ := spB_no hs
        have HS' : j < len → spB (ys.getD j 0) = false := fun _ => hs
        have HS : Hid (j < len → spB (ys.getD j 0) = false) := HS'
        clear hs HS'
        generalize ys.getD j 0 = cv at hc q1 q2 q3 q4
        go_wp2
        go_quiet (fail)
        go_wp2
        go_quiet (fail)
        go_wp2
        refine bodyPost_ret (results_none rfl _ _ _) rfl ?_
        exact ⟨rfl, j, hj1, hj2, r1, hsp, HS.out, below_drewN' hb _⟩
      · have HS : Hid (∀ k, i ≤ k → k < j + 1 → spB (ys.getD k 0) = true) := by
          intro k h1 h2
          by_cases e : k = j
          · rw [e]; exact hs
          · exact hsp.out k h1 (by omega)
        rcases spB_yes hs with h | h | h | h
        all_goals
          rw [h] at hc
          clear hs h
          go_wp2
          go_quiet (fail)
          go_wp2
          go_quiet (fail)
          go_wp2
          obtain ⟨s1, s2, s3, s4⟩ := skip_step _ r1 r0 rf hb
          go_roundg (len - (j + 1))
          case measure => have := HG.out; omega
          case rel => exact ⟨j + 1, by omega, by omega, rfl, s1, s2, s3, s4, HS⟩
    · obtain rfl : j = len := by omega
      go_wp2
      go_quiet (fail)
      go_wp2
      go_end0
      exact ⟨rfl, j, hj1, hj2, r1, hsp, fun h => absurd h (Nat.lt_irrefl _), below_drewN' hb _⟩

set_option maxHeartbeats 1600000 in
theorem skip_end (B : Nat) (a : Option Addr) (len c : Nat) (i : Int) (w : World) (hi : (len : Int) ≤ i)
    (c0 : w.cell? ⟨B, 0, none⟩ = some (.slice a len c)) (c1 : w.cell? ⟨B, 1, none⟩ = some (.int .i64 i)) :
    Calls Try.prog 30 #[.pointer (some ⟨B, 0, none⟩)] w fun e w' => e = .returned (.tuple #[]) ∧ ∃ m, w' = w.drewN m := by
  have hd : decide (i < (len : Int)) = false := decide_eq_false (by omega)
  go_enter Try.func30, Try.ntmps30
  go_wp2
  refine wp_loop_rounds 1 ?_
  rw [rounds_succ]
  go_wp2
  go_quiet (fail)
  go_wp2
  go_end0
  exact ⟨rfl, _, rfl⟩

set_option maxHeartbeats 400000 in
theorem zzskip_end (a : Option Addr) (len c : Nat) (i : Int) (w : World) (hi : (len : Int) ≤ i) : Calls Try.prog 18 #[.slice a len c, .int .i64 i] w fun e w' => e = .returned (.int .i64 i) ∧ Below w.heap.size w w' := by
  have H := skip_end w.heap.size a len c i (w.alloc (.cells #[.slice a len c, .int .i64 i, .slice none 0 0] 56)) hi (by go_simp) (by go_simp)
  go_enter Try.func18, Try.ntmps18
  go_wp2_with (go_at_call 30; refine H.mono ?_; rintro e w' ⟨rfl, m, rfl⟩)
  go_ret
  exact ⟨rfl, below_drewN' ((Below.refl _ _).alloc (Nat.le_refl _) _) m⟩

set_option maxHeartbeats 400000 in
theorem zzskip_run (Bl len c : Nat) (ys : List Int) (i : Nat) (w : World) (hi : i < len) (hlen : len ≤ 1048576) (hB : Bl < w.heap.size)
    (hcs : Hid (∀ j, j < len → w.cell? ⟨Bl, j, none⟩ = some (.int .u8 (ys.getD j 0)))) :
    Calls Try.prog 18 #[.slice (some ⟨Bl, 0, none⟩) len c, .int .i64 i] w fun e w' => ∃ j : Nat, e = .returned (.int .i64 j) ∧ i ≤ j ∧ j ≤ len ∧ Hid (∀ k, i ≤ k → k < j → spB (ys.getD k 0) = true) ∧ (j < len → spB (ys.getD j 0) = false) ∧ Below w.heap.size w w' := by
  have H := skip_run w.heap.size Bl len c ys i (w.alloc (.cells #[.slice (some ⟨Bl, 0, none⟩) len c, .int .i64 i, .slice none 0 0] 56)) hi hlen hB (by go_simp) (by go_simp) (by go_simp)
    (fun j hj => (World.cell?_alloc_past _ _ _ hB).trans (hcs.out j hj))
  go_enter Try.func18, Try.ntmps18
  go_wp2_with fail
  refine H.mono ?_
  rintro e w' ⟨rfl, j, h1, h2, hc, h3, h4, hb⟩
  go_wp2
  go_ret
  exact ⟨j, rfl, h1, h2, h3, h4, ((Below.refl _ _).alloc (Nat.le_refl _) _).trans hb⟩
end Go.Proofs.Qxb6000819a
