/-
  THE WALK of FnAppendDigitsOrderMatchesNumbers (function 4).
-/
import Derived.Test.Qxb6600007aLex
namespace Go.Proofs.Qxb6600007a
open Go.RowKit

theorem ownsRow_below {B B' : Nat} {w w' : World} {v : Value} {n : Nat} {xs : List Value} (h : w.ownsRow B 5 1 v n xs) (hb : Below B' w w') (hB : w.heap.size ≤ B') : w'.ownsRow B 5 1 v n xs := by
  refine ⟨h.1, ?_⟩
  rcases h.2 with h' | ⟨g, cap, cur, hv, hg, hh, r⟩
  · exact .inl h'
  · exact .inr ⟨g, cap, cur, hv, hg, by rw [hb.block g (Nat.lt_of_lt_of_le (Array.getElem?_eq_some_iff.1 hh).1 hB)]; exact hh, r⟩

set_option maxHeartbeats 1600000 in
theorem ord_good (n m wd : Nat) (hw : wd ≤ 4) (hn : n < 10 ^ wd) (hm : m < 10 ^ wd) (w : World) :
    Calls Try.prog 4 #[.int .i64 n, .int .i64 m, .int .i64 wd] w fun e w' => e = .returned (.bool true) ∧ Below w.heap.size w w' := by
  have hx : Hid (∀ w : World, _) := fun w => zzdig_any w.heap.size 0 n wd (.slice none 0 0) [] w (Nat.le_refl _) (by omega) hw hn (World.ownsRow_nil _ _ _ _)
  have hy : Hid (∀ w : World, _) := fun w => zzdig_any w.heap.size 0 m wd (.slice none 0 0) [] w (Nat.le_refl _) (by omega) hw hm (World.ownsRow_nil _ _ _ _)
  obtain ⟨l1, l2, l3⟩ := lexc_digs n m wd hw hn hm
  have HL : Hid ((n < m → lexc (digs n wd) (digs m wd) = -1) ∧ (m < n → lexc (digs n wd) (digs m wd) = 1) ∧ (n = m → lexc (digs n wd) (digs m wd) = 0)) := ⟨l1, l2, l3⟩
  clear l1 l2 l3
  obtain ⟨P, hP, hnP, hmP, hPle⟩ : ∃ P : Nat, Hid (∀ w, Calls Try.prog 7 #[.int .i64 wd] w fun e w' => e = .returned (.int .i64 (P : Int)) ∧ w' = w) ∧ n < P ∧ m < P ∧ P ≤ 10000 :=
    ⟨10 ^ wd, fun w => pow_any wd hw w, hn, hm, pow_mono hw⟩
  clear hn hm
  go_enter Try.func4, Try.ntmps4
  go_wp2_with (first
    | (go_at_call 7; refine (hP.out _).mono ?_; rintro e w' ⟨rfl, rfl⟩)
    | fail)
  refine (hx.out _).mono ?_
  rintro e w1 ⟨v1, rfl, hown1, hb1⟩
  go_wp2_with fail
  refine (hy.out _).mono ?_
  rintro e w2 ⟨v2, rfl, hown2, hb2⟩
  have hl := lex_rows (0 + wd) ([] ++ digs n wd) ([] ++ digs m wd) _ _ v1 v2 w2 (by omega) (ownsRow_below hown1 hb2 (Nat.le_refl _)) hown2
  simp only [List.nil_append] at hl
  have HB : Hid (Below w'.heap.size w' w2) := hb1.trans (hb2.mono hb1.size)
  have HLx : Hid (∀ _ : True, _) := fun _ => hl
  clear hl hown1 hown2 hb1 hb2 hx hy hP
  obtain ⟨c, hc⟩ : ∃ c, lexc (digs n wd) (digs m wd) = c := ⟨_, rfl⟩
  rw [hc] at HLx HL
  clear hc
  rcases Nat.lt_trichotomy n m with h | h | h
  · obtain rfl := HL.out.1 h
    go_wp2_with (go_at_call 10; refine (HLx.out trivial).mono ?_; rintro e w3 ⟨rfl, q, rfl⟩)
    go_ret
    exact ⟨rfl, below_drewN HB.out q⟩
  · subst h
    obtain rfl := HL.out.2.2 rfl
    go_wp2_with (go_at_call 10; refine (HLx.out trivial).mono ?_; rintro e w3 ⟨rfl, q, rfl⟩)
    go_ret
    exact ⟨rfl, below_drewN HB.out q⟩
  · obtain rfl := HL.out.2.1 h
    go_wp2_with (go_at_call 10; refine (HLx.out trivial).mono ?_; rintro e w3 ⟨rfl, q, rfl⟩)
    go_ret
    exact ⟨rfl, below_drewN HB.out q⟩

/-- Outside the law's own bounds it returns true at once. -/
theorem ord_width (n m wd : Int) (hw : wd < 0 ∨ 4 < wd) (w : World) :
    Calls Try.prog 4 #[.int .i64 n, .int .i64 m, .int .i64 wd] w fun e w' => e = .returned (.bool true) ∧ Below w.heap.size w w' := by
  rcases hw with hw | hw
  all_goals
    go_enter Try.func4, Try.ntmps4
    go_wp2
    go_ret
    exact ⟨rfl, Below.refl _ _⟩

theorem ord_out (n m : Int) (wd : Nat) (hw : wd ≤ 4) (h : n < 0 ∨ (((10 ^ wd : Nat) : Int) ≤ n) ∨ (0 ≤ n ∧ m < 0) ∨ (0 ≤ n ∧ ((10 ^ wd : Nat) : Int) ≤ m)) (w : World) :
    Calls Try.prog 4 #[.int .i64 n, .int .i64 m, .int .i64 wd] w fun e w' => e = .returned (.bool true) ∧ Below w.heap.size w w' := by
  obtain ⟨P, hP, hPle, h⟩ : ∃ P : Nat, Hid (∀ w, Calls Try.prog 7 #[.int .i64 wd] w fun e w' => e = .returned (.int .i64 (P : Int)) ∧ w' = w) ∧ P ≤ 10000 ∧ (n < 0 ∨ (P : Int) ≤ n ∨ (0 ≤ n ∧ m < 0) ∨ (0 ≤ n ∧ (P : Int) ≤ m)) :=
    ⟨10 ^ wd, fun w => pow_any wd hw w, pow_mono hw, h⟩
  by_cases h1 : n < 0
  · go_enter Try.func4, Try.ntmps4
    go_wp2_with (go_at_call 7; refine (hP.out _).mono ?_; rintro e w' ⟨rfl, rfl⟩)
    go_ret
    exact ⟨rfl, Below.refl _ _⟩
  · by_cases h2 : (P : Int) ≤ n
    · go_enter Try.func4, Try.ntmps4
      go_wp2_with (go_at_call 7; refine (hP.out _).mono ?_; rintro e w' ⟨rfl, rfl⟩)
      go_ret
      exact ⟨rfl, Below.refl _ _⟩
    · by_cases h3 : m < 0
      · go_enter Try.func4, Try.ntmps4
        go_wp2_with (go_at_call 7; refine (hP.out _).mono ?_; rintro e w' ⟨rfl, rfl⟩)
        go_ret
        exact ⟨rfl, Below.refl _ _⟩
      · have h4 : (P : Int) ≤ m := by omega
        go_enter Try.func4, Try.ntmps4
        go_wp2_with (go_at_call 7; refine (hP.out _).mono ?_; rintro e w' ⟨rfl, rfl⟩)
        go_ret
        exact ⟨rfl, Below.refl _ _⟩

theorem ord_walk (n m wd : Int) (w : World) :
    Calls Try.prog 4 #[.int .i64 n, .int .i64 m, .int .i64 wd] w fun e w' => e = .returned (.bool true) ∧ Below w.heap.size w w' := by
  by_cases hw : wd < 0 ∨ 4 < wd
  · exact ord_width n m wd hw w
  · obtain ⟨k, rfl⟩ := Int.eq_ofNat_of_zero_le (show 0 ≤ wd by omega)
    by_cases h : n < 0 ∨ (((10 ^ k : Nat) : Int) ≤ n) ∨ (0 ≤ n ∧ m < 0) ∨ (0 ≤ n ∧ ((10 ^ k : Nat) : Int) ≤ m)
    · exact ord_out n m k (by omega) h w
    · obtain ⟨a, rfl⟩ := Int.eq_ofNat_of_zero_le (show 0 ≤ n by omega)
      obtain ⟨b, rfl⟩ := Int.eq_ofNat_of_zero_le (show 0 ≤ m by omega)
      exact ord_good a b k (by omega) (by omega) (by omega) w
end Go.Proofs.Qxb6600007a
