/-
  THE WALK of FnSplitPathListPlainSplit (function 7).
-/
import Derived.Test.Qxb6000720aFields
namespace Go.Proofs.Qxb6000720a
open Go.RowKit

theorem bytes17_yes (s : ByteArray) (w : World) (hs : s.size ≤ 1048576) : Calls Try.prog 17 #[.string s] w fun e w' => e = .returned (.bool true) ∧ w' = w := by
  go_enter Try.func17, Try.ntmps17
  go_wp2
  go_ret
  exact ⟨rfl, rfl⟩
theorem bytes17_no (s : ByteArray) (w : World) (hs : 1048576 < s.size) : Calls Try.prog 17 #[.string s] w fun e w' => e = .returned (.bool false) ∧ w' = w := by
  go_enter Try.func17, Try.ntmps17
  go_wp2
  go_ret
  exact ⟨rfl, rfl⟩

theorem below_drewN {B : Nat} {a w : World} (h : Below B a w) (m : Nat) : Below B a (w.drewN m) := ⟨h.os, h.tape, h.output, h.size, h.block⟩

/-- sameStrings at two rows that own the same strings. -/
theorem same_rows (s : ByteArray) (E : Ents) (B B' : Nat) (va vb : Value) (w : World) (ha : w.ownsRow B 9 1 va E.length (E.map (sub s))) (hb : w.ownsRow B' 9 1 vb E.length (E.map (sub s))) :
    Calls Try.prog 16 #[va, vb] w fun e w' => e = .returned (.bool true) ∧ ∃ m, w' = w.drewN m := by
  have none : ∀ (a b : Option Addr) (n ca cb : Nat), n = 0 → Calls Try.prog 16 #[.slice a n ca, .slice b n cb] w fun e w' => e = .returned (.bool true) ∧ ∃ m, w' = w.drewN m :=
    fun a b n ca cb hn => (same_none n hn a b ca cb w).mono fun e w' h => ⟨h.1, 0, h.2⟩
  rcases ha.2 with ⟨rfl, hn⟩ | ⟨g, cap, cur, rfl, _, _, h1, h2, _⟩
  · rcases hb.2 with ⟨rfl, _⟩ | ⟨g', cap', cur', rfl, _⟩
    · exact none _ _ 0 0 0 rfl
    · rw [hn]; exact none _ _ 0 0 cap' rfl
  · rcases hb.2 with ⟨rfl, hn⟩ | ⟨g', cap', cur', rfl, _⟩
    · rw [hn]; exact none _ _ 0 cap 0 rfl
    · exact same_some E.length g g' cap cap' s E rfl (by unfold maxLen at h2; omega) w (fun k hk => ha.cellAt k (by omega)) (fun k hk => hb.cellAt k (by omega))

theorem ownsRow_below {B : Nat} {w w' : World} {v : Value} {n : Nat} {xs : List Value} (h : w.ownsRow B 9 1 v n xs) (hb : Below w.heap.size w w') : w'.ownsRow B 9 1 v n xs := by
  refine ⟨h.1, ?_⟩
  rcases h.2 with h' | ⟨g, cap, cur, hv, hg, hh, r⟩
  · exact .inl h'
  · exact .inr ⟨g, cap, cur, hv, hg, by rw [hb.block g (Array.getElem?_eq_some_iff.1 hh).1]; exact hh, r⟩

set_option maxHeartbeats 1600000 in
theorem plain_walk (s : ByteArray) (w : World) : Calls Try.prog 7 #[.string s] w fun e w' => e = .returned (.bool true) ∧ Below w.heap.size w w' := by
  by_cases hs : s.size ≤ 1048576
  · go_enter Try.func7, Try.ntmps7
    go_wp2_with (first
      | (go_at_call 17; refine (bytes17_yes s _ hs).mono ?_; rintro e w' ⟨rfl, rfl⟩)
      | fail)
    go_loop [3] (fun i => ∃ k : Nat, k ≤ s.size ∧ i = .int .i64 k ∧ Hid (∀ j, j < k → bt s j ≠ 36)) (fun i => s.size - (intOf i).toNat)
    case atStart => exact ⟨0, Nat.zero_le _, rfl, fun j hj => absurd hj (Nat.not_lt_zero _)⟩
    case round =>
      obtain ⟨k, hk, rfl, hd⟩ := hrel
      by_cases hlt : k < s.size
      · by_cases h36 : bt s k = 36
        · have e2 : ((s[k].toNat : Int) == 36) = true := by rw [← bt_eq s k hlt, h36]; rfl
          clear h36
          go_wp2
          go_ret
          exact ⟨rfl, Below.refl _ _⟩
        · have e2 : ((s[k].toNat : Int) == 36) = false := by rw [← bt_eq s k hlt]; simp only [beq_eq_false_iff_ne]; omega
          have hd' : Hid (∀ j, j < k + 1 → bt s j ≠ 36) := by
            intro j hj
            by_cases e : j = k
            · rw [e]; exact h36
            · exact hd.out j (by omega)
          clear h36
          go_wp2
          go_round
          case rel => exact ⟨k + 1, by omega, by go_num, hd'⟩
          case measure => simp [intOf]; omega
      · obtain rfl : k = s.size := by omega
        have P := ents_plain s hd.out
        have hZ := fun w => zzsplit_any s w hs
        have hF := fun w => fields_any s w hs
        rw [P.2] at hZ
        rw [P.1] at hF
        generalize ents s = E at *
        have HZ : Hid (∀ w, _) := hZ
        have HF : Hid (∀ w, _) := hF
        clear hZ hF P hd
        go_wp2_with fail
        refine (HZ.out _).mono ?_
        rintro e w1 ⟨v, rfl, hown, hb⟩
        go_wp2_with fail
        refine (HF.out _).mono ?_
        rintro e w2 ⟨v', rfl, hown', hb'⟩
        go_wp2_with fail
        refine (same_rows s E _ _ v v' w2 (ownsRow_below hown hb') hown').mono ?_
        rintro e w3 ⟨rfl, m, rfl⟩
        go_wp2
        go_ret
        exact ⟨rfl, below_drewN (hb.trans (hb'.mono hb.size)) m⟩
  · have hs' : 1048576 < s.size := by omega
    go_enter Try.func7, Try.ntmps7
    go_wp2_with (first
      | (go_at_call 17; refine (bytes17_no s _ hs').mono ?_; rintro e w' ⟨rfl, rfl⟩)
      | fail)
    go_ret
    exact ⟨rfl, Below.refl _ _⟩
end Go.Proofs.Qxb6000720a
