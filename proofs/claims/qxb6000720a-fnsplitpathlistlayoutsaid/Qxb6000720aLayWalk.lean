/-
  THE WALK of FnSplitPathListLayout (function 5).
-/
import Derived.Test.Qxb6000720aSplit
import Derived.Test.Qxb6000720aLayPlain
namespace Go.Proofs.Qxb6000720a
open Go.RowKit

theorem bytes13_yes (s : ByteArray) (w : World) (hs : s.size ≤ 1048576) : Calls Try.prog 13 #[.string s] w fun e w' => e = .returned (.bool true) ∧ w' = w := by
  go_enter Try.func13, Try.ntmps13
  go_wp2
  go_ret
  exact ⟨rfl, rfl⟩
theorem bytes13_no (s : ByteArray) (w : World) (hs : 1048576 < s.size) : Calls Try.prog 13 #[.string s] w fun e w' => e = .returned (.bool false) ∧ w' = w := by
  go_enter Try.func13, Try.ntmps13
  go_wp2
  go_ret
  exact ⟨rfl, rfl⟩

/-- A slice that owns a row: its shape, and its cells. -/
theorem row_shape {w : World} {B n : Nat} {v : Value} {xs : List Value} (h : w.ownsRow B 9 1 v n xs) : (v = .slice none 0 0 ∧ n = 0) ∨ ∃ g cap, v = .slice (some ⟨g, 0, none⟩) n cap ∧ n ≤ 9223372036854775807 ∧ Hid (∀ k, k < n → w.cell? ⟨g, k, none⟩ = xs[k]?) := by
  rcases h.2 with h' | ⟨g, cap, cur, rfl, _, _, h1, h2, _⟩
  · exact .inl h'
  · exact .inr ⟨g, cap, rfl, by unfold maxLen at h2; omega, fun k hk => h.cellAt k (by omega)⟩

set_option maxHeartbeats 1600000 in
theorem layout_walk (s : ByteArray) (w : World) : Calls Try.prog 5 #[.string s] w fun e w' => e = .returned (.bool true) ∧ Below w.heap.size w w' := by
  by_cases hs : s.size ≤ 1048576
  · have G := good_ents s
    generalize hps : ents s = ps at G
    obtain ⟨hg, hend, htail⟩ := G
    have hZ := zzsplit_any s
    rw [hps] at hZ
    clear hps
    go_enter Try.func5, Try.ntmps5
    go_wp2_with (first
      | (go_at_call 13; refine (bytes13_yes s _ hs).mono ?_; rintro e w' ⟨rfl, rfl⟩)
      | fail)
    refine (hZ _ hs).mono ?_
    rintro e w' ⟨v, rfl, hown, hb⟩
    clear hZ
    rcases row_shape hown with ⟨rfl, hn⟩ | ⟨g, cap, rfl, hnm, hcell⟩
    · have hn' : endAt ps ps.length = 0 := by rw [hn]; rfl
      rw [hn'] at htail
      have HT : Hid (∀ j, 0 ≤ j → j < s.size → bt s j = 58) := htail
      clear htail hend hn' hown
      go_wp2
      go_loop [5, 6] (fun p i => i = .int .i64 0 ∧ p = .int .i64 0) (fun _ _ => 0)
      case atStart => exact ⟨rfl, rfl⟩
      case round =>
        obtain ⟨rfl, rfl⟩ := hrel
        go_wp2
        go_loop [5] (fun p => ∃ j : Nat, 0 ≤ j ∧ j ≤ s.size ∧ p = .int .i64 j) (fun p => s.size - (intOf p).toNat)
        case atStart => exact ⟨0, Nat.le_refl _, Nat.zero_le _, rfl⟩
        case round =>
          obtain ⟨j, hj1, hj2, rfl⟩ := hrel
          by_cases hja : j < s.size
          · have hjs := tail_walk HT.out hj1 hja
            go_wp2
            go_round
            case rel => exact ⟨j + 1, by omega, by omega, by go_num⟩
            case measure => simp [intOf]; omega
          · go_wp2
            go_ret
            exact ⟨rfl, hb⟩
    · clear hown
      go_wp2
      go_loop [5, 6] (fun p i => ∃ k : Nat, k ≤ ps.length ∧ i = .int .i64 k ∧ p = .int .i64 (endAt ps k)) (fun _ i => ps.length - (intOf i).toNat)
      case atStart => exact ⟨0, Nat.zero_le _, rfl, rfl⟩
      case round =>
        obtain ⟨k, hk, rfl, rfl⟩ := hrel
        by_cases hlt : k < ps.length
        · obtain ⟨a, e, hae, h1, h2, h3, h4, h5, h6, h6b, h7, h8, h9, h10⟩ := lies_walk hg hlt
          have hc := hcell.out k hlt
          rw [hae] at hc
          have h6' := h6.out h5
          generalize endAt ps k = p0 at *
          clear hae h6
          go_wp2
          go_loop [5] (fun p => ∃ j : Nat, p0 ≤ j ∧ j ≤ a ∧ p = .int .i64 j) (fun p => a - (intOf p).toNat)
          case atStart => exact ⟨p0, Nat.le_refl _, h1, rfl⟩
          case round =>
            obtain ⟨j, hj1, hj2, rfl⟩ := hrel
            by_cases hja : j < a
            · have hjs := h2.out j (by omega) hj1 hja
              go_wp2
              go_round
              case rel => exact ⟨j + 1, by omega, by omega, by go_num⟩
              case measure => simp [intOf]; omega
            · obtain rfl : j = a := by omega
              have h4' := h4.out h3
              by_cases hje : j + e.size < s.size
              all_goals (try have h10' := h10.out hje)
              all_goals clear h10 h4 h2
              all_goals
                go_wp2
                go_round
                case rel => exact ⟨k + 1, by omega, by go_num, by rw [h8.out]; go_num⟩
                case measure => simp [intOf]; omega
        · obtain rfl : k = ps.length := by omega
          generalize endAt ps ps.length = p0 at *
          have HT : Hid (∀ j, p0 ≤ j → j < s.size → bt s j = 58) := htail
          clear htail hcell
          go_wp2
          go_loop [5] (fun p => ∃ j : Nat, p0 ≤ j ∧ j ≤ s.size ∧ p = .int .i64 j) (fun p => s.size - (intOf p).toNat)
          case atStart => exact ⟨p0, Nat.le_refl _, hend, rfl⟩
          case round =>
            obtain ⟨j, hj1, hj2, rfl⟩ := hrel
            by_cases hja : j < s.size
            · have hjs := tail_walk HT.out hj1 hja
              go_wp2
              go_round
              case rel => exact ⟨j + 1, by omega, by omega, by go_num⟩
              case measure => simp [intOf]; omega
            · go_wp2
              go_ret
              exact ⟨rfl, hb⟩
  · have hs' : 1048576 < s.size := by omega
    go_enter Try.func5, Try.ntmps5
    go_wp2_with (first
      | (go_at_call 13; refine (bytes13_no s _ hs').mono ?_; rintro e w' ⟨rfl, rfl⟩)
      | fail)
    go_ret
    exact ⟨rfl, Below.refl _ _⟩
end Go.Proofs.Qxb6000720a
