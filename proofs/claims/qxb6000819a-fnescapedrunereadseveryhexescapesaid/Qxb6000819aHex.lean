/-
  THE WALKS of zzB1HexDigit (12), escapedRune (29) and its exported name (13).
-/
import Derived.Test.Qxb6000819aClone
import Derived.WalkLawsBesides
import Derived.Laws.BitsLemmas
namespace Go.Proofs.Qxb6000819a
open Go.RowKit

theorem ret_int {k : IntKind} {a b : Int} (h : a = b) : Ending.returned (.int k a) = .returned (.int k b) := by rw [h]
theorem ret_bool {a b : Bool} (h : a = b) : Ending.returned (.bool a) = .returned (.bool b) := by rw [h]

/-- One hex digit, upper or lower case. -/
def hexd (d : Int) (b : Bool) : Int := if d < 10 then 48 + d else if b then 65 + (d - 10) else 97 + (d - 10)

theorem hex_any (d : Int) (b : Bool) (w : World) (h0 : 0 ≤ d) (h1 : d ≤ 15) :
    Calls Try.prog 12 #[.int .i64 d, .bool b] w fun e w' => e = .returned (.int .u8 (hexd d b)) ∧ w' = w := by
  go_enter Try.func12, Try.ntmps12
  go_wp2
  all_goals go_ret
  all_goals refine ⟨ret_int ?_, rfl⟩
  · unfold hexd; rw [if_pos ‹_›]
  · unfold hexd; rw [if_neg (by omega), ‹b = true›]; rfl
  · unfold hexd; rw [if_neg (by omega), ‹b = false›]; rfl

theorem hexd_cases (d : Int) (b : Bool) (h0 : 0 ≤ d) (h1 : d ≤ 15) :
    (48 ≤ hexd d b ∧ hexd d b ≤ 57 ∧ Hid (hexd d b - 48 = d)) ∨ (97 ≤ hexd d b ∧ hexd d b ≤ 102 ∧ Hid (hexd d b - 97 + 10 = d)) ∨ (65 ≤ hexd d b ∧ hexd d b ≤ 70 ∧ Hid (hexd d b - 65 + 10 = d)) := by
  unfold hexd Hid
  by_cases h : d < 10
  · rw [if_pos h]; left; omega
  · rw [if_neg h]
    cases b
    · right; left; simp only [Bool.false_eq_true, if_false]; omega
    · right; right; simp only [if_true]; omega

theorem hexd_range (d : Int) (b : Bool) (h0 : 0 ≤ d) (h1 : d ≤ 15) : 0 ≤ hexd d b ∧ hexd d b ≤ 255 := by
  rcases hexd_cases d b h0 h1 with h | h | h <;> omega

theorem i32_or4 (x y : Int) (hx₀ : 0 ≤ x) (hx : x % 16 = 0) (hx₁ : x < 2147483648) (h₀ : 0 ≤ y) (h₁ : y < 16) : bits .or .i32 x y = x + y :=
  bits_join .i32 31 (by decide) wraps_i32 4 x y hx₀ hx hx₁ h₀ h₁ (by omega)

def V (d : Nat → Int) : Nat → Int
  | 0 => 0
  | k + 1 => V d k * 16 + d k

theorem V_bound (d : Nat → Int) (hd : ∀ j, 0 ≤ d j ∧ d j ≤ 15) (k : Nat) (hk : k < 4) : 0 ≤ V d k ∧ V d k ≤ 4095 := by
  have h0 := hd 0
  have h1 := hd 1
  have h2 := hd 2
  match k, hk with
  | 0, _ => simp [V]
  | 1, _ => simp only [V]; omega
  | 2, _ => simp only [V]; omega
  | 3, _ => simp only [V]; omega

theorem V_step {d : Nat → Int} {k : Nat} {v c : Int} (hv : Hid (V d k = v)) (h0 : 0 ≤ v) (h1 : v ≤ 4095) (hd : 0 ≤ d k ∧ d k ≤ 15) (hc : Hid (c = d k)) : bits .or .i32 (v * 16) c = V d (k + 1) := by
  rw [hc.out, i32_or4 _ _ (by omega) (by omega) (by omega) hd.1 (by omega), V, hv.out]

set_option maxHeartbeats 800000 in
theorem escaped_any (g n cap : Nat) (d : Nat → Int) (hd : ∀ j, 0 ≤ d j ∧ d j ≤ 15) (w : World) (hn : 6 ≤ n) (hn' : n ≤ 2000000) (hc : n ≤ cap)
    (c0 : w.cell? ⟨g, 0, none⟩ = some (.int .u8 92)) (c1 : w.cell? ⟨g, 1, none⟩ = some (.int .u8 117)) (hcs : Hid (∀ j, j < 4 → ∃ b, w.cell? ⟨g, 2 + j, none⟩ = some (.int .u8 (hexd (d j) b)))) :
    Calls Try.prog 29 #[.slice (some ⟨g, 0, none⟩) n cap] w fun e w' => e = .returned (.int .i32 (V d 4)) ∧ w' = w := by
  have HD : Hid (∀ j, 0 ≤ d j ∧ d j ≤ 15) := hd
  clear hd
  go_enter Try.func29, Try.ntmps29
  go_wp2
  go_loop [3, 24] (fun r i => ∃ (k : Nat) (v : Int), k ≤ 4 ∧ i = .int .i64 k ∧ r = .int .i32 v ∧ Hid (V d k = v)) (fun _ i => 4 - (intOf i).toNat)
  case atStart => exact ⟨0, 0, by omega, rfl, rfl, rfl⟩
  case round =>
    obtain ⟨k, v, hk, rfl, rfl, hv⟩ := hrel
    by_cases hlt : k < 4
    · obtain ⟨b, hj⟩ := hcs.out k hlt
      have hb := V_bound d HD.out k hlt
      rw [hv.out] at hb
      obtain ⟨hb1, hb2⟩ := hb
      have hs := fun c (hc : Hid (c = d k)) => V_step hv hb1 hb2 (HD.out k) hc
      have HS : Hid (∀ c, _ → _) := hs
      have hcs' := hexd_cases (d k) b (HD.out k).1 (HD.out k).2
      clear hs
      generalize hexd (d k) b = c at *
      rcases hcs' with ⟨h1, h2, h3⟩ | ⟨h1, h2, h3⟩ | ⟨h1, h2, h3⟩
      all_goals
        go_wp2
        go_round
        case rel => exact ⟨k + 1, _, by omega, by go_num, rfl, (HS.out _ h3).symm⟩
        case measure => simp [intOf]; omega
    · obtain rfl : k = 4 := by omega
      go_wp2
      go_ret
      exact ⟨ret_int (by rw [hv.out]), rfl⟩

theorem zzescaped_any (g n cap : Nat) (d : Nat → Int) (hd : ∀ j, 0 ≤ d j ∧ d j ≤ 15) (w : World) (hn : 6 ≤ n) (hn' : n ≤ 2000000) (hc : n ≤ cap)
    (c0 : w.cell? ⟨g, 0, none⟩ = some (.int .u8 92)) (c1 : w.cell? ⟨g, 1, none⟩ = some (.int .u8 117)) (hcs : Hid (∀ j, j < 4 → ∃ b, w.cell? ⟨g, 2 + j, none⟩ = some (.int .u8 (hexd (d j) b)))) :
    Calls Try.prog 13 #[.slice (some ⟨g, 0, none⟩) n cap] w fun e w' => e = .returned (.int .i32 (V d 4)) ∧ w' = w := by
  have H := escaped_any g n cap d hd w hn hn' hc c0 c1 hcs
  clear c0 c1 hcs hd
  go_enter Try.func13, Try.ntmps13
  go_wp2_with (go_at_call 29; refine H.mono ?_; rintro e w' ⟨rfl, rfl⟩)
  go_ret
  exact ⟨rfl, rfl⟩
end Go.Proofs.Qxb6000819a
