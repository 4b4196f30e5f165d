/-
  THE WALK of FnAppendDigitsParsesBackAndKeepsPrefix (function 3).
-/
import Derived.Test.Qxb6600007aLex
namespace Go.Proofs.Qxb6600007a
open Go.RowKit

theorem bytes6_yes (a : Option Addr) (len cap : Nat) (n wd : Int) (w : World) (hs : len ≤ 1048576) : Calls Try.prog 6 #[.slice a len cap, .int .i64 n, .int .i64 wd] w fun e w' => e = .returned (.bool true) ∧ w' = w := by
  go_enter Try.func6, Try.ntmps6
  go_wp2
  go_ret
  exact ⟨rfl, rfl⟩
theorem bytes6_no (a : Option Addr) (len cap : Nat) (n wd : Int) (w : World) (hs : 1048576 < len) : Calls Try.prog 6 #[.slice a len cap, .int .i64 n, .int .i64 wd] w fun e w' => e = .returned (.bool false) ∧ w' = w := by
  go_enter Try.func6, Try.ntmps6
  go_wp2
  go_ret
  exact ⟨rfl, rfl⟩

theorem cloned_row {w : World} {B len c : Nat} {a : Option Addr} {ys : List Int} (h : Cloned w B a len c ys) (h0 : 0 < len) :
    a = some ⟨B, 0, none⟩ ∧ c = len ∧ B < w.heap.size ∧ Hid (∀ j, j < len → w.cell? ⟨B, j, none⟩ = some (.int .u8 (ys.getD j 0))) := by
  obtain ⟨hl, h⟩ := h
  rcases h with h | ⟨h1, h2, h3⟩
  · omega
  · exact ⟨h1, h2, (h3.lt _ rfl).2, (row_cells h3).2⟩

theorem cloned_own {w : World} {B len c : Nat} {a : Option Addr} {ys : List Int} (h : Cloned w B a len c ys) : w.ownsRow B 5 1 (.slice a len c) len (cellsU8 ys) := by
  obtain ⟨hl, h⟩ := h
  rcases h with ⟨rfl, rfl, rfl⟩ | ⟨rfl, rfl, h3⟩
  · rw [List.eq_nil_of_length_eq_zero hl]; exact World.ownsRow_nil _ _ _ _
  · exact h3

/-- A clone of a clone. -/
theorem clone_again (a : Option Addr) (len c B : Nat) (ys : List Int) (w : World) (h : Cloned w B a len c ys) (hlen : len ≤ 1048576) :
    Calls Try.prog 8 #[.slice a len c] w fun e w' => ∃ a' c', e = .returned (.slice a' len c') ∧ Cloned w' w.heap.size a' len c' ys ∧ Below w.heap.size w w' := by
  have h' := h
  obtain ⟨hl, h⟩ := h
  rcases h with ⟨rfl, rfl, rfl⟩ | ⟨rfl, rfl, h3⟩
  · exact (clone_nil w).mono fun e w' h => ⟨none, 0, h.1, ⟨hl, .inl ⟨rfl, rfl, rfl⟩⟩, by rw [h.2]; exact Below.refl _ _⟩
  · by_cases h0 : c = 0
    · subst h0
      have : ys = [] := List.eq_nil_of_length_eq_zero hl
      exact (clone_empty ⟨B, 0, none⟩ 0 w).mono fun e w' h => ⟨_, 0, h.1, ⟨hl, .inr ⟨rfl, rfl, by rw [this]; exact h.2.1⟩⟩, h.2.2⟩
    · obtain ⟨_, _, hb, hcs⟩ := cloned_row h' (by omega)
      refine (clone_some B 0 c c ys w hlen (by omega) (fun j hj => by rw [Nat.zero_add]; exact hcs.out j (by omega)) hb).mono fun e w' h => ⟨_, c, h.1, ⟨hl, .inr ⟨rfl, rfl, ?_⟩⟩, h.2.2⟩
      have := h.2.1
      rwa [List.take_of_length_le (by omega)] at this

theorem val_snoc (l : List Int) (c : Int) : val (l ++ [c]) = val l * 10 + (c - 48) := by simp [val]
theorem val_step {n wd k v : Nat} (hk : k < wd) (hv : Hid ((v : Int) = val ((digs n wd).take k))) (hb : Hid (v + 1 ≤ 10 ^ k)) :
    ∃ d : Nat, d ≤ 9 ∧ (digs n wd).getD k 0 = 48 + (d : Int) ∧ Hid (((v * 10 + d : Nat) : Int) = val ((digs n wd).take (k + 1))) ∧ Hid (v * 10 + d + 1 ≤ 10 ^ (k + 1)) := by
  have hl : (digs n wd).length = wd := L_length n wd wd
  have hg : (digs n wd)[k]? = some (dig n wd wd k) := L_get n wd wd k hk
  have hr := digs_range n wd _ (List.mem_of_getElem? hg)
  obtain ⟨d, hd⟩ := Int.eq_ofNat_of_zero_le (show 0 ≤ dig n wd wd k - 48 by omega)
  refine ⟨d, by omega, by rw [List.getD_eq_getElem?_getD, hg]; simp; omega, ?_, ?_⟩
  · unfold Hid at hv ⊢
    rw [List.take_add_one, hg, Option.toList_some, val_snoc, ← hv]
    omega
  · unfold Hid at hb ⊢
    rw [Nat.pow_succ]
    omega
theorem val_last {n wd v : Nat} (hw : wd ≤ 4) (hn : n < 10 ^ wd) (hv : Hid ((v : Int) = val ((digs n wd).take wd))) : v = n := by
  have h := hv.out
  rw [List.take_of_length_le (by show (L n wd wd).length ≤ wd; rw [L_length]; exact Nat.le_refl _), val_digs n wd hw hn] at h
  omega

theorem digs_at {ys : List Int} {n wd len k : Nat} (hy : ys.length = len) : (ys ++ digs n wd).getD (len + k) 0 = (digs n wd).getD k 0 := by
  rw [List.getD_eq_getElem?_getD, List.getElem?_append_right (by omega), List.getD_eq_getElem?_getD, hy, Nat.add_sub_cancel_left]
theorem ys_at {ys : List Int} {n wd k : Nat} (hk : k < ys.length) : (ys ++ digs n wd).getD k 0 = ys.getD k 0 := by
  rw [List.getD_eq_getElem?_getD, List.getElem?_append_left hk, List.getD_eq_getElem?_getD]

set_option maxHeartbeats 3200000 in
theorem par_good (a : Option Addr) (len cap n wd : Nat) (zs : List Int) (w : World) (h : InRow w a len cap zs) (hs : len ≤ 1048576) (hw : wd ≤ 4) (hn : n < 10 ^ wd) :
    Calls Try.prog 3 #[.slice a len cap, .int .i64 n, .int .i64 wd] w fun e w' => e = .returned (.bool true) ∧ Below w.heap.size w w' := by
  have hcl : Hid (∀ _ : True, _) := fun _ => clone_any a len cap zs w h hs
  clear h
  obtain ⟨P, hP, hnP, hPle⟩ : ∃ P : Nat, Hid (∀ w, Calls Try.prog 7 #[.int .i64 wd] w fun e w' => e = .returned (.int .i64 (P : Int)) ∧ w' = w) ∧ n < P ∧ P ≤ 10000 :=
    ⟨10 ^ wd, fun w => pow_any wd hw w, hn, pow_mono hw⟩
  have HN : Hid (n < 10 ^ wd) := hn
  clear hn
  go_enter Try.func3, Try.ntmps3
  go_wp2_with (first
    | (go_at_call 6; refine (bytes6_yes a len cap n wd _ hs).mono ?_; rintro e w' ⟨rfl, rfl⟩)
    | (go_at_call 7; refine (hP.out _).mono ?_; rintro e w' ⟨rfl, rfl⟩)
    | fail)
  refine (hcl.out trivial).mono ?_
  rintro e w1 ⟨a1, c1, rfl, hc1, hb1⟩
  generalize zs.take len = ys at hc1
  clear hcl hP
  go_wp2_with fail
  refine (clone_again a1 len c1 _ ys w1 hc1 hs).mono ?_
  rintro e w2 ⟨a2, c2, rfl, hc2, hb2⟩
  go_wp2_with fail
  refine (zzdig_any w1.heap.size len n wd (.slice a2 len c2) ys w2 hb2.size hs hw HN.out (cloned_own hc2)).mono ?_
  rintro e w3 ⟨v3, rfl, hown3, hb3⟩
  have hb23 : Below w1.heap.size w1 w3 := hb2.trans hb3
  have HB : Hid (Below w'.heap.size w' w3) := hb1.trans (hb23.mono hb1.size)
  have hy : ys.length = len := hc1.1
  clear hb1 hb2 hb3 hc2
  by_cases hl : 0 < len
  · obtain ⟨e1, e2, hlt1, hcs1⟩ := cloned_row hc1 hl
    have hcs : Hid (∀ j, j < len → w3.cell? ⟨w'.heap.size, j, none⟩ = some (.int .u8 (ys.getD j 0))) := fun j hj => (hb23.cell (by exact hlt1)).trans (hcs1.out j hj)
    clear hcs1 hb23 hc1
    replace e2 := e2.symm
    subst e1 e2
    rcases hown3.2 with ⟨rfl, h0⟩ | ⟨g, c3, cur, rfl, hcur⟩
    · omega
    · have hout := (row_cells hown3).2
      clear hown3 hcur
      go_wp2
      go_loopw [8] (fun i wr => ∃ k m : Nat, k ≤ len ∧ i = .int .i64 k ∧ wr = w3.drewN m) (fun i _ => len - (intOf i).toNat)
      case atStart => exact ⟨0, 0, Nat.zero_le _, rfl, rfl⟩
      case round =>
        obtain ⟨k, m, hk, rfl, rfl⟩ := hrel
        by_cases hlt : k < len
        · have q1 := hcs.out k hlt
          have q2 := hout.out k (by omega)
          rw [ys_at (by omega)] at q2
          generalize ys.getD k 0 = cv at q1 q2
          go_wp2
          go_quiet (fail)
          go_wp2
          go_roundw
          case rel => exact ⟨k + 1, _, by omega, by go_num, rfl⟩
          case measure => simp [intOf]; omega
        · go_wp2
          go_loopw [9, 10] (fun q i wr => ∃ k v m : Nat, k ≤ wd ∧ i = .int .i64 ((len : Int) + k) ∧ q = .int .i64 v ∧ Hid ((v : Int) = val ((digs n wd).take k)) ∧ Hid (v + 1 ≤ 10 ^ k) ∧ wr = w3.drewN m) (fun _ i _ => len + wd - (intOf i).toNat)
          case atStart => exact ⟨0, 0, m, Nat.zero_le _, by go_num, rfl, rfl, Nat.le_refl _, rfl⟩
          case round =>
            obtain ⟨k, v, m, hk, rfl, rfl, hv, hb, rfl⟩ := hrel
            by_cases hlt : k < wd
            · obtain ⟨d, hd, hcd, hv', hb'⟩ := val_step hlt hv hb
              have hc := hout.out (len + k) (by omega)
              rw [digs_at hy, hcd] at hc
              have hvb : v ≤ 9999 := by have := hb.out; have := pow_mono (show k ≤ 4 by omega); omega
              clear hcd hv hb
              go_wp2
              go_roundw
              case rel => exact ⟨k + 1, v * 10 + d, m, by omega, by go_num, by go_num, hv', hb', rfl⟩
              case measure => simp [intOf]; omega
            · obtain rfl : k = wd := by omega
              obtain rfl := val_last hw HN.out hv
              go_wp2
              go_ret
              exact ⟨ret_bool (by simp), below_drewN HB.out m⟩
  · obtain rfl : len = 0 := by omega
    obtain rfl : ys = [] := List.eq_nil_of_length_eq_zero hy
    rcases hown3.2 with ⟨rfl, h0⟩ | ⟨g, c3, cur, rfl, hcur⟩
    · obtain rfl : wd = 0 := by omega
      obtain rfl : n = 0 := by have := HN.out; simpa using this
      clear hown3
      go_wp2
      refine wp_loop_rounds 1 ?_
      rw [rounds_succ]
      go_wp2
      refine wp_loop_rounds 1 ?_
      rw [rounds_succ]
      go_wp2
      go_ret
      exact ⟨rfl, HB.out⟩
    · have hout := (row_cells hown3).2
      clear hown3 hcur
      go_wp2
      refine wp_loop_rounds 1 ?_
      rw [rounds_succ]
      go_wp2
      go_loopw [9, 10] (fun q i wr => ∃ k v m : Nat, k ≤ wd ∧ i = .int .i64 k ∧ q = .int .i64 v ∧ Hid ((v : Int) = val ((digs n wd).take k)) ∧ Hid (v + 1 ≤ 10 ^ k) ∧ wr = w3.drewN m) (fun _ i _ => wd - (intOf i).toNat)
      case atStart => exact ⟨0, 0, 0, Nat.zero_le _, by go_num, rfl, rfl, Nat.le_refl _, rfl⟩
      case round =>
        obtain ⟨k, v, m, hk, rfl, rfl, hv, hb, rfl⟩ := hrel
        by_cases hlt : k < wd
        · obtain ⟨d, hd, hcd, hv', hb'⟩ := val_step hlt hv hb
          have hc := hout.out k (by omega)
          rw [List.nil_append, hcd] at hc
          have hvb : v ≤ 9999 := by have := hb.out; have := pow_mono (show k ≤ 4 by omega); omega
          clear hcd hv hb
          go_wp2
          go_roundw
          case rel => exact ⟨k + 1, v * 10 + d, m, by omega, by go_num, by go_num, hv', hb', rfl⟩
          case measure => simp [intOf]; omega
        · obtain rfl : k = wd := by omega
          obtain rfl := val_last hw HN.out hv
          go_wp2
          go_ret
          exact ⟨ret_bool (by simp), below_drewN HB.out m⟩

/-! ### outside the law's own bounds it returns true at once -/
theorem par_long (a : Option Addr) (len cap : Nat) (n wd : Int) (w : World) (hs : 1048576 < len) :
    Calls Try.prog 3 #[.slice a len cap, .int .i64 n, .int .i64 wd] w fun e w' => e = .returned (.bool true) ∧ Below w.heap.size w w' := by
  go_enter Try.func3, Try.ntmps3
  go_wp2_with (go_at_call 6; refine (bytes6_no a len cap n wd _ hs).mono ?_; rintro e w' ⟨rfl, rfl⟩)
  go_ret
  exact ⟨rfl, Below.refl _ _⟩

theorem par_width (a : Option Addr) (len cap : Nat) (n wd : Int) (w : World) (hs : len ≤ 1048576) (hw : wd < 0 ∨ 4 < wd) :
    Calls Try.prog 3 #[.slice a len cap, .int .i64 n, .int .i64 wd] w fun e w' => e = .returned (.bool true) ∧ Below w.heap.size w w' := by
  rcases hw with hw | hw
  all_goals
    go_enter Try.func3, Try.ntmps3
    go_wp2_with (go_at_call 6; refine (bytes6_yes a len cap n wd _ hs).mono ?_; rintro e w' ⟨rfl, rfl⟩)
    go_ret
    exact ⟨rfl, Below.refl _ _⟩

theorem par_out (a : Option Addr) (len cap : Nat) (n : Int) (wd : Nat) (w : World) (hs : len ≤ 1048576) (hw : wd ≤ 4) (h : n < 0 ∨ ((10 ^ wd : Nat) : Int) ≤ n) :
    Calls Try.prog 3 #[.slice a len cap, .int .i64 n, .int .i64 wd] w fun e w' => e = .returned (.bool true) ∧ Below w.heap.size w w' := by
  obtain ⟨P, hP, hPle, h⟩ : ∃ P : Nat, Hid (∀ w, Calls Try.prog 7 #[.int .i64 wd] w fun e w' => e = .returned (.int .i64 (P : Int)) ∧ w' = w) ∧ P ≤ 10000 ∧ (n < 0 ∨ (P : Int) ≤ n) :=
    ⟨10 ^ wd, fun w => pow_any wd hw w, pow_mono hw, h⟩
  by_cases h1 : n < 0
  · go_enter Try.func3, Try.ntmps3
    go_wp2_with (first
      | (go_at_call 6; refine (bytes6_yes a len cap n wd _ hs).mono ?_; rintro e w' ⟨rfl, rfl⟩)
      | (go_at_call 7; refine (hP.out _).mono ?_; rintro e w' ⟨rfl, rfl⟩)
      | fail)
    go_ret
    exact ⟨rfl, Below.refl _ _⟩
  · have h2 : (P : Int) ≤ n := by omega
    go_enter Try.func3, Try.ntmps3
    go_wp2_with (first
      | (go_at_call 6; refine (bytes6_yes a len cap n wd _ hs).mono ?_; rintro e w' ⟨rfl, rfl⟩)
      | (go_at_call 7; refine (hP.out _).mono ?_; rintro e w' ⟨rfl, rfl⟩)
      | fail)
    go_ret
    exact ⟨rfl, Below.refl _ _⟩

theorem par_walk (a : Option Addr) (len cap : Nat) (zs : List Int) (n wd : Int) (w : World) (h : InRow w a len cap zs) :
    Calls Try.prog 3 #[.slice a len cap, .int .i64 n, .int .i64 wd] w fun e w' => e = .returned (.bool true) ∧ Below w.heap.size w w' := by
  by_cases hs : len ≤ 1048576
  · by_cases hw : wd < 0 ∨ 4 < wd
    · exact par_width a len cap n wd w hs hw
    · obtain ⟨k, rfl⟩ := Int.eq_ofNat_of_zero_le (show 0 ≤ wd by omega)
      by_cases hn : n < 0 ∨ ((10 ^ k : Nat) : Int) ≤ n
      · exact par_out a len cap n k w hs (by omega) hn
      · obtain ⟨m, rfl⟩ := Int.eq_ofNat_of_zero_le (show 0 ≤ n by omega)
        exact par_good a len cap m k zs w h hs (by omega) (by omega)
  · exact par_long a len cap n wd w (by omega)
end Go.Proofs.Qxb6600007a
