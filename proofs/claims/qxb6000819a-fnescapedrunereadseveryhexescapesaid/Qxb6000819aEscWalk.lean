/-
  THE WALK of FnEscapedRuneReadsEveryHexEscape (function 3).
-/
import Derived.Test.Qxb6000819aHex
namespace Go.Proofs.Qxb6000819a
open Go.RowKit

theorem bytes10_yes (r m : Int) (a : Option Addr) (len cap : Nat) (w : World) (hs : len ≤ 1048576) : Calls Try.prog 10 #[.int .u16 r, .int .u8 m, .slice a len cap] w fun e w' => e = .returned (.bool true) ∧ w' = w := by
  go_enter Try.func10, Try.ntmps10
  go_wp2
  go_ret
  exact ⟨rfl, rfl⟩
theorem bytes10_no (r m : Int) (a : Option Addr) (len cap : Nat) (w : World) (hs : 1048576 < len) : Calls Try.prog 10 #[.int .u16 r, .int .u8 m, .slice a len cap] w fun e w' => e = .returned (.bool false) ∧ w' = w := by
  go_enter Try.func10, Try.ntmps10
  go_wp2
  go_ret
  exact ⟨rfl, rfl⟩

/-- The four hex digits of a code unit, from the left. -/
def dg (r : Int) : Nat → Int
  | 0 => r / 4096 % 16
  | 1 => r / 256 % 16
  | 2 => r / 16 % 16
  | _ => r % 16
theorem dg_range (r : Int) (j : Nat) : 0 ≤ dg r j ∧ dg r j ≤ 15 := by unfold dg; split <;> omega
theorem V_dg (r : Int) (h0 : 0 ≤ r) (h1 : r ≤ 65535) : V (dg r) 4 = r := by simp only [V, dg]; omega

theorem wraps_i64 (n : Int) (h₀ : 0 ≤ n) (h₁ : n < 2 ^ 63) : IntKind.i64.wrap n = n := by rw [IntKind.wrap_i64]; omega
theorem mask15 (x : Int) (h0 : 0 ≤ x) (h1 : x ≤ 65535) : bits .and .i64 x 15 = x % 16 := bits_mask .i64 63 (by decide) wraps_i64 4 (by decide) x h0 (by omega)
theorem mask_named (x : Int) (h0 : 0 ≤ x) (h1 : x ≤ 65535) : ∃ D, bits .and .i64 x 15 = D ∧ 0 ≤ D ∧ D ≤ 15 ∧ Hid (D = x % 16) :=
  ⟨_, rfl, by rw [mask15 x h0 h1]; omega, by rw [mask15 x h0 h1]; omega, mask15 x h0 h1⟩

/-- The digits written so far. -/
def Digs (r : Int) (k : Nat) (hs : List Int) : Prop := hs.length = k ∧ ∀ j, j < k → ∃ b, hs[j]? = some (hexd (dg r j) b)
theorem digs_nil (r : Int) : Digs r 0 [] := ⟨rfl, fun _ hj => absurd hj (Nat.not_lt_zero _)⟩
theorem digs_snoc {r : Int} {k : Nat} {hs : List Int} (h : Digs r k hs) {D : Int} (b : Bool) (hD : D = dg r k) : Digs r (k + 1) (hs ++ [hexd D b]) := by
  refine ⟨by rw [List.length_append, h.1]; rfl, fun j hj => ?_⟩
  by_cases e : j = k
  · subst e
    exact ⟨b, by rw [List.getElem?_append_right (by rw [h.1]; omega), h.1, hD]; simp⟩
  · obtain ⟨b', hb'⟩ := h.2 j (by omega)
    exact ⟨b', by rw [List.getElem?_append_left (by rw [h.1]; omega)]; exact hb'⟩

/-- Behind an append within the capacity: what the buffer owns; what lay below it is as it was. -/
theorem buf_step {G : Nat} {w1 wr w' : World} {o : Obj} (hb : Below G w1 wr) (hG : G < wr.heap.size)
    (hg : (wr.alloc o).grownBy w' (some G)) : Below G w1 w' ∧ G < w'.heap.size := by
  refine ⟨(hb.alloc (by omega) o).grown hg (by simp; omega) (fun k h => by cases h; exact Nat.le_refl _), ?_⟩
  have := hg.size
  simp at this
  omega

theorem two_new (w : World) (x y : Value) (t : TypeId) : ∀ j u, [x, y][j]? = some u → (w.alloc (.cells #[x, y] t)).cell? ((⟨w.heap.size, 0, none⟩ : Addr).add j) = some u := by
  intro j u hj
  match j, hj with
  | 0, hj => simp at hj; subst hj; simp [Addr.add]
  | 1, hj => simp at hj; subst hj; simp [Addr.add]

/-- The suffix' cells, where the last append looks. -/
theorem suffix_cells {w1 wr : World} {B G len c : Nat} {a : Option Addr} {ys : List Int} (h : Cloned w1 B a len c ys) (hb : Below G w1 wr) (hB : B < G ∨ len = 0) :
    (cellsU8 ys).length = len * 1 ∧ (a = none → len = 0 ∧ c = 0) ∧ ∀ ad, a = some ad → ∀ j u, (cellsU8 ys)[j]? = some u → wr.cell? (ad.add j) = some u := by
  obtain ⟨hl, h⟩ := h
  refine ⟨by simp [hl], ?_, ?_⟩
  · rintro rfl
    rcases h with h | h
    · exact h.2
    · exact absurd h.1 (by simp)
  · intro ad had j u hu
    have hj : j < len := by have := (List.getElem?_eq_some_iff.1 hu).1; simpa [hl] using this
    rcases h with h | ⟨h1, _, h3⟩
    · omega
    · rw [h1] at had
      obtain rfl := Option.some.inj had
      rw [Addr.add_lit, Nat.zero_add, hb.cell (by show B < G; omega), h3.cellAt j (by omega)]
      exact hu

theorem esc_cells {w : World} {B G n cap : Nat} {r : Int} {hs : List Int} {rest : List Value} (hd : Digs r 4 hs) (hn : 6 ≤ n)
    (hown : w.ownsRow B 5 1 (.slice (some ⟨G, 0, none⟩) n cap) n (cellsU8 ([92, 117] ++ hs) ++ rest)) :
    w.cell? ⟨G, 0, none⟩ = some (.int .u8 92) ∧ w.cell? ⟨G, 1, none⟩ = some (.int .u8 117) ∧ Hid (∀ j, j < 4 → ∃ b, w.cell? ⟨G, 2 + j, none⟩ = some (.int .u8 (hexd (dg r j) b))) := by
  refine ⟨by rw [hown.cellAt 0 (by omega)]; rfl, by rw [hown.cellAt 1 (by omega)]; rfl, fun j hj => ?_⟩
  obtain ⟨b, hb⟩ := hd.2 j hj
  refine ⟨b, ?_⟩
  have hl := hd.1
  rw [hown.cellAt (2 + j) (by omega), List.getElem?_append_left (by simp [hl]; omega), List.getElem?_map, List.getElem?_append_right (by simp), show 2 + j - ([92, 117] : List Int).length = j from by simp, hb]
  rfl

set_option maxHeartbeats 1600000 in
theorem esc_short (r m : Int) (hr0 : 0 ≤ r) (hr1 : r ≤ 65535) (a : Option Addr) (len cap : Nat) (zs : List Int) (w : World) (h : InRow w a len cap zs) (hs : len ≤ 1048576) :
    Calls Try.prog 3 #[.int .u16 r, .int .u8 m, .slice a len cap] w fun e w' => e = .returned (.bool true) ∧ Below w.heap.size w w' := by
  have hcl : Hid (∀ _ : True, _) := fun _ => clone_any a len cap zs w h hs
  clear h
  obtain ⟨i0, hi, hz0, hz1, hz2⟩ := info_parts Try.info5
  go_enter Try.func3, Try.ntmps3
  go_wp2_with (first
    | (go_at_call 10; refine (bytes10_yes r m a len cap _ hs).mono ?_; rintro e w' ⟨rfl, rfl⟩)
    | fail)
  refine (hcl.out trivial).mono ?_
  rintro e w1 ⟨a', c', rfl, hclo, hb1⟩
  have hsz1 := hb1.size
  have hBG : w'.heap.size < w1.heap.size ∨ len = 0 := by
    rcases hclo.2 with h | ⟨_, _, h3⟩
    · exact .inr h.2.1
    · exact .inl (h3.lt _ rfl).2
  go_wp2_with (first
    | (at_make; refine wpList_make_own _ rfl _ _ 23 rfl w'.heap.size 5 i0 (.int .u8 0) 1 Try.underlying23 hi hz0 hz1 .i64 .i64 _ (6 + len) rfl rfl (by omega) (by rw [hz2]; omega) (by unfold maxLen; omega) hsz1 ?_; intro w2 hown2 hgrow2)
    | (at_builtin; refine wpList_append_fits _ rfl (.tmp 24) (.tmp 25) 23 rfl w'.heap.size 5 i0 1 Try.underlying23 hi hz1 w1.heap.size 0 (6 + len) [] rfl (hown2.alloc _) ⟨w2.heap.size, 0, none⟩ 2 2 [.int .u8 92, .int .u8 117] rfl rfl ?c1 ?c2 ?c3 ?_)
    | fail)
  case c1 => exact two_new _ _ _ _
  case c2 => intro u hu; simp at hu; rcases hu with rfl | rfl <;> rfl
  case c3 => omega
  intro w3 hown3 hgrow3
  have hb2 : Below w1.heap.size w1 w2 := (Below.refl _ _).grown hgrow2 (Nat.le_refl _) (fun k h => by cases h)
  have hG2 : w1.heap.size < w2.heap.size := (hown2.lt _ rfl).2
  obtain ⟨hb3, hG3⟩ := buf_step hb2 hG2 hgrow3
  clear hown2 hgrow2 hgrow3 hb2 hG2
  go_wp2
  go_loopw [7, 8] (fun v i wr => ∃ (k : Nat) (hs : List Int), k ≤ 4 ∧ i = .int .i64 k ∧ v = .slice (some ⟨w1.heap.size, 0, none⟩) (2 + k) (6 + len) ∧ wr.ownsRow w'.heap.size 5 1 (.slice (some ⟨w1.heap.size, 0, none⟩) (2 + k) (6 + len)) (2 + k) (cellsU8 ([92, 117] ++ hs)) ∧ Digs r k hs ∧ Below w1.heap.size w1 wr ∧ w1.heap.size < wr.heap.size) (fun _ i _ => 4 - (intOf i).toNat)
  case atStart => exact ⟨0, [], by omega, rfl, rfl, hown3, digs_nil r, hb3, hG3⟩
  case round =>
    obtain ⟨k, hs', hk, rfl, rfl, hown, hdg, hbr, hGr⟩ := hrel
    clear hown3 hb3 hG3
    by_cases hlt : k < 4
    · rcases (show k = 0 ∨ k = 1 ∨ k = 2 ∨ k = 3 by omega) with rfl | rfl | rfl | rfl
      · obtain ⟨D, hD, hD0, hD1, hDe⟩ := mask_named (r / 4096) (by omega) (by omega)
        obtain ⟨b, hbb⟩ : ∃ b, (bits BinOp.and IntKind.u8 m 1 != 0) = b := ⟨_, rfl⟩
        have hdg' := digs_snoc hdg b hDe.out
        go_wp2_with (first
          | (go_at_call 12; refine (hex_any D b _ hD0 hD1).mono ?_; rintro e w'' ⟨rfl, rfl⟩)
          | (at_builtin; refine wpList_append_fits _ rfl (.tmp 39) (.tmp 48) 23 rfl w'.heap.size 5 i0 1 Try.underlying23 hi hz1 w1.heap.size (2 + 0) (6 + len) _ rfl (hown.alloc _) ⟨w''.heap.size, 0, none⟩ 1 1 [.int .u8 (hexd D b)] rfl rfl (cell_one_new _ _ _) (by intro u hu; simp at hu; subst hu; rfl) (by omega) ?_; intro w4 hown4 hgrow4)
          | fail)
        obtain ⟨R1, R2⟩ := buf_step hbr hGr hgrow4
        clear hown hbr hgrow4
        go_wp2
        go_roundw
        case rel => exact ⟨0 + 1, _, by omega, rfl, rfl, by simpa [cellsU8] using hown4, hdg', R1, R2⟩
        case measure => simp [intOf]
      · obtain ⟨D, hD, hD0, hD1, hDe⟩ := mask_named (r / 256) (by omega) (by omega)
        obtain ⟨b, hbb⟩ : ∃ b, (bits BinOp.and IntKind.u8 m 2 != 0) = b := ⟨_, rfl⟩
        have hdg' := digs_snoc hdg b hDe.out
        go_wp2_with (first
          | (go_at_call 12; refine (hex_any D b _ hD0 hD1).mono ?_; rintro e w'' ⟨rfl, rfl⟩)
          | (at_builtin; refine wpList_append_fits _ rfl (.tmp 39) (.tmp 48) 23 rfl w'.heap.size 5 i0 1 Try.underlying23 hi hz1 w1.heap.size (2 + 1) (6 + len) _ rfl (hown.alloc _) ⟨w''.heap.size, 0, none⟩ 1 1 [.int .u8 (hexd D b)] rfl rfl (cell_one_new _ _ _) (by intro u hu; simp at hu; subst hu; rfl) (by omega) ?_; intro w4 hown4 hgrow4)
          | fail)
        obtain ⟨R1, R2⟩ := buf_step hbr hGr hgrow4
        clear hown hbr hgrow4
        go_wp2
        go_roundw
        case rel => exact ⟨1 + 1, _, by omega, rfl, rfl, by simpa [cellsU8] using hown4, hdg', R1, R2⟩
        case measure => simp [intOf]
      · obtain ⟨D, hD, hD0, hD1, hDe⟩ := mask_named (r / 16) (by omega) (by omega)
        obtain ⟨b, hbb⟩ : ∃ b, (bits BinOp.and IntKind.u8 m 4 != 0) = b := ⟨_, rfl⟩
        have hdg' := digs_snoc hdg b hDe.out
        go_wp2_with (first
          | (go_at_call 12; refine (hex_any D b _ hD0 hD1).mono ?_; rintro e w'' ⟨rfl, rfl⟩)
          | (at_builtin; refine wpList_append_fits _ rfl (.tmp 39) (.tmp 48) 23 rfl w'.heap.size 5 i0 1 Try.underlying23 hi hz1 w1.heap.size (2 + 2) (6 + len) _ rfl (hown.alloc _) ⟨w''.heap.size, 0, none⟩ 1 1 [.int .u8 (hexd D b)] rfl rfl (cell_one_new _ _ _) (by intro u hu; simp at hu; subst hu; rfl) (by omega) ?_; intro w4 hown4 hgrow4)
          | fail)
        obtain ⟨R1, R2⟩ := buf_step hbr hGr hgrow4
        clear hown hbr hgrow4
        go_wp2
        go_roundw
        case rel => exact ⟨2 + 1, _, by omega, rfl, rfl, by simpa [cellsU8] using hown4, hdg', R1, R2⟩
        case measure => simp [intOf]
      · obtain ⟨D, hD, hD0, hD1, hDe⟩ := mask_named (r) (by omega) (by omega)
        obtain ⟨b, hbb⟩ : ∃ b, (bits BinOp.and IntKind.u8 m 8 != 0) = b := ⟨_, rfl⟩
        have hdg' := digs_snoc hdg b hDe.out
        go_wp2_with (first
          | (go_at_call 12; refine (hex_any D b _ hD0 hD1).mono ?_; rintro e w'' ⟨rfl, rfl⟩)
          | (at_builtin; refine wpList_append_fits _ rfl (.tmp 39) (.tmp 48) 23 rfl w'.heap.size 5 i0 1 Try.underlying23 hi hz1 w1.heap.size (2 + 3) (6 + len) _ rfl (hown.alloc _) ⟨w''.heap.size, 0, none⟩ 1 1 [.int .u8 (hexd D b)] rfl rfl (cell_one_new _ _ _) (by intro u hu; simp at hu; subst hu; rfl) (by omega) ?_; intro w4 hown4 hgrow4)
          | fail)
        obtain ⟨R1, R2⟩ := buf_step hbr hGr hgrow4
        clear hown hbr hgrow4
        go_wp2
        go_roundw
        case rel => exact ⟨3 + 1, _, by omega, rfl, rfl, by simpa [cellsU8] using hown4, hdg', R1, R2⟩
        case measure => simp [intOf]
    · obtain rfl : k = 4 := by omega
      obtain ⟨s1, s2, s3⟩ := suffix_cells hclo hbr hBG
      go_wp2_with (first
        | (at_builtin; refine wpList_append_fits_any _ rfl (.tmp 50) (.tmp 51) 23 rfl w'.heap.size 5 i0 1 Try.underlying23 hi hz1 w1.heap.size (2 + 4) (6 + len) _ rfl hown a' len c' _ rfl s1 s2 s3 (ints_oneCell _ _) (by omega) ?_; intro w4 hown4 hgrow4)
        | fail)
      obtain ⟨e1, e2, e3⟩ := esc_cells hdg (by omega) hown4
      have hb4 : Below w'.heap.size w' w4 := hb1.trans ((hbr.grown hgrow4 (by omega) (fun k h => by cases h; exact Nat.le_refl _)).mono hsz1)
      have hE := zzescaped_any w1.heap.size (2 + 4 + len) (6 + len) (dg r) (dg_range r) w4 (by omega) (by omega) (by omega) e1 e2 e3
      rw [V_dg r hr0 hr1] at hE
      have HE : Hid (∀ _ : True, _) := fun _ => hE
      clear hE e1 e2 e3 hown4 hgrow4 hown hbr s1 s2 s3
      go_wp2_with fail
      refine (HE.out trivial).mono ?_
      rintro e w'' ⟨rfl, rfl⟩
      go_wp2
      go_ret
      exact ⟨ret_bool (by simp), hb4⟩

theorem esc_long (r m : Int) (a : Option Addr) (len cap : Nat) (w : World) (hs : 1048576 < len) :
    Calls Try.prog 3 #[.int .u16 r, .int .u8 m, .slice a len cap] w fun e w' => e = .returned (.bool true) ∧ Below w.heap.size w w' := by
  go_enter Try.func3, Try.ntmps3
  go_wp2_with (first
    | (go_at_call 10; refine (bytes10_no r m a len cap _ hs).mono ?_; rintro e w' ⟨rfl, rfl⟩)
    | fail)
  go_ret
  exact ⟨rfl, Below.refl _ _⟩

theorem esc_walk (r m : Int) (a : Option Addr) (len cap : Nat) (zs : List Int) (w : World) (hr : (Lit.int .u16 r).wf = true) (h : InRow w a len cap zs) :
    Calls Try.prog 3 #[.int .u16 r, .int .u8 m, .slice a len cap] w fun e w' => e = .returned (.bool true) ∧ Below w.heap.size w w' := by
  by_cases hs : len ≤ 1048576
  · obtain ⟨r0, r1⟩ := bounds_u16 hr
    exact esc_short r m r0 r1 a len cap zs w h hs
  · exact esc_long r m a len cap w (by omega)
end Go.Proofs.Qxb6000819a
