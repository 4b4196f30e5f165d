/-
  THE WALK of appendDigits (13) and of its exported name (9).
-/
import Derived.Test.Qxb6600007aClone
import Derived.Test.Qxb6600007aDigPlain
import Derived.Lib.AppendStr
import Derived.WalkLawsBesides
namespace Go.Proofs.Qxb6600007a
open Go.RowKit

theorem zero_str (wd : Nat) (h : wd ≤ 4) : ((⟨#[48, 48, 48, 48]⟩ : ByteArray).extract 0 wd).size = wd ∧ Lib.strCells ((⟨#[48, 48, 48, 48]⟩ : ByteArray).extract 0 wd) = cellsU8 (List.replicate wd 48) := by
  match wd, h with
  | 0, _ => exact ⟨rfl, rfl⟩
  | 1, _ => exact ⟨rfl, rfl⟩
  | 2, _ => exact ⟨rfl, rfl⟩
  | 3, _ => exact ⟨rfl, rfl⟩
  | 4, _ => exact ⟨rfl, rfl⟩

/-- What a round does: one digit more. -/
theorem dig_step {B g len cap n wd t : Nat} {ys : List Int} {w wr : World} (hy : ys.length = len) (ht : t < wd)
    (hown : wr.ownsRow B 5 1 (.slice (some ⟨g, 0, none⟩) (len + wd) cap) (len + wd) (cellsU8 (ys ++ L n wd t))) (hb : Below B w wr) :
    wr.cell? ⟨g, len + wd - 1 - t, none⟩ = some (.int .u8 48) ∧ wr.frozen? ⟨g, len + wd - 1 - t, none⟩ = false ∧
    (wr.setCell ⟨g, len + wd - 1 - t, none⟩ (.int .u8 (48 + ((n / 10 ^ t % 10 : Nat) : Int)))).ownsRow B 5 1 (.slice (some ⟨g, 0, none⟩) (len + wd) cap) (len + wd) (cellsU8 (ys ++ L n wd (t + 1))) ∧
    Below B w (wr.setCell ⟨g, len + wd - 1 - t, none⟩ (.int .u8 (48 + ((n / 10 ^ t % 10 : Nat) : Int)))) := by
  have hg : B ≤ g := (hown.lt g rfl).1
  have hidx : len + wd - 1 - t = ys.length + (wd - 1 - t) := by omega
  refine ⟨?_, hown.frozenAt _, ?_, hb.setCell hg _⟩
  · rw [hown.cellAt _ (by omega), List.getElem?_map, hidx, List.getElem?_append_right (by omega), Nat.add_sub_cancel_left, L_get _ _ _ _ (by omega), L_at n wd t ht]
    rfl
  · have h := (hown.stored (len + wd - 1 - t) (.int .u8 (48 + ((n / 10 ^ t % 10 : Nat) : Int)))).1
    have e : (cellsU8 (ys ++ L n wd t)).set (len + wd - 1 - t) (.int .u8 (48 + ((n / 10 ^ t % 10 : Nat) : Int))) = cellsU8 (ys ++ L n wd (t + 1)) := by
      rw [L_succ n wd t ht]
      show (List.map _ _).set _ _ = _
      rw [← List.map_set, hidx, List.set_append_right _ _ (by omega), Nat.add_sub_cancel_left]
    rw [e] at h
    exact h

theorem n_le {n wd : Nat} (hw : wd ≤ 4) (h : n < 10 ^ wd) : n ≤ 9999 := by
  have : 10 ^ wd ≤ 10 ^ 4 := pow_mono hw
  omega

set_option maxHeartbeats 1600000 in
theorem dig_any (B len n wd : Nat) (v : Value) (ys : List Int) (w : World) (hB : B ≤ w.heap.size) (hlen : len ≤ 1048576) (hw : wd ≤ 4) (hn : n < 10 ^ wd)
    (hown : w.ownsRow B 5 1 v len (cellsU8 ys)) :
    Calls Try.prog 13 #[v, .int .i64 n, .int .i64 wd] w fun e w' => ∃ v', e = .returned v' ∧ w'.ownsRow B 5 1 v' (len + wd) (cellsU8 (ys ++ digs n wd)) ∧ Below B w w' := by
  obtain ⟨i0, hi, hz0, hz1, hz2⟩ := info_parts Try.info5
  obtain ⟨z1, z2⟩ := zero_str wd hw
  obtain ⟨S, hS⟩ : ∃ S, (⟨#[48, 48, 48, 48]⟩ : ByteArray).extract 0 wd = S := ⟨_, rfl⟩
  rw [hS] at z1 z2
  have Z1 : Hid (S.size = wd) := z1
  have Z2 : Hid (Lib.strCells S = cellsU8 (List.replicate wd 48)) := z2
  clear z1 z2
  have HN : Hid (n < 10 ^ wd) := hn
  clear hn
  go_enter Try.func13, Try.ntmps13
  go_wp2_with (at_builtin; refine Lib.wpList_append_own_string _ rfl _ _ 22 9 rfl B 5 i0 Try.underlying22 Try.underlying9 hi hz0 hz1 hz2 _ _ _ rfl hown S rfl ?c1 ?c2 hB ?_)
  case c1 => rw [Z1.out]; unfold maxLen; omega
  case c2 => rw [Z1.out]; omega
  intro v' w1 hown1 hgrow1 _
  have hy : ys.length = len := by have := hown.1; simpa using this
  have hb1 : Below B w w1 := (Below.refl _ _).grown hgrow1 hB (fun k hk => (hown.lt k hk).1)
  rw [Z1.out, Z2.out, ← List.map_append, ← L_zero n wd] at hown1
  clear hgrow1 hown
  rcases hown1.2 with ⟨rfl, h0⟩ | ⟨g, cap, cur, rfl, _⟩
  · obtain ⟨rfl, rfl⟩ : len = 0 ∧ wd = 0 := by omega
    obtain rfl : n = 0 := by have := HN.out; simpa using this
    go_wp2
    refine wp_loop_rounds 1 ?_
    rw [rounds_succ]
    go_wp2
    go_ret
    exact ⟨_, rfl, hown1, hb1⟩
  · go_wp2
    go_loopw [1, 7] (fun q i wr => ∃ t nt : Nat, t ≤ wd ∧ q = .int .i64 nt ∧ i = .int .i64 ((len : Int) + wd - 1 - t) ∧ Hid (n / 10 ^ t = nt) ∧ nt ≤ 9999 ∧ wr.ownsRow B 5 1 (.slice (some ⟨g, 0, none⟩) (len + wd) cap) (len + wd) (cellsU8 (ys ++ L n wd t)) ∧ Below B w wr) (fun q _ _ => (intOf q).toNat)
    case atStart => exact ⟨0, n, Nat.zero_le _, rfl, by go_num, by simp [Hid], n_le hw HN.out, hown1, hb1⟩
    case round =>
      obtain ⟨t, nt, ht, rfl, rfl, hnt, hle, hown, hb⟩ := hrel
      clear hown1 hb1
      by_cases hpos : 0 < nt
      · have htw : t < wd := t_lt HN.out (by rw [hnt.out]; exact hpos)
        obtain ⟨c1, c2, R1, R2⟩ := dig_step hy htw hown hb
        rw [hnt.out, show ((nt % 10 : Nat) : Int) = (nt : Int) % 10 from by omega] at R1 R2
        have hnt' : Hid (n / 10 ^ (t + 1) = nt / 10) := by unfold Hid; rw [← div_succ, hnt.out]
        clear hown hb
        go_wp2
        go_roundw
        case rel => exact ⟨t + 1, nt / 10, by omega, by go_num, by go_num, hnt', by omega, R1, R2⟩
        case measure => simp [intOf]; omega
      · have hL := L_done n wd t (by rw [hnt.out]; omega) ht
        rw [hL] at hown
        go_wp2
        go_ret
        exact ⟨_, rfl, hown, hb⟩

theorem zzdig_any (B len n wd : Nat) (v : Value) (ys : List Int) (w : World) (hB : B ≤ w.heap.size) (hlen : len ≤ 1048576) (hw : wd ≤ 4) (hn : n < 10 ^ wd)
    (hown : w.ownsRow B 5 1 v len (cellsU8 ys)) :
    Calls Try.prog 9 #[v, .int .i64 n, .int .i64 wd] w fun e w' => ∃ v', e = .returned v' ∧ w'.ownsRow B 5 1 v' (len + wd) (cellsU8 (ys ++ digs n wd)) ∧ Below B w w' := by
  have H : Hid (∀ _ : True, _) := fun _ => dig_any B len n wd v ys w hB hlen hw hn hown
  clear hn hown
  go_enter Try.func9, Try.ntmps9
  go_wp2_with (go_at_call 13; refine (H.out trivial).mono ?_; rintro e w' ⟨v', rfl, h1, h2⟩)
  go_ret
  exact ⟨_, rfl, h1, h2⟩
end Go.Proofs.Qxb6600007a
