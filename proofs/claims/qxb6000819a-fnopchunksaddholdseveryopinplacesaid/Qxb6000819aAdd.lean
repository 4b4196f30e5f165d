/-
  THE WALK of (*opChunks).add (32).
-/
import Derived.Test.Qxb6000819aAddBase
namespace Go.Proofs.Qxb6000819a
open Go.RowKit

set_option maxHeartbeats 16000000 in
set_option maxRecDepth 1000000 in
theorem add_plain (B C size k : Nat) (key : ByteArray) (vch : Value) (CH : List Ch) (v0 v1 v2 v3 v4 v5 v6 v7 v8 v9 v10 v11 : Value) (hA : Hid (opA k key = #[v0, v1, v2, v3, v4, v5, v6, v7, v8, v9, v10, v11])) (h1A : ∀ u ∈ [v0, v1, v2, v3, v4, v5, v6, v7, v8, v9, v10, v11], u.oneCell' = true) (w : World) (h : St w B C key size vch CH k) (hk : k ≤ 65536) (hlen : CH.length ≤ k) (hsize : size ≤ 65536) (hBw : B ≤ w.heap.size) :
    Calls Try.prog 32 #[.pointer (some ⟨C, 0, none⟩), .agg #[v0, v1, v2, v3, v4, v5, v6, v7, v8, v9, v10, v11]] w fun e w' => ∃ g j vch' CH', e = .returned (.pointer (some ⟨g, j * 12, none⟩)) ∧ St w' B C key size vch' CH' (k + 1) ∧ ptrsOf CH' = ptrsOf CH ++ [.pointer (some ⟨g, j * 12, none⟩)] ∧
      w'.rangeAt g (j * 12) (opA k key).toList ∧ CH'.length ≤ k + 1 ∧ Kept (Mods C vch CH) w w' := by
  obtain ⟨i0, z0, hi, hz, hi1, hi2⟩ := info46_parts
  obtain ⟨j0, hj, hjz0, hjz1, hjz2⟩ := info_parts Try.info54
  obtain ⟨ao, cm0, hv⟩ : ∃ ao cm, vch = .slice ao CH.length cm := by
    rcases h.form with ⟨e, e'⟩ | ⟨pre, g, len, cap, H, cm, e, e'⟩
    · exact ⟨none, 0, by rw [e', e]; rfl⟩
    · exact ⟨some ⟨H, 0, none⟩, cm, by rw [e', e]; simp⟩
  subst hv
  have hCw := h.ltC
  have c0 : w.cell? ⟨C, 0, none⟩ = some (.slice ao CH.length cm0) := by rw [cell_of_row w C 0 _ 58 (0, 0) h.blk]; rfl
  have c2 : w.cell? ⟨C, 2, none⟩ = some (.int .i64 size) := by rw [cell_of_row w C 2 _ 58 (0, 0) h.blk]; rfl
  have HS : Hid (St w B C key size (.slice ao CH.length cm0) CH k) := h
  clear h
  go_enter Try.func32, Try.ntmps32
  go_upto_region 2 with fail
  go_cut [33] (fun s33 wx => (∃ q, wx = (w.alloc (.cells #[v0, v1, v2, v3, v4, v5, v6, v7, v8, v9, v10, v11] 46)).drewN q) ∧ ∃ nn, s33 = .bool nn ∧ Need nn CH)
  case first =>
    rcases HS.out.form with ⟨rfl, e'⟩ | ⟨pre, g, len, cap, H, cm, rfl, e'⟩
    · have hn : Hid (Need true []) := need_nil
      simp only [List.length_nil] at *
      go_quiet (fail)
      go_wp2
      go_meet
      exact ⟨⟨_, rfl⟩, _, rfl, hn⟩
    · simp only [List.length_append, List.length_singleton] at *
      obtain ⟨rfl, rfl⟩ : ao = some ⟨H, 0, none⟩ ∧ cm0 = cm := by simpa using e'
      have hlast := HS.out.last
      obtain ⟨_, _, _, _, _, x5, _, _, _, x9, _, _, _, _, x14, x15, x16⟩ := hlast
      have q1 : decide ((pre.length : Int) < 0) = false := decide_eq_false (by omega)
      have hidx : (pre.length : Int) < (pre.length : Int) + 1 := by omega
      by_cases hf : len = cap
      · subst hf
        have hn : Hid (Need true (pre ++ [(g, len, len)])) := need_full pre g len
        go_quiet (fail)
        go_wp2
        go_meet
        exact ⟨⟨_, rfl⟩, _, rfl, hn⟩
      · have hn : Hid (Need false (pre ++ [(g, len, cap)])) := need_room pre g len cap (by omega)
        have q2 : ((len : Int) == (cap : Int)) = false := beq_eq_false_iff_ne.2 (by omega)
        go_quiet (fail)
        go_wp2
        go_meet
        exact ⟨⟨_, rfl⟩, _, rfl, hn⟩
  case rest =>
  obtain ⟨⟨q, rfl⟩, nn, rfl, hnn⟩ := hcut
  go_upto_if 33 with fail
  go_cut [5] (fun s5 wx => ∃ pre g len cap H cm, s5 = .int .i64 (List.length pre : Nat) ∧ Room w wx B C key size (.slice ao CH.length cm0) CH k #[v0, v1, v2, v3, v4, v5, v6, v7, v8, v9, v10, v11] pre g len cap H cm)
  case first =>
    cases nn
    · obtain ⟨pre, g, len, cap, rfl, hl⟩ := hnn.2 rfl
      obtain ⟨H, cm, hvv, _⟩ := HS.out.row.form (by simp)
      simp only [List.length_append, List.length_singleton] at *
      obtain ⟨rfl, rfl⟩ : ao = some ⟨H, 0, none⟩ ∧ cm0 = cm := by simpa using hvv
      have hR : Hid (Room w ((w.alloc (.cells #[v0, v1, v2, v3, v4, v5, v6, v7, v8, v9, v10, v11] 46)).drewN q) B C key size (.slice (some ⟨H, 0, none⟩) (pre.length + 1) cm0) (pre ++ [(g, len, cap)]) k #[v0, v1, v2, v3, v4, v5, v6, v7, v8, v9, v10, v11] pre g len cap H cm0) := room_here HS.out _ q hl (by simpa using hlen)
      clear hnn hvv
      go_wp2
      go_meet
      exact ⟨pre, g, len, cap, H, cm0, by go_num, hR.out⟩
    · obtain ⟨s0, sbox, sb0⟩ := box_st HS.out #[v0, v1, v2, v3, v4, v5, v6, v7, v8, v9, v10, v11] q
      have HS0 : Hid (St ((w.alloc (.cells #[v0, v1, v2, v3, v4, v5, v6, v7, v8, v9, v10, v11] 46)).drewN q) B C key size (.slice ao CH.length cm0) CH k) := s0
      clear s0 sbox sb0
      rcases hnn.1 rfl with rfl | ⟨pre, g, cap, rfl⟩
      · clear hnn
        obtain ⟨rfl, rfl⟩ : ao = none ∧ cm0 = 0 := by have := HS.out.nil rfl; simpa using this
        simp only [List.length_nil] at *
        by_cases hz0 : size = 0
        · have hzz : ((size : Int) == 0) = true := by rw [hz0]; rfl
          obtain ⟨mk, hmk1, hmk⟩ := make_op' 64 64 rfl (by omega)
          have hCx : ((((w.alloc (.cells #[v0, v1, v2, v3, v4, v5, v6, v7, v8, v9, v10, v11] 46)).drewN (q + 1)).alloc (.cells mk 46)).alloc (.cells #[.slice (some ⟨w.heap.size + 1, 0, none⟩) 0 64] 54)).cell? ⟨C, 0, none⟩ = some (.slice none 0 0) := by
            rw [cell_al _ _ _ _ (by simp; omega), cell_al _ _ _ _ (by simp; omega)]
            exact (cell_al w _ _ _ hCw).trans c0
          go_upto_region 8 with fail
          go_region_law (refine step_append_lies _ rfl (.tmp 58) (.tmp 61) 52 rfl B 54 j0 (.slice none 0 0) 1 24 Try.underlying52 hj hjz0 hjz1 hjz2 rfl (by decide) _ _ _ (by rfl) ((HS0.out.row.alloc _).alloc _).drew _ 1 1 _ (by rfl) rfl (one_new _ _ _ _ (by simp)) (by intro u hu; simp at hu; subst hu; rfl) (by decide) (by simp; unfold maxLen; omega) (by simp <;> omega) (by simp; omega) _ rfl ?_; intro H cm w3 hown hgrow hat hlt; obtain ⟨hc3, hf3⟩ := c_later HS0.out (below2 _ q _ _ _) hgrow)
          all_goals
            go_wp2
            go_meet
            exact ⟨[], _, 0, 64, H, cm, rfl, room_mk HS.out hBw _ _ hmk1 (by omega) (by omega) hlen hown hgrow hat⟩
        · have hzz : ((size : Int) == 0) = false := beq_eq_false_iff_ne.2 (by omega)
          obtain ⟨mk, hmk1, hmk⟩ := make_op' size size rfl hsize
          have hCx : ((((w.alloc (.cells #[v0, v1, v2, v3, v4, v5, v6, v7, v8, v9, v10, v11] 46)).drewN (q + 1)).alloc (.cells mk 46)).alloc (.cells #[.slice (some ⟨w.heap.size + 1, 0, none⟩) 0 size] 54)).cell? ⟨C, 0, none⟩ = some (.slice none 0 0) := by
            rw [cell_al _ _ _ _ (by simp; omega), cell_al _ _ _ _ (by simp; omega)]
            exact (cell_al w _ _ _ hCw).trans c0
          go_upto_region 8 with fail
          go_region_law (refine step_append_lies _ rfl (.tmp 58) (.tmp 61) 52 rfl B 54 j0 (.slice none 0 0) 1 24 Try.underlying52 hj hjz0 hjz1 hjz2 rfl (by decide) _ _ _ (by rfl) ((HS0.out.row.alloc _).alloc _).drew _ 1 1 _ (by rfl) rfl (one_new _ _ _ _ (by simp)) (by intro u hu; simp at hu; subst hu; rfl) (by decide) (by simp; unfold maxLen; omega) (by simp <;> omega) (by simp; omega) _ rfl ?_; intro H cm w3 hown hgrow hat hlt; obtain ⟨hc3, hf3⟩ := c_later HS0.out (below2 _ q _ _ _) hgrow)
          all_goals
            go_wp2
            go_meet
            exact ⟨[], _, 0, size, H, cm, rfl, room_mk HS.out hBw _ _ hmk1 (by omega) hsize hlen hown hgrow hat⟩
      · clear hnn
        obtain ⟨HH, cmm, hvv, -⟩ := HS.out.row.form (by simp)
        have HP : Hid ((pre ++ [(g, cap, cap)]).length = pre.length + 1) := by exact (by simp : (pre ++ [(g, cap, cap)]).length = pre.length + 1)
        have HSo := HS
        rw [HP.out] at HS HS0 c0 hlen hvv ⊢
        obtain ⟨rfl, rfl⟩ : ao = some ⟨HH, 0, none⟩ ∧ cm0 = cmm := by simpa using hvv
        have hst := HS.out
        obtain ⟨-, -, -, -, -, x5, -, -, -, x9, -, -, -, -, x14, x15, -⟩ := hst.last
        have hidx : (pre.length : Int) < (pre.length : Int) + 1 := by omega
        clear hvv hst
        by_cases hbig : 2 * cap ≤ 65536
        · obtain ⟨mk, hmk1, hmk⟩ := make_op' (2 * cap) (2 * (cap : Int)) (by omega) (by omega)
          have hCx : ((((w.alloc (.cells #[v0, v1, v2, v3, v4, v5, v6, v7, v8, v9, v10, v11] 46)).drewN (q + 1)).alloc (.cells mk 46)).alloc (.cells #[.slice (some ⟨w.heap.size + 1, 0, none⟩) 0 (2 * cap)] 54)).cell? ⟨C, 0, none⟩ = some (.slice (some ⟨HH, 0, none⟩) (pre.length + 1) cm0) := by
            rw [cell_al _ _ _ _ (by simp; omega), cell_al _ _ _ _ (by simp; omega)]
            exact (cell_al w _ _ _ hCw).trans c0
          go_upto_region 8 with fail
          go_region_law (refine step_append_lies _ rfl (.tmp 58) (.tmp 61) 52 rfl B 54 j0 (.slice none 0 0) 1 24 Try.underlying52 hj hjz0 hjz1 hjz2 rfl (by decide) _ _ _ (by rfl) ((HS0.out.row.alloc _).alloc _).drew _ 1 1 _ (by rfl) rfl (one_new _ _ _ _ (by simp)) (by intro u hu; simp at hu; subst hu; rfl) (by decide) (by simp; unfold maxLen; omega) (by simp <;> omega) (by simp; omega) _ rfl ?_; intro H cm w3 hown hgrow hat hlt; obtain ⟨hc3, hf3⟩ := c_later HS0.out (below2 _ q _ _ _) hgrow)
          all_goals
            go_wp2
            go_meet
            exact ⟨pre ++ [(g, cap, cap)], _, 0, 2 * cap, H, cm, by simp, room_mk' _ HP.out HSo.out hBw _ _ hmk1 (by omega) (by omega) hlen (by rw [HP.out] at hown; exact hown) hgrow hat⟩
        · obtain ⟨mk, hmk1, hmk⟩ := make_op' (65536) (if (65536 : Int) < 2 * ↑cap then 65536 else 2 * ↑cap) (by rw [if_pos (by omega)]; rfl) (by omega)
          have hCx : ((((w.alloc (.cells #[v0, v1, v2, v3, v4, v5, v6, v7, v8, v9, v10, v11] 46)).drewN (q + 1)).alloc (.cells mk 46)).alloc (.cells #[.slice (some ⟨w.heap.size + 1, 0, none⟩) 0 (65536)] 54)).cell? ⟨C, 0, none⟩ = some (.slice (some ⟨HH, 0, none⟩) (pre.length + 1) cm0) := by
            rw [cell_al _ _ _ _ (by simp; omega), cell_al _ _ _ _ (by simp; omega)]
            exact (cell_al w _ _ _ hCw).trans c0
          go_upto_region 8 with fail
          go_region_law (refine step_append_lies _ rfl (.tmp 58) (.tmp 61) 52 rfl B 54 j0 (.slice none 0 0) 1 24 Try.underlying52 hj hjz0 hjz1 hjz2 rfl (by decide) _ _ _ (by rfl) ((HS0.out.row.alloc _).alloc _).drew _ 1 1 _ (by rfl) rfl (one_new _ _ _ _ (by simp)) (by intro u hu; simp at hu; subst hu; rfl) (by decide) (by simp; unfold maxLen; omega) (by simp <;> omega) (by simp; omega) _ rfl ?_; intro H cm w3 hown hgrow hat hlt; obtain ⟨hc3, hf3⟩ := c_later HS0.out (below2 _ q _ _ _) hgrow)
          all_goals
            go_wp2
            go_meet
            exact ⟨pre ++ [(g, cap, cap)], _, 0, 65536, H, cm, by simp, room_mk' _ HP.out HSo.out hBw _ _ hmk1 (by omega) (by omega) hlen (by rw [HP.out] at hown; exact hown) hgrow hat⟩
  case rest =>
  obtain ⟨pre, g, len, cap, H, cm, rfl, R⟩ := hcut
  have HR : Hid (Room w wc B C key size (.slice ao CH.length cm0) CH k #[v0, v1, v2, v3, v4, v5, v6, v7, v8, v9, v10, v11] pre g len cap H cm) := R
  obtain ⟨x0, x1, -, x1f, -, xh, xhf, xth, lC, lH, lg, n1, n2, n3, y1, y2, -⟩ := R.st.last
  have hroom := R.room
  have hfew := R.few
  have xth := xth hroom
  clear R c0 c2 hCw HS hnn
  have b0 : wc.cell? ⟨w.heap.size, 0, none⟩ = some v0 := by rw [cell_of_row wc w.heap.size 0 _ 46 (0, 0) HR.out.box]; rfl
  have b1 : wc.cell? ⟨w.heap.size, 1, none⟩ = some v1 := by rw [cell_of_row wc w.heap.size 1 _ 46 (0, 0) HR.out.box]; rfl
  have b2 : wc.cell? ⟨w.heap.size, 2, none⟩ = some v2 := by rw [cell_of_row wc w.heap.size 2 _ 46 (0, 0) HR.out.box]; rfl
  have b3 : wc.cell? ⟨w.heap.size, 3, none⟩ = some v3 := by rw [cell_of_row wc w.heap.size 3 _ 46 (0, 0) HR.out.box]; rfl
  have b4 : wc.cell? ⟨w.heap.size, 4, none⟩ = some v4 := by rw [cell_of_row wc w.heap.size 4 _ 46 (0, 0) HR.out.box]; rfl
  have b5 : wc.cell? ⟨w.heap.size, 5, none⟩ = some v5 := by rw [cell_of_row wc w.heap.size 5 _ 46 (0, 0) HR.out.box]; rfl
  have b6 : wc.cell? ⟨w.heap.size, 6, none⟩ = some v6 := by rw [cell_of_row wc w.heap.size 6 _ 46 (0, 0) HR.out.box]; rfl
  have b7 : wc.cell? ⟨w.heap.size, 7, none⟩ = some v7 := by rw [cell_of_row wc w.heap.size 7 _ 46 (0, 0) HR.out.box]; rfl
  have b8 : wc.cell? ⟨w.heap.size, 8, none⟩ = some v8 := by rw [cell_of_row wc w.heap.size 8 _ 46 (0, 0) HR.out.box]; rfl
  have b9 : wc.cell? ⟨w.heap.size, 9, none⟩ = some v9 := by rw [cell_of_row wc w.heap.size 9 _ 46 (0, 0) HR.out.box]; rfl
  have b10 : wc.cell? ⟨w.heap.size, 10, none⟩ = some v10 := by rw [cell_of_row wc w.heap.size 10 _ 46 (0, 0) HR.out.box]; rfl
  have b11 : wc.cell? ⟨w.heap.size, 11, none⟩ = some v11 := by rw [cell_of_row wc w.heap.size 11 _ 46 (0, 0) HR.out.box]; rfl
  have hCs : ∀ (w' : World) o vs, (w'.setCells g o vs).cell? ⟨C, 0, none⟩ = w'.cell? ⟨C, 0, none⟩ := fun w' o vs => World.cell?_setCells_out g vs o w' ⟨C, 0, none⟩ (fun h => absurd h n2)
  have hHs : ∀ (w' : World) o vs, (w'.setCells g o vs).cell? ⟨H, pre.length, none⟩ = w'.cell? ⟨H, pre.length, none⟩ := fun w' o vs => World.cell?_setCells_out g vs o w' ⟨H, pre.length, none⟩ (fun h => absurd h n3)
  have hHf : ∀ (w' : World) o vs, (w'.setCells g o vs).frozen? ⟨H, pre.length, none⟩ = w'.frozen? ⟨H, pre.length, none⟩ := fun w' o vs => World.frozen?_setCells _ _ _ _ _
  have hidx : (pre.length : Int) < (pre.length : Int) + 1 := by omega
  go_upto_region 10 with fail
  obtain ⟨W1, hW1⟩ : ∃ W1, W1 = (((wc.alloc (.cells #[v0, v1, v2, v3, v4, v5, v6, v7, v8, v9, v10, v11] 46)).drew.setCells g (len * 12) [v0, v1, v2, v3, v4, v5, v6, v7, v8, v9, v10, v11]).setCell ⟨H, pre.length, none⟩ (.slice (some ⟨g, 0, none⟩) (len + 1) cap)) := ⟨_, rfl⟩
  have HW1 : Hid (W1 = _) := hW1
  clear hW1
  go_cut [81] (fun s81 wx => wx = W1)
  case first =>
    go_region_law (refine step_append_room rfl (.tmp 78) (.tmp 80) 54 rfl 46 i0 12 Try.underlying54 hi hi1 g 0 len cap (by simp [Act.eval]) ⟨wc.heap.size, 0, none⟩ 1 1 [v0, v1, v2, v3, v4, v5, v6, v7, v8, v9, v10, v11] (by simp [Act.eval]) rfl (row12_new _ _ _) h1A (by omega) (spare_later xth _) ?_)
    all_goals
      go_wp2
      go_meet
      exact HW1.out.symm
  case rest =>
  subst hcut
  clear b0 b1 b2 b3 b4 b5 b6 b7 b8 b9 b10 b11
  obtain ⟨z0, z1, z1f, zh, zC, zH⟩ := w1_facts HR.out.st #[v0, v1, v2, v3, v4, v5, v6, v7, v8, v9, v10, v11] [v0, v1, v2, v3, v4, v5, v6, v7, v8, v9, v10, v11] _ HW1.out
  clear x0 x1 x1f xh xhf hCs hHs hHf lC lH lg xth
  have hidx2 : (len : Int) < (len : Int) + 1 := by omega
  go_upto_region 12 with fail
  go_quiet (fail)
  go_wp2
  go_ret
  exact add_end HR.out [v0, v1, v2, v3, v4, v5, v6, v7, v8, v9, v10, v11] rfl (by rw [hA.out]) HW1.out _
end Go.Proofs.Qxb6000819a
