/-
  THE WALK of FnOpChunksAddHoldsEveryOpInPlace (9).
-/
import Derived.Test.Qxb6000819aLawBase
import Derived.Lib.Builder
namespace Go.Proofs.Qxb6000819a
open Go.RowKit

theorem Try.info48 : (Try.prog.info? 48).map (fun i => (i.zero, i.size, i.bytes)) = some (some (.pointer none), 1, 8) := by kernel_rfl

/-- An operation, its twelve cells named. -/
theorem op_named (k : Nat) (key : ByteArray) : ∃ v0 v1 v2 v3 v4 v5 v6 v7 v8 v9 v10 v11, Hid (opA k key = #[v0, v1, v2, v3, v4, v5, v6, v7, v8, v9, v10, v11]) ∧ ∀ w, Calls Try.prog 26 #[.agg #[v0, v1, v2, v3, v4, v5, v6, v7, v8, v9, v10, v11], .agg #[v0, v1, v2, v3, v4, v5, v6, v7, v8, v9, v10, v11]] w fun e w' => e = .returned (.bool true) ∧ Below w.heap.size w w' :=
  ⟨_, _, _, _, _, _, _, _, _, _, _, _, (show opA k key = _ from rfl), fun w => same_any k key w⟩
theorem op_one {k : Nat} {key : ByteArray} {v0 v1 v2 v3 v4 v5 v6 v7 v8 v9 v10 v11 : Value} (h : opA k key = #[v0, v1, v2, v3, v4, v5, v6, v7, v8, v9, v10, v11]) : #[v0, v1, v2, v3, v4, v5, v6, v7, v8, v9, v10, v11].all (·.oneCell') = true := by rw [← h]; exact opA_one k key
theorem range12 {w : World} {g o k : Nat} {key : ByteArray} {v0 v1 v2 v3 v4 v5 v6 v7 v8 v9 v10 v11 : Value} (h : w.rangeAt g o (opA k key).toList) (hv : opA k key = #[v0, v1, v2, v3, v4, v5, v6, v7, v8, v9, v10, v11]) : w.cell? ⟨g, o, none⟩ = some v0 ∧ w.cell? ⟨g, o + 1, none⟩ = some v1 ∧ w.cell? ⟨g, o + 2, none⟩ = some v2 ∧ w.cell? ⟨g, o + 3, none⟩ = some v3 ∧ w.cell? ⟨g, o + 4, none⟩ = some v4 ∧ w.cell? ⟨g, o + 5, none⟩ = some v5 ∧ w.cell? ⟨g, o + 6, none⟩ = some v6 ∧ w.cell? ⟨g, o + 7, none⟩ = some v7 ∧ w.cell? ⟨g, o + 8, none⟩ = some v8 ∧ w.cell? ⟨g, o + 9, none⟩ = some v9 ∧ w.cell? ⟨g, o + 10, none⟩ = some v10 ∧ w.cell? ⟨g, o + 11, none⟩ = some v11 := by
  rw [hv] at h
  exact ⟨h 0 v0 rfl, h 1 v1 rfl, h 2 v2 rfl, h 3 v3 rfl, h 4 v4 rfl, h 5 v5 rfl, h 6 v6 rfl, h 7 v7 rfl, h 8 v8 rfl, h 9 v9 rfl, h 10 v10 rfl, h 11 v11 rfl⟩

theorem store_new {w3 w4 : World} {Z A : Array Value} (h : World.setRow (w3.alloc (.cells Z 46)) w3.heap.size A = w4) : w4.heap[w3.heap.size]? = some (.cells A 46 (0, 0)) ∧ Below w3.heap.size w3 w4 := by
  subst h
  exact ⟨setRow_heap _ _ _ _ 46 (0, 0) (heap_alloc_new w3 _), below_setRow ((Below.refl _ _).alloc (Nat.le_refl _) _) (Nat.le_refl _) _⟩

/-- Behind some draws and a call. -/
theorem below_via {a b c : World} {q : Nat} (h : Below a.heap.size a b) (k : Below (b.drewN q).heap.size (b.drewN q) c) : Below a.heap.size a c := h.trans (Below.mono ⟨k.os, k.tape, k.output, k.size, k.block⟩ h.size)

set_option maxHeartbeats 16000000 in
set_option maxRecDepth 1000000 in
theorem law_in (size n : Nat) (key : ByteArray) (hs : size ≤ 65536) (hn : n ≤ 65536) (hkey : key.size ≤ 1048576) (w : World) :
    Calls Try.prog 9 #[.int .i64 size, .int .i64 n, .string key] w fun e w' => e = .returned (.bool true) ∧ Below w.heap.size w w' := by
  obtain ⟨i0, hi, hz0, hz1, hz2⟩ := info_parts Try.info48
  go_enter Try.func9, Try.ntmps9
  go_wp2_with (first
    | (go_at_call 22; refine (bytes22_yes size n key _ hkey).mono ?_; rintro e w' ⟨rfl, rfl⟩)
    | fail)
  refine (new_any size _).mono ?_
  rintro e w1 ⟨rfl, hw0⟩
  have hsz1 : w'.heap.size ≤ w1.heap.size := by rw [hw0]; simp
  have hw1 : Hid (w1 = _) := hw0
  clear hw0
  go_wp2_with (first
    | (at_make; (refine wpList_make_own _ rfl _ _ 39 rfl w'.heap.size 48 i0 (.pointer none) 1 Try.underlying39 hi hz0 hz1 .i64 .i64 _ n rfl rfl rfl (by rw [hz2]; omega) (by unfold maxLen; omega) hsz1 ?_; intro w2 hown2 hgrow2))
    | fail)
  have I0 := inv_start (key := key) hw1.out hown2 hgrow2
  clear hown2 hgrow2
  obtain ⟨P0, hP0⟩ : ∃ P, w1.heap.size = P := ⟨_, rfl⟩
  rw [hP0] at I0
  rw [hP0]
  clear hP0 hw1
  go_loopw [8, 9] (fun vp kk wr => ∃ k P cap vch CH, k ≤ n ∧ kk = .int .i64 (k : Nat) ∧ vp = .slice (some ⟨P, 0, none⟩) k cap ∧ Inv w' wr w'.heap.size size k key P cap vch CH) (fun _ kk _ => n - (intOf kk).toNat)
  case atStart => exact ⟨0, _, _, _, _, by omega, rfl, rfl, I0⟩
  case round =>
    obtain ⟨k, P, cap, vch, CH, hk, rfl, rfl, I⟩ := hrel
    clear I0
    by_cases hlt : k < n
    · obtain ⟨v0, v1, v2, v3, v4, v5, v6, v7, v8, v9, v10, v11, hv, hsame⟩ := op_named k key
      have h1A := op_one hv.out
      go_wp2_with fail
      refine (opFor_any k (by omega) key _).mono ?_
      rintro e w3 ⟨rfl, hb3⟩
      rw [hv.out]
      have I3 := I.below hb3
      clear I hb3
      go_wp2_with (first
        | (refine wpList_store_row rfl 46 _ _ rfl w3.heap.size _ rfl rfl 46 _ (heap_alloc_new w3 _) Try.info46 rfl h1A ?_; generalize hw4 : World.setRow _ _ _ = w4; obtain ⟨hbl4, hb4⟩ := store_new hw4; clear hw4)
        | (refine wpList_load_row rfl 46 _ rfl w3.heap.size rfl 46 _ (0, 0) _ hbl4 Try.underlying46 rfl Try.info46 ?_)
        | fail)
      have hm3 : ¬ Mods w'.heap.size vch CH w3.heap.size := fun hm => by have := I3.st.mods_lt _ hm; omega
      have I4 := I3.below hb4
      clear I3 hb4
      have hadd : Calls Try.prog 25 #[.pointer (some ⟨w'.heap.size, 0, none⟩), .agg #[v0, v1, v2, v3, v4, v5, v6, v7, v8, v9, v10, v11]] w4 (Added w'.heap.size w'.heap.size size k key vch CH w4) := by
        rw [← hv.out]
        exact zadd_any _ _ _ _ _ _ _ _ I4.st (by omega) I4.few hs I4.bel.size
      refine hadd.mono ?_
      intro e w5 ha
      clear hadd
      obtain ⟨g, j, vch', CH', rfl, S5, hp5, hr5, hf5, hb5, hrow5, hkeep⟩ := I4.added ha
      have hbl5 : w5.heap[w3.heap.size]? = some (.cells #[v0, v1, v2, v3, v4, v5, v6, v7, v8, v9, v10, v11] 46 (0, 0)) := (hkeep w3.heap.size (Array.getElem?_eq_some_iff.1 hbl4).1 hm3).trans hbl4
      clear I4 ha hkeep hbl4 hm3
      obtain ⟨c0, c1, c2, c3, c4, c5, c6, c7, c8, c9, c10, c11⟩ := range12 hr5 hv.out
      have d0 : w5.cell? ⟨w3.heap.size, 0, none⟩ = some v0 := by rw [cell_of_row w5 w3.heap.size 0 _ 46 (0, 0) hbl5]; rfl
      have d1 : w5.cell? ⟨w3.heap.size, 1, none⟩ = some v1 := by rw [cell_of_row w5 w3.heap.size 1 _ 46 (0, 0) hbl5]; rfl
      have d2 : w5.cell? ⟨w3.heap.size, 2, none⟩ = some v2 := by rw [cell_of_row w5 w3.heap.size 2 _ 46 (0, 0) hbl5]; rfl
      have d3 : w5.cell? ⟨w3.heap.size, 3, none⟩ = some v3 := by rw [cell_of_row w5 w3.heap.size 3 _ 46 (0, 0) hbl5]; rfl
      have d4 : w5.cell? ⟨w3.heap.size, 4, none⟩ = some v4 := by rw [cell_of_row w5 w3.heap.size 4 _ 46 (0, 0) hbl5]; rfl
      have d5 : w5.cell? ⟨w3.heap.size, 5, none⟩ = some v5 := by rw [cell_of_row w5 w3.heap.size 5 _ 46 (0, 0) hbl5]; rfl
      have d6 : w5.cell? ⟨w3.heap.size, 6, none⟩ = some v6 := by rw [cell_of_row w5 w3.heap.size 6 _ 46 (0, 0) hbl5]; rfl
      have d7 : w5.cell? ⟨w3.heap.size, 7, none⟩ = some v7 := by rw [cell_of_row w5 w3.heap.size 7 _ 46 (0, 0) hbl5]; rfl
      have d8 : w5.cell? ⟨w3.heap.size, 8, none⟩ = some v8 := by rw [cell_of_row w5 w3.heap.size 8 _ 46 (0, 0) hbl5]; rfl
      have d9 : w5.cell? ⟨w3.heap.size, 9, none⟩ = some v9 := by rw [cell_of_row w5 w3.heap.size 9 _ 46 (0, 0) hbl5]; rfl
      have d10 : w5.cell? ⟨w3.heap.size, 10, none⟩ = some v10 := by rw [cell_of_row w5 w3.heap.size 10 _ 46 (0, 0) hbl5]; rfl
      have d11 : w5.cell? ⟨w3.heap.size, 11, none⟩ = some v11 := by rw [cell_of_row w5 w3.heap.size 11 _ 46 (0, 0) hbl5]; rfl
      clear hbl5 hr5
      have T5 : Hid (St w5 w'.heap.size w'.heap.size key size vch' CH' (k + 1)) := S5
      have R5 : Hid (w5.ownsRow w'.heap.size 48 1 (.slice (some ⟨P, 0, none⟩) k cap) k (ptrsOf CH)) := hrow5
      clear S5 hrow5
      go_upto_region 14 with fail
      go_cut [62] (fun s62 wx => s62 = .bool false ∧ Below w5.heap.size w5 wx)
      case first =>
        go_region_with (go_at_call 26; refine (hsame _).mono ?_; rintro e w6 ⟨rfl, hb6⟩)
        all_goals
          go_wp2
          go_meet
          exact ⟨rfl, ⟨hb6.os, hb6.tape, hb6.output, hb6.size, hb6.block⟩⟩
      case rest =>
      obtain ⟨rfl, hb6⟩ := hcut
      clear c0 c1 c2 c3 c4 c5 c6 c7 c8 c9 c10 c11 d0 d1 d2 d3 d4 d5 d6 d7 d8 d9 d10 d11
      have hrow6 := own_move (w' := wc) R5.out (fun b e => hb6.block b (R5.out.lt b e).2)
      have hsz6 : w'.heap.size ≤ wc.heap.size := Nat.le_trans hb5.size hb6.size
      go_wp2_with (first
        | (at_builtin; (refine wpList_append_lies _ rfl _ _ 39 rfl w'.heap.size 48 i0 (.pointer none) 1 8 Try.underlying39 hi hz0 hz1 hz2 rfl (by decide) _ _ _ rfl (hrow6.alloc _) ⟨wc.heap.size, 0, none⟩ 1 1 [.pointer (some ⟨g, j * 12, none⟩)] rfl rfl (cell_one_new _ _ _) (by intro u hu; simp at hu; subst hu; rfl) (by decide) (by unfold maxLen; omega) (by omega) (by simp; omega) _ rfl ?_; intro P' cap' w7 hown7 hgrow7 hat7 hlt7))
        | fail)
      have I7 := Inv.push T5.out hp5 hf5 hb5 R5.out (hb6.alloc (Nat.le_trans hb6.size (Nat.le_refl _)) _) hown7 hgrow7
      clear hown7 hgrow7 hat7 hlt7 hrow6 T5 R5 hp5 hf5 hb5 hb6
      go_wp2
      go_roundw
      case rel => exact ⟨k + 1, P', cap', _, _, by omega, by go_num, rfl, I7⟩
      case measure => simp [intOf]; omega
    · obtain rfl : k = n := by omega
      have HI : Hid (Inv w' wr w'.heap.size size k key P cap vch CH) := I
      obtain ⟨ao, cm, rfl, hao⟩ := inv_form I
      have z1 : wr.cell? ⟨w'.heap.size, 1, none⟩ = some (.int .i64 k) := by rw [cell_of_row wr w'.heap.size 1 _ 58 (0, 0) I.st.blk]; rfl
      have z0 : wr.cell? ⟨w'.heap.size, 0, none⟩ = some (.slice ao CH.length cm) := by rw [cell_of_row wr w'.heap.size 0 _ 58 (0, 0) I.st.blk]; rfl
      have hao' : Hid (0 < CH.length → ∃ H, ao = some ⟨H, 0, none⟩) := hao
      have hfew := I.few
      have htot : Hid ((ptrsOf CH).length = k) := I.total
      clear I hao
      go_wp2_with (first
        | (go_at_call 27; refine (count_any _ _ _ z1).mono ?_; rintro e w8 ⟨rfl, rfl⟩)
        | (go_at_call 28; refine (chunks_any _ _ _ _ _ z0).mono ?_; rintro e w9 ⟨rfl, rfl⟩)
        | fail)
      clear z0 z1
      go_loopw [13, 14] (fun kk cc wx => ∃ c s : Nat, c ≤ CH.length ∧ cc = .int .i64 c ∧ kk = .int .i64 s ∧ Hid (s = (ptrsOf (CH.take c)).length) ∧ Below w9.heap.size w9 wx) (fun _ cc _ => CH.length - (intOf cc).toNat)
      case atStart => exact ⟨0, 0, by omega, rfl, rfl, rfl, Below.refl _ _⟩
      case round =>
        obtain ⟨c, s, hc, rfl, rfl, hs', hbx⟩ := hrel
        by_cases hlc : c < CH.length
        · obtain ⟨H, rfl⟩ := hao'.out (by omega)
          obtain ⟨pre, g, len, cp, post, hCH0, hpc, htk⟩ := ch_split c hlc
          obtain ⟨q1, q2, q3, q4, q5⟩ := HI.out.chunk hCH0
          rw [hs'.out, htk]
          have hCH : Hid (CH = pre ++ (g, len, cp) :: post) := hCH0
          obtain ⟨sp, hsp⟩ : ∃ sp, (ptrsOf pre).length = sp := ⟨_, rfl⟩
          have HSP : Hid ((ptrsOf pre).length = sp) := hsp
          rw [hsp] at q2 q5
          rw [hsp]
          rw [hpc] at q1
          have hq5 : Hid _ := q5
          have hpcH : Hid (pre.length = c) := hpc
          clear q5 hCH0 hsp hpc htk hs'
          go_wp2
          go_loopw [13, 15] (fun kk ii wy => ∃ i K : Nat, i ≤ len ∧ ii = .int .i64 i ∧ kk = .int .i64 K ∧ K = sp + i ∧ Below w9.heap.size w9 wy) (fun _ ii _ => len - (intOf ii).toNat)
          case atStart => exact ⟨0, sp, by omega, rfl, rfl, rfl, hbx⟩
          case round =>
            obtain ⟨i, K, hi', rfl, rfl, hK, hby⟩ := hrel
            have xh := cell_later hby q1 (lt_of_cell q1)
            by_cases hil : i < len
            · obtain ⟨v0, v1, v2, v3, v4, v5, v6, v7, v8, v9, v10, v11, hv, hsame⟩ := op_named K key
              obtain ⟨p1, p2⟩ := hq5.out i hil
              rw [← hK] at p1 p2
              have lg := lt_of_cell (range12 p2 hv.out).1
              have HL : Hid (∀ wz, Below w9.heap.size w9 wz → wz.cell? ⟨H, c, none⟩ = some (.slice (some ⟨g, 0, none⟩) len cp) ∧ wz.cell? ⟨g, i * 12, none⟩ = some v0 ∧ wz.cell? ⟨g, i * 12 + 1, none⟩ = some v1 ∧ wz.cell? ⟨g, i * 12 + 2, none⟩ = some v2 ∧ wz.cell? ⟨g, i * 12 + 3, none⟩ = some v3 ∧ wz.cell? ⟨g, i * 12 + 4, none⟩ = some v4 ∧ wz.cell? ⟨g, i * 12 + 5, none⟩ = some v5 ∧ wz.cell? ⟨g, i * 12 + 6, none⟩ = some v6 ∧ wz.cell? ⟨g, i * 12 + 7, none⟩ = some v7 ∧ wz.cell? ⟨g, i * 12 + 8, none⟩ = some v8 ∧ wz.cell? ⟨g, i * 12 + 9, none⟩ = some v9 ∧ wz.cell? ⟨g, i * 12 + 10, none⟩ = some v10 ∧ wz.cell? ⟨g, i * 12 + 11, none⟩ = some v11) := fun wz hb => ⟨cell_later hb q1 (lt_of_cell q1), range12 (range_later hb p2 lg) hv.out⟩
              have yp := cell_later hby p1 (lt_of_cell p1)
              obtain ⟨-, e0, e1, e2, e3, e4, e5, e6, e7, e8, e9, e10, e11⟩ := HL.out _ hby
              have hKk : K < k := by omega
              have hic : (i : Int) < cp := by omega
              have HK : Hid (K = sp + i) := hK
              clear p1 p2 lg hK
              obtain ⟨i46, z46, hi46, -, -, -⟩ := info46_parts
              have hneq := fun (w : World) => Lib.run_neq_ptr_same (P := Try.prog) w ⟨g, i * 12, none⟩ Try.underlying48 hi46
              go_upto_region 29 with fail
              go_quiet (fail)
              go_upto_region 31 with fail
              go_cut [113] (fun s113 wx => s113 = .bool false ∧ Below w9.heap.size w9 wx)
              case first =>
                go_region_with (first
                  | (go_at_call 24; refine (opFor_at K _ rfl (by omega) key _).mono ?_; rintro e w10 ⟨rfl, hb10⟩; rw [hv.out]; have hbz := below_via hby hb10; obtain ⟨f, f0, f1, f2, f3, f4, f5, f6, f7, f8, f9, f10, f11⟩ := HL.out _ hbz)
                  | (go_at_call 26; refine (hsame _).mono ?_; rintro e w11 ⟨rfl, hb11⟩)
                  | fail)
                all_goals
                  go_wp2
                  go_meet
                  exact ⟨rfl, hbz.trans (Below.mono ⟨hb11.os, hb11.tape, hb11.output, hb11.size, hb11.block⟩ hbz.size)⟩
              case rest =>
              obtain ⟨rfl, hb11⟩ := hcut
              go_wp2
              go_roundw
              case rel => exact ⟨i + 1, K + 1, by omega, by go_num, by go_num, by rw [HK.out]; omega, hb11⟩
              case measure => simp [intOf]; omega
            · obtain rfl : i = len := by omega
              go_wp2
              go_roundw
              case rel => exact ⟨c + 1, K, by omega, by go_num, rfl, take_next hCH.out hpcH.out HSP.out hK, hby⟩
              case measure => simp [intOf]; omega
        · obtain rfl : c = CH.length := by omega
          rw [hs'.out, List.take_length, htot.out]
          go_wp2
          go_ret
          exact ⟨ret_bool (by simp), HI.out.bel.trans (hbx.mono HI.out.bel.size)⟩
end Go.Proofs.Qxb6000819a
