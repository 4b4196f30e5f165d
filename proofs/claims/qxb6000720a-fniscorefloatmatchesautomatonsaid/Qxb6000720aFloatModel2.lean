/-
  THE WALKS of isNaNWord (12), coreFloatModel (10), zzBytes (8), leadingDigits (22).
-/
import Derived.Test.Qxb6000720aFloatModel
import Derived.Lib.IndexBytes
namespace Go.Proofs.Qxb6000720a
open Go.RowKit

def nan (l : Bs) : Bool := l == [46, 110, 97, 110] || (l == [46, 78, 97, 78] || l == [46, 78, 65, 78])
def inf (l : Bs) : Bool := l == [46, 105, 110, 102] || (l == [46, 73, 110, 102] || l == [46, 73, 78, 70])
def core (l : Bs) : Bool := nan l || (inf (strip l) || num (strip l))

theorem nan_no {l : Bs} (h : nan l = false) : (l == [46, 110, 97, 110]) = false ∧ (l == [46, 78, 97, 78]) = false ∧ (l == [46, 78, 65, 78]) = false := by
  simpa only [nan, Bool.or_eq_false_iff] using h
theorem inf_no {l : Bs} (h : inf l = false) : (l == [46, 105, 110, 102]) = false ∧ (l == [46, 73, 110, 102]) = false ∧ (l == [46, 73, 78, 70]) = false := by
  simpa only [inf, Bool.or_eq_false_iff] using h
theorem nan_yes {l : Bs} (h : nan l = true) : l = [46, 110, 97, 110] ∨ l = [46, 78, 97, 78] ∨ l = [46, 78, 65, 78] := by
  simpa only [nan, Bool.or_eq_true, beq_iff_eq] using h
theorem inf_yes {l : Bs} (h : inf l = true) : l = [46, 105, 110, 102] ∨ l = [46, 73, 110, 102] ∨ l = [46, 73, 78, 70] := by
  simpa only [inf, Bool.or_eq_true, beq_iff_eq] using h

theorem nan_any (s : ByteArray) (w : World) : Calls Try.prog 12 #[.string s] w fun e w' => e = .returned (.bool (nan s.toList)) ∧ w' = w := by
  cases hn : nan s.toList
  · obtain ⟨h1, h2, h3⟩ := nan_no hn
    clear hn
    go_enter Try.func12, Try.ntmps12
    go_wp2
    go_ret
    exact ⟨rfl, rfl⟩
  · rcases nan_yes hn with h | h | h
    all_goals
      clear hn
      go_enter Try.func12, Try.ntmps12
      go_wp2
      go_ret
      exact ⟨rfl, rfl⟩

theorem bytes8_yes (s : ByteArray) (w : World) (hs : s.size ≤ 1048576) : Calls Try.prog 8 #[.string s] w fun e w' => e = .returned (.bool true) ∧ w' = w := by
  go_enter Try.func8, Try.ntmps8
  go_wp2
  go_ret
  exact ⟨rfl, rfl⟩
theorem bytes8_no (s : ByteArray) (w : World) (hs : 1048576 < s.size) : Calls Try.prog 8 #[.string s] w fun e w' => e = .returned (.bool false) ∧ w' = w := by
  go_enter Try.func8, Try.ntmps8
  go_wp2
  go_ret
  exact ⟨rfl, rfl⟩

theorem drop_at (t : ByteArray) (k : Nat) (h : k < t.size) : t.data.toList.drop k = t[k] :: t.data.toList.drop (k + 1) := by
  rw [List.drop_eq_getElem_cons (by simpa using h)]
  rfl
theorem ld_le (l : Bs) : ld l ≤ l.length := by
  unfold ld
  exact (List.takeWhile_sublist _).length_le

set_option maxHeartbeats 800000 in
theorem ld_any (t : ByteArray) (w : World) (ht : t.size ≤ 1048576) : Calls Try.prog 22 #[.string t] w fun e w' => e = .returned (.int .i64 (ld t.data.toList)) ∧ w' = w := by
  go_enter Try.func22, Try.ntmps22
  go_wp2
  go_loop [3] (fun n => ∃ k : Nat, k ≤ t.size ∧ n = .int .i64 k ∧ Hid (ld t.data.toList = k + ld (t.data.toList.drop k))) (fun n => t.size - (intOf n).toNat)
  case atStart => exact ⟨0, Nat.zero_le _, rfl, by unfold Hid; simp⟩
  case round =>
    obtain ⟨k, hk, rfl, hi⟩ := hrel
    by_cases hlt : k < t.size
    · have hd := drop_at t k hlt
      cases hc : isd t[k]
      · have hc' := (isd_iff' _).1 hc
        have HE : Hid (ld t.data.toList = k) := by unfold Hid; rw [hi.out, hd, ld_other hc]; rfl
        clear hd hc
        by_cases h48 : 48 ≤ (t[k].toNat : Int)
        · have h57 : ¬ (t[k].toNat : Int) ≤ 57 := fun h => hc' ⟨h48, h⟩
          clear hc'
          go_wp2
          go_ret
          exact ⟨ret_int (by rw [HE.out]), rfl⟩
        · clear hc'
          go_wp2
          go_ret
          exact ⟨ret_int (by rw [HE.out]), rfl⟩
      · obtain ⟨h48, h57⟩ := (isd_iff _).1 hc
        have HE : Hid (ld t.data.toList = (k + 1) + ld (t.data.toList.drop (k + 1))) := by unfold Hid; rw [hi.out, hd, ld_digit hc]; omega
        clear hd hc
        go_wp2
        go_round
        case rel => exact ⟨k + 1, by omega, by go_num, HE⟩
        case measure => simp [intOf]; omega
    · have HE : Hid (ld t.data.toList = k) := by unfold Hid; rw [hi.out, List.drop_eq_nil_of_le (by simp; omega)]; rfl
      go_wp2
      go_ret
      exact ⟨ret_int (by rw [HE.out]), rfl⟩

theorem take_snoc (s : ByteArray) (k : Nat) (h : k < s.size) : s.data.toList.take (k + 1) = s.data.toList.take k ++ [s[k]] := by
  rw [List.take_succ_eq_append_getElem (by simpa using h)]; rfl

theorem stepA_range (q c : Int) : -1 ≤ stepA q c ∧ stepA q c ≤ 7 := by unfold stepA; omega
theorem fold_range (q : Int) (l : Bs) (h : -1 ≤ q ∧ q ≤ 7) : -1 ≤ fold q l ∧ fold q l ≤ 7 := by
  induction l generalizing q with
  | nil => exact h
  | cons c l ih => rw [fold_cons]; exact ih _ (stepA_range _ _)

/-- How a text begins: empty; a plus; a minus; neither. 'T': what is left behind the sign. -/
theorem head_cases (s : ByteArray) :
    (s.size = 0 ∧ s.toList.isEmpty = true ∧ s.toList = strip s.data.toList) ∨
    (∃ h : 0 < s.size, s.toList.isEmpty = false ∧ ((s[0]'h).toNat : Int) = 43 ∧ (s.extract 1 s.size).toList = strip s.data.toList) ∨
    (∃ h : 0 < s.size, s.toList.isEmpty = false ∧ ((s[0]'h).toNat : Int) = 45 ∧ (s.extract 1 s.size).toList = strip s.data.toList) ∨
    (∃ h : 0 < s.size, s.toList.isEmpty = false ∧ (((s[0]'h).toNat : Int) == 43) = false ∧ (((s[0]'h).toNat : Int) == 45) = false ∧ s.toList = strip s.data.toList) := by
  have he : (s.extract 1 s.size).toList = s.data.toList.drop 1 := by rw [ByteArray.toList_eq, Lib.extract_to_end]
  rw [he, ByteArray.toList_eq]
  by_cases h : 0 < s.size
  · have hd := drop_at s 0 h
    rw [List.drop_zero] at hd
    have h1 : s.data.toList.isEmpty = false := by rw [hd]; rfl
    have h2 : s.data.toList.drop 1 = s.data.toList.drop (0 + 1) := rfl
    by_cases h43 : ((s[0]'h).toNat : Int) = 43
    · refine .inr (.inl ⟨h, h1, h43, ?_⟩)
      conv => rhs; rw [hd, strip, if_pos ((sign_iff _).2 (.inl h43))]
    · by_cases h45 : ((s[0]'h).toNat : Int) = 45
      · refine .inr (.inr (.inl ⟨h, h1, h45, ?_⟩))
        conv => rhs; rw [hd, strip, if_pos ((sign_iff _).2 (.inr h45))]
      · refine .inr (.inr (.inr ⟨h, h1, beq_eq_false_iff_ne.2 h43, beq_eq_false_iff_ne.2 h45, ?_⟩))
        conv => rhs; rw [hd, strip, if_neg (fun q => by rcases (sign_iff _).1 q with q | q <;> contradiction)]
        exact hd
  · have hz : s.size = 0 := by omega
    have hl : s.data.toList = [] := List.eq_nil_of_length_eq_zero hz
    exact .inl ⟨hz, by rw [hl]; rfl, by rw [hl]; rfl⟩

theorem acc_last {s : ByteArray} {k : Nat} {q : Int} (h : Hid (fold 0 (s.data.toList.take k) = q)) (hq : k = s.size ∨ q = -1) : run 0 s.data.toList = acc q := by
  unfold Hid at h
  unfold run
  rcases hq with rfl | rfl
  · rw [List.take_of_length_le (show s.data.toList.length ≤ s.size from Nat.le_refl _)] at h
    rw [h]
  · rw [← List.take_append_drop k s.data.toList, fold_dead_append _ _ _ h]

theorem acc2 {q : Int} (h : q = 2) : true = acc q := by rw [h]; rfl
theorem acc4 {q : Int} (h : q = 4) : true = acc q := by rw [h]; rfl

set_option maxHeartbeats 1600000 in
theorem model_any (s : ByteArray) (w : World) (hs : s.size ≤ 1048576) :
    Calls Try.prog 10 #[.string s] w fun e w' => e = .returned (.bool (nan s.toList || (inf (strip s.data.toList) || run 0 s.data.toList))) ∧ w' = w := by
  cases hn : nan s.toList
  · have hnan := fun w => nan_any s w
    rw [hn] at hnan
    cases hi : inf (strip s.data.toList)
    · simp only [Bool.false_or]
      have HI : Hid (inf (strip s.data.toList) = false) := hi
      have hnan' : Hid (∀ w, _) := hnan
      clear hi hn hnan
      rcases head_cases s with ⟨h0, he, hT⟩ | ⟨h0, he, hc, hT⟩ | ⟨h0, he, hc, hT⟩ | ⟨h0, he, hc, hc', hT⟩
      all_goals
        obtain ⟨f1, f2, f3⟩ := inf_no HI.out
        rw [← hT] at f1 f2 f3
        clear hT HI
        go_enter Try.func10, Try.ntmps10
        go_wp2_with (go_at_call 12; refine (hnan'.out _).mono ?_; rintro e w' ⟨rfl, rfl⟩)
        go_loop [4, 5] (fun q' i => ∃ (k : Nat) (q : Int), k ≤ s.size ∧ i = .int .i64 k ∧ q' = .int .i64 q ∧ Hid (fold 0 (s.data.toList.take k) = q) ∧ -1 ≤ q ∧ q ≤ 7) (fun _ i => s.size - (intOf i).toNat)
        case atStart => exact ⟨0, 0, Nat.zero_le _, rfl, rfl, rfl, by decide, by decide⟩
        case round =>
          obtain ⟨k, q, hk, rfl, rfl, hf, hq1, hq2⟩ := hrel
          by_cases hlt : k < s.size
          · by_cases hq0 : 0 ≤ q
            · first
                | (exfalso; omega)
                | (have hf' : Hid (fold 0 (s.data.toList.take (k + 1)) = stepA q s[k].toNat) := by unfold Hid; rw [take_snoc s k hlt, fold_snoc, hf.out]
                   have hr := stepA_range q s[k].toNat
                   go_wp2_with (go_at_call 20; refine (step_any _ _ _).mono ?_; rintro e w' ⟨rfl, rfl⟩)
                   go_round
                   case rel => exact ⟨k + 1, _, by omega, by go_num, rfl, hf', hr.1, hr.2⟩
                   case measure => simp [intOf]; omega)
            · have hrun : Hid (run 0 s.data.toList = acc q) := acc_last hf (.inr (by omega))
              go_wp2
              all_goals
                go_ret
                exact ⟨ret_bool (by rw [hrun.out]; first | exact acc2 ‹_› | exact acc4 ‹_› | rfl), rfl⟩
          · have hrun : Hid (run 0 s.data.toList = acc q) := acc_last hf (.inl (by omega))
            go_wp2
            all_goals
              go_ret
              exact ⟨ret_bool (by rw [hrun.out]; first | exact acc2 ‹_› | exact acc4 ‹_› | rfl), rfl⟩
    · simp only [Bool.true_or, Bool.false_or]
      have HI : Hid (inf (strip s.data.toList) = true) := hi
      have hnan' : Hid (∀ w, _) := hnan
      clear hi hn hnan
      rcases head_cases s with ⟨h0, he, hT⟩ | ⟨h0, he, hc, hT⟩ | ⟨h0, he, hc, hT⟩ | ⟨h0, he, hc, hc', hT⟩
      all_goals
        rcases inf_yes HI.out with h | h | h
        all_goals
          rw [h] at hT
          clear HI h
          first
            | (exfalso; rw [hT] at he; exact absurd he (by decide))
            | (go_enter Try.func10, Try.ntmps10
               go_wp2_with (go_at_call 12; refine (hnan'.out _).mono ?_; rintro e w' ⟨rfl, rfl⟩)
               go_ret
               exact ⟨rfl, rfl⟩)
  · go_enter Try.func10, Try.ntmps10
    go_wp2_with (go_at_call 12; refine (nan_any s _).mono ?_; rw [hn]; rintro e w' ⟨rfl, rfl⟩)
    go_ret
    exact ⟨rfl, rfl⟩
end Go.Proofs.Qxb6000720a
