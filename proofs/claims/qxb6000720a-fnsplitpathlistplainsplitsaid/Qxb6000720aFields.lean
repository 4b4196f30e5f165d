/-
  THE WALKS of plainFields (18) and sameStrings (16).
-/
import Derived.Test.Qxb6000720aSplit
import Derived.Test.Qxb6000720aFieldsPlain
import Derived.Deep.QuietTactic
import Derived.BigQuiet
namespace Go.Proofs.Qxb6000720a
open Go.RowKit

set_option maxHeartbeats 1600000 in
theorem fields_any (s : ByteArray) (w : World) (hs : s.size ≤ 1048576) :
    Calls Try.prog 18 #[.string s] w fun e w' => ∃ v, e = .returned v ∧ w'.ownsRow w.heap.size 9 1 v (pf s (s.size + 1)).1.length ((pf s (s.size + 1)).1.map (sub s)) ∧ Below w.heap.size w w' := by
  obtain ⟨i0, hi, hz0, hz1, hz2⟩ := info_parts Try.info9
  go_enter Try.func18, Try.ntmps18
  go_wp2
  go_loopw [3, 4, 5] (fun v st' i wr => ∃ (k sn : Nat) (E : Ents), k ≤ s.size + 1 ∧ i = .int .i64 k ∧ st' = .int .i64 sn ∧ Hid (pf s k = (E, sn)) ∧ wr.ownsRow w.heap.size 9 1 v E.length (E.map (sub s)) ∧ Below w.heap.size w wr ∧ sn ≤ k ∧ E.length ≤ k) (fun _ _ i _ => s.size + 1 - (intOf i).toNat)
  case atStart => exact ⟨0, 0, [], Nat.zero_le _, rfl, rfl, rfl, World.ownsRow_nil _ _ _ _, Below.refl _ _, Nat.le_refl _, Nat.le_refl _⟩
  case round =>
    obtain ⟨k, sn, E, hk, rfl, rfl, hst, hown, hnx, h1, h2⟩ := hrel
    have hsz := hnx.size
    by_cases hle : k ≤ s.size
    · by_cases hsn : sn < k
      · by_cases hke : k = s.size
        · subst hke
          have hst' := pf_push hst (.inl rfl) hsn
          go_wp2_with (first
            | (at_builtin; refine wpList_append_own _ rfl _ _ 23 rfl w.heap.size 9 i0 (.string ByteArray.empty) 1 16 Try.underlying23 hi hz0 hz1 hz2 rfl (by decide) _ _ _ rfl (hown.alloc _) ⟨wr.heap.size, 0, none⟩ 1 1 [.string (s.extract sn s.size)] rfl rfl (cell_one_new _ _ _) (by intro u hu; simp at hu; subst hu; rfl) (by unfold maxLen; omega) (by omega) (by simp; omega) ?_)
            | fail)
          intro v' w1 hown' hgrow _
          have R := own_snoc hsz hown hnx hown' hgrow
          clear hown' hgrow hown hnx
          go_wp2
          go_roundw
          case rel => exact ⟨s.size + 1, s.size + 1, E ++ [(sn, s.size)], by omega, by go_num, by go_num, hst', R.1, R.2, by omega, by simp; omega⟩
          case measure => simp [intOf]
        · have hkl : k < s.size := by omega
          have e1 : ((k : Int) == (s.size : Int)) = false := by simp only [beq_eq_false_iff_ne]; omega
          by_cases h58 : bt s k = 58
          · have e2 : ((s[k].toNat : Int) == 58) = true := by rw [← bt_eq s k hkl, h58]; rfl
            have hst' := pf_push hst (.inr h58) hsn
            clear h58
            go_wp2_with (first
              | (at_builtin; refine wpList_append_own _ rfl _ _ 23 rfl w.heap.size 9 i0 (.string ByteArray.empty) 1 16 Try.underlying23 hi hz0 hz1 hz2 rfl (by decide) _ _ _ rfl (hown.alloc _) ⟨wr.heap.size, 0, none⟩ 1 1 [.string (s.extract sn k)] rfl rfl (cell_one_new _ _ _) (by intro u hu; simp at hu; subst hu; rfl) (by unfold maxLen; omega) (by omega) (by simp; omega) ?_)
              | fail)
            intro v' w1 hown' hgrow _
            have R := own_snoc hsz hown hnx hown' hgrow
            clear hown' hgrow hown hnx
            go_wp2
            go_roundw
            case rel => exact ⟨k + 1, k + 1, E ++ [(sn, k)], by omega, by go_num, by go_num, hst', R.1, R.2, by omega, by simp; omega⟩
            case measure => simp [intOf]; omega
          · have e2 : ((s[k].toNat : Int) == 58) = false := by rw [← bt_eq s k hkl]; simp only [beq_eq_false_iff_ne]; omega
            have hst' := pf_on hst (by omega)
            clear h58
            go_wp2
            go_roundw
            case rel => exact ⟨k + 1, sn, E, by omega, by go_num, rfl, hst', hown, hnx, by omega, by omega⟩
            case measure => simp [intOf]; omega
      · by_cases hke : k = s.size
        · subst hke
          have hst' := pf_skip hst (.inl rfl) hsn
          go_wp2
          go_roundw
          case rel => exact ⟨s.size + 1, s.size + 1, E, by omega, by go_num, by go_num, hst', hown, hnx, by omega, by omega⟩
          case measure => simp [intOf]
        · have hkl : k < s.size := by omega
          have e1 : ((k : Int) == (s.size : Int)) = false := by simp only [beq_eq_false_iff_ne]; omega
          by_cases h58 : bt s k = 58
          · have e2 : ((s[k].toNat : Int) == 58) = true := by rw [← bt_eq s k hkl, h58]; rfl
            have hst' := pf_skip hst (.inr h58) hsn
            clear h58
            go_wp2
            go_roundw
            case rel => exact ⟨k + 1, k + 1, E, by omega, by go_num, by go_num, hst', hown, hnx, by omega, by omega⟩
            case measure => simp [intOf]; omega
          · have e2 : ((s[k].toNat : Int) == 58) = false := by rw [← bt_eq s k hkl]; simp only [beq_eq_false_iff_ne]; omega
            have hst' := pf_on hst (by omega)
            clear h58
            go_wp2
            go_roundw
            case rel => exact ⟨k + 1, sn, E, by omega, by go_num, rfl, hst', hown, hnx, by omega, by omega⟩
            case measure => simp [intOf]; omega
    · obtain rfl : k = s.size + 1 := by omega
      have hE : Hid ((pf s (s.size + 1)).1 = E) := by rw [hst.out]; rfl
      go_wp2
      go_ret
      rw [hE.out]
      exact ⟨_, rfl, hown, hnx⟩

set_option maxHeartbeats 1600000 in
theorem same_none (n : Nat) (hn : n = 0) (a b : Option Addr) (ca cb : Nat) (w : World) : Calls Try.prog 16 #[.slice a n ca, .slice b n cb] w fun e w' => e = .returned (.bool true) ∧ w' = w := by
  subst hn
  go_enter Try.func16, Try.ntmps16
  go_wp2
  refine wp_loop_rounds 1 ?_
  rw [rounds_succ]
  go_wp2
  go_ret
  exact ⟨rfl, rfl⟩

set_option maxHeartbeats 1600000 in
theorem same_some (n g h ca cb : Nat) (s : ByteArray) (E : Ents) (hE : E.length = n) (hn : n ≤ 9223372036854775807) (w : World)
    (hg : Hid (∀ k, k < n → w.cell? ⟨g, k, none⟩ = (E.map (sub s))[k]?)) (hh : Hid (∀ k, k < n → w.cell? ⟨h, k, none⟩ = (E.map (sub s))[k]?)) :
    Calls Try.prog 16 #[.slice (some ⟨g, 0, none⟩) n ca, .slice (some ⟨h, 0, none⟩) n cb] w fun e w' => e = .returned (.bool true) ∧ ∃ m, w' = w.drewN m := by
  have HE : Hid (E.length = n) := hE
  clear hE
  go_enter Try.func16, Try.ntmps16
  go_wp2
  go_loopw [5] (fun i wr => ∃ k m : Nat, k ≤ n ∧ i = .int .i64 k ∧ wr = w.drewN m) (fun i _ => n - (intOf i).toNat)
  case atStart => exact ⟨0, 0, Nat.zero_le _, rfl, rfl⟩
  case round =>
    obtain ⟨k, m, hk, rfl, rfl⟩ := hrel
    by_cases hlt : k < n
    · have hx : ∃ x : ByteArray, (E.map (sub s))[k]? = some (.string x) := by
        have := HE.out
        refine ⟨s.extract (E[k]'(by omega)).1 (E[k]'(by omega)).2, ?_⟩
        rw [List.getElem?_map, List.getElem?_eq_getElem (by omega)]
        rfl
      obtain ⟨x, hx⟩ := hx
      have c1 := (hg.out k hlt).trans hx
      have c2 := (hh.out k hlt).trans hx
      clear hx
      go_wp2
      go_quiet (fail)
      go_wp2
      go_roundw
      case rel => exact ⟨k + 1, m + nq, by omega, by go_num, rfl⟩
      case measure => simp [intOf]; omega
    · go_wp2
      go_ret
      exact ⟨rfl, m, rfl⟩
end Go.Proofs.Qxb6000720a
