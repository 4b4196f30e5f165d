/-
  THE WALK of splitPathList (function 21) and of its exported name (14): what it returns owns the entries of 'ents s'; nothing that was there turns.
-/
import Derived.Test.Qxb6000720aRows
import Derived.Test.Qxb6000720aPlain
import Derived.WalkSpells
import Derived.Outline
namespace Go.Proofs.Qxb6000720a
open Go.RowKit
theorem Try.info9 : (Try.prog.info? 9).map (fun i => (i.zero, i.size, i.bytes)) = some (some (.string ByteArray.empty), 1, 16) := by kernel_rfl

theorem own_snoc {s : ByteArray} {B sn k : Nat} {E : Ents} {w wr w1 : World} {v v' : Value} {o : Obj} (hB : B ≤ wr.heap.size)
    (hown : wr.ownsRow B 9 1 v E.length (E.map (sub s))) (hnx : Below B w wr)
    (hown' : w1.ownsRow B 9 1 v' (E.length + 1) (E.map (sub s) ++ [.string (s.extract sn k)])) (hgrow : (wr.alloc o).grownBy w1 v.ownBlock) :
    w1.ownsRow B 9 1 v' (E ++ [(sn, k)]).length ((E ++ [(sn, k)]).map (sub s)) ∧ Below B w w1 := by
  refine ⟨by simpa [sub] using hown', (hnx.alloc (by omega) o).grown hgrow (by simp; omega) (fun j hj => (hown.lt j hj).1)⟩

theorem first_way {s : ByteArray} {k sn dn : Nat} {E : Ents} (hk : k < s.size) (h : Hid (st s k = (E, sn, dn)))
    (hc : ((s[k].toNat : Int) = 123 ∧ ∀ h : 0 < k, (((s[k - 1]'(by omega)).toNat : Int) == 36) = false) ∨ ((s[k].toNat : Int) = 125 ∧ ¬ 0 < dn) ∨ ((s[k].toNat : Int) = 58 ∧ ((dn : Int) == 0) = false) ∨ (¬ (s[k].toNat : Int) = 123 ∧ ¬ (s[k].toNat : Int) = 125 ∧ ¬ (s[k].toNat : Int) = 58)) :
    Hid (st s (k + 1) = (E, sn, dn)) := by
  rcases hc with ⟨a, b⟩ | ⟨a, b⟩ | ⟨a, b⟩ | ⟨a, b, c⟩
  · exact way_brace hk h a b
  · exact way_closed hk h a b
  · exact way_deep hk h a b
  · exact way_else hk h a b c

set_option maxHeartbeats 1600000 in
theorem split_any (s : ByteArray) (w : World) (hs : s.size ≤ 1048576) :
    Calls Try.prog 21 #[.string s] w fun e w' => ∃ v, e = .returned (.tuple #[v, .bool (((st s s.size).2.2 : Int) == 0)]) ∧ w'.ownsRow w.heap.size 9 1 v (ents s).length ((ents s).map (sub s)) ∧ Below w.heap.size w w' := by
  obtain ⟨i0, hi, hz0, hz1, hz2⟩ := info_parts Try.info9
  go_enter Try.func21, Try.ntmps21
  go_wp2
  go_loopw [2, 4, 5, 6] (fun v st' d i wr => ∃ (k sn dn : Nat) (E : Ents), k ≤ s.size ∧ i = .int .i64 k ∧ st' = .int .i64 sn ∧ d = .int .i64 dn ∧ Hid (st s k = (E, sn, dn)) ∧ wr.ownsRow w.heap.size 9 1 v E.length (E.map (sub s)) ∧ Below w.heap.size w wr ∧ sn ≤ k ∧ dn ≤ k ∧ E.length ≤ k) (fun _ _ _ i _ => s.size - (intOf i).toNat)
  case atStart => exact ⟨0, 0, 0, [], Nat.zero_le _, rfl, rfl, rfl, rfl, World.ownsRow_nil _ _ _ _, Below.refl _ _, Nat.le_refl _, Nat.le_refl _, Nat.le_refl _⟩
  case round =>
    obtain ⟨k, sn, dn, E, hk, rfl, rfl, rfl, hst, hown, hnx, h1, h2, h3⟩ := hrel
    have hsz := hnx.size
    by_cases hlt : k < s.size
    · go_wp2_with (first
        | (at_builtin; refine wpList_append_own _ rfl _ _ 23 rfl w.heap.size 9 i0 (.string ByteArray.empty) 1 16 Try.underlying23 hi hz0 hz1 hz2 rfl (by decide) _ _ _ rfl (hown.alloc _) ⟨wr.heap.size, 0, none⟩ 1 1 [.string (s.extract sn k)] rfl rfl ?c1 ?c2 ?c3 ?c4 ?c5 ?_)
        | fail)
      case c1 => exact cell_one_new _ _ _
      case c2 => intro u hu; simp at hu; subst hu; rfl
      case c3 => unfold maxLen; omega
      case c4 => omega
      case c5 => simp; omega
      all_goals first
        | (intro v' w1 hown' hgrow _
           have R := own_snoc hsz hown hnx hown' hgrow
           have hst' := way_colon hlt hst ‹_› ‹_› ‹_›
           clear hown' hgrow hown hnx
           go_wp2
           go_roundw
           case rel => exact ⟨k + 1, k + 1, dn, E ++ [(sn, k)], by omega, by go_num, by go_num, rfl, hst', R.1, R.2, by omega, by omega, by simp; omega⟩
           case measure => simp [intOf]; omega)
        | skip
      all_goals first
        | (have hst' := way_open hlt hst ‹_› ‹_› ‹_›
           go_roundw
           case rel => exact ⟨k + 1, sn, dn + 1, E, by omega, by go_num, rfl, by go_num, hst', hown, hnx, by omega, by omega, by omega⟩
           case measure => simp [intOf]; omega)
        | (have hst' := way_close hlt hst ‹_› ‹_›
           go_roundw
           case rel => exact ⟨k + 1, sn, dn - 1, E, by omega, by go_num, rfl, by go_num, hst', hown, hnx, by omega, by omega, by omega⟩
           case measure => simp [intOf]; omega)
        | (have hst' := way_colons hlt hst ‹_› ‹_› ‹_›
           go_roundw
           case rel => exact ⟨k + 1, k + 1, dn, E, by omega, by go_num, by go_num, rfl, hst', hown, hnx, by omega, by omega, by omega⟩
           case measure => simp [intOf]; omega)
        | (have hst' := first_way hlt hst (by first | exact .inl ⟨‹_›, fun _ => ‹_›⟩ | exact .inl ⟨‹_›, fun h => absurd h ‹_›⟩ | exact .inr (.inl ⟨‹_›, ‹_›⟩) | exact .inr (.inr (.inl ⟨‹_›, ‹_›⟩)) | exact .inr (.inr (.inr ⟨‹_›, ‹_›, ‹_›⟩)))
           go_roundw
           case rel => exact ⟨k + 1, sn, dn, E, by omega, by go_num, rfl, rfl, hst', hown, hnx, by omega, by omega, by omega⟩
           case measure => simp [intOf]; omega)
    · obtain rfl : k = s.size := by omega
      go_wp2_with (first
        | (at_builtin; refine wpList_append_own _ rfl _ _ 23 rfl w.heap.size 9 i0 (.string ByteArray.empty) 1 16 Try.underlying23 hi hz0 hz1 hz2 rfl (by decide) _ _ _ rfl (hown.alloc _) ⟨wr.heap.size, 0, none⟩ 1 1 [.string (s.extract sn s.size)] rfl rfl ?d1 ?d2 ?d3 ?d4 ?d5 ?_)
        | fail)
      case d1 => exact cell_one_new _ _ _
      case d2 => intro u hu; simp at hu; subst hu; rfl
      case d3 => unfold maxLen; omega
      case d4 => omega
      case d5 => simp; omega
      all_goals have hdd : Hid ((st s s.size).2.2 = dn) := by rw [hst.out]; rfl
      · intro v' w1 hown' hgrow _
        have R := own_snoc hsz hown hnx hown' hgrow
        rw [← way_last hst ‹_›] at R
        clear hown' hgrow hown hnx
        go_wp2
        go_ret2
        exact ⟨_, by rw [hdd.out]; rfl, R⟩
      · have hE := way_none hst ‹_›
        go_ret2
        rw [hE]
        exact ⟨_, by rw [hdd.out]; rfl, hown, hnx⟩

theorem zzsplit_any (s : ByteArray) (w : World) (hs : s.size ≤ 1048576) :
    Calls Try.prog 14 #[.string s] w fun e w' => ∃ v, e = .returned (.tuple #[v, .bool (((st s s.size).2.2 : Int) == 0)]) ∧ w'.ownsRow w.heap.size 9 1 v (ents s).length ((ents s).map (sub s)) ∧ Below w.heap.size w w' := by
  go_enter Try.func14, Try.ntmps14
  go_wp2_with (go_at_call 21; refine (split_any s _ hs).mono ?_; rintro e w' ⟨v, rfl, hown, hb⟩)
  go_ret2
  exact ⟨_, rfl, hown, hb⟩
end Go.Proofs.Qxb6000720a
