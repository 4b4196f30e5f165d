/-
  THE WALK of zzB1OpFor (24): the k-th operation, twelve cells.
-/
import Derived.Test.Qxb6000819aItoa
import Derived.Deep.MidRow
namespace Go.Proofs.Qxb6000819a
open Go.RowKit

/-- The twelve cells of the k-th operation. -/
def opA (k : Nat) (key : ByteArray) : Array Value :=
  #[.int .i64 k, .string ⟨#[119, 114, 105, 116, 101]⟩, .string key, .string (if k % 2 = 1 then ⟨#[105, 110, 102, 111]⟩ else ⟨#[111, 107]⟩), .int .i64 ((k : Int) + 1), .int .i64 ((k : Int) + 2), .string (itoa k), .string key, .bool ((k : Int) % 2 == 0), .string (itoa k), .bool ((k : Int) % 3 == 0), .slice none 0 0]
theorem opA_size (k : Nat) (key : ByteArray) : (opA k key).size = 12 := rfl
theorem opA_one (k : Nat) (key : ByteArray) : (opA k key).all (·.oneCell') = true := by simp [opA, Value.oneCell']
theorem Try.info46 : (Try.prog.info? 46).map (·.size) = some 12 := by kernel_rfl

/-- The cells of a new block of an operation's type, later. -/
theorem there_later {w w1 : World} {C : Array Value} (hC : C.size = 12) (hb : Below (w.alloc (.cells C 46)).heap.size (w.alloc (.cells C 46)) w1) : w1.there w.heap.size 0 12 ∧ w1.heap[w.heap.size]? = some (.cells C 46 (0, 0)) := by
  have h : w1.heap[w.heap.size]? = some (.cells C 46 (0, 0)) := (hb.block _ (by simp)).trans (heap_alloc_new w _)
  refine ⟨fun j hj => ⟨?_, ?_⟩, h⟩
  · rw [cell_of_row w1 w.heap.size _ C 46 (0, 0) h]; simp [hC]; omega
  · exact frozen_of_row w1 w.heap.size _ C 46 h

theorem below_setRow {B g : Nat} {a w : World} (h : Below B a w) (hg : B ≤ g) (cs : Array Value) : Below B a (w.setRow g cs) :=
  h.trans ⟨rfl, rfl, rfl, by simp [World.setRow], fun k hk => setRow_other w g k cs (by omega)⟩

theorem opA_odd (k : Nat) (key : ByteArray) (h : k % 2 = 1) : #[.int .i64 k, .string ⟨#[119, 114, 105, 116, 101]⟩, .string key, .string ⟨#[105, 110, 102, 111]⟩, .int .i64 ((k : Int) + 1), .int .i64 ((k : Int) + 2), .string (itoa k), .string key, .bool ((k : Int) % 2 == 0), .string (itoa k), .bool ((k : Int) % 3 == 0), .slice none 0 0] = opA k key := by
  unfold opA; rw [if_pos h]
theorem opA_even (k : Nat) (key : ByteArray) (h : ¬ k % 2 = 1) : #[.int .i64 k, .string ⟨#[119, 114, 105, 116, 101]⟩, .string key, .string ⟨#[111, 107]⟩, .int .i64 ((k : Int) + 1), .int .i64 ((k : Int) + 2), .string (itoa k), .string key, .bool ((k : Int) % 2 == 0), .string (itoa k), .bool ((k : Int) % 3 == 0), .slice none 0 0] = opA k key := by
  unfold opA; rw [if_neg h]

set_option maxHeartbeats 800000 in
theorem opFor_any (k : Nat) (hk : k ≤ 99999) (key : ByteArray) (w : World) :
    Calls Try.prog 24 #[.int .i64 k, .string key] w fun e w' => e = .returned (.agg (opA k key)) ∧ Below w.heap.size w w' := by
  by_cases hodd : k % 2 = 1
  · have ho : ((k : Int) % 2 == 1) = true := by simp only [beq_iff_eq]; omega
    have hA : Hid _ := opA_odd k key hodd
    clear hodd
    go_enter Try.func24, Try.ntmps24
    go_wp2_with fail
    refine (itoa_any k hk _).mono ?_
    rintro e w1 ⟨rfl, hb⟩
    obtain ⟨hth, hbl⟩ := there_later rfl hb
    have hb' : Below w.heap.size w w1 := ((Below.refl _ _).alloc (Nat.le_refl _) _).trans (hb.mono (by simp))
    clear hb hth
    go_wp2_with (refine wpList_store_row rfl 46 _ _ rfl w.heap.size _ rfl rfl 46 _ hbl Try.info46 rfl (by simp [Value.oneCell']) ?_)
    refine bodyPost_ret (results_cell_row rfl _ _ w.heap.size 46 _ (0, 0) _ rfl (setRow_heap w1 _ _ _ 46 (0, 0) hbl) Try.underlying46 rfl Try.info46) rfl ⟨?_, below_setRow hb' (Nat.le_refl _) _⟩
    rw [hA.out]
  · have ho : ((k : Int) % 2 == 1) = false := beq_eq_false_iff_ne.2 (by omega)
    have hA : Hid _ := opA_even k key hodd
    clear hodd
    go_enter Try.func24, Try.ntmps24
    go_wp2_with fail
    refine (itoa_any k hk _).mono ?_
    rintro e w1 ⟨rfl, hb⟩
    obtain ⟨hth, hbl⟩ := there_later rfl hb
    have hb' : Below w.heap.size w w1 := ((Below.refl _ _).alloc (Nat.le_refl _) _).trans (hb.mono (by simp))
    clear hb hth
    go_wp2_with (refine wpList_store_row rfl 46 _ _ rfl w.heap.size _ rfl rfl 46 _ hbl Try.info46 rfl (by simp [Value.oneCell']) ?_)
    refine bodyPost_ret (results_cell_row rfl _ _ w.heap.size 46 _ (0, 0) _ rfl (setRow_heap w1 _ _ _ 46 (0, 0) hbl) Try.underlying46 rfl Try.info46) rfl ⟨?_, below_setRow hb' (Nat.le_refl _) _⟩
    rw [hA.out]
end Go.Proofs.Qxb6000819a
