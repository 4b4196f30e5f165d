/-
  PLAIN: the first loop's invariant and its steps; what the second loop reads.
-/
import Derived.Test.Qxb6000819aZAdd
namespace Go.Proofs.Qxb6000819a
open Go.RowKit

theorem own_move {w w' : World} {B : Nat} {e : TypeId} {v : Value} {n : Nat} {xs : List Value} (h : w.ownsRow B e 1 v n xs) (he : ∀ b, v.ownBlock = some b → w'.heap[b]? = w.heap[b]?) : w'.ownsRow B e 1 v n xs := by
  refine ⟨h.1, ?_⟩
  rcases h.2 with h' | ⟨g, cap, cur, hv, hg, hh, r⟩
  · exact .inl h'
  · exact .inr ⟨g, cap, cur, hv, hg, (he g (by rw [hv]; rfl)).trans hh, r⟩

/-- Behind k rounds. -/
structure Inv (w wk : World) (C size k : Nat) (key : ByteArray) (P cap : Nat) (vch : Value) (CH : List Ch) : Prop where
  st : St wk w.heap.size C key size vch CH k
  few : CH.length ≤ k
  bel : Below w.heap.size w wk
  row : wk.ownsRow w.heap.size 48 1 (.slice (some ⟨P, 0, none⟩) k cap) k (ptrsOf CH)

section
variable {w wk w' : World} {C size k P cap : Nat} {key : ByteArray} {vch : Value} {CH : List Ch}

theorem row_blk {B n : Nat} {xs : List Value} (h : wk.ownsRow B 48 1 (.slice (some ⟨P, 0, none⟩) n cap) n xs) : ∃ cur : Array Value, wk.heap[P]? = some (.cells cur 48 (0, 0)) := by
  rcases h.2 with ⟨hv, _⟩ | ⟨g, c, cur, hv, _, hg, _⟩
  · simp at hv
  · simp only [Value.slice.injEq, Option.some.injEq, Addr.mk.injEq, and_true, true_and] at hv
    obtain ⟨rfl, _⟩ := hv
    exact ⟨cur, hg⟩

theorem not_mods {B n : Nat} {xs : List Value} (h : St wk B C key size vch CH k) (hr : wk.ownsRow B 48 1 (.slice (some ⟨P, 0, none⟩) n cap) n xs) : ¬ Mods C vch CH P := by
  obtain ⟨cur, hP⟩ := row_blk hr
  rintro (rfl | e | e)
  · rw [h.blk] at hP; simp at hP
  · rcases h.row.2 with ⟨hv, _⟩ | ⟨g, cap, cur', hv, _, hg, _⟩
    · rw [hv] at e; cases e
    · rw [hv] at e
      obtain rfl : g = P := by simpa [Value.ownBlock] using e
      rw [hP] at hg; simp at hg
  · obtain ⟨c, hc, rfl⟩ := List.mem_map.1 e
    obtain ⟨_, _, _, _, cu, a5, _⟩ := h.good c hc
    rw [hP] at a5; simp at a5

theorem Inv.below (h : Inv w wk C size k key P cap vch CH) (hb : Below wk.heap.size wk w') : Inv w w' C size k key P cap vch CH :=
  ⟨h.st.below hb, h.few, h.bel.trans (hb.mono h.bel.size), own_move h.row fun b e => hb.block b (h.row.lt b e).2⟩

/-- The add, with the row of pointers. -/
theorem Inv.added {e : Ending} (h : Inv w wk C size k key P cap vch CH) (ha : Added w.heap.size C size k key vch CH wk e w') :
    ∃ g j vch' CH', e = .returned (.pointer (some ⟨g, j * 12, none⟩)) ∧ St w' w.heap.size C key size vch' CH' (k + 1) ∧ ptrsOf CH' = ptrsOf CH ++ [.pointer (some ⟨g, j * 12, none⟩)] ∧ w'.rangeAt g (j * 12) (opA k key).toList ∧ CH'.length ≤ k + 1 ∧
      Below w.heap.size w w' ∧ w'.ownsRow w.heap.size 48 1 (.slice (some ⟨P, 0, none⟩) k cap) k (ptrsOf CH) ∧ (∀ b, b < wk.heap.size → ¬ Mods C vch CH b → w'.heap[b]? = wk.heap[b]?) := by
  obtain ⟨g, j, vch', CH', h1, h2, h3, h4, h5, h6⟩ := ha
  refine ⟨g, j, vch', CH', h1, h2, h3, h4, h5, h.bel.trans (h6.below h.bel.size h.st.mods_ge), own_move h.row fun b e => ?_, h6.block⟩
  have : b = P := by simpa [Value.ownBlock] using e.symm
  subst this
  exact h6.block _ (h.row.lt _ rfl).2 (not_mods h.st h.row)

/-- The pointer is appended. -/
theorem Inv.push {w3 w4 w5 : World} {P' cap' g j : Nat} {vch' : Value} {CH' : List Ch} (h1 : St w3 w.heap.size C key size vch' CH' (k + 1)) (hp : ptrsOf CH' = ptrsOf CH ++ [.pointer (some ⟨g, j * 12, none⟩)]) (h5 : CH'.length ≤ k + 1) (hbel : Below w.heap.size w w3)
    (hrow : w3.ownsRow w.heap.size 48 1 (.slice (some ⟨P, 0, none⟩) k cap) k (ptrsOf CH)) (hb : Below w3.heap.size w3 w4)
    (hown : w5.ownsRow w.heap.size 48 1 (.slice (some ⟨P', 0, none⟩) (k + 1) cap') (k + 1) (ptrsOf CH ++ [.pointer (some ⟨g, j * 12, none⟩)])) (hg : w4.grownBy w5 (some P)) : Inv w w5 C size (k + 1) key P' cap' vch' CH' := by
  have hm := not_mods h1 hrow
  have hPw : w.heap.size ≤ P := (hrow.lt P rfl).1
  refine ⟨h1.move fun b hM => ?_, h5, ?_, by rw [hp]; exact hown⟩
  · have hlt := h1.mods_lt b hM
    rw [hg.block b (Nat.lt_of_lt_of_le hlt hb.size) (fun e => hm (by simp only [Option.some.injEq] at e; rw [← e]; exact hM)), hb.block b hlt]
  · have hb1 := hbel.trans (hb.mono hbel.size)
    exact ⟨hg.os.trans hb1.os, hg.tape.trans hb1.tape, hg.output.trans hb1.output, Nat.le_trans hb1.size hg.size, fun b hb' => by
      rw [hg.block b (Nat.lt_of_lt_of_le hb' hb1.size) (fun e => by simp only [Option.some.injEq] at e; omega)]
      exact hb1.block b hb'⟩

/-- At the start. -/
theorem inv_start {w1 w2 : World} {n : Nat} (hw1 : w1 = w.alloc (.cells #[.slice none 0 0, .int .i64 0, .int .i64 size] 58)) (hrow : w2.ownsRow w.heap.size 48 1 (.slice (some ⟨P, 0, none⟩) 0 n) 0 []) (hg : w1.grownBy w2 none) : Inv w w2 w.heap.size size 0 key P n (.slice none 0 0) [] := by
  have hb1 : Below w.heap.size w w1 := by rw [hw1]; exact (Below.refl _ _).alloc (Nat.le_refl _) _
  have hlt : w.heap.size < w1.heap.size := by rw [hw1]; simp
  refine ⟨⟨Nat.le_refl _, ?_, World.ownsRow_nil _ _ _ _, fun _ => rfl, fun c hc => absurd hc (by simp), by simp, rfl⟩, Nat.le_refl _, ?_, hrow⟩
  · rw [hg.block _ hlt (fun e => by cases e), hw1]
    exact heap_alloc_new w _
  · exact ⟨hg.os.trans hb1.os, hg.tape.trans hb1.tape, hg.output.trans hb1.output, Nat.le_trans hb1.size hg.size, fun b hb' => by
      rw [hg.block b (Nat.lt_of_lt_of_le hb' hb1.size) (fun e => by cases e)]
      exact hb1.block b hb'⟩

/-- The c-th chunk. -/
theorem ch_split (c : Nat) (hc : c < CH.length) : ∃ pre g len cp post, CH = pre ++ (g, len, cp) :: post ∧ pre.length = c ∧ CH.take c = pre := by
  refine ⟨CH.take c, (CH[c]).1, (CH[c]).2.1, (CH[c]).2.2, CH.drop (c + 1), ?_, by simp; omega, rfl⟩
  have : CH[c] :: CH.drop (c + 1) = CH.drop c := (List.drop_eq_getElem_cons hc).symm
  show CH = CH.take c ++ CH[c] :: CH.drop (c + 1)
  rw [this, List.take_append_drop]

/-- What the second loop reads at the chunk c. -/
theorem Inv.chunk {g len cp H cm : Nat} {pre post : List Ch} (h : Inv w wk C size k key P cap (.slice (some ⟨H, 0, none⟩) CH.length cm) CH) (e : CH = pre ++ (g, len, cp) :: post) :
    wk.cell? ⟨H, pre.length, none⟩ = some (.slice (some ⟨g, 0, none⟩) len cp) ∧ (ptrsOf pre).length + len ≤ k ∧ len ≤ cp ∧ cp ≤ 65536 ∧
      ∀ i, i < len → wk.cell? ⟨P, (ptrsOf pre).length + i, none⟩ = some (.pointer (some ⟨g, i * 12, none⟩)) ∧ wk.rangeAt g (i * 12) (opA ((ptrsOf pre).length + i) key).toList := by
  have hops := h.st.ops
  rw [e] at hops
  obtain ⟨m, o1, o2⟩ := opsAt_append.1 hops
  have hm : m = (ptrsOf pre).length := by have := opsAt_len o1; omega
  subst hm
  have hlen := opsAt_len o2.2
  simp only at hlen
  have hgood := h.st.good (g, len, cp) (by rw [e]; simp)
  refine ⟨?_, by omega, hgood.2.1, hgood.2.2.2.1, fun i hi => ⟨?_, o2.1 i hi⟩⟩
  · rw [h.st.row.cellAt pre.length (by rw [e]; simp)]
    rw [e]
    simp [chV]
  · have hk : (ptrsOf pre).length + i < k * 1 := by omega
    rw [h.row.cellAt _ hk, e, ptrsOf_append, List.getElem?_append_right (by omega)]
    simp [ptrsOf, List.getElem?_append, hi]

theorem inv_form (h : Inv w wk C size k key P cap vch CH) : ∃ ao cm, vch = .slice ao CH.length cm ∧ (0 < CH.length → ∃ H, ao = some ⟨H, 0, none⟩) := by
  rcases h.st.form with ⟨e, e'⟩ | ⟨pre, g, len, cap, H, cm, e, e'⟩
  · exact ⟨none, 0, by rw [e', e]; rfl, fun h0 => by rw [e] at h0; simp at h0⟩
  · exact ⟨some ⟨H, 0, none⟩, cm, by rw [e', e]; simp, fun _ => ⟨H, rfl⟩⟩
theorem ret_bool {b : Bool} (h : b = true) : Ending.returned (.bool b) = .returned (.bool true) := by rw [h]
theorem opFor_at (k : Nat) (z : Int) (hz : z = (k : Int)) (hk : k ≤ 99999) (key : ByteArray) (w : World) :
    Calls Try.prog 24 #[.int .i64 z, .string key] w fun e w' => e = .returned (.agg (opA k key)) ∧ Below w.heap.size w w' := by
  subst hz; exact opFor_any k hk key w
theorem take_next {pre post : List Ch} {g len cp c sp K : Nat} (e : CH = pre ++ (g, len, cp) :: post) (hc : pre.length = c) (hsp : (ptrsOf pre).length = sp) (hK : K = sp + len) : K = (ptrsOf (CH.take (c + 1))).length := by
  rw [hK, ← hsp, e, ← hc]
  have : (pre ++ (g, len, cp) :: post).take (pre.length + 1) = pre ++ [(g, len, cp)] := by simp [List.take_append, List.take_of_length_le (show pre.length ≤ pre.length + 1 by omega)]
  rw [this, ptrsOf_append]
  simp [ptrsOf]
theorem Inv.total (h : Inv w wk C size k key P cap vch CH) : (ptrsOf CH).length = k := by have := opsAt_len h.st.ops; omega

/-- Later, where only new blocks have come: the cells stand. -/
theorem cell_later {a b : World} (hb : Below a.heap.size a b) {g o : Nat} {v : Value} (h : a.cell? ⟨g, o, none⟩ = some v) (hg : g < a.heap.size) : b.cell? ⟨g, o, none⟩ = some v := by
  rw [World.cell?_of_block (w := a) (by exact hb.block g hg)]; exact h
theorem lt_of_cell {a : World} {g o : Nat} {v : Value} (h : a.cell? ⟨g, o, none⟩ = some v) : g < a.heap.size := by
  apply Classical.byContradiction
  intro hn
  have : a.heap[g]? = none := Array.getElem?_eq_none (by omega)
  simp [World.cell?, this] at h
theorem range_later {a b : World} (hb : Below a.heap.size a b) {g o : Nat} {cs : List Value} (h : a.rangeAt g o cs) (hg : g < a.heap.size) : b.rangeAt g o cs := rangeAt_of_heap h (hb.block g hg)
end
end Go.Proofs.Qxb6000819a
