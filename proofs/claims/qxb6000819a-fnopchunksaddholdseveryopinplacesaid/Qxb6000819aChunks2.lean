/-
  PLAIN: the two steps of an add: a new chunk; one operation more in the last one.
-/
import Derived.Test.Qxb6000819aChunks
namespace Go.Proofs.Qxb6000819a
open Go.RowKit

/-- A NEW CHUNK. -/
theorem new_chunk {w w2 w3 : World} {B C size k g cap H cm : Nat} {key : ByteArray} {vch : Value} {CH : List Ch} {mk : Array Value} (h : St w B C key size vch CH k)
    (hb : Below w.heap.size w w2) (hg : w2.heap[g]? = some (.cells mk 46 (0, 0))) (hmk : mk.size = cap * 12) (hgn : w.heap.size ≤ g) (h1 : 1 ≤ cap) (h2 : cap ≤ 65536) (hBw : B ≤ w.heap.size)
    (hown : w3.ownsRow B 54 1 (.slice (some ⟨H, 0, none⟩) (CH.length + 1) cm) (CH.length + 1) (CH.map chV ++ [chV (g, 0, cap)])) (hgrow : w2.grownBy w3 vch.ownBlock) (hat : vch.ownBlock = some H ∨ w2.heap.size ≤ H) :
    St (w3.setCell ⟨C, 0, none⟩ (.slice (some ⟨H, 0, none⟩) (CH.length + 1) cm)) B C key size (.slice (some ⟨H, 0, none⟩) (CH.length + 1) cm) (CH ++ [(g, 0, cap)]) k ∧
      Kept (Mods C vch CH) w (w3.setCell ⟨C, 0, none⟩ (.slice (some ⟨H, 0, none⟩) (CH.length + 1) cm)) := by
  have hCw := h.ltC
  have hCH : C ≠ H := by
    rcases hat with e | e
    · intro e'; exact h.own_ne (by rw [e, e'])
    · have := hb.size; omega
  have hgC : g ≠ C := by omega
  have hg2 : g < w2.heap.size := (Array.getElem?_eq_some_iff.1 hg).1
  have hgrow_at : ∀ b, b < w2.heap.size → vch.ownBlock ≠ some b → w3.heap[b]? = w2.heap[b]? := fun b hlt hne => hgrow.block b hlt (fun e => hne e.symm)
  have hgown : vch.ownBlock ≠ some g := fun e => by have := (h.row.lt g e).2; omega
  have hset : ∀ b, b ≠ C → (w3.setCell ⟨C, 0, none⟩ (.slice (some ⟨H, 0, none⟩) (CH.length + 1) cm)).heap[b]? = w3.heap[b]? := fun b hne => Below.heap_setCell _ _ _ _ hne
  have hold : ∀ c ∈ CH, (w3.setCell ⟨C, 0, none⟩ (.slice (some ⟨H, 0, none⟩) (CH.length + 1) cm)).heap[c.1]? = w.heap[c.1]? := fun c hc => by
    have hlt := (h.good c hc).lt
    obtain ⟨n1, n2⟩ := h.ch_ne c hc
    rw [hset c.1 n1, hgrow_at c.1 (Nat.lt_of_lt_of_le hlt hb.size) n2, hb.block c.1 hlt]
  have hC3 : w3.heap[C]? = some (.cells #[vch, .int .i64 k, .int .i64 size] 58 (0, 0)) := by
    rw [hgrow_at C (Nat.lt_of_lt_of_le hCw hb.size) h.own_ne, hb.block C hCw]; exact h.blk
  refine ⟨⟨h.hB, ?_, ?_, fun e => absurd e (by simp), fun c hc => ?_, ?_, ?_⟩, ?_⟩
  · rw [heap_setCell_same w3 C 0 _ 58 _ hC3]; rfl
  · have : w3.ownsRow B 54 1 (.slice (some ⟨H, 0, none⟩) (CH.length + 1) cm) (CH ++ [(g, 0, cap)]).length ((CH ++ [(g, 0, cap)]).map chV) := by simpa using hown
    refine ⟨this.1, ?_⟩
    rcases this.2 with ⟨hv, _⟩ | ⟨g', cap', cur, hv, hg', hh, r⟩
    · simp at hv
    · simp only [Value.slice.injEq, Option.some.injEq, Addr.mk.injEq, and_true] at hv
      obtain ⟨rfl, _, rfl⟩ := hv
      exact .inr ⟨H, cm, cur, by simp, hg', by rw [hset H (fun e => hCH e.symm)]; exact hh, r⟩
  · rcases List.mem_append.1 hc with hc | hc
    · obtain ⟨a1, a2, a3, a4, cur, a5, a6⟩ := h.good c hc
      exact ⟨a1, a2, a3, a4, cur, (hold c hc).trans a5, a6⟩
    · obtain rfl : c = (g, 0, cap) := by simpa using hc
      exact ⟨by show B ≤ g; omega, Nat.zero_le _, h1, h2, mk, by show (w3.setCell _ _).heap[g]? = _; rw [hset g hgC, hgrow_at g hg2 hgown]; exact hg, hmk⟩
  · rw [List.map_append, List.map_cons, List.map_nil, List.nodup_append]
    refine ⟨h.nodup, by simp, fun a ha b hb' => ?_⟩
    obtain ⟨c, hc, rfl⟩ := List.mem_map.1 ha
    have hlt := (h.good c hc).lt
    have : b = g := by simpa using hb'
    omega
  · refine opsAt_append.2 ⟨k, opsAt_of_heap h.ops hold, ?_⟩
    exact ⟨fun j hj => absurd hj (Nat.not_lt_zero _), rfl⟩
  · exact ((Kept.of_below hb).grown hgrow (fun x hx => .inl (.inr (.inl hx)))).setCell (.inl (.inl rfl)) _

/-- What the walk reads off the state where the last chunk has room. -/
theorem St.last {w : World} {B C size k g len cap H cm : Nat} {key : ByteArray} {pre : List Ch} (h : St w B C key size (.slice (some ⟨H, 0, none⟩) (pre.length + 1) cm) (pre ++ [(g, len, cap)]) k) :
    w.cell? ⟨C, 0, none⟩ = some (.slice (some ⟨H, 0, none⟩) (pre.length + 1) cm) ∧ w.cell? ⟨C, 1, none⟩ = some (.int .i64 k) ∧ w.frozen? ⟨C, 0, none⟩ = false ∧ w.frozen? ⟨C, 1, none⟩ = false ∧ w.cell? ⟨C, 2, none⟩ = some (.int .i64 size) ∧
    w.cell? ⟨H, pre.length, none⟩ = some (.slice (some ⟨g, 0, none⟩) len cap) ∧ w.frozen? ⟨H, pre.length, none⟩ = false ∧ (len < cap → w.there g (len * 12) 12) ∧
    C < w.heap.size ∧ H < w.heap.size ∧ g < w.heap.size ∧ C ≠ H ∧ C ≠ g ∧ H ≠ g ∧ 1 ≤ cap ∧ cap ≤ 65536 ∧ len ≤ cap := by
  have hrow : w.ownsRow B 54 1 (.slice (some ⟨H, 0, none⟩) (pre.length + 1) cm) (pre.length + 1) ((pre ++ [(g, len, cap)]).map chV) := by simpa using h.row
  obtain ⟨g1, g2, g3, g4, cur, g5, g6⟩ := h.good (g, len, cap) (by simp)
  obtain ⟨n1, n2⟩ := h.ch_ne (g, len, cap) (by simp)
  have hC := h.blk
  refine ⟨?_, ?_, frozen_of_row w C 0 _ 58 hC, frozen_of_row w C 1 _ 58 hC, ?_, ?_, hrow.frozenAt _, fun hl j hj => ⟨?_, frozen_of_row w g _ cur 46 g5⟩, h.ltC, (hrow.lt H rfl).2, (h.good (g, len, cap) (by simp)).lt, fun e => h.own_ne (by rw [e]; rfl), fun e => n1 e.symm, fun e => n2 (by rw [← e]; rfl), g3, g4, g2⟩
  · rw [cell_of_row w C 0 _ 58 (0, 0) hC]; rfl
  · rw [cell_of_row w C 1 _ 58 (0, 0) hC]; rfl
  · rw [cell_of_row w C 2 _ 58 (0, 0) hC]; rfl
  · rw [hrow.cellAt pre.length (by omega)]
    simp [chV]
  · rw [cell_of_row w g _ cur 46 (0, 0) g5]
    have : len * 12 + j < cur.size := by simp only at g6; omega
    simp [this]

/-- ONE OPERATION MORE IN THE LAST CHUNK. -/
def addW (w : World) (o : Obj) (g lo : Nat) (L : List Value) (H p : Nat) (v : Value) (C : Nat) (k : Nat) : World :=
  (((w.alloc o).drew.setCells g lo L).setCell ⟨H, p, none⟩ v).setCell ⟨C, 1, none⟩ (.int .i64 ((k : Int) + 1))
theorem addW_heap (w : World) (o : Obj) (g lo : Nat) (L : List Value) (H p : Nat) (v : Value) (C : Nat) (k b : Nat) (h1 : b ≠ C) : (addW w o g lo L H p v C k).heap[b]? = (((w.alloc o).drew.setCells g lo L).setCell ⟨H, p, none⟩ v).heap[b]? := Below.heap_setCell _ _ _ _ h1
theorem addW_heap2 (w : World) (o : Obj) (g lo : Nat) (L : List Value) (H p : Nat) (v : Value) (C : Nat) (k b : Nat) (h1 : b ≠ C) (h2 : b ≠ H) : (addW w o g lo L H p v C k).heap[b]? = ((w.alloc o).drew.setCells g lo L).heap[b]? :=
  (addW_heap w o g lo L H p v C k b h1).trans (Below.heap_setCell _ _ _ _ h2)

theorem add_op {w : World} {B C size k g len cap H cm : Nat} {key : ByteArray} {pre : List Ch} (h : St w B C key size (.slice (some ⟨H, 0, none⟩) (pre.length + 1) cm) (pre ++ [(g, len, cap)]) k) (hl : len < cap) (o : Obj)
    (L : List Value) (hL : L.length = 12) (hLe : (opA k key).toList = L) (W : World) (hW : W = addW w o g (len * 12) L H pre.length (.slice (some ⟨g, 0, none⟩) (len + 1) cap) C k) :
    St W B C key size (.slice (some ⟨H, 0, none⟩) (pre.length + 1) cm) (pre ++ [(g, len + 1, cap)]) (k + 1) ∧ W.rangeAt g (len * 12) L ∧
      Kept (Mods C (.slice (some ⟨H, 0, none⟩) (pre.length + 1) cm) (pre ++ [(g, len, cap)])) w W := by
  obtain ⟨_, _, _, _, _, _, _, hth, hC, hH, hg, n1, n2, n3, c1, c2, _⟩ := h.last
  have hWb : ∀ b, b < w.heap.size → b ≠ C → b ≠ H → b ≠ g → W.heap[b]? = w.heap[b]? := fun b hb a1 a2 a3 => by
    rw [hW, addW_heap2 w o g _ L H _ _ C k b a1 a2, heap_setCells_other g _ _ _ b a3]
    exact Below.heap_alloc w o b hb
  have hWC : W.heap[C]? = some (.cells #[.slice (some ⟨H, 0, none⟩) (pre.length + 1) cm, .int .i64 ((k : Int) + 1), .int .i64 size] 58 (0, 0)) := by
    have h0 : ((((w.alloc o).drew.setCells g (len * 12) L).setCell ⟨H, pre.length, none⟩ (.slice (some ⟨g, 0, none⟩) (len + 1) cap))).heap[C]? = some (.cells #[.slice (some ⟨H, 0, none⟩) (pre.length + 1) cm, .int .i64 k, .int .i64 size] 58 (0, 0)) := by
      rw [Below.heap_setCell _ _ _ _ n1, heap_setCells_other g _ _ _ C n2]
      exact (Below.heap_alloc w o C hC).trans h.blk
    rw [hW]
    exact heap_setCell_same _ C 1 _ 58 _ h0
  obtain ⟨g1, g2, g3, g4, cur, g5, g6⟩ := h.good (g, len, cap) (by simp)
  obtain ⟨cur', hc1, hc2⟩ := heap_setCells_same g 46 L (len * 12) (w.alloc o).drew cur ((Below.heap_alloc w o g hg).trans g5)
  have hWg0 : W.heap[g]? = ((w.alloc o).drew.setCells g (len * 12) L).heap[g]? := by
    rw [hW]
    exact addW_heap2 w o g _ L H _ _ C k g (fun e => n2 e.symm) (fun e => n3 e.symm)
  have hWg : W.heap[g]? = some (.cells cur' 46 (0, 0)) := hWg0.trans hc1
  have hth' : (w.alloc o).drew.there g (len * 12) 12 := World.there_alloc (hth hl) o
  have hnew : W.rangeAt g (len * 12) L := rangeAt_of_heap (World.rangeAt_setCells_same _ g (len * 12) _ (by rw [hL]; exact hth')) hWg0
  have hrow : w.ownsRow B 54 1 (.slice (some ⟨H, 0, none⟩) (pre.length + 1) cm) (pre.length + 1) ((pre ++ [(g, len, cap)]).map chV) := by simpa using h.row
  have hpre : ∀ c ∈ pre, W.heap[c.1]? = w.heap[c.1]? := fun c hc => by
    obtain ⟨a1, a2⟩ := h.ch_ne c (by simp [hc])
    refine hWb c.1 (h.good c (by simp [hc])).lt a1 (fun e => a2 (by rw [e]; rfl)) (fun e => ?_)
    have hn := h.nodup
    rw [List.map_append, List.nodup_append] at hn
    exact hn.2.2 c.1 (List.mem_map_of_mem hc) g (by simp) e
  refine ⟨⟨h.hB, ?_, ?_, fun e => absurd e (by simp), fun c hc => ?_, ?_, ?_⟩, hnew, ?_⟩
  · rw [hWC]; simp
  · have hrw : ((w.alloc o).drew.setCells g (len * 12) L).ownsRow B 54 1 (.slice (some ⟨H, 0, none⟩) (pre.length + 1) cm) (pre.length + 1) ((pre ++ [(g, len, cap)]).map chV) := by
      refine ⟨hrow.1, ?_⟩
      rcases hrow.2 with ⟨hv, _⟩ | ⟨g', cap', cur0, hv, hg', hh, r⟩
      · simp at hv
      · simp only [Value.slice.injEq, Option.some.injEq, Addr.mk.injEq, and_true, true_and] at hv
        obtain ⟨rfl, rfl⟩ := hv
        exact .inr ⟨H, cm, cur0, rfl, hg', by rw [heap_setCells_other g _ _ _ H n3]; exact (Below.heap_alloc w o H hH).trans hh, r⟩
    have hst := (hrw.stored pre.length (.slice (some ⟨g, 0, none⟩) (len + 1) cap)).1
    have e : ((pre ++ [(g, len, cap)]).map chV).set pre.length (.slice (some ⟨g, 0, none⟩) (len + 1) cap) = (pre ++ [(g, len + 1, cap)]).map chV := by
      rw [List.map_append, List.set_append_right _ _ (by simp)]
      simp [chV]
    rw [e] at hst
    have hst2 : (((w.alloc o).drew.setCells g (len * 12) L).setCell ⟨H, pre.length, none⟩ (.slice (some ⟨g, 0, none⟩) (len + 1) cap)).ownsRow B 54 1 (.slice (some ⟨H, 0, none⟩) (pre.length + 1) cm) (pre ++ [(g, len + 1, cap)]).length ((pre ++ [(g, len + 1, cap)]).map chV) := by simpa using hst
    refine ⟨hst2.1, ?_⟩
    rcases hst2.2 with ⟨hv, _⟩ | ⟨g', cap', cur0, hv, hg', hh, r⟩
    · simp at hv
    · simp only [Value.slice.injEq, Option.some.injEq, Addr.mk.injEq, and_true] at hv
      obtain ⟨rfl, _, rfl⟩ := hv
      refine .inr ⟨H, cm, cur0, by simp, hg', ?_, r⟩
      rw [hW, addW_heap w o g _ L H _ _ C k H (fun e => n1 e.symm)]
      exact hh
  · rcases List.mem_append.1 hc with hc | hc
    · obtain ⟨a1, a2, a3, a4, cu, a5, a6⟩ := h.good c (by simp [hc])
      exact ⟨a1, a2, a3, a4, cu, (hpre c hc).trans a5, a6⟩
    · obtain rfl : c = (g, len + 1, cap) := by simpa using hc
      exact ⟨g1, by show len + 1 ≤ cap; omega, c1, c2, cur', hWg, by rw [hc2]; exact g6⟩
  · simpa using h.nodup
  · obtain ⟨m, o1, o2⟩ := opsAt_append.1 h.ops
    refine opsAt_append.2 ⟨m, opsAt_of_heap o1 hpre, ?_⟩
    obtain ⟨o3, o4⟩ := o2
    have hmk : m + len = k := o4
    refine ⟨fun j hj => ?_, by show m + (len + 1) = k + 1; omega⟩
    by_cases e : j = len
    · subst e
      rw [hmk, hLe]
      exact hnew
    · have hr := o3 j (by simp only at hj ⊢; omega)
      have hr1 : (w.alloc o).drew.rangeAt g (j * 12) (opA (m + j) key).toList := World.rangeAt_alloc hr o
      exact rangeAt_of_heap (World.rangeAt_setCells_apart hr1 g (len * 12) _ (.inr (.inl (by show j * 12 + 12 ≤ len * 12; simp only at hj; omega)))) hWg0
  · have hb0 : Kept (Mods C (.slice (some ⟨H, 0, none⟩) (pre.length + 1) cm) (pre ++ [(g, len, cap)])) w (w.alloc o).drew := Kept.of_below ((Below.refl _ _).alloc (Nat.le_refl _) o).drew
    have hb1 := hb0.setCells (b := g) (.inl (.inr (.inr (by simp)))) (len * 12) L
    have hb2 := hb1.setCell (p := ⟨H, pre.length, none⟩) (.inl (.inr (.inl rfl))) (.slice (some ⟨g, 0, none⟩) (len + 1) cap)
    have hb3 := hb2.setCell (p := ⟨C, 1, none⟩) (.inl (.inl rfl)) (.int .i64 ((k : Int) + 1))
    rw [hW]
    exact hb3
end Go.Proofs.Qxb6000819a
