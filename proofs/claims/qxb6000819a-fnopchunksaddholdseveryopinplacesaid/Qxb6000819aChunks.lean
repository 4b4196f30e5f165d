/-
  PLAIN: what opChunks holds behind k adds, and what an add does to it. No walk here.
-/
import Derived.Test.Qxb6000819aOpFor
import Derived.Deep.AppendLies
namespace Go.Proofs.Qxb6000819a
open Go.RowKit

/-- A chunk: its block, its length, its capacity. -/
abbrev Ch := Nat × Nat × Nat
def chV (c : Ch) : Value := .slice (some ⟨c.1, 0, none⟩) c.2.1 c.2.2

/-- The pointers to all operations held, in order. -/
def ptrsOf : List Ch → List Value
  | [] => []
  | c :: r => (List.range c.2.1).map (fun j => Value.pointer (some ⟨c.1, j * 12, none⟩)) ++ ptrsOf r

/-- From number s on, the chunks' cells are the operations in their order; the next number is k. -/
def opsAt (w : World) (key : ByteArray) : Nat → List Ch → Nat → Prop
  | s, [], k => s = k
  | s, c :: r, k => (∀ j, j < c.2.1 → w.rangeAt c.1 (j * 12) (opA (s + j) key).toList) ∧ opsAt w key (s + c.2.1) r k

/-- A chunk's block. -/
def Good (w : World) (B : Nat) (c : Ch) : Prop := B ≤ c.1 ∧ c.2.1 ≤ c.2.2 ∧ 1 ≤ c.2.2 ∧ c.2.2 ≤ 65536 ∧ ∃ cur : Array Value, w.heap[c.1]? = some (.cells cur 46 (0, 0)) ∧ cur.size = c.2.2 * 12

/-- THE STATE. -/
structure St (w : World) (B C : Nat) (key : ByteArray) (size : Nat) (vch : Value) (CH : List Ch) (k : Nat) : Prop where
  hB : B ≤ C
  blk : w.heap[C]? = some (.cells #[vch, .int .i64 k, .int .i64 size] 58 (0, 0))
  row : w.ownsRow B 54 1 vch CH.length (CH.map chV)
  nil : CH = [] → vch = .slice none 0 0
  good : ∀ c ∈ CH, Good w B c
  nodup : (CH.map Prod.fst).Nodup
  ops : opsAt w key 0 CH k

/-- Only blocks of M (and new ones) have turned. -/
structure Kept (M : Nat → Prop) (w w' : World) : Prop where
  os : w'.os = w.os
  tape : w'.tape = w.tape
  output : w'.output = w.output
  size : w.heap.size ≤ w'.heap.size
  block : ∀ b, b < w.heap.size → ¬ M b → w'.heap[b]? = w.heap[b]?

theorem Kept.refl (M : Nat → Prop) (w : World) : Kept M w w := ⟨rfl, rfl, rfl, Nat.le_refl _, fun _ _ _ => rfl⟩
theorem Kept.trans {M : Nat → Prop} {a b c : World} (h : Kept M a b) (k : Kept M b c) : Kept M a c :=
  ⟨k.os.trans h.os, k.tape.trans h.tape, k.output.trans h.output, Nat.le_trans h.size k.size, fun x hx hm => (k.block x (Nat.lt_of_lt_of_le hx h.size) hm).trans (h.block x hx hm)⟩
theorem Kept.mono {M M' : Nat → Prop} {a b : World} (h : Kept M a b) (hm : ∀ x, x < a.heap.size → M x → M' x) : Kept M' a b :=
  ⟨h.os, h.tape, h.output, h.size, fun x hx hn => h.block x hx (fun hM => hn (hm x hx hM))⟩
theorem Kept.of_below {M : Nat → Prop} {a b : World} (h : Below a.heap.size a b) : Kept M a b := ⟨h.os, h.tape, h.output, h.size, fun x hx _ => h.block x hx⟩
theorem Kept.below {M : Nat → Prop} {B : Nat} {a b : World} (h : Kept M a b) (hB : B ≤ a.heap.size) (hM : ∀ x, M x → B ≤ x) : Below B a b :=
  ⟨h.os, h.tape, h.output, h.size, fun x hx => h.block x (by omega) (fun hm => by have := hM x hm; omega)⟩
theorem Kept.setCell {M : Nat → Prop} {a b : World} (h : Kept M a b) {p : Addr} (hp : M p.block ∨ a.heap.size ≤ p.block) (u : Value) : Kept M a (b.setCell p u) :=
  ⟨h.os, h.tape, h.output, Nat.le_trans h.size (by simp [World.setCell]), fun x hx hn => by
    rw [Below.heap_setCell _ _ _ _ (fun e => by rcases hp with hp | hp; exact hn (e ▸ hp); omega)]
    exact h.block x hx hn⟩
theorem Kept.grown {M : Nat → Prop} {a b c : World} {row : Option Nat} (h : Kept M a b) (hg : b.grownBy c row) (hr : ∀ x, row = some x → M x ∨ a.heap.size ≤ x) : Kept M a c :=
  ⟨hg.os.trans h.os, hg.tape.trans h.tape, hg.output.trans h.output, Nat.le_trans h.size hg.size, fun x hx hn => by
    rw [hg.block x (Nat.lt_of_lt_of_le hx h.size) (fun e => by rcases hr x e.symm with hm | hm; exact hn hm; omega)]
    exact h.block x hx hn⟩

/-! ### many cells at once -/
theorem heap_setCells_other (b : Nat) : ∀ (vs : List Value) (o : Nat) (w : World) (x : Nat), x ≠ b → (w.setCells b o vs).heap[x]? = w.heap[x]?
  | [], _, _, _, _ => rfl
  | v :: r, o, w, x, h => by rw [World.setCells, heap_setCells_other b r (o + 1) _ x h, Below.heap_setCell _ _ _ _ h]
theorem heap_setCells_same (b : Nat) (t : TypeId) : ∀ (vs : List Value) (o : Nat) (w : World) (cur : Array Value), w.heap[b]? = some (.cells cur t (0, 0)) →
    ∃ cur', (w.setCells b o vs).heap[b]? = some (.cells cur' t (0, 0)) ∧ cur'.size = cur.size
  | [], _, _, cur, h => ⟨cur, h, rfl⟩
  | v :: r, o, w, cur, h => by
    obtain ⟨cur', h1, h2⟩ := heap_setCells_same b t r (o + 1) (w.setCell ⟨b, o, none⟩ v) (cur.setIfInBounds o v) (heap_setCell_same w b o cur t v h)
    exact ⟨cur', by rw [World.setCells]; exact h1, by rw [h2]; simp⟩
theorem size_setCells (b : Nat) : ∀ (vs : List Value) (o : Nat) (w : World), (w.setCells b o vs).heap.size = w.heap.size ∧ (w.setCells b o vs).os = w.os ∧ (w.setCells b o vs).tape = w.tape ∧ (w.setCells b o vs).output = w.output
  | [], _, _ => ⟨rfl, rfl, rfl, rfl⟩
  | v :: r, o, w => by
    rw [World.setCells]
    obtain ⟨h1, h2, h3, h4⟩ := size_setCells b r (o + 1) (w.setCell ⟨b, o, none⟩ v)
    exact ⟨by rw [h1]; simp [World.setCell], h2, h3, h4⟩
theorem Kept.setCells {M : Nat → Prop} {a w : World} (h : Kept M a w) {b : Nat} (hp : M b ∨ a.heap.size ≤ b) (o : Nat) (vs : List Value) : Kept M a (w.setCells b o vs) := by
  obtain ⟨h1, h2, h3, h4⟩ := size_setCells b vs o w
  refine ⟨h2.trans h.os, h3.trans h.tape, h4.trans h.output, by rw [h1]; exact h.size, fun x hx hn => ?_⟩
  rw [heap_setCells_other b vs o w x (fun e => by rcases hp with hp | hp; exact hn (e ▸ hp); omega)]
  exact h.block x hx hn

theorem rangeAt_of_heap {w w' : World} {b o : Nat} {cs : List Value} (h : w.rangeAt b o cs) (he : w'.heap[b]? = w.heap[b]?) : w'.rangeAt b o cs := fun j v hv => by
  rw [World.cell?_of_block (w := w) (by exact he)]; exact h j v hv
theorem opsAt_of_heap {w w' : World} {key : ByteArray} : ∀ {CH : List Ch} {s k : Nat}, opsAt w key s CH k → (∀ c ∈ CH, w'.heap[c.1]? = w.heap[c.1]?) → opsAt w' key s CH k
  | [], _, _, h, _ => h
  | c :: r, s, k, h, he => ⟨fun j hj => rangeAt_of_heap (h.1 j hj) (he c (by simp)), opsAt_of_heap h.2 (fun x hx => he x (by simp [hx]))⟩
theorem opsAt_append {w : World} {key : ByteArray} : ∀ {a b : List Ch} {s k : Nat}, opsAt w key s (a ++ b) k ↔ ∃ m, opsAt w key s a m ∧ opsAt w key m b k
  | [], b, s, k => ⟨fun h => ⟨s, rfl, h⟩, fun ⟨m, h1, h2⟩ => by cases h1; exact h2⟩
  | c :: r, b, s, k => by
    constructor
    · intro h
      obtain ⟨m, h1, h2⟩ := opsAt_append.1 h.2
      exact ⟨m, ⟨h.1, h1⟩, h2⟩
    · rintro ⟨m, h1, h2⟩
      exact ⟨h1.1, opsAt_append.2 ⟨m, h1.2, h2⟩⟩
theorem ptrsOf_append (a b : List Ch) : ptrsOf (a ++ b) = ptrsOf a ++ ptrsOf b := by
  induction a with
  | nil => rfl
  | cons c r ih => simp [ptrsOf, ih]
theorem ptrsOf_more (pre : List Ch) (g len cap : Nat) : ptrsOf (pre ++ [(g, len + 1, cap)]) = ptrsOf (pre ++ [(g, len, cap)]) ++ [.pointer (some ⟨g, len * 12, none⟩)] := by
  simp [ptrsOf_append, ptrsOf, List.range_succ]
theorem ptrsOf_empty (pre : List Ch) (g cap : Nat) : ptrsOf (pre ++ [(g, 0, cap)]) = ptrsOf pre := by
  simp [ptrsOf_append, ptrsOf]
theorem opsAt_len {w : World} {key : ByteArray} : ∀ {CH : List Ch} {s k : Nat}, opsAt w key s CH k → (ptrsOf CH).length + s = k
  | [], s, k, h => by simp [ptrsOf]; exact h
  | c :: r, s, k, h => by
    have := opsAt_len h.2
    simp [ptrsOf]
    omega

section
variable {w w' : World} {B C size k : Nat} {key : ByteArray} {vch : Value} {CH : List Ch}

/-- A chunk's block lies in the heap. -/
theorem Good.lt {c : Ch} (h : Good w B c) : c.1 < w.heap.size := by obtain ⟨_, _, _, _, cur, h1, _⟩ := h; exact (Array.getElem?_eq_some_iff.1 h1).1
theorem St.ltC (h : St w B C key size vch CH k) : C < w.heap.size := (Array.getElem?_eq_some_iff.1 h.blk).1
theorem St.own_ne (h : St w B C key size vch CH k) : vch.ownBlock ≠ some C := by
  intro e
  rcases h.row.2 with ⟨hv, _⟩ | ⟨g, cap, cur, hv, _, hg, _⟩
  · rw [hv] at e; cases e
  · rw [hv] at e
    obtain rfl : g = C := by simpa [Value.ownBlock] using e
    rw [h.blk] at hg
    simp at hg
theorem St.ch_ne (h : St w B C key size vch CH k) : ∀ c ∈ CH, c.1 ≠ C ∧ vch.ownBlock ≠ some c.1 := by
  intro c hc
  obtain ⟨_, _, _, _, cur, h1, _⟩ := h.good c hc
  refine ⟨fun e => ?_, fun e => ?_⟩
  · rw [e, h.blk] at h1; simp at h1
  · rcases h.row.2 with ⟨hv, _⟩ | ⟨g, cap, cur', hv, _, hg, _⟩
    · rw [hv] at e; cases e
    · rw [hv] at e
      obtain rfl : g = c.1 := by simpa [Value.ownBlock] using e
      rw [h1] at hg; simp at hg

/-- What M is at an add. -/
def Mods (C : Nat) (vch : Value) (CH : List Ch) (b : Nat) : Prop := b = C ∨ vch.ownBlock = some b ∨ b ∈ CH.map Prod.fst

theorem St.mods_ge (h : St w B C key size vch CH k) : ∀ b, Mods C vch CH b → B ≤ b := by
  rintro b (rfl | hb | hb)
  · exact h.hB
  · exact (h.row.lt b hb).1
  · obtain ⟨c, hc, rfl⟩ := List.mem_map.1 hb
    exact (h.good c hc).1
theorem St.mods_lt (h : St w B C key size vch CH k) : ∀ b, Mods C vch CH b → b < w.heap.size := by
  rintro b (rfl | hb | hb)
  · exact h.ltC
  · exact (h.row.lt b hb).2
  · obtain ⟨c, hc, rfl⟩ := List.mem_map.1 hb
    exact (h.good c hc).lt

/-- Where the state's own blocks have not turned, it stands. -/
theorem St.move (h : St w B C key size vch CH k) (he : ∀ b, Mods C vch CH b → w'.heap[b]? = w.heap[b]?) : St w' B C key size vch CH k := by
  refine ⟨h.hB, (he C (.inl rfl)).trans h.blk, ⟨h.row.1, ?_⟩, h.nil, fun c hc => ?_, h.nodup, opsAt_of_heap h.ops (fun c hc => he c.1 (.inr (.inr (List.mem_map_of_mem hc))))⟩
  · rcases h.row.2 with h' | ⟨g, cap, cur, hv, hg, hh, r⟩
    · exact .inl h'
    · exact .inr ⟨g, cap, cur, hv, hg, (he g (.inr (.inl (by rw [hv]; rfl)))).trans hh, r⟩
  · obtain ⟨h1, h2, h3, h4, cur, h5, h6⟩ := h.good c hc
    exact ⟨h1, h2, h3, h4, cur, (he c.1 (.inr (.inr (List.mem_map_of_mem hc)))).trans h5, h6⟩
theorem St.below (h : St w B C key size vch CH k) (hb : Below w.heap.size w w') : St w' B C key size vch CH k := h.move fun b hm => hb.block b (h.mods_lt b hm)
end
end Go.Proofs.Qxb6000819a
