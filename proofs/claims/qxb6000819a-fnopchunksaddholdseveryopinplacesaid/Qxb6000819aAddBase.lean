/-
  What the walk of (*opChunks).add (32) leans on.
-/
import Derived.Test.Qxb6000819aSameOp
import Derived.Test.Qxb6000819aChunks2
import Derived.Deep.RegionLaw
import Derived.Deep.DeepCutAuto
import Derived.Deep.QuietTactic
import Derived.BigQuiet
namespace Go.Proofs.Qxb6000819a
open Go.RowKit

theorem Try.info54 : (Try.prog.info? 54).map (fun i => (i.zero, i.size, i.bytes)) = some (some (.slice none 0 0), 1, 24) := by kernel_rfl
theorem Try.info46i : (Try.prog.info? 46).map (fun i => (i.size, i.bytes)) = some (12, 160) := by kernel_rfl
theorem Try.zero46 : ((Try.prog.info? 46).bind (·.zero)).map (·.cells.size) = some 12 := by kernel_rfl

theorem info46_parts : ∃ i z, Try.prog.info? 46 = some i ∧ i.zero = some z ∧ i.size = 12 ∧ i.bytes = 160 := by
  obtain ⟨i, hi, hzz⟩ := Option.map_eq_some_iff.1 Try.info46i
  simp only [Prod.mk.injEq] at hzz
  have h := Try.zero46
  rw [hi] at h
  obtain ⟨z, hz, _⟩ := Option.map_eq_some_iff.1 h
  exact ⟨i, z, hi, hz, hzz.1, hzz.2⟩

/-- 'make([]Op, 0, n)'. -/
theorem make_op (n : Nat) (hn : n ≤ 65536) : ∃ mk : Array Value, mk.size = n * 12 ∧ ∀ w : World, (Instr.makeSlice 54 (.int .i64 0) (.int .i64 (n : Int))).run Try.prog w = .ok (.slice (some ⟨w.heap.size, 0, none⟩) 0 n) (w.alloc (.cells mk 46)) := by
  obtain ⟨i, z, hi, hz, h1, h2⟩ := info46_parts
  refine ⟨madeCells z.cells (n * 12), size_madeCells _ _, fun w => ?_⟩
  have := run_make (P := Try.prog) w 54 46 i z Try.underlying54 hi hz .i64 .i64 0 n (by omega) (by omega) (by rw [h2]; omega) (by omega)
  rw [this, h1]
  simp

/-- Does the last chunk lack room? -/
def Need (nn : Bool) (CH : List Ch) : Prop := (nn = true → CH = [] ∨ ∃ pre g cap, CH = pre ++ [(g, cap, cap)]) ∧ (nn = false → ∃ pre g len cap, CH = pre ++ [(g, len, cap)] ∧ len < cap)
theorem need_nil : Need true [] := ⟨fun _ => .inl rfl, fun h => (nomatch h)⟩
theorem need_full (pre : List Ch) (g cap : Nat) : Need true (pre ++ [(g, cap, cap)]) := ⟨fun _ => .inr ⟨pre, g, cap, rfl⟩, fun h => (nomatch h)⟩
theorem need_room (pre : List Ch) (g len cap : Nat) (h : len < cap) : Need false (pre ++ [(g, len, cap)]) := ⟨fun h => (nomatch h), fun _ => ⟨pre, g, len, cap, rfl, h⟩⟩

theorem ch_cases (CH : List Ch) : CH = [] ∨ ∃ pre g len cap, CH = pre ++ [(g, len, cap)] := by
  rcases List.eq_nil_or_concat CH with h | ⟨pre, ⟨g, len, cap⟩, h⟩
  · exact .inl h
  · exact .inr ⟨pre, g, len, cap, by rw [h, List.concat_eq_append]⟩

theorem St.form {w : World} {B C size k : Nat} {key : ByteArray} {vch : Value} {CH : List Ch} (h : St w B C key size vch CH k) :
    (CH = [] ∧ vch = .slice none 0 0) ∨ ∃ pre g len cap H cm, CH = pre ++ [(g, len, cap)] ∧ vch = .slice (some ⟨H, 0, none⟩) (pre.length + 1) cm := by
  rcases ch_cases CH with e | ⟨pre, g, len, cap, e⟩
  · exact .inl ⟨e, h.nil e⟩
  · right
    obtain ⟨H, cm, hv, _⟩ := h.row.form (by rw [e]; simp)
    exact ⟨pre, g, len, cap, H, cm, e, by rw [hv, e]; simp⟩

theorem Kept.trans' {M M' : Nat → Prop} {a b c : World} (h : Kept M a b) (k : Kept M' b c) (hm : ∀ x, x < a.heap.size → M' x → M x) : Kept M a c :=
  ⟨k.os.trans h.os, k.tape.trans h.tape, k.output.trans h.output, Nat.le_trans h.size k.size, fun x hx hn => (k.block x (Nat.lt_of_lt_of_le hx h.size) (fun hM => hn (hm x hx hM))).trans (h.block x hx hn)⟩

/-- WHERE THE TWO WAYS MEET: the last chunk has room. -/
structure Room (w wx : World) (B C : Nat) (key : ByteArray) (size : Nat) (vch : Value) (CH : List Ch) (k : Nat) (A : Array Value) (pre : List Ch) (g len cap H cm : Nat) : Prop where
  st : St wx B C key size (.slice (some ⟨H, 0, none⟩) (pre.length + 1) cm) (pre ++ [(g, len, cap)]) k
  room : len < cap
  ptrs : ptrsOf (pre ++ [(g, len, cap)]) = ptrsOf CH
  few : pre.length ≤ k
  box : wx.heap[w.heap.size]? = some (.cells A 46 (0, 0))
  kept : Kept (Mods C vch CH) w wx
  mods : ∀ b, b < w.heap.size → Mods C (.slice (some ⟨H, 0, none⟩) (pre.length + 1) cm) (pre ++ [(g, len, cap)]) b → Mods C vch CH b

/-- Behind the box and some draws. -/
theorem box_st {w : World} {B C size k : Nat} {key : ByteArray} {vch : Value} {CH : List Ch} (h : St w B C key size vch CH k) (A : Array Value) (q : Nat) :
    St ((w.alloc (.cells A 46)).drewN q) B C key size vch CH k ∧ ((w.alloc (.cells A 46)).drewN q).heap[w.heap.size]? = some (.cells A 46 (0, 0)) ∧ Below w.heap.size w ((w.alloc (.cells A 46)).drewN q) := by
  have hb : Below w.heap.size w ((w.alloc (.cells A 46)).drewN q) := by
    have := (Below.refl w.heap.size w).alloc (Nat.le_refl _) (.cells A 46)
    exact ⟨this.os, this.tape, this.output, this.size, this.block⟩
  exact ⟨h.below hb, heap_alloc_new w _, hb⟩

theorem room_here {w : World} {B C size k g len cap H cm : Nat} {key : ByteArray} {pre : List Ch} (h : St w B C key size (.slice (some ⟨H, 0, none⟩) (pre.length + 1) cm) (pre ++ [(g, len, cap)]) k) (A : Array Value) (q : Nat) (hl : len < cap) (hk : (pre ++ [(g, len, cap)]).length ≤ k) :
    Room w ((w.alloc (.cells A 46)).drewN q) B C key size (.slice (some ⟨H, 0, none⟩) (pre.length + 1) cm) (pre ++ [(g, len, cap)]) k A pre g len cap H cm := by
  obtain ⟨h1, h2, h3⟩ := box_st h A q
  exact ⟨h1, hl, rfl, by simp at hk; omega, h2, Kept.of_below h3, fun _ _ h => h⟩

theorem room_new {w w0 w2 w3 : World} {B C size k g cap H cm : Nat} {key : ByteArray} {vch : Value} {CH : List Ch} {mk A : Array Value} (h : St w B C key size vch CH k) (hBw : B ≤ w.heap.size)
    (hb0 : Below w.heap.size w w0) (hbox : w0.heap[w.heap.size]? = some (.cells A 46 (0, 0)))
    (hb : Below w0.heap.size w0 w2) (hg : w2.heap[g]? = some (.cells mk 46 (0, 0))) (hmk : mk.size = cap * 12) (hgn : w0.heap.size ≤ g) (h1 : 1 ≤ cap) (h2 : cap ≤ 65536) (hk : CH.length ≤ k)
    (hown : w3.ownsRow B 54 1 (.slice (some ⟨H, 0, none⟩) (CH.length + 1) cm) (CH.length + 1) (CH.map chV ++ [.slice (some ⟨g, 0, none⟩) 0 cap])) (hgrow : w2.grownBy w3 vch.ownBlock) (hat : vch.ownBlock = some H ∨ w2.heap.size ≤ H) :
    Room w (w3.setCell ⟨C, 0, none⟩ (.slice (some ⟨H, 0, none⟩) (CH.length + 1) cm)) B C key size vch CH k A CH g 0 cap H cm := by
  have hst0 := h.below hb0
  have hsz0 := hb0.size
  have hbl : w.heap.size < w0.heap.size := (Array.getElem?_eq_some_iff.1 hbox).1
  obtain ⟨r1, r2⟩ := new_chunk hst0 hb hg hmk hgn h1 h2 (by omega) hown hgrow hat
  refine ⟨r1, by omega, ptrsOf_empty CH g cap, hk, ?_, ?_, ?_⟩
  · rw [r2.block w.heap.size hbl (fun hm => by have := h.mods_lt _ hm; omega)]
    exact hbox
  · exact (Kept.of_below hb0).trans' r2 (fun _ _ h => h)
  · rintro b hb' (rfl | e | e)
    · exact .inl rfl
    · have : b = H := by simpa [Value.ownBlock] using e.symm
      subst this
      rcases hat with hat | hat
      · exact .inr (.inl hat)
      · have := hb.size; omega
    · rw [List.map_append] at e
      rcases List.mem_append.1 e with e | e
      · exact .inr (.inr e)
      · have : b = g := by simpa using e
        omega

theorem make_op' (n : Nat) (x : Int) (hx : x = n) (hn : n ≤ 65536) : ∃ mk : Array Value, mk.size = n * 12 ∧ ∀ w : World, (Instr.makeSlice 54 (.int .i64 0) (.int .i64 x)).run Try.prog w = .ok (.slice (some ⟨w.heap.size, 0, none⟩) 0 n) (w.alloc (.cells mk 46)) := by
  subst hx; exact make_op n hn

theorem c_later {w0 w2 w3 : World} {B C size k : Nat} {key : ByteArray} {vch : Value} {CH : List Ch} (h : St w0 B C key size vch CH k) (hb : Below w0.heap.size w0 w2) (hg : w2.grownBy w3 vch.ownBlock) :
    w3.cell? ⟨C, 0, none⟩ = some vch ∧ w3.frozen? ⟨C, 0, none⟩ = false := by
  have h3 : w3.heap[C]? = some (.cells #[vch, .int .i64 k, .int .i64 size] 58 (0, 0)) := by
    rw [hg.block C (Nat.lt_of_lt_of_le h.ltC hb.size) (fun e => h.own_ne e.symm), hb.block C h.ltC]; exact h.blk
  exact ⟨by rw [cell_of_row w3 C 0 _ 58 (0, 0) h3]; rfl, frozen_of_row w3 C 0 _ 58 h3⟩

theorem below2 (W : World) (q q' : Nat) (o1 o2 : Obj) : Below (W.drewN q).heap.size (W.drewN q) (((W.drewN q').alloc o1).alloc o2) := by
  have h : Below (W.drewN q').heap.size (W.drewN q') (((W.drewN q').alloc o1).alloc o2) := ((Below.refl _ _).alloc (Nat.le_refl _) o1).alloc (by simp) o2
  exact ⟨h.os, h.tape, h.output, h.size, h.block⟩

theorem room_mk {w w3 : World} {B C size k cap H cm : Nat} {key : ByteArray} {vch : Value} {CH : List Ch} {mk A : Array Value} (h : St w B C key size vch CH k) (hBw : B ≤ w.heap.size) (q' : Nat) (o2 : Obj)
    (hmk : mk.size = cap * 12) (h1 : 1 ≤ cap) (h2 : cap ≤ 65536) (hk : CH.length ≤ k)
    (hown : w3.ownsRow B 54 1 (.slice (some ⟨H, 0, none⟩) (CH.length + 1) cm) (CH.length + 1) (CH.map chV ++ [.slice (some ⟨w.heap.size + 1, 0, none⟩) 0 cap]))
    (hgrow : ((((w.alloc (.cells A 46)).drewN q').alloc (.cells mk 46)).alloc o2).grownBy w3 vch.ownBlock) (hat : vch.ownBlock = some H ∨ H = ((((w.alloc (.cells A 46)).drewN q').alloc (.cells mk 46)).alloc o2).heap.size) :
    Room w (w3.setCell ⟨C, 0, none⟩ (.slice (some ⟨H, 0, none⟩) (CH.length + 1) cm)) B C key size vch CH k A CH (w.heap.size + 1) 0 cap H cm := by
  obtain ⟨s0, sbox, sb0⟩ := box_st h A q'
  have hn : ((w.alloc (.cells A 46)).drewN q').heap.size = w.heap.size + 1 := by simp
  refine room_new h hBw sb0 sbox (below2 _ q' q' _ _) ?_ hmk (by rw [hn]; exact Nat.le_refl _) h1 h2 hk hown hgrow (hat.imp id (fun e => by rw [e]; exact Nat.le_refl _))
  rw [← hn]
  rw [Below.heap_alloc _ _ _ (by simp)]
  exact heap_alloc_new _ _

theorem room_mk' {w w3 : World} {B C size k cap H cm : Nat} {key : ByteArray} {vch : Value} {CH : List Ch} {mk A : Array Value} (n : Nat) (hn : CH.length = n) (h : St w B C key size vch CH k) (hBw : B ≤ w.heap.size) (q' : Nat) (o2 : Obj)
    (hmk : mk.size = cap * 12) (h1 : 1 ≤ cap) (h2 : cap ≤ 65536) (hk : n ≤ k)
    (hown : w3.ownsRow B 54 1 (.slice (some ⟨H, 0, none⟩) (n + 1) cm) (n + 1) (CH.map chV ++ [.slice (some ⟨w.heap.size + 1, 0, none⟩) 0 cap]))
    (hgrow : ((((w.alloc (.cells A 46)).drewN q').alloc (.cells mk 46)).alloc o2).grownBy w3 vch.ownBlock) (hat : vch.ownBlock = some H ∨ H = ((((w.alloc (.cells A 46)).drewN q').alloc (.cells mk 46)).alloc o2).heap.size) :
    Room w (w3.setCell ⟨C, 0, none⟩ (.slice (some ⟨H, 0, none⟩) (n + 1) cm)) B C key size vch CH k A CH (w.heap.size + 1) 0 cap H cm := by
  subst hn
  exact room_mk h hBw q' o2 hmk h1 h2 hk hown hgrow hat

theorem one_new (w : World) (v : Value) (t : TypeId) (n : Nat) (hn : w.heap.size = n) : ∀ j u, [v][j]? = some u → (w.alloc (.cells #[v] t)).cell? ((⟨n, 0, none⟩ : Addr).add j) = some u := by
  subst hn; exact cell_one_new w v t


theorem row12_new (w : World) (cs : List Value) (t : TypeId) : ∀ j u, cs[j]? = some u → (w.drew.alloc (.cells cs.toArray t)).cell? ((⟨w.heap.size, 0, none⟩ : Addr).add j) = some u := by
  intro j u hj
  rw [Addr.add_lit, Nat.zero_add]
  have h : (w.drew.alloc (.cells cs.toArray t)).heap[w.heap.size]? = some (.cells cs.toArray t (0, 0)) := heap_alloc_new w.drew _
  rw [cell_of_row _ _ _ _ _ _ h]
  simpa using hj

theorem spare_later {w : World} {g o : Nat} (h : w.there g o 12) (ob : Obj) : ∀ j, j < 12 → ((w.drew.alloc ob).cell? ⟨g, 0 + o + j, none⟩).isSome = true ∧ (w.drew.alloc ob).frozen? ⟨g, 0 + o + j, none⟩ = false := by
  intro j hj
  rw [Nat.zero_add]
  exact World.there_alloc (w := w.drew) h ob j hj

theorem cell_al (w : World) (o : Obj) (C i : Nat) (h : C < w.heap.size) : (w.alloc o).cell? ⟨C, i, none⟩ = w.cell? ⟨C, i, none⟩ := World.cell?_of_block (Below.heap_alloc w o C h)

/-- Behind the append and its store: what the walk reads. -/
theorem w1_facts {w : World} {B C size k g len cap H cm : Nat} {key : ByteArray} {pre : List Ch} (h : St w B C key size (.slice (some ⟨H, 0, none⟩) (pre.length + 1) cm) (pre ++ [(g, len, cap)]) k) (A : Array Value) (L : List Value) (W : World)
    (hW : W = (((w.alloc (.cells A 46)).drew.setCells g (len * 12) L).setCell ⟨H, pre.length, none⟩ (.slice (some ⟨g, 0, none⟩) (len + 1) cap))) :
    W.cell? ⟨C, 0, none⟩ = some (.slice (some ⟨H, 0, none⟩) (pre.length + 1) cm) ∧ W.cell? ⟨C, 1, none⟩ = some (.int .i64 k) ∧ W.frozen? ⟨C, 1, none⟩ = false ∧ W.cell? ⟨H, pre.length, none⟩ = some (.slice (some ⟨g, 0, none⟩) (len + 1) cap) ∧ C < W.heap.size ∧ H < W.heap.size := by
  obtain ⟨-, -, -, -, -, xh, xhf, -, hC, hH, -, n1, n2, n3, -, -, -⟩ := h.last
  have hWC : W.heap[C]? = some (.cells #[.slice (some ⟨H, 0, none⟩) (pre.length + 1) cm, .int .i64 k, .int .i64 size] 58 (0, 0)) := by
    rw [hW, Below.heap_setCell _ _ _ _ n1, heap_setCells_other g _ _ _ C n2]
    exact (Below.heap_alloc w _ C hC).trans h.blk
  have hrow : w.ownsRow B 54 1 (.slice (some ⟨H, 0, none⟩) (pre.length + 1) cm) (pre.length + 1) ((pre ++ [(g, len, cap)]).map chV) := by simpa using h.row
  have hWH : ((w.alloc (.cells A 46)).drew.setCells g (len * 12) L).heap[H]? = w.heap[H]? := by
    rw [heap_setCells_other g _ _ _ H n3]
    exact Below.heap_alloc w _ H hH
  have hxh : ((w.alloc (.cells A 46)).drew.setCells g (len * 12) L).cell? ⟨H, pre.length, none⟩ = some (.slice (some ⟨g, 0, none⟩) len cap) := (World.cell?_of_block hWH).trans xh
  have hsz : W.heap.size = w.heap.size + 1 := by
    rw [hW]
    have := (size_setCells g L (len * 12) (w.alloc (.cells A 46)).drew).1
    simp [World.setCell, this]
  refine ⟨by rw [cell_of_row W C 0 _ 58 (0, 0) hWC]; rfl, by rw [cell_of_row W C 1 _ 58 (0, 0) hWC]; rfl, frozen_of_row W C 1 _ 58 hWC, ?_, by omega, by omega⟩
  rw [hW]
  exact World.cell?_setCell_same _ _ _ (by rw [hxh])
/-- THE END of an add. -/
theorem add_end {w wc W1 : World} {B C size k g len cap H cm : Nat} {key : ByteArray} {vch : Value} {CH : List Ch} {pre : List Ch} {A : Array Value} (R : Room w wc B C key size vch CH k A pre g len cap H cm) (L : List Value) (hL : L.length = 12) (hLe : (opA k key).toList = L)
    (hW1 : W1 = (((wc.alloc (.cells A 46)).drew.setCells g (len * 12) L).setCell ⟨H, pre.length, none⟩ (.slice (some ⟨g, 0, none⟩) (len + 1) cap))) (nq : Nat) :
    ∃ g' j vch' CH', Ending.returned (.pointer (some ⟨g, len * 12, none⟩)) = .returned (.pointer (some ⟨g', j * 12, none⟩)) ∧ St ((W1.setCell ⟨C, 1, none⟩ (.int .i64 ((k : Int) + 1))).drewN nq) B C key size vch' CH' (k + 1) ∧ ptrsOf CH' = ptrsOf CH ++ [.pointer (some ⟨g', j * 12, none⟩)] ∧
      ((W1.setCell ⟨C, 1, none⟩ (.int .i64 ((k : Int) + 1))).drewN nq).rangeAt g' (j * 12) (opA k key).toList ∧ CH'.length ≤ k + 1 ∧ Kept (Mods C vch CH) w ((W1.setCell ⟨C, 1, none⟩ (.int .i64 ((k : Int) + 1))).drewN nq) := by
  obtain ⟨r1, r2, r3⟩ := add_op R.st R.room (.cells A 46) L hL hLe (W1.setCell ⟨C, 1, none⟩ (.int .i64 ((k : Int) + 1))) (by rw [hW1]; rfl)
  have K := R.kept.trans' r3 R.mods
  refine ⟨g, len, _, _, rfl, r1.move (fun _ _ => rfl), ?_, ?_, ?_, ⟨K.os, K.tape, K.output, K.size, K.block⟩⟩
  · rw [ptrsOf_more, R.ptrs]
  · rw [hLe]; exact rangeAt_of_heap r2 rfl
  · have := R.few
    simp
    omega
end Go.Proofs.Qxb6000819a
