/-
  THE WALK of isCoreFloat (19): 'num' of what is left behind the sign, where the text is no word. The ways through each 'if' meet again at a cut.
-/
import Derived.Test.Qxb6000720aFloatModel2
import Derived.Deep.DeepCutAuto
namespace Go.Proofs.Qxb6000720a
open Go.RowKit

theorem tx_nil {t : ByteArray} (h : t.data.toList = []) : t.toList.isEmpty = true ∧ t.size = 0 := by
  refine ⟨by rw [ByteArray.toList_eq, h]; rfl, ?_⟩
  show t.data.toList.length = 0
  rw [h]; rfl
theorem tx_cons {t : ByteArray} {c : UInt8} {r : Bs} (h : t.data.toList = c :: r) : t.toList.isEmpty = false ∧ ∃ h0 : 0 < t.size, t[0]'h0 = c := by
  refine ⟨by rw [ByteArray.toList_eq, h]; rfl, ?_⟩
  have h0 : 0 < t.size := by show 0 < t.data.toList.length; rw [h]; simp
  refine ⟨h0, ?_⟩
  have := drop_at t 0 h0
  rw [List.drop_zero, h] at this
  exact (List.cons.inj this).1.symm
theorem tx_size (t : ByteArray) : t.size = t.data.toList.length := rfl
theorem tx_drop (t : ByteArray) (k : Nat) : (t.extract k t.size).data.toList = t.data.toList.drop k := Lib.extract_to_end t k
theorem tx_drop_size (t : ByteArray) (k : Nat) : (t.extract k t.size).size ≤ t.size := by
  rw [tx_size, tx_drop, List.length_drop, ← tx_size]; omega
theorem empty_eq {t : ByteArray} {l : Bs} (h : Hid (t.data.toList = l)) : t.toList.isEmpty = l.isEmpty := by rw [ByteArray.toList_eq, h.out]

/-- A sign test's answer. -/
def Sg (t : ByteArray) (b : Bool) : Prop := (b = true → 0 < t.size ∧ strip t.data.toList = t.data.toList.drop 1) ∧ (b = false → strip t.data.toList = t.data.toList)
theorem sg_true {t : ByteArray} (h : 0 < t.size) (hT : (t.extract 1 t.size).toList = strip t.data.toList) : Sg t true :=
  ⟨fun _ => ⟨h, by rw [← hT, ByteArray.toList_eq, tx_drop]⟩, fun h => (nomatch h)⟩
theorem sg_false {t : ByteArray} (hT : t.toList = strip t.data.toList) : Sg t false :=
  ⟨fun h => (nomatch h), fun _ => by rw [← hT, ByteArray.toList_eq]⟩

/-- leadingDigits, its answer under a name. -/
theorem ld_named (t : ByteArray) (ht : t.size ≤ 1048576) : ∃ n : Nat, Hid (ld t.data.toList = n) ∧ n ≤ t.size ∧ Hid (∀ w, Calls Try.prog 22 #[.string t] w fun e w' => e = .returned (.int .i64 n) ∧ w' = w) :=
  ⟨ld t.data.toList, rfl, ld_le _, fun w => ld_any t w ht⟩

/-- A point test's answer. -/
def Pt (t : ByteArray) (b : Bool) : Prop := (b = true → 0 < t.size ∧ frac t.data.toList = (ld (t.data.toList.drop 1), (t.data.toList.drop 1).drop (ld (t.data.toList.drop 1)))) ∧ (b = false → frac t.data.toList = (0, t.data.toList))
theorem pt_cases (t : ByteArray) :
    (t.toList.isEmpty = true ∧ t.size = 0 ∧ Pt t false) ∨
    (∃ h : 0 < t.size, t.toList.isEmpty = false ∧ (((t[0]'h).toNat : Int) == 46) = true ∧ Pt t true) ∨
    (∃ h : 0 < t.size, t.toList.isEmpty = false ∧ (((t[0]'h).toNat : Int) == 46) = false ∧ Pt t false) := by
  cases hl : t.data.toList with
  | nil =>
    obtain ⟨h1, h2⟩ := tx_nil hl
    exact .inl ⟨h1, h2, fun h => (nomatch h), fun _ => by rw [hl]; rfl⟩
  | cons c r =>
    obtain ⟨h1, h2, h3⟩ := tx_cons hl
    by_cases h46 : c.toNat = 46
    · refine .inr (.inl ⟨h2, h1, by rw [h3, h46]; rfl, fun _ => ⟨h2, ?_⟩, fun h => (nomatch h)⟩)
      rw [hl, frac, if_pos h46]; rfl
    · refine .inr (.inr ⟨h2, h1, by rw [h3]; exact beq_eq_false_iff_ne.2 (by omega), fun h => (nomatch h), fun _ => ?_⟩)
      rw [hl, frac, if_neg h46]

/-- Both counts are zero. -/
def Zr (n f : Nat) (b : Bool) : Prop := (b = true → n = 0 ∧ f = 0) ∧ (b = false → ¬ (n = 0 ∧ f = 0))

/-- An exponent test's answer. -/
def Ex (t : ByteArray) (b : Bool) : Prop := (b = true → 0 < t.size ∧ expo t.data.toList = (if ld (strip (t.data.toList.drop 1)) = 0 then false else ((strip (t.data.toList.drop 1)).drop (ld (strip (t.data.toList.drop 1)))).isEmpty)) ∧ (b = false → expo t.data.toList = t.data.toList.isEmpty)
theorem ex_cases (t : ByteArray) :
    (t.toList.isEmpty = true ∧ t.size = 0 ∧ Ex t false) ∨
    (∃ h : 0 < t.size, t.toList.isEmpty = false ∧ (((t[0]'h).toNat : Int) = 101) ∧ Ex t true) ∨
    (∃ h : 0 < t.size, t.toList.isEmpty = false ∧ (((t[0]'h).toNat : Int) = 69) ∧ Ex t true) ∨
    (∃ h : 0 < t.size, t.toList.isEmpty = false ∧ (((t[0]'h).toNat : Int) == 101) = false ∧ (((t[0]'h).toNat : Int) == 69) = false ∧ Ex t false) := by
  cases hl : t.data.toList with
  | nil =>
    obtain ⟨h1, h2⟩ := tx_nil hl
    exact .inl ⟨h1, h2, fun h => (nomatch h), fun _ => by rw [hl]; rfl⟩
  | cons c r =>
    obtain ⟨h1, h2, h3⟩ := tx_cons hl
    have yes : isExp c = true → Ex t true := fun hx => ⟨fun _ => ⟨h2, by rw [hl, expo, if_pos hx]; rfl⟩, fun h => (nomatch h)⟩
    by_cases h101 : (c.toNat : Int) = 101
    · exact .inr (.inl ⟨h2, h1, by rw [h3]; exact h101, yes ((exp_iff c).2 (.inl h101))⟩)
    · by_cases h69 : (c.toNat : Int) = 69
      · exact .inr (.inr (.inl ⟨h2, h1, by rw [h3]; exact h69, yes ((exp_iff c).2 (.inr h69))⟩))
      · refine .inr (.inr (.inr ⟨h2, h1, by rw [h3]; exact beq_eq_false_iff_ne.2 h101, by rw [h3]; exact beq_eq_false_iff_ne.2 h69, fun h => (nomatch h), fun _ => ?_⟩))
        rw [hl, expo, if_neg (fun q => by rcases (exp_iff c).1 q with q | q <;> contradiction)]
        rfl

set_option maxHeartbeats 1600000 in
set_option maxRecDepth 1000000 in
theorem core_no (s : ByteArray) (w : World) (hs : s.size ≤ 1048576) (hn : nan s.toList = false) (hi : inf (strip s.data.toList) = false) :
    Calls Try.prog 19 #[.string s] w fun e w' => e = .returned (.bool (num (strip s.data.toList))) ∧ w' = w := by
  obtain ⟨n1, n2, n3⟩ := nan_no hn
  have HI : Hid (inf (strip s.data.toList) = false) := hi
  clear hi hn
  go_enter Try.func19, Try.ntmps19
  go_upto_region 6 with fail
  go_cut [22] (fun s22 wx => wx = w ∧ ∃ b, s22 = .bool b ∧ Sg s b)
  case first =>
    rcases head_cases s with ⟨h0, he, hT⟩ | ⟨h0, he, hc, hT⟩ | ⟨h0, he, hc, hT⟩ | ⟨h0, he, hc, hc', hT⟩
    · have hr := sg_false hT
      clear hT
      go_wp2
      go_meet
      exact ⟨rfl, _, rfl, hr⟩
    · have hr := sg_true h0 hT
      clear hT
      go_wp2
      go_meet
      exact ⟨rfl, _, rfl, hr⟩
    · have hr := sg_true h0 hT
      clear hT
      go_wp2
      go_meet
      exact ⟨rfl, _, rfl, hr⟩
    · have hr := sg_false hT
      clear hT
      go_wp2
      go_meet
      exact ⟨rfl, _, rfl, hr⟩
  case rest =>
  obtain ⟨rfl, b, rfl, hsg⟩ := hcut
  clear n1 n2 n3
  go_upto_if 22 with fail
  go_cut [0] (fun s0 wx => wx = wc ∧ ∃ t : ByteArray, s0 = .string t ∧ Hid (t.data.toList = strip s.data.toList) ∧ t.size ≤ 1048576)
  case first =>
    cases b
    · have h := hsg.2 rfl
      go_wp2
      go_meet
      exact ⟨rfl, _, rfl, h.symm, hs⟩
    · obtain ⟨h0, h⟩ := hsg.1 rfl
      have h0' : 1 ≤ s.size := h0
      clear hsg
      go_wp2
      go_meet
      exact ⟨rfl, _, rfl, by unfold Hid; rw [tx_drop, h], by have := tx_drop_size s 1; omega⟩
  case rest =>
  obtain ⟨rfl, t, rfl, ht, hts⟩ := hcut
  obtain ⟨f1, f2, f3⟩ := inf_no HI.out
  rw [← ht.out, ← ByteArray.toList_eq] at f1 f2 f3
  clear HI
  obtain ⟨wh, hwh, hle, hcall⟩ := ld_named t hts
  go_upto_region 16 with (go_at_call 22; refine (hcall.out _).mono ?_; rintro e w' ⟨rfl, rfl⟩)
  obtain ⟨t2, ht2, hl2, hs2⟩ : ∃ t2, t.extract wh t.size = t2 ∧ Hid (t2.data.toList = (strip s.data.toList).drop (ld (strip s.data.toList))) ∧ t2.size ≤ 1048576 :=
    ⟨_, rfl, by unfold Hid; rw [tx_drop, ← hwh.out, ht.out], by have := tx_drop_size t wh; omega⟩
  have hwh' : Hid (ld (strip s.data.toList) = wh) := by unfold Hid; rw [← ht.out, hwh.out]
  rw [ht2]
  clear ht2 f1 f2 f3 hwh hcall
  go_cut [41] (fun s41 wx => wx = w' ∧ ∃ b, s41 = .bool b ∧ Pt t2 b)
  case first =>
    rcases pt_cases t2 with ⟨h0, he, hr⟩ | ⟨h0, he, hc, hr⟩ | ⟨h0, he, hc, hr⟩
    all_goals
      go_wp2
      go_meet
      exact ⟨rfl, _, rfl, hr⟩
  case rest =>
  obtain ⟨rfl, b, rfl, hpt⟩ := hcut
  go_upto_if 41 with fail
  go_cut [0, 4] (fun s0 s4 wx => wx = wc ∧ ∃ (t3 : ByteArray) (f : Nat), s0 = .string t3 ∧ s4 = .int .i64 f ∧ Hid (frac t2.data.toList = (f, t3.data.toList)) ∧ t3.size ≤ 1048576)
  case first =>
    cases b
    · have h := hpt.2 rfl
      go_wp2
      go_meet
      exact ⟨rfl, _, 0, rfl, rfl, h, hs2⟩
    · obtain ⟨h0, h⟩ := hpt.1 rfl
      have h0' : 1 ≤ t2.size := h0
      have hz := tx_drop_size t2 1
      have e1 : Hid ((t2.extract 1 t2.size).data.toList = t2.data.toList.drop 1) := tx_drop t2 1
      have e2 : (t2.extract 1 t2.size).size = t2.size - 1 := by rw [tx_size, tx_drop, List.length_drop, ← tx_size]
      obtain ⟨f, hf, hfl, hcall⟩ := ld_named (t2.extract 1 t2.size) (by omega)
      rw [e2] at hfl
      clear hpt e2 hz
      have HH : Hid (frac t2.data.toList = _) := h
      clear h
      go_wp2_with (go_at_call 22; refine (hcall.out _).mono ?_; rintro e w' ⟨rfl, rfl⟩)
      go_meet
      refine ⟨rfl, _, f, rfl, rfl, ?_, ?_⟩
      · unfold Hid
        rw [HH.out, tx_drop, List.drop_drop, ← e1.out, hf.out]
      · have := tx_drop_size t2 (1 + f); omega
  case rest =>
  obtain ⟨rfl, t3, f, rfl, rfl, hfr, hs3⟩ := hcut
  have hnum : Hid (num (strip s.data.toList) = if wh = 0 ∧ f = 0 then false else expo t3.data.toList) := by
    unfold Hid
    rw [num, hwh'.out, ← hwh'.out, ← hl2.out, hfr.out]
  clear hpt hfr hl2 hwh' ht
  go_upto_region 19 with fail
  go_cut [54] (fun s54 wx => wx = wc ∧ ∃ b, s54 = .bool b ∧ Zr wh f b)
  case first =>
    by_cases hw0 : wh = 0
    · have g1 : ((wh : Int) == 0) = true := by rw [hw0]; rfl
      by_cases hf0 : f = 0
      · have g2 : ((f : Int) == 0) = true := by rw [hf0]; rfl
        have hr : Zr wh f true := ⟨fun _ => ⟨hw0, hf0⟩, fun h => (nomatch h)⟩
        clear hw0 hf0
        go_wp2
        go_meet
        exact ⟨rfl, _, rfl, hr⟩
      · have g2 : ((f : Int) == 0) = false := beq_eq_false_iff_ne.2 (by omega)
        have hr : Zr wh f false := ⟨fun h => (nomatch h), fun _ h => hf0 h.2⟩
        clear hw0 hf0
        go_wp2
        go_meet
        exact ⟨rfl, _, rfl, hr⟩
    · have g1 : ((wh : Int) == 0) = false := beq_eq_false_iff_ne.2 (by omega)
      have hr : Zr wh f false := ⟨fun h => (nomatch h), fun _ h => hw0 h.1⟩
      clear hw0
      go_wp2
      go_meet
      exact ⟨rfl, _, rfl, hr⟩
  case rest =>
  obtain ⟨rfl, b, rfl, hz⟩ := hcut
  cases b
  case true =>
    have hnum' : Hid (num (strip s.data.toList) = false) := by unfold Hid; rw [hnum.out, if_pos (hz.1 rfl)]
    clear hz hnum
    go_wp2
    go_ret
    exact ⟨ret_bool (by rw [hnum'.out]), rfl⟩
  case false =>
  have hnum' : Hid (num (strip s.data.toList) = expo t3.data.toList) := by unfold Hid; rw [hnum.out, if_neg (hz.2 rfl)]
  clear hz hnum
  go_upto_region 21 with fail
  go_cut [66] (fun s66 wx => wx = wc ∧ ∃ b, s66 = .bool b ∧ Ex t3 b)
  case first =>
    rcases ex_cases t3 with ⟨h0, he, hr⟩ | ⟨h0, he, hc, hr⟩ | ⟨h0, he, hc, hr⟩ | ⟨h0, he, hc, hc', hr⟩
    all_goals
      go_wp2
      go_meet
      exact ⟨rfl, _, rfl, hr⟩
  case rest =>
  obtain ⟨rfl, b, rfl, hex⟩ := hcut
  cases b
  case false =>
    have hfin : Hid (num (strip s.data.toList) = t3.toList.isEmpty) := by unfold Hid; rw [hnum'.out, hex.2 rfl, ByteArray.toList_eq]
    clear hex hnum'
    go_wp2
    go_ret
    exact ⟨ret_bool (by rw [hfin.out]), rfl⟩
  case true =>
  obtain ⟨h0, h⟩ := hex.1 rfl
  obtain ⟨t4, ht4, hl4, hs4⟩ : ∃ t4, t3.extract 1 t3.size = t4 ∧ Hid (t4.data.toList = t3.data.toList.drop 1) ∧ t4.size ≤ 1048576 :=
    ⟨_, rfl, tx_drop _ _, by have := tx_drop_size t3 1; omega⟩
  have hfin : Hid (num (strip s.data.toList) = if ld (strip t4.data.toList) = 0 then false else ((strip t4.data.toList).drop (ld (strip t4.data.toList))).isEmpty) := by
    unfold Hid; rw [hnum'.out, h, hl4.out]
  have h0' : 1 ≤ t3.size := h0
  clear hex h hnum' hl4
  go_upto_region 23 with fail
  go_cut [80] (fun s80 wx => wx = wc ∧ ∃ b, s80 = .bool b ∧ Sg t4 b)
  case first =>
    rcases head_cases t4 with ⟨h0, he, hT⟩ | ⟨h0, he, hc, hT⟩ | ⟨h0, he, hc, hT⟩ | ⟨h0, he, hc, hc', hT⟩
    all_goals
      first | (have hr := sg_true h0 hT) | (have hr := sg_false hT)
      clear hT
      go_wp2
      go_meet
      exact ⟨rfl, _, rfl, hr⟩
  case rest =>
  obtain ⟨rfl, b, rfl, hsg⟩ := hcut
  go_upto_if 80 with fail
  go_cut [0] (fun s0 wx => wx = wc ∧ ∃ t : ByteArray, s0 = .string t ∧ Hid (t.data.toList = strip t4.data.toList) ∧ t.size ≤ 1048576)
  case first =>
    cases b
    · have h := hsg.2 rfl
      go_wp2
      go_meet
      exact ⟨rfl, _, rfl, h.symm, hs4⟩
    · obtain ⟨h0, h⟩ := hsg.1 rfl
      have h0' : 1 ≤ t4.size := h0
      clear hsg
      go_wp2
      go_meet
      exact ⟨rfl, _, rfl, by unfold Hid; rw [tx_drop, h], by have := tx_drop_size t4 1; omega⟩
  case rest =>
  obtain ⟨rfl, t5, rfl, ht5, hs5⟩ := hcut
  obtain ⟨n, hn, hnl, hcall⟩ := ld_named t5 hs5
  have hfin' : Hid (num (strip s.data.toList) = if n = 0 then false else (t5.extract n t5.size).toList.isEmpty) := by
    unfold Hid; rw [hfin.out, ← ht5.out, hn.out, ByteArray.toList_eq, tx_drop]
  clear hfin ht5 hn
  by_cases hn0 : n = 0
  · have g : ((n : Int) == 0) = true := by rw [hn0]; rfl
    have hF : Hid (num (strip s.data.toList) = false) := by unfold Hid; rw [hfin'.out, if_pos hn0]
    clear hn0 hfin'
    go_wp2_with (go_at_call 22; refine (hcall.out _).mono ?_; rintro e w' ⟨rfl, rfl⟩)
    go_ret
    exact ⟨ret_bool (by rw [hF.out]), rfl⟩
  · have g : ((n : Int) == 0) = false := beq_eq_false_iff_ne.2 (by omega)
    have hF : Hid (num (strip s.data.toList) = (t5.extract n t5.size).toList.isEmpty) := by unfold Hid; rw [hfin'.out, if_neg hn0]
    clear hn0 hfin'
    go_wp2_with (go_at_call 22; refine (hcall.out _).mono ?_; rintro e w' ⟨rfl, rfl⟩)
    go_ret
    exact ⟨ret_bool (by rw [hF.out]), rfl⟩
end Go.Proofs.Qxb6000720a
