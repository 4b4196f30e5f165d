/-
  No cell of these rows narrows 'for every input' (looked for: loops, veiled, ifaces, maps, wideKeys, modest, calm, conditions, laid).
  DERIVED. THE GIVEN ROWS OF THIS SEAT. 7 by the template 'for every input the law returns true; each argument reads behind the call as it read before'; 0 by the template 'total and deterministic' (their statements: Qxb6000819aTotals.lean).
  GIVEN WITH THE SEED: the statements are not yours to turn. If you find one false, say at which input.
  Laid BY PROGRAM, IN A SANDBOX (cutbox-rows.mjs): the forced cells as the released guide's own fill.sh prints them over the translation 3a2d985010013542… (all of the seat's roots in one cut). By AI agents, Wed Nov 11 2026. No macro, syntax, notation, axiom, sorry.
-/
import Derived.Test.Qxb6000819aChecked
import GoSem.Claim
import GoSem.ClaimJoined
import GoSem.ClaimMapViews
import Derived.JoinedTies
import Derived.KernelRfl
namespace Go.Proofs.Qxb6000819a
/- THE CELL 'sum', in the pinned program and in every row, IS THE sha256 OF THE DUMP (.gsa) THAT Qxb6000819aProg.lean LOADS. Nothing in Lean hashes anything: it is a label: what it is worth is what the hold of that sum in a sandbox is worth. -/
noncomputable def Try.pinned : Pinned := { name := "qxb6000819a", sum := "3a2d9850100135423d81583e026e15169575dca74607cd447bd7ec33a00fc5fc", checked := Try.checked }
namespace Rows
def none {H : Type} : Left H := { results := [], args := [] }

/-- 'zzlaws_internal_checker_b1.FnEscapedRuneReadsEveryHexEscape': WHATEVER THE INPUT: true; the input reads as it did. -/
def fnEscapedRuneReadsEveryHexEscapeSpec : ChangeSpec := { name := "fnEscapedRuneReadsEveryHexEscape", fn := fun _ => fun
  | [d1, d2, d3] => { results := [.lit (.bool true)], args := [d1, d2, d3] }
  | _ => none }
def fnEscapedRuneReadsEveryHexEscapeRow : OpenClaim := { program := "qxb6000819a", sum := "3a2d9850100135423d81583e026e15169575dca74607cd447bd7ec33a00fc5fc", func := "example.com/quorate/quorate/zzlaws_internal_checker_b1.FnEscapedRuneReadsEveryHexEscape", spec := "fnEscapedRuneReadsEveryHexEscape", apart := false }
def FnEscapedRuneReadsEveryHexEscapeSaid : Prop := fnEscapedRuneReadsEveryHexEscapeRow.holds Try.pinned (OpenSpec.ofChange fnEscapedRuneReadsEveryHexEscapeSpec)

/-- ITS FALSE NEIGHBOUR: 'it returns false'. Refute it at one input. -/
def fnEscapedRuneReadsEveryHexEscapeWrong : ChangeSpec := { name := "fnEscapedRuneReadsEveryHexEscape", fn := fun _ => fun
  | [d1, d2, d3] => { results := [.lit (.bool false)], args := [d1, d2, d3] }
  | _ => none }
def FnEscapedRuneReadsEveryHexEscapeWrongFalsely : Prop := fnEscapedRuneReadsEveryHexEscapeRow.holds Try.pinned (OpenSpec.ofChange fnEscapedRuneReadsEveryHexEscapeWrong)

/-- 'zzlaws_internal_checker_b1.FnEscapedRuneAnswerIsMinusOneOrTheDigits': WHATEVER THE INPUT: true; the input reads as it did. -/
def fnEscapedRuneAnswerIsMinusOneOrTheDigitsSpec : ChangeSpec := { name := "fnEscapedRuneAnswerIsMinusOneOrTheDigits", fn := fun _ => fun
  | [d] => { results := [.lit (.bool true)], args := [d] }
  | _ => none }
def fnEscapedRuneAnswerIsMinusOneOrTheDigitsRow : OpenClaim := { program := "qxb6000819a", sum := "3a2d9850100135423d81583e026e15169575dca74607cd447bd7ec33a00fc5fc", func := "example.com/quorate/quorate/zzlaws_internal_checker_b1.FnEscapedRuneAnswerIsMinusOneOrTheDigits", spec := "fnEscapedRuneAnswerIsMinusOneOrTheDigits", apart := false }
def FnEscapedRuneAnswerIsMinusOneOrTheDigitsSaid : Prop := fnEscapedRuneAnswerIsMinusOneOrTheDigitsRow.holds Try.pinned (OpenSpec.ofChange fnEscapedRuneAnswerIsMinusOneOrTheDigitsSpec)

/-- ITS FALSE NEIGHBOUR: 'it returns false'. Refute it at one input. -/
def fnEscapedRuneAnswerIsMinusOneOrTheDigitsWrong : ChangeSpec := { name := "fnEscapedRuneAnswerIsMinusOneOrTheDigits", fn := fun _ => fun
  | [d] => { results := [.lit (.bool false)], args := [d] }
  | _ => none }
def FnEscapedRuneAnswerIsMinusOneOrTheDigitsWrongFalsely : Prop := fnEscapedRuneAnswerIsMinusOneOrTheDigitsRow.holds Try.pinned (OpenSpec.ofChange fnEscapedRuneAnswerIsMinusOneOrTheDigitsWrong)

/-- 'zzlaws_internal_checker_b1.FnEscapedRuneReadsOnlySixBytes': WHATEVER THE INPUT: true; the input reads as it did. -/
def fnEscapedRuneReadsOnlySixBytesSpec : ChangeSpec := { name := "fnEscapedRuneReadsOnlySixBytes", fn := fun _ => fun
  | [d1, d2] => { results := [.lit (.bool true)], args := [d1, d2] }
  | _ => none }
def fnEscapedRuneReadsOnlySixBytesRow : OpenClaim := { program := "qxb6000819a", sum := "3a2d9850100135423d81583e026e15169575dca74607cd447bd7ec33a00fc5fc", func := "example.com/quorate/quorate/zzlaws_internal_checker_b1.FnEscapedRuneReadsOnlySixBytes", spec := "fnEscapedRuneReadsOnlySixBytes", apart := false }
def FnEscapedRuneReadsOnlySixBytesSaid : Prop := fnEscapedRuneReadsOnlySixBytesRow.holds Try.pinned (OpenSpec.ofChange fnEscapedRuneReadsOnlySixBytesSpec)

/-- ITS FALSE NEIGHBOUR: 'it returns false'. Refute it at one input. -/
def fnEscapedRuneReadsOnlySixBytesWrong : ChangeSpec := { name := "fnEscapedRuneReadsOnlySixBytes", fn := fun _ => fun
  | [d1, d2] => { results := [.lit (.bool false)], args := [d1, d2] }
  | _ => none }
def FnEscapedRuneReadsOnlySixBytesWrongFalsely : Prop := fnEscapedRuneReadsOnlySixBytesRow.holds Try.pinned (OpenSpec.ofChange fnEscapedRuneReadsOnlySixBytesWrong)

/-- 'zzlaws_internal_checker_b1.FnSkipSpaceStopsAtTheFirstNonSpace': WHATEVER THE INPUT: true; the input reads as it did. -/
def fnSkipSpaceStopsAtTheFirstNonSpaceSpec : ChangeSpec := { name := "fnSkipSpaceStopsAtTheFirstNonSpace", fn := fun _ => fun
  | [d1, d2] => { results := [.lit (.bool true)], args := [d1, d2] }
  | _ => none }
def fnSkipSpaceStopsAtTheFirstNonSpaceRow : OpenClaim := { program := "qxb6000819a", sum := "3a2d9850100135423d81583e026e15169575dca74607cd447bd7ec33a00fc5fc", func := "example.com/quorate/quorate/zzlaws_internal_checker_b1.FnSkipSpaceStopsAtTheFirstNonSpace", spec := "fnSkipSpaceStopsAtTheFirstNonSpace", apart := false }
def FnSkipSpaceStopsAtTheFirstNonSpaceSaid : Prop := fnSkipSpaceStopsAtTheFirstNonSpaceRow.holds Try.pinned (OpenSpec.ofChange fnSkipSpaceStopsAtTheFirstNonSpaceSpec)

/-- ITS FALSE NEIGHBOUR: 'it returns false'. Refute it at one input. -/
def fnSkipSpaceStopsAtTheFirstNonSpaceWrong : ChangeSpec := { name := "fnSkipSpaceStopsAtTheFirstNonSpace", fn := fun _ => fun
  | [d1, d2] => { results := [.lit (.bool false)], args := [d1, d2] }
  | _ => none }
def FnSkipSpaceStopsAtTheFirstNonSpaceWrongFalsely : Prop := fnSkipSpaceStopsAtTheFirstNonSpaceRow.holds Try.pinned (OpenSpec.ofChange fnSkipSpaceStopsAtTheFirstNonSpaceWrong)

/-- 'zzlaws_internal_checker_b1.FnSkipSpaceIsIdempotent': WHATEVER THE INPUT: true; the input reads as it did. -/
def fnSkipSpaceIsIdempotentSpec : ChangeSpec := { name := "fnSkipSpaceIsIdempotent", fn := fun _ => fun
  | [d1, d2] => { results := [.lit (.bool true)], args := [d1, d2] }
  | _ => none }
def fnSkipSpaceIsIdempotentRow : OpenClaim := { program := "qxb6000819a", sum := "3a2d9850100135423d81583e026e15169575dca74607cd447bd7ec33a00fc5fc", func := "example.com/quorate/quorate/zzlaws_internal_checker_b1.FnSkipSpaceIsIdempotent", spec := "fnSkipSpaceIsIdempotent", apart := false }
def FnSkipSpaceIsIdempotentSaid : Prop := fnSkipSpaceIsIdempotentRow.holds Try.pinned (OpenSpec.ofChange fnSkipSpaceIsIdempotentSpec)

/-- ITS FALSE NEIGHBOUR: 'it returns false'. Refute it at one input. -/
def fnSkipSpaceIsIdempotentWrong : ChangeSpec := { name := "fnSkipSpaceIsIdempotent", fn := fun _ => fun
  | [d1, d2] => { results := [.lit (.bool false)], args := [d1, d2] }
  | _ => none }
def FnSkipSpaceIsIdempotentWrongFalsely : Prop := fnSkipSpaceIsIdempotentRow.holds Try.pinned (OpenSpec.ofChange fnSkipSpaceIsIdempotentWrong)

/-- 'zzlaws_internal_checker_b1.FnSkipSpaceIsMonotone': WHATEVER THE INPUT: true; the input reads as it did. -/
def fnSkipSpaceIsMonotoneSpec : ChangeSpec := { name := "fnSkipSpaceIsMonotone", fn := fun _ => fun
  | [d1, d2, d3] => { results := [.lit (.bool true)], args := [d1, d2, d3] }
  | _ => none }
def fnSkipSpaceIsMonotoneRow : OpenClaim := { program := "qxb6000819a", sum := "3a2d9850100135423d81583e026e15169575dca74607cd447bd7ec33a00fc5fc", func := "example.com/quorate/quorate/zzlaws_internal_checker_b1.FnSkipSpaceIsMonotone", spec := "fnSkipSpaceIsMonotone", apart := false }
def FnSkipSpaceIsMonotoneSaid : Prop := fnSkipSpaceIsMonotoneRow.holds Try.pinned (OpenSpec.ofChange fnSkipSpaceIsMonotoneSpec)

/-- ITS FALSE NEIGHBOUR: 'it returns false'. Refute it at one input. -/
def fnSkipSpaceIsMonotoneWrong : ChangeSpec := { name := "fnSkipSpaceIsMonotone", fn := fun _ => fun
  | [d1, d2, d3] => { results := [.lit (.bool false)], args := [d1, d2, d3] }
  | _ => none }
def FnSkipSpaceIsMonotoneWrongFalsely : Prop := fnSkipSpaceIsMonotoneRow.holds Try.pinned (OpenSpec.ofChange fnSkipSpaceIsMonotoneWrong)

/-- 'zzlaws_internal_checker_b1.FnOpChunksAddHoldsEveryOpInPlace': WHATEVER THE INPUT: true; the input reads as it did. -/
def fnOpChunksAddHoldsEveryOpInPlaceSpec : ChangeSpec := { name := "fnOpChunksAddHoldsEveryOpInPlace", fn := fun _ => fun
  | [d1, d2, d3] => { results := [.lit (.bool true)], args := [d1, d2, d3] }
  | _ => none }
def fnOpChunksAddHoldsEveryOpInPlaceRow : OpenClaim := { program := "qxb6000819a", sum := "3a2d9850100135423d81583e026e15169575dca74607cd447bd7ec33a00fc5fc", func := "example.com/quorate/quorate/zzlaws_internal_checker_b1.FnOpChunksAddHoldsEveryOpInPlace", spec := "fnOpChunksAddHoldsEveryOpInPlace", apart := false }
def FnOpChunksAddHoldsEveryOpInPlaceSaid : Prop := fnOpChunksAddHoldsEveryOpInPlaceRow.holds Try.pinned (OpenSpec.ofChange fnOpChunksAddHoldsEveryOpInPlaceSpec)

/-- ITS FALSE NEIGHBOUR: 'it returns false'. Refute it at one input. -/
def fnOpChunksAddHoldsEveryOpInPlaceWrong : ChangeSpec := { name := "fnOpChunksAddHoldsEveryOpInPlace", fn := fun _ => fun
  | [d1, d2, d3] => { results := [.lit (.bool false)], args := [d1, d2, d3] }
  | _ => none }
def FnOpChunksAddHoldsEveryOpInPlaceWrongFalsely : Prop := fnOpChunksAddHoldsEveryOpInPlaceRow.holds Try.pinned (OpenSpec.ofChange fnOpChunksAddHoldsEveryOpInPlaceWrong)

end Rows
end Go.Proofs.Qxb6000819a
