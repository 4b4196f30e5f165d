/-
  No cell of these rows narrows 'for every input' (looked for: loops, veiled, ifaces, maps, wideKeys, modest, calm, conditions, laid).
  DERIVED. THE GIVEN ROWS OF THIS SEAT. 3 by the template 'for every input the law returns true; each argument reads behind the call as it read before'; 0 by the template 'total and deterministic' (their statements: Qxb6600007aTotals.lean).
  GIVEN WITH THE SEED: the statements are not yours to turn. If you find one false, say at which input.
  Laid BY PROGRAM, IN A SANDBOX (cutbox-rows.mjs): the forced cells as the released guide's own fill.sh prints them over the translation bbf3b06c588bcfa0… (all of the seat's roots in one cut). By AI agents, Wed Nov 11 2026. No macro, syntax, notation, axiom, sorry.
-/
import Derived.Test.Qxb6600007aChecked
import GoSem.Claim
import GoSem.ClaimJoined
import GoSem.ClaimMapViews
import Derived.JoinedTies
import Derived.KernelRfl
namespace Go.Proofs.Qxb6600007a
/- THE CELL 'sum', in the pinned program and in every row, IS THE sha256 OF THE DUMP (.gsa) THAT Qxb6600007aProg.lean LOADS. Nothing in Lean hashes anything: it is a label: what it is worth is what the hold of that sum in a sandbox is worth. -/
noncomputable def Try.pinned : Pinned := { name := "qxb6600007a", sum := "bbf3b06c588bcfa0656dacfaa538debea3fa734d343b5a9ce09ecb04d0840aa6", checked := Try.checked }
namespace Rows
def none {H : Type} : Left H := { results := [], args := [] }

/-- 'zzlaws_internal_wiretime_b1.FnAppendDigitsParsesBackAndKeepsPrefix': WHATEVER THE INPUT: true; the input reads as it did. -/
def fnAppendDigitsParsesBackAndKeepsPrefixSpec : ChangeSpec := { name := "fnAppendDigitsParsesBackAndKeepsPrefix", fn := fun _ => fun
  | [d1, d2, d3] => { results := [.lit (.bool true)], args := [d1, d2, d3] }
  | _ => none }
def fnAppendDigitsParsesBackAndKeepsPrefixRow : OpenClaim := { program := "qxb6600007a", sum := "bbf3b06c588bcfa0656dacfaa538debea3fa734d343b5a9ce09ecb04d0840aa6", func := "example.com/pulsewatch/pulsewatch/zzlaws_internal_wiretime_b1.FnAppendDigitsParsesBackAndKeepsPrefix", spec := "fnAppendDigitsParsesBackAndKeepsPrefix", apart := false }
def FnAppendDigitsParsesBackAndKeepsPrefixSaid : Prop := fnAppendDigitsParsesBackAndKeepsPrefixRow.holds Try.pinned (OpenSpec.ofChange fnAppendDigitsParsesBackAndKeepsPrefixSpec)

/-- ITS FALSE NEIGHBOUR: 'it returns false'. Refute it at one input. -/
def fnAppendDigitsParsesBackAndKeepsPrefixWrong : ChangeSpec := { name := "fnAppendDigitsParsesBackAndKeepsPrefix", fn := fun _ => fun
  | [d1, d2, d3] => { results := [.lit (.bool false)], args := [d1, d2, d3] }
  | _ => none }
def FnAppendDigitsParsesBackAndKeepsPrefixWrongFalsely : Prop := fnAppendDigitsParsesBackAndKeepsPrefixRow.holds Try.pinned (OpenSpec.ofChange fnAppendDigitsParsesBackAndKeepsPrefixWrong)

/-- 'zzlaws_internal_wiretime_b1.FnAppendDigitsOrderMatchesNumbers': WHATEVER THE INPUT: true; the input reads as it did. -/
def fnAppendDigitsOrderMatchesNumbersSpec : ChangeSpec := { name := "fnAppendDigitsOrderMatchesNumbers", fn := fun _ => fun
  | [d1, d2, d3] => { results := [.lit (.bool true)], args := [d1, d2, d3] }
  | _ => none }
def fnAppendDigitsOrderMatchesNumbersRow : OpenClaim := { program := "qxb6600007a", sum := "bbf3b06c588bcfa0656dacfaa538debea3fa734d343b5a9ce09ecb04d0840aa6", func := "example.com/pulsewatch/pulsewatch/zzlaws_internal_wiretime_b1.FnAppendDigitsOrderMatchesNumbers", spec := "fnAppendDigitsOrderMatchesNumbers", apart := false }
def FnAppendDigitsOrderMatchesNumbersSaid : Prop := fnAppendDigitsOrderMatchesNumbersRow.holds Try.pinned (OpenSpec.ofChange fnAppendDigitsOrderMatchesNumbersSpec)

/-- ITS FALSE NEIGHBOUR: 'it returns false'. Refute it at one input. -/
def fnAppendDigitsOrderMatchesNumbersWrong : ChangeSpec := { name := "fnAppendDigitsOrderMatchesNumbers", fn := fun _ => fun
  | [d1, d2, d3] => { results := [.lit (.bool false)], args := [d1, d2, d3] }
  | _ => none }
def FnAppendDigitsOrderMatchesNumbersWrongFalsely : Prop := fnAppendDigitsOrderMatchesNumbersRow.holds Try.pinned (OpenSpec.ofChange fnAppendDigitsOrderMatchesNumbersWrong)

/-- 'zzlaws_internal_wiretime_b1.FnAppendDigitsSplitsAcrossCalls': WHATEVER THE INPUT: true; the input reads as it did. -/
def fnAppendDigitsSplitsAcrossCallsSpec : ChangeSpec := { name := "fnAppendDigitsSplitsAcrossCalls", fn := fun _ => fun
  | [d1, d2, d3, d4, d5] => { results := [.lit (.bool true)], args := [d1, d2, d3, d4, d5] }
  | _ => none }
def fnAppendDigitsSplitsAcrossCallsRow : OpenClaim := { program := "qxb6600007a", sum := "bbf3b06c588bcfa0656dacfaa538debea3fa734d343b5a9ce09ecb04d0840aa6", func := "example.com/pulsewatch/pulsewatch/zzlaws_internal_wiretime_b1.FnAppendDigitsSplitsAcrossCalls", spec := "fnAppendDigitsSplitsAcrossCalls", apart := false }
def FnAppendDigitsSplitsAcrossCallsSaid : Prop := fnAppendDigitsSplitsAcrossCallsRow.holds Try.pinned (OpenSpec.ofChange fnAppendDigitsSplitsAcrossCallsSpec)

/-- ITS FALSE NEIGHBOUR: 'it returns false'. Refute it at one input. -/
def fnAppendDigitsSplitsAcrossCallsWrong : ChangeSpec := { name := "fnAppendDigitsSplitsAcrossCalls", fn := fun _ => fun
  | [d1, d2, d3, d4, d5] => { results := [.lit (.bool false)], args := [d1, d2, d3, d4, d5] }
  | _ => none }
def FnAppendDigitsSplitsAcrossCallsWrongFalsely : Prop := fnAppendDigitsSplitsAcrossCallsRow.holds Try.pinned (OpenSpec.ofChange fnAppendDigitsSplitsAcrossCallsWrong)

end Rows
end Go.Proofs.Qxb6600007a
