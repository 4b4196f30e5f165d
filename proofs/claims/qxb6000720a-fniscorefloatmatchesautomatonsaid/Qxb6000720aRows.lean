/-
  No cell of these rows narrows 'for every input' (looked for: loops, veiled, ifaces, maps, wideKeys, modest, calm, conditions, laid).
  DERIVED. THE GIVEN ROWS OF THIS SEAT. 5 by the template 'for every input the law returns true; each argument reads behind the call as it read before'; 0 by the template 'total and deterministic' (their statements: Qxb6000720aTotals.lean).
  GIVEN WITH THE SEED: the statements are not yours to turn. If you find one false, say at which input.
  Laid BY PROGRAM, IN A SANDBOX (cutbox-rows.mjs): the forced cells as the released guide's own fill.sh prints them over the translation a92ddf53aec361bc… (all of the seat's roots in one cut). By AI agents, Wed Nov 11 2026. No macro, syntax, notation, axiom, sorry.
-/
import Derived.Test.Qxb6000720aChecked
import GoSem.Claim
import GoSem.ClaimJoined
import GoSem.ClaimMapViews
import Derived.JoinedTies
import Derived.KernelRfl
namespace Go.Proofs.Qxb6000720a
/- THE CELL 'sum', in the pinned program and in every row, IS THE sha256 OF THE DUMP (.gsa) THAT Qxb6000720aProg.lean LOADS. Nothing in Lean hashes anything: it is a label: what it is worth is what the hold of that sum in a sandbox is worth. -/
noncomputable def Try.pinned : Pinned := { name := "qxb6000720a", sum := "a92ddf53aec361bcf26362cdcad6bf3829a4cff9415643e4b3c4a2d1c7eb4723", checked := Try.checked }
namespace Rows
def none {H : Type} : Left H := { results := [], args := [] }

/-- 'zzlaws_root_b1.FnIsCoreFloatMatchesAutomaton': WHATEVER THE INPUT: true; the input reads as it did. -/
def fnIsCoreFloatMatchesAutomatonSpec : ChangeSpec := { name := "fnIsCoreFloatMatchesAutomaton", fn := fun _ => fun
  | [d] => { results := [.lit (.bool true)], args := [d] }
  | _ => none }
def fnIsCoreFloatMatchesAutomatonRow : OpenClaim := { program := "qxb6000720a", sum := "a92ddf53aec361bcf26362cdcad6bf3829a4cff9415643e4b3c4a2d1c7eb4723", func := "example.com/laminate/laminate/zzlaws_root_b1.FnIsCoreFloatMatchesAutomaton", spec := "fnIsCoreFloatMatchesAutomaton", apart := false }
def FnIsCoreFloatMatchesAutomatonSaid : Prop := fnIsCoreFloatMatchesAutomatonRow.holds Try.pinned (OpenSpec.ofChange fnIsCoreFloatMatchesAutomatonSpec)

/-- ITS FALSE NEIGHBOUR: 'it returns false'. Refute it at one input. -/
def fnIsCoreFloatMatchesAutomatonWrong : ChangeSpec := { name := "fnIsCoreFloatMatchesAutomaton", fn := fun _ => fun
  | [d] => { results := [.lit (.bool false)], args := [d] }
  | _ => none }
def FnIsCoreFloatMatchesAutomatonWrongFalsely : Prop := fnIsCoreFloatMatchesAutomatonRow.holds Try.pinned (OpenSpec.ofChange fnIsCoreFloatMatchesAutomatonWrong)

/-- 'zzlaws_root_b1.FnIsCoreFloatSignInvariant': WHATEVER THE INPUT: true; the input reads as it did. -/
def fnIsCoreFloatSignInvariantSpec : ChangeSpec := { name := "fnIsCoreFloatSignInvariant", fn := fun _ => fun
  | [d] => { results := [.lit (.bool true)], args := [d] }
  | _ => none }
def fnIsCoreFloatSignInvariantRow : OpenClaim := { program := "qxb6000720a", sum := "a92ddf53aec361bcf26362cdcad6bf3829a4cff9415643e4b3c4a2d1c7eb4723", func := "example.com/laminate/laminate/zzlaws_root_b1.FnIsCoreFloatSignInvariant", spec := "fnIsCoreFloatSignInvariant", apart := false }
def FnIsCoreFloatSignInvariantSaid : Prop := fnIsCoreFloatSignInvariantRow.holds Try.pinned (OpenSpec.ofChange fnIsCoreFloatSignInvariantSpec)

/-- ITS FALSE NEIGHBOUR: 'it returns false'. Refute it at one input. -/
def fnIsCoreFloatSignInvariantWrong : ChangeSpec := { name := "fnIsCoreFloatSignInvariant", fn := fun _ => fun
  | [d] => { results := [.lit (.bool false)], args := [d] }
  | _ => none }
def FnIsCoreFloatSignInvariantWrongFalsely : Prop := fnIsCoreFloatSignInvariantRow.holds Try.pinned (OpenSpec.ofChange fnIsCoreFloatSignInvariantWrong)

/-- 'zzlaws_root_b1.FnSplitPathListLayout': WHATEVER THE INPUT: true; the input reads as it did. -/
def fnSplitPathListLayoutSpec : ChangeSpec := { name := "fnSplitPathListLayout", fn := fun _ => fun
  | [d] => { results := [.lit (.bool true)], args := [d] }
  | _ => none }
def fnSplitPathListLayoutRow : OpenClaim := { program := "qxb6000720a", sum := "a92ddf53aec361bcf26362cdcad6bf3829a4cff9415643e4b3c4a2d1c7eb4723", func := "example.com/laminate/laminate/zzlaws_root_b1.FnSplitPathListLayout", spec := "fnSplitPathListLayout", apart := false }
def FnSplitPathListLayoutSaid : Prop := fnSplitPathListLayoutRow.holds Try.pinned (OpenSpec.ofChange fnSplitPathListLayoutSpec)

/-- ITS FALSE NEIGHBOUR: 'it returns false'. Refute it at one input. -/
def fnSplitPathListLayoutWrong : ChangeSpec := { name := "fnSplitPathListLayout", fn := fun _ => fun
  | [d] => { results := [.lit (.bool false)], args := [d] }
  | _ => none }
def FnSplitPathListLayoutWrongFalsely : Prop := fnSplitPathListLayoutRow.holds Try.pinned (OpenSpec.ofChange fnSplitPathListLayoutWrong)

/-- 'zzlaws_root_b1.FnSplitPathListConcatenates': WHATEVER THE INPUT: true; the input reads as it did. -/
def fnSplitPathListConcatenatesSpec : ChangeSpec := { name := "fnSplitPathListConcatenates", fn := fun _ => fun
  | [d1, d2] => { results := [.lit (.bool true)], args := [d1, d2] }
  | _ => none }
def fnSplitPathListConcatenatesRow : OpenClaim := { program := "qxb6000720a", sum := "a92ddf53aec361bcf26362cdcad6bf3829a4cff9415643e4b3c4a2d1c7eb4723", func := "example.com/laminate/laminate/zzlaws_root_b1.FnSplitPathListConcatenates", spec := "fnSplitPathListConcatenates", apart := false }
def FnSplitPathListConcatenatesSaid : Prop := fnSplitPathListConcatenatesRow.holds Try.pinned (OpenSpec.ofChange fnSplitPathListConcatenatesSpec)

/-- ITS FALSE NEIGHBOUR: 'it returns false'. Refute it at one input. -/
def fnSplitPathListConcatenatesWrong : ChangeSpec := { name := "fnSplitPathListConcatenates", fn := fun _ => fun
  | [d1, d2] => { results := [.lit (.bool false)], args := [d1, d2] }
  | _ => none }
def FnSplitPathListConcatenatesWrongFalsely : Prop := fnSplitPathListConcatenatesRow.holds Try.pinned (OpenSpec.ofChange fnSplitPathListConcatenatesWrong)

/-- 'zzlaws_root_b1.FnSplitPathListPlainSplit': WHATEVER THE INPUT: true; the input reads as it did. -/
def fnSplitPathListPlainSplitSpec : ChangeSpec := { name := "fnSplitPathListPlainSplit", fn := fun _ => fun
  | [d] => { results := [.lit (.bool true)], args := [d] }
  | _ => none }
def fnSplitPathListPlainSplitRow : OpenClaim := { program := "qxb6000720a", sum := "a92ddf53aec361bcf26362cdcad6bf3829a4cff9415643e4b3c4a2d1c7eb4723", func := "example.com/laminate/laminate/zzlaws_root_b1.FnSplitPathListPlainSplit", spec := "fnSplitPathListPlainSplit", apart := false }
def FnSplitPathListPlainSplitSaid : Prop := fnSplitPathListPlainSplitRow.holds Try.pinned (OpenSpec.ofChange fnSplitPathListPlainSplitSpec)

/-- ITS FALSE NEIGHBOUR: 'it returns false'. Refute it at one input. -/
def fnSplitPathListPlainSplitWrong : ChangeSpec := { name := "fnSplitPathListPlainSplit", fn := fun _ => fun
  | [d] => { results := [.lit (.bool false)], args := [d] }
  | _ => none }
def FnSplitPathListPlainSplitWrongFalsely : Prop := fnSplitPathListPlainSplitRow.holds Try.pinned (OpenSpec.ofChange fnSplitPathListPlainSplitWrong)

end Rows
end Go.Proofs.Qxb6000720a
