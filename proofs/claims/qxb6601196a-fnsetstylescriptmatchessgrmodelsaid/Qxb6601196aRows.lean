/-
  NARROWER THAN 'FOR EVERY INPUT', by the rows' own cells (each row's printed sentence says how): FnMergeConcatenatesKeepsSizesAndHeap: loops · FnMergeDepthAtMostSum: loops.
  DERIVED. THE GIVEN ROWS OF THIS SEAT. 6 by the template 'for every input the law returns true; each argument reads behind the call as it read before'; 0 by the template 'total and deterministic' (their statements: Qxb6601196aTotals.lean).
  GIVEN WITH THE SEED: the statements are not yours to turn. If you find one false, say at which input.
  Laid BY PROGRAM, IN A SANDBOX (cutbox-rows.mjs): the forced cells as the released guide's own fill.sh prints them over the translation 84fad81e65e3deec… (all of the seat's roots in one cut). By AI agents, Wed Nov 11 2026. No macro, syntax, notation, axiom, sorry.
-/
import Derived.Test.Qxb6601196aChecked
import GoSem.Claim
import GoSem.ClaimJoined
import GoSem.ClaimMapViews
import Derived.JoinedTies
import Derived.KernelRfl
namespace Go.Proofs.Qxb6601196a
/- THE CELL 'sum', in the pinned program and in every row, IS THE sha256 OF THE DUMP (.gsa) THAT Qxb6601196aProg.lean LOADS. Nothing in Lean hashes anything: it is a label: what it is worth is what the hold of that sum in a sandbox is worth. -/
noncomputable def Try.pinned : Pinned := { name := "qxb6601196a", sum := "84fad81e65e3deec19a4939cefff6307eed9b4f3e1bd136adf8f8276de8ed7b9", checked := Try.checked }
namespace Rows
def none {H : Type} : Left H := { results := [], args := [] }

/-- 'zzlaws_internal_terminal_b1.FnExtendedColorDecodesItsEncoding': WHATEVER THE INPUT: true; the input reads as it did. -/
def fnExtendedColorDecodesItsEncodingSpec : ChangeSpec := { name := "fnExtendedColorDecodesItsEncoding", fn := fun _ => fun
  | [d1, d2, d3, d4, d5, d6] => { results := [.lit (.bool true)], args := [d1, d2, d3, d4, d5, d6] }
  | _ => none }
def fnExtendedColorDecodesItsEncodingRow : OpenClaim := { program := "qxb6601196a", sum := "84fad81e65e3deec19a4939cefff6307eed9b4f3e1bd136adf8f8276de8ed7b9", func := "example.com/carillon/carillon/zzlaws_internal_terminal_b1.FnExtendedColorDecodesItsEncoding", spec := "fnExtendedColorDecodesItsEncoding", plainKeys := false, apart := false }
def FnExtendedColorDecodesItsEncodingSaid : Prop := fnExtendedColorDecodesItsEncodingRow.holds Try.pinned (OpenSpec.ofChange fnExtendedColorDecodesItsEncodingSpec)

/-- ITS FALSE NEIGHBOUR: 'it returns false'. Refute it at one input. -/
def fnExtendedColorDecodesItsEncodingWrong : ChangeSpec := { name := "fnExtendedColorDecodesItsEncoding", fn := fun _ => fun
  | [d1, d2, d3, d4, d5, d6] => { results := [.lit (.bool false)], args := [d1, d2, d3, d4, d5, d6] }
  | _ => none }
def FnExtendedColorDecodesItsEncodingWrongFalsely : Prop := fnExtendedColorDecodesItsEncodingRow.holds Try.pinned (OpenSpec.ofChange fnExtendedColorDecodesItsEncodingWrong)

/-- 'zzlaws_internal_terminal_b1.FnExtendedColorDependsOnlyOnWhatItTakes': WHATEVER THE INPUT: true; the input reads as it did. -/
def fnExtendedColorDependsOnlyOnWhatItTakesSpec : ChangeSpec := { name := "fnExtendedColorDependsOnlyOnWhatItTakes", fn := fun _ => fun
  | [d] => { results := [.lit (.bool true)], args := [d] }
  | _ => none }
def fnExtendedColorDependsOnlyOnWhatItTakesRow : OpenClaim := { program := "qxb6601196a", sum := "84fad81e65e3deec19a4939cefff6307eed9b4f3e1bd136adf8f8276de8ed7b9", func := "example.com/carillon/carillon/zzlaws_internal_terminal_b1.FnExtendedColorDependsOnlyOnWhatItTakes", spec := "fnExtendedColorDependsOnlyOnWhatItTakes", plainKeys := false, apart := false }
def FnExtendedColorDependsOnlyOnWhatItTakesSaid : Prop := fnExtendedColorDependsOnlyOnWhatItTakesRow.holds Try.pinned (OpenSpec.ofChange fnExtendedColorDependsOnlyOnWhatItTakesSpec)

/-- ITS FALSE NEIGHBOUR: 'it returns false'. Refute it at one input. -/
def fnExtendedColorDependsOnlyOnWhatItTakesWrong : ChangeSpec := { name := "fnExtendedColorDependsOnlyOnWhatItTakes", fn := fun _ => fun
  | [d] => { results := [.lit (.bool false)], args := [d] }
  | _ => none }
def FnExtendedColorDependsOnlyOnWhatItTakesWrongFalsely : Prop := fnExtendedColorDependsOnlyOnWhatItTakesRow.holds Try.pinned (OpenSpec.ofChange fnExtendedColorDependsOnlyOnWhatItTakesWrong)

/-- 'zzlaws_internal_terminal_b1.FnMergeConcatenatesKeepsSizesAndHeap': WHATEVER THE INPUT: true; the input reads as it did. -/
def fnMergeConcatenatesKeepsSizesAndHeapSpec : ChangeSpec := { name := "fnMergeConcatenatesKeepsSizesAndHeap", fn := fun _ => fun
  | [d1, d2] => { results := [.lit (.bool true)], args := [d1, d2] }
  | _ => none }
def fnMergeConcatenatesKeepsSizesAndHeapRow : OpenClaim := { program := "qxb6601196a", sum := "84fad81e65e3deec19a4939cefff6307eed9b4f3e1bd136adf8f8276de8ed7b9", func := "example.com/carillon/carillon/zzlaws_internal_terminal_b1.FnMergeConcatenatesKeepsSizesAndHeap", spec := "fnMergeConcatenatesKeepsSizesAndHeap", recurses := true, loops := true, plainKeys := false, apart := false }
def FnMergeConcatenatesKeepsSizesAndHeapSaid : Prop := fnMergeConcatenatesKeepsSizesAndHeapRow.holds Try.pinned (OpenSpec.ofChange fnMergeConcatenatesKeepsSizesAndHeapSpec)

/-- ITS FALSE NEIGHBOUR: 'it returns false'. Refute it at one input. -/
def fnMergeConcatenatesKeepsSizesAndHeapWrong : ChangeSpec := { name := "fnMergeConcatenatesKeepsSizesAndHeap", fn := fun _ => fun
  | [d1, d2] => { results := [.lit (.bool false)], args := [d1, d2] }
  | _ => none }
def FnMergeConcatenatesKeepsSizesAndHeapWrongFalsely : Prop := fnMergeConcatenatesKeepsSizesAndHeapRow.holds Try.pinned (OpenSpec.ofChange fnMergeConcatenatesKeepsSizesAndHeapWrong)

/-- 'zzlaws_internal_terminal_b1.FnMergeDepthAtMostSum': WHATEVER THE INPUT: true; the input reads as it did. -/
def fnMergeDepthAtMostSumSpec : ChangeSpec := { name := "fnMergeDepthAtMostSum", fn := fun _ => fun
  | [d1, d2] => { results := [.lit (.bool true)], args := [d1, d2] }
  | _ => none }
def fnMergeDepthAtMostSumRow : OpenClaim := { program := "qxb6601196a", sum := "84fad81e65e3deec19a4939cefff6307eed9b4f3e1bd136adf8f8276de8ed7b9", func := "example.com/carillon/carillon/zzlaws_internal_terminal_b1.FnMergeDepthAtMostSum", spec := "fnMergeDepthAtMostSum", recurses := true, loops := true, plainKeys := false, apart := false }
def FnMergeDepthAtMostSumSaid : Prop := fnMergeDepthAtMostSumRow.holds Try.pinned (OpenSpec.ofChange fnMergeDepthAtMostSumSpec)

/-- ITS FALSE NEIGHBOUR: 'it returns false'. Refute it at one input. -/
def fnMergeDepthAtMostSumWrong : ChangeSpec := { name := "fnMergeDepthAtMostSum", fn := fun _ => fun
  | [d1, d2] => { results := [.lit (.bool false)], args := [d1, d2] }
  | _ => none }
def FnMergeDepthAtMostSumWrongFalsely : Prop := fnMergeDepthAtMostSumRow.holds Try.pinned (OpenSpec.ofChange fnMergeDepthAtMostSumWrong)

/-- 'zzlaws_internal_terminal_b1.FnSetStyleScriptMatchesSGRModel': WHATEVER THE INPUT: true; the input reads as it did. -/
def fnSetStyleScriptMatchesSGRModelSpec : ChangeSpec := { name := "fnSetStyleScriptMatchesSGRModel", fn := fun _ => fun
  | [d] => { results := [.lit (.bool true)], args := [d] }
  | _ => none }
def fnSetStyleScriptMatchesSGRModelRow : OpenClaim := { program := "qxb6601196a", sum := "84fad81e65e3deec19a4939cefff6307eed9b4f3e1bd136adf8f8276de8ed7b9", func := "example.com/carillon/carillon/zzlaws_internal_terminal_b1.FnSetStyleScriptMatchesSGRModel", spec := "fnSetStyleScriptMatchesSGRModel", plainKeys := false, apart := false }
def FnSetStyleScriptMatchesSGRModelSaid : Prop := fnSetStyleScriptMatchesSGRModelRow.holds Try.pinned (OpenSpec.ofChange fnSetStyleScriptMatchesSGRModelSpec)

/-- ITS FALSE NEIGHBOUR: 'it returns false'. Refute it at one input. -/
def fnSetStyleScriptMatchesSGRModelWrong : ChangeSpec := { name := "fnSetStyleScriptMatchesSGRModel", fn := fun _ => fun
  | [d] => { results := [.lit (.bool false)], args := [d] }
  | _ => none }
def FnSetStyleScriptMatchesSGRModelWrongFalsely : Prop := fnSetStyleScriptMatchesSGRModelRow.holds Try.pinned (OpenSpec.ofChange fnSetStyleScriptMatchesSGRModelWrong)

/-- 'zzlaws_internal_terminal_b1.FnSetStyleTwiceIsOnce': WHATEVER THE INPUT: true; the input reads as it did. -/
def fnSetStyleTwiceIsOnceSpec : ChangeSpec := { name := "fnSetStyleTwiceIsOnce", fn := fun _ => fun
  | [d1, d2] => { results := [.lit (.bool true)], args := [d1, d2] }
  | _ => none }
def fnSetStyleTwiceIsOnceRow : OpenClaim := { program := "qxb6601196a", sum := "84fad81e65e3deec19a4939cefff6307eed9b4f3e1bd136adf8f8276de8ed7b9", func := "example.com/carillon/carillon/zzlaws_internal_terminal_b1.FnSetStyleTwiceIsOnce", spec := "fnSetStyleTwiceIsOnce", plainKeys := false, apart := false }
def FnSetStyleTwiceIsOnceSaid : Prop := fnSetStyleTwiceIsOnceRow.holds Try.pinned (OpenSpec.ofChange fnSetStyleTwiceIsOnceSpec)

/-- ITS FALSE NEIGHBOUR: 'it returns false'. Refute it at one input. -/
def fnSetStyleTwiceIsOnceWrong : ChangeSpec := { name := "fnSetStyleTwiceIsOnce", fn := fun _ => fun
  | [d1, d2] => { results := [.lit (.bool false)], args := [d1, d2] }
  | _ => none }
def FnSetStyleTwiceIsOnceWrongFalsely : Prop := fnSetStyleTwiceIsOnceRow.holds Try.pinned (OpenSpec.ofChange fnSetStyleTwiceIsOnceWrong)

end Rows
end Go.Proofs.Qxb6601196a
