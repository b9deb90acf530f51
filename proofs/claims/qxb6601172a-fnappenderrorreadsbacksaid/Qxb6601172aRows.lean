/-
  No cell of these rows narrows 'for every input' (looked for: loops, veiled, ifaces, maps, wideKeys, modest, calm, conditions, laid).
  DERIVED. THE GIVEN ROWS OF THIS SEAT. 7 by the template 'for every input the law returns true; each argument reads behind the call as it read before'; 0 by the template 'total and deterministic' (their statements: Qxb6601172aTotals.lean).
  GIVEN WITH THE SEED: the statements are not yours to turn. If you find one false, say at which input.
  Laid BY PROGRAM, IN A SANDBOX (cutbox-rows.mjs): the forced cells as the released guide's own fill.sh prints them over the translation 2ef6e0d6e55b716c… (all of the seat's roots in one cut). By AI agents, Wed Nov 11 2026. No macro, syntax, notation, axiom, sorry.
-/
import Derived.Test.Qxb6601172aChecked
import GoSem.Claim
import GoSem.ClaimJoined
import GoSem.ClaimMapViews
import Derived.JoinedTies
import Derived.KernelRfl
namespace Go.Proofs.Qxb6601172a
/- THE CELL 'sum', in the pinned program and in every row, IS THE sha256 OF THE DUMP (.gsa) THAT Qxb6601172aProg.lean LOADS. Nothing in Lean hashes anything: it is a label: what it is worth is what the hold of that sum in a sandbox is worth. -/
noncomputable def Try.pinned : Pinned := { name := "qxb6601172a", sum := "2ef6e0d6e55b716c84cf4513b36eb9722652921b3e125202a832e59ad37e3863", checked := Try.checked }
namespace Rows
def none {H : Type} : Left H := { results := [], args := [] }

/-- 'zzlaws_internal_resp_b1.FnParseLengthSpec': WHATEVER THE INPUT: true; the input reads as it did. -/
def fnParseLengthSpecSpec : ChangeSpec := { name := "fnParseLengthSpec", fn := fun _ => fun
  | [d] => { results := [.lit (.bool true)], args := [d] }
  | _ => none }
def fnParseLengthSpecRow : OpenClaim := { program := "qxb6601172a", sum := "2ef6e0d6e55b716c84cf4513b36eb9722652921b3e125202a832e59ad37e3863", func := "example.com/holdfast/holdfast/zzlaws_internal_resp_b1.FnParseLengthSpec", spec := "fnParseLengthSpec", apart := false }
def FnParseLengthSpecSaid : Prop := fnParseLengthSpecRow.holds Try.pinned (OpenSpec.ofChange fnParseLengthSpecSpec)

/-- ITS FALSE NEIGHBOUR: 'it returns false'. Refute it at one input. -/
def fnParseLengthSpecWrong : ChangeSpec := { name := "fnParseLengthSpec", fn := fun _ => fun
  | [d] => { results := [.lit (.bool false)], args := [d] }
  | _ => none }
def FnParseLengthSpecWrongFalsely : Prop := fnParseLengthSpecRow.holds Try.pinned (OpenSpec.ofChange fnParseLengthSpecWrong)

/-- 'zzlaws_internal_resp_b1.FnParseLengthDecimalRoundTrip': WHATEVER THE INPUT: true; the input reads as it did. -/
def fnParseLengthDecimalRoundTripSpec : ChangeSpec := { name := "fnParseLengthDecimalRoundTrip", fn := fun _ => fun
  | [d] => { results := [.lit (.bool true)], args := [d] }
  | _ => none }
def fnParseLengthDecimalRoundTripRow : OpenClaim := { program := "qxb6601172a", sum := "2ef6e0d6e55b716c84cf4513b36eb9722652921b3e125202a832e59ad37e3863", func := "example.com/holdfast/holdfast/zzlaws_internal_resp_b1.FnParseLengthDecimalRoundTrip", spec := "fnParseLengthDecimalRoundTrip", apart := false }
def FnParseLengthDecimalRoundTripSaid : Prop := fnParseLengthDecimalRoundTripRow.holds Try.pinned (OpenSpec.ofChange fnParseLengthDecimalRoundTripSpec)

/-- ITS FALSE NEIGHBOUR: 'it returns false'. Refute it at one input. -/
def fnParseLengthDecimalRoundTripWrong : ChangeSpec := { name := "fnParseLengthDecimalRoundTrip", fn := fun _ => fun
  | [d] => { results := [.lit (.bool false)], args := [d] }
  | _ => none }
def FnParseLengthDecimalRoundTripWrongFalsely : Prop := fnParseLengthDecimalRoundTripRow.holds Try.pinned (OpenSpec.ofChange fnParseLengthDecimalRoundTripWrong)

/-- 'zzlaws_internal_resp_b1.FnParseLengthKeepsOrder': WHATEVER THE INPUT: true; the input reads as it did. -/
def fnParseLengthKeepsOrderSpec : ChangeSpec := { name := "fnParseLengthKeepsOrder", fn := fun _ => fun
  | [d1, d2] => { results := [.lit (.bool true)], args := [d1, d2] }
  | _ => none }
def fnParseLengthKeepsOrderRow : OpenClaim := { program := "qxb6601172a", sum := "2ef6e0d6e55b716c84cf4513b36eb9722652921b3e125202a832e59ad37e3863", func := "example.com/holdfast/holdfast/zzlaws_internal_resp_b1.FnParseLengthKeepsOrder", spec := "fnParseLengthKeepsOrder", apart := false }
def FnParseLengthKeepsOrderSaid : Prop := fnParseLengthKeepsOrderRow.holds Try.pinned (OpenSpec.ofChange fnParseLengthKeepsOrderSpec)

/-- ITS FALSE NEIGHBOUR: 'it returns false'. Refute it at one input. -/
def fnParseLengthKeepsOrderWrong : ChangeSpec := { name := "fnParseLengthKeepsOrder", fn := fun _ => fun
  | [d1, d2] => { results := [.lit (.bool false)], args := [d1, d2] }
  | _ => none }
def FnParseLengthKeepsOrderWrongFalsely : Prop := fnParseLengthKeepsOrderRow.holds Try.pinned (OpenSpec.ofChange fnParseLengthKeepsOrderWrong)

/-- 'zzlaws_internal_resp_b1.FnAppendLineSpec': WHATEVER THE INPUT: true; the input reads as it did. -/
def fnAppendLineSpecSpec : ChangeSpec := { name := "fnAppendLineSpec", fn := fun _ => fun
  | [d1, d2] => { results := [.lit (.bool true)], args := [d1, d2] }
  | _ => none }
def fnAppendLineSpecRow : OpenClaim := { program := "qxb6601172a", sum := "2ef6e0d6e55b716c84cf4513b36eb9722652921b3e125202a832e59ad37e3863", func := "example.com/holdfast/holdfast/zzlaws_internal_resp_b1.FnAppendLineSpec", spec := "fnAppendLineSpec", apart := false }
def FnAppendLineSpecSaid : Prop := fnAppendLineSpecRow.holds Try.pinned (OpenSpec.ofChange fnAppendLineSpecSpec)

/-- ITS FALSE NEIGHBOUR: 'it returns false'. Refute it at one input. -/
def fnAppendLineSpecWrong : ChangeSpec := { name := "fnAppendLineSpec", fn := fun _ => fun
  | [d1, d2] => { results := [.lit (.bool false)], args := [d1, d2] }
  | _ => none }
def FnAppendLineSpecWrongFalsely : Prop := fnAppendLineSpecRow.holds Try.pinned (OpenSpec.ofChange fnAppendLineSpecWrong)

/-- 'zzlaws_internal_resp_b1.FnAppendLineIdempotent': WHATEVER THE INPUT: true; the input reads as it did. -/
def fnAppendLineIdempotentSpec : ChangeSpec := { name := "fnAppendLineIdempotent", fn := fun _ => fun
  | [d1, d2] => { results := [.lit (.bool true)], args := [d1, d2] }
  | _ => none }
def fnAppendLineIdempotentRow : OpenClaim := { program := "qxb6601172a", sum := "2ef6e0d6e55b716c84cf4513b36eb9722652921b3e125202a832e59ad37e3863", func := "example.com/holdfast/holdfast/zzlaws_internal_resp_b1.FnAppendLineIdempotent", spec := "fnAppendLineIdempotent", apart := false }
def FnAppendLineIdempotentSaid : Prop := fnAppendLineIdempotentRow.holds Try.pinned (OpenSpec.ofChange fnAppendLineIdempotentSpec)

/-- ITS FALSE NEIGHBOUR: 'it returns false'. Refute it at one input. -/
def fnAppendLineIdempotentWrong : ChangeSpec := { name := "fnAppendLineIdempotent", fn := fun _ => fun
  | [d1, d2] => { results := [.lit (.bool false)], args := [d1, d2] }
  | _ => none }
def FnAppendLineIdempotentWrongFalsely : Prop := fnAppendLineIdempotentRow.holds Try.pinned (OpenSpec.ofChange fnAppendLineIdempotentWrong)

/-- 'zzlaws_internal_resp_b1.FnAppendErrorPipelines': WHATEVER THE INPUT: true; the input reads as it did. -/
def fnAppendErrorPipelinesSpec : ChangeSpec := { name := "fnAppendErrorPipelines", fn := fun _ => fun
  | [d1, d2, d3] => { results := [.lit (.bool true)], args := [d1, d2, d3] }
  | _ => none }
def fnAppendErrorPipelinesRow : OpenClaim := { program := "qxb6601172a", sum := "2ef6e0d6e55b716c84cf4513b36eb9722652921b3e125202a832e59ad37e3863", func := "example.com/holdfast/holdfast/zzlaws_internal_resp_b1.FnAppendErrorPipelines", spec := "fnAppendErrorPipelines", apart := false }
def FnAppendErrorPipelinesSaid : Prop := fnAppendErrorPipelinesRow.holds Try.pinned (OpenSpec.ofChange fnAppendErrorPipelinesSpec)

/-- ITS FALSE NEIGHBOUR: 'it returns false'. Refute it at one input. -/
def fnAppendErrorPipelinesWrong : ChangeSpec := { name := "fnAppendErrorPipelines", fn := fun _ => fun
  | [d1, d2, d3] => { results := [.lit (.bool false)], args := [d1, d2, d3] }
  | _ => none }
def FnAppendErrorPipelinesWrongFalsely : Prop := fnAppendErrorPipelinesRow.holds Try.pinned (OpenSpec.ofChange fnAppendErrorPipelinesWrong)

/-- 'zzlaws_internal_resp_b1.FnAppendErrorReadsBack': WHATEVER THE INPUT: true; the input reads as it did. -/
def fnAppendErrorReadsBackSpec : ChangeSpec := { name := "fnAppendErrorReadsBack", fn := fun _ => fun
  | [d1, d2, d3] => { results := [.lit (.bool true)], args := [d1, d2, d3] }
  | _ => none }
def fnAppendErrorReadsBackRow : OpenClaim := { program := "qxb6601172a", sum := "2ef6e0d6e55b716c84cf4513b36eb9722652921b3e125202a832e59ad37e3863", func := "example.com/holdfast/holdfast/zzlaws_internal_resp_b1.FnAppendErrorReadsBack", spec := "fnAppendErrorReadsBack", apart := false }
def FnAppendErrorReadsBackSaid : Prop := fnAppendErrorReadsBackRow.holds Try.pinned (OpenSpec.ofChange fnAppendErrorReadsBackSpec)

/-- ITS FALSE NEIGHBOUR: 'it returns false'. Refute it at one input. -/
def fnAppendErrorReadsBackWrong : ChangeSpec := { name := "fnAppendErrorReadsBack", fn := fun _ => fun
  | [d1, d2, d3] => { results := [.lit (.bool false)], args := [d1, d2, d3] }
  | _ => none }
def FnAppendErrorReadsBackWrongFalsely : Prop := fnAppendErrorReadsBackRow.holds Try.pinned (OpenSpec.ofChange fnAppendErrorReadsBackWrong)

end Rows
end Go.Proofs.Qxb6601172a
