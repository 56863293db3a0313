/-
  No cell of these rows narrows 'for every input' (looked for: loops, veiled, ifaces, maps, wideKeys, modest, calm, conditions, laid).
  DERIVED. THE GIVEN ROWS OF THIS SEAT. 9 by the template 'for every input the law returns true; each argument reads behind the call as it read before'; 0 by the template 'total and deterministic' (their statements: Qxb6000545aTotals.lean).
  GIVEN WITH THE SEED: the statements are not yours to turn. If you find one false, say at which input.
  Laid BY PROGRAM, IN A SANDBOX (cutbox-rows.mjs): the forced cells as the released guide's own fill.sh prints them over the translation 00bbeb6674a14ba5… (all of the seat's roots in one cut). By AI agents, Wed Nov 11 2026. No macro, syntax, notation, axiom, sorry.
-/
import Derived.Test.Qxb6000545aChecked
import GoSem.Claim
import GoSem.ClaimJoined
import GoSem.ClaimMapViews
import Derived.JoinedTies
import Derived.KernelRfl
namespace Go.Proofs.Qxb6000545a
/- THE CELL 'sum', in the pinned program and in every row, IS THE sha256 OF THE DUMP (.gsa) THAT Qxb6000545aProg.lean LOADS. Nothing in Lean hashes anything: it is a label: what it is worth is what the hold of that sum in a sandbox is worth. -/
noncomputable def Try.pinned : Pinned := { name := "qxb6000545a", sum := "00bbeb6674a14ba514b394b3c78edda67a2f0e7a96a54989f05fdf51eba0983d", checked := Try.checked }
namespace Rows
def none {H : Type} : Left H := { results := [], args := [] }

/-- 'zzlaws_internal_api_b1.FnEventTypeMatchesModel': WHATEVER THE INPUT: true; the input reads as it did. -/
def fnEventTypeMatchesModelSpec : ChangeSpec := { name := "fnEventTypeMatchesModel", fn := fun _ => fun
  | [d] => { results := [.lit (.bool true)], args := [d] }
  | _ => none }
def fnEventTypeMatchesModelRow : OpenClaim := { program := "qxb6000545a", sum := "00bbeb6674a14ba514b394b3c78edda67a2f0e7a96a54989f05fdf51eba0983d", func := "example.com/nuncio/nuncio/zzlaws_internal_api_b1.FnEventTypeMatchesModel", spec := "fnEventTypeMatchesModel", apart := false }
def FnEventTypeMatchesModelSaid : Prop := fnEventTypeMatchesModelRow.holds Try.pinned (OpenSpec.ofChange fnEventTypeMatchesModelSpec)

/-- ITS FALSE NEIGHBOUR: 'it returns false'. Refute it at one input. -/
def fnEventTypeMatchesModelWrong : ChangeSpec := { name := "fnEventTypeMatchesModel", fn := fun _ => fun
  | [d] => { results := [.lit (.bool false)], args := [d] }
  | _ => none }
def FnEventTypeMatchesModelWrongFalsely : Prop := fnEventTypeMatchesModelRow.holds Try.pinned (OpenSpec.ofChange fnEventTypeMatchesModelWrong)

/-- 'zzlaws_internal_api_b1.FnEventTypeJoinSplits': WHATEVER THE INPUT: true; the input reads as it did. -/
def fnEventTypeJoinSplitsSpec : ChangeSpec := { name := "fnEventTypeJoinSplits", fn := fun _ => fun
  | [d1, d2] => { results := [.lit (.bool true)], args := [d1, d2] }
  | _ => none }
def fnEventTypeJoinSplitsRow : OpenClaim := { program := "qxb6000545a", sum := "00bbeb6674a14ba514b394b3c78edda67a2f0e7a96a54989f05fdf51eba0983d", func := "example.com/nuncio/nuncio/zzlaws_internal_api_b1.FnEventTypeJoinSplits", spec := "fnEventTypeJoinSplits", apart := false }
def FnEventTypeJoinSplitsSaid : Prop := fnEventTypeJoinSplitsRow.holds Try.pinned (OpenSpec.ofChange fnEventTypeJoinSplitsSpec)

/-- ITS FALSE NEIGHBOUR: 'it returns false'. Refute it at one input. -/
def fnEventTypeJoinSplitsWrong : ChangeSpec := { name := "fnEventTypeJoinSplits", fn := fun _ => fun
  | [d1, d2] => { results := [.lit (.bool false)], args := [d1, d2] }
  | _ => none }
def FnEventTypeJoinSplitsWrongFalsely : Prop := fnEventTypeJoinSplitsRow.holds Try.pinned (OpenSpec.ofChange fnEventTypeJoinSplitsWrong)

/-- 'zzlaws_internal_api_b1.FnHeaderValueMatchesTrimModel': WHATEVER THE INPUT: true; the input reads as it did. -/
def fnHeaderValueMatchesTrimModelSpec : ChangeSpec := { name := "fnHeaderValueMatchesTrimModel", fn := fun _ => fun
  | [d] => { results := [.lit (.bool true)], args := [d] }
  | _ => none }
def fnHeaderValueMatchesTrimModelRow : OpenClaim := { program := "qxb6000545a", sum := "00bbeb6674a14ba514b394b3c78edda67a2f0e7a96a54989f05fdf51eba0983d", func := "example.com/nuncio/nuncio/zzlaws_internal_api_b1.FnHeaderValueMatchesTrimModel", spec := "fnHeaderValueMatchesTrimModel", apart := false }
def FnHeaderValueMatchesTrimModelSaid : Prop := fnHeaderValueMatchesTrimModelRow.holds Try.pinned (OpenSpec.ofChange fnHeaderValueMatchesTrimModelSpec)

/-- ITS FALSE NEIGHBOUR: 'it returns false'. Refute it at one input. -/
def fnHeaderValueMatchesTrimModelWrong : ChangeSpec := { name := "fnHeaderValueMatchesTrimModel", fn := fun _ => fun
  | [d] => { results := [.lit (.bool false)], args := [d] }
  | _ => none }
def FnHeaderValueMatchesTrimModelWrongFalsely : Prop := fnHeaderValueMatchesTrimModelRow.holds Try.pinned (OpenSpec.ofChange fnHeaderValueMatchesTrimModelWrong)

/-- 'zzlaws_internal_api_b1.FnHeaderValueConcatClosed': WHATEVER THE INPUT: true; the input reads as it did. -/
def fnHeaderValueConcatClosedSpec : ChangeSpec := { name := "fnHeaderValueConcatClosed", fn := fun _ => fun
  | [d1, d2, d3] => { results := [.lit (.bool true)], args := [d1, d2, d3] }
  | _ => none }
def fnHeaderValueConcatClosedRow : OpenClaim := { program := "qxb6000545a", sum := "00bbeb6674a14ba514b394b3c78edda67a2f0e7a96a54989f05fdf51eba0983d", func := "example.com/nuncio/nuncio/zzlaws_internal_api_b1.FnHeaderValueConcatClosed", spec := "fnHeaderValueConcatClosed", apart := false }
def FnHeaderValueConcatClosedSaid : Prop := fnHeaderValueConcatClosedRow.holds Try.pinned (OpenSpec.ofChange fnHeaderValueConcatClosedSpec)

/-- ITS FALSE NEIGHBOUR: 'it returns false'. Refute it at one input. -/
def fnHeaderValueConcatClosedWrong : ChangeSpec := { name := "fnHeaderValueConcatClosed", fn := fun _ => fun
  | [d1, d2, d3] => { results := [.lit (.bool false)], args := [d1, d2, d3] }
  | _ => none }
def FnHeaderValueConcatClosedWrongFalsely : Prop := fnHeaderValueConcatClosedRow.holds Try.pinned (OpenSpec.ofChange fnHeaderValueConcatClosedWrong)

/-- 'zzlaws_internal_api_b1.FnHeaderValueRefusesEdgesAndControls': WHATEVER THE INPUT: true; the input reads as it did. -/
def fnHeaderValueRefusesEdgesAndControlsSpec : ChangeSpec := { name := "fnHeaderValueRefusesEdgesAndControls", fn := fun _ => fun
  | [d1, d2, d3] => { results := [.lit (.bool true)], args := [d1, d2, d3] }
  | _ => none }
def fnHeaderValueRefusesEdgesAndControlsRow : OpenClaim := { program := "qxb6000545a", sum := "00bbeb6674a14ba514b394b3c78edda67a2f0e7a96a54989f05fdf51eba0983d", func := "example.com/nuncio/nuncio/zzlaws_internal_api_b1.FnHeaderValueRefusesEdgesAndControls", spec := "fnHeaderValueRefusesEdgesAndControls", apart := false }
def FnHeaderValueRefusesEdgesAndControlsSaid : Prop := fnHeaderValueRefusesEdgesAndControlsRow.holds Try.pinned (OpenSpec.ofChange fnHeaderValueRefusesEdgesAndControlsSpec)

/-- ITS FALSE NEIGHBOUR: 'it returns false'. Refute it at one input. -/
def fnHeaderValueRefusesEdgesAndControlsWrong : ChangeSpec := { name := "fnHeaderValueRefusesEdgesAndControls", fn := fun _ => fun
  | [d1, d2, d3] => { results := [.lit (.bool false)], args := [d1, d2, d3] }
  | _ => none }
def FnHeaderValueRefusesEdgesAndControlsWrongFalsely : Prop := fnHeaderValueRefusesEdgesAndControlsRow.holds Try.pinned (OpenSpec.ofChange fnHeaderValueRefusesEdgesAndControlsWrong)

/-- 'zzlaws_internal_api_b1.FnEventTypeIsHeaderNameAndValue': WHATEVER THE INPUT: true; the input reads as it did. -/
def fnEventTypeIsHeaderNameAndValueSpec : ChangeSpec := { name := "fnEventTypeIsHeaderNameAndValue", fn := fun _ => fun
  | [d] => { results := [.lit (.bool true)], args := [d] }
  | _ => none }
def fnEventTypeIsHeaderNameAndValueRow : OpenClaim := { program := "qxb6000545a", sum := "00bbeb6674a14ba514b394b3c78edda67a2f0e7a96a54989f05fdf51eba0983d", func := "example.com/nuncio/nuncio/zzlaws_internal_api_b1.FnEventTypeIsHeaderNameAndValue", spec := "fnEventTypeIsHeaderNameAndValue", inPlace := ["internal/bytealg.IndexByteString"], apart := false }
def FnEventTypeIsHeaderNameAndValueSaid : Prop := fnEventTypeIsHeaderNameAndValueRow.holds Try.pinned (OpenSpec.ofChange fnEventTypeIsHeaderNameAndValueSpec)

/-- ITS FALSE NEIGHBOUR: 'it returns false'. Refute it at one input. -/
def fnEventTypeIsHeaderNameAndValueWrong : ChangeSpec := { name := "fnEventTypeIsHeaderNameAndValue", fn := fun _ => fun
  | [d] => { results := [.lit (.bool false)], args := [d] }
  | _ => none }
def FnEventTypeIsHeaderNameAndValueWrongFalsely : Prop := fnEventTypeIsHeaderNameAndValueRow.holds Try.pinned (OpenSpec.ofChange fnEventTypeIsHeaderNameAndValueWrong)

/-- 'zzlaws_internal_api_b1.FnHeaderNameMatchesRFCModel': WHATEVER THE INPUT: true; the input reads as it did. -/
def fnHeaderNameMatchesRFCModelSpec : ChangeSpec := { name := "fnHeaderNameMatchesRFCModel", fn := fun _ => fun
  | [d] => { results := [.lit (.bool true)], args := [d] }
  | _ => none }
def fnHeaderNameMatchesRFCModelRow : OpenClaim := { program := "qxb6000545a", sum := "00bbeb6674a14ba514b394b3c78edda67a2f0e7a96a54989f05fdf51eba0983d", func := "example.com/nuncio/nuncio/zzlaws_internal_api_b1.FnHeaderNameMatchesRFCModel", spec := "fnHeaderNameMatchesRFCModel", inPlace := ["internal/bytealg.IndexByteString"], apart := false }
def FnHeaderNameMatchesRFCModelSaid : Prop := fnHeaderNameMatchesRFCModelRow.holds Try.pinned (OpenSpec.ofChange fnHeaderNameMatchesRFCModelSpec)

/-- ITS FALSE NEIGHBOUR: 'it returns false'. Refute it at one input. -/
def fnHeaderNameMatchesRFCModelWrong : ChangeSpec := { name := "fnHeaderNameMatchesRFCModel", fn := fun _ => fun
  | [d] => { results := [.lit (.bool false)], args := [d] }
  | _ => none }
def FnHeaderNameMatchesRFCModelWrongFalsely : Prop := fnHeaderNameMatchesRFCModelRow.holds Try.pinned (OpenSpec.ofChange fnHeaderNameMatchesRFCModelWrong)

/-- 'zzlaws_internal_api_b1.FnHeaderNameConcat': WHATEVER THE INPUT: true; the input reads as it did. -/
def fnHeaderNameConcatSpec : ChangeSpec := { name := "fnHeaderNameConcat", fn := fun _ => fun
  | [d1, d2] => { results := [.lit (.bool true)], args := [d1, d2] }
  | _ => none }
def fnHeaderNameConcatRow : OpenClaim := { program := "qxb6000545a", sum := "00bbeb6674a14ba514b394b3c78edda67a2f0e7a96a54989f05fdf51eba0983d", func := "example.com/nuncio/nuncio/zzlaws_internal_api_b1.FnHeaderNameConcat", spec := "fnHeaderNameConcat", inPlace := ["internal/bytealg.IndexByteString"], apart := false }
def FnHeaderNameConcatSaid : Prop := fnHeaderNameConcatRow.holds Try.pinned (OpenSpec.ofChange fnHeaderNameConcatSpec)

/-- ITS FALSE NEIGHBOUR: 'it returns false'. Refute it at one input. -/
def fnHeaderNameConcatWrong : ChangeSpec := { name := "fnHeaderNameConcat", fn := fun _ => fun
  | [d1, d2] => { results := [.lit (.bool false)], args := [d1, d2] }
  | _ => none }
def FnHeaderNameConcatWrongFalsely : Prop := fnHeaderNameConcatRow.holds Try.pinned (OpenSpec.ofChange fnHeaderNameConcatWrong)

/-- 'zzlaws_internal_api_b1.FnHeaderNameIsHeaderValue': WHATEVER THE INPUT: true; the input reads as it did. -/
def fnHeaderNameIsHeaderValueSpec : ChangeSpec := { name := "fnHeaderNameIsHeaderValue", fn := fun _ => fun
  | [d] => { results := [.lit (.bool true)], args := [d] }
  | _ => none }
def fnHeaderNameIsHeaderValueRow : OpenClaim := { program := "qxb6000545a", sum := "00bbeb6674a14ba514b394b3c78edda67a2f0e7a96a54989f05fdf51eba0983d", func := "example.com/nuncio/nuncio/zzlaws_internal_api_b1.FnHeaderNameIsHeaderValue", spec := "fnHeaderNameIsHeaderValue", inPlace := ["internal/bytealg.IndexByteString"], apart := false }
def FnHeaderNameIsHeaderValueSaid : Prop := fnHeaderNameIsHeaderValueRow.holds Try.pinned (OpenSpec.ofChange fnHeaderNameIsHeaderValueSpec)

/-- ITS FALSE NEIGHBOUR: 'it returns false'. Refute it at one input. -/
def fnHeaderNameIsHeaderValueWrong : ChangeSpec := { name := "fnHeaderNameIsHeaderValue", fn := fun _ => fun
  | [d] => { results := [.lit (.bool false)], args := [d] }
  | _ => none }
def FnHeaderNameIsHeaderValueWrongFalsely : Prop := fnHeaderNameIsHeaderValueRow.holds Try.pinned (OpenSpec.ofChange fnHeaderNameIsHeaderValueWrong)

end Rows
end Go.Proofs.Qxb6000545a
