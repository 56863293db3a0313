/-
  No cell of these rows narrows 'for every input' (looked for: loops, veiled, ifaces, maps, wideKeys, modest, calm, conditions, laid).
  DERIVED. THE GIVEN ROWS OF THIS SEAT. 7 by the template 'for every input the law returns true; each argument reads behind the call as it read before'; 0 by the template 'total and deterministic' (their statements: Qxb6601264aTotals.lean).
  GIVEN WITH THE SEED: the statements are not yours to turn. If you find one false, say at which input.
  Laid BY PROGRAM, IN A SANDBOX (cutbox-rows.mjs): the forced cells as the released guide's own fill.sh prints them over the translation 0a256cd55be820cd… (all of the seat's roots in one cut). By AI agents, Wed Nov 11 2026. No macro, syntax, notation, axiom, sorry.
-/
import Derived.Test.Qxb6601264aChecked
import GoSem.Claim
import GoSem.ClaimJoined
import GoSem.ClaimMapViews
import Derived.JoinedTies
import Derived.KernelRfl
namespace Go.Proofs.Qxb6601264a
/- THE CELL 'sum', in the pinned program and in every row, IS THE sha256 OF THE DUMP (.gsa) THAT Qxb6601264aProg.lean LOADS. Nothing in Lean hashes anything: it is a label: what it is worth is what the hold of that sum in a sandbox is worth. -/
noncomputable def Try.pinned : Pinned := { name := "qxb6601264a", sum := "0a256cd55be820cd5c56472cd7a95c22cb0ea3ff994c9a68280b32ff9153b2b1", checked := Try.checked }
namespace Rows
def none {H : Type} : Left H := { results := [], args := [] }

/-- 'zzlaws_internal_der_b1.FnReadElementMatchesHeaderSearch': WHATEVER THE INPUT: true; the input reads as it did. -/
def fnReadElementMatchesHeaderSearchSpec : ChangeSpec := { name := "fnReadElementMatchesHeaderSearch", fn := fun _ => fun
  | [d1, d2] => { results := [.lit (.bool true)], args := [d1, d2] }
  | _ => none }
def fnReadElementMatchesHeaderSearchRow : OpenClaim := { program := "qxb6601264a", sum := "0a256cd55be820cd5c56472cd7a95c22cb0ea3ff994c9a68280b32ff9153b2b1", func := "example.com/sealcheck/sealcheck/zzlaws_internal_der_b1.FnReadElementMatchesHeaderSearch", spec := "fnReadElementMatchesHeaderSearch", apart := false }
def FnReadElementMatchesHeaderSearchSaid : Prop := fnReadElementMatchesHeaderSearchRow.holds Try.pinned (OpenSpec.ofChange fnReadElementMatchesHeaderSearchSpec)

/-- ITS FALSE NEIGHBOUR: 'it returns false'. Refute it at one input. -/
def fnReadElementMatchesHeaderSearchWrong : ChangeSpec := { name := "fnReadElementMatchesHeaderSearch", fn := fun _ => fun
  | [d1, d2] => { results := [.lit (.bool false)], args := [d1, d2] }
  | _ => none }
def FnReadElementMatchesHeaderSearchWrongFalsely : Prop := fnReadElementMatchesHeaderSearchRow.holds Try.pinned (OpenSpec.ofChange fnReadElementMatchesHeaderSearchWrong)

/-- 'zzlaws_internal_der_b1.FnReadElementIgnoresWhatFollows': WHATEVER THE INPUT: true; the input reads as it did. -/
def fnReadElementIgnoresWhatFollowsSpec : ChangeSpec := { name := "fnReadElementIgnoresWhatFollows", fn := fun _ => fun
  | [d1, d2, d3] => { results := [.lit (.bool true)], args := [d1, d2, d3] }
  | _ => none }
def fnReadElementIgnoresWhatFollowsRow : OpenClaim := { program := "qxb6601264a", sum := "0a256cd55be820cd5c56472cd7a95c22cb0ea3ff994c9a68280b32ff9153b2b1", func := "example.com/sealcheck/sealcheck/zzlaws_internal_der_b1.FnReadElementIgnoresWhatFollows", spec := "fnReadElementIgnoresWhatFollows", apart := false }
def FnReadElementIgnoresWhatFollowsSaid : Prop := fnReadElementIgnoresWhatFollowsRow.holds Try.pinned (OpenSpec.ofChange fnReadElementIgnoresWhatFollowsSpec)

/-- ITS FALSE NEIGHBOUR: 'it returns false'. Refute it at one input. -/
def fnReadElementIgnoresWhatFollowsWrong : ChangeSpec := { name := "fnReadElementIgnoresWhatFollows", fn := fun _ => fun
  | [d1, d2, d3] => { results := [.lit (.bool false)], args := [d1, d2, d3] }
  | _ => none }
def FnReadElementIgnoresWhatFollowsWrongFalsely : Prop := fnReadElementIgnoresWhatFollowsRow.holds Try.pinned (OpenSpec.ofChange fnReadElementIgnoresWhatFollowsWrong)

/-- 'zzlaws_internal_der_b1.FnAppendMatchesCaseTable': WHATEVER THE INPUT: true; the input reads as it did. -/
def fnAppendMatchesCaseTableSpec : ChangeSpec := { name := "fnAppendMatchesCaseTable", fn := fun _ => fun
  | [d1, d2, d3] => { results := [.lit (.bool true)], args := [d1, d2, d3] }
  | _ => none }
def fnAppendMatchesCaseTableRow : OpenClaim := { program := "qxb6601264a", sum := "0a256cd55be820cd5c56472cd7a95c22cb0ea3ff994c9a68280b32ff9153b2b1", func := "example.com/sealcheck/sealcheck/zzlaws_internal_der_b1.FnAppendMatchesCaseTable", spec := "fnAppendMatchesCaseTable", apart := false }
def FnAppendMatchesCaseTableSaid : Prop := fnAppendMatchesCaseTableRow.holds Try.pinned (OpenSpec.ofChange fnAppendMatchesCaseTableSpec)

/-- ITS FALSE NEIGHBOUR: 'it returns false'. Refute it at one input. -/
def fnAppendMatchesCaseTableWrong : ChangeSpec := { name := "fnAppendMatchesCaseTable", fn := fun _ => fun
  | [d1, d2, d3] => { results := [.lit (.bool false)], args := [d1, d2, d3] }
  | _ => none }
def FnAppendMatchesCaseTableWrongFalsely : Prop := fnAppendMatchesCaseTableRow.holds Try.pinned (OpenSpec.ofChange fnAppendMatchesCaseTableWrong)

/-- 'zzlaws_internal_der_b1.FnAppendThenReadElementRoundTrip': WHATEVER THE INPUT: true; the input reads as it did. -/
def fnAppendThenReadElementRoundTripSpec : ChangeSpec := { name := "fnAppendThenReadElementRoundTrip", fn := fun _ => fun
  | [d1, d2, d3, d4] => { results := [.lit (.bool true)], args := [d1, d2, d3, d4] }
  | _ => none }
def fnAppendThenReadElementRoundTripRow : OpenClaim := { program := "qxb6601264a", sum := "0a256cd55be820cd5c56472cd7a95c22cb0ea3ff994c9a68280b32ff9153b2b1", func := "example.com/sealcheck/sealcheck/zzlaws_internal_der_b1.FnAppendThenReadElementRoundTrip", spec := "fnAppendThenReadElementRoundTrip", apart := false }
def FnAppendThenReadElementRoundTripSaid : Prop := fnAppendThenReadElementRoundTripRow.holds Try.pinned (OpenSpec.ofChange fnAppendThenReadElementRoundTripSpec)

/-- ITS FALSE NEIGHBOUR: 'it returns false'. Refute it at one input. -/
def fnAppendThenReadElementRoundTripWrong : ChangeSpec := { name := "fnAppendThenReadElementRoundTrip", fn := fun _ => fun
  | [d1, d2, d3, d4] => { results := [.lit (.bool false)], args := [d1, d2, d3, d4] }
  | _ => none }
def FnAppendThenReadElementRoundTripWrongFalsely : Prop := fnAppendThenReadElementRoundTripRow.holds Try.pinned (OpenSpec.ofChange fnAppendThenReadElementRoundTripWrong)

/-- 'zzlaws_internal_der_b1.FnWholeMatchesLengthTable': WHATEVER THE INPUT: true; the input reads as it did. -/
def fnWholeMatchesLengthTableSpec : ChangeSpec := { name := "fnWholeMatchesLengthTable", fn := fun _ => fun
  | [d1, d2] => { results := [.lit (.bool true)], args := [d1, d2] }
  | _ => none }
def fnWholeMatchesLengthTableRow : OpenClaim := { program := "qxb6601264a", sum := "0a256cd55be820cd5c56472cd7a95c22cb0ea3ff994c9a68280b32ff9153b2b1", func := "example.com/sealcheck/sealcheck/zzlaws_internal_der_b1.FnWholeMatchesLengthTable", spec := "fnWholeMatchesLengthTable", apart := false }
def FnWholeMatchesLengthTableSaid : Prop := fnWholeMatchesLengthTableRow.holds Try.pinned (OpenSpec.ofChange fnWholeMatchesLengthTableSpec)

/-- ITS FALSE NEIGHBOUR: 'it returns false'. Refute it at one input. -/
def fnWholeMatchesLengthTableWrong : ChangeSpec := { name := "fnWholeMatchesLengthTable", fn := fun _ => fun
  | [d1, d2] => { results := [.lit (.bool false)], args := [d1, d2] }
  | _ => none }
def FnWholeMatchesLengthTableWrongFalsely : Prop := fnWholeMatchesLengthTableRow.holds Try.pinned (OpenSpec.ofChange fnWholeMatchesLengthTableWrong)

/-- 'zzlaws_internal_der_b1.FnWholeIsPrefixFree': WHATEVER THE INPUT: true; the input reads as it did. -/
def fnWholeIsPrefixFreeSpec : ChangeSpec := { name := "fnWholeIsPrefixFree", fn := fun _ => fun
  | [d1, d2] => { results := [.lit (.bool true)], args := [d1, d2] }
  | _ => none }
def fnWholeIsPrefixFreeRow : OpenClaim := { program := "qxb6601264a", sum := "0a256cd55be820cd5c56472cd7a95c22cb0ea3ff994c9a68280b32ff9153b2b1", func := "example.com/sealcheck/sealcheck/zzlaws_internal_der_b1.FnWholeIsPrefixFree", spec := "fnWholeIsPrefixFree", apart := false }
def FnWholeIsPrefixFreeSaid : Prop := fnWholeIsPrefixFreeRow.holds Try.pinned (OpenSpec.ofChange fnWholeIsPrefixFreeSpec)

/-- ITS FALSE NEIGHBOUR: 'it returns false'. Refute it at one input. -/
def fnWholeIsPrefixFreeWrong : ChangeSpec := { name := "fnWholeIsPrefixFree", fn := fun _ => fun
  | [d1, d2] => { results := [.lit (.bool false)], args := [d1, d2] }
  | _ => none }
def FnWholeIsPrefixFreeWrongFalsely : Prop := fnWholeIsPrefixFreeRow.holds Try.pinned (OpenSpec.ofChange fnWholeIsPrefixFreeWrong)

/-- 'zzlaws_internal_der_b1.FnAppendThenWholeRoundTrip': WHATEVER THE INPUT: true; the input reads as it did. -/
def fnAppendThenWholeRoundTripSpec : ChangeSpec := { name := "fnAppendThenWholeRoundTrip", fn := fun _ => fun
  | [d1, d2, d3, d4] => { results := [.lit (.bool true)], args := [d1, d2, d3, d4] }
  | _ => none }
def fnAppendThenWholeRoundTripRow : OpenClaim := { program := "qxb6601264a", sum := "0a256cd55be820cd5c56472cd7a95c22cb0ea3ff994c9a68280b32ff9153b2b1", func := "example.com/sealcheck/sealcheck/zzlaws_internal_der_b1.FnAppendThenWholeRoundTrip", spec := "fnAppendThenWholeRoundTrip", apart := false }
def FnAppendThenWholeRoundTripSaid : Prop := fnAppendThenWholeRoundTripRow.holds Try.pinned (OpenSpec.ofChange fnAppendThenWholeRoundTripSpec)

/-- ITS FALSE NEIGHBOUR: 'it returns false'. Refute it at one input. -/
def fnAppendThenWholeRoundTripWrong : ChangeSpec := { name := "fnAppendThenWholeRoundTrip", fn := fun _ => fun
  | [d1, d2, d3, d4] => { results := [.lit (.bool false)], args := [d1, d2, d3, d4] }
  | _ => none }
def FnAppendThenWholeRoundTripWrongFalsely : Prop := fnAppendThenWholeRoundTripRow.holds Try.pinned (OpenSpec.ofChange fnAppendThenWholeRoundTripWrong)

end Rows
end Go.Proofs.Qxb6601264a
