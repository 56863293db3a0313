/-
  No cell of these rows narrows 'for every input' (looked for: loops, veiled, ifaces, maps, wideKeys, modest, calm, conditions, laid).
  DERIVED. THE GIVEN ROWS OF THIS SEAT. 3 by the template 'for every input the law returns true; each argument reads behind the call as it read before'; 0 by the template 'total and deterministic' (their statements: Qxb6001269aTotals.lean).
  GIVEN WITH THE SEED: the statements are not yours to turn. If you find one false, say at which input.
  Laid BY PROGRAM, IN A SANDBOX (cutbox-rows.mjs): the forced cells as the released guide's own fill.sh prints them over the translation d779aeaf9a381efa… (all of the seat's roots in one cut). By AI agents, Wed Nov 11 2026. No macro, syntax, notation, axiom, sorry.
-/
import Derived.Test.Qxb6001269aChecked
import GoSem.Claim
import GoSem.ClaimJoined
import GoSem.ClaimMapViews
import Derived.JoinedTies
import Derived.KernelRfl
namespace Go.Proofs.Qxb6001269a
/- THE CELL 'sum', in the pinned program and in every row, IS THE sha256 OF THE DUMP (.gsa) THAT Qxb6001269aProg.lean LOADS. Nothing in Lean hashes anything: it is a label: what it is worth is what the hold of that sum in a sandbox is worth. -/
noncomputable def Try.pinned : Pinned := { name := "qxb6001269a", sum := "d779aeaf9a381efa229f64481e8a2fc9721bb16d90f488edcf0a08c69f998e92", checked := Try.checked }
namespace Rows
def none {H : Type} : Left H := { results := [], args := [] }

/-- 'zzlaws_internal_keyshare_b1.FnWantingIsLeastCoveringClaim': WHATEVER THE INPUT: true; the input reads as it did. -/
def fnWantingIsLeastCoveringClaimSpec : ChangeSpec := { name := "fnWantingIsLeastCoveringClaim", fn := fun _ => fun
  | [d1, d2, d3, d4, d5, d6] => { results := [.lit (.bool true)], args := [d1, d2, d3, d4, d5, d6] }
  | _ => none }
def fnWantingIsLeastCoveringClaimRow : OpenClaim := { program := "qxb6001269a", sum := "d779aeaf9a381efa229f64481e8a2fc9721bb16d90f488edcf0a08c69f998e92", func := "example.com/unsent-letters/unsent-letters/zzlaws_internal_keyshare_b1.FnWantingIsLeastCoveringClaim", spec := "fnWantingIsLeastCoveringClaim", apart := false }
def FnWantingIsLeastCoveringClaimSaid : Prop := fnWantingIsLeastCoveringClaimRow.holds Try.pinned (OpenSpec.ofChange fnWantingIsLeastCoveringClaimSpec)

/-- ITS FALSE NEIGHBOUR: 'it returns false'. Refute it at one input. -/
def fnWantingIsLeastCoveringClaimWrong : ChangeSpec := { name := "fnWantingIsLeastCoveringClaim", fn := fun _ => fun
  | [d1, d2, d3, d4, d5, d6] => { results := [.lit (.bool false)], args := [d1, d2, d3, d4, d5, d6] }
  | _ => none }
def FnWantingIsLeastCoveringClaimWrongFalsely : Prop := fnWantingIsLeastCoveringClaimRow.holds Try.pinned (OpenSpec.ofChange fnWantingIsLeastCoveringClaimWrong)

/-- 'zzlaws_internal_keyshare_b1.FnWantingNeverRisesWithMoreRelaysOrFewerPartitions': WHATEVER THE INPUT: true; the input reads as it did. -/
def fnWantingNeverRisesWithMoreRelaysOrFewerPartitionsSpec : ChangeSpec := { name := "fnWantingNeverRisesWithMoreRelaysOrFewerPartitions", fn := fun _ => fun
  | [d1, d2, d3, d4, d5, d6] => { results := [.lit (.bool true)], args := [d1, d2, d3, d4, d5, d6] }
  | _ => none }
def fnWantingNeverRisesWithMoreRelaysOrFewerPartitionsRow : OpenClaim := { program := "qxb6001269a", sum := "d779aeaf9a381efa229f64481e8a2fc9721bb16d90f488edcf0a08c69f998e92", func := "example.com/unsent-letters/unsent-letters/zzlaws_internal_keyshare_b1.FnWantingNeverRisesWithMoreRelaysOrFewerPartitions", spec := "fnWantingNeverRisesWithMoreRelaysOrFewerPartitions", apart := false }
def FnWantingNeverRisesWithMoreRelaysOrFewerPartitionsSaid : Prop := fnWantingNeverRisesWithMoreRelaysOrFewerPartitionsRow.holds Try.pinned (OpenSpec.ofChange fnWantingNeverRisesWithMoreRelaysOrFewerPartitionsSpec)

/-- ITS FALSE NEIGHBOUR: 'it returns false'. Refute it at one input. -/
def fnWantingNeverRisesWithMoreRelaysOrFewerPartitionsWrong : ChangeSpec := { name := "fnWantingNeverRisesWithMoreRelaysOrFewerPartitions", fn := fun _ => fun
  | [d1, d2, d3, d4, d5, d6] => { results := [.lit (.bool false)], args := [d1, d2, d3, d4, d5, d6] }
  | _ => none }
def FnWantingNeverRisesWithMoreRelaysOrFewerPartitionsWrongFalsely : Prop := fnWantingNeverRisesWithMoreRelaysOrFewerPartitionsRow.holds Try.pinned (OpenSpec.ofChange fnWantingNeverRisesWithMoreRelaysOrFewerPartitionsWrong)

/-- 'zzlaws_internal_keyshare_b1.FnWantingClaimedThenSated': WHATEVER THE INPUT: true; the input reads as it did. -/
def fnWantingClaimedThenSatedSpec : ChangeSpec := { name := "fnWantingClaimedThenSated", fn := fun _ => fun
  | [d1, d2, d3, d4, d5, d6] => { results := [.lit (.bool true)], args := [d1, d2, d3, d4, d5, d6] }
  | _ => none }
def fnWantingClaimedThenSatedRow : OpenClaim := { program := "qxb6001269a", sum := "d779aeaf9a381efa229f64481e8a2fc9721bb16d90f488edcf0a08c69f998e92", func := "example.com/unsent-letters/unsent-letters/zzlaws_internal_keyshare_b1.FnWantingClaimedThenSated", spec := "fnWantingClaimedThenSated", apart := false }
def FnWantingClaimedThenSatedSaid : Prop := fnWantingClaimedThenSatedRow.holds Try.pinned (OpenSpec.ofChange fnWantingClaimedThenSatedSpec)

/-- ITS FALSE NEIGHBOUR: 'it returns false'. Refute it at one input. -/
def fnWantingClaimedThenSatedWrong : ChangeSpec := { name := "fnWantingClaimedThenSated", fn := fun _ => fun
  | [d1, d2, d3, d4, d5, d6] => { results := [.lit (.bool false)], args := [d1, d2, d3, d4, d5, d6] }
  | _ => none }
def FnWantingClaimedThenSatedWrongFalsely : Prop := fnWantingClaimedThenSatedRow.holds Try.pinned (OpenSpec.ofChange fnWantingClaimedThenSatedWrong)

end Rows
end Go.Proofs.Qxb6001269a
