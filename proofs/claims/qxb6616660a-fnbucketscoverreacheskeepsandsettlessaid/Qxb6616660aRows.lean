/-
  No cell of these rows narrows 'for every input' (looked for: loops, veiled, ifaces, maps, wideKeys, modest, calm, conditions, laid).
  DERIVED. THE GIVEN ROWS OF THIS SEAT. 4 by the template 'for every input the law returns true; each argument reads behind the call as it read before'; 0 by the template 'total and deterministic' (their statements: Qxb6616660aTotals.lean).
  GIVEN WITH THE SEED: the statements are not yours to turn. If you find one false, say at which input.
  Laid BY PROGRAM, IN A SANDBOX (cutbox-rows.mjs): the forced cells as the released guide's own fill.sh prints them over the translation 8989f0082ba19956… (all of the seat's roots in one cut). By AI agents, Wed Nov 11 2026. No macro, syntax, notation, axiom, sorry.
-/
import Derived.Test.Qxb6616660aChecked
import GoSem.Claim
import GoSem.ClaimJoined
import GoSem.ClaimMapViews
import Derived.JoinedTies
import Derived.KernelRfl
namespace Go.Proofs.Qxb6616660a
/- THE CELL 'sum', in the pinned program and in every row, IS THE sha256 OF THE DUMP (.gsa) THAT Qxb6616660aProg.lean LOADS. Nothing in Lean hashes anything: it is a label: what it is worth is what the hold of that sum in a sandbox is worth. -/
noncomputable def Try.pinned : Pinned := { name := "qxb6616660a", sum := "8989f0082ba1995657e97d82f95047c1d027fa12af1325edd34c4ddc4a22e04b", checked := Try.checked }
namespace Rows
def none {H : Type} : Left H := { results := [], args := [] }

/-- 'zzlaws_root_b1.FnCountersLenIsRoomRoundedUpToWords': WHATEVER THE INPUT: true; the input reads as it did. -/
def fnCountersLenIsRoomRoundedUpToWordsSpec : ChangeSpec := { name := "fnCountersLenIsRoomRoundedUpToWords", fn := fun _ => fun
  | [d1, d2] => { results := [.lit (.bool true)], args := [d1, d2] }
  | _ => none }
def fnCountersLenIsRoomRoundedUpToWordsRow : OpenClaim := { program := "qxb6616660a", sum := "8989f0082ba1995657e97d82f95047c1d027fa12af1325edd34c4ddc4a22e04b", func := "example.com/quantrel/quantrel/zzlaws_root_b1.FnCountersLenIsRoomRoundedUpToWords", spec := "fnCountersLenIsRoomRoundedUpToWords", apart := false }
def FnCountersLenIsRoomRoundedUpToWordsSaid : Prop := fnCountersLenIsRoomRoundedUpToWordsRow.holds Try.pinned (OpenSpec.ofChange fnCountersLenIsRoomRoundedUpToWordsSpec)

/-- ITS FALSE NEIGHBOUR: 'it returns false'. Refute it at one input. -/
def fnCountersLenIsRoomRoundedUpToWordsWrong : ChangeSpec := { name := "fnCountersLenIsRoomRoundedUpToWords", fn := fun _ => fun
  | [d1, d2] => { results := [.lit (.bool false)], args := [d1, d2] }
  | _ => none }
def FnCountersLenIsRoomRoundedUpToWordsWrongFalsely : Prop := fnCountersLenIsRoomRoundedUpToWordsRow.holds Try.pinned (OpenSpec.ofChange fnCountersLenIsRoomRoundedUpToWordsWrong)

/-- 'zzlaws_root_b1.FnCountersLenKeptWhenFieldsWiden': WHATEVER THE INPUT: true; the input reads as it did. -/
def fnCountersLenKeptWhenFieldsWidenSpec : ChangeSpec := { name := "fnCountersLenKeptWhenFieldsWiden", fn := fun _ => fun
  | [d1, d2, d3, d4, d5, d6] => { results := [.lit (.bool true)], args := [d1, d2, d3, d4, d5, d6] }
  | _ => none }
def fnCountersLenKeptWhenFieldsWidenRow : OpenClaim := { program := "qxb6616660a", sum := "8989f0082ba1995657e97d82f95047c1d027fa12af1325edd34c4ddc4a22e04b", func := "example.com/quantrel/quantrel/zzlaws_root_b1.FnCountersLenKeptWhenFieldsWiden", spec := "fnCountersLenKeptWhenFieldsWiden", recurses := true, apart := false }
def FnCountersLenKeptWhenFieldsWidenSaid : Prop := fnCountersLenKeptWhenFieldsWidenRow.holds Try.pinned (OpenSpec.ofChange fnCountersLenKeptWhenFieldsWidenSpec)

/-- ITS FALSE NEIGHBOUR: 'it returns false'. Refute it at one input. -/
def fnCountersLenKeptWhenFieldsWidenWrong : ChangeSpec := { name := "fnCountersLenKeptWhenFieldsWiden", fn := fun _ => fun
  | [d1, d2, d3, d4, d5, d6] => { results := [.lit (.bool false)], args := [d1, d2, d3, d4, d5, d6] }
  | _ => none }
def FnCountersLenKeptWhenFieldsWidenWrongFalsely : Prop := fnCountersLenKeptWhenFieldsWidenRow.holds Try.pinned (OpenSpec.ofChange fnCountersLenKeptWhenFieldsWidenWrong)

/-- 'zzlaws_root_b1.FnBucketsCoverReachesKeepsAndSettles': WHATEVER THE INPUT: true; the input reads as it did. -/
def fnBucketsCoverReachesKeepsAndSettlesSpec : ChangeSpec := { name := "fnBucketsCoverReachesKeepsAndSettles", fn := fun _ => fun
  | [d1, d2, d3] => { results := [.lit (.bool true)], args := [d1, d2, d3] }
  | _ => none }
def fnBucketsCoverReachesKeepsAndSettlesRow : OpenClaim := { program := "qxb6616660a", sum := "8989f0082ba1995657e97d82f95047c1d027fa12af1325edd34c4ddc4a22e04b", func := "example.com/quantrel/quantrel/zzlaws_root_b1.FnBucketsCoverReachesKeepsAndSettles", spec := "fnBucketsCoverReachesKeepsAndSettles", recurses := true, apart := false }
def FnBucketsCoverReachesKeepsAndSettlesSaid : Prop := fnBucketsCoverReachesKeepsAndSettlesRow.holds Try.pinned (OpenSpec.ofChange fnBucketsCoverReachesKeepsAndSettlesSpec)

/-- ITS FALSE NEIGHBOUR: 'it returns false'. Refute it at one input. -/
def fnBucketsCoverReachesKeepsAndSettlesWrong : ChangeSpec := { name := "fnBucketsCoverReachesKeepsAndSettles", fn := fun _ => fun
  | [d1, d2, d3] => { results := [.lit (.bool false)], args := [d1, d2, d3] }
  | _ => none }
def FnBucketsCoverReachesKeepsAndSettlesWrongFalsely : Prop := fnBucketsCoverReachesKeepsAndSettlesRow.holds Try.pinned (OpenSpec.ofChange fnBucketsCoverReachesKeepsAndSettlesWrong)

/-- 'zzlaws_root_b1.FnBucketsCoverBeforeCountingChangesNothing': WHATEVER THE INPUT: true; the input reads as it did. -/
def fnBucketsCoverBeforeCountingChangesNothingSpec : ChangeSpec := { name := "fnBucketsCoverBeforeCountingChangesNothing", fn := fun _ => fun
  | [d1, d2, d3, d4, d5] => { results := [.lit (.bool true)], args := [d1, d2, d3, d4, d5] }
  | _ => none }
def fnBucketsCoverBeforeCountingChangesNothingRow : OpenClaim := { program := "qxb6616660a", sum := "8989f0082ba1995657e97d82f95047c1d027fa12af1325edd34c4ddc4a22e04b", func := "example.com/quantrel/quantrel/zzlaws_root_b1.FnBucketsCoverBeforeCountingChangesNothing", spec := "fnBucketsCoverBeforeCountingChangesNothing", recurses := true, apart := false }
def FnBucketsCoverBeforeCountingChangesNothingSaid : Prop := fnBucketsCoverBeforeCountingChangesNothingRow.holds Try.pinned (OpenSpec.ofChange fnBucketsCoverBeforeCountingChangesNothingSpec)

/-- ITS FALSE NEIGHBOUR: 'it returns false'. Refute it at one input. -/
def fnBucketsCoverBeforeCountingChangesNothingWrong : ChangeSpec := { name := "fnBucketsCoverBeforeCountingChangesNothing", fn := fun _ => fun
  | [d1, d2, d3, d4, d5] => { results := [.lit (.bool false)], args := [d1, d2, d3, d4, d5] }
  | _ => none }
def FnBucketsCoverBeforeCountingChangesNothingWrongFalsely : Prop := fnBucketsCoverBeforeCountingChangesNothingRow.holds Try.pinned (OpenSpec.ofChange fnBucketsCoverBeforeCountingChangesNothingWrong)

end Rows
end Go.Proofs.Qxb6616660a
