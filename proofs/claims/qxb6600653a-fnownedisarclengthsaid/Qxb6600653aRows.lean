/-
  No cell of these rows narrows 'for every input' (looked for: loops, veiled, ifaces, maps, wideKeys, modest, calm, conditions, laid).
  DERIVED. THE GIVEN ROWS OF THIS SEAT. 4 by the template 'for every input the law returns true; each argument reads behind the call as it read before'; 0 by the template 'total and deterministic' (their statements: Qxb6600653aTotals.lean).
  GIVEN WITH THE SEED: the statements are not yours to turn. If you find one false, say at which input.
  Laid BY PROGRAM, IN A SANDBOX (cutbox-rows.mjs): the forced cells as the released guide's own fill.sh prints them over the translation 87d337004a74b7ba… (all of the seat's roots in one cut). By AI agents, Wed Nov 11 2026. No macro, syntax, notation, axiom, sorry.
-/
import Derived.Test.Qxb6600653aChecked
import GoSem.Claim
import GoSem.ClaimJoined
import GoSem.ClaimMapViews
import Derived.JoinedTies
import Derived.KernelRfl
namespace Go.Proofs.Qxb6600653a
/- THE CELL 'sum', in the pinned program and in every row, IS THE sha256 OF THE DUMP (.gsa) THAT Qxb6600653aProg.lean LOADS. Nothing in Lean hashes anything: it is a label: what it is worth is what the hold of that sum in a sandbox is worth. -/
noncomputable def Try.pinned : Pinned := { name := "qxb6600653a", sum := "87d337004a74b7bac797a58e501d67bdbb2f19dfe7d362414df48fa5ad8d145a", checked := Try.checked }
namespace Rows
def none {H : Type} : Left H := { results := [], args := [] }

/-- 'zzlaws_root_b1.FnOwnedIsArcLength': WHATEVER THE INPUT: true; the input reads as it did. -/
def fnOwnedIsArcLengthSpec : ChangeSpec := { name := "fnOwnedIsArcLength", fn := fun _ => fun
  | [d1, d2] => { results := [.lit (.bool true)], args := [d1, d2] }
  | _ => none }
def fnOwnedIsArcLengthRow : OpenClaim := { program := "qxb6600653a", sum := "87d337004a74b7bac797a58e501d67bdbb2f19dfe7d362414df48fa5ad8d145a", func := "example.com/ringlet/ringlet/zzlaws_root_b1.FnOwnedIsArcLength", spec := "fnOwnedIsArcLength", apart := false }
def FnOwnedIsArcLengthSaid : Prop := fnOwnedIsArcLengthRow.holds Try.pinned (OpenSpec.ofChange fnOwnedIsArcLengthSpec)

/-- ITS FALSE NEIGHBOUR: 'it returns false'. Refute it at one input. -/
def fnOwnedIsArcLengthWrong : ChangeSpec := { name := "fnOwnedIsArcLength", fn := fun _ => fun
  | [d1, d2] => { results := [.lit (.bool false)], args := [d1, d2] }
  | _ => none }
def FnOwnedIsArcLengthWrongFalsely : Prop := fnOwnedIsArcLengthRow.holds Try.pinned (OpenSpec.ofChange fnOwnedIsArcLengthWrong)

/-- 'zzlaws_root_b1.FnOwnedSharesPartitionRing': WHATEVER THE INPUT: true; the input reads as it did. -/
def fnOwnedSharesPartitionRingSpec : ChangeSpec := { name := "fnOwnedSharesPartitionRing", fn := fun _ => fun
  | [d] => { results := [.lit (.bool true)], args := [d] }
  | _ => none }
def fnOwnedSharesPartitionRingRow : OpenClaim := { program := "qxb6600653a", sum := "87d337004a74b7bac797a58e501d67bdbb2f19dfe7d362414df48fa5ad8d145a", func := "example.com/ringlet/ringlet/zzlaws_root_b1.FnOwnedSharesPartitionRing", spec := "fnOwnedSharesPartitionRing", apart := false }
def FnOwnedSharesPartitionRingSaid : Prop := fnOwnedSharesPartitionRingRow.holds Try.pinned (OpenSpec.ofChange fnOwnedSharesPartitionRingSpec)

/-- ITS FALSE NEIGHBOUR: 'it returns false'. Refute it at one input. -/
def fnOwnedSharesPartitionRingWrong : ChangeSpec := { name := "fnOwnedSharesPartitionRing", fn := fun _ => fun
  | [d] => { results := [.lit (.bool false)], args := [d] }
  | _ => none }
def FnOwnedSharesPartitionRingWrongFalsely : Prop := fnOwnedSharesPartitionRingRow.holds Try.pinned (OpenSpec.ofChange fnOwnedSharesPartitionRingWrong)

/-- 'zzlaws_root_b1.FnJumpMovesOnlyToNewBucket': WHATEVER THE INPUT: true; the input reads as it did. -/
def fnJumpMovesOnlyToNewBucketSpec : ChangeSpec := { name := "fnJumpMovesOnlyToNewBucket", fn := fun _ => fun
  | [d1, d2] => { results := [.lit (.bool true)], args := [d1, d2] }
  | _ => none }
def fnJumpMovesOnlyToNewBucketRow : OpenClaim := { program := "qxb6600653a", sum := "87d337004a74b7bac797a58e501d67bdbb2f19dfe7d362414df48fa5ad8d145a", func := "example.com/ringlet/ringlet/zzlaws_root_b1.FnJumpMovesOnlyToNewBucket", spec := "fnJumpMovesOnlyToNewBucket", apart := false }
def FnJumpMovesOnlyToNewBucketSaid : Prop := fnJumpMovesOnlyToNewBucketRow.holds Try.pinned (OpenSpec.ofChange fnJumpMovesOnlyToNewBucketSpec)

/-- ITS FALSE NEIGHBOUR: 'it returns false'. Refute it at one input. -/
def fnJumpMovesOnlyToNewBucketWrong : ChangeSpec := { name := "fnJumpMovesOnlyToNewBucket", fn := fun _ => fun
  | [d1, d2] => { results := [.lit (.bool false)], args := [d1, d2] }
  | _ => none }
def FnJumpMovesOnlyToNewBucketWrongFalsely : Prop := fnJumpMovesOnlyToNewBucketRow.holds Try.pinned (OpenSpec.ofChange fnJumpMovesOnlyToNewBucketWrong)

/-- 'zzlaws_root_b1.FnJumpMonotoneInBuckets': WHATEVER THE INPUT: true; the input reads as it did. -/
def fnJumpMonotoneInBucketsSpec : ChangeSpec := { name := "fnJumpMonotoneInBuckets", fn := fun _ => fun
  | [d1, d2, d3] => { results := [.lit (.bool true)], args := [d1, d2, d3] }
  | _ => none }
def fnJumpMonotoneInBucketsRow : OpenClaim := { program := "qxb6600653a", sum := "87d337004a74b7bac797a58e501d67bdbb2f19dfe7d362414df48fa5ad8d145a", func := "example.com/ringlet/ringlet/zzlaws_root_b1.FnJumpMonotoneInBuckets", spec := "fnJumpMonotoneInBuckets", apart := false }
def FnJumpMonotoneInBucketsSaid : Prop := fnJumpMonotoneInBucketsRow.holds Try.pinned (OpenSpec.ofChange fnJumpMonotoneInBucketsSpec)

/-- ITS FALSE NEIGHBOUR: 'it returns false'. Refute it at one input. -/
def fnJumpMonotoneInBucketsWrong : ChangeSpec := { name := "fnJumpMonotoneInBuckets", fn := fun _ => fun
  | [d1, d2, d3] => { results := [.lit (.bool false)], args := [d1, d2, d3] }
  | _ => none }
def FnJumpMonotoneInBucketsWrongFalsely : Prop := fnJumpMonotoneInBucketsRow.holds Try.pinned (OpenSpec.ofChange fnJumpMonotoneInBucketsWrong)

end Rows
end Go.Proofs.Qxb6600653a
