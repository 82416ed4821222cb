/-
  No cell of these rows narrows 'for every input' (looked for: loops, veiled, ifaces, maps, wideKeys, modest, calm, conditions, laid).
  DERIVED. THE GIVEN ROWS OF THIS SEAT. 2 by the template 'for every input the law returns true; each argument reads behind the call as it read before'; 0 by the template 'total and deterministic' (their statements: Qxb6634827aTotals.lean).
  GIVEN WITH THE SEED: the statements are not yours to turn. If you find one false, say at which input.
  Laid BY PROGRAM, IN A SANDBOX (cutbox-rows.mjs): the forced cells as the released guide's own fill.sh prints them over the translation e4b117805d6b8a76… (all of the seat's roots in one cut). By AI agents, Wed Nov 11 2026. No macro, syntax, notation, axiom, sorry.
-/
import Derived.Test.Qxb6634827aChecked
import GoSem.Claim
import GoSem.ClaimJoined
import GoSem.ClaimMapViews
import Derived.JoinedTies
import Derived.KernelRfl
namespace Go.Proofs.Qxb6634827a
/- THE CELL 'sum', in the pinned program and in every row, IS THE sha256 OF THE DUMP (.gsa) THAT Qxb6634827aProg.lean LOADS. Nothing in Lean hashes anything: it is a label: what it is worth is what the hold of that sum in a sandbox is worth. -/
noncomputable def Try.pinned : Pinned := { name := "qxb6634827a", sum := "e4b117805d6b8a761b571f3c2df3d67f6287a64fae974d5f8769afca40ae9a52", checked := Try.checked }
namespace Rows
def none {H : Type} : Left H := { results := [], args := [] }

/-- 'zzlaws_root_b1.FnBucketIndexIsTopBitOfXorDistance': WHATEVER THE INPUT: true; the input reads as it did. -/
def fnBucketIndexIsTopBitOfXorDistanceSpec : ChangeSpec := { name := "fnBucketIndexIsTopBitOfXorDistance", fn := fun _ => fun
  | [d1, d2, d3] => { results := [.lit (.bool true)], args := [d1, d2, d3] }
  | _ => none }
def fnBucketIndexIsTopBitOfXorDistanceRow : OpenClaim := { program := "qxb6634827a", sum := "e4b117805d6b8a761b571f3c2df3d67f6287a64fae974d5f8769afca40ae9a52", func := "example.com/xorlane/xorlane/zzlaws_root_b1.FnBucketIndexIsTopBitOfXorDistance", spec := "fnBucketIndexIsTopBitOfXorDistance", apart := false }
def FnBucketIndexIsTopBitOfXorDistanceSaid : Prop := fnBucketIndexIsTopBitOfXorDistanceRow.holds Try.pinned (OpenSpec.ofChange fnBucketIndexIsTopBitOfXorDistanceSpec)

/-- ITS FALSE NEIGHBOUR: 'it returns false'. Refute it at one input. -/
def fnBucketIndexIsTopBitOfXorDistanceWrong : ChangeSpec := { name := "fnBucketIndexIsTopBitOfXorDistance", fn := fun _ => fun
  | [d1, d2, d3] => { results := [.lit (.bool false)], args := [d1, d2, d3] }
  | _ => none }
def FnBucketIndexIsTopBitOfXorDistanceWrongFalsely : Prop := fnBucketIndexIsTopBitOfXorDistanceRow.holds Try.pinned (OpenSpec.ofChange fnBucketIndexIsTopBitOfXorDistanceWrong)

/-- 'zzlaws_root_b1.FnBucketIndexOneBitFlipped': WHATEVER THE INPUT: true; the input reads as it did. -/
def fnBucketIndexOneBitFlippedSpec : ChangeSpec := { name := "fnBucketIndexOneBitFlipped", fn := fun _ => fun
  | [d1, d2, d3] => { results := [.lit (.bool true)], args := [d1, d2, d3] }
  | _ => none }
def fnBucketIndexOneBitFlippedRow : OpenClaim := { program := "qxb6634827a", sum := "e4b117805d6b8a761b571f3c2df3d67f6287a64fae974d5f8769afca40ae9a52", func := "example.com/xorlane/xorlane/zzlaws_root_b1.FnBucketIndexOneBitFlipped", spec := "fnBucketIndexOneBitFlipped", apart := false }
def FnBucketIndexOneBitFlippedSaid : Prop := fnBucketIndexOneBitFlippedRow.holds Try.pinned (OpenSpec.ofChange fnBucketIndexOneBitFlippedSpec)

/-- ITS FALSE NEIGHBOUR: 'it returns false'. Refute it at one input. -/
def fnBucketIndexOneBitFlippedWrong : ChangeSpec := { name := "fnBucketIndexOneBitFlipped", fn := fun _ => fun
  | [d1, d2, d3] => { results := [.lit (.bool false)], args := [d1, d2, d3] }
  | _ => none }
def FnBucketIndexOneBitFlippedWrongFalsely : Prop := fnBucketIndexOneBitFlippedRow.holds Try.pinned (OpenSpec.ofChange fnBucketIndexOneBitFlippedWrong)

end Rows
end Go.Proofs.Qxb6634827a
