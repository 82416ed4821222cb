/-
  No cell of these rows narrows 'for every input' (looked for: loops, veiled, ifaces, maps, wideKeys, modest, calm, conditions, laid).
  DERIVED. THE GIVEN ROWS OF THIS SEAT. 2 by the template 'for every input the law returns true; each argument reads behind the call as it read before'; 0 by the template 'total and deterministic' (their statements: Qxb6632608aTotals.lean).
  GIVEN WITH THE SEED: the statements are not yours to turn. If you find one false, say at which input.
  Laid BY PROGRAM, IN A SANDBOX (cutbox-rows.mjs): the forced cells as the released guide's own fill.sh prints them over the translation c4701899016b4fbc… (all of the seat's roots in one cut). By AI agents, Wed Nov 11 2026. No macro, syntax, notation, axiom, sorry.
-/
import Derived.Test.Qxb6632608aChecked
import GoSem.Claim
import GoSem.ClaimJoined
import GoSem.ClaimMapViews
import Derived.JoinedTies
import Derived.KernelRfl
namespace Go.Proofs.Qxb6632608a
/- THE CELL 'sum', in the pinned program and in every row, IS THE sha256 OF THE DUMP (.gsa) THAT Qxb6632608aProg.lean LOADS. Nothing in Lean hashes anything: it is a label: what it is worth is what the hold of that sum in a sandbox is worth. -/
noncomputable def Try.pinned : Pinned := { name := "qxb6632608a", sum := "c4701899016b4fbce69f4176b83801ac322f5781d1a907a1435f7adb75229191", checked := Try.checked }
namespace Rows
def none {H : Type} : Left H := { results := [], args := [] }

/-- 'zzlaws_internal_syntax_b1.FnResolveIsConcatenationOfChain': WHATEVER THE INPUT: true; the input reads as it did. -/
def fnResolveIsConcatenationOfChainSpec : ChangeSpec := { name := "fnResolveIsConcatenationOfChain", fn := fun _ => fun
  | [d] => { results := [.lit (.bool true)], args := [d] }
  | _ => none }
def fnResolveIsConcatenationOfChainRow : OpenClaim := { program := "qxb6632608a", sum := "c4701899016b4fbce69f4176b83801ac322f5781d1a907a1435f7adb75229191", func := "example.com/conmod/conmod/zzlaws_internal_syntax_b1.FnResolveIsConcatenationOfChain", spec := "fnResolveIsConcatenationOfChain", apart := false }
def FnResolveIsConcatenationOfChainSaid : Prop := fnResolveIsConcatenationOfChainRow.holds Try.pinned (OpenSpec.ofChange fnResolveIsConcatenationOfChainSpec)

/-- ITS FALSE NEIGHBOUR: 'it returns false'. Refute it at one input. -/
def fnResolveIsConcatenationOfChainWrong : ChangeSpec := { name := "fnResolveIsConcatenationOfChain", fn := fun _ => fun
  | [d] => { results := [.lit (.bool false)], args := [d] }
  | _ => none }
def FnResolveIsConcatenationOfChainWrongFalsely : Prop := fnResolveIsConcatenationOfChainRow.holds Try.pinned (OpenSpec.ofChange fnResolveIsConcatenationOfChainWrong)

/-- 'zzlaws_internal_syntax_b1.FnResolveRelativeIsFreshEachTime': WHATEVER THE INPUT: true; the input reads as it did. -/
def fnResolveRelativeIsFreshEachTimeSpec : ChangeSpec := { name := "fnResolveRelativeIsFreshEachTime", fn := fun _ => fun
  | [d] => { results := [.lit (.bool true)], args := [d] }
  | _ => none }
def fnResolveRelativeIsFreshEachTimeRow : OpenClaim := { program := "qxb6632608a", sum := "c4701899016b4fbce69f4176b83801ac322f5781d1a907a1435f7adb75229191", func := "example.com/conmod/conmod/zzlaws_internal_syntax_b1.FnResolveRelativeIsFreshEachTime", spec := "fnResolveRelativeIsFreshEachTime", apart := false }
def FnResolveRelativeIsFreshEachTimeSaid : Prop := fnResolveRelativeIsFreshEachTimeRow.holds Try.pinned (OpenSpec.ofChange fnResolveRelativeIsFreshEachTimeSpec)

/-- ITS FALSE NEIGHBOUR: 'it returns false'. Refute it at one input. -/
def fnResolveRelativeIsFreshEachTimeWrong : ChangeSpec := { name := "fnResolveRelativeIsFreshEachTime", fn := fun _ => fun
  | [d] => { results := [.lit (.bool false)], args := [d] }
  | _ => none }
def FnResolveRelativeIsFreshEachTimeWrongFalsely : Prop := fnResolveRelativeIsFreshEachTimeRow.holds Try.pinned (OpenSpec.ofChange fnResolveRelativeIsFreshEachTimeWrong)

end Rows
end Go.Proofs.Qxb6632608a
