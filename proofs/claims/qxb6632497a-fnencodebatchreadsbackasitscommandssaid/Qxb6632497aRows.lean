/-
  No cell of these rows narrows 'for every input' (looked for: loops, veiled, ifaces, maps, wideKeys, modest, calm, conditions, laid).
  DERIVED. THE GIVEN ROWS OF THIS SEAT. 2 by the template 'for every input the law returns true; each argument reads behind the call as it read before'; 0 by the template 'total and deterministic' (their statements: Qxb6632497aTotals.lean).
  GIVEN WITH THE SEED: the statements are not yours to turn. If you find one false, say at which input.
  Laid BY PROGRAM, IN A SANDBOX (cutbox-rows.mjs): the forced cells as the released guide's own fill.sh prints them over the translation d9f96968a7f9a90c… (all of the seat's roots in one cut). By AI agents, Wed Nov 11 2026. No macro, syntax, notation, axiom, sorry.
-/
import Derived.Test.Qxb6632497aChecked
import GoSem.Claim
import GoSem.ClaimJoined
import GoSem.ClaimMapViews
import Derived.JoinedTies
import Derived.KernelRfl
namespace Go.Proofs.Qxb6632497a
/- THE CELL 'sum', in the pinned program and in every row, IS THE sha256 OF THE DUMP (.gsa) THAT Qxb6632497aProg.lean LOADS. Nothing in Lean hashes anything: it is a label: what it is worth is what the hold of that sum in a sandbox is worth. -/
noncomputable def Try.pinned : Pinned := { name := "qxb6632497a", sum := "d9f96968a7f9a90cf48c447ac0a79f060470dce2cffa980aec852e7b6fcfd17f", checked := Try.checked }
namespace Rows
def none {H : Type} : Left H := { results := [], args := [] }

/-- 'zzlaws_internal_kv_b1.FnEncodeBatchReadsBackAsItsCommands': WHATEVER THE INPUT: true; the input reads as it did. -/
def fnEncodeBatchReadsBackAsItsCommandsSpec : ChangeSpec := { name := "fnEncodeBatchReadsBackAsItsCommands", fn := fun _ => fun
  | [d] => { results := [.lit (.bool true)], args := [d] }
  | _ => none }
def fnEncodeBatchReadsBackAsItsCommandsRow : OpenClaim := { program := "qxb6632497a", sum := "d9f96968a7f9a90cf48c447ac0a79f060470dce2cffa980aec852e7b6fcfd17f", func := "example.com/synodic/synodic/zzlaws_internal_kv_b1.FnEncodeBatchReadsBackAsItsCommands", spec := "fnEncodeBatchReadsBackAsItsCommands", apart := false }
def FnEncodeBatchReadsBackAsItsCommandsSaid : Prop := fnEncodeBatchReadsBackAsItsCommandsRow.holds Try.pinned (OpenSpec.ofChange fnEncodeBatchReadsBackAsItsCommandsSpec)

/-- ITS FALSE NEIGHBOUR: 'it returns false'. Refute it at one input. -/
def fnEncodeBatchReadsBackAsItsCommandsWrong : ChangeSpec := { name := "fnEncodeBatchReadsBackAsItsCommands", fn := fun _ => fun
  | [d] => { results := [.lit (.bool false)], args := [d] }
  | _ => none }
def FnEncodeBatchReadsBackAsItsCommandsWrongFalsely : Prop := fnEncodeBatchReadsBackAsItsCommandsRow.holds Try.pinned (OpenSpec.ofChange fnEncodeBatchReadsBackAsItsCommandsWrong)

/-- 'zzlaws_internal_kv_b1.FnEncodeBatchSplitsAtAnyCut': WHATEVER THE INPUT: true; the input reads as it did. -/
def fnEncodeBatchSplitsAtAnyCutSpec : ChangeSpec := { name := "fnEncodeBatchSplitsAtAnyCut", fn := fun _ => fun
  | [d1, d2] => { results := [.lit (.bool true)], args := [d1, d2] }
  | _ => none }
def fnEncodeBatchSplitsAtAnyCutRow : OpenClaim := { program := "qxb6632497a", sum := "d9f96968a7f9a90cf48c447ac0a79f060470dce2cffa980aec852e7b6fcfd17f", func := "example.com/synodic/synodic/zzlaws_internal_kv_b1.FnEncodeBatchSplitsAtAnyCut", spec := "fnEncodeBatchSplitsAtAnyCut", apart := false }
def FnEncodeBatchSplitsAtAnyCutSaid : Prop := fnEncodeBatchSplitsAtAnyCutRow.holds Try.pinned (OpenSpec.ofChange fnEncodeBatchSplitsAtAnyCutSpec)

/-- ITS FALSE NEIGHBOUR: 'it returns false'. Refute it at one input. -/
def fnEncodeBatchSplitsAtAnyCutWrong : ChangeSpec := { name := "fnEncodeBatchSplitsAtAnyCut", fn := fun _ => fun
  | [d1, d2] => { results := [.lit (.bool false)], args := [d1, d2] }
  | _ => none }
def FnEncodeBatchSplitsAtAnyCutWrongFalsely : Prop := fnEncodeBatchSplitsAtAnyCutRow.holds Try.pinned (OpenSpec.ofChange fnEncodeBatchSplitsAtAnyCutWrong)

end Rows
end Go.Proofs.Qxb6632497a
