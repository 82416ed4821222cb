/-
  No cell of these rows narrows 'for every input' (looked for: loops, veiled, ifaces, maps, wideKeys, modest, calm, conditions, laid).
  DERIVED. THE GIVEN ROWS OF THIS SEAT. 2 by the template 'for every input the law returns true; each argument reads behind the call as it read before'; 0 by the template 'total and deterministic' (their statements: Qxb6632418aTotals.lean).
  GIVEN WITH THE SEED: the statements are not yours to turn. If you find one false, say at which input.
  Laid BY PROGRAM, IN A SANDBOX (cutbox-rows.mjs): the forced cells as the released guide's own fill.sh prints them over the translation 38d96bcabe3a4ceb… (all of the seat's roots in one cut). By AI agents, Wed Nov 11 2026. No macro, syntax, notation, axiom, sorry.
-/
import Derived.Test.Qxb6632418aChecked
import GoSem.Claim
import GoSem.ClaimJoined
import GoSem.ClaimMapViews
import Derived.JoinedTies
import Derived.KernelRfl
namespace Go.Proofs.Qxb6632418a
/- THE CELL 'sum', in the pinned program and in every row, IS THE sha256 OF THE DUMP (.gsa) THAT Qxb6632418aProg.lean LOADS. Nothing in Lean hashes anything: it is a label: what it is worth is what the hold of that sum in a sandbox is worth. -/
noncomputable def Try.pinned : Pinned := { name := "qxb6632418a", sum := "38d96bcabe3a4cebe0186f65d2d47722b87c6870b9733a5d941824590ee83829", checked := Try.checked }
namespace Rows
def none {H : Type} : Left H := { results := [], args := [] }

/-- 'zzlaws_pkg_binlog_b1.FnLastReplicatedMatchesLog': WHATEVER THE INPUT: true; the input reads as it did. -/
def fnLastReplicatedMatchesLogSpec : ChangeSpec := { name := "fnLastReplicatedMatchesLog", fn := fun _ => fun
  | [d1, d2, d3, d4, d5] => { results := [.lit (.bool true)], args := [d1, d2, d3, d4, d5] }
  | _ => none }
def fnLastReplicatedMatchesLogRow : OpenClaim := { program := "qxb6632418a", sum := "38d96bcabe3a4cebe0186f65d2d47722b87c6870b9733a5d941824590ee83829", func := "example.com/relaywire/relaywire/zzlaws_pkg_binlog_b1.FnLastReplicatedMatchesLog", spec := "fnLastReplicatedMatchesLog", plainKeys := false, apart := false }
def FnLastReplicatedMatchesLogSaid : Prop := fnLastReplicatedMatchesLogRow.holds Try.pinned (OpenSpec.ofChange fnLastReplicatedMatchesLogSpec)

/-- ITS FALSE NEIGHBOUR: 'it returns false'. Refute it at one input. -/
def fnLastReplicatedMatchesLogWrong : ChangeSpec := { name := "fnLastReplicatedMatchesLog", fn := fun _ => fun
  | [d1, d2, d3, d4, d5] => { results := [.lit (.bool false)], args := [d1, d2, d3, d4, d5] }
  | _ => none }
def FnLastReplicatedMatchesLogWrongFalsely : Prop := fnLastReplicatedMatchesLogRow.holds Try.pinned (OpenSpec.ofChange fnLastReplicatedMatchesLogWrong)

/-- 'zzlaws_pkg_binlog_b1.FnLastReplicatedAfterOneMore': WHATEVER THE INPUT: true; the input reads as it did. -/
def fnLastReplicatedAfterOneMoreSpec : ChangeSpec := { name := "fnLastReplicatedAfterOneMore", fn := fun _ => fun
  | [d1, d2, d3, d4, d5, d6, d7, d8] => { results := [.lit (.bool true)], args := [d1, d2, d3, d4, d5, d6, d7, d8] }
  | _ => none }
def fnLastReplicatedAfterOneMoreRow : OpenClaim := { program := "qxb6632418a", sum := "38d96bcabe3a4cebe0186f65d2d47722b87c6870b9733a5d941824590ee83829", func := "example.com/relaywire/relaywire/zzlaws_pkg_binlog_b1.FnLastReplicatedAfterOneMore", spec := "fnLastReplicatedAfterOneMore", plainKeys := false, apart := false }
def FnLastReplicatedAfterOneMoreSaid : Prop := fnLastReplicatedAfterOneMoreRow.holds Try.pinned (OpenSpec.ofChange fnLastReplicatedAfterOneMoreSpec)

/-- ITS FALSE NEIGHBOUR: 'it returns false'. Refute it at one input. -/
def fnLastReplicatedAfterOneMoreWrong : ChangeSpec := { name := "fnLastReplicatedAfterOneMore", fn := fun _ => fun
  | [d1, d2, d3, d4, d5, d6, d7, d8] => { results := [.lit (.bool false)], args := [d1, d2, d3, d4, d5, d6, d7, d8] }
  | _ => none }
def FnLastReplicatedAfterOneMoreWrongFalsely : Prop := fnLastReplicatedAfterOneMoreRow.holds Try.pinned (OpenSpec.ofChange fnLastReplicatedAfterOneMoreWrong)

end Rows
end Go.Proofs.Qxb6632418a
