/-
  No cell of these rows narrows 'for every input' (looked for: loops, veiled, ifaces, maps, wideKeys, modest, calm, conditions, laid).
  DERIVED. THE GIVEN ROWS OF THIS SEAT. 2 by the template 'for every input the law returns true; each argument reads behind the call as it read before'; 0 by the template 'total and deterministic' (their statements: Qxb6614123aTotals.lean).
  GIVEN WITH THE SEED: the statements are not yours to turn. If you find one false, say at which input.
  Laid BY PROGRAM, IN A SANDBOX (cutbox-rows.mjs): the forced cells as the released guide's own fill.sh prints them over the translation 25c44140d3a1a19a… (all of the seat's roots in one cut). By AI agents, Wed Nov 11 2026. No macro, syntax, notation, axiom, sorry.
-/
import Derived.Test.Qxb6614123aChecked
import GoSem.Claim
import GoSem.ClaimJoined
import GoSem.ClaimMapViews
import Derived.JoinedTies
import Derived.KernelRfl
namespace Go.Proofs.Qxb6614123a
/- THE CELL 'sum', in the pinned program and in every row, IS THE sha256 OF THE DUMP (.gsa) THAT Qxb6614123aProg.lean LOADS. Nothing in Lean hashes anything: it is a label: what it is worth is what the hold of that sum in a sandbox is worth. -/
noncomputable def Try.pinned : Pinned := { name := "qxb6614123a", sum := "25c44140d3a1a19a625b14c5baa6c038559cb9ca1898a9d5cccf19a6e62e82ff", checked := Try.checked }
namespace Rows
def none {H : Type} : Left H := { results := [], args := [] }

/-- 'zzlaws_internal_paxos_b1.FnRestorePromiseKeepsLastFourRecords': WHATEVER THE INPUT: true; the input reads as it did. -/
def fnRestorePromiseKeepsLastFourRecordsSpec : ChangeSpec := { name := "fnRestorePromiseKeepsLastFourRecords", fn := fun _ => fun
  | [d] => { results := [.lit (.bool true)], args := [d] }
  | _ => none }
def fnRestorePromiseKeepsLastFourRecordsRow : OpenClaim := { program := "qxb6614123a", sum := "25c44140d3a1a19a625b14c5baa6c038559cb9ca1898a9d5cccf19a6e62e82ff", func := "example.com/ballotwright/ballotwright/zzlaws_internal_paxos_b1.FnRestorePromiseKeepsLastFourRecords", spec := "fnRestorePromiseKeepsLastFourRecords", plainKeys := false, apart := false }
def FnRestorePromiseKeepsLastFourRecordsSaid : Prop := fnRestorePromiseKeepsLastFourRecordsRow.holds Try.pinned (OpenSpec.ofChange fnRestorePromiseKeepsLastFourRecordsSpec)

/-- ITS FALSE NEIGHBOUR: 'it returns false'. Refute it at one input. -/
def fnRestorePromiseKeepsLastFourRecordsWrong : ChangeSpec := { name := "fnRestorePromiseKeepsLastFourRecords", fn := fun _ => fun
  | [d] => { results := [.lit (.bool false)], args := [d] }
  | _ => none }
def FnRestorePromiseKeepsLastFourRecordsWrongFalsely : Prop := fnRestorePromiseKeepsLastFourRecordsRow.holds Try.pinned (OpenSpec.ofChange fnRestorePromiseKeepsLastFourRecordsWrong)

/-- 'zzlaws_internal_paxos_b1.FnRestorePromiseIgnoresRoundsNotAbove': WHATEVER THE INPUT: true; the input reads as it did. -/
def fnRestorePromiseIgnoresRoundsNotAboveSpec : ChangeSpec := { name := "fnRestorePromiseIgnoresRoundsNotAbove", fn := fun _ => fun
  | [d] => { results := [.lit (.bool true)], args := [d] }
  | _ => none }
def fnRestorePromiseIgnoresRoundsNotAboveRow : OpenClaim := { program := "qxb6614123a", sum := "25c44140d3a1a19a625b14c5baa6c038559cb9ca1898a9d5cccf19a6e62e82ff", func := "example.com/ballotwright/ballotwright/zzlaws_internal_paxos_b1.FnRestorePromiseIgnoresRoundsNotAbove", spec := "fnRestorePromiseIgnoresRoundsNotAbove", plainKeys := false, apart := false }
def FnRestorePromiseIgnoresRoundsNotAboveSaid : Prop := fnRestorePromiseIgnoresRoundsNotAboveRow.holds Try.pinned (OpenSpec.ofChange fnRestorePromiseIgnoresRoundsNotAboveSpec)

/-- ITS FALSE NEIGHBOUR: 'it returns false'. Refute it at one input. -/
def fnRestorePromiseIgnoresRoundsNotAboveWrong : ChangeSpec := { name := "fnRestorePromiseIgnoresRoundsNotAbove", fn := fun _ => fun
  | [d] => { results := [.lit (.bool false)], args := [d] }
  | _ => none }
def FnRestorePromiseIgnoresRoundsNotAboveWrongFalsely : Prop := fnRestorePromiseIgnoresRoundsNotAboveRow.holds Try.pinned (OpenSpec.ofChange fnRestorePromiseIgnoresRoundsNotAboveWrong)

end Rows
end Go.Proofs.Qxb6614123a
