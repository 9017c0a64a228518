/-
  No cell of these rows narrows 'for every input' (looked for: loops, veiled, ifaces, maps, wideKeys, modest, calm, conditions, laid).
  DERIVED. THE GIVEN ROWS OF THIS SEAT. 2 by the template 'for every input the law returns true; each argument reads behind the call as it read before'; 0 by the template 'total and deterministic' (their statements: Qxb6614192aTotals.lean).
  GIVEN WITH THE SEED: the statements are not yours to turn. If you find one false, say at which input.
  Laid BY PROGRAM, IN A SANDBOX (cutbox-rows.mjs): the forced cells as the released guide's own fill.sh prints them over the translation c2ce17adffa5c45c… (all of the seat's roots in one cut). By AI agents, Wed Nov 11 2026. No macro, syntax, notation, axiom, sorry.
-/
import Derived.Test.Qxb6614192aChecked
import GoSem.Claim
import GoSem.ClaimJoined
import GoSem.ClaimMapViews
import Derived.JoinedTies
import Derived.KernelRfl
namespace Go.Proofs.Qxb6614192a
/- THE CELL 'sum', in the pinned program and in every row, IS THE sha256 OF THE DUMP (.gsa) THAT Qxb6614192aProg.lean LOADS. Nothing in Lean hashes anything: it is a label: what it is worth is what the hold of that sum in a sandbox is worth. -/
noncomputable def Try.pinned : Pinned := { name := "qxb6614192a", sum := "c2ce17adffa5c45cf23ddbe451de12d0fbec2dc1a67a24b8453a6c96fb565df1", checked := Try.checked }
namespace Rows
def none {H : Type} : Left H := { results := [], args := [] }

/-- 'zzlaws_consensus_b1.FnLogEntriesAfterNew': WHATEVER THE INPUT: true; the input reads as it did. -/
def fnLogEntriesAfterNewSpec : ChangeSpec := { name := "fnLogEntriesAfterNew", fn := fun _ => fun
  | [d1, d2, d3, d4, d5, d6, d7, d8, d9, d10] => { results := [.lit (.bool true)], args := [d1, d2, d3, d4, d5, d6, d7, d8, d9, d10] }
  | _ => none }
def fnLogEntriesAfterNewRow : OpenClaim := { program := "qxb6614192a", sum := "c2ce17adffa5c45cf23ddbe451de12d0fbec2dc1a67a24b8453a6c96fb565df1", func := "example.com/kvorum/kvorum/zzlaws_consensus_b1.FnLogEntriesAfterNew", spec := "fnLogEntriesAfterNew", inPlace := ["internal/reflectlite.ValueOf", "internal/reflectlite.Swapper", "(internal/reflectlite.Value).Len"], unfollowed := true, recurses := true, apart := false }
def FnLogEntriesAfterNewSaid : Prop := fnLogEntriesAfterNewRow.holds Try.pinned (OpenSpec.ofChange fnLogEntriesAfterNewSpec)

/-- ITS FALSE NEIGHBOUR: 'it returns false'. Refute it at one input. -/
def fnLogEntriesAfterNewWrong : ChangeSpec := { name := "fnLogEntriesAfterNew", fn := fun _ => fun
  | [d1, d2, d3, d4, d5, d6, d7, d8, d9, d10] => { results := [.lit (.bool false)], args := [d1, d2, d3, d4, d5, d6, d7, d8, d9, d10] }
  | _ => none }
def FnLogEntriesAfterNewWrongFalsely : Prop := fnLogEntriesAfterNewRow.holds Try.pinned (OpenSpec.ofChange fnLogEntriesAfterNewWrong)

/-- 'zzlaws_consensus_b1.FnInLeaseAfterNew': WHATEVER THE INPUT: true; the input reads as it did. -/
def fnInLeaseAfterNewSpec : ChangeSpec := { name := "fnInLeaseAfterNew", fn := fun _ => fun
  | [d1, d2, d3, d4, d5] => { results := [.lit (.bool true)], args := [d1, d2, d3, d4, d5] }
  | _ => none }
def fnInLeaseAfterNewRow : OpenClaim := { program := "qxb6614192a", sum := "c2ce17adffa5c45cf23ddbe451de12d0fbec2dc1a67a24b8453a6c96fb565df1", func := "example.com/kvorum/kvorum/zzlaws_consensus_b1.FnInLeaseAfterNew", spec := "fnInLeaseAfterNew", inPlace := ["internal/reflectlite.ValueOf", "internal/reflectlite.Swapper", "(internal/reflectlite.Value).Len"], unfollowed := true, recurses := true, apart := false }
def FnInLeaseAfterNewSaid : Prop := fnInLeaseAfterNewRow.holds Try.pinned (OpenSpec.ofChange fnInLeaseAfterNewSpec)

/-- ITS FALSE NEIGHBOUR: 'it returns false'. Refute it at one input. -/
def fnInLeaseAfterNewWrong : ChangeSpec := { name := "fnInLeaseAfterNew", fn := fun _ => fun
  | [d1, d2, d3, d4, d5] => { results := [.lit (.bool false)], args := [d1, d2, d3, d4, d5] }
  | _ => none }
def FnInLeaseAfterNewWrongFalsely : Prop := fnInLeaseAfterNewRow.holds Try.pinned (OpenSpec.ofChange fnInLeaseAfterNewWrong)

end Rows
end Go.Proofs.Qxb6614192a
