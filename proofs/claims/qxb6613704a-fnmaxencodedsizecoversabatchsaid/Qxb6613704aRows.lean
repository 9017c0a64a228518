/-
  No cell of these rows narrows 'for every input' (looked for: loops, veiled, ifaces, maps, wideKeys, modest, calm, conditions, laid).
  DERIVED. THE GIVEN ROWS OF THIS SEAT. 1 by the template 'for every input the law returns true; each argument reads behind the call as it read before'; 0 by the template 'total and deterministic' (their statements: Qxb6613704aTotals.lean).
  GIVEN WITH THE SEED: the statements are not yours to turn. If you find one false, say at which input.
  Laid BY PROGRAM, IN A SANDBOX (cutbox-rows.mjs): the forced cells as the released guide's own fill.sh prints them over the translation 5d9a78ec38a40eb5… (all of the seat's roots in one cut). By AI agents, Wed Nov 11 2026. No macro, syntax, notation, axiom, sorry.
-/
import Derived.Test.Qxb6613704aChecked
import GoSem.Claim
import GoSem.ClaimJoined
import GoSem.ClaimMapViews
import Derived.JoinedTies
import Derived.KernelRfl
namespace Go.Proofs.Qxb6613704a
/- THE CELL 'sum', in the pinned program and in every row, IS THE sha256 OF THE DUMP (.gsa) THAT Qxb6613704aProg.lean LOADS. Nothing in Lean hashes anything: it is a label: what it is worth is what the hold of that sum in a sandbox is worth. -/
noncomputable def Try.pinned : Pinned := { name := "qxb6613704a", sum := "5d9a78ec38a40eb5fedbb1aae4bf228ed8677f67643669fde9bf44ab798e161a", checked := Try.checked }
namespace Rows
def none {H : Type} : Left H := { results := [], args := [] }

/-- 'zzlaws_store_b1.FnMaxEncodedSizeCoversABatch': WHATEVER THE INPUT: true; the input reads as it did. -/
def fnMaxEncodedSizeCoversABatchSpec : ChangeSpec := { name := "fnMaxEncodedSizeCoversABatch", fn := fun _ => fun
  | [d1, d2, d3, d4] => { results := [.lit (.bool true)], args := [d1, d2, d3, d4] }
  | _ => none }
def fnMaxEncodedSizeCoversABatchRow : OpenClaim := { program := "qxb6613704a", sum := "5d9a78ec38a40eb5fedbb1aae4bf228ed8677f67643669fde9bf44ab798e161a", func := "example.com/moorings/moorings/zzlaws_store_b1.FnMaxEncodedSizeCoversABatch", spec := "fnMaxEncodedSizeCoversABatch", apart := false }
def FnMaxEncodedSizeCoversABatchSaid : Prop := fnMaxEncodedSizeCoversABatchRow.holds Try.pinned (OpenSpec.ofChange fnMaxEncodedSizeCoversABatchSpec)

/-- ITS FALSE NEIGHBOUR: 'it returns false'. Refute it at one input. -/
def fnMaxEncodedSizeCoversABatchWrong : ChangeSpec := { name := "fnMaxEncodedSizeCoversABatch", fn := fun _ => fun
  | [d1, d2, d3, d4] => { results := [.lit (.bool false)], args := [d1, d2, d3, d4] }
  | _ => none }
def FnMaxEncodedSizeCoversABatchWrongFalsely : Prop := fnMaxEncodedSizeCoversABatchRow.holds Try.pinned (OpenSpec.ofChange fnMaxEncodedSizeCoversABatchWrong)

end Rows
end Go.Proofs.Qxb6613704a
