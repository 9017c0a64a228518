/-
  No cell of these rows narrows 'for every input' (looked for: loops, veiled, ifaces, maps, wideKeys, modest, calm, conditions, laid).
  DERIVED. THE GIVEN ROWS OF THIS SEAT. 2 by the template 'for every input the law returns true; each argument reads behind the call as it read before'; 0 by the template 'total and deterministic' (their statements: Qxb6613656aTotals.lean).
  GIVEN WITH THE SEED: the statements are not yours to turn. If you find one false, say at which input.
  Laid BY PROGRAM, IN A SANDBOX (cutbox-rows.mjs): the forced cells as the released guide's own fill.sh prints them over the translation c1166f973239fd3b… (all of the seat's roots in one cut). By AI agents, Wed Nov 11 2026. No macro, syntax, notation, axiom, sorry.
-/
import Derived.Test.Qxb6613656aChecked
import GoSem.Claim
import GoSem.ClaimJoined
import GoSem.ClaimMapViews
import Derived.JoinedTies
import Derived.KernelRfl
namespace Go.Proofs.Qxb6613656a
/- THE CELL 'sum', in the pinned program and in every row, IS THE sha256 OF THE DUMP (.gsa) THAT Qxb6613656aProg.lean LOADS. Nothing in Lean hashes anything: it is a label: what it is worth is what the hold of that sum in a sandbox is worth. -/
noncomputable def Try.pinned : Pinned := { name := "qxb6613656a", sum := "c1166f973239fd3b635ff92ee741f71355c840ae0faa34326c714c90b996a975", checked := Try.checked }
namespace Rows
def none {H : Type} : Left H := { results := [], args := [] }

/-- 'zzlaws_internal_scram_b1.FnWeakerThanEveryCountAboveItsOwn': WHATEVER THE INPUT: true; the input reads as it did. -/
def fnWeakerThanEveryCountAboveItsOwnSpec : ChangeSpec := { name := "fnWeakerThanEveryCountAboveItsOwn", fn := fun _ => fun
  | [d1, d2, d3, d4, d5] => { results := [.lit (.bool true)], args := [d1, d2, d3, d4, d5] }
  | _ => none }
def fnWeakerThanEveryCountAboveItsOwnRow : OpenClaim := { program := "qxb6613656a", sum := "c1166f973239fd3b635ff92ee741f71355c840ae0faa34326c714c90b996a975", func := "example.com/wary-login/wary-login/zzlaws_internal_scram_b1.FnWeakerThanEveryCountAboveItsOwn", spec := "fnWeakerThanEveryCountAboveItsOwn", apart := false }
def FnWeakerThanEveryCountAboveItsOwnSaid : Prop := fnWeakerThanEveryCountAboveItsOwnRow.holds Try.pinned (OpenSpec.ofChange fnWeakerThanEveryCountAboveItsOwnSpec)

/-- ITS FALSE NEIGHBOUR: 'it returns false'. Refute it at one input. -/
def fnWeakerThanEveryCountAboveItsOwnWrong : ChangeSpec := { name := "fnWeakerThanEveryCountAboveItsOwn", fn := fun _ => fun
  | [d1, d2, d3, d4, d5] => { results := [.lit (.bool false)], args := [d1, d2, d3, d4, d5] }
  | _ => none }
def FnWeakerThanEveryCountAboveItsOwnWrongFalsely : Prop := fnWeakerThanEveryCountAboveItsOwnRow.holds Try.pinned (OpenSpec.ofChange fnWeakerThanEveryCountAboveItsOwnWrong)

/-- 'zzlaws_internal_scram_b1.FnWeakerThanCutSalt': WHATEVER THE INPUT: true; the input reads as it did. -/
def fnWeakerThanCutSaltSpec : ChangeSpec := { name := "fnWeakerThanCutSalt", fn := fun _ => fun
  | [d1, d2, d3, d4, d5, d6] => { results := [.lit (.bool true)], args := [d1, d2, d3, d4, d5, d6] }
  | _ => none }
def fnWeakerThanCutSaltRow : OpenClaim := { program := "qxb6613656a", sum := "c1166f973239fd3b635ff92ee741f71355c840ae0faa34326c714c90b996a975", func := "example.com/wary-login/wary-login/zzlaws_internal_scram_b1.FnWeakerThanCutSalt", spec := "fnWeakerThanCutSalt", apart := false }
def FnWeakerThanCutSaltSaid : Prop := fnWeakerThanCutSaltRow.holds Try.pinned (OpenSpec.ofChange fnWeakerThanCutSaltSpec)

/-- ITS FALSE NEIGHBOUR: 'it returns false'. Refute it at one input. -/
def fnWeakerThanCutSaltWrong : ChangeSpec := { name := "fnWeakerThanCutSalt", fn := fun _ => fun
  | [d1, d2, d3, d4, d5, d6] => { results := [.lit (.bool false)], args := [d1, d2, d3, d4, d5, d6] }
  | _ => none }
def FnWeakerThanCutSaltWrongFalsely : Prop := fnWeakerThanCutSaltRow.holds Try.pinned (OpenSpec.ofChange fnWeakerThanCutSaltWrong)

end Rows
end Go.Proofs.Qxb6613656a
