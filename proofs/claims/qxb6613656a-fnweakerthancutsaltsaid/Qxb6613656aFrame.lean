import Derived.Test.Qxb6613656aRows
import Derived.WalkKit
import Derived.Below
import Derived.ProofKit
import Derived.OpenShut
import Derived.ChangeOld
namespace Go.Proofs.Qxb6613656a
open Go.ChangeShapes Go.WideShapes Go.ChangeAt Go.RowKit
set_option linter.unusedVariables false

theorem own : ownKnob Try.prog.godebug = none := by kernel_rfl
theorem laidOut : laidOutB Try.prog = true := by kernel_rfl
theorem cells23 : Try.prog.cellsOf 23 = 32 := by kernel_rfl

/-- An array that came in: so many cells. -/
theorem okWide_array {P : Program} {w : World} {r : Reach} {base m : Nat} {t e : TypeId} {v : Value} (ht : P.underlying t = some (.array m e)) (h : Value.okWide P w r base t v) : ∃ cs, v = .agg cs ∧ cs.size = P.cellsOf t := by
  simp only [Value.okWide, ht] at h
  obtain ⟨cs, h1, h2, _⟩ := h
  exact ⟨cs, h1, h2⟩
/-- A slice that came in: no longer than its capacity, which is no more than Go's int holds. -/
theorem slice_bound {H : Type} {enc : TypeId × Value → H} {P : Program} {w : World} {base : Nat} {spare : Nat → Bool} {held : Bool} {t e : TypeId} {a : Option Addr} {len cap : Nat} {d : DataW H} {p : List MemPlace}
    (ht : P.underlying t = some (.slice e)) (h : DataW.Trod enc P w base spare held t (.slice a len cap) d p) : len ≤ cap ∧ cap ≤ maxLen := by
  obtain ⟨fuel, hf⟩ := h
  rcases DataW.trod_slice ht hf with ⟨h0, _⟩ | ⟨a', len', cap', elems, rest, n, _, h0, _, hb, hl, hm, _⟩
  · simp [Value.cells] at h0
    obtain ⟨_, rfl, rfl⟩ := h0
    exact ⟨Nat.zero_le _, Nat.zero_le _⟩
  · simp [Value.cells] at h0
    obtain ⟨_, rfl, rfl⟩ := h0
    exact ⟨hl, hm⟩

end Go.Proofs.Qxb6613656a
