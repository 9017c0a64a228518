import Derived.Test.Qxb6613704aBytes
import Derived.ProofKit
import Derived.OpenShut
import Derived.ChangeOld
import Derived.Deep.Slices
namespace Go.Proofs.Qxb6613704a
open Go.ChangeShapes Go.WideShapes Go.ChangeAt Go.RowKit

theorem own : ownKnob Try.prog.godebug = none := by kernel_rfl
theorem laidOut : laidOutB Try.prog = true := by kernel_rfl
theorem cells5 : Try.prog.cellsOf 5 = 1 := by kernel_rfl
theorem cells28 : Try.prog.cellsOf 28 = 1 := by kernel_rfl
theorem cells9 : Try.prog.cellsOf 9 = 1 := by kernel_rfl
theorem cells22 : Try.prog.cellsOf 22 = 1 := by kernel_rfl

section
variable {H : Type} {enc : TypeId × Value → H} {P : Program} {w : World} {base : Nat} {spare : Nat → Bool} {held : Bool}

/-- A slice that came in, its elements of one cell each: its bounds, and each element's cell with its own reading. -/
theorem slice_cells {t e : TypeId} {a : Option Addr} {len cap : Nat} {d : DataW H} {p : List MemPlace} (ht : P.underlying t = some (.slice e)) (hc : P.cellsOf e = 1) (h : DataW.Trod enc P w base spare held t (.slice a len cap) d p) :
    len ≤ maxLen ∧ ∀ i, i < len → ∃ v, (∃ b off, a = some ⟨b, off, none⟩ ∧ w.cell? ⟨b, off + i, none⟩ = some v) ∧ ∃ n y, DataW.trod enc P w base spare held n e [v] = some y := by
  obtain ⟨fuel, hf⟩ := h
  rcases DataW.trod_slice ht hf with ⟨h0, _⟩ | ⟨a', len', cap', elems, rest, n, _, h0, _, hb, hl, hm, hlen, hel, _⟩
  · simp [Value.cells] at h0
    obtain ⟨_, rfl, _⟩ := h0
    exact ⟨Nat.zero_le _, fun i hi => by omega⟩
  · simp [Value.cells] at h0
    obtain ⟨rfl, rfl, rfl⟩ := h0
    refine ⟨Nat.le_trans hl hm, ?_⟩
    have each : ∀ i, i < len → ∃ v, w.cell? (a'.add i) = some v ∧ ∃ y, DataW.trod enc P w base spare held n e [v] = some y := by
      intro i hi
      have := hel i hi
      rw [hc, Nat.mul_one, List.getElem?_eq_getElem (by omega), Option.bind_eq_some_iff] at this
      obtain ⟨cs, hcs, hy⟩ := this
      obtain ⟨_, hl1, hat⟩ := World.cells?_some hcs
      match cs, hl1 with
      | [v], _ => exact ⟨v, by simpa [Addr.add] using hat 0 (by omega), _, hy⟩
    intro i hi
    obtain ⟨b, off, spot⟩ := a'
    obtain ⟨v0, hv0, _⟩ := each 0 (by omega)
    have hspot : spot = none := by simpa [Addr.add] using World.cell?_spot hv0
    subst hspot
    obtain ⟨v, hv, y, hy⟩ := each i hi
    exact ⟨v, ⟨b, off, rfl, by rw [← add_plain]; exact hv⟩, n, y, hy⟩
end
end Go.Proofs.Qxb6613704a
