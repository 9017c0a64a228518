import Derived.Test.Qxb6614123aRecords
import Derived.ProofKit
import Derived.OpenShut
import Derived.ChangeOld
import Derived.Deep.Slices
import Derived.Lib.SmallJoins
namespace Go.Proofs.Qxb6614123a
open Go.ChangeShapes Go.WideShapes Go.ChangeAt Go.RowKit

theorem own : ownKnob Try.prog.godebug = none := by kernel_rfl
theorem laidOut : laidOutB Try.prog = true := by kernel_rfl
theorem cells32 : Try.prog.cellsOf 32 = 4 := by kernel_rfl
theorem cells27 : Try.prog.cellsOf 27 = 1 := by kernel_rfl
theorem cells3 : Try.prog.cellsOf 3 = 1 := by kernel_rfl

section
variable {H : Type} {enc : TypeId × Value → H} {w : World} {base : Nat} {spare : Nat → Bool} {held : Bool}

theorem round_cells {n : Nat} {cs : List Value} {y : DataW H × List MemPlace} (h : DataW.trod enc Try.prog w base spare held n 32 cs = some y) : ∃ r : R, cs = rl r := by
  obtain ⟨y0, y1, y2, y3, m, _, hl, h0, h1, h2, h3⟩ := Go.Joins.trod_struct4 Try.underlying32 h
  rw [cells32] at hl
  match cs, hl with
  | [c0, c1, c2, c3], _ =>
    simp only [cells27, cells3] at h0 h1 h2 h3
    obtain ⟨a, ha, _⟩ := DataW.trod_int Try.underlying27 h0
    obtain ⟨b, hb, _⟩ := DataW.trod_int Try.underlying27 h1
    obtain ⟨c, hc, _⟩ := DataW.trod_int Try.underlying3 h2
    obtain ⟨d, hd, _⟩ := DataW.trod_int Try.underlying27 h3
    simp at ha hb hc hd
    subst ha hb hc hd
    exact ⟨⟨a, b, c, d⟩, rfl⟩

/-- The slice of rounds that came in. -/
theorem rounds_in {a : Option Addr} {len cap : Nat} {d : DataW H} {p : List MemPlace} (h : DataW.Trod enc Try.prog w base spare held 22 (.slice a len cap) d p) :
    len ≤ maxLen ∧ ∃ rs : List R, rs.length = len ∧ RowsIn w a rs := by
  obtain ⟨fuel, hf⟩ := h
  rcases DataW.trod_slice Try.underlying22 hf with ⟨h0, _⟩ | ⟨a', len', cap', elems, rest, n, _, h0, _, hb, hl, hm, hlen, hel, _⟩
  · simp [Value.cells] at h0
    obtain ⟨_, rfl, _⟩ := h0
    exact ⟨Nat.zero_le _, [], rfl, fun i hi => by simp at hi⟩
  · simp [Value.cells] at h0
    obtain ⟨rfl, rfl, rfl⟩ := h0
    refine ⟨Nat.le_trans hl hm, ?_⟩
    have each : ∀ i, i < len → ∃ r : R, ∀ j, j < 4 → w.cell? ((a'.add (i * 4)).add j) = (rl r)[j]? := by
      intro i hi
      have := hel i hi
      rw [cells32, List.getElem?_eq_getElem (by omega), Option.bind_eq_some_iff] at this
      obtain ⟨cs, hcs, hy⟩ := this
      obtain ⟨r, rfl⟩ := round_cells hy
      exact ⟨r, fun j hj => (World.cells?_some hcs).2.2 j hj⟩
    have : Inhabited R := ⟨R.zero⟩
    obtain ⟨f, hfn⟩ := Go.Deep.choose_lt (p := fun i (r : R) => ∀ j, j < 4 → w.cell? ((a'.add (i * 4)).add j) = (rl r)[j]?) each
    refine ⟨(List.range len).map f, by simp, ?_⟩
    intro i hi
    simp only [List.length_map, List.length_range] at hi
    have hg : ((List.range len).map f).getD i R.zero = f i := by simp [List.getD_eq_getElem?_getD, hi]
    rw [hg]
    obtain ⟨b, off, spot⟩ := a'
    have hspot : spot = none := by
      have h0 := hfn 0 (by omega) 0 (by omega)
      simp [Addr.add, rl] at h0
      simpa using World.cell?_spot h0
    subst hspot
    have hc := hfn i hi
    have ha : ∀ j, ((⟨b, off, none⟩ : Addr).add (i * 4)).add j = ⟨b, off + i * 4 + j, none⟩ := by
      intro j
      rw [Addr.add_lit, Addr.add_lit]
    refine ⟨b, off, rfl, ?_, ?_, ?_, ?_⟩
    · have := hc 0 (by omega); rw [ha] at this; exact this
    · have := hc 1 (by omega); rw [ha] at this; exact this
    · have := hc 2 (by omega); rw [ha] at this; exact this
    · have := hc 3 (by omega); rw [ha] at this; exact this
end
end Go.Proofs.Qxb6614123a
