import Derived.Test.Qxb6614192aRow
namespace Go.Proofs.Qxb6614192a
open Go.RowKit Go.Sort

theorem Row.fix {w : World} {B g n c : Nat} {l : List Int} (h : Row w B (.slice (some ⟨g, 0, none⟩) n c) l) (j : Nat) : w.frozen? ⟨g, j, none⟩ = false := by
  rcases h.2 with ⟨h1, _⟩ | ⟨g', cap, cur, h1, _, h2, _⟩
  · simp at h1
  · simp only [Value.slice.injEq, Option.some.injEq, Addr.mk.injEq] at h1
    obtain ⟨⟨rfl, _⟩, _⟩ := h1
    exact frozen_of_row w g j _ 22 h2

/-- sort.Slice over one of the node's two rows. -/
theorem sort_any (g j : Nat) (hg : (g = 21 ∧ j = 1) ∨ (g = 22 ∧ j = 2)) (kb b B : Nat) (p : Option Addr) (c : Nat) (l : List Int) (w : World) (hk : w.cell? ⟨kb, 0, none⟩ = some (.pointer (some ⟨b, 0, none⟩)))
    (hs : w.cell? ⟨b, j, none⟩ = some (.slice p l.length c)) (hR : Row w B (.slice p l.length c) l) (hkb : kb < B) (hbb : b < B) (hl : l.length ≤ 1024) :
    Calls Try.prog 20 #[.iface 23 (.slice p l.length c), .func (.func g) #[] #[.pointer (some ⟨kb, 0, none⟩)]] w fun e w' =>
      e = .returned (.tuple #[]) ∧ (∃ S, Keep S w w' ∧ ∀ q, q ∈ S → B ≤ q ∧ (Value.slice p l.length c).ownBlock = some q) ∧ (l.length ≤ 1 → Keep [] w w') := by
  by_cases h1 : l.length ≤ 1
  · refine (sort_tiny p l.length c h1 _ _ _ w).mono ?_
    rintro e w' ⟨rfl, h⟩
    exact ⟨rfl, ⟨[], h, by simp⟩, fun _ => h⟩
  · obtain ⟨g0, rfl, hB, _, _⟩ := hR.cell 0 (by omega)
    have hH : Holds (Value.int .u64) w g0 0 l.toArray := by
      intro i hi
      have hi' : i < l.length := by simpa using hi
      obtain ⟨g', e', _, _, hc⟩ := hR.cell i hi'
      simp only [Option.some.injEq, Addr.mk.injEq] at e'
      obtain ⟨rfl, _⟩ := e'
      rw [Nat.zero_add]
      refine ⟨hc.trans ?_, hR.fix i⟩
      simp [hi']
    have hlt := (hR.lt g0 rfl).2
    have h := sort_field g j hg g0 c kb b l.toArray (by simp; omega) (by simp; omega) w hk (by simpa using hs) hH hlt (by omega) (by omega)
    simp only [List.size_toArray] at h
    refine h.mono ?_
    rintro e w' ⟨rfl, h⟩
    exact ⟨rfl, ⟨[g0], h, fun q hq => by simp at hq; subst hq; exact ⟨hB, rfl⟩⟩, fun h' => absurd h' h1⟩
theorem take_contains (vs : List Int) (k : Nat) (id : Int) (h : k < vs.length) : (vs.take (k + 1)).contains id = ((vs.take k).contains id || decide (vs.getD k 0 = id)) := by
  have e : vs.getD k 0 = vs[k] := by simp [List.getD_eq_getElem?_getD, List.getElem?_eq_getElem h]
  rw [List.take_succ_eq_append_getElem h, List.contains_eq_any_beq, List.any_append, ← List.contains_eq_any_beq, e]
  congr 1
  by_cases hx : vs[k] = id
  · simp [hx]
  · have hx' : ¬ id = vs[k] := fun e => hx e.symm
    simp [hx, hx']
theorem take_snoc (vs : List Int) (k : Nat) (h : k < vs.length) : vs.take (k + 1) = vs.take k ++ [vs.getD k 0] := by
  have e : vs.getD k 0 = vs[k] := by simp [List.getD_eq_getElem?_getD, List.getElem?_eq_getElem h]
  rw [List.take_succ_eq_append_getElem h, e]
end Go.Proofs.Qxb6614192a
