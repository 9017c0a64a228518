import Derived.Test.Qxb6613704aMain
import Derived.Test.Qxb6613704aFrame
namespace Go.Proofs.Qxb6613704a
open Go.ChangeShapes Go.WideShapes Go.ChangeAt Go.RowKit
set_option linter.unusedVariables false

set_option maxRecDepth 100000 in
theorem lifted3 (os : Os) (started : os.Started) (H : Type) (enc : TypeId × Value → H) :
    ReturnsInHanded {} Try.checked os 3 .any (Rows.fnMaxEncodedSizeCoversABatchSpec.pre6 enc Try.prog Try.f3 Rows.fnMaxEncodedSizeCoversABatchRow.domain false) (Rows.fnMaxEncodedSizeCoversABatchSpec.post enc Try.prog Try.f3 false true false false) := by
  refine returnsInHanded_of_change (C := Try.checked) own started (by kernel_rfl) Try.func3
    (ChangeSpec.witness6 (enc := enc) (C := Try.checked) false ⟨#[], #[.slice none 0 0, .slice none 0 0, .slice none 0 0, .slice none 0 0], []⟩ 8 (by kernel_rfl) (by kernel_rfl) (by kernel_rfl) (by kernel_rfl)) ?_
  intro W base args ds gs before hval0 hW hcnd _
  have hval : ∀ (j : Nat) t v, Try.f3.params[j]? = some t → args[j]? = some v → Value.okWide Try.prog W .any base t v := hval0
  have hW' := hW
  obtain ⟨p, q, hA0, hV, rfl, hfz, hnd⟩ := hW
  have hA : DataW.TrodAll enc Try.prog W 0 (fun _ => true) true Try.f3.params.toList args.toList ds p := hA0
  rw [Try.params3] at hA hval
  obtain ⟨v0, vs0, d0, ds0, p0, q0, hargs, rfl, rfl, h0, r0⟩ := trodAll_cons hA
  obtain ⟨v1, vs1, d1, ds1, p1, q1, rfl, rfl, rfl, h1, r1⟩ := trodAll_cons r0
  obtain ⟨v2, vs2, d2, ds2, p2, q2, rfl, rfl, rfl, h2, r2⟩ := trodAll_cons r1
  obtain ⟨v3, vs3, d3, ds3, p3, q3, rfl, rfl, rfl, h3, r3⟩ := trodAll_cons r2
  obtain ⟨rfl, rfl, rfl⟩ := trodAll_nil r3
  obtain rfl : args = #[v0, v1, v2, v3] := by cases args; simp_all
  obtain ⟨rfl, rfl⟩ := trodVars_none hV
  have lt0 : ∀ x ∈ p0, x.block < W.heap.size := by obtain ⟨m, hm⟩ := h0; exact DataW.trod_lt m _ _ _ hm
  have lt1 : ∀ x ∈ p1, x.block < W.heap.size := by obtain ⟨m, hm⟩ := h1; exact DataW.trod_lt m _ _ _ hm
  have lt2 : ∀ x ∈ p2, x.block < W.heap.size := by obtain ⟨m, hm⟩ := h2; exact DataW.trod_lt m _ _ _ hm
  have lt3 : ∀ x ∈ p3, x.block < W.heap.size := by obtain ⟨m, hm⟩ := h3; exact DataW.trod_lt m _ _ _ hm
  obtain ⟨a0, l0, c0, rfl⟩ := okWide_slice Try.underlying22 (hval 0 22 v0 rfl rfl)
  obtain ⟨a1, l1, c1, rfl⟩ := okWide_slice Try.underlying23 (hval 1 23 v1 rfl rfl)
  obtain ⟨a2, l2, c2, rfl⟩ := okWide_slice Try.underlying24 (hval 2 24 v2 rfl rfl)
  obtain ⟨a3, l3, c3, rfl⟩ := okWide_slice Try.underlying25 (hval 3 25 v3 rfl rfl)
  obtain ⟨b0, e0⟩ := slice_cells Try.underlying22 cells5 h0
  obtain ⟨b1, e1⟩ := slice_cells Try.underlying23 cells28 h1
  obtain ⟨b2, e2⟩ := slice_cells Try.underlying24 cells9 h2
  obtain ⟨b3, e3⟩ := slice_cells Try.underlying25 cells22 h3
  obtain ⟨f0, n0⟩ : ∃ f : Nat → Nat, ∀ i, i < l0 → ∃ b off, a0 = some ⟨b, off, none⟩ ∧ W.cell? ⟨b, off + i, none⟩ = some (.int .u8 (f i)) ∧ f i < 256 := Go.Deep.choose_lt (p := fun i x => ∃ b off, a0 = some ⟨b, off, none⟩ ∧ W.cell? ⟨b, off + i, none⟩ = some (.int .u8 (x : Nat)) ∧ x < 256) (fun i hi => by
    obtain ⟨v, ⟨b, off, ha, hv⟩, n, y, hy⟩ := e0 i hi
    obtain ⟨m, hm, _, hw⟩ := DataW.trod_int Try.underlying5 hy
    have hm' : v = .int .u8 m := by simpa using hm
    subst hm'
    simp [Lit.wf, IntKind.min, IntKind.max, IntKind.signed, IntKind.bits] at hw
    obtain ⟨k, rfl⟩ := Int.eq_ofNat_of_zero_le (show 0 ≤ m by omega)
    exact ⟨k, b, off, ha, hv, by omega⟩)
  obtain ⟨f1, n1⟩ : ∃ f : Nat → Nat, ∀ i, i < l1 → ∃ b off, a1 = some ⟨b, off, none⟩ ∧ W.cell? ⟨b, off + i, none⟩ = some (.int .u64 (f i)) ∧ f i < 18446744073709551616 := Go.Deep.choose_lt (p := fun i x => ∃ b off, a1 = some ⟨b, off, none⟩ ∧ W.cell? ⟨b, off + i, none⟩ = some (.int .u64 (x : Nat)) ∧ x < 18446744073709551616) (fun i hi => by
    obtain ⟨v, ⟨b, off, ha, hv⟩, n, y, hy⟩ := e1 i hi
    obtain ⟨m, hm, _, hw⟩ := DataW.trod_int Try.underlying28 hy
    have hm' : v = .int .u64 m := by simpa using hm
    subst hm'
    simp [Lit.wf, IntKind.min, IntKind.max, IntKind.signed, IntKind.bits] at hw
    obtain ⟨k, rfl⟩ := Int.eq_ofNat_of_zero_le (show 0 ≤ m by omega)
    exact ⟨k, b, off, ha, hv, by omega⟩)
  obtain ⟨f2, n2⟩ : ∃ f : Nat → ByteArray, ∀ i, i < l2 → ∃ b off, a2 = some ⟨b, off, none⟩ ∧ W.cell? ⟨b, off + i, none⟩ = some (.string (f i)) ∧ (f i).size ≤ maxLen := Go.Deep.choose_lt (p := fun i x => ∃ b off, a2 = some ⟨b, off, none⟩ ∧ W.cell? ⟨b, off + i, none⟩ = some (.string x) ∧ x.size ≤ maxLen) (fun i hi => by
    obtain ⟨v, ⟨b, off, ha, hv⟩, n, y, hy⟩ := e2 i hi
    obtain ⟨m, hm, _, hw⟩ := DataW.trod_string Try.underlying9 hy
    have hm' : v = .string m := by simpa using hm
    subst hm'
    exact ⟨m, b, off, ha, hv, hw⟩)
  obtain ⟨f3, n3⟩ : ∃ f : Nat → Option Addr × Nat × Nat, ∀ i, i < l3 → ∃ b off, a3 = some ⟨b, off, none⟩ ∧ W.cell? ⟨b, off + i, none⟩ = some (.slice (f i).1 (f i).2.1 (f i).2.2) ∧ (f i).2.1 ≤ maxLen := Go.Deep.choose_lt (p := fun i (x : Option Addr × Nat × Nat) => ∃ b off, a3 = some ⟨b, off, none⟩ ∧ W.cell? ⟨b, off + i, none⟩ = some (.slice x.1 x.2.1 x.2.2) ∧ x.2.1 ≤ maxLen) (fun i hi => by
    obtain ⟨v, ⟨b, off, ha, hv⟩, n, y, hy⟩ := e3 i hi
    rcases DataW.trod_slice Try.underlying22 hy with ⟨hz, _⟩ | ⟨a', len', cap', elems, rest, n, _, hz, _, _, hl, hm, _⟩
    · have hz' : v = .slice none 0 0 := by simpa using hz
      subst hz'
      exact ⟨(none, 0, 0), b, off, ha, hv, Nat.zero_le _⟩
    · have hz' : v = .slice (some a') len' cap' := by simpa using hz
      subst hz'
      exact ⟨(some a', len', cap'), b, off, ha, hv, Nat.le_trans hl hm⟩)
  clear hA0 hval0
  refine (walk3 a0 a1 a2 a3 l0 c0 l1 c1 l2 c2 l3 c3 f0 f1 f2 (fun i => (f3 i).1) (fun i => (f3 i).2.1) (fun i => (f3 i).2.2) W b0 b1 b2 b3 n0 n1 n2 n3).mono fun e W' ⟨he, bel⟩ => ?_
  subst he
  exact ⟨_, rfl, _, _, _, [], _, [], hW', trodAll_mk1 (shut_bool Try.underlying4 _),
    (trodAll_cons_mk (Below.trod laidOut (by kernel_rfl) (of_decide_eq_true (by kernel_rfl)) h0 bel lt0) (trodAll_cons_mk (Below.trod laidOut (by kernel_rfl) (of_decide_eq_true (by kernel_rfl)) h1 bel lt1) (trodAll_cons_mk (Below.trod laidOut (by kernel_rfl) (of_decide_eq_true (by kernel_rfl)) h2 bel lt2) (trodAll_cons_mk (Below.trod laidOut (by kernel_rfl) (of_decide_eq_true (by kernel_rfl)) h3 bel lt3) trodAll_mk0)))), rfl, bel.frame _, fun h => by cases h⟩

/-- The statement: for every input the law answers true and leaves its arguments as they were. -/
theorem covers_proved : Rows.FnMaxEncodedSizeCoversABatchSaid :=
  OpenClaim.holds_of_wide 3 Try.f3 rfl rfl rfl rfl rfl rfl rfl ⟨rfl, rfl, rfl, rfl, rfl⟩ rfl rfl rfl rfl rfl (by kernel_rfl) Try.func3 (by kernel_rfl)
    (of_decide_eq_true (by kernel_rfl)) (by unfold Func.isWrapper; first | (rw [if_pos (by decide +kernel)]; kernel_rfl) | (rw [if_neg (by decide +kernel)]; exact ⟨rfl, rfl⟩))
    (fun os started H enc _ => lifted3 os started H enc)
end Go.Proofs.Qxb6613704a
