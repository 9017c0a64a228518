import Derived.Test.Qxb6614123aRecords
namespace Go.Proofs.Qxb6614123a
open Go.RowKit

theorem still_all {P : Program} {id : Nat} {Q : Exit → Act → World → Prop} {a : Act} {w : World} {l : List Oper} (hm : P.follows .mixedOrders = true) (hB : Region.lexB .any l.toArray = true)
    (h : wpStill P l.toArray w.drew (fun a' => Q .normal a' w.drew) l a) : (Code.region id l.toArray true).wp P Q a w := wp_region_still_lit hm hB h

theorem owned_in {w : World} {B : Nat} {p : Option Addr} {n cap : Nat} {l : List R} (h : w.ownsRow B 29 4 (.slice p n cap) l.length (flat l)) : RowsIn w p l := by
  intro i hi
  rcases h.2 with ⟨_, h0⟩ | ⟨g, cp, cur, hv, _⟩
  · omega
  · have hv' := hv
    simp only [Value.slice.injEq] at hv'
    obtain ⟨rfl, rfl, rfl⟩ := hv'
    obtain ⟨f0, f1, f2, f3⟩ := flat_cell l i hi
    refine ⟨g, 0, rfl, ?_, ?_, ?_, ?_⟩ <;> rw [Nat.zero_add]
    · exact (h.cellAt (i * 4) (by omega)).trans f0
    · exact (h.cellAt (i * 4 + 1) (by omega)).trans f1
    · exact (h.cellAt (i * 4 + 2) (by omega)).trans f2
    · exact (h.cellAt (i * 4 + 3) (by omega)).trans f3

theorem RowsIn.later {w w' : World} {p : Option Addr} {l : List R} (h : RowsIn w p l) (hb : Below w.heap.size w w') : RowsIn w' p l := by
  intro i hi
  obtain ⟨b, off, e, c0, c1, c2, c3⟩ := h i hi
  exact ⟨b, off, e, (hb.cell (block_lt_of_cell c0)).trans c0, (hb.cell (block_lt_of_cell c1)).trans c1, (hb.cell (block_lt_of_cell c2)).trans c2, (hb.cell (block_lt_of_cell c3)).trans c3⟩

set_option maxHeartbeats 1000000 in
theorem keeps_none (p q : Option Addr) (cap cap' : Nat) (w : World) :
    Calls Try.prog 10 #[.agg #[.int .u64 0, .int .u64 0, .int .i64 0, .int .u64 0], .slice p 0 cap, .agg #[.int .u64 0, .int .u64 0, .int .i64 0, .int .u64 0], .slice q 0 cap'] w fun e w' => e = .returned (.bool true) ∧ Below w.heap.size w w' := by
  go_enter Try.func10, Try.ntmps10
  go_wp2
  go_loop [12] (fun i => i = .int .i64 0) (fun _ => 0)
  case atStart => rfl
  case round =>
    subst hrel
    go_wp2
    go_ret
    exact ⟨rfl, ((((Below.refl _ _).alloc (Nat.le_refl _) _).alloc (by simp) _).alloc (by simp; omega) _).alloc (by simp; omega) _⟩

set_option maxHeartbeats 1000000 in
/-- At most four records: all are kept apart. -/
theorem keeps_few (l : List R) (m : Nat) (hl : l.length = m + 1) (hm : m < 4) (p q : Option Addr) (cap cap' : Nat) (w : World) (hp : RowsIn w p l) (hq : RowsIn w q l) :
    Calls Try.prog 10 #[.agg #[.int .u64 (l.getD m R.zero).e, .int .u64 (l.getD m R.zero).n, .int .i64 (l.getD m R.zero).l, .int .u64 (l.getD m R.zero).s], .slice p (m + 1) cap, .agg #[.int .u64 0, .int .u64 0, .int .i64 0, .int .u64 0], .slice q (m + 1) cap'] w fun e w' => e = .returned (.bool true) ∧ Below w.heap.size w w' := by
  obtain ⟨b, off, rfl, c0, c1, c2, c3⟩ := hq m (by omega)
  have HL : Hid (l.length = m + 1) := hl
  have HP : Hid (RowsIn w p l) := hp
  have HQ : Hid (RowsIn w (some ⟨b, off, none⟩) l) := hq
  have hblt : b < w.heap.size := block_lt_of_cell c0
  have hb1 : b < w.heap.size + 1 := by omega
  have hb2 : b < w.heap.size + 1 + 1 := by omega
  have hm4 : decide ((4 : Int) < (m : Int) + 1) = false := by simp; omega
  clear hl hp hq
  generalize hr : l.getD m R.zero = r at *
  clear hr
  go_enter Try.func10, Try.ntmps10
  go_wp2
  have hbw0 : ∀ A B C : Obj, Below w.heap.size w (((w.alloc A).alloc B).alloc C) := fun A B C => (((Below.refl _ _).alloc (Nat.le_refl _) _).alloc (by simp) _).alloc (by simp; omega) _
  have hbx0 : ∀ A C : Obj, BoxAt (((w.alloc A).alloc (.cells #[.int .u64 0, .int .u64 0, .int .i64 0, .int .u64 0] 29)).alloc C) (w.heap.size + 1) R.zero := fun A C => (Below.heap_alloc _ _ _ (by simp)).trans (heap_alloc2_new w _ _)
  have hbw := hbw0 (.cells #[.int .u64 r.e, .int .u64 r.n, .int .i64 r.l, .int .u64 r.s] 29) (.cells #[.int .u64 0, .int .u64 0, .int .i64 0, .int .u64 0] 29) (.cells #[.int .u64 r.e, .int .u64 r.n, .int .i64 r.l, .int .u64 r.s] 29)
  have hbx := hbx0 (.cells #[.int .u64 r.e, .int .u64 r.n, .int .i64 r.l, .int .u64 r.s] 29) (.cells #[.int .u64 r.e, .int .u64 r.n, .int .i64 r.l, .int .u64 r.s] 29)
  clear hbw0 hbx0 c0 c1 c2 c3
  generalize ((w.alloc _).alloc _).alloc _ = W0 at hbw hbx ⊢
  have HQ0 : Hid (RowsIn W0 (some ⟨b, off, none⟩) l) := HQ.out.later hbw
  have HP0 : Hid (RowsIn W0 p l) := HP.out.later hbw
  have HX : Hid (BoxAt W0 (w.heap.size + 1) R.zero) := hbx
  have HW : Hid (Below w.heap.size w W0) := hbw
  clear HQ HP hbw hbx hblt hb1 hb2
  go_loopw [12] (fun i wr => ∃ k : Nat, k ≤ m + 1 ∧ i = .int .i64 k ∧ Below W0.heap.size W0 wr) (fun i _ => m + 1 - (intOf i).toNat)
  case atStart => exact ⟨0, Nat.zero_le _, rfl, Below.refl _ _⟩
  case round =>
    obtain ⟨k, hk, rfl, hbr⟩ := hrel
    by_cases hlt : k < m + 1
    · obtain ⟨b', off', rfl, c0, c1, c2, c3⟩ := (HP0.out.later hbr) k (by rw [HL.out]; omega)
      obtain ⟨b'', off'', e, d0, d1, d2, d3⟩ := (HQ0.out.later hbr) k (by rw [HL.out]; omega)
      simp only [Option.some.injEq, Addr.mk.injEq, and_true] at e
      obtain ⟨rfl, rfl⟩ := e
      generalize l.getD k R.zero = x at *
      have hlt' : (k : Int) < (m : Int) + 1 := by omega
      have hwr : IntKind.i64.wrap (k : Int) = k := by rw [IntKind.wrap_i64]; omega
      go_wp2_with fail
      refine still_all (by kernel_rfl) (by kernel_rfl) ?_
      repeat still_step
      refine wpStill_nil ?_
      go_wp2_with fail
      go_roundw
      case rel => first | exact ⟨k + 1, by omega, by go_num, hbr.drew⟩ | ((repeat apply Exists.intro); exact ⟨⟨k + 1, by omega, by go_num, hbr.drew⟩, rfl⟩)
      case measure => simp [intOf]; omega
    · have hlt' : ¬ (k : Int) < (m : Int) + 1 := by omega
      obtain ⟨x0, x1, x2, x3⟩ := (HX.out.later hbr).cells
      have hlx : w.heap.size + 1 < wr.heap.size := (Array.getElem?_eq_some_iff.1 (HX.out.later hbr)).1
      simp only [R.zero] at x0 x1 x2 x3
      go_wp2_with fail
      go_ret
      exact ⟨rfl, (HW.out.trans (hbr.mono HW.out.size)).alloc (by omega) _⟩
set_option maxHeartbeats 1000000 in
/-- More than four records: the last four are kept apart. -/
theorem keeps_many (l : List R) (m : Nat) (hl : l.length = m + 5) (hm : m ≤ 1048576) (p q : Option Addr) (cap cap' : Nat) (w : World) (hp : RowsIn w p (l.drop (m + 1))) (hq : RowsIn w q l) :
    Calls Try.prog 10 #[.agg #[.int .u64 (l.getD (m + 4) R.zero).e, .int .u64 (l.getD (m + 4) R.zero).n, .int .i64 (l.getD (m + 4) R.zero).l, .int .u64 (l.getD (m + 4) R.zero).s], .slice p 4 cap, .agg #[.int .u64 (l.getD m R.zero).e, .int .u64 (l.getD m R.zero).n, .int .i64 (l.getD m R.zero).l, .int .u64 (l.getD m R.zero).s], .slice q (m + 5) cap'] w fun e w' => e = .returned (.bool true) ∧ Below w.heap.size w w' := by
  obtain ⟨b, off, rfl, c0, c1, c2, c3⟩ := hq (m + 4) (by omega)
  have HL : Hid (l.length = m + 5) := hl
  have HP : Hid (RowsIn w p (l.drop (m + 1))) := hp
  have HQ : Hid (RowsIn w (some ⟨b, off, none⟩) l) := hq
  have hblt : b < w.heap.size := block_lt_of_cell c0
  have hb1 : b < w.heap.size + 1 := by omega
  have hb2 : b < w.heap.size + 1 + 1 := by omega
  have hm4 : decide ((4 : Int) < (m : Int) + 5) = true := by simp; omega
  have hm0 : decide ((0 : Int) < (m : Int) + 5) = true := by simp; omega
  have hm5 : ((4 : Int) != (m : Int) + 5 - ((m : Int) + 5 - 4)) = false := by rw [bne_eq_false_iff_eq]; omega
  clear hl hp hq
  obtain ⟨t, ht⟩ : ∃ t, t = l.getD m R.zero := ⟨_, rfl⟩
  have HT : Hid (t = l.getD m R.zero) := ht
  rw [← ht]
  clear ht
  generalize hr : l.getD (m + 4) R.zero = r at *
  clear hr
  go_enter Try.func10, Try.ntmps10
  go_wp2
  have hbw0 : ∀ A B C : Obj, Below w.heap.size w (((w.alloc A).alloc B).alloc C) := fun A B C => (((Below.refl _ _).alloc (Nat.le_refl _) _).alloc (by simp) _).alloc (by simp; omega) _
  have hbx0 : ∀ A C : Obj, BoxAt (((w.alloc A).alloc (.cells #[.int .u64 t.e, .int .u64 t.n, .int .i64 t.l, .int .u64 t.s] 29)).alloc C) (w.heap.size + 1) t := fun A C => (Below.heap_alloc _ _ _ (by simp)).trans (heap_alloc2_new w _ _)
  have hbw := hbw0 (.cells #[.int .u64 r.e, .int .u64 r.n, .int .i64 r.l, .int .u64 r.s] 29) (.cells #[.int .u64 t.e, .int .u64 t.n, .int .i64 t.l, .int .u64 t.s] 29) (.cells #[.int .u64 r.e, .int .u64 r.n, .int .i64 r.l, .int .u64 r.s] 29)
  have hbx := hbx0 (.cells #[.int .u64 r.e, .int .u64 r.n, .int .i64 r.l, .int .u64 r.s] 29) (.cells #[.int .u64 r.e, .int .u64 r.n, .int .i64 r.l, .int .u64 r.s] 29)
  clear hbw0 hbx0 c0 c1 c2 c3
  generalize ((w.alloc _).alloc _).alloc _ = W0 at hbw hbx ⊢
  have HQ0 : Hid (RowsIn W0 (some ⟨b, off, none⟩) l) := HQ.out.later hbw
  have HP0 : Hid (RowsIn W0 p (l.drop (m + 1))) := HP.out.later hbw
  have HX : Hid (BoxAt W0 (w.heap.size + 1) t) := hbx
  have HW : Hid (Below w.heap.size w W0) := hbw
  clear HQ HP hbw hbx hblt hb1 hb2
  go_loopw [12] (fun i wr => ∃ k : Nat, k ≤ 4 ∧ i = .int .i64 k ∧ Below W0.heap.size W0 wr) (fun i _ => 4 - (intOf i).toNat)
  case atStart => exact ⟨0, Nat.zero_le _, rfl, Below.refl _ _⟩
  case round =>
    obtain ⟨k, hk, rfl, hbr⟩ := hrel
    by_cases hlt : k < 4
    · obtain ⟨b', off', rfl, c0, c1, c2, c3⟩ := (HP0.out.later hbr) k (by rw [List.length_drop, HL.out]; omega)
      obtain ⟨b'', off'', e, d0, d1, d2, d3⟩ := (HQ0.out.later hbr) (m + 1 + k) (by rw [HL.out]; omega)
      simp only [Option.some.injEq, Addr.mk.injEq, and_true] at e
      obtain ⟨rfl, rfl⟩ := e
      have hdr : (l.drop (m + 1)).getD k R.zero = l.getD (m + 1 + k) R.zero := by simp [List.getD_eq_getElem?_getD]
      rw [hdr] at c0 c1 c2 c3
      clear hdr
      generalize l.getD (m + 1 + k) R.zero = x at *
      have hlt' : (k : Int) < 4 := by omega
      have hwr : IntKind.i64.wrap ((m : Int) + 5 - 4 + k) = (m : Int) + 1 + k := by rw [IntKind.wrap_i64]; omega
      have hp0 : (0 : Int) ≤ (m : Int) + 1 + k := by omega
      have hp1 : (m : Int) + 1 + k < (m : Int) + 5 := by omega
      have hp2 : ((m : Int) + 1 + k).toNat = m + 1 + k := by omega
      go_wp2_with fail
      refine still_all (by kernel_rfl) (by kernel_rfl) ?_
      repeat still_step
      refine wpStill_nil ?_
      go_wp2_with fail
      go_roundw
      case rel => first | exact ⟨k + 1, by omega, by go_num, hbr.drew⟩ | ((repeat apply Exists.intro); exact ⟨⟨k + 1, by omega, by go_num, hbr.drew⟩, rfl⟩)
      case measure => simp [intOf]; omega
    · have hlt' : ¬ (k : Int) < 4 := by omega
      obtain ⟨x0, x1, x2, x3⟩ := (HX.out.later hbr).cells
      have hlx : w.heap.size + 1 < wr.heap.size := (Array.getElem?_eq_some_iff.1 (HX.out.later hbr)).1
      obtain ⟨b3, off3, e, d0, d1, d2, d3⟩ := (HQ0.out.later hbr) m (by rw [HL.out]; omega)
      simp only [Option.some.injEq, Addr.mk.injEq, and_true] at e
      obtain ⟨rfl, rfl⟩ := e
      rw [← HT.out] at d0 d1 d2 d3
      have hlb : b < wr.heap.size := block_lt_of_cell d0
      go_wp2_with fail
      go_ret
      exact ⟨rfl, (HW.out.trans (hbr.mono HW.out.size)).alloc (by omega) _⟩
end Go.Proofs.Qxb6614123a
