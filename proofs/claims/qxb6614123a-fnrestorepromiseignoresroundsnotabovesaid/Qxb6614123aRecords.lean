import Derived.Test.Qxb6614123aRestore
namespace Go.Proofs.Qxb6614123a
open Go.RowKit

/-- A slice of rounds that came in. -/
def RowsIn (w : World) (p : Option Addr) (rs : List R) : Prop := ∀ i, i < rs.length → ∃ b off, p = some ⟨b, off, none⟩ ∧
  w.cell? ⟨b, off + i * 4, none⟩ = some (.int .u64 (rs.getD i R.zero).e) ∧ w.cell? ⟨b, off + i * 4 + 1, none⟩ = some (.int .u64 (rs.getD i R.zero).n) ∧
  w.cell? ⟨b, off + i * 4 + 2, none⟩ = some (.int .i64 (rs.getD i R.zero).l) ∧ w.cell? ⟨b, off + i * 4 + 3, none⟩ = some (.int .u64 (rs.getD i R.zero).s)

/-- In the midst of the search for records. -/
structure Rec (w0 : World) (w : World) (v : Value) (l : List R) : Prop where
  row : w.ownsRow w0.heap.size 29 4 v l.length (flat l)
  ne : v.ownBlock ≠ some w0.heap.size
  box : BoxAt w w0.heap.size (top l)
  below : Below w0.heap.size w0 w

theorem Rec.later {w0 w w' : World} {v : Value} {l : List R} (h : Rec w0 w v l) (hb : Below w.heap.size w w') : Rec w0 w' v l :=
  ⟨h.row.kept (row := none) ⟨hb.os, hb.tape, hb.output, hb.size, fun k hk _ => hb.block k hk⟩ (by cases v.ownBlock <;> simp), h.ne, (hb.block _ (Array.getElem?_eq_some_iff.1 h.box).1).trans h.box, h.below.trans (hb.mono h.below.size)⟩
theorem BoxAt.later {w w' : World} {k : Nat} {r : R} (h : BoxAt w k r) (hb : Below w.heap.size w w') : BoxAt w' k r := (hb.block k (Array.getElem?_eq_some_iff.1 h).1).trans h
theorem below2 (w : World) {w' : World} (h : ∃ o1 o2, w' = (w.alloc o1).alloc o2) : Below w.heap.size w w' := by
  obtain ⟨o1, o2, rfl⟩ := h
  exact ((Below.refl _ _).alloc (Nat.le_refl _) _).alloc (by simp) _
theorem below1 (w : World) (o : Obj) : Below w.heap.size w (w.alloc o) := (Below.refl _ _).alloc (Nat.le_refl _) _
theorem BoxAt.set {w : World} {k : Nat} {r : R} (h : BoxAt w k r) (x : R) :
    BoxAt ((((w.setCell ⟨k, 0, none⟩ (.int .u64 x.e)).setCell ⟨k, 1, none⟩ (.int .u64 x.n)).setCell ⟨k, 2, none⟩ (.int .i64 x.l)).setCell ⟨k, 3, none⟩ (.int .u64 x.s)) k x :=
  heap_setCell_same _ _ _ _ _ _ (heap_setCell_same _ _ _ _ _ _ (heap_setCell_same _ _ _ _ _ _ (heap_setCell_same _ _ _ _ _ _ h)))

theorem Rec.put {w0 w : World} {v : Value} {l : List R} {r t : R} (ho : w.ownsRow w0.heap.size 29 4 v (l.length + 1) (flat l ++ rl r)) (hne : v.ownBlock ≠ some w0.heap.size) (hb : BoxAt w w0.heap.size t) (hw : Below w0.heap.size w0 w) :
    Rec w0 ((((w.setCell ⟨w0.heap.size, 0, none⟩ (.int .u64 r.e)).setCell ⟨w0.heap.size, 1, none⟩ (.int .u64 r.n)).setCell ⟨w0.heap.size, 2, none⟩ (.int .i64 r.l)).setCell ⟨w0.heap.size, 3, none⟩ (.int .u64 r.s)) v (l ++ [r]) := by
  refine ⟨?_, hne, by rw [top_snoc]; exact hb.set r, (((hw.setCell (Nat.le_refl _) _).setCell (Nat.le_refl _) _).setCell (Nat.le_refl _) _).setCell (Nat.le_refl _) _⟩
  rw [List.length_append, flat_append, flat_one]
  exact ownsRow_setCell (ownsRow_setCell (ownsRow_setCell (ownsRow_setCell ho _ _ hne) _ _ hne) _ _ hne) _ _ hne

set_option maxHeartbeats 1000000 in
theorem records9 (p : Option Addr) (cap : Nat) (rs : List R) (w : World) (hlen : rs.length ≤ 1048576) (hr : RowsIn w p rs) :
    Calls Try.prog 9 #[.slice p rs.length cap] w fun e w' => ∃ v, e = .returned v ∧ w'.ownsRow w.heap.size 29 4 v (recOf rs).length (flat (recOf rs)) ∧ Below w.heap.size w w' := by
  have HR : Hid (RowsIn w p rs) := hr
  clear hr
  go_enter Try.func9, Try.ntmps9
  go_wp2_with fail
  go_loopw [3, 5] (fun v i wr => ∃ k : Nat, k ≤ rs.length ∧ i = .int .i64 k ∧ Rec w wr v (recOf (rs.take k))) (fun _ i _ => rs.length - (intOf i).toNat)
  case atStart =>
    refine ⟨0, Nat.zero_le _, rfl, ?_⟩
    exact ⟨World.ownsRow_nil _ _ _ _, by simp [Value.ownBlock], heap_alloc_new w _, (Below.refl _ _).alloc (Nat.le_refl _) _⟩
  case round =>
    obtain ⟨k, hk, rfl, hrec⟩ := hrel
    by_cases hlt : k < rs.length
    · obtain ⟨b, off, rfl, c0, c1, c2, c3⟩ := HR.out k hlt
      have hbw := hrec.below
      have d0 := (hbw.cell (p := ⟨b, off + k * 4, none⟩) (block_lt_of_cell c0)).trans c0
      have d1 := (hbw.cell (p := ⟨b, off + k * 4 + 1, none⟩) (block_lt_of_cell c1)).trans c1
      have d2 := (hbw.cell (p := ⟨b, off + k * 4 + 2, none⟩) (block_lt_of_cell c2)).trans c2
      have d3 := (hbw.cell (p := ⟨b, off + k * 4 + 3, none⟩) (block_lt_of_cell c3)).trans c3
      have hsz : w.heap.size < wr.heap.size := (Array.getElem?_eq_some_iff.1 hrec.box).1
      have hnx : Hid (recOf (rs.take (k + 1)) = recStep (recOf (rs.take k)) (rs.getD k R.zero)) := recTake_succ rs k hlt
      have hll : (recOf (rs.take k)).length ≤ 1048576 := by have := recOf_length (rs.take k); simp only [List.length_take] at this; omega
      clear c0 c1 c2 c3
      generalize rs.getD k R.zero = r at *
      generalize recOf (rs.take k) = l at *
      obtain ⟨x0, x1, x2, x3⟩ := hrec.box.cells
      have HREC : Hid (Rec w wr u3 l) := hrec
      clear hrec hbw
      have hlt' : (k : Int) < rs.length := by omega
      go_wp2_with fail
      refine (round8 r.e r.n r.l r.s wr).mono ?_
      rintro e W1 ⟨rfl, hw1⟩
      have hb1 := below2 wr hw1
      clear hw1
      have R1 : Hid (Rec w W1 u3 l) := HREC.out.later hb1
      have z1 := hb1.size
      have z1' : w.heap.size < W1.heap.size := by omega
      obtain ⟨y0, y1, y2, y3⟩ := R1.out.box.cells
      have N1 : Hid (u3.ownBlock ≠ some W1.heap.size) := fun e => by have := (R1.out.row.lt _ e).2; omega
      clear x0 x1 x2 x3 d0 d1 d2 d3 hb1 HREC
      go_wp2_with fail
      refine (before16 _ _ _ _ _ _ _ _ _).mono ?_
      rintro e W2 ⟨rfl, hw2⟩
      have hb2 := below2 _ hw2
      clear hw2
      have R2 : Hid (Rec w W2 u3 l) := (R1.out.later (below1 _ _)).later hb2
      have B2 : Hid (BoxAt W2 W1.heap.size r) := BoxAt.later (heap_alloc_new W1 _) hb2
      have z2 := hb2.size
      simp at z2
      have z2' : w.heap.size < W2.heap.size := by omega
      obtain ⟨x0, x1, x2, x3⟩ := B2.out.cells
      clear y0 y1 y2 y3 R1 hb2
      rw [show less ⟨(top l).e, (top l).n, (top l).l, (top l).s⟩ ⟨r.e, r.n, r.l, r.s⟩ = less (top l) r from rfl]
      by_cases hl : less (top l) r = true
      · have HL : Hid (recStep l r = l ++ [r]) := by unfold recStep; rw [if_pos hl]; rfl
        rw [hl]
        clear hl
        obtain ⟨p3, cp3, rfl⟩ := ownsRow_slice R2.out.row
        obtain ⟨i, hi, hz, hs, hby⟩ := info29
        have HI : Hid (Try.prog.info? 29 = some i ∧ i.zero = some (.agg #[.int .u64 0, .int .u64 0, .int .i64 0, .int .u64 0]) ∧ i.size = 4 ∧ i.bytes = 32) := ⟨hi, hz, hs, hby⟩
        clear hi hz hs hby
        have hown1 : Hid ((W2.alloc (.cells #[.int .u64 r.e, .int .u64 r.n, .int .i64 r.l, .int .u64 r.s] 29)).ownsRow w.heap.size 29 4 (.slice p3 l.length cp3) l.length (flat l)) := R2.out.row.alloc _
        have hnews : Hid (∀ j u, (rl r)[j]? = some u → (W2.alloc (.cells #[.int .u64 r.e, .int .u64 r.n, .int .i64 r.l, .int .u64 r.s] 29)).cell? ((⟨W2.heap.size, 0, none⟩ : Addr).add j) = some u) := World.news_of_block (cs := #[.int .u64 r.e, .int .u64 r.n, .int .i64 r.l, .int .u64 r.s]) (heap_alloc_new W2 _)
        go_wp2_with (at_builtin; refine wpList_append_lies _ rfl _ _ 33 rfl w.heap.size 29 i _ 4 32 Try.underlying33 HI.out.1 HI.out.2.1 HI.out.2.2.1 HI.out.2.2.2 rfl (by decide) (.slice p3 l.length cp3) l.length (flat l) rfl hown1.out ⟨W2.heap.size, 0, none⟩ 1 1 (rl r) rfl rfl hnews.out (rl_one r) (by decide) (by simp [maxLen]; omega) (by omega) (by simp; omega) (W2.heap.size + 1) (by simp) ?_; intro g2 cap2 W3 hown hgrow hat hlt2; have t3 : BoxAt W3 w.heap.size (top l) := (hgrow.block _ (by simp; omega) (fun e => R2.out.ne e.symm)).trans ((below1 W2 _).block _ z2' |>.trans R2.out.box); have t4 : BoxAt W3 W1.heap.size r := (hgrow.block _ (by simp; omega) (fun e => N1.out e.symm)).trans ((below1 W2 _).block _ (by omega) |>.trans B2.out); have T3 : Hid (BoxAt W3 w.heap.size (top l)) := t3; obtain ⟨a0, a1, a2, a3⟩ := t3.cells; obtain ⟨b0, b1, b2, b3⟩ := t4.cells; have hf3 : ∀ j, W3.frozen? ⟨w.heap.size, j, none⟩ = false := fun j => frozen_of_row W3 _ j _ 29 t3; clear t3 t4 x0 x1 x2 x3)
        refine ⟨⟨k + 1, by omega, by go_num, ?_⟩, by simp [intOf]; omega⟩
        rw [hnx.out, HL.out]
        refine Rec.put hown ?_ T3.out ((R2.out.below.alloc (by omega) _).grown hgrow (by simp; omega) (fun k' hk' => (R2.out.row.lt k' hk').1))
        intro e
        rcases hat with h | h
        · exact R2.out.ne (h.trans e)
        · simp [Value.ownBlock] at e; omega
      · have HL : Hid (recStep l r = l) := by unfold recStep; rw [if_neg hl]; rfl
        rw [Bool.eq_false_iff.2 hl]
        clear hl
        go_wp2_with fail
        go_roundw
        case rel => exact ⟨k + 1, by omega, by go_num, by rw [hnx.out, HL.out]; exact R2.out⟩
        case measure => simp [intOf]; omega
    · have hlt' : ¬ (k : Int) < rs.length := by omega
      have hfin : recOf (rs.take k) = recOf rs := by rw [List.take_of_length_le (by omega)]
      rw [hfin] at hrec
      clear hfin
      have HREC : Hid (Rec w wr u3 (recOf rs)) := hrec
      clear hrec
      go_wp2_with fail
      go_ret
      exact ⟨_, rfl, HREC.out.row, HREC.out.below⟩
end Go.Proofs.Qxb6614123a
