import Derived.Test.Qxb6614123aMainKeeps
namespace Go.Proofs.Qxb6614123a
open Go.RowKit

set_option maxHeartbeats 2000000 in
theorem walk4 (p : Option Addr) (cap : Nat) (rs : List R) (w : World) (hlen : rs.length ≤ maxLen) (hr : RowsIn w p rs) :
    Calls Try.prog 4 #[.slice p rs.length cap] w fun e w' => e = .returned (.bool true) ∧ Below w.heap.size w w' := by
  have HR : Hid (RowsIn w p rs) := hr
  have HLEN : Hid (rs.length ≤ maxLen) := hlen
  clear hr
  unfold maxLen at hlen
  go_enter Try.func4, Try.ntmps4
  go_wp2_with fail
  refine (bytes14 p rs.length cap HLEN.out w).mono ?_
  rintro e w1 ⟨rfl, rfl⟩
  by_cases h1 : rs.length ≤ 1048576
  case neg =>
    have h1' : decide (rs.length ≤ 1048576) = false := by simpa using h1
    rw [h1']
    go_wp2_with fail
    go_ret
    exact ⟨rfl, Below.refl _ _⟩
  have h1' : decide (rs.length ≤ 1048576) = true := by simpa using h1
  rw [h1']
  clear h1'
  by_cases h2 : (32768 : Int) < rs.length
  · go_wp2_with fail
    go_ret
    exact ⟨rfl, Below.refl _ _⟩
  have h2' : decide ((32768 : Int) < rs.length) = false := by simpa using h2
  go_wp2_with fail
  refine (records9 p cap rs w1 h1 HR.out).mono ?_
  rintro e w2 ⟨v, rfl, hown, hb2⟩
  obtain ⟨q, cp, rfl⟩ := ownsRow_slice hown
  have HQ : Hid (RowsIn w2 q (recOf rs)) := owned_in hown
  have HB : Hid (Below w1.heap.size w1 w2) := hb2
  have hll : (recOf rs).length ≤ rs.length := recOf_length rs
  have HR2 : Hid (RowsIn w2 p rs) := HR.out.later hb2
  clear hown hb2 HR
  go_wp2_with fail
  refine (new6 _).mono ?_
  rintro e w3 ⟨rfl, hw3⟩
  have HS0 : Hid (Loop w2 w2.heap.size w2.heap.size rs 0 w3) := by
    rw [hw3]
    exact ⟨seen_new w2, below1 _ _⟩
  clear hw3
  go_wp2_with fail
  go_loopw [5] (fun i wr => ∃ k : Nat, k ≤ rs.length ∧ i = .int .i64 k ∧ Loop w2 w2.heap.size w2.heap.size rs k wr) (fun i _ => rs.length - (intOf i).toNat)
  case atStart => exact ⟨0, Nat.zero_le _, rfl, HS0.out⟩
  case round =>
    obtain ⟨k, hk, rfl, hlp⟩ := hrel
    by_cases hlt : k < rs.length
    · obtain ⟨b, off, rfl, c0, c1, c2, c3⟩ := HR2.out k hlt
      have hbw := hlp.below
      have d0 := (hbw.cell (p := ⟨b, off + k * 4, none⟩) (block_lt_of_cell c0)).trans c0
      have d1 := (hbw.cell (p := ⟨b, off + k * 4 + 1, none⟩) (block_lt_of_cell c1)).trans c1
      have d2 := (hbw.cell (p := ⟨b, off + k * 4 + 2, none⟩) (block_lt_of_cell c2)).trans c2
      have d3 := (hbw.cell (p := ⟨b, off + k * 4 + 3, none⟩) (block_lt_of_cell c3)).trans c3
      have hsz : w2.heap.size < wr.heap.size := hlp.seen.lt
      have hnx : Hid (recOf (rs.take (k + 1)) = recStep (recOf (rs.take k)) (rs.getD k R.zero)) := recTake_succ rs k hlt
      clear c0 c1 c2 c3 hbw
      generalize rs.getD k R.zero = r at *
      have HLP : Hid (Loop w2 w2.heap.size w2.heap.size rs k wr) := hlp
      clear hlp
      have hlt' : (k : Int) < rs.length := by omega
      go_wp2_with fail
      refine (round8 r.e r.n r.l r.s wr).mono ?_
      rintro e W1 ⟨rfl, hw1⟩
      have hb1 := below2 wr hw1
      clear hw1
      go_wp2_with fail
      refine (restore7 w2.heap.size w2.heap.size r (recOf (rs.take k)) W1 (Nat.le_refl _) (HLP.out.seen.later hb1)).mono ?_
      rintro e W2 ⟨rfl, hs2, hb2⟩
      have HN : Hid (Loop w2 w2.heap.size w2.heap.size rs (k + 1) W2) := ⟨by rw [hnx.out]; exact hs2, HLP.out.below.trans ((hb1.mono (by omega)).trans hb2)⟩
      clear hb1 hs2 hb2
      go_wp2_with fail
      go_roundw
      case rel => exact ⟨k + 1, by omega, by go_num, HN.out⟩
      case measure => simp [intOf]; omega
    · obtain ⟨wa, rfl⟩ : ∃ wa, wa = wr := ⟨wr, rfl⟩
      have hlt' : decide ((k : Int) < rs.length) = false := by simp; omega
      have hfin : recOf (rs.take k) = recOf rs := by rw [List.take_of_length_le (by omega)]
      have HSA : Hid (Seen w2.heap.size w2.heap.size wa (recOf rs)) := by rw [← hfin]; exact hlp.seen
      have HBA : Hid (Below w2.heap.size w2 wa) := hlp.below
      clear hfin hlp
      have HQA : Hid (RowsIn wa q (recOf rs)) := HQ.out.later HBA.out
      go_wp2_with fail
      refine (new6 _).mono ?_
      rintro e w4 ⟨rfl, hw4⟩
      have HT0 : Hid (Loop wa wa.heap.size wa.heap.size (recOf rs) 0 w4) := by
        rw [hw4]
        exact ⟨seen_new wa, below1 _ _⟩
      clear hw4
      go_wp2_with fail
      go_loopw [7] (fun i ws => ∃ k : Nat, k ≤ (recOf rs).length ∧ i = .int .i64 k ∧ Loop wa wa.heap.size wa.heap.size (recOf rs) k ws) (fun i _ => (recOf rs).length - (intOf i).toNat)
      case atStart => exact ⟨0, Nat.zero_le _, rfl, HT0.out⟩
      case round =>
        obtain ⟨j, hj, rfl, hlp⟩ := hrel
        by_cases hlj : j < (recOf rs).length
        · obtain ⟨b, off, rfl, c0, c1, c2, c3⟩ := HQA.out j hlj
          have hbw := hlp.below
          have d0 := (hbw.cell (p := ⟨b, off + j * 4, none⟩) (block_lt_of_cell c0)).trans c0
          have d1 := (hbw.cell (p := ⟨b, off + j * 4 + 1, none⟩) (block_lt_of_cell c1)).trans c1
          have d2 := (hbw.cell (p := ⟨b, off + j * 4 + 2, none⟩) (block_lt_of_cell c2)).trans c2
          have d3 := (hbw.cell (p := ⟨b, off + j * 4 + 3, none⟩) (block_lt_of_cell c3)).trans c3
          have hnx : Hid (recOf ((recOf rs).take (j + 1)) = recStep (recOf ((recOf rs).take j)) ((recOf rs).getD j R.zero)) := recTake_succ (recOf rs) j hlj
          clear c0 c1 c2 c3 hbw
          generalize (recOf rs).getD j R.zero = r at *
          have HLP : Hid (Loop wa wa.heap.size wa.heap.size (recOf rs) j wr) := hlp
          clear hlp
          have hlj' : (j : Int) < (recOf rs).length := by omega
          go_wp2_with fail
          refine (restore7 wa.heap.size wa.heap.size r (recOf ((recOf rs).take j)) wr (Nat.le_refl _) HLP.out.seen).mono ?_
          rintro e W2 ⟨rfl, hs2, hb2⟩
          have HN : Hid (Loop wa wa.heap.size wa.heap.size (recOf rs) (j + 1) W2) := ⟨by rw [hnx.out]; exact hs2, HLP.out.below.trans hb2⟩
          clear hs2 hb2
          go_wp2_with fail
          go_roundw
          case rel => exact ⟨j + 1, by omega, by go_num, HN.out⟩
          case measure => simp [intOf]; omega
        · obtain ⟨wb, rfl⟩ : ∃ wb, wb = wr := ⟨wr, rfl⟩
          have hlj' : decide ((j : Int) < (recOf rs).length) = false := by simp; omega
          have hfin : recOf ((recOf rs).take j) = recOf rs := by rw [List.take_of_length_le (by omega), recOf_recOf]
          have HSB : Hid (Seen wa.heap.size wa.heap.size wb (recOf rs)) := by rw [← hfin]; exact hlp.seen
          have hbb : Below wa.heap.size wa wb := hlp.below
          have HSA' : Hid (Seen w2.heap.size w2.heap.size wb (recOf rs)) := HSA.out.later hbb
          have HQB : Hid (RowsIn wb q (recOf rs)) := HQA.out.later hbb
          have HBB : Hid (Below w1.heap.size w1 wb) := HB.out.trans ((HBA.out.mono HB.out.size).trans (hbb.mono (Nat.le_trans HB.out.size HBA.out.size)))
          clear hfin hlp hbb
          clear HSA HQA HQ HR2 HS0 HT0 HBA HB HLEN
          have hlL : (recOf rs).length ≤ 32768 := by omega
          generalize recOf rs = L at *
          obtain ⟨va, hAa, hOa, _⟩ := HSA'.out
          obtain ⟨pa, ca, rfl⟩ := ownsRow_slice hOa
          obtain ⟨vb, hAb, hOb, _⟩ := HSB.out
          obtain ⟨pb, cb, rfl⟩ := ownsRow_slice hOb
          have HAa : Hid (AccAt wb w2.heap.size (top L) (.slice pa (kept L).length ca) (baseOf L)) := hAa
          have HAb : Hid (AccAt wb wa.heap.size (top L) (.slice pb (kept L).length cb) (baseOf L)) := hAb
          have HPa : Hid (RowsIn wb pa (kept L)) := owned_in hOa
          have HPb : Hid (RowsIn wb pb (kept L)) := owned_in hOb
          clear hAa hAb hOa hOb HSA' HSB
          go_wp2_with fail
          refine (promised11 _ _ _ _ _ HAa.out).mono ?_
          rintro e W3 ⟨rfl, o3, hw3⟩
          have B3 : Hid (Below wb.heap.size wb W3) := by rw [hw3]; exact below1 _ _
          clear hw3
          go_wp2_with fail
          have B3' : Hid (Below wb.heap.size wb (W3.alloc (.cells #[.int .u64 (top L).e, .int .u64 (top L).n, .int .i64 (top L).l, .int .u64 (top L).s] 29))) := B3.out.alloc B3.out.size _
          refine (prepared12 _ _ _ _ _ _ _ (HAa.out.of (B3'.out.block _ HAa.out.lt))).mono ?_
          rintro e W3' ⟨rfl, rfl⟩
          go_wp2_with fail
          refine (base13 _ _ _ _ _ (HAa.out.of (B3'.out.block _ HAa.out.lt))).mono ?_
          rintro e W4 ⟨rfl, o4, hw4⟩
          have X3 : Hid (BoxAt W4 W3.heap.size (top L)) := by rw [hw4]; exact BoxAt.later (heap_alloc_new W3 _) (below1 _ _)
          have B4 : Hid (Below wb.heap.size wb W4) := by rw [hw4]; exact B3'.out.alloc B3'.out.size _
          have z4 : W3.heap.size < W4.heap.size := (Array.getElem?_eq_some_iff.1 X3.out).1
          clear hw4 B3' B3
          go_wp2_with fail
          have B4' : Hid (Below wb.heap.size wb (W4.alloc (.cells #[.int .u64 (baseOf L).e, .int .u64 (baseOf L).n, .int .i64 (baseOf L).l, .int .u64 (baseOf L).s] 29))) := B4.out.alloc B4.out.size _
          refine (promised11 _ _ _ _ _ (HAb.out.of (B4'.out.block _ HAb.out.lt))).mono ?_
          rintro e W5 ⟨rfl, o5, hw5⟩
          have b5 : Below (W4.alloc (.cells #[.int .u64 (baseOf L).e, .int .u64 (baseOf L).n, .int .i64 (baseOf L).l, .int .u64 (baseOf L).s] 29)).heap.size (W4.alloc (.cells #[.int .u64 (baseOf L).e, .int .u64 (baseOf L).n, .int .i64 (baseOf L).l, .int .u64 (baseOf L).s] 29)) W5 := by rw [hw5]; exact below1 _ _
          have X3' : Hid (BoxAt W5 W3.heap.size (top L)) := (X3.out.later (below1 _ _)).later b5
          have X4' : Hid (BoxAt W5 W4.heap.size (baseOf L)) := BoxAt.later (heap_alloc_new W4 _) b5
          have B5 : Hid (Below wb.heap.size wb W5) := B4'.out.trans (b5.mono B4'.out.size)
          have z5 : W4.heap.size < W5.heap.size := (Array.getElem?_eq_some_iff.1 X4'.out).1
          clear hw5 b5 B4 B4' X3
          go_wp2_with fail
          have B5' : Hid (Below wb.heap.size wb (W5.alloc (.cells #[.int .u64 (top L).e, .int .u64 (top L).n, .int .i64 (top L).l, .int .u64 (top L).s] 29))) := B5.out.alloc B5.out.size _
          refine (prepared12 _ _ _ _ _ _ _ (HAb.out.of (B5'.out.block _ HAb.out.lt))).mono ?_
          rintro e W5' ⟨rfl, rfl⟩
          go_wp2_with fail
          refine (base13 _ _ _ _ _ (HAb.out.of (B5'.out.block _ HAb.out.lt))).mono ?_
          rintro e W6 ⟨rfl, o6, hw6⟩
          have b6 : Below (W5.alloc (.cells #[.int .u64 (top L).e, .int .u64 (top L).n, .int .i64 (top L).l, .int .u64 (top L).s] 29)).heap.size (W5.alloc (.cells #[.int .u64 (top L).e, .int .u64 (top L).n, .int .i64 (top L).l, .int .u64 (top L).s] 29)) W6 := by rw [hw6]; exact below1 _ _
          have Y3 : Hid (BoxAt W6 W3.heap.size (top L)) := (X3'.out.later (below1 _ _)).later b6
          have Y4 : Hid (BoxAt W6 W4.heap.size (baseOf L)) := (X4'.out.later (below1 _ _)).later b6
          have Y5 : Hid (BoxAt W6 W5.heap.size (top L)) := BoxAt.later (heap_alloc_new W5 _) b6
          have B6 : Hid (Below wb.heap.size wb W6) := B5'.out.trans (b6.mono B5'.out.size)
          clear hw6 b6 B5 B5' X3' X4'
          go_upto_region 22 with fail
          have B7 := B6.out.alloc B6.out.size (.cells #[.int .u64 (baseOf L).e, .int .u64 (baseOf L).n, .int .i64 (baseOf L).l, .int .u64 (baseOf L).s] 29)
          have Z3 := Y3.out.later (below1 W6 (.cells #[.int .u64 (baseOf L).e, .int .u64 (baseOf L).n, .int .i64 (baseOf L).l, .int .u64 (baseOf L).s] 29))
          have Z4 := Y4.out.later (below1 W6 (.cells #[.int .u64 (baseOf L).e, .int .u64 (baseOf L).n, .int .i64 (baseOf L).l, .int .u64 (baseOf L).s] 29))
          have Z5 := Y5.out.later (below1 W6 (.cells #[.int .u64 (baseOf L).e, .int .u64 (baseOf L).n, .int .i64 (baseOf L).l, .int .u64 (baseOf L).s] 29))
          have Z6 : BoxAt (W6.alloc (.cells #[.int .u64 (baseOf L).e, .int .u64 (baseOf L).n, .int .i64 (baseOf L).l, .int .u64 (baseOf L).s] 29)) W6.heap.size (baseOf L) := heap_alloc_new W6 _
          clear B6 Y3 Y4 Y5
          generalize W6.alloc _ = W7 at B7 Z3 Z4 Z5 Z6 ⊢
          have HX3 : Hid (BoxAt W7 W3.heap.size (top L)) := Z3
          have HB7 : Hid (Below wb.heap.size wb W7) := B7
          have HQ7 : Hid (RowsIn W7 q L) := HQB.out.later B7
          have HPa7 : Hid (RowsIn W7 pa (kept L)) := HPa.out.later B7
          have HPb7 : Hid (RowsIn W7 pb (kept L)) := HPb.out.later B7
          have hk4 : (kept L).length ≤ 4 := kept_le L
          obtain ⟨a0, a1, a2, a3⟩ := Z3.cells
          obtain ⟨b0, b1, b2, b3⟩ := Z4.cells
          obtain ⟨c0, c1, c2, c3⟩ := Z5.cells
          obtain ⟨d0, d1, d2, d3⟩ := Z6.cells
          clear B7 Z3 Z4 Z5 Z6 HQB HPa HPb HAa HAb
          go_wp2_with fail
          clear a0 a1 a2 a3 b0 b1 b2 b3 c0 c1 c2 c3 d0 d1 d2 d3
          go_loopw [14] (fun i ws => ∃ n : Nat, n ≤ (kept L).length ∧ i = .int .i64 n ∧ Below W7.heap.size W7 ws) (fun i _ => (kept L).length - (intOf i).toNat)
          case atStart => exact ⟨0, Nat.zero_le _, rfl, Below.refl _ _⟩
          case round =>
            obtain ⟨n, hn, rfl, hbr⟩ := hrel
            by_cases hln : n < (kept L).length
            · obtain ⟨b', off', rfl, c0, c1, c2, c3⟩ := (HPa7.out.later hbr) n hln
              obtain ⟨b'', off'', rfl, d0, d1, d2, d3⟩ := (HPb7.out.later hbr) n hln
              generalize (kept L).getD n R.zero = x at *
              have hln' : (n : Int) < (kept L).length := by omega
              go_wp2_with fail
              refine still_all (by kernel_rfl) (by kernel_rfl) ?_
              repeat still_step
              refine wpStill_nil ?_
              go_wp2_with fail
              go_roundw
              case rel => first | exact ⟨n + 1, by omega, by go_num, hbr.drew⟩ | ((repeat apply Exists.intro); exact ⟨⟨n + 1, by omega, by go_num, hbr.drew⟩, rfl⟩)
              case measure => simp [intOf]; omega
            · have hln' : ¬ (n : Int) < (kept L).length := by omega
              have HXr : Hid (BoxAt wr W3.heap.size (top L)) := HX3.out.later hbr
              have HQr : Hid (RowsIn wr q L) := HQ7.out.later hbr
              have hkl : (kept L).length = min 4 L.length := kept_length L
              have HBr : Hid (Below w1.heap.size w1 wr) := HBB.out.trans ((HB7.out.mono HBB.out.size).trans (hbr.mono (Nat.le_trans HBB.out.size HB7.out.size)))
              have hs1 : w1.heap.size ≤ wr.heap.size := HBr.out.size
              clear hbr
              obtain ⟨a0, a1, a2, a3⟩ := HXr.out.cells
              have hlx : W3.heap.size < wr.heap.size := (Array.getElem?_eq_some_iff.1 HXr.out).1
              by_cases h0 : L.length = 0
              · have hL : L = [] := List.eq_nil_of_length_eq_zero h0
                subst hL
                simp only [top, List.getLastD, R.zero] at a0 a1 a2 a3
                go_wp2_with fail
                go_ret
                exact ⟨by simp, HBr.out.alloc hs1 _⟩
              · obtain ⟨m, hm⟩ : ∃ m, L.length = m + 1 := ⟨L.length - 1, by omega⟩
                obtain ⟨bq, oq, rfl, c0, c1, c2, c3⟩ := HQr.out m (by omega)
                rw [← top_get L m hm] at c0 c1 c2 c3
                have hlb : bq < wr.heap.size := block_lt_of_cell c0
                rw [show m = L.length - 1 by omega] at c0 c1 c2 c3
                clear hm
                have h0' : decide ((0 : Int) < L.length) = true := by simp; omega
                have hi0 : (0 : Int) ≤ (L.length : Int) - 1 := by omega
                have hi1 : (L.length : Int) - 1 < L.length := by omega
                have hi2 : ((L.length : Int) - 1).toNat = L.length - 1 := by omega
                by_cases h5 : (4 : Int) < L.length
                · have e5 : (((kept L).length : Int) == 4) = true := by rw [beq_iff_eq]; omega
                  have HKL : Hid ((kept L).length = min 4 L.length) := hkl
                  clear hkl
                  go_wp2_with fail
                  go_ret
                  exact ⟨by simp, HBr.out.alloc hs1 _⟩
                · have e5 : (((kept L).length : Int) == (L.length : Int)) = true := by rw [beq_iff_eq]; omega
                  have HKL : Hid ((kept L).length = min 4 L.length) := hkl
                  clear hkl
                  go_wp2_with fail
                  go_ret
                  exact ⟨by simp, HBr.out.alloc hs1 _⟩
end Go.Proofs.Qxb6614123a
