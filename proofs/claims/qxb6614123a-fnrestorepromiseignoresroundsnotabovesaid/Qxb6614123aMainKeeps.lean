import Derived.Test.Qxb6614123aKeeps
namespace Go.Proofs.Qxb6614123a
open Go.RowKit

theorem top_get (l : List R) (m : Nat) (h : l.length = m + 1) : top l = l.getD m R.zero := by
  unfold top
  rw [List.getLastD_eq_getLast?, List.getLast?_eq_getElem?, h, List.getD_eq_getElem?_getD]
  rfl

theorem keeps10 (l : List R) (hl : l.length ≤ 1048576) (p q : Option Addr) (cap cap' : Nat) (w : World) (hp : RowsIn w p (kept l)) (hq : RowsIn w q l) :
    Calls Try.prog 10 #[.agg #[.int .u64 (top l).e, .int .u64 (top l).n, .int .i64 (top l).l, .int .u64 (top l).s], .slice p (kept l).length cap, .agg #[.int .u64 (baseOf l).e, .int .u64 (baseOf l).n, .int .i64 (baseOf l).l, .int .u64 (baseOf l).s], .slice q l.length cap'] w fun e w' => e = .returned (.bool true) ∧ Below w.heap.size w w' := by
  by_cases h0 : l.length = 0
  · have : l = [] := List.eq_nil_of_length_eq_zero h0
    subst this
    exact keeps_none p q cap cap' w
  · by_cases h4 : l.length ≤ 4
    · obtain ⟨m, hm⟩ : ∃ m, l.length = m + 1 := ⟨l.length - 1, by omega⟩
      have hk : kept l = l := by unfold kept; rw [show l.length - 4 = 0 by omega]; rfl
      have hb : baseOf l = R.zero := by unfold baseOf; rw [if_neg (by omega)]
      rw [hk] at hp ⊢
      rw [hb, top_get l m hm, hm]
      exact keeps_few l m hm (by omega) p q cap cap' w hp hq
    · obtain ⟨m, hm⟩ : ∃ m, l.length = m + 5 := ⟨l.length - 5, by omega⟩
      have hk : kept l = l.drop (m + 1) := by unfold kept; rw [show l.length - 4 = m + 1 by omega]
      have hkl : (kept l).length = 4 := by rw [kept_length]; omega
      have hb : baseOf l = l.getD m R.zero := by unfold baseOf; rw [if_pos (by omega), show l.length - 5 = m by omega]
      rw [hkl, hb, top_get l (m + 4) hm, hm]
      rw [hk] at hp
      exact keeps_many l m hm (by omega) p q cap cap' w hp hq

/-- Restoring one after another: the acceptor has seen the first k. -/
structure Loop (w0 : World) (B b : Nat) (rs : List R) (k : Nat) (w : World) : Prop where
  seen : Seen B b w (recOf (rs.take k))
  below : Below B w0 w

set_option maxHeartbeats 1000000 in
theorem walk3 (p : Option Addr) (cap : Nat) (rs : List R) (w : World) (hlen : rs.length ≤ maxLen) (hr : RowsIn w p rs) :
    Calls Try.prog 3 #[.slice p rs.length cap] w fun e w' => e = .returned (.bool true) ∧ Below w.heap.size w w' := by
  have HR : Hid (RowsIn w p rs) := hr
  have HLEN : Hid (rs.length ≤ maxLen) := hlen
  clear hr
  unfold maxLen at hlen
  go_enter Try.func3, Try.ntmps3
  go_wp2_with fail
  refine (bytes5 p rs.length cap HLEN.out w).mono ?_
  rintro e w1 ⟨rfl, rfl⟩
  by_cases h1 : rs.length ≤ 1048576
  case neg =>
    have h1' : decide (rs.length ≤ 1048576) = false := by simpa using h1
    rw [h1']
    go_wp2_with fail
    go_ret
    exact ⟨rfl, Below.refl _ _⟩
  have h1' : decide (rs.length ≤ 1048576) = true := by simpa using h1
  rw [h1']
  clear h1'
  by_cases h2 : (32768 : Int) < rs.length
  · go_wp2_with fail
    go_ret
    exact ⟨rfl, Below.refl _ _⟩
  have h2' : decide ((32768 : Int) < rs.length) = false := by simpa using h2
  go_wp2_with fail
  refine (new6 _).mono ?_
  rintro e w2 ⟨rfl, hw2⟩
  have hs0 : Loop w1 w1.heap.size w1.heap.size rs 0 w2 := by
    rw [hw2]
    exact ⟨seen_new w1, below1 _ _⟩
  clear hw2
  have HS0 : Hid (Loop w1 w1.heap.size w1.heap.size rs 0 w2) := hs0
  clear hs0
  go_wp2_with fail
  go_loopw [4] (fun i wr => ∃ k : Nat, k ≤ rs.length ∧ i = .int .i64 k ∧ Loop w1 w1.heap.size w1.heap.size rs k wr) (fun i _ => rs.length - (intOf i).toNat)
  case atStart => exact ⟨0, Nat.zero_le _, rfl, HS0.out⟩
  case round =>
    obtain ⟨k, hk, rfl, hlp⟩ := hrel
    by_cases hlt : k < rs.length
    · obtain ⟨b, off, rfl, c0, c1, c2, c3⟩ := HR.out k hlt
      have hbw := hlp.below
      have d0 := (hbw.cell (p := ⟨b, off + k * 4, none⟩) (block_lt_of_cell c0)).trans c0
      have d1 := (hbw.cell (p := ⟨b, off + k * 4 + 1, none⟩) (block_lt_of_cell c1)).trans c1
      have d2 := (hbw.cell (p := ⟨b, off + k * 4 + 2, none⟩) (block_lt_of_cell c2)).trans c2
      have d3 := (hbw.cell (p := ⟨b, off + k * 4 + 3, none⟩) (block_lt_of_cell c3)).trans c3
      have hsz : w1.heap.size < wr.heap.size := hlp.seen.lt
      have hnx : Hid (recOf (rs.take (k + 1)) = recStep (recOf (rs.take k)) (rs.getD k R.zero)) := recTake_succ rs k hlt
      clear c0 c1 c2 c3 hbw
      generalize rs.getD k R.zero = r at *
      have HLP : Hid (Loop w1 w1.heap.size w1.heap.size rs k wr) := hlp
      clear hlp
      have hlt' : (k : Int) < rs.length := by omega
      go_wp2_with fail
      refine (round8 r.e r.n r.l r.s wr).mono ?_
      rintro e W1 ⟨rfl, hw1⟩
      have hb1 := below2 wr hw1
      clear hw1
      go_wp2_with fail
      refine (restore7 w1.heap.size w1.heap.size r (recOf (rs.take k)) W1 (Nat.le_refl _) (HLP.out.seen.later hb1)).mono ?_
      rintro e W2 ⟨rfl, hs2, hb2⟩
      have HN : Hid (Loop w1 w1.heap.size w1.heap.size rs (k + 1) W2) := ⟨by rw [hnx.out]; exact hs2, HLP.out.below.trans ((hb1.mono (by omega)).trans hb2)⟩
      clear hb1 hs2 hb2
      go_wp2_with fail
      go_roundw
      case rel => exact ⟨k + 1, by omega, by go_num, HN.out⟩
      case measure => simp [intOf]; omega
    · have hlt' : ¬ (k : Int) < rs.length := by omega
      have hfin : recOf (rs.take k) = recOf rs := by rw [List.take_of_length_le (by omega)]
      have HS : Hid (Seen w1.heap.size w1.heap.size wr (recOf rs)) := by rw [← hfin]; exact hlp.seen
      have HB : Hid (Below w1.heap.size w1 wr) := hlp.below
      clear hfin hlp
      go_wp2_with fail
      refine (records9 p cap rs wr h1 (HR.out.later HB.out)).mono ?_
      rintro e W2 ⟨v, rfl, hown, hb2⟩
      obtain ⟨q, cp, rfl⟩ := ownsRow_slice hown
      have HS2 : Hid (Seen w1.heap.size w1.heap.size W2 (recOf rs)) := HS.out.later hb2
      have HO2 : Hid (RowsIn W2 q (recOf rs)) := owned_in hown
      have HB2 : Hid (Below w1.heap.size w1 W2) := HB.out.trans (hb2.mono HB.out.size)
      have hll : (recOf rs).length ≤ 1048576 := by have := recOf_length rs; omega
      clear hown hb2 HS HB
      obtain ⟨v, hA, hO, _⟩ := HS2.out
      obtain ⟨pp, cc, rfl⟩ := ownsRow_slice hO
      have HA : Hid (AccAt W2 w1.heap.size (top (recOf rs)) (.slice pp (kept (recOf rs)).length cc) (baseOf (recOf rs))) := hA
      have HP2 : Hid (RowsIn W2 pp (kept (recOf rs))) := owned_in hO
      clear hA hO
      go_wp2_with fail
      refine (promised11 _ _ _ _ _ HA.out).mono ?_
      rintro e W3 ⟨rfl, o3, hw3⟩
      have hb3 : Hid (Below W2.heap.size W2 W3) := by rw [hw3]; exact below1 _ _
      clear hw3
      go_wp2_with fail
      refine (prepared12 _ _ _ _ _ _ _ (HA.out.of (hb3.out.block _ HA.out.lt))).mono ?_
      rintro e W3' ⟨rfl, rfl⟩
      go_wp2_with fail
      refine (base13 _ _ _ _ _ (HA.out.of (hb3.out.block _ HA.out.lt))).mono ?_
      rintro e W4 ⟨rfl, o4, hw4⟩
      have hb4 : Hid (Below W2.heap.size W2 W4) := by rw [hw4]; exact hb3.out.alloc hb3.out.size _
      clear hw4
      go_wp2_with fail
      refine (keeps10 (recOf rs) hll pp q cc cp W4 (HP2.out.later hb4.out) (HO2.out.later hb4.out)).mono ?_
      rintro e W5 ⟨rfl, hb5⟩
      go_wp2_with fail
      go_ret
      exact ⟨rfl, (HB2.out.trans (hb4.out.mono HB2.out.size)).trans (hb5.mono (Nat.le_trans HB2.out.size hb4.out.size))⟩
end Go.Proofs.Qxb6614123a
