import Derived.Test.Qxb6613704aBytes
import Derived.StillTail
namespace Go.Proofs.Qxb6613704a
open Go.RowKit

theorem still_tail {P : Program} {id : Nat} {Q : Exit → Act → World → Prop} {a : Act} {w : World} {l : List Oper} (n : Nat) (hm : P.follows .mixedOrders = true) (hB : Region.lexTailB .any l.toArray n = true)
    (h : wpStill P l.toArray w.drew (fun a' => wpList P l.toArray Q (l.drop n) a' w.drew) (l.take n) a) : (Code.region id l.toArray true).wp P Q a w := wp_region_still_tail n hm hB h

theorem Below.mk1 {B : Nat} {a w : World} (h : Below B a w) (hB : B ≤ w.heap.size) {w' : World} (hw : ∃ o, w' = w.drew.alloc o) : Below B a w' := by
  obtain ⟨o, rfl⟩ := hw
  exact (h.drew).alloc hB o

set_option maxRecDepth 100000 in
set_option maxHeartbeats 4000000 in
theorem walk3 (p0 p1 p2 p3 : Option Addr) (l0 c0 l1 c1 l2 c2 l3 c3 : Nat) (os rs : Nat → Nat) (ks : Nat → ByteArray) (va : Nat → Option Addr) (vl vc : Nat → Nat) (w : World) (h0 : l0 ≤ maxLen) (h1 : l1 ≤ maxLen) (h2 : l2 ≤ maxLen) (h3 : l3 ≤ maxLen)
    (ho : Nums .u8 256 w p0 l0 os) (hr : Nums .u64 18446744073709551616 w p1 l1 rs) (hk : Strs w p2 l2 ks) (hv : Slcs w p3 l3 va vl vc) :
    Calls Try.prog 3 #[.slice p0 l0 c0, .slice p1 l1 c1, .slice p2 l2 c2, .slice p3 l3 c3] w fun e w' => e = .returned (.bool true) ∧ Below w.heap.size w w' := by
  have hb4 := bytes4 p0 p1 p2 p3 l0 c0 l1 c1 l2 c2 l3 c3 ks va vl vc w h0 h1 h2 h3 hk hv
  have HB4 : Hid (Calls Try.prog 4 #[.slice p0 l0 c0, .slice p1 l1 c1, .slice p2 l2 c2, .slice p3 l3 c3] w fun e w' => Told l2 (fun i => (ks i).size) l3 vl e ∧ w' = w) := hb4
  clear hb4
  unfold maxLen at h0 h1 h2 h3
  go_enter Try.func3, Try.ntmps3
  go_wp2_with fail
  refine HB4.out.mono ?_
  rintro e w1 ⟨⟨r, rfl, hup⟩, rfl⟩
  clear HB4
  cases r
  · go_wp2_with fail
    go_ret
    exact ⟨rfl, Below.refl _ _⟩
  obtain ⟨hup2, hup3⟩ := hup rfl
  clear hup
  by_cases g0 : (1048576 : Int) < l0
  · go_wp2_with fail
    go_ret
    exact ⟨rfl, Below.refl _ _⟩
  have G0 : decide ((1048576 : Int) < l0) = false := decide_eq_false g0
  by_cases g1 : (131072 : Int) < l1
  · go_wp2_with fail
    go_ret
    exact ⟨rfl, Below.refl _ _⟩
  have G1 : decide ((131072 : Int) < l1) = false := decide_eq_false g1
  by_cases g2 : (65536 : Int) < l2
  · go_wp2_with fail
    go_ret
    exact ⟨rfl, Below.refl _ _⟩
  have G2 : decide ((65536 : Int) < l2) = false := decide_eq_false g2
  by_cases g3 : (65536 : Int) < l3
  · go_wp2_with fail
    go_ret
    exact ⟨rfl, Below.refl _ _⟩
  have G3 : decide ((65536 : Int) < l3) = false := decide_eq_false g3
  by_cases g4 : (1048576 : Int) < (l0 : Int) + 8 * l1 + 16 * l2 + 24 * l3
  · go_wp2_with fail
    go_ret
    exact ⟨rfl, Below.refl _ _⟩
  have G4 : decide ((1048576 : Int) < (l0 : Int) + 8 * l1 + 16 * l2 + 24 * l3) = false := decide_eq_false g4
  go_wp2_with fail
  go_loop [9, 10] (fun z i => ∃ (Z k : Nat), Z ≤ 1048576 ∧ k ≤ l2 ∧ z = .int .i64 Z ∧ i = .int .i64 k) (fun _ i => l2 - (intOf i).toNat)
  case atStart => exact ⟨l0 + 8 * l1 + 16 * l2 + 24 * l3, 0, by omega, by omega, by go_num, rfl⟩
  case round =>
    obtain ⟨Z, k, hZ, hk1, rfl, rfl⟩ := hrel
    by_cases hlt : k < l2
    · obtain ⟨b, off, rfl, hc, hs⟩ := hk k hlt
      unfold maxLen at hs
      have hlt' : (k : Int) < l2 := by omega
      have hs' : (ks k).size ≤ 1048576 := hup2 k hlt
      generalize ks k = s at hc hs hs'
      by_cases s2 : (1048576 : Int) < (Z : Int) + s.size
      · go_wp2_with fail
        go_ret
        exact ⟨rfl, Below.refl _ _⟩
      go_wp2_with fail
      go_round
      case rel => exact ⟨Z + s.size, k + 1, by omega, by omega, by go_num, by go_num⟩
      case measure => simp [intOf]; omega
    · have hlt' : decide ((k : Int) < l2) = false := by simp; omega
      go_wp2_with fail
      go_loop [9, 11] (fun z i => ∃ (Z k : Nat), Z ≤ 1048576 ∧ k ≤ l3 ∧ z = .int .i64 Z ∧ i = .int .i64 k) (fun _ i => l3 - (intOf i).toNat)
      case atStart => exact ⟨Z, 0, by omega, by omega, by go_num, rfl⟩
      case round =>
        obtain ⟨Y, j, hY, hj1, rfl, rfl⟩ := hrel
        by_cases hlj : j < l3
        · obtain ⟨b, off, rfl, hc, hs⟩ := hv j hlj
          unfold maxLen at hs
          have hlj' : (j : Int) < l3 := by omega
          have hs' : vl j ≤ 1048576 := hup3 j hlj
          generalize vl j = s at hc hs hs'
          by_cases s2 : (1048576 : Int) < (Y : Int) + s
          · go_wp2_with fail
            go_ret
            exact ⟨rfl, Below.refl _ _⟩
          go_wp2_with fail
          go_round
          case rel => exact ⟨Y + s, j + 1, by omega, by omega, by go_num, by go_num⟩
          case measure => simp [intOf]; omega
        · have hlj' : decide ((j : Int) < l3) = false := by simp; omega
          by_cases e0 : l0 = 0
          · have E0 : ((l0 : Int) == 0) = true := by rw [beq_iff_eq]; omega
            go_wp2_with fail
            go_ret
            exact ⟨rfl, Below.refl _ _⟩
          have E0 : ((l0 : Int) == 0) = false := by rw [beq_eq_false_iff_ne]; omega
          by_cases e1 : l1 = l0
          case neg =>
            have E1 : ((l1 : Int) != (l0 : Int)) = true := by rw [bne_iff_ne]; omega
            go_wp2_with fail
            go_ret
            exact ⟨rfl, Below.refl _ _⟩
          by_cases e2 : l2 = l0
          case neg =>
            have E2 : ((l2 : Int) != (l0 : Int)) = true := by rw [bne_iff_ne]; omega
            subst e1
            go_wp2_with fail
            go_ret
            exact ⟨rfl, Below.refl _ _⟩
          by_cases e3 : l3 = l0
          case neg =>
            have E3 : ((l3 : Int) != (l0 : Int)) = true := by rw [bne_iff_ne]; omega
            subst e1 e2
            go_wp2_with fail
            go_ret
            exact ⟨rfl, Below.refl _ _⟩
          subst e1 e2 e3
          go_wp2_with fail
          have hpos : 0 < l3 := by omega
          clear E0 hlt hlt' hlj hlj' hk1 hj1 hZ hY G0 G1 G2 G3 G4 g0 g1 g3 g4 h0 h1 h2 h3
          go_loopw [13, 14, 15] (fun bt sm i wr => ∃ (B S k : Nat), k ≤ l3 ∧ bt = .int .i64 B ∧ sm = .int .i64 S ∧ i = .int .i64 k ∧ B + 14 * k ≤ S + 14 ∧ S + 14 ≤ B + 29 * k ∧ B ≤ 14 + 4194304 * k ∧ Below w1.heap.size w1 wr) (fun _ _ i _ => l3 - (intOf i).toNat)
          case atStart => exact ⟨14, 0, 0, by omega, rfl, rfl, rfl, by omega, by omega, by omega, Below.refl _ _⟩
          case round =>
            obtain ⟨B, S, m, hm, rfl, rfl, rfl, r1, r2, r3, hbw⟩ := hrel
            by_cases hlm : m < l3
            · obtain ⟨b0, o0, rfl, hc0, t0⟩ := ho m hlm
              obtain ⟨b1, o1, rfl, hc1, t1⟩ := hr m hlm
              obtain ⟨b2, o2, rfl, hc2, _⟩ := hk m hlm
              obtain ⟨b3, o3, rfl, hc3, _⟩ := hv m hlm
              have t2 : (ks m).size ≤ 1048576 := hup2 m hlm
              have t3 : vl m ≤ 1048576 := hup3 m hlm
              have d0 : wr.cell? ⟨b0, o0 + m, none⟩ = some (.int .u8 (os m)) := (hbw.cell (p := ⟨b0, o0 + m, none⟩) (block_lt_of_cell hc0)).trans hc0
              have d1 : wr.cell? ⟨b1, o1 + m, none⟩ = some (.int .u64 (rs m)) := (hbw.cell (p := ⟨b1, o1 + m, none⟩) (block_lt_of_cell hc1)).trans hc1
              have d2 : wr.cell? ⟨b2, o2 + m, none⟩ = some (.string (ks m)) := (hbw.cell (p := ⟨b2, o2 + m, none⟩) (block_lt_of_cell hc2)).trans hc2
              have d3 : wr.cell? ⟨b3, o3 + m, none⟩ = some (.slice (va m) (vl m) (vc m)) := (hbw.cell (p := ⟨b3, o3 + m, none⟩) (block_lt_of_cell hc3)).trans hc3
              have hsz := hbw.size
              clear hc0 hc1 hc2 hc3 ho hr hk hv hup2 hup3
              generalize os m = op at *
              generalize rs m = rev at *
              generalize ks m = key at *
              generalize va m = va0 at *
              generalize vl m = vl0 at *
              generalize vc m = vc0 at *
              have hlm' : (m : Int) < l3 := by omega
              go_wp2_with fail
              refine still_tail 18 (by kernel_rfl) (by kernel_rfl) ?_
              simp only [List.take_succ_cons, List.take_zero, List.drop_succ_cons, List.drop_zero]
              repeat still_step
              refine wpStill_nil ?_
              go_wp2_with fail
              refine (body op rev key.size vl0 _ t0 t1 t2 t3).mono ?_
              rintro e w2 ⟨⟨D, rfl, u1, u2⟩, rfl⟩
              go_wp2_with fail
              refine (uvarint D _ (by omega)).mono ?_
              rintro e w2 ⟨⟨q, rfl, hq⟩, rfl⟩
              have hq' : q ≤ 3 := hq.2.2.2 (by omega)
              clear hq
              go_wp2_with fail
              refine still_tail 16 (by kernel_rfl) (by kernel_rfl) ?_
              simp only [List.take_succ_cons, List.take_zero, List.drop_succ_cons, List.drop_zero]
              repeat still_step
              refine wpStill_nil ?_
              go_wp2_with fail
              refine (maxSize op rev key va0 vl0 vc0 _ t2 t3).mono ?_
              rintro e w2 ⟨rfl, o, rfl⟩
              have v1 : ¬ ((33 + key.size + vl0 : Nat) : Int) < (q : Int) + 1 + D := by omega
              have v2 : ¬ ((33 + key.size + vl0 : Nat) : Int) < 12 + D := by omega
              go_wp2_with fail
              exact ⟨⟨B + (q + 1 + D), S + (33 + key.size + vl0), m + 1, by omega, by go_num, by go_num, by go_num, by omega, by omega, by omega, ((hbw.alloc hsz o).drew).drew⟩, by simp [intOf]; omega⟩
            · have hlm' : decide ((m : Int) < l3) = false := by simp; omega
              have hml : m = l3 := by omega
              subst hml
              have z1 : (B : Int) ≤ S := by omega
              have z2 : (S : Int) - B ≤ 29 * m - 14 := by omega
              go_wp2_with fail
              go_ret
              exact ⟨by first | rfl | (simp; done) | (simp; omega), hbw⟩
end Go.Proofs.Qxb6613704a
