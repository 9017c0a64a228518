import Derived.Test.Qxb6614192aRand
import Derived.Deep.LoopGhost
import Derived.Deep.DeepCutAuto
namespace Go.Proofs.Qxb6614192a
open Go.RowKit

/-- A source of random numbers over the generator in block pb. -/
def RandAt (w : World) (rb pb : Nat) : Prop := w.heap[rb]? = some (.cells #[.iface 48 (.pointer (some ⟨pb, 0, none⟩))] 65 (0, 0))
theorem RandAt.cells {w : World} {rb pb : Nat} (h : RandAt w rb pb) : w.cell? ⟨rb, 0, none⟩ = some (.iface 48 (.pointer (some ⟨pb, 0, none⟩))) := cell_of_row w rb 0 _ 65 (0, 0) h
theorem RandAt.lt {w : World} {rb pb : Nat} (h : RandAt w rb pb) : rb < w.heap.size := (Array.getElem?_eq_some_iff.1 h).1
theorem RandAt.ne {w : World} {rb pb : Nat} {H L : Int} (h : RandAt w rb pb) (hp : PcgAt w pb H L) : rb ≠ pb := by
  intro e
  subst e
  have := h.symm.trans hp
  simp at this

theorem method_draw (a : Addr) (w : World) : (method 262 48 (.pointer (some a)) "Uint64").run Try.prog w = .ok (106, .pointer (some a)) w := by kernel_rfl

set_option maxRecDepth 100000 in
set_option maxHeartbeats 1000000 in
theorem uint75 (rb pb : Nat) (H L : Nat) (w : World) (hH : H < 18446744073709551616) (hL : L < 18446744073709551616) (hr : RandAt w rb pb) (h : PcgAt w pb H L) :
    Calls Try.prog 75 #[.pointer (some ⟨rb, 0, none⟩)] w fun e w' => e = .returned (.int .u64 (out (nHi H L) (nLo H L))) ∧ PcgAt w' pb (nHi H L : Nat) (nLo H L : Nat) ∧ Keep [pb] w w' := by
  have c0 := hr.cells
  have HN : Hid (Calls Try.prog 106 #[.pointer (some ⟨pb, 0, none⟩)] w fun e w' => e = .returned (.int .u64 (out (nHi H L) (nLo H L))) ∧ PcgAt w' pb (nHi H L : Nat) (nLo H L : Nat) ∧ Keep [pb] w w') := draw106 pb H L w hH hL h
  clear hH hL h hr
  generalize out (nHi H L) (nLo H L) = o at *
  generalize nHi H L = X at *
  generalize nLo H L = Y at *
  have hm := method_draw
  go_enter Try.func75, Try.ntmps75
  go_wp2_with fail
  refine HN.out.mono ?_
  rintro e w1 ⟨rfl, hp, hk⟩
  have HP : Hid (PcgAt w1 pb X Y) := hp
  have HK : Hid (Keep [pb] w w1) := hk
  clear hp hk
  go_wp2_with fail
  go_ret
  exact ⟨rfl, HP.out, HK.out⟩

/-- The lower half of the product of what was drawn and n. -/
def lowHalf (n H L : Nat) : Nat := (out H L).toNat * n % 18446744073709551616
theorem low_goal (n H L : Nat) (hn : n ≤ 65536) (hL : L < 18446744073709551616) (h : H * 18446744073709551616 + L = goal) : lowHalf n H L = n := by
  unfold goal at h
  obtain ⟨rfl, rfl⟩ : H = 1 ∧ L = 8648705766431031777 := by omega
  unfold lowHalf
  rw [show ((1 : Nat) : Int) = 1 from rfl, show ((8648705766431031777 : Nat) : Int) = 8648705766431031777 from rfl, out_goal]
  rw [show (1 : Int).toNat = 1 from rfl, Nat.one_mul]
  exact Nat.mod_eq_of_lt (by omega)

theorem mul76o (H L n : Nat) (hn : n ≤ 65536) (w : World) :
    Calls Try.prog 76 #[.int .u64 (out H L), .int .u64 n] w fun e w' => (∃ r : Int, e = .returned (.tuple #[.int .u64 r, .int .u64 (lowHalf n H L : Nat)])) ∧ w' = w := by
  have h0 := out_nonneg H L
  have h1 := out_lt H L
  unfold lowHalf
  obtain ⟨X, hX⟩ := Int.eq_ofNat_of_zero_le h0
  rw [hX] at h1 ⊢
  refine (mul76 X n (by omega) (by omega) w).mono ?_
  rintro e w' ⟨rfl, rfl⟩
  exact ⟨⟨_, rfl⟩, rfl⟩

/-- The generator has been drawn from: its state now, and how many draws more bring it to the state that is always taken. -/
structure Drawn (w : World) (pb k H L : Nat) (w' : World) : Prop where
  hH : H < 18446744073709551616
  hL : L < 18446744073709551616
  pcg : PcgAt w' pb H L
  left : iterN stp k (H * 18446744073709551616 + L) = goal
  keep : Keep [pb] w w'

theorem iterN_succ (f : Nat → Nat) (k x : Nat) : iterN f (k + 1) x = iterN f k (f x) := rfl
theorem Drawn.next {w w1 w2 : World} {pb k H L : Nat} (h : Drawn w pb (k + 1) H L w1) (hp : PcgAt w2 pb (nHi H L : Nat) (nLo H L : Nat)) (hk : Keep [pb] w1 w2) : Drawn w pb k (nHi H L) (nLo H L) w2 :=
  ⟨nHi_lt H L, nLo_lt H L, hp, by rw [n_state, ← iterN_succ]; exact h.left, h.keep.trans hk⟩

theorem RandAt.keep {w w' : World} {rb pb : Nat} (h : RandAt w rb pb) (hk : Keep [pb] w w') (hne : rb ≠ pb) : RandAt w' rb pb := (hk.block rb h.lt (by simpa using hne)).trans h

set_option maxRecDepth 100000 in
set_option maxHeartbeats 1000000 in
theorem uint63 (rb pb n : Nat) (H L : Nat) (w : World) (hn0 : 0 < n) (hn1 : n ≤ 65536) (hH : H < 18446744073709551616) (hL : L < 18446744073709551616) (hr : RandAt w rb pb) (h : PcgAt w pb H L) :
    Calls Try.prog 63 #[.pointer (some ⟨rb, 0, none⟩), .int .u64 n] w fun e w' => ∃ (r : Int) (k H' L' : Nat), e = .returned (.int .u64 r) ∧ Drawn w pb k H' L' w' := by
  obtain ⟨k0, hk0⟩ := stp_reach (stp (H * 18446744073709551616 + L)) (stp_lt _)
  have HD : Hid (Drawn w pb (k0 + 1) H L w) := ⟨hH, hL, h, by rw [iterN_succ]; exact hk0, Keep.refl _ _⟩
  have HR : Hid (RandAt w rb pb) := hr
  have hne : rb ≠ pb := hr.ne h
  have HN := uint75 rb pb H L w hH hL hr h
  have HN' : Hid (Calls Try.prog 75 #[.pointer (some ⟨rb, 0, none⟩)] w fun e w' => e = .returned (.int .u64 (out (nHi H L) (nLo H L))) ∧ PcgAt w' pb (nHi H L : Nat) (nLo H L : Nat) ∧ Keep [pb] w w') := HN
  clear hH hL hr h hk0 HN
  go_enter Try.func63, Try.ntmps63
  go_wp2_with fail
  · refine HN'.out.mono ?_
    rintro e w1 ⟨rfl, hp, hk⟩
    have HD1 : Hid (Drawn w pb k0 (nHi H L) (nLo H L) w1) := HD.out.next hp hk
    clear hp hk
    go_wp2_with fail
    go_ret
    exact ⟨_, k0, _, _, rfl, HD1.out⟩
  · refine HN'.out.mono ?_
    rintro e w1 ⟨rfl, hp, hk⟩
    have HD1 : Hid (Drawn w pb k0 (nHi H L) (nLo H L) w1) := HD.out.next hp hk
    clear hp hk HD HN'
    generalize nHi H L = H1 at *
    generalize nLo H L = L1 at *
    go_wp2_with fail
    refine (mul76o H1 L1 n hn1 w1).mono ?_
    rintro e w2 ⟨⟨r, rfl⟩, rfl⟩
    have hlow : (lowHalf n H1 L1 : Int) < (n : Int) ∨ ¬ (lowHalf n H1 L1 : Int) < (n : Int) := by omega
    rcases hlow with hlow | hlow
    · have HN0 : Hid (0 < n) := hn0
      have HN1 : Hid (n ≤ 65536) := hn1
      have hz : ((n : Int) == 0) = false := by rw [beq_eq_false_iff_ne]; omega
      have hz' : ¬ (n : Int) = 0 := by omega
      go_upto_region 7 with fail
      clear hn0 hn1
      go_upto_region 8 with fail
      have hT : (IntKind.u64.wrap (-(n : Int))).tmod (n : Int) < (n : Int) := Int.tmod_lt_of_pos _ (by have := HN0.out; omega)
      generalize (IntKind.u64.wrap (-(n : Int))).tmod (n : Int) = T at hT ⊢
      generalize IntKind.u64.wrap (-(n : Int)) = T' at *
      clear hlow
      go_loopg [5, 6] k0 (fun k r6 lo wr => ∃ (H L : Nat) (r : Int), r6 = .int .u64 r ∧ lo = .int .u64 (lowHalf n H L : Nat) ∧ Drawn w pb k H L wr)
      case atStart => exact ⟨H1, L1, r, rfl, rfl, HD1.out⟩
      case round =>
        obtain ⟨H2, L2, r2, rfl, rfl, hd⟩ := hrel
        have HD2 : Hid (Drawn w pb gk H2 L2 wr) := hd
        clear hd
        by_cases ht : (lowHalf n H2 L2 : Int) < T
        · cases gk with
          | zero =>
            exfalso
            have := low_goal n H2 L2 HN1.out HD2.out.hL HD2.out.left
            rw [this] at ht
            omega
          | succ k =>
            go_wp2_with fail
            refine (uint75 rb pb H2 L2 wr HD2.out.hH HD2.out.hL (HR.out.keep HD2.out.keep hne) HD2.out.pcg).mono ?_
            rintro e w3 ⟨rfl, hp, hk⟩
            have HD3 : Hid (Drawn w pb k (nHi H2 L2) (nLo H2 L2) w3) := HD2.out.next hp hk
            clear hp hk HD2 ht
            generalize nHi H2 L2 = H3 at *
            generalize nLo H2 L2 = L3 at *
            go_wp2_with fail
            refine (mul76o H3 L3 n HN1.out w3).mono ?_
            rintro e w4 ⟨⟨r3, rfl⟩, rfl⟩
            go_wp2_with fail
            go_roundg k
            case measure => omega
            case rel => exact ⟨H3, L3, r3, rfl, rfl, HD3.out⟩
        · go_wp2_with fail
          go_ret
          exact ⟨⟨_, rfl⟩, gk, H2, L2, HD2.out⟩
    · go_wp2_with fail
      go_ret
      exact ⟨_, k0, _, _, rfl, HD1.out⟩

/-- The generator's state is some pair of words. -/
def Gen (w : World) (pb : Nat) : Prop := ∃ H L : Nat, H < 18446744073709551616 ∧ L < 18446744073709551616 ∧ PcgAt w pb H L
/-- It returned some int. -/
def AnInt (e : Ending) : Prop := ∃ r : Int, e = .returned (.int .i64 r)

set_option maxRecDepth 100000 in
set_option maxHeartbeats 1000000 in
theorem intN35 (rb pb n : Nat) (w : World) (hn0 : 0 < n) (hn1 : n ≤ 65536) (hr : RandAt w rb pb) (h : Gen w pb) :
    Calls Try.prog 35 #[.pointer (some ⟨rb, 0, none⟩), .int .i64 n] w fun e w' => AnInt e ∧ Gen w' pb ∧ Keep [pb] w w' := by
  obtain ⟨H, L, hH, hL, hp⟩ := h
  have HC : Hid (Calls Try.prog 63 #[.pointer (some ⟨rb, 0, none⟩), .int .u64 n] w fun e w' => ∃ (r : Int) (k H' L' : Nat), e = .returned (.int .u64 r) ∧ Drawn w pb k H' L' w') := uint63 rb pb n H L w hn0 hn1 hH hL hr hp
  clear hH hL hp hr
  have h1 : ¬ (n : Int) ≤ 0 := by omega
  go_enter Try.func35, Try.ntmps35
  go_wp2_with fail
  refine HC.out.mono ?_
  rintro e w1 ⟨r, k, H', L', rfl, hd⟩
  have HD : Hid (Gen w1 pb ∧ Keep [pb] w w1) := ⟨⟨H', L', hd.hH, hd.hL, hd.pcg⟩, hd.keep⟩
  clear hd HC
  go_wp2_with fail
  go_ret
  exact ⟨⟨_, rfl⟩, HD.out.1, HD.out.2⟩
end Go.Proofs.Qxb6614192a
