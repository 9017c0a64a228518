import Derived.Test.Qxb6613704aRows
import Derived.WalkKit
import Derived.WalkSpells
import Derived.StillTactics
import Derived.Laws.Pointers
import Derived.Below
import Derived.RowKit3
namespace Go.Proofs.Qxb6613704a
open Go.RowKit

/-- The plain law of the varint's length: k steps of seven bits have been taken from x. -/
def Step (x k y : Nat) : Prop := y = x / 128 ^ k ∧ (k = 0 ∨ 128 ^ k ≤ x)

theorem step_next {x k y : Nat} (h : Step x k y) (hy : 128 ≤ y) : Step x (k + 1) (y / 128) := by
  obtain ⟨rfl, _⟩ := h
  refine ⟨by rw [Nat.div_div_eq_div_mul, Nat.pow_succ], .inr ?_⟩
  have := (Nat.le_div_iff_mul_le (Nat.pow_pos (by decide : 0 < 128))).1 hy
  rw [Nat.pow_succ]; omega

theorem step_bound {x k y : Nat} (h : Step x k y) (hx : x < 18446744073709551616) : k ≤ 9 ∧ (x < 256 → k ≤ 1) ∧ (x < 2097152 → k ≤ 2) ∧ (x < 268435456 → k ≤ 3) := by
  obtain ⟨_, hk⟩ := h
  have mono : ∀ a b : Nat, a ≤ b → 128 ^ a ≤ 128 ^ b := fun a b hab => Nat.pow_le_pow_right (by decide) hab
  refine ⟨?_, ?_, ?_, ?_⟩
  · rcases Nat.lt_or_ge 9 k with h | h
    · have := mono 10 k h; have : 128 ^ k ≤ x := by omega
      have : 128 ^ 10 = 1180591620717411303424 := by decide
      omega
    · exact h
  · intro h'
    rcases Nat.lt_or_ge 1 k with h | h
    · have := mono 2 k h; have : 128 ^ k ≤ x := by omega
      have : 128 ^ 2 = 16384 := by decide
      omega
    · exact h
  · intro h'
    rcases Nat.lt_or_ge 2 k with h | h
    · have := mono 3 k h; have : 128 ^ k ≤ x := by omega
      have : 128 ^ 3 = 2097152 := by decide
      omega
    · exact h
  · intro h'
    rcases Nat.lt_or_ge 3 k with h | h
    · have := mono 4 k h; have : 128 ^ k ≤ x := by omega
      have : 128 ^ 4 = 268435456 := by decide
      omega
    · exact h

set_option maxHeartbeats 400000 in
theorem uvarint (x : Nat) (w : World) (hx : x < 18446744073709551616) :
    Calls Try.prog 6 #[.int .u64 x] w fun e w' => (∃ k : Nat, e = .returned (.int .i64 ((k : Int) + 1)) ∧ k ≤ 9 ∧ (x < 256 → k ≤ 1) ∧ (x < 2097152 → k ≤ 2) ∧ (x < 268435456 → k ≤ 3)) ∧ w' = w := by
  have HX : Hid (x < 18446744073709551616) := hx
  clear hx
  go_enter Try.func6, Try.ntmps6
  go_wp2
  go_loop [0, 3] (fun y n => ∃ k : Nat, ∃ z : Nat, y = .int .u64 z ∧ n = .int .i64 ((k : Int) + 1) ∧ Hid (Step x k z)) (fun y _ => (intOf y).toNat)
  case atStart => exact ⟨0, x, rfl, rfl, by simp [Hid, Step]⟩
  case round =>
    obtain ⟨k, z, rfl, rfl, hs⟩ := hrel
    have hk : k ≤ 9 := (step_bound hs.out HX.out).1
    by_cases hz : 128 ≤ z
    · have hz' : (128 : Int) ≤ z := by omega
      go_wp2
      go_round
      case rel => exact ⟨k + 1, z / 128, by go_num, by go_num, step_next hs.out hz⟩
      case measure => simp [intOf]; omega
    · have hz' : ¬ (128 : Int) ≤ z := by omega
      go_wp2
      go_ret
      exact ⟨⟨k, rfl, step_bound hs.out HX.out⟩, rfl⟩

set_option maxHeartbeats 400000 in
theorem body (op rev kl vl : Nat) (w : World) (h0 : op < 256) (h1 : rev < 18446744073709551616) (h2 : kl ≤ 1048576) (h3 : vl ≤ 1048576) :
    Calls Try.prog 5 #[.int .u8 op, .int .u64 rev, .int .i64 kl, .int .i64 vl] w fun e w' => (∃ B : Nat, e = .returned (.int .i64 B) ∧ kl + vl + 3 ≤ B ∧ B ≤ kl + vl + 15) ∧ w' = w := by
  go_enter Try.func5, Try.ntmps5
  go_wp2_with fail
  refine (uvarint op _ (by omega)).mono ?_
  rintro e w1 ⟨⟨a, rfl, ha⟩, rfl⟩
  have ha' : a ≤ 1 := ha.2.1 h0
  clear ha
  go_wp2_with fail
  refine (uvarint rev _ h1).mono ?_
  rintro e w1 ⟨⟨b, rfl, hb⟩, rfl⟩
  have hb' : b ≤ 9 := hb.1
  clear hb
  go_wp2_with fail
  refine (uvarint kl _ (by omega)).mono ?_
  rintro e w1 ⟨⟨c, rfl, hc⟩, rfl⟩
  have hc' : c ≤ 2 := hc.2.2.1 (by omega)
  clear hc
  go_wp2_with fail
  go_ret
  exact ⟨⟨a + b + c + 3 + kl + vl, by go_num, by omega, by omega⟩, rfl⟩

set_option maxHeartbeats 400000 in
theorem maxSize (op rev : Int) (s : ByteArray) (p : Option Addr) (len cap : Nat) (w : World) (h2 : s.size ≤ 1048576) (h3 : len ≤ 1048576) :
    Calls Try.prog 7 #[.int .u8 op, .int .u64 rev, .string s, .slice p len cap] w fun e w' => e = .returned (.int .i64 ((33 + s.size + len : Nat) : Int)) ∧ ∃ o, w' = w.alloc o := by
  go_enter Try.func7, Try.ntmps7
  go_wp2
  go_ret
  exact ⟨by go_num, _, rfl⟩
end Go.Proofs.Qxb6613704a
