import Derived.Test.Qxb6614192aPlain
namespace Go.Proofs.Qxb6614192a
/-- One step of the generator on its 128-bit state. -/
def stp (s : Nat) : Nat := (47026247687942121848144207491837523525 * s + 117397592171526113268558934119004209487) % 340282366920938463463374607431768211456
theorem next_lo (H L : Nat) : (L * 4865540595714422341 % 18446744073709551616 + 1442695040888963407) % 18446744073709551616 = stp (H * 18446744073709551616 + L) % 18446744073709551616 := by
  unfold stp; omega
theorem mods (a b p cy : Nat) : ((p + (a % 18446744073709551616 + b % 18446744073709551616) % 18446744073709551616) % 18446744073709551616 + 6364136223846793005 + cy) % 18446744073709551616 = (a + b + p + 6364136223846793005 + cy) % 18446744073709551616 := by omega
theorem next_hi (H L : Nat) :
    ((L * 4865540595714422341 / 18446744073709551616 + (H * 4865540595714422341 % 18446744073709551616 + L * 2549297995355413924 % 18446744073709551616) % 18446744073709551616) % 18446744073709551616 + 6364136223846793005 + (L * 4865540595714422341 % 18446744073709551616 + 1442695040888963407) / 18446744073709551616) % 18446744073709551616 = stp (H * 18446744073709551616 + L) / 18446744073709551616 := by
  rw [mods]
  unfold stp
  rw [show (340282366920938463463374607431768211456 : Nat) = 18446744073709551616 * 18446744073709551616 from rfl, Nat.mod_mul_right_div_self]
  have hT : 47026247687942121848144207491837523525 * (H * 18446744073709551616 + L) + 117397592171526113268558934119004209487 = (L * 4865540595714422341 + 1442695040888963407) + 18446744073709551616 * (H * 4865540595714422341 + L * 2549297995355413924 + 6364136223846793005 + 18446744073709551616 * (H * 2549297995355413924)) := by omega
  rw [hT, Nat.add_mul_div_left _ _ (by decide)]
  have hc : (L * 4865540595714422341 + 1442695040888963407) / 18446744073709551616 = L * 4865540595714422341 / 18446744073709551616 + (L * 4865540595714422341 % 18446744073709551616 + 1442695040888963407) / 18446744073709551616 := by omega
  rw [hc]
  generalize (L * 4865540595714422341 % 18446744073709551616 + 1442695040888963407) / 18446744073709551616 = cy
  generalize L * 4865540595714422341 / 18446744073709551616 = p
  omega
theorem stp_lt (s : Nat) : stp s < 340282366920938463463374607431768211456 := Nat.mod_lt _ (by decide)

def iterN (f : Nat → Nat) : Nat → Nat → Nat
  | 0, x => x
  | k + 1, x => iterN f k (f x)

theorem lin_cong (a c N : Int) : ∀ (j : Nat) (x y : Int), (∃ z, x = y + N * z) → ∃ z, iter (lin a c) j x = iter (lin a c) j y + N * z
  | 0, x, y, h => h
  | j + 1, x, y, ⟨z, hz⟩ => lin_cong a c N j _ _ ⟨a * z, by subst hz; unfold lin; rw [Int.mul_add, Int.mul_left_comm a N z]; omega⟩

theorem iter_mod (a c N : Nat) (f : Nat → Nat) (hf : ∀ s, f s = (a * s + c) % N) (hN : 0 < N) : ∀ (k s : Nat), s < N → ((iterN f k s : Nat) : Int) = iter (lin a c) k s % N
  | 0, s, h => by
    show (s : Int) = (s : Int) % (N : Int)
    rw [Int.emod_eq_of_lt (by omega) (by omega)]
  | k + 1, s, h => by
    have hlt : f s < N := by rw [hf]; exact Nat.mod_lt _ hN
    show ((iterN f k (f s) : Nat) : Int) = iter (lin a c) k (lin a c s) % (N : Int)
    rw [iter_mod a c N f hf hN k (f s) hlt]
    have h1 : ((f s : Nat) : Int) = lin a c s + N * -((lin a c s) / N) := by
      have e := Int.emod_add_mul_ediv (lin a c s) N
      have e2 : ((f s : Nat) : Int) = lin a c s % N := by
        rw [hf, Int.natCast_emod]
        unfold lin
        rw [Int.natCast_add, Int.natCast_mul]
      rw [e2, Int.mul_neg]
      omega
    obtain ⟨z, hz⟩ := lin_cong a c N k _ _ ⟨_, h1⟩
    rw [hz, Int.add_mul_emod_self_left]

/-- The state from which the generator draws 1. -/
def goal : Nat := 27095449840140583393

/-- From every state the generator comes to that one. -/
theorem stp_reach (s : Nat) (hs : s < 340282366920938463463374607431768211456) : ∃ k, iterN stp k s = goal := by
  obtain ⟨k, z, hz⟩ := reach ((47026247687942121848144207491837523525 : Nat) : Int) ((117397592171526113268558934119004209487 : Nat) : Int) (by omega) (by omega) 128 s goal
  refine ⟨k, ?_⟩
  have h1 := iter_mod 47026247687942121848144207491837523525 117397592171526113268558934119004209487 340282366920938463463374607431768211456 stp (fun _ => rfl) (by omega) k s hs
  rw [hz] at h1
  have e : (2 : Int) ^ 128 = ((340282366920938463463374607431768211456 : Nat) : Int) := by
    rw [show (2 : Int) ^ 128 = ((2 ^ 128 : Nat) : Int) by simp]
  rw [e, Int.add_mul_emod_self_left] at h1
  have h2 : ((goal : Nat) : Int) % ((340282366920938463463374607431768211456 : Nat) : Int) = ((goal : Nat) : Int) := by unfold goal; omega
  rw [h2] at h1
  exact Int.ofNat.inj h1
end Go.Proofs.Qxb6614192a
