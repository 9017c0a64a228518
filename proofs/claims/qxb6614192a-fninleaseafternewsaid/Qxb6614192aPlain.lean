namespace Go.Proofs.Qxb6614192a

/-! ### A linear congruence whose multiplier is 1 modulo 4 and whose step is odd meets every residue modulo a power of two. -/
def lin (a c x : Int) : Int := a * x + c
def iter (f : Int → Int) : Nat → Int → Int
  | 0, x => x
  | k + 1, x => iter f k (f x)

theorem iter_add (f : Int → Int) : ∀ (j k : Nat) (x : Int), iter f (j + k) x = iter f k (iter f j x)
  | 0, k, x => by rw [Nat.zero_add]; rfl
  | j + 1, k, x => by
    rw [show j + 1 + k = (j + k) + 1 by omega]
    exact iter_add f j k (f x)

theorem sq_form (u : Int) : (1 + 2 * u) * (1 + 2 * u) = 1 + 4 * (u + u * u) := by
  have e : (2 * u) * (2 * u) = 4 * (u * u) := by rw [Int.mul_assoc, Int.mul_left_comm u 2 u, ← Int.mul_assoc]; rfl
  rw [Int.add_mul, Int.mul_add, Int.mul_add, e]
  omega

/-- 2^m steps are an affine map whose factor is 1 modulo 2^(m+2) and whose step is 2^m times an odd number. -/
theorem iter_pow (a c : Int) (ha : a % 4 = 1) (hc : c % 2 = 1) : ∀ m : Nat, ∃ A C : Int, (∀ x, iter (lin a c) (2 ^ m) x = A * x + C) ∧ (∃ p, A = 1 + 2 * (2 * ((2 : Int) ^ m * p))) ∧ ∃ q, C = (2 : Int) ^ m * (1 + 2 * q)
  | 0 => ⟨a, c, fun x => rfl, ⟨a / 4, by show a = 1 + 2 * (2 * (1 * (a / 4))); omega⟩, ⟨c / 2, by show c = 1 * (1 + 2 * (c / 2)); omega⟩⟩
  | m + 1 => by
    obtain ⟨A, C, hf, ⟨p, hp⟩, ⟨q, hq⟩⟩ := iter_pow a c ha hc m
    have et : (2 : Int) ^ (m + 1) = 2 * (2 : Int) ^ m := by rw [Int.pow_succ, Int.mul_comm]
    refine ⟨A * A, A * C + C, fun x => ?_, ⟨p + 2 * ((2 : Int) ^ m * p) * p, ?_⟩, ⟨q + (2 : Int) ^ m * p + 2 * ((2 : Int) ^ m * p) * q, ?_⟩⟩
    · rw [show 2 ^ (m + 1) = 2 ^ m + 2 ^ m by rw [Nat.pow_succ]; omega, iter_add, hf, hf]
      rw [Int.mul_add, ← Int.mul_assoc, Int.add_assoc]
    · rw [hp, et, sq_form]
      generalize (2 : Int) ^ m = t
      have e : 2 * (t * p) * (2 * (t * p)) = 2 * (t * (2 * (t * p) * p)) := by
        rw [Int.mul_assoc 2 (t * p), Int.mul_comm (t * p) (2 * (t * p)), Int.mul_comm t p, ← Int.mul_assoc (2 * (p * t)) p t, Int.mul_comm (2 * (p * t) * p) t]
      rw [e, Int.mul_add (2 * t), Int.mul_assoc 2 t p, Int.mul_assoc 2 t]
      omega
    · rw [hp, hq, et]
      generalize (2 : Int) ^ m = t
      have e1 : (1 + 2 * (2 * (t * p))) * (t * (1 + 2 * q)) + t * (1 + 2 * q) = 2 * ((1 + 2 * (t * p)) * (t * (1 + 2 * q))) := by
        generalize t * (1 + 2 * q) = z
        generalize t * p = y
        rw [Int.add_mul, Int.add_mul, Int.mul_assoc 2 (2 * y) z]
        omega
      rw [e1, Int.mul_assoc 2 t, Int.mul_left_comm (1 + 2 * (t * p)) t (1 + 2 * q)]
      congr 2
      generalize t * p = y
      rw [Int.add_mul, Int.mul_add (2 * y), Int.mul_left_comm (2 * y) 2 q]
      omega

theorem pow_pos' (m : Nat) : (0 : Int) < 2 ^ m := by
  have : (2 : Int) ^ m = ((2 ^ m : Nat) : Int) := by simp
  rw [this]
  have := Nat.pow_pos (n := m) (show 0 < 2 by decide)
  omega

/-- Every residue is met. -/
theorem reach (a c : Int) (ha : a % 4 = 1) (hc : c % 2 = 1) : ∀ (m : Nat) (s t : Int), ∃ k : Nat, ∃ z, iter (lin a c) k s = t + (2 : Int) ^ m * z
  | 0, s, t => ⟨0, s - t, by show s = t + 1 * (s - t); omega⟩
  | m + 1, s, t => by
    obtain ⟨k, z, hz⟩ := reach a c ha hc m s t
    have et : (2 : Int) ^ (m + 1) = 2 * (2 : Int) ^ m := by rw [Int.pow_succ, Int.mul_comm]
    by_cases h : z % 2 = 0
    · refine ⟨k, z / 2, ?_⟩
      rw [hz, et, Int.mul_comm 2, Int.mul_assoc, show 2 * (z / 2) = z by omega]
    · obtain ⟨A, C, hf, ⟨p, hp⟩, ⟨q, hq⟩⟩ := iter_pow a c ha hc m
      refine ⟨k + 2 ^ m, (z + 1) / 2 + q + p * (2 * (t + (2 : Int) ^ m * z)), ?_⟩
      rw [iter_add, hf, hz, hp, hq, et]
      generalize hw : (2 : Int) ^ m = w
      have hx : t + w * z = t + w * z := rfl
      generalize hy : t + w * z = y at *
      have e1 : (1 + 2 * (2 * (w * p))) * y = y + 2 * (w * (p * (2 * y))) := by
        rw [Int.add_mul, Int.one_mul, Int.mul_assoc 2, Int.mul_assoc 2, Int.mul_assoc w p y, Int.mul_left_comm p 2 y, Int.mul_left_comm w 2 (p * y)]
      have e2 : w * (1 + 2 * q) = w + 2 * (w * q) := by rw [Int.mul_add, Int.mul_one, Int.mul_left_comm w 2 q]
      have e3 : 2 * w * ((z + 1) / 2 + q + p * (2 * y)) = w * (z + 1) + 2 * (w * q) + 2 * (w * (p * (2 * y))) := by
        rw [Int.mul_assoc 2 w, Int.mul_add w, Int.mul_add w]
        have : 2 * (w * ((z + 1) / 2)) = w * (z + 1) := by rw [Int.mul_left_comm 2 w, show 2 * ((z + 1) / 2) = z + 1 by omega]
        omega
      rw [e1, e2, e3, ← hy, Int.mul_add w z 1, Int.mul_one]
      omega
end Go.Proofs.Qxb6614192a
