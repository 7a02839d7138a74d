/-
  Plain laws on greatest common divisors.
-/
namespace Go.Proofs.Qxb6601554a

theorem gcd_odd_even (u v : Nat) (h : u % 2 = 1) : Nat.gcd u (2 * v) = Nat.gcd u v := by
  have hc : Nat.Coprime 2 u := by
    rw [Nat.coprime_iff_gcd_eq_one, Nat.gcd_rec, h]
    rfl
  exact Nat.Coprime.gcd_mul_left_cancel_right v hc

theorem gcd_even_odd (u v : Nat) (h : v % 2 = 1) : Nat.gcd (2 * u) v = Nat.gcd u v := by
  rw [Nat.gcd_comm, gcd_odd_even v u h, Nat.gcd_comm]

theorem gcd_sub (u v : Nat) (h : u ≤ v) : Nat.gcd u (v - u) = Nat.gcd u v := Nat.gcd_sub_self_right h

theorem or_even (u v : Nat) : ((u ||| v) % 2 = 0) ↔ (u % 2 = 0 ∧ v % 2 = 0) := by
  have := @Nat.or_mod_two_eq_one u v
  omega

theorem gcd_even_even (x y : Nat) (hx : x % 2 = 0) (hy : y % 2 = 0) : Nat.gcd x y = 2 * Nat.gcd (x / 2) (y / 2) := by
  rw [← Nat.gcd_mul_left]
  congr 1 <;> omega

theorem even_step {x y s G : Nat} (hx : x % 2 = 0) (hy : y % 2 = 0) (h : Nat.gcd x y * 2 ^ s = G) : Nat.gcd (x / 2) (y / 2) * 2 ^ (s + 1) = G := by
  rw [← h, gcd_even_even x y hx hy, Nat.pow_succ, Nat.mul_comm 2, Nat.mul_assoc, Nat.mul_comm 2]

theorem half_step {x s u : Nat} (hx : x % 2 = 0) (h : x * 2 ^ s = u) : x / 2 * 2 ^ (s + 1) = u := by
  rw [← h, Nat.pow_succ, Nat.mul_comm (2 ^ s), ← Nat.mul_assoc]
  congr 1
  omega

theorem shift_le {x s : Nat} (hx : 0 < x) (h : x * 2 ^ s ≤ 18446744073709551615) : s ≤ 63 := by
  rcases Nat.lt_or_ge s 64 with h1 | h1
  · omega
  · have h2 : 2 ^ 64 ≤ 2 ^ s := Nat.pow_le_pow_right (by omega) h1
    have h3 : 1 * 2 ^ s ≤ x * 2 ^ s := Nat.mul_le_mul_right _ hx
    have h4 : (2 : Nat) ^ 64 = 18446744073709551616 := by decide
    omega

theorem half_left {x y : Nat} (hx : x % 2 = 0) (hy : y % 2 = 1) : Nat.gcd (x / 2) y = Nat.gcd x y := by
  have : x = 2 * (x / 2) := by omega
  conv => rhs; rw [this]
  exact (gcd_even_odd _ _ hy).symm
theorem half_right {x y : Nat} (hx : x % 2 = 1) (hy : y % 2 = 0) : Nat.gcd x (y / 2) = Nat.gcd x y := by
  have : y = 2 * (y / 2) := by omega
  conv => rhs; rw [this]
  exact (gcd_odd_even _ _ hx).symm
end Go.Proofs.Qxb6601554a
