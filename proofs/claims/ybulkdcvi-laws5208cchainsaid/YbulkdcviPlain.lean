/-
  The plain laws: bits of a sum, an or that adds, bytes filled bit by bit. No Go in sight.
-/
namespace Go.Proofs.Ybulkdcvi.Plain

theorem bit_low (a x h i : Nat) (hi : i < h) : (a + x * 2 ^ h) / 2 ^ i % 2 = a / 2 ^ i % 2 := by
  have e : x * 2 ^ h = (x * 2 ^ (h - i - 1) * 2) * 2 ^ i := by
    rw [Nat.mul_assoc, Nat.mul_assoc, ← Nat.pow_succ', ← Nat.pow_add]
    congr 2
    omega
  rw [e, Nat.add_mul_div_right _ _ (Nat.two_pow_pos i)]
  omega

theorem shift_high (a x h j : Nat) (ha : a < 2 ^ h) : (a + x * 2 ^ h) / 2 ^ (h + j) = x / 2 ^ j := by
  rw [Nat.pow_add, ← Nat.div_div_eq_div_mul, Nat.add_mul_div_right _ _ (Nat.two_pow_pos h), Nat.div_eq_of_lt ha, Nat.zero_add]

theorem lt_join (a x h m : Nat) (ha : a < 2 ^ h) (hx : x < 2 ^ m) : a + x * 2 ^ h < 2 ^ (h + m) := by
  have h1 : (x + 1) * 2 ^ h ≤ 2 ^ m * 2 ^ h := Nat.mul_le_mul_right _ hx
  rw [Nat.succ_mul, ← Nat.pow_add, Nat.add_comm m h] at h1
  omega

theorem mod_succ (R k : Nat) : R % 2 ^ (k + 1) = R % 2 ^ k + (R / 2 ^ k % 2) * 2 ^ k := by
  rw [Nat.mod_pow_succ, Nat.mul_comm]

/-- the byte j of what the first i bits of T come to -/
def byteAt (T i j : Nat) : Nat := T % 2 ^ i / 2 ^ (8 * j) % 256

theorem byteAt_zero (T j : Nat) : byteAt T 0 j = 0 := by simp [byteAt, Nat.mod_one]

theorem byteAt_lt (T i j : Nat) : byteAt T i j < 256 := Nat.mod_lt _ (by omega)

theorem byteAt_own (T i : Nat) : byteAt T i (i / 8) < 2 ^ (i % 8) ∧ byteAt T (i + 1) (i / 8) = byteAt T i (i / 8) + (T / 2 ^ i % 2) * 2 ^ (i % 8) := by
  have hi : i = 8 * (i / 8) + i % 8 := by omega
  have hr : i % 8 < 8 := Nat.mod_lt _ (by omega)
  generalize hq : i / 8 = q at *
  generalize hs : i % 8 = r at *
  have hpow : 2 ^ i = 2 ^ (8 * q) * 2 ^ r := by rw [← Nat.pow_add, ← hi]
  have h1 : T % 2 ^ i / 2 ^ (8 * q) < 2 ^ r := by
    rw [Nat.div_lt_iff_lt_mul (Nat.two_pow_pos _), Nat.mul_comm, ← hpow]
    exact Nat.mod_lt _ (Nat.two_pow_pos _)
  have h2 : 2 ^ r * 2 ≤ 256 := by
    rw [← Nat.pow_succ]
    exact Nat.pow_le_pow_right (by omega) (show r + 1 ≤ 8 by omega)
  have hb : T / 2 ^ i % 2 < 2 := Nat.mod_lt _ (by omega)
  have h3 : T % 2 ^ (i + 1) / 2 ^ (8 * q) = T % 2 ^ i / 2 ^ (8 * q) + (T / 2 ^ i % 2) * 2 ^ r := by
    rw [mod_succ]
    have e : (T / 2 ^ i % 2) * 2 ^ i = ((T / 2 ^ i % 2) * 2 ^ r) * 2 ^ (8 * q) := by rw [Nat.mul_assoc, Nat.mul_comm (2 ^ r), ← hpow]
    rw [e, Nat.add_mul_div_right _ _ (Nat.two_pow_pos _)]
  have h4 : (T / 2 ^ i % 2) * 2 ^ r ≤ 2 ^ r := by
    have : (T / 2 ^ i % 2) * 2 ^ r ≤ 1 * 2 ^ r := Nat.mul_le_mul_right _ (by omega)
    omega
  have m1 : T % 2 ^ i / 2 ^ (8 * q) % 256 = T % 2 ^ i / 2 ^ (8 * q) := Nat.mod_eq_of_lt (by omega)
  have m2 : (T % 2 ^ i / 2 ^ (8 * q) + (T / 2 ^ i % 2) * 2 ^ r) % 256 = T % 2 ^ i / 2 ^ (8 * q) + (T / 2 ^ i % 2) * 2 ^ r := Nat.mod_eq_of_lt (by omega)
  unfold byteAt
  rw [h3, m1, m2]
  exact ⟨h1, rfl⟩

theorem byteAt_other (T i j : Nat) (h : j ≠ i / 8) : byteAt T (i + 1) j = byteAt T i j := by
  unfold byteAt
  rw [mod_succ]
  by_cases hj : 8 * j ≤ i
  · have hj2 : 8 * j + 8 ≤ i := by omega
    have e : (T / 2 ^ i % 2) * 2 ^ i = ((T / 2 ^ i % 2) * 2 ^ (i - 8 * j - 8) * 256) * 2 ^ (8 * j) := by
      rw [Nat.mul_assoc, Nat.mul_assoc, show (256 : Nat) = 2 ^ 8 from rfl, ← Nat.pow_add, ← Nat.pow_add]
      congr 2
      omega
    rw [e, Nat.add_mul_div_right _ _ (Nat.two_pow_pos _), Nat.add_mul_mod_self_right]
  · have h1 : T % 2 ^ i < 2 ^ (8 * j) := Nat.lt_of_lt_of_le (Nat.mod_lt _ (Nat.two_pow_pos _)) (Nat.pow_le_pow_right (by omega) (by omega))
    have h2 : T % 2 ^ i + (T / 2 ^ i % 2) * 2 ^ i < 2 ^ (8 * j) := by
      rw [← mod_succ]
      exact Nat.lt_of_lt_of_le (Nat.mod_lt _ (Nat.two_pow_pos _)) (Nat.pow_le_pow_right (by omega) (by omega))
    rw [Nat.div_eq_of_lt h1, Nat.div_eq_of_lt h2]

end Go.Proofs.Ybulkdcvi.Plain
