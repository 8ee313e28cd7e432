/-
  The plain laws of a run of puts: what is out and what is held of a stream of bits. No Go in sight.
-/
import Derived.Test.YbulkdcviPlain
namespace Go.Proofs.Ybulkdcvi.Plain

/-- What is held of the stream T of L bits: q whole groups of 64 are out, the rest, a, is held: h bits. -/
def Held (T L a h q : Nat) : Prop := L = 64 * q + h ∧ h < 64 ∧ a = T / 2 ^ (64 * q) ∧ T < 2 ^ L

theorem Held.lt {T L a h q : Nat} (H : Held T L a h q) : a < 2 ^ h := by
  obtain ⟨h1, _, h3, h4⟩ := H
  rw [h3, Nat.div_lt_iff_lt_mul (Nat.two_pow_pos _), ← Nat.pow_add, show h + 64 * q = L from by omega]
  exact h4

theorem Held.join {T L a h q : Nat} (H : Held T L a h q) (x : Nat) : a + x * 2 ^ h = (T + x * 2 ^ L) / 2 ^ (64 * q) := by
  obtain ⟨h1, _, h3, _⟩ := H
  have e : x * 2 ^ L = (x * 2 ^ h) * 2 ^ (64 * q) := by rw [Nat.mul_assoc, ← Nat.pow_add, show h + 64 * q = L from by omega]
  rw [e, Nat.add_mul_div_right _ _ (Nat.two_pow_pos _), h3]

theorem Held.stay {T L a h q : Nat} (H : Held T L a h q) (x m : Nat) (hx : x < 2 ^ m) (hm : h + m < 64) : Held (T + x * 2 ^ L) (L + m) (a + x * 2 ^ h) (h + m) q := by
  refine ⟨by have := H.1; omega, hm, H.join x, lt_join T x L m H.2.2.2 hx⟩

theorem Held.spill {T L a h q : Nat} (H : Held T L a h q) (x m n : Nat) (hx : x < 2 ^ m) (hm : h + m = n + 64) (hn : n < 64) : Held (T + x * 2 ^ L) (L + m) ((a + x * 2 ^ h) / 18446744073709551616) n (q + 1) := by
  refine ⟨by have := H.1; omega, hn, ?_, lt_join T x L m H.2.2.2 hx⟩
  rw [H.join x, Nat.div_div_eq_div_mul, show (18446744073709551616 : Nat) = 2 ^ 64 from rfl, ← Nat.pow_add]
  rfl

/-- the bytes of whole groups don't turn when bits are joined behind them -/
theorem byte_kept (T x L j : Nat) (hj : 8 * j + 8 ≤ L) : (T + x * 2 ^ L) / 2 ^ (8 * j) % 256 = T / 2 ^ (8 * j) % 256 := by
  have e : x * 2 ^ L = (x * 2 ^ (L - 8 * j - 8) * 256) * 2 ^ (8 * j) := by
    rw [Nat.mul_assoc, Nat.mul_assoc, show (256 : Nat) = 2 ^ 8 from rfl, ← Nat.pow_add, ← Nat.pow_add]
    congr 2
    omega
  rw [e, Nat.add_mul_div_right _ _ (Nat.two_pow_pos _), Nat.add_mul_mod_self_right]

/-- the bytes of a group, out of what was held -/
theorem byte_new (T q j : Nat) (hj : j < 8) : byteAt (T / 2 ^ (64 * q)) 64 j = T / 2 ^ (8 * (8 * q + j)) % 256 := by
  unfold byteAt
  have e1 : T / 2 ^ (8 * (8 * q + j)) = T / 2 ^ (64 * q) / 2 ^ (8 * j) := by
    rw [Nat.div_div_eq_div_mul, ← Nat.pow_add]
    congr 2
    omega
  rw [e1]
  generalize T / 2 ^ (64 * q) = Y
  have e2 : (2 : Nat) ^ 64 = 2 ^ (8 * j) * 2 ^ (64 - 8 * j) := by rw [← Nat.pow_add]; congr 1; omega
  rw [e2, Nat.mod_mul_right_div_self]
  have e3 : (2 : Nat) ^ (64 - 8 * j) = 256 * 2 ^ (64 - 8 * j - 8) := by rw [show (256 : Nat) = 2 ^ 8 from rfl, ← Nat.pow_add]; congr 1; omega
  rw [e3, Nat.mod_mul_right_mod]

/-- a bit out of a byte -/
theorem bit_of_byte (T i : Nat) : T / 2 ^ (8 * (i / 8)) % 256 / 2 ^ (i % 8) % 2 = T / 2 ^ i % 2 := by
  have hr : i % 8 < 8 := Nat.mod_lt _ (by omega)
  have e : T / 2 ^ i = T / 2 ^ (8 * (i / 8)) / 2 ^ (i % 8) := by
    rw [Nat.div_div_eq_div_mul, ← Nat.pow_add]
    congr 2
    omega
  rw [e]
  generalize T / 2 ^ (8 * (i / 8)) = Y
  have e2 : (256 : Nat) = 2 ^ (i % 8) * 2 ^ (8 - i % 8) := by rw [show (256 : Nat) = 2 ^ 8 from rfl, ← Nat.pow_add]; congr 1; omega
  rw [e2, Nat.mod_mul_right_div_self]
  have e3 : (2 : Nat) ^ (8 - i % 8) = 2 * 2 ^ (8 - i % 8 - 1) := by rw [← Nat.pow_succ']; congr 1; omega
  rw [e3, Nat.mod_mul_right_mod]

end Go.Proofs.Ybulkdcvi.Plain
