/-
  Plain facts on one bit of a sum, a difference and a product (no program in sight).
-/
import Derived.Test.YtaiepmcjnnoioaaPlain
namespace Go.Proofs.Roads
/-- The lower b bits of a word, and the bit behind them. -/
theorem low_succ (x b : Nat) : x % 2 ^ (b + 1) = x % 2 ^ b + 2 ^ b * (x / 2 ^ b % 2) := Nat.mod_pow_succ

theorem or_high (w s b : Nat) (h : w < 2 ^ b) : w ||| (s * 2 ^ b) = w + s * 2 ^ b := by
  have := Nat.two_pow_add_eq_or_of_lt h s
  rw [Nat.mul_comm s, Nat.or_comm, ← this, Nat.add_comm]

/-- One bit of a sum. -/
theorem add_bit {x y c word carry b s : Nat} (hc : carry ≤ 1) (hw : word < 2 ^ b) (h : word + carry * 2 ^ b = x % 2 ^ b + y % 2 ^ b + c) (hs : s = x / 2 ^ b % 2 + y / 2 ^ b % 2 + carry) :
    s / 2 ≤ 1 ∧ (word ||| (s % 2 * 2 ^ b)) < 2 ^ (b + 1) ∧ (word ||| (s % 2 * 2 ^ b)) + s / 2 * 2 ^ (b + 1) = x % 2 ^ (b + 1) + y % 2 ^ (b + 1) + c := by
  rw [or_high _ _ _ hw, low_succ, low_succ]
  have h1 : x / 2 ^ b % 2 < 2 := Nat.mod_lt _ (by omega)
  have h2 : y / 2 ^ b % 2 < 2 := Nat.mod_lt _ (by omega)
  have e : 2 ^ (b + 1) = 2 * 2 ^ b := Nat.pow_succ'
  rw [e]
  generalize x / 2 ^ b % 2 = p at *
  generalize y / 2 ^ b % 2 = q at *
  generalize 2 ^ b = B at *
  refine ⟨by omega, ?_, ?_⟩
  · have : s % 2 = 0 ∨ s % 2 = 1 := by omega
    rcases this with h | h <;> rw [h] <;> omega
  · have : s / 2 * (2 * B) = (2 * (s / 2)) * B := by rw [Nat.mul_comm 2 (s / 2), Nat.mul_assoc]
    rw [this]
    have e2 : s % 2 * B + 2 * (s / 2) * B = s * B := by rw [← Nat.add_mul]; congr 1; omega
    have e3 : s * B = p * B + q * B + carry * B := by rw [hs, Nat.add_mul, Nat.add_mul]
    rw [Nat.mul_comm B p, Nat.mul_comm B q]
    omega

/-- One bit of a difference; s is 2 more than the difference of the bits. -/
theorem sub_bit {x y c word borrow b s : Nat} (hc : borrow ≤ 1) (hw : word < 2 ^ b) (h : word + y % 2 ^ b + c = x % 2 ^ b + borrow * 2 ^ b) (hs : s + y / 2 ^ b % 2 + borrow = 2 + x / 2 ^ b % 2) :
    s / 2 ≤ 1 ∧ (word ||| (s % 2 * 2 ^ b)) < 2 ^ (b + 1) ∧ (word ||| (s % 2 * 2 ^ b)) + y % 2 ^ (b + 1) + c = x % 2 ^ (b + 1) + (1 - s / 2) * 2 ^ (b + 1) := by
  rw [or_high _ _ _ hw, low_succ, low_succ]
  have h1 : x / 2 ^ b % 2 < 2 := Nat.mod_lt _ (by omega)
  have h2 : y / 2 ^ b % 2 < 2 := Nat.mod_lt _ (by omega)
  have e : 2 ^ (b + 1) = 2 * 2 ^ b := Nat.pow_succ'
  rw [e]
  generalize x / 2 ^ b % 2 = p at *
  generalize y / 2 ^ b % 2 = q at *
  generalize 2 ^ b = B at *
  refine ⟨by omega, ?_, ?_⟩
  · have : s % 2 = 0 ∨ s % 2 = 1 := by omega
    rcases this with h | h <;> rw [h] <;> omega
  · have : s / 2 ≤ 1 := by omega
    obtain ⟨t, ht⟩ : ∃ t, t = 1 - s / 2 := ⟨_, rfl⟩
    rw [← ht]
    have : t * (2 * B) = (2 * t) * B := by rw [Nat.mul_comm 2 t, Nat.mul_assoc]
    rw [this]
    have e2 : s % 2 * B + q * B + borrow * B = p * B + 2 * t * B := by rw [← Nat.add_mul, ← Nat.add_mul, ← Nat.add_mul]; congr 1; omega
    rw [Nat.mul_comm B p, Nat.mul_comm B q]
    omega

/-- A product, doubled and added to: hi, lo are the halves of the product with the upper bits of y. -/
theorem mul_bit {x y hi lo b : Nat} (hx : x < 18446744073709551616) (hy : y < 18446744073709551616) (hlo : lo < 18446744073709551616) (h : hi * 18446744073709551616 + lo = y / 2 ^ (b + 1) * x) :
    hi * 2 < 18446744073709551616 ∧ (hi * 2 % 18446744073709551616 ||| lo / 9223372036854775808) = hi * 2 + lo / 9223372036854775808 ∧ (hi * 2 + lo / 9223372036854775808) < 18446744073709551616 ∧ (hi * 2 + lo / 9223372036854775808) * 18446744073709551616 + lo * 2 % 18446744073709551616 + (y / 2 ^ b % 2) * x = y / 2 ^ b * x ∧ y / 2 ^ b * x ≤ 18446744073709551615 * 18446744073709551615 := by
  have hq : y / 2 ^ (b + 1) = y / 2 ^ b / 2 := by rw [Nat.pow_succ, Nat.div_div_eq_div_mul]
  have hl : y / 2 ^ b ≤ y := Nat.div_le_self _ _
  rw [hq] at h
  generalize y / 2 ^ b = z at *
  have e : z * x = 2 * (z / 2 * x) + z % 2 * x := by
    rw [← Nat.mul_assoc, ← Nat.add_mul]; congr 1; omega
  have l : z * x ≤ 18446744073709551615 * 18446744073709551615 := Nat.mul_le_mul (by omega) (by omega)
  generalize z % 2 * x = r at *
  rw [← h] at e
  have l1 : hi * 2 < 18446744073709551616 := by omega
  have l2 : lo / 9223372036854775808 < 2 := by omega
  have l3 : hi * 2 + lo / 9223372036854775808 < 18446744073709551616 := by omega
  have e4 : (hi * 2 + lo / 9223372036854775808) * 18446744073709551616 + lo * 2 % 18446744073709551616 + r = z * x := by
    clear l l1 l2 l3 hq hl h hx hy
    rw [e]
    omega
  refine ⟨l1, ?_, l3, e4, l⟩
  rw [Nat.mod_eq_of_lt l1]
  have := or_high (lo / 9223372036854775808) hi 1 l2
  rw [Nat.or_comm, show hi * 2 = hi * 2 ^ 1 from rfl, this]
  omega
end Go.Proofs.Roads
