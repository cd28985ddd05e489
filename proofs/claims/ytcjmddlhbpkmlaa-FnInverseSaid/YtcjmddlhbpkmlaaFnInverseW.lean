/-
  For every x of type uint, laws.FnInverse returns true. The walk.
-/
import Derived.Test.YtcjmddlhbpkmlaaMulu
import Derived.Test.YtcjmddlhbpkmlaaSubu
import Derived.WalkKit
import Derived.ProofKit
import Derived.OpenShut
namespace Go.Proofs.Ytcjmddlhbpkmlaa.fnInverse
open Go.ChangeShapes Go.WideShapes Go.ChangeAt Go.RowKit
set_option linter.unusedVariables false

theorem step {x y p d q h1 o h2 : Int} (e n : Nat) (hn : n ≤ 2 * e) (hnw : n ≤ 64) (hd : (2 ^ e : Int) ∣ 1 - x * y)
    (a : h1 * 18446744073709551616 + p = x * y) (b : d + p + 0 = 2 + 18446744073709551616 * o) (c : h2 * 18446744073709551616 + q = y * d) : (2 ^ n : Int) ∣ 1 - x * q := by
  have s := Roads.inv_step n e x y hd hn
  obtain ⟨k, hk⟩ := s
  have B : (18446744073709551616 : Int) = 2 ^ n * 2 ^ (64 - n) := by rw [← Int.pow_add, show n + (64 - n) = 64 by omega]; rfl
  have e1 : d = 2 - x * y + 18446744073709551616 * (h1 + o) := by rw [Int.mul_add, Int.mul_comm 18446744073709551616 h1]; omega
  have e2 : q = y * (2 - x * y) + 18446744073709551616 * (y * (h1 + o) - h2) := by
    have h : y * d = y * (2 - x * y) + 18446744073709551616 * (y * (h1 + o)) := by rw [e1, Int.mul_add, Int.mul_left_comm]
    generalize y * (2 - x * y) = P at *
    generalize y * (h1 + o) = Q at *
    omega
  have e3 : x * q = x * (y * (2 - x * y)) + 18446744073709551616 * (x * (y * (h1 + o) - h2)) := by rw [e2, Int.mul_add x, Int.mul_left_comm x 18446744073709551616]
  have e4 : 2 ^ n * (2 ^ (64 - n) * (x * (y * (h1 + o) - h2))) = 18446744073709551616 * (x * (y * (h1 + o) - h2)) := by rw [← Int.mul_assoc, ← B]
  refine ⟨k - 2 ^ (64 - n) * (x * (y * (h1 + o) - h2)), ?_⟩
  rw [Int.mul_sub, ← hk, e4, e3]
  omega

/-- After n rounds 2 ^ n bits are right (or all). -/
def Good (x y : Int) (n : Nat) : Prop := (2 ^ min (2 ^ n) 64 : Int) ∣ 1 - x * y

theorem good_start {x k : Int} (h : x = 2 * k + 1) : Good x x 0 := by
  refine ⟨-(2 * (k * k) + 2 * k), ?_⟩
  rw [show min (2 ^ 0) 64 = 1 from rfl, Int.pow_one, h]
  have e : (2 * k + 1) * (2 * k + 1) = 2 * (2 * (k * k)) + 2 * k + (2 * k + 1) := by
    rw [Int.add_mul, Int.one_mul, Int.mul_add, Int.mul_one, Int.mul_assoc, Int.mul_left_comm k 2 k]
  omega
theorem good_step {x y p d q h1 o h2 : Int} {n : Nat} (g : Good x y n) (a : h1 * 18446744073709551616 + p = x * y) (b : d + p + 0 = 2 + 18446744073709551616 * o) (c : h2 * 18446744073709551616 + q = y * d) : Good x q (n + 1) :=
  step _ _ (by rw [Nat.pow_succ]; omega) (Nat.min_le_right _ _) g a b c
theorem good_end {x y a p : Int} (g : Good x y 6) (h : a * 18446744073709551616 + p = x * y) (p0 : 0 ≤ p) (p1 : p < 18446744073709551616) : p = 1 := by
  obtain ⟨k, hk⟩ := g
  rw [show (2 ^ min (2 ^ 6) 64 : Int) = 18446744073709551616 from rfl] at hk
  omega

theorem odd_or (x : Int) (h0 : 0 ≤ x) (h1 : x < 18446744073709551616) : ∃ k : Int, bits .or .u64 x 1 = 2 * k + 1 ∧ 0 ≤ k ∧ 2 * k + 1 < 18446744073709551616 := by
  obtain ⟨X, rfl⟩ := Int.eq_ofNat_of_zero_le h0
  have l : X ||| 1 < 2 ^ 64 := Nat.or_lt_two_pow (by omega) (by omega)
  have e : (X ||| 1) % 2 = 1 := by
    have := Nat.or_mod_two_pow (a := X) (b := 1) (n := 1)
    simp only [Nat.pow_one] at this
    rw [this]
    rcases Nat.mod_two_eq_zero_or_one X with h | h <;> rw [h] <;> rfl
  refine ⟨((X ||| 1) / 2 : Nat), ?_, by omega, by omega⟩
  rw [show (1 : Int) = ((1 : Nat) : Int) from rfl, u64_or_nat X 1 (by omega) (by omega)]
  omega

set_option maxHeartbeats 1000000 in
theorem walk (x0 : Int) (w0 : (Lit.int .u64 x0).wf = true) (w : World) :
    Calls Try.prog 9 #[.int .u64 x0] w fun e w' => e = .returned (.bool true) ∧ Grown w w' := by
  obtain ⟨hx, hx'⟩ := bounds_u64 w0
  obtain ⟨k, hk, k0, k1⟩ := odd_or x0 hx (by omega)
  obtain ⟨x, X, x0', x1'⟩ : ∃ x : Int, Hid (x = 2 * k + 1) ∧ 0 ≤ x ∧ x < 18446744073709551616 := ⟨2 * k + 1, rfl, by omega, by omega⟩
  rw [← X.out] at hk
  go_enter Try.func9, Try.ntmps9
  go_wp2
  go_loop [3, 4] (fun y i => ∃ (n : Nat) (v : Int), n ≤ 6 ∧ i = .int .i64 n ∧ y = .int .u64 v ∧ 0 ≤ v ∧ v < 18446744073709551616 ∧ Good x v n) (fun _ i => 6 - (intOf i).toNat)
  case atStart => exact ⟨0, x, by omega, rfl, rfl, by omega, by omega, good_start X.out⟩
  case round =>
    obtain ⟨n, v, hn, rfl, rfl, v0, v1, g⟩ := hrel
    by_cases hlt : n < 6
    · go_wp2_with fail
      refine (mulu _ _ _ (by omega) (by omega) (by omega) (by omega)).mono ?_
      rintro e w' ⟨a, p, rfl, rfl, a0, a1, p0, p1, h1⟩
      have H1 := hide h1; clear h1
      go_wp2_with fail
      refine (subu _ _ _ _ (by omega) (by omega) (by omega) (by omega) (by omega) (by omega)).mono ?_
      rintro e w' ⟨d, o, rfl, rfl, d0, d1, o0, o1, h2⟩
      have H2 := hide h2; clear h2
      go_wp2_with fail
      refine (mulu _ _ _ (by omega) (by omega) (by omega) (by omega)).mono ?_
      rintro e w' ⟨b, q, rfl, rfl, b0, b1, q0, q1, h3⟩
      have G := good_step g H1.out H2.out h3
      clear h3 H1 H2 g
      go_wp2
      go_round
      case rel => exact ⟨n + 1, q, by omega, by go_num, rfl, q0, q1, G⟩
      case measure => simp [intOf]; omega
    · obtain rfl : n = 6 := by omega
      go_wp2_with fail
      refine (mulu _ _ _ (by omega) (by omega) (by omega) (by omega)).mono ?_
      rintro e w' ⟨a, p, rfl, rfl, a0, a1, p0, p1, h1⟩
      obtain rfl : p = 1 := good_end g h1 p0 p1
      clear h1 g
      go_wp2
      go_ret
      exact said rfl (Grown.refl _)

end Go.Proofs.Ytcjmddlhbpkmlaa.fnInverse
