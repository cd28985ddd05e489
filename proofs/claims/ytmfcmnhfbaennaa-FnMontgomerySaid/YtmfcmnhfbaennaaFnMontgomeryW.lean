/-
  For all m, hi, lo of 64 bits, laws.FnMontgomery returns true. The walk.
-/
import Derived.Test.YtmfcmnhfbaennaaMul64
import Derived.Test.YtmfcmnhfbaennaaSub64
import Derived.Test.YtmfcmnhfbaennaaAdd64
import Derived.WalkKit
import Derived.ProofKit
import Derived.OpenShut
namespace Go.Proofs.Ytmfcmnhfbaennaa.fnMontgomery
open Go.ChangeShapes Go.WideShapes Go.ChangeAt Go.RowKit
set_option linter.unusedVariables false

theorem step {x y p d q h1 o h2 : Int} (e n : Nat) (hn : n ≤ 2 * e) (hnw : n ≤ 64) (hd : (2 ^ e : Int) ∣ 1 - x * y)
    (a : h1 * 18446744073709551616 + p = x * y) (b : d + p + 0 = 2 + 18446744073709551616 * o) (c : h2 * 18446744073709551616 + q = y * d) : (2 ^ n : Int) ∣ 1 - x * q := by
  have s := Roads.inv_step n e x y hd hn
  obtain ⟨k, hk⟩ := s
  have B : (18446744073709551616 : Int) = 2 ^ n * 2 ^ (64 - n) := by rw [← Int.pow_add, show n + (64 - n) = 64 by omega]; rfl
  have e1 : d = 2 - x * y + 18446744073709551616 * (h1 + o) := by rw [Int.mul_add, Int.mul_comm 18446744073709551616 h1]; omega
  have e2 : q = y * (2 - x * y) + 18446744073709551616 * (y * (h1 + o) - h2) := by
    have h : y * d = y * (2 - x * y) + 18446744073709551616 * (y * (h1 + o)) := by rw [e1, Int.mul_add, Int.mul_left_comm]
    generalize y * (2 - x * y) = P at *
    generalize y * (h1 + o) = Q at *
    omega
  have e3 : x * q = x * (y * (2 - x * y)) + 18446744073709551616 * (x * (y * (h1 + o) - h2)) := by rw [e2, Int.mul_add x, Int.mul_left_comm x 18446744073709551616]
  have e4 : 2 ^ n * (2 ^ (64 - n) * (x * (y * (h1 + o) - h2))) = 18446744073709551616 * (x * (y * (h1 + o) - h2)) := by rw [← Int.mul_assoc, ← B]
  refine ⟨k - 2 ^ (64 - n) * (x * (y * (h1 + o) - h2)), ?_⟩
  rw [Int.mul_sub, ← hk, e4, e3]
  omega

def Good (x y : Int) (n : Nat) : Prop := (2 ^ min (2 ^ n) 64 : Int) ∣ 1 - x * y
theorem good_start {x k : Int} (h : x = 2 * k + 1) : Good x x 0 := by
  refine ⟨-(2 * (k * k) + 2 * k), ?_⟩
  rw [show min (2 ^ 0) 64 = 1 from rfl, Int.pow_one, h]
  have e : (2 * k + 1) * (2 * k + 1) = 2 * (2 * (k * k)) + 2 * k + (2 * k + 1) := by
    rw [Int.add_mul, Int.one_mul, Int.mul_add, Int.mul_one, Int.mul_assoc, Int.mul_left_comm k 2 k]
  omega
theorem good_step {x y p d q h1 o h2 : Int} {n : Nat} (g : Good x y n) (a : h1 * 18446744073709551616 + p = x * y) (b : d + p + 0 = 2 + 18446744073709551616 * o) (c : h2 * 18446744073709551616 + q = y * d) : Good x q (n + 1) :=
  step _ _ (by rw [Nat.pow_succ]; omega) (Nat.min_le_right _ _) g a b c

theorem odd_or (x : Int) (h0 : 0 ≤ x) (h1 : x < 18446744073709551616) : ∃ k : Int, bits .or .u64 x 1 = 2 * k + 1 ∧ 0 ≤ k ∧ 2 * k + 1 < 18446744073709551616 := by
  obtain ⟨X, rfl⟩ := Int.eq_ofNat_of_zero_le h0
  have l : X ||| 1 < 2 ^ 64 := Nat.or_lt_two_pow (by omega) (by omega)
  have e : (X ||| 1) % 2 = 1 := by
    have := Nat.or_mod_two_pow (a := X) (b := 1) (n := 1)
    simp only [Nat.pow_one] at this
    rw [this]
    rcases Nat.mod_two_eq_zero_or_one X with h | h <;> rw [h] <;> rfl
  refine ⟨((X ||| 1) / 2 : Nat), ?_, by omega, by omega⟩
  rw [show (1 : Int) = ((1 : Nat) : Int) from rfl, u64_or_nat X 1 (by omega) (by omega)]
  omega

/-- What the reduction comes to. -/
theorem reduce {m y t lo mi o1 h1 q high low zero carry up out rest borrow : Int} (g : Good m y 6) (hm : 0 < m) (hm' : m < 18446744073709551616) (y0 : 0 ≤ y) (y1 : y < 18446744073709551616) (t0 : 0 ≤ t) (t1 : t < m) (lo0 : 0 ≤ lo) (lo1 : lo < 18446744073709551616)
    (e1 : mi + y + 0 = 0 + 18446744073709551616 * o1) (e2 : h1 * 18446744073709551616 + q = lo * mi) (q0 : 0 ≤ q) (q1 : q < 18446744073709551616) (e3 : high * 18446744073709551616 + low = q * m) (low0 : 0 ≤ low) (low1 : low < 18446744073709551616)
    (e4 : zero + 18446744073709551616 * carry = lo + low + 0) (z0 : 0 ≤ zero) (z1 : zero < 18446744073709551616) (e5 : up + 18446744073709551616 * out = t + high + carry) (up0 : 0 ≤ up) (up1 : up < 18446744073709551616) (out0 : 0 ≤ out) (out1 : out ≤ 1)
    (e6 : rest + m + 0 = up + 18446744073709551616 * borrow) (r0 : 0 ≤ rest) (r1 : rest < 18446744073709551616) (b0 : 0 ≤ borrow) (b1 : borrow ≤ 1) :
    zero = 0 ∧ ((out = 0 ∧ up < m) ∨ (out = borrow ∧ rest < m)) := by
  obtain ⟨k, hk⟩ := g
  rw [show (2 ^ min (2 ^ 6) 64 : Int) = 18446744073709551616 from rfl] at hk
  -- lo + low is a multiple of the word
  have z : ∃ n : Int, lo + q * m = 18446744073709551616 * n := by
    refine ⟨lo * k + lo * m * o1 - h1 * m, ?_⟩
    have a : q = lo * mi - h1 * 18446744073709551616 := by omega
    have b : mi = 18446744073709551616 * o1 - y := by omega
    have c : m * y = 1 - 18446744073709551616 * k := by omega
    rw [a, b]
    grind
  obtain ⟨n, hn⟩ := z
  have zz : zero = 0 := by omega
  subst zz
  have u : t + high + carry = t + n := by omega
  have bd : q * m ≤ 18446744073709551615 * m := Int.mul_le_mul_of_nonneg_right (by omega) (by omega)
  refine ⟨rfl, ?_⟩
  -- t * 2^64 + lo + q * m < 2 * m * 2^64
  have lt : n ≤ m := by omega
  omega

set_option maxHeartbeats 4000000 in
set_option maxRecDepth 100000 in
theorem walk (m0 hi lo : Int) (w0 : (Lit.int .u64 m0).wf = true) (w1 : (Lit.int .u64 hi).wf = true) (w2 : (Lit.int .u64 lo).wf = true) (w : World) :
    Calls Try.prog 13 #[.int .u64 m0, .int .u64 hi, .int .u64 lo] w fun e w' => e = .returned (.bool true) ∧ Grown w w' := by
  obtain ⟨hm, hm'⟩ := bounds_u64 w0
  obtain ⟨hh, hh'⟩ := bounds_u64 w1
  obtain ⟨lo0, lo1⟩ := bounds_u64 w2
  obtain ⟨k, hk, k0, k1⟩ := odd_or m0 hm (by omega)
  obtain ⟨m, X, m1, m2⟩ : ∃ x : Int, Hid (x = 2 * k + 1) ∧ 0 < x ∧ x < 18446744073709551616 := ⟨2 * k + 1, rfl, by omega, by omega⟩
  rw [← X.out] at hk
  have t0 : 0 ≤ hi % m := Int.emod_nonneg _ (by omega)
  have t1 : hi % m < m := Int.emod_lt_of_pos _ m1
  have mz : (m == 0) = false := beq_eq_false_iff_ne.mpr (by omega)
  go_enter Try.func13, Try.ntmps13
  go_wp2
  go_loop [8, 9] (fun y i => ∃ (n : Nat) (v : Int), n ≤ 6 ∧ i = .int .i64 n ∧ y = .int .u64 v ∧ 0 ≤ v ∧ v < 18446744073709551616 ∧ Good m v n) (fun _ i => 6 - (intOf i).toNat)
  case atStart => exact ⟨0, m, by omega, rfl, rfl, by omega, by omega, good_start X.out⟩
  case round =>
    obtain ⟨n, v, hn, rfl, rfl, v0, v1, g⟩ := hrel
    by_cases hlt : n < 6
    · go_wp2_with fail
      refine (mul64 _ _ _ (by omega) (by omega) (by omega) (by omega)).mono ?_
      rintro e w' ⟨a, p, rfl, rfl, a0, a1, p0, p1, h1⟩
      have H1 := hide h1; clear h1
      go_wp2_with fail
      refine (sub64 _ _ _ _ (by omega) (by omega) (by omega) (by omega) (by omega) (by omega)).mono ?_
      rintro e w' ⟨d, o, rfl, rfl, d0, d1, o0, o1, h2⟩
      have H2 := hide h2; clear h2
      go_wp2_with fail
      refine (mul64 _ _ _ (by omega) (by omega) (by omega) (by omega)).mono ?_
      rintro e w' ⟨b, q, rfl, rfl, b0, b1, q0, q1, h3⟩
      have G := good_step g H1.out H2.out h3
      clear h3 H1 H2 g
      go_wp2
      go_round
      case rel => exact ⟨n + 1, q, by omega, by go_num, rfl, q0, q1, G⟩
      case measure => simp [intOf]; omega
    · obtain rfl : n = 6 := by omega
      have GG := hide g; clear g
      go_wp2_with fail
      refine (sub64 _ _ _ _ (by omega) (by omega) (by omega) (by omega) (by omega) (by omega)).mono ?_
      rintro e w' ⟨mi, o1, rfl, rfl, mi0, mi1, oo0, oo1, e1⟩
      have E1 := hide e1; clear e1
      go_wp2_with fail
      refine (mul64 _ _ _ (by omega) (by omega) (by omega) (by omega)).mono ?_
      rintro e w' ⟨h1, q, rfl, rfl, hh0, hh1, q0, q1, e2⟩
      have E2 := hide e2; clear e2
      go_wp2_with fail
      refine (mul64 _ _ _ (by omega) (by omega) (by omega) (by omega)).mono ?_
      rintro e w' ⟨high, low, rfl, rfl, hg0, hg1, low0, low1, e3⟩
      have E3 := hide e3; clear e3
      go_wp2_with fail
      refine (add64 _ _ _ _ (by omega) (by omega) (by omega) (by omega) (by omega) (by omega)).mono ?_
      rintro e w' ⟨zero, carry, rfl, rfl, z0, z1, c0, c1, e4⟩
      have E4 := hide e4; clear e4
      go_wp2_with fail
      refine (add64 _ _ _ _ (by omega) (by omega) (by omega) (by omega) (by omega) (by omega)).mono ?_
      rintro e w' ⟨up, out, rfl, rfl, up0, up1, out0, out1, e5⟩
      have E5 := hide e5; clear e5
      go_wp2_with fail
      refine (sub64 _ _ _ _ (by omega) (by omega) (by omega) (by omega) (by omega) (by omega)).mono ?_
      rintro e w' ⟨rest, borrow, rfl, rfl, r0, r1, b0, b1, e6⟩
      have R := reduce GG.out m1 m2 v0 v1 t0 t1 lo0 (by omega) E1.out E2.out q0 q1 E3.out low0 low1 E4.out z0 z1 E5.out up0 up1 out0 out1 e6 r0 r1 b0 b1
      clear GG E1 E2 E3 E4 E5 e6
      go_wp2_with fail
      refine (mul64 _ _ _ (by omega) (by omega) (by omega) (by omega)).mono ?_
      rintro e w' ⟨z, one, rfl, rfl, zz0, zz1, u0, u1, h6⟩
      obtain rfl : one = 1 := by omega
      clear h6
      obtain ⟨rfl, R⟩ := R
      by_cases c : out = 0 ∧ up < m
      · obtain ⟨rfl, c2⟩ := c
        clear R
        go_wp2
        go_ret
        exact said rfl (Grown.refl _)
      · obtain ⟨rfl, c2⟩ := R.resolve_left c
        by_cases co : out = 0
        · subst co
          have cu : ¬ up < m := fun h => c ⟨rfl, h⟩
          clear R c
          go_wp2
          go_ret
          exact said rfl (Grown.refl _)
        · have cb : (out == 0) = false := beq_eq_false_iff_ne.mpr co
          clear R c
          go_wp2
          go_ret
          exact said rfl (Grown.refl _)

end Go.Proofs.Ytmfcmnhfbaennaa.fnMontgomery
