/-
  For all a, b, c of 64 bits, laws.FnMersenne returns true. The walk.
-/
import Derived.Test.YtmfcmnhfbaennaaMul64
import Derived.WalkKit
import Derived.ProofKit
import Derived.OpenShut
namespace Go.Proofs.Ytmfcmnhfbaennaa.fnMersenne
open Go.ChangeShapes Go.WideShapes Go.ChangeAt Go.RowKit
set_option linter.unusedVariables false

theorem halves {hi lo p : Int} (h1 : 0 ≤ hi) (h3 : 0 ≤ lo) (h4 : lo < 18446744073709551616) (h : hi * 18446744073709551616 + lo = p) (hp : p ≤ 2305843009213693950 * 2305843009213693950) :
    hi ≤ 288230376151711743 ∧ ∃ U V : Int, bits .or .u64 (hi * 8) (lo / 2305843009213693952) = U ∧ bits .and .u64 lo 2305843009213693951 = V ∧ 0 ≤ U ∧ U ≤ 2305843009213693948 ∧ 0 ≤ V ∧ V ≤ 2305843009213693951 ∧ U * 2305843009213693952 + V = p := by
  have hb : hi ≤ 288230376151711743 := by omega
  refine ⟨hb, hi * 8 + lo / 2305843009213693952, lo % 2305843009213693952, ?_, ?_, by omega, by omega, by omega, by omega, by omega⟩
  · obtain ⟨H, rfl⟩ := Int.eq_ofNat_of_zero_le h1
    obtain ⟨L, rfl⟩ := Int.eq_ofNat_of_zero_le h3
    have l : L / 2305843009213693952 < 2 ^ 3 := by omega
    rw [show (H : Int) * 8 = ((2 ^ 3 * H : Nat) : Int) by omega, show (L : Int) / 2305843009213693952 = ((L / 2305843009213693952 : Nat) : Int) by omega, u64_or_nat _ _ (by omega) (by omega), ← Nat.two_pow_add_eq_or_of_lt l]
    omega
  · obtain ⟨L, rfl⟩ := Int.eq_ofNat_of_zero_le h3
    rw [show (2305843009213693951 : Int) = ((2305843009213693951 : Nat) : Int) from rfl, u64_and_nat L _ (by omega) (by decide), show L &&& 2305843009213693951 = L % 2 ^ 61 from Nat.and_two_pow_sub_one_eq_mod L 61]
    omega

theorem fold_walk (x y : Int) (w : World) (hx : 0 ≤ x) (hx' : x < 2305843009213693951) (hy : 0 ≤ y) (hy' : y < 2305843009213693951) :
    Calls Try.prog 17 #[.int .u64 x, .int .u64 y] w fun e w' => ∃ r : Int, e = .returned (.int .u64 r) ∧ w = w' ∧ 0 ≤ r ∧ r < 2305843009213693951 ∧ r = x * y % 2305843009213693951 := by
  go_enter Try.func17, Try.ntmps17
  go_wp2_with fail
  refine (mul64 _ _ _ (by omega) (by omega) (by omega) (by omega)).mono ?_
  rintro e w' ⟨hi, lo, rfl, rfl, h1, h2, h3, h4, h5⟩
  obtain ⟨hb, U, V, eU, eV, u0, u1, v0, v1, uv⟩ := halves h1 h3 h4 h5 (Int.mul_le_mul (by omega) (by omega) hy (by omega))
  have H := hide uv; clear uv h5
  by_cases c : 2305843009213693951 ≤ U + V
  · go_wp2
    go_ret
    refine ⟨U + V - 2305843009213693951, rfl, rfl, by omega, by omega, ?_⟩
    have := H.out
    generalize x * y = p at *
    obtain ⟨k, rfl⟩ : ∃ k, p = 2305843009213693951 * (U + 1) + k := ⟨p - 2305843009213693951 * (U + 1), by omega⟩
    rw [Int.add_comm (2305843009213693951 * _) k, Int.add_mul_emod_self_left, Int.emod_eq_of_lt (by omega) (by omega)]
    omega
  · go_wp2
    go_ret
    refine ⟨U + V, rfl, rfl, by omega, by omega, ?_⟩
    have := H.out
    generalize x * y = p at *
    obtain ⟨k, rfl⟩ : ∃ k, p = 2305843009213693951 * U + k := ⟨p - 2305843009213693951 * U, by omega⟩
    rw [Int.add_comm (2305843009213693951 * _) k, Int.add_mul_emod_self_left, Int.emod_eq_of_lt (by omega) (by omega)]
    omega

theorem assoc_law (x y z : Int) : x * (y * z % 2305843009213693951) % 2305843009213693951 = x * y % 2305843009213693951 * z % 2305843009213693951 := by
  rw [Int.mul_emod, Int.emod_emod, ← Int.mul_emod, Int.mul_emod (x * y % _), Int.emod_emod, ← Int.mul_emod, Int.mul_assoc]
theorem sum_law (x y z : Int) : x * ((y + z) % 2305843009213693951) % 2305843009213693951 = (x * y % 2305843009213693951 + x * z % 2305843009213693951) % 2305843009213693951 := by
  rw [Int.mul_emod, Int.emod_emod, ← Int.mul_emod, ← Int.add_emod, Int.mul_add]

set_option maxHeartbeats 4000000 in
set_option maxRecDepth 100000 in
theorem walk (a b c : Int) (w0 : (Lit.int .u64 a).wf = true) (w1 : (Lit.int .u64 b).wf = true) (w2 : (Lit.int .u64 c).wf = true) (w : World) :
    Calls Try.prog 7 #[.int .u64 a, .int .u64 b, .int .u64 c] w fun e w' => e = .returned (.bool true) ∧ Grown w w' := by
  obtain ⟨ha, ha'⟩ := bounds_u64 w0
  obtain ⟨hb, hb'⟩ := bounds_u64 w1
  obtain ⟨hc, hc'⟩ := bounds_u64 w2
  obtain ⟨x, ex, x0, x1⟩ : ∃ x : Int, a % 2305843009213693951 = x ∧ 0 ≤ x ∧ x < 2305843009213693951 := ⟨_, rfl, by omega, by omega⟩
  obtain ⟨y, ey, y0, y1⟩ : ∃ y : Int, b % 2305843009213693951 = y ∧ 0 ≤ y ∧ y < 2305843009213693951 := ⟨_, rfl, by omega, by omega⟩
  obtain ⟨z, ez, z0, z1⟩ : ∃ z : Int, c % 2305843009213693951 = z ∧ 0 ≤ z ∧ z < 2305843009213693951 := ⟨_, rfl, by omega, by omega⟩
  have s0 : 0 ≤ (y + z) % 2305843009213693951 := by omega
  have s1 : (y + z) % 2305843009213693951 < 2305843009213693951 := by omega
  go_enter Try.func7, Try.ntmps7
  go_wp2_with fail
  refine (fold_walk _ _ _ (by omega) (by omega) (by omega) (by omega)).mono ?_
  rintro e w' ⟨p, rfl, rfl, p0, p1, hp⟩
  have P := hide hp; clear hp
  go_wp2_with fail
  refine (fold_walk _ _ _ (by omega) (by omega) (by omega) (by omega)).mono ?_
  rintro e w' ⟨p', rfl, rfl, p0', p1', hp'⟩
  obtain rfl : p' = p := by rw [hp', P.out, Int.mul_comm]
  clear hp'
  go_wp2_with fail
  refine (fold_walk _ _ _ (by omega) (by omega) (by omega) (by omega)).mono ?_
  rintro e w' ⟨q, rfl, rfl, q0, q1, hq⟩
  have Q := hide hq; clear hq
  go_wp2_with fail
  refine (fold_walk _ _ _ (by omega) (by omega) (by omega) (by omega)).mono ?_
  rintro e w' ⟨r, rfl, rfl, r0, r1, hr⟩
  have R := hide hr; clear hr
  go_wp2_with fail
  refine (fold_walk _ _ _ (by omega) (by omega) (by omega) (by omega)).mono ?_
  rintro e w' ⟨s, rfl, rfl, s0, s1, hs⟩
  obtain rfl : s = q := by
    rw [hs, Q.out, R.out, P.out]
    exact assoc_law x y z
  clear hs
  go_wp2_with fail
  refine (fold_walk _ _ _ (by omega) (by omega) (by omega) (by omega)).mono ?_
  rintro e w' ⟨u, rfl, rfl, u0, u1, hu⟩
  have U := hide hu; clear hu
  go_wp2_with fail
  refine (fold_walk _ _ _ (by omega) (by omega) (by omega) (by omega)).mono ?_
  rintro e w' ⟨v, rfl, rfl, v0, v1, hv⟩
  have eq : (u == (p' + v) % 2305843009213693951) = true := by
    rw [U.out, hv, P.out]
    exact beq_iff_eq.mpr (sum_law x y z)
  clear hv U
  go_wp2_with fail
  refine (fold_walk _ _ _ (by omega) (by omega) (by omega) (by omega)).mono ?_
  rintro e w' ⟨o, rfl, rfl, o0, o1, ho⟩
  obtain rfl : o = x := by rw [ho, Int.one_mul, Int.emod_eq_of_lt x0 x1]
  clear ho P Q R
  go_wp2
  go_ret
  exact said rfl (Grown.refl _)

end Go.Proofs.Ytmfcmnhfbaennaa.fnMersenne
