/-
  For all x, y of type uint, laws.FnSquaresDiffer returns true. The walk.
-/
import Derived.Test.YtcjmddlhbpkmlaaMulu
import Derived.Test.YtcjmddlhbpkmlaaAddu
import Derived.Test.YtcjmddlhbpkmlaaSubu
import Derived.WalkKit
import Derived.ProofKit
import Derived.OpenShut
namespace Go.Proofs.Ytcjmddlhbpkmlaa.fnSquaresDiffer
open Go.ChangeShapes Go.WideShapes Go.ChangeAt Go.RowKit
set_option linter.unusedVariables false

theorem squares {x y s c d n hi lo a b p q low bo high n2 : Int} (hx : 0 ≤ x) (hx' : x < 18446744073709551616) (hy : 0 ≤ y) (hxy : y ≤ x)
    (c0 : 0 ≤ c) (c1 : c ≤ 1) (hs : s + 18446744073709551616 * c = x + y + 0) (d0 : 0 ≤ d) (d1 : d < 18446744073709551616) (n0 : 0 ≤ n) (n1 : n ≤ 1) (hd : d + y + 0 = x + 18446744073709551616 * n)
    (hi0 : 0 ≤ hi) (hi1 : hi < 18446744073709551616) (lo0 : 0 ≤ lo) (lo1 : lo < 18446744073709551616) (h1 : hi * 18446744073709551616 + lo = s * d)
    (a0 : 0 ≤ a) (a1 : a < 18446744073709551616) (b0 : 0 ≤ b) (b1 : b < 18446744073709551616) (h2 : a * 18446744073709551616 + b = x * x) (p0 : 0 ≤ p) (p1 : p < 18446744073709551616) (q0 : 0 ≤ q) (q1 : q < 18446744073709551616) (h3 : p * 18446744073709551616 + q = y * y)
    (low0 : 0 ≤ low) (low1 : low < 18446744073709551616) (bo0 : 0 ≤ bo) (bo1 : bo ≤ 1) (h4 : low + q + 0 = b + 18446744073709551616 * bo) (high0 : 0 ≤ high) (high1 : high < 18446744073709551616) (m0 : 0 ≤ n2) (m1 : n2 ≤ 1) (h5 : high + p + bo = a + 18446744073709551616 * n2) :
    (hi + c * d) % 18446744073709551616 = high ∧ lo = low := by
  have nz : n = 0 := by omega
  subst nz
  obtain rfl : d = x - y := by omega
  obtain rfl : s = x + y - 18446744073709551616 * c := by omega
  have e : (x + y - 18446744073709551616 * c) * (x - y) = x * x - y * y - 18446744073709551616 * (c * (x - y)) := by
    rw [Int.sub_mul, Int.add_mul, Int.mul_sub, Int.mul_sub, Int.mul_assoc, Int.mul_comm y x]; omega
  rw [e] at h1
  have m : 0 ≤ x * x - y * y := by
    have := Int.mul_le_mul hxy hxy hy hx
    omega
  have m2 : x * x ≤ 18446744073709551615 * 18446744073709551615 := Int.mul_le_mul (by omega) (by omega) hx (by omega)
  have m3 : 0 ≤ y * y := Int.mul_nonneg hy hy
  generalize x * x = X at *
  generalize y * y = Y at *
  generalize c * (x - y) = CD at *
  have k1 : hi + CD - (a - p - bo) = 0 := by omega
  omega

theorem walk (x y : Int) (w0 : (Lit.int .u64 x).wf = true) (w1 : (Lit.int .u64 y).wf = true) (w : World) :
    Calls Try.prog 3 #[.int .u64 x, .int .u64 y] w fun e w' => e = .returned (.bool true) ∧ Grown w w' := by
  obtain ⟨hx, hx'⟩ := bounds_u64 w0
  obtain ⟨hy, hy'⟩ := bounds_u64 w1
  by_cases hlt : x < y
  all_goals
    go_enter Try.func3, Try.ntmps3
    go_wp2_with fail
    refine (addu _ _ _ _ (by omega) (by omega) (by omega) (by omega) (by omega) (by omega)).mono ?_
    rintro e w' ⟨s, c, rfl, rfl, s0, s1, c0, c1, hs⟩
    have HS := hide hs; clear hs
    go_wp2_with fail
    refine (subu _ _ _ _ (by omega) (by omega) (by omega) (by omega) (by omega) (by omega)).mono ?_
    rintro e w' ⟨d, n, rfl, rfl, d0, d1, n0, n1, hd⟩
    have HD := hide hd; clear hd
    go_wp2_with fail
    refine (mulu _ _ _ (by omega) (by omega) (by omega) (by omega)).mono ?_
    rintro e w' ⟨hi, lo, rfl, rfl, hi0, hi1, lo0, lo1, h1⟩
    have H1 := hide h1; clear h1
    go_wp2_with fail
    refine (mulu _ _ _ (by omega) (by omega) (by omega) (by omega)).mono ?_
    rintro e w' ⟨a, b, rfl, rfl, a0, a1, b0, b1, h2⟩
    have H2 := hide h2; clear h2
    go_wp2_with fail
    refine (mulu _ _ _ (by omega) (by omega) (by omega) (by omega)).mono ?_
    rintro e w' ⟨p, q, rfl, rfl, p0, p1, q0, q1, h3⟩
    have H3 := hide h3; clear h3
    go_wp2_with fail
    refine (subu _ _ _ _ (by omega) (by omega) (by omega) (by omega) (by omega) (by omega)).mono ?_
    rintro e w' ⟨low, bo, rfl, rfl, low0, low1, bo0, bo1, h4⟩
    have H4 := hide h4; clear h4
    go_wp2_with fail
    refine (subu _ _ _ _ (by omega) (by omega) (by omega) (by omega) (by omega) (by omega)).mono ?_
    rintro e w' ⟨high, n2, rfl, rfl, high0, high1, m0, m1, h5⟩
    have H5 := hide h5; clear h5
    go_wp2_with fail
    refine (mulu _ _ _ (by omega) (by omega) (by omega) (by omega)).mono ?_
    rintro e w' ⟨z, one, rfl, rfl, z0, z1, o0, o1, h6⟩
    obtain rfl : one = 1 := by omega
    have R : (hi + c * d) % 18446744073709551616 = high ∧ lo = low := by
      first
        | exact squares hx (by omega) hy (by omega) c0 c1 HS.out d0 d1 n0 n1 HD.out hi0 hi1 lo0 lo1 H1.out a0 a1 b0 b1 H2.out p0 p1 q0 q1 H3.out low0 low1 bo0 bo1 H4.out high0 high1 m0 m1 H5.out
        | exact squares hy (by omega) hx (by omega) c0 c1 HS.out d0 d1 n0 n1 HD.out hi0 hi1 lo0 lo1 H1.out a0 a1 b0 b1 H2.out p0 p1 q0 q1 H3.out low0 low1 bo0 bo1 H4.out high0 high1 m0 m1 H5.out
    obtain ⟨R1, rfl⟩ := R
    have R2 : IntKind.u64.wrap (hi + IntKind.u64.wrap (c * d)) = high := by rw [IntKind.wrap_u64, IntKind.wrap_u64, Int.add_emod_emod]; exact R1
    clear R1
    clear HS HD H1 H2 H3 H4 H5 h6
    go_wp2
    go_ret
    exact said rfl (Grown.refl _)

end Go.Proofs.Ytcjmddlhbpkmlaa.fnSquaresDiffer
