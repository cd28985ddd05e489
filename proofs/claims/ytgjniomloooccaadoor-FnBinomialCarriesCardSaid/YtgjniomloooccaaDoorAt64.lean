/-
  impl.Add64 and impl.Mul64 at numbers whose sum or product is known.
-/
import Derived.Test.YtgjniomloooccaaDoorAdd64
import Derived.Test.YtgjniomloooccaaDoorMul64
namespace Go.Proofs.YtgjniomloooccaaDoor
open Go.RowKit
set_option linter.unusedVariables false

theorem add64_at (x y c : Int) (hx : 0 ≤ x) (hx' : x < 18446744073709551616) (hy : 0 ≤ y) (hy' : y < 18446744073709551616) (hc : 0 ≤ c) (hc' : c ≤ 1) :
    ∃ s o : Int, 0 ≤ s ∧ s < 18446744073709551616 ∧ 0 ≤ o ∧ o ≤ 1 ∧ s + 18446744073709551616 * o = x + y + c ∧
      ∀ w, Calls Tryd.prog 15 #[.int .u64 x, .int .u64 y, .int .u64 c] w fun e w' => e = .returned (.tuple #[.int .u64 s, .int .u64 o]) ∧ w' = w := by
  refine ⟨(x + y + c) % 18446744073709551616, (x + y + c) / 18446744073709551616, by omega, by omega, by omega, by omega, by omega, fun w => ?_⟩
  refine (add64 x y c w hx hx' hy hy' hc hc').mono ?_
  rintro e w' ⟨s, o, rfl, rfl, s0, s1, o0, o1, h⟩
  have e1 : s = (x + y + c) % 18446744073709551616 := by omega
  have e2 : o = (x + y + c) / 18446744073709551616 := by omega
  rw [e1, e2]
  exact ⟨rfl, rfl⟩
theorem mul64_at (x y : Int) (hx : 0 ≤ x) (hx' : x < 18446744073709551616) (hy : 0 ≤ y) (hy' : y < 18446744073709551616) :
    ∃ hi lo : Int, 0 ≤ hi ∧ hi < 18446744073709551616 ∧ 0 ≤ lo ∧ lo < 18446744073709551616 ∧ hi * 18446744073709551616 + lo = x * y ∧
      ∀ w, Calls Tryd.prog 16 #[.int .u64 x, .int .u64 y] w fun e w' => e = .returned (.tuple #[.int .u64 hi, .int .u64 lo]) ∧ w' = w := by
  have p0 : 0 ≤ x * y := Int.mul_nonneg hx hy
  have p1 : x * y ≤ 18446744073709551615 * 18446744073709551615 := Int.mul_le_mul (by omega) (by omega) hy (by omega)
  refine ⟨x * y / 18446744073709551616, x * y % 18446744073709551616, by omega, by omega, by omega, by omega, by omega, fun w => ?_⟩
  refine (mul64 x y w hx hx' hy hy').mono ?_
  rintro e w' ⟨h, l, rfl, rfl, h0, h1, l0, l1, q⟩
  have e1 : h = x * y / 18446744073709551616 := by omega
  have e2 : l = x * y % 18446744073709551616 := by omega
  rw [e1, e2]
  exact ⟨rfl, rfl⟩
end Go.Proofs.YtgjniomloooccaaDoor
