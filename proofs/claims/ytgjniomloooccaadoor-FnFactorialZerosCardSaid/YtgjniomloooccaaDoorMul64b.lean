/-
  What bits.Mul64 returns: the two halves of the product.
-/
import Derived.Test.YtgjniomloooccaaDoorBase
import Derived.Lib.Mul64
import Derived.Laws.Bits64b
namespace Go.Proofs.YtgjniomloooccaaDoor
open Go.RowKit

def Mul64bPost (x y : Int) (w : World) (e : Ending) (w' : World) : Prop :=
  ∃ hi lo : Int, e = .returned (.tuple #[.int .u64 hi, .int .u64 lo]) ∧ w = w' ∧ 0 ≤ hi ∧ hi < 18446744073709551616 ∧ 0 ≤ lo ∧ lo < 18446744073709551616 ∧ hi * 18446744073709551616 + lo = x * y

theorem maskNb (a : Nat) (ha : a < 18446744073709551616) : bits .and .u64 (a : Int) 4294967295 = ((a % 4294967296 : Nat) : Int) := by
  rw [show (4294967295 : Int) = ((4294967295 : Nat) : Int) from rfl, u64_and_nat a 4294967295 ha (by omega), nat_mask32]
theorem divNb (a : Nat) : (a : Int) / 4294967296 = ((a / 4294967296 : Nat) : Int) := by omega
theorem mulNb (a b : Nat) : (a : Int) * (b : Int) = ((a * b : Nat) : Int) := (Int.natCast_mul a b).symm
theorem addNb (a b : Nat) : (a : Int) + (b : Int) = ((a + b : Nat) : Int) := (Int.natCast_add a b).symm
theorem wrapNb (a : Nat) (ha : a < 18446744073709551616) : IntKind.u64.wrap (a : Int) = (a : Int) := by rw [IntKind.wrap_u64]; omega
theorem wrapMb (a : Nat) : IntKind.u64.wrap (a : Int) = ((a % 18446744073709551616 : Nat) : Int) := by rw [IntKind.wrap_u64]; omega

theorem mul64b_nat (x y : Nat) (w : World) (hx : x < 18446744073709551616) (hy : y < 18446744073709551616) :
    Calls Tryd.prog 24 #[.int .u64 x, .int .u64 y] w (Mul64bPost x y w) := by
  obtain ⟨bd, bt, bw, hhi⟩ := Lib.mul64_hi x y hx hy
  have ba := Lib.half_mul_le (a := x / 4294967296) (b := y / 4294967296) (by omega) (by omega)
  have bb := Lib.half_mul_le (a := x / 4294967296) (b := y % 4294967296) (by omega) (by omega)
  have bc := Lib.half_mul_le (a := x % 4294967296) (b := y / 4294967296) (by omega) (by omega)
  have ba' : x / 4294967296 * (y / 4294967296) < 18446744073709551616 := by omega
  have bb' : x / 4294967296 * (y % 4294967296) < 18446744073709551616 := by omega
  have bc' : x % 4294967296 * (y / 4294967296) < 18446744073709551616 := by omega
  have bh1 : x / 4294967296 * (y / 4294967296) + (x / 4294967296 * (y % 4294967296) + x % 4294967296 * (y % 4294967296) / 4294967296) / 4294967296 < 18446744073709551616 := by omega
  have bh : x / 4294967296 * (y / 4294967296) + (x / 4294967296 * (y % 4294967296) + x % 4294967296 * (y % 4294967296) / 4294967296) / 4294967296 + ((x / 4294967296 * (y % 4294967296) + x % 4294967296 * (y % 4294967296) / 4294967296) % 4294967296 + x % 4294967296 * (y / 4294967296)) / 4294967296 < 18446744073709551616 := by omega
  have H := hide hhi; clear hhi
  go_enter Tryd.func24, Tryd.ntmps24
  go_wp2
  go_ret2
  refine ⟨_, _, rfl, rfl, ?_⟩
  simp only [maskNb x hx, maskNb y hy, divNb, mulNb, addNb, wrapNb _ bd, wrapNb _ bb', wrapNb _ bt, maskNb _ bt, wrapNb _ bc', wrapNb _ bw, wrapNb _ ba', wrapNb _ bh1, wrapNb _ bh, wrapMb (x * y)]
  rw [H.out]
  have l : x * y ≤ 18446744073709551615 * 18446744073709551615 := Nat.mul_le_mul (by omega) (by omega)
  generalize x * y = p at *
  omega

theorem mul64b (x y : Int) (w : World) (hx : 0 ≤ x) (hx' : x < 18446744073709551616) (hy : 0 ≤ y) (hy' : y < 18446744073709551616) :
    Calls Tryd.prog 24 #[.int .u64 x, .int .u64 y] w (Mul64bPost x y w) := by
  obtain ⟨X, rfl⟩ := Int.eq_ofNat_of_zero_le hx
  obtain ⟨Y, rfl⟩ := Int.eq_ofNat_of_zero_le hy
  exact mul64b_nat X Y w (by omega) (by omega)
end Go.Proofs.YtgjniomloooccaaDoor
