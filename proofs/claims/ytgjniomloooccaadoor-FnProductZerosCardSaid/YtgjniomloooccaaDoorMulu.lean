/-
  What impl.Mul returns: the two halves of the product.
-/
import Derived.Test.YtgjniomloooccaaDoorBase
import Derived.Lib.Mul64
import Derived.Laws.Bits64b
namespace Go.Proofs.YtgjniomloooccaaDoor
open Go.RowKit

def MuluPost (x y : Int) (w : World) (e : Ending) (w' : World) : Prop :=
  ∃ hi lo : Int, e = .returned (.tuple #[.int .u64 hi, .int .u64 lo]) ∧ w = w' ∧ 0 ≤ hi ∧ hi < 18446744073709551616 ∧ 0 ≤ lo ∧ lo < 18446744073709551616 ∧ hi * 18446744073709551616 + lo = x * y

theorem maskNu (a : Nat) (ha : a < 18446744073709551616) : bits .and .u64 (a : Int) 4294967295 = ((a % 4294967296 : Nat) : Int) := by
  rw [show (4294967295 : Int) = ((4294967295 : Nat) : Int) from rfl, u64_and_nat a 4294967295 ha (by omega), nat_mask32]
theorem divNu (a : Nat) : (a : Int) / 4294967296 = ((a / 4294967296 : Nat) : Int) := by omega
theorem mulNu (a b : Nat) : (a : Int) * (b : Int) = ((a * b : Nat) : Int) := (Int.natCast_mul a b).symm
theorem addNu (a b : Nat) : (a : Int) + (b : Int) = ((a + b : Nat) : Int) := (Int.natCast_add a b).symm
theorem wrapNu (a : Nat) (ha : a < 18446744073709551616) : IntKind.u64.wrap (a : Int) = (a : Int) := by rw [IntKind.wrap_u64]; omega
theorem wrapMu (a : Nat) : IntKind.u64.wrap (a : Int) = ((a % 18446744073709551616 : Nat) : Int) := by rw [IntKind.wrap_u64]; omega

theorem mulu_nat (x y : Nat) (w : World) (hx : x < 18446744073709551616) (hy : y < 18446744073709551616) :
    Calls Tryd.prog 23 #[.int .u64 x, .int .u64 y] w (MuluPost x y w) := by
  obtain ⟨bd, bt, bw, hhi⟩ := Lib.mul64_hi x y hx hy
  have ba := Lib.half_mul_le (a := x / 4294967296) (b := y / 4294967296) (by omega) (by omega)
  have bb := Lib.half_mul_le (a := x / 4294967296) (b := y % 4294967296) (by omega) (by omega)
  have bc := Lib.half_mul_le (a := x % 4294967296) (b := y / 4294967296) (by omega) (by omega)
  have ba' : x / 4294967296 * (y / 4294967296) < 18446744073709551616 := by omega
  have bb' : x / 4294967296 * (y % 4294967296) < 18446744073709551616 := by omega
  have bc' : x % 4294967296 * (y / 4294967296) < 18446744073709551616 := by omega
  have bh1 : x / 4294967296 * (y / 4294967296) + (x / 4294967296 * (y % 4294967296) + x % 4294967296 * (y % 4294967296) / 4294967296) / 4294967296 < 18446744073709551616 := by omega
  have bh : x / 4294967296 * (y / 4294967296) + (x / 4294967296 * (y % 4294967296) + x % 4294967296 * (y % 4294967296) / 4294967296) / 4294967296 + ((x / 4294967296 * (y % 4294967296) + x % 4294967296 * (y % 4294967296) / 4294967296) % 4294967296 + x % 4294967296 * (y / 4294967296)) / 4294967296 < 18446744073709551616 := by omega
  have H := hide hhi; clear hhi
  go_enter Tryd.func23, Tryd.ntmps23
  go_wp2
  go_ret2
  refine ⟨_, _, rfl, rfl, ?_⟩
  simp only [maskNu x hx, maskNu y hy, divNu, mulNu, addNu, wrapNu _ bd, wrapNu _ bb', wrapNu _ bt, maskNu _ bt, wrapNu _ bc', wrapNu _ bw, wrapNu _ ba', wrapNu _ bh1, wrapNu _ bh, wrapMu (x * y)]
  rw [H.out]
  have l : x * y ≤ 18446744073709551615 * 18446744073709551615 := Nat.mul_le_mul (by omega) (by omega)
  generalize x * y = p at *
  omega

theorem mulu (x y : Int) (w : World) (hx : 0 ≤ x) (hx' : x < 18446744073709551616) (hy : 0 ≤ y) (hy' : y < 18446744073709551616) :
    Calls Tryd.prog 23 #[.int .u64 x, .int .u64 y] w (MuluPost x y w) := by
  obtain ⟨X, rfl⟩ := Int.eq_ofNat_of_zero_le hx
  obtain ⟨Y, rfl⟩ := Int.eq_ofNat_of_zero_le hy
  exact mulu_nat X Y w (by omega) (by omega)
end Go.Proofs.YtgjniomloooccaaDoor
