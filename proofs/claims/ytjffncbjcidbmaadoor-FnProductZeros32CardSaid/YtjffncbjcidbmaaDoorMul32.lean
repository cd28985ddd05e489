/-
  What impl.Mul32 returns: the two halves of the product.
-/
import Derived.Test.YtjffncbjcidbmaaDoorBase
namespace Go.Proofs.YtjffncbjcidbmaaDoor
open Go.RowKit

def Mul32Post (x y : Int) (w : World) (e : Ending) (w' : World) : Prop :=
  ∃ hi lo : Int, e = .returned (.tuple #[.int .u32 hi, .int .u32 lo]) ∧ w = w' ∧ 0 ≤ hi ∧ hi < 4294967296 ∧ 0 ≤ lo ∧ lo < 4294967296 ∧ hi * 4294967296 + lo = x * y

theorem mul_bound32 {x y : Int} (hx : 0 ≤ x) (hx' : x < 4294967296) (hy : 0 ≤ y) (hy' : y < 4294967296) : 0 ≤ x * y ∧ x * y < 18446744073709551616 := by
  refine ⟨Int.mul_nonneg hx hy, ?_⟩
  have h : x * y ≤ 4294967295 * 4294967295 := Int.mul_le_mul (by omega) (by omega) hy (by omega)
  omega

theorem mul32 (x y : Int) (w : World) (hx : 0 ≤ x) (hx' : x < 4294967296) (hy : 0 ≤ y) (hy' : y < 4294967296) :
    Calls Tryd.prog 7 #[.int .u32 x, .int .u32 y] w (Mul32Post x y w) := by
  go_enter Tryd.func7, Tryd.ntmps7
  go_wp2
  go_ret2
  have hb := mul_bound32 hx hx' hy hy'
  refine ⟨_, _, rfl, rfl, ?_⟩
  simp only [IntKind.wrap_u64]
  generalize x * y = p at *
  omega
end Go.Proofs.YtjffncbjcidbmaaDoor
