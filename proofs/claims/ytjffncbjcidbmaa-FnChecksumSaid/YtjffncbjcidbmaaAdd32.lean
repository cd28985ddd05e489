/-
  What impl.Add32 returns: the sum and what is carried.
-/
import Derived.Test.YtjffncbjcidbmaaBase
namespace Go.Proofs.Ytjffncbjcidbmaa
open Go.RowKit

def Add32Post (x y c : Int) (w : World) (e : Ending) (w' : World) : Prop :=
  ∃ s o : Int, e = .returned (.tuple #[.int .u32 s, .int .u32 o]) ∧ w = w' ∧ 0 ≤ s ∧ s < 4294967296 ∧ 0 ≤ o ∧ o ≤ 1 ∧ s + 4294967296 * o = x + y + c

theorem add32 (x y c : Int) (w : World) (hx : 0 ≤ x) (hx' : x < 4294967296) (hy : 0 ≤ y) (hy' : y < 4294967296) (hc : 0 ≤ c) (hc' : c ≤ 1) :
    Calls Try.prog 8 #[.int .u32 x, .int .u32 y, .int .u32 c] w (Add32Post x y c w) := by
  go_enter Try.func8, Try.ntmps8
  go_wp2
  go_ret2
  refine ⟨_, _, rfl, rfl, ?_⟩
  omega
end Go.Proofs.Ytjffncbjcidbmaa
