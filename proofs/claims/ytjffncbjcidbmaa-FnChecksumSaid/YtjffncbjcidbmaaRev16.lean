/-
  What impl.ReverseBytes16 returns: the two bytes exchanged.
-/
import Derived.Test.YtjffncbjcidbmaaBase
namespace Go.Proofs.Ytjffncbjcidbmaa
open Go.RowKit

def Rev16Post (x : Int) (w : World) (e : Ending) (w' : World) : Prop :=
  ∃ r : Int, e = .returned (.int .u16 r) ∧ w = w' ∧ 0 ≤ r ∧ r ≤ 65535 ∧ r = x % 256 * 256 + x / 256

theorem rev16 (x : Int) (w : World) (hx : 0 ≤ x) (hx' : x ≤ 65535) :
    Calls Try.prog 9 #[.int .u16 x] w (Rev16Post x w) := by
  obtain ⟨X, rfl⟩ := Int.eq_ofNat_of_zero_le hx
  go_enter Try.func9, Try.ntmps9
  go_wp2
  go_ret
  refine ⟨_, rfl, rfl, ?_⟩
  have e1 : (X : Int) / 256 = ((X / 256 : Nat) : Int) := by omega
  have e2 : IntKind.u16.wrap ((X : Int) * 256) = ((X % 256 * 2 ^ 8 : Nat) : Int) := by rw [IntKind.wrap_u16]; omega
  have e3 : (X / 256) ||| (X % 256 * 2 ^ 8) = X / 256 + X % 256 * 2 ^ 8 := by
    have := Nat.two_pow_add_eq_or_of_lt (show X / 256 < 2 ^ 8 by omega) (X % 256)
    rw [Nat.mul_comm (X % 256), Nat.or_comm, ← this, Nat.add_comm]
  rw [e1, e2, u16_or_nat _ _ (by omega) (by omega), e3]
  omega
end Go.Proofs.Ytjffncbjcidbmaa
