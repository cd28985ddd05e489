/-
  What impl.Sub32 returns: the difference and what is borrowed.
-/
import Derived.Test.YtjffncbjcidbmaaBase
namespace Go.Proofs.Ytjffncbjcidbmaa
open Go.RowKit

def Sub32Post (x y b : Int) (w : World) (e : Ending) (w' : World) : Prop :=
  ∃ d o : Int, e = .returned (.tuple #[.int .u32 d, .int .u32 o]) ∧ w = w' ∧ 0 ≤ d ∧ d < 4294967296 ∧ 0 ≤ o ∧ o ≤ 1 ∧ d + y + b = x + 4294967296 * o

theorem sub32_bits (x y d : Nat) (hx : x < 4294967296) (hy : y < 4294967296) (hd : d < 4294967296) :
    bits .or .u32 (bits .and .u32 (bits .xor .u32 IntKind.u32.max (x : Int)) (y : Int)) (bits .and .u32 (bits .xor .u32 IntKind.u32.max (bits .xor .u32 (x : Int) (y : Int))) (d : Int)) =
      (((((2 ^ (31 + 1) - 1 - x) &&& y) ||| ((2 ^ (31 + 1) - 1 - (x ^^^ y)) &&& d) : Nat)) : Int) := by
  have m : IntKind.u32.max = ((4294967295 : Nat) : Int) := by decide
  have hxy : x ^^^ y < 4294967296 := Nat.xor_lt_two_pow (n := 32) hx hy
  have e1 : 4294967295 ^^^ x = 2 ^ (31 + 1) - 1 - x := Roads.ones_xor 32 x hx
  have e2 : 4294967295 ^^^ (x ^^^ y) = 2 ^ (31 + 1) - 1 - (x ^^^ y) := Roads.ones_xor 32 (x ^^^ y) hxy
  have l1 : (2 ^ (31 + 1) - 1 - x) &&& y < 4294967296 := Nat.lt_of_le_of_lt Nat.and_le_right hy
  have l2 : (2 ^ (31 + 1) - 1 - (x ^^^ y)) &&& d < 4294967296 := Nat.lt_of_le_of_lt Nat.and_le_right hd
  rw [m, u32_xor_nat _ _ (by omega) hx, u32_xor_nat _ _ hx hy, u32_xor_nat _ _ (by omega) hxy, e1, e2, u32_and_nat _ _ (by omega) hy, u32_and_nat _ _ (by omega) hd, u32_or_nat _ _ l1 l2]

theorem sub32_out (x y b : Int) (hx : 0 ≤ x) (hx' : x < 4294967296) (hy : 0 ≤ y) (hy' : y < 4294967296) (hb : 0 ≤ b) (hb' : b ≤ 1) :
    (bits .or .u32 (bits .and .u32 (bits .xor .u32 IntKind.u32.max x) y) (bits .and .u32 (bits .xor .u32 IntKind.u32.max (bits .xor .u32 x y)) ((x - y - b) % 4294967296))) / 2147483648 = if x < y + b then 1 else 0 := by
  obtain ⟨X, rfl⟩ := Int.eq_ofNat_of_zero_le hx
  obtain ⟨Y, rfl⟩ := Int.eq_ofNat_of_zero_le hy
  obtain ⟨B, rfl⟩ := Int.eq_ofNat_of_zero_le hb
  obtain ⟨D, hD⟩ := Int.eq_ofNat_of_zero_le (Int.emod_nonneg ((X : Int) - Y - B) (by decide : (4294967296 : Int) ≠ 0))
  rw [hD, sub32_bits X Y D (by omega) (by omega) (by omega)]
  have t := Roads.borrow_top 31 X Y D B (if X < Y + B then 1 else 0) (by omega) (by omega) (by omega) (by omega) (by split <;> omega) (by split <;> omega)
  rw [show (2147483648 : Int) = ((2 ^ 31 : Nat) : Int) from rfl, ← Int.natCast_ediv, t]
  split <;> split <;> omega

theorem sub32 (x y b : Int) (w : World) (hx : 0 ≤ x) (hx' : x < 4294967296) (hy : 0 ≤ y) (hy' : y < 4294967296) (hb : 0 ≤ b) (hb' : b ≤ 1) :
    Calls Try.prog 12 #[.int .u32 x, .int .u32 y, .int .u32 b] w (Sub32Post x y b w) := by
  have o := sub32_out x y b hx hx' hy hy' hb hb'
  have O := hide o; clear o
  have hs : IntKind.u32.signed = false := rfl
  go_enter Try.func12, Try.ntmps12
  go_wp2
  go_ret2
  refine ⟨_, _, rfl, rfl, ?_⟩
  rw [O.out]
  split <;> omega
end Go.Proofs.Ytjffncbjcidbmaa
