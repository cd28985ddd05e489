/-
  What impl.OnesCount32 returns: the ones.
-/
import Derived.Test.YtjffncbjcidbmaaDoorBase
import Derived.Lib.BitFns
import Derived.Deep.QuietTactic
import Derived.BigQuiet
namespace Go.Proofs.YtjffncbjcidbmaaDoor
open Go.RowKit

def Pop32Post (x : Int) (w : World) (e : Ending) (w' : World) : Prop :=
  ∃ r n : Nat, e = .returned (.int .i64 (r : Int)) ∧ w' = w.drewN n ∧ r = Roads.pop 32 x.toNat ∧ r ≤ 32

theorem pop8_is : ∀ b : Fin 256, Lib.pop8 (b.val : Int) = (Roads.pop 8 b.val : Int) := by decide +kernel
theorem pop8_of (b : Int) (h0 : 0 ≤ b) (h1 : b ≤ 255) : Lib.pop8 b = (Roads.pop 8 b.toNat : Int) := by
  have := pop8_is ⟨b.toNat, by omega⟩
  simp only at this
  rw [← this, Int.toNat_of_nonneg h0]

theorem mask32_255 (a : Int) (h0 : 0 ≤ a) (h1 : a < 4294967296) : bits .and .u32 a 255 = a % 256 := by
  obtain ⟨A, rfl⟩ := Int.eq_ofNat_of_zero_le h0
  rw [show (255 : Int) = ((255 : Nat) : Int) from rfl, u32_and_nat A 255 (by omega) (by omega), nat_mask8]
  omega

theorem pop32_sum (x : Int) (h0 : 0 ≤ x) (h1 : x < 4294967296) :
    0 ≤ Lib.pop8 (x / 16777216) ∧ Lib.pop8 (x / 16777216) ≤ 8 ∧ 0 ≤ Lib.pop8 (x / 65536 % 256) ∧ Lib.pop8 (x / 65536 % 256) ≤ 8 ∧ 0 ≤ Lib.pop8 (x / 256 % 256) ∧ Lib.pop8 (x / 256 % 256) ≤ 8 ∧ 0 ≤ Lib.pop8 (x % 256) ∧ Lib.pop8 (x % 256) ≤ 8 ∧
    Lib.pop8 (x / 16777216) + Lib.pop8 (x / 65536 % 256) + Lib.pop8 (x / 256 % 256) + Lib.pop8 (x % 256) = (Roads.pop 32 x.toNat : Int) := by
  rw [pop8_of (x / 16777216) (by omega) (by omega), pop8_of (x / 65536 % 256) (by omega) (by omega), pop8_of (x / 256 % 256) (by omega) (by omega), pop8_of (x % 256) (by omega) (by omega)]
  have a : Roads.pop 32 x.toNat = _ := Roads.pop_add 8 24 x.toNat
  have b : Roads.pop 24 (x.toNat / 2 ^ 8) = _ := Roads.pop_add 8 16 (x.toNat / 2 ^ 8)
  have c : Roads.pop 16 (x.toNat / 2 ^ 8 / 2 ^ 8) = _ := Roads.pop_add 8 8 (x.toNat / 2 ^ 8 / 2 ^ 8)
  have m1 := Roads.pop_mod 8 x.toNat
  have m2 := Roads.pop_mod 8 (x.toNat / 2 ^ 8)
  have m3 := Roads.pop_mod 8 (x.toNat / 2 ^ 8 / 2 ^ 8)
  rw [show (x / 16777216).toNat = x.toNat / 2 ^ 8 / 2 ^ 8 / 2 ^ 8 by omega, show (x / 65536 % 256).toNat = x.toNat / 2 ^ 8 / 2 ^ 8 % 2 ^ 8 by omega, show (x / 256 % 256).toNat = x.toNat / 2 ^ 8 % 2 ^ 8 by omega, show (x % 256).toNat = x.toNat % 2 ^ 8 by omega]
  have l1 := Roads.pop_le 8 (x.toNat / 2 ^ 8 / 2 ^ 8 / 2 ^ 8)
  have l2 := Roads.pop_le 8 (x.toNat / 2 ^ 8 / 2 ^ 8 % 2 ^ 8)
  have l3 := Roads.pop_le 8 (x.toNat / 2 ^ 8 % 2 ^ 8)
  have l4 := Roads.pop_le 8 (x.toNat % 2 ^ 8)
  omega

theorem pop32 (x : Int) (w : World) (hx : 0 ≤ x) (hx' : x < 4294967296) :
    Calls Tryd.prog 9 #[.int .u32 x] w (Pop32Post x w) := by
  have m1 := mask32_255 (x / 65536) (by omega) (by omega)
  have m2 := mask32_255 (x / 256) (by omega) (by omega)
  have m3 := mask32_255 x (by omega) (by omega)
  obtain ⟨l1, u1, l2, u2, l3, u3, l4, u4, s⟩ := pop32_sum x hx hx'
  have S := hide s; clear s
  have b1 : 0 ≤ x / 16777216 := by omega
  have b2 : x / 16777216 ≤ 255 := by omega
  have b3 : 0 ≤ x / 65536 % 256 := by omega
  have b4 : x / 65536 % 256 ≤ 255 := by omega
  have b5 : 0 ≤ x / 256 % 256 := by omega
  have b6 : x / 256 % 256 ≤ 255 := by omega
  have b7 : 0 ≤ x % 256 := by omega
  have b8 : x % 256 ≤ 255 := by omega
  go_enter Tryd.func9, Tryd.ntmps9
  go_wp2
  go_quiet (fail)
  go_wp2
  go_ret
  refine ⟨_, _, ?_, rfl, rfl, Roads.pop_le _ _⟩
  rw [← S.out]; rfl
end Go.Proofs.YtjffncbjcidbmaaDoor
