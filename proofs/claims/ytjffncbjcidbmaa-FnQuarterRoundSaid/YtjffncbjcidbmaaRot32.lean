/-
  What impl.RotateLeft32 returns: the number rotated by the count modulo 32.
-/
import Derived.Test.YtjffncbjcidbmaaBase
namespace Go.Proofs.Ytjffncbjcidbmaa
open Go.RowKit

def Rot32Post (x k : Int) (w : World) (e : Ending) (w' : World) : Prop :=
  ∃ r : Nat, e = .returned (.int .u32 (r : Int)) ∧ w = w' ∧ r = Roads.rot 32 (k % 32).toNat x.toNat ∧ r < 4294967296

theorem rot32_count (k : Int) : bits .and .u64 (IntKind.u64.wrap k) 31 = k % 32 := by
  rw [IntKind.wrap_u64]
  obtain ⟨K, hK⟩ := Int.eq_ofNat_of_zero_le (Int.emod_nonneg k (by decide : (18446744073709551616 : Int) ≠ 0))
  rw [hK, show (31 : Int) = ((31 : Nat) : Int) from rfl, u64_and_nat K 31 (by omega) (by omega), nat_mask5]
  omega

theorem rot32_value (x : Nat) (s : Nat) (hs : s < 32) (hx : x < 4294967296) :
    bits .or .u32 ((x : Int) * 2 ^ s % 4294967296) ((x : Int) / 2 ^ (32 - s)) = (Roads.rot 32 s x : Int) := by
  have l2 : x / 2 ^ (32 - s) < 4294967296 := Nat.lt_of_le_of_lt (Nat.div_le_self _ _) hx
  have c1 : (x : Int) * 2 ^ s % 4294967296 = ((x * 2 ^ s % 2 ^ 32 : Nat) : Int) := by simp
  have c2 : (x : Int) / 2 ^ (32 - s) = ((x / 2 ^ (32 - s) : Nat) : Int) := by simp
  rw [c1, c2, u32_or_nat _ _ (Nat.mod_lt _ (by decide)) l2, Roads.rot_sum 32 s x (by omega) hx]
  rfl

theorem rot32 (x k : Int) (w : World) (hx : 0 ≤ x) (hx' : x < 4294967296) :
    Calls Try.prog 13 #[.int .u32 x, .int .i64 k] w (Rot32Post x k w) := by
  obtain ⟨X, rfl⟩ := Int.eq_ofNat_of_zero_le hx
  obtain ⟨s, hs⟩ := Int.eq_ofNat_of_zero_le (Int.emod_nonneg k (by decide : (32 : Int) ≠ 0))
  have hc := rot32_count k
  rw [hs] at hc
  have hs' : s < 32 := by omega
  have hv := rot32_value X s hs' (by omega)
  have V := hide hv; clear hv
  have S := hide hs; clear hs
  go_enter Try.func13, Try.ntmps13
  go_wp2
  go_ret
  refine ⟨_, ?_, rfl, rfl, ?_⟩
  · rw [S.out, Int.toNat_natCast, Int.toNat_natCast, V.out]; rfl
  · exact Roads.rot_lt 32 _ _ (by omega) (by omega)
end Go.Proofs.Ytjffncbjcidbmaa
