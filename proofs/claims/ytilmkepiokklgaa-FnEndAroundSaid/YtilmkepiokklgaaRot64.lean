/-
  What impl.RotateLeft64 returns: the number rotated by the count modulo 64.
-/
import Derived.Test.YtilmkepiokklgaaBase
namespace Go.Proofs.Ytilmkepiokklgaa
open Go.RowKit

def Rot64Post (x k : Int) (w : World) (e : Ending) (w' : World) : Prop :=
  ∃ r : Nat, e = .returned (.int .u64 (r : Int)) ∧ w = w' ∧ r = Roads.rot 64 (k % 64).toNat x.toNat ∧ r < 18446744073709551616

theorem rot64_count (k : Int) : bits .and .u64 (IntKind.u64.wrap k) 63 = k % 64 := by
  rw [IntKind.wrap_u64]
  obtain ⟨K, hK⟩ := Int.eq_ofNat_of_zero_le (Int.emod_nonneg k (by decide : (18446744073709551616 : Int) ≠ 0))
  rw [hK, show (63 : Int) = ((63 : Nat) : Int) from rfl, u64_and_nat K 63 (by omega) (by omega), nat_mask6]
  omega

theorem rot64_value (x : Nat) (s : Nat) (hs : s < 64) (hx : x < 18446744073709551616) :
    bits .or .u64 (IntKind.u64.wrap ((x : Int) * 2 ^ s)) ((x : Int) / 2 ^ (64 - s)) = (Roads.rot 64 s x : Int) := by
  have l2 : x / 2 ^ (64 - s) < 18446744073709551616 := Nat.lt_of_le_of_lt (Nat.div_le_self _ _) hx
  have c1 : IntKind.u64.wrap ((x : Int) * 2 ^ s) = ((x * 2 ^ s % 2 ^ 64 : Nat) : Int) := by rw [IntKind.wrap_u64]; simp
  have c2 : (x : Int) / 2 ^ (64 - s) = ((x / 2 ^ (64 - s) : Nat) : Int) := by simp
  rw [c1, c2, u64_or_nat _ _ (Nat.mod_lt _ (by decide)) l2, Roads.rot_sum 64 s x (by omega) hx]
  rfl

theorem rot64 (x k : Int) (w : World) (hx : 0 ≤ x) (hx' : x < 18446744073709551616) :
    Calls Try.prog 13 #[.int .u64 x, .int .i64 k] w (Rot64Post x k w) := by
  obtain ⟨X, rfl⟩ := Int.eq_ofNat_of_zero_le hx
  obtain ⟨s, hs⟩ := Int.eq_ofNat_of_zero_le (Int.emod_nonneg k (by decide : (64 : Int) ≠ 0))
  have hc := rot64_count k
  rw [hs] at hc
  have hs' : s < 64 := by omega
  have hv := rot64_value X s hs' (by omega)
  have V := hide hv; clear hv
  have S := hide hs; clear hs
  go_enter Try.func13, Try.ntmps13
  go_wp2
  go_ret
  refine ⟨_, ?_, rfl, rfl, ?_⟩
  · rw [S.out, Int.toNat_natCast, Int.toNat_natCast, V.out]; rfl
  · exact Roads.rot_lt 64 _ _ (by omega) (by omega)
end Go.Proofs.Ytilmkepiokklgaa
