/-
  What impl.RotateLeft returns: the number rotated by the count modulo 64.
-/
import Derived.Test.YtcjmddlhbpkmlaaBase
namespace Go.Proofs.Ytcjmddlhbpkmlaa
open Go.RowKit

def RotuPost (x k : Int) (w : World) (e : Ending) (w' : World) : Prop :=
  ∃ r : Nat, e = .returned (.int .u64 (r : Int)) ∧ w = w' ∧ r = Roads.rot 64 (k % 64).toNat x.toNat ∧ r < 18446744073709551616

theorem rotu_count (k : Int) : bits .and .u64 (IntKind.u64.wrap k) 63 = k % 64 := by
  rw [IntKind.wrap_u64]
  obtain ⟨K, hK⟩ := Int.eq_ofNat_of_zero_le (Int.emod_nonneg k (by decide : (18446744073709551616 : Int) ≠ 0))
  rw [hK, show (63 : Int) = ((63 : Nat) : Int) from rfl, u64_and_nat K 63 (by omega) (by omega), nat_mask6]
  omega

theorem rotu_value (x : Nat) (s : Nat) (hs : s < 64) (hx : x < 18446744073709551616) :
    bits .or .u64 (IntKind.u64.wrap ((x : Int) * 2 ^ s)) ((x : Int) / 2 ^ (64 - s)) = (Roads.rot 64 s x : Int) := by
  have l2 : x / 2 ^ (64 - s) < 18446744073709551616 := Nat.lt_of_le_of_lt (Nat.div_le_self _ _) hx
  have c1 : IntKind.u64.wrap ((x : Int) * 2 ^ s) = ((x * 2 ^ s % 2 ^ 64 : Nat) : Int) := by rw [IntKind.wrap_u64]; simp
  have c2 : (x : Int) / 2 ^ (64 - s) = ((x / 2 ^ (64 - s) : Nat) : Int) := by simp
  rw [c1, c2, u64_or_nat _ _ (Nat.mod_lt _ (by decide)) l2, Roads.rot_sum 64 s x (by omega) hx]
  rfl

theorem rotb (x k : Int) (w : World) (hx : 0 ≤ x) (hx' : x < 18446744073709551616) :
    Calls Try.prog 42 #[.int .u64 x, .int .i64 k] w (RotuPost x k w) := by
  obtain ⟨X, rfl⟩ := Int.eq_ofNat_of_zero_le hx
  obtain ⟨s, hs⟩ := Int.eq_ofNat_of_zero_le (Int.emod_nonneg k (by decide : (64 : Int) ≠ 0))
  have hc := rotu_count k
  rw [hs] at hc
  have hs' : s < 64 := by omega
  have hv := rotu_value X s hs' (by omega)
  have V := hide hv; clear hv
  have S := hide hs; clear hs
  go_enter Try.func42, Try.ntmps42
  go_wp2
  go_ret
  refine ⟨_, ?_, rfl, rfl, ?_⟩
  · rw [S.out, Int.toNat_natCast, Int.toNat_natCast, V.out]; rfl
  · exact Roads.rot_lt 64 _ _ (by omega) (by omega)
theorem rotu (x k : Int) (w : World) (hx : 0 ≤ x) (hx' : x < 18446744073709551616) :
    Calls Try.prog 26 #[.int .u64 x, .int .i64 k] w (RotuPost x k w) := by
  go_enter Try.func26, Try.ntmps26
  go_wp2_with (first | (go_at_call 42; refine (rotb _ _ _ hx hx').mono ?_; rintro e w' ⟨r, rfl, rfl, hr, lr⟩; have HR := hide hr; clear hr) | go_in)
  go_ret
  exact ⟨r, rfl, rfl, HR.out, lr⟩
end Go.Proofs.Ytcjmddlhbpkmlaa
