/-
  For every x of type uint and every count k, laws.FnRotateProduct returns true. The walk.
-/
import Derived.Test.YtcjmddlhbpkmlaaMulu
import Derived.Test.YtcjmddlhbpkmlaaRotu
import Derived.Test.YtcjmddlhbpkmlaaWidth
import Derived.WalkKit
import Derived.ProofKit
import Derived.OpenShut
namespace Go.Proofs.Ytcjmddlhbpkmlaa.fnRotateProduct
open Go.ChangeShapes Go.WideShapes Go.ChangeAt Go.RowKit
set_option linter.unusedVariables false

theorem ends {X s r : Nat} {hi lo : Int} (hX : X < 18446744073709551616) (ls : s < 64) (h1 : 0 ≤ hi) (h2 : hi < 18446744073709551616) (h3 : 0 ≤ lo) (h4 : lo < 18446744073709551616) (h : hi * 18446744073709551616 + lo = X * 2 ^ s) (hr : r = Roads.rot 64 s X) :
    (bits .or .u64 hi lo == (r : Int)) = true := by
  obtain ⟨HI, rfl⟩ := Int.eq_ofNat_of_zero_le h1
  obtain ⟨LO, rfl⟩ := Int.eq_ofNat_of_zero_le h3
  rw [← pow_cast, ← Int.natCast_mul] at h
  have e1 : HI = X * 2 ^ s / 2 ^ 64 := by omega
  have e2 : LO = X * 2 ^ s % 2 ^ 64 := by omega
  have e3 : X * 2 ^ s / 2 ^ 64 = X / 2 ^ (64 - s) := by
    rw [Roads.pow_split 64 s (by omega), Nat.mul_div_mul_right _ _ (Nat.two_pow_pos s)]
  rw [u64_or_nat HI LO (by omega) (by omega), beq_iff_eq, hr, e1, e2, e3, Nat.or_comm, Roads.rot_sum 64 s X (by omega) hX]
  rfl

theorem walk (x k : Int) (w0 : (Lit.int .u64 x).wf = true) (w1 : (Lit.int .i64 k).wf = true) (w : World) :
    Calls Try.prog 10 #[.int .u64 x, .int .i64 k] w fun e w' => e = .returned (.bool true) ∧ Grown w w' := by
  obtain ⟨hx, hx'⟩ := bounds_u64 w0
  obtain ⟨hk, hk'⟩ := bounds_i64 w1
  obtain ⟨X, rfl⟩ := Int.eq_ofNat_of_zero_le hx
  obtain ⟨s, hs⟩ := Int.eq_ofNat_of_zero_le (Int.emod_nonneg k (by decide : (64 : Int) ≠ 0))
  have b1 : -64 < k.tmod 64 := by have := Int.lt_tmod_of_pos k (by decide : (0 : Int) < 64); omega
  have b2 : k.tmod 64 < 64 := Int.tmod_lt_of_pos k (by decide)
  have es : (k.tmod 64 + 64) % 64 = (s : Int) := by
    rw [← hs]
    have := Int.mul_tdiv_add_tmod k 64
    omega
  have ls : s < 64 := by omega
  have p1 : (2 : Int) ^ s < 18446744073709551616 := pow_lt ls (by decide)
  have p0 : (0 : Int) ≤ 2 ^ s := Int.le_of_lt (Int.pow_pos (by omega))
  have HS := hide hs; clear hs
  go_enter Try.func10, Try.ntmps10
  go_wp2_with fail
  go_quiet ((go_at_call 19; exact Calls.quiet_of_same (width_q _)))
  go_wp2_with fail
  refine (mulu _ _ _ (by omega) (by omega) (by omega) (by omega)).mono ?_
  rintro e w' ⟨hi, lo, rfl, rfl, h1, h2, h3, h4, h5⟩
  have H := hide h5; clear h5
  go_wp2_with fail
  refine (rotu _ _ _ (by omega) (by omega)).mono ?_
  rintro e w' ⟨r, rfl, rfl, hr, lr⟩
  have t : (bits .or .u64 hi lo == (r : Int)) = true := ends (by omega) ls h1 h2 h3 h4 H.out (by rw [hr, HS.out]; rfl)
  clear hr H HS
  go_wp2_with fail
  refine (rotu _ _ _ (by omega) (by omega)).mono ?_
  rintro e w' ⟨r2, rfl, rfl, hr2, _⟩
  obtain rfl : r2 = 1 := hr2.trans (by decide +kernel)
  clear hr2
  go_wp2
  go_ret
  exact said rfl (Grown.refl _)

end Go.Proofs.Ytcjmddlhbpkmlaa.fnRotateProduct
