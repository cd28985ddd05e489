/-
  For all x, y of type uint, laws.FnAverage returns true. The walk.
-/
import Derived.Test.YtcjmddlhbpkmlaaAddu
import Derived.WalkKit
import Derived.ProofKit
import Derived.OpenShut
namespace Go.Proofs.Ytcjmddlhbpkmlaa.fnAverage
open Go.ChangeShapes Go.WideShapes Go.ChangeAt Go.RowKit
set_option linter.unusedVariables false

theorem average (x y s o : Int) (hx : 0 ≤ x) (hx' : x < 18446744073709551616) (hy : 0 ≤ y) (hy' : y < 18446744073709551616) (h1 : 0 ≤ s) (h2 : s < 18446744073709551616) (h3 : 0 ≤ o) (h4 : o ≤ 1) (h : s + 18446744073709551616 * o = x + y + 0) :
    (bits .or .u64 (s / 2) (o * 9223372036854775808) == IntKind.u64.wrap (bits .and .u64 x y + bits .xor .u64 x y / 2)) = true := by
  rw [IntKind.wrap_u64]
  obtain ⟨X, rfl⟩ := Int.eq_ofNat_of_zero_le hx
  obtain ⟨Y, rfl⟩ := Int.eq_ofNat_of_zero_le hy
  obtain ⟨S, rfl⟩ := Int.eq_ofNat_of_zero_le h1
  obtain ⟨O, rfl⟩ := Int.eq_ofNat_of_zero_le h3
  have a := Roads.average 63 X Y S O (by omega) (by omega) (by omega) (by omega)
  have b := Roads.add_eq 64 X Y (by omega) (by omega)
  rw [show (S : Int) / 2 = ((S / 2 : Nat) : Int) by omega, show (O : Int) * 9223372036854775808 = ((O * 2 ^ 63 : Nat) : Int) by omega, u64_or_nat _ _ (by omega) (by omega), u64_and_nat _ _ (by omega) (by omega), u64_xor_nat _ _ (by omega) (by omega), a, beq_iff_eq]
  omega

theorem walk (x y : Int) (w0 : (Lit.int .u64 x).wf = true) (w1 : (Lit.int .u64 y).wf = true) (w : World) :
    Calls Try.prog 4 #[.int .u64 x, .int .u64 y] w fun e w' => e = .returned (.bool true) ∧ Grown w w' := by
  obtain ⟨hx, hx'⟩ := bounds_u64 w0
  obtain ⟨hy, hy'⟩ := bounds_u64 w1
  go_enter Try.func4, Try.ntmps4
  go_wp2_with fail
  refine (addu _ _ _ _ (by omega) (by omega) (by omega) (by omega) (by omega) (by omega)).mono ?_
  rintro e w' ⟨s, o, rfl, rfl, h1, h2, h3, h4, h5⟩
  have t := average x y s o hx (by omega) hy (by omega) h1 h2 h3 h4 h5
  clear h5
  go_wp2
  go_ret
  exact said rfl (Grown.refl _)

end Go.Proofs.Ytcjmddlhbpkmlaa.fnAverage
