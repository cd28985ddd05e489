/-
  For all x, y of 32 bits, laws.FnAverage32 returns true. The walk.
-/
import Derived.Test.YtepnmebhfmmegaaAdd32
import Derived.WalkKit
import Derived.ProofKit
import Derived.OpenShut
namespace Go.Proofs.Ytepnmebhfmmegaa.fnAverage32
open Go.ChangeShapes Go.WideShapes Go.ChangeAt Go.RowKit
set_option linter.unusedVariables false

theorem average (x y s o : Int) (hx : 0 ≤ x) (hx' : x < 4294967296) (hy : 0 ≤ y) (hy' : y < 4294967296) (h1 : 0 ≤ s) (h2 : s < 4294967296) (h3 : 0 ≤ o) (h4 : o ≤ 1) (h : s + 4294967296 * o = x + y + 0) :
    (bits .or .u32 (s / 2) (o * 2147483648) == (bits .and .u32 x y + bits .xor .u32 x y / 2) % 4294967296) = true := by
  obtain ⟨X, rfl⟩ := Int.eq_ofNat_of_zero_le hx
  obtain ⟨Y, rfl⟩ := Int.eq_ofNat_of_zero_le hy
  obtain ⟨S, rfl⟩ := Int.eq_ofNat_of_zero_le h1
  obtain ⟨O, rfl⟩ := Int.eq_ofNat_of_zero_le h3
  have a := Roads.average 31 X Y S O (by omega) (by omega) (by omega) (by omega)
  have b := Roads.add_eq 32 X Y (by omega) (by omega)
  rw [show (S : Int) / 2 = ((S / 2 : Nat) : Int) by omega, show (O : Int) * 2147483648 = ((O * 2 ^ 31 : Nat) : Int) by omega, u32_or_nat _ _ (by omega) (by omega), u32_and_nat _ _ (by omega) (by omega), u32_xor_nat _ _ (by omega) (by omega), a, beq_iff_eq]
  omega

theorem walk (x y : Int) (w0 : (Lit.int .u32 x).wf = true) (w1 : (Lit.int .u32 y).wf = true) (w : World) :
    Calls Try.prog 6 #[.int .u32 x, .int .u32 y] w fun e w' => e = .returned (.bool true) ∧ Grown w w' := by
  obtain ⟨hx, hx'⟩ := bounds_u32 w0
  obtain ⟨hy, hy'⟩ := bounds_u32 w1
  go_enter Try.func6, Try.ntmps6
  go_wp2_with fail
  refine (add32 _ _ _ _ (by omega) (by omega) (by omega) (by omega) (by omega) (by omega)).mono ?_
  rintro e w' ⟨s, o, rfl, rfl, h1, h2, h3, h4, h5⟩
  have t := average x y s o hx (by omega) hy (by omega) h1 h2 h3 h4 h5
  clear h5
  go_wp2
  go_ret
  exact said rfl (Grown.refl _)

end Go.Proofs.Ytepnmebhfmmegaa.fnAverage32
