/-
  For all x, y, z of type uint, laws.FnProductsRise returns true. The walk.
-/
import Derived.Test.YtcjmddlhbpkmlaaMulu
import Derived.WalkKit
import Derived.ProofKit
import Derived.OpenShut
namespace Go.Proofs.Ytcjmddlhbpkmlaa.fnProductsRise
open Go.ChangeShapes Go.WideShapes Go.ChangeAt Go.RowKit
set_option linter.unusedVariables false

theorem rise {x y z a b c d : Int} (hx : 0 ≤ x) (hxy : x ≤ y) (hz : 0 ≤ z) (hb : 0 ≤ b) (hb' : b < 18446744073709551616) (hd : 0 ≤ d) (hd' : d < 18446744073709551616)
    (h1 : a * 18446744073709551616 + b = x * z) (h2 : c * 18446744073709551616 + d = y * z) : (a < c ∨ a = c ∧ b ≤ d) ∧ ((a = c ∧ b = d) ↔ (x = y ∨ z = 0)) := by
  have m : x * z ≤ y * z := Int.mul_le_mul_of_nonneg_right hxy hz
  refine ⟨by omega, ⟨?_, ?_⟩⟩
  · rintro ⟨rfl, rfl⟩
    rw [h1] at h2
    by_cases z0 : z = 0
    · exact Or.inr z0
    · exact Or.inl (Int.eq_of_mul_eq_mul_right z0 h2)
  · rintro (rfl | rfl)
    · omega
    · simp only [Int.mul_zero] at h1 h2; omega

theorem walk (x y z : Int) (w0 : (Lit.int .u64 x).wf = true) (w1 : (Lit.int .u64 y).wf = true) (w2 : (Lit.int .u64 z).wf = true) (w : World) :
    Calls Try.prog 5 #[.int .u64 x, .int .u64 y, .int .u64 z] w fun e w' => e = .returned (.bool true) ∧ Grown w w' := by
  obtain ⟨hx, hx'⟩ := bounds_u64 w0
  obtain ⟨hy, hy'⟩ := bounds_u64 w1
  obtain ⟨hz, hz'⟩ := bounds_u64 w2
  by_cases hlt : y < x
  · go_enter Try.func5, Try.ntmps5
    go_wp2_with fail
    refine (mulu _ _ _ (by omega) (by omega) (by omega) (by omega)).mono ?_
    rintro e w' ⟨a, b, rfl, rfl, a1, a2, a3, a4, a5⟩
    have A := hide a5; clear a5
    go_wp2_with fail
    refine (mulu _ _ _ (by omega) (by omega) (by omega) (by omega)).mono ?_
    rintro e w' ⟨c, d, rfl, rfl, c1, c2, c3, c4, c5⟩
    have R := hide (rise hy (by omega) hz a3 a4 c3 c4 A.out c5); clear c5 A
    go_wp2
    all_goals (go_ret; refine said ?_ (Grown.refl _))
    all_goals (obtain ⟨r1, r2⟩ := R.out; first | rfl | (exfalso; omega) | (rw [beqB]; simp <;> omega) | (simp <;> omega))
  · go_enter Try.func5, Try.ntmps5
    go_wp2_with fail
    refine (mulu _ _ _ (by omega) (by omega) (by omega) (by omega)).mono ?_
    rintro e w' ⟨a, b, rfl, rfl, a1, a2, a3, a4, a5⟩
    have A := hide a5; clear a5
    go_wp2_with fail
    refine (mulu _ _ _ (by omega) (by omega) (by omega) (by omega)).mono ?_
    rintro e w' ⟨c, d, rfl, rfl, c1, c2, c3, c4, c5⟩
    have R := hide (rise hx (by omega) hz a3 a4 c3 c4 A.out c5); clear c5 A
    go_wp2
    all_goals (go_ret; refine said ?_ (Grown.refl _))
    all_goals (obtain ⟨r1, r2⟩ := R.out; first | rfl | (exfalso; omega) | (rw [beqB]; simp <;> omega) | (simp <;> omega))

end Go.Proofs.Ytcjmddlhbpkmlaa.fnProductsRise
