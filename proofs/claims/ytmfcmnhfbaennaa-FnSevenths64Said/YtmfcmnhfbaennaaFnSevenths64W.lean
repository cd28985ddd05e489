/-
  For every x of 64 bits, laws.FnSevenths64 returns true. The walk.
-/
import Derived.Test.YtmfcmnhfbaennaaMul64
import Derived.Test.YtmfcmnhfbaennaaSub64
import Derived.WalkKit
import Derived.ProofKit
import Derived.OpenShut
namespace Go.Proofs.Ytmfcmnhfbaennaa.fnSevenths64
open Go.ChangeShapes Go.WideShapes Go.ChangeAt Go.RowKit
set_option linter.unusedVariables false

theorem sevenths {x hi lo d o : Int} (hx : 0 ≤ x) (hx' : x < 18446744073709551616) (h3 : 0 ≤ lo) (h4 : lo < 18446744073709551616) (h : hi * 18446744073709551616 + lo = x * 2635249153387078803)
    (k1 : 0 ≤ d) (k2 : d < 18446744073709551616) (k3 : 0 ≤ o) (k4 : o ≤ 1) (k : d + hi + 0 = x + 18446744073709551616 * o) : (d / 2 + hi) % 18446744073709551616 / 4 = x / 7 := by
  obtain ⟨q, r, hr, hr', rfl⟩ : ∃ q r : Int, 0 ≤ r ∧ r ≤ 6 ∧ x = 7 * q + r := ⟨x / 7, x % 7, by omega, by omega, by omega⟩
  obtain ⟨u, rfl⟩ : ∃ u, hi = q + u := ⟨hi - q, by omega⟩
  have u0 : 0 ≤ u := by omega
  have u1 : u ≤ 1 := by omega
  have o0 : o = 0 := by omega
  subst o0
  have e : (7 * q + r) / 7 = q := by omega
  rw [e]
  have g1 : 4 * q ≤ d / 2 + (q + u) := by omega
  have g2 : d / 2 + (q + u) < 4 * q + 4 := by omega
  rw [Int.emod_eq_of_lt (by omega) (by omega)]
  omega

theorem walk (x : Int) (w0 : (Lit.int .u64 x).wf = true) (w : World) :
    Calls Try.prog 9 #[.int .u64 x] w fun e w' => e = .returned (.bool true) ∧ Grown w w' := by
  obtain ⟨hx, hx'⟩ := bounds_u64 w0
  go_enter Try.func9, Try.ntmps9
  go_wp2_with fail
  refine (mul64 _ _ _ (by omega) (by omega) (by omega) (by omega)).mono ?_
  rintro e w' ⟨hi, lo, rfl, rfl, h1, h2, h3, h4, h5⟩
  have H := hide h5; clear h5
  go_wp2_with fail
  refine (sub64 _ _ _ _ (by omega) (by omega) (by omega) (by omega) (by omega) (by omega)).mono ?_
  rintro e w' ⟨d, o, rfl, rfl, k1, k2, k3, k4, k5⟩
  have t : (IntKind.u64.wrap (d / 2 + hi) / 4 == x / 7) = true := by rw [IntKind.wrap_u64]; exact beq_iff_eq.mpr (sevenths hx (by omega) h3 h4 H.out k1 k2 k3 k4 k5)
  clear k5 H
  go_wp2
  go_ret
  exact said rfl (Grown.refl _)

end Go.Proofs.Ytmfcmnhfbaennaa.fnSevenths64
