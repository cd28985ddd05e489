/-
  For all x, y of type uint, laws.FnUintMul returns true. The walk.
-/
import Derived.Test.YtcjmddlhbpkmlaaMulu
import Derived.Test.YtcjmddlhbpkmlaaMul64
import Derived.Test.YtcjmddlhbpkmlaaWidth
import Derived.WalkKit
import Derived.ProofKit
import Derived.OpenShut
namespace Go.Proofs.Ytcjmddlhbpkmlaa.fnUintMul
open Go.ChangeShapes Go.WideShapes Go.ChangeAt Go.RowKit
set_option linter.unusedVariables false

set_option maxHeartbeats 1000000 in
theorem walk (x y : Int) (w0 : (Lit.int .u64 x).wf = true) (w1 : (Lit.int .u64 y).wf = true) (w : World) :
    Calls Try.prog 8 #[.int .u64 x, .int .u64 y] w fun e w' => e = .returned (.bool true) ∧ Grown w w' := by
  obtain ⟨hx, hx'⟩ := bounds_u64 w0
  obtain ⟨hy, hy'⟩ := bounds_u64 w1
  go_enter Try.func8, Try.ntmps8
  go_wp2_with fail
  refine (width _).mono ?_
  rintro e w' ⟨rfl, rfl⟩
  go_wp2_with fail
  refine (mulu _ _ _ (by omega) (by omega) (by omega) (by omega)).mono ?_
  rintro e w' ⟨s, o, rfl, rfl, s0, s1, o0, o1, h1⟩
  have H1 := hide h1; clear h1
  go_wp2_with fail
  refine (mul64 _ _ _ (by omega) (by omega) (by omega) (by omega)).mono ?_
  rintro e w' ⟨s', o', rfl, rfl, s0', s1', o0', o1', h2⟩
  have R : s' = s ∧ o' = o := by have := H1.out; omega
  obtain ⟨rfl, rfl⟩ := R
  clear h2 H1
  go_wp2_with fail
  refine (mulu _ _ _ (by omega) (by omega) (by omega) (by omega)).mono ?_
  rintro e w' ⟨q, t, rfl, rfl, q0, q1, t0, t1, h3⟩
  obtain rfl : t = 1 := by omega
  clear h3
  go_wp2
  go_ret
  exact said rfl (Grown.refl _)

end Go.Proofs.Ytcjmddlhbpkmlaa.fnUintMul
