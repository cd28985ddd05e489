/-
  For every x of 64 bits, laws.FnTenths64 returns true. The walk.
-/
import Derived.Test.YtmfcmnhfbaennaaMul64
import Derived.WalkKit
import Derived.ProofKit
import Derived.OpenShut
namespace Go.Proofs.Ytmfcmnhfbaennaa.fnTenths64
open Go.ChangeShapes Go.WideShapes Go.ChangeAt Go.RowKit
set_option linter.unusedVariables false

theorem walk (x : Int) (w0 : (Lit.int .u64 x).wf = true) (w : World) :
    Calls Try.prog 5 #[.int .u64 x] w fun e w' => e = .returned (.bool true) ∧ Grown w w' := by
  obtain ⟨hx, hx'⟩ := bounds_u64 w0
  go_enter Try.func5, Try.ntmps5
  go_wp2_with fail
  refine (mul64 _ _ _ (by omega) (by omega) (by omega) (by omega)).mono ?_
  rintro e w' ⟨hi, lo, rfl, rfl, h1, h2, h3, h4, h5⟩
  have t : (hi / 8 == x / 10) = true := beq_iff_eq.mpr (by omega)
  clear h5
  go_wp2
  go_ret
  exact said rfl (Grown.refl _)

end Go.Proofs.Ytmfcmnhfbaennaa.fnTenths64
