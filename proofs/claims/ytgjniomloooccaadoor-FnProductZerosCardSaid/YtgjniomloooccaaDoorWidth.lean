/-
  What spec.Width returns: 64.
-/
import Derived.Test.YtgjniomloooccaaDoorBase
namespace Go.Proofs.YtgjniomloooccaaDoor
open Go.RowKit
theorem width (w : World) : Calls Tryd.prog 22 #[] w fun e w' => e = .returned (.int .i64 64) ∧ w = w' := by
  go_enter Tryd.func22, Tryd.ntmps22
  go_wp2
  go_ret
  exact ⟨rfl, rfl⟩
theorem width_q (w : World) : Calls Tryd.prog 22 #[] w fun e w' => e = .returned (.int .i64 64) ∧ w' = w :=
  (width w).mono fun _ _ ⟨h, e⟩ => ⟨h, e.symm⟩
end Go.Proofs.YtgjniomloooccaaDoor
