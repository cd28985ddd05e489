/-
  What spec.Width returns: 64.
-/
import Derived.Test.YtcjmddlhbpkmlaaBase
namespace Go.Proofs.Ytcjmddlhbpkmlaa
open Go.RowKit
theorem width (w : World) : Calls Try.prog 19 #[] w fun e w' => e = .returned (.int .i64 64) ∧ w = w' := by
  go_enter Try.func19, Try.ntmps19
  go_wp2
  go_ret
  exact ⟨rfl, rfl⟩
theorem width_q (w : World) : Calls Try.prog 19 #[] w fun e w' => e = .returned (.int .i64 64) ∧ w' = w :=
  (width w).mono fun _ _ ⟨h, e⟩ => ⟨h, e.symm⟩
end Go.Proofs.Ytcjmddlhbpkmlaa
