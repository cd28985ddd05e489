/-
  impl.OnesCount64 once more: the world is as it was.
-/
import Derived.Test.YtgjniomloooccaaDoorPop64
namespace Go.Proofs.YtgjniomloooccaaDoor
open Go.RowKit
theorem pop64_same (X r : Nat) (hr : Hid (r = Roads.pop 64 X)) (w : World) (hX : X < 18446744073709551616) :
    Calls Tryd.prog 14 #[.int .u64 X] w fun e w' => e = .returned (.int .i64 (r : Int)) ∧ w' = w := by
  obtain ⟨A1, A0, Y, D, C, Z, R, S, T, U, h1, h2, h3, h4, h5, h6, h7, h8, h9, h10, h11, h12, h13, h14, h15, h16, h17⟩ := pop64_steps X hX
  rw [← hr.out] at h17
  have H := hide h17; clear h17
  go_enter Tryd.func14, Tryd.ntmps14
  go_wp2
  go_ret
  refine ⟨?_, rfl⟩
  rw [← H.out]; rfl
end Go.Proofs.YtgjniomloooccaaDoor
