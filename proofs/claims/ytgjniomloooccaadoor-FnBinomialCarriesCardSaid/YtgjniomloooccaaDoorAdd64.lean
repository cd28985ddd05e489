/-
  What impl.Add64 returns: the sum and what is carried.
-/
import Derived.Test.YtgjniomloooccaaDoorBase
import Derived.Laws.Externs
namespace Go.Proofs.YtgjniomloooccaaDoor
open Go.RowKit

def Add64Post (x y c : Int) (w : World) (e : Ending) (w' : World) : Prop :=
  ∃ s o : Int, e = .returned (.tuple #[.int .u64 s, .int .u64 o]) ∧ w = w' ∧ 0 ≤ s ∧ s < 18446744073709551616 ∧ 0 ≤ o ∧ o ≤ 1 ∧ s + 18446744073709551616 * o = x + y + c

theorem add64_call (x y c : Int) (hx : 0 ≤ x) (hy : 0 ≤ y) (hc : 0 ≤ c) (hc' : c ≤ 1) (w : World) :
    (callFunc 25 #[.int .u64 x, .int .u64 y, .int .u64 c]).run Tryd.prog w =
      .ok (.value (.tuple #[.int .u64 ((x + y + c) % 18446744073709551616), .int .u64 ((x + y + c) / 18446744073709551616)])) w := by
  rw [run_callFunc_extern Tryd.func25 (by kernel_rfl) (by kernel_rfl) (by kernel_rfl) (e := add64Entry) (by kernel_rfl), run_add64 x y c hx hy hc hc']
  rfl

theorem add64 (x y c : Int) (w : World) (hx : 0 ≤ x) (hx' : x < 18446744073709551616) (hy : 0 ≤ y) (hy' : y < 18446744073709551616) (hc : 0 ≤ c) (hc' : c ≤ 1) :
    Calls Tryd.prog 15 #[.int .u64 x, .int .u64 y, .int .u64 c] w (Add64Post x y c w) := by
  obtain ⟨s, hs⟩ : ∃ s, (x + y + c) % 18446744073709551616 = s := ⟨_, rfl⟩
  obtain ⟨o, ho⟩ : ∃ o, (x + y + c) / 18446744073709551616 = o := ⟨_, rfl⟩
  have r := add64_call x y c hx hy hc hc' w
  rw [hs, ho] at r
  have HS := hide hs; clear hs
  have HO := hide ho; clear ho
  go_enter Tryd.func15, Tryd.ntmps15
  go_wp2
  go_ret2
  refine ⟨s, o, rfl, rfl, ?_⟩
  have hs := HS.out
  have ho := HO.out
  omega
end Go.Proofs.YtgjniomloooccaaDoor
