/-
  What impl.Sub returns: the difference and what is borrowed.
-/
import Derived.Test.YtgjniomloooccaaDoorBase
import Derived.Laws.Externs
import Derived.Shelf.Spec.BitsCarry
namespace Go.Proofs.YtgjniomloooccaaDoor
open Go.RowKit

def SubuPost (x y b : Int) (w : World) (e : Ending) (w' : World) : Prop :=
  ∃ d o : Int, e = .returned (.tuple #[.int .u64 d, .int .u64 o]) ∧ w = w' ∧ 0 ≤ d ∧ d < 18446744073709551616 ∧ 0 ≤ o ∧ o ≤ 1 ∧ d + y + b = x + 18446744073709551616 * o

theorem subu_call (x y b : Int) (hx : 0 ≤ x) (hx' : x < 18446744073709551616) (hy : 0 ≤ y) (hy' : y < 18446744073709551616) (hb : 0 ≤ b) (hb' : b ≤ 1) (w : World) :
    (callFunc 28 #[.int .u64 x, .int .u64 y, .int .u64 b]).run Tryd.prog w =
      .ok (.value (.tuple #[.int .u64 ((x - y - b) % 18446744073709551616), .int .u64 (if x < y + b then 1 else 0)])) w := by
  obtain ⟨X, rfl⟩ := Int.eq_ofNat_of_zero_le hx
  obtain ⟨Y, rfl⟩ := Int.eq_ofNat_of_zero_le hy
  obtain ⟨B, rfl⟩ := Int.eq_ofNat_of_zero_le hb
  have e1 : (((X + 18446744073709551616 - Y - B) % 18446744073709551616 : Nat) : Int) = ((X : Int) - Y - B) % 18446744073709551616 := by omega
  have e2 : ((if X < Y + B then 1 else 0 : Nat) : Int) = if (X : Int) < Y + B then 1 else 0 := by split <;> split <;> omega
  rw [run_callFunc_extern Tryd.func28 (by kernel_rfl) (by kernel_rfl) (by kernel_rfl) (e := sub64Entry) (by kernel_rfl), run_sub64 X Y B (by omega), e1, e2]
  rfl

theorem subu (x y b : Int) (w : World) (hx : 0 ≤ x) (hx' : x < 18446744073709551616) (hy : 0 ≤ y) (hy' : y < 18446744073709551616) (hb : 0 ≤ b) (hb' : b ≤ 1) :
    Calls Tryd.prog 19 #[.int .u64 x, .int .u64 y, .int .u64 b] w (SubuPost x y b w) := by
  obtain ⟨d, hd⟩ : ∃ d, (x - y - b) % 18446744073709551616 = d := ⟨_, rfl⟩
  obtain ⟨o, ho⟩ : ∃ o : Int, (if x < y + b then 1 else 0) = o := ⟨_, rfl⟩
  have r := subu_call x y b hx hx' hy hy' hb hb' w
  rw [hd, ho] at r
  have HD := hide hd; clear hd
  have HO := hide ho; clear ho
  go_enter Tryd.func19, Tryd.ntmps19
  go_wp2
  go_ret2
  refine ⟨d, o, rfl, rfl, ?_⟩
  have hd := HD.out
  have ho := HO.out
  split at ho <;> omega
end Go.Proofs.YtgjniomloooccaaDoor
