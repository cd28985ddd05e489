/-
  What impl.TrailingZeros64 returns where the library's table holds what its initialiser lays.
-/
import Derived.Test.YtgjniomloooccaaDoorBase
import Derived.Lib.TrailingZeros
import Derived.Laws.Bits64b
namespace Go.Proofs.YtgjniomloooccaaDoor
open Go.RowKit

/-- The table in its variable. -/
def Tab64 (w : World) : Prop := ∀ j, j < 64 → w.cell? ⟨0, j, none⟩ = some (.int .u8 (Lib.deBruijn64tab.getD j 0 : Nat))
theorem tab64_drewN {w : World} (h : Tab64 w) (n : Nat) : Tab64 (w.drewN n) := h

theorem tz64_key (x a : Nat) (hx : x < 18446744073709551616) (hx0 : x ≠ 0) (hlow : x &&& (18446744073709551616 - x) = a) :
    IntKind.u64.wrap (bits BinOp.and IntKind.u64 (x : Int) (IntKind.u64.wrap (-(x : Int))) * 285870213051353865) / 288230376151711744 = ((a * 285870213051353865 % 18446744073709551616 / 288230376151711744 : Nat) : Int) := by
  have e1 : IntKind.u64.wrap (-(x : Int)) = ((18446744073709551616 - x : Nat) : Int) := by rw [IntKind.wrap_u64]; omega
  rw [e1, u64_and_nat x _ hx (by omega), hlow, IntKind.wrap_u64]
  omega

theorem tz64_core (x k idx : Nat) (w : World) (hx0 : ((x : Int) == 0) = false)
    (key : IntKind.u64.wrap (bits BinOp.and IntKind.u64 (x : Int) (IntKind.u64.wrap (-(x : Int))) * 285870213051353865) / 288230376151711744 = (idx : Int))
    (hi : idx < 64) (hk : k < 64) (hcell : w.cell? ⟨0, idx, none⟩ = some (.int .u8 k)) :
    Calls Tryd.prog 13 #[.int .u64 x] w fun e w' => e = .returned (.int .i64 k) ∧ w = w' := by
  go_enter Tryd.func13, Tryd.ntmps13
  go_wp2_with (first | go_in | (simp only [key]))
  go_ret
  exact ⟨rfl, rfl⟩

theorem tz64_zero (w : World) :
    Calls Tryd.prog 13 #[.int .u64 0] w fun e w' => e = .returned (.int .i64 64) ∧ w = w' := by
  go_enter Tryd.func13, Tryd.ntmps13
  go_wp2
  go_ret
  exact ⟨rfl, rfl⟩

theorem tz64_pos (x : Int) (w : World) (hx : 0 < x) (hx' : x < 18446744073709551616) (hT : Tab64 w) :
    Calls Tryd.prog 13 #[.int .u64 x] w fun e w' => ∃ k : Nat, e = .returned (.int .i64 k) ∧ w = w' ∧ Roads.IsTz x.toNat k ∧ k < 64 := by
  obtain ⟨X, rfl⟩ := Int.eq_ofNat_of_zero_le (show 0 ≤ x by omega)
  have hX : X < 18446744073709551616 := by omega
  obtain ⟨hlow, hk⟩ := Lib.lowest_bit 64 X (by omega) hX
  obtain ⟨hi, htab⟩ := Lib.deBruijn64_at _ hk
  have hcell := hT _ hi
  rw [htab] at hcell
  have key := tz64_key X _ hX (by omega) hlow
  refine (tz64_core X _ _ w (beq_eq_false_iff_ne.mpr (by omega)) key hi hk hcell).mono ?_
  rintro e w' ⟨rfl, rfl⟩
  refine ⟨_, rfl, rfl, ?_, hk⟩
  obtain ⟨m, hm, _⟩ := Lib.ctzFrom_spec 64 X (by omega) hX
  have e : Lib.ctz 64 X = Lib.ctzFrom 64 X := by unfold Lib.ctz; rw [if_neg (by omega)]
  exact ⟨m, by rw [Int.toNat_natCast, e]; exact hm⟩
end Go.Proofs.YtgjniomloooccaaDoor
