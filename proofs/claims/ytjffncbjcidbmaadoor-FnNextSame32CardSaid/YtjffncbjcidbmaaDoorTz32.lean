/-
  What impl.TrailingZeros32 returns where the library's table holds what its initialiser lays.
-/
import Derived.Test.YtjffncbjcidbmaaDoorBase
import Derived.Lib.TrailingZeros
import Derived.Laws.Bits64b
namespace Go.Proofs.YtjffncbjcidbmaaDoor
open Go.RowKit

/-- The table in its variable. -/
def Tab32 (w : World) : Prop := ∀ j, j < 32 → w.cell? ⟨0, j, none⟩ = some (.int .u8 (Lib.deBruijn32tab.getD j 0 : Nat))
theorem tab32_drewN {w : World} (h : Tab32 w) (n : Nat) : Tab32 (w.drewN n) := h

theorem tz32_key (x a : Nat) (hx : x < 4294967296) (hx0 : x ≠ 0) (hlow : x &&& (4294967296 - x) = a) :
    bits BinOp.and IntKind.u32 (x : Int) (-(x : Int) % 4294967296) * 125613361 % 4294967296 / 134217728 = ((a * 125613361 % 4294967296 / 134217728 : Nat) : Int) := by
  have e1 : -(x : Int) % 4294967296 = ((4294967296 - x : Nat) : Int) := by omega
  rw [e1, u32_and_nat x _ hx (by omega), hlow]
  omega

theorem tz32_core (x k idx : Nat) (w : World) (hx0 : ((x : Int) == 0) = false)
    (key : bits BinOp.and IntKind.u32 (x : Int) (-(x : Int) % 4294967296) * 125613361 % 4294967296 / 134217728 = (idx : Int))
    (hi : idx < 32) (hk : k < 32) (hcell : w.cell? ⟨0, idx, none⟩ = some (.int .u8 k)) :
    Calls Tryd.prog 6 #[.int .u32 x] w fun e w' => e = .returned (.int .i64 k) ∧ w = w' := by
  go_enter Tryd.func6, Tryd.ntmps6
  go_wp2_with (first | go_in | (simp only [key]))
  go_ret
  exact ⟨rfl, rfl⟩

theorem tz32_zero (w : World) :
    Calls Tryd.prog 6 #[.int .u32 0] w fun e w' => e = .returned (.int .i64 32) ∧ w = w' := by
  go_enter Tryd.func6, Tryd.ntmps6
  go_wp2
  go_ret
  exact ⟨rfl, rfl⟩

theorem tz32_pos (x : Int) (w : World) (hx : 0 < x) (hx' : x < 4294967296) (hT : Tab32 w) :
    Calls Tryd.prog 6 #[.int .u32 x] w fun e w' => ∃ k : Nat, e = .returned (.int .i64 k) ∧ w = w' ∧ Roads.IsTz x.toNat k ∧ k < 32 := by
  obtain ⟨X, rfl⟩ := Int.eq_ofNat_of_zero_le (show 0 ≤ x by omega)
  have hX : X < 4294967296 := by omega
  obtain ⟨hlow, hk⟩ := Lib.lowest_bit 32 X (by omega) hX
  obtain ⟨hi, htab⟩ := Lib.deBruijn32_at _ hk
  have hcell := hT _ hi
  rw [htab] at hcell
  have key := tz32_key X _ hX (by omega) hlow
  refine (tz32_core X _ _ w (beq_eq_false_iff_ne.mpr (by omega)) key hi hk hcell).mono ?_
  rintro e w' ⟨rfl, rfl⟩
  refine ⟨_, rfl, rfl, ?_, hk⟩
  obtain ⟨m, hm, _⟩ := Lib.ctzFrom_spec 32 X (by omega) hX
  have e : Lib.ctz 32 X = Lib.ctzFrom 32 X := by unfold Lib.ctz; rw [if_neg (by omega)]
  exact ⟨m, by rw [Int.toNat_natCast, e]; exact hm⟩
end Go.Proofs.YtjffncbjcidbmaaDoor
