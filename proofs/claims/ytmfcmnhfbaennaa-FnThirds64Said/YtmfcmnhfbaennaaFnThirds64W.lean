/-
  For every x of 64 bits, laws.FnThirds64 returns true. The walk.
-/
import Derived.Test.YtmfcmnhfbaennaaMul64
import Derived.WalkKit
import Derived.ProofKit
import Derived.OpenShut
namespace Go.Proofs.Ytmfcmnhfbaennaa.fnThirds64
open Go.ChangeShapes Go.WideShapes Go.ChangeAt Go.RowKit
set_option linter.unusedVariables false

theorem thirds {x hi lo : Int} (hx : 0 ≤ x) (hx' : x < 18446744073709551616) (h3 : 0 ≤ lo) (h4 : lo < 18446744073709551616) (h : hi * 18446744073709551616 + lo = x * 12297829382473034411) :
    (x % 3 = 0 → lo ≤ 6148914691236517205 ∧ 3 * lo = x) ∧ (¬ x % 3 = 0 → 6148914691236517205 < lo) := by
  obtain ⟨k, r, hr, hr', rfl⟩ : ∃ k r : Int, 0 ≤ r ∧ r ≤ 2 ∧ x = 3 * k + r := ⟨x / 3, x % 3, by omega, by omega, by omega⟩
  obtain ⟨t, rfl⟩ : ∃ t, hi = 2 * k + t := ⟨hi - 2 * k, by omega⟩
  obtain rfl | rfl | rfl : r = 0 ∨ r = 1 ∨ r = 2 := by omega
  · have : lo = k := by omega
    omega
  · have : lo = k + 12297829382473034411 := by omega
    omega
  · have : lo = k + 6148914691236517206 := by omega
    omega

theorem walk (x : Int) (w0 : (Lit.int .u64 x).wf = true) (w : World) :
    Calls Try.prog 6 #[.int .u64 x] w fun e w' => e = .returned (.bool true) ∧ Grown w w' := by
  obtain ⟨hx, hx'⟩ := bounds_u64 w0
  go_enter Try.func6, Try.ntmps6
  go_wp2_with fail
  refine (mul64 _ _ _ (by omega) (by omega) (by omega) (by omega)).mono ?_
  rintro e w' ⟨hi, lo, rfl, rfl, h1, h2, h3, h4, h5⟩
  obtain ⟨t1, t2⟩ := thirds hx (by omega) h3 h4 h5
  clear h5
  by_cases h0 : x % 3 = 0
  · obtain ⟨l, e⟩ := t1 h0
    clear t1 t2
    have e' : (3 * lo == x) = true := beq_iff_eq.mpr e
    clear e
    go_wp2
    go_ret
    exact said rfl (Grown.refl _)
  · have l := t2 h0
    clear t1 t2
    have hb : (x % 3 == 0) = false := beq_eq_false_iff_ne.mpr h0
    have hl : decide (lo ≤ 6148914691236517205) = false := decide_eq_false (Int.not_le.mpr l)
    go_wp2
    go_ret
    exact said rfl (Grown.refl _)

end Go.Proofs.Ytmfcmnhfbaennaa.fnThirds64
