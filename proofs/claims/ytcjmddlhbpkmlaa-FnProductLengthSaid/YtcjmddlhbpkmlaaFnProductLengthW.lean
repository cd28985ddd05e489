/-
  For all x, y of type uint, laws.FnProductLength returns true. The walk.
-/
import Derived.Test.YtcjmddlhbpkmlaaMulu
import Derived.Test.YtcjmddlhbpkmlaaLenu
import Derived.Test.YtcjmddlhbpkmlaaWidth
import Derived.WalkKit
import Derived.ProofKit
import Derived.OpenShut
namespace Go.Proofs.Ytcjmddlhbpkmlaa.fnProductLength
open Go.ChangeShapes Go.WideShapes Go.ChangeAt Go.RowKit
set_option linter.unusedVariables false

theorem zero_l (Y : Nat) (hY : Y < 18446744073709551616) (w : World) :
    Calls Try.prog 14 #[.int .u64 0, .int .u64 Y] w fun e w' => e = .returned (.bool true) ∧ Grown w w' := by
  go_enter Try.func14, Try.ntmps14
  go_wp2_with fail
  refine (mulu _ _ _ (by omega) (by omega) (by omega) (by omega)).mono ?_
  rintro e w' ⟨hi, lo, rfl, rfl, h1, h2, h3, h4, h5⟩
  rw [Int.zero_mul] at h5
  obtain rfl : hi = 0 := by omega
  obtain rfl : lo = 0 := by omega
  clear h5
  go_wp2_with fail
  refine (lenu_zero _).mono ?_
  rintro e w' ⟨rfl, rfl⟩
  go_wp2_with fail
  refine (lenu_one _).mono ?_
  rintro e w' ⟨rfl, rfl⟩
  go_wp2
  go_ret
  exact said rfl (Grown.refl _)

theorem zero_r (X : Nat) (hX : X < 18446744073709551616) (h0 : ((X : Int) == 0) = false) (w : World) :
    Calls Try.prog 14 #[.int .u64 X, .int .u64 0] w fun e w' => e = .returned (.bool true) ∧ Grown w w' := by
  go_enter Try.func14, Try.ntmps14
  go_wp2_with fail
  refine (mulu _ _ _ (by omega) (by omega) (by omega) (by omega)).mono ?_
  rintro e w' ⟨hi, lo, rfl, rfl, h1, h2, h3, h4, h5⟩
  rw [Int.mul_zero] at h5
  obtain rfl : hi = 0 := by omega
  obtain rfl : lo = 0 := by omega
  clear h5
  go_wp2_with fail
  refine (lenu_zero _).mono ?_
  rintro e w' ⟨rfl, rfl⟩
  go_wp2_with fail
  refine (lenu_one _).mono ?_
  rintro e w' ⟨rfl, rfl⟩
  go_wp2
  go_ret
  exact said rfl (Grown.refl _)

theorem ends {X Y a b : Nat} {hi lo : Int} {l m : Nat} (h : hi * 18446744073709551616 + lo = X * Y) (h1 : 0 ≤ hi) (h3 : 0 ≤ lo) (h4 : lo < 18446744073709551616) (hl : Roads.IsLen lo.toNat l) (hm : Roads.IsLen hi.toNat m) (ha : Roads.IsLen X a) (hb : Roads.IsLen Y b) (x0 : X ≠ 0) (y0 : Y ≠ 0) :
    2 ≤ a + b ∧ ((if 0 < hi then 64 + m else l) = a + b ∨ (if 0 < hi then 64 + m else l) + 1 = a + b) := by
  have e : X * Y = hi.toNat * 2 ^ 64 + lo.toNat := by
    rw [← Int.natCast_mul] at h; omega
  have w := Roads.len_words (n := 64) hm hl (by omega)
  rw [← e] at w
  have r := Roads.len_mul ha hb w x0 y0
  have c : (0 < hi.toNat) = (0 < hi) := by apply propext; omega
  simpa only [c] using r

set_option maxHeartbeats 1000000 in
theorem other (X Y : Nat) (hX : X < 18446744073709551616) (hY : Y < 18446744073709551616) (x0 : X ≠ 0) (y0 : Y ≠ 0) (bx : ((X : Int) == 0) = false) (by' : ((Y : Int) == 0) = false) (w : World) :
    Calls Try.prog 14 #[.int .u64 X, .int .u64 Y] w fun e w' => e = .returned (.bool true) ∧ Grown w w' := by
  go_enter Try.func14, Try.ntmps14
  go_wp2_with fail
  refine (mulu _ _ _ (by omega) (by omega) (by omega) (by omega)).mono ?_
  rintro e w' ⟨hi, lo, rfl, rfl, h1, h2, h3, h4, h5⟩
  have H := hide h5; clear h5
  go_wp2_with fail
  refine (lenu _ _ (by omega) (by omega)).mono ?_
  rintro e w' ⟨l, rfl, rfl, l1, l2⟩
  have L1 := hide l1; clear l1
  by_cases hh : 0 < hi
  · skip
    go_wp2_with fail
    refine (width _).mono ?_
    rintro e w' ⟨rfl, rfl⟩
    go_wp2_with fail
    refine (lenu _ _ (by omega) (by omega)).mono ?_
    rintro e w' ⟨m, rfl, rfl, m1, m2⟩
    have M1 := hide m1; clear m1
    go_wp2_with fail
    refine (lenu_pos _ _ (by omega) (by omega)).mono ?_
    rintro e w' ⟨a, rfl, rfl, a1, a2⟩
    have A1 := hide a1; clear a1
    go_wp2_with fail
    refine (lenu_pos _ _ (by omega) (by omega)).mono ?_
    rintro e w' ⟨b, rfl, rfl, b1, b2⟩
    obtain ⟨g, E⟩ := ends H.out h1 h3 h4 L1.out M1.out A1.out b1 x0 y0
    clear H L1 M1 A1 b1
    rw [if_pos hh] at E
    rcases E with E | E
    · have e1 : (64 + (m : Int) == (a : Int) + 1 + (b + 1)) = true := beq_iff_eq.mpr (by omega)
      clear E
      go_wp2
      go_ret
      exact said rfl (Grown.refl _)
    · have e1 : (64 + (m : Int) == (a : Int) + 1 + (b + 1)) = false := beq_eq_false_iff_ne.mpr (by omega)
      have e2 : (64 + (m : Int) == (a : Int) + 1 + (b + 1) - 1) = true := beq_iff_eq.mpr (by omega)
      clear E
      go_wp2
      go_ret
      exact said rfl (Grown.refl _)
  · have hz : hi = 0 := by omega
    subst hz
    go_wp2_with fail
    refine (lenu_pos _ _ (by omega) (by omega)).mono ?_
    rintro e w' ⟨a, rfl, rfl, a1, a2⟩
    have A1 := hide a1; clear a1
    go_wp2_with fail
    refine (lenu_pos _ _ (by omega) (by omega)).mono ?_
    rintro e w' ⟨b, rfl, rfl, b1, b2⟩
    obtain ⟨g, E⟩ := ends H.out h1 h3 h4 L1.out (m := 0) ⟨by decide, Or.inl rfl⟩ A1.out b1 x0 y0
    clear H L1 A1 b1
    rw [if_neg (Int.lt_irrefl 0)] at E
    rcases E with E | E
    · have e1 : ((l : Int) == (a : Int) + 1 + (b + 1)) = true := beq_iff_eq.mpr (by omega)
      clear E
      go_wp2
      go_ret
      exact said rfl (Grown.refl _)
    · have e1 : ((l : Int) == (a : Int) + 1 + (b + 1)) = false := beq_eq_false_iff_ne.mpr (by omega)
      have e2 : ((l : Int) == (a : Int) + 1 + (b + 1) - 1) = true := beq_iff_eq.mpr (by omega)
      clear E
      go_wp2
      go_ret
      exact said rfl (Grown.refl _)

theorem walk (x y : Int) (w0 : (Lit.int .u64 x).wf = true) (w1 : (Lit.int .u64 y).wf = true) (w : World) :
    Calls Try.prog 14 #[.int .u64 x, .int .u64 y] w fun e w' => e = .returned (.bool true) ∧ Grown w w' := by
  obtain ⟨hx, hx'⟩ := bounds_u64 w0
  obtain ⟨hy, hy'⟩ := bounds_u64 w1
  obtain ⟨X, rfl⟩ := Int.eq_ofNat_of_zero_le hx
  obtain ⟨Y, rfl⟩ := Int.eq_ofNat_of_zero_le hy
  by_cases x0 : X = 0
  · subst x0; exact zero_l Y (by omega) w
  · have bx : ((X : Int) == 0) = false := beq_eq_false_iff_ne.mpr (by omega)
    by_cases y0 : Y = 0
    · subst y0; exact zero_r X (by omega) bx w
    · exact other X Y (by omega) (by omega) x0 y0 bx (beq_eq_false_iff_ne.mpr (by omega)) w

end Go.Proofs.Ytcjmddlhbpkmlaa.fnProductLength
