/-
  For all x, y of type uint, laws.FnSumZeros returns true. The walk.
-/
import Derived.Test.YtgjniomloooccaaDoorAddu
import Derived.Test.YtgjniomloooccaaDoorTzu
import Derived.Test.YtgjniomloooccaaDoorWidth
import Derived.WalkKit
import Derived.ProofKit
import Derived.OpenShut
namespace Go.Proofs.YtgjniomloooccaaDoor.fnSumZeros
open Go.ChangeShapes Go.WideShapes Go.ChangeAt Go.RowKit
set_option linter.unusedVariables false

theorem zero_l (Y : Nat) (hY : Y < 18446744073709551616) (w : World) :
    Calls Tryd.prog 9 #[.int .u64 0, .int .u64 Y] w fun e w' => e = .returned (.bool true) ∧ Grown w w' := by
  go_enter Tryd.func9, Tryd.ntmps9
  go_wp2_with fail
  refine (tzu_zero _).mono ?_
  rintro e w' ⟨rfl, rfl⟩
  go_wp2_with fail
  refine (width _).mono ?_
  rintro e w' ⟨rfl, rfl⟩
  go_wp2
  go_ret
  exact said rfl (Grown.refl _)
theorem zero_r (X : Nat) (hX : X < 18446744073709551616) (h0 : ((X : Int) == 0) = false) (w : World) :
    Calls Tryd.prog 9 #[.int .u64 X, .int .u64 0] w fun e w' => e = .returned (.bool true) ∧ Grown w w' := by
  go_enter Tryd.func9, Tryd.ntmps9
  go_wp2_with fail
  refine (tzu_zero _).mono ?_
  rintro e w' ⟨rfl, rfl⟩
  go_wp2_with fail
  refine (width _).mono ?_
  rintro e w' ⟨rfl, rfl⟩
  go_wp2
  go_ret
  exact said rfl (Grown.refl _)

theorem sum_mod {X Y S : Nat} {o : Int} (h : (S : Int) + 18446744073709551616 * o = X + Y + 0) (hS : S < 18446744073709551616) (o0 : 0 ≤ o) : (X + Y) % 2 ^ 64 = S := by
  obtain ⟨O, rfl⟩ := Int.eq_ofNat_of_zero_le o0
  omega

set_option maxHeartbeats 1000000 in
theorem other (X Y : Nat) (hX : X < 18446744073709551616) (hY : Y < 18446744073709551616) (x0 : 0 < X) (y0 : 0 < Y) (bx : ((X : Int) == 0) = false) (by' : ((Y : Int) == 0) = false) (w : World) (T : Hid (Tab64 w)) :
    Calls Tryd.prog 9 #[.int .u64 X, .int .u64 Y] w fun e w' => e = .returned (.bool true) ∧ Grown w w' := by
  go_enter Tryd.func9, Tryd.ntmps9
  go_wp2_with fail
  refine (addu _ _ _ _ (by omega) (by omega) (by omega) (by omega) (by omega) (by omega)).mono ?_
  rintro e w' ⟨s, o, rfl, rfl, s0, s1, o0, o1, h1⟩
  obtain ⟨S, rfl⟩ := Int.eq_ofNat_of_zero_le s0
  have H := hide (sum_mod h1 (by omega) o0); clear h1
  go_wp2_with fail
  refine (tzu_pos _ _ (by omega) (by omega) T.out).mono ?_
  rintro e w' ⟨a, rfl, rfl, a1, a2⟩
  have A1 := hide a1; clear a1
  go_wp2_with fail
  refine (tzu_pos _ _ (by omega) (by omega) T.out).mono ?_
  rintro e w' ⟨b, rfl, rfl, b1, b2⟩
  have B1 := hide b1; clear b1
  by_cases hab : a = b
  · subst hab
    have dv : 2 ^ (a + 1) ∣ S := by rw [← H.out]; exact Roads.tz_sum_eq A1.out B1.out a2
    by_cases hS : S = 0
    · subst hS
      clear dv A1 B1 H
      go_wp2_with fail
      refine (tzu_zero _).mono ?_
      rintro e w' ⟨rfl, rfl⟩
      go_wp2_with fail
      refine (tzu_zero _).mono ?_
      rintro e w' ⟨rfl, rfl⟩
      go_wp2_with fail
      refine (width _).mono ?_
      rintro e w' ⟨rfl, rfl⟩
      go_wp2
      go_ret
      exact said rfl (Grown.refl _)
    · go_wp2_with fail
      refine (tzu_pos _ _ (by omega) (by omega) T.out).mono ?_
      rintro e w' ⟨n, rfl, rfl, n1, n2⟩
      have l : a < n := Roads.isTz_dvd_lt n1 dv
      clear dv n1 A1 B1 H hS
      go_wp2_with fail
      refine (tzu_zero _).mono ?_
      rintro e w' ⟨rfl, rfl⟩
      go_wp2_with fail
      refine (width _).mono ?_
      rintro e w' ⟨rfl, rfl⟩
      go_wp2
      go_ret
      exact said rfl (Grown.refl _)
  · have ne : ((a : Int) == b) = false := beq_eq_false_iff_ne.mpr (by omega)
    have ne' : ((a : Int) != b) = true := bne_iff_ne.mpr (by omega)
    by_cases hlt : a < b
    · have tz : Roads.IsTz S a := by rw [← H.out]; exact Roads.isTz_mod (Roads.tz_sum_ne A1.out B1.out hlt) a2
      have pos := Roads.isTz_pos tz
      have Z := hide tz; clear tz A1 B1 H hab
      go_wp2_with fail
      refine (tzu_pos _ _ (by omega) (by omega) T.out).mono ?_
      rintro e w' ⟨n, rfl, rfl, n1, n2⟩
      obtain rfl : n = a := Roads.isTz_unique n1 Z.out
      clear n1 Z
      go_wp2_with fail
      refine (tzu_zero _).mono ?_
      rintro e w' ⟨rfl, rfl⟩
      go_wp2_with fail
      refine (width _).mono ?_
      rintro e w' ⟨rfl, rfl⟩
      go_wp2
      go_ret
      exact said rfl (Grown.refl _)
    · have hgt : b < a := by omega
      have tz : Roads.IsTz S b := by
        rw [← H.out, Nat.add_comm]; exact Roads.isTz_mod (Roads.tz_sum_ne B1.out A1.out hgt) b2
      have pos := Roads.isTz_pos tz
      have Z := hide tz; clear tz A1 B1 H hab
      go_wp2_with fail
      refine (tzu_pos _ _ (by omega) (by omega) T.out).mono ?_
      rintro e w' ⟨n, rfl, rfl, n1, n2⟩
      obtain rfl : n = b := Roads.isTz_unique n1 Z.out
      clear n1 Z
      go_wp2_with fail
      refine (tzu_zero _).mono ?_
      rintro e w' ⟨rfl, rfl⟩
      go_wp2_with fail
      refine (width _).mono ?_
      rintro e w' ⟨rfl, rfl⟩
      go_wp2
      go_ret
      exact said rfl (Grown.refl _)

theorem walk (x y : Int) (w0 : (Lit.int .u64 x).wf = true) (w1 : (Lit.int .u64 y).wf = true) (w : World) (hT : Tab64 w) :
    Calls Tryd.prog 9 #[.int .u64 x, .int .u64 y] w fun e w' => e = .returned (.bool true) ∧ Grown w w' := by
  obtain ⟨hx, hx'⟩ := bounds_u64 w0
  obtain ⟨hy, hy'⟩ := bounds_u64 w1
  obtain ⟨X, rfl⟩ := Int.eq_ofNat_of_zero_le hx
  obtain ⟨Y, rfl⟩ := Int.eq_ofNat_of_zero_le hy
  by_cases x0 : X = 0
  · subst x0; exact zero_l Y (by omega) w
  · have bx : ((X : Int) == 0) = false := beq_eq_false_iff_ne.mpr (by omega)
    by_cases y0 : Y = 0
    · subst y0; exact zero_r X (by omega) bx w
    · exact other X Y (by omega) (by omega) (by omega) (by omega) bx (beq_eq_false_iff_ne.mpr (by omega)) w hT

end Go.Proofs.YtgjniomloooccaaDoor.fnSumZeros
