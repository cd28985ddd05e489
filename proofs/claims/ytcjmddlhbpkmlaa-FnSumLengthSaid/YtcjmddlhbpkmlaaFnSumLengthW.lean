/-
  For all x, y of type uint, laws.FnSumLength returns true. The walk.
-/
import Derived.Test.YtcjmddlhbpkmlaaAddu
import Derived.Test.YtcjmddlhbpkmlaaLenu
import Derived.Test.YtcjmddlhbpkmlaaWidth
import Derived.WalkKit
import Derived.ProofKit
import Derived.OpenShut
namespace Go.Proofs.Ytcjmddlhbpkmlaa.fnSumLength
open Go.ChangeShapes Go.WideShapes Go.ChangeAt Go.RowKit
set_option linter.unusedVariables false

theorem ends {X Y S n a b A : Nat} {o : Int} (h : (S : Int) + 18446744073709551616 * o = X + Y + 0) (hS : S < 18446744073709551616) (o0 : 0 ≤ o) (o1 : o ≤ 1) (hn : Roads.IsLen S n) (ha : Roads.IsLen X a) (hb : Roads.IsLen Y b) (hX : X < 18446744073709551616) (hY : Y < 18446744073709551616) (hA : A = X &&& Y) :
    ((if o = 1 then 65 else n) = max a b) ∨ ((if o = 1 then 65 else n) = max a b + 1 ∧ A ≠ 0) := by
  rw [hA]
  refine Roads.len_add ha hb ?_
  split
  · refine ⟨?_, Or.inr ?_⟩
    · rw [show 2 ^ 65 = 2 * 18446744073709551616 from rfl]; omega
    · rw [show 2 ^ (65 - 1) = 18446744073709551616 from rfl]; omega
  · obtain rfl : S = X + Y := by omega
    exact hn

theorem walk (x y : Int) (w0 : (Lit.int .u64 x).wf = true) (w1 : (Lit.int .u64 y).wf = true) (w : World) :
    Calls Try.prog 11 #[.int .u64 x, .int .u64 y] w fun e w' => e = .returned (.bool true) ∧ Grown w w' := by
  obtain ⟨hx, hx'⟩ := bounds_u64 w0
  obtain ⟨hy, hy'⟩ := bounds_u64 w1
  obtain ⟨X, rfl⟩ := Int.eq_ofNat_of_zero_le hx
  obtain ⟨Y, rfl⟩ := Int.eq_ofNat_of_zero_le hy
  have ea : bits .and .u64 (X : Int) (Y : Int) = ((X &&& Y : Nat) : Int) := u64_and_nat X Y (by omega) (by omega)
  obtain ⟨A, hA⟩ : ∃ A, A = X &&& Y := ⟨_, rfl⟩
  rw [← hA] at ea
  have HA := hide hA; clear hA
  go_enter Try.func11, Try.ntmps11
  go_wp2_with fail
  refine (addu _ _ _ _ (by omega) (by omega) (by omega) (by omega) (by omega) (by omega)).mono ?_
  rintro e w' ⟨s, o, rfl, rfl, s0, s1, o0, o1, h1⟩
  have H1 := hide h1; clear h1
  obtain ⟨S, rfl⟩ := Int.eq_ofNat_of_zero_le s0
  go_wp2_with fail
  refine (lenu _ _ (by omega) (by omega)).mono ?_
  rintro e w' ⟨n, rfl, rfl, n1, n2⟩
  have N1 := hide n1; clear n1
  by_cases ho : o = 1
  · subst ho
    go_wp2_with fail
    refine (width _).mono ?_
    rintro e w' ⟨rfl, rfl⟩
    go_wp2_with fail
    refine (lenu _ _ (by omega) (by omega)).mono ?_
    rintro e w' ⟨a, rfl, rfl, a1, a2⟩
    have A1 := hide a1; clear a1
    go_wp2_with fail
    refine (lenu _ _ (by omega) (by omega)).mono ?_
    rintro e w' ⟨b, rfl, rfl, b1, b2⟩
    have E := ends H1.out (by omega) o0 o1 N1.out A1.out b1 (by omega) (by omega) HA.out
    clear b1 A1 N1 H1 HA
    by_cases hab : a < b
    · rw [Nat.max_eq_right (by omega)] at E
      rcases E with E | ⟨E, An⟩
      · exfalso; simp at E; omega
      · obtain rfl : b = 64 := by simp at E; omega
        have At : ((A : Int) != 0) = true := bne_iff_ne.mpr (by omega)
        clear E An
        go_wp2_with fail
        refine (lenu_one _).mono ?_
        rintro e w' ⟨rfl, rfl⟩
        go_wp2
        go_ret
        exact said rfl (Grown.refl _)
    · rw [Nat.max_eq_left (by omega)] at E
      rcases E with E | ⟨E, An⟩
      · exfalso; simp at E; omega
      · obtain rfl : a = 64 := by simp at E; omega
        have At : ((A : Int) != 0) = true := bne_iff_ne.mpr (by omega)
        clear E An
        go_wp2_with fail
        refine (lenu_one _).mono ?_
        rintro e w' ⟨rfl, rfl⟩
        go_wp2
        go_ret
        exact said rfl (Grown.refl _)
  · obtain rfl : o = 0 := by omega
    go_wp2_with fail
    refine (lenu _ _ (by omega) (by omega)).mono ?_
    rintro e w' ⟨a, rfl, rfl, a1, a2⟩
    have A1 := hide a1; clear a1
    go_wp2_with fail
    refine (lenu _ _ (by omega) (by omega)).mono ?_
    rintro e w' ⟨b, rfl, rfl, b1, b2⟩
    have E := ends H1.out (by omega) o0 o1 N1.out A1.out b1 (by omega) (by omega) HA.out
    clear b1 A1 N1 H1 HA
    by_cases hab : a < b
    · rw [Nat.max_eq_right (by omega)] at E
      rcases E with E | ⟨E, An⟩
      · obtain rfl : b = n := by simp at E; omega
        clear E
        go_wp2_with fail
        refine (lenu_one _).mono ?_
        rintro e w' ⟨rfl, rfl⟩
        go_wp2
        go_ret
        exact said rfl (Grown.refl _)
      · have e1 : ((n : Int) == b) = false := by simp at E; exact beq_eq_false_iff_ne.mpr (by omega)
        have e2 : ((n : Int) == b + 1) = true := by simp at E; exact beq_iff_eq.mpr (by omega)
        have At : ((A : Int) != 0) = true := bne_iff_ne.mpr (by omega)
        clear E An
        go_wp2_with fail
        refine (lenu_one _).mono ?_
        rintro e w' ⟨rfl, rfl⟩
        go_wp2
        go_ret
        exact said rfl (Grown.refl _)
    · rw [Nat.max_eq_left (by omega)] at E
      rcases E with E | ⟨E, An⟩
      · obtain rfl : a = n := by simp at E; omega
        clear E
        go_wp2_with fail
        refine (lenu_one _).mono ?_
        rintro e w' ⟨rfl, rfl⟩
        go_wp2
        go_ret
        exact said rfl (Grown.refl _)
      · have e1 : ((n : Int) == a) = false := by simp at E; exact beq_eq_false_iff_ne.mpr (by omega)
        have e2 : ((n : Int) == a + 1) = true := by simp at E; exact beq_iff_eq.mpr (by omega)
        have At : ((A : Int) != 0) = true := bne_iff_ne.mpr (by omega)
        clear E An
        go_wp2_with fail
        refine (lenu_one _).mono ?_
        rintro e w' ⟨rfl, rfl⟩
        go_wp2
        go_ret
        exact said rfl (Grown.refl _)

end Go.Proofs.Ytcjmddlhbpkmlaa.fnSumLength
