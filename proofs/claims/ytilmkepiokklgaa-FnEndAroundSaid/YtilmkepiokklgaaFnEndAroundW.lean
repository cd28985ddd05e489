/-
  For all x, y of 64 bits and every count k, laws.FnEndAround returns true. The walk.
-/
import Derived.Test.YtilmkepiokklgaaAdd64
import Derived.Test.YtilmkepiokklgaaRot64
import Derived.WalkKit
import Derived.ProofKit
import Derived.OpenShut
namespace Go.Proofs.Ytilmkepiokklgaa.fnEndAround
open Go.ChangeShapes Go.WideShapes Go.ChangeAt Go.RowKit
set_option linter.unusedVariables false

/-- The number is the product with a power of 2, less some times 2 ^ 64 - 1. -/
theorem rot_fact {r X s : Nat} (h : r = Roads.rot 64 s X) (hs : s ≤ 64) : ∃ q : Int, (r : Int) = X * 2 ^ s - q * 18446744073709551615 := by
  have e := Roads.rot_mod 64 s X hs
  rw [← h] at e
  refine ⟨((X / 2 ^ (64 - s) : Nat) : Int), ?_⟩
  rw [← pow_cast, ← Int.natCast_mul]
  generalize X / 2 ^ (64 - s) = q at *
  generalize X * 2 ^ s = p at *
  have : q * 2 ^ 64 = q * 18446744073709551616 := rfl
  omega

theorem ends {X Y S1 S2 A B T1 T2 W s : Nat} {c c2 o o2 : Int} (hX : X < 18446744073709551616) (hY : Y < 18446744073709551616) (hs : s ≤ 64) (lA : A < 18446744073709551616) (lB : B < 18446744073709551616) (lW : W < 18446744073709551616)
    (c0 : 0 ≤ c) (c1 : c ≤ 1) (s1 : (S1 : Int) < 18446744073709551616) (h1 : (S1 : Int) + 18446744073709551616 * c = X + Y + 0) (d0 : 0 ≤ c2) (d1 : c2 ≤ 1) (s2 : (S2 : Int) < 18446744073709551616) (h2 : (S2 : Int) + 18446744073709551616 * c2 = S1 + c + 0)
    (o0 : 0 ≤ o) (o1 : o ≤ 1) (t1 : (T1 : Int) < 18446744073709551616) (h3 : (T1 : Int) + 18446744073709551616 * o = A + B + 0) (p0 : 0 ≤ o2) (p1 : o2 ≤ 1) (t2 : (T2 : Int) < 18446744073709551616) (h4 : (T2 : Int) + 18446744073709551616 * o2 = T1 + o + 0)
    (hA : A = Roads.rot 64 s X) (hB : B = Roads.rot 64 s Y) (hW : W = Roads.rot 64 s S2) :
    T2 = W ∨ (T2 = 0 ∧ W = 18446744073709551615) ∨ (T2 = 18446744073709551615 ∧ W = 0) := by
  obtain ⟨qa, ea⟩ := rot_fact hA hs
  obtain ⟨qb, eb⟩ := rot_fact hB hs
  obtain ⟨qw, ew⟩ := rot_fact hW hs
  clear hA hB hW
  have e2 : (S2 : Int) = X + Y - 18446744073709551615 * c := by omega
  have e4 : (T2 : Int) = A + B - 18446744073709551615 * o := by omega
  have m : (S2 : Int) * 2 ^ s = X * 2 ^ s + Y * 2 ^ s - 18446744073709551615 * (c * 2 ^ s) := by rw [e2, Int.sub_mul, Int.add_mul, Int.mul_assoc]
  rw [m] at ew
  have e : (T2 : Int) - W = 18446744073709551615 * (qw + c * 2 ^ s - qa - qb - o) := by
    generalize c * 2 ^ s = cp at *
    generalize (X : Int) * 2 ^ s = xp at *
    generalize (Y : Int) * 2 ^ s = yp at *
    omega
  generalize qw + c * 2 ^ s - qa - qb - o = t at e
  clear ea eb ew m e2 e4 h1 h2 h3 h4
  have t0 : -1 ≤ t := by omega
  have t1' : t ≤ 1 := by omega
  omega

set_option maxHeartbeats 1000000 in
theorem walk (x y k : Int) (w0 : (Lit.int .u64 x).wf = true) (w1 : (Lit.int .u64 y).wf = true) (w2 : (Lit.int .i64 k).wf = true) (w : World) :
    Calls Try.prog 3 #[.int .u64 x, .int .u64 y, .int .i64 k] w fun e w' => e = .returned (.bool true) ∧ Grown w w' := by
  obtain ⟨hx, hx'⟩ := bounds_u64 w0
  obtain ⟨hy, hy'⟩ := bounds_u64 w1
  obtain ⟨X, rfl⟩ := Int.eq_ofNat_of_zero_le hx
  obtain ⟨Y, rfl⟩ := Int.eq_ofNat_of_zero_le hy
  go_enter Try.func3, Try.ntmps3
  go_wp2_with fail
  refine (add64 _ _ _ _ (by omega) (by omega) (by omega) (by omega) (by omega) (by omega)).mono ?_
  rintro e w' ⟨s, c, rfl, rfl, s0, s1, c0, c1, h1⟩
  obtain ⟨S1, rfl⟩ := Int.eq_ofNat_of_zero_le s0
  have H1 := hide h1; clear h1
  go_wp2_with fail
  refine (add64 _ _ _ _ (by omega) (by omega) (by omega) (by omega) (by omega) (by omega)).mono ?_
  rintro e w' ⟨s, c2, rfl, rfl, s0, s2, d0, d1, h2⟩
  obtain ⟨S2, rfl⟩ := Int.eq_ofNat_of_zero_le s0
  have H2 := hide h2; clear h2
  go_wp2_with fail
  refine (rot64 _ _ _ (by omega) (by omega)).mono ?_
  rintro e w' ⟨A, rfl, rfl, hA, lA⟩
  have HA := hide hA; clear hA
  go_wp2_with fail
  refine (rot64 _ _ _ (by omega) (by omega)).mono ?_
  rintro e w' ⟨B, rfl, rfl, hB, lB⟩
  have HB := hide hB; clear hB
  go_wp2_with fail
  refine (add64 _ _ _ _ (by omega) (by omega) (by omega) (by omega) (by omega) (by omega)).mono ?_
  rintro e w' ⟨s, o, rfl, rfl, s0, t1, o0, o1, h3⟩
  obtain ⟨T1, rfl⟩ := Int.eq_ofNat_of_zero_le s0
  have H3 := hide h3; clear h3
  go_wp2_with fail
  refine (add64 _ _ _ _ (by omega) (by omega) (by omega) (by omega) (by omega) (by omega)).mono ?_
  rintro e w' ⟨s, o2, rfl, rfl, s0, t2, p0, p1, h4⟩
  obtain ⟨T2, rfl⟩ := Int.eq_ofNat_of_zero_le s0
  have H4 := hide h4; clear h4
  go_wp2_with fail
  refine (rot64 _ _ _ (by omega) (by omega)).mono ?_
  rintro e w' ⟨W, rfl, rfl, hW, lW⟩
  have E := ends (by omega) (by omega) (by omega) lA lB lW c0 c1 s1 H1.out d0 d1 s2 H2.out o0 o1 t1 H3.out p0 p1 t2 H4.out HA.out HB.out hW
  clear hW HA HB H1 H2 H3 H4
  rcases E with rfl | ⟨rfl, rfl⟩ | ⟨rfl, rfl⟩
  all_goals
    go_wp2_with fail
    refine (rot64 _ _ _ (by omega) (by omega)).mono ?_
    rintro e w' ⟨r, rfl, rfl, hr, _⟩
    obtain rfl : r = 1 := hr.trans (by decide +kernel)
    clear hr
    go_wp2
    go_ret
    exact said rfl (Grown.refl _)

end Go.Proofs.Ytilmkepiokklgaa.fnEndAround
