/-
  For all a, b, c, d of 64 bits, laws.FnSipRound returns true. The walk.
-/
import Derived.Test.YtilmkepiokklgaaAdd64
import Derived.Test.YtilmkepiokklgaaSub64
import Derived.Test.YtilmkepiokklgaaRot64
import Derived.WalkKit
import Derived.ProofKit
import Derived.OpenShut
namespace Go.Proofs.Ytilmkepiokklgaa.fnSipRound
open Go.ChangeShapes Go.WideShapes Go.ChangeAt Go.RowKit
set_option linter.unusedVariables false

theorem xor_pair (a b : Nat) (ha : a < 18446744073709551616) (hb : b < 18446744073709551616) : ∃ c : Nat, c < 18446744073709551616 ∧ bits .xor .u64 (a : Int) (b : Int) = (c : Int) ∧ bits .xor .u64 (c : Int) (b : Int) = (a : Int) := by
  have l : a ^^^ b < 18446744073709551616 := Nat.xor_lt_two_pow (n := 64) ha hb
  refine ⟨a ^^^ b, l, u64_xor_nat a b ha hb, ?_⟩
  rw [u64_xor_nat _ b l hb, Nat.xor_assoc, Nat.xor_self, Nat.xor_zero]
def Sum (x y s : Nat) : Prop := s = x + y ∨ s + 18446744073709551616 = x + y
theorem add_fact {x y s : Nat} {o : Int} (o0 : 0 ≤ o) (o1 : o ≤ 1) (h : (s : Int) + 18446744073709551616 * o = x + y + 0) : Sum x y s := by unfold Sum; omega
theorem sub_fact {x y s : Nat} {d o : Int} (f : Sum x y s) (lx : x < 18446744073709551616) (d0 : 0 ≤ d) (d1 : d < 18446744073709551616) (o0 : 0 ≤ o) (o1 : o ≤ 1) (h : d + (y : Int) + 0 = s + 18446744073709551616 * o) : d = (x : Int) := by unfold Sum at f; omega
theorem rback {r R X s : Nat} {k : Int} (h : r = Roads.rot 64 (k % 64).toNat (R : Int).toNat) (hR : R = Roads.rot 64 s X) (hk : (k % 64).toNat = 64 - s) (hs : s ≤ 64) (hX : X < 18446744073709551616) : r = X := by
  rw [h, hk, Int.toNat_natCast, hR]
  exact Roads.rot_back 64 s X hs hX

set_option maxHeartbeats 4000000 in
set_option maxRecDepth 100000 in
theorem core (a b c d : Nat) (la : a < 18446744073709551616) (lb : b < 18446744073709551616) (lc : c < 18446744073709551616) (ld : d < 18446744073709551616) (w : World) :
    Calls Try.prog 5 #[.int .u64 a, .int .u64 b, .int .u64 c, .int .u64 d] w fun e w' => e = .returned (.bool true) ∧ Grown w w' := by
  go_enter Try.func5, Try.ntmps5
  go_wp2_with fail
  refine (add64 _ _ _ _ (by omega) (by omega) (by omega) (by omega) (by omega) (by omega)).mono ?_
  rintro e w' ⟨s, o, rfl, rfl, s0, s1, o0, o1, hs⟩
  obtain ⟨W1, rfl⟩ := Int.eq_ofNat_of_zero_le s0
  have A1 := hide (add_fact o0 o1 hs)
  have lW1 : W1 < 18446744073709551616 := by omega
  clear hs s0 s1 o0 o1
  go_wp2_with fail
  refine (rot64 _ _ _ (by omega) (by omega)).mono ?_
  rintro e w' ⟨P1, rfl, rfl, hr, lP1⟩
  have R1 := hide (show P1 = Roads.rot 64 13 b from hr); clear hr
  obtain ⟨X1, lX1, f1, g1⟩ := xor_pair P1 W1 lP1 lW1
  go_wp2_with fail
  refine (rot64 _ _ _ (by omega) (by omega)).mono ?_
  rintro e w' ⟨W2, rfl, rfl, hr, lW2⟩
  have R2 := hide (show W2 = Roads.rot 64 32 W1 from hr); clear hr
  go_wp2_with fail
  refine (add64 _ _ _ _ (by omega) (by omega) (by omega) (by omega) (by omega) (by omega)).mono ?_
  rintro e w' ⟨s, o, rfl, rfl, s0, s1, o0, o1, hs⟩
  obtain ⟨Y1, rfl⟩ := Int.eq_ofNat_of_zero_le s0
  have A2 := hide (add_fact o0 o1 hs)
  have lY1 : Y1 < 18446744073709551616 := by omega
  clear hs s0 s1 o0 o1
  go_wp2_with fail
  refine (rot64 _ _ _ (by omega) (by omega)).mono ?_
  rintro e w' ⟨P2, rfl, rfl, hr, lP2⟩
  have R3 := hide (show P2 = Roads.rot 64 16 d from hr); clear hr
  obtain ⟨Z1, lZ1, f2, g2⟩ := xor_pair P2 Y1 lP2 lY1
  go_wp2_with fail
  refine (add64 _ _ _ _ (by omega) (by omega) (by omega) (by omega) (by omega) (by omega)).mono ?_
  rintro e w' ⟨s, o, rfl, rfl, s0, s1, o0, o1, hs⟩
  obtain ⟨W3, rfl⟩ := Int.eq_ofNat_of_zero_le s0
  have A3 := hide (add_fact o0 o1 hs)
  have lW3 : W3 < 18446744073709551616 := by omega
  clear hs s0 s1 o0 o1
  go_wp2_with fail
  refine (rot64 _ _ _ (by omega) (by omega)).mono ?_
  rintro e w' ⟨P3, rfl, rfl, hr, lP3⟩
  have R4 := hide (show P3 = Roads.rot 64 21 Z1 from hr); clear hr
  obtain ⟨Z2, lZ2, f3, g3⟩ := xor_pair P3 W3 lP3 lW3
  go_wp2_with fail
  refine (add64 _ _ _ _ (by omega) (by omega) (by omega) (by omega) (by omega) (by omega)).mono ?_
  rintro e w' ⟨s, o, rfl, rfl, s0, s1, o0, o1, hs⟩
  obtain ⟨Y2, rfl⟩ := Int.eq_ofNat_of_zero_le s0
  have A4 := hide (add_fact o0 o1 hs)
  have lY2 : Y2 < 18446744073709551616 := by omega
  clear hs s0 s1 o0 o1
  go_wp2_with fail
  refine (rot64 _ _ _ (by omega) (by omega)).mono ?_
  rintro e w' ⟨P4, rfl, rfl, hr, lP4⟩
  have R5 := hide (show P4 = Roads.rot 64 17 X1 from hr); clear hr
  obtain ⟨X2, lX2, f4, g4⟩ := xor_pair P4 Y2 lP4 lY2
  go_wp2_with fail
  refine (rot64 _ _ _ (by omega) (by omega)).mono ?_
  rintro e w' ⟨Y3, rfl, rfl, hr, lY3⟩
  have R6 := hide (show Y3 = Roads.rot 64 32 Y2 from hr); clear hr
  go_wp2_with fail
  refine (rot64 _ _ _ (by omega) (by omega)).mono ?_
  rintro e w' ⟨r, rfl, rfl, hr, _⟩
  obtain rfl : r = Y2 := rback hr R6.out (by decide) (by decide) lY2
  clear hr
  go_wp2_with fail
  refine (rot64 _ _ _ (by omega) (by omega)).mono ?_
  rintro e w' ⟨r, rfl, rfl, hr, _⟩
  obtain rfl : r = X1 := rback hr R5.out (by decide) (by decide) lX1
  clear hr
  go_wp2_with fail
  refine (sub64 _ _ _ _ (by omega) (by omega) (by omega) (by omega) (by omega) (by omega)).mono ?_
  rintro e w' ⟨d, o, rfl, rfl, d0, d1, o0, o1, hd⟩
  obtain rfl : d = (Y1 : Int) := sub_fact A4.out lY1 d0 d1 o0 o1 hd
  clear hd d0 d1 o0 o1
  go_wp2_with fail
  refine (rot64 _ _ _ (by omega) (by omega)).mono ?_
  rintro e w' ⟨r, rfl, rfl, hr, _⟩
  obtain rfl : r = Z1 := rback hr R4.out (by decide) (by decide) lZ1
  clear hr
  go_wp2_with fail
  refine (sub64 _ _ _ _ (by omega) (by omega) (by omega) (by omega) (by omega) (by omega)).mono ?_
  rintro e w' ⟨d, o, rfl, rfl, d0, d1, o0, o1, hd⟩
  obtain rfl : d = (W2 : Int) := sub_fact A3.out lW2 d0 d1 o0 o1 hd
  clear hd d0 d1 o0 o1
  go_wp2_with fail
  refine (rot64 _ _ _ (by omega) (by omega)).mono ?_
  rintro e w' ⟨r, rfl, rfl, hr, _⟩
  obtain rfl : r = d := rback hr R3.out (by decide) (by decide) ld
  clear hr
  go_wp2_with fail
  refine (sub64 _ _ _ _ (by omega) (by omega) (by omega) (by omega) (by omega) (by omega)).mono ?_
  rintro e w' ⟨d, o, rfl, rfl, d0, d1, o0, o1, hd⟩
  obtain rfl : d = (c : Int) := sub_fact A2.out lc d0 d1 o0 o1 hd
  clear hd d0 d1 o0 o1
  go_wp2_with fail
  refine (rot64 _ _ _ (by omega) (by omega)).mono ?_
  rintro e w' ⟨r, rfl, rfl, hr, _⟩
  obtain rfl : r = W1 := rback hr R2.out (by decide) (by decide) lW1
  clear hr
  go_wp2_with fail
  refine (rot64 _ _ _ (by omega) (by omega)).mono ?_
  rintro e w' ⟨r, rfl, rfl, hr, _⟩
  obtain rfl : r = b := rback hr R1.out (by decide) (by decide) lb
  clear hr
  go_wp2_with fail
  refine (sub64 _ _ _ _ (by omega) (by omega) (by omega) (by omega) (by omega) (by omega)).mono ?_
  rintro e w' ⟨d, o, rfl, rfl, d0, d1, o0, o1, hd⟩
  obtain rfl : d = (a : Int) := sub_fact A1.out la d0 d1 o0 o1 hd
  clear hd d0 d1 o0 o1
  go_wp2_with fail
  refine (rot64 _ _ _ (by omega) (by omega)).mono ?_
  rintro e w' ⟨r, rfl, rfl, hr, _⟩
  obtain rfl : r = 2 := hr.trans (by decide +kernel)
  clear hr
  go_wp2
  go_ret
  exact said rfl (Grown.refl _)

theorem walk (a b c d : Int) (w0 : (Lit.int .u64 a).wf = true) (w1 : (Lit.int .u64 b).wf = true) (w2 : (Lit.int .u64 c).wf = true) (w3 : (Lit.int .u64 d).wf = true) (w : World) :
    Calls Try.prog 5 #[.int .u64 a, .int .u64 b, .int .u64 c, .int .u64 d] w fun e w' => e = .returned (.bool true) ∧ Grown w w' := by
  obtain ⟨ha, ha'⟩ := bounds_u64 w0
  obtain ⟨hb, hb'⟩ := bounds_u64 w1
  obtain ⟨hc, hc'⟩ := bounds_u64 w2
  obtain ⟨hd, hd'⟩ := bounds_u64 w3
  obtain ⟨A, rfl⟩ := Int.eq_ofNat_of_zero_le ha
  obtain ⟨B, rfl⟩ := Int.eq_ofNat_of_zero_le hb
  obtain ⟨C, rfl⟩ := Int.eq_ofNat_of_zero_le hc
  obtain ⟨D, rfl⟩ := Int.eq_ofNat_of_zero_le hd
  exact core A B C D (by omega) (by omega) (by omega) (by omega) w

end Go.Proofs.Ytilmkepiokklgaa.fnSipRound
