/-
  For all x, y with signs, of 64 bits, laws.FnSignedProduct64 returns true. The walk.
-/
import Derived.Test.YtmfcmnhfbaennaaMul64
import Derived.Test.YtmfcmnhfbaennaaSub64
import Derived.WalkKit
import Derived.ProofKit
import Derived.OpenShut
namespace Go.Proofs.Ytmfcmnhfbaennaa.fnSignedProduct64
open Go.ChangeShapes Go.WideShapes Go.ChangeAt Go.RowKit
set_option linter.unusedVariables false

set_option maxHeartbeats 1000000 in
theorem walk_nn (x y : Int) (hx : -9223372036854775808 ≤ x) (hx' : x < 0) (hy : -9223372036854775808 ≤ y) (hy' : y < 0) (w : World) :
    Calls Try.prog 10 #[.int .i64 x, .int .i64 y] w fun e w' => e = .returned (.bool true) ∧ Grown w w' := by
  have bx : decide (x < 0) = true := decide_eq_true hx'
  have by' : decide (y < 0) = true := decide_eq_true hy'
  have ex : IntKind.u64.wrap (x) = x + 18446744073709551616 := by rw [IntKind.wrap_u64]; omega
  have nx : IntKind.u64.wrap (-(x + 18446744073709551616)) = -x := by rw [IntKind.wrap_u64]; omega
  have ey : IntKind.u64.wrap (y) = y + 18446744073709551616 := by rw [IntKind.wrap_u64]; omega
  have ny : IntKind.u64.wrap (-(y + 18446744073709551616)) = -y := by rw [IntKind.wrap_u64]; omega
  go_enter Try.func10, Try.ntmps10
  go_wp2_with fail
  refine (mul64 _ _ _ (by omega) (by omega) (by omega) (by omega)).mono ?_
  rintro e w' ⟨hi, lo, rfl, rfl, a1, a2, a3, a4, a5⟩
  have A := hide a5; clear a5
  go_wp2_with fail
  refine (sub64 _ _ _ _ (by omega) (by omega) (by omega) (by omega) (by omega) (by omega)).mono ?_
  rintro e w' ⟨d, o, rfl, rfl, b1, b2, b3, b4, b5⟩
  have B := hide b5; clear b5
  go_wp2_with fail
  refine (sub64 _ _ _ _ (by omega) (by omega) (by omega) (by omega) (by omega) (by omega)).mono ?_
  rintro e w' ⟨d', o', rfl, rfl, c1, c2, c3, c4, c5⟩
  have C := hide c5; clear c5
  go_wp2_with fail
  refine (mul64 _ _ _ (by omega) (by omega) (by omega) (by omega)).mono ?_
  rintro e w' ⟨p, q, rfl, rfl, p1, p2, q1, q2, pq⟩
  have P := hide pq; clear pq
  go_wp2_with fail
  refine (mul64 _ _ _ (by omega) (by omega) (by omega) (by omega)).mono ?_
  rintro e w' ⟨z, one, rfl, rfl, z0, z1, o0, o1, h6⟩
  obtain rfl : one = 1 := by omega
  clear h6
  have R : d' = p ∧ lo = q := by
    have A := A.out
    have P := P.out
    have B := B.out
    have C := C.out
    rw [Int.add_mul, Int.mul_add] at A
    rw [Int.neg_mul_neg] at P
    generalize x * y = m at A P
    omega
  obtain ⟨rfl, rfl⟩ := R
  clear A P B C
  go_wp2
  go_ret
  exact said rfl (Grown.refl _)

set_option maxHeartbeats 1000000 in
theorem walk_np (x y : Int) (hx : -9223372036854775808 ≤ x) (hx' : x < 0) (hy : 0 ≤ y) (hy' : y < 9223372036854775808) (w : World) :
    Calls Try.prog 10 #[.int .i64 x, .int .i64 y] w fun e w' => e = .returned (.bool true) ∧ Grown w w' := by
  have bx : decide (x < 0) = true := decide_eq_true hx'
  have by' : decide (y < 0) = false := decide_eq_false (by omega)
  have ex : IntKind.u64.wrap (x) = x + 18446744073709551616 := by rw [IntKind.wrap_u64]; omega
  have nx : IntKind.u64.wrap (-(x + 18446744073709551616)) = -x := by rw [IntKind.wrap_u64]; omega
  go_enter Try.func10, Try.ntmps10
  go_wp2_with fail
  refine (mul64 _ _ _ (by omega) (by omega) (by omega) (by omega)).mono ?_
  rintro e w' ⟨hi, lo, rfl, rfl, a1, a2, a3, a4, a5⟩
  have A := hide a5; clear a5
  go_wp2_with fail
  refine (sub64 _ _ _ _ (by omega) (by omega) (by omega) (by omega) (by omega) (by omega)).mono ?_
  rintro e w' ⟨d, o, rfl, rfl, b1, b2, b3, b4, b5⟩
  have B := hide b5; clear b5
  go_wp2_with fail
  refine (mul64 _ _ _ (by omega) (by omega) (by omega) (by omega)).mono ?_
  rintro e w' ⟨p, q, rfl, rfl, p1, p2, q1, q2, pq⟩
  have P := hide pq; clear pq
  go_wp2_with fail
  refine (sub64 _ _ _ _ (by omega) (by omega) (by omega) (by omega) (by omega) (by omega)).mono ?_
  rintro e w' ⟨low, bo, rfl, rfl, l1, l2, l3, l4, l5⟩
  have L := hide l5; clear l5
  go_wp2_with fail
  refine (sub64 _ _ _ _ (by omega) (by omega) (by omega) (by omega) (by omega) (by omega)).mono ?_
  rintro e w' ⟨high, b2', rfl, rfl, k1, k2, k3, k4, k5⟩
  have K := hide k5; clear k5
  go_wp2_with fail
  refine (mul64 _ _ _ (by omega) (by omega) (by omega) (by omega)).mono ?_
  rintro e w' ⟨z, one, rfl, rfl, z0, z1, o0, o1, h6⟩
  obtain rfl : one = 1 := by omega
  clear h6
  have R : d = high ∧ lo = low := by
    have A := A.out
    have P := P.out
    have B := B.out
    have L := L.out
    have K := K.out
    rw [Int.add_mul] at A
    rw [Int.neg_mul] at P
    generalize x * y = m at A P
    omega
  obtain ⟨rfl, rfl⟩ := R
  clear A P B L K
  go_wp2
  go_ret
  exact said rfl (Grown.refl _)

set_option maxHeartbeats 1000000 in
theorem walk_pn (x y : Int) (hx : 0 ≤ x) (hx' : x < 9223372036854775808) (hy : -9223372036854775808 ≤ y) (hy' : y < 0) (w : World) :
    Calls Try.prog 10 #[.int .i64 x, .int .i64 y] w fun e w' => e = .returned (.bool true) ∧ Grown w w' := by
  have bx : decide (x < 0) = false := decide_eq_false (by omega)
  have by' : decide (y < 0) = true := decide_eq_true hy'
  have ey : IntKind.u64.wrap (y) = y + 18446744073709551616 := by rw [IntKind.wrap_u64]; omega
  have ny : IntKind.u64.wrap (-(y + 18446744073709551616)) = -y := by rw [IntKind.wrap_u64]; omega
  go_enter Try.func10, Try.ntmps10
  go_wp2_with fail
  refine (mul64 _ _ _ (by omega) (by omega) (by omega) (by omega)).mono ?_
  rintro e w' ⟨hi, lo, rfl, rfl, a1, a2, a3, a4, a5⟩
  have A := hide a5; clear a5
  go_wp2_with fail
  refine (sub64 _ _ _ _ (by omega) (by omega) (by omega) (by omega) (by omega) (by omega)).mono ?_
  rintro e w' ⟨d', o', rfl, rfl, c1, c2, c3, c4, c5⟩
  have C := hide c5; clear c5
  go_wp2_with fail
  refine (mul64 _ _ _ (by omega) (by omega) (by omega) (by omega)).mono ?_
  rintro e w' ⟨p, q, rfl, rfl, p1, p2, q1, q2, pq⟩
  have P := hide pq; clear pq
  go_wp2_with fail
  refine (sub64 _ _ _ _ (by omega) (by omega) (by omega) (by omega) (by omega) (by omega)).mono ?_
  rintro e w' ⟨low, bo, rfl, rfl, l1, l2, l3, l4, l5⟩
  have L := hide l5; clear l5
  go_wp2_with fail
  refine (sub64 _ _ _ _ (by omega) (by omega) (by omega) (by omega) (by omega) (by omega)).mono ?_
  rintro e w' ⟨high, b2', rfl, rfl, k1, k2, k3, k4, k5⟩
  have K := hide k5; clear k5
  go_wp2_with fail
  refine (mul64 _ _ _ (by omega) (by omega) (by omega) (by omega)).mono ?_
  rintro e w' ⟨z, one, rfl, rfl, z0, z1, o0, o1, h6⟩
  obtain rfl : one = 1 := by omega
  clear h6
  have R : d' = high ∧ lo = low := by
    have A := A.out
    have P := P.out
    have C := C.out
    have L := L.out
    have K := K.out
    rw [Int.mul_add] at A
    rw [Int.mul_neg] at P
    generalize x * y = m at A P
    omega
  obtain ⟨rfl, rfl⟩ := R
  clear A P C L K
  go_wp2
  go_ret
  exact said rfl (Grown.refl _)

set_option maxHeartbeats 1000000 in
theorem walk_pp (x y : Int) (hx : 0 ≤ x) (hx' : x < 9223372036854775808) (hy : 0 ≤ y) (hy' : y < 9223372036854775808) (w : World) :
    Calls Try.prog 10 #[.int .i64 x, .int .i64 y] w fun e w' => e = .returned (.bool true) ∧ Grown w w' := by
  have bx : decide (x < 0) = false := decide_eq_false (by omega)
  have by' : decide (y < 0) = false := decide_eq_false (by omega)
  go_enter Try.func10, Try.ntmps10
  go_wp2_with fail
  refine (mul64 _ _ _ (by omega) (by omega) (by omega) (by omega)).mono ?_
  rintro e w' ⟨hi, lo, rfl, rfl, a1, a2, a3, a4, a5⟩
  have A := hide a5; clear a5
  go_wp2_with fail
  refine (mul64 _ _ _ (by omega) (by omega) (by omega) (by omega)).mono ?_
  rintro e w' ⟨p, q, rfl, rfl, p1, p2, q1, q2, pq⟩
  have P := hide pq; clear pq
  go_wp2_with fail
  refine (mul64 _ _ _ (by omega) (by omega) (by omega) (by omega)).mono ?_
  rintro e w' ⟨z, one, rfl, rfl, z0, z1, o0, o1, h6⟩
  obtain rfl : one = 1 := by omega
  clear h6
  have R : hi = p ∧ lo = q := by
    have A := A.out
    have P := P.out
    generalize x * y = m at A P
    omega
  obtain ⟨rfl, rfl⟩ := R
  clear A P
  go_wp2
  go_ret
  exact said rfl (Grown.refl _)

theorem walk (x y : Int) (w0 : (Lit.int .i64 x).wf = true) (w1 : (Lit.int .i64 y).wf = true) (w : World) :
    Calls Try.prog 10 #[.int .i64 x, .int .i64 y] w fun e w' => e = .returned (.bool true) ∧ Grown w w' := by
  obtain ⟨hx, hx'⟩ := bounds_i64 w0
  obtain ⟨hy, hy'⟩ := bounds_i64 w1
  by_cases sx : x < 0
  · by_cases sy : y < 0
    · exact walk_nn x y hx sx hy sy w
    · exact walk_np x y hx sx (by omega) (by omega) w
  · by_cases sy : y < 0
    · exact walk_pn x y (by omega) (by omega) hy sy w
    · exact walk_pp x y (by omega) (by omega) (by omega) (by omega) w

end Go.Proofs.Ytmfcmnhfbaennaa.fnSignedProduct64
