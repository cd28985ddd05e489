/-
  For all a, b, c, d of 32 bits, laws.FnTwoSquares returns true. The walk.
-/
import Derived.Test.YtmfcmnhfbaennaaMul64
import Derived.Test.YtmfcmnhfbaennaaAdd64
import Derived.WalkKit
import Derived.ProofKit
import Derived.OpenShut
namespace Go.Proofs.Ytmfcmnhfbaennaa.fnTwoSquares
open Go.ChangeShapes Go.WideShapes Go.ChangeAt Go.RowKit
set_option linter.unusedVariables false

theorem prod_le {x y : Int} (x0 : 0 ≤ x) (x1 : x ≤ 2147483647) (y0 : 0 ≤ y) (y1 : y ≤ 2147483647) : x * y ≤ 4611686014132420609 := by
  have : x * y ≤ 2147483647 * 2147483647 := Int.mul_le_mul x1 y1 y0 (by omega)
  omega
theorem small_eq {x y h r : Int} (x0 : 0 ≤ x) (x1 : x ≤ 2147483647) (y0 : 0 ≤ y) (y1 : y ≤ 2147483647) (h0 : 0 ≤ h) (e : h * 18446744073709551616 + r = x * y) (r0 : 0 ≤ r) (r1 : r < 18446744073709551616) : r = x * y := by
  have := prod_le x0 x1 y0 y1
  omega
theorem small {x y h r : Int} (x0 : 0 ≤ x) (x1 : x ≤ 2147483647) (y0 : 0 ≤ y) (y1 : y ≤ 2147483647) (h0 : 0 ≤ h) (_h1 : h < 18446744073709551616) (e : h * 18446744073709551616 + r = x * y) (r0 : 0 ≤ r) : r ≤ 4611686014132420609 := by
  have := prod_le x0 x1 y0 y1
  omega
theorem two_squares (W X Y Z : Int) : (W * W + X * X) * (Y * Y + Z * Z) = (W * Y - X * Z) * (W * Y - X * Z) + (W * Z + X * Y) * (W * Z + X * Y) := by grind
theorem ends {W X Y Z ww xx yy zz wy xz wz xy p hi lo h l high low s c t o : Int} (q1 : ww = W * W) (q2 : xx = X * X) (q3 : yy = Y * Y) (q4 : zz = Z * Z) (q5 : wy = W * Y) (q6 : xz = X * Z) (q7 : wz = W * Z) (q8 : xy = X * Y)
    (hp : p = wy - xz ∨ p = xz - wy) (h1 : hi * 18446744073709551616 + lo = (ww + xx) * (yy + zz)) (h2 : h * 18446744073709551616 + l = p * p) (h3 : high * 18446744073709551616 + low = (wz + xy) * (wz + xy))
    (h4 : s + 18446744073709551616 * c = l + low + 0) (h5 : t + 18446744073709551616 * o = h + high + c) (lo0 : 0 ≤ lo) (lo1 : lo < 18446744073709551616) (hi0 : 0 ≤ hi) (hi1 : hi < 18446744073709551616) (s0 : 0 ≤ s) (s1 : s < 18446744073709551616) (t0 : 0 ≤ t) (t1 : t < 18446744073709551616) (o0 : 0 ≤ o) (o1 : o ≤ 1) :
    hi = t ∧ lo = s := by
  have e := two_squares W X Y Z
  rw [← q1, ← q2, ← q3, ← q4, ← q5, ← q6, ← q7, ← q8] at e
  have e2 : p * p = (wy - xz) * (wy - xz) := by
    rcases hp with rfl | rfl
    · rfl
    · grind
  rw [← e2] at e
  generalize (ww + xx) * (yy + zz) = A at *
  generalize p * p = C at *
  generalize (wz + xy) * (wz + xy) = D at *
  omega

set_option maxHeartbeats 4000000 in
set_option maxRecDepth 100000 in
theorem walk (a b c d : Int) (w0 : (Lit.int .u32 a).wf = true) (w1 : (Lit.int .u32 b).wf = true) (w2 : (Lit.int .u32 c).wf = true) (w3 : (Lit.int .u32 d).wf = true) (w : World) :
    Calls Try.prog 12 #[.int .u32 a, .int .u32 b, .int .u32 c, .int .u32 d] w fun e w'' => e = .returned (.bool true) ∧ Grown w w'' := by
  obtain ⟨ha, ha'⟩ := bounds_u32 w0
  obtain ⟨hb, hb'⟩ := bounds_u32 w1
  obtain ⟨hc, hc'⟩ := bounds_u32 w2
  obtain ⟨hd, hd'⟩ := bounds_u32 w3
  obtain ⟨W, eW, W0, W1⟩ : ∃ W : Int, a / 2 = W ∧ 0 ≤ W ∧ W ≤ 2147483647 := ⟨a / 2, rfl, by omega, by omega⟩
  obtain ⟨X, eX, X0, X1⟩ : ∃ X : Int, b / 2 = X ∧ 0 ≤ X ∧ X ≤ 2147483647 := ⟨b / 2, rfl, by omega, by omega⟩
  obtain ⟨Y, eY, Y0, Y1⟩ : ∃ Y : Int, c / 2 = Y ∧ 0 ≤ Y ∧ Y ≤ 2147483647 := ⟨c / 2, rfl, by omega, by omega⟩
  obtain ⟨Z, eZ, Z0, Z1⟩ : ∃ Z : Int, d / 2 = Z ∧ 0 ≤ Z ∧ Z ≤ 2147483647 := ⟨d / 2, rfl, by omega, by omega⟩
  go_enter Try.func12, Try.ntmps12
  go_wp2_with fail
  refine (mul64 _ _ _ (by omega) (by omega) (by omega) (by omega)).mono ?_
  rintro e w' ⟨hh, ww, rfl, rfl, hh0, hh1, ww0, ww1, hq⟩
  have lww : ww ≤ 4611686014132420609 := small W0 W1 W0 W1 hh0 hh1 hq ww0
  have Q1 := hide (small_eq W0 W1 W0 W1 hh0 hq ww0 ww1)
  clear hq hh0 hh1
  go_wp2_with fail
  refine (mul64 _ _ _ (by omega) (by omega) (by omega) (by omega)).mono ?_
  rintro e w' ⟨hh, xx, rfl, rfl, hh0, hh1, xx0, xx1, hq⟩
  have lxx : xx ≤ 4611686014132420609 := small X0 X1 X0 X1 hh0 hh1 hq xx0
  have Q2 := hide (small_eq X0 X1 X0 X1 hh0 hq xx0 xx1)
  clear hq hh0 hh1
  go_wp2_with fail
  refine (mul64 _ _ _ (by omega) (by omega) (by omega) (by omega)).mono ?_
  rintro e w' ⟨hh, yy, rfl, rfl, hh0, hh1, yy0, yy1, hq⟩
  have lyy : yy ≤ 4611686014132420609 := small Y0 Y1 Y0 Y1 hh0 hh1 hq yy0
  have Q3 := hide (small_eq Y0 Y1 Y0 Y1 hh0 hq yy0 yy1)
  clear hq hh0 hh1
  go_wp2_with fail
  refine (mul64 _ _ _ (by omega) (by omega) (by omega) (by omega)).mono ?_
  rintro e w' ⟨hh, zz, rfl, rfl, hh0, hh1, zz0, zz1, hq⟩
  have lzz : zz ≤ 4611686014132420609 := small Z0 Z1 Z0 Z1 hh0 hh1 hq zz0
  have Q4 := hide (small_eq Z0 Z1 Z0 Z1 hh0 hq zz0 zz1)
  clear hq hh0 hh1
  go_wp2_with fail
  refine (mul64 _ _ _ (by omega) (by omega) (by omega) (by omega)).mono ?_
  rintro e w' ⟨hi, lo, rfl, rfl, hi0, hi1, lo0, lo1, h1⟩
  have H1 := hide h1; clear h1
  go_wp2_with fail
  refine (mul64 _ _ _ (by omega) (by omega) (by omega) (by omega)).mono ?_
  rintro e w' ⟨hh, wy, rfl, rfl, hh0, hh1, wy0, wy1, hq⟩
  have lwy : wy ≤ 4611686014132420609 := small W0 W1 Y0 Y1 hh0 hh1 hq wy0
  have Q5 := hide (small_eq W0 W1 Y0 Y1 hh0 hq wy0 wy1)
  clear hq hh0 hh1
  go_wp2_with fail
  refine (mul64 _ _ _ (by omega) (by omega) (by omega) (by omega)).mono ?_
  rintro e w' ⟨hh, xz, rfl, rfl, hh0, hh1, xz0, xz1, hq⟩
  have lxz : xz ≤ 4611686014132420609 := small X0 X1 Z0 Z1 hh0 hh1 hq xz0
  have Q6 := hide (small_eq X0 X1 Z0 Z1 hh0 hq xz0 xz1)
  clear hq hh0 hh1
  go_wp2_with fail
  refine (mul64 _ _ _ (by omega) (by omega) (by omega) (by omega)).mono ?_
  rintro e w' ⟨hh, wz, rfl, rfl, hh0, hh1, wz0, wz1, hq⟩
  have lwz : wz ≤ 4611686014132420609 := small W0 W1 Z0 Z1 hh0 hh1 hq wz0
  have Q7 := hide (small_eq W0 W1 Z0 Z1 hh0 hq wz0 wz1)
  clear hq hh0 hh1
  go_wp2_with fail
  refine (mul64 _ _ _ (by omega) (by omega) (by omega) (by omega)).mono ?_
  rintro e w' ⟨hh, xy, rfl, rfl, hh0, hh1, xy0, xy1, hq⟩
  have lxy : xy ≤ 4611686014132420609 := small X0 X1 Y0 Y1 hh0 hh1 hq xy0
  have Q8 := hide (small_eq X0 X1 Y0 Y1 hh0 hq xy0 xy1)
  clear hq hh0 hh1
  by_cases hlt : wy < xz
  · have hlt' : xz > wy := hlt
    go_wp2_with fail
    refine (mul64 _ _ _ (by omega) (by omega) (by omega) (by omega)).mono ?_
    rintro e w' ⟨h, l, rfl, rfl, g0, g1, l0, l1, h2⟩
    have H2 := hide h2; clear h2
    go_wp2_with fail
    refine (mul64 _ _ _ (by omega) (by omega) (by omega) (by omega)).mono ?_
    rintro e w' ⟨high, low, rfl, rfl, high0, high1, low0, low1, h3⟩
    have H3 := hide h3; clear h3
    go_wp2_with fail
    refine (add64 _ _ _ _ (by omega) (by omega) (by omega) (by omega) (by omega) (by omega)).mono ?_
    rintro e w' ⟨s, cc, rfl, rfl, s0, s1, c0, c1, h4⟩
    have H4 := hide h4; clear h4
    go_wp2_with fail
    refine (add64 _ _ _ _ (by omega) (by omega) (by omega) (by omega) (by omega) (by omega)).mono ?_
    rintro e w' ⟨t, o, rfl, rfl, t0, t1, o0, o1, h5⟩
    have E := ends Q1.out Q2.out Q3.out Q4.out Q5.out Q6.out Q7.out Q8.out (Or.inr rfl) H1.out H2.out H3.out H4.out h5 lo0 lo1 hi0 hi1 s0 s1 t0 t1 o0 o1
    obtain ⟨rfl, rfl⟩ := E
    clear h5 H1 H2 H3 H4 Q1 Q2 Q3 Q4 Q5 Q6 Q7 Q8
    go_wp2_with fail
    refine (mul64 _ _ _ (by omega) (by omega) (by omega) (by omega)).mono ?_
    rintro e w' ⟨z, one, rfl, rfl, z0, z1, u0, u1, h6⟩
    obtain rfl : one = 1 := by omega
    clear h6
    go_wp2
    go_ret
    exact said rfl (Grown.refl _)
  · by_cases hgt : xz < wy
    · have hgt' : wy > xz := hgt
      go_wp2_with fail
      refine (mul64 _ _ _ (by omega) (by omega) (by omega) (by omega)).mono ?_
      rintro e w' ⟨h, l, rfl, rfl, g0, g1, l0, l1, h2⟩
      have H2 := hide h2; clear h2
      go_wp2_with fail
      refine (mul64 _ _ _ (by omega) (by omega) (by omega) (by omega)).mono ?_
      rintro e w' ⟨high, low, rfl, rfl, high0, high1, low0, low1, h3⟩
      have H3 := hide h3; clear h3
      go_wp2_with fail
      refine (add64 _ _ _ _ (by omega) (by omega) (by omega) (by omega) (by omega) (by omega)).mono ?_
      rintro e w' ⟨s, cc, rfl, rfl, s0, s1, c0, c1, h4⟩
      have H4 := hide h4; clear h4
      go_wp2_with fail
      refine (add64 _ _ _ _ (by omega) (by omega) (by omega) (by omega) (by omega) (by omega)).mono ?_
      rintro e w' ⟨t, o, rfl, rfl, t0, t1, o0, o1, h5⟩
      have E := ends Q1.out Q2.out Q3.out Q4.out Q5.out Q6.out Q7.out Q8.out (Or.inl rfl) H1.out H2.out H3.out H4.out h5 lo0 lo1 hi0 hi1 s0 s1 t0 t1 o0 o1
      obtain ⟨rfl, rfl⟩ := E
      clear h5 H1 H2 H3 H4 Q1 Q2 Q3 Q4 Q5 Q6 Q7 Q8
      go_wp2_with fail
      refine (mul64 _ _ _ (by omega) (by omega) (by omega) (by omega)).mono ?_
      rintro e w' ⟨z, one, rfl, rfl, z0, z1, u0, u1, h6⟩
      obtain rfl : one = 1 := by omega
      clear h6
      go_wp2
      go_ret
      exact said rfl (Grown.refl _)
    · obtain rfl : xz = wy := by omega
      go_wp2_with fail
      refine (mul64 _ _ _ (by omega) (by omega) (by omega) (by omega)).mono ?_
      rintro e w' ⟨h, l, rfl, rfl, g0, g1, l0, l1, h2⟩
      have H2 := hide h2; clear h2
      go_wp2_with fail
      refine (mul64 _ _ _ (by omega) (by omega) (by omega) (by omega)).mono ?_
      rintro e w' ⟨high, low, rfl, rfl, high0, high1, low0, low1, h3⟩
      have H3 := hide h3; clear h3
      go_wp2_with fail
      refine (add64 _ _ _ _ (by omega) (by omega) (by omega) (by omega) (by omega) (by omega)).mono ?_
      rintro e w' ⟨s, cc, rfl, rfl, s0, s1, c0, c1, h4⟩
      have H4 := hide h4; clear h4
      go_wp2_with fail
      refine (add64 _ _ _ _ (by omega) (by omega) (by omega) (by omega) (by omega) (by omega)).mono ?_
      rintro e w' ⟨t, o, rfl, rfl, t0, t1, o0, o1, h5⟩
      have E := ends Q1.out Q2.out Q3.out Q4.out Q5.out Q6.out Q7.out Q8.out (Or.inl (by omega)) H1.out H2.out H3.out H4.out h5 lo0 lo1 hi0 hi1 s0 s1 t0 t1 o0 o1
      obtain ⟨rfl, rfl⟩ := E
      clear h5 H1 H2 H3 H4 Q1 Q2 Q3 Q4 Q5 Q6 Q7 Q8
      go_wp2_with fail
      refine (mul64 _ _ _ (by omega) (by omega) (by omega) (by omega)).mono ?_
      rintro e w' ⟨z, one, rfl, rfl, z0, z1, u0, u1, h6⟩
      obtain rfl : one = 1 := by omega
      clear h6
      go_wp2
      go_ret
      exact said rfl (Grown.refl _)

end Go.Proofs.Ytmfcmnhfbaennaa.fnTwoSquares
