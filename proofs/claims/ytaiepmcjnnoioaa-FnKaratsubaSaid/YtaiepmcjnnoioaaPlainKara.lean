/-
  Numbers of three and of four words; a product by four products and by three.
-/
import Derived.Test.YtaiepmcjnnoioaaAddWords
import Derived.Test.YtaiepmcjnnoioaaSubWords
namespace Go.Proofs.Ytaiepmcjnnoioaa
set_option linter.unusedVariables false
/-- A word. -/
def Wd (x : Int) : Prop := 0 ≤ x ∧ x < 18446744073709551616
/-- The number of three words; of four. -/
def v3 (a b c : Int) : Int := a + 18446744073709551616 * (b + 18446744073709551616 * c)
def v4 (a b c d : Int) : Int := a + 18446744073709551616 * v3 b c d
theorem add_word {x y c : Int} (hx : Wd x) (hy : Wd y) (h0 : 0 ≤ c) (h1 : c ≤ 1) : ∃ s o, (x + y + c) % 18446744073709551616 = s ∧ (x + y + c) / 18446744073709551616 = o ∧ Wd s ∧ 0 ≤ o ∧ o ≤ 1 ∧ s + 18446744073709551616 * o = x + y + c := by
  unfold Wd at *
  exact ⟨_, _, rfl, rfl, by omega, by omega, by omega, by omega⟩
theorem sub_word {x y c : Int} (hx : Wd x) (hy : Wd y) (h0 : 0 ≤ c) (h1 : c ≤ 1) : ∃ s o : Int, (x - y - c) % 18446744073709551616 = s ∧ (if x < y + c then 1 else 0) = o ∧ Wd s ∧ 0 ≤ o ∧ o ≤ 1 ∧ s - 18446744073709551616 * o = x - y - c := by
  unfold Wd at *
  refine ⟨_, _, rfl, rfl, ?_⟩
  split <;> omega
theorem sum4 {a0 a1 a2 a3 b0 b1 b2 b3 : Int} (p0 : Wd a0) (p1 : Wd a1) (p2 : Wd a2) (p3 : Wd a3) (q0 : Wd b0) (q1 : Wd b1) (q2 : Wd b2) (q3 : Wd b3) :
    ∃ s0 s1 s2 s3 o, sumK [a0, a1, a2, a3] [b0, b1, b2, b3] 0 4 = ([s0, s1, s2, s3], o) ∧ Wd s0 ∧ Wd s1 ∧ Wd s2 ∧ Wd s3 ∧ 0 ≤ o ∧ o ≤ 1 ∧
      v4 s0 s1 s2 s3 + 115792089237316195423570985008687907853269984665640564039457584007913129639936 * o = v4 a0 a1 a2 a3 + v4 b0 b1 b2 b3 := by
  obtain ⟨s0, o0, e0, f0, w0, l0, m0, r0⟩ := add_word p0 q0 (c := 0) (by omega) (by omega)
  obtain ⟨s1, o1, e1, f1, w1, l1, m1, r1⟩ := add_word p1 q1 l0 m0
  obtain ⟨s2, o2, e2, f2, w2, l2, m2, r2⟩ := add_word p2 q2 l1 m1
  obtain ⟨s3, o3, e3, f3, w3, l3, m3, r3⟩ := add_word p3 q3 l2 m2
  refine ⟨s0, s1, s2, s3, o3, ?_, w0, w1, w2, w3, l3, m3, ?_⟩
  · simp only [sumK, List.getD_cons_zero, List.getD_cons_succ, List.nil_append, List.cons_append, e0, f0, e1, f1, e2, f2, e3, f3]
  · clear e0 e1 e2 e3 f0 f1 f2 f3
    unfold v4 v3
    grind
theorem sum3 {a0 a1 a2 b0 b1 b2 : Int} (p0 : Wd a0) (p1 : Wd a1) (p2 : Wd a2) (q0 : Wd b0) (q1 : Wd b1) (q2 : Wd b2) :
    ∃ s0 s1 s2 o, sumK [a0, a1, a2] [b0, b1, b2] 0 3 = ([s0, s1, s2], o) ∧ Wd s0 ∧ Wd s1 ∧ Wd s2 ∧ 0 ≤ o ∧ o ≤ 1 ∧
      v3 s0 s1 s2 + 6277101735386680763835789423207666416102355444464034512896 * o = v3 a0 a1 a2 + v3 b0 b1 b2 := by
  obtain ⟨s0, o0, e0, f0, w0, l0, m0, r0⟩ := add_word p0 q0 (c := 0) (by omega) (by omega)
  obtain ⟨s1, o1, e1, f1, w1, l1, m1, r1⟩ := add_word p1 q1 l0 m0
  obtain ⟨s2, o2, e2, f2, w2, l2, m2, r2⟩ := add_word p2 q2 l1 m1
  refine ⟨s0, s1, s2, o2, ?_, w0, w1, w2, l2, m2, ?_⟩
  · simp only [sumK, List.getD_cons_zero, List.getD_cons_succ, List.nil_append, List.cons_append, e0, f0, e1, f1, e2, f2]
  · clear e0 e1 e2 f0 f1 f2
    unfold v3
    grind
theorem diff3 {a0 a1 a2 b0 b1 b2 : Int} (p0 : Wd a0) (p1 : Wd a1) (p2 : Wd a2) (q0 : Wd b0) (q1 : Wd b1) (q2 : Wd b2) :
    ∃ s0 s1 s2 o, diffK [a0, a1, a2] [b0, b1, b2] 0 3 = ([s0, s1, s2], o) ∧ Wd s0 ∧ Wd s1 ∧ Wd s2 ∧ 0 ≤ o ∧ o ≤ 1 ∧
      v3 s0 s1 s2 - 6277101735386680763835789423207666416102355444464034512896 * o = v3 a0 a1 a2 - v3 b0 b1 b2 := by
  obtain ⟨s0, o0, e0, f0, w0, l0, m0, r0⟩ := sub_word p0 q0 (c := 0) (by omega) (by omega)
  obtain ⟨s1, o1, e1, f1, w1, l1, m1, r1⟩ := sub_word p1 q1 l0 m0
  obtain ⟨s2, o2, e2, f2, w2, l2, m2, r2⟩ := sub_word p2 q2 l1 m1
  refine ⟨s0, s1, s2, o2, ?_, w0, w1, w2, l2, m2, ?_⟩
  · simp only [diffK, List.getD_cons_zero, List.getD_cons_succ, List.nil_append, List.cons_append, e0, f0, e1, f1, e2, f2]
  · clear e0 e1 e2 f0 f1 f2
    unfold v3
    grind
theorem v3_bounds {a b c : Int} (h0 : Wd a) (h1 : Wd b) (h2 : Wd c) : 0 ≤ v3 a b c ∧ v3 a b c < 6277101735386680763835789423207666416102355444464034512896 := by
  unfold Wd v3 at *; omega
theorem v4_bounds {a b c d : Int} (h0 : Wd a) (h1 : Wd b) (h2 : Wd c) (h3 : Wd d) : 0 ≤ v4 a b c d ∧ v4 a b c d < 115792089237316195423570985008687907853269984665640564039457584007913129639936 := by
  have := v3_bounds h1 h2 h3
  unfold Wd v4 at *; omega
theorem one_word {a S b T : Int} (h0 : Wd a) (h1 : Wd b) (h : a + 18446744073709551616 * S = b + 18446744073709551616 * T) : a = b ∧ S = T := by
  unfold Wd at *; omega
theorem v4_inj {a b c d a' b' c' d' : Int} (h0 : Wd a) (h1 : Wd b) (h2 : Wd c) (k0 : Wd a') (k1 : Wd b') (k2 : Wd c') (h : v4 a b c d = v4 a' b' c' d') : [a, b, c, d] = [a', b', c', d'] := by
  obtain ⟨rfl, g⟩ := one_word h0 k0 h
  obtain ⟨rfl, g'⟩ := one_word h1 k1 g
  obtain ⟨rfl, rfl⟩ := one_word h2 k2 g'
  rfl
/-- A product of two words is less than all words' number, squared. -/
theorem mul_le {x y m n : Int} (hx : 0 ≤ x) (hx' : x ≤ m) (hy : 0 ≤ y) (hy' : y ≤ n) : 0 ≤ x * y ∧ x * y ≤ m * n :=
  ⟨Int.mul_nonneg hx hy, Int.mul_le_mul hx' hy' hy (Int.le_trans hx hx')⟩

theorem fit {V M o T : Int} (hM : 0 < M) (h : V + M * o = T) (h0 : 0 ≤ V) (h1 : V < M) (o0 : 0 ≤ o) (o1 : o ≤ 1) (t1 : T < M) : V = T ∧ o = 0 := by
  have : o = 0 ∨ o = 1 := by omega
  rcases this with rfl | rfl <;> omega
theorem fit' {V M o T : Int} (hM : 0 < M) (h : V - M * o = T) (h0 : 0 ≤ V) (h1 : V < M) (o0 : 0 ≤ o) (o1 : o ≤ 1) (t0 : 0 ≤ T) : V = T := by
  have : o = 0 ∨ o = 1 := by omega
  rcases this with rfl | rfl <;> omega
theorem wd_mul {x y : Int} (hx : Wd x) (hy : Wd y) : 0 ≤ x * y ∧ x * y ≤ 340282366920938463426481119284349108225 := by
  have := mul_le hx.1 (show x ≤ 18446744073709551615 by have := hx.2; omega) hy.1 (show y ≤ 18446744073709551615 by have := hy.2; omega)
  exact this
/-- By four products. -/
theorem kara_all {a b c d ld0 ld1 hd0 hd1 lc0 lc1 hc0 hc1 VL oL VH oH VA oA : Int} (ha : Wd a) (hb : Wd b) (hc : Wd c) (hd : Wd d)
    (e1 : hd0 * 18446744073709551616 + ld0 = b * d) (e2 : hd1 * 18446744073709551616 + ld1 = a * d) (e3 : hc0 * 18446744073709551616 + lc0 = b * c) (e4 : hc1 * 18446744073709551616 + lc1 = a * c)
    (VL0 : 0 ≤ VL ∧ VL < 115792089237316195423570985008687907853269984665640564039457584007913129639936) (oL0 : 0 ≤ oL) (oL1 : oL ≤ 1)
    (e5 : VL + 115792089237316195423570985008687907853269984665640564039457584007913129639936 * oL = v4 ld0 ld1 0 0 + v4 0 hd0 hd1 0)
    (VH0 : 0 ≤ VH ∧ VH < 115792089237316195423570985008687907853269984665640564039457584007913129639936) (oH0 : 0 ≤ oH) (oH1 : oH ≤ 1)
    (e6 : VH + 115792089237316195423570985008687907853269984665640564039457584007913129639936 * oH = v4 0 lc0 lc1 0 + v4 0 0 hc0 hc1)
    (VA0 : 0 ≤ VA ∧ VA < 115792089237316195423570985008687907853269984665640564039457584007913129639936) (oA0 : 0 ≤ oA) (oA1 : oA ≤ 1)
    (e7 : VA + 115792089237316195423570985008687907853269984665640564039457584007913129639936 * oA = VL + VH) :
    VA = b * d + 18446744073709551616 * (a * d + b * c) + 340282366920938463463374607431768211456 * (a * c) := by
  have b1 := wd_mul hb hd
  have b2 := wd_mul ha hd
  have b3 := wd_mul hb hc
  have b4 := wd_mul ha hc
  have t1 : v4 ld0 ld1 0 0 + v4 0 hd0 hd1 0 = b * d + 18446744073709551616 * (a * d) := by rw [← e1, ← e2]; unfold v4 v3; omega
  have t2 : v4 0 lc0 lc1 0 + v4 0 0 hc0 hc1 = 18446744073709551616 * (b * c) + 340282366920938463463374607431768211456 * (a * c) := by rw [← e3, ← e4]; unfold v4 v3; omega
  rw [t1] at e5
  rw [t2] at e6
  clear e1 e2 e3 e4 t1 t2 ha hb hc hd
  generalize b * d = p at *
  generalize a * d = q at *
  generalize b * c = r at *
  generalize a * c = s at *
  obtain ⟨f1, _⟩ := fit (by decide) e5 VL0.1 VL0.2 oL0 oL1 (by omega)
  obtain ⟨f2, _⟩ := fit (by decide) e6 VH0.1 VH0.2 oH0 oH1 (by omega)
  rw [f1, f2] at e7
  clear e5 e6 f1 f2 VL0 VH0 oL0 oL1 oH0 oH1
  obtain ⟨f3, _⟩ := fit (by decide) e7 VA0.1 VA0.2 oA0 oA1 (by omega)
  rw [f3]
  omega
/-- The middle one of three products. -/
theorem kara_mid {a b c d s cs t ct : Int} (ha : Wd a) (hb : Wd b) (hc : Wd c) (hd : Wd d) (es : s + 18446744073709551616 * cs = a + b) (et : t + 18446744073709551616 * ct = c + d) :
    s * t + 18446744073709551616 * (cs * t) + 18446744073709551616 * (ct * s) + 340282366920938463463374607431768211456 * (cs * ct) = b * d + a * c + (a * d + b * c) := by
  have : (s + 18446744073709551616 * cs) * (t + 18446744073709551616 * ct) = (a + b) * (c + d) := by rw [es, et]
  grind
/-- By three products. -/
theorem kara_out {a b c d l0 h0 l2 h2 m0 m1 m2 VO oO : Int} (ha : Wd a) (hb : Wd b) (hc : Wd c) (hd : Wd d)
    (e1 : h0 * 18446744073709551616 + l0 = b * d) (e2 : h2 * 18446744073709551616 + l2 = a * c) (e3 : v3 m0 m1 m2 = a * d + b * c)
    (VO0 : 0 ≤ VO ∧ VO < 115792089237316195423570985008687907853269984665640564039457584007913129639936) (oO0 : 0 ≤ oO) (oO1 : oO ≤ 1)
    (e7 : VO + 115792089237316195423570985008687907853269984665640564039457584007913129639936 * oO = v4 l0 h0 l2 h2 + v4 0 m0 m1 m2) :
    VO = b * d + 18446744073709551616 * (a * d + b * c) + 340282366920938463463374607431768211456 * (a * c) ∧ oO = 0 := by
  have b1 := wd_mul hb hd
  have b2 := wd_mul ha hd
  have b3 := wd_mul hb hc
  have b4 := wd_mul ha hc
  have t1 : v4 l0 h0 l2 h2 + v4 0 m0 m1 m2 = b * d + 18446744073709551616 * (a * d + b * c) + 340282366920938463463374607431768211456 * (a * c) := by rw [← e1, ← e2, ← e3]; unfold v4 v3; omega
  rw [t1] at e7
  clear e1 e2 e3 t1 ha hb hc hd
  generalize b * d = p at *
  generalize a * d = q at *
  generalize b * c = r at *
  generalize a * c = s at *
  exact fit (by decide) e7 VO0.1 VO0.2 oO0 oO1 (by omega)
/-- What both roads come to, and that it fits. -/
theorem kara_val {a b c d l0 l1 g0 g1 l2 l3 g2 g3 : Int} (ha : Wd a) (hb : Wd b) (hc : Wd c) (hd : Wd d)
    (e1 : g0 * 18446744073709551616 + l0 = b * d) (e2 : g1 * 18446744073709551616 + l1 = a * d) (e3 : g2 * 18446744073709551616 + l2 = b * c) (e4 : g3 * 18446744073709551616 + l3 = a * c) :
    v4 l0 l1 0 0 + v4 0 g0 g1 0 + (v4 0 l2 l3 0 + v4 0 0 g2 g3) = b * d + 18446744073709551616 * (a * d + b * c) + 340282366920938463463374607431768211456 * (a * c) ∧
    v4 l0 l1 0 0 + v4 0 g0 g1 0 + (v4 0 l2 l3 0 + v4 0 0 g2 g3) < 115792089237316195423570985008687907853269984665640564039457584007913129639936 ∧
    v4 l0 l1 0 0 + v4 0 g0 g1 0 < 115792089237316195423570985008687907853269984665640564039457584007913129639936 ∧
    v4 0 l2 l3 0 + v4 0 0 g2 g3 < 115792089237316195423570985008687907853269984665640564039457584007913129639936 := by
  have b1 := wd_mul hb hd
  have b2 := wd_mul ha hd
  have b3 := wd_mul hb hc
  have b4 := wd_mul ha hc
  have t1 : v4 l0 l1 0 0 + v4 0 g0 g1 0 = b * d + 18446744073709551616 * (a * d) := by rw [← e1, ← e2]; unfold v4 v3; omega
  have t2 : v4 0 l2 l3 0 + v4 0 0 g2 g3 = 18446744073709551616 * (b * c) + 340282366920938463463374607431768211456 * (a * c) := by rw [← e3, ← e4]; unfold v4 v3; omega
  rw [t1, t2]
  clear e1 e2 e3 e4 t1 t2 ha hb hc hd
  generalize b * d = p at *
  generalize a * d = q at *
  generalize b * c = r at *
  generalize a * c = s at *
  refine ⟨by omega, by omega, by omega, by omega⟩
/-- The middle product, as the code adds it up and takes it off. -/
theorem kara_steps {a b c d s cs t ct l1 h1 l0 h0 l2 h2 : Int} (ha : Wd a) (hb : Wd b) (hc : Wd c) (hd : Wd d) (hs : Wd s) (ht : Wd t) (c0 : 0 ≤ cs) (c1 : cs ≤ 1) (d0 : 0 ≤ ct) (d1 : ct ≤ 1)
    (es : s + 18446744073709551616 * cs = a + b) (et : t + 18446744073709551616 * ct = c + d) (e1 : h1 * 18446744073709551616 + l1 = s * t) (e0 : h0 * 18446744073709551616 + l0 = b * d) (e2 : h2 * 18446744073709551616 + l2 = a * c) :
    v3 l1 h1 0 = s * t ∧ 0 ≤ s * t ∧ s * t ≤ 340282366920938463426481119284349108225 ∧ 0 ≤ cs * ct ∧ cs * ct ≤ 1 ∧ v3 l0 h0 0 = b * d ∧ v3 l2 h2 0 = a * c ∧
    s * t + cs * (18446744073709551616 * t) + ct * (18446744073709551616 * s) + v3 0 0 (cs * ct) = b * d + a * c + (a * d + b * c) ∧
    b * d + a * c + (a * d + b * c) < 6277101735386680763835789423207666416102355444464034512896 ∧ b * d ≤ b * d + a * c + (a * d + b * c) ∧ a * c ≤ b * d + a * c + (a * d + b * c) - b * d ∧ b * d + a * c + (a * d + b * c) - b * d - a * c = a * d + b * c := by
  have b1 := wd_mul hb hd
  have b2 := wd_mul ha hd
  have b3 := wd_mul hb hc
  have b4 := wd_mul ha hc
  have b5 := wd_mul hs ht
  have km := kara_mid ha hb hc hd es et
  have cc : 0 ≤ cs * ct ∧ cs * ct ≤ 1 := mul_le c0 c1 d0 d1
  refine ⟨by rw [← e1]; unfold v3; omega, b5.1, b5.2, cc.1, cc.2, by rw [← e0]; unfold v3; omega, by rw [← e2]; unfold v3; omega, ?_, by omega, by omega, by omega, by omega⟩
  rw [← km]
  unfold v3
  grind
end Go.Proofs.Ytaiepmcjnnoioaa
