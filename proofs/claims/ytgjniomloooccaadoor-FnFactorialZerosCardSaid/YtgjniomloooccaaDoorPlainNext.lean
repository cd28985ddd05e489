/-
  Plain facts on the next number with as many ones (no program in sight).
-/
import Derived.Test.YtgjniomloooccaaDoorPlain
import Derived.Lib.TrailingZeros
namespace Go.Proofs.Roads
/-! ### the next number with as many ones -/
theorem pop_shift (m n a b : Nat) (hb : b < 2 ^ m) : pop (m + n) (2 ^ m * a + b) = pop m b + pop n a := by
  rw [pop_add]
  congr 1
  · rw [← pop_mod m, Nat.mul_add_mod, Nat.mod_eq_of_lt hb]
  · rw [Nat.mul_add_div (Nat.two_pow_pos m), Nat.div_eq_of_lt hb, Nat.add_zero]
theorem pop_shift0 (m n a : Nat) : pop (m + n) (2 ^ m * a) = pop n a := by
  have h := pop_shift m n a 0 (Nat.two_pow_pos m)
  rw [pop_zero, Nat.zero_add] at h
  exact h
theorem pop_ones (n : Nat) : pop n (2 ^ n - 1) = n := by
  induction n with
  | zero => rfl
  | succ n ih =>
    have e : 2 ^ (n + 1) - 1 = 2 * (2 ^ n - 1) + 1 := by have := Nat.two_pow_pos n; rw [Nat.pow_succ]; omega
    simp only [pop]
    rw [e, show (2 * (2 ^ n - 1) + 1) % 2 = 1 by omega, show (2 * (2 ^ n - 1) + 1) / 2 = 2 ^ n - 1 by omega, ih]; omega
/-- More bits add no ones to a small number. -/
theorem pop_more (m n x : Nat) (h : x < 2 ^ m) : pop (m + n) x = pop m x := by
  have := pop_shift m n 0 x h
  rw [Nat.mul_zero, Nat.zero_add, pop_zero, Nat.add_zero] at this
  exact this

/-- A number that is not 0 has a lowest run of ones. -/
theorem run_of (n : Nat) : ∀ q, q < 2 ^ n → ∃ r h, q * 2 + 1 = 2 ^ (r + 1) * h + (2 ^ r - 1) ∧ 1 ≤ r := by
  induction n with
  | zero => intro q hq; simp at hq; subst hq; exact ⟨1, 0, rfl, Nat.le_refl _⟩
  | succ n ih =>
    intro q hq
    rcases Nat.mod_two_eq_zero_or_one q with e | e
    · refine ⟨1, q / 2, ?_, Nat.le_refl _⟩
      show q * 2 + 1 = 4 * (q / 2) + 1
      omega
    · obtain ⟨r, h, e1, e2⟩ := ih (q / 2) (by rw [Nat.pow_succ] at hq; omega)
      refine ⟨r + 1, h, ?_, by omega⟩
      have p := Nat.two_pow_pos r
      have a : 2 ^ (r + 1 + 1) * h = 2 * (2 ^ (r + 1) * h) := by rw [Nat.pow_succ 2 (r + 1), Nat.mul_comm (2 ^ (r + 1)) 2, Nat.mul_assoc]
      have b : 2 ^ (r + 1) = 2 * 2 ^ r := by rw [Nat.pow_succ, Nat.mul_comm]
      rw [a]
      omega

/-- The shape of a number with t zeros behind, and what its successor is. -/
theorem shape {N x t : Nat} (hx : x < 2 ^ N) (ht : IsTz x t) : ∃ r h, 1 ≤ r ∧ x = 2 ^ (t + r + 1) * h + 2 ^ t * (2 ^ r - 1) ∧ t + r ≤ N := by
  obtain ⟨m, rfl⟩ := ht
  obtain ⟨r, h, e, hr⟩ := run_of m m (Nat.lt_two_pow_self)
  refine ⟨r, h, hr, ?_, ?_⟩
  · rw [show 2 * m + 1 = m * 2 + 1 by omega, e, Nat.mul_add, ← Nat.mul_assoc, ← Nat.pow_add, Nat.add_assoc]
  · have l : 2 ^ (r - 1) ≤ 2 * m + 1 := by
      have p : 2 ^ r = 2 * 2 ^ (r - 1) := by rw [← Nat.pow_succ']; congr 1; omega
      have := Nat.two_pow_pos (r - 1)
      have : 2 ^ r - 1 ≤ m * 2 + 1 := by omega
      omega
    have : 2 ^ (t + (r - 1)) < 2 ^ N := by
      rw [Nat.pow_add]
      exact Nat.lt_of_le_of_lt (Nat.mul_le_mul_left _ l) hx
    have := (Nat.pow_lt_pow_iff_right (by omega : 1 < 2)).mp this
    omega

/-- The lowest one, added: the run moves up. -/
theorem up_eq {x t r h : Nat} (hx : x = 2 ^ (t + r + 1) * h + 2 ^ t * (2 ^ r - 1)) : x + 2 ^ t = 2 ^ (t + r + 1) * h + 2 ^ (t + r) := by
  have p := Nat.two_pow_pos r
  rw [hx, Nat.add_assoc, ← Nat.mul_succ, Nat.succ_eq_add_one, Nat.sub_add_cancel p, ← Nat.pow_add]

theorem xor_low {m a b c : Nat} (hb : b < 2 ^ m) (hc : c < 2 ^ m) : (2 ^ m * a + b) ^^^ (2 ^ m * a + c) = b ^^^ c := by
  apply Nat.eq_of_testBit_eq
  intro i
  rw [Nat.testBit_xor, Nat.testBit_two_pow_mul_add _ hb, Nat.testBit_two_pow_mul_add _ hc, Nat.testBit_xor]
  by_cases hi : i < m
  · simp [hi]
  · simp only [hi, if_false]
    rw [Nat.testBit_lt_two_pow (Nat.lt_of_lt_of_le hb (Nat.pow_le_pow_right (by omega) (by omega))), Nat.testBit_lt_two_pow (Nat.lt_of_lt_of_le hc (Nat.pow_le_pow_right (by omega) (by omega)))]
    simp

/-- The bits that the sum turns, moved down. -/
theorem turned {x t r h : Nat} (hr : 1 ≤ r) (hx : x = 2 ^ (t + r + 1) * h + 2 ^ t * (2 ^ r - 1)) : (x ^^^ (x + 2 ^ t)) / 2 ^ (2 + t) = 2 ^ (r - 1) - 1 := by
  have pr := Nat.two_pow_pos r
  have pt := Nat.two_pow_pos t
  have b1 : 2 ^ t * (2 ^ r - 1) < 2 ^ (t + r) := by
    rw [Nat.pow_add, Nat.mul_sub, Nat.mul_one]
    have : 2 ^ t ≤ 2 ^ t * 2 ^ r := Nat.le_mul_of_pos_right _ pr
    omega
  have b2 : 2 ^ (t + r) < 2 ^ (t + r + 1) := Nat.pow_lt_pow_right (by omega) (by omega)
  rw [up_eq hx, hx, xor_low (by omega) b2]
  have e : (2 ^ t * (2 ^ r - 1)) ^^^ 2 ^ (t + r) = 2 ^ t * (2 ^ (r + 1) - 1) := by
    rw [Nat.xor_comm]
    have a := Nat.two_pow_add_eq_or_of_lt b1 1
    rw [Nat.mul_one] at a
    have d : 2 ^ (t + r) &&& (2 ^ t * (2 ^ r - 1)) = 0 := by
      apply Nat.eq_of_testBit_eq
      intro i
      rw [Nat.testBit_and, Nat.zero_testBit, Nat.testBit_two_pow]
      by_cases hi : t + r = i
      · subst hi; rw [Nat.testBit_lt_two_pow b1]; simp
      · simp [hi]
    have s := add_eq (t + r + 1) (2 ^ (t + r)) (2 ^ t * (2 ^ r - 1)) b2 (by omega)
    rw [d, Nat.mul_zero, Nat.add_zero] at s
    rw [← s, Nat.pow_add, ← Nat.mul_add]
    congr 1
    rw [Nat.pow_succ]; omega
  rw [e, show 2 + t = t + 2 by omega, Nat.pow_add 2 t 2, ← Nat.div_div_eq_div_mul, Nat.mul_div_cancel_left _ pt]
  have p2 : 2 ^ (r + 1) = 4 * 2 ^ (r - 1) := by rw [show r + 1 = (r - 1) + 2 by omega, Nat.pow_add]; omega
  have := Nat.two_pow_pos (r - 1)
  show (2 ^ (r + 1) - 1) / 4 = _
  omega

theorem next_eq {x t r h : Nat} (hr : 1 ≤ r) (hx : x = 2 ^ (t + r + 1) * h + 2 ^ t * (2 ^ r - 1)) :
    (x + 2 ^ t) ||| ((x ^^^ (x + 2 ^ t)) / 2 ^ (2 + t)) = 2 ^ (t + r + 1) * h + 2 ^ (t + r) + (2 ^ (r - 1) - 1) := by
  rw [turned hr hx, up_eq hx]
  have l : 2 ^ (r - 1) - 1 < 2 ^ (t + r) := by
    have : 2 ^ (r - 1) ≤ 2 ^ (t + r) := Nat.pow_le_pow_right (by omega) (by omega)
    have := Nat.two_pow_pos (r - 1)
    omega
  have e : 2 ^ (t + r + 1) * h + 2 ^ (t + r) = 2 ^ (t + r) * (2 * h + 1) := by
    rw [Nat.pow_succ, Nat.mul_assoc, ← Nat.mul_succ]
  rw [e, ← Nat.two_pow_add_eq_or_of_lt l]

/-- The ones of such numbers. -/
theorem pop_shape {N x t r h : Nat} (hN : t + r + 1 ≤ N) (hx : x = 2 ^ (t + r + 1) * h + 2 ^ t * (2 ^ r - 1)) : pop N x = r + pop (N - (t + r + 1)) h := by
  have pt := Nat.two_pow_pos t
  have b1 : 2 ^ t * (2 ^ r - 1) < 2 ^ (t + r + 1) := by
    rw [show t + r + 1 = t + (r + 1) by omega, Nat.pow_add]
    exact Nat.mul_lt_mul_of_pos_left (by have := Nat.two_pow_pos r; rw [Nat.pow_succ]; omega) pt
  have e : N = (t + r + 1) + (N - (t + r + 1)) := by omega
  rw [e, hx, pop_shift _ _ _ _ b1, ← e]
  congr 1
  have a := pop_shift0 t (r + 1) (2 ^ r - 1)
  rw [← Nat.add_assoc] at a
  rw [a, pop_more r 1 _ (by have := Nat.two_pow_pos r; omega), pop_ones]

theorem pop_next {N t r h y : Nat} (hr : 1 ≤ r) (hN : t + r + 1 ≤ N) (hy : y = 2 ^ (t + r + 1) * h + 2 ^ (t + r) + (2 ^ (r - 1) - 1)) : pop N y = r + pop (N - (t + r + 1)) h := by
  have l : 2 ^ (r - 1) - 1 < 2 ^ (t + r) := by
    have : 2 ^ (r - 1) ≤ 2 ^ (t + r) := Nat.pow_le_pow_right (by omega) (by omega)
    have := Nat.two_pow_pos (r - 1)
    omega
  have b : 2 ^ (t + r) + (2 ^ (r - 1) - 1) < 2 ^ (t + r + 1) := by rw [Nat.pow_succ]; omega
  have e : N = (t + r + 1) + (N - (t + r + 1)) := by omega
  rw [e, hy, Nat.add_assoc (2 ^ (t + r + 1) * h), pop_shift _ _ _ _ b, ← e]
  congr 1
  have a := pop_shift (t + r) 1 1 (2 ^ (r - 1) - 1) l
  rw [Nat.mul_one] at a
  rw [a]
  have c : t + r = (r - 1) + (t + 1) := by omega
  rw [c, pop_more (r - 1) (t + 1) _ (by have := Nat.two_pow_pos (r - 1); omega), pop_ones]
  simp [pop]
  omega

/-- Nothing between has as many ones. -/
theorem none_between {N x t r h y z : Nat} (hr : 1 ≤ r) (hN : t + r + 1 ≤ N) (hx : x = 2 ^ (t + r + 1) * h + 2 ^ t * (2 ^ r - 1)) (hy : y = 2 ^ (t + r + 1) * h + 2 ^ (t + r) + (2 ^ (r - 1) - 1)) (h1 : x < z) (h2 : z < y) : pop N z ≠ pop N x := by
  intro hp
  have px := pop_shape hN hx
  have pt := Nat.two_pow_pos t
  have pr := Nat.two_pow_pos r
  have l : 2 ^ (r - 1) - 1 < 2 ^ (t + r) := by
    have : 2 ^ (r - 1) ≤ 2 ^ (t + r) := Nat.pow_le_pow_right (by omega) (by omega)
    have := Nat.two_pow_pos (r - 1)
    omega
  have d : 2 ^ (t + r + 1) = 2 * 2 ^ (t + r) := by rw [Nat.pow_succ, Nat.mul_comm]
  have e : N = (t + r + 1) + (N - (t + r + 1)) := by omega
  obtain ⟨v, rfl⟩ : ∃ v, z = 2 ^ (t + r + 1) * h + v := ⟨z - 2 ^ (t + r + 1) * h, by omega⟩
  have lv : v < 2 ^ (t + r + 1) := by omega
  have pz : pop N (2 ^ (t + r + 1) * h + v) = pop (t + r + 1) v + pop (N - (t + r + 1)) h := by
    rw [e, pop_shift _ _ _ _ lv, ← e]
  have hv : pop (t + r + 1) v = r := by omega
  by_cases c : v < 2 ^ (t + r)
  · obtain ⟨u, rfl⟩ : ∃ u, v = 2 ^ t * (2 ^ r - 1) + u := ⟨v - 2 ^ t * (2 ^ r - 1), by omega⟩
    have lu : u < 2 ^ t := by
      rw [Nat.pow_add, show 2 ^ t * 2 ^ r = 2 ^ t * (2 ^ r - 1) + 2 ^ t by rw [← Nat.mul_succ]; congr 1; omega] at c
      omega
    have a := pop_shift t (r + 1) (2 ^ r - 1) u lu
    rw [← Nat.add_assoc] at a
    rw [a, pop_more r 1 _ (by omega), pop_ones] at hv
    have := pop_pos t u (by omega) lu
    omega
  · obtain ⟨u, rfl⟩ : ∃ u, v = 2 ^ (t + r) * 1 + u := ⟨v - 2 ^ (t + r), by omega⟩
    have lu : u < 2 ^ (t + r) := by omega
    have a := pop_shift (t + r) 1 1 u lu
    rw [a] at hv
    have b := pop_least (t + r) u
    have o : pop 1 1 = 1 := rfl
    rw [o] at hv
    have q : pop (t + r) u = r - 1 := by omega
    rw [q] at b
    omega

/-- If the sum is carried, nothing greater has as many. -/
theorem none_above {N x t z : Nat} (ht : IsTz x t) (hx : x < 2 ^ N) (hup : 2 ^ N ≤ x + 2 ^ t) (hz : z < 2 ^ N) (h1 : x < z) : pop N z ≠ pop N x := by
  intro hp
  obtain ⟨r, h, hr, e, hN⟩ := shape hx ht
  have u := up_eq e
  have pr := Nat.two_pow_pos r
  have pt := Nat.two_pow_pos t
  -- then h is 0 and t + r = N
  have hh : t + r = N ∧ h = 0 := by
    rcases Nat.lt_or_ge (t + r) N with c | c
    · exfalso
      have d : 2 ^ N = 2 ^ (t + r + 1) * 2 ^ (N - (t + r + 1)) := by rw [← Nat.pow_add]; congr 1; omega
      have p1 : 2 ^ t * (2 ^ r - 1) + 2 ^ t = 2 ^ (t + r) := by rw [← Nat.mul_succ, Nat.pow_add]; congr 1; omega
      have p2 : 2 ^ (t + r + 1) = 2 * 2 ^ (t + r) := by rw [Nat.pow_succ, Nat.mul_comm]
      have p3 := Nat.two_pow_pos (t + r)
      have : h < 2 ^ (N - (t + r + 1)) := by
        apply Nat.lt_of_mul_lt_mul_left (a := 2 ^ (t + r + 1))
        rw [← d]; omega
      have : 2 ^ (t + r + 1) * (h + 1) ≤ 2 ^ N := by rw [d]; exact Nat.mul_le_mul_left _ this
      rw [Nat.mul_succ] at this
      omega
    · have c' : t + r = N := by omega
      refine ⟨c', ?_⟩
      rcases Nat.eq_zero_or_pos h with z | z
      · exact z
      · exfalso
        rw [c'] at e
        have : 2 ^ (N + 1) ≤ 2 ^ (N + 1) * h := Nat.le_mul_of_pos_right _ z
        have : 2 ^ N < 2 ^ (N + 1) := Nat.pow_lt_pow_right (by omega) (by omega)
        omega
  obtain ⟨rfl, rfl⟩ := hh
  rw [Nat.mul_zero, Nat.zero_add] at e
  obtain ⟨v, rfl⟩ : ∃ v, z = 2 ^ t * (2 ^ r - 1) + v := ⟨z - x, by omega⟩
  have lv : v < 2 ^ t := by
    rw [Nat.pow_add, show 2 ^ t * 2 ^ r = 2 ^ t * (2 ^ r - 1) + 2 ^ t by rw [← Nat.mul_succ]; congr 1; omega] at hz
    omega
  rw [pop_shift t r _ v lv, e] at hp
  have a := pop_shift0 t r (2 ^ r - 1)
  rw [a] at hp
  have := pop_pos t v (by omega) lv
  omega

/-- The lowest one of a number. -/
theorem low_and {N X : Nat} (h0 : 0 < X) (h : X < 2 ^ N) : ∃ t, IsTz X t ∧ t < N ∧ X &&& (2 ^ N - X) = 2 ^ t := by
  obtain ⟨hlow, hk⟩ := Lib.lowest_bit N X (by omega) h
  obtain ⟨m, hm, _⟩ := Lib.ctzFrom_spec N X h0 h
  have e : Lib.ctz N X = Lib.ctzFrom N X := by unfold Lib.ctz; rw [if_neg (by omega)]
  exact ⟨Lib.ctz N X, ⟨m, by rw [e]; exact hm⟩, hk, hlow⟩

/-- The whole step, where the sum is not carried. -/
theorem next_all {N X t U Y : Nat} (ht : IsTz X t) (hX : X < 2 ^ N) (hU : U = X + 2 ^ t) (lU : U < 2 ^ N) (hY : Y = U ||| ((X ^^^ U) / 2 ^ (2 + t))) :
    2 + t ≤ N ∧ X < Y ∧ Y < 2 ^ N ∧ pop N Y = pop N X ∧ ∀ z, X < z → z < Y → pop N z ≠ pop N X := by
  obtain ⟨r, h, hr, e, hN⟩ := shape hX ht
  have u := up_eq e
  rw [← hU] at u
  have n : t + r + 1 ≤ N := by
    have : 2 ^ (t + r) < 2 ^ N := by omega
    have := (Nat.pow_lt_pow_iff_right (by omega : 1 < 2)).mp this
    omega
  have y := next_eq hr e
  rw [← hU, ← hY] at y
  have pt := Nat.two_pow_pos t
  have l : 2 ^ (r - 1) - 1 < 2 ^ (t + r) := by
    have : 2 ^ (r - 1) ≤ 2 ^ (t + r) := Nat.pow_le_pow_right (by omega) (by omega)
    have := Nat.two_pow_pos (r - 1)
    omega
  refine ⟨by omega, by omega, ?_, ?_, ?_⟩
  · rw [hY]
    exact Nat.or_lt_two_pow lU (Nat.lt_of_le_of_lt (Nat.div_le_self _ _) (Nat.xor_lt_two_pow hX lU))
  · rw [pop_next hr n y, pop_shape n e]
  · intro z h1 h2
    exact none_between hr n e y h1 h2
end Go.Proofs.Roads
