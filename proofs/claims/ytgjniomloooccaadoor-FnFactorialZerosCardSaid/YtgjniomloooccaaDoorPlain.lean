/-
  Plain facts on natural numbers and their bits (no program in sight): ones, lengths, zeros behind, sums and carries.
-/
namespace Go.Proofs.Roads

/-- The ones among the lowest n bits. -/
def pop : Nat → Nat → Nat
  | 0, _ => 0
  | n + 1, x => x % 2 + pop n (x / 2)

theorem pop_zero (n : Nat) : pop n 0 = 0 := by
  induction n with
  | zero => rfl
  | succ n ih => simp [pop, ih]

theorem pop_le (n x : Nat) : pop n x ≤ n := by
  induction n generalizing x with
  | zero => simp [pop]
  | succ n ih => have := ih (x / 2); simp only [pop]; omega

theorem pop_add (m n x : Nat) : pop (m + n) x = pop m x + pop n (x / 2 ^ m) := by
  induction m generalizing x with
  | zero => simp [pop]
  | succ m ih =>
    rw [show m + 1 + n = (m + n) + 1 by omega]
    simp only [pop]
    rw [ih (x / 2), Nat.div_div_eq_div_mul, Nat.pow_succ, Nat.mul_comm 2]
    omega

theorem pop_mod (n x : Nat) : pop n (x % 2 ^ n) = pop n x := by
  induction n generalizing x with
  | zero => simp [pop]
  | succ n ih =>
    simp only [pop]
    have h1 : x % 2 ^ (n + 1) % 2 = x % 2 := Nat.mod_mod_of_dvd _ ⟨2 ^ n, by rw [Nat.pow_succ, Nat.mul_comm]⟩
    have h2 : x % 2 ^ (n + 1) / 2 = x / 2 % 2 ^ n := by
      rw [Nat.pow_succ, Nat.mul_comm, Nat.mod_mul_right_div_self]
    rw [h1, h2, ih]

/-- A number with r ones is at least 2 ^ r - 1. -/
theorem pop_least (n x : Nat) : 2 ^ pop n x ≤ x + 1 := by
  induction n generalizing x with
  | zero => simp [pop]
  | succ n ih =>
    have := ih (x / 2)
    simp only [pop]
    rcases Nat.mod_two_eq_zero_or_one x with h | h
    · rw [h, Nat.zero_add]; omega
    · rw [h, Nat.pow_add]; omega

theorem pop_pos (n x : Nat) (h0 : 0 < x) (h : x < 2 ^ n) : 0 < pop n x := by
  induction n generalizing x with
  | zero => simp at h; omega
  | succ n ih =>
    simp only [pop]
    rcases Nat.mod_two_eq_zero_or_one x with h1 | h1
    · have := ih (x / 2) (by omega) (by rw [Nat.pow_succ] at h; omega); omega
    · omega

theorem xor_half (a b : Nat) : (a ^^^ b) / 2 = (a / 2) ^^^ (b / 2) := by
  have := Nat.shiftRight_xor_distrib (a := a) (b := b) (i := 1)
  simpa [Nat.shiftRight_succ] using this
theorem and_half (a b : Nat) : (a &&& b) / 2 = (a / 2) &&& (b / 2) := by
  have := Nat.shiftRight_and_distrib (a := a) (b := b) (i := 1)
  simpa [Nat.shiftRight_succ] using this
theorem or_half (a b : Nat) : (a ||| b) / 2 = (a / 2) ||| (b / 2) := by
  have := Nat.shiftRight_or_distrib (a := a) (b := b) (i := 1)
  simpa [Nat.shiftRight_succ] using this
theorem xor_bit (a b : Nat) : (a ^^^ b) % 2 = (a % 2 + b % 2) % 2 := by
  have := Nat.xor_mod_two_pow (a := a) (b := b) (n := 1)
  simp only [Nat.pow_one] at this
  rw [this]
  rcases Nat.mod_two_eq_zero_or_one a with h | h <;> rcases Nat.mod_two_eq_zero_or_one b with h' | h' <;> rw [h, h'] <;> rfl
theorem and_bit (a b : Nat) : (a &&& b) % 2 = (a % 2) * (b % 2) := by
  have := Nat.and_mod_two_pow (a := a) (b := b) (n := 1)
  simp only [Nat.pow_one] at this
  rw [this]
  rcases Nat.mod_two_eq_zero_or_one a with h | h <;> rcases Nat.mod_two_eq_zero_or_one b with h' | h' <;> rw [h, h'] <;> rfl

/-- A sum is the bits that differ and twice the bits in common. -/
theorem add_eq (n : Nat) : ∀ x y : Nat, x < 2 ^ n → y < 2 ^ n → x + y = (x ^^^ y) + 2 * (x &&& y) := by
  induction n with
  | zero => intro x y hx hy; obtain rfl : x = 0 := by simp at hx; omega
            obtain rfl : y = 0 := by simp at hy; omega
            rfl
  | succ n ih =>
    intro x y hx hy
    have h := ih (x / 2) (y / 2) (by rw [Nat.pow_succ] at hx; omega) (by rw [Nat.pow_succ] at hy; omega)
    rw [← xor_half, ← and_half] at h
    have h1 := xor_bit x y
    have h2 := and_bit x y
    rcases Nat.mod_two_eq_zero_or_one x with a | a <;> rcases Nat.mod_two_eq_zero_or_one y with b | b <;> rw [a, b] at h1 h2 <;> omega

/-- The ones of two numbers and twice the carry in: those of the sum, the carries on the way, twice what is carried out. -/
theorem carries (n : Nat) : ∀ x y c : Nat, x < 2 ^ n → y < 2 ^ n → c ≤ 1 →
    pop n x + pop n y + 2 * c = pop n ((x + y + c) % 2 ^ n) + pop n (x ^^^ y ^^^ ((x + y + c) % 2 ^ n)) + 2 * ((x + y + c) / 2 ^ n) := by
  induction n with
  | zero => intro x y c hx hy hc; simp at hx hy; subst hx hy; simp [pop]
  | succ n ih =>
    intro x y c hx hy hc
    have hx' : x / 2 < 2 ^ n := by rw [Nat.pow_succ] at hx; omega
    have hy' : y / 2 < 2 ^ n := by rw [Nat.pow_succ] at hy; omega
    have e1 : (x + y + c) / 2 = x / 2 + y / 2 + (x % 2 + y % 2 + c) / 2 := by omega
    have h := ih (x / 2) (y / 2) ((x % 2 + y % 2 + c) / 2) hx' hy' (by omega)
    rw [← e1] at h
    have h1 : (x + y + c) % 2 ^ (n + 1) % 2 = (x + y + c) % 2 := Nat.mod_mod_of_dvd _ ⟨2 ^ n, by rw [Nat.pow_succ, Nat.mul_comm]⟩
    have h2 : (x + y + c) % 2 ^ (n + 1) / 2 = (x + y + c) / 2 % 2 ^ n := by
      rw [Nat.pow_succ, Nat.mul_comm, Nat.mod_mul_right_div_self]
    have h3 : (x + y + c) / 2 ^ (n + 1) = (x + y + c) / 2 / 2 ^ n := by
      rw [Nat.div_div_eq_div_mul, Nat.pow_succ, Nat.mul_comm]
    simp only [pop]
    rw [xor_half, xor_half, xor_bit, xor_bit, h1, h2, h3]
    generalize pop n ((x + y + c) / 2 % 2 ^ n) = A at *
    generalize pop n ((x / 2) ^^^ (y / 2) ^^^ ((x + y + c) / 2 % 2 ^ n)) = B at *
    generalize (x + y + c) / 2 / 2 ^ n = C at *
    omega



theorem pow_split (n s : Nat) (h : s ≤ n) : 2 ^ n = 2 ^ (n - s) * 2 ^ s := by rw [← Nat.pow_add]; congr 1; omega

/-- A rotation, as the code computes it: both parts laid over each other; and as a sum. -/
theorem rot_sum (n s x : Nat) (h : s ≤ n) (hx : x < 2 ^ n) : (x * 2 ^ s % 2 ^ n) ||| (x / 2 ^ (n - s)) = (x % 2 ^ (n - s)) * 2 ^ s + x / 2 ^ (n - s) := by
  have e : x * 2 ^ s % 2 ^ n = 2 ^ s * (x % 2 ^ (n - s)) := by rw [pow_split n s h, Nat.mul_mod_mul_right, Nat.mul_comm]
  have l : x / 2 ^ (n - s) < 2 ^ s := by
    apply Nat.div_lt_of_lt_mul; rw [← pow_split n s h]; exact hx
  rw [e, ← Nat.two_pow_add_eq_or_of_lt l, Nat.mul_comm]

def rot (n s x : Nat) : Nat := (x % 2 ^ (n - s)) * 2 ^ s + x / 2 ^ (n - s)

theorem rot_lt (n s x : Nat) (h : s ≤ n) (hx : x < 2 ^ n) : rot n s x < 2 ^ n := by
  unfold rot
  have l : x / 2 ^ (n - s) < 2 ^ s := by
    apply Nat.div_lt_of_lt_mul; rw [← pow_split n s h]; exact hx
  have m : x % 2 ^ (n - s) < 2 ^ (n - s) := Nat.mod_lt _ (Nat.two_pow_pos _)
  rw [pow_split n s h]
  generalize 2 ^ s = A at *
  generalize x / 2 ^ (n - s) = q at *
  have : (x % 2 ^ (n - s) + 1) * A ≤ 2 ^ (n - s) * A := Nat.mul_le_mul_right A (by omega)
  rw [Nat.add_mul, Nat.one_mul] at this
  omega

theorem rot_zero (n x : Nat) (hx : x < 2 ^ n) : rot n 0 x = x := by
  unfold rot; simp; rw [Nat.mod_eq_of_lt hx, Nat.div_eq_of_lt hx]; omega

/-- Back again. -/
theorem rot_back (n s x : Nat) (h : s ≤ n) (hx : x < 2 ^ n) : rot n (n - s) (rot n s x) = x := by
  have l : x / 2 ^ (n - s) < 2 ^ s := by
    apply Nat.div_lt_of_lt_mul; rw [← pow_split n s h]; exact hx
  have e : n - (n - s) = s := by omega
  unfold rot
  rw [e]
  have e1 : ((x % 2 ^ (n - s)) * 2 ^ s + x / 2 ^ (n - s)) % 2 ^ s = x / 2 ^ (n - s) := by
    rw [Nat.mul_comm, Nat.mul_add_mod, Nat.mod_eq_of_lt l]
  have e2 : ((x % 2 ^ (n - s)) * 2 ^ s + x / 2 ^ (n - s)) / 2 ^ s = x % 2 ^ (n - s) := by
    rw [Nat.mul_comm, Nat.mul_add_div (Nat.two_pow_pos _), Nat.div_eq_of_lt l, Nat.add_zero]
  rw [e1, e2]
  exact Nat.div_add_mod' x (2 ^ (n - s))

/-- Modulo 2 ^ n - 1 a rotation is a product with a power of 2: x * 2 ^ s = rot + (what wraps) * (2 ^ n - 1). -/
theorem rot_mod (n s x : Nat) (h : s ≤ n) : x * 2 ^ s + x / 2 ^ (n - s) = rot n s x + (x / 2 ^ (n - s)) * 2 ^ n := by
  unfold rot
  have := Nat.div_add_mod' x (2 ^ (n - s))
  rw [pow_split n s h]
  calc x * 2 ^ s + x / 2 ^ (n - s) = (x / 2 ^ (n - s) * 2 ^ (n - s) + x % 2 ^ (n - s)) * 2 ^ s + x / 2 ^ (n - s) := by rw [this]
    _ = _ := by rw [Nat.add_mul, Nat.mul_assoc]; omega

/-! ### lengths -/
def IsLen (x l : Nat) : Prop := x < 2 ^ l ∧ (l = 0 ∨ 2 ^ (l - 1) ≤ x)

theorem isLen_unique {x a b : Nat} (ha : IsLen x a) (hb : IsLen x b) : a = b := by
  obtain ⟨a1, a2⟩ := ha
  obtain ⟨b1, b2⟩ := hb
  rcases Nat.lt_trichotomy a b with h | h | h
  · rcases b2 with b2 | b2
    · omega
    · have : 2 ^ a ≤ 2 ^ (b - 1) := Nat.pow_le_pow_right (by omega) (by omega)
      omega
  · exact h
  · rcases a2 with a2 | a2
    · omega
    · have : 2 ^ b ≤ 2 ^ (a - 1) := Nat.pow_le_pow_right (by omega) (by omega)
      omega

theorem isLen_shift {x l : Nat} (k : Nat) (h : IsLen (x / 2 ^ k) l) (hl : l ≠ 0) : IsLen x (k + l) := by
  obtain ⟨u, d⟩ := h
  have d := d.resolve_left hl
  refine ⟨?_, Or.inr ?_⟩
  · rw [Nat.pow_add]
    exact (Nat.div_lt_iff_lt_mul (Nat.two_pow_pos k)).mp u |> fun h => by rw [Nat.mul_comm] at h; exact h
  · rw [show k + l - 1 = (l - 1) + k by omega, Nat.pow_add]
    exact (Nat.le_div_iff_mul_le (Nat.two_pow_pos k)).mp d

theorem isLen_ne {x l : Nat} (h : IsLen x l) (hx : x ≠ 0) : l ≠ 0 := by
  rintro rfl; obtain ⟨u, _⟩ := h; simp at u; omega

theorem isLen_le {x l n : Nat} (h : IsLen x l) (hx : x < 2 ^ n) : l ≤ n := by
  obtain ⟨u, d⟩ := h
  rcases d with d | d
  · omega
  · have := (Nat.pow_lt_pow_iff_right (by omega : 1 < 2)).mp (Nat.lt_of_le_of_lt d hx)
    omega

/-- A product is as long as both together, or one less. -/
theorem len_mul {x y a b l : Nat} (hx : IsLen x a) (hy : IsLen y b) (hl : IsLen (x * y) l) (x0 : x ≠ 0) (y0 : y ≠ 0) : 2 ≤ a + b ∧ (l = a + b ∨ l + 1 = a + b) := by
  obtain ⟨x1, x2⟩ := hx
  obtain ⟨y1, y2⟩ := hy
  have ha : a ≠ 0 := by rintro rfl; simp at x1; omega
  have hb : b ≠ 0 := by rintro rfl; simp at y1; omega
  have x2 := x2.resolve_left ha
  have y2 := y2.resolve_left hb
  have u : x * y < 2 ^ (a + b) := by rw [Nat.pow_add]; exact Nat.mul_lt_mul'' x1 y1
  have d : 2 ^ (a + b - 2) ≤ x * y := by
    rw [show a + b - 2 = (a - 1) + (b - 1) by omega, Nat.pow_add]; exact Nat.mul_le_mul x2 y2
  obtain ⟨l1, l2⟩ := hl
  refine ⟨by omega, ?_⟩
  have h1 : l ≤ a + b := by
    rcases l2 with l2 | l2
    · omega
    · have := Nat.lt_of_le_of_lt l2 u
      have := (Nat.pow_lt_pow_iff_right (by omega : 1 < 2)).mp this
      omega
  have h2 : a + b - 2 < l := (Nat.pow_lt_pow_iff_right (by omega : 1 < 2)).mp (Nat.lt_of_le_of_lt d l1)
  omega

/-- The length in two words. -/
theorem len_words {hi lo n a b : Nat} (hhi : IsLen hi a) (hlo : IsLen lo b) (h : lo < 2 ^ n) : IsLen (hi * 2 ^ n + lo) (if 0 < hi then n + a else b) := by
  by_cases h0 : 0 < hi
  · rw [if_pos h0]
    obtain ⟨u, d⟩ := hhi
    have ha : a ≠ 0 := by rintro rfl; simp at u; omega
    have d := d.resolve_left ha
    refine ⟨?_, Or.inr ?_⟩
    · rw [Nat.pow_add, Nat.mul_comm (2 ^ n)]
      have : (hi + 1) * 2 ^ n ≤ 2 ^ a * 2 ^ n := Nat.mul_le_mul_right _ (by omega)
      rw [Nat.add_mul, Nat.one_mul] at this; omega
    · rw [show n + a - 1 = (a - 1) + n by omega, Nat.pow_add]
      have := Nat.mul_le_mul_right (2 ^ n) d
      omega
  · rw [if_neg h0]
    obtain rfl : hi = 0 := by omega
    simpa using hlo

/-- A sum is as long as the longer one, or one longer; just as long without a bit in common. -/
theorem len_add {x y a b l : Nat} (hx : IsLen x a) (hy : IsLen y b) (hl : IsLen (x + y) l) : l = max a b ∨ (l = max a b + 1 ∧ x &&& y ≠ 0) := by
  obtain ⟨x1, x2⟩ := hx
  obtain ⟨y1, y2⟩ := hy
  have px : 2 ^ a ≤ 2 ^ max a b := Nat.pow_le_pow_right (by omega) (Nat.le_max_left _ _)
  have py : 2 ^ b ≤ 2 ^ max a b := Nat.pow_le_pow_right (by omega) (Nat.le_max_right _ _)
  have u : x + y < 2 ^ (max a b + 1) := by rw [Nat.pow_succ]; omega
  have d : max a b = 0 ∨ 2 ^ (max a b - 1) ≤ x + y := by
    rcases Nat.le_total a b with h | h
    · rw [Nat.max_eq_right h]; rcases y2 with y2 | y2
      · exact Or.inl y2
      · exact Or.inr (by omega)
    · rw [Nat.max_eq_left h]; rcases x2 with x2 | x2
      · exact Or.inl x2
      · exact Or.inr (by omega)
  by_cases hu : x + y < 2 ^ max a b
  · exact Or.inl (isLen_unique hl ⟨hu, d⟩)
  · right
    refine ⟨isLen_unique hl ⟨u, Or.inr (by simp; omega)⟩, ?_⟩
    intro hz
    apply hu
    have hs : x + y = x ^^^ y := by
      have := add_eq (max a b) x y (by omega) (by omega)
      rw [hz] at this; simpa using this
    rw [hs]
    exact Nat.xor_lt_two_pow (by omega) (by omega)

/-! ### zeros behind -/
def IsTz (x k : Nat) : Prop := ∃ m, x = 2 ^ k * (2 * m + 1)

theorem isTz_pos {x k : Nat} (h : IsTz x k) : 0 < x := by
  obtain ⟨m, rfl⟩ := h
  exact Nat.mul_pos (Nat.two_pow_pos _) (by omega)

theorem isTz_dvd_lt {x a b : Nat} (h : IsTz x a) (hd : 2 ^ b ∣ x) : b ≤ a := by
  obtain ⟨m, rfl⟩ := h
  rcases Nat.lt_or_ge a b with hlt | hge
  · exfalso
    have e : 2 ^ b = 2 ^ a * (2 * 2 ^ (b - a - 1)) := by rw [← Nat.pow_succ', ← Nat.pow_add]; congr 1; omega
    rw [e] at hd
    have := Nat.dvd_of_mul_dvd_mul_left (Nat.two_pow_pos a) hd
    obtain ⟨c, hc⟩ := this
    rw [Nat.mul_assoc] at hc
    omega
  · exact hge

theorem isTz_dvd {x a : Nat} (h : IsTz x a) : 2 ^ a ∣ x := by obtain ⟨m, rfl⟩ := h; exact Nat.dvd_mul_right _ _

theorem isTz_unique {x a b : Nat} (ha : IsTz x a) (hb : IsTz x b) : a = b :=
  Nat.le_antisymm (isTz_dvd_lt hb (isTz_dvd ha)) (isTz_dvd_lt ha (isTz_dvd hb))

theorem isTz_mul {x y a b : Nat} (ha : IsTz x a) (hb : IsTz y b) : IsTz (x * y) (a + b) := by
  obtain ⟨m, rfl⟩ := ha
  obtain ⟨n, rfl⟩ := hb
  refine ⟨2 * m * n + m + n, ?_⟩
  rw [Nat.pow_add, Nat.mul_mul_mul_comm]
  congr 1
  rw [Nat.add_mul, Nat.mul_add, Nat.mul_add, Nat.mul_add, Nat.mul_add, Nat.mul_mul_mul_comm, Nat.mul_one, Nat.one_mul, Nat.mul_assoc 2 m n]
  omega

theorem isTz_mod {x a n : Nat} (h : IsTz x a) (hn : a < n) : IsTz (x % 2 ^ n) a := by
  obtain ⟨m, rfl⟩ := h
  refine ⟨m % 2 ^ (n - a - 1), ?_⟩
  have e : 2 ^ n = 2 ^ a * (2 * 2 ^ (n - a - 1)) := by rw [← Nat.pow_succ', ← Nat.pow_add]; congr 1; omega
  rw [e, Nat.mul_mod_mul_left]
  congr 1
  have := Nat.mod_mul (x := 2 * m + 1) (a := 2) (b := 2 ^ (n - a - 1))
  rw [this]
  have : (2 * m + 1) / 2 = m := by omega
  rw [this]
  omega

theorem isTz_of_mod {x a n : Nat} (h : IsTz (x % 2 ^ n) a) (hn : a < n) : IsTz x a := by
  have hx := Nat.div_add_mod x (2 ^ n)
  obtain ⟨m, hm⟩ := h
  rw [hm] at hx
  have e : 2 ^ n = 2 ^ a * (2 * 2 ^ (n - a - 1)) := by rw [← Nat.pow_succ', ← Nat.pow_add]; congr 1; omega
  refine ⟨2 ^ (n - a - 1) * (x / 2 ^ n) + m, ?_⟩
  have e3 : 2 ^ n * (x / 2 ^ n) = 2 ^ a * (2 * (2 ^ (n - a - 1) * (x / 2 ^ n))) := by
    rw [← Nat.mul_assoc 2, ← Nat.mul_assoc (2 ^ a), ← e]
  have e4 : 2 ^ a * (2 * (2 ^ (n - a - 1) * (x / 2 ^ n) + m) + 1) = 2 ^ a * (2 * (2 ^ (n - a - 1) * (x / 2 ^ n))) + 2 ^ a * (2 * m + 1) := by
    rw [← Nat.mul_add]; congr 1; omega
  omega

/-- Zeros behind of a product in two words. -/
theorem tz_words {p n k : Nat} (h0 : p % 2 ^ n ≠ 0 → IsTz (p % 2 ^ n) k ∧ k < n) (h1 : p % 2 ^ n = 0 → ∃ j, IsTz (p / 2 ^ n) j ∧ k = n + j) : IsTz p k := by
  by_cases h : p % 2 ^ n = 0
  · obtain ⟨j, ⟨m, hm⟩, rfl⟩ := h1 h
    refine ⟨m, ?_⟩
    have := Nat.div_add_mod p (2 ^ n)
    rw [h, hm] at this
    rw [Nat.pow_add, Nat.mul_assoc]; omega
  · exact isTz_of_mod (h0 h).1 (h0 h).2

theorem tz_sum_ne {x y a b : Nat} (ha : IsTz x a) (hb : IsTz y b) (h : a < b) : IsTz (x + y) a := by
  obtain ⟨m, rfl⟩ := ha
  obtain ⟨k, rfl⟩ := hb
  have e : 2 ^ b = 2 ^ a * (2 * 2 ^ (b - a - 1)) := by rw [← Nat.pow_succ', ← Nat.pow_add]; congr 1; omega
  refine ⟨m + 2 ^ (b - a - 1) * (2 * k + 1), ?_⟩
  rw [e, Nat.mul_assoc, ← Nat.mul_add]
  congr 1
  rw [Nat.mul_assoc]; omega

theorem tz_sum_eq {x y a n : Nat} (ha : IsTz x a) (hb : IsTz y a) (h : a < n) : 2 ^ (a + 1) ∣ (x + y) % 2 ^ n := by
  obtain ⟨m, rfl⟩ := ha
  obtain ⟨k, rfl⟩ := hb
  refine (Nat.dvd_mod_iff (Nat.pow_dvd_pow 2 (by omega))).mpr ⟨m + k + 1, ?_⟩
  rw [Nat.pow_succ, ← Nat.mul_add, Nat.mul_assoc]
  congr 1; omega

/-! ### the highest bit in which two numbers differ -/
theorem lt_of_bit (i : Nat) : ∀ x y : Nat, x.testBit i = false → y.testBit i = true → (∀ j, i < j → x.testBit j = y.testBit j) → x < y := by
  intro x y hx hy h
  have e : x / 2 ^ (i + 1) = y / 2 ^ (i + 1) := by
    apply Nat.eq_of_testBit_eq
    intro j
    rw [Nat.testBit_div_two_pow, Nat.testBit_div_two_pow]
    exact h _ (by omega)
  rw [Nat.testBit_eq_decide_div_mod_eq] at hx hy
  have hx := of_decide_eq_false hx
  have hy := of_decide_eq_true hy
  have d1 := Nat.div_add_mod x (2 ^ i)
  have d2 := Nat.div_add_mod y (2 ^ i)
  have m1 := Nat.mod_lt x (Nat.two_pow_pos i)
  rw [Nat.pow_succ, ← Nat.div_div_eq_div_mul, ← Nat.div_div_eq_div_mul] at e
  have q : y / 2 ^ i = x / 2 ^ i + 1 := by omega
  rw [q, Nat.mul_add, Nat.mul_one] at d2
  omega
theorem top_iff {x y l : Nat} (h : IsLen (x ^^^ y) l) (h0 : 0 < l) : (y / 2 ^ (l - 1) % 2 = 1) ↔ x < y := by
  obtain ⟨u, d⟩ := h
  have d := d.resolve_left (by omega)
  have hi : ∀ j, l - 1 < j → x.testBit j = y.testBit j := by
    intro j hj
    have : (x ^^^ y).testBit j = false := Nat.testBit_lt_two_pow (Nat.lt_of_lt_of_le u (Nat.pow_le_pow_right (by omega) (by omega)))
    rw [Nat.testBit_xor] at this
    simpa using this
  have ht : (x ^^^ y).testBit (l - 1) = true := by
    rw [Nat.testBit_eq_decide_div_mod_eq]
    have : (x ^^^ y) / 2 ^ (l - 1) = 1 := by
      have e : 2 ^ l = 2 ^ (l - 1) * 2 := by rw [← Nat.pow_succ]; congr 1; omega
      rw [Nat.div_eq_iff (Nat.two_pow_pos _)]
      omega
    rw [this]; decide
  rw [Nat.testBit_xor] at ht
  have hy : (y / 2 ^ (l - 1) % 2 = 1) ↔ y.testBit (l - 1) = true := by
    rw [Nat.testBit_eq_decide_div_mod_eq]; simp
  rw [hy]
  cases hb : y.testBit (l - 1)
  · rw [hb] at ht
    have hx : x.testBit (l - 1) = true := by simpa using ht
    have := lt_of_bit (l - 1) y x hb hx (fun j hj => (hi j hj).symm)
    constructor
    · intro h; cases h
    · intro h; omega
  · rw [hb] at ht
    have hx : x.testBit (l - 1) = false := by simpa using ht
    have := lt_of_bit (l - 1) x y hx hb hi
    constructor
    · intro _; exact this
    · intro _; rfl

/-! ### inverses -/
theorem inv_step (n e : Nat) (x y : Int) (h : (2 ^ e : Int) ∣ 1 - x * y) (he : n ≤ 2 * e) : (2 ^ n : Int) ∣ 1 - x * (y * (2 - x * y)) := by
  obtain ⟨k, hk⟩ := h
  have e1 : 1 - x * (y * (2 - x * y)) = (1 - x * y) * (1 - x * y) := by
    rw [← Int.mul_assoc]
    generalize x * y = p
    have h1 : (1 - p) * (1 - p) = (1 - p) - (p - p * p) := by rw [Int.sub_mul, Int.one_mul, Int.mul_sub p 1 p, Int.mul_one]
    have h2 : p * (2 - p) = p * 2 - p * p := Int.mul_sub ..
    omega
  rw [e1, hk, Int.mul_assoc, Int.mul_left_comm k, ← Int.mul_assoc, ← Int.pow_add]
  refine Int.dvd_mul_of_dvd_left ?_
  exact ⟨2 ^ (e + e - n), by rw [← Int.pow_add]; congr 1; omega⟩

/-! ### the carry and the borrow as the code computes them -/
theorem or_div (a b n : Nat) : (a ||| b) / 2 ^ n = (a / 2 ^ n) ||| (b / 2 ^ n) := by
  simpa [Nat.shiftRight_eq_div_pow] using Nat.shiftRight_or_distrib (a := a) (b := b) (i := n)
theorem and_div (a b n : Nat) : (a &&& b) / 2 ^ n = (a / 2 ^ n) &&& (b / 2 ^ n) := by
  simpa [Nat.shiftRight_eq_div_pow] using Nat.shiftRight_and_distrib (a := a) (b := b) (i := n)
theorem xor_div (a b n : Nat) : (a ^^^ b) / 2 ^ n = (a / 2 ^ n) ^^^ (b / 2 ^ n) := by
  simpa [Nat.shiftRight_eq_div_pow] using Nat.shiftRight_xor_distrib (a := a) (b := b) (i := n)

/-- All bits turned. -/
theorem ones_xor (n x : Nat) (h : x < 2 ^ n) : (2 ^ n - 1) ^^^ x = 2 ^ n - 1 - x := by
  have e : 2 ^ n - 1 - x = 2 ^ n - (x + 1) := by omega
  rw [e]
  apply Nat.eq_of_testBit_eq
  intro i
  rw [Nat.testBit_xor, Nat.testBit_two_pow_sub_one, Nat.testBit_two_pow_sub_succ h]
  by_cases hi : i < n
  · simp [hi]
  · simp [hi]
    exact Nat.testBit_lt_two_pow (Nat.lt_of_lt_of_le h (Nat.pow_le_pow_right (by omega) (by omega)))

theorem bit_cases (x n : Nat) (h : x < 2 ^ (n + 1)) : (x / 2 ^ n = 0 ∧ x < 2 ^ n) ∨ (x / 2 ^ n = 1 ∧ 2 ^ n ≤ x) := by
  have p := Nat.two_pow_pos n
  by_cases hx : x < 2 ^ n
  · exact Or.inl ⟨Nat.div_eq_of_lt hx, hx⟩
  · refine Or.inr ⟨?_, by omega⟩
    rw [Nat.pow_succ] at h
    rw [Nat.div_eq_iff p]; omega

theorem not_top (x n : Nat) (h : x < 2 ^ (n + 1)) : (2 ^ (n + 1) - 1 - x) / 2 ^ n = 1 - x / 2 ^ n := by
  have p := Nat.two_pow_pos n
  rcases bit_cases x n h with ⟨e, l⟩ | ⟨e, l⟩
  · rw [e, Nat.div_eq_iff p]; rw [Nat.pow_succ] at *; omega
  · rw [e, Nat.div_eq_iff p]; rw [Nat.pow_succ] at *; omega

theorem borrow_top (n x y d b out : Nat) (hx : x < 2 ^ (n + 1)) (hy : y < 2 ^ (n + 1)) (hd : d < 2 ^ (n + 1)) (hb : b ≤ 1) (ho : out ≤ 1) (h : x + 2 ^ (n + 1) * out = d + y + b) :
    (((2 ^ (n + 1) - 1 - x) &&& y) ||| ((2 ^ (n + 1) - 1 - (x ^^^ y)) &&& d)) / 2 ^ n = out := by
  have p := Nat.two_pow_pos n
  have hxy : x ^^^ y < 2 ^ (n + 1) := Nat.xor_lt_two_pow hx hy
  rw [or_div, and_div, and_div, not_top x n hx, not_top (x ^^^ y) n hxy, xor_div]
  have ho' : out = 0 ∨ out = 1 := by omega
  rw [Nat.pow_succ] at *
  rcases bit_cases x n hx with ⟨ex, lx⟩ | ⟨ex, lx⟩ <;> rcases bit_cases y n hy with ⟨ey, ly⟩ | ⟨ey, ly⟩ <;> rcases bit_cases d n hd with ⟨ed, ld⟩ | ⟨ed, ld⟩ <;>
    rw [ex, ey, ed] <;> rcases ho' with rfl | rfl <;> first | rfl | (exfalso; omega)

theorem carry_top (n x y s c out : Nat) (hx : x < 2 ^ (n + 1)) (hy : y < 2 ^ (n + 1)) (hs : s < 2 ^ (n + 1)) (hc : c ≤ 1) (ho : out ≤ 1) (h : s + 2 ^ (n + 1) * out = x + y + c) :
    ((x &&& y) ||| ((x ||| y) &&& (2 ^ (n + 1) - 1 - s))) / 2 ^ n = out := by
  have p := Nat.two_pow_pos n
  rw [or_div, and_div, and_div, not_top s n hs, or_div]
  have ho' : out = 0 ∨ out = 1 := by omega
  rw [Nat.pow_succ] at *
  rcases bit_cases x n hx with ⟨ex, lx⟩ | ⟨ex, lx⟩ <;> rcases bit_cases y n hy with ⟨ey, ly⟩ | ⟨ey, ly⟩ <;> rcases bit_cases s n hs with ⟨es, ls⟩ | ⟨es, ls⟩ <;>
    rw [ex, ey, es] <;> rcases ho' with rfl | rfl <;> first | rfl | (exfalso; omega)

/-! ### ones, counted by pairs, fours and bytes -/
theorem and_split (k a b : Nat) : a &&& b = 2 ^ k * ((a / 2 ^ k) &&& (b / 2 ^ k)) + ((a % 2 ^ k) &&& (b % 2 ^ k)) := by
  rw [← and_div, ← Nat.and_mod_two_pow]
  exact (Nat.div_add_mod (a &&& b) (2 ^ k)).symm

/-- The word of k bytes m. -/
def mask (m : Nat) : Nat → Nat
  | 0 => 0
  | k + 1 => 256 * mask m k + m
/-- A function on each of the lowest k bytes. -/
def onBytes (f : Nat → Nat) : Nat → Nat → Nat
  | 0, _ => 0
  | k + 1, x => 256 * onBytes f k (x / 256) + f (x % 256)
def each (p : Nat → Prop) : Nat → Nat → Prop
  | 0, _ => True
  | k + 1, x => p (x % 256) ∧ each p k (x / 256)

theorem mask_div (m k : Nat) (h : m < 256) : mask m (k + 1) / 256 = mask m k := by simp only [mask]; omega
theorem mask_mod (m k : Nat) (h : m < 256) : mask m (k + 1) % 256 = m := by simp only [mask]; omega

def pair1 (b : Nat) : Nat := b - ((b / 2) &&& 85)
def pair2 (b : Nat) : Nat := (b &&& 51) + ((b / 4) &&& 51)
def pair3 (b : Nat) : Nat := (b + b / 16) &&& 15

theorem p1 : ∀ (q : Fin 2) (b : Fin 256), (128 * q.val + b.val / 2) &&& 85 = (b.val / 2) &&& 85 := by decide +kernel
theorem p2 : ∀ (q : Fin 4) (b : Fin 256), (64 * q.val + b.val / 4) &&& 51 = (b.val / 4) &&& 51 := by decide +kernel
theorem p1_le : ∀ b : Fin 256, (b.val / 2) &&& 85 ≤ b.val := by decide +kernel
theorem p12 : ∀ b : Fin 256, pair2 (pair1 b.val) % 16 ≤ 4 ∧ pair2 (pair1 b.val) / 16 ≤ 4 ∧ pair1 b.val < 256 ∧ pair2 (pair1 b.val) < 256 := by decide +kernel
theorem p123 : ∀ b : Fin 256, pair3 (pair2 (pair1 b.val)) = pop 8 b.val := by decide +kernel
theorem p3 : ∀ (q : Fin 5) (b : Fin 256), b.val % 16 ≤ 4 → b.val / 16 ≤ 4 → (16 * q.val + b.val + b.val / 16) &&& 15 = (b.val + b.val / 16) &&& 15 ∧ 16 * q.val + b.val + b.val / 16 < 256 := by decide +kernel

theorem step1 (k : Nat) : ∀ x, x < 256 ^ k → x - ((x / 2) &&& mask 85 k) = onBytes pair1 k x ∧ (x / 2) &&& mask 85 k ≤ x := by
  induction k with
  | zero => intro x h; simp at h; subst h; simp [mask, onBytes]
  | succ k ih =>
    intro x h
    have i := ih (x / 256) (by rw [Nat.pow_succ] at h; omega)
    have e := and_split 8 (x / 2) (mask 85 (k + 1))
    rw [show (2 : Nat) ^ 8 = 256 from rfl, mask_div 85 k (by omega), mask_mod 85 k (by omega)] at e
    have e1 : x / 2 / 256 = x / 256 / 2 := by omega
    have e2 : x / 2 % 256 = 128 * (x / 256 % 2) + x % 256 / 2 := by omega
    have q := p1 ⟨x / 256 % 2, by omega⟩ ⟨x % 256, by omega⟩
    simp only at q
    rw [e1, e2, q] at e
    have l := p1_le ⟨x % 256, by omega⟩
    simp only at l
    rw [e]
    simp only [onBytes, pair1]
    rw [← i.1]
    omega

theorem step2 (k : Nat) : ∀ x, x < 256 ^ k → (x &&& mask 51 k) + ((x / 4) &&& mask 51 k) = onBytes pair2 k x := by
  induction k with
  | zero => intro x h; simp at h; subst h; simp [mask, onBytes]
  | succ k ih =>
    intro x h
    have i := ih (x / 256) (by rw [Nat.pow_succ] at h; omega)
    have e := and_split 8 (x / 4) (mask 51 (k + 1))
    have e' := and_split 8 x (mask 51 (k + 1))
    rw [show (2 : Nat) ^ 8 = 256 from rfl, mask_div 51 k (by omega), mask_mod 51 k (by omega)] at e e'
    have e1 : x / 4 / 256 = x / 256 / 4 := by omega
    have e2 : x / 4 % 256 = 64 * (x / 256 % 4) + x % 256 / 4 := by omega
    have q := p2 ⟨x / 256 % 4, by omega⟩ ⟨x % 256, by omega⟩
    simp only at q
    rw [e1, e2, q] at e
    rw [e, e']
    simp only [onBytes, pair2]
    rw [← i]
    omega

theorem step3 (k : Nat) : ∀ x, x < 256 ^ k → each (fun b => b % 16 ≤ 4 ∧ b / 16 ≤ 4) k x → (x + x / 16) &&& mask 15 k = onBytes pair3 k x := by
  induction k with
  | zero => intro x h _; simp at h; subst h; simp [mask, onBytes]
  | succ k ih =>
    intro x h he
    obtain ⟨⟨h1, h2⟩, h3⟩ := he
    have i := ih (x / 256) (by rw [Nat.pow_succ] at h; omega) h3
    have hq : x / 256 % 16 ≤ 4 := by
      cases k with
      | zero => rw [Nat.pow_one] at h; omega
      | succ k => obtain ⟨⟨h4, _⟩, _⟩ := h3; omega
    have e := and_split 8 (x + x / 16) (mask 15 (k + 1))
    rw [show (2 : Nat) ^ 8 = 256 from rfl, mask_div 15 k (by omega), mask_mod 15 k (by omega)] at e
    have q := p3 ⟨x / 256 % 16, by omega⟩ ⟨x % 256, by omega⟩ h1 h2
    simp only at q
    obtain ⟨q1, q2⟩ := q
    have e1 : (x + x / 16) / 256 = x / 256 + x / 256 / 16 := by omega
    have e2 : (x + x / 16) % 256 = 16 * (x / 256 % 16) + x % 256 + x % 256 / 16 := by omega
    rw [e1, e2, q1, i] at e
    rw [e]
    simp only [onBytes, pair3]

theorem onBytes_lt (f : Nat → Nat) (hf : ∀ b, b < 256 → f b < 256) (k : Nat) : ∀ x, onBytes f k x < 256 ^ k := by
  induction k with
  | zero => intro x; simp [onBytes]
  | succ k ih => intro x; have := ih (x / 256); have := hf (x % 256) (by omega); simp only [onBytes, Nat.pow_succ]; omega
theorem onBytes_on (f g : Nat → Nat) (hf : ∀ b, b < 256 → f b < 256) (k : Nat) : ∀ x, onBytes g k (onBytes f k x) = onBytes (fun b => g (f b)) k x := by
  induction k with
  | zero => intro x; rfl
  | succ k ih =>
    intro x
    have := hf (x % 256) (by omega)
    simp only [onBytes]
    rw [show (256 * onBytes f k (x / 256) + f (x % 256)) / 256 = onBytes f k (x / 256) by omega, show (256 * onBytes f k (x / 256) + f (x % 256)) % 256 = f (x % 256) by omega, ih]
theorem onBytes_same (f g : Nat → Nat) (h : ∀ b, b < 256 → f b = g b) (k : Nat) : ∀ x, onBytes f k x = onBytes g k x := by
  induction k with
  | zero => intro x; rfl
  | succ k ih => intro x; simp only [onBytes]; rw [ih, h _ (by omega)]
theorem each_on (f : Nat → Nat) (p : Nat → Prop) (hf : ∀ b, b < 256 → f b < 256) (h : ∀ b, b < 256 → p (f b)) (k : Nat) : ∀ x, each p k (onBytes f k x) := by
  induction k with
  | zero => intro x; trivial
  | succ k ih =>
    intro x
    have := hf (x % 256) (by omega)
    simp only [onBytes, each]
    rw [show (256 * onBytes f k (x / 256) + f (x % 256)) / 256 = onBytes f k (x / 256) by omega, show (256 * onBytes f k (x / 256) + f (x % 256)) % 256 = f (x % 256) by omega]
    exact ⟨h _ (by omega), ih _⟩

/-- The three steps together: each byte holds its own ones. -/
theorem swar (k x y z : Nat) (hx : x < 256 ^ k) (hy : y = x - ((x / 2) &&& mask 85 k)) (hz : z = (y &&& mask 51 k) + ((y / 4) &&& mask 51 k)) :
    y < 256 ^ k ∧ z < 256 ^ k ∧ (z + z / 16) &&& mask 15 k = onBytes (pop 8) k x := by
  have f1 : ∀ b, b < 256 → pair1 b < 256 := fun b hb => (p12 ⟨b, hb⟩).2.2.1
  have f2 : ∀ b, b < 256 → pair2 (pair1 b) < 256 := fun b hb => (p12 ⟨b, hb⟩).2.2.2
  have e1 : y = onBytes pair1 k x := by rw [hy]; exact (step1 k x hx).1
  have ly : y < 256 ^ k := by rw [e1]; exact onBytes_lt _ f1 k x
  have e2 : z = onBytes (fun b => pair2 (pair1 b)) k x := by rw [hz, step2 k y ly, e1, onBytes_on _ _ f1]
  have lz : z < 256 ^ k := by rw [e2]; exact onBytes_lt _ f2 k x
  refine ⟨ly, lz, ?_⟩
  rw [step3 k z lz (by rw [e2]; exact each_on _ _ f2 (fun b hb => ⟨(p12 ⟨b, hb⟩).1, (p12 ⟨b, hb⟩).2.1⟩) k x), e2, onBytes_on _ _ f2]
  exact onBytes_same _ _ (fun b hb => p123 ⟨b, hb⟩) k x

theorem swar_sum (k x : Nat) (hx : x < 256 ^ k) : x - ((x / 2) &&& mask 85 k) = ((x / 2) &&& mask 85 k) + (x &&& mask 85 k) := by
  revert x
  induction k with
  | zero => intro x h; simp at h; subst h; simp [mask]
  | succ k ih =>
    intro x h
    have i := ih (x / 256) (by rw [Nat.pow_succ] at h; omega)
    have l' := (step1 k (x / 256) (by rw [Nat.pow_succ] at h; omega)).2
    have e := and_split 8 (x / 2) (mask 85 (k + 1))
    have e' := and_split 8 x (mask 85 (k + 1))
    rw [show (2 : Nat) ^ 8 = 256 from rfl, mask_div 85 k (by omega), mask_mod 85 k (by omega)] at e e'
    have e1 : x / 2 / 256 = x / 256 / 2 := by omega
    have e2 : x / 2 % 256 = 128 * (x / 256 % 2) + x % 256 / 2 := by omega
    have q := p1 ⟨x / 256 % 2, by omega⟩ ⟨x % 256, by omega⟩
    simp only at q
    rw [e1, e2, q] at e
    have l := p1_le ⟨x % 256, by omega⟩
    simp only at l
    have s : ∀ b : Fin 256, b.val - ((b.val / 2) &&& 85) = ((b.val / 2) &&& 85) + (b.val &&& 85) := by decide +kernel
    have s := s ⟨x % 256, by omega⟩
    simp only at s
    rw [e, e']
    omega
theorem average (n x y s o : Nat) (hx : x < 2 ^ (n + 1)) (hy : y < 2 ^ (n + 1)) (hs : s < 2 ^ (n + 1)) (h : s + 2 ^ (n + 1) * o = x + y) :
    (s / 2 ||| o * 2 ^ n) = (x &&& y) + (x ^^^ y) / 2 := by
  have a := add_eq (n + 1) x y hx hy
  rw [Nat.pow_succ] at hs h
  have l : s / 2 < 2 ^ n := by omega
  rw [Nat.or_comm, Nat.mul_comm o, ← Nat.two_pow_add_eq_or_of_lt l]
  have e : 2 ^ n * 2 * o = 2 * (2 ^ n * o) := by rw [Nat.mul_comm (2 ^ n) 2, Nat.mul_assoc]
  omega

end Go.Proofs.Roads
