/-
  Numbers of many words, their products with a word, and the zeros behind the product of all numbers up to p (no program in sight).
-/
import Derived.Test.YtgjniomloooccaaDoorAddWords
import Derived.Test.YtgjniomloooccaaDoorMulWords
import Derived.Test.YtgjniomloooccaaDoorPlainNext
namespace Go.Proofs.YtgjniomloooccaaDoor
set_option linter.unusedVariables false
/-- The number of a list of words, the lowest one first. -/
def val : List Int → Int
  | [] => 0
  | x :: xs => x + 18446744073709551616 * val xs
theorem val_end (l : List Int) (z : Int) : val (l ++ [z]) = val l + 18446744073709551616 ^ l.length * z := by
  induction l with
  | nil => simp [val]
  | cons x l ih =>
    simp only [List.cons_append, val, List.length_cons, ih, Int.pow_succ']
    grind
theorem take_end (l : List Int) {k : Nat} (h : k < l.length) : l.take (k + 1) = l.take k ++ [l.getD k 0] := by
  rw [List.take_succ_eq_append_getElem h]
  simp [List.getD, h]
theorem sumK_val (xs ys : List Int) (c : Int) (k : Nat) (hx : k ≤ xs.length) (hy : k ≤ ys.length) :
    val (sumK xs ys c k).1 + 18446744073709551616 ^ k * (sumK xs ys c k).2 = val (xs.take k) + val (ys.take k) + c := by
  induction k with
  | zero => simp [sumK, val]
  | succ k ih =>
    have h := ih (by omega) (by omega)
    rw [take_end xs (by omega), take_end ys (by omega), val_end, val_end, List.length_take, List.length_take, Nat.min_eq_left (by omega), Nat.min_eq_left (by omega)]
    simp only [sumK]
    rw [val_end, sumK_length, Int.pow_succ]
    have e : (xs.getD k 0 + ys.getD k 0 + (sumK xs ys c k).2) % 18446744073709551616 + 18446744073709551616 * ((xs.getD k 0 + ys.getD k 0 + (sumK xs ys c k).2) / 18446744073709551616) = xs.getD k 0 + ys.getD k 0 + (sumK xs ys c k).2 := by omega
    generalize (xs.getD k 0 + ys.getD k 0 + (sumK xs ys c k).2) % 18446744073709551616 = s at *
    generalize (xs.getD k 0 + ys.getD k 0 + (sumK xs ys c k).2) / 18446744073709551616 = o at *
    generalize (18446744073709551616 : Int) ^ k = B at *
    have e2 : B * s + B * 18446744073709551616 * o = B * (xs.getD k 0 + ys.getD k 0 + (sumK xs ys c k).2) := by rw [← e]; grind
    grind
theorem sumK_ws (xs ys : List Int) (c : Int) (k : Nat) : Ws (sumK xs ys c k).1 := by
  induction k with
  | zero => intro i; simp [sumK]
  | succ k ih => simp only [sumK]; exact ws_append ih (by omega) (by omega)
theorem val_mul (xs : List Int) (y : Int) : val (los xs y) + 18446744073709551616 * val (his xs y) = y * val xs := by
  induction xs with
  | nil => simp [los, his, val]
  | cons x xs ih =>
    simp only [los, his, List.map_cons, val] at ih ⊢
    have e : x * y % 18446744073709551616 + 18446744073709551616 * (x * y / 18446744073709551616) = x * y := by omega
    generalize x * y % 18446744073709551616 = l at *
    generalize x * y / 18446744073709551616 = h at *
    generalize val (List.map (fun x => x * y % 18446744073709551616) xs) = L at *
    generalize val (List.map (fun x => x * y / 18446744073709551616) xs) = H at *
    grind
theorem ws_tail {x : Int} {xs : List Int} (h : Ws (x :: xs)) : 0 ≤ x ∧ x < 18446744073709551616 ∧ Ws xs :=
  ⟨(h 0).1, (h 0).2, fun i => h (i + 1)⟩
theorem val_bounds : ∀ xs : List Int, Ws xs → 0 ≤ val xs ∧ val xs < 18446744073709551616 ^ xs.length := by
  intro xs
  induction xs with
  | nil => intro _; simp [val]
  | cons x xs ih =>
    intro h
    obtain ⟨h0, h1, h2⟩ := ws_tail h
    have := ih h2
    simp only [val, List.length_cons, Int.pow_succ']
    generalize (18446744073709551616 : Int) ^ xs.length = B at *
    generalize val xs = v at *
    omega
/-- A product with a word, as the code reckons it, one word longer. -/
def times (xs : List Int) (y : Int) : List Int := (sumK (los xs y ++ [0]) (0 :: his xs y) 0 (xs.length + 1)).1
theorem times_len (xs : List Int) (y : Int) : (times xs y).length = xs.length + 1 := sumK_length _ _ _ _
theorem times_ws (xs : List Int) (y : Int) : Ws (times xs y) := sumK_ws _ _ _ _
theorem times_val {xs : List Int} {y : Int} (hx : Ws xs) (h0 : 0 ≤ y) (h1 : y < 18446744073709551616) (hl : Ws (los xs y ++ [0])) (hh : Ws (0 :: his xs y)) : val (times xs y) = y * val xs := by
  have h := sumK_val (los xs y ++ [0]) (0 :: his xs y) 0 (xs.length + 1) (by simp [los]) (by simp [his])
  rw [List.take_of_length_le (by simp [los]), List.take_of_length_le (by simp [his]), val_end] at h
  have m := val_mul xs y
  have e : val (0 :: his xs y) = 18446744073709551616 * val (his xs y) := by simp [val]
  rw [e] at h
  have c := sumK_carry hl hh (c := 0) (by omega) (by omega) (xs.length + 1)
  have b := val_bounds xs hx
  have b2 := val_bounds _ (times_ws xs y)
  have up : y * val xs < 18446744073709551616 ^ (xs.length + 1) := by
    rw [Int.pow_succ']
    generalize (18446744073709551616 : Int) ^ xs.length = B at *
    have : y * val xs ≤ 18446744073709551615 * val xs := Int.mul_le_mul_of_nonneg_right (by omega) b.1
    omega
  have t : val (times xs y) + 18446744073709551616 ^ (xs.length + 1) * (sumK (los xs y ++ [0]) (0 :: his xs y) 0 (xs.length + 1)).2 = y * val xs := by
    rw [← m]; unfold times; rw [h]; simp
  have c01 : (sumK (los xs y ++ [0]) (0 :: his xs y) 0 (xs.length + 1)).2 = 0 ∨ (sumK (los xs y ++ [0]) (0 :: his xs y) 0 (xs.length + 1)).2 = 1 := by omega
  rcases c01 with c0 | c0
  · rw [c0] at t; simpa using t
  · rw [c0, Int.mul_one] at t
    omega
def fact : Nat → Nat
  | 0 => 1
  | n + 1 => (n + 1) * fact n
theorem fact_tz : ∀ p : Fin 60, Roads.pop 6 p.val ≤ p.val ∧ fact p.val % 2 ^ (p.val - Roads.pop 6 p.val + 1) = 2 ^ (p.val - Roads.pop 6 p.val) := by decide +kernel
theorem fact_ok {p : Nat} (hp : p < 60) : Roads.pop 64 p ≤ p ∧ Roads.IsTz (fact p) (p - Roads.pop 64 p) := by
  have e : Roads.pop 64 p = Roads.pop 6 p := Roads.pop_more 6 58 _ (by show _ < 64; omega)
  have h : Roads.pop 6 p ≤ p ∧ fact p % 2 ^ (p - Roads.pop 6 p + 1) = 2 ^ (p - Roads.pop 6 p) := fact_tz ⟨p, hp⟩
  rw [e]
  refine ⟨h.1, fact p / 2 ^ (p - Roads.pop 6 p + 1), ?_⟩
  have := Nat.div_add_mod (fact p) (2 ^ (p - Roads.pop 6 p + 1))
  rw [h.2, Nat.pow_succ] at this
  rw [Nat.mul_add, Nat.mul_one, ← Nat.mul_assoc, ← Nat.pow_succ, Nat.pow_succ]
  exact this.symm
/-- The words below place j are 0. -/
def Below0 (ws : List Int) (j : Nat) : Prop := val ws = 18446744073709551616 ^ j * val (ws.drop j)
theorem drop_word (ws : List Int) {j : Nat} (h : j < ws.length) : ws.drop j = ws.getD j 0 :: ws.drop (j + 1) := by
  rw [List.drop_eq_getElem_cons h]
  simp [List.getD, h]
theorem below0_start (ws : List Int) : Below0 ws 0 := by simp [Below0]
theorem below0_next {ws : List Int} {j : Nat} (h : j < ws.length) (hb : Below0 ws j) (h0 : ws.getD j 0 = 0) : Below0 ws (j + 1) := by
  unfold Below0 at *
  rw [hb, drop_word ws h, h0, val, Int.pow_succ]
  grind
theorem below0_end {ws : List Int} (hb : Below0 ws ws.length) : val ws = 0 := by
  unfold Below0 at hb
  rw [hb, List.drop_length, val, Int.mul_zero]
theorem ws_drop {ws : List Int} (h : Ws ws) (j : Nat) : Ws (ws.drop j) := by
  intro i
  have := h (j + i)
  simpa [List.getD, List.getElem?_drop] using this
theorem below0_tz {ws : List Int} {j t F : Nat} (kw : Ws ws) (h : j < ws.length) (hb : Below0 ws j) (ht : Roads.IsTz (ws.getD j 0).toNat t) (lt : t < 64) (hF : val ws = F) : Roads.IsTz F (64 * j + t) := by
  unfold Below0 at hb
  rw [drop_word ws h, val, hF] at hb
  obtain ⟨w, hw⟩ := Int.eq_ofNat_of_zero_le (kw j).1
  obtain ⟨r, hr⟩ := Int.eq_ofNat_of_zero_le (val_bounds _ (ws_drop kw (j + 1))).1
  have lw := (kw j).2
  rw [hw] at hb ht lw
  rw [hr] at hb
  rw [Int.toNat_natCast] at ht
  have e : F = 2 ^ (64 * j) * (w + 18446744073709551616 * r) := by
    have e1 : ((18446744073709551616 : Int) ^ j) = ((2 ^ (64 * j) : Nat) : Int) := by
      rw [Nat.pow_mul, Int.natCast_pow]; rfl
    rw [e1] at hb
    have : (F : Int) = ((2 ^ (64 * j) * (w + 18446744073709551616 * r) : Nat) : Int) := by rw [hb]; simp
    exact Int.ofNat.inj this
  rw [e]
  refine Roads.isTz_mul ⟨0, by simp⟩ (Roads.isTz_of_mod (n := 64) ?_ lt)
  have : (w + 18446744073709551616 * r) % 2 ^ 64 = w := by
    show (w + 18446744073709551616 * r) % 18446744073709551616 = w
    omega
  rw [this]
  exact ht
end Go.Proofs.YtgjniomloooccaaDoor
