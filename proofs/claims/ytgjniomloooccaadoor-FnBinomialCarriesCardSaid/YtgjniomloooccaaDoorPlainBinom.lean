/-
  Numbers of ways to choose, row by row, and the zeros behind them (no program in sight).
-/
import Derived.Test.YtgjniomloooccaaDoorPlainNext
namespace Go.Proofs.YtgjniomloooccaaDoor
set_option linter.unusedVariables false
/-- A row of the numbers of ways to choose. -/
def pas : Nat → List Nat
  | 0 => [1]
  | n + 1 => List.zipWith (· + ·) (0 :: pas n) (pas n ++ [0])
theorem pas_len (n : Nat) : (pas n).length = n + 1 := by
  induction n with
  | zero => rfl
  | succ n ih => simp [pas, ih]
theorem zip_getD (a b : List Nat) (h : a.length = b.length) (i : Nat) : (List.zipWith (· + ·) a b).getD i 0 = a.getD i 0 + b.getD i 0 := by
  by_cases hi : i < a.length
  · have hb : i < b.length := by omega
    simp [List.getD, List.getElem?_zipWith, hi, hb]
  · have hb : b.length ≤ i := by omega
    simp [List.getD, List.getElem?_zipWith, List.getElem?_eq_none (show a.length ≤ i by omega), List.getElem?_eq_none hb]
theorem end_getD (l : List Nat) (i : Nat) : (l ++ [0]).getD i 0 = l.getD i 0 := by
  by_cases h : i < l.length
  · simp [List.getD, List.getElem?_append_left h]
  · rw [List.getD, List.getD, List.getElem?_append_right (by omega), List.getElem?_eq_none (show l.length ≤ i by omega)]
    cases i - l.length <;> simp
theorem pas_step (n i : Nat) : (pas (n + 1)).getD (i + 1) 0 = (pas n).getD i 0 + (pas n).getD (i + 1) 0 := by
  rw [pas, zip_getD _ _ (by simp), end_getD]
  rfl
theorem pas_first (n : Nat) : (pas n).getD 0 0 = 1 := by
  induction n with
  | zero => rfl
  | succ n ih => rw [pas, zip_getD _ _ (by simp), end_getD, ih]; rfl
theorem pas_out (n i : Nat) (h : n < i) : (pas n).getD i 0 = 0 := by
  simp [List.getD, List.getElem?_eq_none (show (pas n).length ≤ i by rw [pas_len]; omega)]
theorem pas_last (n : Nat) : (pas n).getD n 0 = 1 := by
  induction n with
  | zero => rfl
  | succ n ih => rw [pas_step, ih, pas_out n (n + 1) (by omega)]
theorem pas_le (n : Nat) : ∀ i, (pas n).getD i 0 ≤ 2 ^ n := by
  induction n with
  | zero => intro i; cases i with
    | zero => decide
    | succ i => simp [pas]
  | succ n ih =>
    intro i
    cases i with
    | zero => rw [pas_first]; exact Nat.one_le_two_pow
    | succ i => rw [pas_step, Nat.pow_succ]; have := ih i; have := ih (i + 1); omega
theorem pas_word {n : Nat} (h : n ≤ 60) (i : Nat) : (pas n).getD i 0 < 18446744073709551616 := by
  have h1 := pas_le n i
  have h2 : 2 ^ n ≤ 2 ^ 60 := Nat.pow_le_pow_right (by omega) h
  have h3 : 2 ^ 60 < 18446744073709551616 := by decide
  omega
/-- What is asked of the entry at place k of the row n. -/
def entryOk (n k c : Nat) : Bool :=
  Roads.pop 6 n ≤ Roads.pop 6 k + Roads.pop 6 (n - k) && c % 2 ^ (Roads.pop 6 k + Roads.pop 6 (n - k) - Roads.pop 6 n + 1) == 2 ^ (Roads.pop 6 k + Roads.pop 6 (n - k) - Roads.pop 6 n) && (c % 2 == 1) == (k &&& (n - k) == 0)
def rowOk (n : Nat) : Nat → List Nat → Bool
  | _, [] => true
  | k, c :: l => entryOk n k c && rowOk n (k + 1) l
theorem rows_ok : ∀ n : Fin 61, rowOk n.val 0 (pas n.val) = true := by decide +kernel
theorem rowOk_at (n : Nat) : ∀ (l : List Nat) (k i : Nat), rowOk n k l = true → i < l.length → entryOk n (k + i) (l.getD i 0) = true := by
  intro l
  induction l with
  | nil => intro k i _ h; simp at h
  | cons c l ih =>
    intro k i h hi
    simp only [rowOk, Bool.and_eq_true] at h
    cases i with
    | zero => exact h.1
    | succ i =>
      have := ih (k + 1) i h.2 (by simpa using hi)
      rw [show k + (i + 1) = k + 1 + i by omega]
      exact this
theorem binom_ok {p q : Nat} (hp : p ≤ 30) (hq : q ≤ 30) :
    Roads.pop 64 (p + q) ≤ Roads.pop 64 p + Roads.pop 64 q ∧ Roads.IsTz ((pas (p + q)).getD p 0) (Roads.pop 64 p + Roads.pop 64 q - Roads.pop 64 (p + q)) ∧ (((pas (p + q)).getD p 0 % 2 = 1) ↔ p &&& q = 0) := by
  have hr : rowOk (p + q) 0 (pas (p + q)) = true := rows_ok ⟨p + q, by omega⟩
  have h := rowOk_at (p + q) (pas (p + q)) 0 p hr (by rw [pas_len]; omega)
  have e1 : Roads.pop 64 (p + q) = Roads.pop 6 (p + q) := Roads.pop_more 6 58 _ (by show _ < 64; omega)
  have e2 : Roads.pop 64 p = Roads.pop 6 p := Roads.pop_more 6 58 _ (by show _ < 64; omega)
  have e3 : Roads.pop 64 q = Roads.pop 6 q := Roads.pop_more 6 58 _ (by show _ < 64; omega)
  rw [e1, e2, e3]
  rw [Nat.zero_add] at h
  have eq : p + q - p = q := by omega
  simp only [entryOk, Bool.and_eq_true, decide_eq_true_eq, beq_iff_eq, eq] at h
  obtain ⟨⟨h1, h2⟩, h3⟩ := h
  refine ⟨h1, ?_, ?_⟩
  · generalize (pas (p + q)).getD p 0 = c at *
    generalize Roads.pop 6 p + Roads.pop 6 q - Roads.pop 6 (p + q) = e at *
    refine ⟨c / 2 ^ (e + 1), ?_⟩
    have := Nat.div_add_mod c (2 ^ (e + 1))
    rw [h2, Nat.pow_succ] at this
    rw [Nat.mul_add, Nat.mul_one, ← Nat.mul_assoc, ← Nat.pow_succ]
    rw [Nat.pow_succ]
    exact this.symm
  · generalize (pas (p + q)).getD p 0 = c at *
    generalize p &&& q = d at *
    by_cases hd : d = 0
    · subst hd; simp at h3; exact ⟨fun _ => rfl, fun _ => h3⟩
    · constructor
      · intro hc; exfalso; rw [hc] at h3; simp at h3; exact hd h3
      · intro h; exact absurd h hd
end Go.Proofs.YtgjniomloooccaaDoor
