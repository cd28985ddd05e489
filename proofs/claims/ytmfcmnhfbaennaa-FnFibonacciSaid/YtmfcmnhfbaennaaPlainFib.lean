/-
  Numbers that are sums of the last two (no program in sight).
-/
import Derived.Test.YtmfcmnhfbaennaaPlain
namespace Go.Proofs.Ytmfcmnhfbaennaa
set_option linter.unusedVariables false
/-- Two numbers that follow each other, of those that are sums of the last two. -/
def fibp : Nat → Nat × Nat
  | 0 => (0, 1)
  | n + 1 => ((fibp n).2, (fibp n).1 + (fibp n).2)
def fib (n : Nat) : Nat := (fibp n).1
theorem fib_next (n : Nat) : (fibp n).2 = fib (n + 1) := rfl
theorem fib_sum (n : Nat) : fib (n + 2) = fib n + fib (n + 1) := rfl
theorem fib_small : ∀ k : Fin 92, fib k.val < 18446744073709551616 := by decide +kernel
theorem fib_wide : ∀ k : Fin 182, fib k.val < 340282366920938463463374607431768211456 := by decide +kernel
theorem fib_add (p n : Nat) : fib (p + 1 + n) = fib (p + 1) * fib (n + 1) + fib p * fib n := by
  induction n using Nat.strongRecOn with
  | ind n ih =>
    match n with
    | 0 => simp [fib, fibp]
    | 1 =>
      rw [show p + 1 + 1 = p + 2 from rfl, fib_sum]
      simp [fib, fibp, Nat.add_comm]
    | n + 2 =>
      have h0 := ih n (by omega)
      have h1 := ih (n + 1) (by omega)
      rw [show p + 1 + (n + 2) = (p + 1 + n) + 2 from rfl, fib_sum, h0, show p + 1 + n + 1 = p + 1 + (n + 1) from rfl, h1]
      rw [show n + 2 + 1 = (n + 1) + 2 from rfl, fib_sum (n + 1), fib_sum n]
      grind
/-- Halves of a sum of two numbers of two words. -/
theorem halves_sum {F1 F2 F S O T P : Int} (h1 : 0 ≤ F1) (h2 : 0 ≤ F2) (hF : F = F2 + F1) (hl : F < 340282366920938463463374607431768211456)
    (o0 : 0 ≤ O) (o1 : O ≤ 1) (s0 : 0 ≤ S) (s1 : S < 18446744073709551616) (hs : S + 18446744073709551616 * O = F1 % 18446744073709551616 + F2 % 18446744073709551616 + 0)
    (p0 : 0 ≤ P) (p1 : P ≤ 1) (t0 : 0 ≤ T) (t1 : T < 18446744073709551616) (ht : T + 18446744073709551616 * P = F1 / 18446744073709551616 + F2 / 18446744073709551616 + O) :
    S = F % 18446744073709551616 ∧ T = F / 18446744073709551616 := by
  omega
theorem halves_mul {A B C D F h l h' l' S O T P : Int} (e1 : h * 18446744073709551616 + l = A * B) (e2 : h' * 18446744073709551616 + l' = C * D) (hF : F = A * B + C * D) (hl : F < 340282366920938463463374607431768211456) (f0 : 0 ≤ F)
    (o0 : 0 ≤ O) (o1 : O ≤ 1) (s0 : 0 ≤ S) (s1 : S < 18446744073709551616) (hs : S + 18446744073709551616 * O = l + l' + 0)
    (p0 : 0 ≤ P) (p1 : P ≤ 1) (t0 : 0 ≤ T) (t1 : T < 18446744073709551616) (ht : T + 18446744073709551616 * P = h + h' + O) :
    T = F / 18446744073709551616 ∧ S = F % 18446744073709551616 := by
  rw [← e1, ← e2] at hF
  omega
end Go.Proofs.Ytmfcmnhfbaennaa
