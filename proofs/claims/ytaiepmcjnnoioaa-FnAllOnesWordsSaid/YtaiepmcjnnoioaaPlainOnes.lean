/-
  A number times the word of all ones is it moved up by a word less itself, word by word.
-/
import Derived.Test.YtaiepmcjnnoioaaAddWords
import Derived.Test.YtaiepmcjnnoioaaSubWords
import Derived.Test.YtaiepmcjnnoioaaMulWords
namespace Go.Proofs.Ytaiepmcjnnoioaa
set_option linter.unusedVariables false
theorem getD_zero_end (xs : List Int) (k : Nat) : (xs ++ [0]).getD k 0 = xs.getD k 0 := by
  by_cases h : k < xs.length
  · simp [List.getD, List.getElem?_append_left h]
  · rw [List.getD, List.getD, List.getElem?_append_right (by omega), List.getElem?_eq_none (show xs.length ≤ k by omega)]
    cases k - xs.length <;> simp
theorem getD_map0 (f : Int → Int) (h0 : f 0 = 0) (xs : List Int) (k : Nat) : (xs.map f).getD k 0 = f (xs.getD k 0) := by
  by_cases h : k < xs.length
  · simp [List.getD, h]
  · simp [List.getD, List.getElem?_eq_none (show xs.length ≤ k by omega), h0]
/-- Whether the word below place k is not 0. -/
def some1 (xs : List Int) : Nat → Int
  | 0 => 0
  | k + 1 => if xs.getD k 0 = 0 then 0 else 1
theorem all_ones_step (xs : List Int) (kx : Ws xs) (k : Nat) :
    (sumK (los xs 18446744073709551615 ++ [0]) (0 :: his xs 18446744073709551615) 0 k).1 = (diffK (0 :: xs) (xs ++ [0]) 0 k).1 ∧
    (sumK (los xs 18446744073709551615 ++ [0]) (0 :: his xs 18446744073709551615) 0 k).2 = some1 xs k - (diffK (0 :: xs) (xs ++ [0]) 0 k).2 ∧
    0 ≤ (diffK (0 :: xs) (xs ++ [0]) 0 k).2 ∧ (diffK (0 :: xs) (xs ++ [0]) 0 k).2 ≤ some1 xs k := by
  induction k with
  | zero => simp [sumK, diffK, some1]
  | succ k ih =>
    obtain ⟨h1, h2, h3, h4⟩ := ih
    have hx := kx k
    have e1 : (los xs 18446744073709551615 ++ [0]).getD k 0 = xs.getD k 0 * 18446744073709551615 % 18446744073709551616 := by
      rw [getD_zero_end, los, getD_map0 _ (by decide)]
    obtain ⟨p, hp, hd, hh⟩ : ∃ p, (0 :: xs).getD k 0 = p ∧ (0 ≤ p ∧ p < 18446744073709551616) ∧ (0 :: his xs 18446744073709551615).getD k 0 = p - some1 xs k ∧ (p = 0 → some1 xs k = 0) ∧ some1 xs k ≤ 1 := by
      cases k with
      | zero => exact ⟨0, rfl, by omega, rfl, fun _ => rfl, by simp [some1]⟩
      | succ j =>
        have := kx j
        refine ⟨xs.getD j 0, rfl, this, ?_⟩
        have e : (0 :: his xs 18446744073709551615).getD (j + 1) 0 = xs.getD j 0 * 18446744073709551615 / 18446744073709551616 := by
          show (his xs 18446744073709551615).getD j 0 = _
          rw [his, getD_map0 _ (by decide)]
        rw [e]
        simp only [some1]
        generalize xs.getD j 0 = q at *
        split <;> omega
    have e2 : (xs ++ [0]).getD k 0 = xs.getD k 0 := getD_zero_end xs k
    simp only [sumK, diffK]
    rw [e1, e2, hp, h1, h2]
    obtain ⟨hh, hz, hs⟩ := hh
    rw [hh]
    simp only [some1]
    clear e1 e2 hp hh h1 h2
    generalize xs.getD k 0 = x at *
    generalize (diffK (0 :: xs) (xs ++ [0]) 0 k).2 = b at *
    generalize some1 xs k = d at *
    have em : x * 18446744073709551615 % 18446744073709551616 = if x = 0 then 0 else 18446744073709551616 - x := by split <;> omega
    rw [em]
    refine ⟨?_, ?_, ?_, ?_⟩
    · congr 2
      split <;> omega
    · split <;> split <;> omega
    · split <;> omega
    · split <;> split <;> omega
theorem all_ones (xs : List Int) (kx : Ws xs) :
    (sumK (los xs 18446744073709551615 ++ [0]) (0 :: his xs 18446744073709551615) 0 (xs.length + 1)) = diffK (0 :: xs) (xs ++ [0]) 0 (xs.length + 1) ∧ (diffK (0 :: xs) (xs ++ [0]) 0 (xs.length + 1)).2 = 0 := by
  obtain ⟨h1, h2, h3, h4⟩ := all_ones_step xs kx (xs.length + 1)
  have e : some1 xs (xs.length + 1) = 0 := by simp [some1]
  rw [e] at h2 h4
  have hz : (diffK (0 :: xs) (xs ++ [0]) 0 (xs.length + 1)).2 = 0 := by omega
  refine ⟨Prod.ext h1 (by omega), hz⟩
end Go.Proofs.Ytaiepmcjnnoioaa
