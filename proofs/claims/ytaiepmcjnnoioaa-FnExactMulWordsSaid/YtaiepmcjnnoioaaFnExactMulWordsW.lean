/-
  For every list x of words and every word y, laws.FnExactMulWords returns true. The walk.
-/
import Derived.Test.YtaiepmcjnnoioaaSpecMul
import Derived.Test.YtaiepmcjnnoioaaSame
import Derived.WalkKit
import Derived.ProofKit
import Derived.OpenShut
namespace Go.Proofs.Ytaiepmcjnnoioaa.fnExactMulWords
open Go.ChangeShapes Go.WideShapes Go.ChangeAt Go.RowKit
set_option linter.unusedVariables false

theorem walk_at (v : Value) (xs : List Int) (y : Int) {w : World} (rx : Hid (Row w v xs)) (kx : Hid (Ws xs)) (sx : xs.length * 8 ≤ 140737488351232) (h0 : 0 ≤ y) (h1 : y < 18446744073709551616) :
    Calls Try.prog 6 #[v, .int .u64 y] w fun e w' => e = .returned (.bool true) ∧ Below w.heap.size w w' := by
  obtain ⟨n, hn⟩ : ∃ n, n = xs.length := ⟨_, rfl⟩
  rw [← hn] at sx
  have HN := hide hn; clear hn
  obtain ⟨H, hH⟩ : ∃ H, H = his xs y := ⟨_, rfl⟩
  obtain ⟨L, hL⟩ : ∃ L, L = los xs y := ⟨_, rfl⟩
  have hl : H.length ≤ 9223372036854775807 := by rw [hH]; simp only [his, List.length_map]; rw [← HN.out]; omega
  have ll : L.length ≤ 9223372036854775807 := by rw [hL]; simp only [los, List.length_map]; rw [← HN.out]; omega
  have HL := hide hl; clear hl
  have LL := hide ll; clear ll
  have EH := hide hH; clear hH
  have EL := hide hL; clear hL
  go_enter Try.func6, Try.ntmps6
  go_wp2_with fail
  refine (mulWords xs _ _ _ kx.out h0 h1 (by rw [← HN.out]; omega) rx.out).mono ?_
  rintro e w1 ⟨v1, v2, rfl, r1, r2, hb1⟩
  rw [← EH.out] at r1
  rw [← EL.out] at r2
  have RX := hide (rx.out.mono hb1)
  have R1 := hide r1
  have R2 := hide r2
  have HB1 := hide hb1
  clear r1 r2 hb1
  go_wp2_with fail
  refine (specMul xs _ _ _ kx.out h0 h1 (by rw [← HN.out]; omega) RX.out).mono ?_
  rintro e w2 ⟨v3, v4, rfl, r3, r4, hb2⟩
  rw [← EH.out] at r3
  rw [← EL.out] at r4
  have S1 := hide (R1.out.mono hb2)
  have S2 := hide (R2.out.mono hb2)
  have R3 := hide r3
  have R4 := hide r4
  have HB2 := hide (HB1.out.trans (hb2.mono HB1.out.size))
  clear r3 r4 hb2
  go_wp2_with fail
  refine (same_true H _ _ _ HL.out S1.out R3.out).mono ?_
  rintro e w3 ⟨rfl, hb3⟩
  have T2 := hide (S2.out.mono hb3)
  have T4 := hide (R4.out.mono hb3)
  have HB3 := hide (HB2.out.trans (hb3.mono HB2.out.size)); clear hb3
  go_wp2_with fail
  refine (same_true L _ _ _ LL.out T2.out T4.out).mono ?_
  rintro e w4 ⟨rfl, hb4⟩
  have HB4 := hide (HB3.out.trans (hb4.mono HB3.out.size)); clear hb4
  go_wp2
  go_ret
  exact ⟨rfl, HB4.out⟩

theorem walk (v : Value) (xs : List Int) (y : Int) {w : World} (rx : Row w v xs) (kx : Ws xs) (sx : xs.length * 8 ≤ 140737488351232) (w1 : (Lit.int .u64 y).wf = true) :
    Calls Try.prog 6 #[v, .int .u64 y] w fun e w' => e = .returned (.bool true) ∧ Below w.heap.size w w' := by
  have := bounds_u64 w1
  exact walk_at v xs y rx kx sx (by omega) (by omega)
end Go.Proofs.Ytaiepmcjnnoioaa.fnExactMulWords
