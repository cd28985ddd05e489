/-
  For all lists x and y of words and each carry, laws.FnExactSubWords returns true. The walk.
-/
import Derived.Test.YtaiepmcjnnoioaaSpecSub
import Derived.Test.YtaiepmcjnnoioaaSame
import Derived.WalkKit
import Derived.ProofKit
import Derived.OpenShut
namespace Go.Proofs.Ytaiepmcjnnoioaa.fnExactSubWords
open Go.ChangeShapes Go.WideShapes Go.ChangeAt Go.RowKit
set_option linter.unusedVariables false

theorem walk_at (v v2 : Value) (xs ys : List Int) (t : Bool) (c : Int) {w : World} (ht : (t = false ∧ c = 0) ∨ (t = true ∧ c = 1)) (rx : Hid (Row w v xs)) (kx : Hid (Ws xs)) (sx : xs.length * 8 ≤ 140737488351232) (ry : Hid (Row w v2 ys)) (ky : Hid (Ws ys)) (sy : ys.length * 8 ≤ 140737488351232) :
    Calls Try.prog 3 #[v, v2, .bool t] w fun e w' => e = .returned (.bool true) ∧ Below w.heap.size w w' := by
  obtain ⟨n, hn⟩ : ∃ n, n = xs.length := ⟨_, rfl⟩
  obtain ⟨m, hm⟩ : ∃ m, m = ys.length := ⟨_, rfl⟩
  rw [← hn] at sx
  rw [← hm] at sy
  have HN := hide hn; clear hn
  have HM := hide hm; clear hm
  obtain ⟨Z, hZ⟩ : ∃ Z, Z = diffK xs ys c (min xs.length ys.length) := ⟨_, rfl⟩
  have zl : Z.1.length ≤ 9223372036854775807 := by
    have l := diffK_length xs ys c (min xs.length ys.length)
    rw [← hZ, ← HN.out, ← HM.out] at l
    omega
  have ZL := hide zl; clear zl
  have HZ := hide hZ; clear hZ
  have ob : (Z.2 == Z.2) = true := by simp
  rcases ht with ⟨rfl, rfl⟩ | ⟨rfl, rfl⟩
  · go_enter Try.func3, Try.ntmps3
    go_wp2_with fail
    refine (subWords xs ys _ _ _ _ kx.out ky.out (by omega) (by omega) (by rw [← HN.out]; omega) (by rw [← HM.out]; omega) rx.out ry.out).mono ?_
    rintro e w1 ⟨vs, rfl, rs, hb1⟩
    rw [← HZ.out] at rs ⊢
    have RX := hide (rx.out.mono hb1)
    have RY := hide (ry.out.mono hb1)
    have RS := hide rs
    have HB1 := hide hb1
    clear rs hb1
    go_wp2_with fail
    refine (specSub xs ys _ _ _ _ kx.out ky.out (by omega) (by omega) (by rw [← HN.out]; omega) (by rw [← HM.out]; omega) RX.out RY.out).mono ?_
    rintro e w2 ⟨vt, rfl, rt, hb2⟩
    rw [← HZ.out] at rt ⊢
    have RS2 := hide (RS.out.mono hb2)
    have RT := hide rt
    have HB2 := hide (HB1.out.trans (hb2.mono HB1.out.size))
    clear rt hb2
    go_wp2_with fail
    refine (same_true Z.1 _ _ _ ZL.out RS2.out RT.out).mono ?_
    rintro e w3 ⟨rfl, hb3⟩
    have HB3 := hide (HB2.out.trans (hb3.mono HB2.out.size)); clear hb3
    go_wp2
    go_ret
    exact ⟨rfl, HB3.out⟩
  · go_enter Try.func3, Try.ntmps3
    go_wp2_with fail
    refine (subWords xs ys _ _ _ _ kx.out ky.out (by omega) (by omega) (by rw [← HN.out]; omega) (by rw [← HM.out]; omega) rx.out ry.out).mono ?_
    rintro e w1 ⟨vs, rfl, rs, hb1⟩
    rw [← HZ.out] at rs ⊢
    have RX := hide (rx.out.mono hb1)
    have RY := hide (ry.out.mono hb1)
    have RS := hide rs
    have HB1 := hide hb1
    clear rs hb1
    go_wp2_with fail
    refine (specSub xs ys _ _ _ _ kx.out ky.out (by omega) (by omega) (by rw [← HN.out]; omega) (by rw [← HM.out]; omega) RX.out RY.out).mono ?_
    rintro e w2 ⟨vt, rfl, rt, hb2⟩
    rw [← HZ.out] at rt ⊢
    have RS2 := hide (RS.out.mono hb2)
    have RT := hide rt
    have HB2 := hide (HB1.out.trans (hb2.mono HB1.out.size))
    clear rt hb2
    go_wp2_with fail
    refine (same_true Z.1 _ _ _ ZL.out RS2.out RT.out).mono ?_
    rintro e w3 ⟨rfl, hb3⟩
    have HB3 := hide (HB2.out.trans (hb3.mono HB2.out.size)); clear hb3
    go_wp2
    go_ret
    exact ⟨rfl, HB3.out⟩

theorem walk (v : Value) (xs : List Int) (v2 : Value) (ys : List Int) (t : Bool) {w : World} (rx : Row w v xs) (kx : Ws xs) (sx : xs.length * 8 ≤ 140737488351232) (ry : Row w v2 ys) (ky : Ws ys) (sy : ys.length * 8 ≤ 140737488351232) :
    Calls Try.prog 3 #[v, v2, .bool t] w fun e w' => e = .returned (.bool true) ∧ Below w.heap.size w w' := by
  cases t
  · exact walk_at v v2 xs ys false 0 (Or.inl ⟨rfl, rfl⟩) rx kx sx ry ky sy
  · exact walk_at v v2 xs ys true 1 (Or.inr ⟨rfl, rfl⟩) rx kx sx ry ky sy
end Go.Proofs.Ytaiepmcjnnoioaa.fnExactSubWords
