/-
  For all x, z of type uint, laws.FnNextSame returns true. The walk.
-/
import Derived.Test.YtgjniomloooccaaDoorAddu
import Derived.Test.YtgjniomloooccaaDoorSubu
import Derived.Test.YtgjniomloooccaaDoorPopu
import Derived.Test.YtgjniomloooccaaDoorTzu
import Derived.Test.YtgjniomloooccaaDoorPlainNext
import Derived.WalkKit
import Derived.ProofKit
import Derived.OpenShut
namespace Go.Proofs.YtgjniomloooccaaDoor.fnNextSame
open Go.ChangeShapes Go.WideShapes Go.ChangeAt Go.RowKit
set_option linter.unusedVariables false

theorem zero (Z : Nat) (hZ : Z < 18446744073709551616) (w : World) :
    Calls Tryd.prog 8 #[.int .u64 0, .int .u64 Z] w fun e w' => e = .returned (.bool true) ∧ Grown w w' := by
  go_enter Tryd.func8, Tryd.ntmps8
  go_wp2_with fail
  refine (popu _ _ (by omega) (by omega)).mono ?_
  rintro e w' ⟨r5, n5, rfl, rfl, q5, _⟩
  obtain rfl : r5 = 1 := q5.trans (by decide +kernel)
  clear q5
  go_wp2
  go_ret
  exact said rfl (grown_drewN (Grown.refl _) _)

set_option maxHeartbeats 2000000 in
set_option maxRecDepth 100000 in
theorem other (X Z : Nat) (hX : X < 18446744073709551616) (x0 : 0 < X) (hZ : Z < 18446744073709551616) (bx : ((X : Int) == 0) = false) (w : World) (T : Hid (Tab64 w)) :
    Calls Tryd.prog 8 #[.int .u64 X, .int .u64 Z] w fun e w' => e = .returned (.bool true) ∧ Grown w w' := by
  obtain ⟨t, ht, tl, low⟩ := Roads.low_and (N := 64) x0 hX
  have HT := hide ht; clear ht
  obtain ⟨L, hL⟩ : ∃ L, L = 2 ^ t := ⟨_, rfl⟩
  have lL : L < 18446744073709551616 := by rw [hL]; exact Nat.pow_lt_pow_right (by omega) tl
  have l0 : 0 < L := by rw [hL]; exact Nat.two_pow_pos t
  rw [← hL] at low
  have ea : bits .and .u64 (X : Int) ((18446744073709551616 - X : Nat) : Int) = (L : Int) := by rw [u64_and_nat X _ hX (by omega), ← low]
  obtain ⟨M, hM⟩ : ∃ M, M = 18446744073709551616 - X := ⟨_, rfl⟩
  rw [← hM] at ea
  have HL := hide hL; clear hL low
  have HM := hide hM; clear hM
  go_enter Tryd.func8, Tryd.ntmps8
  go_wp2_with fail
  refine (subu _ _ _ _ (by omega) (by omega) (by omega) (by omega) (by omega) (by omega)).mono ?_
  rintro e w' ⟨d, o, rfl, rfl, d0, d1, o0, o1, h1⟩
  obtain rfl : d = (M : Int) := by have := HM.out; omega
  clear h1 d0 d1
  go_wp2_with fail
  refine (addu _ _ _ _ (by omega) (by omega) (by omega) (by omega) (by omega) (by omega)).mono ?_
  rintro e w' ⟨s, c, rfl, rfl, s0, s1, c0, c1, h2⟩
  obtain ⟨U, rfl⟩ := Int.eq_ofNat_of_zero_le s0
  have H2 := hide h2; clear h2
  by_cases hc : c = 1
  · subst hc
    have na : X < Z → Roads.pop 64 Z ≠ Roads.pop 64 X := Roads.none_above HT.out hX (by have := H2.out; rw [← HL.out]; omega) hZ
    have NA := hide na; clear na H2 HT HL HM ea
    by_cases hz : Z ≤ X
    · go_wp2_with fail
      refine (popu _ _ (by omega) (by omega)).mono ?_
      rintro e w' ⟨r5, n5, rfl, rfl, q5, _⟩
      obtain rfl : r5 = 1 := q5.trans (by decide +kernel)
      clear q5
      go_wp2
      go_ret
      exact said rfl (grown_drewN (Grown.refl _) _)
    · go_wp2_with fail
      refine (popu _ _ (by omega) (by omega)).mono ?_
      rintro e w' ⟨r1, n1, rfl, rfl, q1, l1⟩
      have Q1 := hide q1; clear q1
      go_wp2_with fail
      refine (popu _ _ (by omega) (by omega)).mono ?_
      rintro e w' ⟨r2, n2, rfl, rfl, q2, l2⟩
      have ne : ((r1 : Int) != r2) = true := bne_iff_ne.mpr (fun h => NA.out (by omega) (by
        have := Q1.out
        simp only [Int.toNat_natCast] at this q2
        omega))
      clear q2 Q1 NA
      go_wp2_with fail
      refine (popu _ _ (by omega) (by omega)).mono ?_
      rintro e w' ⟨r5, n5, rfl, rfl, q5, _⟩
      obtain rfl : r5 = 1 := q5.trans (by decide +kernel)
      clear q5
      go_wp2
      go_ret
      exact said rfl (grown_drewN (Grown.refl _) _)
  · obtain rfl : c = 0 := by omega
    have eU : U = X + 2 ^ t := by have := H2.out; rw [← HL.out]; omega
    obtain ⟨Y, hY⟩ : ∃ Y, Y = U ||| ((X ^^^ U) / 2 ^ (2 + t)) := ⟨_, rfl⟩
    have lU : U < 18446744073709551616 := by omega
    obtain ⟨t2, xy, lY, py, nb⟩ := Roads.next_all (N := 64) HT.out hX eU lU hY
    have lV : X ^^^ U < 18446744073709551616 := Nat.xor_lt_two_pow (n := 64) hX lU
    have ev : bits .xor .u64 (X : Int) (U : Int) = ((X ^^^ U : Nat) : Int) := u64_xor_nat X U hX lU
    obtain ⟨V, hV⟩ : ∃ V, V = X ^^^ U := ⟨_, rfl⟩
    rw [← hV] at ev lV hY
    have lD : V / 2 ^ (2 + t) < 18446744073709551616 := Nat.lt_of_le_of_lt (Nat.div_le_self _ _) lV
    have ed : (V : Int) / 2 ^ (2 + t) = ((V / 2 ^ (2 + t) : Nat) : Int) := by rw [← pow_cast, ← Int.natCast_ediv]
    have ey : bits .or .u64 (U : Int) ((V / 2 ^ (2 + t) : Nat) : Int) = ((U ||| (V / 2 ^ (2 + t)) : Nat) : Int) := u64_or_nat _ _ lU lD
    rw [← hY] at ey
    obtain ⟨D, hD⟩ : ∃ D, D = V / 2 ^ (2 + t) := ⟨_, rfl⟩
    rw [← hD] at ed ey lD
    have lY' : Y < 18446744073709551616 := lY
    have yb : decide (Y ≤ X) = false := decide_eq_false (by omega)
    have PY := hide py; clear py
    have NB := hide nb; clear nb
    clear hY hV hD eU H2 HM HL lY ea
    go_wp2_with fail
    refine (tzu_pos _ _ (by omega) (by omega) T.out).mono ?_
    rintro e w' ⟨k, rfl, rfl, k1, k2⟩
    rw [Int.toNat_natCast] at k1
    obtain rfl : k = t := Roads.isTz_unique k1 HT.out
    clear k1 HT
    go_wp2_with fail
    refine (popu _ _ (by omega) (by omega)).mono ?_
    rintro e w' ⟨r1, n1, rfl, rfl, q1, l1⟩
    have Q1 := hide q1; clear q1
    go_wp2_with fail
    refine (popu _ _ (by omega) (by omega)).mono ?_
    rintro e w' ⟨r2, n2, rfl, rfl, q2, l2⟩
    have er : r1 = r2 := by
      have e1 := Q1.out
      have e2 := PY.out
      simp only [Int.toNat_natCast] at e1 q2
      omega
    have eqb : ((r1 : Int) != r2) = false := by rw [er]; simp
    clear q2 PY Q1 er
    by_cases hz : Z ≤ X
    · have zb : decide (Z ≤ X) = true := decide_eq_true hz
      go_wp2
      go_ret
      exact said rfl (grown_drewN (Grown.refl _) _)
    · have zb : decide (Z ≤ X) = false := decide_eq_false hz
      by_cases hzy : Y ≤ Z
      · have zc : decide (Y ≤ Z) = true := decide_eq_true hzy
        go_wp2
        go_ret
        exact said rfl (grown_drewN (Grown.refl _) _)
      · have zc : decide (Y ≤ Z) = false := decide_eq_false hzy
        go_wp2_with fail
        refine (popu _ _ (by omega) (by omega)).mono ?_
        rintro e w' ⟨r3, n3, rfl, rfl, q3, l3⟩
        have Q3 := hide q3; clear q3
        go_wp2_with fail
        refine (popu _ _ (by omega) (by omega)).mono ?_
        rintro e w' ⟨r4, n4, rfl, rfl, q4, l4⟩
        have ne : ((r3 : Int) != r4) = true := bne_iff_ne.mpr (fun h => NB.out Z (by omega) (by omega) (by
          have := Q3.out
          simp only [Int.toNat_natCast] at this q4
          omega))
        clear q4 Q3 NB
        go_wp2
        go_ret
        exact said rfl (grown_drewN (Grown.refl _) _)

theorem walk (x z : Int) (w0 : (Lit.int .u64 x).wf = true) (w1 : (Lit.int .u64 z).wf = true) (w : World) (hT : Tab64 w) :
    Calls Tryd.prog 8 #[.int .u64 x, .int .u64 z] w fun e w' => e = .returned (.bool true) ∧ Grown w w' := by
  obtain ⟨hx, hx'⟩ := bounds_u64 w0
  obtain ⟨hz, hz'⟩ := bounds_u64 w1
  obtain ⟨X, rfl⟩ := Int.eq_ofNat_of_zero_le hx
  obtain ⟨Z, rfl⟩ := Int.eq_ofNat_of_zero_le hz
  by_cases x0 : X = 0
  · subst x0; exact zero Z (by omega) w
  · exact other X Z (by omega) (by omega) (by omega) (beq_eq_false_iff_ne.mpr (by omega)) w hT

end Go.Proofs.YtgjniomloooccaaDoor.fnNextSame
