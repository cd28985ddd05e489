/-
  For all x, y of type uint and each borrow, laws.FnBorrows returns true. The walk.
-/
import Derived.Test.YtcjmddlhbpkmlaaSubu
import Derived.Test.YtcjmddlhbpkmlaaPopu
import Derived.WalkKit
import Derived.ProofKit
import Derived.OpenShut
namespace Go.Proofs.Ytcjmddlhbpkmlaa.fnBorrows
open Go.ChangeShapes Go.WideShapes Go.ChangeAt Go.RowKit
set_option linter.unusedVariables false

theorem ends {X Y D Z r1 r2 r3 r4 : Nat} {o c : Int} (q1 : r1 = Roads.pop 64 (D : Int).toNat) (q2 : r2 = Roads.pop 64 (Y : Int).toNat) (q3 : r3 = Roads.pop 64 (X : Int).toNat) (q4 : r4 = Roads.pop 64 (Z : Int).toNat)
    (hZ : Z = X ^^^ Y ^^^ D) (h : (D : Int) + Y + c = X + 18446744073709551616 * o) (hX : X < 18446744073709551616) (hY : Y < 18446744073709551616) (h2 : (D : Int) < 18446744073709551616) (h3 : 0 ≤ o) (h4 : o ≤ 1) (hc : c = 0 ∨ c = 1 := by decide) :
    (r1 : Int) + r2 + 2 * c = r3 + r4 + 2 * o := by
  obtain ⟨C, rfl⟩ : ∃ C : Nat, c = C := hc.elim (fun h => ⟨0, h⟩) (fun h => ⟨1, h⟩)
  have k := Roads.carries 64 D Y C (by omega) hY (by omega)
  have e1 : (D + Y + C) % 2 ^ 64 = X := by omega
  have e2 : (((D + Y + C) / 2 ^ 64 : Nat) : Int) = o := by omega
  have e3 : D ^^^ Y ^^^ X = X ^^^ Y ^^^ D := by rw [Nat.xor_comm D Y, Nat.xor_comm (Y ^^^ D) X, Nat.xor_assoc]
  rw [e1, e3, ← hZ] at k
  simp only [Int.toNat_natCast] at q1 q2 q3 q4
  rw [← q1, ← q2, ← q3, ← q4] at k
  omega

set_option maxRecDepth 100000 in
theorem core (X Y : Nat) (c : Bool) (hX : X < 18446744073709551616) (hY : Y < 18446744073709551616) (w : World) :
    Calls Try.prog 15 #[.int .u64 X, .int .u64 Y, .bool c] w fun e w' => e = .returned (.bool true) ∧ Grown w w' := by
  cases c
  all_goals
    go_enter Try.func15, Try.ntmps15
    go_wp2_with fail
    refine (subu _ _ _ _ (by omega) (by omega) (by omega) (by omega) (by omega) (by omega)).mono ?_
    rintro e w' ⟨d, o, rfl, rfl, h1, h2, h3, h4, h5⟩
    obtain ⟨D, rfl⟩ := Int.eq_ofNat_of_zero_le h1
    have lx : X ^^^ Y < 18446744073709551616 := Nat.xor_lt_two_pow (n := 64) hX hY
    have lz : X ^^^ Y ^^^ D < 18446744073709551616 := Nat.xor_lt_two_pow (n := 64) lx (by omega)
    have ex : bits .xor .u64 (bits .xor .u64 (X : Int) (Y : Int)) (D : Int) = ((X ^^^ Y ^^^ D : Nat) : Int) := by rw [u64_xor_nat X Y hX hY, u64_xor_nat _ D lx (by omega)]
    obtain ⟨Z, hZ⟩ : ∃ Z, Z = X ^^^ Y ^^^ D := ⟨_, rfl⟩
    rw [← hZ] at ex lz
    have HZ := hide hZ; clear hZ lx
    have H := hide h5; clear h5
    go_wp2_with fail
    refine (popu _ _ (by omega) (by omega)).mono ?_
    rintro e w' ⟨r1, n1, rfl, rfl, q1, l1⟩
    have Q1 := hide q1; clear q1
    go_wp2_with fail
    refine (popu _ _ (by omega) (by omega)).mono ?_
    rintro e w' ⟨r2, n2, rfl, rfl, q2, l2⟩
    have Q2 := hide q2; clear q2
    go_wp2_with fail
    refine (popu _ _ (by omega) (by omega)).mono ?_
    rintro e w' ⟨r3, n3, rfl, rfl, q3, l3⟩
    have Q3 := hide q3; clear q3
    go_wp2_with fail
    refine (popu _ _ (by omega) (by omega)).mono ?_
    rintro e w' ⟨r4, n4, rfl, rfl, q4, l4⟩
    have Q4 := hide q4; clear q4
    have E := ends Q1.out Q2.out Q3.out Q4.out HZ.out H.out hX hY h2 h3 h4
    first
      | have t : ((r1 : Int) + r2 == r3 + r4 + 2 * o) = true := beq_iff_eq.mpr (by omega)
      | have t : ((r1 : Int) + r2 + 2 == r3 + r4 + 2 * o) = true := beq_iff_eq.mpr (by omega)
    clear E Q1 Q2 Q3 Q4 HZ H
    go_wp2_with fail
    refine (popu _ _ (by omega) (by omega)).mono ?_
    rintro e w' ⟨r5, n5, rfl, rfl, q5, _⟩
    obtain rfl : r5 = 1 := q5.trans (by decide +kernel)
    clear q5
    go_wp2
    go_ret
    exact said rfl (grown_drewN (Grown.refl _) _)

theorem walk (x y : Int) (c : Bool) (w0 : (Lit.int .u64 x).wf = true) (w1 : (Lit.int .u64 y).wf = true) (w : World) :
    Calls Try.prog 15 #[.int .u64 x, .int .u64 y, .bool c] w fun e w' => e = .returned (.bool true) ∧ Grown w w' := by
  obtain ⟨hx, hx'⟩ := bounds_u64 w0
  obtain ⟨hy, hy'⟩ := bounds_u64 w1
  obtain ⟨X, rfl⟩ := Int.eq_ofNat_of_zero_le hx
  obtain ⟨Y, rfl⟩ := Int.eq_ofNat_of_zero_le hy
  exact core X Y c (by omega) (by omega) w

end Go.Proofs.Ytcjmddlhbpkmlaa.fnBorrows
