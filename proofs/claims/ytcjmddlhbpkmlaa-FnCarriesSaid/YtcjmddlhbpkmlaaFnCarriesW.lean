/-
  For all x, y of type uint and each carry, laws.FnCarries returns true. The walk.
-/
import Derived.Test.YtcjmddlhbpkmlaaAddu
import Derived.Test.YtcjmddlhbpkmlaaPopu
import Derived.WalkKit
import Derived.ProofKit
import Derived.OpenShut
namespace Go.Proofs.Ytcjmddlhbpkmlaa.fnCarries
open Go.ChangeShapes Go.WideShapes Go.ChangeAt Go.RowKit
set_option linter.unusedVariables false

theorem ends {X Y S Z r1 r2 r3 r4 : Nat} {o c : Int} (q1 : r1 = Roads.pop 64 (X : Int).toNat) (q2 : r2 = Roads.pop 64 (Y : Int).toNat) (q3 : r3 = Roads.pop 64 (S : Int).toNat) (q4 : r4 = Roads.pop 64 (Z : Int).toNat)
    (hZ : Z = X ^^^ Y ^^^ S) (h : (S : Int) + 18446744073709551616 * o = X + Y + c) (hX : X < 18446744073709551616) (hY : Y < 18446744073709551616) (h2 : (S : Int) < 18446744073709551616) (h3 : 0 ≤ o) (h4 : o ≤ 1) (hc : c = 0 ∨ c = 1 := by decide) :
    (r1 : Int) + r2 + 2 * c = r3 + r4 + 2 * o := by
  obtain ⟨C, rfl⟩ : ∃ C : Nat, c = C := hc.elim (fun h => ⟨0, h⟩) (fun h => ⟨1, h⟩)
  have k := Roads.carries 64 X Y C hX hY (by omega)
  have e1 : (X + Y + C) % 2 ^ 64 = S := by omega
  have e2 : (((X + Y + C) / 2 ^ 64 : Nat) : Int) = o := by omega
  rw [e1, ← hZ] at k
  simp only [Int.toNat_natCast] at q1 q2 q3 q4
  rw [← q1, ← q2, ← q3, ← q4] at k
  omega

set_option maxRecDepth 100000 in
theorem core (X Y : Nat) (c : Bool) (hX : X < 18446744073709551616) (hY : Y < 18446744073709551616) (w : World) :
    Calls Try.prog 13 #[.int .u64 X, .int .u64 Y, .bool c] w fun e w' => e = .returned (.bool true) ∧ Grown w w' := by
  cases c
  all_goals
    go_enter Try.func13, Try.ntmps13
    go_wp2_with fail
    refine (addu _ _ _ _ (by omega) (by omega) (by omega) (by omega) (by omega) (by omega)).mono ?_
    rintro e w' ⟨s, o, rfl, rfl, h1, h2, h3, h4, h5⟩
    obtain ⟨S, rfl⟩ := Int.eq_ofNat_of_zero_le h1
    have lx : X ^^^ Y < 18446744073709551616 := Nat.xor_lt_two_pow (n := 64) hX hY
    have lz : X ^^^ Y ^^^ S < 18446744073709551616 := Nat.xor_lt_two_pow (n := 64) lx (by omega)
    have ex : bits .xor .u64 (bits .xor .u64 (X : Int) (Y : Int)) (S : Int) = ((X ^^^ Y ^^^ S : Nat) : Int) := by rw [u64_xor_nat X Y hX hY, u64_xor_nat _ S lx (by omega)]
    obtain ⟨Z, hZ⟩ : ∃ Z, Z = X ^^^ Y ^^^ S := ⟨_, rfl⟩
    rw [← hZ] at ex lz
    have HZ := hide hZ; clear hZ lx
    have H := hide h5; clear h5
    go_wp2_with fail
    refine (popu _ _ (by omega) (by omega)).mono ?_
    rintro e w' ⟨r1, n1, rfl, rfl, q1, l1⟩
    have Q1 := hide q1; clear q1
    go_wp2_with fail
    refine (popu _ _ (by omega) (by omega)).mono ?_
    rintro e w' ⟨r2, n2, rfl, rfl, q2, l2⟩
    have Q2 := hide q2; clear q2
    go_wp2_with fail
    refine (popu _ _ (by omega) (by omega)).mono ?_
    rintro e w' ⟨r3, n3, rfl, rfl, q3, l3⟩
    have Q3 := hide q3; clear q3
    go_wp2_with fail
    refine (popu _ _ (by omega) (by omega)).mono ?_
    rintro e w' ⟨r4, n4, rfl, rfl, q4, l4⟩
    have Q4 := hide q4; clear q4
    have E := ends Q1.out Q2.out Q3.out Q4.out HZ.out H.out hX hY h2 h3 h4
    first
      | have t : ((r1 : Int) + r2 == r3 + r4 + 2 * o) = true := beq_iff_eq.mpr (by omega)
      | have t : ((r1 : Int) + r2 + 2 == r3 + r4 + 2 * o) = true := beq_iff_eq.mpr (by omega)
    clear E Q1 Q2 Q3 Q4 HZ H
    go_wp2_with fail
    refine (popu _ _ (by omega) (by omega)).mono ?_
    rintro e w' ⟨r5, n5, rfl, rfl, q5, _⟩
    obtain rfl : r5 = 1 := q5.trans (by decide +kernel)
    clear q5
    go_wp2
    go_ret
    exact said rfl (grown_drewN (Grown.refl _) _)

theorem walk (x y : Int) (c : Bool) (w0 : (Lit.int .u64 x).wf = true) (w1 : (Lit.int .u64 y).wf = true) (w : World) :
    Calls Try.prog 13 #[.int .u64 x, .int .u64 y, .bool c] w fun e w' => e = .returned (.bool true) ∧ Grown w w' := by
  obtain ⟨hx, hx'⟩ := bounds_u64 w0
  obtain ⟨hy, hy'⟩ := bounds_u64 w1
  obtain ⟨X, rfl⟩ := Int.eq_ofNat_of_zero_le hx
  obtain ⟨Y, rfl⟩ := Int.eq_ofNat_of_zero_le hy
  exact core X Y c (by omega) (by omega) w

end Go.Proofs.Ytcjmddlhbpkmlaa.fnCarries
