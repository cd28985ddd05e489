/-
  For every x of 64 bits, laws.FnOnesByProduct64 returns true. The walk.
-/
import Derived.Test.YtilmkepiokklgaaMul64
import Derived.Test.YtilmkepiokklgaaPop64
import Derived.WalkKit
import Derived.ProofKit
import Derived.OpenShut
namespace Go.Proofs.Ytilmkepiokklgaa.fnOnesByProduct64
open Go.ChangeShapes Go.WideShapes Go.ChangeAt Go.RowKit
set_option linter.unusedVariables false

/-- The bytes' ones, each in its byte, and what a product with ones in each byte makes of them. -/
theorem bytes {X R : Nat} {hi lo : Int} (hX : X < 18446744073709551616) (hR : R = Roads.onBytes (Roads.pop 8) 8 X) (h1 : 0 ≤ lo) (h2 : lo < 18446744073709551616) (h : hi * 18446744073709551616 + lo = R * 72340172838076673) :
    lo / 72057594037927936 = (Roads.pop 64 X : Int) := by
  simp only [Roads.onBytes] at hR
  have l := Roads.pop_le 8
  have a0 := Roads.pop_mod 8 X
  have a1 := Roads.pop_mod 8 (X / 2 ^ 8)
  have a2 := Roads.pop_mod 8 (X / 2 ^ 8 / 2 ^ 8)
  have a3 := Roads.pop_mod 8 (X / 2 ^ 8 / 2 ^ 8 / 2 ^ 8)
  have a4 := Roads.pop_mod 8 (X / 2 ^ 8 / 2 ^ 8 / 2 ^ 8 / 2 ^ 8)
  have a5 := Roads.pop_mod 8 (X / 2 ^ 8 / 2 ^ 8 / 2 ^ 8 / 2 ^ 8 / 2 ^ 8)
  have a6 := Roads.pop_mod 8 (X / 2 ^ 8 / 2 ^ 8 / 2 ^ 8 / 2 ^ 8 / 2 ^ 8 / 2 ^ 8)
  have a7 := Roads.pop_mod 8 (X / 2 ^ 8 / 2 ^ 8 / 2 ^ 8 / 2 ^ 8 / 2 ^ 8 / 2 ^ 8 / 2 ^ 8)
  have s1 : Roads.pop 64 X = _ := Roads.pop_add 8 56 X
  have s2 : Roads.pop 56 (X / 2 ^ 8) = _ := Roads.pop_add 8 48 (X / 2 ^ 8)
  have s3 : Roads.pop 48 (X / 2 ^ 8 / 2 ^ 8) = _ := Roads.pop_add 8 40 (X / 2 ^ 8 / 2 ^ 8)
  have s4 : Roads.pop 40 (X / 2 ^ 8 / 2 ^ 8 / 2 ^ 8) = _ := Roads.pop_add 8 32 (X / 2 ^ 8 / 2 ^ 8 / 2 ^ 8)
  have s5 : Roads.pop 32 (X / 2 ^ 8 / 2 ^ 8 / 2 ^ 8 / 2 ^ 8) = _ := Roads.pop_add 8 24 (X / 2 ^ 8 / 2 ^ 8 / 2 ^ 8 / 2 ^ 8)
  have s6 : Roads.pop 24 (X / 2 ^ 8 / 2 ^ 8 / 2 ^ 8 / 2 ^ 8 / 2 ^ 8) = _ := Roads.pop_add 8 16 (X / 2 ^ 8 / 2 ^ 8 / 2 ^ 8 / 2 ^ 8 / 2 ^ 8)
  have s7 : Roads.pop 16 (X / 2 ^ 8 / 2 ^ 8 / 2 ^ 8 / 2 ^ 8 / 2 ^ 8 / 2 ^ 8) = _ := Roads.pop_add 8 8 (X / 2 ^ 8 / 2 ^ 8 / 2 ^ 8 / 2 ^ 8 / 2 ^ 8 / 2 ^ 8)
  rw [show (256 : Nat) = 2 ^ 8 from rfl] at hR
  have l0 := l X
  have l1 := l (X / 2 ^ 8)
  have l2 := l (X / 2 ^ 8 / 2 ^ 8)
  have l3 := l (X / 2 ^ 8 / 2 ^ 8 / 2 ^ 8)
  have l4 := l (X / 2 ^ 8 / 2 ^ 8 / 2 ^ 8 / 2 ^ 8)
  have l5 := l (X / 2 ^ 8 / 2 ^ 8 / 2 ^ 8 / 2 ^ 8 / 2 ^ 8)
  have l6 := l (X / 2 ^ 8 / 2 ^ 8 / 2 ^ 8 / 2 ^ 8 / 2 ^ 8 / 2 ^ 8)
  have l7 := l (X / 2 ^ 8 / 2 ^ 8 / 2 ^ 8 / 2 ^ 8 / 2 ^ 8 / 2 ^ 8 / 2 ^ 8)
  rw [a0, a1, a2, a3, a4, a5, a6, a7] at hR
  clear a0 a1 a2 a3 l hX
  clear a4 a5 a6 a7
  generalize Roads.pop 8 X = b0 at *
  generalize Roads.pop 8 (X / 2 ^ 8) = b1 at *
  generalize Roads.pop 8 (X / 2 ^ 8 / 2 ^ 8) = b2 at *
  generalize Roads.pop 8 (X / 2 ^ 8 / 2 ^ 8 / 2 ^ 8) = b3 at *
  generalize Roads.pop 8 (X / 2 ^ 8 / 2 ^ 8 / 2 ^ 8 / 2 ^ 8) = b4 at *
  generalize Roads.pop 8 (X / 2 ^ 8 / 2 ^ 8 / 2 ^ 8 / 2 ^ 8 / 2 ^ 8) = b5 at *
  generalize Roads.pop 8 (X / 2 ^ 8 / 2 ^ 8 / 2 ^ 8 / 2 ^ 8 / 2 ^ 8 / 2 ^ 8) = b6 at *
  generalize Roads.pop 8 (X / 2 ^ 8 / 2 ^ 8 / 2 ^ 8 / 2 ^ 8 / 2 ^ 8 / 2 ^ 8 / 2 ^ 8) = b7 at *
  have t : Roads.pop 64 X = b0 + b1 + b2 + b3 + b4 + b5 + b6 + b7 := by omega
  rw [t]
  clear t s1 s2 s3
  clear s4 s5 s6 s7
  subst hR
  obtain ⟨u, rfl⟩ : ∃ u : Int, hi = (b1 + b2 + b3 + b4 + b5 + b6 + b7) + (b2 + b3 + b4 + b5 + b6 + b7) * 256 + (b3 + b4 + b5 + b6 + b7) * 65536 + (b4 + b5 + b6 + b7) * 16777216 + (b5 + b6 + b7) * 4294967296 + (b6 + b7) * 1099511627776 + b7 * 281474976710656 + u := ⟨hi - ((b1 + b2 + b3 + b4 + b5 + b6 + b7) + (b2 + b3 + b4 + b5 + b6 + b7) * 256 + (b3 + b4 + b5 + b6 + b7) * 65536 + (b4 + b5 + b6 + b7) * 16777216 + (b5 + b6 + b7) * 4294967296 + (b6 + b7) * 1099511627776 + b7 * 281474976710656), by omega⟩
  have u0 : u = 0 := by omega
  subst u0
  omega

theorem steps (X : Nat) (hX : X < 18446744073709551616) : ∃ A Y C D Z R : Nat, bits .and .u64 ((X : Int) / 2) 6148914691236517205 = (A : Int) ∧ (X : Int) - A = Y ∧ A ≤ X ∧ bits .and .u64 (Y : Int) 3689348814741910323 = (C : Int) ∧
    bits .and .u64 ((Y : Int) / 4) 3689348814741910323 = (D : Int) ∧ (C : Int) + D = Z ∧ Z + Z / 16 < 18446744073709551616 ∧ bits .and .u64 ((Z : Int) + (Z : Int) / 16) 1085102592571150095 = (R : Int) ∧ R < 18446744073709551616 ∧ Z < 18446744073709551616 ∧ R = Roads.onBytes (Roads.pop 8) 8 X := by
  have e := Roads.swar 8 X _ _ hX rfl rfl
  have s1 := (Roads.step1 8 X hX).2
  rw [show Roads.mask 85 8 = 6148914691236517205 from by decide, show Roads.mask 51 8 = 3689348814741910323 from by decide, show Roads.mask 15 8 = 1085102592571150095 from by decide] at e
  rw [show Roads.mask 85 8 = 6148914691236517205 from by decide] at s1
  obtain ⟨A, hA⟩ : ∃ A, A = (X / 2) &&& 6148914691236517205 := ⟨_, rfl⟩
  rw [← hA] at e s1
  obtain ⟨Y, hY⟩ : ∃ Y, Y = X - A := ⟨_, rfl⟩
  rw [← hY] at e
  obtain ⟨C, hC⟩ : ∃ C, C = Y &&& 3689348814741910323 := ⟨_, rfl⟩
  obtain ⟨D, hD⟩ : ∃ D, D = (Y / 4) &&& 3689348814741910323 := ⟨_, rfl⟩
  rw [← hC, ← hD] at e
  obtain ⟨e1, e2, e3⟩ := e
  have lC : C ≤ 3689348814741910323 := by rw [hC]; exact Nat.and_le_right
  have lD : D ≤ 3689348814741910323 := by rw [hD]; exact Nat.and_le_right
  have lR : (C + D + (C + D) / 16) &&& 1085102592571150095 ≤ 1085102592571150095 := Nat.and_le_right
  refine ⟨A, Y, C, D, C + D, (C + D + (C + D) / 16) &&& 1085102592571150095, ?_, by omega, s1, ?_, ?_, by omega, by omega, ?_, by omega, by omega, e3⟩
  · rw [hA, show (X : Int) / 2 = ((X / 2 : Nat) : Int) by omega]; exact u64_and_nat _ _ (by omega) (by decide)
  · rw [hC]; exact u64_and_nat _ _ (by omega) (by decide)
  · rw [hD, show (Y : Int) / 4 = ((Y / 4 : Nat) : Int) by omega]; exact u64_and_nat _ _ (by omega) (by decide)
  · rw [show ((C + D : Nat) : Int) + ((C + D : Nat) : Int) / 16 = ((C + D + (C + D) / 16 : Nat) : Int) by omega]; exact u64_and_nat _ _ (by omega) (by decide)

theorem walk (x : Int) (w0 : (Lit.int .u64 x).wf = true) (w : World) :
    Calls Try.prog 11 #[.int .u64 x] w fun e w' => e = .returned (.bool true) ∧ Grown w w' := by
  obtain ⟨hx, hx'⟩ := bounds_u64 w0
  obtain ⟨X, rfl⟩ := Int.eq_ofNat_of_zero_le hx
  obtain ⟨A, Y, C, D, Z, R, hA, hY, lA, hC, hD, hZ, lZ, hR, lR, lZ', r⟩ := steps X (by omega)
  have HR := hide r; clear r
  go_enter Try.func11, Try.ntmps11
  go_wp2_with fail
  refine (mul64 _ _ _ (by omega) (by omega) (by omega) (by omega)).mono ?_
  rintro e w' ⟨hi, lo, rfl, rfl, h1, h2, h3, h4, h5⟩
  have E := hide (bytes (by omega) HR.out h3 h4 h5)
  clear HR h5
  go_wp2_with fail
  refine (pop64 _ _ (by omega) (by omega)).mono ?_
  rintro e w' ⟨r1, n1, rfl, rfl, q1, l1⟩
  have t : (lo / 72057594037927936 == (r1 : Int)) = true := by rw [E.out, q1, Int.toNat_natCast, beq_iff_eq]
  clear q1 E
  go_wp2_with fail
  refine (pop64 _ _ (by omega) (by omega)).mono ?_
  rintro e w' ⟨r5, n5, rfl, rfl, q5, _⟩
  obtain rfl : r5 = 1 := q5.trans (by decide +kernel)
  clear q5
  go_wp2
  go_ret
  exact said rfl (grown_drewN (Grown.refl _) _)

end Go.Proofs.Ytilmkepiokklgaa.fnOnesByProduct64
