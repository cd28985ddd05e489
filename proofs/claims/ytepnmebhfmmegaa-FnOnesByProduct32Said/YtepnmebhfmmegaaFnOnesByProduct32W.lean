/-
  For every x of 32 bits, laws.FnOnesByProduct32 returns true. The walk.
-/
import Derived.Test.YtepnmebhfmmegaaMul32
import Derived.Test.YtepnmebhfmmegaaPop32
import Derived.WalkKit
import Derived.ProofKit
import Derived.OpenShut
namespace Go.Proofs.Ytepnmebhfmmegaa.fnOnesByProduct32
open Go.ChangeShapes Go.WideShapes Go.ChangeAt Go.RowKit
set_option linter.unusedVariables false

/-- The bytes' ones, each in its byte, and what a product with ones in each byte makes of them. -/
theorem bytes {X R : Nat} {hi lo : Int} (hX : X < 4294967296) (hR : R = Roads.onBytes (Roads.pop 8) 4 X) (h1 : 0 ≤ lo) (h2 : lo < 4294967296) (h : hi * 4294967296 + lo = R * 16843009) :
    lo / 16777216 = (Roads.pop 32 X : Int) := by
  simp only [Roads.onBytes] at hR
  have l := Roads.pop_le 8
  have a0 := Roads.pop_mod 8 X
  have a1 := Roads.pop_mod 8 (X / 2 ^ 8)
  have a2 := Roads.pop_mod 8 (X / 2 ^ 8 / 2 ^ 8)
  have a3 := Roads.pop_mod 8 (X / 2 ^ 8 / 2 ^ 8 / 2 ^ 8)
  have s1 : Roads.pop 32 X = _ := Roads.pop_add 8 24 X
  have s2 : Roads.pop 24 (X / 2 ^ 8) = _ := Roads.pop_add 8 16 (X / 2 ^ 8)
  have s3 : Roads.pop 16 (X / 2 ^ 8 / 2 ^ 8) = _ := Roads.pop_add 8 8 (X / 2 ^ 8 / 2 ^ 8)
  rw [show (256 : Nat) = 2 ^ 8 from rfl] at hR
  have l0 := l X
  have l1 := l (X / 2 ^ 8)
  have l2 := l (X / 2 ^ 8 / 2 ^ 8)
  have l3 := l (X / 2 ^ 8 / 2 ^ 8 / 2 ^ 8)
  rw [a0, a1, a2, a3] at hR
  clear a0 a1 a2 a3 l hX
  generalize Roads.pop 8 X = b0 at *
  generalize Roads.pop 8 (X / 2 ^ 8) = b1 at *
  generalize Roads.pop 8 (X / 2 ^ 8 / 2 ^ 8) = b2 at *
  generalize Roads.pop 8 (X / 2 ^ 8 / 2 ^ 8 / 2 ^ 8) = b3 at *
  have t : Roads.pop 32 X = b0 + b1 + b2 + b3 := by omega
  rw [t]
  clear t s1 s2 s3
  subst hR
  obtain ⟨u, rfl⟩ : ∃ u : Int, hi = (b3 + (b3 + b2) * 256 + (b3 + b2 + b1) * 65536 + 0) / 1 + u - (b3 + (b3 + b2) * 256 + (b3 + b2 + b1) * 65536) + (b1 + b2 + b3 + (b2 + b3) * 256 + b3 * 65536) := ⟨hi - (b1 + b2 + b3 + (b2 + b3) * 256 + b3 * 65536), by omega⟩
  have u0 : u = 0 := by omega
  subst u0
  omega

theorem steps (X : Nat) (hX : X < 4294967296) : ∃ A Y C D Z R : Nat, bits .and .u32 ((X : Int) / 2) 1431655765 = (A : Int) ∧ (X : Int) - A = Y ∧ A ≤ X ∧ bits .and .u32 (Y : Int) 858993459 = (C : Int) ∧
    bits .and .u32 ((Y : Int) / 4) 858993459 = (D : Int) ∧ (C : Int) + D = Z ∧ Z + Z / 16 < 4294967296 ∧ bits .and .u32 ((Z : Int) + (Z : Int) / 16) 252645135 = (R : Int) ∧ R < 4294967296 ∧ Z < 4294967296 ∧ R = Roads.onBytes (Roads.pop 8) 4 X := by
  have e := Roads.swar 4 X _ _ hX rfl rfl
  have s1 := (Roads.step1 4 X hX).2
  rw [show Roads.mask 85 4 = 1431655765 from by decide, show Roads.mask 51 4 = 858993459 from by decide, show Roads.mask 15 4 = 252645135 from by decide] at e
  rw [show Roads.mask 85 4 = 1431655765 from by decide] at s1
  obtain ⟨A, hA⟩ : ∃ A, A = (X / 2) &&& 1431655765 := ⟨_, rfl⟩
  rw [← hA] at e s1
  obtain ⟨Y, hY⟩ : ∃ Y, Y = X - A := ⟨_, rfl⟩
  rw [← hY] at e
  obtain ⟨C, hC⟩ : ∃ C, C = Y &&& 858993459 := ⟨_, rfl⟩
  obtain ⟨D, hD⟩ : ∃ D, D = (Y / 4) &&& 858993459 := ⟨_, rfl⟩
  rw [← hC, ← hD] at e
  obtain ⟨e1, e2, e3⟩ := e
  have lC : C ≤ 858993459 := by rw [hC]; exact Nat.and_le_right
  have lD : D ≤ 858993459 := by rw [hD]; exact Nat.and_le_right
  have lR : (C + D + (C + D) / 16) &&& 252645135 ≤ 252645135 := Nat.and_le_right
  refine ⟨A, Y, C, D, C + D, (C + D + (C + D) / 16) &&& 252645135, ?_, by omega, s1, ?_, ?_, by omega, by omega, ?_, by omega, by omega, e3⟩
  · rw [hA, show (X : Int) / 2 = ((X / 2 : Nat) : Int) by omega]; exact u32_and_nat _ _ (by omega) (by decide)
  · rw [hC]; exact u32_and_nat _ _ (by omega) (by decide)
  · rw [hD, show (Y : Int) / 4 = ((Y / 4 : Nat) : Int) by omega]; exact u32_and_nat _ _ (by omega) (by decide)
  · rw [show ((C + D : Nat) : Int) + ((C + D : Nat) : Int) / 16 = ((C + D + (C + D) / 16 : Nat) : Int) by omega]; exact u32_and_nat _ _ (by omega) (by decide)

theorem walk (x : Int) (w0 : (Lit.int .u32 x).wf = true) (w : World) :
    Calls Try.prog 7 #[.int .u32 x] w fun e w' => e = .returned (.bool true) ∧ Grown w w' := by
  obtain ⟨hx, hx'⟩ := bounds_u32 w0
  obtain ⟨X, rfl⟩ := Int.eq_ofNat_of_zero_le hx
  obtain ⟨A, Y, C, D, Z, R, hA, hY, lA, hC, hD, hZ, lZ, hR, lR, lZ', r⟩ := steps X (by omega)
  have HR := hide r; clear r
  go_enter Try.func7, Try.ntmps7
  go_wp2_with fail
  refine (mul32 _ _ _ (by omega) (by omega) (by omega) (by omega)).mono ?_
  rintro e w' ⟨hi, lo, rfl, rfl, h1, h2, h3, h4, h5⟩
  have E := hide (bytes (by omega) HR.out h3 h4 h5)
  clear HR h5
  go_wp2_with fail
  refine (pop32 _ _ (by omega) (by omega)).mono ?_
  rintro e w' ⟨r1, n1, rfl, rfl, q1, l1⟩
  have t : (lo / 16777216 == (r1 : Int)) = true := by rw [E.out, q1, Int.toNat_natCast, beq_iff_eq]
  clear q1 E
  go_wp2_with fail
  refine (pop32 _ _ (by omega) (by omega)).mono ?_
  rintro e w' ⟨r5, n5, rfl, rfl, q5, _⟩
  obtain rfl : r5 = 1 := q5.trans (by decide +kernel)
  clear q5
  go_wp2
  go_ret
  exact said rfl (grown_drewN (Grown.refl _) _)

end Go.Proofs.Ytepnmebhfmmegaa.fnOnesByProduct32
