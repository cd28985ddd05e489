/-
  What impl.OnesCount64 returns: the ones.
-/
import Derived.Test.YtgjniomloooccaaDoorBase
namespace Go.Proofs.YtgjniomloooccaaDoor
open Go.RowKit

def Pop64Post (x : Int) (w : World) (e : Ending) (w' : World) : Prop :=
  ∃ r n : Nat, e = .returned (.int .i64 (r : Int)) ∧ w' = w.drewN n ∧ r = Roads.pop 64 x.toNat ∧ r ≤ 64

theorem mask_i64_127 (a : Nat) (ha : a < 9223372036854775808) : bits .and .i64 (a : Int) 127 = ((a % 128 : Nat) : Int) := by
  have h1 : (BitVec.ofInt 64 (a : Int)).toNat = a := by
    rw [BitVec.ofInt_natCast, BitVec.toNat_ofNat]; exact Nat.mod_eq_of_lt (by omega)
  have h2 : (BitVec.ofInt 64 (127 : Int)).toNat = 127 := by decide
  show IntKind.i64.wrap ((BitVec.ofInt 64 (a : Int) &&& BitVec.ofInt 64 (127 : Int)).toNat : Int) = _
  rw [BitVec.toNat_and, h1, h2, nat_mask7, IntKind.wrap_i64]
  omega

theorem lin_R (b0 b1 b2 b3 b4 b5 b6 b7 : Nat) (l0 : b0 ≤ 8) (l1 : b1 ≤ 8) (l2 : b2 ≤ 8) (l3 : b3 ≤ 8) (l4 : b4 ≤ 8) (l5 : b5 ≤ 8) (l6 : b6 ≤ 8) (l7 : b7 ≤ 8) : (b0) + (b1) * 256 + (b2) * 65536 + (b3) * 16777216 + (b4) * 4294967296 + (b5) * 1099511627776 + (b6) * 281474976710656 + (b7) * 72057594037927936 ≤ 578721382704613384 ∧ ((b0) + (b1) * 256 + (b2) * 65536 + (b3) * 16777216 + (b4) * 4294967296 + (b5) * 1099511627776 + (b6) * 281474976710656 + (b7) * 72057594037927936) / 256 = (b1) + (b2) * 256 + (b3) * 65536 + (b4) * 16777216 + (b5) * 4294967296 + (b6) * 1099511627776 + (b7) * 281474976710656 := by omega
theorem lin_S (b0 b1 b2 b3 b4 b5 b6 b7 : Nat) (l0 : b0 ≤ 8) (l1 : b1 ≤ 8) (l2 : b2 ≤ 8) (l3 : b3 ≤ 8) (l4 : b4 ≤ 8) (l5 : b5 ≤ 8) (l6 : b6 ≤ 8) (l7 : b7 ≤ 8) : ((b0) + (b1) * 256 + (b2) * 65536 + (b3) * 16777216 + (b4) * 4294967296 + (b5) * 1099511627776 + (b6) * 281474976710656 + (b7) * 72057594037927936) + ((b1) + (b2) * 256 + (b3) * 65536 + (b4) * 16777216 + (b5) * 4294967296 + (b6) * 1099511627776 + (b7) * 281474976710656) = (b0 + b1) + (b1 + b2) * 256 + (b2 + b3) * 65536 + (b3 + b4) * 16777216 + (b4 + b5) * 4294967296 + (b5 + b6) * 1099511627776 + (b6 + b7) * 281474976710656 + (b7) * 72057594037927936 ∧ (b0 + b1) + (b1 + b2) * 256 + (b2 + b3) * 65536 + (b3 + b4) * 16777216 + (b4 + b5) * 4294967296 + (b5 + b6) * 1099511627776 + (b6 + b7) * 281474976710656 + (b7) * 72057594037927936 ≤ 1157442765409226768 ∧ ((b0 + b1) + (b1 + b2) * 256 + (b2 + b3) * 65536 + (b3 + b4) * 16777216 + (b4 + b5) * 4294967296 + (b5 + b6) * 1099511627776 + (b6 + b7) * 281474976710656 + (b7) * 72057594037927936) / 65536 = (b2 + b3) + (b3 + b4) * 256 + (b4 + b5) * 65536 + (b5 + b6) * 16777216 + (b6 + b7) * 4294967296 + (b7) * 1099511627776 := by omega
theorem lin_T (b0 b1 b2 b3 b4 b5 b6 b7 : Nat) (l0 : b0 ≤ 8) (l1 : b1 ≤ 8) (l2 : b2 ≤ 8) (l3 : b3 ≤ 8) (l4 : b4 ≤ 8) (l5 : b5 ≤ 8) (l6 : b6 ≤ 8) (l7 : b7 ≤ 8) : ((b0 + b1) + (b1 + b2) * 256 + (b2 + b3) * 65536 + (b3 + b4) * 16777216 + (b4 + b5) * 4294967296 + (b5 + b6) * 1099511627776 + (b6 + b7) * 281474976710656 + (b7) * 72057594037927936) + ((b2 + b3) + (b3 + b4) * 256 + (b4 + b5) * 65536 + (b5 + b6) * 16777216 + (b6 + b7) * 4294967296 + (b7) * 1099511627776) = (b0 + b1 + b2 + b3) + (b1 + b2 + b3 + b4) * 256 + (b2 + b3 + b4 + b5) * 65536 + (b3 + b4 + b5 + b6) * 16777216 + (b4 + b5 + b6 + b7) * 4294967296 + (b5 + b6 + b7) * 1099511627776 + (b6 + b7) * 281474976710656 + (b7) * 72057594037927936 ∧ (b0 + b1 + b2 + b3) + (b1 + b2 + b3 + b4) * 256 + (b2 + b3 + b4 + b5) * 65536 + (b3 + b4 + b5 + b6) * 16777216 + (b4 + b5 + b6 + b7) * 4294967296 + (b5 + b6 + b7) * 1099511627776 + (b6 + b7) * 281474976710656 + (b7) * 72057594037927936 ≤ 2314885530818453536 ∧ ((b0 + b1 + b2 + b3) + (b1 + b2 + b3 + b4) * 256 + (b2 + b3 + b4 + b5) * 65536 + (b3 + b4 + b5 + b6) * 16777216 + (b4 + b5 + b6 + b7) * 4294967296 + (b5 + b6 + b7) * 1099511627776 + (b6 + b7) * 281474976710656 + (b7) * 72057594037927936) / 4294967296 = (b4 + b5 + b6 + b7) + (b5 + b6 + b7) * 256 + (b6 + b7) * 65536 + (b7) * 16777216 := by omega
theorem lin_U (b0 b1 b2 b3 b4 b5 b6 b7 : Nat) : ∃ V, ((b0 + b1 + b2 + b3) + (b1 + b2 + b3 + b4) * 256 + (b2 + b3 + b4 + b5) * 65536 + (b3 + b4 + b5 + b6) * 16777216 + (b4 + b5 + b6 + b7) * 4294967296 + (b5 + b6 + b7) * 1099511627776 + (b6 + b7) * 281474976710656 + (b7) * 72057594037927936) + ((b4 + b5 + b6 + b7) + (b5 + b6 + b7) * 256 + (b6 + b7) * 65536 + (b7) * 16777216) = 256 * V + (b0 + b1 + b2 + b3 + b4 + b5 + b6 + b7) := ⟨((b1 + b2 + b3 + b4) + (b2 + b3 + b4 + b5) * 256 + (b3 + b4 + b5 + b6) * 65536 + (b4 + b5 + b6 + b7) * 16777216 + (b5 + b6 + b7) * 4294967296 + (b6 + b7) * 1099511627776 + (b7) * 281474976710656) + ((b5 + b6 + b7) + (b6 + b7) * 256 + (b7) * 65536), by omega⟩

/-- The ones of eight bytes, added up by shifts. -/
theorem pop64_fold {X R S T U : Nat} (hR : R = Roads.onBytes (Roads.pop 8) 8 X) (hS : S = R + R / 256) (hT : T = S + S / 65536) (hU : U = T + T / 4294967296) :
    R ≤ 578721382704613384 ∧ S ≤ 1157442765409226768 ∧ T ≤ 2314885530818453536 ∧ U < 9223372036854775808 ∧ U % 128 = Roads.pop 64 X := by
  simp only [Roads.onBytes] at hR
  have a0 := Roads.pop_mod 8 (X)
  have a1 := Roads.pop_mod 8 (X / 2 ^ 8)
  have a2 := Roads.pop_mod 8 (X / 2 ^ 8 / 2 ^ 8)
  have a3 := Roads.pop_mod 8 (X / 2 ^ 8 / 2 ^ 8 / 2 ^ 8)
  have a4 := Roads.pop_mod 8 (X / 2 ^ 8 / 2 ^ 8 / 2 ^ 8 / 2 ^ 8)
  have a5 := Roads.pop_mod 8 (X / 2 ^ 8 / 2 ^ 8 / 2 ^ 8 / 2 ^ 8 / 2 ^ 8)
  have a6 := Roads.pop_mod 8 (X / 2 ^ 8 / 2 ^ 8 / 2 ^ 8 / 2 ^ 8 / 2 ^ 8 / 2 ^ 8)
  have a7 := Roads.pop_mod 8 (X / 2 ^ 8 / 2 ^ 8 / 2 ^ 8 / 2 ^ 8 / 2 ^ 8 / 2 ^ 8 / 2 ^ 8)
  have s0 : Roads.pop 64 (X) = _ := Roads.pop_add 8 56 (X)
  have s1 : Roads.pop 56 (X / 2 ^ 8) = _ := Roads.pop_add 8 48 (X / 2 ^ 8)
  have s2 : Roads.pop 48 (X / 2 ^ 8 / 2 ^ 8) = _ := Roads.pop_add 8 40 (X / 2 ^ 8 / 2 ^ 8)
  have s3 : Roads.pop 40 (X / 2 ^ 8 / 2 ^ 8 / 2 ^ 8) = _ := Roads.pop_add 8 32 (X / 2 ^ 8 / 2 ^ 8 / 2 ^ 8)
  have s4 : Roads.pop 32 (X / 2 ^ 8 / 2 ^ 8 / 2 ^ 8 / 2 ^ 8) = _ := Roads.pop_add 8 24 (X / 2 ^ 8 / 2 ^ 8 / 2 ^ 8 / 2 ^ 8)
  have s5 : Roads.pop 24 (X / 2 ^ 8 / 2 ^ 8 / 2 ^ 8 / 2 ^ 8 / 2 ^ 8) = _ := Roads.pop_add 8 16 (X / 2 ^ 8 / 2 ^ 8 / 2 ^ 8 / 2 ^ 8 / 2 ^ 8)
  have s6 : Roads.pop 16 (X / 2 ^ 8 / 2 ^ 8 / 2 ^ 8 / 2 ^ 8 / 2 ^ 8 / 2 ^ 8) = _ := Roads.pop_add 8 8 (X / 2 ^ 8 / 2 ^ 8 / 2 ^ 8 / 2 ^ 8 / 2 ^ 8 / 2 ^ 8)
  have l0 := Roads.pop_le 8 (X)
  have l1 := Roads.pop_le 8 (X / 2 ^ 8)
  have l2 := Roads.pop_le 8 (X / 2 ^ 8 / 2 ^ 8)
  have l3 := Roads.pop_le 8 (X / 2 ^ 8 / 2 ^ 8 / 2 ^ 8)
  have l4 := Roads.pop_le 8 (X / 2 ^ 8 / 2 ^ 8 / 2 ^ 8 / 2 ^ 8)
  have l5 := Roads.pop_le 8 (X / 2 ^ 8 / 2 ^ 8 / 2 ^ 8 / 2 ^ 8 / 2 ^ 8)
  have l6 := Roads.pop_le 8 (X / 2 ^ 8 / 2 ^ 8 / 2 ^ 8 / 2 ^ 8 / 2 ^ 8 / 2 ^ 8)
  have l7 := Roads.pop_le 8 (X / 2 ^ 8 / 2 ^ 8 / 2 ^ 8 / 2 ^ 8 / 2 ^ 8 / 2 ^ 8 / 2 ^ 8)
  rw [show (256 : Nat) = 2 ^ 8 from rfl] at hR
  rw [a0, a1, a2, a3, a4, a5, a6, a7] at hR
  clear a0 a1 a2 a3 a4 a5 a6 a7
  generalize Roads.pop 8 (X) = b0 at *
  generalize Roads.pop 8 (X / 2 ^ 8) = b1 at *
  generalize Roads.pop 8 (X / 2 ^ 8 / 2 ^ 8) = b2 at *
  generalize Roads.pop 8 (X / 2 ^ 8 / 2 ^ 8 / 2 ^ 8) = b3 at *
  generalize Roads.pop 8 (X / 2 ^ 8 / 2 ^ 8 / 2 ^ 8 / 2 ^ 8) = b4 at *
  generalize Roads.pop 8 (X / 2 ^ 8 / 2 ^ 8 / 2 ^ 8 / 2 ^ 8 / 2 ^ 8) = b5 at *
  generalize Roads.pop 8 (X / 2 ^ 8 / 2 ^ 8 / 2 ^ 8 / 2 ^ 8 / 2 ^ 8 / 2 ^ 8) = b6 at *
  generalize Roads.pop 8 (X / 2 ^ 8 / 2 ^ 8 / 2 ^ 8 / 2 ^ 8 / 2 ^ 8 / 2 ^ 8 / 2 ^ 8) = b7 at *
  have t : Roads.pop 64 X = b0 + b1 + b2 + b3 + b4 + b5 + b6 + b7 := by omega
  rw [t]
  clear t s0 s1 s2 s3 s4 s5 s6
  have eR : R = (b0) + (b1) * 256 + (b2) * 65536 + (b3) * 16777216 + (b4) * 4294967296 + (b5) * 1099511627776 + (b6) * 281474976710656 + (b7) * 72057594037927936 := by omega
  clear hR
  obtain ⟨r1, r2⟩ := lin_R b0 b1 b2 b3 b4 b5 b6 b7 l0 l1 l2 l3 l4 l5 l6 l7
  obtain ⟨s1, s2, s3⟩ := lin_S b0 b1 b2 b3 b4 b5 b6 b7 l0 l1 l2 l3 l4 l5 l6 l7
  obtain ⟨t1, t2, t3⟩ := lin_T b0 b1 b2 b3 b4 b5 b6 b7 l0 l1 l2 l3 l4 l5 l6 l7
  obtain ⟨V, hV⟩ := lin_U b0 b1 b2 b3 b4 b5 b6 b7
  rw [← eR] at r1 r2 s1
  rw [← r2, ← hS] at s1
  rw [← s1] at s2 s3 t1
  rw [← s3, ← hT] at t1
  rw [← t1] at t2 t3 hV
  rw [← t3, ← hU] at hV
  clear s1 t1 eR r2 s3 t3 hS hT
  refine ⟨r1, s2, t2, by omega, ?_⟩
  clear r1 s2 t2 hU
  omega

theorem pop64_steps (X : Nat) (hX : X < 18446744073709551616) : ∃ A1 A0 Y D C Z R S T U : Nat,
    bits .and .u64 ((X : Int) / 2) 6148914691236517205 = (A1 : Int) ∧ bits .and .u64 (X : Int) 6148914691236517205 = (A0 : Int) ∧ (A1 : Int) + A0 = Y ∧ Y < 18446744073709551616 ∧
    bits .and .u64 ((Y : Int) / 4) 3689348814741910323 = (D : Int) ∧ bits .and .u64 (Y : Int) 3689348814741910323 = (C : Int) ∧ (D : Int) + C = Z ∧ Z ≤ 7378697629483820646 ∧
    bits .and .u64 ((Z : Int) / 16 + Z) 1085102592571150095 = (R : Int) ∧ R ≤ 578721382704613384 ∧ (R : Int) + (R : Int) / 256 = S ∧ S ≤ 1157442765409226768 ∧ (S : Int) + (S : Int) / 65536 = T ∧ T ≤ 2314885530818453536 ∧
    (T : Int) + (T : Int) / 4294967296 = U ∧ U < 9223372036854775808 ∧ bits .and .i64 (U : Int) 127 = (Roads.pop 64 X : Int) := by
  have m85 : Roads.mask 85 8 = 6148914691236517205 := by decide
  have m51 : Roads.mask 51 8 = 3689348814741910323 := by decide
  have m15 : Roads.mask 15 8 = 1085102592571150095 := by decide
  have e := Roads.swar 8 X _ _ hX rfl rfl
  have s := Roads.swar_sum 8 X hX
  rw [m85, m51, m15] at e
  rw [m85] at s
  rw [s] at e
  obtain ⟨A1, h1⟩ : ∃ A, A = (X / 2) &&& 6148914691236517205 := ⟨_, rfl⟩
  obtain ⟨A0, h0⟩ : ∃ A, A = X &&& 6148914691236517205 := ⟨_, rfl⟩
  rw [← h1, ← h0] at e
  clear s
  obtain ⟨Y, hY⟩ : ∃ Y, Y = A1 + A0 := ⟨_, rfl⟩
  rw [← hY] at e
  obtain ⟨C, hC⟩ : ∃ C, C = Y &&& 3689348814741910323 := ⟨_, rfl⟩
  obtain ⟨D, hD⟩ : ∃ D, D = (Y / 4) &&& 3689348814741910323 := ⟨_, rfl⟩
  rw [← hC, ← hD] at e
  obtain ⟨e1, e2, e3⟩ := e
  have lC : C ≤ 3689348814741910323 := by rw [hC]; exact Nat.and_le_right
  have lD : D ≤ 3689348814741910323 := by rw [hD]; exact Nat.and_le_right
  obtain ⟨R, hR⟩ : ∃ R, R = (C + D + (C + D) / 16) &&& 1085102592571150095 := ⟨_, rfl⟩
  rw [← hR] at e3
  obtain ⟨f1, f2, f3, f4, f5⟩ := pop64_fold e3 rfl rfl rfl
  refine ⟨A1, A0, Y, D, C, C + D, R, _, _, _, ?_, ?_, by omega, by omega, ?_, ?_, by omega, by omega, ?_, f1, by omega, f2, by omega, f3, by omega, f4, ?_⟩
  · rw [h1, show (X : Int) / 2 = ((X / 2 : Nat) : Int) by omega]; exact u64_and_nat _ _ (by omega) (by decide)
  · rw [h0]; exact u64_and_nat _ _ hX (by decide)
  · rw [hD, show (Y : Int) / 4 = ((Y / 4 : Nat) : Int) by omega]; exact u64_and_nat _ _ (by omega) (by decide)
  · rw [hC]; exact u64_and_nat _ _ (by omega) (by decide)
  · rw [hR, show ((C + D : Nat) : Int) / 16 + ((C + D : Nat) : Int) = ((C + D + (C + D) / 16 : Nat) : Int) by omega]; exact u64_and_nat _ _ (by omega) (by decide)
  · rw [mask_i64_127 _ f4, f5]

theorem pop64_nat (X : Nat) (w : World) (hX : X < 18446744073709551616) :
    Calls Tryd.prog 14 #[.int .u64 X] w (Pop64Post X w) := by
  obtain ⟨A1, A0, Y, D, C, Z, R, S, T, U, h1, h2, h3, h4, h5, h6, h7, h8, h9, h10, h11, h12, h13, h14, h15, h16, h17⟩ := pop64_steps X hX
  have H := hide h17; clear h17
  go_enter Tryd.func14, Tryd.ntmps14
  go_wp2
  go_ret
  refine ⟨Roads.pop 64 X, 0, ?_, rfl, rfl, Roads.pop_le _ _⟩
  rw [← H.out]; rfl

theorem pop64 (x : Int) (w : World) (hx : 0 ≤ x) (hx' : x < 18446744073709551616) :
    Calls Tryd.prog 14 #[.int .u64 x] w (Pop64Post x w) := by
  obtain ⟨X, rfl⟩ := Int.eq_ofNat_of_zero_le hx
  exact pop64_nat X w (by omega)
end Go.Proofs.YtgjniomloooccaaDoor
