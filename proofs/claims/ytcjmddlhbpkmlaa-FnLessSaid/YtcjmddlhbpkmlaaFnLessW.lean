/-
  For all x, y of type uint, laws.FnLess returns true. The walk.
-/
import Derived.Test.YtcjmddlhbpkmlaaSubu
import Derived.Test.YtcjmddlhbpkmlaaLenu
import Derived.WalkKit
import Derived.ProofKit
import Derived.OpenShut
namespace Go.Proofs.Ytcjmddlhbpkmlaa.fnLess
open Go.ChangeShapes Go.WideShapes Go.ChangeAt Go.RowKit
set_option linter.unusedVariables false

theorem bit_one (a : Int) (h0 : 0 ≤ a) (h1 : a < 18446744073709551616) : bits .and .u64 a 1 = a % 2 := by
  obtain ⟨A, rfl⟩ := Int.eq_ofNat_of_zero_le h0
  rw [show (1 : Int) = ((1 : Nat) : Int) from rfl, u64_and_nat A 1 (by omega) (by omega), nat_mask1]
  omega

theorem same (X : Nat) (hX : X < 18446744073709551616) (w : World) :
    Calls Try.prog 12 #[.int .u64 X, .int .u64 X] w fun e w' => e = .returned (.bool true) ∧ Grown w w' := by
  have ez : bits .xor .u64 (X : Int) (X : Int) = 0 := by rw [u64_xor_nat X X hX hX, Nat.xor_self]; rfl
  go_enter Try.func12, Try.ntmps12
  go_wp2_with fail
  refine (subu _ _ _ _ (by omega) (by omega) (by omega) (by omega) (by omega) (by omega)).mono ?_
  rintro e w' ⟨d, o, rfl, rfl, d0, d1, o0, o1, h1⟩
  obtain rfl : o = 0 := by omega
  clear h1
  go_wp2_with fail
  refine (lenu_zero _).mono ?_
  rintro e w' ⟨rfl, rfl⟩
  go_wp2
  go_ret
  exact said rfl (Grown.refl _)

theorem other (X Y : Nat) (hX : X < 18446744073709551616) (hY : Y < 18446744073709551616) (hne : ¬ X = Y) (w : World) :
    Calls Try.prog 12 #[.int .u64 X, .int .u64 Y] w fun e w' => e = .returned (.bool true) ∧ Grown w w' := by
  have lz : X ^^^ Y < 18446744073709551616 := Nat.xor_lt_two_pow (n := 64) (by omega) (by omega)
  have ez : bits .xor .u64 (X : Int) (Y : Int) = ((X ^^^ Y : Nat) : Int) := u64_xor_nat X Y (by omega) (by omega)
  have nz : X ^^^ Y ≠ 0 := fun h => hne (by
    have := congrArg (· ^^^ Y) h
    simpa [Nat.xor_assoc] using this)
  obtain ⟨Z, hZ⟩ : ∃ Z, Z = X ^^^ Y := ⟨_, rfl⟩
  rw [← hZ] at ez lz nz
  have HZ := hide hZ; clear hZ
  have HN := hide hne; clear hne
  go_enter Try.func12, Try.ntmps12
  go_wp2_with fail
  refine (subu _ _ _ _ (by omega) (by omega) (by omega) (by omega) (by omega) (by omega)).mono ?_
  rintro e w' ⟨d, o, rfl, rfl, d0, d1, o0, o1, h1⟩
  have H1 := hide h1; clear h1
  go_wp2_with fail
  refine (lenu_pos _ _ (by omega) (by omega)).mono ?_
  rintro e w' ⟨l, rfl, rfl, il, ll⟩
  rw [Int.toNat_natCast, HZ.out] at il
  have IL := hide il; clear il nz
  have q0 : (0 : Int) ≤ (Y : Int) / 2 ^ l := Int.ediv_nonneg (by omega) (Int.le_of_lt (Int.pow_pos (by omega)))
  have q1 : (Y : Int) / 2 ^ l < 18446744073709551616 := Int.lt_of_le_of_lt (Int.ediv_le_self _ (by omega)) (by omega)
  have b := bit_one _ q0 q1
  have eb : (Y : Int) / 2 ^ l % 2 = ((Y / 2 ^ l % 2 : Nat) : Int) := by
    rw [← pow_cast]; omega
  rw [eb] at b
  by_cases c : X < Y
  · have o' : o = 1 := by have := H1.out; omega
    subst o'
    have t : Y / 2 ^ l % 2 = 1 := (Roads.top_iff IL.out (by omega)).mpr c
    have b1 : bits .and .u64 ((Y : Int) / 2 ^ l) 1 = 1 := by rw [b, t]; rfl
    clear H1 IL HZ eb t b HN
    go_wp2
    go_ret
    exact said rfl (Grown.refl _)
  · have o' : o = 0 := by have := H1.out; have := HN.out; omega
    subst o'
    have t : Y / 2 ^ l % 2 = 0 := by
      have : ¬ Y / 2 ^ l % 2 = 1 := mt (Roads.top_iff IL.out (by omega)).mp c
      omega
    have b1 : bits .and .u64 ((Y : Int) / 2 ^ l) 1 = 0 := by rw [b, t]; rfl
    clear H1 IL HZ eb t b HN
    go_wp2
    go_ret
    exact said rfl (Grown.refl _)

theorem walk (x y : Int) (w0 : (Lit.int .u64 x).wf = true) (w1 : (Lit.int .u64 y).wf = true) (w : World) :
    Calls Try.prog 12 #[.int .u64 x, .int .u64 y] w fun e w' => e = .returned (.bool true) ∧ Grown w w' := by
  obtain ⟨hx, hx'⟩ := bounds_u64 w0
  obtain ⟨hy, hy'⟩ := bounds_u64 w1
  obtain ⟨X, rfl⟩ := Int.eq_ofNat_of_zero_le hx
  obtain ⟨Y, rfl⟩ := Int.eq_ofNat_of_zero_le hy
  by_cases h : X = Y
  · subst h; exact same X (by omega) w
  · exact other X Y (by omega) (by omega) h w

end Go.Proofs.Ytcjmddlhbpkmlaa.fnLess
