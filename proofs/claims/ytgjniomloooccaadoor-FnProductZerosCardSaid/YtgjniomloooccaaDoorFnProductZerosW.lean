/-
  For all x, y of type uint, laws.FnProductZeros returns true. The walk.
-/
import Derived.Test.YtgjniomloooccaaDoorMulu
import Derived.Test.YtgjniomloooccaaDoorTzu
import Derived.Test.YtgjniomloooccaaDoorWidth
import Derived.WalkKit
import Derived.ProofKit
import Derived.OpenShut
namespace Go.Proofs.YtgjniomloooccaaDoor.fnProductZeros
open Go.ChangeShapes Go.WideShapes Go.ChangeAt Go.RowKit
set_option linter.unusedVariables false

theorem zero_l (Y : Nat) (hY : Y < 18446744073709551616) (w : World) :
    Calls Tryd.prog 10 #[.int .u64 0, .int .u64 Y] w fun e w' => e = .returned (.bool true) ∧ Grown w w' := by
  go_enter Tryd.func10, Tryd.ntmps10
  go_wp2_with fail
  refine (tzu_zero _).mono ?_
  rintro e w' ⟨rfl, rfl⟩
  go_wp2_with fail
  refine (width _).mono ?_
  rintro e w' ⟨rfl, rfl⟩
  go_wp2
  go_ret
  exact said rfl (Grown.refl _)
theorem zero_r (X : Nat) (hX : X < 18446744073709551616) (h0 : ((X : Int) == 0) = false) (w : World) :
    Calls Tryd.prog 10 #[.int .u64 X, .int .u64 0] w fun e w' => e = .returned (.bool true) ∧ Grown w w' := by
  go_enter Tryd.func10, Tryd.ntmps10
  go_wp2_with fail
  refine (tzu_zero _).mono ?_
  rintro e w' ⟨rfl, rfl⟩
  go_wp2_with fail
  refine (width _).mono ?_
  rintro e w' ⟨rfl, rfl⟩
  go_wp2
  go_ret
  exact said rfl (Grown.refl _)

theorem parts {X Y HI LO : Nat} (h : (HI : Int) * 18446744073709551616 + LO = X * Y) (h4 : (LO : Int) < 18446744073709551616) : X * Y % 2 ^ 64 = LO ∧ X * Y / 2 ^ 64 = HI := by
  rw [← Int.natCast_mul] at h
  omega
theorem ends_lo {X Y HI LO l a b : Nat} (h : X * Y % 2 ^ 64 = LO ∧ X * Y / 2 ^ 64 = HI) (hl : Roads.IsTz LO l) (ll : l < 64) (ha : Roads.IsTz X a) (hb : Roads.IsTz Y b) : l = a + b := by
  refine Roads.isTz_unique (x := X * Y) ?_ (Roads.isTz_mul ha hb)
  exact Roads.isTz_of_mod (by rw [h.1]; exact hl) ll
theorem ends_hi {X Y HI l a b : Nat} (h : X * Y % 2 ^ 64 = 0 ∧ X * Y / 2 ^ 64 = HI) (hl : Roads.IsTz HI l) (ha : Roads.IsTz X a) (hb : Roads.IsTz Y b) : 64 + l = a + b := by
  refine Roads.isTz_unique (x := X * Y) ?_ (Roads.isTz_mul ha hb)
  exact Roads.tz_words (fun h0 => absurd h.1 h0) (fun _ => ⟨l, by rw [h.2]; exact hl, rfl⟩)

set_option maxHeartbeats 1000000 in
theorem other (X Y : Nat) (hX : X < 18446744073709551616) (hY : Y < 18446744073709551616) (x0 : 0 < X) (y0 : 0 < Y) (bx : ((X : Int) == 0) = false) (by' : ((Y : Int) == 0) = false) (w : World) (T : Hid (Tab64 w)) :
    Calls Tryd.prog 10 #[.int .u64 X, .int .u64 Y] w fun e w' => e = .returned (.bool true) ∧ Grown w w' := by
  go_enter Tryd.func10, Tryd.ntmps10
  go_wp2_with fail
  refine (mulu _ _ _ (by omega) (by omega) (by omega) (by omega)).mono ?_
  rintro e w' ⟨hi, lo, rfl, rfl, h1, h2, h3, h4, h5⟩
  obtain ⟨HI, rfl⟩ := Int.eq_ofNat_of_zero_le h1
  obtain ⟨LO, rfl⟩ := Int.eq_ofNat_of_zero_le h3
  have P := parts h5 h4
  clear h5
  by_cases l0 : LO = 0
  · subst l0
    have hp : 0 < HI := by
      have m : 0 < X * Y := Nat.mul_pos x0 y0
      have := Nat.div_add_mod (X * Y) (2 ^ 64)
      rw [P.1, P.2] at this
      rcases Nat.eq_zero_or_pos HI with h | h
      · rw [h] at this; omega
      · exact h
    have HP := hide P; clear P
    go_wp2_with fail
    refine (tzu_zero _).mono ?_
    rintro e w' ⟨rfl, rfl⟩
    go_wp2_with fail
    refine (width _).mono ?_
    rintro e w' ⟨rfl, rfl⟩
    go_wp2_with fail
    refine (tzu_pos _ _ (by omega) (by omega) T.out).mono ?_
    rintro e w' ⟨l, rfl, rfl, l1, l2⟩
    have L1 := hide l1; clear l1
    go_wp2_with fail
    refine (tzu_pos _ _ (by omega) (by omega) T.out).mono ?_
    rintro e w' ⟨a, rfl, rfl, a1, a2⟩
    have A1 := hide a1; clear a1
    go_wp2_with fail
    refine (tzu_pos _ _ (by omega) (by omega) T.out).mono ?_
    rintro e w' ⟨b, rfl, rfl, b1, b2⟩
    have E := ends_hi HP.out L1.out A1.out b1
    have e1 : (64 + (l : Int) == (a : Int) + b) = true := beq_iff_eq.mpr (by omega)
    clear E HP L1 A1 b1
    go_wp2_with fail
    refine (tzu_zero _).mono ?_
    rintro e w' ⟨rfl, rfl⟩
    go_wp2_with fail
    refine (width _).mono ?_
    rintro e w' ⟨rfl, rfl⟩
    go_wp2
    go_ret
    exact said rfl (Grown.refl _)
  · have lb : ((LO : Int) == 0) = false := beq_eq_false_iff_ne.mpr (by omega)
    have HP := hide P; clear P
    go_wp2_with fail
    refine (tzu_pos _ _ (by omega) (by omega) T.out).mono ?_
    rintro e w' ⟨l, rfl, rfl, l1, l2⟩
    have L1 := hide l1; clear l1
    go_wp2_with fail
    refine (tzu_pos _ _ (by omega) (by omega) T.out).mono ?_
    rintro e w' ⟨a, rfl, rfl, a1, a2⟩
    have A1 := hide a1; clear a1
    go_wp2_with fail
    refine (tzu_pos _ _ (by omega) (by omega) T.out).mono ?_
    rintro e w' ⟨b, rfl, rfl, b1, b2⟩
    have E := ends_lo HP.out L1.out l2 A1.out b1
    have e1 : ((l : Int) == (a : Int) + b) = true := beq_iff_eq.mpr (by omega)
    clear E HP L1 A1 b1
    go_wp2_with fail
    refine (tzu_zero _).mono ?_
    rintro e w' ⟨rfl, rfl⟩
    go_wp2_with fail
    refine (width _).mono ?_
    rintro e w' ⟨rfl, rfl⟩
    go_wp2
    go_ret
    exact said rfl (Grown.refl _)

theorem walk (x y : Int) (w0 : (Lit.int .u64 x).wf = true) (w1 : (Lit.int .u64 y).wf = true) (w : World) (hT : Tab64 w) :
    Calls Tryd.prog 10 #[.int .u64 x, .int .u64 y] w fun e w' => e = .returned (.bool true) ∧ Grown w w' := by
  obtain ⟨hx, hx'⟩ := bounds_u64 w0
  obtain ⟨hy, hy'⟩ := bounds_u64 w1
  obtain ⟨X, rfl⟩ := Int.eq_ofNat_of_zero_le hx
  obtain ⟨Y, rfl⟩ := Int.eq_ofNat_of_zero_le hy
  by_cases x0 : X = 0
  · subst x0; exact zero_l Y (by omega) w
  · have bx : ((X : Int) == 0) = false := beq_eq_false_iff_ne.mpr (by omega)
    by_cases y0 : Y = 0
    · subst y0; exact zero_r X (by omega) bx w
    · exact other X Y (by omega) (by omega) (by omega) (by omega) bx (beq_eq_false_iff_ne.mpr (by omega)) w hT

end Go.Proofs.YtgjniomloooccaaDoor.fnProductZeros
