/-
  For all a, b, c, d of 32 bits, laws.FnQuarterRound returns true. The walk.
-/
import Derived.Test.YtjffncbjcidbmaaAdd32
import Derived.Test.YtjffncbjcidbmaaSub32
import Derived.Test.YtjffncbjcidbmaaRot32
import Derived.WalkKit
import Derived.ProofKit
import Derived.OpenShut
import Derived.Below
import Derived.WalkSmall
namespace Go.Proofs.Ytjffncbjcidbmaa.fnQuarterRound
open Go.ChangeShapes Go.WideShapes Go.ChangeAt Go.RowKit
set_option linter.unusedVariables false

theorem xor_pair (a b : Nat) (ha : a < 4294967296) (hb : b < 4294967296) : ∃ c : Nat, c < 4294967296 ∧ bits .xor .u32 (a : Int) (b : Int) = (c : Int) ∧ bits .xor .u32 (c : Int) (b : Int) = (a : Int) := by
  have l : a ^^^ b < 4294967296 := Nat.xor_lt_two_pow (n := 32) ha hb
  refine ⟨a ^^^ b, l, u32_xor_nat a b ha hb, ?_⟩
  rw [u32_xor_nat _ b l hb, Nat.xor_assoc, Nat.xor_self, Nat.xor_zero]
def Sum (x y s : Nat) : Prop := s = x + y ∨ s + 4294967296 = x + y
theorem add_fact {x y s : Nat} {o : Int} (o0 : 0 ≤ o) (o1 : o ≤ 1) (h : (s : Int) + 4294967296 * o = x + y + 0) : Sum x y s := by unfold Sum; omega
theorem sub_fact {x y s : Nat} {d o : Int} (f : Sum x y s) (lx : x < 4294967296) (d0 : 0 ≤ d) (d1 : d < 4294967296) (o0 : 0 ≤ o) (o1 : o ≤ 1) (h : d + (y : Int) + 0 = s + 4294967296 * o) : d = (x : Int) := by unfold Sum at f; omega
theorem rback {r R X s : Nat} {k : Int} (h : r = Roads.rot 32 (k % 32).toNat (R : Int).toNat) (hR : R = Roads.rot 32 s X) (hk : (k % 32).toNat = 32 - s) (hs : s ≤ 32) (hX : X < 4294967296) : r = X := by
  rw [h, hk, Int.toNat_natCast, hR]
  exact Roads.rot_back 32 s X hs hX

set_option maxHeartbeats 4000000 in
set_option maxRecDepth 100000 in
theorem core (a b c d : Nat) (la : a < 4294967296) (lb : b < 4294967296) (lc : c < 4294967296) (ld : d < 4294967296) (w : World) :
    Calls Try.prog 7 #[.int .u32 a, .int .u32 b, .int .u32 c, .int .u32 d] w fun e w' => e = .returned (.bool true) ∧ Below w.heap.size w w' := by
  have HB := hide ((Below.refl w.heap.size w).alloc (Nat.le_refl _) (.cells #[.int .i64 16, .int .i64 12, .int .i64 8, .int .i64 7] 3))
  go_enter Try.func7, Try.ntmps7
  go_wp2
  refine wp_loop_rounds 5 ?_
  rw [rounds_succ]
  go_wp2_with fail
  refine (add32 _ _ _ _ (by omega) (by omega) (by omega) (by omega) (by omega) (by omega)).mono ?_
  rintro e w' ⟨s, o, rfl, rfl, s0, s1, o0, o1, hs⟩
  obtain ⟨W1, rfl⟩ := Int.eq_ofNat_of_zero_le s0
  have A1 := hide (add_fact o0 o1 hs)
  have lW1 : W1 < 4294967296 := by omega
  clear hs s0 s1 o0 o1
  obtain ⟨T1, lT1, fT1, gT1⟩ := xor_pair d W1 ld lW1
  go_wp2_with fail
  refine (rot32 _ _ _ (by omega) (by omega)).mono ?_
  rintro e w' ⟨Z1, rfl, rfl, hr, lZ1⟩
  have R1 := hide (show Z1 = Roads.rot 32 16 T1 from hr); clear hr
  go_wp2
  rw [rounds_succ]
  go_wp2_with fail
  refine (add32 _ _ _ _ (by omega) (by omega) (by omega) (by omega) (by omega) (by omega)).mono ?_
  rintro e w' ⟨s, o, rfl, rfl, s0, s1, o0, o1, hs⟩
  obtain ⟨Y1, rfl⟩ := Int.eq_ofNat_of_zero_le s0
  have A2 := hide (add_fact o0 o1 hs)
  have lY1 : Y1 < 4294967296 := by omega
  clear hs s0 s1 o0 o1
  obtain ⟨T2, lT2, fT2, gT2⟩ := xor_pair b Y1 lb lY1
  go_wp2_with fail
  refine (rot32 _ _ _ (by omega) (by omega)).mono ?_
  rintro e w' ⟨X1, rfl, rfl, hr, lX1⟩
  have R2 := hide (show X1 = Roads.rot 32 12 T2 from hr); clear hr
  go_wp2
  rw [rounds_succ]
  go_wp2_with fail
  refine (add32 _ _ _ _ (by omega) (by omega) (by omega) (by omega) (by omega) (by omega)).mono ?_
  rintro e w' ⟨s, o, rfl, rfl, s0, s1, o0, o1, hs⟩
  obtain ⟨W2, rfl⟩ := Int.eq_ofNat_of_zero_le s0
  have A3 := hide (add_fact o0 o1 hs)
  have lW2 : W2 < 4294967296 := by omega
  clear hs s0 s1 o0 o1
  obtain ⟨T3, lT3, fT3, gT3⟩ := xor_pair Z1 W2 lZ1 lW2
  go_wp2_with fail
  refine (rot32 _ _ _ (by omega) (by omega)).mono ?_
  rintro e w' ⟨Z2, rfl, rfl, hr, lZ2⟩
  have R3 := hide (show Z2 = Roads.rot 32 8 T3 from hr); clear hr
  go_wp2
  rw [rounds_succ]
  go_wp2_with fail
  refine (add32 _ _ _ _ (by omega) (by omega) (by omega) (by omega) (by omega) (by omega)).mono ?_
  rintro e w' ⟨s, o, rfl, rfl, s0, s1, o0, o1, hs⟩
  obtain ⟨Y2, rfl⟩ := Int.eq_ofNat_of_zero_le s0
  have A4 := hide (add_fact o0 o1 hs)
  have lY2 : Y2 < 4294967296 := by omega
  clear hs s0 s1 o0 o1
  obtain ⟨T4, lT4, fT4, gT4⟩ := xor_pair X1 Y2 lX1 lY2
  go_wp2_with fail
  refine (rot32 _ _ _ (by omega) (by omega)).mono ?_
  rintro e w' ⟨X2, rfl, rfl, hr, lX2⟩
  have R4 := hide (show X2 = Roads.rot 32 7 T4 from hr); clear hr
  go_wp2
  rw [rounds_succ]
  go_wp2
  refine wp_loop_rounds 5 ?_
  rw [rounds_succ]
  go_wp2_with fail
  refine (rot32 _ _ _ (by omega) (by omega)).mono ?_
  rintro e w' ⟨r, rfl, rfl, hr, _⟩
  obtain rfl : r = T4 := rback hr R4.out (by decide) (by decide) lT4
  clear hr
  go_wp2_with fail
  refine (sub32 _ _ _ _ (by omega) (by omega) (by omega) (by omega) (by omega) (by omega)).mono ?_
  rintro e w' ⟨dd, o, rfl, rfl, d0, d1, o0, o1, hd⟩
  obtain rfl : dd = (Y1 : Int) := sub_fact A4.out lY1 d0 d1 o0 o1 hd
  clear hd d0 d1 o0 o1
  go_wp2
  rw [rounds_succ]
  go_wp2_with fail
  refine (rot32 _ _ _ (by omega) (by omega)).mono ?_
  rintro e w' ⟨r, rfl, rfl, hr, _⟩
  obtain rfl : r = T3 := rback hr R3.out (by decide) (by decide) lT3
  clear hr
  go_wp2_with fail
  refine (sub32 _ _ _ _ (by omega) (by omega) (by omega) (by omega) (by omega) (by omega)).mono ?_
  rintro e w' ⟨dd, o, rfl, rfl, d0, d1, o0, o1, hd⟩
  obtain rfl : dd = (W1 : Int) := sub_fact A3.out lW1 d0 d1 o0 o1 hd
  clear hd d0 d1 o0 o1
  go_wp2
  rw [rounds_succ]
  go_wp2_with fail
  refine (rot32 _ _ _ (by omega) (by omega)).mono ?_
  rintro e w' ⟨r, rfl, rfl, hr, _⟩
  obtain rfl : r = T2 := rback hr R2.out (by decide) (by decide) lT2
  clear hr
  go_wp2_with fail
  refine (sub32 _ _ _ _ (by omega) (by omega) (by omega) (by omega) (by omega) (by omega)).mono ?_
  rintro e w' ⟨dd, o, rfl, rfl, d0, d1, o0, o1, hd⟩
  obtain rfl : dd = (c : Int) := sub_fact A2.out lc d0 d1 o0 o1 hd
  clear hd d0 d1 o0 o1
  go_wp2
  rw [rounds_succ]
  go_wp2_with fail
  refine (rot32 _ _ _ (by omega) (by omega)).mono ?_
  rintro e w' ⟨r, rfl, rfl, hr, _⟩
  obtain rfl : r = T1 := rback hr R1.out (by decide) (by decide) lT1
  clear hr
  go_wp2_with fail
  refine (sub32 _ _ _ _ (by omega) (by omega) (by omega) (by omega) (by omega) (by omega)).mono ?_
  rintro e w' ⟨dd, o, rfl, rfl, d0, d1, o0, o1, hd⟩
  obtain rfl : dd = (a : Int) := sub_fact A1.out la d0 d1 o0 o1 hd
  clear hd d0 d1 o0 o1
  go_wp2
  rw [rounds_succ]
  go_wp2_with fail
  refine (rot32 _ _ _ (by omega) (by omega)).mono ?_
  rintro e w' ⟨r, rfl, rfl, hr, _⟩
  obtain rfl : r = 2 := hr.trans (by decide +kernel)
  clear hr
  go_wp2
  go_ret
  exact ⟨rfl, HB.out⟩

theorem walk (a b c d : Int) {w : World} (w0 : (Lit.int .u32 a).wf = true) (w1 : (Lit.int .u32 b).wf = true) (w2 : (Lit.int .u32 c).wf = true) (w3 : (Lit.int .u32 d).wf = true) :
    Calls Try.prog 7 #[.int .u32 a, .int .u32 b, .int .u32 c, .int .u32 d] w fun e w' => e = .returned (.bool true) ∧ Below w.heap.size w w' := by
  obtain ⟨ha, ha'⟩ := bounds_u32 w0
  obtain ⟨hb, hb'⟩ := bounds_u32 w1
  obtain ⟨hc, hc'⟩ := bounds_u32 w2
  obtain ⟨hd, hd'⟩ := bounds_u32 w3
  obtain ⟨A, rfl⟩ := Int.eq_ofNat_of_zero_le ha
  obtain ⟨B, rfl⟩ := Int.eq_ofNat_of_zero_le hb
  obtain ⟨C, rfl⟩ := Int.eq_ofNat_of_zero_le hc
  obtain ⟨D, rfl⟩ := Int.eq_ofNat_of_zero_le hd
  exact core A B C D (by omega) (by omega) (by omega) (by omega) w

end Go.Proofs.Ytjffncbjcidbmaa.fnQuarterRound
