/-
  For every list of numbers of 16 bits, laws.FnChecksum returns true. The walk.
-/
import Derived.Test.YtjffncbjcidbmaaAdd32
import Derived.Test.YtjffncbjcidbmaaRev16
import Derived.Below
import Derived.WalkSmall
import Derived.WalkKit
import Derived.ProofKit
import Derived.OpenShut
namespace Go.Proofs.Ytjffncbjcidbmaa.fnChecksum
open Go.ChangeShapes Go.WideShapes Go.ChangeAt Go.RowKit
set_option linter.unusedVariables false

/-- The slice value v reads as the list xs of numbers of 16 bits in the world w. -/
def Row16 (w : World) (v : Value) (xs : List Int) : Prop :=
  ∃ a cap, v = .slice a xs.length cap ∧ (xs ≠ [] → ∃ b off, a = some ⟨b, off, none⟩ ∧ b < w.heap.size ∧ ∀ i, i < xs.length → w.cell? ⟨b, off + i, none⟩ = some (.int .u16 (xs.getD i 0)))
/-- What holds of both sums at every round's head. -/
def Sums (A B : Int) : Prop := ∃ q : Int, 256 * A - B = 65535 * q
theorem mask16 {S : Int} (h0 : 0 ≤ S) (h1 : S ≤ 131070) : bits .and .u32 S 65535 = S % 65536 := by
  obtain ⟨s, rfl⟩ := Int.eq_ofNat_of_zero_le h0
  rw [show (65535 : Int) = ((65535 : Nat) : Int) from rfl, u32_and_nat s 65535 (by omega) (by omega), nat_mask16]
  omega
theorem sums_step {A B X R S T o o' : Int} (h : Sums A B) (a0 : 0 ≤ A) (a1 : A ≤ 65535) (b0 : 0 ≤ B) (b1 : B ≤ 65535) (x0 : 0 ≤ X) (x1 : X ≤ 65535) (hr : R = X % 256 * 256 + X / 256) (hs : S = A + X) (ht : T = B + R) :
    Sums (S % 65536 + S / 65536) (T % 65536 + T / 65536) := by
  obtain ⟨q, hq⟩ := h
  refine ⟨q + X / 256 - 256 * (S / 65536) + T / 65536, ?_⟩
  omega
/-- The ends: alike, or 0 and all ones. -/
theorem sums_end {A B R : Int} (h : Sums A B) (a0 : 0 ≤ A) (a1 : A ≤ 65535) (b0 : 0 ≤ B) (b1 : B ≤ 65535) (hr : R = A % 256 * 256 + A / 256) : R = B ∨ (R = 0 ∧ B = 65535) ∨ (R = 65535 ∧ B = 0) := by
  obtain ⟨q, hq⟩ := h
  omega

set_option maxHeartbeats 1000000 in
set_option maxRecDepth 100000 in
theorem walk_full (xs : List Int) (n b off cap : Nat) {w : World} (hn : Hid (n = xs.length)) (kx : Hid (∀ i, 0 ≤ xs.getD i 0 ∧ xs.getD i 0 ≤ 65535)) (sx : n ≤ 140737488355328) (hb : b < w.heap.size) (hcx : Hid (∀ i, i < xs.length → w.cell? ⟨b, off + i, none⟩ = some (.int .u16 (xs.getD i 0)))) :
    Calls Try.prog 3 #[.slice (some ⟨b, off, none⟩) n cap] w fun e w' => e = .returned (.bool true) ∧ Below w.heap.size w w' := by
  go_enter Try.func3, Try.ntmps3
  go_wp2
  go_loop [3, 4, 5] (fun a b i => ∃ (k : Nat) (A B : Int), k ≤ n ∧ i = .int .i64 k ∧ a = .int .u32 A ∧ b = .int .u32 B ∧ 0 ≤ A ∧ A ≤ 65535 ∧ 0 ≤ B ∧ B ≤ 65535 ∧ Hid (Sums A B)) (fun _ _ i => n - (intOf i).toNat)
  case atStart => exact ⟨0, 0, 0, Nat.zero_le _, rfl, rfl, rfl, by omega, by omega, by omega, by omega, ⟨0, by omega⟩⟩
  case round =>
    obtain ⟨k, A, B, hk, rfl, rfl, rfl, a0, a1, b0, b1, hS⟩ := hrel
    by_cases hlt : k < n
    · obtain ⟨X, eX⟩ : ∃ X, X = xs.getD k 0 := ⟨_, rfl⟩
      have X01 := kx.out k
      rw [← eX] at X01
      obtain ⟨X0, X1⟩ := X01
      have cx : w.cell? ⟨b, off + k, none⟩ = some (.int .u16 X) := by rw [eX]; exact hcx.out k (by rw [← hn.out]; exact hlt)
      clear eX
      go_wp2_with fail
      refine (add32 _ _ _ _ a0 (by omega) X0 (by omega) (by omega) (by omega)).mono ?_
      rintro e w' ⟨S, o, rfl, rfl, s0, s1, o0, o1, hs⟩
      have eS : S = A + X := by omega
      have S1 : S ≤ 131070 := by omega
      have r1 := mask16 s0 S1
      have ES := hide eS
      clear hs eS
      go_wp2_with fail
      refine (rev16 _ _ X0 X1).mono ?_
      rintro e w' ⟨R, rfl, rfl, R0, R1, hR⟩
      have HR := hide hR; clear hR
      go_wp2_with fail
      refine (add32 _ _ _ _ b0 (by omega) R0 (by omega) (by omega) (by omega)).mono ?_
      rintro e w' ⟨T, o', rfl, rfl, t0, t1, o0', o1', ht⟩
      have eT : T = B + R := by omega
      have T1 : T ≤ 131070 := by omega
      have r2 := mask16 t0 T1
      have ST := hide (sums_step (o := 0) (o' := 0) hS.out a0 a1 b0 b1 X0 X1 HR.out ES.out eT)
      have l1 : S % 65536 + S / 65536 ≤ 65535 := by have := ES.out; omega
      have l2 : T % 65536 + T / 65536 ≤ 65535 := by omega
      have L1 := hide l1; have L2 := hide l2
      clear ht eT l1 l2
      go_wp2
      go_round
      case rel => exact ⟨k + 1, _, _, by omega, by go_num, rfl, rfl, by omega, L1.out, by omega, L2.out, ST.out⟩
      case measure => simp [intOf]; omega
    · go_wp2_with fail
      refine (rev16 _ _ a0 a1).mono ?_
      rintro e w' ⟨R, rfl, rfl, R0, R1, hR⟩
      have way := sums_end hS.out a0 a1 b0 b1 hR
      clear hR
      rcases way with rfl | ⟨rfl, rfl⟩ | ⟨rfl, rfl⟩
      · have bt : (R == R) = true := by simp
        go_wp2_with fail
        refine (rev16 _ _ (by omega) (by omega)).mono ?_
        rintro e w' ⟨Q, rfl, rfl, Q0, Q1, hQ⟩
        obtain rfl : Q = 256 := by omega
        clear hQ
        go_wp2
        go_ret
        exact ⟨rfl, Below.refl _ _⟩
      · go_wp2_with fail
        refine (rev16 _ _ (by omega) (by omega)).mono ?_
        rintro e w' ⟨Q, rfl, rfl, Q0, Q1, hQ⟩
        obtain rfl : Q = 256 := by omega
        clear hQ
        go_wp2
        go_ret
        exact ⟨rfl, Below.refl _ _⟩
      · go_wp2_with fail
        refine (rev16 _ _ (by omega) (by omega)).mono ?_
        rintro e w' ⟨Q, rfl, rfl, Q0, Q1, hQ⟩
        obtain rfl : Q = 256 := by omega
        clear hQ
        go_wp2
        go_ret
        exact ⟨rfl, Below.refl _ _⟩

set_option maxRecDepth 100000 in
theorem walk_none (a : Option Addr) (cap : Nat) {w : World} :
    Calls Try.prog 3 #[.slice a 0 cap] w fun e w' => e = .returned (.bool true) ∧ Below w.heap.size w w' := by
  go_enter Try.func3, Try.ntmps3
  go_wp2
  refine wp_loop_rounds 1 ?_
  rw [rounds_succ]
  go_wp2_with fail
  refine (rev16 _ _ (by omega) (by omega)).mono ?_
  rintro e w' ⟨R, rfl, rfl, R0, R1, hR⟩
  obtain rfl : R = 0 := by omega
  clear hR
  go_wp2_with fail
  refine (rev16 _ _ (by omega) (by omega)).mono ?_
  rintro e w' ⟨Q, rfl, rfl, Q0, Q1, hQ⟩
  obtain rfl : Q = 256 := by omega
  clear hQ
  go_wp2
  go_ret
  exact ⟨rfl, Below.refl _ _⟩

theorem walk (v : Value) (xs : List Int) {w : World} (rx : Row16 w v xs) (kx : ∀ i, 0 ≤ xs.getD i 0 ∧ xs.getD i 0 ≤ 65535) (sx : xs.length * 2 ≤ 140737488351232) :
    Calls Try.prog 3 #[v] w fun e w' => e = .returned (.bool true) ∧ Below w.heap.size w w' := by
  obtain ⟨a, cap, rfl, hcx⟩ := rx
  by_cases hz : xs = []
  · subst hz; exact walk_none a cap
  · obtain ⟨b, off, rfl, hb, hcx⟩ := hcx hz
    exact walk_full xs _ b off cap rfl kx (by omega) hb hcx
end Go.Proofs.Ytjffncbjcidbmaa.fnChecksum
