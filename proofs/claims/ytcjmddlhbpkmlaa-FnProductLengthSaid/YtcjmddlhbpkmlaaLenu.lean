/-
  What impl.Len returns: the length.
-/
import Derived.Test.YtcjmddlhbpkmlaaBase
import Derived.Lib.BitFns
namespace Go.Proofs.Ytcjmddlhbpkmlaa
open Go.RowKit
set_option linter.unusedVariables false

def LenuPost (x : Int) (w : World) (e : Ending) (w' : World) : Prop :=
  ∃ l : Nat, e = .returned (.int .i64 (l : Int)) ∧ w = w' ∧ Roads.IsLen x.toNat l ∧ l ≤ 64

theorem len8u_is : ∀ b : Fin 256, ∃ l : Fin 9, Lib.len8 (b.val : Int) = (l.val : Int) ∧ b.val < 2 ^ l.val ∧ (l.val = 0 ∨ 2 ^ (l.val - 1) ≤ b.val) := by decide +kernel
theorem len8u_of (b : Int) (h0 : 0 ≤ b) (h1 : b ≤ 255) : ∃ l : Nat, Lib.len8 b = (l : Int) ∧ Roads.IsLen b.toNat l ∧ l ≤ 8 := by
  obtain ⟨l, h, u, d⟩ := len8u_is ⟨b.toNat, by omega⟩
  simp only [Int.toNat_of_nonneg h0] at h u d
  exact ⟨l.val, h, ⟨u, d⟩, by omega⟩

theorem lenu_done {x b : Int} {l : Nat} (k : Nat) (h : Roads.IsLen b.toNat l) (e : b.toNat = x.toNat / 2 ^ k) (hk : k = 0 ∨ 2 ^ k ≤ x.toNat) : Roads.IsLen x.toNat (k + l) := by
  rw [e] at h
  rcases hk with rfl | hk
  · rw [Nat.pow_zero, Nat.div_one] at h; rw [Nat.zero_add]; exact h
  · refine Roads.isLen_shift k h (Roads.isLen_ne h ?_)
    have : 0 < x.toNat / 2 ^ k := Nat.div_pos hk (Nat.two_pow_pos k)
    omega

set_option maxHeartbeats 1000000 in
theorem lenu_0 (x : Int) (w : World) (hx : 0 ≤ x) (hx' : x < 18446744073709551616) (h0 : 4294967296 ≤ x) (h1 : 65536 ≤ x / 4294967296) (h2 : 256 ≤ x / 4294967296 / 65536) :
    Calls Try.prog 27 #[.int .u64 x] w (LenuPost x w) := by
  have b0 : 0 ≤ x / 4294967296 / 65536 / 256 := by omega
  have b1 : x / 4294967296 / 65536 / 256 ≤ 255 := by omega
  obtain ⟨l, el, il, ll⟩ := len8u_of (x / 4294967296 / 65536 / 256) b0 b1
  have L := hide (lenu_done (x := x) 56 il (by omega) (by omega)); clear il
  go_enter Try.func27, Try.ntmps27
  go_wp2
  go_ret
  exact ⟨56 + l, by rw [Int.natCast_add]; rfl, rfl, L.out, by omega⟩
set_option maxHeartbeats 1000000 in
theorem lenu_1 (x : Int) (w : World) (hx : 0 ≤ x) (hx' : x < 18446744073709551616) (h0 : 4294967296 ≤ x) (h1 : 65536 ≤ x / 4294967296) (h2 : x / 4294967296 / 65536 < 256) :
    Calls Try.prog 27 #[.int .u64 x] w (LenuPost x w) := by
  have b0 : 0 ≤ x / 4294967296 / 65536 := by omega
  have b1 : x / 4294967296 / 65536 ≤ 255 := by omega
  obtain ⟨l, el, il, ll⟩ := len8u_of (x / 4294967296 / 65536) b0 b1
  have L := hide (lenu_done (x := x) 48 il (by omega) (by omega)); clear il
  go_enter Try.func27, Try.ntmps27
  go_wp2
  go_ret
  exact ⟨48 + l, by rw [Int.natCast_add]; rfl, rfl, L.out, by omega⟩
set_option maxHeartbeats 1000000 in
theorem lenu_2 (x : Int) (w : World) (hx : 0 ≤ x) (hx' : x < 18446744073709551616) (h0 : 4294967296 ≤ x) (h1 : x / 4294967296 < 65536) (h2 : 256 ≤ x / 4294967296) :
    Calls Try.prog 27 #[.int .u64 x] w (LenuPost x w) := by
  have b0 : 0 ≤ x / 4294967296 / 256 := by omega
  have b1 : x / 4294967296 / 256 ≤ 255 := by omega
  obtain ⟨l, el, il, ll⟩ := len8u_of (x / 4294967296 / 256) b0 b1
  have L := hide (lenu_done (x := x) 40 il (by omega) (by omega)); clear il
  go_enter Try.func27, Try.ntmps27
  go_wp2
  go_ret
  exact ⟨40 + l, by rw [Int.natCast_add]; rfl, rfl, L.out, by omega⟩
set_option maxHeartbeats 1000000 in
theorem lenu_3 (x : Int) (w : World) (hx : 0 ≤ x) (hx' : x < 18446744073709551616) (h0 : 4294967296 ≤ x) (h1 : x / 4294967296 < 65536) (h2 : x / 4294967296 < 256) :
    Calls Try.prog 27 #[.int .u64 x] w (LenuPost x w) := by
  have b0 : 0 ≤ x / 4294967296 := by omega
  have b1 : x / 4294967296 ≤ 255 := by omega
  obtain ⟨l, el, il, ll⟩ := len8u_of (x / 4294967296) b0 b1
  have L := hide (lenu_done (x := x) 32 il (by omega) (by omega)); clear il
  go_enter Try.func27, Try.ntmps27
  go_wp2
  go_ret
  exact ⟨32 + l, by rw [Int.natCast_add]; rfl, rfl, L.out, by omega⟩
set_option maxHeartbeats 1000000 in
theorem lenu_4 (x : Int) (w : World) (hx : 0 ≤ x) (hx' : x < 18446744073709551616) (h0 : x < 4294967296) (h1 : 65536 ≤ x) (h2 : 256 ≤ x / 65536) :
    Calls Try.prog 27 #[.int .u64 x] w (LenuPost x w) := by
  have b0 : 0 ≤ x / 65536 / 256 := by omega
  have b1 : x / 65536 / 256 ≤ 255 := by omega
  obtain ⟨l, el, il, ll⟩ := len8u_of (x / 65536 / 256) b0 b1
  have L := hide (lenu_done (x := x) 24 il (by omega) (by omega)); clear il
  go_enter Try.func27, Try.ntmps27
  go_wp2
  go_ret
  exact ⟨24 + l, by rw [Int.natCast_add]; rfl, rfl, L.out, by omega⟩
set_option maxHeartbeats 1000000 in
theorem lenu_5 (x : Int) (w : World) (hx : 0 ≤ x) (hx' : x < 18446744073709551616) (h0 : x < 4294967296) (h1 : 65536 ≤ x) (h2 : x / 65536 < 256) :
    Calls Try.prog 27 #[.int .u64 x] w (LenuPost x w) := by
  have b0 : 0 ≤ x / 65536 := by omega
  have b1 : x / 65536 ≤ 255 := by omega
  obtain ⟨l, el, il, ll⟩ := len8u_of (x / 65536) b0 b1
  have L := hide (lenu_done (x := x) 16 il (by omega) (by omega)); clear il
  go_enter Try.func27, Try.ntmps27
  go_wp2
  go_ret
  exact ⟨16 + l, by rw [Int.natCast_add]; rfl, rfl, L.out, by omega⟩
set_option maxHeartbeats 1000000 in
theorem lenu_6 (x : Int) (w : World) (hx : 0 ≤ x) (hx' : x < 18446744073709551616) (h0 : x < 4294967296) (h1 : x < 65536) (h2 : 256 ≤ x) :
    Calls Try.prog 27 #[.int .u64 x] w (LenuPost x w) := by
  have b0 : 0 ≤ x / 256 := by omega
  have b1 : x / 256 ≤ 255 := by omega
  obtain ⟨l, el, il, ll⟩ := len8u_of (x / 256) b0 b1
  have L := hide (lenu_done (x := x) 8 il (by omega) (by omega)); clear il
  go_enter Try.func27, Try.ntmps27
  go_wp2
  go_ret
  exact ⟨8 + l, by rw [Int.natCast_add]; rfl, rfl, L.out, by omega⟩
set_option maxHeartbeats 1000000 in
theorem lenu_7 (x : Int) (w : World) (hx : 0 ≤ x) (hx' : x < 18446744073709551616) (h0 : x < 4294967296) (h1 : x < 65536) (h2 : x < 256) :
    Calls Try.prog 27 #[.int .u64 x] w (LenuPost x w) := by
  have b0 : 0 ≤ x := by omega
  have b1 : x ≤ 255 := by omega
  obtain ⟨l, el, il, ll⟩ := len8u_of (x) b0 b1
  have L := hide (lenu_done (x := x) 0 il (by omega) (by omega)); clear il
  go_enter Try.func27, Try.ntmps27
  go_wp2
  go_ret
  exact ⟨0 + l, by rw [Nat.zero_add]; rfl, rfl, L.out, by omega⟩

theorem lenu (x : Int) (w : World) (hx : 0 ≤ x) (hx' : x < 18446744073709551616) :
    Calls Try.prog 27 #[.int .u64 x] w (LenuPost x w) := by
  by_cases c0 : 4294967296 ≤ x
  · by_cases c1 : 65536 ≤ x / 4294967296
    · by_cases c2 : 256 ≤ x / 4294967296 / 65536
      · exact lenu_0 x w hx hx' c0 c1 c2
      · exact lenu_1 x w hx hx' c0 c1 (by omega)
    · by_cases c2 : 256 ≤ x / 4294967296
      · exact lenu_2 x w hx hx' c0 (by omega) c2
      · exact lenu_3 x w hx hx' c0 (by omega) (by omega)
  · by_cases c1 : 65536 ≤ x
    · by_cases c2 : 256 ≤ x / 65536
      · exact lenu_4 x w hx hx' (by omega) c1 c2
      · exact lenu_5 x w hx hx' (by omega) c1 (by omega)
    · by_cases c2 : 256 ≤ x
      · exact lenu_6 x w hx hx' (by omega) (by omega) c2
      · exact lenu_7 x w hx hx' (by omega) (by omega) (by omega)

/-- Of a number that is not 0: one more than a natural number. -/
theorem lenu_pos (x : Int) (w : World) (hx : 0 < x) (hx' : x < 18446744073709551616) :
    Calls Try.prog 27 #[.int .u64 x] w fun e w' => ∃ m : Nat, e = .returned (.int .i64 ((m : Int) + 1)) ∧ w = w' ∧ Roads.IsLen x.toNat (m + 1) ∧ m < 64 := by
  refine (lenu x w (by omega) hx').mono ?_
  rintro e w' ⟨l, rfl, rfl, il, ll⟩
  have l0 := Roads.isLen_ne il (by omega)
  obtain ⟨m, rfl⟩ : ∃ m, l = m + 1 := ⟨l - 1, by omega⟩
  exact ⟨m, rfl, rfl, il, by omega⟩
/-- Of 0, and of 1. -/
theorem lenu_zero (w : World) : Calls Try.prog 27 #[.int .u64 0] w fun e w' => e = .returned (.int .i64 0) ∧ w = w' := by
  refine (lenu 0 w (by omega) (by omega)).mono ?_
  rintro e w' ⟨l, rfl, rfl, il, _⟩
  obtain rfl : l = 0 := Roads.isLen_unique il ⟨by decide, Or.inl rfl⟩
  exact ⟨rfl, rfl⟩
theorem lenu_one (w : World) : Calls Try.prog 27 #[.int .u64 1] w fun e w' => e = .returned (.int .i64 1) ∧ w = w' := by
  refine (lenu 1 w (by omega) (by omega)).mono ?_
  rintro e w' ⟨l, rfl, rfl, il, _⟩
  obtain rfl : l = 1 := Roads.isLen_unique il ⟨by decide, Or.inr (by decide)⟩
  exact ⟨rfl, rfl⟩
end Go.Proofs.Ytcjmddlhbpkmlaa
