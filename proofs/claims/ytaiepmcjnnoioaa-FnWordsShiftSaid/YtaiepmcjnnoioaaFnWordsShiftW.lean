/-
  For every list x of words and every k, laws.FnWordsShift returns true. The walk.
-/
import Derived.Test.YtaiepmcjnnoioaaMulWords
import Derived.WalkKit
import Derived.ProofKit
import Derived.OpenShut
namespace Go.Proofs.Ytaiepmcjnnoioaa.fnWordsShift
open Go.ChangeShapes Go.WideShapes Go.ChangeAt Go.RowKit
set_option linter.unusedVariables false

theorem walk_none (a : Option Addr) (cap : Nat) (k : Int) {w : World} (hk : 0 ≤ k) (hk' : k ≤ 255) :
    Calls Try.prog 7 #[.slice a 0 cap, .int .u8 k] w fun e w' => e = .returned (.bool true) ∧ Below w.heap.size w w' := by
  obtain ⟨s, hs⟩ := Int.eq_ofNat_of_zero_le (show 0 ≤ k % 64 by omega)
  have ls : s < 64 := by omega
  have p1 : (2 : Int) ^ s < 18446744073709551616 := pow_lt ls (by decide)
  have p0 : (0 : Int) ≤ 2 ^ s := Int.le_of_lt (Int.pow_pos (by omega))
  go_enter Try.func7, Try.ntmps7
  go_wp2_with fail
  refine (mulWords [] _ _ _ (fun i => by simp) p0 p1 (by simp) ⟨a, cap, rfl, fun h => absurd rfl h⟩).mono ?_
  rintro e w' ⟨v, v2, rfl, _, _, hb⟩
  have HB := hide hb; clear hb
  go_wp2
  refine wp_loop_rounds 1 ?_
  rw [rounds_succ]
  go_wp2
  go_ret
  exact ⟨rfl, HB.out⟩

theorem cells_of {w : World} {v : Value} {xs : List Int} (h : Row w v xs) (hne : xs ≠ []) : ∃ b off cap, v = .slice (some ⟨b, off, none⟩) xs.length cap ∧ b < w.heap.size ∧ ∀ i, i < xs.length → w.cell? ⟨b, off + i, none⟩ = some (.int .u64 (xs.getD i 0)) := by
  obtain ⟨a, cap, rfl, h⟩ := h
  obtain ⟨b, off, rfl, hb, hc⟩ := h hne
  exact ⟨b, off, cap, rfl, hb, hc⟩
theorem map_getD {f : Int → Int} {xs : List Int} {k : Nat} (h : k < xs.length) : (xs.map f).getD k 0 = f (xs.getD k 0) := by
  simp [List.getD, h]

set_option maxHeartbeats 1000000 in
theorem walk_full (xs : List Int) (b off cap : Nat) (k : Int) {w : World} (hne : Hid (xs ≠ [])) (kx : Hid (Ws xs)) (sx : xs.length * 8 ≤ 140737488351232) (hk : 0 ≤ k) (hk' : k ≤ 255) (rx : Hid (Row w (.slice (some ⟨b, off, none⟩) xs.length cap) xs)) (hb : b < w.heap.size) (hcx : Hid (∀ i, i < xs.length → w.cell? ⟨b, off + i, none⟩ = some (.int .u64 (xs.getD i 0)))) :
    Calls Try.prog 7 #[.slice (some ⟨b, off, none⟩) xs.length cap, .int .u8 k] w fun e w' => e = .returned (.bool true) ∧ Below w.heap.size w w' := by
  obtain ⟨s, hs⟩ := Int.eq_ofNat_of_zero_le (show 0 ≤ k % 64 by omega)
  have ls : s < 64 := by omega
  have p1 : (2 : Int) ^ s < 18446744073709551616 := pow_lt ls (by decide)
  have p0 : (0 : Int) ≤ 2 ^ s := Int.le_of_lt (Int.pow_pos (by omega))
  obtain ⟨n, hn⟩ : ∃ n, n = xs.length := ⟨_, rfl⟩
  rw [← hn]
  rw [← hn] at sx
  have HN := hide hn; clear hn
  go_enter Try.func7, Try.ntmps7
  go_wp2_with fail
  refine (mulWords xs _ _ _ kx.out p0 p1 (by rw [← HN.out]; omega) (by rw [HN.out]; exact rx.out)).mono ?_
  rintro e w' ⟨v, v2, rfl, rh, rl, hbel0⟩
  have hh : his xs (2 ^ s) ≠ [] := fun h => hne.out (by simpa [his] using h)
  have hl : los xs (2 ^ s) ≠ [] := fun h => hne.out (by simpa [los] using h)
  obtain ⟨b3, off3, cap3, e3, hb3, hc3⟩ := cells_of rh hh
  obtain ⟨b4, off4, cap4, e4, hb4, hc4⟩ := cells_of rl hl
  have l3 : (his xs (2 ^ s)).length = n := by rw [HN.out]; simp [his]
  have l4 : (los xs (2 ^ s)).length = n := by rw [HN.out]; simp [los]
  rw [l3] at e3 hc3
  rw [l4] at e4 hc4
  rw [e3, e4]
  have HC3 := hide hc3; clear hc3
  have HC4 := hide hc4; clear hc4
  have HB0 := hide hbel0; clear hbel0 rh rl hh hl e3 e4 l3 l4
  go_wp2
  go_loopw [8] (fun i wr => ∃ j : Nat, j ≤ n ∧ i = .int .i64 j ∧ Below w'.heap.size w' wr) (fun i _ => n - (intOf i).toNat)
  case atStart => exact ⟨0, Nat.zero_le _, rfl, Below.refl _ _⟩
  case round =>
    obtain ⟨j, hj, rfl, hbel⟩ := hrel
    by_cases hlt : j < n
    · obtain ⟨X, eX⟩ : ∃ X, X = xs.getD j 0 := ⟨_, rfl⟩
      have X01 := kx.out j
      rw [← eX] at X01
      obtain ⟨X0, X1⟩ := X01
      have jl : j < xs.length := by rw [← HN.out]; exact hlt
      have q3 := HC3.out j hlt
      have q4 := HC4.out j hlt
      rw [his, map_getD jl, ← eX] at q3
      rw [los, map_getD jl, ← eX] at q4
      obtain ⟨HI, eH⟩ : ∃ HI, HI = X * 2 ^ s / 18446744073709551616 := ⟨_, rfl⟩
      obtain ⟨LO, eL⟩ : ∃ LO, LO = X * 2 ^ s % 18446744073709551616 := ⟨_, rfl⟩
      rw [← eH] at q3
      rw [← eL] at q4
      have cx : wr.cell? ⟨b, off + j, none⟩ = some (.int .u64 X) := (hbel.cell (p := ⟨b, off + j, none⟩) (Nat.lt_of_lt_of_le hb HB0.out.size)).trans ((HB0.out.cell (p := ⟨b, off + j, none⟩) hb).trans (by rw [eX]; exact hcx.out j jl))
      have c3 : wr.cell? ⟨b3, off3 + j, none⟩ = some (.int .u64 HI) := (hbel.cell (p := ⟨b3, off3 + j, none⟩) hb3).trans q3
      have c4 : wr.cell? ⟨b4, off4 + j, none⟩ = some (.int .u64 LO) := (hbel.cell (p := ⟨b4, off4 + j, none⟩) hb4).trans q4
      have r1 : IntKind.u64.wrap (X * 2 ^ s) = LO := by rw [IntKind.wrap_u64, eL]
      have r2 : X / 2 ^ (64 - s) = HI := by
        obtain ⟨Y, rfl⟩ := Int.eq_ofNat_of_zero_le X0
        rw [eH, ← pow_cast, ← pow_cast, ← Int.natCast_mul]
        have := Nat.mul_div_mul_right Y (2 ^ (64 - s)) (Nat.two_pow_pos s)
        rw [← Roads.pow_split 64 s (by omega)] at this
        rw [show (18446744073709551616 : Int) = ((2 ^ 64 : Nat) : Int) from rfl, ← Int.natCast_ediv, ← Int.natCast_ediv, this]
      have b1 : (LO != LO) = false := by simp
      have b2 : (HI != HI) = false := by simp
      have HB := hide hbel; clear hbel
      clear eX eH eL q3 q4 jl
      go_wp2
      go_quiet (fail)
      go_wp2
      go_roundw
      case rel => exact ⟨j + 1, by omega, by go_num, below_drewN HB.out _⟩
      case measure => simp [intOf]; omega
    · have HB := hide (HB0.out.trans (hbel.mono HB0.out.size)); clear hbel
      go_wp2
      go_ret
      exact ⟨rfl, HB.out⟩

theorem walk (v : Value) (xs : List Int) (k : Int) {w : World} (rx : Row w v xs) (kx : Ws xs) (sx : xs.length * 8 ≤ 140737488351232) (w1 : (Lit.int .u8 k).wf = true) :
    Calls Try.prog 7 #[v, .int .u8 k] w fun e w' => e = .returned (.bool true) ∧ Below w.heap.size w w' := by
  obtain ⟨hk, hk'⟩ := bounds_u8 w1
  have rx' := rx
  obtain ⟨a, cap, rfl, hcx⟩ := rx
  by_cases hz : xs = []
  · subst hz; exact walk_none a cap k hk hk'
  · obtain ⟨b, off, rfl, hb, hcx⟩ := hcx hz
    exact walk_full xs b off cap k hz kx sx hk hk' rx' hb hcx

end Go.Proofs.Ytaiepmcjnnoioaa.fnWordsShift
