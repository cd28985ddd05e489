/-
  What laws.same returns at two lists that are equal: true.
-/
import Derived.Test.YtaiepmcjnnoioaaWords
namespace Go.Proofs.Ytaiepmcjnnoioaa
open Go.RowKit
set_option linter.unusedVariables false

theorem same_full (n : Nat) (xs : List Int) (b off cap b2 off2 cap2 : Nat) (w : World) (hl : Hid (n = xs.length)) (hr : n ≤ 9223372036854775807) (hb : b < w.heap.size) (hb2 : b2 < w.heap.size) (hcx : Hid (∀ i, i < xs.length → w.cell? ⟨b, off + i, none⟩ = some (.int .u64 (xs.getD i 0)))) (hcy : Hid (∀ i, i < xs.length → w.cell? ⟨b2, off2 + i, none⟩ = some (.int .u64 (xs.getD i 0)))) :
    Calls Try.prog 14 #[.slice (some ⟨b, off, none⟩) n cap, .slice (some ⟨b2, off2, none⟩) n cap2] w fun e w' => e = .returned (.bool true) ∧ Below w.heap.size w w' := by
  have nb : ((n : Int) != n) = false := by simp
  go_enter Try.func14, Try.ntmps14
  go_wp2
  clear nb
  go_loopw [5] (fun i wr => ∃ k : Nat, k ≤ n ∧ i = .int .i64 k ∧ Below w.heap.size w wr) (fun i _ => n - (intOf i).toNat)
  case atStart => exact ⟨0, Nat.zero_le _, rfl, Below.refl _ _⟩
  case round =>
    obtain ⟨k, hk, rfl, hbel⟩ := hrel
    by_cases hlt : k < n
    · obtain ⟨X, eX⟩ : ∃ X, X = xs.getD k 0 := ⟨_, rfl⟩
      have kl : k < xs.length := by rw [← hl.out]; exact hlt
      have cx : wr.cell? ⟨b, off + k, none⟩ = some (.int .u64 X) := (hbel.cell (p := ⟨b, off + k, none⟩) hb).trans (by rw [eX]; exact hcx.out k kl)
      have cy : wr.cell? ⟨b2, off2 + k, none⟩ = some (.int .u64 X) := (hbel.cell (p := ⟨b2, off2 + k, none⟩) hb2).trans (by rw [eX]; exact hcy.out k kl)
      have HB := hide hbel; clear hbel eX kl
      have bf : (X != X) = false := by simp
      go_wp2
      go_quiet (fail)
      go_wp2
      go_roundw
      case rel => exact ⟨k + 1, by omega, by go_num, below_drewN HB.out _⟩
      case measure => simp [intOf]; omega
    · have HB := hide hbel; clear hbel
      go_wp2
      go_ret
      exact ⟨rfl, HB.out⟩

theorem same_none (a a2 : Option Addr) (cap cap2 : Nat) (w : World) :
    Calls Try.prog 14 #[.slice a 0 cap, .slice a2 0 cap2] w fun e w' => e = .returned (.bool true) ∧ Below w.heap.size w w' := by
  go_enter Try.func14, Try.ntmps14
  go_wp2
  refine wp_loop_rounds 1 ?_
  rw [rounds_succ]
  go_wp2
  go_ret
  exact ⟨rfl, Below.refl _ _⟩

theorem same_true (xs : List Int) (v v2 : Value) (w : World) (hr : xs.length ≤ 9223372036854775807) (rx : Row w v xs) (ry : Row w v2 xs) :
    Calls Try.prog 14 #[v, v2] w fun e w' => e = .returned (.bool true) ∧ Below w.heap.size w w' := by
  obtain ⟨a, cap, rfl, hcx⟩ := rx
  obtain ⟨a2, cap2, rfl, hcy⟩ := ry
  by_cases hz : xs = []
  · subst hz; exact same_none a a2 cap cap2 w
  · obtain ⟨b, off, rfl, hb, hcx⟩ := hcx hz
    obtain ⟨b2, off2, rfl, hb2, hcy⟩ := hcy hz
    exact same_full _ xs b off cap b2 off2 cap2 w rfl hr hb hb2 hcx hcy
end Go.Proofs.Ytaiepmcjnnoioaa
