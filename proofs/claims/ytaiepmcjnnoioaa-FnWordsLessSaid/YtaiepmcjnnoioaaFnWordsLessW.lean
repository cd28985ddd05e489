/-
  For all lists x, y of words, laws.FnWordsLess returns true. The walk.
-/
import Derived.Test.YtaiepmcjnnoioaaSubWords
import Derived.WalkKit
import Derived.ProofKit
import Derived.OpenShut
namespace Go.Proofs.Ytaiepmcjnnoioaa.fnWordsLess
open Go.ChangeShapes Go.WideShapes Go.ChangeAt Go.RowKit
set_option linter.unusedVariables false

/-- A number is less just if it borrows. -/
theorem borrow_step {xs ys : List Int} (kx : Ws xs) (ky : Ws ys) (k : Nat) : ((diffK xs ys 0 (k + 1)).2 = 1) ↔ (if xs.getD k 0 = ys.getD k 0 then (diffK xs ys 0 k).2 = 1 else xs.getD k 0 < ys.getD k 0) := by
  have c := diffK_carry kx ky (c := 0) (by omega) (by omega) k
  simp only [diffK]
  split <;> split <;> omega

theorem walk_full (xs ys : List Int) (b off cap b2 off2 cap2 : Nat) {w : World} (kx : Hid (Ws xs)) (ky : Hid (Ws ys)) (sx : xs.length * 8 ≤ 140737488351232) (sy : ys.length * 8 ≤ 140737488351232) (rx : Row w (.slice (some ⟨b, off, none⟩) xs.length cap) xs) (ry : Row w (.slice (some ⟨b2, off2, none⟩) ys.length cap2) ys)
    (hb : b < w.heap.size) (hb2 : b2 < w.heap.size) (hcx : Hid (∀ i, i < xs.length → w.cell? ⟨b, off + i, none⟩ = some (.int .u64 (xs.getD i 0)))) (hcy : Hid (∀ i, i < ys.length → w.cell? ⟨b2, off2 + i, none⟩ = some (.int .u64 (ys.getD i 0)))) :
    Calls Try.prog 4 #[.slice (some ⟨b, off, none⟩) xs.length cap, .slice (some ⟨b2, off2, none⟩) ys.length cap2] w fun e w' => e = .returned (.bool true) ∧ Below w.heap.size w w' := by
  obtain ⟨n, hn⟩ : ∃ n, n = xs.length := ⟨_, rfl⟩
  obtain ⟨m, hm⟩ : ∃ m, m = ys.length := ⟨_, rfl⟩
  have RX := hide rx; clear rx
  have RY := hide ry; clear ry
  rw [← hn, ← hm]
  rw [← hn] at sx
  rw [← hm] at sy
  have HN := hide hn; clear hn
  have HM := hide hm; clear hm
  go_enter Try.func4, Try.ntmps4
  go_wp2_with fail
  refine (subWords xs ys _ _ _ _ kx.out ky.out (by omega) (by omega) (by rw [← HN.out]; omega) (by rw [← HM.out]; omega) (by rw [HN.out]; exact RX.out) (by rw [HM.out]; exact RY.out)).mono ?_
  rintro e w' ⟨vd, rfl, _, hbel0⟩
  obtain ⟨bo, ebo⟩ : ∃ bo, bo = (diffK xs ys 0 (min xs.length ys.length)).2 := ⟨_, rfl⟩
  rw [← ebo]
  have EB := hide ebo; clear ebo
  have HB0 := hide hbel0; clear hbel0
  go_wp2
  go_loopw [7, 8] (fun l i wr => ∃ (k : Nat) (t : Bool), k ≤ min n m ∧ i = .int .i64 k ∧ l = .bool t ∧ Hid ((t = true) ↔ (diffK xs ys 0 k).2 = 1) ∧ Below w.heap.size w wr) (fun _ i _ => n - (intOf i).toNat)
  case atStart => exact ⟨0, false, Nat.zero_le _, rfl, rfl, by simp [Hid, diffK], HB0.out⟩
  case round =>
    obtain ⟨k, t, hk, rfl, rfl, hT, hbel⟩ := hrel
    by_cases hlt : k < min n m
    · have hkn : k < n := by omega
      have hkm : k < m := by omega
      obtain ⟨X, eX⟩ : ∃ X, X = xs.getD k 0 := ⟨_, rfl⟩
      obtain ⟨Y, eY⟩ : ∃ Y, Y = ys.getD k 0 := ⟨_, rfl⟩
      have cx : wr.cell? ⟨b, off + k, none⟩ = some (.int .u64 X) := (hbel.cell (p := ⟨b, off + k, none⟩) hb).trans (by rw [eX]; exact hcx.out k (by rw [← HN.out]; exact hkn))
      have cy : wr.cell? ⟨b2, off2 + k, none⟩ = some (.int .u64 Y) := (hbel.cell (p := ⟨b2, off2 + k, none⟩) hb2).trans (by rw [eY]; exact hcy.out k (by rw [← HM.out]; exact hkm))
      have st := borrow_step kx.out ky.out k
      rw [← eX, ← eY] at st
      clear eX eY
      have HB := hide hbel; clear hbel
      by_cases hxy : X = Y
      · subst hxy
        rw [if_pos rfl] at st
        have ST := hide (hT.out.trans st.symm); clear st hT
        have bf : (X != X) = false := by simp
        go_wp2
        go_quiet (fail)
        go_wp2
        go_roundw
        case rel => exact ⟨k + 1, t, by omega, by go_num, rfl, ST, below_drewN HB.out _⟩
        case measure => simp [intOf]; omega
      · rw [if_neg hxy] at st
        have ST := hide st; clear st hT
        have bt : (X != Y) = true := bne_iff_ne.mpr hxy
        clear hxy
        go_wp2
        go_quiet (fail)
        go_wp2
        go_quiet (fail)
        go_wp2
        go_roundw
        case rel => exact ⟨k + 1, decide (X < Y), by omega, by go_num, rfl, by have := ST.out; simp only [Hid, decide_eq_true_eq]; exact this.symm, below_drewN HB.out _⟩
        case measure => simp [intOf]; omega
    · have hmin : k = min n m := by omega
      have E : (t = true) ↔ bo = 1 := by rw [EB.out, ← HN.out, ← HM.out, ← hmin]; exact hT.out
      clear hT hmin
      have HB := hide hbel; clear hbel
      have fin : ((bo == 1) == t) = true := by rw [beqB, E]; simp
      clear E
      by_cases hkn : k < n
      · have hkm : ¬ k < m := by omega
        go_wp2
        go_ret
        exact ⟨rfl, HB.out⟩
      · go_wp2
        go_ret
        exact ⟨rfl, HB.out⟩

theorem walk_none (xs ys : List Int) (a a2 : Option Addr) (cap cap2 : Nat) {w : World} (h : xs.length = 0 ∨ ys.length = 0) (kx : Hid (Ws xs)) (ky : Hid (Ws ys)) (sx : xs.length * 8 ≤ 140737488351232) (sy : ys.length * 8 ≤ 140737488351232) (rx : Row w (.slice a xs.length cap) xs) (ry : Row w (.slice a2 ys.length cap2) ys) :
    Calls Try.prog 4 #[.slice a xs.length cap, .slice a2 ys.length cap2] w fun e w' => e = .returned (.bool true) ∧ Below w.heap.size w w' := by
  obtain ⟨n, hn⟩ : ∃ n, n = xs.length := ⟨_, rfl⟩
  obtain ⟨m, hm⟩ : ∃ m, m = ys.length := ⟨_, rfl⟩
  have RX := hide rx; clear rx
  have RY := hide ry; clear ry
  rw [← hn, ← hm]
  rw [← hn] at sx h
  rw [← hm] at sy h
  have HN := hide hn; clear hn
  have HM := hide hm; clear hm
  have bo0 : (diffK xs ys 0 (min xs.length ys.length)).2 = 0 := by
    rw [show min xs.length ys.length = 0 by rw [← HN.out, ← HM.out]; omega]; rfl
  by_cases hn0 : n = 0
  · subst hn0
    go_enter Try.func4, Try.ntmps4
    go_wp2_with fail
    refine (subWords xs ys _ _ _ _ kx.out ky.out (by omega) (by omega) (by rw [← HN.out]; omega) (by rw [← HM.out]; omega) (by rw [HN.out]; exact RX.out) (by rw [HM.out]; exact RY.out)).mono ?_
    rintro e w' ⟨vd, rfl, _, hbel0⟩
    rw [bo0]
    have HB0 := hide hbel0; clear hbel0
    go_wp2
    refine wp_loop_rounds 1 ?_
    rw [rounds_succ]
    go_wp2
    go_ret
    exact ⟨rfl, HB0.out⟩
  · obtain rfl : m = 0 := by omega
    have hp : 0 < n := by omega
    go_enter Try.func4, Try.ntmps4
    go_wp2_with fail
    refine (subWords xs ys _ _ _ _ kx.out ky.out (by omega) (by omega) (by rw [← HN.out]; omega) (by rw [← HM.out]; omega) (by rw [HN.out]; exact RX.out) (by rw [HM.out]; exact RY.out)).mono ?_
    rintro e w' ⟨vd, rfl, _, hbel0⟩
    rw [bo0]
    have HB0 := hide hbel0; clear hbel0
    go_wp2
    refine wp_loop_rounds 1 ?_
    rw [rounds_succ]
    go_wp2
    go_ret
    exact ⟨rfl, HB0.out⟩

theorem walk (v : Value) (xs : List Int) (v2 : Value) (ys : List Int) {w : World} (rx : Row w v xs) (kx : Ws xs) (sx : xs.length * 8 ≤ 140737488351232) (ry : Row w v2 ys) (ky : Ws ys) (sy : ys.length * 8 ≤ 140737488351232) :
    Calls Try.prog 4 #[v, v2] w fun e w' => e = .returned (.bool true) ∧ Below w.heap.size w w' := by
  have rx' := rx
  have ry' := ry
  obtain ⟨a, cap, rfl, hcx⟩ := rx
  obtain ⟨a2, cap2, rfl, hcy⟩ := ry
  by_cases hz : xs.length = 0 ∨ ys.length = 0
  · exact walk_none xs ys a a2 cap cap2 hz kx ky sx sy rx' ry'
  · obtain ⟨b, off, rfl, hb, hcx⟩ := hcx (fun h => hz (Or.inl (by rw [h]; rfl)))
    obtain ⟨b2, off2, rfl, hb2, hcy⟩ := hcy (fun h => hz (Or.inr (by rw [h]; rfl)))
    exact walk_full xs ys b off cap b2 off2 cap2 kx ky sx sy rx' ry' hb hb2 hcx hcy

end Go.Proofs.Ytaiepmcjnnoioaa.fnWordsLess
