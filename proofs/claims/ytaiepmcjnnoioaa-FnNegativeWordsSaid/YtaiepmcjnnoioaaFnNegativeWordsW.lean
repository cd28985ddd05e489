/-
  For every list x of words, laws.FnNegativeWords returns true. The walk.
-/
import Derived.Test.YtaiepmcjnnoioaaSubWords
import Derived.Test.YtaiepmcjnnoioaaAddWords
import Derived.Test.YtaiepmcjnnoioaaSame
import Derived.WalkKit
import Derived.ProofKit
import Derived.OpenShut
namespace Go.Proofs.Ytaiepmcjnnoioaa.fnNegativeWords
open Go.ChangeShapes Go.WideShapes Go.ChangeAt Go.RowKit
set_option linter.unusedVariables false

theorem info_u64n : (Try.prog.info? 23).map (fun i => (i.zero, i.size, i.bytes)) = some (some (.int .u64 0), 1, 8) := by kernel_rfl
theorem made_zero (n : Nat) : (madeCells (Value.cells (.int .u64 0)) (n * 1)).toList = (List.replicate n (0 : Int)).map (Value.int .u64) := by
  apply List.ext_getElem
  · simp [madeCells]
  · intro i h1 h2
    simp [madeCells, Value.cells, Nat.mod_one]
theorem zeros_getD (n i : Nat) : (List.replicate n (0 : Int)).getD i 0 = 0 := by
  by_cases h : i < n <;> simp [List.getD, h]
theorem zeros_ws (n : Nat) : Ws (List.replicate n 0) := fun i => by rw [zeros_getD]; omega

theorem diff_getD (xs ys : List Int) (c : Int) : ∀ n k, k < n → (diffK xs ys c n).1.getD k 0 = (xs.getD k 0 - ys.getD k 0 - (diffK xs ys c k).2) % 18446744073709551616 := by
  intro n
  induction n with
  | zero => intro k h; omega
  | succ n ih =>
    intro k h
    have l := diffK_length xs ys c n
    simp only [diffK]
    by_cases hk : k < n
    · rw [← ih k hk]
      simp [List.getD, List.getElem?_append_left (show k < (diffK xs ys c n).1.length by omega)]
    · obtain rfl : k = n := by omega
      simp [List.getD, l]
theorem diff_ws (xs ys : List Int) (c : Int) (n : Nat) : Ws (diffK xs ys c n).1 := by
  intro i
  by_cases h : i < n
  · rw [diff_getD xs ys c n i h]; omega
  · have : (diffK xs ys c n).1[i]? = none := List.getElem?_eq_none (by rw [diffK_length]; omega)
    simp [List.getD, this]

/-- What is taken from 0 makes it 0 again, and borrows as it carries. -/
theorem back (xs : List Int) (n N : Nat) (kx : Ws xs) : ∀ k, k ≤ n → (sumK (diffK (List.replicate N 0) xs 0 n).1 xs 0 k) = (List.replicate k 0, (diffK (List.replicate N 0) xs 0 k).2) := by
  intro k
  induction k with
  | zero => intro _; rfl
  | succ k ih =>
    intro h
    have i := ih (by omega)
    have b := diffK_carry (zeros_ws N) kx (c := 0) (by omega) (by omega) k
    have x := kx k
    simp only [sumK, i]
    rw [diff_getD _ _ _ n k (by omega), zeros_getD]
    simp only [diffK]
    rw [zeros_getD]
    generalize (diffK (List.replicate N 0) xs 0 k).2 = B at *
    generalize xs.getD k 0 = X at *
    have e : List.replicate (k + 1) (0 : Int) = List.replicate k 0 ++ [0] := List.replicate_succ'
    rw [e]
    by_cases hz : X = 0 ∧ B = 0
    · obtain ⟨rfl, rfl⟩ := hz; rfl
    · have h1 : ((0 - X - B) % 18446744073709551616 + X + B) = 18446744073709551616 := by omega
      rw [h1, if_pos (by omega)]
      rfl
theorem some_step (xs : List Int) (N : Nat) (kx : Ws xs) (k : Nat) : (diffK (List.replicate N 0) xs 0 (k + 1)).2 = 1 ↔ ((diffK (List.replicate N 0) xs 0 k).2 = 1 ∨ xs.getD k 0 ≠ 0) := by
  have b := diffK_carry (zeros_ws N) kx (c := 0) (by omega) (by omega) k
  have x := kx k
  simp only [diffK]
  rw [zeros_getD]
  split <;> omega

theorem walk_full (xs : List Int) (b off cap : Nat) {w : World} (nx : Hid (xs ≠ [])) (kx : Hid (Ws xs)) (sx : xs.length * 8 ≤ 140737488351232) (rx : Hid (Row w (.slice (some ⟨b, off, none⟩) xs.length cap) xs)) (hb : b < w.heap.size) (hcx : Hid (∀ i, i < xs.length → w.cell? ⟨b, off + i, none⟩ = some (.int .u64 (xs.getD i 0)))) :
    Calls Try.prog 8 #[.slice (some ⟨b, off, none⟩) xs.length cap] w fun e w' => e = .returned (.bool true) ∧ Below w.heap.size w w' := by
  obtain ⟨n, hn⟩ : ∃ n, n = xs.length := ⟨_, rfl⟩
  have n0 : 0 < n := by rw [hn]; exact List.length_pos_iff.mpr nx.out
  rw [← hn]
  rw [← hn] at sx
  have HN := hide hn; clear hn
  obtain ⟨i0, hi, hz0, hz1, hz2⟩ := info_parts info_u64n
  go_enter Try.func8, Try.ntmps8
  go_wp2_with (at_make; refine wpList_make_full _ rfl _ _ 22 rfl w.heap.size 23 i0 (.int .u64 0) 1 Try.underlying22 hi hz0 hz1 _ _ _ _ n rfl rfl (by omega) (by omega) (by rw [hz2]; omega) (by unfold maxLen; omega) (Nat.le_refl _) ?_; intro w1 hown1 hgrow1)
  have zr : Row w1 (.slice (some ⟨w.heap.size, 0, none⟩) n n) (List.replicate n 0) := row_of_owns (by rw [← made_zero]; exact hown1)
  have hb1 : Below w.heap.size w w1 := (Below.refl _ _).grown hgrow1 (Nat.le_refl _) (fun k h => by cases h)
  have rx1 := rx.out.mono hb1
  rw [← HN.out] at rx1
  have ml : min (List.replicate n (0 : Int)).length xs.length = n := by rw [List.length_replicate, ← HN.out]; omega
  have ZR := hide zr; have HB1 := hide hb1; have RX1 := hide rx1; have ML := hide ml
  clear zr hb1 rx1 ml hown1 hgrow1
  refine (subWords (List.replicate n 0) xs _ _ _ _ (zeros_ws n) kx.out (by omega) (by omega) (by rw [List.length_replicate]; omega) (by rw [← HN.out]; omega) ZR.out RX1.out).mono ?_
  rintro e w2 ⟨vm, rfl, rm, hb2⟩
  rw [ML.out] at rm ⊢
  have bb := diffK_carry (zeros_ws n) kx.out (c := 0) (by omega) (by omega) n
  obtain ⟨D, eD⟩ : ∃ D, D = diffK (List.replicate n 0) xs 0 n := ⟨_, rfl⟩
  have dl : D.1.length = n := by rw [eD]; exact diffK_length _ _ _ _
  rw [← eD] at rm bb ⊢
  obtain ⟨ds, bo⟩ := D
  have rm2 : ∃ a3 cap3, vm = .slice a3 n cap3 := by
    obtain ⟨a3, cap3, h, _⟩ := rm
    exact ⟨a3, cap3, by rw [h]; simp only at dl; rw [dl]⟩
  obtain ⟨a3, cap3, rfl⟩ := rm2
  have HB2 := hide (HB1.out.trans (hb2.mono HB1.out.size))
  have ZR2 := hide (ZR.out.mono hb2)
  have RX2 := hide (RX1.out.mono hb2)
  have RM := hide rm
  have ED := hide eD
  have DL := hide dl
  clear rm eD dl hb2 ZR RX1 HB1
  obtain ⟨bb0, bb1⟩ := bb
  have dw : Ws ds := by have := diff_ws (List.replicate n 0) xs 0 n; rw [← ED.out] at this; exact this
  have ML2 : Hid (min ds.length xs.length = n) := by show min ds.length xs.length = n; rw [DL.out, ← HN.out]; omega
  have BK : Hid (sumK ds xs 0 n = (List.replicate n 0, bo)) := by
    have := back xs n n kx.out n (Nat.le_refl _)
    rw [← ED.out] at this
    exact this
  have DW := hide dw; clear dw
  go_wp2_with fail
  refine (addWords ds xs _ _ _ _ DW.out kx.out (by omega) (by omega) (by rw [DL.out]; omega) (by rw [← HN.out]; omega) RM.out RX2.out).mono ?_
  rintro e w3 ⟨vs, rfl, rs, hb3⟩
  rw [ML2.out, BK.out] at rs ⊢
  have HB3 := hide (HB2.out.trans (hb3.mono HB2.out.size))
  have ZR3 := hide (ZR2.out.mono hb3)
  have RS := hide rs
  clear rs hb3
  go_wp2
  go_loop [8, 9] (fun s i => ∃ (k : Nat) (t : Bool), k ≤ n ∧ i = .int .i64 k ∧ s = .bool t ∧ Hid ((t = true) ↔ (diffK (List.replicate n 0) xs 0 k).2 = 1)) (fun _ i => n - (intOf i).toNat)
  case atStart => exact ⟨0, false, Nat.zero_le _, rfl, rfl, by simp [Hid, diffK]⟩
  case round =>
    obtain ⟨k, t, hk, rfl, rfl, hT⟩ := hrel
    by_cases hlt : k < n
    · obtain ⟨X, eX⟩ : ∃ X, X = xs.getD k 0 := ⟨_, rfl⟩
      have cx : w3.cell? ⟨b, off + k, none⟩ = some (.int .u64 X) := (HB3.out.cell (p := ⟨b, off + k, none⟩) hb).trans (by rw [eX]; exact hcx.out k (by rw [← HN.out]; exact hlt))
      have st := some_step xs n kx.out k
      rw [← eX] at st
      have ST := hide st; clear st eX
      cases t
      · by_cases hx : X = 0
        · subst hx
          go_wp2
          go_round
          case rel => exact ⟨k + 1, false, by omega, by go_num, rfl, by have a := ST.out; have b := hT.out; show (false = true) ↔ _; rw [a]; simpa using b⟩
          case measure => simp [intOf]; omega
        · have hb' : (X != 0) = true := bne_iff_ne.mpr hx
          have HX := hide hx; clear hx
          go_wp2
          go_round
          case rel => exact ⟨k + 1, true, by omega, by go_num, rfl, by have a := ST.out; show (true = true) ↔ _; rw [a]; exact ⟨fun _ => Or.inr HX.out, fun _ => rfl⟩⟩
          case measure => simp [intOf]; omega
      · go_wp2
        go_round
        case rel => exact ⟨k + 1, true, by omega, by go_num, rfl, by have a := ST.out; show (true = true) ↔ _; rw [a]; exact ⟨fun h => Or.inl (hT.out.mp h), fun _ => rfl⟩⟩
        case measure => simp [intOf]; omega
    · obtain rfl : k = n := by omega
      have E : (t = true) ↔ bo = 1 := by have := hT.out; rw [← ED.out] at this; exact this
      have fin : ((bo == 1) == t) = true := by rw [beqB, E]; simp
      clear E hT
      have nb : ((k : Int) == k) = true := by simp
      go_wp2_with fail
      refine (same_true (List.replicate k 0) _ _ _ (by rw [List.length_replicate]; omega) RS.out ZR3.out).mono ?_
      rintro e w4 ⟨rfl, hb4⟩
      have HB4 := hide (HB3.out.trans (hb4.mono HB3.out.size)); clear hb4
      go_wp2
      go_ret
      exact ⟨rfl, HB4.out⟩

theorem walk_none (a : Option Addr) (cap : Nat) {w : World} :
    Calls Try.prog 8 #[.slice a 0 cap] w fun e w' => e = .returned (.bool true) ∧ Below w.heap.size w w' := by
  have kn : Ws [] := fun i => by simp
  have KN := hide kn; clear kn
  obtain ⟨i0, hi, hz0, hz1, hz2⟩ := info_parts info_u64n
  go_enter Try.func8, Try.ntmps8
  go_wp2_with (at_make; refine wpList_make_full _ rfl _ _ 22 rfl w.heap.size 23 i0 (.int .u64 0) 1 Try.underlying22 hi hz0 hz1 _ _ _ _ 0 rfl rfl (by omega) (by omega) (by rw [hz2]; omega) (by unfold maxLen; omega) (Nat.le_refl _) ?_; intro w1 hown1 hgrow1)
  have HB1 := hide (show Below w.heap.size w w1 from (Below.refl _ _).grown hgrow1 (Nat.le_refl _) (fun k h => by cases h))
  clear hown1 hgrow1
  refine (subWords [] [] _ _ _ _ KN.out KN.out (by omega) (by omega) (by simp) (by simp) ⟨_, _, rfl, fun h => absurd rfl h⟩ ⟨_, _, rfl, fun h => absurd rfl h⟩).mono ?_
  rintro e w2 ⟨vm, rfl, ⟨a3, cap3, h3, _⟩, hb2⟩
  have h3' : vm = .slice a3 0 cap3 := h3
  subst h3'
  have HB2 := hide (HB1.out.trans (hb2.mono HB1.out.size)); clear hb2 h3
  rw [show (diffK [] [] 0 (min ([] : List Int).length ([] : List Int).length)).2 = 0 from rfl]
  go_wp2_with fail
  refine (addWords [] [] _ _ _ _ KN.out KN.out (by omega) (by omega) (by simp) (by simp) ⟨_, _, rfl, fun h => absurd rfl h⟩ ⟨_, _, rfl, fun h => absurd rfl h⟩).mono ?_
  rintro e w3 ⟨vs, rfl, ⟨a4, cap4, h4, _⟩, hb3⟩
  have h4' : vs = .slice a4 0 cap4 := h4
  subst h4'
  have HB3 := hide (HB2.out.trans (hb3.mono HB2.out.size)); clear hb3 h4
  rw [show (sumK [] [] 0 (min ([] : List Int).length ([] : List Int).length)).2 = 0 from rfl]
  go_wp2
  refine wp_loop_rounds 1 ?_
  rw [rounds_succ]
  go_wp2_with fail
  refine (same_none _ _ _ _ _).mono ?_
  rintro e w4 ⟨rfl, hb4⟩
  have HB4 := hide (HB3.out.trans (hb4.mono HB3.out.size)); clear hb4
  go_wp2
  go_ret
  exact ⟨rfl, HB4.out⟩

theorem walk (v : Value) (xs : List Int) {w : World} (rx : Row w v xs) (kx : Ws xs) (sx : xs.length * 8 ≤ 140737488351232) :
    Calls Try.prog 8 #[v] w fun e w' => e = .returned (.bool true) ∧ Below w.heap.size w w' := by
  have rx' := rx
  obtain ⟨a, cap, rfl, hcx⟩ := rx
  by_cases hz : xs = []
  · subst hz; exact walk_none a cap
  · obtain ⟨b, off, rfl, hb, hcx⟩ := hcx hz
    exact walk_full xs b off cap hz kx sx rx' hb hcx

end Go.Proofs.Ytaiepmcjnnoioaa.fnNegativeWords
