/-
  For every list x of words, laws.FnAllOnesWords returns true. The walk.
-/
import Derived.Test.YtaiepmcjnnoioaaPlainOnes
import Derived.Test.YtaiepmcjnnoioaaAppendRow
import Derived.Test.YtaiepmcjnnoioaaSame
import Derived.WalkKit
import Derived.ProofKit
import Derived.OpenShut
namespace Go.Proofs.Ytaiepmcjnnoioaa.fnAllOnesWords
open Go.ChangeShapes Go.WideShapes Go.ChangeAt Go.RowKit
set_option linter.unusedVariables false

theorem his_ws {xs : List Int} {y : Int} (hx : Ws xs) (h0 : 0 ≤ y) (h1 : y < 18446744073709551616) : Ws (his xs y) := by
  intro i
  rw [his, getD_map0 _ (by simp)]
  have := hx i
  generalize xs.getD i 0 = x at *
  have a : 0 ≤ x * y := Int.mul_nonneg this.1 h0
  have b : x * y ≤ 18446744073709551615 * 18446744073709551615 := Int.mul_le_mul (by omega) (by omega) h0 (by omega)
  omega
theorem los_ws {xs : List Int} {y : Int} : Ws (los xs y) := by
  intro i
  rw [los, getD_map0 _ (by simp)]
  omega
theorem ws_zero_end {xs : List Int} (h : Ws xs) : Ws (xs ++ [0]) := fun i => by rw [getD_zero_end]; exact h i
theorem ws_zero_cons {xs : List Int} (h : Ws xs) : Ws (0 :: xs) := fun i => by
  cases i with
  | zero => simp
  | succ i => exact h i
theorem grown_below {w wr w1 : World} {row : Option Nat} {B : Nat} (hb : Below B w wr) (hs : B ≤ wr.heap.size) (hg : wr.grownBy w1 row) (hr : ∀ k, row = some k → B ≤ k) : Below B w w1 := hb.grown hg hs hr

theorem walk_at (ax : Option Addr) (n capx : Nat) (xs : List Int) {w : World} (hn : Hid (n = xs.length)) (rx : Hid (Row w (.slice ax n capx) xs)) (kx : Hid (Ws xs)) (sx : n * 8 ≤ 140737488351232) (hs : Hid (Shaped (.slice ax n capx))) :
    Calls Try.prog 10 #[.slice ax n capx] w fun e w' => e = .returned (.bool true) ∧ Below w.heap.size w w' := by
  obtain ⟨H, hH⟩ : ∃ H, H = his xs 18446744073709551615 := ⟨_, rfl⟩
  obtain ⟨L, hL⟩ : ∃ L, L = los xs 18446744073709551615 := ⟨_, rfl⟩
  have hl : H.length = n := by rw [hH, hn.out]; simp [his]
  have ll : L.length = n := by rw [hL, hn.out]; simp [los]
  have KH := hide (show Ws (0 :: H) by rw [hH]; exact ws_zero_cons (his_ws kx.out (by omega) (by omega)))
  have KL := hide (show Ws (L ++ [0]) by rw [hL]; exact ws_zero_end los_ws)
  have AO := all_ones xs kx.out
  rw [← hH, ← hL, ← hn.out] at AO
  obtain ⟨Z, hZ⟩ : ∃ Z, Z = diffK (0 :: xs) (xs ++ [0]) 0 (n + 1) := ⟨_, rfl⟩
  have zl : Z.1.length = n + 1 := by rw [hZ]; exact diffK_length _ _ _ _
  rw [← hZ] at AO
  obtain ⟨ao1, ao2⟩ := AO
  obtain ⟨zs, zc⟩ := Z
  simp only at ao2 zl
  subst ao2
  have HL := hide hl; have LL := hide ll; have AO1 := hide ao1; have HZ := hide hZ; have ZL := hide zl; have EH := hide hH; have EL := hide hL
  clear hl ll ao1 hZ zl hH hL
  go_enter Try.func10, Try.ntmps10
  go_wp2_with fail
  refine (mulWords_own xs _ _ _ kx.out (by omega) (by omega) (by rw [← hn.out]; omega) rx.out).mono ?_
  rintro e w1 ⟨v1, v2, rfl, o1, o2, _, hb1⟩
  rw [← EH.out] at o1
  rw [← EL.out] at o2
  have R1 := hide (row_of_owns o1)
  have R2 := hide (row_of_owns o2)
  have S1 := hide (shaped_owns o1)
  have S2 := hide (shaped_owns o2)
  have HB1 := hide hb1
  have RX1 := hide (rx.out.mono hb1)
  clear o1 o2 hb1
  go_wp2_with (at_builtin; refine wpList_append_row _ rfl (.tmp 15) (.tmp 16) rfl w1.heap.size _ 0 [] rfl (owns_made w1 w1.heap.size (Nat.le_refl _) [] #[] rfl 0 rfl (by unfold maxLen; omega)) _ L rfl (R2.out.mono ((Below.refl _ _).alloc (Nat.le_refl _) _)) S2.out (by rw [LL.out]; omega) (by simp) ?_)
  intro u1 w2 o3 g3 _
  have B2 := hide (grown_below ((Below.refl w1.heap.size w1).alloc (Nat.le_refl _) _) (by simp) g3 (by intro k hk; simp [Value.ownBlock] at hk; omega))
  rw [LL.out] at o3
  have O3 := hide o3; clear o3 g3
  go_wp2_with (at_builtin; refine wpList_append_row _ rfl (.tmp 17) (.tmp 18) rfl w1.heap.size _ n L rfl (by exact O3.out.alloc _) _ [0] rfl (row_made w2 [0] _ rfl 1 rfl) (Or.inr ⟨_, _, _, rfl⟩) (by simp only [List.length_cons, List.length_nil]; omega) (by have := B2.out.size; simp; omega) ?_)
  intro u2 w3 o4 g4 _
  have B3 := hide (grown_below (B2.out.alloc B2.out.size _) (by have := B2.out.size; simp; omega) g4 (fun k hk => (O3.out.lt k hk).1))
  have RA := hide (row_of_owns' o4 (L ++ [0]) (by simp))
  clear o4 g4 O3
  go_wp2_with (at_builtin; refine wpList_append_row _ rfl (.tmp 20) (.tmp 21) rfl w3.heap.size _ 1 [0] rfl (owns_made w3 w3.heap.size (Nat.le_refl _) [0] _ rfl 1 rfl (by unfold maxLen; omega)) _ H rfl ((R1.out.mono B3.out).mono ((Below.refl _ _).alloc (Nat.le_refl _) _)) S1.out (by rw [HL.out]; omega) (by simp) ?_)
  intro u3 w4 o5 g5 _
  have B4 := hide (grown_below ((Below.refl w3.heap.size w3).alloc (Nat.le_refl _) _) (by simp) g5 (by intro k hk; simp [Value.ownBlock] at hk; omega))
  have RB := hide (row_of_owns' o5 (0 :: H) (by simp))
  clear o5 g5
  have RA4 := hide (RA.out.mono B4.out)
  have HB4 := hide (HB1.out.trans ((B3.out.trans (B4.out.mono B3.out.size)).mono HB1.out.size))
  have RX4 := hide ((RX1.out.mono B3.out).mono B4.out)
  have M1 : Hid (min (L ++ [0]).length (0 :: H).length = n + 1) := by
    show min (L ++ [0]).length (0 :: H).length = n + 1
    simp only [List.length_append, List.length_cons, List.length_nil, HL.out, LL.out]; omega
  go_wp2_with fail
  refine (addWords (L ++ [0]) (0 :: H) _ _ _ _ KL.out KH.out (by omega) (by omega) (by rw [List.length_append, LL.out]; simp only [List.length_cons, List.length_nil]; omega) (by rw [List.length_cons, HL.out]; omega) RA4.out RB.out).mono ?_
  rintro e w5 ⟨vp, rfl, rp, hb5⟩
  rw [M1.out, AO1.out] at rp ⊢
  obtain ⟨ap, cp, rfl, hcp⟩ : ∃ ap cp, vp = .slice ap (n + 1) cp ∧ Row w5 (.slice ap (n + 1) cp) zs := by
    have rp' := rp
    obtain ⟨ap, cp, h, _⟩ := rp
    rw [ZL.out] at h
    exact ⟨ap, cp, h, by rw [← h]; exact rp'⟩
  have RP := hide hcp
  have HB5 := hide (HB4.out.trans (hb5.mono HB4.out.size))
  have RX5 := hide (RX4.out.mono hb5)
  clear rp hb5 hcp RA RB RA4 RX4 B2 B3 B4 R1 R2
  go_wp2_with (at_builtin; refine wpList_append_row _ rfl (.tmp 27) (.tmp 28) rfl w5.heap.size _ 1 [0] rfl (owns_made w5 w5.heap.size (Nat.le_refl _) [0] _ rfl 1 rfl (by unfold maxLen; omega)) _ xs rfl (RX5.out.mono ((Below.refl _ _).alloc (Nat.le_refl _) _)) hs.out (by rw [← hn.out]; omega) (by simp) ?_)
  intro u4 w6 o6 g6 _
  have B6 := hide (grown_below ((Below.refl w5.heap.size w5).alloc (Nat.le_refl _) _) (by simp) g6 (by intro k hk; simp [Value.ownBlock] at hk; omega))
  have RC := hide (row_of_owns' o6 (0 :: xs) (by simp))
  have RX6 := hide (RX5.out.mono B6.out)
  clear o6 g6
  go_wp2_with (at_builtin; refine wpList_append_row _ rfl (.tmp 30) (.tmp 31) rfl w6.heap.size _ 0 [] rfl (owns_made w6 w6.heap.size (Nat.le_refl _) [] #[] rfl 0 rfl (by unfold maxLen; omega)) _ xs rfl (RX6.out.mono ((Below.refl _ _).alloc (Nat.le_refl _) _)) hs.out (by rw [← hn.out]; omega) (by simp) ?_)
  intro u5 w7 o7 g7 _
  have B7 := hide (grown_below ((Below.refl w6.heap.size w6).alloc (Nat.le_refl _) _) (by simp) g7 (by intro k hk; simp [Value.ownBlock] at hk; omega))
  rw [← hn.out] at o7
  have O7 := hide o7; clear o7 g7
  go_wp2_with (at_builtin; refine wpList_append_row _ rfl (.tmp 32) (.tmp 33) rfl w6.heap.size _ n xs rfl (by exact O7.out.alloc _) _ [0] rfl (row_made w7 [0] _ rfl 1 rfl) (Or.inr ⟨_, _, _, rfl⟩) (by simp only [List.length_cons, List.length_nil]; omega) (by have := B7.out.size; simp; omega) ?_)
  intro u6 w8 o8 g8 _
  have B8 := hide (grown_below (B7.out.alloc B7.out.size _) (by have := B7.out.size; simp; omega) g8 (fun k hk => (O7.out.lt k hk).1))
  have RD := hide (row_of_owns' o8 (xs ++ [0]) (by simp))
  clear o8 g8 O7
  have RC8 := hide (RC.out.mono B8.out)
  have B58 := hide (B6.out.trans (B8.out.mono B6.out.size))
  have HB8 := hide (HB5.out.trans (B58.out.mono HB5.out.size))
  have RP8 := hide (RP.out.mono B58.out)
  have M2 : Hid (min (0 :: xs).length (xs ++ [0]).length = n + 1) := by
    show min (0 :: xs).length (xs ++ [0]).length = n + 1
    simp only [List.length_append, List.length_cons, List.length_nil, ← hn.out]; omega
  have KC := hide (ws_zero_cons kx.out)
  have KD := hide (ws_zero_end kx.out)
  go_wp2_with fail
  refine (subWords (0 :: xs) (xs ++ [0]) _ _ _ _ KC.out KD.out (by omega) (by omega) (by rw [List.length_cons, ← hn.out]; omega) (by rw [List.length_append, ← hn.out]; simp only [List.length_cons, List.length_nil]; omega) RC8.out RD.out).mono ?_
  rintro e w9 ⟨vw, rfl, rw9, hb9⟩
  rw [M2.out, ← HZ.out] at rw9 ⊢
  have RW := hide rw9
  have RP9 := hide (RP8.out.mono hb9)
  have HB9 := hide (HB8.out.trans (hb9.mono HB8.out.size))
  clear rw9 hb9
  go_wp2_with fail
  refine (same_true zs _ _ _ (by rw [ZL.out]; omega) RP9.out RW.out).mono ?_
  rintro e w10 ⟨rfl, hb10⟩
  have HB10 := hide (HB9.out.trans (hb10.mono HB9.out.size)); clear hb10
  go_wp2
  go_ret
  exact ⟨rfl, HB10.out⟩

theorem walk (v : Value) (xs : List Int) {w : World} (rx : Row w v xs) (kx : Ws xs) (sx : xs.length * 8 ≤ 140737488351232) (hs : Shaped v) :
    Calls Try.prog 10 #[v] w fun e w' => e = .returned (.bool true) ∧ Below w.heap.size w w' := by
  have rx' := rx
  obtain ⟨a, cap, rfl, _⟩ := rx
  exact walk_at a xs.length cap xs rfl rx' kx sx hs
end Go.Proofs.Ytaiepmcjnnoioaa.fnAllOnesWords
