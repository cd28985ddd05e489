/-
  For every n of 8 bits, laws.FnFactorialZeros returns true. The walk.
-/
import Derived.Test.YtgjniomloooccaaDoorAppendRow
import Derived.Test.YtgjniomloooccaaDoorPlainFact
import Derived.Test.YtgjniomloooccaaDoorTz64
import Derived.Test.YtgjniomloooccaaDoorPop64s
import Derived.WalkKit
import Derived.ProofKit
import Derived.OpenShut
namespace Go.Proofs.YtgjniomloooccaaDoor.fnFactorialZeros
open Go.ChangeShapes Go.WideShapes Go.ChangeAt Go.RowKit
set_option linter.unusedVariables false

theorem tab_below {w w' : World} (h : Tab64 w) (hb : Below w.heap.size w w') : Tab64 w' := fun j hj =>
  (hb.cell (p := ⟨0, j, none⟩) (World.block_lt_of_cell? w _ (h j hj))).trans (h j hj)
theorem getD_map0 (f : Int → Int) (h0 : f 0 = 0) (xs : List Int) (k : Nat) : (xs.map f).getD k 0 = f (xs.getD k 0) := by
  by_cases h : k < xs.length
  · simp [List.getD, h]
  · simp [List.getD, List.getElem?_eq_none (show xs.length ≤ k by omega), h0]
theorem his_ws {xs : List Int} {y : Int} (hx : Ws xs) (h0 : 0 ≤ y) (h1 : y < 18446744073709551616) : Ws (0 :: his xs y) := by
  intro i
  cases i with
  | zero => simp
  | succ i =>
    show 0 ≤ (his xs y).getD i 0 ∧ (his xs y).getD i 0 < 18446744073709551616
    rw [his, getD_map0 _ (by simp)]
    have := hx i
    generalize xs.getD i 0 = x at *
    have a : 0 ≤ x * y := Int.mul_nonneg this.1 h0
    have b : x * y ≤ 18446744073709551615 * 18446744073709551615 := Int.mul_le_mul (by omega) (by omega) h0 (by omega)
    omega
theorem los_ws {xs : List Int} {y : Int} : Ws (los xs y ++ [0]) := by
  refine ws_append (fun i => ?_) (by omega) (by omega)
  rw [los, getD_map0 _ (by simp)]
  omega
theorem cells_row {w : World} {v : Value} {xs : List Int} {n : Nat} (h : Row w v xs) (hl : xs.length = n) (hn : 0 < n) :
    ∃ b off cap, v = .slice (some ⟨b, off, none⟩) n cap ∧ b < w.heap.size ∧ ∀ i, i < n → w.cell? ⟨b, off + i, none⟩ = some (.int .u64 (xs.getD i 0)) := by
  obtain ⟨a, cap, rfl, hc⟩ := h
  obtain ⟨b, off, rfl, hb, hc⟩ := hc (by intro h; rw [h] at hl; simp at hl; omega)
  rw [hl] at hc ⊢
  exact ⟨b, off, cap, rfl, hb, hc⟩

/-- The words of the product of all numbers up to n + 1. -/
def FactW (ws : List Int) (n : Nat) : Prop := Ws ws ∧ ws.length = n + 1 ∧ val ws = (fact (n + 1) : Int)
theorem factW_start : FactW [1] 0 := by
  refine ⟨fun i => ?_, rfl, rfl⟩
  cases i with
  | zero => simp
  | succ i => simp
theorem factW_next {ws : List Int} {n : Nat} (h : FactW ws n) (hn : n < 100) : FactW (times ws ((n + 2 : Nat) : Int)) (n + 1) := by
  obtain ⟨h1, h2, h3⟩ := h
  refine ⟨times_ws _ _, by rw [times_len, h2], ?_⟩
  rw [times_val h1 (by omega) (by omega) los_ws (his_ws h1 (by omega) (by omega)), h3, show fact (n + 1 + 1) = (n + 2) * fact (n + 1) from rfl, Int.natCast_mul]

set_option maxHeartbeats 1000000 in
set_option maxRecDepth 10000 in
theorem walk_at (M : Int) (p : Nat) {w : World} (T : Hid (Tab64 w)) (m0 : 0 ≤ M) (m1 : M ≤ 255) (hp : M % 60 = (p : Int)) (lp : p < 60) :
    Calls Tryd.prog 3 #[.int .u8 M] w fun e w' => e = .returned (.bool true) ∧ Below w.heap.size w w' := by
  go_enter Tryd.func3, Tryd.ntmps3
  go_wp2
  clear hp m0 m1
  go_loopw [4, 5] (fun vw i wr => ∃ (k : Nat) (ws : List Int), (k + 1 ≤ p ∨ k = 0) ∧ i = .int .u64 ((k + 2 : Nat) : Int) ∧ Hid (Row wr vw ws) ∧ Hid (FactW ws k) ∧ Hid (Below w.heap.size w wr))
    (fun _ i _ => 100 - (intOf i).toNat)
  case atStart =>
    exact ⟨0, [1], Or.inr rfl, rfl, row_made w [1] #[.int .u64 1] rfl 1 rfl, factW_start, (Below.refl _ _).alloc (Nat.le_refl _) _⟩
  case round =>
    obtain ⟨k, ws, hk, rfl, RW, FW, HB⟩ := hrel
    obtain ⟨Y, eY⟩ : ∃ Y, Y = ((k + 2 : Nat) : Int) := ⟨_, rfl⟩
    have y0 : 0 ≤ Y := by omega
    have y1 : Y < 18446744073709551616 := by omega
    rw [← eY]
    by_cases hlt : Y ≤ p
    · obtain ⟨H, hH⟩ : ∃ H, H = his ws Y := ⟨_, rfl⟩
      obtain ⟨L, hL⟩ : ∃ L, L = los ws Y := ⟨_, rfl⟩
      have wl := FW.out.2.1
      have hl : H.length = k + 1 := by rw [hH, ← wl]; simp [his]
      have ll : L.length = k + 1 := by rw [hL, ← wl]; simp [los]
      have KH := hide (show Ws (0 :: H) by rw [hH]; exact his_ws FW.out.1 y0 y1)
      have KL := hide (show Ws (L ++ [0]) by rw [hL]; exact los_ws)
      have M1 : Hid (min (L ++ [0]).length (0 :: H).length = k + 2) := by
        show min (L ++ [0]).length (0 :: H).length = k + 2
        simp only [List.length_append, List.length_cons, List.length_nil, hl, ll]; omega
      have TM : Hid ((sumK (L ++ [0]) (0 :: H) 0 (k + 2)).1 = times ws Y) := by
        show _ = _
        rw [hH, hL, times, wl]
      have NX := hide (factW_next FW.out (by omega))
      rw [← eY] at NX
      have HL := hide hl; have LL := hide ll; have EH := hide hH; have EL := hide hL; have EY := hide eY; have WL := hide wl
      clear hl ll hH hL eY wl
      go_wp2_with fail
      refine (mulWords_own ws _ _ _ FW.out.1 y0 y1 (by rw [WL.out]; omega) RW.out).mono ?_
      rintro e w1 ⟨v1, v2, rfl, o1, o2, ne, hb1⟩
      rw [← EH.out, WL.out] at o1
      rw [← EL.out, WL.out] at o2
      have O1 := hide o1; have O2 := hide o2; have NE := hide ne
      have HB1 := hide hb1
      clear o1 o2 ne hb1
      go_wp2_with (at_builtin; refine wpList_append_row _ rfl (.tmp 27) (.tmp 28) rfl wr.heap.size _ (k + 1) L rfl (by exact O2.out.alloc _) _ [0] rfl (row_made w1 [0] _ rfl 1 rfl) (Or.inr ⟨_, _, _, rfl⟩) (by simp only [List.length_cons, List.length_nil]; omega) (by have := HB1.out.size; simp; omega) ?_)
      intro u1 w2 o3 g3 _
      have B2 := hide ((HB1.out.alloc HB1.out.size _).grown g3 (by have := HB1.out.size; simp; omega) (fun k hk => (O2.out.lt k hk).1))
      have R1 := hide (row_of_owns (World.ownsRow.kept (O1.out.alloc _) g3 (Or.inr NE.out)))
      have S1 := hide (shaped_owns O1.out)
      have RA := hide (row_of_owns' o3 (L ++ [0]) (by simp))
      clear o3 g3 O1 O2 NE
      go_wp2_with (at_builtin; refine wpList_append_row _ rfl (.tmp 30) (.tmp 31) rfl w2.heap.size _ 1 [0] rfl (owns_made w2 w2.heap.size (Nat.le_refl _) [0] _ rfl 1 rfl (by unfold maxLen; omega)) _ H rfl (R1.out.mono ((Below.refl _ _).alloc (Nat.le_refl _) _)) S1.out (by rw [HL.out]; omega) (by simp) ?_)
      intro u2 w3 o4 g4 _
      have B3 := hide (((Below.refl w2.heap.size w2).alloc (Nat.le_refl _) _).grown g4 (by simp) (by intro k hk; simp [Value.ownBlock] at hk; omega))
      have RB := hide (row_of_owns' o4 (0 :: H) (by simp))
      have RA3 := hide (RA.out.mono B3.out)
      have HB3 := hide (HB.out.trans ((B2.out.trans (B3.out.mono B2.out.size)).mono HB.out.size))
      clear o4 g4 RA B2 B3 R1 HB1
      go_wp2_with fail
      refine (addWords (L ++ [0]) (0 :: H) _ _ _ _ KL.out KH.out (by omega) (by omega) (by rw [List.length_append, LL.out]; simp only [List.length_cons, List.length_nil]; omega) (by rw [List.length_cons, HL.out]; omega) RA3.out RB.out).mono ?_
      rintro e w4 ⟨vp, rfl, rp, hb5⟩
      rw [M1.out, TM.out] at rp
      have RP := hide rp
      have HB5 := hide (HB3.out.trans (hb5.mono HB3.out.size))
      clear rp hb5 RA3 RB
      obtain ⟨oo, hoo⟩ : ∃ oo, oo = (sumK (L ++ [0]) (0 :: H) 0 (min (L ++ [0]).length (0 :: H).length)).2 := ⟨_, rfl⟩
      rw [← hoo]
      clear hoo
      go_wp2
      go_roundw
      case rel => exact ⟨k + 1, times ws Y, Or.inl (by have := EY.out; omega), by have := EY.out; rw [this]; go_num, RP.out, NX.out, HB5.out⟩
      case measure => have := EY.out; simp [intOf]; omega
    · have fv : val ws = (fact p : Int) := by
        rw [FW.out.2.2]
        have : p = k + 1 ∨ (p = 0 ∧ k = 0) := by omega
        rcases this with rfl | ⟨rfl, rfl⟩
        · rfl
        · rfl
      have fp : 0 < fact p := by
        obtain ⟨_, m, hm⟩ := fact_ok lp
        rw [hm]
        exact Nat.mul_pos (Nat.two_pow_pos _) (by omega)
      obtain ⟨bw, ow, cw, rfl, hbw, hcw⟩ := cells_row RW.out FW.out.2.1 (by omega)
      have FV := hide fv; have FP := hide fp; have HC := hide hcw
      have kb : k < 60 := by omega
      have T' := hide (tab_below T.out HB.out)
      clear fv fp hcw eY RW hk
      go_wp2
      go_loop [8, 9] (fun z i => ∃ j : Nat, j ≤ k + 1 ∧ i = .int .i64 j ∧ z = .int .i64 (64 * (j : Int)) ∧ Hid (Below0 ws j)) (fun _ i => k + 1 - (intOf i).toNat)
      case atStart => exact ⟨0, by omega, rfl, rfl, below0_start ws⟩
      case round =>
        obtain ⟨j, hj, rfl, rfl, B0⟩ := hrel
        by_cases hlt2 : j < k + 1
        · have cx := HC.out j hlt2
          have X01 := FW.out.1 j
          have jl : j < ws.length := by rw [FW.out.2.1]; exact hlt2
          by_cases hX : ws.getD j 0 = 0
          · rw [hX] at cx
            have N0 := hide (below0_next jl B0.out hX)
            clear X01 jl hX
            go_wp2_with fail
            refine (tz64_zero _).mono ?_
            rintro e w' ⟨rfl, rfl⟩
            go_wp2
            go_round
            case rel => exact ⟨j + 1, by omega, by go_num, by go_num, N0.out⟩
            case measure => simp [intOf]; omega
          · obtain ⟨po, tz⟩ := fact_ok lp
            have bt : ∀ t : Nat, Roads.IsTz (ws.getD j 0).toNat t → t < 64 → 64 * j + t = p - Roads.pop 64 p := fun t h1 h2 => Roads.isTz_unique (below0_tz FW.out.1 jl B0.out h1 h2 FV.out) tz
            have BT := hide bt
            clear bt tz
            obtain ⟨A, eA⟩ : ∃ A, A = Roads.pop 64 p := ⟨_, rfl⟩
            rw [← eA] at BT po
            have lA : A ≤ 64 := by rw [eA]; exact Roads.pop_le _ _
            have EA := hide eA; clear eA
            generalize ws.getD j 0 = X at *
            clear jl
            go_wp2_with fail
            refine (tz64_pos _ _ (by omega) (by omega) T'.out).mono ?_
            rintro e w' ⟨t, rfl, rfl, t1, t2⟩
            have eq := BT.out t t1 t2
            have b1 : (64 * (j : Int) + (t : Int) == (p : Int) - (A : Int)) = true := by
              rw [beq_iff_eq]; omega
            clear eq t1 BT X01 hX
            go_wp2_with fail
            refine (pop64_same p A EA.out _ (by omega)).mono ?_
            rintro e w' ⟨rfl, rfl⟩
            go_wp2_with fail
            refine (pop64_same 3 2 (show 2 = Roads.pop 64 3 by decide +kernel) _ (by omega)).mono ?_
            rintro e w' ⟨rfl, rfl⟩
            go_wp2
            go_ret
            exact ⟨rfl, HB.out⟩
        · exfalso
          obtain rfl : j = k + 1 := by omega
          have h := B0.out
          rw [← FW.out.2.1] at h
          have z := below0_end h
          rw [FV.out] at z
          have := FP.out
          omega

theorem walk (M : Int) {w : World} (w0 : (Lit.int .u8 M).wf = true) (hT : Tab64 w) :
    Calls Tryd.prog 3 #[.int .u8 M] w fun e w' => e = .returned (.bool true) ∧ Below w.heap.size w w' := by
  obtain ⟨m0, m1⟩ := bounds_u8 w0
  obtain ⟨p, hp⟩ := Int.eq_ofNat_of_zero_le (show 0 ≤ M % 60 by omega)
  exact walk_at M p hT m0 m1 hp (by omega)
end Go.Proofs.YtgjniomloooccaaDoor.fnFactorialZeros
