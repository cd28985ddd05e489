/-
  What spec.SubWords returns: the differences word by word, as long as both have words.
-/
import Derived.Test.YtaiepmcjnnoioaaSubWords
import Derived.Test.YtaiepmcjnnoioaaPlainExact
namespace Go.Proofs.Ytaiepmcjnnoioaa
open Go.RowKit
set_option linter.unusedVariables false

/-- What holds of the lowest j bits. -/
def SubAt (X Y c : Int) (j : Nat) (W C : Int) : Prop := ∃ x y c0 wd cr : Nat, X = x ∧ Y = y ∧ c = c0 ∧ W = wd ∧ C = cr ∧ cr ≤ 1 ∧ wd < 2 ^ j ∧ wd + y % 2 ^ j + c0 = x % 2 ^ j + cr * 2 ^ j

theorem subAt_start {X Y c : Int} (hX : 0 ≤ X) (hY : 0 ≤ Y) (h0 : 0 ≤ c) (h1 : c ≤ 1) : SubAt X Y c 0 0 c := by
  obtain ⟨x, rfl⟩ := Int.eq_ofNat_of_zero_le hX
  obtain ⟨y, rfl⟩ := Int.eq_ofNat_of_zero_le hY
  obtain ⟨d, rfl⟩ := Int.eq_ofNat_of_zero_le h0
  exact ⟨x, y, d, 0, d, rfl, rfl, rfl, rfl, rfl, by omega, by decide, by simp [Nat.mod_one]⟩
theorem subAt_end {X Y c W C : Int} (hX : X < 18446744073709551616) (hY : Y < 18446744073709551616) (h : SubAt X Y c 64 W C) : W = (X - Y - c) % 18446744073709551616 ∧ C = if X < Y + c then 1 else 0 := by
  obtain ⟨x, y, d, wd, cr, rfl, rfl, rfl, rfl, rfl, h1, h2, h3⟩ := h
  rw [Nat.mod_eq_of_lt (by omega), Nat.mod_eq_of_lt (by omega)] at h3
  simp only [show (2 : Nat) ^ 64 = 18446744073709551616 from rfl] at h2 h3
  refine ⟨by omega, ?_⟩
  split <;> omega
theorem bit1s (a : Nat) (h : a < 18446744073709551616) : bits .and .u64 (a : Int) 1 = ((a % 2 : Nat) : Int) := by
  rw [show (1 : Int) = ((1 : Nat) : Int) from rfl, u64_and_nat a 1 h (by omega), nat_mask1]
/-- One bit further, as the code reckons it. -/
theorem subAt_step {X Y c W C : Int} {j : Nat} (hj : j < 64) (hX : X < 18446744073709551616) (hY : Y < 18446744073709551616) (h : SubAt X Y c j W C) :
    ∃ P Q R T V D : Int, bits .and .u64 (X / 2 ^ j) 1 = P ∧ bits .and .u64 (Y / 2 ^ j) 1 = Q ∧ bits .and .u64 (2 + P - Q - C) 1 = R ∧ IntKind.u64.wrap (R * 2 ^ j) = T ∧ bits .or .u64 W T = V ∧ (2 + P - Q - C) / 2 = D ∧
      0 ≤ P ∧ P ≤ 1 ∧ 0 ≤ Q ∧ Q ≤ 1 ∧ 0 ≤ C ∧ C ≤ 1 ∧ 0 ≤ D ∧ D ≤ 1 ∧ SubAt X Y c (j + 1) V (1 - D) := by
  obtain ⟨x, y, d, wd, cr, rfl, rfl, rfl, rfl, rfl, h1, h2, h3⟩ := h
  have p64 : 2 ^ j ≤ 2 ^ 63 := Nat.pow_le_pow_right (by omega) (by omega)
  simp only [show (2 : Nat) ^ 63 = 9223372036854775808 from rfl] at p64
  have lx : x / 2 ^ j ≤ x := Nat.div_le_self _ _
  have ly : y / 2 ^ j ≤ y := Nat.div_le_self _ _
  have lp : x / 2 ^ j % 2 < 2 := Nat.mod_lt _ (by omega)
  have lq : y / 2 ^ j % 2 < 2 := Nat.mod_lt _ (by omega)
  obtain ⟨s, hs⟩ : ∃ s, s + y / 2 ^ j % 2 + cr = 2 + x / 2 ^ j % 2 := ⟨2 + x / 2 ^ j % 2 - y / 2 ^ j % 2 - cr, by omega⟩
  have st := Roads.sub_bit h1 h2 h3 hs
  have lr : s % 2 * 2 ^ j < 18446744073709551616 := by
    have : s % 2 = 0 ∨ s % 2 = 1 := by omega
    rcases this with h | h <;> rw [h] <;> omega
  have e1 : bits .and .u64 ((x : Int) / 2 ^ j) 1 = ((x / 2 ^ j % 2 : Nat) : Int) := by
    rw [← pow_cast, ← Int.natCast_ediv, bit1s _ (by omega)]
  have e2 : bits .and .u64 ((y : Int) / 2 ^ j) 1 = ((y / 2 ^ j % 2 : Nat) : Int) := by
    rw [← pow_cast, ← Int.natCast_ediv, bit1s _ (by omega)]
  have e3 : 2 + ((x / 2 ^ j % 2 : Nat) : Int) - ((y / 2 ^ j % 2 : Nat) : Int) - (cr : Int) = (s : Int) := by omega
  have e4 : bits .and .u64 (s : Int) 1 = ((s % 2 : Nat) : Int) := bit1s _ (by omega)
  have e5 : IntKind.u64.wrap (((s % 2 : Nat) : Int) * 2 ^ j) = ((s % 2 * 2 ^ j : Nat) : Int) := by
    rw [← pow_cast, ← Int.natCast_mul, IntKind.wrap_u64]
    omega
  have e6 : bits .or .u64 (wd : Int) ((s % 2 * 2 ^ j : Nat) : Int) = ((wd ||| (s % 2 * 2 ^ j) : Nat) : Int) := u64_or_nat _ _ (by omega) lr
  have e7 : (s : Int) / 2 = ((s / 2 : Nat) : Int) := by omega
  refine ⟨_, _, _, _, _, ((s / 2 : Nat) : Int), e1, e2, by rw [e3]; exact e4, e5, e6, by rw [e3]; exact e7, by omega, by omega, by omega, by omega, by omega, by omega, by omega, by omega, x, y, d, _, 1 - s / 2, rfl, rfl, rfl, rfl, by omega, by omega, st.2.1, st.2.2⟩

/-- Both have words. -/
theorem specSub_full (xs ys : List Int) (b off cap b2 off2 cap2 : Nat) (c : Int) (w : World) (hx : Ws xs) (hy : Ws ys) (h0 : 0 ≤ c) (h1 : c ≤ 1) (hr : xs.length * 8 ≤ 140737488355328) (hr2 : ys.length ≤ 9223372036854775807)
    (hb : b < w.heap.size) (hb2 : b2 < w.heap.size) (hcx : ∀ i, i < xs.length → w.cell? ⟨b, off + i, none⟩ = some (.int .u64 (xs.getD i 0))) (hcy : ∀ i, i < ys.length → w.cell? ⟨b2, off2 + i, none⟩ = some (.int .u64 (ys.getD i 0))) :
    Calls Try.prog 13 #[.slice (some ⟨b, off, none⟩) xs.length cap, .slice (some ⟨b2, off2, none⟩) ys.length cap2, .int .u64 c] w (SubWordsPost xs ys c w) := by
  obtain ⟨n, hn⟩ : ∃ n, n = xs.length := ⟨_, rfl⟩
  obtain ⟨m, hm⟩ : ∃ m, m = ys.length := ⟨_, rfl⟩
  have HX := hide hcx; clear hcx
  have HY := hide hcy; clear hcy
  have KX := hide hx; clear hx
  have KY := hide hy; clear hy
  rw [← hn, ← hm]
  rw [← hn] at hr
  rw [← hm] at hr2
  have HN := hide hn; clear hn
  have HM := hide hm; clear hm
  obtain ⟨i0, hi, hz0, hz1, hz2⟩ := info_parts info_u64s
  go_enter Try.func13, Try.ntmps13
  go_wp2
  go_loopw [2, 8, 9] (fun c' v i wr => ∃ (k : Nat) (C : Int) (zs : List Int), k ≤ min n m ∧ i = .int .i64 k ∧ c' = .int .u64 C ∧ Hid (diffK xs ys c k = (zs, C)) ∧ wr.ownsRow w.heap.size 23 1 v k (zs.map (Value.int .u64)) ∧ Below w.heap.size w wr)
    (fun _ _ i _ => n - (intOf i).toNat)
  case atStart =>
    refine ⟨0, c, [], Nat.zero_le _, rfl, rfl, rfl, ?_, (Below.refl _ _).alloc (Nat.le_refl _) _⟩
    exact World.ownsRow_made w #[] 0 (Nat.le_refl _) (by unfold maxLen; omega) rfl
  case round =>
    obtain ⟨k, C, zs, hk, rfl, rfl, hS, hown, hbel⟩ := hrel
    have cb := diffK_carry KX.out KY.out h0 h1 k
    rw [hS.out] at cb
    obtain ⟨cb0, cb1⟩ := cb
    have zl : zs.length = k := by have := diffK_length xs ys c k; rw [hS.out] at this; exact this
    have ZL := hide zl; clear zl
    by_cases hlt : k < min n m
    · have hkn : k < n := by omega
      have hkm : k < m := by omega
      obtain ⟨X, eX⟩ : ∃ X, X = xs.getD k 0 := ⟨_, rfl⟩
      obtain ⟨Y, eY⟩ : ∃ Y, Y = ys.getD k 0 := ⟨_, rfl⟩
      have X01 := KX.out k
      have Y01 := KY.out k
      rw [← eX] at X01
      rw [← eY] at Y01
      obtain ⟨X0, X1⟩ := X01
      obtain ⟨Y0, Y1⟩ := Y01
      have cx : wr.cell? ⟨b, off + k, none⟩ = some (.int .u64 X) := (hbel.cell (p := ⟨b, off + k, none⟩) hb).trans (by rw [eX]; exact HX.out k (by rw [← HN.out]; exact hkn))
      have cy : wr.cell? ⟨b2, off2 + k, none⟩ = some (.int .u64 Y) := (hbel.cell (p := ⟨b2, off2 + k, none⟩) hb2).trans (by rw [eY]; exact HY.out k (by rw [← HM.out]; exact hkm))
      have R := hide (show ∀ S O : Int, S = (X - Y - C) % 18446744073709551616 → (O = if X < Y + C then 1 else 0) → diffK xs ys c (k + 1) = (zs ++ [S], O) by intro S O eS eO; simp only [diffK, hS.out]; rw [eS, eO, eX, eY])
      clear eX eY hS
      have HB := hide hbel; clear hbel
      have HO := hide hown; clear hown
      have CX := hide cx; clear cx
      have CY := hide cy; clear cy
      have ST := hide (subAt_start X0 Y0 cb0 cb1)
      go_wp2
      go_loopw [2, 10, 11] (fun c' wd j wi => ∃ (q t : Nat) (W D : Int), q ≤ 64 ∧ j = .int .i64 q ∧ c' = .int .u64 D ∧ wd = .int .u64 W ∧ Hid (SubAt X Y C q W D) ∧ wi = wr.drewN t)
        (fun _ _ j _ => 64 - (intOf j).toNat)
      case atStart => exact ⟨0, 0, 0, C, by omega, rfl, rfl, rfl, ST.out, rfl⟩
      case round =>
        obtain ⟨q, t, W, D, hq, rfl, rfl, rfl, hA, rfl⟩ := hrel
        by_cases hq' : q < 64
        · obtain ⟨P, Q, R', T, V, O, r1, r2, r3, r4, r5, r6, P0, P1, Q0, Q1, D0, D1, O0, O1, hA'⟩ := subAt_step hq' X1 Y1 hA.out
          have HA' := hide hA'; clear hA' hA
          have cx := CX.out
          have cy := CY.out
          go_wp2
          go_quiet (fail)
          go_wp2
          go_roundw
          case rel => exact ⟨q + 1, _, V, 1 - O, by omega, by go_num, rfl, rfl, HA'.out, rfl⟩
          case measure => simp [intOf]; omega
        · obtain rfl : q = 64 := by omega
          obtain ⟨eS, eO⟩ := subAt_end X1 Y1 hA.out
          have R' := hide (R.out _ _ eS eO)
          clear eS eO R hA
          go_wp2_with (at_builtin; refine wpList_append_own _ rfl _ _ 22 rfl w.heap.size 23 i0 (.int .u64 0) 1 8 Try.underlying22 hi hz0 hz1 hz2 rfl (by decide) _ _ _ rfl (by exact HO.out.alloc _) ⟨wr.heap.size, 0, none⟩ 1 1 [.int .u64 W] rfl rfl ?c1 ?c2 ?c3 ?c4 ?c5 ?_)
          case c1 =>
            intro j u hj
            match j, hj with
            | 0, hj => simp at hj; subst hj; exact new_cell _ _ _ _
          case c2 => intro u hu; simp at hu; subst hu; rfl
          case c3 => unfold maxLen; omega
          case c4 => omega
          case c5 => have := HB.out.size; simp; omega
          · intro v' w1 hown' hgrow _
            have HB' := hide (append_below HB.out HO.out hgrow)
            have HO' := hide hown'
            clear hown' hgrow HB HO
            go_wp2
            go_roundw
            case rel => exact ⟨k + 1, D, zs ++ [W], by omega, by go_num, rfl, R', by rw [List.map_append]; exact HO'.out, HB'.out⟩
            case measure => simp [intOf]; omega
    · have hmin : k = min n m := by omega
      have E : diffK xs ys c (min xs.length ys.length) = (zs, C) := by rw [← HN.out, ← HM.out, ← hmin]; exact hS.out
      have HE := hide E
      have HR := hide (row_of_owns hown)
      have HB := hide hbel
      clear E hown hbel hS hmin
      by_cases hkn : k < n
      · have hkm : ¬ k < m := by omega
        go_wp2
        go_ret2
        exact ⟨_, by rw [HE.out]; rfl, by rw [HE.out]; exact HR.out, HB.out⟩
      · go_wp2
        go_ret2
        exact ⟨_, by rw [HE.out]; rfl, by rw [HE.out]; exact HR.out, HB.out⟩

/-- One of both has none. -/
theorem specSub_none (xs ys : List Int) (a a2 : Option Addr) (cap cap2 : Nat) (c : Int) (w : World) (h : xs.length = 0 ∨ ys.length = 0) (hr : xs.length ≤ 9223372036854775807) (hr2 : ys.length ≤ 9223372036854775807) :
    Calls Try.prog 13 #[.slice a xs.length cap, .slice a2 ys.length cap2, .int .u64 c] w (SubWordsPost xs ys c w) := by
  have hm : min xs.length ys.length = 0 := by omega
  have HM := hide hm; clear hm
  obtain ⟨n, hn⟩ : ∃ n, n = xs.length := ⟨_, rfl⟩
  obtain ⟨m, hm⟩ : ∃ m, m = ys.length := ⟨_, rfl⟩
  rw [← hn, ← hm]
  rw [← hn] at hr h
  rw [← hm] at hr2 h
  have HN := hide hn; clear hn
  have HM2 := hide hm; clear hm
  have fin : SubWordsPost xs ys c w (.returned (.tuple #[.slice (some ⟨w.heap.size, 0, none⟩) 0 0, .int .u64 c])) (w.alloc (.cells #[] 23)) :=
    ⟨_, by rw [HM.out]; rfl, by rw [HM.out]; exact ⟨_, 0, rfl, fun h => absurd rfl h⟩, (Below.refl _ _).alloc (Nat.le_refl _) _⟩
  have F := hide fin; clear fin
  by_cases hn0 : n = 0
  · subst hn0
    go_enter Try.func13, Try.ntmps13
    go_wp2
    refine wp_loop_rounds 1 ?_
    rw [rounds_succ]
    go_wp2
    go_ret2
    exact F.out
  · obtain rfl : m = 0 := by omega
    have hp : 0 < n := by omega
    go_enter Try.func13, Try.ntmps13
    go_wp2
    refine wp_loop_rounds 1 ?_
    rw [rounds_succ]
    go_wp2
    go_ret2
    exact F.out

theorem specSub (xs ys : List Int) (v v2 : Value) (c : Int) (w : World) (hx : Ws xs) (hy : Ws ys) (h0 : 0 ≤ c) (h1 : c ≤ 1) (hr : xs.length * 8 ≤ 140737488355328) (hr2 : ys.length ≤ 9223372036854775807) (rx : Row w v xs) (ry : Row w v2 ys) :
    Calls Try.prog 13 #[v, v2, .int .u64 c] w (SubWordsPost xs ys c w) := by
  obtain ⟨a, cap, rfl, hcx⟩ := rx
  obtain ⟨a2, cap2, rfl, hcy⟩ := ry
  by_cases hz : xs.length = 0 ∨ ys.length = 0
  · exact specSub_none xs ys a a2 cap cap2 c w hz (by omega) hr2
  · obtain ⟨b, off, rfl, hb, hcx⟩ := hcx (fun h => hz (Or.inl (by rw [h]; rfl)))
    obtain ⟨b2, off2, rfl, hb2, hcy⟩ := hcy (fun h => hz (Or.inr (by rw [h]; rfl)))
    exact specSub_full xs ys b off cap b2 off2 cap2 c w hx hy h0 h1 hr hr2 hb hb2 hcx hcy
end Go.Proofs.Ytaiepmcjnnoioaa
