/-
  What spec.MulWords returns: the upper halves of the products, and the lower ones.
-/
import Derived.Test.YtaiepmcjnnoioaaMulWords
import Derived.Test.YtaiepmcjnnoioaaPlainExact
namespace Go.Proofs.Ytaiepmcjnnoioaa
open Go.RowKit
set_option linter.unusedVariables false

/-- What holds when the lowest q bits of Y are still to be used. -/
def MulAt (X Y : Int) (q : Nat) (HI LO : Int) : Prop := ∃ x y hi lo : Nat, X = x ∧ Y = y ∧ HI = hi ∧ LO = lo ∧ lo < 18446744073709551616 ∧ hi * 18446744073709551616 + lo = y / 2 ^ q * x

theorem mulAt_start {X Y : Int} (hX : 0 ≤ X) (hY : 0 ≤ Y) (hY' : Y < 18446744073709551616) : MulAt X Y 64 0 0 := by
  obtain ⟨x, rfl⟩ := Int.eq_ofNat_of_zero_le hX
  obtain ⟨y, rfl⟩ := Int.eq_ofNat_of_zero_le hY
  refine ⟨x, y, 0, 0, rfl, rfl, rfl, rfl, by omega, ?_⟩
  rw [Nat.div_eq_of_lt (by simp only [show (2 : Nat) ^ 64 = 18446744073709551616 from rfl]; omega)]
  simp
theorem mulAt_end {X Y HI LO : Int} (h : MulAt X Y 0 HI LO) : HI = X * Y / 18446744073709551616 ∧ LO = X * Y % 18446744073709551616 := by
  obtain ⟨x, y, hi, lo, rfl, rfl, rfl, rfl, h1, h2⟩ := h
  rw [Nat.pow_zero, Nat.div_one, Nat.mul_comm y x] at h2
  rw [← Int.natCast_mul, ← h2]
  omega
theorem bit1m (a : Nat) (h : a < 18446744073709551616) : bits .and .u64 (a : Int) 1 = ((a % 2 : Nat) : Int) := by
  rw [show (1 : Int) = ((1 : Nat) : Int) from rfl, u64_and_nat a 1 h (by omega), nat_mask1]
/-- One bit further, as the code reckons it. -/
theorem mulAt_step {X Y HI LO : Int} {p : Nat} (hX : X < 18446744073709551616) (hY : Y < 18446744073709551616) (h : MulAt X Y (p + 1) HI LO) :
    ∃ H2 S H L P : Int, IntKind.u64.wrap (HI * 2) = H2 ∧ LO / 9223372036854775808 = S ∧ bits .or .u64 H2 S = H ∧ IntKind.u64.wrap (LO * 2) = L ∧ bits .and .u64 (Y / 2 ^ p) 1 = P ∧ 0 ≤ H ∧ H < 18446744073709551616 ∧ 0 ≤ L ∧ L < 18446744073709551616 ∧
      ((P = 0 ∧ MulAt X Y p H L) ∨ (P = 1 ∧ ∃ N, IntKind.u64.wrap (L + X) = N ∧ ((N < L ∧ H + 1 < 18446744073709551616 ∧ MulAt X Y p (H + 1) N) ∨ (L ≤ N ∧ MulAt X Y p H N)))) := by
  obtain ⟨x, y, hi, lo, rfl, rfl, rfl, rfl, h1, h2⟩ := h
  have hx : x < 18446744073709551616 := by omega
  have hy : y < 18446744073709551616 := by omega
  obtain ⟨m1, m2, m3, m4, m5⟩ := Roads.mul_bit hx hy h1 h2
  have e1 : IntKind.u64.wrap ((hi : Int) * 2) = ((hi * 2 % 18446744073709551616 : Nat) : Int) := by rw [IntKind.wrap_u64]; omega
  have e2 : (lo : Int) / 9223372036854775808 = ((lo / 9223372036854775808 : Nat) : Int) := by omega
  have e3 : bits .or .u64 ((hi * 2 % 18446744073709551616 : Nat) : Int) ((lo / 9223372036854775808 : Nat) : Int) = ((hi * 2 + lo / 9223372036854775808 : Nat) : Int) := by
    rw [u64_or_nat _ _ (by omega) (by omega), m2]
  have e4 : IntKind.u64.wrap ((lo : Int) * 2) = ((lo * 2 % 18446744073709551616 : Nat) : Int) := by rw [IntKind.wrap_u64]; omega
  have ly : y / 2 ^ p ≤ y := Nat.div_le_self _ _
  have e5 : bits .and .u64 ((y : Int) / 2 ^ p) 1 = ((y / 2 ^ p % 2 : Nat) : Int) := by
    rw [← pow_cast, ← Int.natCast_ediv, bit1m _ (by omega)]
  refine ⟨_, _, _, _, _, e1, e2, e3, e4, e5, by omega, by omega, by omega, by omega, ?_⟩
  have hL : lo * 2 % 18446744073709551616 < 18446744073709551616 := by omega
  clear e1 e2 e3 e4 e5 m1 m2 h1 h2 ly
  generalize lo * 2 % 18446744073709551616 = L at *
  generalize hi * 2 + lo / 9223372036854775808 = H at *
  have hb : y / 2 ^ p % 2 = 0 ∨ y / 2 ^ p % 2 = 1 := by omega
  rcases hb with hb | hb
  · rw [hb, Nat.zero_mul, Nat.add_zero] at m4
    exact Or.inl ⟨by rw [hb]; rfl, x, y, H, L, rfl, rfl, rfl, rfl, hL, m4⟩
  · rw [hb, Nat.one_mul] at m4
    refine Or.inr ⟨by rw [hb]; rfl, ((L + x) % 18446744073709551616 : Nat), by rw [IntKind.wrap_u64]; omega, ?_⟩
    by_cases hc : L + x < 18446744073709551616
    · refine Or.inr ⟨by omega, x, y, H, (L + x) % 18446744073709551616, rfl, rfl, rfl, rfl, by omega, ?_⟩
      rw [← m4, Nat.mod_eq_of_lt hc, Nat.add_assoc]
    · refine Or.inl ⟨by omega, by omega, x, y, H + 1, (L + x) % 18446744073709551616, rfl, rfl, rfl, rfl, by omega, ?_⟩
      clear m5 m3 hb hx hy
      rw [← m4]
      omega

theorem specMul_full (xs : List Int) (b off cap : Nat) (y : Int) (w : World) (hx : Ws xs) (h0 : 0 ≤ y) (h1 : y < 18446744073709551616) (hr : xs.length * 8 ≤ 140737488355328)
    (hb : b < w.heap.size) (hcx : ∀ i, i < xs.length → w.cell? ⟨b, off + i, none⟩ = some (.int .u64 (xs.getD i 0))) :
    Calls Try.prog 18 #[.slice (some ⟨b, off, none⟩) xs.length cap, .int .u64 y] w (MulWordsPost xs y w) := by
  obtain ⟨n, hn⟩ : ∃ n, n = xs.length := ⟨_, rfl⟩
  have HX := hide hcx; clear hcx
  have KX := hide hx; clear hx
  rw [← hn]
  rw [← hn] at hr
  have HN := hide hn; clear hn
  obtain ⟨i0, hi, hz0, hz1, hz2⟩ := info_parts info_u64m
  go_enter Try.func18, Try.ntmps18
  go_wp2
  go_loopw [6, 7, 8] (fun vh vl i wr => ∃ (k : Nat) (hs ls : List Int), k ≤ n ∧ i = .int .i64 k ∧ Hid (hs = his (xs.take k) y ∧ ls = los (xs.take k) y) ∧ wr.ownsRow w.heap.size 23 1 vh k (hs.map (Value.int .u64)) ∧ wr.ownsRow w.heap.size 23 1 vl k (ls.map (Value.int .u64)) ∧ Hid (vh.ownBlock ≠ vl.ownBlock) ∧ Below w.heap.size w wr)
    (fun _ _ i _ => n - (intOf i).toNat)
  case atStart =>
    refine ⟨0, [], [], Nat.zero_le _, rfl, ⟨rfl, rfl⟩, ?_, ?_, ?_, ((Below.refl _ _).alloc (Nat.le_refl _) _).alloc ?_ _⟩
    · exact (World.ownsRow_made w #[] 0 (Nat.le_refl _) (by unfold maxLen; omega) rfl).alloc _
    · have q : ((w.alloc (.cells #[] 23)).alloc (.cells #[] 23)).ownsRow w.heap.size 23 1 (.slice (some ⟨(w.alloc (.cells #[] 23)).heap.size, 0, none⟩) 0 0) 0 [] := World.ownsRow_made (w.alloc (.cells #[] 23)) #[] 0 (by simp) (by unfold maxLen; omega) rfl
      simpa using q
    · intro h
      simp [Value.ownBlock] at h
    · simp
  case round =>
    obtain ⟨k, hs, ls, hk, rfl, hS, hoh, hol, hne, hbel⟩ := hrel
    by_cases hlt : k < n
    · obtain ⟨X, eX⟩ : ∃ X, X = xs.getD k 0 := ⟨_, rfl⟩
      have X01 := KX.out k
      rw [← eX] at X01
      obtain ⟨X0, X1⟩ := X01
      have cx : wr.cell? ⟨b, off + k, none⟩ = some (.int .u64 X) := (hbel.cell (p := ⟨b, off + k, none⟩) hb).trans (by rw [eX]; exact HX.out k (by rw [← HN.out]; exact hlt))
      have EX := hide eX; clear eX
      have HB := hide hbel; clear hbel
      have OH := hide hoh; clear hoh
      have OL := hide hol; clear hol
      have CX := hide cx; clear cx
      have ST := hide (mulAt_start X0 h0 h1)
      go_wp2
      go_loop [9, 10, 11] (fun h l j => ∃ (B H L : Int), -1 ≤ B ∧ B ≤ 63 ∧ h = .int .u64 H ∧ l = .int .u64 L ∧ j = .int .i64 B ∧ Hid (MulAt X y (B + 1).toNat H L)) (fun _ _ j => (intOf j + 1).toNat)
      case atStart => exact ⟨63, 0, 0, by omega, by omega, rfl, rfl, rfl, ST.out⟩
      case round =>
        obtain ⟨B, H, L, B0, B1, rfl, rfl, rfl, hM⟩ := hrel
        by_cases hB : 0 ≤ B
        · obtain ⟨p, rfl⟩ := Int.eq_ofNat_of_zero_le hB
          obtain ⟨H2, S, H', L', P, r1, r2, r3, r4, r5, H0, H1, L0, L1, way⟩ := mulAt_step X1 h1 hM.out
          have cx := CX.out
          clear hM
          rcases way with ⟨rfl, hA⟩ | ⟨rfl, N, r6, ⟨lt, nb, hA⟩ | ⟨ge, hA⟩⟩
          · have HA := hide hA; clear hA
            go_wp2
            go_round
            case rel => exact ⟨(p : Int) - 1, _, _, by omega, by omega, rfl, rfl, by go_num, by show MulAt X y _ _ _; have := HA.out; simpa using this⟩
            case measure => simp [intOf]
          · have HA := hide hA; clear hA
            go_wp2
            go_round
            case rel => exact ⟨(p : Int) - 1, _, _, by omega, by omega, rfl, rfl, by go_num, by show MulAt X y _ _ _; have := HA.out; simpa using this⟩
            case measure => simp [intOf]
          · have HA := hide hA; clear hA
            go_wp2
            go_round
            case rel => exact ⟨(p : Int) - 1, _, _, by omega, by omega, rfl, rfl, by go_num, by show MulAt X y _ _ _; have := HA.out; simpa using this⟩
            case measure => simp [intOf]
        · obtain rfl : B = -1 := by omega
          obtain ⟨e1', e2'⟩ := mulAt_end hM.out
          have R : Hid (hs ++ [H] = his (xs.take (k + 1)) y ∧ ls ++ [L] = los (xs.take (k + 1)) y) := by
            obtain ⟨e1, e2⟩ := hS.out
            have l : k < xs.length := by rw [← HN.out]; exact hlt
            unfold his los at *
            rw [take_succ_map l, take_succ_map l, ← e1, ← e2, ← EX.out, ← e1', ← e2']
            exact ⟨rfl, rfl⟩
          clear hS e1' e2' hM
          go_wp2_with (at_builtin; refine wpList_append_own_at _ rfl (.tmp 49) (.tmp 51) 22 rfl w.heap.size 23 i0 (.int .u64 0) 1 8 Try.underlying22 hi hz0 hz1 hz2 rfl (by decide) _ _ _ rfl (by exact OH.out.alloc _) ⟨wr.heap.size, 0, none⟩ 1 1 [.int .u64 H] rfl rfl ?c1 ?c2 ?c3 ?c4 ?c5 ?_)
          try (case c1 => exact cell_one_new _ _ _)
          case c2 => first | rfl | (intro u hu; simp at hu; subst hu; rfl)
          case c3 => unfold maxLen; omega
          case c4 => omega
          case c5 => have := HB.out.size; simp; omega
          · intro v' w1 hown' hgrow _ hat
            obtain ⟨hol', hne'⟩ := two_rows OH.out OL.out hne.out hgrow hat
            have HB' := hide (append_below0 HB.out OH.out hgrow)
            have OH' := hide hown'
            have OL' := hide hol'
            have NE' := hide hne'
            clear hown' hgrow hat HB OH OL hne hol' hne'
            go_wp2_with (at_builtin; refine wpList_append_own_at _ rfl (.tmp 53) (.tmp 55) 22 rfl w.heap.size 23 i0 (.int .u64 0) 1 8 Try.underlying22 hi hz0 hz1 hz2 rfl (by decide) _ _ _ rfl (by exact OL'.out.alloc _) ⟨w1.heap.size, 0, none⟩ 1 1 [.int .u64 L] rfl rfl ?d1 ?d2 ?d3 ?d4 ?d5 ?_)
            try (case d1 => exact cell_one_new _ _ _)
            case d2 => first | rfl | (intro u hu; simp at hu; subst hu; rfl)
            case d3 => unfold maxLen; omega
            case d4 => omega
            case d5 => have := HB'.out.size; simp; omega
            · intro v2 w2 hown2 hgrow2 _ hat2
              obtain ⟨hoh2, hne2⟩ := two_rows OL'.out OH'.out NE'.out.symm hgrow2 hat2
              have HB2 := hide (append_below0 HB'.out OL'.out hgrow2)
              have OL2 := hide hown2
              have OH2 := hide hoh2
              have NE2 := hide hne2
              clear hown2 hgrow2 hat2 HB' OH' OL' NE' hoh2 hne2
              go_wp2
              go_roundw
              case rel => exact ⟨k + 1, hs ++ [H], ls ++ [L], by omega, by go_num, R, by rw [List.map_append]; exact OH2.out, by rw [List.map_append]; exact OL2.out, NE2.out.symm, HB2.out⟩
              case measure => simp [intOf]; omega
    · have hkn : k = n := by omega
      have E : hs = his xs y ∧ ls = los xs y := by
        have := hS.out
        rw [hkn, HN.out, List.take_length] at this
        exact this
      have HE := hide E
      have HR := hide (row_of_owns hoh)
      have HL := hide (row_of_owns hol)
      have HB := hide hbel
      clear E hoh hol hbel hS hkn hne
      go_wp2
      go_ret2
      exact ⟨_, _, rfl, by rw [← HE.out.1]; exact HR.out, by rw [← HE.out.2]; exact HL.out, HB.out⟩

theorem specMul_none (a : Option Addr) (cap : Nat) (y : Int) (w : World) :
    Calls Try.prog 18 #[.slice a 0 cap, .int .u64 y] w (MulWordsPost [] y w) := by
  have fin : MulWordsPost [] y w (.returned (.tuple #[.slice (some ⟨w.heap.size, 0, none⟩) 0 0, .slice (some ⟨w.heap.size + 1, 0, none⟩) 0 0])) ((w.alloc (.cells #[] 23)).alloc (.cells #[] 23)) := by
    refine ⟨_, _, rfl, ⟨_, 0, rfl, fun h => absurd rfl h⟩, ⟨_, 0, rfl, fun h => absurd rfl h⟩, ((Below.refl _ _).alloc (Nat.le_refl _) _).alloc ?_ _⟩
    simp
  have F := hide fin; clear fin
  go_enter Try.func18, Try.ntmps18
  go_wp2
  refine wp_loop_rounds 1 ?_
  rw [rounds_succ]
  go_wp2
  go_ret2
  exact F.out

theorem specMul (xs : List Int) (v : Value) (y : Int) (w : World) (hx : Ws xs) (h0 : 0 ≤ y) (h1 : y < 18446744073709551616) (hr : xs.length * 8 ≤ 140737488355328) (rx : Row w v xs) :
    Calls Try.prog 18 #[v, .int .u64 y] w (MulWordsPost xs y w) := by
  obtain ⟨a, cap, rfl, hcx⟩ := rx
  by_cases hz : xs = []
  · subst hz; exact specMul_none a cap y w
  · obtain ⟨b, off, rfl, hb, hcx⟩ := hcx hz
    exact specMul_full xs b off cap y w hx h0 h1 hr hb hcx
end Go.Proofs.Ytaiepmcjnnoioaa
