/-
  For all words a, b, c and d, laws.FnKaratsuba returns true. The walk.
-/
import Derived.Test.YtaiepmcjnnoioaaNums
import Derived.Test.YtaiepmcjnnoioaaMulWords
import Derived.Test.YtaiepmcjnnoioaaMul64
import Derived.Test.YtaiepmcjnnoioaaAdd64
import Derived.Deep.RegionHeld3
import Derived.Deep.DeepCutAuto
import Derived.WalkKit
import Derived.ProofKit
import Derived.OpenShut
namespace Go.Proofs.Ytaiepmcjnnoioaa.fnKaratsuba
open Go.ChangeShapes Go.WideShapes Go.ChangeAt Go.RowKit
set_option linter.unusedVariables false

theorem ws2 {a b : Int} (ha : Wd a) (hb : Wd b) : Ws [a, b] := by
  intro i
  match i with
  | 0 => exact ha
  | 1 => exact hb
  | i + 2 => simp
theorem his2 {x y d h0 h1 : Int} (e0 : x * d / 18446744073709551616 = h0) (e1 : y * d / 18446744073709551616 = h1) : his [x, y] d = [h0, h1] := by simp [his, e0, e1]
theorem los2 {x y d h0 h1 : Int} (e0 : x * d % 18446744073709551616 = h0) (e1 : y * d % 18446744073709551616 = h1) : los [x, y] d = [h0, h1] := by simp [los, e0, e1]

set_option maxHeartbeats 2000000 in
set_option maxRecDepth 10000 in
theorem walk_at (a b c d : Int) {w : World} (ha : Hid (Wd a)) (hb : Hid (Wd b)) (hc : Hid (Wd c)) (hd : Hid (Wd d)) :
    Calls Try.prog 11 #[.int .u64 a, .int .u64 b, .int .u64 c, .int .u64 d] w fun e w' => e = .returned (.bool true) ∧ Below w.heap.size w w' := by
  obtain ⟨g0, l0, i0, j0, wg0, wl0, p0⟩ := mul_word hb.out hd.out
  obtain ⟨g1, l1, i1, j1, wg1, wl1, p1⟩ := mul_word ha.out hd.out
  obtain ⟨g2, l2, i2, j2, wg2, wl2, p2⟩ := mul_word hb.out hc.out
  obtain ⟨g3, l3, i3, j3, wg3, wl3, p3⟩ := mul_word ha.out hc.out
  have IH := hide (his2 i0 i1); have IL := hide (los2 j0 j1); have IH' := hide (his2 i2 i3); have IL' := hide (los2 j2 j3)
  clear i0 i1 i2 i3 j0 j1 j2 j3
  have WG0 := hide wg0; have WG1 := hide wg1; have WG2 := hide wg2; have WG3 := hide wg3
  have WL0 := hide wl0; have WL1 := hide wl1; have WL2 := hide wl2; have WL3 := hide wl3
  have P0 := hide p0; have P1 := hide p1; have P2 := hide p2; have P3 := hide p3
  clear wg0 wg1 wg2 wg3 wl0 wl1 wl2 wl3 p0 p1 p2 p3
  obtain ⟨kv1, kv2, kv3, kv4⟩ := kara_val ha.out hb.out hc.out hd.out P0.out P1.out P2.out P3.out
  have HV := hide kv1; have HVL := hide kv2; have HL1 := hide kv3; have HL2 := hide kv4
  clear kv1 kv2 kv3 kv4
  go_enter Try.func11, Try.ntmps11
  go_wp2_with fail
  refine (mulWords [b, a] _ _ _ (ws2 hb.out ha.out) hd.out.1 hd.out.2 (by simp) (row_made w [b, a] _ rfl 2 rfl)).mono ?_
  rintro e w1 ⟨vh, vl, rfl, rh, rl, hb1⟩
  rw [IH.out] at rh
  rw [IL.out] at rl
  obtain ⟨kh, oh, ch, rfl, hkh, c1, c2⟩ := cells2 rh
  obtain ⟨kl, ol, cl, rfl, hkl, c3, c4⟩ := cells2 rl
  have RX := hide ((row_made w [b, a] _ rfl 2 rfl).mono hb1)
  have HB1 := hide (((Below.refl w.heap.size w).alloc (Nat.le_refl _) _).trans (hb1.mono (by simp)))
  clear rh rl hb1
  go_upto_region 5 with fail
  go_cut [12, 13] (fun s12 s13 wc => ∃ r, s12 = r ∧ s13 = .int .u64 0 ∧ Num4 wc r (v4 l0 l1 0 0 + v4 0 g0 g1 0) ∧ Below w1.heap.size w1 wc)
  case first =>
    go_region_held3 (fun w' => w'.cell? ⟨kh, oh, none⟩ = some (.int .u64 g0) ∧ w'.cell? ⟨kh, oh + 1, none⟩ = some (.int .u64 g1) ∧ w'.cell? ⟨kl, ol, none⟩ = some (.int .u64 l0) ∧ w'.cell? ⟨kl, ol + 1, none⟩ = some (.int .u64 l1)) (go_keep)
      (first
        | (go_at_call 15; with_reducible refine (addTwo w1 WL0.out WL1.out wd0 wd0 wd0 WG0.out WG1.out wd0 HL1.out).mono ?_; rintro e w' ⟨r, rfl, hr, hbb⟩; have d1 := (hbb.cell (p := ⟨kh, oh, none⟩) hkh).trans c1; have d2 := (hbb.cell (p := ⟨kh, oh + 1, none⟩) hkh).trans c2; have d3 := (hbb.cell (p := ⟨kl, ol, none⟩) hkl).trans c3; have d4 := (hbb.cell (p := ⟨kl, ol + 1, none⟩) hkl).trans c4; have HR := hide hr; have HBB := hide hbb; clear hr hbb)
        | (go_at_call 15; with_reducible refine (addTwo' w1 WL0.out WL1.out wd0 wd0 wd0 WG0.out WG1.out wd0 HL1.out).mono ?_; rintro e w' ⟨r, rfl, hr, hbb⟩; have d1 := (hbb.cell (p := ⟨kh, oh, none⟩) hkh).trans c1; have d2 := (hbb.cell (p := ⟨kh, oh + 1, none⟩) hkh).trans c2; have d3 := (hbb.cell (p := ⟨kl, ol, none⟩) hkl).trans c3; have d4 := (hbb.cell (p := ⟨kl, ol + 1, none⟩) hkl).trans c4; have HR := hide hr; have HBB := hide hbb; clear hr hbb))
    all_goals (go_wp2_with fail; go_meet; exact ⟨_, rfl, rfl, HR.out, HBB.out⟩)
  case rest =>
  obtain ⟨r, rfl, rfl, hlow, hb2⟩ := hcut
  have RX2 := hide (RX.out.mono hb2)
  have LOW := hide hlow
  have HB2 := hide (HB1.out.trans (hb2.mono HB1.out.size))
  clear hlow hb2 c1 c2 c3 c4 hkh hkl HB1 RX HL1
  go_wp2_with fail
  refine (mulWords [b, a] _ _ _ (ws2 hb.out ha.out) hc.out.1 hc.out.2 (by simp) RX2.out).mono ?_
  rintro e w2 ⟨vh, vl, rfl, rh, rl, hb3⟩
  rw [IH'.out] at rh
  rw [IL'.out] at rl
  obtain ⟨kh2, oh2, ch2, rfl, hkh, c1, c2⟩ := cells2 rh
  obtain ⟨kl2, ol2, cl2, rfl, hkl, c3, c4⟩ := cells2 rl
  have LOW2 := hide (LOW.out.mono hb3)
  have HB3 := hide (HB2.out.trans (hb3.mono HB2.out.size))
  clear rh rl hb3 HB2 LOW RX2
  go_upto_region 7 with fail
  go_cut [14, 15] (fun s14 s15 wc => ∃ r, s14 = r ∧ s15 = .int .u64 0 ∧ Num4 wc r (v4 0 l2 l3 0 + v4 0 0 g2 g3) ∧ Below w2.heap.size w2 wc)
  case first =>
    go_region_held3 (fun w' => w'.cell? ⟨kh2, oh2, none⟩ = some (.int .u64 g2) ∧ w'.cell? ⟨kh2, oh2 + 1, none⟩ = some (.int .u64 g3) ∧ w'.cell? ⟨kl2, ol2, none⟩ = some (.int .u64 l2) ∧ w'.cell? ⟨kl2, ol2 + 1, none⟩ = some (.int .u64 l3)) (go_keep)
      (first
        | (go_at_call 15; with_reducible refine (addTwo w2 wd0 WL2.out WL3.out wd0 wd0 wd0 WG2.out WG3.out HL2.out).mono ?_; rintro e w' ⟨r, rfl, hr, hbb⟩; have d1 := (hbb.cell (p := ⟨kh2, oh2, none⟩) hkh).trans c1; have d2 := (hbb.cell (p := ⟨kh2, oh2 + 1, none⟩) hkh).trans c2; have d3 := (hbb.cell (p := ⟨kl2, ol2, none⟩) hkl).trans c3; have d4 := (hbb.cell (p := ⟨kl2, ol2 + 1, none⟩) hkl).trans c4; have HR := hide hr; have HBB := hide hbb; clear hr hbb)
        | (go_at_call 15; with_reducible refine (addTwo' w2 wd0 WL2.out WL3.out wd0 wd0 wd0 WG2.out WG3.out HL2.out).mono ?_; rintro e w' ⟨r, rfl, hr, hbb⟩; have d1 := (hbb.cell (p := ⟨kh2, oh2, none⟩) hkh).trans c1; have d2 := (hbb.cell (p := ⟨kh2, oh2 + 1, none⟩) hkh).trans c2; have d3 := (hbb.cell (p := ⟨kl2, ol2, none⟩) hkl).trans c3; have d4 := (hbb.cell (p := ⟨kl2, ol2 + 1, none⟩) hkl).trans c4; have HR := hide hr; have HBB := hide hbb; clear hr hbb))
    all_goals (go_wp2_with fail; go_meet; exact ⟨_, rfl, rfl, HR.out, HBB.out⟩)
  case rest =>
  obtain ⟨r, rfl, rfl, hhigh, hb2⟩ := hcut
  have LOW3 := hide (LOW2.out.mono hb2)
  have HIGH := hide hhigh
  have HB4 := hide (HB3.out.trans (hb2.mono HB3.out.size))
  clear hhigh hb2 c1 c2 c3 c4 hkh hkl HB3 LOW2 HL2
  go_wp2_with fail
  refine (addN4 _ LOW3.out HIGH.out HVL.out).mono ?_
  rintro e w3 ⟨va, rfl, hall, hb5⟩
  have ALL := hide hall
  have HB5 := hide (HB4.out.trans (hb5.mono HB4.out.size))
  clear hall hb5 HB4 LOW3 HIGH
  go_wp2_with fail
  refine (mul64 _ _ _ hb.out.1 hb.out.2 hd.out.1 hd.out.2).mono ?_
  rintro e w' ⟨x0, y0, rfl, rfl, xa0, xb0, ya0, yb0, e0⟩
  have E0 := hide e0; clear e0
  go_wp2_with fail
  refine (mul64 _ _ _ ha.out.1 ha.out.2 hc.out.1 hc.out.2).mono ?_
  rintro e w' ⟨x2, y2, rfl, rfl, xa2, xb2, ya2, yb2, e2⟩
  have E2 := hide e2; clear e2
  go_wp2_with fail
  refine (add64 _ _ _ _ ha.out.1 ha.out.2 hb.out.1 hb.out.2 (by omega) (by omega)).mono ?_
  rintro e w' ⟨s, cs, rfl, rfl, s0, s1, cs0, cs1, es⟩
  rw [Int.add_zero] at es
  have ES := hide es; clear es
  go_wp2_with fail
  refine (add64 _ _ _ _ hc.out.1 hc.out.2 hd.out.1 hd.out.2 (by omega) (by omega)).mono ?_
  rintro e w' ⟨t, ct, rfl, rfl, t0, t1, ct0, ct1, et⟩
  rw [Int.add_zero] at et
  have ET := hide et; clear et
  go_wp2_with fail
  refine (mul64 _ _ _ s0 s1 t0 t1).mono ?_
  rintro e w' ⟨x1, y1, rfl, rfl, xa1, xb1, ya1, yb1, e1⟩
  obtain ⟨k1, k2, k3, k4, k5, k6, k7, k8, k9, k10, k11, k12⟩ := kara_steps ha.out hb.out hc.out hd.out ⟨s0, s1⟩ ⟨t0, t1⟩ cs0 cs1 ct0 ct1 ES.out ET.out e1 E0.out E2.out
  have K1 := hide k1; have K2 := hide k2; have K3 := hide k3; have K6 := hide k6; have K7 := hide k7; have K8 := hide k8; have K9 := hide k9; have K10 := hide k10; have K11 := hide k11; have K12 := hide k12
  clear e1 k1 k2 k3 k6 k7 k8 k9 k10 k11 k12
  have WX0 := hide (show Wd x0 from ⟨xa0, xb0⟩); have WY0 := hide (show Wd y0 from ⟨ya0, yb0⟩); have WX1 := hide (show Wd x1 from ⟨xa1, xb1⟩); have WY1 := hide (show Wd y1 from ⟨ya1, yb1⟩); have WX2 := hide (show Wd x2 from ⟨xa2, xb2⟩); have WY2 := hide (show Wd y2 from ⟨ya2, yb2⟩); have WS := hide (show Wd s from ⟨s0, s1⟩); have WT := hide (show Wd t from ⟨t0, t1⟩)
  clear xa0 xb0 ya0 yb0 xa1 xb1 ya1 yb1 xa2 xb2 ya2 yb2
  have VT : Hid (v3 0 t 0 = 18446744073709551616 * t) := by show v3 0 t 0 = _; unfold v3; omega
  have VS : Hid (v3 0 s 0 = 18446744073709551616 * s) := by show v3 0 s 0 = _; unfold v3; omega
  have MID0 := hide (num3_new w3 (k := w3.heap.size) rfl WY1.out WX1.out wd0 K1.out)
  have ALL1 := hide (ALL.out.mono ((Below.refl _ _).alloc (Nat.le_refl _) (.cells #[.int .u64 y1, .int .u64 x1, .int .u64 0] 23)))
  have HB6 := hide (HB5.out.alloc HB5.out.size (.cells #[.int .u64 y1, .int .u64 x1, .int .u64 0] 23))
  clear ALL HB5
  go_upto_if 130 with fail
  go_cut [28] (fun s28 wc => Num3 wc s28 (s * t + cs * (18446744073709551616 * t)) ∧ Num4 wc va (v4 l0 l1 0 0 + v4 0 g0 g1 0 + (v4 0 l2 l3 0 + v4 0 0 g2 g3)) ∧ Below w.heap.size w wc)
  case first =>
    by_cases h1 : cs = 1
    · subst h1
      go_wp2_with fail
      refine (addN3 _ (MID0.out.mono ((Below.refl _ _).alloc (Nat.le_refl _) _)) (num3_new _ (by simp) wd0 WT.out wd0 VT.out) (by have := K2.out; have := K3.out; have := t1; omega)).mono ?_
      rintro e w4 ⟨m, rfl, hm, hb7⟩
      have M := hide hm
      have ALL2 := hide ((ALL1.out.mono ((Below.refl _ _).alloc (Nat.le_refl _) _)).mono hb7)
      have HB7 := hide ((HB6.out.alloc HB6.out.size _).trans (hb7.mono (HB6.out.alloc HB6.out.size _).size))
      clear hm hb7
      go_wp2_with fail
      go_meet
      exact ⟨by rw [Int.one_mul]; exact M.out, ALL2.out, HB7.out⟩
    · obtain rfl : cs = 0 := by omega
      go_wp2_with fail
      go_meet
      exact ⟨by rw [Int.zero_mul, Int.add_zero]; exact MID0.out, ALL1.out, HB6.out⟩
  case rest =>
  obtain ⟨hm, hall, hb7⟩ := hcut
  have MID1 := hide hm; have ALL2 := hide hall; have HB7 := hide hb7
  clear hm hall hb7 MID0 ALL1 HB6
  go_upto_if 139 with fail
  go_cut [28] (fun s28 wc => Num3 wc s28 (s * t + cs * (18446744073709551616 * t) + ct * (18446744073709551616 * s)) ∧ Num4 wc va (v4 l0 l1 0 0 + v4 0 g0 g1 0 + (v4 0 l2 l3 0 + v4 0 0 g2 g3)) ∧ Below w.heap.size w wc)
  case first =>
    by_cases h1 : ct = 1
    · subst h1
      have LE : s * t + cs * (18446744073709551616 * t) + 18446744073709551616 * s < 6277101735386680763835789423207666416102355444464034512896 := by
        have a1 := mul_le cs0 cs1 (show 0 ≤ 18446744073709551616 * t by omega) (show 18446744073709551616 * t ≤ 18446744073709551616 * 18446744073709551616 by omega)
        have a2 := K3.out
        omega
      have HLE := hide LE; clear LE
      go_wp2_with fail
      refine (addN3 _ (MID1.out.mono ((Below.refl _ _).alloc (Nat.le_refl _) _)) (num3_new _ (by simp) wd0 WS.out wd0 VS.out) HLE.out).mono ?_
      rintro e w4 ⟨m, rfl, hm, hb8⟩
      have M := hide hm
      have ALL3 := hide ((ALL2.out.mono ((Below.refl _ _).alloc (Nat.le_refl _) _)).mono hb8)
      have HB8 := hide ((HB7.out.alloc HB7.out.size _).trans (hb8.mono (HB7.out.alloc HB7.out.size _).size))
      clear hm hb8
      go_wp2_with fail
      go_meet
      exact ⟨by rw [Int.one_mul]; exact M.out, ALL3.out, HB8.out⟩
    · obtain rfl : ct = 0 := by omega
      go_wp2_with fail
      go_meet
      exact ⟨by rw [Int.zero_mul, Int.add_zero]; exact MID1.out, ALL2.out, HB7.out⟩
  case rest =>
  obtain ⟨hm, hall, hb8⟩ := hcut
  have MID2 := hide hm; have ALL3 := hide hall; have HB8 := hide hb8
  clear hm hall hb8 MID1 ALL2 HB7
  have WC := hide (show Wd (cs * ct) from ⟨k4, by omega⟩)
  go_wp2_with fail
  refine (addN3 _ (MID2.out.mono ((Below.refl _ _).alloc (Nat.le_refl _) _)) (num3_new _ (by simp) wd0 wd0 WC.out rfl) (by rw [K8.out]; exact K9.out)).mono ?_
  rintro e w5 ⟨m3, rfl, hm, hb9⟩
  rw [K8.out] at hm
  have MID3 := hide hm
  have ALL4 := hide ((ALL3.out.mono ((Below.refl _ _).alloc (Nat.le_refl _) _)).mono hb9)
  have HB9 := hide ((HB8.out.alloc HB8.out.size _).trans (hb9.mono (HB8.out.alloc HB8.out.size _).size))
  clear hm hb9 MID2 ALL3 HB8 K8 k4 k5
  go_wp2_with fail
  refine (subN3 _ (MID3.out.mono ((Below.refl _ _).alloc (Nat.le_refl _) _)) (num3_new _ (by simp) WY0.out WX0.out wd0 K6.out) K10.out).mono ?_
  rintro e w6 ⟨m4, o4, rfl, hm, hb10⟩
  have MID4 := hide hm
  have ALL5 := hide ((ALL4.out.mono ((Below.refl _ _).alloc (Nat.le_refl _) _)).mono hb10)
  have HB10 := hide ((HB9.out.alloc HB9.out.size _).trans (hb10.mono (HB9.out.alloc HB9.out.size _).size))
  clear hm hb10 MID3 ALL4 HB9
  go_wp2_with fail
  refine (subN3 _ (MID4.out.mono ((Below.refl _ _).alloc (Nat.le_refl _) _)) (num3_new _ (by simp) WY2.out WX2.out wd0 K7.out) K11.out).mono ?_
  rintro e w7 ⟨m5, o5, rfl, hm, hb11⟩
  rw [K12.out] at hm
  have ALL6 := hide ((ALL5.out.mono ((Below.refl _ _).alloc (Nat.le_refl _) _)).mono hb11)
  have HB11 := hide ((HB10.out.alloc HB10.out.size _).trans (hb11.mono (HB10.out.alloc HB10.out.size _).size))
  obtain ⟨z0, z1, z2, rz, wz0, wz1, wz2, vz⟩ := hm
  have RZ := hide rz; have WZ0 := hide wz0; have WZ1 := hide wz1; have WZ2 := hide wz2; have VZ := hide vz
  have SZ : Hid (Shaped m5) := by
    obtain ⟨ad, cap, h, hh⟩ := rz
    obtain ⟨k, off, rfl, _⟩ := hh (by simp)
    exact Or.inr ⟨_, _, _, h⟩
  clear rz wz0 wz1 wz2 vz hb11 MID4 ALL5 HB10
  have TWO := hide (below_two0 w7 (.cells #[.int .u64 y0, .int .u64 x0, .int .u64 y2, .int .u64 x2] 23) (.cells #[.int .u64 0] 23))
  have FOUR := hide (num4_old w7 (.cells #[.int .u64 0] 23) (k := w7.heap.size) rfl WY0.out WX0.out WY2.out WX2.out rfl)
  have OWN := hide (own_after w7 (.cells #[.int .u64 y0, .int .u64 x0, .int .u64 y2, .int .u64 x2] 23))
  have RZ' := hide (RZ.out.mono TWO.out)
  go_wp2_with (at_builtin; refine wpList_append_row _ rfl (.tmp 178) (.tmp 179) rfl (w7.heap.size + 1) (.slice (some ⟨w7.heap.size + 1, 0, none⟩) 1 1) 1 [0] rfl OWN.out m5 [z0, z1, z2] rfl RZ'.out SZ.out (by simp only [List.length_cons, List.length_nil]; omega) (by simp) ?_)
  intro v8 w8 o8 g8 _
  have RM := hide (row_of_owns' o8 [0, z0, z1, z2] (by simp))
  have AF := after_append g8 (by intro k hk; simp [Value.ownBlock] at hk; omega)
  have FOUR' := hide ((num4_new w7 (k := w7.heap.size) rfl WY0.out WX0.out WY2.out WX2.out rfl).mono AF.1)
  have MIDN : Hid (Num4 w8 v8 (v4 0 z0 z1 z2)) := ⟨0, z0, z1, z2, RM.out, wd0, WZ0.out, WZ1.out, WZ2.out, rfl⟩
  have ALL7 := hide (ALL6.out.mono AF.2)
  have HB12 := hide (HB11.out.trans (AF.2.mono HB11.out.size))
  have KV : v4 y0 x0 y2 x2 + v4 0 z0 z1 z2 = v4 l0 l1 0 0 + v4 0 g0 g1 0 + (v4 0 l2 l3 0 + v4 0 0 g2 g3) := by
    rw [HV.out, ← E0.out, ← E2.out, ← VZ.out]
    unfold v4 v3
    omega
  have KV' := hide KV
  clear o8 g8 AF KV RM RZ RZ' FOUR TWO OWN ALL6 HB11
  go_wp2_with fail
  refine (addN4 _ FOUR'.out MIDN.out (by rw [KV'.out]; exact HVL.out)).mono ?_
  rintro e w9 ⟨vo, rfl, hout, hb13⟩
  rw [KV'.out] at hout
  have ALL8 := hide (ALL7.out.mono hb13)
  have HB13 := hide (HB12.out.trans (hb13.mono HB12.out.size))
  obtain ⟨ad, cap, rfl⟩ : ∃ ad cap, vo = .slice ad 4 cap := by
    obtain ⟨_, _, _, _, ⟨ad, cap, h, _⟩, _⟩ := hout
    exact ⟨ad, cap, h⟩
  have OUT := hide hout
  clear hout hb13
  go_wp2_with fail
  refine (sameN4 _ ALL8.out OUT.out).mono ?_
  rintro e w10 ⟨rfl, hb14⟩
  have HB14 := hide (HB13.out.trans (hb14.mono HB13.out.size)); clear hb14
  go_wp2
  go_ret
  exact ⟨rfl, HB14.out⟩

theorem walk (a b c d : Int) {w : World} (w0 : (Lit.int .u64 a).wf = true) (w1 : (Lit.int .u64 b).wf = true) (w2 : (Lit.int .u64 c).wf = true) (w3 : (Lit.int .u64 d).wf = true) :
    Calls Try.prog 11 #[.int .u64 a, .int .u64 b, .int .u64 c, .int .u64 d] w fun e w' => e = .returned (.bool true) ∧ Below w.heap.size w w' := by
  have h0 := bounds_u64 w0
  have h1 := bounds_u64 w1
  have h2 := bounds_u64 w2
  have h3 := bounds_u64 w3
  exact walk_at a b c d ⟨h0.1, by omega⟩ ⟨h1.1, by omega⟩ ⟨h2.1, by omega⟩ ⟨h3.1, by omega⟩
end Go.Proofs.Ytaiepmcjnnoioaa.fnKaratsuba
