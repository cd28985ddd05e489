/-
  For all lists x, y of words and each carry, laws.FnWordsCarries returns true. The walk.
-/
import Derived.Test.YtaiepmcjnnoioaaAddWords
import Derived.Test.YtaiepmcjnnoioaaPop64s
import Derived.WalkKit
import Derived.ProofKit
import Derived.OpenShut
namespace Go.Proofs.Ytaiepmcjnnoioaa.fnWordsCarries
open Go.ChangeShapes Go.WideShapes Go.ChangeAt Go.RowKit
set_option linter.unusedVariables false

theorem cells_of {w : World} {v : Value} {xs : List Int} (h : Row w v xs) (hne : xs ≠ []) : ∃ b off cap, v = .slice (some ⟨b, off, none⟩) xs.length cap ∧ b < w.heap.size ∧ ∀ i, i < xs.length → w.cell? ⟨b, off + i, none⟩ = some (.int .u64 (xs.getD i 0)) := by
  obtain ⟨a, cap, rfl, h⟩ := h
  obtain ⟨b, off, rfl, hb, hc⟩ := h hne
  exact ⟨b, off, cap, rfl, hb, hc⟩
theorem sumK_getD (xs ys : List Int) (c : Int) : ∀ n k, k < n → (sumK xs ys c n).1.getD k 0 = (xs.getD k 0 + ys.getD k 0 + (sumK xs ys c k).2) % 18446744073709551616 := by
  intro n
  induction n with
  | zero => intro k h; omega
  | succ n ih =>
    intro k h
    have l := sumK_length xs ys c n
    simp only [sumK]
    by_cases hk : k < n
    · rw [← ih k hk]
      simp [List.getD, List.getElem?_append_left (show k < (sumK xs ys c n).1.length by omega)]
    · obtain rfl : k = n := by omega
      simp [List.getD, l]

/-- One word's step. -/
theorem word_step {X Y S Z r1 r2 r3 r4 : Nat} {C O : Int} (hX : X < 18446744073709551616) (hY : Y < 18446744073709551616) (c0 : 0 ≤ C) (c1 : C ≤ 1) (hS : (S : Int) = (X + Y + C) % 18446744073709551616) (hO : O = (X + Y + C) / 18446744073709551616) (hZ : Z = X ^^^ Y ^^^ S)
    (q1 : r1 = Roads.pop 64 X) (q2 : r2 = Roads.pop 64 Y) (q3 : r3 = Roads.pop 64 S) (q4 : r4 = Roads.pop 64 Z) : (r1 : Int) + r2 + 2 * C = r3 + r4 + 2 * O := by
  obtain ⟨K, rfl⟩ := Int.eq_ofNat_of_zero_le c0
  have k := Roads.carries 64 X Y K hX hY (by omega)
  have e1 : (X + Y + K) % 2 ^ 64 = S := by omega
  have e2 : (((X + Y + K) / 2 ^ 64 : Nat) : Int) = O := by omega
  rw [e1, ← hZ, ← q1, ← q2, ← q3, ← q4] at k
  omega

/-- A call that leaves the world alone, inside a second quiet region. -/
theorem again {P : Program} {f : FuncId} {args : Array Value} {w : World} {a n : Nat} {v : Value} (h : Calls P f args (w.drewN (a + n)) fun e w' => e = .returned v ∧ w' = w.drewN (a + n)) :
    Calls P f args (w.drewN (a + n)) fun e w' => e = .returned v ∧ ∃ m, w' = w.drewN (a + m) :=
  h.mono fun _ _ ⟨x, y⟩ => ⟨x, n, y⟩

set_option maxHeartbeats 4000000 in
set_option maxRecDepth 100000 in
theorem walk_false (xs ys : List Int) (b off cap b2 off2 cap2 : Nat) {w : World} (kx : Hid (Ws xs)) (ky : Hid (Ws ys)) (nx : Hid (xs ≠ [])) (ny : Hid (ys ≠ [])) (sx : xs.length * 8 ≤ 140737488351232) (sy : ys.length * 8 ≤ 140737488351232) (rx : Hid (Row w (.slice (some ⟨b, off, none⟩) xs.length cap) xs)) (ry : Hid (Row w (.slice (some ⟨b2, off2, none⟩) ys.length cap2) ys))
    (hb : b < w.heap.size) (hb2 : b2 < w.heap.size) (hcx : Hid (∀ i, i < xs.length → w.cell? ⟨b, off + i, none⟩ = some (.int .u64 (xs.getD i 0)))) (hcy : Hid (∀ i, i < ys.length → w.cell? ⟨b2, off2 + i, none⟩ = some (.int .u64 (ys.getD i 0)))) :
    Calls Try.prog 9 #[.slice (some ⟨b, off, none⟩) xs.length cap, .slice (some ⟨b2, off2, none⟩) ys.length cap2, .bool false] w fun e w' => e = .returned (.bool true) ∧ Below w.heap.size w w' := by
  obtain ⟨n, hn⟩ : ∃ n, n = xs.length := ⟨_, rfl⟩
  obtain ⟨m, hm⟩ : ∃ m, m = ys.length := ⟨_, rfl⟩
  have n0 : 0 < n := by rw [hn]; exact List.length_pos_iff.mpr nx.out
  have m0 : 0 < m := by rw [hm]; exact List.length_pos_iff.mpr ny.out
  rw [← hn, ← hm]
  rw [← hn] at sx
  rw [← hm] at sy
  have HN := hide hn; clear hn
  have HM := hide hm; clear hm
  go_enter Try.func9, Try.ntmps9
  go_wp2_with fail
  refine (addWords xs ys _ _ _ _ kx.out ky.out (by omega) (by omega) (by rw [← HN.out]; omega) (by rw [← HM.out]; omega) (by rw [HN.out]; exact rx.out) (by rw [HM.out]; exact ry.out)).mono ?_
  rintro e w' ⟨vs, rfl, rs, hbel0⟩
  have ob := sumK_carry (c := 0) kx.out ky.out (by omega) (by omega) (min xs.length ys.length)
  obtain ⟨o, eo⟩ : ∃ o, o = (sumK xs ys 0 (min xs.length ys.length)).2 := ⟨_, rfl⟩
  rw [← eo] at ob ⊢
  obtain ⟨ob0, ob1⟩ := ob
  obtain ⟨q, eq⟩ : ∃ q, q = min n m := ⟨_, rfl⟩
  have eq' : min xs.length ys.length = q := by rw [← HN.out, ← HM.out, eq]
  have sl : (sumK xs ys 0 (min xs.length ys.length)).1.length = q := by rw [sumK_length, eq']
  obtain ⟨b3, off3, cap3, e3, hb3, hc3⟩ := cells_of rs (by intro h; rw [h] at sl; simp at sl; omega)
  rw [sl] at e3 hc3
  rw [eq'] at hc3 eo
  rw [e3]
  have HC3 := hide hc3; clear hc3 e3 rs sl eq'
  have EO := hide eo; clear eo
  have HB0 := hide hbel0; clear hbel0
  have qb : ((q : Int) != q) = false := by simp
  by_cases hmn : m < n
  · obtain rfl : q = m := by omega
    clear eq
    go_wp2
    clear qb
    go_loopw [10, 11, 12] (fun l r i wr => ∃ (k : Nat) (L R : Int), k ≤ q ∧ i = .int .i64 k ∧ l = .int .i64 L ∧ r = .int .i64 R ∧ 0 ≤ L ∧ L ≤ 2 + 128 * k ∧ 0 ≤ R ∧ R ≤ 2 + 128 * k ∧ Hid (L + 2 * o = R + 2 * (sumK xs ys 0 k).2) ∧ Below w'.heap.size w' wr) (fun _ _ i _ => q - (intOf i).toNat)
    case atStart => exact ⟨0, 0, 2 * o, Nat.zero_le _, rfl, rfl, rfl, by omega, by omega, by omega, by omega, by show (0 : Int) + 2 * o = 2 * o + 2 * 0; omega, Below.refl _ _⟩
    case round =>
      obtain ⟨k, L, R, hk, rfl, rfl, rfl, L0, L1, R0, R1, hI, hbel⟩ := hrel
      by_cases hlt : k < q
      · have kn : k < xs.length := by rw [← HN.out]; omega
        have km : k < ys.length := by rw [← HM.out]; omega
        obtain ⟨X, eX⟩ := Int.eq_ofNat_of_zero_le (kx.out k).1
        obtain ⟨Y, eY⟩ := Int.eq_ofNat_of_zero_le (ky.out k).1
        have lX : X < 18446744073709551616 := by have := (kx.out k).2; omega
        have lY : Y < 18446744073709551616 := by have := (ky.out k).2; omega
        have cb := sumK_carry (c := 0) kx.out ky.out (by omega) (by omega) k
        have q3 := HC3.out k hlt
        rw [sumK_getD xs ys 0 q k hlt, eX, eY] at q3
        obtain ⟨S, eS⟩ := Int.eq_ofNat_of_zero_le (Int.emod_nonneg ((X : Int) + Y + (sumK xs ys 0 k).2) (by decide : (18446744073709551616 : Int) ≠ 0))
        have lS : S < 18446744073709551616 := by omega
        rw [eS] at q3
        have lx : X ^^^ Y < 18446744073709551616 := Nat.xor_lt_two_pow (n := 64) lX lY
        have lz : X ^^^ Y ^^^ S < 18446744073709551616 := Nat.xor_lt_two_pow (n := 64) lx lS
        have ex : bits .xor .u64 (bits .xor .u64 (X : Int) (Y : Int)) (S : Int) = ((X ^^^ Y ^^^ S : Nat) : Int) := by rw [u64_xor_nat X Y lX lY, u64_xor_nat _ S lx lS]
        obtain ⟨Z, hZ⟩ : ∃ Z, Z = X ^^^ Y ^^^ S := ⟨_, rfl⟩
        rw [← hZ] at ex lz
        have nxt : (sumK xs ys 0 (k + 1)).2 = ((X : Int) + Y + (sumK xs ys 0 k).2) / 18446744073709551616 := by simp only [sumK]; rw [eX, eY]
        obtain ⟨r1, d1⟩ : ∃ r, r = Roads.pop 64 X := ⟨_, rfl⟩
        obtain ⟨r2, d2⟩ : ∃ r, r = Roads.pop 64 Y := ⟨_, rfl⟩
        obtain ⟨r3, d3⟩ : ∃ r, r = Roads.pop 64 S := ⟨_, rfl⟩
        obtain ⟨r4, d4⟩ : ∃ r, r = Roads.pop 64 Z := ⟨_, rfl⟩
        have st := word_step lX lY cb.1 cb.2 eS.symm nxt hZ d1 d2 d3 d4
        have p1 : r1 ≤ 64 := by rw [d1]; exact Roads.pop_le _ _
        have p2 : r2 ≤ 64 := by rw [d2]; exact Roads.pop_le _ _
        have p3 : r3 ≤ 64 := by rw [d3]; exact Roads.pop_le _ _
        have p4 : r4 ≤ 64 := by rw [d4]; exact Roads.pop_le _ _
        have I' := hide (show L + r1 + r2 + 2 * o = R + r3 + r4 + 2 * (sumK xs ys 0 (k + 1)).2 by have := hI.out; omega)
        have cx : wr.cell? ⟨b, off + k, none⟩ = some (.int .u64 X) := (hbel.cell (p := ⟨b, off + k, none⟩) (Nat.lt_of_lt_of_le hb HB0.out.size)).trans ((HB0.out.cell (p := ⟨b, off + k, none⟩) hb).trans (by rw [← eX]; exact hcx.out k kn))
        have cy : wr.cell? ⟨b2, off2 + k, none⟩ = some (.int .u64 Y) := (hbel.cell (p := ⟨b2, off2 + k, none⟩) (Nat.lt_of_lt_of_le hb2 HB0.out.size)).trans ((HB0.out.cell (p := ⟨b2, off2 + k, none⟩) hb2).trans (by rw [← eY]; exact hcy.out k km))
        have cs : wr.cell? ⟨b3, off3 + k, none⟩ = some (.int .u64 S) := (hbel.cell (p := ⟨b3, off3 + k, none⟩) hb3).trans q3
        have D1 := hide d1; clear d1
        have D2 := hide d2; clear d2
        have D3 := hide d3; clear d3
        have D4 := hide d4; clear d4
        have HB := hide hbel; clear hbel
        clear st hI hZ nxt eS eX eY q3 lx cb kn km
        go_wp2
        go_quiet ((go_at_call 19; first | exact Calls.quiet_of_same (pop64_same X r1 D1 _ lX) | exact Calls.quiet_of_same (pop64_same Y r2 D2 _ lY)))
        go_wp2
        go_quiet ((go_at_call 19; first | exact again (pop64_same S r3 D3 _ lS) | exact again (pop64_same Z r4 D4 _ lz)))
        go_wp2
        go_roundw
        case rel => exact ⟨k + 1, L + r1 + r2, R + r3 + r4, by omega, by go_num, rfl, rfl, by omega, by omega, by omega, by omega, I', below_drewN HB.out _⟩
        case measure => simp [intOf]; omega
      · obtain rfl : k = q := by omega
        have e : (L == R) = true := beq_iff_eq.mpr (by have a := hI.out; have b := EO.out; omega)
        have HB := hide (HB0.out.trans (hbel.mono HB0.out.size)); clear hbel hI
        have ONE : Hid (1 = Roads.pop 64 1) := by show 1 = Roads.pop 64 1; decide +kernel
        go_wp2_with fail
        refine (pop64_same 1 1 ONE _ (by omega)).mono ?_
        rintro e2 w2 ⟨rfl, rfl⟩
        go_wp2
        go_ret
        exact ⟨rfl, HB.out⟩
  · obtain rfl : q = n := by omega
    clear eq
    go_wp2
    clear qb
    go_loopw [10, 11, 12] (fun l r i wr => ∃ (k : Nat) (L R : Int), k ≤ q ∧ i = .int .i64 k ∧ l = .int .i64 L ∧ r = .int .i64 R ∧ 0 ≤ L ∧ L ≤ 2 + 128 * k ∧ 0 ≤ R ∧ R ≤ 2 + 128 * k ∧ Hid (L + 2 * o = R + 2 * (sumK xs ys 0 k).2) ∧ Below w'.heap.size w' wr) (fun _ _ i _ => q - (intOf i).toNat)
    case atStart => exact ⟨0, 0, 2 * o, Nat.zero_le _, rfl, rfl, rfl, by omega, by omega, by omega, by omega, by show (0 : Int) + 2 * o = 2 * o + 2 * 0; omega, Below.refl _ _⟩
    case round =>
      obtain ⟨k, L, R, hk, rfl, rfl, rfl, L0, L1, R0, R1, hI, hbel⟩ := hrel
      by_cases hlt : k < q
      · have kn : k < xs.length := by rw [← HN.out]; omega
        have km : k < ys.length := by rw [← HM.out]; omega
        obtain ⟨X, eX⟩ := Int.eq_ofNat_of_zero_le (kx.out k).1
        obtain ⟨Y, eY⟩ := Int.eq_ofNat_of_zero_le (ky.out k).1
        have lX : X < 18446744073709551616 := by have := (kx.out k).2; omega
        have lY : Y < 18446744073709551616 := by have := (ky.out k).2; omega
        have cb := sumK_carry (c := 0) kx.out ky.out (by omega) (by omega) k
        have q3 := HC3.out k hlt
        rw [sumK_getD xs ys 0 q k hlt, eX, eY] at q3
        obtain ⟨S, eS⟩ := Int.eq_ofNat_of_zero_le (Int.emod_nonneg ((X : Int) + Y + (sumK xs ys 0 k).2) (by decide : (18446744073709551616 : Int) ≠ 0))
        have lS : S < 18446744073709551616 := by omega
        rw [eS] at q3
        have lx : X ^^^ Y < 18446744073709551616 := Nat.xor_lt_two_pow (n := 64) lX lY
        have lz : X ^^^ Y ^^^ S < 18446744073709551616 := Nat.xor_lt_two_pow (n := 64) lx lS
        have ex : bits .xor .u64 (bits .xor .u64 (X : Int) (Y : Int)) (S : Int) = ((X ^^^ Y ^^^ S : Nat) : Int) := by rw [u64_xor_nat X Y lX lY, u64_xor_nat _ S lx lS]
        obtain ⟨Z, hZ⟩ : ∃ Z, Z = X ^^^ Y ^^^ S := ⟨_, rfl⟩
        rw [← hZ] at ex lz
        have nxt : (sumK xs ys 0 (k + 1)).2 = ((X : Int) + Y + (sumK xs ys 0 k).2) / 18446744073709551616 := by simp only [sumK]; rw [eX, eY]
        obtain ⟨r1, d1⟩ : ∃ r, r = Roads.pop 64 X := ⟨_, rfl⟩
        obtain ⟨r2, d2⟩ : ∃ r, r = Roads.pop 64 Y := ⟨_, rfl⟩
        obtain ⟨r3, d3⟩ : ∃ r, r = Roads.pop 64 S := ⟨_, rfl⟩
        obtain ⟨r4, d4⟩ : ∃ r, r = Roads.pop 64 Z := ⟨_, rfl⟩
        have st := word_step lX lY cb.1 cb.2 eS.symm nxt hZ d1 d2 d3 d4
        have p1 : r1 ≤ 64 := by rw [d1]; exact Roads.pop_le _ _
        have p2 : r2 ≤ 64 := by rw [d2]; exact Roads.pop_le _ _
        have p3 : r3 ≤ 64 := by rw [d3]; exact Roads.pop_le _ _
        have p4 : r4 ≤ 64 := by rw [d4]; exact Roads.pop_le _ _
        have I' := hide (show L + r1 + r2 + 2 * o = R + r3 + r4 + 2 * (sumK xs ys 0 (k + 1)).2 by have := hI.out; omega)
        have cx : wr.cell? ⟨b, off + k, none⟩ = some (.int .u64 X) := (hbel.cell (p := ⟨b, off + k, none⟩) (Nat.lt_of_lt_of_le hb HB0.out.size)).trans ((HB0.out.cell (p := ⟨b, off + k, none⟩) hb).trans (by rw [← eX]; exact hcx.out k kn))
        have cy : wr.cell? ⟨b2, off2 + k, none⟩ = some (.int .u64 Y) := (hbel.cell (p := ⟨b2, off2 + k, none⟩) (Nat.lt_of_lt_of_le hb2 HB0.out.size)).trans ((HB0.out.cell (p := ⟨b2, off2 + k, none⟩) hb2).trans (by rw [← eY]; exact hcy.out k km))
        have cs : wr.cell? ⟨b3, off3 + k, none⟩ = some (.int .u64 S) := (hbel.cell (p := ⟨b3, off3 + k, none⟩) hb3).trans q3
        have D1 := hide d1; clear d1
        have D2 := hide d2; clear d2
        have D3 := hide d3; clear d3
        have D4 := hide d4; clear d4
        have HB := hide hbel; clear hbel
        clear st hI hZ nxt eS eX eY q3 lx cb kn km
        go_wp2
        go_quiet ((go_at_call 19; first | exact Calls.quiet_of_same (pop64_same X r1 D1 _ lX) | exact Calls.quiet_of_same (pop64_same Y r2 D2 _ lY)))
        go_wp2
        go_quiet ((go_at_call 19; first | exact again (pop64_same S r3 D3 _ lS) | exact again (pop64_same Z r4 D4 _ lz)))
        go_wp2
        go_roundw
        case rel => exact ⟨k + 1, L + r1 + r2, R + r3 + r4, by omega, by go_num, rfl, rfl, by omega, by omega, by omega, by omega, I', below_drewN HB.out _⟩
        case measure => simp [intOf]; omega
      · obtain rfl : k = q := by omega
        have e : (L == R) = true := beq_iff_eq.mpr (by have a := hI.out; have b := EO.out; omega)
        have HB := hide (HB0.out.trans (hbel.mono HB0.out.size)); clear hbel hI
        have ONE : Hid (1 = Roads.pop 64 1) := by show 1 = Roads.pop 64 1; decide +kernel
        go_wp2_with fail
        refine (pop64_same 1 1 ONE _ (by omega)).mono ?_
        rintro e2 w2 ⟨rfl, rfl⟩
        go_wp2
        go_ret
        exact ⟨rfl, HB.out⟩

set_option maxHeartbeats 4000000 in
set_option maxRecDepth 100000 in
theorem walk_true (xs ys : List Int) (b off cap b2 off2 cap2 : Nat) {w : World} (kx : Hid (Ws xs)) (ky : Hid (Ws ys)) (nx : Hid (xs ≠ [])) (ny : Hid (ys ≠ [])) (sx : xs.length * 8 ≤ 140737488351232) (sy : ys.length * 8 ≤ 140737488351232) (rx : Hid (Row w (.slice (some ⟨b, off, none⟩) xs.length cap) xs)) (ry : Hid (Row w (.slice (some ⟨b2, off2, none⟩) ys.length cap2) ys))
    (hb : b < w.heap.size) (hb2 : b2 < w.heap.size) (hcx : Hid (∀ i, i < xs.length → w.cell? ⟨b, off + i, none⟩ = some (.int .u64 (xs.getD i 0)))) (hcy : Hid (∀ i, i < ys.length → w.cell? ⟨b2, off2 + i, none⟩ = some (.int .u64 (ys.getD i 0)))) :
    Calls Try.prog 9 #[.slice (some ⟨b, off, none⟩) xs.length cap, .slice (some ⟨b2, off2, none⟩) ys.length cap2, .bool true] w fun e w' => e = .returned (.bool true) ∧ Below w.heap.size w w' := by
  obtain ⟨n, hn⟩ : ∃ n, n = xs.length := ⟨_, rfl⟩
  obtain ⟨m, hm⟩ : ∃ m, m = ys.length := ⟨_, rfl⟩
  have n0 : 0 < n := by rw [hn]; exact List.length_pos_iff.mpr nx.out
  have m0 : 0 < m := by rw [hm]; exact List.length_pos_iff.mpr ny.out
  rw [← hn, ← hm]
  rw [← hn] at sx
  rw [← hm] at sy
  have HN := hide hn; clear hn
  have HM := hide hm; clear hm
  go_enter Try.func9, Try.ntmps9
  go_wp2_with fail
  refine (addWords xs ys _ _ _ _ kx.out ky.out (by omega) (by omega) (by rw [← HN.out]; omega) (by rw [← HM.out]; omega) (by rw [HN.out]; exact rx.out) (by rw [HM.out]; exact ry.out)).mono ?_
  rintro e w' ⟨vs, rfl, rs, hbel0⟩
  have ob := sumK_carry (c := 1) kx.out ky.out (by omega) (by omega) (min xs.length ys.length)
  obtain ⟨o, eo⟩ : ∃ o, o = (sumK xs ys 1 (min xs.length ys.length)).2 := ⟨_, rfl⟩
  rw [← eo] at ob ⊢
  obtain ⟨ob0, ob1⟩ := ob
  obtain ⟨q, eq⟩ : ∃ q, q = min n m := ⟨_, rfl⟩
  have eq' : min xs.length ys.length = q := by rw [← HN.out, ← HM.out, eq]
  have sl : (sumK xs ys 1 (min xs.length ys.length)).1.length = q := by rw [sumK_length, eq']
  obtain ⟨b3, off3, cap3, e3, hb3, hc3⟩ := cells_of rs (by intro h; rw [h] at sl; simp at sl; omega)
  rw [sl] at e3 hc3
  rw [eq'] at hc3 eo
  rw [e3]
  have HC3 := hide hc3; clear hc3 e3 rs sl eq'
  have EO := hide eo; clear eo
  have HB0 := hide hbel0; clear hbel0
  have qb : ((q : Int) != q) = false := by simp
  by_cases hmn : m < n
  · obtain rfl : q = m := by omega
    clear eq
    go_wp2
    clear qb
    go_loopw [10, 11, 12] (fun l r i wr => ∃ (k : Nat) (L R : Int), k ≤ q ∧ i = .int .i64 k ∧ l = .int .i64 L ∧ r = .int .i64 R ∧ 0 ≤ L ∧ L ≤ 2 + 128 * k ∧ 0 ≤ R ∧ R ≤ 2 + 128 * k ∧ Hid (L + 2 * o = R + 2 * (sumK xs ys 1 k).2) ∧ Below w'.heap.size w' wr) (fun _ _ i _ => q - (intOf i).toNat)
    case atStart => exact ⟨0, 2, 2 * o, Nat.zero_le _, rfl, rfl, rfl, by omega, by omega, by omega, by omega, by show (2 : Int) + 2 * o = 2 * o + 2 * 1; omega, Below.refl _ _⟩
    case round =>
      obtain ⟨k, L, R, hk, rfl, rfl, rfl, L0, L1, R0, R1, hI, hbel⟩ := hrel
      by_cases hlt : k < q
      · have kn : k < xs.length := by rw [← HN.out]; omega
        have km : k < ys.length := by rw [← HM.out]; omega
        obtain ⟨X, eX⟩ := Int.eq_ofNat_of_zero_le (kx.out k).1
        obtain ⟨Y, eY⟩ := Int.eq_ofNat_of_zero_le (ky.out k).1
        have lX : X < 18446744073709551616 := by have := (kx.out k).2; omega
        have lY : Y < 18446744073709551616 := by have := (ky.out k).2; omega
        have cb := sumK_carry (c := 1) kx.out ky.out (by omega) (by omega) k
        have q3 := HC3.out k hlt
        rw [sumK_getD xs ys 1 q k hlt, eX, eY] at q3
        obtain ⟨S, eS⟩ := Int.eq_ofNat_of_zero_le (Int.emod_nonneg ((X : Int) + Y + (sumK xs ys 1 k).2) (by decide : (18446744073709551616 : Int) ≠ 0))
        have lS : S < 18446744073709551616 := by omega
        rw [eS] at q3
        have lx : X ^^^ Y < 18446744073709551616 := Nat.xor_lt_two_pow (n := 64) lX lY
        have lz : X ^^^ Y ^^^ S < 18446744073709551616 := Nat.xor_lt_two_pow (n := 64) lx lS
        have ex : bits .xor .u64 (bits .xor .u64 (X : Int) (Y : Int)) (S : Int) = ((X ^^^ Y ^^^ S : Nat) : Int) := by rw [u64_xor_nat X Y lX lY, u64_xor_nat _ S lx lS]
        obtain ⟨Z, hZ⟩ : ∃ Z, Z = X ^^^ Y ^^^ S := ⟨_, rfl⟩
        rw [← hZ] at ex lz
        have nxt : (sumK xs ys 1 (k + 1)).2 = ((X : Int) + Y + (sumK xs ys 1 k).2) / 18446744073709551616 := by simp only [sumK]; rw [eX, eY]
        obtain ⟨r1, d1⟩ : ∃ r, r = Roads.pop 64 X := ⟨_, rfl⟩
        obtain ⟨r2, d2⟩ : ∃ r, r = Roads.pop 64 Y := ⟨_, rfl⟩
        obtain ⟨r3, d3⟩ : ∃ r, r = Roads.pop 64 S := ⟨_, rfl⟩
        obtain ⟨r4, d4⟩ : ∃ r, r = Roads.pop 64 Z := ⟨_, rfl⟩
        have st := word_step lX lY cb.1 cb.2 eS.symm nxt hZ d1 d2 d3 d4
        have p1 : r1 ≤ 64 := by rw [d1]; exact Roads.pop_le _ _
        have p2 : r2 ≤ 64 := by rw [d2]; exact Roads.pop_le _ _
        have p3 : r3 ≤ 64 := by rw [d3]; exact Roads.pop_le _ _
        have p4 : r4 ≤ 64 := by rw [d4]; exact Roads.pop_le _ _
        have I' := hide (show L + r1 + r2 + 2 * o = R + r3 + r4 + 2 * (sumK xs ys 1 (k + 1)).2 by have := hI.out; omega)
        have cx : wr.cell? ⟨b, off + k, none⟩ = some (.int .u64 X) := (hbel.cell (p := ⟨b, off + k, none⟩) (Nat.lt_of_lt_of_le hb HB0.out.size)).trans ((HB0.out.cell (p := ⟨b, off + k, none⟩) hb).trans (by rw [← eX]; exact hcx.out k kn))
        have cy : wr.cell? ⟨b2, off2 + k, none⟩ = some (.int .u64 Y) := (hbel.cell (p := ⟨b2, off2 + k, none⟩) (Nat.lt_of_lt_of_le hb2 HB0.out.size)).trans ((HB0.out.cell (p := ⟨b2, off2 + k, none⟩) hb2).trans (by rw [← eY]; exact hcy.out k km))
        have cs : wr.cell? ⟨b3, off3 + k, none⟩ = some (.int .u64 S) := (hbel.cell (p := ⟨b3, off3 + k, none⟩) hb3).trans q3
        have D1 := hide d1; clear d1
        have D2 := hide d2; clear d2
        have D3 := hide d3; clear d3
        have D4 := hide d4; clear d4
        have HB := hide hbel; clear hbel
        clear st hI hZ nxt eS eX eY q3 lx cb kn km
        go_wp2
        go_quiet ((go_at_call 19; first | exact Calls.quiet_of_same (pop64_same X r1 D1 _ lX) | exact Calls.quiet_of_same (pop64_same Y r2 D2 _ lY)))
        go_wp2
        go_quiet ((go_at_call 19; first | exact again (pop64_same S r3 D3 _ lS) | exact again (pop64_same Z r4 D4 _ lz)))
        go_wp2
        go_roundw
        case rel => exact ⟨k + 1, L + r1 + r2, R + r3 + r4, by omega, by go_num, rfl, rfl, by omega, by omega, by omega, by omega, I', below_drewN HB.out _⟩
        case measure => simp [intOf]; omega
      · obtain rfl : k = q := by omega
        have e : (L == R) = true := beq_iff_eq.mpr (by have a := hI.out; have b := EO.out; omega)
        have HB := hide (HB0.out.trans (hbel.mono HB0.out.size)); clear hbel hI
        have ONE : Hid (1 = Roads.pop 64 1) := by show 1 = Roads.pop 64 1; decide +kernel
        go_wp2_with fail
        refine (pop64_same 1 1 ONE _ (by omega)).mono ?_
        rintro e2 w2 ⟨rfl, rfl⟩
        go_wp2
        go_ret
        exact ⟨rfl, HB.out⟩
  · obtain rfl : q = n := by omega
    clear eq
    go_wp2
    clear qb
    go_loopw [10, 11, 12] (fun l r i wr => ∃ (k : Nat) (L R : Int), k ≤ q ∧ i = .int .i64 k ∧ l = .int .i64 L ∧ r = .int .i64 R ∧ 0 ≤ L ∧ L ≤ 2 + 128 * k ∧ 0 ≤ R ∧ R ≤ 2 + 128 * k ∧ Hid (L + 2 * o = R + 2 * (sumK xs ys 1 k).2) ∧ Below w'.heap.size w' wr) (fun _ _ i _ => q - (intOf i).toNat)
    case atStart => exact ⟨0, 2, 2 * o, Nat.zero_le _, rfl, rfl, rfl, by omega, by omega, by omega, by omega, by show (2 : Int) + 2 * o = 2 * o + 2 * 1; omega, Below.refl _ _⟩
    case round =>
      obtain ⟨k, L, R, hk, rfl, rfl, rfl, L0, L1, R0, R1, hI, hbel⟩ := hrel
      by_cases hlt : k < q
      · have kn : k < xs.length := by rw [← HN.out]; omega
        have km : k < ys.length := by rw [← HM.out]; omega
        obtain ⟨X, eX⟩ := Int.eq_ofNat_of_zero_le (kx.out k).1
        obtain ⟨Y, eY⟩ := Int.eq_ofNat_of_zero_le (ky.out k).1
        have lX : X < 18446744073709551616 := by have := (kx.out k).2; omega
        have lY : Y < 18446744073709551616 := by have := (ky.out k).2; omega
        have cb := sumK_carry (c := 1) kx.out ky.out (by omega) (by omega) k
        have q3 := HC3.out k hlt
        rw [sumK_getD xs ys 1 q k hlt, eX, eY] at q3
        obtain ⟨S, eS⟩ := Int.eq_ofNat_of_zero_le (Int.emod_nonneg ((X : Int) + Y + (sumK xs ys 1 k).2) (by decide : (18446744073709551616 : Int) ≠ 0))
        have lS : S < 18446744073709551616 := by omega
        rw [eS] at q3
        have lx : X ^^^ Y < 18446744073709551616 := Nat.xor_lt_two_pow (n := 64) lX lY
        have lz : X ^^^ Y ^^^ S < 18446744073709551616 := Nat.xor_lt_two_pow (n := 64) lx lS
        have ex : bits .xor .u64 (bits .xor .u64 (X : Int) (Y : Int)) (S : Int) = ((X ^^^ Y ^^^ S : Nat) : Int) := by rw [u64_xor_nat X Y lX lY, u64_xor_nat _ S lx lS]
        obtain ⟨Z, hZ⟩ : ∃ Z, Z = X ^^^ Y ^^^ S := ⟨_, rfl⟩
        rw [← hZ] at ex lz
        have nxt : (sumK xs ys 1 (k + 1)).2 = ((X : Int) + Y + (sumK xs ys 1 k).2) / 18446744073709551616 := by simp only [sumK]; rw [eX, eY]
        obtain ⟨r1, d1⟩ : ∃ r, r = Roads.pop 64 X := ⟨_, rfl⟩
        obtain ⟨r2, d2⟩ : ∃ r, r = Roads.pop 64 Y := ⟨_, rfl⟩
        obtain ⟨r3, d3⟩ : ∃ r, r = Roads.pop 64 S := ⟨_, rfl⟩
        obtain ⟨r4, d4⟩ : ∃ r, r = Roads.pop 64 Z := ⟨_, rfl⟩
        have st := word_step lX lY cb.1 cb.2 eS.symm nxt hZ d1 d2 d3 d4
        have p1 : r1 ≤ 64 := by rw [d1]; exact Roads.pop_le _ _
        have p2 : r2 ≤ 64 := by rw [d2]; exact Roads.pop_le _ _
        have p3 : r3 ≤ 64 := by rw [d3]; exact Roads.pop_le _ _
        have p4 : r4 ≤ 64 := by rw [d4]; exact Roads.pop_le _ _
        have I' := hide (show L + r1 + r2 + 2 * o = R + r3 + r4 + 2 * (sumK xs ys 1 (k + 1)).2 by have := hI.out; omega)
        have cx : wr.cell? ⟨b, off + k, none⟩ = some (.int .u64 X) := (hbel.cell (p := ⟨b, off + k, none⟩) (Nat.lt_of_lt_of_le hb HB0.out.size)).trans ((HB0.out.cell (p := ⟨b, off + k, none⟩) hb).trans (by rw [← eX]; exact hcx.out k kn))
        have cy : wr.cell? ⟨b2, off2 + k, none⟩ = some (.int .u64 Y) := (hbel.cell (p := ⟨b2, off2 + k, none⟩) (Nat.lt_of_lt_of_le hb2 HB0.out.size)).trans ((HB0.out.cell (p := ⟨b2, off2 + k, none⟩) hb2).trans (by rw [← eY]; exact hcy.out k km))
        have cs : wr.cell? ⟨b3, off3 + k, none⟩ = some (.int .u64 S) := (hbel.cell (p := ⟨b3, off3 + k, none⟩) hb3).trans q3
        have D1 := hide d1; clear d1
        have D2 := hide d2; clear d2
        have D3 := hide d3; clear d3
        have D4 := hide d4; clear d4
        have HB := hide hbel; clear hbel
        clear st hI hZ nxt eS eX eY q3 lx cb kn km
        go_wp2
        go_quiet ((go_at_call 19; first | exact Calls.quiet_of_same (pop64_same X r1 D1 _ lX) | exact Calls.quiet_of_same (pop64_same Y r2 D2 _ lY)))
        go_wp2
        go_quiet ((go_at_call 19; first | exact again (pop64_same S r3 D3 _ lS) | exact again (pop64_same Z r4 D4 _ lz)))
        go_wp2
        go_roundw
        case rel => exact ⟨k + 1, L + r1 + r2, R + r3 + r4, by omega, by go_num, rfl, rfl, by omega, by omega, by omega, by omega, I', below_drewN HB.out _⟩
        case measure => simp [intOf]; omega
      · obtain rfl : k = q := by omega
        have e : (L == R) = true := beq_iff_eq.mpr (by have a := hI.out; have b := EO.out; omega)
        have HB := hide (HB0.out.trans (hbel.mono HB0.out.size)); clear hbel hI
        have ONE : Hid (1 = Roads.pop 64 1) := by show 1 = Roads.pop 64 1; decide +kernel
        go_wp2_with fail
        refine (pop64_same 1 1 ONE _ (by omega)).mono ?_
        rintro e2 w2 ⟨rfl, rfl⟩
        go_wp2
        go_ret
        exact ⟨rfl, HB.out⟩

theorem none_false (xs ys : List Int) (a a2 : Option Addr) (cap cap2 : Nat) {w : World} (h : xs.length = 0 ∨ ys.length = 0) (kx : Hid (Ws xs)) (ky : Hid (Ws ys)) (sx : xs.length * 8 ≤ 140737488351232) (sy : ys.length * 8 ≤ 140737488351232) (rx : Hid (Row w (.slice a xs.length cap) xs)) (ry : Hid (Row w (.slice a2 ys.length cap2) ys)) :
    Calls Try.prog 9 #[.slice a xs.length cap, .slice a2 ys.length cap2, .bool false] w fun e w' => e = .returned (.bool true) ∧ Below w.heap.size w w' := by
  have qq : sumK xs ys 0 (min xs.length ys.length) = ([], 0) := by
    rw [show min xs.length ys.length = 0 by omega]; rfl
  have Q := hide qq; clear qq
  obtain ⟨n, hn⟩ : ∃ n, n = xs.length := ⟨_, rfl⟩
  obtain ⟨m, hm⟩ : ∃ m, m = ys.length := ⟨_, rfl⟩
  rw [← hn, ← hm]
  rw [← hn] at sx h
  rw [← hm] at sy h
  have HN := hide hn; clear hn
  have HM := hide hm; clear hm
  by_cases hm0 : m = 0
  · subst hm0
    by_cases hn0 : n = 0
    · subst hn0
      go_enter Try.func9, Try.ntmps9
      go_wp2_with fail
      refine (addWords xs ys _ _ _ _ kx.out ky.out (by omega) (by omega) (by rw [← HN.out]; omega) (by rw [← HM.out]; omega) (by rw [HN.out]; exact rx.out) (by rw [HM.out]; exact ry.out)).mono ?_
      rintro e w' ⟨vs, rfl, rs, hbel0⟩
      rw [Q.out] at rs ⊢
      have rs2 : ∃ a3 cap3, vs = .slice a3 0 cap3 := by
        obtain ⟨a3, cap3, h, _⟩ := rs
        exact ⟨a3, cap3, h⟩
      obtain ⟨a3, cap3, rfl⟩ := rs2
      have HB0 := hide hbel0; clear hbel0 rs
      have ONE : Hid (1 = Roads.pop 64 1) := by show 1 = Roads.pop 64 1; decide +kernel
      go_wp2
      refine wp_loop_rounds 1 ?_
      rw [rounds_succ]
      go_wp2_with fail
      refine (pop64_same 1 1 ONE _ (by omega)).mono ?_
      rintro e2 w2 ⟨rfl, rfl⟩
      go_wp2
      go_ret
      exact ⟨rfl, HB0.out⟩
    · have np : 0 < n := by omega
      go_enter Try.func9, Try.ntmps9
      go_wp2_with fail
      refine (addWords xs ys _ _ _ _ kx.out ky.out (by omega) (by omega) (by rw [← HN.out]; omega) (by rw [← HM.out]; omega) (by rw [HN.out]; exact rx.out) (by rw [HM.out]; exact ry.out)).mono ?_
      rintro e w' ⟨vs, rfl, rs, hbel0⟩
      rw [Q.out] at rs ⊢
      have rs2 : ∃ a3 cap3, vs = .slice a3 0 cap3 := by
        obtain ⟨a3, cap3, h, _⟩ := rs
        exact ⟨a3, cap3, h⟩
      obtain ⟨a3, cap3, rfl⟩ := rs2
      have HB0 := hide hbel0; clear hbel0 rs
      have ONE : Hid (1 = Roads.pop 64 1) := by show 1 = Roads.pop 64 1; decide +kernel
      go_wp2
      refine wp_loop_rounds 1 ?_
      rw [rounds_succ]
      go_wp2_with fail
      refine (pop64_same 1 1 ONE _ (by omega)).mono ?_
      rintro e2 w2 ⟨rfl, rfl⟩
      go_wp2
      go_ret
      exact ⟨rfl, HB0.out⟩
  · obtain rfl : n = 0 := by omega
    have mp : 0 < m := by omega
    go_enter Try.func9, Try.ntmps9
    go_wp2_with fail
    refine (addWords xs ys _ _ _ _ kx.out ky.out (by omega) (by omega) (by rw [← HN.out]; omega) (by rw [← HM.out]; omega) (by rw [HN.out]; exact rx.out) (by rw [HM.out]; exact ry.out)).mono ?_
    rintro e w' ⟨vs, rfl, rs, hbel0⟩
    rw [Q.out] at rs ⊢
    have rs2 : ∃ a3 cap3, vs = .slice a3 0 cap3 := by
      obtain ⟨a3, cap3, h, _⟩ := rs
      exact ⟨a3, cap3, h⟩
    obtain ⟨a3, cap3, rfl⟩ := rs2
    have HB0 := hide hbel0; clear hbel0 rs
    have ONE : Hid (1 = Roads.pop 64 1) := by show 1 = Roads.pop 64 1; decide +kernel
    go_wp2
    refine wp_loop_rounds 1 ?_
    rw [rounds_succ]
    go_wp2_with fail
    refine (pop64_same 1 1 ONE _ (by omega)).mono ?_
    rintro e2 w2 ⟨rfl, rfl⟩
    go_wp2
    go_ret
    exact ⟨rfl, HB0.out⟩

theorem none_true (xs ys : List Int) (a a2 : Option Addr) (cap cap2 : Nat) {w : World} (h : xs.length = 0 ∨ ys.length = 0) (kx : Hid (Ws xs)) (ky : Hid (Ws ys)) (sx : xs.length * 8 ≤ 140737488351232) (sy : ys.length * 8 ≤ 140737488351232) (rx : Hid (Row w (.slice a xs.length cap) xs)) (ry : Hid (Row w (.slice a2 ys.length cap2) ys)) :
    Calls Try.prog 9 #[.slice a xs.length cap, .slice a2 ys.length cap2, .bool true] w fun e w' => e = .returned (.bool true) ∧ Below w.heap.size w w' := by
  have qq : sumK xs ys 1 (min xs.length ys.length) = ([], 1) := by
    rw [show min xs.length ys.length = 0 by omega]; rfl
  have Q := hide qq; clear qq
  obtain ⟨n, hn⟩ : ∃ n, n = xs.length := ⟨_, rfl⟩
  obtain ⟨m, hm⟩ : ∃ m, m = ys.length := ⟨_, rfl⟩
  rw [← hn, ← hm]
  rw [← hn] at sx h
  rw [← hm] at sy h
  have HN := hide hn; clear hn
  have HM := hide hm; clear hm
  by_cases hm0 : m = 0
  · subst hm0
    by_cases hn0 : n = 0
    · subst hn0
      go_enter Try.func9, Try.ntmps9
      go_wp2_with fail
      refine (addWords xs ys _ _ _ _ kx.out ky.out (by omega) (by omega) (by rw [← HN.out]; omega) (by rw [← HM.out]; omega) (by rw [HN.out]; exact rx.out) (by rw [HM.out]; exact ry.out)).mono ?_
      rintro e w' ⟨vs, rfl, rs, hbel0⟩
      rw [Q.out] at rs ⊢
      have rs2 : ∃ a3 cap3, vs = .slice a3 0 cap3 := by
        obtain ⟨a3, cap3, h, _⟩ := rs
        exact ⟨a3, cap3, h⟩
      obtain ⟨a3, cap3, rfl⟩ := rs2
      have HB0 := hide hbel0; clear hbel0 rs
      have ONE : Hid (1 = Roads.pop 64 1) := by show 1 = Roads.pop 64 1; decide +kernel
      go_wp2
      refine wp_loop_rounds 1 ?_
      rw [rounds_succ]
      go_wp2_with fail
      refine (pop64_same 1 1 ONE _ (by omega)).mono ?_
      rintro e2 w2 ⟨rfl, rfl⟩
      go_wp2
      go_ret
      exact ⟨rfl, HB0.out⟩
    · have np : 0 < n := by omega
      go_enter Try.func9, Try.ntmps9
      go_wp2_with fail
      refine (addWords xs ys _ _ _ _ kx.out ky.out (by omega) (by omega) (by rw [← HN.out]; omega) (by rw [← HM.out]; omega) (by rw [HN.out]; exact rx.out) (by rw [HM.out]; exact ry.out)).mono ?_
      rintro e w' ⟨vs, rfl, rs, hbel0⟩
      rw [Q.out] at rs ⊢
      have rs2 : ∃ a3 cap3, vs = .slice a3 0 cap3 := by
        obtain ⟨a3, cap3, h, _⟩ := rs
        exact ⟨a3, cap3, h⟩
      obtain ⟨a3, cap3, rfl⟩ := rs2
      have HB0 := hide hbel0; clear hbel0 rs
      have ONE : Hid (1 = Roads.pop 64 1) := by show 1 = Roads.pop 64 1; decide +kernel
      go_wp2
      refine wp_loop_rounds 1 ?_
      rw [rounds_succ]
      go_wp2_with fail
      refine (pop64_same 1 1 ONE _ (by omega)).mono ?_
      rintro e2 w2 ⟨rfl, rfl⟩
      go_wp2
      go_ret
      exact ⟨rfl, HB0.out⟩
  · obtain rfl : n = 0 := by omega
    have mp : 0 < m := by omega
    go_enter Try.func9, Try.ntmps9
    go_wp2_with fail
    refine (addWords xs ys _ _ _ _ kx.out ky.out (by omega) (by omega) (by rw [← HN.out]; omega) (by rw [← HM.out]; omega) (by rw [HN.out]; exact rx.out) (by rw [HM.out]; exact ry.out)).mono ?_
    rintro e w' ⟨vs, rfl, rs, hbel0⟩
    rw [Q.out] at rs ⊢
    have rs2 : ∃ a3 cap3, vs = .slice a3 0 cap3 := by
      obtain ⟨a3, cap3, h, _⟩ := rs
      exact ⟨a3, cap3, h⟩
    obtain ⟨a3, cap3, rfl⟩ := rs2
    have HB0 := hide hbel0; clear hbel0 rs
    have ONE : Hid (1 = Roads.pop 64 1) := by show 1 = Roads.pop 64 1; decide +kernel
    go_wp2
    refine wp_loop_rounds 1 ?_
    rw [rounds_succ]
    go_wp2_with fail
    refine (pop64_same 1 1 ONE _ (by omega)).mono ?_
    rintro e2 w2 ⟨rfl, rfl⟩
    go_wp2
    go_ret
    exact ⟨rfl, HB0.out⟩

theorem walk (v : Value) (xs : List Int) (v2 : Value) (ys : List Int) (c : Bool) {w : World} (rx : Row w v xs) (kx : Ws xs) (sx : xs.length * 8 ≤ 140737488351232) (ry : Row w v2 ys) (ky : Ws ys) (sy : ys.length * 8 ≤ 140737488351232) :
    Calls Try.prog 9 #[v, v2, .bool c] w fun e w' => e = .returned (.bool true) ∧ Below w.heap.size w w' := by
  have rx' := rx
  have ry' := ry
  obtain ⟨a, cap, rfl, hcx⟩ := rx
  obtain ⟨a2, cap2, rfl, hcy⟩ := ry
  by_cases hz : xs.length = 0 ∨ ys.length = 0
  · cases c
    · exact none_false xs ys a a2 cap cap2 hz kx ky sx sy rx' ry'
    · exact none_true xs ys a a2 cap cap2 hz kx ky sx sy rx' ry'
  · have nx : xs ≠ [] := fun h => hz (Or.inl (by rw [h]; rfl))
    have ny : ys ≠ [] := fun h => hz (Or.inr (by rw [h]; rfl))
    obtain ⟨b, off, rfl, hb, hcx⟩ := hcx nx
    obtain ⟨b2, off2, rfl, hb2, hcy⟩ := hcy ny
    cases c
    · exact walk_false xs ys b off cap b2 off2 cap2 kx ky nx ny sx sy rx' ry' hb hb2 hcx hcy
    · exact walk_true xs ys b off cap b2 off2 cap2 kx ky nx ny sx sy rx' ry' hb hb2 hcx hcy

end Go.Proofs.Ytaiepmcjnnoioaa.fnWordsCarries
