/-
  For all m and n of 8 bits, laws.FnFibonacci returns true. The walk.
-/
import Derived.Test.YtmfcmnhfbaennaaAppendRow
import Derived.Test.YtmfcmnhfbaennaaAt64
import Derived.Test.YtmfcmnhfbaennaaPlainFib
import Derived.Maps.AppendAt
import Derived.WalkKit
import Derived.ProofKit
import Derived.OpenShut
namespace Go.Proofs.Ytmfcmnhfbaennaa.fnFibonacci
open Go.ChangeShapes Go.WideShapes Go.ChangeAt Go.RowKit
set_option linter.unusedVariables false

theorem info_u64m : (Try.prog.info? 22).map (fun i => (i.zero, i.size, i.bytes)) = some (some (.int .u64 0), 1, 8) := by kernel_rfl
theorem two_rows {wr w1 : World} {B : Nat} {T : TypeId} {u v v' : Value} {k m q : Nat} {l l' : List Value} {o : Obj} (hu : wr.ownsRow B T 1 u k l) (hv : wr.ownsRow B T 1 v m l') (hne : u.ownBlock ≠ v.ownBlock)
    (hg : ((wr.drewN q).alloc o).grownBy w1 u.ownBlock) (hat : v'.ownBlock = u.ownBlock ∨ v'.ownBlock = some (wr.heap.size + 1)) : w1.ownsRow B T 1 v m l' ∧ v'.ownBlock ≠ v.ownBlock := by
  refine ⟨World.ownsRow.kept (w := (wr.drewN q).alloc o) (hv.alloc o) hg (Or.inr hne.symm), ?_⟩
  rcases hat with h | h
  · rw [h]; exact hne
  · rw [h]
    intro e
    have := (hv.lt _ e.symm).2
    omega

/-- The upper words, and the lower ones, of the first k numbers. -/
def hiW (k : Nat) : List Int := (List.range k).map fun i => ((fib i : Nat) : Int) / 18446744073709551616
def loW (k : Nat) : List Int := (List.range k).map fun i => ((fib i : Nat) : Int) % 18446744073709551616
theorem hiW_len (k : Nat) : (hiW k).length = k := by simp [hiW]
theorem loW_len (k : Nat) : (loW k).length = k := by simp [loW]
theorem hiW_at {k i : Nat} (h : i < k) : (hiW k).getD i 0 = ((fib i : Nat) : Int) / 18446744073709551616 := by simp [hiW, List.getD, h]
theorem loW_at {k i : Nat} (h : i < k) : (loW k).getD i 0 = ((fib i : Nat) : Int) % 18446744073709551616 := by simp [loW, List.getD, h]
theorem hiW_next (k : Nat) : hiW (k + 1) = hiW k ++ [((fib k : Nat) : Int) / 18446744073709551616] := by simp [hiW, List.range_succ]
theorem loW_next (k : Nat) : loW (k + 1) = loW k ++ [((fib k : Nat) : Int) % 18446744073709551616] := by simp [loW, List.range_succ]

/-- What the two slices are good for. -/
theorem cells_own {w : World} {base : Nat} {e : TypeId} {v : Value} {n : Nat} {xs : List Int} (h : w.ownsRow base e 1 v n (xs.map (Value.int .u64))) (hn : 0 < n) :
    ∃ b off cap, v = .slice (some ⟨b, off, none⟩) n cap ∧ ∀ i, i < n → w.cell? ⟨b, off + i, none⟩ = some (.int .u64 (xs.getD i 0)) := by
  have hl : xs.length = n := by simpa using h.1
  obtain ⟨a, cap, hv, hc⟩ := row_of_owns h
  obtain ⟨b, off, rfl, _, hc⟩ := hc (by intro h; rw [h] at hl; simp at hl; omega)
  rw [hl] at hv hc
  exact ⟨b, off, cap, hv, hc⟩

set_option maxHeartbeats 1000000 in
set_option maxRecDepth 10000 in
theorem walk_at (M N : Int) (p q : Nat) {w : World} (m0 : 0 ≤ M) (m1 : M ≤ 255) (n0 : 0 ≤ N) (n1 : N ≤ 255) (hp : M % 90 = (p : Int)) (hq : N % 90 = (q : Int)) (lp : p < 90) (lq : q < 90) :
    Calls Try.prog 14 #[.int .u8 M, .int .u8 N] w fun e w' => e = .returned (.bool true) ∧ Below w.heap.size w w' := by
  obtain ⟨i0, hi, hz0, hz1, hz2⟩ := info_parts info_u64m
  go_enter Try.func14, Try.ntmps14
  go_wp2
  clear hp hq m0 m1 n0 n1
  go_loopw [7, 8, 9] (fun vh vl i wr => ∃ k : Nat, 2 ≤ k ∧ k ≤ p + q + 3 ∧ i = .int .i64 k ∧ Hid (wr.ownsRow w.heap.size 22 1 vh k ((hiW k).map (Value.int .u64))) ∧ Hid (wr.ownsRow w.heap.size 22 1 vl k ((loW k).map (Value.int .u64))) ∧ Hid (vh.ownBlock ≠ vl.ownBlock) ∧ Hid (Below w.heap.size w wr))
    (fun _ _ i _ => p + q + 3 - (intOf i).toNat)
  case atStart =>
    refine ⟨2, by omega, by omega, rfl, ?_, ?_, ?_, ?_⟩
    · exact (owns_made w w.heap.size (Nat.le_refl _) [0, 0] #[.int .u64 0, .int .u64 0] rfl 2 rfl (by unfold maxLen; omega)).alloc _
    · have q := owns_made (w.alloc (.cells #[.int .u64 0, .int .u64 0] 22)) w.heap.size (by simp) [0, 1] #[.int .u64 0, .int .u64 1] rfl 2 rfl (by unfold maxLen; omega)
      rw [World.size_alloc] at q
      exact q
    · intro h
      simp [Value.ownBlock] at h
    · exact ((Below.refl _ _).alloc (Nat.le_refl _) _).alloc (by simp) _
  case round =>
    obtain ⟨k, k2, hk, rfl, OH, OL, NE, HB⟩ := hrel
    obtain ⟨bh, oh, ch, rfl, hch⟩ := cells_own OH.out (by omega)
    obtain ⟨bl, ol, cl, rfl, hcl⟩ := cells_own OL.out (by omega)
    by_cases hlt : k < p + q + 3
    · have ch1 := hch (k - 1) (by omega)
      have ch2 := hch (k - 2) (by omega)
      have cl1 := hcl (k - 1) (by omega)
      have cl2 := hcl (k - 2) (by omega)
      rw [hiW_at (by omega)] at ch1 ch2
      rw [loW_at (by omega)] at cl1 cl2
      have fw : (fib k : Int) < 340282366920938463463374607431768211456 := by have := fib_wide ⟨k, by omega⟩; simp only at this; omega
      have fs : (fib k : Int) = (fib (k - 2) : Int) + (fib (k - 1) : Int) := by
        obtain ⟨j, rfl⟩ : ∃ j, k = j + 2 := ⟨k - 2, by omega⟩
        rw [fib_sum]; simp
      obtain ⟨F1, e1⟩ : ∃ F1, F1 = (fib (k - 1) : Int) := ⟨_, rfl⟩
      obtain ⟨F2, e2⟩ : ∃ F2, F2 = (fib (k - 2) : Int) := ⟨_, rfl⟩
      obtain ⟨F, e⟩ : ∃ F, F = (fib k : Int) := ⟨_, rfl⟩
      have f10 : 0 ≤ F1 := by omega
      have f20 : 0 ≤ F2 := by omega
      rw [← e1] at ch1 cl1 fs
      rw [← e2] at ch2 cl2 fs
      rw [← e] at fs fw
      have EF := hide e
      clear e1 e2 e hch hcl
      obtain ⟨X1, x1⟩ : ∃ X, X = F1 % 18446744073709551616 := ⟨_, rfl⟩
      obtain ⟨X2, x2⟩ : ∃ X, X = F2 % 18446744073709551616 := ⟨_, rfl⟩
      obtain ⟨Y1, y1⟩ : ∃ X, X = F1 / 18446744073709551616 := ⟨_, rfl⟩
      obtain ⟨Y2, y2⟩ : ∃ X, X = F2 / 18446744073709551616 := ⟨_, rfl⟩
      obtain ⟨S, O, s0, s1, o0, o1, hs, cs⟩ := add64_at X1 X2 0 (by omega) (by omega) (by omega) (by omega) (by omega) (by omega)
      obtain ⟨T, P, t0, t1, p0, p1, ht, ct⟩ := add64_at Y1 Y2 O (by omega) (by omega) (by omega) (by omega) o0 o1
      have HALF : Hid (S = F % 18446744073709551616 ∧ T = F / 18446744073709551616) := halves_sum f10 f20 fs fw o0 o1 s0 s1 (by rw [← x1, ← x2]; exact hs) p0 p1 t0 t1 (by rw [← y1, ← y2]; exact ht)
      rw [← x1] at cl1
      rw [← x2] at cl2
      rw [← y1] at ch1
      rw [← y2] at ch2
      clear fs fw f10 f20 x1 x2 y1 y2 hs ht
      have CS := hide cs; clear cs
      have CT := hide ct; clear ct
      go_wp2
      go_quiet (first | (go_at_call 15; exact Calls.quiet_of_same (CS.out _)))
      go_wp2
      generalize hwq : wr.drewN _ = wq
      have dh1 : wq.cell? ⟨bh, oh + (k - 1), none⟩ = some (.int .u64 Y1) := by rw [← hwq]; exact ch1
      have dh2 : wq.cell? ⟨bh, oh + (k - 2), none⟩ = some (.int .u64 Y2) := by rw [← hwq]; exact ch2
      have OHq : Hid (wq.ownsRow w.heap.size 22 1 (.slice (some ⟨bh, oh, none⟩) k ch) k ((hiW k).map (Value.int .u64))) := by rw [← hwq]; exact OH.out
      have OLq : Hid (wq.ownsRow w.heap.size 22 1 (.slice (some ⟨bl, ol, none⟩) k cl) k ((loW k).map (Value.int .u64))) := by rw [← hwq]; exact OL.out
      have HBq : Hid (Below w.heap.size w wq) := by rw [← hwq]; exact below_drewN HB.out _
      clear hwq OH OL HB ch1 ch2 cl1 cl2
      go_quiet (first | (go_at_call 15; exact Calls.quiet_of_same (CT.out _)))
      have KN := hide hk
      clear dh1 dh2
      go_wp2_with (at_builtin; refine wpList_append_own_at _ rfl (.tmp 70) (.tmp 72) 34 rfl w.heap.size 22 i0 (.int .u64 0) 1 8 Try.underlying34 hi hz0 hz1 hz2 rfl (by decide) _ _ _ rfl (by exact OHq.out.alloc _) ⟨wq.heap.size, 0, none⟩ 1 1 [.int .u64 T] rfl rfl ?c1 ?c2 ?c3 ?c4 ?c5 ?_)
      case c1 =>
        intro j u hj
        match j, hj with
        | 0, hj => simp at hj; subst hj; exact new_cell _ _ _ _
      case c2 => intro u hu; simp at hu; subst hu; rfl
      case c3 => unfold maxLen; omega
      case c4 => omega
      case c5 => have := HBq.out.size; simp; omega
      · intro v' w1 hown' hgrow _ hat
        obtain ⟨hol', hne'⟩ := two_rows OHq.out OLq.out NE.out hgrow hat
        have HB' := hide (append_below HBq.out OHq.out hgrow)
        have OH' := hide hown'
        have OL' := hide hol'
        have NE' := hide hne'
        clear hown' hgrow hat HBq OHq OLq NE hol' hne'
        go_wp2_with (at_builtin; refine wpList_append_own_at _ rfl (.tmp 74) (.tmp 76) 34 rfl w.heap.size 22 i0 (.int .u64 0) 1 8 Try.underlying34 hi hz0 hz1 hz2 rfl (by decide) _ _ _ rfl (by exact OL'.out.alloc _) ⟨w1.heap.size, 0, none⟩ 1 1 [.int .u64 S] rfl rfl ?d1 ?d2 ?d3 ?d4 ?d5 ?_)
        case d1 => exact cell_one_new _ _ _
        case d2 => intro u hu; simp at hu; subst hu; rfl
        case d3 => unfold maxLen; omega
        case d4 => omega
        case d5 => have := HB'.out.size; simp; omega
        · intro v2 w2 hown2 hgrow2 _ hat2
          obtain ⟨hoh2, hne2⟩ := two_rows (q := 0) OL'.out OH'.out NE'.out.symm hgrow2 hat2
          have HB2 := hide (append_below (q := 0) HB'.out OL'.out hgrow2)
          have OL2 := hide hown2
          have OH2 := hide hoh2
          have NE2 := hide hne2
          clear hown2 hgrow2 hat2 HB' OH' OL' NE' hoh2 hne2
          go_wp2
          go_roundw
          case rel =>
            refine ⟨k + 1, by omega, by omega, by go_num, ?_, ?_, NE2.out.symm, HB2.out⟩
            · have h := OH2.out
              show World.ownsRow _ _ _ _ _ _ _
              rw [hiW_next, List.map_append, ← EF.out, ← HALF.out.2]
              exact h
            · have h := OL2.out
              show World.ownsRow _ _ _ _ _ _ _
              rw [loW_next, List.map_append, ← EF.out, ← HALF.out.1]
              exact h
          case measure => simp [intOf]; omega
    · obtain rfl : k = p + q + 3 := by omega
      have ca := hcl (p + 1) (by omega)
      have cb := hcl (q + 1 + 1) (by omega)
      have cc := hcl p (by omega)
      have cd := hcl (q + 1) (by omega)
      have cl' := hcl (p + 1 + (q + 1)) (by omega)
      have ch' := hch (p + 1 + (q + 1)) (by omega)
      rw [loW_at (by omega)] at ca cb cc cd cl'
      rw [hiW_at (by omega)] at ch'
      have fa := fib_small ⟨p + 1, by omega⟩
      have fb := fib_small ⟨q + 1 + 1, by omega⟩
      have fc := fib_small ⟨p, by omega⟩
      have fd := fib_small ⟨q + 1, by omega⟩
      have fw := fib_wide ⟨p + 1 + (q + 1), by omega⟩
      have fe := fib_add p (q + 1)
      simp only at fa fb fc fd fw
      obtain ⟨A, ea⟩ : ∃ A, A = (fib (p + 1) : Int) := ⟨_, rfl⟩
      obtain ⟨B, eb⟩ : ∃ A, A = (fib (q + 1 + 1) : Int) := ⟨_, rfl⟩
      obtain ⟨C, ec⟩ : ∃ A, A = (fib p : Int) := ⟨_, rfl⟩
      obtain ⟨D, ed⟩ : ∃ A, A = (fib (q + 1) : Int) := ⟨_, rfl⟩
      obtain ⟨F, ef⟩ : ∃ A, A = (fib (p + 1 + (q + 1)) : Int) := ⟨_, rfl⟩
      have hF : F = A * B + C * D := by rw [ef, fe, ea, eb, ec, ed]; simp
      have F0 : 0 ≤ F := by omega
      have F1 : F < 340282366920938463463374607431768211456 := by omega
      rw [← ea, show A % 18446744073709551616 = A by omega] at ca
      rw [← eb, show B % 18446744073709551616 = B by omega] at cb
      rw [← ec, show C % 18446744073709551616 = C by omega] at cc
      rw [← ed, show D % 18446744073709551616 = D by omega] at cd
      rw [← ef] at cl' ch'
      obtain ⟨h, l, h0, h1, l0, l1, e1, c1⟩ := mul64_at A B (by omega) (by omega) (by omega) (by omega)
      obtain ⟨h', l', h0', h1', l0', l1', e2, c2⟩ := mul64_at C D (by omega) (by omega) (by omega) (by omega)
      obtain ⟨S, O, s0, s1, o0, o1, hs, c3⟩ := add64_at l l' 0 l0 l1 l0' l1' (by omega) (by omega)
      obtain ⟨T, P, t0, t1, p0, p1, ht, c4⟩ := add64_at h h' O h0 h1 h0' h1' o0 o1
      obtain ⟨eT, eS⟩ := halves_mul e1 e2 hF F1 F0 o0 o1 s0 s1 hs p0 p1 t0 t1 ht
      rw [← eT] at ch'
      rw [← eS] at cl'
      have C1 := hide c1; have C2 := hide c2; have C3 := hide c3; have C4 := hide c4
      have bT : (T == T) = true := by simp
      have bS : (S == S) = true := by simp
      clear c1 c2 c3 c4 e1 e2 hs ht eT eS hF F0 F1 fa fb fc fd fw fe ea eb ec ed ef hch hcl
      go_wp2
      go_quiet (first | (go_at_call 16; exact Calls.quiet_of_same (C1.out _)))
      go_wp2
      generalize hwq : wr.drewN _ = wq
      have dc : wq.cell? ⟨bl, ol + p, none⟩ = some (.int .u64 C) := by rw [← hwq]; exact cc
      have dd : wq.cell? ⟨bl, ol + (q + 1), none⟩ = some (.int .u64 D) := by rw [← hwq]; exact cd
      have dl : wq.cell? ⟨bl, ol + (p + 1 + (q + 1)), none⟩ = some (.int .u64 S) := by rw [← hwq]; exact cl'
      have dh : wq.cell? ⟨bh, oh + (p + 1 + (q + 1)), none⟩ = some (.int .u64 T) := by rw [← hwq]; exact ch'
      have HBq : Hid (Below w.heap.size w wq) := by rw [← hwq]; exact below_drewN HB.out _
      clear hwq ca cb cc cd cl' ch' HB OH OL NE
      go_quiet (first | (go_at_call 16; exact Calls.quiet_of_same (C2.out _)))
      go_wp2_with fail
      refine (C3.out _).mono ?_
      rintro e w' ⟨rfl, rfl⟩
      go_wp2_with fail
      refine (C4.out _).mono ?_
      rintro e w' ⟨rfl, rfl⟩
      go_wp2_with fail
      refine (add64 _ _ _ _ (by omega) (by omega) (by omega) (by omega) (by omega) (by omega)).mono ?_
      rintro e w' ⟨t, o, rfl, rfl, _, _, _, _, ht⟩
      obtain rfl : t = 3 := by omega
      clear ht
      go_wp2
      go_ret
      exact ⟨rfl, below_drewN HBq.out _⟩

theorem walk (M N : Int) {w : World} (w0 : (Lit.int .u8 M).wf = true) (w1 : (Lit.int .u8 N).wf = true) :
    Calls Try.prog 14 #[.int .u8 M, .int .u8 N] w fun e w' => e = .returned (.bool true) ∧ Below w.heap.size w w' := by
  obtain ⟨m0, m1⟩ := bounds_u8 w0
  obtain ⟨n0, n1⟩ := bounds_u8 w1
  obtain ⟨p, hp⟩ := Int.eq_ofNat_of_zero_le (show 0 ≤ M % 90 by omega)
  obtain ⟨q, hq⟩ := Int.eq_ofNat_of_zero_le (show 0 ≤ N % 90 by omega)
  exact walk_at M N p q m0 m1 n0 n1 hp hq (by omega) (by omega)
end Go.Proofs.Ytmfcmnhfbaennaa.fnFibonacci
