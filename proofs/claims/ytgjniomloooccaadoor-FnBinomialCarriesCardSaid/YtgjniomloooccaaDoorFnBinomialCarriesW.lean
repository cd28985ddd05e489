/-
  For all m and n of 8 bits, laws.FnBinomialCarries returns true. The walk.
-/
import Derived.Test.YtgjniomloooccaaDoorAppendRow
import Derived.Test.YtgjniomloooccaaDoorAt64
import Derived.Test.YtgjniomloooccaaDoorTz64
import Derived.Test.YtgjniomloooccaaDoorPop64s
import Derived.Test.YtgjniomloooccaaDoorPlainBinom
import Derived.WalkKit
import Derived.ProofKit
import Derived.OpenShut
namespace Go.Proofs.YtgjniomloooccaaDoor.fnBinomialCarries
open Go.ChangeShapes Go.WideShapes Go.ChangeAt Go.RowKit
set_option linter.unusedVariables false

theorem info_u64b : (Tryd.prog.info? 22).map (fun i => (i.zero, i.size, i.bytes)) = some (some (.int .u64 0), 1, 8) := by kernel_rfl
theorem tab_below {w w' : World} (h : Tab64 w) (hb : Below w.heap.size w w') : Tab64 w' := fun j hj =>
  (hb.cell (p := ⟨0, j, none⟩) (World.block_lt_of_cell? w _ (h j hj))).trans (h j hj)

/-- A row as a list of words. -/
def pasI (k : Nat) : List Int := (pas k).map fun n : Nat => (n : Int)
theorem pasI_len (k : Nat) : (pasI k).length = k + 1 := by rw [pasI, List.length_map, pas_len]
theorem pasI_at (k i : Nat) : (pasI k).getD i 0 = (((pas k).getD i 0 : Nat) : Int) := by
  by_cases h : i < (pas k).length
  · simp [pasI, List.getD, h]
  · simp [pasI, List.getD, List.getElem?_eq_none (show (pas k).length ≤ i by omega)]
theorem pasI_take (k t : Nat) (h : t < k + 1) : (pasI k).take (t + 1) = (pasI k).take t ++ [(((pas k).getD t 0 : Nat) : Int)] := by
  rw [List.take_succ_eq_append_getElem (by rw [pasI_len]; exact h), ← pasI_at]
  simp [List.getD, show t < (pasI k).length by rw [pasI_len]; exact h]
theorem pasI_one (k : Nat) : (pasI k).take 1 = [1] := by
  rw [pasI_take k 0 (by omega), pas_first]; rfl
theorem pasI_whole (k : Nat) : (pasI (k + 1)).take (k + 1) ++ [1] = pasI (k + 1) := by
  have h := pasI_take (k + 1) (k + 1) (by omega)
  rw [pas_last] at h
  have e : (pasI (k + 1)).take (k + 1 + 1) = pasI (k + 1) := List.take_of_length_le (by rw [pasI_len]; omega)
  rw [e] at h
  exact h.symm
theorem cells_row {w : World} {v : Value} {xs : List Int} {n : Nat} (h : Row w v xs) (hl : xs.length = n) (hn : 0 < n) :
    ∃ b off cap, v = .slice (some ⟨b, off, none⟩) n cap ∧ b < w.heap.size ∧ ∀ i, i < n → w.cell? ⟨b, off + i, none⟩ = some (.int .u64 (xs.getD i 0)) := by
  obtain ⟨a, cap, rfl, hc⟩ := h
  obtain ⟨b, off, rfl, hb, hc⟩ := hc (by intro h; rw [h] at hl; simp at hl; omega)
  rw [hl] at hc ⊢
  exact ⟨b, off, cap, rfl, hb, hc⟩
theorem append_below1 {w wr w1 : World} {B : Nat} {e : TypeId} {u : Value} {k : Nat} {l : List Value} {q : Nat} {o : Obj} (hb : Below B w wr) (hB : B ≤ wr.heap.size) (hown : wr.ownsRow B e 1 u k l) (hg : ((wr.drewN q).alloc o).grownBy w1 u.ownBlock) : Below B w w1 := by
  refine ((below_drewN hb q).alloc (by simpa using hB) o).grown hg ?_ fun j hj => (hown.lt j hj).1
  simp
  omega

set_option maxHeartbeats 1000000 in
set_option maxRecDepth 10000 in
theorem walk_at (M N : Int) (p q : Nat) {w : World} (T : Hid (Tab64 w)) (m0 : 0 ≤ M) (m1 : M ≤ 255) (n0 : 0 ≤ N) (n1 : N ≤ 255) (hp : M % 31 = (p : Int)) (hq : N % 31 = (q : Int)) (lp : p ≤ 30) (lq : q ≤ 30) :
    Calls Tryd.prog 7 #[.int .u8 M, .int .u8 N] w fun e w' => e = .returned (.bool true) ∧ Below w.heap.size w w' := by
  obtain ⟨i0, hi, hz0, hz1, hz2⟩ := info_parts info_u64b
  go_enter Tryd.func7, Tryd.ntmps7
  go_wp2
  clear hp hq m0 m1 n0 n1
  go_loopw [7, 8] (fun vr i wr => ∃ k : Nat, k ≤ p + q ∧ i = .int .u64 k ∧ Hid (Row wr vr (pasI k)) ∧ Hid (Below w.heap.size w wr))
    (fun _ i _ => p + q - (intOf i).toNat)
  case atStart =>
    exact ⟨0, by omega, rfl, row_made w [1] #[.int .u64 1] rfl 1 rfl, (Below.refl _ _).alloc (Nat.le_refl _) _⟩
  case round =>
    rename World => wo
    obtain ⟨k, hk, rfl, RR, HB⟩ := hrel
    obtain ⟨br, off, cr, rfl, hbr, hcr⟩ := cells_row RR.out (pasI_len k) (by omega)
    have HC := hide hcr; clear hcr
    by_cases hlt : k < p + q
    · have bt : decide ((k : Int) < (p : Int) + (q : Int)) = true := decide_eq_true (by omega)
      go_wp2
      clear bt
      go_loopw [9, 10] (fun vn j wi => ∃ t : Nat, 1 ≤ t ∧ t ≤ k + 1 ∧ j = .int .i64 t ∧ Hid (wi.ownsRow wo.heap.size 22 1 vn t (((pasI (k + 1)).take t).map (Value.int .u64))) ∧ Hid (Below wo.heap.size wo wi))
        (fun _ j _ => k + 1 - (intOf j).toNat)
      case atStart =>
        refine ⟨1, by omega, by omega, rfl, ?_, (Below.refl _ _).alloc (Nat.le_refl _) _⟩
        show World.ownsRow _ _ _ _ _ _ _
        rw [pasI_one]
        exact owns_made wo wo.heap.size (Nat.le_refl _) [1] #[.int .u64 1] rfl 1 rfl (by unfold maxLen; omega)
      case round =>
        obtain ⟨t, t1, ht, rfl, ON, HBi⟩ := hrel
        by_cases hlt2 : t < k + 1
        · have cx : wr.cell? ⟨br, off + (t - 1), none⟩ = some (.int .u64 (((pas k).getD (t - 1) 0 : Nat) : Int)) := (HBi.out.cell (p := ⟨br, off + (t - 1), none⟩) hbr).trans (by rw [← pasI_at]; exact HC.out _ (by omega))
          have cy : wr.cell? ⟨br, off + t, none⟩ = some (.int .u64 (((pas k).getD t 0 : Nat) : Int)) := (HBi.out.cell (p := ⟨br, off + t, none⟩) hbr).trans (by rw [← pasI_at]; exact HC.out _ (by omega))
          have st : (pas (k + 1)).getD t 0 = (pas k).getD (t - 1) 0 + (pas k).getD t 0 := by
            obtain ⟨u, rfl⟩ : ∃ u, t = u + 1 := ⟨t - 1, by omega⟩
            exact pas_step k u
          have wd := pas_word (show k + 1 ≤ 60 by omega) t
          have tk := pasI_take (k + 1) t (by omega)
          rw [st] at wd tk
          generalize (pas k).getD (t - 1) 0 = X at *
          generalize (pas k).getD t 0 = Y at *
          obtain ⟨S, O, s0, s1, o0, o1, hs, cs⟩ := add64_at X Y 0 (by omega) (by omega) (by omega) (by omega) (by omega) (by omega)
          have eS : S = ((X + Y : Nat) : Int) := by omega
          rw [← eS] at tk
          have TK := hide tk; have CS := hide cs
          clear tk cs hs eS st
          go_wp2
          go_quiet (first | (go_at_call 15; exact Calls.quiet_of_same (CS.out _)))
          clear cx cy
          go_wp2_with (at_builtin; refine wpList_append_own _ rfl _ _ 23 rfl wo.heap.size 22 i0 (.int .u64 0) 1 8 Tryd.underlying23 hi hz0 hz1 hz2 rfl (by decide) _ _ _ rfl (by exact ON.out.alloc _) ⟨wr.heap.size, 0, none⟩ 1 1 [.int .u64 S] rfl rfl ?c1 ?c2 ?c3 ?c4 ?c5 ?_)
          case c1 =>
            intro j u hj
            match j, hj with
            | 0, hj => simp at hj; subst hj; exact new_cell _ _ _ _
          case c2 => intro u hu; simp at hu; subst hu; rfl
          case c3 => unfold maxLen; omega
          case c4 => omega
          case c5 => have := HBi.out.size; simp; omega
          · intro v' w1 hown' hgrow _
            have HB' := hide (append_below1 HBi.out HBi.out.size ON.out hgrow)
            have ON' := hide hown'
            clear hown' hgrow HBi ON
            go_wp2
            go_roundw
            case rel =>
              refine ⟨t + 1, by omega, by omega, by go_num, ?_, HB'.out⟩
              show World.ownsRow _ _ _ _ _ _ _
              rw [TK.out, List.map_append, List.map_take]
              exact ON'.out
            case measure => simp [intOf]; omega
        · obtain rfl : t = k + 1 := by omega
          go_wp2_with (at_builtin; refine wpList_append_row _ rfl (.tmp 52) (.tmp 53) rfl wo.heap.size _ (k + 1) ((pasI (k + 1)).take (k + 1)) rfl (by exact ON.out.alloc _) _ [1] rfl (row_made wr [1] _ rfl 1 rfl) (Or.inr ⟨_, _, _, rfl⟩) (by simp only [List.length_cons, List.length_nil]; omega) (by have := HBi.out.size; simp; omega) ?_)
          intro v' w1 hown' hgrow _
          have HB' := hide (append_below1 (q := 0) HBi.out HBi.out.size ON.out hgrow)
          have RN := hide (row_of_owns' hown' (pasI (k + 1)) (by have h := congrArg (List.map (Value.int .u64)) (pasI_whole k); simpa using h))
          have HB2 := hide (HB.out.trans (HB'.out.mono HB.out.size))
          clear hown' hgrow HBi ON HB'
          go_wp2
          go_roundw
          case rel => exact ⟨k + 1, by omega, by go_num, RN.out, HB2.out⟩
          case measure => simp [intOf]; omega
    · obtain rfl : k = p + q := by omega
      have cx : wo.cell? ⟨br, off + p, none⟩ = some (.int .u64 (((pas (p + q)).getD p 0 : Nat) : Int)) := by rw [← pasI_at]; exact HC.out _ (by omega)
      obtain ⟨b1, b2, b3⟩ := binom_ok lp lq
      have wd := pas_word (show p + q ≤ 60 by omega) p
      have pos := Roads.isTz_pos b2
      generalize (pas (p + q)).getD p 0 = c at *
      obtain ⟨A, eA⟩ : ∃ A, A = Roads.pop 64 p := ⟨_, rfl⟩
      obtain ⟨B, eB⟩ : ∃ A, A = Roads.pop 64 q := ⟨_, rfl⟩
      obtain ⟨D, eD⟩ : ∃ A, A = Roads.pop 64 (p + q) := ⟨_, rfl⟩
      have lA : A ≤ 64 := by rw [eA]; exact Roads.pop_le _ _
      have lB : B ≤ 64 := by rw [eB]; exact Roads.pop_le _ _
      have lD : D ≤ 64 := by rw [eD]; exact Roads.pop_le _ _
      rw [← eA, ← eB, ← eD] at b1 b2
      have and1 : bits .and .u64 (p : Int) (q : Int) = ((p &&& q : Nat) : Int) := u64_and_nat p q (by omega) (by omega)
      generalize p &&& q = E at *
      have EA := hide eA; have EB := hide eB; have ED := hide eD; have B2 := hide b2
      have T' := hide (tab_below T.out HB.out)
      clear eA eB eD b2 HC RR
      go_wp2_with fail
      refine (tz64_pos _ _ (by omega) (by omega) T'.out).mono ?_
      rintro e w' ⟨z, rfl, rfl, z1, z2⟩
      obtain rfl : z = A + B - D := Roads.isTz_unique z1 B2.out
      clear z1
      go_wp2_with fail
      refine (pop64_same p A EA.out _ (by omega)).mono ?_
      rintro e w' ⟨rfl, rfl⟩
      go_wp2_with fail
      refine (pop64_same q B EB.out _ (by omega)).mono ?_
      rintro e w' ⟨rfl, rfl⟩
      go_wp2_with fail
      refine (pop64_same (p + q) D ED.out _ (by omega)).mono ?_
      rintro e w' ⟨rfl, rfl⟩
      have e1 : ((A + B - D : Nat) : Int) = (A : Int) + (B : Int) - (D : Int) := by omega
      rw [e1] at *
      have b0 : ((A : Int) + (B : Int) - (D : Int) == (A : Int) + (B : Int) - (D : Int)) = true := by simp
      by_cases hE : E = 0
      · subst hE
        have c2 : (c : Int) % 2 = 1 := by have := b3.mpr rfl; omega
        clear b3 e1
        go_wp2_with fail
        refine (pop64_same 1 1 (show 1 = Roads.pop 64 1 by decide +kernel) _ (by omega)).mono ?_
        rintro e w' ⟨rfl, rfl⟩
        go_wp2
        go_ret
        exact ⟨rfl, HB.out⟩
      · have c2 : (c : Int) % 2 = 0 := by
          have : ¬ c % 2 = 1 := fun h => hE (b3.mp h)
          omega
        have b4 : ((E : Int) == 0) = false := beq_eq_false_iff_ne.mpr (by omega)
        clear b3 e1 hE
        go_wp2_with fail
        refine (pop64_same 1 1 (show 1 = Roads.pop 64 1 by decide +kernel) _ (by omega)).mono ?_
        rintro e w' ⟨rfl, rfl⟩
        go_wp2
        go_ret
        exact ⟨rfl, HB.out⟩

theorem walk (M N : Int) {w : World} (w0 : (Lit.int .u8 M).wf = true) (w1 : (Lit.int .u8 N).wf = true) (hT : Tab64 w) :
    Calls Tryd.prog 7 #[.int .u8 M, .int .u8 N] w fun e w' => e = .returned (.bool true) ∧ Below w.heap.size w w' := by
  obtain ⟨m0, m1⟩ := bounds_u8 w0
  obtain ⟨n0, n1⟩ := bounds_u8 w1
  obtain ⟨p, hp⟩ := Int.eq_ofNat_of_zero_le (show 0 ≤ M % 31 by omega)
  obtain ⟨q, hq⟩ := Int.eq_ofNat_of_zero_le (show 0 ≤ N % 31 by omega)
  exact walk_at M N p q hT m0 m1 n0 n1 hp hq (by omega) (by omega)
end Go.Proofs.YtgjniomloooccaaDoor.fnBinomialCarries
