/-
  What impl.AddWords returns: the sums word by word, as long as both have words.
-/
import Derived.Test.YtgjniomloooccaaDoorWords
import Derived.Laws.Externs
namespace Go.Proofs.YtgjniomloooccaaDoor
open Go.RowKit
set_option linter.unusedVariables false

/-- The sums of the lowest k words and what is carried out of them. -/
def sumK (xs ys : List Int) (c : Int) : Nat → List Int × Int
  | 0 => ([], c)
  | k + 1 => ((sumK xs ys c k).1 ++ [(xs.getD k 0 + ys.getD k 0 + (sumK xs ys c k).2) % 18446744073709551616], (xs.getD k 0 + ys.getD k 0 + (sumK xs ys c k).2) / 18446744073709551616)

theorem sumK_length (xs ys : List Int) (c : Int) (k : Nat) : (sumK xs ys c k).1.length = k := by
  induction k with
  | zero => rfl
  | succ k ih => simp [sumK, ih]
theorem sumK_carry {xs ys : List Int} {c : Int} (hx : Ws xs) (hy : Ws ys) (h0 : 0 ≤ c) (h1 : c ≤ 1) (k : Nat) : 0 ≤ (sumK xs ys c k).2 ∧ (sumK xs ys c k).2 ≤ 1 := by
  induction k with
  | zero => exact ⟨h0, h1⟩
  | succ k ih => have := hx k; have := hy k; simp only [sumK]; omega

theorem info_u64 : (Tryd.prog.info? 22).map (fun i => (i.zero, i.size, i.bytes)) = some (some (.int .u64 0), 1, 8) := by kernel_rfl

theorem addWords_call (x y c : Int) (hx : 0 ≤ x) (hy : 0 ≤ y) (hc : 0 ≤ c) (hc' : c ≤ 1) (w : World) :
    (callFunc 25 #[.int .u64 x, .int .u64 y, .int .u64 c]).run Tryd.prog w =
      .ok (.value (.tuple #[.int .u64 ((x + y + c) % 18446744073709551616), .int .u64 ((x + y + c) / 18446744073709551616)])) w := by
  rw [run_callFunc_extern Tryd.func25 (by kernel_rfl) (by kernel_rfl) (by kernel_rfl) (e := add64Entry) (by kernel_rfl), run_add64 x y c hx hy hc hc']
  rfl

def AddWordsPost (xs ys : List Int) (c : Int) (w : World) (e : Ending) (w' : World) : Prop :=
  ∃ v, e = .returned (.tuple #[v, .int .u64 (sumK xs ys c (min xs.length ys.length)).2]) ∧ Row w' v (sumK xs ys c (min xs.length ys.length)).1 ∧ Below w.heap.size w w'

/-- Both have words. -/
theorem addWords_full (xs ys : List Int) (b off cap b2 off2 cap2 : Nat) (c : Int) (w : World) (hx : Ws xs) (hy : Ws ys) (h0 : 0 ≤ c) (h1 : c ≤ 1) (hr : xs.length * 8 ≤ 140737488355328) (hr2 : ys.length ≤ 9223372036854775807)
    (hb : b < w.heap.size) (hb2 : b2 < w.heap.size) (hcx : ∀ i, i < xs.length → w.cell? ⟨b, off + i, none⟩ = some (.int .u64 (xs.getD i 0))) (hcy : ∀ i, i < ys.length → w.cell? ⟨b2, off2 + i, none⟩ = some (.int .u64 (ys.getD i 0))) :
    Calls Tryd.prog 12 #[.slice (some ⟨b, off, none⟩) xs.length cap, .slice (some ⟨b2, off2, none⟩) ys.length cap2, .int .u64 c] w (AddWordsPost xs ys c w) := by
  obtain ⟨n, hn⟩ : ∃ n, n = xs.length := ⟨_, rfl⟩
  obtain ⟨m, hm⟩ : ∃ m, m = ys.length := ⟨_, rfl⟩
  have HX := hide hcx; clear hcx
  have HY := hide hcy; clear hcy
  have KX := hide hx; clear hx
  have KY := hide hy; clear hy
  rw [← hn, ← hm]
  rw [← hn] at hr
  rw [← hm] at hr2
  have HN := hide hn; clear hn
  have HM := hide hm; clear hm
  obtain ⟨i0, hi, hz0, hz1, hz2⟩ := info_parts info_u64
  go_enter Tryd.func12, Tryd.ntmps12
  go_wp2
  go_loopw [2, 8, 9] (fun c' v i wr => ∃ (k : Nat) (C : Int) (zs : List Int), k ≤ min n m ∧ i = .int .i64 k ∧ c' = .int .u64 C ∧ Hid (sumK xs ys c k = (zs, C)) ∧ wr.ownsRow w.heap.size 22 1 v k (zs.map (Value.int .u64)) ∧ Below w.heap.size w wr)
    (fun _ _ i _ => n - (intOf i).toNat)
  case atStart =>
    refine ⟨0, c, [], Nat.zero_le _, rfl, rfl, rfl, ?_, (Below.refl _ _).alloc (Nat.le_refl _) _⟩
    exact World.ownsRow_made w #[] 0 (Nat.le_refl _) (by unfold maxLen; omega) rfl
  case round =>
    obtain ⟨k, C, zs, hk, rfl, rfl, hS, hown, hbel⟩ := hrel
    have cb := sumK_carry KX.out KY.out h0 h1 k
    rw [hS.out] at cb
    obtain ⟨cb0, cb1⟩ := cb
    have zl : zs.length = k := by have := sumK_length xs ys c k; rw [hS.out] at this; exact this
    have ZL := hide zl; clear zl
    by_cases hlt : k < min n m
    · have hkn : k < n := by omega
      have hkm : k < m := by omega
      obtain ⟨X, eX⟩ : ∃ X, X = xs.getD k 0 := ⟨_, rfl⟩
      obtain ⟨Y, eY⟩ : ∃ Y, Y = ys.getD k 0 := ⟨_, rfl⟩
      have X01 := KX.out k
      have Y01 := KY.out k
      rw [← eX] at X01
      rw [← eY] at Y01
      obtain ⟨X0, X1⟩ := X01
      obtain ⟨Y0, Y1⟩ := Y01
      have cx : wr.cell? ⟨b, off + k, none⟩ = some (.int .u64 X) := (hbel.cell (p := ⟨b, off + k, none⟩) hb).trans (by rw [eX]; exact HX.out k (by rw [← HN.out]; exact hkn))
      have cy : wr.cell? ⟨b2, off2 + k, none⟩ = some (.int .u64 Y) := (hbel.cell (p := ⟨b2, off2 + k, none⟩) hb2).trans (by rw [eY]; exact HY.out k (by rw [← HM.out]; exact hkm))
      obtain ⟨S, eS⟩ : ∃ S, S = (X + Y + C) % 18446744073709551616 := ⟨_, rfl⟩
      obtain ⟨O, eO⟩ : ∃ O, O = (X + Y + C) / 18446744073709551616 := ⟨_, rfl⟩
      have r := addWords_call X Y C X0 Y0 cb0 cb1
      rw [← eS, ← eO] at r
      have R := hide (show sumK xs ys c (k + 1) = (zs ++ [S], O) by simp only [sumK, hS.out]; rw [eS, eO, eX, eY])
      clear eS eO eX eY hS
      have HB := hide hbel; clear hbel
      have HO := hide hown; clear hown
      go_wp2
      go_quiet (fail)
      go_wp2_with (at_builtin; refine wpList_append_own _ rfl _ _ 23 rfl w.heap.size 22 i0 (.int .u64 0) 1 8 Tryd.underlying23 hi hz0 hz1 hz2 rfl (by decide) _ _ _ rfl (by exact HO.out.alloc _) ⟨wr.heap.size, 0, none⟩ 1 1 [.int .u64 S] rfl rfl ?c1 ?c2 ?c3 ?c4 ?c5 ?_)
      case c1 =>
        intro j u hj
        match j, hj with
        | 0, hj => simp at hj; subst hj; exact new_cell _ _ _ _
      case c2 => intro u hu; simp at hu; subst hu; rfl
      case c3 => unfold maxLen; omega
      case c4 => omega
      case c5 => have := HB.out.size; simp; omega
      · intro v' w1 hown' hgrow _
        have HB' := hide (append_below HB.out HO.out hgrow)
        have HO' := hide hown'
        clear hown' hgrow HB HO cx cy r
        go_wp2
        go_roundw
        case rel => exact ⟨k + 1, O, zs ++ [S], by omega, by go_num, rfl, R, by rw [List.map_append]; exact HO'.out, HB'.out⟩
        case measure => simp [intOf]; omega
    · have hmin : k = min n m := by omega
      have E : sumK xs ys c (min xs.length ys.length) = (zs, C) := by rw [← HN.out, ← HM.out, ← hmin]; exact hS.out
      have HE := hide E
      have HR := hide (row_of_owns hown)
      have HB := hide hbel
      clear E hown hbel hS hmin
      by_cases hkn : k < n
      · have hkm : ¬ k < m := by omega
        go_wp2
        go_ret2
        exact ⟨_, by rw [HE.out]; rfl, by rw [HE.out]; exact HR.out, HB.out⟩
      · go_wp2
        go_ret2
        exact ⟨_, by rw [HE.out]; rfl, by rw [HE.out]; exact HR.out, HB.out⟩

/-- One of both has none. -/
theorem addWords_none (xs ys : List Int) (a a2 : Option Addr) (cap cap2 : Nat) (c : Int) (w : World) (h : xs.length = 0 ∨ ys.length = 0) (hr : xs.length ≤ 9223372036854775807) (hr2 : ys.length ≤ 9223372036854775807) :
    Calls Tryd.prog 12 #[.slice a xs.length cap, .slice a2 ys.length cap2, .int .u64 c] w (AddWordsPost xs ys c w) := by
  have hm : min xs.length ys.length = 0 := by omega
  have HM := hide hm; clear hm
  obtain ⟨n, hn⟩ : ∃ n, n = xs.length := ⟨_, rfl⟩
  obtain ⟨m, hm⟩ : ∃ m, m = ys.length := ⟨_, rfl⟩
  rw [← hn, ← hm]
  rw [← hn] at hr h
  rw [← hm] at hr2 h
  have HN := hide hn; clear hn
  have HM2 := hide hm; clear hm
  have fin : AddWordsPost xs ys c w (.returned (.tuple #[.slice (some ⟨w.heap.size, 0, none⟩) 0 0, .int .u64 c])) (w.alloc (.cells #[] 22)) :=
    ⟨_, by rw [HM.out]; rfl, by rw [HM.out]; exact ⟨_, 0, rfl, fun h => absurd rfl h⟩, (Below.refl _ _).alloc (Nat.le_refl _) _⟩
  have F := hide fin; clear fin
  by_cases hn0 : n = 0
  · subst hn0
    go_enter Tryd.func12, Tryd.ntmps12
    go_wp2
    refine wp_loop_rounds 1 ?_
    rw [rounds_succ]
    go_wp2
    go_ret2
    exact F.out
  · obtain rfl : m = 0 := by omega
    have hp : 0 < n := by omega
    go_enter Tryd.func12, Tryd.ntmps12
    go_wp2
    refine wp_loop_rounds 1 ?_
    rw [rounds_succ]
    go_wp2
    go_ret2
    exact F.out

theorem addWords (xs ys : List Int) (v v2 : Value) (c : Int) (w : World) (hx : Ws xs) (hy : Ws ys) (h0 : 0 ≤ c) (h1 : c ≤ 1) (hr : xs.length * 8 ≤ 140737488355328) (hr2 : ys.length ≤ 9223372036854775807) (rx : Row w v xs) (ry : Row w v2 ys) :
    Calls Tryd.prog 12 #[v, v2, .int .u64 c] w (AddWordsPost xs ys c w) := by
  obtain ⟨a, cap, rfl, hcx⟩ := rx
  obtain ⟨a2, cap2, rfl, hcy⟩ := ry
  by_cases hz : xs.length = 0 ∨ ys.length = 0
  · exact addWords_none xs ys a a2 cap cap2 c w hz (by omega) hr2
  · obtain ⟨b, off, rfl, hb, hcx⟩ := hcx (fun h => hz (Or.inl (by rw [h]; rfl)))
    obtain ⟨b2, off2, rfl, hb2, hcy⟩ := hcy (fun h => hz (Or.inr (by rw [h]; rfl)))
    exact addWords_full xs ys b off cap b2 off2 cap2 c w hx hy h0 h1 hr hr2 hb hb2 hcx hcy
end Go.Proofs.YtgjniomloooccaaDoor
