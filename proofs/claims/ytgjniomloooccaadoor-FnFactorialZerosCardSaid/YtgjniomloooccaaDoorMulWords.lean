/-
  What impl.MulWords returns: the upper halves of the products, and the lower ones.
-/
import Derived.Test.YtgjniomloooccaaDoorWords
import Derived.Test.YtgjniomloooccaaDoorMul64b
import Derived.Maps.AppendAt
namespace Go.Proofs.YtgjniomloooccaaDoor
open Go.RowKit
set_option linter.unusedVariables false

def his (xs : List Int) (y : Int) : List Int := xs.map fun x => x * y / 18446744073709551616
def los (xs : List Int) (y : Int) : List Int := xs.map fun x => x * y % 18446744073709551616

theorem info_u64m : (Tryd.prog.info? 22).map (fun i => (i.zero, i.size, i.bytes)) = some (some (.int .u64 0), 1, 8) := by kernel_rfl

theorem two_rows {wr w1 : World} {B : Nat} {T : TypeId} {u v v' : Value} {k m : Nat} {l l' : List Value} {o : Obj} (hu : wr.ownsRow B T 1 u k l) (hv : wr.ownsRow B T 1 v m l') (hne : u.ownBlock ≠ v.ownBlock)
    (hg : (wr.alloc o).grownBy w1 u.ownBlock) (hat : v'.ownBlock = u.ownBlock ∨ v'.ownBlock = some (wr.heap.size + 1)) : w1.ownsRow B T 1 v m l' ∧ v'.ownBlock ≠ v.ownBlock := by
  refine ⟨(hv.alloc o).kept hg (Or.inr hne.symm), ?_⟩
  rcases hat with h | h
  · rw [h]; exact hne
  · rw [h]
    intro e
    have := (hv.lt _ e.symm).2
    omega
theorem append_below0 {w wr w1 : World} {e : TypeId} {u : Value} {k : Nat} {l : List Value} {o : Obj} (hb : Below w.heap.size w wr) (hown : wr.ownsRow w.heap.size e 1 u k l) (hg : (wr.alloc o).grownBy w1 u.ownBlock) : Below w.heap.size w w1 := by
  have s := hb.size
  refine (hb.alloc s o).grown hg ?_ fun j hj => (hown.lt j hj).1
  simp
  omega
theorem take_succ_map {f : Int → Int} {xs : List Int} {k : Nat} (h : k < xs.length) : (xs.take (k + 1)).map f = (xs.take k).map f ++ [f (xs.getD k 0)] := by
  rw [List.take_succ_eq_append_getElem h, List.map_append]
  simp [List.getD, h]

def MulWordsPost (xs : List Int) (y : Int) (w : World) (e : Ending) (w' : World) : Prop :=
  ∃ v v2, e = .returned (.tuple #[v, v2]) ∧ Row w' v (his xs y) ∧ Row w' v2 (los xs y) ∧ Below w.heap.size w w'

/-- The same, with what the call's own slices own. -/
def MulWordsOwn (xs : List Int) (y : Int) (w : World) (e : Ending) (w' : World) : Prop :=
  ∃ v v2, e = .returned (.tuple #[v, v2]) ∧ w'.ownsRow w.heap.size 22 1 v xs.length ((his xs y).map (Value.int .u64)) ∧ w'.ownsRow w.heap.size 22 1 v2 xs.length ((los xs y).map (Value.int .u64)) ∧ v.ownBlock ≠ v2.ownBlock ∧ Below w.heap.size w w'

theorem mulWords_full (xs : List Int) (b off cap : Nat) (y : Int) (w : World) (hx : Ws xs) (h0 : 0 ≤ y) (h1 : y < 18446744073709551616) (hr : xs.length * 8 ≤ 140737488355328)
    (hb : b < w.heap.size) (hcx : ∀ i, i < xs.length → w.cell? ⟨b, off + i, none⟩ = some (.int .u64 (xs.getD i 0))) :
    Calls Tryd.prog 11 #[.slice (some ⟨b, off, none⟩) xs.length cap, .int .u64 y] w (MulWordsOwn xs y w) := by
  obtain ⟨n, hn⟩ : ∃ n, n = xs.length := ⟨_, rfl⟩
  have HX := hide hcx; clear hcx
  have KX := hide hx; clear hx
  rw [← hn]
  rw [← hn] at hr
  have HN := hide hn; clear hn
  obtain ⟨i0, hi, hz0, hz1, hz2⟩ := info_parts info_u64m
  go_enter Tryd.func11, Tryd.ntmps11
  go_wp2
  go_loopw [6, 7, 8] (fun vh vl i wr => ∃ (k : Nat) (hs ls : List Int), k ≤ n ∧ i = .int .i64 k ∧ Hid (hs = his (xs.take k) y ∧ ls = los (xs.take k) y) ∧ wr.ownsRow w.heap.size 22 1 vh k (hs.map (Value.int .u64)) ∧ wr.ownsRow w.heap.size 22 1 vl k (ls.map (Value.int .u64)) ∧ Hid (vh.ownBlock ≠ vl.ownBlock) ∧ Below w.heap.size w wr)
    (fun _ _ i _ => n - (intOf i).toNat)
  case atStart =>
    refine ⟨0, [], [], Nat.zero_le _, rfl, ⟨rfl, rfl⟩, ?_, ?_, ?_, ((Below.refl _ _).alloc (Nat.le_refl _) _).alloc ?_ _⟩
    · exact (World.ownsRow_made w #[] 0 (Nat.le_refl _) (by unfold maxLen; omega) rfl).alloc _
    · have q : ((w.alloc (.cells #[] 22)).alloc (.cells #[] 22)).ownsRow w.heap.size 22 1 (.slice (some ⟨(w.alloc (.cells #[] 22)).heap.size, 0, none⟩) 0 0) 0 [] := World.ownsRow_made (w.alloc (.cells #[] 22)) #[] 0 (by simp) (by unfold maxLen; omega) rfl
      simpa using q
    · intro h
      simp [Value.ownBlock] at h
    · simp
  case round =>
    obtain ⟨k, hs, ls, hk, rfl, hS, hoh, hol, hne, hbel⟩ := hrel
    by_cases hlt : k < n
    · obtain ⟨X, eX⟩ : ∃ X, X = xs.getD k 0 := ⟨_, rfl⟩
      have X01 := KX.out k
      rw [← eX] at X01
      obtain ⟨X0, X1⟩ := X01
      have cx : wr.cell? ⟨b, off + k, none⟩ = some (.int .u64 X) := (hbel.cell (p := ⟨b, off + k, none⟩) hb).trans (by rw [eX]; exact HX.out k (by rw [← HN.out]; exact hlt))
      have EX := hide eX; clear eX
      have HB := hide hbel; clear hbel
      have OH := hide hoh; clear hoh
      have OL := hide hol; clear hol
      go_wp2_with fail
      refine (mul64b _ _ _ X0 X1 h0 h1).mono ?_
      rintro e w' ⟨hi', lo, rfl, rfl, a0, a1, a2, a3, a5⟩
      have R : Hid (hs ++ [hi'] = his (xs.take (k + 1)) y ∧ ls ++ [lo] = los (xs.take (k + 1)) y) := by
        obtain ⟨e1, e2⟩ := hS.out
        have l : k < xs.length := by rw [← HN.out]; exact hlt
        unfold his los at *
        rw [take_succ_map l, take_succ_map l, ← e1, ← e2, ← EX.out, ← a5]
        refine ⟨?_, ?_⟩
        · congr 2; omega
        · congr 2; omega
      clear a5 hS
      go_wp2_with (at_builtin; refine wpList_append_own_at _ rfl (.tmp 28) (.tmp 30) 23 rfl w.heap.size 22 i0 (.int .u64 0) 1 8 Tryd.underlying23 hi hz0 hz1 hz2 rfl (by decide) _ _ _ rfl (by exact OH.out.alloc _) ⟨wr.heap.size, 0, none⟩ 1 1 [.int .u64 hi'] rfl rfl ?c1 ?c2 ?c3 ?c4 ?c5 ?_)
      case c1 => exact cell_one_new _ _ _
      case c2 => intro u hu; simp at hu; subst hu; rfl
      case c3 => unfold maxLen; omega
      case c4 => omega
      case c5 => have := HB.out.size; simp; omega
      · intro v' w1 hown' hgrow _ hat
        obtain ⟨hol', hne'⟩ := two_rows OH.out OL.out hne.out hgrow hat
        have HB' := hide (append_below0 HB.out OH.out hgrow)
        have OH' := hide hown'
        have OL' := hide hol'
        have NE' := hide hne'
        clear hown' hgrow hat HB OH OL hne cx hol' hne'
        go_wp2_with (at_builtin; refine wpList_append_own_at _ rfl (.tmp 32) (.tmp 34) 23 rfl w.heap.size 22 i0 (.int .u64 0) 1 8 Tryd.underlying23 hi hz0 hz1 hz2 rfl (by decide) _ _ _ rfl (by exact OL'.out.alloc _) ⟨w1.heap.size, 0, none⟩ 1 1 [.int .u64 lo] rfl rfl ?d1 ?d2 ?d3 ?d4 ?d5 ?_)
        case d1 => exact cell_one_new _ _ _
        case d2 => intro u hu; simp at hu; subst hu; rfl
        case d3 => unfold maxLen; omega
        case d4 => omega
        case d5 => have := HB'.out.size; simp; omega
        · intro v2 w2 hown2 hgrow2 _ hat2
          obtain ⟨hoh2, hne2⟩ := two_rows OL'.out OH'.out NE'.out.symm hgrow2 hat2
          have HB2 := hide (append_below0 HB'.out OL'.out hgrow2)
          have OL2 := hide hown2
          have OH2 := hide hoh2
          have NE2 := hide hne2
          clear hown2 hgrow2 hat2 HB' OH' OL' NE' hoh2 hne2
          go_wp2
          go_roundw
          case rel => exact ⟨k + 1, hs ++ [hi'], ls ++ [lo], by omega, by go_num, R, by rw [List.map_append]; exact OH2.out, by rw [List.map_append]; exact OL2.out, NE2.out.symm, HB2.out⟩
          case measure => simp [intOf]; omega
    · obtain rfl : k = n := by omega
      have E : hs = his xs y ∧ ls = los xs y := by
        have := hS.out
        rw [HN.out, List.take_length] at this
        exact this
      have HE := hide E
      have HR := hide hoh
      have HL := hide hol
      have HB := hide hbel
      clear E hoh hol hbel hS
      go_wp2
      go_ret2
      exact ⟨_, _, rfl, by rw [← HE.out.1, ← HN.out]; exact HR.out, by rw [← HE.out.2, ← HN.out]; exact HL.out, hne.out, HB.out⟩

theorem mulWords_none (a : Option Addr) (cap : Nat) (y : Int) (w : World) :
    Calls Tryd.prog 11 #[.slice a 0 cap, .int .u64 y] w (MulWordsOwn [] y w) := by
  have fin : MulWordsOwn [] y w (.returned (.tuple #[.slice (some ⟨w.heap.size, 0, none⟩) 0 0, .slice (some ⟨w.heap.size + 1, 0, none⟩) 0 0])) ((w.alloc (.cells #[] 22)).alloc (.cells #[] 22)) := by
    refine ⟨_, _, rfl, ?_, ?_, ?_, ((Below.refl _ _).alloc (Nat.le_refl _) _).alloc ?_ _⟩
    · exact (World.ownsRow_made w #[] 0 (Nat.le_refl _) (by unfold maxLen; omega) rfl).alloc _
    · have q : ((w.alloc (.cells #[] 22)).alloc (.cells #[] 22)).ownsRow w.heap.size 22 1 (.slice (some ⟨(w.alloc (.cells #[] 22)).heap.size, 0, none⟩) 0 0) 0 [] := World.ownsRow_made (w.alloc (.cells #[] 22)) #[] 0 (by simp) (by unfold maxLen; omega) rfl
      simpa [los] using q
    · intro h
      simp [Value.ownBlock] at h
    · simp
  have F := hide fin; clear fin
  go_enter Tryd.func11, Tryd.ntmps11
  go_wp2
  refine wp_loop_rounds 1 ?_
  rw [rounds_succ]
  go_wp2
  go_ret2
  exact F.out

theorem mulWords_own (xs : List Int) (v : Value) (y : Int) (w : World) (hx : Ws xs) (h0 : 0 ≤ y) (h1 : y < 18446744073709551616) (hr : xs.length * 8 ≤ 140737488355328) (rx : Row w v xs) :
    Calls Tryd.prog 11 #[v, .int .u64 y] w (MulWordsOwn xs y w) := by
  obtain ⟨a, cap, rfl, hcx⟩ := rx
  by_cases hz : xs = []
  · subst hz; exact mulWords_none a cap y w
  · obtain ⟨b, off, rfl, hb, hcx⟩ := hcx hz
    exact mulWords_full xs b off cap y w hx h0 h1 hr hb hcx

theorem mulWords (xs : List Int) (v : Value) (y : Int) (w : World) (hx : Ws xs) (h0 : 0 ≤ y) (h1 : y < 18446744073709551616) (hr : xs.length * 8 ≤ 140737488355328) (rx : Row w v xs) :
    Calls Tryd.prog 11 #[v, .int .u64 y] w (MulWordsPost xs y w) :=
  (mulWords_own xs v y w hx h0 h1 hr rx).mono fun e w' ⟨v, v2, he, o1, o2, _, hb⟩ => ⟨v, v2, he, row_of_owns o1, row_of_owns o2, hb⟩
end Go.Proofs.YtgjniomloooccaaDoor
