/-
  append(out, xs...) of a slice of the call's own, whatever row xs is; slices that are written out.
-/
import Derived.Test.YtgjniomloooccaaDoorWords
import Derived.Maps.AppendAt
import Derived.Laws.AppendOwnNone
namespace Go.Proofs.YtgjniomloooccaaDoor
open Go.RowKit
set_option linter.unusedVariables false

/-- A slice that is nil has no capacity. -/
def Shaped (v : Value) : Prop := v = .slice none 0 0 ∨ ∃ ad n c, v = .slice (some ad) n c

theorem shaped_owns {w : World} {base : Nat} {e : TypeId} {v : Value} {n : Nat} {xs : List Value} (h : w.ownsRow base e 1 v n xs) : Shaped v := by
  rcases h.2 with ⟨rfl, _⟩ | ⟨g, cap, cur, rfl, _⟩
  · exact Or.inl rfl
  · exact Or.inr ⟨_, _, _, rfl⟩

theorem row_of_owns' {w : World} {base : Nat} {e : TypeId} {v : Value} {n : Nat} {ys : List Value} (h : w.ownsRow base e 1 v n ys) (xs : List Int) (hy : ys = xs.map (Value.int .u64)) : Row w v xs := by
  subst hy; exact row_of_owns h
theorem info_u64a : (Tryd.prog.info? 22).map (fun i => (i.zero, i.size, i.bytes)) = some (some (.int .u64 0), 1, 8) := by kernel_rfl

theorem wpList_append_row (w : World) {ops : Array Oper} {rest : List Oper} {o : Oper} {a : Act} {Q : Exit → Act → World → Prop} (hgd : o.guard = none) (s x : Operand)
    (ho : o.op = .call { callee := .builtin .append, args := #[s, x], argTypes := #[23, 23] })
    (base : Nat) (v : Value) (n : Nat) (xs : List Int) (hs : a.eval s = v) (hown : w.ownsRow base 22 1 v n (xs.map (Value.int .u64)))
    (u : Value) (zs : List Int) (hx : a.eval x = u) (hr : Row w u zs) (hsh : Shaped u)
    (hb : (n + zs.length) * 8 ≤ 140737488355328) (hbase : base ≤ w.heap.size)
    (h : ∀ v' w', w'.ownsRow base 22 1 v' (n + zs.length) ((xs ++ zs).map (Value.int .u64)) → w.grownBy w' v.ownBlock → (v'.ownBlock = v.ownBlock ∨ v'.ownBlock = some w.heap.size) → wpList Tryd.prog ops Q rest (a.put o.dst v') w') :
    wpList Tryd.prog ops Q (o :: rest) a w := by
  obtain ⟨i0, hi, hz0, hz1, hz2⟩ := info_parts info_u64a
  obtain ⟨ao, cap, hu, hc⟩ := hr
  have low : ∀ ad : Addr, a.eval x = .slice (some ad) zs.length cap → (∀ j q, (zs.map (Value.int .u64))[j]? = some q → w.cell? (ad.add j) = some q) → wpList Tryd.prog ops Q (o :: rest) a w := by
    intro ad hax hcell
    refine wpList_append_own_at w hgd s x 23 ho base 22 i0 (.int .u64 0) 1 8 Tryd.underlying23 hi hz0 hz1 hz2 rfl (by decide) v n _ hs hown ad zs.length cap (zs.map (Value.int .u64)) hax (by simp) hcell ?_ (by unfold maxLen; omega) hb hbase ?_
    · intro q hq
      simp at hq
      obtain ⟨z, _, rfl⟩ := hq
      rfl
    · intro v' w' h1 h2 _ h4
      exact h v' w' (by rw [List.map_append]; exact h1) h2 h4
  by_cases hz : zs = []
  · subst hz
    rcases hsh with rfl | ⟨ad, m, c, rfl⟩
    · refine wpList_append_own_none hgd s x 23 ho base 22 i0 1 Tryd.underlying23 hi v n _ hs hown hx ?_
      have := h v w (by simpa using hown) ⟨rfl, rfl, rfl, Nat.le_refl _, fun _ _ _ => rfl⟩ (Or.inl rfl)
      exact this
    · cases hu
      exact low ad hx (by simp)
  · obtain ⟨b, off, rfl, hlt, hcell⟩ := hc hz
    refine low ⟨b, off, none⟩ (by rw [hx, hu]) ?_
    intro j q hq
    have hj : j < zs.length := by
      rcases Nat.lt_or_ge j zs.length with h | h
      · exact h
      · rw [List.getElem?_eq_none (by simpa using h)] at hq; cases hq
    rw [List.getElem?_map, List.getElem?_eq_getElem hj] at hq
    have := hcell j hj
    simp only [Option.map_some, Option.some.injEq] at hq
    rw [← hq]
    have e : (⟨b, off, none⟩ : Addr).add j = ⟨b, off + j, none⟩ := by
      by_cases h0 : j = 0
      · subst h0; rfl
      · simp [Addr.add, h0]
    rw [e, this]
    simp [List.getD, hj]

/-- A slice that is written out. -/
theorem row_made (w : World) (xs : List Int) (arr : Array Value) (h : arr = (xs.map (Value.int .u64)).toArray) (n : Nat) (hn : n = xs.length) : Row (w.alloc (.cells arr 22)) (.slice (some ⟨w.heap.size, 0, none⟩) n n) xs := by
  subst h hn
  refine ⟨_, _, rfl, fun hx => ⟨w.heap.size, 0, rfl, by simp, fun i hi => ?_⟩⟩
  simp [hi, List.getD]
theorem owns_made (w : World) (base : Nat) (hb : base ≤ w.heap.size) (xs : List Int) (arr : Array Value) (h : arr = (xs.map (Value.int .u64)).toArray) (n : Nat) (hn : n = xs.length) (hl : n ≤ maxLen) :
    (w.alloc (.cells arr 22)).ownsRow base 22 1 (.slice (some ⟨w.heap.size, 0, none⟩) n n) n (xs.map (Value.int .u64)) := by
  subst h hn
  refine ⟨by simp, .inr ⟨w.heap.size, xs.length, _, rfl, hb, heap_alloc_new w _, Nat.le_refl _, hl, by simp, by simp [List.take_of_length_le]⟩⟩
end Go.Proofs.YtgjniomloooccaaDoor
