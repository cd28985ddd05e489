/-
  Slices of words as lists of numbers: what a walk is told of them, and how that lasts.
-/
import Derived.Test.YtgjniomloooccaaDoorBase
import Derived.Laws.OwnMore
import Derived.OwnWalk
import Derived.Below
import Derived.WalkSmall
namespace Go.Proofs.YtgjniomloooccaaDoor
open Go.RowKit

/-- The slice value v reads as the list xs in the world w. -/
def Row (w : World) (v : Value) (xs : List Int) : Prop :=
  ∃ a cap, v = .slice a xs.length cap ∧ (xs ≠ [] → ∃ b off, a = some ⟨b, off, none⟩ ∧ b < w.heap.size ∧ ∀ i, i < xs.length → w.cell? ⟨b, off + i, none⟩ = some (.int .u64 (xs.getD i 0)))
/-- Each number is a word. -/
def Ws (xs : List Int) : Prop := ∀ i, 0 ≤ xs.getD i 0 ∧ xs.getD i 0 < 18446744073709551616

theorem Row.mono {w w' : World} {v : Value} {xs : List Int} (h : Row w v xs) (hb : Below w.heap.size w w') : Row w' v xs := by
  obtain ⟨a, cap, rfl, h⟩ := h
  refine ⟨a, cap, rfl, fun hx => ?_⟩
  obtain ⟨b, off, rfl, hlt, hc⟩ := h hx
  exact ⟨b, off, rfl, Nat.lt_of_lt_of_le hlt hb.size, fun i hi => (hb.cell (p := ⟨b, off + i, none⟩) hlt).trans (hc i hi)⟩

theorem row_of_owns {w : World} {base : Nat} {e : TypeId} {v : Value} {n : Nat} {xs : List Int} (h : w.ownsRow base e 1 v n (xs.map (Value.int .u64))) : Row w v xs := by
  have hl : xs.length = n := by simpa using h.1
  subst hl
  rcases h.2 with ⟨rfl, h0⟩ | ⟨g, cap, cur, rfl, _, hg, hle, _, hs, ht⟩
  · have : xs = [] := List.eq_nil_of_length_eq_zero h0
    subst this
    exact ⟨none, 0, rfl, fun h => absurd rfl h⟩
  · refine ⟨some ⟨g, 0, none⟩, cap, rfl, fun hx => ⟨g, 0, rfl, ?_, fun i hi => ?_⟩⟩
    · rcases Nat.lt_or_ge g w.heap.size with hlt | hge
      · exact hlt
      · rw [Array.getElem?_eq_none hge] at hg; cases hg
    · have := World.ownsRow.cellAt h i (by omega)
      rw [Nat.zero_add, this, List.getElem?_map, List.getElem?_eq_getElem hi]
      simp [List.getD, hi]

theorem ws_append {xs : List Int} {z : Int} (h : Ws xs) (h0 : 0 ≤ z) (h1 : z < 18446744073709551616) : Ws (xs ++ [z]) := by
  intro i
  by_cases hi : i < xs.length
  · have := h i
    simpa [List.getD, List.getElem?_append_left hi] using this
  · by_cases he : i = xs.length
    · subst he; simp [List.getD]; omega
    · have : (xs ++ [z])[i]? = none := List.getElem?_eq_none (by simp; omega)
      simp [List.getD, this]
theorem append_below {w wr w1 : World} {e : TypeId} {u : Value} {k : Nat} {l : List Value} {q : Nat} {o : Obj} (hb : Below w.heap.size w wr) (hown : wr.ownsRow w.heap.size e 1 u k l) (hg : ((wr.drewN q).alloc o).grownBy w1 u.ownBlock) : Below w.heap.size w w1 := by
  have s := hb.size
  refine ((below_drewN hb q).alloc (by simpa using s) o).grown hg ?_ fun j hj => (hown.lt j hj).1
  simp
  omega
theorem new_cell (wr : World) (q : Nat) (c : Value) (e : TypeId) : ((wr.drewN q).alloc (.cells #[c] e)).cell? ⟨wr.heap.size, 0, none⟩ = some c := by
  show (wr.alloc (.cells #[c] e)).cell? ⟨wr.heap.size, 0, none⟩ = some c
  simp
end Go.Proofs.YtgjniomloooccaaDoor
