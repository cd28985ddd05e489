/-
  Slices of three and of four words as numbers: sums and differences of them by impl.AddWords and impl.SubWords.
-/
import Derived.Test.YtaiepmcjnnoioaaPlainKara
import Derived.Test.YtaiepmcjnnoioaaAppendRow
import Derived.Test.YtaiepmcjnnoioaaSame
namespace Go.Proofs.Ytaiepmcjnnoioaa
open Go.RowKit
set_option linter.unusedVariables false

/-- The slice v holds the number V in four words; in three. -/
def Num4 (w : World) (v : Value) (V : Int) : Prop := ∃ a b c d, Row w v [a, b, c, d] ∧ Wd a ∧ Wd b ∧ Wd c ∧ Wd d ∧ v4 a b c d = V
def Num3 (w : World) (v : Value) (V : Int) : Prop := ∃ a b c, Row w v [a, b, c] ∧ Wd a ∧ Wd b ∧ Wd c ∧ v3 a b c = V
theorem Num4.mono {w w' : World} {v : Value} {V : Int} (h : Num4 w v V) (hb : Below w.heap.size w w') : Num4 w' v V := by
  obtain ⟨a, b, c, d, h, r⟩ := h; exact ⟨a, b, c, d, h.mono hb, r⟩
theorem Num3.mono {w w' : World} {v : Value} {V : Int} (h : Num3 w v V) (hb : Below w.heap.size w w') : Num3 w' v V := by
  obtain ⟨a, b, c, h, r⟩ := h; exact ⟨a, b, c, h.mono hb, r⟩
theorem wd0 : Wd 0 := by unfold Wd; omega
theorem num4_new (w : World) {a b c d V : Int} {k : Nat} (hk : k = w.heap.size) (ha : Wd a) (hb : Wd b) (hc : Wd c) (hd : Wd d) (hV : v4 a b c d = V) :
    Num4 (w.alloc (.cells #[.int .u64 a, .int .u64 b, .int .u64 c, .int .u64 d] 23)) (.slice (some ⟨k, 0, none⟩) 4 4) V := by
  subst hk; exact ⟨a, b, c, d, row_made w [a, b, c, d] _ rfl 4 rfl, ha, hb, hc, hd, hV⟩
theorem num4_old (w : World) (o : Obj) {a b c d V : Int} {k : Nat} (hk : k = w.heap.size) (ha : Wd a) (hb : Wd b) (hc : Wd c) (hd : Wd d) (hV : v4 a b c d = V) :
    Num4 ((w.alloc (.cells #[.int .u64 a, .int .u64 b, .int .u64 c, .int .u64 d] 23)).alloc o) (.slice (some ⟨k, 0, none⟩) 4 4) V :=
  (num4_new w hk ha hb hc hd hV).mono ((Below.refl _ _).alloc (Nat.le_refl _) _)
theorem num3_new (w : World) {a b c V : Int} {k : Nat} (hk : k = w.heap.size) (ha : Wd a) (hb : Wd b) (hc : Wd c) (hV : v3 a b c = V) :
    Num3 (w.alloc (.cells #[.int .u64 a, .int .u64 b, .int .u64 c] 23)) (.slice (some ⟨k, 0, none⟩) 3 3) V := by
  subst hk; exact ⟨a, b, c, row_made w [a, b, c] _ rfl 3 rfl, ha, hb, hc, hV⟩
theorem ws3 {a b c : Int} (ha : Wd a) (hb : Wd b) (hc : Wd c) : Ws [a, b, c] := by
  intro i
  match i with
  | 0 => exact ha
  | 1 => exact hb
  | 2 => exact hc
  | i + 3 => simp
theorem ws4 {a b c d : Int} (ha : Wd a) (hb : Wd b) (hc : Wd c) (hd : Wd d) : Ws [a, b, c, d] := by
  intro i
  match i with
  | 0 => exact ha
  | 1 => exact hb
  | 2 => exact hc
  | 3 => exact hd
  | i + 4 => simp

theorem addN4 {v v2 : Value} {A C : Int} (w : World) (hA : Num4 w v A) (hC : Num4 w v2 C) (hl : A + C < 115792089237316195423570985008687907853269984665640564039457584007913129639936) :
    Calls Try.prog 15 #[v, v2, .int .u64 0] w fun e w' => ∃ r, e = .returned (.tuple #[r, .int .u64 0]) ∧ Num4 w' r (A + C) ∧ Below w.heap.size w w' := by
  obtain ⟨a0, a1, a2, a3, ra, p0, p1, p2, p3, rfl⟩ := hA
  obtain ⟨b0, b1, b2, b3, rb, q0, q1, q2, q3, rfl⟩ := hC
  refine (addWords [a0, a1, a2, a3] [b0, b1, b2, b3] v v2 0 w (ws4 p0 p1 p2 p3) (ws4 q0 q1 q2 q3) (by omega) (by omega) (by simp) (by simp) ra rb).mono ?_
  rintro e w' ⟨r, rfl, rr, hb⟩
  have e4 : min [a0, a1, a2, a3].length [b0, b1, b2, b3].length = 4 := rfl
  rw [e4] at rr ⊢
  obtain ⟨s0, s1, s2, s3, o, hs, w0, w1, w2, w3, o0, o1, hv⟩ := sum4 p0 p1 p2 p3 q0 q1 q2 q3
  rw [hs] at rr ⊢
  have bd := v4_bounds w0 w1 w2 w3
  obtain ⟨f1, rfl⟩ := fit (by decide) hv bd.1 bd.2 o0 o1 hl
  exact ⟨r, rfl, ⟨s0, s1, s2, s3, rr, w0, w1, w2, w3, f1⟩, hb⟩
theorem below_two0 (w : World) (o o2 : Obj) : Below w.heap.size w ((w.alloc o).alloc o2) := (((Below.refl w.heap.size w).alloc (Nat.le_refl _) o).alloc (by simp) o2)
theorem below_two (w : World) (o o2 : Obj) : Below w.heap.size w ((w.alloc o).alloc o2).drew := (((Below.refl w.heap.size w).alloc (Nat.le_refl _) o).alloc (by simp) o2).drew
/-- Two slices of four words that are written out, in whichever order, and their sum. -/
theorem addTwo {a0 a1 a2 a3 b0 b1 b2 b3 : Int} (w : World) (p0 : Wd a0) (p1 : Wd a1) (p2 : Wd a2) (p3 : Wd a3) (q0 : Wd b0) (q1 : Wd b1) (q2 : Wd b2) (q3 : Wd b3) (hl : v4 a0 a1 a2 a3 + v4 b0 b1 b2 b3 < 115792089237316195423570985008687907853269984665640564039457584007913129639936) :
    Calls Try.prog 15 #[.slice (some ⟨w.heap.size, 0, none⟩) 4 4, .slice (some ⟨w.heap.size + 1, 0, none⟩) 4 4, .int .u64 0]
      ((w.alloc (.cells #[.int .u64 a0, .int .u64 a1, .int .u64 a2, .int .u64 a3] 23)).alloc (.cells #[.int .u64 b0, .int .u64 b1, .int .u64 b2, .int .u64 b3] 23)).drew fun e w' => ∃ r, e = .returned (.tuple #[r, .int .u64 0]) ∧ Num4 w' r (v4 a0 a1 a2 a3 + v4 b0 b1 b2 b3) ∧ Below w.heap.size w w' := by
  refine (addN4 (A := v4 a0 a1 a2 a3) (C := v4 b0 b1 b2 b3) _ ?_ ?_ hl).mono ?_
  · exact (num4_old w _ rfl p0 p1 p2 p3 rfl)
  · exact (num4_new (w.alloc _) (by simp) q0 q1 q2 q3 rfl)
  · rintro e w' ⟨r, he, hr, hb⟩
    exact ⟨r, he, hr, (below_two w _ _).trans (hb.mono (below_two w _ _).size)⟩
theorem addTwo' {a0 a1 a2 a3 b0 b1 b2 b3 : Int} (w : World) (p0 : Wd a0) (p1 : Wd a1) (p2 : Wd a2) (p3 : Wd a3) (q0 : Wd b0) (q1 : Wd b1) (q2 : Wd b2) (q3 : Wd b3) (hl : v4 a0 a1 a2 a3 + v4 b0 b1 b2 b3 < 115792089237316195423570985008687907853269984665640564039457584007913129639936) :
    Calls Try.prog 15 #[.slice (some ⟨w.heap.size + 1, 0, none⟩) 4 4, .slice (some ⟨w.heap.size, 0, none⟩) 4 4, .int .u64 0]
      ((w.alloc (.cells #[.int .u64 b0, .int .u64 b1, .int .u64 b2, .int .u64 b3] 23)).alloc (.cells #[.int .u64 a0, .int .u64 a1, .int .u64 a2, .int .u64 a3] 23)).drew fun e w' => ∃ r, e = .returned (.tuple #[r, .int .u64 0]) ∧ Num4 w' r (v4 a0 a1 a2 a3 + v4 b0 b1 b2 b3) ∧ Below w.heap.size w w' := by
  refine (addN4 (A := v4 a0 a1 a2 a3) (C := v4 b0 b1 b2 b3) _ ?_ ?_ hl).mono ?_
  · exact (num4_new (w.alloc _) (by simp) p0 p1 p2 p3 rfl)
  · exact (num4_old w _ rfl q0 q1 q2 q3 rfl)
  · rintro e w' ⟨r, he, hr, hb⟩
    exact ⟨r, he, hr, (below_two w _ _).trans (hb.mono (below_two w _ _).size)⟩
theorem addN3 {v v2 : Value} {A C : Int} (w : World) (hA : Num3 w v A) (hC : Num3 w v2 C) (hl : A + C < 6277101735386680763835789423207666416102355444464034512896) :
    Calls Try.prog 15 #[v, v2, .int .u64 0] w fun e w' => ∃ r, e = .returned (.tuple #[r, .int .u64 0]) ∧ Num3 w' r (A + C) ∧ Below w.heap.size w w' := by
  obtain ⟨a0, a1, a2, ra, p0, p1, p2, rfl⟩ := hA
  obtain ⟨b0, b1, b2, rb, q0, q1, q2, rfl⟩ := hC
  refine (addWords [a0, a1, a2] [b0, b1, b2] v v2 0 w (ws3 p0 p1 p2) (ws3 q0 q1 q2) (by omega) (by omega) (by simp) (by simp) ra rb).mono ?_
  rintro e w' ⟨r, rfl, rr, hb⟩
  have e4 : min [a0, a1, a2].length [b0, b1, b2].length = 3 := rfl
  rw [e4] at rr ⊢
  obtain ⟨s0, s1, s2, o, hs, w0, w1, w2, o0, o1, hv⟩ := sum3 p0 p1 p2 q0 q1 q2
  rw [hs] at rr ⊢
  have bd := v3_bounds w0 w1 w2
  obtain ⟨f1, rfl⟩ := fit (by decide) hv bd.1 bd.2 o0 o1 hl
  exact ⟨r, rfl, ⟨s0, s1, s2, rr, w0, w1, w2, f1⟩, hb⟩
theorem subN3 {v v2 : Value} {A C : Int} (w : World) (hA : Num3 w v A) (hC : Num3 w v2 C) (hl : C ≤ A) :
    Calls Try.prog 12 #[v, v2, .int .u64 0] w fun e w' => ∃ r o, e = .returned (.tuple #[r, .int .u64 o]) ∧ Num3 w' r (A - C) ∧ Below w.heap.size w w' := by
  obtain ⟨a0, a1, a2, ra, p0, p1, p2, rfl⟩ := hA
  obtain ⟨b0, b1, b2, rb, q0, q1, q2, rfl⟩ := hC
  refine (subWords [a0, a1, a2] [b0, b1, b2] v v2 0 w (ws3 p0 p1 p2) (ws3 q0 q1 q2) (by omega) (by omega) (by simp) (by simp) ra rb).mono ?_
  rintro e w' ⟨r, rfl, rr, hb⟩
  have e4 : min [a0, a1, a2].length [b0, b1, b2].length = 3 := rfl
  rw [e4] at rr ⊢
  obtain ⟨s0, s1, s2, o, hs, w0, w1, w2, o0, o1, hv⟩ := diff3 p0 p1 p2 q0 q1 q2
  rw [hs] at rr ⊢
  have bd := v3_bounds w0 w1 w2
  have f1 := fit' (by decide) hv bd.1 bd.2 o0 o1 (by omega)
  exact ⟨r, o, rfl, ⟨s0, s1, s2, rr, w0, w1, w2, f1⟩, hb⟩
theorem sameN4 {v v2 : Value} {A : Int} (w : World) (hA : Num4 w v A) (hC : Num4 w v2 A) :
    Calls Try.prog 14 #[v, v2] w fun e w' => e = .returned (.bool true) ∧ Below w.heap.size w w' := by
  obtain ⟨a0, a1, a2, a3, ra, p0, p1, p2, p3, rfl⟩ := hA
  obtain ⟨b0, b1, b2, b3, rb, q0, q1, q2, q3, h⟩ := hC
  have e := v4_inj q0 q1 q2 p0 p1 p2 h
  rw [e] at rb
  exact same_true _ v v2 w (by simp) ra rb
theorem own_after (w : World) (A : Obj) : ((w.alloc A).alloc (.cells #[.int .u64 0] 23)).ownsRow (w.heap.size + 1) 23 1 (.slice (some ⟨w.heap.size + 1, 0, none⟩) 1 1) 1 ([0].map (Value.int .u64)) := by
  have h := owns_made (w.alloc A) (w.heap.size + 1) (by simp) [0] #[.int .u64 0] rfl 1 rfl (by unfold maxLen; omega)
  rw [World.size_alloc] at h
  exact h
theorem after_append {w w8 : World} {A Z : Obj} {row : Option Nat} (g : ((w.alloc A).alloc Z).grownBy w8 row) (hr : ∀ k, row = some k → w.heap.size + 1 ≤ k) : Below (w.alloc A).heap.size (w.alloc A) w8 ∧ Below w.heap.size w w8 := by
  have h : Below (w.alloc A).heap.size (w.alloc A) w8 := ((Below.refl (w.alloc A).heap.size (w.alloc A)).alloc (Nat.le_refl _) Z).grown g (by simp) (by intro k hk; have := hr k hk; simp; omega)
  have h0 := (Below.refl w.heap.size w).alloc (Nat.le_refl _) A
  exact ⟨h, h0.trans (h.mono h0.size)⟩
theorem mul_word {x y : Int} (hx : Wd x) (hy : Wd y) : ∃ h l, x * y / 18446744073709551616 = h ∧ x * y % 18446744073709551616 = l ∧ Wd h ∧ Wd l ∧ h * 18446744073709551616 + l = x * y := by
  have := wd_mul hx hy
  refine ⟨_, _, rfl, rfl, ?_⟩
  generalize x * y = p at *
  unfold Wd
  omega
theorem cells2 {w : World} {v : Value} {a b : Int} (h : Row w v [a, b]) : ∃ k off cap, v = .slice (some ⟨k, off, none⟩) 2 cap ∧ k < w.heap.size ∧ w.cell? ⟨k, off, none⟩ = some (.int .u64 a) ∧ w.cell? ⟨k, off + 1, none⟩ = some (.int .u64 b) := by
  obtain ⟨ad, cap, rfl, h⟩ := h
  obtain ⟨k, off, rfl, hk, hc⟩ := h (by simp)
  exact ⟨k, off, cap, rfl, hk, by simpa using hc 0 (by simp), by simpa using hc 1 (by simp)⟩
end Go.Proofs.Ytaiepmcjnnoioaa
