/-
  Small tools that all proofs of this seat share.
-/
import Derived.Test.YtgjniomloooccaaDoorProg
import Derived.WalkKit
import Derived.Laws.BitsAllLaws
import Derived.Deep.QuietTactic
import Derived.BigQuiet
import Derived.Test.YtgjniomloooccaaDoorPlain
namespace Go.Proofs.YtgjniomloooccaaDoor
open Go.RowKit
/-- A fact laid out of the walk's sight. -/
theorem hide {p : Prop} (h : p) : Hid p := h
theorem beqB {a b : Bool} : ((a == b) = true) ↔ ((a = true) ↔ (b = true)) := by cases a <;> cases b <;> decide
theorem said {b : Bool} {w w' : World} (h : b = true) (hg : Grown w w') : Ending.returned (.bool b) = .returned (.bool true) ∧ Grown w w' := ⟨by rw [h], hg⟩
theorem pow_cast (s : Nat) : ((2 ^ s : Nat) : Int) = 2 ^ s := Int.natCast_pow 2 s
theorem pow_lt {s n : Nat} {B : Int} (h : s < n) (e : ((2 ^ n : Nat) : Int) = B) : (2 : Int) ^ s < B := by
  have := Nat.pow_lt_pow_right (a := 2) (by omega) h
  rw [← e, ← pow_cast]
  omega
theorem grown_drewN {w w' : World} (h : Grown w w') (n : Nat) : Grown w (w'.drewN n) := h
end Go.Proofs.YtgjniomloooccaaDoor
