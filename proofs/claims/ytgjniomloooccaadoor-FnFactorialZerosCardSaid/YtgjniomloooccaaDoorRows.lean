/-
  NARROWER THAN 'FOR EVERY INPUT', by the rows' own cells (each row's printed sentence says how): FnFactorialZeros: laid · FnSumZeros64: laid · FnProductZeros64: laid · FnNextSame64: laid · FnBinomialCarries: laid · FnNextSame: laid · FnSumZeros: laid · FnProductZeros: laid.
  DERIVED. THE GIVEN ROWS OF THIS SEAT. 8 by the template 'for every input the law returns true; each argument reads behind the call as it read before'; 0 by the template 'total and deterministic' (their statements: YtgjniomloooccaaDoorTotals.lean).
  GIVEN WITH THE SEED: the statements are not yours to turn. If you find one false, say at which input.
  Laid BY PROGRAM, IN A SANDBOX (cutbox-rows.mjs): the forced cells as the released guide's own fill.sh prints them over the translation fba8a191cc713fc7… (all of the seat's roots in one cut). By AI agents, Wed Nov 11 2026. No macro, syntax, notation, axiom, sorry.
-/
import Derived.Test.YtgjniomloooccaaDoorChecked
import GoSem.Claim
import GoSem.ClaimJoined
import GoSem.ClaimMapViews
import Derived.JoinedTies
import Derived.KernelRfl
namespace Go.Proofs.YtgjniomloooccaaDoor
/- THE CELL 'sum', in the pinned program and in every row, IS THE sha256 OF THE DUMP (.gsa) THAT YtgjniomloooccaaDoorProg.lean LOADS. Nothing in Lean hashes anything: it is a label: what it is worth is what the hold of that sum in a sandbox is worth. -/
noncomputable def Tryd.pinned : Pinned := { name := "ytgjniomloooccaadoor", sum := "fba8a191cc713fc7f3b00173c83202b7f4464709c2c8edf9f11294cde248b621", checked := Tryd.checked }
namespace Rows
def none {H : Type} : Left H := { results := [], args := [] }

/- WHAT THE LISTED PACKAGE-LEVEL VARIABLES READ AS WHEN THE CALL BEGINS. Each datum BY PROGRAM (the guide's laid-datum.mjs) off the statement by which the dump's own 'gosem.cut.vars' lays the variable. In a bare row this is a premise. The card (YtgjniomloooccaaDoorCards.lean) ties it to the program's text. -/
def laid_math_bits_deBruijn64tab {H : Type} : DataW H := .agg [.lit (.int .u8 0), .lit (.int .u8 1), .lit (.int .u8 56), .lit (.int .u8 2), .lit (.int .u8 57), .lit (.int .u8 49), .lit (.int .u8 28), .lit (.int .u8 3), .lit (.int .u8 61), .lit (.int .u8 58), .lit (.int .u8 42), .lit (.int .u8 50), .lit (.int .u8 38), .lit (.int .u8 29), .lit (.int .u8 17), .lit (.int .u8 4), .lit (.int .u8 62), .lit (.int .u8 47), .lit (.int .u8 59), .lit (.int .u8 36), .lit (.int .u8 45), .lit (.int .u8 43), .lit (.int .u8 51), .lit (.int .u8 22), .lit (.int .u8 53), .lit (.int .u8 39), .lit (.int .u8 33), .lit (.int .u8 30), .lit (.int .u8 24), .lit (.int .u8 18), .lit (.int .u8 12), .lit (.int .u8 5), .lit (.int .u8 63), .lit (.int .u8 55), .lit (.int .u8 48), .lit (.int .u8 27), .lit (.int .u8 60), .lit (.int .u8 41), .lit (.int .u8 37), .lit (.int .u8 16), .lit (.int .u8 46), .lit (.int .u8 35), .lit (.int .u8 44), .lit (.int .u8 21), .lit (.int .u8 52), .lit (.int .u8 32), .lit (.int .u8 23), .lit (.int .u8 11), .lit (.int .u8 54), .lit (.int .u8 26), .lit (.int .u8 40), .lit (.int .u8 15), .lit (.int .u8 34), .lit (.int .u8 20), .lit (.int .u8 31), .lit (.int .u8 10), .lit (.int .u8 25), .lit (.int .u8 14), .lit (.int .u8 19), .lit (.int .u8 9), .lit (.int .u8 13), .lit (.int .u8 8), .lit (.int .u8 7), .lit (.int .u8 6)]
def laid_math_bits_deBruijn32tab {H : Type} : DataW H := .agg [.lit (.int .u8 0), .lit (.int .u8 1), .lit (.int .u8 28), .lit (.int .u8 2), .lit (.int .u8 29), .lit (.int .u8 14), .lit (.int .u8 24), .lit (.int .u8 3), .lit (.int .u8 30), .lit (.int .u8 22), .lit (.int .u8 20), .lit (.int .u8 15), .lit (.int .u8 25), .lit (.int .u8 17), .lit (.int .u8 4), .lit (.int .u8 8), .lit (.int .u8 31), .lit (.int .u8 27), .lit (.int .u8 13), .lit (.int .u8 23), .lit (.int .u8 21), .lit (.int .u8 19), .lit (.int .u8 16), .lit (.int .u8 7), .lit (.int .u8 26), .lit (.int .u8 12), .lit (.int .u8 18), .lit (.int .u8 6), .lit (.int .u8 11), .lit (.int .u8 5), .lit (.int .u8 10), .lit (.int .u8 9)]

/-- 'laws.FnFactorialZeros': WHATEVER THE INPUT: true; the input reads as it did. -/
def fnFactorialZerosSpec : ChangeSpec := { name := "fnFactorialZeros", fn := fun _ => fun
  | [d] => { results := [.lit (.bool true)], args := [d] }
  | _ => none }
def fnFactorialZerosRow : OpenClaim := { program := "ytgjniomloooccaadoor", sum := "fba8a191cc713fc7f3b00173c83202b7f4464709c2c8edf9f11294cde248b621", func := "loop.example/lib-carryroads/laws.FnFactorialZeros", spec := "fnFactorialZeros", inPlace := ["math/bits.Add64"], named := ["math/bits.deBruijn64tab"], apart := false, laid := [("math/bits.deBruijn64tab", laid_math_bits_deBruijn64tab)] }
def FnFactorialZerosSaid : Prop := fnFactorialZerosRow.holds Tryd.pinned (OpenSpec.ofChange fnFactorialZerosSpec)

/-- ITS FALSE NEIGHBOUR: 'it returns false'. Refute it at one input. -/
def fnFactorialZerosWrong : ChangeSpec := { name := "fnFactorialZeros", fn := fun _ => fun
  | [d] => { results := [.lit (.bool false)], args := [d] }
  | _ => none }
def FnFactorialZerosWrongFalsely : Prop := fnFactorialZerosRow.holds Tryd.pinned (OpenSpec.ofChange fnFactorialZerosWrong)

/-- 'laws.FnSumZeros64': WHATEVER THE INPUT: true; the input reads as it did. -/
def fnSumZeros64Spec : ChangeSpec := { name := "fnSumZeros64", fn := fun _ => fun
  | [d1, d2] => { results := [.lit (.bool true)], args := [d1, d2] }
  | _ => none }
def fnSumZeros64Row : OpenClaim := { program := "ytgjniomloooccaadoor", sum := "fba8a191cc713fc7f3b00173c83202b7f4464709c2c8edf9f11294cde248b621", func := "loop.example/lib-carryroads/laws.FnSumZeros64", spec := "fnSumZeros64", inPlace := ["math/bits.Add64"], named := ["math/bits.deBruijn64tab"], apart := false, laid := [("math/bits.deBruijn64tab", laid_math_bits_deBruijn64tab)] }
def FnSumZeros64Said : Prop := fnSumZeros64Row.holds Tryd.pinned (OpenSpec.ofChange fnSumZeros64Spec)

/-- ITS FALSE NEIGHBOUR: 'it returns false'. Refute it at one input. -/
def fnSumZeros64Wrong : ChangeSpec := { name := "fnSumZeros64", fn := fun _ => fun
  | [d1, d2] => { results := [.lit (.bool false)], args := [d1, d2] }
  | _ => none }
def FnSumZeros64WrongFalsely : Prop := fnSumZeros64Row.holds Tryd.pinned (OpenSpec.ofChange fnSumZeros64Wrong)

/-- 'laws.FnProductZeros64': WHATEVER THE INPUT: true; the input reads as it did. -/
def fnProductZeros64Spec : ChangeSpec := { name := "fnProductZeros64", fn := fun _ => fun
  | [d1, d2] => { results := [.lit (.bool true)], args := [d1, d2] }
  | _ => none }
def fnProductZeros64Row : OpenClaim := { program := "ytgjniomloooccaadoor", sum := "fba8a191cc713fc7f3b00173c83202b7f4464709c2c8edf9f11294cde248b621", func := "loop.example/lib-carryroads/laws.FnProductZeros64", spec := "fnProductZeros64", named := ["math/bits.deBruijn64tab"], apart := false, laid := [("math/bits.deBruijn64tab", laid_math_bits_deBruijn64tab)] }
def FnProductZeros64Said : Prop := fnProductZeros64Row.holds Tryd.pinned (OpenSpec.ofChange fnProductZeros64Spec)

/-- ITS FALSE NEIGHBOUR: 'it returns false'. Refute it at one input. -/
def fnProductZeros64Wrong : ChangeSpec := { name := "fnProductZeros64", fn := fun _ => fun
  | [d1, d2] => { results := [.lit (.bool false)], args := [d1, d2] }
  | _ => none }
def FnProductZeros64WrongFalsely : Prop := fnProductZeros64Row.holds Tryd.pinned (OpenSpec.ofChange fnProductZeros64Wrong)

/-- 'laws.FnNextSame64': WHATEVER THE INPUT: true; the input reads as it did. -/
def fnNextSame64Spec : ChangeSpec := { name := "fnNextSame64", fn := fun _ => fun
  | [d1, d2] => { results := [.lit (.bool true)], args := [d1, d2] }
  | _ => none }
def fnNextSame64Row : OpenClaim := { program := "ytgjniomloooccaadoor", sum := "fba8a191cc713fc7f3b00173c83202b7f4464709c2c8edf9f11294cde248b621", func := "loop.example/lib-carryroads/laws.FnNextSame64", spec := "fnNextSame64", inPlace := ["math/bits.Sub64", "math/bits.Add64"], named := ["math/bits.deBruijn64tab"], apart := false, laid := [("math/bits.deBruijn64tab", laid_math_bits_deBruijn64tab)] }
def FnNextSame64Said : Prop := fnNextSame64Row.holds Tryd.pinned (OpenSpec.ofChange fnNextSame64Spec)

/-- ITS FALSE NEIGHBOUR: 'it returns false'. Refute it at one input. -/
def fnNextSame64Wrong : ChangeSpec := { name := "fnNextSame64", fn := fun _ => fun
  | [d1, d2] => { results := [.lit (.bool false)], args := [d1, d2] }
  | _ => none }
def FnNextSame64WrongFalsely : Prop := fnNextSame64Row.holds Tryd.pinned (OpenSpec.ofChange fnNextSame64Wrong)

/-- 'laws.FnBinomialCarries': WHATEVER THE INPUT: true; the input reads as it did. -/
def fnBinomialCarriesSpec : ChangeSpec := { name := "fnBinomialCarries", fn := fun _ => fun
  | [d1, d2] => { results := [.lit (.bool true)], args := [d1, d2] }
  | _ => none }
def fnBinomialCarriesRow : OpenClaim := { program := "ytgjniomloooccaadoor", sum := "fba8a191cc713fc7f3b00173c83202b7f4464709c2c8edf9f11294cde248b621", func := "loop.example/lib-carryroads/laws.FnBinomialCarries", spec := "fnBinomialCarries", inPlace := ["math/bits.Add64"], named := ["math/bits.deBruijn64tab"], apart := false, laid := [("math/bits.deBruijn64tab", laid_math_bits_deBruijn64tab)] }
def FnBinomialCarriesSaid : Prop := fnBinomialCarriesRow.holds Tryd.pinned (OpenSpec.ofChange fnBinomialCarriesSpec)

/-- ITS FALSE NEIGHBOUR: 'it returns false'. Refute it at one input. -/
def fnBinomialCarriesWrong : ChangeSpec := { name := "fnBinomialCarries", fn := fun _ => fun
  | [d1, d2] => { results := [.lit (.bool false)], args := [d1, d2] }
  | _ => none }
def FnBinomialCarriesWrongFalsely : Prop := fnBinomialCarriesRow.holds Tryd.pinned (OpenSpec.ofChange fnBinomialCarriesWrong)

/-- 'laws.FnNextSame': WHATEVER THE INPUT: true; the input reads as it did. -/
def fnNextSameSpec : ChangeSpec := { name := "fnNextSame", fn := fun _ => fun
  | [d1, d2] => { results := [.lit (.bool true)], args := [d1, d2] }
  | _ => none }
def fnNextSameRow : OpenClaim := { program := "ytgjniomloooccaadoor", sum := "fba8a191cc713fc7f3b00173c83202b7f4464709c2c8edf9f11294cde248b621", func := "loop.example/lib-carryroads/laws.FnNextSame", spec := "fnNextSame", inPlace := ["math/bits.Sub64", "math/bits.Add64"], named := ["math/bits.deBruijn32tab", "math/bits.deBruijn64tab"], apart := false, laid := [("math/bits.deBruijn32tab", laid_math_bits_deBruijn32tab), ("math/bits.deBruijn64tab", laid_math_bits_deBruijn64tab)] }
def FnNextSameSaid : Prop := fnNextSameRow.holds Tryd.pinned (OpenSpec.ofChange fnNextSameSpec)

/-- ITS FALSE NEIGHBOUR: 'it returns false'. Refute it at one input. -/
def fnNextSameWrong : ChangeSpec := { name := "fnNextSame", fn := fun _ => fun
  | [d1, d2] => { results := [.lit (.bool false)], args := [d1, d2] }
  | _ => none }
def FnNextSameWrongFalsely : Prop := fnNextSameRow.holds Tryd.pinned (OpenSpec.ofChange fnNextSameWrong)

/-- 'laws.FnSumZeros': WHATEVER THE INPUT: true; the input reads as it did. -/
def fnSumZerosSpec : ChangeSpec := { name := "fnSumZeros", fn := fun _ => fun
  | [d1, d2] => { results := [.lit (.bool true)], args := [d1, d2] }
  | _ => none }
def fnSumZerosRow : OpenClaim := { program := "ytgjniomloooccaadoor", sum := "fba8a191cc713fc7f3b00173c83202b7f4464709c2c8edf9f11294cde248b621", func := "loop.example/lib-carryroads/laws.FnSumZeros", spec := "fnSumZeros", inPlace := ["math/bits.Add64"], named := ["math/bits.deBruijn32tab", "math/bits.deBruijn64tab"], apart := false, laid := [("math/bits.deBruijn32tab", laid_math_bits_deBruijn32tab), ("math/bits.deBruijn64tab", laid_math_bits_deBruijn64tab)] }
def FnSumZerosSaid : Prop := fnSumZerosRow.holds Tryd.pinned (OpenSpec.ofChange fnSumZerosSpec)

/-- ITS FALSE NEIGHBOUR: 'it returns false'. Refute it at one input. -/
def fnSumZerosWrong : ChangeSpec := { name := "fnSumZeros", fn := fun _ => fun
  | [d1, d2] => { results := [.lit (.bool false)], args := [d1, d2] }
  | _ => none }
def FnSumZerosWrongFalsely : Prop := fnSumZerosRow.holds Tryd.pinned (OpenSpec.ofChange fnSumZerosWrong)

/-- 'laws.FnProductZeros': WHATEVER THE INPUT: true; the input reads as it did. -/
def fnProductZerosSpec : ChangeSpec := { name := "fnProductZeros", fn := fun _ => fun
  | [d1, d2] => { results := [.lit (.bool true)], args := [d1, d2] }
  | _ => none }
def fnProductZerosRow : OpenClaim := { program := "ytgjniomloooccaadoor", sum := "fba8a191cc713fc7f3b00173c83202b7f4464709c2c8edf9f11294cde248b621", func := "loop.example/lib-carryroads/laws.FnProductZeros", spec := "fnProductZeros", named := ["math/bits.deBruijn32tab", "math/bits.deBruijn64tab"], apart := false, laid := [("math/bits.deBruijn32tab", laid_math_bits_deBruijn32tab), ("math/bits.deBruijn64tab", laid_math_bits_deBruijn64tab)] }
def FnProductZerosSaid : Prop := fnProductZerosRow.holds Tryd.pinned (OpenSpec.ofChange fnProductZerosSpec)

/-- ITS FALSE NEIGHBOUR: 'it returns false'. Refute it at one input. -/
def fnProductZerosWrong : ChangeSpec := { name := "fnProductZeros", fn := fun _ => fun
  | [d1, d2] => { results := [.lit (.bool false)], args := [d1, d2] }
  | _ => none }
def FnProductZerosWrongFalsely : Prop := fnProductZerosRow.holds Tryd.pinned (OpenSpec.ofChange fnProductZerosWrong)

/- THE SECOND FORM. 'bulk': how many values and letters a reading holds, each counted each time it is reached (what is shared counts as often as it is met; a slice's spare places count too). A statement '..UptoSaid' is the law's where the arguments, and the package variables that the reading takes, are together of bulk at most 1048576: NARROWER than '..Said'. Prove '..Said' where nothing that the law and all that it calls make is longer than what came in: it says more and counts as full. Else prove '..UptoSaid'. A law counts once. -/
mutual
def uptoBulk {H : Type} : DataW H → Nat
  | .lit (.string bytes) => bytes.length + 1
  | .lit _ => 1
  | .nil => 1
  | .ptr d => uptoBulk d + 1
  | .slice elems spare => uptoBulkAll elems + uptoBulkAll spare + 1
  | .agg parts => uptoBulkAll parts + 1
  | .iface _ d => uptoBulk d + 1
  | .map entries => uptoBulkEntries entries + 1
  | .held _ => 1
def uptoBulkAll {H : Type} : List (DataW H) → Nat
  | [] => 0
  | d :: r => uptoBulk d + uptoBulkAll r
def uptoBulkEntries {H : Type} : List (Lit × DataW H) → Nat
  | [] => 0
  | x :: r => uptoBulkEntry x + uptoBulkEntries r
def uptoBulkEntry {H : Type} : Lit × DataW H → Nat
  | (.string bytes, d) => bytes.length + uptoBulk d + 1
  | (_, d) => uptoBulk d + 1
 end
def uptoSmall : (H : Type) → List (DataW H) → Bool := fun _ ds => decide (uptoBulkAll ds ≤ 1048576)
def OpenSpec.upto (s : _root_.Go.ChangeSpec) : _root_.Go.OpenSpec := { _root_.Go.OpenSpec.ofChange s with cond := some uptoSmall }

/-- 'laws.FnFactorialZeros', WHERE WHAT IT READS IS OF BULK AT MOST 1048576: true; the input reads as it did. -/
def fnFactorialZerosUptoRow : OpenClaim := { program := "ytgjniomloooccaadoor", sum := "fba8a191cc713fc7f3b00173c83202b7f4464709c2c8edf9f11294cde248b621", func := "loop.example/lib-carryroads/laws.FnFactorialZeros", spec := "fnFactorialZeros", inPlace := ["math/bits.Add64"], named := ["math/bits.deBruijn64tab"], apart := false, laid := [("math/bits.deBruijn64tab", laid_math_bits_deBruijn64tab)], narrowed := true }
def FnFactorialZerosUptoSaid : Prop := fnFactorialZerosUptoRow.holds Tryd.pinned (OpenSpec.upto fnFactorialZerosSpec)

/-- 'laws.FnSumZeros64', WHERE WHAT IT READS IS OF BULK AT MOST 1048576: true; the input reads as it did. -/
def fnSumZeros64UptoRow : OpenClaim := { program := "ytgjniomloooccaadoor", sum := "fba8a191cc713fc7f3b00173c83202b7f4464709c2c8edf9f11294cde248b621", func := "loop.example/lib-carryroads/laws.FnSumZeros64", spec := "fnSumZeros64", inPlace := ["math/bits.Add64"], named := ["math/bits.deBruijn64tab"], apart := false, laid := [("math/bits.deBruijn64tab", laid_math_bits_deBruijn64tab)], narrowed := true }
def FnSumZeros64UptoSaid : Prop := fnSumZeros64UptoRow.holds Tryd.pinned (OpenSpec.upto fnSumZeros64Spec)

/-- 'laws.FnProductZeros64', WHERE WHAT IT READS IS OF BULK AT MOST 1048576: true; the input reads as it did. -/
def fnProductZeros64UptoRow : OpenClaim := { program := "ytgjniomloooccaadoor", sum := "fba8a191cc713fc7f3b00173c83202b7f4464709c2c8edf9f11294cde248b621", func := "loop.example/lib-carryroads/laws.FnProductZeros64", spec := "fnProductZeros64", named := ["math/bits.deBruijn64tab"], apart := false, laid := [("math/bits.deBruijn64tab", laid_math_bits_deBruijn64tab)], narrowed := true }
def FnProductZeros64UptoSaid : Prop := fnProductZeros64UptoRow.holds Tryd.pinned (OpenSpec.upto fnProductZeros64Spec)

/-- 'laws.FnNextSame64', WHERE WHAT IT READS IS OF BULK AT MOST 1048576: true; the input reads as it did. -/
def fnNextSame64UptoRow : OpenClaim := { program := "ytgjniomloooccaadoor", sum := "fba8a191cc713fc7f3b00173c83202b7f4464709c2c8edf9f11294cde248b621", func := "loop.example/lib-carryroads/laws.FnNextSame64", spec := "fnNextSame64", inPlace := ["math/bits.Sub64", "math/bits.Add64"], named := ["math/bits.deBruijn64tab"], apart := false, laid := [("math/bits.deBruijn64tab", laid_math_bits_deBruijn64tab)], narrowed := true }
def FnNextSame64UptoSaid : Prop := fnNextSame64UptoRow.holds Tryd.pinned (OpenSpec.upto fnNextSame64Spec)

/-- 'laws.FnBinomialCarries', WHERE WHAT IT READS IS OF BULK AT MOST 1048576: true; the input reads as it did. -/
def fnBinomialCarriesUptoRow : OpenClaim := { program := "ytgjniomloooccaadoor", sum := "fba8a191cc713fc7f3b00173c83202b7f4464709c2c8edf9f11294cde248b621", func := "loop.example/lib-carryroads/laws.FnBinomialCarries", spec := "fnBinomialCarries", inPlace := ["math/bits.Add64"], named := ["math/bits.deBruijn64tab"], apart := false, laid := [("math/bits.deBruijn64tab", laid_math_bits_deBruijn64tab)], narrowed := true }
def FnBinomialCarriesUptoSaid : Prop := fnBinomialCarriesUptoRow.holds Tryd.pinned (OpenSpec.upto fnBinomialCarriesSpec)

/-- 'laws.FnNextSame', WHERE WHAT IT READS IS OF BULK AT MOST 1048576: true; the input reads as it did. -/
def fnNextSameUptoRow : OpenClaim := { program := "ytgjniomloooccaadoor", sum := "fba8a191cc713fc7f3b00173c83202b7f4464709c2c8edf9f11294cde248b621", func := "loop.example/lib-carryroads/laws.FnNextSame", spec := "fnNextSame", inPlace := ["math/bits.Sub64", "math/bits.Add64"], named := ["math/bits.deBruijn32tab", "math/bits.deBruijn64tab"], apart := false, laid := [("math/bits.deBruijn32tab", laid_math_bits_deBruijn32tab), ("math/bits.deBruijn64tab", laid_math_bits_deBruijn64tab)], narrowed := true }
def FnNextSameUptoSaid : Prop := fnNextSameUptoRow.holds Tryd.pinned (OpenSpec.upto fnNextSameSpec)

/-- 'laws.FnSumZeros', WHERE WHAT IT READS IS OF BULK AT MOST 1048576: true; the input reads as it did. -/
def fnSumZerosUptoRow : OpenClaim := { program := "ytgjniomloooccaadoor", sum := "fba8a191cc713fc7f3b00173c83202b7f4464709c2c8edf9f11294cde248b621", func := "loop.example/lib-carryroads/laws.FnSumZeros", spec := "fnSumZeros", inPlace := ["math/bits.Add64"], named := ["math/bits.deBruijn32tab", "math/bits.deBruijn64tab"], apart := false, laid := [("math/bits.deBruijn32tab", laid_math_bits_deBruijn32tab), ("math/bits.deBruijn64tab", laid_math_bits_deBruijn64tab)], narrowed := true }
def FnSumZerosUptoSaid : Prop := fnSumZerosUptoRow.holds Tryd.pinned (OpenSpec.upto fnSumZerosSpec)

/-- 'laws.FnProductZeros', WHERE WHAT IT READS IS OF BULK AT MOST 1048576: true; the input reads as it did. -/
def fnProductZerosUptoRow : OpenClaim := { program := "ytgjniomloooccaadoor", sum := "fba8a191cc713fc7f3b00173c83202b7f4464709c2c8edf9f11294cde248b621", func := "loop.example/lib-carryroads/laws.FnProductZeros", spec := "fnProductZeros", named := ["math/bits.deBruijn32tab", "math/bits.deBruijn64tab"], apart := false, laid := [("math/bits.deBruijn32tab", laid_math_bits_deBruijn32tab), ("math/bits.deBruijn64tab", laid_math_bits_deBruijn64tab)], narrowed := true }
def FnProductZerosUptoSaid : Prop := fnProductZerosUptoRow.holds Tryd.pinned (OpenSpec.upto fnProductZerosSpec)

end Rows
end Go.Proofs.YtgjniomloooccaaDoor
