/-
  No cell of these rows narrows 'for every input' (looked for: loops, veiled, ifaces, maps, wideKeys, modest, calm, conditions, laid).
  DERIVED. THE GIVEN ROWS OF THIS SEAT. 13 by the template 'for every input the law returns true; each argument reads behind the call as it read before'; 0 by the template 'total and deterministic' (their statements: YtcjmddlhbpkmlaaTotals.lean).
  GIVEN WITH THE SEED: the statements are not yours to turn. If you find one false, say at which input.
  Laid BY PROGRAM, IN A SANDBOX (cutbox-rows.mjs): the forced cells as the released guide's own fill.sh prints them over the translation 0c90287c1d6b758c… (all of the seat's roots in one cut). By AI agents, Wed Nov 11 2026. No macro, syntax, notation, axiom, sorry.
-/
import Derived.Test.YtcjmddlhbpkmlaaChecked
import GoSem.Claim
import GoSem.ClaimJoined
import GoSem.ClaimMapViews
import Derived.JoinedTies
import Derived.KernelRfl
namespace Go.Proofs.Ytcjmddlhbpkmlaa
/- THE CELL 'sum', in the pinned program and in every row, IS THE sha256 OF THE DUMP (.gsa) THAT YtcjmddlhbpkmlaaProg.lean LOADS. Nothing in Lean hashes anything: it is a label: what it is worth is what the hold of that sum in a sandbox is worth. -/
noncomputable def Try.pinned : Pinned := { name := "ytcjmddlhbpkmlaa", sum := "0c90287c1d6b758c8ef657a63d5982c36cad3774b645b31995fd5747db78caf1", checked := Try.checked }
namespace Rows
def none {H : Type} : Left H := { results := [], args := [] }

/-- 'laws.FnSquaresDiffer': WHATEVER THE INPUT: true; the input reads as it did. -/
def fnSquaresDifferSpec : ChangeSpec := { name := "fnSquaresDiffer", fn := fun _ => fun
  | [d1, d2] => { results := [.lit (.bool true)], args := [d1, d2] }
  | _ => none }
def fnSquaresDifferRow : OpenClaim := { program := "ytcjmddlhbpkmlaa", sum := "0c90287c1d6b758c8ef657a63d5982c36cad3774b645b31995fd5747db78caf1", func := "loop.example/lib-carryroads/laws.FnSquaresDiffer", spec := "fnSquaresDiffer", inPlace := ["math/bits.Add64", "math/bits.Sub64"], apart := false }
def FnSquaresDifferSaid : Prop := fnSquaresDifferRow.holds Try.pinned (OpenSpec.ofChange fnSquaresDifferSpec)

/-- ITS FALSE NEIGHBOUR: 'it returns false'. Refute it at one input. -/
def fnSquaresDifferWrong : ChangeSpec := { name := "fnSquaresDiffer", fn := fun _ => fun
  | [d1, d2] => { results := [.lit (.bool false)], args := [d1, d2] }
  | _ => none }
def FnSquaresDifferWrongFalsely : Prop := fnSquaresDifferRow.holds Try.pinned (OpenSpec.ofChange fnSquaresDifferWrong)

/-- 'laws.FnAverage': WHATEVER THE INPUT: true; the input reads as it did. -/
def fnAverageSpec : ChangeSpec := { name := "fnAverage", fn := fun _ => fun
  | [d1, d2] => { results := [.lit (.bool true)], args := [d1, d2] }
  | _ => none }
def fnAverageRow : OpenClaim := { program := "ytcjmddlhbpkmlaa", sum := "0c90287c1d6b758c8ef657a63d5982c36cad3774b645b31995fd5747db78caf1", func := "loop.example/lib-carryroads/laws.FnAverage", spec := "fnAverage", inPlace := ["math/bits.Add64"], apart := false }
def FnAverageSaid : Prop := fnAverageRow.holds Try.pinned (OpenSpec.ofChange fnAverageSpec)

/-- ITS FALSE NEIGHBOUR: 'it returns false'. Refute it at one input. -/
def fnAverageWrong : ChangeSpec := { name := "fnAverage", fn := fun _ => fun
  | [d1, d2] => { results := [.lit (.bool false)], args := [d1, d2] }
  | _ => none }
def FnAverageWrongFalsely : Prop := fnAverageRow.holds Try.pinned (OpenSpec.ofChange fnAverageWrong)

/-- 'laws.FnProductsRise': WHATEVER THE INPUT: true; the input reads as it did. -/
def fnProductsRiseSpec : ChangeSpec := { name := "fnProductsRise", fn := fun _ => fun
  | [d1, d2, d3] => { results := [.lit (.bool true)], args := [d1, d2, d3] }
  | _ => none }
def fnProductsRiseRow : OpenClaim := { program := "ytcjmddlhbpkmlaa", sum := "0c90287c1d6b758c8ef657a63d5982c36cad3774b645b31995fd5747db78caf1", func := "loop.example/lib-carryroads/laws.FnProductsRise", spec := "fnProductsRise", apart := false }
def FnProductsRiseSaid : Prop := fnProductsRiseRow.holds Try.pinned (OpenSpec.ofChange fnProductsRiseSpec)

/-- ITS FALSE NEIGHBOUR: 'it returns false'. Refute it at one input. -/
def fnProductsRiseWrong : ChangeSpec := { name := "fnProductsRise", fn := fun _ => fun
  | [d1, d2, d3] => { results := [.lit (.bool false)], args := [d1, d2, d3] }
  | _ => none }
def FnProductsRiseWrongFalsely : Prop := fnProductsRiseRow.holds Try.pinned (OpenSpec.ofChange fnProductsRiseWrong)

/-- 'laws.FnUintAdd': WHATEVER THE INPUT: true; the input reads as it did. -/
def fnUintAddSpec : ChangeSpec := { name := "fnUintAdd", fn := fun _ => fun
  | [d1, d2, d3] => { results := [.lit (.bool true)], args := [d1, d2, d3] }
  | _ => none }
def fnUintAddRow : OpenClaim := { program := "ytcjmddlhbpkmlaa", sum := "0c90287c1d6b758c8ef657a63d5982c36cad3774b645b31995fd5747db78caf1", func := "loop.example/lib-carryroads/laws.FnUintAdd", spec := "fnUintAdd", inPlace := ["math/bits.Add64"], apart := false }
def FnUintAddSaid : Prop := fnUintAddRow.holds Try.pinned (OpenSpec.ofChange fnUintAddSpec)

/-- ITS FALSE NEIGHBOUR: 'it returns false'. Refute it at one input. -/
def fnUintAddWrong : ChangeSpec := { name := "fnUintAdd", fn := fun _ => fun
  | [d1, d2, d3] => { results := [.lit (.bool false)], args := [d1, d2, d3] }
  | _ => none }
def FnUintAddWrongFalsely : Prop := fnUintAddRow.holds Try.pinned (OpenSpec.ofChange fnUintAddWrong)

/-- 'laws.FnUintSub': WHATEVER THE INPUT: true; the input reads as it did. -/
def fnUintSubSpec : ChangeSpec := { name := "fnUintSub", fn := fun _ => fun
  | [d1, d2, d3] => { results := [.lit (.bool true)], args := [d1, d2, d3] }
  | _ => none }
def fnUintSubRow : OpenClaim := { program := "ytcjmddlhbpkmlaa", sum := "0c90287c1d6b758c8ef657a63d5982c36cad3774b645b31995fd5747db78caf1", func := "loop.example/lib-carryroads/laws.FnUintSub", spec := "fnUintSub", inPlace := ["math/bits.Sub64"], apart := false }
def FnUintSubSaid : Prop := fnUintSubRow.holds Try.pinned (OpenSpec.ofChange fnUintSubSpec)

/-- ITS FALSE NEIGHBOUR: 'it returns false'. Refute it at one input. -/
def fnUintSubWrong : ChangeSpec := { name := "fnUintSub", fn := fun _ => fun
  | [d1, d2, d3] => { results := [.lit (.bool false)], args := [d1, d2, d3] }
  | _ => none }
def FnUintSubWrongFalsely : Prop := fnUintSubRow.holds Try.pinned (OpenSpec.ofChange fnUintSubWrong)

/-- 'laws.FnUintMul': WHATEVER THE INPUT: true; the input reads as it did. -/
def fnUintMulSpec : ChangeSpec := { name := "fnUintMul", fn := fun _ => fun
  | [d1, d2] => { results := [.lit (.bool true)], args := [d1, d2] }
  | _ => none }
def fnUintMulRow : OpenClaim := { program := "ytcjmddlhbpkmlaa", sum := "0c90287c1d6b758c8ef657a63d5982c36cad3774b645b31995fd5747db78caf1", func := "loop.example/lib-carryroads/laws.FnUintMul", spec := "fnUintMul", apart := false }
def FnUintMulSaid : Prop := fnUintMulRow.holds Try.pinned (OpenSpec.ofChange fnUintMulSpec)

/-- ITS FALSE NEIGHBOUR: 'it returns false'. Refute it at one input. -/
def fnUintMulWrong : ChangeSpec := { name := "fnUintMul", fn := fun _ => fun
  | [d1, d2] => { results := [.lit (.bool false)], args := [d1, d2] }
  | _ => none }
def FnUintMulWrongFalsely : Prop := fnUintMulRow.holds Try.pinned (OpenSpec.ofChange fnUintMulWrong)

/-- 'laws.FnInverse': WHATEVER THE INPUT: true; the input reads as it did. -/
def fnInverseSpec : ChangeSpec := { name := "fnInverse", fn := fun _ => fun
  | [d] => { results := [.lit (.bool true)], args := [d] }
  | _ => none }
def fnInverseRow : OpenClaim := { program := "ytcjmddlhbpkmlaa", sum := "0c90287c1d6b758c8ef657a63d5982c36cad3774b645b31995fd5747db78caf1", func := "loop.example/lib-carryroads/laws.FnInverse", spec := "fnInverse", inPlace := ["math/bits.Sub64"], apart := false }
def FnInverseSaid : Prop := fnInverseRow.holds Try.pinned (OpenSpec.ofChange fnInverseSpec)

/-- ITS FALSE NEIGHBOUR: 'it returns false'. Refute it at one input. -/
def fnInverseWrong : ChangeSpec := { name := "fnInverse", fn := fun _ => fun
  | [d] => { results := [.lit (.bool false)], args := [d] }
  | _ => none }
def FnInverseWrongFalsely : Prop := fnInverseRow.holds Try.pinned (OpenSpec.ofChange fnInverseWrong)

/-- 'laws.FnRotateProduct': WHATEVER THE INPUT: true; the input reads as it did. -/
def fnRotateProductSpec : ChangeSpec := { name := "fnRotateProduct", fn := fun _ => fun
  | [d1, d2] => { results := [.lit (.bool true)], args := [d1, d2] }
  | _ => none }
def fnRotateProductRow : OpenClaim := { program := "ytcjmddlhbpkmlaa", sum := "0c90287c1d6b758c8ef657a63d5982c36cad3774b645b31995fd5747db78caf1", func := "loop.example/lib-carryroads/laws.FnRotateProduct", spec := "fnRotateProduct", apart := false }
def FnRotateProductSaid : Prop := fnRotateProductRow.holds Try.pinned (OpenSpec.ofChange fnRotateProductSpec)

/-- ITS FALSE NEIGHBOUR: 'it returns false'. Refute it at one input. -/
def fnRotateProductWrong : ChangeSpec := { name := "fnRotateProduct", fn := fun _ => fun
  | [d1, d2] => { results := [.lit (.bool false)], args := [d1, d2] }
  | _ => none }
def FnRotateProductWrongFalsely : Prop := fnRotateProductRow.holds Try.pinned (OpenSpec.ofChange fnRotateProductWrong)

/-- 'laws.FnSumLength': WHATEVER THE INPUT: true; the input reads as it did. -/
def fnSumLengthSpec : ChangeSpec := { name := "fnSumLength", fn := fun _ => fun
  | [d1, d2] => { results := [.lit (.bool true)], args := [d1, d2] }
  | _ => none }
def fnSumLengthRow : OpenClaim := { program := "ytcjmddlhbpkmlaa", sum := "0c90287c1d6b758c8ef657a63d5982c36cad3774b645b31995fd5747db78caf1", func := "loop.example/lib-carryroads/laws.FnSumLength", spec := "fnSumLength", inPlace := ["math/bits.Add64"], apart := false }
def FnSumLengthSaid : Prop := fnSumLengthRow.holds Try.pinned (OpenSpec.ofChange fnSumLengthSpec)

/-- ITS FALSE NEIGHBOUR: 'it returns false'. Refute it at one input. -/
def fnSumLengthWrong : ChangeSpec := { name := "fnSumLength", fn := fun _ => fun
  | [d1, d2] => { results := [.lit (.bool false)], args := [d1, d2] }
  | _ => none }
def FnSumLengthWrongFalsely : Prop := fnSumLengthRow.holds Try.pinned (OpenSpec.ofChange fnSumLengthWrong)

/-- 'laws.FnLess': WHATEVER THE INPUT: true; the input reads as it did. -/
def fnLessSpec : ChangeSpec := { name := "fnLess", fn := fun _ => fun
  | [d1, d2] => { results := [.lit (.bool true)], args := [d1, d2] }
  | _ => none }
def fnLessRow : OpenClaim := { program := "ytcjmddlhbpkmlaa", sum := "0c90287c1d6b758c8ef657a63d5982c36cad3774b645b31995fd5747db78caf1", func := "loop.example/lib-carryroads/laws.FnLess", spec := "fnLess", inPlace := ["math/bits.Sub64"], apart := false }
def FnLessSaid : Prop := fnLessRow.holds Try.pinned (OpenSpec.ofChange fnLessSpec)

/-- ITS FALSE NEIGHBOUR: 'it returns false'. Refute it at one input. -/
def fnLessWrong : ChangeSpec := { name := "fnLess", fn := fun _ => fun
  | [d1, d2] => { results := [.lit (.bool false)], args := [d1, d2] }
  | _ => none }
def FnLessWrongFalsely : Prop := fnLessRow.holds Try.pinned (OpenSpec.ofChange fnLessWrong)

/-- 'laws.FnCarries': WHATEVER THE INPUT: true; the input reads as it did. -/
def fnCarriesSpec : ChangeSpec := { name := "fnCarries", fn := fun _ => fun
  | [d1, d2, d3] => { results := [.lit (.bool true)], args := [d1, d2, d3] }
  | _ => none }
def fnCarriesRow : OpenClaim := { program := "ytcjmddlhbpkmlaa", sum := "0c90287c1d6b758c8ef657a63d5982c36cad3774b645b31995fd5747db78caf1", func := "loop.example/lib-carryroads/laws.FnCarries", spec := "fnCarries", inPlace := ["math/bits.Add64"], apart := false }
def FnCarriesSaid : Prop := fnCarriesRow.holds Try.pinned (OpenSpec.ofChange fnCarriesSpec)

/-- ITS FALSE NEIGHBOUR: 'it returns false'. Refute it at one input. -/
def fnCarriesWrong : ChangeSpec := { name := "fnCarries", fn := fun _ => fun
  | [d1, d2, d3] => { results := [.lit (.bool false)], args := [d1, d2, d3] }
  | _ => none }
def FnCarriesWrongFalsely : Prop := fnCarriesRow.holds Try.pinned (OpenSpec.ofChange fnCarriesWrong)

/-- 'laws.FnProductLength': WHATEVER THE INPUT: true; the input reads as it did. -/
def fnProductLengthSpec : ChangeSpec := { name := "fnProductLength", fn := fun _ => fun
  | [d1, d2] => { results := [.lit (.bool true)], args := [d1, d2] }
  | _ => none }
def fnProductLengthRow : OpenClaim := { program := "ytcjmddlhbpkmlaa", sum := "0c90287c1d6b758c8ef657a63d5982c36cad3774b645b31995fd5747db78caf1", func := "loop.example/lib-carryroads/laws.FnProductLength", spec := "fnProductLength", apart := false }
def FnProductLengthSaid : Prop := fnProductLengthRow.holds Try.pinned (OpenSpec.ofChange fnProductLengthSpec)

/-- ITS FALSE NEIGHBOUR: 'it returns false'. Refute it at one input. -/
def fnProductLengthWrong : ChangeSpec := { name := "fnProductLength", fn := fun _ => fun
  | [d1, d2] => { results := [.lit (.bool false)], args := [d1, d2] }
  | _ => none }
def FnProductLengthWrongFalsely : Prop := fnProductLengthRow.holds Try.pinned (OpenSpec.ofChange fnProductLengthWrong)

/-- 'laws.FnBorrows': WHATEVER THE INPUT: true; the input reads as it did. -/
def fnBorrowsSpec : ChangeSpec := { name := "fnBorrows", fn := fun _ => fun
  | [d1, d2, d3] => { results := [.lit (.bool true)], args := [d1, d2, d3] }
  | _ => none }
def fnBorrowsRow : OpenClaim := { program := "ytcjmddlhbpkmlaa", sum := "0c90287c1d6b758c8ef657a63d5982c36cad3774b645b31995fd5747db78caf1", func := "loop.example/lib-carryroads/laws.FnBorrows", spec := "fnBorrows", inPlace := ["math/bits.Sub64"], apart := false }
def FnBorrowsSaid : Prop := fnBorrowsRow.holds Try.pinned (OpenSpec.ofChange fnBorrowsSpec)

/-- ITS FALSE NEIGHBOUR: 'it returns false'. Refute it at one input. -/
def fnBorrowsWrong : ChangeSpec := { name := "fnBorrows", fn := fun _ => fun
  | [d1, d2, d3] => { results := [.lit (.bool false)], args := [d1, d2, d3] }
  | _ => none }
def FnBorrowsWrongFalsely : Prop := fnBorrowsRow.holds Try.pinned (OpenSpec.ofChange fnBorrowsWrong)

/- THE SECOND FORM. 'bulk': how many values and letters a reading holds, each counted each time it is reached (what is shared counts as often as it is met; a slice's spare places count too). A statement '..UptoSaid' is the law's where the arguments, and the package variables that the reading takes, are together of bulk at most 1048576: NARROWER than '..Said'. Prove '..Said' where nothing that the law and all that it calls make is longer than what came in: it says more and counts as full. Else prove '..UptoSaid'. A law counts once. -/
mutual
def uptoBulk {H : Type} : DataW H → Nat
  | .lit (.string bytes) => bytes.length + 1
  | .lit _ => 1
  | .nil => 1
  | .ptr d => uptoBulk d + 1
  | .slice elems spare => uptoBulkAll elems + uptoBulkAll spare + 1
  | .agg parts => uptoBulkAll parts + 1
  | .iface _ d => uptoBulk d + 1
  | .map entries => uptoBulkEntries entries + 1
  | .held _ => 1
def uptoBulkAll {H : Type} : List (DataW H) → Nat
  | [] => 0
  | d :: r => uptoBulk d + uptoBulkAll r
def uptoBulkEntries {H : Type} : List (Lit × DataW H) → Nat
  | [] => 0
  | x :: r => uptoBulkEntry x + uptoBulkEntries r
def uptoBulkEntry {H : Type} : Lit × DataW H → Nat
  | (.string bytes, d) => bytes.length + uptoBulk d + 1
  | (_, d) => uptoBulk d + 1
 end
def uptoSmall : (H : Type) → List (DataW H) → Bool := fun _ ds => decide (uptoBulkAll ds ≤ 1048576)
def OpenSpec.upto (s : _root_.Go.ChangeSpec) : _root_.Go.OpenSpec := { _root_.Go.OpenSpec.ofChange s with cond := some uptoSmall }

/-- 'laws.FnSquaresDiffer', WHERE WHAT IT READS IS OF BULK AT MOST 1048576: true; the input reads as it did. -/
def fnSquaresDifferUptoRow : OpenClaim := { program := "ytcjmddlhbpkmlaa", sum := "0c90287c1d6b758c8ef657a63d5982c36cad3774b645b31995fd5747db78caf1", func := "loop.example/lib-carryroads/laws.FnSquaresDiffer", spec := "fnSquaresDiffer", inPlace := ["math/bits.Add64", "math/bits.Sub64"], apart := false, narrowed := true }
def FnSquaresDifferUptoSaid : Prop := fnSquaresDifferUptoRow.holds Try.pinned (OpenSpec.upto fnSquaresDifferSpec)

/-- 'laws.FnAverage', WHERE WHAT IT READS IS OF BULK AT MOST 1048576: true; the input reads as it did. -/
def fnAverageUptoRow : OpenClaim := { program := "ytcjmddlhbpkmlaa", sum := "0c90287c1d6b758c8ef657a63d5982c36cad3774b645b31995fd5747db78caf1", func := "loop.example/lib-carryroads/laws.FnAverage", spec := "fnAverage", inPlace := ["math/bits.Add64"], apart := false, narrowed := true }
def FnAverageUptoSaid : Prop := fnAverageUptoRow.holds Try.pinned (OpenSpec.upto fnAverageSpec)

/-- 'laws.FnProductsRise', WHERE WHAT IT READS IS OF BULK AT MOST 1048576: true; the input reads as it did. -/
def fnProductsRiseUptoRow : OpenClaim := { program := "ytcjmddlhbpkmlaa", sum := "0c90287c1d6b758c8ef657a63d5982c36cad3774b645b31995fd5747db78caf1", func := "loop.example/lib-carryroads/laws.FnProductsRise", spec := "fnProductsRise", apart := false, narrowed := true }
def FnProductsRiseUptoSaid : Prop := fnProductsRiseUptoRow.holds Try.pinned (OpenSpec.upto fnProductsRiseSpec)

/-- 'laws.FnUintAdd', WHERE WHAT IT READS IS OF BULK AT MOST 1048576: true; the input reads as it did. -/
def fnUintAddUptoRow : OpenClaim := { program := "ytcjmddlhbpkmlaa", sum := "0c90287c1d6b758c8ef657a63d5982c36cad3774b645b31995fd5747db78caf1", func := "loop.example/lib-carryroads/laws.FnUintAdd", spec := "fnUintAdd", inPlace := ["math/bits.Add64"], apart := false, narrowed := true }
def FnUintAddUptoSaid : Prop := fnUintAddUptoRow.holds Try.pinned (OpenSpec.upto fnUintAddSpec)

/-- 'laws.FnUintSub', WHERE WHAT IT READS IS OF BULK AT MOST 1048576: true; the input reads as it did. -/
def fnUintSubUptoRow : OpenClaim := { program := "ytcjmddlhbpkmlaa", sum := "0c90287c1d6b758c8ef657a63d5982c36cad3774b645b31995fd5747db78caf1", func := "loop.example/lib-carryroads/laws.FnUintSub", spec := "fnUintSub", inPlace := ["math/bits.Sub64"], apart := false, narrowed := true }
def FnUintSubUptoSaid : Prop := fnUintSubUptoRow.holds Try.pinned (OpenSpec.upto fnUintSubSpec)

/-- 'laws.FnUintMul', WHERE WHAT IT READS IS OF BULK AT MOST 1048576: true; the input reads as it did. -/
def fnUintMulUptoRow : OpenClaim := { program := "ytcjmddlhbpkmlaa", sum := "0c90287c1d6b758c8ef657a63d5982c36cad3774b645b31995fd5747db78caf1", func := "loop.example/lib-carryroads/laws.FnUintMul", spec := "fnUintMul", apart := false, narrowed := true }
def FnUintMulUptoSaid : Prop := fnUintMulUptoRow.holds Try.pinned (OpenSpec.upto fnUintMulSpec)

/-- 'laws.FnInverse', WHERE WHAT IT READS IS OF BULK AT MOST 1048576: true; the input reads as it did. -/
def fnInverseUptoRow : OpenClaim := { program := "ytcjmddlhbpkmlaa", sum := "0c90287c1d6b758c8ef657a63d5982c36cad3774b645b31995fd5747db78caf1", func := "loop.example/lib-carryroads/laws.FnInverse", spec := "fnInverse", inPlace := ["math/bits.Sub64"], apart := false, narrowed := true }
def FnInverseUptoSaid : Prop := fnInverseUptoRow.holds Try.pinned (OpenSpec.upto fnInverseSpec)

/-- 'laws.FnRotateProduct', WHERE WHAT IT READS IS OF BULK AT MOST 1048576: true; the input reads as it did. -/
def fnRotateProductUptoRow : OpenClaim := { program := "ytcjmddlhbpkmlaa", sum := "0c90287c1d6b758c8ef657a63d5982c36cad3774b645b31995fd5747db78caf1", func := "loop.example/lib-carryroads/laws.FnRotateProduct", spec := "fnRotateProduct", apart := false, narrowed := true }
def FnRotateProductUptoSaid : Prop := fnRotateProductUptoRow.holds Try.pinned (OpenSpec.upto fnRotateProductSpec)

/-- 'laws.FnSumLength', WHERE WHAT IT READS IS OF BULK AT MOST 1048576: true; the input reads as it did. -/
def fnSumLengthUptoRow : OpenClaim := { program := "ytcjmddlhbpkmlaa", sum := "0c90287c1d6b758c8ef657a63d5982c36cad3774b645b31995fd5747db78caf1", func := "loop.example/lib-carryroads/laws.FnSumLength", spec := "fnSumLength", inPlace := ["math/bits.Add64"], apart := false, narrowed := true }
def FnSumLengthUptoSaid : Prop := fnSumLengthUptoRow.holds Try.pinned (OpenSpec.upto fnSumLengthSpec)

/-- 'laws.FnLess', WHERE WHAT IT READS IS OF BULK AT MOST 1048576: true; the input reads as it did. -/
def fnLessUptoRow : OpenClaim := { program := "ytcjmddlhbpkmlaa", sum := "0c90287c1d6b758c8ef657a63d5982c36cad3774b645b31995fd5747db78caf1", func := "loop.example/lib-carryroads/laws.FnLess", spec := "fnLess", inPlace := ["math/bits.Sub64"], apart := false, narrowed := true }
def FnLessUptoSaid : Prop := fnLessUptoRow.holds Try.pinned (OpenSpec.upto fnLessSpec)

/-- 'laws.FnCarries', WHERE WHAT IT READS IS OF BULK AT MOST 1048576: true; the input reads as it did. -/
def fnCarriesUptoRow : OpenClaim := { program := "ytcjmddlhbpkmlaa", sum := "0c90287c1d6b758c8ef657a63d5982c36cad3774b645b31995fd5747db78caf1", func := "loop.example/lib-carryroads/laws.FnCarries", spec := "fnCarries", inPlace := ["math/bits.Add64"], apart := false, narrowed := true }
def FnCarriesUptoSaid : Prop := fnCarriesUptoRow.holds Try.pinned (OpenSpec.upto fnCarriesSpec)

/-- 'laws.FnProductLength', WHERE WHAT IT READS IS OF BULK AT MOST 1048576: true; the input reads as it did. -/
def fnProductLengthUptoRow : OpenClaim := { program := "ytcjmddlhbpkmlaa", sum := "0c90287c1d6b758c8ef657a63d5982c36cad3774b645b31995fd5747db78caf1", func := "loop.example/lib-carryroads/laws.FnProductLength", spec := "fnProductLength", apart := false, narrowed := true }
def FnProductLengthUptoSaid : Prop := fnProductLengthUptoRow.holds Try.pinned (OpenSpec.upto fnProductLengthSpec)

/-- 'laws.FnBorrows', WHERE WHAT IT READS IS OF BULK AT MOST 1048576: true; the input reads as it did. -/
def fnBorrowsUptoRow : OpenClaim := { program := "ytcjmddlhbpkmlaa", sum := "0c90287c1d6b758c8ef657a63d5982c36cad3774b645b31995fd5747db78caf1", func := "loop.example/lib-carryroads/laws.FnBorrows", spec := "fnBorrows", inPlace := ["math/bits.Sub64"], apart := false, narrowed := true }
def FnBorrowsUptoSaid : Prop := fnBorrowsUptoRow.holds Try.pinned (OpenSpec.upto fnBorrowsSpec)

end Rows
end Go.Proofs.Ytcjmddlhbpkmlaa
