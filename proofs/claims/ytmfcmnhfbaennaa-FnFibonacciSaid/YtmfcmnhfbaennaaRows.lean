/-
  No cell of these rows narrows 'for every input' (looked for: loops, veiled, ifaces, maps, wideKeys, modest, calm, conditions, laid).
  DERIVED. THE GIVEN ROWS OF THIS SEAT. 12 by the template 'for every input the law returns true; each argument reads behind the call as it read before'; 0 by the template 'total and deterministic' (their statements: YtmfcmnhfbaennaaTotals.lean).
  GIVEN WITH THE SEED: the statements are not yours to turn. If you find one false, say at which input.
  Laid BY PROGRAM, IN A SANDBOX (cutbox-rows.mjs): the forced cells as the released guide's own fill.sh prints them over the translation 0bc25931f93a032b… (all of the seat's roots in one cut). By AI agents, Wed Nov 11 2026. No macro, syntax, notation, axiom, sorry.
-/
import Derived.Test.YtmfcmnhfbaennaaChecked
import GoSem.Claim
import GoSem.ClaimJoined
import GoSem.ClaimMapViews
import Derived.JoinedTies
import Derived.KernelRfl
namespace Go.Proofs.Ytmfcmnhfbaennaa
/- THE CELL 'sum', in the pinned program and in every row, IS THE sha256 OF THE DUMP (.gsa) THAT YtmfcmnhfbaennaaProg.lean LOADS. Nothing in Lean hashes anything: it is a label: what it is worth is what the hold of that sum in a sandbox is worth. -/
noncomputable def Try.pinned : Pinned := { name := "ytmfcmnhfbaennaa", sum := "0bc25931f93a032bf8b6ea6e2244f98d691dd6ffab3f82103e640737acc758c5", checked := Try.checked }
namespace Rows
def none {H : Type} : Left H := { results := [], args := [] }

/-- 'laws.FnAverage64': WHATEVER THE INPUT: true; the input reads as it did. -/
def fnAverage64Spec : ChangeSpec := { name := "fnAverage64", fn := fun _ => fun
  | [d1, d2] => { results := [.lit (.bool true)], args := [d1, d2] }
  | _ => none }
def fnAverage64Row : OpenClaim := { program := "ytmfcmnhfbaennaa", sum := "0bc25931f93a032bf8b6ea6e2244f98d691dd6ffab3f82103e640737acc758c5", func := "loop.example/lib-carryroads/laws.FnAverage64", spec := "fnAverage64", inPlace := ["math/bits.Add64"], apart := false }
def FnAverage64Said : Prop := fnAverage64Row.holds Try.pinned (OpenSpec.ofChange fnAverage64Spec)

/-- ITS FALSE NEIGHBOUR: 'it returns false'. Refute it at one input. -/
def fnAverage64Wrong : ChangeSpec := { name := "fnAverage64", fn := fun _ => fun
  | [d1, d2] => { results := [.lit (.bool false)], args := [d1, d2] }
  | _ => none }
def FnAverage64WrongFalsely : Prop := fnAverage64Row.holds Try.pinned (OpenSpec.ofChange fnAverage64Wrong)

/-- 'laws.FnProductsRise64': WHATEVER THE INPUT: true; the input reads as it did. -/
def fnProductsRise64Spec : ChangeSpec := { name := "fnProductsRise64", fn := fun _ => fun
  | [d1, d2, d3] => { results := [.lit (.bool true)], args := [d1, d2, d3] }
  | _ => none }
def fnProductsRise64Row : OpenClaim := { program := "ytmfcmnhfbaennaa", sum := "0bc25931f93a032bf8b6ea6e2244f98d691dd6ffab3f82103e640737acc758c5", func := "loop.example/lib-carryroads/laws.FnProductsRise64", spec := "fnProductsRise64", apart := false }
def FnProductsRise64Said : Prop := fnProductsRise64Row.holds Try.pinned (OpenSpec.ofChange fnProductsRise64Spec)

/-- ITS FALSE NEIGHBOUR: 'it returns false'. Refute it at one input. -/
def fnProductsRise64Wrong : ChangeSpec := { name := "fnProductsRise64", fn := fun _ => fun
  | [d1, d2, d3] => { results := [.lit (.bool false)], args := [d1, d2, d3] }
  | _ => none }
def FnProductsRise64WrongFalsely : Prop := fnProductsRise64Row.holds Try.pinned (OpenSpec.ofChange fnProductsRise64Wrong)

/-- 'laws.FnTenths64': WHATEVER THE INPUT: true; the input reads as it did. -/
def fnTenths64Spec : ChangeSpec := { name := "fnTenths64", fn := fun _ => fun
  | [d] => { results := [.lit (.bool true)], args := [d] }
  | _ => none }
def fnTenths64Row : OpenClaim := { program := "ytmfcmnhfbaennaa", sum := "0bc25931f93a032bf8b6ea6e2244f98d691dd6ffab3f82103e640737acc758c5", func := "loop.example/lib-carryroads/laws.FnTenths64", spec := "fnTenths64", apart := false }
def FnTenths64Said : Prop := fnTenths64Row.holds Try.pinned (OpenSpec.ofChange fnTenths64Spec)

/-- ITS FALSE NEIGHBOUR: 'it returns false'. Refute it at one input. -/
def fnTenths64Wrong : ChangeSpec := { name := "fnTenths64", fn := fun _ => fun
  | [d] => { results := [.lit (.bool false)], args := [d] }
  | _ => none }
def FnTenths64WrongFalsely : Prop := fnTenths64Row.holds Try.pinned (OpenSpec.ofChange fnTenths64Wrong)

/-- 'laws.FnThirds64': WHATEVER THE INPUT: true; the input reads as it did. -/
def fnThirds64Spec : ChangeSpec := { name := "fnThirds64", fn := fun _ => fun
  | [d] => { results := [.lit (.bool true)], args := [d] }
  | _ => none }
def fnThirds64Row : OpenClaim := { program := "ytmfcmnhfbaennaa", sum := "0bc25931f93a032bf8b6ea6e2244f98d691dd6ffab3f82103e640737acc758c5", func := "loop.example/lib-carryroads/laws.FnThirds64", spec := "fnThirds64", apart := false }
def FnThirds64Said : Prop := fnThirds64Row.holds Try.pinned (OpenSpec.ofChange fnThirds64Spec)

/-- ITS FALSE NEIGHBOUR: 'it returns false'. Refute it at one input. -/
def fnThirds64Wrong : ChangeSpec := { name := "fnThirds64", fn := fun _ => fun
  | [d] => { results := [.lit (.bool false)], args := [d] }
  | _ => none }
def FnThirds64WrongFalsely : Prop := fnThirds64Row.holds Try.pinned (OpenSpec.ofChange fnThirds64Wrong)

/-- 'laws.FnMersenne': WHATEVER THE INPUT: true; the input reads as it did. -/
def fnMersenneSpec : ChangeSpec := { name := "fnMersenne", fn := fun _ => fun
  | [d1, d2, d3] => { results := [.lit (.bool true)], args := [d1, d2, d3] }
  | _ => none }
def fnMersenneRow : OpenClaim := { program := "ytmfcmnhfbaennaa", sum := "0bc25931f93a032bf8b6ea6e2244f98d691dd6ffab3f82103e640737acc758c5", func := "loop.example/lib-carryroads/laws.FnMersenne", spec := "fnMersenne", apart := false }
def FnMersenneSaid : Prop := fnMersenneRow.holds Try.pinned (OpenSpec.ofChange fnMersenneSpec)

/-- ITS FALSE NEIGHBOUR: 'it returns false'. Refute it at one input. -/
def fnMersenneWrong : ChangeSpec := { name := "fnMersenne", fn := fun _ => fun
  | [d1, d2, d3] => { results := [.lit (.bool false)], args := [d1, d2, d3] }
  | _ => none }
def FnMersenneWrongFalsely : Prop := fnMersenneRow.holds Try.pinned (OpenSpec.ofChange fnMersenneWrong)

/-- 'laws.FnInverse64': WHATEVER THE INPUT: true; the input reads as it did. -/
def fnInverse64Spec : ChangeSpec := { name := "fnInverse64", fn := fun _ => fun
  | [d] => { results := [.lit (.bool true)], args := [d] }
  | _ => none }
def fnInverse64Row : OpenClaim := { program := "ytmfcmnhfbaennaa", sum := "0bc25931f93a032bf8b6ea6e2244f98d691dd6ffab3f82103e640737acc758c5", func := "loop.example/lib-carryroads/laws.FnInverse64", spec := "fnInverse64", inPlace := ["math/bits.Sub64"], apart := false }
def FnInverse64Said : Prop := fnInverse64Row.holds Try.pinned (OpenSpec.ofChange fnInverse64Spec)

/-- ITS FALSE NEIGHBOUR: 'it returns false'. Refute it at one input. -/
def fnInverse64Wrong : ChangeSpec := { name := "fnInverse64", fn := fun _ => fun
  | [d] => { results := [.lit (.bool false)], args := [d] }
  | _ => none }
def FnInverse64WrongFalsely : Prop := fnInverse64Row.holds Try.pinned (OpenSpec.ofChange fnInverse64Wrong)

/-- 'laws.FnSevenths64': WHATEVER THE INPUT: true; the input reads as it did. -/
def fnSevenths64Spec : ChangeSpec := { name := "fnSevenths64", fn := fun _ => fun
  | [d] => { results := [.lit (.bool true)], args := [d] }
  | _ => none }
def fnSevenths64Row : OpenClaim := { program := "ytmfcmnhfbaennaa", sum := "0bc25931f93a032bf8b6ea6e2244f98d691dd6ffab3f82103e640737acc758c5", func := "loop.example/lib-carryroads/laws.FnSevenths64", spec := "fnSevenths64", inPlace := ["math/bits.Sub64"], apart := false }
def FnSevenths64Said : Prop := fnSevenths64Row.holds Try.pinned (OpenSpec.ofChange fnSevenths64Spec)

/-- ITS FALSE NEIGHBOUR: 'it returns false'. Refute it at one input. -/
def fnSevenths64Wrong : ChangeSpec := { name := "fnSevenths64", fn := fun _ => fun
  | [d] => { results := [.lit (.bool false)], args := [d] }
  | _ => none }
def FnSevenths64WrongFalsely : Prop := fnSevenths64Row.holds Try.pinned (OpenSpec.ofChange fnSevenths64Wrong)

/-- 'laws.FnSignedProduct64': WHATEVER THE INPUT: true; the input reads as it did. -/
def fnSignedProduct64Spec : ChangeSpec := { name := "fnSignedProduct64", fn := fun _ => fun
  | [d1, d2] => { results := [.lit (.bool true)], args := [d1, d2] }
  | _ => none }
def fnSignedProduct64Row : OpenClaim := { program := "ytmfcmnhfbaennaa", sum := "0bc25931f93a032bf8b6ea6e2244f98d691dd6ffab3f82103e640737acc758c5", func := "loop.example/lib-carryroads/laws.FnSignedProduct64", spec := "fnSignedProduct64", inPlace := ["math/bits.Sub64"], apart := false }
def FnSignedProduct64Said : Prop := fnSignedProduct64Row.holds Try.pinned (OpenSpec.ofChange fnSignedProduct64Spec)

/-- ITS FALSE NEIGHBOUR: 'it returns false'. Refute it at one input. -/
def fnSignedProduct64Wrong : ChangeSpec := { name := "fnSignedProduct64", fn := fun _ => fun
  | [d1, d2] => { results := [.lit (.bool false)], args := [d1, d2] }
  | _ => none }
def FnSignedProduct64WrongFalsely : Prop := fnSignedProduct64Row.holds Try.pinned (OpenSpec.ofChange fnSignedProduct64Wrong)

/-- 'laws.FnSquaresDiffer64': WHATEVER THE INPUT: true; the input reads as it did. -/
def fnSquaresDiffer64Spec : ChangeSpec := { name := "fnSquaresDiffer64", fn := fun _ => fun
  | [d1, d2] => { results := [.lit (.bool true)], args := [d1, d2] }
  | _ => none }
def fnSquaresDiffer64Row : OpenClaim := { program := "ytmfcmnhfbaennaa", sum := "0bc25931f93a032bf8b6ea6e2244f98d691dd6ffab3f82103e640737acc758c5", func := "loop.example/lib-carryroads/laws.FnSquaresDiffer64", spec := "fnSquaresDiffer64", inPlace := ["math/bits.Add64", "math/bits.Sub64"], apart := false }
def FnSquaresDiffer64Said : Prop := fnSquaresDiffer64Row.holds Try.pinned (OpenSpec.ofChange fnSquaresDiffer64Spec)

/-- ITS FALSE NEIGHBOUR: 'it returns false'. Refute it at one input. -/
def fnSquaresDiffer64Wrong : ChangeSpec := { name := "fnSquaresDiffer64", fn := fun _ => fun
  | [d1, d2] => { results := [.lit (.bool false)], args := [d1, d2] }
  | _ => none }
def FnSquaresDiffer64WrongFalsely : Prop := fnSquaresDiffer64Row.holds Try.pinned (OpenSpec.ofChange fnSquaresDiffer64Wrong)

/-- 'laws.FnTwoSquares': WHATEVER THE INPUT: true; the input reads as it did. -/
def fnTwoSquaresSpec : ChangeSpec := { name := "fnTwoSquares", fn := fun _ => fun
  | [d1, d2, d3, d4] => { results := [.lit (.bool true)], args := [d1, d2, d3, d4] }
  | _ => none }
def fnTwoSquaresRow : OpenClaim := { program := "ytmfcmnhfbaennaa", sum := "0bc25931f93a032bf8b6ea6e2244f98d691dd6ffab3f82103e640737acc758c5", func := "loop.example/lib-carryroads/laws.FnTwoSquares", spec := "fnTwoSquares", inPlace := ["math/bits.Add64"], apart := false }
def FnTwoSquaresSaid : Prop := fnTwoSquaresRow.holds Try.pinned (OpenSpec.ofChange fnTwoSquaresSpec)

/-- ITS FALSE NEIGHBOUR: 'it returns false'. Refute it at one input. -/
def fnTwoSquaresWrong : ChangeSpec := { name := "fnTwoSquares", fn := fun _ => fun
  | [d1, d2, d3, d4] => { results := [.lit (.bool false)], args := [d1, d2, d3, d4] }
  | _ => none }
def FnTwoSquaresWrongFalsely : Prop := fnTwoSquaresRow.holds Try.pinned (OpenSpec.ofChange fnTwoSquaresWrong)

/-- 'laws.FnMontgomery': WHATEVER THE INPUT: true; the input reads as it did. -/
def fnMontgomerySpec : ChangeSpec := { name := "fnMontgomery", fn := fun _ => fun
  | [d1, d2, d3] => { results := [.lit (.bool true)], args := [d1, d2, d3] }
  | _ => none }
def fnMontgomeryRow : OpenClaim := { program := "ytmfcmnhfbaennaa", sum := "0bc25931f93a032bf8b6ea6e2244f98d691dd6ffab3f82103e640737acc758c5", func := "loop.example/lib-carryroads/laws.FnMontgomery", spec := "fnMontgomery", inPlace := ["math/bits.Sub64", "math/bits.Add64"], apart := false }
def FnMontgomerySaid : Prop := fnMontgomeryRow.holds Try.pinned (OpenSpec.ofChange fnMontgomerySpec)

/-- ITS FALSE NEIGHBOUR: 'it returns false'. Refute it at one input. -/
def fnMontgomeryWrong : ChangeSpec := { name := "fnMontgomery", fn := fun _ => fun
  | [d1, d2, d3] => { results := [.lit (.bool false)], args := [d1, d2, d3] }
  | _ => none }
def FnMontgomeryWrongFalsely : Prop := fnMontgomeryRow.holds Try.pinned (OpenSpec.ofChange fnMontgomeryWrong)

/-- 'laws.FnFibonacci': WHATEVER THE INPUT: true; the input reads as it did. -/
def fnFibonacciSpec : ChangeSpec := { name := "fnFibonacci", fn := fun _ => fun
  | [d1, d2] => { results := [.lit (.bool true)], args := [d1, d2] }
  | _ => none }
def fnFibonacciRow : OpenClaim := { program := "ytmfcmnhfbaennaa", sum := "0bc25931f93a032bf8b6ea6e2244f98d691dd6ffab3f82103e640737acc758c5", func := "loop.example/lib-carryroads/laws.FnFibonacci", spec := "fnFibonacci", inPlace := ["math/bits.Add64"], apart := false }
def FnFibonacciSaid : Prop := fnFibonacciRow.holds Try.pinned (OpenSpec.ofChange fnFibonacciSpec)

/-- ITS FALSE NEIGHBOUR: 'it returns false'. Refute it at one input. -/
def fnFibonacciWrong : ChangeSpec := { name := "fnFibonacci", fn := fun _ => fun
  | [d1, d2] => { results := [.lit (.bool false)], args := [d1, d2] }
  | _ => none }
def FnFibonacciWrongFalsely : Prop := fnFibonacciRow.holds Try.pinned (OpenSpec.ofChange fnFibonacciWrong)

/- THE SECOND FORM. 'bulk': how many values and letters a reading holds, each counted each time it is reached (what is shared counts as often as it is met; a slice's spare places count too). A statement '..UptoSaid' is the law's where the arguments, and the package variables that the reading takes, are together of bulk at most 1048576: NARROWER than '..Said'. Prove '..Said' where nothing that the law and all that it calls make is longer than what came in: it says more and counts as full. Else prove '..UptoSaid'. A law counts once. -/
mutual
def uptoBulk {H : Type} : DataW H → Nat
  | .lit (.string bytes) => bytes.length + 1
  | .lit _ => 1
  | .nil => 1
  | .ptr d => uptoBulk d + 1
  | .slice elems spare => uptoBulkAll elems + uptoBulkAll spare + 1
  | .agg parts => uptoBulkAll parts + 1
  | .iface _ d => uptoBulk d + 1
  | .map entries => uptoBulkEntries entries + 1
  | .held _ => 1
def uptoBulkAll {H : Type} : List (DataW H) → Nat
  | [] => 0
  | d :: r => uptoBulk d + uptoBulkAll r
def uptoBulkEntries {H : Type} : List (Lit × DataW H) → Nat
  | [] => 0
  | x :: r => uptoBulkEntry x + uptoBulkEntries r
def uptoBulkEntry {H : Type} : Lit × DataW H → Nat
  | (.string bytes, d) => bytes.length + uptoBulk d + 1
  | (_, d) => uptoBulk d + 1
 end
def uptoSmall : (H : Type) → List (DataW H) → Bool := fun _ ds => decide (uptoBulkAll ds ≤ 1048576)
def OpenSpec.upto (s : _root_.Go.ChangeSpec) : _root_.Go.OpenSpec := { _root_.Go.OpenSpec.ofChange s with cond := some uptoSmall }

/-- 'laws.FnAverage64', WHERE WHAT IT READS IS OF BULK AT MOST 1048576: true; the input reads as it did. -/
def fnAverage64UptoRow : OpenClaim := { program := "ytmfcmnhfbaennaa", sum := "0bc25931f93a032bf8b6ea6e2244f98d691dd6ffab3f82103e640737acc758c5", func := "loop.example/lib-carryroads/laws.FnAverage64", spec := "fnAverage64", inPlace := ["math/bits.Add64"], apart := false, narrowed := true }
def FnAverage64UptoSaid : Prop := fnAverage64UptoRow.holds Try.pinned (OpenSpec.upto fnAverage64Spec)

/-- 'laws.FnProductsRise64', WHERE WHAT IT READS IS OF BULK AT MOST 1048576: true; the input reads as it did. -/
def fnProductsRise64UptoRow : OpenClaim := { program := "ytmfcmnhfbaennaa", sum := "0bc25931f93a032bf8b6ea6e2244f98d691dd6ffab3f82103e640737acc758c5", func := "loop.example/lib-carryroads/laws.FnProductsRise64", spec := "fnProductsRise64", apart := false, narrowed := true }
def FnProductsRise64UptoSaid : Prop := fnProductsRise64UptoRow.holds Try.pinned (OpenSpec.upto fnProductsRise64Spec)

/-- 'laws.FnTenths64', WHERE WHAT IT READS IS OF BULK AT MOST 1048576: true; the input reads as it did. -/
def fnTenths64UptoRow : OpenClaim := { program := "ytmfcmnhfbaennaa", sum := "0bc25931f93a032bf8b6ea6e2244f98d691dd6ffab3f82103e640737acc758c5", func := "loop.example/lib-carryroads/laws.FnTenths64", spec := "fnTenths64", apart := false, narrowed := true }
def FnTenths64UptoSaid : Prop := fnTenths64UptoRow.holds Try.pinned (OpenSpec.upto fnTenths64Spec)

/-- 'laws.FnThirds64', WHERE WHAT IT READS IS OF BULK AT MOST 1048576: true; the input reads as it did. -/
def fnThirds64UptoRow : OpenClaim := { program := "ytmfcmnhfbaennaa", sum := "0bc25931f93a032bf8b6ea6e2244f98d691dd6ffab3f82103e640737acc758c5", func := "loop.example/lib-carryroads/laws.FnThirds64", spec := "fnThirds64", apart := false, narrowed := true }
def FnThirds64UptoSaid : Prop := fnThirds64UptoRow.holds Try.pinned (OpenSpec.upto fnThirds64Spec)

/-- 'laws.FnMersenne', WHERE WHAT IT READS IS OF BULK AT MOST 1048576: true; the input reads as it did. -/
def fnMersenneUptoRow : OpenClaim := { program := "ytmfcmnhfbaennaa", sum := "0bc25931f93a032bf8b6ea6e2244f98d691dd6ffab3f82103e640737acc758c5", func := "loop.example/lib-carryroads/laws.FnMersenne", spec := "fnMersenne", apart := false, narrowed := true }
def FnMersenneUptoSaid : Prop := fnMersenneUptoRow.holds Try.pinned (OpenSpec.upto fnMersenneSpec)

/-- 'laws.FnInverse64', WHERE WHAT IT READS IS OF BULK AT MOST 1048576: true; the input reads as it did. -/
def fnInverse64UptoRow : OpenClaim := { program := "ytmfcmnhfbaennaa", sum := "0bc25931f93a032bf8b6ea6e2244f98d691dd6ffab3f82103e640737acc758c5", func := "loop.example/lib-carryroads/laws.FnInverse64", spec := "fnInverse64", inPlace := ["math/bits.Sub64"], apart := false, narrowed := true }
def FnInverse64UptoSaid : Prop := fnInverse64UptoRow.holds Try.pinned (OpenSpec.upto fnInverse64Spec)

/-- 'laws.FnSevenths64', WHERE WHAT IT READS IS OF BULK AT MOST 1048576: true; the input reads as it did. -/
def fnSevenths64UptoRow : OpenClaim := { program := "ytmfcmnhfbaennaa", sum := "0bc25931f93a032bf8b6ea6e2244f98d691dd6ffab3f82103e640737acc758c5", func := "loop.example/lib-carryroads/laws.FnSevenths64", spec := "fnSevenths64", inPlace := ["math/bits.Sub64"], apart := false, narrowed := true }
def FnSevenths64UptoSaid : Prop := fnSevenths64UptoRow.holds Try.pinned (OpenSpec.upto fnSevenths64Spec)

/-- 'laws.FnSignedProduct64', WHERE WHAT IT READS IS OF BULK AT MOST 1048576: true; the input reads as it did. -/
def fnSignedProduct64UptoRow : OpenClaim := { program := "ytmfcmnhfbaennaa", sum := "0bc25931f93a032bf8b6ea6e2244f98d691dd6ffab3f82103e640737acc758c5", func := "loop.example/lib-carryroads/laws.FnSignedProduct64", spec := "fnSignedProduct64", inPlace := ["math/bits.Sub64"], apart := false, narrowed := true }
def FnSignedProduct64UptoSaid : Prop := fnSignedProduct64UptoRow.holds Try.pinned (OpenSpec.upto fnSignedProduct64Spec)

/-- 'laws.FnSquaresDiffer64', WHERE WHAT IT READS IS OF BULK AT MOST 1048576: true; the input reads as it did. -/
def fnSquaresDiffer64UptoRow : OpenClaim := { program := "ytmfcmnhfbaennaa", sum := "0bc25931f93a032bf8b6ea6e2244f98d691dd6ffab3f82103e640737acc758c5", func := "loop.example/lib-carryroads/laws.FnSquaresDiffer64", spec := "fnSquaresDiffer64", inPlace := ["math/bits.Add64", "math/bits.Sub64"], apart := false, narrowed := true }
def FnSquaresDiffer64UptoSaid : Prop := fnSquaresDiffer64UptoRow.holds Try.pinned (OpenSpec.upto fnSquaresDiffer64Spec)

/-- 'laws.FnTwoSquares', WHERE WHAT IT READS IS OF BULK AT MOST 1048576: true; the input reads as it did. -/
def fnTwoSquaresUptoRow : OpenClaim := { program := "ytmfcmnhfbaennaa", sum := "0bc25931f93a032bf8b6ea6e2244f98d691dd6ffab3f82103e640737acc758c5", func := "loop.example/lib-carryroads/laws.FnTwoSquares", spec := "fnTwoSquares", inPlace := ["math/bits.Add64"], apart := false, narrowed := true }
def FnTwoSquaresUptoSaid : Prop := fnTwoSquaresUptoRow.holds Try.pinned (OpenSpec.upto fnTwoSquaresSpec)

/-- 'laws.FnMontgomery', WHERE WHAT IT READS IS OF BULK AT MOST 1048576: true; the input reads as it did. -/
def fnMontgomeryUptoRow : OpenClaim := { program := "ytmfcmnhfbaennaa", sum := "0bc25931f93a032bf8b6ea6e2244f98d691dd6ffab3f82103e640737acc758c5", func := "loop.example/lib-carryroads/laws.FnMontgomery", spec := "fnMontgomery", inPlace := ["math/bits.Sub64", "math/bits.Add64"], apart := false, narrowed := true }
def FnMontgomeryUptoSaid : Prop := fnMontgomeryUptoRow.holds Try.pinned (OpenSpec.upto fnMontgomerySpec)

/-- 'laws.FnFibonacci', WHERE WHAT IT READS IS OF BULK AT MOST 1048576: true; the input reads as it did. -/
def fnFibonacciUptoRow : OpenClaim := { program := "ytmfcmnhfbaennaa", sum := "0bc25931f93a032bf8b6ea6e2244f98d691dd6ffab3f82103e640737acc758c5", func := "loop.example/lib-carryroads/laws.FnFibonacci", spec := "fnFibonacci", inPlace := ["math/bits.Add64"], apart := false, narrowed := true }
def FnFibonacciUptoSaid : Prop := fnFibonacciUptoRow.holds Try.pinned (OpenSpec.upto fnFibonacciSpec)

end Rows
end Go.Proofs.Ytmfcmnhfbaennaa
