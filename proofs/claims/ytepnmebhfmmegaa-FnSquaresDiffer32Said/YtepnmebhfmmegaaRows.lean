/-
  No cell of these rows narrows 'for every input' (looked for: loops, veiled, ifaces, maps, wideKeys, modest, calm, conditions, laid).
  DERIVED. THE GIVEN ROWS OF THIS SEAT. 12 by the template 'for every input the law returns true; each argument reads behind the call as it read before'; 0 by the template 'total and deterministic' (their statements: YtepnmebhfmmegaaTotals.lean).
  GIVEN WITH THE SEED: the statements are not yours to turn. If you find one false, say at which input.
  Laid BY PROGRAM, IN A SANDBOX (cutbox-rows.mjs): the forced cells as the released guide's own fill.sh prints them over the translation 971c17fd88ed96cf… (all of the seat's roots in one cut). By AI agents, Wed Nov 11 2026. No macro, syntax, notation, axiom, sorry.
-/
import Derived.Test.YtepnmebhfmmegaaChecked
import GoSem.Claim
import GoSem.ClaimJoined
import GoSem.ClaimMapViews
import Derived.JoinedTies
import Derived.KernelRfl
namespace Go.Proofs.Ytepnmebhfmmegaa
/- THE CELL 'sum', in the pinned program and in every row, IS THE sha256 OF THE DUMP (.gsa) THAT YtepnmebhfmmegaaProg.lean LOADS. Nothing in Lean hashes anything: it is a label: what it is worth is what the hold of that sum in a sandbox is worth. -/
noncomputable def Try.pinned : Pinned := { name := "ytepnmebhfmmegaa", sum := "971c17fd88ed96cf9a41c2ad8994e7747d47ed91ce79f89bf4961ff449c8fadb", checked := Try.checked }
namespace Rows
def none {H : Type} : Left H := { results := [], args := [] }

/-- 'laws.FnProductsRise32': WHATEVER THE INPUT: true; the input reads as it did. -/
def fnProductsRise32Spec : ChangeSpec := { name := "fnProductsRise32", fn := fun _ => fun
  | [d1, d2, d3] => { results := [.lit (.bool true)], args := [d1, d2, d3] }
  | _ => none }
def fnProductsRise32Row : OpenClaim := { program := "ytepnmebhfmmegaa", sum := "971c17fd88ed96cf9a41c2ad8994e7747d47ed91ce79f89bf4961ff449c8fadb", func := "loop.example/lib-carryroads/laws.FnProductsRise32", spec := "fnProductsRise32", apart := false }
def FnProductsRise32Said : Prop := fnProductsRise32Row.holds Try.pinned (OpenSpec.ofChange fnProductsRise32Spec)

/-- ITS FALSE NEIGHBOUR: 'it returns false'. Refute it at one input. -/
def fnProductsRise32Wrong : ChangeSpec := { name := "fnProductsRise32", fn := fun _ => fun
  | [d1, d2, d3] => { results := [.lit (.bool false)], args := [d1, d2, d3] }
  | _ => none }
def FnProductsRise32WrongFalsely : Prop := fnProductsRise32Row.holds Try.pinned (OpenSpec.ofChange fnProductsRise32Wrong)

/-- 'laws.FnTenths32': WHATEVER THE INPUT: true; the input reads as it did. -/
def fnTenths32Spec : ChangeSpec := { name := "fnTenths32", fn := fun _ => fun
  | [d] => { results := [.lit (.bool true)], args := [d] }
  | _ => none }
def fnTenths32Row : OpenClaim := { program := "ytepnmebhfmmegaa", sum := "971c17fd88ed96cf9a41c2ad8994e7747d47ed91ce79f89bf4961ff449c8fadb", func := "loop.example/lib-carryroads/laws.FnTenths32", spec := "fnTenths32", apart := false }
def FnTenths32Said : Prop := fnTenths32Row.holds Try.pinned (OpenSpec.ofChange fnTenths32Spec)

/-- ITS FALSE NEIGHBOUR: 'it returns false'. Refute it at one input. -/
def fnTenths32Wrong : ChangeSpec := { name := "fnTenths32", fn := fun _ => fun
  | [d] => { results := [.lit (.bool false)], args := [d] }
  | _ => none }
def FnTenths32WrongFalsely : Prop := fnTenths32Row.holds Try.pinned (OpenSpec.ofChange fnTenths32Wrong)

/-- 'laws.FnThirds32': WHATEVER THE INPUT: true; the input reads as it did. -/
def fnThirds32Spec : ChangeSpec := { name := "fnThirds32", fn := fun _ => fun
  | [d] => { results := [.lit (.bool true)], args := [d] }
  | _ => none }
def fnThirds32Row : OpenClaim := { program := "ytepnmebhfmmegaa", sum := "971c17fd88ed96cf9a41c2ad8994e7747d47ed91ce79f89bf4961ff449c8fadb", func := "loop.example/lib-carryroads/laws.FnThirds32", spec := "fnThirds32", apart := false }
def FnThirds32Said : Prop := fnThirds32Row.holds Try.pinned (OpenSpec.ofChange fnThirds32Spec)

/-- ITS FALSE NEIGHBOUR: 'it returns false'. Refute it at one input. -/
def fnThirds32Wrong : ChangeSpec := { name := "fnThirds32", fn := fun _ => fun
  | [d] => { results := [.lit (.bool false)], args := [d] }
  | _ => none }
def FnThirds32WrongFalsely : Prop := fnThirds32Row.holds Try.pinned (OpenSpec.ofChange fnThirds32Wrong)

/-- 'laws.FnAverage32': WHATEVER THE INPUT: true; the input reads as it did. -/
def fnAverage32Spec : ChangeSpec := { name := "fnAverage32", fn := fun _ => fun
  | [d1, d2] => { results := [.lit (.bool true)], args := [d1, d2] }
  | _ => none }
def fnAverage32Row : OpenClaim := { program := "ytepnmebhfmmegaa", sum := "971c17fd88ed96cf9a41c2ad8994e7747d47ed91ce79f89bf4961ff449c8fadb", func := "loop.example/lib-carryroads/laws.FnAverage32", spec := "fnAverage32", apart := false }
def FnAverage32Said : Prop := fnAverage32Row.holds Try.pinned (OpenSpec.ofChange fnAverage32Spec)

/-- ITS FALSE NEIGHBOUR: 'it returns false'. Refute it at one input. -/
def fnAverage32Wrong : ChangeSpec := { name := "fnAverage32", fn := fun _ => fun
  | [d1, d2] => { results := [.lit (.bool false)], args := [d1, d2] }
  | _ => none }
def FnAverage32WrongFalsely : Prop := fnAverage32Row.holds Try.pinned (OpenSpec.ofChange fnAverage32Wrong)

/-- 'laws.FnOnesByProduct32': WHATEVER THE INPUT: true; the input reads as it did. -/
def fnOnesByProduct32Spec : ChangeSpec := { name := "fnOnesByProduct32", fn := fun _ => fun
  | [d] => { results := [.lit (.bool true)], args := [d] }
  | _ => none }
def fnOnesByProduct32Row : OpenClaim := { program := "ytepnmebhfmmegaa", sum := "971c17fd88ed96cf9a41c2ad8994e7747d47ed91ce79f89bf4961ff449c8fadb", func := "loop.example/lib-carryroads/laws.FnOnesByProduct32", spec := "fnOnesByProduct32", apart := false }
def FnOnesByProduct32Said : Prop := fnOnesByProduct32Row.holds Try.pinned (OpenSpec.ofChange fnOnesByProduct32Spec)

/-- ITS FALSE NEIGHBOUR: 'it returns false'. Refute it at one input. -/
def fnOnesByProduct32Wrong : ChangeSpec := { name := "fnOnesByProduct32", fn := fun _ => fun
  | [d] => { results := [.lit (.bool false)], args := [d] }
  | _ => none }
def FnOnesByProduct32WrongFalsely : Prop := fnOnesByProduct32Row.holds Try.pinned (OpenSpec.ofChange fnOnesByProduct32Wrong)

/-- 'laws.FnCarries32': WHATEVER THE INPUT: true; the input reads as it did. -/
def fnCarries32Spec : ChangeSpec := { name := "fnCarries32", fn := fun _ => fun
  | [d1, d2, d3] => { results := [.lit (.bool true)], args := [d1, d2, d3] }
  | _ => none }
def fnCarries32Row : OpenClaim := { program := "ytepnmebhfmmegaa", sum := "971c17fd88ed96cf9a41c2ad8994e7747d47ed91ce79f89bf4961ff449c8fadb", func := "loop.example/lib-carryroads/laws.FnCarries32", spec := "fnCarries32", apart := false }
def FnCarries32Said : Prop := fnCarries32Row.holds Try.pinned (OpenSpec.ofChange fnCarries32Spec)

/-- ITS FALSE NEIGHBOUR: 'it returns false'. Refute it at one input. -/
def fnCarries32Wrong : ChangeSpec := { name := "fnCarries32", fn := fun _ => fun
  | [d1, d2, d3] => { results := [.lit (.bool false)], args := [d1, d2, d3] }
  | _ => none }
def FnCarries32WrongFalsely : Prop := fnCarries32Row.holds Try.pinned (OpenSpec.ofChange fnCarries32Wrong)

/-- 'laws.FnRotateProduct32': WHATEVER THE INPUT: true; the input reads as it did. -/
def fnRotateProduct32Spec : ChangeSpec := { name := "fnRotateProduct32", fn := fun _ => fun
  | [d1, d2] => { results := [.lit (.bool true)], args := [d1, d2] }
  | _ => none }
def fnRotateProduct32Row : OpenClaim := { program := "ytepnmebhfmmegaa", sum := "971c17fd88ed96cf9a41c2ad8994e7747d47ed91ce79f89bf4961ff449c8fadb", func := "loop.example/lib-carryroads/laws.FnRotateProduct32", spec := "fnRotateProduct32", apart := false }
def FnRotateProduct32Said : Prop := fnRotateProduct32Row.holds Try.pinned (OpenSpec.ofChange fnRotateProduct32Spec)

/-- ITS FALSE NEIGHBOUR: 'it returns false'. Refute it at one input. -/
def fnRotateProduct32Wrong : ChangeSpec := { name := "fnRotateProduct32", fn := fun _ => fun
  | [d1, d2] => { results := [.lit (.bool false)], args := [d1, d2] }
  | _ => none }
def FnRotateProduct32WrongFalsely : Prop := fnRotateProduct32Row.holds Try.pinned (OpenSpec.ofChange fnRotateProduct32Wrong)

/-- 'laws.FnBorrows32': WHATEVER THE INPUT: true; the input reads as it did. -/
def fnBorrows32Spec : ChangeSpec := { name := "fnBorrows32", fn := fun _ => fun
  | [d1, d2, d3] => { results := [.lit (.bool true)], args := [d1, d2, d3] }
  | _ => none }
def fnBorrows32Row : OpenClaim := { program := "ytepnmebhfmmegaa", sum := "971c17fd88ed96cf9a41c2ad8994e7747d47ed91ce79f89bf4961ff449c8fadb", func := "loop.example/lib-carryroads/laws.FnBorrows32", spec := "fnBorrows32", apart := false }
def FnBorrows32Said : Prop := fnBorrows32Row.holds Try.pinned (OpenSpec.ofChange fnBorrows32Spec)

/-- ITS FALSE NEIGHBOUR: 'it returns false'. Refute it at one input. -/
def fnBorrows32Wrong : ChangeSpec := { name := "fnBorrows32", fn := fun _ => fun
  | [d1, d2, d3] => { results := [.lit (.bool false)], args := [d1, d2, d3] }
  | _ => none }
def FnBorrows32WrongFalsely : Prop := fnBorrows32Row.holds Try.pinned (OpenSpec.ofChange fnBorrows32Wrong)

/-- 'laws.FnInverse32': WHATEVER THE INPUT: true; the input reads as it did. -/
def fnInverse32Spec : ChangeSpec := { name := "fnInverse32", fn := fun _ => fun
  | [d] => { results := [.lit (.bool true)], args := [d] }
  | _ => none }
def fnInverse32Row : OpenClaim := { program := "ytepnmebhfmmegaa", sum := "971c17fd88ed96cf9a41c2ad8994e7747d47ed91ce79f89bf4961ff449c8fadb", func := "loop.example/lib-carryroads/laws.FnInverse32", spec := "fnInverse32", apart := false }
def FnInverse32Said : Prop := fnInverse32Row.holds Try.pinned (OpenSpec.ofChange fnInverse32Spec)

/-- ITS FALSE NEIGHBOUR: 'it returns false'. Refute it at one input. -/
def fnInverse32Wrong : ChangeSpec := { name := "fnInverse32", fn := fun _ => fun
  | [d] => { results := [.lit (.bool false)], args := [d] }
  | _ => none }
def FnInverse32WrongFalsely : Prop := fnInverse32Row.holds Try.pinned (OpenSpec.ofChange fnInverse32Wrong)

/-- 'laws.FnSevenths32': WHATEVER THE INPUT: true; the input reads as it did. -/
def fnSevenths32Spec : ChangeSpec := { name := "fnSevenths32", fn := fun _ => fun
  | [d] => { results := [.lit (.bool true)], args := [d] }
  | _ => none }
def fnSevenths32Row : OpenClaim := { program := "ytepnmebhfmmegaa", sum := "971c17fd88ed96cf9a41c2ad8994e7747d47ed91ce79f89bf4961ff449c8fadb", func := "loop.example/lib-carryroads/laws.FnSevenths32", spec := "fnSevenths32", apart := false }
def FnSevenths32Said : Prop := fnSevenths32Row.holds Try.pinned (OpenSpec.ofChange fnSevenths32Spec)

/-- ITS FALSE NEIGHBOUR: 'it returns false'. Refute it at one input. -/
def fnSevenths32Wrong : ChangeSpec := { name := "fnSevenths32", fn := fun _ => fun
  | [d] => { results := [.lit (.bool false)], args := [d] }
  | _ => none }
def FnSevenths32WrongFalsely : Prop := fnSevenths32Row.holds Try.pinned (OpenSpec.ofChange fnSevenths32Wrong)

/-- 'laws.FnSignedProduct32': WHATEVER THE INPUT: true; the input reads as it did. -/
def fnSignedProduct32Spec : ChangeSpec := { name := "fnSignedProduct32", fn := fun _ => fun
  | [d1, d2] => { results := [.lit (.bool true)], args := [d1, d2] }
  | _ => none }
def fnSignedProduct32Row : OpenClaim := { program := "ytepnmebhfmmegaa", sum := "971c17fd88ed96cf9a41c2ad8994e7747d47ed91ce79f89bf4961ff449c8fadb", func := "loop.example/lib-carryroads/laws.FnSignedProduct32", spec := "fnSignedProduct32", apart := false }
def FnSignedProduct32Said : Prop := fnSignedProduct32Row.holds Try.pinned (OpenSpec.ofChange fnSignedProduct32Spec)

/-- ITS FALSE NEIGHBOUR: 'it returns false'. Refute it at one input. -/
def fnSignedProduct32Wrong : ChangeSpec := { name := "fnSignedProduct32", fn := fun _ => fun
  | [d1, d2] => { results := [.lit (.bool false)], args := [d1, d2] }
  | _ => none }
def FnSignedProduct32WrongFalsely : Prop := fnSignedProduct32Row.holds Try.pinned (OpenSpec.ofChange fnSignedProduct32Wrong)

/-- 'laws.FnSquaresDiffer32': WHATEVER THE INPUT: true; the input reads as it did. -/
def fnSquaresDiffer32Spec : ChangeSpec := { name := "fnSquaresDiffer32", fn := fun _ => fun
  | [d1, d2] => { results := [.lit (.bool true)], args := [d1, d2] }
  | _ => none }
def fnSquaresDiffer32Row : OpenClaim := { program := "ytepnmebhfmmegaa", sum := "971c17fd88ed96cf9a41c2ad8994e7747d47ed91ce79f89bf4961ff449c8fadb", func := "loop.example/lib-carryroads/laws.FnSquaresDiffer32", spec := "fnSquaresDiffer32", apart := false }
def FnSquaresDiffer32Said : Prop := fnSquaresDiffer32Row.holds Try.pinned (OpenSpec.ofChange fnSquaresDiffer32Spec)

/-- ITS FALSE NEIGHBOUR: 'it returns false'. Refute it at one input. -/
def fnSquaresDiffer32Wrong : ChangeSpec := { name := "fnSquaresDiffer32", fn := fun _ => fun
  | [d1, d2] => { results := [.lit (.bool false)], args := [d1, d2] }
  | _ => none }
def FnSquaresDiffer32WrongFalsely : Prop := fnSquaresDiffer32Row.holds Try.pinned (OpenSpec.ofChange fnSquaresDiffer32Wrong)

/- THE SECOND FORM. 'bulk': how many values and letters a reading holds, each counted each time it is reached (what is shared counts as often as it is met; a slice's spare places count too). A statement '..UptoSaid' is the law's where the arguments, and the package variables that the reading takes, are together of bulk at most 1048576: NARROWER than '..Said'. Prove '..Said' where nothing that the law and all that it calls make is longer than what came in: it says more and counts as full. Else prove '..UptoSaid'. A law counts once. -/
mutual
def uptoBulk {H : Type} : DataW H → Nat
  | .lit (.string bytes) => bytes.length + 1
  | .lit _ => 1
  | .nil => 1
  | .ptr d => uptoBulk d + 1
  | .slice elems spare => uptoBulkAll elems + uptoBulkAll spare + 1
  | .agg parts => uptoBulkAll parts + 1
  | .iface _ d => uptoBulk d + 1
  | .map entries => uptoBulkEntries entries + 1
  | .held _ => 1
def uptoBulkAll {H : Type} : List (DataW H) → Nat
  | [] => 0
  | d :: r => uptoBulk d + uptoBulkAll r
def uptoBulkEntries {H : Type} : List (Lit × DataW H) → Nat
  | [] => 0
  | x :: r => uptoBulkEntry x + uptoBulkEntries r
def uptoBulkEntry {H : Type} : Lit × DataW H → Nat
  | (.string bytes, d) => bytes.length + uptoBulk d + 1
  | (_, d) => uptoBulk d + 1
 end
def uptoSmall : (H : Type) → List (DataW H) → Bool := fun _ ds => decide (uptoBulkAll ds ≤ 1048576)
def OpenSpec.upto (s : _root_.Go.ChangeSpec) : _root_.Go.OpenSpec := { _root_.Go.OpenSpec.ofChange s with cond := some uptoSmall }

/-- 'laws.FnProductsRise32', WHERE WHAT IT READS IS OF BULK AT MOST 1048576: true; the input reads as it did. -/
def fnProductsRise32UptoRow : OpenClaim := { program := "ytepnmebhfmmegaa", sum := "971c17fd88ed96cf9a41c2ad8994e7747d47ed91ce79f89bf4961ff449c8fadb", func := "loop.example/lib-carryroads/laws.FnProductsRise32", spec := "fnProductsRise32", apart := false, narrowed := true }
def FnProductsRise32UptoSaid : Prop := fnProductsRise32UptoRow.holds Try.pinned (OpenSpec.upto fnProductsRise32Spec)

/-- 'laws.FnTenths32', WHERE WHAT IT READS IS OF BULK AT MOST 1048576: true; the input reads as it did. -/
def fnTenths32UptoRow : OpenClaim := { program := "ytepnmebhfmmegaa", sum := "971c17fd88ed96cf9a41c2ad8994e7747d47ed91ce79f89bf4961ff449c8fadb", func := "loop.example/lib-carryroads/laws.FnTenths32", spec := "fnTenths32", apart := false, narrowed := true }
def FnTenths32UptoSaid : Prop := fnTenths32UptoRow.holds Try.pinned (OpenSpec.upto fnTenths32Spec)

/-- 'laws.FnThirds32', WHERE WHAT IT READS IS OF BULK AT MOST 1048576: true; the input reads as it did. -/
def fnThirds32UptoRow : OpenClaim := { program := "ytepnmebhfmmegaa", sum := "971c17fd88ed96cf9a41c2ad8994e7747d47ed91ce79f89bf4961ff449c8fadb", func := "loop.example/lib-carryroads/laws.FnThirds32", spec := "fnThirds32", apart := false, narrowed := true }
def FnThirds32UptoSaid : Prop := fnThirds32UptoRow.holds Try.pinned (OpenSpec.upto fnThirds32Spec)

/-- 'laws.FnAverage32', WHERE WHAT IT READS IS OF BULK AT MOST 1048576: true; the input reads as it did. -/
def fnAverage32UptoRow : OpenClaim := { program := "ytepnmebhfmmegaa", sum := "971c17fd88ed96cf9a41c2ad8994e7747d47ed91ce79f89bf4961ff449c8fadb", func := "loop.example/lib-carryroads/laws.FnAverage32", spec := "fnAverage32", apart := false, narrowed := true }
def FnAverage32UptoSaid : Prop := fnAverage32UptoRow.holds Try.pinned (OpenSpec.upto fnAverage32Spec)

/-- 'laws.FnOnesByProduct32', WHERE WHAT IT READS IS OF BULK AT MOST 1048576: true; the input reads as it did. -/
def fnOnesByProduct32UptoRow : OpenClaim := { program := "ytepnmebhfmmegaa", sum := "971c17fd88ed96cf9a41c2ad8994e7747d47ed91ce79f89bf4961ff449c8fadb", func := "loop.example/lib-carryroads/laws.FnOnesByProduct32", spec := "fnOnesByProduct32", apart := false, narrowed := true }
def FnOnesByProduct32UptoSaid : Prop := fnOnesByProduct32UptoRow.holds Try.pinned (OpenSpec.upto fnOnesByProduct32Spec)

/-- 'laws.FnCarries32', WHERE WHAT IT READS IS OF BULK AT MOST 1048576: true; the input reads as it did. -/
def fnCarries32UptoRow : OpenClaim := { program := "ytepnmebhfmmegaa", sum := "971c17fd88ed96cf9a41c2ad8994e7747d47ed91ce79f89bf4961ff449c8fadb", func := "loop.example/lib-carryroads/laws.FnCarries32", spec := "fnCarries32", apart := false, narrowed := true }
def FnCarries32UptoSaid : Prop := fnCarries32UptoRow.holds Try.pinned (OpenSpec.upto fnCarries32Spec)

/-- 'laws.FnRotateProduct32', WHERE WHAT IT READS IS OF BULK AT MOST 1048576: true; the input reads as it did. -/
def fnRotateProduct32UptoRow : OpenClaim := { program := "ytepnmebhfmmegaa", sum := "971c17fd88ed96cf9a41c2ad8994e7747d47ed91ce79f89bf4961ff449c8fadb", func := "loop.example/lib-carryroads/laws.FnRotateProduct32", spec := "fnRotateProduct32", apart := false, narrowed := true }
def FnRotateProduct32UptoSaid : Prop := fnRotateProduct32UptoRow.holds Try.pinned (OpenSpec.upto fnRotateProduct32Spec)

/-- 'laws.FnBorrows32', WHERE WHAT IT READS IS OF BULK AT MOST 1048576: true; the input reads as it did. -/
def fnBorrows32UptoRow : OpenClaim := { program := "ytepnmebhfmmegaa", sum := "971c17fd88ed96cf9a41c2ad8994e7747d47ed91ce79f89bf4961ff449c8fadb", func := "loop.example/lib-carryroads/laws.FnBorrows32", spec := "fnBorrows32", apart := false, narrowed := true }
def FnBorrows32UptoSaid : Prop := fnBorrows32UptoRow.holds Try.pinned (OpenSpec.upto fnBorrows32Spec)

/-- 'laws.FnInverse32', WHERE WHAT IT READS IS OF BULK AT MOST 1048576: true; the input reads as it did. -/
def fnInverse32UptoRow : OpenClaim := { program := "ytepnmebhfmmegaa", sum := "971c17fd88ed96cf9a41c2ad8994e7747d47ed91ce79f89bf4961ff449c8fadb", func := "loop.example/lib-carryroads/laws.FnInverse32", spec := "fnInverse32", apart := false, narrowed := true }
def FnInverse32UptoSaid : Prop := fnInverse32UptoRow.holds Try.pinned (OpenSpec.upto fnInverse32Spec)

/-- 'laws.FnSevenths32', WHERE WHAT IT READS IS OF BULK AT MOST 1048576: true; the input reads as it did. -/
def fnSevenths32UptoRow : OpenClaim := { program := "ytepnmebhfmmegaa", sum := "971c17fd88ed96cf9a41c2ad8994e7747d47ed91ce79f89bf4961ff449c8fadb", func := "loop.example/lib-carryroads/laws.FnSevenths32", spec := "fnSevenths32", apart := false, narrowed := true }
def FnSevenths32UptoSaid : Prop := fnSevenths32UptoRow.holds Try.pinned (OpenSpec.upto fnSevenths32Spec)

/-- 'laws.FnSignedProduct32', WHERE WHAT IT READS IS OF BULK AT MOST 1048576: true; the input reads as it did. -/
def fnSignedProduct32UptoRow : OpenClaim := { program := "ytepnmebhfmmegaa", sum := "971c17fd88ed96cf9a41c2ad8994e7747d47ed91ce79f89bf4961ff449c8fadb", func := "loop.example/lib-carryroads/laws.FnSignedProduct32", spec := "fnSignedProduct32", apart := false, narrowed := true }
def FnSignedProduct32UptoSaid : Prop := fnSignedProduct32UptoRow.holds Try.pinned (OpenSpec.upto fnSignedProduct32Spec)

/-- 'laws.FnSquaresDiffer32', WHERE WHAT IT READS IS OF BULK AT MOST 1048576: true; the input reads as it did. -/
def fnSquaresDiffer32UptoRow : OpenClaim := { program := "ytepnmebhfmmegaa", sum := "971c17fd88ed96cf9a41c2ad8994e7747d47ed91ce79f89bf4961ff449c8fadb", func := "loop.example/lib-carryroads/laws.FnSquaresDiffer32", spec := "fnSquaresDiffer32", apart := false, narrowed := true }
def FnSquaresDiffer32UptoSaid : Prop := fnSquaresDiffer32UptoRow.holds Try.pinned (OpenSpec.upto fnSquaresDiffer32Spec)

end Rows
end Go.Proofs.Ytepnmebhfmmegaa
