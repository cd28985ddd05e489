/-
  NARROWER THAN 'FOR EVERY INPUT', by the rows' own cells (each row's printed sentence says how): FnProductZeros32: laid · FnSumZeros32: laid · FnNextSame32: laid.
  DERIVED. THE GIVEN ROWS OF THIS SEAT. 3 by the template 'for every input the law returns true; each argument reads behind the call as it read before'; 0 by the template 'total and deterministic' (their statements: YtjffncbjcidbmaaDoorTotals.lean).
  GIVEN WITH THE SEED: the statements are not yours to turn. If you find one false, say at which input.
  Laid BY PROGRAM, IN A SANDBOX (cutbox-rows.mjs): the forced cells as the released guide's own fill.sh prints them over the translation af3fa20cfac33aa5… (all of the seat's roots in one cut). By AI agents, Wed Nov 11 2026. No macro, syntax, notation, axiom, sorry.
-/
import Derived.Test.YtjffncbjcidbmaaDoorChecked
import GoSem.Claim
import GoSem.ClaimJoined
import GoSem.ClaimMapViews
import Derived.JoinedTies
import Derived.KernelRfl
namespace Go.Proofs.YtjffncbjcidbmaaDoor
/- THE CELL 'sum', in the pinned program and in every row, IS THE sha256 OF THE DUMP (.gsa) THAT YtjffncbjcidbmaaDoorProg.lean LOADS. Nothing in Lean hashes anything: it is a label: what it is worth is what the hold of that sum in a sandbox is worth. -/
noncomputable def Tryd.pinned : Pinned := { name := "ytjffncbjcidbmaadoor", sum := "af3fa20cfac33aa538490cb052422b25db6ca2592a2065b7de5d074aec9b29b0", checked := Tryd.checked }
namespace Rows
def none {H : Type} : Left H := { results := [], args := [] }

/- WHAT THE LISTED PACKAGE-LEVEL VARIABLES READ AS WHEN THE CALL BEGINS. Each datum BY PROGRAM (the guide's laid-datum.mjs) off the statement by which the dump's own 'gosem.cut.vars' lays the variable. In a bare row this is a premise. The card (YtjffncbjcidbmaaDoorCards.lean) ties it to the program's text. -/
def laid_math_bits_deBruijn32tab {H : Type} : DataW H := .agg [.lit (.int .u8 0), .lit (.int .u8 1), .lit (.int .u8 28), .lit (.int .u8 2), .lit (.int .u8 29), .lit (.int .u8 14), .lit (.int .u8 24), .lit (.int .u8 3), .lit (.int .u8 30), .lit (.int .u8 22), .lit (.int .u8 20), .lit (.int .u8 15), .lit (.int .u8 25), .lit (.int .u8 17), .lit (.int .u8 4), .lit (.int .u8 8), .lit (.int .u8 31), .lit (.int .u8 27), .lit (.int .u8 13), .lit (.int .u8 23), .lit (.int .u8 21), .lit (.int .u8 19), .lit (.int .u8 16), .lit (.int .u8 7), .lit (.int .u8 26), .lit (.int .u8 12), .lit (.int .u8 18), .lit (.int .u8 6), .lit (.int .u8 11), .lit (.int .u8 5), .lit (.int .u8 10), .lit (.int .u8 9)]

/-- 'laws.FnProductZeros32': WHATEVER THE INPUT: true; the input reads as it did. -/
def fnProductZeros32Spec : ChangeSpec := { name := "fnProductZeros32", fn := fun _ => fun
  | [d1, d2] => { results := [.lit (.bool true)], args := [d1, d2] }
  | _ => none }
def fnProductZeros32Row : OpenClaim := { program := "ytjffncbjcidbmaadoor", sum := "af3fa20cfac33aa538490cb052422b25db6ca2592a2065b7de5d074aec9b29b0", func := "loop.example/lib-carryroads/laws.FnProductZeros32", spec := "fnProductZeros32", named := ["math/bits.deBruijn32tab"], apart := false, laid := [("math/bits.deBruijn32tab", laid_math_bits_deBruijn32tab)] }
def FnProductZeros32Said : Prop := fnProductZeros32Row.holds Tryd.pinned (OpenSpec.ofChange fnProductZeros32Spec)

/-- ITS FALSE NEIGHBOUR: 'it returns false'. Refute it at one input. -/
def fnProductZeros32Wrong : ChangeSpec := { name := "fnProductZeros32", fn := fun _ => fun
  | [d1, d2] => { results := [.lit (.bool false)], args := [d1, d2] }
  | _ => none }
def FnProductZeros32WrongFalsely : Prop := fnProductZeros32Row.holds Tryd.pinned (OpenSpec.ofChange fnProductZeros32Wrong)

/-- 'laws.FnSumZeros32': WHATEVER THE INPUT: true; the input reads as it did. -/
def fnSumZeros32Spec : ChangeSpec := { name := "fnSumZeros32", fn := fun _ => fun
  | [d1, d2] => { results := [.lit (.bool true)], args := [d1, d2] }
  | _ => none }
def fnSumZeros32Row : OpenClaim := { program := "ytjffncbjcidbmaadoor", sum := "af3fa20cfac33aa538490cb052422b25db6ca2592a2065b7de5d074aec9b29b0", func := "loop.example/lib-carryroads/laws.FnSumZeros32", spec := "fnSumZeros32", named := ["math/bits.deBruijn32tab"], apart := false, laid := [("math/bits.deBruijn32tab", laid_math_bits_deBruijn32tab)] }
def FnSumZeros32Said : Prop := fnSumZeros32Row.holds Tryd.pinned (OpenSpec.ofChange fnSumZeros32Spec)

/-- ITS FALSE NEIGHBOUR: 'it returns false'. Refute it at one input. -/
def fnSumZeros32Wrong : ChangeSpec := { name := "fnSumZeros32", fn := fun _ => fun
  | [d1, d2] => { results := [.lit (.bool false)], args := [d1, d2] }
  | _ => none }
def FnSumZeros32WrongFalsely : Prop := fnSumZeros32Row.holds Tryd.pinned (OpenSpec.ofChange fnSumZeros32Wrong)

/-- 'laws.FnNextSame32': WHATEVER THE INPUT: true; the input reads as it did. -/
def fnNextSame32Spec : ChangeSpec := { name := "fnNextSame32", fn := fun _ => fun
  | [d1, d2] => { results := [.lit (.bool true)], args := [d1, d2] }
  | _ => none }
def fnNextSame32Row : OpenClaim := { program := "ytjffncbjcidbmaadoor", sum := "af3fa20cfac33aa538490cb052422b25db6ca2592a2065b7de5d074aec9b29b0", func := "loop.example/lib-carryroads/laws.FnNextSame32", spec := "fnNextSame32", named := ["math/bits.deBruijn32tab"], apart := false, laid := [("math/bits.deBruijn32tab", laid_math_bits_deBruijn32tab)] }
def FnNextSame32Said : Prop := fnNextSame32Row.holds Tryd.pinned (OpenSpec.ofChange fnNextSame32Spec)

/-- ITS FALSE NEIGHBOUR: 'it returns false'. Refute it at one input. -/
def fnNextSame32Wrong : ChangeSpec := { name := "fnNextSame32", fn := fun _ => fun
  | [d1, d2] => { results := [.lit (.bool false)], args := [d1, d2] }
  | _ => none }
def FnNextSame32WrongFalsely : Prop := fnNextSame32Row.holds Tryd.pinned (OpenSpec.ofChange fnNextSame32Wrong)

/- THE SECOND FORM. 'bulk': how many values and letters a reading holds, each counted each time it is reached (what is shared counts as often as it is met; a slice's spare places count too). A statement '..UptoSaid' is the law's where the arguments, and the package variables that the reading takes, are together of bulk at most 1048576: NARROWER than '..Said'. Prove '..Said' where nothing that the law and all that it calls make is longer than what came in: it says more and counts as full. Else prove '..UptoSaid'. A law counts once. -/
mutual
def uptoBulk {H : Type} : DataW H → Nat
  | .lit (.string bytes) => bytes.length + 1
  | .lit _ => 1
  | .nil => 1
  | .ptr d => uptoBulk d + 1
  | .slice elems spare => uptoBulkAll elems + uptoBulkAll spare + 1
  | .agg parts => uptoBulkAll parts + 1
  | .iface _ d => uptoBulk d + 1
  | .map entries => uptoBulkEntries entries + 1
  | .held _ => 1
def uptoBulkAll {H : Type} : List (DataW H) → Nat
  | [] => 0
  | d :: r => uptoBulk d + uptoBulkAll r
def uptoBulkEntries {H : Type} : List (Lit × DataW H) → Nat
  | [] => 0
  | x :: r => uptoBulkEntry x + uptoBulkEntries r
def uptoBulkEntry {H : Type} : Lit × DataW H → Nat
  | (.string bytes, d) => bytes.length + uptoBulk d + 1
  | (_, d) => uptoBulk d + 1
 end
def uptoSmall : (H : Type) → List (DataW H) → Bool := fun _ ds => decide (uptoBulkAll ds ≤ 1048576)
def OpenSpec.upto (s : _root_.Go.ChangeSpec) : _root_.Go.OpenSpec := { _root_.Go.OpenSpec.ofChange s with cond := some uptoSmall }

/-- 'laws.FnProductZeros32', WHERE WHAT IT READS IS OF BULK AT MOST 1048576: true; the input reads as it did. -/
def fnProductZeros32UptoRow : OpenClaim := { program := "ytjffncbjcidbmaadoor", sum := "af3fa20cfac33aa538490cb052422b25db6ca2592a2065b7de5d074aec9b29b0", func := "loop.example/lib-carryroads/laws.FnProductZeros32", spec := "fnProductZeros32", named := ["math/bits.deBruijn32tab"], apart := false, laid := [("math/bits.deBruijn32tab", laid_math_bits_deBruijn32tab)], narrowed := true }
def FnProductZeros32UptoSaid : Prop := fnProductZeros32UptoRow.holds Tryd.pinned (OpenSpec.upto fnProductZeros32Spec)

/-- 'laws.FnSumZeros32', WHERE WHAT IT READS IS OF BULK AT MOST 1048576: true; the input reads as it did. -/
def fnSumZeros32UptoRow : OpenClaim := { program := "ytjffncbjcidbmaadoor", sum := "af3fa20cfac33aa538490cb052422b25db6ca2592a2065b7de5d074aec9b29b0", func := "loop.example/lib-carryroads/laws.FnSumZeros32", spec := "fnSumZeros32", named := ["math/bits.deBruijn32tab"], apart := false, laid := [("math/bits.deBruijn32tab", laid_math_bits_deBruijn32tab)], narrowed := true }
def FnSumZeros32UptoSaid : Prop := fnSumZeros32UptoRow.holds Tryd.pinned (OpenSpec.upto fnSumZeros32Spec)

/-- 'laws.FnNextSame32', WHERE WHAT IT READS IS OF BULK AT MOST 1048576: true; the input reads as it did. -/
def fnNextSame32UptoRow : OpenClaim := { program := "ytjffncbjcidbmaadoor", sum := "af3fa20cfac33aa538490cb052422b25db6ca2592a2065b7de5d074aec9b29b0", func := "loop.example/lib-carryroads/laws.FnNextSame32", spec := "fnNextSame32", named := ["math/bits.deBruijn32tab"], apart := false, laid := [("math/bits.deBruijn32tab", laid_math_bits_deBruijn32tab)], narrowed := true }
def FnNextSame32UptoSaid : Prop := fnNextSame32UptoRow.holds Tryd.pinned (OpenSpec.upto fnNextSame32Spec)

end Rows
end Go.Proofs.YtjffncbjcidbmaaDoor
