/-
  No cell of these rows narrows 'for every input' (looked for: loops, veiled, ifaces, maps, wideKeys, modest, calm, conditions, laid).
  DERIVED. THE GIVEN ROWS OF THIS SEAT. 9 by the template 'for every input the law returns true; each argument reads behind the call as it read before'; 0 by the template 'total and deterministic' (their statements: YtilmkepiokklgaaTotals.lean).
  GIVEN WITH THE SEED: the statements are not yours to turn. If you find one false, say at which input.
  Laid BY PROGRAM, IN A SANDBOX (cutbox-rows.mjs): the forced cells as the released guide's own fill.sh prints them over the translation 52e18ad7d745f979… (all of the seat's roots in one cut). By AI agents, Wed Nov 11 2026. No macro, syntax, notation, axiom, sorry.
-/
import Derived.Test.YtilmkepiokklgaaChecked
import GoSem.Claim
import GoSem.ClaimJoined
import GoSem.ClaimMapViews
import Derived.JoinedTies
import Derived.KernelRfl
namespace Go.Proofs.Ytilmkepiokklgaa
/- THE CELL 'sum', in the pinned program and in every row, IS THE sha256 OF THE DUMP (.gsa) THAT YtilmkepiokklgaaProg.lean LOADS. Nothing in Lean hashes anything: it is a label: what it is worth is what the hold of that sum in a sandbox is worth. -/
noncomputable def Try.pinned : Pinned := { name := "ytilmkepiokklgaa", sum := "52e18ad7d745f979570de2005b62165776018f729de8c2a43c7eb6eba25ea5c7", checked := Try.checked }
namespace Rows
def none {H : Type} : Left H := { results := [], args := [] }

/-- 'laws.FnEndAround': WHATEVER THE INPUT: true; the input reads as it did. -/
def fnEndAroundSpec : ChangeSpec := { name := "fnEndAround", fn := fun _ => fun
  | [d1, d2, d3] => { results := [.lit (.bool true)], args := [d1, d2, d3] }
  | _ => none }
def fnEndAroundRow : OpenClaim := { program := "ytilmkepiokklgaa", sum := "52e18ad7d745f979570de2005b62165776018f729de8c2a43c7eb6eba25ea5c7", func := "loop.example/lib-carryroads/laws.FnEndAround", spec := "fnEndAround", inPlace := ["math/bits.Add64"], apart := false }
def FnEndAroundSaid : Prop := fnEndAroundRow.holds Try.pinned (OpenSpec.ofChange fnEndAroundSpec)

/-- ITS FALSE NEIGHBOUR: 'it returns false'. Refute it at one input. -/
def fnEndAroundWrong : ChangeSpec := { name := "fnEndAround", fn := fun _ => fun
  | [d1, d2, d3] => { results := [.lit (.bool false)], args := [d1, d2, d3] }
  | _ => none }
def FnEndAroundWrongFalsely : Prop := fnEndAroundRow.holds Try.pinned (OpenSpec.ofChange fnEndAroundWrong)

/-- 'laws.FnRotateProduct64': WHATEVER THE INPUT: true; the input reads as it did. -/
def fnRotateProduct64Spec : ChangeSpec := { name := "fnRotateProduct64", fn := fun _ => fun
  | [d1, d2] => { results := [.lit (.bool true)], args := [d1, d2] }
  | _ => none }
def fnRotateProduct64Row : OpenClaim := { program := "ytilmkepiokklgaa", sum := "52e18ad7d745f979570de2005b62165776018f729de8c2a43c7eb6eba25ea5c7", func := "loop.example/lib-carryroads/laws.FnRotateProduct64", spec := "fnRotateProduct64", apart := false }
def FnRotateProduct64Said : Prop := fnRotateProduct64Row.holds Try.pinned (OpenSpec.ofChange fnRotateProduct64Spec)

/-- ITS FALSE NEIGHBOUR: 'it returns false'. Refute it at one input. -/
def fnRotateProduct64Wrong : ChangeSpec := { name := "fnRotateProduct64", fn := fun _ => fun
  | [d1, d2] => { results := [.lit (.bool false)], args := [d1, d2] }
  | _ => none }
def FnRotateProduct64WrongFalsely : Prop := fnRotateProduct64Row.holds Try.pinned (OpenSpec.ofChange fnRotateProduct64Wrong)

/-- 'laws.FnSipRound': WHATEVER THE INPUT: true; the input reads as it did. -/
def fnSipRoundSpec : ChangeSpec := { name := "fnSipRound", fn := fun _ => fun
  | [d1, d2, d3, d4] => { results := [.lit (.bool true)], args := [d1, d2, d3, d4] }
  | _ => none }
def fnSipRoundRow : OpenClaim := { program := "ytilmkepiokklgaa", sum := "52e18ad7d745f979570de2005b62165776018f729de8c2a43c7eb6eba25ea5c7", func := "loop.example/lib-carryroads/laws.FnSipRound", spec := "fnSipRound", inPlace := ["math/bits.Add64", "math/bits.Sub64"], apart := false }
def FnSipRoundSaid : Prop := fnSipRoundRow.holds Try.pinned (OpenSpec.ofChange fnSipRoundSpec)

/-- ITS FALSE NEIGHBOUR: 'it returns false'. Refute it at one input. -/
def fnSipRoundWrong : ChangeSpec := { name := "fnSipRound", fn := fun _ => fun
  | [d1, d2, d3, d4] => { results := [.lit (.bool false)], args := [d1, d2, d3, d4] }
  | _ => none }
def FnSipRoundWrongFalsely : Prop := fnSipRoundRow.holds Try.pinned (OpenSpec.ofChange fnSipRoundWrong)

/-- 'laws.FnLess64': WHATEVER THE INPUT: true; the input reads as it did. -/
def fnLess64Spec : ChangeSpec := { name := "fnLess64", fn := fun _ => fun
  | [d1, d2] => { results := [.lit (.bool true)], args := [d1, d2] }
  | _ => none }
def fnLess64Row : OpenClaim := { program := "ytilmkepiokklgaa", sum := "52e18ad7d745f979570de2005b62165776018f729de8c2a43c7eb6eba25ea5c7", func := "loop.example/lib-carryroads/laws.FnLess64", spec := "fnLess64", inPlace := ["math/bits.Sub64"], apart := false }
def FnLess64Said : Prop := fnLess64Row.holds Try.pinned (OpenSpec.ofChange fnLess64Spec)

/-- ITS FALSE NEIGHBOUR: 'it returns false'. Refute it at one input. -/
def fnLess64Wrong : ChangeSpec := { name := "fnLess64", fn := fun _ => fun
  | [d1, d2] => { results := [.lit (.bool false)], args := [d1, d2] }
  | _ => none }
def FnLess64WrongFalsely : Prop := fnLess64Row.holds Try.pinned (OpenSpec.ofChange fnLess64Wrong)

/-- 'laws.FnSumLength64': WHATEVER THE INPUT: true; the input reads as it did. -/
def fnSumLength64Spec : ChangeSpec := { name := "fnSumLength64", fn := fun _ => fun
  | [d1, d2] => { results := [.lit (.bool true)], args := [d1, d2] }
  | _ => none }
def fnSumLength64Row : OpenClaim := { program := "ytilmkepiokklgaa", sum := "52e18ad7d745f979570de2005b62165776018f729de8c2a43c7eb6eba25ea5c7", func := "loop.example/lib-carryroads/laws.FnSumLength64", spec := "fnSumLength64", inPlace := ["math/bits.Add64"], apart := false }
def FnSumLength64Said : Prop := fnSumLength64Row.holds Try.pinned (OpenSpec.ofChange fnSumLength64Spec)

/-- ITS FALSE NEIGHBOUR: 'it returns false'. Refute it at one input. -/
def fnSumLength64Wrong : ChangeSpec := { name := "fnSumLength64", fn := fun _ => fun
  | [d1, d2] => { results := [.lit (.bool false)], args := [d1, d2] }
  | _ => none }
def FnSumLength64WrongFalsely : Prop := fnSumLength64Row.holds Try.pinned (OpenSpec.ofChange fnSumLength64Wrong)

/-- 'laws.FnProductLength64': WHATEVER THE INPUT: true; the input reads as it did. -/
def fnProductLength64Spec : ChangeSpec := { name := "fnProductLength64", fn := fun _ => fun
  | [d1, d2] => { results := [.lit (.bool true)], args := [d1, d2] }
  | _ => none }
def fnProductLength64Row : OpenClaim := { program := "ytilmkepiokklgaa", sum := "52e18ad7d745f979570de2005b62165776018f729de8c2a43c7eb6eba25ea5c7", func := "loop.example/lib-carryroads/laws.FnProductLength64", spec := "fnProductLength64", apart := false }
def FnProductLength64Said : Prop := fnProductLength64Row.holds Try.pinned (OpenSpec.ofChange fnProductLength64Spec)

/-- ITS FALSE NEIGHBOUR: 'it returns false'. Refute it at one input. -/
def fnProductLength64Wrong : ChangeSpec := { name := "fnProductLength64", fn := fun _ => fun
  | [d1, d2] => { results := [.lit (.bool false)], args := [d1, d2] }
  | _ => none }
def FnProductLength64WrongFalsely : Prop := fnProductLength64Row.holds Try.pinned (OpenSpec.ofChange fnProductLength64Wrong)

/-- 'laws.FnBorrows64': WHATEVER THE INPUT: true; the input reads as it did. -/
def fnBorrows64Spec : ChangeSpec := { name := "fnBorrows64", fn := fun _ => fun
  | [d1, d2, d3] => { results := [.lit (.bool true)], args := [d1, d2, d3] }
  | _ => none }
def fnBorrows64Row : OpenClaim := { program := "ytilmkepiokklgaa", sum := "52e18ad7d745f979570de2005b62165776018f729de8c2a43c7eb6eba25ea5c7", func := "loop.example/lib-carryroads/laws.FnBorrows64", spec := "fnBorrows64", inPlace := ["math/bits.Sub64"], apart := false }
def FnBorrows64Said : Prop := fnBorrows64Row.holds Try.pinned (OpenSpec.ofChange fnBorrows64Spec)

/-- ITS FALSE NEIGHBOUR: 'it returns false'. Refute it at one input. -/
def fnBorrows64Wrong : ChangeSpec := { name := "fnBorrows64", fn := fun _ => fun
  | [d1, d2, d3] => { results := [.lit (.bool false)], args := [d1, d2, d3] }
  | _ => none }
def FnBorrows64WrongFalsely : Prop := fnBorrows64Row.holds Try.pinned (OpenSpec.ofChange fnBorrows64Wrong)

/-- 'laws.FnCarries64': WHATEVER THE INPUT: true; the input reads as it did. -/
def fnCarries64Spec : ChangeSpec := { name := "fnCarries64", fn := fun _ => fun
  | [d1, d2, d3] => { results := [.lit (.bool true)], args := [d1, d2, d3] }
  | _ => none }
def fnCarries64Row : OpenClaim := { program := "ytilmkepiokklgaa", sum := "52e18ad7d745f979570de2005b62165776018f729de8c2a43c7eb6eba25ea5c7", func := "loop.example/lib-carryroads/laws.FnCarries64", spec := "fnCarries64", inPlace := ["math/bits.Add64"], apart := false }
def FnCarries64Said : Prop := fnCarries64Row.holds Try.pinned (OpenSpec.ofChange fnCarries64Spec)

/-- ITS FALSE NEIGHBOUR: 'it returns false'. Refute it at one input. -/
def fnCarries64Wrong : ChangeSpec := { name := "fnCarries64", fn := fun _ => fun
  | [d1, d2, d3] => { results := [.lit (.bool false)], args := [d1, d2, d3] }
  | _ => none }
def FnCarries64WrongFalsely : Prop := fnCarries64Row.holds Try.pinned (OpenSpec.ofChange fnCarries64Wrong)

/-- 'laws.FnOnesByProduct64': WHATEVER THE INPUT: true; the input reads as it did. -/
def fnOnesByProduct64Spec : ChangeSpec := { name := "fnOnesByProduct64", fn := fun _ => fun
  | [d] => { results := [.lit (.bool true)], args := [d] }
  | _ => none }
def fnOnesByProduct64Row : OpenClaim := { program := "ytilmkepiokklgaa", sum := "52e18ad7d745f979570de2005b62165776018f729de8c2a43c7eb6eba25ea5c7", func := "loop.example/lib-carryroads/laws.FnOnesByProduct64", spec := "fnOnesByProduct64", apart := false }
def FnOnesByProduct64Said : Prop := fnOnesByProduct64Row.holds Try.pinned (OpenSpec.ofChange fnOnesByProduct64Spec)

/-- ITS FALSE NEIGHBOUR: 'it returns false'. Refute it at one input. -/
def fnOnesByProduct64Wrong : ChangeSpec := { name := "fnOnesByProduct64", fn := fun _ => fun
  | [d] => { results := [.lit (.bool false)], args := [d] }
  | _ => none }
def FnOnesByProduct64WrongFalsely : Prop := fnOnesByProduct64Row.holds Try.pinned (OpenSpec.ofChange fnOnesByProduct64Wrong)

/- THE SECOND FORM. 'bulk': how many values and letters a reading holds, each counted each time it is reached (what is shared counts as often as it is met; a slice's spare places count too). A statement '..UptoSaid' is the law's where the arguments, and the package variables that the reading takes, are together of bulk at most 1048576: NARROWER than '..Said'. Prove '..Said' where nothing that the law and all that it calls make is longer than what came in: it says more and counts as full. Else prove '..UptoSaid'. A law counts once. -/
mutual
def uptoBulk {H : Type} : DataW H → Nat
  | .lit (.string bytes) => bytes.length + 1
  | .lit _ => 1
  | .nil => 1
  | .ptr d => uptoBulk d + 1
  | .slice elems spare => uptoBulkAll elems + uptoBulkAll spare + 1
  | .agg parts => uptoBulkAll parts + 1
  | .iface _ d => uptoBulk d + 1
  | .map entries => uptoBulkEntries entries + 1
  | .held _ => 1
def uptoBulkAll {H : Type} : List (DataW H) → Nat
  | [] => 0
  | d :: r => uptoBulk d + uptoBulkAll r
def uptoBulkEntries {H : Type} : List (Lit × DataW H) → Nat
  | [] => 0
  | x :: r => uptoBulkEntry x + uptoBulkEntries r
def uptoBulkEntry {H : Type} : Lit × DataW H → Nat
  | (.string bytes, d) => bytes.length + uptoBulk d + 1
  | (_, d) => uptoBulk d + 1
 end
def uptoSmall : (H : Type) → List (DataW H) → Bool := fun _ ds => decide (uptoBulkAll ds ≤ 1048576)
def OpenSpec.upto (s : _root_.Go.ChangeSpec) : _root_.Go.OpenSpec := { _root_.Go.OpenSpec.ofChange s with cond := some uptoSmall }

/-- 'laws.FnEndAround', WHERE WHAT IT READS IS OF BULK AT MOST 1048576: true; the input reads as it did. -/
def fnEndAroundUptoRow : OpenClaim := { program := "ytilmkepiokklgaa", sum := "52e18ad7d745f979570de2005b62165776018f729de8c2a43c7eb6eba25ea5c7", func := "loop.example/lib-carryroads/laws.FnEndAround", spec := "fnEndAround", inPlace := ["math/bits.Add64"], apart := false, narrowed := true }
def FnEndAroundUptoSaid : Prop := fnEndAroundUptoRow.holds Try.pinned (OpenSpec.upto fnEndAroundSpec)

/-- 'laws.FnRotateProduct64', WHERE WHAT IT READS IS OF BULK AT MOST 1048576: true; the input reads as it did. -/
def fnRotateProduct64UptoRow : OpenClaim := { program := "ytilmkepiokklgaa", sum := "52e18ad7d745f979570de2005b62165776018f729de8c2a43c7eb6eba25ea5c7", func := "loop.example/lib-carryroads/laws.FnRotateProduct64", spec := "fnRotateProduct64", apart := false, narrowed := true }
def FnRotateProduct64UptoSaid : Prop := fnRotateProduct64UptoRow.holds Try.pinned (OpenSpec.upto fnRotateProduct64Spec)

/-- 'laws.FnSipRound', WHERE WHAT IT READS IS OF BULK AT MOST 1048576: true; the input reads as it did. -/
def fnSipRoundUptoRow : OpenClaim := { program := "ytilmkepiokklgaa", sum := "52e18ad7d745f979570de2005b62165776018f729de8c2a43c7eb6eba25ea5c7", func := "loop.example/lib-carryroads/laws.FnSipRound", spec := "fnSipRound", inPlace := ["math/bits.Add64", "math/bits.Sub64"], apart := false, narrowed := true }
def FnSipRoundUptoSaid : Prop := fnSipRoundUptoRow.holds Try.pinned (OpenSpec.upto fnSipRoundSpec)

/-- 'laws.FnLess64', WHERE WHAT IT READS IS OF BULK AT MOST 1048576: true; the input reads as it did. -/
def fnLess64UptoRow : OpenClaim := { program := "ytilmkepiokklgaa", sum := "52e18ad7d745f979570de2005b62165776018f729de8c2a43c7eb6eba25ea5c7", func := "loop.example/lib-carryroads/laws.FnLess64", spec := "fnLess64", inPlace := ["math/bits.Sub64"], apart := false, narrowed := true }
def FnLess64UptoSaid : Prop := fnLess64UptoRow.holds Try.pinned (OpenSpec.upto fnLess64Spec)

/-- 'laws.FnSumLength64', WHERE WHAT IT READS IS OF BULK AT MOST 1048576: true; the input reads as it did. -/
def fnSumLength64UptoRow : OpenClaim := { program := "ytilmkepiokklgaa", sum := "52e18ad7d745f979570de2005b62165776018f729de8c2a43c7eb6eba25ea5c7", func := "loop.example/lib-carryroads/laws.FnSumLength64", spec := "fnSumLength64", inPlace := ["math/bits.Add64"], apart := false, narrowed := true }
def FnSumLength64UptoSaid : Prop := fnSumLength64UptoRow.holds Try.pinned (OpenSpec.upto fnSumLength64Spec)

/-- 'laws.FnProductLength64', WHERE WHAT IT READS IS OF BULK AT MOST 1048576: true; the input reads as it did. -/
def fnProductLength64UptoRow : OpenClaim := { program := "ytilmkepiokklgaa", sum := "52e18ad7d745f979570de2005b62165776018f729de8c2a43c7eb6eba25ea5c7", func := "loop.example/lib-carryroads/laws.FnProductLength64", spec := "fnProductLength64", apart := false, narrowed := true }
def FnProductLength64UptoSaid : Prop := fnProductLength64UptoRow.holds Try.pinned (OpenSpec.upto fnProductLength64Spec)

/-- 'laws.FnBorrows64', WHERE WHAT IT READS IS OF BULK AT MOST 1048576: true; the input reads as it did. -/
def fnBorrows64UptoRow : OpenClaim := { program := "ytilmkepiokklgaa", sum := "52e18ad7d745f979570de2005b62165776018f729de8c2a43c7eb6eba25ea5c7", func := "loop.example/lib-carryroads/laws.FnBorrows64", spec := "fnBorrows64", inPlace := ["math/bits.Sub64"], apart := false, narrowed := true }
def FnBorrows64UptoSaid : Prop := fnBorrows64UptoRow.holds Try.pinned (OpenSpec.upto fnBorrows64Spec)

/-- 'laws.FnCarries64', WHERE WHAT IT READS IS OF BULK AT MOST 1048576: true; the input reads as it did. -/
def fnCarries64UptoRow : OpenClaim := { program := "ytilmkepiokklgaa", sum := "52e18ad7d745f979570de2005b62165776018f729de8c2a43c7eb6eba25ea5c7", func := "loop.example/lib-carryroads/laws.FnCarries64", spec := "fnCarries64", inPlace := ["math/bits.Add64"], apart := false, narrowed := true }
def FnCarries64UptoSaid : Prop := fnCarries64UptoRow.holds Try.pinned (OpenSpec.upto fnCarries64Spec)

/-- 'laws.FnOnesByProduct64', WHERE WHAT IT READS IS OF BULK AT MOST 1048576: true; the input reads as it did. -/
def fnOnesByProduct64UptoRow : OpenClaim := { program := "ytilmkepiokklgaa", sum := "52e18ad7d745f979570de2005b62165776018f729de8c2a43c7eb6eba25ea5c7", func := "loop.example/lib-carryroads/laws.FnOnesByProduct64", spec := "fnOnesByProduct64", apart := false, narrowed := true }
def FnOnesByProduct64UptoSaid : Prop := fnOnesByProduct64UptoRow.holds Try.pinned (OpenSpec.upto fnOnesByProduct64Spec)

end Rows
end Go.Proofs.Ytilmkepiokklgaa
