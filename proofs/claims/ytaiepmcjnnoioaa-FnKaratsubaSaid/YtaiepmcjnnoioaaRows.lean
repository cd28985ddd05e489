/-
  No cell of these rows narrows 'for every input' (looked for: loops, veiled, ifaces, maps, wideKeys, modest, calm, conditions, laid).
  DERIVED. THE GIVEN ROWS OF THIS SEAT. 9 by the template 'for every input the law returns true; each argument reads behind the call as it read before'; 0 by the template 'total and deterministic' (their statements: YtaiepmcjnnoioaaTotals.lean).
  GIVEN WITH THE SEED: the statements are not yours to turn. If you find one false, say at which input.
  Laid BY PROGRAM, IN A SANDBOX (cutbox-rows.mjs): the forced cells as the released guide's own fill.sh prints them over the translation 2e9d6e30c37a9d6f… (all of the seat's roots in one cut). By AI agents, Wed Nov 11 2026. No macro, syntax, notation, axiom, sorry.
-/
import Derived.Test.YtaiepmcjnnoioaaChecked
import GoSem.Claim
import GoSem.ClaimJoined
import GoSem.ClaimMapViews
import Derived.JoinedTies
import Derived.KernelRfl
namespace Go.Proofs.Ytaiepmcjnnoioaa
/- THE CELL 'sum', in the pinned program and in every row, IS THE sha256 OF THE DUMP (.gsa) THAT YtaiepmcjnnoioaaProg.lean LOADS. Nothing in Lean hashes anything: it is a label: what it is worth is what the hold of that sum in a sandbox is worth. -/
noncomputable def Try.pinned : Pinned := { name := "ytaiepmcjnnoioaa", sum := "2e9d6e30c37a9d6fc43b2620f14ed57378291d85834a1e962cf14be85cc44aec", checked := Try.checked }
namespace Rows
def none {H : Type} : Left H := { results := [], args := [] }

/-- 'laws.FnExactSubWords': WHATEVER THE INPUT: true; the input reads as it did. -/
def fnExactSubWordsSpec : ChangeSpec := { name := "fnExactSubWords", fn := fun _ => fun
  | [d1, d2, d3] => { results := [.lit (.bool true)], args := [d1, d2, d3] }
  | _ => none }
def fnExactSubWordsRow : OpenClaim := { program := "ytaiepmcjnnoioaa", sum := "2e9d6e30c37a9d6fc43b2620f14ed57378291d85834a1e962cf14be85cc44aec", func := "loop.example/lib-carryroads/laws.FnExactSubWords", spec := "fnExactSubWords", inPlace := ["math/bits.Sub64"], apart := false }
def FnExactSubWordsSaid : Prop := fnExactSubWordsRow.holds Try.pinned (OpenSpec.ofChange fnExactSubWordsSpec)

/-- ITS FALSE NEIGHBOUR: 'it returns false'. Refute it at one input. -/
def fnExactSubWordsWrong : ChangeSpec := { name := "fnExactSubWords", fn := fun _ => fun
  | [d1, d2, d3] => { results := [.lit (.bool false)], args := [d1, d2, d3] }
  | _ => none }
def FnExactSubWordsWrongFalsely : Prop := fnExactSubWordsRow.holds Try.pinned (OpenSpec.ofChange fnExactSubWordsWrong)

/-- 'laws.FnWordsLess': WHATEVER THE INPUT: true; the input reads as it did. -/
def fnWordsLessSpec : ChangeSpec := { name := "fnWordsLess", fn := fun _ => fun
  | [d1, d2] => { results := [.lit (.bool true)], args := [d1, d2] }
  | _ => none }
def fnWordsLessRow : OpenClaim := { program := "ytaiepmcjnnoioaa", sum := "2e9d6e30c37a9d6fc43b2620f14ed57378291d85834a1e962cf14be85cc44aec", func := "loop.example/lib-carryroads/laws.FnWordsLess", spec := "fnWordsLess", inPlace := ["math/bits.Sub64"], apart := false }
def FnWordsLessSaid : Prop := fnWordsLessRow.holds Try.pinned (OpenSpec.ofChange fnWordsLessSpec)

/-- ITS FALSE NEIGHBOUR: 'it returns false'. Refute it at one input. -/
def fnWordsLessWrong : ChangeSpec := { name := "fnWordsLess", fn := fun _ => fun
  | [d1, d2] => { results := [.lit (.bool false)], args := [d1, d2] }
  | _ => none }
def FnWordsLessWrongFalsely : Prop := fnWordsLessRow.holds Try.pinned (OpenSpec.ofChange fnWordsLessWrong)

/-- 'laws.FnExactAddWords': WHATEVER THE INPUT: true; the input reads as it did. -/
def fnExactAddWordsSpec : ChangeSpec := { name := "fnExactAddWords", fn := fun _ => fun
  | [d1, d2, d3] => { results := [.lit (.bool true)], args := [d1, d2, d3] }
  | _ => none }
def fnExactAddWordsRow : OpenClaim := { program := "ytaiepmcjnnoioaa", sum := "2e9d6e30c37a9d6fc43b2620f14ed57378291d85834a1e962cf14be85cc44aec", func := "loop.example/lib-carryroads/laws.FnExactAddWords", spec := "fnExactAddWords", inPlace := ["math/bits.Add64"], apart := false }
def FnExactAddWordsSaid : Prop := fnExactAddWordsRow.holds Try.pinned (OpenSpec.ofChange fnExactAddWordsSpec)

/-- ITS FALSE NEIGHBOUR: 'it returns false'. Refute it at one input. -/
def fnExactAddWordsWrong : ChangeSpec := { name := "fnExactAddWords", fn := fun _ => fun
  | [d1, d2, d3] => { results := [.lit (.bool false)], args := [d1, d2, d3] }
  | _ => none }
def FnExactAddWordsWrongFalsely : Prop := fnExactAddWordsRow.holds Try.pinned (OpenSpec.ofChange fnExactAddWordsWrong)

/-- 'laws.FnExactMulWords': WHATEVER THE INPUT: true; the input reads as it did. -/
def fnExactMulWordsSpec : ChangeSpec := { name := "fnExactMulWords", fn := fun _ => fun
  | [d1, d2] => { results := [.lit (.bool true)], args := [d1, d2] }
  | _ => none }
def fnExactMulWordsRow : OpenClaim := { program := "ytaiepmcjnnoioaa", sum := "2e9d6e30c37a9d6fc43b2620f14ed57378291d85834a1e962cf14be85cc44aec", func := "loop.example/lib-carryroads/laws.FnExactMulWords", spec := "fnExactMulWords", apart := false }
def FnExactMulWordsSaid : Prop := fnExactMulWordsRow.holds Try.pinned (OpenSpec.ofChange fnExactMulWordsSpec)

/-- ITS FALSE NEIGHBOUR: 'it returns false'. Refute it at one input. -/
def fnExactMulWordsWrong : ChangeSpec := { name := "fnExactMulWords", fn := fun _ => fun
  | [d1, d2] => { results := [.lit (.bool false)], args := [d1, d2] }
  | _ => none }
def FnExactMulWordsWrongFalsely : Prop := fnExactMulWordsRow.holds Try.pinned (OpenSpec.ofChange fnExactMulWordsWrong)

/-- 'laws.FnWordsShift': WHATEVER THE INPUT: true; the input reads as it did. -/
def fnWordsShiftSpec : ChangeSpec := { name := "fnWordsShift", fn := fun _ => fun
  | [d1, d2] => { results := [.lit (.bool true)], args := [d1, d2] }
  | _ => none }
def fnWordsShiftRow : OpenClaim := { program := "ytaiepmcjnnoioaa", sum := "2e9d6e30c37a9d6fc43b2620f14ed57378291d85834a1e962cf14be85cc44aec", func := "loop.example/lib-carryroads/laws.FnWordsShift", spec := "fnWordsShift", apart := false }
def FnWordsShiftSaid : Prop := fnWordsShiftRow.holds Try.pinned (OpenSpec.ofChange fnWordsShiftSpec)

/-- ITS FALSE NEIGHBOUR: 'it returns false'. Refute it at one input. -/
def fnWordsShiftWrong : ChangeSpec := { name := "fnWordsShift", fn := fun _ => fun
  | [d1, d2] => { results := [.lit (.bool false)], args := [d1, d2] }
  | _ => none }
def FnWordsShiftWrongFalsely : Prop := fnWordsShiftRow.holds Try.pinned (OpenSpec.ofChange fnWordsShiftWrong)

/-- 'laws.FnNegativeWords': WHATEVER THE INPUT: true; the input reads as it did. -/
def fnNegativeWordsSpec : ChangeSpec := { name := "fnNegativeWords", fn := fun _ => fun
  | [d] => { results := [.lit (.bool true)], args := [d] }
  | _ => none }
def fnNegativeWordsRow : OpenClaim := { program := "ytaiepmcjnnoioaa", sum := "2e9d6e30c37a9d6fc43b2620f14ed57378291d85834a1e962cf14be85cc44aec", func := "loop.example/lib-carryroads/laws.FnNegativeWords", spec := "fnNegativeWords", inPlace := ["math/bits.Sub64", "math/bits.Add64"], apart := false }
def FnNegativeWordsSaid : Prop := fnNegativeWordsRow.holds Try.pinned (OpenSpec.ofChange fnNegativeWordsSpec)

/-- ITS FALSE NEIGHBOUR: 'it returns false'. Refute it at one input. -/
def fnNegativeWordsWrong : ChangeSpec := { name := "fnNegativeWords", fn := fun _ => fun
  | [d] => { results := [.lit (.bool false)], args := [d] }
  | _ => none }
def FnNegativeWordsWrongFalsely : Prop := fnNegativeWordsRow.holds Try.pinned (OpenSpec.ofChange fnNegativeWordsWrong)

/-- 'laws.FnWordsCarries': WHATEVER THE INPUT: true; the input reads as it did. -/
def fnWordsCarriesSpec : ChangeSpec := { name := "fnWordsCarries", fn := fun _ => fun
  | [d1, d2, d3] => { results := [.lit (.bool true)], args := [d1, d2, d3] }
  | _ => none }
def fnWordsCarriesRow : OpenClaim := { program := "ytaiepmcjnnoioaa", sum := "2e9d6e30c37a9d6fc43b2620f14ed57378291d85834a1e962cf14be85cc44aec", func := "loop.example/lib-carryroads/laws.FnWordsCarries", spec := "fnWordsCarries", inPlace := ["math/bits.Add64"], apart := false }
def FnWordsCarriesSaid : Prop := fnWordsCarriesRow.holds Try.pinned (OpenSpec.ofChange fnWordsCarriesSpec)

/-- ITS FALSE NEIGHBOUR: 'it returns false'. Refute it at one input. -/
def fnWordsCarriesWrong : ChangeSpec := { name := "fnWordsCarries", fn := fun _ => fun
  | [d1, d2, d3] => { results := [.lit (.bool false)], args := [d1, d2, d3] }
  | _ => none }
def FnWordsCarriesWrongFalsely : Prop := fnWordsCarriesRow.holds Try.pinned (OpenSpec.ofChange fnWordsCarriesWrong)

/-- 'laws.FnAllOnesWords': WHATEVER THE INPUT: true; the input reads as it did. -/
def fnAllOnesWordsSpec : ChangeSpec := { name := "fnAllOnesWords", fn := fun _ => fun
  | [d] => { results := [.lit (.bool true)], args := [d] }
  | _ => none }
def fnAllOnesWordsRow : OpenClaim := { program := "ytaiepmcjnnoioaa", sum := "2e9d6e30c37a9d6fc43b2620f14ed57378291d85834a1e962cf14be85cc44aec", func := "loop.example/lib-carryroads/laws.FnAllOnesWords", spec := "fnAllOnesWords", inPlace := ["math/bits.Add64", "math/bits.Sub64"], apart := false }
def FnAllOnesWordsSaid : Prop := fnAllOnesWordsRow.holds Try.pinned (OpenSpec.ofChange fnAllOnesWordsSpec)

/-- ITS FALSE NEIGHBOUR: 'it returns false'. Refute it at one input. -/
def fnAllOnesWordsWrong : ChangeSpec := { name := "fnAllOnesWords", fn := fun _ => fun
  | [d] => { results := [.lit (.bool false)], args := [d] }
  | _ => none }
def FnAllOnesWordsWrongFalsely : Prop := fnAllOnesWordsRow.holds Try.pinned (OpenSpec.ofChange fnAllOnesWordsWrong)

/-- 'laws.FnKaratsuba': WHATEVER THE INPUT: true; the input reads as it did. -/
def fnKaratsubaSpec : ChangeSpec := { name := "fnKaratsuba", fn := fun _ => fun
  | [d1, d2, d3, d4] => { results := [.lit (.bool true)], args := [d1, d2, d3, d4] }
  | _ => none }
def fnKaratsubaRow : OpenClaim := { program := "ytaiepmcjnnoioaa", sum := "2e9d6e30c37a9d6fc43b2620f14ed57378291d85834a1e962cf14be85cc44aec", func := "loop.example/lib-carryroads/laws.FnKaratsuba", spec := "fnKaratsuba", inPlace := ["math/bits.Add64", "math/bits.Sub64"], apart := false }
def FnKaratsubaSaid : Prop := fnKaratsubaRow.holds Try.pinned (OpenSpec.ofChange fnKaratsubaSpec)

/-- ITS FALSE NEIGHBOUR: 'it returns false'. Refute it at one input. -/
def fnKaratsubaWrong : ChangeSpec := { name := "fnKaratsuba", fn := fun _ => fun
  | [d1, d2, d3, d4] => { results := [.lit (.bool false)], args := [d1, d2, d3, d4] }
  | _ => none }
def FnKaratsubaWrongFalsely : Prop := fnKaratsubaRow.holds Try.pinned (OpenSpec.ofChange fnKaratsubaWrong)

/- THE SECOND FORM. 'bulk': how many values and letters a reading holds, each counted each time it is reached (what is shared counts as often as it is met; a slice's spare places count too). A statement '..UptoSaid' is the law's where the arguments, and the package variables that the reading takes, are together of bulk at most 1048576: NARROWER than '..Said'. Prove '..Said' where nothing that the law and all that it calls make is longer than what came in: it says more and counts as full. Else prove '..UptoSaid'. A law counts once. -/
mutual
def uptoBulk {H : Type} : DataW H → Nat
  | .lit (.string bytes) => bytes.length + 1
  | .lit _ => 1
  | .nil => 1
  | .ptr d => uptoBulk d + 1
  | .slice elems spare => uptoBulkAll elems + uptoBulkAll spare + 1
  | .agg parts => uptoBulkAll parts + 1
  | .iface _ d => uptoBulk d + 1
  | .map entries => uptoBulkEntries entries + 1
  | .held _ => 1
def uptoBulkAll {H : Type} : List (DataW H) → Nat
  | [] => 0
  | d :: r => uptoBulk d + uptoBulkAll r
def uptoBulkEntries {H : Type} : List (Lit × DataW H) → Nat
  | [] => 0
  | x :: r => uptoBulkEntry x + uptoBulkEntries r
def uptoBulkEntry {H : Type} : Lit × DataW H → Nat
  | (.string bytes, d) => bytes.length + uptoBulk d + 1
  | (_, d) => uptoBulk d + 1
 end
def uptoSmall : (H : Type) → List (DataW H) → Bool := fun _ ds => decide (uptoBulkAll ds ≤ 1048576)
def OpenSpec.upto (s : _root_.Go.ChangeSpec) : _root_.Go.OpenSpec := { _root_.Go.OpenSpec.ofChange s with cond := some uptoSmall }

/-- 'laws.FnExactSubWords', WHERE WHAT IT READS IS OF BULK AT MOST 1048576: true; the input reads as it did. -/
def fnExactSubWordsUptoRow : OpenClaim := { program := "ytaiepmcjnnoioaa", sum := "2e9d6e30c37a9d6fc43b2620f14ed57378291d85834a1e962cf14be85cc44aec", func := "loop.example/lib-carryroads/laws.FnExactSubWords", spec := "fnExactSubWords", inPlace := ["math/bits.Sub64"], apart := false, narrowed := true }
def FnExactSubWordsUptoSaid : Prop := fnExactSubWordsUptoRow.holds Try.pinned (OpenSpec.upto fnExactSubWordsSpec)

/-- 'laws.FnWordsLess', WHERE WHAT IT READS IS OF BULK AT MOST 1048576: true; the input reads as it did. -/
def fnWordsLessUptoRow : OpenClaim := { program := "ytaiepmcjnnoioaa", sum := "2e9d6e30c37a9d6fc43b2620f14ed57378291d85834a1e962cf14be85cc44aec", func := "loop.example/lib-carryroads/laws.FnWordsLess", spec := "fnWordsLess", inPlace := ["math/bits.Sub64"], apart := false, narrowed := true }
def FnWordsLessUptoSaid : Prop := fnWordsLessUptoRow.holds Try.pinned (OpenSpec.upto fnWordsLessSpec)

/-- 'laws.FnExactAddWords', WHERE WHAT IT READS IS OF BULK AT MOST 1048576: true; the input reads as it did. -/
def fnExactAddWordsUptoRow : OpenClaim := { program := "ytaiepmcjnnoioaa", sum := "2e9d6e30c37a9d6fc43b2620f14ed57378291d85834a1e962cf14be85cc44aec", func := "loop.example/lib-carryroads/laws.FnExactAddWords", spec := "fnExactAddWords", inPlace := ["math/bits.Add64"], apart := false, narrowed := true }
def FnExactAddWordsUptoSaid : Prop := fnExactAddWordsUptoRow.holds Try.pinned (OpenSpec.upto fnExactAddWordsSpec)

/-- 'laws.FnExactMulWords', WHERE WHAT IT READS IS OF BULK AT MOST 1048576: true; the input reads as it did. -/
def fnExactMulWordsUptoRow : OpenClaim := { program := "ytaiepmcjnnoioaa", sum := "2e9d6e30c37a9d6fc43b2620f14ed57378291d85834a1e962cf14be85cc44aec", func := "loop.example/lib-carryroads/laws.FnExactMulWords", spec := "fnExactMulWords", apart := false, narrowed := true }
def FnExactMulWordsUptoSaid : Prop := fnExactMulWordsUptoRow.holds Try.pinned (OpenSpec.upto fnExactMulWordsSpec)

/-- 'laws.FnWordsShift', WHERE WHAT IT READS IS OF BULK AT MOST 1048576: true; the input reads as it did. -/
def fnWordsShiftUptoRow : OpenClaim := { program := "ytaiepmcjnnoioaa", sum := "2e9d6e30c37a9d6fc43b2620f14ed57378291d85834a1e962cf14be85cc44aec", func := "loop.example/lib-carryroads/laws.FnWordsShift", spec := "fnWordsShift", apart := false, narrowed := true }
def FnWordsShiftUptoSaid : Prop := fnWordsShiftUptoRow.holds Try.pinned (OpenSpec.upto fnWordsShiftSpec)

/-- 'laws.FnNegativeWords', WHERE WHAT IT READS IS OF BULK AT MOST 1048576: true; the input reads as it did. -/
def fnNegativeWordsUptoRow : OpenClaim := { program := "ytaiepmcjnnoioaa", sum := "2e9d6e30c37a9d6fc43b2620f14ed57378291d85834a1e962cf14be85cc44aec", func := "loop.example/lib-carryroads/laws.FnNegativeWords", spec := "fnNegativeWords", inPlace := ["math/bits.Sub64", "math/bits.Add64"], apart := false, narrowed := true }
def FnNegativeWordsUptoSaid : Prop := fnNegativeWordsUptoRow.holds Try.pinned (OpenSpec.upto fnNegativeWordsSpec)

/-- 'laws.FnWordsCarries', WHERE WHAT IT READS IS OF BULK AT MOST 1048576: true; the input reads as it did. -/
def fnWordsCarriesUptoRow : OpenClaim := { program := "ytaiepmcjnnoioaa", sum := "2e9d6e30c37a9d6fc43b2620f14ed57378291d85834a1e962cf14be85cc44aec", func := "loop.example/lib-carryroads/laws.FnWordsCarries", spec := "fnWordsCarries", inPlace := ["math/bits.Add64"], apart := false, narrowed := true }
def FnWordsCarriesUptoSaid : Prop := fnWordsCarriesUptoRow.holds Try.pinned (OpenSpec.upto fnWordsCarriesSpec)

/-- 'laws.FnAllOnesWords', WHERE WHAT IT READS IS OF BULK AT MOST 1048576: true; the input reads as it did. -/
def fnAllOnesWordsUptoRow : OpenClaim := { program := "ytaiepmcjnnoioaa", sum := "2e9d6e30c37a9d6fc43b2620f14ed57378291d85834a1e962cf14be85cc44aec", func := "loop.example/lib-carryroads/laws.FnAllOnesWords", spec := "fnAllOnesWords", inPlace := ["math/bits.Add64", "math/bits.Sub64"], apart := false, narrowed := true }
def FnAllOnesWordsUptoSaid : Prop := fnAllOnesWordsUptoRow.holds Try.pinned (OpenSpec.upto fnAllOnesWordsSpec)

/-- 'laws.FnKaratsuba', WHERE WHAT IT READS IS OF BULK AT MOST 1048576: true; the input reads as it did. -/
def fnKaratsubaUptoRow : OpenClaim := { program := "ytaiepmcjnnoioaa", sum := "2e9d6e30c37a9d6fc43b2620f14ed57378291d85834a1e962cf14be85cc44aec", func := "loop.example/lib-carryroads/laws.FnKaratsuba", spec := "fnKaratsuba", inPlace := ["math/bits.Add64", "math/bits.Sub64"], apart := false, narrowed := true }
def FnKaratsubaUptoSaid : Prop := fnKaratsubaUptoRow.holds Try.pinned (OpenSpec.upto fnKaratsubaSpec)

end Rows
end Go.Proofs.Ytaiepmcjnnoioaa
