/-
  No cell of these rows narrows 'for every input' (looked for: loops, veiled, ifaces, maps, wideKeys, modest, calm, conditions, laid).
  DERIVED. THE GIVEN ROWS OF THIS SEAT. 5 by the template 'for every input the law returns true; each argument reads behind the call as it read before'; 0 by the template 'total and deterministic' (their statements: YtjffncbjcidbmaaTotals.lean).
  GIVEN WITH THE SEED: the statements are not yours to turn. If you find one false, say at which input.
  Laid BY PROGRAM, IN A SANDBOX (cutbox-rows.mjs): the forced cells as the released guide's own fill.sh prints them over the translation c3bc8a689bd10492… (all of the seat's roots in one cut). By AI agents, Wed Nov 11 2026. No macro, syntax, notation, axiom, sorry.
-/
import Derived.Test.YtjffncbjcidbmaaChecked
import GoSem.Claim
import GoSem.ClaimJoined
import GoSem.ClaimMapViews
import Derived.JoinedTies
import Derived.KernelRfl
namespace Go.Proofs.Ytjffncbjcidbmaa
/- THE CELL 'sum', in the pinned program and in every row, IS THE sha256 OF THE DUMP (.gsa) THAT YtjffncbjcidbmaaProg.lean LOADS. Nothing in Lean hashes anything: it is a label: what it is worth is what the hold of that sum in a sandbox is worth. -/
noncomputable def Try.pinned : Pinned := { name := "ytjffncbjcidbmaa", sum := "c3bc8a689bd10492a5a9caea99fef60ec842c6d8ad5327e62b663a33b4ef1b68", checked := Try.checked }
namespace Rows
def none {H : Type} : Left H := { results := [], args := [] }

/-- 'laws.FnChecksum': WHATEVER THE INPUT: true; the input reads as it did. -/
def fnChecksumSpec : ChangeSpec := { name := "fnChecksum", fn := fun _ => fun
  | [d] => { results := [.lit (.bool true)], args := [d] }
  | _ => none }
def fnChecksumRow : OpenClaim := { program := "ytjffncbjcidbmaa", sum := "c3bc8a689bd10492a5a9caea99fef60ec842c6d8ad5327e62b663a33b4ef1b68", func := "loop.example/lib-carryroads/laws.FnChecksum", spec := "fnChecksum", apart := false }
def FnChecksumSaid : Prop := fnChecksumRow.holds Try.pinned (OpenSpec.ofChange fnChecksumSpec)

/-- ITS FALSE NEIGHBOUR: 'it returns false'. Refute it at one input. -/
def fnChecksumWrong : ChangeSpec := { name := "fnChecksum", fn := fun _ => fun
  | [d] => { results := [.lit (.bool false)], args := [d] }
  | _ => none }
def FnChecksumWrongFalsely : Prop := fnChecksumRow.holds Try.pinned (OpenSpec.ofChange fnChecksumWrong)

/-- 'laws.FnProductLength32': WHATEVER THE INPUT: true; the input reads as it did. -/
def fnProductLength32Spec : ChangeSpec := { name := "fnProductLength32", fn := fun _ => fun
  | [d1, d2] => { results := [.lit (.bool true)], args := [d1, d2] }
  | _ => none }
def fnProductLength32Row : OpenClaim := { program := "ytjffncbjcidbmaa", sum := "c3bc8a689bd10492a5a9caea99fef60ec842c6d8ad5327e62b663a33b4ef1b68", func := "loop.example/lib-carryroads/laws.FnProductLength32", spec := "fnProductLength32", apart := false }
def FnProductLength32Said : Prop := fnProductLength32Row.holds Try.pinned (OpenSpec.ofChange fnProductLength32Spec)

/-- ITS FALSE NEIGHBOUR: 'it returns false'. Refute it at one input. -/
def fnProductLength32Wrong : ChangeSpec := { name := "fnProductLength32", fn := fun _ => fun
  | [d1, d2] => { results := [.lit (.bool false)], args := [d1, d2] }
  | _ => none }
def FnProductLength32WrongFalsely : Prop := fnProductLength32Row.holds Try.pinned (OpenSpec.ofChange fnProductLength32Wrong)

/-- 'laws.FnSumLength32': WHATEVER THE INPUT: true; the input reads as it did. -/
def fnSumLength32Spec : ChangeSpec := { name := "fnSumLength32", fn := fun _ => fun
  | [d1, d2] => { results := [.lit (.bool true)], args := [d1, d2] }
  | _ => none }
def fnSumLength32Row : OpenClaim := { program := "ytjffncbjcidbmaa", sum := "c3bc8a689bd10492a5a9caea99fef60ec842c6d8ad5327e62b663a33b4ef1b68", func := "loop.example/lib-carryroads/laws.FnSumLength32", spec := "fnSumLength32", apart := false }
def FnSumLength32Said : Prop := fnSumLength32Row.holds Try.pinned (OpenSpec.ofChange fnSumLength32Spec)

/-- ITS FALSE NEIGHBOUR: 'it returns false'. Refute it at one input. -/
def fnSumLength32Wrong : ChangeSpec := { name := "fnSumLength32", fn := fun _ => fun
  | [d1, d2] => { results := [.lit (.bool false)], args := [d1, d2] }
  | _ => none }
def FnSumLength32WrongFalsely : Prop := fnSumLength32Row.holds Try.pinned (OpenSpec.ofChange fnSumLength32Wrong)

/-- 'laws.FnLess32': WHATEVER THE INPUT: true; the input reads as it did. -/
def fnLess32Spec : ChangeSpec := { name := "fnLess32", fn := fun _ => fun
  | [d1, d2] => { results := [.lit (.bool true)], args := [d1, d2] }
  | _ => none }
def fnLess32Row : OpenClaim := { program := "ytjffncbjcidbmaa", sum := "c3bc8a689bd10492a5a9caea99fef60ec842c6d8ad5327e62b663a33b4ef1b68", func := "loop.example/lib-carryroads/laws.FnLess32", spec := "fnLess32", apart := false }
def FnLess32Said : Prop := fnLess32Row.holds Try.pinned (OpenSpec.ofChange fnLess32Spec)

/-- ITS FALSE NEIGHBOUR: 'it returns false'. Refute it at one input. -/
def fnLess32Wrong : ChangeSpec := { name := "fnLess32", fn := fun _ => fun
  | [d1, d2] => { results := [.lit (.bool false)], args := [d1, d2] }
  | _ => none }
def FnLess32WrongFalsely : Prop := fnLess32Row.holds Try.pinned (OpenSpec.ofChange fnLess32Wrong)

/-- 'laws.FnQuarterRound': WHATEVER THE INPUT: true; the input reads as it did. -/
def fnQuarterRoundSpec : ChangeSpec := { name := "fnQuarterRound", fn := fun _ => fun
  | [d1, d2, d3, d4] => { results := [.lit (.bool true)], args := [d1, d2, d3, d4] }
  | _ => none }
def fnQuarterRoundRow : OpenClaim := { program := "ytjffncbjcidbmaa", sum := "c3bc8a689bd10492a5a9caea99fef60ec842c6d8ad5327e62b663a33b4ef1b68", func := "loop.example/lib-carryroads/laws.FnQuarterRound", spec := "fnQuarterRound", apart := false }
def FnQuarterRoundSaid : Prop := fnQuarterRoundRow.holds Try.pinned (OpenSpec.ofChange fnQuarterRoundSpec)

/-- ITS FALSE NEIGHBOUR: 'it returns false'. Refute it at one input. -/
def fnQuarterRoundWrong : ChangeSpec := { name := "fnQuarterRound", fn := fun _ => fun
  | [d1, d2, d3, d4] => { results := [.lit (.bool false)], args := [d1, d2, d3, d4] }
  | _ => none }
def FnQuarterRoundWrongFalsely : Prop := fnQuarterRoundRow.holds Try.pinned (OpenSpec.ofChange fnQuarterRoundWrong)

/- THE SECOND FORM. 'bulk': how many values and letters a reading holds, each counted each time it is reached (what is shared counts as often as it is met; a slice's spare places count too). A statement '..UptoSaid' is the law's where the arguments, and the package variables that the reading takes, are together of bulk at most 1048576: NARROWER than '..Said'. Prove '..Said' where nothing that the law and all that it calls make is longer than what came in: it says more and counts as full. Else prove '..UptoSaid'. A law counts once. -/
mutual
def uptoBulk {H : Type} : DataW H → Nat
  | .lit (.string bytes) => bytes.length + 1
  | .lit _ => 1
  | .nil => 1
  | .ptr d => uptoBulk d + 1
  | .slice elems spare => uptoBulkAll elems + uptoBulkAll spare + 1
  | .agg parts => uptoBulkAll parts + 1
  | .iface _ d => uptoBulk d + 1
  | .map entries => uptoBulkEntries entries + 1
  | .held _ => 1
def uptoBulkAll {H : Type} : List (DataW H) → Nat
  | [] => 0
  | d :: r => uptoBulk d + uptoBulkAll r
def uptoBulkEntries {H : Type} : List (Lit × DataW H) → Nat
  | [] => 0
  | x :: r => uptoBulkEntry x + uptoBulkEntries r
def uptoBulkEntry {H : Type} : Lit × DataW H → Nat
  | (.string bytes, d) => bytes.length + uptoBulk d + 1
  | (_, d) => uptoBulk d + 1
 end
def uptoSmall : (H : Type) → List (DataW H) → Bool := fun _ ds => decide (uptoBulkAll ds ≤ 1048576)
def OpenSpec.upto (s : _root_.Go.ChangeSpec) : _root_.Go.OpenSpec := { _root_.Go.OpenSpec.ofChange s with cond := some uptoSmall }

/-- 'laws.FnChecksum', WHERE WHAT IT READS IS OF BULK AT MOST 1048576: true; the input reads as it did. -/
def fnChecksumUptoRow : OpenClaim := { program := "ytjffncbjcidbmaa", sum := "c3bc8a689bd10492a5a9caea99fef60ec842c6d8ad5327e62b663a33b4ef1b68", func := "loop.example/lib-carryroads/laws.FnChecksum", spec := "fnChecksum", apart := false, narrowed := true }
def FnChecksumUptoSaid : Prop := fnChecksumUptoRow.holds Try.pinned (OpenSpec.upto fnChecksumSpec)

/-- 'laws.FnProductLength32', WHERE WHAT IT READS IS OF BULK AT MOST 1048576: true; the input reads as it did. -/
def fnProductLength32UptoRow : OpenClaim := { program := "ytjffncbjcidbmaa", sum := "c3bc8a689bd10492a5a9caea99fef60ec842c6d8ad5327e62b663a33b4ef1b68", func := "loop.example/lib-carryroads/laws.FnProductLength32", spec := "fnProductLength32", apart := false, narrowed := true }
def FnProductLength32UptoSaid : Prop := fnProductLength32UptoRow.holds Try.pinned (OpenSpec.upto fnProductLength32Spec)

/-- 'laws.FnSumLength32', WHERE WHAT IT READS IS OF BULK AT MOST 1048576: true; the input reads as it did. -/
def fnSumLength32UptoRow : OpenClaim := { program := "ytjffncbjcidbmaa", sum := "c3bc8a689bd10492a5a9caea99fef60ec842c6d8ad5327e62b663a33b4ef1b68", func := "loop.example/lib-carryroads/laws.FnSumLength32", spec := "fnSumLength32", apart := false, narrowed := true }
def FnSumLength32UptoSaid : Prop := fnSumLength32UptoRow.holds Try.pinned (OpenSpec.upto fnSumLength32Spec)

/-- 'laws.FnLess32', WHERE WHAT IT READS IS OF BULK AT MOST 1048576: true; the input reads as it did. -/
def fnLess32UptoRow : OpenClaim := { program := "ytjffncbjcidbmaa", sum := "c3bc8a689bd10492a5a9caea99fef60ec842c6d8ad5327e62b663a33b4ef1b68", func := "loop.example/lib-carryroads/laws.FnLess32", spec := "fnLess32", apart := false, narrowed := true }
def FnLess32UptoSaid : Prop := fnLess32UptoRow.holds Try.pinned (OpenSpec.upto fnLess32Spec)

/-- 'laws.FnQuarterRound', WHERE WHAT IT READS IS OF BULK AT MOST 1048576: true; the input reads as it did. -/
def fnQuarterRoundUptoRow : OpenClaim := { program := "ytjffncbjcidbmaa", sum := "c3bc8a689bd10492a5a9caea99fef60ec842c6d8ad5327e62b663a33b4ef1b68", func := "loop.example/lib-carryroads/laws.FnQuarterRound", spec := "fnQuarterRound", apart := false, narrowed := true }
def FnQuarterRoundUptoSaid : Prop := fnQuarterRoundUptoRow.holds Try.pinned (OpenSpec.upto fnQuarterRoundSpec)

end Rows
end Go.Proofs.Ytjffncbjcidbmaa
