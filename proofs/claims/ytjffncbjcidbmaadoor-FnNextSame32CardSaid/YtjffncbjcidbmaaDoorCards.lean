/-
  DERIVED. GIVEN WITH THE SEED: THE CARDS: each row of YtjffncbjcidbmaaDoorRows.lean that lists a variable, with what it lists TIED to the program's text (the seventh form; the later family's looks); each row that meets fmt, with fmt's text TOLD by the authors' own Lean function (tested against real Go, not proved from fmt's source: count such statements apart). THE CARD IS WHAT COUNTS. Prove the row's statement (the work); the ties are given (YtjffncbjcidbmaaDoorTie.lean); close each card by the builder's one call (the guide's Derived/Test/ToyasCard.lean, 'card_holds'). Laid BY PROGRAM, IN A SANDBOX (cutbox-door.mjs). By AI agents, Wed Nov 11 2026. No macro, syntax, notation, axiom, sorry.
-/
import Derived.Test.YtjffncbjcidbmaaDoorRows
import GoSem.ClaimSeven
namespace Go.Proofs.YtjffncbjcidbmaaDoor
namespace Rows

/-- THE TIED CARD OF 'laws.FnProductZeros32'. -/
def fnProductZeros32Card : Claim7 := { stood := { row := fnProductZeros32Row, standIns := [], harness := (true, "c9997711c08f15e44830fa570b52cde726a5ad847770ca91e36d3ccdf665d53d"), looks := false }, kinds := [], alts := [], laidByText := true, laidKinds := [.data], laidTests := true, laidLooks := .later }
def FnProductZeros32CardSaid : Prop := Claim7.holds Tryd.pinned (.plain (OpenSpec.ofChange fnProductZeros32Spec)) fnProductZeros32Card

/-- THE TIED CARD OF 'laws.FnSumZeros32'. -/
def fnSumZeros32Card : Claim7 := { stood := { row := fnSumZeros32Row, standIns := [], harness := (true, "c9997711c08f15e44830fa570b52cde726a5ad847770ca91e36d3ccdf665d53d"), looks := false }, kinds := [], alts := [], laidByText := true, laidKinds := [.data], laidTests := true, laidLooks := .later }
def FnSumZeros32CardSaid : Prop := Claim7.holds Tryd.pinned (.plain (OpenSpec.ofChange fnSumZeros32Spec)) fnSumZeros32Card

/-- THE TIED CARD OF 'laws.FnNextSame32'. -/
def fnNextSame32Card : Claim7 := { stood := { row := fnNextSame32Row, standIns := [], harness := (true, "c9997711c08f15e44830fa570b52cde726a5ad847770ca91e36d3ccdf665d53d"), looks := false }, kinds := [], alts := [], laidByText := true, laidKinds := [.data], laidTests := true, laidLooks := .later }
def FnNextSame32CardSaid : Prop := Claim7.holds Tryd.pinned (.plain (OpenSpec.ofChange fnNextSame32Spec)) fnNextSame32Card

/-- THE SECOND FORM's CARD OF 'laws.FnProductZeros32'. -/
def fnProductZeros32UptoCard : Claim7 := { stood := { row := fnProductZeros32UptoRow, standIns := [], harness := (true, "c9997711c08f15e44830fa570b52cde726a5ad847770ca91e36d3ccdf665d53d"), looks := false }, kinds := [], alts := [], laidByText := true, laidKinds := [.data], laidTests := true, laidLooks := .later }
def FnProductZeros32UptoCardSaid : Prop := Claim7.holds Tryd.pinned (.plain (OpenSpec.upto fnProductZeros32Spec)) fnProductZeros32UptoCard

/-- THE SECOND FORM's CARD OF 'laws.FnSumZeros32'. -/
def fnSumZeros32UptoCard : Claim7 := { stood := { row := fnSumZeros32UptoRow, standIns := [], harness := (true, "c9997711c08f15e44830fa570b52cde726a5ad847770ca91e36d3ccdf665d53d"), looks := false }, kinds := [], alts := [], laidByText := true, laidKinds := [.data], laidTests := true, laidLooks := .later }
def FnSumZeros32UptoCardSaid : Prop := Claim7.holds Tryd.pinned (.plain (OpenSpec.upto fnSumZeros32Spec)) fnSumZeros32UptoCard

/-- THE SECOND FORM's CARD OF 'laws.FnNextSame32'. -/
def fnNextSame32UptoCard : Claim7 := { stood := { row := fnNextSame32UptoRow, standIns := [], harness := (true, "c9997711c08f15e44830fa570b52cde726a5ad847770ca91e36d3ccdf665d53d"), looks := false }, kinds := [], alts := [], laidByText := true, laidKinds := [.data], laidTests := true, laidLooks := .later }
def FnNextSame32UptoCardSaid : Prop := Claim7.holds Tryd.pinned (.plain (OpenSpec.upto fnNextSame32Spec)) fnNextSame32UptoCard
end Rows
end Go.Proofs.YtjffncbjcidbmaaDoor
