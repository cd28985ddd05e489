/-
  DERIVED. GIVEN WITH THE SEED: THE CARDS: each row of YtgjniomloooccaaDoorRows.lean that lists a variable, with what it lists TIED to the program's text (the seventh form; the later family's looks); each row that meets fmt, with fmt's text TOLD by the authors' own Lean function (tested against real Go, not proved from fmt's source: count such statements apart). THE CARD IS WHAT COUNTS. Prove the row's statement (the work); the ties are given (YtgjniomloooccaaDoorTie.lean); close each card by the builder's one call (the guide's Derived/Test/ToyasCard.lean, 'card_holds'). Laid BY PROGRAM, IN A SANDBOX (cutbox-door.mjs). By AI agents, Wed Nov 11 2026. No macro, syntax, notation, axiom, sorry.
-/
import Derived.Test.YtgjniomloooccaaDoorRows
import GoSem.ClaimSeven
namespace Go.Proofs.YtgjniomloooccaaDoor
namespace Rows

/-- THE TIED CARD OF 'laws.FnFactorialZeros'. -/
def fnFactorialZerosCard : Claim7 := { stood := { row := fnFactorialZerosRow, standIns := [], harness := (true, "ce7e547a00466362cbe227eb140a56abc748cf746d456329b99791a35f871a5e"), looks := false }, kinds := [], alts := [], laidByText := true, laidKinds := [.data], laidTests := true, laidLooks := .later }
def FnFactorialZerosCardSaid : Prop := Claim7.holds Tryd.pinned (.plain (OpenSpec.ofChange fnFactorialZerosSpec)) fnFactorialZerosCard

/-- THE TIED CARD OF 'laws.FnSumZeros64'. -/
def fnSumZeros64Card : Claim7 := { stood := { row := fnSumZeros64Row, standIns := [], harness := (true, "ce7e547a00466362cbe227eb140a56abc748cf746d456329b99791a35f871a5e"), looks := false }, kinds := [], alts := [], laidByText := true, laidKinds := [.data], laidTests := true, laidLooks := .later }
def FnSumZeros64CardSaid : Prop := Claim7.holds Tryd.pinned (.plain (OpenSpec.ofChange fnSumZeros64Spec)) fnSumZeros64Card

/-- THE TIED CARD OF 'laws.FnProductZeros64'. -/
def fnProductZeros64Card : Claim7 := { stood := { row := fnProductZeros64Row, standIns := [], harness := (true, "ce7e547a00466362cbe227eb140a56abc748cf746d456329b99791a35f871a5e"), looks := false }, kinds := [], alts := [], laidByText := true, laidKinds := [.data], laidTests := true, laidLooks := .later }
def FnProductZeros64CardSaid : Prop := Claim7.holds Tryd.pinned (.plain (OpenSpec.ofChange fnProductZeros64Spec)) fnProductZeros64Card

/-- THE TIED CARD OF 'laws.FnNextSame64'. -/
def fnNextSame64Card : Claim7 := { stood := { row := fnNextSame64Row, standIns := [], harness := (true, "ce7e547a00466362cbe227eb140a56abc748cf746d456329b99791a35f871a5e"), looks := false }, kinds := [], alts := [], laidByText := true, laidKinds := [.data], laidTests := true, laidLooks := .later }
def FnNextSame64CardSaid : Prop := Claim7.holds Tryd.pinned (.plain (OpenSpec.ofChange fnNextSame64Spec)) fnNextSame64Card

/-- THE TIED CARD OF 'laws.FnBinomialCarries'. -/
def fnBinomialCarriesCard : Claim7 := { stood := { row := fnBinomialCarriesRow, standIns := [], harness := (true, "ce7e547a00466362cbe227eb140a56abc748cf746d456329b99791a35f871a5e"), looks := false }, kinds := [], alts := [], laidByText := true, laidKinds := [.data], laidTests := true, laidLooks := .later }
def FnBinomialCarriesCardSaid : Prop := Claim7.holds Tryd.pinned (.plain (OpenSpec.ofChange fnBinomialCarriesSpec)) fnBinomialCarriesCard

/-- THE TIED CARD OF 'laws.FnNextSame'. -/
def fnNextSameCard : Claim7 := { stood := { row := fnNextSameRow, standIns := [], harness := (true, "ce7e547a00466362cbe227eb140a56abc748cf746d456329b99791a35f871a5e"), looks := false }, kinds := [], alts := [], laidByText := true, laidKinds := [.data, .data], laidTests := true, laidLooks := .later }
def FnNextSameCardSaid : Prop := Claim7.holds Tryd.pinned (.plain (OpenSpec.ofChange fnNextSameSpec)) fnNextSameCard

/-- THE TIED CARD OF 'laws.FnSumZeros'. -/
def fnSumZerosCard : Claim7 := { stood := { row := fnSumZerosRow, standIns := [], harness := (true, "ce7e547a00466362cbe227eb140a56abc748cf746d456329b99791a35f871a5e"), looks := false }, kinds := [], alts := [], laidByText := true, laidKinds := [.data, .data], laidTests := true, laidLooks := .later }
def FnSumZerosCardSaid : Prop := Claim7.holds Tryd.pinned (.plain (OpenSpec.ofChange fnSumZerosSpec)) fnSumZerosCard

/-- THE TIED CARD OF 'laws.FnProductZeros'. -/
def fnProductZerosCard : Claim7 := { stood := { row := fnProductZerosRow, standIns := [], harness := (true, "ce7e547a00466362cbe227eb140a56abc748cf746d456329b99791a35f871a5e"), looks := false }, kinds := [], alts := [], laidByText := true, laidKinds := [.data, .data], laidTests := true, laidLooks := .later }
def FnProductZerosCardSaid : Prop := Claim7.holds Tryd.pinned (.plain (OpenSpec.ofChange fnProductZerosSpec)) fnProductZerosCard

/-- THE SECOND FORM's CARD OF 'laws.FnFactorialZeros'. -/
def fnFactorialZerosUptoCard : Claim7 := { stood := { row := fnFactorialZerosUptoRow, standIns := [], harness := (true, "ce7e547a00466362cbe227eb140a56abc748cf746d456329b99791a35f871a5e"), looks := false }, kinds := [], alts := [], laidByText := true, laidKinds := [.data], laidTests := true, laidLooks := .later }
def FnFactorialZerosUptoCardSaid : Prop := Claim7.holds Tryd.pinned (.plain (OpenSpec.upto fnFactorialZerosSpec)) fnFactorialZerosUptoCard

/-- THE SECOND FORM's CARD OF 'laws.FnSumZeros64'. -/
def fnSumZeros64UptoCard : Claim7 := { stood := { row := fnSumZeros64UptoRow, standIns := [], harness := (true, "ce7e547a00466362cbe227eb140a56abc748cf746d456329b99791a35f871a5e"), looks := false }, kinds := [], alts := [], laidByText := true, laidKinds := [.data], laidTests := true, laidLooks := .later }
def FnSumZeros64UptoCardSaid : Prop := Claim7.holds Tryd.pinned (.plain (OpenSpec.upto fnSumZeros64Spec)) fnSumZeros64UptoCard

/-- THE SECOND FORM's CARD OF 'laws.FnProductZeros64'. -/
def fnProductZeros64UptoCard : Claim7 := { stood := { row := fnProductZeros64UptoRow, standIns := [], harness := (true, "ce7e547a00466362cbe227eb140a56abc748cf746d456329b99791a35f871a5e"), looks := false }, kinds := [], alts := [], laidByText := true, laidKinds := [.data], laidTests := true, laidLooks := .later }
def FnProductZeros64UptoCardSaid : Prop := Claim7.holds Tryd.pinned (.plain (OpenSpec.upto fnProductZeros64Spec)) fnProductZeros64UptoCard

/-- THE SECOND FORM's CARD OF 'laws.FnNextSame64'. -/
def fnNextSame64UptoCard : Claim7 := { stood := { row := fnNextSame64UptoRow, standIns := [], harness := (true, "ce7e547a00466362cbe227eb140a56abc748cf746d456329b99791a35f871a5e"), looks := false }, kinds := [], alts := [], laidByText := true, laidKinds := [.data], laidTests := true, laidLooks := .later }
def FnNextSame64UptoCardSaid : Prop := Claim7.holds Tryd.pinned (.plain (OpenSpec.upto fnNextSame64Spec)) fnNextSame64UptoCard

/-- THE SECOND FORM's CARD OF 'laws.FnBinomialCarries'. -/
def fnBinomialCarriesUptoCard : Claim7 := { stood := { row := fnBinomialCarriesUptoRow, standIns := [], harness := (true, "ce7e547a00466362cbe227eb140a56abc748cf746d456329b99791a35f871a5e"), looks := false }, kinds := [], alts := [], laidByText := true, laidKinds := [.data], laidTests := true, laidLooks := .later }
def FnBinomialCarriesUptoCardSaid : Prop := Claim7.holds Tryd.pinned (.plain (OpenSpec.upto fnBinomialCarriesSpec)) fnBinomialCarriesUptoCard

/-- THE SECOND FORM's CARD OF 'laws.FnNextSame'. -/
def fnNextSameUptoCard : Claim7 := { stood := { row := fnNextSameUptoRow, standIns := [], harness := (true, "ce7e547a00466362cbe227eb140a56abc748cf746d456329b99791a35f871a5e"), looks := false }, kinds := [], alts := [], laidByText := true, laidKinds := [.data, .data], laidTests := true, laidLooks := .later }
def FnNextSameUptoCardSaid : Prop := Claim7.holds Tryd.pinned (.plain (OpenSpec.upto fnNextSameSpec)) fnNextSameUptoCard

/-- THE SECOND FORM's CARD OF 'laws.FnSumZeros'. -/
def fnSumZerosUptoCard : Claim7 := { stood := { row := fnSumZerosUptoRow, standIns := [], harness := (true, "ce7e547a00466362cbe227eb140a56abc748cf746d456329b99791a35f871a5e"), looks := false }, kinds := [], alts := [], laidByText := true, laidKinds := [.data, .data], laidTests := true, laidLooks := .later }
def FnSumZerosUptoCardSaid : Prop := Claim7.holds Tryd.pinned (.plain (OpenSpec.upto fnSumZerosSpec)) fnSumZerosUptoCard

/-- THE SECOND FORM's CARD OF 'laws.FnProductZeros'. -/
def fnProductZerosUptoCard : Claim7 := { stood := { row := fnProductZerosUptoRow, standIns := [], harness := (true, "ce7e547a00466362cbe227eb140a56abc748cf746d456329b99791a35f871a5e"), looks := false }, kinds := [], alts := [], laidByText := true, laidKinds := [.data, .data], laidTests := true, laidLooks := .later }
def FnProductZerosUptoCardSaid : Prop := Claim7.holds Tryd.pinned (.plain (OpenSpec.upto fnProductZerosSpec)) fnProductZerosUptoCard
end Rows
end Go.Proofs.YtgjniomloooccaaDoor
