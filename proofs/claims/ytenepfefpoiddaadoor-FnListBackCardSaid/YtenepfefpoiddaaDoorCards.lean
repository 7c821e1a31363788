/-
  DERIVED. GIVEN WITH THE SEED: THE CARDS: each row of YtenepfefpoiddaaDoorRows.lean that lists a variable, with what it lists TIED to the program's text (the seventh form; the later family's looks); each row that meets fmt, with fmt's text TOLD by the authors' own Lean function (tested against real Go, not proved from fmt's source: count such statements apart). THE CARD IS WHAT COUNTS. Prove the row's statement (the work); the ties are given (YtenepfefpoiddaaDoorTie.lean); close each card by the builder's one call (the guide's Derived/Test/ToyasCard.lean, 'card_holds'). Laid BY PROGRAM, IN A SANDBOX (cutbox-door.mjs). By AI agents, Wed Nov 11 2026. No macro, syntax, notation, axiom, sorry.
-/
import Derived.Test.YtenepfefpoiddaaDoorRows
import GoSem.ClaimSeven
namespace Go.Proofs.YtenepfefpoiddaaDoor
namespace Rows

/-- THE TIED CARD OF 'laws.FnExactAppendNumbers'. -/
def fnExactAppendNumbersCard : Claim7 := { stood := { row := fnExactAppendNumbersRow, standIns := [], harness := (true, "6094ab5e4f6af3ea96784905991de3409461c216bac56df34bdd859cb90786dc"), looks := true }, kinds := [], alts := [], laidByText := true, laidKinds := [.data, .data, .data], laidTests := true, laidLooks := .later }
def FnExactAppendNumbersCardSaid : Prop := Claim7.holds Tryd.pinned (.plain (OpenSpec.ofChange fnExactAppendNumbersSpec)) fnExactAppendNumbersCard

/-- THE TIED CARD OF 'laws.FnCutDigits'. -/
def fnCutDigitsCard : Claim7 := { stood := { row := fnCutDigitsRow, standIns := [], harness := (true, "6094ab5e4f6af3ea96784905991de3409461c216bac56df34bdd859cb90786dc"), looks := true }, kinds := [], alts := [], laidByText := true, laidKinds := [.data, .data, .data, .sentinel, .sentinel], laidTests := true, laidLooks := .later }
def FnCutDigitsCardSaid : Prop := Claim7.holds Tryd.pinned (.plain (OpenSpec.ofChange fnCutDigitsSpec)) fnCutDigitsCard

/-- THE TIED CARD OF 'laws.FnGreaterBase'. -/
def fnGreaterBaseCard : Claim7 := { stood := { row := fnGreaterBaseRow, standIns := [], harness := (true, "6094ab5e4f6af3ea96784905991de3409461c216bac56df34bdd859cb90786dc"), looks := true }, kinds := [], alts := [], laidByText := true, laidKinds := [.data, .data, .data, .sentinel, .sentinel], laidTests := true, laidLooks := .later }
def FnGreaterBaseCardSaid : Prop := Claim7.holds Tryd.pinned (.plain (OpenSpec.ofChange fnGreaterBaseSpec)) fnGreaterBaseCard

/-- THE TIED CARD OF 'laws.FnJoinDigits'. -/
def fnJoinDigitsCard : Claim7 := { stood := { row := fnJoinDigitsRow, standIns := [], harness := (true, "6094ab5e4f6af3ea96784905991de3409461c216bac56df34bdd859cb90786dc"), looks := true }, kinds := [], alts := [], laidByText := true, laidKinds := [.data, .data, .data, .sentinel, .sentinel], laidTests := true, laidLooks := .later }
def FnJoinDigitsCardSaid : Prop := Claim7.holds Tryd.pinned (.plain (OpenSpec.ofChange fnJoinDigitsSpec)) fnJoinDigitsCard

/-- THE TIED CARD OF 'laws.FnZerosBehind'. -/
def fnZerosBehindCard : Claim7 := { stood := { row := fnZerosBehindRow, standIns := [], harness := (true, "6094ab5e4f6af3ea96784905991de3409461c216bac56df34bdd859cb90786dc"), looks := true }, kinds := [], alts := [], laidByText := true, laidKinds := [.data, .data, .data, .sentinel, .sentinel], laidTests := true, laidLooks := .later }
def FnZerosBehindCardSaid : Prop := Claim7.holds Tryd.pinned (.plain (OpenSpec.ofChange fnZerosBehindSpec)) fnZerosBehindCard

/-- THE TIED CARD OF 'laws.FnListBack'. -/
def fnListBackCard : Claim7 := { stood := { row := fnListBackRow, standIns := [], harness := (true, "6094ab5e4f6af3ea96784905991de3409461c216bac56df34bdd859cb90786dc"), looks := true }, kinds := [], alts := [], laidByText := true, laidKinds := [.data, .data, .data, .sentinel, .sentinel], laidTests := true, laidLooks := .later }
def FnListBackCardSaid : Prop := Claim7.holds Tryd.pinned (.plain (OpenSpec.ofChange fnListBackSpec)) fnListBackCard

/-- THE TIED CARD OF 'laws.FnExactReadNumbers'. -/
def fnExactReadNumbersCard : Claim7 := { stood := { row := fnExactReadNumbersRow, standIns := [], harness := (true, "6094ab5e4f6af3ea96784905991de3409461c216bac56df34bdd859cb90786dc"), looks := true }, kinds := [], alts := [], laidByText := true, laidKinds := [.data, .data, .data, .sentinel, .sentinel], laidTests := true, laidLooks := .later }
def FnExactReadNumbersCardSaid : Prop := Claim7.holds Tryd.pinned (.plain (OpenSpec.ofChange fnExactReadNumbersSpec)) fnExactReadNumbersCard

/-- THE TIED CARD OF 'laws.FnReadTwice'. -/
def fnReadTwiceCard : Claim7 := { stood := { row := fnReadTwiceRow, standIns := [], harness := (true, "6094ab5e4f6af3ea96784905991de3409461c216bac56df34bdd859cb90786dc"), looks := true }, kinds := [], alts := [], laidByText := true, laidKinds := [.data, .data, .data, .sentinel, .sentinel], laidTests := true, laidLooks := .later }
def FnReadTwiceCardSaid : Prop := Claim7.holds Tryd.pinned (.plain (OpenSpec.ofChange fnReadTwiceSpec)) fnReadTwiceCard

/-- THE TIED CARD OF 'laws.FnOpposite'. -/
def fnOppositeCard : Claim7 := { stood := { row := fnOppositeRow, standIns := [], harness := (true, "6094ab5e4f6af3ea96784905991de3409461c216bac56df34bdd859cb90786dc"), looks := true }, kinds := [], alts := [], laidByText := true, laidKinds := [.data, .data, .data, .sentinel, .sentinel], laidTests := true, laidLooks := .later }
def FnOppositeCardSaid : Prop := Claim7.holds Tryd.pinned (.plain (OpenSpec.ofChange fnOppositeSpec)) fnOppositeCard

/-- THE TIED CARD OF 'laws.FnNumbersBack'. -/
def fnNumbersBackCard : Claim7 := { stood := { row := fnNumbersBackRow, standIns := [], harness := (true, "6094ab5e4f6af3ea96784905991de3409461c216bac56df34bdd859cb90786dc"), looks := true }, kinds := [], alts := [], laidByText := true, laidKinds := [.data, .data, .data, .sentinel, .sentinel], laidTests := true, laidLooks := .later }
def FnNumbersBackCardSaid : Prop := Claim7.holds Tryd.pinned (.plain (OpenSpec.ofChange fnNumbersBackSpec)) fnNumbersBackCard

/-- THE SECOND FORM's CARD OF 'laws.FnExactAppendNumbers'. -/
def fnExactAppendNumbersUptoCard : Claim7 := { stood := { row := fnExactAppendNumbersUptoRow, standIns := [], harness := (true, "6094ab5e4f6af3ea96784905991de3409461c216bac56df34bdd859cb90786dc"), looks := true }, kinds := [], alts := [], laidByText := true, laidKinds := [.data, .data, .data], laidTests := true, laidLooks := .later }
def FnExactAppendNumbersUptoCardSaid : Prop := Claim7.holds Tryd.pinned (.plain (OpenSpec.upto fnExactAppendNumbersSpec)) fnExactAppendNumbersUptoCard

/-- THE SECOND FORM's CARD OF 'laws.FnCutDigits'. -/
def fnCutDigitsUptoCard : Claim7 := { stood := { row := fnCutDigitsUptoRow, standIns := [], harness := (true, "6094ab5e4f6af3ea96784905991de3409461c216bac56df34bdd859cb90786dc"), looks := true }, kinds := [], alts := [], laidByText := true, laidKinds := [.data, .data, .data, .sentinel, .sentinel], laidTests := true, laidLooks := .later }
def FnCutDigitsUptoCardSaid : Prop := Claim7.holds Tryd.pinned (.plain (OpenSpec.upto fnCutDigitsSpec)) fnCutDigitsUptoCard

/-- THE SECOND FORM's CARD OF 'laws.FnGreaterBase'. -/
def fnGreaterBaseUptoCard : Claim7 := { stood := { row := fnGreaterBaseUptoRow, standIns := [], harness := (true, "6094ab5e4f6af3ea96784905991de3409461c216bac56df34bdd859cb90786dc"), looks := true }, kinds := [], alts := [], laidByText := true, laidKinds := [.data, .data, .data, .sentinel, .sentinel], laidTests := true, laidLooks := .later }
def FnGreaterBaseUptoCardSaid : Prop := Claim7.holds Tryd.pinned (.plain (OpenSpec.upto fnGreaterBaseSpec)) fnGreaterBaseUptoCard

/-- THE SECOND FORM's CARD OF 'laws.FnJoinDigits'. -/
def fnJoinDigitsUptoCard : Claim7 := { stood := { row := fnJoinDigitsUptoRow, standIns := [], harness := (true, "6094ab5e4f6af3ea96784905991de3409461c216bac56df34bdd859cb90786dc"), looks := true }, kinds := [], alts := [], laidByText := true, laidKinds := [.data, .data, .data, .sentinel, .sentinel], laidTests := true, laidLooks := .later }
def FnJoinDigitsUptoCardSaid : Prop := Claim7.holds Tryd.pinned (.plain (OpenSpec.upto fnJoinDigitsSpec)) fnJoinDigitsUptoCard

/-- THE SECOND FORM's CARD OF 'laws.FnZerosBehind'. -/
def fnZerosBehindUptoCard : Claim7 := { stood := { row := fnZerosBehindUptoRow, standIns := [], harness := (true, "6094ab5e4f6af3ea96784905991de3409461c216bac56df34bdd859cb90786dc"), looks := true }, kinds := [], alts := [], laidByText := true, laidKinds := [.data, .data, .data, .sentinel, .sentinel], laidTests := true, laidLooks := .later }
def FnZerosBehindUptoCardSaid : Prop := Claim7.holds Tryd.pinned (.plain (OpenSpec.upto fnZerosBehindSpec)) fnZerosBehindUptoCard

/-- THE SECOND FORM's CARD OF 'laws.FnListBack'. -/
def fnListBackUptoCard : Claim7 := { stood := { row := fnListBackUptoRow, standIns := [], harness := (true, "6094ab5e4f6af3ea96784905991de3409461c216bac56df34bdd859cb90786dc"), looks := true }, kinds := [], alts := [], laidByText := true, laidKinds := [.data, .data, .data, .sentinel, .sentinel], laidTests := true, laidLooks := .later }
def FnListBackUptoCardSaid : Prop := Claim7.holds Tryd.pinned (.plain (OpenSpec.upto fnListBackSpec)) fnListBackUptoCard

/-- THE SECOND FORM's CARD OF 'laws.FnExactReadNumbers'. -/
def fnExactReadNumbersUptoCard : Claim7 := { stood := { row := fnExactReadNumbersUptoRow, standIns := [], harness := (true, "6094ab5e4f6af3ea96784905991de3409461c216bac56df34bdd859cb90786dc"), looks := true }, kinds := [], alts := [], laidByText := true, laidKinds := [.data, .data, .data, .sentinel, .sentinel], laidTests := true, laidLooks := .later }
def FnExactReadNumbersUptoCardSaid : Prop := Claim7.holds Tryd.pinned (.plain (OpenSpec.upto fnExactReadNumbersSpec)) fnExactReadNumbersUptoCard

/-- THE SECOND FORM's CARD OF 'laws.FnReadTwice'. -/
def fnReadTwiceUptoCard : Claim7 := { stood := { row := fnReadTwiceUptoRow, standIns := [], harness := (true, "6094ab5e4f6af3ea96784905991de3409461c216bac56df34bdd859cb90786dc"), looks := true }, kinds := [], alts := [], laidByText := true, laidKinds := [.data, .data, .data, .sentinel, .sentinel], laidTests := true, laidLooks := .later }
def FnReadTwiceUptoCardSaid : Prop := Claim7.holds Tryd.pinned (.plain (OpenSpec.upto fnReadTwiceSpec)) fnReadTwiceUptoCard

/-- THE SECOND FORM's CARD OF 'laws.FnOpposite'. -/
def fnOppositeUptoCard : Claim7 := { stood := { row := fnOppositeUptoRow, standIns := [], harness := (true, "6094ab5e4f6af3ea96784905991de3409461c216bac56df34bdd859cb90786dc"), looks := true }, kinds := [], alts := [], laidByText := true, laidKinds := [.data, .data, .data, .sentinel, .sentinel], laidTests := true, laidLooks := .later }
def FnOppositeUptoCardSaid : Prop := Claim7.holds Tryd.pinned (.plain (OpenSpec.upto fnOppositeSpec)) fnOppositeUptoCard

/-- THE SECOND FORM's CARD OF 'laws.FnNumbersBack'. -/
def fnNumbersBackUptoCard : Claim7 := { stood := { row := fnNumbersBackUptoRow, standIns := [], harness := (true, "6094ab5e4f6af3ea96784905991de3409461c216bac56df34bdd859cb90786dc"), looks := true }, kinds := [], alts := [], laidByText := true, laidKinds := [.data, .data, .data, .sentinel, .sentinel], laidTests := true, laidLooks := .later }
def FnNumbersBackUptoCardSaid : Prop := Claim7.holds Tryd.pinned (.plain (OpenSpec.upto fnNumbersBackSpec)) fnNumbersBackUptoCard
end Rows
end Go.Proofs.YtenepfefpoiddaaDoor
