/-
  DERIVED. GIVEN WITH THE SEED: THE CARDS: each row of YtjcejkenjmkinaaDoorRows.lean that lists a variable, with what it lists TIED to the program's text (the seventh form; the later family's looks); each row that meets fmt, with fmt's text TOLD by the authors' own Lean function (tested against real Go, not proved from fmt's source: count such statements apart). THE CARD IS WHAT COUNTS. Prove the row's statement (the work); the ties are given (YtjcejkenjmkinaaDoorTie.lean); close each card by the builder's one call (the guide's Derived/Test/ToyasCard.lean, 'card_holds'). Laid BY PROGRAM, IN A SANDBOX (cutbox-door.mjs). By AI agents, Wed Nov 11 2026. No macro, syntax, notation, axiom, sorry.
-/
import Derived.Test.YtjcejkenjmkinaaDoorRows
import GoSem.ClaimSeven
namespace Go.Proofs.YtjcejkenjmkinaaDoor
namespace Rows

/-- THE TIED CARD OF 'laws.FnDigitSum'. -/
def fnDigitSumCard : Claim7 := { stood := { row := fnDigitSumRow, standIns := [], harness := (true, "7bf6636bc45b9798935d67f6763d8c978aa355dd5915b463adbb572cda894b79"), looks := false }, kinds := [], alts := [], laidByText := true, laidKinds := [.data, .data, .data], laidTests := true, laidLooks := .later }
def FnDigitSumCardSaid : Prop := Claim7.holds Tryd.pinned (.plain (OpenSpec.ofChange fnDigitSumSpec)) fnDigitSumCard

/-- THE TIED CARD OF 'laws.FnDigits'. -/
def fnDigitsCard : Claim7 := { stood := { row := fnDigitsRow, standIns := [], harness := (true, "7bf6636bc45b9798935d67f6763d8c978aa355dd5915b463adbb572cda894b79"), looks := false }, kinds := [], alts := [], laidByText := true, laidKinds := [.data, .data, .data], laidTests := true, laidLooks := .later }
def FnDigitsCardSaid : Prop := Claim7.holds Tryd.pinned (.plain (OpenSpec.ofChange fnDigitsSpec)) fnDigitsCard

/-- THE TIED CARD OF 'laws.FnFlipped'. -/
def fnFlippedCard : Claim7 := { stood := { row := fnFlippedRow, standIns := [], harness := (true, "7bf6636bc45b9798935d67f6763d8c978aa355dd5915b463adbb572cda894b79"), looks := false }, kinds := [], alts := [], laidByText := true, laidKinds := [.data, .data, .data], laidTests := true, laidLooks := .later }
def FnFlippedCardSaid : Prop := Claim7.holds Tryd.pinned (.plain (OpenSpec.ofChange fnFlippedSpec)) fnFlippedCard

/-- THE TIED CARD OF 'laws.FnNext'. -/
def fnNextCard : Claim7 := { stood := { row := fnNextRow, standIns := [], harness := (true, "7bf6636bc45b9798935d67f6763d8c978aa355dd5915b463adbb572cda894b79"), looks := false }, kinds := [], alts := [], laidByText := true, laidKinds := [.data, .data, .data], laidTests := true, laidLooks := .later }
def FnNextCardSaid : Prop := Claim7.holds Tryd.pinned (.plain (OpenSpec.ofChange fnNextSpec)) fnNextCard

/-- THE TIED CARD OF 'laws.FnPowerBase'. -/
def fnPowerBaseCard : Claim7 := { stood := { row := fnPowerBaseRow, standIns := [], harness := (true, "7bf6636bc45b9798935d67f6763d8c978aa355dd5915b463adbb572cda894b79"), looks := false }, kinds := [], alts := [], laidByText := true, laidKinds := [.data, .data, .data], laidTests := true, laidLooks := .later }
def FnPowerBaseCardSaid : Prop := Claim7.holds Tryd.pinned (.plain (OpenSpec.ofChange fnPowerBaseSpec)) fnPowerBaseCard

/-- THE TIED CARD OF 'laws.FnSum'. -/
def fnSumCard : Claim7 := { stood := { row := fnSumRow, standIns := [], harness := (true, "7bf6636bc45b9798935d67f6763d8c978aa355dd5915b463adbb572cda894b79"), looks := false }, kinds := [], alts := [], laidByText := true, laidKinds := [.data, .data, .data], laidTests := true, laidLooks := .later }
def FnSumCardSaid : Prop := Claim7.holds Tryd.pinned (.plain (OpenSpec.ofChange fnSumSpec)) fnSumCard

/-- THE TIED CARD OF 'laws.FnTimes'. -/
def fnTimesCard : Claim7 := { stood := { row := fnTimesRow, standIns := [], harness := (true, "7bf6636bc45b9798935d67f6763d8c978aa355dd5915b463adbb572cda894b79"), looks := false }, kinds := [], alts := [], laidByText := true, laidKinds := [.data, .data, .data], laidTests := true, laidLooks := .later }
def FnTimesCardSaid : Prop := Claim7.holds Tryd.pinned (.plain (OpenSpec.ofChange fnTimesSpec)) fnTimesCard

/-- THE SECOND FORM's CARD OF 'laws.FnDigitSum'. -/
def fnDigitSumUptoCard : Claim7 := { stood := { row := fnDigitSumUptoRow, standIns := [], harness := (true, "7bf6636bc45b9798935d67f6763d8c978aa355dd5915b463adbb572cda894b79"), looks := false }, kinds := [], alts := [], laidByText := true, laidKinds := [.data, .data, .data], laidTests := true, laidLooks := .later }
def FnDigitSumUptoCardSaid : Prop := Claim7.holds Tryd.pinned (.plain (OpenSpec.upto fnDigitSumSpec)) fnDigitSumUptoCard

/-- THE SECOND FORM's CARD OF 'laws.FnDigits'. -/
def fnDigitsUptoCard : Claim7 := { stood := { row := fnDigitsUptoRow, standIns := [], harness := (true, "7bf6636bc45b9798935d67f6763d8c978aa355dd5915b463adbb572cda894b79"), looks := false }, kinds := [], alts := [], laidByText := true, laidKinds := [.data, .data, .data], laidTests := true, laidLooks := .later }
def FnDigitsUptoCardSaid : Prop := Claim7.holds Tryd.pinned (.plain (OpenSpec.upto fnDigitsSpec)) fnDigitsUptoCard

/-- THE SECOND FORM's CARD OF 'laws.FnFlipped'. -/
def fnFlippedUptoCard : Claim7 := { stood := { row := fnFlippedUptoRow, standIns := [], harness := (true, "7bf6636bc45b9798935d67f6763d8c978aa355dd5915b463adbb572cda894b79"), looks := false }, kinds := [], alts := [], laidByText := true, laidKinds := [.data, .data, .data], laidTests := true, laidLooks := .later }
def FnFlippedUptoCardSaid : Prop := Claim7.holds Tryd.pinned (.plain (OpenSpec.upto fnFlippedSpec)) fnFlippedUptoCard

/-- THE SECOND FORM's CARD OF 'laws.FnNext'. -/
def fnNextUptoCard : Claim7 := { stood := { row := fnNextUptoRow, standIns := [], harness := (true, "7bf6636bc45b9798935d67f6763d8c978aa355dd5915b463adbb572cda894b79"), looks := false }, kinds := [], alts := [], laidByText := true, laidKinds := [.data, .data, .data], laidTests := true, laidLooks := .later }
def FnNextUptoCardSaid : Prop := Claim7.holds Tryd.pinned (.plain (OpenSpec.upto fnNextSpec)) fnNextUptoCard

/-- THE SECOND FORM's CARD OF 'laws.FnPowerBase'. -/
def fnPowerBaseUptoCard : Claim7 := { stood := { row := fnPowerBaseUptoRow, standIns := [], harness := (true, "7bf6636bc45b9798935d67f6763d8c978aa355dd5915b463adbb572cda894b79"), looks := false }, kinds := [], alts := [], laidByText := true, laidKinds := [.data, .data, .data], laidTests := true, laidLooks := .later }
def FnPowerBaseUptoCardSaid : Prop := Claim7.holds Tryd.pinned (.plain (OpenSpec.upto fnPowerBaseSpec)) fnPowerBaseUptoCard

/-- THE SECOND FORM's CARD OF 'laws.FnSum'. -/
def fnSumUptoCard : Claim7 := { stood := { row := fnSumUptoRow, standIns := [], harness := (true, "7bf6636bc45b9798935d67f6763d8c978aa355dd5915b463adbb572cda894b79"), looks := false }, kinds := [], alts := [], laidByText := true, laidKinds := [.data, .data, .data], laidTests := true, laidLooks := .later }
def FnSumUptoCardSaid : Prop := Claim7.holds Tryd.pinned (.plain (OpenSpec.upto fnSumSpec)) fnSumUptoCard

/-- THE SECOND FORM's CARD OF 'laws.FnTimes'. -/
def fnTimesUptoCard : Claim7 := { stood := { row := fnTimesUptoRow, standIns := [], harness := (true, "7bf6636bc45b9798935d67f6763d8c978aa355dd5915b463adbb572cda894b79"), looks := false }, kinds := [], alts := [], laidByText := true, laidKinds := [.data, .data, .data], laidTests := true, laidLooks := .later }
def FnTimesUptoCardSaid : Prop := Claim7.holds Tryd.pinned (.plain (OpenSpec.upto fnTimesSpec)) fnTimesUptoCard
end Rows
end Go.Proofs.YtjcejkenjmkinaaDoor
