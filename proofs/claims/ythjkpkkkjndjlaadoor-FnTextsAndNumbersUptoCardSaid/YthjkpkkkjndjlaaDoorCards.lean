/-
  DERIVED. GIVEN WITH THE SEED: THE CARDS: each row of YthjkpkkkjndjlaaDoorRows.lean that lists a variable, with what it lists TIED to the program's text (the seventh form; the later family's looks); each row that meets fmt, with fmt's text TOLD by the authors' own Lean function (tested against real Go, not proved from fmt's source: count such statements apart). THE CARD IS WHAT COUNTS. Prove the row's statement (the work); the ties are given (YthjkpkkkjndjlaaDoorTie.lean); close each card by the builder's one call (the guide's Derived/Test/ToyasCard.lean, 'card_holds'). Laid BY PROGRAM, IN A SANDBOX (cutbox-door.mjs). By AI agents, Wed Nov 11 2026. No macro, syntax, notation, axiom, sorry.
-/
import Derived.Test.YthjkpkkkjndjlaaDoorRows
import GoSem.ClaimSeven
namespace Go.Proofs.YthjkpkkkjndjlaaDoor
namespace Rows

/-- THE TIED CARD OF 'laws.FnTextsMixed'. -/
def fnTextsMixedCard : Claim7 := { stood := { row := fnTextsMixedRow, standIns := [], harness := (true, "701d62360360d189338881bda5f80bdff79b23f350cfe13e16460d0bb08c3111"), looks := true }, kinds := [], alts := [], laidByText := true, laidKinds := [.data, .sentinel, .pinned, .pinned, .pinned, .pinned, .pinned, .pinned], laidTests := true, laidLooks := .later }
def FnTextsMixedCardSaid : Prop := Claim7.holds Tryd.pinned (.plain (OpenSpec.ofChange fnTextsMixedSpec)) fnTextsMixedCard

/-- THE TIED CARD OF 'laws.FnQuotedNumber'. -/
def fnQuotedNumberCard : Claim7 := { stood := { row := fnQuotedNumberRow, standIns := [], harness := (true, "701d62360360d189338881bda5f80bdff79b23f350cfe13e16460d0bb08c3111"), looks := true }, kinds := [], alts := [], laidByText := true, laidKinds := [.data, .data, .data, .data, .sentinel, .pinned, .pinned, .pinned, .pinned, .pinned, .pinned], laidTests := true, laidLooks := .later }
def FnQuotedNumberCardSaid : Prop := Claim7.holds Tryd.pinned (.plain (OpenSpec.ofChange fnQuotedNumberSpec)) fnQuotedNumberCard

/-- THE TIED CARD OF 'laws.FnTextsAndNumbers'. -/
def fnTextsAndNumbersCard : Claim7 := { stood := { row := fnTextsAndNumbersRow, standIns := [], harness := (true, "701d62360360d189338881bda5f80bdff79b23f350cfe13e16460d0bb08c3111"), looks := true }, kinds := [], alts := [], laidByText := true, laidKinds := [.data, .data, .data, .data, .sentinel, .sentinel, .pinned, .pinned, .pinned, .pinned, .pinned, .pinned], laidTests := true, laidLooks := .later }
def FnTextsAndNumbersCardSaid : Prop := Claim7.holds Tryd.pinned (.plain (OpenSpec.ofChange fnTextsAndNumbersSpec)) fnTextsAndNumbersCard

/-- THE TIED CARD OF 'laws.FnHexEscape'. -/
def fnHexEscapeCard : Claim7 := { stood := { row := fnHexEscapeRow, standIns := [], harness := (true, "701d62360360d189338881bda5f80bdff79b23f350cfe13e16460d0bb08c3111"), looks := true }, kinds := [], alts := [], laidByText := true, laidKinds := [.data, .data, .data, .pinned, .pinned, .pinned, .pinned, .pinned], laidTests := true, laidLooks := .later }
def FnHexEscapeCardSaid : Prop := Claim7.holds Tryd.pinned (.plain (OpenSpec.ofChange fnHexEscapeSpec)) fnHexEscapeCard

/-- THE TIED CARD OF 'laws.FnScriptParts'. -/
def fnScriptPartsCard : Claim7 := { stood := { row := fnScriptPartsRow, standIns := [], harness := (true, "701d62360360d189338881bda5f80bdff79b23f350cfe13e16460d0bb08c3111"), looks := true }, kinds := [], alts := [], laidByText := true, laidKinds := [.data, .data, .data, .data, .pinned, .pinned, .pinned, .pinned, .pinned, .pinned], laidTests := true, laidLooks := .later }
def FnScriptPartsCardSaid : Prop := Claim7.holds Tryd.pinned (.plain (OpenSpec.ofChange fnScriptPartsSpec)) fnScriptPartsCard

/-- THE TIED CARD OF 'laws.FnScript'. -/
def fnScriptCard : Claim7 := { stood := { row := fnScriptRow, standIns := [], harness := (true, "701d62360360d189338881bda5f80bdff79b23f350cfe13e16460d0bb08c3111"), looks := true }, kinds := [], alts := [], laidByText := true, laidKinds := [.data, .data, .data, .data, .pinned, .pinned, .pinned, .pinned, .pinned, .pinned], laidTests := true, laidLooks := .later }
def FnScriptCardSaid : Prop := Claim7.holds Tryd.pinned (.plain (OpenSpec.ofChange fnScriptSpec)) fnScriptCard

/-- THE TIED CARD OF 'laws.FnTextsBack'. -/
def fnTextsBackCard : Claim7 := { stood := { row := fnTextsBackRow, standIns := [], harness := (true, "701d62360360d189338881bda5f80bdff79b23f350cfe13e16460d0bb08c3111"), looks := true }, kinds := [], alts := [], laidByText := true, laidKinds := [.data, .sentinel, .pinned, .pinned, .pinned, .pinned, .pinned, .pinned], laidTests := true, laidLooks := .later }
def FnTextsBackCardSaid : Prop := Claim7.holds Tryd.pinned (.plain (OpenSpec.ofChange fnTextsBackSpec)) fnTextsBackCard

/-- THE TIED CARD OF 'laws.FnTextsCut'. -/
def fnTextsCutCard : Claim7 := { stood := { row := fnTextsCutRow, standIns := [], harness := (true, "701d62360360d189338881bda5f80bdff79b23f350cfe13e16460d0bb08c3111"), looks := true }, kinds := [], alts := [], laidByText := true, laidKinds := [.data, .sentinel, .pinned, .pinned, .pinned, .pinned, .pinned, .pinned], laidTests := true, laidLooks := .later }
def FnTextsCutCardSaid : Prop := Claim7.holds Tryd.pinned (.plain (OpenSpec.ofChange fnTextsCutSpec)) fnTextsCutCard

/-- THE SECOND FORM's CARD OF 'laws.FnTextsMixed'. -/
def fnTextsMixedUptoCard : Claim7 := { stood := { row := fnTextsMixedUptoRow, standIns := [], harness := (true, "701d62360360d189338881bda5f80bdff79b23f350cfe13e16460d0bb08c3111"), looks := true }, kinds := [], alts := [], laidByText := true, laidKinds := [.data, .sentinel, .pinned, .pinned, .pinned, .pinned, .pinned, .pinned], laidTests := true, laidLooks := .later }
def FnTextsMixedUptoCardSaid : Prop := Claim7.holds Tryd.pinned (.plain (OpenSpec.upto fnTextsMixedSpec)) fnTextsMixedUptoCard

/-- THE SECOND FORM's CARD OF 'laws.FnQuotedNumber'. -/
def fnQuotedNumberUptoCard : Claim7 := { stood := { row := fnQuotedNumberUptoRow, standIns := [], harness := (true, "701d62360360d189338881bda5f80bdff79b23f350cfe13e16460d0bb08c3111"), looks := true }, kinds := [], alts := [], laidByText := true, laidKinds := [.data, .data, .data, .data, .sentinel, .pinned, .pinned, .pinned, .pinned, .pinned, .pinned], laidTests := true, laidLooks := .later }
def FnQuotedNumberUptoCardSaid : Prop := Claim7.holds Tryd.pinned (.plain (OpenSpec.upto fnQuotedNumberSpec)) fnQuotedNumberUptoCard

/-- THE SECOND FORM's CARD OF 'laws.FnTextsAndNumbers'. -/
def fnTextsAndNumbersUptoCard : Claim7 := { stood := { row := fnTextsAndNumbersUptoRow, standIns := [], harness := (true, "701d62360360d189338881bda5f80bdff79b23f350cfe13e16460d0bb08c3111"), looks := true }, kinds := [], alts := [], laidByText := true, laidKinds := [.data, .data, .data, .data, .sentinel, .sentinel, .pinned, .pinned, .pinned, .pinned, .pinned, .pinned], laidTests := true, laidLooks := .later }
def FnTextsAndNumbersUptoCardSaid : Prop := Claim7.holds Tryd.pinned (.plain (OpenSpec.upto fnTextsAndNumbersSpec)) fnTextsAndNumbersUptoCard

/-- THE SECOND FORM's CARD OF 'laws.FnHexEscape'. -/
def fnHexEscapeUptoCard : Claim7 := { stood := { row := fnHexEscapeUptoRow, standIns := [], harness := (true, "701d62360360d189338881bda5f80bdff79b23f350cfe13e16460d0bb08c3111"), looks := true }, kinds := [], alts := [], laidByText := true, laidKinds := [.data, .data, .data, .pinned, .pinned, .pinned, .pinned, .pinned], laidTests := true, laidLooks := .later }
def FnHexEscapeUptoCardSaid : Prop := Claim7.holds Tryd.pinned (.plain (OpenSpec.upto fnHexEscapeSpec)) fnHexEscapeUptoCard

/-- THE SECOND FORM's CARD OF 'laws.FnScriptParts'. -/
def fnScriptPartsUptoCard : Claim7 := { stood := { row := fnScriptPartsUptoRow, standIns := [], harness := (true, "701d62360360d189338881bda5f80bdff79b23f350cfe13e16460d0bb08c3111"), looks := true }, kinds := [], alts := [], laidByText := true, laidKinds := [.data, .data, .data, .data, .pinned, .pinned, .pinned, .pinned, .pinned, .pinned], laidTests := true, laidLooks := .later }
def FnScriptPartsUptoCardSaid : Prop := Claim7.holds Tryd.pinned (.plain (OpenSpec.upto fnScriptPartsSpec)) fnScriptPartsUptoCard

/-- THE SECOND FORM's CARD OF 'laws.FnScript'. -/
def fnScriptUptoCard : Claim7 := { stood := { row := fnScriptUptoRow, standIns := [], harness := (true, "701d62360360d189338881bda5f80bdff79b23f350cfe13e16460d0bb08c3111"), looks := true }, kinds := [], alts := [], laidByText := true, laidKinds := [.data, .data, .data, .data, .pinned, .pinned, .pinned, .pinned, .pinned, .pinned], laidTests := true, laidLooks := .later }
def FnScriptUptoCardSaid : Prop := Claim7.holds Tryd.pinned (.plain (OpenSpec.upto fnScriptSpec)) fnScriptUptoCard

/-- THE SECOND FORM's CARD OF 'laws.FnTextsBack'. -/
def fnTextsBackUptoCard : Claim7 := { stood := { row := fnTextsBackUptoRow, standIns := [], harness := (true, "701d62360360d189338881bda5f80bdff79b23f350cfe13e16460d0bb08c3111"), looks := true }, kinds := [], alts := [], laidByText := true, laidKinds := [.data, .sentinel, .pinned, .pinned, .pinned, .pinned, .pinned, .pinned], laidTests := true, laidLooks := .later }
def FnTextsBackUptoCardSaid : Prop := Claim7.holds Tryd.pinned (.plain (OpenSpec.upto fnTextsBackSpec)) fnTextsBackUptoCard

/-- THE SECOND FORM's CARD OF 'laws.FnTextsCut'. -/
def fnTextsCutUptoCard : Claim7 := { stood := { row := fnTextsCutUptoRow, standIns := [], harness := (true, "701d62360360d189338881bda5f80bdff79b23f350cfe13e16460d0bb08c3111"), looks := true }, kinds := [], alts := [], laidByText := true, laidKinds := [.data, .sentinel, .pinned, .pinned, .pinned, .pinned, .pinned, .pinned], laidTests := true, laidLooks := .later }
def FnTextsCutUptoCardSaid : Prop := Claim7.holds Tryd.pinned (.plain (OpenSpec.upto fnTextsCutSpec)) fnTextsCutUptoCard
end Rows
end Go.Proofs.YthjkpkkkjndjlaaDoor
