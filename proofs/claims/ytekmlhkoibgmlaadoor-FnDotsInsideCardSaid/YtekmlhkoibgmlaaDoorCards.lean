/-
  DERIVED. GIVEN WITH THE SEED: THE CARDS: each row of YtekmlhkoibgmlaaDoorRows.lean that lists a variable, with what it lists TIED to the program's text (the seventh form; the later family's looks); each row that meets fmt, with fmt's text TOLD by the authors' own Lean function (tested against real Go, not proved from fmt's source: count such statements apart). THE CARD IS WHAT COUNTS. Prove the row's statement (the work); the ties are given (YtekmlhkoibgmlaaDoorTie.lean); close each card by the builder's one call (the guide's Derived/Test/ToyasCard.lean, 'card_holds'). Laid BY PROGRAM, IN A SANDBOX (cutbox-door.mjs). By AI agents, Wed Nov 11 2026. No macro, syntax, notation, axiom, sorry.
-/
import Derived.Test.YtekmlhkoibgmlaaDoorRows
import GoSem.ClaimSeven
namespace Go.Proofs.YtekmlhkoibgmlaaDoor
namespace Rows

/-- THE TIED CARD OF 'laws.FnDotsInside'. -/
def fnDotsInsideCard : Claim7 := { stood := { row := fnDotsInsideRow, standIns := [], harness := (true, "9e5a28f468ea7b723b5ba00fe89c56d136bba7f9317ec549f2a1c0a5fe82b750"), looks := false }, kinds := [], alts := [], laidByText := true, laidKinds := [.called, .called, .zero], laidTests := true, laidLooks := .later }
def FnDotsInsideCardSaid : Prop := Claim7.holds Tryd.pinned (.plain (OpenSpec.ofChange fnDotsInsideSpec)) fnDotsInsideCard

/-- THE TIED CARD OF 'laws.FnGroupTooLong'. -/
def fnGroupTooLongCard : Claim7 := { stood := { row := fnGroupTooLongRow, standIns := [], harness := (true, "9e5a28f468ea7b723b5ba00fe89c56d136bba7f9317ec549f2a1c0a5fe82b750"), looks := false }, kinds := [], alts := [], laidByText := true, laidKinds := [.called, .called, .zero], laidTests := true, laidLooks := .later }
def FnGroupTooLongCardSaid : Prop := Claim7.holds Tryd.pinned (.plain (OpenSpec.ofChange fnGroupTooLongSpec)) fnGroupTooLongCard

/-- THE TIED CARD OF 'laws.FnHowManyGroups'. -/
def fnHowManyGroupsCard : Claim7 := { stood := { row := fnHowManyGroupsRow, standIns := [], harness := (true, "9e5a28f468ea7b723b5ba00fe89c56d136bba7f9317ec549f2a1c0a5fe82b750"), looks := false }, kinds := [], alts := [], laidByText := true, laidKinds := [.called, .called, .zero], laidTests := true, laidLooks := .later }
def FnHowManyGroupsCardSaid : Prop := Claim7.holds Tryd.pinned (.plain (OpenSpec.ofChange fnHowManyGroupsSpec)) fnHowManyGroupsCard

/-- THE TIED CARD OF 'laws.FnHowManyNumbers'. -/
def fnHowManyNumbersCard : Claim7 := { stood := { row := fnHowManyNumbersRow, standIns := [], harness := (true, "9e5a28f468ea7b723b5ba00fe89c56d136bba7f9317ec549f2a1c0a5fe82b750"), looks := false }, kinds := [], alts := [], laidByText := true, laidKinds := [.called, .called, .zero], laidTests := true, laidLooks := .later }
def FnHowManyNumbersCardSaid : Prop := Claim7.holds Tryd.pinned (.plain (OpenSpec.ofChange fnHowManyNumbersSpec)) fnHowManyNumbersCard

/-- THE TIED CARD OF 'laws.FnLastNumbers'. -/
def fnLastNumbersCard : Claim7 := { stood := { row := fnLastNumbersRow, standIns := [], harness := (true, "9e5a28f468ea7b723b5ba00fe89c56d136bba7f9317ec549f2a1c0a5fe82b750"), looks := false }, kinds := [], alts := [], laidByText := true, laidKinds := [.called, .called, .zero], laidTests := true, laidLooks := .later }
def FnLastNumbersCardSaid : Prop := Claim7.holds Tryd.pinned (.plain (OpenSpec.ofChange fnLastNumbersSpec)) fnLastNumbersCard

/-- THE TIED CARD OF 'laws.FnZerosAhead'. -/
def fnZerosAheadCard : Claim7 := { stood := { row := fnZerosAheadRow, standIns := [], harness := (true, "9e5a28f468ea7b723b5ba00fe89c56d136bba7f9317ec549f2a1c0a5fe82b750"), looks := false }, kinds := [], alts := [], laidByText := true, laidKinds := [.called, .called, .zero], laidTests := true, laidLooks := .later }
def FnZerosAheadCardSaid : Prop := Claim7.holds Tryd.pinned (.plain (OpenSpec.ofChange fnZerosAheadSpec)) fnZerosAheadCard

/-- THE TIED CARD OF 'laws.FnExactUnmarshalScript'. -/
def fnExactUnmarshalScriptCard : Claim7 := { stood := { row := fnExactUnmarshalScriptRow, standIns := [], harness := (true, "9e5a28f468ea7b723b5ba00fe89c56d136bba7f9317ec549f2a1c0a5fe82b750"), looks := false }, kinds := [], alts := [], laidByText := true, laidKinds := [.called, .called, .zero], laidTests := true, laidLooks := .later }
def FnExactUnmarshalScriptCardSaid : Prop := Claim7.holds Tryd.pinned (.plain (OpenSpec.ofChange fnExactUnmarshalScriptSpec)) fnExactUnmarshalScriptCard

/-- THE TIED CARD OF 'laws.FnScriptIsReference'. -/
def fnScriptIsReferenceCard : Claim7 := { stood := { row := fnScriptIsReferenceRow, standIns := [], harness := (true, "9e5a28f468ea7b723b5ba00fe89c56d136bba7f9317ec549f2a1c0a5fe82b750"), looks := false }, kinds := [], alts := [], laidByText := true, laidKinds := [.called, .called, .zero], laidTests := true, laidLooks := .later }
def FnScriptIsReferenceCardSaid : Prop := Claim7.holds Tryd.pinned (.plain (OpenSpec.ofChange fnScriptIsReferenceSpec)) fnScriptIsReferenceCard

/-- THE TIED CARD OF 'laws.FnScriptOfTexts'. -/
def fnScriptOfTextsCard : Claim7 := { stood := { row := fnScriptOfTextsRow, standIns := [], harness := (true, "9e5a28f468ea7b723b5ba00fe89c56d136bba7f9317ec549f2a1c0a5fe82b750"), looks := false }, kinds := [], alts := [], laidByText := true, laidKinds := [.called, .called, .zero], laidTests := true, laidLooks := .later }
def FnScriptOfTextsCardSaid : Prop := Claim7.holds Tryd.pinned (.plain (OpenSpec.ofChange fnScriptOfTextsSpec)) fnScriptOfTextsCard

/-- THE SECOND FORM's CARD OF 'laws.FnDotsInside'. -/
def fnDotsInsideUptoCard : Claim7 := { stood := { row := fnDotsInsideUptoRow, standIns := [], harness := (true, "9e5a28f468ea7b723b5ba00fe89c56d136bba7f9317ec549f2a1c0a5fe82b750"), looks := false }, kinds := [], alts := [], laidByText := true, laidKinds := [.called, .called, .zero], laidTests := true, laidLooks := .later }
def FnDotsInsideUptoCardSaid : Prop := Claim7.holds Tryd.pinned (.plain (OpenSpec.upto fnDotsInsideSpec)) fnDotsInsideUptoCard

/-- THE SECOND FORM's CARD OF 'laws.FnGroupTooLong'. -/
def fnGroupTooLongUptoCard : Claim7 := { stood := { row := fnGroupTooLongUptoRow, standIns := [], harness := (true, "9e5a28f468ea7b723b5ba00fe89c56d136bba7f9317ec549f2a1c0a5fe82b750"), looks := false }, kinds := [], alts := [], laidByText := true, laidKinds := [.called, .called, .zero], laidTests := true, laidLooks := .later }
def FnGroupTooLongUptoCardSaid : Prop := Claim7.holds Tryd.pinned (.plain (OpenSpec.upto fnGroupTooLongSpec)) fnGroupTooLongUptoCard

/-- THE SECOND FORM's CARD OF 'laws.FnHowManyGroups'. -/
def fnHowManyGroupsUptoCard : Claim7 := { stood := { row := fnHowManyGroupsUptoRow, standIns := [], harness := (true, "9e5a28f468ea7b723b5ba00fe89c56d136bba7f9317ec549f2a1c0a5fe82b750"), looks := false }, kinds := [], alts := [], laidByText := true, laidKinds := [.called, .called, .zero], laidTests := true, laidLooks := .later }
def FnHowManyGroupsUptoCardSaid : Prop := Claim7.holds Tryd.pinned (.plain (OpenSpec.upto fnHowManyGroupsSpec)) fnHowManyGroupsUptoCard

/-- THE SECOND FORM's CARD OF 'laws.FnHowManyNumbers'. -/
def fnHowManyNumbersUptoCard : Claim7 := { stood := { row := fnHowManyNumbersUptoRow, standIns := [], harness := (true, "9e5a28f468ea7b723b5ba00fe89c56d136bba7f9317ec549f2a1c0a5fe82b750"), looks := false }, kinds := [], alts := [], laidByText := true, laidKinds := [.called, .called, .zero], laidTests := true, laidLooks := .later }
def FnHowManyNumbersUptoCardSaid : Prop := Claim7.holds Tryd.pinned (.plain (OpenSpec.upto fnHowManyNumbersSpec)) fnHowManyNumbersUptoCard

/-- THE SECOND FORM's CARD OF 'laws.FnLastNumbers'. -/
def fnLastNumbersUptoCard : Claim7 := { stood := { row := fnLastNumbersUptoRow, standIns := [], harness := (true, "9e5a28f468ea7b723b5ba00fe89c56d136bba7f9317ec549f2a1c0a5fe82b750"), looks := false }, kinds := [], alts := [], laidByText := true, laidKinds := [.called, .called, .zero], laidTests := true, laidLooks := .later }
def FnLastNumbersUptoCardSaid : Prop := Claim7.holds Tryd.pinned (.plain (OpenSpec.upto fnLastNumbersSpec)) fnLastNumbersUptoCard

/-- THE SECOND FORM's CARD OF 'laws.FnZerosAhead'. -/
def fnZerosAheadUptoCard : Claim7 := { stood := { row := fnZerosAheadUptoRow, standIns := [], harness := (true, "9e5a28f468ea7b723b5ba00fe89c56d136bba7f9317ec549f2a1c0a5fe82b750"), looks := false }, kinds := [], alts := [], laidByText := true, laidKinds := [.called, .called, .zero], laidTests := true, laidLooks := .later }
def FnZerosAheadUptoCardSaid : Prop := Claim7.holds Tryd.pinned (.plain (OpenSpec.upto fnZerosAheadSpec)) fnZerosAheadUptoCard

/-- THE SECOND FORM's CARD OF 'laws.FnExactUnmarshalScript'. -/
def fnExactUnmarshalScriptUptoCard : Claim7 := { stood := { row := fnExactUnmarshalScriptUptoRow, standIns := [], harness := (true, "9e5a28f468ea7b723b5ba00fe89c56d136bba7f9317ec549f2a1c0a5fe82b750"), looks := false }, kinds := [], alts := [], laidByText := true, laidKinds := [.called, .called, .zero], laidTests := true, laidLooks := .later }
def FnExactUnmarshalScriptUptoCardSaid : Prop := Claim7.holds Tryd.pinned (.plain (OpenSpec.upto fnExactUnmarshalScriptSpec)) fnExactUnmarshalScriptUptoCard

/-- THE SECOND FORM's CARD OF 'laws.FnScriptIsReference'. -/
def fnScriptIsReferenceUptoCard : Claim7 := { stood := { row := fnScriptIsReferenceUptoRow, standIns := [], harness := (true, "9e5a28f468ea7b723b5ba00fe89c56d136bba7f9317ec549f2a1c0a5fe82b750"), looks := false }, kinds := [], alts := [], laidByText := true, laidKinds := [.called, .called, .zero], laidTests := true, laidLooks := .later }
def FnScriptIsReferenceUptoCardSaid : Prop := Claim7.holds Tryd.pinned (.plain (OpenSpec.upto fnScriptIsReferenceSpec)) fnScriptIsReferenceUptoCard

/-- THE SECOND FORM's CARD OF 'laws.FnScriptOfTexts'. -/
def fnScriptOfTextsUptoCard : Claim7 := { stood := { row := fnScriptOfTextsUptoRow, standIns := [], harness := (true, "9e5a28f468ea7b723b5ba00fe89c56d136bba7f9317ec549f2a1c0a5fe82b750"), looks := false }, kinds := [], alts := [], laidByText := true, laidKinds := [.called, .called, .zero], laidTests := true, laidLooks := .later }
def FnScriptOfTextsUptoCardSaid : Prop := Claim7.holds Tryd.pinned (.plain (OpenSpec.upto fnScriptOfTextsSpec)) fnScriptOfTextsUptoCard
end Rows
end Go.Proofs.YtekmlhkoibgmlaaDoor
