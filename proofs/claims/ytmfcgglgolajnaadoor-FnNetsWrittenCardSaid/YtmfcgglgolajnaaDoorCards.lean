/-
  DERIVED. GIVEN WITH THE SEED: THE CARDS: each row of YtmfcgglgolajnaaDoorRows.lean that lists a variable, with what it lists TIED to the program's text (the seventh form; the later family's looks); each row that meets fmt, with fmt's text TOLD by the authors' own Lean function (tested against real Go, not proved from fmt's source: count such statements apart). THE CARD IS WHAT COUNTS. Prove the row's statement (the work); the ties are given (YtmfcgglgolajnaaDoorTie.lean); close each card by the builder's one call (the guide's Derived/Test/ToyasCard.lean, 'card_holds'). Laid BY PROGRAM, IN A SANDBOX (cutbox-door.mjs). By AI agents, Wed Nov 11 2026. No macro, syntax, notation, axiom, sorry.
-/
import Derived.Test.YtmfcgglgolajnaaDoorRows
import GoSem.ClaimSeven
namespace Go.Proofs.YtmfcgglgolajnaaDoor
namespace Rows

/-- THE TIED CARD OF 'laws.FnOneBit'. -/
def fnOneBitCard : Claim7 := { stood := { row := fnOneBitRow, standIns := [], harness := (true, "29fad2cf1d9aa6921d4f71fd967e766cb6df419dd919555b76222ab3f5245401"), looks := false }, kinds := [], alts := [], laidByText := true, laidKinds := [.called, .called, .widerDeep, .zero], laidTests := true, laidLooks := .later }
def FnOneBitCardSaid : Prop := Claim7.holds Tryd.pinned (.plain (OpenSpec.ofChange fnOneBitSpec)) fnOneBitCard

/-- THE TIED CARD OF 'laws.FnLinesRead'. -/
def fnLinesReadCard : Claim7 := { stood := { row := fnLinesReadRow, standIns := [], harness := (true, "29fad2cf1d9aa6921d4f71fd967e766cb6df419dd919555b76222ab3f5245401"), looks := false }, kinds := [], alts := [], laidByText := true, laidKinds := [.called, .called, .widerDeep, .zero], laidTests := true, laidLooks := .later }
def FnLinesReadCardSaid : Prop := Claim7.holds Tryd.pinned (.plain (OpenSpec.ofChange fnLinesReadSpec)) fnLinesReadCard

/-- THE TIED CARD OF 'laws.FnNetsWritten'. -/
def fnNetsWrittenCard : Claim7 := { stood := { row := fnNetsWrittenRow, standIns := [], harness := (true, "29fad2cf1d9aa6921d4f71fd967e766cb6df419dd919555b76222ab3f5245401"), looks := false }, kinds := [], alts := [], laidByText := true, laidKinds := [.data, .data, .data, .called, .called, .zero], laidTests := true, laidLooks := .later }
def FnNetsWrittenCardSaid : Prop := Claim7.holds Tryd.pinned (.plain (OpenSpec.ofChange fnNetsWrittenSpec)) fnNetsWrittenCard

/-- THE TIED CARD OF 'laws.FnEqualClasses'. -/
def fnEqualClassesCard : Claim7 := { stood := { row := fnEqualClassesRow, standIns := [], harness := (true, "29fad2cf1d9aa6921d4f71fd967e766cb6df419dd919555b76222ab3f5245401"), looks := false }, kinds := [], alts := [], laidByText := true, laidKinds := [.called, .called, .widerDeep, .zero], laidTests := true, laidLooks := .later }
def FnEqualClassesCardSaid : Prop := Claim7.holds Tryd.pinned (.plain (OpenSpec.ofChange fnEqualClassesSpec)) fnEqualClassesCard

/-- THE TIED CARD OF 'laws.FnAsManyStrings'. -/
def fnAsManyStringsCard : Claim7 := { stood := { row := fnAsManyStringsRow, standIns := [], harness := (true, "29fad2cf1d9aa6921d4f71fd967e766cb6df419dd919555b76222ab3f5245401"), looks := false }, kinds := [], alts := [], laidByText := true, laidKinds := [.called, .called, .widerDeep, .zero], laidTests := true, laidLooks := .later }
def FnAsManyStringsCardSaid : Prop := Claim7.holds Tryd.pinned (.plain (OpenSpec.ofChange fnAsManyStringsSpec)) fnAsManyStringsCard

/-- THE TIED CARD OF 'laws.FnFormsAlike'. -/
def fnFormsAlikeCard : Claim7 := { stood := { row := fnFormsAlikeRow, standIns := [], harness := (true, "29fad2cf1d9aa6921d4f71fd967e766cb6df419dd919555b76222ab3f5245401"), looks := false }, kinds := [], alts := [], laidByText := true, laidKinds := [.called, .called, .widerDeep, .zero], laidTests := true, laidLooks := .later }
def FnFormsAlikeCardSaid : Prop := Claim7.holds Tryd.pinned (.plain (OpenSpec.ofChange fnFormsAlikeSpec)) fnFormsAlikeCard

/-- THE TIED CARD OF 'laws.FnDotsCut'. -/
def fnDotsCutCard : Claim7 := { stood := { row := fnDotsCutRow, standIns := [], harness := (true, "29fad2cf1d9aa6921d4f71fd967e766cb6df419dd919555b76222ab3f5245401"), looks := false }, kinds := [], alts := [], laidByText := true, laidKinds := [.called, .called, .zero], laidTests := true, laidLooks := .later }
def FnDotsCutCardSaid : Prop := Claim7.holds Tryd.pinned (.plain (OpenSpec.ofChange fnDotsCutSpec)) fnDotsCutCard

/-- THE TIED CARD OF 'laws.FnMasksWritten'. -/
def fnMasksWrittenCard : Claim7 := { stood := { row := fnMasksWrittenRow, standIns := [], harness := (true, "29fad2cf1d9aa6921d4f71fd967e766cb6df419dd919555b76222ab3f5245401"), looks := false }, kinds := [], alts := [], laidByText := true, laidKinds := [.data, .data, .data, .called, .called, .zero], laidTests := true, laidLooks := .later }
def FnMasksWrittenCardSaid : Prop := Claim7.holds Tryd.pinned (.plain (OpenSpec.ofChange fnMasksWrittenSpec)) fnMasksWrittenCard

/-- THE SECOND FORM's CARD OF 'laws.FnOneBit'. -/
def fnOneBitUptoCard : Claim7 := { stood := { row := fnOneBitUptoRow, standIns := [], harness := (true, "29fad2cf1d9aa6921d4f71fd967e766cb6df419dd919555b76222ab3f5245401"), looks := false }, kinds := [], alts := [], laidByText := true, laidKinds := [.called, .called, .widerDeep, .zero], laidTests := true, laidLooks := .later }
def FnOneBitUptoCardSaid : Prop := Claim7.holds Tryd.pinned (.plain (OpenSpec.upto fnOneBitSpec)) fnOneBitUptoCard

/-- THE SECOND FORM's CARD OF 'laws.FnLinesRead'. -/
def fnLinesReadUptoCard : Claim7 := { stood := { row := fnLinesReadUptoRow, standIns := [], harness := (true, "29fad2cf1d9aa6921d4f71fd967e766cb6df419dd919555b76222ab3f5245401"), looks := false }, kinds := [], alts := [], laidByText := true, laidKinds := [.called, .called, .widerDeep, .zero], laidTests := true, laidLooks := .later }
def FnLinesReadUptoCardSaid : Prop := Claim7.holds Tryd.pinned (.plain (OpenSpec.upto fnLinesReadSpec)) fnLinesReadUptoCard

/-- THE SECOND FORM's CARD OF 'laws.FnNetsWritten'. -/
def fnNetsWrittenUptoCard : Claim7 := { stood := { row := fnNetsWrittenUptoRow, standIns := [], harness := (true, "29fad2cf1d9aa6921d4f71fd967e766cb6df419dd919555b76222ab3f5245401"), looks := false }, kinds := [], alts := [], laidByText := true, laidKinds := [.data, .data, .data, .called, .called, .zero], laidTests := true, laidLooks := .later }
def FnNetsWrittenUptoCardSaid : Prop := Claim7.holds Tryd.pinned (.plain (OpenSpec.upto fnNetsWrittenSpec)) fnNetsWrittenUptoCard

/-- THE SECOND FORM's CARD OF 'laws.FnEqualClasses'. -/
def fnEqualClassesUptoCard : Claim7 := { stood := { row := fnEqualClassesUptoRow, standIns := [], harness := (true, "29fad2cf1d9aa6921d4f71fd967e766cb6df419dd919555b76222ab3f5245401"), looks := false }, kinds := [], alts := [], laidByText := true, laidKinds := [.called, .called, .widerDeep, .zero], laidTests := true, laidLooks := .later }
def FnEqualClassesUptoCardSaid : Prop := Claim7.holds Tryd.pinned (.plain (OpenSpec.upto fnEqualClassesSpec)) fnEqualClassesUptoCard

/-- THE SECOND FORM's CARD OF 'laws.FnAsManyStrings'. -/
def fnAsManyStringsUptoCard : Claim7 := { stood := { row := fnAsManyStringsUptoRow, standIns := [], harness := (true, "29fad2cf1d9aa6921d4f71fd967e766cb6df419dd919555b76222ab3f5245401"), looks := false }, kinds := [], alts := [], laidByText := true, laidKinds := [.called, .called, .widerDeep, .zero], laidTests := true, laidLooks := .later }
def FnAsManyStringsUptoCardSaid : Prop := Claim7.holds Tryd.pinned (.plain (OpenSpec.upto fnAsManyStringsSpec)) fnAsManyStringsUptoCard

/-- THE SECOND FORM's CARD OF 'laws.FnFormsAlike'. -/
def fnFormsAlikeUptoCard : Claim7 := { stood := { row := fnFormsAlikeUptoRow, standIns := [], harness := (true, "29fad2cf1d9aa6921d4f71fd967e766cb6df419dd919555b76222ab3f5245401"), looks := false }, kinds := [], alts := [], laidByText := true, laidKinds := [.called, .called, .widerDeep, .zero], laidTests := true, laidLooks := .later }
def FnFormsAlikeUptoCardSaid : Prop := Claim7.holds Tryd.pinned (.plain (OpenSpec.upto fnFormsAlikeSpec)) fnFormsAlikeUptoCard

/-- THE SECOND FORM's CARD OF 'laws.FnDotsCut'. -/
def fnDotsCutUptoCard : Claim7 := { stood := { row := fnDotsCutUptoRow, standIns := [], harness := (true, "29fad2cf1d9aa6921d4f71fd967e766cb6df419dd919555b76222ab3f5245401"), looks := false }, kinds := [], alts := [], laidByText := true, laidKinds := [.called, .called, .zero], laidTests := true, laidLooks := .later }
def FnDotsCutUptoCardSaid : Prop := Claim7.holds Tryd.pinned (.plain (OpenSpec.upto fnDotsCutSpec)) fnDotsCutUptoCard

/-- THE SECOND FORM's CARD OF 'laws.FnMasksWritten'. -/
def fnMasksWrittenUptoCard : Claim7 := { stood := { row := fnMasksWrittenUptoRow, standIns := [], harness := (true, "29fad2cf1d9aa6921d4f71fd967e766cb6df419dd919555b76222ab3f5245401"), looks := false }, kinds := [], alts := [], laidByText := true, laidKinds := [.data, .data, .data, .called, .called, .zero], laidTests := true, laidLooks := .later }
def FnMasksWrittenUptoCardSaid : Prop := Claim7.holds Tryd.pinned (.plain (OpenSpec.upto fnMasksWrittenSpec)) fnMasksWrittenUptoCard
end Rows
end Go.Proofs.YtmfcgglgolajnaaDoor
