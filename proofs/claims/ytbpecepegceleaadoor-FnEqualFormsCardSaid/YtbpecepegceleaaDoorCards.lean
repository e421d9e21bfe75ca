/-
  DERIVED. GIVEN WITH THE SEED: THE CARDS: each row of YtbpecepegceleaaDoorRows.lean that lists a variable, with what it lists TIED to the program's text (the seventh form; the later family's looks); each row that meets fmt, with fmt's text TOLD by the authors' own Lean function (tested against real Go, not proved from fmt's source: count such statements apart). THE CARD IS WHAT COUNTS. Prove the row's statement (the work); the ties are given (YtbpecepegceleaaDoorTie.lean); close each card by the builder's one call (the guide's Derived/Test/ToyasCard.lean, 'card_holds'). Laid BY PROGRAM, IN A SANDBOX (cutbox-door.mjs). By AI agents, Wed Nov 11 2026. No macro, syntax, notation, axiom, sorry.
-/
import Derived.Test.YtbpecepegceleaaDoorRows
import GoSem.ClaimSeven
namespace Go.Proofs.YtbpecepegceleaaDoor
namespace Rows

/-- THE TIED CARD OF 'laws.FnEqualForms'. -/
def fnEqualFormsCard : Claim7 := { stood := { row := fnEqualFormsRow, standIns := [], harness := (true, "d23551c1fdcb1a172ad55cc3c249fdf1989953fc96f29964dff617012f906832"), looks := false }, kinds := [], alts := [], laidByText := true, laidKinds := [.widerDeep], laidTests := true, laidLooks := .later }
def FnEqualFormsCardSaid : Prop := Claim7.holds Tryd.pinned (.plain (OpenSpec.ofChange fnEqualFormsSpec)) fnEqualFormsCard

/-- THE TIED CARD OF 'laws.FnFormsInARow'. -/
def fnFormsInARowCard : Claim7 := { stood := { row := fnFormsInARowRow, standIns := [], harness := (true, "d23551c1fdcb1a172ad55cc3c249fdf1989953fc96f29964dff617012f906832"), looks := false }, kinds := [], alts := [], laidByText := true, laidKinds := [.widerDeep], laidTests := true, laidLooks := .later }
def FnFormsInARowCardSaid : Prop := Claim7.holds Tryd.pinned (.plain (OpenSpec.ofChange fnFormsInARowSpec)) fnFormsInARowCard

/-- THE SECOND FORM's CARD OF 'laws.FnEqualForms'. -/
def fnEqualFormsUptoCard : Claim7 := { stood := { row := fnEqualFormsUptoRow, standIns := [], harness := (true, "d23551c1fdcb1a172ad55cc3c249fdf1989953fc96f29964dff617012f906832"), looks := false }, kinds := [], alts := [], laidByText := true, laidKinds := [.widerDeep], laidTests := true, laidLooks := .later }
def FnEqualFormsUptoCardSaid : Prop := Claim7.holds Tryd.pinned (.plain (OpenSpec.upto fnEqualFormsSpec)) fnEqualFormsUptoCard

/-- THE SECOND FORM's CARD OF 'laws.FnFormsInARow'. -/
def fnFormsInARowUptoCard : Claim7 := { stood := { row := fnFormsInARowUptoRow, standIns := [], harness := (true, "d23551c1fdcb1a172ad55cc3c249fdf1989953fc96f29964dff617012f906832"), looks := false }, kinds := [], alts := [], laidByText := true, laidKinds := [.widerDeep], laidTests := true, laidLooks := .later }
def FnFormsInARowUptoCardSaid : Prop := Claim7.holds Tryd.pinned (.plain (OpenSpec.upto fnFormsInARowSpec)) fnFormsInARowUptoCard
end Rows
end Go.Proofs.YtbpecepegceleaaDoor
