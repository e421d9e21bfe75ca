/-
  DERIVED. GIVEN WITH THE SEED: THE CARDS: each row of YtknajppjgdhbfaaDoorRows.lean that lists a variable, with what it lists TIED to the program's text (the seventh form; the later family's looks); each row that meets fmt, with fmt's text TOLD by the authors' own Lean function (tested against real Go, not proved from fmt's source: count such statements apart). THE CARD IS WHAT COUNTS. Prove the row's statement (the work); the ties are given (YtknajppjgdhbfaaDoorTie.lean); close each card by the builder's one call (the guide's Derived/Test/ToyasCard.lean, 'card_holds'). Laid BY PROGRAM, IN A SANDBOX (cutbox-door.mjs). By AI agents, Wed Nov 11 2026. No macro, syntax, notation, axiom, sorry.
-/
import Derived.Test.YtknajppjgdhbfaaDoorRows
import GoSem.ClaimSeven
namespace Go.Proofs.YtknajppjgdhbfaaDoor
namespace Rows

/-- THE TIED CARD OF 'laws.FnSharedBits'. -/
def fnSharedBitsCard : Claim7 := { stood := { row := fnSharedBitsRow, standIns := [], harness := (true, "34784b0245c2087520106acc24da1628e5c70dd4d058577919dba60bb5d0fd77"), looks := false }, kinds := [], alts := [], laidByText := true, laidKinds := [.widerDeep], laidTests := true, laidLooks := .later }
def FnSharedBitsCardSaid : Prop := Claim7.holds Tryd.pinned (.plain (OpenSpec.ofChange fnSharedBitsSpec)) fnSharedBitsCard

/-- THE TIED CARD OF 'laws.FnMasksAnyOrder'. -/
def fnMasksAnyOrderCard : Claim7 := { stood := { row := fnMasksAnyOrderRow, standIns := [], harness := (true, "34784b0245c2087520106acc24da1628e5c70dd4d058577919dba60bb5d0fd77"), looks := false }, kinds := [], alts := [], laidByText := true, laidKinds := [.widerDeep], laidTests := true, laidLooks := .later }
def FnMasksAnyOrderCardSaid : Prop := Claim7.holds Tryd.pinned (.plain (OpenSpec.ofChange fnMasksAnyOrderSpec)) fnMasksAnyOrderCard

/-- THE TIED CARD OF 'laws.FnMasksSorted'. -/
def fnMasksSortedCard : Claim7 := { stood := { row := fnMasksSortedRow, standIns := [], harness := (true, "34784b0245c2087520106acc24da1628e5c70dd4d058577919dba60bb5d0fd77"), looks := false }, kinds := [], alts := [], laidByText := true, laidKinds := [.widerDeep], laidTests := true, laidLooks := .later }
def FnMasksSortedCardSaid : Prop := Claim7.holds Tryd.pinned (.plain (OpenSpec.ofChange fnMasksSortedSpec)) fnMasksSortedCard

/-- THE SECOND FORM's CARD OF 'laws.FnSharedBits'. -/
def fnSharedBitsUptoCard : Claim7 := { stood := { row := fnSharedBitsUptoRow, standIns := [], harness := (true, "34784b0245c2087520106acc24da1628e5c70dd4d058577919dba60bb5d0fd77"), looks := false }, kinds := [], alts := [], laidByText := true, laidKinds := [.widerDeep], laidTests := true, laidLooks := .later }
def FnSharedBitsUptoCardSaid : Prop := Claim7.holds Tryd.pinned (.plain (OpenSpec.upto fnSharedBitsSpec)) fnSharedBitsUptoCard

/-- THE SECOND FORM's CARD OF 'laws.FnMasksAnyOrder'. -/
def fnMasksAnyOrderUptoCard : Claim7 := { stood := { row := fnMasksAnyOrderUptoRow, standIns := [], harness := (true, "34784b0245c2087520106acc24da1628e5c70dd4d058577919dba60bb5d0fd77"), looks := false }, kinds := [], alts := [], laidByText := true, laidKinds := [.widerDeep], laidTests := true, laidLooks := .later }
def FnMasksAnyOrderUptoCardSaid : Prop := Claim7.holds Tryd.pinned (.plain (OpenSpec.upto fnMasksAnyOrderSpec)) fnMasksAnyOrderUptoCard

/-- THE SECOND FORM's CARD OF 'laws.FnMasksSorted'. -/
def fnMasksSortedUptoCard : Claim7 := { stood := { row := fnMasksSortedUptoRow, standIns := [], harness := (true, "34784b0245c2087520106acc24da1628e5c70dd4d058577919dba60bb5d0fd77"), looks := false }, kinds := [], alts := [], laidByText := true, laidKinds := [.widerDeep], laidTests := true, laidLooks := .later }
def FnMasksSortedUptoCardSaid : Prop := Claim7.holds Tryd.pinned (.plain (OpenSpec.upto fnMasksSortedSpec)) fnMasksSortedUptoCard
end Rows
end Go.Proofs.YtknajppjgdhbfaaDoor
