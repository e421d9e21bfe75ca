/-
  DERIVED. GIVEN WITH THE SEED: THE PROGRAM's TIES (one call each: nine closed facts by the kernel) AND EACH ROW's TIE, after the 31st guide's Derived/Test/Toyas{Tie, Card}.lean. No idea stands in it: it is a product of the set-up. Laid BY PROGRAM, IN A SANDBOX (cutbox-door.mjs). By AI agents, Wed Nov 11 2026. No macro, syntax, notation, axiom, sorry.
-/
import Derived.Test.YtbpecepegceleaaDoorRows
import Derived.LaidByTextLater
import Derived.SevenTiedAt
import Derived.LaidSub
import Derived.LaidOnce
namespace Go.Proofs.YtbpecepegceleaaDoor
open Go
set_option maxRecDepth 100000
theorem seatTie1 : Tryd.prog.laidByTextLater [("net.v4InV6Prefix", Rows.laid_net_v4InV6Prefix)] [.widerDeep] true :=
  Program.laidByTextLater_by_one 14 8 13 (by kernel_rfl) (by kernel_rfl) (by kernel_rfl) (by kernel_rfl) (by kernel_rfl) (by kernel_rfl) (fun _ _ => by kernel_rfl)
theorem noOwnUnsafe : Tryd.pinned.checked.prog.headLifts.contains "ownunsafe" = false := by kernel_rfl
theorem tie : Tryd.prog.laidByTextLater [("net.v4InV6Prefix", Rows.laid_net_v4InV6Prefix)] [.widerDeep] true :=
  Program.laidByTextLater.sub seatTie1 ["net.v4InV6Prefix"] (by kernel_rfl) (by kernel_rfl)
theorem fnEqualForms_row_tie : Rows.fnEqualFormsRow.laidByTextAt .later Tryd.pinned [.widerDeep] true :=
  OpenClaim.laidByTextAt_later rfl rfl tie noOwnUnsafe
theorem fnFormsInARow_row_tie : Rows.fnFormsInARowRow.laidByTextAt .later Tryd.pinned [.widerDeep] true :=
  OpenClaim.laidByTextAt_later rfl rfl tie noOwnUnsafe
theorem fnEqualFormsUpto_row_tie : Rows.fnEqualFormsUptoRow.laidByTextAt .later Tryd.pinned [.widerDeep] true :=
  OpenClaim.laidByTextAt_later rfl rfl tie noOwnUnsafe
theorem fnFormsInARowUpto_row_tie : Rows.fnFormsInARowUptoRow.laidByTextAt .later Tryd.pinned [.widerDeep] true :=
  OpenClaim.laidByTextAt_later rfl rfl tie noOwnUnsafe
end Go.Proofs.YtbpecepegceleaaDoor
