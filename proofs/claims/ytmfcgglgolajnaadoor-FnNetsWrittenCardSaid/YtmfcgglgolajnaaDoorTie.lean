/-
  DERIVED. GIVEN WITH THE SEED: THE PROGRAM's TIES (one call each: nine closed facts by the kernel) AND EACH ROW's TIE, after the 31st guide's Derived/Test/Toyas{Tie, Card}.lean. No idea stands in it: it is a product of the set-up. Laid BY PROGRAM, IN A SANDBOX (cutbox-door.mjs). By AI agents, Wed Nov 11 2026. No macro, syntax, notation, axiom, sorry.
-/
import Derived.Test.YtmfcgglgolajnaaDoorRows
import Derived.LaidByTextLater
import Derived.SevenTiedAt
import Derived.LaidSub
import Derived.LaidOnce
namespace Go.Proofs.YtmfcgglgolajnaaDoor
open Go
set_option maxRecDepth 100000
theorem seatTie1 : Tryd.prog.laidByTextLater [("math/bits.deBruijn32tab", Rows.laid_math_bits_deBruijn32tab), ("math/bits.deBruijn64tab", Rows.laid_math_bits_deBruijn64tab), ("internal/strconv.uint64pow10", Rows.laid_internal_strconv_uint64pow10), ("net/netip.z4", Rows.laid_net_netip_z4), ("net/netip.z6noz", Rows.laid_net_netip_z6noz), ("net.v4InV6Prefix", Rows.laid_net_v4InV6Prefix), ("net/netip.z0", Rows.laid_net_netip_z0)] [.data, .data, .data, .called, .called, .widerDeep, .zero] true :=
  Program.laidByTextLater_by_one 41 8 65 (by kernel_rfl) (by kernel_rfl) (by kernel_rfl) (by kernel_rfl) (by kernel_rfl) (by kernel_rfl) (fun _ _ => by kernel_rfl)
theorem noOwnUnsafe : Tryd.pinned.checked.prog.headLifts.contains "ownunsafe" = false := by kernel_rfl
theorem tie : Tryd.prog.laidByTextLater [("net/netip.z4", Rows.laid_net_netip_z4), ("net/netip.z6noz", Rows.laid_net_netip_z6noz), ("net.v4InV6Prefix", Rows.laid_net_v4InV6Prefix), ("net/netip.z0", Rows.laid_net_netip_z0)] [.called, .called, .widerDeep, .zero] true :=
  Program.laidByTextLater.sub seatTie1 ["net/netip.z4", "net/netip.z6noz", "net.v4InV6Prefix", "net/netip.z0"] (by kernel_rfl) (by kernel_rfl)
theorem fnOneBit_row_tie : Rows.fnOneBitRow.laidByTextAt .later Tryd.pinned [.called, .called, .widerDeep, .zero] true :=
  OpenClaim.laidByTextAt_later rfl rfl tie noOwnUnsafe
theorem fnLinesRead_row_tie : Rows.fnLinesReadRow.laidByTextAt .later Tryd.pinned [.called, .called, .widerDeep, .zero] true :=
  OpenClaim.laidByTextAt_later rfl rfl tie noOwnUnsafe
theorem fnEqualClasses_row_tie : Rows.fnEqualClassesRow.laidByTextAt .later Tryd.pinned [.called, .called, .widerDeep, .zero] true :=
  OpenClaim.laidByTextAt_later rfl rfl tie noOwnUnsafe
theorem fnAsManyStrings_row_tie : Rows.fnAsManyStringsRow.laidByTextAt .later Tryd.pinned [.called, .called, .widerDeep, .zero] true :=
  OpenClaim.laidByTextAt_later rfl rfl tie noOwnUnsafe
theorem fnFormsAlike_row_tie : Rows.fnFormsAlikeRow.laidByTextAt .later Tryd.pinned [.called, .called, .widerDeep, .zero] true :=
  OpenClaim.laidByTextAt_later rfl rfl tie noOwnUnsafe
theorem tie2 : Tryd.prog.laidByTextLater [("math/bits.deBruijn32tab", Rows.laid_math_bits_deBruijn32tab), ("math/bits.deBruijn64tab", Rows.laid_math_bits_deBruijn64tab), ("internal/strconv.uint64pow10", Rows.laid_internal_strconv_uint64pow10), ("net/netip.z4", Rows.laid_net_netip_z4), ("net/netip.z6noz", Rows.laid_net_netip_z6noz), ("net/netip.z0", Rows.laid_net_netip_z0)] [.data, .data, .data, .called, .called, .zero] true :=
  Program.laidByTextLater.sub seatTie1 ["math/bits.deBruijn32tab", "math/bits.deBruijn64tab", "internal/strconv.uint64pow10", "net/netip.z4", "net/netip.z6noz", "net/netip.z0"] (by kernel_rfl) (by kernel_rfl)
theorem fnNetsWritten_row_tie : Rows.fnNetsWrittenRow.laidByTextAt .later Tryd.pinned [.data, .data, .data, .called, .called, .zero] true :=
  OpenClaim.laidByTextAt_later rfl rfl tie2 noOwnUnsafe
theorem fnMasksWritten_row_tie : Rows.fnMasksWrittenRow.laidByTextAt .later Tryd.pinned [.data, .data, .data, .called, .called, .zero] true :=
  OpenClaim.laidByTextAt_later rfl rfl tie2 noOwnUnsafe
theorem tie3 : Tryd.prog.laidByTextLater [("net/netip.z4", Rows.laid_net_netip_z4), ("net/netip.z6noz", Rows.laid_net_netip_z6noz), ("net/netip.z0", Rows.laid_net_netip_z0)] [.called, .called, .zero] true :=
  Program.laidByTextLater.sub seatTie1 ["net/netip.z4", "net/netip.z6noz", "net/netip.z0"] (by kernel_rfl) (by kernel_rfl)
theorem fnDotsCut_row_tie : Rows.fnDotsCutRow.laidByTextAt .later Tryd.pinned [.called, .called, .zero] true :=
  OpenClaim.laidByTextAt_later rfl rfl tie3 noOwnUnsafe
theorem fnOneBitUpto_row_tie : Rows.fnOneBitUptoRow.laidByTextAt .later Tryd.pinned [.called, .called, .widerDeep, .zero] true :=
  OpenClaim.laidByTextAt_later rfl rfl tie noOwnUnsafe
theorem fnLinesReadUpto_row_tie : Rows.fnLinesReadUptoRow.laidByTextAt .later Tryd.pinned [.called, .called, .widerDeep, .zero] true :=
  OpenClaim.laidByTextAt_later rfl rfl tie noOwnUnsafe
theorem fnNetsWrittenUpto_row_tie : Rows.fnNetsWrittenUptoRow.laidByTextAt .later Tryd.pinned [.data, .data, .data, .called, .called, .zero] true :=
  OpenClaim.laidByTextAt_later rfl rfl tie2 noOwnUnsafe
theorem fnEqualClassesUpto_row_tie : Rows.fnEqualClassesUptoRow.laidByTextAt .later Tryd.pinned [.called, .called, .widerDeep, .zero] true :=
  OpenClaim.laidByTextAt_later rfl rfl tie noOwnUnsafe
theorem fnAsManyStringsUpto_row_tie : Rows.fnAsManyStringsUptoRow.laidByTextAt .later Tryd.pinned [.called, .called, .widerDeep, .zero] true :=
  OpenClaim.laidByTextAt_later rfl rfl tie noOwnUnsafe
theorem fnFormsAlikeUpto_row_tie : Rows.fnFormsAlikeUptoRow.laidByTextAt .later Tryd.pinned [.called, .called, .widerDeep, .zero] true :=
  OpenClaim.laidByTextAt_later rfl rfl tie noOwnUnsafe
theorem fnDotsCutUpto_row_tie : Rows.fnDotsCutUptoRow.laidByTextAt .later Tryd.pinned [.called, .called, .zero] true :=
  OpenClaim.laidByTextAt_later rfl rfl tie3 noOwnUnsafe
theorem fnMasksWrittenUpto_row_tie : Rows.fnMasksWrittenUptoRow.laidByTextAt .later Tryd.pinned [.data, .data, .data, .called, .called, .zero] true :=
  OpenClaim.laidByTextAt_later rfl rfl tie2 noOwnUnsafe
end Go.Proofs.YtmfcgglgolajnaaDoor
