/-
  What the row's list gives: the table of the powers of ten.
-/
import Derived.Test.YtmfcgglgolajnaaDoorLaidG
import Derived.Test.YtmfcgglgolajnaaDoorItoa
namespace Go.Proofs.YtmfcgglgolajnaaDoor
open Go.ChangeShapes Go.WideShapes Go.ChangeAt Go.RowKit Go.Deep
set_option linter.unusedVariables false

theorem pow10G {W : World} {laid : List (String × DataW Unit)} (h : laidMet Tryd.prog laid W) (m : ("internal/strconv.uint64pow10", Rows.laid_internal_strconv_uint64pow10) ∈ laid) : Pow10 W := by
  obtain ⟨ps, hlv, hnd, hpl⟩ := h
  obtain ⟨g, t, cs, fuel, p, hg, ht, hv, hd, hps⟩ := laid_mem hlv m
  obtain rfl := Option.some.inj ((show Tryd.prog.globalNamed "internal/strconv.uint64pow10" = some 5 by kernel_rfl).symm.trans hg)
  obtain rfl := Option.some.inj ((show (Tryd.prog.globals[5]?).map (·.type) = some 126 by kernel_rfl).symm.trans ht)
  rw [show (Rows.laid_internal_strconv_uint64pow10 : DataW Unit) = Lib.tabData .u64 Lib.pow10Tab from by kernel_rfl] at hd
  unfold Pow10 Lib.TabIs
  rw [hv, ← Lib.cells_of_tab Tryd.underlying126 Tryd.underlying82 (by kernel_rfl) (by kernel_rfl) hd]
end Go.Proofs.YtmfcgglgolajnaaDoor
