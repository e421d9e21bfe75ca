/-
  What every walk imports.
-/
import Derived.Test.YtmfcgglgolajnaaDoorRows
import Derived.Test.YtmfcgglgolajnaaDoorAppend
import Derived.Test.YtmfcgglgolajnaaDoorPlain
import Derived.Deep.QuietTactic
import Derived.BigQuiet
import Derived.WalkLawsBesides
import Derived.WalkSpells
import Derived.Outline
import Derived.KernelRfl
namespace Go.Proofs.YtmfcgglgolajnaaDoor
open Go.RowKit

theorem byte_info : (Tryd.prog.info? 5).map (fun i => (i.zero, i.size, i.bytes)) = some (some (.int .u8 0), 1, 1) := by kernel_rfl

end Go.Proofs.YtmfcgglgolajnaaDoor
