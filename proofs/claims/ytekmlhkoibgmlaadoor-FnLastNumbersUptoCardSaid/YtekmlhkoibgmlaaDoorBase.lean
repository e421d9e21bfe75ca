/-
  What every walk imports.
-/
import Derived.Test.YtekmlhkoibgmlaaDoorRows
import Derived.Test.YtekmlhkoibgmlaaDoorAppend
import Derived.Test.YtekmlhkoibgmlaaDoorPlain
import Derived.Deep.QuietTactic
import Derived.BigQuiet
import Derived.WalkLawsBesides
import Derived.WalkSpells
import Derived.Outline
import Derived.KernelRfl
namespace Go.Proofs.YtekmlhkoibgmlaaDoor
open Go.RowKit

theorem byte_info : (Tryd.prog.info? 5).map (fun i => (i.zero, i.size, i.bytes)) = some (some (.int .u8 0), 1, 1) := by kernel_rfl

end Go.Proofs.YtekmlhkoibgmlaaDoor
