/- The other word isn't there. -/
import Derived.Test.YtcidlnjpabgioaaGreatDoorRows
import Derived.LaidByTextLater
set_option linter.unusedSimpArgs false
set_option linter.unusedVariables false
namespace Go.Proofs.YtcidlnjpabgioaaGreatDoor
open Go
theorem t_other : Tryz.prog.worded (varsWordLater false) = false := by kernel_rfl
end Go.Proofs.YtcidlnjpabgioaaGreatDoor
