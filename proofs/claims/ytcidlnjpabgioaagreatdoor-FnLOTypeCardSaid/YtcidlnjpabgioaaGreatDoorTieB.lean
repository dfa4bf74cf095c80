/- The word on the door. -/
import Derived.Test.YtcidlnjpabgioaaGreatDoorRows
import Derived.LaidByTextLater
set_option linter.unusedSimpArgs false
set_option linter.unusedVariables false
namespace Go.Proofs.YtcidlnjpabgioaaGreatDoor
open Go
theorem t_word : Tryz.prog.worded (varsWordLater true) = true := by kernel_rfl
end Go.Proofs.YtcidlnjpabgioaaGreatDoor
