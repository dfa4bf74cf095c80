/- The door's function, and the word on the root. -/
import Derived.Test.YtcidlnjpabgioaaGreatDoorRows
import Derived.LaidByTextLater
set_option linter.unusedSimpArgs false
set_option linter.unusedVariables false
namespace Go.Proofs.YtcidlnjpabgioaaGreatDoor
open Go
theorem t_root : Tryz.prog.worded rootWordLater = true := by kernel_rfl
theorem t_door : Tryz.prog.funcNamed "gosem.cut.vars" = some 618 := by kernel_rfl
end Go.Proofs.YtcidlnjpabgioaaGreatDoor
