/- The law's function is found by its name. -/
import Derived.Test.YtcidlnjpabgioaaGreatDoorRows
import Derived.JoinedOf
import Derived.KernelRfl
set_option linter.unusedSimpArgs false
set_option linter.unusedVariables false
namespace Go.Proofs.YtcidlnjpabgioaaGreatDoor
open Go
theorem named3 : Tryz.checked.prog.funcNamed "given.example/pub-bradawl/laws.FnLOType" = some 3 := by kernel_rfl
end Go.Proofs.YtcidlnjpabgioaaGreatDoor
