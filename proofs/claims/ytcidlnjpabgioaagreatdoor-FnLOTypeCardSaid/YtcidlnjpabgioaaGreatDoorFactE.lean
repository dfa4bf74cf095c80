/- Every stop is heard. -/
import Derived.Test.YtcidlnjpabgioaaGreatDoorRows
import Derived.JoinedOf
import Derived.KernelRfl
set_option linter.unusedSimpArgs false
set_option linter.unusedVariables false
namespace Go.Proofs.YtcidlnjpabgioaaGreatDoor
open Go
theorem k_heard : Tryz.checked.prog.stopsHeard = true := by kernel_rfl
end Go.Proofs.YtcidlnjpabgioaaGreatDoor
