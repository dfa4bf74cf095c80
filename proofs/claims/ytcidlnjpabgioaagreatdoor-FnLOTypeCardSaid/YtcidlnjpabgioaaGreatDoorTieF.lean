/- The door's run ends; what it leaves reads as listed. -/
import Derived.Test.YtcidlnjpabgioaaGreatDoorTieA
set_option linter.unusedSimpArgs false
set_option linter.unusedVariables false
namespace Go.Proofs.YtcidlnjpabgioaaGreatDoor
open Go
theorem t_done : ∀ os tape, varsDone Tryz.prog 400 618 os tape = true := fun _ _ => by kernel_rfl
theorem t_reads : ∀ os tape, (DataW.laidRun Tryz.prog (varsWorld Tryz.prog 400 618 os tape).memory 8 (listed.map (·.1))).map (·.1) = some listed := fun _ _ => by kernel_rfl
end Go.Proofs.YtcidlnjpabgioaaGreatDoor
