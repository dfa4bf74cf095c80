/- No place is met twice, and each row is as it may be. -/
import Derived.Test.YtcidlnjpabgioaaGreatDoorTieA
set_option linter.unusedSimpArgs false
set_option linter.unusedVariables false
namespace Go.Proofs.YtcidlnjpabgioaaGreatDoor
open Go
theorem t_rows : ∀ os tape, (DataW.laidRun Tryz.prog (varsWorld Tryz.prog 400 618 os tape).memory 8 (listed.map (·.1))).map (fun x => decide x.2.Nodup && laidRowsB Tryz.prog (varsWorld Tryz.prog 400 618 os tape).memory x.2) = some true := fun _ _ => by kernel_rfl
end Go.Proofs.YtcidlnjpabgioaaGreatDoor
