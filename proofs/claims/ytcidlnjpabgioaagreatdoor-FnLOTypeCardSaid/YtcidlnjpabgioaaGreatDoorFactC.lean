/- Nothing is stopped; what is run in place. -/
import Derived.Test.YtcidlnjpabgioaaGreatDoorRows
import Derived.JoinedOf
import Derived.KernelRfl
set_option linter.unusedSimpArgs false
set_option linter.unusedVariables false
namespace Go.Proofs.YtcidlnjpabgioaaGreatDoor
open Go
theorem k_stops : (Tryz.checked.prog.stops == []) = true := by kernel_rfl
theorem k_knobs : (Tryz.checked.prog.stopKnobs == []) = true := by kernel_rfl
theorem k_inp : (Rows.fnLOTypeRow.inPlace == Tryz.checked.prog.inPlace 3) = true := by kernel_rfl
end Go.Proofs.YtcidlnjpabgioaaGreatDoor
