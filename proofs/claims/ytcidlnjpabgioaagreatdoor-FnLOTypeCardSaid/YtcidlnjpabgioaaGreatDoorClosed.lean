/- The row's closed facts, joined. -/
import Derived.Test.YtcidlnjpabgioaaGreatDoorRows
import Derived.JoinedOf
import Derived.KernelRfl
import Derived.Test.YtcidlnjpabgioaaGreatDoorFactB
import Derived.Test.YtcidlnjpabgioaaGreatDoorFactC
import Derived.Test.YtcidlnjpabgioaaGreatDoorFactD
import Derived.Test.YtcidlnjpabgioaaGreatDoorFactE
import Derived.Test.YtcidlnjpabgioaaGreatDoorFactF
import Derived.Test.YtcidlnjpabgioaaGreatDoorFactG
set_option linter.unusedSimpArgs false
set_option linter.unusedVariables false
namespace Go.Proofs.YtcidlnjpabgioaaGreatDoor
open Go
theorem closed : joinedFacts Tryz.checked.prog 3 Tryz.f3 Rows.fnLOTypeSpec Rows.fnLOTypeRow = true := by
  unfold joinedFacts
  rw [k_wf, laid_out, maps_rowed, k_tie, k_stops, k_knobs, k_inp, k_unf, k_rec, k_nam, k_pk, k_heard, k_may, k_lift, k_make, k_veil, k_fits]
  kernel_rfl
end Go.Proofs.YtcidlnjpabgioaaGreatDoor
