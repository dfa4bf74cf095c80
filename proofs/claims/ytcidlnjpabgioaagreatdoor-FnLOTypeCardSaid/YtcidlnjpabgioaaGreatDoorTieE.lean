/- What the door's function lays, by its text. -/
import Derived.Test.YtcidlnjpabgioaaGreatDoorTieA
set_option linter.unusedSimpArgs false
set_option linter.unusedVariables false
namespace Go.Proofs.YtcidlnjpabgioaaGreatDoor
open Go
theorem t_named : varsNamedLaterB Tryz.prog 618 listed = true := by
  unfold varsNamedLaterB
  simp only [listed, List.all_cons, List.all_nil, kind_0, kind_1, kind_2, kind_3, kind_4, kind_5, kind_6, kind_7, kind_8]
  kernel_rfl
end Go.Proofs.YtcidlnjpabgioaaGreatDoor
