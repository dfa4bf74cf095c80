/- What the function comes to. -/
import Derived.Test.YtcidlnjpabgioaaGreatDoorRows
import Derived.JoinedOf
import Derived.KernelRfl
set_option linter.unusedSimpArgs false
set_option linter.unusedVariables false
namespace Go.Proofs.YtcidlnjpabgioaaGreatDoor
open Go
theorem k_unf : (Rows.fnLOTypeRow.unfollowed == Tryz.checked.prog.unfollowed 3) = true := by kernel_rfl
theorem k_rec : (Rows.fnLOTypeRow.recurses == Tryz.checked.prog.recurses 3) = true := by kernel_rfl
theorem k_nam : (Rows.fnLOTypeRow.named == Tryz.checked.prog.varsNamed 3) = true := by kernel_rfl
end Go.Proofs.YtcidlnjpabgioaaGreatDoor
