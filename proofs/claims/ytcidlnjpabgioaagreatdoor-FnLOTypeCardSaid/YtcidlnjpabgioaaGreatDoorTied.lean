/- What the row lists of the variables is tied to the program's text. -/
import Derived.Test.YtcidlnjpabgioaaGreatDoorTieA
import Derived.Test.YtcidlnjpabgioaaGreatDoorTieB
import Derived.Test.YtcidlnjpabgioaaGreatDoorTieC
import Derived.Test.YtcidlnjpabgioaaGreatDoorTieD
import Derived.Test.YtcidlnjpabgioaaGreatDoorTieE
import Derived.Test.YtcidlnjpabgioaaGreatDoorTieF
import Derived.Test.YtcidlnjpabgioaaGreatDoorTieG
import Derived.SevenTiedAt
set_option linter.unusedSimpArgs false
set_option linter.unusedVariables false
namespace Go.Proofs.YtcidlnjpabgioaaGreatDoor
open Go
theorem t_tie : Tryz.prog.laidByTextLater listed kinds9 true :=
  Program.laidByTextLater_of_run 618 400 8 t_word t_other t_root t_kinds9 t_door t_named t_done t_reads t_rows (by kernel_rfl)
theorem t_pin : Tryz.pinned.checked.prog.pinnedFits "unicode/utf8.first" = true := by kernel_rfl
theorem t_unsafe : Tryz.pinned.checked.prog.headLifts.contains "ownunsafe" = false := by kernel_rfl
theorem t_fits : Tryz.pinned.checked.prog.listedFits Rows.fnLOTypeRow.laid = true := by
  unfold Program.listedFits
  rw [t_unsafe]
  kernel_rfl
theorem t_row : Rows.fnLOTypeRow.laidByTextAt .later Tryz.pinned [.data, .pinned, .data, .listed, .data, .sentinel, .sentinel, .data, .data, .data] true :=
  OpenClaim.laidByTextAt_pinned rfl rfl t_tie rfl rfl rfl rfl (fun y hy _e => by
    simp only [Rows.fnLOTypeRow, List.zip_cons_cons, List.zip_nil_right, List.mem_cons, List.mem_nil_iff, or_false] at hy
    rcases hy with rfl | rfl | rfl | rfl | rfl | rfl | rfl | rfl | rfl | rfl
    · cases _e
    · exact ⟨t_pin, by kernel_rfl⟩
    · cases _e
    · cases _e
    · cases _e
    · cases _e
    · cases _e
    · cases _e
    · cases _e
    · cases _e) t_fits
end Go.Proofs.YtcidlnjpabgioaaGreatDoor
