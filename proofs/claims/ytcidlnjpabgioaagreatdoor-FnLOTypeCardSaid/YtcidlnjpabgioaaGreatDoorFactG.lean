/- The row's smaller closed facts. -/
import Derived.Test.YtcidlnjpabgioaaGreatDoorRows
import Derived.JoinedOf
import Derived.KernelRfl
set_option linter.unusedSimpArgs false
set_option linter.unusedVariables false
namespace Go.Proofs.YtcidlnjpabgioaaGreatDoor
open Go
theorem k_wf : Rows.fnLOTypeRow.wf (OpenSpec.ofChange Rows.fnLOTypeSpec) = true := by kernel_rfl
theorem k_tie : namedTie Tryz.checked.prog Rows.fnLOTypeRow.named Rows.fnLOTypeSpec.vars = true := by kernel_rfl
theorem k_pk : (Rows.fnLOTypeRow.plainKeys == Tryz.checked.prog.plainKeys) = true := by kernel_rfl
theorem k_lift : (Rows.fnLOTypeRow.lifted == Tryz.checked.prog.liftsFinal) = true := by kernel_rfl
theorem k_make : (Tryz.checked.prog.make == some Rows.fnLOTypeRow.make) = true := by kernel_rfl
theorem k_veil : (Rows.fnLOTypeRow.veiled == (Tryz.f3.params.toList ++ Rows.fnLOTypeSpec.plain.varTypes Tryz.checked.prog ++ Tryz.f3.resultTypes.toList).any (Tryz.checked.prog.veiledRec ·)) = true := by kernel_rfl
theorem k_fits : Rows.fnLOTypeRow.veiledFits Tryz.checked.prog Tryz.f3.params.toList (Tryz.f3.params.toList ++ Rows.fnLOTypeSpec.plain.varTypes Tryz.checked.prog ++ Tryz.f3.resultTypes.toList) = true := by kernel_rfl
end Go.Proofs.YtcidlnjpabgioaaGreatDoor
