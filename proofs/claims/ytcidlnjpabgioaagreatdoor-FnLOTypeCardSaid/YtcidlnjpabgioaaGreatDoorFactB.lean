/- The table of types is laid out. -/
import Derived.Test.YtcidlnjpabgioaaGreatDoorRows
import Derived.JoinedOf
import Derived.KernelRfl
import Derived.ClosedOfChecked
set_option linter.unusedSimpArgs false
set_option linter.unusedVariables false
namespace Go.Proofs.YtcidlnjpabgioaaGreatDoor
open Go
theorem fact_rest : (Tryz.checked.prog.globals.all (fun g => decide (g.type < Tryz.checked.prog.types.size)) && Tryz.checked.prog.funcs.all (fun f => f.params.all fun t => decide (t < Tryz.checked.prog.types.size))) = true := by kernel_rfl
theorem all_spec : ClosedOfChecked.AllSpec Tryz.checked.prog := ClosedOfChecked.allSpec_of Tryz.checked.wellFormed (by kernel_rfl)
theorem laid_out : laidOutB Tryz.checked.prog = true := ClosedOfChecked.laidOutB_of all_spec fact_rest
theorem maps_rowed : mapsRowed Tryz.checked.prog = true := ClosedOfChecked.mapsRowed_of all_spec
end Go.Proofs.YtcidlnjpabgioaaGreatDoor
