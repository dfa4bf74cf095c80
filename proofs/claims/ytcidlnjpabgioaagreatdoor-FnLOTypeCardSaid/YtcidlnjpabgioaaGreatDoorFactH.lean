/- No function starts a goroutine. -/
import Derived.Test.YtcidlnjpabgioaaGreatDoorRows
import Derived.JoinedOf
import Derived.KernelRfl
import GoSem.ClaimGoes
set_option linter.unusedSimpArgs false
set_option linter.unusedVariables false
namespace Go.Proofs.YtcidlnjpabgioaaGreatDoor
open Go
theorem no_goes : Tryz.checked.prog.funcs.any Func.goes = false := by kernel_rfl
theorem goes_at {P : Program} (h : P.funcs.any Func.goes = false) (f : FuncId) : P.goes f = false := by
  unfold Program.goes
  rw [h, Bool.and_false, Bool.or_false, List.any_eq_false]
  intro g _
  cases hg : P.funcs[g]? with
  | none => simp
  | some fn =>
    have hm : fn ∈ P.funcs := Array.mem_of_getElem? hg
    simpa using (Array.any_eq_false'.1 h) fn hm
theorem goes_not : Rows.fnLOTypeRow.goesBy Tryz.checked.prog = false := by
  unfold OpenClaim.goesBy Program.goesAt Program.goesFrom
  rw [show Rows.fnLOTypeRow.start = .entering from rfl]
  cases Tryz.checked.prog.funcNamed Rows.fnLOTypeRow.func with
  | none => rfl
  | some f => simp [goes_at no_goes f]
end Go.Proofs.YtcidlnjpabgioaaGreatDoor
