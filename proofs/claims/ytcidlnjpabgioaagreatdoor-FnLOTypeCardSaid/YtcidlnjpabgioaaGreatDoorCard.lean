/- The card of the law FnLOType: whatever code it is given, the law returns true (a column made by a type's text has that text for its type), at every start at which the listed package-level variables are as the program's text lays them; and that they are so is tied to the program's text. -/
import Derived.Test.YtcidlnjpabgioaaGreatDoorLift
import Derived.Test.YtcidlnjpabgioaaGreatDoorFactA
import Derived.Test.YtcidlnjpabgioaaGreatDoorFactH
import Derived.Test.YtcidlnjpabgioaaGreatDoorTied
import Derived.Test.YtcidlnjpabgioaaGreatDoorCards
import Derived.SevenTiedAt
set_option linter.unusedSimpArgs false
set_option linter.unusedVariables false
namespace Go.Proofs.YtcidlnjpabgioaaGreatDoor
open Go

theorem c_goes : Rows.fnLOTypeRow.goesBy Tryz.pinned.checked.prog = false := goes_not
theorem c_text : Rows.fnLOTypeRow.wfByText (OpenSpec.ofChange Rows.fnLOTypeSpec) = true := by kernel_rfl
theorem c_main : Tryz.pinned.checked.prog.mainIs = some (true, ("bc98cd5ebb9a6c90917bbdf6e7dd539bdef507e5d30665dbe80a6c9dfb5e33d0" : String).toList) := by kernel_rfl
theorem c_looks : Tryz.pinned.checked.prog.looks [] = true := by kernel_rfl
theorem c_stand : Tryz.pinned.checked.prog.wantsStandIn 22 = false := by kernel_rfl
theorem c_named : Tryz.pinned.checked.prog.funcNamed Rows.fnLOTypeRow.func = some 3 := named3
theorem c_func : Tryz.pinned.checked.prog.funcs[3]? = some Tryz.f3 := Tryz.func3

theorem fnLOType_card : Rows.FnLOTypeCardSaid :=
  Claim7.holds_tied_plain_at .later [] [.data, .pinned, .data, .listed, .data, .sentinel, .sentinel, .data, .data, .data] true (true, "bc98cd5ebb9a6c90917bbdf6e7dd539bdef507e5d30665dbe80a6c9dfb5e33d0") true fnLOType_holds (fun _ h => by cases h) c_text (fun _ h => by cases h) t_row rfl ⟨rfl, rfl⟩ c_main rfl
    (fun f fn hf hfn => by
      obtain rfl : f = 3 := (Option.some.inj (c_named.symm.trans hf)).symm
      obtain rfl : fn = Tryz.f3 := (Option.some.inj (c_func.symm.trans hfn)).symm
      exact ⟨c_looks.symm, fun j t ht => by
        rw [Tryz.params3] at ht
        have h22 : t = 22 := by
          rcases j with _ | j
          · simpa using ht.symm
          · simp at ht
        subst h22
        exact c_stand⟩)
    c_goes.symm
#print axioms fnLOType_card
end Go.Proofs.YtcidlnjpabgioaaGreatDoor
