/- Words of this claim: strings by their bytes; a value that says its type; a value that reads as a type's text. -/
import Derived.WalkKit
import Derived.WalkLawsBesides
import Derived.WalkSpells
import Derived.Below
import Derived.Handy
import Derived.Lib.Strings
import Derived.Lib.LaidTab
import Derived.Lib.Hide
import Derived.Test.YtcidlnjpabgioaaGreatDoorPure
set_option linter.unusedSimpArgs false
set_option linter.unusedVariables false
namespace Go.Proofs.YtcidlnjpabgioaaGreatDoor
open Go.RowKit
open Pu (Bs)

/-- A string by its bytes. -/
abbrev S (l : Bs) : ByteArray := ⟨l.toArray⟩
theorem S_size (l : Bs) : (S l).size = l.length := by simp [ByteArray.size]
theorem S_list (l : Bs) : (S l).toList = l := by rw [Lib.toList_data]
theorem S_append (a b : Bs) : S a ++ S b = S (a ++ b) := by
  have : (S a ++ S b).data = (S (a ++ b)).data := by
    rw [ByteArray.data_append]; simp
  cases h : S a ++ S b
  rw [h] at this
  simp at this
  rw [this]
theorem ret_str {a b : Bs} (h : a = b) : Ending.returned (.string (S a)) = .returned (.string (S b)) := by rw [h]

section
variable {P : Program}

/-- What a call leaves that only makes memory and returns a string. -/
def Gives (w : World) (s : Bs) (e : Ending) (w' : World) : Prop := e = .returned (.string (S s)) ∧ Below w.heap.size w w'

/-- An interface value whose method Type says this text, now and behind whatever only makes memory. -/
def Says (P : Program) (d : Nat) (w : World) (v : Value) (s : Bs) : Prop :=
  ∃ t x, v = .iface t x ∧ ∀ w', Below w.heap.size w w' → ∃ f r, (∀ n, (method (n + d) t x "Type").run P w' = .ok (f, r) w') ∧ (callFunc f #[r]).run P w' = .ok (.enter f #[r]) w' ∧
    Calls P f #[r] w' (Gives w' s)

theorem Says.later {d : Nat} {w w1 : World} {v : Value} {s : Bs} (h : Says P d w v s) (hb : Below w.heap.size w w1) : Says P d w1 v s := by
  obtain ⟨t, x, rfl, h⟩ := h
  exact ⟨t, x, rfl, fun w' hw => h w' (hb.trans (hw.mono hb.size))⟩
theorem Says.nonnil {d : Nat} {w : World} {v : Value} {s : Bs} (h : Says P d w v s) : ∃ t x, v = .iface t x := by
  obtain ⟨t, x, rfl, _⟩ := h
  exact ⟨t, x, rfl⟩
theorem Says.call {d : Nat} {w : World} {v : Value} {s : Bs} (h : Says P d w v s) (hd : d ≤ 100) : ∃ f r, (callMethod v "Type" #[]).run P w = .ok (.enter f #[r]) w ∧ Calls P f #[r] w (Gives w s) := by
  obtain ⟨t, x, rfl, h⟩ := h
  obtain ⟨f, r, hm, hf, hc⟩ := h w (Below.refl _ _)
  refine ⟨f, r, ?_, hc⟩
  have hm' := hm (P.types.size + (100 - d))
  have e : P.types.size + (100 - d) + d = P.types.size + Made.depth := by show _ = P.types.size + 100; omega
  rw [e] at hm'
  simp only [callMethod, Sem.run_bind, run_program, Result.andThen_ok, hm']
  simpa using hf

/-- A call through an interface value. -/
theorem wp_invoke {o : Oper} {a : Act} {K : Act → World → Prop} {Q : Exit → Act → World → Prop} {w : World} (recv : Operand) (name : String)
    (ho : o.op = .call { callee := .invoke recv name, args := #[], argTypes := #[] }) (v : Value) (hv : a.eval recv = v) (f : FuncId) (r : Value)
    (hm : (callMethod v name #[]).run P w = .ok (.enter f #[r]) w) (R : Ending → World → Prop) (hc : Calls P f #[r] w R)
    (hK : ∀ e w', R e w' → ∃ u, e = .returned u ∧ K (a.put o.dst u) w') : o.wp P a w K Q := by
  unfold Oper.wp execOp
  simp only [ho, resolve, Sem.run_bind, Sem.run_pure, Result.andThen_ok, invoke, hv, List.map_toArray, List.map_nil]
  simp [hm, Oper.upon_enter]
  exact hc.mono fun e w' h => by obtain ⟨u, rfl, hk⟩ := hK e w' h; exact hk
theorem wpList_invoke {ops : Array Oper} {rest : List Oper} {o : Oper} {a : Act} {Q : Exit → Act → World → Prop} {w : World} (hgd : o.guard = none) (recv : Operand) (name : String)
    (ho : o.op = .call { callee := .invoke recv name, args := #[], argTypes := #[] }) (v : Value) (hv : a.eval recv = v) (f : FuncId) (r : Value)
    (hm : (callMethod v name #[]).run P w = .ok (.enter f #[r]) w) (R : Ending → World → Prop) (hc : Calls P f #[r] w R)
    (hK : ∀ e w', R e w' → ∃ u, e = .returned u ∧ wpList P ops Q rest (a.put o.dst u) w') : wpList P ops Q (o :: rest) a w :=
  wpList_plain hgd fun _ hK' => wp_invoke recv name ho v hv f r hm R hc fun e w' h => by obtain ⟨u, he, hk⟩ := hK e w' h; exact ⟨u, he, hK' _ _ hk⟩

/-- A call of Type on a value that says its type. -/
theorem wpList_type {ops : Array Oper} {rest : List Oper} {o : Oper} {a : Act} {Q : Exit → Act → World → Prop} {w : World} (hgd : o.guard = none) (recv : Operand)
    (ho : o.op = .call { callee := .invoke recv "Type", args := #[], argTypes := #[] }) (v : Value) (hv : a.eval recv = v) (s : Bs) {d : Nat} (hd : d ≤ 100) (hs : Says P d w v s)
    (hK : ∀ w', Below w.heap.size w w' → wpList P ops Q rest (a.put o.dst (.string (S s))) w') : wpList P ops Q (o :: rest) a w := by
  obtain ⟨f, r, hm, hc⟩ := hs.call hd
  exact wpList_invoke hgd recv "Type" ho v hv f r hm _ hc fun e w' h => ⟨_, h.1, hK w' h.2⟩
/-- The same as one step of a region that draws its order. -/
theorem step_type {ops : Array Oper} {o : Oper} {a : Act} {K : Act → World → Prop} {Q : Exit → Act → World → Prop} {E : Prop} {w : World} (hgd : o.guard = none) (recv : Operand)
    (ho : o.op = .call { callee := .invoke recv "Type", args := #[], argTypes := #[] }) (v : Value) (hv : a.eval recv = v) (s : Bs) {d : Nat} (hd : d ≤ 100) (hs : Says P d w v s)
    (hK : ∀ w', Below w.heap.size w w' → K (a.put o.dst (.string (S s))) w') : if Region.wanted o (yielded ops a.tmps) = true then Oper.wp P o a w K Q else E := by
  have hw : Region.wanted o (yielded ops a.tmps) = true := by simp [Region.wanted, hgd]
  rw [if_pos hw]
  obtain ⟨f, r, hm, hc⟩ := hs.call hd
  exact wp_invoke recv "Type" ho v hv f r hm _ hc fun e w' h => ⟨_, h.1, hK w' h.2⟩
end
end Go.Proofs.YtcidlnjpabgioaaGreatDoor
