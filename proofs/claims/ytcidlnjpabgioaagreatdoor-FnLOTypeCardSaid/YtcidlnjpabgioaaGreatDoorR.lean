/- What parted hands tree, and the four constructors of columns. -/
import Derived.Test.YtcidlnjpabgioaaGreatDoorN
import Derived.Test.YtcidlnjpabgioaaGreatDoorO
set_option linter.unusedSimpArgs false
set_option linter.unusedVariables false
namespace Go.Proofs.YtcidlnjpabgioaaGreatDoor
open Go.RowKit Go.Shelf
open Pu (Bs)

theorem index_wrap (r : Bs) : ∀ (nm : Bs), nm.all (fun c => c != 40) = true → Lib.indexByte (nm ++ 40 :: r) 40 = (nm.length : Int)
  | [], _ => by simp [Lib.indexByte]
  | c :: nm, h => by
    simp only [List.all_cons, Bool.and_eq_true, bne_iff_ne, ne_eq] at h
    have ih := index_wrap r nm h.2
    simp only [List.cons_append, Lib.indexByte, ih]
    rw [if_neg (by simpa using h.1), if_neg (by simp), List.length_cons]
    omega
theorem index_no : ∀ (nm : Bs), nm.all (fun c => c != 40) = true → Lib.indexByte nm 40 = -1
  | [], _ => rfl
  | c :: nm, h => by
    simp only [List.all_cons, Bool.and_eq_true, bne_iff_ne, ne_eq] at h
    simp only [Lib.indexByte, index_no nm h.2]
    rw [if_neg (by simpa using h.1)]
    rfl
theorem parted_wrap {m : Nat} (nm : Bs) (us : List Bs) (w : World) (hnm : nm.all (fun c => Pu.plain c && decide (c.toNat < 128) && !Lib.isSp c) = true) (hne : us ≠ []) (hf : ∀ u ∈ us, Pu.Fine m u) (hlen : (Pu.wrap nm us).length ≤ 100000) (hg : Glob w) :
    Calls Tryz.prog 13 #[.string (S (Pu.wrap nm us))] w fun e w' => ∃ v, e = .returned (.tuple #[.string (S nm), v]) ∧ w'.ownsRow w.heap.size 9 1 v us.length (us.map strV) ∧ Below w.heap.size w w' := by
  have hall : ∀ c ∈ nm, Pu.plain c = true ∧ c.toNat < 128 := fun c hc => by
    have := List.all_eq_true.1 hnm c hc
    simp only [Bool.and_eq_true, decide_eq_true_eq, Bool.not_eq_true'] at this
    exact this.1
  have h40 : nm.all (fun c => c != 40) = true := List.all_eq_true.2 fun c hc => by
    have := (hall c hc).1
    simp only [Pu.plain, Bool.and_eq_true] at this
    exact this.1.1
  have hL : (Pu.wrap nm us).length = nm.length + (Pu.joinS us).length + 2 := by simp only [Pu.wrap, List.length_append, List.length_cons, List.length_nil]; omega
  refine (parted_core (Pu.wrap nm us) nm nm.length _ w hlen (index_wrap _ nm h40) (by omega) ?_ hg ?_ rfl).mono ?_
  · intro c hc
    simp only [Pu.wrap, List.mem_append, List.mem_cons, List.not_mem_nil, or_false] at hc
    rcases hc with hc | hc | hc | hc
    · exact (hall c hc).2
    · subst hc; decide
    · exact Pu.joinS_ascii (fun u hu => (hf u hu).ascii) c hc
    · subst hc; decide
  · intro h
    show (Pu.wrap nm us)[(Pu.wrap nm us).length - 1] = 41
    have e : Pu.wrap nm us = (nm ++ 40 :: Pu.joinS us) ++ [41] := by simp [Pu.wrap]
    have : (Pu.wrap nm us)[(Pu.wrap nm us).length - 1]? = some 41 := by
      rw [e, List.length_append, List.length_singleton, Nat.add_sub_cancel, List.getElem?_append_right (Nat.le_refl _), Nat.sub_self]
      rfl
    exact (List.getElem?_eq_some_iff.1 this).2
  · rintro e w' ⟨v, rfl, hown, hb⟩
    have hp := Pu.parts nm us hne hf
    rw [hp] at hown
    refine ⟨v, ?_, hown, hb⟩
    rw [show (Pu.wrap nm us).take nm.length = nm by simp [Pu.wrap]]

/-- A new block, and a pointer to it. -/
def Boxed (w : World) (o : Obj) (e : Ending) (w' : World) : Prop := e = .returned (.pointer (some ⟨w.heap.size, 0, none⟩)) ∧ w.alloc o = w'
theorem new_arr (t : TypeId) (x : Value) (w : World) : Calls Tryz.prog 14 #[.iface t x] w (Boxed w (.cells #[.slice none 0 0, .iface t x] 82)) := by
  go_enter Tryz.func14, Tryz.ntmps14
  go_wp2
  go_ret
  exact ⟨rfl, rfl⟩
theorem new_null (t : TypeId) (x : Value) (w : World) : Calls Tryz.prog 15 #[.iface t x] w (Boxed w (.cells #[.slice none 0 0, .iface t x] 85)) := by
  go_enter Tryz.func15, Tryz.ntmps15
  go_wp2
  go_ret
  exact ⟨rfl, rfl⟩
theorem new_low (t : TypeId) (x : Value) (w : World) : Calls Tryz.prog 16 #[.iface t x] w (Boxed w (.cells #[.slice none 0 0, .iface t x, .int .u8 0, .slice none 0 0, .slice none 0 0, .slice none 0 0, .slice none 0 0, .map none, .slice none 0 0] 97)) := by
  go_enter Tryz.func16, Tryz.ntmps16
  go_wp2
  go_ret
  exact ⟨rfl, rfl⟩
theorem new_map (t : TypeId) (x : Value) (t2 : TypeId) (x2 : Value) (w : World) : Calls Tryz.prog 17 #[.iface t x, .iface t2 x2] w (Boxed w (.cells #[.slice none 0 0, .iface t x, .iface t2 x2] 99)) := by
  go_enter Tryz.func17, Tryz.ntmps17
  go_wp2
  go_ret
  exact ⟨rfl, rfl⟩
end Go.Proofs.YtcidlnjpabgioaaGreatDoor
