/- The walks of leaf and low. -/
import Derived.Test.YtcidlnjpabgioaaGreatDoorB
set_option linter.unusedSimpArgs false
set_option linter.unusedVariables false
namespace Go.Proofs.YtcidlnjpabgioaaGreatDoor
open Go.RowKit
open Pu (Bs)

theorem leafCells_at : ∀ (l : List (Bs × Int)) (i : Nat) (n : Bs) (k : Int), l[i]? = some (n, k) → (leafCells l)[i * 3]? = some (.string (S n)) ∧ (leafCells l)[i * 3 + 1]? = some (.int .i64 k) ∧ (leafCells l)[i * 3 + 2]? = some (.slice none 0 0)
  | [], i, _, _, h => by simp at h
  | (n', k') :: r, 0, n, k, h => by
    simp only [List.getElem?_cons_zero, Option.some.injEq, Prod.mk.injEq] at h
    obtain ⟨rfl, rfl⟩ := h
    exact ⟨rfl, rfl, rfl⟩
  | (n', k') :: r, i + 1, n, k, h => by
    have ih := leafCells_at r i n k (by simpa using h)
    have e : (i + 1) * 3 = i * 3 + 3 := by omega
    rw [e]
    exact ih

/-- A value that reads as a type without others in it. -/
def leafVal (n : Bs) (k : Int) : Value := .agg #[.string (S n), .int .i64 k, .slice none 0 0]
def LeafOut (g : Nat) (w : World) (e : Ending) (w' : World) : Prop := ∃ n k, (n, k) ∈ leafPairs ∧ e = .returned (leafVal n k) ∧ Cod w' g ∧ w.grownBy w' (some g)

theorem grown_trans {a b c : World} {row : Option Nat} (h : a.grownBy b row) (k : b.grownBy c row) : a.grownBy c row :=
  ⟨k.os.trans h.os, k.tape.trans h.tape, k.output.trans h.output, Nat.le_trans h.size k.size, fun i hi hne => (k.block i (Nat.lt_of_lt_of_le hi h.size) hne).trans (h.block i hi hne)⟩
theorem grown_of_below {a w : World} (h : Below a.heap.size a w) (row : Option Nat) : a.grownBy w row := ⟨h.os, h.tape, h.output, h.size, fun i hi _ => h.block i hi⟩
/-- Only what is new from 'a' on has turned, and perhaps one row. -/
theorem grown_below {a b w : World} {row : Option Nat} (h : a.grownBy b row) (k : Below a.heap.size b w) : a.grownBy w row :=
  ⟨k.os.trans h.os, k.tape.trans h.tape, k.output.trans h.output, Nat.le_trans h.size k.size, fun i hi hne => (k.block i hi).trans (h.block i hi hne)⟩

theorem grown_of {a b c : World} {row : Option Nat} (h : Below a.heap.size a b) (k : b.grownBy c row) : a.grownBy c row := grown_trans (grown_of_below h row) k
theorem blk_grown {w w' : World} {b : Nat} {g : Nat} {o : Obj} (h : w.heap[b]? = some o) (hg : w.grownBy w' (some g)) (hne : b ≠ g) : w'.heap[b]? = some o :=
  (hg.block b (by rcases Nat.lt_or_ge b w.heap.size with h' | h'
                  · exact h'
                  · rw [Array.getElem?_eq_none h'] at h; cases h) (fun e => hne (by injection e))).trans h
/-- Three stores into a block of the call's own. -/
theorem below_three {B : Nat} {w : World} {b : Nat} (hb : B ≤ b) (x y z : Value) : Below B w (((w.setCell ⟨b, 0, none⟩ x).setCell ⟨b, 1, none⟩ y).setCell ⟨b, 2, none⟩ z) :=
  (((Below.refl B w).setCell (p := ⟨b, 0, none⟩) hb x).setCell (p := ⟨b, 1, none⟩) hb y).setCell (p := ⟨b, 2, none⟩) hb z
theorem z29 (w : World) : (w.alloc (.cells #[.string ⟨#[]⟩, .int .i64 0, .slice none 0 0] 29)).heap[w.heap.size]? = some (.cells #[.string ⟨#[]⟩, .int .i64 0, .slice none 0 0] 29 (0, 0)) := heap_alloc_new w _

set_option maxHeartbeats 1600000 in
set_option maxRecDepth 100000 in
theorem leaf_any (g : Nat) (w : World) (hC : Cod w g) : Calls Tryz.prog 8 #[.pointer (some ⟨g, 0, none⟩)] w (LeafOut g w) := by
  have hlt := hC.lt
  have hgne : ¬ w.heap.size = g := by omega
  have hgne' : ¬ g = w.heap.size := by omega
  have HC := Lib.hid hC
  clear hC
  go_enter Tryz.func8, Tryz.ntmps8
  go_wp2_with (go_at_call 12; refine (leaves_any _).mono ?_; rintro e w' ⟨rfl, rfl⟩)
  have b1 : Below w.heap.size w ((w.alloc (.cells #[.string ⟨#[]⟩, .int .i64 0, .slice none 0 0] 29)).alloc (.cells (leafCells leafPairs).toArray 29)) := ((Below.refl _ _).alloc (Nat.le_refl _) _).alloc (by simp) _
  refine (byte_any g _ (HC.out.below b1)).mono ?_
  rintro e w3 ⟨r, h0, h1, rfl, hC3, hgr⟩
  have hB : w3.heap[w.heap.size]? = some (.cells #[.string ⟨#[]⟩, .int .i64 0, .slice none 0 0] 29 (0, 0)) := blk_grown ((Below.heap_alloc _ _ _ (by simp)).trans (z29 w)) hgr hgne
  have hL : w3.heap[w.heap.size + 1]? = some (.cells (leafCells leafPairs).toArray 29 (0, 0)) := blk_grown (by have := heap_alloc_new (w.alloc (.cells #[.string ⟨#[]⟩, .int .i64 0, .slice none 0 0] 29)) (.cells (leafCells leafPairs).toArray 29); simpa using this) hgr (by omega)
  obtain ⟨i, hi, hri⟩ : ∃ i : Nat, i < 16 ∧ r % 16 = (i : Int) := ⟨(r % 16).toNat, by omega, by omega⟩
  obtain ⟨⟨n, k⟩, hp⟩ : ∃ p, leafPairs[i]? = some p := ⟨_, List.getElem?_eq_getElem (show i < leafPairs.length from hi)⟩
  obtain ⟨a0, a1, a2⟩ := leafCells_at leafPairs i n k hp
  have l0 : w3.cell? ⟨w.heap.size + 1, i * 3, none⟩ = some (.string (S n)) := by rw [cell_blk hL]; simpa using a0
  have l1 : w3.cell? ⟨w.heap.size + 1, i * 3 + 1, none⟩ = some (.int .i64 k) := by rw [cell_blk hL]; simpa using a1
  have l2 : w3.cell? ⟨w.heap.size + 1, i * 3 + 2, none⟩ = some (.slice none 0 0) := by rw [cell_blk hL]; simpa using a2
  have c0 : w3.cell? ⟨w.heap.size, 0, none⟩ = some (.string ⟨#[]⟩) := by rw [cell_blk hB]; rfl
  have c1 : w3.cell? ⟨w.heap.size, 1, none⟩ = some (.int .i64 0) := by rw [cell_blk hB]; rfl
  have c2 : w3.cell? ⟨w.heap.size, 2, none⟩ = some (.slice none 0 0) := by rw [cell_blk hB]; rfl
  have f0 : w3.frozen? ⟨w.heap.size, 0, none⟩ = false := free_blk hB 0
  have f1 : w3.frozen? ⟨w.heap.size, 1, none⟩ = false := free_blk hB 1
  have f2 : w3.frozen? ⟨w.heap.size, 2, none⟩ = false := free_blk hB 2
  have HB := Lib.hid hB
  have HR := Lib.hid hgr
  have HC3 := Lib.hid hC3
  have HP := Lib.hid hp
  have B1 := Lib.hid b1
  clear hB hL hgr hC3 a0 a1 a2 hp b1
  go_wp2
  refine bodyPost_ret (v := leafVal n k) (by simp [results, Tryz.results8, go_sem, leafVal, c0, c1, c2]) rfl ?_
  have b3 := below_three (B := w.heap.size) (w := w3) (b := w.heap.size) (Nat.le_refl _) (.string (S n)) (.int .i64 k) (.slice none 0 0)
  exact ⟨n, k, List.mem_of_getElem? HP.out, rfl, HC3.out.keep (fun j hj => b3.block j (by omega)), grown_below (grown_of (B1.out) HR.out) b3⟩
end Go.Proofs.YtcidlnjpabgioaaGreatDoor
