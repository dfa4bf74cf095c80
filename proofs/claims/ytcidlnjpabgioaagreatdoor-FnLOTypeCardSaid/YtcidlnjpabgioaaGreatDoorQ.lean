/- Columns of strings and of fixed strings: plainCells. -/
import Derived.Test.YtcidlnjpabgioaaGreatDoorK
import Derived.Test.YtcidlnjpabgioaaGreatDoorO
set_option linter.unusedSimpArgs false
set_option linter.unusedVariables false
namespace Go.Proofs.YtcidlnjpabgioaaGreatDoor
open Go.RowKit Go.Shelf
open Pu (Bs)

theorem ty_str (w : World) : Calls Tryz.prog 213 #[.agg #[.slice none 0 0, .slice none 0 0]] w (Gives w Pu.bStr) := by
  go_enter Tryz.func213, Tryz.ntmps213
  go_wp2
  go_ret
  exact ⟨rfl, (Below.refl _ _).alloc (Nat.le_refl _) _⟩
set_option maxRecDepth 100000 in
set_option maxHeartbeats 1600000 in
theorem plain_str (w : World) : Calls Tryz.prog 18 #[.string (S Pu.bStr), .slice none 0 0] w (ColOut Pu.bStr w) := by
  go_enter Tryz.func18, Tryz.ntmps18
  go_wp2
  go_ret
  refine ⟨_, rfl, has_leaf (LT := 109) (PT := 100) (COL := 103) (PF := 213) (v := .agg #[.slice none 0 0, .slice none 0 0]) (by kernel_rfl) Tryz.underlying109 rfl rfl Tryz.isAgg107 (by kernel_rfl) Tryz.underlying100 (fun w' hb => ?_) (enters_of Tryz.func213 (by kernel_rfl) rfl _) ty_str, (Below.refl _ _).alloc (Nat.le_refl _) _⟩
  have hc0 := (hb.cell (p := ⟨w.heap.size, 0, none⟩) (Nat.le_refl _) (by simp)).trans ((cell_blk (heap_alloc_new w (.cells #[.slice none 0 0, .slice none 0 0] 103)) 0).trans rfl)
  have hc1 := (hb.cell (p := ⟨w.heap.size, 1, none⟩) (Nat.le_refl _) (by simp)).trans ((cell_blk (heap_alloc_new w (.cells #[.slice none 0 0, .slice none 0 0] 103)) 1).trans rfl)
  simp [go_sem, hc0, hc1]
theorem one_str44 (w : World) (s : Bs) : ∀ (j : Nat) (u : Bs), [s][j]? = some u → (w.alloc (.cells #[.string (S s)] 9)).cell? ⟨w.heap.size, 0 + j, none⟩ = some (.string (S u)) := fun j u h => by
  have hj : j = 0 := by
    have := (List.getElem?_eq_some_iff.1 h).1
    simpa using this
  subst hj
  obtain rfl : s = u := by simpa using h
  rw [cell_blk (heap_alloc_new w _)]
  rfl

set_option maxRecDepth 100000 in
set_option maxHeartbeats 800000 in
theorem ty_fix5 (w : World) : Calls Tryz.prog 223 #[.agg #[.slice none 0 0, .int .i64 5]] w (Gives w [70, 105, 120, 101, 100, 83, 116, 114, 105, 110, 103, 40, 53, 41]) := by
  go_enter Tryz.func223, Tryz.ntmps223
  go_wp2_with (go_at_call 99; refine (itoa_5 _).mono ?_; rintro e w' ⟨rfl, rfl⟩)
  refine (with_any [70, 105, 120, 101, 100, 83, 116, 114, 105, 110, 103] [[53]] (w.heap.size + 1) 0 1 _ (by have h := one_str44 (w.alloc (.cells #[.slice none 0 0, .int .i64 5] 116)) [53]; simpa using h) (by simp) (by simp) (by simp) (by simp) (by simp [Pu.joinS]) (by decide)).mono ?_
  rintro e w2 ⟨rfl, hb2⟩
  go_wp2
  go_ret
  exact ⟨rfl, (((Below.refl _ _).alloc (Nat.le_refl _) _).alloc (by simp) _).trans (hb2.mono (by simp; omega))⟩
set_option maxRecDepth 100000 in
set_option maxHeartbeats 1600000 in
theorem plain_fix5 (w : World) (b o c : Nat) (hb : b < w.heap.size) (hc : w.cell? ⟨b, o, none⟩ = some (.string (S [53]))) : Calls Tryz.prog 18 #[.string (S [70, 105, 120, 101, 100, 83, 116, 114, 105, 110, 103]), .slice (some ⟨b, o, none⟩) 1 c] w (ColOut [70, 105, 120, 101, 100, 83, 116, 114, 105, 110, 103, 40, 53, 41] w) := by
  have hmf : ∀ (fn : Fn) (first cap : Array Value) (w : World), (Instr.makeFunc fn first cap).run Tryz.prog w = .ok (.func fn first cap) w := fun _ _ _ _ => rfl
  go_enter Tryz.func18, Tryz.ntmps18
  go_wp2_with (go_at_call 23; refine (atoi_5 _).mono ?_; rintro e w1 ⟨rfl, hb1⟩)
  go_ret
  refine ⟨_, rfl, has_leaf (LT := 123) (PT := 114) (COL := 116) (PF := 223) (v := .agg #[.slice none 0 0, .int .i64 5]) (by kernel_rfl) Tryz.underlying123 rfl rfl Tryz.isAgg121 (by kernel_rfl) Tryz.underlying114 (fun w' hb => ?_) (enters_of Tryz.func223 (by kernel_rfl) rfl _) ty_fix5, (hb1.alloc hb1.size _).alloc (by have := hb1.size; simp; omega) _⟩
  have hB : ((w1.alloc (.cells #[.int .i64 5] 3)).alloc (.cells #[.slice none 0 0, .int .i64 5] 116)).heap[w1.heap.size + 1]? = some (.cells #[.slice none 0 0, .int .i64 5] 116 (0, 0)) := new_blk (by simp)
  have hc0 := (hb.cell (p := ⟨w1.heap.size + 1, 0, none⟩) (by have := hb1.size; simp; omega) (by simp)).trans ((cell_blk hB 0).trans rfl)
  have hc1 := (hb.cell (p := ⟨w1.heap.size + 1, 1, none⟩) (by have := hb1.size; simp; omega) (by simp)).trans ((cell_blk hB 1).trans rfl)
  simp [go_sem, hc0, hc1]

set_option maxRecDepth 100000 in
set_option maxHeartbeats 800000 in
theorem ty_fix16 (w : World) : Calls Tryz.prog 223 #[.agg #[.slice none 0 0, .int .i64 16]] w (Gives w [70, 105, 120, 101, 100, 83, 116, 114, 105, 110, 103, 40, 49, 54, 41]) := by
  go_enter Tryz.func223, Tryz.ntmps223
  go_wp2_with (go_at_call 99; refine (itoa_16 _).mono ?_; rintro e w' ⟨rfl, rfl⟩)
  refine (with_any [70, 105, 120, 101, 100, 83, 116, 114, 105, 110, 103] [[49, 54]] (w.heap.size + 1) 0 1 _ (by have h := one_str44 (w.alloc (.cells #[.slice none 0 0, .int .i64 16] 116)) [49, 54]; simpa using h) (by simp) (by simp) (by simp) (by simp) (by simp [Pu.joinS]) (by decide)).mono ?_
  rintro e w2 ⟨rfl, hb2⟩
  go_wp2
  go_ret
  exact ⟨rfl, (((Below.refl _ _).alloc (Nat.le_refl _) _).alloc (by simp) _).trans (hb2.mono (by simp; omega))⟩
set_option maxRecDepth 100000 in
set_option maxHeartbeats 1600000 in
theorem plain_fix16 (w : World) (b o c : Nat) (hb : b < w.heap.size) (hc : w.cell? ⟨b, o, none⟩ = some (.string (S [49, 54]))) : Calls Tryz.prog 18 #[.string (S [70, 105, 120, 101, 100, 83, 116, 114, 105, 110, 103]), .slice (some ⟨b, o, none⟩) 1 c] w (ColOut [70, 105, 120, 101, 100, 83, 116, 114, 105, 110, 103, 40, 49, 54, 41] w) := by
  have hmf : ∀ (fn : Fn) (first cap : Array Value) (w : World), (Instr.makeFunc fn first cap).run Tryz.prog w = .ok (.func fn first cap) w := fun _ _ _ _ => rfl
  go_enter Tryz.func18, Tryz.ntmps18
  go_wp2_with (go_at_call 23; refine (atoi_16 _).mono ?_; rintro e w1 ⟨rfl, hb1⟩)
  go_ret
  refine ⟨_, rfl, has_leaf (LT := 123) (PT := 114) (COL := 116) (PF := 223) (v := .agg #[.slice none 0 0, .int .i64 16]) (by kernel_rfl) Tryz.underlying123 rfl rfl Tryz.isAgg121 (by kernel_rfl) Tryz.underlying114 (fun w' hb => ?_) (enters_of Tryz.func223 (by kernel_rfl) rfl _) ty_fix16, (hb1.alloc hb1.size _).alloc (by have := hb1.size; simp; omega) _⟩
  have hB : ((w1.alloc (.cells #[.int .i64 16] 3)).alloc (.cells #[.slice none 0 0, .int .i64 16] 116)).heap[w1.heap.size + 1]? = some (.cells #[.slice none 0 0, .int .i64 16] 116 (0, 0)) := new_blk (by simp)
  have hc0 := (hb.cell (p := ⟨w1.heap.size + 1, 0, none⟩) (by have := hb1.size; simp; omega) (by simp)).trans ((cell_blk hB 0).trans rfl)
  have hc1 := (hb.cell (p := ⟨w1.heap.size + 1, 1, none⟩) (by have := hb1.size; simp; omega) (by simp)).trans ((cell_blk hB 1).trans rfl)
  simp [go_sem, hc0, hc1]

end Go.Proofs.YtcidlnjpabgioaaGreatDoor
