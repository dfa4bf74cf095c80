/- Columns of numbers: plainCells at each of their names. -/
import Derived.Test.YtcidlnjpabgioaaGreatDoorK
import Derived.Test.YtcidlnjpabgioaaGreatDoorO
set_option linter.unusedSimpArgs false
set_option linter.unusedVariables false
namespace Go.Proofs.YtcidlnjpabgioaaGreatDoor
open Go.RowKit Go.Shelf
open Pu (Bs)

theorem ty_1 (w : World) : Calls Tryz.prog 232 #[.slice none 0 0] w (Gives w [73, 110, 116, 56]) := by
  go_enter Tryz.func232, Tryz.ntmps232
  go_wp2
  go_ret
  exact ⟨rfl, Below.refl _ _⟩
set_option maxRecDepth 100000 in
set_option maxHeartbeats 1600000 in
theorem num_1 (w : World) (hg : Glob w) : Calls Tryz.prog 18 #[.string (S [73, 110, 116, 56]), .slice none 0 0] w (ColOut [73, 110, 116, 56] w) := by
  obtain ⟨kb, ko, cap, h0, hk, hz, hn⟩ := hg.names
  have HN := Lib.hid hn
  clear hn hg
  go_enter Tryz.func18, Tryz.ntmps18
  go_wp2
  go_loopw [7] (fun x wr => ∃ k : Nat, 1 ≤ k ∧ k ≤ 1 ∧ x = .int .i64 (k : Int) ∧ w = wr) (fun x _ => 1 - (intOf x).toNat)
  case atStart => exact ⟨1, by omega, by omega, rfl, rfl⟩
  case round =>
    obtain ⟨k, h1, h2, rfl, rfl⟩ := hrel
    obtain ⟨n, hkn, hcn⟩ := kind_at (k := k) (by omega) HN.out
    by_cases hlt : k < 1
    · exact absurd h1 (by omega)
    · obtain rfl : k = 1 := by omega
      obtain rfl : n = [73, 110, 116, 56] := Option.some.inj (hkn.symm.trans rfl)
      clear hkn
      go_wp2
      go_ret
      have hb2 : Below w.heap.size w ((w.alloc (.cells #[.slice none 0 0] 134)).alloc (.cells #[.iface 132 (.pointer (some ⟨w.heap.size, 0, none⟩)), .func (Fn.func 34) #[] #[], .func (Fn.func 35) #[] #[]] 141)) := ((Below.refl _ _).alloc (Nat.le_refl _) _).alloc (by simp) _
      refine ⟨_, rfl, has_leaf (LT := 433) (PT := 132) (COL := 134) (PF := 232) (v := .slice none 0 0) (by kernel_rfl) Tryz.underlying433 rfl rfl Tryz.isAgg139 (by kernel_rfl) Tryz.underlying132 (fun w' hb => ?_) (enters_of Tryz.func232 (by kernel_rfl) rfl _) (ty_1), hb2⟩
      have hc := (hb.cell (p := ⟨w.heap.size, 0, none⟩) (Nat.le_refl _) (by simp; omega)).trans ((World.cell?_alloc_past _ _ _ (by simp)).trans ((cell_blk (heap_alloc_new w (.cells #[.slice none 0 0] 134)) 0).trans rfl))
      simp [go_sem, hc]

theorem ty_2 (w : World) : Calls Tryz.prog 244 #[.slice none 0 0] w (Gives w [73, 110, 116, 49, 54]) := by
  go_enter Tryz.func244, Tryz.ntmps244
  go_wp2
  go_ret
  exact ⟨rfl, Below.refl _ _⟩
set_option maxRecDepth 100000 in
set_option maxHeartbeats 1600000 in
theorem num_2 (w : World) (hg : Glob w) : Calls Tryz.prog 18 #[.string (S [73, 110, 116, 49, 54]), .slice none 0 0] w (ColOut [73, 110, 116, 49, 54] w) := by
  obtain ⟨kb, ko, cap, h0, hk, hz, hn⟩ := hg.names
  have HN := Lib.hid hn
  clear hn hg
  go_enter Tryz.func18, Tryz.ntmps18
  go_wp2
  go_loopw [7] (fun x wr => ∃ k : Nat, 1 ≤ k ∧ k ≤ 2 ∧ x = .int .i64 (k : Int) ∧ w = wr) (fun x _ => 2 - (intOf x).toNat)
  case atStart => exact ⟨1, by omega, by omega, rfl, rfl⟩
  case round =>
    obtain ⟨k, h1, h2, rfl, rfl⟩ := hrel
    obtain ⟨n, hkn, hcn⟩ := kind_at (k := k) (by omega) HN.out
    by_cases hlt : k < 2
    · have hne := kind_ne 2 [73, 110, 116, 49, 54] rfl k n h1 hlt hkn
      have HK := Lib.hid hkn
      clear hkn
      go_wp2
      go_roundw
      case rel => exact ⟨k + 1, by omega, by omega, by go_num, by trivial⟩
      case measure => simp [intOf] <;> omega
    · obtain rfl : k = 2 := by omega
      obtain rfl : n = [73, 110, 116, 49, 54] := Option.some.inj (hkn.symm.trans rfl)
      clear hkn
      go_wp2
      go_ret
      have hb2 : Below w.heap.size w ((w.alloc (.cells #[.slice none 0 0] 144)).alloc (.cells #[.iface 142 (.pointer (some ⟨w.heap.size, 0, none⟩)), .func (Fn.func 36) #[] #[], .func (Fn.func 37) #[] #[]] 152)) := ((Below.refl _ _).alloc (Nat.le_refl _) _).alloc (by simp) _
      refine ⟨_, rfl, has_leaf (LT := 440) (PT := 142) (COL := 144) (PF := 244) (v := .slice none 0 0) (by kernel_rfl) Tryz.underlying440 rfl rfl Tryz.isAgg150 (by kernel_rfl) Tryz.underlying142 (fun w' hb => ?_) (enters_of Tryz.func244 (by kernel_rfl) rfl _) (ty_2), hb2⟩
      have hc := (hb.cell (p := ⟨w.heap.size, 0, none⟩) (Nat.le_refl _) (by simp; omega)).trans ((World.cell?_alloc_past _ _ _ (by simp)).trans ((cell_blk (heap_alloc_new w (.cells #[.slice none 0 0] 144)) 0).trans rfl))
      simp [go_sem, hc]

theorem ty_3 (w : World) : Calls Tryz.prog 256 #[.slice none 0 0] w (Gives w [73, 110, 116, 51, 50]) := by
  go_enter Tryz.func256, Tryz.ntmps256
  go_wp2
  go_ret
  exact ⟨rfl, Below.refl _ _⟩
set_option maxRecDepth 100000 in
set_option maxHeartbeats 1600000 in
theorem num_3 (w : World) (hg : Glob w) : Calls Tryz.prog 18 #[.string (S [73, 110, 116, 51, 50]), .slice none 0 0] w (ColOut [73, 110, 116, 51, 50] w) := by
  obtain ⟨kb, ko, cap, h0, hk, hz, hn⟩ := hg.names
  have HN := Lib.hid hn
  clear hn hg
  go_enter Tryz.func18, Tryz.ntmps18
  go_wp2
  go_loopw [7] (fun x wr => ∃ k : Nat, 1 ≤ k ∧ k ≤ 3 ∧ x = .int .i64 (k : Int) ∧ w = wr) (fun x _ => 3 - (intOf x).toNat)
  case atStart => exact ⟨1, by omega, by omega, rfl, rfl⟩
  case round =>
    obtain ⟨k, h1, h2, rfl, rfl⟩ := hrel
    obtain ⟨n, hkn, hcn⟩ := kind_at (k := k) (by omega) HN.out
    by_cases hlt : k < 3
    · have hne := kind_ne 3 [73, 110, 116, 51, 50] rfl k n h1 hlt hkn
      have HK := Lib.hid hkn
      clear hkn
      go_wp2
      go_roundw
      case rel => exact ⟨k + 1, by omega, by omega, by go_num, by trivial⟩
      case measure => simp [intOf] <;> omega
    · obtain rfl : k = 3 := by omega
      obtain rfl : n = [73, 110, 116, 51, 50] := Option.some.inj (hkn.symm.trans rfl)
      clear hkn
      go_wp2
      go_ret
      have hb2 : Below w.heap.size w ((w.alloc (.cells #[.slice none 0 0] 155)).alloc (.cells #[.iface 153 (.pointer (some ⟨w.heap.size, 0, none⟩)), .func (Fn.func 38) #[] #[], .func (Fn.func 39) #[] #[]] 162)) := ((Below.refl _ _).alloc (Nat.le_refl _) _).alloc (by simp) _
      refine ⟨_, rfl, has_leaf (LT := 447) (PT := 153) (COL := 155) (PF := 256) (v := .slice none 0 0) (by kernel_rfl) Tryz.underlying447 rfl rfl Tryz.isAgg160 (by kernel_rfl) Tryz.underlying153 (fun w' hb => ?_) (enters_of Tryz.func256 (by kernel_rfl) rfl _) (ty_3), hb2⟩
      have hc := (hb.cell (p := ⟨w.heap.size, 0, none⟩) (Nat.le_refl _) (by simp; omega)).trans ((World.cell?_alloc_past _ _ _ (by simp)).trans ((cell_blk (heap_alloc_new w (.cells #[.slice none 0 0] 155)) 0).trans rfl))
      simp [go_sem, hc]

theorem ty_4 (w : World) : Calls Tryz.prog 268 #[.slice none 0 0] w (Gives w [73, 110, 116, 54, 52]) := by
  go_enter Tryz.func268, Tryz.ntmps268
  go_wp2
  go_ret
  exact ⟨rfl, Below.refl _ _⟩
set_option maxRecDepth 100000 in
set_option maxHeartbeats 1600000 in
theorem num_4 (w : World) (hg : Glob w) : Calls Tryz.prog 18 #[.string (S [73, 110, 116, 54, 52]), .slice none 0 0] w (ColOut [73, 110, 116, 54, 52] w) := by
  obtain ⟨kb, ko, cap, h0, hk, hz, hn⟩ := hg.names
  have HN := Lib.hid hn
  clear hn hg
  go_enter Tryz.func18, Tryz.ntmps18
  go_wp2
  go_loopw [7] (fun x wr => ∃ k : Nat, 1 ≤ k ∧ k ≤ 4 ∧ x = .int .i64 (k : Int) ∧ w = wr) (fun x _ => 4 - (intOf x).toNat)
  case atStart => exact ⟨1, by omega, by omega, rfl, rfl⟩
  case round =>
    obtain ⟨k, h1, h2, rfl, rfl⟩ := hrel
    obtain ⟨n, hkn, hcn⟩ := kind_at (k := k) (by omega) HN.out
    by_cases hlt : k < 4
    · have hne := kind_ne 4 [73, 110, 116, 54, 52] rfl k n h1 hlt hkn
      have HK := Lib.hid hkn
      clear hkn
      go_wp2
      go_roundw
      case rel => exact ⟨k + 1, by omega, by omega, by go_num, by trivial⟩
      case measure => simp [intOf] <;> omega
    · obtain rfl : k = 4 := by omega
      obtain rfl : n = [73, 110, 116, 54, 52] := Option.some.inj (hkn.symm.trans rfl)
      clear hkn
      go_wp2
      go_ret
      have hb2 : Below w.heap.size w ((w.alloc (.cells #[.slice none 0 0] 165)).alloc (.cells #[.iface 163 (.pointer (some ⟨w.heap.size, 0, none⟩)), .func (Fn.func 40) #[] #[], .func (Fn.func 41) #[] #[]] 171)) := ((Below.refl _ _).alloc (Nat.le_refl _) _).alloc (by simp) _
      refine ⟨_, rfl, has_leaf (LT := 454) (PT := 163) (COL := 165) (PF := 268) (v := .slice none 0 0) (by kernel_rfl) Tryz.underlying454 rfl rfl Tryz.isAgg169 (by kernel_rfl) Tryz.underlying163 (fun w' hb => ?_) (enters_of Tryz.func268 (by kernel_rfl) rfl _) (ty_4), hb2⟩
      have hc := (hb.cell (p := ⟨w.heap.size, 0, none⟩) (Nat.le_refl _) (by simp; omega)).trans ((World.cell?_alloc_past _ _ _ (by simp)).trans ((cell_blk (heap_alloc_new w (.cells #[.slice none 0 0] 165)) 0).trans rfl))
      simp [go_sem, hc]

theorem ty_5 (w : World) : Calls Tryz.prog 280 #[.slice none 0 0] w (Gives w [73, 110, 116, 49, 50, 56]) := by
  go_enter Tryz.func280, Tryz.ntmps280
  go_wp2
  go_ret
  exact ⟨rfl, Below.refl _ _⟩
set_option maxRecDepth 100000 in
set_option maxHeartbeats 1600000 in
theorem num_5 (w : World) (hg : Glob w) : Calls Tryz.prog 18 #[.string (S [73, 110, 116, 49, 50, 56]), .slice none 0 0] w (ColOut [73, 110, 116, 49, 50, 56] w) := by
  obtain ⟨kb, ko, cap, h0, hk, hz, hn⟩ := hg.names
  have HN := Lib.hid hn
  clear hn hg
  go_enter Tryz.func18, Tryz.ntmps18
  go_wp2
  go_loopw [7] (fun x wr => ∃ k : Nat, 1 ≤ k ∧ k ≤ 5 ∧ x = .int .i64 (k : Int) ∧ w = wr) (fun x _ => 5 - (intOf x).toNat)
  case atStart => exact ⟨1, by omega, by omega, rfl, rfl⟩
  case round =>
    obtain ⟨k, h1, h2, rfl, rfl⟩ := hrel
    obtain ⟨n, hkn, hcn⟩ := kind_at (k := k) (by omega) HN.out
    by_cases hlt : k < 5
    · have hne := kind_ne 5 [73, 110, 116, 49, 50, 56] rfl k n h1 hlt hkn
      have HK := Lib.hid hkn
      clear hkn
      go_wp2
      go_roundw
      case rel => exact ⟨k + 1, by omega, by omega, by go_num, by trivial⟩
      case measure => simp [intOf] <;> omega
    · obtain rfl : k = 5 := by omega
      obtain rfl : n = [73, 110, 116, 49, 50, 56] := Option.some.inj (hkn.symm.trans rfl)
      clear hkn
      go_wp2
      go_ret
      have hb2 : Below w.heap.size w ((w.alloc (.cells #[.slice none 0 0] 174)).alloc (.cells #[.iface 172 (.pointer (some ⟨w.heap.size, 0, none⟩)), .func (Fn.func 42) #[] #[], .func (Fn.func 44) #[] #[]] 185)) := ((Below.refl _ _).alloc (Nat.le_refl _) _).alloc (by simp) _
      refine ⟨_, rfl, has_leaf (LT := 461) (PT := 172) (COL := 174) (PF := 280) (v := .slice none 0 0) (by kernel_rfl) Tryz.underlying461 rfl rfl Tryz.isAgg183 (by kernel_rfl) Tryz.underlying172 (fun w' hb => ?_) (enters_of Tryz.func280 (by kernel_rfl) rfl _) (ty_5), hb2⟩
      have hc := (hb.cell (p := ⟨w.heap.size, 0, none⟩) (Nat.le_refl _) (by simp; omega)).trans ((World.cell?_alloc_past _ _ _ (by simp)).trans ((cell_blk (heap_alloc_new w (.cells #[.slice none 0 0] 174)) 0).trans rfl))
      simp [go_sem, hc]

theorem ty_7 (w : World) : Calls Tryz.prog 196 #[.slice none 0 0] w (Gives w [85, 73, 110, 116, 56]) := by
  go_enter Tryz.func196, Tryz.ntmps196
  go_wp2
  go_ret
  exact ⟨rfl, Below.refl _ _⟩
set_option maxRecDepth 100000 in
set_option maxHeartbeats 1600000 in
theorem num_7 (w : World) (hg : Glob w) : Calls Tryz.prog 18 #[.string (S [85, 73, 110, 116, 56]), .slice none 0 0] w (ColOut [85, 73, 110, 116, 56] w) := by
  obtain ⟨kb, ko, cap, h0, hk, hz, hn⟩ := hg.names
  have HN := Lib.hid hn
  clear hn hg
  go_enter Tryz.func18, Tryz.ntmps18
  go_wp2
  go_loopw [7] (fun x wr => ∃ k : Nat, 1 ≤ k ∧ k ≤ 7 ∧ x = .int .i64 (k : Int) ∧ w = wr) (fun x _ => 7 - (intOf x).toNat)
  case atStart => exact ⟨1, by omega, by omega, rfl, rfl⟩
  case round =>
    obtain ⟨k, h1, h2, rfl, rfl⟩ := hrel
    obtain ⟨n, hkn, hcn⟩ := kind_at (k := k) (by omega) HN.out
    by_cases hlt : k < 7
    · have hne := kind_ne 7 [85, 73, 110, 116, 56] rfl k n h1 hlt hkn
      have HK := Lib.hid hkn
      clear hkn
      go_wp2
      go_roundw
      case rel => exact ⟨k + 1, by omega, by omega, by go_num, by trivial⟩
      case measure => simp [intOf] <;> omega
    · obtain rfl : k = 7 := by omega
      obtain rfl : n = [85, 73, 110, 116, 56] := Option.some.inj (hkn.symm.trans rfl)
      clear hkn
      go_wp2
      go_ret
      have hb2 : Below w.heap.size w ((w.alloc (.cells #[.slice none 0 0] 83)).alloc (.cells #[.iface 197 (.pointer (some ⟨w.heap.size, 0, none⟩)), .func (Fn.func 49) #[] #[], .func (Fn.func 50) #[] #[]] 203)) := ((Below.refl _ _).alloc (Nat.le_refl _) _).alloc (by simp) _
      refine ⟨_, rfl, has_leaf (LT := 474) (PT := 197) (COL := 83) (PF := 196) (v := .slice none 0 0) (by kernel_rfl) Tryz.underlying474 rfl rfl Tryz.isAgg201 (by kernel_rfl) Tryz.underlying197 (fun w' hb => ?_) (enters_of Tryz.func196 (by kernel_rfl) rfl _) (ty_7), hb2⟩
      have hc := (hb.cell (p := ⟨w.heap.size, 0, none⟩) (Nat.le_refl _) (by simp; omega)).trans ((World.cell?_alloc_past _ _ _ (by simp)).trans ((cell_blk (heap_alloc_new w (.cells #[.slice none 0 0] 83)) 0).trans rfl))
      simp [go_sem, hc]

theorem ty_8 (w : World) : Calls Tryz.prog 202 #[.slice none 0 0] w (Gives w [85, 73, 110, 116, 49, 54]) := by
  go_enter Tryz.func202, Tryz.ntmps202
  go_wp2
  go_ret
  exact ⟨rfl, Below.refl _ _⟩
set_option maxRecDepth 100000 in
set_option maxHeartbeats 1600000 in
theorem num_8 (w : World) (hg : Glob w) : Calls Tryz.prog 18 #[.string (S [85, 73, 110, 116, 49, 54]), .slice none 0 0] w (ColOut [85, 73, 110, 116, 49, 54] w) := by
  obtain ⟨kb, ko, cap, h0, hk, hz, hn⟩ := hg.names
  have HN := Lib.hid hn
  clear hn hg
  go_enter Tryz.func18, Tryz.ntmps18
  go_wp2
  go_loopw [7] (fun x wr => ∃ k : Nat, 1 ≤ k ∧ k ≤ 8 ∧ x = .int .i64 (k : Int) ∧ w = wr) (fun x _ => 8 - (intOf x).toNat)
  case atStart => exact ⟨1, by omega, by omega, rfl, rfl⟩
  case round =>
    obtain ⟨k, h1, h2, rfl, rfl⟩ := hrel
    obtain ⟨n, hkn, hcn⟩ := kind_at (k := k) (by omega) HN.out
    by_cases hlt : k < 8
    · have hne := kind_ne 8 [85, 73, 110, 116, 49, 54] rfl k n h1 hlt hkn
      have HK := Lib.hid hkn
      clear hkn
      go_wp2
      go_roundw
      case rel => exact ⟨k + 1, by omega, by omega, by go_num, by trivial⟩
      case measure => simp [intOf] <;> omega
    · obtain rfl : k = 8 := by omega
      obtain rfl : n = [85, 73, 110, 116, 49, 54] := Option.some.inj (hkn.symm.trans rfl)
      clear hkn
      go_wp2
      go_ret
      have hb2 : Below w.heap.size w ((w.alloc (.cells #[.slice none 0 0] 91)).alloc (.cells #[.iface 204 (.pointer (some ⟨w.heap.size, 0, none⟩)), .func (Fn.func 51) #[] #[], .func (Fn.func 52) #[] #[]] 210)) := ((Below.refl _ _).alloc (Nat.le_refl _) _).alloc (by simp) _
      refine ⟨_, rfl, has_leaf (LT := 481) (PT := 204) (COL := 91) (PF := 202) (v := .slice none 0 0) (by kernel_rfl) Tryz.underlying481 rfl rfl Tryz.isAgg208 (by kernel_rfl) Tryz.underlying204 (fun w' hb => ?_) (enters_of Tryz.func202 (by kernel_rfl) rfl _) (ty_8), hb2⟩
      have hc := (hb.cell (p := ⟨w.heap.size, 0, none⟩) (Nat.le_refl _) (by simp; omega)).trans ((World.cell?_alloc_past _ _ _ (by simp)).trans ((cell_blk (heap_alloc_new w (.cells #[.slice none 0 0] 91)) 0).trans rfl))
      simp [go_sem, hc]

theorem ty_9 (w : World) : Calls Tryz.prog 206 #[.slice none 0 0] w (Gives w [85, 73, 110, 116, 51, 50]) := by
  go_enter Tryz.func206, Tryz.ntmps206
  go_wp2
  go_ret
  exact ⟨rfl, Below.refl _ _⟩
set_option maxRecDepth 100000 in
set_option maxHeartbeats 1600000 in
theorem num_9 (w : World) (hg : Glob w) : Calls Tryz.prog 18 #[.string (S [85, 73, 110, 116, 51, 50]), .slice none 0 0] w (ColOut [85, 73, 110, 116, 51, 50] w) := by
  obtain ⟨kb, ko, cap, h0, hk, hz, hn⟩ := hg.names
  have HN := Lib.hid hn
  clear hn hg
  go_enter Tryz.func18, Tryz.ntmps18
  go_wp2
  go_loopw [7] (fun x wr => ∃ k : Nat, 1 ≤ k ∧ k ≤ 9 ∧ x = .int .i64 (k : Int) ∧ w = wr) (fun x _ => 9 - (intOf x).toNat)
  case atStart => exact ⟨1, by omega, by omega, rfl, rfl⟩
  case round =>
    obtain ⟨k, h1, h2, rfl, rfl⟩ := hrel
    obtain ⟨n, hkn, hcn⟩ := kind_at (k := k) (by omega) HN.out
    by_cases hlt : k < 9
    · have hne := kind_ne 9 [85, 73, 110, 116, 51, 50] rfl k n h1 hlt hkn
      have HK := Lib.hid hkn
      clear hkn
      go_wp2
      go_roundw
      case rel => exact ⟨k + 1, by omega, by omega, by go_num, by trivial⟩
      case measure => simp [intOf] <;> omega
    · obtain rfl : k = 9 := by omega
      obtain rfl : n = [85, 73, 110, 116, 51, 50] := Option.some.inj (hkn.symm.trans rfl)
      clear hkn
      go_wp2
      go_ret
      have hb2 : Below w.heap.size w ((w.alloc (.cells #[.slice none 0 0] 93)).alloc (.cells #[.iface 211 (.pointer (some ⟨w.heap.size, 0, none⟩)), .func (Fn.func 53) #[] #[], .func (Fn.func 54) #[] #[]] 217)) := ((Below.refl _ _).alloc (Nat.le_refl _) _).alloc (by simp) _
      refine ⟨_, rfl, has_leaf (LT := 488) (PT := 211) (COL := 93) (PF := 206) (v := .slice none 0 0) (by kernel_rfl) Tryz.underlying488 rfl rfl Tryz.isAgg215 (by kernel_rfl) Tryz.underlying211 (fun w' hb => ?_) (enters_of Tryz.func206 (by kernel_rfl) rfl _) (ty_9), hb2⟩
      have hc := (hb.cell (p := ⟨w.heap.size, 0, none⟩) (Nat.le_refl _) (by simp; omega)).trans ((World.cell?_alloc_past _ _ _ (by simp)).trans ((cell_blk (heap_alloc_new w (.cells #[.slice none 0 0] 93)) 0).trans rfl))
      simp [go_sem, hc]

theorem ty_10 (w : World) : Calls Tryz.prog 192 #[.slice none 0 0] w (Gives w [85, 73, 110, 116, 54, 52]) := by
  go_enter Tryz.func192, Tryz.ntmps192
  go_wp2
  go_ret
  exact ⟨rfl, Below.refl _ _⟩
set_option maxRecDepth 100000 in
set_option maxHeartbeats 1600000 in
theorem num_10 (w : World) (hg : Glob w) : Calls Tryz.prog 18 #[.string (S [85, 73, 110, 116, 54, 52]), .slice none 0 0] w (ColOut [85, 73, 110, 116, 54, 52] w) := by
  obtain ⟨kb, ko, cap, h0, hk, hz, hn⟩ := hg.names
  have HN := Lib.hid hn
  clear hn hg
  go_enter Tryz.func18, Tryz.ntmps18
  go_wp2
  go_loopw [7] (fun x wr => ∃ k : Nat, 1 ≤ k ∧ k ≤ 10 ∧ x = .int .i64 (k : Int) ∧ w = wr) (fun x _ => 10 - (intOf x).toNat)
  case atStart => exact ⟨1, by omega, by omega, rfl, rfl⟩
  case round =>
    obtain ⟨k, h1, h2, rfl, rfl⟩ := hrel
    obtain ⟨n, hkn, hcn⟩ := kind_at (k := k) (by omega) HN.out
    by_cases hlt : k < 10
    · have hne := kind_ne 10 [85, 73, 110, 116, 54, 52] rfl k n h1 hlt hkn
      have HK := Lib.hid hkn
      clear hkn
      go_wp2
      go_roundw
      case rel => exact ⟨k + 1, by omega, by omega, by go_num, by trivial⟩
      case measure => simp [intOf] <;> omega
    · obtain rfl : k = 10 := by omega
      obtain rfl : n = [85, 73, 110, 116, 54, 52] := Option.some.inj (hkn.symm.trans rfl)
      clear hkn
      go_wp2
      go_ret
      have hb2 : Below w.heap.size w ((w.alloc (.cells #[.slice none 0 0] 80)).alloc (.cells #[.iface 218 (.pointer (some ⟨w.heap.size, 0, none⟩)), .func (Fn.func 55) #[] #[], .func (Fn.func 56) #[] #[]] 224)) := ((Below.refl _ _).alloc (Nat.le_refl _) _).alloc (by simp) _
      refine ⟨_, rfl, has_leaf (LT := 495) (PT := 218) (COL := 80) (PF := 192) (v := .slice none 0 0) (by kernel_rfl) Tryz.underlying495 rfl rfl Tryz.isAgg222 (by kernel_rfl) Tryz.underlying218 (fun w' hb => ?_) (enters_of Tryz.func192 (by kernel_rfl) rfl _) (ty_10), hb2⟩
      have hc := (hb.cell (p := ⟨w.heap.size, 0, none⟩) (Nat.le_refl _) (by simp; omega)).trans ((World.cell?_alloc_past _ _ _ (by simp)).trans ((cell_blk (heap_alloc_new w (.cells #[.slice none 0 0] 80)) 0).trans rfl))
      simp [go_sem, hc]

theorem ty_12 (w : World) : Calls Tryz.prog 352 #[.slice none 0 0] w (Gives w [85, 73, 110, 116, 50, 53, 54]) := by
  go_enter Tryz.func352, Tryz.ntmps352
  go_wp2
  go_ret
  exact ⟨rfl, Below.refl _ _⟩
set_option maxRecDepth 100000 in
set_option maxHeartbeats 1600000 in
theorem num_12 (w : World) (hg : Glob w) : Calls Tryz.prog 18 #[.string (S [85, 73, 110, 116, 50, 53, 54]), .slice none 0 0] w (ColOut [85, 73, 110, 116, 50, 53, 54] w) := by
  obtain ⟨kb, ko, cap, h0, hk, hz, hn⟩ := hg.names
  have HN := Lib.hid hn
  clear hn hg
  go_enter Tryz.func18, Tryz.ntmps18
  go_wp2
  go_loopw [7] (fun x wr => ∃ k : Nat, 1 ≤ k ∧ k ≤ 12 ∧ x = .int .i64 (k : Int) ∧ w = wr) (fun x _ => 12 - (intOf x).toNat)
  case atStart => exact ⟨1, by omega, by omega, rfl, rfl⟩
  case round =>
    obtain ⟨k, h1, h2, rfl, rfl⟩ := hrel
    obtain ⟨n, hkn, hcn⟩ := kind_at (k := k) (by omega) HN.out
    by_cases hlt : k < 12
    · have hne := kind_ne 12 [85, 73, 110, 116, 50, 53, 54] rfl k n h1 hlt hkn
      have HK := Lib.hid hkn
      clear hkn
      go_wp2
      go_roundw
      case rel => exact ⟨k + 1, by omega, by omega, by go_num, by trivial⟩
      case measure => simp [intOf] <;> omega
    · obtain rfl : k = 12 := by omega
      obtain rfl : n = [85, 73, 110, 116, 50, 53, 54] := Option.some.inj (hkn.symm.trans rfl)
      clear hkn
      go_wp2
      go_ret
      have hb2 : Below w.heap.size w ((w.alloc (.cells #[.slice none 0 0] 246)).alloc (.cells #[.iface 244 (.pointer (some ⟨w.heap.size, 0, none⟩)), .func (Fn.func 69) #[] #[], .func (Fn.func 70) #[] #[]] 253)) := ((Below.refl _ _).alloc (Nat.le_refl _) _).alloc (by simp) _
      refine ⟨_, rfl, has_leaf (LT := 509) (PT := 244) (COL := 246) (PF := 352) (v := .slice none 0 0) (by kernel_rfl) Tryz.underlying509 rfl rfl Tryz.isAgg251 (by kernel_rfl) Tryz.underlying244 (fun w' hb => ?_) (enters_of Tryz.func352 (by kernel_rfl) rfl _) (ty_12), hb2⟩
      have hc := (hb.cell (p := ⟨w.heap.size, 0, none⟩) (Nat.le_refl _) (by simp; omega)).trans ((World.cell?_alloc_past _ _ _ (by simp)).trans ((cell_blk (heap_alloc_new w (.cells #[.slice none 0 0] 246)) 0).trans rfl))
      simp [go_sem, hc]

theorem ty_17 (w : World) : Calls Tryz.prog 409 #[.slice none 0 0] w (Gives w [73, 80, 118, 52]) := by
  go_enter Tryz.func409, Tryz.ntmps409
  go_wp2
  go_ret
  exact ⟨rfl, Below.refl _ _⟩
set_option maxRecDepth 100000 in
set_option maxHeartbeats 1600000 in
theorem num_17 (w : World) (hg : Glob w) : Calls Tryz.prog 18 #[.string (S [73, 80, 118, 52]), .slice none 0 0] w (ColOut [73, 80, 118, 52] w) := by
  obtain ⟨kb, ko, cap, h0, hk, hz, hn⟩ := hg.names
  have HN := Lib.hid hn
  clear hn hg
  go_enter Tryz.func18, Tryz.ntmps18
  go_wp2
  go_loopw [7] (fun x wr => ∃ k : Nat, 1 ≤ k ∧ k ≤ 17 ∧ x = .int .i64 (k : Int) ∧ w = wr) (fun x _ => 17 - (intOf x).toNat)
  case atStart => exact ⟨1, by omega, by omega, rfl, rfl⟩
  case round =>
    obtain ⟨k, h1, h2, rfl, rfl⟩ := hrel
    obtain ⟨n, hkn, hcn⟩ := kind_at (k := k) (by omega) HN.out
    by_cases hlt : k < 17
    · have hne := kind_ne 17 [73, 80, 118, 52] rfl k n h1 hlt hkn
      have HK := Lib.hid hkn
      clear hkn
      go_wp2
      go_roundw
      case rel => exact ⟨k + 1, by omega, by omega, by go_num, by trivial⟩
      case measure => simp [intOf] <;> omega
    · obtain rfl : k = 17 := by omega
      obtain rfl : n = [73, 80, 118, 52] := Option.some.inj (hkn.symm.trans rfl)
      clear hkn
      go_wp2
      go_ret
      have hb2 : Below w.heap.size w ((w.alloc (.cells #[.slice none 0 0] 288)).alloc (.cells #[.iface 286 (.pointer (some ⟨w.heap.size, 0, none⟩)), .func (Fn.func 79) #[] #[], .func (Fn.func 80) #[] #[]] 295)) := ((Below.refl _ _).alloc (Nat.le_refl _) _).alloc (by simp) _
      refine ⟨_, rfl, has_leaf (LT := 536) (PT := 286) (COL := 288) (PF := 409) (v := .slice none 0 0) (by kernel_rfl) Tryz.underlying536 rfl rfl Tryz.isAgg293 (by kernel_rfl) Tryz.underlying286 (fun w' hb => ?_) (enters_of Tryz.func409 (by kernel_rfl) rfl _) (ty_17), hb2⟩
      have hc := (hb.cell (p := ⟨w.heap.size, 0, none⟩) (Nat.le_refl _) (by simp; omega)).trans ((World.cell?_alloc_past _ _ _ (by simp)).trans ((cell_blk (heap_alloc_new w (.cells #[.slice none 0 0] 288)) 0).trans rfl))
      simp [go_sem, hc]

theorem ty_18 (w : World) : Calls Tryz.prog 421 #[.slice none 0 0] w (Gives w [73, 80, 118, 54]) := by
  go_enter Tryz.func421, Tryz.ntmps421
  go_wp2
  go_ret
  exact ⟨rfl, Below.refl _ _⟩
set_option maxRecDepth 100000 in
set_option maxHeartbeats 1600000 in
theorem num_18 (w : World) (hg : Glob w) : Calls Tryz.prog 18 #[.string (S [73, 80, 118, 54]), .slice none 0 0] w (ColOut [73, 80, 118, 54] w) := by
  obtain ⟨kb, ko, cap, h0, hk, hz, hn⟩ := hg.names
  have HN := Lib.hid hn
  clear hn hg
  go_enter Tryz.func18, Tryz.ntmps18
  go_wp2
  go_loopw [7] (fun x wr => ∃ k : Nat, 1 ≤ k ∧ k ≤ 18 ∧ x = .int .i64 (k : Int) ∧ w = wr) (fun x _ => 18 - (intOf x).toNat)
  case atStart => exact ⟨1, by omega, by omega, rfl, rfl⟩
  case round =>
    obtain ⟨k, h1, h2, rfl, rfl⟩ := hrel
    obtain ⟨n, hkn, hcn⟩ := kind_at (k := k) (by omega) HN.out
    by_cases hlt : k < 18
    · have hne := kind_ne 18 [73, 80, 118, 54] rfl k n h1 hlt hkn
      have HK := Lib.hid hkn
      clear hkn
      go_wp2
      go_roundw
      case rel => exact ⟨k + 1, by omega, by omega, by go_num, by trivial⟩
      case measure => simp [intOf] <;> omega
    · obtain rfl : k = 18 := by omega
      obtain rfl : n = [73, 80, 118, 54] := Option.some.inj (hkn.symm.trans rfl)
      clear hkn
      go_wp2
      go_ret
      have hb2 : Below w.heap.size w ((w.alloc (.cells #[.slice none 0 0] 298)).alloc (.cells #[.iface 296 (.pointer (some ⟨w.heap.size, 0, none⟩)), .func (Fn.func 81) #[] #[], .func (Fn.func 83) #[] #[]] 308)) := ((Below.refl _ _).alloc (Nat.le_refl _) _).alloc (by simp) _
      refine ⟨_, rfl, has_leaf (LT := 543) (PT := 296) (COL := 298) (PF := 421) (v := .slice none 0 0) (by kernel_rfl) Tryz.underlying543 rfl rfl Tryz.isAgg306 (by kernel_rfl) Tryz.underlying296 (fun w' hb => ?_) (enters_of Tryz.func421 (by kernel_rfl) rfl _) (ty_18), hb2⟩
      have hc := (hb.cell (p := ⟨w.heap.size, 0, none⟩) (Nat.le_refl _) (by simp; omega)).trans ((World.cell?_alloc_past _ _ _ (by simp)).trans ((cell_blk (heap_alloc_new w (.cells #[.slice none 0 0] 298)) 0).trans rfl))
      simp [go_sem, hc]

end Go.Proofs.YtcidlnjpabgioaaGreatDoor
