/- The walks of loDigits (at 5 and at 16) and of text. -/
import Derived.Test.YtcidlnjpabgioaaGreatDoorC
import Derived.Deep.RegionLaw
import Derived.Deep.RegionHeld3
set_option linter.unusedSimpArgs false
set_option linter.unusedVariables false
namespace Go.Proofs.YtcidlnjpabgioaaGreatDoor
open Go.RowKit
open Pu (Bs)

theorem cells_below {W w1 : World} (hb : Below W.heap.size W w1) : ∀ b o, b < W.heap.size → w1.cell? ⟨b, o, none⟩ = W.cell? ⟨b, o, none⟩ := fun b o h => hb.cell (p := ⟨b, o, none⟩) h
theorem conv_cell (w : World) (b : Nat) (n : Int) (u : UInt8) (hu : n = u.toNat) (hc : w.cell? ⟨b, 0, none⟩ = some (.int .u8 n)) :
    (convert 22 9 (.slice (some ⟨b, 0, none⟩) 1 1)).run Tryz.prog w = .ok (.string (S [u])) w := by
  subst hu
  refine run_convert_bytes_back (P := Tryz.prog) w 22 9 5 ⟨b, 0, none⟩ 1 [u] Tryz.underlying22 Tryz.underlying5 Tryz.underlying9 ?_
  intro j hj
  obtain rfl : j = 0 := by simpa using hj
  exact hc
theorem conv_one (w : World) (n : Int) (u : UInt8) (hu : n = u.toNat) :
    (convert 22 9 (.slice (some ⟨w.heap.size, 0, none⟩) 1 1)).run Tryz.prog (w.alloc (.cells #[.int .u8 n] 5)) = .ok (.string (S [u])) (w.alloc (.cells #[.int .u8 n] 5)) := by
  exact conv_cell _ _ n u hu ((cell_blk (heap_alloc_new w _) 0).trans rfl)
set_option maxRecDepth 100000 in
set_option maxHeartbeats 800000 in
theorem dig_5 (w : World) : Calls Tryz.prog 11 #[.int .i64 5] w (Gives w [53]) := by
  have hcv := conv_one w 53 53 rfl
  go_enter Tryz.func11, Tryz.ntmps11
  go_wp2
  go_ret
  exact ⟨rfl, (Below.refl _ _).alloc (Nat.le_refl _) _⟩
set_option maxRecDepth 100000 in
set_option maxHeartbeats 800000 in
theorem dig_1 (w : World) : Calls Tryz.prog 11 #[.int .i64 1] w (Gives w [49]) := by
  have hcv := conv_one w 49 49 rfl
  go_enter Tryz.func11, Tryz.ntmps11
  go_wp2
  go_ret
  exact ⟨rfl, (Below.refl _ _).alloc (Nat.le_refl _) _⟩
set_option maxRecDepth 100000 in
set_option maxHeartbeats 800000 in
theorem dig_16 (w : World) : Calls Tryz.prog 11 #[.int .i64 16] w (Gives w [49, 54]) := by
  have hcv := fun W b => conv_cell W b 54 54 rfl
  have e1 : IntKind.i64.wrap 54 = 54 := by simp [IntKind.wrap_i64]
  have e2 : IntKind.u8.wrap 54 = 54 := by simp [IntKind.wrap_u8]
  go_enter Tryz.func11, Tryz.ntmps11
  go_wp2_with fail
  go_region_with (go_at_call 11; refine (dig_1 _).mono ?_; rintro e w' ⟨rfl, hb1⟩; have hcb := cells_below hb1)
  all_goals go_wp2
  all_goals go_ret
  all_goals refine ⟨congrArg (fun b => Ending.returned (Value.string b)) (S_append [49] [54]), ?_⟩
  all_goals first
    | exact (((Below.refl _ _).drew).alloc (Nat.le_refl _) _).trans (hb1.mono (by simp))
    | exact (((Below.refl _ _).drew).trans (hb1.mono (Nat.le_refl _))).alloc hb1.size _
end Go.Proofs.YtcidlnjpabgioaaGreatDoor
