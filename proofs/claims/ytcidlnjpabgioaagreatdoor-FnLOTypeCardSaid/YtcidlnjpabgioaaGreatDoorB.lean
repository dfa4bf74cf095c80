/- The walks of loLeaves, leaf and low. -/
import Derived.Test.YtcidlnjpabgioaaGreatDoorA
set_option linter.unusedSimpArgs false
set_option linter.unusedVariables false
namespace Go.Proofs.YtcidlnjpabgioaaGreatDoor
open Go.RowKit
open Pu (Bs)

/-- The leaves: name and size. -/
def leafPairs : List (Bs × Int) := [([85, 73, 110, 116, 56], 1),
  ([73, 110, 116, 49, 54], 2),
  ([85, 73, 110, 116, 51, 50], 4),
  ([73, 110, 116, 54, 52], 8),
  ([85, 73, 110, 116, 54, 52], 8),
  ([73, 110, 116, 49, 50, 56], 16),
  ([85, 73, 110, 116, 50, 53, 54], 32),
  ([73, 80, 118, 52], 4),
  ([73, 80, 118, 54], 16),
  ([73, 110, 116, 56], 1),
  ([85, 73, 110, 116, 49, 54], 2),
  ([73, 110, 116, 51, 50], 4),
  ([83, 116, 114, 105, 110, 103], 0),
  ([83, 116, 114, 105, 110, 103], 0),
  ([70, 105, 120, 101, 100, 83, 116, 114, 105, 110, 103], 5),
  ([70, 105, 120, 101, 100, 83, 116, 114, 105, 110, 103], 16)]
def leafCells : List (Bs × Int) → List Value
  | [] => []
  | (n, k) :: r => .string (S n) :: .int .i64 k :: .slice none 0 0 :: leafCells r

set_option maxHeartbeats 1600000 in
set_option maxRecDepth 100000 in
theorem leaves_any (w : World) : Calls Tryz.prog 12 #[] w fun e w' => e = .returned (.slice (some ⟨w.heap.size, 0, none⟩) 16 16) ∧ w.alloc (.cells (leafCells leafPairs).toArray 29) = w' := by
  go_enter Tryz.func12, Tryz.ntmps12
  go_wp2
  go_ret
  exact ⟨rfl, rfl⟩
end Go.Proofs.YtcidlnjpabgioaaGreatDoor
