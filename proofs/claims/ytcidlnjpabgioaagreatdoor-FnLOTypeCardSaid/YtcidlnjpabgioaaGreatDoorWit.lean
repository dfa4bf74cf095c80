/- A world that meets the row's condition. -/
import Derived.Test.YtcidlnjpabgioaaGreatDoorRows
import Derived.JoinedOf
import Derived.KernelRfl
import Derived.ProofKit
import Derived.Lay
import Derived.LaidLaws
import Derived.Stop.Joined
set_option linter.unusedSimpArgs false
set_option linter.unusedVariables false
namespace Go.Proofs.YtcidlnjpabgioaaGreatDoor
open Go
/-- A world in which the two errors lie. -/
noncomputable def hand (os : Os) : World :=
  ((World.holding Tryz.prog os ⟨#[.cells #[.string ⟨([105, 110, 118, 97, 108, 105, 100, 32, 115, 121, 110, 116, 97, 120] : List UInt8).toArray⟩] 368, .cells #[.string ⟨([118, 97, 108, 117, 101, 32, 111, 117, 116, 32, 111, 102, 32, 114, 97, 110, 103, 101] : List UInt8).toArray⟩] 368], #[], []⟩).setCell ⟨4, 0, none⟩ (.iface 366 (.pointer (some ⟨18, 0, none⟩)))).setCell ⟨5, 0, none⟩ (.iface 366 (.pointer (some ⟨19, 0, none⟩)))
def names8 : List String := ["math/bits.deBruijn32tab", "math/bits.deBruijn64tab", "internal/strconv.uint64pow10", "unicode/utf8.acceptRanges", "unicode.White_Space", "strings.asciiSpace", "given.example/pub-bradawl/impl.kindNames", "unicode/utf8.first"]
/-- The others beside them. -/
noncomputable def wit (os : Os) : World := (hand os).layVars Tryz.prog (Rows.fnLOTypeRow.laid.filter fun x => names8.contains x.1)
theorem wit_os (os : Os) : (wit os).os = os := (World.layVars_os _ _ _).trans rfl
theorem wit_shaped (os : Os) : ((wit os).forCall (fun _ _ => 0) ⟨#[], #[.slice none 0 0], []⟩).Shaped Tryz.prog := World.shaped_of_ZipB (by kernel_rfl) (by kernel_rfl)
theorem wit_ok (os : Os) : Input.okWideB Tryz.prog ((wit os).forCall (fun _ _ => 0) ⟨#[], #[.slice none 0 0], []⟩) 3 ⟨#[], #[.slice none 0 0], []⟩ = true := by kernel_rfl
theorem wit_pre (H : Type) (enc : TypeId × Value → H) (os : Os) : Rows.fnLOTypeSpec.preB enc Tryz.prog Tryz.f3 Rows.fnLOTypeRow.domain false ((wit os).forCall (fun _ _ => 0) ⟨#[], #[.slice none 0 0], []⟩).memory #[.slice none 0 0] 8 = true := by kernel_rfl
theorem wit_sized (H : Type) (enc : TypeId × Value → H) (os : Os) : Rows.fnLOTypeSpec.sizedB enc Tryz.prog Tryz.f3 false ((wit os).forCall (fun _ _ => 0) ⟨#[], #[.slice none 0 0], []⟩).memory #[.slice none 0 0] 8 = true := by kernel_rfl
theorem wit_errs (os : Os) : LaidIn Tryz.prog ((wit os).forCall (fun _ _ => 0) ⟨#[], #[.slice none 0 0], []⟩).memory (Rows.fnLOTypeRow.laid.filter fun x => !names8.contains x.1) [4, 5, 18, 19] := LaidIn.of_run [4, 5, 18, 19] 8 (by kernel_rfl) (by kernel_rfl) (by kernel_rfl) (by kernel_rfl)
theorem wit_met (os : Os) : laidMet Tryz.prog Rows.fnLOTypeRow.laid ((wit os).forCall (fun _ _ => 0) ⟨#[], #[.slice none 0 0], []⟩).memory :=
  laidMet_layVars (w0 := hand os) names8 [4, 5, 18, 19] (by kernel_rfl) (by kernel_rfl) (by kernel_rfl) (wit_errs os)
end Go.Proofs.YtcidlnjpabgioaaGreatDoor
