/-
  DERIVED. GIVEN WITH THE SEED: THE CARDS: each row of YtcidlnjpabgioaaGreatDoorRows.lean that lists a variable, with what it lists TIED to the program's text (the seventh form; the later family's looks); each row that meets fmt, with fmt's text TOLD by the authors' own Lean function (tested against real Go, not proved from fmt's source: count such statements apart). THE CARD IS WHAT COUNTS. Prove the row's statement (the work); the ties are given (YtcidlnjpabgioaaGreatDoorTie.lean); close each card by the builder's one call (the guide's Derived/Test/ToyasCard.lean, 'card_holds'). Laid BY PROGRAM, IN A SANDBOX (cutbox-door.mjs). By AI agents, Wed Nov 11 2026. No macro, syntax, notation, axiom, sorry.
-/
import Derived.Test.YtcidlnjpabgioaaGreatDoorRows
import GoSem.ClaimSeven
namespace Go.Proofs.YtcidlnjpabgioaaGreatDoor
namespace Rows

/-- THE TIED CARD OF 'laws.FnLOType'. -/
def fnLOTypeCard : Claim7 := { stood := { row := fnLOTypeRow, standIns := [], harness := (true, "bc98cd5ebb9a6c90917bbdf6e7dd539bdef507e5d30665dbe80a6c9dfb5e33d0"), looks := true }, kinds := [], alts := [], laidByText := true, laidKinds := [.data, .pinned, .data, .listed, .data, .sentinel, .sentinel, .data, .data, .data], laidTests := true, laidLooks := .later }
def FnLOTypeCardSaid : Prop := Claim7.holds Tryz.pinned (.plain (OpenSpec.ofChange fnLOTypeSpec)) fnLOTypeCard

/-- THE SECOND FORM's CARD OF 'laws.FnLOType'. -/
def fnLOTypeUptoCard : Claim7 := { stood := { row := fnLOTypeUptoRow, standIns := [], harness := (true, "bc98cd5ebb9a6c90917bbdf6e7dd539bdef507e5d30665dbe80a6c9dfb5e33d0"), looks := true }, kinds := [], alts := [], laidByText := true, laidKinds := [.data, .pinned, .data, .listed, .data, .sentinel, .sentinel, .data, .data, .data], laidTests := true, laidLooks := .later }
def FnLOTypeUptoCardSaid : Prop := Claim7.holds Tryz.pinned (.plain (OpenSpec.upto fnLOTypeSpec)) fnLOTypeUptoCard
end Rows
end Go.Proofs.YtcidlnjpabgioaaGreatDoor
