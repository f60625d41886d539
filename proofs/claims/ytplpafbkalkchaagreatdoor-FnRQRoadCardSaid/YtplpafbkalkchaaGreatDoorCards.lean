/-
  DERIVED. GIVEN WITH THE SEED: THE CARDS: each row of YtplpafbkalkchaaGreatDoorRows.lean that lists a variable, with what it lists TIED to the program's text (the seventh form; the later family's looks); each row that meets fmt, with fmt's text TOLD by the authors' own Lean function (tested against real Go, not proved from fmt's source: count such statements apart). THE CARD IS WHAT COUNTS. Prove the row's statement (the work); the ties are given (YtplpafbkalkchaaGreatDoorTie.lean); close each card by the builder's one call (the guide's Derived/Test/ToyasCard.lean, 'card_holds'). Laid BY PROGRAM, IN A SANDBOX (cutbox-door.mjs). By AI agents, Wed Nov 11 2026. No macro, syntax, notation, axiom, sorry.
-/
import Derived.Test.YtplpafbkalkchaaGreatDoorRows
import GoSem.ClaimSeven
namespace Go.Proofs.YtplpafbkalkchaaGreatDoor
namespace Rows

/-- THE TIED CARD OF 'laws.FnRQRoad'. -/
def fnRQRoadCard : Claim7 := { stood := { row := fnRQRoadRow, standIns := [], harness := (true, "1fb088c9e43e54ae418d298ecd0204a7099609636b216657a61e4fef3a1f26bb"), looks := true }, kinds := [], alts := [], laidByText := true, laidKinds := [.data, .data, .data, .sentinel, .sentinel], laidTests := true, laidLooks := .later }
def FnRQRoadCardSaid : Prop := Claim7.holds Tryz.pinned (.plain (OpenSpec.ofChange fnRQRoadSpec)) fnRQRoadCard

/-- THE SECOND FORM's CARD OF 'laws.FnRQRoad'. -/
def fnRQRoadUptoCard : Claim7 := { stood := { row := fnRQRoadUptoRow, standIns := [], harness := (true, "1fb088c9e43e54ae418d298ecd0204a7099609636b216657a61e4fef3a1f26bb"), looks := true }, kinds := [], alts := [], laidByText := true, laidKinds := [.data, .data, .data, .sentinel, .sentinel], laidTests := true, laidLooks := .later }
def FnRQRoadUptoCardSaid : Prop := Claim7.holds Tryz.pinned (.plain (OpenSpec.upto fnRQRoadSpec)) fnRQRoadUptoCard
end Rows
end Go.Proofs.YtplpafbkalkchaaGreatDoor
