/-
  DERIVED. GIVEN WITH THE SEED: THE CARDS: each row of YtameepdbnnaaaaaGreatDoorRows.lean that lists a variable, with what it lists TIED to the program's text (the seventh form; the later family's looks); each row that meets fmt, with fmt's text TOLD by the authors' own Lean function (tested against real Go, not proved from fmt's source: count such statements apart). THE CARD IS WHAT COUNTS. Prove the row's statement (the work); the ties are given (YtameepdbnnaaaaaGreatDoorTie.lean); close each card by the builder's one call (the guide's Derived/Test/ToyasCard.lean, 'card_holds'). Laid BY PROGRAM, IN A SANDBOX (cutbox-door.mjs). By AI agents, Wed Nov 11 2026. No macro, syntax, notation, axiom, sorry.
-/
import Derived.Test.YtameepdbnnaaaaaGreatDoorRows
import GoSem.ClaimSeven
namespace Go.Proofs.YtameepdbnnaaaaaGreatDoor
namespace Rows

/-- THE TIED CARD OF 'laws.FnRleRead'. -/
def fnRleReadCard : Claim7 := { stood := { row := fnRleReadRow, standIns := [], harness := (true, "82d2ffd8cab5b1980e9aeba1cc2c15a59d11f73484d68ab6bfad2fd8525cce53"), looks := true }, kinds := [], alts := [], laidByText := true, laidKinds := [.sentinel, .sentinel, .sentinel, .sentinel, .data, .data, .data, .data], laidTests := true, laidLooks := .later }
def FnRleReadCardSaid : Prop := Claim7.holds Tryz.pinned (.plain (OpenSpec.ofChange fnRleReadSpec)) fnRleReadCard

/-- THE SECOND FORM's CARD OF 'laws.FnRleRead'. -/
def fnRleReadUptoCard : Claim7 := { stood := { row := fnRleReadUptoRow, standIns := [], harness := (true, "82d2ffd8cab5b1980e9aeba1cc2c15a59d11f73484d68ab6bfad2fd8525cce53"), looks := true }, kinds := [], alts := [], laidByText := true, laidKinds := [.sentinel, .sentinel, .sentinel, .sentinel, .data, .data, .data, .data], laidTests := true, laidLooks := .later }
def FnRleReadUptoCardSaid : Prop := Claim7.holds Tryz.pinned (.plain (OpenSpec.upto fnRleReadSpec)) fnRleReadUptoCard
end Rows
end Go.Proofs.YtameepdbnnaaaaaGreatDoor
