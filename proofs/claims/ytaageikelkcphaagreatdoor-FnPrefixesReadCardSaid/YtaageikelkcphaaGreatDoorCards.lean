/-
  DERIVED. GIVEN WITH THE SEED: THE CARDS: each row of YtaageikelkcphaaGreatDoorRows.lean that lists a variable, with what it lists TIED to the program's text (the seventh form; the later family's looks); each row that meets fmt, with fmt's text TOLD by the authors' own Lean function (tested against real Go, not proved from fmt's source: count such statements apart). THE CARD IS WHAT COUNTS. Prove the row's statement (the work); the ties are given (YtaageikelkcphaaGreatDoorTie.lean); close each card by the builder's one call (the guide's Derived/Test/ToyasCard.lean, 'card_holds'). Laid BY PROGRAM, IN A SANDBOX (cutbox-door.mjs). By AI agents, Wed Nov 11 2026. No macro, syntax, notation, axiom, sorry.
-/
import Derived.Test.YtaageikelkcphaaGreatDoorRows
import GoSem.ClaimSeven
namespace Go.Proofs.YtaageikelkcphaaGreatDoor
namespace Rows

/-- THE TIED CARD OF 'laws.FnPrefixesRead'. -/
def fnPrefixesReadCard : Claim7 := { stood := { row := fnPrefixesReadRow, standIns := [], harness := (true, "bcc1cc2b3f69c6c4bc978eba979ed40f9ecaf9d35755d59a371685a998b48b05"), looks := true }, kinds := [], alts := [], laidByText := true, laidKinds := [.sentinel, .sentinel, .sentinel, .sentinel], laidTests := true, laidLooks := .later }
def FnPrefixesReadCardSaid : Prop := Claim7.holds Tryz.pinned (.plain (OpenSpec.ofChange fnPrefixesReadSpec)) fnPrefixesReadCard

/-- THE SECOND FORM's CARD OF 'laws.FnPrefixesRead'. -/
def fnPrefixesReadUptoCard : Claim7 := { stood := { row := fnPrefixesReadUptoRow, standIns := [], harness := (true, "bcc1cc2b3f69c6c4bc978eba979ed40f9ecaf9d35755d59a371685a998b48b05"), looks := true }, kinds := [], alts := [], laidByText := true, laidKinds := [.sentinel, .sentinel, .sentinel, .sentinel], laidTests := true, laidLooks := .later }
def FnPrefixesReadUptoCardSaid : Prop := Claim7.holds Tryz.pinned (.plain (OpenSpec.upto fnPrefixesReadSpec)) fnPrefixesReadUptoCard
end Rows
end Go.Proofs.YtaageikelkcphaaGreatDoor
