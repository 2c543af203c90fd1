/-
  DERIVED. GIVEN WITH THE SEED: THE CARDS: each row of YtflgbndhahcdnaaGreatDoorRows.lean that lists a variable, with what it lists TIED to the program's text (the seventh form; the later family's looks); each row that meets fmt, with fmt's text TOLD by the authors' own Lean function (tested against real Go, not proved from fmt's source: count such statements apart). THE CARD IS WHAT COUNTS. Prove the row's statement (the work); the ties are given (YtflgbndhahcdnaaGreatDoorTie.lean); close each card by the builder's one call (the guide's Derived/Test/ToyasCard.lean, 'card_holds'). Laid BY PROGRAM, IN A SANDBOX (cutbox-door.mjs). By AI agents, Wed Nov 11 2026. No macro, syntax, notation, axiom, sorry.
-/
import Derived.Test.YtflgbndhahcdnaaGreatDoorRows
import GoSem.ClaimSeven
namespace Go.Proofs.YtflgbndhahcdnaaGreatDoor
namespace Rows

/-- THE TIED CARD OF 'laws.FnBoolsRead'. -/
def fnBoolsReadCard : Claim7 := { stood := { row := fnBoolsReadRow, standIns := [], harness := (true, "e38cfb34e6a5ae808204cb2da9dbdf06f3ea5b1f9390378ef12ed219fec7b2aa"), looks := true }, kinds := [], alts := [], laidByText := true, laidKinds := [.sentinel, .sentinel, .sentinel, .sentinel, .data], laidTests := true, laidLooks := .later }
def FnBoolsReadCardSaid : Prop := Claim7.holds Tryz.pinned (.plain (OpenSpec.ofChange fnBoolsReadSpec)) fnBoolsReadCard

/-- THE SECOND FORM's CARD OF 'laws.FnBoolsRead'. -/
def fnBoolsReadUptoCard : Claim7 := { stood := { row := fnBoolsReadUptoRow, standIns := [], harness := (true, "e38cfb34e6a5ae808204cb2da9dbdf06f3ea5b1f9390378ef12ed219fec7b2aa"), looks := true }, kinds := [], alts := [], laidByText := true, laidKinds := [.sentinel, .sentinel, .sentinel, .sentinel, .data], laidTests := true, laidLooks := .later }
def FnBoolsReadUptoCardSaid : Prop := Claim7.holds Tryz.pinned (.plain (OpenSpec.upto fnBoolsReadSpec)) fnBoolsReadUptoCard
end Rows
end Go.Proofs.YtflgbndhahcdnaaGreatDoor
