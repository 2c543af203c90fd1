/-
  DERIVED. GIVEN WITH THE SEED: THE CARDS: each row of YtmcjpnijldhelaaGreatDoorRows.lean that lists a variable, with what it lists TIED to the program's text (the seventh form; the later family's looks); each row that meets fmt, with fmt's text TOLD by the authors' own Lean function (tested against real Go, not proved from fmt's source: count such statements apart). THE CARD IS WHAT COUNTS. Prove the row's statement (the work); the ties are given (YtmcjpnijldhelaaGreatDoorTie.lean); close each card by the builder's one call (the guide's Derived/Test/ToyasCard.lean, 'card_holds'). Laid BY PROGRAM, IN A SANDBOX (cutbox-door.mjs). By AI agents, Wed Nov 11 2026. No macro, syntax, notation, axiom, sorry.
-/
import Derived.Test.YtmcjpnijldhelaaGreatDoorRows
import GoSem.ClaimSeven
namespace Go.Proofs.YtmcjpnijldhelaaGreatDoor
namespace Rows

/-- THE TIED CARD OF 'laws.FnDictionaryInt32Between'. -/
def fnDictionaryInt32BetweenCard : Claim7 := { stood := { row := fnDictionaryInt32BetweenRow, standIns := [], harness := (true, "f613454ee0b74511479125411215cd04f0735670034d3a4034a23456270360a9"), looks := true }, kinds := [], alts := [], laidByText := true, laidKinds := [.sentinel, .sentinel, .sentinel, .sentinel, .data, .data], laidTests := true, laidLooks := .later }
def FnDictionaryInt32BetweenCardSaid : Prop := Claim7.holds Tryz.pinned (.plain (OpenSpec.ofChange fnDictionaryInt32BetweenSpec)) fnDictionaryInt32BetweenCard

/-- THE TIED CARD OF 'laws.FnDictionaryFloat64Read'. -/
def fnDictionaryFloat64ReadCard : Claim7 := { stood := { row := fnDictionaryFloat64ReadRow, standIns := [], harness := (true, "f613454ee0b74511479125411215cd04f0735670034d3a4034a23456270360a9"), looks := true }, kinds := [], alts := [], laidByText := true, laidKinds := [.sentinel, .sentinel, .sentinel, .sentinel], laidTests := true, laidLooks := .later }
def FnDictionaryFloat64ReadCardSaid : Prop := Claim7.holds Tryz.pinned (.plain (OpenSpec.ofChange fnDictionaryFloat64ReadSpec)) fnDictionaryFloat64ReadCard

/-- THE TIED CARD OF 'laws.FnDictionaryTextBetween'. -/
def fnDictionaryTextBetweenCard : Claim7 := { stood := { row := fnDictionaryTextBetweenRow, standIns := [], harness := (true, "f613454ee0b74511479125411215cd04f0735670034d3a4034a23456270360a9"), looks := true }, kinds := [], alts := [], laidByText := true, laidKinds := [.sentinel, .sentinel, .sentinel, .sentinel, .data, .data], laidTests := true, laidLooks := .later }
def FnDictionaryTextBetweenCardSaid : Prop := Claim7.holds Tryz.pinned (.plain (OpenSpec.ofChange fnDictionaryTextBetweenSpec)) fnDictionaryTextBetweenCard

/-- THE SECOND FORM's CARD OF 'laws.FnDictionaryInt32Between'. -/
def fnDictionaryInt32BetweenUptoCard : Claim7 := { stood := { row := fnDictionaryInt32BetweenUptoRow, standIns := [], harness := (true, "f613454ee0b74511479125411215cd04f0735670034d3a4034a23456270360a9"), looks := true }, kinds := [], alts := [], laidByText := true, laidKinds := [.sentinel, .sentinel, .sentinel, .sentinel, .data, .data], laidTests := true, laidLooks := .later }
def FnDictionaryInt32BetweenUptoCardSaid : Prop := Claim7.holds Tryz.pinned (.plain (OpenSpec.upto fnDictionaryInt32BetweenSpec)) fnDictionaryInt32BetweenUptoCard

/-- THE SECOND FORM's CARD OF 'laws.FnDictionaryFloat64Read'. -/
def fnDictionaryFloat64ReadUptoCard : Claim7 := { stood := { row := fnDictionaryFloat64ReadUptoRow, standIns := [], harness := (true, "f613454ee0b74511479125411215cd04f0735670034d3a4034a23456270360a9"), looks := true }, kinds := [], alts := [], laidByText := true, laidKinds := [.sentinel, .sentinel, .sentinel, .sentinel], laidTests := true, laidLooks := .later }
def FnDictionaryFloat64ReadUptoCardSaid : Prop := Claim7.holds Tryz.pinned (.plain (OpenSpec.upto fnDictionaryFloat64ReadSpec)) fnDictionaryFloat64ReadUptoCard

/-- THE SECOND FORM's CARD OF 'laws.FnDictionaryTextBetween'. -/
def fnDictionaryTextBetweenUptoCard : Claim7 := { stood := { row := fnDictionaryTextBetweenUptoRow, standIns := [], harness := (true, "f613454ee0b74511479125411215cd04f0735670034d3a4034a23456270360a9"), looks := true }, kinds := [], alts := [], laidByText := true, laidKinds := [.sentinel, .sentinel, .sentinel, .sentinel, .data, .data], laidTests := true, laidLooks := .later }
def FnDictionaryTextBetweenUptoCardSaid : Prop := Claim7.holds Tryz.pinned (.plain (OpenSpec.upto fnDictionaryTextBetweenSpec)) fnDictionaryTextBetweenUptoCard
end Rows
end Go.Proofs.YtmcjpnijldhelaaGreatDoor
