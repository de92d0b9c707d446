/-
  DERIVED. GIVEN WITH THE SEED: THE CARDS: each row of YtkfggfjdplnkpaaGreatDoorRows.lean that lists a variable, with what it lists TIED to the program's text (the seventh form; the later family's looks); each row that meets fmt, with fmt's text TOLD by the authors' own Lean function (tested against real Go, not proved from fmt's source: count such statements apart). THE CARD IS WHAT COUNTS. Prove the row's statement (the work); the ties are given (YtkfggfjdplnkpaaGreatDoorTie.lean); close each card by the builder's one call (the guide's Derived/Test/ToyasCard.lean, 'card_holds'). Laid BY PROGRAM, IN A SANDBOX (cutbox-door.mjs). By AI agents, Wed Nov 11 2026. No macro, syntax, notation, axiom, sorry.
-/
import Derived.Test.YtkfggfjdplnkpaaGreatDoorRows
import GoSem.ClaimSeven
namespace Go.Proofs.YtkfggfjdplnkpaaGreatDoor
namespace Rows

/-- THE TIED CARD OF 'laws.FnDecodeScript'. -/
def fnDecodeScriptCard : Claim7 := { stood := { row := fnDecodeScriptRow, standIns := [], harness := (true, "773806a949b0c1db960bbe1cef65cb19880244695348516ff54da80abff4af0d"), looks := true }, kinds := [], alts := [], laidByText := true, laidKinds := [.data, .data, .widerDeep, .widerDeep, .data, .data, .data, .data, .data, .data, .sentinel, .sentinel, .sentinel, .sentinel, .sentinel, .pinned, .pinned, .pinned, .pinned, .pinned, .pinned, .pinned, .pinned], laidTests := true, laidLooks := .later }
def FnDecodeScriptCardSaid : Prop := Claim7.holds Tryz.pinned (.plain (OpenSpec.ofChange fnDecodeScriptSpec)) fnDecodeScriptCard

/-- THE TIED CARD OF 'laws.FnDecodeValues'. -/
def fnDecodeValuesCard : Claim7 := { stood := { row := fnDecodeValuesRow, standIns := [], harness := (true, "773806a949b0c1db960bbe1cef65cb19880244695348516ff54da80abff4af0d"), looks := true }, kinds := [], alts := [], laidByText := true, laidKinds := [.data, .data, .widerDeep, .widerDeep, .data, .data, .data, .data, .data, .data, .sentinel, .sentinel, .sentinel, .sentinel, .sentinel, .pinned, .pinned, .pinned, .pinned, .pinned, .pinned, .pinned, .pinned], laidTests := true, laidLooks := .later }
def FnDecodeValuesCardSaid : Prop := Claim7.holds Tryz.pinned (.plain (OpenSpec.ofChange fnDecodeValuesSpec)) fnDecodeValuesCard

/-- THE SECOND FORM's CARD OF 'laws.FnDecodeScript'. -/
def fnDecodeScriptUptoCard : Claim7 := { stood := { row := fnDecodeScriptUptoRow, standIns := [], harness := (true, "773806a949b0c1db960bbe1cef65cb19880244695348516ff54da80abff4af0d"), looks := true }, kinds := [], alts := [], laidByText := true, laidKinds := [.data, .data, .widerDeep, .widerDeep, .data, .data, .data, .data, .data, .data, .sentinel, .sentinel, .sentinel, .sentinel, .sentinel, .pinned, .pinned, .pinned, .pinned, .pinned, .pinned, .pinned, .pinned], laidTests := true, laidLooks := .later }
def FnDecodeScriptUptoCardSaid : Prop := Claim7.holds Tryz.pinned (.plain (OpenSpec.upto fnDecodeScriptSpec)) fnDecodeScriptUptoCard

/-- THE SECOND FORM's CARD OF 'laws.FnDecodeValues'. -/
def fnDecodeValuesUptoCard : Claim7 := { stood := { row := fnDecodeValuesUptoRow, standIns := [], harness := (true, "773806a949b0c1db960bbe1cef65cb19880244695348516ff54da80abff4af0d"), looks := true }, kinds := [], alts := [], laidByText := true, laidKinds := [.data, .data, .widerDeep, .widerDeep, .data, .data, .data, .data, .data, .data, .sentinel, .sentinel, .sentinel, .sentinel, .sentinel, .pinned, .pinned, .pinned, .pinned, .pinned, .pinned, .pinned, .pinned], laidTests := true, laidLooks := .later }
def FnDecodeValuesUptoCardSaid : Prop := Claim7.holds Tryz.pinned (.plain (OpenSpec.upto fnDecodeValuesSpec)) fnDecodeValuesUptoCard
end Rows
end Go.Proofs.YtkfggfjdplnkpaaGreatDoor
