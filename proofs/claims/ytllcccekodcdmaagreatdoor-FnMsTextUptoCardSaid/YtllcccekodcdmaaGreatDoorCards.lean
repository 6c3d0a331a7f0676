/-
  DERIVED. GIVEN WITH THE SEED: THE CARDS: each row of YtllcccekodcdmaaGreatDoorRows.lean that lists a variable, with what it lists TIED to the program's text (the seventh form; the later family's looks); each row that meets fmt, with fmt's text TOLD by the authors' own Lean function (tested against real Go, not proved from fmt's source: count such statements apart). THE CARD IS WHAT COUNTS. Prove the row's statement (the work); the ties are given (YtllcccekodcdmaaGreatDoorTie.lean); close each card by the builder's one call (the guide's Derived/Test/ToyasCard.lean, 'card_holds'). Laid BY PROGRAM, IN A SANDBOX (cutbox-door.mjs). By AI agents, Wed Nov 11 2026. No macro, syntax, notation, axiom, sorry.
-/
import Derived.Test.YtllcccekodcdmaaGreatDoorRows
import GoSem.ClaimSeven
namespace Go.Proofs.YtllcccekodcdmaaGreatDoor
namespace Rows

/-- THE TIED CARD OF 'laws.FnMsText'. -/
def fnMsTextCard : Claim7 := { stood := { row := fnMsTextRow, standIns := [], harness := (true, "f0f9399138175cc05f9b919d00b374427d1bc525790a5fbe320ff4a75e35de0e"), looks := true }, kinds := [], alts := [], laidByText := true, laidKinds := [.data, .data, .data, .data, .data, .sentinel, .wider, .sentinel, .sentinel, .pinned, .pinned, .pinned, .pinned, .pinned, .pinned, .pinned, .pinned], laidTests := true, laidLooks := .later }
def FnMsTextCardSaid : Prop := Claim7.holds Tryz.pinned (.plain (OpenSpec.ofChange fnMsTextSpec)) fnMsTextCard

/-- THE SECOND FORM's CARD OF 'laws.FnMsText'. -/
def fnMsTextUptoCard : Claim7 := { stood := { row := fnMsTextUptoRow, standIns := [], harness := (true, "f0f9399138175cc05f9b919d00b374427d1bc525790a5fbe320ff4a75e35de0e"), looks := true }, kinds := [], alts := [], laidByText := true, laidKinds := [.data, .data, .data, .data, .data, .sentinel, .wider, .sentinel, .sentinel, .pinned, .pinned, .pinned, .pinned, .pinned, .pinned, .pinned, .pinned], laidTests := true, laidLooks := .later }
def FnMsTextUptoCardSaid : Prop := Claim7.holds Tryz.pinned (.plain (OpenSpec.upto fnMsTextSpec)) fnMsTextUptoCard
end Rows
end Go.Proofs.YtllcccekodcdmaaGreatDoor
