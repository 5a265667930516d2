/-
  DERIVED. GIVEN WITH THE SEED: THE CARDS: each row of YtfnemklcmhilnaaGreatDoorRows.lean that lists a variable, with what it lists TIED to the program's text (the seventh form; the later family's looks); each row that meets fmt, with fmt's text TOLD by the authors' own Lean function (tested against real Go, not proved from fmt's source: count such statements apart). THE CARD IS WHAT COUNTS. Prove the row's statement (the work); the ties are given (YtfnemklcmhilnaaGreatDoorTie.lean); close each card by the builder's one call (the guide's Derived/Test/ToyasCard.lean, 'card_holds'). Laid BY PROGRAM, IN A SANDBOX (cutbox-door.mjs). By AI agents, Wed Nov 11 2026. No macro, syntax, notation, axiom, sorry.
-/
import Derived.Test.YtfnemklcmhilnaaGreatDoorRows
import GoSem.ClaimSeven
namespace Go.Proofs.YtfnemklcmhilnaaGreatDoor
namespace Rows

/-- THE TIED CARD OF 'rosettalaw59.ScriptTexts'. -/
def scriptTextsCard : Claim7 := { stood := { row := scriptTextsRow, standIns := [], harness := (true, "b7c67dc180ddb160b097735cd3e7b7e031225c0f7c42453a0fe25f82b6d91e71"), looks := true }, kinds := [], alts := [], laidByText := true, laidKinds := [.data, .data, .data, .data, .sentinel, .sentinel, .data, .pinned], laidTests := true, laidLooks := .later }
def ScriptTextsCardSaid : Prop := Claim7.holds Tryz.pinned (.plain (OpenSpec.ofChange scriptTextsSpec)) scriptTextsCard

/-- THE SECOND FORM's CARD OF 'rosettalaw59.ScriptTexts'. -/
def scriptTextsUptoCard : Claim7 := { stood := { row := scriptTextsUptoRow, standIns := [], harness := (true, "b7c67dc180ddb160b097735cd3e7b7e031225c0f7c42453a0fe25f82b6d91e71"), looks := true }, kinds := [], alts := [], laidByText := true, laidKinds := [.data, .data, .data, .data, .sentinel, .sentinel, .data, .pinned], laidTests := true, laidLooks := .later }
def ScriptTextsUptoCardSaid : Prop := Claim7.holds Tryz.pinned (.plain (OpenSpec.upto scriptTextsSpec)) scriptTextsUptoCard
end Rows
end Go.Proofs.YtfnemklcmhilnaaGreatDoor
