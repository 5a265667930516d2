/-
  DERIVED. GIVEN WITH THE SEED: THE CARDS: each row of YtcipjifpigpfdaaGreatDoorRows.lean that lists a variable, with what it lists TIED to the program's text (the seventh form; the later family's looks); each row that meets fmt, with fmt's text TOLD by the authors' own Lean function (tested against real Go, not proved from fmt's source: count such statements apart). THE CARD IS WHAT COUNTS. Prove the row's statement (the work); the ties are given (YtcipjifpigpfdaaGreatDoorTie.lean); close each card by the builder's one call (the guide's Derived/Test/ToyasCard.lean, 'card_holds'). Laid BY PROGRAM, IN A SANDBOX (cutbox-door.mjs). By AI agents, Wed Nov 11 2026. No macro, syntax, notation, axiom, sorry.
-/
import Derived.Test.YtcipjifpigpfdaaGreatDoorRows
import GoSem.ClaimSeven
namespace Go.Proofs.YtcipjifpigpfdaaGreatDoor
namespace Rows

/-- THE TIED CARD OF 'rosettalaw41.TableoutCells'. -/
def tableoutCellsCard : Claim7 := { stood := { row := tableoutCellsRow, standIns := [], harness := (true, "4c20424f7114afd64c4303fc96d265e6dfbdb473e0f1fd895127fac554f019e3"), looks := true }, kinds := [], alts := [], laidByText := true, laidKinds := [.data, .data, .data, .data, .sentinel, .sentinel, .data, .pinned], laidTests := true, laidLooks := .later }
def TableoutCellsCardSaid : Prop := Claim7.holds Tryz.pinned (.plain (OpenSpec.ofChange tableoutCellsSpec)) tableoutCellsCard

/-- THE SECOND FORM's CARD OF 'rosettalaw41.TableoutCells'. -/
def tableoutCellsUptoCard : Claim7 := { stood := { row := tableoutCellsUptoRow, standIns := [], harness := (true, "4c20424f7114afd64c4303fc96d265e6dfbdb473e0f1fd895127fac554f019e3"), looks := true }, kinds := [], alts := [], laidByText := true, laidKinds := [.data, .data, .data, .data, .sentinel, .sentinel, .data, .pinned], laidTests := true, laidLooks := .later }
def TableoutCellsUptoCardSaid : Prop := Claim7.holds Tryz.pinned (.plain (OpenSpec.upto tableoutCellsSpec)) tableoutCellsUptoCard
end Rows
end Go.Proofs.YtcipjifpigpfdaaGreatDoor
