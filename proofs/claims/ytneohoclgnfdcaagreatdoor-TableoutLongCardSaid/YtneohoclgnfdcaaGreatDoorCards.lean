/-
  DERIVED. GIVEN WITH THE SEED: THE CARDS: each row of YtneohoclgnfdcaaGreatDoorRows.lean that lists a variable, with what it lists TIED to the program's text (the seventh form; the later family's looks); each row that meets fmt, with fmt's text TOLD by the authors' own Lean function (tested against real Go, not proved from fmt's source: count such statements apart). THE CARD IS WHAT COUNTS. Prove the row's statement (the work); the ties are given (YtneohoclgnfdcaaGreatDoorTie.lean); close each card by the builder's one call (the guide's Derived/Test/ToyasCard.lean, 'card_holds'). Laid BY PROGRAM, IN A SANDBOX (cutbox-door.mjs). By AI agents, Wed Nov 11 2026. No macro, syntax, notation, axiom, sorry.
-/
import Derived.Test.YtneohoclgnfdcaaGreatDoorRows
import GoSem.ClaimSeven
namespace Go.Proofs.YtneohoclgnfdcaaGreatDoor
namespace Rows

/-- THE TIED CARD OF 'rosettalaw52.EventsLimits'. -/
def eventsLimitsCard : Claim7 := { stood := { row := eventsLimitsRow, standIns := [], harness := (true, "2372128566cf153ab83dc531837648af322433bbac4111f1bdf3e7af7f705ac6"), looks := true }, kinds := [], alts := [], laidByText := true, laidKinds := [.data, .data, .data, .data, .sentinel, .sentinel, .pinned], laidTests := true, laidLooks := .later }
def EventsLimitsCardSaid : Prop := Claim7.holds Tryz.pinned (.plain (OpenSpec.ofChange eventsLimitsSpec)) eventsLimitsCard

/-- THE TIED CARD OF 'rosettalaw41.TableoutLong'. -/
def tableoutLongCard : Claim7 := { stood := { row := tableoutLongRow, standIns := [], harness := (true, "2372128566cf153ab83dc531837648af322433bbac4111f1bdf3e7af7f705ac6"), looks := true }, kinds := [], alts := [], laidByText := true, laidKinds := [.data, .data, .data, .data, .sentinel, .sentinel, .data, .pinned], laidTests := true, laidLooks := .later }
def TableoutLongCardSaid : Prop := Claim7.holds Tryz.pinned (.plain (OpenSpec.ofChange tableoutLongSpec)) tableoutLongCard

/-- THE SECOND FORM's CARD OF 'rosettalaw52.EventsLimits'. -/
def eventsLimitsUptoCard : Claim7 := { stood := { row := eventsLimitsUptoRow, standIns := [], harness := (true, "2372128566cf153ab83dc531837648af322433bbac4111f1bdf3e7af7f705ac6"), looks := true }, kinds := [], alts := [], laidByText := true, laidKinds := [.data, .data, .data, .data, .sentinel, .sentinel, .pinned], laidTests := true, laidLooks := .later }
def EventsLimitsUptoCardSaid : Prop := Claim7.holds Tryz.pinned (.plain (OpenSpec.upto eventsLimitsSpec)) eventsLimitsUptoCard

/-- THE SECOND FORM's CARD OF 'rosettalaw41.TableoutLong'. -/
def tableoutLongUptoCard : Claim7 := { stood := { row := tableoutLongUptoRow, standIns := [], harness := (true, "2372128566cf153ab83dc531837648af322433bbac4111f1bdf3e7af7f705ac6"), looks := true }, kinds := [], alts := [], laidByText := true, laidKinds := [.data, .data, .data, .data, .sentinel, .sentinel, .data, .pinned], laidTests := true, laidLooks := .later }
def TableoutLongUptoCardSaid : Prop := Claim7.holds Tryz.pinned (.plain (OpenSpec.upto tableoutLongSpec)) tableoutLongUptoCard
end Rows
end Go.Proofs.YtneohoclgnfdcaaGreatDoor
