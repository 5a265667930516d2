/-
  DERIVED. GIVEN WITH THE SEED: THE CARDS: each row of YtgnclgbmfmibiaaGreatDoorRows.lean that lists a variable, with what it lists TIED to the program's text (the seventh form; the later family's looks); each row that meets fmt, with fmt's text TOLD by the authors' own Lean function (tested against real Go, not proved from fmt's source: count such statements apart). THE CARD IS WHAT COUNTS. Prove the row's statement (the work); the ties are given (YtgnclgbmfmibiaaGreatDoorTie.lean); close each card by the builder's one call (the guide's Derived/Test/ToyasCard.lean, 'card_holds'). Laid BY PROGRAM, IN A SANDBOX (cutbox-door.mjs). By AI agents, Wed Nov 11 2026. No macro, syntax, notation, axiom, sorry.
-/
import Derived.Test.YtgnclgbmfmibiaaGreatDoorRows
import GoSem.ClaimSeven
namespace Go.Proofs.YtgnclgbmfmibiaaGreatDoor
namespace Rows

/-- THE TIED CARD OF 'rosettalaw11.CanonLong'. -/
def canonLongCard : Claim7 := { stood := { row := canonLongRow, standIns := [], harness := (true, "8f5f3f4d23b26d07565b7594f2e0cfddc50e62d8732b7f99ba8e33500218854b"), looks := true }, kinds := [], alts := [], laidByText := true, laidKinds := [.data, .data, .data, .data, .sentinel, .sentinel, .pinned], laidTests := true, laidLooks := .later }
def CanonLongCardSaid : Prop := Claim7.holds Tryz.pinned (.plain (OpenSpec.ofChange canonLongSpec)) canonLongCard

/-- THE SECOND FORM's CARD OF 'rosettalaw11.CanonLong'. -/
def canonLongUptoCard : Claim7 := { stood := { row := canonLongUptoRow, standIns := [], harness := (true, "8f5f3f4d23b26d07565b7594f2e0cfddc50e62d8732b7f99ba8e33500218854b"), looks := true }, kinds := [], alts := [], laidByText := true, laidKinds := [.data, .data, .data, .data, .sentinel, .sentinel, .pinned], laidTests := true, laidLooks := .later }
def CanonLongUptoCardSaid : Prop := Claim7.holds Tryz.pinned (.plain (OpenSpec.upto canonLongSpec)) canonLongUptoCard
end Rows
end Go.Proofs.YtgnclgbmfmibiaaGreatDoor
