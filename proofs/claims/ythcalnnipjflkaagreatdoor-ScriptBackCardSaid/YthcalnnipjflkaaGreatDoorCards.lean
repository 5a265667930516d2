/-
  DERIVED. GIVEN WITH THE SEED: THE CARDS: each row of YthcalnnipjflkaaGreatDoorRows.lean that lists a variable, with what it lists TIED to the program's text (the seventh form; the later family's looks); each row that meets fmt, with fmt's text TOLD by the authors' own Lean function (tested against real Go, not proved from fmt's source: count such statements apart). THE CARD IS WHAT COUNTS. Prove the row's statement (the work); the ties are given (YthcalnnipjflkaaGreatDoorTie.lean); close each card by the builder's one call (the guide's Derived/Test/ToyasCard.lean, 'card_holds'). Laid BY PROGRAM, IN A SANDBOX (cutbox-door.mjs). By AI agents, Wed Nov 11 2026. No macro, syntax, notation, axiom, sorry.
-/
import Derived.Test.YthcalnnipjflkaaGreatDoorRows
import GoSem.ClaimSeven
namespace Go.Proofs.YthcalnnipjflkaaGreatDoor
namespace Rows

/-- THE TIED CARD OF 'rosettalaw59.ScriptJoins'. -/
def scriptJoinsCard : Claim7 := { stood := { row := scriptJoinsRow, standIns := [], harness := (true, "aeaae5928c35324359ff41a03ae1cf624efa22e35e1a658f89c8002b899df226"), looks := true }, kinds := [], alts := [], laidByText := true, laidKinds := [.data, .data, .data, .data, .sentinel, .sentinel, .data, .pinned], laidTests := true, laidLooks := .later }
def ScriptJoinsCardSaid : Prop := Claim7.holds Tryz.pinned (.plain (OpenSpec.ofChange scriptJoinsSpec)) scriptJoinsCard

/-- THE TIED CARD OF 'rosettalaw59.ScriptBack'. -/
def scriptBackCard : Claim7 := { stood := { row := scriptBackRow, standIns := [], harness := (true, "aeaae5928c35324359ff41a03ae1cf624efa22e35e1a658f89c8002b899df226"), looks := true }, kinds := [], alts := [], laidByText := true, laidKinds := [.data, .data, .data, .data, .sentinel, .sentinel, .data, .pinned], laidTests := true, laidLooks := .later }
def ScriptBackCardSaid : Prop := Claim7.holds Tryz.pinned (.plain (OpenSpec.ofChange scriptBackSpec)) scriptBackCard

/-- THE TIED CARD OF 'rosettalaw59.ScriptSettles'. -/
def scriptSettlesCard : Claim7 := { stood := { row := scriptSettlesRow, standIns := [], harness := (true, "aeaae5928c35324359ff41a03ae1cf624efa22e35e1a658f89c8002b899df226"), looks := true }, kinds := [], alts := [], laidByText := true, laidKinds := [.data, .data, .data, .data, .sentinel, .sentinel, .data, .pinned], laidTests := true, laidLooks := .later }
def ScriptSettlesCardSaid : Prop := Claim7.holds Tryz.pinned (.plain (OpenSpec.ofChange scriptSettlesSpec)) scriptSettlesCard

/-- THE SECOND FORM's CARD OF 'rosettalaw59.ScriptJoins'. -/
def scriptJoinsUptoCard : Claim7 := { stood := { row := scriptJoinsUptoRow, standIns := [], harness := (true, "aeaae5928c35324359ff41a03ae1cf624efa22e35e1a658f89c8002b899df226"), looks := true }, kinds := [], alts := [], laidByText := true, laidKinds := [.data, .data, .data, .data, .sentinel, .sentinel, .data, .pinned], laidTests := true, laidLooks := .later }
def ScriptJoinsUptoCardSaid : Prop := Claim7.holds Tryz.pinned (.plain (OpenSpec.upto scriptJoinsSpec)) scriptJoinsUptoCard

/-- THE SECOND FORM's CARD OF 'rosettalaw59.ScriptBack'. -/
def scriptBackUptoCard : Claim7 := { stood := { row := scriptBackUptoRow, standIns := [], harness := (true, "aeaae5928c35324359ff41a03ae1cf624efa22e35e1a658f89c8002b899df226"), looks := true }, kinds := [], alts := [], laidByText := true, laidKinds := [.data, .data, .data, .data, .sentinel, .sentinel, .data, .pinned], laidTests := true, laidLooks := .later }
def ScriptBackUptoCardSaid : Prop := Claim7.holds Tryz.pinned (.plain (OpenSpec.upto scriptBackSpec)) scriptBackUptoCard

/-- THE SECOND FORM's CARD OF 'rosettalaw59.ScriptSettles'. -/
def scriptSettlesUptoCard : Claim7 := { stood := { row := scriptSettlesUptoRow, standIns := [], harness := (true, "aeaae5928c35324359ff41a03ae1cf624efa22e35e1a658f89c8002b899df226"), looks := true }, kinds := [], alts := [], laidByText := true, laidKinds := [.data, .data, .data, .data, .sentinel, .sentinel, .data, .pinned], laidTests := true, laidLooks := .later }
def ScriptSettlesUptoCardSaid : Prop := Claim7.holds Tryz.pinned (.plain (OpenSpec.upto scriptSettlesSpec)) scriptSettlesUptoCard
end Rows
end Go.Proofs.YthcalnnipjflkaaGreatDoor
