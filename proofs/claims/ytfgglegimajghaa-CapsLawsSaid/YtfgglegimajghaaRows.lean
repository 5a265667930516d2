/-
  No cell of these rows narrows 'for every input' (looked for: loops, veiled, ifaces, maps, wideKeys, modest, calm, conditions, laid).
  DERIVED. THE GIVEN ROWS OF THIS SEAT. 6 by the template 'for every input the law returns true; each argument reads behind the call as it read before'; 0 by the template 'total and deterministic' (their statements: YtfgglegimajghaaTotals.lean).
  GIVEN WITH THE SEED: the statements are not yours to turn. If you find one false, say at which input.
  Laid BY PROGRAM, IN A SANDBOX (cutbox-rows.mjs): the forced cells as the released guide's own fill.sh prints them over the translation 9dd9dd15ead1d092… (all of the seat's roots in one cut). By AI agents, Wed Nov 11 2026. No macro, syntax, notation, axiom, sorry.
-/
import Derived.Test.YtfgglegimajghaaChecked
import GoSem.Claim
import GoSem.ClaimJoined
import GoSem.ClaimMapViews
import Derived.JoinedTies
import Derived.KernelRfl
namespace Go.Proofs.Ytfgglegimajghaa
/- THE CELL 'sum', in the pinned program and in every row, IS THE sha256 OF THE DUMP (.gsa) THAT YtfgglegimajghaaProg.lean LOADS. Nothing in Lean hashes anything: it is a label: what it is worth is what the hold of that sum in a sandbox is worth. -/
noncomputable def Try.pinned : Pinned := { name := "ytfgglegimajghaa", sum := "9dd9dd15ead1d0926d1eab9ed36d18f8989a4718cf90d0d15f9e0f9351927d7e", checked := Try.checked }
namespace Rows
def none {H : Type} : Left H := { results := [], args := [] }

/-- 'rosettalaw42.CapsFormats': WHATEVER THE INPUT: true; the input reads as it did. -/
def capsFormatsSpec : ChangeSpec := { name := "capsFormats", fn := fun _ => fun
  | [d] => { results := [.lit (.bool true)], args := [d] }
  | _ => none }
def capsFormatsRow : OpenClaim := { program := "ytfgglegimajghaa", sum := "9dd9dd15ead1d0926d1eab9ed36d18f8989a4718cf90d0d15f9e0f9351927d7e", func := "rosetta/rosettalaw42.CapsFormats", spec := "capsFormats", unfollowed := true, recurses := true, apart := false }
def CapsFormatsSaid : Prop := capsFormatsRow.holds Try.pinned (OpenSpec.ofChange capsFormatsSpec)

/-- ITS FALSE NEIGHBOUR: 'it returns false'. Refute it at one input. -/
def capsFormatsWrong : ChangeSpec := { name := "capsFormats", fn := fun _ => fun
  | [d] => { results := [.lit (.bool false)], args := [d] }
  | _ => none }
def CapsFormatsWrongFalsely : Prop := capsFormatsRow.holds Try.pinned (OpenSpec.ofChange capsFormatsWrong)

/-- 'rosettalaw42.CapsOrders': WHATEVER THE INPUT: true; the input reads as it did. -/
def capsOrdersSpec : ChangeSpec := { name := "capsOrders", fn := fun _ => fun
  | [d1, d2] => { results := [.lit (.bool true)], args := [d1, d2] }
  | _ => none }
def capsOrdersRow : OpenClaim := { program := "ytfgglegimajghaa", sum := "9dd9dd15ead1d0926d1eab9ed36d18f8989a4718cf90d0d15f9e0f9351927d7e", func := "rosetta/rosettalaw42.CapsOrders", spec := "capsOrders", unfollowed := true, recurses := true, apart := false }
def CapsOrdersSaid : Prop := capsOrdersRow.holds Try.pinned (OpenSpec.ofChange capsOrdersSpec)

/-- ITS FALSE NEIGHBOUR: 'it returns false'. Refute it at one input. -/
def capsOrdersWrong : ChangeSpec := { name := "capsOrders", fn := fun _ => fun
  | [d1, d2] => { results := [.lit (.bool false)], args := [d1, d2] }
  | _ => none }
def CapsOrdersWrongFalsely : Prop := capsOrdersRow.holds Try.pinned (OpenSpec.ofChange capsOrdersWrong)

/-- 'rosettalaw42.CapsMeets': WHATEVER THE INPUT: true; the input reads as it did. -/
def capsMeetsSpec : ChangeSpec := { name := "capsMeets", fn := fun _ => fun
  | [d1, d2] => { results := [.lit (.bool true)], args := [d1, d2] }
  | _ => none }
def capsMeetsRow : OpenClaim := { program := "ytfgglegimajghaa", sum := "9dd9dd15ead1d0926d1eab9ed36d18f8989a4718cf90d0d15f9e0f9351927d7e", func := "rosetta/rosettalaw42.CapsMeets", spec := "capsMeets", unfollowed := true, recurses := true, apart := false }
def CapsMeetsSaid : Prop := capsMeetsRow.holds Try.pinned (OpenSpec.ofChange capsMeetsSpec)

/-- ITS FALSE NEIGHBOUR: 'it returns false'. Refute it at one input. -/
def capsMeetsWrong : ChangeSpec := { name := "capsMeets", fn := fun _ => fun
  | [d1, d2] => { results := [.lit (.bool false)], args := [d1, d2] }
  | _ => none }
def CapsMeetsWrongFalsely : Prop := capsMeetsRow.holds Try.pinned (OpenSpec.ofChange capsMeetsWrong)

/-- 'rosettalaw42.CapsBounds': WHATEVER THE INPUT: true; the input reads as it did. -/
def capsBoundsSpec : ChangeSpec := { name := "capsBounds", fn := fun _ => fun
  | [d] => { results := [.lit (.bool true)], args := [d] }
  | _ => none }
def capsBoundsRow : OpenClaim := { program := "ytfgglegimajghaa", sum := "9dd9dd15ead1d0926d1eab9ed36d18f8989a4718cf90d0d15f9e0f9351927d7e", func := "rosetta/rosettalaw42.CapsBounds", spec := "capsBounds", unfollowed := true, recurses := true, apart := false }
def CapsBoundsSaid : Prop := capsBoundsRow.holds Try.pinned (OpenSpec.ofChange capsBoundsSpec)

/-- ITS FALSE NEIGHBOUR: 'it returns false'. Refute it at one input. -/
def capsBoundsWrong : ChangeSpec := { name := "capsBounds", fn := fun _ => fun
  | [d] => { results := [.lit (.bool false)], args := [d] }
  | _ => none }
def CapsBoundsWrongFalsely : Prop := capsBoundsRow.holds Try.pinned (OpenSpec.ofChange capsBoundsWrong)

/-- 'rosettalaw42.CapsLaws': WHATEVER THE INPUT: true; the input reads as it did. -/
def capsLawsSpec : ChangeSpec := { name := "capsLaws", fn := fun _ => fun
  | [d] => { results := [.lit (.bool true)], args := [d] }
  | _ => none }
def capsLawsRow : OpenClaim := { program := "ytfgglegimajghaa", sum := "9dd9dd15ead1d0926d1eab9ed36d18f8989a4718cf90d0d15f9e0f9351927d7e", func := "rosetta/rosettalaw42.CapsLaws", spec := "capsLaws", unfollowed := true, recurses := true, apart := false }
def CapsLawsSaid : Prop := capsLawsRow.holds Try.pinned (OpenSpec.ofChange capsLawsSpec)

/-- ITS FALSE NEIGHBOUR: 'it returns false'. Refute it at one input. -/
def capsLawsWrong : ChangeSpec := { name := "capsLaws", fn := fun _ => fun
  | [d] => { results := [.lit (.bool false)], args := [d] }
  | _ => none }
def CapsLawsWrongFalsely : Prop := capsLawsRow.holds Try.pinned (OpenSpec.ofChange capsLawsWrong)

/-- 'rosettalaw42.CapsNests': WHATEVER THE INPUT: true; the input reads as it did. -/
def capsNestsSpec : ChangeSpec := { name := "capsNests", fn := fun _ => fun
  | [d1, d2] => { results := [.lit (.bool true)], args := [d1, d2] }
  | _ => none }
def capsNestsRow : OpenClaim := { program := "ytfgglegimajghaa", sum := "9dd9dd15ead1d0926d1eab9ed36d18f8989a4718cf90d0d15f9e0f9351927d7e", func := "rosetta/rosettalaw42.CapsNests", spec := "capsNests", unfollowed := true, recurses := true, apart := false }
def CapsNestsSaid : Prop := capsNestsRow.holds Try.pinned (OpenSpec.ofChange capsNestsSpec)

/-- ITS FALSE NEIGHBOUR: 'it returns false'. Refute it at one input. -/
def capsNestsWrong : ChangeSpec := { name := "capsNests", fn := fun _ => fun
  | [d1, d2] => { results := [.lit (.bool false)], args := [d1, d2] }
  | _ => none }
def CapsNestsWrongFalsely : Prop := capsNestsRow.holds Try.pinned (OpenSpec.ofChange capsNestsWrong)

/- THE SECOND FORM. 'bulk': how many values and letters a reading holds, each counted each time it is reached (what is shared counts as often as it is met; a slice's spare places count too). A statement '..UptoSaid' is the law's where the arguments, and the package variables that the reading takes, are together of bulk at most 1048576: NARROWER than '..Said'. Prove '..Said' where nothing that the law and all that it calls make is longer than what came in: it says more and counts as full. Else prove '..UptoSaid'. A law counts once. -/
mutual
def uptoBulk {H : Type} : DataW H → Nat
  | .lit (.string bytes) => bytes.length + 1
  | .lit _ => 1
  | .nil => 1
  | .ptr d => uptoBulk d + 1
  | .slice elems spare => uptoBulkAll elems + uptoBulkAll spare + 1
  | .agg parts => uptoBulkAll parts + 1
  | .iface _ d => uptoBulk d + 1
  | .map entries => uptoBulkEntries entries + 1
  | .held _ => 1
def uptoBulkAll {H : Type} : List (DataW H) → Nat
  | [] => 0
  | d :: r => uptoBulk d + uptoBulkAll r
def uptoBulkEntries {H : Type} : List (Lit × DataW H) → Nat
  | [] => 0
  | x :: r => uptoBulkEntry x + uptoBulkEntries r
def uptoBulkEntry {H : Type} : Lit × DataW H → Nat
  | (.string bytes, d) => bytes.length + uptoBulk d + 1
  | (_, d) => uptoBulk d + 1
 end
def uptoSmall : (H : Type) → List (DataW H) → Bool := fun _ ds => decide (uptoBulkAll ds ≤ 1048576)
def OpenSpec.upto (s : _root_.Go.ChangeSpec) : _root_.Go.OpenSpec := { _root_.Go.OpenSpec.ofChange s with cond := some uptoSmall }

/-- 'rosettalaw42.CapsFormats', WHERE WHAT IT READS IS OF BULK AT MOST 1048576: true; the input reads as it did. -/
def capsFormatsUptoRow : OpenClaim := { program := "ytfgglegimajghaa", sum := "9dd9dd15ead1d0926d1eab9ed36d18f8989a4718cf90d0d15f9e0f9351927d7e", func := "rosetta/rosettalaw42.CapsFormats", spec := "capsFormats", unfollowed := true, recurses := true, apart := false, narrowed := true }
def CapsFormatsUptoSaid : Prop := capsFormatsUptoRow.holds Try.pinned (OpenSpec.upto capsFormatsSpec)

/-- 'rosettalaw42.CapsOrders', WHERE WHAT IT READS IS OF BULK AT MOST 1048576: true; the input reads as it did. -/
def capsOrdersUptoRow : OpenClaim := { program := "ytfgglegimajghaa", sum := "9dd9dd15ead1d0926d1eab9ed36d18f8989a4718cf90d0d15f9e0f9351927d7e", func := "rosetta/rosettalaw42.CapsOrders", spec := "capsOrders", unfollowed := true, recurses := true, apart := false, narrowed := true }
def CapsOrdersUptoSaid : Prop := capsOrdersUptoRow.holds Try.pinned (OpenSpec.upto capsOrdersSpec)

/-- 'rosettalaw42.CapsMeets', WHERE WHAT IT READS IS OF BULK AT MOST 1048576: true; the input reads as it did. -/
def capsMeetsUptoRow : OpenClaim := { program := "ytfgglegimajghaa", sum := "9dd9dd15ead1d0926d1eab9ed36d18f8989a4718cf90d0d15f9e0f9351927d7e", func := "rosetta/rosettalaw42.CapsMeets", spec := "capsMeets", unfollowed := true, recurses := true, apart := false, narrowed := true }
def CapsMeetsUptoSaid : Prop := capsMeetsUptoRow.holds Try.pinned (OpenSpec.upto capsMeetsSpec)

/-- 'rosettalaw42.CapsBounds', WHERE WHAT IT READS IS OF BULK AT MOST 1048576: true; the input reads as it did. -/
def capsBoundsUptoRow : OpenClaim := { program := "ytfgglegimajghaa", sum := "9dd9dd15ead1d0926d1eab9ed36d18f8989a4718cf90d0d15f9e0f9351927d7e", func := "rosetta/rosettalaw42.CapsBounds", spec := "capsBounds", unfollowed := true, recurses := true, apart := false, narrowed := true }
def CapsBoundsUptoSaid : Prop := capsBoundsUptoRow.holds Try.pinned (OpenSpec.upto capsBoundsSpec)

/-- 'rosettalaw42.CapsLaws', WHERE WHAT IT READS IS OF BULK AT MOST 1048576: true; the input reads as it did. -/
def capsLawsUptoRow : OpenClaim := { program := "ytfgglegimajghaa", sum := "9dd9dd15ead1d0926d1eab9ed36d18f8989a4718cf90d0d15f9e0f9351927d7e", func := "rosetta/rosettalaw42.CapsLaws", spec := "capsLaws", unfollowed := true, recurses := true, apart := false, narrowed := true }
def CapsLawsUptoSaid : Prop := capsLawsUptoRow.holds Try.pinned (OpenSpec.upto capsLawsSpec)

/-- 'rosettalaw42.CapsNests', WHERE WHAT IT READS IS OF BULK AT MOST 1048576: true; the input reads as it did. -/
def capsNestsUptoRow : OpenClaim := { program := "ytfgglegimajghaa", sum := "9dd9dd15ead1d0926d1eab9ed36d18f8989a4718cf90d0d15f9e0f9351927d7e", func := "rosetta/rosettalaw42.CapsNests", spec := "capsNests", unfollowed := true, recurses := true, apart := false, narrowed := true }
def CapsNestsUptoSaid : Prop := capsNestsUptoRow.holds Try.pinned (OpenSpec.upto capsNestsSpec)

end Rows
end Go.Proofs.Ytfgglegimajghaa
