/- ScriptSettles: the commands of a script are printed as a script with the same commands, which is printed again as itself; and the chapter's examples hold. No condition: every string; the tables that the row lists as the program's text lays them, tied on the card. -/
import Derived.Test.YthcalnnipjflkaaGreatDoorP31
set_option linter.all false
namespace Go.Proofs.YthcalnnipjflkaaGreatDoor
open Go.ChangeShapes Go.WideShapes Go.ChangeAt Go.RowKit Go.Shelf
open Go.ChangeMaps (open_string shut_string)
theorem settles_card_holds:Rows.ScriptSettlesCardSaid:=
 Claim7.holds_tied_plain_at .later [] [.data,.data,.data,.data,.sentinel,.sentinel,.data,.pinned] true (true,"aeaae5928c35324359ff41a03ae1cf624efa22e35e1a658f89c8002b899df226") true
  ahE (λ_ h=>by cases h) iF (λ_ h=>by cases h) scriptSettles_row_tie rfl ⟨rfl,rfl⟩ iF rfl
  (λf fn hf b=>by
   obtain rfl:f=5:=Option.some.inj ((show Tryz.prog.funcNamed "rosetta/rosettalaw59.ScriptSettles" =some 5 by kernel_rfl).symm.trans hf) |>.symm;obtain rfl:fn=Tryz.f5:=(Option.some.inj (Tryz.func5.symm.trans b)).symm
   exact⟨iF,λj t a=>by
    rw[Tryz.params5]at a
    have c:t=9:=by
     rcases j with _|j
     ·simpa using a.symm
     ·simp at a
    subst c;exact(show Tryz.prog.wantsStandIn 9=false by kernel_rfl)⟩)
  iF
end Go.Proofs.YthcalnnipjflkaaGreatDoor
