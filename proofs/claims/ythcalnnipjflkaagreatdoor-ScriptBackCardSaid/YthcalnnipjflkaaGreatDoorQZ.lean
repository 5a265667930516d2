/- ScriptBack: printed commands are parsed as themselves; and the chapter's examples hold. No condition: every slice of commands of the reference; the tables that the row lists as the program's text lays them, tied on the card. -/
import Derived.Test.YthcalnnipjflkaaGreatDoorQ31
set_option linter.all false
namespace Go.Proofs.YthcalnnipjflkaaGreatDoor
open Go.ChangeShapes Go.WideShapes Go.ChangeAt Go.RowKit Go.Shelf
open Go.ChangeMaps (open_string shut_string)
theorem back_card_holds:Rows.ScriptBackCardSaid:=
 Claim7.holds_tied_plain_at .later [] [.data,.data,.data,.data,.sentinel,.sentinel,.data,.pinned] true (true,"aeaae5928c35324359ff41a03ae1cf624efa22e35e1a658f89c8002b899df226") true
  ah0 (λ_ h=>by cases h) iF (λ_ h=>by cases h) scriptBack_row_tie rfl ⟨rfl,rfl⟩ iF rfl
  (λf fn hf b=>by
   obtain rfl:f=4:=Option.some.inj ((show Tryz.prog.funcNamed "rosetta/rosettalaw59.ScriptBack" =some 4 by kernel_rfl).symm.trans hf) |>.symm;obtain rfl:fn=Tryz.f4:=(Option.some.inj (Tryz.func4.symm.trans b)).symm
   exact⟨iF,λj t a=>by
    rw[Tryz.params4]at a
    have c:t=29:=by
     rcases j with _|j
     ·simpa using a.symm
     ·simp at a
    subst c;exact(show Tryz.prog.wantsStandIn 29=false by kernel_rfl)⟩)
  iF
end Go.Proofs.YthcalnnipjflkaaGreatDoor
