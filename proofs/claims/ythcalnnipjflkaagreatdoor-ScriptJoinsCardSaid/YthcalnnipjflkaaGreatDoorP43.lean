import Derived.Test.YthcalnnipjflkaaGreatDoorP01
import Derived.Test.YthcalnnipjflkaaGreatDoorP42
set_option linter.all false
namespace Go.Proofs.YthcalnnipjflkaaGreatDoor
open Go.ChangeShapes Go.WideShapes Go.ChangeAt Go.RowKit Go.Shelf
open Go.ChangeMaps (open_string shut_string)
theorem ZZ:Rows.ScriptJoinsSaid:=
 OpenClaim.holds_of_wide 3 Tryz.f3 rfl rfl rfl rfl rfl rfl rfl ⟨rfl,rfl,rfl,rfl,rfl⟩ rfl rfl rfl rfl rfl iF Tryz.func3 ZY
  (of_decide_eq_true iF) (by unfold Func.isWrapper;first|(rw[gY (by decide+kernel)];kernel_rfl)|(rw[gZ (by decide+kernel)];exact⟨rfl,rfl⟩))
  (λos a H enc _=>ZX os a H enc)
end Go.Proofs.YthcalnnipjflkaaGreatDoor
