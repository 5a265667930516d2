import Derived.Test.YthcalnnipjflkaaGreatDoorQ01
import Derived.Test.YthcalnnipjflkaaGreatDoorQ30
set_option linter.all false
namespace Go.Proofs.YthcalnnipjflkaaGreatDoor
open Go.ChangeShapes Go.WideShapes Go.ChangeAt Go.RowKit Go.Shelf
open Go.ChangeMaps (open_string shut_string)
theorem ah0:Rows.ScriptBackSaid:=
 OpenClaim.holds_of_wide 4 Tryz.f4 rfl rfl rfl rfl rfl rfl rfl ⟨rfl,rfl,rfl,rfl,rfl⟩ rfl rfl rfl rfl rfl iF Tryz.func4 ahZ
  (of_decide_eq_true iF) (by unfold Func.isWrapper;first|(rw[gY (by decide+kernel)];kernel_rfl)|(rw[gZ (by decide+kernel)];exact⟨rfl,rfl⟩))
  (λos a H enc _=>ahY os a H enc)
