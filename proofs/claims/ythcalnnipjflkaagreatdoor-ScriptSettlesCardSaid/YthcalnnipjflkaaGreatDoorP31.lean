import Derived.Test.YthcalnnipjflkaaGreatDoorP01
import Derived.Test.YthcalnnipjflkaaGreatDoorP30
set_option linter.all false
namespace Go.Proofs.YthcalnnipjflkaaGreatDoor
open Go.ChangeShapes Go.WideShapes Go.ChangeAt Go.RowKit Go.Shelf
open Go.ChangeMaps (open_string shut_string)
theorem ahE:Rows.ScriptSettlesSaid:=
 OpenClaim.holds_of_wide 5 Tryz.f5 rfl rfl rfl rfl rfl rfl rfl ⟨rfl,rfl,rfl,rfl,rfl⟩ rfl rfl rfl rfl rfl iF Tryz.func5 ahD
  (of_decide_eq_true iF) (by unfold Func.isWrapper;first|(rw[gY (by decide+kernel)];kernel_rfl)|(rw[gZ (by decide+kernel)];exact⟨rfl,rfl⟩))
  (λos a H enc _=>ahC os a H enc)
