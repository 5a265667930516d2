import Derived.Test.YtcipjifpigpfdaaGreatDoorLcYm
import Derived.Test.YtcipjifpigpfdaaGreatDoorLcJm
/- TableoutCells: the row's statement. -/
namespace Go.Proofs.YtcipjifpigpfdaaGreatDoor
open Go.ChangeShapes Go.WideShapes Go.ChangeAt Go.RowKit Go.Shelf
open Go.ChangeMaps (open_string shut_string)
theorem cells_holds : Rows.TableoutCellsSaid :=
  OpenClaim.holds_of_wide 3 Tryz.f3 rfl rfl rfl rfl rfl rfl rfl ⟨rfl, rfl, rfl, rfl, rfl⟩ rfl rfl rfl rfl rfl (by kernel_rfl) Tryz.func3 cells_joined
    (of_decide_eq_true (by kernel_rfl)) (by unfold Func.isWrapper; first | (rw [if_pos (by decide +kernel)]; kernel_rfl) | (rw [if_neg (by decide +kernel)]; exact ⟨rfl, rfl⟩))
    (fun os started H enc _ => cells_lifted os started H enc)
end Go.Proofs.YtcipjifpigpfdaaGreatDoor
