import Derived.SevenTiedAt
import Derived.ProofKit
import Derived.Stop.Joined
import Derived.Test.YtcipjifpigpfdaaGreatDoorTie
import Derived.Test.YtcipjifpigpfdaaGreatDoorCards
/- TableoutCells: the facts of the claim's row (one great evaluation, in a text of its own: 9 GB). -/
namespace Go.Proofs.YtcipjifpigpfdaaGreatDoor
open Go.ChangeShapes Go.WideShapes Go.ChangeAt Go.RowKit
theorem cells_joined : joinedFacts Tryz.prog 3 Tryz.f3 Rows.tableoutCellsSpec Rows.tableoutCellsRow = true := by kernel_rfl
end Go.Proofs.YtcipjifpigpfdaaGreatDoor
