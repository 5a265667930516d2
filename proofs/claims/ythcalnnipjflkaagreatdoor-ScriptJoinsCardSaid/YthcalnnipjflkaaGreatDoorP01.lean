import Derived.SevenTiedAt
import Derived.ProofKit
import Derived.Stop.Joined
import Derived.Test.YthcalnnipjflkaaGreatDoorH
import Derived.Test.YthcalnnipjflkaaGreatDoorTie
import Derived.Test.YthcalnnipjflkaaGreatDoorCards
set_option linter.all false
namespace Go.Proofs.YthcalnnipjflkaaGreatDoor
open Go.ChangeShapes Go.WideShapes Go.ChangeAt Go.RowKit
theorem ZY:joinedFacts Tryz.prog 3 Tryz.f3 Rows.scriptJoinsSpec Rows.scriptJoinsRow=true:=iF
end Go.Proofs.YthcalnnipjflkaaGreatDoor
