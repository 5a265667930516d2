import Derived.ProofKit
import Derived.SevenTiedAt
import Derived.Stop.Joined
import Derived.Test.YthcalnnipjflkaaGreatDoorH
import Derived.Test.YthcalnnipjflkaaGreatDoorTie
import Derived.Test.YthcalnnipjflkaaGreatDoorCards
set_option linter.all false
namespace Go.Proofs.YthcalnnipjflkaaGreatDoor
open Go.ChangeShapes Go.WideShapes Go.ChangeAt Go.RowKit
theorem ahZ:joinedFacts Tryz.prog 4 Tryz.f4 Rows.scriptBackSpec Rows.scriptBackRow=true:=iF
