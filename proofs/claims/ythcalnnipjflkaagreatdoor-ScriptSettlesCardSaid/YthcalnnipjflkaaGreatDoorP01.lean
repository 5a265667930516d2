import Derived.SevenTiedAt
import Derived.ProofKit
import Derived.Stop.Joined
import Derived.Test.YthcalnnipjflkaaGreatDoorH
import Derived.Test.YthcalnnipjflkaaGreatDoorTie
import Derived.Test.YthcalnnipjflkaaGreatDoorCards
set_option linter.all false
namespace Go.Proofs.YthcalnnipjflkaaGreatDoor
open Go.ChangeShapes Go.WideShapes Go.ChangeAt Go.RowKit
theorem ahD:joinedFacts Tryz.prog 5 Tryz.f5 Rows.scriptSettlesSpec Rows.scriptSettlesRow=true:=iF
