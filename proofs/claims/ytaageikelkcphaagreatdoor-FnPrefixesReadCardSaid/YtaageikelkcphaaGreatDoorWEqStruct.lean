/- Printed by program out of the translation, and struck smaller. -/
import Derived.Test.YtaageikelkcphaaGreatDoorWWords
import Derived.Laws.StructEq
namespace Go.Proofs.YtaageikelkcphaaGreatDoorW.PrintWords
open Go.RowKit
section
variable {P : Program} {d : Nat} {xs ys : Array Value} {f : Field} {fs : List Field} {a b : Value} {r s : Bool} {w : World}
end
end Go.Proofs.YtaageikelkcphaaGreatDoorW.PrintWords
