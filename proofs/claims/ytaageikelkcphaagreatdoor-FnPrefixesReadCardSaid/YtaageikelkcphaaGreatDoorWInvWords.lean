/- Printed by program out of the translation, and struck smaller. -/
import Derived.Test.YtaageikelkcphaaGreatDoorWInv
import Derived.Test.YtaageikelkcphaaGreatDoorWFootNe
namespace Go.Proofs.YtaageikelkcphaaGreatDoorW.PrintWords
open Go.RowKit
end Go.Proofs.YtaageikelkcphaaGreatDoorW.PrintWords
namespace Go.Proofs.YtaageikelkcphaaGreatDoorW.PrintLast
section
variable {ops : Array Oper} {a : Act} {o og : Oper} {g : Nat} {t : Tmp} {u : Bool}
end
end Go.Proofs.YtaageikelkcphaaGreatDoorW.PrintLast
