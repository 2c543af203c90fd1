/- Printed by program out of the translation, and struck smaller. -/
import Derived.Test.YtaageikelkcphaaGreatDoorWTab
namespace Go.Proofs.YtaageikelkcphaaGreatDoorW.PrintLast
section
variable {P : Program} {ops : Array Oper} {Q : Exit → Act → World → Prop} {md : Region.Mode} {S : World → Prop} {ds : List Nat} {T : Bool × List (List Nat × List Nat)}
end
end Go.Proofs.YtaageikelkcphaaGreatDoorW.PrintLast
