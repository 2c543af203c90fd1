/- Printed by program out of the translation, and struck smaller. -/
import Derived.Test.YtaageikelkcphaaGreatDoorWApart
import Derived.Test.YtaageikelkcphaaGreatDoorWArr
namespace Go.Proofs.YtaageikelkcphaaGreatDoorW.PrintWords
open Go.RowKit
section
variable {P : Program}
end
namespace Kd
section
variable {P : Program} {ops : Array Oper} {rest : List Oper} {o : Oper} {a : Act} {Q : Exit → Act → World → Prop} {Kc : Act → World → Prop} {α : Type}
end
section
variable {α : Type} {d : Kd α} {e : Nat} {w : World} {base : Nat} {ok : Nat → Prop} {v : Value} {xs : List α}
def zipO (xs : List α) (z : α) (m : Nat) : List (α × Option Nat) := xs.zipIdx.map (fun p => (p.1, some p.2)) ++ List.replicate m (z, none)
end
section
variable {P : Program} {ops : Array Oper} {rest : List Oper} {o : Oper} {a : Act} {Q : Exit → Act → World → Prop} {Kc : Act → World → Prop} {α : Type}
end
end Kd
end Go.Proofs.YtaageikelkcphaaGreatDoorW.PrintWords
