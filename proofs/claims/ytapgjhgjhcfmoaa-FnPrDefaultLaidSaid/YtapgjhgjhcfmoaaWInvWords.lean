/- Words of the print for this claim: laws on worlds, rows and kinds (those that are used). -/
import Derived.Test.YtapgjhgjhcfmoaaWInv
import Derived.Test.YtapgjhgjhcfmoaaWFootNe
namespace Go.Proofs.YtapgjhgjhcfmoaaW.PrintWords
open Go.RowKit
end Go.Proofs.YtapgjhgjhcfmoaaW.PrintWords
namespace Go.Proofs.YtapgjhgjhcfmoaaW.PrintLast
section
variable {ops : Array Oper} {a : Act} {o og : Oper} {g : Nat} {t : Tmp} {u : Bool}
end
end Go.Proofs.YtapgjhgjhcfmoaaW.PrintLast
