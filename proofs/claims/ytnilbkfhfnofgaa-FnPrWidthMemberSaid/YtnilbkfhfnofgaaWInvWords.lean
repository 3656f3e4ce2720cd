/- Words of the print for this claim: laws on worlds, rows and kinds (those that are used). -/
import Derived.Test.YtnilbkfhfnofgaaWInv
import Derived.Test.YtnilbkfhfnofgaaWFootNe
namespace Go.Proofs.YtnilbkfhfnofgaaW.PrintWords
open Go.RowKit
end Go.Proofs.YtnilbkfhfnofgaaW.PrintWords
namespace Go.Proofs.YtnilbkfhfnofgaaW.PrintLast
section
variable {ops : Array Oper} {a : Act} {o og : Oper} {g : Nat} {t : Tmp} {u : Bool}
end
end Go.Proofs.YtnilbkfhfnofgaaW.PrintLast
