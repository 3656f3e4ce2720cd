/- Words of the print for this claim: laws on worlds, rows and kinds (those that are used). -/
import Derived.Test.YtnilbkfhfnofgaaWTab
namespace Go.Proofs.YtnilbkfhfnofgaaW.PrintLast
section
variable {P : Program} {ops : Array Oper} {Q : Exit → Act → World → Prop} {md : Region.Mode} {S : World → Prop} {ds : List Nat} {T : Bool × List (List Nat × List Nat)}
end
end Go.Proofs.YtnilbkfhfnofgaaW.PrintLast
