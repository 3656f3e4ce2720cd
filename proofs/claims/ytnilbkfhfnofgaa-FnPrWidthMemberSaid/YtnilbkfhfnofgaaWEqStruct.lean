/- Words of the print for this claim: laws on worlds, rows and kinds (those that are used). -/
import Derived.Test.YtnilbkfhfnofgaaWWords
import Derived.Laws.StructEq
namespace Go.Proofs.YtnilbkfhfnofgaaW.PrintWords
open Go.RowKit
section
variable {P : Program} {d : Nat} {xs ys : Array Value} {f : Field} {fs : List Field} {a b : Value} {r s : Bool} {w : World}
end
end Go.Proofs.YtnilbkfhfnofgaaW.PrintWords
