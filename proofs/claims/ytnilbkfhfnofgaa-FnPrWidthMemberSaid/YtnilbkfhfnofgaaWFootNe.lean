/- Words of the print for this claim: laws on worlds, rows and kinds (those that are used). -/
import Derived.Test.YtnilbkfhfnofgaaWN
namespace Go.Proofs.YtnilbkfhfnofgaaW.PrintWords
open Go.RowKit
namespace Kd
section
variable {α : Type} {d : Kd α} {W : World} {g n : Nat} {S ok : Nat → Prop} {A : Option Addr} {ad : Addr} {xs : List α}
end
end Kd
end Go.Proofs.YtnilbkfhfnofgaaW.PrintWords
