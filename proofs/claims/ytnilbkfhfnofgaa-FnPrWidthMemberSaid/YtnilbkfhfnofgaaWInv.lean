/- Words of the print for this claim: laws on worlds, rows and kinds (those that are used). -/
import Derived.Test.YtnilbkfhfnofgaaWTab
namespace Go.Proofs.YtnilbkfhfnofgaaW.PrintLast
/-- Number i is listed too. -/
def up (b : Nat → Bool) (i : Nat) : Nat → Bool := fun j => if j = i then true else b j
section
variable {P : Program} {ops : Array Oper} {Q : Exit → Act → World → Prop} {md : Region.Mode} {T : Bool × List (List Nat × List Nat)} {B : List Nat} {O : List Nat} {b : Nat → Bool} {i j n : Nat}
end
end Go.Proofs.YtnilbkfhfnofgaaW.PrintLast
