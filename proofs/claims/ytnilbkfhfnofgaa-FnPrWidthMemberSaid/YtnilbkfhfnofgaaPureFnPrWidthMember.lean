/- The plain law: what the contracts' Lean functions of FnPrWidthMember compute is true, at every two strings and options: no condition but the sizes that the law itself names. -/
import Derived.Test.YtnilbkfhfnofgaaPFnPrWidthMemberq2
namespace Go.Proofs.Ytnilbkfhfnofgaa.Pure
open Go.Proofs.Ytnilbkfhfnofgaa.PFnPrWidthMember
def Stated : Prop := ∀ (a0 a1 : ByteArray) (a2_0 : Int) (a2_1 a2_2 : ByteArray) (a2_3 : Bool), ∃ k, lFn.f k a0 a1 a2_0 a2_1 a2_2 a2_3 = some true
theorem FnPrWidthMember : Stated := fun a0 a1 a2_0 a2_1 a2_2 a2_3 => width_member a0 a1 a2_0 a2_1 a2_2 a2_3
end Go.Proofs.Ytnilbkfhfnofgaa.Pure
