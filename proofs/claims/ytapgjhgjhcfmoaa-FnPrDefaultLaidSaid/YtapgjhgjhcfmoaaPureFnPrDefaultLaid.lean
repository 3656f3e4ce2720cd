/- Pretty of a JSON text without arrays that have elements writes what the reference Laid writes (the plain law over the contracts' Lean functions): no condition but the sizes that the law itself names. -/
import Derived.Test.YtapgjhgjhcfmoaaPFnPrDefaultLaidx
import Derived.Test.YtapgjhgjhcfmoaaPFnPrDefaultLaidq3
namespace Go.Proofs.Ytapgjhgjhcfmoaa.Pure
open Go.Proofs.Ytapgjhgjhcfmoaa.PFnPrDefaultLaid
theorem FnPrDefaultLaid : laws_FnPrDefaultLaid.Pure := fun a0 _ => default_laid a0
end Go.Proofs.Ytapgjhgjhcfmoaa.Pure
