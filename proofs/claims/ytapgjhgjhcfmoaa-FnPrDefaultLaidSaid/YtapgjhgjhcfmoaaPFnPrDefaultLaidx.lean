/- Contracts of Go functions of this seat: for each a Lean function over numbers and lists and a proof that the Go function, called in any memory, returns what it gives. Made by program. -/
import Derived.Test.YtapgjhgjhcfmoaaPFnPrDefaultLaidx0
import Derived.Test.YtapgjhgjhcfmoaaPFnPrDefaultLaidx1
import Derived.Test.YtapgjhgjhcfmoaaPFnPrDefaultLaidx2
import Derived.Test.YtapgjhgjhcfmoaaPFnPrDefaultLaidx3
import Derived.Test.YtapgjhgjhcfmoaaPFnPrDefaultLaidx4
import Derived.Test.YtapgjhgjhcfmoaaPFnPrDefaultLaidx5
import Derived.Test.YtapgjhgjhcfmoaaPFnPrDefaultLaidx6
import Derived.Test.YtapgjhgjhcfmoaaPFnPrDefaultLaidx7
import Derived.Test.YtapgjhgjhcfmoaaPFnPrDefaultLaidx8
import Derived.Test.YtapgjhgjhcfmoaaPFnPrDefaultLaidx9
import Derived.Test.YtapgjhgjhcfmoaaPFnPrDefaultLaidx10
import Derived.Test.YtapgjhgjhcfmoaaPFnPrDefaultLaidx11
import Derived.Test.YtapgjhgjhcfmoaaPFnPrDefaultLaidx12
import Derived.Test.YtapgjhgjhcfmoaaPFnPrDefaultLaidx13
import Derived.Test.YtapgjhgjhcfmoaaPFnPrDefaultLaidx14
namespace Go.Proofs.Ytapgjhgjhcfmoaa.PFnPrDefaultLaid
open Go.RowKit Go.Proofs.YtapgjhgjhcfmoaaW.PrintWords Go.Proofs.YtapgjhgjhcfmoaaW.PrintLast Go.Proofs.YtapgjhgjhcfmoaaW.PrintMore
attribute [local go_sem] max2_int min2_int max_two min_two max_three min_three max_four min_four   -- for this text's walks alone
set_option linter.unusedVariables false
set_option linter.unusedSimpArgs false

end Go.Proofs.Ytapgjhgjhcfmoaa.PFnPrDefaultLaid
