-- Written by a program of this session over the kit's printer: not by hand.
import Derived.Test.YtdheknlnhfegnaaDoorSd0
import Derived.Test.YtdheknlnhfegnaaDoorSd1
namespace Go.Proofs.YtdheknlnhfegnaaDoor.Sd
open Go.RowKit Go.Proofs.YtdheknlnhfegnaaDoor.K0  Go.Proofs.YtdheknlnhfegnaaDoorW.PrintWords Go.Proofs.YtdheknlnhfegnaaDoorW.PrintLast Go.Proofs.YtdheknlnhfegnaaDoorW.PrintMore
attribute [local go_sem] max2_int min2_int max_two min_two max_three min_three max_four min_four   -- for this text's walks alone
set_option linter.unusedVariables false
set_option linter.unusedSimpArgs false

end Go.Proofs.YtdheknlnhfegnaaDoor.Sd
