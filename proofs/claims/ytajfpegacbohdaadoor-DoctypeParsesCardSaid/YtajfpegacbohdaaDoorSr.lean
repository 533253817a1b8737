-- Written by a program of this session over the kit's printer: not by hand.
import Derived.Test.YtajfpegacbohdaaDoorSr0
import Derived.Test.YtajfpegacbohdaaDoorSr1
namespace Go.Proofs.YtajfpegacbohdaaDoor.Sr
open Go.RowKit Go.Proofs.YtajfpegacbohdaaDoor.K0 Go.Proofs.YtajfpegacbohdaaDoor.Hand Go.Proofs.YtajfpegacbohdaaDoorW.PrintWords Go.Proofs.YtajfpegacbohdaaDoorW.PrintLast Go.Proofs.YtajfpegacbohdaaDoorW.PrintMore
attribute [local go_sem] max2_int min2_int max_two min_two max_three min_three max_four min_four   -- for this text's walks alone
set_option linter.unusedVariables false
set_option linter.unusedSimpArgs false

end Go.Proofs.YtajfpegacbohdaaDoor.Sr
