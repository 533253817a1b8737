-- Written by a program of this session over the kit's printer: not by hand.
import Derived.Test.YtajfpegacbohdaaSe0
import Derived.Test.YtajfpegacbohdaaSe1
namespace Go.Proofs.Ytajfpegacbohdaa.Se
open Go.RowKit Go.Proofs.Ytajfpegacbohdaa.K0  Go.Proofs.YtajfpegacbohdaaW.PrintWords Go.Proofs.YtajfpegacbohdaaW.PrintLast Go.Proofs.YtajfpegacbohdaaW.PrintMore
attribute [local go_sem] max2_int min2_int max_two min_two max_three min_three max_four min_four   -- for this text's walks alone
set_option linter.unusedVariables false
set_option linter.unusedSimpArgs false

end Go.Proofs.Ytajfpegacbohdaa.Se
