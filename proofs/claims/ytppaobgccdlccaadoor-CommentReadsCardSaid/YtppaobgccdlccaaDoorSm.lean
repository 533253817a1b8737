-- Written by a program of this session over the kit's printer: not by hand.
import Derived.Test.YtppaobgccdlccaaDoorSm0
import Derived.Test.YtppaobgccdlccaaDoorSm1
import Derived.Test.YtppaobgccdlccaaDoorSm2
namespace Go.Proofs.YtppaobgccdlccaaDoor.Sm
open Go.RowKit Go.Proofs.YtppaobgccdlccaaDoor.K0  Go.Proofs.YtppaobgccdlccaaDoor.Sr Go.Proofs.YtppaobgccdlccaaDoorW.PrintWords Go.Proofs.YtppaobgccdlccaaDoorW.PrintLast Go.Proofs.YtppaobgccdlccaaDoorW.PrintMore
attribute [local go_sem] max2_int min2_int max_two min_two max_three min_three max_four min_four   -- for this text's walks alone
set_option linter.unusedVariables false
set_option linter.unusedSimpArgs false

end Go.Proofs.YtppaobgccdlccaaDoor.Sm
