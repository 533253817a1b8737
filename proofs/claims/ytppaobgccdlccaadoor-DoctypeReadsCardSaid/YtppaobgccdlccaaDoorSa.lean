-- Written by a program of this session over the kit's printer: not by hand.
import Derived.Test.YtppaobgccdlccaaDoorSa0
import Derived.Test.YtppaobgccdlccaaDoorSa1
namespace Go.Proofs.YtppaobgccdlccaaDoor.Sa
open Go.RowKit Go.Proofs.YtppaobgccdlccaaDoor.K0 Go.Proofs.YtppaobgccdlccaaDoor.Hand Go.Proofs.YtppaobgccdlccaaDoorW.PrintWords Go.Proofs.YtppaobgccdlccaaDoorW.PrintLast Go.Proofs.YtppaobgccdlccaaDoorW.PrintMore
attribute [local go_sem] max2_int min2_int max_two min_two max_three min_three max_four min_four   -- for this text's walks alone
set_option linter.unusedVariables false
set_option linter.unusedSimpArgs false

end Go.Proofs.YtppaobgccdlccaaDoor.Sa
