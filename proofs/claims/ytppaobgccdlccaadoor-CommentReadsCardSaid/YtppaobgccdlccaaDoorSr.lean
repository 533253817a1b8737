-- Written by a program of this session over the kit's printer: not by hand.
import Derived.Test.YtppaobgccdlccaaDoorSr0
import Derived.Test.YtppaobgccdlccaaDoorSr1
import Derived.Test.YtppaobgccdlccaaDoorSr2
import Derived.Test.YtppaobgccdlccaaDoorSr3
import Derived.Test.YtppaobgccdlccaaDoorSr4
import Derived.Test.YtppaobgccdlccaaDoorSr5
namespace Go.Proofs.YtppaobgccdlccaaDoor.Sr
open Go.RowKit Go.Proofs.YtppaobgccdlccaaDoor.K0 Go.Proofs.YtppaobgccdlccaaDoor.Hand Go.Proofs.YtppaobgccdlccaaDoorW.PrintWords Go.Proofs.YtppaobgccdlccaaDoorW.PrintLast Go.Proofs.YtppaobgccdlccaaDoorW.PrintMore
attribute [local go_sem] max2_int min2_int max_two min_two max_three min_three max_four min_four   -- for this text's walks alone
set_option linter.unusedVariables false
set_option linter.unusedSimpArgs false

end Go.Proofs.YtppaobgccdlccaaDoor.Sr
