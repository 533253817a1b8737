-- Written by a program of this session over the kit's printer: not by hand.
import Derived.Test.YtppaobgccdlccaaDoorProg
import Derived.Below
import Derived.Deep.Draws
import Derived.Deep.AppendLies
import Derived.Maps.AppendAt
import Derived.OwnWalk
import Derived.Laws.BytesArg
import Derived.Laws.MakeOwn
import Derived.Laws.OwnMore
import Derived.Deep.OwnRows
import Derived.Tactics
import Derived.Lib.ConvBytes
import Derived.Laws.Slices
import Derived.WalkKit
import Derived.KernelRfl
import Derived.RowKit3
import Derived.Deep.LoopGhost
import Derived.Deep.QuietTactic
import Derived.BigQuiet
import Derived.WideLaws
import Derived.Deep.DeepCutAuto
import Derived.Deep.CutBlock
import Derived.Deep.RegionHeld3
import Derived.Laws.Rows
import Derived.Lib.AppendStr
import Derived.ArgAppend
import Derived.Laws.IdiomCopy
import Derived.OrdersHeld
import Derived.Laws.BitsLemmas
import Derived.RowKit
import Derived.Test.YtppaobgccdlccaaDoorK0
import Derived.Test.YtppaobgccdlccaaDoorHa1
import Derived.Test.YtppaobgccdlccaaDoorWWords
import Derived.Test.YtppaobgccdlccaaDoorWLast
import Derived.Test.YtppaobgccdlccaaDoorWTab
import Derived.Test.YtppaobgccdlccaaDoorWFour
import Derived.Test.YtppaobgccdlccaaDoorWQPut
import Derived.Test.YtppaobgccdlccaaDoorWApart
import Derived.Test.YtppaobgccdlccaaDoorWArr
import Derived.Test.YtppaobgccdlccaaDoorWZeros
import Derived.Test.YtppaobgccdlccaaDoorWFoot
import Derived.Test.YtppaobgccdlccaaDoorWKept
import Derived.Test.YtppaobgccdlccaaDoorWShare
import Derived.Test.YtppaobgccdlccaaDoorWN
import Derived.Test.YtppaobgccdlccaaDoorWFootNe
import Derived.Test.YtppaobgccdlccaaDoorWAt
import Derived.Test.YtppaobgccdlccaaDoorWEqStruct
import Derived.Test.YtppaobgccdlccaaDoorWRepsOne
import Derived.Test.YtppaobgccdlccaaDoorWInv
import Derived.Test.YtppaobgccdlccaaDoorWInvWords
import Derived.Test.YtppaobgccdlccaaDoorWGuard
import Derived.Test.YtppaobgccdlccaaDoorWNEv
import Derived.Test.YtppaobgccdlccaaDoorWMore
namespace Go.Proofs.YtppaobgccdlccaaDoor.Sr
open Go.RowKit Go.Proofs.YtppaobgccdlccaaDoor.K0 Go.Proofs.YtppaobgccdlccaaDoor.Hand Go.Proofs.YtppaobgccdlccaaDoorW.PrintWords Go.Proofs.YtppaobgccdlccaaDoorW.PrintLast Go.Proofs.YtppaobgccdlccaaDoorW.PrintMore
attribute [local go_sem] max2_int min2_int max_two min_two max_three min_three max_four min_four   -- for this text's walks alone
set_option linter.unusedVariables false
set_option linter.unusedSimpArgs false



def errW : Option Int → Value
  | none => .nilIface
  | some c => .iface 0 (.int .i64 c)
theorem errW_none : errW none = .nilIface := rfl
theorem errW_some (c : Int) : errW (some c) = .iface 0 (.int .i64 c) := rfl

theorem info5 : (Tryd.prog.info? 5).map (fun i => (i.zero, i.size, i.bytes)) = some (some (.int .u8 0), 1, 1) := by kernel_rfl
-- the values' own types

end Go.Proofs.YtppaobgccdlccaaDoor.Sr
