-- Written by a program of this session over the kit's printer: not by hand.
import Derived.Test.YtajfpegacbohdaaDoorProg
import Derived.Below
import Derived.Deep.Draws
import Derived.Deep.AppendLies
import Derived.Maps.AppendAt
import Derived.OwnWalk
import Derived.Laws.BytesArg
import Derived.Laws.MakeOwn
import Derived.Laws.OwnMore
import Derived.Deep.OwnRows
import Derived.Tactics
import Derived.Lib.ConvBytes
import Derived.Laws.Slices
import Derived.WalkKit
import Derived.KernelRfl
import Derived.RowKit3
import Derived.Deep.LoopGhost
import Derived.Deep.QuietTactic
import Derived.BigQuiet
import Derived.WideLaws
import Derived.Deep.DeepCutAuto
import Derived.Deep.CutBlock
import Derived.Deep.RegionHeld3
import Derived.Laws.Rows
import Derived.Lib.AppendStr
import Derived.ArgAppend
import Derived.Laws.IdiomCopy
import Derived.OrdersHeld
import Derived.Laws.BitsLemmas
import Derived.RowKit
import Derived.Test.YtajfpegacbohdaaDoorK0
import Derived.Test.YtajfpegacbohdaaDoorHa1
import Derived.Test.YtajfpegacbohdaaDoorWWords
import Derived.Test.YtajfpegacbohdaaDoorWLast
import Derived.Test.YtajfpegacbohdaaDoorWTab
import Derived.Test.YtajfpegacbohdaaDoorWFour
import Derived.Test.YtajfpegacbohdaaDoorWQPut
import Derived.Test.YtajfpegacbohdaaDoorWApart
import Derived.Test.YtajfpegacbohdaaDoorWArr
import Derived.Test.YtajfpegacbohdaaDoorWZeros
import Derived.Test.YtajfpegacbohdaaDoorWFoot
import Derived.Test.YtajfpegacbohdaaDoorWKept
import Derived.Test.YtajfpegacbohdaaDoorWShare
import Derived.Test.YtajfpegacbohdaaDoorWN
import Derived.Test.YtajfpegacbohdaaDoorWFootNe
import Derived.Test.YtajfpegacbohdaaDoorWAt
import Derived.Test.YtajfpegacbohdaaDoorWEqStruct
import Derived.Test.YtajfpegacbohdaaDoorWRepsOne
import Derived.Test.YtajfpegacbohdaaDoorWInv
import Derived.Test.YtajfpegacbohdaaDoorWInvWords
import Derived.Test.YtajfpegacbohdaaDoorWGuard
import Derived.Test.YtajfpegacbohdaaDoorWNEv
import Derived.Test.YtajfpegacbohdaaDoorWMore
namespace Go.Proofs.YtajfpegacbohdaaDoor.Sr
open Go.RowKit Go.Proofs.YtajfpegacbohdaaDoor.K0 Go.Proofs.YtajfpegacbohdaaDoor.Hand Go.Proofs.YtajfpegacbohdaaDoorW.PrintWords Go.Proofs.YtajfpegacbohdaaDoorW.PrintLast Go.Proofs.YtajfpegacbohdaaDoorW.PrintMore
attribute [local go_sem] max2_int min2_int max_two min_two max_three min_three max_four min_four   -- for this text's walks alone
set_option linter.unusedVariables false
set_option linter.unusedSimpArgs false



def errW : Option Int → Value
  | none => .nilIface
  | some c => .iface 0 (.int .i64 c)
theorem errW_none : errW none = .nilIface := rfl
theorem errW_some (c : Int) : errW (some c) = .iface 0 (.int .i64 c) := rfl

theorem info5 : (Tryd.prog.info? 5).map (fun i => (i.zero, i.size, i.bytes)) = some (some (.int .u8 0), 1, 1) := by kernel_rfl
-- the values' own types

end Go.Proofs.YtajfpegacbohdaaDoor.Sr
