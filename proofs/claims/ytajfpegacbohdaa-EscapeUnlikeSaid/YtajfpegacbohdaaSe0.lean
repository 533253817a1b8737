-- Written by a program of this session over the kit's printer: not by hand.
import Derived.Test.YtajfpegacbohdaaProg
import Derived.Below
import Derived.Deep.Draws
import Derived.Deep.AppendLies
import Derived.Maps.AppendAt
import Derived.OwnWalk
import Derived.Laws.BytesArg
import Derived.Laws.MakeOwn
import Derived.Laws.OwnMore
import Derived.Deep.OwnRows
import Derived.Tactics
import Derived.Lib.ConvBytes
import Derived.Laws.Slices
import Derived.WalkKit
import Derived.KernelRfl
import Derived.RowKit3
import Derived.Deep.LoopGhost
import Derived.Deep.QuietTactic
import Derived.BigQuiet
import Derived.WideLaws
import Derived.Deep.DeepCutAuto
import Derived.Deep.CutBlock
import Derived.Deep.RegionHeld3
import Derived.Laws.Rows
import Derived.Lib.AppendStr
import Derived.ArgAppend
import Derived.Laws.IdiomCopy
import Derived.OrdersHeld
import Derived.Laws.BitsLemmas
import Derived.RowKit
import Derived.Test.YtajfpegacbohdaaK0
import Derived.Test.YtajfpegacbohdaaWWords
import Derived.Test.YtajfpegacbohdaaWLast
import Derived.Test.YtajfpegacbohdaaWTab
import Derived.Test.YtajfpegacbohdaaWFour
import Derived.Test.YtajfpegacbohdaaWQPut
import Derived.Test.YtajfpegacbohdaaWApart
import Derived.Test.YtajfpegacbohdaaWArr
import Derived.Test.YtajfpegacbohdaaWZeros
import Derived.Test.YtajfpegacbohdaaWFoot
import Derived.Test.YtajfpegacbohdaaWKept
import Derived.Test.YtajfpegacbohdaaWShare
import Derived.Test.YtajfpegacbohdaaWN
import Derived.Test.YtajfpegacbohdaaWFootNe
import Derived.Test.YtajfpegacbohdaaWAt
import Derived.Test.YtajfpegacbohdaaWEqStruct
import Derived.Test.YtajfpegacbohdaaWRepsOne
import Derived.Test.YtajfpegacbohdaaWInv
import Derived.Test.YtajfpegacbohdaaWInvWords
import Derived.Test.YtajfpegacbohdaaWGuard
import Derived.Test.YtajfpegacbohdaaWNEv
import Derived.Test.YtajfpegacbohdaaWMore
namespace Go.Proofs.Ytajfpegacbohdaa.Se
open Go.RowKit Go.Proofs.Ytajfpegacbohdaa.K0  Go.Proofs.YtajfpegacbohdaaW.PrintWords Go.Proofs.YtajfpegacbohdaaW.PrintLast Go.Proofs.YtajfpegacbohdaaW.PrintMore
attribute [local go_sem] max2_int min2_int max_two min_two max_three min_three max_four min_four   -- for this text's walks alone
set_option linter.unusedVariables false
set_option linter.unusedSimpArgs false



def errW : Option Int → Value
  | none => .nilIface
  | some c => .iface 0 (.int .i64 c)
theorem errW_none : errW none = .nilIface := rfl
theorem errW_some (c : Int) : errW (some c) = .iface 0 (.int .i64 c) := rfl

-- the values' own types

end Go.Proofs.Ytajfpegacbohdaa.Se
