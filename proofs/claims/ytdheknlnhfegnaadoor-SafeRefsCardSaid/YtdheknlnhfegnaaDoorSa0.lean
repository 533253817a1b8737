-- Written by a program of this session over the kit's printer: not by hand.
import Derived.Test.YtdheknlnhfegnaaDoorProg
import Derived.Below
import Derived.Deep.Draws
import Derived.Deep.AppendLies
import Derived.Maps.AppendAt
import Derived.OwnWalk
import Derived.Laws.BytesArg
import Derived.Laws.MakeOwn
import Derived.Laws.OwnMore
import Derived.Deep.OwnRows
import Derived.Tactics
import Derived.Lib.ConvBytes
import Derived.Laws.Slices
import Derived.WalkKit
import Derived.KernelRfl
import Derived.RowKit3
import Derived.Deep.LoopGhost
import Derived.Deep.QuietTactic
import Derived.BigQuiet
import Derived.WideLaws
import Derived.Deep.DeepCutAuto
import Derived.Deep.CutBlock
import Derived.Deep.RegionHeld3
import Derived.Laws.Rows
import Derived.Lib.AppendStr
import Derived.ArgAppend
import Derived.Laws.IdiomCopy
import Derived.OrdersHeld
import Derived.Laws.BitsLemmas
import Derived.RowKit
import Derived.Test.YtdheknlnhfegnaaDoorK0
import Derived.Test.YtdheknlnhfegnaaDoorHa1
import Derived.Test.YtdheknlnhfegnaaDoorWWords
import Derived.Test.YtdheknlnhfegnaaDoorWLast
import Derived.Test.YtdheknlnhfegnaaDoorWTab
import Derived.Test.YtdheknlnhfegnaaDoorWFour
import Derived.Test.YtdheknlnhfegnaaDoorWQPut
import Derived.Test.YtdheknlnhfegnaaDoorWApart
import Derived.Test.YtdheknlnhfegnaaDoorWArr
import Derived.Test.YtdheknlnhfegnaaDoorWZeros
import Derived.Test.YtdheknlnhfegnaaDoorWFoot
import Derived.Test.YtdheknlnhfegnaaDoorWKept
import Derived.Test.YtdheknlnhfegnaaDoorWShare
import Derived.Test.YtdheknlnhfegnaaDoorWN
import Derived.Test.YtdheknlnhfegnaaDoorWFootNe
import Derived.Test.YtdheknlnhfegnaaDoorWAt
import Derived.Test.YtdheknlnhfegnaaDoorWEqStruct
import Derived.Test.YtdheknlnhfegnaaDoorWRepsOne
import Derived.Test.YtdheknlnhfegnaaDoorWInv
import Derived.Test.YtdheknlnhfegnaaDoorWInvWords
import Derived.Test.YtdheknlnhfegnaaDoorWGuard
import Derived.Test.YtdheknlnhfegnaaDoorWNEv
import Derived.Test.YtdheknlnhfegnaaDoorWMore
namespace Go.Proofs.YtdheknlnhfegnaaDoor.Sa
open Go.RowKit Go.Proofs.YtdheknlnhfegnaaDoor.K0 Go.Proofs.YtdheknlnhfegnaaDoor.Hand Go.Proofs.YtdheknlnhfegnaaDoorW.PrintWords Go.Proofs.YtdheknlnhfegnaaDoorW.PrintLast Go.Proofs.YtdheknlnhfegnaaDoorW.PrintMore
attribute [local go_sem] max2_int min2_int max_two min_two max_three min_three max_four min_four   -- for this text's walks alone
set_option linter.unusedVariables false
set_option linter.unusedSimpArgs false



def errW : Option Int → Value
  | none => .nilIface
  | some c => .iface 0 (.int .i64 c)
theorem errW_none : errW none = .nilIface := rfl
theorem errW_some (c : Int) : errW (some c) = .iface 0 (.int .i64 c) := rfl

-- the values' own types

end Go.Proofs.YtdheknlnhfegnaaDoor.Sa
