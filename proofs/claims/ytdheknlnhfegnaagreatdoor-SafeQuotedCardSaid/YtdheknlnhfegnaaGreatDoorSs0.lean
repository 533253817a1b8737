-- Written by a program of this session over the kit's printer: not by hand.
import Derived.Test.YtdheknlnhfegnaaGreatDoorProg
import Derived.Below
import Derived.Deep.Draws
import Derived.Deep.AppendLies
import Derived.Maps.AppendAt
import Derived.OwnWalk
import Derived.Laws.BytesArg
import Derived.Laws.MakeOwn
import Derived.Laws.OwnMore
import Derived.Deep.OwnRows
import Derived.Tactics
import Derived.Lib.ConvBytes
import Derived.Laws.Slices
import Derived.WalkKit
import Derived.KernelRfl
import Derived.RowKit3
import Derived.Deep.LoopGhost
import Derived.Deep.QuietTactic
import Derived.BigQuiet
import Derived.WideLaws
import Derived.Deep.DeepCutAuto
import Derived.Deep.CutBlock
import Derived.Deep.RegionHeld3
import Derived.Laws.Rows
import Derived.Lib.AppendStr
import Derived.ArgAppend
import Derived.Laws.IdiomCopy
import Derived.OrdersHeld
import Derived.Laws.BitsLemmas
import Derived.RowKit
import Derived.Test.YtdheknlnhfegnaaGreatDoorK0
import Derived.Test.YtdheknlnhfegnaaGreatDoorHa1
import Derived.Test.YtdheknlnhfegnaaGreatDoorWWords
import Derived.Test.YtdheknlnhfegnaaGreatDoorWLast
import Derived.Test.YtdheknlnhfegnaaGreatDoorWTab
import Derived.Test.YtdheknlnhfegnaaGreatDoorWFour
import Derived.Test.YtdheknlnhfegnaaGreatDoorWQPut
import Derived.Test.YtdheknlnhfegnaaGreatDoorWApart
import Derived.Test.YtdheknlnhfegnaaGreatDoorWArr
import Derived.Test.YtdheknlnhfegnaaGreatDoorWZeros
import Derived.Test.YtdheknlnhfegnaaGreatDoorWFoot
import Derived.Test.YtdheknlnhfegnaaGreatDoorWKept
import Derived.Test.YtdheknlnhfegnaaGreatDoorWShare
import Derived.Test.YtdheknlnhfegnaaGreatDoorWN
import Derived.Test.YtdheknlnhfegnaaGreatDoorWFootNe
import Derived.Test.YtdheknlnhfegnaaGreatDoorWAt
import Derived.Test.YtdheknlnhfegnaaGreatDoorWEqStruct
import Derived.Test.YtdheknlnhfegnaaGreatDoorWRepsOne
import Derived.Test.YtdheknlnhfegnaaGreatDoorWInv
import Derived.Test.YtdheknlnhfegnaaGreatDoorWInvWords
import Derived.Test.YtdheknlnhfegnaaGreatDoorWGuard
import Derived.Test.YtdheknlnhfegnaaGreatDoorWNEv
import Derived.Test.YtdheknlnhfegnaaGreatDoorWMore
namespace Go.Proofs.YtdheknlnhfegnaaGreatDoor.Ss
open Go.RowKit Go.Proofs.YtdheknlnhfegnaaGreatDoor.K0 Go.Proofs.YtdheknlnhfegnaaGreatDoor.Hand Go.Proofs.YtdheknlnhfegnaaGreatDoorW.PrintWords Go.Proofs.YtdheknlnhfegnaaGreatDoorW.PrintLast Go.Proofs.YtdheknlnhfegnaaGreatDoorW.PrintMore
attribute [local go_sem] max2_int min2_int max_two min_two max_three min_three max_four min_four   -- for this text's walks alone
set_option linter.unusedVariables false
set_option linter.unusedSimpArgs false



def errW : Option Int → Value
  | none => .nilIface
  | some c => .iface 0 (.int .i64 c)
theorem errW_none : errW none = .nilIface := rfl
theorem errW_some (c : Int) : errW (some c) = .iface 0 (.int .i64 c) := rfl

-- the values' own types

end Go.Proofs.YtdheknlnhfegnaaGreatDoor.Ss
