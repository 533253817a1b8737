/-
  Closed facts about this seat's program alone, each by the kernel, once.
-/
import Derived.JoinedOf
import Derived.KernelRfl
import Derived.SevenTiedAt
import Derived.Test.YtajfpegacbohdaaDoorRows
import Derived.Test.YtajfpegacbohdaaDoorCards
namespace Go.Proofs.YtajfpegacbohdaaDoor.RowKit
open Go

/-! What is asked of the program alone, each once. -/
def R : OpenClaim := Rows.doctypeParsesRow
theorem p2 : laidOutB Tryd.prog = true := by kernel_rfl
theorem p3 : mapsRowed Tryd.prog = true := by kernel_rfl
theorem p7 : (Tryd.prog.stops == []) = true := by kernel_rfl
theorem p9 : (Tryd.prog.stopKnobs == []) = true := by kernel_rfl
theorem p23 : (R.plainKeys == Tryd.prog.plainKeys) = true := by kernel_rfl
theorem p25 : Tryd.prog.stopsHeard = true := by kernel_rfl
theorem p26 : Tryd.prog.mayEnter = true := by kernel_rfl
theorem p27 : (R.lifted == Tryd.prog.liftsFinal) = true := by kernel_rfl
theorem p28 : (Tryd.prog.make == some R.make) = true := by kernel_rfl
theorem looks_is : Tryd.prog.looks [] = Rows.doctypeParsesCard.stood.looks := by kernel_rfl
theorem main_is : Tryd.prog.mainIs = some (Rows.doctypeParsesCard.stood.harness.1, Rows.doctypeParsesCard.stood.harness.2.toList) := by kernel_rfl
end Go.Proofs.YtajfpegacbohdaaDoor.RowKit
