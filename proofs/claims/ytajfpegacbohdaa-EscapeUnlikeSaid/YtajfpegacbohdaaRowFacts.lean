/-
  Closed facts about this seat's program alone, each by the kernel, once.
-/
import Derived.JoinedOf
import Derived.KernelRfl
import Derived.SevenTiedAt
import Derived.Test.YtajfpegacbohdaaRows
namespace Go.Proofs.Ytajfpegacbohdaa.RowKit
open Go

/-! What is asked of the program alone, each once. -/
def R : OpenClaim := Rows.escapeTellsRow
theorem p2 : laidOutB Try.prog = true := by kernel_rfl
theorem p3 : mapsRowed Try.prog = true := by kernel_rfl
theorem p7 : (Try.prog.stops == []) = true := by kernel_rfl
theorem p9 : (Try.prog.stopKnobs == []) = true := by kernel_rfl
theorem p23 : (R.plainKeys == Try.prog.plainKeys) = true := by kernel_rfl
theorem p25 : Try.prog.stopsHeard = true := by kernel_rfl
theorem p26 : Try.prog.mayEnter = true := by kernel_rfl
theorem p27 : (R.lifted == Try.prog.liftsFinal) = true := by kernel_rfl
theorem p28 : (Try.prog.make == some R.make) = true := by kernel_rfl
end Go.Proofs.Ytajfpegacbohdaa.RowKit
