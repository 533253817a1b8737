/-
  Given to the print: strings.IndexByte.
-/
import Derived.Test.YtdheknlnhfegnaaGreatDoorHa1
namespace Go.Proofs.YtdheknlnhfegnaaGreatDoor.Hand
open Go Go.RowKit

def strings_IndexByte.f (a0 : ByteArray) (a1 : Int) : Option Int := some (Lib.indexByte a0.data.toList a1.toNat.toUInt8)
theorem strings_IndexByte.calls (a0 : ByteArray) (a1 : Int) (r : Int) (w : World) (h : strings_IndexByte.f a0 a1 = some r) :
    Calls Tryz.prog 31 #[.string a0, .int .u8 a1] w fun e w' => e = .returned (.int .i64 r) ∧ Below w.heap.size w w' := by
  obtain rfl := Option.some.inj h
  exact (Tryz.strings_IndexByte a0 a1 w).mono fun e w' h => ⟨h.1, by rw [h.2]; exact Below.refl _ _⟩
end Go.Proofs.YtdheknlnhfegnaaGreatDoor.Hand
