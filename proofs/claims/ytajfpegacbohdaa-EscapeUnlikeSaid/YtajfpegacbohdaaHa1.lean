/-
  Hand walks: sign.Lower (a string's letters made small).
-/
import Derived.Test.YtajfpegacbohdaaHa0
import Derived.Lib.ConvBytes
import Derived.Laws.IdiomStrings
namespace Go.Proofs.Ytajfpegacbohdaa.Hand
open Go.RowKit Go.Proofs.Ytajfpegacbohdaa.Pl

def LowAt (s : ByteArray) (b k : Nat) (W : World) : Prop :=
  ∀ j (hj : j < s.size), W.cell? ⟨b, j, none⟩ = some (.int .u8 (((if j < k then lowB s[j] else s[j]).toNat : Nat) : Int)) ∧ W.frozen? ⟨b, j, none⟩ = false
theorem LowAt.set {s : ByteArray} {b k : Nat} {W : World} (h : LowAt s b k W) (hk : k < s.size) : LowAt s b (k + 1) (W.setCell ⟨b, k, none⟩ (.int .u8 ((lowB s[k]).toNat : Int))) := by
  intro j hj
  rw [World.frozen?_setCell]
  refine ⟨?_, (h j hj).2⟩
  by_cases e : j = k
  · subst e
    rw [World.cell?_setCell_same _ _ _ (h j hj).1, if_pos (by omega)]
  · rw [World.cell?_setCell_other _ _ _ _ (by intro h'; injection h' with _ h2 _; exact e h2.symm), (h j hj).1]
    by_cases h1 : j < k
    · rw [if_pos h1, if_pos (by omega)]
    · rw [if_neg h1, if_neg (by omega)]
theorem LowAt.next {s : ByteArray} {b k : Nat} {W : World} (h : LowAt s b k W) (hk : k < s.size) (hc : lowB s[k] = s[k]) : LowAt s b (k + 1) W := by
  intro j hj
  refine ⟨?_, (h j hj).2⟩
  rw [(h j hj).1]
  by_cases e : j = k
  · subst e
    rw [if_neg (by omega), if_pos (by omega), hc]
  · by_cases h1 : j < k
    · rw [if_pos h1, if_pos (by omega)]
    · rw [if_neg h1, if_neg (by omega)]
theorem lowB_or (c : UInt8) (h1 : 65 ≤ c.toNat) (h2 : c.toNat ≤ 90) : bits .or .u8 (c.toNat : Int) 32 = ((lowB c).toNat : Int) := by
  have key : ∀ n : Fin 26, bits .or .u8 ((65 + n.val : Nat) : Int) 32 = ((65 + n.val + 32 : Nat) : Int) := by decide
  have hl : (lowB c).toNat = c.toNat + 32 := by
    unfold lowB
    rw [if_pos ⟨by rw [UInt8.le_iff_toNat_le]; exact h1, by rw [UInt8.le_iff_toNat_le]; exact h2⟩, UInt8.toNat_add]
    show (c.toNat + 32) % 256 = _
    omega
  have := key ⟨c.toNat - 65, by omega⟩
  rw [show 65 + (c.toNat - 65) = c.toNat from by omega] at this
  rw [this, hl]
theorem lowB_id (c : UInt8) (h : c.toNat < 65 ∨ 90 < c.toNat) : lowB c = c := by
  unfold lowB
  rw [if_neg]
  rintro ⟨a, b⟩
  rw [UInt8.le_iff_toNat_le] at a b
  have : (65 : UInt8).toNat = 65 := rfl
  have : (90 : UInt8).toNat = 90 := rfl
  omega
def lowBA (s : ByteArray) : ByteArray := ⟨(lowL s.data.toList).toArray⟩

theorem below_bytesWorld (w : World) (e : TypeId) (s : ByteArray) : Below w.heap.size w (Lib.bytesWorld w e s) :=
  ⟨by simp [Lib.bytesWorld, World.freeze, World.alloc, World.drew, -World.alloc_eq, -World.drew_eq], by simp [Lib.bytesWorld, World.freeze, World.alloc, World.drew, -World.alloc_eq, -World.drew_eq], by simp [Lib.bytesWorld, World.freeze, World.alloc, World.drew, -World.alloc_eq, -World.drew_eq], by rw [Lib.bytesWorld_size]; omega, fun j hj => Lib.bytesWorld_at_old w e s j hj⟩

end Go.Proofs.Ytajfpegacbohdaa.Hand
