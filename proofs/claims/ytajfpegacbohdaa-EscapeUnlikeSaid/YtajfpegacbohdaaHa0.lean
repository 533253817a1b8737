/-
  Hand walks: what lies in the library's own variable (Glob); laws for a scope with one label; contracts of lines.Norm and lines.Clean.
-/
import Derived.Test.YtajfpegacbohdaaShelf
import Derived.Test.YtajfpegacbohdaaPl0
import Derived.WalkKit
import Derived.WalkSpells
import Derived.WalkLawsBesides
import Derived.WalkMore
import Derived.ScopeJumps
import Derived.Lib.Hide
namespace Go.Proofs.Ytajfpegacbohdaa.Hand
open Go.RowKit Go.Proofs.Ytajfpegacbohdaa.Pl

/-- internal/bytealg.MaxLen holds some int. -/
structure Glob (w : World) : Prop where mk :: (out : ∃ m, w.cell? ⟨0, 0, none⟩ = some (.int .i64 m))
theorem Glob.step {w W : World} (h : Glob w) (hb : Below w.heap.size w W) : Glob W := by
  obtain ⟨m, hm⟩ := h
  exact ⟨m, (hb.cell (World.block_lt_of_cell? w _ hm)).trans hm⟩

def intOf : Value → Int | .int _ q => q | _ => 0

section
variable {P : Program} {a : Act} {w : World} {Q : Exit → Act → World → Prop}
theorem Exit_jump_mono {l : Nat} {J J' : Act → World → Prop} (h : ∀ a w, J a w → J' a w) : ∀ e a w, Exit.jump l J Q e a w → Exit.jump l J' Q e a w := by
  intro e a w hq
  cases e with
  | goto l' => exact ⟨hq.1, h _ _ hq.2⟩
  | _ => exact hq
theorem wp_scope_at {c B : Code} (l : Nat) (J : Act → World → Prop) (μ : Act → World → Nat) (hf : findLabel c l = some (.seq .skip B))
    (first : (∀ a w, J a w → B.wp P (Exit.jump l J Q) a w) → c.wp P (Exit.jump l J Q) a w)
    (pass : ∀ a w, J a w → B.wp P (Exit.jump l (fun a' w' => J a' w' ∧ μ a' w' < μ a w) Q) a w) : (Code.scope c).wp P Q a w :=
  wp_scope_jumps l J μ hf (first fun a w hJ => wp_mono (pass a w hJ) (Exit_jump_mono fun _ _ h => h.1)) fun a w hJ => wp_seq (wp_skip (pass a w hJ))
theorem wp_label_k {l : Nat} {B : Code} {K : Act → World → Prop} (hK : ∀ a w, B.wp P Q a w → K a w) (hB : B.wp P Q a w) : (Code.label l).wp P (Exit.then K Q) a w := wp_label (hK _ _ hB)
end
theorem ret_str {a b : ByteArray} (h : a = b) : Ending.returned (.string a) = .returned (.string b) := by rw [h]
theorem drop_cons (s : ByteArray) (pos : Nat) (h : pos < s.size) : s.data.toList.drop pos = s[pos] :: s.data.toList.drop (pos + 1) := by
  rw [List.drop_eq_getElem_cons (by simpa using h)]; rfl
theorem byteCells_snoc (acc : List UInt8) (c : UInt8) : Lib.byteCells acc ++ [.int .u8 (c.toNat : Int)] = Lib.byteCells (acc ++ [c]) := by
  simp [Lib.byteCells]

/-! ### lines.Norm -/
def normB (s : ByteArray) : ByteArray := ⟨(normL s.data.toList).toArray⟩
/-! ### lines.Clean -/
def cleanBA (s : ByteArray) : ByteArray := ⟨(cleanL s.data.toList).toArray⟩
end Go.Proofs.Ytajfpegacbohdaa.Hand
