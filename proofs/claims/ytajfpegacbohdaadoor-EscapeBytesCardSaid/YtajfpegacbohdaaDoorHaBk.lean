/-
  Hand walks: a block of the call's own, written to.
-/
import Derived.Test.YtajfpegacbohdaaDoorHaL
import Derived.LoopN
import Derived.ChangeKeysEq
namespace Go.Proofs.YtajfpegacbohdaaDoor.Hand
open Go.RowKit

theorem ne_off {b i j : Nat} (h : i ≠ j) : (⟨b, i, none⟩ : Addr) ≠ ⟨b, j, none⟩ := by intro e; injection e with _ e _; exact h e
theorem run_index_agg {P : Program} {t e : TypeId} {n : Nat} {i : TypeInfo} {cs : Array Value} {j : Nat} {v : Value} {W : World} (hu : P.underlying t = some (.array n e)) (hi : P.info? e = some i) (h1 : P.cellsOf e = 1)
    (hk : P.plainKey e = true) (hj : j < n) (hv : cs[j]? = some v) : (Instr.index t (.agg cs) (.int .i64 (j : Int))).run P W = .ok v W := by
  have hn : (0 : Int) ≤ (j : Int) ∧ (j : Int) < (n : Int) := ⟨by omega, by omega⟩
  unfold Program.plainKey at hk
  cases hue : P.underlying e with
  | none => simp [hue] at hk
  | some d => cases d <;> simp [hue] at hk <;> simp [Instr.index, run_underlying hu, asIntOf, hn, run_sizeOf W hi, h1, part, isAgg, run_underlying hue, hv, hj, go_sem]
theorem Blk.set {b : Nat} {v : Array Value} {W : World} (h : Blk b v W) (k : Nat) (x : Value) (hk : k < v.size) : Blk b (v.setIfInBounds k x) (W.setCell ⟨b, k, none⟩ x) := by
  refine ⟨fun j hj => ?_, fun j => by rw [World.frozen?_setCell]; exact h.open_ j⟩
  rw [Array.size_setIfInBounds] at hj
  by_cases e : j = k
  · subst e
    rw [World.cell?_setCell_same' _ _ _ (by rw [h.cell j hj]; simp [hj]), Array.getElem?_setIfInBounds_self_of_lt hk]
  · rw [World.cell?_setCell_other _ _ _ _ (ne_off (Ne.symm e)), h.cell j hj, Array.getElem?_setIfInBounds_ne (Ne.symm e)]
theorem Blk.other {b b' : Nat} {v : Array Value} {W : World} (h : Blk b v W) (k : Nat) (x : Value) (hb : b' ≠ b) : Blk b v (W.setCell ⟨b', k, none⟩ x) :=
  ⟨fun j hj => by rw [World.cell?_setCell_other _ _ _ _ (by intro e; injection e with e; exact hb e)]; exact h.cell j hj, fun j => by rw [World.frozen?_setCell]; exact h.open_ j⟩
end Go.Proofs.YtajfpegacbohdaaDoor.Hand
