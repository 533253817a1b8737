/-
  Hand walks: a value of an array indexed; a token that lies in a block of its own.
-/
import Derived.Test.YtajfpegacbohdaaDoorHa1
import Derived.LoopN
import Derived.ChangeKeysEq
import Derived.Test.YtajfpegacbohdaaDoorK0
import Derived.Laws.Rows
import Derived.Laws.Cells
namespace Go.Proofs.YtajfpegacbohdaaDoor.Hand
open Go.RowKit Go.Proofs.YtajfpegacbohdaaDoor.K0 Go.Proofs.YtajfpegacbohdaaDoor.Pl Go.Proofs.YtajfpegacbohdaaDoorW.PrintWords Go.Proofs.YtajfpegacbohdaaDoorW.PrintLast Go.Proofs.YtajfpegacbohdaaDoorW.PrintMore

theorem run_index_agg {P : Program} {t e : TypeId} {n : Nat} {i : TypeInfo} {cs : Array Value} {j : Nat} {v : Value} {W : World} (hu : P.underlying t = some (.array n e)) (hi : P.info? e = some i) (h1 : P.cellsOf e = 1)
    (hk : P.plainKey e = true) (hj : j < n) (hv : cs[j]? = some v) : (Instr.index t (.agg cs) (.int .i64 (j : Int))).run P W = .ok v W := by
  have hn : (0 : Int) ≤ (j : Int) ∧ (j : Int) < (n : Int) := ⟨by omega, by omega⟩
  unfold Program.plainKey at hk
  cases hue : P.underlying e with
  | none => simp [hue] at hk
  | some d => cases d <;> simp [hue] at hk <;> simp [Instr.index, run_underlying hu, asIntOf, hn, run_sizeOf W hi, h1, part, isAgg, run_underlying hue, hv, hj, go_sem]
theorem cells9 : Tryd.prog.cellsOf 9 = 1 := by kernel_rfl
theorem plain9 : Tryd.prog.plainKey 9 = true := by kernel_rfl
theorem wrapId {n : Int} (h0 : -9223372036854775808 ≤ n) (h : n < 9223372036854775808) : wrap64 n = n := by unfold wrap64; omega
/-- a token that lies in a block of its own -/
structure Tok (b : Nat) (v : Array Value) (W : World) : Prop where
  cell : ∀ j, j < 5 → W.cell? ⟨b, j, none⟩ = v[j]?
  open_ : ∀ j, W.frozen? ⟨b, j, none⟩ = false
theorem Tok.of_alloc (v : Array Value) (t : TypeId) (w : World) : Tok w.heap.size v (w.alloc (.cells v t)) :=
  ⟨fun j _ => World.cell?_alloc_at v t _ j rfl, fun j => World.frozen?_alloc_at v t _ j rfl⟩
theorem Tok.below {b : Nat} {v : Array Value} {W W' : World} (h : Tok b v W) {n : Nat} (hb : Below n W W') (hn : b < n) : Tok b v W' :=
  ⟨fun j hj => (hb.cell (p := ⟨b, j, none⟩) hn).trans (h.cell j hj), fun j => (hb.frozen (p := ⟨b, j, none⟩) hn).trans (h.open_ j)⟩
def putTok (W : World) (b : Nat) (x0 x1 x2 x3 x4 : Value) : World :=
  ((((W.setCell ⟨b, 0, none⟩ x0).setCell ⟨b, 1, none⟩ x1).setCell ⟨b, 2, none⟩ x2).setCell ⟨b, 3, none⟩ x3).setCell ⟨b, 4, none⟩ x4
theorem put_below {w W : World} (b : Nat) (hb : w.heap.size ≤ b) (h : Below w.heap.size w W) (x0 x1 x2 x3 x4 : Value) : Below w.heap.size w (putTok W b x0 x1 x2 x3 x4) :=
  ((((h.setCell hb _).setCell hb _).setCell hb _).setCell hb _).setCell hb _
theorem ne_off {b i j : Nat} (h : i ≠ j) : (⟨b, i, none⟩ : Addr) ≠ ⟨b, j, none⟩ := by intro e; injection e with _ e _; exact h e
section
variable {b : Nat} {y0 y1 y2 y3 y4 : Value} {W : World} (h : Tok b #[y0, y1, y2, y3, y4] W)
include h
theorem Tok.f1 (x0 : Value) : (W.setCell ⟨b, 0, none⟩ x0).cell? ⟨b, 1, none⟩ = some y1 := by rw [World.cell?_setCell_other _ _ _ _ (ne_off (by decide)), h.cell 1 (by decide)]; rfl
theorem Tok.f2 (x0 x1 : Value) : ((W.setCell ⟨b, 0, none⟩ x0).setCell ⟨b, 1, none⟩ x1).cell? ⟨b, 2, none⟩ = some y2 := by
  rw [World.cell?_setCell_other _ _ _ _ (ne_off (by decide)), World.cell?_setCell_other _ _ _ _ (ne_off (by decide)), h.cell 2 (by decide)]; rfl
theorem Tok.f3 (x0 x1 x2 : Value) : (((W.setCell ⟨b, 0, none⟩ x0).setCell ⟨b, 1, none⟩ x1).setCell ⟨b, 2, none⟩ x2).cell? ⟨b, 3, none⟩ = some y3 := by
  rw [World.cell?_setCell_other _ _ _ _ (ne_off (by decide)), World.cell?_setCell_other _ _ _ _ (ne_off (by decide)), World.cell?_setCell_other _ _ _ _ (ne_off (by decide)), h.cell 3 (by decide)]; rfl
theorem Tok.f4 (x0 x1 x2 x3 : Value) : ((((W.setCell ⟨b, 0, none⟩ x0).setCell ⟨b, 1, none⟩ x1).setCell ⟨b, 2, none⟩ x2).setCell ⟨b, 3, none⟩ x3).cell? ⟨b, 4, none⟩ = some y4 := by
  rw [World.cell?_setCell_other _ _ _ _ (ne_off (by decide)), World.cell?_setCell_other _ _ _ _ (ne_off (by decide)), World.cell?_setCell_other _ _ _ _ (ne_off (by decide)), World.cell?_setCell_other _ _ _ _ (ne_off (by decide)), h.cell 4 (by decide)]; rfl
end


theorem Tok.put {b : Nat} {y0 y1 y2 y3 y4 : Value} {W : World} (h : Tok b #[y0, y1, y2, y3, y4] W) (x0 x1 x2 x3 x4 : Value) : Tok b #[x0, x1, x2, x3, x4] (putTok W b x0 x1 x2 x3 x4) := by
  unfold putTok
  refine ⟨fun j hj => ?_, fun j => by simp only [World.frozen?_setCell]; exact h.open_ j⟩
  match j, hj with
  | 0, _ =>
    rw [World.cell?_setCell_other _ _ _ _ (ne_off (by decide)), World.cell?_setCell_other _ _ _ _ (ne_off (by decide)), World.cell?_setCell_other _ _ _ _ (ne_off (by decide)), World.cell?_setCell_other _ _ _ _ (ne_off (by decide)), World.cell?_setCell_same _ _ _ (h.cell 0 (by decide))]; rfl
  | 1, _ =>
    rw [World.cell?_setCell_other _ _ _ _ (ne_off (by decide)), World.cell?_setCell_other _ _ _ _ (ne_off (by decide)), World.cell?_setCell_other _ _ _ _ (ne_off (by decide)), World.cell?_setCell_same _ _ _ (h.f1 _)]; rfl
  | 2, _ =>
    rw [World.cell?_setCell_other _ _ _ _ (ne_off (by decide)), World.cell?_setCell_other _ _ _ _ (ne_off (by decide)), World.cell?_setCell_same _ _ _ (h.f2 _ _)]; rfl
  | 3, _ =>
    rw [World.cell?_setCell_other _ _ _ _ (ne_off (by decide)), World.cell?_setCell_same _ _ _ (h.f3 _ _ _)]; rfl
  | 4, _ =>
    rw [World.cell?_setCell_same _ _ _ (h.f4 _ _ _ _)]; rfl
theorem Tok.load {b : Nat} {x0 x1 x2 x3 x4 : Value} {W : World} (h : Tok b #[x0, x1, x2, x3, x4] W) : (loadVar 37 ⟨b, 0, none⟩).run Tryd.prog W = .ok (.agg #[x0, x1, x2, x3, x4]) W := by
  have hl : (loadCells ⟨b, 0, none⟩ [x0, x1, x2, x3, x4].length).run Tryd.prog W = .ok [x0, x1, x2, x3, x4].toArray W :=
    run_loadCells_list (P := Tryd.prog) W ⟨b, 0, none⟩ [x0, x1, x2, x3, x4] (fun j v hv => by
      have hadd : (⟨b, 0, none⟩ : Addr).add j = ⟨b, j, none⟩ := by unfold Addr.add; split <;> simp_all
      have hj : j < 5 := by
        rcases Nat.lt_or_ge j 5 with h' | h'
        · exact h'
        · rw [List.getElem?_eq_none (by simpa using h')] at hv; cases hv
      rw [hadd, h.cell j hj, ← hv]; simp)
  have hagg : (isAgg 37).run Tryd.prog W = .ok true W := by
    unfold isAgg
    rw [Sem.run_bind, run_underlying Tryd.underlying37 W]
    rfl
  obtain ⟨i, hi⟩ := info_of_underlying (P := Tryd.prog) Tryd.underlying37
  have hc : Tryd.prog.cellsOf 37 = 5 := by kernel_rfl
  have hsz := run_sizeOf (P := Tryd.prog) W hi
  rw [hc] at hsz
  unfold loadVar
  rw [Sem.run_bind, hagg]
  simp only [Result.andThen_ok, if_true, Sem.run_bind, hsz]
  rw [show (5 : Nat) = [x0, x1, x2, x3, x4].length from rfl, hl]
  rfl
theorem results_ctt {P : Program} {fn : Func} {p u v : Tmp} {ty : TypeId} {b : Nat} {X : Value} {tmps : Array Value} {w : World} (h : fn.results = #[.cell p ty, .tmp u, .tmp v]) (hp : tmps.getD p undef = .pointer (some ⟨b, 0, none⟩))
    (hl : (loadVar ty ⟨b, 0, none⟩).run P w = .ok X w) : (results fn tmps).run P w = .ok (.tuple #[X, tmps.getD u undef, tmps.getD v undef]) w := by
  have hp' : tmps[p]?.getD undef = .pointer (some ⟨b, 0, none⟩) := by simpa using hp
  simp only [results, h]
  simp [Sem.run_bind, Result.andThen, hp', asAddr, hl]

theorem hg_split {α : Type} {p : Prop} [Decidable p] {x : Option α} {r : α} (h : (if p then x else none) = some r) : p ∧ x = some r := by
  by_cases hp : p
  · rw [if_pos hp] at h; exact ⟨hp, h⟩
  · rw [if_neg hp] at h; cases h
theorem tup7 {α β γ δ ε ζ η : Type} {a a' : α} {b b' : β} {c c' : γ} {d d' : δ} {e e' : ε} {f f' : ζ} {g g' : η} (h : some (a, b, c, d, e, f, g) = some (a', b', c', d', e', f', g')) :
    a = a' ∧ b = b' ∧ c = c' ∧ d = d' ∧ e = e' ∧ f = f' ∧ g = g' := by
  simp only [Option.some.injEq, Prod.mk.injEq] at h; exact h
def T0 : Array Value := #[.int .i64 0, .string ⟨#[]⟩, .string ⟨#[]⟩, .slice none 0 0, .bool false]
end Go.Proofs.YtajfpegacbohdaaDoor.Hand
