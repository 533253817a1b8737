/-
  Hand walks: utf.tail, utf.has, utf.first, utf.Decode.
-/
import Derived.Test.YtajfpegacbohdaaDoorHaU
import Derived.Test.YtajfpegacbohdaaDoorHaBk
import Derived.Deep.RegionHeld3
import Derived.BigQuiet
import Derived.Deep.QuietTactic
import Derived.Laws.ResultCell
import Derived.Laws.Rows
namespace Go.Proofs.YtajfpegacbohdaaDoor.Hand
open Go.RowKit Go.Proofs.YtajfpegacbohdaaDoor.Pl Go.Proofs.YtajfpegacbohdaaDoor.Pb

def spanV (lo hi : Int) : Value := .agg #[.int .u8 lo, .int .u8 hi]
theorem below_two (w : World) (o p : Obj) : Below w.heap.size w ((w.alloc o).alloc p) := ((Below.refl _ w).alloc (Nat.le_refl _) o).alloc (by simp) p
theorem load_span (w : World) (a b : Value) (p : Obj) : (loadVar 73 ⟨w.heap.size, 0, none⟩).run Tryd.prog ((w.alloc (.cells #[a, b] 73)).alloc p) = .ok (.agg #[a, b]) ((w.alloc (.cells #[a, b] 73)).alloc p) :=
  run_loadVar_row _ _ 73 73 #[a, b] (0, 0) _ (by show ((w.heap.push _).push _)[w.heap.size]? = _; simp [Array.getElem?_push]) Tryd.underlying73 rfl (by kernel_rfl)
set_option maxRecDepth 100000 in
set_option maxHeartbeats 1000000 in
theorem tail_c0 (c : Nat) (w : World) (h : c < 194) : Calls Tryd.prog 48 #[.int .u8 (c : Int)] w fun e w' => e = .returned (.tuple #[spanV 128 191, .int .i64 1]) ∧ Below w.heap.size w w' := by
  have q1 : decide ((194 : Int) ≤ (c : Int)) = false := by simp; omega
  have q3 : ((c : Int) == 224) = false := by simp; omega
  have q4 : ((c : Int) == 237) = false := by simp; omega
  have q5 : decide ((225 : Int) ≤ (c : Int)) = false := by simp; omega
  have q7 : ((c : Int) == 240) = false := by simp; omega
  have q8 : ((c : Int) == 244) = false := by simp; omega
  have q9 : decide ((241 : Int) ≤ (c : Int)) = false := by simp; omega
  clear h
  go_enter Tryd.func48, Tryd.ntmps48
  go_wp2_with fail
  refine bodyPost_ret (v := .tuple #[spanV 128 191, .int .i64 1]) ?_ rfl ⟨rfl, below_two w _ _⟩
  rw [results_cell_tmp rfl]
  simp only [Array.getD_eq_getD_getElem?, List.getElem?_toArray, List.getElem?_cons_succ, List.getElem?_cons_zero, Option.getD_some, asAddr, Sem.run_pure, Result.andThen_ok, load_span w]
  rfl
set_option maxRecDepth 100000 in
set_option maxHeartbeats 1000000 in
theorem tail_c1 (c : Nat) (w : World) (h : 194 ≤ c ∧ c ≤ 223) : Calls Tryd.prog 48 #[.int .u8 (c : Int)] w fun e w' => e = .returned (.tuple #[spanV 128 191, .int .i64 2]) ∧ Below w.heap.size w w' := by
  have q1 : decide ((194 : Int) ≤ (c : Int)) = true := by simp; omega
  have q2 : decide ((c : Int) ≤ 223) = true := by simp; omega
  clear h
  go_enter Tryd.func48, Tryd.ntmps48
  go_wp2_with fail
  refine bodyPost_ret (v := .tuple #[spanV 128 191, .int .i64 2]) ?_ rfl ⟨rfl, below_two w _ _⟩
  rw [results_cell_tmp rfl]
  simp only [Array.getD_eq_getD_getElem?, List.getElem?_toArray, List.getElem?_cons_succ, List.getElem?_cons_zero, Option.getD_some, asAddr, Sem.run_pure, Result.andThen_ok, load_span w]
  rfl
set_option maxRecDepth 100000 in
set_option maxHeartbeats 1000000 in
theorem tail_c2 (c : Nat) (w : World) (h : c = 224) : Calls Tryd.prog 48 #[.int .u8 (c : Int)] w fun e w' => e = .returned (.tuple #[spanV 160 191, .int .i64 3]) ∧ Below w.heap.size w w' := by
  have q1 : decide ((194 : Int) ≤ (c : Int)) = true := by simp; omega
  have q2 : decide ((c : Int) ≤ 223) = false := by simp; omega
  have q3 : ((c : Int) == 224) = true := by simp; omega
  clear h
  go_enter Tryd.func48, Tryd.ntmps48
  go_wp2_with fail
  refine bodyPost_ret (v := .tuple #[spanV 160 191, .int .i64 3]) ?_ rfl ⟨rfl, below_two w _ _⟩
  rw [results_cell_tmp rfl]
  simp only [Array.getD_eq_getD_getElem?, List.getElem?_toArray, List.getElem?_cons_succ, List.getElem?_cons_zero, Option.getD_some, asAddr, Sem.run_pure, Result.andThen_ok, load_span w]
  rfl
set_option maxRecDepth 100000 in
set_option maxHeartbeats 1000000 in
theorem tail_c3 (c : Nat) (w : World) (h : c = 237) : Calls Tryd.prog 48 #[.int .u8 (c : Int)] w fun e w' => e = .returned (.tuple #[spanV 128 159, .int .i64 3]) ∧ Below w.heap.size w w' := by
  have q1 : decide ((194 : Int) ≤ (c : Int)) = true := by simp; omega
  have q2 : decide ((c : Int) ≤ 223) = false := by simp; omega
  have q3 : ((c : Int) == 224) = false := by simp; omega
  have q4 : ((c : Int) == 237) = true := by simp; omega
  clear h
  go_enter Tryd.func48, Tryd.ntmps48
  go_wp2_with fail
  refine bodyPost_ret (v := .tuple #[spanV 128 159, .int .i64 3]) ?_ rfl ⟨rfl, below_two w _ _⟩
  rw [results_cell_tmp rfl]
  simp only [Array.getD_eq_getD_getElem?, List.getElem?_toArray, List.getElem?_cons_succ, List.getElem?_cons_zero, Option.getD_some, asAddr, Sem.run_pure, Result.andThen_ok, load_span w]
  rfl
set_option maxRecDepth 100000 in
set_option maxHeartbeats 1000000 in
theorem tail_c4 (c : Nat) (w : World) (h : 225 ≤ c ∧ c ≤ 239 ∧ c ≠ 237) : Calls Tryd.prog 48 #[.int .u8 (c : Int)] w fun e w' => e = .returned (.tuple #[spanV 128 191, .int .i64 3]) ∧ Below w.heap.size w w' := by
  have q1 : decide ((194 : Int) ≤ (c : Int)) = true := by simp; omega
  have q2 : decide ((c : Int) ≤ 223) = false := by simp; omega
  have q3 : ((c : Int) == 224) = false := by simp; omega
  have q4 : ((c : Int) == 237) = false := by simp; omega
  have q5 : decide ((225 : Int) ≤ (c : Int)) = true := by simp; omega
  have q6 : decide ((c : Int) ≤ 239) = true := by simp; omega
  clear h
  go_enter Tryd.func48, Tryd.ntmps48
  go_wp2_with fail
  refine bodyPost_ret (v := .tuple #[spanV 128 191, .int .i64 3]) ?_ rfl ⟨rfl, below_two w _ _⟩
  rw [results_cell_tmp rfl]
  simp only [Array.getD_eq_getD_getElem?, List.getElem?_toArray, List.getElem?_cons_succ, List.getElem?_cons_zero, Option.getD_some, asAddr, Sem.run_pure, Result.andThen_ok, load_span w]
  rfl
set_option maxRecDepth 100000 in
set_option maxHeartbeats 1000000 in
theorem tail_c5 (c : Nat) (w : World) (h : c = 240) : Calls Tryd.prog 48 #[.int .u8 (c : Int)] w fun e w' => e = .returned (.tuple #[spanV 144 191, .int .i64 4]) ∧ Below w.heap.size w w' := by
  have q1 : decide ((194 : Int) ≤ (c : Int)) = true := by simp; omega
  have q2 : decide ((c : Int) ≤ 223) = false := by simp; omega
  have q3 : ((c : Int) == 224) = false := by simp; omega
  have q4 : ((c : Int) == 237) = false := by simp; omega
  have q5 : decide ((225 : Int) ≤ (c : Int)) = true := by simp; omega
  have q6 : decide ((c : Int) ≤ 239) = false := by simp; omega
  have q7 : ((c : Int) == 240) = true := by simp; omega
  clear h
  go_enter Tryd.func48, Tryd.ntmps48
  go_wp2_with fail
  refine bodyPost_ret (v := .tuple #[spanV 144 191, .int .i64 4]) ?_ rfl ⟨rfl, below_two w _ _⟩
  rw [results_cell_tmp rfl]
  simp only [Array.getD_eq_getD_getElem?, List.getElem?_toArray, List.getElem?_cons_succ, List.getElem?_cons_zero, Option.getD_some, asAddr, Sem.run_pure, Result.andThen_ok, load_span w]
  rfl
set_option maxRecDepth 100000 in
set_option maxHeartbeats 1000000 in
theorem tail_c6 (c : Nat) (w : World) (h : c = 244) : Calls Tryd.prog 48 #[.int .u8 (c : Int)] w fun e w' => e = .returned (.tuple #[spanV 128 143, .int .i64 4]) ∧ Below w.heap.size w w' := by
  have q1 : decide ((194 : Int) ≤ (c : Int)) = true := by simp; omega
  have q2 : decide ((c : Int) ≤ 223) = false := by simp; omega
  have q3 : ((c : Int) == 224) = false := by simp; omega
  have q4 : ((c : Int) == 237) = false := by simp; omega
  have q5 : decide ((225 : Int) ≤ (c : Int)) = true := by simp; omega
  have q6 : decide ((c : Int) ≤ 239) = false := by simp; omega
  have q7 : ((c : Int) == 240) = false := by simp; omega
  have q8 : ((c : Int) == 244) = true := by simp; omega
  clear h
  go_enter Tryd.func48, Tryd.ntmps48
  go_wp2_with fail
  refine bodyPost_ret (v := .tuple #[spanV 128 143, .int .i64 4]) ?_ rfl ⟨rfl, below_two w _ _⟩
  rw [results_cell_tmp rfl]
  simp only [Array.getD_eq_getD_getElem?, List.getElem?_toArray, List.getElem?_cons_succ, List.getElem?_cons_zero, Option.getD_some, asAddr, Sem.run_pure, Result.andThen_ok, load_span w]
  rfl
set_option maxRecDepth 100000 in
set_option maxHeartbeats 1000000 in
theorem tail_c7 (c : Nat) (w : World) (h : 241 ≤ c ∧ c ≤ 243) : Calls Tryd.prog 48 #[.int .u8 (c : Int)] w fun e w' => e = .returned (.tuple #[spanV 128 191, .int .i64 4]) ∧ Below w.heap.size w w' := by
  have q1 : decide ((194 : Int) ≤ (c : Int)) = true := by simp; omega
  have q2 : decide ((c : Int) ≤ 223) = false := by simp; omega
  have q3 : ((c : Int) == 224) = false := by simp; omega
  have q4 : ((c : Int) == 237) = false := by simp; omega
  have q5 : decide ((225 : Int) ≤ (c : Int)) = true := by simp; omega
  have q6 : decide ((c : Int) ≤ 239) = false := by simp; omega
  have q7 : ((c : Int) == 240) = false := by simp; omega
  have q8 : ((c : Int) == 244) = false := by simp; omega
  have q9 : decide ((241 : Int) ≤ (c : Int)) = true := by simp; omega
  have q10 : decide ((c : Int) ≤ 243) = true := by simp; omega
  clear h
  go_enter Tryd.func48, Tryd.ntmps48
  go_wp2_with fail
  refine bodyPost_ret (v := .tuple #[spanV 128 191, .int .i64 4]) ?_ rfl ⟨rfl, below_two w _ _⟩
  rw [results_cell_tmp rfl]
  simp only [Array.getD_eq_getD_getElem?, List.getElem?_toArray, List.getElem?_cons_succ, List.getElem?_cons_zero, Option.getD_some, asAddr, Sem.run_pure, Result.andThen_ok, load_span w]
  rfl
set_option maxRecDepth 100000 in
set_option maxHeartbeats 1000000 in
theorem tail_c8 (c : Nat) (w : World) (h : 244 < c) : Calls Tryd.prog 48 #[.int .u8 (c : Int)] w fun e w' => e = .returned (.tuple #[spanV 128 191, .int .i64 1]) ∧ Below w.heap.size w w' := by
  have q1 : decide ((194 : Int) ≤ (c : Int)) = true := by simp; omega
  have q2 : decide ((c : Int) ≤ 223) = false := by simp; omega
  have q3 : ((c : Int) == 224) = false := by simp; omega
  have q4 : ((c : Int) == 237) = false := by simp; omega
  have q5 : decide ((225 : Int) ≤ (c : Int)) = true := by simp; omega
  have q6 : decide ((c : Int) ≤ 239) = false := by simp; omega
  have q7 : ((c : Int) == 240) = false := by simp; omega
  have q8 : ((c : Int) == 244) = false := by simp; omega
  have q9 : decide ((241 : Int) ≤ (c : Int)) = true := by simp; omega
  have q10 : decide ((c : Int) ≤ 243) = false := by simp; omega
  clear h
  go_enter Tryd.func48, Tryd.ntmps48
  go_wp2_with fail
  refine bodyPost_ret (v := .tuple #[spanV 128 191, .int .i64 1]) ?_ rfl ⟨rfl, below_two w _ _⟩
  rw [results_cell_tmp rfl]
  simp only [Array.getD_eq_getD_getElem?, List.getElem?_toArray, List.getElem?_cons_succ, List.getElem?_cons_zero, Option.getD_some, asAddr, Sem.run_pure, Result.andThen_ok, load_span w]
  rfl

theorem tail_any (c : Nat) (w : World) : Calls Tryd.prog 48 #[.int .u8 (c : Int)] w fun e w' => e = .returned (.tuple #[spanV (tailN c).1 (tailN c).2.1, .int .i64 (tailN c).2.2]) ∧ Below w.heap.size w w' := by
  unfold tailN
  split
  · exact tail_c1 c w (by assumption)
  · split
    · exact tail_c2 c w (by assumption)
    · split
      · exact tail_c3 c w (by assumption)
      · split
        · exact tail_c4 c w (by omega)
        · split
          · exact tail_c5 c w (by assumption)
          · split
            · exact tail_c6 c w (by assumption)
            · split
              · exact tail_c7 c w (by assumption)
              · by_cases h : c < 194
                · exact tail_c0 c w h
                · exact tail_c8 c w (by omega)
theorem cell_step {w W : World} {a : Addr} {v : Value} (hb : Below w.heap.size w W) (h : w.cell? a = some v) : W.cell? a = some v := (hb.cell (World.block_lt_of_cell? w _ h)).trans h
set_option maxRecDepth 100000 in
set_option maxHeartbeats 1000000 in
theorem has_c (lo hi c : Int) (w : World) : Calls Tryd.prog 49 #[.agg #[.int .u8 lo, .int .u8 hi], .int .u8 c] w fun e w' => e = .returned (.bool (decide (lo ≤ c ∧ c ≤ hi))) ∧ Below w.heap.size w w' := by
  have hB : ∀ o, Below w.heap.size w (w.alloc o) := fun o => (Below.refl _ w).alloc (Nat.le_refl _) o
  have HB := Lib.hid hB
  clear hB
  by_cases h1 : lo ≤ c
  · have q1 : decide (lo ≤ c) = true := by simp; omega
    by_cases h2 : c ≤ hi
    · have q2 : decide (c ≤ hi) = true := by simp; omega
      have e : decide (lo ≤ c ∧ c ≤ hi) = true := decide_eq_true ⟨h1, h2⟩
      rw [e]
      clear h1 h2 e
      go_enter Tryd.func49, Tryd.ntmps49
      go_wp2_with fail
      go_ret
      exact ⟨rfl, HB.out _⟩
    · have q2 : decide (c ≤ hi) = false := by simp; omega
      have e : decide (lo ≤ c ∧ c ≤ hi) = false := decide_eq_false (by omega)
      rw [e]
      clear h1 h2 e
      go_enter Tryd.func49, Tryd.ntmps49
      go_wp2_with fail
      go_ret
      exact ⟨rfl, HB.out _⟩
  · have q1 : decide (lo ≤ c) = false := by simp; omega
    have e : decide (lo ≤ c ∧ c ≤ hi) = false := decide_eq_false (by omega)
    rw [e]
    clear h1 e
    go_enter Tryd.func49, Tryd.ntmps49
    go_wp2_with fail
    go_ret
    exact ⟨rfl, HB.out _⟩
/-- the bytes behind the first one, one by one -/
def scanF (all : Nat) : Nat → Nat → Nat → List UInt8 → Nat × Bool
  | k, _, _, [] => if k < all then (k, false) else (k, decide (1 < all))
  | k, lo, hi, d :: r => if k < all then (if lo ≤ d.toNat ∧ d.toNat ≤ hi then scanF all (k + 1) 128 191 r else (k, false)) else (k, decide (1 < all))
theorem scanF_end (all k lo hi : Nat) (r : List UInt8) (h : ¬ k < all) : scanF all k lo hi r = (k, decide (1 < all)) := by
  cases r <;> rw [scanF, if_neg h]
theorem byteO_nil (k : Nat) : byteO [] k = none := rfl
theorem byteO_zero (d : UInt8) (r : List UInt8) : byteO (d :: r) 0 = some d.toNat := rfl
theorem byteO_succ (d : UInt8) (r : List UInt8) (k : Nat) : byteO (d :: r) (k + 1) = byteO r k := rfl
theorem tail_all (c : Nat) : (tailN c).2.2 = 1 ∨ (tailN c).2.2 = 2 ∨ (tailN c).2.2 = 3 ∨ (tailN c).2.2 = 4 := by
  unfold tailN
  repeat' split
  all_goals simp
set_option linter.unusedSimpArgs false in
theorem first_scan (c : UInt8) (r : List UInt8) (h : ¬ c.toNat < 128) : firstU (c :: r) = scanF (tailN c.toNat).2.2 1 (tailN c.toNat).1 (tailN c.toNat).2.1 r := by
  show firstN c.toNat (byteO r 0) (byteO r 1) (byteO r 2) = _
  unfold firstN
  rw [if_neg h]
  obtain ⟨lo, hl⟩ : ∃ x, (tailN c.toNat).1 = x := ⟨_, rfl⟩
  obtain ⟨hi, hh⟩ : ∃ x, (tailN c.toNat).2.1 = x := ⟨_, rfl⟩
  rw [hl, hh]
  have e4 : ∀ q, scanF 4 4 128 191 q = (4, true) := fun q => scanF_end _ _ _ _ _ (by omega)
  have e3 : ∀ q, scanF 3 3 128 191 q = (3, true) := fun q => scanF_end _ _ _ _ _ (by omega)
  have e2 : ∀ q, scanF 2 2 128 191 q = (2, true) := fun q => scanF_end _ _ _ _ _ (by omega)
  rcases tail_all c.toNat with h1 | h1 | h1 | h1 <;> rw [h1]
  · rw [if_pos rfl, scanF_end _ _ _ _ _ (by omega)]; rfl
  all_goals
    rcases r with _ | ⟨d, _ | ⟨e, _ | ⟨f, r⟩⟩⟩
    · simp [scanF, byteO_nil, inO]
    · by_cases hd : lo ≤ d.toNat ∧ d.toNat ≤ hi <;> simp [scanF, byteO_nil, byteO_zero, byteO_succ, inO, contO, hd, e4, e3, e2]
    · by_cases hd : lo ≤ d.toNat ∧ d.toNat ≤ hi <;> by_cases he : 128 ≤ e.toNat ∧ e.toNat ≤ 191 <;> simp [scanF, byteO_nil, byteO_zero, byteO_succ, inO, contO, hd, he, e4, e3, e2]
    · by_cases hd : lo ≤ d.toNat ∧ d.toNat ≤ hi <;> by_cases he : 128 ≤ e.toNat ∧ e.toNat ≤ 191 <;> by_cases hf : 128 ≤ f.toNat ∧ f.toNat ≤ 191 <;> simp [scanF, byteO_nil, byteO_zero, byteO_succ, inO, contO, hd, he, hf, e4, e3, e2]
/-- a span in a block of the call's own -/
structure Sp (w : World) (p : Nat) (l h : Int) (W : World) : Prop where
  lt : p < W.heap.size
  own : w.heap.size ≤ p
  blk : Blk p #[.int .u8 l, .int .u8 h] W
  below : Below w.heap.size w W
theorem Sp.call {w W W' : World} {p : Nat} {l h : Int} (hs : Sp w p l h W) (hb : Below W.heap.size W W') : Sp w p l h W' :=
  ⟨Nat.lt_of_lt_of_le hs.lt hb.size, hs.own, hs.blk.below hb hs.lt, hs.below.trans (hb.mono hs.below.size)⟩
@[reducible] def SpC (w : World) (p : Nat) (l h : Int) (W : World) : Prop := Sp w p l h W ∧ W.cell? ⟨p, 0, none⟩ = some (.int .u8 l) ∧ W.cell? ⟨p, 1, none⟩ = some (.int .u8 h)
theorem Sp.cells {w W : World} {p : Nat} {l h : Int} (hs : Sp w p l h W) : SpC w p l h W := ⟨hs, hs.blk.cell 0 (by simp), hs.blk.cell 1 (by simp)⟩
theorem SpC.call {w W W' : World} {p : Nat} {l h : Int} (hb : Below W.heap.size W W') (hs : SpC w p l h W) : SpC w p l h W' := (hs.1.call hb).cells
theorem Sp.drew {w W : World} {p : Nat} {l h : Int} (hs : Sp w p l h W) : Sp w p l h W.drew := hs.call (Below.drew (Below.refl _ _))
theorem Sp.put {w W : World} {p : Nat} {l h : Int} (hs : Sp w p l h W) (l' h' : Int) : Sp w p l' h' ((W.setCell ⟨p, 0, none⟩ (.int .u8 l')).setCell ⟨p, 1, none⟩ (.int .u8 h')) :=
  ⟨by simp; exact hs.lt, hs.own, by
    have := (hs.blk.set 0 (.int .u8 l') (by simp)).set 1 (.int .u8 h') (by simp)
    simpa using this, by
    have b1 := hs.below.setCell (p := ⟨p, 0, none⟩) hs.own (.int .u8 l')
    exact b1.setCell (p := ⟨p, 1, none⟩) hs.own (.int .u8 h')⟩
theorem Sp.new (w w1 : World) (l h : Int) (t : TypeId) (hb : Below w.heap.size w w1) : Sp w w1.heap.size l h (w1.alloc (.cells #[.int .u8 l, .int .u8 h] t)) :=
  ⟨by simp, hb.size, Blk.of_alloc _ _ _, hb.alloc hb.size _⟩
set_option maxRecDepth 100000 in
set_option maxHeartbeats 4000000 in
theorem first_at (c : UInt8) (r : List UInt8) (n : Nat) (b : Bool) (hf : firstU (c :: r) = (n, b)) (a : ByteArray) (ha : a.data.toList = c :: r) (hz : a.size ≤ 1000000000) (w : World) :
    Calls Tryd.prog 32 #[.string a] w fun e w' => e = .returned (.tuple #[.int .i64 (n : Int), .bool b]) ∧ Below w.heap.size w w' := by
  have h0 : 0 < a.size := by
    have := congrArg List.length ha
    rw [Array.length_toList, List.length_cons] at this
    show 0 < a.data.size
    omega
  have hc : a[0] = c := by
    have := congrArg (fun l => l[0]?) ha
    rw [Array.getElem?_toList] at this
    rw [Array.getElem?_eq_getElem (show 0 < a.data.size from h0)] at this
    exact Option.some.inj this
  by_cases h128 : c.toNat < 128
  · have q1 : decide (((a[0].toNat : Nat) : Int) < 128) = true := by rw [hc]; simp; omega
    have hn : (n, b) = (1, true) := by rw [← hf]; show firstN c.toNat (byteO r 0) (byteO r 1) (byteO r 2) = _; unfold firstN; rw [if_pos h128]
    injection hn with h1 h2
    subst h1; subst h2
    clear ha hc hf h128
    go_enter Tryd.func32, Tryd.ntmps32
    go_wp2_with fail
    go_ret2
    exact ⟨rfl, Below.refl _ _⟩
  · have q1 : decide (((a[0].toNat : Nat) : Int) < 128) = false := by rw [hc]; simp; omega
    have hs := first_scan c r h128
    rw [hf] at hs
    have T := fun W => tail_any a[0].toNat W
    rw [hc] at T
    have hall := tail_all c.toNat
    obtain ⟨lo, hl⟩ : ∃ x, (tailN c.toNat).1 = x := ⟨_, rfl⟩
    obtain ⟨hi, hh⟩ : ∃ x, (tailN c.toNat).2.1 = x := ⟨_, rfl⟩
    obtain ⟨all, ht⟩ : ∃ x, (tailN c.toNat).2.2 = x := ⟨_, rfl⟩
    rw [hl, hh, ht] at hs T
    rw [ht] at hall
    have HT : Hid (∀ W, Calls Tryd.prog 48 #[.int .u8 ((a[0].toNat : Nat) : Int)] W fun e w' => e = .returned (.tuple #[.agg #[.int .u8 (lo : Int), .int .u8 (hi : Int)], .int .i64 (all : Int)]) ∧ Below W.heap.size W w') := Lib.hid (fun W => by rw [hc]; exact T W)
    have HA : Hid ((n, b) = scanF all 1 lo hi (a.data.toList.drop 1)) := Lib.hid (by rw [ha]; exact hs)
    have HH := Lib.hid (fun lo hi c W => has_c lo hi c W)
    have hall4 : all ≤ 4 := by omega
    clear ha hc hf h128 hs T hl hh ht hall
    go_enter Tryd.func32, Tryd.ntmps32
    go_wp2_with fail
    refine (HT.out _).mono ?_
    rintro e w1 ⟨rfl, hb⟩
    have HB := Lib.hid hb
    clear hb
    go_wp2_with fail
    go_loopg [2] 4 (fun g v wx => ∃ k l h : Nat, k + g = 5 ∧ v = .int .i64 (k : Int) ∧ k ≤ a.size ∧ Hid (Sp w w1.heap.size l h wx) ∧ Hid ((n, b) = scanF all k l h (a.data.toList.drop k)))
    case atStart => exact ⟨1, lo, hi, rfl, rfl, by omega, Lib.hid (Sp.new w w1 lo hi _ HB.out), HA⟩
    case round =>
      obtain ⟨k, l, h, hkg, rfl, hk, hB, hS⟩ := hrel
      by_cases hall : k < all
      · have q2 : decide ((k : Int) < (all : Int)) = true := by simp; omega
        by_cases hlt : k < a.size
        · have q3 : ((k : Int) == (a.size : Int)) = false := by rw [beq_eq_false_iff_ne]; omega
          have hd := drop_cons a k hlt
          by_cases hin : l ≤ a[k].toNat ∧ a[k].toNat ≤ h
          · have F : Hid (∀ W, Calls Tryd.prog 49 #[.agg #[.int .u8 (l : Int), .int .u8 (h : Int)], .int .u8 ((a[k].toNat : Nat) : Int)] W fun e w' => e = .returned (.bool true) ∧ Below W.heap.size W w') := Lib.hid (fun W => by
              have := HH.out l h (a[k].toNat : Nat) W
              rw [decide_eq_true (by omega)] at this
              exact this)
            have HN : Hid ((n, b) = scanF all (k + 1) 128 191 (a.data.toList.drop (k + 1))) := Lib.hid (by
              have := hS.out
              rw [hd, scanF, if_pos hall, if_pos hin] at this
              exact this)
            clear hd hin hS
            go_wp2_with fail
            have HSD := (Sp.drew hB.out).cells
            go_region_held3 (fun W => Sp w w1.heap.size l h W ∧ W.cell? ⟨w1.heap.size, 0, none⟩ = some (.int .u8 (l : Int)) ∧ W.cell? ⟨w1.heap.size, 1, none⟩ = some (.int .u8 (h : Int))) (first | with_reducible assumption | with_reducible exact HSD | exact SpC.call hb (by with_reducible assumption)) (first | (go_at_call 49; refine (F.out _).mono ?_; rintro e w' ⟨rfl, hb⟩))
            have HW : Hid (Sp w w1.heap.size (l : Int) (h : Int) _) := Lib.hid (And.left (by with_reducible assumption))
            have f0 := HW.out.blk.open_ 0
            have f1 := HW.out.blk.open_ 1
            clear HSD F
            go_wp2_with fail
            cases gk with
            | zero => omega
            | succ g =>
              go_roundg g
              case measure => omega
              case rel => exact ⟨k + 1, 128, 191, by omega, by go_num, by omega, Lib.hid (HW.out.put 128 191), HN⟩
          · have F : Hid (∀ W, Calls Tryd.prog 49 #[.agg #[.int .u8 (l : Int), .int .u8 (h : Int)], .int .u8 ((a[k].toNat : Nat) : Int)] W fun e w' => e = .returned (.bool false) ∧ Below W.heap.size W w') := Lib.hid (fun W => by
              have := HH.out l h (a[k].toNat : Nat) W
              rw [decide_eq_false (by omega)] at this
              exact this)
            have HN : Hid ((n, b) = (k, false)) := Lib.hid (by
              have := hS.out
              rw [hd, scanF, if_pos hall, if_neg hin] at this
              exact this)
            clear hd hin hS
            go_wp2_with fail
            have HSD := (Sp.drew hB.out).cells
            go_region_held3 (fun W => Sp w w1.heap.size l h W ∧ W.cell? ⟨w1.heap.size, 0, none⟩ = some (.int .u8 (l : Int)) ∧ W.cell? ⟨w1.heap.size, 1, none⟩ = some (.int .u8 (h : Int))) (first | with_reducible assumption | with_reducible exact HSD | exact SpC.call hb (by with_reducible assumption)) (first | (go_at_call 49; refine (F.out _).mono ?_; rintro e w' ⟨rfl, hb⟩))
            have HW : Hid (Sp w w1.heap.size (l : Int) (h : Int) _) := Lib.hid (And.left (by with_reducible assumption))
            clear HSD F
            go_wp2_with fail
            go_ret2
            have hn := HN.out
            injection hn with h1 h2
            subst h1; subst h2
            exact ⟨rfl, HW.out.below⟩
        · obtain rfl : k = a.size := by omega
          have HN : Hid ((n, b) = (a.size, false)) := Lib.hid (by
            have := hS.out
            rw [List.drop_eq_nil_of_le (by rw [Array.length_toList]; show a.size ≤ a.size; omega), scanF, if_pos hall] at this
            exact this)
          clear hS
          go_wp2_with fail
          go_quiet (fail)
          go_wp2_with fail
          go_ret2
          have hn := HN.out
          injection hn with h1 h2
          subst h1; subst h2
          exact ⟨rfl, hB.out.below.trans ⟨rfl, rfl, rfl, Nat.le_refl _, fun _ _ => rfl⟩⟩
      · have q2 : decide ((k : Int) < (all : Int)) = false := by simp; omega
        have HN : Hid ((n, b) = (k, decide (1 < all))) := Lib.hid (by
          have := hS.out
          rw [scanF_end _ _ _ _ _ hall] at this
          exact this)
        clear hS
        have hn := HN.out
        injection hn with h1 h2
        subst h1
        cases hb1 : decide (1 < all) with
        | true =>
          rw [hb1] at h2; subst h2
          have q4 : decide ((1 : Int) < (all : Int)) = true := by simp at hb1 ⊢; omega
          have q5 := hb1
          clear hb1 HN
          go_wp2_with fail
          go_ret2
          exact ⟨rfl, hB.out.below⟩
        | false =>
          rw [hb1] at h2; subst h2
          have q4 : decide ((1 : Int) < (all : Int)) = false := by simp at hb1 ⊢; omega
          have q5 := hb1
          clear hb1 HN
          go_wp2_with fail
          go_ret2
          exact ⟨rfl, hB.out.below⟩
end Go.Proofs.YtajfpegacbohdaaDoor.Hand
