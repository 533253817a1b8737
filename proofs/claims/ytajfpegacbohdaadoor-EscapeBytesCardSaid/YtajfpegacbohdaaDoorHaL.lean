/-
  Hand walks: blocks of the call's own that stay as they are while other calls are made.
-/
import Derived.Test.YtajfpegacbohdaaDoorHa0
namespace Go.Proofs.YtajfpegacbohdaaDoor.Hand
open Go.RowKit

structure Blk (b : Nat) (v : Array Value) (W : World) : Prop where
  cell : ∀ j, j < v.size → W.cell? ⟨b, j, none⟩ = v[j]?
  open_ : ∀ j, W.frozen? ⟨b, j, none⟩ = false
theorem Blk.of_alloc (v : Array Value) (t : TypeId) (w : World) : Blk w.heap.size v (w.alloc (.cells v t)) :=
  ⟨fun j _ => World.cell?_alloc_at v t _ j rfl, fun j => World.frozen?_alloc_at v t _ j rfl⟩
theorem Blk.below {b : Nat} {v : Array Value} {W W' : World} (h : Blk b v W) {n : Nat} (hb : Below n W W') (hn : b < n) : Blk b v W' :=
  ⟨fun j hj => (hb.cell (p := ⟨b, j, none⟩) hn).trans (h.cell j hj), fun j => (hb.frozen (p := ⟨b, j, none⟩) hn).trans (h.open_ j)⟩
/-- from w on: what lies in the library's variable, the elder blocks as they were, and some blocks of the call's own -/
structure Live (w W : World) (L : List (Nat × Array Value)) : Prop where
  glob : Glob W
  below : Below w.heap.size w W
  blk : ∀ x ∈ L, x.1 < W.heap.size ∧ Blk x.1 x.2 W
theorem Live.start {w : World} (h : Glob w) : Live w w [] := ⟨h, Below.refl _ _, fun _ h => by cases h⟩
theorem Live.call {w W W' : World} {L : List (Nat × Array Value)} (h : Live w W L) (hb : Below W.heap.size W W') : Live w W' L :=
  ⟨h.glob.step hb, h.below.trans (hb.mono h.below.size), fun x hx => ⟨Nat.lt_of_lt_of_le (h.blk x hx).1 hb.size, (h.blk x hx).2.below hb (h.blk x hx).1⟩⟩
theorem Live.alloc {w W : World} {L : List (Nat × Array Value)} (h : Live w W L) (v : Array Value) (t : TypeId) : Live w (W.alloc (.cells v t)) ((W.heap.size, v) :: L) := by
  have hb : Below W.heap.size W (W.alloc (.cells v t)) := Below.alloc (Below.refl _ _) (Nat.le_refl _) _
  refine ⟨h.glob.step hb, h.below.trans (hb.mono h.below.size), fun x hx => ?_⟩
  rcases List.mem_cons.1 hx with rfl | hx
  · exact ⟨by simp, Blk.of_alloc _ _ _⟩
  · exact (h.call hb).blk x hx
theorem Live.cell {w W : World} {L : List (Nat × Array Value)} (h : Live w W L) {b : Nat} {v : Array Value} (hm : (b, v) ∈ L) {j : Nat} {x : Value} (hx : v[j]? = some x) : W.cell? ⟨b, j, none⟩ = some x := by
  have hj : j < v.size := by
    rcases Nat.lt_or_ge j v.size with h' | h'
    · exact h'
    · rw [Array.getElem?_eq_none h'] at hx; cases hx
  rw [(h.blk _ hm).2.cell j hj, hx]
theorem m0 {α : Type} {a : α} {l : List α} : a ∈ a :: l := List.mem_cons_self
theorem m1 {α : Type} {a b : α} {l : List α} : a ∈ b :: a :: l := List.mem_cons_of_mem _ m0
theorem m2 {α : Type} {a b c : α} {l : List α} : a ∈ b :: c :: a :: l := List.mem_cons_of_mem _ m1
theorem m3 {α : Type} {a b c d : α} {l : List α} : a ∈ b :: c :: d :: a :: l := List.mem_cons_of_mem _ m2
end Go.Proofs.YtajfpegacbohdaaDoor.Hand
