/-
  Hand walks: the trie of the library's generic Replacer: a node is given its key's rest and its value.
-/
import Derived.Test.YtajfpegacbohdaaDoorHaRp1
import Derived.StillTailTactics
import Derived.Deep.QuietTactic
import Derived.BigQuiet
import Derived.Test.YtajfpegacbohdaaDoorHaBk
namespace Go.Proofs.YtajfpegacbohdaaDoor.Hand
open Go.RowKit

def nodeZ : Array Value := #[.string ⟨#[]⟩, .int .i64 0, .string ⟨#[]⟩, .pointer none, .slice none 0 0]
/-- a node that holds a value, and nothing behind it -/
def nodeV (v : ByteArray) (p : Int) : Array Value := #[.string v, .int .i64 p, .string ⟨#[]⟩, .pointer none, .slice none 0 0]
/-- a node with one child, behind some bytes -/
def nodeP (t : ByteArray) (b : Nat) : Array Value := #[.string ⟨#[]⟩, .int .i64 0, .string t, .pointer (some ⟨b, 0, none⟩), .slice none 0 0]

set_option maxRecDepth 100000 in
set_option maxHeartbeats 2000000 in
theorem add_leaf (b : Nat) (v : ByteArray) (p : Int) (r : Value) (w : World) (hb : Blk b nodeZ w) :
    Calls Tryd.prog 94 #[.pointer (some ⟨b, 0, none⟩), .string ⟨#[]⟩, .string v, .int .i64 p, r] w fun e w' => e = .returned (.tuple #[]) ∧
      w' = (w.setCell ⟨b, 0, none⟩ (.string v)).setCell ⟨b, 1, none⟩ (.int .i64 p) := by
  have c0 := hb.cell 0 (by decide)
  have c1 := hb.cell 1 (by decide)
  have hz := hb.open_
  have c1' : ∀ x, (w.setCell ⟨b, 0, none⟩ x).cell? ⟨b, 1, none⟩ = some (.int .i64 0) := fun x => by
    rw [World.cell?_setCell_other _ _ _ _ (by simp)]; exact c1
  simp only [nodeZ, List.getElem?_toArray, List.getElem?_cons_succ, List.getElem?_cons_zero] at c0 c1
  clear hb
  go_enter Tryd.func94, Tryd.ntmps94
  go_wp2_with fail
  refine bodyPost_ret (results_none rfl _ _ _) rfl ?_
  exact ⟨rfl, rfl⟩
set_option maxRecDepth 100000 in
set_option maxHeartbeats 2000000 in
theorem add_tail (b : Nat) (t v : ByteArray) (p : Int) (r : Value) (w : World) (ht : ¬ t.toList = []) (hb : Blk b nodeZ w) (hlt : b < w.heap.size) :
    Calls Tryd.prog 94 #[.pointer (some ⟨b, 0, none⟩), .string t, .string v, .int .i64 p, r] w fun e w' => e = .returned (.tuple #[]) ∧
      w' = ((((w.setCell ⟨b, 2, none⟩ (.string t)).alloc (.cells nodeZ 145)).setCell ⟨b, 3, none⟩ (.pointer (some ⟨w.heap.size, 0, none⟩))).setCell ⟨w.heap.size, 0, none⟩ (.string v)).setCell ⟨w.heap.size, 1, none⟩ (.int .i64 p) := by
  have ht' : t.toList.isEmpty = false := by simpa using ht
  have c1 := hb.cell 1 (by decide)
  have c2 := hb.cell 2 (by decide)
  have c4 := hb.cell 4 (by decide)
  have hz := hb.open_
  simp only [nodeZ, List.getElem?_toArray, List.getElem?_cons_succ, List.getElem?_cons_zero] at c1 c2 c4
  have hlt' : b < (w.setCell ⟨b, 2, none⟩ (.string t)).heap.size := by simpa using hlt
  have d3 : ((w.setCell ⟨b, 2, none⟩ (.string t)).alloc (.cells nodeZ 145)).cell? ⟨b, 3, none⟩ = some (.pointer none) := by
    rw [World.cell?_alloc_past _ _ _ hlt', World.cell?_setCell_other _ _ _ _ (by simp)]
    exact hb.cell 3 (by decide)
  have f3 : ∀ j, ((w.setCell ⟨b, 2, none⟩ (.string t)).alloc (.cells nodeZ 145)).frozen? ⟨b, j, none⟩ = false := fun j => by
    rw [World.frozen?_alloc_past _ _ _ hlt', World.frozen?_setCell]
    exact hz j
  have d3' : ∀ x, (((w.setCell ⟨b, 2, none⟩ (.string t)).alloc (.cells nodeZ 145)).setCell ⟨b, 3, none⟩ x).cell? ⟨b, 3, none⟩ = some x := fun x => World.cell?_setCell_same _ _ _ d3
  have HN : Hid (∀ x, Blk w.heap.size nodeZ (((w.setCell ⟨b, 2, none⟩ (.string t)).alloc (.cells nodeZ 145)).setCell ⟨b, 3, none⟩ x)) := Lib.hid (fun x => by
    have h := (Blk.of_alloc nodeZ 145 (w.setCell ⟨b, 2, none⟩ (.string t))).other (b' := b) 3 x (by simp; omega)
    rwa [World.size_setCell] at h)
  clear hlt hlt' hb
  unfold nodeZ at d3 f3 d3'
  go_enter Tryd.func94, Tryd.ntmps94
  go_wp2_with fail
  refine (add_leaf w.heap.size v p r _ (HN.out _)).mono ?_
  rintro e w' ⟨rfl, rfl⟩
  go_wp2_with fail
  go_end0
  exact ⟨rfl, rfl⟩
end Go.Proofs.YtajfpegacbohdaaDoor.Hand
