/-
  Hand walks: the library's generic Replacer replaces; the Replacer that NewReplacer makes, used once.
-/
import Derived.Test.YtajfpegacbohdaaDoorHaRp8
import Derived.Test.YtajfpegacbohdaaDoorPb
import Derived.Laws.MakeOwn
namespace Go.Proofs.YtajfpegacbohdaaDoor.Hand
open Go.RowKit Go.Proofs.YtajfpegacbohdaaDoor.Pb Go.Proofs.YtajfpegacbohdaaDoor.Pl

theorem owns_string {W : World} {lo : Nat} {v : Value} {l : List UInt8} (h : W.ownsRow lo 5 1 v l.length (Lib.byteCells l)) : (convert 178 9 v).run Tryd.prog W = .ok (.string (B l)) W := by
  rcases h.2 with ⟨rfl, hn⟩ | ⟨g, cap, cur, rfl, _⟩
  · obtain rfl := List.eq_nil_of_length_eq_zero hn
    exact run_convert_bytes_nil W 178 5 Tryd.underlying178 Tryd.underlying5 0 0 9 Tryd.underlying9
  · have hc := h.cells (g := g) rfl
    exact run_convert_bytes_back (P := Tryd.prog) W 178 9 5 ⟨g, 0, none⟩ cap l Tryd.underlying178 Tryd.underlying5 Tryd.underlying9 (fun j hj => hc j _ (by simp [Lib.byteCells, List.getElem?_eq_getElem hj]))
set_option maxRecDepth 100000 in
set_option maxHeartbeats 4000000 in
theorem gen_replace (kv : List (List UInt8 × ByteArray)) (br bt ts : Nat) (s : List UInt8) (W0 : World) (hT : TrieAt kv br bt ts W0) (hs : s.length ≤ 100000)
    (hv : ∀ x ∈ kv, x.2.size ≤ 100) (hr : (replS (pairF kv) 0 s).length ≤ 100000000) :
    Calls Tryd.prog 130 #[.pointer (some ⟨br, 0, none⟩), .string (B s)] W0 fun e w' => e = .returned (.string (B (replS (pairF kv) 0 s))) ∧ Below W0.heap.size W0 w' := by
  obtain ⟨i, hi, hzz⟩ := Option.map_eq_some_iff.1 info_u8
  simp only [Prod.mk.injEq] at hzz
  obtain ⟨hz0, hs1, hb1⟩ := hzz
  obtain ⟨w1, hmk, hown, hgr⟩ := run_makeSlice_owned (P := Tryd.prog) W0 W0.heap.size 178 5 i (.int .u8 0) 1 Tryd.underlying178 hi hz0 hs1 .i64 .i64 s.length (by omega) (by rw [hb1]; omega) (by unfold maxLen; omega) (Nat.le_refl _)
  have hb1 : Below W0.heap.size W0 w1 := (Below.refl _ _).grown hgr (Nat.le_refl _) (fun k h => by cases h)
  have hlt1 : W0.heap.size < w1.heap.size := (hown.lt W0.heap.size rfl).2
  have hB0 : Buf w1.heap.size W0.heap.size [] (w1.alloc (.cells #[.slice (some ⟨W0.heap.size, 0, none⟩) 0 s.length] 178)) :=
    ⟨⟨_, heap_alloc_new _ _, hown.alloc _⟩, Nat.le_of_lt hlt1⟩
  have C := Lib.hid (gen_write kv br bt ts w1.heap.size W0.heap.size s W0 _ hT (hb1.alloc (Nat.le_of_lt hlt1) (.cells #[.slice (some ⟨W0.heap.size, 0, none⟩) 0 s.length] 178)) hs (Nat.le_refl _) hB0 hv)
  obtain ⟨R, hR⟩ : ∃ R, replS (pairF kv) 0 s = R := ⟨_, rfl⟩
  rw [hR] at C hr ⊢
  have hsz : (B s).size = s.length := by simp
  clear hR hB0 hb1 hlt1 hown hgr hi hz0 hs1
  go_enter Tryd.func130, Tryd.ntmps130
  go_wp2_with fail
  refine C.out.mono ?_
  rintro e w2 ⟨⟨n, rfl⟩, hB, hW⟩
  obtain ⟨v, hh, hown2⟩ := hB.val
  have hv1 := cell_of_one hh
  have hcv := owns_string hown2
  have HW := Lib.hid hW
  clear hmk hB hW hh hown2 C hT hv
  go_wp2_with fail
  go_ret
  exact ⟨rfl, HW.out⟩
end Go.Proofs.YtajfpegacbohdaaDoor.Hand
