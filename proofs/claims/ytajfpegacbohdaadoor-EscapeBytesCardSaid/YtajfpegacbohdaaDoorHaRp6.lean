/-
  Hand walks: the library's buffer that a generic Replacer writes to.
-/
import Derived.Test.YtajfpegacbohdaaDoorHaRp5
import Derived.Lib.AppendStr
import Derived.OneCell
namespace Go.Proofs.YtajfpegacbohdaaDoor.Hand
open Go.RowKit Go.Proofs.YtajfpegacbohdaaDoor.Pb

/-- a variable at bb holds a slice of the call's own, whose bytes are told -/
structure Buf (bb lo : Nat) (acc : List UInt8) (W : World) : Prop where
  val : ∃ v, W.heap[bb]? = some (.cells #[v] 178 (0, 0)) ∧ W.ownsRow lo 5 1 v acc.length (Lib.byteCells acc)
  le : lo ≤ bb
theorem heap_lt {W : World} {b : Nat} {o : Obj} (h : W.heap[b]? = some o) : b < W.heap.size := by
  rcases Nat.lt_or_ge b W.heap.size with h' | h'
  · exact h'
  · rw [Array.getElem?_eq_none h'] at h; cases h
theorem own_ne {W : World} {bb lo n : Nat} {u v : Value} {xs : List Value} (hb : W.heap[bb]? = some (.cells #[u] 178 (0, 0))) (h : W.ownsRow lo 5 1 v n xs) : some bb ≠ v.ownBlock := by
  rcases h.2 with ⟨rfl, _⟩ | ⟨g, cap, cur, rfl, _, hg, _⟩
  · simp [Value.ownBlock]
  · intro e
    have e2 : bb = g := by simpa [Value.ownBlock] using e
    subst e2
    rw [hb] at hg
    simp at hg
theorem own_set {W : World} {bb lo n : Nat} {u v : Value} {xs : List Value} (h : W.ownsRow lo 5 1 v n xs) (hne : some bb ≠ v.ownBlock) (x : Value) : (W.setCell ⟨bb, 0, none⟩ x).ownsRow lo 5 1 v n xs := by
  obtain ⟨h1, h2⟩ := h
  refine ⟨h1, ?_⟩
  rcases h2 with h2 | ⟨g, cap, cur, hv, hg, hh, r⟩
  · exact .inl h2
  · refine .inr ⟨g, cap, cur, hv, hg, ?_, r⟩
    rw [Below.heap_setCell _ _ _ _ (by subst hv; intro e; exact hne (by simp [Value.ownBlock, e]))]
    exact hh
theorem owns_shape {W : World} {lo e size n : Nat} {v : Value} {xs : List Value} (h : W.ownsRow lo e size v n xs) : ∃ a c, v = .slice a n c := by
  rcases h.2 with ⟨rfl, rfl⟩ | ⟨g, cap, cur, rfl, _⟩
  · exact ⟨_, _, rfl⟩
  · exact ⟨_, _, rfl⟩
theorem strCells_B (s : List UInt8) : Lib.strCells (B s) = Lib.byteCells s := by
  unfold Lib.strCells Lib.byteCells; rw [B_data]
theorem info_u8 : (Tryd.prog.info? 5).map (fun i => (i.zero, i.size, i.bytes)) = some (some (.int .u8 0), 1, 1) := by kernel_rfl
set_option maxRecDepth 100000 in
set_option maxHeartbeats 4000000 in
theorem aw_write (bb lo : Nat) (acc s : List UInt8) (w : World) (h : Buf bb lo acc w) (hz : acc.length + s.length ≤ 100000000) :
    Calls Tryd.prog 140 #[.pointer (some ⟨bb, 0, none⟩), .string (B s)] w fun e w' => e = .returned (.tuple #[.int .i64 (s.length : Int), .nilIface]) ∧ Buf bb lo (acc ++ s) w' ∧ Below lo w w' := by
  obtain ⟨v, hh, hown⟩ := h.val
  have hv := cell_of_one hh
  have hf := free_of_one hh
  have hne := own_ne hh hown
  have hlt := heap_lt hh
  have hle := h.le
  have hls : lo ≤ w.heap.size := by omega
  obtain ⟨i, hi, hzz⟩ := Option.map_eq_some_iff.1 info_u8
  simp only [Prod.mk.injEq] at hzz
  obtain ⟨hz0, hs1, hb1⟩ := hzz
  have HHH := Lib.hid hh
  have HNE := Lib.hid hne
  clear hh hne
  have hsz : (B s).size = s.length := by simp
  obtain ⟨S, hS⟩ : ∃ S, B s = S := ⟨_, rfl⟩
  rw [hS] at hsz ⊢
  have HS := Lib.hid hS
  have HSZ := Lib.hid hsz
  clear hS
  rw [← hsz] at hz
  have HOWN := Lib.hid hown
  have HI := Lib.hid hi
  have HZ := Lib.hid hz0
  have HS1 := Lib.hid hs1
  have HB1 := Lib.hid hb1
  have HH := Lib.hid h
  clear hsz hi hz0 hs1 hb1 hown h
  go_enter Tryd.func140, Tryd.ntmps140
  go_wp2_with (with_reducible refine Lib.wpList_append_own_string _ rfl (.tmp 9) (.tmp 10) 178 9 rfl lo 5 i Tryd.underlying178 Tryd.underlying9 HI.out HZ.out HS1.out HB1.out v acc.length (Lib.byteCells acc) rfl HOWN.out S rfl (by unfold maxLen; omega) (by omega) hls ?_)
  intro v' w1 hown' hgrow hnil
  have hrow : ∀ k, v.ownBlock = some k → lo ≤ k := fun k hk => (HOWN.out.lt k hk).1
  have hh1 : w1.heap[bb]? = some (.cells #[v] 178 (0, 0)) := by rw [hgrow.block bb hlt HNE.out]; exact HHH.out
  have hv1 := cell_of_one hh1
  have hfr := free_of_one hh1
  have hbel : Below lo w w1 := (Below.refl lo w).grown hgrow hls hrow
  have hne1 := own_ne hh1 hown'
  obtain ⟨a', c', rfl⟩ := owns_shape hown'
  have HO := Lib.hid hown'
  have HBL := Lib.hid hbel
  have HH1 := Lib.hid hh1
  have HN1 := Lib.hid hne1
  clear hown' hgrow hnil hrow hbel hv hf hh1 hne1
  go_wp2_with fail
  go_ret2
  refine ⟨by rw [HSZ.out]; rfl, ⟨⟨_, one_setCell HH1.out, ?_⟩, hle⟩, HBL.out.setCell hle _⟩
  have := own_set (u := v) HO.out HN1.out (.slice a' (acc.length + S.size) c')
  rw [List.length_append, ← HSZ.out]
  rw [← HS.out, strCells_B] at this
  have e : Lib.byteCells acc ++ Lib.byteCells s = Lib.byteCells (acc ++ s) := by simp [Lib.byteCells]
  rw [e] at this
  rw [HSZ.out]
  simpa using this
set_option maxRecDepth 100000 in
set_option maxHeartbeats 4000000 in
theorem getSW (a : Addr) (w : World) :
    Calls Tryd.prog 132 #[.iface 179 (.pointer (some a))] w fun e w' => e = .returned (.iface 179 (.pointer (some a))) ∧ w' = w := by
  have hta : ∀ w, (Instr.typeAssert (.iface 179 (.pointer (some a))) 181 183 true).run Tryd.prog w = .ok (.tuple #[.iface 179 (.pointer (some a)), .bool true]) w := fun _ => by kernel_rfl
  go_enter Tryd.func132, Tryd.ntmps132
  go_wp2_with fail
  go_ret
  exact ⟨rfl, rfl⟩
end Go.Proofs.YtajfpegacbohdaaDoor.Hand
