/-
  Hand walks: the library's Replacer: made (NewReplacer), built once, used.
-/
import Derived.Test.YtajfpegacbohdaaDoorHaRp9
namespace Go.Proofs.YtajfpegacbohdaaDoor.Hand
open Go.RowKit Go.Proofs.YtajfpegacbohdaaDoor.Pb Go.Proofs.YtajfpegacbohdaaDoor.Pl

/-- what NewReplacer leaves: the Replacer at rb, the words at b2 -/
structure NewR (strs : List ByteArray) (rb b2 c : Nat) (w W : World) : Prop where
  blk : Blk rb #[.int .u32 0, .int .i32 0, .int .u32 0, .nilIface, .slice (some ⟨b2, 0, none⟩) strs.length c] W
  old : BlkF b2 strs.length (strV strs) W
  below : Below w.heap.size w W
  le : w.heap.size ≤ b2 ∧ b2 < rb ∧ rb < W.heap.size
theorem info_str : (Tryd.prog.info? 9).map (fun i => (i.zero, i.size, i.bytes)) = some (some (.string ByteArray.empty), 1, 16) := by kernel_rfl
theorem strV_get (l : List ByteArray) (j : Nat) (h : j < l.length) : (l.map Value.string)[j]? = some (strV l j) := by
  rw [List.getElem?_map, List.getElem?_eq_getElem h]
  unfold strV
  rw [List.getD_eq_getElem?_getD, List.getElem?_eq_getElem h]; rfl
theorem owns_blkF {W : World} {lo e g c : Nat} {l : List ByteArray} (h : W.ownsRow lo e 1 (.slice (some ⟨g, 0, none⟩) l.length c) l.length (l.map .string)) : BlkF g l.length (strV l) W := by
  refine ⟨fun j hj => ?_, fun j => ?_⟩
  · have := h.cells (g := g) rfl j _ (strV_get l j hj)
    have hadd : (⟨g, 0, none⟩ : Addr).add j = ⟨g, j, none⟩ := by unfold Addr.add; split <;> simp_all
    rw [hadd] at this; exact this
  · rcases h.2 with ⟨h1, _⟩ | ⟨g', cap, cur, h1, _, hh, _⟩
    · cases h1
    · have : g = g' := by simp at h1; exact h1.1
      subst this
      simp [World.frozen?, hh]
set_option maxRecDepth 100000 in
set_option maxHeartbeats 4000000 in
theorem new_replacer (bo cap : Nat) (strs : List ByteArray) (w : World) (ho : BlkF bo strs.length (strV strs) w) (hbo : bo < w.heap.size) (hn : 0 < strs.length) (h2 : strs.length % 2 = 0) (hm : strs.length ≤ 1000) :
    Calls Tryd.prog 60 #[.slice (some ⟨bo, 0, none⟩) strs.length cap] w fun e w' => ∃ rb b2 c, e = .returned (.pointer (some ⟨rb, 0, none⟩)) ∧ NewR strs rb b2 c w w' := by
  obtain ⟨i, hi, hzz⟩ := Option.map_eq_some_iff.1 info_str
  simp only [Prod.mk.injEq] at hzz
  obtain ⟨hz0, hs1, hb1⟩ := hzz
  obtain ⟨N, hN⟩ : ∃ N, strs.length = N := ⟨_, rfl⟩
  have hnews : ∀ j u, (strs.map Value.string)[j]? = some u → w.cell? ((⟨bo, 0, none⟩ : Addr).add j) = some u := by
    intro j u hu
    have hj : j < strs.length := by
      rcases Nat.lt_or_ge j strs.length with h | h
      · exact h
      · rw [List.getElem?_eq_none (by simpa using h)] at hu; cases hu
    have hadd : (⟨bo, 0, none⟩ : Addr).add j = ⟨bo, j, none⟩ := by unfold Addr.add; split <;> simp_all
    rw [hadd, ho.cell j hj, ← hu, strV_get strs j hj]
  have h1 : ∀ u ∈ strs.map Value.string, u.oneCell' = true := by
    intro u hu
    obtain ⟨_, _, rfl⟩ := List.mem_map.1 hu
    rfl
  have hlen : (strs.map Value.string).length = strs.length * 1 := by simp
  rw [hN] at hn h2 hm hlen ⊢
  have hrem : ((N : Int).tmod 2 == 1) = false := by
    rw [beq_eq_false_iff_ne, Int.tmod_eq_emod_of_nonneg (by omega)]; omega
  have hrem2 : ((N : Int) % 2 == 1) = false := by rw [beq_eq_false_iff_ne]; omega
  have HI := Lib.hid hi
  have HZ := Lib.hid hz0
  have HS1 := Lib.hid hs1
  have HB1 := Lib.hid hb1
  have HNEWS := Lib.hid hnews
  have H1 := Lib.hid h1
  have HL := Lib.hid hlen
  have HN := Lib.hid hN
  clear hi hz0 hs1 hb1 hnews h1 hlen ho hN
  go_enter Tryd.func60, Tryd.ntmps60
  go_wp2_with (with_reducible refine wpList_append_own _ rfl (.const (.slice none 0 0)) (.tmp 8) 85 rfl w.heap.size 9 i (.string ByteArray.empty) 1 16 Tryd.underlying85 HI.out HZ.out HS1.out HB1.out rfl (by decide) (.slice none 0 0) 0 [] rfl (World.ownsRow_nil _ _ _ _) ⟨bo, 0, none⟩ N cap (strs.map Value.string) rfl HL.out HNEWS.out H1.out (by unfold maxLen; omega) (by omega) (Nat.le_refl _) ?_)
  intro v' w1 hown hgr hnil
  have hbel : Below w.heap.size w w1 := (Below.refl _ _).grown hgr (Nat.le_refl _) (fun k h => by cases h)
  replace hown : w1.ownsRow w.heap.size 9 1 v' N (strs.map Value.string) := by simpa only [Nat.zero_add, List.nil_append] using hown
  rcases hown.2 with ⟨hv, h0⟩ | ⟨g, c, cur, rfl, hg1, hg2, _⟩
  · omega
  · have hlt := (hown.lt g rfl).2
    have hF : BlkF g strs.length (strV strs) w1 := by
      have := hown
      rw [← HN.out] at this
      exact owns_blkF this
    have HF := Lib.hid hF
    have HB := Lib.hid hbel
    clear hown hgr hnil hF hbel hg2
    have HA := Lib.hid (Below.alloc (Below.refl w1.heap.size w1) (Nat.le_refl _) (.cells #[.int .u32 0, .int .i32 0, .int .u32 0, .nilIface, .slice (some ⟨g, 0, none⟩) N c] 109))
    go_wp2_with fail
    go_ret
    refine ⟨w1.heap.size, g, c, rfl, ⟨?_, HF.out.below HA.out hlt, HB.out.trans (HA.out.mono HB.out.size), hg1, hlt, by simp⟩⟩
    rw [HN.out]
    exact Blk.of_alloc _ _ _
end Go.Proofs.YtajfpegacbohdaaDoor.Hand
