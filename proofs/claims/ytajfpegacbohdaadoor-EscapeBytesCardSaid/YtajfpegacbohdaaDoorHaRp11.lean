/-
  Hand walks: the library's Replacer is built (a generic one), and replaces.
-/
import Derived.Test.YtajfpegacbohdaaDoorHaRp10
namespace Go.Proofs.YtajfpegacbohdaaDoor.Hand
open Go.RowKit Go.Proofs.YtajfpegacbohdaaDoor.Pb Go.Proofs.YtajfpegacbohdaaDoor.Pl

/-- words of which a generic Replacer is made -/
structure Words (kv : List (List UInt8 × ByteArray)) : Prop where
  heads : Heads kv
  lens : ∀ x ∈ kv, x.1.length ≤ 1000
  vals : ∀ x ∈ kv, x.2.size ≤ 100
  many : kv.length ≤ 100
  cnt : cntU (keysU kv kv.length) 256 ≤ 200
  long : ∃ j, ∃ h : j < kv.length, kv[j].1.length ≠ 1
  two : 2 ≤ kv.length
theorem trie_of {kv : List (List UInt8 × ByteArray)} {n br bt ts : Nat} {w W : World} (hk : Words kv) (h : TrieSt n br bt (bt + 1) ts (keysU kv kv.length) kv kv.length w W) (h1 : br < bt) (h2 : ts ≤ 200) (h3 : ts = cntU (keysU kv kv.length) 256) : TrieAt kv br bt ts W := by
  obtain ⟨T, g1, g2, g3⟩ := h.tab
  exact ⟨h.root, ⟨T, g1, fun j hj c t e => g2 j hj hj c t e, fun x hx hxe => g3 x hx fun j hj _ => hxe j hj⟩, hk.heads, hk.lens, ⟨h1, h.size⟩, h3, h2⟩
/-- a word of elder blocks is written -/
theorem NodeAt.put {lo b b0 k : Nat} {t : List UInt8} {v : ByteArray} {p : Int} {W : World} (h : NodeAt lo b t v p W) (x : Value) (hb : b0 < lo) : NodeAt lo b t v p (W.setCell ⟨b0, k, none⟩ x) := by
  obtain ⟨h1, h2, h3⟩ := h
  refine ⟨h1, by simpa using h2, ?_⟩
  rcases h3 with ⟨ht, h3⟩ | ⟨ht, b2, h4, h5, h6, h7⟩
  · exact .inl ⟨ht, h3.other k x (by omega)⟩
  · exact .inr ⟨ht, b2, h4, by simpa using h5, h6.other k x (by omega), h7.other k x (by omega)⟩
theorem TrieAt.put {kv : List (List UInt8 × ByteArray)} {br bt ts b0 k : Nat} {W : World} (h : TrieAt kv br bt ts W) (x : Value) (hb : b0 < br) : TrieAt kv br bt ts (W.setCell ⟨b0, k, none⟩ x) := by
  obtain ⟨T, h1, h2, h3⟩ := h.tab
  have hl := h.lt
  refine ⟨h.root.other k x (by omega), ⟨T, h1.other k x (by omega), fun j hj c t e => ?_, h3⟩, h.heads, h.lens, ⟨hl.1, by simpa using hl.2⟩, h.many⟩
  obtain ⟨b, p, g1, g2, g3⟩ := h2 j hj c t e
  exact ⟨b, p, g1, g2, g3.put x (by omega)⟩
/-- what is built -/
def Built (kv : List (List UInt8 × ByteArray)) (w : World) (e : Ending) (w' : World) : Prop :=
  e = .returned (.iface 127 (.pointer (some ⟨w.heap.size, 0, none⟩))) ∧ ∃ bt ts, TrieAt kv w.heap.size bt ts w' ∧ Below w.heap.size w w'
set_option maxRecDepth 100000 in
set_option maxHeartbeats 8000000 in
theorem build_gen (kv : List (List UInt8 × ByteArray)) (rb b2 c : Nat) (w : World) (hk : Words kv) (hc : w.cell? ⟨rb, 4, none⟩ = some (.slice (some ⟨b2, 0, none⟩) (2 * kv.length) c)) (hb : BlkF b2 (2 * kv.length) (strV (flatKV kv)) w) (hb2 : b2 < w.heap.size) :
    Calls Tryd.prog 80 #[.pointer (some ⟨rb, 0, none⟩)] w (Built kv w) := by
  have CM : Hid (Calls Tryd.prog 88 #[.slice (some ⟨b2, 0, none⟩) (2 * kv.length) c] w (fun e w' => e = .returned (.pointer (some ⟨w.heap.size, 0, none⟩)) ∧ ∃ bt ts, TrieAt kv w.heap.size bt ts w' ∧ Below w.heap.size w w')) := Lib.hid (by
    refine (make_gen b2 c kv w hk.many hk.cnt hk.lens hk.heads hb hb2).mono ?_
    rintro e w' ⟨rfl, bt, ts, h0, h1, h2, h4⟩
    exact ⟨rfl, bt, ts, trie_of hk h4 h2 h1 h0, h4.below⟩)
  obtain ⟨jl, hjl, hjn⟩ := hk.long
  have hmany := hk.many
  have htwo := hk.two
  have e2 : (2 * (kv.length : Int) == 2) = false := by rw [beq_eq_false_iff_ne]; omega
  have HB := Lib.hid hb
  have HJ := Lib.hid hjn
  clear hb hb2 hk hjn
  go_enter Tryd.func80, Tryd.ntmps80
  go_wp2_with fail
  go_loop [4, 5] (fun x i => ∃ (b : Bool) (q : Nat), x = .bool b ∧ i = .int .i64 (2 * (q : Int)) ∧ q ≤ jl) (fun _ i => 2 * kv.length - (intOf i).toNat)
  case atStart => exact ⟨true, 0, rfl, rfl, Nat.zero_le _⟩
  case round =>
    obtain ⟨b, q, rfl, rfl, hq⟩ := hrel
    have hlt : q < kv.length := by omega
    have hkey := HB.out.cell (2 * q) (by omega)
    have hval := HB.out.cell (2 * q + 1) (by omega)
    rw [strV_at (flatKV_key kv q hlt)] at hkey
    rw [strV_at (flatKV_val kv q hlt)] at hval
    obtain ⟨K, hK⟩ : ∃ K, B kv[q].1 = K := ⟨_, rfl⟩
    obtain ⟨V, hV⟩ : ∃ V, kv[q].2 = V := ⟨_, rfl⟩
    have hKs : K.size = kv[q].1.length := by rw [← hK]; simp
    rw [hK] at hkey
    rw [hV] at hval
    clear hK hV
    by_cases h1 : K.size = 1
    · have hqj : q < jl := by
        rcases Nat.lt_or_ge q jl with h | h
        · exact h
        · obtain rfl : q = jl := by omega
          exact absurd (hKs.symm.trans h1) HJ.out
      have e1 : ((K.size : Int) != 1) = false := by rw [h1]; rfl
      clear hKs h1
      by_cases h3 : V.size = 1
      · have e3 : ((V.size : Int) != 1) = false := by rw [h3]; rfl
        clear h3
        go_wp2_with fail
        go_round
        case rel => exact ⟨b, q + 1, rfl, by go_num, by omega⟩
        case measure => simp [intOf]; omega
      · have e3 : ((V.size : Int) != 1) = true := by rw [bne_iff_ne]; omega
        clear h3
        go_wp2_with fail
        go_round
        case rel => exact ⟨false, q + 1, rfl, by go_num, by omega⟩
        case measure => simp [intOf]; omega
    · have e1 : ((K.size : Int) != 1) = true := by rw [bne_iff_ne]; omega
      clear hKs h1
      go_wp2_with fail
      refine CM.out.mono ?_
      rintro e w' ⟨rfl, hw⟩
      have HW := Lib.hid hw
      clear hw
      go_wp2_with fail
      go_ret
      exact ⟨rfl, HW.out⟩
/-- the Replacer at rb holds a trie -/
structure Ready (kv : List (List UInt8 × ByteArray)) (rb : Nat) (W : World) : Prop where
  ex : ∃ br bt ts, W.cell? ⟨rb, 3, none⟩ = some (.iface 127 (.pointer (some ⟨br, 0, none⟩))) ∧ TrieAt kv br bt ts W ∧ rb < br
set_option maxRecDepth 100000 in
set_option maxHeartbeats 8000000 in
theorem build_once (kv : List (List UInt8 × ByteArray)) (rb b2 c n : Nat) (w : World) (hk : Words kv) (hr : Blk rb #[.int .u32 0, .int .i32 1, .int .u32 0, .nilIface, .slice (some ⟨b2, 0, none⟩) (2 * kv.length) c] w) (hb : BlkF b2 (2 * kv.length) (strV (flatKV kv)) w)
    (hb2 : b2 < w.heap.size) (hrb : rb < w.heap.size) (hn : n ≤ rb) : OnceRun rb w (fun w' => Ready kv rb w' ∧ Below n w w') := by
  refine ⟨?_⟩
  have hc4 := hr.cell 4 (by simp)
  simp only [List.getElem?_toArray, List.getElem?_cons_succ, List.getElem?_cons_zero] at hc4
  have C := Lib.hid (build_gen kv rb b2 c w hk hc4 hb hb2)
  have HR := Lib.hid hr
  clear hr hc4 hb hb2 hk
  go_enter Tryd.func71, Tryd.ntmps71
  go_wp2_with fail
  refine C.out.mono ?_
  rintro e w1 ⟨rfl, bt, ts, hT, hB⟩
  have hr1 := HR.out.below hB hrb
  have c3 := hr1.cell 3 (by simp)
  simp only [List.getElem?_toArray, List.getElem?_cons_succ, List.getElem?_cons_zero] at c3
  have c4 := fun x => (hr1.set 3 x (by simp)).cell 4 (by simp)
  simp only [List.setIfInBounds_toArray, List.set_cons_succ, List.set_cons_zero, List.getElem?_toArray, List.getElem?_cons_succ, List.getElem?_cons_zero] at c4
  have hf := hr1.open_
  have hfin := fun x y => (hr1.set 3 x (by simp)).set 4 y (by simp)
  simp only [List.setIfInBounds_toArray, List.set_cons_succ, List.set_cons_zero] at hfin
  have HF := Lib.hid hfin
  have HT := Lib.hid (fun x y => (hT.put (b0 := rb) (k := 3) x hrb).put (b0 := rb) (k := 4) y hrb)
  have HB := Lib.hid (fun x y => ((hB.mono (show n ≤ w.heap.size by omega)).setCell (p := ⟨rb, 3, none⟩) hn x).setCell (p := ⟨rb, 4, none⟩) hn y)
  clear hr1 hfin hT hB C HR
  go_wp2_with fail
  go_end0
  refine ⟨rfl, ?_, ?_, ?_, ?_, ⟨⟨w.heap.size, bt, ts, ?_, HT.out _ _, hrb⟩⟩, HB.out _ _⟩
  · exact (HF.out _ _).cell 0 (by simp)
  · exact (HF.out _ _).cell 1 (by simp)
  · exact (HF.out _ _).open_ 0
  · exact (HF.out _ _).open_ 1
  · exact (HF.out _ _).cell 3 (by simp)
theorem meth_rep (n : Nat) (a : Addr) (w : World) : (method (n + 1) 127 (.pointer (some a)) "Replace").run Tryd.prog w = .ok (130, .pointer (some a)) w := by kernel_rfl
set_option maxRecDepth 100000 in
set_option maxHeartbeats 8000000 in
theorem repl_replace (kv : List (List UInt8 × ByteArray)) (rb b2 c n : Nat) (s : List UInt8) (w0 w : World) (hk : Words kv) (hN : NewR (flatKV kv) rb b2 c w0 w) (hn : n ≤ w0.heap.size) (hs : s.length ≤ 100000) (hr : (replS (pairF kv) 0 s).length ≤ 100000000) :
    Calls Tryd.prog 61 #[.pointer (some ⟨rb, 0, none⟩), .string (B s)] w fun e w' => e = .returned (.string (B (replS (pairF kv) 0 s))) ∧ Below n w w' := by
  have hlen := flatKV_length kv
  obtain ⟨hblk, hold, hbel, hle⟩ := hN
  rw [hlen] at hblk hold
  have h1 := hblk.set 1 (.int .i32 1) (by simp)
  simp only [List.setIfInBounds_toArray, List.set_cons_succ, List.set_cons_zero] at h1
  have hon := build_once kv rb b2 c n (w.setCell ⟨rb, 1, none⟩ (.int .i32 1)) hk h1 (hold.other 1 _ (by omega)) (by simp; omega) (by simp; omega) (by omega)
  have g0 := hblk.cell 0 (by simp)
  have g1 := hblk.cell 1 (by simp)
  have C := Lib.hid (once_do rb _ w g0 g1 (hblk.open_ 0) (hblk.open_ 1) hon)
  have hrn : n ≤ rb := by omega
  have hnw : n ≤ w.heap.size := by omega
  have hmf : ∀ (fn : Fn) (first cap : Array Value) (w : World), (Instr.makeFunc fn first cap).run Tryd.prog w = .ok (.func fn first cap) w := fun _ _ _ _ => rfl
  clear hblk hold hbel h1 hon g0 g1 hlen hle
  go_enter Tryd.func61, Tryd.ntmps61
  go_wp2_with fail
  refine C.out.mono ?_
  rintro e w1 ⟨rfl, w2, ⟨⟨br, bt, ts, hc3, hT, hlt⟩, hB⟩, rfl⟩
  have hd : Below w2.heap.size w2 w2.drew := Below.drew (Below.refl _ _)
  have hT2 := ((hT.below hd).put (b0 := rb) (k := 0) (.int .u32 1) hlt).put (b0 := rb) (k := 1) (.int .i32 0) hlt
  have c3 : ((w2.drew.setCell ⟨rb, 0, none⟩ (.int .u32 1)).setCell ⟨rb, 1, none⟩ (.int .i32 0)).cell? ⟨rb, 3, none⟩ = some (.iface 127 (.pointer (some ⟨br, 0, none⟩))) := by
    rw [World.cell?_setCell_other _ _ _ _ (ne_off (by decide)), World.cell?_setCell_other _ _ _ _ (ne_off (by decide))]
    exact hc3
  have hbl : Below n w ((w2.drew.setCell ⟨rb, 0, none⟩ (.int .u32 1)).setCell ⟨rb, 1, none⟩ (.int .i32 0)) := by
    refine ((Below.drew ?_).setCell hrn _).setCell hrn _
    exact ((Below.refl n w).setCell (p := ⟨rb, 1, none⟩) hrn _).trans hB
  generalize (w2.drew.setCell ⟨rb, 0, none⟩ (.int .u32 1)).setCell ⟨rb, 1, none⟩ (.int .i32 0) = W3 at hT2 c3 hbl ⊢
  have D := Lib.hid (gen_replace kv br bt ts s W3 hT2 hs hk.vals hr)
  have HBL := Lib.hid hbl
  have hme := meth_rep
  clear hT hT2 hd hB hc3 hbl C hk
  go_wp2_with fail
  refine D.out.mono ?_
  rintro e w4 ⟨rfl, hb4⟩
  have HB4 := Lib.hid (HBL.out.trans (hb4.mono (Nat.le_trans hnw HBL.out.size)))
  clear hb4 D
  go_wp2_with fail
  go_ret
  exact ⟨rfl, HB4.out⟩
end Go.Proofs.YtajfpegacbohdaaDoor.Hand
