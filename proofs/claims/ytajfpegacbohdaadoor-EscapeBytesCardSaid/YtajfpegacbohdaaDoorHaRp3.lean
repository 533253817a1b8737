/-
  Hand walks: the trie of the library's generic Replacer: a key is added at its root.
-/
import Derived.Test.YtajfpegacbohdaaDoorHaRp2
import Derived.Test.YtajfpegacbohdaaDoorPb
import Derived.IntWalk
namespace Go.Proofs.YtajfpegacbohdaaDoor.Hand
open Go.RowKit Go.Proofs.YtajfpegacbohdaaDoor.Pb

theorem wp_world {P : Program} {s : Code} {Q : Exit → Act → World → Prop} {a : Act} {w W : World} (h : w = W) (hw : s.wp P Q a W) : s.wp P Q a w := h ▸ hw
/-- a block whose first n cells are told by a function -/
structure BlkF (b n : Nat) (f : Nat → Value) (W : World) : Prop where
  cell : ∀ j, j < n → W.cell? ⟨b, j, none⟩ = some (f j)
  open_ : ∀ j, W.frozen? ⟨b, j, none⟩ = false
def upd (f : Nat → Value) (k : Nat) (x : Value) : Nat → Value := fun j => if j = k then x else f j
theorem upd_same (f : Nat → Value) (k : Nat) (x : Value) : upd f k x k = x := if_pos rfl
theorem upd_ne (f : Nat → Value) {k j : Nat} (x : Value) (h : j ≠ k) : upd f k x j = f j := if_neg h
theorem BlkF.set {b n : Nat} {f : Nat → Value} {W : World} (h : BlkF b n f W) (k : Nat) (x : Value) (hk : k < n) : BlkF b n (upd f k x) (W.setCell ⟨b, k, none⟩ x) := by
  refine ⟨fun j hj => ?_, fun j => by rw [World.frozen?_setCell]; exact h.open_ j⟩
  by_cases e : j = k
  · subst e
    rw [World.cell?_setCell_same _ _ _ (h.cell j hj), upd_same]
  · rw [World.cell?_setCell_other _ _ _ _ (ne_off (Ne.symm e)), h.cell j hj, upd_ne _ _ e]
theorem BlkF.other {b b' n : Nat} {f : Nat → Value} {W : World} (h : BlkF b n f W) (k : Nat) (x : Value) (hb : b' ≠ b) : BlkF b n f (W.setCell ⟨b', k, none⟩ x) :=
  ⟨fun j hj => by rw [World.cell?_setCell_other _ _ _ _ (by intro e; injection e with e; exact hb e)]; exact h.cell j hj, fun j => by rw [World.frozen?_setCell]; exact h.open_ j⟩
theorem BlkF.below {b n : Nat} {f : Nat → Value} {W W' : World} (h : BlkF b n f W) {B : Nat} (hb : Below B W W') (hn : b < B) : BlkF b n f W' :=
  ⟨fun j hj => (hb.cell (p := ⟨b, j, none⟩) hn).trans (h.cell j hj), fun j => (hb.frozen (p := ⟨b, j, none⟩) hn).trans (h.open_ j)⟩
theorem BlkF.congr {b n : Nat} {f g : Nat → Value} {W : World} (h : BlkF b n f W) (e : ∀ j, j < n → f j = g j) : BlkF b n g W := ⟨fun j hj => by rw [h.cell j hj, e j hj], h.open_⟩

/-- from w to W: what lies below n is as it was; of the elder blocks just one may have turned -/
structure But (n bt : Nat) (w W : World) : Prop where
  below : Below n w W
  same : ∀ b, b < w.heap.size → b ≠ bt → (∀ j, W.cell? ⟨b, j, none⟩ = w.cell? ⟨b, j, none⟩) ∧ (∀ j, W.frozen? ⟨b, j, none⟩ = w.frozen? ⟨b, j, none⟩)
theorem But.refl (n bt : Nat) (w : World) : But n bt w w := ⟨Below.refl _ _, fun _ _ _ => ⟨fun _ => rfl, fun _ => rfl⟩⟩
theorem But.set {n bt : Nat} {w W : World} (h : But n bt w W) (b k : Nat) (x : Value) (hn : n ≤ b) (hb : b = bt ∨ w.heap.size ≤ b) : But n bt w (W.setCell ⟨b, k, none⟩ x) := by
  refine ⟨h.below.setCell hn _, fun c hc hne => ?_⟩
  have hcb : b ≠ c := by rintro rfl; rcases hb with h | h <;> omega
  refine ⟨fun j => ?_, fun j => by rw [World.frozen?_setCell]; exact (h.same c hc hne).2 j⟩
  rw [World.cell?_setCell_other _ _ _ _ (by intro e; injection e with e; exact hcb e)]
  exact (h.same c hc hne).1 j
theorem But.below' {n bt : Nat} {w W W' : World} (h : But n bt w W) (hb : Below W.heap.size W W') (hn : n ≤ w.heap.size) : But n bt w W' :=
  ⟨h.below.trans (hb.mono (Nat.le_trans hn h.below.size)), fun c hc hne => ⟨fun j => (hb.cell (p := ⟨c, j, none⟩) (Nat.lt_of_lt_of_le hc h.below.size)).trans ((h.same c hc hne).1 j), fun j => (hb.frozen (p := ⟨c, j, none⟩) (Nat.lt_of_lt_of_le hc h.below.size)).trans ((h.same c hc hne).2 j)⟩⟩
theorem But.alloc {n bt : Nat} {w W : World} (h : But n bt w W) (hn : n ≤ w.heap.size) (o : Obj) : But n bt w (W.alloc o) := h.below' (Below.alloc (Below.refl _ _) (Nat.le_refl _) _) hn
theorem But.drewN {n bt : Nat} {w W : World} (h : But n bt w W) (hn : n ≤ w.heap.size) (k : Nat) : But n bt w (W.drewN k) := h.below' ⟨rfl, rfl, rfl, Nat.le_refl _, fun _ _ => rfl⟩ hn
theorem But.drew {n bt : Nat} {w W : World} (h : But n bt w W) (hn : n ≤ w.heap.size) : But n bt w W.drew := h.below' (Below.drew (Below.refl _ _)) hn
theorem But.blkF {n bt b m : Nat} {f : Nat → Value} {w W : World} (h : But n bt w W) (hb : BlkF b m f w) (hs : b < w.heap.size) (hne : b ≠ bt) : BlkF b m f W :=
  ⟨fun j hj => ((h.same b hs hne).1 j).trans (hb.cell j hj), fun j => ((h.same b hs hne).2 j).trans (hb.open_ j)⟩
theorem But.blk {n bt b : Nat} {v : Array Value} {w W : World} (h : But n bt w W) (hb : Blk b v w) (hs : b < w.heap.size) (hne : b ≠ bt) : Blk b v W :=
  ⟨fun j hj => ((h.same b hs hne).1 j).trans (hb.cell j hj), fun j => ((h.same b hs hne).2 j).trans (hb.open_ j)⟩

/-- what lies at a node: behind the bytes t the value v -/
def NodeAt (lo b : Nat) (t : List UInt8) (v : ByteArray) (p : Int) (W : World) : Prop :=
  lo ≤ b ∧ b < W.heap.size ∧ ((t = [] ∧ Blk b (nodeV v p) W) ∨ (t ≠ [] ∧ ∃ b2, lo ≤ b2 ∧ b2 < W.heap.size ∧ Blk b (nodeP (B t) b2) W ∧ Blk b2 (nodeV v p) W))
theorem NodeAt.but {lo n bt b : Nat} {t : List UInt8} {v : ByteArray} {p : Int} {w W : World} (h : NodeAt lo b t v p w) (hb : But n bt w W) (hl : bt < lo) : NodeAt lo b t v p W := by
  obtain ⟨h1, h2, h3⟩ := h
  refine ⟨h1, Nat.lt_of_lt_of_le h2 hb.below.size, ?_⟩
  rcases h3 with ⟨ht, h3⟩ | ⟨ht, b2, h4, h5, h6, h7⟩
  · exact .inl ⟨ht, hb.blk h3 h2 (by omega)⟩
  · exact .inr ⟨ht, b2, h4, Nat.lt_of_lt_of_le h5 hb.below.size, hb.blk h6 h2 (by omega), hb.blk h7 h5 (by omega)⟩

/-- what a node is given that has bytes of its own -/
abbrev tailW (W : World) (b : Nat) (t v : ByteArray) (p : Int) : World :=
  ((((W.setCell ⟨b, 2, none⟩ (.string t)).alloc (.cells nodeZ 145)).setCell ⟨b, 3, none⟩ (.pointer (some ⟨W.heap.size, 0, none⟩))).setCell ⟨W.heap.size, 0, none⟩ (.string v)).setCell ⟨W.heap.size, 1, none⟩ (.int .i64 p)
theorem tail_facts {b : Nat} {t v : ByteArray} {p : Int} {W : World} (h : Blk b nodeZ W) (hlt : b < W.heap.size) : Blk b (nodeP t W.heap.size) (tailW W b t v p) ∧ Blk W.heap.size (nodeV v p) (tailW W b t v p) := by
  have hs : (W.setCell ⟨b, 2, none⟩ (.string t)).heap.size = W.heap.size := World.size_setCell ..
  have h2 := (h.set 2 (.string t) (by decide)).below (Below.alloc (Below.refl (W.setCell ⟨b, 2, none⟩ (.string t)).heap.size (W.setCell ⟨b, 2, none⟩ (.string t))) (Nat.le_refl _) (.cells nodeZ 145)) (by omega)
  have h3 := ((h2.set 3 (.pointer (some ⟨W.heap.size, 0, none⟩)) (by simp [nodeZ])).other (b' := W.heap.size) 0 (.string v) (by omega)).other (b' := W.heap.size) 1 (.int .i64 p) (by omega)
  have g := Blk.of_alloc nodeZ 145 (W.setCell ⟨b, 2, none⟩ (.string t))
  rw [hs] at g
  have g3 := ((g.other (b' := b) 3 (.pointer (some ⟨W.heap.size, 0, none⟩)) (by omega)).set 0 (.string v) (by decide)).set 1 (.int .i64 p) (by simp [nodeZ])
  refine ⟨?_, ?_⟩
  · have e : (nodeZ.setIfInBounds 2 (.string t)).setIfInBounds 3 (.pointer (some ⟨W.heap.size, 0, none⟩)) = nodeP t W.heap.size := by simp [nodeZ, nodeP]
    rw [e] at h3; exact h3
  · have e : (nodeZ.setIfInBounds 0 (.string v)).setIfInBounds 1 (.int .i64 p) = nodeV v p := by simp [nodeZ, nodeV]
    rw [e] at g3; exact g3
theorem tail_other {b bt ts : Nat} {f : Nat → Value} {t v : ByteArray} {p : Int} {W : World} (h : BlkF bt ts f W) (hlt : b < W.heap.size) (hb : b ≠ bt) (hbt : bt < W.heap.size) : BlkF bt ts f (tailW W b t v p) := by
  have hs : (W.setCell ⟨b, 2, none⟩ (.string t)).heap.size = W.heap.size := World.size_setCell ..
  have h2 := (h.other (b' := b) 2 (.string t) hb).below (Below.alloc (Below.refl (W.setCell ⟨b, 2, none⟩ (.string t)).heap.size (W.setCell ⟨b, 2, none⟩ (.string t))) (Nat.le_refl _) (.cells nodeZ 145)) (by omega)
  exact ((h2.other (b' := b) 3 (.pointer (some ⟨W.heap.size, 0, none⟩)) hb).other (b' := W.heap.size) 0 (.string v) (by omega)).other (b' := W.heap.size) 1 (.int .i64 p) (by omega)
theorem tail_but {n bt b : Nat} {t v : ByteArray} {p : Int} {w W : World} (h : But n bt w W) (hn : n ≤ w.heap.size) (hb : w.heap.size ≤ b) (hW : w.heap.size ≤ W.heap.size) : But n bt w (tailW W b t v p) :=
  ((((h.set b 2 _ (by omega) (.inr hb)).alloc hn _).set b 3 _ (by omega) (.inr hb)).set W.heap.size 0 _ (by omega) (.inr hW)).set W.heap.size 1 _ (by omega) (.inr hW)

set_option maxRecDepth 100000 in
set_option maxHeartbeats 4000000 in
theorem add_root (br bt ts n : Nat) (R T : Nat → Value) (c : UInt8) (t : List UInt8) (v : ByteArray) (p : Int) (m : Nat) (w : World)
    (ht : t.length ≤ 1000) (hts : ts ≤ 1000) (hR : BlkF br 262 R w) (hT : BlkF bt ts T w) (hm : m < ts) (hne : br ≠ bt) (hbr : br < w.heap.size) (hbt : bt < w.heap.size) (hn : n ≤ bt)
    (r2 : R 2 = .string ⟨#[]⟩) (r4 : R 4 = .slice (some ⟨bt, 0, none⟩) ts ts) (rm : R (6 + c.toNat) = .int .u8 (m : Int)) (tm : T m = .pointer none) :
    Calls Tryd.prog 94 #[.pointer (some ⟨br, 0, none⟩), .string (B (c :: t)), .string v, .int .i64 p, .pointer (some ⟨br, 0, none⟩)] w fun e w' => e = .returned (.tuple #[]) ∧
      ∃ b, w.heap.size ≤ b ∧ b < w'.heap.size ∧ BlkF bt ts (upd T m (.pointer (some ⟨b, 0, none⟩))) w' ∧ NodeAt w.heap.size b t v p w' ∧ But n bt w w' := by
  have hk : (B (c :: t)).toList.isEmpty = false := by simp
  have hk' : ¬ (B (c :: t)).toList = [] := by simp
  have c2 := hR.cell 2 (by omega)
  have c4 := hR.cell 4 (by omega)
  have cm := hR.cell (6 + c.toNat) (by have := c.toNat_lt; omega)
  rw [r2] at c2
  rw [r4] at c4
  rw [rm] at cm
  have tc := hT.cell m hm
  rw [tm] at tc
  have zr := hR.open_
  have zt := hT.open_
  obtain ⟨a, ha⟩ : ∃ a, B (c :: t) = a := ⟨_, rfl⟩
  have hsz : 0 < a.size := by rw [← ha]; simp
  have hsz' : a.size ≤ 1001 := by rw [← ha]; simp; omega
  have hc : a[0] = c := by subst ha; rfl
  have hx : a.extract 1 a.size = B t := by rw [← ha, B_extract]; simp
  rw [ha] at hk hk' ⊢
  rw [← hc] at cm
  have hb0 : (0 : Int) ≤ (a[0].toNat : Int) := by omega
  have hb1 : (a[0].toNat : Int) < 256 := by have := a[0].toNat_lt; omega
  have hb2 : a[0].toNat < 256 := by have := a[0].toNat_lt; omega
  have d1 : ∀ q, ((w.drewN q).alloc (.cells nodeZ 145)).cell? ⟨bt, m, none⟩ = some (.pointer none) := fun q => by
    rw [World.cell?_alloc_past _ _ _ (by simpa using hbt)]; exact tc
  have d3 : ∀ q x, (((w.drewN q).alloc (.cells nodeZ 145)).setCell ⟨bt, m, none⟩ x).cell? ⟨br, 4, none⟩ = some (.slice (some ⟨bt, 0, none⟩) ts ts) := fun q x => by
    rw [World.cell?_setCell_other _ _ _ _ (by intro e; injection e with e; exact hne e.symm), World.cell?_alloc_past _ _ _ (by simpa using hbr)]; exact c4
  have d2 : ∀ q x, (((w.drewN q).alloc (.cells nodeZ 145)).setCell ⟨bt, m, none⟩ x).cell? ⟨bt, m, none⟩ = some x := fun q x => World.cell?_setCell_same _ _ _ (d1 q)
  have f1 : ∀ q, ((w.drewN q).alloc (.cells nodeZ 145)).frozen? ⟨bt, m, none⟩ = false := fun q => by
    rw [World.frozen?_alloc_past _ _ _ (by simpa using hbt)]; exact zt m
  have HBT := Lib.hid hbt
  have HBR := Lib.hid hbr
  have HNE := Lib.hid hne
  have HNT := Lib.hid hn
  have HX := Lib.hid hx
  have HR := Lib.hid hR
  have HT := Lib.hid hT
  clear hx hR hT ha hc r2 r4 rm tm hbt hbr hne hn
  unfold nodeZ at d1 d2 d3 f1
  go_enter Tryd.func94, Tryd.ntmps94
  go_wp2_with fail
  go_quiet (fail)
  go_wp2_with fail
  have hW : ∃ W, (((w.drewN nq).alloc (.cells nodeZ 145)).setCell ⟨bt, m, none⟩ (.pointer (some ⟨w.heap.size, 0, none⟩))) = W := ⟨_, rfl⟩
  obtain ⟨W, hW⟩ := hW
  have e4 := d3 nq (.pointer (some ⟨w.heap.size, 0, none⟩))
  have em := d2 nq (.pointer (some ⟨w.heap.size, 0, none⟩))
  have eB : Blk w.heap.size nodeZ W := by
    rw [← hW]
    exact (Blk.of_alloc nodeZ 145 (w.drewN nq)).other (b' := bt) m (.pointer (some ⟨w.heap.size, 0, none⟩)) (Nat.ne_of_lt HBT.out)
  have eT : BlkF bt ts (upd T m (.pointer (some ⟨w.heap.size, 0, none⟩))) W := by
    rw [← hW]
    refine BlkF.set ?_ m _ hm
    exact HT.out.below (B := w.heap.size) (Below.alloc (⟨rfl, rfl, rfl, Nat.le_refl _, fun _ _ => rfl⟩ : Below w.heap.size w (w.drewN nq)) (Nat.le_refl _) _) HBT.out
  have eU : But n bt w W := by
    rw [← hW]
    have hn' : n ≤ w.heap.size := Nat.le_of_lt (Nat.lt_of_le_of_lt HNT.out HBT.out)
    exact ((((But.refl n bt w).drewN hn' nq).alloc hn' _).set bt m _ HNT.out (.inl rfl))
  have eS : W.heap.size = w.heap.size + 1 := by rw [← hW]; simp
  unfold nodeZ at hW
  rw [hW] at e4 em
  refine wp_world hW ?_
  clear d1 d2 d3 f1 c2 c4 tc cm
  have HW := Lib.hid hW
  have HB := Lib.hid eB
  have HT' := Lib.hid eT
  have HU := Lib.hid eU
  clear hW eB eT eU HT HR zr zt
  have hb3 : 1 ≤ a.size := by omega
  have hb4 : (1 : Int) ≤ (a.size : Int) := by omega
  go_still_tail 12, (by kernel_rfl)
  change wpList _ _ _ _ _ W.drew
  have hb' : Below W.heap.size W W.drew := Below.drew (Below.refl _ _)
  have HB2 := Lib.hid (HB.out.below hb' (by omega))
  have HT2 := Lib.hid (HT'.out.below hb' (by have := HBT.out; omega))
  have HU2 := Lib.hid (HU.out.drew (Nat.le_of_lt (Nat.lt_of_le_of_lt HNT.out HBT.out)))
  have eS2 : W.drew.heap.size = w.heap.size + 1 := eS
  generalize W.drew = W2 at HB2 HT2 HU2 eS2 ⊢
  clear hb' HB HT' HU HW e4 em eS
  have hn' : n ≤ w.heap.size := Nat.le_of_lt (Nat.lt_of_le_of_lt HNT.out HBT.out)
  by_cases htl : t = []
  · subst htl
    have hx2 : a.extract 1 a.size = ⟨#[]⟩ := HX.out
    have C := Lib.hid (add_leaf w.heap.size v p (.pointer (some ⟨br, 0, none⟩)) W2 HB2.out)
    go_wp2_with fail
    rw [hx2]
    refine C.out.mono ?_
    rintro e w' ⟨rfl, hw⟩
    have hS3 : w'.heap.size = w.heap.size + 1 := by rw [hw]; simpa using eS2
    have hN : Blk w.heap.size (nodeV v p) ((W2.setCell ⟨w.heap.size, 0, none⟩ (.string v)).setCell ⟨w.heap.size, 1, none⟩ (.int .i64 p)) := by
      have h := (HB2.out.set 0 (.string v) (by decide)).set 1 (.int .i64 p) (by simp [nodeZ])
      simpa only [nodeZ, nodeV, List.setIfInBounds_toArray, List.set_cons_succ, List.set_cons_zero] using h
    have hT3 := (HT2.out.other (b' := w.heap.size) 0 (.string v) (by have := HBT.out; omega)).other (b' := w.heap.size) 1 (.int .i64 p) (by have := HBT.out; omega)
    have hU3 := (HU2.out.set w.heap.size 0 (.string v) hn' (.inr (Nat.le_refl _))).set w.heap.size 1 (.int .i64 p) hn' (.inr (Nat.le_refl _))
    rw [← hw] at hN hT3 hU3
    have HF := Lib.hid (And.intro hN (And.intro hT3 hU3))
    clear hN hT3 hU3 hw
    have HS3 := Lib.hid hS3
    clear hS3 eS2
    go_wp2_with fail
    go_end0
    exact ⟨rfl, w.heap.size, Nat.le_refl _, by have := HS3.out; omega, HF.out.2.1, ⟨Nat.le_refl _, by have := HS3.out; omega, .inl ⟨rfl, HF.out.1⟩⟩, HF.out.2.2⟩
  · have htl' : ¬ (B t).toList = [] := by simpa using htl
    have C := Lib.hid (add_tail w.heap.size (B t) v p (.pointer (some ⟨br, 0, none⟩)) W2 htl' HB2.out (by omega))
    have hx2 := HX.out
    go_wp2_with fail
    rw [hx2]
    refine C.out.mono ?_
    rintro e w' ⟨rfl, hw⟩
    have hlt : w.heap.size < W2.heap.size := by omega
    have hS3 : w'.heap.size = w.heap.size + 2 := by rw [hw]; simp; omega
    have hN := tail_facts (t := B t) (v := v) (p := p) HB2.out hlt
    have hT3 := tail_other (t := B t) (v := v) (p := p) HT2.out hlt (by have := HBT.out; omega) (by have := HBT.out; omega)
    have hU3 : But n bt w _ := tail_but (t := B t) (v := v) (p := p) HU2.out hn' (Nat.le_refl _) (by omega)
    have hw2 : w' = tailW W2 w.heap.size (B t) v p := hw
    rw [← hw2] at hN hT3 hU3
    have HF := Lib.hid (And.intro hN (And.intro hT3 hU3))
    clear hN hT3 hU3 hw hw2
    have HS3 := Lib.hid hS3
    have HS2 := Lib.hid eS2
    clear hS3 eS2 hlt
    go_wp2_with fail
    go_end0
    exact ⟨rfl, w.heap.size, Nat.le_refl _, by have := HS3.out; omega, HF.out.2.1, ⟨Nat.le_refl _, by have := HS3.out; omega, .inr ⟨htl, W2.heap.size, by have := HS2.out; omega, by have := HS2.out; have := HS3.out; omega, HF.out.1.1, HF.out.1.2⟩⟩, HF.out.2.2⟩
end Go.Proofs.YtajfpegacbohdaaDoor.Hand
