/-
  Hand walk: doctype.Parse (printed by gen_doc.py).
-/
import Derived.Test.YtajfpegacbohdaaDoorHaDo2
import Derived.Test.YtajfpegacbohdaaDoorSc
namespace Go.Proofs.YtajfpegacbohdaaDoor.Hand
open Go.RowKit Go.Proofs.YtajfpegacbohdaaDoor.K0 Go.Proofs.YtajfpegacbohdaaDoor.Pl Go.Proofs.YtajfpegacbohdaaDoor.Pb Go.Proofs.YtajfpegacbohdaaDoor.Sa Go.Proofs.YtajfpegacbohdaaDoor.Pure Go.Proofs.YtajfpegacbohdaaDoorW.PrintWords Go.Proofs.YtajfpegacbohdaaDoorW.PrintLast Go.Proofs.YtajfpegacbohdaaDoorW.PrintMore

theorem Blk.set {b : Nat} {v : Array Value} {W : World} (h : Blk b v W) (k : Nat) (x : Value) (hk : k < v.size) : Blk b (v.setIfInBounds k x) (W.setCell ⟨b, k, none⟩ x) := by
  refine ⟨fun j hj => ?_, fun j => by rw [World.frozen?_setCell]; exact h.open_ j⟩
  rw [Array.size_setIfInBounds] at hj
  by_cases e : j = k
  · subst e
    rw [World.cell?_setCell_same' _ _ _ (by rw [h.cell j hj]; simp [hj]), Array.getElem?_setIfInBounds_self_of_lt hk]
  · rw [World.cell?_setCell_other _ _ _ _ (ne_off (Ne.symm e)), h.cell j hj, Array.getElem?_setIfInBounds_ne (Ne.symm e)]
theorem Blk.other {b b' : Nat} {v : Array Value} {W : World} (h : Blk b v W) (k : Nat) (x : Value) (hb : b' ≠ b) : Blk b v (W.setCell ⟨b', k, none⟩ x) :=
  ⟨fun j hj => by rw [World.cell?_setCell_other _ _ _ _ (by intro e; injection e with e; exact hb e)]; exact h.cell j hj, fun j => by rw [World.frozen?_setCell]; exact h.open_ j⟩
def docV (n p y : List UInt8) (hn hp hy q : Bool) : Array Value := #[.string (B n), .string (B p), .string (B y), .bool hn, .bool hp, .bool hy, .bool q]
abbrev DocR := List UInt8 × List UInt8 × List UInt8 × Bool × Bool × Bool × Bool
def docA (r : DocR) : Array Value := docV r.1 r.2.1 r.2.2.1 r.2.2.2.1 r.2.2.2.2.1 r.2.2.2.2.2.1 r.2.2.2.2.2.2
/-- the two blocks of doctype.Parse: what it hands back, and what it has -/
structure DocSt (w W : World) (v : Array Value) : Prop where
  glob : Glob W
  below : Below w.heap.size w W
  z : Blk w.heap.size (docV [] [] [] false false false false) W
  d : Blk (w.heap.size + 1) v W
  sz : w.heap.size + 1 < W.heap.size
theorem DocSt.call {w W W' : World} {v : Array Value} (h : DocSt w W v) (hb : Below W.heap.size W W') : DocSt w W' v :=
  ⟨h.glob.step hb, h.below.trans (hb.mono h.below.size), h.z.below hb (by have := h.sz; omega), h.d.below hb h.sz, Nat.lt_of_lt_of_le h.sz hb.size⟩
theorem DocSt.put {w W : World} {v : Array Value} (h : DocSt w W v) (k : Nat) (x : Value) (hk : k < v.size) : DocSt w (W.setCell ⟨w.heap.size + 1, k, none⟩ x) (v.setIfInBounds k x) :=
  ⟨by obtain ⟨m, hm⟩ := h.glob
      have : 0 < w.heap.size + 1 := by omega
      exact ⟨m, by rw [World.cell?_setCell_other _ _ _ _ (by intro e; injection e with e; omega)]; exact hm⟩,
   h.below.setCell (p := ⟨w.heap.size + 1, k, none⟩) (by show w.heap.size ≤ w.heap.size + 1; omega) _, h.z.other k x (by omega), h.d.set k x hk, by simp [World.setCell]; exact h.sz⟩
def putDoc (W : World) (b : Nat) (x0 x1 x2 x3 x4 x5 x6 : Value) : World :=
  ((((((W.setCell ⟨b, 0, none⟩ x0).setCell ⟨b, 1, none⟩ x1).setCell ⟨b, 2, none⟩ x2).setCell ⟨b, 3, none⟩ x3).setCell ⟨b, 4, none⟩ x4).setCell ⟨b, 5, none⟩ x5).setCell ⟨b, 6, none⟩ x6
section
variable {b : Nat} {y0 y1 y2 y3 y4 y5 y6 : Value} {W : World} (h : Blk b #[y0, y1, y2, y3, y4, y5, y6] W)
include h
theorem doc_f1 (x0 : Value) : (W.setCell ⟨b, 0, none⟩ x0).cell? ⟨b, 1, none⟩ = some y1 := by
  rw [World.cell?_setCell_other _ _ _ _ (ne_off (by decide)), h.cell 1 (by simp)]; rfl
theorem doc_f2 (x0 x1 : Value) : ((W.setCell ⟨b, 0, none⟩ x0).setCell ⟨b, 1, none⟩ x1).cell? ⟨b, 2, none⟩ = some y2 := by
  rw [World.cell?_setCell_other _ _ _ _ (ne_off (by decide)), World.cell?_setCell_other _ _ _ _ (ne_off (by decide)), h.cell 2 (by simp)]; rfl
theorem doc_f3 (x0 x1 x2 : Value) : (((W.setCell ⟨b, 0, none⟩ x0).setCell ⟨b, 1, none⟩ x1).setCell ⟨b, 2, none⟩ x2).cell? ⟨b, 3, none⟩ = some y3 := by
  rw [World.cell?_setCell_other _ _ _ _ (ne_off (by decide)), World.cell?_setCell_other _ _ _ _ (ne_off (by decide)), World.cell?_setCell_other _ _ _ _ (ne_off (by decide)), h.cell 3 (by simp)]; rfl
theorem doc_f4 (x0 x1 x2 x3 : Value) : ((((W.setCell ⟨b, 0, none⟩ x0).setCell ⟨b, 1, none⟩ x1).setCell ⟨b, 2, none⟩ x2).setCell ⟨b, 3, none⟩ x3).cell? ⟨b, 4, none⟩ = some y4 := by
  rw [World.cell?_setCell_other _ _ _ _ (ne_off (by decide)), World.cell?_setCell_other _ _ _ _ (ne_off (by decide)), World.cell?_setCell_other _ _ _ _ (ne_off (by decide)), World.cell?_setCell_other _ _ _ _ (ne_off (by decide)), h.cell 4 (by simp)]; rfl
theorem doc_f5 (x0 x1 x2 x3 x4 : Value) : (((((W.setCell ⟨b, 0, none⟩ x0).setCell ⟨b, 1, none⟩ x1).setCell ⟨b, 2, none⟩ x2).setCell ⟨b, 3, none⟩ x3).setCell ⟨b, 4, none⟩ x4).cell? ⟨b, 5, none⟩ = some y5 := by
  rw [World.cell?_setCell_other _ _ _ _ (ne_off (by decide)), World.cell?_setCell_other _ _ _ _ (ne_off (by decide)), World.cell?_setCell_other _ _ _ _ (ne_off (by decide)), World.cell?_setCell_other _ _ _ _ (ne_off (by decide)), World.cell?_setCell_other _ _ _ _ (ne_off (by decide)), h.cell 5 (by simp)]; rfl
theorem doc_f6 (x0 x1 x2 x3 x4 x5 : Value) : ((((((W.setCell ⟨b, 0, none⟩ x0).setCell ⟨b, 1, none⟩ x1).setCell ⟨b, 2, none⟩ x2).setCell ⟨b, 3, none⟩ x3).setCell ⟨b, 4, none⟩ x4).setCell ⟨b, 5, none⟩ x5).cell? ⟨b, 6, none⟩ = some y6 := by
  rw [World.cell?_setCell_other _ _ _ _ (ne_off (by decide)), World.cell?_setCell_other _ _ _ _ (ne_off (by decide)), World.cell?_setCell_other _ _ _ _ (ne_off (by decide)), World.cell?_setCell_other _ _ _ _ (ne_off (by decide)), World.cell?_setCell_other _ _ _ _ (ne_off (by decide)), World.cell?_setCell_other _ _ _ _ (ne_off (by decide)), h.cell 6 (by simp)]; rfl
theorem doc_put (x0 x1 x2 x3 x4 x5 x6 : Value) : Blk b #[x0, x1, x2, x3, x4, x5, x6] (putDoc W b x0 x1 x2 x3 x4 x5 x6) := by
  have h0 := h.set 0 x0 (by simp)
  simp only [List.setIfInBounds_toArray, List.set_cons_zero, List.set_cons_succ] at h0
  have h1 := h0.set 1 x1 (by simp)
  simp only [List.setIfInBounds_toArray, List.set_cons_zero, List.set_cons_succ] at h1
  have h2 := h1.set 2 x2 (by simp)
  simp only [List.setIfInBounds_toArray, List.set_cons_zero, List.set_cons_succ] at h2
  have h3 := h2.set 3 x3 (by simp)
  simp only [List.setIfInBounds_toArray, List.set_cons_zero, List.set_cons_succ] at h3
  have h4 := h3.set 4 x4 (by simp)
  simp only [List.setIfInBounds_toArray, List.set_cons_zero, List.set_cons_succ] at h4
  have h5 := h4.set 5 x5 (by simp)
  simp only [List.setIfInBounds_toArray, List.set_cons_zero, List.set_cons_succ] at h5
  have h6 := h5.set 6 x6 (by simp)
  simp only [List.setIfInBounds_toArray, List.set_cons_zero, List.set_cons_succ] at h6
  exact h6
end
theorem doc_load {b : Nat} {x0 x1 x2 x3 x4 x5 x6 : Value} {W : World} (h : Blk b #[x0, x1, x2, x3, x4, x5, x6] W) : (loadVar 24 ⟨b, 0, none⟩).run Tryd.prog W = .ok (.agg #[x0, x1, x2, x3, x4, x5, x6]) W := by
  have hl : (loadCells ⟨b, 0, none⟩ [x0, x1, x2, x3, x4, x5, x6].length).run Tryd.prog W = .ok [x0, x1, x2, x3, x4, x5, x6].toArray W :=
    run_loadCells_list (P := Tryd.prog) W ⟨b, 0, none⟩ [x0, x1, x2, x3, x4, x5, x6] (fun j v hv => by
      have hadd : (⟨b, 0, none⟩ : Addr).add j = ⟨b, j, none⟩ := by unfold Addr.add; split <;> simp_all
      have hj : j < 7 := by
        rcases Nat.lt_or_ge j 7 with h' | h'
        · exact h'
        · rw [List.getElem?_eq_none (by simpa using h')] at hv; cases hv
      rw [hadd, h.cell j (by simpa using hj), ← hv]; simp)
  have hagg : (isAgg 24).run Tryd.prog W = .ok true W := by
    unfold isAgg
    rw [Sem.run_bind, run_underlying Tryd.underlying24 W]
    rfl
  obtain ⟨i, hi⟩ := info_of_underlying (P := Tryd.prog) Tryd.underlying24
  have hc : Tryd.prog.cellsOf 24 = 7 := by kernel_rfl
  have hsz := run_sizeOf (P := Tryd.prog) W hi
  rw [hc] at hsz
  unfold loadVar
  rw [Sem.run_bind, hagg]
  simp only [Result.andThen_ok, if_true, Sem.run_bind, hsz]
  rw [show (7 : Nat) = [x0, x1, x2, x3, x4, x5, x6].length from rfl, hl]
  rfl
theorem doc_below {w W : World} (h : Below w.heap.size w W) (x0 x1 x2 x3 x4 x5 x6 : Value) : Below w.heap.size w (putDoc W w.heap.size x0 x1 x2 x3 x4 x5 x6) :=
  ((((((h.setCell (Nat.le_refl _) _).setCell (Nat.le_refl _) _).setCell (Nat.le_refl _) _).setCell (Nat.le_refl _) _).setCell (Nat.le_refl _) _).setCell (Nat.le_refl _) _).setCell (Nat.le_refl _) _
theorem results_c {P : Program} {fn : Func} {p : Tmp} {ty : TypeId} {b : Nat} {X : Value} {tmps : Array Value} {w : World} (h : fn.results = #[.cell p ty]) (hp : tmps.getD p undef = .pointer (some ⟨b, 0, none⟩))
    (hl : (loadVar ty ⟨b, 0, none⟩).run P w = .ok X w) : (results fn tmps).run P w = .ok X w := by
  have hp' : tmps[p]?.getD undef = .pointer (some ⟨b, 0, none⟩) := by simpa using hp
  simp only [results, h]
  simp [Sem.run_bind, Result.andThen, hp', asAddr, hl]

/-! ### what it says -/
def publicL : List UInt8 := [112, 117, 98, 108, 105, 99]
def systemL : List UInt8 := [115, 121, 115, 116, 101, 109]
def sysD (n p : List UInt8) (hn hp : Bool) (s : List UInt8) (en : Bool) : DocR :=
  if (quotedL s).2.2.1 = true ∧ (quotedL s).2.2.2 = true then (if trimL (quotedL s).2.1 = [] then (n, p, (quotedL s).1, hn, hp, true, !en) else (n, p, (quotedL s).1, hn, hp, true, false))
  else (n, p, (quotedL s).1, hn, hp, (quotedL s).2.2.1, true)
def pubD (n : List UInt8) (s : List UInt8) (en : Bool) : DocR :=
  if (quotedL (trimL (s.drop 6))).2.2.1 = true ∧ (quotedL (trimL (s.drop 6))).2.2.2 = true then
    (if trimL (quotedL (trimL (s.drop 6))).2.1 = [] then (n, (quotedL (trimL (s.drop 6))).1, [], true, true, false, !en) else sysD n (quotedL (trimL (s.drop 6))).1 true true (trimL (quotedL (trimL (s.drop 6))).2.1) en)
  else (n, (quotedL (trimL (s.drop 6))).1, [], true, (quotedL (trimL (s.drop 6))).2.2.1, false, true)
def nameD (s : List UInt8) : List UInt8 := cleanL (lowL (s.take (wordLen s)))
def parseD (raw : List UInt8) (en : Bool) : DocR :=
  if trimL raw = [] then ([], [], [], false, false, false, true)
  else if trimL ((trimL raw).drop (wordLen (trimL raw))) = [] then (nameD (trimL raw), [], [], true, false, false, !en)
  else if begR (trimL ((trimL raw).drop (wordLen (trimL raw)))) publicL = true then pubD (nameD (trimL raw)) (trimL ((trimL raw).drop (wordLen (trimL raw)))) en
  else if begR (trimL ((trimL raw).drop (wordLen (trimL raw)))) systemL = true then sysD (nameD (trimL raw)) [] true false (trimL ((trimL ((trimL raw).drop (wordLen (trimL raw)))).drop 6)) en
  else (nameD (trimL raw), [], [], true, false, false, true)

/-- what holds where a label is come to by a jump -/
def DocF (raw : List UInt8) (en : Bool) (w : World) (x : Value) (u : Nat → Value) : Act := { tmps := #[.string (B raw), .bool en, u 2, u 3, .pointer (some ⟨w.heap.size, 0, none⟩), .pointer (some ⟨w.heap.size + 1, 0, none⟩), u 6, u 7, u 8, x, u 10, u 11, u 12, u 13, u 14, u 15, u 16, u 17, u 18, u 19, u 20, u 21, u 22, u 23, u 24, u 25, u 26, u 27, u 28, u 29, u 30, u 31, u 32, u 33, u 34, u 35, u 36, u 37, u 38, u 39, u 40, u 41, u 42, u 43, u 44, u 45, u 46, u 47, u 48, u 49, u 50, u 51, u 52, u 53, u 54, u 55, u 56, u 57, u 58, u 59, u 60, u 61, u 62, u 63, u 64, u 65, u 66, u 67, u 68, u 69, u 70, u 71, u 72, u 73, u 74, u 75, u 76, u 77, u 78, u 79, u 80, u 81, u 82, u 83, u 84, u 85, u 86, u 87, u 88, u 89, u 90], defers := [] }
def slotOf (a : Act) (i : Nat) : Value := a.tmps.getD i undef
def DocJ (raw : List UInt8) (en : Bool) (w : World) (R : DocR) (l g : Nat) (a' : Act) (wr : World) : Prop :=
  (l = 0 ∧ g = 0 ∧ ∃ (n p y : List UInt8) (hn hp hy : Bool) (x : Value), a' = DocF raw en w x (slotOf a') ∧ DocSt w wr (docV n p y hn hp hy false) ∧ (n, p, y, hn, hp, hy, true) = R) ∨
  (l = 1 ∧ g = 0 ∧ ∃ (n p y : List UInt8) (hn hp hy : Bool) (x : Value), a' = DocF raw en w x (slotOf a') ∧ DocSt w wr (docV n p y hn hp hy false) ∧ (n, p, y, hn, hp, hy, !en) = R) ∨
  (l = 2 ∧ g = 2 ∧ ∃ (n s : List UInt8), a' = DocF raw en w (.string (B s)) (slotOf a') ∧ DocSt w wr (docV n [] [] true false false false) ∧ s.length ≤ 1000000 ∧ begR s publicL = true ∧ pubD n s en = R) ∨
  (l = 3 ∧ g = 1 ∧ ∃ (n p s : List UInt8) (hn hp : Bool), a' = DocF raw en w (.string (B s)) (slotOf a') ∧ DocSt w wr (docV n p [] hn hp false false) ∧ s.length ≤ 1000000 ∧ sysD n p hn hp s en = R)
theorem trimL_le (s : List UInt8) : (trimL s).length ≤ s.length := by
  unfold trimL
  exact (List.dropWhile_sublist _).length_le
theorem quotedL_le (s : List UInt8) : (quotedL s).2.1.length ≤ s.length := by
  cases s with
  | nil => simp [quotedL]
  | cons q r =>
    simp only [quotedL]
    split
    · unfold past; simp; omega
    · simp
theorem DocF.out {raw : List UInt8} {en : Bool} {w : World} {x : Value} {a' : Act} (h : a' = DocF raw en w x (slotOf a')) : ∃ u : Nat → Value, a' = { tmps := #[.string (B raw), .bool en, u 2, u 3, .pointer (some ⟨w.heap.size, 0, none⟩), .pointer (some ⟨w.heap.size + 1, 0, none⟩), u 6, u 7, u 8, x, u 10, u 11, u 12, u 13, u 14, u 15, u 16, u 17, u 18, u 19, u 20, u 21, u 22, u 23, u 24, u 25, u 26, u 27, u 28, u 29, u 30, u 31, u 32, u 33, u 34, u 35, u 36, u 37, u 38, u 39, u 40, u 41, u 42, u 43, u 44, u 45, u 46, u 47, u 48, u 49, u 50, u 51, u 52, u 53, u 54, u 55, u 56, u 57, u 58, u 59, u 60, u 61, u 62, u 63, u 64, u 65, u 66, u 67, u 68, u 69, u 70, u 71, u 72, u 73, u 74, u 75, u 76, u 77, u 78, u 79, u 80, u 81, u 82, u 83, u 84, u 85, u 86, u 87, u 88, u 89, u 90], defers := [] } := ⟨_, h⟩

set_option maxRecDepth 100000 in
set_option maxHeartbeats 16000000 in
theorem parse_any (raw : List UInt8) (en : Bool) (w : World) (hG : Glob w) (hs : raw.length ≤ 1000000) :
    Calls Tryd.prog 7 #[.string (B raw), .bool en] w fun e w' => e = .returned (.agg (docA (parseD raw en))) ∧ Below w.heap.size w w' := by
  have hu42 := Tryd.underlying24
  obtain ⟨R, hR⟩ : ∃ R, parseD raw en = R := ⟨_, rfl⟩
  rw [hR]
  have HR := Lib.hid hR
  clear hR
  go_enter Tryd.func7, Tryd.ntmps7
  go_wp2_with fail
  refine wp_scope_gen (DocJ raw en w R) ?_ ?_
  · intro l g a' wr hJ
    rcases hJ with ⟨rfl, rfl, n, p, y, hn, hp, hy, x9, ha, HD, hq⟩ | ⟨rfl, rfl, n, p, y, hn, hp, hy, x9, ha, HD, hq⟩ | ⟨rfl, rfl, n, s, ha, HD, hls, hbp, hq⟩ | ⟨rfl, rfl, n, p, s, hn, hp, ha, HD, hls, hq⟩
    all_goals (obtain ⟨u, rfl⟩ := DocF.out ha; clear ha)
    · refine ⟨_, rfl, ?_⟩
      have HQ := Lib.hid hq
      replace HD := Lib.hid HD
      clear hq
      have hz := HD.out.z
      have hd := HD.out.d
      have hd6 := hd.set 6 (.bool (true)) (by simp [docV])
      have hz6 := hz.other (b' := w.heap.size + 1) 6 (.bool (true)) (by omega)
      have c6 := hd.cell 6 (by simp [docV])
      have hf5 := hd.open_
      have hf4 := hz.open_
      have l0 := hd6.cell 0 (by simp [docV])
      have l1 := hd6.cell 1 (by simp [docV])
      have l2 := hd6.cell 2 (by simp [docV])
      have l3 := hd6.cell 3 (by simp [docV])
      have l4 := hd6.cell 4 (by simp [docV])
      have l5 := hd6.cell 5 (by simp [docV])
      have l6 := hd6.cell 6 (by simp [docV])
      have m0 := hz6.cell 0 (by simp [docV])
      have m1 := doc_f1 hz6
      have m2 := doc_f2 hz6
      have m3 := doc_f3 hz6
      have m4 := doc_f4 hz6
      have m5 := doc_f5 hz6
      have m6 := doc_f6 hz6
      simp only [docV, List.setIfInBounds_toArray, List.set_cons_succ, List.set_cons_zero, List.getElem?_toArray, List.getElem?_cons_succ, List.getElem?_cons_zero] at c6 l0 l1 l2 l3 l4 l5 l6 m0
      have HB6 := Lib.hid ((HD.out.put 6 (.bool (true)) (by simp [docV])).below)
      have HP := Lib.hid hz6
      clear hz hd hd6 hz6 HD
      go_wp2_with fail
      simp only [Exit.jumps]
      refine bodyPost_ret (results_c rfl rfl (doc_load (doc_put HP.out _ _ _ _ _ _ _))) rfl ?_
      exact ⟨by rw [← HQ.out]; rfl, doc_below HB6.out _ _ _ _ _ _ _⟩
    · refine ⟨_, rfl, ?_⟩
      have HQ := Lib.hid hq
      replace HD := Lib.hid HD
      clear hq
      have hz := HD.out.z
      have hd := HD.out.d
      have hd6 := hd.set 6 (.bool (!en)) (by simp [docV])
      have hz6 := hz.other (b' := w.heap.size + 1) 6 (.bool (!en)) (by omega)
      have c6 := hd.cell 6 (by simp [docV])
      have hf5 := hd.open_
      have hf4 := hz.open_
      have l0 := hd6.cell 0 (by simp [docV])
      have l1 := hd6.cell 1 (by simp [docV])
      have l2 := hd6.cell 2 (by simp [docV])
      have l3 := hd6.cell 3 (by simp [docV])
      have l4 := hd6.cell 4 (by simp [docV])
      have l5 := hd6.cell 5 (by simp [docV])
      have l6 := hd6.cell 6 (by simp [docV])
      have m0 := hz6.cell 0 (by simp [docV])
      have m1 := doc_f1 hz6
      have m2 := doc_f2 hz6
      have m3 := doc_f3 hz6
      have m4 := doc_f4 hz6
      have m5 := doc_f5 hz6
      have m6 := doc_f6 hz6
      simp only [docV, List.setIfInBounds_toArray, List.set_cons_succ, List.set_cons_zero, List.getElem?_toArray, List.getElem?_cons_succ, List.getElem?_cons_zero] at c6 l0 l1 l2 l3 l4 l5 l6 m0
      have HB6 := Lib.hid ((HD.out.put 6 (.bool (!en)) (by simp [docV])).below)
      have HP := Lib.hid hz6
      clear hz hd hd6 hz6 HD
      go_wp2_with fail
      simp only [Exit.jumps]
      refine bodyPost_ret (results_c rfl rfl (doc_load (doc_put HP.out _ _ _ _ _ _ _))) rfl ?_
      exact ⟨by rw [← HQ.out]; rfl, doc_below HB6.out _ _ _ _ _ _ _⟩
    · refine ⟨_, rfl, ?_⟩
      have HQ := Lib.hid hq
      replace HD := Lib.hid HD
      clear hq
      have h6 : 6 ≤ s.length := by have := begR_length _ _ hbp; simpa [publicL] using this
      have CT : ∀ W, Calls Tryd.prog 17 #[.string ((B s).extract 6 (B s).size)] W fun e w' => e = .returned (.string (B (trimL (s.drop 6)))) ∧ Below W.heap.size W w' := by
        intro W
        rw [B_extract, size_B, List.take_length]
        exact trim_any (s.drop 6) W (by simp; omega)
      obtain ⟨a, ha⟩ : ∃ a, B s = a := ⟨_, rfl⟩
      have hza : 6 ≤ a.size ∧ a.size ≤ 1000000 := by rw [← ha]; simp; omega
      obtain ⟨hza, hzb⟩ := hza
      rw [ha] at CT
      have HCT := Lib.hid CT
      obtain ⟨t, htt⟩ : ∃ t, trimL (s.drop 6) = t := ⟨_, rfl⟩
      have htl : t.length ≤ s.length := by rw [← htt]; have := trimL_le (s.drop 6); simp at this; omega
      have hS : pubD n s en = R := HQ.out
      unfold pubD at hS
      rw [htt] at hS HCT
      have CQ := fun W hG => quoted_any t W (by omega) hG
      have hql := quotedL_le t
      obtain ⟨⟨q1, q2, is, whole⟩, hq4⟩ : ∃ q, quotedL t = q := ⟨_, rfl⟩
      rw [hq4] at CQ hql hS
      simp only at CQ hql hS
      replace HQ := Lib.hid hS
      replace CQ := Lib.hid CQ
      rw [ha]
      clear hq4 hS CT htt ha hbp
      go_wp2_with fail
      refine (HCT.out _).mono ?_
      rintro e w2 ⟨rfl, hb⟩
      replace HD := Lib.hid (HD.out.call hb)
      clear hb HCT
      go_wp2_with fail
      refine (CQ.out _ HD.out.glob).mono ?_
      rintro e w3 ⟨rfl, hb⟩
      replace HD := Lib.hid (HD.out.call hb)
      clear hb CQ
      have hd := HD.out.d
      have ca := hd.cell 1 (by simp [docV])
      have cb := fun x => (hd.set 1 x (by simp [docV])).cell 4 (by simp [docV])
      have hfz := hd.open_
      simp only [docV, List.setIfInBounds_toArray, List.set_cons_succ, List.set_cons_zero, List.getElem?_toArray, List.getElem?_cons_succ, List.getElem?_cons_zero] at ca cb
      have HE : Hid (DocSt w _ (docV n q1 [] true is false false)) := Lib.hid ((HD.out.put 1 (.string (B q1)) (by simp [docV])).put 4 (.bool is) (by simp [docV]))
      clear hd HD
      cases is with
      | false =>
        go_wp2_with fail
        go_step3
        exact ⟨0, by omega, .inl ⟨rfl, rfl, n, q1, [], true, false, false, _, rfl, HE.out, by have := HQ.out; simpa using this⟩⟩
      | true =>
        cases whole with
        | false =>
          go_wp2_with fail
          go_step3
          exact ⟨0, by omega, .inl ⟨rfl, rfl, n, q1, [], true, true, false, _, rfl, HE.out, by have := HQ.out; simpa using this⟩⟩
        | true =>
          have CT := Lib.hid (fun W => trim_any q2 W (by omega))
          go_wp2_with fail
          refine (CT.out _).mono ?_
          rintro e w3 ⟨rfl, hb⟩
          replace HE := Lib.hid (HE.out.call hb)
          clear hb CT
          by_cases he : trimL q2 = []
          · have HQ : Hid ((n, q1, [], true, true, false, !en) = R) := Lib.hid (by have := HQ.out; simpa [he] using this)
            have e1 : (B (trimL q2)).toList = [] := by rw [toList_B]; exact he
            rw [he]
            clear he e1
            go_wp2_with fail
            go_step3
            exact ⟨0, by omega, .inr (.inl ⟨rfl, rfl, n, q1, [], true, true, false, _, rfl, HE.out, HQ.out⟩)⟩
          · have HQ : Hid (sysD n q1 true true (trimL q2) en = R) := Lib.hid (by have := HQ.out; simpa [he] using this)
            have e1 : (trimL q2).isEmpty = false := by simpa using he
            have e2 : (trimL q2 == []) = false := by simpa using he
            have hls2 : (trimL q2).length ≤ 1000000 := by have := trimL_le q2; omega
            have HD := HE
            clear he HE
            go_wp2_with fail
            go_step3
            clear e1 e2
            obtain ⟨s2, hs2⟩ : ∃ s2, trimL q2 = s2 := ⟨_, rfl⟩
            rw [hs2] at HQ hls2 ⊢
            clear hs2 hls hza hzb htl h6 hql
            generalize q1 = q1x at *
            have CQ := quoted_any s2 _ hls2 HD.out.glob
            have hql := quotedL_le s2
            have hS : sysD n q1x true true s2 en = R := HQ.out
            unfold sysD at hS
            obtain ⟨⟨q1, q2, is, whole⟩, hq4⟩ : ∃ q, quotedL s2 = q := ⟨_, rfl⟩
            rw [hq4] at CQ hql hS
            simp only at CQ hql hS
            replace HQ := Lib.hid hS
            replace CQ := Lib.hid CQ
            clear hq4 hS
            go_wp2_with fail
            refine CQ.out.mono ?_
            rintro e w2 ⟨rfl, hb⟩
            replace HD := Lib.hid (HD.out.call hb)
            clear hb CQ
            have hd := HD.out.d
            have ca := hd.cell 2 (by simp [docV])
            have cb := fun x => (hd.set 2 x (by simp [docV])).cell 5 (by simp [docV])
            have hfz := hd.open_
            simp only [docV, List.setIfInBounds_toArray, List.set_cons_succ, List.set_cons_zero, List.getElem?_toArray, List.getElem?_cons_succ, List.getElem?_cons_zero] at ca cb
            have HE : Hid (DocSt w _ (docV n q1x q1 true true is false)) := Lib.hid ((HD.out.put 2 (.string (B q1)) (by simp [docV])).put 5 (.bool is) (by simp [docV]))
            clear hd HD
            cases is with
            | false =>
              go_wp2_with fail
              go_step3
              exact ⟨0, by omega, .inl ⟨rfl, rfl, n, q1x, q1, true, true, false, _, rfl, HE.out, by have := HQ.out; simpa using this⟩⟩
            | true =>
              cases whole with
              | false =>
                go_wp2_with fail
                go_step3
                exact ⟨0, by omega, .inl ⟨rfl, rfl, n, q1x, q1, true, true, true, _, rfl, HE.out, by have := HQ.out; simpa using this⟩⟩
              | true =>
                have CT := Lib.hid (fun W => trim_any q2 W (by omega))
                go_wp2_with fail
                refine (CT.out _).mono ?_
                rintro e w3 ⟨rfl, hb⟩
                have HD := Lib.hid (HE.out.call hb)
                clear hb CT HE
                by_cases he : trimL q2 = []
                · have HQ : Hid ((n, q1x, q1, true, true, true, !en) = R) := Lib.hid (by have := HQ.out; simpa [he] using this)
                  have e1 : (B (trimL q2)).toList = [] := by rw [toList_B]; exact he
                  rw [he]
                  clear he e1
                  have hz := HD.out.z
                  have hd := HD.out.d
                  have hd6 := hd.set 6 (.bool (!en)) (by simp [docV])
                  have hz6 := hz.other (b' := w.heap.size + 1) 6 (.bool (!en)) (by omega)
                  have c6 := hd.cell 6 (by simp [docV])
                  have hf5 := hd.open_
                  have hf4 := hz.open_
                  have l0 := hd6.cell 0 (by simp [docV])
                  have l1 := hd6.cell 1 (by simp [docV])
                  have l2 := hd6.cell 2 (by simp [docV])
                  have l3 := hd6.cell 3 (by simp [docV])
                  have l4 := hd6.cell 4 (by simp [docV])
                  have l5 := hd6.cell 5 (by simp [docV])
                  have l6 := hd6.cell 6 (by simp [docV])
                  have m0 := hz6.cell 0 (by simp [docV])
                  have m1 := doc_f1 hz6
                  have m2 := doc_f2 hz6
                  have m3 := doc_f3 hz6
                  have m4 := doc_f4 hz6
                  have m5 := doc_f5 hz6
                  have m6 := doc_f6 hz6
                  simp only [docV, List.setIfInBounds_toArray, List.set_cons_succ, List.set_cons_zero, List.getElem?_toArray, List.getElem?_cons_succ, List.getElem?_cons_zero] at c6 l0 l1 l2 l3 l4 l5 l6 m0
                  have HB6 := Lib.hid ((HD.out.put 6 (.bool (!en)) (by simp [docV])).below)
                  have HP := Lib.hid hz6
                  clear hz hd hd6 hz6 HD
                  go_wp2_with fail
                  go_step3
                  go_wp2_with fail
                  simp only [Exit.jumps]
                  refine bodyPost_ret (results_c rfl rfl (doc_load (doc_put HP.out _ _ _ _ _ _ _))) rfl ?_
                  exact ⟨by rw [← HQ.out]; rfl, doc_below HB6.out _ _ _ _ _ _ _⟩
                · have HQ : Hid ((n, q1x, q1, true, true, true, false) = R) := Lib.hid (by have := HQ.out; simpa [he] using this)
                  have e1 : (trimL q2).isEmpty = false := by simpa using he
                  have e2 : (trimL q2 != []) = true := by simpa using he
                  clear he
                  have hz := HD.out.z
                  have hd := HD.out.d
                  have hf5 := hd.open_
                  have hf4 := hz.open_
                  have l0 := hd.cell 0 (by simp [docV])
                  have l1 := hd.cell 1 (by simp [docV])
                  have l2 := hd.cell 2 (by simp [docV])
                  have l3 := hd.cell 3 (by simp [docV])
                  have l4 := hd.cell 4 (by simp [docV])
                  have l5 := hd.cell 5 (by simp [docV])
                  have l6 := hd.cell 6 (by simp [docV])
                  have m0 := hz.cell 0 (by simp [docV])
                  have m1 := doc_f1 hz
                  have m2 := doc_f2 hz
                  have m3 := doc_f3 hz
                  have m4 := doc_f4 hz
                  have m5 := doc_f5 hz
                  have m6 := doc_f6 hz
                  simp only [docV, List.getElem?_toArray, List.getElem?_cons_succ, List.getElem?_cons_zero] at l0 l1 l2 l3 l4 l5 l6 m0
                  have HB6 := Lib.hid HD.out.below
                  have HP := Lib.hid hz
                  clear hz hd HD
                  go_wp2_with fail
                  simp only [Exit.jumps]
                  refine bodyPost_ret (results_c rfl rfl (doc_load (doc_put HP.out _ _ _ _ _ _ _))) rfl ?_
                  exact ⟨by rw [← HQ.out]; rfl, doc_below HB6.out _ _ _ _ _ _ _⟩
    · refine ⟨_, rfl, ?_⟩
      have HQ := Lib.hid hq
      replace HD := Lib.hid HD
      clear hq
      have CQ := quoted_any s _ hls HD.out.glob
      have hql := quotedL_le s
      have hS : sysD n p hn hp s en = R := HQ.out
      unfold sysD at hS
      obtain ⟨⟨q1, q2, is, whole⟩, hq4⟩ : ∃ q, quotedL s = q := ⟨_, rfl⟩
      rw [hq4] at CQ hql hS
      simp only at CQ hql hS
      replace HQ := Lib.hid hS
      replace CQ := Lib.hid CQ
      clear hq4 hS
      go_wp2_with fail
      refine CQ.out.mono ?_
      rintro e w2 ⟨rfl, hb⟩
      replace HD := Lib.hid (HD.out.call hb)
      clear hb CQ
      have hd := HD.out.d
      have ca := hd.cell 2 (by simp [docV])
      have cb := fun x => (hd.set 2 x (by simp [docV])).cell 5 (by simp [docV])
      have hfz := hd.open_
      simp only [docV, List.setIfInBounds_toArray, List.set_cons_succ, List.set_cons_zero, List.getElem?_toArray, List.getElem?_cons_succ, List.getElem?_cons_zero] at ca cb
      have HE : Hid (DocSt w _ (docV n p q1 hn hp is false)) := Lib.hid ((HD.out.put 2 (.string (B q1)) (by simp [docV])).put 5 (.bool is) (by simp [docV]))
      clear hd HD
      cases is with
      | false =>
        go_wp2_with fail
        go_step3
        exact ⟨0, by omega, .inl ⟨rfl, rfl, n, p, q1, hn, hp, false, _, rfl, HE.out, by have := HQ.out; simpa using this⟩⟩
      | true =>
        cases whole with
        | false =>
          go_wp2_with fail
          go_step3
          exact ⟨0, by omega, .inl ⟨rfl, rfl, n, p, q1, hn, hp, true, _, rfl, HE.out, by have := HQ.out; simpa using this⟩⟩
        | true =>
          have CT := Lib.hid (fun W => trim_any q2 W (by omega))
          go_wp2_with fail
          refine (CT.out _).mono ?_
          rintro e w3 ⟨rfl, hb⟩
          have HD := Lib.hid (HE.out.call hb)
          clear hb CT HE
          by_cases he : trimL q2 = []
          · have HQ : Hid ((n, p, q1, hn, hp, true, !en) = R) := Lib.hid (by have := HQ.out; simpa [he] using this)
            have e1 : (B (trimL q2)).toList = [] := by rw [toList_B]; exact he
            rw [he]
            clear he e1
            have hz := HD.out.z
            have hd := HD.out.d
            have hd6 := hd.set 6 (.bool (!en)) (by simp [docV])
            have hz6 := hz.other (b' := w.heap.size + 1) 6 (.bool (!en)) (by omega)
            have c6 := hd.cell 6 (by simp [docV])
            have hf5 := hd.open_
            have hf4 := hz.open_
            have l0 := hd6.cell 0 (by simp [docV])
            have l1 := hd6.cell 1 (by simp [docV])
            have l2 := hd6.cell 2 (by simp [docV])
            have l3 := hd6.cell 3 (by simp [docV])
            have l4 := hd6.cell 4 (by simp [docV])
            have l5 := hd6.cell 5 (by simp [docV])
            have l6 := hd6.cell 6 (by simp [docV])
            have m0 := hz6.cell 0 (by simp [docV])
            have m1 := doc_f1 hz6
            have m2 := doc_f2 hz6
            have m3 := doc_f3 hz6
            have m4 := doc_f4 hz6
            have m5 := doc_f5 hz6
            have m6 := doc_f6 hz6
            simp only [docV, List.setIfInBounds_toArray, List.set_cons_succ, List.set_cons_zero, List.getElem?_toArray, List.getElem?_cons_succ, List.getElem?_cons_zero] at c6 l0 l1 l2 l3 l4 l5 l6 m0
            have HB6 := Lib.hid ((HD.out.put 6 (.bool (!en)) (by simp [docV])).below)
            have HP := Lib.hid hz6
            clear hz hd hd6 hz6 HD
            go_wp2_with fail
            go_step3
            go_wp2_with fail
            simp only [Exit.jumps]
            refine bodyPost_ret (results_c rfl rfl (doc_load (doc_put HP.out _ _ _ _ _ _ _))) rfl ?_
            exact ⟨by rw [← HQ.out]; rfl, doc_below HB6.out _ _ _ _ _ _ _⟩
          · have HQ : Hid ((n, p, q1, hn, hp, true, false) = R) := Lib.hid (by have := HQ.out; simpa [he] using this)
            have e1 : (trimL q2).isEmpty = false := by simpa using he
            have e2 : (trimL q2 != []) = true := by simpa using he
            clear he
            have hz := HD.out.z
            have hd := HD.out.d
            have hf5 := hd.open_
            have hf4 := hz.open_
            have l0 := hd.cell 0 (by simp [docV])
            have l1 := hd.cell 1 (by simp [docV])
            have l2 := hd.cell 2 (by simp [docV])
            have l3 := hd.cell 3 (by simp [docV])
            have l4 := hd.cell 4 (by simp [docV])
            have l5 := hd.cell 5 (by simp [docV])
            have l6 := hd.cell 6 (by simp [docV])
            have m0 := hz.cell 0 (by simp [docV])
            have m1 := doc_f1 hz
            have m2 := doc_f2 hz
            have m3 := doc_f3 hz
            have m4 := doc_f4 hz
            have m5 := doc_f5 hz
            have m6 := doc_f6 hz
            simp only [docV, List.getElem?_toArray, List.getElem?_cons_succ, List.getElem?_cons_zero] at l0 l1 l2 l3 l4 l5 l6 m0
            have HB6 := Lib.hid HD.out.below
            have HP := Lib.hid hz
            clear hz hd HD
            go_wp2_with fail
            simp only [Exit.jumps]
            refine bodyPost_ret (results_c rfl rfl (doc_load (doc_put HP.out _ _ _ _ _ _ _))) rfl ?_
            exact ⟨by rw [← HQ.out]; rfl, doc_below HB6.out _ _ _ _ _ _ _⟩
  · have hB1 := Blk.of_alloc (docV [] [] [] false false false false) 24 w
    have hB2 := Blk.of_alloc (docV [] [] [] false false false false) 24 (w.alloc (.cells (docV [] [] [] false false false false) 24))
    rw [World.size_alloc] at hB2
    have hbl : Below (w.alloc (.cells (docV [] [] [] false false false false) 24)).heap.size (w.alloc (.cells (docV [] [] [] false false false false) 24)) ((w.alloc (.cells (docV [] [] [] false false false false) 24)).alloc (.cells (docV [] [] [] false false false false) 24)) := Below.alloc (Below.refl _ _) (Nat.le_refl _) _
    have hbw : Below w.heap.size w ((w.alloc (.cells (docV [] [] [] false false false false) 24)).alloc (.cells (docV [] [] [] false false false false) 24)) := ((Below.refl _ w).alloc (Nat.le_refl _) _).alloc (by simp) _
    have hD0 : DocSt w ((w.alloc (.cells (docV [] [] [] false false false false) 24)).alloc (.cells (docV [] [] [] false false false false) 24)) (docV [] [] [] false false false false) := ⟨hG.step hbw, hbw, hB1.below hbl (by simp), hB2, by simp⟩
    have HD0 := Lib.hid hD0
    clear hB1 hB2 hbl hbw hD0 hG
    have hR : parseD raw en = R := HR.out
    unfold parseD at hR
    have CT := Lib.hid (fun W => trim_any raw W (by omega))
    have hl0 := trimL_le raw
    obtain ⟨s, hs0⟩ : ∃ s, trimL raw = s := ⟨_, rfl⟩
    rw [hs0] at hR CT hl0
    have hls : s.length ≤ 1000000 := by omega
    replace HR := Lib.hid hR
    clear hR hs0 hl0 hs
    go_wp2_with fail
    refine (CT.out _).mono ?_
    rintro e w1 ⟨rfl, hb⟩
    have HD := Lib.hid (HD0.out.call hb)
    clear hb CT HD0
    by_cases he : s = []
    · subst he
      have HR := Lib.hid (by have := HR.out; simpa using this)
      go_wp2_with fail
      go_step3
      exact ⟨0, .inl ⟨rfl, rfl, [], [], [], false, false, false, _, rfl, HD.out, by have := HR.out; simpa using this⟩⟩
    · have hR : _ := HR.out
      rw [if_neg he] at hR
      obtain ⟨k, hk⟩ : ∃ k, wordLen s = k := ⟨_, rfl⟩
      have hkl : k ≤ s.length := by rw [← hk]; unfold wordLen; exact (List.takeWhile_sublist _).length_le
      have hnm : nameD s = cleanL (lowL (s.take k)) := by unfold nameD; rw [hk]
      obtain ⟨nm, hnm2⟩ : ∃ nm, nameD s = nm := ⟨_, rfl⟩
      obtain ⟨t, ht⟩ : ∃ t, trimL (s.drop k) = t := ⟨_, rfl⟩
      have htl : t.length ≤ 1000000 := by have := trimL_le (s.drop k); rw [ht] at this; simp at this; omega
      rw [hk, ht, hnm2] at hR
      have CI := fun W => iany_any s W (by omega)
      have CL : ∀ W, Calls Tryd.prog 9 #[.string ((B s).extract 0 k)] W fun e w' => e = .returned (.string (B (lowL (s.take k)))) ∧ Below W.heap.size W w' := by
        intro W
        have := lower_any ((B s).extract 0 k) W (by simp; omega)
        rw [B_extract, List.drop_zero] at this ⊢
        have e : lowBA (B (s.take k)) = B (lowL (s.take k)) := by unfold lowBA; rw [B_data]; rfl
        rw [e] at this
        exact this
      have CC : ∀ W, Glob W → Calls Tryd.prog 15 #[.string (B (lowL (s.take k)))] W fun e w' => e = .returned (.string (B nm)) ∧ Below W.heap.size W w' := by
        intro W hG
        have := clean_any (B (lowL (s.take k))) W (by simp [lowL]; omega) hG
        rw [cleanBA_B, ← hnm, hnm2] at this
        exact this
      have CT : ∀ W, Calls Tryd.prog 17 #[.string ((B s).extract k (B s).size)] W fun e w' => e = .returned (.string (B t)) ∧ Below W.heap.size W w' := by
        intro W
        have := trim_any (s.drop k) W (by simp; omega)
        rw [ht] at this
        rw [B_extract, size_B, List.take_length]
        exact this
      obtain ⟨lw, hlw⟩ : ∃ x, B (lowL (s.take k)) = x := ⟨_, rfl⟩
      rw [hlw] at CL CC
      have hwd : wordI s = if k < s.length then (k : Int) else -1 := by unfold wordI; rw [hk]
      have hem : (B s).toList.isEmpty = false := by rw [toList_B]; simpa using he
      have hem2 : ((B s).toList == []) = false := by rw [toList_B]; simpa using he
      obtain ⟨a, ha⟩ : ∃ a, B s = a := ⟨_, rfl⟩
      have hza : a.size = s.length := by rw [← ha]; simp
      rw [ha] at CI CL CT hem hem2 ⊢
      rw [← hza] at hkl hwd
      have hz1 : a.size ≤ 1000000 := by omega
      replace HR := Lib.hid hR
      replace CI := Lib.hid CI
      replace CL := Lib.hid CL
      replace CC := Lib.hid CC
      replace CT := Lib.hid CT
      clear hR hk hnm hnm2 ht ha hza hlw he hls
      by_cases hw : k < a.size
      · rw [if_pos hw] at hwd
        rw [hwd] at CI
        clear hwd
        go_wp2_with fail
        refine (CI.out _).mono ?_
        rintro e w2 ⟨rfl, hb⟩
        replace HD := Lib.hid (HD.out.call hb)
        clear hb CI
        go_wp2_with fail
        refine (CL.out _).mono ?_
        rintro e w3 ⟨rfl, hb⟩
        replace HD := Lib.hid (HD.out.call hb)
        clear hb CL
        go_wp2_with fail
        refine (CC.out _ HD.out.glob).mono ?_
        rintro e w4 ⟨rfl, hb⟩
        replace HD := Lib.hid (HD.out.call hb)
        clear hb CC
        have hd := HD.out.d
        have ca := hd.cell 0 (by simp [docV])
        have cb := fun x => (hd.set 0 x (by simp [docV])).cell 3 (by simp [docV])
        have hfz := hd.open_
        simp only [docV, List.setIfInBounds_toArray, List.set_cons_succ, List.set_cons_zero, List.getElem?_toArray, List.getElem?_cons_succ, List.getElem?_cons_zero] at ca cb
        have HE : Hid (DocSt w _ (docV nm [] [] true false false false)) := Lib.hid ((HD.out.put 0 (.string (B nm)) (by simp [docV])).put 3 (.bool true) (by simp [docV]))
        clear hd HD
        go_wp2_with fail
        refine (CT.out _).mono ?_
        rintro e w5 ⟨rfl, hb⟩
        replace HE := Lib.hid (HE.out.call hb)
        clear hb CT ca cb hfz
        by_cases ht : t = []
        · subst ht
          go_wp2_with fail
          go_step3
          exact ⟨0, .inr (.inl ⟨rfl, rfl, nm, [], [], true, false, false, _, rfl, HE.out, by have := HR.out; simpa using this⟩)⟩
        · have hR : _ := HR.out
          rw [if_neg ht] at hR
          have ht1 : t.isEmpty = false := by simpa using ht
          have ht2 : (t == []) = false := by simpa using ht
          have CP : ∀ W, Calls Tryd.prog 19 #[.string (B t), .int .i64 0, .string ⟨#[112, 117, 98, 108, 105, 99]⟩] W fun e w' => e = .returned (.bool (begR t publicL)) ∧ Below W.heap.size W w' := by
            intro W
            have := sbegins_c t publicL 0 htl (by simp [publicL]) W
            have e0 : begAt t 0 publicL = begR t publicL := by have := begAt_in t 0 publicL (by omega); simpa using this
            rw [e0] at this
            exact this
          have CS : ∀ W, Calls Tryd.prog 19 #[.string (B t), .int .i64 0, .string ⟨#[115, 121, 115, 116, 101, 109]⟩] W fun e w' => e = .returned (.bool (begR t systemL)) ∧ Below W.heap.size W w' := by
            intro W
            have := sbegins_c t systemL 0 htl (by simp [systemL]) W
            have e0 : begAt t 0 systemL = begR t systemL := by have := begAt_in t 0 systemL (by omega); simpa using this
            rw [e0] at this
            exact this
          obtain ⟨bp, hbp⟩ : ∃ b, begR t publicL = b := ⟨_, rfl⟩
          obtain ⟨bs, hbs⟩ : ∃ b, begR t systemL = b := ⟨_, rfl⟩
          rw [hbp] at CP hR
          rw [hbs] at CS hR
          replace HR := Lib.hid hR
          replace CP := Lib.hid CP
          replace CS := Lib.hid CS
          have HBP := Lib.hid hbp
          have HBS := Lib.hid hbs
          clear hR hbp hbs ht
          cases bp with
          | true =>
            go_wp2_with fail
            refine (CP.out _).mono ?_
            rintro e w6 ⟨rfl, hb⟩
            replace HE := Lib.hid (HE.out.call hb)
            clear hb CP
            go_wp2_with fail
            go_step3
            exact ⟨2, .inr (.inr (.inl ⟨rfl, rfl, nm, t, rfl, HE.out, htl, HBP.out, by have := HR.out; simpa using this⟩))⟩
          | false =>
            cases bs with
            | true =>
              have h6 : 6 ≤ t.length := by have := begR_length _ _ HBS.out; simpa [systemL] using this
              have CT2 : ∀ W, Calls Tryd.prog 17 #[.string ((B t).extract 6 (B t).size)] W fun e w' => e = .returned (.string (B (trimL (t.drop 6)))) ∧ Below W.heap.size W w' := by
                intro W
                rw [B_extract, size_B, List.take_length]
                exact trim_any (t.drop 6) W (by simp; omega)
              have htl2 : (trimL (t.drop 6)).length ≤ 1000000 := by have := trimL_le (t.drop 6); simp at this; omega
              obtain ⟨tb, htb⟩ : ∃ x, B t = x := ⟨_, rfl⟩
              have hzt : 6 ≤ tb.size ∧ tb.size ≤ 1000000 := by rw [← htb]; simp; omega
              obtain ⟨hzt, hzt2⟩ := hzt
              have ht1' : tb.toList.isEmpty = false := by rw [← htb, toList_B]; exact ht1
              have ht2' : (tb.toList == []) = false := by rw [← htb, toList_B]; exact ht2
              rw [htb] at CP CS CT2 ⊢
              replace CT2 := Lib.hid CT2
              clear htb ht1 ht2 h6 htl
              go_wp2_with fail
              refine (CP.out _).mono ?_
              rintro e w6 ⟨rfl, hb⟩
              replace HE := Lib.hid (HE.out.call hb)
              clear hb CP
              go_wp2_with fail
              refine (CS.out _).mono ?_
              rintro e w7 ⟨rfl, hb⟩
              replace HE := Lib.hid (HE.out.call hb)
              clear hb CS
              go_wp2_with fail
              refine (CT2.out _).mono ?_
              rintro e w8 ⟨rfl, hb⟩
              replace HE := Lib.hid (HE.out.call hb)
              clear hb CT2
              go_wp2_with fail
              go_step3
              exact ⟨1, .inr (.inr (.inr ⟨rfl, rfl, nm, [], trimL (t.drop 6), true, false, rfl, HE.out, htl2, by have := HR.out; simpa using this⟩))⟩
            | false =>
              go_wp2_with fail
              refine (CP.out _).mono ?_
              rintro e w6 ⟨rfl, hb⟩
              replace HE := Lib.hid (HE.out.call hb)
              clear hb CP
              go_wp2_with fail
              refine (CS.out _).mono ?_
              rintro e w7 ⟨rfl, hb⟩
              replace HE := Lib.hid (HE.out.call hb)
              clear hb CS
              go_wp2_with fail
              go_step3
              exact ⟨0, .inl ⟨rfl, rfl, nm, [], [], true, false, false, _, rfl, HE.out, by have := HR.out; simpa using this⟩⟩
      · obtain rfl : k = a.size := by omega
        rw [if_neg hw] at hwd
        rw [hwd] at CI
        rw [show a.extract 0 a.size = a by simp] at CL
        rw [show a.extract a.size a.size = ByteArray.empty by simp] at CT
        clear hwd hw
        go_wp2_with fail
        refine (CI.out _).mono ?_
        rintro e w2 ⟨rfl, hb⟩
        replace HD := Lib.hid (HD.out.call hb)
        clear hb CI
        go_wp2_with fail
        refine (CL.out _).mono ?_
        rintro e w3 ⟨rfl, hb⟩
        replace HD := Lib.hid (HD.out.call hb)
        clear hb CL
        go_wp2_with fail
        refine (CC.out _ HD.out.glob).mono ?_
        rintro e w4 ⟨rfl, hb⟩
        replace HD := Lib.hid (HD.out.call hb)
        clear hb CC
        have hd := HD.out.d
        have ca := hd.cell 0 (by simp [docV])
        have cb := fun x => (hd.set 0 x (by simp [docV])).cell 3 (by simp [docV])
        have hfz := hd.open_
        simp only [docV, List.setIfInBounds_toArray, List.set_cons_succ, List.set_cons_zero, List.getElem?_toArray, List.getElem?_cons_succ, List.getElem?_cons_zero] at ca cb
        have HE : Hid (DocSt w _ (docV nm [] [] true false false false)) := Lib.hid ((HD.out.put 0 (.string (B nm)) (by simp [docV])).put 3 (.bool true) (by simp [docV]))
        clear hd HD
        go_wp2_with fail
        refine (CT.out _).mono ?_
        rintro e w5 ⟨rfl, hb⟩
        replace HE := Lib.hid (HE.out.call hb)
        clear hb CT ca cb hfz
        by_cases ht : t = []
        · subst ht
          go_wp2_with fail
          go_step3
          exact ⟨0, .inr (.inl ⟨rfl, rfl, nm, [], [], true, false, false, _, rfl, HE.out, by have := HR.out; simpa using this⟩)⟩
        · have hR : _ := HR.out
          rw [if_neg ht] at hR
          have ht1 : t.isEmpty = false := by simpa using ht
          have ht2 : (t == []) = false := by simpa using ht
          have CP : ∀ W, Calls Tryd.prog 19 #[.string (B t), .int .i64 0, .string ⟨#[112, 117, 98, 108, 105, 99]⟩] W fun e w' => e = .returned (.bool (begR t publicL)) ∧ Below W.heap.size W w' := by
            intro W
            have := sbegins_c t publicL 0 htl (by simp [publicL]) W
            have e0 : begAt t 0 publicL = begR t publicL := by have := begAt_in t 0 publicL (by omega); simpa using this
            rw [e0] at this
            exact this
          have CS : ∀ W, Calls Tryd.prog 19 #[.string (B t), .int .i64 0, .string ⟨#[115, 121, 115, 116, 101, 109]⟩] W fun e w' => e = .returned (.bool (begR t systemL)) ∧ Below W.heap.size W w' := by
            intro W
            have := sbegins_c t systemL 0 htl (by simp [systemL]) W
            have e0 : begAt t 0 systemL = begR t systemL := by have := begAt_in t 0 systemL (by omega); simpa using this
            rw [e0] at this
            exact this
          obtain ⟨bp, hbp⟩ : ∃ b, begR t publicL = b := ⟨_, rfl⟩
          obtain ⟨bs, hbs⟩ : ∃ b, begR t systemL = b := ⟨_, rfl⟩
          rw [hbp] at CP hR
          rw [hbs] at CS hR
          replace HR := Lib.hid hR
          replace CP := Lib.hid CP
          replace CS := Lib.hid CS
          have HBP := Lib.hid hbp
          have HBS := Lib.hid hbs
          clear hR hbp hbs ht
          cases bp with
          | true =>
            go_wp2_with fail
            refine (CP.out _).mono ?_
            rintro e w6 ⟨rfl, hb⟩
            replace HE := Lib.hid (HE.out.call hb)
            clear hb CP
            go_wp2_with fail
            go_step3
            exact ⟨2, .inr (.inr (.inl ⟨rfl, rfl, nm, t, rfl, HE.out, htl, HBP.out, by have := HR.out; simpa using this⟩))⟩
          | false =>
            cases bs with
            | true =>
              have h6 : 6 ≤ t.length := by have := begR_length _ _ HBS.out; simpa [systemL] using this
              have CT2 : ∀ W, Calls Tryd.prog 17 #[.string ((B t).extract 6 (B t).size)] W fun e w' => e = .returned (.string (B (trimL (t.drop 6)))) ∧ Below W.heap.size W w' := by
                intro W
                rw [B_extract, size_B, List.take_length]
                exact trim_any (t.drop 6) W (by simp; omega)
              have htl2 : (trimL (t.drop 6)).length ≤ 1000000 := by have := trimL_le (t.drop 6); simp at this; omega
              obtain ⟨tb, htb⟩ : ∃ x, B t = x := ⟨_, rfl⟩
              have hzt : 6 ≤ tb.size ∧ tb.size ≤ 1000000 := by rw [← htb]; simp; omega
              obtain ⟨hzt, hzt2⟩ := hzt
              have ht1' : tb.toList.isEmpty = false := by rw [← htb, toList_B]; exact ht1
              have ht2' : (tb.toList == []) = false := by rw [← htb, toList_B]; exact ht2
              rw [htb] at CP CS CT2 ⊢
              replace CT2 := Lib.hid CT2
              clear htb ht1 ht2 h6 htl
              go_wp2_with fail
              refine (CP.out _).mono ?_
              rintro e w6 ⟨rfl, hb⟩
              replace HE := Lib.hid (HE.out.call hb)
              clear hb CP
              go_wp2_with fail
              refine (CS.out _).mono ?_
              rintro e w7 ⟨rfl, hb⟩
              replace HE := Lib.hid (HE.out.call hb)
              clear hb CS
              go_wp2_with fail
              refine (CT2.out _).mono ?_
              rintro e w8 ⟨rfl, hb⟩
              replace HE := Lib.hid (HE.out.call hb)
              clear hb CT2
              go_wp2_with fail
              go_step3
              exact ⟨1, .inr (.inr (.inr ⟨rfl, rfl, nm, [], trimL (t.drop 6), true, false, rfl, HE.out, htl2, by have := HR.out; simpa using this⟩))⟩
            | false =>
              go_wp2_with fail
              refine (CP.out _).mono ?_
              rintro e w6 ⟨rfl, hb⟩
              replace HE := Lib.hid (HE.out.call hb)
              clear hb CP
              go_wp2_with fail
              refine (CS.out _).mono ?_
              rintro e w7 ⟨rfl, hb⟩
              replace HE := Lib.hid (HE.out.call hb)
              clear hb CS
              go_wp2_with fail
              go_step3
              exact ⟨0, .inl ⟨rfl, rfl, nm, [], [], true, false, false, _, rfl, HE.out, by have := HR.out; simpa using this⟩⟩
end Go.Proofs.YtajfpegacbohdaaDoor.Hand
