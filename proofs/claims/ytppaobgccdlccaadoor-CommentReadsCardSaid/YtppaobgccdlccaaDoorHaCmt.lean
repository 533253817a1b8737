/-
  Hand walk: comment.Read.
-/
import Derived.Test.YtppaobgccdlccaaDoorHaCut
import Derived.Test.YtppaobgccdlccaaDoorSa
import Derived.Test.YtppaobgccdlccaaDoorK0
import Derived.Laws.Rows
import Derived.Laws.Cells
namespace Go.Proofs.YtppaobgccdlccaaDoor.Hand
open Go.RowKit Go.Proofs.YtppaobgccdlccaaDoor.K0 Go.Proofs.YtppaobgccdlccaaDoor.Pl Go.Proofs.YtppaobgccdlccaaDoor.Sa Go.Proofs.YtppaobgccdlccaaDoorW.PrintWords Go.Proofs.YtppaobgccdlccaaDoorW.PrintLast Go.Proofs.YtppaobgccdlccaaDoorW.PrintMore

/-- a token that lies in a block of its own -/
structure Tok (b : Nat) (v : Array Value) (W : World) : Prop where
  cell : ∀ j, j < 5 → W.cell? ⟨b, j, none⟩ = v[j]?
  open_ : ∀ j, W.frozen? ⟨b, j, none⟩ = false
theorem Tok.of_alloc (v : Array Value) (t : TypeId) (w : World) : Tok w.heap.size v (w.alloc (.cells v t)) :=
  ⟨fun j _ => World.cell?_alloc_at v t _ j rfl, fun j => World.frozen?_alloc_at v t _ j rfl⟩
theorem Tok.below {b : Nat} {v : Array Value} {W W' : World} (h : Tok b v W) {n : Nat} (hb : Below n W W') (hn : b < n) : Tok b v W' :=
  ⟨fun j hj => (hb.cell (p := ⟨b, j, none⟩) hn).trans (h.cell j hj), fun j => (hb.frozen (p := ⟨b, j, none⟩) hn).trans (h.open_ j)⟩
def putTok (W : World) (b : Nat) (x0 x1 x2 x3 x4 : Value) : World :=
  ((((W.setCell ⟨b, 0, none⟩ x0).setCell ⟨b, 1, none⟩ x1).setCell ⟨b, 2, none⟩ x2).setCell ⟨b, 3, none⟩ x3).setCell ⟨b, 4, none⟩ x4
theorem put_below {w W : World} (b : Nat) (hb : w.heap.size ≤ b) (h : Below w.heap.size w W) (x0 x1 x2 x3 x4 : Value) : Below w.heap.size w (putTok W b x0 x1 x2 x3 x4) :=
  ((((h.setCell hb _).setCell hb _).setCell hb _).setCell hb _).setCell hb _
theorem ne_off {b i j : Nat} (h : i ≠ j) : (⟨b, i, none⟩ : Addr) ≠ ⟨b, j, none⟩ := by intro e; injection e with _ e _; exact h e
section
variable {b : Nat} {y0 y1 y2 y3 y4 : Value} {W : World} (h : Tok b #[y0, y1, y2, y3, y4] W)
include h
theorem Tok.f1 (x0 : Value) : (W.setCell ⟨b, 0, none⟩ x0).cell? ⟨b, 1, none⟩ = some y1 := by rw [World.cell?_setCell_other _ _ _ _ (ne_off (by decide)), h.cell 1 (by decide)]; rfl
theorem Tok.f2 (x0 x1 : Value) : ((W.setCell ⟨b, 0, none⟩ x0).setCell ⟨b, 1, none⟩ x1).cell? ⟨b, 2, none⟩ = some y2 := by
  rw [World.cell?_setCell_other _ _ _ _ (ne_off (by decide)), World.cell?_setCell_other _ _ _ _ (ne_off (by decide)), h.cell 2 (by decide)]; rfl
theorem Tok.f3 (x0 x1 x2 : Value) : (((W.setCell ⟨b, 0, none⟩ x0).setCell ⟨b, 1, none⟩ x1).setCell ⟨b, 2, none⟩ x2).cell? ⟨b, 3, none⟩ = some y3 := by
  rw [World.cell?_setCell_other _ _ _ _ (ne_off (by decide)), World.cell?_setCell_other _ _ _ _ (ne_off (by decide)), World.cell?_setCell_other _ _ _ _ (ne_off (by decide)), h.cell 3 (by decide)]; rfl
theorem Tok.f4 (x0 x1 x2 x3 : Value) : ((((W.setCell ⟨b, 0, none⟩ x0).setCell ⟨b, 1, none⟩ x1).setCell ⟨b, 2, none⟩ x2).setCell ⟨b, 3, none⟩ x3).cell? ⟨b, 4, none⟩ = some y4 := by
  rw [World.cell?_setCell_other _ _ _ _ (ne_off (by decide)), World.cell?_setCell_other _ _ _ _ (ne_off (by decide)), World.cell?_setCell_other _ _ _ _ (ne_off (by decide)), World.cell?_setCell_other _ _ _ _ (ne_off (by decide)), h.cell 4 (by decide)]; rfl
end


theorem Tok.put {b : Nat} {y0 y1 y2 y3 y4 : Value} {W : World} (h : Tok b #[y0, y1, y2, y3, y4] W) (x0 x1 x2 x3 x4 : Value) : Tok b #[x0, x1, x2, x3, x4] (putTok W b x0 x1 x2 x3 x4) := by
  unfold putTok
  refine ⟨fun j hj => ?_, fun j => by simp only [World.frozen?_setCell]; exact h.open_ j⟩
  match j, hj with
  | 0, _ =>
    rw [World.cell?_setCell_other _ _ _ _ (ne_off (by decide)), World.cell?_setCell_other _ _ _ _ (ne_off (by decide)), World.cell?_setCell_other _ _ _ _ (ne_off (by decide)), World.cell?_setCell_other _ _ _ _ (ne_off (by decide)), World.cell?_setCell_same _ _ _ (h.cell 0 (by decide))]; rfl
  | 1, _ =>
    rw [World.cell?_setCell_other _ _ _ _ (ne_off (by decide)), World.cell?_setCell_other _ _ _ _ (ne_off (by decide)), World.cell?_setCell_other _ _ _ _ (ne_off (by decide)), World.cell?_setCell_same _ _ _ (h.f1 _)]; rfl
  | 2, _ =>
    rw [World.cell?_setCell_other _ _ _ _ (ne_off (by decide)), World.cell?_setCell_other _ _ _ _ (ne_off (by decide)), World.cell?_setCell_same _ _ _ (h.f2 _ _)]; rfl
  | 3, _ =>
    rw [World.cell?_setCell_other _ _ _ _ (ne_off (by decide)), World.cell?_setCell_same _ _ _ (h.f3 _ _ _)]; rfl
  | 4, _ =>
    rw [World.cell?_setCell_same _ _ _ (h.f4 _ _ _ _)]; rfl
theorem Tok.load {b : Nat} {x0 x1 x2 x3 x4 : Value} {W : World} (h : Tok b #[x0, x1, x2, x3, x4] W) : (loadVar 35 ⟨b, 0, none⟩).run Tryd.prog W = .ok (.agg #[x0, x1, x2, x3, x4]) W := by
  have hl : (loadCells ⟨b, 0, none⟩ [x0, x1, x2, x3, x4].length).run Tryd.prog W = .ok [x0, x1, x2, x3, x4].toArray W :=
    run_loadCells_list (P := Tryd.prog) W ⟨b, 0, none⟩ [x0, x1, x2, x3, x4] (fun j v hv => by
      have hadd : (⟨b, 0, none⟩ : Addr).add j = ⟨b, j, none⟩ := by unfold Addr.add; split <;> simp_all
      have hj : j < 5 := by
        rcases Nat.lt_or_ge j 5 with h' | h'
        · exact h'
        · rw [List.getElem?_eq_none (by simpa using h')] at hv; cases hv
      rw [hadd, h.cell j hj, ← hv]; simp)
  have hagg : (isAgg 35).run Tryd.prog W = .ok true W := by
    unfold isAgg
    rw [Sem.run_bind, run_underlying Tryd.underlying35 W]
    rfl
  obtain ⟨i, hi⟩ := info_of_underlying (P := Tryd.prog) Tryd.underlying35
  have hc : Tryd.prog.cellsOf 35 = 5 := by kernel_rfl
  have hsz := run_sizeOf (P := Tryd.prog) W hi
  rw [hc] at hsz
  unfold loadVar
  rw [Sem.run_bind, hagg]
  simp only [Result.andThen_ok, if_true, Sem.run_bind, hsz]
  rw [show (5 : Nat) = [x0, x1, x2, x3, x4].length from rfl, hl]
  rfl
theorem results_ctt {P : Program} {fn : Func} {p u v : Tmp} {ty : TypeId} {b : Nat} {X : Value} {tmps : Array Value} {w : World} (h : fn.results = #[.cell p ty, .tmp u, .tmp v]) (hp : tmps.getD p undef = .pointer (some ⟨b, 0, none⟩))
    (hl : (loadVar ty ⟨b, 0, none⟩).run P w = .ok X w) : (results fn tmps).run P w = .ok (.tuple #[X, tmps.getD u undef, tmps.getD v undef]) w := by
  have hp' : tmps[p]?.getD undef = .pointer (some ⟨b, 0, none⟩) := by simpa using hp
  simp only [results, h]
  simp [Sem.run_bind, Result.andThen, hp', asAddr, hl]

def comment_Read.g (a0 : ByteArray) (fr : Int) (V : ByteArray → ByteArray × Int) : Option (Int × ByteArray × ByteArray × (List S88) × Bool × Int × Bool) :=
  if 0 ≤ fr ∧ fr ≤ (a0.size : Int) then (lines_Clean.f (V (a0.extract fr.toNat a0.size)).1).bind fun t => some (3, (⟨#[]⟩ : ByteArray), t, ([] : List S88), false, wrap64 (fr + (V (a0.extract fr.toNat a0.size)).2), true) else none
def comment_Read.f (a0 : ByteArray) (a1 : Int) : Option (Int × ByteArray × ByteArray × (List S88) × Bool × Int × Bool) :=
  if a0.size ≤ 1000000000 then (comment_Begins.f a0 a1).bind fun b =>
    if b = true then (sign_Begins.f a0 a1 ⟨#[60, 33, 45, 45]⟩).bind fun c =>
      if c = true then comment_Read.g a0 (wrap64 (a1 + 4)) plainV
      else (sign_Begins.f a0 a1 ⟨#[60, 63]⟩).bind fun d => if d = true then comment_Read.g a0 (wrap64 (a1 + 1)) otherV else comment_Read.g a0 (wrap64 (a1 + 2)) otherV
    else some (0, (⟨#[]⟩ : ByteArray), (⟨#[]⟩ : ByteArray), ([] : List S88), false, a1, false)
  else none
theorem hg_split {α : Type} {p : Prop} [Decidable p] {x : Option α} {r : α} (h : (if p then x else none) = some r) : p ∧ x = some r := by
  by_cases hp : p
  · rw [if_pos hp] at h; exact ⟨hp, h⟩
  · rw [if_neg hp] at h; cases h
theorem tup7 {α β γ δ ε ζ η : Type} {a a' : α} {b b' : β} {c c' : γ} {d d' : δ} {e e' : ε} {f f' : ζ} {g g' : η} (h : some (a, b, c, d, e, f, g) = some (a', b', c', d', e', f', g')) :
    a = a' ∧ b = b' ∧ c = c' ∧ d = d' ∧ e = e' ∧ f = f' ∧ g = g' := by
  simp only [Option.some.injEq, Prod.mk.injEq] at h; exact h
def T0 : Array Value := #[.int .i64 0, .string ⟨#[]⟩, .string ⟨#[]⟩, .slice none 0 0, .bool false]
set_option maxRecDepth 100000 in
set_option maxHeartbeats 8000000 in
theorem comment_Read.exact (a0 : ByteArray) (a1 : Int) (r1 : Int) (r2 : ByteArray) (r3 : ByteArray) (r4 : List (S88)) (r5 : Bool) (r6 : Int) (r7 : Bool) (w : World) (hGl : Glob w) (h : comment_Read.f a0 a1 = some (r1, r2, r3, r4, r5, r6, r7)) :
    Calls Tryd.prog 37 #[.string a0, .int .i64 a1] w fun e w' => e = .returned (.tuple #[.agg #[.int .i64 r1, .string r2, .string r3, .slice none 0 0, .bool r5], .int .i64 r6, .bool r7]) ∧ r4 = [] ∧ Below w.heap.size w w' := by
  have hu35 := Tryd.underlying35
  unfold comment_Read.f at h
  obtain ⟨hsize, h⟩ := hg_split h
  obtain ⟨b, hb, h⟩ := Option.bind_eq_some_iff.1 h
  have H := Lib.hid h
  clear h
  have CB := Lib.hid (fun W => comment_Begins.calls a0 a1 b W hb)
  clear hb
  have hT := Lib.hid (Tok.of_alloc T0 35 w)
  have hB0 := Lib.hid (Below.alloc (Below.refl w.heap.size w) (Nat.le_refl _) (.cells T0 35))
  have hsz : w.heap.size < (w.alloc (.cells T0 35)).heap.size := by simp
  go_enter Tryd.func37, Tryd.ntmps37
  go_wp2_with fail
  refine (CB.out _).mono ?_
  rintro e w1 ⟨rfl, hb1⟩
  clear CB
  have hT1 := Lib.hid (hT.out.below hb1 hsz)
  have hB1 := Lib.hid (hB0.out.trans (hb1.mono (Nat.le_of_lt hsz)))
  have hl1 := Nat.lt_of_lt_of_le hsz hb1.size
  clear hb1 hsz hT hB0
  cases b with
  | false =>
    have H := H.out
    rw [if_neg (by simp)] at H
    obtain ⟨rfl, rfl, rfl, rfl, rfl, rfl, rfl⟩ := tup7 H
    clear H
    have q0 : w1.cell? ⟨w.heap.size, 0, none⟩ = some (.int .i64 0) := hT1.out.cell 0 (by decide)
    have q1 := Tok.f1 hT1.out
    have q2 := Tok.f2 hT1.out
    have q3 := Tok.f3 hT1.out
    have q4 := Tok.f4 hT1.out
    have q5 : ∀ j, w1.frozen? ⟨w.heap.size, j, none⟩ = false := hT1.out.open_
    go_wp2_with fail
    refine bodyPost_ret (results_ctt rfl rfl (Tok.load (hT1.out.put _ _ _ _ _))) rfl ?_
    first | exact ⟨rfl, rfl, put_below _ (Nat.le_refl _) hB1.out _ _ _ _ _⟩ | exact ⟨rfl, put_below _ (Nat.le_refl _) hB1.out _ _ _ _ _⟩
  | true =>
    replace H := H.out
    rw [if_pos (by simp)] at H
    obtain ⟨c, hc, H0⟩ := Option.bind_eq_some_iff.1 H
    clear H
    have H := Lib.hid H0
    clear H0
    have CS := Lib.hid (sign_Begins.calls a0 a1 ⟨#[60, 33, 45, 45]⟩ c w1 hc)
    clear hc
    go_wp2_with fail
    refine CS.out.mono ?_
    rintro e w2 ⟨rfl, hb2⟩
    clear CS
    have hT2 := Lib.hid (hT1.out.below hb2 hl1)
    have hB2 := Lib.hid (hB1.out.trans (hb2.mono (Nat.le_of_lt hl1)))
    have hl2 := Nat.lt_of_lt_of_le hl1 hb2.size
    clear hb2 hT1 hB1 hl1
    cases c with
    | true =>
      replace H := Lib.hid (by have := H.out; rw [if_pos (by simp)] at this; exact this)
      unfold comment_Read.g at H
      obtain ⟨⟨z0, z1⟩, H⟩ := hg_split H.out
      obtain ⟨t, ht, H⟩ := Option.bind_eq_some_iff.1 H
      obtain ⟨rfl, rfl, rfl, rfl, rfl, e6, rfl⟩ := tup7 H
      have z0' := eq_true z0
      have z1' := eq_true z1
      have CV := Lib.hid (plain_any (a0.extract (wrap64 (a1 + 4)).toNat a0.size) _ (by simp only [ByteArray.size_extract]; omega) (hGl.step hB2.out))
      have ht := Lib.hid ht
      obtain ⟨⟨x1, x2⟩, hx⟩ : ∃ x, plainV (a0.extract (wrap64 (a1 + 4)).toNat a0.size) = x := ⟨_, rfl⟩
      rw [hx] at CV ht e6
      clear hx
      simp only at CV ht e6
      obtain ⟨fr, hfr⟩ : ∃ fr, (wrap64 (a1 + 4)) = fr := ⟨_, rfl⟩
      have hfr' : (IntKind.i64.wrap (a1 + 4)) = fr := (i64_w _).trans hfr
      rw [hfr] at CV z0 z1 z0' z1' e6
      replace e6 := Lib.hid e6
      go_wp2_with fail
      refine CV.out.mono ?_
      rintro e w5 ⟨rfl, hb5⟩
      clear CV
      have hT5 := Lib.hid (hT2.out.below hb5 (hl2))
      have hB5 := Lib.hid (hB2.out.trans (hb5.mono (Nat.le_of_lt (hl2))))
      have hl5 := Nat.lt_of_lt_of_le (hl2) hb5.size
      have CC := Lib.hid (lines_Clean.calls x1 t w5 (hGl.step hB5.out) ht.out)
      clear hb5 ht
      go_wp2_with fail
      refine CC.out.mono ?_
      rintro e w6 ⟨rfl, hb6⟩
      clear CC
      have hT6 := Lib.hid (hT5.out.below hb6 hl5)
      have hB6 := Lib.hid (hB5.out.trans (hb6.mono (Nat.le_of_lt hl5)))
      clear hb6 hT5 hB5
      have q0 : w6.cell? ⟨w.heap.size, 0, none⟩ = some (.int .i64 0) := hT6.out.cell 0 (by decide)
      have q1 := Tok.f1 hT6.out
      have q2 := Tok.f2 hT6.out
      have q3 := Tok.f3 hT6.out
      have q4 := Tok.f4 hT6.out
      have q5 : ∀ j, w6.frozen? ⟨w.heap.size, j, none⟩ = false := hT6.out.open_
      go_wp2_with fail
      refine bodyPost_ret (results_ctt rfl rfl (Tok.load (hT6.out.put _ _ _ _ _))) rfl ?_
      first | refine ⟨?_, rfl, ?_⟩ | refine ⟨?_, ?_⟩
      · show Ending.returned (.tuple #[_, .int .i64 (wrap64 (fr + x2)), .bool true]) = _
        rw [e6.out]
      · exact put_below _ (Nat.le_refl _) hB6.out _ _ _ _ _
    | false =>
      have H0 := H.out
      rw [if_neg (by simp)] at H0
      clear H
      obtain ⟨d, hd, H1⟩ := Option.bind_eq_some_iff.1 H0
      clear H0
      have H := Lib.hid H1
      clear H1
      have CD := Lib.hid (sign_Begins.calls a0 a1 ⟨#[60, 63]⟩ d w2 hd)
      clear hd
      go_wp2_with fail
      refine CD.out.mono ?_
      rintro e w3 ⟨rfl, hb3⟩
      clear CD
      have hT3 := Lib.hid (hT2.out.below hb3 hl2)
      have hB3 := Lib.hid (hB2.out.trans (hb3.mono (Nat.le_of_lt hl2)))
      have hl3 := Nat.lt_of_lt_of_le hl2 hb3.size
      clear hb3 hT2 hB2 hl2
      cases d with
      | true =>
        replace H := Lib.hid (by have := H.out; rw [if_pos (by simp)] at this; exact this)
        unfold comment_Read.g at H
        obtain ⟨⟨z0, z1⟩, H⟩ := hg_split H.out
        obtain ⟨t, ht, H⟩ := Option.bind_eq_some_iff.1 H
        obtain ⟨rfl, rfl, rfl, rfl, rfl, e6, rfl⟩ := tup7 H
        have z0' := eq_true z0
        have z1' := eq_true z1
        have CV := Lib.hid (other_any (a0.extract (wrap64 (a1 + 1)).toNat a0.size) _ (by simp only [ByteArray.size_extract]; omega) (hGl.step hB3.out))
        have ht := Lib.hid ht
        obtain ⟨⟨x1, x2⟩, hx⟩ : ∃ x, otherV (a0.extract (wrap64 (a1 + 1)).toNat a0.size) = x := ⟨_, rfl⟩
        rw [hx] at CV ht e6
        clear hx
        simp only at CV ht e6
        obtain ⟨fr, hfr⟩ : ∃ fr, (wrap64 (a1 + 1)) = fr := ⟨_, rfl⟩
        have hfr' : (IntKind.i64.wrap (a1 + 1)) = fr := (i64_w _).trans hfr
        rw [hfr] at CV z0 z1 z0' z1' e6
        replace e6 := Lib.hid e6
        go_wp2_with fail
        refine CV.out.mono ?_
        rintro e w5 ⟨rfl, hb5⟩
        clear CV
        have hT5 := Lib.hid (hT3.out.below hb5 (hl3))
        have hB5 := Lib.hid (hB3.out.trans (hb5.mono (Nat.le_of_lt (hl3))))
        have hl5 := Nat.lt_of_lt_of_le (hl3) hb5.size
        have CC := Lib.hid (lines_Clean.calls x1 t w5 (hGl.step hB5.out) ht.out)
        clear hb5 ht
        go_wp2_with fail
        refine CC.out.mono ?_
        rintro e w6 ⟨rfl, hb6⟩
        clear CC
        have hT6 := Lib.hid (hT5.out.below hb6 hl5)
        have hB6 := Lib.hid (hB5.out.trans (hb6.mono (Nat.le_of_lt hl5)))
        clear hb6 hT5 hB5
        have q0 : w6.cell? ⟨w.heap.size, 0, none⟩ = some (.int .i64 0) := hT6.out.cell 0 (by decide)
        have q1 := Tok.f1 hT6.out
        have q2 := Tok.f2 hT6.out
        have q3 := Tok.f3 hT6.out
        have q4 := Tok.f4 hT6.out
        have q5 : ∀ j, w6.frozen? ⟨w.heap.size, j, none⟩ = false := hT6.out.open_
        go_wp2_with fail
        refine bodyPost_ret (results_ctt rfl rfl (Tok.load (hT6.out.put _ _ _ _ _))) rfl ?_
        first | refine ⟨?_, rfl, ?_⟩ | refine ⟨?_, ?_⟩
        · show Ending.returned (.tuple #[_, .int .i64 (wrap64 (fr + x2)), .bool true]) = _
          rw [e6.out]
        · exact put_below _ (Nat.le_refl _) hB6.out _ _ _ _ _
      | false =>
        replace H := Lib.hid (by have := H.out; rw [if_neg (by simp)] at this; exact this)
        unfold comment_Read.g at H
        obtain ⟨⟨z0, z1⟩, H⟩ := hg_split H.out
        obtain ⟨t, ht, H⟩ := Option.bind_eq_some_iff.1 H
        obtain ⟨rfl, rfl, rfl, rfl, rfl, e6, rfl⟩ := tup7 H
        have z0' := eq_true z0
        have z1' := eq_true z1
        have CV := Lib.hid (other_any (a0.extract (wrap64 (a1 + 2)).toNat a0.size) _ (by simp only [ByteArray.size_extract]; omega) (hGl.step hB3.out))
        have ht := Lib.hid ht
        obtain ⟨⟨x1, x2⟩, hx⟩ : ∃ x, otherV (a0.extract (wrap64 (a1 + 2)).toNat a0.size) = x := ⟨_, rfl⟩
        rw [hx] at CV ht e6
        clear hx
        simp only at CV ht e6
        obtain ⟨fr, hfr⟩ : ∃ fr, (wrap64 (a1 + 2)) = fr := ⟨_, rfl⟩
        have hfr' : (IntKind.i64.wrap (a1 + 2)) = fr := (i64_w _).trans hfr
        rw [hfr] at CV z0 z1 z0' z1' e6
        replace e6 := Lib.hid e6
        go_wp2_with fail
        refine CV.out.mono ?_
        rintro e w5 ⟨rfl, hb5⟩
        clear CV
        have hT5 := Lib.hid (hT3.out.below hb5 (hl3))
        have hB5 := Lib.hid (hB3.out.trans (hb5.mono (Nat.le_of_lt (hl3))))
        have hl5 := Nat.lt_of_lt_of_le (hl3) hb5.size
        have CC := Lib.hid (lines_Clean.calls x1 t w5 (hGl.step hB5.out) ht.out)
        clear hb5 ht
        go_wp2_with fail
        refine CC.out.mono ?_
        rintro e w6 ⟨rfl, hb6⟩
        clear CC
        have hT6 := Lib.hid (hT5.out.below hb6 hl5)
        have hB6 := Lib.hid (hB5.out.trans (hb6.mono (Nat.le_of_lt hl5)))
        clear hb6 hT5 hB5
        have q0 : w6.cell? ⟨w.heap.size, 0, none⟩ = some (.int .i64 0) := hT6.out.cell 0 (by decide)
        have q1 := Tok.f1 hT6.out
        have q2 := Tok.f2 hT6.out
        have q3 := Tok.f3 hT6.out
        have q4 := Tok.f4 hT6.out
        have q5 : ∀ j, w6.frozen? ⟨w.heap.size, j, none⟩ = false := hT6.out.open_
        go_wp2_with fail
        refine bodyPost_ret (results_ctt rfl rfl (Tok.load (hT6.out.put _ _ _ _ _))) rfl ?_
        first | refine ⟨?_, rfl, ?_⟩ | refine ⟨?_, ?_⟩
        · show Ending.returned (.tuple #[_, .int .i64 (wrap64 (fr + x2)), .bool true]) = _
          rw [e6.out]
        · exact put_below _ (Nat.le_refl _) hB6.out _ _ _ _ _
theorem comment_Read.calls (a0 : ByteArray) (a1 : Int) (r1 : Int) (r2 : ByteArray) (r3 : ByteArray) (r4 : List (S88)) (r5 : Bool) (r6 : Int) (r7 : Bool) (w : World) (hGl : Glob w) (h : comment_Read.f a0 a1 = some (r1, r2, r3, r4, r5, r6, r7)) :
    Calls Tryd.prog 37 #[.string a0, .int .i64 a1] w fun e w' => ∃ v3_ : Value, e = .returned (.tuple #[.agg #[.int .i64 r1, .string r2, .string r3, v3_, .bool r5], .int .i64 r6, .bool r7]) ∧ Kd.R k88 88 w' w.heap.size (fun _ => True) v3_ r4 ∧ Below w.heap.size w w' := by
  refine (comment_Read.exact a0 a1 r1 r2 r3 r4 r5 r6 r7 w hGl h).mono ?_
  rintro e w' ⟨h1, rfl, h2⟩
  exact ⟨_, h1, Kd.R_nil _ _ _ _ _, h2⟩
end Go.Proofs.YtppaobgccdlccaaDoor.Hand
