/-
  Plain: what stands behind a comment's end plays no part.
  Plain: what the comment laws tell, as laws of lists.
  Plain: a comment behind which something stands is the same, whatever that is.
-/
import Derived.Test.YtppaobgccdlccaaDoorPuCm
namespace Go.Proofs.YtppaobgccdlccaaDoor.Pure
open Go Go.RowKit Go.Proofs.YtppaobgccdlccaaDoor.Pl Go.Proofs.YtppaobgccdlccaaDoor.Pb

theorem pref_app {p s : List UInt8} (m : List UInt8) (h : p.length ≤ s.length) : p.isPrefixOf (s ++ m) = p.isPrefixOf s := by
  rw [← pref_take, ← pref_take, List.take_append_of_le_length h]
theorem pref_take_app {p s : List UInt8} {k : Nat} (m : List UInt8) (h : p.length ≤ k) (hk : k ≤ s.length) : p.isPrefixOf (s.take k ++ m) = p.isPrefixOf s := by
  rw [pref_app m (by simp; omega), ← pref_take, ← pref_take, List.take_take, Nat.min_eq_left h]
theorem endG_min {p q : List UInt8} : ∀ {s t n}, endG p q s = some (t, n) → n ≤ s.length ∧ (n = t.length + p.length ∨ n = t.length + q.length) := by
  intro s
  induction s with
  | nil => intro t n h; simp [endG] at h
  | cons c r ih =>
    intro t n h
    simp only [endG] at h
    split at h
    · rename_i hp
      simp only [Option.some.injEq, Prod.mk.injEq] at h; obtain ⟨rfl, rfl⟩ := h
      exact ⟨(List.isPrefixOf_iff_prefix.1 hp).length_le, .inl (by simp)⟩
    · split at h
      · rename_i hq
        simp only [Option.some.injEq, Prod.mk.injEq] at h; obtain ⟨rfl, rfl⟩ := h
        exact ⟨(List.isPrefixOf_iff_prefix.1 hq).length_le, .inr (by simp)⟩
      · cases he : endG p q r with
        | none => rw [he] at h; cases h
        | some x =>
          obtain ⟨t', n'⟩ := x
          rw [he] at h
          simp only [Option.some.injEq, Prod.mk.injEq] at h
          obtain ⟨rfl, rfl⟩ := h
          have := ih he
          simp only [List.length_cons]; omega
/-- behind its end a text may go on in any way -/
theorem endG_app {p q : List UInt8} (m : List UInt8) (h1 : p.length ≤ q.length) (h2 : q.length ≤ p.length + 1) (hp0 : p ≠ []) (hpq : p.isPrefixOf q = true → p = q) : ∀ {s t n}, endG p q s = some (t, n) → endG p q (s.take n ++ m) = some (t, n) := by
  intro s
  induction s with
  | nil => intro t n h; simp [endG] at h
  | cons c r ih =>
    intro t n h
    have hm := endG_min h
    have hpl : 1 ≤ p.length := List.length_pos_iff.2 hp0
    obtain ⟨j, rfl⟩ : ∃ j, n = j + 1 := ⟨n - 1, by omega⟩
    have hcons : (c :: r).take (j + 1) ++ m = c :: (r.take j ++ m) := by simp
    have hp' : p.isPrefixOf (c :: (r.take j ++ m)) = p.isPrefixOf (c :: r) := by
      rw [← hcons]; exact pref_take_app m (by omega) hm.1
    rw [hcons]
    simp only [endG] at h ⊢
    rw [hp']
    split at h
    · rename_i hp
      rw [if_pos hp]; exact h
    · rename_i hp
      rw [if_neg hp]
      split at h
      · rename_i hq
        have e := h
        simp only [Option.some.injEq, Prod.mk.injEq] at e
        have hq' : q.isPrefixOf (c :: (r.take j ++ m)) = q.isPrefixOf (c :: r) := by
          rw [← hcons]; exact pref_take_app m (by omega) hm.1
        rw [hq', if_pos hq]; exact h
      · rename_i hq
        cases he : endG p q r with
        | none => rw [he] at h; cases h
        | some x =>
          obtain ⟨t', n'⟩ := x
          rw [he] at h
          simp only [Option.some.injEq, Prod.mk.injEq] at h
          obtain ⟨rfl, h⟩ := h
          obtain rfl : n' = j := by omega
          have hm' := endG_min he
          have hq' : q.isPrefixOf (c :: (r.take n' ++ m)) = q.isPrefixOf (c :: r) := by
            rw [← hcons]; exact pref_take_app m (by omega) hm.1
          rw [hq', if_neg hq, ih he]
end Go.Proofs.YtppaobgccdlccaaDoor.Pure

namespace Go.Proofs.YtppaobgccdlccaaDoor.Pure
open Go Go.RowKit Go.Proofs.YtppaobgccdlccaaDoor.K0 Go.Proofs.YtppaobgccdlccaaDoor.Hand Go.Proofs.YtppaobgccdlccaaDoor.Sa Go.Proofs.YtppaobgccdlccaaDoor.Sr Go.Proofs.YtppaobgccdlccaaDoor.Sm Go.Proofs.YtppaobgccdlccaaDoorW.PrintWords Go.Proofs.YtppaobgccdlccaaDoorW.PrintMore Go.Proofs.YtppaobgccdlccaaDoor.Pl Go.Proofs.YtppaobgccdlccaaDoor.Pb

/-! ### CommentEnds -/
def EndsAt (t : List UInt8) (i : Nat) : Prop := t[i]? ≠ some 0 ∧ ((i = 0 ∨ i + 1 = t.length) → t[i]? ≠ some 45) ∧ (i = 0 → t[i]? ≠ some 62) ∧ (0 < i → ¬ (t[i]? = some 45 ∧ t[i - 1]? = some 45))
def EndsOk (t : List UInt8) : Prop := ∀ i, i < t.length → EndsAt t i
def Suf (t : List UInt8) : Prop := ∀ i, i < t.length → (i + 1 = t.length → t[i]? ≠ some 45) ∧ (t[i]? = some 45 → t[i + 1]? ≠ some 45)
theorem Suf.tail {c : UInt8} {r : List UInt8} (h : Suf (c :: r)) : Suf r := by
  intro i hi
  have := h (i + 1) (by simp; omega)
  simp only [List.getElem?_cons_succ, List.length_cons] at this
  exact ⟨fun e => this.1 (by omega), this.2⟩
theorem EndsOk.suf {t : List UInt8} (h : EndsOk t) : Suf t := by
  intro i hi
  refine ⟨fun e => (h i hi).2.1 (.inr e), fun e e2 => ?_⟩
  by_cases hl : i + 1 < t.length
  · exact (h (i + 1) hl).2.2.2 (by omega) ⟨e2, by simpa using e⟩
  · rw [List.getElem?_eq_none (by omega)] at e2; cases e2
theorem EndsOk.no0 {t : List UInt8} (h : EndsOk t) : (0 : UInt8) ∉ t := by
  intro hm
  obtain ⟨i, hi, e⟩ := List.mem_iff_getElem.1 hm
  exact (h i hi).1 (by rw [List.getElem?_eq_getElem hi, e])
def P3 : List UInt8 := [45, 45, 62]
def P4 : List UInt8 := [45, 45, 33, 62]
def endOf (b : Bool) : List UInt8 := if b then P4 else P3
theorem Suf.two {c : UInt8} {r : List UInt8} (h : Suf (c :: r)) (hc : c = 45) : ∃ d r', r = d :: r' ∧ d ≠ 45 := by
  have h0 := h 0 (by simp)
  subst hc
  cases r with
  | nil => exact absurd rfl (h0.1 rfl)
  | cons d r' => exact ⟨d, r', rfl, fun e => h0.2 rfl (by simp [e])⟩
theorem pre2 (x : List UInt8) {c : UInt8} {r e : List UInt8} (h : Suf (c :: r)) : (45 :: 45 :: x).isPrefixOf (c :: (r ++ e)) = false := by
  by_cases hc : c = 45
  · obtain ⟨d, r', rfl, hd⟩ := h.two hc
    simp [List.isPrefixOf, Ne.symm hd]
  · simp [List.isPrefixOf, Ne.symm hc]
theorem endG_suf (b : Bool) (m : List UInt8) : ∀ t, Suf t → endG P3 P4 (t ++ (endOf b ++ m)) = some (t, t.length + (endOf b).length) := by
  intro t
  induction t with
  | nil => intro _; cases b <;> simp [endOf, P3, P4, endG, List.isPrefixOf]
  | cons c r ih =>
    intro h
    rw [List.cons_append]
    simp only [endG]
    rw [if_neg (by rw [P3, pre2 _ h]; simp), if_neg (by rw [P4, pre2 _ h]; simp), ih h.tail]
    simp; omega
theorem endG_none : ∀ t, Suf t → endG P3 P4 t = none := by
  intro t
  induction t with
  | nil => intro _; rfl
  | cons c r ih =>
    intro h
    have e0 : r = r ++ [] := by simp
    simp only [endG]
    rw [if_neg (by rw [P3, e0, pre2 _ h]; simp), if_neg (by rw [P4, e0, pre2 _ h]; simp), ih h.tail]
theorem suf_last {p t : List UInt8} (h : p.isSuffixOf t = true) : ∃ x, t = x ++ p := by
  obtain ⟨x, hx⟩ := List.isSuffixOf_iff_suffix.1 h
  exact ⟨x, hx.symm⟩
theorem Suf.nosuf {t : List UInt8} (h : Suf t) : [45, 45, 33].isSuffixOf t = false ∧ [45, 45].isSuffixOf t = false ∧ [45].isSuffixOf t = false := by
  refine ⟨?_, ?_, ?_⟩ <;> rw [Bool.eq_false_iff] <;> intro e <;> obtain ⟨x, rfl⟩ := suf_last e
  · exact (h x.length (by simp)).2 (by simp) (by simp)
  · exact (h (x.length + 1) (by simp)).1 (by simp) (by simp)
  · exact (h x.length (by simp)).1 (by simp) (by simp)
theorem plainEnd_suf {t : List UInt8} (h : Suf t) : plainEnd t = (t, t.length) := by
  unfold plainEnd
  rw [h.nosuf.1, h.nosuf.2.1, h.nosuf.2.2]; rfl
theorem EndsOk.front {t : List UInt8} (h : EndsOk t) (e : List UInt8) (he : [62].isPrefixOf e = false ∧ [45, 62].isPrefixOf e = false) : [62].isPrefixOf (t ++ e) = false ∧ [45, 62].isPrefixOf (t ++ e) = false := by
  cases t with
  | nil => exact he
  | cons c r =>
    have h0 := h 0 (by simp)
    have h1 : c ≠ 62 := fun e => h0.2.2.1 rfl (by simp [e])
    have h2 : c ≠ 45 := fun e => h0.2.1 (.inl rfl) (by simp [e])
    simp [List.isPrefixOf, Ne.symm h1, Ne.symm h2]
theorem plainL_ends {t : List UInt8} (h : EndsOk t) (b : Bool) (m : List UInt8) : plainL (t ++ (endOf b ++ m)) = (t, t.length + (endOf b).length) := by
  have := h.front (endOf b ++ m) (by cases b <;> simp [endOf, P3, P4, List.isPrefixOf])
  unfold plainL
  rw [this.1, this.2, show ([45, 45, 62] : List UInt8) = P3 from rfl, show ([45, 45, 33, 62] : List UInt8) = P4 from rfl, endG_suf b m t h.suf]; rfl
theorem plainL_all {t : List UInt8} (h : EndsOk t) : plainL t = (t, t.length) := by
  have := h.front [] (by simp [List.isPrefixOf])
  rw [List.append_nil] at this
  unfold plainL
  rw [this.1, this.2, show ([45, 45, 62] : List UInt8) = P3 from rfl, show ([45, 45, 33, 62] : List UInt8) = P4 from rfl, endG_none t h.suf, plainEnd_suf h.suf]; rfl
def O4 : List UInt8 := [60, 33, 45, 45]
theorem begC_O4 (r : List UInt8) : begC (O4 ++ r) = true := by
  simp [O4, begC, doctypeL, begR, lowB]
theorem readC_O4 (r : List UInt8) : readC (O4 ++ r) = ((plainL r).1, 4 + (plainL r).2) := by
  have : begR (O4 ++ r) [60, 33, 45, 45] = true := by simp [O4, begR, lowB]
  unfold readC
  rw [if_pos this]; rfl
/-- what a comment at a text's begin is read as -/
def tok0 (t : List UInt8) (n : Nat) : Int × ByteArray × ByteArray × List S88 × Bool × Int × Bool := (3, B [], B t, [], false, (n : Int), true)
theorem tokC_some {r t : List UInt8} {n : Nat} (hb : begC r = true) (hr : readC r = (t, n)) (h0 : (0 : UInt8) ∉ t) : tokC 0 r = tok0 t n := by
  unfold tokC tok0
  rw [if_pos hb, hr, cleanL_of_no0 h0]; simp
theorem ends_one {t : List UInt8} (h : EndsOk t) (b : Bool) (m : List UInt8) : tokC 0 (O4 ++ (t ++ (endOf b ++ m))) = tok0 t (4 + (t.length + (endOf b).length)) :=
  tokC_some (begC_O4 _) (by rw [readC_O4, plainL_ends h b m]) h.no0
theorem ends_two {t : List UInt8} (h : EndsOk t) : tokC 0 (O4 ++ t) = tok0 t (4 + t.length) :=
  tokC_some (begC_O4 _) (by rw [readC_O4, plainL_all h]) h.no0

/-! ### CommentBogus -/
theorem endG_62 (m : List UInt8) : ∀ t, (62 : UInt8) ∉ t → endG [62] [62] (t ++ 62 :: m) = some (t, t.length + 1) := by
  intro t
  induction t with
  | nil => intro _; simp [endG, List.isPrefixOf]
  | cons c r ih =>
    intro h
    simp only [List.mem_cons, not_or] at h
    rw [List.cons_append]
    simp only [endG]
    have : ([62] : List UInt8).isPrefixOf (c :: (r ++ 62 :: m)) = false := by simp [List.isPrefixOf, h.1]
    rw [this, ih h.2]; simp
theorem endG_62_none : ∀ t, (62 : UInt8) ∉ t → endG [62] [62] t = none := by
  intro t
  induction t with
  | nil => intro _; rfl
  | cons c r ih =>
    intro h
    simp only [List.mem_cons, not_or] at h
    simp only [endG]
    have : ([62] : List UInt8).isPrefixOf (c :: r) = false := by simp [List.isPrefixOf, h.1]
    rw [this, ih h.2]; simp
theorem bogus_one {t : List UInt8} (h : (62 : UInt8) ∉ t) (h0 : (0 : UInt8) ∉ t) (m : List UInt8) : tokC 0 ([60, 63] ++ (t ++ ([62] ++ m))) = tok0 (63 :: t) (t.length + 3) := by
  refine tokC_some (by simp [begC]) ?_ (by simp [h0])
  have e := endG_62 m (63 :: t) (by simp [h])
  simp only [List.cons_append] at e
  simp [readC, begR, lowB, otherL, e]; omega
theorem bogus_two {t : List UInt8} (h : (62 : UInt8) ∉ t) (h0 : (0 : UInt8) ∉ t) (m : List UInt8) : tokC 0 ([60, 33, 91] ++ (t ++ ([62] ++ m))) = tok0 (91 :: t) (t.length + 4) := by
  refine tokC_some (by simp [begC, doctypeL, begR, lowB]) ?_ (by simp [h0])
  have e := endG_62 m (91 :: t) (by simp [h])
  simp only [List.cons_append] at e
  simp [readC, begR, lowB, otherL, e]; omega
theorem bogus_three {t : List UInt8} (h : (62 : UInt8) ∉ t) (h0 : (0 : UInt8) ∉ t) : tokC 0 ([60, 47, 49] ++ t) = tok0 (49 :: t) (t.length + 3) := by
  refine tokC_some (by simp [begC, letB]) ?_ (by simp [h0])
  have e := endG_62_none (49 :: t) (by simp [h])
  simp [readC, begR, lowB, otherL, e]; omega

/-! ### CommentOpen -/
def OpenOk (t : List UInt8) : Prop := (62 : UInt8) ∉ t ∧ (45 : UInt8) ∉ t ∧ (33 : UInt8) ∉ t ∧ (0 : UInt8) ∉ t
theorem OpenOk.ends {t : List UInt8} (h : OpenOk t) : EndsOk t := by
  intro i hi
  have hm := List.mem_of_getElem? (List.getElem?_eq_getElem hi)
  have g : ∀ c, c ∉ t → t[i]? ≠ some c := fun c hc e => hc (List.mem_of_getElem? e)
  exact ⟨g _ h.2.2.2, fun _ => g _ h.2.1, fun _ => g _ h.1, fun _ e => g _ h.2.1 e.1⟩
theorem open_one {t : List UInt8} (h : OpenOk t) : tokC 0 (O4 ++ t) = tok0 t (4 + t.length) := ends_two h.ends
theorem endG_bang : ∀ t, (45 : UInt8) ∉ t → endG P3 P4 (t ++ [45, 45, 33]) = none := by
  intro t
  induction t with
  | nil => intro _; simp [endG, P3, P4, List.isPrefixOf]
  | cons c r ih =>
    intro h
    simp only [List.mem_cons, not_or] at h
    rw [List.cons_append]
    simp only [endG]
    have : ∀ x, (45 :: 45 :: x : List UInt8).isPrefixOf (c :: (r ++ [45, 45, 33])) = false := by intro x; simp [List.isPrefixOf, h.1]
    rw [P3, P4, this, this, ← P3, ← P4, ih h.2]; simp
theorem open_two {t : List UInt8} (h : OpenOk t) : tokC 0 (O4 ++ (t ++ [45, 45, 33])) = tok0 t (t.length + 7) := by
  refine tokC_some (begC_O4 _) ?_ h.2.2.2
  rw [readC_O4]
  have f := h.ends.front [45, 45, 33] (by simp [List.isPrefixOf])
  have s : [45, 45, 33].isSuffixOf (t ++ [45, 45, 33]) = true := List.isSuffixOf_iff_suffix.2 (List.suffix_append _ _)
  unfold plainL plainEnd
  rw [f.1, f.2, show ([45, 45, 62] : List UInt8) = P3 from rfl, show ([45, 45, 33, 62] : List UInt8) = P4 from rfl, endG_bang t h.2.1, s]
  simp; omega
theorem open_three {t : List UInt8} (h : OpenOk t) : tokC 0 (O4 ++ (32 :: t)) = tok0 (32 :: t) (t.length + 5) := by
  have h' : OpenOk (32 :: t) := ⟨by simp [h.1], by simp [h.2.1], by simp [h.2.2.1], by simp [h.2.2.2]⟩
  rw [open_one h']; simp [tok0]; omega
theorem open_four {t : List UInt8} (h : OpenOk t) : tokC 0 ([60, 33] ++ (t ++ [45])) = if begR (t ++ [45]) doctypeL = true then (0, B [], B [], [], false, 0, false) else tok0 (t ++ [45]) (t.length + 3) := by
  by_cases hd : begR (t ++ [45]) doctypeL = true
  · rw [if_pos hd]; simp [tokC, begC, hd]
  · rw [if_neg hd]
    refine tokC_some (by simp [begC, hd]) ?_ (by simp [h.2.2.2])
    have hm : (62 : UInt8) ∉ t ++ [45] := by simp [h.1]
    have e := endG_62_none _ hm
    have b4 : begR ([60, 33] ++ (t ++ [45])) [60, 33, 45, 45] = false := by
      cases t with
      | nil => simp [begR, lowB]
      | cons c r =>
        have : (lowB c == 45) = false := by
          rw [lw45]; simpa using fun e => h.2.1 (by simp [e])
        simp [begR, this]
    unfold readC
    rw [b4]
    simp [begR, lowB, otherL, e]; omega
end Go.Proofs.YtppaobgccdlccaaDoor.Pure

namespace Go.Proofs.YtppaobgccdlccaaDoor.Pure
open Go Go.RowKit Go.Proofs.YtppaobgccdlccaaDoor.K0 Go.Proofs.YtppaobgccdlccaaDoor.Hand Go.Proofs.YtppaobgccdlccaaDoor.Sa Go.Proofs.YtppaobgccdlccaaDoor.Sr Go.Proofs.YtppaobgccdlccaaDoor.Sm Go.Proofs.YtppaobgccdlccaaDoorW.PrintWords Go.Proofs.YtppaobgccdlccaaDoorW.PrintMore Go.Proofs.YtppaobgccdlccaaDoor.Pl Go.Proofs.YtppaobgccdlccaaDoor.Pb

theorem endG_last {p q : List UInt8} (hp : p.getLast? = some 62) (hq : q.getLast? = some 62) : ∀ {s t n}, endG p q s = some (t, n) → 1 ≤ n ∧ s[n - 1]? = some 62 := by
  have key : ∀ {p s : List UInt8}, p.getLast? = some 62 → p.isPrefixOf s = true → 1 ≤ p.length ∧ s[p.length - 1]? = some 62 := by
    intro p s hp h
    obtain ⟨x, rfl⟩ := List.isPrefixOf_iff_prefix.1 h
    have : 1 ≤ p.length := by
      cases p with
      | nil => simp at hp
      | cons => simp
    rw [List.getLast?_eq_getElem?] at hp
    exact ⟨this, by rw [List.getElem?_append_left (by omega), hp]⟩
  intro s
  induction s with
  | nil => intro t n h; simp [endG] at h
  | cons c r ih =>
    intro t n h
    simp only [endG] at h
    split at h
    · rename_i hh
      simp only [Option.some.injEq, Prod.mk.injEq] at h; obtain ⟨rfl, rfl⟩ := h; exact key hp hh
    · split at h
      · rename_i hh
        simp only [Option.some.injEq, Prod.mk.injEq] at h; obtain ⟨rfl, rfl⟩ := h; exact key hq hh
      · cases he : endG p q r with
        | none => rw [he] at h; cases h
        | some x =>
          obtain ⟨t', n'⟩ := x
          rw [he] at h
          simp only [Option.some.injEq, Prod.mk.injEq] at h
          obtain ⟨rfl, rfl⟩ := h
          obtain ⟨h1, h2⟩ := ih he
          obtain ⟨j, rfl⟩ : ∃ j, n' = j + 1 := ⟨n' - 1, by omega⟩
          exact ⟨by omega, by simpa using h2⟩
theorem otherL_cut {r t : List UInt8} {n : Nat} (m : List UInt8) (h : otherL r = (t, n)) (hn : n < r.length) : otherL (r.take n ++ m) = (t, n) ∧ 1 ≤ n ∧ r[n - 1]? = some 62 := by
  unfold otherL at h ⊢
  cases he : endG [62] [62] r with
  | none => rw [he] at h; simp at h; omega
  | some x =>
    rw [he] at h; simp only at h; subst h
    rw [endG_app m (by simp) (by simp) (by simp) (fun _ => rfl) he]
    exact ⟨rfl, endG_last rfl rfl he⟩
theorem plainL_cut {r t : List UInt8} {n : Nat} (m : List UInt8) (h : plainL r = (t, n)) (hn : n < r.length) : plainL (r.take n ++ m) = (t, n) ∧ 1 ≤ n ∧ r[n - 1]? = some 62 := by
  unfold plainL at h ⊢
  by_cases h1 : [62].isPrefixOf r = true
  · rw [if_pos h1] at h
    simp only [Prod.mk.injEq] at h; obtain ⟨rfl, rfl⟩ := h
    obtain ⟨x, rfl⟩ := List.isPrefixOf_iff_prefix.1 h1
    simp [List.isPrefixOf]
  · rw [if_neg h1] at h
    by_cases h2 : [45, 62].isPrefixOf r = true
    · rw [if_pos h2] at h
      simp only [Prod.mk.injEq] at h; obtain ⟨rfl, rfl⟩ := h
      obtain ⟨x, rfl⟩ := List.isPrefixOf_iff_prefix.1 h2
      simp [List.isPrefixOf]
    · rw [if_neg h2] at h
      cases he : endG [45, 45, 62] [45, 45, 33, 62] r with
      | none =>
        rw [he] at h
        have : (plainEnd r).2 = r.length := by unfold plainEnd; repeat' split
                                               all_goals rfl
        simp only at h; rw [h] at this; simp at this; omega
      | some x =>
        rw [he] at h; simp only at h; subst h
        have hm := endG_min he
        simp only [List.length_cons, List.length_nil] at hm
        rw [pref_take_app m (by simp; omega) hm.1, pref_take_app m (by simp; omega) hm.1, if_neg h1, if_neg h2, endG_app m (by simp) (by simp) (by simp) (by simp [List.isPrefixOf]) he]
        exact ⟨rfl, endG_last rfl rfl he⟩
theorem begR_cut (m : List UInt8) : ∀ (low r : List UInt8) (k : Nat), r[k]? = some 62 → (62 : UInt8) ∉ low → begR (r.take (k + 1) ++ m) low = begR r low := by
  intro low
  induction low with
  | nil => intro r k _ _; simp [begR]
  | cons l ls ih =>
    intro r k hk hl
    simp only [List.mem_cons, not_or] at hl
    cases r with
    | nil => simp at hk
    | cons c r =>
      cases k with
      | zero =>
        simp only [List.getElem?_cons_zero, Option.some.injEq] at hk
        subst hk
        have : (lowB 62 == l) = false := by simpa [lowB] using hl.1
        simp [begR, this]
      | succ k =>
        simp only [List.getElem?_cons_succ] at hk
        simp only [List.take_succ_cons, List.cons_append, begR, ih r k hk hl.2]
theorem take_shift (s m : List UInt8) (j n : Nat) (h : j ≤ s.length) (hn : n ≤ s.length - j) : (s.take (j + n) ++ m).drop j = (s.drop j).take n ++ m := by
  rw [List.drop_append_of_le_length (by simp; omega), List.drop_take]; simp
theorem getElem?_drop' (s : List UInt8) (j n : Nat) (hn : 1 ≤ n) : (s.drop j)[n - 1]? = s[j + n - 1]? := by
  rw [List.getElem?_drop]; congr 1; omega
/-- where the text of a comment is taken from, and how -/
theorem readC_cut {s t : List UInt8} {n : Nat} (m : List UInt8) (hb : begC s = true) (hr : readC s = (t, n)) (hn : n < s.length) :
    begC (s.take n ++ m) = true ∧ readC (s.take n ++ m) = (t, n) ∧ s[n - 1]? = some 62 ∧ 2 ≤ n := by
  have hl : 2 ≤ s.length := by
    match s, hb with
    | [], hb => simp [begC] at hb
    | [c], hb => simp [begC] at hb
    | c :: d :: r, hb => simp
  have h62 : s[n - 1]? = some 62 ∧ 2 ≤ n ∧ ((∀ b, begR s b = begR (s.take n ++ m) b ∨ (62 : UInt8) ∈ b) → readC (s.take n ++ m) = (t, n)) := by
    unfold readC at hr
    by_cases h1 : begR s [60, 33, 45, 45] = true
    · have l1 := begR_length _ _ h1
      simp only [List.length_cons, List.length_nil] at l1
      rw [if_pos h1] at hr
      simp only [Prod.mk.injEq] at hr
      obtain ⟨rfl, rfl⟩ := hr
      have := plainL_cut (r := s.drop 4) (t := (plainL (s.drop 4)).1) (n := (plainL (s.drop 4)).2) m rfl (by simp only [List.length_drop]; omega)
      refine ⟨by rw [← getElem?_drop' s 4 _ this.2.1]; exact this.2.2, by omega, fun g => ?_⟩
      rcases g [60, 33, 45, 45] with g1 | g1
      · unfold readC
        rw [← g1, if_pos h1, take_shift s m 4 _ (by omega) (by omega), this.1]
      · simp at g1
    · rw [if_neg h1] at hr
      by_cases h2 : begR s [60, 63] = true
      · rw [if_pos h2] at hr
        simp only [Prod.mk.injEq] at hr
        obtain ⟨rfl, rfl⟩ := hr
        have := otherL_cut (r := s.drop 1) (t := (otherL (s.drop 1)).1) (n := (otherL (s.drop 1)).2) m rfl (by simp only [List.length_drop]; omega)
        refine ⟨by rw [← getElem?_drop' s 1 _ this.2.1]; exact this.2.2, by omega, fun g => ?_⟩
        rcases g [60, 33, 45, 45] with g1 | g1
        · rcases g [60, 63] with g2 | g2
          · unfold readC
            rw [← g1, if_neg h1, ← g2, if_pos h2, take_shift s m 1 _ (by omega) (by omega), this.1]
          · simp at g2
        · simp at g1
      · rw [if_neg h2] at hr
        simp only [Prod.mk.injEq] at hr
        obtain ⟨rfl, rfl⟩ := hr
        have := otherL_cut (r := s.drop 2) (t := (otherL (s.drop 2)).1) (n := (otherL (s.drop 2)).2) m rfl (by simp only [List.length_drop]; omega)
        refine ⟨by rw [← getElem?_drop' s 2 _ this.2.1]; exact this.2.2, by omega, fun g => ?_⟩
        rcases g [60, 33, 45, 45] with g1 | g1
        · rcases g [60, 63] with g2 | g2
          · unfold readC
            rw [← g1, if_neg h1, ← g2, if_neg h2, take_shift s m 2 _ (by omega) (by omega), this.1]
          · simp at g2
        · simp at g1
  obtain ⟨k, rfl⟩ : ∃ k, n = k + 1 := ⟨n - 1, by omega⟩
  have hk : s[k]? = some 62 := h62.1
  have hg : ∀ b, begR s b = begR (s.take (k + 1) ++ m) b ∨ (62 : UInt8) ∈ b := by
    intro b
    by_cases h : (62 : UInt8) ∈ b
    · exact .inr h
    · exact .inl (begR_cut m b s k hk h).symm
  refine ⟨?_, h62.2.2 hg, h62.1, h62.2.1⟩
  match s, hb with
  | [], hb => simp [begC] at hb
  | [c], hb => simp [begC] at hb
  | c :: d :: r, hb =>
    obtain ⟨j, rfl⟩ : ∃ j, k = j + 1 := ⟨k - 1, by omega⟩
    simp only [List.getElem?_cons_succ] at hk
    simp only [List.take_succ_cons, List.cons_append]
    simp only [begC, Bool.and_eq_true] at hb ⊢
    refine ⟨hb.1, ?_⟩
    cases j with
    | zero =>
      simp only [List.getElem?_cons_zero, Option.some.injEq] at hk
      subst hk
      have := hb.2
      simp at this
    | succ j =>
      simp only [List.getElem?_cons_succ] at hk
      have h2 := hb.2
      by_cases h33 : d = 33
      · simp only [if_pos h33] at h2 ⊢
        rw [begR_cut m doctypeL r j hk (by simp [doctypeL])]; exact h2
      · simp only [if_neg h33] at h2 ⊢
        by_cases h63 : d = 63
        · simp [h63]
        · simp only [if_neg h63] at h2 ⊢
          cases r with
          | nil => simp at hk
          | cons e r => simpa using h2
theorem readC_len {s : List UInt8} (hb : begC s = true) : 2 ≤ (readC s).2 ∧ (readC s).2 ≤ s.length := by
  have hl : 2 ≤ s.length := by
    match s, hb with
    | [], hb => simp [begC] at hb
    | [c], hb => simp [begC] at hb
    | c :: d :: r, hb => simp
  have ho : ∀ r, (otherL r).2 ≤ r.length ∧ (r ≠ [] → 1 ≤ (otherL r).2) := by
    intro r
    unfold otherL
    cases he : endG [62] [62] r with
    | none => cases r <;> simp
    | some x =>
      have := endG_min he
      simp only [List.length_cons, List.length_nil] at this
      exact ⟨by simpa using this.1, fun _ => by show 1 ≤ x.2; omega⟩
  have hp : ∀ r, (plainL r).2 ≤ r.length := by
    intro r
    unfold plainL
    split
    · rename_i h; have := (List.isPrefixOf_iff_prefix.1 h).length_le; simpa using this
    · split
      · rename_i h; have := (List.isPrefixOf_iff_prefix.1 h).length_le; simpa using this
      · cases he : endG [45, 45, 62] [45, 45, 33, 62] r with
        | none =>
          simp only
          unfold plainEnd; repeat' split
          all_goals simp
        | some x => exact (endG_min he).1
  unfold readC
  split
  · rename_i h
    have l1 := begR_length _ _ h
    simp only [List.length_cons, List.length_nil] at l1
    have := hp (s.drop 4)
    simp only [List.length_drop] at this
    simp only; omega
  · split
    · have := ho (s.drop 1)
      have h1 : s.drop 1 ≠ [] := by intro e; have := congrArg List.length e; simp at this; omega
      have := this.2 h1
      have := (ho (s.drop 1)).1
      simp only [List.length_drop] at this
      simp only; omega
    · have := (ho (s.drop 2)).1
      simp only [List.length_drop] at this
      simp only; omega
end Go.Proofs.YtppaobgccdlccaaDoor.Pure
