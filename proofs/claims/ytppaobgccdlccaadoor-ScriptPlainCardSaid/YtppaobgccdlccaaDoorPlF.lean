/-
  Plain: where a program ends: letters large or small; what stands behind an end plays no part; plain bytes are passed.
-/
import Derived.Test.YtppaobgccdlccaaDoorPlS
namespace Go.Proofs.YtppaobgccdlccaaDoor.Pl

theorem lowB_eq (d : UInt8) (hd : d = 45 ∨ d = 62) (c : UInt8) : (lowB c = d) = (c = d) := by
  have : ∀ n : Fin 256, ((lowB (UInt8.ofNat n.val) = 45) = (UInt8.ofNat n.val = 45)) ∧ ((lowB (UInt8.ofNat n.val) = 62) = (UInt8.ofNat n.val = 62)) := by
    have h : ∀ n : Fin 256, ((lowB (UInt8.ofNat n.val) = 45) ↔ (UInt8.ofNat n.val = 45)) ∧ ((lowB (UInt8.ofNat n.val) = 62) ↔ (UInt8.ofNat n.val = 62)) := by decide +kernel
    exact fun n => ⟨propext (h n).1, propext (h n).2⟩
  have h := this ⟨c.toNat, c.toNat_lt⟩
  simp only [UInt8.ofNat_toNat] at h
  rcases hd with rfl | rfl
  · exact h.1
  · exact h.2
theorem stepF_low (st ct : Nat) (r : List UInt8) : stepF st ct (lowL r) = stepF st ct r := by
  cases r with
  | nil => rfl
  | cons c r =>
    have e : lowL (c :: r) = lowB c :: lowL r := rfl
    have h1 := endsL_low (c :: r) scriptL
    have h2 := begR_low [60, 33, 45, 45] (c :: r)
    have h3 := wordL_low (c :: r) [60]
    have h4 := wordL_low (c :: r) [60, 47]
    rw [e] at h1 h2 h3 h4 ⊢
    simp only [stepF, h1, h2, h3, h4, lowB_eq 45 (.inl rfl), lowB_eq 62 (.inr rfl)]
theorem runF_low (f : Nat) : ∀ st ct r, runF f st ct (lowL r) = runF f st ct r := by
  induction f with
  | zero => intros; rfl
  | succ f ih =>
    intro st ct r
    simp only [runF, stepF_low]
    cases stepF st ct r with
    | none => rfl
    | some x =>
      obtain ⟨n, st', ct'⟩ := x
      simp only [lowL_drop, ih]
theorem findL_low (st ct : Nat) (r : List UInt8) : findL st ct (lowL r) = findL st ct r := by
  unfold findL
  rw [show (lowL r).length = r.length by simp [lowL], runF_low]

theorem begR_app (m : List UInt8) (low : List UInt8) : ∀ r, low.length ≤ r.length → begR (r ++ m) low = begR r low := by
  induction low with
  | nil => intro r _; cases r <;> simp [begR] <;> (cases m <;> rfl)
  | cons d low ih =>
    intro r h
    cases r with
    | nil => simp at h
    | cons c r => simp only [List.cons_append, begR]; rw [ih r (by simpa using h)]
theorem stopAt_app (m r : List UInt8) (h : 0 < r.length) : stopAt (r ++ m) = stopAt r := by
  cases r with
  | nil => simp at h
  | cons c r => rfl
theorem drop_app {r m : List UInt8} {n : Nat} (h : n ≤ r.length) : (r ++ m).drop n = r.drop n ++ m := by
  rw [List.drop_append]; rw [show n - r.length = 0 by omega]; rfl
theorem endsL_app (m r : List UInt8) (h : 9 ≤ r.length) : endsL (r ++ m) scriptL = endsL r scriptL := by
  unfold endsL
  have e : scriptL.length = 6 := rfl
  rw [begR_app m _ r (by simp; omega), drop_app (by omega), begR_app m _ _ (by simp [e]; omega), drop_app (by omega), stopAt_app _ _ (by simp; omega)]
theorem wordL_app (m r o : List UInt8) (h : o.length + 7 ≤ r.length) : wordL (r ++ m) o = wordL r o := by
  unfold wordL
  have e : scriptL.length = 6 := rfl
  rw [begR_app m _ r (by simp; omega), drop_app (by omega), stopAt_app _ _ (by simp; omega)]
theorem stepF_app (m r : List UInt8) (st ct : Nat) (h : 9 ≤ r.length) : stepF st ct (r ++ m) = stepF st ct r := by
  have h1 := endsL_app m r h
  have h2 := begR_app m [60, 33, 45, 45] r (by simp; omega)
  have h3 := wordL_app m r [60] (by simp; omega)
  have h4 := wordL_app m r [60, 47] (by simp; omega)
  cases r with
  | nil => simp at h
  | cons c r =>
    rw [List.cons_append] at h1 h2 h3 h4 ⊢
    simp only [stepF, h1, h2, h3, h4]
theorem endsL_length {r : List UInt8} (h : endsL r scriptL = true) : 9 ≤ r.length := by
  simp only [endsL, Bool.and_eq_true] at h
  have h2 := h.2
  have e : scriptL.length = 6 := rfl
  have : r.drop (2 + scriptL.length) ≠ [] := by intro e'; rw [e'] at h2; simp [stopAt] at h2
  have := List.length_pos_iff.2 this
  simp at this; omega
theorem stepF_none {st ct : Nat} {r : List UInt8} (h : stepF st ct r = none) : r = [] ∨ (st ≠ 2 ∧ endsL r scriptL = true) := by
  cases r with
  | nil => exact .inl rfl
  | cons c r =>
    right
    simp only [stepF] at h
    repeat' split at h
    all_goals first | (cases h; done) | assumption
theorem findL_app (m : List UInt8) (f : Nat) : ∀ st ct r, r.length ≤ f → (findL st ct r).1 < r.length → (findL st ct r).1 + 9 ≤ r.length ∧ findL st ct (r ++ m) = findL st ct r := by
  induction f with
  | zero => intro st ct r h h1; omega
  | succ f ih =>
    intro st ct r h h1
    cases hs : stepF st ct r with
    | none =>
      have e := findL_none hs
      rw [e] at h1 ⊢
      simp only at h1 ⊢
      rcases stepF_none hs with h2 | h2
      · subst h2; simp at h1
      · have h9 := endsL_length h2.2
        exact ⟨by omega, findL_none (by rw [stepF_app m r st ct h9]; exact hs)⟩
    | some x =>
      obtain ⟨n, st', ct'⟩ := x
      have ha := stepF_adv hs
      have e := findL_some hs
      rw [e] at h1 ⊢
      simp only at h1 ⊢
      have := ih st' ct' (r.drop n) (by simp; omega) (by simp; omega)
      simp only [List.length_drop] at this
      refine ⟨by omega, ?_⟩
      rw [findL_some (n := n) (st' := st') (ct' := ct') (by rw [stepF_app m r st ct (by omega)]; exact hs), drop_app ha.2, this.2]

/-! ### plain bytes -/
def plainB (c : UInt8) : Prop := c ≠ 45 ∧ c ≠ 60 ∧ c ≠ 62
theorem lowB_ne60 {c : UInt8} (h : c ≠ 60) : lowB c ≠ 60 := by
  have : ∀ n : Fin 256, (UInt8.ofNat n.val) ≠ 60 → lowB (UInt8.ofNat n.val) ≠ 60 := by decide +kernel
  have h2 := this ⟨c.toNat, c.toNat_lt⟩
  simpa using h2 (by simpa using h)
theorem begR_ne {c : UInt8} {r low : List UInt8} (h : c ≠ 60) : begR (c :: r) (60 :: low) = false := by
  simp [begR, lowB_ne60 h]
theorem endsL_ne {c : UInt8} {r name : List UInt8} (h : c ≠ 60) : endsL (c :: r) name = false := by
  simp [endsL, begR_ne h]
theorem wordL_ne {c : UInt8} {r low : List UInt8} (h : c ≠ 60) : wordL (c :: r) (60 :: low) = false := by
  simp [wordL, begR_ne h]
theorem stepF_plain {st ct : Nat} {c : UInt8} {r : List UInt8} (h : plainB c) (hst : st ≤ 2) : stepF st ct (c :: r) = some (1, st, if st = 0 then ct else 0) := by
  simp only [stepF, endsL_ne h.2.1, begR_ne h.2.1, wordL_ne h.2.1, if_neg h.1, if_neg (show ¬ (c = 62 ∧ 2 ≤ ct) from fun e => h.2.2 e.1)]
  by_cases h0 : st = 0
  · simp [h0]
  · by_cases h1 : st = 1
    · simp [h1]
    · have : st = 2 := by omega
      simp [this]
theorem findL_plain (r : List UInt8) (a : List UInt8) : ∀ st ct, (∀ c ∈ a, plainB c) → st ≤ 2 →
    ∃ ct', (st = 0 ∨ ct = 0 → ct' = ct) ∧ findL st ct (a ++ r) = (a.length + (findL st ct' r).1, (findL st ct' r).2) := by
  induction a with
  | nil => intro st ct _ _; exact ⟨ct, fun _ => rfl, by simp⟩
  | cons c a ih =>
    intro st ct h hst
    obtain ⟨ct', h1, h2⟩ := ih st (if st = 0 then ct else 0) (fun c hc => h c (by simp [hc])) hst
    refine ⟨ct', fun e => ?_, ?_⟩
    · rw [h1]
      · split
        · rfl
        · omega
      · by_cases h0 : st = 0
        · exact .inl h0
        · exact .inr (by simp [h0])
    · rw [List.cons_append, findL_some (stepF_plain (h c (by simp)) hst)]
      simp only [List.drop_succ_cons, List.drop_zero, h2, List.length_cons]
      congr 1; omega
theorem low_33 : lowB 33 = 33 := by decide
theorem low_45 : lowB 45 = 45 := by decide
theorem low_47 : lowB 47 = 47 := by decide
theorem low_60 : lowB 60 = 60 := by decide
theorem low_62 : lowB 62 = 62 := by decide
theorem low_99 : lowB 99 = 99 := by decide
theorem low_105 : lowB 105 = 105 := by decide
theorem low_112 : lowB 112 = 112 := by decide
theorem low_114 : lowB 114 = 114 := by decide
theorem low_115 : lowB 115 = 115 := by decide
theorem low_116 : lowB 116 = 116 := by decide
theorem stops_62 : stops 62 = true := by decide
def openC : List UInt8 := [60, 33, 45, 45]
def openT : List UInt8 := [60, 115, 99, 114, 105, 112, 116, 62]
def closeT : List UInt8 := [60, 47, 115, 99, 114, 105, 112, 116, 62]
def closeC : List UInt8 := [45, 45, 62]
theorem step_openC (ct : Nat) (r : List UInt8) : stepF 0 ct (openC ++ r) = some (4, 1, 2) := by
  simp [stepF, openC, endsL, begR, low_33, low_45, low_47, low_60, low_62, low_99, low_105, low_112, low_114, low_115, low_116, stops_62]
theorem step_openT (ct : Nat) (r : List UInt8) : stepF 1 ct (openT ++ r) = some (8, 2, 0) := by
  simp [stepF, openT, endsL, begR, wordL, scriptL, stopAt, low_33, low_45, low_47, low_60, low_62, low_99, low_105, low_112, low_114, low_115, low_116, stops_62]
theorem step_closeT (ct : Nat) (r : List UInt8) : stepF 2 ct (closeT ++ r) = some (9, 1, 0) := by
  simp [stepF, closeT, endsL, begR, wordL, scriptL, stopAt, low_33, low_45, low_47, low_60, low_62, low_99, low_105, low_112, low_114, low_115, low_116, stops_62]
theorem step_end (st ct : Nat) (h : st ≠ 2) (r : List UInt8) : stepF st ct (closeT ++ r) = none := by
  have : endsL (closeT ++ r) scriptL = true := by simp [closeT, endsL, begR, scriptL, stopAt, low_33, low_45, low_47, low_60, low_62, low_99, low_105, low_112, low_114, low_115, low_116, stops_62]
  simp only [closeT, List.cons_append] at this ⊢
  simp only [stepF, this, if_pos (And.intro h (trivial))]
theorem find_closeC (r : List UInt8) : findL 1 0 (closeC ++ r) = (3 + (findL 0 0 r).1, (findL 0 0 r).2) := by
  have s1 : stepF 1 0 (45 :: 45 :: 62 :: r) = some (1, 1, 1) := by simp [stepF, endsL_ne]
  have s2 : stepF 1 1 (45 :: 62 :: r) = some (1, 1, 2) := by simp [stepF, endsL_ne]
  have s3 : stepF 1 2 (62 :: r) = some (1, 0, 0) := by simp [stepF, endsL_ne]
  show findL 1 0 (45 :: 45 :: 62 :: r) = _
  rw [findL_some s1]; simp only [List.drop_succ_cons, List.drop_zero]
  rw [findL_some s2]; simp only [List.drop_succ_cons, List.drop_zero]
  rw [findL_some s3]; simp only [List.drop_succ_cons, List.drop_zero]
  congr 1; omega
/-- plain text, a comment begun, plain text, a program begun, and then from state 2 on -/
theorem find_in (a b r : List UInt8) (ha : ∀ c ∈ a, plainB c) (hb : ∀ c ∈ b, plainB c) :
    findL 0 0 (a ++ (openC ++ (b ++ (openT ++ (a ++ r))))) = (2 * a.length + b.length + 12 + (findL 2 0 r).1, (findL 2 0 r).2) := by
  obtain ⟨c1, e1, h1⟩ := findL_plain (openC ++ (b ++ (openT ++ (a ++ r)))) a 0 0 ha (by omega)
  have e1' := e1 (.inl rfl); subst e1'
  obtain ⟨c2, _, h2⟩ := findL_plain (openT ++ (a ++ r)) b 1 2 hb (by omega)
  obtain ⟨c3, e3, h3⟩ := findL_plain r a 2 0 ha (by omega)
  have e3' := e3 (.inr rfl); subst e3'
  have d1 : (openC ++ (b ++ (openT ++ (a ++ r)))).drop 4 = b ++ (openT ++ (a ++ r)) := rfl
  have d2 : (openT ++ (a ++ r)).drop 8 = a ++ r := rfl
  rw [h1, findL_some (step_openC _ _), d1, h2, findL_some (step_openT _ _), d2, h3]
  congr 1
  simp only; omega
theorem find_in_end (a b : List UInt8) (ha : ∀ c ∈ a, plainB c) (hb : ∀ c ∈ b, plainB c) :
    findL 0 0 (a ++ (openC ++ (b ++ (openT ++ a)))) = (2 * a.length + b.length + 12, 2) := by
  have := find_in a b [] ha hb
  simpa [findL_none (show stepF 2 0 [] = none from rfl)] using this
theorem find_open (a b t : List UInt8) (ha : ∀ c ∈ a, plainB c) (hb : ∀ c ∈ b, plainB c) :
    findL 0 0 (a ++ (openC ++ (b ++ (openT ++ (a ++ (closeT ++ (b ++ (closeT ++ t)))))))) = (2 * a.length + b.length + 12 + 9 + b.length, 1) := by
  obtain ⟨c2, _, h2⟩ := findL_plain (closeT ++ t) b 1 0 hb (by omega)
  have d : (closeT ++ (b ++ (closeT ++ t))).drop 9 = b ++ (closeT ++ t) := rfl
  rw [find_in a b _ ha hb, findL_some (step_closeT _ _), d, h2, findL_none (step_end 1 _ (by omega) _)]
  congr 1; simp only; omega
theorem find_closed (a b t : List UInt8) (ha : ∀ c ∈ a, plainB c) (hb : ∀ c ∈ b, plainB c) :
    findL 0 0 (a ++ (openC ++ (b ++ (openT ++ (a ++ (closeT ++ (b ++ (closeC ++ (closeT ++ t))))))))) = (2 * a.length + b.length + 12 + 9 + b.length + 3, 0) := by
  obtain ⟨c2, e2, h2⟩ := findL_plain (closeC ++ (closeT ++ t)) b 1 0 hb (by omega)
  have e2' := e2 (.inr rfl); subst e2'
  have d : (closeT ++ (b ++ (closeC ++ (closeT ++ t)))).drop 9 = b ++ (closeC ++ (closeT ++ t)) := rfl
  rw [find_in a b _ ha hb, findL_some (step_closeT _ _), d, h2, find_closeC, findL_none (step_end 0 _ (by omega) _)]
  congr 1; simp only; omega
end Go.Proofs.YtppaobgccdlccaaDoor.Pl
