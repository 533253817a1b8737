/-
  The document's own Find is findL too.
-/
import Derived.Test.YtppaobgccdlccaaDoorPuFind
namespace Go.Proofs.YtppaobgccdlccaaDoor.Pure
open Go Go.RowKit Go.Proofs.YtppaobgccdlccaaDoor.Hand Go.Proofs.YtppaobgccdlccaaDoor.Sa Go.Proofs.YtppaobgccdlccaaDoor.Sr Go.Proofs.YtppaobgccdlccaaDoorW.PrintWords Go.Proofs.YtppaobgccdlccaaDoorW.PrintMore Go.Proofs.YtppaobgccdlccaaDoor.Pl Go.Proofs.YtppaobgccdlccaaDoor.Pb

theorem lowB_60 (c : UInt8) (h : lowB c = 60) : c = 60 := by
  have : ∀ n : Fin 256, lowB (UInt8.ofNat n.val) = 60 → (UInt8.ofNat n.val) = 60 := by decide +kernel
  have h2 := this ⟨c.toNat, c.toNat_lt⟩
  simpa using h2 (by simpa using h)
theorem endsL_60 {c : UInt8} {r name : List UInt8} (h : endsL (c :: r) name = true) : c = 60 := by
  simp only [endsL, begR, Bool.and_eq_true, beq_iff_eq] at h
  exact lowB_60 c h.1.1.2.1

section
variable {s : List UInt8} {n : Nat} {c : UInt8} {r : List UInt8} {v : Int × Int}
theorem j5_ev {st : Nat} (hs : s.length ≤ 1000000) (hlt : n < s.length) (x11 x81 : Bool)
    (h : Ev (fun k => if x81 = true then flailref13_Find.l0 k (B s) 2 0 ((n + 8 : Nat) : Int) else if st = 2 then (if x11 = true then flailref13_Find.l0 k (B s) 1 0 ((n + 9 : Nat) : Int) else flailref13_Find.l0 k (B s) (st : Int) 0 ((n + 1 : Nat) : Int)) else flailref13_Find.l0 k (B s) (st : Int) 0 ((n + 1 : Nat) : Int)) v) :
    Ev (fun k => flailref13_Find.j5 k (B s) (st : Int) (n : Int) x11 x81) v := by
  refine Ev.step (fun k => ?_) h
  have w1 : wrap64 ((n : Int) + 1) = ((n + 1 : Nat) : Int) := by unfold wrap64; omega
  have w8 : wrap64 ((n : Int) + 8) = ((n + 8 : Nat) : Int) := by unfold wrap64; omega
  have w9 : wrap64 ((n : Int) + 9) = ((n + 9 : Nat) : Int) := by unfold wrap64; omega
  have e : ((st : Int) = 2) = (st = 2) := propext (by omega)
  rw [flailref13_Find.j5]
  simp only [w1, w8, w9, e]

theorem ref_l (s : List UInt8) (hs : s.length ≤ 1000000) : ∀ m n st ct : Nat, s.length - n ≤ m → n ≤ s.length → ct ≤ n → st ≤ 2 →
    Ev (fun k => flailref13_Find.l0 k (B s) (st : Int) (ct : Int) (n : Int)) (findV s n st ct) := by
  intro m
  induction m with
  | zero =>
    intro n st ct hm hn hct hst
    have : s.drop n = [] := List.drop_eq_nil_of_le (by omega)
    rw [findV_none (by rw [this]; rfl)]
    refine Ev.step (f := fun _ => some ((n : Int), (st : Int))) (fun k => ?_) (Ev.now _)
    rw [flailref13_Find.l0, if_neg (by simp; omega)]
  | succ m ih =>
    intro n st ct hm hn hct hst
    cases hr : s.drop n with
    | nil =>
      have := drop_nil hr
      rw [findV_none (by rw [hr]; rfl)]
      refine Ev.step (f := fun _ => some ((n : Int), (st : Int))) (fun k => ?_) (Ev.now _)
      rw [flailref13_Find.l0, if_neg (by simp; omega)]
    | cons c r =>
      have hlt := drop_lt hr
      have hgo : ∀ a st' ct' : Nat, stepF st ct (c :: r) = some (a, st', ct') → ct' ≤ n + a → st' ≤ 2 →
          Ev (fun k => flailref13_Find.l0 k (B s) (st' : Int) (ct' : Int) ((n + a : Nat) : Int)) (findV s n st ct) := by
        intro a st' ct' h1 h2 h3
        rw [← hr] at h1
        have ha := stepF_adv h1
        simp only [List.length_drop] at ha
        rw [findV_some h1]
        exact ih (n + a) st' ct' (by omega) (by omega) h2 h3
      have hstop : stepF st ct (c :: r) = none → findV s n st ct = ((n : Int), (st : Int)) := fun h => findV_none (by rw [hr]; exact h)
      have w1 : wrap64 ((n : Int) + 1) = ((n + 1 : Nat) : Int) := by unfold wrap64; omega
      have w4 : wrap64 ((n : Int) + 4) = ((n + 4 : Nat) : Int) := by unfold wrap64; omega
      have wc : wrap64 ((ct : Int) + 1) = ((ct + 1 : Nat) : Int) := by unfold wrap64; omega
      have e0 : ((st : Int) = 0) = (st = 0) := propext (by omega)
      have e1 : ((st : Int) = 1) = (st = 1) := propext (by omega)
      have e2 : ((st : Int) = 2) = (st = 2) := propext (by omega)
      have hstep : ∀ k, flailref13_Find.l0 (k + 1) (B s) (st : Int) (ct : Int) (n : Int) = (flailref12_Ends.f k (B s) (n : Int) (B scriptL)).bind fun t120 => ((flailref13_word.f k (B s) (n : Int) (B [60])).bind fun t121 => ((flailref13_word.f k (B s) (n : Int) (B [60, 47])).bind fun t122 => (if st = 0 then (flailref13_Find.j1 k (B s) (st : Int) (ct : Int) (n : Int) t120 t121 t122 t120) else (flailref13_Find.j1 k (B s) (st : Int) (ct : Int) (n : Int) t120 t121 t122 false)))) := by
        intro k
        rw [flailref13_Find.l0, if_pos (by simp; omega)]
        simp only [e0]; rfl
      refine Ev.step hstep (Ev.bind (refEnds s scriptL n hs (by simp [scriptL]) hn) (Ev.bind (refWord s [60] n hs (by simp) hn) (Ev.bind (refWord s [60, 47] n hs (by simp) hn) ?_)))
      rw [hr]
      by_cases h0 : st = 0
      · subst h0
        simp only [if_true]
        cases he : endsL (c :: r) scriptL with
        | true =>
          rw [hstop (by simp [stepF, he])]
          exact Ev.step (f := fun _ => some ((n : Int), 0)) (fun k => by rw [flailref13_Find.j1, if_pos rfl]) (Ev.now _)
        | false =>
          refine Ev.step (f := fun k => (flailref03_Begins.f k (B s) (n : Int) (B [60, 33, 45, 45])).bind fun t123 => (flailref13_Find.j2 k (B s) 0 (ct : Int) (n : Int) false (wordL (c :: r) [60]) (wordL (c :: r) [60, 47]) t123)) (fun k => by rw [flailref13_Find.j1, if_neg (by simp), if_pos (show ((0 : Nat) : Int) = 0 from rfl)]; rfl) (Ev.bind (refBegins s [60, 33, 45, 45] n hs (by simp) hn) ?_)
          rw [hr]
          cases hb : begR (c :: r) [60, 33, 45, 45] with
          | true =>
            refine Ev.step (fun k => ?_) (hgo 4 1 2 (by simp [stepF, he, hb]) (by omega) (by omega))
            rw [flailref13_Find.j2, if_pos rfl, w4]; rfl
          | false =>
            refine Ev.step (fun k => ?_) (hgo 1 0 ct (by simp [stepF, he, hb]) (by omega) (by omega))
            rw [flailref13_Find.j2, if_neg (by simp), if_pos (show (0 : Int) = 0 from rfl), w1]; rfl
      · simp only [h0, if_false]
        refine Ev.step (f := fun k => flailref13_Find.j2 k (B s) (st : Int) (ct : Int) (n : Int) (endsL (c :: r) scriptL) (wordL (c :: r) [60]) (wordL (c :: r) [60, 47]) false) (fun k => by rw [flailref13_Find.j1, if_neg (by simp), if_neg (by omega)]) ?_
        by_cases h45 : c = 45
        · have hne : ¬ (st ≠ 2 ∧ endsL (c :: r) scriptL = true) := fun e => by have := endsL_60 e.2; subst h45; exact absurd this (by decide)
          refine Ev.step (fun k => ?_) (hgo 1 st (ct + 1) (by simp only [stepF, if_neg hne, if_neg h0, if_pos h45]) (by omega) hst)
          rw [flailref13_Find.j2, if_neg (by simp), if_neg (by omega), if_pos (by omega), if_pos (by simp; omega), bt_drop s n c r hr, if_pos (by rw [u45]; exact h45), wc, w1]
        · -- the two places at which the strokes are looked at
          have hj3 : Ev (fun k => flailref13_Find.j3 k (B s) (st : Int) (n : Int) (endsL (c :: r) scriptL) (wordL (c :: r) [60]) (wordL (c :: r) [60, 47]) (decide (c = 62 ∧ 2 ≤ ct))) (findV s n st ct) := by
            by_cases h62 : c = 62 ∧ 2 ≤ ct
            · have hne : ¬ (st ≠ 2 ∧ endsL (c :: r) scriptL = true) := fun e => by have := endsL_60 e.2; rw [h62.1] at this; exact absurd this (by decide)
              refine Ev.step (fun k => ?_) (hgo 1 0 0 (by simp only [stepF, if_neg hne, if_neg h0, if_neg h45, if_pos h62]) (by omega) (by omega))
              rw [flailref13_Find.j3, if_pos (by simpa using h62), w1]; rfl
            · by_cases h1 : st = 1
              · subst h1
                refine Ev.step (f := fun k => flailref13_Find.j4 k (B s) 1 (n : Int) (wordL (c :: r) [60]) (wordL (c :: r) [60, 47]) (endsL (c :: r) scriptL)) (fun k => by rw [flailref13_Find.j3, if_neg (by simpa using h62), if_pos (show ((1 : Nat) : Int) = 1 from rfl)]; rfl) ?_
                cases he : endsL (c :: r) scriptL with
                | true =>
                  rw [hstop (by simp [stepF, he])]
                  exact Ev.step (f := fun _ => some ((n : Int), 1)) (fun k => by rw [flailref13_Find.j4, if_pos rfl]) (Ev.now _)
                | false =>
                  refine Ev.step (f := fun k => flailref13_Find.j5 k (B s) 1 (n : Int) (wordL (c :: r) [60, 47]) (wordL (c :: r) [60])) (fun k => by rw [flailref13_Find.j4, if_neg (by simp), if_pos (show (1 : Int) = 1 from rfl)]) (j5_ev (st := 1) hs hlt _ _ ?_)
                  cases hw : wordL (c :: r) [60] with
                  | true =>
                    simp only [if_true]
                    exact hgo 8 2 0 (by simp only [stepF, he, if_neg h45, if_neg h62, hw]; simp) (by omega) (by omega)
                  | false =>
                    simp only [Bool.false_eq_true, if_false, show ((1 : Nat) = 2) = False by simp]
                    exact hgo 1 1 0 (by simp only [stepF, he, if_neg h45, if_neg h62, hw]; simp) (by omega) (by omega)
              · obtain rfl : st = 2 := by omega
                refine Ev.step (f := fun k => flailref13_Find.j4 k (B s) 2 (n : Int) (wordL (c :: r) [60]) (wordL (c :: r) [60, 47]) false) (fun k => by rw [flailref13_Find.j3, if_neg (by simpa using h62), if_neg (by decide)]; rfl) ?_
                refine Ev.step (f := fun k => flailref13_Find.j5 k (B s) 2 (n : Int) (wordL (c :: r) [60, 47]) false) (fun k => by rw [flailref13_Find.j4, if_neg (by simp), if_neg (by decide)]) (j5_ev (st := 2) hs hlt _ _ ?_)
                cases hw : wordL (c :: r) [60, 47] with
                | true =>
                  simp only [if_true, Bool.false_eq_true, if_false]
                  exact hgo 9 1 0 (by simp only [stepF, if_neg h45, if_neg h62, hw]; simp) (by omega) (by omega)
                | false =>
                  simp only [if_true, Bool.false_eq_true, if_false]
                  exact hgo 1 2 0 (by simp only [stepF, if_neg h45, if_neg h62, hw]; simp) (by omega) (by omega)
          refine Ev.step (fun k => ?_) hj3
          rw [flailref13_Find.j2, if_neg (by simp), if_neg (by omega), if_pos (by omega), if_pos (by simp; omega), bt_drop s n c r hr, if_neg (by rw [u45]; exact h45)]
          by_cases h62 : c = 62
          · rw [if_pos (by rw [u62]; exact h62)]
            congr 1
            simp [h62]; omega
          · rw [if_neg (by rw [u62]; exact h62)]
            congr 1
            simp [h62]
end
theorem ref_f (s : List UInt8) (hs : s.length ≤ 1000000) (a : Int) : Ev (fun k => flailref13_Find.f k (B s) a) (findV s (clampN s.length a) 0 0) := by
  unfold flailref13_Find.f
  simp only [size_B, clampN_2]
  exact ref_l s hs _ _ 0 0 (Nat.le_refl _) (clampN_le _ _) (by omega) (by omega)
end Go.Proofs.YtppaobgccdlccaaDoor.Pure
