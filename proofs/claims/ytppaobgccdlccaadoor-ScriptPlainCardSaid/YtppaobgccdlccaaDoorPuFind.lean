/-
  script.Find and the document's own Find: both are findL.
-/
import Derived.Test.YtppaobgccdlccaaDoorPuSign
import Derived.Test.YtppaobgccdlccaaDoorPuRef
import Derived.Test.YtppaobgccdlccaaDoorHaFind
namespace Go.Proofs.YtppaobgccdlccaaDoor.Pure
open Go Go.RowKit Go.Proofs.YtppaobgccdlccaaDoor.Hand Go.Proofs.YtppaobgccdlccaaDoor.Sa Go.Proofs.YtppaobgccdlccaaDoor.Sr Go.Proofs.YtppaobgccdlccaaDoorW.PrintWords Go.Proofs.YtppaobgccdlccaaDoorW.PrintMore Go.Proofs.YtppaobgccdlccaaDoor.Pl Go.Proofs.YtppaobgccdlccaaDoor.Pb

theorem ends_ev (s name : List UInt8) (n : Nat) (hs : s.length ≤ 1000000) (hl : name.length ≤ 1000000) (hn : n ≤ s.length) :
    Ev (fun k => raw_Ends.f k (B s) (n : Int) (B name)) (endsL (s.drop n) name) :=
  Ev.step (f := fun _ => some (endsL (s.drop n) name)) (fun k => ends_f k s name n hs hl hn) (Ev.now _)
theorem word_ev (s opens : List UInt8) (n : Nat) (hs : s.length ≤ 1000000) (hl : opens.length ≤ 1000) (hn : n ≤ s.length) :
    Ev (fun k => script_word.f k (B s) (n : Int) (B opens)) (if wordL (s.drop n) opens = true then ((opens.length + 7 : Nat) : Int) else 0) :=
  Ev.step (f := fun _ => some (if wordL (s.drop n) opens = true then ((opens.length + 7 : Nat) : Int) else 0)) (fun k => word_f k s opens n hs hl hn) (Ev.now _)

def stepM (st ct : Nat) (r : List UInt8) (c : UInt8) : Nat × Nat × Nat :=
  if c = 45 then (1, st, ct + 1) else if c = 62 ∧ 2 ≤ ct then (1, 0, 0)
  else if st = 1 then (if wordL r [60] = true then (8, 2, 0) else (1, 1, 0)) else (if wordL r [60, 47] = true then (9, 1, 0) else (1, 2, 0))
theorem stepF_M {st ct : Nat} {r : List UInt8} {c : UInt8} (h0 : st ≠ 0) (he : ¬(st ≠ 2 ∧ endsL (c :: r) scriptL = true)) :
    stepF st ct (c :: r) = some (stepM st ct (c :: r) c) := by
  simp only [stepF, stepM, if_neg he, if_neg h0]
  repeat' split
  all_goals rfl
theorem stepM_ok (st ct n : Nat) (r : List UInt8) (c : UInt8) (hct : ct ≤ n) (h2 : st ≤ 2) : (stepM st ct r c).2.2 ≤ n + (stepM st ct r c).1 ∧ (stepM st ct r c).2.1 ≤ 2 := by
  unfold stepM
  repeat' split
  all_goals simp only [] ; omega

theorem m_ev {s : List UInt8} {n : Nat} {c : UInt8} {r : List UInt8} {st ct : Nat} {L : Nat → Int → Int → Int → Option (Int × Int)} {v : Int × Int}
    (hs : s.length ≤ 1000000) (hr : s.drop n = c :: r) (hst : st = 1 ∨ st = 2) (hct : ct ≤ n)
    (h : Ev (fun k => L k ((n + (stepM st ct (c :: r) c).1 : Nat) : Int) ((stepM st ct (c :: r) c).2.1 : Int) ((stepM st ct (c :: r) c).2.2 : Int)) v) :
    Ev (fun k => script_Find.m k (L k) (B s) (n : Int) (st : Int) (ct : Int)) v := by
  have hlt := drop_lt hr
  unfold script_Find.m
  simp only [if_pos (show (0 : Int) ≤ (n : Int) by omega), if_pos (show (n : Int) < ((B s).size : Int) by simp; omega), bt_drop s n c r hr, u45, u62]
  have w1 : wrap64 ((n : Int) + 1) = ((n + 1 : Nat) : Int) := wrap_nat _ (by omega)
  have w2 : wrap64 ((ct : Int) + 1) = ((ct + 1 : Nat) : Int) := wrap_nat _ (by omega)
  simp only [w1, w2]
  unfold stepM at h
  by_cases h45 : c = 45
  · simp only [if_pos h45] at h ⊢; exact h
  · by_cases h62 : c = 62 ∧ 2 ≤ ct
    · have h62' : c = 62 ∧ (2 : Int) ≤ (ct : Int) := ⟨h62.1, by omega⟩
      simp only [if_neg h45, if_pos h62] at h
      simp only [if_neg h45, if_pos h62']
      exact h
    · have h62' : ¬ (c = 62 ∧ (2 : Int) ≤ (ct : Int)) := fun e => h62 ⟨e.1, by omega⟩
      simp only [if_neg h45, if_neg h62] at h
      simp only [if_neg h45, if_neg h62']
      rcases hst with rfl | rfl
      · simp only [if_true] at h
        simp only [show (((1 : Nat) : Int) = 1) = True by simp, if_true]
        refine Ev.bind (word_ev s [60] n hs (by simp) (by omega)) ?_
        rw [hr]
        cases hw : wordL (c :: r) [60] with
        | true =>
          simp only [hw, if_true] at h
          simp only [if_true, show (((([60] : List UInt8).length + 7 : Nat) : Int) > 0) by decide]
          have w : wrap64 ((n : Int) + ((([60] : List UInt8).length + 7 : Nat) : Int)) = ((n + 8 : Nat) : Int) := by simp only [List.length_cons, List.length_nil]; unfold wrap64; omega
          simp only [w]; exact h
        | false =>
          simp only [hw, Bool.false_eq_true, if_false] at h
          simp only [Bool.false_eq_true, if_false, show ¬ ((0 : Int) > 0) by omega]
          exact h
      · simp only [show ((2 : Nat) = 1) = False by simp, if_false] at h
        simp only [show (((2 : Nat) : Int) = 1) = False by simp, show (((2 : Nat) : Int) = 2) = True by simp, if_true, if_false]
        refine Ev.bind (word_ev s [60, 47] n hs (by simp) (by omega)) ?_
        rw [hr]
        cases hw : wordL (c :: r) [60, 47] with
        | true =>
          simp only [hw, if_true] at h
          simp only [if_true, show (((([60, 47] : List UInt8).length + 7 : Nat) : Int) > 0) by decide]
          have w : wrap64 ((n : Int) + ((([60, 47] : List UInt8).length + 7 : Nat) : Int)) = ((n + 9 : Nat) : Int) := by simp only [List.length_cons, List.length_nil]; unfold wrap64; omega
          simp only [w]; exact h
        | false =>
          simp only [hw, Bool.false_eq_true, if_false] at h
          simp only [Bool.false_eq_true, if_false, show ¬ ((0 : Int) > 0) by omega]
          exact h

def findV (s : List UInt8) (n st ct : Nat) : Int × Int := (((n + (findL st ct (s.drop n)).1 : Nat) : Int), ((findL st ct (s.drop n)).2 : Int))
theorem findV_none {s : List UInt8} {n st ct : Nat} (h : stepF st ct (s.drop n) = none) : findV s n st ct = ((n : Int), (st : Int)) := by
  unfold findV; rw [findL_none h]; simp
theorem findV_some {s : List UInt8} {n st ct a st' ct' : Nat} (h : stepF st ct (s.drop n) = some (a, st', ct')) : findV s n st ct = findV s (n + a) st' ct' := by
  unfold findV; rw [findL_some h, List.drop_drop]; simp only [Nat.add_assoc]

theorem find_l (s : List UInt8) (hs : s.length ≤ 1000000) : ∀ m n st ct : Nat, s.length - n ≤ m → n ≤ s.length → ct ≤ n → st ≤ 2 →
    Ev (fun k => script_Find.l k (B s) (n : Int) (st : Int) (ct : Int)) (findV s n st ct) := by
  intro m
  induction m with
  | zero =>
    intro n st ct hm hn hct hst
    have : s.drop n = [] := List.drop_eq_nil_of_le (by omega)
    rw [findV_none (by rw [this]; rfl)]
    refine Ev.step (f := fun _ => some ((n : Int), (st : Int))) (fun k => ?_) (Ev.now _)
    rw [script_Find.l, if_pos (by simp; omega)]
  | succ m ih =>
    intro n st ct hm hn hct hst
    cases hr : s.drop n with
    | nil =>
      have := drop_nil hr
      rw [findV_none (by rw [hr]; rfl)]
      refine Ev.step (f := fun _ => some ((n : Int), (st : Int))) (fun k => ?_) (Ev.now _)
      rw [script_Find.l, if_pos (by simp; omega)]
    | cons c r =>
      have hlt := drop_lt hr
      have hgo : ∀ a st' ct' : Nat, stepF st ct (s.drop n) = some (a, st', ct') → ct' ≤ n + a → st' ≤ 2 →
          Ev (fun k => script_Find.l k (B s) ((n + a : Nat) : Int) (st' : Int) (ct' : Int)) (findV s n st ct) := by
        intro a st' ct' h1 h2 h3
        have ha := stepF_adv h1
        simp only [List.length_drop] at ha
        rw [findV_some h1]
        exact ih (n + a) st' ct' (by omega) (by omega) h2 h3
      have hM : st ≠ 0 → ¬(st ≠ 2 ∧ endsL (c :: r) scriptL = true) → Ev (fun k => script_Find.m k (script_Find.l k (B s)) (B s) (n : Int) (st : Int) (ct : Int)) (findV s n st ct) := by
        intro h0 he
        have hok := stepM_ok st ct n (c :: r) c hct hst
        exact m_ev (L := fun k => script_Find.l k (B s)) hs hr (by omega) hct (hgo _ _ _ (by rw [hr]; exact stepF_M h0 he) hok.1 hok.2)
      by_cases h2 : st = 2
      · subst h2
        refine Ev.step (fun k => ?_) (hM (by omega) (by simp))
        rw [script_Find.l, if_neg (by simp; omega), if_pos (by rfl)]
      · have hstep : ∀ k, script_Find.l (k + 1) (B s) (n : Int) (st : Int) (ct : Int) = (raw_Ends.f k (B s) (n : Int) (B scriptL)).bind fun e =>
            if e = true then some ((n : Int), (st : Int))
            else if (st : Int) = 0 then (sign_Begins.f (B s) (n : Int) (B [60, 33, 45, 45])).bind fun b => if b = true then script_Find.l k (B s) (wrap64 ((n : Int) + 4)) 1 2 else script_Find.l k (B s) (wrap64 ((n : Int) + 1)) 0 (ct : Int)
            else script_Find.m k (script_Find.l k (B s)) (B s) (n : Int) (st : Int) (ct : Int) := by
          intro k
          rw [script_Find.l, if_neg (by simp; omega), if_neg (by omega)]; rfl
        refine Ev.step hstep (Ev.bind (ends_ev s scriptL n hs (by simp [scriptL]) hn) ?_)
        rw [hr]
        cases he : endsL (c :: r) scriptL with
        | true =>
          simp only [if_true]
          rw [findV_none (by rw [hr]; simp only [stepF, if_pos (And.intro h2 he)])]
          exact Ev.now _
        | false =>
          have hne : ¬ (st ≠ 2 ∧ endsL (c :: r) scriptL = true) := by rw [he]; simp
          simp only [Bool.false_eq_true, if_false]
          by_cases h0 : st = 0
          · subst h0
            simp only [show (((0 : Nat) : Int) = 0) = True by simp, if_true, begins_f s [60, 33, 45, 45] n hs (by simp) hn, Option.bind_some, hr]
            have w4 : wrap64 ((n : Int) + 4) = ((n + 4 : Nat) : Int) := by unfold wrap64; omega
            have w1 : wrap64 ((n : Int) + 1) = ((n + 1 : Nat) : Int) := by unfold wrap64; omega
            cases hb : begR (c :: r) [60, 33, 45, 45] with
            | true =>
              simp only [if_true, w4]
              exact hgo 4 1 2 (by rw [hr]; simp only [stepF, if_neg hne, hb, if_true]) (by omega) (by omega)
            | false =>
              simp only [Bool.false_eq_true, if_false, w1]
              exact hgo 1 0 ct (by rw [hr]; simp only [stepF, if_neg hne, hb, Bool.false_eq_true, if_false, if_true]) (by omega) (by omega)
          · simp only [show ((st : Int) = 0) = False by simp; omega, if_false]
            exact hM h0 hne
/-- the place to begin at: within the text -/
def clampN (n : Nat) (at_ : Int) : Nat := if at_ < 0 then 0 else if (n : Int) < at_ then n else at_.toNat
theorem clampN_le (n : Nat) (a : Int) : clampN n a ≤ n := by unfold clampN; split <;> (try split) <;> omega
theorem clampN_1 (n : Nat) (a : Int) : mn (mx a 0) (n : Int) = (clampN n a : Int) := by
  unfold clampN mn mx
  repeat' split
  all_goals omega
theorem clampN_2 (n : Nat) (a : Int) : mx 0 (mn a (n : Int)) = (clampN n a : Int) := by
  unfold clampN mn mx
  repeat' split
  all_goals omega
theorem find_f (s : List UInt8) (hs : s.length ≤ 1000000) (a : Int) : Ev (fun k => script_Find.f k (B s) a) (findV s (clampN s.length a) 0 0) := by
  unfold script_Find.f
  simp only [size_B, clampN_1]
  exact find_l s hs _ _ 0 0 (Nat.le_refl _) (clampN_le _ _) (by omega) (by omega)
end Go.Proofs.YtppaobgccdlccaaDoor.Pure
