/-
  ScriptFinds, ScriptCase, ScriptRest, ScriptWithin: what the walks need.
-/
import Derived.Test.YtppaobgccdlccaaDoorPuFind2
import Derived.Test.YtppaobgccdlccaaDoorPlF
import Derived.Test.YtppaobgccdlccaaDoorLs
namespace Go.Proofs.YtppaobgccdlccaaDoor.Pure
open Go Go.RowKit Go.Proofs.YtppaobgccdlccaaDoor.Hand Go.Proofs.YtppaobgccdlccaaDoor.Sa Go.Proofs.YtppaobgccdlccaaDoor.Sr Go.Proofs.YtppaobgccdlccaaDoor.Ls Go.Proofs.YtppaobgccdlccaaDoorW.PrintWords Go.Proofs.YtppaobgccdlccaaDoorW.PrintMore Go.Proofs.YtppaobgccdlccaaDoor.Pl Go.Proofs.YtppaobgccdlccaaDoor.Pb

theorem clampN_zero (n : Nat) : clampN n 0 = 0 := by
  unfold clampN
  repeat' split
  all_goals omega
theorem clampN_in (n m : Nat) (h : m ≤ n) : clampN n (m : Int) = m := by
  unfold clampN
  repeat' split
  all_goals omega
theorem text_f (l : List UInt8) (h : l.length ≤ 1000000000) : script_Text.f (B l) = some (B (cleanL l)) := by
  unfold script_Text.f; rw [clean_f l h, Option.bind_some]
theorem awake_ev : Ev (fun k => flaillaw13_awake.f k) true := by
  unfold flaillaw13_awake.f
  refine Ev.bind (find_f [97, 60, 47, 115, 99, 114, 105, 112, 116, 62] (by simp) 0) ?_
  refine Ev.bind (find_f [60, 33, 45, 45, 60, 115, 99, 114, 105, 112, 116, 62, 60, 47, 115, 99, 114, 105, 112, 116, 62, 45, 45, 62, 60, 47, 115, 99, 114, 105, 112, 116, 62] (by simp) 0) ?_
  rw [show findV [97, 60, 47, 115, 99, 114, 105, 112, 116, 62] (clampN ([97, 60, 47, 115, 99, 114, 105, 112, 116, 62] : List UInt8).length 0) 0 0 = (1, 0) by decide +kernel,
    show findV [60, 33, 45, 45, 60, 115, 99, 114, 105, 112, 116, 62, 60, 47, 115, 99, 114, 105, 112, 116, 62, 45, 45, 62, 60, 47, 115, 99, 114, 105, 112, 116, 62] (clampN ([60, 33, 45, 45, 60, 115, 99, 114, 105, 112, 116, 62, 60, 47, 115, 99, 114, 105, 112, 116, 62, 45, 45, 62, 60, 47, 115, 99, 114, 105, 112, 116, 62] : List UInt8).length 0) 0 0 = (24, 0) by decide +kernel]
  simp only [if_true]
  have : script_Text.f ⟨#[97, 0]⟩ = some (B (cleanL [97, 0])) := text_f [97, 0] (by simp)
  rw [this, Option.bind_some, toList_B, show (cleanL [97, 0] == [97, 239, 191, 189]) = true by decide]
  exact Ev.now _

theorem ScriptFinds : flaillaw13_ScriptFinds.Pure := by
  intro a0 a1 ha _
  obtain ⟨s, rfl⟩ := exists_B a0
  refine Ev.rounds (?_ : Ev (fun k => flaillaw13_ScriptFinds.f k (B s) a1) true)
  unfold flaillaw13_ScriptFinds.f
  refine Ev.bind awake_ev ?_
  by_cases h : s.length > 300
  · simp only [if_pos (show ((B s).size : Int) > 300 by simp; omega)]; exact Ev.now _
  · simp only [if_neg (show ¬ ((B s).size : Int) > 300 by simp; omega)]
    refine Ev.bind (find_f s (by omega) a1) (Ev.bind (ref_f s (by omega) a1) ?_)
    simp only [if_true, text_f s (by omega), Option.bind_some]
    refine Ev.bind (refClean s (by omega)) ?_
    simp only [BEq.rfl]
    exact Ev.now _

theorem cleanL_length (l : List UInt8) : l.length ≤ (cleanL l).length := by
  induction l with
  | nil => simp
  | cons c l ih =>
    have e : cleanL (c :: l) = cleanB c ++ cleanL l := rfl
    have : 1 ≤ (cleanB c).length := by unfold cleanB; split <;> simp
    rw [e]; simp; omega
theorem findV_low (s : List UInt8) (n st ct : Nat) : findV (lowL s) n st ct = findV s n st ct := by
  unfold findV; rw [lowL_drop, findL_low]
theorem ScriptCase : flaillaw13_ScriptCase.Pure := by
  intro a0 a1 ha _
  obtain ⟨s, rfl⟩ := exists_B a0
  refine Ev.rounds (?_ : Ev (fun k => flaillaw13_ScriptCase.f k (B s) a1) true)
  unfold flaillaw13_ScriptCase.f
  refine Ev.bind awake_ev ?_
  by_cases h : s.length > 300
  · simp only [if_pos (show ((B s).size : Int) > 300 by simp; omega)]; exact Ev.now _
  · simp only [if_neg (show ¬ ((B s).size : Int) > 300 by simp; omega)]
    have w : wrap64 (((B s).size : Int) + 1) = ((s.length + 1 : Nat) : Int) := by rw [size_B]; unfold wrap64; omega
    simp only [w, if_neg (show ¬ ((s.length + 1 : Nat) : Int) = 0 by omega)]
    generalize Int.tmod (wrap64 a1) ((s.length + 1 : Nat) : Int) = a
    refine Ev.bind (find_f s (by omega) a) ?_
    simp only [lower_f s (by omega), Option.bind_some]
    have hl : (lowL s).length = s.length := by simp [lowL]
    refine Ev.bind (find_f (lowL s) (by omega) a) ?_
    rw [findV_low, hl]
    simp only [if_true, text_f s (by omega), Option.bind_some]
    have := cleanL_length s
    rw [show decide (((B (cleanL s)).size : Int) ≥ ((B s).size : Int)) = true by simp; omega]
    exact Ev.now _

theorem drop_len (a s : List UInt8) : (a ++ s).drop a.length = s := by simp
theorem ScriptRest : flaillaw13_ScriptRest.Pure := by
  intro a0 a1 a2 _ _ _
  obtain ⟨a, rfl⟩ := exists_B a0
  obtain ⟨s, rfl⟩ := exists_B a1
  obtain ⟨m, rfl⟩ := exists_B a2
  refine Ev.rounds (?_ : Ev (fun k => flaillaw13_ScriptRest.f k (B a) (B s) (B m)) true)
  unfold flaillaw13_ScriptRest.f
  refine Ev.bind awake_ev ?_
  have jt : Ev (fun k => flaillaw13_ScriptRest.j0 k (B a) (B s) (B m) true true) true :=
    Ev.step (f := fun _ => some true) (fun k => by rw [flaillaw13_ScriptRest.j0, if_pos rfl]) (Ev.now _)
  by_cases h1 : a.length > 300
  · simp only [if_pos (show ((B a).size : Int) > 300 by simp; omega)]; exact jt
  · simp only [if_neg (show ¬ ((B a).size : Int) > 300 by simp; omega)]
    by_cases h2 : s.length > 300
    · simp only [if_pos (show ((B s).size : Int) > 300 by simp; omega)]; exact jt
    · simp only [if_neg (show ¬ ((B s).size : Int) > 300 by simp; omega)]
      by_cases h3 : m.length > 300
      · rw [show decide (((B m).size : Int) > 300) = true by simp; omega]; exact jt
      · rw [show decide (((B m).size : Int) > 300) = false by simp; omega]
        have hstep : ∀ k, flaillaw13_ScriptRest.j0 (k + 1) (B a) (B s) (B m) true false = (script_Find.f k (B s) 0).bind fun bt124 => (script_Find.f k (B (a ++ s)) (a.length : Int)).bind fun bt126 => (if bt126.1 = (wrap64 ((a.length : Int) + bt124.1)) then (flaillaw13_ScriptRest.j1 k (B s) (B m) true bt124.1 bt124.2 (bt126.2 != bt124.2)) else (flaillaw13_ScriptRest.j1 k (B s) (B m) true bt124.1 bt124.2 true)) := by
          intro k
          rw [flaillaw13_ScriptRest.j0, if_neg (by simp)]
          simp only [B_append, size_B, if_pos (show a.length + s.length ≤ 9223372036854775807 by omega)]
        have c0 := clampN_zero s.length
        have c1 := clampN_in (a ++ s).length a.length (by simp)
        have c2 := clampN_zero (s ++ m).length
        have f1 := find_f s (by omega) 0
        have f2 := find_f (a ++ s) (by simp; omega) (a.length : Int)
        have f3 := find_f (s ++ m) (by simp; omega) 0
        rw [c0] at f1; rw [c1] at f2; rw [c2] at f3
        refine Ev.step hstep (Ev.bind f1 (Ev.bind f2 ?_))
        have hle : (findL 0 0 s).1 ≤ s.length := by
          have : ∀ f st ct r, r.length ≤ f → (findL st ct r).1 ≤ r.length := by
            intro f
            induction f with
            | zero =>
              intro st ct r h
              obtain rfl : r = [] := List.eq_nil_of_length_eq_zero (by omega)
              simp [findL_none (show stepF st ct [] = none from rfl)]
            | succ f ih =>
              intro st ct r h
              cases hs : stepF st ct r with
              | none => simp [findL_none hs]
              | some x =>
                obtain ⟨n, st', ct'⟩ := x
                have ha := stepF_adv hs
                have := ih st' ct' (r.drop n) (by simp; omega)
                simp only [List.length_drop] at this
                rw [findL_some hs]; simp only; omega
          exact this _ 0 0 s (Nat.le_refl _)
        have v1 : findV s 0 0 0 = (((findL 0 0 s).1 : Int), ((findL 0 0 s).2 : Int)) := by unfold findV; simp
        have v2 : findV (a ++ s) a.length 0 0 = (((a.length + (findL 0 0 s).1 : Nat) : Int), ((findL 0 0 s).2 : Int)) := by unfold findV; rw [drop_len]
        have w : wrap64 ((a.length : Int) + ((findL 0 0 s).1 : Int)) = ((a.length + (findL 0 0 s).1 : Nat) : Int) := by unfold wrap64; omega
        simp only [v1, v2, w, if_true]
        rw [show ((((findL 0 0 s).2 : Nat) : Int) != (((findL 0 0 s).2 : Nat) : Int)) = false by simp]
        by_cases hn : (findL 0 0 s).1 = s.length
        · refine Ev.step (f := fun _ => some true) (fun k => ?_) (Ev.now _)
          rw [flaillaw13_ScriptRest.j1, if_neg (by simp), if_pos (by simp; omega)]
        · have happ := (findL_app m s.length 0 0 s (Nat.le_refl _) (by omega)).2
          have v3 : findV (s ++ m) 0 0 0 = (((findL 0 0 s).1 : Int), ((findL 0 0 s).2 : Int)) := by unfold findV; rw [List.drop_zero, happ]; simp
          rw [v3] at f3
          have hstep2 : ∀ k, flaillaw13_ScriptRest.j1 (k + 1) (B s) (B m) true ((findL 0 0 s).1 : Int) ((findL 0 0 s).2 : Int) false = (script_Find.f k (B (s ++ m)) 0).bind fun bt128 => (if bt128.1 = ((findL 0 0 s).1 : Int) then (some (bt128.2 == ((findL 0 0 s).2 : Int))) else (some false)) := by
            intro k
            rw [flaillaw13_ScriptRest.j1, if_neg (by simp), if_neg (by simp; omega), if_pos (by simp; omega), B_append]
            simp only [if_true]
          refine Ev.step hstep2 (Ev.bind f3 ?_)
          simp only [if_true, BEq.rfl]
          exact Ev.now _

theorem within_open (a b : List UInt8) (ha : ∀ c ∈ a, plainB c) (hb : ∀ c ∈ b, plainB c) :
    findV (a ++ openC ++ b ++ openT ++ a ++ closeT ++ b ++ closeT ++ a) 0 0 0 = (((a ++ openC ++ b ++ openT ++ a ++ closeT ++ b).length : Int), 1) := by
  unfold findV
  rw [List.drop_zero, show a ++ openC ++ b ++ openT ++ a ++ closeT ++ b ++ closeT ++ a = a ++ (openC ++ (b ++ (openT ++ (a ++ (closeT ++ (b ++ (closeT ++ a))))))) by simp only [List.append_assoc], find_open a b a ha hb]
  simp only [Prod.mk.injEq, List.length_append, openC, openT, closeT, List.length_cons, List.length_nil]
  exact ⟨by omega, rfl⟩
theorem within_closed (a b : List UInt8) (ha : ∀ c ∈ a, plainB c) (hb : ∀ c ∈ b, plainB c) :
    findV (a ++ openC ++ b ++ openT ++ a ++ closeT ++ b ++ closeC ++ closeT ++ a) 0 0 0 = (((a ++ openC ++ b ++ openT ++ a ++ closeT ++ b ++ closeC).length : Int), 0) := by
  unfold findV
  rw [List.drop_zero, show a ++ openC ++ b ++ openT ++ a ++ closeT ++ b ++ closeC ++ closeT ++ a = a ++ (openC ++ (b ++ (openT ++ (a ++ (closeT ++ (b ++ (closeC ++ (closeT ++ a)))))))) by simp only [List.append_assoc], find_closed a b a ha hb]
  simp only [Prod.mk.injEq, List.length_append, openC, openT, closeT, closeC, List.length_cons, List.length_nil]
  exact ⟨by omega, rfl⟩
theorem within_in (a b : List UInt8) (ha : ∀ c ∈ a, plainB c) (hb : ∀ c ∈ b, plainB c) :
    findV (a ++ openC ++ b ++ openT ++ a) 0 0 0 = (((2 * a.length + b.length + 12 : Nat) : Int), 2) := by
  unfold findV
  rw [List.drop_zero, show a ++ openC ++ b ++ openT ++ a = a ++ (openC ++ (b ++ (openT ++ a))) by simp only [List.append_assoc], find_in_end a b ha hb]
  simp
theorem within_loop (a b : List UInt8) (x2 : Bool) (h1 : a.length ≤ 100) (h2 : b.length ≤ 100) : ∀ r p, a ++ b = p ++ r → (∀ c ∈ p, plainB c) →
    Ev (fun k => flaillaw13_ScriptWithin.l0 k (B a) (B b) x2 true (B (a ++ b)) (p.length : Int)) true := by
  intro r
  induction r with
  | nil =>
    intro p hp hpl
    rw [List.append_nil] at hp
    have ha : ∀ c ∈ a, plainB c := fun c hc => hpl c (by rw [← hp]; simp [hc])
    have hb : ∀ c ∈ b, plainB c := fun c hc => hpl c (by rw [← hp]; simp [hc])
    have hin := find_f (a ++ openC ++ b ++ openT ++ a) (by simp [openC, openT]; omega) 0
    have hop := find_f (a ++ openC ++ b ++ openT ++ a ++ closeT ++ b ++ closeT ++ a) (by simp [openC, openT, closeT]; omega) 0
    have hcl := find_f (a ++ openC ++ b ++ openT ++ a ++ closeT ++ b ++ closeC ++ closeT ++ a) (by simp [openC, openT, closeT, closeC]; omega) 0
    have c0 : ∀ l : List UInt8, clampN l.length 0 = 0 := fun l => clampN_zero _
    rw [c0, within_in a b ha hb] at hin
    rw [c0, within_open a b ha hb] at hop
    rw [c0, within_closed a b ha hb] at hcl
    have w : wrap64 ((wrap64 ((wrap64 (2 * (a.length : Int))) + (b.length : Int))) + 12) = ((2 * a.length + b.length + 12 : Nat) : Int) := by unfold wrap64; omega
    have l1 : (⟨#[60, 33, 45, 45]⟩ : ByteArray) = B openC := rfl
    have l2 : (⟨#[60, 115, 99, 114, 105, 112, 116, 62]⟩ : ByteArray) = B openT := rfl
    have l3 : (⟨#[60, 47, 115, 99, 114, 105, 112, 116, 62]⟩ : ByteArray) = B closeT := rfl
    have l4 : (⟨#[45, 45, 62]⟩ : ByteArray) = B closeC := rfl
    have z1 : openC.length = 4 := rfl
    have z2 : openT.length = 8 := rfl
    have z3 : closeT.length = 9 := rfl
    have z4 : closeC.length = 3 := rfl
    have hend : ¬ ((p.length : Int) < ((B (a ++ b)).size : Int)) := by rw [hp]; exact end_nlt p
    cases x2 with
    | true =>
      refine Ev.step (f := fun k => (script_Find.f k (B (a ++ openC ++ b ++ openT ++ a ++ closeT ++ b ++ closeC ++ closeT ++ a)) 0).bind fun bt115 => ((script_Find.f k (B (a ++ openC ++ b ++ openT ++ a)) 0).bind fun bt117 => (if bt115.1 = ((a ++ openC ++ b ++ openT ++ a ++ closeT ++ b ++ closeC).length : Int) then (if bt115.2 = 0 then (if bt117.2 = 2 then (some (bt117.1 == ((2 * a.length + b.length + 12 : Nat) : Int))) else (some false)) else (some false)) else (some false)))) (fun k => ?_) (Ev.bind hcl (Ev.bind hin ?_))
      · rw [flaillaw13_ScriptWithin.l0, if_neg hend]
        simp only [l1, l2, l3, l4, B_append, size_B, w]
        rw [if_pos (by omega), if_pos (by simp [z1]; omega), if_pos (by simp [z1]; omega), if_pos (by simp [z1, z2]; omega), if_pos (by simp [z1, z2]; omega), if_pos (by simp [z1, z2, z3]; omega), if_pos trivial, if_pos (by simp [z1, z2, z3]; omega), if_pos (by simp [z1, z2, z3, z4]; omega), if_pos (by simp [z1, z2, z3, z4]; omega)]
        simp only [if_true]
      · simp only [if_true, BEq.rfl]
        exact Ev.now _
    | false =>
      refine Ev.step (f := fun k => (script_Find.f k (B (a ++ openC ++ b ++ openT ++ a ++ closeT ++ b ++ closeT ++ a)) 0).bind fun bt115 => ((script_Find.f k (B (a ++ openC ++ b ++ openT ++ a)) 0).bind fun bt117 => (if bt115.1 = ((a ++ openC ++ b ++ openT ++ a ++ closeT ++ b).length : Int) then (if bt115.2 = 1 then (if bt117.2 = 2 then (some (bt117.1 == ((2 * a.length + b.length + 12 : Nat) : Int))) else (some false)) else (some false)) else (some false)))) (fun k => ?_) (Ev.bind hop (Ev.bind hin ?_))
      · rw [flaillaw13_ScriptWithin.l0, if_neg hend]
        simp only [l1, l2, l3, l4, B_append, size_B, w]
        rw [if_pos (by omega), if_pos (by simp [z1]; omega), if_pos (by simp [z1]; omega), if_pos (by simp [z1, z2]; omega), if_pos (by simp [z1, z2]; omega), if_pos (by simp [z1, z2, z3]; omega), if_neg (by simp), if_pos (by simp [z1, z2, z3]; omega), if_pos (by simp [z1, z2, z3]; omega)]
        simp only [if_true]
      · simp only [if_true, BEq.rfl]
        exact Ev.now _
  | cons c r ih =>
    intro p hp hpl
    have hlen : p.length < (a ++ b).length := by rw [hp]; simp
    simp only [List.length_append] at hlen
    have hw := wrap_nat p.length (by omega)
    have hlt : ((p.length : Int) < ((B (a ++ b)).size : Int)) := by rw [hp]; exact mid_lt p r c
    have hb : bt (B (a ++ b)) (p.length : Int) = (c.toNat : Int) := by rw [hp, bt_mid]
    by_cases hc : plainB c
    · have := ih (p ++ [c]) (by rw [hp]; simp) (fun d hd => by
        rcases List.mem_append.1 hd with h | h
        · exact hpl d h
        · rw [List.mem_singleton.1 h]; exact hc)
      rw [List.length_append, List.length_singleton] at this
      refine Ev.step (fun k => ?_) this
      rw [flaillaw13_ScriptWithin.l0, if_pos hlt, if_pos (by omega), hb, hw]
      simp only [u45, u60, u62, if_neg hc.1, if_neg hc.2.1, if_neg hc.2.2]
    · refine Ev.step (f := fun _ => some true) (fun k => ?_) (Ev.now _)
      rw [flaillaw13_ScriptWithin.l0, if_pos hlt, if_pos (by omega), hb, hw]
      simp only [u45, u60, u62]
      by_cases h45 : c = 45
      · simp only [if_pos h45]
      · by_cases h60 : c = 60
        · simp only [if_neg h45, if_pos h60]
        · by_cases h62 : c = 62
          · simp only [if_neg h45, if_neg h60, if_pos h62]
          · exact absurd ⟨h45, h60, h62⟩ hc
theorem ScriptWithin : flaillaw13_ScriptWithin.Pure := by
  intro a0 a1 x2 _ _
  obtain ⟨a, rfl⟩ := exists_B a0
  obtain ⟨b, rfl⟩ := exists_B a1
  refine Ev.rounds (?_ : Ev (fun k => flaillaw13_ScriptWithin.f k (B a) (B b) x2) true)
  unfold flaillaw13_ScriptWithin.f
  refine Ev.bind awake_ev ?_
  have jt : Ev (fun k => flaillaw13_ScriptWithin.j0 k (B a) (B b) x2 true true) true :=
    Ev.step (f := fun _ => some true) (fun k => by rw [flaillaw13_ScriptWithin.j0, if_pos rfl]) (Ev.now _)
  by_cases h1 : a.length > 100
  · simp only [if_pos (show ((B a).size : Int) > 100 by simp; omega)]; exact jt
  · simp only [if_neg (show ¬ ((B a).size : Int) > 100 by simp; omega)]
    by_cases h2 : b.length > 100
    · rw [show decide (((B b).size : Int) > 100) = true by simp; omega]; exact jt
    · rw [show decide (((B b).size : Int) > 100) = false by simp; omega]
      refine Ev.step (fun k => ?_) (within_loop a b x2 (by omega) (by omega) (a ++ b) [] rfl (by simp))
      rw [flaillaw13_ScriptWithin.j0, if_neg (by simp), if_pos (by simp; omega), B_append]; rfl
end Go.Proofs.YtppaobgccdlccaaDoor.Pure
