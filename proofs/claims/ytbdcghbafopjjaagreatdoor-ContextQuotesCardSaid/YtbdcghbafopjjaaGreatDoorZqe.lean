/-
  Texts that several claims of this seat share, merged by a program of this session (5).
-/
import Derived.StringKeys
import Derived.Maps.OwnOps
import Derived.Maps.OwnSet
import Derived.Test.YtbdcghbafopjjaaGreatDoorProg
import Derived.Below
import Derived.Deep.Draws
import Derived.Deep.AppendLies
import Derived.Maps.AppendAt
import Derived.OwnWalk
import Derived.Laws.BytesArg
import Derived.Laws.MakeOwn
import Derived.Laws.OwnMore
import Derived.Deep.OwnRows
import Derived.Tactics
import Derived.Lib.ConvBytes
import Derived.Laws.Slices
import Derived.WalkKit
import Derived.KernelRfl
import Derived.RowKit3
import Derived.Deep.LoopGhost
import Derived.Deep.QuietTactic
import Derived.BigQuiet
import Derived.WideLaws
import Derived.Deep.DeepCutAuto
import Derived.Deep.CutBlock
import Derived.Deep.RegionHeld3
import Derived.Laws.Rows
import Derived.Lib.AppendStr
import Derived.ArgAppend
import Derived.Laws.IdiomCopy
import Derived.OrdersHeld
import Derived.Laws.BitsLemmas
import Derived.RowKit
import Derived.Test.YtbdcghbafopjjaaGreatDoorZqd
section
namespace Go.Proofs.YtbdcghbafopjjaaGreatDoor.Pure
open Go Go.RowKit Go.Proofs.YtbdcghbafopjjaaGreatDoor.Hand Go.Proofs.YtbdcghbafopjjaaGreatDoor.Sa Go.Proofs.YtbdcghbafopjjaaGreatDoorW.PrintWords Go.Proofs.YtbdcghbafopjjaaGreatDoorW.PrintMore Go.Proofs.YtbdcghbafopjjaaGreatDoor.Pl Go.Proofs.YtbdcghbafopjjaaGreatDoor.Pb
attribute [local simp] B_nil
theorem ends_ev (s name : List UInt8) (n : Nat) (hs : s.length ≤ 1000000) (hl : name.length ≤ 1000000) (hn : n ≤ s.length) :
    Ev (fun k => raw_Ends.f k (B s) (n : Int) (B name)) (endsL (s.drop n) name) :=
  Ev.step (f := fun _ => some (endsL (s.drop n) name)) (fun k => ends_f k s name n hs hl hn) (Ev.now _)
theorem word_ev (s opens : List UInt8) (n : Nat) (hs : s.length ≤ 1000000) (hl : opens.length ≤ 1000) (hn : n ≤ s.length) :
    Ev (fun k => script_word.f k (B s) (n : Int) (B opens)) (if wordL (s.drop n) opens = true then ((opens.length + 7 : Nat) : Int) else 0) :=
  Ev.step (f := fun _ => some (if wordL (s.drop n) opens = true then ((opens.length + 7 : Nat) : Int) else 0)) (fun k => word_f k s opens n hs hl hn) (Ev.now _)
def stepM (st ct : Nat) (r : List UInt8) (c : UInt8) : Nat × Nat × Nat :=
  if c = 45 then (1, st, ct + 1) else if c = 62 ∧ 2 ≤ ct then (1, 0, 0)
  else if st = 1 then (if wordL r [60] = true then (8, 2, 0) else (1, 1, 0)) else (if wordL r [60, 47] = true then (9, 1, 0) else (1, 2, 0))
theorem stepF_M {st ct : Nat} {r : List UInt8} {c : UInt8} (h0 : st ≠ 0) (he : ¬(st ≠ 2 ∧ endsL (c :: r) scriptL = true)) :
    stepF st ct (c :: r) = some (stepM st ct (c :: r) c) := by
  simp only [stepF, stepM, if_neg he, if_neg h0]
  repeat' split
  all_goals rfl
theorem stepM_ok (st ct n : Nat) (r : List UInt8) (c : UInt8) (hct : ct ≤ n) (h2 : st ≤ 2) : (stepM st ct r c).2.2 ≤ n + (stepM st ct r c).1 ∧ (stepM st ct r c).2.1 ≤ 2 := by
  unfold stepM
  repeat' split
  all_goals simp only [] ; omega
theorem m_ev {s : List UInt8} {n : Nat} {c : UInt8} {r : List UInt8} {st ct : Nat} {L : Nat → Int → Int → Int → Option (Int × Int)} {v : Int × Int}
    (hs : s.length ≤ 1000000) (hr : s.drop n = c :: r) (hst : st = 1 ∨ st = 2) (hct : ct ≤ n)
    (h : Ev (fun k => L k ((n + (stepM st ct (c :: r) c).1 : Nat) : Int) ((stepM st ct (c :: r) c).2.1 : Int) ((stepM st ct (c :: r) c).2.2 : Int)) v) :
    Ev (fun k => script_Find.m k (L k) (B s) (n : Int) (st : Int) (ct : Int)) v := by
  have hlt := drop_lt hr
  unfold script_Find.m
  simp only [if_pos (show (0 : Int) ≤ (n : Int) by omega), if_pos (show (n : Int) < ((B s).size : Int) by simp; omega), bt_drop s n c r hr, u45, u62]
  have w1 : wrap64 ((n : Int) + 1) = ((n + 1 : Nat) : Int) := wrap_nat _ (by omega)
  have w2 : wrap64 ((ct : Int) + 1) = ((ct + 1 : Nat) : Int) := wrap_nat _ (by omega)
  simp only [w1, w2]
  unfold stepM at h
  by_cases h45 : c = 45
  · simp only [if_pos h45] at h ⊢; exact h
  · by_cases h62 : c = 62 ∧ 2 ≤ ct
    · have h62' : c = 62 ∧ (2 : Int) ≤ (ct : Int) := ⟨h62.1, by omega⟩
      simp only [if_neg h45, if_pos h62] at h
      simp only [if_neg h45, if_pos h62']
      exact h
    · have h62' : ¬ (c = 62 ∧ (2 : Int) ≤ (ct : Int)) := fun e => h62 ⟨e.1, by omega⟩
      simp only [if_neg h45, if_neg h62] at h
      simp only [if_neg h45, if_neg h62']
      rcases hst with rfl | rfl
      · simp only [if_true] at h
        simp only [show (((1 : Nat) : Int) = 1) = True by simp, if_true]
        refine Ev.bind (word_ev s [60] n hs (by simp) (by omega)) ?_
        rw [hr]
        cases hw : wordL (c :: r) [60] with
        | true =>
          simp only [hw, if_true] at h
          simp only [if_true, show (((([60] : List UInt8).length + 7 : Nat) : Int) > 0) by decide]
          have w : wrap64 ((n : Int) + ((([60] : List UInt8).length + 7 : Nat) : Int)) = ((n + 8 : Nat) : Int) := by simp only [List.length_cons, List.length_nil]; unfold wrap64; omega
          simp only [w]; exact h
        | false =>
          simp only [hw, Bool.false_eq_true, if_false] at h
          simp only [Bool.false_eq_true, if_false, show ¬ ((0 : Int) > 0) by omega]
          exact h
      · simp only [show ((2 : Nat) = 1) = False by simp, if_false] at h
        simp only [show (((2 : Nat) : Int) = 1) = False by simp, show (((2 : Nat) : Int) = 2) = True by simp, if_true, if_false]
        refine Ev.bind (word_ev s [60, 47] n hs (by simp) (by omega)) ?_
        rw [hr]
        cases hw : wordL (c :: r) [60, 47] with
        | true =>
          simp only [hw, if_true] at h
          simp only [if_true, show (((([60, 47] : List UInt8).length + 7 : Nat) : Int) > 0) by decide]
          have w : wrap64 ((n : Int) + ((([60, 47] : List UInt8).length + 7 : Nat) : Int)) = ((n + 9 : Nat) : Int) := by simp only [List.length_cons, List.length_nil]; unfold wrap64; omega
          simp only [w]; exact h
        | false =>
          simp only [hw, Bool.false_eq_true, if_false] at h
          simp only [Bool.false_eq_true, if_false, show ¬ ((0 : Int) > 0) by omega]
          exact h
def findV (s : List UInt8) (n st ct : Nat) : Int × Int := (((n + (findL st ct (s.drop n)).1 : Nat) : Int), ((findL st ct (s.drop n)).2 : Int))
theorem findV_none {s : List UInt8} {n st ct : Nat} (h : stepF st ct (s.drop n) = none) : findV s n st ct = ((n : Int), (st : Int)) := by
  unfold findV; rw [findL_none h]; simp
theorem findV_some {s : List UInt8} {n st ct a st' ct' : Nat} (h : stepF st ct (s.drop n) = some (a, st', ct')) : findV s n st ct = findV s (n + a) st' ct' := by
  unfold findV; rw [findL_some h, List.drop_drop]; simp only [Nat.add_assoc]
theorem find_l (s : List UInt8) (hs : s.length ≤ 1000000) : ∀ m n st ct : Nat, s.length - n ≤ m → n ≤ s.length → ct ≤ n → st ≤ 2 →
    Ev (fun k => script_Find.l k (B s) (n : Int) (st : Int) (ct : Int)) (findV s n st ct) := by
  intro m
  induction m with
  | zero =>
    intro n st ct hm hn hct hst
    have : s.drop n = [] := List.drop_eq_nil_of_le (by omega)
    rw [findV_none (by rw [this]; rfl)]
    refine Ev.step (f := fun _ => some ((n : Int), (st : Int))) (fun k => ?_) (Ev.now _)
    rw [script_Find.l, if_pos (by simp; omega)]
  | succ m ih =>
    intro n st ct hm hn hct hst
    cases hr : s.drop n with
    | nil =>
      have := drop_nil hr
      rw [findV_none (by rw [hr]; rfl)]
      refine Ev.step (f := fun _ => some ((n : Int), (st : Int))) (fun k => ?_) (Ev.now _)
      rw [script_Find.l, if_pos (by simp; omega)]
    | cons c r =>
      have hlt := drop_lt hr
      have hgo : ∀ a st' ct' : Nat, stepF st ct (s.drop n) = some (a, st', ct') → ct' ≤ n + a → st' ≤ 2 →
          Ev (fun k => script_Find.l k (B s) ((n + a : Nat) : Int) (st' : Int) (ct' : Int)) (findV s n st ct) := by
        intro a st' ct' h1 h2 h3
        have ha := stepF_adv h1
        simp only [List.length_drop] at ha
        rw [findV_some h1]
        exact ih (n + a) st' ct' (by omega) (by omega) h2 h3
      have hM : st ≠ 0 → ¬(st ≠ 2 ∧ endsL (c :: r) scriptL = true) → Ev (fun k => script_Find.m k (script_Find.l k (B s)) (B s) (n : Int) (st : Int) (ct : Int)) (findV s n st ct) := by
        intro h0 he
        have hok := stepM_ok st ct n (c :: r) c hct hst
        exact m_ev (L := fun k => script_Find.l k (B s)) hs hr (by omega) hct (hgo _ _ _ (by rw [hr]; exact stepF_M h0 he) hok.1 hok.2)
      by_cases h2 : st = 2
      · subst h2
        refine Ev.step (fun k => ?_) (hM (by omega) (by simp))
        rw [script_Find.l, if_neg (by simp; omega), if_pos (by rfl)]
      · have hstep : ∀ k, script_Find.l (k + 1) (B s) (n : Int) (st : Int) (ct : Int) = (raw_Ends.f k (B s) (n : Int) (B scriptL)).bind fun e =>
            if e = true then some ((n : Int), (st : Int))
            else if (st : Int) = 0 then (sign_Begins.f (B s) (n : Int) (B [60, 33, 45, 45])).bind fun b => if b = true then script_Find.l k (B s) (wrap64 ((n : Int) + 4)) 1 2 else script_Find.l k (B s) (wrap64 ((n : Int) + 1)) 0 (ct : Int)
            else script_Find.m k (script_Find.l k (B s)) (B s) (n : Int) (st : Int) (ct : Int) := by
          intro k
          rw [script_Find.l, if_neg (by simp; omega), if_neg (by omega)]; rfl
        refine Ev.step hstep (Ev.bind (ends_ev s scriptL n hs (by simp [scriptL]) hn) ?_)
        rw [hr]
        cases he : endsL (c :: r) scriptL with
        | true =>
          simp only [if_true]
          rw [findV_none (by rw [hr]; simp only [stepF, if_pos (And.intro h2 he)])]
          exact Ev.now _
        | false =>
          have hne : ¬ (st ≠ 2 ∧ endsL (c :: r) scriptL = true) := by rw [he]; simp
          simp only [Bool.false_eq_true, if_false]
          by_cases h0 : st = 0
          · subst h0
            simp only [show (((0 : Nat) : Int) = 0) = True by simp, if_true, begins_f s [60, 33, 45, 45] n hs (by simp) hn, Option.bind_some, hr]
            have w4 : wrap64 ((n : Int) + 4) = ((n + 4 : Nat) : Int) := by unfold wrap64; omega
            have w1 : wrap64 ((n : Int) + 1) = ((n + 1 : Nat) : Int) := by unfold wrap64; omega
            cases hb : begR (c :: r) [60, 33, 45, 45] with
            | true =>
              simp only [if_true, w4]
              exact hgo 4 1 2 (by rw [hr]; simp only [stepF, if_neg hne, hb, if_true]) (by omega) (by omega)
            | false =>
              simp only [Bool.false_eq_true, if_false, w1]
              exact hgo 1 0 ct (by rw [hr]; simp only [stepF, if_neg hne, hb, Bool.false_eq_true, if_false, if_true]) (by omega) (by omega)
          · simp only [show ((st : Int) = 0) = False by simp; omega, if_false]
            exact hM h0 hne
def clampN (n : Nat) (at_ : Int) : Nat := if at_ < 0 then 0 else if (n : Int) < at_ then n else at_.toNat
theorem clampN_le (n : Nat) (a : Int) : clampN n a ≤ n := by unfold clampN; split <;> (try split) <;> omega
theorem clampN_1 (n : Nat) (a : Int) : mn (mx a 0) (n : Int) = (clampN n a : Int) := by
  unfold clampN mn mx
  repeat' split
  all_goals omega
theorem find_f (s : List UInt8) (hs : s.length ≤ 1000000) (a : Int) : Ev (fun k => script_Find.f k (B s) a) (findV s (clampN s.length a) 0 0) := by
  unfold script_Find.f
  simp only [size_B, clampN_1]
  exact find_l s hs _ _ 0 0 (Nat.le_refl _) (clampN_le _ _) (by omega) (by omega)
end Go.Proofs.YtbdcghbafopjjaaGreatDoor.Pure
end

section
namespace Go.Proofs.YtbdcghbafopjjaaGreatDoor.Hand
open Go Go.RowKit Go.Proofs.YtbdcghbafopjjaaGreatDoor.K0 Go.Proofs.YtbdcghbafopjjaaGreatDoor.Pl Go.Proofs.YtbdcghbafopjjaaGreatDoor.Pb Go.Proofs.YtbdcghbafopjjaaGreatDoor.Sa Go.Proofs.YtbdcghbafopjjaaGreatDoor.Pure Go.Proofs.YtbdcghbafopjjaaGreatDoorW.PrintWords Go.Proofs.YtbdcghbafopjjaaGreatDoorW.PrintLast Go.Proofs.YtbdcghbafopjjaaGreatDoorW.PrintMore
abbrev inT (a0 : ByteArray) (a1 : Int) : Prop := a0.size ≤ 100000 ∧ 0 ≤ a1 ∧ a1 ≤ (a0.size : Int)
def atT (a0 : ByteArray) (a1 : Int) : List UInt8 := a0.data.toList.drop a1.toNat
theorem inT_B {a0 : ByteArray} {a1 : Int} (h : inT a0 a1) : ∃ (s : List UInt8) (p : Nat), a0 = B s ∧ a1 = (p : Int) ∧ s.length ≤ 100000 ∧ p ≤ s.length ∧ atT a0 a1 = s.drop p := by
  obtain ⟨l, rfl⟩ := exists_B a0
  obtain ⟨h1, h2, h3⟩ := h
  rw [size_B] at h1 h3
  obtain ⟨p, rfl⟩ := Int.eq_ofNat_of_zero_le h2
  exact ⟨l, p, rfl, rfl, h1, by omega, by unfold atT; rw [B_data]; rfl⟩
def tag_Begins.f (a0 : ByteArray) (a1 : Int) : Option Bool := if inT a0 a1 then some (tagN (atT a0 a1) != 0) else none
theorem tag_Begins.calls (a0 : ByteArray) (a1 : Int) (r : Bool) (w : World) (h : tag_Begins.f a0 a1 = some r) :
    Calls Tryz.prog 63 #[.string a0, .int .i64 a1] w fun e w' => e = .returned (.bool r) ∧ Below w.heap.size w w' := by
  obtain ⟨hc, h⟩ := hg_split h
  obtain ⟨s, p, rfl, rfl, hs, hp, ha⟩ := inT_B hc
  obtain rfl := Option.some.inj h
  rw [ha]
  exact tagBegins_c s p hs hp w
def doctype_Begins.f (a0 : ByteArray) (a1 : Int) : Option Bool := if inT a0 a1 then some (begR (atT a0 a1) docL) else none
theorem doctype_Begins.calls (a0 : ByteArray) (a1 : Int) (r : Bool) (w : World) (h : doctype_Begins.f a0 a1 = some r) :
    Calls Tryz.prog 66 #[.string a0, .int .i64 a1] w fun e w' => e = .returned (.bool r) ∧ Below w.heap.size w w' := by
  obtain ⟨hc, h⟩ := hg_split h
  obtain ⟨s, p, rfl, rfl, hs, hp, ha⟩ := inT_B hc
  obtain rfl := Option.some.inj h
  rw [ha]
  exact docBegins_c s p hs hp w
noncomputable def tkOut (n : Nat) (R : Option Tk × List UInt8) : Int × ByteArray × ByteArray × List AtS × Bool × Int × Bool :=
  match R.1 with
  | none => (0, ⟨#[]⟩, ⟨#[]⟩, [], false, ((n - R.2.length : Nat) : Int), false)
  | some t => ((tkC t).1, B (tkC t).2.1, B (tkC t).2.2.1, (tkC t).2.2.2.1.map ofT, (tkC t).2.2.2.2, ((n - R.2.length : Nat) : Int), true)
theorem tk_row {s : List UInt8} {R : Option Tk × List UInt8} {w w' : World} {e : Ending} {r1 : Int} {r2 r3 : ByteArray} {r4 : List AtS} {r5 : Bool} {r6 : Int} {r7 : Bool} (h : TkRet s R w e w') (hR : tkOut s.length R = (r1, r2, r3, r4, r5, r6, r7)) :
    ∃ v3_ : Value, e = .returned (.tuple #[.agg #[.int .i64 r1, .string r2, .string r3, v3_, .bool r5], .int .i64 r6, .bool r7]) ∧ Kd.R atK 65 w' w.heap.size (fun _ => True) v3_ r4 := by
  obtain ⟨o, x⟩ := R
  unfold tkOut at hR
  unfold TkRet at h
  cases o with
  | none =>
    simp only [Prod.mk.injEq] at hR h
    obtain ⟨rfl, rfl, rfl, rfl, rfl, rfl, rfl⟩ := hR
    exact ⟨_, h, Kd.R_nil _ _ _ _ _⟩
  | some t =>
    simp only [Prod.mk.injEq] at hR h
    obtain ⟨rfl, rfl, rfl, rfl, rfl, rfl, rfl⟩ := hR
    obtain ⟨v, h1, h2⟩ := h
    exact ⟨v, h1, h2⟩
noncomputable def tag_Read.f (a0 : ByteArray) (a1 : Int) : Option (Int × ByteArray × ByteArray × (List S65) × Bool × Int × Bool) := if inT a0 a1 then some (tkOut a0.size (tagR (atT a0 a1))) else none
theorem tag_Read.calls (a0 : ByteArray) (a1 : Int) (r1 : Int) (r2 : ByteArray) (r3 : ByteArray) (r4 : List (S65)) (r5 : Bool) (r6 : Int) (r7 : Bool) (w : World) (hGl : Glob w) (h : tag_Read.f a0 a1 = some (r1, r2, r3, r4, r5, r6, r7)) :
    Calls Tryz.prog 62 #[.string a0, .int .i64 a1] w fun e w' => ∃ v3_ : Value, e = .returned (.tuple #[.agg #[.int .i64 r1, .string r2, .string r3, v3_, .bool r5], .int .i64 r6, .bool r7]) ∧ Kd.R k65 65 w' w.heap.size (fun _ => True) v3_ r4 ∧ Below w.heap.size w w' := by
  obtain ⟨hc, h⟩ := hg_split h
  obtain ⟨s, p, rfl, rfl, hs, hp, ha⟩ := inT_B hc
  have h := Option.some.inj h
  rw [ha, size_B] at h
  refine (tagRead_c s p hs hp w hGl).mono fun e w' hr => ?_
  obtain ⟨v, h1, h2⟩ := tk_row hr.1 h
  exact ⟨v, h1, h2, hr.2⟩
noncomputable def doctype_Read.f (a0 : ByteArray) (a1 : Int) : Option (Int × ByteArray × ByteArray × (List S65) × Bool × Int × Bool) :=
  if inT a0 a1 then (if begR (atT a0 a1) docL = true then some (tkOut a0.size (some (.doctype (cleanL (upto 62 ((atT a0 a1).drop 9)))), past 62 ((atT a0 a1).drop 9))) else none) else none
theorem doctype_Read.calls (a0 : ByteArray) (a1 : Int) (r1 : Int) (r2 : ByteArray) (r3 : ByteArray) (r4 : List (S65)) (r5 : Bool) (r6 : Int) (r7 : Bool) (w : World) (hGl : Glob w) (h : doctype_Read.f a0 a1 = some (r1, r2, r3, r4, r5, r6, r7)) :
    Calls Tryz.prog 67 #[.string a0, .int .i64 a1] w fun e w' => ∃ v3_ : Value, e = .returned (.tuple #[.agg #[.int .i64 r1, .string r2, .string r3, v3_, .bool r5], .int .i64 r6, .bool r7]) ∧ Kd.R k65 65 w' w.heap.size (fun _ => True) v3_ r4 ∧ Below w.heap.size w w' := by
  obtain ⟨hc, h⟩ := hg_split h
  obtain ⟨s, p, rfl, rfl, hs, hp, ha⟩ := inT_B hc
  rw [ha] at h
  obtain ⟨hb, h⟩ := hg_split h
  have h := Option.some.inj h
  rw [size_B] at h
  refine (docRead_c s p hs hp hb w hGl).mono fun e w' hr => ?_
  obtain ⟨v, h1, h2⟩ := tk_row hr.1 h
  exact ⟨v, h1, h2, hr.2⟩
theorem comment_Read.calls (a0 : ByteArray) (a1 : Int) (r1 : Int) (r2 : ByteArray) (r3 : ByteArray) (r4 : List (S65)) (r5 : Bool) (r6 : Int) (r7 : Bool) (w : World) (hGl : Glob w) (h : comment_Read.f a0 a1 = some (r1, r2, r3, r4, r5, r6, r7)) :
    Calls Tryz.prog 65 #[.string a0, .int .i64 a1] w fun e w' => ∃ v3_ : Value, e = .returned (.tuple #[.agg #[.int .i64 r1, .string r2, .string r3, v3_, .bool r5], .int .i64 r6, .bool r7]) ∧ Kd.R k65 65 w' w.heap.size (fun _ => True) v3_ r4 ∧ Below w.heap.size w w' := by
  refine (comment_Read.exact a0 a1 r1 r2 r3 r4 r5 r6 r7 w hGl h).mono ?_
  rintro e w' ⟨h1, rfl, h2⟩
  exact ⟨_, h1, Kd.R_nil _ _ _ _ _, h2⟩
noncomputable def text_Read.f (a0 : ByteArray) (a1 : Int) : Option (ByteArray × Int) := if inT a0 a1 then some (B (rdL false ((atT a0 a1).take (txN (atT a0 a1)))), ((a1.toNat + txN (atT a0 a1) : Nat) : Int)) else none
theorem text_Read.calls (a0 : ByteArray) (a1 : Int) (r1 : ByteArray) (r2 : Int) (w : World) (hGl : Glob w) (h : text_Read.f a0 a1 = some (r1, r2)) :
    Calls Tryz.prog 68 #[.string a0, .int .i64 a1] w fun e w' => e = .returned (.tuple #[.string r1, .int .i64 r2]) ∧ Below w.heap.size w w' := by
  obtain ⟨hc, h⟩ := hg_split h
  obtain ⟨s, p, rfl, rfl, hs, hp, ha⟩ := inT_B hc
  have h := Option.some.inj h
  simp only [Prod.mk.injEq] at h
  obtain ⟨rfl, rfl⟩ := h
  rw [ha]
  exact txRead_c s p hs hp w hGl
noncomputable def ref_Decode.f (a0 : ByteArray) (a1 : Bool) : Option ByteArray := if a0.size ≤ 100000 then some (B (rdL a1 a0.data.toList)) else none
theorem ref_Decode.calls (a0 : ByteArray) (a1 : Bool) (r : ByteArray) (w : World) (hGl : Glob w) (h : ref_Decode.f a0 a1 = some r) :
    Calls Tryz.prog 12 #[.string a0, .bool a1] w fun e w' => e = .returned (.string r) ∧ Below w.heap.size w w' := by
  obtain ⟨hc, h⟩ := hg_split h
  obtain rfl := Option.some.inj h
  have := rdecode_c a0.data.toList a1 (by rw [Array.length_toList]; exact hc) w hGl hGl.toE
  rwa [← B_of] at this
def raw_Find.f (a0 : ByteArray) (a1 : Int) (a2 : ByteArray) : Option Int := if a0.size ≤ 1000000 ∧ a2.size ≤ 1000000 then some ((rawFind a0.data.toList (clN a0.size a1) a2.data.toList : Nat) : Int) else none
theorem raw_Find.calls (a0 : ByteArray) (a1 : Int) (a2 : ByteArray) (r : Int) (w : World) (hGl : Glob w) (h : raw_Find.f a0 a1 a2 = some r) :
    Calls Tryz.prog 97 #[.string a0, .int .i64 a1, .string a2] w fun e w' => e = .returned (.int .i64 r) ∧ Below w.heap.size w w' := by
  obtain ⟨⟨h1, h2⟩, h⟩ := hg_split h
  obtain rfl := Option.some.inj h
  have := rawFind_any a0.data.toList a2.data.toList a1 w hGl (by rw [Array.length_toList]; exact h1) (by rw [Array.length_toList]; exact h2)
  rw [← B_of, ← B_of, Array.length_toList] at this
  exact this
end Go.Proofs.YtbdcghbafopjjaaGreatDoor.Hand
end

section
namespace Go.Proofs.YtbdcghbafopjjaaGreatDoor.Hand
open Go Go.RowKit Go.Maps Go.WideMaps Go.Proofs.YtbdcghbafopjjaaGreatDoor.K0 Go.Proofs.YtbdcghbafopjjaaGreatDoor.Pl Go.Proofs.YtbdcghbafopjjaaGreatDoor.Pb Go.Proofs.YtbdcghbafopjjaaGreatDoor.Sa Go.Proofs.YtbdcghbafopjjaaGreatDoor.Pure Go.Proofs.YtbdcghbafopjjaaGreatDoorW.PrintWords
theorem put_at {D : DataW Unit} (hD : IsMap D) (k : List UInt8) (x : List UInt8) (d z : DataW Unit) : IsMap (D.put (.string k) d) ∧ (D.put (.string k) d).atKey (.string x) z = if x = k then d else D.atKey (.string x) z := by
  refine ⟨by obtain ⟨es, rfl⟩ := hD; exact ⟨_, rfl⟩, ?_⟩
  by_cases h : x = k
  · subst h; rw [if_pos rfl]; exact atKey_put_same hD (by trivial) d z
  · rw [if_neg h]; exact atKey_put_other (fun e => h (by injection e)) d z
def stD : DataW Unit := (((((((((((DataW.map [] : DataW Unit).put (.string titleW) (.lit (.int .i64 1))).put (.string areaW) (.lit (.int .i64 1))).put (.string styleW) (.lit (.int .i64 2))).put (.string xmpW) (.lit (.int .i64 2))).put (.string iframeW) (.lit (.int .i64 2))).put (.string noembedW) (.lit (.int .i64 2))).put (.string noframesW) (.lit (.int .i64 2))).put (.string noscriptW) (.lit (.int .i64 2))).put (.string scriptL) (.lit (.int .i64 3))).put (.string plaintextW) (.lit (.int .i64 4)))
theorem st_look (x : List UInt8) : stD.atKey (.string x) (.lit (.int .i64 0)) = .lit (.int .i64 ((stateN x : Nat) : Int)) := by
  have m0 : IsMap (DataW.map [] : DataW Unit) := ⟨_, rfl⟩
  obtain ⟨m1, e1⟩ := put_at m0 titleW x (.lit (.int .i64 1)) (.lit (.int .i64 0))
  obtain ⟨m2, e2⟩ := put_at m1 areaW x (.lit (.int .i64 1)) (.lit (.int .i64 0))
  obtain ⟨m3, e3⟩ := put_at m2 styleW x (.lit (.int .i64 2)) (.lit (.int .i64 0))
  obtain ⟨m4, e4⟩ := put_at m3 xmpW x (.lit (.int .i64 2)) (.lit (.int .i64 0))
  obtain ⟨m5, e5⟩ := put_at m4 iframeW x (.lit (.int .i64 2)) (.lit (.int .i64 0))
  obtain ⟨m6, e6⟩ := put_at m5 noembedW x (.lit (.int .i64 2)) (.lit (.int .i64 0))
  obtain ⟨m7, e7⟩ := put_at m6 noframesW x (.lit (.int .i64 2)) (.lit (.int .i64 0))
  obtain ⟨m8, e8⟩ := put_at m7 noscriptW x (.lit (.int .i64 2)) (.lit (.int .i64 0))
  obtain ⟨m9, e9⟩ := put_at m8 scriptL x (.lit (.int .i64 3)) (.lit (.int .i64 0))
  obtain ⟨m10, e10⟩ := put_at m9 plaintextW x (.lit (.int .i64 4)) (.lit (.int .i64 0))
  unfold stD
  rw [e10, e9, e8, e7, e6, e5, e4, e3, e2, e1]
  unfold stateN
  by_cases h_plaintextW : x = plaintextW
  · subst h_plaintextW; rfl
  by_cases h_scriptL : x = scriptL
  · subst h_scriptL; rfl
  by_cases h_noscriptW : x = noscriptW
  · subst h_noscriptW; rfl
  by_cases h_noframesW : x = noframesW
  · subst h_noframesW; rfl
  by_cases h_noembedW : x = noembedW
  · subst h_noembedW; rfl
  by_cases h_iframeW : x = iframeW
  · subst h_iframeW; rfl
  by_cases h_xmpW : x = xmpW
  · subst h_xmpW; rfl
  by_cases h_styleW : x = styleW
  · subst h_styleW; rfl
  by_cases h_areaW : x = areaW
  · subst h_areaW; rfl
  by_cases h_titleW : x = titleW
  · subst h_titleW; rfl
  simp only [h_titleW, h_areaW, h_styleW, h_xmpW, h_iframeW, h_noembedW, h_noframesW, h_noscriptW, h_scriptL, h_plaintextW, if_false, or_false]
  rfl
theorem zero3 (W : World) : (zeroValue 3).run Tryz.prog W = .ok (.int .i64 0) W := by kernel_rfl
set_option maxRecDepth 100000 in
set_option maxHeartbeats 4000000 in
theorem state_c (x : List UInt8) (hx : x.length ≤ 1000000) (w : World) :
    Calls Tryz.prog 71 #[.string (B x)] w fun e w' => e = .returned (.int .i64 ((stateN x : Nat) : Int)) ∧ Below w.heap.size w w' := by
  have law9 : Keyed Tryz.prog 9 := string_keyed Tryz.underlying9
  have hmm := @run_makeMap Tryz.prog
  have hkey : keyOf Tryz.prog 9 (.string (B x)) = some (.string x) := by
    have := keyOf_string_mk (P := Tryz.prog) (k := 9) Tryz.underlying9 (s := B x) (by rw [size_B]; exact Nat.le_trans hx (by decide))
    rwa [B_data] at this
  have hL := Lib.hid (st_look x)
  have hB0 : Below w.heap.size w (w.alloc (.map #[] 0)) := Below.alloc (Below.refl _ _) (Nat.le_refl _) _
  have hown0 : (w.alloc (.map #[] 0)).ownsMap Tryz.prog 9 (plainElem (H := Unit) Tryz.prog 3) w.heap.size 0 (.map []) := World.ownsMap_made w Tryz.prog 9 (plainElem (H := Unit) Tryz.prog 3)
  obtain ⟨N, hN⟩ : ∃ N, stateN x = N := ⟨_, rfl⟩
  rw [hN] at hL ⊢
  obtain ⟨a, ha⟩ : ∃ a, B x = a := ⟨_, rfl⟩
  rw [ha] at hkey ⊢
  clear ha hN
  go_enter Tryz.func71, Tryz.ntmps71
  go_wp2_with (first
    | (refine wp_insert_own _ rfl (.tmp 3) (.const (.string ⟨#[116, 105, 116, 108, 101]⟩)) (.const (.int .i64 1)) 114 rfl 9 3 law9 Tryz.underlying114 (plainElem (H := Unit) Tryz.prog 3) w.heap.size 0 _ rfl hown0 (by decide) _ _ (.string titleW) rfl rfl (keyOf_string_mk Tryz.underlying9 (by decide)) _ [] (plainElem_int Tryz.underlying3 (by decide)) ?_; intro w1 hown1 hg1)
    | (refine wp_insert_own _ rfl (.tmp 3) (.const (.string ⟨#[116, 101, 120, 116, 97, 114, 101, 97]⟩)) (.const (.int .i64 1)) 114 rfl 9 3 law9 Tryz.underlying114 (plainElem (H := Unit) Tryz.prog 3) w.heap.size 1 _ rfl hown1 (by decide) _ _ (.string areaW) rfl rfl (keyOf_string_mk Tryz.underlying9 (by decide)) _ [] (plainElem_int Tryz.underlying3 (by decide)) ?_; intro w2 hown2 hg2)
    | (refine wp_insert_own _ rfl (.tmp 3) (.const (.string ⟨#[115, 116, 121, 108, 101]⟩)) (.const (.int .i64 2)) 114 rfl 9 3 law9 Tryz.underlying114 (plainElem (H := Unit) Tryz.prog 3) w.heap.size 2 _ rfl hown2 (by decide) _ _ (.string styleW) rfl rfl (keyOf_string_mk Tryz.underlying9 (by decide)) _ [] (plainElem_int Tryz.underlying3 (by decide)) ?_; intro w3 hown3 hg3)
    | (refine wp_insert_own _ rfl (.tmp 3) (.const (.string ⟨#[120, 109, 112]⟩)) (.const (.int .i64 2)) 114 rfl 9 3 law9 Tryz.underlying114 (plainElem (H := Unit) Tryz.prog 3) w.heap.size 3 _ rfl hown3 (by decide) _ _ (.string xmpW) rfl rfl (keyOf_string_mk Tryz.underlying9 (by decide)) _ [] (plainElem_int Tryz.underlying3 (by decide)) ?_; intro w4 hown4 hg4)
    | (refine wp_insert_own _ rfl (.tmp 3) (.const (.string ⟨#[105, 102, 114, 97, 109, 101]⟩)) (.const (.int .i64 2)) 114 rfl 9 3 law9 Tryz.underlying114 (plainElem (H := Unit) Tryz.prog 3) w.heap.size 4 _ rfl hown4 (by decide) _ _ (.string iframeW) rfl rfl (keyOf_string_mk Tryz.underlying9 (by decide)) _ [] (plainElem_int Tryz.underlying3 (by decide)) ?_; intro w5 hown5 hg5)
    | (refine wp_insert_own _ rfl (.tmp 3) (.const (.string ⟨#[110, 111, 101, 109, 98, 101, 100]⟩)) (.const (.int .i64 2)) 114 rfl 9 3 law9 Tryz.underlying114 (plainElem (H := Unit) Tryz.prog 3) w.heap.size 5 _ rfl hown5 (by decide) _ _ (.string noembedW) rfl rfl (keyOf_string_mk Tryz.underlying9 (by decide)) _ [] (plainElem_int Tryz.underlying3 (by decide)) ?_; intro w6 hown6 hg6)
    | (refine wp_insert_own _ rfl (.tmp 3) (.const (.string ⟨#[110, 111, 102, 114, 97, 109, 101, 115]⟩)) (.const (.int .i64 2)) 114 rfl 9 3 law9 Tryz.underlying114 (plainElem (H := Unit) Tryz.prog 3) w.heap.size 6 _ rfl hown6 (by decide) _ _ (.string noframesW) rfl rfl (keyOf_string_mk Tryz.underlying9 (by decide)) _ [] (plainElem_int Tryz.underlying3 (by decide)) ?_; intro w7 hown7 hg7)
    | (refine wp_insert_own _ rfl (.tmp 3) (.const (.string ⟨#[110, 111, 115, 99, 114, 105, 112, 116]⟩)) (.const (.int .i64 2)) 114 rfl 9 3 law9 Tryz.underlying114 (plainElem (H := Unit) Tryz.prog 3) w.heap.size 7 _ rfl hown7 (by decide) _ _ (.string noscriptW) rfl rfl (keyOf_string_mk Tryz.underlying9 (by decide)) _ [] (plainElem_int Tryz.underlying3 (by decide)) ?_; intro w8 hown8 hg8)
    | (refine wp_insert_own _ rfl (.tmp 3) (.const (.string ⟨#[115, 99, 114, 105, 112, 116]⟩)) (.const (.int .i64 3)) 114 rfl 9 3 law9 Tryz.underlying114 (plainElem (H := Unit) Tryz.prog 3) w.heap.size 8 _ rfl hown8 (by decide) _ _ (.string scriptL) rfl rfl (keyOf_string_mk Tryz.underlying9 (by decide)) _ [] (plainElem_int Tryz.underlying3 (by decide)) ?_; intro w9 hown9 hg9)
    | (refine wp_insert_own _ rfl (.tmp 3) (.const (.string ⟨#[112, 108, 97, 105, 110, 116, 101, 120, 116]⟩)) (.const (.int .i64 4)) 114 rfl 9 3 law9 Tryz.underlying114 (plainElem (H := Unit) Tryz.prog 3) w.heap.size 9 _ rfl hown9 (by decide) _ _ (.string plaintextW) rfl rfl (keyOf_string_mk Tryz.underlying9 (by decide)) _ [] (plainElem_int Tryz.underlying3 (by decide)) ?_; intro w10 hown10 hg10)
    | (at_lookup; refine wpList_lookup_own_int _ rfl _ _ 114 rfl 9 3 .i64 law9 Tryz.underlying114 Tryz.underlying3 (zero3 _) w.heap.size 10 _ rfl hown10 _ _ rfl hkey ?_; intro c hat hwc)
    | go_in)
  have hB1 := hB0.grown hg1 hB0.size (fun j hj => by cases hj; exact Nat.le_refl _)
  have hB2 := hB1.grown hg2 hB1.size (fun j hj => by cases hj; exact Nat.le_refl _)
  have hB3 := hB2.grown hg3 hB2.size (fun j hj => by cases hj; exact Nat.le_refl _)
  have hB4 := hB3.grown hg4 hB3.size (fun j hj => by cases hj; exact Nat.le_refl _)
  have hB5 := hB4.grown hg5 hB4.size (fun j hj => by cases hj; exact Nat.le_refl _)
  have hB6 := hB5.grown hg6 hB5.size (fun j hj => by cases hj; exact Nat.le_refl _)
  have hB7 := hB6.grown hg7 hB6.size (fun j hj => by cases hj; exact Nat.le_refl _)
  have hB8 := hB7.grown hg8 hB7.size (fun j hj => by cases hj; exact Nat.le_refl _)
  have hB9 := hB8.grown hg9 hB8.size (fun j hj => by cases hj; exact Nat.le_refl _)
  have hB10 := hB9.grown hg10 hB9.size (fun j hj => by cases hj; exact Nat.le_refl _)
  have hc : (DataW.lit (.int .i64 (N : Int)) : DataW Unit) = .lit (.int .i64 c) := hL.out.symm.trans hat
  have hc2 : c = (N : Int) := by injection hc with h1; injection h1 with _ h2; exact h2.symm
  go_ret
  exact ⟨by rw [hc2]; rfl, hB10⟩
end Go.Proofs.YtbdcghbafopjjaaGreatDoor.Hand
end

section
namespace Go.Proofs.YtbdcghbafopjjaaGreatDoor.St
open Go.RowKit Go.Proofs.YtbdcghbafopjjaaGreatDoor.K0 Go.Proofs.YtbdcghbafopjjaaGreatDoor.Hand Go.Proofs.YtbdcghbafopjjaaGreatDoor.Sa Go.Proofs.YtbdcghbafopjjaaGreatDoor.Si Go.Proofs.YtbdcghbafopjjaaGreatDoorW.PrintWords Go.Proofs.YtbdcghbafopjjaaGreatDoorW.PrintLast Go.Proofs.YtbdcghbafopjjaaGreatDoorW.PrintMore
attribute [local go_sem] max2_int min2_int max_two min_two max_three min_three max_four min_four  
set_option linter.unusedVariables false
set_option linter.unusedSimpArgs false
noncomputable def errW : Option Int → Value
  | none => .nilIface
  | some c => .iface 0 (.int .i64 c)
theorem errW_none : errW none = .nilIface := rfl
theorem errW_some (c : Int) : errW (some c) = .iface 0 (.int .i64 c) := rfl
theorem info28 : (Tryz.prog.info? 28).map (fun i => (i.zero, i.size, i.bytes)) = some (some (.agg #[(.int .i64 0), (.string ⟨#[]⟩), (.string ⟨#[]⟩), (.slice none 0 0), (.bool false)]), 5, 72) := by kernel_rfl
end Go.Proofs.YtbdcghbafopjjaaGreatDoor.St
end

section
namespace Go.Proofs.YtbdcghbafopjjaaGreatDoor.St
open Go.RowKit Go.Proofs.YtbdcghbafopjjaaGreatDoor.K0 Go.Proofs.YtbdcghbafopjjaaGreatDoor.Hand Go.Proofs.YtbdcghbafopjjaaGreatDoor.Sa Go.Proofs.YtbdcghbafopjjaaGreatDoor.Si Go.Proofs.YtbdcghbafopjjaaGreatDoorW.PrintWords Go.Proofs.YtbdcghbafopjjaaGreatDoorW.PrintLast Go.Proofs.YtbdcghbafopjjaaGreatDoorW.PrintMore
attribute [local go_sem] max2_int min2_int max_two min_two max_three min_three max_four min_four  
set_option linter.unusedVariables false
set_option linter.unusedSimpArgs false
noncomputable def tok_Next.f (a0 : ByteArray) (a1 : Int) : Option (Int × ByteArray × ByteArray × (List (S65)) × Bool × Int × Bool) := (tok_inside.f a0 a1).bind fun t102 => ((tag_Begins.f a0 t102).bind fun t103 => (if t103 = true then ((tag_Read.f a0 t102).bind fun bt104 => (some (bt104.1, bt104.2.1, bt104.2.2.1, bt104.2.2.2.1, bt104.2.2.2.2.1, bt104.2.2.2.2.2.1, bt104.2.2.2.2.2.2))) else ((comment_Begins.f a0 t102).bind fun t113 => (if t113 = true then ((comment_Read.f a0 t102).bind fun bt114 => (some (bt114.1, bt114.2.1, bt114.2.2.1, bt114.2.2.2.1, bt114.2.2.2.2.1, bt114.2.2.2.2.2.1, bt114.2.2.2.2.2.2))) else ((doctype_Begins.f a0 t102).bind fun t123 => (if t123 = true then ((doctype_Read.f a0 t102).bind fun bt124 => (some (bt124.1, bt124.2.1, bt124.2.2.1, bt124.2.2.2.1, bt124.2.2.2.2.1, bt124.2.2.2.2.2.1, bt124.2.2.2.2.2.2))) else ((sign_Begins.f a0 t102 (⟨#[60, 47, 62]⟩ : ByteArray)).bind fun t133 => (if t133 = true then (some (0, (⟨#[]⟩ : ByteArray), (⟨#[]⟩ : ByteArray), ([] : List (S65)), false, wrap64 (t102 + 3), false)) else ((text_Read.f a0 t102).bind fun bt134 => (if bt134.2 = t102 then (some (0, (⟨#[]⟩ : ByteArray), (⟨#[]⟩ : ByteArray), ([] : List (S65)), false, t102, false)) else (some (0, (⟨#[]⟩ : ByteArray), bt134.1, ([] : List (S65)), false, bt134.2, true))))))))))))
set_option maxHeartbeats 8000000 in
set_option maxRecDepth 100000 in
theorem tok_Next.calls (a0 : ByteArray) (a1 : Int) (r1 : Int) (r2 : ByteArray) (r3 : ByteArray) (r4 : List (S65)) (r5 : Bool) (r6 : Int) (r7 : Bool) (w : World) (hGl : Glob w) (h : tok_Next.f a0 a1 = some (r1, r2, r3, r4, r5, r6, r7)) :
    Calls Tryz.prog 35 #[.string a0, .int .i64 a1] w fun e w' => ∃ v3_ : Value, e = .returned (.tuple #[.agg #[.int .i64 r1, .string r2, .string r3, v3_, .bool r5], .int .i64 r6, .bool r7]) ∧ Kd.R k65 65 w' w.heap.size (fun _ => True) v3_ r4 ∧ Below w.heap.size w w' := by
  have hu28 := Tryz.underlying28
  have HB := Aside0.mk (Below.refl w.heap.size w)
  have H : ((tok_inside.f a0 a1).bind fun t102 => ((tag_Begins.f a0 t102).bind fun t103 => (if t103 = true then ((tag_Read.f a0 t102).bind fun bt104 => (some (bt104.1, bt104.2.1, bt104.2.2.1, bt104.2.2.2.1, bt104.2.2.2.2.1, bt104.2.2.2.2.2.1, bt104.2.2.2.2.2.2))) else ((comment_Begins.f a0 t102).bind fun t113 => (if t113 = true then ((comment_Read.f a0 t102).bind fun bt114 => (some (bt114.1, bt114.2.1, bt114.2.2.1, bt114.2.2.2.1, bt114.2.2.2.2.1, bt114.2.2.2.2.2.1, bt114.2.2.2.2.2.2))) else ((doctype_Begins.f a0 t102).bind fun t123 => (if t123 = true then ((doctype_Read.f a0 t102).bind fun bt124 => (some (bt124.1, bt124.2.1, bt124.2.2.1, bt124.2.2.2.1, bt124.2.2.2.2.1, bt124.2.2.2.2.2.1, bt124.2.2.2.2.2.2))) else ((sign_Begins.f a0 t102 (⟨#[60, 47, 62]⟩ : ByteArray)).bind fun t133 => (if t133 = true then (some (0, (⟨#[]⟩ : ByteArray), (⟨#[]⟩ : ByteArray), ([] : List (S65)), false, wrap64 (t102 + 3), false)) else ((text_Read.f a0 t102).bind fun bt134 => (if bt134.2 = t102 then (some (0, (⟨#[]⟩ : ByteArray), (⟨#[]⟩ : ByteArray), ([] : List (S65)), false, t102, false)) else (some (0, (⟨#[]⟩ : ByteArray), bt134.1, ([] : List (S65)), false, bt134.2, true))))))))))))) = some (r1, r2, r3, r4, r5, r6, r7) := h
  clear h
  replace H := Option.bind_eq_some_iff.mp H
  obtain ⟨t102, A30, H⟩ := H
  replace H : ((tag_Begins.f a0 t102).bind fun t103 => (if t103 = true then ((tag_Read.f a0 t102).bind fun bt104 => (some (bt104.1, bt104.2.1, bt104.2.2.1, bt104.2.2.2.1, bt104.2.2.2.2.1, bt104.2.2.2.2.2.1, bt104.2.2.2.2.2.2))) else ((comment_Begins.f a0 t102).bind fun t113 => (if t113 = true then ((comment_Read.f a0 t102).bind fun bt114 => (some (bt114.1, bt114.2.1, bt114.2.2.1, bt114.2.2.2.1, bt114.2.2.2.2.1, bt114.2.2.2.2.2.1, bt114.2.2.2.2.2.2))) else ((doctype_Begins.f a0 t102).bind fun t123 => (if t123 = true then ((doctype_Read.f a0 t102).bind fun bt124 => (some (bt124.1, bt124.2.1, bt124.2.2.1, bt124.2.2.2.1, bt124.2.2.2.2.1, bt124.2.2.2.2.2.1, bt124.2.2.2.2.2.2))) else ((sign_Begins.f a0 t102 (⟨#[60, 47, 62]⟩ : ByteArray)).bind fun t133 => (if t133 = true then (some (0, (⟨#[]⟩ : ByteArray), (⟨#[]⟩ : ByteArray), ([] : List (S65)), false, wrap64 (t102 + 3), false)) else ((text_Read.f a0 t102).bind fun bt134 => (if bt134.2 = t102 then (some (0, (⟨#[]⟩ : ByteArray), (⟨#[]⟩ : ByteArray), ([] : List (S65)), false, t102, false)) else (some (0, (⟨#[]⟩ : ByteArray), bt134.1, ([] : List (S65)), false, bt134.2, true)))))))))))) = some (r1, r2, r3, r4, r5, r6, r7) := H
  have A3 := Aside0.mk A30
  clear A30
  replace H := Option.bind_eq_some_iff.mp H
  obtain ⟨t103, A40, H⟩ := H
  replace H : (if t103 = true then ((tag_Read.f a0 t102).bind fun bt104 => (some (bt104.1, bt104.2.1, bt104.2.2.1, bt104.2.2.2.1, bt104.2.2.2.2.1, bt104.2.2.2.2.2.1, bt104.2.2.2.2.2.2))) else ((comment_Begins.f a0 t102).bind fun t113 => (if t113 = true then ((comment_Read.f a0 t102).bind fun bt114 => (some (bt114.1, bt114.2.1, bt114.2.2.1, bt114.2.2.2.1, bt114.2.2.2.2.1, bt114.2.2.2.2.2.1, bt114.2.2.2.2.2.2))) else ((doctype_Begins.f a0 t102).bind fun t123 => (if t123 = true then ((doctype_Read.f a0 t102).bind fun bt124 => (some (bt124.1, bt124.2.1, bt124.2.2.1, bt124.2.2.2.1, bt124.2.2.2.2.1, bt124.2.2.2.2.2.1, bt124.2.2.2.2.2.2))) else ((sign_Begins.f a0 t102 (⟨#[60, 47, 62]⟩ : ByteArray)).bind fun t133 => (if t133 = true then (some (0, (⟨#[]⟩ : ByteArray), (⟨#[]⟩ : ByteArray), ([] : List (S65)), false, wrap64 (t102 + 3), false)) else ((text_Read.f a0 t102).bind fun bt134 => (if bt134.2 = t102 then (some (0, (⟨#[]⟩ : ByteArray), (⟨#[]⟩ : ByteArray), ([] : List (S65)), false, t102, false)) else (some (0, (⟨#[]⟩ : ByteArray), bt134.1, ([] : List (S65)), false, bt134.2, true))))))))))) = some (r1, r2, r3, r4, r5, r6, r7) := H
  have A4 := Aside0.mk A40
  clear A40
  by_cases c5 : t103 = true
  · subst c5
    have H1 : ((tag_Read.f a0 t102).bind fun bt104 => (some (bt104.1, bt104.2.1, bt104.2.2.1, bt104.2.2.2.1, bt104.2.2.2.2.1, bt104.2.2.2.2.2.1, bt104.2.2.2.2.2.2))) = some (r1, r2, r3, r4, r5, r6, r7) := by rw [if_pos rfl] at H; exact H
    clear H
    have H := H1
    clear H1
    replace H := Option.bind_eq_some_iff.mp H
    obtain ⟨⟨t104, t105, t106, t107, t110, t111, t112⟩, A60, H⟩ := H
    replace H : (some (t104, t105, t106, t107, t110, t111, t112)) = some (r1, r2, r3, r4, r5, r6, r7) := H
    have A6 := Aside0.mk A60
    clear A60
    simp only [Option.some.injEq, Prod.mk.injEq] at H
    obtain ⟨rfl, rfl, rfl, rfl, rfl, rfl, rfl⟩ := H
    go_enter Tryz.func35, Tryz.ntmps35
    go_wp2_with (first | ((with_reducible refine gate_dst (N := 4) rfl ?_); refine box_event ?hg (N := 4) ?hd (cs := #[.int .i64 0, .string (⟨#[]⟩ : ByteArray), .string (⟨#[]⟩ : ByteArray), .slice none 0 0, .bool false]) (t := 28) ?hr ?_; (case hd => rfl); (case hg => rfl); (case hr => first | (go_simp; done) | (go_simp; rfl)); intro gb101 hg w7 hbox hb; have n0_ := Aside0.mk (below_step (by repeat (first | (with_reducible first | exact HB.out | apply below_alloc | apply pw_below_drewN | apply below_drew1) | exact HB.out)) hb); have n1_ := Aside0.mk (hbox); have n2_ := Aside0.mk ((by rw [hg]; exact (below_size (by repeat (first | (with_reducible first | exact HB.out | apply below_alloc | apply pw_below_drewN | apply below_drew1) | exact HB.out))) : w.heap.size ≤ gb101)); have n3_ := Aside0.mk ((by rw [hg]; exact (below_size (by repeat (first | (with_reducible first | exact HB.out | apply below_alloc | apply pw_below_drewN | apply below_drew1) | exact HB.out))) : w.heap.size ≤ gb101)); clear HB; have HB := n0_; have BK101 := n1_; have GW101 := n2_; have GE101 := n3_; clear n0_ n1_ n2_ n3_; clear hb hbox hg) | ((with_reducible refine gate_callee (f := 60) rfl ?_); refine goesL_ (some 10) rfl rfl Tryz.func60 (by kernel_rfl) rfl #[.string a0, .int .i64 a1] rfl (by (try simp only [List.map_toArray, List.map_cons, List.map_nil]); first | done | rfl | (simp only [List.length_drop, List.length_take]; rfl)) ?_; (with_reducible refine (tok_inside.calls a0 a1 t102 _ A3.out).mono ?_); rintro e w8 ⟨rfl, hb⟩; refine ⟨_, rfl, ?_⟩; have n0_ := Aside0.mk (blk_below (g := gb101) (o := .cells #[.int .i64 0, .string (⟨#[]⟩ : ByteArray), .string (⟨#[]⟩ : ByteArray), .slice none 0 0, .bool false] 28 (0, 0)) (by (with_reducible repeat (first | refine blk_drewN ?_ _ | refine blk_drew ?_ | refine blk_alloc ?_ _)); exact BK101.out) hb); have n1_ := Aside0.mk (below_step (by repeat (first | (with_reducible first | exact HB.out | apply below_alloc | apply pw_below_drewN | apply below_drew1 | refine below_set ?_ GE101.out) | exact HB.out)) hb); clear BK101; clear HB; have BK101 := n0_; have HB := n1_; clear n0_ n1_; (try clear hb); (try clear hb2); (try clear hk); (try clear hi)) | ((with_reducible refine gate_callee (f := 63) rfl ?_); refine goesL_ (some 14) rfl rfl Tryz.func63 (by kernel_rfl) rfl #[.string a0, .int .i64 t102] rfl (by (try simp only [List.map_toArray, List.map_cons, List.map_nil]); first | done | rfl | (simp only [List.length_drop, List.length_take]; rfl)) ?_; (with_reducible refine (tag_Begins.calls a0 t102 true _ A4.out).mono ?_); rintro e w9 ⟨rfl, hb⟩; refine ⟨_, rfl, ?_⟩; have n0_ := Aside0.mk (blk_below (g := gb101) (o := .cells #[.int .i64 0, .string (⟨#[]⟩ : ByteArray), .string (⟨#[]⟩ : ByteArray), .slice none 0 0, .bool false] 28 (0, 0)) (by (with_reducible repeat (first | refine blk_drewN ?_ _ | refine blk_drew ?_ | refine blk_alloc ?_ _)); exact BK101.out) hb); have n1_ := Aside0.mk (below_step (by repeat (first | (with_reducible first | exact HB.out | apply below_alloc | apply pw_below_drewN | apply below_drew1 | refine below_set ?_ GE101.out) | exact HB.out)) hb); clear BK101; clear HB; have BK101 := n0_; have HB := n1_; clear n0_ n1_; (try clear hb); (try clear hb2); (try clear hk); (try clear hi)) | ((with_reducible refine gate_callee (f := 62) rfl ?_); refine goesL_ (some 17) rfl rfl Tryz.func62 (by kernel_rfl) rfl #[.string a0, .int .i64 t102] rfl (by (try simp only [List.map_toArray, List.map_cons, List.map_nil]); first | done | rfl | (simp only [List.length_drop, List.length_take]; rfl)) ?_; (with_reducible refine (tag_Read.calls a0 t102 t104 t105 t106 t107 t110 t111 t112 _ ?side1 A6.out).mono ?_); (case side1 => exact Glob.step hGl (by repeat (first | (with_reducible first | exact HB.out | apply below_alloc | apply pw_below_drewN | apply below_drew1 | refine below_set ?_ GE101.out) | exact HB.out))); rintro e w10 ⟨v108, rfl, ho0, hb⟩; refine ⟨_, rfl, ?_⟩; have n0_ := Aside0.mk (Kd.R_lower ho0 (below_size (by repeat (first | (with_reducible first | exact HB.out | apply below_alloc | apply pw_below_drewN | apply below_drew1 | refine below_set ?_ GE101.out) | exact HB.out)))); have n1_ := Aside0.mk (blk_below (g := gb101) (o := .cells #[.int .i64 0, .string (⟨#[]⟩ : ByteArray), .string (⟨#[]⟩ : ByteArray), .slice none 0 0, .bool false] 28 (0, 0)) (by (with_reducible repeat (first | refine blk_drewN ?_ _ | refine blk_drew ?_ | refine blk_alloc ?_ _)); exact BK101.out) hb); have n2_ := Aside0.mk (below_step (by repeat (first | (with_reducible first | exact HB.out | apply below_alloc | apply pw_below_drewN | apply below_drew1 | refine below_set ?_ GE101.out) | exact HB.out)) hb); clear BK101; clear HB; have HO109 := n0_; have BK101 := n1_; have HB := n2_; clear n0_ n1_ n2_; (try clear hb); (try clear hb2); (try clear hk); (try clear hi); (try clear ho0); have hcz11_0 : w10.cell? ⟨gb101, 0, none⟩ = some (.int .i64 0) := (blk_cell BK101.out 0).trans rfl; have hcz11_1 : w10.cell? ⟨gb101, 1, none⟩ = some (.string (⟨#[]⟩ : ByteArray)) := (blk_cell BK101.out 1).trans rfl; have hcz11_2 : w10.cell? ⟨gb101, 2, none⟩ = some (.string (⟨#[]⟩ : ByteArray)) := (blk_cell BK101.out 2).trans rfl; have hcz11_3 : w10.cell? ⟨gb101, 3, none⟩ = some (.slice none 0 0) := (blk_cell BK101.out 3).trans rfl; have hcz11_4 : w10.cell? ⟨gb101, 4, none⟩ = some (.bool false) := (blk_cell BK101.out 4).trans rfl; have hfz11_0 := blk_frozen BK101.out 0; have hfz11_1 := blk_frozen BK101.out 1; have hfz11_2 := blk_frozen BK101.out 2; have hfz11_3 := blk_frozen BK101.out 3; have hfz11_4 := blk_frozen BK101.out 4; obtain ⟨Ao12, co12, eo12⟩ := Kd.R_slice HO109.out; subst eo12))
    refine bodyPost_ret (results_ctt rfl _ _ gb101 28 #[.int .i64 t104, .string t105, .string t106, .slice Ao12 t107.length co12, .bool t110] (0, 0) _ rfl (by (with_reducible repeat (first | refine blk_drewN ?_ _ | refine blk_drew ?_ | refine blk_alloc ?_ _)); refine blk_put (cs := #[.int .i64 t104, .string t105, .string t106, .slice Ao12 t107.length co12, .bool false]) ?_ 4 _ rfl; (with_reducible repeat (first | refine blk_drewN ?_ _ | refine blk_drew ?_ | refine blk_alloc ?_ _)); refine blk_put (cs := #[.int .i64 t104, .string t105, .string t106, .slice none 0 0, .bool false]) ?_ 3 _ rfl; (with_reducible repeat (first | refine blk_drewN ?_ _ | refine blk_drew ?_ | refine blk_alloc ?_ _)); refine blk_put (cs := #[.int .i64 t104, .string t105, .string (⟨#[]⟩ : ByteArray), .slice none 0 0, .bool false]) ?_ 2 _ rfl; (with_reducible repeat (first | refine blk_drewN ?_ _ | refine blk_drew ?_ | refine blk_alloc ?_ _)); refine blk_put (cs := #[.int .i64 t104, .string (⟨#[]⟩ : ByteArray), .string (⟨#[]⟩ : ByteArray), .slice none 0 0, .bool false]) ?_ 1 _ rfl; (with_reducible repeat (first | refine blk_drewN ?_ _ | refine blk_drew ?_ | refine blk_alloc ?_ _)); refine blk_put (cs := #[.int .i64 0, .string (⟨#[]⟩ : ByteArray), .string (⟨#[]⟩ : ByteArray), .slice none 0 0, .bool false]) ?_ 0 _ rfl; (with_reducible repeat (first | refine blk_drewN ?_ _ | refine blk_drew ?_ | refine blk_alloc ?_ _)); exact BK101.out) Tryz.underlying28 rfl (by kernel_rfl)) rfl ?_
    exact ⟨_, by first | rfl | (simp [errW_none, errW_some] <;> rfl) | (simp [*, errW_none, errW_some] <;> rfl), by (with_reducible repeat (first | apply Kd.R_alloc | apply Kd.R_drewN | apply Kd.R_drew)); exact Kd.R_mono (Kd.R_far (p := ⟨gb101, 4, none⟩) (Kd.R_far (p := ⟨gb101, 3, none⟩) (Kd.R_far (p := ⟨gb101, 2, none⟩) (Kd.R_far (p := ⟨gb101, 1, none⟩) (Kd.R_far (p := ⟨gb101, 0, none⟩) (Kd.R_types HO109.out BK101.out (by decide)) (fun _ hk => hk.2) (.int .i64 t104)) (fun _ hk => hk.2) (.string t105)) (fun _ hk => hk.2) (.string t106)) (fun _ hk => hk.2) (.slice Ao12 t107.length co12)) (fun _ hk => hk.2) (.bool t110)) (fun _ hk => trivial), by repeat (first | (with_reducible first | exact HB.out | apply below_alloc | apply pw_below_drewN | apply below_drew1 | refine below_set ?_ GE101.out) | exact HB.out)⟩
  · replace c5 := Bool.eq_false_iff.mpr c5
    subst c5
    have H1 : ((comment_Begins.f a0 t102).bind fun t113 => (if t113 = true then ((comment_Read.f a0 t102).bind fun bt114 => (some (bt114.1, bt114.2.1, bt114.2.2.1, bt114.2.2.2.1, bt114.2.2.2.2.1, bt114.2.2.2.2.2.1, bt114.2.2.2.2.2.2))) else ((doctype_Begins.f a0 t102).bind fun t123 => (if t123 = true then ((doctype_Read.f a0 t102).bind fun bt124 => (some (bt124.1, bt124.2.1, bt124.2.2.1, bt124.2.2.2.1, bt124.2.2.2.2.1, bt124.2.2.2.2.2.1, bt124.2.2.2.2.2.2))) else ((sign_Begins.f a0 t102 (⟨#[60, 47, 62]⟩ : ByteArray)).bind fun t133 => (if t133 = true then (some (0, (⟨#[]⟩ : ByteArray), (⟨#[]⟩ : ByteArray), ([] : List (S65)), false, wrap64 (t102 + 3), false)) else ((text_Read.f a0 t102).bind fun bt134 => (if bt134.2 = t102 then (some (0, (⟨#[]⟩ : ByteArray), (⟨#[]⟩ : ByteArray), ([] : List (S65)), false, t102, false)) else (some (0, (⟨#[]⟩ : ByteArray), bt134.1, ([] : List (S65)), false, bt134.2, true)))))))))) = some (r1, r2, r3, r4, r5, r6, r7) := by rw [if_neg (show ¬ (false = true) by decide)] at H; exact H
    clear H
    have H := H1
    clear H1
    replace H := Option.bind_eq_some_iff.mp H
    obtain ⟨t113, A130, H⟩ := H
    replace H : (if t113 = true then ((comment_Read.f a0 t102).bind fun bt114 => (some (bt114.1, bt114.2.1, bt114.2.2.1, bt114.2.2.2.1, bt114.2.2.2.2.1, bt114.2.2.2.2.2.1, bt114.2.2.2.2.2.2))) else ((doctype_Begins.f a0 t102).bind fun t123 => (if t123 = true then ((doctype_Read.f a0 t102).bind fun bt124 => (some (bt124.1, bt124.2.1, bt124.2.2.1, bt124.2.2.2.1, bt124.2.2.2.2.1, bt124.2.2.2.2.2.1, bt124.2.2.2.2.2.2))) else ((sign_Begins.f a0 t102 (⟨#[60, 47, 62]⟩ : ByteArray)).bind fun t133 => (if t133 = true then (some (0, (⟨#[]⟩ : ByteArray), (⟨#[]⟩ : ByteArray), ([] : List (S65)), false, wrap64 (t102 + 3), false)) else ((text_Read.f a0 t102).bind fun bt134 => (if bt134.2 = t102 then (some (0, (⟨#[]⟩ : ByteArray), (⟨#[]⟩ : ByteArray), ([] : List (S65)), false, t102, false)) else (some (0, (⟨#[]⟩ : ByteArray), bt134.1, ([] : List (S65)), false, bt134.2, true))))))))) = some (r1, r2, r3, r4, r5, r6, r7) := H
    have A13 := Aside0.mk A130
    clear A130
    by_cases c14 : t113 = true
    · subst c14
      have H1 : ((comment_Read.f a0 t102).bind fun bt114 => (some (bt114.1, bt114.2.1, bt114.2.2.1, bt114.2.2.2.1, bt114.2.2.2.2.1, bt114.2.2.2.2.2.1, bt114.2.2.2.2.2.2))) = some (r1, r2, r3, r4, r5, r6, r7) := by rw [if_pos rfl] at H; exact H
      clear H
      have H := H1
      clear H1
      replace H := Option.bind_eq_some_iff.mp H
      obtain ⟨⟨t114, t115, t116, t117, t120, t121, t122⟩, A150, H⟩ := H
      replace H : (some (t114, t115, t116, t117, t120, t121, t122)) = some (r1, r2, r3, r4, r5, r6, r7) := H
      have A15 := Aside0.mk A150
      clear A150
      simp only [Option.some.injEq, Prod.mk.injEq] at H
      obtain ⟨rfl, rfl, rfl, rfl, rfl, rfl, rfl⟩ := H
      go_enter Tryz.func35, Tryz.ntmps35
      go_wp2_with (first | ((with_reducible refine gate_dst (N := 4) rfl ?_); refine box_event ?hg (N := 4) ?hd (cs := #[.int .i64 0, .string (⟨#[]⟩ : ByteArray), .string (⟨#[]⟩ : ByteArray), .slice none 0 0, .bool false]) (t := 28) ?hr ?_; (case hd => rfl); (case hg => rfl); (case hr => first | (go_simp; done) | (go_simp; rfl)); intro gb101 hg w16 hbox hb; have n0_ := Aside0.mk (below_step (by repeat (first | (with_reducible first | exact HB.out | apply below_alloc | apply pw_below_drewN | apply below_drew1) | exact HB.out)) hb); have n1_ := Aside0.mk (hbox); have n2_ := Aside0.mk ((by rw [hg]; exact (below_size (by repeat (first | (with_reducible first | exact HB.out | apply below_alloc | apply pw_below_drewN | apply below_drew1) | exact HB.out))) : w.heap.size ≤ gb101)); have n3_ := Aside0.mk ((by rw [hg]; exact (below_size (by repeat (first | (with_reducible first | exact HB.out | apply below_alloc | apply pw_below_drewN | apply below_drew1) | exact HB.out))) : w.heap.size ≤ gb101)); clear HB; have HB := n0_; have BK101 := n1_; have GW101 := n2_; have GE101 := n3_; clear n0_ n1_ n2_ n3_; clear hb hbox hg) | ((with_reducible refine gate_callee (f := 60) rfl ?_); refine goesL_ (some 10) rfl rfl Tryz.func60 (by kernel_rfl) rfl #[.string a0, .int .i64 a1] rfl (by (try simp only [List.map_toArray, List.map_cons, List.map_nil]); first | done | rfl | (simp only [List.length_drop, List.length_take]; rfl)) ?_; (with_reducible refine (tok_inside.calls a0 a1 t102 _ A3.out).mono ?_); rintro e w17 ⟨rfl, hb⟩; refine ⟨_, rfl, ?_⟩; have n0_ := Aside0.mk (blk_below (g := gb101) (o := .cells #[.int .i64 0, .string (⟨#[]⟩ : ByteArray), .string (⟨#[]⟩ : ByteArray), .slice none 0 0, .bool false] 28 (0, 0)) (by (with_reducible repeat (first | refine blk_drewN ?_ _ | refine blk_drew ?_ | refine blk_alloc ?_ _)); exact BK101.out) hb); have n1_ := Aside0.mk (below_step (by repeat (first | (with_reducible first | exact HB.out | apply below_alloc | apply pw_below_drewN | apply below_drew1 | refine below_set ?_ GE101.out) | exact HB.out)) hb); clear BK101; clear HB; have BK101 := n0_; have HB := n1_; clear n0_ n1_; (try clear hb); (try clear hb2); (try clear hk); (try clear hi)) | ((with_reducible refine gate_callee (f := 63) rfl ?_); refine goesL_ (some 14) rfl rfl Tryz.func63 (by kernel_rfl) rfl #[.string a0, .int .i64 t102] rfl (by (try simp only [List.map_toArray, List.map_cons, List.map_nil]); first | done | rfl | (simp only [List.length_drop, List.length_take]; rfl)) ?_; (with_reducible refine (tag_Begins.calls a0 t102 false _ A4.out).mono ?_); rintro e w18 ⟨rfl, hb⟩; refine ⟨_, rfl, ?_⟩; have n0_ := Aside0.mk (blk_below (g := gb101) (o := .cells #[.int .i64 0, .string (⟨#[]⟩ : ByteArray), .string (⟨#[]⟩ : ByteArray), .slice none 0 0, .bool false] 28 (0, 0)) (by (with_reducible repeat (first | refine blk_drewN ?_ _ | refine blk_drew ?_ | refine blk_alloc ?_ _)); exact BK101.out) hb); have n1_ := Aside0.mk (below_step (by repeat (first | (with_reducible first | exact HB.out | apply below_alloc | apply pw_below_drewN | apply below_drew1 | refine below_set ?_ GE101.out) | exact HB.out)) hb); clear BK101; clear HB; have BK101 := n0_; have HB := n1_; clear n0_ n1_; (try clear hb); (try clear hb2); (try clear hk); (try clear hi)) | ((with_reducible refine gate_callee (f := 64) rfl ?_); refine goesL_ (some 24) rfl rfl Tryz.func64 (by kernel_rfl) rfl #[.string a0, .int .i64 t102] rfl (by (try simp only [List.map_toArray, List.map_cons, List.map_nil]); first | done | rfl | (simp only [List.length_drop, List.length_take]; rfl)) ?_; (with_reducible refine (comment_Begins.calls a0 t102 true _ A13.out).mono ?_); rintro e w19 ⟨rfl, hb⟩; refine ⟨_, rfl, ?_⟩; have n0_ := Aside0.mk (blk_below (g := gb101) (o := .cells #[.int .i64 0, .string (⟨#[]⟩ : ByteArray), .string (⟨#[]⟩ : ByteArray), .slice none 0 0, .bool false] 28 (0, 0)) (by (with_reducible repeat (first | refine blk_drewN ?_ _ | refine blk_drew ?_ | refine blk_alloc ?_ _)); exact BK101.out) hb); have n1_ := Aside0.mk (below_step (by repeat (first | (with_reducible first | exact HB.out | apply below_alloc | apply pw_below_drewN | apply below_drew1 | refine below_set ?_ GE101.out) | exact HB.out)) hb); clear BK101; clear HB; have BK101 := n0_; have HB := n1_; clear n0_ n1_; (try clear hb); (try clear hb2); (try clear hk); (try clear hi)) | ((with_reducible refine gate_callee (f := 65) rfl ?_); refine goesL_ (some 27) rfl rfl Tryz.func65 (by kernel_rfl) rfl #[.string a0, .int .i64 t102] rfl (by (try simp only [List.map_toArray, List.map_cons, List.map_nil]); first | done | rfl | (simp only [List.length_drop, List.length_take]; rfl)) ?_; (with_reducible refine (comment_Read.calls a0 t102 t114 t115 t116 t117 t120 t121 t122 _ ?side1 A15.out).mono ?_); (case side1 => exact Glob.step hGl (by repeat (first | (with_reducible first | exact HB.out | apply below_alloc | apply pw_below_drewN | apply below_drew1 | refine below_set ?_ GE101.out) | exact HB.out))); rintro e w20 ⟨v118, rfl, ho0, hb⟩; refine ⟨_, rfl, ?_⟩; have n0_ := Aside0.mk (Kd.R_lower ho0 (below_size (by repeat (first | (with_reducible first | exact HB.out | apply below_alloc | apply pw_below_drewN | apply below_drew1 | refine below_set ?_ GE101.out) | exact HB.out)))); have n1_ := Aside0.mk (blk_below (g := gb101) (o := .cells #[.int .i64 0, .string (⟨#[]⟩ : ByteArray), .string (⟨#[]⟩ : ByteArray), .slice none 0 0, .bool false] 28 (0, 0)) (by (with_reducible repeat (first | refine blk_drewN ?_ _ | refine blk_drew ?_ | refine blk_alloc ?_ _)); exact BK101.out) hb); have n2_ := Aside0.mk (below_step (by repeat (first | (with_reducible first | exact HB.out | apply below_alloc | apply pw_below_drewN | apply below_drew1 | refine below_set ?_ GE101.out) | exact HB.out)) hb); clear BK101; clear HB; have HO119 := n0_; have BK101 := n1_; have HB := n2_; clear n0_ n1_ n2_; (try clear hb); (try clear hb2); (try clear hk); (try clear hi); (try clear ho0); have hcz21_0 : w20.cell? ⟨gb101, 0, none⟩ = some (.int .i64 0) := (blk_cell BK101.out 0).trans rfl; have hcz21_1 : w20.cell? ⟨gb101, 1, none⟩ = some (.string (⟨#[]⟩ : ByteArray)) := (blk_cell BK101.out 1).trans rfl; have hcz21_2 : w20.cell? ⟨gb101, 2, none⟩ = some (.string (⟨#[]⟩ : ByteArray)) := (blk_cell BK101.out 2).trans rfl; have hcz21_3 : w20.cell? ⟨gb101, 3, none⟩ = some (.slice none 0 0) := (blk_cell BK101.out 3).trans rfl; have hcz21_4 : w20.cell? ⟨gb101, 4, none⟩ = some (.bool false) := (blk_cell BK101.out 4).trans rfl; have hfz21_0 := blk_frozen BK101.out 0; have hfz21_1 := blk_frozen BK101.out 1; have hfz21_2 := blk_frozen BK101.out 2; have hfz21_3 := blk_frozen BK101.out 3; have hfz21_4 := blk_frozen BK101.out 4; obtain ⟨Ao22, co22, eo22⟩ := Kd.R_slice HO119.out; subst eo22))
      refine bodyPost_ret (results_ctt rfl _ _ gb101 28 #[.int .i64 t114, .string t115, .string t116, .slice Ao22 t117.length co22, .bool t120] (0, 0) _ rfl (by (with_reducible repeat (first | refine blk_drewN ?_ _ | refine blk_drew ?_ | refine blk_alloc ?_ _)); refine blk_put (cs := #[.int .i64 t114, .string t115, .string t116, .slice Ao22 t117.length co22, .bool false]) ?_ 4 _ rfl; (with_reducible repeat (first | refine blk_drewN ?_ _ | refine blk_drew ?_ | refine blk_alloc ?_ _)); refine blk_put (cs := #[.int .i64 t114, .string t115, .string t116, .slice none 0 0, .bool false]) ?_ 3 _ rfl; (with_reducible repeat (first | refine blk_drewN ?_ _ | refine blk_drew ?_ | refine blk_alloc ?_ _)); refine blk_put (cs := #[.int .i64 t114, .string t115, .string (⟨#[]⟩ : ByteArray), .slice none 0 0, .bool false]) ?_ 2 _ rfl; (with_reducible repeat (first | refine blk_drewN ?_ _ | refine blk_drew ?_ | refine blk_alloc ?_ _)); refine blk_put (cs := #[.int .i64 t114, .string (⟨#[]⟩ : ByteArray), .string (⟨#[]⟩ : ByteArray), .slice none 0 0, .bool false]) ?_ 1 _ rfl; (with_reducible repeat (first | refine blk_drewN ?_ _ | refine blk_drew ?_ | refine blk_alloc ?_ _)); refine blk_put (cs := #[.int .i64 0, .string (⟨#[]⟩ : ByteArray), .string (⟨#[]⟩ : ByteArray), .slice none 0 0, .bool false]) ?_ 0 _ rfl; (with_reducible repeat (first | refine blk_drewN ?_ _ | refine blk_drew ?_ | refine blk_alloc ?_ _)); exact BK101.out) Tryz.underlying28 rfl (by kernel_rfl)) rfl ?_
      exact ⟨_, by first | rfl | (simp [errW_none, errW_some] <;> rfl) | (simp [*, errW_none, errW_some] <;> rfl), by (with_reducible repeat (first | apply Kd.R_alloc | apply Kd.R_drewN | apply Kd.R_drew)); exact Kd.R_mono (Kd.R_far (p := ⟨gb101, 4, none⟩) (Kd.R_far (p := ⟨gb101, 3, none⟩) (Kd.R_far (p := ⟨gb101, 2, none⟩) (Kd.R_far (p := ⟨gb101, 1, none⟩) (Kd.R_far (p := ⟨gb101, 0, none⟩) (Kd.R_types HO119.out BK101.out (by decide)) (fun _ hk => hk.2) (.int .i64 t114)) (fun _ hk => hk.2) (.string t115)) (fun _ hk => hk.2) (.string t116)) (fun _ hk => hk.2) (.slice Ao22 t117.length co22)) (fun _ hk => hk.2) (.bool t120)) (fun _ hk => trivial), by repeat (first | (with_reducible first | exact HB.out | apply below_alloc | apply pw_below_drewN | apply below_drew1 | refine below_set ?_ GE101.out) | exact HB.out)⟩
    · replace c14 := Bool.eq_false_iff.mpr c14
      subst c14
      have H1 : ((doctype_Begins.f a0 t102).bind fun t123 => (if t123 = true then ((doctype_Read.f a0 t102).bind fun bt124 => (some (bt124.1, bt124.2.1, bt124.2.2.1, bt124.2.2.2.1, bt124.2.2.2.2.1, bt124.2.2.2.2.2.1, bt124.2.2.2.2.2.2))) else ((sign_Begins.f a0 t102 (⟨#[60, 47, 62]⟩ : ByteArray)).bind fun t133 => (if t133 = true then (some (0, (⟨#[]⟩ : ByteArray), (⟨#[]⟩ : ByteArray), ([] : List (S65)), false, wrap64 (t102 + 3), false)) else ((text_Read.f a0 t102).bind fun bt134 => (if bt134.2 = t102 then (some (0, (⟨#[]⟩ : ByteArray), (⟨#[]⟩ : ByteArray), ([] : List (S65)), false, t102, false)) else (some (0, (⟨#[]⟩ : ByteArray), bt134.1, ([] : List (S65)), false, bt134.2, true)))))))) = some (r1, r2, r3, r4, r5, r6, r7) := by rw [if_neg (show ¬ (false = true) by decide)] at H; exact H
      clear H
      have H := H1
      clear H1
      replace H := Option.bind_eq_some_iff.mp H
      obtain ⟨t123, A230, H⟩ := H
      replace H : (if t123 = true then ((doctype_Read.f a0 t102).bind fun bt124 => (some (bt124.1, bt124.2.1, bt124.2.2.1, bt124.2.2.2.1, bt124.2.2.2.2.1, bt124.2.2.2.2.2.1, bt124.2.2.2.2.2.2))) else ((sign_Begins.f a0 t102 (⟨#[60, 47, 62]⟩ : ByteArray)).bind fun t133 => (if t133 = true then (some (0, (⟨#[]⟩ : ByteArray), (⟨#[]⟩ : ByteArray), ([] : List (S65)), false, wrap64 (t102 + 3), false)) else ((text_Read.f a0 t102).bind fun bt134 => (if bt134.2 = t102 then (some (0, (⟨#[]⟩ : ByteArray), (⟨#[]⟩ : ByteArray), ([] : List (S65)), false, t102, false)) else (some (0, (⟨#[]⟩ : ByteArray), bt134.1, ([] : List (S65)), false, bt134.2, true))))))) = some (r1, r2, r3, r4, r5, r6, r7) := H
      have A23 := Aside0.mk A230
      clear A230
      by_cases c24 : t123 = true
      · subst c24
        have H1 : ((doctype_Read.f a0 t102).bind fun bt124 => (some (bt124.1, bt124.2.1, bt124.2.2.1, bt124.2.2.2.1, bt124.2.2.2.2.1, bt124.2.2.2.2.2.1, bt124.2.2.2.2.2.2))) = some (r1, r2, r3, r4, r5, r6, r7) := by rw [if_pos rfl] at H; exact H
        clear H
        have H := H1
        clear H1
        replace H := Option.bind_eq_some_iff.mp H
        obtain ⟨⟨t124, t125, t126, t127, t130, t131, t132⟩, A250, H⟩ := H
        replace H : (some (t124, t125, t126, t127, t130, t131, t132)) = some (r1, r2, r3, r4, r5, r6, r7) := H
        have A25 := Aside0.mk A250
        clear A250
        simp only [Option.some.injEq, Prod.mk.injEq] at H
        obtain ⟨rfl, rfl, rfl, rfl, rfl, rfl, rfl⟩ := H
        go_enter Tryz.func35, Tryz.ntmps35
        go_wp2_with (first | ((with_reducible refine gate_dst (N := 4) rfl ?_); refine box_event ?hg (N := 4) ?hd (cs := #[.int .i64 0, .string (⟨#[]⟩ : ByteArray), .string (⟨#[]⟩ : ByteArray), .slice none 0 0, .bool false]) (t := 28) ?hr ?_; (case hd => rfl); (case hg => rfl); (case hr => first | (go_simp; done) | (go_simp; rfl)); intro gb101 hg w26 hbox hb; have n0_ := Aside0.mk (below_step (by repeat (first | (with_reducible first | exact HB.out | apply below_alloc | apply pw_below_drewN | apply below_drew1) | exact HB.out)) hb); have n1_ := Aside0.mk (hbox); have n2_ := Aside0.mk ((by rw [hg]; exact (below_size (by repeat (first | (with_reducible first | exact HB.out | apply below_alloc | apply pw_below_drewN | apply below_drew1) | exact HB.out))) : w.heap.size ≤ gb101)); have n3_ := Aside0.mk ((by rw [hg]; exact (below_size (by repeat (first | (with_reducible first | exact HB.out | apply below_alloc | apply pw_below_drewN | apply below_drew1) | exact HB.out))) : w.heap.size ≤ gb101)); clear HB; have HB := n0_; have BK101 := n1_; have GW101 := n2_; have GE101 := n3_; clear n0_ n1_ n2_ n3_; clear hb hbox hg) | ((with_reducible refine gate_callee (f := 60) rfl ?_); refine goesL_ (some 10) rfl rfl Tryz.func60 (by kernel_rfl) rfl #[.string a0, .int .i64 a1] rfl (by (try simp only [List.map_toArray, List.map_cons, List.map_nil]); first | done | rfl | (simp only [List.length_drop, List.length_take]; rfl)) ?_; (with_reducible refine (tok_inside.calls a0 a1 t102 _ A3.out).mono ?_); rintro e w27 ⟨rfl, hb⟩; refine ⟨_, rfl, ?_⟩; have n0_ := Aside0.mk (blk_below (g := gb101) (o := .cells #[.int .i64 0, .string (⟨#[]⟩ : ByteArray), .string (⟨#[]⟩ : ByteArray), .slice none 0 0, .bool false] 28 (0, 0)) (by (with_reducible repeat (first | refine blk_drewN ?_ _ | refine blk_drew ?_ | refine blk_alloc ?_ _)); exact BK101.out) hb); have n1_ := Aside0.mk (below_step (by repeat (first | (with_reducible first | exact HB.out | apply below_alloc | apply pw_below_drewN | apply below_drew1 | refine below_set ?_ GE101.out) | exact HB.out)) hb); clear BK101; clear HB; have BK101 := n0_; have HB := n1_; clear n0_ n1_; (try clear hb); (try clear hb2); (try clear hk); (try clear hi)) | ((with_reducible refine gate_callee (f := 63) rfl ?_); refine goesL_ (some 14) rfl rfl Tryz.func63 (by kernel_rfl) rfl #[.string a0, .int .i64 t102] rfl (by (try simp only [List.map_toArray, List.map_cons, List.map_nil]); first | done | rfl | (simp only [List.length_drop, List.length_take]; rfl)) ?_; (with_reducible refine (tag_Begins.calls a0 t102 false _ A4.out).mono ?_); rintro e w28 ⟨rfl, hb⟩; refine ⟨_, rfl, ?_⟩; have n0_ := Aside0.mk (blk_below (g := gb101) (o := .cells #[.int .i64 0, .string (⟨#[]⟩ : ByteArray), .string (⟨#[]⟩ : ByteArray), .slice none 0 0, .bool false] 28 (0, 0)) (by (with_reducible repeat (first | refine blk_drewN ?_ _ | refine blk_drew ?_ | refine blk_alloc ?_ _)); exact BK101.out) hb); have n1_ := Aside0.mk (below_step (by repeat (first | (with_reducible first | exact HB.out | apply below_alloc | apply pw_below_drewN | apply below_drew1 | refine below_set ?_ GE101.out) | exact HB.out)) hb); clear BK101; clear HB; have BK101 := n0_; have HB := n1_; clear n0_ n1_; (try clear hb); (try clear hb2); (try clear hk); (try clear hi)) | ((with_reducible refine gate_callee (f := 64) rfl ?_); refine goesL_ (some 24) rfl rfl Tryz.func64 (by kernel_rfl) rfl #[.string a0, .int .i64 t102] rfl (by (try simp only [List.map_toArray, List.map_cons, List.map_nil]); first | done | rfl | (simp only [List.length_drop, List.length_take]; rfl)) ?_; (with_reducible refine (comment_Begins.calls a0 t102 false _ A13.out).mono ?_); rintro e w29 ⟨rfl, hb⟩; refine ⟨_, rfl, ?_⟩; have n0_ := Aside0.mk (blk_below (g := gb101) (o := .cells #[.int .i64 0, .string (⟨#[]⟩ : ByteArray), .string (⟨#[]⟩ : ByteArray), .slice none 0 0, .bool false] 28 (0, 0)) (by (with_reducible repeat (first | refine blk_drewN ?_ _ | refine blk_drew ?_ | refine blk_alloc ?_ _)); exact BK101.out) hb); have n1_ := Aside0.mk (below_step (by repeat (first | (with_reducible first | exact HB.out | apply below_alloc | apply pw_below_drewN | apply below_drew1 | refine below_set ?_ GE101.out) | exact HB.out)) hb); clear BK101; clear HB; have BK101 := n0_; have HB := n1_; clear n0_ n1_; (try clear hb); (try clear hb2); (try clear hk); (try clear hi)) | ((with_reducible refine gate_callee (f := 66) rfl ?_); refine goesL_ (some 34) rfl rfl Tryz.func66 (by kernel_rfl) rfl #[.string a0, .int .i64 t102] rfl (by (try simp only [List.map_toArray, List.map_cons, List.map_nil]); first | done | rfl | (simp only [List.length_drop, List.length_take]; rfl)) ?_; (with_reducible refine (doctype_Begins.calls a0 t102 true _ A23.out).mono ?_); rintro e w30 ⟨rfl, hb⟩; refine ⟨_, rfl, ?_⟩; have n0_ := Aside0.mk (blk_below (g := gb101) (o := .cells #[.int .i64 0, .string (⟨#[]⟩ : ByteArray), .string (⟨#[]⟩ : ByteArray), .slice none 0 0, .bool false] 28 (0, 0)) (by (with_reducible repeat (first | refine blk_drewN ?_ _ | refine blk_drew ?_ | refine blk_alloc ?_ _)); exact BK101.out) hb); have n1_ := Aside0.mk (below_step (by repeat (first | (with_reducible first | exact HB.out | apply below_alloc | apply pw_below_drewN | apply below_drew1 | refine below_set ?_ GE101.out) | exact HB.out)) hb); clear BK101; clear HB; have BK101 := n0_; have HB := n1_; clear n0_ n1_; (try clear hb); (try clear hb2); (try clear hk); (try clear hi)) | ((with_reducible refine gate_callee (f := 67) rfl ?_); refine goesL_ (some 37) rfl rfl Tryz.func67 (by kernel_rfl) rfl #[.string a0, .int .i64 t102] rfl (by (try simp only [List.map_toArray, List.map_cons, List.map_nil]); first | done | rfl | (simp only [List.length_drop, List.length_take]; rfl)) ?_; (with_reducible refine (doctype_Read.calls a0 t102 t124 t125 t126 t127 t130 t131 t132 _ ?side1 A25.out).mono ?_); (case side1 => exact Glob.step hGl (by repeat (first | (with_reducible first | exact HB.out | apply below_alloc | apply pw_below_drewN | apply below_drew1 | refine below_set ?_ GE101.out) | exact HB.out))); rintro e w31 ⟨v128, rfl, ho0, hb⟩; refine ⟨_, rfl, ?_⟩; have n0_ := Aside0.mk (Kd.R_lower ho0 (below_size (by repeat (first | (with_reducible first | exact HB.out | apply below_alloc | apply pw_below_drewN | apply below_drew1 | refine below_set ?_ GE101.out) | exact HB.out)))); have n1_ := Aside0.mk (blk_below (g := gb101) (o := .cells #[.int .i64 0, .string (⟨#[]⟩ : ByteArray), .string (⟨#[]⟩ : ByteArray), .slice none 0 0, .bool false] 28 (0, 0)) (by (with_reducible repeat (first | refine blk_drewN ?_ _ | refine blk_drew ?_ | refine blk_alloc ?_ _)); exact BK101.out) hb); have n2_ := Aside0.mk (below_step (by repeat (first | (with_reducible first | exact HB.out | apply below_alloc | apply pw_below_drewN | apply below_drew1 | refine below_set ?_ GE101.out) | exact HB.out)) hb); clear BK101; clear HB; have HO129 := n0_; have BK101 := n1_; have HB := n2_; clear n0_ n1_ n2_; (try clear hb); (try clear hb2); (try clear hk); (try clear hi); (try clear ho0); have hcz32_0 : w31.cell? ⟨gb101, 0, none⟩ = some (.int .i64 0) := (blk_cell BK101.out 0).trans rfl; have hcz32_1 : w31.cell? ⟨gb101, 1, none⟩ = some (.string (⟨#[]⟩ : ByteArray)) := (blk_cell BK101.out 1).trans rfl; have hcz32_2 : w31.cell? ⟨gb101, 2, none⟩ = some (.string (⟨#[]⟩ : ByteArray)) := (blk_cell BK101.out 2).trans rfl; have hcz32_3 : w31.cell? ⟨gb101, 3, none⟩ = some (.slice none 0 0) := (blk_cell BK101.out 3).trans rfl; have hcz32_4 : w31.cell? ⟨gb101, 4, none⟩ = some (.bool false) := (blk_cell BK101.out 4).trans rfl; have hfz32_0 := blk_frozen BK101.out 0; have hfz32_1 := blk_frozen BK101.out 1; have hfz32_2 := blk_frozen BK101.out 2; have hfz32_3 := blk_frozen BK101.out 3; have hfz32_4 := blk_frozen BK101.out 4; obtain ⟨Ao33, co33, eo33⟩ := Kd.R_slice HO129.out; subst eo33))
        refine bodyPost_ret (results_ctt rfl _ _ gb101 28 #[.int .i64 t124, .string t125, .string t126, .slice Ao33 t127.length co33, .bool t130] (0, 0) _ rfl (by (with_reducible repeat (first | refine blk_drewN ?_ _ | refine blk_drew ?_ | refine blk_alloc ?_ _)); refine blk_put (cs := #[.int .i64 t124, .string t125, .string t126, .slice Ao33 t127.length co33, .bool false]) ?_ 4 _ rfl; (with_reducible repeat (first | refine blk_drewN ?_ _ | refine blk_drew ?_ | refine blk_alloc ?_ _)); refine blk_put (cs := #[.int .i64 t124, .string t125, .string t126, .slice none 0 0, .bool false]) ?_ 3 _ rfl; (with_reducible repeat (first | refine blk_drewN ?_ _ | refine blk_drew ?_ | refine blk_alloc ?_ _)); refine blk_put (cs := #[.int .i64 t124, .string t125, .string (⟨#[]⟩ : ByteArray), .slice none 0 0, .bool false]) ?_ 2 _ rfl; (with_reducible repeat (first | refine blk_drewN ?_ _ | refine blk_drew ?_ | refine blk_alloc ?_ _)); refine blk_put (cs := #[.int .i64 t124, .string (⟨#[]⟩ : ByteArray), .string (⟨#[]⟩ : ByteArray), .slice none 0 0, .bool false]) ?_ 1 _ rfl; (with_reducible repeat (first | refine blk_drewN ?_ _ | refine blk_drew ?_ | refine blk_alloc ?_ _)); refine blk_put (cs := #[.int .i64 0, .string (⟨#[]⟩ : ByteArray), .string (⟨#[]⟩ : ByteArray), .slice none 0 0, .bool false]) ?_ 0 _ rfl; (with_reducible repeat (first | refine blk_drewN ?_ _ | refine blk_drew ?_ | refine blk_alloc ?_ _)); exact BK101.out) Tryz.underlying28 rfl (by kernel_rfl)) rfl ?_
        exact ⟨_, by first | rfl | (simp [errW_none, errW_some] <;> rfl) | (simp [*, errW_none, errW_some] <;> rfl), by (with_reducible repeat (first | apply Kd.R_alloc | apply Kd.R_drewN | apply Kd.R_drew)); exact Kd.R_mono (Kd.R_far (p := ⟨gb101, 4, none⟩) (Kd.R_far (p := ⟨gb101, 3, none⟩) (Kd.R_far (p := ⟨gb101, 2, none⟩) (Kd.R_far (p := ⟨gb101, 1, none⟩) (Kd.R_far (p := ⟨gb101, 0, none⟩) (Kd.R_types HO129.out BK101.out (by decide)) (fun _ hk => hk.2) (.int .i64 t124)) (fun _ hk => hk.2) (.string t125)) (fun _ hk => hk.2) (.string t126)) (fun _ hk => hk.2) (.slice Ao33 t127.length co33)) (fun _ hk => hk.2) (.bool t130)) (fun _ hk => trivial), by repeat (first | (with_reducible first | exact HB.out | apply below_alloc | apply pw_below_drewN | apply below_drew1 | refine below_set ?_ GE101.out) | exact HB.out)⟩
      · replace c24 := Bool.eq_false_iff.mpr c24
        subst c24
        have H1 : ((sign_Begins.f a0 t102 (⟨#[60, 47, 62]⟩ : ByteArray)).bind fun t133 => (if t133 = true then (some (0, (⟨#[]⟩ : ByteArray), (⟨#[]⟩ : ByteArray), ([] : List (S65)), false, wrap64 (t102 + 3), false)) else ((text_Read.f a0 t102).bind fun bt134 => (if bt134.2 = t102 then (some (0, (⟨#[]⟩ : ByteArray), (⟨#[]⟩ : ByteArray), ([] : List (S65)), false, t102, false)) else (some (0, (⟨#[]⟩ : ByteArray), bt134.1, ([] : List (S65)), false, bt134.2, true)))))) = some (r1, r2, r3, r4, r5, r6, r7) := by rw [if_neg (show ¬ (false = true) by decide)] at H; exact H
        clear H
        have H := H1
        clear H1
        replace H := Option.bind_eq_some_iff.mp H
        obtain ⟨t133, A340, H⟩ := H
        replace H : (if t133 = true then (some (0, (⟨#[]⟩ : ByteArray), (⟨#[]⟩ : ByteArray), ([] : List (S65)), false, wrap64 (t102 + 3), false)) else ((text_Read.f a0 t102).bind fun bt134 => (if bt134.2 = t102 then (some (0, (⟨#[]⟩ : ByteArray), (⟨#[]⟩ : ByteArray), ([] : List (S65)), false, t102, false)) else (some (0, (⟨#[]⟩ : ByteArray), bt134.1, ([] : List (S65)), false, bt134.2, true))))) = some (r1, r2, r3, r4, r5, r6, r7) := H
        have A34 := Aside0.mk A340
        clear A340
        by_cases c35 : t133 = true
        · subst c35
          have H1 : (some (0, (⟨#[]⟩ : ByteArray), (⟨#[]⟩ : ByteArray), ([] : List (S65)), false, wrap64 (t102 + 3), false)) = some (r1, r2, r3, r4, r5, r6, r7) := by rw [if_pos rfl] at H; exact H
          clear H
          have H := H1
          clear H1
          simp only [Option.some.injEq, Prod.mk.injEq] at H
          obtain ⟨rfl, rfl, rfl, rfl, rfl, rfl, rfl⟩ := H
          go_enter Tryz.func35, Tryz.ntmps35
          go_wp2_with (first | ((with_reducible refine gate_dst (N := 4) rfl ?_); refine box_event ?hg (N := 4) ?hd (cs := #[.int .i64 0, .string (⟨#[]⟩ : ByteArray), .string (⟨#[]⟩ : ByteArray), .slice none 0 0, .bool false]) (t := 28) ?hr ?_; (case hd => rfl); (case hg => rfl); (case hr => first | (go_simp; done) | (go_simp; rfl)); intro gb101 hg w36 hbox hb; have n0_ := Aside0.mk (below_step (by repeat (first | (with_reducible first | exact HB.out | apply below_alloc | apply pw_below_drewN | apply below_drew1) | exact HB.out)) hb); have n1_ := Aside0.mk (hbox); have n2_ := Aside0.mk ((by rw [hg]; exact (below_size (by repeat (first | (with_reducible first | exact HB.out | apply below_alloc | apply pw_below_drewN | apply below_drew1) | exact HB.out))) : w.heap.size ≤ gb101)); have n3_ := Aside0.mk ((by rw [hg]; exact (below_size (by repeat (first | (with_reducible first | exact HB.out | apply below_alloc | apply pw_below_drewN | apply below_drew1) | exact HB.out))) : w.heap.size ≤ gb101)); clear HB; have HB := n0_; have BK101 := n1_; have GW101 := n2_; have GE101 := n3_; clear n0_ n1_ n2_ n3_; clear hb hbox hg) | ((with_reducible refine gate_callee (f := 60) rfl ?_); refine goesL_ (some 10) rfl rfl Tryz.func60 (by kernel_rfl) rfl #[.string a0, .int .i64 a1] rfl (by (try simp only [List.map_toArray, List.map_cons, List.map_nil]); first | done | rfl | (simp only [List.length_drop, List.length_take]; rfl)) ?_; (with_reducible refine (tok_inside.calls a0 a1 t102 _ A3.out).mono ?_); rintro e w37 ⟨rfl, hb⟩; refine ⟨_, rfl, ?_⟩; have n0_ := Aside0.mk (blk_below (g := gb101) (o := .cells #[.int .i64 0, .string (⟨#[]⟩ : ByteArray), .string (⟨#[]⟩ : ByteArray), .slice none 0 0, .bool false] 28 (0, 0)) (by (with_reducible repeat (first | refine blk_drewN ?_ _ | refine blk_drew ?_ | refine blk_alloc ?_ _)); exact BK101.out) hb); have n1_ := Aside0.mk (below_step (by repeat (first | (with_reducible first | exact HB.out | apply below_alloc | apply pw_below_drewN | apply below_drew1 | refine below_set ?_ GE101.out) | exact HB.out)) hb); clear BK101; clear HB; have BK101 := n0_; have HB := n1_; clear n0_ n1_; (try clear hb); (try clear hb2); (try clear hk); (try clear hi)) | ((with_reducible refine gate_callee (f := 63) rfl ?_); refine goesL_ (some 14) rfl rfl Tryz.func63 (by kernel_rfl) rfl #[.string a0, .int .i64 t102] rfl (by (try simp only [List.map_toArray, List.map_cons, List.map_nil]); first | done | rfl | (simp only [List.length_drop, List.length_take]; rfl)) ?_; (with_reducible refine (tag_Begins.calls a0 t102 false _ A4.out).mono ?_); rintro e w38 ⟨rfl, hb⟩; refine ⟨_, rfl, ?_⟩; have n0_ := Aside0.mk (blk_below (g := gb101) (o := .cells #[.int .i64 0, .string (⟨#[]⟩ : ByteArray), .string (⟨#[]⟩ : ByteArray), .slice none 0 0, .bool false] 28 (0, 0)) (by (with_reducible repeat (first | refine blk_drewN ?_ _ | refine blk_drew ?_ | refine blk_alloc ?_ _)); exact BK101.out) hb); have n1_ := Aside0.mk (below_step (by repeat (first | (with_reducible first | exact HB.out | apply below_alloc | apply pw_below_drewN | apply below_drew1 | refine below_set ?_ GE101.out) | exact HB.out)) hb); clear BK101; clear HB; have BK101 := n0_; have HB := n1_; clear n0_ n1_; (try clear hb); (try clear hb2); (try clear hk); (try clear hi)) | ((with_reducible refine gate_callee (f := 64) rfl ?_); refine goesL_ (some 24) rfl rfl Tryz.func64 (by kernel_rfl) rfl #[.string a0, .int .i64 t102] rfl (by (try simp only [List.map_toArray, List.map_cons, List.map_nil]); first | done | rfl | (simp only [List.length_drop, List.length_take]; rfl)) ?_; (with_reducible refine (comment_Begins.calls a0 t102 false _ A13.out).mono ?_); rintro e w39 ⟨rfl, hb⟩; refine ⟨_, rfl, ?_⟩; have n0_ := Aside0.mk (blk_below (g := gb101) (o := .cells #[.int .i64 0, .string (⟨#[]⟩ : ByteArray), .string (⟨#[]⟩ : ByteArray), .slice none 0 0, .bool false] 28 (0, 0)) (by (with_reducible repeat (first | refine blk_drewN ?_ _ | refine blk_drew ?_ | refine blk_alloc ?_ _)); exact BK101.out) hb); have n1_ := Aside0.mk (below_step (by repeat (first | (with_reducible first | exact HB.out | apply below_alloc | apply pw_below_drewN | apply below_drew1 | refine below_set ?_ GE101.out) | exact HB.out)) hb); clear BK101; clear HB; have BK101 := n0_; have HB := n1_; clear n0_ n1_; (try clear hb); (try clear hb2); (try clear hk); (try clear hi)) | ((with_reducible refine gate_callee (f := 66) rfl ?_); refine goesL_ (some 34) rfl rfl Tryz.func66 (by kernel_rfl) rfl #[.string a0, .int .i64 t102] rfl (by (try simp only [List.map_toArray, List.map_cons, List.map_nil]); first | done | rfl | (simp only [List.length_drop, List.length_take]; rfl)) ?_; (with_reducible refine (doctype_Begins.calls a0 t102 false _ A23.out).mono ?_); rintro e w40 ⟨rfl, hb⟩; refine ⟨_, rfl, ?_⟩; have n0_ := Aside0.mk (blk_below (g := gb101) (o := .cells #[.int .i64 0, .string (⟨#[]⟩ : ByteArray), .string (⟨#[]⟩ : ByteArray), .slice none 0 0, .bool false] 28 (0, 0)) (by (with_reducible repeat (first | refine blk_drewN ?_ _ | refine blk_drew ?_ | refine blk_alloc ?_ _)); exact BK101.out) hb); have n1_ := Aside0.mk (below_step (by repeat (first | (with_reducible first | exact HB.out | apply below_alloc | apply pw_below_drewN | apply below_drew1 | refine below_set ?_ GE101.out) | exact HB.out)) hb); clear BK101; clear HB; have BK101 := n0_; have HB := n1_; clear n0_ n1_; (try clear hb); (try clear hb2); (try clear hk); (try clear hi)) | ((with_reducible refine gate_callee (f := 53) rfl ?_); refine goesL_ (some 44) rfl rfl Tryz.func53 (by kernel_rfl) rfl #[.string a0, .int .i64 t102, .string (⟨#[60, 47, 62]⟩ : ByteArray)] rfl (by (try simp only [List.map_toArray, List.map_cons, List.map_nil]); first | done | rfl | (simp only [List.length_drop, List.length_take]; rfl)) ?_; (with_reducible refine (sign_Begins.calls a0 t102 (⟨#[60, 47, 62]⟩ : ByteArray) true _ A34.out).mono ?_); rintro e w41 ⟨rfl, hb⟩; refine ⟨_, rfl, ?_⟩; have n0_ := Aside0.mk (blk_below (g := gb101) (o := .cells #[.int .i64 0, .string (⟨#[]⟩ : ByteArray), .string (⟨#[]⟩ : ByteArray), .slice none 0 0, .bool false] 28 (0, 0)) (by (with_reducible repeat (first | refine blk_drewN ?_ _ | refine blk_drew ?_ | refine blk_alloc ?_ _)); exact BK101.out) hb); have n1_ := Aside0.mk (below_step (by repeat (first | (with_reducible first | exact HB.out | apply below_alloc | apply pw_below_drewN | apply below_drew1 | refine below_set ?_ GE101.out) | exact HB.out)) hb); clear BK101; clear HB; have BK101 := n0_; have HB := n1_; clear n0_ n1_; (try clear hb); (try clear hb2); (try clear hk); (try clear hi); have hcz42_0 : w41.cell? ⟨gb101, 0, none⟩ = some (.int .i64 0) := (blk_cell BK101.out 0).trans rfl; have hcz42_1 : w41.cell? ⟨gb101, 1, none⟩ = some (.string (⟨#[]⟩ : ByteArray)) := (blk_cell BK101.out 1).trans rfl; have hcz42_2 : w41.cell? ⟨gb101, 2, none⟩ = some (.string (⟨#[]⟩ : ByteArray)) := (blk_cell BK101.out 2).trans rfl; have hcz42_3 : w41.cell? ⟨gb101, 3, none⟩ = some (.slice none 0 0) := (blk_cell BK101.out 3).trans rfl; have hcz42_4 : w41.cell? ⟨gb101, 4, none⟩ = some (.bool false) := (blk_cell BK101.out 4).trans rfl; have hfz42_0 := blk_frozen BK101.out 0; have hfz42_1 := blk_frozen BK101.out 1; have hfz42_2 := blk_frozen BK101.out 2; have hfz42_3 := blk_frozen BK101.out 3; have hfz42_4 := blk_frozen BK101.out 4))
          refine bodyPost_ret (results_ctt rfl _ _ gb101 28 #[.int .i64 0, .string (⟨#[]⟩ : ByteArray), .string (⟨#[]⟩ : ByteArray), .slice none 0 0, .bool false] (0, 0) _ rfl (by (with_reducible repeat (first | refine blk_drewN ?_ _ | refine blk_drew ?_ | refine blk_alloc ?_ _)); refine blk_put (cs := #[.int .i64 0, .string (⟨#[]⟩ : ByteArray), .string (⟨#[]⟩ : ByteArray), .slice none 0 0, .bool false]) ?_ 4 _ rfl; (with_reducible repeat (first | refine blk_drewN ?_ _ | refine blk_drew ?_ | refine blk_alloc ?_ _)); refine blk_put (cs := #[.int .i64 0, .string (⟨#[]⟩ : ByteArray), .string (⟨#[]⟩ : ByteArray), .slice none 0 0, .bool false]) ?_ 3 _ rfl; (with_reducible repeat (first | refine blk_drewN ?_ _ | refine blk_drew ?_ | refine blk_alloc ?_ _)); refine blk_put (cs := #[.int .i64 0, .string (⟨#[]⟩ : ByteArray), .string (⟨#[]⟩ : ByteArray), .slice none 0 0, .bool false]) ?_ 2 _ rfl; (with_reducible repeat (first | refine blk_drewN ?_ _ | refine blk_drew ?_ | refine blk_alloc ?_ _)); refine blk_put (cs := #[.int .i64 0, .string (⟨#[]⟩ : ByteArray), .string (⟨#[]⟩ : ByteArray), .slice none 0 0, .bool false]) ?_ 1 _ rfl; (with_reducible repeat (first | refine blk_drewN ?_ _ | refine blk_drew ?_ | refine blk_alloc ?_ _)); refine blk_put (cs := #[.int .i64 0, .string (⟨#[]⟩ : ByteArray), .string (⟨#[]⟩ : ByteArray), .slice none 0 0, .bool false]) ?_ 0 _ rfl; (with_reducible repeat (first | refine blk_drewN ?_ _ | refine blk_drew ?_ | refine blk_alloc ?_ _)); exact BK101.out) Tryz.underlying28 rfl (by kernel_rfl)) rfl ?_
          exact ⟨_, by first | rfl | (simp [errW_none, errW_some] <;> rfl) | (simp [*, errW_none, errW_some] <;> rfl), by first | exact Kd.R_nil _ _ _ _ _ | exact Kd.N_nil _ _ _ _ _ | exact Kd.V_nil _ _ _ _ _ | exact Kd.Q_nil _ _ _ _ _ | exact Kd.S_nil _ _ _ _ _, by repeat (first | (with_reducible first | exact HB.out | apply below_alloc | apply pw_below_drewN | apply below_drew1 | refine below_set ?_ GE101.out) | exact HB.out)⟩
        · replace c35 := Bool.eq_false_iff.mpr c35
          subst c35
          have H1 : ((text_Read.f a0 t102).bind fun bt134 => (if bt134.2 = t102 then (some (0, (⟨#[]⟩ : ByteArray), (⟨#[]⟩ : ByteArray), ([] : List (S65)), false, t102, false)) else (some (0, (⟨#[]⟩ : ByteArray), bt134.1, ([] : List (S65)), false, bt134.2, true)))) = some (r1, r2, r3, r4, r5, r6, r7) := by rw [if_neg (show ¬ (false = true) by decide)] at H; exact H
          clear H
          have H := H1
          clear H1
          replace H := Option.bind_eq_some_iff.mp H
          obtain ⟨⟨t134, t135⟩, A430, H⟩ := H
          replace H : (if t135 = t102 then (some (0, (⟨#[]⟩ : ByteArray), (⟨#[]⟩ : ByteArray), ([] : List (S65)), false, t102, false)) else (some (0, (⟨#[]⟩ : ByteArray), t134, ([] : List (S65)), false, t135, true))) = some (r1, r2, r3, r4, r5, r6, r7) := H
          have A43 := Aside0.mk A430
          clear A430
          by_cases c44 : t135 = t102
          · rw [if_pos c44] at H
            have c44b0 : (t135 == t102) = true := beq_iff_eq.mpr c44
            have c44b1 : (t135 != t102) = false := bne_eq_false_iff_eq.mpr c44
            clear c44
            simp only [Option.some.injEq, Prod.mk.injEq] at H
            obtain ⟨rfl, rfl, rfl, rfl, rfl, rfl, rfl⟩ := H
            go_enter Tryz.func35, Tryz.ntmps35
            go_wp2_with (first | ((with_reducible refine gate_dst (N := 4) rfl ?_); refine box_event ?hg (N := 4) ?hd (cs := #[.int .i64 0, .string (⟨#[]⟩ : ByteArray), .string (⟨#[]⟩ : ByteArray), .slice none 0 0, .bool false]) (t := 28) ?hr ?_; (case hd => rfl); (case hg => rfl); (case hr => first | (go_simp; done) | (go_simp; rfl)); intro gb101 hg w45 hbox hb; have n0_ := Aside0.mk (below_step (by repeat (first | (with_reducible first | exact HB.out | apply below_alloc | apply pw_below_drewN | apply below_drew1) | exact HB.out)) hb); have n1_ := Aside0.mk (hbox); have n2_ := Aside0.mk ((by rw [hg]; exact (below_size (by repeat (first | (with_reducible first | exact HB.out | apply below_alloc | apply pw_below_drewN | apply below_drew1) | exact HB.out))) : w.heap.size ≤ gb101)); have n3_ := Aside0.mk ((by rw [hg]; exact (below_size (by repeat (first | (with_reducible first | exact HB.out | apply below_alloc | apply pw_below_drewN | apply below_drew1) | exact HB.out))) : w.heap.size ≤ gb101)); clear HB; have HB := n0_; have BK101 := n1_; have GW101 := n2_; have GE101 := n3_; clear n0_ n1_ n2_ n3_; clear hb hbox hg) | ((with_reducible refine gate_callee (f := 60) rfl ?_); refine goesL_ (some 10) rfl rfl Tryz.func60 (by kernel_rfl) rfl #[.string a0, .int .i64 a1] rfl (by (try simp only [List.map_toArray, List.map_cons, List.map_nil]); first | done | rfl | (simp only [List.length_drop, List.length_take]; rfl)) ?_; (with_reducible refine (tok_inside.calls a0 a1 t102 _ A3.out).mono ?_); rintro e w46 ⟨rfl, hb⟩; refine ⟨_, rfl, ?_⟩; have n0_ := Aside0.mk (blk_below (g := gb101) (o := .cells #[.int .i64 0, .string (⟨#[]⟩ : ByteArray), .string (⟨#[]⟩ : ByteArray), .slice none 0 0, .bool false] 28 (0, 0)) (by (with_reducible repeat (first | refine blk_drewN ?_ _ | refine blk_drew ?_ | refine blk_alloc ?_ _)); exact BK101.out) hb); have n1_ := Aside0.mk (below_step (by repeat (first | (with_reducible first | exact HB.out | apply below_alloc | apply pw_below_drewN | apply below_drew1 | refine below_set ?_ GE101.out) | exact HB.out)) hb); clear BK101; clear HB; have BK101 := n0_; have HB := n1_; clear n0_ n1_; (try clear hb); (try clear hb2); (try clear hk); (try clear hi)) | ((with_reducible refine gate_callee (f := 63) rfl ?_); refine goesL_ (some 14) rfl rfl Tryz.func63 (by kernel_rfl) rfl #[.string a0, .int .i64 t102] rfl (by (try simp only [List.map_toArray, List.map_cons, List.map_nil]); first | done | rfl | (simp only [List.length_drop, List.length_take]; rfl)) ?_; (with_reducible refine (tag_Begins.calls a0 t102 false _ A4.out).mono ?_); rintro e w47 ⟨rfl, hb⟩; refine ⟨_, rfl, ?_⟩; have n0_ := Aside0.mk (blk_below (g := gb101) (o := .cells #[.int .i64 0, .string (⟨#[]⟩ : ByteArray), .string (⟨#[]⟩ : ByteArray), .slice none 0 0, .bool false] 28 (0, 0)) (by (with_reducible repeat (first | refine blk_drewN ?_ _ | refine blk_drew ?_ | refine blk_alloc ?_ _)); exact BK101.out) hb); have n1_ := Aside0.mk (below_step (by repeat (first | (with_reducible first | exact HB.out | apply below_alloc | apply pw_below_drewN | apply below_drew1 | refine below_set ?_ GE101.out) | exact HB.out)) hb); clear BK101; clear HB; have BK101 := n0_; have HB := n1_; clear n0_ n1_; (try clear hb); (try clear hb2); (try clear hk); (try clear hi)) | ((with_reducible refine gate_callee (f := 64) rfl ?_); refine goesL_ (some 24) rfl rfl Tryz.func64 (by kernel_rfl) rfl #[.string a0, .int .i64 t102] rfl (by (try simp only [List.map_toArray, List.map_cons, List.map_nil]); first | done | rfl | (simp only [List.length_drop, List.length_take]; rfl)) ?_; (with_reducible refine (comment_Begins.calls a0 t102 false _ A13.out).mono ?_); rintro e w48 ⟨rfl, hb⟩; refine ⟨_, rfl, ?_⟩; have n0_ := Aside0.mk (blk_below (g := gb101) (o := .cells #[.int .i64 0, .string (⟨#[]⟩ : ByteArray), .string (⟨#[]⟩ : ByteArray), .slice none 0 0, .bool false] 28 (0, 0)) (by (with_reducible repeat (first | refine blk_drewN ?_ _ | refine blk_drew ?_ | refine blk_alloc ?_ _)); exact BK101.out) hb); have n1_ := Aside0.mk (below_step (by repeat (first | (with_reducible first | exact HB.out | apply below_alloc | apply pw_below_drewN | apply below_drew1 | refine below_set ?_ GE101.out) | exact HB.out)) hb); clear BK101; clear HB; have BK101 := n0_; have HB := n1_; clear n0_ n1_; (try clear hb); (try clear hb2); (try clear hk); (try clear hi)) | ((with_reducible refine gate_callee (f := 66) rfl ?_); refine goesL_ (some 34) rfl rfl Tryz.func66 (by kernel_rfl) rfl #[.string a0, .int .i64 t102] rfl (by (try simp only [List.map_toArray, List.map_cons, List.map_nil]); first | done | rfl | (simp only [List.length_drop, List.length_take]; rfl)) ?_; (with_reducible refine (doctype_Begins.calls a0 t102 false _ A23.out).mono ?_); rintro e w49 ⟨rfl, hb⟩; refine ⟨_, rfl, ?_⟩; have n0_ := Aside0.mk (blk_below (g := gb101) (o := .cells #[.int .i64 0, .string (⟨#[]⟩ : ByteArray), .string (⟨#[]⟩ : ByteArray), .slice none 0 0, .bool false] 28 (0, 0)) (by (with_reducible repeat (first | refine blk_drewN ?_ _ | refine blk_drew ?_ | refine blk_alloc ?_ _)); exact BK101.out) hb); have n1_ := Aside0.mk (below_step (by repeat (first | (with_reducible first | exact HB.out | apply below_alloc | apply pw_below_drewN | apply below_drew1 | refine below_set ?_ GE101.out) | exact HB.out)) hb); clear BK101; clear HB; have BK101 := n0_; have HB := n1_; clear n0_ n1_; (try clear hb); (try clear hb2); (try clear hk); (try clear hi)) | ((with_reducible refine gate_callee (f := 53) rfl ?_); refine goesL_ (some 44) rfl rfl Tryz.func53 (by kernel_rfl) rfl #[.string a0, .int .i64 t102, .string (⟨#[60, 47, 62]⟩ : ByteArray)] rfl (by (try simp only [List.map_toArray, List.map_cons, List.map_nil]); first | done | rfl | (simp only [List.length_drop, List.length_take]; rfl)) ?_; (with_reducible refine (sign_Begins.calls a0 t102 (⟨#[60, 47, 62]⟩ : ByteArray) false _ A34.out).mono ?_); rintro e w50 ⟨rfl, hb⟩; refine ⟨_, rfl, ?_⟩; have n0_ := Aside0.mk (blk_below (g := gb101) (o := .cells #[.int .i64 0, .string (⟨#[]⟩ : ByteArray), .string (⟨#[]⟩ : ByteArray), .slice none 0 0, .bool false] 28 (0, 0)) (by (with_reducible repeat (first | refine blk_drewN ?_ _ | refine blk_drew ?_ | refine blk_alloc ?_ _)); exact BK101.out) hb); have n1_ := Aside0.mk (below_step (by repeat (first | (with_reducible first | exact HB.out | apply below_alloc | apply pw_below_drewN | apply below_drew1 | refine below_set ?_ GE101.out) | exact HB.out)) hb); clear BK101; clear HB; have BK101 := n0_; have HB := n1_; clear n0_ n1_; (try clear hb); (try clear hb2); (try clear hk); (try clear hi)) | ((with_reducible refine gate_callee (f := 68) rfl ?_); refine goesL_ (some 51) rfl rfl Tryz.func68 (by kernel_rfl) rfl #[.string a0, .int .i64 t102] rfl (by (try simp only [List.map_toArray, List.map_cons, List.map_nil]); first | done | rfl | (simp only [List.length_drop, List.length_take]; rfl)) ?_; (with_reducible refine (text_Read.calls a0 t102 t134 t135 _ ?side1 A43.out).mono ?_); (case side1 => exact Glob.step hGl (by repeat (first | (with_reducible first | exact HB.out | apply below_alloc | apply pw_below_drewN | apply below_drew1 | refine below_set ?_ GE101.out) | exact HB.out))); rintro e w51 ⟨rfl, hb⟩; refine ⟨_, rfl, ?_⟩; have n0_ := Aside0.mk (blk_below (g := gb101) (o := .cells #[.int .i64 0, .string (⟨#[]⟩ : ByteArray), .string (⟨#[]⟩ : ByteArray), .slice none 0 0, .bool false] 28 (0, 0)) (by (with_reducible repeat (first | refine blk_drewN ?_ _ | refine blk_drew ?_ | refine blk_alloc ?_ _)); exact BK101.out) hb); have n1_ := Aside0.mk (below_step (by repeat (first | (with_reducible first | exact HB.out | apply below_alloc | apply pw_below_drewN | apply below_drew1 | refine below_set ?_ GE101.out) | exact HB.out)) hb); clear BK101; clear HB; have BK101 := n0_; have HB := n1_; clear n0_ n1_; (try clear hb); (try clear hb2); (try clear hk); (try clear hi); have hcz52_0 : w51.cell? ⟨gb101, 0, none⟩ = some (.int .i64 0) := (blk_cell BK101.out 0).trans rfl; have hcz52_1 : w51.cell? ⟨gb101, 1, none⟩ = some (.string (⟨#[]⟩ : ByteArray)) := (blk_cell BK101.out 1).trans rfl; have hcz52_2 : w51.cell? ⟨gb101, 2, none⟩ = some (.string (⟨#[]⟩ : ByteArray)) := (blk_cell BK101.out 2).trans rfl; have hcz52_3 : w51.cell? ⟨gb101, 3, none⟩ = some (.slice none 0 0) := (blk_cell BK101.out 3).trans rfl; have hcz52_4 : w51.cell? ⟨gb101, 4, none⟩ = some (.bool false) := (blk_cell BK101.out 4).trans rfl; have hfz52_0 := blk_frozen BK101.out 0; have hfz52_1 := blk_frozen BK101.out 1; have hfz52_2 := blk_frozen BK101.out 2; have hfz52_3 := blk_frozen BK101.out 3; have hfz52_4 := blk_frozen BK101.out 4))
            refine bodyPost_ret (results_ctt rfl _ _ gb101 28 #[.int .i64 0, .string (⟨#[]⟩ : ByteArray), .string (⟨#[]⟩ : ByteArray), .slice none 0 0, .bool false] (0, 0) _ rfl (by (with_reducible repeat (first | refine blk_drewN ?_ _ | refine blk_drew ?_ | refine blk_alloc ?_ _)); refine blk_put (cs := #[.int .i64 0, .string (⟨#[]⟩ : ByteArray), .string (⟨#[]⟩ : ByteArray), .slice none 0 0, .bool false]) ?_ 4 _ rfl; (with_reducible repeat (first | refine blk_drewN ?_ _ | refine blk_drew ?_ | refine blk_alloc ?_ _)); refine blk_put (cs := #[.int .i64 0, .string (⟨#[]⟩ : ByteArray), .string (⟨#[]⟩ : ByteArray), .slice none 0 0, .bool false]) ?_ 3 _ rfl; (with_reducible repeat (first | refine blk_drewN ?_ _ | refine blk_drew ?_ | refine blk_alloc ?_ _)); refine blk_put (cs := #[.int .i64 0, .string (⟨#[]⟩ : ByteArray), .string (⟨#[]⟩ : ByteArray), .slice none 0 0, .bool false]) ?_ 2 _ rfl; (with_reducible repeat (first | refine blk_drewN ?_ _ | refine blk_drew ?_ | refine blk_alloc ?_ _)); refine blk_put (cs := #[.int .i64 0, .string (⟨#[]⟩ : ByteArray), .string (⟨#[]⟩ : ByteArray), .slice none 0 0, .bool false]) ?_ 1 _ rfl; (with_reducible repeat (first | refine blk_drewN ?_ _ | refine blk_drew ?_ | refine blk_alloc ?_ _)); refine blk_put (cs := #[.int .i64 0, .string (⟨#[]⟩ : ByteArray), .string (⟨#[]⟩ : ByteArray), .slice none 0 0, .bool false]) ?_ 0 _ rfl; (with_reducible repeat (first | refine blk_drewN ?_ _ | refine blk_drew ?_ | refine blk_alloc ?_ _)); exact BK101.out) Tryz.underlying28 rfl (by kernel_rfl)) rfl ?_
            exact ⟨_, by first | rfl | (simp [errW_none, errW_some] <;> rfl) | (simp [*, errW_none, errW_some] <;> rfl), by first | exact Kd.R_nil _ _ _ _ _ | exact Kd.N_nil _ _ _ _ _ | exact Kd.V_nil _ _ _ _ _ | exact Kd.Q_nil _ _ _ _ _ | exact Kd.S_nil _ _ _ _ _, by repeat (first | (with_reducible first | exact HB.out | apply below_alloc | apply pw_below_drewN | apply below_drew1 | refine below_set ?_ GE101.out) | exact HB.out)⟩
          · rw [if_neg c44] at H
            have c44b0 : (t135 == t102) = false := beq_eq_false_iff_ne.mpr c44
            have c44b1 : (t135 != t102) = true := bne_iff_ne.mpr c44
            simp only [Option.some.injEq, Prod.mk.injEq] at H
            obtain ⟨rfl, rfl, rfl, rfl, rfl, rfl, rfl⟩ := H
            go_enter Tryz.func35, Tryz.ntmps35
            go_wp2_with (first | ((with_reducible refine gate_dst (N := 4) rfl ?_); refine box_event ?hg (N := 4) ?hd (cs := #[.int .i64 0, .string (⟨#[]⟩ : ByteArray), .string (⟨#[]⟩ : ByteArray), .slice none 0 0, .bool false]) (t := 28) ?hr ?_; (case hd => rfl); (case hg => rfl); (case hr => first | (go_simp; done) | (go_simp; rfl)); intro gb101 hg w53 hbox hb; have n0_ := Aside0.mk (below_step (by repeat (first | (with_reducible first | exact HB.out | apply below_alloc | apply pw_below_drewN | apply below_drew1) | exact HB.out)) hb); have n1_ := Aside0.mk (hbox); have n2_ := Aside0.mk ((by rw [hg]; exact (below_size (by repeat (first | (with_reducible first | exact HB.out | apply below_alloc | apply pw_below_drewN | apply below_drew1) | exact HB.out))) : w.heap.size ≤ gb101)); have n3_ := Aside0.mk ((by rw [hg]; exact (below_size (by repeat (first | (with_reducible first | exact HB.out | apply below_alloc | apply pw_below_drewN | apply below_drew1) | exact HB.out))) : w.heap.size ≤ gb101)); clear HB; have HB := n0_; have BK101 := n1_; have GW101 := n2_; have GE101 := n3_; clear n0_ n1_ n2_ n3_; clear hb hbox hg) | ((with_reducible refine gate_callee (f := 60) rfl ?_); refine goesL_ (some 10) rfl rfl Tryz.func60 (by kernel_rfl) rfl #[.string a0, .int .i64 a1] rfl (by (try simp only [List.map_toArray, List.map_cons, List.map_nil]); first | done | rfl | (simp only [List.length_drop, List.length_take]; rfl)) ?_; (with_reducible refine (tok_inside.calls a0 a1 t102 _ A3.out).mono ?_); rintro e w54 ⟨rfl, hb⟩; refine ⟨_, rfl, ?_⟩; have n0_ := Aside0.mk (blk_below (g := gb101) (o := .cells #[.int .i64 0, .string (⟨#[]⟩ : ByteArray), .string (⟨#[]⟩ : ByteArray), .slice none 0 0, .bool false] 28 (0, 0)) (by (with_reducible repeat (first | refine blk_drewN ?_ _ | refine blk_drew ?_ | refine blk_alloc ?_ _)); exact BK101.out) hb); have n1_ := Aside0.mk (below_step (by repeat (first | (with_reducible first | exact HB.out | apply below_alloc | apply pw_below_drewN | apply below_drew1 | refine below_set ?_ GE101.out) | exact HB.out)) hb); clear BK101; clear HB; have BK101 := n0_; have HB := n1_; clear n0_ n1_; (try clear hb); (try clear hb2); (try clear hk); (try clear hi)) | ((with_reducible refine gate_callee (f := 63) rfl ?_); refine goesL_ (some 14) rfl rfl Tryz.func63 (by kernel_rfl) rfl #[.string a0, .int .i64 t102] rfl (by (try simp only [List.map_toArray, List.map_cons, List.map_nil]); first | done | rfl | (simp only [List.length_drop, List.length_take]; rfl)) ?_; (with_reducible refine (tag_Begins.calls a0 t102 false _ A4.out).mono ?_); rintro e w55 ⟨rfl, hb⟩; refine ⟨_, rfl, ?_⟩; have n0_ := Aside0.mk (blk_below (g := gb101) (o := .cells #[.int .i64 0, .string (⟨#[]⟩ : ByteArray), .string (⟨#[]⟩ : ByteArray), .slice none 0 0, .bool false] 28 (0, 0)) (by (with_reducible repeat (first | refine blk_drewN ?_ _ | refine blk_drew ?_ | refine blk_alloc ?_ _)); exact BK101.out) hb); have n1_ := Aside0.mk (below_step (by repeat (first | (with_reducible first | exact HB.out | apply below_alloc | apply pw_below_drewN | apply below_drew1 | refine below_set ?_ GE101.out) | exact HB.out)) hb); clear BK101; clear HB; have BK101 := n0_; have HB := n1_; clear n0_ n1_; (try clear hb); (try clear hb2); (try clear hk); (try clear hi)) | ((with_reducible refine gate_callee (f := 64) rfl ?_); refine goesL_ (some 24) rfl rfl Tryz.func64 (by kernel_rfl) rfl #[.string a0, .int .i64 t102] rfl (by (try simp only [List.map_toArray, List.map_cons, List.map_nil]); first | done | rfl | (simp only [List.length_drop, List.length_take]; rfl)) ?_; (with_reducible refine (comment_Begins.calls a0 t102 false _ A13.out).mono ?_); rintro e w56 ⟨rfl, hb⟩; refine ⟨_, rfl, ?_⟩; have n0_ := Aside0.mk (blk_below (g := gb101) (o := .cells #[.int .i64 0, .string (⟨#[]⟩ : ByteArray), .string (⟨#[]⟩ : ByteArray), .slice none 0 0, .bool false] 28 (0, 0)) (by (with_reducible repeat (first | refine blk_drewN ?_ _ | refine blk_drew ?_ | refine blk_alloc ?_ _)); exact BK101.out) hb); have n1_ := Aside0.mk (below_step (by repeat (first | (with_reducible first | exact HB.out | apply below_alloc | apply pw_below_drewN | apply below_drew1 | refine below_set ?_ GE101.out) | exact HB.out)) hb); clear BK101; clear HB; have BK101 := n0_; have HB := n1_; clear n0_ n1_; (try clear hb); (try clear hb2); (try clear hk); (try clear hi)) | ((with_reducible refine gate_callee (f := 66) rfl ?_); refine goesL_ (some 34) rfl rfl Tryz.func66 (by kernel_rfl) rfl #[.string a0, .int .i64 t102] rfl (by (try simp only [List.map_toArray, List.map_cons, List.map_nil]); first | done | rfl | (simp only [List.length_drop, List.length_take]; rfl)) ?_; (with_reducible refine (doctype_Begins.calls a0 t102 false _ A23.out).mono ?_); rintro e w57 ⟨rfl, hb⟩; refine ⟨_, rfl, ?_⟩; have n0_ := Aside0.mk (blk_below (g := gb101) (o := .cells #[.int .i64 0, .string (⟨#[]⟩ : ByteArray), .string (⟨#[]⟩ : ByteArray), .slice none 0 0, .bool false] 28 (0, 0)) (by (with_reducible repeat (first | refine blk_drewN ?_ _ | refine blk_drew ?_ | refine blk_alloc ?_ _)); exact BK101.out) hb); have n1_ := Aside0.mk (below_step (by repeat (first | (with_reducible first | exact HB.out | apply below_alloc | apply pw_below_drewN | apply below_drew1 | refine below_set ?_ GE101.out) | exact HB.out)) hb); clear BK101; clear HB; have BK101 := n0_; have HB := n1_; clear n0_ n1_; (try clear hb); (try clear hb2); (try clear hk); (try clear hi)) | ((with_reducible refine gate_callee (f := 53) rfl ?_); refine goesL_ (some 44) rfl rfl Tryz.func53 (by kernel_rfl) rfl #[.string a0, .int .i64 t102, .string (⟨#[60, 47, 62]⟩ : ByteArray)] rfl (by (try simp only [List.map_toArray, List.map_cons, List.map_nil]); first | done | rfl | (simp only [List.length_drop, List.length_take]; rfl)) ?_; (with_reducible refine (sign_Begins.calls a0 t102 (⟨#[60, 47, 62]⟩ : ByteArray) false _ A34.out).mono ?_); rintro e w58 ⟨rfl, hb⟩; refine ⟨_, rfl, ?_⟩; have n0_ := Aside0.mk (blk_below (g := gb101) (o := .cells #[.int .i64 0, .string (⟨#[]⟩ : ByteArray), .string (⟨#[]⟩ : ByteArray), .slice none 0 0, .bool false] 28 (0, 0)) (by (with_reducible repeat (first | refine blk_drewN ?_ _ | refine blk_drew ?_ | refine blk_alloc ?_ _)); exact BK101.out) hb); have n1_ := Aside0.mk (below_step (by repeat (first | (with_reducible first | exact HB.out | apply below_alloc | apply pw_below_drewN | apply below_drew1 | refine below_set ?_ GE101.out) | exact HB.out)) hb); clear BK101; clear HB; have BK101 := n0_; have HB := n1_; clear n0_ n1_; (try clear hb); (try clear hb2); (try clear hk); (try clear hi)) | ((with_reducible refine gate_callee (f := 68) rfl ?_); refine goesL_ (some 51) rfl rfl Tryz.func68 (by kernel_rfl) rfl #[.string a0, .int .i64 t102] rfl (by (try simp only [List.map_toArray, List.map_cons, List.map_nil]); first | done | rfl | (simp only [List.length_drop, List.length_take]; rfl)) ?_; (with_reducible refine (text_Read.calls a0 t102 t134 t135 _ ?side1 A43.out).mono ?_); (case side1 => exact Glob.step hGl (by repeat (first | (with_reducible first | exact HB.out | apply below_alloc | apply pw_below_drewN | apply below_drew1 | refine below_set ?_ GE101.out) | exact HB.out))); rintro e w59 ⟨rfl, hb⟩; refine ⟨_, rfl, ?_⟩; have n0_ := Aside0.mk (blk_below (g := gb101) (o := .cells #[.int .i64 0, .string (⟨#[]⟩ : ByteArray), .string (⟨#[]⟩ : ByteArray), .slice none 0 0, .bool false] 28 (0, 0)) (by (with_reducible repeat (first | refine blk_drewN ?_ _ | refine blk_drew ?_ | refine blk_alloc ?_ _)); exact BK101.out) hb); have n1_ := Aside0.mk (below_step (by repeat (first | (with_reducible first | exact HB.out | apply below_alloc | apply pw_below_drewN | apply below_drew1 | refine below_set ?_ GE101.out) | exact HB.out)) hb); clear BK101; clear HB; have BK101 := n0_; have HB := n1_; clear n0_ n1_; (try clear hb); (try clear hb2); (try clear hk); (try clear hi); have hcz60_0 : w59.cell? ⟨gb101, 0, none⟩ = some (.int .i64 0) := (blk_cell BK101.out 0).trans rfl; have hcz60_1 : w59.cell? ⟨gb101, 1, none⟩ = some (.string (⟨#[]⟩ : ByteArray)) := (blk_cell BK101.out 1).trans rfl; have hcz60_2 : w59.cell? ⟨gb101, 2, none⟩ = some (.string (⟨#[]⟩ : ByteArray)) := (blk_cell BK101.out 2).trans rfl; have hcz60_3 : w59.cell? ⟨gb101, 3, none⟩ = some (.slice none 0 0) := (blk_cell BK101.out 3).trans rfl; have hcz60_4 : w59.cell? ⟨gb101, 4, none⟩ = some (.bool false) := (blk_cell BK101.out 4).trans rfl; have hfz60_0 := blk_frozen BK101.out 0; have hfz60_1 := blk_frozen BK101.out 1; have hfz60_2 := blk_frozen BK101.out 2; have hfz60_3 := blk_frozen BK101.out 3; have hfz60_4 := blk_frozen BK101.out 4))
            refine bodyPost_ret (results_ctt rfl _ _ gb101 28 #[.int .i64 0, .string (⟨#[]⟩ : ByteArray), .string t134, .slice none 0 0, .bool false] (0, 0) _ rfl (by (with_reducible repeat (first | refine blk_drewN ?_ _ | refine blk_drew ?_ | refine blk_alloc ?_ _)); refine blk_put (cs := #[.int .i64 0, .string (⟨#[]⟩ : ByteArray), .string t134, .slice none 0 0, .bool false]) ?_ 4 _ rfl; (with_reducible repeat (first | refine blk_drewN ?_ _ | refine blk_drew ?_ | refine blk_alloc ?_ _)); refine blk_put (cs := #[.int .i64 0, .string (⟨#[]⟩ : ByteArray), .string t134, .slice none 0 0, .bool false]) ?_ 3 _ rfl; (with_reducible repeat (first | refine blk_drewN ?_ _ | refine blk_drew ?_ | refine blk_alloc ?_ _)); refine blk_put (cs := #[.int .i64 0, .string (⟨#[]⟩ : ByteArray), .string (⟨#[]⟩ : ByteArray), .slice none 0 0, .bool false]) ?_ 2 _ rfl; (with_reducible repeat (first | refine blk_drewN ?_ _ | refine blk_drew ?_ | refine blk_alloc ?_ _)); refine blk_put (cs := #[.int .i64 0, .string (⟨#[]⟩ : ByteArray), .string (⟨#[]⟩ : ByteArray), .slice none 0 0, .bool false]) ?_ 1 _ rfl; (with_reducible repeat (first | refine blk_drewN ?_ _ | refine blk_drew ?_ | refine blk_alloc ?_ _)); refine blk_put (cs := #[.int .i64 0, .string (⟨#[]⟩ : ByteArray), .string (⟨#[]⟩ : ByteArray), .slice none 0 0, .bool false]) ?_ 0 _ rfl; (with_reducible repeat (first | refine blk_drewN ?_ _ | refine blk_drew ?_ | refine blk_alloc ?_ _)); exact BK101.out) Tryz.underlying28 rfl (by kernel_rfl)) rfl ?_
            exact ⟨_, by first | rfl | (simp [errW_none, errW_some] <;> rfl) | (simp [*, errW_none, errW_some] <;> rfl), by first | exact Kd.R_nil _ _ _ _ _ | exact Kd.N_nil _ _ _ _ _ | exact Kd.V_nil _ _ _ _ _ | exact Kd.Q_nil _ _ _ _ _ | exact Kd.S_nil _ _ _ _ _, by repeat (first | (with_reducible first | exact HB.out | apply below_alloc | apply pw_below_drewN | apply below_drew1 | refine below_set ?_ GE101.out) | exact HB.out)⟩
noncomputable def raw_Text.f (a0 : ByteArray) (a1 : Bool) : Option (ByteArray) := if a1 = true then ((ref_Decode.f a0 false).bind fun t136 => ((lines_Clean.f t136).bind fun t137 => (some t137))) else ((lines_Clean.f a0).bind fun t138 => (some t138))
set_option maxHeartbeats 8000000 in
set_option maxRecDepth 100000 in
theorem raw_Text.calls (a0 : ByteArray) (a1 : Bool) (r : ByteArray) (w : World) (hGl : Glob w) (h : raw_Text.f a0 a1 = some r) :
    Calls Tryz.prog 16 #[.string a0, .bool a1] w fun e w' => e = .returned (.string r) ∧ Below w.heap.size w w' := by
  have HB := Aside0.mk (Below.refl w.heap.size w)
  have H : (if a1 = true then ((ref_Decode.f a0 false).bind fun t136 => ((lines_Clean.f t136).bind fun t137 => (some t137))) else ((lines_Clean.f a0).bind fun t138 => (some t138))) = some r := h
  clear h
  by_cases c3 : a1 = true
  · subst c3
    have H1 : ((ref_Decode.f a0 false).bind fun t136 => ((lines_Clean.f t136).bind fun t137 => (some t137))) = some r := by rw [if_pos rfl] at H; exact H
    clear H
    have H := H1
    clear H1
    replace H := Option.bind_eq_some_iff.mp H
    obtain ⟨t136, A40, H⟩ := H
    replace H : ((lines_Clean.f t136).bind fun t137 => (some t137)) = some r := H
    have A4 := Aside0.mk A40
    clear A40
    replace H := Option.bind_eq_some_iff.mp H
    obtain ⟨t137, A50, H⟩ := H
    replace H : (some t137) = some r := H
    have A5 := Aside0.mk A50
    clear A50
    obtain rfl := Option.some.inj H
    go_enter Tryz.func16, Tryz.ntmps16
    go_wp2_with (first | ((with_reducible refine gate_callee (f := 12) rfl ?_); refine goesL_ (some 7) rfl rfl Tryz.func12 (by kernel_rfl) rfl #[.string a0, .bool false] rfl (by (try simp only [List.map_toArray, List.map_cons, List.map_nil]); first | done | rfl | (simp only [List.length_drop, List.length_take]; rfl)) ?_; (with_reducible refine (ref_Decode.calls a0 false t136 _ ?side1 A4.out).mono ?_); (case side1 => exact Glob.step hGl (by repeat (first | (with_reducible first | exact HB.out | apply below_alloc | apply pw_below_drewN | apply below_drew1) | exact HB.out))); rintro e w6 ⟨rfl, hb⟩; refine ⟨_, rfl, ?_⟩; have n0_ := Aside0.mk (below_step (by repeat (first | (with_reducible first | exact HB.out | apply below_alloc | apply pw_below_drewN | apply below_drew1) | exact HB.out)) hb); clear HB; have HB := n0_; clear n0_; (try clear hb); (try clear hb2); (try clear hk); (try clear hi)) | ((with_reducible refine gate_callee (f := 22) rfl ?_); refine goesL_ (some 9) rfl rfl Tryz.func22 (by kernel_rfl) rfl #[.string t136] rfl (by (try simp only [List.map_toArray, List.map_cons, List.map_nil]); first | done | rfl | (simp only [List.length_drop, List.length_take]; rfl)) ?_; (with_reducible refine (lines_Clean.calls t136 t137 _ ?side1 A5.out).mono ?_); (case side1 => exact Glob.step hGl (by repeat (first | (with_reducible first | exact HB.out | apply below_alloc | apply pw_below_drewN | apply below_drew1) | exact HB.out))); rintro e w7 ⟨rfl, hb⟩; refine ⟨_, rfl, ?_⟩; have n0_ := Aside0.mk (below_step (by repeat (first | (with_reducible first | exact HB.out | apply below_alloc | apply pw_below_drewN | apply below_drew1) | exact HB.out)) hb); clear HB; have HB := n0_; clear n0_; (try clear hb); (try clear hb2); (try clear hk); (try clear hi)))
    go_ret
    exact ⟨by first | rfl | (simp [errW_none, errW_some] <;> rfl) | (simp [*, errW_none, errW_some] <;> rfl), by repeat (first | (with_reducible first | exact HB.out | apply below_alloc | apply pw_below_drewN | apply below_drew1) | exact HB.out)⟩
  · replace c3 := Bool.eq_false_iff.mpr c3
    subst c3
    have H1 : ((lines_Clean.f a0).bind fun t138 => (some t138)) = some r := by rw [if_neg (show ¬ (false = true) by decide)] at H; exact H
    clear H
    have H := H1
    clear H1
    replace H := Option.bind_eq_some_iff.mp H
    obtain ⟨t138, A80, H⟩ := H
    replace H : (some t138) = some r := H
    have A8 := Aside0.mk A80
    clear A80
    obtain rfl := Option.some.inj H
    go_enter Tryz.func16, Tryz.ntmps16
    go_wp2_with (first | ((with_reducible refine gate_callee (f := 22) rfl ?_); refine goesL_ (some 9) rfl rfl Tryz.func22 (by kernel_rfl) rfl #[.string a0] rfl (by (try simp only [List.map_toArray, List.map_cons, List.map_nil]); first | done | rfl | (simp only [List.length_drop, List.length_take]; rfl)) ?_; (with_reducible refine (lines_Clean.calls a0 t138 _ ?side1 A8.out).mono ?_); (case side1 => exact Glob.step hGl (by repeat (first | (with_reducible first | exact HB.out | apply below_alloc | apply pw_below_drewN | apply below_drew1) | exact HB.out))); rintro e w9 ⟨rfl, hb⟩; refine ⟨_, rfl, ?_⟩; have n0_ := Aside0.mk (below_step (by repeat (first | (with_reducible first | exact HB.out | apply below_alloc | apply pw_below_drewN | apply below_drew1) | exact HB.out)) hb); clear HB; have HB := n0_; clear n0_; (try clear hb); (try clear hb2); (try clear hk); (try clear hi)))
    go_ret
    exact ⟨by first | rfl | (simp [errW_none, errW_some] <;> rfl) | (simp [*, errW_none, errW_some] <;> rfl), by repeat (first | (with_reducible first | exact HB.out | apply below_alloc | apply pw_below_drewN | apply below_drew1) | exact HB.out)⟩
noncomputable def tok_ends.j0 : Nat → ByteArray → Int → Int → Int → Int → Bool → Option (ByteArray × Int × Bool)
  | 0, _, _, _, _, _, _ => none
  | k + 1, x0, x1, x2, x9, x15, x18 => if x18 = true then (if 0 ≤ x1 then (if x1 ≤ x9 then (if x9 ≤ (x0.size : Int) then ((raw_Text.f (x0.extract (x1 : Int).toNat (x9 : Int).toNat) (x2 == 1)).bind fun t143 => (some (t143, x9, true))) else (none)) else (none)) else (none)) else (if x15 = 4 then (if 0 ≤ x1 then (if x1 ≤ (x0.size : Int) then ((lines_Clean.f (x0.extract (x1 : Int).toNat x0.size)).bind fun t144 => (some (t144, (x0.size : Int), true))) else (none)) else (none)) else (some ((⟨#[]⟩ : ByteArray), x1, false)))
noncomputable def tok_ends.f (k : Nat) (a0 : ByteArray) (a1 : Int) (a2 : Int) (a3 : ByteArray) : Option (ByteArray × Int × Bool) := (raw_Find.f a0 a1 a3).bind fun t139 => (if a2 = 3 then ((script_Find.f k a0 a1).bind fun bt140 => (if 0 ≤ a1 then (if a1 ≤ bt140.1 then (if bt140.1 ≤ (a0.size : Int) then ((raw_Text.f (a0.extract (a1 : Int).toNat (bt140.1 : Int).toNat) (a2 == 1)).bind fun t142 => (some (t142, bt140.1, true))) else (none)) else (none)) else (none))) else (if a2 = 1 then (tok_ends.j0 k a0 a1 a2 t139 a2 (a2 == 1)) else (tok_ends.j0 k a0 a1 a2 t139 a2 (a2 == 2))))
set_option maxHeartbeats 8000000 in
set_option maxRecDepth 100000 in
theorem tok_ends.calls (k : Nat) (a0 : ByteArray) (a1 : Int) (a2 : Int) (a3 : ByteArray) (r1 : ByteArray) (r2 : Int) (r3 : Bool) (w : World) (hGl : Glob w) (h : tok_ends.f k a0 a1 a2 a3 = some (r1, r2, r3)) :
    Calls Tryz.prog 61 #[.string a0, .int .i64 a1, .int .i64 a2, .string a3] w fun e w' => e = .returned (.tuple #[.string r1, .int .i64 r2, .bool r3]) ∧ Below w.heap.size w w' := by
  have HB := Aside0.mk (Below.refl w.heap.size w)
  have H : ((raw_Find.f a0 a1 a3).bind fun t139 => (if a2 = 3 then ((script_Find.f k a0 a1).bind fun bt140 => (if 0 ≤ a1 then (if a1 ≤ bt140.1 then (if bt140.1 ≤ (a0.size : Int) then ((raw_Text.f (a0.extract (a1 : Int).toNat (bt140.1 : Int).toNat) (a2 == 1)).bind fun t142 => (some (t142, bt140.1, true))) else (none)) else (none)) else (none))) else (if a2 = 1 then (tok_ends.j0 k a0 a1 a2 t139 a2 (a2 == 1)) else (tok_ends.j0 k a0 a1 a2 t139 a2 (a2 == 2))))) = some (r1, r2, r3) := h
  clear h
  replace H := Option.bind_eq_some_iff.mp H
  obtain ⟨t139, A50, H⟩ := H
  replace H : (if a2 = 3 then ((script_Find.f k a0 a1).bind fun bt140 => (if 0 ≤ a1 then (if a1 ≤ bt140.1 then (if bt140.1 ≤ (a0.size : Int) then ((raw_Text.f (a0.extract (a1 : Int).toNat (bt140.1 : Int).toNat) (a2 == 1)).bind fun t142 => (some (t142, bt140.1, true))) else (none)) else (none)) else (none))) else (if a2 = 1 then (tok_ends.j0 k a0 a1 a2 t139 a2 (a2 == 1)) else (tok_ends.j0 k a0 a1 a2 t139 a2 (a2 == 2)))) = some (r1, r2, r3) := H
  have A5 := Aside0.mk A50
  clear A50
  by_cases c6 : a2 = 3
  · rw [if_pos c6] at H
    have c6b0 : (a2 == 3) = true := beq_iff_eq.mpr c6
    have c6b1 : (a2 != 3) = false := bne_eq_false_iff_eq.mpr c6
    clear c6
    replace H := Option.bind_eq_some_iff.mp H
    obtain ⟨⟨t140, t141⟩, A70, H⟩ := H
    replace H : (if 0 ≤ a1 then (if a1 ≤ t140 then (if t140 ≤ (a0.size : Int) then ((raw_Text.f (a0.extract (a1 : Int).toNat (t140 : Int).toNat) (a2 == 1)).bind fun t142 => (some (t142, t140, true))) else (none)) else (none)) else (none)) = some (r1, r2, r3) := H
    have A7 := Aside0.mk A70
    clear A70
    by_cases c8 : 0 ≤ a1
    · rw [if_pos c8] at H
      have c8b0 := eq_true c8
      have c8b1 : decide (0 ≤ a1) = true := decide_eq_true c8
      clear c8
      by_cases c9 : a1 ≤ t140
      · rw [if_pos c9] at H
        have c9b0 := eq_true c9
        have c9b1 : decide (a1 ≤ t140) = true := decide_eq_true c9
        clear c9
        by_cases c10 : t140 ≤ (a0.size : Int)
        · rw [if_pos c10] at H
          have c10b0 := eq_true c10
          have c10b1 : decide (t140 ≤ (a0.size : Int)) = true := decide_eq_true c10
          clear c10
          replace H := Option.bind_eq_some_iff.mp H
          obtain ⟨t142, A110, H⟩ := H
          replace H : (some (t142, t140, true)) = some (r1, r2, r3) := H
          have A11 := Aside0.mk A110
          clear A110
          simp only [Option.some.injEq, Prod.mk.injEq] at H
          obtain ⟨rfl, rfl, rfl⟩ := H
          go_enter Tryz.func61, Tryz.ntmps61
          go_wp2_with (first | ((with_reducible refine gate_callee (f := 97) rfl ?_); refine goesL_ (some 14) rfl rfl Tryz.func97 (by kernel_rfl) rfl #[.string a0, .int .i64 a1, .string a3] rfl (by (try simp only [List.map_toArray, List.map_cons, List.map_nil]); first | done | rfl | (simp only [List.length_drop, List.length_take]; rfl)) ?_; (with_reducible refine (raw_Find.calls a0 a1 a3 t139 _ ?side1 A5.out).mono ?_); (case side1 => exact Glob.step hGl (by repeat (first | (with_reducible first | exact HB.out | apply below_alloc | apply pw_below_drewN | apply below_drew1) | exact HB.out))); rintro e w12 ⟨rfl, hb⟩; refine ⟨_, rfl, ?_⟩; have n0_ := Aside0.mk (below_step (by repeat (first | (with_reducible first | exact HB.out | apply below_alloc | apply pw_below_drewN | apply below_drew1) | exact HB.out)) hb); clear HB; have HB := n0_; clear n0_; (try clear hb); (try clear hb2); (try clear hk); (try clear hi)) | ((with_reducible refine gate_callee (f := 98) rfl ?_); refine goesL_ (some 26) rfl rfl Tryz.func98 (by kernel_rfl) rfl #[.string a0, .int .i64 a1] rfl (by (try simp only [List.map_toArray, List.map_cons, List.map_nil]); first | done | rfl | (simp only [List.length_drop, List.length_take]; rfl)) ?_; (with_reducible refine (script_Find.calls k a0 a1 t140 t141 _ A7.out).mono ?_); rintro e w13 ⟨rfl, hb⟩; refine ⟨_, rfl, ?_⟩; have n0_ := Aside0.mk (below_step (by repeat (first | (with_reducible first | exact HB.out | apply below_alloc | apply pw_below_drewN | apply below_drew1) | exact HB.out)) hb); clear HB; have HB := n0_; clear n0_; (try clear hb); (try clear hb2); (try clear hk); (try clear hi)) | ((with_reducible refine gate_callee (f := 16) rfl ?_); refine goesL_ (some 35) rfl rfl Tryz.func16 (by kernel_rfl) rfl #[.string (a0.extract (a1 : Int).toNat (t140 : Int).toNat), .bool (a2 == 1)] rfl (by (try simp only [List.map_toArray, List.map_cons, List.map_nil]); first | done | rfl | (simp only [List.length_drop, List.length_take]; rfl)) ?_; (with_reducible refine (raw_Text.calls (a0.extract (a1 : Int).toNat (t140 : Int).toNat) (a2 == 1) t142 _ ?side1 A11.out).mono ?_); (case side1 => exact Glob.step hGl (by repeat (first | (with_reducible first | exact HB.out | apply below_alloc | apply pw_below_drewN | apply below_drew1) | exact HB.out))); rintro e w14 ⟨rfl, hb⟩; refine ⟨_, rfl, ?_⟩; have n0_ := Aside0.mk (below_step (by repeat (first | (with_reducible first | exact HB.out | apply below_alloc | apply pw_below_drewN | apply below_drew1) | exact HB.out)) hb); clear HB; have HB := n0_; clear n0_; (try clear hb); (try clear hb2); (try clear hk); (try clear hi)))
          go_ret3
          exact ⟨by first | rfl | (simp [errW_none, errW_some] <;> rfl) | (simp [*, errW_none, errW_some] <;> rfl), by repeat (first | (with_reducible first | exact HB.out | apply below_alloc | apply pw_below_drewN | apply below_drew1) | exact HB.out)⟩
        · rw [if_neg c10] at H
          exact absurd H (by simp)
      · rw [if_neg c9] at H
        exact absurd H (by simp)
    · rw [if_neg c8] at H
      exact absurd H (by simp)
  · rw [if_neg c6] at H
    have c6b0 : (a2 == 3) = false := beq_eq_false_iff_ne.mpr c6
    have c6b1 : (a2 != 3) = true := bne_iff_ne.mpr c6
    have HC15 := Aside0.mk H
    clear H
    go_enter Tryz.func61, Tryz.ntmps61
    go_upto_if 18 with (first | ((with_reducible refine gate_callee (f := 97) rfl ?_); refine goesL_ (some 14) rfl rfl Tryz.func97 (by kernel_rfl) rfl #[.string a0, .int .i64 a1, .string a3] rfl (by (try simp only [List.map_toArray, List.map_cons, List.map_nil]); first | done | rfl | (simp only [List.length_drop, List.length_take]; rfl)) ?_; (with_reducible refine (raw_Find.calls a0 a1 a3 t139 _ ?side1 A5.out).mono ?_); (case side1 => exact Glob.step hGl (by repeat (first | (with_reducible first | exact HB.out | apply below_alloc | apply pw_below_drewN | apply below_drew1) | exact HB.out))); rintro e w16 ⟨rfl, hb⟩; refine ⟨_, rfl, ?_⟩; have n0_ := Aside0.mk (below_step (by repeat (first | (with_reducible first | exact HB.out | apply below_alloc | apply pw_below_drewN | apply below_drew1) | exact HB.out)) hb); clear HB; have HB := n0_; clear n0_; (try clear hb); (try clear hb2); (try clear hk); (try clear hi)))
    (try simp only [Act.put, List.setIfInBounds_toArray, List.set_cons_zero, List.set_cons_succ])
    go_cut [18] (fun v18 wc => ∃ (kq : Nat) (x18_14 : Bool), v18 = .bool x18_14 ∧ Aside0 (tok_ends.j0 kq a0 a1 a2 t139 a2 x18_14 = some (r1, r2, r3)) ∧ Aside0 (kq ≤ k) ∧ Aside0 (Below w.heap.size w wc))
    case first =>
      have H := HC15.out
      clear HC15
      by_cases c17 : a2 = 1
      · rw [if_pos c17] at H
        have c17b0 : (a2 == 1) = true := beq_iff_eq.mpr c17
        have c17b1 : (a2 != 1) = false := bne_eq_false_iff_eq.mpr c17
        clear c17
        (first | rw [c17b0] | (simp only [i64_w, i32_w]; rw [c17b0]) | skip)
        have H' := Aside0.mk H
        clear H
        go_wp2
        go_meet
        case rel => exact ⟨_, ((a2 == 1)), (by first | rfl | (simp; done) | (simp [*]; done)), H', ⟨by first | omega | exact Nat.le_refl _⟩, ⟨by repeat (first | (with_reducible first | exact HB.out | apply below_alloc | apply pw_below_drewN | apply below_drew1) | exact HB.out)⟩⟩
      · rw [if_neg c17] at H
        have c17b0 : (a2 == 1) = false := beq_eq_false_iff_ne.mpr c17
        have c17b1 : (a2 != 1) = true := bne_iff_ne.mpr c17
        (first | rw [c17b0] | (simp only [i64_w, i32_w]; rw [c17b0]) | skip)
        have H' := Aside0.mk H
        clear H
        go_wp2
        go_meet
        case rel => exact ⟨_, ((a2 == 2)), (by first | rfl | (simp; done) | (simp [*]; done)), H', ⟨by first | omega | exact Nat.le_refl _⟩, ⟨by repeat (first | (with_reducible first | exact HB.out | apply below_alloc | apply pw_below_drewN | apply below_drew1) | exact HB.out)⟩⟩
    case rest =>
      clear HC15
      try clear c1
      try clear p2
      try clear c6
      try clear c6b0
      try clear c6b1
      try clear c8
      try clear c8b0
      try clear c8b1
      try clear c9
      try clear c9b0
      try clear c9b1
      try clear c10
      try clear c10b0
      try clear c10b1
      try clear c16
      try clear c17
      try clear c17b0
      try clear c17b1
      obtain ⟨kq, x18_14, rfl, HA, HJ14, HB⟩ := hcut
      cases kq with
      | zero => exact absurd HA.out (by simp [tok_ends.j0])
      | succ kj14 =>
        have H := HA.out
        clear HA
        simp only [tok_ends.j0] at H
        by_cases c18 : x18_14 = true
        · subst c18
          have H1 : (if 0 ≤ a1 then (if a1 ≤ t139 then (if t139 ≤ (a0.size : Int) then ((raw_Text.f (a0.extract (a1 : Int).toNat (t139 : Int).toNat) (a2 == 1)).bind fun t143 => (some (t143, t139, true))) else (none)) else (none)) else (none)) = some (r1, r2, r3) := by rw [if_pos rfl] at H; exact H
          clear H
          have H := H1
          clear H1
          by_cases c19 : 0 ≤ a1
          · rw [if_pos c19] at H
            have c19b0 := eq_true c19
            have c19b1 : decide (0 ≤ a1) = true := decide_eq_true c19
            clear c19
            by_cases c20 : a1 ≤ t139
            · rw [if_pos c20] at H
              have c20b0 := eq_true c20
              have c20b1 : decide (a1 ≤ t139) = true := decide_eq_true c20
              clear c20
              by_cases c21 : t139 ≤ (a0.size : Int)
              · rw [if_pos c21] at H
                have c21b0 := eq_true c21
                have c21b1 : decide (t139 ≤ (a0.size : Int)) = true := decide_eq_true c21
                clear c21
                replace H := Option.bind_eq_some_iff.mp H
                obtain ⟨t143, A220, H⟩ := H
                replace H : (some (t143, t139, true)) = some (r1, r2, r3) := H
                have A22 := Aside0.mk A220
                clear A220
                simp only [Option.some.injEq, Prod.mk.injEq] at H
                obtain ⟨rfl, rfl, rfl⟩ := H
                go_wp2_with (first | ((with_reducible refine gate_callee (f := 16) rfl ?_); refine goesL_ (some 35) rfl rfl Tryz.func16 (by kernel_rfl) rfl #[.string (a0.extract (a1 : Int).toNat (t139 : Int).toNat), .bool (a2 == 1)] rfl (by (try simp only [List.map_toArray, List.map_cons, List.map_nil]); first | done | rfl | (simp only [List.length_drop, List.length_take]; rfl)) ?_; (with_reducible refine (raw_Text.calls (a0.extract (a1 : Int).toNat (t139 : Int).toNat) (a2 == 1) t143 _ ?side1 A22.out).mono ?_); (case side1 => exact Glob.step hGl (by repeat (first | (with_reducible first | exact HB.out | apply below_alloc | apply pw_below_drewN | apply below_drew1) | exact HB.out))); rintro e w23 ⟨rfl, hb⟩; refine ⟨_, rfl, ?_⟩; have n0_ := Aside0.mk (below_step (by repeat (first | (with_reducible first | exact HB.out | apply below_alloc | apply pw_below_drewN | apply below_drew1) | exact HB.out)) hb); clear HB; have HB := n0_; clear n0_; (try clear hb); (try clear hb2); (try clear hk); (try clear hi)))
                go_ret3
                exact ⟨by first | rfl | (simp [errW_none, errW_some] <;> rfl) | (simp [*, errW_none, errW_some] <;> rfl), by repeat (first | (with_reducible first | exact HB.out | apply below_alloc | apply pw_below_drewN | apply below_drew1) | exact HB.out)⟩
              · rw [if_neg c21] at H
                exact absurd H (by simp)
            · rw [if_neg c20] at H
              exact absurd H (by simp)
          · rw [if_neg c19] at H
            exact absurd H (by simp)
        · replace c18 := Bool.eq_false_iff.mpr c18
          subst c18
          have H1 : (if a2 = 4 then (if 0 ≤ a1 then (if a1 ≤ (a0.size : Int) then ((lines_Clean.f (a0.extract (a1 : Int).toNat a0.size)).bind fun t144 => (some (t144, (a0.size : Int), true))) else (none)) else (none)) else (some ((⟨#[]⟩ : ByteArray), a1, false))) = some (r1, r2, r3) := by rw [if_neg (show ¬ (false = true) by decide)] at H; exact H
          clear H
          have H := H1
          clear H1
          by_cases c24 : a2 = 4
          · rw [if_pos c24] at H
            have c24b0 : (a2 == 4) = true := beq_iff_eq.mpr c24
            have c24b1 : (a2 != 4) = false := bne_eq_false_iff_eq.mpr c24
            clear c24
            by_cases c25 : 0 ≤ a1
            · rw [if_pos c25] at H
              have c25b0 := eq_true c25
              have c25b1 : decide (0 ≤ a1) = true := decide_eq_true c25
              clear c25
              by_cases c26 : a1 ≤ (a0.size : Int)
              · rw [if_pos c26] at H
                have c26b0 := eq_true c26
                have c26b1 : decide (a1 ≤ (a0.size : Int)) = true := decide_eq_true c26
                clear c26
                replace H := Option.bind_eq_some_iff.mp H
                obtain ⟨t144, A270, H⟩ := H
                replace H : (some (t144, (a0.size : Int), true)) = some (r1, r2, r3) := H
                have A27 := Aside0.mk A270
                clear A270
                simp only [Option.some.injEq, Prod.mk.injEq] at H
                obtain ⟨rfl, rfl, rfl⟩ := H
                go_wp2_with (first | ((with_reducible refine gate_callee (f := 22) rfl ?_); refine goesL_ (some 40) rfl rfl Tryz.func22 (by kernel_rfl) rfl #[.string (a0.extract (a1 : Int).toNat a0.size)] rfl (by (try simp only [List.map_toArray, List.map_cons, List.map_nil]); first | done | rfl | (simp only [List.length_drop, List.length_take]; rfl)) ?_; (with_reducible refine (lines_Clean.calls (a0.extract (a1 : Int).toNat a0.size) t144 _ ?side1 A27.out).mono ?_); (case side1 => exact Glob.step hGl (by repeat (first | (with_reducible first | exact HB.out | apply below_alloc | apply pw_below_drewN | apply below_drew1) | exact HB.out))); rintro e w28 ⟨rfl, hb⟩; refine ⟨_, rfl, ?_⟩; have n0_ := Aside0.mk (below_step (by repeat (first | (with_reducible first | exact HB.out | apply below_alloc | apply pw_below_drewN | apply below_drew1) | exact HB.out)) hb); clear HB; have HB := n0_; clear n0_; (try clear hb); (try clear hb2); (try clear hk); (try clear hi)))
                go_ret3
                exact ⟨by first | rfl | (simp [errW_none, errW_some] <;> rfl) | (simp [*, errW_none, errW_some] <;> rfl), by repeat (first | (with_reducible first | exact HB.out | apply below_alloc | apply pw_below_drewN | apply below_drew1) | exact HB.out)⟩
              · rw [if_neg c26] at H
                exact absurd H (by simp)
            · rw [if_neg c25] at H
              exact absurd H (by simp)
          · rw [if_neg c24] at H
            have c24b0 : (a2 == 4) = false := beq_eq_false_iff_ne.mpr c24
            have c24b1 : (a2 != 4) = true := bne_iff_ne.mpr c24
            simp only [Option.some.injEq, Prod.mk.injEq] at H
            obtain ⟨rfl, rfl, rfl⟩ := H
            go_wp2
            go_ret3
            exact ⟨by first | rfl | (simp [errW_none, errW_some] <;> rfl) | (simp [*, errW_none, errW_some] <;> rfl), by repeat (first | (with_reducible first | exact HB.out | apply below_alloc | apply pw_below_drewN | apply below_drew1) | exact HB.out)⟩
noncomputable def tok_Rest.j0 : Nat → ByteArray → List (S28) → Int → Option ((List (S28)) × Int)
  | 0, _, _, _ => none
  | k + 1, x0, x8, x9 => if x9 = (x0.size : Int) then (some (x8, x9)) else ((tag_Read.f x0 x9).bind fun bt152 => (if bt152.2.2.2.2.2.2 = true then (if x8.length < 1954687338268 then (some ((x8 ++ [(⟨bt152.1, bt152.2.1, bt152.2.2.1, bt152.2.2.2.1, bt152.2.2.2.2.1⟩ : S28)]), bt152.2.2.2.2.2.1)) else (none)) else (some (x8, bt152.2.2.2.2.2.1))))
noncomputable def tok_Rest.f (k : Nat) (a0 : ByteArray) (a1 : Int) (a2 : Int) (a3 : ByteArray) : Option ((List (S28)) × Int) := (tok_inside.f a0 a1).bind fun t145 => ((tok_ends.f k a0 t145 a2 a3).bind fun bt146 => (if bt146.2.2 = true then (if bt146.1.toList = ([] : List UInt8) then (tok_Rest.j0 k a0 ([] : List (S28)) bt146.2.1) else (if ([] : List (S28)).length < 1954687338268 then (tok_Rest.j0 k a0 (([] : List (S28)) ++ [(⟨0, (⟨#[]⟩ : ByteArray), bt146.1, ([] : List (S65)), false⟩ : S28)]) bt146.2.1) else (none))) else (some (([] : List (S28)), t145))))
set_option maxHeartbeats 8000000 in
set_option maxRecDepth 100000 in
theorem tok_Rest.calls (k : Nat) (a0 : ByteArray) (a1 : Int) (a2 : Int) (a3 : ByteArray) (r1 : List (S28)) (r2 : Int) (w : World) (hGl : Glob w) (h : tok_Rest.f k a0 a1 a2 a3 = some (r1, r2)) :
    Calls Tryz.prog 34 #[.string a0, .int .i64 a1, .int .i64 a2, .string a3] w fun e w' => ∃ v0_ : Value, e = .returned (.tuple #[v0_, .int .i64 r2]) ∧ Kd.S k28 28 w' w.heap.size (fun _ => True) v0_ r1 ∧ Below w.heap.size w w' := by
  have hu28 := Tryz.underlying28
  have HB := Aside0.mk (Below.refl w.heap.size w)
  have H : ((tok_inside.f a0 a1).bind fun t145 => ((tok_ends.f k a0 t145 a2 a3).bind fun bt146 => (if bt146.2.2 = true then (if bt146.1.toList = ([] : List UInt8) then (tok_Rest.j0 k a0 ([] : List (S28)) bt146.2.1) else (if ([] : List (S28)).length < 1954687338268 then (tok_Rest.j0 k a0 (([] : List (S28)) ++ [(⟨0, (⟨#[]⟩ : ByteArray), bt146.1, ([] : List (S65)), false⟩ : S28)]) bt146.2.1) else (none))) else (some (([] : List (S28)), t145))))) = some (r1, r2) := h
  clear h
  replace H := Option.bind_eq_some_iff.mp H
  obtain ⟨t145, A50, H⟩ := H
  replace H : ((tok_ends.f k a0 t145 a2 a3).bind fun bt146 => (if bt146.2.2 = true then (if bt146.1.toList = ([] : List UInt8) then (tok_Rest.j0 k a0 ([] : List (S28)) bt146.2.1) else (if ([] : List (S28)).length < 1954687338268 then (tok_Rest.j0 k a0 (([] : List (S28)) ++ [(⟨0, (⟨#[]⟩ : ByteArray), bt146.1, ([] : List (S65)), false⟩ : S28)]) bt146.2.1) else (none))) else (some (([] : List (S28)), t145)))) = some (r1, r2) := H
  have A5 := Aside0.mk A50
  clear A50
  replace H := Option.bind_eq_some_iff.mp H
  obtain ⟨⟨t146, t147, t148⟩, A60, H⟩ := H
  replace H : (if t148 = true then (if t146.toList = ([] : List UInt8) then (tok_Rest.j0 k a0 ([] : List (S28)) t147) else (if ([] : List (S28)).length < 1954687338268 then (tok_Rest.j0 k a0 (([] : List (S28)) ++ [(⟨0, (⟨#[]⟩ : ByteArray), t146, ([] : List (S65)), false⟩ : S28)]) t147) else (none))) else (some (([] : List (S28)), t145))) = some (r1, r2) := H
  have A6 := Aside0.mk A60
  clear A60
  by_cases c7 : t148 = true
  · subst c7
    have H1 : (if t146.toList = ([] : List UInt8) then (tok_Rest.j0 k a0 ([] : List (S28)) t147) else (if ([] : List (S28)).length < 1954687338268 then (tok_Rest.j0 k a0 (([] : List (S28)) ++ [(⟨0, (⟨#[]⟩ : ByteArray), t146, ([] : List (S65)), false⟩ : S28)]) t147) else (none))) = some (r1, r2) := by rw [if_pos rfl] at H; exact H
    clear H
    have H := H1
    clear H1
    have HC8 := Aside0.mk H
    clear H
    go_enter Tryz.func34, Tryz.ntmps34
    go_upto_if 29 with (first | ((with_reducible refine gate_callee (f := 60) rfl ?_); refine goesL_ (some 15) rfl rfl Tryz.func60 (by kernel_rfl) rfl #[.string a0, .int .i64 a1] rfl (by (try simp only [List.map_toArray, List.map_cons, List.map_nil]); first | done | rfl | (simp only [List.length_drop, List.length_take]; rfl)) ?_; (with_reducible refine (tok_inside.calls a0 a1 t145 _ A5.out).mono ?_); rintro e w9 ⟨rfl, hb⟩; refine ⟨_, rfl, ?_⟩; have n0_ := Aside0.mk (below_step (by repeat (first | (with_reducible first | exact HB.out | apply below_alloc | apply pw_below_drewN | apply below_drew1) | exact HB.out)) hb); clear HB; have HB := n0_; clear n0_; (try clear hb); (try clear hb2); (try clear hk); (try clear hi)) | ((with_reducible refine gate_callee (f := 61) rfl ?_); refine goesL_ (some 21) rfl rfl Tryz.func61 (by kernel_rfl) rfl #[.string a0, .int .i64 t145, .int .i64 a2, .string a3] rfl (by (try simp only [List.map_toArray, List.map_cons, List.map_nil]); first | done | rfl | (simp only [List.length_drop, List.length_take]; rfl)) ?_; (with_reducible refine (tok_ends.calls k a0 t145 a2 a3 t146 t147 true _ ?side1 A6.out).mono ?_); (case side1 => exact Glob.step hGl (by repeat (first | (with_reducible first | exact HB.out | apply below_alloc | apply pw_below_drewN | apply below_drew1) | exact HB.out))); rintro e w10 ⟨rfl, hb⟩; refine ⟨_, rfl, ?_⟩; have n0_ := Aside0.mk (below_step (by repeat (first | (with_reducible first | exact HB.out | apply below_alloc | apply pw_below_drewN | apply below_drew1) | exact HB.out)) hb); clear HB; have HB := n0_; clear n0_; (try clear hb); (try clear hb2); (try clear hk); (try clear hi)))
    (try simp only [Act.put, List.setIfInBounds_toArray, List.set_cons_zero, List.set_cons_succ])
    go_cut [8] (fun v8 wc => ∃ (kq : Nat) (x8_7 : List (S28)), Aside0 (tok_Rest.j0 kq a0 x8_7 t147 = some (r1, r2)) ∧ Aside0 (kq ≤ k) ∧ Aside0 (Kd.S k28 28 wc w.heap.size (fun _ => True) v8 x8_7) ∧ Aside0 (Below w.heap.size w wc))
    case first =>
      have H := HC8.out
      clear HC8
      by_cases c11 : t146.toList = ([] : List UInt8)
      · rw [if_pos c11] at H
        have c11b0 : (t146.toList == ([] : List UInt8)) = true := beq_iff_eq.mpr c11
        have c11bE : (t146.toList).isEmpty = true := List.isEmpty_iff.2 c11
        have c11b1 : (t146.toList != ([] : List UInt8)) = false := bne_eq_false_iff_eq.mpr c11
        clear c11
        (first | rw [c11b0] | (simp only [i64_w, i32_w]; rw [c11b0]) | skip)
        (try rw [c11bE])
        have H' := Aside0.mk H
        clear H
        go_wp2
        go_meet
        case rel => exact ⟨_, (([] : List (S28))), H', ⟨by first | omega | exact Nat.le_refl _⟩, ⟨by first | exact Kd.S_nil _ _ _ _ _ | exact Kd.N_nil _ _ _ _ _ | exact Kd.V_nil _ _ _ _ _ | exact Kd.Q_nil _ _ _ _ _ | exact Kd.R_nil _ _ _ _ _⟩, ⟨by repeat (first | (with_reducible first | exact HB.out | apply below_alloc | apply pw_below_drewN | apply below_drew1) | exact HB.out)⟩⟩
      · rw [if_neg c11] at H
        have c11b0 : (t146.toList == ([] : List UInt8)) = false := beq_eq_false_iff_ne.mpr c11
        have c11bE : (t146.toList).isEmpty = false := List.isEmpty_eq_false_iff.2 c11
        have c11b1 : (t146.toList != ([] : List UInt8)) = true := bne_iff_ne.mpr c11
        (first | rw [c11b0] | (simp only [i64_w, i32_w]; rw [c11b0]) | skip)
        (try rw [c11bE])
        by_cases c12 : ([] : List (S28)).length < 1954687338268
        · rw [if_pos c12] at H
          have LMc12 := Aside0.mk c12
          clear c12
          obtain ⟨y149, hy149⟩ : ∃ y_ : List (S28), y_ = (([] : List (S28)) ++ [(⟨0, (⟨#[]⟩ : ByteArray), t146, ([] : List (S65)), false⟩ : S28)]) := ⟨_, rfl⟩
          replace H : (tok_Rest.j0 k a0 y149 t147) = some (r1, r2) := by first | (rw [hy149]; with_reducible exact H) | (have H2_ := (Option.bind_some _ _).symm.trans H; rw [hy149]; with_reducible exact H2_) | (have H2_ := (Option.bind_some _ _).symm.trans H; with_reducible exact H2_) | with_reducible exact H | (rw [hy149]; exact H) | exact H
          have Ny149 := Aside0.mk hy149
          clear hy149
          have H' := Aside0.mk H
          clear H
          go_wp2_with (first | ((with_reducible refine gate_builtin (b := .append) (xs := #[.tmp 30, .tmp 33]) rfl ?_); at_builtin; refine Kd.S_append k28 (w0 := w) w.heap.size rfl (.tmp 30) (.tmp 33) 24 28 (.agg #[(.int .i64 0), (.string ⟨#[]⟩), (.string ⟨#[]⟩), (.slice none 0 0), (.bool false)]) 72 rfl Tryz.underlying24 info28 rfl (by decide) (by omega) (.slice none 0 0) ([] : List (S28)) (⟨0, (⟨#[]⟩ : ByteArray), t146, ([] : List (S65)), false⟩ : S28) [.int .i64 0, .string (⟨#[]⟩ : ByteArray), .string t146, .slice none 0 0, .bool false] (fun _ => True) (fun _ => False) rfl rfl ?aP (fun k_ hk_ => hk_.elim) ?aF ?aO ?aB ?aS ?aL ?_; (case aP => exact k28_mkM _ _ _ (⟨0, (⟨#[]⟩ : ByteArray), t146, ([] : List (S65)), false⟩ : S28) (Kd.R_nil _ _ _ _ _)); (case aB => exact (by repeat (first | (with_reducible first | exact HB.out | apply below_alloc | apply pw_below_drewN | apply below_drew1) | exact HB.out))); (case aF => exact (fun _ _ => trivial)); (case aO => exact ((Kd.S_nil _ _ _ _ _))); (case aS => exact (below_size (by repeat (first | (with_reducible first | exact HB.out | apply below_alloc | apply pw_below_drewN | apply below_drew1) | exact HB.out)))); (case aL => have := LMc12.out; omega); intro v150 w13 ho hb hg hat; rw [← Ny149.out] at ho; have n0_ := Aside0.mk (hb); have n1_ := Aside0.mk (ho); clear HB; have HB := n0_; have HO151 := n1_; clear n0_ n1_; clear ho hb hg hat))
          go_meet
          case rel => exact ⟨_, (y149), H', ⟨by first | omega | exact Nat.le_refl _⟩, ⟨by (with_reducible repeat (first | apply Kd.S_alloc | apply Kd.S_drewN | apply Kd.S_drew)); exact HO151.out⟩, ⟨by repeat (first | (with_reducible first | exact HB.out | apply below_alloc | apply pw_below_drewN | apply below_drew1) | exact HB.out)⟩⟩
        · rw [if_neg c12] at H
          exact absurd H (by simp)
    case rest =>
      clear HC8
      try clear c1
      try clear p2
      try clear c3
      try clear c6
      try clear c7
      try clear c11
      try clear c11b0
      try clear c11b1
      try clear c12
      obtain ⟨kq, x8_7, HA, HJ7, HO_8, HB⟩ := hcut
      cases kq with
      | zero => exact absurd HA.out (by simp [tok_Rest.j0])
      | succ kj7 =>
        have H := HA.out
        clear HA
        simp only [tok_Rest.j0] at H
        by_cases c14 : t147 = (a0.size : Int)
        · rw [if_pos c14] at H
          have c14b0 : (t147 == (a0.size : Int)) = true := beq_iff_eq.mpr c14
          have c14b1 : (t147 != (a0.size : Int)) = false := bne_eq_false_iff_eq.mpr c14
          clear c14
          simp only [Option.some.injEq, Prod.mk.injEq] at H
          obtain ⟨rfl, rfl⟩ := H
          go_wp2
          go_ret2
          exact ⟨_, by first | rfl | (simp [errW_none, errW_some] <;> rfl) | (simp [*, errW_none, errW_some] <;> rfl), by (with_reducible repeat (first | apply Kd.S_alloc | apply Kd.S_drewN | apply Kd.S_drew)); exact HO_8.out, by repeat (first | (with_reducible first | exact HB.out | apply below_alloc | apply pw_below_drewN | apply below_drew1) | exact HB.out)⟩
        · rw [if_neg c14] at H
          have c14b0 : (t147 == (a0.size : Int)) = false := beq_eq_false_iff_ne.mpr c14
          have c14b1 : (t147 != (a0.size : Int)) = true := bne_iff_ne.mpr c14
          replace H := Option.bind_eq_some_iff.mp H
          obtain ⟨⟨t152, t153, t154, t155, t158, t159, t160⟩, A150, H⟩ := H
          replace H : (if t160 = true then (if x8_7.length < 1954687338268 then (some ((x8_7 ++ [(⟨t152, t153, t154, t155, t158⟩ : S28)]), t159)) else (none)) else (some (x8_7, t159))) = some (r1, r2) := H
          have A15 := Aside0.mk A150
          clear A150
          by_cases c16 : t160 = true
          · subst c16
            have H1 : (if x8_7.length < 1954687338268 then (some ((x8_7 ++ [(⟨t152, t153, t154, t155, t158⟩ : S28)]), t159)) else (none)) = some (r1, r2) := by rw [if_pos rfl] at H; exact H
            clear H
            have H := H1
            clear H1
            by_cases c17 : x8_7.length < 1954687338268
            · rw [if_pos c17] at H
              have LMc17 := Aside0.mk c17
              clear c17
              obtain ⟨y162, hy162⟩ : ∃ y_ : List (S28), y_ = (x8_7 ++ [(⟨t152, t153, t154, t155, t158⟩ : S28)]) := ⟨_, rfl⟩
              replace H : (some (y162, t159)) = some (r1, r2) := by first | (rw [hy162]; with_reducible exact H) | (have H2_ := (Option.bind_some _ _).symm.trans H; rw [hy162]; with_reducible exact H2_) | (have H2_ := (Option.bind_some _ _).symm.trans H; with_reducible exact H2_) | with_reducible exact H | (rw [hy162]; exact H) | exact H
              have Ny162 := Aside0.mk hy162
              clear hy162
              simp only [Option.some.injEq, Prod.mk.injEq] at H
              obtain ⟨rfl, rfl⟩ := H
              go_wp2_with (first | ((with_reducible refine gate_callee (f := 62) rfl ?_); refine goesL_ (some 44) rfl rfl Tryz.func62 (by kernel_rfl) rfl #[.string a0, .int .i64 t147] rfl (by (try simp only [List.map_toArray, List.map_cons, List.map_nil]); first | done | rfl | (simp only [List.length_drop, List.length_take]; rfl)) ?_; (with_reducible refine (tag_Read.calls a0 t147 t152 t153 t154 t155 t158 t159 true _ ?side1 A15.out).mono ?_); (case side1 => exact Glob.step hGl (by repeat (first | (with_reducible first | exact HB.out | apply below_alloc | apply pw_below_drewN | apply below_drew1) | exact HB.out))); rintro e w18 ⟨v156, rfl, ho0, hb⟩; refine ⟨_, rfl, ?_⟩; have n0_ := Aside0.mk (Kd.S_elder' (by (with_reducible repeat (first | apply Kd.S_alloc | apply Kd.S_drewN | apply Kd.S_drew)); exact HO_8.out) (Kd.R_base ho0) hb); have n1_ := Aside0.mk (Kd.R_lower ho0 (below_size (by repeat (first | (with_reducible first | exact HB.out | apply below_alloc | apply pw_below_drewN | apply below_drew1) | exact HB.out)))); have n2_ := Aside0.mk (below_step (by repeat (first | (with_reducible first | exact HB.out | apply below_alloc | apply pw_below_drewN | apply below_drew1) | exact HB.out)) hb); clear HO_8; clear HB; have HO_8 := n0_; have HO157 := n1_; have HB := n2_; clear n0_ n1_ n2_; (try clear hb); (try clear hb2); (try clear hk); (try clear hi); (try clear ho0)) | ((with_reducible refine gate_dst (N := 12) rfl ?_); refine box_event ?hg (N := 12) ?hd (cs := #[.int .i64 0, .string (⟨#[]⟩ : ByteArray), .string (⟨#[]⟩ : ByteArray), .slice none 0 0, .bool false]) (t := 28) ?hr ?_; (case hd => rfl); (case hg => rfl); (case hr => first | (go_simp; done) | (go_simp; rfl)); intro gb161 hg w19 hbox hb; have n0_ := Aside0.mk (Kd.S_below (Kd.S_elderB (by (with_reducible repeat (first | apply Kd.S_alloc | apply Kd.S_drewN | apply Kd.S_drew)); exact HO_8.out) gb161 (Nat.le_of_eq hg.symm)) hb); have n1_ := Aside0.mk (Kd.R_below (by (with_reducible repeat (first | apply Kd.R_alloc | apply Kd.R_drewN | apply Kd.R_drew)); exact HO157.out) hb); have n2_ := Aside0.mk (below_step (by repeat (first | (with_reducible first | exact HB.out | apply below_alloc | apply pw_below_drewN | apply below_drew1) | exact HB.out)) hb); have n3_ := Aside0.mk (hbox); have n4_ := Aside0.mk ((by rw [hg]; exact (below_size (by repeat (first | (with_reducible first | exact HB.out | apply below_alloc | apply pw_below_drewN | apply below_drew1) | exact HB.out))) : w.heap.size ≤ gb161)); have n5_ := Aside0.mk ((by rw [hg]; exact (below_size (by repeat (first | (with_reducible first | exact HB.out | apply below_alloc | apply pw_below_drewN | apply below_drew1) | exact HB.out))) : w.heap.size ≤ gb161)); clear HO_8; clear HO157; clear HB; have HO_8 := n0_; have HO157 := n1_; have HB := n2_; have BK161 := n3_; have GW161 := n4_; have GE161 := n5_; clear n0_ n1_ n2_ n3_ n4_ n5_; clear hb hbox hg; have hcz20_0 : w19.cell? ⟨gb161, 0, none⟩ = some (.int .i64 0) := (blk_cell BK161.out 0).trans rfl; have hcz20_1 : w19.cell? ⟨gb161, 1, none⟩ = some (.string (⟨#[]⟩ : ByteArray)) := (blk_cell BK161.out 1).trans rfl; have hcz20_2 : w19.cell? ⟨gb161, 2, none⟩ = some (.string (⟨#[]⟩ : ByteArray)) := (blk_cell BK161.out 2).trans rfl; have hcz20_3 : w19.cell? ⟨gb161, 3, none⟩ = some (.slice none 0 0) := (blk_cell BK161.out 3).trans rfl; have hcz20_4 : w19.cell? ⟨gb161, 4, none⟩ = some (.bool false) := (blk_cell BK161.out 4).trans rfl; have hfz20_0 := blk_frozen BK161.out 0; have hfz20_1 := blk_frozen BK161.out 1; have hfz20_2 := blk_frozen BK161.out 2; have hfz20_3 := blk_frozen BK161.out 3; have hfz20_4 := blk_frozen BK161.out 4; obtain ⟨Ao21, co21, eo21⟩ := Kd.R_slice HO157.out; subst eo21) | ((with_reducible refine gate_store (t := 28) (p := 12) rfl ?_); refine store_event (t := 28) (p := 12) (v := ?vo_w22) (w1 := (((((w19.setCell ⟨gb161, 0, none⟩ (.int .i64 t152)).setCell ⟨gb161, 1, none⟩ (.string t153)).setCell ⟨gb161, 2, none⟩ (.string t154)).setCell ⟨gb161, 3, none⟩ (.slice Ao21 t155.length co21)).setCell ⟨gb161, 4, none⟩ (.bool t158))) ?hg ?ho ?hn ?hr ?_; (case ho => rfl); (case hg => rfl); (case hn => rfl); (case hr => first | (go_simp; done) | (go_simp; rfl)); intro w22 hw; have n0_ : Aside0 (Kd.S k28 28 w22 w.heap.size (fun k_ => some k_ ≠ (.slice Ao21 t155.length co21 : Value).ownBlock ∧ k_ ≠ gb161) u8 x8_7) := ⟨(by rw [hw]; exact (by (with_reducible repeat (first | apply Kd.S_alloc | apply Kd.S_drewN | apply Kd.S_drew)); exact Kd.S_mono (Kd.S_far (p := ⟨gb161, 4, none⟩) (Kd.S_far (p := ⟨gb161, 3, none⟩) (Kd.S_far (p := ⟨gb161, 2, none⟩) (Kd.S_far (p := ⟨gb161, 1, none⟩) (Kd.S_far (p := ⟨gb161, 0, none⟩) (Kd.S_mono HO_8.out (fun k_ hk => (⟨hk, hk.2⟩ : _ ∧ k_ ≠ gb161))) (fun _ hk => hk.2) (.int .i64 t152)) (fun _ hk => hk.2) (.string t153)) (fun _ hk => hk.2) (.string t154)) (fun _ hk => hk.2) (.slice Ao21 t155.length co21)) (fun _ hk => hk.2) (.bool t158)) (fun _ hk => ⟨hk.1.1.2, hk.1.2⟩)))⟩; have n1_ : Aside0 (Kd.R k65 65 w22 w.heap.size (fun _ => True) (.slice Ao21 t155.length co21) t155) := ⟨(by rw [hw]; exact (by (with_reducible repeat (first | apply Kd.R_alloc | apply Kd.R_drewN | apply Kd.R_drew)); exact Kd.R_mono (Kd.R_far (p := ⟨gb161, 4, none⟩) (Kd.R_far (p := ⟨gb161, 3, none⟩) (Kd.R_far (p := ⟨gb161, 2, none⟩) (Kd.R_far (p := ⟨gb161, 1, none⟩) (Kd.R_far (p := ⟨gb161, 0, none⟩) (Kd.R_types HO157.out BK161.out (by decide)) (fun _ hk => hk.2) (.int .i64 t152)) (fun _ hk => hk.2) (.string t153)) (fun _ hk => hk.2) (.string t154)) (fun _ hk => hk.2) (.slice Ao21 t155.length co21)) (fun _ hk => hk.2) (.bool t158)) (fun _ hk => trivial)))⟩; have n2_ : Aside0 (w22.heap[gb161]? = some (.cells #[.int .i64 t152, .string t153, .string t154, .slice Ao21 t155.length co21, .bool t158] 28 (0, 0))) := ⟨(by rw [hw]; exact (by (with_reducible repeat (first | refine blk_drewN ?_ _ | refine blk_drew ?_ | refine blk_alloc ?_ _)); refine blk_put (cs := #[.int .i64 t152, .string t153, .string t154, .slice Ao21 t155.length co21, .bool false]) ?_ 4 _ rfl; (with_reducible repeat (first | refine blk_drewN ?_ _ | refine blk_drew ?_ | refine blk_alloc ?_ _)); refine blk_put (cs := #[.int .i64 t152, .string t153, .string t154, .slice none 0 0, .bool false]) ?_ 3 _ rfl; (with_reducible repeat (first | refine blk_drewN ?_ _ | refine blk_drew ?_ | refine blk_alloc ?_ _)); refine blk_put (cs := #[.int .i64 t152, .string t153, .string (⟨#[]⟩ : ByteArray), .slice none 0 0, .bool false]) ?_ 2 _ rfl; (with_reducible repeat (first | refine blk_drewN ?_ _ | refine blk_drew ?_ | refine blk_alloc ?_ _)); refine blk_put (cs := #[.int .i64 t152, .string (⟨#[]⟩ : ByteArray), .string (⟨#[]⟩ : ByteArray), .slice none 0 0, .bool false]) ?_ 1 _ rfl; (with_reducible repeat (first | refine blk_drewN ?_ _ | refine blk_drew ?_ | refine blk_alloc ?_ _)); refine blk_put (cs := #[.int .i64 0, .string (⟨#[]⟩ : ByteArray), .string (⟨#[]⟩ : ByteArray), .slice none 0 0, .bool false]) ?_ 0 _ rfl; (with_reducible repeat (first | refine blk_drewN ?_ _ | refine blk_drew ?_ | refine blk_alloc ?_ _)); exact BK161.out))⟩; have n3_ : Aside0 (Below w.heap.size w w22) := ⟨(by rw [hw]; exact (by repeat (first | (with_reducible first | exact HB.out | apply below_alloc | apply pw_below_drewN | apply below_drew1 | refine below_set ?_ GE161.out) | exact HB.out)))⟩; clear hw; clear HO_8; clear HO157; clear BK161; clear HB; have HO_8 := n0_; have HO157 := n1_; have BK161 := n2_; have HB := n3_; clear n0_ n1_ n2_ n3_; have hcz23_0 : w22.cell? ⟨gb161, 0, none⟩ = some (.int .i64 t152) := (blk_cell BK161.out 0).trans rfl; have hcz23_1 : w22.cell? ⟨gb161, 1, none⟩ = some (.string t153) := (blk_cell BK161.out 1).trans rfl; have hcz23_2 : w22.cell? ⟨gb161, 2, none⟩ = some (.string t154) := (blk_cell BK161.out 2).trans rfl; have hcz23_3 : w22.cell? ⟨gb161, 3, none⟩ = some (.slice Ao21 t155.length co21) := (blk_cell BK161.out 3).trans rfl; have hcz23_4 : w22.cell? ⟨gb161, 4, none⟩ = some (.bool t158) := (blk_cell BK161.out 4).trans rfl; have hfz23_0 := blk_frozen BK161.out 0; have hfz23_1 := blk_frozen BK161.out 1; have hfz23_2 := blk_frozen BK161.out 2; have hfz23_3 := blk_frozen BK161.out 3; have hfz23_4 := blk_frozen BK161.out 4) | ((with_reducible refine gate_builtin (b := .append) (xs := #[.tmp 49, .tmp 51]) rfl ?_); at_builtin; refine Kd.S_append k28 (w0 := w) w.heap.size rfl (.tmp 49) (.tmp 51) 24 28 (.agg #[(.int .i64 0), (.string ⟨#[]⟩), (.string ⟨#[]⟩), (.slice none 0 0), (.bool false)]) 72 rfl Tryz.underlying24 info28 rfl (by decide) (by omega) u8 x8_7 (⟨t152, t153, t154, t155, t158⟩ : S28) [.int .i64 t152, .string t153, .string t154, .slice Ao21 t155.length co21, .bool t158] (fun k_ => k_ ≠ gb161) (fun k_ => some k_ = (.slice Ao21 t155.length co21 : Value).ownBlock) rfl rfl ?aP (fun k_ hk_ => ((Kd.R_mono (ok' := fun k_ => ((fun k_ => k_ ≠ gb161)) k_ ∧ some k_ ≠ (u8 : Value).ownBlock) (Kd.R_types (Kd.R_apart' (HO157.out) (Kd.S_typed HO_8.out) (by decide)) BK161.out (by decide)) (fun k_ hk => ⟨hk.2, hk.1.2⟩))).1 k_ hk_.symm) ?aF ?aO ?aB ?aS ?aL ?_; (case aP => exact k28_mkM _ _ _ (⟨t152, t153, t154, t155, t158⟩ : S28) (Kd.R_mono (Kd.R_tight rfl (Kd.R_mono (ok' := fun k_ => ((fun k_ => k_ ≠ gb161)) k_ ∧ some k_ ≠ (u8 : Value).ownBlock) (Kd.R_types (Kd.R_apart' (HO157.out) (Kd.S_typed HO_8.out) (by decide)) BK161.out (by decide)) (fun k_ hk => ⟨hk.2, hk.1.2⟩))) (fun _ h_ => h_))); (case aB => exact (by repeat (first | (with_reducible first | exact HB.out | apply below_alloc | apply pw_below_drewN | apply below_drew1 | refine below_set ?_ GE161.out) | exact HB.out))); (case aF => exact (fun k_ hk => Kd.freshB (g := gb161) (o := .cells #[.int .i64 t152, .string t153, .string t154, .slice Ao21 t155.length co21, .bool t158] 28 (0, 0)) (by (with_reducible repeat (first | refine blk_drewN ?_ _ | refine blk_drew ?_ | refine blk_alloc ?_ _)); exact BK161.out) k_ hk)); (case aO => exact (by (with_reducible repeat (first | apply Kd.S_alloc | apply Kd.S_drewN | apply Kd.S_drew)); exact Kd.S_mono HO_8.out (fun k_ hk => ⟨hk.2, fun e_ => hk.1 e_⟩))); (case aS => exact (below_size (by repeat (first | (with_reducible first | exact HB.out | apply below_alloc | apply pw_below_drewN | apply below_drew1 | refine below_set ?_ GE161.out) | exact HB.out)))); (case aL => have := LMc17.out; omega); intro v163 w24 ho hb hg hat; rw [← Ny162.out] at ho; have n0_ := Aside0.mk (blk_grown (g := gb161) (o := .cells #[.int .i64 t152, .string t153, .string t154, .slice Ao21 t155.length co21, .bool t158] 28 (0, 0)) (by (with_reducible repeat (first | refine blk_drewN ?_ _ | refine blk_drew ?_ | refine blk_alloc ?_ _)); exact BK161.out) hg (Kd.S_away HO_8.out (fun _ hk => hk.2))); have n1_ := Aside0.mk (hb); have n2_ := Aside0.mk (ho); clear BK161; clear HB; clear HO_8; clear HO157; have BK161 := n0_; have HB := n1_; have HO164 := n2_; clear n0_ n1_ n2_; clear ho hb hg hat))
              go_ret2
              exact ⟨_, by first | rfl | (simp [errW_none, errW_some] <;> rfl) | (simp [*, errW_none, errW_some] <;> rfl), by (with_reducible repeat (first | apply Kd.S_alloc | apply Kd.S_drewN | apply Kd.S_drew)); exact Kd.S_mono HO164.out (fun _ hk => trivial), by repeat (first | (with_reducible first | exact HB.out | apply below_alloc | apply pw_below_drewN | apply below_drew1 | refine below_set ?_ GE161.out) | exact HB.out)⟩
            · rw [if_neg c17] at H
              exact absurd H (by simp)
          · replace c16 := Bool.eq_false_iff.mpr c16
            subst c16
            have H1 : (some (x8_7, t159)) = some (r1, r2) := by rw [if_neg (show ¬ (false = true) by decide)] at H; exact H
            clear H
            have H := H1
            clear H1
            simp only [Option.some.injEq, Prod.mk.injEq] at H
            obtain ⟨rfl, rfl⟩ := H
            go_wp2_with (first | ((with_reducible refine gate_callee (f := 62) rfl ?_); refine goesL_ (some 44) rfl rfl Tryz.func62 (by kernel_rfl) rfl #[.string a0, .int .i64 t147] rfl (by (try simp only [List.map_toArray, List.map_cons, List.map_nil]); first | done | rfl | (simp only [List.length_drop, List.length_take]; rfl)) ?_; (with_reducible refine (tag_Read.calls a0 t147 t152 t153 t154 t155 t158 t159 false _ ?side1 A15.out).mono ?_); (case side1 => exact Glob.step hGl (by repeat (first | (with_reducible first | exact HB.out | apply below_alloc | apply pw_below_drewN | apply below_drew1) | exact HB.out))); rintro e w25 ⟨v156, rfl, ho0, hb⟩; refine ⟨_, rfl, ?_⟩; have n0_ := Aside0.mk (Kd.S_elder' (by (with_reducible repeat (first | apply Kd.S_alloc | apply Kd.S_drewN | apply Kd.S_drew)); exact HO_8.out) (Kd.R_base ho0) hb); have n1_ := Aside0.mk (Kd.R_lower ho0 (below_size (by repeat (first | (with_reducible first | exact HB.out | apply below_alloc | apply pw_below_drewN | apply below_drew1) | exact HB.out)))); have n2_ := Aside0.mk (below_step (by repeat (first | (with_reducible first | exact HB.out | apply below_alloc | apply pw_below_drewN | apply below_drew1) | exact HB.out)) hb); clear HO_8; clear HB; have HO_8 := n0_; have HO157 := n1_; have HB := n2_; clear n0_ n1_ n2_; (try clear hb); (try clear hb2); (try clear hk); (try clear hi); (try clear ho0)) | ((with_reducible refine gate_dst (N := 12) rfl ?_); refine box_event ?hg (N := 12) ?hd (cs := #[.int .i64 0, .string (⟨#[]⟩ : ByteArray), .string (⟨#[]⟩ : ByteArray), .slice none 0 0, .bool false]) (t := 28) ?hr ?_; (case hd => rfl); (case hg => rfl); (case hr => first | (go_simp; done) | (go_simp; rfl)); intro gb161 hg w26 hbox hb; have n0_ := Aside0.mk (Kd.S_below (Kd.S_elderB (by (with_reducible repeat (first | apply Kd.S_alloc | apply Kd.S_drewN | apply Kd.S_drew)); exact HO_8.out) gb161 (Nat.le_of_eq hg.symm)) hb); have n1_ := Aside0.mk (Kd.R_below (by (with_reducible repeat (first | apply Kd.R_alloc | apply Kd.R_drewN | apply Kd.R_drew)); exact HO157.out) hb); have n2_ := Aside0.mk (below_step (by repeat (first | (with_reducible first | exact HB.out | apply below_alloc | apply pw_below_drewN | apply below_drew1) | exact HB.out)) hb); have n3_ := Aside0.mk (hbox); have n4_ := Aside0.mk ((by rw [hg]; exact (below_size (by repeat (first | (with_reducible first | exact HB.out | apply below_alloc | apply pw_below_drewN | apply below_drew1) | exact HB.out))) : w.heap.size ≤ gb161)); have n5_ := Aside0.mk ((by rw [hg]; exact (below_size (by repeat (first | (with_reducible first | exact HB.out | apply below_alloc | apply pw_below_drewN | apply below_drew1) | exact HB.out))) : w.heap.size ≤ gb161)); clear HO_8; clear HO157; clear HB; have HO_8 := n0_; have HO157 := n1_; have HB := n2_; have BK161 := n3_; have GW161 := n4_; have GE161 := n5_; clear n0_ n1_ n2_ n3_ n4_ n5_; clear hb hbox hg; have hcz27_0 : w26.cell? ⟨gb161, 0, none⟩ = some (.int .i64 0) := (blk_cell BK161.out 0).trans rfl; have hcz27_1 : w26.cell? ⟨gb161, 1, none⟩ = some (.string (⟨#[]⟩ : ByteArray)) := (blk_cell BK161.out 1).trans rfl; have hcz27_2 : w26.cell? ⟨gb161, 2, none⟩ = some (.string (⟨#[]⟩ : ByteArray)) := (blk_cell BK161.out 2).trans rfl; have hcz27_3 : w26.cell? ⟨gb161, 3, none⟩ = some (.slice none 0 0) := (blk_cell BK161.out 3).trans rfl; have hcz27_4 : w26.cell? ⟨gb161, 4, none⟩ = some (.bool false) := (blk_cell BK161.out 4).trans rfl; have hfz27_0 := blk_frozen BK161.out 0; have hfz27_1 := blk_frozen BK161.out 1; have hfz27_2 := blk_frozen BK161.out 2; have hfz27_3 := blk_frozen BK161.out 3; have hfz27_4 := blk_frozen BK161.out 4; obtain ⟨Ao28, co28, eo28⟩ := Kd.R_slice HO157.out; subst eo28))
            go_ret2
            exact ⟨_, by first | rfl | (simp [errW_none, errW_some] <;> rfl) | (simp [*, errW_none, errW_some] <;> rfl), by (with_reducible repeat (first | apply Kd.S_alloc | apply Kd.S_drewN | apply Kd.S_drew)); exact Kd.S_mono (Kd.S_far (p := ⟨gb161, 4, none⟩) (Kd.S_far (p := ⟨gb161, 3, none⟩) (Kd.S_far (p := ⟨gb161, 2, none⟩) (Kd.S_far (p := ⟨gb161, 1, none⟩) (Kd.S_far (p := ⟨gb161, 0, none⟩) (Kd.S_mono HO_8.out (fun k_ hk => (⟨hk, hk.2⟩ : _ ∧ k_ ≠ gb161))) (fun _ hk => hk.2) (.int .i64 t152)) (fun _ hk => hk.2) (.string t153)) (fun _ hk => hk.2) (.string t154)) (fun _ hk => hk.2) (.slice Ao28 t155.length co28)) (fun _ hk => hk.2) (.bool t158)) (fun _ hk => trivial), by repeat (first | (with_reducible first | exact HB.out | apply below_alloc | apply pw_below_drewN | apply below_drew1 | refine below_set ?_ GE161.out) | exact HB.out)⟩
  · replace c7 := Bool.eq_false_iff.mpr c7
    subst c7
    have H1 : (some (([] : List (S28)), t145)) = some (r1, r2) := by rw [if_neg (show ¬ (false = true) by decide)] at H; exact H
    clear H
    have H := H1
    clear H1
    simp only [Option.some.injEq, Prod.mk.injEq] at H
    obtain ⟨rfl, rfl⟩ := H
    go_enter Tryz.func34, Tryz.ntmps34
    go_wp2_with (first | ((with_reducible refine gate_callee (f := 60) rfl ?_); refine goesL_ (some 15) rfl rfl Tryz.func60 (by kernel_rfl) rfl #[.string a0, .int .i64 a1] rfl (by (try simp only [List.map_toArray, List.map_cons, List.map_nil]); first | done | rfl | (simp only [List.length_drop, List.length_take]; rfl)) ?_; (with_reducible refine (tok_inside.calls a0 a1 t145 _ A5.out).mono ?_); rintro e w29 ⟨rfl, hb⟩; refine ⟨_, rfl, ?_⟩; have n0_ := Aside0.mk (below_step (by repeat (first | (with_reducible first | exact HB.out | apply below_alloc | apply pw_below_drewN | apply below_drew1) | exact HB.out)) hb); clear HB; have HB := n0_; clear n0_; (try clear hb); (try clear hb2); (try clear hk); (try clear hi)) | ((with_reducible refine gate_callee (f := 61) rfl ?_); refine goesL_ (some 21) rfl rfl Tryz.func61 (by kernel_rfl) rfl #[.string a0, .int .i64 t145, .int .i64 a2, .string a3] rfl (by (try simp only [List.map_toArray, List.map_cons, List.map_nil]); first | done | rfl | (simp only [List.length_drop, List.length_take]; rfl)) ?_; (with_reducible refine (tok_ends.calls k a0 t145 a2 a3 t146 t147 false _ ?side1 A6.out).mono ?_); (case side1 => exact Glob.step hGl (by repeat (first | (with_reducible first | exact HB.out | apply below_alloc | apply pw_below_drewN | apply below_drew1) | exact HB.out))); rintro e w30 ⟨rfl, hb⟩; refine ⟨_, rfl, ?_⟩; have n0_ := Aside0.mk (below_step (by repeat (first | (with_reducible first | exact HB.out | apply below_alloc | apply pw_below_drewN | apply below_drew1) | exact HB.out)) hb); clear HB; have HB := n0_; clear n0_; (try clear hb); (try clear hb2); (try clear hk); (try clear hi)))
    go_ret2
    exact ⟨_, by first | rfl | (simp [errW_none, errW_some] <;> rfl) | (simp [*, errW_none, errW_some] <;> rfl), by first | exact Kd.S_nil _ _ _ _ _ | exact Kd.N_nil _ _ _ _ _ | exact Kd.V_nil _ _ _ _ _ | exact Kd.Q_nil _ _ _ _ _ | exact Kd.R_nil _ _ _ _ _, by repeat (first | (with_reducible first | exact HB.out | apply below_alloc | apply pw_below_drewN | apply below_drew1) | exact HB.out)⟩
end Go.Proofs.YtbdcghbafopjjaaGreatDoor.St
end

section
namespace Go.Proofs.YtbdcghbafopjjaaGreatDoor.Hand
open Go Go.RowKit Go.Proofs.YtbdcghbafopjjaaGreatDoor.Pl Go.Proofs.YtbdcghbafopjjaaGreatDoor.Pb Go.Proofs.YtbdcghbafopjjaaGreatDoor.Pure
def stepJ (out : List Tk) : Tk → List Tk
  | .text s => if s = [] then out else match out.getLast? with
    | some (.text u) => out.dropLast ++ [.text (u ++ s)]
    | _ => out ++ [.text s]
  | t => out ++ [t]
def isTx : Tk → Bool
  | .text _ => true
  | _ => false
theorem joinL_nil0 (r : List Tk) : joinL (.text [] :: r) = joinL r := by
  rw [joinL]
  cases joinL r with
  | nil => rfl
  | cons t q => cases t <;> rfl
theorem joinL_no {t : Tk} (r : List Tk) (h : isTx t = false) : joinL (t :: r) = t :: joinL r := by
  cases t <;> first | rfl | cases h
theorem joinL_two (u s : List UInt8) (r : List Tk) (hs : s ≠ []) : joinL (.text u :: .text s :: r) = joinL (.text (u ++ s) :: r) := by
  rw [joinL, joinL, joinL]
  cases joinL r with
  | nil => simp [txtT, hs]
  | cons t q => cases t <;> simp [txtT, hs]
theorem joinL_txno {t : Tk} (u : List UInt8) (r : List Tk) (h : isTx t = false) : joinL (.text u :: t :: r) = txtT u ++ t :: joinL r := by
  rw [joinL, joinL_no r h]
  cases t <;> first | rfl | cases h
theorem stepJ_no {t : Tk} (o : List Tk) (h : isTx t = false) : stepJ o t = o ++ [t] := by cases t <;> first | rfl | cases h
theorem stepJ_nil (o : List Tk) : stepJ o (.text []) = o := by unfold stepJ; simp
theorem stepJ_tt (o : List Tk) {u s : List UInt8} (hs : s ≠ []) : stepJ (o ++ [.text u]) (.text s) = o ++ [.text (u ++ s)] := by unfold stepJ; simp [hs]
theorem stepJ_new (o : List Tk) {s : List UInt8} (hs : s ≠ []) (h : ∀ u, o.getLast? ≠ some (.text u)) : stepJ o (.text s) = o ++ [.text s] := by
  simp only [stepJ, if_neg hs]
theorem join_fold (l : List Tk) : ∀ o : List Tk, (∀ u, u ≠ [] → l.foldl stepJ (o ++ [.text u]) = o ++ joinL (.text u :: l)) ∧ ((∀ u, o.getLast? ≠ some (.text u)) → l.foldl stepJ o = o ++ joinL l) := by
  induction l with
  | nil => intro o; exact ⟨fun u hu => by simp [joinL, txtT, hu], fun _ => by simp [joinL]⟩
  | cons t r ih =>
    intro o
    have other : isTx t = false → ∀ o2 : List Tk, (t :: r).foldl stepJ o2 = o2 ++ t :: joinL r := fun ht o2 => by
      rw [List.foldl_cons, stepJ_no _ ht, (ih (o2 ++ [t])).2 (fun u => by
        rw [List.getLast?_append]; intro e; simp at e; subst e; cases ht)]
      simp
    cases ht : isTx t with
    | false =>
      refine ⟨fun u hu => ?_, fun _ => ?_⟩
      · rw [other ht, joinL_txno u r ht]
        simp [txtT, hu]
      · rw [other ht, joinL_no r ht]
    | true =>
      obtain ⟨s, rfl⟩ : ∃ s, t = .text s := by cases t <;> first | exact ⟨_, rfl⟩ | cases ht
      by_cases hs : s = []
      · subst hs
        refine ⟨fun u hu => ?_, fun h => ?_⟩
        · rw [List.foldl_cons, stepJ_nil, (ih o).1 u hu, joinL, joinL, joinL_nil0]
        · rw [List.foldl_cons, stepJ_nil, (ih o).2 h, joinL_nil0]
      · refine ⟨fun u hu => ?_, fun h => ?_⟩
        · rw [List.foldl_cons, stepJ_tt o hs, (ih o).1 _ (by simp [hu]), joinL_two u s r hs]
        · rw [List.foldl_cons, stepJ_new o hs h, (ih o).1 s hs]
theorem join_eq (l : List Tk) : l.foldl stepJ [] = joinL l := by
  rw [(join_fold l []).2 (fun u => by simp)]; rfl
end Go.Proofs.YtbdcghbafopjjaaGreatDoor.Hand
end

section
namespace Go.Proofs.YtbdcghbafopjjaaGreatDoor.Pure
open Go Go.RowKit Go.Proofs.YtbdcghbafopjjaaGreatDoor.K0 Go.Proofs.YtbdcghbafopjjaaGreatDoor.Hand Go.Proofs.YtbdcghbafopjjaaGreatDoor.Sa Go.Proofs.YtbdcghbafopjjaaGreatDoor.Si Go.Proofs.YtbdcghbafopjjaaGreatDoor.St Go.Proofs.YtbdcghbafopjjaaGreatDoorW.PrintWords Go.Proofs.YtbdcghbafopjjaaGreatDoorW.PrintMore Go.Proofs.YtbdcghbafopjjaaGreatDoor.Pl Go.Proofs.YtbdcghbafopjjaaGreatDoor.Pb
abbrev TkS := S28
def ofK (t : Tk) : TkS := ⟨(tkC t).1, B (tkC t).2.1, B (tkC t).2.2.1, (tkC t).2.2.2.1.map ofT, (tkC t).2.2.2.2⟩
theorem inside_f {s : List UInt8} {p : Nat} (_ : s.length ≤ 100000) (hp : p ≤ s.length) : tok_inside.f (B s) (p : Int) = some (p : Int) := by
  unfold tok_inside.f
  rw [size_B]
  congr 1
  unfold mn mx
  repeat' split
  all_goals omega
theorem inT_ok {s : List UInt8} {p : Nat} (hs : s.length ≤ 100000) (hp : p ≤ s.length) : inT (B s) (p : Int) := ⟨by rw [size_B]; exact hs, by omega, by rw [size_B]; omega⟩
theorem atT_B (s : List UInt8) (p : Nat) : atT (B s) (p : Int) = s.drop p := by unfold atT; rw [B_data]; rfl
theorem next_f {s : List UInt8} {p : Nat} (hs : s.length ≤ 100000) (hp : p ≤ s.length) : tok_Next.f (B s) (p : Int) = some (tkOut s.length (tokL (s.drop p))) := by
  have hin := inT_ok hs hp
  unfold tok_Next.f
  rw [inside_f hs hp, Option.bind_some]
  unfold tag_Begins.f tag_Read.f doctype_Begins.f doctype_Read.f text_Read.f
  rw [if_pos hin, Option.bind_some, atT_B]
  by_cases h1 : tagN (s.drop p) = 0
  · rw [if_neg (by simp [h1]), Pcb.begC_f s p (by omega) hp, Option.bind_some]
    have hk : tokL (s.drop p) = if begC (s.drop p) = true then (some (.comment (cleanL (readC (s.drop p)).1)), (s.drop p).drop (readC (s.drop p)).2)
        else if begR (s.drop p) docL = true then (some (.doctype (cleanL (upto 62 ((s.drop p).drop 9)))), past 62 ((s.drop p).drop 9))
        else if begR (s.drop p) voidL = true then (none, (s.drop p).drop 3)
        else if txN (s.drop p) = 0 then (none, s.drop p)
        else (some (.text (rdL false ((s.drop p).take (txN (s.drop p))))), (s.drop p).drop (txN (s.drop p))) := by
      unfold tokL; rw [if_neg (by simp [h1])]
    rw [hk]
    by_cases h2 : begC (s.drop p) = true
    · rw [if_pos h2, if_pos h2, Pcm.read_f s p (by omega) hp, Option.bind_some]
      unfold Pcm.tokC
      rw [if_pos h2]
      have hn : p + (readC (s.drop p)).2 = s.length - ((s.drop p).drop (readC (s.drop p)).2).length := by
        have := readC_in h2
        rw [List.length_drop] at this
        rw [List.length_drop, List.length_drop]; omega
      unfold tkOut
      simp only [hn]
      rfl
    · rw [if_neg h2, if_neg h2, if_pos hin, Option.bind_some]
      by_cases h3 : begR (s.drop p) docL = true
      · simp only [if_pos h3, if_pos hin, Option.bind_some, size_B]
      · rw [if_neg h3, if_neg h3, show (⟨#[60, 47, 62]⟩ : ByteArray) = B voidL from rfl, begins_f s voidL p (by omega) (by decide) hp, Option.bind_some]
        by_cases h4 : begR (s.drop p) voidL = true
        · rw [if_pos h4, if_pos h4]
          have hl := begR_length _ _ h4
          rw [List.length_drop] at hl
          simp only [voidL, List.length_cons, List.length_nil] at hl
          have w : wrap64 ((p : Int) + 3) = ((s.length - ((s.drop p).drop 3).length : Nat) : Int) := by
            rw [List.length_drop, List.length_drop]; unfold wrap64; omega
          rw [w]; rfl
        · rw [if_neg h4, if_neg h4, if_pos hin, Option.bind_some]
          have hl := txN_le (s.drop p)
          rw [List.length_drop] at hl
          simp only [Int.toNat_natCast]
          by_cases h5 : txN (s.drop p) = 0
          · rw [if_pos (by rw [h5]; rfl), if_pos h5]
            have : s.length - (s.drop p).length = p := by rw [List.length_drop]; omega
            unfold tkOut
            simp only [this]
          · rw [if_neg (by omega), if_neg h5]
            have : s.length - ((s.drop p).drop (txN (s.drop p))).length = p + txN (s.drop p) := by rw [List.length_drop, List.length_drop]; omega
            unfold tkOut
            simp only [this]
            rfl
  · rw [if_pos (by simpa using h1), if_pos hin, Option.bind_some, size_B]
    have : tokL (s.drop p) = tagR (s.drop p) := by unfold tokL tagR; rw [if_pos h1, if_neg h1]
    rw [this]
theorem rawText_f {x : List UInt8} (refs : Bool) (hx : x.length ≤ 100000) : raw_Text.f (B x) refs = some (B (rawT refs x)) := by
  have hr := rdL_le false x
  unfold raw_Text.f rawT ref_Decode.f
  cases refs with
  | true =>
    rw [if_pos rfl, if_pos (by rw [size_B]; exact hx), Option.bind_some, B_data, clean_f _ (by omega)]; rfl
  | false =>
    rw [if_neg (by decide), clean_f _ (by omega)]; rfl
theorem tok_ends_ev {s : List UInt8} {p : Nat} (name : List UInt8) {st : Nat} (hs : s.length ≤ 100000) (hp : p ≤ s.length) (hl : name.length ≤ 100000) (h4 : st ≤ 4) :
    Ev (fun k => tok_ends.f k (B s) (p : Int) (st : Int) (B name)) (if st = 0 then (⟨#[]⟩, (p : Int), false) else (B (rawT (st == 1) ((s.drop p).take (endN st name (s.drop p)))), ((p + endN st name (s.drop p) : Nat) : Int), true)) := by
  have hf : raw_Find.f (B s) (p : Int) (B name) = some ((p + firstE name (s.drop p) : Nat) : Int) := by
    unfold raw_Find.f
    rw [if_pos (by rw [size_B, size_B]; omega), B_data, B_data, size_B, show clN s.length (p : Int) = p by unfold clN; split <;> (try split) <;> omega, rawFind_first s name p hp]
  have hfl : firstE name (s.drop p) ≤ s.length - p := by
    have : ∀ l : List UInt8, firstE name l ≤ l.length := fun l => by
      induction l with
      | nil => exact Nat.le_refl _
      | cons c r ih => rw [firstE]; split <;> simp only [List.length_cons] <;> omega
    have := this (s.drop p)
    rwa [List.length_drop] at this
  have hx : ∀ n, (B s).extract p (p + n) = B ((s.drop p).take n) := fun n => by rw [B_extract, List.drop_take, Nat.add_sub_cancel_left]
  have hz : ((B s).size : Int) = (s.length : Int) := by rw [size_B]
  have hR : ∀ n, n ≤ s.length - p → ∀ b, raw_Text.f ((B s).extract ((p : Nat) : Int).toNat ((p + n : Nat) : Int).toNat) b = some (B (rawT b ((s.drop p).take n))) := fun n hn b => by
    rw [Int.toNat_natCast, Int.toNat_natCast, hx, rawText_f b (by rw [List.length_take, List.length_drop]; omega)]
  unfold tok_ends.f
  simp only [hf, Option.bind_some]
  have hj : ∀ (n : Nat), n ≤ s.length - p → ∀ v, Ev (fun k => tok_ends.j0 k (B s) (p : Int) (st : Int) ((p + n : Nat) : Int) v true) (B (rawT (st == 1) ((s.drop p).take n)), ((p + n : Nat) : Int), true) := fun n hn v => by
    refine Ev.step (f := fun _ => some (B (rawT (st == 1) ((s.drop p).take n)), ((p + n : Nat) : Int), true)) (fun k => ?_) (Ev.now _)
    have hb : ((st : Int) == 1) = (st == 1) := by rw [Bool.eq_iff_iff, beq_iff_eq, beq_iff_eq]; omega
    rw [tok_ends.j0, if_pos rfl, if_pos (by omega), if_pos (by omega), if_pos (by rw [hz]; omega), hR n hn, Option.bind_some]
    simp only [hb]
  by_cases h3 : st = 3
  · subst h3
    simp only [if_pos (show (((3 : Nat) : Int) = 3) from rfl), if_neg (show ¬ ((3 : Nat) = 0) by decide)]
    have hF := find_f s (by omega) (p : Int)
    rw [show clampN s.length (p : Int) = p by unfold clampN; split <;> (try split) <;> omega] at hF
    have he : endN 3 name (s.drop p) = (findL 0 0 (s.drop p)).1 := rfl
    have hfe : (findL 0 0 (s.drop p)).1 ≤ s.length - p := by
      have : ∀ n st ct (l : List UInt8), (runF n st ct l).1 ≤ l.length := fun n => by
        induction n with
        | zero => intro st ct l; exact Nat.zero_le _
        | succ n ih =>
          intro st ct l
          rw [runF]
          split
          · exact Nat.zero_le _
          · rename_i m st' ct' h
            have h1 := stepF_adv h
            have h2 := ih st' ct' (l.drop m)
            rw [List.length_drop] at h2
            simp only; omega
      have := this (s.drop p).length 0 0 (s.drop p)
      rw [List.length_drop] at this
      unfold findL; rw [List.length_drop]; exact this
    rw [he]
    refine Ev.bind hF ?_
    unfold findV
    simp only
    have q1 : (0 : Int) ≤ (p : Int) := by omega
    have q2 : (p : Int) ≤ ((p + (findL 0 0 (s.drop p)).1 : Nat) : Int) := by omega
    have q3 : ((p + (findL 0 0 (s.drop p)).1 : Nat) : Int) ≤ ((B s).size : Int) := by rw [hz]; omega
    simp only [if_pos q1, if_pos q2, if_pos q3, hR _ hfe, Option.bind_some]
    exact Ev.now _
  · have n3 : ¬ (st : Int) = 3 := by omega
    simp only [if_neg n3]
    by_cases h1 : st = 1
    · subst h1
      simp only [if_pos (show (((1 : Nat) : Int) = 1) from rfl), if_neg (show ¬ ((1 : Nat) = 0) by decide)]
      exact hj _ hfl _
    · have n1 : ¬ (st : Int) = 1 := by omega
      simp only [if_neg n1]
      by_cases h2 : st = 2
      · subst h2
        rw [if_neg (by decide)]
        exact hj _ hfl _
      · have hb2 : ((st : Int) == 2) = false := by rw [beq_eq_false_iff_ne]; omega
        rw [hb2]
        by_cases h0 : st = 0
        · subst h0
          rw [if_pos rfl]
          exact Ev.step (f := fun _ => some (⟨#[]⟩, (p : Int), false)) (fun k => by rw [tok_ends.j0, if_neg (by decide), if_neg (by decide)]) (Ev.now _)
        · have h4' : st = 4 := by omega
          subst h4'
          rw [if_neg (by decide)]
          have he : endN 4 name (s.drop p) = s.length - p := by unfold endN; rw [if_neg (by decide), if_neg (by decide), List.length_drop]
          rw [he]
          refine Ev.step (f := fun _ => some (B (rawT false ((s.drop p).take (s.length - p))), ((p + (s.length - p) : Nat) : Int), true)) (fun k => ?_) (Ev.now _)
          have e1 : (s.drop p).take (s.length - p) = s.drop p := List.take_of_length_le (Nat.le_of_eq List.length_drop)
          have e2 : (B s).extract ((p : Nat) : Int).toNat (B s).size = B (s.drop p) := by rw [Int.toNat_natCast, size_B, B_extract, List.take_length]
          rw [tok_ends.j0, if_neg (by decide), if_pos (by decide), if_pos (by omega), if_pos (by rw [hz]; omega), e2, clean_f _ (by rw [List.length_drop]; omega), Option.bind_some, e1, hz, show p + (s.length - p) = s.length by omega]
          rfl
theorem B_nil_iff (x : List UInt8) : (B x).toList = [] ↔ x = [] := by rw [toList_data, B_data]
theorem tagOut {s : List UInt8} {p : Nat} (X : List TkS) (hX : X.length ≤ 100) (hs : s.length ≤ 100000) (hp : p ≤ s.length) :
    Ev (fun k => tok_Rest.j0 k (B s) X (p : Int)) (if p = s.length then (X, (p : Int)) else (X ++ ((tagR (s.drop p)).1.toList.map ofK), ((s.length - (tagR (s.drop p)).2.length : Nat) : Int))) := by
  by_cases h : p = s.length
  · rw [if_pos h]
    exact Ev.step (f := fun _ => some (X, (p : Int))) (fun k => by rw [tok_Rest.j0, if_pos (by rw [size_B, h])]) (Ev.now _)
  · rw [if_neg h]
    refine Ev.step (f := fun _ => some (X ++ ((tagR (s.drop p)).1.toList.map ofK), ((s.length - (tagR (s.drop p)).2.length : Nat) : Int))) (fun k => ?_) (Ev.now _)
    rw [tok_Rest.j0, if_neg (by rw [size_B]; omega)]
    unfold tag_Read.f
    rw [if_pos (inT_ok hs hp), Option.bind_some, atT_B, size_B]
    generalize tagR (s.drop p) = R
    obtain ⟨o, r⟩ := R
    cases o with
    | none => simp [tkOut]
    | some t =>
      unfold tkOut
      simp only [if_true]
      rw [if_pos (by omega)]
      rfl
theorem rest_ev {s : List UInt8} {p : Nat} (name : List UInt8) {st : Nat} (hs : s.length ≤ 100000) (hp : p ≤ s.length) (hl : name.length ≤ 100000) (h4 : st ≤ 4) :
    Ev (fun k => tok_Rest.f k (B s) (p : Int) (st : Int) (B name)) ((restL st name (s.drop p)).1.map ofK, ((s.length - (restL st name (s.drop p)).2.length : Nat) : Int)) := by
  have hE := tok_ends_ev name hs hp hl h4
  unfold tok_Rest.f
  simp only [inside_f hs hp, Option.bind_some]
  refine Ev.bind hE ?_
  by_cases h0 : st = 0
  · have hr : restL st name (s.drop p) = ([], s.drop p) := by unfold restL; rw [if_pos (.inl h0)]
    rw [if_pos h0, hr]
    have : s.length - (s.drop p).length = p := by rw [List.length_drop]; omega
    simp only [this]
    exact Ev.now _
  · rw [if_neg h0]
    have hno : ¬ (st = 0 ∨ 4 < st) := by omega
    have hn : endN st name (s.drop p) ≤ s.length - p := by
      have h1 : ∀ l : List UInt8, firstE name l ≤ l.length := fun l => by
        induction l with
        | nil => exact Nat.le_refl _
        | cons c r ih => rw [firstE]; split <;> simp only [List.length_cons] <;> omega
      have h2 : ∀ n st ct (l : List UInt8), (runF n st ct l).1 ≤ l.length := fun n => by
        induction n with
        | zero => intro st ct l; exact Nat.zero_le _
        | succ n ih =>
          intro st ct l
          rw [runF]
          split
          · exact Nat.zero_le _
          · rename_i m st' ct' h
            have h1 := stepF_adv h
            have h2 := ih st' ct' (l.drop m)
            rw [List.length_drop] at h2
            simp only; omega
      have h3 := h1 (s.drop p)
      have h5 := h2 (s.drop p).length 0 0 (s.drop p)
      unfold endN findL
      rw [List.length_drop] at *
      split
      · exact h3
      · split
        · exact h5
        · exact Nat.le_refl _
    have hrest : restL st name (s.drop p) = if (s.drop p).drop (endN st name (s.drop p)) = [] then (txtT (rawT (st == 1) ((s.drop p).take (endN st name (s.drop p)))), [])
        else (txtT (rawT (st == 1) ((s.drop p).take (endN st name (s.drop p)))) ++ (tagR ((s.drop p).drop (endN st name (s.drop p)))).1.toList, (tagR ((s.drop p).drop (endN st name (s.drop p)))).2) := by
      unfold restL; rw [if_neg hno]
    rw [hrest]
    generalize rawT (st == 1) ((s.drop p).take (endN st name (s.drop p))) = u
    generalize endN st name (s.drop p) = n at *
    simp only [if_true]
    have key : ∀ X : List TkS, X.length ≤ 100 → X = (txtT u).map ofK → Ev (fun k => tok_Rest.j0 k (B s) X ((p + n : Nat) : Int)) ((if (s.drop p).drop n = [] then (txtT u, []) else (txtT u ++ (tagR ((s.drop p).drop n)).1.toList, (tagR ((s.drop p).drop n)).2)).1.map ofK, ((s.length - (if (s.drop p).drop n = [] then (txtT u, ([] : List UInt8)) else (txtT u ++ (tagR ((s.drop p).drop n)).1.toList, (tagR ((s.drop p).drop n)).2)).2.length : Nat) : Int)) := by
      intro X hX hXe
      have hT := tagOut (s := s) (p := p + n) X hX hs (by omega)
      rw [List.drop_drop]
      by_cases he : p + n = s.length
      · rw [if_pos he] at hT
        rw [if_pos (by rw [he, List.drop_length])]
        rw [hXe, he] at hT
        rw [hXe, he]
        exact hT
      · rw [if_neg he] at hT
        rw [if_neg (by rw [List.drop_eq_nil_iff]; omega)]
        simp only [List.map_append]
        rw [← hXe]
        exact hT
    by_cases hu : u = []
    · simp only [if_pos ((B_nil_iff u).2 hu)]
      refine key [] (by simp) ?_
      unfold txtT; rw [if_pos hu]; rfl
    · simp only [if_neg (fun e => hu ((B_nil_iff u).1 e))]
      have q : ([] : List TkS).length < 1954687338268 := by decide
      simp only [if_pos q]
      refine key _ (by simp) ?_
      unfold txtT; rw [if_neg hu]; rfl
end Go.Proofs.YtbdcghbafopjjaaGreatDoor.Pure
end

section
namespace Go.Proofs.YtbdcghbafopjjaaGreatDoor.Pure
open Go Go.RowKit Go.Proofs.YtbdcghbafopjjaaGreatDoor.K0 Go.Proofs.YtbdcghbafopjjaaGreatDoor.Hand Go.Proofs.YtbdcghbafopjjaaGreatDoor.Sa Go.Proofs.YtbdcghbafopjjaaGreatDoor.Si Go.Proofs.YtbdcghbafopjjaaGreatDoor.St Go.Proofs.YtbdcghbafopjjaaGreatDoorW.PrintWords Go.Proofs.YtbdcghbafopjjaaGreatDoorW.PrintMore Go.Proofs.YtbdcghbafopjjaaGreatDoor.Pl Go.Proofs.YtbdcghbafopjjaaGreatDoor.Pb
theorem rd_map {l : List Tk} {i : Nat} (h : i < l.length) : rd_T28 (l.map ofK) (i : Int) = ofK l[i] := by
  unfold rd_T28
  rw [Int.toNat_natCast, List.getD_eq_getElem?_getD, List.getElem?_map, List.getElem?_eq_getElem h]; rfl
end Go.Proofs.YtbdcghbafopjjaaGreatDoor.Pure
end

section
namespace Go.Proofs.YtbdcghbafopjjaaGreatDoor.Hand
open Go Go.RowKit Go.Proofs.YtbdcghbafopjjaaGreatDoor.Pl Go.Proofs.YtbdcghbafopjjaaGreatDoor.Pb Go.Proofs.YtbdcghbafopjjaaGreatDoor.Pure
theorem past_suf (c : UInt8) (l : List UInt8) : past c l <:+ l := List.drop_suffix _ _
theorem valA_suf {r v r' : List UInt8} (h : valA r = some (v, r')) : r' <:+ r := by
  have h1 : spL r <:+ r := List.dropWhile_suffix _
  unfold valA at h
  split at h
  · rename_i r2 he
    have h2 : r2 <:+ r := ((List.suffix_cons 61 r2).trans (he ▸ h1))
    have h3 : spL r2 <:+ r2 := List.dropWhile_suffix _
    split at h
    · cases h; exact List.nil_suffix
    · rename_i c r3 he2
      have h4 : c :: r3 <:+ r := he2 ▸ h3.trans h2
      have h5 : r3 <:+ r := (List.suffix_cons c r3).trans h4
      split at h
      · split at h
        · cases h; exact (past_suf _ _).trans h5
        · cases h
      · split at h
        · cases h; exact h4
        · cases h; exact (List.dropWhile_suffix _).trans h5
  · cases h; exact h1
theorem attrF_suf (f : Nat) : ∀ l s l' b r, attrF f l s = some (l', b, r) → r <:+ s := by
  induction f with
  | zero => intro l s l' b r h; cases h
  | succ f ih =>
    intro l s l' b r h
    have h1 : spL s <:+ s := List.dropWhile_suffix _
    simp only [attrF] at h
    split at h
    · cases h
    · rename_i c r0 he
      have h2 : r0 <:+ s := (List.suffix_cons c r0).trans (he ▸ h1)
      split at h
      · cases h; exact h2
      · split at h
        · split at h
          · exact (ih _ _ _ _ _ h).trans List.nil_suffix
          · rename_i d r' _
            split at h
            · cases h; exact (List.suffix_cons _ _).trans h2
            · exact (ih _ _ _ _ _ h).trans h2
        · split at h
          · cases h
          · rename_i v r' hv
            exact (ih _ _ _ _ _ h).trans ((valA_suf hv).trans ((List.dropWhile_suffix _).trans h2))
theorem tagL_suf (l : List UInt8) : (tagL l).2 <:+ l := by
  unfold tagL
  split
  · exact List.nil_suffix
  · rename_i al self r he
    exact (attrF_suf _ _ _ _ _ _ he).trans ((List.dropWhile_suffix _).trans (List.drop_suffix _ _))
theorem tagR_suf (l : List UInt8) : (tagR l).2 <:+ l := by
  unfold tagR
  split
  · exact List.suffix_refl _
  · exact tagL_suf l
theorem tokL_suf (l : List UInt8) : (tokL l).2 <:+ l := by
  unfold tokL
  split
  · exact tagL_suf l
  · split
    · exact List.drop_suffix _ _
    · split
      · exact (past_suf _ _).trans (List.drop_suffix _ _)
      · split
        · exact List.drop_suffix _ _
        · split
          · exact List.suffix_refl _
          · exact List.drop_suffix _ _
theorem restL_suf (st : Nat) (name l : List UInt8) : (restL st name l).2 <:+ l := by
  unfold restL
  split
  · exact List.suffix_refl _
  · split
    · exact List.nil_suffix
    · exact (tagR_suf _).trans (List.drop_suffix _ _)
theorem suf_drop {r s : List UInt8} (h : r <:+ s) : s.drop (s.length - r.length) = r := (List.suffix_iff_eq_drop.1 h).symm
def txB (t : Tk) : Nat := (tkC t).2.2.1.length
def nmB (t : Tk) : Nat := (tkC t).2.1.length
theorem clean_le (l : List UInt8) : (cleanL l).length ≤ 3 * l.length := by
  induction l with
  | nil => exact Nat.le_refl _
  | cons c r ih =>
    rw [cleanL_cons, List.length_append, List.length_cons]
    have : (cleanB c).length ≤ 3 := by unfold cleanB; split <;> simp
    omega
theorem upto_le (c : UInt8) (l : List UInt8) : (upto c l).length ≤ l.length := upto_length c l
theorem name_le (l : List UInt8) : (nameL l).length ≤ 3 * l.length := by
  unfold nameL
  have h1 := clean_le (lowL (l.takeWhile stC))
  have h2 := (List.takeWhile_prefix stC (l := l)).length_le
  unfold lowL at h1
  rw [List.length_map] at h1
  unfold lowL
  omega
theorem tag_bd (l : List UInt8) : ∀ t ∈ (tagL l).1, txB t ≤ 24 * l.length ∧ nmB t ≤ 3 * l.length := by
  have h1 := name_le (l.drop 1)
  have h2 := name_le (l.drop 2)
  rw [List.length_drop] at h1 h2
  unfold tagL
  split
  · intro t h; cases h
  · intro t h
    simp only [Option.mem_def, Option.some.injEq] at h
    subst h
    split
    · exact ⟨Nat.zero_le _, by show (nameL (l.drop 2)).length ≤ _; omega⟩
    · exact ⟨Nat.zero_le _, by show (nameL (l.drop 1)).length ≤ _; omega⟩
theorem tagR_bd (l : List UInt8) : ∀ t ∈ (tagR l).1, txB t ≤ 24 * l.length ∧ nmB t ≤ 3 * l.length := by
  unfold tagR
  split
  · intro t h; cases h
  · exact tag_bd l
theorem tok_bd (l : List UInt8) : ∀ t ∈ (tokL l).1, txB t ≤ 24 * l.length ∧ nmB t ≤ 3 * l.length := by
  unfold tokL
  split
  · exact tag_bd l
  · split
    · intro t h
      simp only [Option.mem_def, Option.some.injEq] at h
      subst h
      refine ⟨?_, Nat.zero_le _⟩
      show (cleanL (readC l).1).length ≤ _
      have h1 := clean_le (readC l).1
      have h2 : (readC l).1.length ≤ l.length := by
        unfold readC
        split
        · have := (Pcm.plainL_le (l.drop 4)).1; rw [List.length_drop] at this; simp only; omega
        · split
          · have := (Pcm.otherL_le (l.drop 1)).1; rw [List.length_drop] at this; simp only; omega
          · have := (Pcm.otherL_le (l.drop 2)).1; rw [List.length_drop] at this; simp only; omega
      omega
    · split
      · intro t h
        simp only [Option.mem_def, Option.some.injEq] at h
        subst h
        refine ⟨?_, Nat.zero_le _⟩
        show (cleanL (upto 62 (l.drop 9))).length ≤ _
        have h1 := clean_le (upto 62 (l.drop 9))
        have h2 := upto_le 62 (l.drop 9)
        rw [List.length_drop] at h2
        omega
      · split
        · intro t h; cases h
        · split
          · intro t h; cases h
          · intro t h
            simp only [Option.mem_def, Option.some.injEq] at h
            subst h
            refine ⟨?_, Nat.zero_le _⟩
            show (rdL false (l.take (txN l))).length ≤ _
            have h1 := rdL_le false (l.take (txN l))
            rw [List.length_take] at h1
            omega
theorem rest_bd (st : Nat) (name l : List UInt8) : (∀ t ∈ (restL st name l).1, txB t ≤ 24 * l.length) ∧ (restL st name l).1.length ≤ 2 := by
  have hr : ∀ n, (rawT (st == 1) (l.take n)).length ≤ 24 * l.length := fun n => by
    have h1 := rdL_le false (l.take n)
    have h2 := clean_le (rdL false (l.take n))
    have h3 := clean_le (l.take n)
    rw [List.length_take] at h1 h3
    unfold rawT
    split <;> omega
  have ht : ∀ u : List UInt8, u.length ≤ 24 * l.length → (∀ t ∈ txtT u, txB t ≤ 24 * l.length) ∧ (txtT u).length ≤ 1 := fun u hu => by
    unfold txtT
    split
    · exact ⟨fun t h => (nomatch h), Nat.zero_le _⟩
    · exact ⟨fun t h => by rw [List.mem_singleton.1 h]; exact hu, Nat.le_refl _⟩
  unfold restL
  split
  · exact ⟨fun t h => (nomatch h), Nat.zero_le _⟩
  · split
    · have := ht _ (hr (endN st name l))
      exact ⟨this.1, Nat.le_succ_of_le this.2⟩
    · have h1 := ht _ (hr (endN st name l))
      refine ⟨fun t h => ?_, ?_⟩
      · rcases List.mem_append.1 h with h | h
        · exact h1.1 t h
        · have h2 := (tagR_bd (l.drop (endN st name l)) t (by simpa using h)).1
          rw [List.length_drop] at h2
          omega
      · simp only [List.length_append]
        have : ((tagR (l.drop (endN st name l))).1.toList).length ≤ 1 := by cases (tagR (l.drop (endN st name l))).1 <;> simp
        have := h1.2
        omega
theorem drv1_bd (l : List UInt8) : (∀ t ∈ (drv1 (tokL l)).1, txB t ≤ 24 * l.length) ∧ (drv1 (tokL l)).1.length ≤ 3 ∧ (drv1 (tokL l)).2 <:+ l := by
  have h1 := tok_bd l
  have h2 := tokL_suf l
  have h3 := h2.length_le
  generalize tokL l = R at h1 h2 h3
  obtain ⟨o, r⟩ := R
  unfold drv1
  split
  · rename_i n al self r' he
    cases he
    have h4 := rest_bd (stateN n) n r
    have h5 : r.length ≤ l.length := h3
    refine ⟨fun t h => ?_, by simp only [List.length_cons]; omega, (restL_suf _ _ _).trans h2⟩
    rcases List.mem_cons.1 h with rfl | h
    · exact Nat.zero_le _
    · have := h4.1 t h; omega
  · rename_i t r' _ he
    cases he
    exact ⟨fun t' h => by rw [List.mem_singleton.1 h]; exact (h1 t rfl).1, by simp, h2⟩
  · rename_i r' he
    cases he
    exact ⟨fun t h => (nomatch h), Nat.zero_le _, h2⟩
theorem drv_bd : ∀ n (l : List UInt8), l.length ≤ n → (∀ t ∈ drvL l, txB t ≤ 24 * n) ∧ (drvL l).length ≤ 3 * l.length := by
  intro n
  induction n with
  | zero =>
    intro l h
    obtain rfl := List.eq_nil_of_length_eq_zero (Nat.le_zero.1 h)
    exact ⟨fun t h => (nomatch h), Nat.zero_le _⟩
  | succ n ih =>
    intro l h
    by_cases hl : l = []
    · subst hl; exact ⟨fun t h => (nomatch h), Nat.zero_le _⟩
    · have h1 := drv1_bd l
      have h2 := drv1_le (tokL l)
      have h3 := tokL_lt hl
      have h4 := ih (drv1 (tokL l)).2 (by omega)
      rw [drvL_eq hl]
      refine ⟨fun t ht => ?_, by rw [List.length_append]; omega⟩
      rcases List.mem_append.1 ht with ht | ht
      · have := h1.1 t ht; omega
      · have := h4.1 t ht; omega
end Go.Proofs.YtbdcghbafopjjaaGreatDoor.Hand
end
