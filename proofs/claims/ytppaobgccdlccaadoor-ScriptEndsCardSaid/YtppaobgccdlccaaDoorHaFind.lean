/-
  Hand walk: script.Find, over the printed contracts of raw.Ends, sign.Begins and script.word.
-/
import Derived.Test.YtppaobgccdlccaaDoorSc
import Derived.Test.YtppaobgccdlccaaDoorHa1
import Derived.Test.YtppaobgccdlccaaDoorSa1
namespace Go.Proofs.YtppaobgccdlccaaDoor.Hand
open Go.RowKit Go.Proofs.YtppaobgccdlccaaDoor.Pl Go.Proofs.YtppaobgccdlccaaDoor.Sa Go.Proofs.YtppaobgccdlccaaDoorW.PrintWords Go.Proofs.YtppaobgccdlccaaDoorW.PrintLast Go.Proofs.YtppaobgccdlccaaDoorW.PrintMore
attribute [local go_sem] max2_int min2_int max_two min_two max_three min_three max_four min_four

def scriptB : ByteArray := ⟨#[115, 99, 114, 105, 112, 116]⟩
def script_Find.m (k : Nat) (L : Int → Int → Int → Option (Int × Int)) (s : ByteArray) (nx st ct : Int) : Option (Int × Int) :=
  if 0 ≤ nx then (if nx < (s.size : Int) then
    (if bt s nx = 45 then L (wrap64 (nx + 1)) st (wrap64 (ct + 1))
    else if bt s nx = 62 ∧ 2 ≤ ct then L (wrap64 (nx + 1)) 0 0
    else if st = 1 then (script_word.f k s nx ⟨#[60]⟩).bind fun x => if x > 0 then L (wrap64 (nx + x)) 2 0 else L (wrap64 (nx + 1)) 1 0
    else if st = 2 then (script_word.f k s nx ⟨#[60, 47]⟩).bind fun x => if x > 0 then L (wrap64 (nx + x)) 1 0 else L (wrap64 (nx + 1)) 2 0
    else L (wrap64 (nx + 1)) st 0) else none) else none
def script_Find.l : Nat → ByteArray → Int → Int → Int → Option (Int × Int)
  | 0, _, _, _, _ => none
  | k + 1, s, nx, st, ct =>
    if nx = (s.size : Int) then some (nx, st)
    else if st = 2 then script_Find.m k (script_Find.l k s) s nx st ct
    else (raw_Ends.f k s nx ⟨#[115, 99, 114, 105, 112, 116]⟩).bind fun e =>
      if e = true then some (nx, st)
      else if st = 0 then (sign_Begins.f s nx ⟨#[60, 33, 45, 45]⟩).bind fun b => if b = true then script_Find.l k s (wrap64 (nx + 4)) 1 2 else script_Find.l k s (wrap64 (nx + 1)) 0 ct
      else script_Find.m k (script_Find.l k s) s nx st ct
def script_Find.f (k : Nat) (a0 : ByteArray) (a1 : Int) : Option (Int × Int) := script_Find.l k a0 (mn (mx a1 0) (a0.size : Int)) 0 0

theorem script_Find.mono_m (k : Nat) (L L' : Int → Int → Int → Option (Int × Int)) (hL : ∀ a b c, LeO (L a b c) (L' a b c)) (s : ByteArray) (nx st ct : Int) :
    LeO (script_Find.m k L s nx st ct) (script_Find.m (k + 1) L' s nx st ct) := by
  unfold script_Find.m
  repeat' first
    | exact hL _ _ _
    | exact script_word.mono _ _ _ _
    | exact LeO.none _
    | refine LeO.ite ?_ ?_
    | refine LeO.bind ?_ (fun _ => ?_)
theorem script_Find.mono_l : ∀ k s nx st ct, LeO (script_Find.l k s nx st ct) (script_Find.l (k + 1) s nx st ct)
  | 0 => fun _ _ _ _ r h => by simp [script_Find.l] at h
  | k + 1 => fun s nx st ct => by
    have ih := script_Find.mono_l k
    unfold script_Find.l
    repeat' first
      | exact ih _ _ _ _
      | exact script_Find.mono_m _ _ _ (fun _ _ _ => ih _ _ _ _) _ _ _ _
      | exact raw_Ends.mono _ _ _ _
      | exact LeO.refl _
      | exact LeO.none _
      | refine LeO.ite ?_ ?_
      | refine LeO.bind ?_ (fun _ => ?_)
theorem script_Find.mono (a0 : ByteArray) (a1 : Int) (k : Nat) : LeO (script_Find.f k a0 a1) (script_Find.f (k + 1) a0 a1) := script_Find.mono_l k _ _ _ _

def FindJ (s : ByteArray) (w : World) (r1 r2 : Int) (g : Nat) (a' : Act) (wr : World) : Prop :=
  ∃ (nx st ct : Int) (u1 u2 u3 u7 u8 u9 u10 u11 u12 u13 u14 u15 u16 u17 u18 u19 u20 u21 u22 u23 u24 u25 u26 u27 u28 u29 u30 u31 u32 u33 u34 u35 u36 u37 u38 u39 u40 u41 u42 u43 u44 u45 u46 u47 u48 u49 u50 u51 u52 u53 u54 u55 u56 u57 u58 u59 u60 u61 u62 u63 u64 u65 u66 u67 u68 u69 u70 u71 u72 u73 u74 u75 : Value),
    a' = { tmps := #[.string s, u1, u2, u3, .int .i64 nx, .int .i64 st, .int .i64 ct, u7, u8, u9, u10, u11, u12, u13, u14, u15, u16, u17, u18, u19, u20, u21, u22, u23, u24, u25, u26, u27, u28, u29, u30, u31, u32, u33, u34, u35, u36, u37, u38, u39, u40, u41, u42, u43, u44, u45, u46, u47, u48, u49, u50, u51, u52, u53, u54, u55, u56, u57, u58, u59, u60, u61, u62, u63, u64, u65, u66, u67, u68, u69, u70, u71, u72, u73, u74, u75], defers := [] } ∧ Hid (script_Find.l g s nx st ct = some (r1, r2)) ∧ Below w.heap.size w wr


theorem below_on {w W W1 : World} (h : Below w.heap.size w W) (k : Below W.heap.size W W1) : Below w.heap.size w W1 := h.trans (k.mono h.size)
set_option maxHeartbeats 2000000 in
set_option maxRecDepth 100000 in
theorem script_Find.calls (k : Nat) (a0 : ByteArray) (a1 : Int) (r1 r2 : Int) (w : World) (h : script_Find.f k a0 a1 = some (r1, r2)) :
    Calls Tryd.prog 32 #[.string a0, .int .i64 a1] w fun e w' => e = .returned (.tuple #[.int .i64 r1, .int .i64 r2]) ∧ Below w.heap.size w w' := by
  unfold script_Find.f at h
  obtain ⟨j1, hj1⟩ : ∃ j, mx a1 0 = j := ⟨_, rfl⟩
  rw [hj1] at h
  obtain ⟨j2, hj2⟩ : ∃ j, mn j1 (a0.size : Int) = j := ⟨_, rfl⟩
  rw [hj2] at h
  have H0 := Lib.hid h
  clear h
  replace hj1 : (if a1 < 0 then 0 else a1) = j1 := hj1
  replace hj2 : (if (a0.size : Int) < j1 then (a0.size : Int) else j1) = j2 := hj2
  generalize hs : a0 = s at *
  clear hs a0
  go_enter Tryd.func32, Tryd.ntmps32
  go_wp2
  refine wp_scope_back 0 (FindJ s w r1 r2) rfl ?_ ?_
  · intro hB
    have HB := Lib.hid hB
    clear hB
    go_wp2
    refine wp_label_k (by assumption) (HB.out k _ _ ?_)
    exact ⟨_, _, _, _, _, _, _, _, _, _, _, _, _, _, _, _, _, _, _, _, _, _, _, _, _, _, _, _, _, _, _, _, _, _, _, _, _, _, _, _, _, _, _, _, _, _, _, _, _, _, _, _, _, _, _, _, _, _, _, _, _, _, _, _, _, _, _, _, _, _, _, _, _, _, _, rfl, H0, Below.refl _ _⟩
  · rintro g a' wr ⟨nx, st, ct, u1, u2, u3, u7, u8, u9, u10, u11, u12, u13, u14, u15, u16, u17, u18, u19, u20, u21, u22, u23, u24, u25, u26, u27, u28, u29, u30, u31, u32, u33, u34, u35, u36, u37, u38, u39, u40, u41, u42, u43, u44, u45, u46, u47, u48, u49, u50, u51, u52, u53, u54, u55, u56, u57, u58, u59, u60, u61, u62, u63, u64, u65, u66, u67, u68, u69, u70, u71, u72, u73, u74, u75, rfl, HJ, hb⟩
    clear H0 hj1 hj2
    cases g with
    | zero => exact absurd HJ.out (by simp [script_Find.l])
    | succ g =>
      have H := HJ.out
      clear HJ
      rw [script_Find.l] at H
      have HB := Lib.hid hb
      clear hb

      by_cases c1 : nx = (s.size : Int)
      · rw [if_pos c1] at H
        have t1 : (nx == (s.size : Int)) = true := beq_iff_eq.2 c1
        simp only [Option.some.injEq, Prod.mk.injEq] at H
        obtain ⟨rfl, rfl⟩ := H
        clear c1
        go_wp2
        simp only [Exit.jumps]
        go_ret2
        exact ⟨rfl, HB.out⟩
      rw [if_neg c1] at H
      have t1 : (nx == (s.size : Int)) = false := beq_eq_false_iff_ne.2 c1
      clear c1
      by_cases c2 : st = 2
      · subst c2
        rw [if_pos rfl] at H
        unfold script_Find.m at H
        have d0 : 0 ≤ nx := Decidable.byContradiction fun d0 => by rw [if_neg d0] at H; cases H
        have d1 : nx < (s.size : Int) := Decidable.byContradiction fun d1 => by rw [if_pos d0, if_neg d1] at H; cases H
        rw [if_pos d0, if_pos d1] at H
        have hx := bt_at s nx
        replace d0 := eq_true d0
        replace d1 := eq_true d1
        by_cases d2 : bt s nx = 45
        · rw [if_pos d2] at H
          have d2b : (bt s nx == 45) = true := beq_iff_eq.2 d2
          clear d2
          have H' := Lib.hid H; clear H; have H := H'; clear H'
          go_wp2
          go_step3
          exact ⟨rfl, g, Nat.lt_succ_self _, _, _, _, _, _, _, _, _, _, _, _, _, _, _, _, _, _, _, _, _, _, _, _, _, _, _, _, _, _, _, _, _, _, _, _, _, _, _, _, _, _, _, _, _, _, _, _, _, _, _, _, _, _, _, _, _, _, _, _, _, _, _, _, _, _, _, _, _, _, _, _, _, _, _, _, rfl, H.out, HB.out⟩
        rw [if_neg d2] at H
        have d2b : (bt s nx == 45) = false := beq_eq_false_iff_ne.2 d2
        clear d2
        by_cases d3 : bt s nx = 62 ∧ 2 ≤ ct
        · rw [if_pos d3] at H
          have d3b : (bt s nx == 62) = true := beq_iff_eq.2 d3.1
          have d3c : decide (2 ≤ ct) = true := decide_eq_true d3.2
          clear d3
          have H' := Lib.hid H; clear H; have H := H'; clear H'
          go_wp2
          go_step3
          exact ⟨rfl, g, Nat.lt_succ_self _, _, _, _, _, _, _, _, _, _, _, _, _, _, _, _, _, _, _, _, _, _, _, _, _, _, _, _, _, _, _, _, _, _, _, _, _, _, _, _, _, _, _, _, _, _, _, _, _, _, _, _, _, _, _, _, _, _, _, _, _, _, _, _, _, _, _, _, _, _, _, _, _, _, _, _, rfl, H.out, HB.out⟩
        rw [if_neg d3] at H
        have d4 : (bt s nx == 62) = false ∨ ((bt s nx == 62) = true ∧ decide (2 ≤ ct) = false) := by
          by_cases e : bt s nx = 62
          · exact .inr ⟨beq_iff_eq.2 e, decide_eq_false fun h => d3 ⟨e, h⟩⟩
          · exact .inl (beq_eq_false_iff_ne.2 e)
        clear d3
        rw [if_neg (by decide), if_pos rfl] at H
        replace H := Option.bind_eq_some_iff.1 H
        obtain ⟨x, AW0, H⟩ := H
        have AW := Lib.hid AW0
        clear AW0
        by_cases d5 : x > 0
        · rw [if_pos d5] at H
          have d5b : decide (0 < x) = true := decide_eq_true d5
          clear d5
          have H' := Lib.hid H; clear H; have H := H'; clear H'
          rcases d4 with d4 | ⟨d4, d4c⟩
          all_goals
            go_wp2_with (first | (go_at_call 59; (with_reducible refine (script_word.calls g s nx _ _ _ AW.out).mono ?_); rintro e' w1 ⟨rfl, b1⟩; have HC := Lib.hid (below_on HB.out b1); clear b1 HB; have HB := HC; clear HC))
            go_step3
            exact ⟨rfl, g, Nat.lt_succ_self _, _, _, _, _, _, _, _, _, _, _, _, _, _, _, _, _, _, _, _, _, _, _, _, _, _, _, _, _, _, _, _, _, _, _, _, _, _, _, _, _, _, _, _, _, _, _, _, _, _, _, _, _, _, _, _, _, _, _, _, _, _, _, _, _, _, _, _, _, _, _, _, _, _, _, _, rfl, H.out, HB.out⟩
        · rw [if_neg d5] at H
          have d5b : decide (0 < x) = false := decide_eq_false d5
          clear d5
          have H' := Lib.hid H; clear H; have H := H'; clear H'
          rcases d4 with d4 | ⟨d4, d4c⟩
          all_goals
            go_wp2_with (first | (go_at_call 59; (with_reducible refine (script_word.calls g s nx _ _ _ AW.out).mono ?_); rintro e' w1 ⟨rfl, b1⟩; have HC := Lib.hid (below_on HB.out b1); clear b1 HB; have HB := HC; clear HC))
            go_step3
            exact ⟨rfl, g, Nat.lt_succ_self _, _, _, _, _, _, _, _, _, _, _, _, _, _, _, _, _, _, _, _, _, _, _, _, _, _, _, _, _, _, _, _, _, _, _, _, _, _, _, _, _, _, _, _, _, _, _, _, _, _, _, _, _, _, _, _, _, _, _, _, _, _, _, _, _, _, _, _, _, _, _, _, _, _, _, _, rfl, H.out, HB.out⟩
      · rw [if_neg c2] at H
        replace H := Option.bind_eq_some_iff.1 H
        obtain ⟨e, AE0, H⟩ := H
        have AE := Lib.hid AE0
        clear AE0
        have t2 : (st != 2) = true := bne_iff_ne.2 c2
        by_cases c3 : e = true
        · subst c3
          rw [if_pos rfl] at H
          simp only [Option.some.injEq, Prod.mk.injEq] at H
          obtain ⟨rfl, rfl⟩ := H
          clear c2
          go_wp2_with (first | (go_at_call 43; (with_reducible refine (raw_Ends.calls g s nx _ _ _ AE.out).mono ?_); rintro e' w1 ⟨rfl, b1⟩; have HC := Lib.hid (below_on HB.out b1); clear b1 HB; have HB := HC; clear HC))
          simp only [Exit.jumps]
          go_ret2
          exact ⟨rfl, HB.out⟩
        rw [if_neg c3] at H
        obtain rfl : e = false := by simpa using c3
        clear c3
        by_cases c4 : st = 0
        · subst c4
          rw [if_pos rfl] at H
          clear c2
          replace H := Option.bind_eq_some_iff.1 H
          obtain ⟨b, AB0, H⟩ := H
          have AB := Lib.hid AB0
          clear AB0
          cases b with
          | true =>
            rw [if_pos rfl] at H
            have H' := Lib.hid H; clear H; have H := H'; clear H'
            go_wp2_with (first | (go_at_call 43; (with_reducible refine (raw_Ends.calls g s nx _ _ _ AE.out).mono ?_); rintro e' w1 ⟨rfl, b1⟩; have HC := Lib.hid (below_on HB.out b1); clear b1 HB; have HB := HC; clear HC) | (go_at_call 58; (with_reducible refine (sign_Begins.calls s nx _ _ _ AB.out).mono ?_); rintro e' w1 ⟨rfl, b1⟩; have HC := Lib.hid (below_on HB.out b1); clear b1 HB; have HB := HC; clear HC))
            go_step3
            exact ⟨rfl, g, Nat.lt_succ_self _, _, _, _, _, _, _, _, _, _, _, _, _, _, _, _, _, _, _, _, _, _, _, _, _, _, _, _, _, _, _, _, _, _, _, _, _, _, _, _, _, _, _, _, _, _, _, _, _, _, _, _, _, _, _, _, _, _, _, _, _, _, _, _, _, _, _, _, _, _, _, _, _, _, _, _, rfl, H.out, HB.out⟩
          | false =>
            rw [if_neg (by simp)] at H
            have H' := Lib.hid H; clear H; have H := H'; clear H'
            go_wp2_with (first | (go_at_call 43; (with_reducible refine (raw_Ends.calls g s nx _ _ _ AE.out).mono ?_); rintro e' w1 ⟨rfl, b1⟩; have HC := Lib.hid (below_on HB.out b1); clear b1 HB; have HB := HC; clear HC) | (go_at_call 58; (with_reducible refine (sign_Begins.calls s nx _ _ _ AB.out).mono ?_); rintro e' w1 ⟨rfl, b1⟩; have HC := Lib.hid (below_on HB.out b1); clear b1 HB; have HB := HC; clear HC))
            go_step3
            exact ⟨rfl, g, Nat.lt_succ_self _, _, _, _, _, _, _, _, _, _, _, _, _, _, _, _, _, _, _, _, _, _, _, _, _, _, _, _, _, _, _, _, _, _, _, _, _, _, _, _, _, _, _, _, _, _, _, _, _, _, _, _, _, _, _, _, _, _, _, _, _, _, _, _, _, _, _, _, _, _, _, _, _, _, _, _, rfl, H.out, HB.out⟩
        rw [if_neg c4] at H
        have t4 : (st == 0) = false := beq_eq_false_iff_ne.2 c4
        clear c4
        unfold script_Find.m at H
        have d0 : 0 ≤ nx := Decidable.byContradiction fun d0 => by rw [if_neg d0] at H; cases H
        have d1 : nx < (s.size : Int) := Decidable.byContradiction fun d1 => by rw [if_pos d0, if_neg d1] at H; cases H
        rw [if_pos d0, if_pos d1] at H
        have hx := bt_at s nx
        replace d0 := eq_true d0
        replace d1 := eq_true d1
        by_cases d2 : bt s nx = 45
        · rw [if_pos d2] at H
          have d2b : (bt s nx == 45) = true := beq_iff_eq.2 d2
          clear d2
          have H' := Lib.hid H; clear H; have H := H'; clear H'
          go_wp2_with (first | (go_at_call 43; (with_reducible refine (raw_Ends.calls g s nx _ _ _ AE.out).mono ?_); rintro e' w1 ⟨rfl, b1⟩; have HC := Lib.hid (below_on HB.out b1); clear b1 HB; have HB := HC; clear HC))
          go_step3
          exact ⟨rfl, g, Nat.lt_succ_self _, _, _, _, _, _, _, _, _, _, _, _, _, _, _, _, _, _, _, _, _, _, _, _, _, _, _, _, _, _, _, _, _, _, _, _, _, _, _, _, _, _, _, _, _, _, _, _, _, _, _, _, _, _, _, _, _, _, _, _, _, _, _, _, _, _, _, _, _, _, _, _, _, _, _, _, rfl, H.out, HB.out⟩
        rw [if_neg d2] at H
        have d2b : (bt s nx == 45) = false := beq_eq_false_iff_ne.2 d2
        clear d2
        by_cases d3 : bt s nx = 62 ∧ 2 ≤ ct
        · rw [if_pos d3] at H
          have d3b : (bt s nx == 62) = true := beq_iff_eq.2 d3.1
          have d3c : decide (2 ≤ ct) = true := decide_eq_true d3.2
          clear d3
          have H' := Lib.hid H; clear H; have H := H'; clear H'
          go_wp2_with (first | (go_at_call 43; (with_reducible refine (raw_Ends.calls g s nx _ _ _ AE.out).mono ?_); rintro e' w1 ⟨rfl, b1⟩; have HC := Lib.hid (below_on HB.out b1); clear b1 HB; have HB := HC; clear HC))
          go_step3
          exact ⟨rfl, g, Nat.lt_succ_self _, _, _, _, _, _, _, _, _, _, _, _, _, _, _, _, _, _, _, _, _, _, _, _, _, _, _, _, _, _, _, _, _, _, _, _, _, _, _, _, _, _, _, _, _, _, _, _, _, _, _, _, _, _, _, _, _, _, _, _, _, _, _, _, _, _, _, _, _, _, _, _, _, _, _, _, rfl, H.out, HB.out⟩
        rw [if_neg d3] at H
        have d4 : (bt s nx == 62) = false ∨ ((bt s nx == 62) = true ∧ decide (2 ≤ ct) = false) := by
          by_cases e : bt s nx = 62
          · exact .inr ⟨beq_iff_eq.2 e, decide_eq_false fun h => d3 ⟨e, h⟩⟩
          · exact .inl (beq_eq_false_iff_ne.2 e)
        clear d3
        by_cases d6 : st = 1
        · subst d6
          rw [if_pos rfl] at H
          replace H := Option.bind_eq_some_iff.1 H
          obtain ⟨x, AW0, H⟩ := H
          have AW := Lib.hid AW0
          clear AW0
          by_cases d5 : x > 0
          · rw [if_pos d5] at H
            have d5b : decide (0 < x) = true := decide_eq_true d5
            clear d5
            have H' := Lib.hid H; clear H; have H := H'; clear H'
            rcases d4 with d4 | ⟨d4, d4c⟩
            all_goals
              go_wp2_with (first | (go_at_call 43; (with_reducible refine (raw_Ends.calls g s nx _ _ _ AE.out).mono ?_); rintro e' w1 ⟨rfl, b1⟩; have HC := Lib.hid (below_on HB.out b1); clear b1 HB; have HB := HC; clear HC) | (go_at_call 59; (with_reducible refine (script_word.calls g s nx _ _ _ AW.out).mono ?_); rintro e' w1 ⟨rfl, b1⟩; have HC := Lib.hid (below_on HB.out b1); clear b1 HB; have HB := HC; clear HC))
              go_step3
              exact ⟨rfl, g, Nat.lt_succ_self _, _, _, _, _, _, _, _, _, _, _, _, _, _, _, _, _, _, _, _, _, _, _, _, _, _, _, _, _, _, _, _, _, _, _, _, _, _, _, _, _, _, _, _, _, _, _, _, _, _, _, _, _, _, _, _, _, _, _, _, _, _, _, _, _, _, _, _, _, _, _, _, _, _, _, _, rfl, H.out, HB.out⟩
          · rw [if_neg d5] at H
            have d5b : decide (0 < x) = false := decide_eq_false d5
            clear d5
            have H' := Lib.hid H; clear H; have H := H'; clear H'
            rcases d4 with d4 | ⟨d4, d4c⟩
            all_goals
              go_wp2_with (first | (go_at_call 43; (with_reducible refine (raw_Ends.calls g s nx _ _ _ AE.out).mono ?_); rintro e' w1 ⟨rfl, b1⟩; have HC := Lib.hid (below_on HB.out b1); clear b1 HB; have HB := HC; clear HC) | (go_at_call 59; (with_reducible refine (script_word.calls g s nx _ _ _ AW.out).mono ?_); rintro e' w1 ⟨rfl, b1⟩; have HC := Lib.hid (below_on HB.out b1); clear b1 HB; have HB := HC; clear HC))
              go_step3
              exact ⟨rfl, g, Nat.lt_succ_self _, _, _, _, _, _, _, _, _, _, _, _, _, _, _, _, _, _, _, _, _, _, _, _, _, _, _, _, _, _, _, _, _, _, _, _, _, _, _, _, _, _, _, _, _, _, _, _, _, _, _, _, _, _, _, _, _, _, _, _, _, _, _, _, _, _, _, _, _, _, _, _, _, _, _, _, rfl, H.out, HB.out⟩
        · rw [if_neg d6, if_neg c2] at H
          have d6b : (st == 1) = false := beq_eq_false_iff_ne.2 d6
          have d6c : (st == 2) = false := beq_eq_false_iff_ne.2 c2
          clear d6 c2
          have H' := Lib.hid H; clear H; have H := H'; clear H'
          rcases d4 with d4 | ⟨d4, d4c⟩
          all_goals
            go_wp2_with (first | (go_at_call 43; (with_reducible refine (raw_Ends.calls g s nx _ _ _ AE.out).mono ?_); rintro e' w1 ⟨rfl, b1⟩; have HC := Lib.hid (below_on HB.out b1); clear b1 HB; have HB := HC; clear HC))
            go_step3
            exact ⟨rfl, g, Nat.lt_succ_self _, _, _, _, _, _, _, _, _, _, _, _, _, _, _, _, _, _, _, _, _, _, _, _, _, _, _, _, _, _, _, _, _, _, _, _, _, _, _, _, _, _, _, _, _, _, _, _, _, _, _, _, _, _, _, _, _, _, _, _, _, _, _, _, _, _, _, _, _, _, _, _, _, _, _, _, rfl, H.out, HB.out⟩
end Go.Proofs.YtppaobgccdlccaaDoor.Hand
