/-
  Texts of the claim SafeRaw, merged by a program of this session (2).
-/
import Derived.Test.YtbdcghbafopjjaaGreatDoorZrSafeRawa
section
namespace Go.Proofs.YtbdcghbafopjjaaGreatDoor.Hand
open Go Go.RowKit Go.Proofs.YtbdcghbafopjjaaGreatDoor.Pl Go.Proofs.YtbdcghbafopjjaaGreatDoor.Pb
noncomputable def whF (attr : Bool) : Nat → List UInt8 → Bool
  | 0, _ => true
  | _ + 1, [] => true
  | f + 1, c :: r => if c = 38 then ((c :: r)[(refN attr (c :: r)).2 - 1]? == some 59) && whF attr f ((c :: r).drop (refN attr (c :: r)).2) else whF attr f r
theorem whF_more (attr : Bool) (f : Nat) : ∀ l f', l.length ≤ f → l.length ≤ f' → whF attr f l = whF attr f' l := by
  induction f with
  | zero =>
    intro l f' h h'
    obtain rfl := List.eq_nil_of_length_eq_zero (Nat.le_zero.1 h)
    cases f' <;> rfl
  | succ f ih =>
    intro l f' h h'
    cases l with
    | nil => cases f' <;> rfl
    | cons c r =>
      cases f' with
      | zero => simp at h'
      | succ f' =>
        have hb := refN_bd attr c r
        simp only [List.length_cons] at h h' hb
        simp only [whF]
        split
        · rw [ih _ f' (by rw [List.length_drop, List.length_cons]; omega) (by rw [List.length_drop, List.length_cons]; omega)]
        · rw [ih r f' (by omega) (by omega)]
noncomputable def whL (attr : Bool) (l : List UInt8) : Bool := whF attr l.length l
theorem whL_nil (attr : Bool) : whL attr [] = true := rfl
theorem whL_ne {c : UInt8} (attr : Bool) (r : List UInt8) (h : c ≠ 38) : whL attr (c :: r) = whL attr r := by
  unfold whL; simp only [List.length_cons, whF, if_neg h]
theorem whL_amp (attr : Bool) (r : List UInt8) : whL attr (38 :: r) = (((38 :: r)[(refN attr (38 :: r)).2 - 1]? == some 59) && whL attr ((38 :: r).drop (refN attr (38 :: r)).2)) := by
  have hb := refN_bd attr 38 r
  simp only [List.length_cons] at hb
  unfold whL
  rw [List.length_cons, whF, if_pos rfl, whF_more attr r.length _ _ (by rw [List.length_drop, List.length_cons]; omega) (Nat.le_refl _)]
theorem whL_app {p : List UInt8} (attr : Bool) (r : List UInt8) (h : (38 : UInt8) ∉ p) : whL attr (p ++ r) = whL attr r := by
  induction p with
  | nil => rfl
  | cons c p ih =>
    rw [List.cons_append, whL_ne attr _ (fun e => h (by rw [e]; simp)), ih (fun e => h (by simp [e]))]
theorem no38_take {l : List UInt8} {o : Nat} (h : ∀ k, k < o → l[k]? ≠ some 38) : (38 : UInt8) ∉ l.take o := by
  intro hm
  obtain ⟨k, hk, e⟩ := List.getElem_of_mem hm
  rw [List.length_take] at hk
  rw [List.getElem_take] at e
  exact h k (by omega) (by rw [List.getElem?_eq_getElem (by omega), e])
theorem split_at {s : List UInt8} {i o : Nat} (h1 : (s.drop i)[o]? = some 38) : s.drop i = (s.drop i).take o ++ 38 :: s.drop (i + o + 1) ∧ s.drop (i + o) = 38 :: s.drop (i + o + 1) := by
  rw [List.getElem?_drop] at h1
  obtain ⟨hl, he⟩ := List.getElem?_eq_some_iff.1 h1
  have hd : s.drop (i + o) = 38 :: s.drop (i + o + 1) := by rw [List.drop_eq_getElem_cons hl, he]
  refine ⟨?_, hd⟩
  rw [← hd, ← List.drop_drop, List.take_append_drop]
theorem refR_next {s : List UInt8} {n m : Nat} {attr : Bool} {t : ByteArray} (h : RefR s n attr (.tuple #[.string t, .int .i64 (m : Int)])) (hb : begR (s.drop n) [38] = true) : m = n + (refN attr (s.drop n)).2 ∧ t = B (refN attr (s.drop n)).1 := by
  have e := refR_refN h hb
  simp only [Value.tuple.injEq, Array.mk.injEq, List.cons.injEq, Value.int.injEq, Value.string.injEq] at e
  exact ⟨by omega, e.1⟩
theorem whl_fun {s : List UInt8} {attr : Bool} {i : Nat} {b : Bool} (h : Whl s attr i b) : b = whL attr (s.drop i) := by
  induction h with
  | stop i h =>
    have : (38 : UInt8) ∉ s.drop i := by
      intro hm
      obtain ⟨k, hk, e⟩ := List.getElem_of_mem hm
      exact h k (by rw [List.getElem?_eq_getElem hk, e])
    have e := whL_app attr [] this
    rw [List.append_nil, whL_nil] at e
    exact e.symm
  | bad i o m t h1 h2 h3 h4 =>
    obtain ⟨e1, e2⟩ := split_at h1
    obtain ⟨e3, _⟩ := refR_next h3 (begR_amp h1)
    have hb := refN_bd attr 38 (s.drop (i + o + 1))
    rw [e1, whL_app attr _ (no38_take h2), whL_amp, ← e2]
    rw [← e2] at hb
    have : (s.drop (i + o))[(refN attr (s.drop (i + o))).2 - 1]? = s[m - 1]? := by rw [List.getElem?_drop, e3]; congr 1; omega
    rw [this, show (s[m - 1]? == some 59) = false by rw [beq_eq_false_iff_ne]; exact h4]; rfl
  | go i o m t b h1 h2 h3 h4 h5 ih =>
    obtain ⟨e1, e2⟩ := split_at h1
    obtain ⟨e3, _⟩ := refR_next h3 (begR_amp h1)
    have hb := refN_bd attr 38 (s.drop (i + o + 1))
    rw [e1, whL_app attr _ (no38_take h2), whL_amp, ← e2]
    rw [← e2] at hb
    have : (s.drop (i + o))[(refN attr (s.drop (i + o))).2 - 1]? = s[m - 1]? := by rw [List.getElem?_drop, e3]; congr 1; omega
    rw [this, h4, ih, List.drop_drop, ← e3]; rfl
theorem wholeN_c (s : List UInt8) (attr : Bool) (hs : s.length ≤ 100000) (w : World) (hGl : Glob w) (hGE : GlobE w) :
    Calls Tryz.prog 28 #[.string (B s), .bool attr] w fun e w' => e = .returned (.bool (whL attr s)) ∧ Below w.heap.size w w' :=
  (whole_c s attr hs w hGl hGE).mono fun e w' h => by
    obtain ⟨⟨v, hv, he⟩, hb2⟩ := h
    exact ⟨by rw [he, whl_fun hv, List.drop_zero], hb2⟩
end Go.Proofs.YtbdcghbafopjjaaGreatDoor.Hand
end

section
namespace Go.Proofs.YtbdcghbafopjjaaGreatDoor.Hand
open Go Go.RowKit Go.Proofs.YtbdcghbafopjjaaGreatDoor.Pl Go.Proofs.YtbdcghbafopjjaaGreatDoor.Pb
theorem dg59 (six : Bool) : isDg six 59 = false := by cases six <;> decide
theorem digs_split (six : Bool) (q : List UInt8) : q = digs six q ++ q.drop (digs six q).length := by
  unfold digs
  conv => lhs; rw [← List.takeWhile_append_dropWhile (p := isDg six) (l := q)]
  congr 1
  conv => rhs; arg 2; rw [← List.takeWhile_append_dropWhile (p := isDg six) (l := q)]
  rw [List.drop_left]
theorem numQ_app {six : Bool} {q : List UInt8} {m k : Nat} (b : List UInt8) (h : numQ six q = some (m, k)) (h59 : q[k - 1]? = some 59) : numQ six (q ++ b) = some (m, k) := by
  have hle := numQ_le h
  unfold numQ at h
  simp only at h
  split at h
  · cases h
  · rename_i hv
    obtain ⟨e1, e2⟩ := Prod.mk.inj (Option.some.inj h)
    have hs := digs_split six q
    have hb : begR (q.drop (digs six q).length) [59] = true := by
      rcases Bool.eq_false_or_eq_true (begR (q.drop (digs six q).length) [59]) with h' | h'
      · exact h'
      · exfalso
        rw [h', if_neg (by decide), Nat.add_zero] at e2
        have : k - 1 < (digs six q).length := by omega
        rw [hs, List.getElem?_append_left this, List.getElem?_eq_getElem this] at h59
        have hm := List.getElem_mem this
        have hd : isDg six ((digs six q)[k - 1]'this) = true := List.all_eq_true.1 (by unfold digs; exact List.all_takeWhile) _ hm
        rw [Option.some.inj h59, dg59] at hd
        cases hd
    have hd : q.drop (digs six q).length = 59 :: q.drop ((digs six q).length + 1) := by
      cases hq : q.drop (digs six q).length with
      | nil => rw [hq] at hb; cases hb
      | cons c r =>
        rw [hq] at hb
        have hc : ∀ n : Fin 256, (lowB (UInt8.ofNat n.val) == 59) = (UInt8.ofNat n.val == 59) := by decide +kernel
        have g := hc ⟨c.toNat, c.toNat_lt⟩
        simp only [UInt8.ofNat_toNat] at g
        simp only [begR, Bool.and_true] at hb
        rw [g, beq_iff_eq] at hb
        rw [hb, ← List.drop_drop, hq]; rfl
    have hall : ∀ c ∈ digs six q, isDg six c = true := fun c hc => List.all_eq_true.1 (by unfold digs; exact List.all_takeWhile) _ hc
    have hdg : digs six (q ++ b) = digs six q := by
      conv => lhs; rw [hs, hd, List.append_assoc, List.cons_append]
      unfold digs at hall ⊢
      rw [tw_app _ _ _ hall, List.takeWhile_cons, if_neg (by rw [dg59]; decide), List.append_nil]
    unfold numQ
    simp only [hdg]
    have hle2 := digs_le six q
    rw [if_neg hv, List.drop_append_of_le_length hle2, hd]
    rw [hd] at e2
    rw [← e1, ← e2]; simp [begR]
theorem begR_app1 {d : UInt8} {r b : List UInt8} (h : r ≠ []) : begR (r ++ b) [d] = begR r [d] := by
  cases r with
  | nil => exact absurd rfl h
  | cons c r => simp [begR]
theorem numL_app {r : List UInt8} {m k : Nat} (b : List UInt8) (h : numL r = some (m, k)) (h59 : r[k - 1]? = some 59) : numL (r ++ b) = some (m, k) := by
  unfold numL at h ⊢
  split at h
  · rename_i h1
    have l1 := begR_one h1
    have hr : r ≠ [] := List.length_pos_iff.1 l1
    rw [begR_app1 hr, if_pos h1]
    have hr1 : r.drop 1 ≠ [] := by
      intro e
      rw [e] at h
      have h0 : begR ([] : List UInt8) [120] = false := rfl
      rw [h0, if_neg (by decide)] at h
      cases h
    rw [List.drop_append_of_le_length l1, begR_app1 hr1]
    split at h
    · rename_i h2
      rw [if_pos h2]
      have l2 := begR_one h2
      rw [List.length_drop] at l2
      obtain ⟨⟨a, c⟩, hx, e⟩ := Option.map_eq_some_iff.1 h
      obtain ⟨h3, h4⟩ := Prod.mk.inj e
      simp only at h3 h4
      have hl := numQ_le hx
      have := numQ_app b hx (by rw [List.getElem?_drop, ← h59]; congr 1; omega)
      rw [List.drop_append_of_le_length (by omega), this, Option.map_some]
      simp only; rw [h3, h4]
    · rename_i h2
      rw [if_neg h2]
      obtain ⟨⟨a, c⟩, hx, e⟩ := Option.map_eq_some_iff.1 h
      obtain ⟨h3, h4⟩ := Prod.mk.inj e
      simp only at h3 h4
      have hl := numQ_le hx
      have := numQ_app b hx (by rw [List.getElem?_drop, ← h59]; congr 1; omega)
      rw [this, Option.map_some]
      simp only; rw [h3, h4]
  · cases h
theorem refN_app {attr : Bool} {r : List UInt8} (b : List UInt8) (h59 : (38 :: r)[(refN attr (38 :: r)).2 - 1]? = some 59) : refN attr (38 :: (r ++ b)) = refN attr (38 :: r) := by
  cases hn : numL r with
  | some mk =>
    obtain ⟨m, k⟩ := mk
    have hl := numL_le hn
    have e : refN attr (38 :: r) = ((fixB m).data.toList, 1 + k) := by unfold refN; rw [List.drop_succ_cons, List.drop_zero, hn]
    rw [e] at h59 ⊢
    simp only at h59
    have := numL_app b hn (by rw [show 1 + k - 1 = (k - 1) + 1 by omega, List.getElem?_cons_succ] at h59; exact h59)
    unfold refN
    rw [List.drop_succ_cons, List.drop_zero, this]
  | none =>
    obtain ⟨k, hk⟩ : ∃ k, lngN r = k := ⟨_, rfl⟩
    have e2 : (refN attr (38 :: r)).2 = 1 + k := by
      unfold refN
      rw [List.drop_succ_cons, List.drop_zero, hn]
      simp only [hk]
      split <;> rfl
    rw [e2] at h59
    have hk0 : k ≠ 0 := by
      rintro rfl
      exact absurd h59 (by simp)
    have hsp := lngN_spec r
    rw [hk] at hsp
    have hle := hsp.le
    have hkey : isKey namesL (r.take k) := by
      rcases hsp.key with h | h
      · exact absurd h hk0
      · exact h
    have hkl : (r.take k).length = k := by rw [List.length_take]; omega
    have hlast : (r.take k).getLast? = some 59 := by
      rw [List.getLast?_eq_getElem?, hkl, List.getElem?_take_of_lt (by omega), ← h59, show 1 + k - 1 = (k - 1) + 1 by omega, List.getElem?_cons_succ]
    obtain ⟨w, hw⟩ : ∃ w, r.take k = w ++ [59] := by
      have hne : r.take k ≠ [] := by intro e; rw [e] at hkl; exact hk0 hkl.symm
      refine ⟨(r.take k).dropLast, ?_⟩
      have := List.dropLast_concat_getLast hne
      rw [← this]
      rw [List.getLast?_eq_some_getLast hne] at hlast
      rw [Option.some.inj hlast]; simp
    rw [hw] at hkey
    have hr : r = w ++ 59 :: r.drop k := by
      conv => lhs; rw [← List.take_append_drop k r, hw]
      simp
    rw [hr, List.append_assoc, List.cons_append, refN_semi _ hkey, refN_semi _ hkey]
theorem rdL_append {attr : Bool} (b : List UInt8) : ∀ n (a : List UInt8), a.length ≤ n → whL attr a = true → rdL attr (a ++ b) = rdL attr a ++ rdL attr b := by
  intro n
  induction n with
  | zero => intro a h _; obtain rfl := List.eq_nil_of_length_eq_zero (Nat.le_zero.1 h); rfl
  | succ n ih =>
    intro a h hw
    cases a with
    | nil => rfl
    | cons c r =>
      simp only [List.length_cons] at h
      by_cases hc : c = 38
      · subst hc
        have hb := refN_bd attr 38 r
        rw [whL_amp, Bool.and_eq_true, beq_iff_eq] at hw
        obtain ⟨h1, h2⟩ := hw
        have e := refN_app b h1
        simp only [List.length_cons] at hb
        rw [List.cons_append, rdL_amp, rdL_amp attr r, e, ← List.cons_append, List.drop_append_of_le_length (by simp; omega), ih _ (by rw [List.length_drop, List.length_cons]; omega) h2, List.append_assoc]
      · rw [whL_ne attr r hc] at hw
        rw [List.cons_append, rdL_ne attr _ hc, rdL_ne attr r hc, ih r (by omega) hw]; rfl
end Go.Proofs.YtbdcghbafopjjaaGreatDoor.Hand
end

section
namespace Go.Proofs.YtbdcghbafopjjaaGreatDoor.Hand
open Go Go.RowKit Go.Proofs.YtbdcghbafopjjaaGreatDoor.Pl Go.Proofs.YtbdcghbafopjjaaGreatDoor.Pb
noncomputable def safL (st : Int) (s : List UInt8) : Bool :=
  !hasB s 13 && (if st = 0 ∨ st = 1 then !hasB s 60 && whL false s else if st = 2 ∨ st = 3 then !hasB s 60 else if st = 4 then true else if st = 5 then !hasB s 34 && whL true s else if st = 6 then !hasB s 39 && whL true s else false)
theorem saf_fun {s : List UInt8} {st : Int} {b : Bool} (h : SafeR s st b) : b = safL st s := by
  unfold SafeR at h
  unfold safL
  split at h
  · rename_i g; rw [h, g]; rfl
  · rename_i g
    rw [Bool.not_eq_true] at g
    rw [g, Bool.not_false, Bool.true_and]
    split at h
    · rename_i g1; rw [if_pos g1]
      obtain ⟨x, hx, rfl⟩ := h
      rw [whl_fun hx, List.drop_zero, Bool.and_comm]
    · rename_i g1; rw [if_neg g1]
      split at h
      · rename_i g2; rw [if_pos g2]; exact h
      · rename_i g2; rw [if_neg g2]
        split at h
        · rename_i g3; rw [if_pos g3]; exact h
        · rename_i g3; rw [if_neg g3]
          split at h
          · rename_i g6
            rw [if_neg (by omega), if_pos g6]
            rcases h with ⟨a1, a2⟩ | ⟨a1, a2⟩
            · rw [a2, a1]; rfl
            · rw [whl_fun a2, a1, List.drop_zero]; rfl
          · rename_i g6
            split at h
            · rename_i g5; rw [if_pos g5]
              rcases h with ⟨a1, a2⟩ | ⟨a1, a2⟩
              · rw [a2, a1]; rfl
              · rw [whl_fun a2, a1, List.drop_zero]; rfl
            · rename_i g5; rw [if_neg g5, if_neg g6]; exact h
theorem safeN_c (s : List UInt8) (st : Int) (hs : s.length ≤ 100000) (w : World) (hGl : Glob w) (hGE : GlobE w) :
    Calls Tryz.prog 11 #[.int .i64 st, .string (B s)] w fun e w' => e = .returned (.bool (safL st s)) ∧ Below w.heap.size w w' :=
  (safe_c s st hs w hGl hGE).mono fun e w' h => by
    obtain ⟨⟨b, hb, he⟩, h2⟩ := h
    exact ⟨by rw [he, saf_fun hb], h2⟩
noncomputable def everL (s : List UInt8) : Bool := safL 0 s && (safL 1 s && (safL 2 s && (safL 3 s && (safL 4 s && (safL 5 s && safL 6 s)))))
theorem everN_c (s : List UInt8) (hs : s.length ≤ 100000) (w : World) (hGl : Glob w) (hGE : GlobE w) :
    Calls Tryz.prog 27 #[.string (B s)] w fun e w' => e = .returned (.bool (everL s)) ∧ Below w.heap.size w w' :=
  (every_c s hs w hGl hGE).mono fun e w' h => by
    obtain ⟨h1, h2⟩ := h
    refine ⟨?_, h2⟩
    rcases h1 with ⟨rfl, hh⟩ | ⟨rfl, k, hk, hh⟩
    · have g := fun k hk => (saf_fun (hh k hk)).symm
      have : everL s = true := by
        unfold everL
        rw [show safL 0 s = true from g 0 (by decide), show safL 1 s = true from g 1 (by decide), show safL 2 s = true from g 2 (by decide), show safL 3 s = true from g 3 (by decide), show safL 4 s = true from g 4 (by decide), show safL 5 s = true from g 5 (by decide), show safL 6 s = true from g 6 (by decide)]
        rfl
      rw [this]
    · have g := (saf_fun hh).symm
      have : everL s = false := by
        unfold everL
        match k, hk with
        | 0, _ => rw [show safL 0 s = false from g]; rfl
        | 1, _ => rw [show safL 1 s = false from g]; simp
        | 2, _ => rw [show safL 2 s = false from g]; simp
        | 3, _ => rw [show safL 3 s = false from g]; simp
        | 4, _ => rw [show safL 4 s = false from g]; simp
        | 5, _ => rw [show safL 5 s = false from g]; simp
        | 6, _ => rw [show safL 6 s = false from g]; simp
      rw [this]
end Go.Proofs.YtbdcghbafopjjaaGreatDoor.Hand
end

section
namespace Go.Proofs.YtbdcghbafopjjaaGreatDoor.Hand
open Go Go.RowKit Go.Proofs.YtbdcghbafopjjaaGreatDoor.Pl Go.Proofs.YtbdcghbafopjjaaGreatDoor.Pb Go.Proofs.YtbdcghbafopjjaaGreatDoor.Pure
theorem txtT_len (s : List UInt8) : (txtT s).length ≤ 1 := by unfold txtT; split <;> simp
theorem joinL_length (l : List Tk) : (joinL l).length ≤ l.length := by
  induction l with
  | nil => exact Nat.le_refl _
  | cons t r ih =>
    cases ht : isTx t with
    | false => rw [joinL_no r ht, List.length_cons, List.length_cons]; omega
    | true =>
      obtain ⟨s, rfl⟩ : ∃ s, t = .text s := by cases t <;> first | exact ⟨_, rfl⟩ | cases ht
      rw [joinL]
      have := txtT_len s
      split
      · rename_i h; rw [h] at ih; simp only [List.length_cons] at ih ⊢; omega
      · rw [List.length_append, List.length_cons]; omega
theorem joinL_idem (l : List Tk) : joinL (joinL l) = joinL l := by
  induction l with
  | nil => rfl
  | cons t r ih =>
    cases ht : isTx t with
    | false => rw [joinL_no r ht, joinL_no _ ht, ih]
    | true =>
      obtain ⟨s, rfl⟩ : ∃ s, t = .text s := by cases t <;> first | exact ⟨_, rfl⟩ | cases ht
      cases hr : joinL r with
      | nil =>
        rw [joinL, hr]
        simp only [List.append_nil]
        unfold txtT
        split
        · rfl
        · rename_i h; simp [joinL, txtT, h]
      | cons u q =>
        cases hu : isTx u with
        | true =>
          obtain ⟨v, rfl⟩ : ∃ v, u = .text v := by cases u <;> first | exact ⟨_, rfl⟩ | cases hu
          rw [joinL, hr]
          simp only
          rw [hr, joinL] at ih
          have hl := joinL_length q
          have hq : (∀ w q2, joinL q ≠ .text w :: q2) ∧ v ≠ [] ∧ joinL q = q := by
            split at ih
            · rename_i w q2 hw
              simp only [List.cons.injEq] at ih
              rw [hw, ih.2, List.length_cons] at hl; omega
            · rename_i hno
              unfold txtT at ih
              split at ih
              · rename_i hv
                rw [List.nil_append] at ih
                rw [ih, List.length_cons] at hl; omega
              · rename_i hv
                simp only [List.cons_append, List.nil_append, List.cons.injEq, true_and] at ih
                exact ⟨fun w q2 h => hno w q2 h, hv, ih⟩
          obtain ⟨h1, h2, h3⟩ := hq
          rw [joinL]
          split
          · rename_i w q2 hw; exact absurd hw (h1 w q2)
          · rw [h3]; unfold txtT; rw [if_neg (by simp [h2])]; rfl
        | false =>
          have hs : joinL (.text s :: r) = txtT s ++ u :: q := by
            rw [joinL, hr]
            cases u <;> first | rfl | cases hu
          rw [hs]
          rw [hr] at ih
          unfold txtT
          split
          · exact ih
          · rename_i h
            show joinL (.text s :: u :: q) = _
            rw [joinL_txno _ _ hu]
            rw [joinL_no q hu] at ih
            simp only [List.cons.injEq, true_and] at ih
            rw [ih]; unfold txtT; rw [if_neg h]
theorem join_in (u : List UInt8) (l : List Tk) : joinL (.text u :: joinL l) = joinL (.text u :: l) := by rw [joinL, joinL, joinL_idem]
theorem join_add (u v : List UInt8) (l : List Tk) : joinL (.text u :: .text v :: l) = joinL (.text (u ++ v) :: l) := by
  by_cases hv : v = []
  · subst hv; rw [joinL, joinL_nil0, List.append_nil]; conv => rhs; rw [joinL]
  · exact joinL_two u v l hv
theorem join_tx (u v : List UInt8) (l : List Tk) : joinL (.text u :: (txtT v ++ l)) = joinL (.text (u ++ v) :: l) := by
  unfold txtT
  split
  · rename_i h; subst h; rw [List.append_nil]; rfl
  · exact join_add u v l
theorem join_tx0 (v : List UInt8) (l : List Tk) : joinL (txtT v ++ l) = joinL (.text v :: l) := by
  unfold txtT
  split
  · rename_i h; subst h; rw [joinL_nil0]; rfl
  · rfl
theorem findL_app {s : List UInt8} (r : List UInt8) (h : (60 : UInt8) ∉ s) : (findL 0 0 (s ++ r)).1 = s.length + (findL 0 0 r).1 := by
  induction s with
  | nil => rw [List.nil_append]; exact (Nat.zero_add _).symm
  | cons c s ih =>
    rw [List.mem_cons, not_or] at h
    have hc : c ≠ 60 := fun e => h.1 e.symm
    have he : endsL (c :: (s ++ r)) scriptL = false := by
      cases he : endsL (c :: (s ++ r)) scriptL with
      | false => rfl
      | true =>
        have := ends_pref he
        simp [List.isPrefixOf] at this
        exact absurd this.1 h.1
    have hb : begR (c :: (s ++ r)) [60, 33, 45, 45] = false := by
      rw [begR, beq_eq_false_iff_ne.2 (fun e => hc (lowB_60' c e))]; rfl
    have hs : stepF 0 0 (c :: (s ++ r)) = some (1, 0, 0) := by
      unfold stepF
      simp only [he, hb, and_false, Bool.false_eq_true, if_false, if_true]
    rw [List.cons_append, findL_some hs]
    show 1 + (findL 0 0 (s ++ r)).1 = _
    rw [ih h.2, List.length_cons]; omega
theorem firstE_app' (name : List UInt8) {s : List UInt8} (r : List UInt8) (h : (60 : UInt8) ∉ s) : firstE name (s ++ r) = s.length + firstE name r := by
  induction s with
  | nil => rw [List.nil_append]; exact (Nat.zero_add _).symm
  | cons c s ih =>
    rw [List.mem_cons, not_or] at h
    have he : endsL (c :: (s ++ r)) name = false := by
      cases he : endsL (c :: (s ++ r)) name with
      | false => rfl
      | true =>
        have := ends_pref he
        simp [List.isPrefixOf] at this
        exact absurd this.1 h.1
    rw [List.cons_append, firstE, if_neg (by rw [he]; decide), ih h.2, List.length_cons]
    omega
theorem endN_app {st : Nat} (name : List UInt8) {s : List UInt8} (r : List UInt8) (h : st ≠ 4 → (60 : UInt8) ∉ s) (h1 : 1 ≤ st) (h4 : st ≤ 4) : endN st name (s ++ r) = s.length + endN st name r := by
  unfold endN
  split
  · exact firstE_app' name r (h (by omega))
  · split
    · exact findL_app r (h (by omega))
    · exact List.length_append
theorem raw_app {refs : Bool} {s : List UInt8} (x : List UInt8) (hw : refs = true → whL false s = true) : rawT refs (s ++ x) = rawT refs s ++ rawT refs x := by
  have hc : ∀ a b : List UInt8, cleanL (a ++ b) = cleanL a ++ cleanL b := fun a b => by
    induction a with
    | nil => rfl
    | cons c a ih => rw [List.cons_append, cleanL_cons, cleanL_cons, ih, List.append_assoc]
  unfold rawT
  split
  · rename_i h; rw [rdL_append _ _ _ (Nat.le_refl _) (hw h), hc]
  · exact hc _ _
theorem tok_raw {st : Nat} (name : List UInt8) {s : List UInt8} (r : List UInt8) (h1 : 1 ≤ st) (h4 : st ≤ 4) (h : st ≠ 4 → (60 : UInt8) ∉ s) (hw : st = 1 → whL false s = true) :
    tokA st name (s ++ r) = joinL (.text (rawT (st == 1) s) :: tokA st name r) := by
  have hn := endN_app name r h h1 h4
  have ha := raw_app (refs := st == 1) (s := s) (r.take (endN st name r)) (fun e => hw (by simpa using e))
  unfold tokA
  rw [if_neg (by omega), if_neg (by omega), join_in]
  unfold restL
  have hno : ¬ (st = 0 ∨ 4 < st) := by omega
  simp only [if_neg hno, hn, List.drop_length_add_append, List.take_length_add_append, ha]
  split
  · rw [join_tx, join_tx0]
  · simp only [List.append_assoc]
    rw [join_tx, join_tx0]
theorem has_no {s : List UInt8} {c : UInt8} (h : (!hasB s c) = true) : c ∉ s := by
  rw [Bool.not_eq_true'] at h
  unfold hasB at h
  exact of_decide_eq_false h
theorem safe_raw {st : Nat} (name : List UInt8) {s : List UInt8} (r : List UInt8) (h1 : 1 ≤ st) (h4 : st ≤ 4) (h : safL (st : Int) s = true) : tokA st name (s ++ r) = joinL (.text (rawT (st == 1) s) :: tokA st name r) := by
  unfold safL at h
  rw [Bool.and_eq_true] at h
  have hh := h.2
  refine tok_raw name r h1 h4 (fun h4' => ?_) (fun e => ?_)
  · by_cases e : st = 1
    · rw [if_pos (by omega), Bool.and_eq_true] at hh
      exact has_no hh.1
    · rw [if_neg (by omega), if_pos (by omega)] at hh
      exact has_no hh
  · rw [if_pos (by omega), Bool.and_eq_true] at hh
    exact hh.2
end Go.Proofs.YtbdcghbafopjjaaGreatDoor.Hand
end

section
namespace Go.Proofs.YtbdcghbafopjjaaGreatDoor.Hand
open Go Go.RowKit Go.Proofs.YtbdcghbafopjjaaGreatDoor.Pl Go.Proofs.YtbdcghbafopjjaaGreatDoor.Pb
theorem whL_semi {attr : Bool} {w : List UInt8} (r : List UInt8) (hk : isKey namesL (w ++ [59])) : whL attr (38 :: (w ++ 59 :: r)) = whL attr r := by
  rw [whL_amp, refN_semi r hk]
  simp only
  rw [show w.length + 2 - 1 = w.length + 1 by omega, List.getElem?_cons_succ, List.getElem?_append_right (Nat.le_refl _), Nat.sub_self, List.drop_succ_cons, List.drop_append, List.drop_eq_nil_of_le (by omega), show w.length + 1 - w.length = 1 by omega]
  rfl
theorem whL_no {attr : Bool} {p : List UInt8} (h : (38 : UInt8) ∉ p) : whL attr p = true := by
  have := whL_app attr [] h
  rwa [List.append_nil, whL_nil] at this
end Go.Proofs.YtbdcghbafopjjaaGreatDoor.Hand
end

section
namespace Go.Proofs.YtbdcghbafopjjaaGreatDoor.Hand
open Go Go.RowKit Go.Proofs.YtbdcghbafopjjaaGreatDoor.Pl Go.Proofs.YtbdcghbafopjjaaGreatDoor.Pb
theorem ever_amp : everL [97, 38, 97, 109, 112, 59] = true := by
  have hw : ∀ attr, whL attr [97, 38, 97, 109, 112, 59] = true := fun attr => by
    rw [whL_ne attr _ (by decide)]
    exact (whL_semi (w := wordAmp) [] (fnd_key fnd_amp)).trans (whL_nil _)
  unfold everL safL
  rw [hw, hw]; decide
theorem saf_amp0 : safL 0 [97, 38, 97, 109, 112] = false := by
  have hl : lngN wordAmp = 3 := lngN_eq ⟨by decide, .inr (fnd_key fnd_amp0), fun m h1 h2 _ => by have : min 32 wordAmp.length = 3 := rfl; omega⟩
  have hr : refN false (38 :: wordAmp) = ([38], 4) := by
    unfold refN
    rw [show (38 :: wordAmp).drop 1 = wordAmp from rfl, show numL wordAmp = none by decide +kernel]
    simp only [hl]
    rw [if_neg, show wordAmp.take 3 = wordAmp from rfl, nameT_amp0]
    rintro (e | e)
    · cases e
    · exact absurd e (by decide)
  have hw : whL false [97, 38, 97, 109, 112] = false := by
    rw [whL_ne false _ (by decide)]
    refine (whL_amp false wordAmp).trans ?_
    rw [hr]; rfl
  unfold safL
  rw [if_pos (.inl rfl), hw, Bool.and_false, Bool.and_false]
set_option maxRecDepth 100000 in
set_option maxHeartbeats 4000000 in
theorem awake25_any (w : World) (hGl : Glob w) (hGE : GlobE w) : Calls Tryz.prog 10 #[] w fun e w' => e = .returned (.bool true) ∧ Below w.heap.size w w' := by
  have G1 := Lib.hid (fun W hG hE => everN_c [97, 38, 97, 109, 112, 59] (by decide) W hG hE)
  have G2 := Lib.hid (fun W hG hE => safeN_c [97, 38, 97, 109, 112] 0 (by decide) W hG hE)
  have G3 := Lib.hid (fun W hG hE => safeN_c [39] 5 (by decide) W hG hE)
  have G4 := Lib.hid (fun W hG hE => safeN_c [39] 6 (by decide) W hG hE)
  have G5 := Lib.hid (fun W hG hE => wholeN_c [97] true (by decide) W hG hE)
  rw [ever_amp] at G1
  rw [saf_amp0] at G2
  rw [show safL 5 [39] = true by unfold safL; rw [whL_no (by decide)]; decide] at G3
  rw [show safL 6 [39] = false by unfold safL; decide] at G4
  rw [whL_no (by decide)] at G5
  unfold B at G1 G2 G3 G4 G5
  have HG := Lib.hid hGl
  have HE := Lib.hid hGE
  clear hGl hGE
  go_enter Tryz.func10, Tryz.ntmps10
  go_wp2_with fail
  refine (G1.out _ HG.out HE.out).mono ?_
  rintro e w1 ⟨rfl, hb⟩
  have HB := Lib.hid hb
  clear hb
  go_wp2_with fail
  refine (G2.out _ (HG.out.step HB.out) (HE.out.step HB.out)).mono ?_
  rintro e w2 ⟨rfl, hb⟩
  replace HB := Lib.hid (HB.out.trans (hb.mono HB.out.size))
  clear hb
  go_wp2_with fail
  refine (G3.out _ (HG.out.step HB.out) (HE.out.step HB.out)).mono ?_
  rintro e w3 ⟨rfl, hb⟩
  replace HB := Lib.hid (HB.out.trans (hb.mono HB.out.size))
  clear hb
  go_wp2_with fail
  refine (G4.out _ (HG.out.step HB.out) (HE.out.step HB.out)).mono ?_
  rintro e w4 ⟨rfl, hb⟩
  replace HB := Lib.hid (HB.out.trans (hb.mono HB.out.size))
  clear hb
  go_wp2_with fail
  refine (G5.out _ (HG.out.step HB.out) (HE.out.step HB.out)).mono ?_
  rintro e w5 ⟨rfl, hb⟩
  replace HB := Lib.hid (HB.out.trans (hb.mono HB.out.size))
  clear hb
  go_wp2_with fail
  go_ret
  exact ⟨rfl, HB.out⟩
end Go.Proofs.YtbdcghbafopjjaaGreatDoor.Hand
end

section
namespace Go.Proofs.YtbdcghbafopjjaaGreatDoor.Hand
open Go Go.RowKit Go.Proofs.YtbdcghbafopjjaaGreatDoor.K0 Go.Proofs.YtbdcghbafopjjaaGreatDoor.Pl Go.Proofs.YtbdcghbafopjjaaGreatDoor.Pb Go.Proofs.YtbdcghbafopjjaaGreatDoor.Pure Go.Proofs.YtbdcghbafopjjaaGreatDoorW.PrintWords Go.Proofs.YtbdcghbafopjjaaGreatDoorW.PrintLast Go.Proofs.YtbdcghbafopjjaaGreatDoorW.PrintMore
theorem lit_N (W : World) (base : Nat) (hbase : base ≤ W.heap.size) (d : ByteArray) : Kd.N tkK 28 (W.alloc (.cells #[.int .i64 0, .string ⟨#[]⟩, .string d, .slice none 0 0, .bool false] 28)) base (fun k => base ≤ k) (.slice (some ⟨W.heap.size, 0, none⟩) 1 1) [⟨0, ⟨#[]⟩, d, [], false⟩] := by
  refine Kd.R_N ⟨fun k hk => ?_, [.int .i64 0, .string ⟨#[]⟩, .string d, .slice none 0 0, .bool false], ?_, ?_⟩
  · have : W.heap.size = k := by simpa [Value.ownBlock] using hk
    omega
  · have h2 := World.ownsRow_lit (base := base) (e := 28) (size := tkK.sz) W #[.int .i64 0, .string ⟨#[]⟩, .string d, .slice none 0 0, .bool false] 1 hbase (by decide) rfl
    simpa using h2
  · exact Reps.c5 (k28_mkM _ _ _ (⟨0, ⟨#[]⟩, d, [], false⟩ : TkS) (Kd.R_nil _ _ _ _ _)) ⟨rfl, fun j p h => by simp at h⟩
theorem tokA_bd {st : Nat} (name : List UInt8) {r : List UInt8} (hr : r.length ≤ 600) (h4 : st ≤ 4) : (∀ t ∈ tokA st name r, txB t ≤ 10000000) ∧ (tokA st name r).length ≤ 1000 := by
  have h1 := rest_bd st name r
  have h2 := restL_le st name r
  have h3 := tks_bd r.length (restL st name r).2 h2
  have hy : ∀ t ∈ tokY st name r, txB t ≤ 14400 := fun t ht => by
    rcases List.mem_append.1 ht with h | h
    · have := h1.1 t h; omega
    · have := h3.1 t h; omega
  have hl : (tokY st name r).length ≤ 602 := by unfold tokY; rw [List.length_append]; omega
  have e : tokA st name r = jn (tokY st name r) (tokY st name r).length := by
    unfold tokA jn tokY; rw [if_neg (by omega), List.take_length, join_eq]
  have h5 := jn_bd hy (tokY st name r).length (Nat.le_refl _)
  have h6 := jn_len (tokY st name r) (tokY st name r).length
  rw [e]
  refine ⟨fun t ht => ?_, by omega⟩
  have h7 := h5 t ht
  have h8 : (tokY st name r).length * 14400 ≤ 602 * 14400 := Nat.mul_le_mul_right _ hl
  omega
theorem want_bd {st : Nat} (name : List UInt8) {r u : List UInt8} (hr : r.length ≤ 600) (h4 : st ≤ 4) (hu : u.length ≤ 1000000) : (∀ t ∈ Tk.text u :: tokA st name r, txB t ≤ 10000000) ∧ (Tk.text u :: tokA st name r).length ≤ 100000 := by
  have h := tokA_bd name hr h4
  refine ⟨fun t ht => ?_, by rw [List.length_cons]; omega⟩
  rcases List.mem_cons.1 ht with rfl | ht
  · have : txB (Tk.text u) = u.length := rfl
    omega
  · exact h.1 t ht
end Go.Proofs.YtbdcghbafopjjaaGreatDoor.Hand
end

section
namespace Go.Proofs.YtbdcghbafopjjaaGreatDoor.Hand
open Go Go.RowKit Go.Proofs.YtbdcghbafopjjaaGreatDoor.K0 Go.Proofs.YtbdcghbafopjjaaGreatDoor.Pl Go.Proofs.YtbdcghbafopjjaaGreatDoor.Pb Go.Proofs.YtbdcghbafopjjaaGreatDoor.St Go.Proofs.YtbdcghbafopjjaaGreatDoor.Pure Go.Proofs.YtbdcghbafopjjaaGreatDoorW.PrintWords Go.Proofs.YtbdcghbafopjjaaGreatDoorW.PrintLast Go.Proofs.YtbdcghbafopjjaaGreatDoorW.PrintMore
theorem raw_c (x : List UInt8) (refs : Bool) (hx : x.length ≤ 100000) (W : World) (hG : Glob W) : Calls Tryz.prog 16 #[.string (B x), .bool refs] W fun e w' => e = .returned (.string (B (rawT refs x))) ∧ Below W.heap.size W w' :=
  raw_Text.calls _ _ _ W hG (rawText_f refs hx)
theorem rawT_le (refs : Bool) (x : List UInt8) : (rawT refs x).length ≤ 24 * x.length := by
  have h1 := rdL_le false x
  have h2 := clean_le (rdL false x)
  have h3 := clean_le x
  unfold rawT
  split <;> omega
set_option maxRecDepth 100000 in
set_option maxHeartbeats 16000000 in
theorem safeRaw_yes (s r name : List UInt8) (k : Int) (st : Nat) (hk0 : 0 ≤ k) (hk1 : k ≤ 255) (hst : (st : Int) = 1 + k % 4) (hs : s.length ≤ 300) (hr : r.length ≤ 300) (hn : name.length ≤ 60) (h : safL (st : Int) s = true) (w : World) (hGl : Glob w) :
    Calls Tryz.prog 4 #[.string (B s), .string (B r), .int .u8 k, .string (B name)] w fun e w' => e = .returned (.bool true) ∧ Below w.heap.size w w' := by
  have h1 : 1 ≤ st := by omega
  have h4 : st ≤ 4 := by omega
  have HG := Lib.hid hGl
  have AW := Lib.hid (fun W hG => awake25_any W hG hG.toE)
  have SF : Hid (∀ W, Glob W → Calls Tryz.prog 11 #[.int .i64 (st : Int), .string (B s)] W fun e w' => e = .returned (.bool true) ∧ Below W.heap.size W w') := Lib.hid (fun W hG => by rw [← h]; exact safeN_c s (st : Int) (by omega) W hG hG.toE)
  have RD := Lib.hid (fun W hG => raw_c s (st == 1) (by omega) W hG)
  have T1 := Lib.hid (fun W hG => tokA_c r (by omega) name (by omega) st h4 W hG)
  have T2 := Lib.hid (fun W hG => tokA_c (s ++ r) (by rw [List.length_append]; omega) name (by omega) st h4 W hG)
  have hrl := rawT_le (st == 1) s
  have JN := Lib.hid (fun A c W lo hlo hv => join2_c A c (.text (rawT (st == 1) s) :: tokA st name r) W lo hlo hv (want_bd (st := st) name (by omega) h4 (by omega)).2 (want_bd (st := st) name (by omega) h4 (by omega)).1)
  have hE := safe_raw name r h1 h4 h
  have hat : ∀ t ∈ tokA st name (s ++ r), atB t ≤ 1000000 := fun t ht => by
    have := tokA_at st name (s ++ r) t ht
    rw [List.length_append] at this
    omega
  have hal := (tokA_bd (st := st) name (r := s ++ r) (by rw [List.length_append]; omega) h4).2
  rw [hE] at hat hal T2
  have AL := Lib.hid (fun W v1 v2 b1 b2 o1 o2 h1 h2 => all_c (joinL (.text (rawT (st == 1) s) :: tokA st name r)) (by omega) hat W v1 v2 b1 b2 o1 o2 h1 h2)
  have hY : (tokA st name r).length ≤ 1000 := (tokA_bd (st := st) name (by omega) h4).2
  have HWL : Hid ((Tk.text (rawT (st == 1) s) :: tokA st name r).map ofK = ⟨0, ⟨#[]⟩, B (rawT (st == 1) s), [], false⟩ :: (tokA st name r).map ofK) := Lib.hid rfl
  generalize tokA st name r = Y at T1 JN AL T2 hY HWL
  have HY := Lib.hid hY
  generalize joinL (.text (rawT (st == 1) s) :: Y) = J at AL JN T2
  have hab : B s ++ B r = B (s ++ r) := B_append ..
  obtain ⟨ab, hab2⟩ : ∃ x, B (s ++ r) = x := ⟨_, rfl⟩
  rw [hab2] at hab T2
  obtain ⟨a, ha⟩ : ∃ x, B s = x := ⟨_, rfl⟩
  obtain ⟨b, hb⟩ : ∃ x, B r = x := ⟨_, rfl⟩
  obtain ⟨d, hd⟩ : ∃ x, B (rawT (st == 1) s) = x := ⟨_, rfl⟩
  have za : a.size ≤ 300 := by rw [← ha, size_B]; exact hs
  have zb : b.size ≤ 300 := by rw [← hb, size_B]; exact hr
  rw [ha] at SF RD hab ⊢
  rw [hb] at T1 hab ⊢
  rw [hd] at RD HWL
  obtain ⟨nb, hnb⟩ : ∃ x, B name = x := ⟨_, rfl⟩
  have zn : nb.size ≤ 60 := by rw [← hnb, size_B]; exact hn
  rw [hnb] at T1 T2 ⊢
  have q4 : decide (60 < nb.size) = false := decide_eq_false (by omega)
  have q1 : decide (300 < a.size) = false := decide_eq_false (by omega)
  have q2 : decide (300 < b.size) = false := decide_eq_false (by omega)
  have q3 : (9223372036854775807 < a.size + b.size) = False := eq_false (by omega)
  have e1 : ((st : Int) == 1) = (st == 1) := by rw [Bool.eq_iff_iff, beq_iff_eq, beq_iff_eq]; omega
  rw [← e1] at RD
  obtain ⟨S1, hS1⟩ : ∃ x, (st : Int) = x := ⟨_, rfl⟩
  rw [hS1] at SF RD T1 T2 hst
  have m1 : k.tmod 4 = S1 - 1 := by rw [Int.tmod_eq_emod_of_nonneg hk0]; omega
  have m2 : k % 4 = S1 - 1 := by omega
  have m3 : IntKind.i64.wrap (1 + (S1 - 1)) = S1 := by simp [IntKind.wrap_i64]; omega
  rw [← hab] at T2
  clear hs hr h hGl hrl hE hat hal hY hab2 ha hb hd e1 hab hS1 h1 h4 hn hnb hst
  go_enter Tryz.func4, Tryz.ntmps4
  go_wp2_with fail
  refine (AW.out _ HG.out).mono ?_
  rintro e w1 ⟨rfl, hb1⟩
  have HB := Lib.hid hb1
  clear hb1 AW
  go_wp2_with fail
  refine (SF.out _ (HG.out.step HB.out)).mono ?_
  rintro e w2 ⟨rfl, hb1⟩
  replace HB := Lib.hid (HB.out.trans (hb1.mono HB.out.size))
  clear hb1 SF
  go_wp2_with fail
  refine (RD.out _ (HG.out.step HB.out)).mono ?_
  rintro e w3 ⟨rfl, hb1⟩
  replace HB := Lib.hid (HB.out.trans (hb1.mono HB.out.size))
  clear hb1 RD
  go_wp2_with fail
  have HN1 := Lib.hid (lit_N w3 w.heap.size HB.out.size d)
  have HB4 := Lib.hid (below_alloc HB.out (.cells #[.int .i64 0, .string ⟨#[]⟩, .string d, .slice none 0 0, .bool false] 28))
  refine (T1.out _ (HG.out.step HB4.out)).mono ?_
  rintro e w5 ⟨⟨v2, rfl, hV⟩, hb1⟩
  obtain ⟨A2, c2, rfl⟩ := Kd.V_slice hV
  have hF := Kd.V_F hV
  have HF := Lib.hid (Kd.F_mono hF (ok' := fun k => w.heap.size ≤ k ∧ some k ≠ (Value.slice (some ⟨w3.heap.size, 0, none⟩) 1 1).ownBlock) (fun k hk => ⟨Nat.le_trans HB4.out.size hk.1, fun he => by
    have h1 := hk.1
    have h2 : k = w3.heap.size := by simpa [Value.ownBlock] using he
    rw [alloc_sz] at h1
    omega⟩))
  rw [List.length_map] at HF
  rw [List.length_map]
  replace HN1 := Lib.hid (Kd.N_below HN1.out hb1)
  have HB5 := Lib.hid (HB4.out.trans (hb1.mono HB4.out.size))
  clear hb1 T1 HB4 hV hF HB
  have HLN : Hid (([(⟨0, ⟨#[]⟩, d, [], false⟩ : TkS)].length + Y.length) * 72 ≤ 140737488355328) := Lib.hid (by have := HY.out; simp only [List.length_cons, List.length_nil]; omega)
  generalize hY2 : Y.length = m2 at HF HLN ⊢
  go_wp2_with (first | ((with_reducible refine gate_builtin (b := .append) (xs := #[.tmp 44, .tmp 48]) rfl ?_); at_builtin; refine Kd.N_append_rows tkK (w0 := w) w.heap.size rfl (.tmp 44) (.tmp 48) 24 28 (.agg #[(.int .i64 0), (.string ⟨#[]⟩), (.string ⟨#[]⟩), (.slice none 0 0), (.bool false)]) 72 rfl Tryz.underlying24 infoK rfl (by decide) (by decide) (.slice (some ⟨w3.heap.size, 0, none⟩) 1 1) [(⟨0, ⟨#[]⟩, d, [], false⟩ : TkS)] (Y.map ofK) A2 m2 c2 (fun k => w.heap.size ≤ k) (fun k => w.heap.size ≤ k ∧ some k ≠ (Value.slice (some ⟨w3.heap.size, 0, none⟩) 1 1).ownBlock) rfl rfl ?aO ?aR (fun _ hk => hk) (fun _ hk => Nat.le_trans HB5.out.size hk) ?aB ?aS ?aL ?_; (case aO => exact HN1.out); (case aR => exact HF.out); (case aB => exact HB5.out); (case aS => exact HB5.out.size); (case aL => exact HLN.out); intro v3 w6 ho hb hg hat; have HN3 := Lib.hid ho; have HB6 := Lib.hid hb; clear ho hb hg hat))
  refine (T2.out _ (HG.out.step HB6.out)).mono ?_
  rintro e w7 ⟨⟨v4, rfl, hV⟩, hb1⟩
  have HV4 := Lib.hid hV
  replace HN3 := Lib.hid (Kd.N_below HN3.out hb1)
  have HB7 := Lib.hid (HB6.out.trans (hb1.mono HB6.out.size))
  clear hb1 T2 hV HB6 HN1 HF
  have hN3 : Kd.N tkK 28 w7 w.heap.size (fun k => w.heap.size ≤ k) v3 ((Tk.text (rawT (st == 1) s) :: Y).map ofK) := by rw [HWL.out]; exact HN3.out
  obtain ⟨A3, c3, rfl⟩ := Kd.N_slice hN3
  rw [List.length_map] at hN3 ⊢
  have HV3 := Lib.hid (Kd.V_mono (Kd.V_bound (Kd.N_V (base' := w7.heap.size) hN3)) (ok' := fun k => w.heap.size ≤ k ∧ k < w7.heap.size) (fun k hk => hk))
  have J1 := Lib.hid (JN.out A3 c3 w7 w.heap.size HB7.out.size HV3.out)
  clear hN3 JN
  generalize (Tk.text (rawT (st == 1) s) :: Y).length = m3 at J1 ⊢
  go_wp2_with fail
  refine J1.out.mono ?_
  rintro e w8 ⟨⟨v5, rfl, hV⟩, hb1⟩
  have A1 := Lib.hid (AL.out w8 v4 v5 _ _ _ _ (Kd.V_below HV4.out hb1) hV)
  have HB8 := Lib.hid (HB7.out.trans (hb1.mono HB7.out.size))
  clear hb1 AL hV J1
  go_wp2_with fail
  refine A1.out.mono ?_
  rintro e w9 ⟨rfl, hb1⟩
  have HB9 := Lib.hid (HB8.out.trans (hb1.mono HB8.out.size))
  clear hb1 A1
  go_wp2_with fail
  go_ret
  exact ⟨rfl, HB9.out⟩
set_option maxRecDepth 100000 in
set_option maxHeartbeats 4000000 in
theorem safeRaw_no (s r name : List UInt8) (k : Int) (st : Nat) (hk0 : 0 ≤ k) (hk1 : k ≤ 255) (hst : (st : Int) = 1 + k % 4) (hs : s.length ≤ 300) (hr : r.length ≤ 300) (hn : name.length ≤ 60) (h : safL (st : Int) s = false) (w : World) (hGl : Glob w) :
    Calls Tryz.prog 4 #[.string (B s), .string (B r), .int .u8 k, .string (B name)] w fun e w' => e = .returned (.bool true) ∧ Below w.heap.size w w' := by
  have HG := Lib.hid hGl
  have AW := Lib.hid (fun W hG => awake25_any W hG hG.toE)
  have SF : Hid (∀ W, Glob W → Calls Tryz.prog 11 #[.int .i64 (st : Int), .string (B s)] W fun e w' => e = .returned (.bool false) ∧ Below W.heap.size W w') := Lib.hid (fun W hG => by rw [← h]; exact safeN_c s (st : Int) (by omega) W hG hG.toE)
  obtain ⟨a, ha⟩ : ∃ x, B s = x := ⟨_, rfl⟩
  obtain ⟨b, hb⟩ : ∃ x, B r = x := ⟨_, rfl⟩
  have za : a.size ≤ 300 := by rw [← ha, size_B]; exact hs
  have zb : b.size ≤ 300 := by rw [← hb, size_B]; exact hr
  rw [ha] at SF ⊢
  rw [hb]
  obtain ⟨nb, hnb⟩ : ∃ x, B name = x := ⟨_, rfl⟩
  have zn : nb.size ≤ 60 := by rw [← hnb, size_B]; exact hn
  rw [hnb]
  have q4 : decide (60 < nb.size) = false := decide_eq_false (by omega)
  obtain ⟨S1, hS1⟩ : ∃ x, (st : Int) = x := ⟨_, rfl⟩
  rw [hS1] at SF hst
  have m1 : k.tmod 4 = S1 - 1 := by rw [Int.tmod_eq_emod_of_nonneg hk0]; omega
  have m2 : k % 4 = S1 - 1 := by omega
  have m3 : IntKind.i64.wrap (1 + (S1 - 1)) = S1 := by simp [IntKind.wrap_i64]; omega
  have q1 : decide (300 < a.size) = false := decide_eq_false (by omega)
  have q2 : decide (300 < b.size) = false := decide_eq_false (by omega)
  clear hs hr h hGl ha hb hS1 hn hnb hst
  go_enter Tryz.func4, Tryz.ntmps4
  go_wp2_with fail
  refine (AW.out _ HG.out).mono ?_
  rintro e w1 ⟨rfl, hb1⟩
  have HB := Lib.hid hb1
  clear hb1 AW
  go_wp2_with fail
  refine (SF.out _ (HG.out.step HB.out)).mono ?_
  rintro e w2 ⟨rfl, hb1⟩
  replace HB := Lib.hid (HB.out.trans (hb1.mono HB.out.size))
  clear hb1 SF
  go_wp2_with fail
  go_ret
  exact ⟨rfl, HB.out⟩
set_option maxRecDepth 100000 in
set_option maxHeartbeats 4000000 in
theorem safeRaw_big (a b nb : ByteArray) (k : Int) (hk0 : 0 ≤ k) (hk1 : k ≤ 255) (h : 300 < a.size ∨ 300 < b.size ∨ 60 < nb.size) (w : World) (hGl : Glob w) :
    Calls Tryz.prog 4 #[.string a, .string b, .int .u8 k, .string nb] w fun e w' => e = .returned (.bool true) ∧ Below w.heap.size w w' := by
  have HG := Lib.hid hGl
  have AW := Lib.hid (fun W hG => awake25_any W hG hG.toE)
  clear hGl
  obtain ⟨S1, hS1⟩ : ∃ S1 : Int, S1 = 1 + k % 4 := ⟨_, rfl⟩
  have m1 : k.tmod 4 = S1 - 1 := by rw [Int.tmod_eq_emod_of_nonneg hk0]; omega
  have m2 : k % 4 = S1 - 1 := by omega
  have m3 : IntKind.i64.wrap (1 + (S1 - 1)) = S1 := by simp [IntKind.wrap_i64]; omega
  clear hS1
  by_cases h1 : 300 < a.size
  · have q1 : decide (300 < a.size) = true := decide_eq_true h1
    have q1' : decide ((300 : Int) < (a.size : Int)) = true := decide_eq_true (by omega)
    clear h
    go_enter Tryz.func4, Tryz.ntmps4
    go_wp2_with fail
    refine (AW.out _ HG.out).mono ?_
    rintro e w1 ⟨rfl, hb1⟩
    go_wp2_with fail
    go_ret
    exact ⟨rfl, hb1⟩
  · have q1 : decide (300 < a.size) = false := decide_eq_false h1
    have q1' : decide ((300 : Int) < (a.size : Int)) = false := decide_eq_false (by omega)
    by_cases h2 : 300 < b.size
    · have q2 : decide (300 < b.size) = true := decide_eq_true h2
      have q2' : decide ((300 : Int) < (b.size : Int)) = true := decide_eq_true (by omega)
      clear h
      go_enter Tryz.func4, Tryz.ntmps4
      go_wp2_with fail
      refine (AW.out _ HG.out).mono ?_
      rintro e w1 ⟨rfl, hb1⟩
      go_wp2_with fail
      go_ret
      exact ⟨rfl, hb1⟩
    · have q2 : decide (300 < b.size) = false := decide_eq_false h2
      have q2' : decide ((300 : Int) < (b.size : Int)) = false := decide_eq_false (by omega)
      have q3 : decide (60 < nb.size) = true := decide_eq_true (by omega)
      have q3' : decide ((60 : Int) < (nb.size : Int)) = true := decide_eq_true (by omega)
      clear h
      go_enter Tryz.func4, Tryz.ntmps4
      go_wp2_with fail
      refine (AW.out _ HG.out).mono ?_
      rintro e w1 ⟨rfl, hb1⟩
      go_wp2_with fail
      go_ret
      exact ⟨rfl, hb1⟩
theorem SafeRaw_law (a0 a1 : ByteArray) (a2 : Int) (a3 : ByteArray) (w : World) (_ : a0.size ≤ 140737488351232) (_ : a1.size ≤ 140737488351232) (h2 : (Lit.int .u8 a2).wf = true) (_ : a3.size ≤ 140737488351232) (hGl : Glob w) :
    Calls Tryz.prog 4 #[.string a0, .string a1, .int .u8 a2, .string a3] w fun e w' => e = .returned (.bool true) ∧ Below w.heap.size w w' := by
  have hw : IntKind.u8.min ≤ a2 ∧ a2 ≤ IntKind.u8.max := by simpa [Lit.wf] using h2
  have k0 : 0 ≤ a2 := Int.le_trans (by decide) hw.1
  have k1 : a2 ≤ 255 := Int.le_trans hw.2 (by decide)
  by_cases hb : 300 < a0.size ∨ 300 < a1.size ∨ 60 < a3.size
  · exact safeRaw_big a0 a1 a3 a2 k0 k1 hb w hGl
  · obtain ⟨s, rfl⟩ := exists_B a0
    obtain ⟨r, rfl⟩ := exists_B a1
    obtain ⟨name, rfl⟩ := exists_B a3
    rw [size_B, size_B, size_B] at hb
    obtain ⟨st, hst⟩ : ∃ st : Nat, (st : Int) = 1 + a2 % 4 := ⟨(1 + a2 % 4).toNat, by omega⟩
    cases h : safL (st : Int) s with
    | true => exact safeRaw_yes s r name a2 st k0 k1 hst (by omega) (by omega) (by omega) h w hGl
    | false => exact safeRaw_no s r name a2 st k0 k1 hst (by omega) (by omega) (by omega) h w hGl
end Go.Proofs.YtbdcghbafopjjaaGreatDoor.Hand
end
