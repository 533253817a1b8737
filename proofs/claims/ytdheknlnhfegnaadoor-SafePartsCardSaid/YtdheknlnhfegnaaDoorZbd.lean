/-
  Plain: behind a text whose references all end another text is read by itself.
  The law SafeParts walked.
-/
import Derived.Test.YtdheknlnhfegnaaDoorZbc
namespace Go.Proofs.YtdheknlnhfegnaaDoor.Hand
open Go Go.RowKit Go.Proofs.YtdheknlnhfegnaaDoor.Pl Go.Proofs.YtdheknlnhfegnaaDoor.Pb

theorem dg59 (six : Bool) : isDg six 59 = false := by cases six <;> decide
theorem digs_split (six : Bool) (q : List UInt8) : q = digs six q ++ q.drop (digs six q).length := by
  unfold digs
  conv => lhs; rw [← List.takeWhile_append_dropWhile (p := isDg six) (l := q)]
  congr 1
  conv => rhs; arg 2; rw [← List.takeWhile_append_dropWhile (p := isDg six) (l := q)]
  rw [List.drop_left]
theorem numQ_app {six : Bool} {q : List UInt8} {m k : Nat} (b : List UInt8) (h : numQ six q = some (m, k)) (h59 : q[k - 1]? = some 59) : numQ six (q ++ b) = some (m, k) := by
  have hle := numQ_le h
  unfold numQ at h
  simp only at h
  split at h
  · cases h
  · rename_i hv
    obtain ⟨e1, e2⟩ := Prod.mk.inj (Option.some.inj h)
    have hs := digs_split six q
    have hb : begR (q.drop (digs six q).length) [59] = true := by
      rcases Bool.eq_false_or_eq_true (begR (q.drop (digs six q).length) [59]) with h' | h'
      · exact h'
      · exfalso
        rw [h', if_neg (by decide), Nat.add_zero] at e2
        have : k - 1 < (digs six q).length := by omega
        rw [hs, List.getElem?_append_left this, List.getElem?_eq_getElem this] at h59
        have hm := List.getElem_mem this
        have hd : isDg six ((digs six q)[k - 1]'this) = true := List.all_eq_true.1 (by unfold digs; exact List.all_takeWhile) _ hm
        rw [Option.some.inj h59, dg59] at hd
        cases hd
    have hd : q.drop (digs six q).length = 59 :: q.drop ((digs six q).length + 1) := by
      cases hq : q.drop (digs six q).length with
      | nil => rw [hq] at hb; cases hb
      | cons c r =>
        rw [hq] at hb
        have hc : ∀ n : Fin 256, (lowB (UInt8.ofNat n.val) == 59) = (UInt8.ofNat n.val == 59) := by decide +kernel
        have g := hc ⟨c.toNat, c.toNat_lt⟩
        simp only [UInt8.ofNat_toNat] at g
        simp only [begR, Bool.and_true] at hb
        rw [g, beq_iff_eq] at hb
        rw [hb, ← List.drop_drop, hq]; rfl
    have hall : ∀ c ∈ digs six q, isDg six c = true := fun c hc => List.all_eq_true.1 (by unfold digs; exact List.all_takeWhile) _ hc
    have hdg : digs six (q ++ b) = digs six q := by
      conv => lhs; rw [hs, hd, List.append_assoc, List.cons_append]
      unfold digs at hall ⊢
      rw [tw_app _ _ _ hall, List.takeWhile_cons, if_neg (by rw [dg59]; decide), List.append_nil]
    unfold numQ
    simp only [hdg]
    have hle2 := digs_le six q
    rw [if_neg hv, List.drop_append_of_le_length hle2, hd]
    rw [hd] at e2
    rw [← e1, ← e2]; simp [begR]
theorem begR_app1 {d : UInt8} {r b : List UInt8} (h : r ≠ []) : begR (r ++ b) [d] = begR r [d] := by
  cases r with
  | nil => exact absurd rfl h
  | cons c r => simp [begR]
theorem numL_app {r : List UInt8} {m k : Nat} (b : List UInt8) (h : numL r = some (m, k)) (h59 : r[k - 1]? = some 59) : numL (r ++ b) = some (m, k) := by
  unfold numL at h ⊢
  split at h
  · rename_i h1
    have l1 := begR_one h1
    have hr : r ≠ [] := List.length_pos_iff.1 l1
    rw [begR_app1 hr, if_pos h1]
    have hr1 : r.drop 1 ≠ [] := by
      intro e
      rw [e] at h
      have h0 : begR ([] : List UInt8) [120] = false := rfl
      rw [h0, if_neg (by decide)] at h
      cases h
    rw [List.drop_append_of_le_length l1, begR_app1 hr1]
    split at h
    · rename_i h2
      rw [if_pos h2]
      have l2 := begR_one h2
      rw [List.length_drop] at l2
      obtain ⟨⟨a, c⟩, hx, e⟩ := Option.map_eq_some_iff.1 h
      obtain ⟨h3, h4⟩ := Prod.mk.inj e
      simp only at h3 h4
      have hl := numQ_le hx
      have := numQ_app b hx (by rw [List.getElem?_drop, ← h59]; congr 1; omega)
      rw [List.drop_append_of_le_length (by omega), this, Option.map_some]
      simp only; rw [h3, h4]
    · rename_i h2
      rw [if_neg h2]
      obtain ⟨⟨a, c⟩, hx, e⟩ := Option.map_eq_some_iff.1 h
      obtain ⟨h3, h4⟩ := Prod.mk.inj e
      simp only at h3 h4
      have hl := numQ_le hx
      have := numQ_app b hx (by rw [List.getElem?_drop, ← h59]; congr 1; omega)
      rw [this, Option.map_some]
      simp only; rw [h3, h4]
  · cases h
theorem refN_app {attr : Bool} {r : List UInt8} (b : List UInt8) (h59 : (38 :: r)[(refN attr (38 :: r)).2 - 1]? = some 59) : refN attr (38 :: (r ++ b)) = refN attr (38 :: r) := by
  cases hn : numL r with
  | some mk =>
    obtain ⟨m, k⟩ := mk
    have hl := numL_le hn
    have e : refN attr (38 :: r) = ((fixB m).data.toList, 1 + k) := by unfold refN; rw [List.drop_succ_cons, List.drop_zero, hn]
    rw [e] at h59 ⊢
    simp only at h59
    have := numL_app b hn (by rw [show 1 + k - 1 = (k - 1) + 1 by omega, List.getElem?_cons_succ] at h59; exact h59)
    unfold refN
    rw [List.drop_succ_cons, List.drop_zero, this]
  | none =>
    obtain ⟨k, hk⟩ : ∃ k, lngN r = k := ⟨_, rfl⟩
    have e2 : (refN attr (38 :: r)).2 = 1 + k := by
      unfold refN
      rw [List.drop_succ_cons, List.drop_zero, hn]
      simp only [hk]
      split <;> rfl
    rw [e2] at h59
    have hk0 : k ≠ 0 := by
      rintro rfl
      exact absurd h59 (by simp)
    have hsp := lngN_spec r
    rw [hk] at hsp
    have hle := hsp.le
    have hkey : isKey namesL (r.take k) := by
      rcases hsp.key with h | h
      · exact absurd h hk0
      · exact h
    have hkl : (r.take k).length = k := by rw [List.length_take]; omega
    have hlast : (r.take k).getLast? = some 59 := by
      rw [List.getLast?_eq_getElem?, hkl, List.getElem?_take_of_lt (by omega), ← h59, show 1 + k - 1 = (k - 1) + 1 by omega, List.getElem?_cons_succ]
    obtain ⟨w, hw⟩ : ∃ w, r.take k = w ++ [59] := by
      have hne : r.take k ≠ [] := by intro e; rw [e] at hkl; exact hk0 hkl.symm
      refine ⟨(r.take k).dropLast, ?_⟩
      have := List.dropLast_concat_getLast hne
      rw [← this]
      rw [List.getLast?_eq_some_getLast hne] at hlast
      rw [Option.some.inj hlast]; simp
    rw [hw] at hkey
    have hr : r = w ++ 59 :: r.drop k := by
      conv => lhs; rw [← List.take_append_drop k r, hw]
      simp
    rw [hr, List.append_assoc, List.cons_append, refN_semi _ hkey, refN_semi _ hkey]
theorem whL_append {attr : Bool} (b : List UInt8) : ∀ n (a : List UInt8), a.length ≤ n → whL attr a = true → whL attr (a ++ b) = whL attr b := by
  intro n
  induction n with
  | zero => intro a h _; obtain rfl := List.eq_nil_of_length_eq_zero (Nat.le_zero.1 h); rfl
  | succ n ih =>
    intro a h hw
    cases a with
    | nil => rfl
    | cons c r =>
      simp only [List.length_cons] at h
      by_cases hc : c = 38
      · subst hc
        have hb := refN_bd attr 38 r
        rw [whL_amp, Bool.and_eq_true, beq_iff_eq] at hw
        obtain ⟨h1, h2⟩ := hw
        have e := refN_app b h1
        simp only [List.length_cons] at hb
        rw [List.cons_append, whL_amp, e, ← List.cons_append, List.getElem?_append_left (by simp; omega), h1, List.drop_append_of_le_length (by simp; omega)]
        simp only [beq_self_eq_true, Bool.true_and]
        exact ih _ (by rw [List.length_drop, List.length_cons]; omega) h2
      · rw [whL_ne attr r hc] at hw
        rw [List.cons_append, whL_ne attr _ hc]
        exact ih r (by omega) hw
theorem rdL_append {attr : Bool} (b : List UInt8) : ∀ n (a : List UInt8), a.length ≤ n → whL attr a = true → rdL attr (a ++ b) = rdL attr a ++ rdL attr b := by
  intro n
  induction n with
  | zero => intro a h _; obtain rfl := List.eq_nil_of_length_eq_zero (Nat.le_zero.1 h); rfl
  | succ n ih =>
    intro a h hw
    cases a with
    | nil => rfl
    | cons c r =>
      simp only [List.length_cons] at h
      by_cases hc : c = 38
      · subst hc
        have hb := refN_bd attr 38 r
        rw [whL_amp, Bool.and_eq_true, beq_iff_eq] at hw
        obtain ⟨h1, h2⟩ := hw
        have e := refN_app b h1
        simp only [List.length_cons] at hb
        rw [List.cons_append, rdL_amp, rdL_amp attr r, e, ← List.cons_append, List.drop_append_of_le_length (by simp; omega), ih _ (by rw [List.length_drop, List.length_cons]; omega) h2, List.append_assoc]
      · rw [whL_ne attr r hc] at hw
        rw [List.cons_append, rdL_ne attr _ hc, rdL_ne attr r hc, ih r (by omega) hw]; rfl
end Go.Proofs.YtdheknlnhfegnaaDoor.Hand

namespace Go.Proofs.YtdheknlnhfegnaaDoor.Hand
open Go Go.RowKit Go.Proofs.YtdheknlnhfegnaaDoor.Pl Go.Proofs.YtdheknlnhfegnaaDoor.Pb

theorem hasB_append (a b : List UInt8) (c : UInt8) : hasB (a ++ b) c = (hasB a c || hasB b c) := by unfold hasB; simp
theorem safL_append {st : Int} {a b : List UInt8} (h : safL st a = true) : safL st (a ++ b) = safL st b := by
  unfold safL at h ⊢
  rw [Bool.and_eq_true, Bool.not_eq_true'] at h
  obtain ⟨h13, h⟩ := h
  rw [hasB_append, h13, Bool.false_or]
  congr 1
  split at h
  · rename_i g; rw [if_pos g, if_pos g]
    rw [Bool.and_eq_true, Bool.not_eq_true'] at h
    rw [hasB_append, h.1, Bool.false_or, whL_append b _ a (Nat.le_refl _) h.2]
  · rename_i g; rw [if_neg g, if_neg g]
    split at h
    · rename_i g; rw [if_pos g, if_pos g]
      rw [Bool.not_eq_true'] at h
      rw [hasB_append, h, Bool.false_or]
    · rename_i g; rw [if_neg g, if_neg g]
      split at h
      · rename_i g; rw [if_pos g, if_pos g]
      · rename_i g; rw [if_neg g, if_neg g]
        split at h
        · rename_i g; rw [if_pos g, if_pos g]
          rw [Bool.and_eq_true, Bool.not_eq_true'] at h
          rw [hasB_append, h.1, Bool.false_or, whL_append b _ a (Nat.le_refl _) h.2]
        · rename_i g; rw [if_neg g, if_neg g]
          split at h
          · rename_i g; rw [if_pos g, if_pos g]
            rw [Bool.and_eq_true, Bool.not_eq_true'] at h
            rw [hasB_append, h.1, Bool.false_or, whL_append b _ a (Nat.le_refl _) h.2]
          · cases h
set_option maxRecDepth 100000 in
set_option maxHeartbeats 4000000 in
theorem SafeParts_law (st : Int) (a1 b1 : ByteArray) (w : World) (_hk : (Lit.int .i64 st).wf = true) (h0 : a1.size ≤ 140737488351232) (h0b : b1.size ≤ 140737488351232) (hGl : Glob w) (hGE : GlobE w) :
    Calls Tryd.prog 4 #[.int .i64 st, .string a1, .string b1] w fun e w' => e = .returned (.bool true) ∧ Below w.heap.size w w' := by
  clear _hk
  have HG := Lib.hid hGl
  have HE := Lib.hid hGE
  by_cases hb : 300 < a1.size
  · have q : decide ((300 : Int) < (a1.size : Int)) = true := by simp; omega
    clear hb hGl hGE
    go_enter Tryd.func4, Tryd.ntmps4
    go_wp2_with fail
    refine (awake25_any _ HG.out HE.out).mono ?_
    rintro e w1 ⟨rfl, hb⟩
    go_wp2_with fail
    go_ret
    exact ⟨rfl, hb⟩
  have q : decide ((300 : Int) < (a1.size : Int)) = false := by simp; omega
  by_cases hb2 : 300 < b1.size
  · have q2 : decide ((300 : Int) < (b1.size : Int)) = true := by simp; omega
    clear hb hb2 hGl hGE
    go_enter Tryd.func4, Tryd.ntmps4
    go_wp2_with fail
    refine (awake25_any _ HG.out HE.out).mono ?_
    rintro e w1 ⟨rfl, hb⟩
    go_wp2_with fail
    go_ret
    exact ⟨rfl, hb⟩
  have q2 : decide ((300 : Int) < (b1.size : Int)) = false := by simp; omega
  obtain ⟨s, rfl⟩ := exists_B a1
  obtain ⟨t, rfl⟩ := exists_B b1
  rw [size_B] at hb hb2
  have z1 : (B s).size ≤ 300 := by rw [size_B]; omega
  have z2 : (B t).size ≤ 300 := by rw [size_B]; omega
  have SA := fun W hG hE => safeN_c s st (by omega) W hG hE
  have SB := fun W hG hE => safeN_c t st (by omega) W hG hE
  have SC := fun W hG hE => safeN_c (s ++ t) st (by rw [List.length_append]; omega) W hG hE
  rw [← B_append] at SC
  have hap := safL_append (st := st) (a := s) (b := t)
  obtain ⟨x, hx⟩ : ∃ x, safL st s = x := ⟨_, rfl⟩
  obtain ⟨y, hy⟩ : ∃ x, safL st t = x := ⟨_, rfl⟩
  obtain ⟨v, hv⟩ : ∃ x, safL st (s ++ t) = x := ⟨_, rfl⟩
  rw [hx, hy, hv] at hap
  rw [hx] at SA
  rw [hy] at SB
  rw [hv] at SC
  obtain ⟨a, ha⟩ : ∃ a, B s = a := ⟨_, rfl⟩
  obtain ⟨b, hb'⟩ : ∃ a, B t = a := ⟨_, rfl⟩
  rw [ha] at SA SC z1 q ⊢
  rw [hb'] at SB SC z2 q2 ⊢
  have HSA := Lib.hid SA
  have HSB := Lib.hid SB
  have HSC := Lib.hid SC
  clear hx hy hv ha hb' hb hb2 h0 h0b hGl hGE SA SB SC
  cases x with
  | false =>
    clear hap
    go_enter Tryd.func4, Tryd.ntmps4
    go_wp2_with fail
    refine (awake25_any _ HG.out HE.out).mono ?_
    rintro e w1 ⟨rfl, hb⟩
    have HW := Lib.hid hb
    clear hb
    go_wp2_with fail
    refine (HSA.out _ (HG.out.step HW.out) (HE.out.step HW.out)).mono ?_
    rintro e w2 ⟨rfl, hb⟩
    replace HW := Lib.hid (HW.out.trans (hb.mono HW.out.size))
    clear hb
    go_wp2_with fail
    go_ret
    exact ⟨rfl, HW.out⟩
  | true =>
    obtain rfl : v = y := hap rfl
    clear hap
    have q3 : (v == v) = true := beq_self_eq_true _
    go_enter Tryd.func4, Tryd.ntmps4
    go_wp2_with fail
    refine (awake25_any _ HG.out HE.out).mono ?_
    rintro e w1 ⟨rfl, hb⟩
    have HW := Lib.hid hb
    clear hb
    go_wp2_with fail
    refine (HSA.out _ (HG.out.step HW.out) (HE.out.step HW.out)).mono ?_
    rintro e w2 ⟨rfl, hb⟩
    replace HW := Lib.hid (HW.out.trans (hb.mono HW.out.size))
    clear hb
    go_wp2_with fail
    refine (HSC.out _ (HG.out.step HW.out) (HE.out.step HW.out)).mono ?_
    rintro e w3 ⟨rfl, hb⟩
    replace HW := Lib.hid (HW.out.trans (hb.mono HW.out.size))
    clear hb
    go_wp2_with fail
    refine (HSB.out _ (HG.out.step HW.out) (HE.out.step HW.out)).mono ?_
    rintro e w4 ⟨rfl, hb⟩
    replace HW := Lib.hid (HW.out.trans (hb.mono HW.out.size))
    clear hb
    go_wp2_with fail
    go_ret
    exact ⟨by simp, HW.out⟩
end Go.Proofs.YtdheknlnhfegnaaDoor.Hand
