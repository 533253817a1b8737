/-
  Plain: a text of just signs doesn't end within the mark; unlike texts are written unlike; what has no sign to be written otherwise stays.
-/
import Derived.Test.YtajfpegacbohdaaDoorPlE
import Derived.Test.YtajfpegacbohdaaDoorPlU
namespace Go.Proofs.YtajfpegacbohdaaDoor.Pl
open Go

theorem firstN_in (c : Nat) (d e f : Option Nat) (h : (firstN c d e f).2 = true) :
    (2 ≤ (firstN c d e f).1 → ∃ x, d = some x ∧ x ≤ 191) ∧ (3 ≤ (firstN c d e f).1 → ∃ x, e = some x ∧ x ≤ 191) ∧ (4 ≤ (firstN c d e f).1 → ∃ x, f = some x ∧ x ≤ 191) := by
  have ht : (tailN c).2.1 ≤ 191 := by
    by_cases h1 : c < 194 ∨ 244 < c
    · rw [(tail_1 h1).hi_]; omega
    · by_cases h2 : c ≤ 223
      · rw [(tail_2 (by omega)).hi_]; omega
      · by_cases h3 : c ≤ 239
        · obtain ⟨lo, hi, t, _, g, _⟩ := tail_3 (c := c) (by omega)
          rw [t.hi_]; exact g
        · obtain ⟨lo, hi, t, _, g, _⟩ := tail_4 (c := c) (by omega)
          rw [t.hi_]; exact g
  have hd : inO (tailN c).1 (tailN c).2.1 d → ∃ x, d = some x ∧ x ≤ 191 := fun h => by
    obtain ⟨x, h1, h2, h3⟩ := (inO_iff _ _ d).1 h
    exact ⟨x, h1, by omega⟩
  have hc : ∀ o, contO o → ∃ x, o = some x ∧ x ≤ 191 := fun o h => by
    obtain ⟨x, h1, h2, h3⟩ := (contO_iff o).1 h
    exact ⟨x, h1, by omega⟩
  revert h
  unfold firstN
  split
  · simp
  · split
    · simp
    · split
      · simp
      · rename_i h1
        have h1' := hd (Decidable.not_not.1 h1)
        split
        · intro _; exact ⟨fun _ => h1', by simp, by simp⟩
        · split
          · simp
          · rename_i h2
            have h2' := hc _ (Decidable.not_not.1 h2)
            split
            · intro _; exact ⟨fun _ => h1', fun _ => h2', by simp⟩
            · split
              · rename_i h3
                intro _; exact ⟨fun _ => h1', fun _ => h2', fun _ => hc _ h3⟩
              · simp
theorem firstU_in {c : UInt8} {r : List UInt8} (h : (firstU (c :: r)).2 = true) (j : Nat) (h1 : 1 ≤ j) (h2 : j < (firstU (c :: r)).1) : ∃ x, (c :: r)[j]? = some x ∧ x.toNat ≤ 191 := by
  obtain ⟨g1, g2, g3⟩ := firstN_in _ _ _ _ h
  have h4 := (firstU_pos c r).2.2
  have key : ∀ k, (∃ x, byteO r k = some x ∧ x ≤ 191) → ∃ x, (c :: r)[k + 1]? = some x ∧ x.toNat ≤ 191 := by
    rintro k ⟨x, hx, hl⟩
    unfold byteO at hx
    rw [List.getElem?_cons_succ]
    cases hq : r[k]? with
    | none => rw [hq] at hx; cases hx
    | some y => rw [hq] at hx; cases hx; exact ⟨y, rfl, hl⟩
  have h2' : j < (firstN c.toNat (byteO r 0) (byteO r 1) (byteO r 2)).1 := h2
  rcases (show j = 1 ∨ j = 2 ∨ j = 3 by omega) with rfl | rfl | rfl
  · exact key 0 (g1 (by omega))
  · exact key 1 (g2 (by omega))
  · exact key 2 (g3 (by omega))
theorem right_tail (t : List UInt8) (ht : ∃ q, t = 239 :: q) (hr : rightL t = false) : ∀ n (p : List UInt8), p.length ≤ n → rightL (p ++ t) = false := by
  intro n
  induction n with
  | zero => intro p h; obtain rfl := List.eq_nil_of_length_eq_zero (Nat.le_zero.1 h); exact hr
  | succ n ih =>
    intro p h
    cases p with
    | nil => exact hr
    | cons c p =>
      rw [List.cons_append, rightL_cons]
      cases hF : (firstU (c :: (p ++ t))).2 with
      | false => rfl
      | true =>
        rw [Bool.true_and]
        by_cases hn : (firstU (c :: (p ++ t))).1 ≤ (c :: p).length
        · rw [← List.cons_append, List.drop_append_of_le_length (by rw [List.cons_append]; exact hn)]
          apply ih
          have := (firstU_pos c (p ++ t)).1
          rw [List.length_drop]
          simp only [List.length_cons] at h hn ⊢
          rw [List.cons_append]
          omega
        · obtain ⟨x, hx, hl⟩ := firstU_in hF (p.length + 1) (by omega) (by simp only [List.length_cons] at hn; omega)
          obtain ⟨q, rfl⟩ := ht
          rw [List.getElem?_cons_succ, List.getElem?_append_right (Nat.le_refl _), Nat.sub_self] at hx
          cases hx
          exact absurd hl (by decide)
theorem right_noTail {a : List UInt8} (h : rightL a = true) : noTail a := by
  constructor
  · intro e
    have : ∃ p, a = p ++ [239] := by
      refine ⟨a.dropLast, ?_⟩
      have hne : a ≠ [] := by rintro rfl; cases e
      rw [List.getLast?_eq_some_getLast hne] at e
      have := List.dropLast_concat_getLast hne
      rw [Option.some.inj e] at this
      exact this.symm
    obtain ⟨p, rfl⟩ := this
    rw [right_tail [239] ⟨_, rfl⟩ (by decide) _ p (Nat.le_refl _)] at h
    cases h
  · rintro p rfl
    rw [right_tail [239, 187] ⟨_, rfl⟩ (by decide) _ p (Nat.le_refl _)] at h
    cases h
theorem enc_append {a : List UInt8} (k : Int) (b : List UInt8) (hk : 0 ≤ k ∧ k ≤ 2) (h : rightL a = true) (hne : a ≠ []) : encL k (a ++ b) = encL k a ++ encL 0 b := by
  have e := esc_append _ a b (Nat.le_refl _) (right_noTail h)
  have e0 : encL 0 b = escL b := rfl
  rw [e0]
  rcases (show k = 0 ∨ k = 1 ∨ k = 2 by omega) with rfl | rfl | rfl
  · exact e
  · exact e
  · cases a with
    | nil => exact absurd rfl hne
    | cons c r =>
      have e2 : ∀ x : List UInt8, encL 2 x = if x.head? = some 10 then 10 :: escL x else escL x := fun _ => rfl
      rw [e2, e2, e, List.cons_append, List.head?_cons, List.head?_cons]
      split <;> rfl

/-! ### unlike texts -/
def unW (r : List UInt8) : Nat × List UInt8 :=
  if [97, 109, 112, 59].isPrefixOf r = true then (4, [38]) else if [108, 116, 59].isPrefixOf r = true then (3, [60]) else if [103, 116, 59].isPrefixOf r = true then (3, [62])
  else if [113, 117, 111, 116, 59].isPrefixOf r = true then (5, [34]) else if [35, 51, 57, 59].isPrefixOf r = true then (4, [39]) else if [35, 49, 51, 59].isPrefixOf r = true then (4, [13])
  else (7, [239, 187, 191])
def unE : Nat → List UInt8 → List UInt8
  | _, [] => []
  | k + 1, _ :: r => unE k r
  | 0, c :: r => if c = 38 then (unW r).2 ++ unE (unW r).1 r else c :: unE 0 r
theorem un_esc : ∀ n (s : List UInt8), s.length ≤ n → 0 ∉ s → unE 0 (escL s) = s := by
  intro n
  induction n with
  | zero => intro s h _; obtain rfl := List.eq_nil_of_length_eq_zero (Nat.le_zero.1 h); rfl
  | succ n ih =>
    intro s h h0
    cases s with
    | nil => rfl
    | cons c r =>
      have hr := ih r (by simp at h; omega) (fun e => h0 (List.mem_cons_of_mem _ e))
      refine esc_cases c r (fun l => unE 0 l = c :: r) ?_ ?_ ?_ ?_ ?_ ?_ ?_ ?_ ?_
      · rintro rfl; simp [wAmp, unE, unW, hr]
      · rintro rfl; simp [wLt, unE, unW, hr]
      · rintro rfl; simp [wGt, unE, unW, hr]
      · rintro rfl; simp [wQuot, unE, unW, hr]
      · rintro rfl; simp [wApos, unE, unW, hr]
      · rintro rfl; simp [wCr, unE, unW, hr]
      · rintro rfl; exact absurd (List.mem_cons_self ..) h0
      · rintro q rfl rfl
        have hq := ih q (by simp at h; omega) (fun e => h0 (by simp [e]))
        simp [wMark, unE, unW, hq]
      · intro h38 _ _ _ _ _ _ _
        rw [unE, if_neg h38, hr]
theorem enc_inj {a b : List UInt8} (k : Int) (hk : 0 ≤ k ∧ k ≤ 2) (ha : 0 ∉ a) (hb : 0 ∉ b) : encL k a = encL k b ↔ a = b := by
  constructor
  · have ua := un_esc _ a (Nat.le_refl _) ha
    have ub := un_esc _ b (Nat.le_refl _) hb
    have inj : escL a = escL b → a = b := fun e => by rw [← ua, e, ub]
    have hd : ∀ {x : List UInt8} {X}, unE 0 (escL x) = x → escL x = 10 :: X → x.head? = some 10 := fun h e => by
      rw [e] at h; rw [← h]; rfl
    unfold encL
    by_cases h01 : k = 0 ∨ k = 1
    · rw [if_pos h01, if_pos h01]; exact inj
    · have h2 : k = 2 := by omega
      rw [if_neg h01, if_neg h01, if_pos h2, if_pos h2]
      split
      · split
        · intro e; exact inj (List.cons.inj e).2
        · rename_i h; intro e; exact absurd (hd ub e.symm) h
      · split
        · rename_i h _; intro e; exact absurd (hd ua e) h
        · exact inj
  · rintro rfl; rfl
def plainC (c : UInt8) : Prop := c.toNat < 128 ∧ c ≠ 38 ∧ c ≠ 60 ∧ c ≠ 62 ∧ c ≠ 34 ∧ c ≠ 39 ∧ c ≠ 13 ∧ c ≠ 0
theorem esc_plain : ∀ p : List UInt8, (∀ c ∈ p, plainC c) → escL p = p := by
  intro p
  induction p with
  | nil => intro _; rfl
  | cons c r ih =>
    intro h
    obtain ⟨h1, h2, h3, h4, h5, h6, h7, h8⟩ := h c (by simp)
    have h9 : c ≠ 239 := by rintro rfl; exact absurd h1 (by decide)
    have := ih fun x hx => h x (by simp [hx])
    unfold escL at *
    rw [replS_none (by simp [escF, h2, h3, h4, h5, h6, h7, h8, h9]), this]
end Go.Proofs.YtajfpegacbohdaaDoor.Pl
