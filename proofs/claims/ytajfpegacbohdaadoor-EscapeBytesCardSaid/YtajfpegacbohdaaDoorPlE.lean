/-
  Plain: bytes replaced by whole words (replS), a text written as markup (escL, encL), and what is told of it: no brackets, each ampersand closed, texts behind texts, unlike texts.
-/
namespace Go.Proofs.YtajfpegacbohdaaDoor.Pl

/-- each place at which a word stands: its first byte c, and the bytes t behind it (f c = (t, v)), is written v -/
def replS (f : UInt8 → Option (List UInt8 × List UInt8)) : Nat → List UInt8 → List UInt8
  | _, [] => []
  | k + 1, _ :: r => replS f k r
  | 0, c :: r => match f c with
    | some (t, v) => if t.isPrefixOf r = true then v ++ replS f t.length r else c :: replS f 0 r
    | none => c :: replS f 0 r
theorem replS_nil (f : UInt8 → Option (List UInt8 × List UInt8)) (k : Nat) : replS f k [] = [] := by cases k <;> rfl
theorem replS_skip (f : UInt8 → Option (List UInt8 × List UInt8)) : ∀ (k : Nat) (s : List UInt8), replS f k s = replS f 0 (s.drop k) := by
  intro k
  induction k with
  | zero => intro s; rfl
  | succ k ih =>
    intro s
    cases s with
    | nil => rfl
    | cons c r => exact ih r
theorem replS_none {f : UInt8 → Option (List UInt8 × List UInt8)} {c : UInt8} (h : f c = none) (r : List UInt8) : replS f 0 (c :: r) = c :: replS f 0 r := by
  rw [replS, h]
theorem replS_hit {f : UInt8 → Option (List UInt8 × List UInt8)} {c : UInt8} {t v r : List UInt8} (h : f c = some (t, v)) (hp : t.isPrefixOf r = true) : replS f 0 (c :: r) = v ++ replS f 0 (r.drop t.length) := by
  rw [replS, h]
  simp only [hp, if_true]
  rw [replS_skip]
theorem replS_miss {f : UInt8 → Option (List UInt8 × List UInt8)} {c : UInt8} {t v r : List UInt8} (h : f c = some (t, v)) (hp : ¬ t.isPrefixOf r = true) : replS f 0 (c :: r) = c :: replS f 0 r := by
  rw [replS, h]
  simp only [hp]
  rfl

def wAmp : List UInt8 := [38, 97, 109, 112, 59]
def wLt : List UInt8 := [38, 108, 116, 59]
def wGt : List UInt8 := [38, 103, 116, 59]
def wQuot : List UInt8 := [38, 113, 117, 111, 116, 59]
def wApos : List UInt8 := [38, 35, 51, 57, 59]
def wCr : List UInt8 := [38, 35, 49, 51, 59]
def wBad : List UInt8 := [239, 191, 189]
def wMark : List UInt8 := [38, 35, 54, 53, 50, 55, 57, 59]
def escF (c : UInt8) : Option (List UInt8 × List UInt8) :=
  if c = 38 then some ([], wAmp) else if c = 60 then some ([], wLt) else if c = 62 then some ([], wGt) else if c = 34 then some ([], wQuot)
  else if c = 39 then some ([], wApos) else if c = 13 then some ([], wCr) else if c = 0 then some ([], wBad) else if c = 239 then some ([187, 191], wMark) else none
def escL (s : List UInt8) : List UInt8 := replS escF 0 s
def encL (dest : Int) (s : List UInt8) : List UInt8 :=
  if dest = 0 ∨ dest = 1 then escL s else if dest = 2 then (if s.head? = some 10 then 10 :: escL s else escL s) else []
theorem escL_nil : escL [] = [] := rfl
/-- how the text goes on at a byte -/
theorem esc_cases (c : UInt8) (r : List UInt8) (P : List UInt8 → Prop)
    (h38 : c = 38 → P (wAmp ++ escL r)) (h60 : c = 60 → P (wLt ++ escL r)) (h62 : c = 62 → P (wGt ++ escL r)) (h34 : c = 34 → P (wQuot ++ escL r)) (h39 : c = 39 → P (wApos ++ escL r))
    (h13 : c = 13 → P (wCr ++ escL r)) (h0 : c = 0 → P (wBad ++ escL r)) (hm : ∀ q, c = 239 → r = 187 :: 191 :: q → P (wMark ++ escL q))
    (hc : c ≠ 38 → c ≠ 60 → c ≠ 62 → c ≠ 34 → c ≠ 39 → c ≠ 13 → c ≠ 0 → (c = 239 → ¬ [187, 191].isPrefixOf r = true) → P (c :: escL r)) : P (escL (c :: r)) := by
  unfold escL at *
  have hit : ∀ {v : List UInt8}, escF c = some ([], v) → P (v ++ replS escF 0 r) → P (replS escF 0 (c :: r)) := by
    intro v h hp
    rw [replS_hit h rfl]; exact hp
  by_cases e1 : c = 38
  · exact hit (by simp [escF, e1]) (h38 e1)
  by_cases e2 : c = 60
  · exact hit (by simp [escF, e2]) (h60 e2)
  by_cases e3 : c = 62
  · exact hit (by simp [escF, e3]) (h62 e3)
  by_cases e4 : c = 34
  · exact hit (by simp [escF, e4]) (h34 e4)
  by_cases e5 : c = 39
  · exact hit (by simp [escF, e5]) (h39 e5)
  by_cases e6 : c = 13
  · exact hit (by simp [escF, e6]) (h13 e6)
  by_cases e7 : c = 0
  · exact hit (by simp [escF, e7]) (h0 e7)
  by_cases e8 : c = 239
  · have hf : escF c = some ([187, 191], wMark) := by simp [escF, e8]
    by_cases hp : [187, 191].isPrefixOf r = true
    · rw [replS_hit hf hp]
      obtain ⟨q, rfl⟩ := List.isPrefixOf_iff_prefix.1 hp
      exact hm q e8 rfl
    · rw [replS_miss hf hp]
      exact hc e1 e2 e3 e4 e5 e6 e7 fun _ => hp
  · rw [replS_none (by simp [escF, e1, e2, e3, e4, e5, e6, e7, e8])]
    exact hc e1 e2 e3 e4 e5 e6 e7 fun e => absurd e e8

/-! ### no brackets, each ampersand closed -/
def scanE : Bool → List UInt8 → Bool
  | o, [] => !o
  | o, c :: r => if c = 60 ∨ c = 62 ∨ c = 34 ∨ c = 39 ∨ c = 0 ∨ c = 13 then false else if c = 38 then !o && scanE true r else if c = 59 then scanE false r else scanE o r
theorem scan_plain {o : Bool} {c : UInt8} {r : List UInt8} (h1 : c ≠ 60) (h2 : c ≠ 62) (h3 : c ≠ 34) (h4 : c ≠ 39) (h5 : c ≠ 0) (h6 : c ≠ 13) (h7 : c ≠ 38) : scanE o (c :: r) = scanE (if c = 59 then false else o) r := by
  rw [scanE, if_neg (by simp [h1, h2, h3, h4, h5, h6]), if_neg h7]
  by_cases h : c = 59 <;> simp [h]
theorem scan_esc : ∀ n (s : List UInt8), s.length ≤ n → scanE false (escL s) = true := by
  intro n
  induction n with
  | zero => intro s h; obtain rfl := List.eq_nil_of_length_eq_zero (Nat.le_zero.1 h); rfl
  | succ n ih =>
    intro s h
    cases s with
    | nil => rfl
    | cons c r =>
      have hr := ih r (by simp at h; omega)
      refine esc_cases c r (fun l => scanE false l = true) ?_ ?_ ?_ ?_ ?_ ?_ ?_ ?_ ?_
      all_goals try (intro _; simp [wAmp, wLt, wGt, wQuot, wApos, wCr, wBad, scanE, hr]; done)
      · intro q _ e
        have hq := ih q (by subst e; simp at h; omega)
        simp [wMark, scanE, hq]
      · intro h38 h60 h62 h34 h39 h13 h0 _
        rw [scan_plain h60 h62 h34 h39 h0 h13 h38]
        simp [hr]
theorem scan_enc (k : Int) (s : List UInt8) : scanE false (encL k s) = true := by
  have h := scan_esc s.length s (Nat.le_refl _)
  unfold encL
  split
  · exact h
  · split
    · split
      · rw [scan_plain (by decide) (by decide) (by decide) (by decide) (by decide) (by decide) (by decide)]
        exact h
      · exact h
    · rfl
theorem esc_length : ∀ n (s : List UInt8), s.length ≤ n → (escL s).length ≤ 6 * s.length ∧ (s.head? = some 10 → (escL s).length + 5 ≤ 6 * s.length) := by
  intro n
  induction n with
  | zero => intro s h; obtain rfl := List.eq_nil_of_length_eq_zero (Nat.le_zero.1 h); simp [escL, replS]
  | succ n ih =>
    intro s h
    cases s with
    | nil => simp [escL, replS]
    | cons c r =>
      have hr := (ih r (by simp at h; omega)).1
      refine esc_cases c r (fun l => l.length ≤ 6 * (c :: r).length ∧ ((c :: r).head? = some 10 → l.length + 5 ≤ 6 * (c :: r).length)) ?_ ?_ ?_ ?_ ?_ ?_ ?_ ?_ ?_
      · intro e; subst e; simp [wAmp]; omega
      · intro e; subst e; simp [wLt]; omega
      · intro e; subst e; simp [wGt]; omega
      · intro e; subst e; simp [wQuot]; omega
      · intro e; subst e; simp [wApos]; omega
      · intro e; subst e; simp [wCr]; omega
      · intro e; subst e; simp [wBad]; omega
      · intro q e1 e
        have hq := (ih q (by subst e; simp at h; omega)).1
        subst e1; subst e
        simp [wMark]; omega
      · intros; simp; omega
theorem enc_length (k : Int) (s : List UInt8) : (encL k s).length ≤ 6 * s.length := by
  have h := esc_length s.length s (Nat.le_refl _)
  unfold encL
  split
  · exact h.1
  · split
    · split
      · rename_i h10; have := h.2 h10; simp; omega
      · exact h.1
    · simp

/-! ### texts behind texts -/
/-- a text does not end within the mark -/
def noTail (a : List UInt8) : Prop := a.getLast? ≠ some 239 ∧ (∀ p, a ≠ p ++ [239, 187])
theorem noTail_cons {c d : UInt8} {r : List UInt8} (h : noTail (c :: d :: r)) : noTail (d :: r) :=
  ⟨by simpa using h.1, fun p e => h.2 (c :: p) (by rw [e]; rfl)⟩
theorem esc_append : ∀ n (a b : List UInt8), a.length ≤ n → noTail a → escL (a ++ b) = escL a ++ escL b := by
  intro n
  induction n with
  | zero => intro a b h _; obtain rfl := List.eq_nil_of_length_eq_zero (Nat.le_zero.1 h); rfl
  | succ n ih =>
    intro a b h ht
    cases a with
    | nil => rfl
    | cons c r =>
      have hr : escL (r ++ b) = escL r ++ escL b := by
        cases r with
        | nil => rfl
        | cons d r => exact ih _ b (by simp at h ⊢; omega) (noTail_cons ht)
      have key : ∀ v, escF c = some ([], v) → escL (c :: r ++ b) = escL (c :: r) ++ escL b := by
        intro v hv
        unfold escL at *
        rw [List.cons_append, replS_hit hv rfl, replS_hit hv rfl]
        simp only [List.length_nil, List.drop_zero, hr, List.append_assoc]
      by_cases e8 : c = 239
      · have hf : escF c = some ([187, 191], wMark) := by subst e8; rfl
        by_cases hp : [187, 191].isPrefixOf r = true
        · obtain ⟨q, rfl⟩ := List.isPrefixOf_iff_prefix.1 hp
          have hq : escL (q ++ b) = escL q ++ escL b := by
            cases q with
            | nil => rfl
            | cons d q => exact ih _ b (by simp at h ⊢; omega) (noTail_cons (noTail_cons (noTail_cons ht)))
          unfold escL at *
          rw [List.cons_append, replS_hit hf (by simp), replS_hit hf (by simp)]
          simpa using hq
        · have hp' : ¬ [187, 191].isPrefixOf (r ++ b) = true := by
            subst e8
            intro e
            match r, hp, ht, e with
            | [], _, ht, _ => exact ht.1 rfl
            | [d], _, ht, e =>
              have : d = 187 := by
                simp only [List.cons_append, List.isPrefixOf, Bool.and_eq_true, beq_iff_eq] at e
                exact e.1.symm
              subst this
              exact ht.2 [] rfl
            | d :: d' :: r, hp, _, e =>
              apply hp
              simp only [List.cons_append, List.isPrefixOf, Bool.and_eq_true, beq_iff_eq] at e ⊢
              exact e
          unfold escL at *
          rw [List.cons_append, replS_miss hf hp', replS_miss hf hp, hr]; rfl
      · cases hf : escF c with
        | none =>
          unfold escL at *
          rw [List.cons_append, replS_none hf, replS_none hf, hr]; rfl
        | some tv =>
          obtain ⟨t, v⟩ := tv
          have : t = [] := by
            unfold escF at hf
            repeat' split at hf
            all_goals first | (simp at hf; exact hf.1.symm) | (simp at hf; exact hf.1) | contradiction | skip
          subst this
          exact key v hf
end Go.Proofs.YtajfpegacbohdaaDoor.Pl
