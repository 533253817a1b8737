/-
  Plain: a doctype read by positions (flailref11.Parse).
-/
import Derived.Test.YtajfpegacbohdaaDoorHaDoP
namespace Go.Proofs.YtajfpegacbohdaaDoor.Pure
open Go Go.RowKit Go.Proofs.YtajfpegacbohdaaDoor.Hand Go.Proofs.YtajfpegacbohdaaDoor.Pl Go.Proofs.YtajfpegacbohdaaDoor.Pb

/-- behind the blanks from n on -/
def pasN (s : List UInt8) (n : Nat) : Nat := n + spN (s.drop n)
theorem pas_drop (s : List UInt8) (n : Nat) : s.drop (pasN s n) = trimL (s.drop n) := by
  unfold pasN
  rw [← List.drop_drop, spN_drop]
theorem pas_le {s : List UInt8} {n : Nat} (h : n ≤ s.length) : pasN s n ≤ s.length := by
  have := spN_le (s.drop n)
  unfold pasN
  rw [List.length_drop] at this
  omega
theorem pas_ge (s : List UInt8) (n : Nat) : n ≤ pasN s n := by unfold pasN; omega
theorem pas_end {s : List UInt8} {n : Nat} (h : n ≤ s.length) : pasN s n = s.length ↔ trimL (s.drop n) = [] := by
  rw [← pas_drop, List.drop_eq_nil_iff]
  have := pas_le h
  omega
/-- where the quote that stands at i is closed -/
def untN (s : List UInt8) (i : Nat) (q : UInt8) : Nat := i + 1 + (upto q (s.drop (i + 1))).length
theorem upto_take (q : UInt8) : ∀ s : List UInt8, s.take (upto q s).length = upto q s := by
  intro s
  induction s with
  | nil => rfl
  | cons c r ih =>
    rw [upto_cons]
    split
    · rfl
    · simp [ih]
theorem upto_len (q : UInt8) : ∀ s : List UInt8, (upto q s).length ≤ s.length ∧ ((upto q s).length = s.length ↔ q ∉ s) := by
  intro s
  induction s with
  | nil => simp [upto]
  | cons c r ih =>
    rw [upto_cons]
    by_cases h : c = q
    · subst h; simp
    · have h' : ¬ q = c := fun e => h e.symm
      simp [h, h', ih.1, ih.2]
theorem unt_le {s : List UInt8} {i : Nat} (q : UInt8) (h : i < s.length) : i + 1 ≤ untN s i q ∧ untN s i q ≤ s.length := by
  have := (upto_len q (s.drop (i + 1))).1
  rw [List.length_drop] at this
  unfold untN
  omega
theorem unt_end {s : List UInt8} {i : Nat} (q : UInt8) (h : i < s.length) : untN s i q = s.length ↔ q ∉ s.drop (i + 1) := by
  rw [← (upto_len q (s.drop (i + 1))).2, List.length_drop]
  unfold untN
  omega
theorem unt_take (s : List UInt8) (i : Nat) (q : UInt8) : (s.drop (i + 1)).take (untN s i q - (i + 1)) = upto q (s.drop (i + 1)) := by
  rw [show untN s i q - (i + 1) = (upto q (s.drop (i + 1))).length by unfold untN; omega, upto_take]
theorem unt_past (s : List UInt8) (i : Nat) (q : UInt8) : past q (s.drop (i + 1)) = s.drop (untN s i q + 1) := by
  unfold past untN
  rw [List.drop_drop]
  congr 1
theorem quoted_no {t : List UInt8} (h : isQ t = false) : quotedL t = ([], t, false, false) := by
  cases t with
  | nil => rfl
  | cons c r =>
    have h' : ¬ (c = 34 ∨ c = 39) := by simpa [isQ] using h
    simp only [quotedL, if_neg h']
theorem quoted_at {s : List UInt8} {i : Nat} (hi : i < s.length) (h : isQ (s.drop i) = true) :
    quotedL (s.drop i) = (cleanL (upto s[i] (s.drop (i + 1))), s.drop (untN s i s[i] + 1), true, decide (s[i] ∈ s.drop (i + 1))) := by
  rw [List.drop_eq_getElem_cons hi] at h ⊢
  have h' : s[i] = 34 ∨ s[i] = 39 := by simpa [isQ] using h
  simp only [quotedL, if_pos h', unt_past]
theorem isQ_lt {s : List UInt8} {i : Nat} (h : isQ (s.drop i) = true) : i < s.length := by
  rcases Nat.lt_or_ge i s.length with h' | h'
  · exact h'
  · rw [List.drop_eq_nil_of_le h'] at h; cases h
section
variable {s : List UInt8} {i : Nat} (n p : List UInt8) (hn hp en : Bool)
theorem sys_no (h : isQ (s.drop i) = false) : sysD n p hn hp (s.drop i) en = (n, p, [], hn, hp, false, true) := by
  unfold sysD; rw [quoted_no h]; rfl
theorem sys_open (hi : i < s.length) (h : isQ (s.drop i) = true) (hk : untN s i s[i] = s.length) :
    sysD n p hn hp (s.drop i) en = (n, p, cleanL (upto s[i] (s.drop (i + 1))), hn, hp, true, true) := by
  have := (unt_end s[i] hi).1 hk
  unfold sysD; rw [quoted_at hi h]; simp [this]
theorem sys_end (hi : i < s.length) (h : isQ (s.drop i) = true) (hk : untN s i s[i] < s.length) (he : pasN s (untN s i s[i] + 1) = s.length) :
    sysD n p hn hp (s.drop i) en = (n, p, cleanL (upto s[i] (s.drop (i + 1))), hn, hp, true, !en) := by
  have h1 : s[i] ∈ s.drop (i + 1) := Decidable.byContradiction fun c => by have := (unt_end s[i] hi).2 c; omega
  have h2 := (pas_end (s := s) (n := untN s i s[i] + 1) (by omega)).1 he
  unfold sysD; rw [quoted_at hi h]; simp [h1, h2]
theorem sys_more (hi : i < s.length) (h : isQ (s.drop i) = true) (hk : untN s i s[i] < s.length) (he : ¬ pasN s (untN s i s[i] + 1) = s.length) :
    sysD n p hn hp (s.drop i) en = (n, p, cleanL (upto s[i] (s.drop (i + 1))), hn, hp, true, false) := by
  have h1 : s[i] ∈ s.drop (i + 1) := Decidable.byContradiction fun c => by have := (unt_end s[i] hi).2 c; omega
  have h2 : ¬ trimL (s.drop (untN s i s[i] + 1)) = [] := fun e => he ((pas_end (s := s) (n := untN s i s[i] + 1) hk).2 e)
  unfold sysD; rw [quoted_at hi h]; simp [h1, h2]
variable {t : List UInt8} (h4 : trimL (t.drop 6) = s.drop i)
include h4
theorem pub_no (h : isQ (s.drop i) = false) : pubD n t en = (n, [], [], true, false, false, true) := by
  unfold pubD; rw [h4, quoted_no h]; rfl
theorem pub_open (hi : i < s.length) (h : isQ (s.drop i) = true) (hk : untN s i s[i] = s.length) :
    pubD n t en = (n, cleanL (upto s[i] (s.drop (i + 1))), [], true, true, false, true) := by
  have := (unt_end s[i] hi).1 hk
  unfold pubD; rw [h4, quoted_at hi h]; simp [this]
theorem pub_end (hi : i < s.length) (h : isQ (s.drop i) = true) (hk : untN s i s[i] < s.length) (he : pasN s (untN s i s[i] + 1) = s.length) :
    pubD n t en = (n, cleanL (upto s[i] (s.drop (i + 1))), [], true, true, false, !en) := by
  have h1 : s[i] ∈ s.drop (i + 1) := Decidable.byContradiction fun c => by have := (unt_end s[i] hi).2 c; omega
  have h2 := (pas_end (s := s) (n := untN s i s[i] + 1) (by omega)).1 he
  unfold pubD; rw [h4, quoted_at hi h]; simp [h1, h2]
theorem pub_more (hi : i < s.length) (h : isQ (s.drop i) = true) (hk : untN s i s[i] < s.length) (he : ¬ pasN s (untN s i s[i] + 1) = s.length) :
    pubD n t en = sysD n (cleanL (upto s[i] (s.drop (i + 1)))) true true (s.drop (pasN s (untN s i s[i] + 1))) en := by
  have h1 : s[i] ∈ s.drop (i + 1) := Decidable.byContradiction fun c => by have := (unt_end s[i] hi).2 c; omega
  have h2 : ¬ trimL (s.drop (untN s i s[i] + 1)) = [] := fun e => he ((pas_end (s := s) (n := untN s i s[i] + 1) hk).2 e)
  unfold pubD; rw [h4, quoted_at hi h, pas_drop]; simp [h1, h2]
end
theorem word_cons (c : UInt8) (r : List UInt8) : wordLen (c :: r) = if isSp c = true then 0 else wordLen r + 1 := by
  unfold wordLen
  by_cases h : isSp c = true <;> simp [h]
end Go.Proofs.YtajfpegacbohdaaDoor.Pure
