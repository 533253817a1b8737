/-
  Comments: the first end in a text, and what strings.Index tells about it; comment.Begins, comment.Read and the document's, as functions of lists.
-/
import Derived.Test.YtppaobgccdlccaaDoorPlS
import Derived.Lib.Index
import Derived.Test.YtppaobgccdlccaaDoorPuSign
import Derived.Test.YtppaobgccdlccaaDoorPuRef
import Derived.Test.YtppaobgccdlccaaDoorHaCmt
import Derived.Test.YtppaobgccdlccaaDoorSm
namespace Go.Proofs.YtppaobgccdlccaaDoor.Pl
open Go

/-- the first of two ends: what stands ahead of it, and how many bytes there are to behind it -/
def endG (p q : List UInt8) : List UInt8 → Option (List UInt8 × Nat)
  | [] => none
  | c :: r => if p.isPrefixOf (c :: r) = true then some ([], p.length) else if q.isPrefixOf (c :: r) = true then some ([], q.length)
    else match endG p q r with
      | none => none
      | some (t, n) => some (c :: t, n + 1)
def EndI (p q s : List UInt8) (k0 k1 : Int) : Prop :=
  match endG p q s with
  | none => k0 = -1 ∧ k1 = -1
  | some (t, n) => ∃ i : Nat, t = s.take i ∧ i ≤ s.length ∧ ((k0 = i ∧ (k1 = -1 ∨ k0 ≤ k1) ∧ n = i + p.length) ∨ (k1 = i ∧ (k0 = -1 ∨ k1 < k0) ∧ n = i + q.length))
theorem index_ge' (s p : List UInt8) : -1 ≤ Lib.index s p := Lib.index_ge s p
theorem endG_index (p q : List UInt8) (hp : p ≠ []) (hq : q ≠ []) : ∀ s, EndI p q s (Lib.index s p) (Lib.index s q) := by
  intro s
  induction s with
  | nil =>
    have h1 : p.isEmpty = false := by simpa using hp
    have h2 : q.isEmpty = false := by simpa using hq
    simp [EndI, endG, Lib.index, h1, h2]
  | cons c r ih =>
    have g0 := index_ge' r p
    have g1 := index_ge' r q
    unfold EndI at ih ⊢
    simp only [endG, Lib.index]
    by_cases h0 : p.isPrefixOf (c :: r) = true
    · simp only [if_pos h0]
      refine ⟨0, rfl, by simp, .inl ⟨rfl, ?_, by simp⟩⟩
      by_cases h1 : q.isPrefixOf (c :: r) = true
      · simp only [if_pos h1]; omega
      · simp only [if_neg h1]
        split
        · exact .inl rfl
        · right; rename_i hh; simp at hh; omega
    · simp only [if_neg h0]
      by_cases h1 : q.isPrefixOf (c :: r) = true
      · simp only [if_pos h1]
        refine ⟨0, rfl, by simp, .inr ⟨rfl, ?_, by simp⟩⟩
        split
        · exact .inl rfl
        · right; rename_i hh; simp at hh; omega
      · simp only [if_neg h1]
        cases he : endG p q r with
        | none =>
          rw [he] at ih
          simp only at ih ⊢
          simp [ih.1, ih.2]
        | some x =>
          obtain ⟨t, n⟩ := x
          rw [he] at ih
          simp only at ih ⊢
          obtain ⟨i, ht, hi, hk⟩ := ih
          refine ⟨i + 1, by simp [ht], by simp; omega, ?_⟩
          rcases hk with ⟨h2, h3, h4⟩ | ⟨h2, h3, h4⟩
          · left
            have e0 : (Lib.index r p == -1) = false := by simp; omega
            simp only [e0, Bool.false_eq_true, if_false]
            refine ⟨by omega, ?_, by omega⟩
            by_cases h5 : Lib.index r q = -1
            · left; simp [h5]
            · right
              have e1 : (Lib.index r q == -1) = false := by simp [h5]
              simp only [e1, Bool.false_eq_true, if_false]; omega
          · right
            have e1 : (Lib.index r q == -1) = false := by simp; omega
            simp only [e1, Bool.false_eq_true, if_false]
            refine ⟨by omega, ?_, by omega⟩
            by_cases h5 : Lib.index r p = -1
            · left; simp [h5]
            · right
              have e0 : (Lib.index r p == -1) = false := by simp [h5]
              simp only [e0, Bool.false_eq_true, if_false]; omega
end Go.Proofs.YtppaobgccdlccaaDoor.Pl

namespace Go.Proofs.YtppaobgccdlccaaDoor.Pure
open Go Go.RowKit Go.Proofs.YtppaobgccdlccaaDoor.K0 Go.Proofs.YtppaobgccdlccaaDoor.Hand Go.Proofs.YtppaobgccdlccaaDoor.Sa Go.Proofs.YtppaobgccdlccaaDoor.Sr Go.Proofs.YtppaobgccdlccaaDoor.Sm Go.Proofs.YtppaobgccdlccaaDoorW.PrintWords Go.Proofs.YtppaobgccdlccaaDoorW.PrintMore Go.Proofs.YtppaobgccdlccaaDoor.Pl Go.Proofs.YtppaobgccdlccaaDoor.Pb

def letB (c : UInt8) : Bool := (decide (65 ≤ c) && decide (c ≤ 90)) || (decide (97 ≤ c) && decide (c ≤ 122))
theorem letter_f (c : UInt8) : sign_Letter.f (c.toNat : Int) = some (letB c) := by
  have : ∀ n : Fin 256, sign_Letter.f ((n.val : Nat) : Int) = some (letB (UInt8.ofNat n.val)) := by decide +kernel
  have h := this ⟨c.toNat, c.toNat_lt⟩
  simpa using h
theorem refLetter (c : UInt8) : flailref03_Letter.f (c.toNat : Int) = some (letB c) := by
  have : ∀ n : Fin 256, flailref03_Letter.f ((n.val : Nat) : Int) = some (letB (UInt8.ofNat n.val)) := by decide +kernel
  have h := this ⟨c.toNat, c.toNat_lt⟩
  simpa using h
theorem lowB_sign (c : UInt8) (m : Fin 65) : (lowB c == UInt8.ofNat m.val) = (c == UInt8.ofNat m.val) := by
  have : ∀ n : Fin 256, ∀ m : Fin 65, (lowB (UInt8.ofNat n.val) == UInt8.ofNat m.val) = (UInt8.ofNat n.val == UInt8.ofNat m.val) := by decide +kernel
  have h := this ⟨c.toNat, c.toNat_lt⟩ m
  simpa using h
theorem lw60 (c : UInt8) : (lowB c == 60) = (c == 60) := lowB_sign c 60
theorem lw33 (c : UInt8) : (lowB c == 33) = (c == 33) := lowB_sign c 33
theorem lw63 (c : UInt8) : (lowB c == 63) = (c == 63) := lowB_sign c 63
theorem lw47 (c : UInt8) : (lowB c == 47) = (c == 47) := lowB_sign c 47
theorem lw45 (c : UInt8) : (lowB c == 45) = (c == 45) := lowB_sign c 45
theorem lw62 (c : UInt8) : (lowB c == 62) = (c == 62) := lowB_sign c 62
def doctypeL : List UInt8 := [100, 111, 99, 116, 121, 112, 101]
/-- does a comment begin -/
def begC (r : List UInt8) : Bool := match r with
  | c :: d :: t => (c == 60) && (if d = 33 then !begR t doctypeL else if d = 63 then true else if d = 47 then (match t with | [] => false | e :: _ => !(e == 62) && !letB e) else false)
  | _ => false
theorem begC_f (s : List UInt8) (n : Nat) (hs : s.length ≤ 1000000) (hn : n ≤ s.length) : comment_Begins.f (B s) (n : Int) = some (begC (s.drop n)) := by
  unfold comment_Begins.f
  simp only [show (⟨#[60, 33]⟩ : ByteArray) = B [60, 33] from rfl, show (⟨#[60, 63]⟩ : ByteArray) = B [60, 63] from rfl, show (⟨#[60, 47]⟩ : ByteArray) = B [60, 47] from rfl,
    show (⟨#[60, 33, 100, 111, 99, 116, 121, 112, 101]⟩ : ByteArray) = B (60 :: 33 :: doctypeL) from rfl,
    begins_f s _ n hs (show ([60, 33] : List UInt8).length ≤ 1000000 by simp) hn, begins_f s _ n hs (show ([60, 63] : List UInt8).length ≤ 1000000 by simp) hn, begins_f s _ n hs (show ([60, 47] : List UInt8).length ≤ 1000000 by simp) hn,
    begins_f s _ n hs (show (60 :: 33 :: doctypeL : List UInt8).length ≤ 1000000 by simp [doctypeL]) hn, Option.bind_some]
  have w : wrap64 ((n : Int) + 2) = ((n + 2 : Nat) : Int) := by unfold wrap64; omega
  rw [w]
  match hr : s.drop n with
  | [] => simp [begR, begC]
  | [c] => simp [begR, begC]
  | c :: d :: t =>
    simp only [begR, lw60, lw33, lw63, lw47, begC, Bool.and_true]
    by_cases hc : c = 60
    · subst hc
      simp only [BEq.rfl, Bool.true_and]
      by_cases h33 : d = 33
      · subst h33; simp
      · by_cases h63 : d = 63
        · subst h63; simp
        · by_cases h47 : d = 47
          · subst h47
            have ht : s.drop (n + 2) = t := by rw [← List.drop_drop, hr]; rfl
            cases t with
            | nil =>
              have h1 := drop_nil ht
              have h2 : (s.drop n).length = 2 := by rw [hr]; rfl
              simp only [List.length_drop] at h2
              simp only [show ((47 : UInt8) == 33) = false by decide, show ((47 : UInt8) == 63) = false by decide, Bool.false_eq_true, if_false, BEq.rfl, if_true, if_pos (show ((n + 2 : Nat) : Int) = ((B s).size : Int) by simp; omega)]
              simp
            | cons e t =>
              have h1 := drop_lt ht
              simp only [show ((47 : UInt8) == 33) = false by decide, show ((47 : UInt8) == 63) = false by decide, Bool.false_eq_true, if_false, BEq.rfl, if_true, if_neg (show ¬ ((n + 2 : Nat) : Int) = ((B s).size : Int) by simp; omega),
                if_pos (show (0 : Int) ≤ ((n + 2 : Nat) : Int) by omega), if_pos (show ((n + 2 : Nat) : Int) < ((B s).size : Int) by simp; omega), bt_drop s (n + 2) e t ht, u62, letter_f, Option.bind_some]
              by_cases he : e = 62
              · simp [he]
              · simp [he]
          · simp [h33, h63, h47]
    · simp [hc]
theorem begC_past (s : List UInt8) (n : Int) (h : n < 0 ∨ (s.length : Int) < n) : comment_Begins.f (B s) n = some false := by
  unfold comment_Begins.f
  simp only [show (⟨#[60, 33]⟩ : ByteArray) = B [60, 33] from rfl, show (⟨#[60, 63]⟩ : ByteArray) = B [60, 63] from rfl, show (⟨#[60, 47]⟩ : ByteArray) = B [60, 47] from rfl, begins_past s _ n h, Option.bind_some, Bool.false_eq_true, if_false]

theorem refBegC_out (s : List UInt8) (n : Int) (h : n < 0 ∨ (s.length : Int) - 1 ≤ n) (hs : s.length ≤ 1000000) : Ev (fun k => flailref10_Begins.f k (B s) n) false := by
  have j : Ev (fun k => flailref10_Begins.j0 k (B s) n true) false :=
    Ev.step (f := fun _ => some false) (fun k => by rw [flailref10_Begins.j0, if_pos rfl]) (Ev.now _)
  unfold flailref10_Begins.f
  by_cases h0 : n < 0
  · simp only [if_pos h0]; exact j
  · have w : wrap64 (((B s).size : Int) - 1) = (s.length : Int) - 1 := by rw [size_B]; unfold wrap64; omega
    simp only [if_neg h0, w]
    rw [show decide (n ≥ (s.length : Int) - 1) = true by simp; omega]
    exact j
theorem refBegC (s : List UInt8) (n : Nat) (hs : s.length ≤ 1000000) (hn : n ≤ s.length) : Ev (fun k => flailref10_Begins.f k (B s) (n : Int)) (begC (s.drop n)) := by
  by_cases ho : (s.length : Int) - 1 ≤ (n : Int)
  · have : begC (s.drop n) = false := by
      match hr : s.drop n with
      | [] => rfl
      | [c] => rfl
      | c :: d :: t =>
        have : (s.drop n).length = t.length + 2 := by rw [hr]; rfl
        simp only [List.length_drop] at this
        omega
    rw [this]
    exact refBegC_out s n (.inr ho) hs
  · have w : wrap64 (((B s).size : Int) - 1) = (s.length : Int) - 1 := by rw [size_B]; unfold wrap64; omega
    unfold flailref10_Begins.f
    simp only [if_neg (show ¬ (n : Int) < 0 by omega), w]
    rw [show decide ((n : Int) ≥ (s.length : Int) - 1) = false by simp; omega]
    match hr : s.drop n with
    | [] => have := drop_nil hr; omega
    | [c] =>
      have : (s.drop n).length = 1 := by rw [hr]; rfl
      simp only [List.length_drop] at this
      omega
    | c :: d :: t =>
      have hlt := drop_lt hr
      have hr1 : s.drop (n + 1) = d :: t := by rw [← List.drop_drop, hr]; rfl
      have ht : s.drop (n + 2) = t := by rw [← List.drop_drop, hr]; rfl
      have hlt1 := drop_lt hr1
      have w1 : wrap64 ((n : Int) + 1) = ((n + 1 : Nat) : Int) := by unfold wrap64; omega
      have w2 : wrap64 ((n : Int) + 2) = ((n + 2 : Nat) : Int) := by unfold wrap64; omega
      have hstep : ∀ k, flailref10_Begins.j0 (k + 1) (B s) (n : Int) false = if c = 60 then (if d = 33 then ((flailref03_Begins.f k (B s) ((n + 2 : Nat) : Int) (B doctypeL)).bind fun t101 => (some (!t101))) else if d = 63 then some true else if d = 47 then (if ((n + 2 : Nat) : Int) ≥ ((B s).size : Int) then some false else (if 0 ≤ ((n + 2 : Nat) : Int) then (if ((n + 2 : Nat) : Int) < ((B s).size : Int) then (if (bt (B s) ((n + 2 : Nat) : Int)) = 62 then some false else ((flailref03_Letter.f (bt (B s) ((n + 2 : Nat) : Int))).bind fun t102 => (some (!t102)))) else none) else none)) else some false) else some false := by
        intro k
        rw [flailref10_Begins.j0, if_neg (by simp), if_pos (by omega), if_pos (by simp; omega), bt_drop s n c (d :: t) hr, w1, w2]
        simp only [u60, if_pos (show (0 : Int) ≤ ((n + 1 : Nat) : Int) by omega), if_pos (show ((n + 1 : Nat) : Int) < ((B s).size : Int) by simp; omega), bt_drop s (n + 1) d t hr1, u33, u63, u47]
        rfl
      refine Ev.step hstep ?_
      simp only [begC]
      by_cases hc : c = 60
      · subst hc
        simp only [BEq.rfl, Bool.true_and, if_true]
        by_cases h33 : d = 33
        · subst h33
          simp only [if_true]
          refine Ev.bind (refBegins s doctypeL (n + 2) hs (by simp [doctypeL]) (by omega)) ?_
          rw [ht]
          exact Ev.now _
        · simp only [if_neg h33]
          by_cases h63 : d = 63
          · simp only [if_pos h63]; exact Ev.now _
          · simp only [if_neg h63]
            by_cases h47 : d = 47
            · simp only [if_pos h47]
              cases t with
              | nil =>
                have h1 := drop_nil ht
                simp only [if_pos (show ((n + 2 : Nat) : Int) ≥ ((B s).size : Int) by simp; omega)]
                exact Ev.now _
              | cons e t =>
                have h1 := drop_lt ht
                simp only [if_neg (show ¬ ((n + 2 : Nat) : Int) ≥ ((B s).size : Int) by simp; omega), if_pos (show (0 : Int) ≤ ((n + 2 : Nat) : Int) by omega), if_pos (show ((n + 2 : Nat) : Int) < ((B s).size : Int) by simp; omega), bt_drop s (n + 2) e t ht, u62, refLetter, Option.bind_some]
                by_cases he : e = 62
                · simp only [if_pos he, he, BEq.rfl, Bool.not_true, Bool.false_and]; exact Ev.now _
                · simp only [if_neg he, show (e == 62) = false by simpa using he, Bool.not_false, Bool.true_and]; exact Ev.now _
            · simp only [if_neg h47]; exact Ev.now _
      · simp only [if_neg hc, show (c == 60) = false by simpa using hc, Bool.false_and]
        exact Ev.now _
end Go.Proofs.YtppaobgccdlccaaDoor.Pure

namespace Go.Proofs.YtppaobgccdlccaaDoor.Pure
open Go Go.RowKit Go.Proofs.YtppaobgccdlccaaDoor.K0 Go.Proofs.YtppaobgccdlccaaDoor.Hand Go.Proofs.YtppaobgccdlccaaDoor.Sa Go.Proofs.YtppaobgccdlccaaDoor.Sr Go.Proofs.YtppaobgccdlccaaDoor.Sm Go.Proofs.YtppaobgccdlccaaDoorW.PrintWords Go.Proofs.YtppaobgccdlccaaDoorW.PrintMore Go.Proofs.YtppaobgccdlccaaDoor.Pl Go.Proofs.YtppaobgccdlccaaDoor.Pb

theorem cutW_B (s p q : List UInt8) (hp : p ≠ []) (hq : q ≠ []) :
    cutW (B s) (B p) (B q) = match endG p q s with | none => (B [], (s.length : Int), false) | some (t, n) => (B t, (n : Int), true) := by
  unfold cutW idx cutV
  have h := endG_index p q hp hq s
  simp only [B_data, size_B]
  unfold EndI at h
  have g0 := index_ge' s p
  have g1 := index_ge' s q
  cases he : endG p q s with
  | none =>
    rw [he] at h
    simp only at h ⊢
    rw [h.1, h.2]
    simp
  | some x =>
    obtain ⟨t, n⟩ := x
    rw [he] at h
    simp only at h ⊢
    obtain ⟨i, ht, hi, hk⟩ := h
    have hx : (B s).extract 0 i = B t := by rw [B_extract, ht]; simp
    rcases hk with ⟨h2, h3, h4⟩ | ⟨h2, h3, h4⟩
    · rw [if_pos (by omega), if_neg (by omega), h2, Int.toNat_natCast, hx, h4]; simp
    · rw [h2] at g1 h3 ⊢
      by_cases h0 : 0 ≤ Lib.index s p
      · rw [if_pos h0, if_pos (by omega), Int.toNat_natCast, hx, h4]; simp
      · rw [if_neg h0, if_pos (by omega), Int.toNat_natCast, hx, h4]; simp
def otherL (s : List UInt8) : List UInt8 × Nat := match endG [62] [62] s with | none => (s, s.length) | some x => x
theorem otherV_B (s : List UInt8) : otherV (B s) = (B (otherL s).1, ((otherL s).2 : Int)) := by
  unfold otherV otherL
  rw [show (⟨#[62]⟩ : ByteArray) = B [62] from rfl, cutW_B s [62] [62] (by simp) (by simp)]
  cases endG [62] [62] s with
  | none => simp
  | some x => simp
def plainEnd (s : List UInt8) : List UInt8 × Nat :=
  if [45, 45, 33].isSuffixOf s = true then (s.take (s.length - 3), s.length) else if [45, 45].isSuffixOf s = true then (s.take (s.length - 2), s.length)
  else if [45].isSuffixOf s = true then (s.take (s.length - 1), s.length) else (s, s.length)
def plainL (s : List UInt8) : List UInt8 × Nat :=
  if [62].isPrefixOf s = true then ([], 1) else if [45, 62].isPrefixOf s = true then ([], 2)
  else match endG [45, 45, 62] [45, 45, 33, 62] s with | some x => x | none => plainEnd s
theorem pre_B (s p : List UInt8) : pre (B s) (B p) = p.isPrefixOf s := by unfold pre Lib.hasPrefix; rw [B_data, B_data]
theorem suf_B (s p : List UInt8) : suf (B s) (B p) = p.isSuffixOf s := by unfold suf Lib.hasSuffix; rw [B_data, B_data]
theorem trim_B (s p : List UInt8) (h : p.isSuffixOf s = true) : trimS (B s) (B p) = B (s.take (s.length - p.length)) := by
  unfold trimS Lib.trimSuffix Lib.hasSuffix
  simp only [B_data, h, if_true]; rfl
theorem plainV_B (s : List UInt8) : plainV (B s) = (B (plainL s).1, ((plainL s).2 : Int)) := by
  unfold plainV plainL plainEnd
  simp only [show (⟨#[62]⟩ : ByteArray) = B [62] from rfl, show (⟨#[45, 62]⟩ : ByteArray) = B [45, 62] from rfl, show (⟨#[45, 45, 62]⟩ : ByteArray) = B [45, 45, 62] from rfl,
    show (⟨#[45, 45, 33, 62]⟩ : ByteArray) = B [45, 45, 33, 62] from rfl, show (⟨#[45, 45, 33]⟩ : ByteArray) = B [45, 45, 33] from rfl, show (⟨#[45, 45]⟩ : ByteArray) = B [45, 45] from rfl, show (⟨#[45]⟩ : ByteArray) = B [45] from rfl,
    pre_B, suf_B, cutW_B s [45, 45, 62] [45, 45, 33, 62] (by simp) (by simp), size_B]
  by_cases h1 : [62].isPrefixOf s = true
  · simp only [if_pos h1]; rfl
  · by_cases h2 : [45, 62].isPrefixOf s = true
    · simp only [if_neg h1, if_pos h2]; rfl
    · simp only [if_neg h1, if_neg h2]
      cases he : endG [45, 45, 62] [45, 45, 33, 62] s with
      | some x => simp
      | none =>
        simp only [Bool.false_eq_true, if_false]
        by_cases h3 : [45, 45, 33].isSuffixOf s = true
        · simp only [if_pos h3, trim_B s _ h3]; rfl
        · by_cases h4 : [45, 45].isSuffixOf s = true
          · simp only [if_neg h3, if_pos h4, trim_B s _ h4]; rfl
          · by_cases h5 : [45].isSuffixOf s = true
            · simp only [if_neg h3, if_neg h4, if_pos h5, trim_B s _ h5]; rfl
            · simp only [if_neg h3, if_neg h4, if_neg h5]

/-- what a comment at the beginning of a text tells: its text, and how many bytes it has -/
def readC (r : List UInt8) : List UInt8 × Nat :=
  if begR r [60, 33, 45, 45] = true then ((plainL (r.drop 4)).1, 4 + (plainL (r.drop 4)).2)
  else if begR r [60, 63] = true then ((otherL (r.drop 1)).1, 1 + (otherL (r.drop 1)).2)
  else ((otherL (r.drop 2)).1, 2 + (otherL (r.drop 2)).2)
def tokC (n : Nat) (r : List UInt8) : Int × ByteArray × ByteArray × List S88 × Bool × Int × Bool :=
  if begC r = true then (3, B [], B (cleanL (readC r).1), [], false, ((n + (readC r).2 : Nat) : Int), true) else (0, B [], B [], [], false, (n : Int), false)
theorem endG_le (p q : List UInt8) : ∀ s t n, endG p q s = some (t, n) → t.length ≤ s.length ∧ n ≤ s.length + p.length + q.length := by
  intro s
  induction s with
  | nil => intro t n h; simp [endG] at h
  | cons c r ih =>
    intro t n h
    simp only [endG] at h
    split at h
    · simp only [Option.some.injEq, Prod.mk.injEq] at h; obtain ⟨rfl, rfl⟩ := h; simp; try omega
    · split at h
      · simp only [Option.some.injEq, Prod.mk.injEq] at h; obtain ⟨rfl, rfl⟩ := h; simp; try omega
      · cases he : endG p q r with
        | none => rw [he] at h; cases h
        | some x =>
          obtain ⟨t', n'⟩ := x
          rw [he] at h
          simp only [Option.some.injEq, Prod.mk.injEq] at h
          obtain ⟨rfl, rfl⟩ := h
          have := ih t' n' he
          simp; omega
theorem otherL_le (s : List UInt8) : (otherL s).1.length ≤ s.length ∧ (otherL s).2 ≤ s.length + 2 := by
  unfold otherL
  cases he : endG [62] [62] s with
  | none => simp
  | some x => obtain ⟨t, n⟩ := x; have := endG_le _ _ _ _ _ he; simpa using this
theorem plainL_le (s : List UInt8) : (plainL s).1.length ≤ s.length ∧ (plainL s).2 ≤ s.length + 7 := by
  unfold plainL plainEnd
  split
  · simp
  · split
    · simp
    · cases he : endG [45, 45, 62] [45, 45, 33, 62] s with
      | some x => obtain ⟨t, n⟩ := x; have := endG_le _ _ _ _ _ he; simpa using this
      | none => simp only; repeat' split
                all_goals simp; try omega
theorem extract_drop (s : List UInt8) (n : Nat) (h : n ≤ s.length) : (B s).extract n s.length = B (s.drop n) := by
  rw [B_extract]; simp
theorem read_f (s : List UInt8) (n : Nat) (hs : s.length ≤ 1000000) (hn : n ≤ s.length) : comment_Read.f (B s) (n : Int) = some (tokC n (s.drop n)) := by
  unfold comment_Read.f tokC
  rw [if_pos (by simp; omega), begC_f s n hs hn, Option.bind_some]
  cases hb : begC (s.drop n) with
  | false => simp
  | true =>
    simp only [if_true, show (⟨#[60, 33, 45, 45]⟩ : ByteArray) = B [60, 33, 45, 45] from rfl, show (⟨#[60, 63]⟩ : ByteArray) = B [60, 63] from rfl, begins_f s _ n hs (show ([60, 33, 45, 45] : List UInt8).length ≤ 1000000 by simp) hn,
      begins_f s _ n hs (show ([60, 63] : List UInt8).length ≤ 1000000 by simp) hn, Option.bind_some]
    have h2 : n + 2 ≤ s.length := by
      match hr : s.drop n with
      | [] => rw [hr] at hb; simp [begC] at hb
      | [c] => rw [hr] at hb; simp [begC] at hb
      | c :: d :: t =>
        have : (s.drop n).length = t.length + 2 := by rw [hr]; rfl
        simp only [List.length_drop] at this; omega
    have g : ∀ (j : Nat) (V : ByteArray → ByteArray × Int) (VL : List UInt8 → List UInt8 × Nat), (∀ l, V (B l) = (B (VL l).1, ((VL l).2 : Int))) → (∀ l, (VL l).1.length ≤ l.length ∧ (VL l).2 ≤ l.length + 7) → n + j ≤ s.length →
        comment_Read.g (B s) (wrap64 ((n : Int) + (j : Int))) V = some (3, B [], B (cleanL (VL ((s.drop n).drop j)).1), [], false, ((n + (j + (VL ((s.drop n).drop j)).2) : Nat) : Int), true) := by
      intro j V VL hV hL hj
      have w : wrap64 ((n : Int) + (j : Int)) = ((n + j : Nat) : Int) := wrap_add n j (by omega)
      unfold comment_Read.g
      rw [w, if_pos (by simp; omega), size_B, Int.toNat_natCast, extract_drop s (n + j) hj, hV, List.drop_drop]
      have hl := hL (s.drop (n + j))
      simp only [List.length_drop] at hl
      simp only
      rw [clean_f _ (by omega), Option.bind_some]
      have w2 : wrap64 (((n + j : Nat) : Int) + ((VL (s.drop (n + j))).2 : Int)) = ((n + (j + (VL (s.drop (n + j))).2) : Nat) : Int) := by unfold wrap64; omega
      rw [w2]; rfl
    unfold readC
    cases h1 : begR (s.drop n) [60, 33, 45, 45] with
    | true =>
      have l1 := begR_length _ _ h1
      simp only [List.length_drop, List.length_cons, List.length_nil] at l1
      simp only [if_true]
      exact g 4 plainV plainL plainV_B plainL_le (by omega)
    | false =>
      simp only [Bool.false_eq_true, if_false]
      cases h3 : begR (s.drop n) [60, 63] with
      | true =>
        simp only [if_true]
        exact g 1 otherV otherL otherV_B (fun l => ⟨(otherL_le l).1, by have := (otherL_le l).2; omega⟩) (by omega)
      | false =>
        simp only [Bool.false_eq_true, if_false]
        exact g 2 otherV otherL otherV_B (fun l => ⟨(otherL_le l).1, by have := (otherL_le l).2; omega⟩) (by omega)
theorem read_past (s : List UInt8) (n : Int) (h : n < 0 ∨ (s.length : Int) < n) (hs : s.length ≤ 1000000) : comment_Read.f (B s) n = some (0, B [], B [], [], false, n, false) := by
  unfold comment_Read.f
  rw [if_pos (by simp; omega), begC_past s n h, Option.bind_some, if_neg (by simp)]; rfl
end Go.Proofs.YtppaobgccdlccaaDoor.Pure

namespace Go.Proofs.YtppaobgccdlccaaDoor.Pure
open Go Go.RowKit Go.Proofs.YtppaobgccdlccaaDoor.K0 Go.Proofs.YtppaobgccdlccaaDoor.Hand Go.Proofs.YtppaobgccdlccaaDoor.Sa Go.Proofs.YtppaobgccdlccaaDoor.Sr Go.Proofs.YtppaobgccdlccaaDoor.Sm Go.Proofs.YtppaobgccdlccaaDoorW.PrintWords Go.Proofs.YtppaobgccdlccaaDoorW.PrintMore Go.Proofs.YtppaobgccdlccaaDoor.Pl Go.Proofs.YtppaobgccdlccaaDoor.Pb

theorem pref_take (p s : List UInt8) : (s.take p.length == p) = p.isPrefixOf s := by
  rw [Bool.eq_iff_iff, beq_iff_eq, List.isPrefixOf_iff_prefix, List.prefix_iff_eq_take]
  exact ⟨fun h => h.symm, fun h => h.symm⟩
theorem suf_drop (p s : List UInt8) (h : p.length ≤ s.length) : (s.drop (s.length - p.length) == p) = p.isSuffixOf s := by
  rw [Bool.eq_iff_iff, beq_iff_eq, List.isSuffixOf_iff_suffix, List.suffix_iff_eq_drop]
  exact ⟨fun h => h.symm, fun h => h.symm⟩
theorem refPre (s p : List UInt8) : flailref01_Begins.f (B s) (B p) = some (p.isPrefixOf s) := by
  unfold flailref01_Begins.f
  by_cases h : s.length < p.length
  · rw [if_pos (by simp; omega)]
    have : p.isPrefixOf s = false := by
      rw [Bool.eq_false_iff]; intro e
      have := (List.isPrefixOf_iff_prefix.1 e).length_le
      omega
    rw [this]
  · rw [if_neg (by simp; omega), if_pos (by omega), if_pos (by simp; omega), size_B, Int.toNat_natCast, B_extract, toList_B, toList_B, List.drop_zero, pref_take]
theorem refSuf (s p : List UInt8) (hs : s.length ≤ 1000000) : flailref10_ends.f (B s) (B p) = some (p.isSuffixOf s) := by
  unfold flailref10_ends.f
  by_cases h : s.length < p.length
  · rw [if_pos (by simp; omega)]
    have : p.isSuffixOf s = false := by
      rw [Bool.eq_false_iff]; intro e
      have := (List.isSuffixOf_iff_suffix.1 e).length_le
      omega
    rw [this]
  · have w : wrap64 (((B s).size : Int) - ((B p).size : Int)) = ((s.length - p.length : Nat) : Int) := by rw [size_B, size_B]; unfold wrap64; omega
    rw [if_neg (by simp; omega), w, if_pos (by omega), if_pos (by simp), size_B, Int.toNat_natCast, extract_drop s _ (by omega), toList_B, toList_B, suf_drop p s (by omega)]
theorem refPlain_tail (k : Nat) (s : List UInt8) (hs : s.length ≤ 1000000) : flailref10_plain.l0 (k + 1) (B s) (s.length : Int) = some (B (plainEnd s).1, ((plainEnd s).2 : Int)) := by
  rw [flailref10_plain.l0, if_neg (by simp)]
  simp only [show (⟨#[45, 45, 33]⟩ : ByteArray) = B [45, 45, 33] from rfl, show (⟨#[45, 45]⟩ : ByteArray) = B [45, 45] from rfl, show (⟨#[45]⟩ : ByteArray) = B [45] from rfl, refSuf s _ hs, Option.bind_some, plainEnd]
  have x : ∀ j : Nat, (B s).extract 0 (s.length - j) = B (s.take (s.length - j)) := by intro j; rw [B_extract]; rfl
  by_cases h3 : [45, 45, 33].isSuffixOf s = true
  · have l := (List.isSuffixOf_iff_suffix.1 h3).length_le
    simp only [List.length_cons, List.length_nil] at l
    have w : wrap64 ((s.length : Int) - 3) = ((s.length - 3 : Nat) : Int) := by unfold wrap64; omega
    simp only [if_pos h3, w, if_pos (show (0 : Int) ≤ ((s.length - 3 : Nat) : Int) by omega), if_pos (show ((s.length - 3 : Nat) : Int) ≤ (s.length : Int) by omega), Int.toNat_natCast, x, size_B]
  · by_cases h4 : [45, 45].isSuffixOf s = true
    · have l := (List.isSuffixOf_iff_suffix.1 h4).length_le
      simp only [List.length_cons, List.length_nil] at l
      have w : wrap64 ((s.length : Int) - 2) = ((s.length - 2 : Nat) : Int) := by unfold wrap64; omega
      simp only [if_neg h3, if_pos h4, w, if_pos (show (0 : Int) ≤ ((s.length - 2 : Nat) : Int) by omega), if_pos (show ((s.length - 2 : Nat) : Int) ≤ (s.length : Int) by omega), Int.toNat_natCast, x, size_B]
    · by_cases h5 : [45].isSuffixOf s = true
      · have l := (List.isSuffixOf_iff_suffix.1 h5).length_le
        simp only [List.length_cons, List.length_nil] at l
        have w : wrap64 ((s.length : Int) - 1) = ((s.length - 1 : Nat) : Int) := by unfold wrap64; omega
        simp only [if_neg h3, if_neg h4, if_pos h5, w, if_pos (show (0 : Int) ≤ ((s.length - 1 : Nat) : Int) by omega), if_pos (show ((s.length - 1 : Nat) : Int) ≤ (s.length : Int) by omega), Int.toNat_natCast, x, size_B]
      · simp only [if_neg h3, if_neg h4, if_neg h5, size_B]
theorem refPlain_loop (r : List UInt8) : ∀ p : List UInt8, (p ++ r).length ≤ 1000000 →
    Ev (fun k => flailref10_plain.l0 k (B (p ++ r)) (p.length : Int)) (match endG [45, 45, 62] [45, 45, 33, 62] r with | some (t, n) => (B (p ++ t), ((p.length + n : Nat) : Int)) | none => (B (plainEnd (p ++ r)).1, ((plainEnd (p ++ r)).2 : Int))) := by
  induction r with
  | nil =>
    intro p hl
    rw [List.append_nil] at hl ⊢
    exact Ev.step (f := fun _ => some (B (plainEnd p).1, ((plainEnd p).2 : Int))) (fun k => refPlain_tail k p hl) (Ev.now _)
  | cons c r ih =>
    intro p hl
    have hl' := hl
    simp only [List.length_append, List.length_cons] at hl'
    have hw := wrap_nat p.length (by omega)
    have hs : p ++ c :: r = (p ++ [c]) ++ r := by simp
    have hx : (B (p ++ c :: r)).extract p.length (p ++ c :: r).length = B (c :: r) := by rw [extract_drop _ _ (by simp)]; simp
    have hx0 : (B (p ++ c :: r)).extract 0 p.length = B p := by rw [B_extract]; simp
    have w3 : wrap64 ((p.length : Int) + 3) = ((p.length + 3 : Nat) : Int) := by unfold wrap64; omega
    have w4 : wrap64 ((p.length : Int) + 4) = ((p.length + 4 : Nat) : Int) := by unfold wrap64; omega
    have hstep : ∀ k, flailref10_plain.l0 (k + 1) (B (p ++ c :: r)) (p.length : Int) = if [45, 45, 62].isPrefixOf (c :: r) = true then some (B p, ((p.length + 3 : Nat) : Int)) else if [45, 45, 33, 62].isPrefixOf (c :: r) = true then some (B p, ((p.length + 4 : Nat) : Int)) else flailref10_plain.l0 k (B (p ++ c :: r)) ((p.length + 1 : Nat) : Int) := by
      intro k
      rw [flailref10_plain.l0, if_pos (mid_lt p r c), if_pos (by omega), if_pos (by simp; omega), w3, w4, hw]
      simp only [Int.toNat_natCast, size_B, hx, hx0, show (⟨#[45, 45, 62]⟩ : ByteArray) = B [45, 45, 62] from rfl, show (⟨#[45, 45, 33, 62]⟩ : ByteArray) = B [45, 45, 33, 62] from rfl, refPre, Option.bind_some]
    refine Ev.step hstep ?_
    simp only [endG]
    by_cases h1 : [45, 45, 62].isPrefixOf (c :: r) = true
    · simp only [if_pos h1, List.append_nil]; exact Ev.now _
    · by_cases h2 : [45, 45, 33, 62].isPrefixOf (c :: r) = true
      · simp only [if_neg h1, if_pos h2, List.append_nil]; exact Ev.now _
      · simp only [if_neg h1, if_neg h2]
        have := ih (p ++ [c]) (by rw [← hs]; exact hl)
        rw [← hs] at this
        simp only [List.length_append, List.length_singleton] at this
        cases he : endG [45, 45, 62] [45, 45, 33, 62] r with
        | none => rw [he] at this; exact this
        | some x =>
          obtain ⟨t, n⟩ := x
          rw [he] at this
          simp only [List.append_assoc, List.singleton_append] at this
          simp only
          rw [show p.length + (n + 1) = p.length + 1 + n by omega]
          exact this
theorem refPlain (s : List UInt8) (hs : s.length ≤ 1000000) : Ev (fun k => flailref10_plain.f k (B s)) (B (plainL s).1, ((plainL s).2 : Int)) := by
  unfold flailref10_plain.f plainL
  simp only [show (⟨#[62]⟩ : ByteArray) = B [62] from rfl, show (⟨#[45, 62]⟩ : ByteArray) = B [45, 62] from rfl, refPre, Option.bind_some]
  by_cases h1 : [62].isPrefixOf s = true
  · simp only [if_pos h1]; exact Ev.now _
  · by_cases h2 : [45, 62].isPrefixOf s = true
    · simp only [if_neg h1, if_pos h2]; exact Ev.now _
    · simp only [if_neg h1, if_neg h2]
      have := refPlain_loop s [] (by simpa using hs)
      simp only [List.nil_append, List.length_nil, Nat.zero_add] at this
      cases he : endG [45, 45, 62] [45, 45, 33, 62] s with
      | none => rw [he] at this; exact this
      | some x => rw [he] at this; exact this
end Go.Proofs.YtppaobgccdlccaaDoor.Pure

namespace Go.Proofs.YtppaobgccdlccaaDoor.Pure
open Go Go.RowKit Go.Proofs.YtppaobgccdlccaaDoor.K0 Go.Proofs.YtppaobgccdlccaaDoor.Hand Go.Proofs.YtppaobgccdlccaaDoor.Sa Go.Proofs.YtppaobgccdlccaaDoor.Sr Go.Proofs.YtppaobgccdlccaaDoor.Sm Go.Proofs.YtppaobgccdlccaaDoorW.PrintWords Go.Proofs.YtppaobgccdlccaaDoorW.PrintMore Go.Proofs.YtppaobgccdlccaaDoor.Pl Go.Proofs.YtppaobgccdlccaaDoor.Pb

theorem ext_pq (p m r : List UInt8) : (B (p ++ (m ++ r))).extract p.length (p.length + m.length) = B m := by
  rw [B_extract]
  congr 1
  rw [← List.append_assoc, show p.length + m.length = (p ++ m).length by simp, List.take_left, List.drop_left]
theorem bt_pq (p m r : List UInt8) (c : UInt8) : bt (B (p ++ (m ++ c :: r))) ((p.length + m.length : Nat) : Int) = (c.toNat : Int) := by
  rw [← List.append_assoc, show p.length + m.length = (p ++ m).length by simp]; exact bt_mid _ _ _
def bogus (p m r : List UInt8) : Int × ByteArray × ByteArray × List S88 × Bool × Int × Bool :=
  match endG [62] [62] r with
  | some (t, n) => (3, B [], B (cleanL (m ++ t)), [], false, ((p.length + m.length + n : Nat) : Int), true)
  | none => (3, B [], B (cleanL (m ++ r)), [], false, ((p ++ (m ++ r)).length : Int), true)
theorem refBogus_loop (p : List UInt8) : ∀ (r m : List UInt8), (p ++ (m ++ r)).length ≤ 1000000 →
    Ev (fun k => flailref10_Read.l0 k (B (p ++ (m ++ r))) (p.length : Int) ((p.length + m.length : Nat) : Int)) (bogus p m r) := by
  intro r
  induction r with
  | nil =>
    intro m hl
    have hm : m.length ≤ 1000000 := by simp at hl; omega
    have hstep : ∀ k, flailref10_Read.l0 (k + 1) (B (p ++ (m ++ []))) (p.length : Int) ((p.length + m.length : Nat) : Int) = (flailref02_Clean.f k (B m)).bind fun t117 => (some (3, (⟨#[]⟩ : ByteArray), t117, ([] : List (S88)), false, ((p ++ (m ++ [])).length : Int), true)) := by
      intro k
      rw [flailref10_Read.l0, if_neg (by simp), if_pos (by omega), if_pos (by simp; omega), Int.toNat_natCast, size_B]
      rw [show (p ++ (m ++ ([] : List UInt8))).length = p.length + m.length by simp, ext_pq]
    have hb : bogus p m [] = (3, (⟨#[]⟩ : ByteArray), B (cleanL m), ([] : List (S88)), false, ((p ++ (m ++ [])).length : Int), true) := by unfold bogus; simp [endG]
    rw [hb]
    exact Ev.step hstep (Ev.bind (refClean m hm) (Ev.now _))
  | cons c r ih =>
    intro m hl
    have hl' := hl
    simp only [List.length_append, List.length_cons] at hl'
    have hlt : ((p.length + m.length : Nat) : Int) < ((B (p ++ (m ++ c :: r))).size : Int) := by simp; omega
    have w1 : wrap64 (((p.length + m.length : Nat) : Int) + 1) = ((p.length + m.length + 1 : Nat) : Int) := by unfold wrap64; omega
    by_cases hc : c = 62
    · subst hc
      have hb : bogus p m (62 :: r) = (3, B [], B (cleanL (m ++ [])), [], false, ((p.length + m.length + 1 : Nat) : Int), true) := by
        unfold bogus; simp [endG, List.isPrefixOf]
      rw [hb, List.append_nil]
      have hstep : ∀ k, flailref10_Read.l0 (k + 1) (B (p ++ (m ++ 62 :: r))) (p.length : Int) ((p.length + m.length : Nat) : Int) = (flailref02_Clean.f k (B m)).bind fun t116 => (some (3, (⟨#[]⟩ : ByteArray), t116, ([] : List (S88)), false, ((p.length + m.length + 1 : Nat) : Int), true)) := by
        intro k
        rw [flailref10_Read.l0, if_pos hlt, if_pos (by omega), bt_pq, if_pos (by decide), if_pos (by omega), if_pos (by omega), if_pos (by omega), w1]
        simp only [Int.toNat_natCast, ext_pq]
      exact Ev.step hstep (Ev.bind (refClean m (by omega)) (Ev.now _))
    · have hs : p ++ (m ++ c :: r) = p ++ ((m ++ [c]) ++ r) := by simp
      have hb : bogus p m (c :: r) = bogus p (m ++ [c]) r := by
        have h62 : ((62 : UInt8) == c) = false := by simpa using (fun e => hc e.symm)
        unfold bogus
        simp only [endG, List.isPrefixOf, h62, Bool.false_and, Bool.false_eq_true, if_false]
        cases endG [62] [62] r with
        | none => simp
        | some x => simp; omega
      have := ih (m ++ [c]) (by rw [← hs]; exact hl)
      rw [hb]
      rw [← hs, List.length_append, List.length_singleton, ← Nat.add_assoc] at this
      refine Ev.step (fun k => ?_) this
      rw [flailref10_Read.l0, if_pos hlt, if_pos (by omega), bt_pq, if_neg (by rw [u62]; exact hc), w1]
theorem refBogus (s : List UInt8) (n : Nat) (hn : n ≤ s.length) (hs : s.length ≤ 1000000) :
    Ev (fun k => flailref10_Read.j0 k (B s) (n : Int)) (3, B [], B (cleanL (otherL (s.drop n)).1), [], false, ((n + (otherL (s.drop n)).2 : Nat) : Int), true) := by
  have h := refBogus_loop (s.take n) (s.drop n) [] (by simpa using hs)
  have hl : (s.take n).length = n := by simp; omega
  rw [List.nil_append, List.take_append_drop, hl] at h
  simp only [List.length_nil, Nat.add_zero] at h
  have hb : bogus (s.take n) [] (s.drop n) = (3, B [], B (cleanL (otherL (s.drop n)).1), [], false, ((n + (otherL (s.drop n)).2 : Nat) : Int), true) := by
    unfold bogus otherL
    cases he : endG [62] [62] (s.drop n) with
    | none => simp [hl]; omega
    | some x => simp [hl]
  rw [hb] at h
  exact Ev.step (fun k => by rw [flailref10_Read.j0]) h
end Go.Proofs.YtppaobgccdlccaaDoor.Pure

