/-
  Plain: what stands at the beginning of a text (letters large or small), a tag's end, a program's word; where a program ends.
  The printed functions sign.Begins, raw.Ends, script.word, sign.Space, sign.Letter as plain functions of the text from a place on.
  Plain: a reference by a number.
  Hand walk: number.Read.
  Hand walks: ref.kept, ref.Read.
  What an ampersand means, as a function; a text with all its references read.
  Hand walk: ref.Decode.
  Plain: a row with a key begins where the key and a blank stand.
  Plain: what else holds of each row of the table: how long its key is, which bytes it has; its value read digit by digit.
  What some references mean: by the names amp, lt, gt, quot, nbsp, with a semicolon; by decimal digits; whatever stands behind.
  Plain: what is written is read as just that: references of a written text, and whether they all end.
  Walk of a law: EscapeBack.
  Closed facts about this seat's program alone, each by the kernel, once.
  For the rows of this seat: a call's contract lifted where the row lists package-level variables and the proof wants the world's shape.
-/
import Derived.Test.YtdheknlnhfegnaaGreatDoorPl0
import Derived.Test.YtdheknlnhfegnaaGreatDoorZba
import Derived.Test.YtdheknlnhfegnaaGreatDoorHa1
import Derived.Test.YtdheknlnhfegnaaGreatDoorSa
import Derived.Test.YtdheknlnhfegnaaGreatDoorZbb
import Derived.Lib.Builder
import Derived.Test.YtdheknlnhfegnaaGreatDoorSg
import Derived.JoinedOf
import Derived.KernelRfl
import Derived.SevenTiedAt
import Derived.Test.YtdheknlnhfegnaaGreatDoorRows
import Derived.Test.YtdheknlnhfegnaaGreatDoorCards
import Derived.ProofKit
import Derived.Handed
import Derived.SizedLaws
import Derived.LaidMore
import Derived.Lay
import Derived.LaidLaws
import Derived.ChangeBears2
import Derived.MakeChecks
import Derived.Shelf.Vars
import Derived.Stop.Joined
import Derived.Test.YtdheknlnhfegnaaGreatDoorShelf
import Derived.Test.YtdheknlnhfegnaaGreatDoorHa0
namespace Go.Proofs.YtdheknlnhfegnaaGreatDoor.Pl

def isSp (c : UInt8) : Bool := c == 32 || c == 9 || c == 10 || c == 12
/-- a blank, a stroke or a bracket -/
def stops (c : UInt8) : Bool := isSp c || c == 47 || c == 62
def begR : List UInt8 → List UInt8 → Bool
  | _, [] => true
  | [], _ :: _ => false
  | c :: r, d :: low => lowB c == d && begR r low
theorem begR_eq (low : List UInt8) : ∀ r, (lowL (r.take low.length) == low) = begR r low := by
  induction low with
  | nil => intro r; cases r <;> rfl
  | cons d low ih =>
    intro r
    cases r with
    | nil => rfl
    | cons c r =>
      have := ih r
      simp only [List.length_cons, List.take_succ_cons, begR, lowL, List.map_cons] at this ⊢
      rw [← this]; rfl
theorem begR_append (a b : List UInt8) : ∀ r, begR r (a ++ b) = (begR r a && begR (r.drop a.length) b) := by
  induction a with
  | nil => intro r; simp [begR]
  | cons d a ih =>
    intro r
    cases r with
    | nil => simp [begR]
    | cons c r => simp [begR, ih, Bool.and_assoc]
theorem begR_length (low : List UInt8) : ∀ r, begR r low = true → low.length ≤ r.length := by
  induction low with
  | nil => intro r _; simp
  | cons d low ih =>
    intro r h
    cases r with
    | nil => simp [begR] at h
    | cons c r =>
      simp only [begR, Bool.and_eq_true] at h
      have := ih r h.2
      simp; omega
theorem lowB_idem (c : UInt8) : lowB (lowB c) = lowB c := by
  have : ∀ n : Fin 256, lowB (lowB (UInt8.ofNat n.val)) = lowB (UInt8.ofNat n.val) := by decide +kernel
  have h := this ⟨c.toNat, c.toNat_lt⟩
  simpa using h
theorem begR_low (low : List UInt8) : ∀ r, begR (lowL r) low = begR r low := by
  induction low with
  | nil => intro r; cases r <;> rfl
  | cons d low ih =>
    intro r
    cases r with
    | nil => rfl
    | cons c r =>
      have := ih r
      simp only [lowL, List.map_cons, begR] at this ⊢
      rw [lowB_idem, this]
theorem stops_low (c : UInt8) : stops (lowB c) = stops c := by
  have : ∀ n : Fin 256, stops (lowB (UInt8.ofNat n.val)) = stops (UInt8.ofNat n.val) := by decide +kernel
  have h := this ⟨c.toNat, c.toNat_lt⟩
  simpa using h
def stopAt (r : List UInt8) : Bool := match r with | [] => false | c :: _ => stops c
theorem stopAt_low (r : List UInt8) : stopAt (lowL r) = stopAt r := by
  cases r with
  | nil => rfl
  | cons c r => exact stops_low c
theorem lowL_drop (r : List UInt8) (n : Nat) : (lowL r).drop n = lowL (r.drop n) := by simp [lowL]
/-- does a tag's end stand there -/
def endsL (r name : List UInt8) : Bool := !name.isEmpty && begR r [60, 47] && begR (r.drop 2) name && stopAt (r.drop (2 + name.length))
def scriptL : List UInt8 := [115, 99, 114, 105, 112, 116]
def wordL (r opens : List UInt8) : Bool := begR r (opens ++ scriptL) && stopAt (r.drop (opens.length + 6))
theorem endsL_low (r name : List UInt8) : endsL (lowL r) name = endsL r name := by
  unfold endsL; rw [lowL_drop, lowL_drop, begR_low, begR_low, stopAt_low]
theorem wordL_low (r opens : List UInt8) : wordL (lowL r) opens = wordL r opens := by
  unfold wordL; rw [lowL_drop, begR_low, stopAt_low]

/-! ### where a program ends: one step: nothing: it ends here; else how many bytes are passed, the new state, the new number of strokes -/
def stepF (st ct : Nat) (r : List UInt8) : Option (Nat × Nat × Nat) :=
  match r with
  | [] => none
  | c :: _ =>
    if st ≠ 2 ∧ endsL r scriptL = true then none
    else if st = 0 then (if begR r [60, 33, 45, 45] = true then some (4, 1, 2) else some (1, 0, ct))
    else if c = 45 then some (1, st, ct + 1)
    else if c = 62 ∧ 2 ≤ ct then some (1, 0, 0)
    else if st = 1 then (if wordL r [60] = true then some (8, 2, 0) else some (1, 1, 0))
    else (if wordL r [60, 47] = true then some (9, 1, 0) else some (1, 2, 0))
theorem stepF_adv {st ct : Nat} {r : List UInt8} {n st' ct' : Nat} (h : stepF st ct r = some (n, st', ct')) : 1 ≤ n ∧ n ≤ r.length := by
  have hb : ∀ low, begR r low = true → low.length ≤ r.length := fun low => begR_length low r
  have hw : ∀ o, wordL r o = true → o.length + 7 ≤ r.length := by
    intro o hw
    simp only [wordL, Bool.and_eq_true] at hw
    have h2 := hw.2
    have : r.drop (o.length + 6) ≠ [] := by intro e; rw [e] at h2; simp [stopAt] at h2
    have := List.length_pos_iff.2 this
    simp at this; omega
  cases r with
  | nil => simp [stepF] at h
  | cons c r =>
    simp only [stepF] at h
    have h4 := hb [60, 33, 45, 45]
    have h8 := hw [60]
    have h9 := hw [60, 47]
    simp only [List.length_cons, List.length_nil] at h4 h8 h9 ⊢
    repeat' split at h
    all_goals first
      | (cases h; done)
      | (simp only [Option.some.injEq, Prod.mk.injEq] at h; obtain ⟨rfl, _⟩ := h; simp_all; done)
      | (simp only [Option.some.injEq, Prod.mk.injEq] at h; obtain ⟨rfl, _⟩ := h; simp_all; omega)
def runF : Nat → Nat → Nat → List UInt8 → Nat × Nat
  | 0, st, _, _ => (0, st)
  | f + 1, st, ct, r => match stepF st ct r with
    | none => (0, st)
    | some (n, st', ct') => ((n + (runF f st' ct' (r.drop n)).1), (runF f st' ct' (r.drop n)).2)
theorem runF_more (f : Nat) : ∀ st ct r f', r.length ≤ f → r.length ≤ f' → runF f st ct r = runF f' st ct r := by
  induction f with
  | zero =>
    intro st ct r f' h h'
    obtain rfl : r = [] := List.eq_nil_of_length_eq_zero (by omega)
    cases f' <;> simp [runF, stepF]
  | succ f ih =>
    intro st ct r f' h h'
    cases f' with
    | zero =>
      obtain rfl : r = [] := List.eq_nil_of_length_eq_zero (by omega)
      simp [runF, stepF]
    | succ f' =>
      simp only [runF]
      cases hs : stepF st ct r with
      | none => rfl
      | some x =>
        obtain ⟨n, st', ct'⟩ := x
        have ha := stepF_adv hs
        simp only
        rw [ih st' ct' (r.drop n) f' (by simp; omega) (by simp; omega)]
/-- from a state on: how many bytes, and within what -/
def findL (st ct : Nat) (r : List UInt8) : Nat × Nat := runF r.length st ct r
theorem findL_none {st ct : Nat} {r : List UInt8} (h : stepF st ct r = none) : findL st ct r = (0, st) := by
  unfold findL
  cases hr : r.length with
  | zero => rfl
  | succ n => simp [runF, h]
theorem findL_some {st ct : Nat} {r : List UInt8} {n st' ct' : Nat} (h : stepF st ct r = some (n, st', ct')) : findL st ct r = (n + (findL st' ct' (r.drop n)).1, (findL st' ct' (r.drop n)).2) := by
  have ha := stepF_adv h
  have e1 : runF r.length st ct r = runF (r.length + 1) st ct r := runF_more _ _ _ _ _ (Nat.le_refl _) (by omega)
  unfold findL
  rw [e1]
  simp only [runF, h]
  rw [runF_more r.length st' ct' (r.drop n) (r.drop n).length (by simp) (Nat.le_refl _)]
end Go.Proofs.YtdheknlnhfegnaaGreatDoor.Pl

namespace Go.Proofs.YtdheknlnhfegnaaGreatDoor.Pure
open Go Go.RowKit Go.Proofs.YtdheknlnhfegnaaGreatDoor.Hand Go.Proofs.YtdheknlnhfegnaaGreatDoor.Sa Go.Proofs.YtdheknlnhfegnaaGreatDoorW.PrintWords Go.Proofs.YtdheknlnhfegnaaGreatDoor.Pl Go.Proofs.YtdheknlnhfegnaaGreatDoor.Pb
attribute [local simp] B_nil

theorem norm_f (l : List UInt8) (h : l.length ≤ 1000000000) : lines_Norm.f (B l) = some (B (normL l)) := by
  unfold lines_Norm.f; rw [if_pos (by simpa using h)]; simp [normB, B]
theorem clean_f (l : List UInt8) (h : l.length ≤ 1000000000) : lines_Clean.f (B l) = some (B (cleanL l)) := by
  unfold lines_Clean.f; rw [if_pos (by simpa using h)]; simp [cleanBA, B]
theorem lower_f (l : List UInt8) (h : l.length ≤ 1000000000) : sign_Lower.f (B l) = some (B (lowL l)) := by
  unfold sign_Lower.f; rw [if_pos (by simpa using h)]; simp [lowBA, B]

theorem u8c (c : UInt8) (n : Nat) (m : Int) (d : UInt8) (h : n < 256) (e : (n : Int) = m) (ed : UInt8.ofNat n = d) : (((c.toNat : Int)) = m) = (c = d) := by
  rw [← e, ← ed]; exact u8_eq c n h
theorem u32 (c : UInt8) : ((c.toNat : Int) = 32) = (c = 32) := u8c c 32 _ _ (by omega) rfl rfl
theorem u9 (c : UInt8) : ((c.toNat : Int) = 9) = (c = 9) := u8c c 9 _ _ (by omega) rfl rfl
theorem u10 (c : UInt8) : ((c.toNat : Int) = 10) = (c = 10) := u8c c 10 _ _ (by omega) rfl rfl
theorem u12 (c : UInt8) : ((c.toNat : Int) = 12) = (c = 12) := u8c c 12 _ _ (by omega) rfl rfl
theorem u13 (c : UInt8) : ((c.toNat : Int) = 13) = (c = 13) := u8c c 13 _ _ (by omega) rfl rfl
theorem u0 (c : UInt8) : ((c.toNat : Int) = 0) = (c = 0) := u8c c 0 _ _ (by omega) rfl rfl
theorem u33 (c : UInt8) : ((c.toNat : Int) = 33) = (c = 33) := u8c c 33 _ _ (by omega) rfl rfl
theorem u45 (c : UInt8) : ((c.toNat : Int) = 45) = (c = 45) := u8c c 45 _ _ (by omega) rfl rfl
theorem u47 (c : UInt8) : ((c.toNat : Int) = 47) = (c = 47) := u8c c 47 _ _ (by omega) rfl rfl
theorem u60 (c : UInt8) : ((c.toNat : Int) = 60) = (c = 60) := u8c c 60 _ _ (by omega) rfl rfl
theorem u62 (c : UInt8) : ((c.toNat : Int) = 62) = (c = 62) := u8c c 62 _ _ (by omega) rfl rfl
theorem u63 (c : UInt8) : ((c.toNat : Int) = 63) = (c = 63) := u8c c 63 _ _ (by omega) rfl rfl
theorem ub (c : UInt8) {m : Int} {d : UInt8} (h : ((c.toNat : Int) = m) = (c = d)) : (((c.toNat : Int)) == m) = (c == d) := by
  rw [Bool.eq_iff_iff, beq_iff_eq, beq_iff_eq, h]

theorem space_f (c : UInt8) : sign_Space.f (c.toNat : Int) = some (isSp c) := by
  unfold sign_Space.f isSp
  simp only [u32, u9, u10, ub c (u12 c)]
  by_cases h1 : c = 32
  · simp [h1]
  · by_cases h2 : c = 9
    · simp [h2]
    · by_cases h3 : c = 10
      · simp [h3]
      · simp [h1, h2, h3]

/-- a byte of the text from a place on -/
theorem bt_drop (s : List UInt8) (n : Nat) (c : UInt8) (r : List UInt8) (h : s.drop n = c :: r) : bt (B s) (n : Int) = (c.toNat : Int) := by
  have hlt : n < s.length := by
    rcases Nat.lt_or_ge n s.length with h' | h'
    · exact h'
    · rw [List.drop_eq_nil_of_le h'] at h; cases h
  rw [bt_B s n hlt]
  rw [List.drop_eq_getElem_cons hlt] at h
  rw [(List.cons.inj h).1]
theorem drop_lt {s : List UInt8} {n : Nat} {c : UInt8} {r : List UInt8} (h : s.drop n = c :: r) : n < s.length := by
  rcases Nat.lt_or_ge n s.length with h' | h'
  · exact h'
  · rw [List.drop_eq_nil_of_le h'] at h; cases h
theorem drop_nil {s : List UInt8} {n : Nat} (h : s.drop n = []) : s.length ≤ n := by
  rcases Nat.lt_or_ge n s.length with h' | h'
  · rw [List.drop_eq_getElem_cons h'] at h; cases h
  · exact h'

theorem begins_f (s low : List UInt8) (n : Nat) (hs : s.length ≤ 1000000) (hl : low.length ≤ 1000000) (hn : n ≤ s.length) :
    sign_Begins.f (B s) (n : Int) (B low) = some (begR (s.drop n) low) := by
  unfold sign_Begins.f
  have w1 : wrap64 (((B s).size : Int) - (n : Int)) = ((s.length - n : Nat) : Int) := by rw [size_B]; unfold wrap64; omega
  have w2 : wrap64 ((n : Int) + ((B low).size : Int)) = ((n + low.length : Nat) : Int) := by rw [size_B]; unfold wrap64; omega
  rw [if_neg (by omega), if_neg (by simp; omega), w1, w2]
  by_cases h : s.length - n < low.length
  · rw [if_pos (by simp; omega)]
    have : begR (s.drop n) low = false := by
      rw [Bool.eq_false_iff]; intro e
      have := begR_length low _ e
      simp at this; omega
    rw [this]
  · rw [if_neg (by simp; omega), if_pos (by omega), if_pos (by omega), if_pos (by simp; omega)]
    have hx : (B s).extract ((n : Int)).toNat (((n + low.length : Nat) : Int)).toNat = B ((s.drop n).take low.length) := by
      rw [B_extract]; congr 1
      simp only [Int.toNat_natCast, List.drop_take]
      congr 1; omega
    rw [hx, lower_f _ (by simp; omega), Option.bind_some, toList_B, toList_B, begR_eq]
theorem begins_past (s low : List UInt8) (n : Int) (h : n < 0 ∨ (s.length : Int) < n) : sign_Begins.f (B s) n (B low) = some false := by
  unfold sign_Begins.f
  rcases h with h | h
  · rw [if_pos h]
  · by_cases h0 : n < 0
    · rw [if_pos h0]
    · rw [if_neg h0, if_pos (by simpa using h)]

theorem stop_bt (c : UInt8) : ((sign_Space.f (c.toNat : Int)).bind fun t => if t = true then some true else if (c.toNat : Int) = 47 then some true else some (((c.toNat : Int)) == 62)) = some (stops c) := by
  simp only [space_f, Option.bind_some, u47, ub c (u62 c)]
  unfold stops
  cases isSp c
  · by_cases h : c = 47 <;> simp [h]
  · simp
theorem ends_f (k : Nat) (s name : List UInt8) (n : Nat) (hs : s.length ≤ 1000000) (hl : name.length ≤ 1000000) (hn : n ≤ s.length) :
    raw_Ends.f (k + 1) (B s) (n : Int) (B name) = some (endsL (s.drop n) name) := by
  unfold raw_Ends.f
  have j_true : raw_Ends.j0 (k + 1) (B s) (n : Int) (B name) true = some false := by rw [raw_Ends.j0, if_pos rfl]
  by_cases he : name = []
  · subst he
    rw [if_pos (by simp), j_true]; rfl
  · rw [if_neg (by simpa using he), show (⟨#[60, 47]⟩ : ByteArray) = B [60, 47] from rfl, begins_f s [60, 47] n hs (by simp) hn, Option.bind_some]
    have hne : name.isEmpty = false := by simpa using he
    unfold endsL
    rw [hne]
    cases h1 : begR (s.drop n) [60, 47] with
    | false => simp [j_true]
    | true =>
      have l1 := begR_length _ _ h1
      simp only [List.length_drop, List.length_cons, List.length_nil] at l1
      have w2 : wrap64 ((n : Int) + 2) = ((n + 2 : Nat) : Int) := by unfold wrap64; omega
      rw [if_pos rfl, w2, begins_f s name (n + 2) hs hl (by omega), Option.bind_some, List.drop_drop]
      cases h2 : begR (s.drop (n + 2)) name with
      | false => simp [j_true]
      | true =>
        have l2 := begR_length _ _ h2
        simp only [List.length_drop] at l2
        have w3 : wrap64 (wrap64 ((n : Int) + 2) + ((B name).size : Int)) = ((n + 2 + name.length : Nat) : Int) := by rw [w2, size_B]; unfold wrap64; omega
        rw [Bool.not_true, raw_Ends.j0, if_neg (by simp), w3, List.drop_drop]
        have hd : n + (2 + name.length) = n + 2 + name.length := by omega
        rw [hd]
        cases hr : s.drop (n + 2 + name.length) with
        | nil =>
          have := drop_nil hr
          rw [if_pos (by simp; omega)]; rfl
        | cons c r =>
          have hlt := drop_lt hr
          rw [if_neg (by simp; omega), if_pos (by omega), if_pos (by simp; omega), bt_drop s _ c r hr, stop_bt]
          rfl
theorem word_f (k : Nat) (s opens : List UInt8) (n : Nat) (hs : s.length ≤ 1000000) (hl : opens.length ≤ 1000) (hn : n ≤ s.length) :
    script_word.f (k + 1) (B s) (n : Int) (B opens) = some (if wordL (s.drop n) opens = true then ((opens.length + 7 : Nat) : Int) else 0) := by
  unfold script_word.f
  rw [if_pos (by simp; omega), show (⟨#[115, 99, 114, 105, 112, 116]⟩ : ByteArray) = B scriptL from rfl, B_append, begins_f s (opens ++ scriptL) n hs (by simp [scriptL]; omega) hn, Option.bind_some]
  have w1 : wrap64 (((B opens).size : Int) + 6) = ((opens.length + 6 : Nat) : Int) := by rw [size_B]; unfold wrap64; omega
  have w2 : wrap64 ((n : Int) + ((opens.length + 6 : Nat) : Int)) = ((n + (opens.length + 6) : Nat) : Int) := by unfold wrap64; omega
  have w3 : wrap64 (((opens.length + 6 : Nat) : Int) + 1) = ((opens.length + 7 : Nat) : Int) := by unfold wrap64; omega
  rw [w1, w2]
  have j_true : script_word.j0 (k + 1) (B s) (n : Int) ((opens.length + 6 : Nat) : Int) true = some 0 := by rw [script_word.j0, if_pos rfl]
  unfold wordL
  cases h1 : begR (s.drop n) (opens ++ scriptL) with
  | false => rw [if_neg (by simp), j_true, if_neg (by simp)]
  | true =>
    rw [if_pos rfl, List.drop_drop]
    cases hr : s.drop (n + (opens.length + 6)) with
    | nil =>
      have h2 := drop_nil hr
      have l1 := begR_length _ _ h1
      simp [scriptL] at l1
      rw [show (((n + (opens.length + 6) : Nat) : Int) == ((B s).size : Int)) = true by simp; omega, j_true]
      simp [stopAt]
    | cons c r =>
      have hlt := drop_lt hr
      rw [show (((n + (opens.length + 6) : Nat) : Int) == ((B s).size : Int)) = false by simp; omega, script_word.j0, if_neg (by simp), w2, if_pos (by omega), if_pos (by simp; omega), bt_drop s _ c r hr, space_f, Option.bind_some, w3]
      simp only [u47, u62]
      simp only [stopAt, stops, Bool.true_and]
      cases isSp c
      · by_cases h47 : c = 47
        · simp [h47]
        · by_cases h62 : c = 62 <;> simp [h47, h62]
      · simp
end Go.Proofs.YtdheknlnhfegnaaGreatDoor.Pure

namespace Go.Proofs.YtdheknlnhfegnaaGreatDoor.Pl
open Go

def isDigB (c : UInt8) : Bool := decide (48 ≤ c.toNat) && decide (c.toNat ≤ 57)
def isDg (six : Bool) (c : UInt8) : Bool := isDigB c || (six && decide (0 ≤ hexV c))
def baseN : Bool → Nat
  | true => 16
  | false => 10
def digs (six : Bool) (q : List UInt8) : List UInt8 := q.takeWhile (isDg six)
/-- what begins with the digits, and how long it is, the semicolon counted -/
def numQ (six : Bool) (q : List UInt8) : Option (Nat × Nat) :=
  let v := valL (baseN six) (digs six q)
  if v < 0 then none else some (v.toNat, (digs six q).length + if begR (q.drop (digs six q).length) [59] = true then 1 else 0)
/-- a reference by a number: the number, and how long it is -/
def numL (r : List UInt8) : Option (Nat × Nat) :=
  if begR r [35] = true then
    (if begR (r.drop 1) [120] = true then (numQ true (r.drop 2)).map fun x => (x.1, x.2 + 2) else (numQ false (r.drop 1)).map fun x => (x.1, x.2 + 1))
  else none
theorem takeWhile_le {α : Type} (p : α → Bool) (l : List α) : (l.takeWhile p).length ≤ l.length := by
  induction l with
  | nil => simp
  | cons a l ih => rw [List.takeWhile_cons]; split <;> simp <;> omega
theorem digs_le (six : Bool) (q : List UInt8) : (digs six q).length ≤ q.length := takeWhile_le _ q
theorem begR_one {q : List UInt8} {d : UInt8} (h : begR q [d] = true) : 1 ≤ q.length := by
  cases q with
  | nil => simp [begR] at h
  | cons c r => simp
theorem numQ_le {six : Bool} {q : List UInt8} {n k : Nat} (h : numQ six q = some (n, k)) : n ≤ 1114112 ∧ k ≤ q.length ∧ 1 ≤ k := by
  unfold numQ at h
  simp only at h
  have hb := valL_bound (baseN six) (digs six q)
  have hd := digs_le six q
  split at h
  · cases h
  · rename_i hv
    obtain ⟨h1, h2⟩ := Prod.mk.inj (Option.some.inj h)
    subst h1; subst h2
    refine ⟨by omega, ?_, ?_⟩
    · split
      · rename_i hb
        have := begR_one hb
        rw [List.length_drop] at this
        omega
      · omega
    · have : digs six q ≠ [] := by
        intro e
        apply hv
        rw [e]; exact (show (-1 : Int) < 0 by decide)
      have := List.length_pos_iff.2 this
      omega
theorem numL_le {r : List UInt8} {n k : Nat} (h : numL r = some (n, k)) : n ≤ 1114112 ∧ k ≤ r.length ∧ 2 ≤ k := by
  unfold numL at h
  split at h
  · rename_i h1
    have l1 := begR_one h1
    split at h
    · rename_i h2
      have l2 := begR_one h2
      rw [List.length_drop] at l2
      obtain ⟨⟨a, b⟩, hx, e⟩ := Option.map_eq_some_iff.1 h
      obtain ⟨h3, h4⟩ := Prod.mk.inj e
      obtain ⟨g1, g2, g3⟩ := numQ_le hx
      rw [List.length_drop] at g2
      simp only at h3 h4
      omega
    · obtain ⟨⟨a, b⟩, hx, e⟩ := Option.map_eq_some_iff.1 h
      obtain ⟨h3, h4⟩ := Prod.mk.inj e
      obtain ⟨g1, g2, g3⟩ := numQ_le hx
      rw [List.length_drop] at g2
      simp only at h3 h4
      omega
  · cases h
end Go.Proofs.YtdheknlnhfegnaaGreatDoor.Pl

namespace Go.Proofs.YtdheknlnhfegnaaGreatDoor.Hand
open Go.RowKit Go.Proofs.YtdheknlnhfegnaaGreatDoor.Pb Go.Proofs.YtdheknlnhfegnaaGreatDoor.Pl Go.Proofs.YtdheknlnhfegnaaGreatDoor.Sa Go.Proofs.YtdheknlnhfegnaaGreatDoor.Pure Go.Proofs.YtdheknlnhfegnaaGreatDoorW.PrintWords

theorem nbegins_c (s low : List UInt8) (n : Nat) (hs : s.length ≤ 1000000) (hl : low.length ≤ 1000000) (hn : n ≤ s.length) (w : World) :
    Calls Tryz.prog 24 #[.string (B s), .int .i64 (n : Int), .string (B low)] w fun e w' => e = .returned (.bool (begR (s.drop n) low)) ∧ Below w.heap.size w w' :=
  sign_Begins.calls _ _ _ _ w (begins_f s low n hs hl hn)
theorem digit_f (c : UInt8) : sign_Digit.f (c.toNat : Int) = some (isDigB c) := by
  unfold sign_Digit.f sign_within.f isDigB
  by_cases h : 48 ≤ c.toNat
  · rw [if_pos (by omega), Option.bind_some, decide_eq_true h, Bool.true_and]
    congr 1
    rw [Bool.eq_iff_iff, decide_eq_true_eq, decide_eq_true_eq]; omega
  · rw [if_neg (by omega), Option.bind_some, decide_eq_false h, Bool.false_and]
theorem digit_c (c : UInt8) (w : World) : Calls Tryz.prog 73 #[.int .u8 (c.toNat : Int)] w fun e w' => e = .returned (.bool (isDigB c)) ∧ Below w.heap.size w w' :=
  (sign_Digit.calls _ _ w (digit_f c)).mono fun _ _ h => ⟨h.1, h.2.below⟩
/-- what is told of a reference by a number -/
def numT (s : List UInt8) (at_ : Nat) : Value := match numL (s.drop at_) with
  | some (n, k) => .tuple #[.string (fixB n), .int .i64 ((at_ + k : Nat) : Int), .bool true]
  | none => .tuple #[.string ⟨#[]⟩, .int .i64 (at_ : Int), .bool false]
/-- the same from the digits on -/
def numU (s : List UInt8) (at_ i : Nat) (six : Bool) : Value := match numQ six (s.drop i) with
  | some (n, k) => .tuple #[.string (fixB n), .int .i64 ((i + k : Nat) : Int), .bool true]
  | none => .tuple #[.string ⟨#[]⟩, .int .i64 (at_ : Int), .bool false]
theorem digs_at {six : Bool} {q : List UInt8} {k : Nat} (h1 : ∀ j, (h : j < q.length) → j < k → isDg six q[j] = true) (h2 : k = q.length ∨ ∃ h : k < q.length, isDg six q[k] = false) : digs six q = q.take k := by
  unfold digs
  induction q generalizing k with
  | nil => simp
  | cons c r ih =>
    cases k with
    | zero =>
      rcases h2 with h | ⟨h, e⟩
      · cases h
      · rw [List.takeWhile_cons]; simp only [List.getElem_cons_zero] at e; rw [e]; rfl
    | succ k =>
      have e := h1 0 (by simp) (by omega)
      simp only [List.getElem_cons_zero] at e
      rw [List.takeWhile_cons, e, if_pos rfl, List.take_succ_cons, ih (k := k)]
      · intro j h hj
        have := h1 (j + 1) (by simp; omega) (by omega)
        simpa using this
      · rcases h2 with h | ⟨h, e⟩
        · left; simpa using h
        · right; exact ⟨by simpa using h, by simpa using e⟩
/-- where the digits end -/
theorem num_exit (s : List UInt8) (n i k : Nat) (six : Bool) (hs : s.length ≤ 100000) (hik : i ≤ k) (hk : k ≤ s.length) (h1 : ∀ j (h : j < s.length), i ≤ j → j < k → isDg six s[j] = true) (h2 : k = s.length ∨ ∃ h : k < s.length, isDg six s[k] = false) :
    ∃ v : Int, (∀ W, Calls Tryz.prog 75 #[.string ((B s).extract i k), .bool six] W fun e w' => e = .returned (.int .i64 v) ∧ Below W.heap.size W w') ∧
      ((v = -1 ∧ numU s n i six = .tuple #[.string ⟨#[]⟩, .int .i64 (n : Int), .bool false]) ∨
       ∃ m : Nat, v = m ∧ m ≤ 1114112 ∧ ∃ b3, (∀ W, Calls Tryz.prog 24 #[.string (B s), .int .i64 (k : Int), .string ⟨#[59]⟩] W fun e w' => e = .returned (.bool b3) ∧ Below W.heap.size W w') ∧ (b3 = true → k + 1 ≤ s.length) ∧
         numU s n i six = .tuple #[.string (fixB m), .int .i64 ((k + if b3 = true then 1 else 0 : Nat) : Int), .bool true]) := by
  have hd : digs six (s.drop i) = (s.drop i).take (k - i) := by
    apply digs_at
    · intro j h hj
      rw [List.length_drop] at h
      have := h1 (i + j) (by omega) (by omega) (by omega)
      rw [List.getElem_drop]; exact this
    · rcases h2 with h | ⟨h, e⟩
      · left; rw [List.length_drop]; omega
      · right
        refine ⟨by rw [List.length_drop]; omega, ?_⟩
        rw [List.getElem_drop]
        have : i + (k - i) = k := by omega
        simp only [this]; exact e
  have he : (B s).extract i k = B (digs six (s.drop i)) := by rw [hd, B_extract, List.drop_take]
  have hl : (digs six (s.drop i)).length = k - i := by rw [hd, List.length_take, List.length_drop]; omega
  refine ⟨valL (baseN six) (digs six (s.drop i)), fun W => by rw [he]; exact value_at (baseN six) six (by cases six <;> rfl) _ (by rw [hl]; omega) W, ?_⟩
  have hb := valL_bound (baseN six) (digs six (s.drop i))
  unfold numU numQ
  simp only
  by_cases hv : valL (baseN six) (digs six (s.drop i)) < 0
  · left
    refine ⟨by omega, ?_⟩
    rw [if_pos hv]
  · right
    refine ⟨(valL (baseN six) (digs six (s.drop i))).toNat, by omega, by omega, begR (s.drop k) [59], fun W => nbegins_c s [59] k (by omega) (by decide) hk W, fun h => ?_, ?_⟩
    · have := begR_one h; rw [List.length_drop] at this; omega
    · rw [if_neg hv, hl, List.drop_drop, show i + (k - i) = k by omega]
      simp only [← Nat.add_assoc, show i + (k - i) = k by omega]
set_option maxRecDepth 100000 in
set_option maxHeartbeats 8000000 in
theorem number_c (s : List UInt8) (n : Nat) (hs : s.length ≤ 100000) (hn : n ≤ s.length) (w : World) :
    Calls Tryz.prog 49 #[.string (B s), .int .i64 (n : Int)] w fun e w' => e = .returned (numT s n) ∧ Below w.heap.size w w' := by
  have BG := Lib.hid (fun (low : List UInt8) (hl : low.length ≤ 1000000) (i : Nat) (hi : i ≤ s.length) W => nbegins_c s low i (by omega) hl hi W)
  have DG := Lib.hid (fun c W => digit_c c W)
  have HX := Lib.hid (fun c W => hex_c c W)
  have VA := Lib.hid (fun (six : Bool) (d : List UInt8) (hd : d.length ≤ 1000000) W => value_at (baseN six) six (by cases six <;> rfl) d hd W)
  have FX := Lib.hid (fun (k : Nat) (hk : k ≤ 1114112) W => fix_c k hk W)
  have B1 := BG.out [35] (by decide) n hn w
  obtain ⟨b1, hb1⟩ : ∃ b, begR (s.drop n) [35] = b := ⟨_, rfl⟩
  rw [hb1] at B1
  have HB1 := Lib.hid B1
  obtain ⟨T, hT⟩ : ∃ T, numT s n = T := ⟨_, rfl⟩
  rw [hT]
  obtain ⟨a, ha⟩ : ∃ a, B s = a := ⟨_, rfl⟩
  have hsz : a.size = s.length := by rw [← ha]; simp
  have hX : ∀ i (h : i < a.size), s[i]? = some a[i] := fun i h => by
    subst ha
    have hl : i < s.length := by simpa using h
    rw [List.getElem?_eq_getElem hl]
    rfl
  have hcut : ∀ i j, a.extract i j = B ((s.take j).drop i) := fun i j => by rw [← ha, B_extract]
  cases b1 with
  | false =>
    have hT2 : T = .tuple #[.string ⟨#[]⟩, .int .i64 (n : Int), .bool false] := by
      rw [← hT]; unfold numT numL; rw [hb1, if_neg (by decide)]
    subst hT2
    rw [ha] at HB1 ⊢
    clear B1 BG hb1 hT ha hsz hX hcut DG HX VA FX
    go_enter Tryz.func49, Tryz.ntmps49
    go_wp2_with fail
    refine HB1.out.mono ?_
    rintro e w1 ⟨rfl, hb⟩
    go_wp2_with fail
    go_ret3
    exact ⟨rfl, hb⟩
  | true =>
    have hn1 : n + 1 ≤ s.length := by have := begR_one hb1; rw [List.length_drop] at this; omega
    have B2 := fun W => BG.out [120] (by decide) (n + 1) hn1 W
    obtain ⟨six, hsix⟩ : ∃ b, begR (s.drop (n + 1)) [120] = b := ⟨_, rfl⟩
    rw [hsix] at B2
    have HB2 := Lib.hid B2
    have hT2 : ∃ i, i = (if six = true then n + 1 + 1 else n + 1) ∧ i ≤ s.length ∧ T = numU s n i six := by
      refine ⟨_, rfl, ?_, ?_⟩
      · cases six with
        | true => have := begR_one hsix; rw [List.length_drop] at this; rw [if_pos rfl]; omega
        | false => rw [if_neg (by decide)]; exact hn1
      · rw [← hT]
        unfold numT numL numU
        rw [hb1, if_pos rfl, List.drop_drop, List.drop_drop, hsix]
        cases six with
        | true =>
          rw [if_pos rfl, if_pos rfl]
          cases numQ true (s.drop (n + 2)) with
          | none => rfl
          | some x => show Value.tuple #[_, _, _] = _; simp; omega
        | false =>
          rw [if_neg (by decide), if_neg (by decide)]
          cases numQ false (s.drop (n + 1)) with
          | none => rfl
          | some x => show Value.tuple #[_, _, _] = _; simp; omega
    obtain ⟨i0, hi0, hi0s, hTU⟩ := hT2
    have BG3 := Lib.hid (fun (i : Nat) (hi : i ≤ s.length) W => BG.out [59] (by decide) i hi W)
    have HAA := Lib.hid ha
    rw [ha] at HB1 HB2 BG3 ⊢
    have HSZ := Lib.hid hsz
    have HXX := Lib.hid hX
    have HCU := Lib.hid hcut
    have HTU := Lib.hid hTU
    have hn1' : n + 1 ≤ a.size := by omega
    have hi0a : i0 ≤ a.size := by omega
    clear B1 B2 BG hb1 hT ha hX hcut hsix hsz hTU hn1 hn
    have hs2 : a.size ≤ 100000 := by have := HSZ.out; omega
    clear hs hi0s
    have HEX := Lib.hid (fun (k : Nat) (h1 : i0 ≤ k) (h2 : k ≤ a.size) (h3 : ∀ j (h : j < s.length), i0 ≤ j → j < k → isDg six s[j] = true) h4 => (by have := num_exit s n i0 k six (by have := HSZ.out; omega) h1 (by have := HSZ.out; omega) h3 h4; rw [HAA.out] at this; exact this : ∃ v : Int, (∀ W, Calls Tryz.prog 75 #[.string (a.extract i0 k), .bool six] W fun e w' => e = .returned (.int .i64 v) ∧ Below W.heap.size W w') ∧
      ((v = -1 ∧ numU s n i0 six = .tuple #[.string ⟨#[]⟩, .int .i64 (n : Int), .bool false]) ∨
       ∃ m : Nat, v = m ∧ m ≤ 1114112 ∧ ∃ b3, (∀ W, Calls Tryz.prog 24 #[.string a, .int .i64 (k : Int), .string ⟨#[59]⟩] W fun e w' => e = .returned (.bool b3) ∧ Below W.heap.size W w') ∧ (b3 = true → k + 1 ≤ s.length) ∧
         numU s n i0 six = .tuple #[.string (fixB m), .int .i64 ((k + if b3 = true then 1 else 0 : Nat) : Int), .bool true])))
    clear HAA
    cases six with
    | true =>
      rw [if_pos rfl] at hi0
      subst hi0
      go_enter Tryz.func49, Tryz.ntmps49
      go_wp2_with fail
      refine HB1.out.mono ?_
      rintro e w1 ⟨rfl, hb⟩
      have HW := Lib.hid hb
      clear hb
      go_wp2_with fail
      refine (HB2.out _).mono ?_
      rintro e w2 ⟨rfl, hb⟩
      replace HW := Lib.hid (HW.out.trans (hb.mono HW.out.size))
      clear hb
      go_wp2_with fail
      go_loopw [7] (fun v wx => ∃ k : Nat, v = .int .i64 (k : Int) ∧ (n + 1 + 1) ≤ k ∧ k ≤ a.size ∧ Hid (Below w.heap.size w wx) ∧ Hid (∀ j (h : j < s.length), (n + 1 + 1) ≤ j → j < k → isDg true s[j] = true)) (fun v _ => a.size - (intOf v).toNat)
      case atStart => exact ⟨(n + 1 + 1), by go_num, Nat.le_refl _, hi0a, HW, Lib.hid (fun j _ h1 h2 => by omega)⟩
      case round =>
        clear HW
        obtain ⟨k, rfl, hik, hk, HW, hD⟩ := hrel
        by_cases hlt : k < a.size
        · have hks : k < s.length := by have := HSZ.out; omega
          have hcg : a[k] = s[k] := by
            have := HXX.out k hlt
            rw [List.getElem?_eq_getElem hks] at this
            exact (Option.some.inj this).symm
          have HDG := Lib.hid (DG.out a[k])
          cases hdg : isDigB a[k] with
          | true =>
            have F : Hid (∀ W, Calls Tryz.prog 73 #[.int .u8 ((a[k].toNat : Nat) : Int)] W fun e w' => e = .returned (.bool true) ∧ Below W.heap.size W w') := Lib.hid (fun W => by rw [← hdg]; exact HDG.out W)
            have HN : Hid (∀ j (h : j < s.length), (n + 1 + 1) ≤ j → j < k + 1 → isDg true s[j] = true) := Lib.hid (fun j h h1 h2 => by
              by_cases e : j = k
              · subst e; rw [← hcg]; unfold isDg; rw [hdg]; rfl
              · exact hD.out j h h1 (by omega))
            clear hcg HDG hdg hD
            go_wp2_with fail
            refine (F.out _).mono ?_
            rintro e w4 ⟨rfl, hb⟩
            replace HW := Lib.hid (HW.out.trans (hb.mono HW.out.size))
            clear hb
            go_wp2_with fail
            go_roundw
            case rel => exact ⟨k + 1, by go_num, by omega, by omega, HW, HN⟩
            case measure => simp [intOf]; omega
          | false =>
            have F : Hid (∀ W, Calls Tryz.prog 73 #[.int .u8 ((a[k].toNat : Nat) : Int)] W fun e w' => e = .returned (.bool false) ∧ Below W.heap.size W w') := Lib.hid (fun W => by rw [← hdg]; exact HDG.out W)
            have HHX := Lib.hid (HX.out a[k])
            obtain ⟨x, hx⟩ : ∃ x, hexV a[k] = x := ⟨_, rfl⟩
            have F2 : Hid (∀ W, Calls Tryz.prog 74 #[.int .u8 ((a[k].toNat : Nat) : Int)] W fun e w' => e = .returned (.int .i64 x) ∧ Below W.heap.size W w') := Lib.hid (fun W => by rw [← hx]; exact HHX.out W)
            by_cases hx0 : 0 ≤ x
            · have q1 : decide ((0 : Int) ≤ x) = true := decide_eq_true hx0
              have HN : Hid (∀ j (h : j < s.length), (n + 1 + 1) ≤ j → j < k + 1 → isDg true s[j] = true) := Lib.hid (fun j h h1 h2 => by
                by_cases e : j = k
                · subst e; rw [← hcg]; unfold isDg; rw [hdg, hx, q1]; rfl
                · exact hD.out j h h1 (by omega))
              clear hcg HDG hdg hD hx HHX hx0
              go_wp2_with fail
              refine (F.out _).mono ?_
              rintro e w4 ⟨rfl, hb⟩
              replace HW := Lib.hid (HW.out.trans (hb.mono HW.out.size))
              clear hb
              go_wp2_with fail
              refine (F2.out _).mono ?_
              rintro e w4 ⟨rfl, hb⟩
              replace HW := Lib.hid (HW.out.trans (hb.mono HW.out.size))
              clear hb
              go_wp2_with fail
              go_roundw
              case rel => exact ⟨k + 1, by go_num, by omega, by omega, HW, HN⟩
              case measure => simp [intOf]; omega
            · have q1 : decide ((0 : Int) ≤ x) = false := decide_eq_false hx0
              have hstop : k = s.length ∨ ∃ h : k < s.length, isDg true s[k] = false := .inr ⟨hks, by rw [← hcg]; unfold isDg; rw [hdg, hx, q1]; rfl⟩
              clear hcg HDG hdg hx HHX hx0
              have HST := Lib.hid hstop
              clear hstop
              go_wp2_with fail
              refine (F.out _).mono ?_
              rintro e w4 ⟨rfl, hb⟩
              replace HW := Lib.hid (HW.out.trans (hb.mono HW.out.size))
              clear hb
              go_wp2_with fail
              refine (F2.out _).mono ?_
              rintro e w4 ⟨rfl, hb⟩
              replace HW := Lib.hid (HW.out.trans (hb.mono HW.out.size))
              clear hb
              have hstop := HST.out
              clear HST F F2
              have hE := HEX.out k hik hk (fun j h _ hj => hD.out j h (by omega) hj) hstop
              obtain ⟨v, FV, hv⟩ := hE
              have HFV := Lib.hid FV
              clear FV hstop
              rcases hv with ⟨rfl, hv⟩ | ⟨m, rfl, hm, b3, FB, hb3, hv⟩
              · have HV := Lib.hid (HTU.out.trans hv)
                clear hv
                go_wp2_with fail
                with_reducible refine (HFV.out _).mono ?_
                rintro e w5 ⟨rfl, hb⟩
                replace HW := Lib.hid (HW.out.trans (hb.mono HW.out.size))
                clear hb
                go_wp2_with fail
                go_ret3
                exact ⟨by rw [HV.out]; rfl, HW.out⟩
              · have HV := Lib.hid (HTU.out.trans hv)
                have HFB := Lib.hid FB
                have HFX := Lib.hid (FX.out m hm)
                have hb3' : b3 = true → k + 1 ≤ a.size := fun h => by have := hb3 h; have := HSZ.out; omega
                clear hv FB hb3
                go_wp2_with fail
                with_reducible refine (HFV.out _).mono ?_
                rintro e w5 ⟨rfl, hb⟩
                replace HW := Lib.hid (HW.out.trans (hb.mono HW.out.size))
                clear hb
                go_wp2_with fail
                with_reducible refine (HFB.out _).mono ?_
                rintro e w6 ⟨rfl, hb⟩
                replace HW := Lib.hid (HW.out.trans (hb.mono HW.out.size))
                clear hb
                cases b3 with
                | true =>
                  have hk1 := hb3' rfl
                  clear hb3'
                  go_wp2_with fail
                  with_reducible refine (HFX.out _).mono ?_
                  rintro e w7 ⟨rfl, hb⟩
                  replace HW := Lib.hid (HW.out.trans (hb.mono HW.out.size))
                  clear hb
                  go_wp2_with fail
                  go_ret3
                  exact ⟨by rw [HV.out]; simp only [if_true]; rfl, HW.out⟩
                | false =>
                  clear hb3'
                  go_wp2_with fail
                  with_reducible refine (HFX.out _).mono ?_
                  rintro e w7 ⟨rfl, hb⟩
                  replace HW := Lib.hid (HW.out.trans (hb.mono HW.out.size))
                  clear hb
                  go_wp2_with fail
                  go_ret3
                  exact ⟨by rw [HV.out]; rfl, HW.out⟩
        · obtain rfl : k = a.size := by omega
          have hstop : a.size = s.length ∨ ∃ h : a.size < s.length, isDg true s[a.size] = false := .inl (by have := HSZ.out; omega)
          clear DG
          have hE := HEX.out a.size hik hk (fun j h _ hj => hD.out j h (by omega) hj) hstop
          obtain ⟨v, FV, hv⟩ := hE
          have HFV := Lib.hid FV
          clear FV hstop
          rcases hv with ⟨rfl, hv⟩ | ⟨m, rfl, hm, b3, FB, hb3, hv⟩
          · have HV := Lib.hid (HTU.out.trans hv)
            clear hv
            go_wp2_with fail
            with_reducible refine (HFV.out _).mono ?_
            rintro e w5 ⟨rfl, hb⟩
            replace HW := Lib.hid (HW.out.trans (hb.mono HW.out.size))
            clear hb
            go_wp2_with fail
            go_ret3
            exact ⟨by rw [HV.out]; rfl, HW.out⟩
          · have HV := Lib.hid (HTU.out.trans hv)
            have HFB := Lib.hid FB
            have HFX := Lib.hid (FX.out m hm)
            have hb3' : b3 = true → a.size + 1 ≤ a.size := fun h => by have := hb3 h; have := HSZ.out; omega
            clear hv FB hb3
            go_wp2_with fail
            with_reducible refine (HFV.out _).mono ?_
            rintro e w5 ⟨rfl, hb⟩
            replace HW := Lib.hid (HW.out.trans (hb.mono HW.out.size))
            clear hb
            go_wp2_with fail
            with_reducible refine (HFB.out _).mono ?_
            rintro e w6 ⟨rfl, hb⟩
            replace HW := Lib.hid (HW.out.trans (hb.mono HW.out.size))
            clear hb
            cases b3 with
            | true =>
              have hk1 := hb3' rfl
              clear hb3'
              go_wp2_with fail
              with_reducible refine (HFX.out _).mono ?_
              rintro e w7 ⟨rfl, hb⟩
              replace HW := Lib.hid (HW.out.trans (hb.mono HW.out.size))
              clear hb
              go_wp2_with fail
              go_ret3
              exact ⟨by rw [HV.out]; simp only [if_true]; rfl, HW.out⟩
            | false =>
              clear hb3'
              go_wp2_with fail
              with_reducible refine (HFX.out _).mono ?_
              rintro e w7 ⟨rfl, hb⟩
              replace HW := Lib.hid (HW.out.trans (hb.mono HW.out.size))
              clear hb
              go_wp2_with fail
              go_ret3
              exact ⟨by rw [HV.out]; rfl, HW.out⟩
    | false =>
      rw [if_neg (by decide)] at hi0
      subst hi0
      go_enter Tryz.func49, Tryz.ntmps49
      go_wp2_with fail
      refine HB1.out.mono ?_
      rintro e w1 ⟨rfl, hb⟩
      have HW := Lib.hid hb
      clear hb
      go_wp2_with fail
      refine (HB2.out _).mono ?_
      rintro e w2 ⟨rfl, hb⟩
      replace HW := Lib.hid (HW.out.trans (hb.mono HW.out.size))
      clear hb
      go_wp2_with fail
      go_loopw [7] (fun v wx => ∃ k : Nat, v = .int .i64 (k : Int) ∧ (n + 1) ≤ k ∧ k ≤ a.size ∧ Hid (Below w.heap.size w wx) ∧ Hid (∀ j (h : j < s.length), (n + 1) ≤ j → j < k → isDg false s[j] = true)) (fun v _ => a.size - (intOf v).toNat)
      case atStart => exact ⟨(n + 1), by go_num, Nat.le_refl _, hi0a, HW, Lib.hid (fun j _ h1 h2 => by omega)⟩
      case round =>
        clear HW
        obtain ⟨k, rfl, hik, hk, HW, hD⟩ := hrel
        by_cases hlt : k < a.size
        · have hks : k < s.length := by have := HSZ.out; omega
          have hcg : a[k] = s[k] := by
            have := HXX.out k hlt
            rw [List.getElem?_eq_getElem hks] at this
            exact (Option.some.inj this).symm
          have HDG := Lib.hid (DG.out a[k])
          cases hdg : isDigB a[k] with
          | true =>
            have F : Hid (∀ W, Calls Tryz.prog 73 #[.int .u8 ((a[k].toNat : Nat) : Int)] W fun e w' => e = .returned (.bool true) ∧ Below W.heap.size W w') := Lib.hid (fun W => by rw [← hdg]; exact HDG.out W)
            have HN : Hid (∀ j (h : j < s.length), (n + 1) ≤ j → j < k + 1 → isDg false s[j] = true) := Lib.hid (fun j h h1 h2 => by
              by_cases e : j = k
              · subst e; rw [← hcg]; unfold isDg; rw [hdg]; rfl
              · exact hD.out j h h1 (by omega))
            clear hcg HDG hdg hD
            go_wp2_with fail
            refine (F.out _).mono ?_
            rintro e w4 ⟨rfl, hb⟩
            replace HW := Lib.hid (HW.out.trans (hb.mono HW.out.size))
            clear hb
            go_wp2_with fail
            go_roundw
            case rel => exact ⟨k + 1, by go_num, by omega, by omega, HW, HN⟩
            case measure => simp [intOf]; omega
          | false =>
            have F : Hid (∀ W, Calls Tryz.prog 73 #[.int .u8 ((a[k].toNat : Nat) : Int)] W fun e w' => e = .returned (.bool false) ∧ Below W.heap.size W w') := Lib.hid (fun W => by rw [← hdg]; exact HDG.out W)
            have hstop : k = s.length ∨ ∃ h : k < s.length, isDg false s[k] = false := .inr ⟨hks, by rw [← hcg]; unfold isDg; rw [hdg]; rfl⟩
            clear hcg HDG hdg
            have HST := Lib.hid hstop
            clear hstop
            go_wp2_with fail
            refine (F.out _).mono ?_
            rintro e w4 ⟨rfl, hb⟩
            replace HW := Lib.hid (HW.out.trans (hb.mono HW.out.size))
            clear hb
            have hstop := HST.out
            clear HST F
            have hE := HEX.out k hik hk (fun j h _ hj => hD.out j h (by omega) hj) hstop
            obtain ⟨v, FV, hv⟩ := hE
            have HFV := Lib.hid FV
            clear FV hstop
            rcases hv with ⟨rfl, hv⟩ | ⟨m, rfl, hm, b3, FB, hb3, hv⟩
            · have HV := Lib.hid (HTU.out.trans hv)
              clear hv
              go_wp2_with fail
              with_reducible refine (HFV.out _).mono ?_
              rintro e w5 ⟨rfl, hb⟩
              replace HW := Lib.hid (HW.out.trans (hb.mono HW.out.size))
              clear hb
              go_wp2_with fail
              go_ret3
              exact ⟨by rw [HV.out]; rfl, HW.out⟩
            · have HV := Lib.hid (HTU.out.trans hv)
              have HFB := Lib.hid FB
              have HFX := Lib.hid (FX.out m hm)
              have hb3' : b3 = true → k + 1 ≤ a.size := fun h => by have := hb3 h; have := HSZ.out; omega
              clear hv FB hb3
              go_wp2_with fail
              with_reducible refine (HFV.out _).mono ?_
              rintro e w5 ⟨rfl, hb⟩
              replace HW := Lib.hid (HW.out.trans (hb.mono HW.out.size))
              clear hb
              go_wp2_with fail
              with_reducible refine (HFB.out _).mono ?_
              rintro e w6 ⟨rfl, hb⟩
              replace HW := Lib.hid (HW.out.trans (hb.mono HW.out.size))
              clear hb
              cases b3 with
              | true =>
                have hk1 := hb3' rfl
                clear hb3'
                go_wp2_with fail
                with_reducible refine (HFX.out _).mono ?_
                rintro e w7 ⟨rfl, hb⟩
                replace HW := Lib.hid (HW.out.trans (hb.mono HW.out.size))
                clear hb
                go_wp2_with fail
                go_ret3
                exact ⟨by rw [HV.out]; simp only [if_true]; rfl, HW.out⟩
              | false =>
                clear hb3'
                go_wp2_with fail
                with_reducible refine (HFX.out _).mono ?_
                rintro e w7 ⟨rfl, hb⟩
                replace HW := Lib.hid (HW.out.trans (hb.mono HW.out.size))
                clear hb
                go_wp2_with fail
                go_ret3
                exact ⟨by rw [HV.out]; rfl, HW.out⟩
        · obtain rfl : k = a.size := by omega
          have hstop : a.size = s.length ∨ ∃ h : a.size < s.length, isDg false s[a.size] = false := .inl (by have := HSZ.out; omega)
          clear DG
          have hE := HEX.out a.size hik hk (fun j h _ hj => hD.out j h (by omega) hj) hstop
          obtain ⟨v, FV, hv⟩ := hE
          have HFV := Lib.hid FV
          clear FV hstop
          rcases hv with ⟨rfl, hv⟩ | ⟨m, rfl, hm, b3, FB, hb3, hv⟩
          · have HV := Lib.hid (HTU.out.trans hv)
            clear hv
            go_wp2_with fail
            with_reducible refine (HFV.out _).mono ?_
            rintro e w5 ⟨rfl, hb⟩
            replace HW := Lib.hid (HW.out.trans (hb.mono HW.out.size))
            clear hb
            go_wp2_with fail
            go_ret3
            exact ⟨by rw [HV.out]; rfl, HW.out⟩
          · have HV := Lib.hid (HTU.out.trans hv)
            have HFB := Lib.hid FB
            have HFX := Lib.hid (FX.out m hm)
            have hb3' : b3 = true → a.size + 1 ≤ a.size := fun h => by have := hb3 h; have := HSZ.out; omega
            clear hv FB hb3
            go_wp2_with fail
            with_reducible refine (HFV.out _).mono ?_
            rintro e w5 ⟨rfl, hb⟩
            replace HW := Lib.hid (HW.out.trans (hb.mono HW.out.size))
            clear hb
            go_wp2_with fail
            with_reducible refine (HFB.out _).mono ?_
            rintro e w6 ⟨rfl, hb⟩
            replace HW := Lib.hid (HW.out.trans (hb.mono HW.out.size))
            clear hb
            cases b3 with
            | true =>
              have hk1 := hb3' rfl
              clear hb3'
              go_wp2_with fail
              with_reducible refine (HFX.out _).mono ?_
              rintro e w7 ⟨rfl, hb⟩
              replace HW := Lib.hid (HW.out.trans (hb.mono HW.out.size))
              clear hb
              go_wp2_with fail
              go_ret3
              exact ⟨by rw [HV.out]; simp only [if_true]; rfl, HW.out⟩
            | false =>
              clear hb3'
              go_wp2_with fail
              with_reducible refine (HFX.out _).mono ?_
              rintro e w7 ⟨rfl, hb⟩
              replace HW := Lib.hid (HW.out.trans (hb.mono HW.out.size))
              clear hb
              go_wp2_with fail
              go_ret3
              exact ⟨by rw [HV.out]; rfl, HW.out⟩
end Go.Proofs.YtdheknlnhfegnaaGreatDoor.Hand

namespace Go.Proofs.YtdheknlnhfegnaaGreatDoor.Hand
open Go Go.RowKit Go.Proofs.YtdheknlnhfegnaaGreatDoor.Pl Go.Proofs.YtdheknlnhfegnaaGreatDoor.Pb Go.Proofs.YtdheknlnhfegnaaGreatDoor.Sa Go.Proofs.YtdheknlnhfegnaaGreatDoor.Pure Go.Proofs.YtdheknlnhfegnaaGreatDoorW.PrintWords

def isLetB (c : UInt8) : Bool := (decide (65 ≤ c.toNat) && decide (c.toNat ≤ 90)) || (decide (97 ≤ c.toNat) && decide (c.toNat ≤ 122))
def keptB (c : UInt8) : Bool := c == 61 || (isLetB c || isDigB c)
def keptL : List UInt8 → Bool
  | [] => false
  | c :: _ => keptB c
/-- a short name is left as it is -/
def leftL (attr : Bool) (name after : List UInt8) : Bool := attr && (!Lib.hasSuffix name [59] && keptL after)
/-- what is told of what begins with an ampersand -/
inductive RefR (s : List UInt8) (n : Nat) (attr : Bool) : Value → Prop
  | no (h : begR (s.drop n) [38] = false) : RefR s n attr (.tuple #[.string ⟨#[]⟩, .int .i64 (n : Int)])
  | num (h : begR (s.drop n) [38] = true) (m k : Nat) (h2 : numL (s.drop (n + 1)) = some (m, k)) : RefR s n attr (.tuple #[.string (fixB m), .int .i64 ((n + 1 + k : Nat) : Int)])
  | left (h : begR (s.drop n) [38] = true) (h2 : numL (s.drop (n + 1)) = none) (k : Nat) (h3 : Lng namesL (s.drop (n + 1)) k) (h4 : k = 0 ∨ leftL attr ((s.drop (n + 1)).take k) (s.drop (n + 1 + k)) = true) :
      RefR s n attr (.tuple #[.string (B ((s.drop n).take (k + 1))), .int .i64 ((n + 1 + k : Nat) : Int)])
  | name (h : begR (s.drop n) [38] = true) (h2 : numL (s.drop (n + 1)) = none) (k : Nat) (h3 : Lng namesL (s.drop (n + 1)) k) (h4 : k ≠ 0) (h5 : leftL attr ((s.drop (n + 1)).take k) (s.drop (n + 1 + k)) = false)
      (rest : List UInt8) (h6 : Fnd namesL ((s.drop (n + 1)).take k) (some rest)) : RefR s n attr (.tuple #[.string (textB (num1 rest) (num2 rest)), .int .i64 ((n + 1 + k : Nat) : Int)])
set_option maxRecDepth 100000 in
theorem or32 : ∀ x : Fin 256, decide (97 ≤ Go.bits .or .u8 ((x.val : Nat) : Int) 32 ∧ Go.bits .or .u8 ((x.val : Nat) : Int) 32 ≤ 122) = ((decide (65 ≤ x.val) && decide (x.val ≤ 90)) || (decide (97 ≤ x.val) && decide (x.val ≤ 122))) := by decide
theorem letter_f (c : UInt8) : sign_Letter.f (c.toNat : Int) = some (isLetB c) := by
  have h := or32 ⟨c.toNat, c.toNat_lt⟩
  unfold sign_Letter.f sign_within.f isLetB
  rw [← h]
  by_cases h1 : Go.bits .or .u8 ((c.toNat : Nat) : Int) 32 ≥ 97
  · rw [if_pos h1, Option.bind_some]
    congr 1
    rw [Bool.eq_iff_iff, decide_eq_true_eq, decide_eq_true_eq]
    exact ⟨fun h => ⟨h1, h⟩, fun h => h.2⟩
  · rw [if_neg h1, Option.bind_some]
    congr 1
    exact (decide_eq_false (fun h => h1 h.1)).symm
theorem kept_f (s : List UInt8) (n : Nat) (hn : n ≤ s.length) : ref_kept.f (B s) (n : Int) = some (keptL (s.drop n)) := by
  unfold ref_kept.f
  rcases Nat.lt_or_ge n s.length with h | h
  · have hd := List.drop_eq_getElem_cons h
    rw [if_pos (by rw [size_B]; omega), if_pos (by omega), hd, bt_drop s n _ _ hd]
    unfold keptL keptB
    by_cases h61 : s[n] = 61
    · rw [h61]; rfl
    · rw [if_neg (fun e => h61 (UInt8.toNat_inj.1 (show s[n].toNat = 61 by omega)))]
      unfold sign_Word.f
      rw [letter_f, digit_f]
      simp only [Option.bind_some]
      rw [show (s[n] == 61) = false by rw [beq_eq_false_iff_ne]; exact h61]
      cases isLetB s[n] <;> rfl
  · rw [if_neg (by rw [size_B]; omega), List.drop_eq_nil_of_le h]; rfl
theorem kept_c (s : List UInt8) (n : Nat) (hn : n ≤ s.length) (w : World) : Calls Tryz.prog 53 #[.string (B s), .int .i64 (n : Int)] w fun e w' => e = .returned (.bool (keptL (s.drop n))) ∧ Below w.heap.size w w' :=
  (ref_kept.calls _ _ _ w (kept_f s n hn)).mono fun _ _ h => ⟨h.1, h.2.below⟩
set_option maxRecDepth 100000 in
set_option maxHeartbeats 8000000 in
theorem read_c (s : List UInt8) (n : Nat) (attr : Bool) (hs : s.length ≤ 100000) (hn : n ≤ s.length) (w : World) (hGl : Glob w) (hGE : GlobE w) :
    Calls Tryz.prog 34 #[.string (B s), .int .i64 (n : Int), .bool attr] w fun e w' => (∃ v, RefR s n attr v ∧ e = .returned v) ∧ Below w.heap.size w w' := by
  have BG := Lib.hid (nbegins_c s [38] n (by omega) (by decide) hn w)
  have HG := Lib.hid hGl
  have HE := Lib.hid hGE
  obtain ⟨a, ha⟩ : ∃ a, B s = a := ⟨_, rfl⟩
  have HA := Lib.hid ha
  have hsz : a.size = s.length := by rw [← ha]; simp
  obtain ⟨b1, hb1⟩ : ∃ b, begR (s.drop n) [38] = b := ⟨_, rfl⟩
  rw [hb1, ha] at BG
  rw [ha]
  have hB1 := Lib.hid hb1
  cases b1 with
  | false =>
    clear ha hsz hb1 hs hn hGl hGE
    go_enter Tryz.func34, Tryz.ntmps34
    go_wp2_with fail
    refine BG.out.mono ?_
    rintro e w1 ⟨rfl, hb⟩
    go_wp2_with fail
    go_ret2
    exact ⟨⟨_, RefR.no hB1.out, rfl⟩, hb⟩
  | true =>
    have hn1 : n + 1 ≤ s.length := by have := begR_one hb1; rw [List.length_drop] at this; omega
    have NR := Lib.hid (fun W => number_c s (n + 1) hs hn1 W)
    have LR := Lib.hid (fun W hG => nlongest_c s (n + 1) (by omega) hn1 (of_decide_eq_true names_size) W hG)
    have hHS := Lib.hid hs
    have HSZ := Lib.hid hsz
    have HN1 := Lib.hid hn1
    rw [ha] at NR LR
    have hn1a : n + 1 ≤ a.size := by omega
    have hza : a.size ≤ 100000 := by omega
    cases hnl : numL (s.drop (n + 1)) with
    | some mk =>
      obtain ⟨m, k⟩ := mk
      have hT : numT s (n + 1) = .tuple #[.string (fixB m), .int .i64 ((n + 1 + k : Nat) : Int), .bool true] := by unfold numT; rw [hnl]
      rw [hT] at NR
      have HNL := Lib.hid hnl
      clear ha hsz hb1 hs hn hGl hGE hnl hT hn1 LR
      go_enter Tryz.func34, Tryz.ntmps34
      go_wp2_with fail
      refine BG.out.mono ?_
      rintro e w1 ⟨rfl, hb⟩
      have HW := Lib.hid hb
      clear hb
      go_wp2_with fail
      refine (NR.out _).mono ?_
      rintro e w2 ⟨rfl, hb⟩
      replace HW := Lib.hid (HW.out.trans (hb.mono HW.out.size))
      clear hb
      go_wp2_with fail
      go_ret2
      exact ⟨⟨_, RefR.num hB1.out m k HNL.out, rfl⟩, HW.out⟩
    | none =>
      have hT : numT s (n + 1) = .tuple #[.string ⟨#[]⟩, .int .i64 ((n + 1 : Nat) : Int), .bool false] := by unfold numT; rw [hnl]
      rw [hT] at NR
      have hNL := Lib.hid hnl
      clear ha hsz hb1 hs hn hGl hGE hnl hT hn1
      go_enter Tryz.func34, Tryz.ntmps34
      go_wp2_with fail
      refine BG.out.mono ?_
      rintro e w1 ⟨rfl, hb⟩
      have HW := Lib.hid hb
      clear hb
      go_wp2_with fail
      refine (NR.out _).mono ?_
      rintro e w2 ⟨rfl, hb⟩
      replace HW := Lib.hid (HW.out.trans (hb.mono HW.out.size))
      clear hb
      go_wp2_with fail
      refine (LR.out _ (HG.out.step HW.out)).mono ?_
      rintro e w3 ⟨⟨k, hlg, rfl⟩, hb⟩
      replace HW := Lib.hid (HW.out.trans (hb.mono HW.out.size))
      have hLG := Lib.hid hlg
      have hka : n + 1 + k ≤ a.size := by
        have h1 := hlg.le
        rw [List.length_drop] at h1
        have := HSZ.out
        omega
      have hnm : a.extract (n + 1) (n + 1 + k) = B ((s.drop (n + 1)).take k) := by rw [← HA.out, B_extract, List.drop_take, Nat.add_sub_cancel_left]
      have hct : a.extract n (n + 1 + k) = B ((s.drop n).take (k + 1)) := by rw [← HA.out, B_extract, List.drop_take, show n + 1 + k - n = k + 1 by omega]
      have HCUT := Lib.hid hct
      have V := nvalue_c ((s.drop (n + 1)).take k) w3 (HG.out.step HW.out) (HE.out.step HW.out)
      rw [← hnm] at V
      have HV := Lib.hid V
      have HNM := Lib.hid hnm
      clear hb hlg hnm hct V NR LR BG
      go_wp2_with fail
      refine HV.out.mono ?_
      rintro e w4 ⟨⟨r, hf, rfl⟩, hb⟩
      replace HW := Lib.hid (HW.out.trans (hb.mono HW.out.size))
      have HF := Lib.hid hf
      clear hb hf HV
      by_cases hk0 : k = 0
      · have hv : nvalV ((s.drop (n + 1)).take k) r = .tuple #[.complex .f64 0 0, .bool false] := by
          rw [hk0, List.take_zero]
          cases r <;> rfl
        rw [hv]
        clear hv
        have HK0 := Lib.hid hk0
        clear hk0
        go_wp2_with fail
        go_ret2
        refine ⟨⟨_, RefR.left hB1.out hNL.out k hLG.out (.inl HK0.out), ?_⟩, HW.out⟩
        rw [← HCUT.out]; rfl
      · have hkey : isKey namesL ((s.drop (n + 1)).take k) := by
          rcases hLG.out.key with h | h
          · exact absurd h hk0
          · exact h
        obtain ⟨rest, rfl⟩ : ∃ rest, r = some rest := by
          cases r with
          | some rest => exact ⟨rest, rfl⟩
          | none =>
            obtain ⟨p, h1, h2⟩ := hkey
            rcases HF.out with ⟨_, _, _, e⟩ | ⟨e, _⟩
            · cases e
            · exact absurd h2 (e p h1)
        obtain ⟨hro, hkn, _⟩ := fnd_rest HF.out
        have hv : nvalV ((s.drop (n + 1)).take k) (some rest) = .tuple #[.complex .f64 (fW (num1 rest)) (fW (num2 rest)), .bool true] := by unfold nvalV; simp only [hkn, if_false]
        rw [hv]
        obtain ⟨l1, l2⟩ := num_lt hro
        have HTX := Lib.hid (fun W => ntext_c (num1 rest) (num2 rest) l1 l2 W)
        have hkl : ((s.drop (n + 1)).take k).length ≤ 1000000 := by rw [List.length_take, List.length_drop]; have := hHS.out; omega
        have SH := fun W hG hE => nshort_c ((s.drop (n + 1)).take k) hkey hkl W hG hE
        have KP := fun W => kept_c s (n + 1 + k) (by have := HSZ.out; omega) W
        rw [HA.out] at KP
        rw [← HNM.out] at SH
        obtain ⟨bs, hbs⟩ : ∃ b, Lib.hasSuffix ((s.drop (n + 1)).take k) [59] = b := ⟨_, rfl⟩
        obtain ⟨kp, hkp⟩ : ∃ b, keptL (s.drop (n + 1 + k)) = b := ⟨_, rfl⟩
        rw [hbs] at SH
        rw [hkp] at KP
        have HSH := Lib.hid SH
        have HKP := Lib.hid KP
        have HLL : Hid (leftL attr ((s.drop (n + 1)).take k) (s.drop (n + 1 + k)) = (attr && (!bs && kp))) := Lib.hid (by unfold leftL; rw [hbs, hkp])
        obtain ⟨t1, ht1⟩ : ∃ t, textB (num1 rest) (num2 rest) = t := ⟨_, rfl⟩
        clear hv hkey hro hkn l1 l2 hkl SH KP hbs hkp ht1 t1
        cases attr with
        | false =>
          go_wp2_with fail
          refine (HTX.out _).mono ?_
          rintro e w8 ⟨rfl, rfl⟩
          go_wp2_with fail
          go_ret2
          exact ⟨⟨_, RefR.name hB1.out hNL.out k hLG.out (by omega) (by rw [HLL.out]; rfl) rest HF.out, rfl⟩, HW.out⟩
        | true =>
          go_wp2_with fail
          refine (HSH.out _ (HG.out.step HW.out) (HE.out.step HW.out)).mono ?_
          rintro e w5 ⟨rfl, hb⟩
          replace HW := Lib.hid (HW.out.trans (hb.mono HW.out.size))
          clear hb HSH
          cases bs with
          | true =>
            go_wp2_with fail
            refine (HTX.out _).mono ?_
            rintro e w8 ⟨rfl, rfl⟩
            go_wp2_with fail
            go_ret2
            exact ⟨⟨_, RefR.name hB1.out hNL.out k hLG.out (by omega) (by rw [HLL.out]; rfl) rest HF.out, rfl⟩, HW.out⟩
          | false =>
            go_wp2_with fail
            refine (HKP.out _).mono ?_
            rintro e w6 ⟨rfl, hb⟩
            replace HW := Lib.hid (HW.out.trans (hb.mono HW.out.size))
            clear hb HKP
            cases kp with
            | true =>
              go_wp2_with fail
              go_ret2
              refine ⟨⟨_, RefR.left hB1.out hNL.out k hLG.out (.inr (by rw [HLL.out]; rfl)), ?_⟩, HW.out⟩
              rw [← HCUT.out]; rfl
            | false =>
              go_wp2_with fail
              refine (HTX.out _).mono ?_
              rintro e w8 ⟨rfl, rfl⟩
              go_wp2_with fail
              go_ret2
              exact ⟨⟨_, RefR.name hB1.out hNL.out k hLG.out (by omega) (by rw [HLL.out]; rfl) rest HF.out, rfl⟩, HW.out⟩
end Go.Proofs.YtdheknlnhfegnaaGreatDoor.Hand

namespace Go.Proofs.YtdheknlnhfegnaaGreatDoor.Hand
open Go Go.RowKit Go.Proofs.YtdheknlnhfegnaaGreatDoor.Pl Go.Proofs.YtdheknlnhfegnaaGreatDoor.Pb

theorem fnd_uniq {T last key : List UInt8} (h : Tab T last) {r r' : Option (List UInt8)} (h1 : Fnd T key r) (h2 : Fnd T key r') : r = r' := by
  rcases h1 with ⟨p, a1, a2, a3⟩ | ⟨a1, a2⟩
  · rcases h2 with ⟨q, b1, b2, b3⟩ | ⟨b1, b2⟩
    · rcases Nat.lt_trichotomy p q with hl | he | hg
      · have := h.rise p q a1 b1 hl
        rw [a2, b2, ltB_irrefl] at this; cases this
      · rw [a3, b3, he]
      · have := h.rise q p b1 a1 hg
        rw [a2, b2, ltB_irrefl] at this; cases this
    · exact absurd a2 (b1 p a1)
  · rcases h2 with ⟨q, b1, b2, b3⟩ | ⟨b1, b2⟩
    · exact absurd b2 (a1 q b1)
    · rw [a2, b2]
theorem lng_ex (T r : List UInt8) : ∃ k, Lng T r k := by
  have h : ∀ d : Nat, ∃ k, k ≤ d ∧ (k = 0 ∨ isKey T (r.take k)) ∧ ∀ m, k < m → m ≤ d → ¬ isKey T (r.take m) := by
    intro d
    induction d with
    | zero => exact ⟨0, Nat.le_refl _, .inl rfl, fun m h1 h2 => by omega⟩
    | succ d ih =>
      by_cases hk : isKey T (r.take (d + 1))
      · exact ⟨d + 1, Nat.le_refl _, .inr hk, fun m h1 h2 => by omega⟩
      · obtain ⟨k, h1, h2, h3⟩ := ih
        refine ⟨k, by omega, h2, fun m g1 g2 => ?_⟩
        by_cases e : m = d + 1
        · subst e; exact hk
        · exact h3 m g1 (by omega)
  obtain ⟨k, h1, h2, h3⟩ := h (min 32 r.length)
  exact ⟨k, h1, h2, h3⟩
noncomputable def lngN (r : List UInt8) : Nat := Classical.choose (lng_ex namesL r)
theorem lngN_spec (r : List UInt8) : Lng namesL r (lngN r) := Classical.choose_spec (lng_ex namesL r)
theorem lngN_eq {r : List UInt8} {k : Nat} (h : Lng namesL r k) : lngN r = k := (lngN_spec r).uniq h
theorem fnd_ex (T key : List UInt8) : ∃ r, Fnd T key r := by
  by_cases h : ∃ p, St T p ∧ kyT T p = key
  · obtain ⟨p, h1, h2⟩ := h; exact ⟨_, .inl ⟨p, h1, h2, rfl⟩⟩
  · exact ⟨none, .inr ⟨fun p h1 h2 => h ⟨p, h1, h2⟩, rfl⟩⟩
noncomputable def rowN (key : List UInt8) : Option (List UInt8) := Classical.choose (fnd_ex namesL key)
theorem rowN_spec (key : List UInt8) : Fnd namesL key (rowN key) := Classical.choose_spec (fnd_ex namesL key)
theorem rowN_eq {key : List UInt8} {r : Option (List UInt8)} (h : Fnd namesL key r) : rowN key = r := fnd_uniq names_tab (rowN_spec key) h
/-- a name's signs -/
noncomputable def nameT (key : List UInt8) : List UInt8 := match rowN key with | some rest => (textB (num1 rest) (num2 rest)).data.toList | none => []
/-- what begins with an ampersand: what it means, and how long it is -/
noncomputable def refN (attr : Bool) (l : List UInt8) : List UInt8 × Nat :=
  match numL (l.drop 1) with
  | some (m, k) => ((fixB m).data.toList, 1 + k)
  | none =>
    if lngN (l.drop 1) = 0 ∨ leftL attr ((l.drop 1).take (lngN (l.drop 1))) ((l.drop 1).drop (lngN (l.drop 1))) = true then (l.take (1 + lngN (l.drop 1)), 1 + lngN (l.drop 1))
    else (nameT ((l.drop 1).take (lngN (l.drop 1))), 1 + lngN (l.drop 1))
theorem lng_pos {r : List UInt8} (h : lngN r ≠ 0) : isKey namesL (r.take (lngN r)) := by
  rcases (lngN_spec r).key with h0 | hk
  · exact absurd h0 h
  · exact hk
theorem row_some {key : List UInt8} (h : isKey namesL key) : ∃ rest, rowN key = some rest ∧ Fnd namesL key (some rest) := by
  obtain ⟨p, h1, h2⟩ := h
  rcases rowN_spec key with ⟨q, g1, g2, g3⟩ | ⟨g1, _⟩
  · exact ⟨_, g3, by rw [← g3]; exact rowN_spec key⟩
  · exact absurd h2 (g1 p h1)
theorem refR_refN {s : List UInt8} {n : Nat} {attr : Bool} {v : Value} (h : RefR s n attr v) (hb : begR (s.drop n) [38] = true) :
    v = .tuple #[.string (B (refN attr (s.drop n)).1), .int .i64 ((n + (refN attr (s.drop n)).2 : Nat) : Int)] := by
  have ed : ∀ k, (s.drop n).drop k = s.drop (n + k) := fun k => by rw [List.drop_drop]
  cases h with
  | no h => rw [h] at hb; cases hb
  | num h m k h2 =>
    have : refN attr (s.drop n) = ((fixB m).data.toList, 1 + k) := by unfold refN; rw [ed, h2]
    rw [this, ← B_of, show n + (1 + k) = n + 1 + k by omega]
  | left h h2 k h3 h4 =>
    have hk := lngN_eq h3
    have : refN attr (s.drop n) = ((s.drop n).take (1 + k), 1 + k) := by
      unfold refN
      rw [ed, h2]
      simp only [hk]
      rw [if_pos]
      rcases h4 with h4 | h4
      · exact .inl h4
      · exact .inr (by rw [List.drop_drop]; exact h4)
    rw [this, show n + (1 + k) = n + 1 + k by omega, show 1 + k = k + 1 by omega]
  | name h h2 k h3 h4 h5 rest h6 =>
    have hk := lngN_eq h3
    have : refN attr (s.drop n) = ((textB (num1 rest) (num2 rest)).data.toList, 1 + k) := by
      unfold refN
      rw [ed, h2]
      simp only [hk]
      rw [if_neg]
      · unfold nameT; rw [rowN_eq h6]
      · rintro (e | e)
        · exact h4 e
        · rw [List.drop_drop, h5] at e; cases e
    rw [this, ← B_of, show n + (1 + k) = n + 1 + k by omega]
theorem textB_size (a b : Nat) : (textB a b).size ≤ 8 := by
  unfold textB
  have h1 := signB_size (a : Int)
  have h2 := signB_size (b : Int)
  split
  · omega
  · rw [ByteArray.size_append]; omega
theorem fixB_size (n : Nat) : (fixB n).size ≤ 4 := by
  unfold fixB
  split
  · decide
  · split <;> exact signB_size _
theorem refN_bd (attr : Bool) (c : UInt8) (r : List UInt8) : 1 ≤ (refN attr (c :: r)).2 ∧ (refN attr (c :: r)).2 ≤ (c :: r).length ∧ (refN attr (c :: r)).1.length ≤ 8 * (refN attr (c :: r)).2 := by
  have hl := (lngN_spec r).le
  have e : (c :: r).drop 1 = r := rfl
  unfold refN
  rw [e]
  split
  · rename_i m k hn
    have := numL_le hn
    have h4 := fixB_size m
    simp only [List.length_cons, Array.length_toList]
    have : (fixB m).data.size ≤ 4 := h4
    omega
  · split
    · simp only [List.length_cons, List.length_take]; omega
    · rename_i hne
      simp only [List.length_cons]
      refine ⟨by omega, by omega, ?_⟩
      unfold nameT
      split
      · rename_i rest _
        have h8 := textB_size (num1 rest) (num2 rest)
        rw [Array.length_toList]
        have : (textB (num1 rest) (num2 rest)).data.size ≤ 8 := h8
        omega
      · simp
/-! ### all references read -/
noncomputable def rdF (attr : Bool) : Nat → List UInt8 → List UInt8
  | 0, _ => []
  | _ + 1, [] => []
  | f + 1, c :: r => if c = 38 then (refN attr (c :: r)).1 ++ rdF attr f ((c :: r).drop (refN attr (c :: r)).2) else c :: rdF attr f r
theorem rdF_more (attr : Bool) (f : Nat) : ∀ l f', l.length ≤ f → l.length ≤ f' → rdF attr f l = rdF attr f' l := by
  induction f with
  | zero =>
    intro l f' h h'
    obtain rfl := List.eq_nil_of_length_eq_zero (Nat.le_zero.1 h)
    cases f' <;> rfl
  | succ f ih =>
    intro l f' h h'
    cases l with
    | nil => cases f' <;> rfl
    | cons c r =>
      cases f' with
      | zero => simp at h'
      | succ f' =>
        have hb := refN_bd attr c r
        simp only [List.length_cons] at h h' hb
        simp only [rdF]
        split
        · rw [ih _ f' (by rw [List.length_drop, List.length_cons]; omega) (by rw [List.length_drop, List.length_cons]; omega)]
        · rw [ih r f' (by omega) (by omega)]
noncomputable def rdL (attr : Bool) (l : List UInt8) : List UInt8 := rdF attr l.length l
theorem rdL_nil (attr : Bool) : rdL attr [] = [] := rfl
theorem rdL_ne {c : UInt8} (attr : Bool) (r : List UInt8) (h : c ≠ 38) : rdL attr (c :: r) = c :: rdL attr r := by
  unfold rdL; simp only [List.length_cons, rdF, if_neg h]
theorem rdL_amp (attr : Bool) (r : List UInt8) : rdL attr (38 :: r) = (refN attr (38 :: r)).1 ++ rdL attr ((38 :: r).drop (refN attr (38 :: r)).2) := by
  have hb := refN_bd attr 38 r
  simp only [List.length_cons] at hb
  unfold rdL
  rw [List.length_cons, rdF, if_pos rfl, rdF_more attr r.length _ _ (by rw [List.length_drop, List.length_cons]; omega) (Nat.le_refl _)]
theorem rdL_app {p : List UInt8} (attr : Bool) (r : List UInt8) (h : (38 : UInt8) ∉ p) : rdL attr (p ++ r) = p ++ rdL attr r := by
  induction p with
  | nil => rfl
  | cons c p ih =>
    rw [List.cons_append, rdL_ne attr _ (fun e => h (by rw [e]; simp)), ih (fun e => h (by simp [e]))]; rfl
theorem rdL_no {p : List UInt8} (attr : Bool) (h : (38 : UInt8) ∉ p) : rdL attr p = p := by
  have := rdL_app attr [] h
  rw [List.append_nil, rdL_nil, List.append_nil] at this
  exact this
theorem rdL_length (attr : Bool) : ∀ n (l : List UInt8), l.length ≤ n → (rdL attr l).length ≤ 8 * l.length := by
  intro n
  induction n with
  | zero => intro l h; obtain rfl := List.eq_nil_of_length_eq_zero (Nat.le_zero.1 h); simp [rdL_nil]
  | succ n ih =>
    intro l h
    cases l with
    | nil => simp [rdL_nil]
    | cons c r =>
      simp only [List.length_cons] at h ⊢
      by_cases hc : c = 38
      · subst hc
        have hb := refN_bd attr 38 r
        have := ih ((38 :: r).drop (refN attr (38 :: r)).2) (by rw [List.length_drop, List.length_cons]; omega)
        rw [rdL_amp, List.length_append]
        rw [List.length_drop, List.length_cons] at this
        simp only [List.length_cons] at hb
        omega
      · have := ih r (by omega)
        rw [rdL_ne attr r hc, List.length_cons]; omega
theorem rdL_le (attr : Bool) (l : List UInt8) : (rdL attr l).length ≤ 8 * l.length := rdL_length attr _ l (Nat.le_refl _)
theorem readN_c (s : List UInt8) (n : Nat) (attr : Bool) (hs : s.length ≤ 100000) (hn : n ≤ s.length) (hb : begR (s.drop n) [38] = true) (w : World) (hGl : Glob w) (hGE : GlobE w) :
    Calls Tryz.prog 34 #[.string (B s), .int .i64 (n : Int), .bool attr] w fun e w' => e = .returned (.tuple #[.string (B (refN attr (s.drop n)).1), .int .i64 ((n + (refN attr (s.drop n)).2 : Nat) : Int)]) ∧ Below w.heap.size w w' :=
  (read_c s n attr hs hn w hGl hGE).mono fun e w' h => by
    obtain ⟨⟨v, hv, he⟩, hb2⟩ := h
    exact ⟨by rw [he, refR_refN hv hb], hb2⟩
end Go.Proofs.YtdheknlnhfegnaaGreatDoor.Hand

namespace Go.Proofs.YtdheknlnhfegnaaGreatDoor.Hand
open Go Go.RowKit Go.Proofs.YtdheknlnhfegnaaGreatDoor.Pl Go.Proofs.YtdheknlnhfegnaaGreatDoor.Pb

theorem no38 {l : List UInt8} {o : Nat} (h : ∀ k, k < o → l[k]? ≠ some 38) : (38 : UInt8) ∉ l.take o := by
  intro hm
  obtain ⟨k, hk, e⟩ := List.getElem_of_mem hm
  rw [List.length_take] at hk
  rw [List.getElem_take] at e
  exact h k (by omega) (by rw [List.getElem?_eq_getElem (by omega), e])
theorem rdL_step {s : List UInt8} {i o : Nat} (attr : Bool) (h1 : (s.drop i)[o]? = some 38) (h2 : ∀ k, k < o → (s.drop i)[k]? ≠ some 38) :
    rdL attr (s.drop i) = (s.drop i).take o ++ ((refN attr (s.drop (i + o))).1 ++ rdL attr (s.drop (i + o + (refN attr (s.drop (i + o))).2))) ∧ begR (s.drop (i + o)) [38] = true ∧
      1 ≤ (refN attr (s.drop (i + o))).2 ∧ i + o + (refN attr (s.drop (i + o))).2 ≤ s.length ∧ (refN attr (s.drop (i + o))).1.length ≤ 8 * (refN attr (s.drop (i + o))).2 := by
  rw [List.getElem?_drop] at h1
  obtain ⟨hl, he⟩ := List.getElem?_eq_some_iff.1 h1
  have hd : s.drop (i + o) = 38 :: s.drop (i + o + 1) := by rw [List.drop_eq_getElem_cons hl, he]
  have hs : s.drop i = (s.drop i).take o ++ 38 :: s.drop (i + o + 1) := by rw [← hd, ← List.drop_drop, List.take_append_drop]
  have hb := refN_bd attr 38 (s.drop (i + o + 1))
  refine ⟨?_, ?_, ?_⟩
  · conv => lhs; rw [hs]
    rw [rdL_app attr _ (no38 h2), rdL_amp, ← hd, List.drop_drop]
  · rw [hd]; simp [begR, show lowB 38 = 38 by decide]
  · rw [← hd, List.length_drop] at hb
    exact ⟨hb.1, by omega, hb.2.2⟩
theorem isB_below' {T e : TypeId} {B0 b : Nat} {bs : List Value} {W W' : World} (h : Lib.IsBuilder T e B0 b bs W) (hb : Below W.heap.size W W') : Lib.IsBuilder T e B0 b bs W' := by
  have at_ : ∀ {p : Value}, Lib.BuilderAt T e B0 b p bs W → Lib.BuilderAt T e B0 b p bs W' := fun h => by
    have lt : ∀ {k : Nat} {o : Obj}, W.heap[k]? = some o → k < W.heap.size := fun h => (Array.getElem?_eq_some_iff.1 h).1
    obtain ⟨hB, v, hv, hown, hne⟩ := h
    refine ⟨hB, v, (hb.block b (lt hv)).trans hv, ⟨hown.1, ?_⟩, hne⟩
    rcases hown.2 with h | ⟨g, cap, cur, h1, h2, h3, h4⟩
    · exact .inl h
    · exact .inr ⟨g, cap, cur, h1, h2, (hb.block g (lt h3)).trans h3, h4⟩
  exact h.elim (fun x => .inl (at_ x)) (fun x => .inr (at_ x))
def DecJ (a : ByteArray) (s : List UInt8) (attr : Bool) (w : World) (R : List UInt8) (a' : Act) (wr : World) : Prop :=
  ∃ (pos : Nat) (acc : List UInt8) (u2 u3 u7 u8 u9 u10 u11 u12 u13 u14 u15 u16 u17 u18 u19 u20 u21 u22 u23 u24 u25 u26 u27 u28 u29 u30 u31 u32 u33 u34 u35 u36 u37 : Value),
    a' = { tmps := #[.string a, .bool attr, u2, u3, .string ⟨#[]⟩, .pointer (some ⟨w.heap.size, 0, none⟩), .int .i64 pos, u7, u8, u9, u10, u11, u12, u13, u14, u15, u16, u17, u18, u19, u20, u21, u22, u23, u24, u25, u26, u27, u28, u29, u30, u31, u32, u33, u34, u35, u36, u37], defers := [] } ∧
    Hid (Lib.IsBuilder 57 5 w.heap.size w.heap.size (Lib.byteCells acc) wr) ∧ Hid (Below w.heap.size w wr) ∧ pos ≤ a.size ∧ acc.length ≤ 8 * pos ∧ Hid (acc ++ rdL attr (s.drop pos) = R)
set_option maxRecDepth 100000 in
set_option maxHeartbeats 8000000 in
theorem rdecode_c (s : List UInt8) (attr : Bool) (hs : s.length ≤ 100000) (w : World) (hGl : Glob w) (hGE : GlobE w) :
    Calls Tryz.prog 10 #[.string (B s), .bool attr] w fun e w' => e = .returned (.string (B (rdL attr s))) ∧ Below w.heap.size w w' := by
  have HG := Lib.hid hGl
  have HE := Lib.hid hGE
  have RD := Lib.hid (fun n (hn : n ≤ s.length) (h : begR (s.drop n) [38] = true) W hG hE => readN_c s n attr hs hn h W hG hE)
  have ST := Lib.hid (fun (i o : Nat) (h1 : (s.drop i)[o]? = some 38) (h2 : ∀ k, k < o → (s.drop i)[k]? ≠ some 38) => rdL_step attr h1 h2)
  obtain ⟨R, hR⟩ : ∃ R, rdL attr s = R := ⟨_, rfl⟩
  have HR : Hid (rdL attr (s.drop 0) = R) := Lib.hid hR
  rw [hR]
  obtain ⟨a, ha⟩ : ∃ a, B s = a := ⟨_, rfl⟩
  have hsz : a.size = s.length := by rw [← ha]; simp
  have hx : ∀ i, (a.extract i a.size).data.toList = s.drop i := fun i => by rw [← ha, size_B, B_extract, List.take_length, B_data]
  have hy : ∀ i o, (a.extract i (i + o)).data.toList = (s.drop i).take o := fun i o => by rw [← ha, B_extract, B_data, List.drop_take, Nat.add_sub_cancel_left]
  rw [ha] at RD ⊢
  have HX := Lib.hid hx
  have HY := Lib.hid hy
  have HSZ := Lib.hid hsz
  have hza : a.size ≤ 100000 := by omega
  clear hs hGl hGE ha hsz hx hy hR
  go_enter Tryz.func10, Tryz.ntmps10
  go_wp2_with fail
  refine wp_scope_at 0 (DecJ a s attr w R) (fun a' _ => a.size - (intOf (a'.tmps.getD 6 undef)).toNat) rfl ?_ ?_
  · intro hB
    have HB := Lib.hid hB
    clear hB
    go_wp2_with fail
    refine wp_label_k (by assumption) (HB.out _ _ ?_)
    exact ⟨0, [], _, _, _, _, _, _, _, _, _, _, _, _, _, _, _, _, _, _, _, _, _, _, _, _, _, _, _, _, _, _, _, _, _, rfl, Lib.hid (Lib.fresh_isBuilder 57 5 w), Lib.hid ((Below.refl _ w).alloc (Nat.le_refl _) _), by omega, by simp, HR⟩
  · rintro a' wr ⟨pos, acc, u2, u3, u7, u8, u9, u10, u11, u12, u13, u14, u15, u16, u17, u18, u19, u20, u21, u22, u23, u24, u25, u26, u27, u28, u29, u30, u31, u32, u33, u34, u35, u36, u37, rfl, HI, HW, hp, hl, HA⟩
    have I := fun W => Tryz.strings_IndexByte (a.extract pos a.size) 38 W
    rw [HX.out pos] at I
    rcases Int.lt_or_le (Lib.indexByte (s.drop pos) 38) 0 with h | h
    · have h1 : Lib.indexByte (s.drop pos) 38 = -1 := by have := Lib.indexByte_ge (s.drop pos) 38; omega
      have I2 : Hid (∀ W, Calls Tryz.prog 31 #[.string (a.extract pos a.size), .int .u8 38] W fun e w' => e = .returned (.int .i64 (-1)) ∧ w' = W) := Lib.hid (fun W => by rw [← h1]; exact I W)
      have hno : (38 : UInt8) ∉ s.drop pos := by
        intro hm
        obtain ⟨k, hk, e⟩ := List.getElem_of_mem hm
        exact Lib.indexByte_none h1 k (by rw [List.getElem?_eq_getElem hk, e])
      have HN : Hid (acc ++ (a.extract pos a.size).data.toList = R) := Lib.hid (by rw [HX.out, ← HA.out, rdL_no attr hno])
      have zx : (a.extract pos a.size).size = a.size - pos := by rw [ByteArray.size_extract]; omega
      have WS := Lib.hid (fun W (hI : Lib.IsBuilder 57 5 w.heap.size w.heap.size (Lib.byteCells acc) W) hb => Tryz.Builder_WriteString w.heap.size w.heap.size (Lib.byteCells acc) (a.extract pos a.size) W hI (by rw [Lib.byteCells_length, zx]; omega) hb)
      clear I h h1 hno zx HA
      go_wp2_with fail
      refine (I2.out _).mono ?_
      rintro e w1 ⟨rfl, rfl⟩
      go_wp2_with fail
      refine (WS.out _ HI.out HW.out.size).mono ?_
      rintro e w2 ⟨rfl, h1, b2⟩
      have HW2 := Lib.hid (HW.out.trans b2)
      have HI2 : Hid (Lib.IsBuilder 57 5 w.heap.size w.heap.size (Lib.byteCells (acc ++ (a.extract pos a.size).data.toList)) w2) := Lib.hid (Or.inr (by rw [show Lib.byteCells (acc ++ (a.extract pos a.size).data.toList) = Lib.byteCells acc ++ Lib.strCells (a.extract pos a.size) by simp [Lib.byteCells, Lib.strCells]]; exact h1))
      rw [HN.out] at HI2
      have WT := Lib.hid (Tryz.Builder_String_any w.heap.size w.heap.size R w2 HI2.out HW2.out.size)
      clear h1 b2 WS I2
      go_wp2_with fail
      refine WT.out.mono ?_
      rintro e w3 ⟨rfl, b3⟩
      have HW3 := Lib.hid (HW2.out.trans b3)
      clear b3
      go_wp2_with fail
      simp only [Exit.jump]
      go_ret
      exact ⟨rfl, HW3.out⟩
    · obtain ⟨o, ho⟩ : ∃ o : Nat, Lib.indexByte (s.drop pos) 38 = o := ⟨_, (Int.toNat_of_nonneg h).symm⟩
      have I2 : Hid (∀ W, Calls Tryz.prog 31 #[.string (a.extract pos a.size), .int .u8 38] W fun e w' => e = .returned (.int .i64 (o : Int)) ∧ w' = W) := Lib.hid (fun W => by rw [← ho]; exact I W)
      obtain ⟨h1, h2⟩ := Lib.indexByte_some ho
      obtain ⟨s1, s2, s3, s4, s5⟩ := ST.out pos o h1 h2
      have RI := fun W hG hE => RD.out (pos + o) (by omega) s2 W hG hE
      rw [s1] at HA
      obtain ⟨t, ht⟩ : ∃ t, (refN attr (s.drop (pos + o))).1 = t := ⟨_, rfl⟩
      obtain ⟨k, hk⟩ : ∃ t, (refN attr (s.drop (pos + o))).2 = t := ⟨_, rfl⟩
      rw [ht, hk] at HA RI
      rw [hk] at s3 s4
      rw [ht, hk] at s5
      rw [← HSZ.out] at s4
      have HRI := Lib.hid RI
      have zx : (a.extract pos (pos + o)).size = o := by rw [ByteArray.size_extract]; omega
      have zt : (B t).size = t.length := size_B t
      have HN : Hid ((acc ++ (a.extract pos (pos + o)).data.toList) ++ (B t).data.toList ++ rdL attr (s.drop (pos + o + k)) = R) := Lib.hid (by rw [HY.out, B_data, ← HA.out]; simp only [List.append_assoc])
      have WS := Lib.hid (fun W (hI : Lib.IsBuilder 57 5 w.heap.size w.heap.size (Lib.byteCells acc) W) hb => Tryz.Builder_WriteString w.heap.size w.heap.size (Lib.byteCells acc) (a.extract pos (pos + o)) W hI (by rw [Lib.byteCells_length, zx]; omega) hb)
      have ze : (acc ++ (a.extract pos (pos + o)).data.toList).length = acc.length + o := by rw [List.length_append, Array.length_toList]; exact congrArg _ zx
      have WS2 := Lib.hid (fun W (hI : Lib.IsBuilder 57 5 w.heap.size w.heap.size (Lib.byteCells (acc ++ (a.extract pos (pos + o)).data.toList)) W) hb => Tryz.Builder_WriteString w.heap.size w.heap.size (Lib.byteCells (acc ++ (a.extract pos (pos + o)).data.toList)) (B t) W hI (by rw [Lib.byteCells_length, ze, zt]; omega) hb)
      have zf : ((acc ++ (a.extract pos (pos + o)).data.toList) ++ (B t).data.toList).length ≤ 8 * (pos + o + k) := by rw [List.length_append, ze, B_data]; omega
      obtain ⟨tb, htb⟩ : ∃ tb, B t = tb := ⟨_, rfl⟩
      rw [htb] at HRI HN WS2 zf
      have HZF := Lib.hid zf
      have hpo : pos + o ≤ a.size := by omega
      clear I h ho h1 h2 s1 s2 RI ht hk zx zt ze zf htb s5 HA
      go_wp2_with fail
      refine (I2.out _).mono ?_
      rintro e w1 ⟨rfl, rfl⟩
      clear I2
      go_wp2_with fail
      refine (WS.out _ HI.out HW.out.size).mono ?_
      rintro e w2 ⟨rfl, h1, b2⟩
      have HW2 := Lib.hid (HW.out.trans b2)
      have HI2 : Hid (Lib.IsBuilder 57 5 w.heap.size w.heap.size (Lib.byteCells (acc ++ (a.extract pos (pos + o)).data.toList)) w2) := Lib.hid (Or.inr (by rw [show Lib.byteCells (acc ++ (a.extract pos (pos + o)).data.toList) = Lib.byteCells acc ++ Lib.strCells (a.extract pos (pos + o)) by simp [Lib.byteCells, Lib.strCells]]; exact h1))
      clear h1 b2 WS HI HW
      go_wp2_with fail
      refine (HRI.out _ (HG.out.step HW2.out) (HE.out.step HW2.out)).mono ?_
      rintro e w3 ⟨rfl, b3⟩
      have HW3 := Lib.hid (HW2.out.trans (b3.mono HW2.out.size))
      have HI3 := Lib.hid (isB_below' HI2.out b3)
      clear b3 HRI HI2 HW2
      go_wp2_with fail
      refine (WS2.out _ HI3.out HW3.out.size).mono ?_
      rintro e w4 ⟨rfl, h1, b4⟩
      have HW4 := Lib.hid (HW3.out.trans b4)
      have HI4 : Hid (Lib.IsBuilder 57 5 w.heap.size w.heap.size (Lib.byteCells ((acc ++ (a.extract pos (pos + o)).data.toList) ++ tb.data.toList)) w4) := Lib.hid (Or.inr (by rw [show Lib.byteCells ((acc ++ (a.extract pos (pos + o)).data.toList) ++ tb.data.toList) = Lib.byteCells (acc ++ (a.extract pos (pos + o)).data.toList) ++ Lib.strCells tb by simp [Lib.byteCells, Lib.strCells]]; exact h1))
      clear h1 b4 WS2 HI3 HW3
      go_wp2_with fail
      go_step3
      refine ⟨rfl, ⟨pos + o + k, _, _, _, _, _, _, _, _, _, _, _, _, _, _, _, _, _, _, _, _, _, _, _, _, _, _, _, _, _, _, _, _, _, _, rfl, HI4, HW4, s4, HZF.out, HN⟩, ?_⟩
      simp [intOf]; omega
end Go.Proofs.YtdheknlnhfegnaaGreatDoor.Hand

namespace Go.Proofs.YtdheknlnhfegnaaGreatDoor.Pl
open Go

theorem ky_iff {T name : List UInt8} {p : Nat} (hn : ∀ c ∈ name, c ≠ 10 ∧ c ≠ 32) (row : ∃ q, lnT T p = kyT T p ++ 32 :: q) : kyT T p = name ↔ ∃ rest, T.drop p = name ++ 32 :: rest := by
  constructor
  · intro h
    obtain ⟨q, hq⟩ := row
    rw [h] at hq
    obtain ⟨m, hm⟩ := List.takeWhile_prefix (fun c : UInt8 => c != 10) (l := T.drop p)
    have hm' : lnT T p ++ m = T.drop p := hm
    rw [hq] at hm'
    exact ⟨q ++ m, by rw [← hm']; simp⟩
  · rintro ⟨rest, h⟩
    have hl : lnT T p = name ++ 32 :: rest.takeWhile (fun c => c != 10) := by
      unfold lnT
      rw [h, tw_app _ _ _ (fun x hx => by simpa using (hn x hx).1), List.takeWhile_cons, show ((32 : UInt8) != 10) = true from rfl, if_pos rfl]
    unfold kyT
    rw [hl, ky_row hn]
end Go.Proofs.YtdheknlnhfegnaaGreatDoor.Pl

namespace Go.Proofs.YtdheknlnhfegnaaGreatDoor.Hand
open Go Go.RowKit Go.Proofs.YtdheknlnhfegnaaGreatDoor.Pl Go.Proofs.YtdheknlnhfegnaaGreatDoor.Pb

def kyC (c : UInt8) : Bool := (decide (65 ≤ c.toNat) && decide (c.toNat ≤ 90)) || (decide (97 ≤ c.toNat) && decide (c.toNat ≤ 122)) || (decide (48 ≤ c.toNat) && decide (c.toNat ≤ 57))
def hdC : List UInt8 → Bool
  | [] => false
  | c :: _ => (decide (65 ≤ c.toNat) && decide (c.toNat ≤ 90)) || (decide (97 ≤ c.toNat) && decide (c.toNat ≤ 122))
/-- a key: letters and digits, a letter first, and at its end perhaps a semicolon -/
def keyOk (l : List UInt8) : Bool := decide ((kyL l).length ≤ 32) && ((kyL l).dropLast.all kyC && (hdC (kyL l) && (match (kyL l).getLast? with | some c => kyC c || c == 59 | none => false)))
def keysOk (T : List UInt8) : Bool := keyOk (linesOf T).1 && (linesOf T).2.all keyOk
set_option maxRecDepth 1000000 in
theorem names_keys : keysOk namesL = true := by kernel_rfl
theorem keys_all {T : List UInt8} (h : keysOk T = true) (p : Nat) (hp : St T p) : keyOk (lnT T p) = true := by
  unfold keysOk at h
  rw [Bool.and_eq_true, List.all_eq_true] at h
  rcases hp with rfl | ⟨q, rfl, hq⟩
  · rw [lines_head]; exact h.1
  · exact h.2 _ (lines_mem T q hq)
structure KeyP (k : List UInt8) : Prop where
  le : k.length ≤ 32
  pos : k ≠ []
  inner : ∀ c ∈ k.dropLast, kyC c = true
  head : hdC k = true
  last : ∃ c, k.getLast? = some c ∧ (kyC c = true ∨ c = 59)
theorem key_facts {k : List UInt8} (h : isKey namesL k) : KeyP k := by
  obtain ⟨p, h1, rfl⟩ := h
  have := keys_all names_keys p h1
  unfold keyOk at this
  rw [Bool.and_eq_true, Bool.and_eq_true, Bool.and_eq_true, decide_eq_true_eq, List.all_eq_true] at this
  obtain ⟨g1, g2, g3, g4⟩ := this
  change (kyT namesL p).length ≤ 32 at g1
  change hdC (kyT namesL p) = true at g3
  refine ⟨g1, ?_, g2, g3, ?_⟩
  · intro e; rw [e] at g3; cases g3
  · change (match (kyT namesL p).getLast? with | some c => kyC c || c == 59 | none => false) = true at g4
    split at g4
    · rename_i c hc
      refine ⟨c, hc, ?_⟩
      simpa using g4
    · cases g4
/-- a row's value, as the reference reads it -/
def runV : Int → Int → Bool → List UInt8 → Int × Int
  | a, b, _, [] => (a, b)
  | a, b, one, c :: r => if c = 10 then (a, b) else if c = 32 then runV a b false r else if one = true then runV (wrap64 (wrap64 (16 * a) + hexV c)) b true r else runV a (wrap64 (wrap64 (16 * b) + hexV c)) false r
theorem hexU_val {c : UInt8} (h : isHexU c = true) : 0 ≤ hexV c ∧ hexV c ≤ 15 ∧ c ≠ 10 ∧ c ≠ 32 := by
  have hc := hexU_cases h
  have hb := hexV_bound c
  refine ⟨?_, hb.2, ?_, ?_⟩
  · unfold hexV
    rcases hc with hc | hc
    · rw [if_pos hc]; omega
    · rw [if_neg (by omega), if_pos hc]; omega
  · rintro rfl
    rcases hc with hc | hc
    · exact absurd hc.1 (by decide)
    · exact absurd hc.1 (by decide)
  · rintro rfl
    rcases hc with hc | hc
    · exact absurd hc.1 (by decide)
    · exact absurd hc.1 (by decide)
theorem run_first (t : List UInt8) (b : Int) : ∀ (w : List UInt8) (a k : Nat), (∀ c ∈ w, isHexU c = true) → a < 16 ^ k → k + w.length ≤ 8 → runV (a : Int) b true (w ++ t) = runV (hexN a w : Int) b true t := by
  intro w
  induction w with
  | nil => intro a k _ _ _; rfl
  | cons c r ih =>
    intro a k hx ha hl
    obtain ⟨v1, v2, v3, v4⟩ := hexU_val (hx c (by simp))
    rw [List.length_cons] at hl
    have hp : 16 ^ (k + 1) ≤ 16 ^ 8 := Nat.pow_le_pow_right (by decide) (by omega)
    have h8 : (16 : Nat) ^ 8 = 4294967296 := by decide
    have hp2 : (16 : Nat) ^ (k + 1) = 16 * 16 ^ k := by rw [Nat.pow_succ, Nat.mul_comm]
    obtain ⟨v, hv⟩ := Int.eq_ofNat_of_zero_le v1
    have e : wrap64 (wrap64 (16 * (a : Int)) + hexV c) = ((16 * a + (hexV c).toNat : Nat) : Int) := by
      rw [hv]; unfold wrap64; omega
    rw [List.cons_append, runV, if_neg v3, if_neg v4, if_pos rfl, e, ih _ (k + 1) (fun d hd => hx d (by simp [hd])) (by omega) (by omega)]
    rfl
theorem run_second (t : List UInt8) (a : Int) : ∀ (w : List UInt8) (b k : Nat), (∀ c ∈ w, isHexU c = true) → b < 16 ^ k → k + w.length ≤ 8 → runV a (b : Int) false (w ++ t) = runV a (hexN b w : Int) false t := by
  intro w
  induction w with
  | nil => intro b k _ _ _; rfl
  | cons c r ih =>
    intro b k hx ha hl
    obtain ⟨v1, v2, v3, v4⟩ := hexU_val (hx c (by simp))
    rw [List.length_cons] at hl
    have hp : 16 ^ (k + 1) ≤ 16 ^ 8 := Nat.pow_le_pow_right (by decide) (by omega)
    have h8 : (16 : Nat) ^ 8 = 4294967296 := by decide
    have hp2 : (16 : Nat) ^ (k + 1) = 16 * 16 ^ k := by rw [Nat.pow_succ, Nat.mul_comm]
    obtain ⟨v, hv⟩ := Int.eq_ofNat_of_zero_le v1
    have e : wrap64 (wrap64 (16 * (b : Int)) + hexV c) = ((16 * b + (hexV c).toNat : Nat) : Int) := by
      rw [hv]; unfold wrap64; omega
    rw [List.cons_append, runV, if_neg v3, if_neg v4, if_neg (by decide), e, ih _ (k + 1) (fun d hd => hx d (by simp [hd])) (by omega) (by omega)]
    rfl
theorem run_end (a b : Int) (one : Bool) (t : List UInt8) (ht : t = [] ∨ ∃ r, t = 10 :: r) : runV a b one t = (a, b) := by
  rcases ht with rfl | ⟨r, rfl⟩
  · rfl
  · rw [runV, if_pos rfl]
theorem take_up (c : UInt8) (l : List UInt8) (h : c ∈ l) : l = upto c l ++ c :: past c l := by
  induction l with
  | nil => cases h
  | cons d r ih =>
    unfold upto past isNe at *
    by_cases e : d = c
    · subst e; simp [upto, isNe]
    · have hne : (d != c) = true := by simpa using e
      have hr : c ∈ r := by
        rcases List.mem_cons.1 h with h | h
        · exact absurd h.symm e
        · exact h
      have := ih hr
      simp only [List.takeWhile_cons, hne, if_true, List.cons_append, upto, isNe, List.length_cons, List.drop_succ_cons]
      simp only [upto, isNe] at this
      exact congrArg _ this
theorem upto_no {c : UInt8} : ∀ {l : List UInt8}, c ∉ l → upto c l = l
  | [], _ => rfl
  | d :: r, h => by
    have hd : (d != c) = true := by
      rw [bne_iff_ne]; exact fun e => h (by rw [e]; simp)
    have := upto_no (c := c) (l := r) (fun hm => h (by simp [hm]))
    unfold upto isNe at *
    rw [List.takeWhile_cons, if_pos hd, this]
theorem run_rest {rest t : List UInt8} (h : restOk rest = true) (ht : t = [] ∨ ∃ r, t = 10 :: r) : runV 0 0 true (rest ++ t) = ((num1 rest : Int), (num2 rest : Int)) := by
  unfold restOk at h
  rw [Bool.and_eq_true] at h
  obtain ⟨h1, h2⟩ := h
  change hexW (upto 32 rest) = true at h1
  change ((past 32 rest).isEmpty || hexW (past 32 rest)) = true at h2
  obtain ⟨a1, a2, a3⟩ := hexW_spec h1
  unfold num1 num2
  by_cases hm : (32 : UInt8) ∈ rest
  · have e := take_up 32 rest hm
    have hb : (∀ c ∈ past 32 rest, isHexU c = true) ∧ (past 32 rest).length ≤ 8 := by
      rw [Bool.or_eq_true, List.isEmpty_iff] at h2
      rcases h2 with h2 | h2
      · rw [h2]; simp
      · obtain ⟨b1, b2, b3⟩ := hexW_spec h2; exact ⟨b1, b3⟩
    obtain ⟨p1, p2⟩ : ∃ p, past 32 rest = p := ⟨_, rfl⟩
    obtain ⟨u1, u2⟩ : ∃ p, upto 32 rest = p := ⟨_, rfl⟩
    rw [p2, u2] at e
    rw [p2] at hb ⊢
    rw [u2] at a1 a2 a3 ⊢
    rw [e, List.append_assoc]
    have := run_first (32 :: p1 ++ t) 0 u1 0 0 a1 (by decide) (by omega)
    rw [List.cons_append] at this
    rw [List.cons_append]
    refine this.trans ?_
    rw [runV, if_neg (by decide), if_pos rfl]
    have := run_second t (hexN 0 u1 : Int) p1 0 0 hb.1 (by decide) (by omega)
    refine this.trans ?_
    exact run_end _ _ _ _ ht
  · have e : upto 32 rest = rest := upto_no hm
    have e2 : past 32 rest = [] := by unfold past; rw [e, List.drop_eq_nil_of_le (by omega)]
    rw [e2]
    rw [e] at a1 a2 a3 ⊢
    have := run_first t 0 rest 0 0 a1 (by decide) (by omega)
    refine this.trans ?_
    exact run_end _ _ _ _ ht
end Go.Proofs.YtdheknlnhfegnaaGreatDoor.Hand

namespace Go.Proofs.YtdheknlnhfegnaaGreatDoor.Hand
open Go Go.RowKit Go.Proofs.YtdheknlnhfegnaaGreatDoor.Pl Go.Proofs.YtdheknlnhfegnaaGreatDoor.Pb

def rowAt (T : List UInt8) (p : Nat) (key rest : List UInt8) : Bool := (T[p]? == some 10) && (lnT T (p + 1) == key ++ 32 :: rest)
def wordAmp : List UInt8 := [97, 109, 112]
def wordLt : List UInt8 := [108, 116]
def wordGt : List UInt8 := [103, 116]
def wordQuot : List UInt8 := [113, 117, 111, 116]
def wordNbsp : List UInt8 := [110, 98, 115, 112]
set_option maxRecDepth 1000000 in
theorem rows_are : (rowAt namesL 9820 (wordAmp ++ [59]) [50, 54] && (rowAt namesL 9813 wordAmp [50, 54] && (rowAt namesL 19023 (wordLt ++ [59]) [51, 67] && (rowAt namesL 15791 (wordGt ++ [59]) [51, 69] && (rowAt namesL 23656 (wordQuot ++ [59]) [50, 50] && rowAt namesL 20038 (wordNbsp ++ [59]) [65, 48]))))) = true := by kernel_rfl
theorem row_fnd {p : Nat} {key rest : List UInt8} (h : rowAt namesL p key rest = true) (hk : ∀ c ∈ key, c ≠ 10 ∧ c ≠ 32) : Fnd namesL key (some rest) := by
  unfold rowAt at h
  rw [Bool.and_eq_true, beq_iff_eq, beq_iff_eq] at h
  obtain ⟨h1, h2⟩ := h
  refine .inl ⟨p + 1, .inr ⟨p, rfl, h1⟩, ?_, ?_⟩
  · unfold kyT; rw [h2, ky_row hk]
  · rw [h2]; unfold rsL; rw [ky_row hk, List.drop_append, List.drop_eq_nil_of_le (by omega), List.nil_append, show key.length + 1 - key.length = 1 by omega]; rfl
theorem fnd_amp : Fnd namesL (wordAmp ++ [59]) (some [50, 54]) := row_fnd (Bool.and_eq_true_iff.1 rows_are).1 (by decide)
theorem fnd_amp0 : Fnd namesL wordAmp (some [50, 54]) := row_fnd (Bool.and_eq_true_iff.1 (Bool.and_eq_true_iff.1 rows_are).2).1 (by decide)
theorem fnd_lt : Fnd namesL (wordLt ++ [59]) (some [51, 67]) := row_fnd (Bool.and_eq_true_iff.1 (Bool.and_eq_true_iff.1 (Bool.and_eq_true_iff.1 rows_are).2).2).1 (by decide)
theorem fnd_gt : Fnd namesL (wordGt ++ [59]) (some [51, 69]) := row_fnd (Bool.and_eq_true_iff.1 (Bool.and_eq_true_iff.1 (Bool.and_eq_true_iff.1 (Bool.and_eq_true_iff.1 rows_are).2).2).2).1 (by decide)
theorem fnd_quot : Fnd namesL (wordQuot ++ [59]) (some [50, 50]) := row_fnd (Bool.and_eq_true_iff.1 (Bool.and_eq_true_iff.1 (Bool.and_eq_true_iff.1 (Bool.and_eq_true_iff.1 (Bool.and_eq_true_iff.1 rows_are).2).2).2).2).1 (by decide)
theorem fnd_nbsp : Fnd namesL (wordNbsp ++ [59]) (some [65, 48]) := row_fnd (Bool.and_eq_true_iff.1 (Bool.and_eq_true_iff.1 (Bool.and_eq_true_iff.1 (Bool.and_eq_true_iff.1 (Bool.and_eq_true_iff.1 rows_are).2).2).2).2).2 (by decide)
theorem fnd_key {key rest : List UInt8} (h : Fnd namesL key (some rest)) : isKey namesL key := (fnd_rest h).2.2
theorem nameT_of {key rest : List UInt8} (h : Fnd namesL key (some rest)) : nameT key = (textB (num1 rest) (num2 rest)).data.toList := by unfold nameT; rw [rowN_eq h]
theorem nameT_amp : nameT (wordAmp ++ [59]) = [38] := by rw [nameT_of fnd_amp]; decide +kernel
theorem nameT_amp0 : nameT wordAmp = [38] := by rw [nameT_of fnd_amp0]; decide +kernel
theorem nameT_lt : nameT (wordLt ++ [59]) = [60] := by rw [nameT_of fnd_lt]; decide +kernel
theorem nameT_gt : nameT (wordGt ++ [59]) = [62] := by rw [nameT_of fnd_gt]; decide +kernel
theorem nameT_quot : nameT (wordQuot ++ [59]) = [34] := by rw [nameT_of fnd_quot]; decide +kernel
theorem nameT_nbsp : nameT (wordNbsp ++ [59]) = [194, 160] := by rw [nameT_of fnd_nbsp]; decide +kernel

/-- no key goes on behind a byte that no key has within -/
theorem lng_stop {k r : List UInt8} {c : UInt8} (hk : isKey namesL k) (hc : kyC c = false ∧ c ≠ 59 ∨ k.getLast? = some 59) : lngN (k ++ c :: r) = k.length := by
  have hf := key_facts hk
  refine lngN_eq ⟨?_, .inr (by rw [List.take_left]; exact hk), fun m h1 h2 hm => ?_⟩
  · have := hf.le; simp; omega
  · have hg := key_facts hm
    have h2' : m ≤ (k ++ c :: r).length := by omega
    obtain ⟨d, rfl⟩ : ∃ d, m = k.length + 1 + d := ⟨m - (k.length + 1), by omega⟩
    have e : (k ++ c :: r).take (k.length + 1 + d) = k ++ c :: r.take d := by
      rw [List.take_append, List.take_of_length_le (by omega), show k.length + 1 + d - k.length = d + 1 by omega, List.take_succ_cons]
    rw [e] at hg
    rcases hc with ⟨h3, h4⟩ | h3
    · -- c itself stands there
      cases hd : r.take d with
      | nil =>
        rw [hd] at hg
        obtain ⟨x, hx, hx2⟩ := hg.last
        simp at hx
        subst hx
        rcases hx2 with h | h
        · rw [h3] at h; cases h
        · exact h4 h
      | cons y t =>
        rw [hd] at hg
        have hmem : c ∈ (k ++ c :: y :: t).dropLast := by
          rw [List.dropLast_append_of_ne_nil (by simp)]
          simp
        have := hg.inner c hmem
        rw [h3] at this; cases this
    · have hmem : (59 : UInt8) ∈ (k ++ c :: r.take d).dropLast := by
        rw [List.dropLast_append_of_ne_nil (by simp)]
        exact List.mem_append_left _ (List.mem_of_getLast? h3)
      have := hg.inner 59 hmem
      exact absurd this (by decide)
theorem num_letter {k r : List UInt8} (hk : isKey namesL k) : numL (k ++ r) = none := by
  have hf := key_facts hk
  cases k with
  | nil => exact absurd rfl hf.pos
  | cons c k =>
    have hh := hf.head
    have h35 : c ≠ 35 := by rintro rfl; exact absurd hh (by simp [hdC])
    unfold numL
    rw [if_neg]
    simp [begR, h35]
    have : ∀ n : Fin 256, lowB (UInt8.ofNat n.val) = 35 → UInt8.ofNat n.val = 35 := by decide +kernel
    have h := this ⟨c.toNat, c.toNat_lt⟩
    simp only [UInt8.ofNat_toNat] at h
    exact fun e => h35 (h e)
/-- a name with its semicolon -/
theorem refN_semi {attr : Bool} {w : List UInt8} (r : List UInt8) (hk : isKey namesL (w ++ [59])) : refN attr (38 :: (w ++ 59 :: r)) = (nameT (w ++ [59]), w.length + 2) := by
  have hl : lngN (w ++ 59 :: r) = w.length + 1 := by
    cases r with
    | nil =>
      refine lngN_eq ⟨?_, .inr ?_, fun m h1 h2 _ => ?_⟩
      · have := (key_facts hk).le; simp at this ⊢; omega
      · rw [List.take_of_length_le (by simp)]; exact hk
      · simp at h2; omega
    | cons c r =>
      have := lng_stop (c := c) (r := r) hk (.inr (by simp))
      rw [List.append_assoc] at this
      simpa using this
  have hn : numL (w ++ 59 :: r) = none := by
    have := num_letter (r := r) hk
    rwa [List.append_assoc] at this
  have ht : (w ++ 59 :: r).take (w.length + 1) = w ++ [59] := by
    rw [List.take_append, List.take_of_length_le (by omega), show w.length + 1 - w.length = 1 by omega]; rfl
  unfold refN
  rw [List.drop_succ_cons, List.drop_zero, hn, hl, ht]
  simp only
  rw [if_neg, show 1 + (w.length + 1) = w.length + 2 by omega]
  rintro (e | e)
  · omega
  · unfold leftL at e
    rw [show Lib.hasSuffix (w ++ [59]) [59] = true by unfold Lib.hasSuffix; simp] at e
    simp at e
theorem rdL_semi {attr : Bool} {w : List UInt8} (r : List UInt8) (hk : isKey namesL (w ++ [59])) : rdL attr (38 :: (w ++ 59 :: r)) = nameT (w ++ [59]) ++ rdL attr r := by
  rw [rdL_amp, refN_semi r hk]
  simp only
  congr 2
  rw [List.drop_succ_cons, List.drop_append, List.drop_eq_nil_of_le (by omega), show w.length + 1 - w.length = 1 by omega]; rfl
/-- digits with a semicolon -/
theorem numL_dec (ds r : List UInt8) (h : ∀ c ∈ ds, isDg false c = true) (h0 : ds ≠ []) {m : Nat} (hv : valL 10 ds = m) : numL (35 :: (ds ++ 59 :: r)) = some (m, ds.length + 2) := by
  have hx : begR (ds ++ 59 :: r) [120] = false := by
    cases ds with
    | nil => exact absurd rfl h0
    | cons c ds =>
      have hc := h c (by simp)
      have : ∀ n : Fin 256, isDg false (UInt8.ofNat n.val) = true → (lowB (UInt8.ofNat n.val) == 120) = false := by decide +kernel
      have g := this ⟨c.toNat, c.toNat_lt⟩
      simp only [UInt8.ofNat_toNat] at g
      simp [begR, g hc]
  have hd : digs false (ds ++ 59 :: r) = ds := by
    unfold digs
    rw [tw_app _ _ _ h, List.takeWhile_cons, if_neg (by decide), List.append_nil]
  unfold numL
  rw [show begR (35 :: (ds ++ 59 :: r)) [35] = true by simp [begR, lowB], if_pos rfl, List.drop_succ_cons, List.drop_zero, hx, if_neg (by decide)]
  unfold numQ
  simp only [hd]
  rw [show baseN false = 10 from rfl, hv, if_neg (by omega), List.drop_left, show begR (59 :: r) [59] = true by simp [begR, lowB], if_pos rfl]
  simp only [Option.map_some, Int.toNat_natCast]
theorem refN_dec {attr : Bool} (ds r : List UInt8) (h : ∀ c ∈ ds, isDg false c = true) (h0 : ds ≠ []) {m : Nat} (hv : valL 10 ds = m) : refN attr (38 :: 35 :: (ds ++ 59 :: r)) = ((fixB m).data.toList, ds.length + 3) := by
  unfold refN
  rw [List.drop_succ_cons, List.drop_zero, numL_dec ds r h h0 hv]
  simp only
  rw [show 1 + (ds.length + 2) = ds.length + 3 by omega]
theorem rdL_dec {attr : Bool} (ds r : List UInt8) (h : ∀ c ∈ ds, isDg false c = true) (h0 : ds ≠ []) {m : Nat} (hv : valL 10 ds = m) : rdL attr (38 :: 35 :: (ds ++ 59 :: r)) = (fixB m).data.toList ++ rdL attr r := by
  rw [rdL_amp, refN_dec ds r h h0 hv]
  simp only
  congr 2
  rw [show ds.length + 3 = (ds.length + 1) + 2 by omega, List.drop_succ_cons, List.drop_succ_cons, List.drop_append, List.drop_eq_nil_of_le (by omega), show ds.length + 1 - ds.length = 1 by omega]; rfl
end Go.Proofs.YtdheknlnhfegnaaGreatDoor.Hand

namespace Go.Proofs.YtdheknlnhfegnaaGreatDoor.Hand
open Go Go.RowKit Go.Proofs.YtdheknlnhfegnaaGreatDoor.Pl Go.Proofs.YtdheknlnhfegnaaGreatDoor.Pb

theorem dec_apos (attr : Bool) (r : List UInt8) : rdL attr (wApos ++ r) = 39 :: rdL attr r := by
  have := rdL_dec (attr := attr) [51, 57] r (by decide) (by decide) (m := 39) (by decide)
  exact this.trans (by rw [show (fixB 39).data.toList = [39] by decide +kernel]; rfl)
theorem dec_cr (attr : Bool) (r : List UInt8) : rdL attr (wCr ++ r) = 13 :: rdL attr r := by
  have := rdL_dec (attr := attr) [49, 51] r (by decide) (by decide) (m := 13) (by decide)
  exact this.trans (by rw [show (fixB 13).data.toList = [13] by decide +kernel]; rfl)
theorem dec_mark (attr : Bool) (r : List UInt8) : rdL attr (wMark ++ r) = 239 :: 187 :: 191 :: rdL attr r := by
  have := rdL_dec (attr := attr) [54, 53, 50, 55, 57] r (by decide) (by decide) (m := 65279) (by decide)
  exact this.trans (by rw [show (fixB 65279).data.toList = [239, 187, 191] by decide +kernel]; rfl)
theorem dec_amp (attr : Bool) (r : List UInt8) : rdL attr (wAmp ++ r) = 38 :: rdL attr r := by
  have := rdL_semi (attr := attr) (w := wordAmp) r (fnd_key fnd_amp)
  exact this.trans (by rw [nameT_amp]; rfl)
theorem dec_lt (attr : Bool) (r : List UInt8) : rdL attr (wLt ++ r) = 60 :: rdL attr r := by
  have := rdL_semi (attr := attr) (w := wordLt) r (fnd_key fnd_lt)
  exact this.trans (by rw [nameT_lt]; rfl)
theorem dec_gt (attr : Bool) (r : List UInt8) : rdL attr (wGt ++ r) = 62 :: rdL attr r := by
  have := rdL_semi (attr := attr) (w := wordGt) r (fnd_key fnd_gt)
  exact this.trans (by rw [nameT_gt]; rfl)
theorem dec_quot (attr : Bool) (r : List UInt8) : rdL attr (wQuot ++ r) = 34 :: rdL attr r := by
  have := rdL_semi (attr := attr) (w := wordQuot) r (fnd_key fnd_quot)
  exact this.trans (by rw [nameT_quot]; rfl)
theorem clean_ne {c : UInt8} (r : List UInt8) (h : c ≠ 0) : cleanL (c :: r) = c :: cleanL r := by rw [cleanL_cons]; simp [cleanB, h]
/-- what is written is read as just that -/
theorem read_esc (attr : Bool) : ∀ n (s : List UInt8), s.length ≤ n → rdL attr (escL s) = cleanL s := by
  intro n
  induction n with
  | zero => intro s h; obtain rfl := List.eq_nil_of_length_eq_zero (Nat.le_zero.1 h); rfl
  | succ n ih =>
    intro s h
    cases s with
    | nil => rfl
    | cons c r =>
      simp only [List.length_cons] at h
      have hr := ih r (by omega)
      refine esc_cases c r (fun l => rdL attr l = cleanL (c :: r)) ?_ ?_ ?_ ?_ ?_ ?_ ?_ ?_ ?_
      · rintro rfl; rw [dec_amp, hr, clean_ne r (by decide)]
      · rintro rfl; rw [dec_lt, hr, clean_ne r (by decide)]
      · rintro rfl; rw [dec_gt, hr, clean_ne r (by decide)]
      · rintro rfl; rw [dec_quot, hr, clean_ne r (by decide)]
      · rintro rfl; rw [dec_apos, hr, clean_ne r (by decide)]
      · rintro rfl; rw [dec_cr, hr, clean_ne r (by decide)]
      · rintro rfl
        rw [rdL_app attr _ (show (38 : UInt8) ∉ wBad by decide), hr, cleanL_cons]; rfl
      · rintro q rfl rfl
        simp only [List.length_cons] at h
        rw [dec_mark, ih q (by omega), clean_ne _ (by decide), clean_ne _ (by decide), clean_ne _ (by decide)]
      · intro h38 _ _ _ _ _ h0 _
        rw [rdL_ne attr _ h38, hr, clean_ne r h0]
theorem read_enc (attr : Bool) (k : Int) (hk : 0 ≤ k ∧ k ≤ 2) (s : List UInt8) : rdL attr (encL k s) = (if k = 2 ∧ s.head? = some 10 then 10 :: cleanL s else cleanL s) := by
  have hr := read_esc attr _ s (Nat.le_refl _)
  unfold encL
  split
  · rw [hr, if_neg (by omega)]
  · rw [if_pos (by omega)]
    split
    · rename_i h; rw [if_pos ⟨by omega, h⟩, rdL_ne attr _ (by decide), hr]
    · rename_i h; rw [if_neg (by rintro ⟨_, e⟩; exact h e), hr]
end Go.Proofs.YtdheknlnhfegnaaGreatDoor.Hand

namespace Go.Proofs.YtdheknlnhfegnaaGreatDoor.Hand
open Go Go.RowKit Go.Proofs.YtdheknlnhfegnaaGreatDoor.Pb Go.Proofs.YtdheknlnhfegnaaGreatDoor.Pl Go.Proofs.YtdheknlnhfegnaaGreatDoor.Sg

theorem pfx10 (s : List UInt8) : ([10] : List UInt8).isPrefixOf s = (s.head? == some 10) := by
  cases s with
  | nil => rfl
  | cons c r =>
    by_cases h : c = 10
    · subst h; rfl
    · rw [show ((c :: r).head? == some 10) = false by rw [beq_eq_false_iff_ne]; exact fun e => h (Option.some.inj e)]
      simp [List.isPrefixOf, Ne.symm h]
theorem rpre_c (s t : List UInt8) (w : World) : Calls Tryz.prog 13 #[.string (B s), .string (B t)] w fun e w' => e = .returned (.bool (t.isPrefixOf s)) ∧ Below w.heap.size w w' := by
  have hf : flailref01_Begins.f (B s) (B t) = some (t.isPrefixOf s) := by
    unfold flailref01_Begins.f
    rw [size_B, size_B]
    by_cases h : s.length < t.length
    · rw [if_pos (by omega)]
      congr 1
      rw [Eq.comm, Bool.eq_false_iff]
      intro h2
      have := (List.isPrefixOf_iff_prefix.1 h2).length_le
      omega
    · rw [if_neg (by omega), if_pos (by omega), if_pos (by omega)]
      congr 1
      rw [Int.toNat_natCast, B_extract, List.drop_zero, toList_B, toList_B, Bool.eq_iff_iff, beq_iff_eq, List.isPrefixOf_iff_prefix]
      constructor
      · intro e; exact ⟨s.drop t.length, by conv => rhs; rw [← List.take_append_drop t.length s]; rw [e]⟩
      · rintro ⟨p, rfl⟩; simp
  exact (flailref01_Begins.calls _ _ _ w hf).mono fun _ _ h => ⟨h.1, h.2.below⟩
set_option maxRecDepth 100000 in
set_option maxHeartbeats 4000000 in
theorem EscapeBack_law (d : Int) (a1 : ByteArray) (attr : Bool) (w : World) (hk : (Lit.int .u8 d).wf = true) (h0 : a1.size ≤ 140737488351232) (hGl : Glob w) :
    Calls Tryz.prog 4 #[.int .u8 d, .string a1, .bool attr] w fun e w' => e = .returned (.bool true) ∧ Below w.heap.size w w' := by
  have hd : 0 ≤ d ∧ d ≤ 255 := u8_wf hk
  obtain ⟨hd0, hd1⟩ := hd
  have AW := Lib.hid (fun W => awake21_any W)
  have HGl := Lib.hid hGl
  clear hk hGl
  by_cases c1 : 300 < a1.size
  · have q1 : decide ((300 : Int) < (a1.size : Int)) = true := by simp; omega
    clear c1
    go_enter Tryz.func4, Tryz.ntmps4
    go_wp2_with fail
    refine (AW.out _).mono ?_
    rintro e w1 ⟨rfl, hb⟩
    have HB := Lib.hid hb
    clear hb
    go_wp2_with fail
    go_ret
    exact ⟨rfl, HB.out⟩
  have q1 : decide ((300 : Int) < (a1.size : Int)) = false := by simp; omega
  obtain ⟨s, rfl⟩ := exists_B a1
  have hs : s.length ≤ 300 := by rw [size_B] at c1; omega
  have z1 : (B s).size ≤ 300 := by rw [size_B]; exact hs
  clear c1
  have E1 := Lib.hid (fun W => enc_c (d % 3) s W (by omega))
  have zl := enc_length (d % 3) s
  have RD := Lib.hid (fun W hG => rdecode_c (encL (d % 3) s) attr (by omega) W hG hG.toE)
  have hrd := read_enc attr (d % 3) (by omega) s
  rw [hrd] at RD
  have CR : ∀ W, Glob W → Calls Tryz.prog 9 #[.string (B s)] W fun e w' => e = .returned (.string (B (cleanL s))) ∧ Below W.heap.size W w' := fun W hG => by
    have := clean_any (B s) W (by rw [size_B]; omega) hG
    unfold cleanBA at this
    rw [B_data] at this
    exact this
  have HCR := Lib.hid CR
  have BR := Lib.hid (fun W => rpre_c s [10] W)
  rw [pfx10] at BR
  have hcl : (cleanL s).length ≤ 900 := by have := (cleanL_length s).2; omega
  obtain ⟨hb10, e10⟩ : ∃ b, (s.head? == some 10) = b := ⟨_, rfl⟩
  have h10 : s.head? = some 10 ↔ hb10 = true := by rw [← e10, beq_iff_eq]
  rw [e10] at BR
  obtain ⟨E, hE⟩ : ∃ E, B (encL (d % 3) s) = E := ⟨_, rfl⟩
  have hcons : B (10 :: cleanL s) = ⟨#[10]⟩ ++ B (cleanL s) := by rw [show (⟨#[10]⟩ : ByteArray) = B [10] from rfl, B_append]; rfl
  obtain ⟨C, hC⟩ : ∃ C, B (cleanL s) = C := ⟨_, rfl⟩
  have zC : C.size ≤ 900 := by rw [← hC, size_B]; exact hcl
  rw [hE] at E1 RD
  have HH : Hid (B (if d % 3 = 2 ∧ s.head? = some 10 then 10 :: cleanL s else cleanL s) = if d % 3 = 2 ∧ hb10 = true then ⟨#[10]⟩ ++ C else C) := Lib.hid (by
    rw [← hC]
    by_cases hh : d % 3 = 2 ∧ s.head? = some 10
    · rw [if_pos hh, if_pos ⟨hh.1, h10.1 hh.2⟩, hcons]
    · rw [if_neg hh, if_neg (fun e => hh ⟨e.1, h10.2 e.2⟩)])
  rw [HH.out] at RD
  rw [hC] at HCR
  obtain ⟨a, ha⟩ : ∃ a, B s = a := ⟨_, rfl⟩
  rw [ha] at E1 HCR BR q1 z1 h0 ⊢
  have qs : ∀ X : ByteArray, (X.toList == X.toList) = true := fun X => beq_self_eq_true _
  clear hrd CR hcl e10 h10 hE hcons hC HH ha hs zl
  by_cases hd2 : d % 3 = 2
  · have q2 : (d % 3 == 2) = true := by rw [beq_iff_eq]; exact hd2
    have HD2 := Lib.hid hd2
    cases hb10 with
    | true =>
      rw [if_pos ⟨hd2, rfl⟩] at RD
      have q3 := qs (⟨#[10]⟩ ++ C)
      clear hd2 qs
      go_enter Tryz.func4, Tryz.ntmps4
      go_wp2_with fail
      refine (AW.out _).mono ?_
      rintro e w1 ⟨rfl, hb⟩
      have HB := Lib.hid hb
      clear hb
      go_wp2_with fail
      refine (HCR.out _ (HGl.out.step HB.out)).mono ?_
      rintro e w2 ⟨rfl, hb⟩
      replace HB := Lib.hid (Below.next HB.out HB.out.size hb)
      clear hb
      go_wp2_with fail
      refine (BR.out _).mono ?_
      rintro e w3 ⟨rfl, hb⟩
      replace HB := Lib.hid (Below.next HB.out HB.out.size hb)
      clear hb
      go_wp2_with fail
      refine (E1.out _).mono ?_
      rintro e w4 ⟨rfl, hb⟩
      replace HB := Lib.hid (Below.next HB.out HB.out.size hb)
      clear hb
      go_wp2_with fail
      refine (RD.out _ (HGl.out.step HB.out)).mono ?_
      rintro e w5 ⟨rfl, hb⟩
      replace HB := Lib.hid (Below.next HB.out HB.out.size hb)
      clear hb
      go_wp2_with fail
      go_ret
      exact ⟨rfl, HB.out⟩
    | false =>
      rw [if_neg (fun e => Bool.noConfusion e.2)] at RD
      have q3 := qs C
      clear hd2 qs
      go_enter Tryz.func4, Tryz.ntmps4
      go_wp2_with fail
      refine (AW.out _).mono ?_
      rintro e w1 ⟨rfl, hb⟩
      have HB := Lib.hid hb
      clear hb
      go_wp2_with fail
      refine (HCR.out _ (HGl.out.step HB.out)).mono ?_
      rintro e w2 ⟨rfl, hb⟩
      replace HB := Lib.hid (Below.next HB.out HB.out.size hb)
      clear hb
      go_wp2_with fail
      refine (BR.out _).mono ?_
      rintro e w3 ⟨rfl, hb⟩
      replace HB := Lib.hid (Below.next HB.out HB.out.size hb)
      clear hb
      go_wp2_with fail
      refine (E1.out _).mono ?_
      rintro e w4 ⟨rfl, hb⟩
      replace HB := Lib.hid (Below.next HB.out HB.out.size hb)
      clear hb
      go_wp2_with fail
      refine (RD.out _ (HGl.out.step HB.out)).mono ?_
      rintro e w5 ⟨rfl, hb⟩
      replace HB := Lib.hid (Below.next HB.out HB.out.size hb)
      clear hb
      go_wp2_with fail
      go_ret
      exact ⟨rfl, HB.out⟩
  · have q2 : (d % 3 == 2) = false := by rw [beq_eq_false_iff_ne]; exact hd2
    rw [if_neg (fun e => hd2 e.1)] at RD
    have q3 := qs C
    clear hd2 qs
    go_enter Tryz.func4, Tryz.ntmps4
    go_wp2_with fail
    refine (AW.out _).mono ?_
    rintro e w1 ⟨rfl, hb⟩
    have HB := Lib.hid hb
    clear hb
    go_wp2_with fail
    refine (HCR.out _ (HGl.out.step HB.out)).mono ?_
    rintro e w2 ⟨rfl, hb⟩
    replace HB := Lib.hid (Below.next HB.out HB.out.size hb)
    clear hb
    go_wp2_with fail
    refine (E1.out _).mono ?_
    rintro e w4 ⟨rfl, hb⟩
    replace HB := Lib.hid (Below.next HB.out HB.out.size hb)
    clear hb
    go_wp2_with fail
    refine (RD.out _ (HGl.out.step HB.out)).mono ?_
    rintro e w5 ⟨rfl, hb⟩
    replace HB := Lib.hid (Below.next HB.out HB.out.size hb)
    clear hb
    go_wp2_with fail
    go_ret
    exact ⟨rfl, HB.out⟩
end Go.Proofs.YtdheknlnhfegnaaGreatDoor.Hand

namespace Go.Proofs.YtdheknlnhfegnaaGreatDoor.RowKit
open Go

/-! What is asked of the program alone, each once. -/
def R : OpenClaim := Rows.safeQuotedRow
theorem p2 : laidOutB Tryz.prog = true := by kernel_rfl
theorem p3 : mapsRowed Tryz.prog = true := by kernel_rfl
theorem p7 : (Tryz.prog.stops == []) = true := by kernel_rfl
theorem p9 : (Tryz.prog.stopKnobs == []) = true := by kernel_rfl
theorem p23 : (R.plainKeys == Tryz.prog.plainKeys) = true := by kernel_rfl
theorem p25 : Tryz.prog.stopsHeard = true := by kernel_rfl
theorem p26 : Tryz.prog.mayEnter = true := by kernel_rfl
theorem p27 : (R.lifted == Tryz.prog.liftsFinal) = true := by kernel_rfl
theorem p28 : (Tryz.prog.make == some R.make) = true := by kernel_rfl
theorem looks_is : Tryz.prog.looks [] = Rows.safeQuotedCard.stood.looks := by kernel_rfl
theorem main_is : Tryz.prog.mainIs = some (Rows.safeQuotedCard.stood.harness.1, Rows.safeQuotedCard.stood.harness.2.toList) := by kernel_rfl
end Go.Proofs.YtdheknlnhfegnaaGreatDoor.RowKit

namespace Go.Proofs.YtdheknlnhfegnaaGreatDoor.RowKit
open Go Go.RowKit


theorem out_of_shape {W : World} (h : W.ShapedOpen Tryz.prog) : ∃ m, W.cell? ⟨0, 0, none⟩ = some (.int .i64 m) :=
  Go.Proofs.cell_of_shapedOpen_int (zero := #[.int .i64 0]) (t := 3) h (of_decide_eq_true (by kernel_rfl)) (by kernel_rfl) rfl (by kernel_rfl) (by kernel_rfl) Tryz.underlying3
theorem laid_mem {P : Program} {w : World} {n : String} {d : DataW Unit} : ∀ {l : List (String × DataW Unit)} {ps : List MemPlace}, DataW.LaidVars P w l ps → (n, d) ∈ l →
    ∃ g t cs fuel p, P.globalNamed n = some g ∧ (P.globals[g]?).map (·.type) = some t ∧ w.var? P n = some cs ∧ DataW.trod (fun _ => ()) P w 0 (fun _ => true) false fuel t cs.toList = some (d, p)
  | [], _, _, hm => by cases hm
  | (m, e) :: r, ps, h, hm => by
    obtain ⟨g, t, cs, fuel, p, q, h1, h2, h3, h4, h5, _⟩ := h
    rcases List.mem_cons.1 hm with h' | h'
    · obtain ⟨rfl, rfl⟩ := Prod.mk.inj h'
      exact ⟨g, t, cs, fuel, p, h1, h2, h3, h4⟩
    · exact laid_mem h5 h'
theorem globE_of_laid {W : World} {laid : List (String × DataW Unit)} {nm : String} {d : DataW Unit} (h : laidMetH Tryz.prog laid W) (hp : (laid.all fun x => x.2.handleName?.isNone) = true)
    (hm : ("strconv.ErrSyntax", DataW.iface nm d) ∈ laid) : Hand.GlobE W := by
  rw [MakeChecks.laidMetH_plain _ _ _ hp] at h
  obtain ⟨ps, hl, _⟩ := h
  obtain ⟨g, t, cs, fuel, p, h1, h2, h3, h4⟩ := laid_mem hl hm
  have hg : Tryz.prog.globalNamed "strconv.ErrSyntax" = some 3 := by kernel_rfl
  obtain rfl : 3 = g := Option.some.inj (hg.symm.trans h1)
  have ht : (Tryz.prog.globals[3]?).map (·.type) = some 60 := by kernel_rfl
  obtain rfl : 60 = t := Option.some.inj (ht.symm.trans h2)
  obtain ⟨_, u, v, hc, _, _⟩ := iface_of_trod Tryz.underlying60 h4
  have hcell := var?_cell h1 h3 0
  have hcs : cs = #[.iface u v] := by cases cs; simpa using hc
  rw [hcs] at hcell
  exact ⟨_, hcell, .inr ⟨u, v, rfl⟩⟩
theorem glob_of_laid {W : World} (hs : W.ShapedOpen Tryz.prog) {laid : List (String × DataW Unit)} {nm : String} {d : DataW Unit} (h : laidMetH Tryz.prog laid W) (hp : (laid.all fun x => x.2.handleName?.isNone) = true)
    (hm : ("strconv.ErrSyntax", DataW.iface nm d) ∈ laid) : Hand.Glob W := ⟨out_of_shape hs, (globE_of_laid h hp hm).out⟩
section
variable {H : Type} {enc : TypeId × Value → H}
theorem handed_and_shaped {a : Assume} {C : Checked} {os : Os} {f : FuncId} {fn : Func} {s : ChangeSpec} {conds : List PathCond} {apart fresh handsOn again : Bool} {X : World → Array Value → Prop}
    (hX : ∀ (w w' : World) (args : Array Value), w.heap = w'.heap → X w args → X w' args)
    (own : ownKnob C.prog.godebug = none) (started : os.Started) (noInit : C.prog.inits.idxOf? f = none) (hfn : C.prog.funcs[f]? = some fn)
    (witness : ∃ (w : World) (tape : Tape) (i : Input), w.os = os ∧ (w.forCall tape i).Shaped C.prog ∧ i.vars = [] ∧ Input.okWide C.prog (w.forCall tape i) .any w.heap.size f i ∧
      ((s.pre enc C.prog fn conds apart (w.forCall tape i).memory i.args ∧ X (w.forCall tape i).memory i.args) ∧ sizedMet enc C.prog fn (OpenSpec.ofChange s) apart (w.forCall tape i).memory i.args) ∧
      a.holds C.prog (lone (Frame.enter C.prog f i.args .normal) [] (w.forCall tape i)))
    (contract : ∀ (W : World) (base : Nat) (args : Array Value) (ds gs : List (DataW H)) (before : List MemPlace),
      (∀ (j : Nat) t v, fn.params[j]? = some t → args[j]? = some v → Value.okWide C.prog W .any base t v) →
      DataW.Whole enc C.prog fn.params.toList s.vars apart W args.toList ds gs before →
      (DataW.weightsEach C.prog (fn.params.toList ++ s.plain.varTypes C.prog) (ds ++ gs)).all (· ≤ reachBytes) = true → X W args → W.ShapedOpen C.prog →
      Calls C.prog f args W fun e W' => ∃ v, e = .returned v ∧ s.post enc C.prog fn apart fresh handsOn again W args v W') :
    ReturnsInHanded a C os f .any (fun w args => (s.pre enc C.prog fn conds apart w args ∧ X w args) ∧ sizedMet enc C.prog fn (OpenSpec.ofChange s) apart w args) (s.post enc C.prog fn apart fresh handsOn again) := by
  refine returnsInHanded_of_calls own started noInit witness ?_
  intro w tape i _ hsh _ hok hpre _
  obtain ⟨_, _, _, fn', hfn', _, _, _, _, hval⟩ := hok
  have e : fn' = fn := Option.some.inj (hfn'.symm.trans hfn)
  subst e
  obtain ⟨⟨⟨ds, gs, before, hw, _⟩, hx⟩, hz⟩ := hpre
  have hw' := DataW.Whole.of_heap (w' := w.forCall tape i) (by rfl) hw
  refine (contract (w.forCall tape i) w.heap.size i.args ds gs before hval hw' (hz.weights hw) (hX _ _ _ (by rfl) hx) hsh).mono fun e W' ⟨v, he, hp⟩ => ?_
  subst he
  exact ChangeSpec.post_blind hp
end

theorem joined {f : FuncId} {fn : Func} {s : ChangeSpec} {c : OpenClaim}
    (k1 : c.wf (OpenSpec.ofChange s) = true) (k4 : (fn.params.all (Tryz.prog.readableRec ·)) = true) (k5 : namedTie Tryz.prog c.named s.vars = true) (k6 : (c.stops == []) = true) (k8 : (c.knobs == []) = true)
    (k10 : (c.inPlace == Tryz.prog.inPlace f) = true) (k11 : (c.unfollowed == Tryz.prog.unfollowed f) = true) (k12 : (c.recurses == Tryz.prog.recurses f) = true) (k13 : (c.named == Tryz.prog.varsNamed f) = true)
    (k14 : (c.maps == (fn.params.toList ++ s.plain.varTypes Tryz.prog).any (Tryz.prog.mapsRec ·)) = true) (k15 : (c.ifaces == (fn.params.toList ++ s.plain.varTypes Tryz.prog).any (Tryz.prog.ifacesRec ·)) = true) (k16 : (c.mapsOut == Tryz.prog.mapsAmong fn.resultTypes.toList) = true)
    (k17 : (c.loops == (fn.params.toList ++ s.plain.varTypes Tryz.prog).any (Tryz.prog.loopsFrom ·)) = true) (k18 : (c.wideKeys == (fn.params.toList ++ s.plain.varTypes Tryz.prog ++ fn.resultTypes.toList).any (Tryz.prog.wideKeysFrom ·)) = true)
    (k19 : s.vars.all (Tryz.prog.varReadable ·) = true) (k20 : fn.resultTypes.all (fun t => Tryz.prog.readableRec t && decide (t < Tryz.prog.types.size)) = true) (k21 : (c.ifacesOut == fn.resultTypes.toList.any (Tryz.prog.ifacesRec ·)) = true) (k22 : (c.loopsOut == fn.resultTypes.toList.any (Tryz.prog.loopsFrom ·)) = true)
    (k23 : c.plainKeys = R.plainKeys) (k24 : c.shortTexts.isNone = true) (k27 : c.lifted = R.lifted) (k28 : c.make = R.make)
    (k29 : c.domain = []) (k29' : c.kinds = []) (k30 : (c.pinned == c.pinnedBy) = true)
    (k31 : (c.veiled == (fn.params.toList ++ s.plain.varTypes Tryz.prog ++ fn.resultTypes.toList).any (Tryz.prog.veiledRec ·)) = true) (k32 : c.veiledFits Tryz.prog fn.params.toList (fn.params.toList ++ s.plain.varTypes Tryz.prog ++ fn.resultTypes.toList) = true) :
    joinedFacts Tryz.prog f fn s c = true := by
  have e23 : (c.plainKeys == Tryz.prog.plainKeys) = true := by rw [k23]; exact p23
  have e27 : (c.lifted == Tryz.prog.liftsFinal) = true := by rw [k27]; exact p27
  have e28 : (Tryz.prog.make == some c.make) = true := by rw [k28]; exact p28
  unfold joinedFacts
  rw [k1, p2, p3, k4, k5, k6, p7, k8, p9, k10, k11, k12, k13, k14, k15, k16, k17, k18, k19, k20, k21, k22, e23, k24, p25, p26, e27, e28, k29, k29', k30, k31, k32]
  rfl
end Go.Proofs.YtdheknlnhfegnaaGreatDoor.RowKit
