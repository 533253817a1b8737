/-
  Plain: what stands at the beginning of a text (letters large or small), a tag's end, a program's word; where a program ends.
-/
import Derived.Test.YtajfpegacbohdaaDoorPl0
namespace Go.Proofs.YtajfpegacbohdaaDoor.Pl

def isSp (c : UInt8) : Bool := c == 32 || c == 9 || c == 10 || c == 12
/-- a blank, a stroke or a bracket -/
def stops (c : UInt8) : Bool := isSp c || c == 47 || c == 62
def begR : List UInt8 → List UInt8 → Bool
  | _, [] => true
  | [], _ :: _ => false
  | c :: r, d :: low => lowB c == d && begR r low
theorem begR_eq (low : List UInt8) : ∀ r, (lowL (r.take low.length) == low) = begR r low := by
  induction low with
  | nil => intro r; cases r <;> rfl
  | cons d low ih =>
    intro r
    cases r with
    | nil => rfl
    | cons c r =>
      have := ih r
      simp only [List.length_cons, List.take_succ_cons, begR, lowL, List.map_cons] at this ⊢
      rw [← this]; rfl
theorem begR_append (a b : List UInt8) : ∀ r, begR r (a ++ b) = (begR r a && begR (r.drop a.length) b) := by
  induction a with
  | nil => intro r; simp [begR]
  | cons d a ih =>
    intro r
    cases r with
    | nil => simp [begR]
    | cons c r => simp [begR, ih, Bool.and_assoc]
theorem begR_length (low : List UInt8) : ∀ r, begR r low = true → low.length ≤ r.length := by
  induction low with
  | nil => intro r _; simp
  | cons d low ih =>
    intro r h
    cases r with
    | nil => simp [begR] at h
    | cons c r =>
      simp only [begR, Bool.and_eq_true] at h
      have := ih r h.2
      simp; omega
theorem lowB_idem (c : UInt8) : lowB (lowB c) = lowB c := by
  have : ∀ n : Fin 256, lowB (lowB (UInt8.ofNat n.val)) = lowB (UInt8.ofNat n.val) := by decide +kernel
  have h := this ⟨c.toNat, c.toNat_lt⟩
  simpa using h
theorem begR_low (low : List UInt8) : ∀ r, begR (lowL r) low = begR r low := by
  induction low with
  | nil => intro r; cases r <;> rfl
  | cons d low ih =>
    intro r
    cases r with
    | nil => rfl
    | cons c r =>
      have := ih r
      simp only [lowL, List.map_cons, begR] at this ⊢
      rw [lowB_idem, this]
theorem stops_low (c : UInt8) : stops (lowB c) = stops c := by
  have : ∀ n : Fin 256, stops (lowB (UInt8.ofNat n.val)) = stops (UInt8.ofNat n.val) := by decide +kernel
  have h := this ⟨c.toNat, c.toNat_lt⟩
  simpa using h
def stopAt (r : List UInt8) : Bool := match r with | [] => false | c :: _ => stops c
theorem stopAt_low (r : List UInt8) : stopAt (lowL r) = stopAt r := by
  cases r with
  | nil => rfl
  | cons c r => exact stops_low c
theorem lowL_drop (r : List UInt8) (n : Nat) : (lowL r).drop n = lowL (r.drop n) := by simp [lowL]
/-- does a tag's end stand there -/
def endsL (r name : List UInt8) : Bool := !name.isEmpty && begR r [60, 47] && begR (r.drop 2) name && stopAt (r.drop (2 + name.length))
def scriptL : List UInt8 := [115, 99, 114, 105, 112, 116]
def wordL (r opens : List UInt8) : Bool := begR r (opens ++ scriptL) && stopAt (r.drop (opens.length + 6))
theorem endsL_low (r name : List UInt8) : endsL (lowL r) name = endsL r name := by
  unfold endsL; rw [lowL_drop, lowL_drop, begR_low, begR_low, stopAt_low]
theorem wordL_low (r opens : List UInt8) : wordL (lowL r) opens = wordL r opens := by
  unfold wordL; rw [lowL_drop, begR_low, stopAt_low]

/-! ### where a program ends: one step: nothing: it ends here; else how many bytes are passed, the new state, the new number of strokes -/
def stepF (st ct : Nat) (r : List UInt8) : Option (Nat × Nat × Nat) :=
  match r with
  | [] => none
  | c :: _ =>
    if st ≠ 2 ∧ endsL r scriptL = true then none
    else if st = 0 then (if begR r [60, 33, 45, 45] = true then some (4, 1, 2) else some (1, 0, ct))
    else if c = 45 then some (1, st, ct + 1)
    else if c = 62 ∧ 2 ≤ ct then some (1, 0, 0)
    else if st = 1 then (if wordL r [60] = true then some (8, 2, 0) else some (1, 1, 0))
    else (if wordL r [60, 47] = true then some (9, 1, 0) else some (1, 2, 0))
theorem stepF_adv {st ct : Nat} {r : List UInt8} {n st' ct' : Nat} (h : stepF st ct r = some (n, st', ct')) : 1 ≤ n ∧ n ≤ r.length := by
  have hb : ∀ low, begR r low = true → low.length ≤ r.length := fun low => begR_length low r
  have hw : ∀ o, wordL r o = true → o.length + 7 ≤ r.length := by
    intro o hw
    simp only [wordL, Bool.and_eq_true] at hw
    have h2 := hw.2
    have : r.drop (o.length + 6) ≠ [] := by intro e; rw [e] at h2; simp [stopAt] at h2
    have := List.length_pos_iff.2 this
    simp at this; omega
  cases r with
  | nil => simp [stepF] at h
  | cons c r =>
    simp only [stepF] at h
    have h4 := hb [60, 33, 45, 45]
    have h8 := hw [60]
    have h9 := hw [60, 47]
    simp only [List.length_cons, List.length_nil] at h4 h8 h9 ⊢
    repeat' split at h
    all_goals first
      | (cases h; done)
      | (simp only [Option.some.injEq, Prod.mk.injEq] at h; obtain ⟨rfl, _⟩ := h; simp_all; done)
      | (simp only [Option.some.injEq, Prod.mk.injEq] at h; obtain ⟨rfl, _⟩ := h; simp_all; omega)
def runF : Nat → Nat → Nat → List UInt8 → Nat × Nat
  | 0, st, _, _ => (0, st)
  | f + 1, st, ct, r => match stepF st ct r with
    | none => (0, st)
    | some (n, st', ct') => ((n + (runF f st' ct' (r.drop n)).1), (runF f st' ct' (r.drop n)).2)
theorem runF_more (f : Nat) : ∀ st ct r f', r.length ≤ f → r.length ≤ f' → runF f st ct r = runF f' st ct r := by
  induction f with
  | zero =>
    intro st ct r f' h h'
    obtain rfl : r = [] := List.eq_nil_of_length_eq_zero (by omega)
    cases f' <;> simp [runF, stepF]
  | succ f ih =>
    intro st ct r f' h h'
    cases f' with
    | zero =>
      obtain rfl : r = [] := List.eq_nil_of_length_eq_zero (by omega)
      simp [runF, stepF]
    | succ f' =>
      simp only [runF]
      cases hs : stepF st ct r with
      | none => rfl
      | some x =>
        obtain ⟨n, st', ct'⟩ := x
        have ha := stepF_adv hs
        simp only
        rw [ih st' ct' (r.drop n) f' (by simp; omega) (by simp; omega)]
/-- from a state on: how many bytes, and within what -/
def findL (st ct : Nat) (r : List UInt8) : Nat × Nat := runF r.length st ct r
theorem findL_none {st ct : Nat} {r : List UInt8} (h : stepF st ct r = none) : findL st ct r = (0, st) := by
  unfold findL
  cases hr : r.length with
  | zero => rfl
  | succ n => simp [runF, h]
theorem findL_some {st ct : Nat} {r : List UInt8} {n st' ct' : Nat} (h : stepF st ct r = some (n, st', ct')) : findL st ct r = (n + (findL st' ct' (r.drop n)).1, (findL st' ct' (r.drop n)).2) := by
  have ha := stepF_adv h
  have e1 : runF r.length st ct r = runF (r.length + 1) st ct r := runF_more _ _ _ _ _ (Nat.le_refl _) (by omega)
  unfold findL
  rw [e1]
  simp only [runF, h]
  rw [runF_more r.length st' ct' (r.drop n) (r.drop n).length (by simp) (Nat.le_refl _)]
end Go.Proofs.YtajfpegacbohdaaDoor.Pl
