/-
  Plain: where a tag's end stands first; of a program without a comment; of a program at all.
-/
import Derived.Lib.Index
import Derived.Test.YtppaobgccdlccaaDoorPb
import Derived.Test.YtppaobgccdlccaaDoorPlF
namespace Go.Proofs.YtppaobgccdlccaaDoor.Pl
open Go Go.Proofs.YtppaobgccdlccaaDoor.Pb

/-- the places where an end may begin -/
def plc (n : Nat) : List UInt8 → List Nat
  | [] => []
  | c :: r => if [60, 47].isPrefixOf (c :: r) = true then n :: plc (n + 1) r else plc (n + 1) r
theorem plc_none : ∀ (r : List UInt8) (n : Nat), Lib.index r [60, 47] < 0 → plc n r = [] := by
  intro r
  induction r with
  | nil => intro n _; rfl
  | cons c r ih =>
    intro n h
    have g := Lib.index_ge r [60, 47]
    simp only [Lib.index] at h
    split at h
    · omega
    · rename_i hp
      have : Lib.index r [60, 47] = -1 := by
        split at h
        · rename_i hh; simpa using hh
        · omega
      rw [plc, if_neg hp, ih (n + 1) (by omega)]
theorem plc_some : ∀ (r : List UInt8) (n k : Nat), Lib.index r [60, 47] = (k : Int) → plc n r = (n + k) :: plc (n + k + 1) (r.drop (k + 1)) := by
  intro r
  induction r with
  | nil => intro n k h; simp [Lib.index] at h; try omega
  | cons c r ih =>
    intro n k h
    have g := Lib.index_ge r [60, 47]
    simp only [Lib.index] at h
    split at h
    · rename_i hp
      obtain rfl : k = 0 := by omega
      rw [plc, if_pos hp]; simp
    · rename_i hp
      split at h
      · omega
      · rename_i hh
        have hne : Lib.index r [60, 47] ≠ -1 := by simpa using hh
        obtain ⟨j, rfl⟩ : ∃ j, k = j + 1 := ⟨k - 1, by omega⟩
        rw [plc, if_neg hp, ih (n + 1) j (by omega)]
        simp only [List.drop_succ_cons]
        rw [show n + 1 + j = n + (j + 1) by omega]

theorem index_lt : ∀ (r : List UInt8) (k : Nat), Lib.index r [60, 47] = (k : Int) → k + 1 ≤ r.length := by
  intro r
  induction r with
  | nil => intro k h; simp [Lib.index] at h; try omega
  | cons c r ih =>
    intro k h
    simp only [Lib.index] at h
    split at h
    · simp; omega
    · split at h
      · omega
      · rename_i hh
        have hne : Lib.index r [60, 47] ≠ -1 := by simpa using hh
        have g := Lib.index_ge r [60, 47]
        obtain ⟨j, rfl⟩ : ∃ j, k = j + 1 := ⟨k - 1, by omega⟩
        have := ih j (by omega)
        simp; omega
theorem plc_length : ∀ (r : List UInt8) (n : Nat), (plc n r).length ≤ r.length := by
  intro r
  induction r with
  | nil => intro n; simp [plc]
  | cons c r ih =>
    intro n
    have := ih (n + 1)
    rw [plc]; split
    · simp; omega
    · simp; omega
theorem xdrop (s : ByteArray) (k : Nat) : (s.extract k s.size).data.toList = s.data.toList.drop k := by
  obtain ⟨l, rfl⟩ := exists_B s
  rw [B_extract, B_data, B_data, size_B, List.take_length]
/-- where a tag's end stands first -/
def rawFind (s : List UInt8) (n : Nat) (name : List UInt8) : Nat := ((plc n (s.drop n)).find? fun p => endsL (s.drop p) name).getD s.length
theorem rawFind_none {s : List UInt8} {n : Nat} {name : List UInt8} (h : ∀ p ∈ plc n (s.drop n), endsL (s.drop p) name = false) : rawFind s n name = s.length := by
  unfold rawFind
  rw [List.find?_eq_none.2 (fun p hp => by simp [h p hp])]; rfl
theorem rawFind_some {s : List UInt8} {n : Nat} {name : List UInt8} {pre : List Nat} {x : Nat} (hp : (pre ++ [x]) <+: plc n (s.drop n)) (h : ∀ p ∈ pre, endsL (s.drop p) name = false) (hx : endsL (s.drop x) name = true) : rawFind s n name = x := by
  obtain ⟨t, ht⟩ := hp
  unfold rawFind
  rw [← ht, List.append_assoc, List.find?_append, List.find?_eq_none.2 (fun p hq => by simp [h p hq])]
  simp [hx]

def firstE (name : List UInt8) : List UInt8 → Nat
  | [] => 0
  | c :: r => if endsL (c :: r) name = true then 0 else 1 + firstE name r
theorem lowB_47' (c : UInt8) (h : lowB c = 47) : c = 47 := by
  have : ∀ n : Fin 256, lowB (UInt8.ofNat n.val) = 47 → UInt8.ofNat n.val = 47 := by decide +kernel
  have h' := this ⟨c.toNat, c.toNat_lt⟩
  simpa using h' (by simpa using h)
theorem lowB_60' (c : UInt8) (h : lowB c = 60) : c = 60 := by
  have : ∀ n : Fin 256, lowB (UInt8.ofNat n.val) = 60 → UInt8.ofNat n.val = 60 := by decide +kernel
  have h' := this ⟨c.toNat, c.toNat_lt⟩
  simpa using h' (by simpa using h)
theorem ends_pref {r name : List UInt8} (h : endsL r name = true) : [60, 47].isPrefixOf r = true := by
  simp only [endsL, Bool.and_eq_true] at h
  have h1 := h.1.1.2
  match r, h1 with
  | [], h1 => simp [begR] at h1
  | [c], h1 => simp [begR] at h1
  | c :: d :: r, h1 =>
    simp only [begR, Bool.and_eq_true, beq_iff_eq] at h1
    rw [lowB_60' c h1.1, lowB_47' d h1.2.1]; simp [List.isPrefixOf]
theorem rawFind_aux (s name : List UInt8) : ∀ (r : List UInt8) (n : Nat), s.drop n = r → n ≤ s.length → ((plc n r).find? fun p => endsL (s.drop p) name).getD s.length = n + firstE name r := by
  intro r
  induction r with
  | nil =>
    intro n h hn
    have := List.drop_eq_nil_iff.1 h
    simp [plc, firstE]; omega
  | cons c r ih =>
    intro n h hn
    have hlt : n < s.length := by
      rcases Nat.lt_or_ge n s.length with h' | h'
      · exact h'
      · rw [List.drop_eq_nil_of_le h'] at h; cases h
    have hr : s.drop (n + 1) = r := by rw [← List.drop_drop, h]; rfl
    have := ih (n + 1) hr (by omega)
    by_cases he : endsL (c :: r) name = true
    · rw [plc, if_pos (ends_pref he), List.find?_cons, h, he, firstE, if_pos he]; rfl
    · rw [firstE, if_neg he, plc]
      split
      · rw [List.find?_cons, h, Bool.eq_false_iff.2 he]
        simp only
        rw [this]; omega
      · rw [this]; omega
theorem rawFind_first (s name : List UInt8) (n : Nat) (hn : n ≤ s.length) : rawFind s n name = n + firstE name (s.drop n) := rawFind_aux s name _ n rfl hn
theorem firstE_le (name : List UInt8) : ∀ r, firstE name r ≤ r.length := by
  intro r
  induction r with
  | nil => simp [firstE]
  | cons c r ih => rw [firstE]; split <;> simp <;> omega
theorem firstE_drop (name : List UInt8) : ∀ (a : Nat) (r : List UInt8), a ≤ r.length → firstE name r ≤ a + firstE name (r.drop a) := by
  intro a
  induction a with
  | zero => intro r _; simp
  | succ a ih =>
    intro r h
    cases r with
    | nil => simp at h
    | cons c r =>
      have := ih r (by simpa using h)
      rw [firstE, List.drop_succ_cons]
      split <;> omega
def noC (r : List UInt8) : Prop := ∀ j, [60, 33, 45, 45].isPrefixOf (r.drop j) = false
theorem begC_pref {r : List UInt8} (h : begR r [60, 33, 45, 45] = true) : [60, 33, 45, 45].isPrefixOf r = true := by
  have e : ∀ m : Fin 65, ∀ c : UInt8, lowB c = UInt8.ofNat m.val → c = UInt8.ofNat m.val := by
    intro m c h
    have : ∀ m : Fin 65, ∀ n : Fin 256, lowB (UInt8.ofNat n.val) = UInt8.ofNat m.val → UInt8.ofNat n.val = UInt8.ofNat m.val := by decide +kernel
    have h' := this m ⟨c.toNat, c.toNat_lt⟩
    simpa using h' (by simpa using h)
  match r, h with
  | [], h => simp [begR] at h
  | [a], h => simp [begR] at h
  | [a, b], h => simp [begR] at h
  | [a, b, c], h => simp [begR] at h
  | a :: b :: c :: d :: r, h =>
    simp only [begR, Bool.and_eq_true, beq_iff_eq] at h
    rw [show a = 60 from e 60 a h.1, show b = 33 from e 33 b h.2.1, show c = 45 from e 45 c h.2.2.1, show d = 45 from e 45 d h.2.2.2.1]; simp [List.isPrefixOf]
theorem findL_noC : ∀ (r : List UInt8) (ct : Nat), noC r → findL 0 ct r = (firstE scriptL r, 0) := by
  intro r
  induction r with
  | nil => intro ct _; rw [findL_none (by simp [stepF])]; rfl
  | cons c r ih =>
    intro ct h
    have hn : begR (c :: r) [60, 33, 45, 45] = false := by
      rw [Bool.eq_false_iff]; intro e
      have := begC_pref e
      have h0 := h 0
      rw [List.drop_zero] at h0
      rw [h0] at this; cases this
    by_cases he : endsL (c :: r) scriptL = true
    · rw [findL_none (by simp [stepF, he]), firstE, if_pos he]
    · have hs : stepF 0 ct (c :: r) = some (1, 0, ct) := by simp [stepF, he, hn]
      rw [findL_some hs, firstE, if_neg he]
      have := ih ct (fun j => by have := h (j + 1); simpa using this)
      simp [this]
theorem stepF_st {st ct : Nat} {r : List UInt8} {n st' ct' : Nat} (h : stepF st ct r = some (n, st', ct')) (hs : st ≤ 2) : st' ≤ 2 := by
  cases r with
  | nil => simp [stepF] at h
  | cons c r =>
    simp only [stepF] at h
    repeat' split at h
    all_goals first | (simp only [Option.some.injEq, Prod.mk.injEq] at h; omega) | cases h
theorem findL_law : ∀ (f : Nat) (r : List UInt8) (st ct : Nat), r.length ≤ f → st ≤ 2 → firstE scriptL r ≤ (findL st ct r).1 ∧ (findL st ct r).1 ≤ r.length ∧ (findL st ct r).2 ≤ 2 ∧
    ((findL st ct r).1 < r.length → (findL st ct r).2 ≠ 2 ∧ endsL (r.drop (findL st ct r).1) scriptL = true) := by
  intro f
  induction f with
  | zero =>
    intro r st ct h hs
    obtain rfl : r = [] := List.length_eq_zero_iff.1 (by omega)
    rw [findL_none (by simp [stepF])]
    simp [firstE, hs]
  | succ f ih =>
    intro r st ct h hs
    cases hst : stepF st ct r with
    | none =>
      rw [findL_none hst]
      rcases stepF_none hst with rfl | ⟨h2, he⟩
      · simp [firstE, hs]
      · cases r with
        | nil => simp [firstE, hs]
        | cons c r => simp [firstE, he, hs, h2]
    | some x =>
      obtain ⟨n, st', ct'⟩ := x
      have ha := stepF_adv hst
      have hd := firstE_drop scriptL n r ha.2
      obtain ⟨g1, g2, g3, g4⟩ := ih (r.drop n) st' ct' (by simp; omega) (stepF_st hst hs)
      rw [findL_some hst]
      simp only [List.length_drop, List.drop_drop] at g2 g4
      refine ⟨by simp only; omega, by simp only; omega, g3, fun hl => ?_⟩
      simp only at hl
      exact g4 (by omega)
end Go.Proofs.YtppaobgccdlccaaDoor.Pl
