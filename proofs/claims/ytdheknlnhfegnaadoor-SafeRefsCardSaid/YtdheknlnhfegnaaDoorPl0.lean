/-
  Plain facts about lists of bytes, with no program in sight: lines' ends in one way (normL), the sign 0 taken away (cleanL), what the library's replaceAll of one byte is.
-/
import Derived.Lib.Replace
import Derived.Lib.CountLaws
import Derived.Lib.IndexLaws
namespace Go.Proofs.YtdheknlnhfegnaaDoor.Pl
open Go

/-- one end of a line: b: the byte ahead was 13 -/
def normF : Bool → List UInt8 → List UInt8
  | _, [] => []
  | b, c :: r => if b = true ∧ c = 10 then normF false r else if c = 13 then 10 :: normF true r else c :: normF false r
def normL (l : List UInt8) : List UInt8 := normF false l
theorem normL_nil : normL [] = [] := rfl
theorem normL_ne {c : UInt8} {r : List UInt8} (h : c ≠ 13) : normL (c :: r) = c :: normL r := by simp [normL, normF, h]
theorem normF_true_ne {d : UInt8} {r : List UInt8} (h : d ≠ 10) : normF true (d :: r) = normF false (d :: r) := by simp [normF, h]
theorem normL_13_10 {r : List UInt8} : normL (13 :: 10 :: r) = 10 :: normL r := by simp [normL, normF]
theorem normL_13_ne {d : UInt8} {r : List UInt8} (h : d ≠ 10) : normL (13 :: d :: r) = 10 :: normL (d :: r) := by simp [normL, normF, h]
theorem normL_13_end : normL [13] = [10] := rfl
theorem normF_length (l : List UInt8) : ∀ b, (normF b l).length ≤ l.length := by
  induction l with
  | nil => intro b; simp [normF]
  | cons c r ih =>
    intro b
    have h0 := ih false
    have h1 := ih true
    simp only [normF, List.length_cons]
    split
    · omega
    · split <;> simp only [List.length_cons] <;> omega
theorem normL_length (l : List UInt8) : (normL l).length ≤ l.length := normF_length l false

def cleanB (c : UInt8) : List UInt8 := if c = 0 then [239, 191, 189] else [c]
def cleanL (l : List UInt8) : List UInt8 := l.flatMap cleanB
theorem cleanL_length (l : List UInt8) : l.length ≤ (cleanL l).length ∧ (cleanL l).length ≤ 3 * l.length := by
  induction l with
  | nil => simp [cleanL]
  | cons c r ih =>
    have e : cleanL (c :: r) = cleanB c ++ cleanL r := rfl
    rw [e, List.length_append, List.length_cons]
    have h1 : 1 ≤ (cleanB c).length ∧ (cleanB c).length ≤ 3 := by unfold cleanB; split <;> simp
    omega

theorem cleanL_cons (c : UInt8) (r : List UInt8) : cleanL (c :: r) = cleanB c ++ cleanL r := rfl
theorem cleanL_append (l m : List UInt8) : cleanL (l ++ m) = cleanL l ++ cleanL m := by simp [cleanL]
theorem cleanB_no0 (c : UInt8) : (0 : UInt8) ∉ cleanB c := by
  unfold cleanB; split
  · decide
  · rename_i h; simp; exact fun e => h e.symm
theorem cleanL_no0 (l : List UInt8) : (0 : UInt8) ∉ cleanL l := by
  simp only [cleanL, List.mem_flatMap, not_exists, not_and]
  exact fun c _ => cleanB_no0 c
theorem cleanL_of_no0 : ∀ {l : List UInt8}, (0 : UInt8) ∉ l → cleanL l = l
  | [], _ => rfl
  | c :: r, h => by
    have h1 : c ≠ 0 := fun e => h (by simp [e])
    rw [cleanL_cons, cleanL_of_no0 (fun e => h (by simp [e]))]; simp [cleanB, h1]
theorem normF_no13 (l : List UInt8) : ∀ b, (13 : UInt8) ∉ normF b l := by
  induction l with
  | nil => intro b; simp [normF]
  | cons c r ih =>
    intro b
    simp only [normF]
    split
    · exact ih _
    · split
      · simp [ih]
      · rename_i h; simp only [List.mem_cons, not_or]; exact ⟨fun e => h e.symm, ih _⟩
theorem normL_no13 (l : List UInt8) : (13 : UInt8) ∉ normL l := normF_no13 l false
theorem normL_of_no13 : ∀ {l : List UInt8}, (13 : UInt8) ∉ l → normL l = l
  | [], _ => rfl
  | c :: r, h => by
    have h1 : c ≠ 13 := fun e => h (by simp [e])
    rw [normL_ne h1, normL_of_no13 (fun e => h (by simp [e]))]
/-- the flag behind a text -/
def flag13 (b : Bool) (l : List UInt8) : Bool := match l.getLast? with | some c => c == 13 | none => b
theorem flag13_cons (b : Bool) (c : UInt8) (r : List UInt8) : flag13 b (c :: r) = flag13 (c == 13) r := by
  cases r with
  | nil => rfl
  | cons d r => simp [flag13, List.getLast?_eq_some_getLast]
theorem normF_append (l m : List UInt8) : ∀ b, normF b (l ++ m) = normF b l ++ normF (flag13 b l) m := by
  induction l with
  | nil => intro b; rfl
  | cons c r ih =>
    intro b
    rw [flag13_cons, List.cons_append]
    simp only [normF]
    split
    · rename_i h
      rw [ih, h.2]; rfl
    · split
      · rename_i h; subst h; rw [ih]; rfl
      · rename_i h
        rw [ih, show (c == 13) = false by simpa using h]; rfl
theorem normF_true_eq {m : List UInt8} (h : ∀ r, m ≠ 10 :: r) : normF true m = normF false m := by
  cases m with
  | nil => rfl
  | cons d r => exact normF_true_ne fun e => h r (by rw [e])
theorem normF_clean (l : List UInt8) : ∀ b, normF b (cleanL l) = cleanL (normF b l) := by
  induction l with
  | nil => intro b; rfl
  | cons c r ih =>
    intro b
    rw [cleanL_cons]
    by_cases h0 : c = 0
    · subst h0
      have e : normF b (cleanB 0 ++ cleanL r) = cleanB 0 ++ normF false (cleanL r) := by simp [cleanB, normF]
      rw [e, ih]
      simp [normF, cleanL_cons]
    · have e : cleanB c = [c] := by simp [cleanB, h0]
      rw [e, List.singleton_append]
      simp only [normF]
      split
      · exact ih _
      · split
        · rw [ih, cleanL_cons]; rfl
        · rw [ih, cleanL_cons, e, List.singleton_append]

/-- a letter made small -/
def lowB (c : UInt8) : UInt8 := if 65 ≤ c ∧ c ≤ 90 then c + 32 else c
def lowL (l : List UInt8) : List UInt8 := l.map lowB
theorem index_cons (d c : UInt8) (r : List UInt8) : Lib.index (d :: r) [c] = if d = c then 0 else if Lib.index r [c] = -1 then -1 else Lib.index r [c] + 1 := by
  conv => lhs; unfold Lib.index
  by_cases h : d = c
  · subst h; simp [List.isPrefixOf]
  · have h' : ([c].isPrefixOf (d :: r)) = false := by simp [List.isPrefixOf]; exact fun e => h e.symm
    rw [h', if_neg h]
    simp
theorem count_cons (d c : UInt8) (r : List UInt8) : Lib.count (d :: r) [c] = (if d = c then 1 else 0) + Lib.count r [c] := by
  have hne : ([c] : List UInt8) ≠ [] := by simp
  by_cases h : d = c
  · subst h
    rw [Lib.count_hit (i := 0) hne (by rw [index_cons]; simp)]; simp
  · have hi := index_cons d c r
    rw [if_neg h] at hi
    by_cases hm : Lib.index r [c] = -1
    · rw [if_pos hm] at hi
      rw [Lib.count_miss hi, Lib.count_miss hm]; simp [h]
    · rw [if_neg hm] at hi
      obtain ⟨i, hi2⟩ : ∃ i : Nat, Lib.index r [c] = i := ⟨(Lib.index r [c]).toNat, by have := Lib.index_ge r [c]; omega⟩
      rw [Lib.count_hit (i := i + 1) hne (by rw [hi, hi2]; push_cast; rfl), Lib.count_hit (i := i) hne hi2]
      simp [h]
theorem replaceK_cons_eq (c : UInt8) (new : List UInt8) (k : Nat) (r : List UInt8) : Lib.replaceK [c] new (k + 1) (c :: r) = new ++ Lib.replaceK [c] new k r := by
  rw [Lib.replaceK_hit [c] new k (c :: r) 0 (by rw [index_cons]; simp)]; simp
theorem replaceK_cons_ne {d c : UInt8} (h : d ≠ c) (new : List UInt8) (k : Nat) (r : List UInt8) : Lib.replaceK [c] new k (d :: r) = d :: Lib.replaceK [c] new k r := by
  cases k with
  | zero => rfl
  | succ k =>
    have hi := index_cons d c r
    rw [if_neg h] at hi
    by_cases hm : Lib.index r [c] = -1
    · rw [if_pos hm] at hi
      simp [Lib.replaceK, hi, hm]
    · rw [if_neg hm] at hi
      obtain ⟨i, hi2⟩ : ∃ i : Nat, Lib.index r [c] = i := ⟨(Lib.index r [c]).toNat, by have := Lib.index_ge r [c]; omega⟩
      rw [Lib.replaceK_hit _ _ _ _ (i + 1) (by rw [hi, hi2]; push_cast; rfl), Lib.replaceK_hit _ _ _ _ i hi2]
      simp
theorem replaceK_one (c : UInt8) (new : List UInt8) : ∀ (s : List UInt8) (k : Nat), Lib.count s [c] ≤ k → Lib.replaceK [c] new k s = s.flatMap fun d => if d = c then new else [d] := by
  intro s
  induction s with
  | nil => intro k _; cases k <;> simp [Lib.replaceK, Lib.index]
  | cons d r ih =>
    intro k hk
    rw [count_cons] at hk
    by_cases h : d = c
    · subst h
      simp only [if_true] at hk
      obtain ⟨j, rfl⟩ : ∃ j, k = j + 1 := ⟨k - 1, by omega⟩
      rw [replaceK_cons_eq, ih j (by omega)]; simp
    · rw [if_neg h] at hk
      rw [replaceK_cons_ne h, ih k (by omega)]; simp [h]
theorem replaceAll_one (c : UInt8) (new s : List UInt8) : Lib.replaceAll s [c] new = s.flatMap fun d => if d = c then new else [d] := by
  unfold Lib.replaceAll Lib.replace
  split
  · rename_i h
    have h := beq_iff_eq.1 h
    subst h
    induction s with
    | nil => rfl
    | cons d r ih =>
      rw [List.flatMap_cons, ← ih]
      by_cases h : d = c
      · subst h; simp
      · simp [h]
  · exact replaceK_one c new s _ (by simp [Lib.replaceNum])
theorem replaceAll_clean (s : List UInt8) : Lib.replaceAll s [0] [239, 191, 189] = cleanL s := by rw [replaceAll_one]; rfl
theorem count_le_length (c : UInt8) (s : List UInt8) : Lib.count s [c] ≤ s.length := by
  induction s with
  | nil => simp [Lib.count, Lib.countFrom, Lib.index]
  | cons d r ih => rw [count_cons, List.length_cons]; split <;> omega
end Go.Proofs.YtdheknlnhfegnaaDoor.Pl
