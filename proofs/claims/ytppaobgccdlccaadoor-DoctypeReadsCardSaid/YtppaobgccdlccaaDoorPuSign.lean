/-
  The printed functions sign.Begins, raw.Ends, script.word, sign.Space, sign.Letter as plain functions of the text from a place on.
-/
import Derived.Test.YtppaobgccdlccaaDoorPb
import Derived.Test.YtppaobgccdlccaaDoorPlS
import Derived.Test.YtppaobgccdlccaaDoorHa1
import Derived.Test.YtppaobgccdlccaaDoorSa1
namespace Go.Proofs.YtppaobgccdlccaaDoor.Pure
open Go Go.RowKit Go.Proofs.YtppaobgccdlccaaDoor.Hand Go.Proofs.YtppaobgccdlccaaDoor.Sa Go.Proofs.YtppaobgccdlccaaDoorW.PrintWords Go.Proofs.YtppaobgccdlccaaDoor.Pl Go.Proofs.YtppaobgccdlccaaDoor.Pb
attribute [local simp] B_nil

theorem norm_f (l : List UInt8) (h : l.length ≤ 1000000000) : lines_Norm.f (B l) = some (B (normL l)) := by
  unfold lines_Norm.f; rw [if_pos (by simpa using h)]; simp [normB, B]
theorem clean_f (l : List UInt8) (h : l.length ≤ 1000000000) : lines_Clean.f (B l) = some (B (cleanL l)) := by
  unfold lines_Clean.f; rw [if_pos (by simpa using h)]; simp [cleanBA, B]
theorem lower_f (l : List UInt8) (h : l.length ≤ 1000000000) : sign_Lower.f (B l) = some (B (lowL l)) := by
  unfold sign_Lower.f; rw [if_pos (by simpa using h)]; simp [lowBA, B]

theorem u8c (c : UInt8) (n : Nat) (m : Int) (d : UInt8) (h : n < 256) (e : (n : Int) = m) (ed : UInt8.ofNat n = d) : (((c.toNat : Int)) = m) = (c = d) := by
  rw [← e, ← ed]; exact u8_eq c n h
theorem u32 (c : UInt8) : ((c.toNat : Int) = 32) = (c = 32) := u8c c 32 _ _ (by omega) rfl rfl
theorem u9 (c : UInt8) : ((c.toNat : Int) = 9) = (c = 9) := u8c c 9 _ _ (by omega) rfl rfl
theorem u10 (c : UInt8) : ((c.toNat : Int) = 10) = (c = 10) := u8c c 10 _ _ (by omega) rfl rfl
theorem u12 (c : UInt8) : ((c.toNat : Int) = 12) = (c = 12) := u8c c 12 _ _ (by omega) rfl rfl
theorem u13 (c : UInt8) : ((c.toNat : Int) = 13) = (c = 13) := u8c c 13 _ _ (by omega) rfl rfl
theorem u0 (c : UInt8) : ((c.toNat : Int) = 0) = (c = 0) := u8c c 0 _ _ (by omega) rfl rfl
theorem u33 (c : UInt8) : ((c.toNat : Int) = 33) = (c = 33) := u8c c 33 _ _ (by omega) rfl rfl
theorem u45 (c : UInt8) : ((c.toNat : Int) = 45) = (c = 45) := u8c c 45 _ _ (by omega) rfl rfl
theorem u47 (c : UInt8) : ((c.toNat : Int) = 47) = (c = 47) := u8c c 47 _ _ (by omega) rfl rfl
theorem u60 (c : UInt8) : ((c.toNat : Int) = 60) = (c = 60) := u8c c 60 _ _ (by omega) rfl rfl
theorem u62 (c : UInt8) : ((c.toNat : Int) = 62) = (c = 62) := u8c c 62 _ _ (by omega) rfl rfl
theorem u63 (c : UInt8) : ((c.toNat : Int) = 63) = (c = 63) := u8c c 63 _ _ (by omega) rfl rfl
theorem ub (c : UInt8) {m : Int} {d : UInt8} (h : ((c.toNat : Int) = m) = (c = d)) : (((c.toNat : Int)) == m) = (c == d) := by
  rw [Bool.eq_iff_iff, beq_iff_eq, beq_iff_eq, h]

theorem space_f (c : UInt8) : sign_Space.f (c.toNat : Int) = some (isSp c) := by
  unfold sign_Space.f isSp
  simp only [u32, u9, u10, ub c (u12 c)]
  by_cases h1 : c = 32
  · simp [h1]
  · by_cases h2 : c = 9
    · simp [h2]
    · by_cases h3 : c = 10
      · simp [h3]
      · simp [h1, h2, h3]

/-- a byte of the text from a place on -/
theorem bt_drop (s : List UInt8) (n : Nat) (c : UInt8) (r : List UInt8) (h : s.drop n = c :: r) : bt (B s) (n : Int) = (c.toNat : Int) := by
  have hlt : n < s.length := by
    rcases Nat.lt_or_ge n s.length with h' | h'
    · exact h'
    · rw [List.drop_eq_nil_of_le h'] at h; cases h
  rw [bt_B s n hlt]
  rw [List.drop_eq_getElem_cons hlt] at h
  rw [(List.cons.inj h).1]
theorem drop_lt {s : List UInt8} {n : Nat} {c : UInt8} {r : List UInt8} (h : s.drop n = c :: r) : n < s.length := by
  rcases Nat.lt_or_ge n s.length with h' | h'
  · exact h'
  · rw [List.drop_eq_nil_of_le h'] at h; cases h
theorem drop_nil {s : List UInt8} {n : Nat} (h : s.drop n = []) : s.length ≤ n := by
  rcases Nat.lt_or_ge n s.length with h' | h'
  · rw [List.drop_eq_getElem_cons h'] at h; cases h
  · exact h'

theorem begins_f (s low : List UInt8) (n : Nat) (hs : s.length ≤ 1000000) (hl : low.length ≤ 1000000) (hn : n ≤ s.length) :
    sign_Begins.f (B s) (n : Int) (B low) = some (begR (s.drop n) low) := by
  unfold sign_Begins.f
  have w1 : wrap64 (((B s).size : Int) - (n : Int)) = ((s.length - n : Nat) : Int) := by rw [size_B]; unfold wrap64; omega
  have w2 : wrap64 ((n : Int) + ((B low).size : Int)) = ((n + low.length : Nat) : Int) := by rw [size_B]; unfold wrap64; omega
  rw [if_neg (by omega), if_neg (by simp; omega), w1, w2]
  by_cases h : s.length - n < low.length
  · rw [if_pos (by simp; omega)]
    have : begR (s.drop n) low = false := by
      rw [Bool.eq_false_iff]; intro e
      have := begR_length low _ e
      simp at this; omega
    rw [this]
  · rw [if_neg (by simp; omega), if_pos (by omega), if_pos (by omega), if_pos (by simp; omega)]
    have hx : (B s).extract ((n : Int)).toNat (((n + low.length : Nat) : Int)).toNat = B ((s.drop n).take low.length) := by
      rw [B_extract]; congr 1
      simp only [Int.toNat_natCast, List.drop_take]
      congr 1; omega
    rw [hx, lower_f _ (by simp; omega), Option.bind_some, toList_B, toList_B, begR_eq]
theorem begins_past (s low : List UInt8) (n : Int) (h : n < 0 ∨ (s.length : Int) < n) : sign_Begins.f (B s) n (B low) = some false := by
  unfold sign_Begins.f
  rcases h with h | h
  · rw [if_pos h]
  · by_cases h0 : n < 0
    · rw [if_pos h0]
    · rw [if_neg h0, if_pos (by simpa using h)]

theorem stop_bt (c : UInt8) : ((sign_Space.f (c.toNat : Int)).bind fun t => if t = true then some true else if (c.toNat : Int) = 47 then some true else some (((c.toNat : Int)) == 62)) = some (stops c) := by
  simp only [space_f, Option.bind_some, u47, ub c (u62 c)]
  unfold stops
  cases isSp c
  · by_cases h : c = 47 <;> simp [h]
  · simp
theorem ends_f (k : Nat) (s name : List UInt8) (n : Nat) (hs : s.length ≤ 1000000) (hl : name.length ≤ 1000000) (hn : n ≤ s.length) :
    raw_Ends.f (k + 1) (B s) (n : Int) (B name) = some (endsL (s.drop n) name) := by
  unfold raw_Ends.f
  have j_true : raw_Ends.j0 (k + 1) (B s) (n : Int) (B name) true = some false := by rw [raw_Ends.j0, if_pos rfl]
  by_cases he : name = []
  · subst he
    rw [if_pos (by simp), j_true]; rfl
  · rw [if_neg (by simpa using he), show (⟨#[60, 47]⟩ : ByteArray) = B [60, 47] from rfl, begins_f s [60, 47] n hs (by simp) hn, Option.bind_some]
    have hne : name.isEmpty = false := by simpa using he
    unfold endsL
    rw [hne]
    cases h1 : begR (s.drop n) [60, 47] with
    | false => simp [j_true]
    | true =>
      have l1 := begR_length _ _ h1
      simp only [List.length_drop, List.length_cons, List.length_nil] at l1
      have w2 : wrap64 ((n : Int) + 2) = ((n + 2 : Nat) : Int) := by unfold wrap64; omega
      rw [if_pos rfl, w2, begins_f s name (n + 2) hs hl (by omega), Option.bind_some, List.drop_drop]
      cases h2 : begR (s.drop (n + 2)) name with
      | false => simp [j_true]
      | true =>
        have l2 := begR_length _ _ h2
        simp only [List.length_drop] at l2
        have w3 : wrap64 (wrap64 ((n : Int) + 2) + ((B name).size : Int)) = ((n + 2 + name.length : Nat) : Int) := by rw [w2, size_B]; unfold wrap64; omega
        rw [Bool.not_true, raw_Ends.j0, if_neg (by simp), w3, List.drop_drop]
        have hd : n + (2 + name.length) = n + 2 + name.length := by omega
        rw [hd]
        cases hr : s.drop (n + 2 + name.length) with
        | nil =>
          have := drop_nil hr
          rw [if_pos (by simp; omega)]; rfl
        | cons c r =>
          have hlt := drop_lt hr
          rw [if_neg (by simp; omega), if_pos (by omega), if_pos (by simp; omega), bt_drop s _ c r hr, stop_bt]
          rfl
theorem word_f (k : Nat) (s opens : List UInt8) (n : Nat) (hs : s.length ≤ 1000000) (hl : opens.length ≤ 1000) (hn : n ≤ s.length) :
    script_word.f (k + 1) (B s) (n : Int) (B opens) = some (if wordL (s.drop n) opens = true then ((opens.length + 7 : Nat) : Int) else 0) := by
  unfold script_word.f
  rw [if_pos (by simp; omega), show (⟨#[115, 99, 114, 105, 112, 116]⟩ : ByteArray) = B scriptL from rfl, B_append, begins_f s (opens ++ scriptL) n hs (by simp [scriptL]; omega) hn, Option.bind_some]
  have w1 : wrap64 (((B opens).size : Int) + 6) = ((opens.length + 6 : Nat) : Int) := by rw [size_B]; unfold wrap64; omega
  have w2 : wrap64 ((n : Int) + ((opens.length + 6 : Nat) : Int)) = ((n + (opens.length + 6) : Nat) : Int) := by unfold wrap64; omega
  have w3 : wrap64 (((opens.length + 6 : Nat) : Int) + 1) = ((opens.length + 7 : Nat) : Int) := by unfold wrap64; omega
  rw [w1, w2]
  have j_true : script_word.j0 (k + 1) (B s) (n : Int) ((opens.length + 6 : Nat) : Int) true = some 0 := by rw [script_word.j0, if_pos rfl]
  unfold wordL
  cases h1 : begR (s.drop n) (opens ++ scriptL) with
  | false => rw [if_neg (by simp), j_true, if_neg (by simp)]
  | true =>
    rw [if_pos rfl, List.drop_drop]
    cases hr : s.drop (n + (opens.length + 6)) with
    | nil =>
      have h2 := drop_nil hr
      have l1 := begR_length _ _ h1
      simp [scriptL] at l1
      rw [show (((n + (opens.length + 6) : Nat) : Int) == ((B s).size : Int)) = true by simp; omega, j_true]
      simp [stopAt]
    | cons c r =>
      have hlt := drop_lt hr
      rw [show (((n + (opens.length + 6) : Nat) : Int) == ((B s).size : Int)) = false by simp; omega, script_word.j0, if_neg (by simp), w2, if_pos (by omega), if_pos (by simp; omega), bt_drop s _ c r hr, space_f, Option.bind_some, w3]
      simp only [u47, u62]
      simp only [stopAt, stops, Bool.true_and]
      cases isSp c
      · by_cases h47 : c = 47
        · simp [h47]
        · by_cases h62 : c = 62 <;> simp [h47, h62]
      · simp
end Go.Proofs.YtppaobgccdlccaaDoor.Pure
