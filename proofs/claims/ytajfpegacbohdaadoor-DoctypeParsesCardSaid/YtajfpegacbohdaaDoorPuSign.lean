/-
  The printed functions sign.Begins, raw.Ends, script.word, sign.Space, sign.Letter as plain functions of the text from a place on.
-/
import Derived.Test.YtajfpegacbohdaaDoorPb
import Derived.Test.YtajfpegacbohdaaDoorPlS
import Derived.Test.YtajfpegacbohdaaDoorHa1
import Derived.Test.YtajfpegacbohdaaDoorSa
namespace Go.Proofs.YtajfpegacbohdaaDoor.Pure
open Go Go.RowKit Go.Proofs.YtajfpegacbohdaaDoor.Hand Go.Proofs.YtajfpegacbohdaaDoor.Sa Go.Proofs.YtajfpegacbohdaaDoorW.PrintWords Go.Proofs.YtajfpegacbohdaaDoor.Pl Go.Proofs.YtajfpegacbohdaaDoor.Pb
attribute [local simp] B_nil

theorem norm_f (l : List UInt8) (h : l.length ≤ 1000000000) : lines_Norm.f (B l) = some (B (normL l)) := by
  unfold lines_Norm.f; rw [if_pos (by simpa using h)]; simp [normB, B]
theorem clean_f (l : List UInt8) (h : l.length ≤ 1000000000) : lines_Clean.f (B l) = some (B (cleanL l)) := by
  unfold lines_Clean.f; rw [if_pos (by simpa using h)]; simp [cleanBA, B]
theorem lower_f (l : List UInt8) (h : l.length ≤ 1000000000) : sign_Lower.f (B l) = some (B (lowL l)) := by
  unfold sign_Lower.f; rw [if_pos (by simpa using h)]; simp [lowBA, B]

theorem u8c (c : UInt8) (n : Nat) (m : Int) (d : UInt8) (h : n < 256) (e : (n : Int) = m) (ed : UInt8.ofNat n = d) : (((c.toNat : Int)) = m) = (c = d) := by
  rw [← e, ← ed]; exact u8_eq c n h
theorem u32 (c : UInt8) : ((c.toNat : Int) = 32) = (c = 32) := u8c c 32 _ _ (by omega) rfl rfl
theorem u9 (c : UInt8) : ((c.toNat : Int) = 9) = (c = 9) := u8c c 9 _ _ (by omega) rfl rfl
theorem u10 (c : UInt8) : ((c.toNat : Int) = 10) = (c = 10) := u8c c 10 _ _ (by omega) rfl rfl
theorem u12 (c : UInt8) : ((c.toNat : Int) = 12) = (c = 12) := u8c c 12 _ _ (by omega) rfl rfl
theorem u13 (c : UInt8) : ((c.toNat : Int) = 13) = (c = 13) := u8c c 13 _ _ (by omega) rfl rfl
theorem u0 (c : UInt8) : ((c.toNat : Int) = 0) = (c = 0) := u8c c 0 _ _ (by omega) rfl rfl
theorem u33 (c : UInt8) : ((c.toNat : Int) = 33) = (c = 33) := u8c c 33 _ _ (by omega) rfl rfl
theorem u45 (c : UInt8) : ((c.toNat : Int) = 45) = (c = 45) := u8c c 45 _ _ (by omega) rfl rfl
theorem u47 (c : UInt8) : ((c.toNat : Int) = 47) = (c = 47) := u8c c 47 _ _ (by omega) rfl rfl
theorem u60 (c : UInt8) : ((c.toNat : Int) = 60) = (c = 60) := u8c c 60 _ _ (by omega) rfl rfl
theorem u62 (c : UInt8) : ((c.toNat : Int) = 62) = (c = 62) := u8c c 62 _ _ (by omega) rfl rfl
theorem u63 (c : UInt8) : ((c.toNat : Int) = 63) = (c = 63) := u8c c 63 _ _ (by omega) rfl rfl
theorem ub (c : UInt8) {m : Int} {d : UInt8} (h : ((c.toNat : Int) = m) = (c = d)) : (((c.toNat : Int)) == m) = (c == d) := by
  rw [Bool.eq_iff_iff, beq_iff_eq, beq_iff_eq, h]

/-- a byte of the text from a place on -/
theorem bt_drop (s : List UInt8) (n : Nat) (c : UInt8) (r : List UInt8) (h : s.drop n = c :: r) : bt (B s) (n : Int) = (c.toNat : Int) := by
  have hlt : n < s.length := by
    rcases Nat.lt_or_ge n s.length with h' | h'
    · exact h'
    · rw [List.drop_eq_nil_of_le h'] at h; cases h
  rw [bt_B s n hlt]
  rw [List.drop_eq_getElem_cons hlt] at h
  rw [(List.cons.inj h).1]
theorem drop_lt {s : List UInt8} {n : Nat} {c : UInt8} {r : List UInt8} (h : s.drop n = c :: r) : n < s.length := by
  rcases Nat.lt_or_ge n s.length with h' | h'
  · exact h'
  · rw [List.drop_eq_nil_of_le h'] at h; cases h
theorem drop_nil {s : List UInt8} {n : Nat} (h : s.drop n = []) : s.length ≤ n := by
  rcases Nat.lt_or_ge n s.length with h' | h'
  · rw [List.drop_eq_getElem_cons h'] at h; cases h
  · exact h'

theorem begins_f (s low : List UInt8) (n : Nat) (hs : s.length ≤ 1000000) (hl : low.length ≤ 1000000) (hn : n ≤ s.length) :
    sign_Begins.f (B s) (n : Int) (B low) = some (begR (s.drop n) low) := by
  unfold sign_Begins.f
  have w1 : wrap64 (((B s).size : Int) - (n : Int)) = ((s.length - n : Nat) : Int) := by rw [size_B]; unfold wrap64; omega
  have w2 : wrap64 ((n : Int) + ((B low).size : Int)) = ((n + low.length : Nat) : Int) := by rw [size_B]; unfold wrap64; omega
  rw [if_neg (by omega), if_neg (by simp; omega), w1, w2]
  by_cases h : s.length - n < low.length
  · rw [if_pos (by simp; omega)]
    have : begR (s.drop n) low = false := by
      rw [Bool.eq_false_iff]; intro e
      have := begR_length low _ e
      simp at this; omega
    rw [this]
  · rw [if_neg (by simp; omega), if_pos (by omega), if_pos (by omega), if_pos (by simp; omega)]
    have hx : (B s).extract ((n : Int)).toNat (((n + low.length : Nat) : Int)).toNat = B ((s.drop n).take low.length) := by
      rw [B_extract]; congr 1
      simp only [Int.toNat_natCast, List.drop_take]
      congr 1; omega
    rw [hx, lower_f _ (by simp; omega), Option.bind_some, toList_B, toList_B, begR_eq]
theorem begins_past (s low : List UInt8) (n : Int) (h : n < 0 ∨ (s.length : Int) < n) : sign_Begins.f (B s) n (B low) = some false := by
  unfold sign_Begins.f
  rcases h with h | h
  · rw [if_pos h]
  · by_cases h0 : n < 0
    · rw [if_pos h0]
    · rw [if_neg h0, if_pos (by simpa using h)]

end Go.Proofs.YtajfpegacbohdaaDoor.Pure
