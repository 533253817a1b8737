/-
  Plain: in whatever letters a doctype's words are written.
-/
import Derived.Test.YtajfpegacbohdaaDoorHaDo3
namespace Go.Proofs.YtajfpegacbohdaaDoor.Pure
open Go Go.RowKit Go.Proofs.YtajfpegacbohdaaDoor.Hand Go.Proofs.YtajfpegacbohdaaDoor.Pl Go.Proofs.YtajfpegacbohdaaDoor.Pb

theorem isSp_low (c : UInt8) : isSp (lowB c) = isSp c := by
  have : ∀ n : Fin 256, isSp (lowB (UInt8.ofNat n.val)) = isSp (UInt8.ofNat n.val) := by decide +kernel
  have h := this ⟨c.toNat, c.toNat_lt⟩
  simpa using h
theorem lowB_q (c : UInt8) : (lowB c = 34 ↔ c = 34) ∧ (lowB c = 39 ↔ c = 39) ∧ (lowB c = 0 ↔ c = 0) := by
  have : ∀ n : Fin 256, (lowB (UInt8.ofNat n.val) = 34 ↔ UInt8.ofNat n.val = 34) ∧ (lowB (UInt8.ofNat n.val) = 39 ↔ UInt8.ofNat n.val = 39) ∧ (lowB (UInt8.ofNat n.val) = 0 ↔ UInt8.ofNat n.val = 0) := by decide +kernel
  have h := this ⟨c.toNat, c.toNat_lt⟩
  simpa using h
theorem low_trim : ∀ s : List UInt8, trimL (lowL s) = lowL (trimL s) := by
  intro s
  induction s with
  | nil => rfl
  | cons c r ih =>
    unfold trimL lowL at *
    rw [List.map_cons, List.dropWhile_cons, List.dropWhile_cons, isSp_low]
    split
    · exact ih
    · rfl
theorem low_word : ∀ s : List UInt8, wordLen (lowL s) = wordLen s := by
  intro s
  induction s with
  | nil => rfl
  | cons c r ih =>
    unfold wordLen lowL at *
    rw [List.map_cons, List.takeWhile_cons, List.takeWhile_cons, isSp_low]
    split
    · simp [ih]
    · rfl
theorem low_drop (s : List UInt8) (n : Nat) : (lowL s).drop n = lowL (s.drop n) := by simp [lowL]
theorem low_take (s : List UInt8) (n : Nat) : (lowL s).take n = lowL (s.take n) := by simp [lowL]
theorem low_low (s : List UInt8) : lowL (lowL s) = lowL s := by
  unfold lowL; rw [List.map_map]; congr 1; funext c; exact lowB_idem c
theorem low_nil (s : List UInt8) : lowL s = [] ↔ s = [] := by unfold lowL; simp
theorem low_clean : ∀ s : List UInt8, cleanL (lowL s) = lowL (cleanL s) := by
  intro s
  induction s with
  | nil => rfl
  | cons c r ih =>
    show cleanL (lowB c :: lowL r) = lowL (cleanL (c :: r))
    rw [cleanL_cons, cleanL_cons, ih]
    have : cleanB (lowB c) = lowL (cleanB c) := by
      unfold cleanB
      by_cases h : c = 0
      · rw [if_pos h, if_pos ((lowB_q c).2.2.2 h)]; decide
      · rw [if_neg h, if_neg (fun e => h ((lowB_q c).2.2.1 e))]; rfl
    rw [this]
    simp [lowL]
theorem low_upto {q : UInt8} (hq : q = 34 ∨ q = 39) : ∀ s : List UInt8, upto q (lowL s) = lowL (upto q s) := by
  have hc : ∀ c : UInt8, lowB c = q ↔ c = q := by
    intro c
    rcases hq with rfl | rfl
    · exact (lowB_q c).1
    · exact (lowB_q c).2.1
  intro s
  induction s with
  | nil => rfl
  | cons c r ih =>
    show upto q (lowB c :: lowL r) = _
    rw [upto_cons, upto_cons]
    by_cases h : c = q
    · rw [if_pos h, if_pos ((hc c).2 h)]; rfl
    · rw [if_neg h, if_neg (fun e => h ((hc c).1 e)), ih]; rfl
theorem low_mem {q : UInt8} (hq : q = 34 ∨ q = 39) (s : List UInt8) : q ∈ lowL s ↔ q ∈ s := by
  have hc : ∀ c : UInt8, lowB c = q ↔ c = q := by
    intro c
    rcases hq with rfl | rfl
    · exact (lowB_q c).1
    · exact (lowB_q c).2.1
  unfold lowL
  simp only [List.mem_map]
  constructor
  · rintro ⟨c, h, e⟩; rw [hc] at e; exact e ▸ h
  · intro h; exact ⟨q, h, (hc q).2 rfl⟩
theorem low_quoted (s : List UInt8) : quotedL (lowL s) = (lowL (quotedL s).1, lowL (quotedL s).2.1, (quotedL s).2.2.1, (quotedL s).2.2.2) := by
  cases s with
  | nil => rfl
  | cons q r =>
    show quotedL (lowB q :: lowL r) = _
    by_cases hq : q = 34 ∨ q = 39
    · have hl : lowB q = q := by
        rcases hq with rfl | rfl
        · exact (lowB_q 34).1.2 rfl
        · exact (lowB_q 39).2.1.2 rfl
      rw [hl]
      simp only [quotedL, if_pos hq]
      unfold past
      rw [low_upto hq, low_clean, low_drop]
      simp only [low_mem hq]
      simp [lowL]
    · have hl : ¬ (lowB q = 34 ∨ lowB q = 39) := by
        rw [(lowB_q q).1, (lowB_q q).2.1]; exact hq
      simp only [quotedL, if_neg hq, if_neg hl]
      rfl
/-- the same, but that its two texts are in small letters -/
def lowR (r : DocR) : DocR := (r.1, lowL r.2.1, lowL r.2.2.1, r.2.2.2.1, r.2.2.2.2.1, r.2.2.2.2.2.1, r.2.2.2.2.2.2)
theorem low_sys (n p : List UInt8) (hn hp : Bool) (s : List UInt8) (en : Bool) : sysD n (lowL p) hn hp (lowL s) en = lowR (sysD n p hn hp s en) := by
  unfold sysD
  rw [low_quoted]
  simp only [low_trim, low_nil]
  repeat' split
  all_goals rfl
theorem low_pub (n s : List UInt8) (en : Bool) : pubD n (lowL s) en = lowR (pubD n s en) := by
  unfold pubD
  rw [low_drop, low_trim, low_quoted]
  simp only [low_trim, low_nil, low_sys]
  repeat' split
  all_goals rfl
theorem low_name (s : List UInt8) : nameD (lowL s) = nameD s := by
  unfold nameD
  rw [low_word, low_take, low_low]
theorem low_parse (raw : List UInt8) (en : Bool) : parseD (lowL raw) en = lowR (parseD raw en) := by
  unfold parseD
  simp only [low_trim, low_word, low_drop, low_nil, low_name, begR_low, low_pub]
  have h := fun s => low_sys (nameD (trimL raw)) [] true false s en
  have e0 : lowL [] = [] := rfl
  rw [e0] at h
  simp only [h]
  repeat' split
  all_goals rfl
end Go.Proofs.YtajfpegacbohdaaDoor.Pure
