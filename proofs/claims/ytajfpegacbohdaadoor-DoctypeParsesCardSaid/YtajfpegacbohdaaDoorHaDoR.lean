/-
  Walk of a law: flaillaw11.DoctypeRest.
-/
import Derived.Test.YtajfpegacbohdaaDoorHaDo4
namespace Go.Proofs.YtajfpegacbohdaaDoor.Hand
open Go.RowKit Go.Proofs.YtajfpegacbohdaaDoor.K0 Go.Proofs.YtajfpegacbohdaaDoor.Pl Go.Proofs.YtajfpegacbohdaaDoor.Pb Go.Proofs.YtajfpegacbohdaaDoor.Sa Go.Proofs.YtajfpegacbohdaaDoor.Pure Go.Proofs.YtajfpegacbohdaaDoorW.PrintWords Go.Proofs.YtajfpegacbohdaaDoorW.PrintLast Go.Proofs.YtajfpegacbohdaaDoorW.PrintMore

theorem byte_ne (n : Int) {c m : UInt8} (h : c ≠ m) (hm : (m.toNat : Int) = n := by rfl) : (((c.toNat : Int)) == n) = false := by
  rw [beq_eq_false_iff_ne]
  intro e
  apply h
  apply UInt8.toNat_inj.1
  omega
theorem byte_eq (n : Int) {c m : UInt8} (h : c = m) (hm : (m.toNat : Int) = n := by rfl) : (((c.toNat : Int)) == n) = true := by
  subst h
  rw [beq_iff_eq, hm]
theorem B_app (a b : List UInt8) : B (a ++ b) = B a ++ B b := by
  apply ByteArray.ext; simp [B]
theorem upto_app (c : UInt8) (m : List UInt8) : ∀ s : List UInt8, upto c (s ++ c :: m) = upto c s := by
  intro s
  induction s with
  | nil => rw [List.nil_append, upto_cons, if_pos rfl]; rfl
  | cons x r ih => rw [List.cons_append, upto_cons, upto_cons, ih]
theorem upto_no (c : UInt8) : ∀ s : List UInt8, c ∉ upto c s := by
  intro s
  induction s with
  | nil => simp [upto]
  | cons x r ih =>
    rw [upto_cons]; split
    · simp
    · rename_i h; simp [ih, Ne.symm h]
theorem clean_no62 : ∀ s : List UInt8, (62 : UInt8) ∉ s → (62 : UInt8) ∉ cleanL s := by
  intro s
  induction s with
  | nil => intro _; simp [cleanL]
  | cons x r ih =>
    intro h
    simp only [List.mem_cons, not_or] at h
    rw [cleanL_cons]
    simp only [List.mem_append, not_or]
    refine ⟨?_, ih h.2⟩
    unfold cleanB
    split
    · decide
    · simp [h.1]
theorem upto_at (c : UInt8) : ∀ (s : List UInt8) (k : Nat) (hk : k < s.length), k ≤ (upto c s).length → (s[k] = c ↔ k = (upto c s).length) := by
  intro s
  induction s with
  | nil => intro k hk; simp at hk
  | cons x r ih =>
    intro k hk hle
    rw [upto_cons] at hle ⊢
    by_cases h : x = c
    · rw [if_pos h] at hle ⊢
      obtain rfl : k = 0 := by simpa using hle
      simp [h]
    · rw [if_neg h] at hle ⊢
      cases k with
      | zero => simp [h]
      | succ k =>
        have := ih k (by simpa using hk) (by simpa using hle)
        simpa using this
end Go.Proofs.YtajfpegacbohdaaDoor.Hand
