/-
  Plain: what a doctype says, with its end and without.
-/
import Derived.Test.YtppaobgccdlccaaDoorHaDo3
namespace Go.Proofs.YtppaobgccdlccaaDoor.Pure
open Go Go.RowKit Go.Proofs.YtppaobgccdlccaaDoor.Hand Go.Proofs.YtppaobgccdlccaaDoor.Pl Go.Proofs.YtppaobgccdlccaaDoor.Pb

theorem nameD_ne {s : List UInt8} (h : trimL s ≠ []) : (nameD (trimL s)).isEmpty = false := by
  obtain ⟨c, r, hs⟩ := List.exists_cons_of_ne_nil h
  have hc : isSp c = false := by
    have := List.head?_dropWhile_not isSp s
    unfold trimL at hs
    rw [hs] at this
    simpa using this
  have hw : wordLen (c :: r) = wordLen r + 1 := by unfold wordLen; simp [hc]
  rw [hs]
  unfold nameD
  rw [hw, List.take_succ_cons, lowL, List.map_cons, cleanL_cons]
  unfold cleanB
  split <;> simp
theorem quotedL_no {s : List UInt8} (h : (quotedL s).2.2.1 = false) : (quotedL s).1 = [] := by
  cases s with
  | nil => rfl
  | cons q r =>
    simp only [quotedL] at h ⊢
    split at h
    · simp at h
    · rename_i hq; rw [if_neg hq]
/-- what two readings of one doctype have in common -/
def DocTwo (d e : DocR) : Prop :=
  ∃ (n p y : List UInt8) (hn hp hy q1 q2 : Bool), d = (n, p, y, hn, hp, hy, q1) ∧ e = (n, p, y, hn, hp, hy, q2) ∧ (q1 = true → q2 = true) ∧ (hn = false → q1 = true ∧ hp = false ∧ hy = false) ∧ hn = !n.isEmpty ∧ (hp = false → p = []) ∧ (hy = false → y = [])
theorem sysD_two (n p : List UInt8) (hp : Bool) (s : List UInt8) (hnn : n.isEmpty = false) (hpp : hp = false → p = []) : DocTwo (sysD n p true hp s true) (sysD n p true hp s false) := by
  unfold sysD
  split
  · split
    · exact ⟨n, p, _, true, hp, true, _, _, rfl, rfl, by simp, by simp, by simp [hnn], hpp, by simp⟩
    · exact ⟨n, p, _, true, hp, true, _, _, rfl, rfl, by simp, by simp, by simp [hnn], hpp, by simp⟩
  · exact ⟨n, p, _, true, hp, _, _, _, rfl, rfl, by simp, by simp, by simp [hnn], hpp, quotedL_no⟩
theorem pubD_two (n s : List UInt8) (hnn : n.isEmpty = false) : DocTwo (pubD n s true) (pubD n s false) := by
  unfold pubD
  split
  · split
    · exact ⟨n, _, [], true, true, false, _, _, rfl, rfl, by simp, by simp, by simp [hnn], by simp, by simp⟩
    · exact sysD_two n _ true _ hnn (by simp)
  · exact ⟨n, _, [], true, _, false, _, _, rfl, rfl, by simp, by simp, by simp [hnn], quotedL_no, by simp⟩
theorem parse_two (raw : List UInt8) : DocTwo (parseD raw true) (parseD raw false) := by
  unfold parseD
  by_cases h0 : trimL raw = []
  · rw [if_pos h0, if_pos h0]
    exact ⟨[], [], [], false, false, false, true, true, rfl, rfl, by simp, by simp, by simp, by simp, by simp⟩
  · have hn := nameD_ne h0
    rw [if_neg h0, if_neg h0]
    split
    · exact ⟨_, [], [], true, false, false, _, _, rfl, rfl, by simp, by simp, by simp [hn], by simp, by simp⟩
    · split
      · exact pubD_two _ _ hn
      · split
        · exact sysD_two _ _ _ _ hn (by simp)
        · exact ⟨_, [], [], true, false, false, true, true, rfl, rfl, by simp, by simp, by simp [hn], by simp, by simp⟩
end Go.Proofs.YtppaobgccdlccaaDoor.Pure
