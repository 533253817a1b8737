/-
  Plain: what is written is read: a doctype's name, and two texts in quotes.
-/
import Derived.Test.YtppaobgccdlccaaDoorHaDo3
namespace Go.Proofs.YtppaobgccdlccaaDoor.Pure
open Go Go.RowKit Go.Proofs.YtppaobgccdlccaaDoor.Hand Go.Proofs.YtppaobgccdlccaaDoor.Pl Go.Proofs.YtppaobgccdlccaaDoor.Pb

theorem trimL_no {c : UInt8} {r : List UInt8} (h : isSp c = false) : trimL (c :: r) = c :: r := by unfold trimL; simp [h]
theorem trimL_sp {c : UInt8} {r : List UInt8} (h : isSp c = true) : trimL (c :: r) = trimL r := by unfold trimL; simp [h]
theorem word_one {c d : UInt8} {r : List UInt8} (h : isSp c = false) (hd : isSp d = true) : wordLen (c :: d :: r) = 1 := by unfold wordLen; simp [h, hd]
theorem quoted_is {q : UInt8} (hq : q = 34 ∨ q = 39) {a : List UInt8} (ha : q ∉ a) (h0 : (0 : UInt8) ∉ a) (r : List UInt8) : quotedL (q :: (a ++ q :: r)) = (a, r, true, true) := by
  have hu : upto q (a ++ q :: r) = a := by
    clear h0
    induction a with
    | nil => rw [List.nil_append, upto_cons, if_pos rfl]
    | cons x a ih =>
      simp only [List.mem_cons, not_or] at ha
      rw [List.cons_append, upto_cons, if_neg (Ne.symm ha.1), ih ha.2]
  simp only [quotedL, if_pos hq, hu, cleanL_of_no0 h0]
  unfold past
  rw [hu]
  simp
structure NameOk (L : UInt8) : Prop where
  sp : isSp L = false
  low : lowB L = L
  no0 : L ≠ 0
theorem name_ok (c : UInt8) (h : 97 ≤ c ∧ c ≤ 122) : NameOk c := by
  have : ∀ n : Fin 256, 97 ≤ UInt8.ofNat n.val ∧ UInt8.ofNat n.val ≤ 122 → isSp (UInt8.ofNat n.val) = false ∧ lowB (UInt8.ofNat n.val) = UInt8.ofNat n.val ∧ UInt8.ofNat n.val ≠ 0 := by decide +kernel
  have h' := this ⟨c.toNat, c.toNat_lt⟩
  simp only [UInt8.ofNat_toNat] at h'
  exact ⟨(h' h).1, (h' h).2.1, (h' h).2.2⟩
theorem name_one {L : UInt8} (h : NameOk L) (d : UInt8) (r : List UInt8) (hd : isSp d = true) : nameD (L :: d :: r) = [L] := by
  unfold nameD
  rw [word_one h.sp hd]
  simp [lowL, h.low, cleanL, cleanB, h.no0]
theorem q_nosp {q : UInt8} (hq : q = 34 ∨ q = 39) : isSp q = false := by rcases hq with rfl | rfl <;> decide
def pubW (large : Bool) : List UInt8 := if large then [10, 80, 85, 66, 76, 73, 67] else [32, 112, 117, 98, 108, 105, 99, 32]
def sysW (large : Bool) : List UInt8 := if large then [9, 83, 89, 83, 84, 69, 77] else [32, 115, 121, 115, 116, 101, 109, 32]
theorem written_d {L q : UInt8} (hL : NameOk L) (hq : q = 34 ∨ q = 39) {a b : List UInt8} (ha : q ∉ a ∧ (0 : UInt8) ∉ a) (hb : q ∉ b ∧ (0 : UInt8) ∉ b) (large : Bool) :
    parseD (32 :: L :: (pubW large ++ (q :: (a ++ (q :: (q :: (b ++ [q]))))))) true = ([L], a, b, true, true, true, false) := by
  have h1 : trimL (32 :: L :: (pubW large ++ (q :: (a ++ (q :: (q :: (b ++ [q]))))))) = L :: (pubW large ++ (q :: (a ++ (q :: (q :: (b ++ [q])))))) := by
    rw [trimL_sp (by decide), trimL_no hL.sp]
  obtain ⟨R, hR⟩ : ∃ R, q :: (a ++ (q :: (q :: (b ++ [q])))) = R := ⟨_, rfl⟩
  have hRs : trimL R = R := by rw [← hR, trimL_no (q_nosp hq)]
  have hp : pubD [L] ((pubW large ++ R).drop 1) true = ([L], a, b, true, true, true, false) := by
    have hd : trimL (((pubW large ++ R).drop 1).drop 6) = R := by
      cases large
      · show trimL (32 :: R) = R
        rw [trimL_sp (by decide), hRs]
      · show trimL R = R
        exact hRs
    have hs : sysD [L] a true true (q :: (b ++ [q])) true = ([L], a, b, true, true, true, false) := by
      unfold sysD
      rw [quoted_is hq hb.1 hb.2 []]
      simp [trimL]
    unfold pubD
    rw [hd, ← hR, quoted_is hq ha.1 ha.2]
    simp only [and_self, if_true]
    rw [trimL_no (q_nosp hq), if_neg (by simp), hs]
  rw [hR] at h1 ⊢
  unfold parseD
  rw [h1, if_neg (by simp)]
  obtain ⟨d, r, hdr, hds, hr0, hrt, hbeg⟩ : ∃ d r, pubW large ++ R = d :: r ∧ isSp d = true ∧ r ≠ [] ∧ trimL r = r ∧ begR r publicL = true := by
    cases large
    · exact ⟨32, [112, 117, 98, 108, 105, 99, 32] ++ R, rfl, by decide, by simp, (show trimL (112 :: ([117, 98, 108, 105, 99, 32] ++ R)) = _ from trimL_no (by decide)), by simp [begR, publicL, lowB]⟩
    · exact ⟨10, [80, 85, 66, 76, 73, 67] ++ R, rfl, by decide, by simp, (show trimL (80 :: ([85, 66, 76, 73, 67] ++ R)) = _ from trimL_no (by decide)), by simp [begR, publicL, lowB]⟩
  rw [hdr] at hp ⊢
  rw [word_one hL.sp hds, name_one hL d r hds]
  have e1 : (L :: d :: r).drop 1 = d :: r := rfl
  rw [e1, trimL_sp hds, hrt, if_neg hr0, if_pos hbeg]
  exact hp
theorem written_e {L q : UInt8} (hL : NameOk L) (hq : q = 34 ∨ q = 39) {b : List UInt8} (hb : q ∉ b ∧ (0 : UInt8) ∉ b) (large : Bool) :
    parseD (L :: (sysW large ++ (q :: (b ++ [q, 32])))) true = ([L], [], b, true, false, true, false) := by
  obtain ⟨R, hR⟩ : ∃ R, q :: (b ++ [q, 32]) = R := ⟨_, rfl⟩
  have hRs : trimL R = R := by rw [← hR, trimL_no (q_nosp hq)]
  have hs : sysD [L] [] true false R true = ([L], [], b, true, false, true, false) := by
    unfold sysD
    rw [← hR, show b ++ [q, 32] = b ++ q :: [32] from rfl, quoted_is hq hb.1 hb.2 [32]]
    simp [trimL, isSp]
  have h1 : trimL (L :: (sysW large ++ R)) = L :: (sysW large ++ R) := trimL_no hL.sp
  rw [hR]
  unfold parseD
  rw [h1, if_neg (by simp)]
  obtain ⟨d, r, hdr, hds, hr0, hrt, hbp, hbeg, hd6⟩ : ∃ d r, sysW large ++ R = d :: r ∧ isSp d = true ∧ r ≠ [] ∧ trimL r = r ∧ begR r publicL = false ∧ begR r systemL = true ∧ trimL (r.drop 6) = R := by
    cases large
    · refine ⟨32, [115, 121, 115, 116, 101, 109, 32] ++ R, rfl, by decide, by simp, (show trimL (115 :: ([121, 115, 116, 101, 109, 32] ++ R)) = _ from trimL_no (by decide)), by simp [begR, publicL, lowB], by simp [begR, systemL, lowB], ?_⟩
      show trimL (32 :: R) = R
      rw [trimL_sp (by decide), hRs]
    · exact ⟨9, [83, 89, 83, 84, 69, 77] ++ R, rfl, by decide, by simp, (show trimL (83 :: ([89, 83, 84, 69, 77] ++ R)) = _ from trimL_no (by decide)), by simp [begR, publicL, lowB], by simp [begR, systemL, lowB], by simp [hRs]⟩
  rw [hdr]
  rw [word_one hL.sp hds, name_one hL d r hds]
  have e1 : (L :: d :: r).drop 1 = d :: r := rfl
  rw [e1, trimL_sp hds, hrt, if_neg hr0, if_neg (by rw [hbp]; simp), if_pos hbeg, hd6, hs]
end Go.Proofs.YtppaobgccdlccaaDoor.Pure
