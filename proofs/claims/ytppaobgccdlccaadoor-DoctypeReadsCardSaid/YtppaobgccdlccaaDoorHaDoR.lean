/-
  Walk of a law: flaillaw11.DoctypeRest.
-/
import Derived.Test.YtppaobgccdlccaaDoorHaDo4
namespace Go.Proofs.YtppaobgccdlccaaDoor.Hand
open Go.RowKit Go.Proofs.YtppaobgccdlccaaDoor.K0 Go.Proofs.YtppaobgccdlccaaDoor.Pl Go.Proofs.YtppaobgccdlccaaDoor.Pb Go.Proofs.YtppaobgccdlccaaDoor.Sa Go.Proofs.YtppaobgccdlccaaDoor.Pure Go.Proofs.YtppaobgccdlccaaDoorW.PrintWords Go.Proofs.YtppaobgccdlccaaDoorW.PrintLast Go.Proofs.YtppaobgccdlccaaDoorW.PrintMore

theorem byte_ne (n : Int) {c m : UInt8} (h : c ≠ m) (hm : (m.toNat : Int) = n := by rfl) : (((c.toNat : Int)) == n) = false := by
  rw [beq_eq_false_iff_ne]
  intro e
  apply h
  apply UInt8.toNat_inj.1
  omega
theorem byte_eq (n : Int) {c m : UInt8} (h : c = m) (hm : (m.toNat : Int) = n := by rfl) : (((c.toNat : Int)) == n) = true := by
  subst h
  rw [beq_iff_eq, hm]
theorem B_app (a b : List UInt8) : B (a ++ b) = B a ++ B b := by
  apply ByteArray.ext; simp [B]
theorem upto_app (c : UInt8) (m : List UInt8) : ∀ s : List UInt8, upto c (s ++ c :: m) = upto c s := by
  intro s
  induction s with
  | nil => rw [List.nil_append, upto_cons, if_pos rfl]; rfl
  | cons x r ih => rw [List.cons_append, upto_cons, upto_cons, ih]
theorem upto_no (c : UInt8) : ∀ s : List UInt8, c ∉ upto c s := by
  intro s
  induction s with
  | nil => simp [upto]
  | cons x r ih =>
    rw [upto_cons]; split
    · simp
    · rename_i h; simp [ih, Ne.symm h]
theorem clean_no62 : ∀ s : List UInt8, (62 : UInt8) ∉ s → (62 : UInt8) ∉ cleanL s := by
  intro s
  induction s with
  | nil => intro _; simp [cleanL]
  | cons x r ih =>
    intro h
    simp only [List.mem_cons, not_or] at h
    rw [cleanL_cons]
    simp only [List.mem_append, not_or]
    refine ⟨?_, ih h.2⟩
    unfold cleanB
    split
    · decide
    · simp [h.1]
theorem upto_at (c : UInt8) : ∀ (s : List UInt8) (k : Nat) (hk : k < s.length), k ≤ (upto c s).length → (s[k] = c ↔ k = (upto c s).length) := by
  intro s
  induction s with
  | nil => intro k hk; simp at hk
  | cons x r ih =>
    intro k hk hle
    rw [upto_cons] at hle ⊢
    by_cases h : x = c
    · rw [if_pos h] at hle ⊢
      obtain rfl : k = 0 := by simpa using hle
      simp [h]
    · rw [if_neg h] at hle ⊢
      cases k with
      | zero => simp [h]
      | succ k =>
        have := ih k (by simpa using hk) (by simpa using hle)
        simpa using this
theorem drest_big (a0 a1 : ByteArray) (w : World) (hGl : Glob w) (h0 : a0.size ≤ 140737488351232) (h1 : a1.size ≤ 140737488351232) (hb : 300 < a0.size ∨ 300 < a1.size) :
    Calls Tryd.prog 23 #[.string a0, .string a1] w fun e w' => e = .returned (.bool true) ∧ Below w.heap.size w w' := by
  by_cases hq : 300 < a0.size
  · have q : decide ((300 : Int) < (a0.size : Int)) = true := by simp; omega
    clear hb
    go_enter Tryd.func23, Tryd.ntmps23
    go_wp2_with fail
    refine (awake11_any _ hGl).mono ?_
    rintro e w1 ⟨rfl, hb⟩
    go_wp2_with fail
    go_ret
    exact ⟨rfl, hb⟩
  · have q : decide ((300 : Int) < (a0.size : Int)) = false := by simp; omega
    have q' : decide ((300 : Int) < (a1.size : Int)) = true := by simp; omega
    clear hb
    go_enter Tryd.func23, Tryd.ntmps23
    go_wp2_with fail
    refine (awake11_any _ hGl).mono ?_
    rintro e w1 ⟨rfl, hb⟩
    go_wp2_with fail
    go_ret
    exact ⟨rfl, hb⟩
def dhead : List UInt8 := [60, 33, 100, 111, 99, 84, 89, 80, 69]
set_option maxRecDepth 100000 in
set_option maxHeartbeats 4000000 in
theorem drest_small (s m : List UInt8) (w : World) (hGl : Glob w) (h0 : s.length ≤ 300) (h1 : m.length ≤ 300) :
    Calls Tryd.prog 23 #[.string (B s), .string (B m)] w fun e w' => e = .returned (.bool true) ∧ Below w.heap.size w w' := by
  have hu35 := Tryd.underlying35
  obtain ⟨U, hU⟩ : ∃ U, (upto 62 s).length = U := ⟨_, rfl⟩
  have hUl : U ≤ s.length := by rw [← hU]; exact upto_length 62 s
  have hat := upto_at 62 s
  rw [hU] at hat
  have C1 : ∀ W, Glob W → Calls Tryd.prog 45 #[.string (⟨#[60, 33, 100, 111, 99, 84, 89, 80, 69]⟩ ++ B s ++ ⟨#[62]⟩ ++ B m), .int .i64 0] W fun e w' => e = .returned (.tuple #[.agg #[.int .i64 4, .string ⟨#[]⟩, .string (B (cleanL (upto 62 s))), .slice none 0 0, .bool false], .int .i64 ((U : Int) + 10), .bool true]) ∧ Below W.heap.size W w' := by
    intro W hG
    have hb : begR ((dhead ++ (s ++ 62 :: m)).drop 0) doctB = true := by simp [dhead, doctB, begR, lowB]
    have := dread_yes (dhead ++ (s ++ 62 :: m)) 0 W hG (by simp [dhead]; omega) (by omega) hb
    have hr : readD ((dhead ++ (s ++ 62 :: m)).drop 0) = (upto 62 s, 9 + U + 1) := by
      unfold readD
      rw [List.drop_zero, show (dhead ++ (s ++ 62 :: m)).drop 9 = s ++ 62 :: m by simp [dhead], upto_app, if_pos (by simp), hU]
    rw [hr, show dhead ++ (s ++ 62 :: m) = dhead ++ (s ++ ([62] ++ m)) by simp, B_app, B_app, B_app, ← ByteArray.append_assoc, ← ByteArray.append_assoc] at this
    rw [show (U : Int) + 10 = ((0 + (9 + U + 1) : Nat) : Int) by omega]
    exact this
  have hT : ∀ i (h : i < (B (cleanL (upto 62 s))).size), (B (cleanL (upto 62 s)))[i] ≠ 62 ∧ (B (cleanL (upto 62 s)))[i] ≠ 0 := by
    intro i hi
    have hm : (B (cleanL (upto 62 s)))[i] ∈ cleanL (upto 62 s) := List.mem_iff_getElem.2 ⟨i, by simpa using hi, rfl⟩
    exact ⟨fun e => clean_no62 _ (upto_no 62 s) (by rw [e] at hm; exact hm), fun e => cleanL_no0 (upto 62 s) (by rw [e] at hm; exact hm)⟩
  have hzt : (B (cleanL (upto 62 s))).size ≤ 1000000 := by
    have := (cleanL_length (upto 62 s)).2
    rw [hU] at this
    simp; omega
  obtain ⟨t, ht⟩ : ∃ t, B (cleanL (upto 62 s)) = t := ⟨_, rfl⟩
  rw [ht] at C1 hT hzt
  have hAt : ∀ k (hk : k < (B s).size), k ≤ U → ((B s)[k] = 62 ↔ k = U) := fun k hk hle => hat k (by simpa using hk) hle
  obtain ⟨a0, ha⟩ : ∃ a, B s = a := ⟨_, rfl⟩
  obtain ⟨a1, hm⟩ : ∃ a, B m = a := ⟨_, rfl⟩
  have z0 : a0.size ≤ 300 := by rw [← ha]; simpa using h0
  have z1 : a1.size ≤ 300 := by rw [← hm]; simpa using h1
  have z2 : U ≤ a0.size := by rw [← ha]; simpa using hUl
  rw [ha] at C1 hAt ⊢
  rw [hm] at C1 ⊢
  have HC := Lib.hid C1
  have HT := Lib.hid hT
  have HA := Lib.hid hAt
  clear ha hm h0 h1 ht hU hUl hat C1 hT hAt
  have q : decide ((300 : Int) < (a0.size : Int)) = false := by simp; omega
  have q' : decide ((300 : Int) < (a1.size : Int)) = false := by simp; omega
  go_enter Tryd.func23, Tryd.ntmps23
  go_wp2_with fail
  refine (awake11_any _ hGl).mono ?_
  rintro e w1 ⟨rfl, hb⟩
  have HL := Lib.hid ((Live.start hGl).call hb)
  clear hb hGl
  go_wp2_with fail
  refine (HC.out _ HL.out.glob).mono ?_
  rintro e w2 ⟨rfl, hb⟩
  replace HL := Lib.hid ((HL.out.call hb).alloc #[.int .i64 4, .string ⟨#[]⟩, .string t, .slice none 0 0, .bool false] 35)
  clear hb HC
  have q0 := HL.out.cell (b := w2.heap.size) (j := 0) (x := .int .i64 4) m0 rfl
  have q1 := HL.out.cell (b := w2.heap.size) (j := 1) (x := .string ⟨#[]⟩) m0 rfl
  have q2 := HL.out.cell (b := w2.heap.size) (j := 2) (x := .string t) m0 rfl
  have q3 := HL.out.cell (b := w2.heap.size) (j := 3) (x := .slice none 0 0) m0 rfl
  go_wp2_with fail
  go_loop [9] (fun i => ∃ k : Nat, k ≤ U ∧ i = .int .i64 k) (fun i => a0.size - (intOf i).toNat)
  case atStart => exact ⟨0, Nat.zero_le _, rfl⟩
  case round =>
    obtain ⟨k, hk, rfl⟩ := hrel
    by_cases hlt : k < a0.size
    · by_cases hc : a0[k] = 62
      · obtain rfl : k = U := (HA.out k hlt hk).1 hc
        have e0 := byte_eq 62 hc
        clear hc
        go_wp2_with fail
        go_loop [10] (fun i => ∃ j : Nat, j ≤ t.size ∧ i = .int .i64 j) (fun i => t.size - (intOf i).toNat)
        case atStart => exact ⟨0, Nat.zero_le _, rfl⟩
        case round =>
          obtain ⟨j, hj, rfl⟩ := hrel
          by_cases hlt2 : j < t.size
          · have e1 := byte_ne 62 (HT.out j hlt2).1
            have e2 := byte_ne 0 (HT.out j hlt2).2
            go_wp2_with fail
            go_round
            case rel => exact ⟨j + 1, by omega, by go_num⟩
            case measure => simp [intOf]; omega
          · obtain rfl : j = t.size := by omega
            go_wp2_with fail
            go_ret
            exact ⟨rfl, HL.out.below⟩
      · have hne : k ≠ U := fun e => hc ((HA.out k hlt hk).2 e)
        have e0 := byte_ne 62 hc
        clear hc
        go_wp2_with fail
        go_round
        case rel => exact ⟨k + 1, by omega, by go_num⟩
        case measure => simp [intOf]; omega
    · obtain rfl : k = U := by omega
      go_wp2_with fail
      go_loop [10] (fun i => ∃ j : Nat, j ≤ t.size ∧ i = .int .i64 j) (fun i => t.size - (intOf i).toNat)
      case atStart => exact ⟨0, Nat.zero_le _, rfl⟩
      case round =>
        obtain ⟨j, hj, rfl⟩ := hrel
        by_cases hlt2 : j < t.size
        · have e1 := byte_ne 62 (HT.out j hlt2).1
          have e2 := byte_ne 0 (HT.out j hlt2).2
          go_wp2_with fail
          go_round
          case rel => exact ⟨j + 1, by omega, by go_num⟩
          case measure => simp [intOf]; omega
        · obtain rfl : j = t.size := by omega
          go_wp2_with fail
          go_ret
          exact ⟨rfl, HL.out.below⟩
theorem DoctypeRest_law (a0 a1 : ByteArray) (w : World) (h0 : a0.size ≤ 140737488351232) (h1 : a1.size ≤ 140737488351232) (hGl : Glob w) :
    Calls Tryd.prog 23 #[.string a0, .string a1] w fun e w' => e = .returned (.bool true) ∧ Below w.heap.size w w' := by
  by_cases hb : 300 < a0.size ∨ 300 < a1.size
  · exact drest_big a0 a1 w hGl h0 h1 hb
  · obtain ⟨s, rfl⟩ := exists_B a0
    obtain ⟨m, rfl⟩ := exists_B a1
    rw [size_B, size_B] at hb
    exact drest_small s m w hGl (by omega) (by omega)
end Go.Proofs.YtppaobgccdlccaaDoor.Hand
