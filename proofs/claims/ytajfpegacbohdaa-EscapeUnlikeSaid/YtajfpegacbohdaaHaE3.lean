/-
  Walk of a law: EscapeUnlike.
-/
import Derived.Test.YtajfpegacbohdaaHaE2
namespace Go.Proofs.Ytajfpegacbohdaa.Hand
open Go.RowKit Go.Proofs.Ytajfpegacbohdaa.Pb Go.Proofs.Ytajfpegacbohdaa.Pl

def plainP (P : ByteArray) : Prop := ∀ c ∈ P.data.toList, plainC c
theorem plainP_add {P a : ByteArray} {k : Nat} (h : plainP P) (hk : k < a.size) (hc : plainC a[k]) : plainP (P ++ a.extract k (k + 1)) := by
  intro c hm
  rw [ByteArray.data_append, Array.toList_append, List.mem_append] at hm
  rcases hm with hm | hm
  · exact h c hm
  · have : (a.extract k (k + 1)).data.toList = [a[k]] := by
      obtain ⟨l, rfl⟩ := exists_B a
      rw [B_extract, B_data]
      have hk' : k < l.length := by simpa using hk
      rw [List.drop_take, Nat.add_sub_cancel_left, List.drop_eq_getElem_cons hk', List.take_succ_cons, List.take_zero]
      simp [B]
      rfl
    rw [this, List.mem_singleton] at hm
    rw [hm]; exact hc
theorem bnt_ (n : Int) {c m : UInt8} (h : c ≠ m) (hm : (m.toNat : Int) = n := by rfl) : (((c.toNat : Int)) != n) = true := by
  rw [bne_iff_ne]
  intro e
  apply h
  apply UInt8.toNat_inj.1
  omega
theorem bnf_ (n : Int) {c m : UInt8} (h : c = m) (hm : (m.toNat : Int) = n := by rfl) : (((c.toNat : Int)) != n) = false := by
  subst h; rw [hm]; simp
theorem bet_ (n : Int) {c m : UInt8} (h : c = m) (hm : (m.toNat : Int) = n := by rfl) : (((c.toNat : Int)) == n) = true := by
  subst h; rw [hm]; simp
theorem none_add {s : List UInt8} {a : ByteArray} {k : Nat} (hs : a.data.toList = s) (hk : k < a.size) (h : 0 ∉ s.take k) (hz : a[k] ≠ 0) : 0 ∉ s.take (k + 1) := by
  subst hs
  have hk' : k < a.data.toList.length := by rw [Array.length_toList]; exact hk
  rw [List.take_succ_eq_append_getElem hk', List.mem_append, List.mem_singleton]
  rintro (e | e)
  · exact h e
  · exact hz (by rw [e]; simp; rfl)
set_option maxRecDepth 100000 in
set_option maxHeartbeats 8000000 in
theorem EscapeUnlike_law (d : Int) (a1 a2 : ByteArray) (w : World) (hk : (Lit.int .u8 d).wf = true) (h0 : a1.size ≤ 140737488351232) (h1 : a2.size ≤ 140737488351232) :
    Calls Try.prog 6 #[.int .u8 d, .string a1, .string a2] w fun e w' => e = .returned (.bool true) ∧ Below w.heap.size w w' := by
  have hd : 0 ≤ d ∧ d ≤ 255 := u8_wf hk
  obtain ⟨hd0, hd1⟩ := hd
  have AW := Lib.hid (fun W => awake21_any W)
  clear hk
  by_cases c1 : 300 < a1.size
  · have q1 : decide ((300 : Int) < (a1.size : Int)) = true := by simp; omega
    clear c1
    go_enter Try.func6, Try.ntmps6
    go_wp2_with fail
    refine (AW.out _).mono ?_
    rintro e w1 ⟨rfl, hb⟩
    have HB := Lib.hid hb
    clear hb
    go_wp2_with fail
    go_ret
    exact ⟨rfl, HB.out⟩
  have q1 : decide ((300 : Int) < (a1.size : Int)) = false := by simp; omega
  by_cases c2 : 300 < a2.size
  · have q2 : decide ((300 : Int) < (a2.size : Int)) = true := by simp; omega
    clear c1 c2
    go_enter Try.func6, Try.ntmps6
    go_wp2_with fail
    refine (AW.out _).mono ?_
    rintro e w1 ⟨rfl, hb⟩
    have HB := Lib.hid hb
    clear hb
    go_wp2_with fail
    go_ret
    exact ⟨rfl, HB.out⟩
  have q2 : decide ((300 : Int) < (a2.size : Int)) = false := by simp; omega
  obtain ⟨s, rfl⟩ := exists_B a1
  obtain ⟨t, rfl⟩ := exists_B a2
  have hs : s.length ≤ 300 := by rw [size_B] at c1; omega
  have ht : t.length ≤ 300 := by rw [size_B] at c2; omega
  clear c1 c2
  cases r1 : rightL s with
  | false =>
    have R1 := Lib.hid (fun W => right_at r1 W)
    obtain ⟨a, ha⟩ : ∃ a, B s = a := ⟨_, rfl⟩
    rw [ha] at q1 R1 h0 ⊢
    clear ha r1
    go_enter Try.func6, Try.ntmps6
    go_wp2_with fail
    refine (AW.out _).mono ?_
    rintro e w1 ⟨rfl, hb⟩
    have HB := Lib.hid hb
    clear hb
    go_wp2_with fail
    refine (R1.out _).mono ?_
    rintro e w2 ⟨rfl, hb⟩
    replace HB := Lib.hid (Below.next HB.out HB.out.size hb)
    clear hb
    go_wp2_with fail
    go_ret
    exact ⟨rfl, HB.out⟩
  | true =>
  have R1 := Lib.hid (fun W => right_at r1 W)
  cases r2 : rightL t with
  | false =>
    have R2 := Lib.hid (fun W => right_at r2 W)
    obtain ⟨a, ha⟩ : ∃ a, B s = a := ⟨_, rfl⟩
    obtain ⟨b, hb⟩ : ∃ b, B t = b := ⟨_, rfl⟩
    rw [ha] at q1 R1 h0 ⊢
    rw [hb] at q2 R2 h1 ⊢
    clear ha hb r1 r2
    go_enter Try.func6, Try.ntmps6
    go_wp2_with fail
    refine (AW.out _).mono ?_
    rintro e w1 ⟨rfl, hb⟩
    have HB := Lib.hid hb
    clear hb
    go_wp2_with fail
    refine (R1.out _).mono ?_
    rintro e w2 ⟨rfl, hb⟩
    replace HB := Lib.hid (Below.next HB.out HB.out.size hb)
    clear hb
    go_wp2_with fail
    refine (R2.out _).mono ?_
    rintro e w2 ⟨rfl, hb⟩
    replace HB := Lib.hid (Below.next HB.out HB.out.size hb)
    clear hb
    go_wp2_with fail
    go_ret
    exact ⟨rfl, HB.out⟩
  | true =>
    have R2 := Lib.hid (fun W => right_at r2 W)
    have E1 := Lib.hid (fun W => enc_c (d % 3) s W (by omega))
    have E2 := Lib.hid (fun W => enc_c (d % 3) t W (by omega))
    have EI := Lib.hid (fun (ha : 0 ∉ s) (hb : 0 ∉ t) => enc_inj (d % 3) (by omega) ha hb)
    obtain ⟨ra, hra⟩ : ∃ a, B (encL (d % 3) s) = a := ⟨_, rfl⟩
    obtain ⟨rb, hrb⟩ : ∃ a, B (encL (d % 3) t) = a := ⟨_, rfl⟩
    rw [hra] at E1
    rw [hrb] at E2
    obtain ⟨a, ha⟩ : ∃ a, B s = a := ⟨_, rfl⟩
    obtain ⟨b, hb⟩ : ∃ b, B t = b := ⟨_, rfl⟩
    rw [ha] at q1 R1 h0 E1 ⊢
    rw [hb] at q2 R2 h1 E2 ⊢
    have QE : Hid (0 ∉ s → 0 ∉ t → (ra.toList == rb.toList) = (a.toList == b.toList)) := Lib.hid (fun h1 h2 => by
      rw [← hra, ← hrb, ← ha, ← hb, toList_B, toList_B, toList_B, toList_B, Bool.eq_iff_iff, beq_iff_eq, beq_iff_eq]
      exact EI.out h1 h2)
    have za : a.size ≤ 300 := by rw [← ha, size_B]; exact hs
    have zb : b.size ≤ 300 := by rw [← hb, size_B]; exact ht
    have da : Hid (a.data.toList = s) := Lib.hid (by rw [← ha, B_data])
    have db : Hid (b.data.toList = t) := Lib.hid (by rw [← hb, B_data])
    have N0 : Hid (0 ∉ s.take 0) := Lib.hid (by simp)
    have N1 : Hid (0 ∉ t.take 0) := Lib.hid (by simp)
    have P0 : Hid (plainP ⟨#[]⟩) := Lib.hid (fun c h => by simp at h)
    clear ha hb r1 r2 hra hrb EI hs ht
    go_enter Try.func6, Try.ntmps6
    go_wp2_with fail
    refine (AW.out _).mono ?_
    rintro e w1 ⟨rfl, hb⟩
    have HB := Lib.hid hb
    clear hb
    go_wp2_with fail
    refine (R1.out _).mono ?_
    rintro e w2 ⟨rfl, hb⟩
    replace HB := Lib.hid (Below.next HB.out HB.out.size hb)
    clear hb
    go_wp2_with fail
    refine (R2.out _).mono ?_
    rintro e w2 ⟨rfl, hb⟩
    replace HB := Lib.hid (Below.next HB.out HB.out.size hb)
    clear hb
    go_wp2_with fail
    go_loop [8, 9] (fun p i => ∃ (k : Nat) (P : ByteArray), p = .string P ∧ i = .int .i64 (k : Int) ∧ P.size ≤ k ∧ k ≤ a.size ∧ Hid (0 ∉ s.take k) ∧ Hid (plainP P)) (fun _ i => a.size - (intOf i).toNat)
    case atStart => exact ⟨0, ⟨#[]⟩, rfl, rfl, Nat.le_refl _, Nat.zero_le _, N0, P0⟩
    case round =>
      obtain ⟨k, P, rfl, rfl, hPk, hk, hN, HP⟩ := hrel
      by_cases hlt : k < a.size
      · by_cases hz : a[k] = 0
        · have b0 := bet_ 0 hz
          clear hz hN HP
          go_wp2_with fail
          go_ret
          exact ⟨rfl, HB.out⟩
        · have b0 := bne_ 0 hz
          have HN := Lib.hid (none_add da.out hlt hN.out hz)
          clear hN
          by_cases h128 : 128 ≤ a[k].toNat
          · have b128 : decide ((a[k].toNat : Int) < 128) = false := by simp; omega
            clear hz h128
            go_wp2_with fail
            go_round
            case rel => exact ⟨k + 1, P, rfl, by go_num, by omega, by omega, HN, HP⟩
            case measure => simp [intOf]; omega
          have b128 : decide ((a[k].toNat : Int) < 128) = true := by simp; omega
          by_cases n38 : a[k] = 38
          · have b38 := bnf_ 38 n38
            clear n38 hz h128
            go_wp2_with fail
            go_round
            case rel => exact ⟨k + 1, P, rfl, by go_num, by omega, by omega, HN, HP⟩
            case measure => simp [intOf]; omega
          have b38 := bnt_ 38 n38
          by_cases n60 : a[k] = 60
          · have b60 := bnf_ 60 n60
            clear n38 n60 hz h128
            go_wp2_with fail
            go_round
            case rel => exact ⟨k + 1, P, rfl, by go_num, by omega, by omega, HN, HP⟩
            case measure => simp [intOf]; omega
          have b60 := bnt_ 60 n60
          by_cases n62 : a[k] = 62
          · have b62 := bnf_ 62 n62
            clear n38 n60 n62 hz h128
            go_wp2_with fail
            go_round
            case rel => exact ⟨k + 1, P, rfl, by go_num, by omega, by omega, HN, HP⟩
            case measure => simp [intOf]; omega
          have b62 := bnt_ 62 n62
          by_cases n34 : a[k] = 34
          · have b34 := bnf_ 34 n34
            clear n38 n60 n62 n34 hz h128
            go_wp2_with fail
            go_round
            case rel => exact ⟨k + 1, P, rfl, by go_num, by omega, by omega, HN, HP⟩
            case measure => simp [intOf]; omega
          have b34 := bnt_ 34 n34
          by_cases n39 : a[k] = 39
          · have b39 := bnf_ 39 n39
            clear n38 n60 n62 n34 n39 hz h128
            go_wp2_with fail
            go_round
            case rel => exact ⟨k + 1, P, rfl, by go_num, by omega, by omega, HN, HP⟩
            case measure => simp [intOf]; omega
          have b39 := bnt_ 39 n39
          by_cases n13 : a[k] = 13
          · have b13 := bnf_ 13 n13
            clear n38 n60 n62 n34 n39 n13 hz h128
            go_wp2_with fail
            go_round
            case rel => exact ⟨k + 1, P, rfl, by go_num, by omega, by omega, HN, HP⟩
            case measure => simp [intOf]; omega
          have b13 := bnt_ 13 n13
          have HQ : Hid (plainP (P ++ a.extract k (k + 1))) := Lib.hid (plainP_add HP.out hlt ⟨by omega, n38, n60, n62, n34, n39, n13, hz⟩)
          have hsz : (P ++ a.extract k (k + 1)).size ≤ k + 1 := by rw [ByteArray.size_append, ByteArray.size_extract]; omega
          have HSZ := Lib.hid hsz
          clear hsz n38 n60 n62 n34 n39 n13 hz h128
          go_wp2_with fail
          go_round
          case rel => exact ⟨k + 1, P ++ a.extract k (k + 1), rfl, by go_num, HSZ.out, by omega, HN, HQ⟩
          case measure => simp [intOf]; omega
      · have HA : Hid (0 ∉ s) := Lib.hid (by
          have := hN.out
          rwa [List.take_of_length_le (by rw [← da.out, Array.length_toList]; show a.size ≤ k; omega)] at this)
        have zP : P.size ≤ 300 := by omega
        have EP : Hid (∀ (k : Int) (_ : k = 0 ∨ k = 1) W, Calls Try.prog 8 #[.int .i64 k, .string P] W fun e w' => e = .returned (.string P) ∧ Below W.heap.size W w') := Lib.hid (fun k hk W => by
          obtain ⟨p, rfl⟩ := exists_B P
          exact enc_at k p p (by
            unfold encL; rw [if_pos hk]
            exact esc_plain p (by have := HP.out; unfold plainP at this; rw [B_data] at this; exact this)) (by rw [size_B] at zP; omega) W)
        clear hN HP
        go_wp2_with fail
        go_loop [10] (fun i => ∃ (k : Nat), i = .int .i64 (k : Int) ∧ k ≤ b.size ∧ Hid (0 ∉ t.take k)) (fun i => b.size - (intOf i).toNat)
        case atStart => exact ⟨0, rfl, Nat.zero_le _, N1⟩
        case round =>
          obtain ⟨j, rfl, hj, hN⟩ := hrel
          by_cases hjt : j < b.size
          · by_cases hz : b[j] = 0
            · have b0 := bet_ 0 hz
              clear hz hN
              go_wp2_with fail
              go_ret
              exact ⟨rfl, HB.out⟩
            · have b0 := bne_ 0 hz
              have HN := Lib.hid (none_add db.out hjt hN.out hz)
              clear hN hz
              go_wp2_with fail
              go_round
              case rel => exact ⟨j + 1, by go_num, by omega, HN⟩
              case measure => simp [intOf]; omega
          · have HBN : Hid (0 ∉ t) := Lib.hid (by
              have := hN.out
              rwa [List.take_of_length_le (by rw [← db.out, Array.length_toList]; show b.size ≤ j; omega)] at this)
            have qe := QE.out HA.out HBN.out
            clear hN
            go_wp2_with fail
            refine (E1.out _).mono ?_
            rintro e w2 ⟨rfl, hb⟩
            replace HB := Lib.hid (Below.next HB.out HB.out.size hb)
            clear hb
            go_wp2_with fail
            refine (E2.out _).mono ?_
            rintro e w2 ⟨rfl, hb⟩
            replace HB := Lib.hid (Below.next HB.out HB.out.size hb)
            clear hb
            go_wp2_with fail
            refine (EP.out 0 (.inl rfl) _).mono ?_
            rintro e w2 ⟨rfl, hb⟩
            replace HB := Lib.hid (Below.next HB.out HB.out.size hb)
            clear hb
            go_wp2_with fail
            refine (EP.out 1 (.inr rfl) _).mono ?_
            rintro e w2 ⟨rfl, hb⟩
            replace HB := Lib.hid (Below.next HB.out HB.out.size hb)
            clear hb
            go_wp2_with fail
            go_ret
            exact ⟨rfl, HB.out⟩
end Go.Proofs.Ytajfpegacbohdaa.Hand
