/-
  Walks of laws: flaillaw21.awake, EscapeTells, EscapePlain.
-/
import Derived.Test.YtajfpegacbohdaaHaEs
import Derived.Test.YtajfpegacbohdaaHaL
import Derived.Test.YtajfpegacbohdaaPuEs
namespace Go.Proofs.Ytajfpegacbohdaa.Hand
open Go.RowKit Go.Proofs.Ytajfpegacbohdaa.Pb Go.Proofs.Ytajfpegacbohdaa.Pl

theorem u8_wf {d : Int} (h : (Lit.int .u8 d).wf = true) : 0 ≤ d ∧ d ≤ 255 := by
  have h' : IntKind.u8.min ≤ d ∧ d ≤ IntKind.u8.max := by simpa [Lit.wf] using h
  exact ⟨Int.le_trans (by decide) h'.1, Int.le_trans h'.2 (by decide)⟩
theorem enc_at (k : Int) (s t : List UInt8) (h : encL k s = t) (hs : s.length ≤ 100000) (w : World) :
    Calls Try.prog 8 #[.int .i64 k, .string (B s)] w fun e w' => e = .returned (.string (B t)) ∧ Below w.heap.size w w' := by rw [← h]; exact enc_c k s w hs
set_option maxRecDepth 100000 in
set_option maxHeartbeats 2000000 in
theorem awake21_any (w : World) : Calls Try.prog 7 #[] w fun e w' => e = .returned (.bool true) ∧ Below w.heap.size w w' := by
  have F1 : ∀ W, Calls Try.prog 8 #[.int .i64 0, .string ⟨#[97, 60, 98]⟩] W fun e w' => e = .returned (.string ⟨#[97, 38, 108, 116, 59, 98]⟩) ∧ Below W.heap.size W w' := fun W => enc_at 0 [97, 60, 98] [97, 38, 108, 116, 59, 98] (by decide) (by decide) W
  have F2 : ∀ W, Calls Try.prog 8 #[.int .i64 2, .string ⟨#[10, 97]⟩] W fun e w' => e = .returned (.string ⟨#[10, 10, 97]⟩) ∧ Below W.heap.size W w' := fun W => enc_at 2 [10, 97] [10, 10, 97] (by decide) (by decide) W
  have F3 : ∀ W, Calls Try.prog 8 #[.int .i64 1, .string ⟨#[10, 97]⟩] W fun e w' => e = .returned (.string ⟨#[10, 97]⟩) ∧ Below W.heap.size W w' := fun W => enc_at 1 [10, 97] [10, 97] (by decide) (by decide) W
  have G1 := Lib.hid F1
  have G2 := Lib.hid F2
  have G3 := Lib.hid F3
  clear F1 F2 F3
  go_enter Try.func7, Try.ntmps7
  go_wp2_with fail
  refine (G1.out _).mono ?_
  rintro e w1 ⟨rfl, hb1⟩
  have HB1 := Lib.hid hb1
  clear hb1
  go_wp2_with fail
  refine (G2.out _).mono ?_
  rintro e w2 ⟨rfl, hb2⟩
  have HB2 := Lib.hid (HB1.out.trans (hb2.mono HB1.out.size))
  clear hb2 HB1
  go_wp2_with fail
  refine (G3.out _).mono ?_
  rintro e w3 ⟨rfl, hb3⟩
  have HB3 := Lib.hid (HB2.out.trans (hb3.mono HB2.out.size))
  clear hb3 HB2
  go_wp2_with fail
  go_ret
  exact ⟨rfl, HB3.out⟩
theorem Below.next {B : Nat} {a b c : World} (h : Below B a b) (hB : B ≤ b.heap.size) (k : Below b.heap.size b c) : Below B a c := h.trans (k.mono hB)
theorem Drawn0.below' {w w' : World} (h : Go.Proofs.YtajfpegacbohdaaW.PrintWords.Drawn0 w w') : Below w.heap.size w w' := h.below
set_option maxRecDepth 100000 in
set_option maxHeartbeats 2000000 in
theorem EscapeTells_law (k : Int) (a1 : ByteArray) (w : World) (_hk : (Lit.int .i64 k).wf = true) (h0 : a1.size ≤ 140737488351232) :
    Calls Try.prog 3 #[.int .i64 k, .string a1] w fun e w' => e = .returned (.bool true) ∧ Below w.heap.size w w' := by
  clear _hk
  by_cases hb : 300 < a1.size
  · have q : decide ((300 : Int) < (a1.size : Int)) = true := by simp; omega
    clear hb
    go_enter Try.func3, Try.ntmps3
    go_wp2_with fail
    refine (awake21_any _).mono ?_
    rintro e w1 ⟨rfl, hb⟩
    go_wp2_with fail
    go_ret
    exact ⟨rfl, hb⟩
  · obtain ⟨s, rfl⟩ := exists_B a1
    rw [size_B] at hb
    have G1 := Lib.hid (fun W => enc_c k s W (by omega))
    have F2 : ∀ W, Calls Try.prog 9 #[.int .i64 k, .string (B s)] W fun e w' => e = .returned (.string (B (encL k s))) ∧ Below W.heap.size W w' := by
      intro W
      obtain ⟨n, hn⟩ := (Pure.refEnc k s (by omega)).rounds
      refine (Se.flailref21_Encode.calls n _ _ _ W hn).mono ?_
      rintro e w' ⟨h1, h2⟩
      exact ⟨h1, h2.below⟩
    have G2 := Lib.hid F2
    have z : (B s).size ≤ 300 := by simpa using hb
    obtain ⟨a, ha⟩ : ∃ a, B s = a := ⟨_, rfl⟩
    obtain ⟨R, hR⟩ : ∃ R, B (encL k s) = R := ⟨_, rfl⟩
    rw [ha, hR] at G1 G2
    rw [ha] at z ⊢
    have q : decide ((300 : Int) < (a.size : Int)) = false := by simp; omega
    clear ha hR F2 hb h0
    go_enter Try.func3, Try.ntmps3
    go_wp2_with fail
    refine (awake21_any _).mono ?_
    rintro e w1 ⟨rfl, hb⟩
    have HB := Lib.hid hb
    clear hb
    go_wp2_with fail
    refine (G1.out _).mono ?_
    rintro e w2 ⟨rfl, hb⟩
    replace HB := Lib.hid (Below.next HB.out HB.out.size hb)
    clear hb
    go_wp2_with fail
    refine (G2.out _).mono ?_
    rintro e w3 ⟨rfl, hb⟩
    replace HB := Lib.hid (Below.next HB.out HB.out.size hb)
    clear hb
    go_wp2_with fail
    go_ret
    exact ⟨rfl, HB.out⟩
theorem scan_byte {o : Bool} {c : UInt8} {r : List UInt8} (h : scanE o (c :: r) = true) : c ≠ 60 ∧ c ≠ 62 ∧ c ≠ 34 ∧ c ≠ 39 ∧ c ≠ 0 ∧ c ≠ 13 ∧ (c = 38 → o = false ∧ scanE true r = true) ∧ (c ≠ 38 → c = 59 → scanE false r = true) ∧ (c ≠ 38 → c ≠ 59 → scanE o r = true) := by
  rw [scanE] at h
  by_cases hs : c = 60 ∨ c = 62 ∨ c = 34 ∨ c = 39 ∨ c = 0 ∨ c = 13
  · rw [if_pos hs] at h; cases h
  · rw [if_neg hs] at h
    simp only [not_or] at hs
    refine ⟨hs.1, hs.2.1, hs.2.2.1, hs.2.2.2.1, hs.2.2.2.2.1, hs.2.2.2.2.2, ?_, ?_, ?_⟩
    · intro e; rw [if_pos e] at h; simpa using h
    · intro e1 e2; rw [if_neg e1, if_pos e2] at h; exact h
    · intro e1 e2; rw [if_neg e1, if_neg e2] at h; exact h
theorem bne_ (n : Int) {c m : UInt8} (h : c ≠ m) (hm : (m.toNat : Int) = n := by rfl) : (((c.toNat : Int)) == n) = false := by
  rw [beq_eq_false_iff_ne]
  intro e
  apply h
  apply UInt8.toNat_inj.1
  omega
set_option maxRecDepth 100000 in
set_option maxHeartbeats 4000000 in
theorem EscapePlain_law (d : Int) (a1 : ByteArray) (w : World) (hk : (Lit.int .u8 d).wf = true) (h0 : a1.size ≤ 140737488351232) :
    Calls Try.prog 4 #[.int .u8 d, .string a1] w fun e w' => e = .returned (.bool true) ∧ Below w.heap.size w w' := by
  by_cases hb : 300 < a1.size
  · have q : decide ((300 : Int) < (a1.size : Int)) = true := by simp; omega
    clear hb hk
    go_enter Try.func4, Try.ntmps4
    go_wp2_with fail
    refine (awake21_any _).mono ?_
    rintro e w1 ⟨rfl, hb⟩
    go_wp2_with fail
    go_ret
    exact ⟨rfl, hb⟩
  · obtain ⟨s, rfl⟩ := exists_B a1
    rw [size_B] at hb
    have hd : 0 ≤ d ∧ d ≤ 255 := u8_wf hk
    obtain ⟨hd0, hd1⟩ := hd
    have G1 := Lib.hid (fun k W => enc_c k s W (by omega))
    have z : (B s).size ≤ 300 := by simpa using hb
    obtain ⟨a, ha⟩ : ∃ a, B s = a := ⟨_, rfl⟩
    rw [ha] at G1 z ⊢
    have q : decide ((300 : Int) < (a.size : Int)) = false := by simp; omega
    have hsz : s.length = a.size := by rw [← ha]; simp
    have HS := Lib.hid hsz
    clear ha hb h0 hk hsz
    go_enter Try.func4, Try.ntmps4
    go_wp2_with fail
    refine (awake21_any _).mono ?_
    rintro e w1 ⟨rfl, hb⟩
    have HB := Lib.hid hb
    clear hb
    go_wp2_with fail
    refine (G1.out _ _).mono ?_
    rintro e w2 ⟨rfl, hb⟩
    replace HB := Lib.hid (Below.next HB.out HB.out.size hb)
    clear hb G1
    have hsc := scan_enc (d % 3) s
    have hle := enc_length (d % 3) s
    rw [HS.out] at hle
    obtain ⟨T, hT⟩ : ∃ T, B (encL (d % 3) s) = T := ⟨_, rfl⟩
    have hTs : T.size ≤ 6 * a.size := by rw [← hT, size_B]; exact hle
    have hTd : T.data.toList = encL (d % 3) s := by rw [← hT, B_data]
    rw [← hTd] at hsc
    rw [hT]
    have HSC := Lib.hid hsc
    clear hsc hle hT hTd
    go_wp2_with fail
    go_loop [7, 8] (fun o i => ∃ (b : Bool) (k : Nat), o = .bool b ∧ i = .int .i64 (k : Int) ∧ k ≤ T.size ∧ Hid (scanE b (T.data.toList.drop k) = true)) (fun _ i => T.size - (intOf i).toNat)
    case atStart => exact ⟨false, 0, rfl, rfl, Nat.zero_le _, HSC⟩
    case round =>
      obtain ⟨b, k, rfl, rfl, hk, hS⟩ := hrel
      by_cases hlt : k < T.size
      · have hd := drop_cons T k hlt
        have h := hS.out
        rw [hd] at h
        obtain ⟨n1, n2, n3, n4, n5, n6, n7, n8, n9⟩ := scan_byte h
        have b1 := bne_ 60 n1
        have b2 := bne_ 62 n2
        have b3 := bne_ 34 n3
        have b4 := bne_ 39 n4
        have b5 := bne_ 0 n5
        have b6 := bne_ 13 n6
        by_cases h38 : T[k] = 38
        · have b7 : (((T[k].toNat : Int)) == 38) = true := by rw [h38]; rfl
          obtain ⟨rfl, hn⟩ := n7 h38
          have HN := Lib.hid hn
          clear hd h n1 n2 n3 n4 n5 n6 n7 n8 n9 h38 hn hS
          go_wp2_with fail
          go_round
          case rel => exact ⟨true, k + 1, rfl, by go_num, by omega, HN⟩
          case measure => simp [intOf]; omega
        · have b7 := bne_ 38 h38
          by_cases h59 : T[k] = 59
          · have b8 : (((T[k].toNat : Int)) == 59) = true := by rw [h59]; rfl
            have HN := Lib.hid (n8 h38 h59)
            clear hd h n1 n2 n3 n4 n5 n6 n7 n8 n9 h38 h59 hS
            go_wp2_with fail
            go_round
            case rel => exact ⟨false, k + 1, rfl, by go_num, by omega, HN⟩
            case measure => simp [intOf]; omega
          · have b8 := bne_ 59 h59
            have HN := Lib.hid (n9 h38 h59)
            clear hd h n1 n2 n3 n4 n5 n6 n7 n8 n9 h38 h59 hS
            go_wp2_with fail
            go_round
            case rel => exact ⟨b, k + 1, rfl, by go_num, by omega, HN⟩
            case measure => simp [intOf]; omega
      · have hb : b = false := by
          have h := hS.out
          rw [List.drop_eq_nil_of_le (by rw [Array.length_toList]; show T.size ≤ k; omega)] at h
          simpa [scanE] using h
        subst hb
        have e1 : decide ((T.size : Int) ≤ 6 * (a.size : Int)) = true := by simp; omega
        clear hS
        go_wp2_with fail
        go_ret
        exact ⟨rfl, HB.out⟩
end Go.Proofs.Ytajfpegacbohdaa.Hand
