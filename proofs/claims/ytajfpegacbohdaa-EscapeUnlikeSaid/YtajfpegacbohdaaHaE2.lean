/-
  Walks of laws: EscapeJoins, EscapeUnlike.
-/
import Derived.Test.YtajfpegacbohdaaHaE1
import Derived.Test.YtajfpegacbohdaaHaU
import Derived.Test.YtajfpegacbohdaaPlE2
namespace Go.Proofs.Ytajfpegacbohdaa.Hand
open Go.RowKit Go.Proofs.Ytajfpegacbohdaa.Pb Go.Proofs.Ytajfpegacbohdaa.Pl

theorem B_app_ (a b : List UInt8) : B (a ++ b) = B a ++ B b := by
  apply ByteArray.ext; simp [B]
theorem right_at {s : List UInt8} {b : Bool} (h : rightL s = b) (w : World) :
    Calls Try.prog 10 #[.string (B s)] w fun e w' => e = .returned (.bool b) ∧ Below w.heap.size w w' := by rw [← h]; exact right_c s w
theorem enc_nil (k : Int) (w : World) : Calls Try.prog 8 #[.int .i64 k, .string ⟨#[]⟩] w fun e w' => e = .returned (.string ⟨#[]⟩) ∧ Below w.heap.size w w' :=
  enc_at k [] [] (by unfold encL; split <;> simp [escL_nil]) (by decide) w
set_option maxRecDepth 100000 in
set_option maxHeartbeats 4000000 in
theorem EscapeJoins_law (d : Int) (a1 a2 : ByteArray) (w : World) (hk : (Lit.int .u8 d).wf = true) (h0 : a1.size ≤ 140737488351232) (h1 : a2.size ≤ 140737488351232) :
    Calls Try.prog 5 #[.int .u8 d, .string a1, .string a2] w fun e w' => e = .returned (.bool true) ∧ Below w.heap.size w w' := by
  have hd : 0 ≤ d ∧ d ≤ 255 := u8_wf hk
  obtain ⟨hd0, hd1⟩ := hd
  have G0 := Lib.hid (fun k W => enc_nil k W)
  have AW := Lib.hid (fun W => awake21_any W)
  clear hk
  by_cases c1 : 300 < a1.size
  · have q1 : decide ((300 : Int) < (a1.size : Int)) = true := by simp; omega
    clear c1
    go_enter Try.func5, Try.ntmps5
    go_wp2_with fail
    refine (AW.out _).mono ?_
    rintro e w1 ⟨rfl, hb⟩
    have HB := Lib.hid hb
    clear hb
    go_wp2_with fail
    refine (G0.out _ _).mono ?_
    rintro e w2 ⟨rfl, hb⟩
    replace HB := Lib.hid (Below.next HB.out HB.out.size hb)
    clear hb
    go_wp2_with fail
    go_ret
    exact ⟨rfl, HB.out⟩
  have q1 : decide ((300 : Int) < (a1.size : Int)) = false := by simp; omega
  by_cases c2 : 300 < a2.size
  · have q2 : decide ((300 : Int) < (a2.size : Int)) = true := by simp; omega
    clear c1 c2
    go_enter Try.func5, Try.ntmps5
    go_wp2_with fail
    refine (AW.out _).mono ?_
    rintro e w1 ⟨rfl, hb⟩
    have HB := Lib.hid hb
    clear hb
    go_wp2_with fail
    refine (G0.out _ _).mono ?_
    rintro e w2 ⟨rfl, hb⟩
    replace HB := Lib.hid (Below.next HB.out HB.out.size hb)
    clear hb
    go_wp2_with fail
    go_ret
    exact ⟨rfl, HB.out⟩
  have q2 : decide ((300 : Int) < (a2.size : Int)) = false := by simp; omega
  by_cases c3 : a1 = ⟨#[]⟩
  · subst c3
    clear c1 c2
    go_enter Try.func5, Try.ntmps5
    go_wp2_with fail
    refine (AW.out _).mono ?_
    rintro e w1 ⟨rfl, hb⟩
    have HB := Lib.hid hb
    clear hb
    go_wp2_with fail
    refine (G0.out _ _).mono ?_
    rintro e w2 ⟨rfl, hb⟩
    replace HB := Lib.hid (Below.next HB.out HB.out.size hb)
    clear hb
    go_wp2_with fail
    go_ret
    exact ⟨rfl, HB.out⟩
  obtain ⟨s, rfl⟩ := exists_B a1
  obtain ⟨t, rfl⟩ := exists_B a2
  have hs : s.length ≤ 300 := by rw [size_B] at c1; omega
  have ht : t.length ≤ 300 := by rw [size_B] at c2; omega
  have hne : s ≠ [] := by rintro rfl; exact c3 rfl
  have q3 : ((B s).toList == []) = false := by rw [toList_B, beq_eq_false_iff_ne]; exact hne
  clear c1 c2 c3
  cases r1 : rightL s with
  | false =>
    have R1 := Lib.hid (fun W => right_at r1 W)
    obtain ⟨a, ha⟩ : ∃ a, B s = a := ⟨_, rfl⟩
    rw [ha] at q1 q3 R1 h0 ⊢
    clear ha hne r1
    go_enter Try.func5, Try.ntmps5
    go_wp2_with fail
    refine (AW.out _).mono ?_
    rintro e w1 ⟨rfl, hb⟩
    have HB := Lib.hid hb
    clear hb
    go_wp2_with fail
    refine (R1.out _).mono ?_
    rintro e w2 ⟨rfl, hb⟩
    replace HB := Lib.hid (Below.next HB.out HB.out.size hb)
    clear hb
    go_wp2_with fail
    refine (G0.out _ _).mono ?_
    rintro e w2 ⟨rfl, hb⟩
    replace HB := Lib.hid (Below.next HB.out HB.out.size hb)
    clear hb
    go_wp2_with fail
    go_ret
    exact ⟨rfl, HB.out⟩
  | true =>
    have R1 := Lib.hid (fun W => right_at r1 W)
    cases r2 : rightL t with
    | false =>
      have R2 := Lib.hid (fun W => right_at r2 W)
      obtain ⟨a, ha⟩ : ∃ a, B s = a := ⟨_, rfl⟩
      obtain ⟨b, hb⟩ : ∃ b, B t = b := ⟨_, rfl⟩
      rw [ha] at q1 q3 R1 h0 ⊢
      rw [hb] at q2 R2 h1 ⊢
      clear ha hb hne r1 r2
      go_enter Try.func5, Try.ntmps5
      go_wp2_with fail
      refine (AW.out _).mono ?_
      rintro e w1 ⟨rfl, hb⟩
      have HB := Lib.hid hb
      clear hb
      go_wp2_with fail
      refine (R1.out _).mono ?_
      rintro e w2 ⟨rfl, hb⟩
      replace HB := Lib.hid (Below.next HB.out HB.out.size hb)
      clear hb
      go_wp2_with fail
      refine (R2.out _).mono ?_
      rintro e w2 ⟨rfl, hb⟩
      replace HB := Lib.hid (Below.next HB.out HB.out.size hb)
      clear hb
      go_wp2_with fail
      refine (G0.out _ _).mono ?_
      rintro e w2 ⟨rfl, hb⟩
      replace HB := Lib.hid (Below.next HB.out HB.out.size hb)
      clear hb
      go_wp2_with fail
      go_ret
      exact ⟨rfl, HB.out⟩
    | true =>
      have R2 := Lib.hid (fun W => right_at r2 W)
      have E1 := Lib.hid (fun W => enc_c (d % 3) s W (by omega))
      have E2 := Lib.hid (fun W => enc_c 0 t W (by omega))
      have E3 := Lib.hid (fun W => enc_at (d % 3) (s ++ t) _ (enc_append (d % 3) t (by omega) r1 hne) (by rw [List.length_append]; omega) W)
      rw [B_app_, B_app_] at E3
      obtain ⟨ra, hra⟩ : ∃ a, B (encL (d % 3) s) = a := ⟨_, rfl⟩
      obtain ⟨rb, hrb⟩ : ∃ a, B (encL 0 t) = a := ⟨_, rfl⟩
      have za : ra.size ≤ 1800 := by rw [← hra, size_B]; have := enc_length (d % 3) s; omega
      have zb : rb.size ≤ 1800 := by rw [← hrb, size_B]; have := enc_length 0 t; omega
      rw [hra] at E1 E3
      rw [hrb] at E2 E3
      obtain ⟨a, ha⟩ : ∃ a, B s = a := ⟨_, rfl⟩
      obtain ⟨b, hb⟩ : ∃ b, B t = b := ⟨_, rfl⟩
      rw [ha] at q1 q3 R1 h0 E1 E3 ⊢
      rw [hb] at q2 R2 h1 E2 E3 ⊢
      clear ha hb hne r1 r2 hra hrb
      go_enter Try.func5, Try.ntmps5
      go_wp2_with fail
      refine (AW.out _).mono ?_
      rintro e w1 ⟨rfl, hb⟩
      have HB := Lib.hid hb
      clear hb
      go_wp2_with fail
      refine (R1.out _).mono ?_
      rintro e w2 ⟨rfl, hb⟩
      replace HB := Lib.hid (Below.next HB.out HB.out.size hb)
      clear hb
      go_wp2_with fail
      refine (R2.out _).mono ?_
      rintro e w2 ⟨rfl, hb⟩
      replace HB := Lib.hid (Below.next HB.out HB.out.size hb)
      clear hb
      go_wp2_with fail
      refine (E3.out _).mono ?_
      rintro e w2 ⟨rfl, hb⟩
      replace HB := Lib.hid (Below.next HB.out HB.out.size hb)
      clear hb
      go_wp2_with fail
      refine (E1.out _).mono ?_
      rintro e w2 ⟨rfl, hb⟩
      replace HB := Lib.hid (Below.next HB.out HB.out.size hb)
      clear hb
      go_wp2_with fail
      refine (E2.out _).mono ?_
      rintro e w2 ⟨rfl, hb⟩
      replace HB := Lib.hid (Below.next HB.out HB.out.size hb)
      clear hb
      go_wp2_with fail
      go_ret
      exact ⟨rfl, HB.out⟩
end Go.Proofs.Ytajfpegacbohdaa.Hand
