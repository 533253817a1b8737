/-
  Walk of a law: EscapeBytes.
-/
import Derived.Test.YtajfpegacbohdaaDoorHaE1
import Derived.Test.YtajfpegacbohdaaDoorHaU3
namespace Go.Proofs.YtajfpegacbohdaaDoor.Hand
open Go.RowKit Go.Proofs.YtajfpegacbohdaaDoor.Pb Go.Proofs.YtajfpegacbohdaaDoor.Pl

theorem right_at_ {s : List UInt8} {b : Bool} (h : rightL s = b) (w : World) :
    Calls Tryd.prog 11 #[.string (B s)] w fun e w' => e = .returned (.bool b) ∧ Below w.heap.size w w' := by rw [← h]; exact right_c s w
/-- bytes laid anew, and read as signs -/
theorem conv_dec (t : List UInt8) (hz : t.length ≤ 100000) (W : World) : ∃ v W', (convert 9 33 (.string (B t))).run Tryd.prog W = .ok v W' ∧ Below W.heap.size W W' ∧
    Calls Tryd.prog 13 #[v] W' fun e w' => e = .returned (.string (B (decL (trimL t)))) ∧ Below W'.heap.size W' w' := by
  have hconv := Lib.run_convert_string_bytes (P := Tryd.prog) W 9 33 5 (B t) Tryd.underlying9 Tryd.underlying33 Tryd.underlying5
  refine ⟨_, _, hconv, below_bytesWorld W 5 (B t), ?_⟩
  rw [size_B]
  refine decode_at t W.heap.size _ _ hz fun j hj => ?_
  rw [Lib.bytesWorld_cell W 5 (B t) j (by rw [size_B]; exact hj), B_data]
set_option maxRecDepth 100000 in
set_option maxHeartbeats 4000000 in
theorem EscapeBytes_law (d : Int) (a1 : ByteArray) (w : World) (hk : (Lit.int .u8 d).wf = true) (h0 : a1.size ≤ 140737488351232) (hGl : Glob w) :
    Calls Tryd.prog 5 #[.int .u8 d, .string a1] w fun e w' => e = .returned (.bool true) ∧ Below w.heap.size w w' := by
  have hd : 0 ≤ d ∧ d ≤ 255 := u8_wf hk
  obtain ⟨hd0, hd1⟩ := hd
  have AW := Lib.hid (fun W => awake21_any W)
  have HGl := Lib.hid hGl
  clear hk hGl
  by_cases c1 : 300 < a1.size
  · have q1 : decide ((300 : Int) < (a1.size : Int)) = true := by simp; omega
    clear c1
    go_enter Tryd.func5, Tryd.ntmps5
    go_wp2_with fail
    refine (AW.out _).mono ?_
    rintro e w1 ⟨rfl, hb⟩
    have HB := Lib.hid hb
    clear hb
    go_wp2_with fail
    go_ret
    exact ⟨rfl, HB.out⟩
  have q1 : decide ((300 : Int) < (a1.size : Int)) = false := by simp; omega
  obtain ⟨s, rfl⟩ := exists_B a1
  have hs : s.length ≤ 300 := by rw [size_B] at c1; omega
  clear c1
  cases r1 : rightL s with
  | false =>
    have R1 := Lib.hid (fun W => right_at_ r1 W)
    obtain ⟨a, ha⟩ : ∃ a, B s = a := ⟨_, rfl⟩
    rw [ha] at q1 R1 h0 ⊢
    clear ha r1
    go_enter Tryd.func5, Tryd.ntmps5
    go_wp2_with fail
    refine (AW.out _).mono ?_
    rintro e w1 ⟨rfl, hb⟩
    have HB := Lib.hid hb
    clear hb
    go_wp2_with fail
    refine (R1.out _).mono ?_
    rintro e w2 ⟨rfl, hb⟩
    replace HB := Lib.hid (Below.next HB.out HB.out.size hb)
    clear hb
    go_wp2_with fail
    go_ret
    exact ⟨rfl, HB.out⟩
  | true =>
    have R1 := Lib.hid (fun W => right_at_ r1 W)
    have E1 := Lib.hid (fun W => enc_c (d % 3) s W (by omega))
    have R2 := Lib.hid (fun W => right_at_ (right_enc (d % 3) r1) W)
    have zl := enc_length (d % 3) s
    have V := fun W => conv_dec (encL (d % 3) s) (by omega) W
    rw [dec_enc (d % 3) r1] at V
    have NR : ∀ W, Calls Tryd.prog 14 #[.string (B (encL (d % 3) s))] W fun e w' => e = .returned (.string (B (encL (d % 3) s))) ∧ Below W.heap.size W w' := fun W => by
      have := norm_any (B (encL (d % 3) s)) W (by rw [size_B]; omega)
      rw [B_data, norm_enc] at this
      exact this
    have CR : ∀ W, Glob W → Calls Tryd.prog 15 #[.string (B (encL (d % 3) s))] W fun e w' => e = .returned (.string (B (encL (d % 3) s))) ∧ Below W.heap.size W w' := fun W hG => by
      have := clean_any (B (encL (d % 3) s)) W (by rw [size_B]; omega) hG
      unfold cleanBA at this
      rw [B_data, clean_enc] at this
      exact this
    have zr : (B (encL (d % 3) s)).size ≤ 1800 := by rw [size_B]; omega
    have HV := Lib.hid V
    have HN := Lib.hid NR
    have HC := Lib.hid CR
    obtain ⟨r, hr⟩ : ∃ a, B (encL (d % 3) s) = a := ⟨_, rfl⟩
    obtain ⟨a, ha⟩ : ∃ a, B s = a := ⟨_, rfl⟩
    rw [hr] at E1 R2 HV HN HC zr
    rw [ha] at q1 R1 h0 E1 ⊢
    clear ha r1 hr V NR CR zl hs
    go_enter Tryd.func5, Tryd.ntmps5
    go_wp2_with fail
    refine (AW.out _).mono ?_
    rintro e w1 ⟨rfl, hb⟩
    have HB := Lib.hid hb
    clear hb
    go_wp2_with fail
    refine (R1.out _).mono ?_
    rintro e w2 ⟨rfl, hb⟩
    replace HB := Lib.hid (Below.next HB.out HB.out.size hb)
    clear hb
    go_wp2_with fail
    refine (E1.out _).mono ?_
    rintro e w2 ⟨rfl, hb⟩
    replace HB := Lib.hid (Below.next HB.out HB.out.size hb)
    clear hb
    go_wp2_with fail
    refine (R2.out _).mono ?_
    rintro e w3 ⟨rfl, hb⟩
    replace HB := Lib.hid (Below.next HB.out HB.out.size hb)
    clear hb
    obtain ⟨v, w4, hv, hb, D⟩ := HV.out w3
    have HB4 := Lib.hid (Below.next HB.out HB.out.size hb)
    have HD := Lib.hid D
    clear hb D
    go_wp2_with fail
    refine HD.out.mono ?_
    rintro e w5 ⟨rfl, hb⟩
    replace HB := Lib.hid (Below.next HB4.out HB4.out.size hb)
    clear hb hv HD HB4
    go_wp2_with fail
    refine (HN.out _).mono ?_
    rintro e w6 ⟨rfl, hb⟩
    replace HB := Lib.hid (Below.next HB.out HB.out.size hb)
    clear hb
    go_wp2_with fail
    refine (HC.out _ (HGl.out.step HB.out)).mono ?_
    rintro e w6 ⟨rfl, hb⟩
    replace HB := Lib.hid (Below.next HB.out HB.out.size hb)
    clear hb
    go_wp2_with fail
    go_ret
    exact ⟨rfl, HB.out⟩
end Go.Proofs.YtajfpegacbohdaaDoor.Hand
