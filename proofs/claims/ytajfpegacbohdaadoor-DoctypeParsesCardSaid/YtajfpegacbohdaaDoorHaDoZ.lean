/-
  Walk of a law: flaillaw11.DoctypeParses.
-/
import Derived.Test.YtajfpegacbohdaaDoorHaDoX
import Derived.Test.YtajfpegacbohdaaDoorHaDo4
namespace Go.Proofs.YtajfpegacbohdaaDoor.Hand
open Go.RowKit Go.Proofs.YtajfpegacbohdaaDoor.K0 Go.Proofs.YtajfpegacbohdaaDoor.Pl Go.Proofs.YtajfpegacbohdaaDoor.Pb Go.Proofs.YtajfpegacbohdaaDoor.Sa Go.Proofs.YtajfpegacbohdaaDoor.Pure Go.Proofs.YtajfpegacbohdaaDoorW.PrintWords Go.Proofs.YtajfpegacbohdaaDoorW.PrintLast Go.Proofs.YtajfpegacbohdaaDoorW.PrintMore

set_option maxRecDepth 100000 in
set_option maxHeartbeats 8000000 in
theorem dparses_small (s : List UInt8) (en : Bool) (w : World) (hGl : Glob w) (h0 : s.length ≤ 300) :
    Calls Tryd.prog 3 #[.string (B s), .bool en] w fun e w' => e = .returned (.bool true) ∧ Below w.heap.size w w' := by
  have hu42 := Tryd.underlying24
  have hu43 := Tryd.underlying26
  have F1 := fun W hG => parse_c s en _ rfl (by omega) W hG
  have F2 := fun W hG => rparse_any s en W hG (by omega)
  obtain ⟨R, hR⟩ : ∃ R, parseD s en = R := ⟨_, rfl⟩
  rw [hR] at F1 F2
  clear hR
  obtain ⟨n, p, y, f1, f2, f3, f4⟩ := R
  have G1 : Hid (∀ W, Glob W → Calls Tryd.prog 7 #[.string (B s), .bool en] W fun e w' => e = .returned (.agg #[.string (B n), .string (B p), .string (B y), .bool f1, .bool f2, .bool f3, .bool f4]) ∧ Below W.heap.size W w') := Lib.hid F1
  have G2 : Hid (∀ W, Glob W → Calls Tryd.prog 8 #[.string (B s), .bool en] W fun e w' => e = .returned (.agg #[.string (B n), .string (B p), .string (B y), .bool f1, .bool f2, .bool f3, .bool f4]) ∧ Below W.heap.size W w') := Lib.hid F2
  have zs : (B s).size ≤ 300 := by simpa using h0
  obtain ⟨a, ha⟩ : ∃ x, B s = x := ⟨_, rfl⟩
  obtain ⟨bn, hbn⟩ : ∃ x, B n = x := ⟨_, rfl⟩
  obtain ⟨bp, hbp⟩ : ∃ x, B p = x := ⟨_, rfl⟩
  obtain ⟨by', hby⟩ : ∃ x, B y = x := ⟨_, rfl⟩
  rw [ha, hbn, hbp, hby] at G1 G2
  rw [ha] at zs ⊢
  clear ha hbn hbp hby h0 F1 F2
  have q : decide ((300 : Int) < (a.size : Int)) = false := by simp; omega
  go_enter Tryd.func3, Tryd.ntmps3
  go_wp2_with fail
  refine (awake11_any _ hGl).mono ?_
  rintro e w1 ⟨rfl, hb⟩
  have HL := Lib.hid ((Live.start hGl).call hb)
  clear hb hGl
  go_wp2_with fail
  refine (G1.out _ HL.out.glob).mono ?_
  rintro e w2 ⟨rfl, hb⟩
  replace HL := Lib.hid (HL.out.call hb)
  clear hb G1
  go_wp2_with fail
  refine (G2.out _ HL.out.glob).mono ?_
  rintro e w3 ⟨rfl, hb⟩
  replace HL := Lib.hid (HL.out.call hb)
  clear hb G2
  go_wp2_with fail
  go_ret
  exact ⟨rfl, HL.out.below⟩
theorem DoctypeParses_law (a0 : ByteArray) (en : Bool) (w : World) (h0 : a0.size ≤ 140737488351232) (hGl : Glob w) :
    Calls Tryd.prog 3 #[.string a0, .bool en] w fun e w' => e = .returned (.bool true) ∧ Below w.heap.size w w' := by
  by_cases hb : 300 < a0.size
  · have q : decide ((300 : Int) < (a0.size : Int)) = true := by simp; omega
    clear hb
    go_enter Tryd.func3, Tryd.ntmps3
    go_wp2_with fail
    refine (awake11_any _ hGl).mono ?_
    rintro e w1 ⟨rfl, hb⟩
    go_wp2_with fail
    go_ret
    exact ⟨rfl, hb⟩
  · obtain ⟨s, rfl⟩ := exists_B a0
    rw [size_B] at hb
    exact dparses_small s en w hGl (by omega)
end Go.Proofs.YtajfpegacbohdaaDoor.Hand
