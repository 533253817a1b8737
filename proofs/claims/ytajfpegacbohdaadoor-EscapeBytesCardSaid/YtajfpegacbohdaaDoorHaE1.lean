/-
  Walks of laws: flaillaw21.awake, EscapeTells, EscapePlain.
-/
import Derived.Test.YtajfpegacbohdaaDoorHaEs
import Derived.Test.YtajfpegacbohdaaDoorHaL
namespace Go.Proofs.YtajfpegacbohdaaDoor.Hand
open Go.RowKit Go.Proofs.YtajfpegacbohdaaDoor.Pb Go.Proofs.YtajfpegacbohdaaDoor.Pl

theorem u8_wf {d : Int} (h : (Lit.int .u8 d).wf = true) : 0 ≤ d ∧ d ≤ 255 := by
  have h' : IntKind.u8.min ≤ d ∧ d ≤ IntKind.u8.max := by simpa [Lit.wf] using h
  exact ⟨Int.le_trans (by decide) h'.1, Int.le_trans h'.2 (by decide)⟩
theorem enc_at (k : Int) (s t : List UInt8) (h : encL k s = t) (hs : s.length ≤ 100000) (w : World) :
    Calls Tryd.prog 12 #[.int .i64 k, .string (B s)] w fun e w' => e = .returned (.string (B t)) ∧ Below w.heap.size w w' := by rw [← h]; exact enc_c k s w hs
set_option maxRecDepth 100000 in
set_option maxHeartbeats 2000000 in
theorem awake21_any (w : World) : Calls Tryd.prog 10 #[] w fun e w' => e = .returned (.bool true) ∧ Below w.heap.size w w' := by
  have F1 : ∀ W, Calls Tryd.prog 12 #[.int .i64 0, .string ⟨#[97, 60, 98]⟩] W fun e w' => e = .returned (.string ⟨#[97, 38, 108, 116, 59, 98]⟩) ∧ Below W.heap.size W w' := fun W => enc_at 0 [97, 60, 98] [97, 38, 108, 116, 59, 98] (by decide) (by decide) W
  have F2 : ∀ W, Calls Tryd.prog 12 #[.int .i64 2, .string ⟨#[10, 97]⟩] W fun e w' => e = .returned (.string ⟨#[10, 10, 97]⟩) ∧ Below W.heap.size W w' := fun W => enc_at 2 [10, 97] [10, 10, 97] (by decide) (by decide) W
  have F3 : ∀ W, Calls Tryd.prog 12 #[.int .i64 1, .string ⟨#[10, 97]⟩] W fun e w' => e = .returned (.string ⟨#[10, 97]⟩) ∧ Below W.heap.size W w' := fun W => enc_at 1 [10, 97] [10, 97] (by decide) (by decide) W
  have G1 := Lib.hid F1
  have G2 := Lib.hid F2
  have G3 := Lib.hid F3
  clear F1 F2 F3
  go_enter Tryd.func10, Tryd.ntmps10
  go_wp2_with fail
  refine (G1.out _).mono ?_
  rintro e w1 ⟨rfl, hb1⟩
  have HB1 := Lib.hid hb1
  clear hb1
  go_wp2_with fail
  refine (G2.out _).mono ?_
  rintro e w2 ⟨rfl, hb2⟩
  have HB2 := Lib.hid (HB1.out.trans (hb2.mono HB1.out.size))
  clear hb2 HB1
  go_wp2_with fail
  refine (G3.out _).mono ?_
  rintro e w3 ⟨rfl, hb3⟩
  have HB3 := Lib.hid (HB2.out.trans (hb3.mono HB2.out.size))
  clear hb3 HB2
  go_wp2_with fail
  go_ret
  exact ⟨rfl, HB3.out⟩
theorem Below.next {B : Nat} {a b c : World} (h : Below B a b) (hB : B ≤ b.heap.size) (k : Below b.heap.size b c) : Below B a c := h.trans (k.mono hB)
end Go.Proofs.YtajfpegacbohdaaDoor.Hand
