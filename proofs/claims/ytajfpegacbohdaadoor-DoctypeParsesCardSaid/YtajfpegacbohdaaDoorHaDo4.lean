/-
  Hand walk: flaillaw11.awake.
-/
import Derived.Test.YtajfpegacbohdaaDoorHaDo3
namespace Go.Proofs.YtajfpegacbohdaaDoor.Hand
open Go.RowKit Go.Proofs.YtajfpegacbohdaaDoor.K0 Go.Proofs.YtajfpegacbohdaaDoor.Pl Go.Proofs.YtajfpegacbohdaaDoor.Pb Go.Proofs.YtajfpegacbohdaaDoor.Sa Go.Proofs.YtajfpegacbohdaaDoor.Pure Go.Proofs.YtajfpegacbohdaaDoorW.PrintWords Go.Proofs.YtajfpegacbohdaaDoorW.PrintLast Go.Proofs.YtajfpegacbohdaaDoorW.PrintMore

theorem parse_c (raw : List UInt8) (en : Bool) (R : DocR) (h : parseD raw en = R) (hs : raw.length ≤ 1000000) (W : World) (hG : Glob W) :
    Calls Tryd.prog 7 #[.string (B raw), .bool en] W fun e w' => e = .returned (.agg (docA R)) ∧ Below W.heap.size W w' := by
  rw [← h]; exact parse_any raw en W hG hs
def dx1 : List UInt8 := [60, 33, 68, 79, 67, 84, 89, 80, 69, 32, 104, 116, 109, 108, 62, 120]
def dx2 : List UInt8 := [32, 104, 116, 109, 108]
def dx3 : List UInt8 := [32, 104, 116, 109, 108, 32, 80, 85, 66, 76, 73, 67, 32, 34, 97, 34, 32, 39, 98, 39]
set_option maxRecDepth 100000 in
set_option maxHeartbeats 4000000 in
theorem awake11_any (w : World) (hGl : Glob w) : Calls Tryd.prog 6 #[] w fun e w' => e = .returned (.bool true) ∧ Below w.heap.size w w' := by
  have hu42 := Tryd.underlying24
  have hu35 := Tryd.underlying37
  have F1 : ∀ W, Glob W → Calls Tryd.prog 16 #[.string ⟨#[60, 33, 68, 79, 67, 84, 89, 80, 69, 32, 104, 116, 109, 108, 62, 120]⟩, .int .i64 0] W fun e w' => e = .returned (.tuple #[.agg #[.int .i64 4, .string ⟨#[]⟩, .string ⟨#[32, 104, 116, 109, 108]⟩, .slice none 0 0, .bool false], .int .i64 15, .bool true]) ∧ Below W.heap.size W w' := by
    intro W hG
    have := dread_yes dx1 0 W hG (by decide) (by decide) (by decide +kernel)
    rw [show readD (dx1.drop 0) = (dx2, 15) by decide +kernel] at this
    exact this
  have F2 : ∀ W, Glob W → Calls Tryd.prog 7 #[.string ⟨#[32, 104, 116, 109, 108]⟩, .bool true] W fun e w' => e = .returned (.agg #[.string ⟨#[104, 116, 109, 108]⟩, .string ⟨#[]⟩, .string ⟨#[]⟩, .bool true, .bool false, .bool false, .bool false]) ∧ Below W.heap.size W w' :=
    fun W hG => parse_c dx2 true ([104, 116, 109, 108], [], [], true, false, false, false) (by decide +kernel) (by decide) W hG
  have F3 : ∀ W, Glob W → Calls Tryd.prog 7 #[.string ⟨#[]⟩, .bool true] W fun e w' => e = .returned (.agg #[.string ⟨#[]⟩, .string ⟨#[]⟩, .string ⟨#[]⟩, .bool false, .bool false, .bool false, .bool true]) ∧ Below W.heap.size W w' :=
    fun W hG => parse_c [] true ([], [], [], false, false, false, true) (by decide +kernel) (by decide) W hG
  have F4 : ∀ W, Glob W → Calls Tryd.prog 7 #[.string ⟨#[32, 104, 116, 109, 108, 32, 80, 85, 66, 76, 73, 67, 32, 34, 97, 34, 32, 39, 98, 39]⟩, .bool true] W fun e w' => e = .returned (.agg #[.string ⟨#[104, 116, 109, 108]⟩, .string ⟨#[97]⟩, .string ⟨#[98]⟩, .bool true, .bool true, .bool true, .bool false]) ∧ Below W.heap.size W w' :=
    fun W hG => parse_c dx3 true ([104, 116, 109, 108], [97], [98], true, true, true, false) (by decide +kernel) (by decide) W hG
  have G1 := Lib.hid F1
  have G2 := Lib.hid F2
  have G3 := Lib.hid F3
  have G4 := Lib.hid F4
  clear F1 F2 F3 F4
  go_enter Tryd.func6, Tryd.ntmps6
  go_wp2_with fail
  refine (G1.out _ hGl).mono ?_
  rintro e w1 ⟨rfl, hb⟩
  have HL := Lib.hid (((Live.start hGl).call hb).alloc #[.int .i64 4, .string ⟨#[]⟩, .string ⟨#[32, 104, 116, 109, 108]⟩, .slice none 0 0, .bool false] 37)
  clear hb hGl
  have q0 := HL.out.cell (b := w1.heap.size) (j := 0) (x := .int .i64 4) m0 rfl
  have q2 := HL.out.cell (b := w1.heap.size) (j := 2) (x := .string ⟨#[32, 104, 116, 109, 108]⟩) m0 rfl
  go_wp2_with fail
  refine (G2.out _ HL.out.glob).mono ?_
  rintro e w2 ⟨rfl, hb⟩
  replace HL := Lib.hid (HL.out.call hb)
  clear hb q0 q2
  go_wp2_with fail
  refine (G3.out _ HL.out.glob).mono ?_
  rintro e w3 ⟨rfl, hb⟩
  replace HL := Lib.hid (HL.out.call hb)
  clear hb
  go_wp2_with fail
  refine (G4.out _ HL.out.glob).mono ?_
  rintro e w4 ⟨rfl, hb⟩
  replace HL := Lib.hid (HL.out.call hb)
  clear hb
  go_wp2_with fail
  go_ret
  exact ⟨rfl, HL.out.below⟩
end Go.Proofs.YtajfpegacbohdaaDoor.Hand
