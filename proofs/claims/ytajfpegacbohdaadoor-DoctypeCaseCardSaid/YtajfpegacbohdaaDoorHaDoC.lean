/-
  Walk of a law: flaillaw11.DoctypeCase.
-/
import Derived.Test.YtajfpegacbohdaaDoorHaDo4
import Derived.Test.YtajfpegacbohdaaDoorPlDC
import Derived.Deep.RegionHeld3
namespace Go.Proofs.YtajfpegacbohdaaDoor.Hand
open Go.RowKit Go.Proofs.YtajfpegacbohdaaDoor.K0 Go.Proofs.YtajfpegacbohdaaDoor.Pl Go.Proofs.YtajfpegacbohdaaDoor.Pb Go.Proofs.YtajfpegacbohdaaDoor.Sa Go.Proofs.YtajfpegacbohdaaDoor.Pure Go.Proofs.YtajfpegacbohdaaDoorW.PrintWords Go.Proofs.YtajfpegacbohdaaDoorW.PrintLast Go.Proofs.YtajfpegacbohdaaDoorW.PrintMore

theorem quoted_len (s : List UInt8) : (quotedL s).1.length ≤ 3 * s.length ∧ (quotedL s).2.1.length ≤ s.length := by
  cases s with
  | nil => simp [quotedL]
  | cons q r =>
    simp only [quotedL]
    split
    · have h1 := (cleanL_length (upto q r)).2
      have h2 : (upto q r).length ≤ r.length := (List.takeWhile_sublist _).length_le
      have h3 : (past q r).length ≤ r.length := by simp [past]
      refine ⟨?_, ?_⟩ <;> simp only [List.length_cons] <;> omega
    · simp
theorem trim_len (s : List UInt8) : (trimL s).length ≤ s.length := (List.dropWhile_sublist _).length_le
theorem sys_len (n p s : List UInt8) (hn hp en : Bool) : (sysD n p hn hp s en).2.1 = p ∧ (sysD n p hn hp s en).2.2.1.length ≤ 3 * s.length := by
  have h := (quoted_len s).1
  unfold sysD
  repeat' split
  all_goals exact ⟨rfl, h⟩
theorem pub_len (n s : List UInt8) (en : Bool) : (pubD n s en).2.1.length ≤ 3 * s.length ∧ (pubD n s en).2.2.1.length ≤ 3 * s.length := by
  have h := quoted_len (trimL (s.drop 6))
  have h1 := trim_len (s.drop 6)
  have h2 : (s.drop 6).length ≤ s.length := by simp
  have h3 := trim_len (quotedL (trimL (s.drop 6))).2.1
  have h4 := sys_len n (quotedL (trimL (s.drop 6))).1 (trimL (quotedL (trimL (s.drop 6))).2.1) true true en
  unfold pubD
  repeat' split
  · exact ⟨by show (quotedL (trimL (s.drop 6))).1.length ≤ _; omega, by simp⟩
  · rw [h4.1]; exact ⟨by omega, by omega⟩
  · exact ⟨by show (quotedL (trimL (s.drop 6))).1.length ≤ _; omega, by simp⟩
theorem parse_len (s : List UInt8) (en : Bool) : (parseD s en).2.1.length ≤ 3 * s.length ∧ (parseD s en).2.2.1.length ≤ 3 * s.length := by
  have h1 := trim_len s
  have h2 : ((trimL s).drop (wordLen (trimL s))).length ≤ (trimL s).length := by simp
  have h3 := trim_len ((trimL s).drop (wordLen (trimL s)))
  have h4 := pub_len (nameD (trimL s)) (trimL ((trimL s).drop (wordLen (trimL s)))) en
  have h5 : ((trimL ((trimL s).drop (wordLen (trimL s)))).drop 6).length ≤ (trimL ((trimL s).drop (wordLen (trimL s)))).length := by simp
  have h6 := trim_len ((trimL ((trimL s).drop (wordLen (trimL s)))).drop 6)
  have h7 := sys_len (nameD (trimL s)) [] (trimL ((trimL ((trimL s).drop (wordLen (trimL s)))).drop 6)) true false en
  unfold parseD
  repeat' split
  · simp
  · simp
  · exact ⟨by omega, by omega⟩
  · rw [h7.1]; exact ⟨by simp, by omega⟩
  · simp
/-- the two parsed doctypes lie there -/
def Two (w : World) (b1 b2 : Nat) (n p y lp ly : ByteArray) (f1 f2 f3 f4 : Bool) (W : World) : Prop :=
  Live w W [(b2, #[.string n, .string lp, .string ly, .bool f1, .bool f2, .bool f3, .bool f4]), (b1, #[.string n, .string p, .string y, .bool f1, .bool f2, .bool f3, .bool f4])]
theorem Two.call {w : World} {b1 b2 : Nat} {n p y lp ly : ByteArray} {f1 f2 f3 f4 : Bool} {W W' : World} (h : Two w b1 b2 n p y lp ly f1 f2 f3 f4 W) (hb : Below W.heap.size W W') : Two w b1 b2 n p y lp ly f1 f2 f3 f4 W' := Live.call h hb
abbrev TwoC (w : World) (b1 b2 : Nat) (n p y lp ly : ByteArray) (f1 f2 f3 f4 : Bool) (W : World) : Prop :=
  Two w b1 b2 n p y lp ly f1 f2 f3 f4 W ∧
  W.cell? ⟨b1, 0, none⟩ = some (.string n) ∧ W.cell? ⟨b1, 1, none⟩ = some (.string p) ∧ W.cell? ⟨b1, 2, none⟩ = some (.string y) ∧ W.cell? ⟨b1, 3, none⟩ = some (.bool f1) ∧ W.cell? ⟨b1, 4, none⟩ = some (.bool f2) ∧ W.cell? ⟨b1, 5, none⟩ = some (.bool f3) ∧ W.cell? ⟨b1, 6, none⟩ = some (.bool f4) ∧
  W.cell? ⟨b2, 0, none⟩ = some (.string n) ∧ W.cell? ⟨b2, 1, none⟩ = some (.string lp) ∧ W.cell? ⟨b2, 2, none⟩ = some (.string ly) ∧ W.cell? ⟨b2, 3, none⟩ = some (.bool f1) ∧ W.cell? ⟨b2, 4, none⟩ = some (.bool f2) ∧ W.cell? ⟨b2, 5, none⟩ = some (.bool f3) ∧ W.cell? ⟨b2, 6, none⟩ = some (.bool f4)
theorem Two.cells {w : World} {b1 b2 : Nat} {n p y lp ly : ByteArray} {f1 f2 f3 f4 : Bool} {W : World} (h : Two w b1 b2 n p y lp ly f1 f2 f3 f4 W) : TwoC w b1 b2 n p y lp ly f1 f2 f3 f4 W := by
  refine ⟨h, ?_, ?_, ?_, ?_, ?_, ?_, ?_, ?_, ?_, ?_, ?_, ?_, ?_, ?_⟩
  all_goals first | exact Live.cell h m0 rfl | exact Live.cell h m1 rfl
theorem Two.drew {w : World} {b1 b2 : Nat} {n p y lp ly : ByteArray} {f1 f2 f3 f4 : Bool} {W : World} (h : Two w b1 b2 n p y lp ly f1 f2 f3 f4 W) : Two w b1 b2 n p y lp ly f1 f2 f3 f4 W.drew := h.call (Below.drew (Below.refl _ _))
theorem TwoC.call {w : World} {b1 b2 : Nat} {n p y lp ly : ByteArray} {f1 f2 f3 f4 : Bool} {W W' : World} (hb : Below W.heap.size W W') (h : TwoC w b1 b2 n p y lp ly f1 f2 f3 f4 W) : TwoC w b1 b2 n p y lp ly f1 f2 f3 f4 W' := (h.1.call hb).cells
set_option maxRecDepth 100000 in
set_option maxHeartbeats 8000000 in
theorem dcase_small (s : List UInt8) (en : Bool) (w : World) (hGl : Glob w) (h0 : s.length ≤ 300) :
    Calls Tryd.prog 4 #[.string (B s), .bool en] w fun e w' => e = .returned (.bool true) ∧ Below w.heap.size w w' := by
  have hu42 := Tryd.underlying24
  obtain ⟨hp, hy⟩ := parse_len s en
  have hlp := low_parse s en
  obtain ⟨R, hR⟩ : ∃ R, parseD s en = R := ⟨_, rfl⟩
  rw [hR] at hp hy hlp
  obtain ⟨n, p, y, f1, f2, f3, f4⟩ := R
  have F1 : ∀ W, Glob W → Calls Tryd.prog 7 #[.string (B s), .bool en] W fun e w' => e = .returned (.agg #[.string (B n), .string (B p), .string (B y), .bool f1, .bool f2, .bool f3, .bool f4]) ∧ Below W.heap.size W w' :=
    fun W hG => parse_c s en _ hR (by omega) W hG
  have F2 : ∀ W, Glob W → Calls Tryd.prog 7 #[.string (B (lowL s)), .bool en] W fun e w' => e = .returned (.agg #[.string (B n), .string (B (lowL p)), .string (B (lowL y)), .bool f1, .bool f2, .bool f3, .bool f4]) ∧ Below W.heap.size W w' :=
    fun W hG => parse_c (lowL s) en _ hlp (by simp [lowL]; omega) W hG
  have L0 : ∀ l : List UInt8, l.length ≤ 1000000 → ∀ W, Calls Tryd.prog 9 #[.string (B l)] W fun e w' => e = .returned (.string (B (lowL l))) ∧ Below W.heap.size W w' := by
    intro l hl W
    have e : lowBA (B l) = B (lowL l) := by unfold lowBA; rw [B_data]; rfl
    rw [← e]
    exact lower_any _ _ (by rw [size_B]; omega)
  have LS := L0 s (by omega)
  have zp : (B p).size ≤ 1000000 := by rw [size_B]; simp at hp; omega
  have zy : (B y).size ≤ 1000000 := by rw [size_B]; simp at hy; omega
  obtain ⟨low, hlow⟩ : ∃ f, f = lowBA := ⟨_, rfl⟩
  have eP : B (lowL p) = low (B p) := by rw [hlow]; unfold lowBA; rw [B_data]; rfl
  have eY : B (lowL y) = low (B y) := by rw [hlow]; unfold lowBA; rw [B_data]; rfl
  have LP : ∀ (l : ByteArray) (W : World), l.size ≤ 1000000 → Calls Tryd.prog 9 #[.string l] W fun e w' => e = .returned (.string (low l)) ∧ Below W.heap.size W w' := by
    intro l W hl
    rw [hlow]
    exact lower_any l W (by omega)
  rw [eP, eY] at F2
  clear L0 hp hy hlp hR
  have zs : (B s).size ≤ 300 := by simpa using h0
  obtain ⟨a, ha⟩ : ∃ x, B s = x := ⟨_, rfl⟩
  obtain ⟨la, hla⟩ : ∃ x, B (lowL s) = x := ⟨_, rfl⟩
  obtain ⟨bn, hbn⟩ : ∃ x, B n = x := ⟨_, rfl⟩
  obtain ⟨bp, hbp⟩ : ∃ x, B p = x := ⟨_, rfl⟩
  obtain ⟨by', hby⟩ : ∃ x, B y = x := ⟨_, rfl⟩
  rw [ha, hbn, hbp, hby] at F1
  rw [hla, hbn, hbp, hby] at F2
  rw [ha, hla] at LS
  rw [hbp] at zp
  rw [hby] at zy
  rw [ha] at zs
  rw [ha]
  clear ha hla hbn hbp hby h0 eP eY hlow
  have q : decide ((300 : Int) < (a.size : Int)) = false := by simp; omega
  have G1 := Lib.hid F1
  have G2 := Lib.hid F2
  have G3 := Lib.hid LS
  have G4 := Lib.hid LP
  clear F1 F2 LS LP
  go_enter Tryd.func4, Tryd.ntmps4
  go_wp2_with fail
  refine (awake11_any _ hGl).mono ?_
  rintro e w1 ⟨rfl, hb⟩
  have HL := Lib.hid ((Live.start hGl).call hb)
  clear hb hGl
  go_wp2_with fail
  refine (G1.out _ HL.out.glob).mono ?_
  rintro e w2 ⟨rfl, hb⟩
  replace HL := Lib.hid ((HL.out.call hb).alloc #[.string bn, .string bp, .string by', .bool f1, .bool f2, .bool f3, .bool f4] 24)
  clear hb G1
  go_wp2_with fail
  refine (G3.out _).mono ?_
  rintro e w3 ⟨rfl, hb⟩
  replace HL := Lib.hid (HL.out.call hb)
  clear hb G3
  go_wp2_with fail
  refine (G2.out _ HL.out.glob).mono ?_
  rintro e w4 ⟨rfl, hb⟩
  replace HL := Lib.hid ((HL.out.call hb).alloc #[.string bn, .string (low bp), .string (low by'), .bool f1, .bool f2, .bool f3, .bool f4] 24)
  clear hb G2
  go_wp2_with fail
  have HS := (Two.drew (show Two w w2.heap.size w4.heap.size bn bp by' (low bp) (low by') f1 f2 f3 f4 _ from HL.out)).cells
  go_region_held3 (fun W => Two w w2.heap.size w4.heap.size bn bp by' (low bp) (low by') f1 f2 f3 f4 W ∧
    W.cell? ⟨w2.heap.size, 0, none⟩ = some (.string bn) ∧ W.cell? ⟨w2.heap.size, 1, none⟩ = some (.string bp) ∧ W.cell? ⟨w2.heap.size, 2, none⟩ = some (.string by') ∧ W.cell? ⟨w2.heap.size, 3, none⟩ = some (.bool f1) ∧ W.cell? ⟨w2.heap.size, 4, none⟩ = some (.bool f2) ∧ W.cell? ⟨w2.heap.size, 5, none⟩ = some (.bool f3) ∧ W.cell? ⟨w2.heap.size, 6, none⟩ = some (.bool f4) ∧
    W.cell? ⟨w4.heap.size, 0, none⟩ = some (.string bn) ∧ W.cell? ⟨w4.heap.size, 1, none⟩ = some (.string (low bp)) ∧ W.cell? ⟨w4.heap.size, 2, none⟩ = some (.string (low by')) ∧ W.cell? ⟨w4.heap.size, 3, none⟩ = some (.bool f1) ∧ W.cell? ⟨w4.heap.size, 4, none⟩ = some (.bool f2) ∧ W.cell? ⟨w4.heap.size, 5, none⟩ = some (.bool f3) ∧ W.cell? ⟨w4.heap.size, 6, none⟩ = some (.bool f4)) (first | with_reducible assumption | with_reducible exact HS | exact TwoC.call hb (by with_reducible assumption)) (first | (go_at_call 9; refine (G4.out _ _ (by assumption)).mono ?_; rintro e w' ⟨rfl, hb⟩))
  have HB : Below w.heap.size w _ := Live.below (And.left (by with_reducible assumption : TwoC w w2.heap.size w4.heap.size bn bp by' (low bp) (low by') f1 f2 f3 f4 _))
  go_wp2_with fail
  go_ret
  exact ⟨rfl, HB⟩
theorem DoctypeCase_law (a0 : ByteArray) (en : Bool) (w : World) (h0 : a0.size ≤ 140737488351232) (hGl : Glob w) :
    Calls Tryd.prog 4 #[.string a0, .bool en] w fun e w' => e = .returned (.bool true) ∧ Below w.heap.size w w' := by
  by_cases hb : 300 < a0.size
  · have q : decide ((300 : Int) < (a0.size : Int)) = true := by simp; omega
    clear hb
    go_enter Tryd.func4, Tryd.ntmps4
    go_wp2_with fail
    refine (awake11_any _ hGl).mono ?_
    rintro e w1 ⟨rfl, hb⟩
    go_wp2_with fail
    go_ret
    exact ⟨rfl, hb⟩
  · obtain ⟨s, rfl⟩ := exists_B a0
    rw [size_B] at hb
    exact dcase_small s en w hGl (by omega)
end Go.Proofs.YtajfpegacbohdaaDoor.Hand
