/-
  Walk of a law: flaillaw10.CommentOpen.
-/
import Derived.Test.YtppaobgccdlccaaDoorHaBog
namespace Go.Proofs.YtppaobgccdlccaaDoor.Hand
open Go.RowKit Go.Proofs.YtppaobgccdlccaaDoor.K0 Go.Proofs.YtppaobgccdlccaaDoor.Pl Go.Proofs.YtppaobgccdlccaaDoor.Pb Go.Proofs.YtppaobgccdlccaaDoor.Sa Go.Proofs.YtppaobgccdlccaaDoor.Pure Go.Proofs.YtppaobgccdlccaaDoorW.PrintWords Go.Proofs.YtppaobgccdlccaaDoorW.PrintLast Go.Proofs.YtppaobgccdlccaaDoorW.PrintMore

def OpenB (a : ByteArray) (n : Nat) : Prop := ∀ i (h : i < a.size), i < n → a[i] ≠ 62 ∧ a[i] ≠ 45 ∧ a[i] ≠ 33 ∧ a[i] ≠ 0
theorem OpenB.list {s : List UInt8} (h : OpenB (B s) (B s).size) : OpenOk s := by
  have g : ∀ i (h : i < s.length), s[i] ≠ 62 ∧ s[i] ≠ 45 ∧ s[i] ≠ 33 ∧ s[i] ≠ 0 := fun i hi => h i (by simpa using hi) (by simpa using hi)
  refine ⟨?_, ?_, ?_, ?_⟩ <;> intro hm <;> obtain ⟨i, hi, e⟩ := List.mem_iff_getElem.1 hm
  · exact (g i hi).1 e
  · exact (g i hi).2.1 e
  · exact (g i hi).2.2.1 e
  · exact (g i hi).2.2.2 e
theorem OpenB.succ {a : ByteArray} {k : Nat} (h : OpenB a k) (hk : k < a.size) (h1 : a[k] ≠ 62) (h2 : a[k] ≠ 45) (h3 : a[k] ≠ 33) (h4 : a[k] ≠ 0) : OpenB a (k + 1) := by
  intro i hi hik
  by_cases e : i = k
  · subst e; exact ⟨h1, h2, h3, h4⟩
  · exact h i hi (by omega)
theorem open_R {s : List UInt8} (h0 : s.length ≤ 300) (ho : OpenOk s) : Reads (⟨#[60, 33, 45, 45]⟩ ++ B s) 3 (B []) (B s) ((B s).size + 4 : Int) true ∧ Reads (⟨#[60, 33, 45, 45]⟩ ++ B s ++ ⟨#[45, 45, 33]⟩) 3 (B []) (B s) ((B s).size + 7 : Int) true ∧
    Reads (⟨#[60, 33, 45, 45, 32]⟩ ++ B s) 3 (B []) (⟨#[32]⟩ ++ B s) ((B s).size + 5 : Int) true ∧
    (Reads (⟨#[60, 33]⟩ ++ B s ++ ⟨#[45]⟩) 0 (B []) (B []) 0 false ∨ Reads (⟨#[60, 33]⟩ ++ B s ++ ⟨#[45]⟩) 3 (B []) (B s ++ ⟨#[45]⟩) ((B s).size + 3 : Int) true) := by
  refine ⟨?_, ?_, ?_, ?_⟩
  · have := reads_of (by simp [O4]; omega) (open_one ho)
    rw [B_app] at this
    rw [size_B, show (s.length : Int) + 4 = ((4 + s.length : Nat) : Int) by omega]
    exact this
  · have := reads_of (by simp [O4]; omega) (open_two ho)
    rw [B_app, B_app, ← ByteArray.append_assoc] at this
    rw [size_B]
    exact this
  · have := reads_of (by simp [O4]; omega) (open_three ho)
    rw [show O4 ++ 32 :: s = [60, 33, 45, 45, 32] ++ s by simp [O4], B_app, show (32 :: s) = [32] ++ s from rfl, B_app] at this
    rw [size_B]
    exact this
  · by_cases hd : begR (s ++ [45]) doctypeL = true
    · left
      have e := open_four ho
      rw [if_pos hd] at e
      have := reads_none (by simp; omega) e
      rw [B_app, B_app, ← ByteArray.append_assoc] at this
      exact this
    · right
      have e := open_four ho
      rw [if_neg hd] at e
      have := reads_of (by simp; omega) e
      rw [B_app, B_app, ← ByteArray.append_assoc] at this
      rw [size_B]
      exact this
set_option maxRecDepth 100000 in
set_option maxHeartbeats 4000000 in
theorem open_big (a0 : ByteArray) (w : World) (hGl : Glob w) (h0 : a0.size ≤ 140737488351232) (hb : 300 < a0.size) :
    Calls Tryd.prog 16 #[.string a0] w fun e w' => e = .returned (.bool true) ∧ Below w.heap.size w w' := by
  have q : decide ((300 : Int) < (a0.size : Int)) = true := by simp; omega
  clear hb
  go_enter Tryd.func16, Tryd.ntmps16
  go_wp2_with fail
  refine (awake10_any _ hGl).mono ?_
  rintro e w1 ⟨rfl, hb⟩
  go_wp2_with fail
  go_ret
  exact ⟨rfl, hb⟩
set_option maxRecDepth 100000 in
set_option maxHeartbeats 8000000 in
theorem open_small (s : List UInt8) (w : World) (hGl : Glob w) (h0 : s.length ≤ 300) :
    Calls Tryd.prog 16 #[.string (B s)] w fun e w' => e = .returned (.bool true) ∧ Below w.heap.size w w' := by
  have R := fun ho => open_R (s := s) h0 (OpenB.list ho)
  obtain ⟨a0, ha⟩ : ∃ a, B s = a := ⟨_, rfl⟩
  have z0 : a0.size ≤ 300 := by rw [← ha]; simpa using h0
  rw [ha] at R ⊢
  clear ha h0
  have q : decide ((300 : Int) < (a0.size : Int)) = false := by simp; omega
  have HR := Lib.hid R
  clear R
  go_enter Tryd.func16, Tryd.ntmps16
  go_wp2_with fail
  refine (awake10_any _ hGl).mono ?_
  rintro e w1 ⟨rfl, hb⟩
  have HL := Lib.hid ((Live.start hGl).call hb)
  clear hb hGl
  go_wp2_with fail
  go_loop [4] (fun i => ∃ k : Nat, k ≤ a0.size ∧ i = .int .i64 k ∧ Hid (OpenB a0 k)) (fun i => a0.size - (intOf i).toNat)
  case atStart => exact ⟨0, Nat.zero_le _, rfl, Lib.hid (fun i _ h => by omega)⟩
  case round =>
    obtain ⟨k, hk, rfl, ho⟩ := hrel
    by_cases hlt : k < a0.size
    · by_cases h62 : a0[k] = 62
      · have e62 := byte_eq 62 h62
        clear ho h62 
        go_wp2_with fail
        all_goals
          go_ret
          exact ⟨rfl, HL.out.below⟩
      · have e62 := byte_ne 62 h62
        by_cases h45 : a0[k] = 45
        · have e45 := byte_eq 45 h45
          clear ho h45 h62
          go_wp2_with fail
          go_ret
          exact ⟨rfl, HL.out.below⟩
        · have e45 := byte_ne 45 h45
          by_cases h33 : a0[k] = 33
          · have e33 := byte_eq 33 h33
            clear ho h33 h62 h45
            go_wp2_with fail
            go_ret
            exact ⟨rfl, HL.out.below⟩
          · have e33 := byte_ne 33 h33
            by_cases h0 : a0[k] = 0
            · have e0 := byte_eq 0 h0
              clear ho h0 h62 h45 h33
              go_wp2_with fail
              go_ret
              exact ⟨rfl, HL.out.below⟩
            · have e0 := byte_ne 0 h0
              have ho' := Lib.hid (ho.out.succ hlt h62 h45 h33 h0)
              clear ho h62 h45 h33 h0
              go_wp2_with fail
              go_round
              case rel => exact ⟨k + 1, by omega, by go_num, ho'⟩
              case measure => simp [intOf]; omega
    · obtain rfl : k = a0.size := by omega
      obtain ⟨C1, C2, C3, C4⟩ := HR.out ho.out
      replace C1 := Lib.hid C1
      replace C2 := Lib.hid C2
      replace C3 := Lib.hid C3
      clear HR ho
      rcases C4 with C4 | C4
      · replace C4 := Lib.hid C4
        go_wp2_with fail
        refine (C1.out _ HL.out.glob).mono ?_
        rintro e w2 ⟨rfl, hb⟩
        replace HL := Lib.hid (HL.out.call hb)
        clear hb C1
        go_wp2_with fail
        replace HL := Lib.hid (HL.out.alloc #[.int .i64 3, .string (B []), .string a0, .slice none 0 0, .bool false] 35)
        refine (C2.out _ HL.out.glob).mono ?_
        rintro e w3 ⟨rfl, hb⟩
        replace HL := Lib.hid (HL.out.call hb)
        clear hb C2
        go_wp2_with fail
        replace HL := Lib.hid (HL.out.alloc #[.int .i64 3, .string (B []), .string a0, .slice none 0 0, .bool false] 35)
        refine (C3.out _ HL.out.glob).mono ?_
        rintro e w4 ⟨rfl, hb⟩
        replace HL := Lib.hid (HL.out.call hb)
        clear hb C3
        go_wp2_with fail
        replace HL := Lib.hid (HL.out.alloc #[.int .i64 3, .string (B []), .string (⟨#[32]⟩ ++ a0), .slice none 0 0, .bool false] 35)
        refine (C4.out _ HL.out.glob).mono ?_
        rintro e w5 ⟨rfl, hb⟩
        replace HL := Lib.hid (HL.out.call hb)
        clear hb C4
        replace HL := Lib.hid (HL.out.alloc #[.int .i64 0, .string (B []), .string (B []), .slice none 0 0, .bool false] 35)
        have q1 := HL.out.cell (b := w2.heap.size) (j := 2) (x := .string a0) m3 rfl
        have q2 := HL.out.cell (b := w3.heap.size) (j := 2) (x := .string a0) m2 rfl
        have q3 := HL.out.cell (b := w4.heap.size) (j := 2) (x := .string (⟨#[32]⟩ ++ a0)) m1 rfl
        have q4 := HL.out.cell (b := w5.heap.size) (j := 2) (x := .string (B [])) m0 rfl
        go_wp2_with fail
        all_goals
          go_ret
          exact ⟨rfl, HL.out.below⟩
      · replace C4 := Lib.hid C4
        go_wp2_with fail
        refine (C1.out _ HL.out.glob).mono ?_
        rintro e w2 ⟨rfl, hb⟩
        replace HL := Lib.hid (HL.out.call hb)
        clear hb C1
        go_wp2_with fail
        replace HL := Lib.hid (HL.out.alloc #[.int .i64 3, .string (B []), .string a0, .slice none 0 0, .bool false] 35)
        refine (C2.out _ HL.out.glob).mono ?_
        rintro e w3 ⟨rfl, hb⟩
        replace HL := Lib.hid (HL.out.call hb)
        clear hb C2
        go_wp2_with fail
        replace HL := Lib.hid (HL.out.alloc #[.int .i64 3, .string (B []), .string a0, .slice none 0 0, .bool false] 35)
        refine (C3.out _ HL.out.glob).mono ?_
        rintro e w4 ⟨rfl, hb⟩
        replace HL := Lib.hid (HL.out.call hb)
        clear hb C3
        go_wp2_with fail
        replace HL := Lib.hid (HL.out.alloc #[.int .i64 3, .string (B []), .string (⟨#[32]⟩ ++ a0), .slice none 0 0, .bool false] 35)
        refine (C4.out _ HL.out.glob).mono ?_
        rintro e w5 ⟨rfl, hb⟩
        replace HL := Lib.hid (HL.out.call hb)
        clear hb C4
        replace HL := Lib.hid (HL.out.alloc #[.int .i64 3, .string (B []), .string (a0 ++ ⟨#[45]⟩), .slice none 0 0, .bool false] 35)
        have q1 := HL.out.cell (b := w2.heap.size) (j := 2) (x := .string a0) m3 rfl
        have q2 := HL.out.cell (b := w3.heap.size) (j := 2) (x := .string a0) m2 rfl
        have q3 := HL.out.cell (b := w4.heap.size) (j := 2) (x := .string (⟨#[32]⟩ ++ a0)) m1 rfl
        have q4 := HL.out.cell (b := w5.heap.size) (j := 2) (x := .string (a0 ++ ⟨#[45]⟩)) m0 rfl
        go_wp2_with fail
        all_goals
          go_ret
          exact ⟨rfl, HL.out.below⟩
theorem CommentOpen_law (a0 : ByteArray) (w : World) (h0 : a0.size ≤ 140737488351232) (hGl : Glob w) :
    Calls Tryd.prog 16 #[.string a0] w fun e w' => e = .returned (.bool true) ∧ Below w.heap.size w w' := by
  by_cases hb : 300 < a0.size
  · exact open_big a0 w hGl h0 hb
  · obtain ⟨s, rfl⟩ := exists_B a0
    rw [size_B] at hb
    exact open_small s w hGl (by omega)
end Go.Proofs.YtppaobgccdlccaaDoor.Hand
