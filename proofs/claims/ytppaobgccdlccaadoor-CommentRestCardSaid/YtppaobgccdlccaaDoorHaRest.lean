/-
  Walk of a law: flaillaw10.CommentRest.
-/
import Derived.Test.YtppaobgccdlccaaDoorHaBog
namespace Go.Proofs.YtppaobgccdlccaaDoor.Hand
open Go.RowKit Go.Proofs.YtppaobgccdlccaaDoor.K0 Go.Proofs.YtppaobgccdlccaaDoor.Pl Go.Proofs.YtppaobgccdlccaaDoor.Pb Go.Proofs.YtppaobgccdlccaaDoor.Sa Go.Proofs.YtppaobgccdlccaaDoor.Sr Go.Proofs.YtppaobgccdlccaaDoor.Pure Go.Proofs.YtppaobgccdlccaaDoorW.PrintWords Go.Proofs.YtppaobgccdlccaaDoorW.PrintLast Go.Proofs.YtppaobgccdlccaaDoorW.PrintMore

theorem rest_same08 : Ev (fun k => flailref08_Same.f k [] []) true := by
  unfold flailref08_Same.f
  simp only [if_true]
  exact Ev.step (f := fun _ => some true) (fun k => by rw [flailref08_Same.l0, if_neg (by simp)]) (Ev.now _)
theorem same_tok (x : Int) (a b : ByteArray) (f : Bool) (w : World) :
    Calls Tryd.prog 39 #[.agg #[.int .i64 x, .string a, .string b, .slice none 0 0, .bool f], .agg #[.int .i64 x, .string a, .string b, .slice none 0 0, .bool f]] w fun e w' => e = .returned (.bool true) ∧ Below w.heap.size w w' := by
  have h : Ev (fun k => flailref09_Same.f k x a b [] f x a b [] f) true := by
    unfold flailref09_Same.f
    simp only [if_true, BEq.rfl]
    exact Ev.bind rest_same08 (Ev.now _)
  obtain ⟨k, hk⟩ := h.rounds
  exact flailref09_Same.calls k x a b none 0 [] f x a b none 0 [] f true w (Kd.C_nil _ _) (Nat.le_refl _) (Kd.C_nil _ _) (Nat.le_refl _) hk
set_option maxRecDepth 100000 in
set_option maxHeartbeats 4000000 in
theorem rest_big (a0 a1 : ByteArray) (w : World) (hGl : Glob w) (h0 : a0.size ≤ 140737488351232) (h1 : a1.size ≤ 140737488351232) (hb : 300 < a0.size ∨ 300 < a1.size) :
    Calls Tryd.prog 15 #[.string a0, .string a1] w fun e w' => e = .returned (.bool true) ∧ Below w.heap.size w w' := by
  by_cases hq : 300 < a0.size
  · have q : decide ((300 : Int) < (a0.size : Int)) = true := by simp; omega
    clear hb
    go_enter Tryd.func15, Tryd.ntmps15
    go_wp2_with fail
    refine (awake10_any _ hGl).mono ?_
    rintro e w1 ⟨rfl, hb⟩
    go_wp2_with fail
    go_ret
    exact ⟨rfl, hb⟩
  · have q : decide ((300 : Int) < (a0.size : Int)) = false := by simp; omega
    have q' : decide ((300 : Int) < (a1.size : Int)) = true := by simp; omega
    clear hb
    go_enter Tryd.func15, Tryd.ntmps15
    go_wp2_with fail
    refine (awake10_any _ hGl).mono ?_
    rintro e w1 ⟨rfl, hb⟩
    go_wp2_with fail
    go_ret
    exact ⟨rfl, hb⟩
set_option maxRecDepth 100000 in
set_option maxHeartbeats 4000000 in
theorem rest_none (a0 a1 : ByteArray) (w : World) (hGl : Glob w) (z0 : a0.size ≤ 300) (z1 : a1.size ≤ 300) (R : Reads a0 0 (B []) (B []) 0 false) :
    Calls Tryd.prog 15 #[.string a0, .string a1] w fun e w' => e = .returned (.bool true) ∧ Below w.heap.size w w' := by
  have q : decide ((300 : Int) < (a0.size : Int)) = false := by simp; omega
  have q' : decide ((300 : Int) < (a1.size : Int)) = false := by simp; omega
  have HR := Lib.hid R
  clear R
  go_enter Tryd.func15, Tryd.ntmps15
  go_wp2_with fail
  refine (awake10_any _ hGl).mono ?_
  rintro e w1 ⟨rfl, hb⟩
  have HL := Lib.hid ((Live.start hGl).call hb)
  clear hb hGl
  go_wp2_with fail
  refine (HR.out _ HL.out.glob).mono ?_
  rintro e w2 ⟨rfl, hb⟩
  replace HL := Lib.hid (HL.out.call hb)
  clear hb HR
  replace HL := Lib.hid (HL.out.alloc #[.int .i64 0, .string (B []), .string (B []), .slice none 0 0, .bool false] 35)
  go_wp2_with fail
  refine (same_tok 0 _ _ _ _).mono ?_
  rintro e w3 ⟨rfl, hb⟩
  replace HL := Lib.hid (HL.out.call hb)
  clear hb
  go_wp2_with fail
  go_ret
  exact ⟨rfl, HL.out.below⟩
def No0 (t : ByteArray) : Prop := ∀ i (h : i < t.size), t[i] ≠ 0
set_option maxRecDepth 100000 in
set_option maxHeartbeats 8000000 in
theorem rest_some (a0 a1 t : ByteArray) (n : Nat) (w : World) (hGl : Glob w) (z0 : a0.size ≤ 300) (z1 : a1.size ≤ 300) (zt : t.size ≤ 1000000) (ht : No0 t) (hn : 2 ≤ n) (hl : n ≤ a0.size)
    (R : Reads a0 3 (B []) t (n : Int) true) (R2 : n < a0.size → Reads (a0.extract 0 n ++ a1) 3 (B []) t (n : Int) true) (he : ∀ j, j + 1 = n → ∀ h : j < a0.size, n < a0.size → a0[j] = 62) :
    Calls Tryd.prog 15 #[.string a0, .string a1] w fun e w' => e = .returned (.bool true) ∧ Below w.heap.size w w' := by
  have q : decide ((300 : Int) < (a0.size : Int)) = false := by simp; omega
  have q' : decide ((300 : Int) < (a1.size : Int)) = false := by simp; omega
  have HR := Lib.hid R
  have HR2 := Lib.hid R2
  have HT := Lib.hid ht
  have HE := Lib.hid he
  clear R R2 ht he
  go_enter Tryd.func15, Tryd.ntmps15
  go_wp2_with fail
  refine (awake10_any _ hGl).mono ?_
  rintro e w1 ⟨rfl, hb⟩
  have HL := Lib.hid ((Live.start hGl).call hb)
  clear hb hGl
  go_wp2_with fail
  refine (HR.out _ HL.out.glob).mono ?_
  rintro e w2 ⟨rfl, hb⟩
  replace HL := Lib.hid (HL.out.call hb)
  clear hb HR
  replace HL := Lib.hid (HL.out.alloc #[.int .i64 3, .string (B []), .string t, .slice none 0 0, .bool false] 35)
  go_wp2_with fail
  go_loop [9] (fun i => ∃ k : Nat, k ≤ t.size ∧ i = .int .i64 k) (fun i => t.size - (intOf i).toNat)
  case atStart => exact ⟨0, Nat.zero_le _, rfl⟩
  case round =>
    obtain ⟨k, hk, rfl⟩ := hrel
    by_cases hlt : k < t.size
    · have e1 := byte_ne 0 (HT.out k hlt)
      go_wp2_with fail
      go_round
      case rel => exact ⟨k + 1, by omega, by go_num⟩
      case measure => simp [intOf]; omega
    · obtain rfl : k = t.size := by omega
      by_cases hne : n = a0.size
      · subst hne
        go_wp2_with fail
        go_ret
        exact ⟨rfl, HL.out.below⟩
      · obtain ⟨j, rfl⟩ : ∃ j, n = j + 2 := ⟨n - 2, by omega⟩
        have hj : j + 1 < a0.size := by omega
        have e1 := byte_eq 62 (HE.out (j + 1) rfl hj (by omega))
        have e2 : (((j + 2 : Nat) : Int) == (a0.size : Int)) = false := by rw [beq_eq_false_iff_ne]; omega
        have C2 := Lib.hid (HR2.out (by omega))
        clear HR2 HE hne
        go_wp2_with fail
        refine (C2.out _ HL.out.glob).mono ?_
        rintro e w3 ⟨rfl, hb⟩
        replace HL := Lib.hid (HL.out.call hb)
        clear hb C2
        replace HL := Lib.hid (HL.out.alloc #[.int .i64 3, .string (B []), .string t, .slice none 0 0, .bool false] 35)
        have q0 := HL.out.cell (b := w2.heap.size) (j := 0) (x := .int .i64 3) m1 rfl
        have q1 := HL.out.cell (b := w2.heap.size) (j := 1) (x := .string (B [])) m1 rfl
        have q2 := HL.out.cell (b := w2.heap.size) (j := 2) (x := .string t) m1 rfl
        have q3 := HL.out.cell (b := w2.heap.size) (j := 3) (x := .slice none 0 0) m1 rfl
        have q4 := HL.out.cell (b := w2.heap.size) (j := 4) (x := .bool false) m1 rfl
        go_wp2_with fail
        refine (same_tok 3 _ _ _ _).mono ?_
        rintro e w4 ⟨rfl, hb⟩
        replace HL := Lib.hid (HL.out.call hb)
        clear hb
        go_wp2_with fail
        go_ret
        exact ⟨rfl, HL.out.below⟩
theorem CommentRest_law (a0 a1 : ByteArray) (w : World) (h0 : a0.size ≤ 140737488351232) (h1 : a1.size ≤ 140737488351232) (hGl : Glob w) :
    Calls Tryd.prog 15 #[.string a0, .string a1] w fun e w' => e = .returned (.bool true) ∧ Below w.heap.size w w' := by
  by_cases hb : 300 < a0.size ∨ 300 < a1.size
  · exact rest_big a0 a1 w hGl h0 h1 hb
  · obtain ⟨s, rfl⟩ := exists_B a0
    obtain ⟨m, rfl⟩ := exists_B a1
    rw [size_B, size_B] at hb
    by_cases hc : begC s = true
    · have hlen := readC_len hc
      have hT : tokC 0 s = tok0 (cleanL (readC s).1) (readC s).2 := by unfold tokC tok0; rw [if_pos hc]; simp
      have hcut := readC_cut (s := s) (t := (readC s).1) (n := (readC s).2) m hc rfl
      have hs1 : (readC s).1.length ≤ s.length + 1 := by
        unfold readC
        split
        · have := (plainL_le (s.drop 4)).1; simp only [List.length_drop] at this; simp only; omega
        · split
          · have := (otherL_le (s.drop 1)).1; simp only [List.length_drop] at this; simp only; omega
          · have := (otherL_le (s.drop 2)).1; simp only [List.length_drop] at this; simp only; omega
      have hs2 := (cleanL_length (readC s).1).2
      refine rest_some (B s) (B m) (B (cleanL (readC s).1)) (readC s).2 w hGl (by simp; omega) (by simp; omega) (by simp; omega) ?_ hlen.1 (by simpa using hlen.2) (reads_of (by omega) hT) ?_ ?_
      · intro i hi e
        exact cleanL_no0 (readC s).1 (List.mem_iff_getElem.2 ⟨i, by simpa using hi, e⟩)
      · intro hn
        rw [size_B] at hn
        obtain ⟨g1, g2, -, -⟩ := hcut hn
        rw [B_extract, List.drop_zero, ← B_app]
        refine reads_of (by simp; omega) ?_
        unfold tokC tok0
        rw [if_pos g1, g2]; simp
      · intro j hj h hn
        rw [size_B] at hn
        have := (hcut hn).2.2.1
        rw [← hj, Nat.add_sub_cancel] at this
        have hj' : j < s.length := by simpa using h
        rw [List.getElem?_eq_getElem hj'] at this
        exact Option.some.inj this
    · have hT : tokC 0 s = (0, B [], B [], [], false, 0, false) := by unfold tokC; rw [if_neg hc]; rfl
      exact rest_none (B s) (B m) w hGl (by simp; omega) (by simp; omega) (reads_none (by omega) hT)
end Go.Proofs.YtppaobgccdlccaaDoor.Hand
