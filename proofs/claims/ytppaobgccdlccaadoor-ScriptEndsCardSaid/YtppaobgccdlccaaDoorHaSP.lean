/-
  Walks of two laws: flaillaw13.ScriptPlain, flaillaw13.ScriptEnds.
-/
import Derived.Test.YtppaobgccdlccaaDoorHaRaw
import Derived.Test.YtppaobgccdlccaaDoorPuFind
namespace Go.Proofs.YtppaobgccdlccaaDoor.Hand
open Go.RowKit Go.Proofs.YtppaobgccdlccaaDoor.K0 Go.Proofs.YtppaobgccdlccaaDoor.Pl Go.Proofs.YtppaobgccdlccaaDoor.Pb Go.Proofs.YtppaobgccdlccaaDoor.Sa Go.Proofs.YtppaobgccdlccaaDoor.Pure Go.Proofs.YtppaobgccdlccaaDoorW.PrintWords Go.Proofs.YtppaobgccdlccaaDoorW.PrintLast Go.Proofs.YtppaobgccdlccaaDoorW.PrintMore

theorem sfind_c (s : List UInt8) (n : Nat) (hs : s.length ≤ 1000000) (hn : n ≤ s.length) (w : World) :
    Calls Tryd.prog 32 #[.string (B s), .int .i64 (n : Int)] w fun e w' => e = .returned (.tuple #[.int .i64 ((n + (findL 0 0 (s.drop n)).1 : Nat) : Int), .int .i64 ((findL 0 0 (s.drop n)).2 : Int)]) ∧ Below w.heap.size w w' := by
  obtain ⟨k, hk⟩ := (find_f s hs (n : Int)).rounds
  have hc : clampN s.length (n : Int) = n := by unfold clampN; split <;> (try split) <;> omega
  rw [hc] at hk
  exact script_Find.calls k (B s) _ _ _ w hk
theorem stext_any (s : ByteArray) (w : World) (hs : s.size ≤ 1000000000) (hGl : Glob w) : Calls Tryd.prog 34 #[.string s] w fun e w' => e = .returned (.string (cleanBA s)) ∧ Below w.heap.size w w' := by
  have C := Lib.hid (clean_any s w hs hGl)
  go_enter Tryd.func34, Tryd.ntmps34
  go_wp2_with fail
  refine C.out.mono ?_
  rintro e w1 ⟨rfl, hb⟩
  go_wp2_with fail
  go_ret
  exact ⟨rfl, hb⟩
def aw1 : List UInt8 := [97, 60, 47, 115, 99, 114, 105, 112, 116, 62]
def aw2 : List UInt8 := [60, 33, 45, 45, 60, 115, 99, 114, 105, 112, 116, 62, 60, 47, 115, 99, 114, 105, 112, 116, 62, 45, 45, 62, 60, 47, 115, 99, 114, 105, 112, 116, 62]
set_option maxRecDepth 100000 in
set_option maxHeartbeats 2000000 in
theorem awake13_any (w : World) (hGl : Glob w) : Calls Tryd.prog 31 #[] w fun e w' => e = .returned (.bool true) ∧ Below w.heap.size w w' := by
  have F1 : ∀ W, Calls Tryd.prog 32 #[.string ⟨#[97, 60, 47, 115, 99, 114, 105, 112, 116, 62]⟩, .int .i64 0] W fun e w' => e = .returned (.tuple #[.int .i64 1, .int .i64 0]) ∧ Below W.heap.size W w' := by
    intro W
    have := sfind_c aw1 0 (by simp [aw1]) (by omega) W
    rw [show findL 0 0 (aw1.drop 0) = (1, 0) by decide +kernel] at this
    exact this
  have F2 : ∀ W, Calls Tryd.prog 32 #[.string ⟨#[60, 33, 45, 45, 60, 115, 99, 114, 105, 112, 116, 62, 60, 47, 115, 99, 114, 105, 112, 116, 62, 45, 45, 62, 60, 47, 115, 99, 114, 105, 112, 116, 62]⟩, .int .i64 0] W fun e w' => e = .returned (.tuple #[.int .i64 24, .int .i64 0]) ∧ Below W.heap.size W w' := by
    intro W
    have := sfind_c aw2 0 (by simp [aw2]) (by omega) W
    rw [show findL 0 0 (aw2.drop 0) = (24, 0) by decide +kernel] at this
    exact this
  have F3 : ∀ W, Glob W → Calls Tryd.prog 34 #[.string ⟨#[97, 0]⟩] W fun e w' => e = .returned (.string ⟨#[97, 239, 191, 189]⟩) ∧ Below W.heap.size W w' := fun W hG => stext_any ⟨#[97, 0]⟩ W (by decide) hG
  have G1 := Lib.hid F1
  have G2 := Lib.hid F2
  have G3 := Lib.hid F3
  clear F1 F2 F3
  go_enter Tryd.func31, Tryd.ntmps31
  go_wp2_with fail
  refine (G1.out _).mono ?_
  rintro e w1 ⟨rfl, hb⟩
  have HL := Lib.hid ((Live.start hGl).call hb)
  clear hb hGl
  go_wp2_with fail
  refine (G2.out _).mono ?_
  rintro e w2 ⟨rfl, hb⟩
  replace HL := Lib.hid (HL.out.call hb)
  clear hb
  go_wp2_with fail
  refine (G3.out _ HL.out.glob).mono ?_
  rintro e w3 ⟨rfl, hb⟩
  replace HL := Lib.hid (HL.out.call hb)
  clear hb
  go_wp2_with fail
  go_ret
  exact ⟨rfl, HL.out.below⟩
theorem of_toList {a : ByteArray} {l : List UInt8} (h : a.toList = l) : a = B l := by rw [B_of a, ← toList_data, h]
def NoCB (a : ByteArray) (n : Nat) : Prop := ∀ i, i < n → i + 4 ≤ a.size → a.extract i (i + 4) ≠ ⟨#[60, 33, 45, 45]⟩
theorem NoCB.list {s : List UInt8} {n : Nat} (h : NoCB (B s) n) (hn : s.length < n + 4) : noC s := by
  intro j
  rw [Bool.eq_false_iff]
  intro e
  obtain ⟨x, hx⟩ := List.isPrefixOf_iff_prefix.1 e
  have hl := congrArg List.length hx
  simp only [List.length_append, List.length_cons, List.length_nil, List.length_drop] at hl
  refine h j (by omega) (by simp; omega) ?_
  rw [B_extract, List.drop_take, ← hx]
  simp; rfl
theorem NoCB.succ {a : ByteArray} {k : Nat} (h : NoCB a k) (hk : a.extract k (k + 4) ≠ ⟨#[60, 33, 45, 45]⟩) : NoCB a (k + 1) := by
  intro i hi hs
  by_cases e : i = k
  · subst e; exact hk
  · exact h i (by omega) hs
set_option maxRecDepth 100000 in
set_option maxHeartbeats 4000000 in
theorem splain_small (s : List UInt8) (a : Int) (w : World) (hGl : Glob w) (h0 : s.length ≤ 300) (ha0 : 0 ≤ a) (ha1 : a < 65536) :
    Calls Tryd.prog 17 #[.string (B s), .int .u16 a] w fun e w' => e = .returned (.bool true) ∧ Below w.heap.size w w' := by
  obtain ⟨n, hn⟩ : ∃ n : Nat, a % ((s.length : Int) + 1) = n := ⟨(a % ((s.length : Int) + 1)).toNat, by have := Int.emod_nonneg a (show (s.length : Int) + 1 ≠ 0 by omega); omega⟩
  have hn1 : n ≤ s.length := by have := Int.emod_lt_of_pos a (show 0 < (s.length : Int) + 1 by omega); omega
  have R1 : noC s → ∀ W, Calls Tryd.prog 32 #[.string (B s), .int .i64 (n : Int)] W fun e w' => e = .returned (.tuple #[.int .i64 ((n + firstE scriptL (s.drop n) : Nat) : Int), .int .i64 0]) ∧ Below W.heap.size W w' := by
    intro hc W
    have := sfind_c s n (by omega) hn1 W
    rw [findL_noC (s.drop n) 0 (fun j => by rw [List.drop_drop]; exact hc _)] at this
    exact this
  have R2 : ∀ W, Glob W → Calls Tryd.prog 42 #[.string (B s), .int .i64 (n : Int), .string ⟨#[115, 99, 114, 105, 112, 116]⟩] W fun e w' => e = .returned (.int .i64 ((n + firstE scriptL (s.drop n) : Nat) : Int)) ∧ Below W.heap.size W w' := by
    intro W hG
    have := rawFind_any s scriptL (n : Int) W hG (by omega) (by simp [scriptL])
    rw [show clN s.length (n : Int) = n by unfold clN; split <;> (try split) <;> omega, rawFind_first s scriptL n hn1] at this
    exact this
  obtain ⟨f, hf⟩ : ∃ f, n + firstE scriptL (s.drop n) = f := ⟨_, rfl⟩
  rw [hf] at R1 R2
  have hN : ∀ m, (B s).size < m + 4 → NoCB (B s) m → noC s := fun m hm h => h.list (by simpa using hm)
  obtain ⟨a0, haq⟩ : ∃ b, B s = b := ⟨_, rfl⟩
  have hz : (s.length : Int) = (a0.size : Int) := by rw [← haq]; simp
  rw [hz] at hn
  have z0 : a0.size ≤ 300 := by omega
  rw [haq] at R1 R2 hN ⊢
  clear haq h0 hz hf hn1
  have q : decide ((300 : Int) < (a0.size : Int)) = false := by simp; omega
  have HR1 := Lib.hid R1
  have HR2 := Lib.hid R2
  have HN := Lib.hid hN
  clear R1 R2 hN
  go_enter Tryd.func17, Tryd.ntmps17
  go_wp2_with fail
  refine (awake13_any _ hGl).mono ?_
  rintro e w1 ⟨rfl, hb⟩
  have HL := Lib.hid ((Live.start hGl).call hb)
  clear hb hGl
  go_wp2_with fail
  go_loop [6] (fun i => ∃ k : Nat, k ≤ a0.size + 1 ∧ i = .int .i64 k ∧ Hid (NoCB a0 k)) (fun i => a0.size + 1 - (intOf i).toNat)
  case atStart => exact ⟨0, Nat.zero_le _, rfl, Lib.hid (fun i h => by omega)⟩
  case round =>
    obtain ⟨k, hk, rfl, ho⟩ := hrel
    by_cases hlt : k + 4 ≤ a0.size
    · by_cases hc : a0.extract k (k + 4) = ⟨#[60, 33, 45, 45]⟩
      · go_wp2_with fail
        go_ret
        exact ⟨rfl, HL.out.below⟩
      · have ho' := Lib.hid (ho.out.succ hc)
        have e1 : ((a0.extract k (k + 4)).toList == [60, 33, 45, 45]) = false := by
          rw [beq_eq_false_iff_ne]; exact fun e => hc (of_toList e)
        clear ho
        go_wp2_with fail
        go_round
        case rel => exact ⟨k + 1, by omega, by go_num, ho'⟩
        case measure => simp [intOf]; omega
    · have C1 := Lib.hid (HR1.out (HN.out k (by omega) ho.out))
      clear HR1 HN ho
      go_wp2_with fail
      refine (C1.out _).mono ?_
      rintro e w2 ⟨rfl, hb⟩
      replace HL := Lib.hid (HL.out.call hb)
      clear hb C1
      go_wp2_with fail
      refine (HR2.out _ HL.out.glob).mono ?_
      rintro e w3 ⟨rfl, hb⟩
      replace HL := Lib.hid (HL.out.call hb)
      clear hb HR2
      go_wp2_with fail
      go_ret
      exact ⟨rfl, HL.out.below⟩
theorem u16_range {n : Int} (h : (Lit.int .u16 n).wf = true) : 0 ≤ n ∧ n < 65536 := by
  simp only [Lit.wf, IntKind.min, IntKind.max, IntKind.signed, IntKind.bits, Bool.and_eq_true, decide_eq_true_eq, Bool.false_eq_true, if_false] at h
  omega
theorem script_big (f : Nat) (a0 : ByteArray) (hf : f = 17 ∨ f = 18) (a : Int) (w : World) (hGl : Glob w) (h0 : a0.size ≤ 140737488351232) (hb : 300 < a0.size) :
    Calls Tryd.prog f #[.string a0, .int .u16 a] w fun e w' => e = .returned (.bool true) ∧ Below w.heap.size w w' := by
  have q : decide ((300 : Int) < (a0.size : Int)) = true := by simp; omega
  clear hb
  rcases hf with rfl | rfl
  · go_enter Tryd.func17, Tryd.ntmps17
    go_wp2_with fail
    refine (awake13_any _ hGl).mono ?_
    rintro e w1 ⟨rfl, hb⟩
    go_wp2_with fail
    go_ret
    exact ⟨rfl, hb⟩
  · go_enter Tryd.func18, Tryd.ntmps18
    go_wp2_with fail
    refine (awake13_any _ hGl).mono ?_
    rintro e w1 ⟨rfl, hb⟩
    go_wp2_with fail
    go_ret
    exact ⟨rfl, hb⟩
theorem ScriptPlain_law (a0 : ByteArray) (a1 : Int) (w : World) (w0 : a0.size ≤ 140737488351232) (w1 : (Lit.int .u16 a1).wf = true) (hGl : Glob w) :
    Calls Tryd.prog 17 #[.string a0, .int .u16 a1] w fun e w' => e = .returned (.bool true) ∧ Below w.heap.size w w' := by
  have hr := u16_range w1
  by_cases hb : 300 < a0.size
  · exact script_big _ a0 (.inl rfl) a1 w hGl w0 hb
  · obtain ⟨s, rfl⟩ := exists_B a0
    rw [size_B] at hb
    exact splain_small s a1 w hGl (by omega) hr.1 hr.2
set_option maxRecDepth 100000 in
set_option maxHeartbeats 4000000 in
theorem sends_small (s : List UInt8) (a : Int) (w : World) (hGl : Glob w) (h0 : s.length ≤ 300) (ha0 : 0 ≤ a) (ha1 : a < 65536) :
    Calls Tryd.prog 18 #[.string (B s), .int .u16 a] w fun e w' => e = .returned (.bool true) ∧ Below w.heap.size w w' := by
  obtain ⟨n, hn⟩ : ∃ n : Nat, a % ((s.length : Int) + 1) = n := ⟨(a % ((s.length : Int) + 1)).toNat, by have := Int.emod_nonneg a (show (s.length : Int) + 1 ≠ 0 by omega); omega⟩
  have hn1 : n ≤ s.length := by have := Int.emod_lt_of_pos a (show 0 < (s.length : Int) + 1 by omega); omega
  have R1 := sfind_c s n (by omega) hn1
  have R2 : ∀ W, Glob W → Calls Tryd.prog 42 #[.string (B s), .int .i64 (n : Int), .string ⟨#[115, 99, 114, 105, 112, 116]⟩] W fun e w' => e = .returned (.int .i64 ((n + firstE scriptL (s.drop n) : Nat) : Int)) ∧ Below W.heap.size W w' := by
    intro W hG
    have := rawFind_any s scriptL (n : Int) W hG (by omega) (by simp [scriptL])
    rw [show clN s.length (n : Int) = n by unfold clN; split <;> (try split) <;> omega, rawFind_first s scriptL n hn1] at this
    exact this
  obtain ⟨g1, g2, g3, g4⟩ := findL_law _ (s.drop n) 0 0 (Nat.le_refl _) (by omega)
  rw [List.length_drop] at g2 g4
  rw [List.drop_drop] at g4
  obtain ⟨x, hx⟩ : ∃ x, n + (findL 0 0 (s.drop n)).1 = x := ⟨_, rfl⟩
  obtain ⟨st, hst⟩ : ∃ x, (findL 0 0 (s.drop n)).2 = x := ⟨_, rfl⟩
  obtain ⟨f, hf⟩ : ∃ f, n + firstE scriptL (s.drop n) = f := ⟨_, rfl⟩
  have R3 : x < s.length → ∀ W, Calls Tryd.prog 43 #[.string (B s), .int .i64 (x : Int), .string ⟨#[115, 99, 114, 105, 112, 116]⟩] W fun e w' => e = .returned (.bool true) ∧ Below W.heap.size W w' := by
    intro hl W
    have := ends_c s scriptL x (by omega) (by simp [scriptL]) W
    rw [← hx, (g4 (by omega)).2, hx] at this
    exact this
  have g5 : x < s.length → st ≠ 2 := fun hl => by rw [← hst]; exact (g4 (by omega)).1
  rw [hx, hst] at R1
  rw [hf] at R2
  have k1 : f ≤ x := by omega
  have k2 : x ≤ s.length := by omega
  have k3 : st ≤ 2 := by omega
  clear g1 g2 g3 g4 hx hst hf hn1
  obtain ⟨a0, haq⟩ : ∃ b, B s = b := ⟨_, rfl⟩
  have hz : s.length = a0.size := by rw [← haq]; simp
  rw [hz] at hn k2 g5 R3
  have z0 : a0.size ≤ 300 := by omega
  rw [haq] at R1 R2 R3 ⊢
  clear haq h0 hz
  have q : decide ((300 : Int) < (a0.size : Int)) = false := by simp; omega
  have C1 := Lib.hid R1
  have HR2 := Lib.hid R2
  have HR3 := Lib.hid R3
  have H5 := Lib.hid g5
  clear R1 R2 R3 g5
  go_enter Tryd.func18, Tryd.ntmps18
  go_wp2_with fail
  refine (awake13_any _ hGl).mono ?_
  rintro e w1 ⟨rfl, hb⟩
  have HL := Lib.hid ((Live.start hGl).call hb)
  clear hb hGl
  go_wp2_with fail
  refine (C1.out _).mono ?_
  rintro e w2 ⟨rfl, hb⟩
  replace HL := Lib.hid (HL.out.call hb)
  clear hb C1
  have e1 : decide ((x : Int) < (f : Int)) = false := by simp; omega
  have e2 : decide ((a0.size : Int) < (x : Int)) = false := by simp; omega
  have e3 : decide ((st : Int) < 0) = false := by simp
  have e4 : decide ((2 : Int) < (st : Int)) = false := by simp; omega
  go_wp2_with fail
  refine (HR2.out _ HL.out.glob).mono ?_
  rintro e w3 ⟨rfl, hb⟩
  replace HL := Lib.hid (HL.out.call hb)
  clear hb HR2
  by_cases hl : x < a0.size
  · have e5 : ((x : Int) == (a0.size : Int)) = false := by rw [beq_eq_false_iff_ne]; omega
    have e6 : ((st : Int) != 2) = true := by
      have := H5.out hl
      rw [bne_iff_ne]; omega
    have C3 := Lib.hid (HR3.out hl)
    clear HR3 H5
    go_wp2_with fail
    refine (C3.out _).mono ?_
    rintro e w4 ⟨rfl, hb⟩
    replace HL := Lib.hid (HL.out.call hb)
    clear hb
    go_wp2_with fail
    go_ret
    exact ⟨rfl, HL.out.below⟩
  · obtain rfl : x = a0.size := by omega
    go_wp2_with fail
    go_ret
    exact ⟨rfl, HL.out.below⟩
theorem ScriptEnds_law (a0 : ByteArray) (a1 : Int) (w : World) (w0 : a0.size ≤ 140737488351232) (w1 : (Lit.int .u16 a1).wf = true) (hGl : Glob w) :
    Calls Tryd.prog 18 #[.string a0, .int .u16 a1] w fun e w' => e = .returned (.bool true) ∧ Below w.heap.size w w' := by
  have hr := u16_range w1
  by_cases hb : 300 < a0.size
  · exact script_big _ a0 (.inr rfl) a1 w hGl w0 hb
  · obtain ⟨s, rfl⟩ := exists_B a0
    rw [size_B] at hb
    exact sends_small s a1 w hGl (by omega) hr.1 hr.2
end Go.Proofs.YtppaobgccdlccaaDoor.Hand
