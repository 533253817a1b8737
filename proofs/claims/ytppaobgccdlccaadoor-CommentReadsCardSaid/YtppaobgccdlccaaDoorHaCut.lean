/-
  Hand walks: comment.cut, comment.other, comment.plain, comment.Read.
-/
import Derived.Test.YtppaobgccdlccaaDoorHa1
import Derived.Test.YtppaobgccdlccaaDoorSa
import Derived.LoopN
import Derived.ChangeKeysEq
namespace Go.Proofs.YtppaobgccdlccaaDoor.Hand
open Go.RowKit Go.Proofs.YtppaobgccdlccaaDoor.Pl Go.Proofs.YtppaobgccdlccaaDoor.Sa Go.Proofs.YtppaobgccdlccaaDoorW.PrintWords Go.Proofs.YtppaobgccdlccaaDoorW.PrintLast Go.Proofs.YtppaobgccdlccaaDoorW.PrintMore

theorem run_index_agg {P : Program} {t e : TypeId} {n : Nat} {i : TypeInfo} {cs : Array Value} {j : Nat} {v : Value} {W : World} (hu : P.underlying t = some (.array n e)) (hi : P.info? e = some i) (h1 : P.cellsOf e = 1)
    (hk : P.plainKey e = true) (hj : j < n) (hv : cs[j]? = some v) : (Instr.index t (.agg cs) (.int .i64 (j : Int))).run P W = .ok v W := by
  have hn : (0 : Int) ≤ (j : Int) ∧ (j : Int) < (n : Int) := ⟨by omega, by omega⟩
  unfold Program.plainKey at hk
  cases hue : P.underlying e with
  | none => simp [hue] at hk
  | some d => cases d <;> simp [hue] at hk <;> simp [Instr.index, run_underlying hu, asIntOf, hn, run_sizeOf W hi, h1, part, isAgg, run_underlying hue, hv, hj, go_sem]
theorem arr83 : Tryd.prog.underlying 83 = some (.array 2 9) := by kernel_rfl
theorem arr84 : Tryd.prog.underlying 84 = some (.array 3 9) := by kernel_rfl
theorem cells9 : Tryd.prog.cellsOf 9 = 1 := by kernel_rfl
theorem plain9 : Tryd.prog.plainKey 9 = true := by kernel_rfl
theorem ix2_0 (a b : ByteArray) (W : World) : (Instr.index 83 (.agg #[.string a, .string b]) (.int .i64 0)).run Tryd.prog W = .ok (.string a) W := by
  obtain ⟨i, hi⟩ := info_of_underlying (P := Tryd.prog) Tryd.underlying9
  exact run_index_agg (j := 0) arr83 hi cells9 plain9 (by omega) rfl
theorem ix2_1 (a b : ByteArray) (W : World) : (Instr.index 83 (.agg #[.string a, .string b]) (.int .i64 1)).run Tryd.prog W = .ok (.string b) W := by
  obtain ⟨i, hi⟩ := info_of_underlying (P := Tryd.prog) Tryd.underlying9
  exact run_index_agg (j := 1) arr83 hi cells9 plain9 (by omega) rfl
theorem ix3_0 (a b c : ByteArray) (W : World) : (Instr.index 84 (.agg #[.string a, .string b, .string c]) (.int .i64 0)).run Tryd.prog W = .ok (.string a) W := by
  obtain ⟨i, hi⟩ := info_of_underlying (P := Tryd.prog) Tryd.underlying9
  exact run_index_agg (j := 0) arr84 hi cells9 plain9 (by omega) rfl
theorem ix3_1 (a b c : ByteArray) (W : World) : (Instr.index 84 (.agg #[.string a, .string b, .string c]) (.int .i64 1)).run Tryd.prog W = .ok (.string b) W := by
  obtain ⟨i, hi⟩ := info_of_underlying (P := Tryd.prog) Tryd.underlying9
  exact run_index_agg (j := 1) arr84 hi cells9 plain9 (by omega) rfl
theorem ix3_2 (a b c : ByteArray) (W : World) : (Instr.index 84 (.agg #[.string a, .string b, .string c]) (.int .i64 2)).run Tryd.prog W = .ok (.string c) W := by
  obtain ⟨i, hi⟩ := info_of_underlying (P := Tryd.prog) Tryd.underlying9
  exact run_index_agg (j := 2) arr84 hi cells9 plain9 (by omega) rfl

def cutV (s e0 e1 : ByteArray) (k0 k1 : Int) : ByteArray × Int × Bool :=
  if 0 ≤ k0 then (if 0 ≤ k1 ∧ k1 < k0 then (s.extract 0 k1.toNat, k1 + (e1.size : Int), true) else (s.extract 0 k0.toNat, k0 + (e0.size : Int), true))
  else if 0 ≤ k1 then (s.extract 0 k1.toNat, k1 + (e1.size : Int), true) else (⟨#[]⟩, (s.size : Int), false)
theorem wrapId {n : Int} (h0 : -9223372036854775808 ≤ n) (h : n < 9223372036854775808) : wrap64 n = n := by unfold wrap64; omega
set_option maxRecDepth 100000 in
set_option maxHeartbeats 4000000 in
theorem cut_any (s e0 e1 : ByteArray) (w : World) (hs : s.size ≤ 1000000000) (h0 : e0.size ≤ 1000) (h1 : e1.size ≤ 1000) (hGl : Glob w) :
    Calls Tryd.prog 89 #[.string s, .agg #[.string e0, .string e1]] w fun e w' =>
      e = .returned (.tuple #[.string (cutV s e0 e1 (Lib.index s.data.toList e0.data.toList) (Lib.index s.data.toList e1.data.toList)).1, .int .i64 (cutV s e0 e1 (Lib.index s.data.toList e0.data.toList) (Lib.index s.data.toList e1.data.toList)).2.1,
        .bool (cutV s e0 e1 (Lib.index s.data.toList e0.data.toList) (Lib.index s.data.toList e1.data.toList)).2.2]) ∧ Below w.heap.size w w' := by
  have CA : ∀ (x : ByteArray) (W : World), Glob W → Calls Tryd.prog 93 #[.string s, .string x] W fun e w' => e = .returned (.int .i64 (Lib.index s.data.toList x.data.toList)) ∧ w' = W := by
    intro x W ⟨m, hm⟩
    exact Tryd.strings_Index s x m W (by omega) hm
  have hG2 : Glob (w.alloc (.cells #[.string e0, .string e1] 83)) := hGl.step (Below.alloc (Below.refl _ _) (Nat.le_refl _) _)
  have C0 := Lib.hid (CA e0 _ hG2)
  have C1 := Lib.hid (CA e1 _ hG2)
  clear CA hG2 hGl
  have I0 := ix2_0 e0 e1
  have I1 := ix2_1 e0 e1
  have b0 := Lib.index_ge s.data.toList e0.data.toList
  have b1 := Lib.index_ge s.data.toList e1.data.toList
  have t0 := Lib.index_le s.data.toList e0.data.toList
  have t1 := Lib.index_le s.data.toList e1.data.toList
  rw [Array.length_toList] at t0 t1
  obtain ⟨k0, hk0⟩ : ∃ k0, Lib.index s.data.toList e0.data.toList = k0 := ⟨_, rfl⟩
  obtain ⟨k1, hk1⟩ : ∃ k1, Lib.index s.data.toList e1.data.toList = k1 := ⟨_, rfl⟩
  rw [hk0] at C0 b0 t0
  rw [hk1] at C1 b1 t1
  rw [hk0, hk1]
  clear hk0 hk1
  have z : s.data.size = s.size := rfl
  rw [z] at t0 t1
  clear z
  obtain ⟨V, hV0⟩ : ∃ V, cutV s e0 e1 k0 k1 = V := ⟨_, rfl⟩
  rw [hV0]
  have hV := Lib.hid hV0
  clear hV0
  go_enter Tryd.func89, Tryd.ntmps89
  go_wp2_with fail
  refine wp_loop_rounds 3 ?_
  rw [rounds_succ]
  go_wp2_with fail
  refine C0.out.mono ?_
  rintro e w1 ⟨rfl, rfl⟩
  clear C0 I0
  by_cases c0 : 0 ≤ k0
  · have c0' : ¬ k0 < 0 := by omega
    have w0 : wrap64 (k0 + (e0.size : Int)) = k0 + (e0.size : Int) := wrapId (by omega) (by omega)
    go_wp2_with fail
    rw [rounds_succ]
    go_wp2_with fail
    refine C1.out.mono ?_
    rintro e w1 ⟨rfl, rfl⟩
    clear C1 I1
    by_cases c1 : 0 ≤ k1
    · have w1 : wrap64 (k1 + (e1.size : Int)) = k1 + (e1.size : Int) := wrapId (by omega) (by omega)
      by_cases c2 : k1 < k0
      · have c1' : ¬ k1 < 0 := by omega
        go_wp2_with fail
        rw [rounds_succ]
        go_wp2_with fail
        go_ret3
        refine ⟨?_, Below.alloc (Below.refl _ _) (Nat.le_refl _) _⟩
        rw [← hV.out]
        unfold cutV
        rw [if_pos (by omega), if_pos (by omega)]
        rfl
      · have c1' : ¬ k1 < 0 := by omega
        go_wp2_with fail
        rw [rounds_succ]
        go_wp2_with fail
        go_ret3
        refine ⟨?_, Below.alloc (Below.refl _ _) (Nat.le_refl _) _⟩
        rw [← hV.out]
        unfold cutV
        rw [if_pos (by omega), if_neg (by omega)]
        rfl
    · have c1' : k1 < 0 := by omega
      go_wp2_with fail
      rw [rounds_succ]
      go_wp2_with fail
      go_ret3
      refine ⟨?_, Below.alloc (Below.refl _ _) (Nat.le_refl _) _⟩
      rw [← hV.out]
      unfold cutV
      rw [if_pos (by omega), if_neg (by omega)]
      rfl
  · have c0' : k0 < 0 := by omega
    go_wp2_with fail
    rw [rounds_succ]
    go_wp2_with fail
    refine C1.out.mono ?_
    rintro e w1 ⟨rfl, rfl⟩
    clear C1 I1
    by_cases c1 : 0 ≤ k1
    · have w1 : wrap64 (k1 + (e1.size : Int)) = k1 + (e1.size : Int) := wrapId (by omega) (by omega)
      have c1' : ¬ k1 < 0 := by omega
      go_wp2_with fail
      rw [rounds_succ]
      go_wp2_with fail
      go_ret3
      refine ⟨?_, Below.alloc (Below.refl _ _) (Nat.le_refl _) _⟩
      rw [← hV.out]
      unfold cutV
      rw [if_neg (by omega), if_pos (by omega)]
      rfl
    · have c1' : k1 < 0 := by omega
      go_wp2_with fail
      rw [rounds_succ]
      go_wp2_with fail
      go_ret3
      refine ⟨?_, Below.alloc (Below.refl _ _) (Nat.le_refl _) _⟩
      rw [← hV.out]
      unfold cutV
      rw [if_neg (by omega), if_neg (by omega)]
      rfl

/-! ### comment.other -/
def idx (s e : ByteArray) : Int := Lib.index s.data.toList e.data.toList
def cutW (s e0 e1 : ByteArray) : ByteArray × Int × Bool := cutV s e0 e1 (idx s e0) (idx s e1)
theorem cut_c (s e0 e1 : ByteArray) (w : World) (hs : s.size ≤ 1000000000) (h0 : e0.size ≤ 1000) (h1 : e1.size ≤ 1000) (hGl : Glob w) :
    Calls Tryd.prog 89 #[.string s, .agg #[.string e0, .string e1]] w fun e w' => e = .returned (.tuple #[.string (cutW s e0 e1).1, .int .i64 (cutW s e0 e1).2.1, .bool (cutW s e0 e1).2.2]) ∧ Below w.heap.size w w' :=
  cut_any s e0 e1 w hs h0 h1 hGl
def otherV (s : ByteArray) : ByteArray × Int := if (cutW s ⟨#[62]⟩ ⟨#[62]⟩).2.2 = true then ((cutW s ⟨#[62]⟩ ⟨#[62]⟩).1, (cutW s ⟨#[62]⟩ ⟨#[62]⟩).2.1) else (s, (s.size : Int))
theorem other_any (s : ByteArray) (w : World) (hs : s.size ≤ 1000000000) (hGl : Glob w) :
    Calls Tryd.prog 64 #[.string s] w fun e w' => e = .returned (.tuple #[.string (otherV s).1, .int .i64 (otherV s).2]) ∧ Below w.heap.size w w' := by
  have C := Lib.hid (cut_c s ⟨#[62]⟩ ⟨#[62]⟩ w hs (by decide) (by decide) hGl)
  have hV := Lib.hid (show otherV s = if (cutW s ⟨#[62]⟩ ⟨#[62]⟩).2.2 = true then ((cutW s ⟨#[62]⟩ ⟨#[62]⟩).1, (cutW s ⟨#[62]⟩ ⟨#[62]⟩).2.1) else (s, (s.size : Int)) from rfl)
  generalize otherV s = V at hV ⊢
  obtain ⟨⟨c1, c2, c3⟩, hc⟩ : ∃ c, cutW s ⟨#[62]⟩ ⟨#[62]⟩ = c := ⟨_, rfl⟩
  rw [hc] at C hV
  clear hc
  simp only at C hV
  go_enter Tryd.func64, Tryd.ntmps64
  go_wp2_with fail
  refine C.out.mono ?_
  rintro e w1 ⟨rfl, hb⟩
  clear C
  cases c3 with
  | true =>
    go_wp2_with fail
    go_ret2
    refine ⟨?_, hb⟩
    have := hV.out
    rw [if_pos (by simp)] at this
    rw [this]; rfl
  | false =>
    go_wp2_with fail
    go_ret2
    refine ⟨?_, hb⟩
    have := hV.out
    rw [if_neg (by decide)] at this
    rw [this]; rfl

/-! ### comment.plain -/
def pre (s p : ByteArray) : Bool := Lib.hasPrefix s.data.toList p.data.toList
def suf (s p : ByteArray) : Bool := Lib.hasSuffix s.data.toList p.data.toList
def trimS (s p : ByteArray) : ByteArray := ⟨(Lib.trimSuffix s.data.toList p.data.toList).toArray⟩
def plainV (s : ByteArray) : ByteArray × Int :=
  if pre s ⟨#[62]⟩ = true then (⟨#[]⟩, 1) else if pre s ⟨#[45, 62]⟩ = true then (⟨#[]⟩, 2)
  else if (cutW s ⟨#[45, 45, 62]⟩ ⟨#[45, 45, 33, 62]⟩).2.2 = true then ((cutW s ⟨#[45, 45, 62]⟩ ⟨#[45, 45, 33, 62]⟩).1, (cutW s ⟨#[45, 45, 62]⟩ ⟨#[45, 45, 33, 62]⟩).2.1)
  else if suf s ⟨#[45, 45, 33]⟩ = true then (trimS s ⟨#[45, 45, 33]⟩, (s.size : Int))
  else if suf s ⟨#[45, 45]⟩ = true then (trimS s ⟨#[45, 45]⟩, (s.size : Int))
  else if suf s ⟨#[45]⟩ = true then (trimS s ⟨#[45]⟩, (s.size : Int)) else (s, (s.size : Int))
set_option maxRecDepth 100000 in
set_option maxHeartbeats 4000000 in
theorem plain_any (s : ByteArray) (w : World) (hs : s.size ≤ 1000000000) (hGl : Glob w) :
    Calls Tryd.prog 65 #[.string s] w fun e w' => e = .returned (.tuple #[.string (plainV s).1, .int .i64 (plainV s).2]) ∧ Below w.heap.size w w' := by
  have C := Lib.hid (cut_c s ⟨#[45, 45, 62]⟩ ⟨#[45, 45, 33, 62]⟩ w hs (by decide) (by decide) hGl)
  have P0 := Lib.hid (show Calls Tryd.prog 82 #[.string s, .string ⟨#[62]⟩] w fun e w' => e = .returned (.bool (pre s ⟨#[62]⟩)) ∧ w' = w from Tryd.strings_HasPrefix s ⟨#[62]⟩ w)
  have P1 := Lib.hid (show Calls Tryd.prog 82 #[.string s, .string ⟨#[45, 62]⟩] w fun e w' => e = .returned (.bool (pre s ⟨#[45, 62]⟩)) ∧ w' = w from Tryd.strings_HasPrefix s ⟨#[45, 62]⟩ w)
  have SA : ∀ (p : ByteArray) (W : World), Calls Tryd.prog 90 #[.string s, .string p] W fun e w' => e = .returned (.tuple #[.string (trimS s p), .bool (suf s p)]) ∧ w' = W := fun p W => Tryd.strings_CutSuffix s p W (by omega)
  have S0 := Lib.hid (SA ⟨#[45, 45, 33]⟩)
  have S1 := Lib.hid (SA ⟨#[45, 45]⟩)
  have S2 := Lib.hid (SA ⟨#[45]⟩)
  clear SA
  have I0 := ix2_0 ⟨#[62]⟩ ⟨#[45, 62]⟩
  have I1 := ix2_1 ⟨#[62]⟩ ⟨#[45, 62]⟩
  have J0 := ix3_0 ⟨#[45, 45, 33]⟩ ⟨#[45, 45]⟩ ⟨#[45]⟩
  have J1 := ix3_1 ⟨#[45, 45, 33]⟩ ⟨#[45, 45]⟩ ⟨#[45]⟩
  have J2 := ix3_2 ⟨#[45, 45, 33]⟩ ⟨#[45, 45]⟩ ⟨#[45]⟩
  have hV0 : plainV s = plainV s := rfl
  conv at hV0 => rhs; unfold plainV
  generalize plainV s = V at hV0 ⊢
  generalize pre s ⟨#[62]⟩ = p0 at P0 hV0
  generalize pre s ⟨#[45, 62]⟩ = p1 at P1 hV0
  generalize suf s ⟨#[45, 45, 33]⟩ = s0 at S0 hV0
  generalize suf s ⟨#[45, 45]⟩ = s1 at S1 hV0
  generalize suf s ⟨#[45]⟩ = s2 at S2 hV0
  generalize trimS s ⟨#[45, 45, 33]⟩ = t0 at S0 hV0
  generalize trimS s ⟨#[45, 45]⟩ = t1 at S1 hV0
  generalize trimS s ⟨#[45]⟩ = t2 at S2 hV0
  obtain ⟨⟨c1, c2, c3⟩, hc⟩ : ∃ c, cutW s ⟨#[45, 45, 62]⟩ ⟨#[45, 45, 33, 62]⟩ = c := ⟨_, rfl⟩
  rw [hc] at C hV0
  clear hc
  simp only at C hV0
  have hV := Lib.hid hV0
  clear hV0
  go_enter Tryd.func65, Tryd.ntmps65
  go_wp2_with fail
  refine wp_loop_rounds 3 ?_
  rw [rounds_succ]
  go_wp2_with fail
  refine P0.out.mono ?_
  rintro e w1 ⟨rfl, rfl⟩
  clear P0 I0
  cases p0 with
  | true =>
    go_wp2_with fail
    go_ret2
    refine ⟨?_, Below.refl _ _⟩
    rw [hV.out, if_pos (by simp)]; rfl
  | false =>
    go_wp2_with fail
    rw [rounds_succ]
    go_wp2_with fail
    refine P1.out.mono ?_
    rintro e w1 ⟨rfl, rfl⟩
    clear P1 I1
    cases p1 with
    | true =>
      go_wp2_with fail
      go_ret2
      refine ⟨?_, Below.refl _ _⟩
      rw [hV.out, if_neg (by decide), if_pos (by simp)]; rfl
    | false =>
      go_wp2_with fail
      rw [rounds_succ]
      go_wp2_with fail
      refine C.out.mono ?_
      rintro e w1 ⟨rfl, hb⟩
      clear C
      cases c3 with
      | true =>
        go_wp2_with fail
        go_ret2
        refine ⟨?_, hb⟩
        rw [hV.out, if_neg (by decide), if_neg (by decide), if_pos (by simp)]; rfl
      | false =>
        go_wp2_with fail
        refine wp_loop_rounds 4 ?_
        rw [rounds_succ]
        go_wp2_with fail
        refine (S0.out _).mono ?_
        rintro e w2 ⟨rfl, rfl⟩
        clear S0 J0
        cases s0 with
        | true =>
          go_wp2_with fail
          go_ret2
          refine ⟨?_, hb⟩
          rw [hV.out, if_neg (by decide), if_neg (by decide), if_neg (by decide), if_pos (by simp)]; rfl
        | false =>
          go_wp2_with fail
          rw [rounds_succ]
          go_wp2_with fail
          refine (S1.out _).mono ?_
          rintro e w2 ⟨rfl, rfl⟩
          clear S1 J1
          cases s1 with
          | true =>
            go_wp2_with fail
            go_ret2
            refine ⟨?_, hb⟩
            rw [hV.out, if_neg (by decide), if_neg (by decide), if_neg (by decide), if_neg (by decide), if_pos (by simp)]; rfl
          | false =>
            go_wp2_with fail
            rw [rounds_succ]
            go_wp2_with fail
            refine (S2.out _).mono ?_
            rintro e w2 ⟨rfl, rfl⟩
            clear S2 J2
            cases s2 with
            | true =>
              go_wp2_with fail
              go_ret2
              refine ⟨?_, hb⟩
              rw [hV.out, if_neg (by decide), if_neg (by decide), if_neg (by decide), if_neg (by decide), if_neg (by decide), if_pos (by simp)]; rfl
            | false =>
              go_wp2_with fail
              rw [rounds_succ]
              go_wp2_with fail
              go_ret2
              refine ⟨?_, hb⟩
              rw [hV.out, if_neg (by decide), if_neg (by decide), if_neg (by decide), if_neg (by decide), if_neg (by decide), if_neg (by decide)]; rfl
end Go.Proofs.YtppaobgccdlccaaDoor.Hand
