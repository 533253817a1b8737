/-
  Hand walks: comment.cut, comment.other, comment.plain, comment.Read.
  Hand walk: comment.Read.
  Hand walk: flaillaw10.awake: the examples, all of them of fixed texts.
-/
import Derived.Test.YtppaobgccdlccaaDoorHa1
import Derived.Test.YtppaobgccdlccaaDoorSa
import Derived.LoopN
import Derived.ChangeKeysEq
import Derived.Test.YtppaobgccdlccaaDoorK0
import Derived.Laws.Rows
import Derived.Laws.Cells
namespace Go.Proofs.YtppaobgccdlccaaDoor.Hand
open Go.RowKit Go.Proofs.YtppaobgccdlccaaDoor.Pl Go.Proofs.YtppaobgccdlccaaDoor.Sa Go.Proofs.YtppaobgccdlccaaDoorW.PrintWords Go.Proofs.YtppaobgccdlccaaDoorW.PrintLast Go.Proofs.YtppaobgccdlccaaDoorW.PrintMore

theorem run_index_agg {P : Program} {t e : TypeId} {n : Nat} {i : TypeInfo} {cs : Array Value} {j : Nat} {v : Value} {W : World} (hu : P.underlying t = some (.array n e)) (hi : P.info? e = some i) (h1 : P.cellsOf e = 1)
    (hk : P.plainKey e = true) (hj : j < n) (hv : cs[j]? = some v) : (Instr.index t (.agg cs) (.int .i64 (j : Int))).run P W = .ok v W := by
  have hn : (0 : Int) ≤ (j : Int) ∧ (j : Int) < (n : Int) := ⟨by omega, by omega⟩
  unfold Program.plainKey at hk
  cases hue : P.underlying e with
  | none => simp [hue] at hk
  | some d => cases d <;> simp [hue] at hk <;> simp [Instr.index, run_underlying hu, asIntOf, hn, run_sizeOf W hi, h1, part, isAgg, run_underlying hue, hv, hj, go_sem]
theorem arr83 : Tryd.prog.underlying 83 = some (.array 2 9) := by kernel_rfl
theorem arr84 : Tryd.prog.underlying 84 = some (.array 3 9) := by kernel_rfl
theorem cells9 : Tryd.prog.cellsOf 9 = 1 := by kernel_rfl
theorem plain9 : Tryd.prog.plainKey 9 = true := by kernel_rfl
theorem ix2_0 (a b : ByteArray) (W : World) : (Instr.index 83 (.agg #[.string a, .string b]) (.int .i64 0)).run Tryd.prog W = .ok (.string a) W := by
  obtain ⟨i, hi⟩ := info_of_underlying (P := Tryd.prog) Tryd.underlying9
  exact run_index_agg (j := 0) arr83 hi cells9 plain9 (by omega) rfl
theorem ix2_1 (a b : ByteArray) (W : World) : (Instr.index 83 (.agg #[.string a, .string b]) (.int .i64 1)).run Tryd.prog W = .ok (.string b) W := by
  obtain ⟨i, hi⟩ := info_of_underlying (P := Tryd.prog) Tryd.underlying9
  exact run_index_agg (j := 1) arr83 hi cells9 plain9 (by omega) rfl
theorem ix3_0 (a b c : ByteArray) (W : World) : (Instr.index 84 (.agg #[.string a, .string b, .string c]) (.int .i64 0)).run Tryd.prog W = .ok (.string a) W := by
  obtain ⟨i, hi⟩ := info_of_underlying (P := Tryd.prog) Tryd.underlying9
  exact run_index_agg (j := 0) arr84 hi cells9 plain9 (by omega) rfl
theorem ix3_1 (a b c : ByteArray) (W : World) : (Instr.index 84 (.agg #[.string a, .string b, .string c]) (.int .i64 1)).run Tryd.prog W = .ok (.string b) W := by
  obtain ⟨i, hi⟩ := info_of_underlying (P := Tryd.prog) Tryd.underlying9
  exact run_index_agg (j := 1) arr84 hi cells9 plain9 (by omega) rfl
theorem ix3_2 (a b c : ByteArray) (W : World) : (Instr.index 84 (.agg #[.string a, .string b, .string c]) (.int .i64 2)).run Tryd.prog W = .ok (.string c) W := by
  obtain ⟨i, hi⟩ := info_of_underlying (P := Tryd.prog) Tryd.underlying9
  exact run_index_agg (j := 2) arr84 hi cells9 plain9 (by omega) rfl

def cutV (s e0 e1 : ByteArray) (k0 k1 : Int) : ByteArray × Int × Bool :=
  if 0 ≤ k0 then (if 0 ≤ k1 ∧ k1 < k0 then (s.extract 0 k1.toNat, k1 + (e1.size : Int), true) else (s.extract 0 k0.toNat, k0 + (e0.size : Int), true))
  else if 0 ≤ k1 then (s.extract 0 k1.toNat, k1 + (e1.size : Int), true) else (⟨#[]⟩, (s.size : Int), false)
theorem wrapId {n : Int} (h0 : -9223372036854775808 ≤ n) (h : n < 9223372036854775808) : wrap64 n = n := by unfold wrap64; omega
set_option maxRecDepth 100000 in
set_option maxHeartbeats 4000000 in
theorem cut_any (s e0 e1 : ByteArray) (w : World) (hs : s.size ≤ 1000000000) (h0 : e0.size ≤ 1000) (h1 : e1.size ≤ 1000) (hGl : Glob w) :
    Calls Tryd.prog 89 #[.string s, .agg #[.string e0, .string e1]] w fun e w' =>
      e = .returned (.tuple #[.string (cutV s e0 e1 (Lib.index s.data.toList e0.data.toList) (Lib.index s.data.toList e1.data.toList)).1, .int .i64 (cutV s e0 e1 (Lib.index s.data.toList e0.data.toList) (Lib.index s.data.toList e1.data.toList)).2.1,
        .bool (cutV s e0 e1 (Lib.index s.data.toList e0.data.toList) (Lib.index s.data.toList e1.data.toList)).2.2]) ∧ Below w.heap.size w w' := by
  have CA : ∀ (x : ByteArray) (W : World), Glob W → Calls Tryd.prog 93 #[.string s, .string x] W fun e w' => e = .returned (.int .i64 (Lib.index s.data.toList x.data.toList)) ∧ w' = W := by
    intro x W ⟨m, hm⟩
    exact Tryd.strings_Index s x m W (by omega) hm
  have hG2 : Glob (w.alloc (.cells #[.string e0, .string e1] 83)) := hGl.step (Below.alloc (Below.refl _ _) (Nat.le_refl _) _)
  have C0 := Lib.hid (CA e0 _ hG2)
  have C1 := Lib.hid (CA e1 _ hG2)
  clear CA hG2 hGl
  have I0 := ix2_0 e0 e1
  have I1 := ix2_1 e0 e1
  have b0 := Lib.index_ge s.data.toList e0.data.toList
  have b1 := Lib.index_ge s.data.toList e1.data.toList
  have t0 := Lib.index_le s.data.toList e0.data.toList
  have t1 := Lib.index_le s.data.toList e1.data.toList
  rw [Array.length_toList] at t0 t1
  obtain ⟨k0, hk0⟩ : ∃ k0, Lib.index s.data.toList e0.data.toList = k0 := ⟨_, rfl⟩
  obtain ⟨k1, hk1⟩ : ∃ k1, Lib.index s.data.toList e1.data.toList = k1 := ⟨_, rfl⟩
  rw [hk0] at C0 b0 t0
  rw [hk1] at C1 b1 t1
  rw [hk0, hk1]
  clear hk0 hk1
  have z : s.data.size = s.size := rfl
  rw [z] at t0 t1
  clear z
  obtain ⟨V, hV0⟩ : ∃ V, cutV s e0 e1 k0 k1 = V := ⟨_, rfl⟩
  rw [hV0]
  have hV := Lib.hid hV0
  clear hV0
  go_enter Tryd.func89, Tryd.ntmps89
  go_wp2_with fail
  refine wp_loop_rounds 3 ?_
  rw [rounds_succ]
  go_wp2_with fail
  refine C0.out.mono ?_
  rintro e w1 ⟨rfl, rfl⟩
  clear C0 I0
  by_cases c0 : 0 ≤ k0
  · have c0' : ¬ k0 < 0 := by omega
    have w0 : wrap64 (k0 + (e0.size : Int)) = k0 + (e0.size : Int) := wrapId (by omega) (by omega)
    go_wp2_with fail
    rw [rounds_succ]
    go_wp2_with fail
    refine C1.out.mono ?_
    rintro e w1 ⟨rfl, rfl⟩
    clear C1 I1
    by_cases c1 : 0 ≤ k1
    · have w1 : wrap64 (k1 + (e1.size : Int)) = k1 + (e1.size : Int) := wrapId (by omega) (by omega)
      by_cases c2 : k1 < k0
      · have c1' : ¬ k1 < 0 := by omega
        go_wp2_with fail
        rw [rounds_succ]
        go_wp2_with fail
        go_ret3
        refine ⟨?_, Below.alloc (Below.refl _ _) (Nat.le_refl _) _⟩
        rw [← hV.out]
        unfold cutV
        rw [if_pos (by omega), if_pos (by omega)]
        rfl
      · have c1' : ¬ k1 < 0 := by omega
        go_wp2_with fail
        rw [rounds_succ]
        go_wp2_with fail
        go_ret3
        refine ⟨?_, Below.alloc (Below.refl _ _) (Nat.le_refl _) _⟩
        rw [← hV.out]
        unfold cutV
        rw [if_pos (by omega), if_neg (by omega)]
        rfl
    · have c1' : k1 < 0 := by omega
      go_wp2_with fail
      rw [rounds_succ]
      go_wp2_with fail
      go_ret3
      refine ⟨?_, Below.alloc (Below.refl _ _) (Nat.le_refl _) _⟩
      rw [← hV.out]
      unfold cutV
      rw [if_pos (by omega), if_neg (by omega)]
      rfl
  · have c0' : k0 < 0 := by omega
    go_wp2_with fail
    rw [rounds_succ]
    go_wp2_with fail
    refine C1.out.mono ?_
    rintro e w1 ⟨rfl, rfl⟩
    clear C1 I1
    by_cases c1 : 0 ≤ k1
    · have w1 : wrap64 (k1 + (e1.size : Int)) = k1 + (e1.size : Int) := wrapId (by omega) (by omega)
      have c1' : ¬ k1 < 0 := by omega
      go_wp2_with fail
      rw [rounds_succ]
      go_wp2_with fail
      go_ret3
      refine ⟨?_, Below.alloc (Below.refl _ _) (Nat.le_refl _) _⟩
      rw [← hV.out]
      unfold cutV
      rw [if_neg (by omega), if_pos (by omega)]
      rfl
    · have c1' : k1 < 0 := by omega
      go_wp2_with fail
      rw [rounds_succ]
      go_wp2_with fail
      go_ret3
      refine ⟨?_, Below.alloc (Below.refl _ _) (Nat.le_refl _) _⟩
      rw [← hV.out]
      unfold cutV
      rw [if_neg (by omega), if_neg (by omega)]
      rfl

/-! ### comment.other -/
def idx (s e : ByteArray) : Int := Lib.index s.data.toList e.data.toList
def cutW (s e0 e1 : ByteArray) : ByteArray × Int × Bool := cutV s e0 e1 (idx s e0) (idx s e1)
theorem cut_c (s e0 e1 : ByteArray) (w : World) (hs : s.size ≤ 1000000000) (h0 : e0.size ≤ 1000) (h1 : e1.size ≤ 1000) (hGl : Glob w) :
    Calls Tryd.prog 89 #[.string s, .agg #[.string e0, .string e1]] w fun e w' => e = .returned (.tuple #[.string (cutW s e0 e1).1, .int .i64 (cutW s e0 e1).2.1, .bool (cutW s e0 e1).2.2]) ∧ Below w.heap.size w w' :=
  cut_any s e0 e1 w hs h0 h1 hGl
def otherV (s : ByteArray) : ByteArray × Int := if (cutW s ⟨#[62]⟩ ⟨#[62]⟩).2.2 = true then ((cutW s ⟨#[62]⟩ ⟨#[62]⟩).1, (cutW s ⟨#[62]⟩ ⟨#[62]⟩).2.1) else (s, (s.size : Int))
theorem other_any (s : ByteArray) (w : World) (hs : s.size ≤ 1000000000) (hGl : Glob w) :
    Calls Tryd.prog 64 #[.string s] w fun e w' => e = .returned (.tuple #[.string (otherV s).1, .int .i64 (otherV s).2]) ∧ Below w.heap.size w w' := by
  have C := Lib.hid (cut_c s ⟨#[62]⟩ ⟨#[62]⟩ w hs (by decide) (by decide) hGl)
  have hV := Lib.hid (show otherV s = if (cutW s ⟨#[62]⟩ ⟨#[62]⟩).2.2 = true then ((cutW s ⟨#[62]⟩ ⟨#[62]⟩).1, (cutW s ⟨#[62]⟩ ⟨#[62]⟩).2.1) else (s, (s.size : Int)) from rfl)
  generalize otherV s = V at hV ⊢
  obtain ⟨⟨c1, c2, c3⟩, hc⟩ : ∃ c, cutW s ⟨#[62]⟩ ⟨#[62]⟩ = c := ⟨_, rfl⟩
  rw [hc] at C hV
  clear hc
  simp only at C hV
  go_enter Tryd.func64, Tryd.ntmps64
  go_wp2_with fail
  refine C.out.mono ?_
  rintro e w1 ⟨rfl, hb⟩
  clear C
  cases c3 with
  | true =>
    go_wp2_with fail
    go_ret2
    refine ⟨?_, hb⟩
    have := hV.out
    rw [if_pos (by simp)] at this
    rw [this]; rfl
  | false =>
    go_wp2_with fail
    go_ret2
    refine ⟨?_, hb⟩
    have := hV.out
    rw [if_neg (by decide)] at this
    rw [this]; rfl

/-! ### comment.plain -/
def pre (s p : ByteArray) : Bool := Lib.hasPrefix s.data.toList p.data.toList
def suf (s p : ByteArray) : Bool := Lib.hasSuffix s.data.toList p.data.toList
def trimS (s p : ByteArray) : ByteArray := ⟨(Lib.trimSuffix s.data.toList p.data.toList).toArray⟩
def plainV (s : ByteArray) : ByteArray × Int :=
  if pre s ⟨#[62]⟩ = true then (⟨#[]⟩, 1) else if pre s ⟨#[45, 62]⟩ = true then (⟨#[]⟩, 2)
  else if (cutW s ⟨#[45, 45, 62]⟩ ⟨#[45, 45, 33, 62]⟩).2.2 = true then ((cutW s ⟨#[45, 45, 62]⟩ ⟨#[45, 45, 33, 62]⟩).1, (cutW s ⟨#[45, 45, 62]⟩ ⟨#[45, 45, 33, 62]⟩).2.1)
  else if suf s ⟨#[45, 45, 33]⟩ = true then (trimS s ⟨#[45, 45, 33]⟩, (s.size : Int))
  else if suf s ⟨#[45, 45]⟩ = true then (trimS s ⟨#[45, 45]⟩, (s.size : Int))
  else if suf s ⟨#[45]⟩ = true then (trimS s ⟨#[45]⟩, (s.size : Int)) else (s, (s.size : Int))
set_option maxRecDepth 100000 in
set_option maxHeartbeats 4000000 in
theorem plain_any (s : ByteArray) (w : World) (hs : s.size ≤ 1000000000) (hGl : Glob w) :
    Calls Tryd.prog 65 #[.string s] w fun e w' => e = .returned (.tuple #[.string (plainV s).1, .int .i64 (plainV s).2]) ∧ Below w.heap.size w w' := by
  have C := Lib.hid (cut_c s ⟨#[45, 45, 62]⟩ ⟨#[45, 45, 33, 62]⟩ w hs (by decide) (by decide) hGl)
  have P0 := Lib.hid (show Calls Tryd.prog 82 #[.string s, .string ⟨#[62]⟩] w fun e w' => e = .returned (.bool (pre s ⟨#[62]⟩)) ∧ w' = w from Tryd.strings_HasPrefix s ⟨#[62]⟩ w)
  have P1 := Lib.hid (show Calls Tryd.prog 82 #[.string s, .string ⟨#[45, 62]⟩] w fun e w' => e = .returned (.bool (pre s ⟨#[45, 62]⟩)) ∧ w' = w from Tryd.strings_HasPrefix s ⟨#[45, 62]⟩ w)
  have SA : ∀ (p : ByteArray) (W : World), Calls Tryd.prog 90 #[.string s, .string p] W fun e w' => e = .returned (.tuple #[.string (trimS s p), .bool (suf s p)]) ∧ w' = W := fun p W => Tryd.strings_CutSuffix s p W (by omega)
  have S0 := Lib.hid (SA ⟨#[45, 45, 33]⟩)
  have S1 := Lib.hid (SA ⟨#[45, 45]⟩)
  have S2 := Lib.hid (SA ⟨#[45]⟩)
  clear SA
  have I0 := ix2_0 ⟨#[62]⟩ ⟨#[45, 62]⟩
  have I1 := ix2_1 ⟨#[62]⟩ ⟨#[45, 62]⟩
  have J0 := ix3_0 ⟨#[45, 45, 33]⟩ ⟨#[45, 45]⟩ ⟨#[45]⟩
  have J1 := ix3_1 ⟨#[45, 45, 33]⟩ ⟨#[45, 45]⟩ ⟨#[45]⟩
  have J2 := ix3_2 ⟨#[45, 45, 33]⟩ ⟨#[45, 45]⟩ ⟨#[45]⟩
  have hV0 : plainV s = plainV s := rfl
  conv at hV0 => rhs; unfold plainV
  generalize plainV s = V at hV0 ⊢
  generalize pre s ⟨#[62]⟩ = p0 at P0 hV0
  generalize pre s ⟨#[45, 62]⟩ = p1 at P1 hV0
  generalize suf s ⟨#[45, 45, 33]⟩ = s0 at S0 hV0
  generalize suf s ⟨#[45, 45]⟩ = s1 at S1 hV0
  generalize suf s ⟨#[45]⟩ = s2 at S2 hV0
  generalize trimS s ⟨#[45, 45, 33]⟩ = t0 at S0 hV0
  generalize trimS s ⟨#[45, 45]⟩ = t1 at S1 hV0
  generalize trimS s ⟨#[45]⟩ = t2 at S2 hV0
  obtain ⟨⟨c1, c2, c3⟩, hc⟩ : ∃ c, cutW s ⟨#[45, 45, 62]⟩ ⟨#[45, 45, 33, 62]⟩ = c := ⟨_, rfl⟩
  rw [hc] at C hV0
  clear hc
  simp only at C hV0
  have hV := Lib.hid hV0
  clear hV0
  go_enter Tryd.func65, Tryd.ntmps65
  go_wp2_with fail
  refine wp_loop_rounds 3 ?_
  rw [rounds_succ]
  go_wp2_with fail
  refine P0.out.mono ?_
  rintro e w1 ⟨rfl, rfl⟩
  clear P0 I0
  cases p0 with
  | true =>
    go_wp2_with fail
    go_ret2
    refine ⟨?_, Below.refl _ _⟩
    rw [hV.out, if_pos (by simp)]; rfl
  | false =>
    go_wp2_with fail
    rw [rounds_succ]
    go_wp2_with fail
    refine P1.out.mono ?_
    rintro e w1 ⟨rfl, rfl⟩
    clear P1 I1
    cases p1 with
    | true =>
      go_wp2_with fail
      go_ret2
      refine ⟨?_, Below.refl _ _⟩
      rw [hV.out, if_neg (by decide), if_pos (by simp)]; rfl
    | false =>
      go_wp2_with fail
      rw [rounds_succ]
      go_wp2_with fail
      refine C.out.mono ?_
      rintro e w1 ⟨rfl, hb⟩
      clear C
      cases c3 with
      | true =>
        go_wp2_with fail
        go_ret2
        refine ⟨?_, hb⟩
        rw [hV.out, if_neg (by decide), if_neg (by decide), if_pos (by simp)]; rfl
      | false =>
        go_wp2_with fail
        refine wp_loop_rounds 4 ?_
        rw [rounds_succ]
        go_wp2_with fail
        refine (S0.out _).mono ?_
        rintro e w2 ⟨rfl, rfl⟩
        clear S0 J0
        cases s0 with
        | true =>
          go_wp2_with fail
          go_ret2
          refine ⟨?_, hb⟩
          rw [hV.out, if_neg (by decide), if_neg (by decide), if_neg (by decide), if_pos (by simp)]; rfl
        | false =>
          go_wp2_with fail
          rw [rounds_succ]
          go_wp2_with fail
          refine (S1.out _).mono ?_
          rintro e w2 ⟨rfl, rfl⟩
          clear S1 J1
          cases s1 with
          | true =>
            go_wp2_with fail
            go_ret2
            refine ⟨?_, hb⟩
            rw [hV.out, if_neg (by decide), if_neg (by decide), if_neg (by decide), if_neg (by decide), if_pos (by simp)]; rfl
          | false =>
            go_wp2_with fail
            rw [rounds_succ]
            go_wp2_with fail
            refine (S2.out _).mono ?_
            rintro e w2 ⟨rfl, rfl⟩
            clear S2 J2
            cases s2 with
            | true =>
              go_wp2_with fail
              go_ret2
              refine ⟨?_, hb⟩
              rw [hV.out, if_neg (by decide), if_neg (by decide), if_neg (by decide), if_neg (by decide), if_neg (by decide), if_pos (by simp)]; rfl
            | false =>
              go_wp2_with fail
              rw [rounds_succ]
              go_wp2_with fail
              go_ret2
              refine ⟨?_, hb⟩
              rw [hV.out, if_neg (by decide), if_neg (by decide), if_neg (by decide), if_neg (by decide), if_neg (by decide), if_neg (by decide)]; rfl
end Go.Proofs.YtppaobgccdlccaaDoor.Hand

namespace Go.Proofs.YtppaobgccdlccaaDoor.Hand
open Go.RowKit Go.Proofs.YtppaobgccdlccaaDoor.K0 Go.Proofs.YtppaobgccdlccaaDoor.Pl Go.Proofs.YtppaobgccdlccaaDoor.Sa Go.Proofs.YtppaobgccdlccaaDoorW.PrintWords Go.Proofs.YtppaobgccdlccaaDoorW.PrintLast Go.Proofs.YtppaobgccdlccaaDoorW.PrintMore

/-- a token that lies in a block of its own -/
structure Tok (b : Nat) (v : Array Value) (W : World) : Prop where
  cell : ∀ j, j < 5 → W.cell? ⟨b, j, none⟩ = v[j]?
  open_ : ∀ j, W.frozen? ⟨b, j, none⟩ = false
theorem Tok.of_alloc (v : Array Value) (t : TypeId) (w : World) : Tok w.heap.size v (w.alloc (.cells v t)) :=
  ⟨fun j _ => World.cell?_alloc_at v t _ j rfl, fun j => World.frozen?_alloc_at v t _ j rfl⟩
theorem Tok.below {b : Nat} {v : Array Value} {W W' : World} (h : Tok b v W) {n : Nat} (hb : Below n W W') (hn : b < n) : Tok b v W' :=
  ⟨fun j hj => (hb.cell (p := ⟨b, j, none⟩) hn).trans (h.cell j hj), fun j => (hb.frozen (p := ⟨b, j, none⟩) hn).trans (h.open_ j)⟩
def putTok (W : World) (b : Nat) (x0 x1 x2 x3 x4 : Value) : World :=
  ((((W.setCell ⟨b, 0, none⟩ x0).setCell ⟨b, 1, none⟩ x1).setCell ⟨b, 2, none⟩ x2).setCell ⟨b, 3, none⟩ x3).setCell ⟨b, 4, none⟩ x4
theorem put_below {w W : World} (b : Nat) (hb : w.heap.size ≤ b) (h : Below w.heap.size w W) (x0 x1 x2 x3 x4 : Value) : Below w.heap.size w (putTok W b x0 x1 x2 x3 x4) :=
  ((((h.setCell hb _).setCell hb _).setCell hb _).setCell hb _).setCell hb _
theorem ne_off {b i j : Nat} (h : i ≠ j) : (⟨b, i, none⟩ : Addr) ≠ ⟨b, j, none⟩ := by intro e; injection e with _ e _; exact h e
section
variable {b : Nat} {y0 y1 y2 y3 y4 : Value} {W : World} (h : Tok b #[y0, y1, y2, y3, y4] W)
include h
theorem Tok.f1 (x0 : Value) : (W.setCell ⟨b, 0, none⟩ x0).cell? ⟨b, 1, none⟩ = some y1 := by rw [World.cell?_setCell_other _ _ _ _ (ne_off (by decide)), h.cell 1 (by decide)]; rfl
theorem Tok.f2 (x0 x1 : Value) : ((W.setCell ⟨b, 0, none⟩ x0).setCell ⟨b, 1, none⟩ x1).cell? ⟨b, 2, none⟩ = some y2 := by
  rw [World.cell?_setCell_other _ _ _ _ (ne_off (by decide)), World.cell?_setCell_other _ _ _ _ (ne_off (by decide)), h.cell 2 (by decide)]; rfl
theorem Tok.f3 (x0 x1 x2 : Value) : (((W.setCell ⟨b, 0, none⟩ x0).setCell ⟨b, 1, none⟩ x1).setCell ⟨b, 2, none⟩ x2).cell? ⟨b, 3, none⟩ = some y3 := by
  rw [World.cell?_setCell_other _ _ _ _ (ne_off (by decide)), World.cell?_setCell_other _ _ _ _ (ne_off (by decide)), World.cell?_setCell_other _ _ _ _ (ne_off (by decide)), h.cell 3 (by decide)]; rfl
theorem Tok.f4 (x0 x1 x2 x3 : Value) : ((((W.setCell ⟨b, 0, none⟩ x0).setCell ⟨b, 1, none⟩ x1).setCell ⟨b, 2, none⟩ x2).setCell ⟨b, 3, none⟩ x3).cell? ⟨b, 4, none⟩ = some y4 := by
  rw [World.cell?_setCell_other _ _ _ _ (ne_off (by decide)), World.cell?_setCell_other _ _ _ _ (ne_off (by decide)), World.cell?_setCell_other _ _ _ _ (ne_off (by decide)), World.cell?_setCell_other _ _ _ _ (ne_off (by decide)), h.cell 4 (by decide)]; rfl
end


theorem Tok.put {b : Nat} {y0 y1 y2 y3 y4 : Value} {W : World} (h : Tok b #[y0, y1, y2, y3, y4] W) (x0 x1 x2 x3 x4 : Value) : Tok b #[x0, x1, x2, x3, x4] (putTok W b x0 x1 x2 x3 x4) := by
  unfold putTok
  refine ⟨fun j hj => ?_, fun j => by simp only [World.frozen?_setCell]; exact h.open_ j⟩
  match j, hj with
  | 0, _ =>
    rw [World.cell?_setCell_other _ _ _ _ (ne_off (by decide)), World.cell?_setCell_other _ _ _ _ (ne_off (by decide)), World.cell?_setCell_other _ _ _ _ (ne_off (by decide)), World.cell?_setCell_other _ _ _ _ (ne_off (by decide)), World.cell?_setCell_same _ _ _ (h.cell 0 (by decide))]; rfl
  | 1, _ =>
    rw [World.cell?_setCell_other _ _ _ _ (ne_off (by decide)), World.cell?_setCell_other _ _ _ _ (ne_off (by decide)), World.cell?_setCell_other _ _ _ _ (ne_off (by decide)), World.cell?_setCell_same _ _ _ (h.f1 _)]; rfl
  | 2, _ =>
    rw [World.cell?_setCell_other _ _ _ _ (ne_off (by decide)), World.cell?_setCell_other _ _ _ _ (ne_off (by decide)), World.cell?_setCell_same _ _ _ (h.f2 _ _)]; rfl
  | 3, _ =>
    rw [World.cell?_setCell_other _ _ _ _ (ne_off (by decide)), World.cell?_setCell_same _ _ _ (h.f3 _ _ _)]; rfl
  | 4, _ =>
    rw [World.cell?_setCell_same _ _ _ (h.f4 _ _ _ _)]; rfl
theorem Tok.load {b : Nat} {x0 x1 x2 x3 x4 : Value} {W : World} (h : Tok b #[x0, x1, x2, x3, x4] W) : (loadVar 35 ⟨b, 0, none⟩).run Tryd.prog W = .ok (.agg #[x0, x1, x2, x3, x4]) W := by
  have hl : (loadCells ⟨b, 0, none⟩ [x0, x1, x2, x3, x4].length).run Tryd.prog W = .ok [x0, x1, x2, x3, x4].toArray W :=
    run_loadCells_list (P := Tryd.prog) W ⟨b, 0, none⟩ [x0, x1, x2, x3, x4] (fun j v hv => by
      have hadd : (⟨b, 0, none⟩ : Addr).add j = ⟨b, j, none⟩ := by unfold Addr.add; split <;> simp_all
      have hj : j < 5 := by
        rcases Nat.lt_or_ge j 5 with h' | h'
        · exact h'
        · rw [List.getElem?_eq_none (by simpa using h')] at hv; cases hv
      rw [hadd, h.cell j hj, ← hv]; simp)
  have hagg : (isAgg 35).run Tryd.prog W = .ok true W := by
    unfold isAgg
    rw [Sem.run_bind, run_underlying Tryd.underlying35 W]
    rfl
  obtain ⟨i, hi⟩ := info_of_underlying (P := Tryd.prog) Tryd.underlying35
  have hc : Tryd.prog.cellsOf 35 = 5 := by kernel_rfl
  have hsz := run_sizeOf (P := Tryd.prog) W hi
  rw [hc] at hsz
  unfold loadVar
  rw [Sem.run_bind, hagg]
  simp only [Result.andThen_ok, if_true, Sem.run_bind, hsz]
  rw [show (5 : Nat) = [x0, x1, x2, x3, x4].length from rfl, hl]
  rfl
theorem results_ctt {P : Program} {fn : Func} {p u v : Tmp} {ty : TypeId} {b : Nat} {X : Value} {tmps : Array Value} {w : World} (h : fn.results = #[.cell p ty, .tmp u, .tmp v]) (hp : tmps.getD p undef = .pointer (some ⟨b, 0, none⟩))
    (hl : (loadVar ty ⟨b, 0, none⟩).run P w = .ok X w) : (results fn tmps).run P w = .ok (.tuple #[X, tmps.getD u undef, tmps.getD v undef]) w := by
  have hp' : tmps[p]?.getD undef = .pointer (some ⟨b, 0, none⟩) := by simpa using hp
  simp only [results, h]
  simp [Sem.run_bind, Result.andThen, hp', asAddr, hl]

def comment_Read.g (a0 : ByteArray) (fr : Int) (V : ByteArray → ByteArray × Int) : Option (Int × ByteArray × ByteArray × (List S88) × Bool × Int × Bool) :=
  if 0 ≤ fr ∧ fr ≤ (a0.size : Int) then (lines_Clean.f (V (a0.extract fr.toNat a0.size)).1).bind fun t => some (3, (⟨#[]⟩ : ByteArray), t, ([] : List S88), false, wrap64 (fr + (V (a0.extract fr.toNat a0.size)).2), true) else none
def comment_Read.f (a0 : ByteArray) (a1 : Int) : Option (Int × ByteArray × ByteArray × (List S88) × Bool × Int × Bool) :=
  if a0.size ≤ 1000000000 then (comment_Begins.f a0 a1).bind fun b =>
    if b = true then (sign_Begins.f a0 a1 ⟨#[60, 33, 45, 45]⟩).bind fun c =>
      if c = true then comment_Read.g a0 (wrap64 (a1 + 4)) plainV
      else (sign_Begins.f a0 a1 ⟨#[60, 63]⟩).bind fun d => if d = true then comment_Read.g a0 (wrap64 (a1 + 1)) otherV else comment_Read.g a0 (wrap64 (a1 + 2)) otherV
    else some (0, (⟨#[]⟩ : ByteArray), (⟨#[]⟩ : ByteArray), ([] : List S88), false, a1, false)
  else none
theorem hg_split {α : Type} {p : Prop} [Decidable p] {x : Option α} {r : α} (h : (if p then x else none) = some r) : p ∧ x = some r := by
  by_cases hp : p
  · rw [if_pos hp] at h; exact ⟨hp, h⟩
  · rw [if_neg hp] at h; cases h
theorem tup7 {α β γ δ ε ζ η : Type} {a a' : α} {b b' : β} {c c' : γ} {d d' : δ} {e e' : ε} {f f' : ζ} {g g' : η} (h : some (a, b, c, d, e, f, g) = some (a', b', c', d', e', f', g')) :
    a = a' ∧ b = b' ∧ c = c' ∧ d = d' ∧ e = e' ∧ f = f' ∧ g = g' := by
  simp only [Option.some.injEq, Prod.mk.injEq] at h; exact h
def T0 : Array Value := #[.int .i64 0, .string ⟨#[]⟩, .string ⟨#[]⟩, .slice none 0 0, .bool false]
set_option maxRecDepth 100000 in
set_option maxHeartbeats 8000000 in
theorem comment_Read.exact (a0 : ByteArray) (a1 : Int) (r1 : Int) (r2 : ByteArray) (r3 : ByteArray) (r4 : List (S88)) (r5 : Bool) (r6 : Int) (r7 : Bool) (w : World) (hGl : Glob w) (h : comment_Read.f a0 a1 = some (r1, r2, r3, r4, r5, r6, r7)) :
    Calls Tryd.prog 37 #[.string a0, .int .i64 a1] w fun e w' => e = .returned (.tuple #[.agg #[.int .i64 r1, .string r2, .string r3, .slice none 0 0, .bool r5], .int .i64 r6, .bool r7]) ∧ r4 = [] ∧ Below w.heap.size w w' := by
  have hu35 := Tryd.underlying35
  unfold comment_Read.f at h
  obtain ⟨hsize, h⟩ := hg_split h
  obtain ⟨b, hb, h⟩ := Option.bind_eq_some_iff.1 h
  have H := Lib.hid h
  clear h
  have CB := Lib.hid (fun W => comment_Begins.calls a0 a1 b W hb)
  clear hb
  have hT := Lib.hid (Tok.of_alloc T0 35 w)
  have hB0 := Lib.hid (Below.alloc (Below.refl w.heap.size w) (Nat.le_refl _) (.cells T0 35))
  have hsz : w.heap.size < (w.alloc (.cells T0 35)).heap.size := by simp
  go_enter Tryd.func37, Tryd.ntmps37
  go_wp2_with fail
  refine (CB.out _).mono ?_
  rintro e w1 ⟨rfl, hb1⟩
  clear CB
  have hT1 := Lib.hid (hT.out.below hb1 hsz)
  have hB1 := Lib.hid (hB0.out.trans (hb1.mono (Nat.le_of_lt hsz)))
  have hl1 := Nat.lt_of_lt_of_le hsz hb1.size
  clear hb1 hsz hT hB0
  cases b with
  | false =>
    have H := H.out
    rw [if_neg (by simp)] at H
    obtain ⟨rfl, rfl, rfl, rfl, rfl, rfl, rfl⟩ := tup7 H
    clear H
    have q0 : w1.cell? ⟨w.heap.size, 0, none⟩ = some (.int .i64 0) := hT1.out.cell 0 (by decide)
    have q1 := Tok.f1 hT1.out
    have q2 := Tok.f2 hT1.out
    have q3 := Tok.f3 hT1.out
    have q4 := Tok.f4 hT1.out
    have q5 : ∀ j, w1.frozen? ⟨w.heap.size, j, none⟩ = false := hT1.out.open_
    go_wp2_with fail
    refine bodyPost_ret (results_ctt rfl rfl (Tok.load (hT1.out.put _ _ _ _ _))) rfl ?_
    first | exact ⟨rfl, rfl, put_below _ (Nat.le_refl _) hB1.out _ _ _ _ _⟩ | exact ⟨rfl, put_below _ (Nat.le_refl _) hB1.out _ _ _ _ _⟩
  | true =>
    replace H := H.out
    rw [if_pos (by simp)] at H
    obtain ⟨c, hc, H0⟩ := Option.bind_eq_some_iff.1 H
    clear H
    have H := Lib.hid H0
    clear H0
    have CS := Lib.hid (sign_Begins.calls a0 a1 ⟨#[60, 33, 45, 45]⟩ c w1 hc)
    clear hc
    go_wp2_with fail
    refine CS.out.mono ?_
    rintro e w2 ⟨rfl, hb2⟩
    clear CS
    have hT2 := Lib.hid (hT1.out.below hb2 hl1)
    have hB2 := Lib.hid (hB1.out.trans (hb2.mono (Nat.le_of_lt hl1)))
    have hl2 := Nat.lt_of_lt_of_le hl1 hb2.size
    clear hb2 hT1 hB1 hl1
    cases c with
    | true =>
      replace H := Lib.hid (by have := H.out; rw [if_pos (by simp)] at this; exact this)
      unfold comment_Read.g at H
      obtain ⟨⟨z0, z1⟩, H⟩ := hg_split H.out
      obtain ⟨t, ht, H⟩ := Option.bind_eq_some_iff.1 H
      obtain ⟨rfl, rfl, rfl, rfl, rfl, e6, rfl⟩ := tup7 H
      have z0' := eq_true z0
      have z1' := eq_true z1
      have CV := Lib.hid (plain_any (a0.extract (wrap64 (a1 + 4)).toNat a0.size) _ (by simp only [ByteArray.size_extract]; omega) (hGl.step hB2.out))
      have ht := Lib.hid ht
      obtain ⟨⟨x1, x2⟩, hx⟩ : ∃ x, plainV (a0.extract (wrap64 (a1 + 4)).toNat a0.size) = x := ⟨_, rfl⟩
      rw [hx] at CV ht e6
      clear hx
      simp only at CV ht e6
      obtain ⟨fr, hfr⟩ : ∃ fr, (wrap64 (a1 + 4)) = fr := ⟨_, rfl⟩
      have hfr' : (IntKind.i64.wrap (a1 + 4)) = fr := (i64_w _).trans hfr
      rw [hfr] at CV z0 z1 z0' z1' e6
      replace e6 := Lib.hid e6
      go_wp2_with fail
      refine CV.out.mono ?_
      rintro e w5 ⟨rfl, hb5⟩
      clear CV
      have hT5 := Lib.hid (hT2.out.below hb5 (hl2))
      have hB5 := Lib.hid (hB2.out.trans (hb5.mono (Nat.le_of_lt (hl2))))
      have hl5 := Nat.lt_of_lt_of_le (hl2) hb5.size
      have CC := Lib.hid (lines_Clean.calls x1 t w5 (hGl.step hB5.out) ht.out)
      clear hb5 ht
      go_wp2_with fail
      refine CC.out.mono ?_
      rintro e w6 ⟨rfl, hb6⟩
      clear CC
      have hT6 := Lib.hid (hT5.out.below hb6 hl5)
      have hB6 := Lib.hid (hB5.out.trans (hb6.mono (Nat.le_of_lt hl5)))
      clear hb6 hT5 hB5
      have q0 : w6.cell? ⟨w.heap.size, 0, none⟩ = some (.int .i64 0) := hT6.out.cell 0 (by decide)
      have q1 := Tok.f1 hT6.out
      have q2 := Tok.f2 hT6.out
      have q3 := Tok.f3 hT6.out
      have q4 := Tok.f4 hT6.out
      have q5 : ∀ j, w6.frozen? ⟨w.heap.size, j, none⟩ = false := hT6.out.open_
      go_wp2_with fail
      refine bodyPost_ret (results_ctt rfl rfl (Tok.load (hT6.out.put _ _ _ _ _))) rfl ?_
      first | refine ⟨?_, rfl, ?_⟩ | refine ⟨?_, ?_⟩
      · show Ending.returned (.tuple #[_, .int .i64 (wrap64 (fr + x2)), .bool true]) = _
        rw [e6.out]
      · exact put_below _ (Nat.le_refl _) hB6.out _ _ _ _ _
    | false =>
      have H0 := H.out
      rw [if_neg (by simp)] at H0
      clear H
      obtain ⟨d, hd, H1⟩ := Option.bind_eq_some_iff.1 H0
      clear H0
      have H := Lib.hid H1
      clear H1
      have CD := Lib.hid (sign_Begins.calls a0 a1 ⟨#[60, 63]⟩ d w2 hd)
      clear hd
      go_wp2_with fail
      refine CD.out.mono ?_
      rintro e w3 ⟨rfl, hb3⟩
      clear CD
      have hT3 := Lib.hid (hT2.out.below hb3 hl2)
      have hB3 := Lib.hid (hB2.out.trans (hb3.mono (Nat.le_of_lt hl2)))
      have hl3 := Nat.lt_of_lt_of_le hl2 hb3.size
      clear hb3 hT2 hB2 hl2
      cases d with
      | true =>
        replace H := Lib.hid (by have := H.out; rw [if_pos (by simp)] at this; exact this)
        unfold comment_Read.g at H
        obtain ⟨⟨z0, z1⟩, H⟩ := hg_split H.out
        obtain ⟨t, ht, H⟩ := Option.bind_eq_some_iff.1 H
        obtain ⟨rfl, rfl, rfl, rfl, rfl, e6, rfl⟩ := tup7 H
        have z0' := eq_true z0
        have z1' := eq_true z1
        have CV := Lib.hid (other_any (a0.extract (wrap64 (a1 + 1)).toNat a0.size) _ (by simp only [ByteArray.size_extract]; omega) (hGl.step hB3.out))
        have ht := Lib.hid ht
        obtain ⟨⟨x1, x2⟩, hx⟩ : ∃ x, otherV (a0.extract (wrap64 (a1 + 1)).toNat a0.size) = x := ⟨_, rfl⟩
        rw [hx] at CV ht e6
        clear hx
        simp only at CV ht e6
        obtain ⟨fr, hfr⟩ : ∃ fr, (wrap64 (a1 + 1)) = fr := ⟨_, rfl⟩
        have hfr' : (IntKind.i64.wrap (a1 + 1)) = fr := (i64_w _).trans hfr
        rw [hfr] at CV z0 z1 z0' z1' e6
        replace e6 := Lib.hid e6
        go_wp2_with fail
        refine CV.out.mono ?_
        rintro e w5 ⟨rfl, hb5⟩
        clear CV
        have hT5 := Lib.hid (hT3.out.below hb5 (hl3))
        have hB5 := Lib.hid (hB3.out.trans (hb5.mono (Nat.le_of_lt (hl3))))
        have hl5 := Nat.lt_of_lt_of_le (hl3) hb5.size
        have CC := Lib.hid (lines_Clean.calls x1 t w5 (hGl.step hB5.out) ht.out)
        clear hb5 ht
        go_wp2_with fail
        refine CC.out.mono ?_
        rintro e w6 ⟨rfl, hb6⟩
        clear CC
        have hT6 := Lib.hid (hT5.out.below hb6 hl5)
        have hB6 := Lib.hid (hB5.out.trans (hb6.mono (Nat.le_of_lt hl5)))
        clear hb6 hT5 hB5
        have q0 : w6.cell? ⟨w.heap.size, 0, none⟩ = some (.int .i64 0) := hT6.out.cell 0 (by decide)
        have q1 := Tok.f1 hT6.out
        have q2 := Tok.f2 hT6.out
        have q3 := Tok.f3 hT6.out
        have q4 := Tok.f4 hT6.out
        have q5 : ∀ j, w6.frozen? ⟨w.heap.size, j, none⟩ = false := hT6.out.open_
        go_wp2_with fail
        refine bodyPost_ret (results_ctt rfl rfl (Tok.load (hT6.out.put _ _ _ _ _))) rfl ?_
        first | refine ⟨?_, rfl, ?_⟩ | refine ⟨?_, ?_⟩
        · show Ending.returned (.tuple #[_, .int .i64 (wrap64 (fr + x2)), .bool true]) = _
          rw [e6.out]
        · exact put_below _ (Nat.le_refl _) hB6.out _ _ _ _ _
      | false =>
        replace H := Lib.hid (by have := H.out; rw [if_neg (by simp)] at this; exact this)
        unfold comment_Read.g at H
        obtain ⟨⟨z0, z1⟩, H⟩ := hg_split H.out
        obtain ⟨t, ht, H⟩ := Option.bind_eq_some_iff.1 H
        obtain ⟨rfl, rfl, rfl, rfl, rfl, e6, rfl⟩ := tup7 H
        have z0' := eq_true z0
        have z1' := eq_true z1
        have CV := Lib.hid (other_any (a0.extract (wrap64 (a1 + 2)).toNat a0.size) _ (by simp only [ByteArray.size_extract]; omega) (hGl.step hB3.out))
        have ht := Lib.hid ht
        obtain ⟨⟨x1, x2⟩, hx⟩ : ∃ x, otherV (a0.extract (wrap64 (a1 + 2)).toNat a0.size) = x := ⟨_, rfl⟩
        rw [hx] at CV ht e6
        clear hx
        simp only at CV ht e6
        obtain ⟨fr, hfr⟩ : ∃ fr, (wrap64 (a1 + 2)) = fr := ⟨_, rfl⟩
        have hfr' : (IntKind.i64.wrap (a1 + 2)) = fr := (i64_w _).trans hfr
        rw [hfr] at CV z0 z1 z0' z1' e6
        replace e6 := Lib.hid e6
        go_wp2_with fail
        refine CV.out.mono ?_
        rintro e w5 ⟨rfl, hb5⟩
        clear CV
        have hT5 := Lib.hid (hT3.out.below hb5 (hl3))
        have hB5 := Lib.hid (hB3.out.trans (hb5.mono (Nat.le_of_lt (hl3))))
        have hl5 := Nat.lt_of_lt_of_le (hl3) hb5.size
        have CC := Lib.hid (lines_Clean.calls x1 t w5 (hGl.step hB5.out) ht.out)
        clear hb5 ht
        go_wp2_with fail
        refine CC.out.mono ?_
        rintro e w6 ⟨rfl, hb6⟩
        clear CC
        have hT6 := Lib.hid (hT5.out.below hb6 hl5)
        have hB6 := Lib.hid (hB5.out.trans (hb6.mono (Nat.le_of_lt hl5)))
        clear hb6 hT5 hB5
        have q0 : w6.cell? ⟨w.heap.size, 0, none⟩ = some (.int .i64 0) := hT6.out.cell 0 (by decide)
        have q1 := Tok.f1 hT6.out
        have q2 := Tok.f2 hT6.out
        have q3 := Tok.f3 hT6.out
        have q4 := Tok.f4 hT6.out
        have q5 : ∀ j, w6.frozen? ⟨w.heap.size, j, none⟩ = false := hT6.out.open_
        go_wp2_with fail
        refine bodyPost_ret (results_ctt rfl rfl (Tok.load (hT6.out.put _ _ _ _ _))) rfl ?_
        first | refine ⟨?_, rfl, ?_⟩ | refine ⟨?_, ?_⟩
        · show Ending.returned (.tuple #[_, .int .i64 (wrap64 (fr + x2)), .bool true]) = _
          rw [e6.out]
        · exact put_below _ (Nat.le_refl _) hB6.out _ _ _ _ _
theorem comment_Read.calls (a0 : ByteArray) (a1 : Int) (r1 : Int) (r2 : ByteArray) (r3 : ByteArray) (r4 : List (S88)) (r5 : Bool) (r6 : Int) (r7 : Bool) (w : World) (hGl : Glob w) (h : comment_Read.f a0 a1 = some (r1, r2, r3, r4, r5, r6, r7)) :
    Calls Tryd.prog 37 #[.string a0, .int .i64 a1] w fun e w' => ∃ v3_ : Value, e = .returned (.tuple #[.agg #[.int .i64 r1, .string r2, .string r3, v3_, .bool r5], .int .i64 r6, .bool r7]) ∧ Kd.R k88 88 w' w.heap.size (fun _ => True) v3_ r4 ∧ Below w.heap.size w w' := by
  refine (comment_Read.exact a0 a1 r1 r2 r3 r4 r5 r6 r7 w hGl h).mono ?_
  rintro e w' ⟨h1, rfl, h2⟩
  exact ⟨_, h1, Kd.R_nil _ _ _ _ _, h2⟩
end Go.Proofs.YtppaobgccdlccaaDoor.Hand

namespace Go.Proofs.YtppaobgccdlccaaDoor.Hand
open Go.RowKit Go.Proofs.YtppaobgccdlccaaDoor.K0 Go.Proofs.YtppaobgccdlccaaDoor.Pl Go.Proofs.YtppaobgccdlccaaDoor.Sa Go.Proofs.YtppaobgccdlccaaDoorW.PrintWords Go.Proofs.YtppaobgccdlccaaDoorW.PrintLast Go.Proofs.YtppaobgccdlccaaDoorW.PrintMore

theorem awc1 : comment_Read.f ⟨#[60, 33, 45, 45, 97, 45, 45, 62]⟩ 0 = some (3, ⟨#[]⟩, ⟨#[97]⟩, [], false, 8, true) := by kernel_rfl
theorem awc2 : comment_Read.f ⟨#[60, 33, 45, 45, 62]⟩ 0 = some (3, ⟨#[]⟩, ⟨#[]⟩, [], false, 5, true) := by kernel_rfl
theorem awc3 : comment_Read.f ⟨#[60, 63, 120, 62]⟩ 0 = some (3, ⟨#[]⟩, ⟨#[63, 120]⟩, [], false, 4, true) := by kernel_rfl
theorem awc4 : comment_Read.f ⟨#[60, 47, 32, 97, 62]⟩ 0 = some (3, ⟨#[]⟩, ⟨#[32, 97]⟩, [], false, 5, true) := by kernel_rfl
theorem awc5 : comment_Begins.f ⟨#[60, 33]⟩ 0 = some true := by kernel_rfl

set_option maxRecDepth 100000 in
set_option maxHeartbeats 2000000 in
theorem awake10_any (w : World) (hGl : Glob w) : Calls Tryd.prog 36 #[] w fun e w' => e = .returned (.bool true) ∧ Below w.heap.size w w' := by
  have hu35 := Tryd.underlying35
  have HB0 := Lib.hid (Below.refl w.heap.size w)
  go_enter Tryd.func36, Tryd.ntmps36
  go_wp2_with fail
  refine (comment_Read.exact _ _ _ _ _ _ _ _ _ _ (hGl.step HB0.out) awc1).mono ?_
  rintro e w1 ⟨rfl, -, hb⟩
  have HA1 := Lib.hid (HB0.out.trans (hb.mono HB0.out.size))
  clear hb
  go_wp2_with fail
  have HT1 := Lib.hid (Tok.of_alloc #[.int .i64 3, .string ⟨#[]⟩, .string ⟨#[97]⟩, .slice none 0 0, .bool false] 35 w1)
  have HB1 := Lib.hid (HA1.out.alloc HA1.out.size (.cells #[.int .i64 3, .string ⟨#[]⟩, .string ⟨#[97]⟩, .slice none 0 0, .bool false] 35))
  have hb : Below w1.heap.size w1 (w1.alloc (.cells #[.int .i64 3, .string ⟨#[]⟩, .string ⟨#[97]⟩, .slice none 0 0, .bool false] 35)) := Below.alloc (Below.refl _ _) (Nat.le_refl _) _
  have hsz1 : w1.heap.size < (w1.alloc (.cells #[.int .i64 3, .string ⟨#[]⟩, .string ⟨#[97]⟩, .slice none 0 0, .bool false] 35)).heap.size := by simp
  clear hb HA1
  refine (comment_Read.exact _ _ _ _ _ _ _ _ _ _ (hGl.step HB1.out) awc2).mono ?_
  rintro e w2 ⟨rfl, -, hb⟩
  have HA2 := Lib.hid (HB1.out.trans (hb.mono HB1.out.size))
  replace HT1 := Lib.hid (HT1.out.below hb hsz1)
  replace hsz1 := Nat.lt_of_lt_of_le hsz1 hb.size
  clear hb
  go_wp2_with fail
  have HT2 := Lib.hid (Tok.of_alloc #[.int .i64 3, .string ⟨#[]⟩, .string ⟨#[]⟩, .slice none 0 0, .bool false] 35 w2)
  have HB2 := Lib.hid (HA2.out.alloc HA2.out.size (.cells #[.int .i64 3, .string ⟨#[]⟩, .string ⟨#[]⟩, .slice none 0 0, .bool false] 35))
  have hb : Below w2.heap.size w2 (w2.alloc (.cells #[.int .i64 3, .string ⟨#[]⟩, .string ⟨#[]⟩, .slice none 0 0, .bool false] 35)) := Below.alloc (Below.refl _ _) (Nat.le_refl _) _
  replace HT1 := Lib.hid (HT1.out.below hb hsz1)
  replace hsz1 := Nat.lt_of_lt_of_le hsz1 hb.size
  have hsz2 : w2.heap.size < (w2.alloc (.cells #[.int .i64 3, .string ⟨#[]⟩, .string ⟨#[]⟩, .slice none 0 0, .bool false] 35)).heap.size := by simp
  clear hb HA2
  refine (comment_Read.exact _ _ _ _ _ _ _ _ _ _ (hGl.step HB2.out) awc3).mono ?_
  rintro e w3 ⟨rfl, -, hb⟩
  have HA3 := Lib.hid (HB2.out.trans (hb.mono HB2.out.size))
  replace HT1 := Lib.hid (HT1.out.below hb hsz1)
  replace hsz1 := Nat.lt_of_lt_of_le hsz1 hb.size
  replace HT2 := Lib.hid (HT2.out.below hb hsz2)
  replace hsz2 := Nat.lt_of_lt_of_le hsz2 hb.size
  clear hb
  go_wp2_with fail
  have HT3 := Lib.hid (Tok.of_alloc #[.int .i64 3, .string ⟨#[]⟩, .string ⟨#[63, 120]⟩, .slice none 0 0, .bool false] 35 w3)
  have HB3 := Lib.hid (HA3.out.alloc HA3.out.size (.cells #[.int .i64 3, .string ⟨#[]⟩, .string ⟨#[63, 120]⟩, .slice none 0 0, .bool false] 35))
  have hb : Below w3.heap.size w3 (w3.alloc (.cells #[.int .i64 3, .string ⟨#[]⟩, .string ⟨#[63, 120]⟩, .slice none 0 0, .bool false] 35)) := Below.alloc (Below.refl _ _) (Nat.le_refl _) _
  replace HT1 := Lib.hid (HT1.out.below hb hsz1)
  replace hsz1 := Nat.lt_of_lt_of_le hsz1 hb.size
  replace HT2 := Lib.hid (HT2.out.below hb hsz2)
  replace hsz2 := Nat.lt_of_lt_of_le hsz2 hb.size
  have hsz3 : w3.heap.size < (w3.alloc (.cells #[.int .i64 3, .string ⟨#[]⟩, .string ⟨#[63, 120]⟩, .slice none 0 0, .bool false] 35)).heap.size := by simp
  clear hb HA3
  refine (comment_Read.exact _ _ _ _ _ _ _ _ _ _ (hGl.step HB3.out) awc4).mono ?_
  rintro e w4 ⟨rfl, -, hb⟩
  have HA4 := Lib.hid (HB3.out.trans (hb.mono HB3.out.size))
  replace HT1 := Lib.hid (HT1.out.below hb hsz1)
  replace hsz1 := Nat.lt_of_lt_of_le hsz1 hb.size
  replace HT2 := Lib.hid (HT2.out.below hb hsz2)
  replace hsz2 := Nat.lt_of_lt_of_le hsz2 hb.size
  replace HT3 := Lib.hid (HT3.out.below hb hsz3)
  replace hsz3 := Nat.lt_of_lt_of_le hsz3 hb.size
  clear hb
  have HT4 := Lib.hid (Tok.of_alloc #[.int .i64 3, .string ⟨#[]⟩, .string ⟨#[32, 97]⟩, .slice none 0 0, .bool false] 35 w4)
  have HB4 := Lib.hid (HA4.out.alloc HA4.out.size (.cells #[.int .i64 3, .string ⟨#[]⟩, .string ⟨#[32, 97]⟩, .slice none 0 0, .bool false] 35))
  have hb : Below w4.heap.size w4 (w4.alloc (.cells #[.int .i64 3, .string ⟨#[]⟩, .string ⟨#[32, 97]⟩, .slice none 0 0, .bool false] 35)) := Below.alloc (Below.refl _ _) (Nat.le_refl _) _
  replace HT1 := Lib.hid (HT1.out.below hb hsz1)
  replace hsz1 := Nat.lt_of_lt_of_le hsz1 hb.size
  replace HT2 := Lib.hid (HT2.out.below hb hsz2)
  replace hsz2 := Nat.lt_of_lt_of_le hsz2 hb.size
  replace HT3 := Lib.hid (HT3.out.below hb hsz3)
  replace hsz3 := Nat.lt_of_lt_of_le hsz3 hb.size
  have hsz4 : w4.heap.size < (w4.alloc (.cells #[.int .i64 3, .string ⟨#[]⟩, .string ⟨#[32, 97]⟩, .slice none 0 0, .bool false] 35)).heap.size := by simp
  clear hb HA4
  have q1 : (w4.alloc (.cells #[.int .i64 3, .string ⟨#[]⟩, .string ⟨#[32, 97]⟩, .slice none 0 0, .bool false] 35)).cell? ⟨w1.heap.size, 2, none⟩ = some (.string ⟨#[97]⟩) := HT1.out.cell 2 (by decide)
  have q2 : (w4.alloc (.cells #[.int .i64 3, .string ⟨#[]⟩, .string ⟨#[32, 97]⟩, .slice none 0 0, .bool false] 35)).cell? ⟨w2.heap.size, 2, none⟩ = some (.string ⟨#[]⟩) := HT2.out.cell 2 (by decide)
  have q3 : (w4.alloc (.cells #[.int .i64 3, .string ⟨#[]⟩, .string ⟨#[32, 97]⟩, .slice none 0 0, .bool false] 35)).cell? ⟨w3.heap.size, 2, none⟩ = some (.string ⟨#[63, 120]⟩) := HT3.out.cell 2 (by decide)
  have q4 : (w4.alloc (.cells #[.int .i64 3, .string ⟨#[]⟩, .string ⟨#[32, 97]⟩, .slice none 0 0, .bool false] 35)).cell? ⟨w4.heap.size, 2, none⟩ = some (.string ⟨#[32, 97]⟩) := HT4.out.cell 2 (by decide)
  have q0 : (w4.alloc (.cells #[.int .i64 3, .string ⟨#[]⟩, .string ⟨#[32, 97]⟩, .slice none 0 0, .bool false] 35)).cell? ⟨w1.heap.size, 0, none⟩ = some (.int .i64 3) := HT1.out.cell 0 (by decide)
  go_wp2_with fail
  refine (comment_Begins.calls _ _ _ _ awc5).mono ?_
  rintro e w5 ⟨rfl, hb⟩
  go_wp2_with fail
  go_ret
  exact ⟨rfl, HB4.out.trans (hb.mono HB4.out.size)⟩
def flaillaw10_awake.f : Option Bool := some true
theorem flaillaw10_awake.calls (r : Bool) (w : World) (hGl : Glob w) (h : flaillaw10_awake.f = some r) :
    Calls Tryd.prog 36 #[] w fun e w' => e = .returned (.bool r) ∧ Below w.heap.size w w' := by
  obtain rfl := Option.some.inj h
  exact awake10_any w hGl
end Go.Proofs.YtppaobgccdlccaaDoor.Hand
