/-
  Texts that several claims of this seat share, merged by a program of this session (3).
-/
import Derived.LoopN
import Derived.ChangeKeysEq
import Derived.Laws.Rows
import Derived.Laws.Tables
import Derived.Deep.WholeRow
import Derived.Great.Walk
import Derived.Lib.Index
import Derived.Test.YtbdcghbafopjjaaGreatDoorProg
import Derived.Below
import Derived.Deep.Draws
import Derived.Deep.AppendLies
import Derived.Maps.AppendAt
import Derived.OwnWalk
import Derived.Laws.BytesArg
import Derived.Laws.MakeOwn
import Derived.Laws.OwnMore
import Derived.Deep.OwnRows
import Derived.Tactics
import Derived.Lib.ConvBytes
import Derived.Laws.Slices
import Derived.WalkKit
import Derived.KernelRfl
import Derived.RowKit3
import Derived.Deep.LoopGhost
import Derived.Deep.QuietTactic
import Derived.BigQuiet
import Derived.WideLaws
import Derived.Deep.DeepCutAuto
import Derived.Deep.CutBlock
import Derived.Deep.RegionHeld3
import Derived.Lib.AppendStr
import Derived.ArgAppend
import Derived.Laws.IdiomCopy
import Derived.OrdersHeld
import Derived.Laws.BitsLemmas
import Derived.RowKit
import Derived.Maps.StringElems
import Derived.Maps.Views
import Derived.Test.YtbdcghbafopjjaaGreatDoorZqb
section
namespace Go.Proofs.YtbdcghbafopjjaaGreatDoor.Hand
open Go Go.RowKit Go.Proofs.YtbdcghbafopjjaaGreatDoor.Pl Go.Proofs.YtbdcghbafopjjaaGreatDoor.Pb
set_option maxRecDepth 1000000 in
theorem names_lines : linesOk namesL = true := by kernel_rfl
set_option maxRecDepth 1000000 in
theorem names_size : decide (namesB.size ≤ 1000000) = true := by kernel_rfl
def num1 (rest : List UInt8) : Nat := hexN 0 (upto 32 rest)
def num2 (rest : List UInt8) : Nat := hexN 0 (past 32 rest)
theorem nnum_w (l : List UInt8) (h : l = [] ∨ hexW l = true) (w : World) (hG : GlobE w) :
    Calls Tryz.prog 94 #[.string (B l)] w fun e w' => e = .returned (.float .f64 (fW (hexN 0 l))) ∧ Below w.heap.size w w' := by
  rcases h with rfl | h
  · exact nnum_empty w hG
  · obtain ⟨h1, h2, h3⟩ := hexW_spec h
    have := nnum_ok (B l) (by rw [B_data]; exact h1) (by rw [size_B]; exact h2) (by rw [size_B]; exact h3) w
    rw [B_data] at this
    exact this
def nvalV (key : List UInt8) : Option (List UInt8) → Value
  | none => .tuple #[.complex .f64 0 0, .bool false]
  | some r => if key = [] then .tuple #[.complex .f64 0 0, .bool false] else .tuple #[.complex .f64 (fW (num1 r)) (fW (num2 r)), .bool true]
set_option maxRecDepth 1000000 in
set_option maxHeartbeats 2000000 in
theorem nvalue_c (key : List UInt8) (w : World) (hGl : Glob w) (hGE : GlobE w) :
    Calls Tryz.prog 56 #[.string (B key)] w fun e w' => (∃ r, Fnd namesL key r ∧ e = .returned (nvalV key r)) ∧ Below w.heap.size w w' := by
  have hz : namesB.size ≤ 1000000 := of_decide_eq_true names_size
  have SL := sline_c namesB (B key) [] names_tab hz w hGl
  rw [B_data, show namesB.data.toList = namesL from rfl] at SL
  have HSL := Lib.hid SL
  have HG := Lib.hid hGl
  have HE := Lib.hid hGE
  have hke : (B key).toList.isEmpty = key.isEmpty := by rw [toList_B]
  have HKE := Lib.hid hke
  obtain ⟨a, ha⟩ : ∃ a, B key = a := ⟨_, rfl⟩
  rw [ha] at HSL HKE ⊢
  clear ha hke SL hGl hGE
  refine calls_of_wp Tryz.func56 rfl ?_
  generalize hN : ByteArray.mk _ = N
  have hN2 : N = namesB := hN.symm.trans rfl
  clear hN
  subst hN2
  simp only [Tryz.ntmps56, List.size_toArray, List.length_cons, List.length_nil, Nat.reduceAdd, Nat.reduceSub, Array.replicate_succ, Array.replicate_zero, List.push_toArray, List.append_toArray, List.nil_append, List.cons_append]
  go_wp2_with fail
  refine HSL.out.mono ?_
  rintro e w1 ⟨⟨r, hf, rfl⟩, hb⟩
  have HF := Lib.hid hf
  have HW := Lib.hid hb
  clear hf hb HSL
  cases r with
  | none =>
    dsimp only [fndV]
    go_wp2_with fail
    go_ret2
    exact ⟨⟨none, HF.out, rfl⟩, HW.out⟩
  | some rest =>
    dsimp only [fndV]
    cases hk : key with
    | nil =>
      have hke := HKE.out
      rw [hk] at hke
      rw [hke]
      clear hke
      go_wp2_with fail
      go_ret2
      exact ⟨⟨some rest, HF.out, by rw [hk]; rfl⟩, HW.out⟩
    | cons k0 kr =>
      have hke := HKE.out
      rw [hk] at hke
      rw [hke]
      clear hke
      have hro : restOk rest = true := by
        rcases HF.out with ⟨p, h1, _, h3⟩ | ⟨_, e⟩
        · have := lines_all names_lines p h1
          unfold rowOk at this
          rw [Bool.and_eq_true] at this
          cases h3
          exact this.1
        · cases e
      unfold restOk at hro
      rw [Bool.and_eq_true] at hro
      obtain ⟨h1, h2⟩ := hro
      have u1 : hexW (upto 32 rest) = true := h1
      have u2 : past 32 rest = [] ∨ hexW (past 32 rest) = true := by
        simp only [Bool.or_eq_true, List.isEmpty_iff] at h2
        exact h2
      have hl : rest.length ≤ 1000000 := by
        rcases HF.out with ⟨p, h3, _, h4⟩ | ⟨_, e⟩
        · cases h4
          have hi := (names_tab.inside p h3)
          have := ln_le namesL p (by omega)
          have e : namesL.length = namesB.size := Array.length_toList
          unfold rsL
          rw [List.length_drop]; omega
        · cases e
      have C := Lib.hid (scut_c 32 rest w1 (by omega) (HG.out.step HW.out))
      have N1 := Lib.hid (fun W hG => nnum_w (upto 32 rest) (.inr u1) W hG)
      have N2 := Lib.hid (fun W hG => nnum_w (past 32 rest) u2 W hG)
      have hk0 : key ≠ [] := by rw [hk]; simp
      have HK0 := Lib.hid hk0
      obtain ⟨x1, hx1⟩ : ∃ x, B (upto 32 rest) = x := ⟨_, rfl⟩
      obtain ⟨x2, hx2⟩ : ∃ x, B (past 32 rest) = x := ⟨_, rfl⟩
      obtain ⟨x3, hx3⟩ : ∃ x, decide ((32 : UInt8) ∈ rest) = x := ⟨_, rfl⟩
      obtain ⟨x4, hx4⟩ : ∃ x, B rest = x := ⟨_, rfl⟩
      rw [hx1, hx2, hx3, hx4] at C
      rw [hx1] at N1
      rw [hx2] at N2
      rw [hx4]
      clear h1 h2 u1 u2 hl hk0 hx1 hx2 hx3 hx4
      go_wp2_with fail
      refine C.out.mono ?_
      rintro e w2 ⟨rfl, hb⟩
      have HW2 := Lib.hid (HW.out.trans (hb.mono HW.out.size))
      clear hb C
      go_wp2_with fail
      refine (N1.out _ (HE.out.step HW2.out)).mono ?_
      rintro e w3 ⟨rfl, hb⟩
      have HW3 := Lib.hid (HW2.out.trans (hb.mono HW2.out.size))
      clear hb
      go_wp2_with fail
      refine (N2.out _ (HE.out.step HW3.out)).mono ?_
      rintro e w4 ⟨rfl, hb⟩
      have HW4 := Lib.hid (HW3.out.trans (hb.mono HW3.out.size))
      clear hb
      go_wp2_with fail
      go_ret2
      exact ⟨⟨some rest, HF.out, by unfold nvalV; simp only [HK0.out, if_false]; rfl⟩, HW4.out⟩
end Go.Proofs.YtbdcghbafopjjaaGreatDoor.Hand
end

section
namespace Go.Proofs.YtbdcghbafopjjaaGreatDoor.Hand
open Go.RowKit Go.Proofs.YtbdcghbafopjjaaGreatDoor.Pb Go.Proofs.YtbdcghbafopjjaaGreatDoor.Pl
def signB (n : Int) : ByteArray := if n < 0 ∨ 1114111 < n then ⟨#[239, 191, 189]⟩ else Utf8.encode n
set_option maxRecDepth 100000 in
set_option maxHeartbeats 2000000 in
theorem sign_c (n : Int) (w : World) (h : -9223372036854775808 ≤ n ∧ n ≤ 9223372036854775807) :
    Calls Tryz.prog 78 #[.int .i64 n] w fun e w' => e = .returned (.string (signB n)) ∧ w' = w := by
  obtain ⟨S, hS⟩ : ∃ S, signB n = S := ⟨_, rfl⟩
  rw [hS]
  unfold signB at hS
  by_cases h0 : n < 0
  · rw [if_pos (.inl h0)] at hS
    have e0 : decide (n < 0) = true := by simpa using h0
    have HS := Lib.hid hS
    clear hS
    go_enter Tryz.func78, Tryz.ntmps78
    go_wp2_with fail
    go_ret
    exact ⟨by rw [← HS.out]; rfl, rfl⟩
  · have e0 : decide (n < 0) = false := by simpa using h0
    by_cases h1 : 1114111 < n
    · rw [if_pos (.inr h1)] at hS
      have e1 : decide (1114111 < n) = true := by simpa using h1
      have HS := Lib.hid hS
      clear hS
      go_enter Tryz.func78, Tryz.ntmps78
      go_wp2_with fail
      go_ret
      exact ⟨by rw [← HS.out]; rfl, rfl⟩
    · rw [if_neg (by omega)] at hS
      have e1 : decide (1114111 < n) = false := by simpa using h1
      have h2 : 0 ≤ n := by omega
      have h3 : n ≤ 1114111 := by omega
      have HS := Lib.hid hS
      clear hS
      go_enter Tryz.func78, Tryz.ntmps78
      go_wp2_with fail
      go_ret
      exact ⟨by rw [← HS.out]; rfl, rfl⟩
end Go.Proofs.YtbdcghbafopjjaaGreatDoor.Hand
end

section
namespace Go.Proofs.YtbdcghbafopjjaaGreatDoor.Hand
open Go Go.RowKit Go.Proofs.YtbdcghbafopjjaaGreatDoor.Pl Go.Proofs.YtbdcghbafopjjaaGreatDoor.Pb
theorem fnd_rest {key rest : List UInt8} (h : Fnd namesL key (some rest)) : restOk rest = true ∧ key ≠ [] ∧ isKey namesL key := by
  rcases h with ⟨p, h1, h2, h3⟩ | ⟨_, e⟩
  · have := lines_all names_lines p h1
    unfold rowOk at this
    rw [Bool.and_eq_true, decide_eq_true_eq] at this
    cases h3
    refine ⟨this.1, ?_, p, h1, h2⟩
    rintro rfl
    have h2' : kyL (lnT namesL p) = [] := h2
    rw [h2'] at this
    simp at this
  · cases e
theorem hexW_lt {w : List UInt8} (h : w = [] ∨ hexW w = true) : hexN 0 w < 4294967296 := by
  rcases h with rfl | h
  · decide
  · obtain ⟨_, _, h3⟩ := hexW_spec h
    have := hexN_lt w 0 0 (by decide)
    have h2 : 16 ^ (0 + w.length) ≤ 16 ^ 8 := Nat.pow_le_pow_right (by decide) (by omega)
    have h4 : (16 : Nat) ^ 8 = 4294967296 := by decide
    omega
theorem num_lt {rest : List UInt8} (h : restOk rest = true) : num1 rest < 4294967296 ∧ num2 rest < 4294967296 := by
  unfold restOk at h
  rw [Bool.and_eq_true] at h
  obtain ⟨h1, h2⟩ := h
  simp only [Bool.or_eq_true, List.isEmpty_iff] at h2
  exact ⟨hexW_lt (.inr h1), hexW_lt h2⟩
def textB (a b : Nat) : ByteArray := if b = 0 then signB (a : Int) else signB (a : Int) ++ signB (b : Int)
theorem enc_size (n : Int) : (Utf8.encode n).size ≤ 4 := by
  have k1 : (1 : Nat) ≤ 4 := by decide
  have k2 : (2 : Nat) ≤ 4 := by decide
  have k3 : (3 : Nat) ≤ 4 := by decide
  unfold Utf8.encode
  simp only
  repeat' split
  all_goals first | exact k1 | exact k2 | exact k3 | exact Nat.le_refl 4
theorem signB_size (n : Int) : (signB n).size ≤ 4 := by
  unfold signB
  split
  · decide
  · exact enc_size n
set_option maxRecDepth 100000 in
set_option maxHeartbeats 2000000 in
theorem ntext_c (a b : Nat) (ha : a < 4294967296) (hb : b < 4294967296) (w : World) :
    Calls Tryz.prog 59 #[.complex .f64 (fW a) (fW b)] w fun e w' => e = .returned (.string (textB a b)) ∧ w' = w := by
  have c1 : ∀ W, (convert 103 3 (.float .f64 (fW a))).run Tryz.prog W = .ok (.int .i64 (a : Int)) W := fun W =>
    run_convert_float_int W 103 3 .f64 .i64 (fW a) (a : Int) (by rw [Tryz.underlying103]; rfl) Tryz.underlying3 (fW_toInt a (by omega))
  have c2 : ∀ W, (convert 103 3 (.float .f64 (fW b))).run Tryz.prog W = .ok (.int .i64 (b : Int)) W := fun W =>
    run_convert_float_int W 103 3 .f64 .i64 (fW b) (b : Int) (by rw [Tryz.underlying103]; rfl) Tryz.underlying3 (fW_toInt b (by omega))
  have SA := fun W => sign_c (a : Int) W (by omega)
  have SB := fun W => sign_c (b : Int) W (by omega)
  have za := signB_size (a : Int)
  have zb := signB_size (b : Int)
  unfold textB
  obtain ⟨X, hX⟩ : ∃ X, signB (a : Int) = X := ⟨_, rfl⟩
  obtain ⟨Y, hY⟩ : ∃ Y, signB (b : Int) = Y := ⟨_, rfl⟩
  rw [hX] at SA za
  rw [hY] at SB zb
  rw [hX, hY]
  have HA := Lib.hid SA
  have HB := Lib.hid SB
  clear SA SB hX hY
  by_cases h0 : b = 0
  · have c3 : (FloatKind.f64.format.order (fW b) 0 != some Ordering.eq) = false := by
      rw [bne, ← fW_0, ord_eq (by omega) (by omega), decide_eq_true h0]; rfl
    rw [if_pos h0]
    clear c2 h0 ha hb
    go_enter Tryz.func59, Tryz.ntmps59
    go_wp2_with fail
    refine (HA.out _).mono ?_
    rintro e w1 ⟨rfl, rfl⟩
    go_wp2_with fail
    go_ret
    exact ⟨rfl, rfl⟩
  · have c3 : (FloatKind.f64.format.order (fW b) 0 != some Ordering.eq) = true := by
      rw [bne, ← fW_0, ord_eq (by omega) (by omega), decide_eq_false h0]; rfl
    rw [if_neg h0]
    clear h0 ha hb
    go_enter Tryz.func59, Tryz.ntmps59
    go_wp2_with fail
    refine (HA.out _).mono ?_
    rintro e w1 ⟨rfl, rfl⟩
    go_wp2_with fail
    refine (HB.out _).mono ?_
    rintro e w2 ⟨rfl, rfl⟩
    go_wp2_with fail
    go_ret
    exact ⟨rfl, rfl⟩
theorem nshort_c (key : List UInt8) (hk : isKey namesL key) (hs : key.length ≤ 1000000) (w : World) (hGl : Glob w) (hGE : GlobE w) :
    Calls Tryz.prog 57 #[.string (B key)] w fun e w' => e = .returned (.bool (!Lib.hasSuffix key [59])) ∧ Below w.heap.size w w' := by
  have V := Lib.hid (nvalue_c key w hGl hGE)
  have H := fun W => Tryz.strings_HasSuffix (B key) ⟨#[59]⟩ W (by rw [size_B]; omega)
  rw [B_data] at H
  obtain ⟨bs, hbs⟩ : ∃ b, Lib.hasSuffix key [59] = b := ⟨_, rfl⟩
  have H2 : ∀ W, Calls Tryz.prog 95 #[.string (B key), .string ⟨#[59]⟩] W fun e w' => e = .returned (.bool bs) ∧ w' = W := fun W => by rw [← hbs]; exact H W
  have HH := Lib.hid H2
  have HK := Lib.hid hk
  rw [hbs]
  obtain ⟨a, ha⟩ : ∃ a, B key = a := ⟨_, rfl⟩
  rw [ha] at V HH ⊢
  clear ha H H2 hbs hs hGl hGE hk
  go_enter Tryz.func57, Tryz.ntmps57
  go_wp2_with fail
  refine V.out.mono ?_
  rintro e w1 ⟨⟨r, hf, rfl⟩, hb⟩
  have HW := Lib.hid hb
  clear hb V
  cases r with
  | none =>
    obtain ⟨p, h1, h2⟩ := HK.out
    rcases hf with ⟨_, _, _, e⟩ | ⟨e, _⟩
    · cases e
    · exact absurd h2 (e p h1)
  | some rest =>
    have hne := (fnd_rest hf).2.1
    have hv : nvalV key (some rest) = .tuple #[.complex .f64 (fW (num1 rest)) (fW (num2 rest)), .bool true] := by unfold nvalV; simp only [hne, if_false]
    rw [hv]
    clear hf hne hv
    go_wp2_with fail
    refine (HH.out _).mono ?_
    rintro e w2 ⟨rfl, rfl⟩
    go_wp2_with fail
    go_ret
    exact ⟨rfl, HW.out⟩
end Go.Proofs.YtbdcghbafopjjaaGreatDoor.Hand
end

section
namespace Go.Proofs.YtbdcghbafopjjaaGreatDoor.Hand
open Go.RowKit
theorem ne_off {b i j : Nat} (h : i ≠ j) : (⟨b, i, none⟩ : Addr) ≠ ⟨b, j, none⟩ := by intro e; injection e with _ e _; exact h e
theorem run_index_agg {P : Program} {t e : TypeId} {n : Nat} {i : TypeInfo} {cs : Array Value} {j : Nat} {v : Value} {W : World} (hu : P.underlying t = some (.array n e)) (hi : P.info? e = some i) (h1 : P.cellsOf e = 1)
    (hk : P.plainKey e = true) (hj : j < n) (hv : cs[j]? = some v) : (Instr.index t (.agg cs) (.int .i64 (j : Int))).run P W = .ok v W := by
  have hn : (0 : Int) ≤ (j : Int) ∧ (j : Int) < (n : Int) := ⟨by omega, by omega⟩
  unfold Program.plainKey at hk
  cases hue : P.underlying e with
  | none => simp [hue] at hk
  | some d => cases d <;> simp [hue] at hk <;> simp [Instr.index, run_underlying hu, asIntOf, hn, run_sizeOf W hi, h1, part, isAgg, run_underlying hue, hv, hj, go_sem]
theorem Blk.set {b : Nat} {v : Array Value} {W : World} (h : Blk b v W) (k : Nat) (x : Value) (hk : k < v.size) : Blk b (v.setIfInBounds k x) (W.setCell ⟨b, k, none⟩ x) := by
  refine ⟨fun j hj => ?_, fun j => by rw [World.frozen?_setCell]; exact h.open_ j⟩
  rw [Array.size_setIfInBounds] at hj
  by_cases e : j = k
  · subst e
    rw [World.cell?_setCell_same' _ _ _ (by rw [h.cell j hj]; simp [hj]), Array.getElem?_setIfInBounds_self_of_lt hk]
  · rw [World.cell?_setCell_other _ _ _ _ (ne_off (Ne.symm e)), h.cell j hj, Array.getElem?_setIfInBounds_ne (Ne.symm e)]
theorem Blk.other {b b' : Nat} {v : Array Value} {W : World} (h : Blk b v W) (k : Nat) (x : Value) (hb : b' ≠ b) : Blk b v (W.setCell ⟨b', k, none⟩ x) :=
  ⟨fun j hj => by rw [World.cell?_setCell_other _ _ _ _ (by intro e; injection e with e; exact hb e)]; exact h.cell j hj, fun j => by rw [World.frozen?_setCell]; exact h.open_ j⟩
end Go.Proofs.YtbdcghbafopjjaaGreatDoor.Hand
end

section
namespace Go.Proofs.YtbdcghbafopjjaaGreatDoor.Hand
open Go.RowKit Go.Proofs.YtbdcghbafopjjaaGreatDoor.Pb Go.Proofs.YtbdcghbafopjjaaGreatDoor.Pl
def otherN : List Nat := [0x20AC, 0x81, 0x201A, 0x192, 0x201E, 0x2026, 0x2020, 0x2021, 0x2C6, 0x2030, 0x160, 0x2039, 0x152, 0x8D, 0x17D, 0x8F, 0x90, 0x2018, 0x2019, 0x201C, 0x201D, 0x2022, 0x2013, 0x2014, 0x2DC, 0x2122, 0x161, 0x203A, 0x153, 0x9D, 0x17E, 0x178]
def i64V (n : Nat) : Value := .int .i64 (n : Int)
def otherV : Array Value := (otherN.map i64V).toArray
def zeroV : Array Value := (List.replicate 32 (Value.int .i64 0)).toArray
set_option maxRecDepth 100000 in
set_option maxHeartbeats 4000000 in
theorem other_c (w : World) : Calls Tryz.prog 128 #[] w fun e w' => e = .returned (.agg otherV) ∧ w' = w.alloc (.cells otherV 124) := by
  go_enter Tryz.func128, Tryz.ntmps128
  apply wp_seq
  apply wp_region_lit
  refine Go.Great.wpList_allocTo rfl (some 0) rfl (.pointer (some ⟨w.heap.size, 0, none⟩)) (.cells zeroV 124) (by kernel_rfl) ?_
  refine wpList_nil ?_
  show Code.wp _ _ _ _ _
  apply wp_seq
  apply wp_region_lit
  refine wpList_build rfl 124 _ rfl (by kernel_rfl) ?_
  refine wpList_store_row rfl 124 _ _ rfl w.heap.size otherV (by kernel_rfl) (by kernel_rfl) 124 zeroV (heap_alloc_last w _) (by kernel_rfl) (by kernel_rfl) (by kernel_rfl) ?_
  refine wpList_nil ?_
  show Code.wp _ _ _ _ _
  refine wp_ret (bodyPost_ret (v := .agg otherV) (results_cell_row rfl _ _ w.heap.size 124 otherV (0, 0) _ (by kernel_rfl) ?_ Tryz.underlying124 rfl (by kernel_rfl)) rfl ⟨rfl, World.setRow_alloc_new ..⟩)
  exact setRow_heap _ _ _ _ _ _ (heap_alloc_last w _)
def fixB (n : Nat) : ByteArray := if n = 0 then ⟨#[239, 191, 189]⟩ else if 128 ≤ n ∧ n < 160 then signB ((otherN.getD (n - 128) 0 : Nat) : Int) else signB (n : Int)
theorem otherV_at (j : Nat) (h : j < 32) : otherV[j]? = some (.int .i64 ((otherN.getD j 0 : Nat) : Int)) := by
  unfold otherV
  rw [List.getElem?_toArray, List.getElem?_map, List.getD_eq_getElem?_getD, List.getElem?_eq_getElem (show j < otherN.length from h)]
  rfl
theorem otherN_le : ∀ j, otherN.getD j 0 ≤ 1114111 := by
  intro j
  rcases Nat.lt_or_ge j 32 with h | h
  · revert j; decide
  · rw [List.getD_eq_getElem?_getD, List.getElem?_eq_none (by exact h)]; decide
def ZV : Array Value := #[.int .i64 0, .int .i64 0, .int .i64 0, .int .i64 0, .int .i64 0, .int .i64 0, .int .i64 0, .int .i64 0, .int .i64 0, .int .i64 0, .int .i64 0, .int .i64 0, .int .i64 0, .int .i64 0, .int .i64 0, .int .i64 0, .int .i64 0, .int .i64 0, .int .i64 0, .int .i64 0, .int .i64 0, .int .i64 0, .int .i64 0, .int .i64 0, .int .i64 0, .int .i64 0, .int .i64 0, .int .i64 0, .int .i64 0, .int .i64 0, .int .i64 0, .int .i64 0]
set_option maxRecDepth 100000 in
set_option maxHeartbeats 4000000 in
theorem fix_c (n : Nat) (hn : n ≤ 1114112) (w : World) : Calls Tryz.prog 90 #[.int .i64 (n : Int)] w fun e w' => e = .returned (.string (fixB n)) ∧ Below w.heap.size w w' := by
  have O := Lib.hid (other_c w)
  have hsc : (storeCells ⟨w.heap.size + 1, 0, none⟩ otherV.toList 0).run Tryz.prog ((w.alloc (.cells otherV 124)).alloc (.cells #[.int .i64 0, .int .i64 0, .int .i64 0, .int .i64 0, .int .i64 0, .int .i64 0, .int .i64 0, .int .i64 0, .int .i64 0, .int .i64 0, .int .i64 0, .int .i64 0, .int .i64 0, .int .i64 0, .int .i64 0, .int .i64 0, .int .i64 0, .int .i64 0, .int .i64 0, .int .i64 0, .int .i64 0, .int .i64 0, .int .i64 0, .int .i64 0, .int .i64 0, .int .i64 0, .int .i64 0, .int .i64 0, .int .i64 0, .int .i64 0, .int .i64 0, .int .i64 0] 124)) = .ok () ((w.alloc (.cells otherV 124)).alloc (.cells otherV 124)) := by
    have := run_storeCells_new (P := Tryz.prog) (w.alloc (.cells otherV 124)) 124 ZV otherV (by kernel_rfl) (by kernel_rfl) (by kernel_rfl)
    rw [World.size_alloc] at this
    exact this
  have hcs : otherV.size = 32 := rfl
  have hb : Below w.heap.size w ((w.alloc (.cells otherV 124)).alloc (.cells otherV 124)) := ((Below.refl _ w).alloc (Nat.le_refl _) _).alloc (by simp) _
  have hcell : ∀ j, j < 32 → ((w.alloc (.cells otherV 124)).alloc (.cells otherV 124)).cell? ⟨w.heap.size + 1, j, none⟩ = some (.int .i64 ((otherN.getD j 0 : Nat) : Int)) := fun j hj => by
    rw [World.cell?_alloc_at _ _ _ _ (by simp), otherV_at j hj]
  have HC := Lib.hid hcell
  have HB := Lib.hid hb
  obtain ⟨S, hS⟩ : ∃ S, fixB n = S := ⟨_, rfl⟩
  rw [hS]
  unfold fixB at hS
  obtain ⟨OV, hOV⟩ : ∃ OV, otherV = OV := ⟨_, rfl⟩
  rw [hOV] at O HC hsc hcs HB
  clear hcell hb hOV
  by_cases h0 : n = 0
  · subst h0
    rw [if_pos rfl] at hS
    subst hS
    go_enter Tryz.func90, Tryz.ntmps90
    go_wp2_with fail
    refine O.out.mono ?_
    rintro e w1 ⟨rfl, rfl⟩
    go_wp2_with fail
    go_ret
    exact ⟨rfl, HB.out⟩
  · have q0 : ((n : Int) == 0) = false := by rw [beq_eq_false_iff_ne]; omega
    rw [if_neg h0] at hS
    by_cases h1 : 128 ≤ n
    · have q1 : decide ((128 : Int) ≤ (n : Int)) = true := by simp; omega
      by_cases h2 : n < 160
      · have q2 : decide ((n : Int) < 160) = true := by simp; omega
        rw [if_pos ⟨h1, h2⟩] at hS
        obtain ⟨j, rfl⟩ : ∃ j, n = 128 + j := ⟨n - 128, by omega⟩
        rw [show 128 + j - 128 = j by omega] at hS
        have hj : j < 32 := by omega
        have hcj := HC.out j hj
        have hm := otherN_le j
        obtain ⟨v, hv⟩ : ∃ v, otherN.getD j 0 = v := ⟨_, rfl⟩
        rw [hv] at hcj hS hm
        have SG : Hid (∀ W, Calls Tryz.prog 78 #[.int .i64 (v : Int)] W fun e w' => e = .returned (.string S) ∧ w' = W) := Lib.hid (fun W => by rw [← hS]; exact sign_c _ W (by omega))
        clear hS hv HC
        go_enter Tryz.func90, Tryz.ntmps90
        go_wp2_with fail
        refine O.out.mono ?_
        rintro e w1 ⟨rfl, rfl⟩
        go_wp2_with fail
        refine (SG.out _).mono ?_
        rintro e w2 ⟨rfl, rfl⟩
        go_wp2_with fail
        go_ret
        exact ⟨rfl, HB.out⟩
      · have q2 : decide ((n : Int) < 160) = false := by simp; omega
        rw [if_neg (by omega)] at hS
        have SG : Hid (∀ W, Calls Tryz.prog 78 #[.int .i64 (n : Int)] W fun e w' => e = .returned (.string S) ∧ w' = W) := Lib.hid (fun W => by rw [← hS]; exact sign_c _ W (by omega))
        clear hS HC
        go_enter Tryz.func90, Tryz.ntmps90
        go_wp2_with fail
        refine O.out.mono ?_
        rintro e w1 ⟨rfl, rfl⟩
        go_wp2_with fail
        refine (SG.out _).mono ?_
        rintro e w2 ⟨rfl, rfl⟩
        go_wp2_with fail
        go_ret
        exact ⟨rfl, HB.out⟩
    · have q1 : decide ((128 : Int) ≤ (n : Int)) = false := by simp; omega
      rw [if_neg (by omega)] at hS
      have SG : Hid (∀ W, Calls Tryz.prog 78 #[.int .i64 (n : Int)] W fun e w' => e = .returned (.string S) ∧ w' = W) := Lib.hid (fun W => by rw [← hS]; exact sign_c _ W (by omega))
      clear hS HC
      go_enter Tryz.func90, Tryz.ntmps90
      go_wp2_with fail
      refine O.out.mono ?_
      rintro e w1 ⟨rfl, rfl⟩
      go_wp2_with fail
      refine (SG.out _).mono ?_
      rintro e w2 ⟨rfl, rfl⟩
      go_wp2_with fail
      go_ret
      exact ⟨rfl, HB.out⟩
end Go.Proofs.YtbdcghbafopjjaaGreatDoor.Hand
end

section
namespace Go.Proofs.YtbdcghbafopjjaaGreatDoor.Pl
def isSp (c : UInt8) : Bool := c == 32 || c == 9 || c == 10 || c == 12
def stops (c : UInt8) : Bool := isSp c || c == 47 || c == 62
def begR : List UInt8 → List UInt8 → Bool
  | _, [] => true
  | [], _ :: _ => false
  | c :: r, d :: low => lowB c == d && begR r low
theorem begR_eq (low : List UInt8) : ∀ r, (lowL (r.take low.length) == low) = begR r low := by
  induction low with
  | nil => intro r; cases r <;> rfl
  | cons d low ih =>
    intro r
    cases r with
    | nil => rfl
    | cons c r =>
      have := ih r
      simp only [List.length_cons, List.take_succ_cons, begR, lowL, List.map_cons] at this ⊢
      rw [← this]; rfl
theorem begR_length (low : List UInt8) : ∀ r, begR r low = true → low.length ≤ r.length := by
  induction low with
  | nil => intro r _; simp
  | cons d low ih =>
    intro r h
    cases r with
    | nil => simp [begR] at h
    | cons c r =>
      simp only [begR, Bool.and_eq_true] at h
      have := ih r h.2
      simp; omega
def stopAt (r : List UInt8) : Bool := match r with | [] => false | c :: _ => stops c
def endsL (r name : List UInt8) : Bool := !name.isEmpty && begR r [60, 47] && begR (r.drop 2) name && stopAt (r.drop (2 + name.length))
def scriptL : List UInt8 := [115, 99, 114, 105, 112, 116]
def wordL (r opens : List UInt8) : Bool := begR r (opens ++ scriptL) && stopAt (r.drop (opens.length + 6))
def stepF (st ct : Nat) (r : List UInt8) : Option (Nat × Nat × Nat) :=
  match r with
  | [] => none
  | c :: _ =>
    if st ≠ 2 ∧ endsL r scriptL = true then none
    else if st = 0 then (if begR r [60, 33, 45, 45] = true then some (4, 1, 2) else some (1, 0, ct))
    else if c = 45 then some (1, st, ct + 1)
    else if c = 62 ∧ 2 ≤ ct then some (1, 0, 0)
    else if st = 1 then (if wordL r [60] = true then some (8, 2, 0) else some (1, 1, 0))
    else (if wordL r [60, 47] = true then some (9, 1, 0) else some (1, 2, 0))
theorem stepF_adv {st ct : Nat} {r : List UInt8} {n st' ct' : Nat} (h : stepF st ct r = some (n, st', ct')) : 1 ≤ n ∧ n ≤ r.length := by
  have hb : ∀ low, begR r low = true → low.length ≤ r.length := fun low => begR_length low r
  have hw : ∀ o, wordL r o = true → o.length + 7 ≤ r.length := by
    intro o hw
    simp only [wordL, Bool.and_eq_true] at hw
    have h2 := hw.2
    have : r.drop (o.length + 6) ≠ [] := by intro e; rw [e] at h2; simp [stopAt] at h2
    have := List.length_pos_iff.2 this
    simp at this; omega
  cases r with
  | nil => simp [stepF] at h
  | cons c r =>
    simp only [stepF] at h
    have h4 := hb [60, 33, 45, 45]
    have h8 := hw [60]
    have h9 := hw [60, 47]
    simp only [List.length_cons, List.length_nil] at h4 h8 h9 ⊢
    repeat' split at h
    all_goals first
      | (cases h; done)
      | (simp only [Option.some.injEq, Prod.mk.injEq] at h; obtain ⟨rfl, _⟩ := h; simp_all; done)
      | (simp only [Option.some.injEq, Prod.mk.injEq] at h; obtain ⟨rfl, _⟩ := h; simp_all; omega)
def runF : Nat → Nat → Nat → List UInt8 → Nat × Nat
  | 0, st, _, _ => (0, st)
  | f + 1, st, ct, r => match stepF st ct r with
    | none => (0, st)
    | some (n, st', ct') => ((n + (runF f st' ct' (r.drop n)).1), (runF f st' ct' (r.drop n)).2)
theorem runF_more (f : Nat) : ∀ st ct r f', r.length ≤ f → r.length ≤ f' → runF f st ct r = runF f' st ct r := by
  induction f with
  | zero =>
    intro st ct r f' h h'
    obtain rfl : r = [] := List.eq_nil_of_length_eq_zero (by omega)
    cases f' <;> simp [runF, stepF]
  | succ f ih =>
    intro st ct r f' h h'
    cases f' with
    | zero =>
      obtain rfl : r = [] := List.eq_nil_of_length_eq_zero (by omega)
      simp [runF, stepF]
    | succ f' =>
      simp only [runF]
      cases hs : stepF st ct r with
      | none => rfl
      | some x =>
        obtain ⟨n, st', ct'⟩ := x
        have ha := stepF_adv hs
        simp only
        rw [ih st' ct' (r.drop n) f' (by simp; omega) (by simp; omega)]
def findL (st ct : Nat) (r : List UInt8) : Nat × Nat := runF r.length st ct r
theorem findL_none {st ct : Nat} {r : List UInt8} (h : stepF st ct r = none) : findL st ct r = (0, st) := by
  unfold findL
  cases hr : r.length with
  | zero => rfl
  | succ n => simp [runF, h]
theorem findL_some {st ct : Nat} {r : List UInt8} {n st' ct' : Nat} (h : stepF st ct r = some (n, st', ct')) : findL st ct r = (n + (findL st' ct' (r.drop n)).1, (findL st' ct' (r.drop n)).2) := by
  have ha := stepF_adv h
  have e1 : runF r.length st ct r = runF (r.length + 1) st ct r := runF_more _ _ _ _ _ (Nat.le_refl _) (by omega)
  unfold findL
  rw [e1]
  simp only [runF, h]
  rw [runF_more r.length st' ct' (r.drop n) (r.drop n).length (by simp) (Nat.le_refl _)]
end Go.Proofs.YtbdcghbafopjjaaGreatDoor.Pl
end

section
namespace Go.Proofs.YtbdcghbafopjjaaGreatDoor.Pure
open Go Go.RowKit Go.Proofs.YtbdcghbafopjjaaGreatDoor.Hand Go.Proofs.YtbdcghbafopjjaaGreatDoor.Sa Go.Proofs.YtbdcghbafopjjaaGreatDoorW.PrintWords Go.Proofs.YtbdcghbafopjjaaGreatDoor.Pl Go.Proofs.YtbdcghbafopjjaaGreatDoor.Pb
attribute [local simp] B_nil
theorem clean_f (l : List UInt8) (h : l.length ≤ 1000000000) : lines_Clean.f (B l) = some (B (cleanL l)) := by
  unfold lines_Clean.f; rw [if_pos (by simpa using h)]; simp [cleanBA, B]
theorem lower_f (l : List UInt8) (h : l.length ≤ 1000000000) : sign_Lower.f (B l) = some (B (lowL l)) := by
  unfold sign_Lower.f; rw [if_pos (by simpa using h)]; simp [lowBA, B]
theorem u8c (c : UInt8) (n : Nat) (m : Int) (d : UInt8) (h : n < 256) (e : (n : Int) = m) (ed : UInt8.ofNat n = d) : (((c.toNat : Int)) = m) = (c = d) := by
  rw [← e, ← ed]; exact u8_eq c n h
theorem u32 (c : UInt8) : ((c.toNat : Int) = 32) = (c = 32) := u8c c 32 _ _ (by omega) rfl rfl
theorem u9 (c : UInt8) : ((c.toNat : Int) = 9) = (c = 9) := u8c c 9 _ _ (by omega) rfl rfl
theorem u10 (c : UInt8) : ((c.toNat : Int) = 10) = (c = 10) := u8c c 10 _ _ (by omega) rfl rfl
theorem u12 (c : UInt8) : ((c.toNat : Int) = 12) = (c = 12) := u8c c 12 _ _ (by omega) rfl rfl
theorem u13 (c : UInt8) : ((c.toNat : Int) = 13) = (c = 13) := u8c c 13 _ _ (by omega) rfl rfl
theorem u33 (c : UInt8) : ((c.toNat : Int) = 33) = (c = 33) := u8c c 33 _ _ (by omega) rfl rfl
theorem u45 (c : UInt8) : ((c.toNat : Int) = 45) = (c = 45) := u8c c 45 _ _ (by omega) rfl rfl
theorem u47 (c : UInt8) : ((c.toNat : Int) = 47) = (c = 47) := u8c c 47 _ _ (by omega) rfl rfl
theorem u60 (c : UInt8) : ((c.toNat : Int) = 60) = (c = 60) := u8c c 60 _ _ (by omega) rfl rfl
theorem u62 (c : UInt8) : ((c.toNat : Int) = 62) = (c = 62) := u8c c 62 _ _ (by omega) rfl rfl
theorem u63 (c : UInt8) : ((c.toNat : Int) = 63) = (c = 63) := u8c c 63 _ _ (by omega) rfl rfl
theorem ub (c : UInt8) {m : Int} {d : UInt8} (h : ((c.toNat : Int) = m) = (c = d)) : (((c.toNat : Int)) == m) = (c == d) := by
  rw [Bool.eq_iff_iff, beq_iff_eq, beq_iff_eq, h]
theorem space_f (c : UInt8) : sign_Space.f (c.toNat : Int) = some (isSp c) := by
  unfold sign_Space.f isSp
  simp only [u32, u9, u10, ub c (u12 c)]
  by_cases h1 : c = 32
  · simp [h1]
  · by_cases h2 : c = 9
    · simp [h2]
    · by_cases h3 : c = 10
      · simp [h3]
      · simp [h1, h2, h3]
theorem bt_drop (s : List UInt8) (n : Nat) (c : UInt8) (r : List UInt8) (h : s.drop n = c :: r) : bt (B s) (n : Int) = (c.toNat : Int) := by
  have hlt : n < s.length := by
    rcases Nat.lt_or_ge n s.length with h' | h'
    · exact h'
    · rw [List.drop_eq_nil_of_le h'] at h; cases h
  rw [bt_B s n hlt]
  rw [List.drop_eq_getElem_cons hlt] at h
  rw [(List.cons.inj h).1]
theorem drop_lt {s : List UInt8} {n : Nat} {c : UInt8} {r : List UInt8} (h : s.drop n = c :: r) : n < s.length := by
  rcases Nat.lt_or_ge n s.length with h' | h'
  · exact h'
  · rw [List.drop_eq_nil_of_le h'] at h; cases h
theorem drop_nil {s : List UInt8} {n : Nat} (h : s.drop n = []) : s.length ≤ n := by
  rcases Nat.lt_or_ge n s.length with h' | h'
  · rw [List.drop_eq_getElem_cons h'] at h; cases h
  · exact h'
theorem begins_f (s low : List UInt8) (n : Nat) (hs : s.length ≤ 1000000) (hl : low.length ≤ 1000000) (hn : n ≤ s.length) :
    sign_Begins.f (B s) (n : Int) (B low) = some (begR (s.drop n) low) := by
  unfold sign_Begins.f
  have w1 : wrap64 (((B s).size : Int) - (n : Int)) = ((s.length - n : Nat) : Int) := by rw [size_B]; unfold wrap64; omega
  have w2 : wrap64 ((n : Int) + ((B low).size : Int)) = ((n + low.length : Nat) : Int) := by rw [size_B]; unfold wrap64; omega
  rw [if_neg (by omega), if_neg (by simp; omega), w1, w2]
  by_cases h : s.length - n < low.length
  · rw [if_pos (by simp; omega)]
    have : begR (s.drop n) low = false := by
      rw [Bool.eq_false_iff]; intro e
      have := begR_length low _ e
      simp at this; omega
    rw [this]
  · rw [if_neg (by simp; omega), if_pos (by omega), if_pos (by omega), if_pos (by simp; omega)]
    have hx : (B s).extract ((n : Int)).toNat (((n + low.length : Nat) : Int)).toNat = B ((s.drop n).take low.length) := by
      rw [B_extract]; congr 1
      simp only [Int.toNat_natCast, List.drop_take]
      congr 1; omega
    rw [hx, lower_f _ (by simp; omega), Option.bind_some, toList_B, toList_B, begR_eq]
theorem begins_past (s low : List UInt8) (n : Int) (h : n < 0 ∨ (s.length : Int) < n) : sign_Begins.f (B s) n (B low) = some false := by
  unfold sign_Begins.f
  rcases h with h | h
  · rw [if_pos h]
  · by_cases h0 : n < 0
    · rw [if_pos h0]
    · rw [if_neg h0, if_pos (by simpa using h)]
theorem stop_bt (c : UInt8) : ((sign_Space.f (c.toNat : Int)).bind fun t => if t = true then some true else if (c.toNat : Int) = 47 then some true else some (((c.toNat : Int)) == 62)) = some (stops c) := by
  simp only [space_f, Option.bind_some, u47, ub c (u62 c)]
  unfold stops
  cases isSp c
  · by_cases h : c = 47 <;> simp [h]
  · simp
theorem ends_f (k : Nat) (s name : List UInt8) (n : Nat) (hs : s.length ≤ 1000000) (hl : name.length ≤ 1000000) (hn : n ≤ s.length) :
    raw_Ends.f (k + 1) (B s) (n : Int) (B name) = some (endsL (s.drop n) name) := by
  unfold raw_Ends.f
  have j_true : raw_Ends.j0 (k + 1) (B s) (n : Int) (B name) true = some false := by rw [raw_Ends.j0, if_pos rfl]
  by_cases he : name = []
  · subst he
    rw [if_pos (by simp), j_true]; rfl
  · rw [if_neg (by simpa using he), show (⟨#[60, 47]⟩ : ByteArray) = B [60, 47] from rfl, begins_f s [60, 47] n hs (by simp) hn, Option.bind_some]
    have hne : name.isEmpty = false := by simpa using he
    unfold endsL
    rw [hne]
    cases h1 : begR (s.drop n) [60, 47] with
    | false => simp [j_true]
    | true =>
      have l1 := begR_length _ _ h1
      simp only [List.length_drop, List.length_cons, List.length_nil] at l1
      have w2 : wrap64 ((n : Int) + 2) = ((n + 2 : Nat) : Int) := by unfold wrap64; omega
      rw [if_pos rfl, w2, begins_f s name (n + 2) hs hl (by omega), Option.bind_some, List.drop_drop]
      cases h2 : begR (s.drop (n + 2)) name with
      | false => simp [j_true]
      | true =>
        have l2 := begR_length _ _ h2
        simp only [List.length_drop] at l2
        have w3 : wrap64 (wrap64 ((n : Int) + 2) + ((B name).size : Int)) = ((n + 2 + name.length : Nat) : Int) := by rw [w2, size_B]; unfold wrap64; omega
        rw [Bool.not_true, raw_Ends.j0, if_neg (by simp), w3, List.drop_drop]
        have hd : n + (2 + name.length) = n + 2 + name.length := by omega
        rw [hd]
        cases hr : s.drop (n + 2 + name.length) with
        | nil =>
          have := drop_nil hr
          rw [if_pos (by simp; omega)]; rfl
        | cons c r =>
          have hlt := drop_lt hr
          rw [if_neg (by simp; omega), if_pos (by omega), if_pos (by simp; omega), bt_drop s _ c r hr, stop_bt]
          rfl
theorem word_f (k : Nat) (s opens : List UInt8) (n : Nat) (hs : s.length ≤ 1000000) (hl : opens.length ≤ 1000) (hn : n ≤ s.length) :
    script_word.f (k + 1) (B s) (n : Int) (B opens) = some (if wordL (s.drop n) opens = true then ((opens.length + 7 : Nat) : Int) else 0) := by
  unfold script_word.f
  rw [if_pos (by simp; omega), show (⟨#[115, 99, 114, 105, 112, 116]⟩ : ByteArray) = B scriptL from rfl, B_append, begins_f s (opens ++ scriptL) n hs (by simp [scriptL]; omega) hn, Option.bind_some]
  have w1 : wrap64 (((B opens).size : Int) + 6) = ((opens.length + 6 : Nat) : Int) := by rw [size_B]; unfold wrap64; omega
  have w2 : wrap64 ((n : Int) + ((opens.length + 6 : Nat) : Int)) = ((n + (opens.length + 6) : Nat) : Int) := by unfold wrap64; omega
  have w3 : wrap64 (((opens.length + 6 : Nat) : Int) + 1) = ((opens.length + 7 : Nat) : Int) := by unfold wrap64; omega
  rw [w1, w2]
  have j_true : script_word.j0 (k + 1) (B s) (n : Int) ((opens.length + 6 : Nat) : Int) true = some 0 := by rw [script_word.j0, if_pos rfl]
  unfold wordL
  cases h1 : begR (s.drop n) (opens ++ scriptL) with
  | false => rw [if_neg (by simp), j_true, if_neg (by simp)]
  | true =>
    rw [if_pos rfl, List.drop_drop]
    cases hr : s.drop (n + (opens.length + 6)) with
    | nil =>
      have h2 := drop_nil hr
      have l1 := begR_length _ _ h1
      simp [scriptL] at l1
      rw [show (((n + (opens.length + 6) : Nat) : Int) == ((B s).size : Int)) = true by simp; omega, j_true]
      simp [stopAt]
    | cons c r =>
      have hlt := drop_lt hr
      rw [show (((n + (opens.length + 6) : Nat) : Int) == ((B s).size : Int)) = false by simp; omega, script_word.j0, if_neg (by simp), w2, if_pos (by omega), if_pos (by simp; omega), bt_drop s _ c r hr, space_f, Option.bind_some, w3]
      simp only [u47, u62]
      simp only [stopAt, stops, Bool.true_and]
      cases isSp c
      · by_cases h47 : c = 47
        · simp [h47]
        · by_cases h62 : c = 62 <;> simp [h47, h62]
      · simp
end Go.Proofs.YtbdcghbafopjjaaGreatDoor.Pure
end

section
namespace Go.Proofs.YtbdcghbafopjjaaGreatDoor.Pl
open Go
def isDigB (c : UInt8) : Bool := decide (48 ≤ c.toNat) && decide (c.toNat ≤ 57)
def isDg (six : Bool) (c : UInt8) : Bool := isDigB c || (six && decide (0 ≤ hexV c))
def baseN : Bool → Nat
  | true => 16
  | false => 10
def digs (six : Bool) (q : List UInt8) : List UInt8 := q.takeWhile (isDg six)
def numQ (six : Bool) (q : List UInt8) : Option (Nat × Nat) :=
  let v := valL (baseN six) (digs six q)
  if v < 0 then none else some (v.toNat, (digs six q).length + if begR (q.drop (digs six q).length) [59] = true then 1 else 0)
def numL (r : List UInt8) : Option (Nat × Nat) :=
  if begR r [35] = true then
    (if begR (r.drop 1) [120] = true then (numQ true (r.drop 2)).map fun x => (x.1, x.2 + 2) else (numQ false (r.drop 1)).map fun x => (x.1, x.2 + 1))
  else none
theorem takeWhile_le {α : Type} (p : α → Bool) (l : List α) : (l.takeWhile p).length ≤ l.length := by
  induction l with
  | nil => simp
  | cons a l ih => rw [List.takeWhile_cons]; split <;> simp <;> omega
theorem digs_le (six : Bool) (q : List UInt8) : (digs six q).length ≤ q.length := takeWhile_le _ q
theorem begR_one {q : List UInt8} {d : UInt8} (h : begR q [d] = true) : 1 ≤ q.length := by
  cases q with
  | nil => simp [begR] at h
  | cons c r => simp
theorem numQ_le {six : Bool} {q : List UInt8} {n k : Nat} (h : numQ six q = some (n, k)) : n ≤ 1114112 ∧ k ≤ q.length ∧ 1 ≤ k := by
  unfold numQ at h
  simp only at h
  have hb := valL_bound (baseN six) (digs six q)
  have hd := digs_le six q
  split at h
  · cases h
  · rename_i hv
    obtain ⟨h1, h2⟩ := Prod.mk.inj (Option.some.inj h)
    subst h1; subst h2
    refine ⟨by omega, ?_, ?_⟩
    · split
      · rename_i hb
        have := begR_one hb
        rw [List.length_drop] at this
        omega
      · omega
    · have : digs six q ≠ [] := by
        intro e
        apply hv
        rw [e]; exact (show (-1 : Int) < 0 by decide)
      have := List.length_pos_iff.2 this
      omega
theorem numL_le {r : List UInt8} {n k : Nat} (h : numL r = some (n, k)) : n ≤ 1114112 ∧ k ≤ r.length ∧ 2 ≤ k := by
  unfold numL at h
  split at h
  · rename_i h1
    have l1 := begR_one h1
    split at h
    · rename_i h2
      have l2 := begR_one h2
      rw [List.length_drop] at l2
      obtain ⟨⟨a, b⟩, hx, e⟩ := Option.map_eq_some_iff.1 h
      obtain ⟨h3, h4⟩ := Prod.mk.inj e
      obtain ⟨g1, g2, g3⟩ := numQ_le hx
      rw [List.length_drop] at g2
      simp only at h3 h4
      omega
    · obtain ⟨⟨a, b⟩, hx, e⟩ := Option.map_eq_some_iff.1 h
      obtain ⟨h3, h4⟩ := Prod.mk.inj e
      obtain ⟨g1, g2, g3⟩ := numQ_le hx
      rw [List.length_drop] at g2
      simp only at h3 h4
      omega
  · cases h
end Go.Proofs.YtbdcghbafopjjaaGreatDoor.Pl
end

section
namespace Go.Proofs.YtbdcghbafopjjaaGreatDoor.Hand
open Go.RowKit Go.Proofs.YtbdcghbafopjjaaGreatDoor.Pb Go.Proofs.YtbdcghbafopjjaaGreatDoor.Pl Go.Proofs.YtbdcghbafopjjaaGreatDoor.Sa Go.Proofs.YtbdcghbafopjjaaGreatDoor.Pure Go.Proofs.YtbdcghbafopjjaaGreatDoorW.PrintWords
theorem nbegins_c (s low : List UInt8) (n : Nat) (hs : s.length ≤ 1000000) (hl : low.length ≤ 1000000) (hn : n ≤ s.length) (w : World) :
    Calls Tryz.prog 53 #[.string (B s), .int .i64 (n : Int), .string (B low)] w fun e w' => e = .returned (.bool (begR (s.drop n) low)) ∧ Below w.heap.size w w' :=
  sign_Begins.calls _ _ _ _ w (begins_f s low n hs hl hn)
theorem digit_f (c : UInt8) : sign_Digit.f (c.toNat : Int) = some (isDigB c) := by
  unfold sign_Digit.f sign_within.f isDigB
  by_cases h : 48 ≤ c.toNat
  · rw [if_pos (by omega), Option.bind_some, decide_eq_true h, Bool.true_and]
    congr 1
    rw [Bool.eq_iff_iff, decide_eq_true_eq, decide_eq_true_eq]; omega
  · rw [if_neg (by omega), Option.bind_some, decide_eq_false h, Bool.false_and]
theorem digit_c (c : UInt8) (w : World) : Calls Tryz.prog 87 #[.int .u8 (c.toNat : Int)] w fun e w' => e = .returned (.bool (isDigB c)) ∧ Below w.heap.size w w' :=
  (sign_Digit.calls _ _ w (digit_f c)).mono fun _ _ h => ⟨h.1, h.2.below⟩
def numT (s : List UInt8) (at_ : Nat) : Value := match numL (s.drop at_) with
  | some (n, k) => .tuple #[.string (fixB n), .int .i64 ((at_ + k : Nat) : Int), .bool true]
  | none => .tuple #[.string ⟨#[]⟩, .int .i64 (at_ : Int), .bool false]
def numU (s : List UInt8) (at_ i : Nat) (six : Bool) : Value := match numQ six (s.drop i) with
  | some (n, k) => .tuple #[.string (fixB n), .int .i64 ((i + k : Nat) : Int), .bool true]
  | none => .tuple #[.string ⟨#[]⟩, .int .i64 (at_ : Int), .bool false]
theorem digs_at {six : Bool} {q : List UInt8} {k : Nat} (h1 : ∀ j, (h : j < q.length) → j < k → isDg six q[j] = true) (h2 : k = q.length ∨ ∃ h : k < q.length, isDg six q[k] = false) : digs six q = q.take k := by
  unfold digs
  induction q generalizing k with
  | nil => simp
  | cons c r ih =>
    cases k with
    | zero =>
      rcases h2 with h | ⟨h, e⟩
      · cases h
      · rw [List.takeWhile_cons]; simp only [List.getElem_cons_zero] at e; rw [e]; rfl
    | succ k =>
      have e := h1 0 (by simp) (by omega)
      simp only [List.getElem_cons_zero] at e
      rw [List.takeWhile_cons, e, if_pos rfl, List.take_succ_cons, ih (k := k)]
      · intro j h hj
        have := h1 (j + 1) (by simp; omega) (by omega)
        simpa using this
      · rcases h2 with h | ⟨h, e⟩
        · left; simpa using h
        · right; exact ⟨by simpa using h, by simpa using e⟩
theorem num_exit (s : List UInt8) (n i k : Nat) (six : Bool) (hs : s.length ≤ 100000) (hik : i ≤ k) (hk : k ≤ s.length) (h1 : ∀ j (h : j < s.length), i ≤ j → j < k → isDg six s[j] = true) (h2 : k = s.length ∨ ∃ h : k < s.length, isDg six s[k] = false) :
    ∃ v : Int, (∀ W, Calls Tryz.prog 89 #[.string ((B s).extract i k), .bool six] W fun e w' => e = .returned (.int .i64 v) ∧ Below W.heap.size W w') ∧
      ((v = -1 ∧ numU s n i six = .tuple #[.string ⟨#[]⟩, .int .i64 (n : Int), .bool false]) ∨
       ∃ m : Nat, v = m ∧ m ≤ 1114112 ∧ ∃ b3, (∀ W, Calls Tryz.prog 53 #[.string (B s), .int .i64 (k : Int), .string ⟨#[59]⟩] W fun e w' => e = .returned (.bool b3) ∧ Below W.heap.size W w') ∧ (b3 = true → k + 1 ≤ s.length) ∧
         numU s n i six = .tuple #[.string (fixB m), .int .i64 ((k + if b3 = true then 1 else 0 : Nat) : Int), .bool true]) := by
  have hd : digs six (s.drop i) = (s.drop i).take (k - i) := by
    apply digs_at
    · intro j h hj
      rw [List.length_drop] at h
      have := h1 (i + j) (by omega) (by omega) (by omega)
      rw [List.getElem_drop]; exact this
    · rcases h2 with h | ⟨h, e⟩
      · left; rw [List.length_drop]; omega
      · right
        refine ⟨by rw [List.length_drop]; omega, ?_⟩
        rw [List.getElem_drop]
        have : i + (k - i) = k := by omega
        simp only [this]; exact e
  have he : (B s).extract i k = B (digs six (s.drop i)) := by rw [hd, B_extract, List.drop_take]
  have hl : (digs six (s.drop i)).length = k - i := by rw [hd, List.length_take, List.length_drop]; omega
  refine ⟨valL (baseN six) (digs six (s.drop i)), fun W => by rw [he]; exact value_at (baseN six) six (by cases six <;> rfl) _ (by rw [hl]; omega) W, ?_⟩
  have hb := valL_bound (baseN six) (digs six (s.drop i))
  unfold numU numQ
  simp only
  by_cases hv : valL (baseN six) (digs six (s.drop i)) < 0
  · left
    refine ⟨by omega, ?_⟩
    rw [if_pos hv]
  · right
    refine ⟨(valL (baseN six) (digs six (s.drop i))).toNat, by omega, by omega, begR (s.drop k) [59], fun W => nbegins_c s [59] k (by omega) (by decide) hk W, fun h => ?_, ?_⟩
    · have := begR_one h; rw [List.length_drop] at this; omega
    · rw [if_neg hv, hl, List.drop_drop, show i + (k - i) = k by omega]
      simp only [← Nat.add_assoc, show i + (k - i) = k by omega]
set_option maxRecDepth 100000 in
set_option maxHeartbeats 8000000 in
theorem number_c (s : List UInt8) (n : Nat) (hs : s.length ≤ 100000) (hn : n ≤ s.length) (w : World) :
    Calls Tryz.prog 54 #[.string (B s), .int .i64 (n : Int)] w fun e w' => e = .returned (numT s n) ∧ Below w.heap.size w w' := by
  have BG := Lib.hid (fun (low : List UInt8) (hl : low.length ≤ 1000000) (i : Nat) (hi : i ≤ s.length) W => nbegins_c s low i (by omega) hl hi W)
  have DG := Lib.hid (fun c W => digit_c c W)
  have HX := Lib.hid (fun c W => hex_c c W)
  have VA := Lib.hid (fun (six : Bool) (d : List UInt8) (hd : d.length ≤ 1000000) W => value_at (baseN six) six (by cases six <;> rfl) d hd W)
  have FX := Lib.hid (fun (k : Nat) (hk : k ≤ 1114112) W => fix_c k hk W)
  have B1 := BG.out [35] (by decide) n hn w
  obtain ⟨b1, hb1⟩ : ∃ b, begR (s.drop n) [35] = b := ⟨_, rfl⟩
  rw [hb1] at B1
  have HB1 := Lib.hid B1
  obtain ⟨T, hT⟩ : ∃ T, numT s n = T := ⟨_, rfl⟩
  rw [hT]
  obtain ⟨a, ha⟩ : ∃ a, B s = a := ⟨_, rfl⟩
  have hsz : a.size = s.length := by rw [← ha]; simp
  have hX : ∀ i (h : i < a.size), s[i]? = some a[i] := fun i h => by
    subst ha
    have hl : i < s.length := by simpa using h
    rw [List.getElem?_eq_getElem hl]
    rfl
  have hcut : ∀ i j, a.extract i j = B ((s.take j).drop i) := fun i j => by rw [← ha, B_extract]
  cases b1 with
  | false =>
    have hT2 : T = .tuple #[.string ⟨#[]⟩, .int .i64 (n : Int), .bool false] := by
      rw [← hT]; unfold numT numL; rw [hb1, if_neg (by decide)]
    subst hT2
    rw [ha] at HB1 ⊢
    clear B1 BG hb1 hT ha hsz hX hcut DG HX VA FX
    go_enter Tryz.func54, Tryz.ntmps54
    go_wp2_with fail
    refine HB1.out.mono ?_
    rintro e w1 ⟨rfl, hb⟩
    go_wp2_with fail
    go_ret3
    exact ⟨rfl, hb⟩
  | true =>
    have hn1 : n + 1 ≤ s.length := by have := begR_one hb1; rw [List.length_drop] at this; omega
    have B2 := fun W => BG.out [120] (by decide) (n + 1) hn1 W
    obtain ⟨six, hsix⟩ : ∃ b, begR (s.drop (n + 1)) [120] = b := ⟨_, rfl⟩
    rw [hsix] at B2
    have HB2 := Lib.hid B2
    have hT2 : ∃ i, i = (if six = true then n + 1 + 1 else n + 1) ∧ i ≤ s.length ∧ T = numU s n i six := by
      refine ⟨_, rfl, ?_, ?_⟩
      · cases six with
        | true => have := begR_one hsix; rw [List.length_drop] at this; rw [if_pos rfl]; omega
        | false => rw [if_neg (by decide)]; exact hn1
      · rw [← hT]
        unfold numT numL numU
        rw [hb1, if_pos rfl, List.drop_drop, List.drop_drop, hsix]
        cases six with
        | true =>
          rw [if_pos rfl, if_pos rfl]
          cases numQ true (s.drop (n + 2)) with
          | none => rfl
          | some x => show Value.tuple #[_, _, _] = _; simp; omega
        | false =>
          rw [if_neg (by decide), if_neg (by decide)]
          cases numQ false (s.drop (n + 1)) with
          | none => rfl
          | some x => show Value.tuple #[_, _, _] = _; simp; omega
    obtain ⟨i0, hi0, hi0s, hTU⟩ := hT2
    have BG3 := Lib.hid (fun (i : Nat) (hi : i ≤ s.length) W => BG.out [59] (by decide) i hi W)
    have HAA := Lib.hid ha
    rw [ha] at HB1 HB2 BG3 ⊢
    have HSZ := Lib.hid hsz
    have HXX := Lib.hid hX
    have HCU := Lib.hid hcut
    have HTU := Lib.hid hTU
    have hn1' : n + 1 ≤ a.size := by omega
    have hi0a : i0 ≤ a.size := by omega
    clear B1 B2 BG hb1 hT ha hX hcut hsix hsz hTU hn1 hn
    have hs2 : a.size ≤ 100000 := by have := HSZ.out; omega
    clear hs hi0s
    have HEX := Lib.hid (fun (k : Nat) (h1 : i0 ≤ k) (h2 : k ≤ a.size) (h3 : ∀ j (h : j < s.length), i0 ≤ j → j < k → isDg six s[j] = true) h4 => (by have := num_exit s n i0 k six (by have := HSZ.out; omega) h1 (by have := HSZ.out; omega) h3 h4; rw [HAA.out] at this; exact this : ∃ v : Int, (∀ W, Calls Tryz.prog 89 #[.string (a.extract i0 k), .bool six] W fun e w' => e = .returned (.int .i64 v) ∧ Below W.heap.size W w') ∧
      ((v = -1 ∧ numU s n i0 six = .tuple #[.string ⟨#[]⟩, .int .i64 (n : Int), .bool false]) ∨
       ∃ m : Nat, v = m ∧ m ≤ 1114112 ∧ ∃ b3, (∀ W, Calls Tryz.prog 53 #[.string a, .int .i64 (k : Int), .string ⟨#[59]⟩] W fun e w' => e = .returned (.bool b3) ∧ Below W.heap.size W w') ∧ (b3 = true → k + 1 ≤ s.length) ∧
         numU s n i0 six = .tuple #[.string (fixB m), .int .i64 ((k + if b3 = true then 1 else 0 : Nat) : Int), .bool true])))
    clear HAA
    cases six with
    | true =>
      rw [if_pos rfl] at hi0
      subst hi0
      go_enter Tryz.func54, Tryz.ntmps54
      go_wp2_with fail
      refine HB1.out.mono ?_
      rintro e w1 ⟨rfl, hb⟩
      have HW := Lib.hid hb
      clear hb
      go_wp2_with fail
      refine (HB2.out _).mono ?_
      rintro e w2 ⟨rfl, hb⟩
      replace HW := Lib.hid (HW.out.trans (hb.mono HW.out.size))
      clear hb
      go_wp2_with fail
      go_loopw [7] (fun v wx => ∃ k : Nat, v = .int .i64 (k : Int) ∧ (n + 1 + 1) ≤ k ∧ k ≤ a.size ∧ Hid (Below w.heap.size w wx) ∧ Hid (∀ j (h : j < s.length), (n + 1 + 1) ≤ j → j < k → isDg true s[j] = true)) (fun v _ => a.size - (intOf v).toNat)
      case atStart => exact ⟨(n + 1 + 1), by go_num, Nat.le_refl _, hi0a, HW, Lib.hid (fun j _ h1 h2 => by omega)⟩
      case round =>
        clear HW
        obtain ⟨k, rfl, hik, hk, HW, hD⟩ := hrel
        by_cases hlt : k < a.size
        · have hks : k < s.length := by have := HSZ.out; omega
          have hcg : a[k] = s[k] := by
            have := HXX.out k hlt
            rw [List.getElem?_eq_getElem hks] at this
            exact (Option.some.inj this).symm
          have HDG := Lib.hid (DG.out a[k])
          cases hdg : isDigB a[k] with
          | true =>
            have F : Hid (∀ W, Calls Tryz.prog 87 #[.int .u8 ((a[k].toNat : Nat) : Int)] W fun e w' => e = .returned (.bool true) ∧ Below W.heap.size W w') := Lib.hid (fun W => by rw [← hdg]; exact HDG.out W)
            have HN : Hid (∀ j (h : j < s.length), (n + 1 + 1) ≤ j → j < k + 1 → isDg true s[j] = true) := Lib.hid (fun j h h1 h2 => by
              by_cases e : j = k
              · subst e; rw [← hcg]; unfold isDg; rw [hdg]; rfl
              · exact hD.out j h h1 (by omega))
            clear hcg HDG hdg hD
            go_wp2_with fail
            refine (F.out _).mono ?_
            rintro e w4 ⟨rfl, hb⟩
            replace HW := Lib.hid (HW.out.trans (hb.mono HW.out.size))
            clear hb
            go_wp2_with fail
            go_roundw
            case rel => exact ⟨k + 1, by go_num, by omega, by omega, HW, HN⟩
            case measure => simp [intOf]; omega
          | false =>
            have F : Hid (∀ W, Calls Tryz.prog 87 #[.int .u8 ((a[k].toNat : Nat) : Int)] W fun e w' => e = .returned (.bool false) ∧ Below W.heap.size W w') := Lib.hid (fun W => by rw [← hdg]; exact HDG.out W)
            have HHX := Lib.hid (HX.out a[k])
            obtain ⟨x, hx⟩ : ∃ x, hexV a[k] = x := ⟨_, rfl⟩
            have F2 : Hid (∀ W, Calls Tryz.prog 88 #[.int .u8 ((a[k].toNat : Nat) : Int)] W fun e w' => e = .returned (.int .i64 x) ∧ Below W.heap.size W w') := Lib.hid (fun W => by rw [← hx]; exact HHX.out W)
            by_cases hx0 : 0 ≤ x
            · have q1 : decide ((0 : Int) ≤ x) = true := decide_eq_true hx0
              have HN : Hid (∀ j (h : j < s.length), (n + 1 + 1) ≤ j → j < k + 1 → isDg true s[j] = true) := Lib.hid (fun j h h1 h2 => by
                by_cases e : j = k
                · subst e; rw [← hcg]; unfold isDg; rw [hdg, hx, q1]; rfl
                · exact hD.out j h h1 (by omega))
              clear hcg HDG hdg hD hx HHX hx0
              go_wp2_with fail
              refine (F.out _).mono ?_
              rintro e w4 ⟨rfl, hb⟩
              replace HW := Lib.hid (HW.out.trans (hb.mono HW.out.size))
              clear hb
              go_wp2_with fail
              refine (F2.out _).mono ?_
              rintro e w4 ⟨rfl, hb⟩
              replace HW := Lib.hid (HW.out.trans (hb.mono HW.out.size))
              clear hb
              go_wp2_with fail
              go_roundw
              case rel => exact ⟨k + 1, by go_num, by omega, by omega, HW, HN⟩
              case measure => simp [intOf]; omega
            · have q1 : decide ((0 : Int) ≤ x) = false := decide_eq_false hx0
              have hstop : k = s.length ∨ ∃ h : k < s.length, isDg true s[k] = false := .inr ⟨hks, by rw [← hcg]; unfold isDg; rw [hdg, hx, q1]; rfl⟩
              clear hcg HDG hdg hx HHX hx0
              have HST := Lib.hid hstop
              clear hstop
              go_wp2_with fail
              refine (F.out _).mono ?_
              rintro e w4 ⟨rfl, hb⟩
              replace HW := Lib.hid (HW.out.trans (hb.mono HW.out.size))
              clear hb
              go_wp2_with fail
              refine (F2.out _).mono ?_
              rintro e w4 ⟨rfl, hb⟩
              replace HW := Lib.hid (HW.out.trans (hb.mono HW.out.size))
              clear hb
              have hstop := HST.out
              clear HST F F2
              have hE := HEX.out k hik hk (fun j h _ hj => hD.out j h (by omega) hj) hstop
              obtain ⟨v, FV, hv⟩ := hE
              have HFV := Lib.hid FV
              clear FV hstop
              rcases hv with ⟨rfl, hv⟩ | ⟨m, rfl, hm, b3, FB, hb3, hv⟩
              · have HV := Lib.hid (HTU.out.trans hv)
                clear hv
                go_wp2_with fail
                with_reducible refine (HFV.out _).mono ?_
                rintro e w5 ⟨rfl, hb⟩
                replace HW := Lib.hid (HW.out.trans (hb.mono HW.out.size))
                clear hb
                go_wp2_with fail
                go_ret3
                exact ⟨by rw [HV.out]; rfl, HW.out⟩
              · have HV := Lib.hid (HTU.out.trans hv)
                have HFB := Lib.hid FB
                have HFX := Lib.hid (FX.out m hm)
                have hb3' : b3 = true → k + 1 ≤ a.size := fun h => by have := hb3 h; have := HSZ.out; omega
                clear hv FB hb3
                go_wp2_with fail
                with_reducible refine (HFV.out _).mono ?_
                rintro e w5 ⟨rfl, hb⟩
                replace HW := Lib.hid (HW.out.trans (hb.mono HW.out.size))
                clear hb
                go_wp2_with fail
                with_reducible refine (HFB.out _).mono ?_
                rintro e w6 ⟨rfl, hb⟩
                replace HW := Lib.hid (HW.out.trans (hb.mono HW.out.size))
                clear hb
                cases b3 with
                | true =>
                  have hk1 := hb3' rfl
                  clear hb3'
                  go_wp2_with fail
                  with_reducible refine (HFX.out _).mono ?_
                  rintro e w7 ⟨rfl, hb⟩
                  replace HW := Lib.hid (HW.out.trans (hb.mono HW.out.size))
                  clear hb
                  go_wp2_with fail
                  go_ret3
                  exact ⟨by rw [HV.out]; simp only [if_true]; rfl, HW.out⟩
                | false =>
                  clear hb3'
                  go_wp2_with fail
                  with_reducible refine (HFX.out _).mono ?_
                  rintro e w7 ⟨rfl, hb⟩
                  replace HW := Lib.hid (HW.out.trans (hb.mono HW.out.size))
                  clear hb
                  go_wp2_with fail
                  go_ret3
                  exact ⟨by rw [HV.out]; rfl, HW.out⟩
        · obtain rfl : k = a.size := by omega
          have hstop : a.size = s.length ∨ ∃ h : a.size < s.length, isDg true s[a.size] = false := .inl (by have := HSZ.out; omega)
          clear DG
          have hE := HEX.out a.size hik hk (fun j h _ hj => hD.out j h (by omega) hj) hstop
          obtain ⟨v, FV, hv⟩ := hE
          have HFV := Lib.hid FV
          clear FV hstop
          rcases hv with ⟨rfl, hv⟩ | ⟨m, rfl, hm, b3, FB, hb3, hv⟩
          · have HV := Lib.hid (HTU.out.trans hv)
            clear hv
            go_wp2_with fail
            with_reducible refine (HFV.out _).mono ?_
            rintro e w5 ⟨rfl, hb⟩
            replace HW := Lib.hid (HW.out.trans (hb.mono HW.out.size))
            clear hb
            go_wp2_with fail
            go_ret3
            exact ⟨by rw [HV.out]; rfl, HW.out⟩
          · have HV := Lib.hid (HTU.out.trans hv)
            have HFB := Lib.hid FB
            have HFX := Lib.hid (FX.out m hm)
            have hb3' : b3 = true → a.size + 1 ≤ a.size := fun h => by have := hb3 h; have := HSZ.out; omega
            clear hv FB hb3
            go_wp2_with fail
            with_reducible refine (HFV.out _).mono ?_
            rintro e w5 ⟨rfl, hb⟩
            replace HW := Lib.hid (HW.out.trans (hb.mono HW.out.size))
            clear hb
            go_wp2_with fail
            with_reducible refine (HFB.out _).mono ?_
            rintro e w6 ⟨rfl, hb⟩
            replace HW := Lib.hid (HW.out.trans (hb.mono HW.out.size))
            clear hb
            cases b3 with
            | true =>
              have hk1 := hb3' rfl
              clear hb3'
              go_wp2_with fail
              with_reducible refine (HFX.out _).mono ?_
              rintro e w7 ⟨rfl, hb⟩
              replace HW := Lib.hid (HW.out.trans (hb.mono HW.out.size))
              clear hb
              go_wp2_with fail
              go_ret3
              exact ⟨by rw [HV.out]; simp only [if_true]; rfl, HW.out⟩
            | false =>
              clear hb3'
              go_wp2_with fail
              with_reducible refine (HFX.out _).mono ?_
              rintro e w7 ⟨rfl, hb⟩
              replace HW := Lib.hid (HW.out.trans (hb.mono HW.out.size))
              clear hb
              go_wp2_with fail
              go_ret3
              exact ⟨by rw [HV.out]; rfl, HW.out⟩
    | false =>
      rw [if_neg (by decide)] at hi0
      subst hi0
      go_enter Tryz.func54, Tryz.ntmps54
      go_wp2_with fail
      refine HB1.out.mono ?_
      rintro e w1 ⟨rfl, hb⟩
      have HW := Lib.hid hb
      clear hb
      go_wp2_with fail
      refine (HB2.out _).mono ?_
      rintro e w2 ⟨rfl, hb⟩
      replace HW := Lib.hid (HW.out.trans (hb.mono HW.out.size))
      clear hb
      go_wp2_with fail
      go_loopw [7] (fun v wx => ∃ k : Nat, v = .int .i64 (k : Int) ∧ (n + 1) ≤ k ∧ k ≤ a.size ∧ Hid (Below w.heap.size w wx) ∧ Hid (∀ j (h : j < s.length), (n + 1) ≤ j → j < k → isDg false s[j] = true)) (fun v _ => a.size - (intOf v).toNat)
      case atStart => exact ⟨(n + 1), by go_num, Nat.le_refl _, hi0a, HW, Lib.hid (fun j _ h1 h2 => by omega)⟩
      case round =>
        clear HW
        obtain ⟨k, rfl, hik, hk, HW, hD⟩ := hrel
        by_cases hlt : k < a.size
        · have hks : k < s.length := by have := HSZ.out; omega
          have hcg : a[k] = s[k] := by
            have := HXX.out k hlt
            rw [List.getElem?_eq_getElem hks] at this
            exact (Option.some.inj this).symm
          have HDG := Lib.hid (DG.out a[k])
          cases hdg : isDigB a[k] with
          | true =>
            have F : Hid (∀ W, Calls Tryz.prog 87 #[.int .u8 ((a[k].toNat : Nat) : Int)] W fun e w' => e = .returned (.bool true) ∧ Below W.heap.size W w') := Lib.hid (fun W => by rw [← hdg]; exact HDG.out W)
            have HN : Hid (∀ j (h : j < s.length), (n + 1) ≤ j → j < k + 1 → isDg false s[j] = true) := Lib.hid (fun j h h1 h2 => by
              by_cases e : j = k
              · subst e; rw [← hcg]; unfold isDg; rw [hdg]; rfl
              · exact hD.out j h h1 (by omega))
            clear hcg HDG hdg hD
            go_wp2_with fail
            refine (F.out _).mono ?_
            rintro e w4 ⟨rfl, hb⟩
            replace HW := Lib.hid (HW.out.trans (hb.mono HW.out.size))
            clear hb
            go_wp2_with fail
            go_roundw
            case rel => exact ⟨k + 1, by go_num, by omega, by omega, HW, HN⟩
            case measure => simp [intOf]; omega
          | false =>
            have F : Hid (∀ W, Calls Tryz.prog 87 #[.int .u8 ((a[k].toNat : Nat) : Int)] W fun e w' => e = .returned (.bool false) ∧ Below W.heap.size W w') := Lib.hid (fun W => by rw [← hdg]; exact HDG.out W)
            have hstop : k = s.length ∨ ∃ h : k < s.length, isDg false s[k] = false := .inr ⟨hks, by rw [← hcg]; unfold isDg; rw [hdg]; rfl⟩
            clear hcg HDG hdg
            have HST := Lib.hid hstop
            clear hstop
            go_wp2_with fail
            refine (F.out _).mono ?_
            rintro e w4 ⟨rfl, hb⟩
            replace HW := Lib.hid (HW.out.trans (hb.mono HW.out.size))
            clear hb
            have hstop := HST.out
            clear HST F
            have hE := HEX.out k hik hk (fun j h _ hj => hD.out j h (by omega) hj) hstop
            obtain ⟨v, FV, hv⟩ := hE
            have HFV := Lib.hid FV
            clear FV hstop
            rcases hv with ⟨rfl, hv⟩ | ⟨m, rfl, hm, b3, FB, hb3, hv⟩
            · have HV := Lib.hid (HTU.out.trans hv)
              clear hv
              go_wp2_with fail
              with_reducible refine (HFV.out _).mono ?_
              rintro e w5 ⟨rfl, hb⟩
              replace HW := Lib.hid (HW.out.trans (hb.mono HW.out.size))
              clear hb
              go_wp2_with fail
              go_ret3
              exact ⟨by rw [HV.out]; rfl, HW.out⟩
            · have HV := Lib.hid (HTU.out.trans hv)
              have HFB := Lib.hid FB
              have HFX := Lib.hid (FX.out m hm)
              have hb3' : b3 = true → k + 1 ≤ a.size := fun h => by have := hb3 h; have := HSZ.out; omega
              clear hv FB hb3
              go_wp2_with fail
              with_reducible refine (HFV.out _).mono ?_
              rintro e w5 ⟨rfl, hb⟩
              replace HW := Lib.hid (HW.out.trans (hb.mono HW.out.size))
              clear hb
              go_wp2_with fail
              with_reducible refine (HFB.out _).mono ?_
              rintro e w6 ⟨rfl, hb⟩
              replace HW := Lib.hid (HW.out.trans (hb.mono HW.out.size))
              clear hb
              cases b3 with
              | true =>
                have hk1 := hb3' rfl
                clear hb3'
                go_wp2_with fail
                with_reducible refine (HFX.out _).mono ?_
                rintro e w7 ⟨rfl, hb⟩
                replace HW := Lib.hid (HW.out.trans (hb.mono HW.out.size))
                clear hb
                go_wp2_with fail
                go_ret3
                exact ⟨by rw [HV.out]; simp only [if_true]; rfl, HW.out⟩
              | false =>
                clear hb3'
                go_wp2_with fail
                with_reducible refine (HFX.out _).mono ?_
                rintro e w7 ⟨rfl, hb⟩
                replace HW := Lib.hid (HW.out.trans (hb.mono HW.out.size))
                clear hb
                go_wp2_with fail
                go_ret3
                exact ⟨by rw [HV.out]; rfl, HW.out⟩
        · obtain rfl : k = a.size := by omega
          have hstop : a.size = s.length ∨ ∃ h : a.size < s.length, isDg false s[a.size] = false := .inl (by have := HSZ.out; omega)
          clear DG
          have hE := HEX.out a.size hik hk (fun j h _ hj => hD.out j h (by omega) hj) hstop
          obtain ⟨v, FV, hv⟩ := hE
          have HFV := Lib.hid FV
          clear FV hstop
          rcases hv with ⟨rfl, hv⟩ | ⟨m, rfl, hm, b3, FB, hb3, hv⟩
          · have HV := Lib.hid (HTU.out.trans hv)
            clear hv
            go_wp2_with fail
            with_reducible refine (HFV.out _).mono ?_
            rintro e w5 ⟨rfl, hb⟩
            replace HW := Lib.hid (HW.out.trans (hb.mono HW.out.size))
            clear hb
            go_wp2_with fail
            go_ret3
            exact ⟨by rw [HV.out]; rfl, HW.out⟩
          · have HV := Lib.hid (HTU.out.trans hv)
            have HFB := Lib.hid FB
            have HFX := Lib.hid (FX.out m hm)
            have hb3' : b3 = true → a.size + 1 ≤ a.size := fun h => by have := hb3 h; have := HSZ.out; omega
            clear hv FB hb3
            go_wp2_with fail
            with_reducible refine (HFV.out _).mono ?_
            rintro e w5 ⟨rfl, hb⟩
            replace HW := Lib.hid (HW.out.trans (hb.mono HW.out.size))
            clear hb
            go_wp2_with fail
            with_reducible refine (HFB.out _).mono ?_
            rintro e w6 ⟨rfl, hb⟩
            replace HW := Lib.hid (HW.out.trans (hb.mono HW.out.size))
            clear hb
            cases b3 with
            | true =>
              have hk1 := hb3' rfl
              clear hb3'
              go_wp2_with fail
              with_reducible refine (HFX.out _).mono ?_
              rintro e w7 ⟨rfl, hb⟩
              replace HW := Lib.hid (HW.out.trans (hb.mono HW.out.size))
              clear hb
              go_wp2_with fail
              go_ret3
              exact ⟨by rw [HV.out]; simp only [if_true]; rfl, HW.out⟩
            | false =>
              clear hb3'
              go_wp2_with fail
              with_reducible refine (HFX.out _).mono ?_
              rintro e w7 ⟨rfl, hb⟩
              replace HW := Lib.hid (HW.out.trans (hb.mono HW.out.size))
              clear hb
              go_wp2_with fail
              go_ret3
              exact ⟨by rw [HV.out]; rfl, HW.out⟩
end Go.Proofs.YtbdcghbafopjjaaGreatDoor.Hand
end

section
namespace Go.Proofs.YtbdcghbafopjjaaGreatDoor.Hand
open Go Go.RowKit Go.Proofs.YtbdcghbafopjjaaGreatDoor.Pl Go.Proofs.YtbdcghbafopjjaaGreatDoor.Pb Go.Proofs.YtbdcghbafopjjaaGreatDoor.Sa Go.Proofs.YtbdcghbafopjjaaGreatDoor.Pure Go.Proofs.YtbdcghbafopjjaaGreatDoorW.PrintWords
def isLetB (c : UInt8) : Bool := (decide (65 ≤ c.toNat) && decide (c.toNat ≤ 90)) || (decide (97 ≤ c.toNat) && decide (c.toNat ≤ 122))
def keptB (c : UInt8) : Bool := c == 61 || (isLetB c || isDigB c)
def keptL : List UInt8 → Bool
  | [] => false
  | c :: _ => keptB c
def leftL (attr : Bool) (name after : List UInt8) : Bool := attr && (!Lib.hasSuffix name [59] && keptL after)
inductive RefR (s : List UInt8) (n : Nat) (attr : Bool) : Value → Prop
  | no (h : begR (s.drop n) [38] = false) : RefR s n attr (.tuple #[.string ⟨#[]⟩, .int .i64 (n : Int)])
  | num (h : begR (s.drop n) [38] = true) (m k : Nat) (h2 : numL (s.drop (n + 1)) = some (m, k)) : RefR s n attr (.tuple #[.string (fixB m), .int .i64 ((n + 1 + k : Nat) : Int)])
  | left (h : begR (s.drop n) [38] = true) (h2 : numL (s.drop (n + 1)) = none) (k : Nat) (h3 : Lng namesL (s.drop (n + 1)) k) (h4 : k = 0 ∨ leftL attr ((s.drop (n + 1)).take k) (s.drop (n + 1 + k)) = true) :
      RefR s n attr (.tuple #[.string (B ((s.drop n).take (k + 1))), .int .i64 ((n + 1 + k : Nat) : Int)])
  | name (h : begR (s.drop n) [38] = true) (h2 : numL (s.drop (n + 1)) = none) (k : Nat) (h3 : Lng namesL (s.drop (n + 1)) k) (h4 : k ≠ 0) (h5 : leftL attr ((s.drop (n + 1)).take k) (s.drop (n + 1 + k)) = false)
      (rest : List UInt8) (h6 : Fnd namesL ((s.drop (n + 1)).take k) (some rest)) : RefR s n attr (.tuple #[.string (textB (num1 rest) (num2 rest)), .int .i64 ((n + 1 + k : Nat) : Int)])
set_option maxRecDepth 100000 in
theorem or32 : ∀ x : Fin 256, decide (97 ≤ Go.bits .or .u8 ((x.val : Nat) : Int) 32 ∧ Go.bits .or .u8 ((x.val : Nat) : Int) 32 ≤ 122) = ((decide (65 ≤ x.val) && decide (x.val ≤ 90)) || (decide (97 ≤ x.val) && decide (x.val ≤ 122))) := by decide
theorem letter_f (c : UInt8) : sign_Letter.f (c.toNat : Int) = some (isLetB c) := by
  have h := or32 ⟨c.toNat, c.toNat_lt⟩
  unfold sign_Letter.f sign_within.f isLetB
  rw [← h]
  by_cases h1 : Go.bits .or .u8 ((c.toNat : Nat) : Int) 32 ≥ 97
  · rw [if_pos h1, Option.bind_some]
    congr 1
    rw [Bool.eq_iff_iff, decide_eq_true_eq, decide_eq_true_eq]
    exact ⟨fun h => ⟨h1, h⟩, fun h => h.2⟩
  · rw [if_neg h1, Option.bind_some]
    congr 1
    exact (decide_eq_false (fun h => h1 h.1)).symm
theorem kept_f (s : List UInt8) (n : Nat) (hn : n ≤ s.length) : ref_kept.f (B s) (n : Int) = some (keptL (s.drop n)) := by
  unfold ref_kept.f
  rcases Nat.lt_or_ge n s.length with h | h
  · have hd := List.drop_eq_getElem_cons h
    rw [if_pos (by rw [size_B]; omega), if_pos (by omega), hd, bt_drop s n _ _ hd]
    unfold keptL keptB
    by_cases h61 : s[n] = 61
    · rw [h61]; rfl
    · rw [if_neg (fun e => h61 (UInt8.toNat_inj.1 (show s[n].toNat = 61 by omega)))]
      unfold sign_Word.f
      rw [letter_f, digit_f]
      simp only [Option.bind_some]
      rw [show (s[n] == 61) = false by rw [beq_eq_false_iff_ne]; exact h61]
      cases isLetB s[n] <;> rfl
  · rw [if_neg (by rw [size_B]; omega), List.drop_eq_nil_of_le h]; rfl
theorem kept_c (s : List UInt8) (n : Nat) (hn : n ≤ s.length) (w : World) : Calls Tryz.prog 58 #[.string (B s), .int .i64 (n : Int)] w fun e w' => e = .returned (.bool (keptL (s.drop n))) ∧ Below w.heap.size w w' :=
  (ref_kept.calls _ _ _ w (kept_f s n hn)).mono fun _ _ h => ⟨h.1, h.2.below⟩
set_option maxRecDepth 100000 in
set_option maxHeartbeats 8000000 in
theorem read_c (s : List UInt8) (n : Nat) (attr : Bool) (hs : s.length ≤ 100000) (hn : n ≤ s.length) (w : World) (hGl : Glob w) (hGE : GlobE w) :
    Calls Tryz.prog 33 #[.string (B s), .int .i64 (n : Int), .bool attr] w fun e w' => (∃ v, RefR s n attr v ∧ e = .returned v) ∧ Below w.heap.size w w' := by
  have BG := Lib.hid (nbegins_c s [38] n (by omega) (by decide) hn w)
  have HG := Lib.hid hGl
  have HE := Lib.hid hGE
  obtain ⟨a, ha⟩ : ∃ a, B s = a := ⟨_, rfl⟩
  have HA := Lib.hid ha
  have hsz : a.size = s.length := by rw [← ha]; simp
  obtain ⟨b1, hb1⟩ : ∃ b, begR (s.drop n) [38] = b := ⟨_, rfl⟩
  rw [hb1, ha] at BG
  rw [ha]
  have hB1 := Lib.hid hb1
  cases b1 with
  | false =>
    clear ha hsz hb1 hs hn hGl hGE
    go_enter Tryz.func33, Tryz.ntmps33
    go_wp2_with fail
    refine BG.out.mono ?_
    rintro e w1 ⟨rfl, hb⟩
    go_wp2_with fail
    go_ret2
    exact ⟨⟨_, RefR.no hB1.out, rfl⟩, hb⟩
  | true =>
    have hn1 : n + 1 ≤ s.length := by have := begR_one hb1; rw [List.length_drop] at this; omega
    have NR := Lib.hid (fun W => number_c s (n + 1) hs hn1 W)
    have LR := Lib.hid (fun W hG => nlongest_c s (n + 1) (by omega) hn1 (of_decide_eq_true names_size) W hG)
    have hHS := Lib.hid hs
    have HSZ := Lib.hid hsz
    have HN1 := Lib.hid hn1
    rw [ha] at NR LR
    have hn1a : n + 1 ≤ a.size := by omega
    have hza : a.size ≤ 100000 := by omega
    cases hnl : numL (s.drop (n + 1)) with
    | some mk =>
      obtain ⟨m, k⟩ := mk
      have hT : numT s (n + 1) = .tuple #[.string (fixB m), .int .i64 ((n + 1 + k : Nat) : Int), .bool true] := by unfold numT; rw [hnl]
      rw [hT] at NR
      have HNL := Lib.hid hnl
      clear ha hsz hb1 hs hn hGl hGE hnl hT hn1 LR
      go_enter Tryz.func33, Tryz.ntmps33
      go_wp2_with fail
      refine BG.out.mono ?_
      rintro e w1 ⟨rfl, hb⟩
      have HW := Lib.hid hb
      clear hb
      go_wp2_with fail
      refine (NR.out _).mono ?_
      rintro e w2 ⟨rfl, hb⟩
      replace HW := Lib.hid (HW.out.trans (hb.mono HW.out.size))
      clear hb
      go_wp2_with fail
      go_ret2
      exact ⟨⟨_, RefR.num hB1.out m k HNL.out, rfl⟩, HW.out⟩
    | none =>
      have hT : numT s (n + 1) = .tuple #[.string ⟨#[]⟩, .int .i64 ((n + 1 : Nat) : Int), .bool false] := by unfold numT; rw [hnl]
      rw [hT] at NR
      have hNL := Lib.hid hnl
      clear ha hsz hb1 hs hn hGl hGE hnl hT hn1
      go_enter Tryz.func33, Tryz.ntmps33
      go_wp2_with fail
      refine BG.out.mono ?_
      rintro e w1 ⟨rfl, hb⟩
      have HW := Lib.hid hb
      clear hb
      go_wp2_with fail
      refine (NR.out _).mono ?_
      rintro e w2 ⟨rfl, hb⟩
      replace HW := Lib.hid (HW.out.trans (hb.mono HW.out.size))
      clear hb
      go_wp2_with fail
      refine (LR.out _ (HG.out.step HW.out)).mono ?_
      rintro e w3 ⟨⟨k, hlg, rfl⟩, hb⟩
      replace HW := Lib.hid (HW.out.trans (hb.mono HW.out.size))
      have hLG := Lib.hid hlg
      have hka : n + 1 + k ≤ a.size := by
        have h1 := hlg.le
        rw [List.length_drop] at h1
        have := HSZ.out
        omega
      have hnm : a.extract (n + 1) (n + 1 + k) = B ((s.drop (n + 1)).take k) := by rw [← HA.out, B_extract, List.drop_take, Nat.add_sub_cancel_left]
      have hct : a.extract n (n + 1 + k) = B ((s.drop n).take (k + 1)) := by rw [← HA.out, B_extract, List.drop_take, show n + 1 + k - n = k + 1 by omega]
      have HCUT := Lib.hid hct
      have V := nvalue_c ((s.drop (n + 1)).take k) w3 (HG.out.step HW.out) (HE.out.step HW.out)
      rw [← hnm] at V
      have HV := Lib.hid V
      have HNM := Lib.hid hnm
      clear hb hlg hnm hct V NR LR BG
      go_wp2_with fail
      refine HV.out.mono ?_
      rintro e w4 ⟨⟨r, hf, rfl⟩, hb⟩
      replace HW := Lib.hid (HW.out.trans (hb.mono HW.out.size))
      have HF := Lib.hid hf
      clear hb hf HV
      by_cases hk0 : k = 0
      · have hv : nvalV ((s.drop (n + 1)).take k) r = .tuple #[.complex .f64 0 0, .bool false] := by
          rw [hk0, List.take_zero]
          cases r <;> rfl
        rw [hv]
        clear hv
        have HK0 := Lib.hid hk0
        clear hk0
        go_wp2_with fail
        go_ret2
        refine ⟨⟨_, RefR.left hB1.out hNL.out k hLG.out (.inl HK0.out), ?_⟩, HW.out⟩
        rw [← HCUT.out]; rfl
      · have hkey : isKey namesL ((s.drop (n + 1)).take k) := by
          rcases hLG.out.key with h | h
          · exact absurd h hk0
          · exact h
        obtain ⟨rest, rfl⟩ : ∃ rest, r = some rest := by
          cases r with
          | some rest => exact ⟨rest, rfl⟩
          | none =>
            obtain ⟨p, h1, h2⟩ := hkey
            rcases HF.out with ⟨_, _, _, e⟩ | ⟨e, _⟩
            · cases e
            · exact absurd h2 (e p h1)
        obtain ⟨hro, hkn, _⟩ := fnd_rest HF.out
        have hv : nvalV ((s.drop (n + 1)).take k) (some rest) = .tuple #[.complex .f64 (fW (num1 rest)) (fW (num2 rest)), .bool true] := by unfold nvalV; simp only [hkn, if_false]
        rw [hv]
        obtain ⟨l1, l2⟩ := num_lt hro
        have HTX := Lib.hid (fun W => ntext_c (num1 rest) (num2 rest) l1 l2 W)
        have hkl : ((s.drop (n + 1)).take k).length ≤ 1000000 := by rw [List.length_take, List.length_drop]; have := hHS.out; omega
        have SH := fun W hG hE => nshort_c ((s.drop (n + 1)).take k) hkey hkl W hG hE
        have KP := fun W => kept_c s (n + 1 + k) (by have := HSZ.out; omega) W
        rw [HA.out] at KP
        rw [← HNM.out] at SH
        obtain ⟨bs, hbs⟩ : ∃ b, Lib.hasSuffix ((s.drop (n + 1)).take k) [59] = b := ⟨_, rfl⟩
        obtain ⟨kp, hkp⟩ : ∃ b, keptL (s.drop (n + 1 + k)) = b := ⟨_, rfl⟩
        rw [hbs] at SH
        rw [hkp] at KP
        have HSH := Lib.hid SH
        have HKP := Lib.hid KP
        have HLL : Hid (leftL attr ((s.drop (n + 1)).take k) (s.drop (n + 1 + k)) = (attr && (!bs && kp))) := Lib.hid (by unfold leftL; rw [hbs, hkp])
        obtain ⟨t1, ht1⟩ : ∃ t, textB (num1 rest) (num2 rest) = t := ⟨_, rfl⟩
        clear hv hkey hro hkn l1 l2 hkl SH KP hbs hkp ht1 t1
        cases attr with
        | false =>
          go_wp2_with fail
          refine (HTX.out _).mono ?_
          rintro e w8 ⟨rfl, rfl⟩
          go_wp2_with fail
          go_ret2
          exact ⟨⟨_, RefR.name hB1.out hNL.out k hLG.out (by omega) (by rw [HLL.out]; rfl) rest HF.out, rfl⟩, HW.out⟩
        | true =>
          go_wp2_with fail
          refine (HSH.out _ (HG.out.step HW.out) (HE.out.step HW.out)).mono ?_
          rintro e w5 ⟨rfl, hb⟩
          replace HW := Lib.hid (HW.out.trans (hb.mono HW.out.size))
          clear hb HSH
          cases bs with
          | true =>
            go_wp2_with fail
            refine (HTX.out _).mono ?_
            rintro e w8 ⟨rfl, rfl⟩
            go_wp2_with fail
            go_ret2
            exact ⟨⟨_, RefR.name hB1.out hNL.out k hLG.out (by omega) (by rw [HLL.out]; rfl) rest HF.out, rfl⟩, HW.out⟩
          | false =>
            go_wp2_with fail
            refine (HKP.out _).mono ?_
            rintro e w6 ⟨rfl, hb⟩
            replace HW := Lib.hid (HW.out.trans (hb.mono HW.out.size))
            clear hb HKP
            cases kp with
            | true =>
              go_wp2_with fail
              go_ret2
              refine ⟨⟨_, RefR.left hB1.out hNL.out k hLG.out (.inr (by rw [HLL.out]; rfl)), ?_⟩, HW.out⟩
              rw [← HCUT.out]; rfl
            | false =>
              go_wp2_with fail
              refine (HTX.out _).mono ?_
              rintro e w8 ⟨rfl, rfl⟩
              go_wp2_with fail
              go_ret2
              exact ⟨⟨_, RefR.name hB1.out hNL.out k hLG.out (by omega) (by rw [HLL.out]; rfl) rest HF.out, rfl⟩, HW.out⟩
end Go.Proofs.YtbdcghbafopjjaaGreatDoor.Hand
end

section
namespace Go.Proofs.YtbdcghbafopjjaaGreatDoor.Hand
open Go Go.RowKit Go.Proofs.YtbdcghbafopjjaaGreatDoor.Pl Go.Proofs.YtbdcghbafopjjaaGreatDoor.Pb
theorem fnd_uniq {T last key : List UInt8} (h : Tab T last) {r r' : Option (List UInt8)} (h1 : Fnd T key r) (h2 : Fnd T key r') : r = r' := by
  rcases h1 with ⟨p, a1, a2, a3⟩ | ⟨a1, a2⟩
  · rcases h2 with ⟨q, b1, b2, b3⟩ | ⟨b1, b2⟩
    · rcases Nat.lt_trichotomy p q with hl | he | hg
      · have := h.rise p q a1 b1 hl
        rw [a2, b2, ltB_irrefl] at this; cases this
      · rw [a3, b3, he]
      · have := h.rise q p b1 a1 hg
        rw [a2, b2, ltB_irrefl] at this; cases this
    · exact absurd a2 (b1 p a1)
  · rcases h2 with ⟨q, b1, b2, b3⟩ | ⟨b1, b2⟩
    · exact absurd b2 (a1 q b1)
    · rw [a2, b2]
theorem lng_ex (T r : List UInt8) : ∃ k, Lng T r k := by
  have h : ∀ d : Nat, ∃ k, k ≤ d ∧ (k = 0 ∨ isKey T (r.take k)) ∧ ∀ m, k < m → m ≤ d → ¬ isKey T (r.take m) := by
    intro d
    induction d with
    | zero => exact ⟨0, Nat.le_refl _, .inl rfl, fun m h1 h2 => by omega⟩
    | succ d ih =>
      by_cases hk : isKey T (r.take (d + 1))
      · exact ⟨d + 1, Nat.le_refl _, .inr hk, fun m h1 h2 => by omega⟩
      · obtain ⟨k, h1, h2, h3⟩ := ih
        refine ⟨k, by omega, h2, fun m g1 g2 => ?_⟩
        by_cases e : m = d + 1
        · subst e; exact hk
        · exact h3 m g1 (by omega)
  obtain ⟨k, h1, h2, h3⟩ := h (min 32 r.length)
  exact ⟨k, h1, h2, h3⟩
noncomputable def lngN (r : List UInt8) : Nat := Classical.choose (lng_ex namesL r)
theorem lngN_spec (r : List UInt8) : Lng namesL r (lngN r) := Classical.choose_spec (lng_ex namesL r)
theorem lngN_eq {r : List UInt8} {k : Nat} (h : Lng namesL r k) : lngN r = k := (lngN_spec r).uniq h
theorem fnd_ex (T key : List UInt8) : ∃ r, Fnd T key r := by
  by_cases h : ∃ p, St T p ∧ kyT T p = key
  · obtain ⟨p, h1, h2⟩ := h; exact ⟨_, .inl ⟨p, h1, h2, rfl⟩⟩
  · exact ⟨none, .inr ⟨fun p h1 h2 => h ⟨p, h1, h2⟩, rfl⟩⟩
noncomputable def rowN (key : List UInt8) : Option (List UInt8) := Classical.choose (fnd_ex namesL key)
theorem rowN_spec (key : List UInt8) : Fnd namesL key (rowN key) := Classical.choose_spec (fnd_ex namesL key)
theorem rowN_eq {key : List UInt8} {r : Option (List UInt8)} (h : Fnd namesL key r) : rowN key = r := fnd_uniq names_tab (rowN_spec key) h
noncomputable def nameT (key : List UInt8) : List UInt8 := match rowN key with | some rest => (textB (num1 rest) (num2 rest)).data.toList | none => []
noncomputable def refN (attr : Bool) (l : List UInt8) : List UInt8 × Nat :=
  match numL (l.drop 1) with
  | some (m, k) => ((fixB m).data.toList, 1 + k)
  | none =>
    if lngN (l.drop 1) = 0 ∨ leftL attr ((l.drop 1).take (lngN (l.drop 1))) ((l.drop 1).drop (lngN (l.drop 1))) = true then (l.take (1 + lngN (l.drop 1)), 1 + lngN (l.drop 1))
    else (nameT ((l.drop 1).take (lngN (l.drop 1))), 1 + lngN (l.drop 1))
theorem refR_refN {s : List UInt8} {n : Nat} {attr : Bool} {v : Value} (h : RefR s n attr v) (hb : begR (s.drop n) [38] = true) :
    v = .tuple #[.string (B (refN attr (s.drop n)).1), .int .i64 ((n + (refN attr (s.drop n)).2 : Nat) : Int)] := by
  have ed : ∀ k, (s.drop n).drop k = s.drop (n + k) := fun k => by rw [List.drop_drop]
  cases h with
  | no h => rw [h] at hb; cases hb
  | num h m k h2 =>
    have : refN attr (s.drop n) = ((fixB m).data.toList, 1 + k) := by unfold refN; rw [ed, h2]
    rw [this, ← B_of, show n + (1 + k) = n + 1 + k by omega]
  | left h h2 k h3 h4 =>
    have hk := lngN_eq h3
    have : refN attr (s.drop n) = ((s.drop n).take (1 + k), 1 + k) := by
      unfold refN
      rw [ed, h2]
      simp only [hk]
      rw [if_pos]
      rcases h4 with h4 | h4
      · exact .inl h4
      · exact .inr (by rw [List.drop_drop]; exact h4)
    rw [this, show n + (1 + k) = n + 1 + k by omega, show 1 + k = k + 1 by omega]
  | name h h2 k h3 h4 h5 rest h6 =>
    have hk := lngN_eq h3
    have : refN attr (s.drop n) = ((textB (num1 rest) (num2 rest)).data.toList, 1 + k) := by
      unfold refN
      rw [ed, h2]
      simp only [hk]
      rw [if_neg]
      · unfold nameT; rw [rowN_eq h6]
      · rintro (e | e)
        · exact h4 e
        · rw [List.drop_drop, h5] at e; cases e
    rw [this, ← B_of, show n + (1 + k) = n + 1 + k by omega]
theorem textB_size (a b : Nat) : (textB a b).size ≤ 8 := by
  unfold textB
  have h1 := signB_size (a : Int)
  have h2 := signB_size (b : Int)
  split
  · omega
  · rw [ByteArray.size_append]; omega
theorem fixB_size (n : Nat) : (fixB n).size ≤ 4 := by
  unfold fixB
  split
  · decide
  · split <;> exact signB_size _
theorem refN_bd (attr : Bool) (c : UInt8) (r : List UInt8) : 1 ≤ (refN attr (c :: r)).2 ∧ (refN attr (c :: r)).2 ≤ (c :: r).length ∧ (refN attr (c :: r)).1.length ≤ 8 * (refN attr (c :: r)).2 := by
  have hl := (lngN_spec r).le
  have e : (c :: r).drop 1 = r := rfl
  unfold refN
  rw [e]
  split
  · rename_i m k hn
    have := numL_le hn
    have h4 := fixB_size m
    simp only [List.length_cons, Array.length_toList]
    have : (fixB m).data.size ≤ 4 := h4
    omega
  · split
    · simp only [List.length_cons, List.length_take]; omega
    · rename_i hne
      simp only [List.length_cons]
      refine ⟨by omega, by omega, ?_⟩
      unfold nameT
      split
      · rename_i rest _
        have h8 := textB_size (num1 rest) (num2 rest)
        rw [Array.length_toList]
        have : (textB (num1 rest) (num2 rest)).data.size ≤ 8 := h8
        omega
      · simp
noncomputable def rdF (attr : Bool) : Nat → List UInt8 → List UInt8
  | 0, _ => []
  | _ + 1, [] => []
  | f + 1, c :: r => if c = 38 then (refN attr (c :: r)).1 ++ rdF attr f ((c :: r).drop (refN attr (c :: r)).2) else c :: rdF attr f r
theorem rdF_more (attr : Bool) (f : Nat) : ∀ l f', l.length ≤ f → l.length ≤ f' → rdF attr f l = rdF attr f' l := by
  induction f with
  | zero =>
    intro l f' h h'
    obtain rfl := List.eq_nil_of_length_eq_zero (Nat.le_zero.1 h)
    cases f' <;> rfl
  | succ f ih =>
    intro l f' h h'
    cases l with
    | nil => cases f' <;> rfl
    | cons c r =>
      cases f' with
      | zero => simp at h'
      | succ f' =>
        have hb := refN_bd attr c r
        simp only [List.length_cons] at h h' hb
        simp only [rdF]
        split
        · rw [ih _ f' (by rw [List.length_drop, List.length_cons]; omega) (by rw [List.length_drop, List.length_cons]; omega)]
        · rw [ih r f' (by omega) (by omega)]
noncomputable def rdL (attr : Bool) (l : List UInt8) : List UInt8 := rdF attr l.length l
theorem rdL_nil (attr : Bool) : rdL attr [] = [] := rfl
theorem rdL_ne {c : UInt8} (attr : Bool) (r : List UInt8) (h : c ≠ 38) : rdL attr (c :: r) = c :: rdL attr r := by
  unfold rdL; simp only [List.length_cons, rdF, if_neg h]
theorem rdL_amp (attr : Bool) (r : List UInt8) : rdL attr (38 :: r) = (refN attr (38 :: r)).1 ++ rdL attr ((38 :: r).drop (refN attr (38 :: r)).2) := by
  have hb := refN_bd attr 38 r
  simp only [List.length_cons] at hb
  unfold rdL
  rw [List.length_cons, rdF, if_pos rfl, rdF_more attr r.length _ _ (by rw [List.length_drop, List.length_cons]; omega) (Nat.le_refl _)]
theorem rdL_app {p : List UInt8} (attr : Bool) (r : List UInt8) (h : (38 : UInt8) ∉ p) : rdL attr (p ++ r) = p ++ rdL attr r := by
  induction p with
  | nil => rfl
  | cons c p ih =>
    rw [List.cons_append, rdL_ne attr _ (fun e => h (by rw [e]; simp)), ih (fun e => h (by simp [e]))]; rfl
theorem rdL_no {p : List UInt8} (attr : Bool) (h : (38 : UInt8) ∉ p) : rdL attr p = p := by
  have := rdL_app attr [] h
  rw [List.append_nil, rdL_nil, List.append_nil] at this
  exact this
theorem rdL_length (attr : Bool) : ∀ n (l : List UInt8), l.length ≤ n → (rdL attr l).length ≤ 8 * l.length := by
  intro n
  induction n with
  | zero => intro l h; obtain rfl := List.eq_nil_of_length_eq_zero (Nat.le_zero.1 h); simp [rdL_nil]
  | succ n ih =>
    intro l h
    cases l with
    | nil => simp [rdL_nil]
    | cons c r =>
      simp only [List.length_cons] at h ⊢
      by_cases hc : c = 38
      · subst hc
        have hb := refN_bd attr 38 r
        have := ih ((38 :: r).drop (refN attr (38 :: r)).2) (by rw [List.length_drop, List.length_cons]; omega)
        rw [rdL_amp, List.length_append]
        rw [List.length_drop, List.length_cons] at this
        simp only [List.length_cons] at hb
        omega
      · have := ih r (by omega)
        rw [rdL_ne attr r hc, List.length_cons]; omega
theorem rdL_le (attr : Bool) (l : List UInt8) : (rdL attr l).length ≤ 8 * l.length := rdL_length attr _ l (Nat.le_refl _)
theorem readN_c (s : List UInt8) (n : Nat) (attr : Bool) (hs : s.length ≤ 100000) (hn : n ≤ s.length) (hb : begR (s.drop n) [38] = true) (w : World) (hGl : Glob w) (hGE : GlobE w) :
    Calls Tryz.prog 33 #[.string (B s), .int .i64 (n : Int), .bool attr] w fun e w' => e = .returned (.tuple #[.string (B (refN attr (s.drop n)).1), .int .i64 ((n + (refN attr (s.drop n)).2 : Nat) : Int)]) ∧ Below w.heap.size w w' :=
  (read_c s n attr hs hn w hGl hGE).mono fun e w' h => by
    obtain ⟨⟨v, hv, he⟩, hb2⟩ := h
    exact ⟨by rw [he, refR_refN hv hb], hb2⟩
end Go.Proofs.YtbdcghbafopjjaaGreatDoor.Hand
end

section
namespace Go.Proofs.YtbdcghbafopjjaaGreatDoor.Hand
open Go Go.RowKit Go.Proofs.YtbdcghbafopjjaaGreatDoor.Pl Go.Proofs.YtbdcghbafopjjaaGreatDoor.Pb
abbrev AttrT := List UInt8 × List UInt8
inductive Tk where
  | text (s : List UInt8)
  | start (name : List UInt8) (l : List AttrT) (self : Bool)
  | fin (name : List UInt8)
  | comment (s : List UInt8)
  | doctype (s : List UInt8)
def nmC (c : UInt8) : Bool := !(isSp c || c == 47 || c == 62 || c == 61)
def vlC (c : UInt8) : Bool := !(isSp c || c == 62)
def spL (l : List UInt8) : List UInt8 := l.dropWhile isSp
noncomputable def addA (l : List AttrT) (name value : List UInt8) : List AttrT :=
  if l.any (fun a => a.1 == cleanL (lowL name)) = true then l else l ++ [(cleanL (lowL name), cleanL (rdL true value))]
def valA (r : List UInt8) : Option (List UInt8 × List UInt8) :=
  match spL r with
  | 61 :: r2 => match spL r2 with
    | [] => some ([], [])
    | c :: r3 => if c = 34 ∨ c = 39 then (if c ∈ r3 then some (upto c r3, past c r3) else none) else if c = 62 then some ([], c :: r3) else some (c :: r3.takeWhile vlC, r3.dropWhile vlC)
  | r1 => some ([], r1)
noncomputable def attrF : Nat → List AttrT → List UInt8 → Option (List AttrT × Bool × List UInt8)
  | 0, _, _ => none
  | f + 1, l, s => match spL s with
    | [] => none
    | c :: r =>
      if c = 62 then some (l, false, r)
      else if c = 47 then (match r with
        | [] => attrF f l []
        | d :: r' => if d = 62 then some (l, true, r') else attrF f l (d :: r'))
      else match valA (r.dropWhile nmC) with
        | none => none
        | some (v, r') => attrF f (addA l (c :: r.takeWhile nmC) v) r'
theorem dw_le {α : Type} (p : α → Bool) (l : List α) : (l.dropWhile p).length ≤ l.length := by
  induction l with
  | nil => simp
  | cons c r ih => rw [List.dropWhile_cons]; split <;> simp only [List.length_cons] <;> omega
theorem past_le (c : UInt8) (l : List UInt8) : (past c l).length ≤ l.length := by unfold past; rw [List.length_drop]; omega
theorem valA_le {r v r' : List UInt8} (h : valA r = some (v, r')) : r'.length ≤ r.length := by
  have h1 := dw_le isSp r
  unfold valA at h
  change (spL r).length ≤ _ at h1
  split at h
  · rename_i r2 he
    rw [he, List.length_cons] at h1
    have h2 := dw_le isSp r2
    change (spL r2).length ≤ _ at h2
    split at h
    · cases h; simp
    · rename_i c r3 he2
      rw [he2, List.length_cons] at h2
      split at h
      · split at h
        · cases h; have := past_le c r3; omega
        · cases h
      · split at h
        · cases h; simp only [List.length_cons]; omega
        · cases h; have := dw_le vlC r3; omega
  · cases h; exact h1
theorem attrF_more (f : Nat) : ∀ l s f', s.length < f → s.length < f' → attrF f l s = attrF f' l s := by
  induction f with
  | zero => intro l s f' h _; omega
  | succ f ih =>
    intro l s f' h h'
    cases f' with
    | zero => omega
    | succ f' =>
      have h1 := dw_le isSp s
      change (spL s).length ≤ _ at h1
      simp only [attrF]
      split
      · rfl
      · rename_i c r he
        rw [he, List.length_cons] at h1
        split
        · rfl
        · split
          · split
            · rw [ih _ _ f' (by simp; omega) (by simp; omega)]
            · simp only [List.length_cons] at h1
              split
              · rfl
              · rw [ih _ _ f' (by simp; omega) (by simp; omega)]
          · have h2 := dw_le nmC r
            cases hv : valA (r.dropWhile nmC) with
            | none => rfl
            | some x =>
              obtain ⟨v, r'⟩ := x
              have := valA_le hv
              simp only
              rw [ih _ _ f' (by omega) (by omega)]
noncomputable def attrL (l : List AttrT) (s : List UInt8) : Option (List AttrT × Bool × List UInt8) := attrF (s.length + 1) l s
theorem attrL_eq (l : List AttrT) (s : List UInt8) : attrL l s = match spL s with
    | [] => none
    | c :: r =>
      if c = 62 then some (l, false, r)
      else if c = 47 then (match r with
        | [] => none
        | d :: r' => if d = 62 then some (l, true, r') else attrL l (d :: r'))
      else match valA (r.dropWhile nmC) with
        | none => none
        | some (v, r') => attrL (addA l (c :: r.takeWhile nmC) v) r' := by
  have h1 := dw_le isSp s
  change (spL s).length ≤ _ at h1
  unfold attrL
  rw [attrF]
  split
  · rfl
  · rename_i c r he
    rw [he, List.length_cons] at h1
    split
    · rfl
    · split
      · split
        · cases hs : s.length with
          | zero => omega
          | succ n => simp [attrF, spL]
        · simp only [List.length_cons] at h1
          split
          · rfl
          · rw [attrF_more _ _ _ _ (by simp; omega) (Nat.lt_succ_self _)]
      · have h2 := dw_le nmC r
        cases hv : valA (r.dropWhile nmC) with
        | none => rfl
        | some x =>
          obtain ⟨v, r'⟩ := x
          have := valA_le hv
          simp only
          rw [attrF_more _ _ _ _ (by omega) (Nat.lt_succ_self _)]
theorem attrF_le (f : Nat) : ∀ l s l' b r, attrF f l s = some (l', b, r) → r.length < s.length := by
  induction f with
  | zero => intro l s l' b r h; cases h
  | succ f ih =>
    intro l s l' b r h
    have h1 := dw_le isSp s
    change (spL s).length ≤ _ at h1
    simp only [attrF] at h
    split at h
    · cases h
    · rename_i c r0 he
      rw [he, List.length_cons] at h1
      split at h
      · cases h; omega
      · split at h
        · split at h
          · have := ih _ _ _ _ _ h; simp at this
          · simp only [List.length_cons] at h1
            split at h
            · cases h; omega
            · have := ih _ _ _ _ _ h; simp at this; omega
        · have h2 := dw_le nmC r0
          split at h
          · cases h
          · rename_i v r' hv
            have h3 := valA_le hv
            have := ih _ _ _ _ _ h
            omega
theorem attrL_lt {l l' : List AttrT} {s r : List UInt8} {b : Bool} (h : attrL l s = some (l', b, r)) : r.length < s.length := attrF_le _ _ _ _ _ _ h
end Go.Proofs.YtbdcghbafopjjaaGreatDoor.Hand
end

section
namespace Go.Proofs.YtbdcghbafopjjaaGreatDoor.Pl
def endG (p q : List UInt8) : List UInt8 → Option (List UInt8 × Nat)
  | [] => none
  | c :: r => if p.isPrefixOf (c :: r) = true then some ([], p.length) else if q.isPrefixOf (c :: r) = true then some ([], q.length)
    else match endG p q r with
      | none => none
      | some (t, n) => some (c :: t, n + 1)
end Go.Proofs.YtbdcghbafopjjaaGreatDoor.Pl
namespace Go.Proofs.YtbdcghbafopjjaaGreatDoor.Pure
open Go.Proofs.YtbdcghbafopjjaaGreatDoor.Pl
def letB (c : UInt8) : Bool := (decide (65 ≤ c) && decide (c ≤ 90)) || (decide (97 ≤ c) && decide (c ≤ 122))
def doctypeL : List UInt8 := [100, 111, 99, 116, 121, 112, 101]
def begC (r : List UInt8) : Bool := match r with
  | c :: d :: t => (c == 60) && (if d = 33 then !begR t doctypeL else if d = 63 then true else if d = 47 then (match t with | [] => false | e :: _ => !(e == 62) && !letB e) else false)
  | _ => false
def otherL (s : List UInt8) : List UInt8 × Nat := match endG [62] [62] s with | none => (s, s.length) | some x => x
def plainEnd (s : List UInt8) : List UInt8 × Nat :=
  if [45, 45, 33].isSuffixOf s = true then (s.take (s.length - 3), s.length) else if [45, 45].isSuffixOf s = true then (s.take (s.length - 2), s.length)
  else if [45].isSuffixOf s = true then (s.take (s.length - 1), s.length) else (s, s.length)
def plainL (s : List UInt8) : List UInt8 × Nat :=
  if [62].isPrefixOf s = true then ([], 1) else if [45, 62].isPrefixOf s = true then ([], 2)
  else match endG [45, 45, 62] [45, 45, 33, 62] s with | some x => x | none => plainEnd s
def readC (r : List UInt8) : List UInt8 × Nat :=
  if begR r [60, 33, 45, 45] = true then ((plainL (r.drop 4)).1, 4 + (plainL (r.drop 4)).2)
  else if begR r [60, 63] = true then ((otherL (r.drop 1)).1, 1 + (otherL (r.drop 1)).2)
  else ((otherL (r.drop 2)).1, 2 + (otherL (r.drop 2)).2)
end Go.Proofs.YtbdcghbafopjjaaGreatDoor.Pure
end

section
namespace Go.Proofs.YtbdcghbafopjjaaGreatDoor.Pl
def plainB (c : UInt8) : Prop := c ≠ 45 ∧ c ≠ 60 ∧ c ≠ 62
theorem lowB_ne60 {c : UInt8} (h : c ≠ 60) : lowB c ≠ 60 := by
  have : ∀ n : Fin 256, (UInt8.ofNat n.val) ≠ 60 → lowB (UInt8.ofNat n.val) ≠ 60 := by decide +kernel
  have h2 := this ⟨c.toNat, c.toNat_lt⟩
  simpa using h2 (by simpa using h)
theorem begR_ne {c : UInt8} {r low : List UInt8} (h : c ≠ 60) : begR (c :: r) (60 :: low) = false := by
  simp [begR, lowB_ne60 h]
theorem endsL_ne {c : UInt8} {r name : List UInt8} (h : c ≠ 60) : endsL (c :: r) name = false := by
  simp [endsL, begR_ne h]
theorem wordL_ne {c : UInt8} {r low : List UInt8} (h : c ≠ 60) : wordL (c :: r) (60 :: low) = false := by
  simp [wordL, begR_ne h]
theorem stepF_plain {st ct : Nat} {c : UInt8} {r : List UInt8} (h : plainB c) (hst : st ≤ 2) : stepF st ct (c :: r) = some (1, st, if st = 0 then ct else 0) := by
  simp only [stepF, endsL_ne h.2.1, begR_ne h.2.1, wordL_ne h.2.1, if_neg h.1, if_neg (show ¬ (c = 62 ∧ 2 ≤ ct) from fun e => h.2.2 e.1)]
  by_cases h0 : st = 0
  · simp [h0]
  · by_cases h1 : st = 1
    · simp [h1]
    · have : st = 2 := by omega
      simp [this]
theorem findL_plain (r : List UInt8) (a : List UInt8) : ∀ st ct, (∀ c ∈ a, plainB c) → st ≤ 2 →
    ∃ ct', (st = 0 ∨ ct = 0 → ct' = ct) ∧ findL st ct (a ++ r) = (a.length + (findL st ct' r).1, (findL st ct' r).2) := by
  induction a with
  | nil => intro st ct _ _; exact ⟨ct, fun _ => rfl, by simp⟩
  | cons c a ih =>
    intro st ct h hst
    obtain ⟨ct', h1, h2⟩ := ih st (if st = 0 then ct else 0) (fun c hc => h c (by simp [hc])) hst
    refine ⟨ct', fun e => ?_, ?_⟩
    · rw [h1]
      · split
        · rfl
        · omega
      · by_cases h0 : st = 0
        · exact .inl h0
        · exact .inr (by simp [h0])
    · rw [List.cons_append, findL_some (stepF_plain (h c (by simp)) hst)]
      simp only [List.drop_succ_cons, List.drop_zero, h2, List.length_cons]
      congr 1; omega
theorem low_33 : lowB 33 = 33 := by decide
theorem low_45 : lowB 45 = 45 := by decide
theorem low_60 : lowB 60 = 60 := by decide
theorem low_62 : lowB 62 = 62 := by decide
theorem low_99 : lowB 99 = 99 := by decide
theorem low_105 : lowB 105 = 105 := by decide
theorem low_112 : lowB 112 = 112 := by decide
theorem low_114 : lowB 114 = 114 := by decide
theorem low_115 : lowB 115 = 115 := by decide
theorem low_116 : lowB 116 = 116 := by decide
theorem stops_62 : stops 62 = true := by decide
def openC : List UInt8 := [60, 33, 45, 45]
def openT : List UInt8 := [60, 115, 99, 114, 105, 112, 116, 62]
theorem step_openC (ct : Nat) (r : List UInt8) : stepF 0 ct (openC ++ r) = some (4, 1, 2) := by
  simp [stepF, openC, endsL, begR, low_33, low_45, low_60]
theorem step_openT (ct : Nat) (r : List UInt8) : stepF 1 ct (openT ++ r) = some (8, 2, 0) := by
  simp [stepF, openT, endsL, begR, wordL, scriptL, stopAt, low_60, low_62, low_99, low_105, low_112, low_114, low_115, low_116, stops_62]
theorem find_in (a b r : List UInt8) (ha : ∀ c ∈ a, plainB c) (hb : ∀ c ∈ b, plainB c) :
    findL 0 0 (a ++ (openC ++ (b ++ (openT ++ (a ++ r))))) = (2 * a.length + b.length + 12 + (findL 2 0 r).1, (findL 2 0 r).2) := by
  obtain ⟨c1, e1, h1⟩ := findL_plain (openC ++ (b ++ (openT ++ (a ++ r)))) a 0 0 ha (by omega)
  have e1' := e1 (.inl rfl); subst e1'
  obtain ⟨c2, _, h2⟩ := findL_plain (openT ++ (a ++ r)) b 1 2 hb (by omega)
  obtain ⟨c3, e3, h3⟩ := findL_plain r a 2 0 ha (by omega)
  have e3' := e3 (.inr rfl); subst e3'
  have d1 : (openC ++ (b ++ (openT ++ (a ++ r)))).drop 4 = b ++ (openT ++ (a ++ r)) := rfl
  have d2 : (openT ++ (a ++ r)).drop 8 = a ++ r := rfl
  rw [h1, findL_some (step_openC _ _), d1, h2, findL_some (step_openT _ _), d2, h3]
  congr 1
  simp only; omega
end Go.Proofs.YtbdcghbafopjjaaGreatDoor.Pl
end

section
namespace Go.Proofs.YtbdcghbafopjjaaGreatDoor.Pl
open Go Go.Proofs.YtbdcghbafopjjaaGreatDoor.Pb
def plc (n : Nat) : List UInt8 → List Nat
  | [] => []
  | c :: r => if [60, 47].isPrefixOf (c :: r) = true then n :: plc (n + 1) r else plc (n + 1) r
theorem plc_none : ∀ (r : List UInt8) (n : Nat), Lib.index r [60, 47] < 0 → plc n r = [] := by
  intro r
  induction r with
  | nil => intro n _; rfl
  | cons c r ih =>
    intro n h
    have g := Lib.index_ge r [60, 47]
    simp only [Lib.index] at h
    split at h
    · omega
    · rename_i hp
      have : Lib.index r [60, 47] = -1 := by
        split at h
        · rename_i hh; simpa using hh
        · omega
      rw [plc, if_neg hp, ih (n + 1) (by omega)]
theorem plc_some : ∀ (r : List UInt8) (n k : Nat), Lib.index r [60, 47] = (k : Int) → plc n r = (n + k) :: plc (n + k + 1) (r.drop (k + 1)) := by
  intro r
  induction r with
  | nil => intro n k h; simp [Lib.index] at h; try omega
  | cons c r ih =>
    intro n k h
    have g := Lib.index_ge r [60, 47]
    simp only [Lib.index] at h
    split at h
    · rename_i hp
      obtain rfl : k = 0 := by omega
      rw [plc, if_pos hp]; simp
    · rename_i hp
      split at h
      · omega
      · rename_i hh
        have hne : Lib.index r [60, 47] ≠ -1 := by simpa using hh
        obtain ⟨j, rfl⟩ : ∃ j, k = j + 1 := ⟨k - 1, by omega⟩
        rw [plc, if_neg hp, ih (n + 1) j (by omega)]
        simp only [List.drop_succ_cons]
        rw [show n + 1 + j = n + (j + 1) by omega]
theorem index_lt : ∀ (r : List UInt8) (k : Nat), Lib.index r [60, 47] = (k : Int) → k + 1 ≤ r.length := by
  intro r
  induction r with
  | nil => intro k h; simp [Lib.index] at h; try omega
  | cons c r ih =>
    intro k h
    simp only [Lib.index] at h
    split at h
    · simp; omega
    · split at h
      · omega
      · rename_i hh
        have hne : Lib.index r [60, 47] ≠ -1 := by simpa using hh
        have g := Lib.index_ge r [60, 47]
        obtain ⟨j, rfl⟩ : ∃ j, k = j + 1 := ⟨k - 1, by omega⟩
        have := ih j (by omega)
        simp; omega
theorem plc_length : ∀ (r : List UInt8) (n : Nat), (plc n r).length ≤ r.length := by
  intro r
  induction r with
  | nil => intro n; simp [plc]
  | cons c r ih =>
    intro n
    have := ih (n + 1)
    rw [plc]; split
    · simp; omega
    · simp; omega
theorem xdrop (s : ByteArray) (k : Nat) : (s.extract k s.size).data.toList = s.data.toList.drop k := by
  obtain ⟨l, rfl⟩ := exists_B s
  rw [B_extract, B_data, B_data, size_B, List.take_length]
def rawFind (s : List UInt8) (n : Nat) (name : List UInt8) : Nat := ((plc n (s.drop n)).find? fun p => endsL (s.drop p) name).getD s.length
theorem rawFind_none {s : List UInt8} {n : Nat} {name : List UInt8} (h : ∀ p ∈ plc n (s.drop n), endsL (s.drop p) name = false) : rawFind s n name = s.length := by
  unfold rawFind
  rw [List.find?_eq_none.2 (fun p hp => by simp [h p hp])]; rfl
theorem rawFind_some {s : List UInt8} {n : Nat} {name : List UInt8} {pre : List Nat} {x : Nat} (hp : (pre ++ [x]) <+: plc n (s.drop n)) (h : ∀ p ∈ pre, endsL (s.drop p) name = false) (hx : endsL (s.drop x) name = true) : rawFind s n name = x := by
  obtain ⟨t, ht⟩ := hp
  unfold rawFind
  rw [← ht, List.append_assoc, List.find?_append, List.find?_eq_none.2 (fun p hq => by simp [h p hq])]
  simp [hx]
def firstE (name : List UInt8) : List UInt8 → Nat
  | [] => 0
  | c :: r => if endsL (c :: r) name = true then 0 else 1 + firstE name r
theorem lowB_47' (c : UInt8) (h : lowB c = 47) : c = 47 := by
  have : ∀ n : Fin 256, lowB (UInt8.ofNat n.val) = 47 → UInt8.ofNat n.val = 47 := by decide +kernel
  have h' := this ⟨c.toNat, c.toNat_lt⟩
  simpa using h' (by simpa using h)
theorem lowB_60' (c : UInt8) (h : lowB c = 60) : c = 60 := by
  have : ∀ n : Fin 256, lowB (UInt8.ofNat n.val) = 60 → UInt8.ofNat n.val = 60 := by decide +kernel
  have h' := this ⟨c.toNat, c.toNat_lt⟩
  simpa using h' (by simpa using h)
theorem ends_pref {r name : List UInt8} (h : endsL r name = true) : [60, 47].isPrefixOf r = true := by
  simp only [endsL, Bool.and_eq_true] at h
  have h1 := h.1.1.2
  match r, h1 with
  | [], h1 => simp [begR] at h1
  | [c], h1 => simp [begR] at h1
  | c :: d :: r, h1 =>
    simp only [begR, Bool.and_eq_true, beq_iff_eq] at h1
    rw [lowB_60' c h1.1, lowB_47' d h1.2.1]; simp [List.isPrefixOf]
theorem rawFind_aux (s name : List UInt8) : ∀ (r : List UInt8) (n : Nat), s.drop n = r → n ≤ s.length → ((plc n r).find? fun p => endsL (s.drop p) name).getD s.length = n + firstE name r := by
  intro r
  induction r with
  | nil =>
    intro n h hn
    have := List.drop_eq_nil_iff.1 h
    simp [plc, firstE]; omega
  | cons c r ih =>
    intro n h hn
    have hlt : n < s.length := by
      rcases Nat.lt_or_ge n s.length with h' | h'
      · exact h'
      · rw [List.drop_eq_nil_of_le h'] at h; cases h
    have hr : s.drop (n + 1) = r := by rw [← List.drop_drop, h]; rfl
    have := ih (n + 1) hr (by omega)
    by_cases he : endsL (c :: r) name = true
    · rw [plc, if_pos (ends_pref he), List.find?_cons, h, he, firstE, if_pos he]; rfl
    · rw [firstE, if_neg he, plc]
      split
      · rw [List.find?_cons, h, Bool.eq_false_iff.2 he]
        simp only
        rw [this]; omega
      · rw [this]; omega
theorem rawFind_first (s name : List UInt8) (n : Nat) (hn : n ≤ s.length) : rawFind s n name = n + firstE name (s.drop n) := rawFind_aux s name _ n rfl hn
end Go.Proofs.YtbdcghbafopjjaaGreatDoor.Pl
end

section
namespace Go.Proofs.YtbdcghbafopjjaaGreatDoor.Hand
open Go Go.RowKit Go.Proofs.YtbdcghbafopjjaaGreatDoor.Pl Go.Proofs.YtbdcghbafopjjaaGreatDoor.Pb Go.Proofs.YtbdcghbafopjjaaGreatDoor.Pure
def tagN : List UInt8 → Nat
  | a :: c :: r => if a = 60 then (if isLetB c = true then 1 else if c = 47 then (match r with | [] => 0 | d :: _ => if isLetB d = true then 2 else 0) else 0) else 0
  | _ => 0
def stC (c : UInt8) : Bool := !stops c
def nameL (l : List UInt8) : List UInt8 := cleanL (lowL (l.takeWhile stC))
noncomputable def tagL (l : List UInt8) : Option Tk × List UInt8 :=
  match attrL [] ((l.drop (tagN l)).dropWhile stC) with
  | none => (none, [])
  | some (al, self, r) => (some (if tagN l = 2 then .fin (nameL (l.drop 2)) else .start (nameL (l.drop 1)) al self), r)
noncomputable def tagR (l : List UInt8) : Option Tk × List UInt8 := if tagN l = 0 then (none, l) else tagL l
def docL : List UInt8 := [60, 33, 100, 111, 99, 116, 121, 112, 101]
def voidL : List UInt8 := [60, 47, 62]
def begM (l : List UInt8) : Bool := (tagN l != 0) || begC l || begR l docL || begR l voidL
def txN : List UInt8 → Nat
  | [] => 0
  | c :: r => if begM (c :: r) = true then 0 else 1 + txN r
noncomputable def tokL (l : List UInt8) : Option Tk × List UInt8 :=
  if tagN l ≠ 0 then tagL l
  else if begC l = true then (some (.comment (cleanL (readC l).1)), l.drop (readC l).2)
  else if begR l docL = true then (some (.doctype (cleanL (upto 62 (l.drop 9)))), past 62 (l.drop 9))
  else if begR l voidL = true then (none, l.drop 3)
  else if txN l = 0 then (none, l)
  else (some (.text (rdL false (l.take (txN l)))), l.drop (txN l))
noncomputable def rawT (refs : Bool) (s : List UInt8) : List UInt8 := if refs = true then cleanL (rdL false s) else cleanL s
def txtT (s : List UInt8) : List Tk := if s = [] then [] else [.text s]
def endN (st : Nat) (name l : List UInt8) : Nat := if st = 1 ∨ st = 2 then firstE name l else if st = 3 then (findL 0 0 l).1 else l.length
noncomputable def restL (st : Nat) (name l : List UInt8) : List Tk × List UInt8 :=
  if st = 0 ∨ 4 < st then ([], l)
  else if l.drop (endN st name l) = [] then (txtT (rawT (st == 1) (l.take (endN st name l))), [])
  else (txtT (rawT (st == 1) (l.take (endN st name l))) ++ (tagR (l.drop (endN st name l))).1.toList, (tagR (l.drop (endN st name l))).2)
def joinL : List Tk → List Tk
  | [] => []
  | .text s :: r => match joinL r with
    | .text t :: r2 => .text (s ++ t) :: r2
    | r2 => txtT s ++ r2
  | t :: r => t :: joinL r
def titleW : List UInt8 := [116, 105, 116, 108, 101]
def areaW : List UInt8 := [116, 101, 120, 116, 97, 114, 101, 97]
def styleW : List UInt8 := [115, 116, 121, 108, 101]
def xmpW : List UInt8 := [120, 109, 112]
def iframeW : List UInt8 := [105, 102, 114, 97, 109, 101]
def noembedW : List UInt8 := [110, 111, 101, 109, 98, 101, 100]
def noframesW : List UInt8 := [110, 111, 102, 114, 97, 109, 101, 115]
def noscriptW : List UInt8 := [110, 111, 115, 99, 114, 105, 112, 116]
def plaintextW : List UInt8 := [112, 108, 97, 105, 110, 116, 101, 120, 116]
def stateN (n : List UInt8) : Nat :=
  if n = titleW ∨ n = areaW then 1
  else if n = styleW ∨ n = xmpW ∨ n = iframeW ∨ n = noembedW ∨ n = noframesW ∨ n = noscriptW then 2
  else if n = scriptL then 3 else if n = plaintextW then 4 else 0
noncomputable def drvF : Nat → List UInt8 → List Tk
  | 0, _ => []
  | f + 1, l => if l = [] then [] else
    match tokL l with
    | (some (.start n al self), r) => .start n al self :: ((restL (stateN n) n r).1 ++ drvF f (restL (stateN n) n r).2)
    | (some t, r) => t :: drvF f r
    | (none, r) => drvF f r
theorem tagL_lt {l : List UInt8} (h : l ≠ []) : (tagL l).2.length < l.length := by
  have hp := List.length_pos_iff.2 h
  have h1 := dw_le stC (l.drop (tagN l))
  unfold tagL
  split
  · exact hp
  · rename_i al self r he
    have := attrL_lt he
    rw [List.length_drop] at h1
    simp only
    omega
theorem tagR_le (l : List UInt8) : (tagR l).2.length ≤ l.length := by
  unfold tagR
  split
  · exact Nat.le_refl _
  · cases l with
    | nil => simp [tagL, tagN, attrL_eq, spL]
    | cons c r => exact Nat.le_of_lt (tagL_lt (List.cons_ne_nil _ _))
theorem readC_pos (l : List UInt8) : 1 ≤ (readC l).2 := by unfold readC; split <;> (try split) <;> simp only <;> omega
theorem txN_le (l : List UInt8) : txN l ≤ l.length := by
  induction l with
  | nil => exact Nat.le_refl _
  | cons c r ih => rw [txN]; split <;> simp only [List.length_cons] <;> omega
theorem txN_zero {l : List UInt8} (h : txN l = 0) (hl : l ≠ []) : begM l = true := by
  cases l with
  | nil => exact absurd rfl hl
  | cons c r =>
    rw [txN] at h
    split at h
    · assumption
    · omega
theorem tokL_lt {l : List UInt8} (h : l ≠ []) : (tokL l).2.length < l.length := by
  have hp := List.length_pos_iff.2 h
  unfold tokL
  split
  · exact tagL_lt h
  · split
    · have := readC_pos l
      simp only [List.length_drop]; omega
    · split
      · have := past_le 62 (l.drop 9)
        rw [List.length_drop] at this
        simp only; omega
      · split
        · simp only [List.length_drop]; omega
        · split
          · rename_i h1 h2 h3 h4 h5
            have := txN_zero h5 h
            unfold begM at this
            simp only [Bool.or_eq_true, bne_iff_ne] at this
            rcases this with ((h6 | h6) | h6) | h6
            · exact absurd h6 h1
            · exact absurd h6 h2
            · exact absurd h6 h3
            · exact absurd h6 h4
          · have := txN_le l
            simp only [List.length_drop]; omega
theorem restL_le (st : Nat) (name l : List UInt8) : (restL st name l).2.length ≤ l.length := by
  unfold restL
  split
  · exact Nat.le_refl _
  · split
    · simp
    · rename_i h
      have := tagR_le (l.drop (endN st name l))
      rw [List.length_drop] at this
      simp only
      omega
theorem drvF_more (f : Nat) : ∀ l f', l.length ≤ f → l.length ≤ f' → drvF f l = drvF f' l := by
  induction f with
  | zero =>
    intro l f' h _
    obtain rfl := List.eq_nil_of_length_eq_zero (Nat.le_zero.1 h)
    cases f' <;> simp [drvF]
  | succ f ih =>
    intro l f' h h'
    cases f' with
    | zero =>
      obtain rfl := List.eq_nil_of_length_eq_zero (Nat.le_zero.1 h')
      simp [drvF]
    | succ f' =>
      simp only [drvF]
      by_cases hl : l = []
      · simp [hl]
      · have := tokL_lt hl
        rw [if_neg hl, if_neg hl]
        split
        · rename_i n al self r he
          rw [he] at this
          simp only at this
          have h2 := restL_le (stateN n) n r
          rw [ih _ f' (by omega) (by omega)]
        · rename_i t r _ he
          rw [he] at this
          simp only at this
          rw [ih _ f' (by omega) (by omega)]
        · rename_i r he
          rw [he] at this
          simp only at this
          rw [ih _ f' (by omega) (by omega)]
noncomputable def drvL (l : List UInt8) : List Tk := drvF l.length l
theorem drvL_nil : drvL [] = [] := rfl
noncomputable def drv1 : Option Tk × List UInt8 → List Tk × List UInt8
  | (some (.start n al self), r) => (.start n al self :: (restL (stateN n) n r).1, (restL (stateN n) n r).2)
  | (some t, r) => ([t], r)
  | (none, r) => ([], r)
theorem drv1_le (x : Option Tk × List UInt8) : (drv1 x).2.length ≤ x.2.length := by
  unfold drv1
  split
  · exact restL_le _ _ _
  · exact Nat.le_refl _
  · exact Nat.le_refl _
theorem drvL_eq {l : List UInt8} (h : l ≠ []) : drvL l = (drv1 (tokL l)).1 ++ drvL (drv1 (tokL l)).2 := by
  have hp := List.length_pos_iff.2 h
  have ht := tokL_lt h
  have h1 := drv1_le (tokL l)
  obtain ⟨n, hn⟩ : ∃ n, l.length = n + 1 := ⟨l.length - 1, by omega⟩
  have e : drvL l = (drv1 (tokL l)).1 ++ drvF n (drv1 (tokL l)).2 := by
    unfold drvL
    rw [hn, drvF, if_neg h]
    unfold drv1
    split <;> rfl
  rw [e]
  unfold drvL
  rw [drvF_more n _ _ (by omega) (Nat.le_refl _)]
noncomputable def driveL (l : List UInt8) : List Tk := joinL (drvL l)
end Go.Proofs.YtbdcghbafopjjaaGreatDoor.Hand
end

section
namespace Go.Proofs.YtbdcghbafopjjaaGreatDoor.Si
open Go.RowKit Go.Proofs.YtbdcghbafopjjaaGreatDoor.K0 Go.Proofs.YtbdcghbafopjjaaGreatDoor.Hand Go.Proofs.YtbdcghbafopjjaaGreatDoor.Sa Go.Proofs.YtbdcghbafopjjaaGreatDoorW.PrintWords Go.Proofs.YtbdcghbafopjjaaGreatDoorW.PrintLast Go.Proofs.YtbdcghbafopjjaaGreatDoorW.PrintMore
attribute [local go_sem] max2_int min2_int max_two min_two max_three min_three max_four min_four  
set_option linter.unusedVariables false
set_option linter.unusedSimpArgs false
def errW : Option Int → Value
  | none => .nilIface
  | some c => .iface 0 (.int .i64 c)
theorem errW_none : errW none = .nilIface := rfl
theorem errW_some (c : Int) : errW (some c) = .iface 0 (.int .i64 c) := rfl
end Go.Proofs.YtbdcghbafopjjaaGreatDoor.Si
end

section
namespace Go.Proofs.YtbdcghbafopjjaaGreatDoor.Si
open Go.RowKit Go.Proofs.YtbdcghbafopjjaaGreatDoor.K0 Go.Proofs.YtbdcghbafopjjaaGreatDoor.Hand Go.Proofs.YtbdcghbafopjjaaGreatDoor.Sa Go.Proofs.YtbdcghbafopjjaaGreatDoorW.PrintWords Go.Proofs.YtbdcghbafopjjaaGreatDoorW.PrintLast Go.Proofs.YtbdcghbafopjjaaGreatDoorW.PrintMore
attribute [local go_sem] max2_int min2_int max_two min_two max_three min_three max_four min_four  
set_option linter.unusedVariables false
set_option linter.unusedSimpArgs false
def text_inside.f (a0 : ByteArray) (a1 : Int) : Option (Int) := some (mn (mx a1 0) (a0.size : Int))
set_option maxHeartbeats 8000000 in
set_option maxRecDepth 100000 in
theorem text_inside.calls (a0 : ByteArray) (a1 : Int) (r : Int) (w : World) (h : text_inside.f a0 a1 = some r) :
    Calls Tryz.prog 106 #[.string a0, .int .i64 a1] w fun e w' => e = .returned (.int .i64 r) ∧ Below w.heap.size w w' := by
  have HB := Aside0.mk (Below.refl w.heap.size w)
  have H : (some (mn (mx a1 0) (a0.size : Int))) = some r := h
  clear h
  obtain ⟨ji3, hji3⟩ : ∃ j_ : Int, (mx a1 0) = j_ := ⟨_, rfl⟩
  replace H : (some (mn (ji3) (a0.size : Int))) = some r := by first | (rw [hji3] at H; exact H) | (simp only [hji3] at H ⊢; exact H)
  (try (have hji3l : 0 ≤ ji3 := by (rw [← hji3]; unfold mx; (repeat' split) <;> omega)))
  (try (have hji3m : 0 ≤ ji3 := by omega))
  have hji3_ : (if a1 < 0 then 0 else a1) = ji3 := hji3
  obtain ⟨ji4, hji4⟩ : ∃ j_ : Int, (mn (ji3) (a0.size : Int)) = j_ := ⟨_, rfl⟩
  replace H : (some ji4) = some r := by first | (rw [hji4] at H; exact H) | (simp only [hji4] at H ⊢; exact H)
  have hji4_ : (if (a0.size : Int) < (ji3) then (a0.size : Int) else (ji3)) = ji4 := hji4
  obtain rfl := Option.some.inj H
  go_enter Tryz.func106, Tryz.ntmps106
  go_wp2
  go_ret
  exact ⟨by first | rfl | (simp [errW_none, errW_some] <;> rfl) | (simp only [← hji3, ← hji4]; first | rfl | (simp [errW_none, errW_some] <;> rfl)) | (simp [*, errW_none, errW_some] <;> rfl), by repeat (first | (with_reducible first | exact HB.out | apply below_alloc | apply pw_below_drewN | apply below_drew1) | exact HB.out)⟩
def tok_inside.f (a0 : ByteArray) (a1 : Int) : Option (Int) := some (mn (mx a1 0) (a0.size : Int))
set_option maxHeartbeats 8000000 in
set_option maxRecDepth 100000 in
theorem tok_inside.calls (a0 : ByteArray) (a1 : Int) (r : Int) (w : World) (h : tok_inside.f a0 a1 = some r) :
    Calls Tryz.prog 60 #[.string a0, .int .i64 a1] w fun e w' => e = .returned (.int .i64 r) ∧ Below w.heap.size w w' := by
  have HB := Aside0.mk (Below.refl w.heap.size w)
  have H : (some (mn (mx a1 0) (a0.size : Int))) = some r := h
  clear h
  obtain ⟨ji3, hji3⟩ : ∃ j_ : Int, (mx a1 0) = j_ := ⟨_, rfl⟩
  replace H : (some (mn (ji3) (a0.size : Int))) = some r := by first | (rw [hji3] at H; exact H) | (simp only [hji3] at H ⊢; exact H)
  (try (have hji3l : 0 ≤ ji3 := by (rw [← hji3]; unfold mx; (repeat' split) <;> omega)))
  (try (have hji3m : 0 ≤ ji3 := by omega))
  have hji3_ : (if a1 < 0 then 0 else a1) = ji3 := hji3
  obtain ⟨ji4, hji4⟩ : ∃ j_ : Int, (mn (ji3) (a0.size : Int)) = j_ := ⟨_, rfl⟩
  replace H : (some ji4) = some r := by first | (rw [hji4] at H; exact H) | (simp only [hji4] at H ⊢; exact H)
  have hji4_ : (if (a0.size : Int) < (ji3) then (a0.size : Int) else (ji3)) = ji4 := hji4
  obtain rfl := Option.some.inj H
  go_enter Tryz.func60, Tryz.ntmps60
  go_wp2
  go_ret
  exact ⟨by first | rfl | (simp [errW_none, errW_some] <;> rfl) | (simp only [← hji3, ← hji4]; first | rfl | (simp [errW_none, errW_some] <;> rfl)) | (simp [*, errW_none, errW_some] <;> rfl), by repeat (first | (with_reducible first | exact HB.out | apply below_alloc | apply pw_below_drewN | apply below_drew1) | exact HB.out)⟩
def tag_place_letter.f (a0_0 : ByteArray) (a0_1 : Int) (a1 : Int) : Option (Bool) := if (wrap64 (a0_1 + a1)) < (a0_0.size : Int) then (if 0 ≤ (wrap64 (a0_1 + a1)) then ((sign_Letter.f (bt a0_0 (wrap64 (a0_1 + a1)))).bind fun t102 => (some t102)) else (none)) else (some false)
set_option maxHeartbeats 8000000 in
set_option maxRecDepth 100000 in
theorem tag_place_letter.calls (a0_0 : ByteArray) (a0_1 : Int) (a1 : Int) (r : Bool) (w : World) (h : tag_place_letter.f a0_0 a0_1 a1 = some r) :
    Calls Tryz.prog 136 #[.agg #[.string a0_0, .int .i64 a0_1], .int .i64 a1] w fun e w' => e = .returned (.bool r) ∧ Below w.heap.size w w' := by
  have hu110 := Tryz.underlying110
  have HB := Aside0.mk (Below.refl w.heap.size w)
  have H : (if (wrap64 (a0_1 + a1)) < (a0_0.size : Int) then (if 0 ≤ (wrap64 (a0_1 + a1)) then ((sign_Letter.f (bt a0_0 (wrap64 (a0_1 + a1)))).bind fun t102 => (some t102)) else (none)) else (some false)) = some r := h
  clear h
  by_cases c3 : (wrap64 (a0_1 + a1)) < (a0_0.size : Int)
  · rw [if_pos c3] at H
    have c3b0 : decide ((wrap64 (a0_1 + a1)) < (a0_0.size : Int)) = true := decide_eq_true c3
    clear c3
    obtain ⟨ji4, hji4⟩ : ∃ j_ : Int, (wrap64 (a0_1 + a1)) = j_ := ⟨_, rfl⟩
    replace H : (if 0 ≤ (ji4) then ((sign_Letter.f (bt a0_0 (ji4))).bind fun t102 => (some t102)) else (none)) = some r := by first | (rw [hji4] at H; exact H) | (simp only [hji4] at H ⊢; exact H)
    (try rw [hji4] at c3b0)
    have hji4w : (IntKind.i64.wrap (a0_1 + a1)) = ji4 := (i64_w _).trans hji4
    by_cases c5 : 0 ≤ (ji4)
    · rw [if_pos c5] at H
      have c5b0 : decide (0 ≤ (ji4)) = true := decide_eq_true c5
      clear c5
      replace H := Option.bind_eq_some_iff.mp H
      obtain ⟨t102, A70, H⟩ := H
      replace H : (some t102) = some r := H
      have A7 := Aside0.mk A70
      clear A70
      obtain rfl := Option.some.inj H
      go_enter Tryz.func136, Tryz.ntmps136
      go_wp2_with (first | ((with_reducible refine gate_dst (N := 2) rfl ?_); refine box_event ?hg (N := 2) ?hd (cs := #[.string a0_0, .int .i64 a0_1]) (t := 110) ?hr ?_; (case hd => rfl); (case hg => rfl); (case hr => first | (go_simp; done) | (go_simp; rfl)); intro gb101 hg w8 hbox hb; have n0_ := Aside0.mk (below_step (by repeat (first | (with_reducible first | exact HB.out | apply below_alloc | apply pw_below_drewN | apply below_drew1) | exact HB.out)) hb); have n1_ := Aside0.mk (hbox); have n2_ := Aside0.mk ((by rw [hg]; exact (below_size (by repeat (first | (with_reducible first | exact HB.out | apply below_alloc | apply pw_below_drewN | apply below_drew1) | exact HB.out))) : w.heap.size ≤ gb101)); have n3_ := Aside0.mk ((by rw [hg]; exact (below_size (by repeat (first | (with_reducible first | exact HB.out | apply below_alloc | apply pw_below_drewN | apply below_drew1) | exact HB.out))) : w.heap.size ≤ gb101)); clear HB; have HB := n0_; have BK101 := n1_; have GW101 := n2_; have GE101 := n3_; clear n0_ n1_ n2_ n3_; clear hb hbox hg; have hcz9_0 : w8.cell? ⟨gb101, 0, none⟩ = some (.string a0_0) := (blk_cell BK101.out 0).trans rfl; have hcz9_1 : w8.cell? ⟨gb101, 1, none⟩ = some (.int .i64 a0_1) := (blk_cell BK101.out 1).trans rfl; have hfz9_0 := blk_frozen BK101.out 0; have hfz9_1 := blk_frozen BK101.out 1; have p6 : 0 ≤ ((ji4) : Int) := of_decide_eq_true (by first | (with_reducible assumption) | assumption); have q6 : (ji4) < (a0_0.size : Int) := of_decide_eq_true (by first | (with_reducible assumption) | assumption); have hx6 := bt_at a0_0 (ji4); replace p6 := eq_true p6; replace q6 := eq_true q6) | (go_at_call 102; (with_reducible refine (sign_Letter.calls (bt a0_0 (ji4)) t102 _ A7.out).mono ?_); rintro e w' ⟨rfl, ⟨nd, rfl⟩⟩))
      go_ret
      exact ⟨by first | rfl | (simp [errW_none, errW_some] <;> rfl) | (simp only [← hji4]; first | rfl | (simp [errW_none, errW_some] <;> rfl)) | (simp [*, errW_none, errW_some] <;> rfl), by repeat (first | (with_reducible first | exact HB.out | apply below_alloc | apply pw_below_drewN | apply below_drew1 | refine below_set ?_ GE101.out) | exact HB.out)⟩
    · rw [if_neg c5] at H
      exact absurd H (by simp)
  · rw [if_neg c3] at H
    have c3b0 : decide ((wrap64 (a0_1 + a1)) < (a0_0.size : Int)) = false := decide_eq_false c3
    clear c3
    obtain rfl := Option.some.inj H
    go_enter Tryz.func136, Tryz.ntmps136
    go_wp2_with (first | ((with_reducible refine gate_dst (N := 2) rfl ?_); refine box_event ?hg (N := 2) ?hd (cs := #[.string a0_0, .int .i64 a0_1]) (t := 110) ?hr ?_; (case hd => rfl); (case hg => rfl); (case hr => first | (go_simp; done) | (go_simp; rfl)); intro gb101 hg w10 hbox hb; have n0_ := Aside0.mk (below_step (by repeat (first | (with_reducible first | exact HB.out | apply below_alloc | apply pw_below_drewN | apply below_drew1) | exact HB.out)) hb); have n1_ := Aside0.mk (hbox); have n2_ := Aside0.mk ((by rw [hg]; exact (below_size (by repeat (first | (with_reducible first | exact HB.out | apply below_alloc | apply pw_below_drewN | apply below_drew1) | exact HB.out))) : w.heap.size ≤ gb101)); have n3_ := Aside0.mk ((by rw [hg]; exact (below_size (by repeat (first | (with_reducible first | exact HB.out | apply below_alloc | apply pw_below_drewN | apply below_drew1) | exact HB.out))) : w.heap.size ≤ gb101)); clear HB; have HB := n0_; have BK101 := n1_; have GW101 := n2_; have GE101 := n3_; clear n0_ n1_ n2_ n3_; clear hb hbox hg; have hcz11_0 : w10.cell? ⟨gb101, 0, none⟩ = some (.string a0_0) := (blk_cell BK101.out 0).trans rfl; have hcz11_1 : w10.cell? ⟨gb101, 1, none⟩ = some (.int .i64 a0_1) := (blk_cell BK101.out 1).trans rfl; have hfz11_0 := blk_frozen BK101.out 0; have hfz11_1 := blk_frozen BK101.out 1))
    go_ret
    exact ⟨by first | rfl | (simp [errW_none, errW_some] <;> rfl) | (simp [*, errW_none, errW_some] <;> rfl), by repeat (first | (with_reducible first | exact HB.out | apply below_alloc | apply pw_below_drewN | apply below_drew1 | refine below_set ?_ GE101.out) | exact HB.out)⟩
end Go.Proofs.YtbdcghbafopjjaaGreatDoor.Si
end

section
namespace Go.Proofs.YtbdcghbafopjjaaGreatDoor.Hand
open Go Go.RowKit Go.Maps Go.Proofs.YtbdcghbafopjjaaGreatDoor.Pl Go.Proofs.YtbdcghbafopjjaaGreatDoor.Pb Go.Proofs.YtbdcghbafopjjaaGreatDoor.Sa Go.Proofs.YtbdcghbafopjjaaGreatDoor.Si Go.Proofs.YtbdcghbafopjjaaGreatDoor.Pure Go.Proofs.YtbdcghbafopjjaaGreatDoorW.PrintWords
theorem wp_insert_own {H : Type} {P : Program} (w : World) {ops : Array Oper} {rest : List Oper} {o : Oper} {a : Act} {Q : Exit → Act → World → Prop}
    (hg : o.guard = none) (m x v : Operand) (t : TypeId) (hop : o.op = Op.insert t m x v)
    (k e : TypeId) (K : Keyed P k) (ht : P.underlying t = some (.map k e)) (R : Value → Option (DataW H × List MemPlace)) (b n : Nat) (D : DataW H)
    (hm : a.eval m = .map (some b)) (hown : w.ownsMap P k R b n D) (hn : n < maxLen) (key val : Value) (kl : Lit) (hx : a.eval x = key) (hv : a.eval v = val) (hkey : keyOf P k key = some kl)
    (d : DataW H) (ps : List MemPlace) (hval : R val = some (d, ps))
    (hK : ∀ w', w'.ownsMap P k R b (n + 1) (D.put kl d) → w.grownBy w' (some b) → wpList P ops Q rest (a.put o.dst undef) w') :
    wpList P ops Q (o :: rest) a w := by
  refine wpList_plain hg fun K' hK' => ?_
  obtain ⟨w', hrun, r1, r2⟩ := hown.update K ht hn hkey hval
  unfold Oper.wp
  simp [execOp, hop, hm, hx, hv, hrun, Result.andThen]
  exact hK' _ _ (hK w' r1 r2)
def letAt (l : List UInt8) : Bool := match l with | [] => false | c :: _ => isLetB c
theorem letter_at (s : List UInt8) (p n : Nat) (hs : s.length ≤ 1000000) (hp : p ≤ s.length) (hn : n ≤ 2) (w : World) :
    Calls Tryz.prog 136 #[.agg #[.string (B s), .int .i64 (p : Int)], .int .i64 (n : Int)] w fun e w' => e = .returned (.bool (letAt (s.drop (p + n)))) ∧ Below w.heap.size w w' := by
  refine tag_place_letter.calls _ _ _ _ w ?_
  have hw : wrap64 ((p : Int) + (n : Int)) = ((p + n : Nat) : Int) := by unfold wrap64; omega
  unfold tag_place_letter.f
  rw [hw, size_B]
  by_cases h : p + n < s.length
  · rw [if_pos (by omega), if_pos (by omega)]
    have hd := List.drop_eq_getElem_cons h
    rw [bt_drop s (p + n) _ _ hd, letter_f, hd]
    rfl
  · rw [if_neg (by omega), List.drop_eq_nil_of_le (by omega)]
    rfl
noncomputable def tgD : DataW Unit := ((DataW.map []).put (.int .i64 1) (.lit (.string [60]))).put (.int .i64 2) (.lit (.string [60, 47]))
theorem tgD_at {x : Int} {c : ByteArray} (h : ∀ z, tgD.atKey (.int .i64 x) z = .lit (.string c.data.toList)) : (x = 1 ∧ c = ⟨#[60]⟩) ∨ (x = 2 ∧ c = ⟨#[60, 47]⟩) := by
  have m0 : IsMap (DataW.map [] : DataW Unit) := ⟨[], rfl⟩
  have hc : ∀ l : List UInt8, (DataW.lit (.string l) : DataW Unit) = .lit (.string c.data.toList) → c = B l := fun l e => by
    have e2 : l = c.data.toList := by injection e with e; injection e
    rw [e2]; rfl
  unfold tgD at h
  by_cases h2 : x = 2
  · subst h2
    have := h (.map [])
    rw [atKey_put_same (m0.put _ _) (show WideAt.IsKeyLit (.int _ _) from trivial)] at this
    exact .inr ⟨rfl, hc _ this⟩
  · have n2 : (Lit.int .i64 x) ≠ .int .i64 2 := fun e => h2 (by injection e)
    by_cases h1 : x = 1
    · subst h1
      have := h (.map [])
      rw [atKey_put_other n2, atKey_put_same m0 (show WideAt.IsKeyLit (.int _ _) from trivial)] at this
      exact .inl ⟨rfl, hc _ this⟩
    · have n1 : (Lit.int .i64 x) ≠ .int .i64 1 := fun e => h1 (by injection e)
      have := h (.map [])
      rw [atKey_put_other n2, atKey_put_other n1] at this
      cases this
theorem tgD_has : Maps.has tgD (.int .i64 1) = true ∧ Maps.has tgD (.int .i64 2) = true := by
  have m0 : IsMap (DataW.map [] : DataW Unit) := ⟨[], rfl⟩
  unfold tgD
  refine ⟨?_, has_put_same (m0.put _ _) (show WideAt.IsKeyLit (.int _ _) from trivial) _⟩
  rw [has_put_other (fun e => by injection e with _ e; cases e)]
  exact has_put_same m0 (show WideAt.IsKeyLit (.int _ _) from trivial) _
def tgT (l : List UInt8) (n : Nat) : Bool := if n = 1 then begR l [60] && letAt (l.drop 1) else begR l [60, 47] && letAt (l.drop 2)
theorem low_eq (c : UInt8) : (lowB c == 60) = (c == 60) ∧ (lowB c == 47) = (c == 47) := by
  have : ∀ n : Fin 256, (lowB (UInt8.ofNat n.val) == 60) = (UInt8.ofNat n.val == 60) ∧ (lowB (UInt8.ofNat n.val) == 47) = (UInt8.ofNat n.val == 47) := by decide +kernel
  have h := this ⟨c.toNat, c.toNat_lt⟩
  simpa using h
theorem tagN_cons (a c : UInt8) (r : List UInt8) : tagN (a :: c :: r) = if a = 60 then (if isLetB c = true then 1 else if c = 47 then (match r with | [] => 0 | d :: _ => if isLetB d = true then 2 else 0) else 0) else 0 := rfl
theorem tgT_1 {l : List UInt8} (h : tgT l 1 = true) : tagN l = 1 := by
  unfold tgT at h
  rw [if_pos rfl, Bool.and_eq_true] at h
  obtain ⟨h1, h2⟩ := h
  match l, h1, h2 with
  | [], h1, _ => cases h1
  | [c], _, h2 => cases h2
  | c :: d :: r, h1, h2 =>
    rw [begR, (low_eq c).1, Bool.and_eq_true, beq_iff_eq] at h1
    change isLetB d = true at h2
    rw [tagN_cons, if_pos h1.1, if_pos h2]
theorem tgT_2 {l : List UInt8} (h : tgT l 2 = true) : tagN l = 2 := by
  unfold tgT at h
  rw [if_neg (by decide), Bool.and_eq_true] at h
  obtain ⟨h1, h2⟩ := h
  match l, h1, h2 with
  | [], h1, _ => cases h1
  | [c], _, h2 => cases h2
  | [c, d], _, h2 => cases h2
  | c :: d :: e :: r, h1, h2 =>
    rw [begR, begR, (low_eq c).1, (low_eq d).2, Bool.and_eq_true, Bool.and_eq_true, beq_iff_eq, beq_iff_eq] at h1
    change isLetB e = true at h2
    obtain ⟨rfl, rfl, _⟩ := h1
    rw [tagN_cons, if_pos rfl, if_neg (by decide), if_pos rfl]
    exact if_pos h2
theorem tgT_0 {l : List UInt8} (h : tgT l 1 = false) (h2 : tgT l 2 = false) : tagN l = 0 := by
  unfold tgT at h h2
  rw [if_pos rfl] at h
  rw [if_neg (by decide)] at h2
  match l, h, h2 with
  | [], _, _ => rfl
  | [c], _, _ => rfl
  | c :: d :: r, h, h2 =>
    rw [begR, (low_eq c).1] at h
    rw [begR, begR, (low_eq c).1, (low_eq d).2] at h2
    change (c == 60 && begR (d :: r) [] && isLetB d) = false at h
    rw [tagN_cons]
    by_cases hc : c = 60
    · subst hc
      rw [if_pos rfl]
      have hd : isLetB d = false := by simpa [begR] using h
      rw [if_neg (by rw [hd]; decide)]
      by_cases h47 : d = 47
      · subst h47
        rw [if_pos rfl]
        cases r with
        | nil => rfl
        | cons e r =>
          have he : isLetB e = false := by simpa [begR, letAt] using h2
          simp only [he]
          rfl
      · rw [if_neg h47]
    · rw [if_neg hc]
set_option maxRecDepth 100000 in
set_option maxHeartbeats 4000000 in
theorem name_c (s : List UInt8) (p : Nat) (hs : s.length ≤ 100000) (hp : p ≤ s.length) (w : World) :
    Calls Tryz.prog 99 #[.agg #[.string (B s), .int .i64 (p : Int)]] w fun e w' => e = .returned (.int .i64 ((tagN (s.drop p) : Nat) : Int)) ∧ Below w.heap.size w w' := by
  have BG := Lib.hid (fun low (hl : low.length ≤ 100) W => nbegins_c s low p (by omega) (by omega) hp W)
  have LT := Lib.hid (fun n (hn : n ≤ 2) W => letter_at s p n (by omega) hp hn W)
  have hT1 := tgT_1 (l := s.drop p)
  have hT2 := tgT_2 (l := s.drop p)
  have hT0 := tgT_0 (l := s.drop p)
  have B1 := Lib.hid (BG.out [60] (by decide))
  have B2 := Lib.hid (BG.out [60, 47] (by decide))
  have L1 := Lib.hid (LT.out 1 (by decide))
  have L2 := Lib.hid (LT.out 2 (by decide))
  unfold tgT at hT1 hT2 hT0
  rw [if_pos rfl, List.drop_drop] at hT1 hT0
  rw [if_neg (by decide), List.drop_drop] at hT2 hT0
  obtain ⟨x1, e1⟩ : ∃ x, begR (s.drop p) [60] = x := ⟨_, rfl⟩
  obtain ⟨x2, e2⟩ : ∃ x, begR (s.drop p) [60, 47] = x := ⟨_, rfl⟩
  obtain ⟨y1, f1⟩ : ∃ x, letAt (s.drop (p + 1)) = x := ⟨_, rfl⟩
  obtain ⟨y2, f2⟩ : ∃ x, letAt (s.drop (p + 2)) = x := ⟨_, rfl⟩
  rw [e1, f1] at hT1 hT0
  rw [e2, f2] at hT2 hT0
  rw [e1] at B1
  rw [e2] at B2
  rw [f1] at L1
  rw [f2] at L2
  obtain ⟨T, hT⟩ : ∃ T, tagN (s.drop p) = T := ⟨_, rfl⟩
  rw [hT] at hT1 hT2 hT0 ⊢
  have HT1 := Lib.hid hT1
  have HT2 := Lib.hid hT2
  have HT0 := Lib.hid hT0
  clear hT1 hT2 hT0 BG LT
  obtain ⟨a, ha⟩ : ∃ a, B s = a := ⟨_, rfl⟩
  rw [ha] at B1 B2 L1 L2 ⊢
  clear ha e1 e2 f1 f2 hT
  have law3 : Keyed Tryz.prog 3 := int_keyed Tryz.underlying3
  have hmm := @run_makeMap Tryz.prog
  have hown0 : ((w.alloc (.cells #[.string a, .int .i64 (p : Int)] 110)).alloc (.map #[] 0)).ownsMap Tryz.prog 3 (plainElem (H := Unit) Tryz.prog 9) (w.heap.size + 1) 0 (.map []) := by
    have := World.ownsMap_made (w.alloc (.cells #[.string a, .int .i64 (p : Int)] 110)) Tryz.prog 3 (plainElem (H := Unit) Tryz.prog 9)
    simpa using this
  go_enter Tryz.func99, Tryz.ntmps99
  go_wp2_with (first
    | (refine wp_insert_own _ rfl (.tmp 5) (.const (.int .i64 1)) (.const (.string ⟨#[60]⟩)) 132 rfl 3 9 law3 Tryz.underlying132 (plainElem (H := Unit) Tryz.prog 9) (w.heap.size + 1) 0 _ rfl hown0 (by decide) _ _ (.int .i64 1) rfl rfl (keyOf_int_mk Tryz.underlying3 (by decide)) _ [] (plainElem_string Tryz.underlying9 (by decide)) ?_; intro w2 hown2 hg2)
    | (refine wp_insert_own _ rfl (.tmp 5) (.const (.int .i64 2)) (.const (.string ⟨#[60, 47]⟩)) 132 rfl 3 9 law3 Tryz.underlying132 (plainElem (H := Unit) Tryz.prog 9) (w.heap.size + 1) 1 _ rfl hown2 (by decide) _ _ (.int .i64 2) rfl rfl (keyOf_int_mk Tryz.underlying3 (by decide)) _ [] (plainElem_string Tryz.underlying9 (by decide)) ?_; intro w3 hown3 hg3)
    | (at_range; refine wpList_range_own _ rfl _ 132 rfl 3 9 law3 Tryz.underlying132 _ (w.heap.size + 1) 2 _ rfl hown3 ?_; intro w0 hrg0 hg0 hs0)
    | go_in)
  try go_frame
  have hb0 : ((w.alloc (.cells #[.string a, .int .i64 (p : Int)] 110)).alloc (.map #[] 0)).heap[w.heap.size]? = some (.cells #[.string a, .int .i64 (p : Int)] 110 (0, 0)) := by
    have h1 : (w.alloc (.cells #[.string a, .int .i64 (p : Int)] 110)).heap[w.heap.size]? = some (.cells #[.string a, .int .i64 (p : Int)] 110 (0, 0)) := Array.getElem?_push_size
    exact (((Below.refl _ _).alloc (Nat.le_refl _) _).block w.heap.size (blk_lt h1)).trans h1
  have hb2 := blk_grown hb0 hg2 (by simp)
  have hb3 := blk_grown hb2 hg3 (by simp)
  have hb4 := Lib.hid (blk_grown hb3 hg0 (by simp))
  have hB1 : Below w.heap.size w ((w.alloc (.cells #[.string a, .int .i64 (p : Int)] 110)).alloc (.map #[] 0)) := below_alloc (below_alloc (Below.refl _ _) _) _
  have hB2 := hB1.grown hg2 hB1.size (fun j hj => by cases hj; exact Nat.le_succ _)
  have hB3 := hB2.grown hg3 hB2.size (fun j hj => by cases hj; exact Nat.le_succ _)
  have hB4 := Lib.hid (hB3.grown hg0 hB3.size (fun j hj => by cases hj))
  have HRG := Lib.hid hrg0
  have hz := hB3.size
  obtain ⟨r, hr⟩ : ∃ r, w3.heap.size = r := ⟨_, rfl⟩
  have hbr : w.heap.size + 1 < r := by rw [← hr]; exact hown3.lt
  rw [hr] at HRG hz ⊢
  clear hown0 hown2 hown3 hg2 hg3 hg0 hs0 hrg0 hb0 hb2 hb3 hB1 hB2 hB3 hr hmm
  go_loopw [3, 4] (fun _ _ wr => ∃ (left : Lit → Bool) (cnt : Nat), Hid (wr.ranges Tryz.prog 3 (plainElem (H := Unit) Tryz.prog 9) (w.heap.size + 1) r 2 tgD left cnt) ∧ Hid (wr.heap[w.heap.size]? = some (.cells #[.string a, .int .i64 (p : Int)] 110 (0, 0))) ∧ Hid (Below w.heap.size w wr) ∧ Hid ((left (.int .i64 1) = false → (x1 && y1) = false) ∧ (left (.int .i64 2) = false → (x2 && y2) = false)))
    (fun _ _ wr => wr.rangeLeft (w.heap.size + 1) r)
  case atStart =>
    exact ⟨_, _, HRG, hb4, hB4, Lib.hid ⟨fun h => absurd (tgD_has.1.symm.trans h) (by decide), fun h => absurd (tgD_has.2.symm.trans h) (by decide)⟩⟩
  case round =>
    obtain ⟨left, cnt, hrg, hbk, hB, hI⟩ := hrel
    go_wp2_with (first
      | (at_next; refine wpList_next_ranges_is _ rfl _ rfl 3 9 .i64 law3 Tryz.underlying3 Tryz.underlying9 (w.heap.size + 1) r 2 _ _ _ rfl hrg.out ?_ ?_)
      | go_in)
    · intro hc0 hl0
      go_wp2
      go_ret
      exact ⟨by rw [HT0.out (hI.out.1 (hl0 _)) (hI.out.2 (hl0 _))]; rfl, hB.out⟩
    · intro x c w1 cnt1 hwx hwc hlx hat hrg1 hlt hg1 hs1 hen
      have hbk1 := Lib.hid (blk_grown hbk.out hg1 (by simp; omega))
      have hB1 := Lib.hid (hB.out.grown hg1 hB.out.size (fun j hj => by cases hj; omega))
      have HR1 := Lib.hid hrg1
      have hc0 : w1.cell? ⟨w.heap.size, 0, none⟩ = some (.string a) := (blk_cell hbk1.out 0).trans rfl
      have hc1 : w1.cell? ⟨w.heap.size, 1, none⟩ = some (.int .i64 (p : Int)) := (blk_cell hbk1.out 1).trans rfl
      have HG1 : Hid (cnt1 < cnt) := Lib.hid hlt
      have HLX := Lib.hid hlx
      have hkk : (∀ y, (left (.int .i64 y) && !(Lit.int .i64 y).sameKey (.int .i64 x)) = false → left (.int .i64 y) = false ∨ y = x) := by
        intro y hy
        rw [Bool.and_eq_false_iff, Bool.not_eq_false'] at hy
        rcases hy with hy | hy
        · exact .inl hy
        · have := WideAt.sameKey_eq hy
          injection this with _ e
          exact .inr e
      have HKK := Lib.hid hkk
      have hrgl := Lib.hid hrg.out.left_eq
      rcases tgD_at (c := c) hat with ⟨rfl, rfl⟩ | ⟨rfl, rfl⟩
      · clear hat hwx hwc hlx hrg1 hg1 hs1 hlt hkk hrg hbk
        have HLK : Hid (∀ y, (left (.int .i64 y) && !(Lit.int .i64 y).sameKey (.int .i64 1)) = false → left (.int .i64 y) = false ∨ y = 1) := HKK
        clear HKK
        cases x1 with
        | false =>
          go_wp2_with fail
          refine (B1.out _).mono ?_
          rintro e w2 ⟨rfl, hb⟩
          have HR2 := Lib.hid (HR1.out.kept (grown_of_below hb none) (by simp) (by simp))
          have HB2 := Lib.hid (hB1.out.trans (hb.mono hB1.out.size))
          have HK2 := Lib.hid ((hb.block _ (blk_lt hbk1.out)).trans hbk1.out)
          clear hb HR1 hbk1 hB1
          go_wp2_with fail
          refine ⟨⟨_, _, HR2, HK2, HB2, Lib.hid ⟨fun h => ?_, fun h => ?_⟩⟩, ?_⟩
          · rcases HLK.out _ h with h | h
            · exact hI.out.1 h
            · first | rfl | exact absurd h (by decide)
          · rcases HLK.out _ h with h | h
            · exact hI.out.2 h
            · first | rfl | exact absurd h (by decide)
          · rw [HR2.out.left_eq, hrgl.out]; exact HG1.out
        | true =>
          have hc0' := hc0
          go_wp2_with fail
          refine (B1.out _).mono ?_
          rintro e w2 ⟨rfl, hb⟩
          have HR2 := Lib.hid (HR1.out.kept (grown_of_below hb none) (by simp) (by simp))
          have HB2 := Lib.hid (hB1.out.trans (hb.mono hB1.out.size))
          have HK2 := Lib.hid ((hb.block _ (blk_lt hbk1.out)).trans hbk1.out)
          have hd0 : w2.cell? ⟨w.heap.size, 0, none⟩ = some (.string a) := (blk_cell HK2.out 0).trans rfl
          have hd1 : w2.cell? ⟨w.heap.size, 1, none⟩ = some (.int .i64 (p : Int)) := (blk_cell HK2.out 1).trans rfl
          clear hb HR1 hbk1 hB1 hc0 hc1
          go_wp2_with fail
          refine (L1.out _).mono ?_
          rintro e w3 ⟨rfl, hb⟩
          replace HR2 := Lib.hid (HR2.out.kept (grown_of_below hb none) (by simp) (by simp))
          replace HB2 := Lib.hid (HB2.out.trans (hb.mono HB2.out.size))
          replace HK2 := Lib.hid ((hb.block _ (blk_lt HK2.out)).trans HK2.out)
          clear hb hd0 hd1
          cases y1 with
          | true =>
            go_wp2_with fail
            go_ret
            exact ⟨by rw [HT1.out rfl]; rfl, HB2.out⟩
          | false =>
            go_wp2_with fail
            refine ⟨⟨_, _, HR2, HK2, HB2, Lib.hid ⟨fun h => ?_, fun h => ?_⟩⟩, ?_⟩
            · rcases HLK.out _ h with h | h
              · exact hI.out.1 h
              · first | rfl | exact absurd h (by decide)
            · rcases HLK.out _ h with h | h
              · exact hI.out.2 h
              · first | rfl | exact absurd h (by decide)
            · rw [HR2.out.left_eq, hrgl.out]; exact HG1.out
      · clear hat hwx hwc hlx hrg1 hg1 hs1 hlt hkk hrg hbk
        have HLK : Hid (∀ y, (left (.int .i64 y) && !(Lit.int .i64 y).sameKey (.int .i64 2)) = false → left (.int .i64 y) = false ∨ y = 2) := HKK
        clear HKK
        cases x2 with
        | false =>
          go_wp2_with fail
          refine (B2.out _).mono ?_
          rintro e w2 ⟨rfl, hb⟩
          have HR2 := Lib.hid (HR1.out.kept (grown_of_below hb none) (by simp) (by simp))
          have HB2 := Lib.hid (hB1.out.trans (hb.mono hB1.out.size))
          have HK2 := Lib.hid ((hb.block _ (blk_lt hbk1.out)).trans hbk1.out)
          clear hb HR1 hbk1 hB1
          go_wp2_with fail
          refine ⟨⟨_, _, HR2, HK2, HB2, Lib.hid ⟨fun h => ?_, fun h => ?_⟩⟩, ?_⟩
          · rcases HLK.out _ h with h | h
            · exact hI.out.1 h
            · first | rfl | exact absurd h (by decide)
          · rcases HLK.out _ h with h | h
            · exact hI.out.2 h
            · first | rfl | exact absurd h (by decide)
          · rw [HR2.out.left_eq, hrgl.out]; exact HG1.out
        | true =>
          have hc0' := hc0
          go_wp2_with fail
          refine (B2.out _).mono ?_
          rintro e w2 ⟨rfl, hb⟩
          have HR2 := Lib.hid (HR1.out.kept (grown_of_below hb none) (by simp) (by simp))
          have HB2 := Lib.hid (hB1.out.trans (hb.mono hB1.out.size))
          have HK2 := Lib.hid ((hb.block _ (blk_lt hbk1.out)).trans hbk1.out)
          have hd0 : w2.cell? ⟨w.heap.size, 0, none⟩ = some (.string a) := (blk_cell HK2.out 0).trans rfl
          have hd1 : w2.cell? ⟨w.heap.size, 1, none⟩ = some (.int .i64 (p : Int)) := (blk_cell HK2.out 1).trans rfl
          clear hb HR1 hbk1 hB1 hc0 hc1
          go_wp2_with fail
          refine (L2.out _).mono ?_
          rintro e w3 ⟨rfl, hb⟩
          replace HR2 := Lib.hid (HR2.out.kept (grown_of_below hb none) (by simp) (by simp))
          replace HB2 := Lib.hid (HB2.out.trans (hb.mono HB2.out.size))
          replace HK2 := Lib.hid ((hb.block _ (blk_lt HK2.out)).trans HK2.out)
          clear hb hd0 hd1
          cases y2 with
          | true =>
            go_wp2_with fail
            go_ret
            exact ⟨by rw [HT2.out rfl]; rfl, HB2.out⟩
          | false =>
            go_wp2_with fail
            refine ⟨⟨_, _, HR2, HK2, HB2, Lib.hid ⟨fun h => ?_, fun h => ?_⟩⟩, ?_⟩
            · rcases HLK.out _ h with h | h
              · exact hI.out.1 h
              · first | rfl | exact absurd h (by decide)
            · rcases HLK.out _ h with h | h
              · exact hI.out.2 h
              · first | rfl | exact absurd h (by decide)
            · rw [HR2.out.left_eq, hrgl.out]; exact HG1.out
end Go.Proofs.YtbdcghbafopjjaaGreatDoor.Hand
end

section
namespace Go.Proofs.YtbdcghbafopjjaaGreatDoor.Hand
open Go Go.RowKit
def strings_IndexByte.f (a0 : ByteArray) (a1 : Int) : Option Int := some (Lib.indexByte a0.data.toList a1.toNat.toUInt8)
theorem strings_IndexByte.calls (a0 : ByteArray) (a1 : Int) (r : Int) (w : World) (h : strings_IndexByte.f a0 a1 = some r) :
    Calls Tryz.prog 30 #[.string a0, .int .u8 a1] w fun e w' => e = .returned (.int .i64 r) ∧ Below w.heap.size w w' := by
  obtain rfl := Option.some.inj h
  exact (Tryz.strings_IndexByte a0 a1 w).mono fun e w' h => ⟨h.1, by rw [h.2]; exact Below.refl _ _⟩
end Go.Proofs.YtbdcghbafopjjaaGreatDoor.Hand
end

section
namespace Go.Proofs.YtbdcghbafopjjaaGreatDoor.Sx
open Go.RowKit Go.Proofs.YtbdcghbafopjjaaGreatDoor.K0 Go.Proofs.YtbdcghbafopjjaaGreatDoor.Hand Go.Proofs.YtbdcghbafopjjaaGreatDoor.Sa Go.Proofs.YtbdcghbafopjjaaGreatDoorW.PrintWords Go.Proofs.YtbdcghbafopjjaaGreatDoorW.PrintLast Go.Proofs.YtbdcghbafopjjaaGreatDoorW.PrintMore
attribute [local go_sem] max2_int min2_int max_two min_two max_three min_three max_four min_four  
set_option linter.unusedVariables false
set_option linter.unusedSimpArgs false
def errW : Option Int → Value
  | none => .nilIface
  | some c => .iface 0 (.int .i64 c)
theorem errW_none : errW none = .nilIface := rfl
theorem errW_some (c : Int) : errW (some c) = .iface 0 (.int .i64 c) := rfl
end Go.Proofs.YtbdcghbafopjjaaGreatDoor.Sx
end

section
namespace Go.Proofs.YtbdcghbafopjjaaGreatDoor.Sx
open Go.RowKit Go.Proofs.YtbdcghbafopjjaaGreatDoor.K0 Go.Proofs.YtbdcghbafopjjaaGreatDoor.Hand Go.Proofs.YtbdcghbafopjjaaGreatDoor.Sa Go.Proofs.YtbdcghbafopjjaaGreatDoorW.PrintWords Go.Proofs.YtbdcghbafopjjaaGreatDoorW.PrintLast Go.Proofs.YtbdcghbafopjjaaGreatDoorW.PrintMore
attribute [local go_sem] max2_int min2_int max_two min_two max_three min_three max_four min_four  
set_option linter.unusedVariables false
set_option linter.unusedSimpArgs false
def IsS136 (w0 W : World) (g : Nat) (f0 : ByteArray) (f1 : Int) : Prop := W.heap[g]? = some (.cells #[.string f0, .int .i64 f1] 136 (0, 0)) ∧ w0.heap.size ≤ g
theorem IsS136.grown {w0 W : World} {g : Nat} {f0 : ByteArray} {f1 : Int} {W1 : World} {row : Option Nat} (h : IsS136 w0 W g f0 f1) (hw : W.grownBy W1 row) (hne : some g ≠ row) : IsS136 w0 W1 g f0 f1 := by
  obtain ⟨hb, hg⟩ := h
  exact ⟨blk_grown hb hw hne, hg⟩
theorem IsS136.fresh {w0 W : World} {g : Nat} {f0 : ByteArray} {f1 : Int} (h : IsS136 w0 W g f0 f1) : ∀ k, W.heap.size ≤ k → k ≠ g := by
  obtain ⟨hb, hg⟩ := h
  exact Kd.freshB hb
theorem IsS136.kept {w0 W : World} {g : Nat} {f0 : ByteArray} {f1 : Int} {W1 : World} {S : Nat → Prop} (h : IsS136 w0 W g f0 f1) (hk : Kept W W1 S) (hne : ¬ S g) : IsS136 w0 W1 g f0 f1 := by
  obtain ⟨hb, hg⟩ := h
  exact ⟨blk_kept hb hk hne, hg⟩
theorem IsS136.below {w0 W : World} {g : Nat} {f0 : ByteArray} {f1 : Int} {W1 : World} (h : IsS136 w0 W g f0 f1) (hw : Below W.heap.size W W1) : IsS136 w0 W1 g f0 f1 := h.grown (grown_of_below hw none) (by simp)
theorem IsS136.alloc {w0 W : World} {g : Nat} {f0 : ByteArray} {f1 : Int} (h : IsS136 w0 W g f0 f1) (o : Obj) : IsS136 w0 (W.alloc o) g f0 f1 := h.below (below_alloc (Below.refl _ _) o)
theorem IsS136.drewN {w0 W : World} {g : Nat} {f0 : ByteArray} {f1 : Int} (h : IsS136 w0 W g f0 f1) (m : Nat) : IsS136 w0 (W.drewN m) g f0 f1 := h
theorem IsS136.drew {w0 W : World} {g : Nat} {f0 : ByteArray} {f1 : Int} (h : IsS136 w0 W g f0 f1) : IsS136 w0 W.drew g f0 f1 := h
theorem IsS136.at_ {w0 W : World} {g : Nat} {f0 : ByteArray} {f1 : Int} {w' : World} {m : Nat} (hq : W.drewN m = w') (h : IsS136 w0 W g f0 f1) : IsS136 w0 w' g f0 f1 := by subst hq; exact IsS136.drewN h m
theorem IsS136.apart {w0 W : World} {g : Nat} {f0 : ByteArray} {f1 : Int} {α : Type} {d : Kd α} {e : Nat} {base : Nat} {ok : Nat → Prop} {v : Value} {xs : List α} (h : IsS136 w0 W g f0 f1) (ho : d.R e W base ok v xs) (ht : ∀ q, q ∈ e :: d.E → q ≠ 136) : d.R e W base (fun k => ok k ∧ k ≠ g) v xs := by
  obtain ⟨hb, hg⟩ := h
  exact Kd.R_types ho hb ht
theorem IsS136.own_ne {w0 W : World} {g : Nat} {f0 : ByteArray} {f1 : Int} {α : Type} {d : Kd α} {e : Nat} {base : Nat} {ok : Nat → Prop} {v : Value} {xs : List α} (h : IsS136 w0 W g f0 f1) (ho : d.R e W base ok v xs) (ht : e ≠ 136) : some g ≠ v.ownBlock := by
  obtain ⟨hb, hg⟩ := h
  exact Kd.R_ne ho hb ht
theorem IsS136.lt {w0 W : World} {g : Nat} {f0 : ByteArray} {f1 : Int} (h : IsS136 w0 W g f0 f1) : g < W.heap.size := by
  obtain ⟨hb, hg⟩ := h
  exact blk_lt hb
theorem IsS136.ge {w0 W : World} {g : Nat} {f0 : ByteArray} {f1 : Int} (h : IsS136 w0 W g f0 f1) : w0.heap.size ≤ g := by
  obtain ⟨hb, hg⟩ := h
  exact hg
theorem IsS136.far {w0 W : World} {g : Nat} {f0 : ByteArray} {f1 : Int} {p : Addr} (h : IsS136 w0 W g f0 f1) (hne : g ≠ p.block) (u : Value) : IsS136 w0 (W.setCell p u) g f0 f1 := by
  obtain ⟨hb, hg⟩ := h
  exact ⟨blk_far hb hne u, hg⟩
theorem cellS136_0 {W : World} {g : Nat} {f0 : ByteArray} {f1 : Int} (h : W.heap[g]? = some (.cells #[.string f0, .int .i64 f1] 136 (0, 0))) : W.cell? ⟨g, 0, none⟩ = some (.string f0) := (blk_cell h 0).trans rfl
theorem IsS136.set_0 {w0 W : World} {g : Nat} {f0 : ByteArray} {f1 : Int} (h : IsS136 w0 W g f0 f1) (x : ByteArray) : IsS136 w0 (W.setCell ⟨g, 0, none⟩ (.string x)) g x f1 := by
  obtain ⟨hb, hg⟩ := h
  exact ⟨by simpa using blk_set hb 0 (.string x), hg⟩
theorem cellS136_1 {W : World} {g : Nat} {f0 : ByteArray} {f1 : Int} (h : W.heap[g]? = some (.cells #[.string f0, .int .i64 f1] 136 (0, 0))) : W.cell? ⟨g, 1, none⟩ = some (.int .i64 f1) := (blk_cell h 1).trans rfl
theorem IsS136.set_1 {w0 W : World} {g : Nat} {f0 : ByteArray} {f1 : Int} (h : IsS136 w0 W g f0 f1) (x : Int) : IsS136 w0 (W.setCell ⟨g, 1, none⟩ (.int .i64 x)) g f0 x := by
  obtain ⟨hb, hg⟩ := h
  exact ⟨by simpa using blk_set hb 1 (.int .i64 x), hg⟩
theorem IsS136.new (w0 W : World) (f0 : ByteArray) (f1 : Int) (hB : Below w0.heap.size w0 W) : IsS136 w0 (W.alloc (.cells #[.string f0, .int .i64 f1] 136)) W.heap.size f0 f1 := ⟨by simpa using heap_alloc_new W _, hB.size⟩
def attrs_reader_spaces.l0 : Nat → ByteArray → Int → Option (ByteArray × Int)
  | 0, _, _ => none
  | k + 1, x1000, x1001 => if x1001 < (x1000.size : Int) then (if 0 ≤ x1001 then ((sign_Space.f (bt x1000 x1001)).bind fun t101 => (if t101 = true then (attrs_reader_spaces.l0 k x1000 (wrap64 (x1001 + 1))) else (some (x1000, x1001)))) else (none)) else (some (x1000, x1001))
def attrs_reader_spaces.f (k : Nat) (s0_0 : ByteArray) (s0_1 : Int) : Option (ByteArray × Int) := attrs_reader_spaces.l0 k s0_0 s0_1
set_option maxHeartbeats 8000000 in
set_option maxRecDepth 100000 in
theorem attrs_reader_spaces.calls (k : Nat) (g : Nat) (s0_0 : ByteArray) (s0_1 : Int) (r1 : ByteArray) (r2 : Int) (w0 w : World) (hI : IsS136 w0 w g s0_0 s0_1) (hB : Below w0.heap.size w0 w) (h : attrs_reader_spaces.f k s0_0 s0_1 = some (r1, r2)) :
    Calls Tryz.prog 137 #[.pointer (some ⟨g, 0, none⟩)] w fun e w' => e = .returned (.tuple #[]) ∧ IsS136 w0 w' g r1 r2 ∧ Below w0.heap.size w0 w' ∧ KeepBut w w' g none := by
  have HI0 := Aside0.mk hI
  have HK := Aside0.mk (KeepBut.refl w g none)
  have HL := Aside0.mk hB.size
  clear hI
  have HW0 := Aside0.mk hB.size
  have HB := Aside0.mk hB
  clear hB
  have H : (attrs_reader_spaces.l0 k s0_0 s0_1) = some (r1, r2) := h
  clear h
  have H' := Aside0.mk H
  clear H
  go_enter Tryz.func137, Tryz.ntmps137
  go_wp2
  repeat (go_quiet (fail); try go_wp2)
  go_loopg [] k (fun kq w' => ∃ (x1001_1 : Int), Aside0 (attrs_reader_spaces.l0 kq s0_0 x1001_1 = some (r1, r2)) ∧ Aside0 (kq ≤ k) ∧ Aside0 (IsS136 w0 w' g s0_0 x1001_1) ∧ Aside0 (KeepBut w w' g none) ∧ Aside0 (Below w0.heap.size w0 w'))
  case atStart => exact ⟨(s0_1), H', ⟨Nat.le_refl _⟩, ⟨by repeat (first | (with_reducible first | exact HI0.out | apply IsS136.alloc | apply IsS136.drewN | apply IsS136.drew | apply IsS136.set_0 | apply IsS136.set_1) | exact HI0.out)⟩, ⟨by repeat (first | (with_reducible first | exact HK.out | apply KeepBut.set_ | apply keep_drewN | apply keep_drew | apply keep_alloc) | exact HK.out)⟩, ⟨by repeat (first | (with_reducible first | exact HB.out | apply below_alloc | apply pw_below_drewN | apply below_drew1 | refine below_set ?_ (IsS136.ge HI0.out)) | exact HB.out)⟩⟩
  case round =>
    clear H'
    try clear c1
    obtain ⟨x1001_1, HA, HK1, HI0, HK, HB⟩ := hrel
    cases gk with
    | zero => exact absurd HA.out (by simp [attrs_reader_spaces.l0])
    | succ k1 =>
      have H := HA.out
      clear HA
      simp only [attrs_reader_spaces.l0] at H
      by_cases c2 : x1001_1 < (s0_0.size : Int)
      · rw [if_pos c2] at H
        have c2b0 : decide (x1001_1 < (s0_0.size : Int)) = true := decide_eq_true c2
        clear c2
        by_cases c3 : 0 ≤ x1001_1
        · rw [if_pos c3] at H
          have c3b0 : decide (0 ≤ x1001_1) = true := decide_eq_true c3
          clear c3
          replace H := Option.bind_eq_some_iff.mp H
          obtain ⟨t101, A50, H⟩ := H
          replace H : (if t101 = true then (attrs_reader_spaces.l0 k1 s0_0 (wrap64 (x1001_1 + 1))) else (some (s0_0, x1001_1))) = some (r1, r2) := H
          have A5 := Aside0.mk A50
          clear A50
          by_cases c6 : t101 = true
          · subst c6
            have H1 : (attrs_reader_spaces.l0 k1 s0_0 (wrap64 (x1001_1 + 1))) = some (r1, r2) := by rw [if_pos rfl] at H; exact H
            clear H
            have H := H1
            clear H1
            have H' := Aside0.mk H
            clear H
            obtain ⟨HGz7, hgz7⟩ := HI0.out
            have hcz7_0 := cellS136_0 HGz7
            have hcz7_1 := cellS136_1 HGz7
            have hfz7_0 := blk_frozen HGz7 0
            have hfz7_1 := blk_frozen HGz7 1
            clear HGz7 hgz7
            have p4 : 0 ≤ (x1001_1 : Int) := of_decide_eq_true (by first | (with_reducible assumption) | assumption)
            have q4 : x1001_1 < (s0_0.size : Int) := of_decide_eq_true (by first | (with_reducible assumption) | assumption)
            have hx4 := bt_at s0_0 x1001_1
            replace p4 := eq_true p4
            replace q4 := eq_true q4
            go_wp2_with (first | (go_at_call 100; (with_reducible refine (sign_Space.calls (bt s0_0 x1001_1) true _ A5.out).mono ?_); rintro e w' ⟨rfl, ⟨nd, rfl⟩⟩; (try first | exact ⟨rfl, _, World.drewN_drewN _ _ _⟩ | exact ⟨rfl, _, Eq.trans (World.drewN_drewN _ _ _) (congrArg (World.drewN _) (Nat.add_assoc _ _ _))⟩)))
            repeat (go_quiet (first | (go_at_call 100; (with_reducible refine (sign_Space.calls (bt s0_0 x1001_1) true _ A5.out).mono ?_); rintro e w' ⟨rfl, ⟨nd, rfl⟩⟩; (try first | exact ⟨rfl, _, World.drewN_drewN _ _ _⟩ | exact ⟨rfl, _, Eq.trans (World.drewN_drewN _ _ _) (congrArg (World.drewN _) (Nat.add_assoc _ _ _))⟩))); try go_wp2_with (first | (go_at_call 100; (with_reducible refine (sign_Space.calls (bt s0_0 x1001_1) true _ A5.out).mono ?_); rintro e w' ⟨rfl, ⟨nd, rfl⟩⟩; (try first | exact ⟨rfl, _, World.drewN_drewN _ _ _⟩ | exact ⟨rfl, _, Eq.trans (World.drewN_drewN _ _ _) (congrArg (World.drewN _) (Nat.add_assoc _ _ _))⟩))))
            go_roundg k1
            case measure => have := HK1.out; omega
            case rel => exact ⟨(wrap64 (x1001_1 + 1)), H', ⟨by have := HK1.out; omega⟩, ⟨by repeat (first | (with_reducible first | exact HI0.out | apply IsS136.alloc | apply IsS136.drewN | apply IsS136.drew | apply IsS136.set_0 | apply IsS136.set_1) | exact HI0.out)⟩, ⟨by repeat (first | (with_reducible first | exact HK.out | apply KeepBut.set_ | apply keep_drewN | apply keep_drew | apply keep_alloc) | exact HK.out)⟩, ⟨by repeat (first | (with_reducible first | exact HB.out | apply below_alloc | apply pw_below_drewN | apply below_drew1 | refine below_set ?_ (IsS136.ge HI0.out)) | exact HB.out)⟩⟩
          · replace c6 := Bool.eq_false_iff.mpr c6
            subst c6
            have H1 : (some (s0_0, x1001_1)) = some (r1, r2) := by rw [if_neg (show ¬ (false = true) by decide)] at H; exact H
            clear H
            have H := H1
            clear H1
            simp only [Option.some.injEq, Prod.mk.injEq] at H
            obtain ⟨rfl, rfl⟩ := H
            obtain ⟨HGz8, hgz8⟩ := HI0.out
            have hcz8_0 := cellS136_0 HGz8
            have hcz8_1 := cellS136_1 HGz8
            have hfz8_0 := blk_frozen HGz8 0
            have hfz8_1 := blk_frozen HGz8 1
            clear HGz8 hgz8
            have p4 : 0 ≤ (x1001_1 : Int) := of_decide_eq_true (by first | (with_reducible assumption) | assumption)
            have q4 : x1001_1 < (s0_0.size : Int) := of_decide_eq_true (by first | (with_reducible assumption) | assumption)
            have hx4 := bt_at s0_0 x1001_1
            replace p4 := eq_true p4
            replace q4 := eq_true q4
            go_wp2_with (first | (go_at_call 100; (with_reducible refine (sign_Space.calls (bt s0_0 x1001_1) false _ A5.out).mono ?_); rintro e w' ⟨rfl, ⟨nd, rfl⟩⟩; (try first | exact ⟨rfl, _, World.drewN_drewN _ _ _⟩ | exact ⟨rfl, _, Eq.trans (World.drewN_drewN _ _ _) (congrArg (World.drewN _) (Nat.add_assoc _ _ _))⟩)))
            repeat (go_quiet (first | (go_at_call 100; (with_reducible refine (sign_Space.calls (bt s0_0 x1001_1) false _ A5.out).mono ?_); rintro e w' ⟨rfl, ⟨nd, rfl⟩⟩; (try first | exact ⟨rfl, _, World.drewN_drewN _ _ _⟩ | exact ⟨rfl, _, Eq.trans (World.drewN_drewN _ _ _) (congrArg (World.drewN _) (Nat.add_assoc _ _ _))⟩))); try go_wp2_with (first | (go_at_call 100; (with_reducible refine (sign_Space.calls (bt s0_0 x1001_1) false _ A5.out).mono ?_); rintro e w' ⟨rfl, ⟨nd, rfl⟩⟩; (try first | exact ⟨rfl, _, World.drewN_drewN _ _ _⟩ | exact ⟨rfl, _, Eq.trans (World.drewN_drewN _ _ _) (congrArg (World.drewN _) (Nat.add_assoc _ _ _))⟩))))
            first | go_end0 | ((try simp only [Exit.inBlock, Exit.then]); refine bodyPost_ret (results_none rfl _ _ _) rfl ?_)
            exact ⟨by first | rfl | (simp [errW_none, errW_some] <;> rfl) | (simp [*, errW_none, errW_some] <;> rfl), by repeat (first | (with_reducible first | exact HI0.out | apply IsS136.alloc | apply IsS136.drewN | apply IsS136.drew | apply IsS136.set_0 | apply IsS136.set_1) | exact HI0.out), by repeat (first | (with_reducible first | exact HB.out | apply below_alloc | apply pw_below_drewN | apply below_drew1 | refine below_set ?_ (IsS136.ge HI0.out)) | exact HB.out), by repeat (first | (with_reducible first | exact HK.out | apply KeepBut.set_ | apply keep_drewN | apply keep_drew | apply keep_alloc) | exact HK.out)⟩
        · rw [if_neg c3] at H
          exact absurd H (by simp)
      · rw [if_neg c2] at H
        have c2b0 : decide (x1001_1 < (s0_0.size : Int)) = false := decide_eq_false c2
        clear c2
        simp only [Option.some.injEq, Prod.mk.injEq] at H
        obtain ⟨rfl, rfl⟩ := H
        obtain ⟨HGz9, hgz9⟩ := HI0.out
        have hcz9_0 := cellS136_0 HGz9
        have hcz9_1 := cellS136_1 HGz9
        have hfz9_0 := blk_frozen HGz9 0
        have hfz9_1 := blk_frozen HGz9 1
        clear HGz9 hgz9
        go_wp2
        repeat (go_quiet (fail); try go_wp2)
        first | go_end0 | ((try simp only [Exit.inBlock, Exit.then]); refine bodyPost_ret (results_none rfl _ _ _) rfl ?_)
        exact ⟨by first | rfl | (simp [errW_none, errW_some] <;> rfl) | (simp [*, errW_none, errW_some] <;> rfl), by repeat (first | (with_reducible first | exact HI0.out | apply IsS136.alloc | apply IsS136.drewN | apply IsS136.drew | apply IsS136.set_0 | apply IsS136.set_1) | exact HI0.out), by repeat (first | (with_reducible first | exact HB.out | apply below_alloc | apply pw_below_drewN | apply below_drew1 | refine below_set ?_ (IsS136.ge HI0.out)) | exact HB.out), by repeat (first | (with_reducible first | exact HK.out | apply KeepBut.set_ | apply keep_drewN | apply keep_drew | apply keep_alloc) | exact HK.out)⟩
def attrs_reader_is.f (s0_0 : ByteArray) (s0_1 : Int) (a1 : Int) : Option (Bool × ByteArray × Int) := if s0_1 < (s0_0.size : Int) then (if 0 ≤ s0_1 then (some (((bt s0_0 s0_1) == a1), s0_0, s0_1)) else (none)) else (some (false, s0_0, s0_1))
set_option maxHeartbeats 8000000 in
set_option maxRecDepth 100000 in
theorem attrs_reader_is.calls (g : Nat) (s0_0 : ByteArray) (s0_1 : Int) (a1 : Int) (r1 : Bool) (r2 : ByteArray) (r3 : Int) (w0 w : World) (hI : IsS136 w0 w g s0_0 s0_1) (hB : Below w0.heap.size w0 w) (h : attrs_reader_is.f s0_0 s0_1 a1 = some (r1, r2, r3)) :
    Calls Tryz.prog 138 #[.pointer (some ⟨g, 0, none⟩), .int .u8 a1] w fun e w' => e = .returned (.bool r1) ∧ IsS136 w0 w' g r2 r3 ∧ Below w0.heap.size w0 w' ∧ KeepBut w w' g none := by
  have HI0 := Aside0.mk hI
  have HK := Aside0.mk (KeepBut.refl w g none)
  have HL := Aside0.mk hB.size
  clear hI
  have HW0 := Aside0.mk hB.size
  have HB := Aside0.mk hB
  clear hB
  have H : (if s0_1 < (s0_0.size : Int) then (if 0 ≤ s0_1 then (some (((bt s0_0 s0_1) == a1), s0_0, s0_1)) else (none)) else (some (false, s0_0, s0_1))) = some (r1, r2, r3) := h
  clear h
  by_cases c3 : s0_1 < (s0_0.size : Int)
  · rw [if_pos c3] at H
    have c3b0 : decide (s0_1 < (s0_0.size : Int)) = true := decide_eq_true c3
    clear c3
    by_cases c4 : 0 ≤ s0_1
    · rw [if_pos c4] at H
      have c4b0 : decide (0 ≤ s0_1) = true := decide_eq_true c4
      clear c4
      simp only [Option.some.injEq, Prod.mk.injEq] at H
      obtain ⟨rfl, rfl, rfl⟩ := H
      obtain ⟨HGz6, hgz6⟩ := HI0.out
      have hcz6_0 := cellS136_0 HGz6
      have hcz6_1 := cellS136_1 HGz6
      have hfz6_0 := blk_frozen HGz6 0
      have hfz6_1 := blk_frozen HGz6 1
      clear HGz6 hgz6
      have p5 : 0 ≤ (s0_1 : Int) := of_decide_eq_true (by first | (with_reducible assumption) | assumption)
      have q5 : s0_1 < (s0_0.size : Int) := of_decide_eq_true (by first | (with_reducible assumption) | assumption)
      have hx5 := bt_at s0_0 s0_1
      replace p5 := eq_true p5
      replace q5 := eq_true q5
      go_enter Tryz.func138, Tryz.ntmps138
      go_wp2
      repeat (go_quiet (fail); try go_wp2)
      go_ret
      exact ⟨by first | rfl | (simp [errW_none, errW_some] <;> rfl) | (simp [*, errW_none, errW_some] <;> rfl), by repeat (first | (with_reducible first | exact HI0.out | apply IsS136.alloc | apply IsS136.drewN | apply IsS136.drew | apply IsS136.set_0 | apply IsS136.set_1) | exact HI0.out), by repeat (first | (with_reducible first | exact HB.out | apply below_alloc | apply pw_below_drewN | apply below_drew1 | refine below_set ?_ (IsS136.ge HI0.out)) | exact HB.out), by repeat (first | (with_reducible first | exact HK.out | apply KeepBut.set_ | apply keep_drewN | apply keep_drew | apply keep_alloc) | exact HK.out)⟩
    · rw [if_neg c4] at H
      exact absurd H (by simp)
  · rw [if_neg c3] at H
    have c3b0 : decide (s0_1 < (s0_0.size : Int)) = false := decide_eq_false c3
    clear c3
    simp only [Option.some.injEq, Prod.mk.injEq] at H
    obtain ⟨rfl, rfl, rfl⟩ := H
    obtain ⟨HGz7, hgz7⟩ := HI0.out
    have hcz7_0 := cellS136_0 HGz7
    have hcz7_1 := cellS136_1 HGz7
    have hfz7_0 := blk_frozen HGz7 0
    have hfz7_1 := blk_frozen HGz7 1
    clear HGz7 hgz7
    go_enter Tryz.func138, Tryz.ntmps138
    go_wp2
    repeat (go_quiet (fail); try go_wp2)
    go_ret
    exact ⟨by first | rfl | (simp [errW_none, errW_some] <;> rfl) | (simp [*, errW_none, errW_some] <;> rfl), by repeat (first | (with_reducible first | exact HI0.out | apply IsS136.alloc | apply IsS136.drewN | apply IsS136.drew | apply IsS136.set_0 | apply IsS136.set_1) | exact HI0.out), by repeat (first | (with_reducible first | exact HB.out | apply below_alloc | apply pw_below_drewN | apply below_drew1 | refine below_set ?_ (IsS136.ge HI0.out)) | exact HB.out), by repeat (first | (with_reducible first | exact HK.out | apply KeepBut.set_ | apply keep_drewN | apply keep_drew | apply keep_alloc) | exact HK.out)⟩
def attrs_reader_upTo.l0 : Nat → ByteArray → Int → ByteArray → Int → Option (ByteArray × ByteArray × Int)
  | 0, _, _, _, _ => none
  | k + 1, x1, x5, x1000, x1001 => if x1001 < (x1000.size : Int) then (if 0 ≤ x1001 then ((sign_Space.f (bt x1000 x1001)).bind fun t102 => (if t102 = true then (if 0 ≤ x5 then (if x5 ≤ x1001 then (if x1001 ≤ (x1000.size : Int) then (some (x1000.extract (x5 : Int).toNat (x1001 : Int).toNat, x1000, x1001)) else (none)) else (none)) else (none)) else ((strings_IndexByte.f x1 (bt x1000 x1001)).bind fun t103 => (if t103 ≥ 0 then (if 0 ≤ x5 then (if x5 ≤ x1001 then (if x1001 ≤ (x1000.size : Int) then (some (x1000.extract (x5 : Int).toNat (x1001 : Int).toNat, x1000, x1001)) else (none)) else (none)) else (none)) else (attrs_reader_upTo.l0 k x1 x5 x1000 (wrap64 (x1001 + 1))))))) else (none)) else (if 0 ≤ x5 then (if x5 ≤ x1001 then (if x1001 ≤ (x1000.size : Int) then (some (x1000.extract (x5 : Int).toNat (x1001 : Int).toNat, x1000, x1001)) else (none)) else (none)) else (none))
def attrs_reader_upTo.f (k : Nat) (s0_0 : ByteArray) (s0_1 : Int) (a1 : ByteArray) : Option (ByteArray × ByteArray × Int) := attrs_reader_upTo.l0 k a1 s0_1 s0_0 (wrap64 (s0_1 + 1))
set_option maxHeartbeats 8000000 in
set_option maxRecDepth 100000 in
theorem attrs_reader_upTo.calls (k : Nat) (g : Nat) (s0_0 : ByteArray) (s0_1 : Int) (a1 : ByteArray) (r1 : ByteArray) (r2 : ByteArray) (r3 : Int) (w0 w : World) (hI : IsS136 w0 w g s0_0 s0_1) (hB : Below w0.heap.size w0 w) (h : attrs_reader_upTo.f k s0_0 s0_1 a1 = some (r1, r2, r3)) :
    Calls Tryz.prog 139 #[.pointer (some ⟨g, 0, none⟩), .string a1] w fun e w' => e = .returned (.string r1) ∧ IsS136 w0 w' g r2 r3 ∧ Below w0.heap.size w0 w' ∧ KeepBut w w' g none := by
  have HI0 := Aside0.mk hI
  have HK := Aside0.mk (KeepBut.refl w g none)
  have HL := Aside0.mk hB.size
  clear hI
  have HW0 := Aside0.mk hB.size
  have HB := Aside0.mk hB
  clear hB
  have H : (attrs_reader_upTo.l0 k a1 s0_1 s0_0 (wrap64 (s0_1 + 1))) = some (r1, r2, r3) := h
  clear h
  have H' := Aside0.mk H
  clear H
  obtain ⟨HGz3, hgz3⟩ := HI0.out
  have hcz3_0 := cellS136_0 HGz3
  have hcz3_1 := cellS136_1 HGz3
  have hfz3_0 := blk_frozen HGz3 0
  have hfz3_1 := blk_frozen HGz3 1
  clear HGz3 hgz3
  go_enter Tryz.func139, Tryz.ntmps139
  go_wp2
  repeat (go_quiet (fail); try go_wp2)
  go_loopg [] k (fun kq w' => ∃ (x1001_1 : Int), Aside0 (attrs_reader_upTo.l0 kq a1 s0_1 s0_0 x1001_1 = some (r1, r2, r3)) ∧ Aside0 (kq ≤ k) ∧ Aside0 (IsS136 w0 w' g s0_0 x1001_1) ∧ Aside0 (KeepBut w w' g none) ∧ Aside0 (Below w0.heap.size w0 w'))
  case atStart => exact ⟨(wrap64 (s0_1 + 1)), H', ⟨Nat.le_refl _⟩, ⟨by repeat (first | (with_reducible first | exact HI0.out | apply IsS136.alloc | apply IsS136.drewN | apply IsS136.drew | apply IsS136.set_0 | apply IsS136.set_1) | exact HI0.out)⟩, ⟨by repeat (first | (with_reducible first | exact HK.out | apply KeepBut.set_ | apply keep_drewN | apply keep_drew | apply keep_alloc) | exact HK.out)⟩, ⟨by repeat (first | (with_reducible first | exact HB.out | apply below_alloc | apply pw_below_drewN | apply below_drew1 | refine below_set ?_ (IsS136.ge HI0.out)) | exact HB.out)⟩⟩
  case round =>
    clear H'
    try clear c1
    try clear p2
    try clear hcz3_0
    try clear hcz3_1
    try clear hfz3_0
    try clear hfz3_1
    obtain ⟨x1001_1, HA, HK1, HI0, HK, HB⟩ := hrel
    cases gk with
    | zero => exact absurd HA.out (by simp [attrs_reader_upTo.l0])
    | succ k1 =>
      have H := HA.out
      clear HA
      simp only [attrs_reader_upTo.l0] at H
      by_cases c4 : x1001_1 < (s0_0.size : Int)
      · rw [if_pos c4] at H
        have c4b0 : decide (x1001_1 < (s0_0.size : Int)) = true := decide_eq_true c4
        clear c4
        by_cases c5 : 0 ≤ x1001_1
        · rw [if_pos c5] at H
          have c5b0 : decide (0 ≤ x1001_1) = true := decide_eq_true c5
          clear c5
          replace H := Option.bind_eq_some_iff.mp H
          obtain ⟨t102, A70, H⟩ := H
          replace H : (if t102 = true then (if 0 ≤ s0_1 then (if s0_1 ≤ x1001_1 then (if x1001_1 ≤ (s0_0.size : Int) then (some (s0_0.extract (s0_1 : Int).toNat (x1001_1 : Int).toNat, s0_0, x1001_1)) else (none)) else (none)) else (none)) else ((strings_IndexByte.f a1 (bt s0_0 x1001_1)).bind fun t103 => (if t103 ≥ 0 then (if 0 ≤ s0_1 then (if s0_1 ≤ x1001_1 then (if x1001_1 ≤ (s0_0.size : Int) then (some (s0_0.extract (s0_1 : Int).toNat (x1001_1 : Int).toNat, s0_0, x1001_1)) else (none)) else (none)) else (none)) else (attrs_reader_upTo.l0 k1 a1 s0_1 s0_0 (wrap64 (x1001_1 + 1)))))) = some (r1, r2, r3) := H
          have A7 := Aside0.mk A70
          clear A70
          by_cases c8 : t102 = true
          · subst c8
            have H1 : (if 0 ≤ s0_1 then (if s0_1 ≤ x1001_1 then (if x1001_1 ≤ (s0_0.size : Int) then (some (s0_0.extract (s0_1 : Int).toNat (x1001_1 : Int).toNat, s0_0, x1001_1)) else (none)) else (none)) else (none)) = some (r1, r2, r3) := by rw [if_pos rfl] at H; exact H
            clear H
            have H := H1
            clear H1
            by_cases c9 : 0 ≤ s0_1
            · rw [if_pos c9] at H
              have c9b0 := eq_true c9
              have c9b1 : decide (0 ≤ s0_1) = true := decide_eq_true c9
              clear c9
              by_cases c10 : s0_1 ≤ x1001_1
              · rw [if_pos c10] at H
                have c10b0 := eq_true c10
                have c10b1 : decide (s0_1 ≤ x1001_1) = true := decide_eq_true c10
                clear c10
                by_cases c11 : x1001_1 ≤ (s0_0.size : Int)
                · rw [if_pos c11] at H
                  have c11b0 := eq_true c11
                  have c11b1 : decide (x1001_1 ≤ (s0_0.size : Int)) = true := decide_eq_true c11
                  clear c11
                  simp only [Option.some.injEq, Prod.mk.injEq] at H
                  obtain ⟨rfl, rfl, rfl⟩ := H
                  obtain ⟨HGz12, hgz12⟩ := HI0.out
                  have hcz12_0 := cellS136_0 HGz12
                  have hcz12_1 := cellS136_1 HGz12
                  have hfz12_0 := blk_frozen HGz12 0
                  have hfz12_1 := blk_frozen HGz12 1
                  clear HGz12 hgz12
                  have p6 : 0 ≤ (x1001_1 : Int) := of_decide_eq_true (by first | (with_reducible assumption) | assumption)
                  have q6 : x1001_1 < (s0_0.size : Int) := of_decide_eq_true (by first | (with_reducible assumption) | assumption)
                  have hx6 := bt_at s0_0 x1001_1
                  replace p6 := eq_true p6
                  replace q6 := eq_true q6
                  go_wp2_with (first | (go_at_call 100; (with_reducible refine (sign_Space.calls (bt s0_0 x1001_1) true _ A7.out).mono ?_); rintro e w' ⟨rfl, ⟨nd, rfl⟩⟩; (try first | exact ⟨rfl, _, World.drewN_drewN _ _ _⟩ | exact ⟨rfl, _, Eq.trans (World.drewN_drewN _ _ _) (congrArg (World.drewN _) (Nat.add_assoc _ _ _))⟩)))
                  repeat (go_quiet (first | (go_at_call 100; (with_reducible refine (sign_Space.calls (bt s0_0 x1001_1) true _ A7.out).mono ?_); rintro e w' ⟨rfl, ⟨nd, rfl⟩⟩; (try first | exact ⟨rfl, _, World.drewN_drewN _ _ _⟩ | exact ⟨rfl, _, Eq.trans (World.drewN_drewN _ _ _) (congrArg (World.drewN _) (Nat.add_assoc _ _ _))⟩))); try go_wp2_with (first | (go_at_call 100; (with_reducible refine (sign_Space.calls (bt s0_0 x1001_1) true _ A7.out).mono ?_); rintro e w' ⟨rfl, ⟨nd, rfl⟩⟩; (try first | exact ⟨rfl, _, World.drewN_drewN _ _ _⟩ | exact ⟨rfl, _, Eq.trans (World.drewN_drewN _ _ _) (congrArg (World.drewN _) (Nat.add_assoc _ _ _))⟩))))
                  go_ret
                  exact ⟨by first | rfl | (simp [errW_none, errW_some] <;> rfl) | (simp [*, errW_none, errW_some] <;> rfl), by repeat (first | (with_reducible first | exact HI0.out | apply IsS136.alloc | apply IsS136.drewN | apply IsS136.drew | apply IsS136.set_0 | apply IsS136.set_1) | exact HI0.out), by repeat (first | (with_reducible first | exact HB.out | apply below_alloc | apply pw_below_drewN | apply below_drew1 | refine below_set ?_ (IsS136.ge HI0.out)) | exact HB.out), by repeat (first | (with_reducible first | exact HK.out | apply KeepBut.set_ | apply keep_drewN | apply keep_drew | apply keep_alloc) | exact HK.out)⟩
                · rw [if_neg c11] at H
                  exact absurd H (by simp)
              · rw [if_neg c10] at H
                exact absurd H (by simp)
            · rw [if_neg c9] at H
              exact absurd H (by simp)
          · replace c8 := Bool.eq_false_iff.mpr c8
            subst c8
            have H1 : ((strings_IndexByte.f a1 (bt s0_0 x1001_1)).bind fun t103 => (if t103 ≥ 0 then (if 0 ≤ s0_1 then (if s0_1 ≤ x1001_1 then (if x1001_1 ≤ (s0_0.size : Int) then (some (s0_0.extract (s0_1 : Int).toNat (x1001_1 : Int).toNat, s0_0, x1001_1)) else (none)) else (none)) else (none)) else (attrs_reader_upTo.l0 k1 a1 s0_1 s0_0 (wrap64 (x1001_1 + 1))))) = some (r1, r2, r3) := by rw [if_neg (show ¬ (false = true) by decide)] at H; exact H
            clear H
            have H := H1
            clear H1
            replace H := Option.bind_eq_some_iff.mp H
            obtain ⟨t103, A130, H⟩ := H
            replace H : (if t103 ≥ 0 then (if 0 ≤ s0_1 then (if s0_1 ≤ x1001_1 then (if x1001_1 ≤ (s0_0.size : Int) then (some (s0_0.extract (s0_1 : Int).toNat (x1001_1 : Int).toNat, s0_0, x1001_1)) else (none)) else (none)) else (none)) else (attrs_reader_upTo.l0 k1 a1 s0_1 s0_0 (wrap64 (x1001_1 + 1)))) = some (r1, r2, r3) := H
            have A13 := Aside0.mk A130
            clear A130
            by_cases c14 : t103 ≥ 0
            · rw [if_pos c14] at H
              have c14b0 : decide (0 ≤ t103) = true := decide_eq_true c14
              clear c14
              by_cases c15 : 0 ≤ s0_1
              · rw [if_pos c15] at H
                have c15b0 := eq_true c15
                have c15b1 : decide (0 ≤ s0_1) = true := decide_eq_true c15
                clear c15
                by_cases c16 : s0_1 ≤ x1001_1
                · rw [if_pos c16] at H
                  have c16b0 := eq_true c16
                  have c16b1 : decide (s0_1 ≤ x1001_1) = true := decide_eq_true c16
                  clear c16
                  by_cases c17 : x1001_1 ≤ (s0_0.size : Int)
                  · rw [if_pos c17] at H
                    have c17b0 := eq_true c17
                    have c17b1 : decide (x1001_1 ≤ (s0_0.size : Int)) = true := decide_eq_true c17
                    clear c17
                    simp only [Option.some.injEq, Prod.mk.injEq] at H
                    obtain ⟨rfl, rfl, rfl⟩ := H
                    obtain ⟨HGz18, hgz18⟩ := HI0.out
                    have hcz18_0 := cellS136_0 HGz18
                    have hcz18_1 := cellS136_1 HGz18
                    have hfz18_0 := blk_frozen HGz18 0
                    have hfz18_1 := blk_frozen HGz18 1
                    clear HGz18 hgz18
                    have p6 : 0 ≤ (x1001_1 : Int) := of_decide_eq_true (by first | (with_reducible assumption) | assumption)
                    have q6 : x1001_1 < (s0_0.size : Int) := of_decide_eq_true (by first | (with_reducible assumption) | assumption)
                    have hx6 := bt_at s0_0 x1001_1
                    replace p6 := eq_true p6
                    replace q6 := eq_true q6
                    go_wp2_with (first | (go_at_call 100; (with_reducible refine (sign_Space.calls (bt s0_0 x1001_1) false _ A7.out).mono ?_); rintro e w' ⟨rfl, ⟨nd, rfl⟩⟩; (try first | exact ⟨rfl, _, World.drewN_drewN _ _ _⟩ | exact ⟨rfl, _, Eq.trans (World.drewN_drewN _ _ _) (congrArg (World.drewN _) (Nat.add_assoc _ _ _))⟩)) | (go_at_call 30; (with_reducible refine (strings_IndexByte.calls a1 (bt s0_0 x1001_1) t103 _ A13.out).mono ?_); rintro e w19 ⟨rfl, hb⟩; have n0_ := Aside0.mk (IsS136.below (by repeat (first | (with_reducible first | exact HI0.out | apply IsS136.alloc | apply IsS136.drewN | apply IsS136.drew | apply IsS136.set_0 | apply IsS136.set_1) | exact HI0.out)) hb); have n1_ := Aside0.mk (KeepBut.trans (by repeat (first | (with_reducible first | exact HK.out | apply KeepBut.set_ | apply keep_drewN | apply keep_drew | apply keep_alloc) | exact HK.out)) (KeepBut.of_below hb g none) (.inl rfl)); have n2_ := Aside0.mk (below_step (by repeat (first | (with_reducible first | exact HB.out | apply below_alloc | apply pw_below_drewN | apply below_drew1 | refine below_set ?_ (IsS136.ge HI0.out)) | exact HB.out)) hb); clear HI0; clear HK; clear HB; have HI0 := n0_; have HK := n1_; have HB := n2_; clear n0_ n1_ n2_; (try clear hb); (try clear hb2); (try clear hk); (try clear hi); obtain ⟨HGz20, hgz20⟩ := HI0.out; have hcz20_0 := cellS136_0 HGz20; have hcz20_1 := cellS136_1 HGz20; have hfz20_0 := blk_frozen HGz20 0; have hfz20_1 := blk_frozen HGz20 1; clear HGz20 hgz20))
                    repeat (go_quiet (first | (go_at_call 100; (with_reducible refine (sign_Space.calls (bt s0_0 x1001_1) false _ A7.out).mono ?_); rintro e w' ⟨rfl, ⟨nd, rfl⟩⟩; (try first | exact ⟨rfl, _, World.drewN_drewN _ _ _⟩ | exact ⟨rfl, _, Eq.trans (World.drewN_drewN _ _ _) (congrArg (World.drewN _) (Nat.add_assoc _ _ _))⟩)) | (go_at_call 30; (with_reducible refine (strings_IndexByte.calls a1 (bt s0_0 x1001_1) t103 _ A13.out).mono ?_); rintro e w19 ⟨rfl, hb⟩; have n0_ := Aside0.mk (IsS136.below (by repeat (first | (with_reducible first | exact HI0.out | apply IsS136.alloc | apply IsS136.drewN | apply IsS136.drew | apply IsS136.set_0 | apply IsS136.set_1) | exact HI0.out)) hb); have n1_ := Aside0.mk (KeepBut.trans (by repeat (first | (with_reducible first | exact HK.out | apply KeepBut.set_ | apply keep_drewN | apply keep_drew | apply keep_alloc) | exact HK.out)) (KeepBut.of_below hb g none) (.inl rfl)); have n2_ := Aside0.mk (below_step (by repeat (first | (with_reducible first | exact HB.out | apply below_alloc | apply pw_below_drewN | apply below_drew1 | refine below_set ?_ (IsS136.ge HI0.out)) | exact HB.out)) hb); clear HI0; clear HK; clear HB; have HI0 := n0_; have HK := n1_; have HB := n2_; clear n0_ n1_ n2_; (try clear hb); (try clear hb2); (try clear hk); (try clear hi); obtain ⟨HGz20, hgz20⟩ := HI0.out; have hcz20_0 := cellS136_0 HGz20; have hcz20_1 := cellS136_1 HGz20; have hfz20_0 := blk_frozen HGz20 0; have hfz20_1 := blk_frozen HGz20 1; clear HGz20 hgz20)); try go_wp2_with (first | (go_at_call 100; (with_reducible refine (sign_Space.calls (bt s0_0 x1001_1) false _ A7.out).mono ?_); rintro e w' ⟨rfl, ⟨nd, rfl⟩⟩; (try first | exact ⟨rfl, _, World.drewN_drewN _ _ _⟩ | exact ⟨rfl, _, Eq.trans (World.drewN_drewN _ _ _) (congrArg (World.drewN _) (Nat.add_assoc _ _ _))⟩)) | (go_at_call 30; (with_reducible refine (strings_IndexByte.calls a1 (bt s0_0 x1001_1) t103 _ A13.out).mono ?_); rintro e w19 ⟨rfl, hb⟩; have n0_ := Aside0.mk (IsS136.below (by repeat (first | (with_reducible first | exact HI0.out | apply IsS136.alloc | apply IsS136.drewN | apply IsS136.drew | apply IsS136.set_0 | apply IsS136.set_1) | exact HI0.out)) hb); have n1_ := Aside0.mk (KeepBut.trans (by repeat (first | (with_reducible first | exact HK.out | apply KeepBut.set_ | apply keep_drewN | apply keep_drew | apply keep_alloc) | exact HK.out)) (KeepBut.of_below hb g none) (.inl rfl)); have n2_ := Aside0.mk (below_step (by repeat (first | (with_reducible first | exact HB.out | apply below_alloc | apply pw_below_drewN | apply below_drew1 | refine below_set ?_ (IsS136.ge HI0.out)) | exact HB.out)) hb); clear HI0; clear HK; clear HB; have HI0 := n0_; have HK := n1_; have HB := n2_; clear n0_ n1_ n2_; (try clear hb); (try clear hb2); (try clear hk); (try clear hi); obtain ⟨HGz20, hgz20⟩ := HI0.out; have hcz20_0 := cellS136_0 HGz20; have hcz20_1 := cellS136_1 HGz20; have hfz20_0 := blk_frozen HGz20 0; have hfz20_1 := blk_frozen HGz20 1; clear HGz20 hgz20)))
                    go_ret
                    exact ⟨by first | rfl | (simp [errW_none, errW_some] <;> rfl) | (simp [*, errW_none, errW_some] <;> rfl), by repeat (first | (with_reducible first | exact HI0.out | apply IsS136.alloc | apply IsS136.drewN | apply IsS136.drew | apply IsS136.set_0 | apply IsS136.set_1) | exact HI0.out), by repeat (first | (with_reducible first | exact HB.out | apply below_alloc | apply pw_below_drewN | apply below_drew1 | refine below_set ?_ (IsS136.ge HI0.out)) | exact HB.out), by repeat (first | (with_reducible first | exact HK.out | apply KeepBut.set_ | apply keep_drewN | apply keep_drew | apply keep_alloc) | exact HK.out)⟩
                  · rw [if_neg c17] at H
                    exact absurd H (by simp)
                · rw [if_neg c16] at H
                  exact absurd H (by simp)
              · rw [if_neg c15] at H
                exact absurd H (by simp)
            · rw [if_neg c14] at H
              have c14b0 : decide (0 ≤ t103) = false := decide_eq_false c14
              clear c14
              have H' := Aside0.mk H
              clear H
              obtain ⟨HGz21, hgz21⟩ := HI0.out
              have hcz21_0 := cellS136_0 HGz21
              have hcz21_1 := cellS136_1 HGz21
              have hfz21_0 := blk_frozen HGz21 0
              have hfz21_1 := blk_frozen HGz21 1
              clear HGz21 hgz21
              have p6 : 0 ≤ (x1001_1 : Int) := of_decide_eq_true (by first | (with_reducible assumption) | assumption)
              have q6 : x1001_1 < (s0_0.size : Int) := of_decide_eq_true (by first | (with_reducible assumption) | assumption)
              have hx6 := bt_at s0_0 x1001_1
              replace p6 := eq_true p6
              replace q6 := eq_true q6
              go_wp2_with (first | (go_at_call 100; (with_reducible refine (sign_Space.calls (bt s0_0 x1001_1) false _ A7.out).mono ?_); rintro e w' ⟨rfl, ⟨nd, rfl⟩⟩; (try first | exact ⟨rfl, _, World.drewN_drewN _ _ _⟩ | exact ⟨rfl, _, Eq.trans (World.drewN_drewN _ _ _) (congrArg (World.drewN _) (Nat.add_assoc _ _ _))⟩)) | (go_at_call 30; (with_reducible refine (strings_IndexByte.calls a1 (bt s0_0 x1001_1) t103 _ A13.out).mono ?_); rintro e w22 ⟨rfl, hb⟩; have n0_ := Aside0.mk (IsS136.below (by repeat (first | (with_reducible first | exact HI0.out | apply IsS136.alloc | apply IsS136.drewN | apply IsS136.drew | apply IsS136.set_0 | apply IsS136.set_1) | exact HI0.out)) hb); have n1_ := Aside0.mk (KeepBut.trans (by repeat (first | (with_reducible first | exact HK.out | apply KeepBut.set_ | apply keep_drewN | apply keep_drew | apply keep_alloc) | exact HK.out)) (KeepBut.of_below hb g none) (.inl rfl)); have n2_ := Aside0.mk (below_step (by repeat (first | (with_reducible first | exact HB.out | apply below_alloc | apply pw_below_drewN | apply below_drew1 | refine below_set ?_ (IsS136.ge HI0.out)) | exact HB.out)) hb); clear HI0; clear HK; clear HB; have HI0 := n0_; have HK := n1_; have HB := n2_; clear n0_ n1_ n2_; (try clear hb); (try clear hb2); (try clear hk); (try clear hi); obtain ⟨HGz23, hgz23⟩ := HI0.out; have hcz23_0 := cellS136_0 HGz23; have hcz23_1 := cellS136_1 HGz23; have hfz23_0 := blk_frozen HGz23 0; have hfz23_1 := blk_frozen HGz23 1; clear HGz23 hgz23))
              repeat (go_quiet (first | (go_at_call 100; (with_reducible refine (sign_Space.calls (bt s0_0 x1001_1) false _ A7.out).mono ?_); rintro e w' ⟨rfl, ⟨nd, rfl⟩⟩; (try first | exact ⟨rfl, _, World.drewN_drewN _ _ _⟩ | exact ⟨rfl, _, Eq.trans (World.drewN_drewN _ _ _) (congrArg (World.drewN _) (Nat.add_assoc _ _ _))⟩)) | (go_at_call 30; (with_reducible refine (strings_IndexByte.calls a1 (bt s0_0 x1001_1) t103 _ A13.out).mono ?_); rintro e w22 ⟨rfl, hb⟩; have n0_ := Aside0.mk (IsS136.below (by repeat (first | (with_reducible first | exact HI0.out | apply IsS136.alloc | apply IsS136.drewN | apply IsS136.drew | apply IsS136.set_0 | apply IsS136.set_1) | exact HI0.out)) hb); have n1_ := Aside0.mk (KeepBut.trans (by repeat (first | (with_reducible first | exact HK.out | apply KeepBut.set_ | apply keep_drewN | apply keep_drew | apply keep_alloc) | exact HK.out)) (KeepBut.of_below hb g none) (.inl rfl)); have n2_ := Aside0.mk (below_step (by repeat (first | (with_reducible first | exact HB.out | apply below_alloc | apply pw_below_drewN | apply below_drew1 | refine below_set ?_ (IsS136.ge HI0.out)) | exact HB.out)) hb); clear HI0; clear HK; clear HB; have HI0 := n0_; have HK := n1_; have HB := n2_; clear n0_ n1_ n2_; (try clear hb); (try clear hb2); (try clear hk); (try clear hi); obtain ⟨HGz23, hgz23⟩ := HI0.out; have hcz23_0 := cellS136_0 HGz23; have hcz23_1 := cellS136_1 HGz23; have hfz23_0 := blk_frozen HGz23 0; have hfz23_1 := blk_frozen HGz23 1; clear HGz23 hgz23)); try go_wp2_with (first | (go_at_call 100; (with_reducible refine (sign_Space.calls (bt s0_0 x1001_1) false _ A7.out).mono ?_); rintro e w' ⟨rfl, ⟨nd, rfl⟩⟩; (try first | exact ⟨rfl, _, World.drewN_drewN _ _ _⟩ | exact ⟨rfl, _, Eq.trans (World.drewN_drewN _ _ _) (congrArg (World.drewN _) (Nat.add_assoc _ _ _))⟩)) | (go_at_call 30; (with_reducible refine (strings_IndexByte.calls a1 (bt s0_0 x1001_1) t103 _ A13.out).mono ?_); rintro e w22 ⟨rfl, hb⟩; have n0_ := Aside0.mk (IsS136.below (by repeat (first | (with_reducible first | exact HI0.out | apply IsS136.alloc | apply IsS136.drewN | apply IsS136.drew | apply IsS136.set_0 | apply IsS136.set_1) | exact HI0.out)) hb); have n1_ := Aside0.mk (KeepBut.trans (by repeat (first | (with_reducible first | exact HK.out | apply KeepBut.set_ | apply keep_drewN | apply keep_drew | apply keep_alloc) | exact HK.out)) (KeepBut.of_below hb g none) (.inl rfl)); have n2_ := Aside0.mk (below_step (by repeat (first | (with_reducible first | exact HB.out | apply below_alloc | apply pw_below_drewN | apply below_drew1 | refine below_set ?_ (IsS136.ge HI0.out)) | exact HB.out)) hb); clear HI0; clear HK; clear HB; have HI0 := n0_; have HK := n1_; have HB := n2_; clear n0_ n1_ n2_; (try clear hb); (try clear hb2); (try clear hk); (try clear hi); obtain ⟨HGz23, hgz23⟩ := HI0.out; have hcz23_0 := cellS136_0 HGz23; have hcz23_1 := cellS136_1 HGz23; have hfz23_0 := blk_frozen HGz23 0; have hfz23_1 := blk_frozen HGz23 1; clear HGz23 hgz23)))
              go_roundg k1
              case measure => have := HK1.out; omega
              case rel => exact ⟨(wrap64 (x1001_1 + 1)), H', ⟨by have := HK1.out; omega⟩, ⟨by repeat (first | (with_reducible first | exact HI0.out | apply IsS136.alloc | apply IsS136.drewN | apply IsS136.drew | apply IsS136.set_0 | apply IsS136.set_1) | exact HI0.out)⟩, ⟨by repeat (first | (with_reducible first | exact HK.out | apply KeepBut.set_ | apply keep_drewN | apply keep_drew | apply keep_alloc) | exact HK.out)⟩, ⟨by repeat (first | (with_reducible first | exact HB.out | apply below_alloc | apply pw_below_drewN | apply below_drew1 | refine below_set ?_ (IsS136.ge HI0.out)) | exact HB.out)⟩⟩
        · rw [if_neg c5] at H
          exact absurd H (by simp)
      · rw [if_neg c4] at H
        have c4b0 : decide (x1001_1 < (s0_0.size : Int)) = false := decide_eq_false c4
        clear c4
        by_cases c24 : 0 ≤ s0_1
        · rw [if_pos c24] at H
          have c24b0 := eq_true c24
          have c24b1 : decide (0 ≤ s0_1) = true := decide_eq_true c24
          clear c24
          by_cases c25 : s0_1 ≤ x1001_1
          · rw [if_pos c25] at H
            have c25b0 := eq_true c25
            have c25b1 : decide (s0_1 ≤ x1001_1) = true := decide_eq_true c25
            clear c25
            by_cases c26 : x1001_1 ≤ (s0_0.size : Int)
            · rw [if_pos c26] at H
              have c26b0 := eq_true c26
              have c26b1 : decide (x1001_1 ≤ (s0_0.size : Int)) = true := decide_eq_true c26
              clear c26
              simp only [Option.some.injEq, Prod.mk.injEq] at H
              obtain ⟨rfl, rfl, rfl⟩ := H
              obtain ⟨HGz27, hgz27⟩ := HI0.out
              have hcz27_0 := cellS136_0 HGz27
              have hcz27_1 := cellS136_1 HGz27
              have hfz27_0 := blk_frozen HGz27 0
              have hfz27_1 := blk_frozen HGz27 1
              clear HGz27 hgz27
              go_wp2
              repeat (go_quiet (fail); try go_wp2)
              go_ret
              exact ⟨by first | rfl | (simp [errW_none, errW_some] <;> rfl) | (simp [*, errW_none, errW_some] <;> rfl), by repeat (first | (with_reducible first | exact HI0.out | apply IsS136.alloc | apply IsS136.drewN | apply IsS136.drew | apply IsS136.set_0 | apply IsS136.set_1) | exact HI0.out), by repeat (first | (with_reducible first | exact HB.out | apply below_alloc | apply pw_below_drewN | apply below_drew1 | refine below_set ?_ (IsS136.ge HI0.out)) | exact HB.out), by repeat (first | (with_reducible first | exact HK.out | apply KeepBut.set_ | apply keep_drewN | apply keep_drew | apply keep_alloc) | exact HK.out)⟩
            · rw [if_neg c26] at H
              exact absurd H (by simp)
          · rw [if_neg c25] at H
            exact absurd H (by simp)
        · rw [if_neg c24] at H
          exact absurd H (by simp)
end Go.Proofs.YtbdcghbafopjjaaGreatDoor.Sx
end
