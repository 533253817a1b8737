/-
  Hand walks: the library's generic Replacer looks a word up.
-/
import Derived.Test.YtajfpegacbohdaaDoorHaRp4
import Derived.LoopN
namespace Go.Proofs.YtajfpegacbohdaaDoor.Hand
open Go.RowKit Go.Proofs.YtajfpegacbohdaaDoor.Pb

theorem hasPrefix_t (s p : ByteArray) (w : World) : Calls Tryd.prog 29 #[.string s, .string p] w fun e w' => e = .returned (.bool (Lib.hasPrefix s.data.toList p.data.toList)) ∧ w = w' := by
  refine (Tryd.strings_HasPrefix s p w).mono ?_
  rintro e w' h
  exact ⟨h.1, h.2.symm⟩
set_option maxRecDepth 100000 in
set_option maxHeartbeats 4000000 in
theorem lookup_leaf (br bt ts m b : Nat) (R T : Nat → Value) (a : ByteArray) (v : ByteArray) (p : Int) (w : World) (h0 : 0 < a.size) (hz : a.size ≤ 1000000)
    (hR : BlkF br 262 R w) (hT : BlkF bt ts T w) (hts : ts ≤ 1000) (hm : m < ts) (hp : 0 < p)
    (r1 : R 1 = .int .i64 0) (r4 : R 4 = .slice (some ⟨bt, 0, none⟩) ts ts) (r5 : R 5 = .int .i64 (ts : Int)) (rm : R (6 + a[0].toNat) = .int .u8 (m : Int)) (tm : T m = .pointer (some ⟨b, 0, none⟩)) (hB : Blk b (nodeV v p) w) :
    Calls Tryd.prog 133 #[.pointer (some ⟨br, 0, none⟩), .string a, .bool false] w fun e w' => e = .returned (.tuple #[.string v, .int .i64 1, .bool true]) ∧ ∃ k, w' = w.drewN k := by
  have c1 := hR.cell 1 (by omega)
  have c4 := hR.cell 4 (by omega)
  have c5 := hR.cell 5 (by omega)
  have cm := hR.cell (6 + a[0].toNat) (by have := a[0].toNat_lt; omega)
  have tc := hT.cell m hm
  rw [r1] at c1
  rw [r4] at c4
  rw [r5] at c5
  rw [rm] at cm
  rw [tm] at tc
  have n0 := hB.cell 0 (by simp [nodeV])
  have n1 := hB.cell 1 (by simp [nodeV])
  have n2 := hB.cell 2 (by simp [nodeV])
  have n4 := hB.cell 4 (by simp [nodeV])
  simp only [nodeV, List.getElem?_toArray, List.getElem?_cons_succ, List.getElem?_cons_zero] at n0 n1 n2 n4
  have hk : a.toList.isEmpty = false := by
    rw [toList_data]
    cases h : a.data.toList with
    | nil => have := congrArg List.length h; rw [Array.length_toList] at this; have : a.size = 0 := this; omega
    | cons c r => rfl
  have hk' : ¬ a.toList = [] := by simpa using hk
  have hb0 : (0 : Int) ≤ (a[0].toNat : Int) := by omega
  have hb1 : (a[0].toNat : Int) < 256 := by have := a[0].toNat_lt; omega
  have hb2 : a[0].toNat < 256 := by have := a[0].toNat_lt; omega
  have hb4 : (1 : Int) ≤ (a.size : Int) := by omega
  have hne : ((m : Int) == (ts : Int)) = false := by rw [beq_eq_false_iff_ne]; omega
  have hp1 : decide ((0 : Int) < p) = true := by simp; omega
  have hm0 : (0 : Int) ≤ (m : Int) := by omega
  have hm1 : (m : Int) < (ts : Int) := by omega
  obtain ⟨a2, ha2⟩ : ∃ x, a.extract 1 a.size = x := ⟨_, rfl⟩
  clear r1 r4 r5 rm tm hR hT hB
  go_enter Tryd.func133, Tryd.ntmps133
  go_wp2_with fail
  refine wp_loop_rounds 2 ?_
  rw [rounds_succ]
  go_wp2_with fail
  go_quiet (fail)
  go_wp2_with fail
  rw [rounds_succ]
  go_wp2_with fail
  all_goals
    go_ret3
    exact ⟨rfl, nq, rfl⟩
set_option maxRecDepth 100000 in
set_option maxHeartbeats 4000000 in
theorem lookup_tail (br bt ts m b : Nat) (R T : Nat → Value) (a : ByteArray) (v tl : ByteArray) (p : Int) (w : World) (h0 : 0 < a.size) (hz : a.size ≤ 1000000)
    (hR : BlkF br 262 R w) (hT : BlkF bt ts T w) (hts : ts ≤ 1000) (hm : m < ts) (hp : 0 < p)
    (r1 : R 1 = .int .i64 0) (r4 : R 4 = .slice (some ⟨bt, 0, none⟩) ts ts) (r5 : R 5 = .int .i64 (ts : Int)) (rm : R (6 + a[0].toNat) = .int .u8 (m : Int)) (tm : T m = .pointer (some ⟨b, 0, none⟩)) (b2 : Nat) (htl : ¬ tl.toList = []) (htz : tl.size ≤ 1000) (hB : Blk b (nodeP tl b2) w) (hB2 : Blk b2 (nodeV v p) w) (hpre : Lib.hasPrefix (a.extract 1 a.size).data.toList tl.data.toList = true) (hsz : tl.size ≤ (a.extract 1 a.size).size) :
    Calls Tryd.prog 133 #[.pointer (some ⟨br, 0, none⟩), .string a, .bool false] w fun e w' => e = .returned (.tuple #[.string v, .int .i64 (1 + (tl.size : Int)), .bool true]) ∧ ∃ k, w' = w.drewN k := by
  have c1 := hR.cell 1 (by omega)
  have c4 := hR.cell 4 (by omega)
  have c5 := hR.cell 5 (by omega)
  have cm := hR.cell (6 + a[0].toNat) (by have := a[0].toNat_lt; omega)
  have tc := hT.cell m hm
  rw [r1] at c1
  rw [r4] at c4
  rw [r5] at c5
  rw [rm] at cm
  rw [tm] at tc
  have n1 := hB.cell 1 (by simp [nodeP])
  have n2 := hB.cell 2 (by simp [nodeP])
  have n3 := hB.cell 3 (by simp [nodeP])
  have n4 := hB.cell 4 (by simp [nodeP])
  simp only [nodeP, List.getElem?_toArray, List.getElem?_cons_succ, List.getElem?_cons_zero] at n1 n2 n3 n4
  have ht1 : tl.toList.isEmpty = false := by simpa using htl
  have g0 := hB2.cell 0 (by simp [nodeV])
  have g1 := hB2.cell 1 (by simp [nodeV])
  have g2 := hB2.cell 2 (by simp [nodeV])
  have g4 := hB2.cell 4 (by simp [nodeV])
  simp only [nodeV, List.getElem?_toArray, List.getElem?_cons_succ, List.getElem?_cons_zero] at g0 g1 g2 g4
  clear hB2
  have hk : a.toList.isEmpty = false := by
    rw [toList_data]
    cases h : a.data.toList with
    | nil => have := congrArg List.length h; rw [Array.length_toList] at this; have : a.size = 0 := this; omega
    | cons c r => rfl
  have hk' : ¬ a.toList = [] := by simpa using hk
  have hb0 : (0 : Int) ≤ (a[0].toNat : Int) := by omega
  have hb1 : (a[0].toNat : Int) < 256 := by have := a[0].toNat_lt; omega
  have hb2 : a[0].toNat < 256 := by have := a[0].toNat_lt; omega
  have hb4 : (1 : Int) ≤ (a.size : Int) := by omega
  have hne : ((m : Int) == (ts : Int)) = false := by rw [beq_eq_false_iff_ne]; omega
  have hp1 : decide ((0 : Int) < p) = true := by simp; omega
  have hm0 : (0 : Int) ≤ (m : Int) := by omega
  have hm1 : (m : Int) < (ts : Int) := by omega
  obtain ⟨a2, ha2⟩ : ∃ x, a.extract 1 a.size = x := ⟨_, rfl⟩
  clear r1 r4 r5 rm tm hR hT hB
  go_enter Tryd.func133, Tryd.ntmps133
  go_wp2_with fail
  rw [ha2] at hpre hsz
  have HP := Lib.hid (hasPrefix_t a2 tl)
  have ht3 : 0 < tl.size := by
    rw [toList_data] at htl
    rcases Nat.eq_zero_or_pos tl.size with h | h
    · exact absurd (List.eq_nil_of_length_eq_zero (by rw [Array.length_toList]; exact h)) htl
    · exact h
  have ha3 : a2.toList.isEmpty = false := by
    rw [toList_data]
    cases h : a2.data.toList with
    | nil => have := congrArg List.length h; rw [Array.length_toList] at this; have : a2.size = 0 := this; omega
    | cons c r => rfl
  have ha4 : ¬ a2.toList = [] := by simpa using ha3
  have hsz1 : (tl.size : Int) ≤ (a2.size : Int) := by omega
  have ha2z : a2.size ≤ 1000000 := by rw [← ha2, ByteArray.size_extract]; omega
  rw [hpre] at HP
  clear hpre ht3
  refine wp_loop_rounds 3 ?_
  rw [rounds_succ]
  go_wp2_with fail
  go_quiet (fail)
  go_wp2_with fail
  rw [rounds_succ]
  go_wp2_with fail
  refine (HP.out _).mono ?_
  rintro e w' ⟨rfl, rfl⟩
  go_wp2_with fail
  rw [rounds_succ]
  go_wp2_with fail
  all_goals
    go_ret3
    exact ⟨rfl, nq, rfl⟩
set_option maxRecDepth 100000 in
set_option maxHeartbeats 4000000 in
theorem lookup_miss (br bt ts m b : Nat) (R T : Nat → Value) (a : ByteArray) (v tl : ByteArray) (p : Int) (w : World) (h0 : 0 < a.size) (hz : a.size ≤ 1000000)
    (hR : BlkF br 262 R w) (hT : BlkF bt ts T w) (hts : ts ≤ 1000) (hm : m < ts) (hp : 0 < p)
    (r1 : R 1 = .int .i64 0) (r4 : R 4 = .slice (some ⟨bt, 0, none⟩) ts ts) (r5 : R 5 = .int .i64 (ts : Int)) (rm : R (6 + a[0].toNat) = .int .u8 (m : Int)) (tm : T m = .pointer (some ⟨b, 0, none⟩)) (b2 : Nat) (htl : ¬ tl.toList = []) (htz : tl.size ≤ 1000) (hB : Blk b (nodeP tl b2) w) (hpre : Lib.hasPrefix (a.extract 1 a.size).data.toList tl.data.toList = false) :
    Calls Tryd.prog 133 #[.pointer (some ⟨br, 0, none⟩), .string a, .bool false] w fun e w' => e = .returned (.tuple #[.string ⟨#[]⟩, .int .i64 0, .bool false]) ∧ ∃ k, w' = w.drewN k := by
  have c1 := hR.cell 1 (by omega)
  have c4 := hR.cell 4 (by omega)
  have c5 := hR.cell 5 (by omega)
  have cm := hR.cell (6 + a[0].toNat) (by have := a[0].toNat_lt; omega)
  have tc := hT.cell m hm
  rw [r1] at c1
  rw [r4] at c4
  rw [r5] at c5
  rw [rm] at cm
  rw [tm] at tc
  have n1 := hB.cell 1 (by simp [nodeP])
  have n2 := hB.cell 2 (by simp [nodeP])
  have n3 := hB.cell 3 (by simp [nodeP])
  have n4 := hB.cell 4 (by simp [nodeP])
  simp only [nodeP, List.getElem?_toArray, List.getElem?_cons_succ, List.getElem?_cons_zero] at n1 n2 n3 n4
  have ht1 : tl.toList.isEmpty = false := by simpa using htl
  have hk : a.toList.isEmpty = false := by
    rw [toList_data]
    cases h : a.data.toList with
    | nil => have := congrArg List.length h; rw [Array.length_toList] at this; have : a.size = 0 := this; omega
    | cons c r => rfl
  have hk' : ¬ a.toList = [] := by simpa using hk
  have hb0 : (0 : Int) ≤ (a[0].toNat : Int) := by omega
  have hb1 : (a[0].toNat : Int) < 256 := by have := a[0].toNat_lt; omega
  have hb2 : a[0].toNat < 256 := by have := a[0].toNat_lt; omega
  have hb4 : (1 : Int) ≤ (a.size : Int) := by omega
  have hne : ((m : Int) == (ts : Int)) = false := by rw [beq_eq_false_iff_ne]; omega
  have hp1 : decide ((0 : Int) < p) = true := by simp; omega
  have hm0 : (0 : Int) ≤ (m : Int) := by omega
  have hm1 : (m : Int) < (ts : Int) := by omega
  obtain ⟨a2, ha2⟩ : ∃ x, a.extract 1 a.size = x := ⟨_, rfl⟩
  clear r1 r4 r5 rm tm hR hT hB
  go_enter Tryd.func133, Tryd.ntmps133
  go_wp2_with fail
  rw [ha2] at hpre
  have HP := Lib.hid (hasPrefix_t a2 tl)
  rw [hpre] at HP
  clear hpre
  by_cases ha3 : a2.toList = []
  · have ha4 : a2.toList.isEmpty = true := by simpa using ha3
    refine wp_loop_rounds 2 ?_
    rw [rounds_succ]
    go_wp2_with fail
    go_quiet (fail)
    go_wp2_with fail
    rw [rounds_succ]
    go_wp2_with fail
    go_ret3
    exact ⟨rfl, nq, rfl⟩
  · have ha4 : a2.toList.isEmpty = false := by simpa using ha3
    refine wp_loop_rounds 2 ?_
    rw [rounds_succ]
    go_wp2_with fail
    go_quiet (fail)
    go_wp2_with fail
    rw [rounds_succ]
    go_wp2_with fail
    refine (HP.out _).mono ?_
    rintro e w' ⟨rfl, rfl⟩
    go_wp2_with fail
    go_ret3
    exact ⟨rfl, nq, rfl⟩
set_option maxRecDepth 100000 in
set_option maxHeartbeats 4000000 in
theorem lookup_end (br : Nat) (R : Nat → Value) (w : World) (hR : BlkF br 262 R w) (r1 : R 1 = .int .i64 0) :
    Calls Tryd.prog 133 #[.pointer (some ⟨br, 0, none⟩), .string ⟨#[]⟩, .bool false] w fun e w' => e = .returned (.tuple #[.string ⟨#[]⟩, .int .i64 0, .bool false]) ∧ ∃ k, w' = w.drewN k := by
  have c1 := hR.cell 1 (by omega)
  rw [r1] at c1
  clear r1 hR
  go_enter Tryd.func133, Tryd.ntmps133
  go_wp2_with fail
  refine wp_loop_rounds 1 ?_
  rw [rounds_succ]
  go_wp2_with fail
  go_ret3
  exact ⟨rfl, 0, rfl⟩
end Go.Proofs.YtajfpegacbohdaaDoor.Hand
