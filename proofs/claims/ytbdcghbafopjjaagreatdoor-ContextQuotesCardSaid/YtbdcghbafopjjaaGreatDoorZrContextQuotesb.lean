/-
  Texts of the claim ContextQuotes, merged by a program of this session (2).
-/
import Derived.LoopN
import Derived.Lib.AppendStr
import Derived.OneCell
import Derived.Deep.RegionWith
import Derived.Deep.RegionHeld3
import Derived.Laws.MakeOwn
import Derived.Test.YtbdcghbafopjjaaGreatDoorProg
import Derived.Below
import Derived.Deep.Draws
import Derived.Deep.AppendLies
import Derived.Maps.AppendAt
import Derived.OwnWalk
import Derived.Laws.BytesArg
import Derived.Laws.OwnMore
import Derived.Deep.OwnRows
import Derived.Tactics
import Derived.Lib.ConvBytes
import Derived.Laws.Slices
import Derived.WalkKit
import Derived.KernelRfl
import Derived.RowKit3
import Derived.Deep.LoopGhost
import Derived.Deep.QuietTactic
import Derived.BigQuiet
import Derived.WideLaws
import Derived.Deep.DeepCutAuto
import Derived.Deep.CutBlock
import Derived.Laws.Rows
import Derived.ArgAppend
import Derived.Laws.IdiomCopy
import Derived.OrdersHeld
import Derived.Laws.BitsLemmas
import Derived.RowKit
import Derived.Test.YtbdcghbafopjjaaGreatDoorZrContextQuotesa
section
namespace Go.Proofs.YtbdcghbafopjjaaGreatDoor.Hand
open Go.RowKit Go.Proofs.YtbdcghbafopjjaaGreatDoor.Pb
theorem hasPrefix_t (s p : ByteArray) (w : World) : Calls Tryz.prog 47 #[.string s, .string p] w fun e w' => e = .returned (.bool (Lib.hasPrefix s.data.toList p.data.toList)) ∧ w = w' := by
  refine (Tryz.strings_HasPrefix s p w).mono ?_
  rintro e w' h
  exact ⟨h.1, h.2.symm⟩
set_option maxRecDepth 100000 in
set_option maxHeartbeats 4000000 in
theorem lookup_leaf (br bt ts m b : Nat) (R T : Nat → Value) (a : ByteArray) (v : ByteArray) (p : Int) (w : World) (h0 : 0 < a.size) (hz : a.size ≤ 1000000)
    (hR : BlkF br 262 R w) (hT : BlkF bt ts T w) (hts : ts ≤ 1000) (hm : m < ts) (hp : 0 < p)
    (r1 : R 1 = .int .i64 0) (r4 : R 4 = .slice (some ⟨bt, 0, none⟩) ts ts) (r5 : R 5 = .int .i64 (ts : Int)) (rm : R (6 + a[0].toNat) = .int .u8 (m : Int)) (tm : T m = .pointer (some ⟨b, 0, none⟩)) (hB : Blk b (nodeV v p) w) :
    Calls Tryz.prog 264 #[.pointer (some ⟨br, 0, none⟩), .string a, .bool false] w fun e w' => e = .returned (.tuple #[.string v, .int .i64 1, .bool true]) ∧ ∃ k, w' = w.drewN k := by
  have c1 := hR.cell 1 (by omega)
  have c4 := hR.cell 4 (by omega)
  have c5 := hR.cell 5 (by omega)
  have cm := hR.cell (6 + a[0].toNat) (by have := a[0].toNat_lt; omega)
  have tc := hT.cell m hm
  rw [r1] at c1
  rw [r4] at c4
  rw [r5] at c5
  rw [rm] at cm
  rw [tm] at tc
  have n0 := hB.cell 0 (by simp [nodeV])
  have n1 := hB.cell 1 (by simp [nodeV])
  have n2 := hB.cell 2 (by simp [nodeV])
  have n4 := hB.cell 4 (by simp [nodeV])
  simp only [nodeV, List.getElem?_toArray, List.getElem?_cons_succ, List.getElem?_cons_zero] at n0 n1 n2 n4
  have hk : a.toList.isEmpty = false := by
    rw [toList_data]
    cases h : a.data.toList with
    | nil => have := congrArg List.length h; rw [Array.length_toList] at this; have : a.size = 0 := this; omega
    | cons c r => rfl
  have hk' : ¬ a.toList = [] := by simpa using hk
  have hb0 : (0 : Int) ≤ (a[0].toNat : Int) := by omega
  have hb1 : (a[0].toNat : Int) < 256 := by have := a[0].toNat_lt; omega
  have hb2 : a[0].toNat < 256 := by have := a[0].toNat_lt; omega
  have hb4 : (1 : Int) ≤ (a.size : Int) := by omega
  have hne : ((m : Int) == (ts : Int)) = false := by rw [beq_eq_false_iff_ne]; omega
  have hp1 : decide ((0 : Int) < p) = true := by simp; omega
  have hm0 : (0 : Int) ≤ (m : Int) := by omega
  have hm1 : (m : Int) < (ts : Int) := by omega
  obtain ⟨a2, ha2⟩ : ∃ x, a.extract 1 a.size = x := ⟨_, rfl⟩
  clear r1 r4 r5 rm tm hR hT hB
  go_enter Tryz.func264, Tryz.ntmps264
  go_wp2_with fail
  refine wp_loop_rounds 2 ?_
  rw [rounds_succ]
  go_wp2_with fail
  go_quiet (fail)
  go_wp2_with fail
  rw [rounds_succ]
  go_wp2_with fail
  all_goals
    go_ret3
    exact ⟨rfl, nq, rfl⟩
set_option maxRecDepth 100000 in
set_option maxHeartbeats 4000000 in
theorem lookup_tail (br bt ts m b : Nat) (R T : Nat → Value) (a : ByteArray) (v tl : ByteArray) (p : Int) (w : World) (h0 : 0 < a.size) (hz : a.size ≤ 1000000)
    (hR : BlkF br 262 R w) (hT : BlkF bt ts T w) (hts : ts ≤ 1000) (hm : m < ts) (hp : 0 < p)
    (r1 : R 1 = .int .i64 0) (r4 : R 4 = .slice (some ⟨bt, 0, none⟩) ts ts) (r5 : R 5 = .int .i64 (ts : Int)) (rm : R (6 + a[0].toNat) = .int .u8 (m : Int)) (tm : T m = .pointer (some ⟨b, 0, none⟩)) (b2 : Nat) (htl : ¬ tl.toList = []) (htz : tl.size ≤ 1000) (hB : Blk b (nodeP tl b2) w) (hB2 : Blk b2 (nodeV v p) w) (hpre : Lib.hasPrefix (a.extract 1 a.size).data.toList tl.data.toList = true) (hsz : tl.size ≤ (a.extract 1 a.size).size) :
    Calls Tryz.prog 264 #[.pointer (some ⟨br, 0, none⟩), .string a, .bool false] w fun e w' => e = .returned (.tuple #[.string v, .int .i64 (1 + (tl.size : Int)), .bool true]) ∧ ∃ k, w' = w.drewN k := by
  have c1 := hR.cell 1 (by omega)
  have c4 := hR.cell 4 (by omega)
  have c5 := hR.cell 5 (by omega)
  have cm := hR.cell (6 + a[0].toNat) (by have := a[0].toNat_lt; omega)
  have tc := hT.cell m hm
  rw [r1] at c1
  rw [r4] at c4
  rw [r5] at c5
  rw [rm] at cm
  rw [tm] at tc
  have n1 := hB.cell 1 (by simp [nodeP])
  have n2 := hB.cell 2 (by simp [nodeP])
  have n3 := hB.cell 3 (by simp [nodeP])
  have n4 := hB.cell 4 (by simp [nodeP])
  simp only [nodeP, List.getElem?_toArray, List.getElem?_cons_succ, List.getElem?_cons_zero] at n1 n2 n3 n4
  have ht1 : tl.toList.isEmpty = false := by simpa using htl
  have g0 := hB2.cell 0 (by simp [nodeV])
  have g1 := hB2.cell 1 (by simp [nodeV])
  have g2 := hB2.cell 2 (by simp [nodeV])
  have g4 := hB2.cell 4 (by simp [nodeV])
  simp only [nodeV, List.getElem?_toArray, List.getElem?_cons_succ, List.getElem?_cons_zero] at g0 g1 g2 g4
  clear hB2
  have hk : a.toList.isEmpty = false := by
    rw [toList_data]
    cases h : a.data.toList with
    | nil => have := congrArg List.length h; rw [Array.length_toList] at this; have : a.size = 0 := this; omega
    | cons c r => rfl
  have hk' : ¬ a.toList = [] := by simpa using hk
  have hb0 : (0 : Int) ≤ (a[0].toNat : Int) := by omega
  have hb1 : (a[0].toNat : Int) < 256 := by have := a[0].toNat_lt; omega
  have hb2 : a[0].toNat < 256 := by have := a[0].toNat_lt; omega
  have hb4 : (1 : Int) ≤ (a.size : Int) := by omega
  have hne : ((m : Int) == (ts : Int)) = false := by rw [beq_eq_false_iff_ne]; omega
  have hp1 : decide ((0 : Int) < p) = true := by simp; omega
  have hm0 : (0 : Int) ≤ (m : Int) := by omega
  have hm1 : (m : Int) < (ts : Int) := by omega
  obtain ⟨a2, ha2⟩ : ∃ x, a.extract 1 a.size = x := ⟨_, rfl⟩
  clear r1 r4 r5 rm tm hR hT hB
  go_enter Tryz.func264, Tryz.ntmps264
  go_wp2_with fail
  rw [ha2] at hpre hsz
  have HP := Lib.hid (hasPrefix_t a2 tl)
  have ht3 : 0 < tl.size := by
    rw [toList_data] at htl
    rcases Nat.eq_zero_or_pos tl.size with h | h
    · exact absurd (List.eq_nil_of_length_eq_zero (by rw [Array.length_toList]; exact h)) htl
    · exact h
  have ha3 : a2.toList.isEmpty = false := by
    rw [toList_data]
    cases h : a2.data.toList with
    | nil => have := congrArg List.length h; rw [Array.length_toList] at this; have : a2.size = 0 := this; omega
    | cons c r => rfl
  have ha4 : ¬ a2.toList = [] := by simpa using ha3
  have hsz1 : (tl.size : Int) ≤ (a2.size : Int) := by omega
  have ha2z : a2.size ≤ 1000000 := by rw [← ha2, ByteArray.size_extract]; omega
  rw [hpre] at HP
  clear hpre ht3
  refine wp_loop_rounds 3 ?_
  rw [rounds_succ]
  go_wp2_with fail
  go_quiet (fail)
  go_wp2_with fail
  rw [rounds_succ]
  go_wp2_with fail
  refine (HP.out _).mono ?_
  rintro e w' ⟨rfl, rfl⟩
  go_wp2_with fail
  rw [rounds_succ]
  go_wp2_with fail
  all_goals
    go_ret3
    exact ⟨rfl, nq, rfl⟩
set_option maxRecDepth 100000 in
set_option maxHeartbeats 4000000 in
theorem lookup_miss (br bt ts m b : Nat) (R T : Nat → Value) (a : ByteArray) (v tl : ByteArray) (p : Int) (w : World) (h0 : 0 < a.size) (hz : a.size ≤ 1000000)
    (hR : BlkF br 262 R w) (hT : BlkF bt ts T w) (hts : ts ≤ 1000) (hm : m < ts) (hp : 0 < p)
    (r1 : R 1 = .int .i64 0) (r4 : R 4 = .slice (some ⟨bt, 0, none⟩) ts ts) (r5 : R 5 = .int .i64 (ts : Int)) (rm : R (6 + a[0].toNat) = .int .u8 (m : Int)) (tm : T m = .pointer (some ⟨b, 0, none⟩)) (b2 : Nat) (htl : ¬ tl.toList = []) (htz : tl.size ≤ 1000) (hB : Blk b (nodeP tl b2) w) (hpre : Lib.hasPrefix (a.extract 1 a.size).data.toList tl.data.toList = false) :
    Calls Tryz.prog 264 #[.pointer (some ⟨br, 0, none⟩), .string a, .bool false] w fun e w' => e = .returned (.tuple #[.string ⟨#[]⟩, .int .i64 0, .bool false]) ∧ ∃ k, w' = w.drewN k := by
  have c1 := hR.cell 1 (by omega)
  have c4 := hR.cell 4 (by omega)
  have c5 := hR.cell 5 (by omega)
  have cm := hR.cell (6 + a[0].toNat) (by have := a[0].toNat_lt; omega)
  have tc := hT.cell m hm
  rw [r1] at c1
  rw [r4] at c4
  rw [r5] at c5
  rw [rm] at cm
  rw [tm] at tc
  have n1 := hB.cell 1 (by simp [nodeP])
  have n2 := hB.cell 2 (by simp [nodeP])
  have n3 := hB.cell 3 (by simp [nodeP])
  have n4 := hB.cell 4 (by simp [nodeP])
  simp only [nodeP, List.getElem?_toArray, List.getElem?_cons_succ, List.getElem?_cons_zero] at n1 n2 n3 n4
  have ht1 : tl.toList.isEmpty = false := by simpa using htl
  have hk : a.toList.isEmpty = false := by
    rw [toList_data]
    cases h : a.data.toList with
    | nil => have := congrArg List.length h; rw [Array.length_toList] at this; have : a.size = 0 := this; omega
    | cons c r => rfl
  have hk' : ¬ a.toList = [] := by simpa using hk
  have hb0 : (0 : Int) ≤ (a[0].toNat : Int) := by omega
  have hb1 : (a[0].toNat : Int) < 256 := by have := a[0].toNat_lt; omega
  have hb2 : a[0].toNat < 256 := by have := a[0].toNat_lt; omega
  have hb4 : (1 : Int) ≤ (a.size : Int) := by omega
  have hne : ((m : Int) == (ts : Int)) = false := by rw [beq_eq_false_iff_ne]; omega
  have hp1 : decide ((0 : Int) < p) = true := by simp; omega
  have hm0 : (0 : Int) ≤ (m : Int) := by omega
  have hm1 : (m : Int) < (ts : Int) := by omega
  obtain ⟨a2, ha2⟩ : ∃ x, a.extract 1 a.size = x := ⟨_, rfl⟩
  clear r1 r4 r5 rm tm hR hT hB
  go_enter Tryz.func264, Tryz.ntmps264
  go_wp2_with fail
  rw [ha2] at hpre
  have HP := Lib.hid (hasPrefix_t a2 tl)
  rw [hpre] at HP
  clear hpre
  by_cases ha3 : a2.toList = []
  · have ha4 : a2.toList.isEmpty = true := by simpa using ha3
    refine wp_loop_rounds 2 ?_
    rw [rounds_succ]
    go_wp2_with fail
    go_quiet (fail)
    go_wp2_with fail
    rw [rounds_succ]
    go_wp2_with fail
    go_ret3
    exact ⟨rfl, nq, rfl⟩
  · have ha4 : a2.toList.isEmpty = false := by simpa using ha3
    refine wp_loop_rounds 2 ?_
    rw [rounds_succ]
    go_wp2_with fail
    go_quiet (fail)
    go_wp2_with fail
    rw [rounds_succ]
    go_wp2_with fail
    refine (HP.out _).mono ?_
    rintro e w' ⟨rfl, rfl⟩
    go_wp2_with fail
    go_ret3
    exact ⟨rfl, nq, rfl⟩
set_option maxRecDepth 100000 in
set_option maxHeartbeats 4000000 in
theorem lookup_end (br : Nat) (R : Nat → Value) (w : World) (hR : BlkF br 262 R w) (r1 : R 1 = .int .i64 0) :
    Calls Tryz.prog 264 #[.pointer (some ⟨br, 0, none⟩), .string ⟨#[]⟩, .bool false] w fun e w' => e = .returned (.tuple #[.string ⟨#[]⟩, .int .i64 0, .bool false]) ∧ ∃ k, w' = w.drewN k := by
  have c1 := hR.cell 1 (by omega)
  rw [r1] at c1
  clear r1 hR
  go_enter Tryz.func264, Tryz.ntmps264
  go_wp2_with fail
  refine wp_loop_rounds 1 ?_
  rw [rounds_succ]
  go_wp2_with fail
  go_ret3
  exact ⟨rfl, 0, rfl⟩
end Go.Proofs.YtbdcghbafopjjaaGreatDoor.Hand
end

section
namespace Go.Proofs.YtbdcghbafopjjaaGreatDoor.Hand
open Go.RowKit Go.Proofs.YtbdcghbafopjjaaGreatDoor.Pb
structure Buf (bb lo : Nat) (acc : List UInt8) (W : World) : Prop where
  val : ∃ v, W.heap[bb]? = some (.cells #[v] 255 (0, 0)) ∧ W.ownsRow lo 5 1 v acc.length (Lib.byteCells acc)
  le : lo ≤ bb
theorem heap_lt {W : World} {b : Nat} {o : Obj} (h : W.heap[b]? = some o) : b < W.heap.size := by
  rcases Nat.lt_or_ge b W.heap.size with h' | h'
  · exact h'
  · rw [Array.getElem?_eq_none h'] at h; cases h
theorem own_ne {W : World} {bb lo n : Nat} {u v : Value} {xs : List Value} (hb : W.heap[bb]? = some (.cells #[u] 255 (0, 0))) (h : W.ownsRow lo 5 1 v n xs) : some bb ≠ v.ownBlock := by
  rcases h.2 with ⟨rfl, _⟩ | ⟨g, cap, cur, rfl, _, hg, _⟩
  · simp [Value.ownBlock]
  · intro e
    have e2 : bb = g := by simpa [Value.ownBlock] using e
    subst e2
    rw [hb] at hg
    simp at hg
theorem own_set {W : World} {bb lo n : Nat} {u v : Value} {xs : List Value} (h : W.ownsRow lo 5 1 v n xs) (hne : some bb ≠ v.ownBlock) (x : Value) : (W.setCell ⟨bb, 0, none⟩ x).ownsRow lo 5 1 v n xs := by
  obtain ⟨h1, h2⟩ := h
  refine ⟨h1, ?_⟩
  rcases h2 with h2 | ⟨g, cap, cur, hv, hg, hh, r⟩
  · exact .inl h2
  · refine .inr ⟨g, cap, cur, hv, hg, ?_, r⟩
    rw [Below.heap_setCell _ _ _ _ (by subst hv; intro e; exact hne (by simp [Value.ownBlock, e]))]
    exact hh
theorem owns_shape {W : World} {lo e size n : Nat} {v : Value} {xs : List Value} (h : W.ownsRow lo e size v n xs) : ∃ a c, v = .slice a n c := by
  rcases h.2 with ⟨rfl, rfl⟩ | ⟨g, cap, cur, rfl, _⟩
  · exact ⟨_, _, rfl⟩
  · exact ⟨_, _, rfl⟩
theorem strCells_B (s : List UInt8) : Lib.strCells (B s) = Lib.byteCells s := by
  unfold Lib.strCells Lib.byteCells; rw [B_data]
theorem info_u8 : (Tryz.prog.info? 5).map (fun i => (i.zero, i.size, i.bytes)) = some (some (.int .u8 0), 1, 1) := by kernel_rfl
set_option maxRecDepth 100000 in
set_option maxHeartbeats 4000000 in
theorem aw_write (bb lo : Nat) (acc s : List UInt8) (w : World) (h : Buf bb lo acc w) (hz : acc.length + s.length ≤ 100000000) :
    Calls Tryz.prog 272 #[.pointer (some ⟨bb, 0, none⟩), .string (B s)] w fun e w' => e = .returned (.tuple #[.int .i64 (s.length : Int), .nilIface]) ∧ Buf bb lo (acc ++ s) w' ∧ Below lo w w' := by
  obtain ⟨v, hh, hown⟩ := h.val
  have hv := cell_of_one hh
  have hf := free_of_one hh
  have hne := own_ne hh hown
  have hlt := heap_lt hh
  have hle := h.le
  have hls : lo ≤ w.heap.size := by omega
  obtain ⟨i, hi, hzz⟩ := Option.map_eq_some_iff.1 info_u8
  simp only [Prod.mk.injEq] at hzz
  obtain ⟨hz0, hs1, hb1⟩ := hzz
  have HHH := Lib.hid hh
  have HNE := Lib.hid hne
  clear hh hne
  have hsz : (B s).size = s.length := by simp
  obtain ⟨S, hS⟩ : ∃ S, B s = S := ⟨_, rfl⟩
  rw [hS] at hsz ⊢
  have HS := Lib.hid hS
  have HSZ := Lib.hid hsz
  clear hS
  rw [← hsz] at hz
  have HOWN := Lib.hid hown
  have HI := Lib.hid hi
  have HZ := Lib.hid hz0
  have HS1 := Lib.hid hs1
  have HB1 := Lib.hid hb1
  have HH := Lib.hid h
  clear hsz hi hz0 hs1 hb1 hown h
  go_enter Tryz.func272, Tryz.ntmps272
  go_wp2_with (with_reducible refine Lib.wpList_append_own_string _ rfl (.tmp 9) (.tmp 10) 255 9 rfl lo 5 i Tryz.underlying255 Tryz.underlying9 HI.out HZ.out HS1.out HB1.out v acc.length (Lib.byteCells acc) rfl HOWN.out S rfl (by unfold maxLen; omega) (by omega) hls ?_)
  intro v' w1 hown' hgrow hnil
  have hrow : ∀ k, v.ownBlock = some k → lo ≤ k := fun k hk => (HOWN.out.lt k hk).1
  have hh1 : w1.heap[bb]? = some (.cells #[v] 255 (0, 0)) := by rw [hgrow.block bb hlt HNE.out]; exact HHH.out
  have hv1 := cell_of_one hh1
  have hfr := free_of_one hh1
  have hbel : Below lo w w1 := (Below.refl lo w).grown hgrow hls hrow
  have hne1 := own_ne hh1 hown'
  obtain ⟨a', c', rfl⟩ := owns_shape hown'
  have HO := Lib.hid hown'
  have HBL := Lib.hid hbel
  have HH1 := Lib.hid hh1
  have HN1 := Lib.hid hne1
  clear hown' hgrow hnil hrow hbel hv hf hh1 hne1
  go_wp2_with fail
  go_ret2
  refine ⟨by rw [HSZ.out]; rfl, ⟨⟨_, one_setCell HH1.out, ?_⟩, hle⟩, HBL.out.setCell hle _⟩
  have := own_set (u := v) HO.out HN1.out (.slice a' (acc.length + S.size) c')
  rw [List.length_append, ← HSZ.out]
  rw [← HS.out, strCells_B] at this
  have e : Lib.byteCells acc ++ Lib.byteCells s = Lib.byteCells (acc ++ s) := by simp [Lib.byteCells]
  rw [e] at this
  rw [HSZ.out]
  simpa using this
set_option maxRecDepth 100000 in
set_option maxHeartbeats 4000000 in
theorem getSW (a : Addr) (w : World) :
    Calls Tryz.prog 263 #[.iface 256 (.pointer (some a))] w fun e w' => e = .returned (.iface 256 (.pointer (some a))) ∧ w' = w := by
  have hta : ∀ w, (Instr.typeAssert (.iface 256 (.pointer (some a))) 258 260 true).run Tryz.prog w = .ok (.tuple #[.iface 256 (.pointer (some a)), .bool true]) w := fun _ => by kernel_rfl
  go_enter Tryz.func263, Tryz.ntmps263
  go_wp2_with fail
  go_ret
  exact ⟨rfl, rfl⟩
end Go.Proofs.YtbdcghbafopjjaaGreatDoor.Hand
end

section
namespace Go.Proofs.YtbdcghbafopjjaaGreatDoor.Pl
def replS (f : UInt8 → Option (List UInt8 × List UInt8)) : Nat → List UInt8 → List UInt8
  | _, [] => []
  | k + 1, _ :: r => replS f k r
  | 0, c :: r => match f c with
    | some (t, v) => if t.isPrefixOf r = true then v ++ replS f t.length r else c :: replS f 0 r
    | none => c :: replS f 0 r
theorem replS_nil (f : UInt8 → Option (List UInt8 × List UInt8)) (k : Nat) : replS f k [] = [] := by cases k <;> rfl
theorem replS_skip (f : UInt8 → Option (List UInt8 × List UInt8)) : ∀ (k : Nat) (s : List UInt8), replS f k s = replS f 0 (s.drop k) := by
  intro k
  induction k with
  | zero => intro s; rfl
  | succ k ih =>
    intro s
    cases s with
    | nil => rfl
    | cons c r => exact ih r
theorem replS_none {f : UInt8 → Option (List UInt8 × List UInt8)} {c : UInt8} (h : f c = none) (r : List UInt8) : replS f 0 (c :: r) = c :: replS f 0 r := by
  rw [replS, h]
theorem replS_hit {f : UInt8 → Option (List UInt8 × List UInt8)} {c : UInt8} {t v r : List UInt8} (h : f c = some (t, v)) (hp : t.isPrefixOf r = true) : replS f 0 (c :: r) = v ++ replS f 0 (r.drop t.length) := by
  rw [replS, h]
  simp only [hp, if_true]
  rw [replS_skip]
theorem replS_miss {f : UInt8 → Option (List UInt8 × List UInt8)} {c : UInt8} {t v r : List UInt8} (h : f c = some (t, v)) (hp : ¬ t.isPrefixOf r = true) : replS f 0 (c :: r) = c :: replS f 0 r := by
  rw [replS, h]
  simp only [hp]
  rfl
def wAmp : List UInt8 := [38, 97, 109, 112, 59]
def wLt : List UInt8 := [38, 108, 116, 59]
def wGt : List UInt8 := [38, 103, 116, 59]
def wQuot : List UInt8 := [38, 113, 117, 111, 116, 59]
def wApos : List UInt8 := [38, 35, 51, 57, 59]
def wCr : List UInt8 := [38, 35, 49, 51, 59]
def wBad : List UInt8 := [239, 191, 189]
def wMark : List UInt8 := [38, 35, 54, 53, 50, 55, 57, 59]
def escF (c : UInt8) : Option (List UInt8 × List UInt8) :=
  if c = 38 then some ([], wAmp) else if c = 60 then some ([], wLt) else if c = 62 then some ([], wGt) else if c = 34 then some ([], wQuot)
  else if c = 39 then some ([], wApos) else if c = 13 then some ([], wCr) else if c = 0 then some ([], wBad) else if c = 239 then some ([187, 191], wMark) else none
def escL (s : List UInt8) : List UInt8 := replS escF 0 s
def encL (dest : Int) (s : List UInt8) : List UInt8 :=
  if dest = 0 ∨ dest = 1 then escL s else if dest = 2 then (if s.head? = some 10 then 10 :: escL s else escL s) else []
theorem esc_cases (c : UInt8) (r : List UInt8) (P : List UInt8 → Prop)
    (h38 : c = 38 → P (wAmp ++ escL r)) (h60 : c = 60 → P (wLt ++ escL r)) (h62 : c = 62 → P (wGt ++ escL r)) (h34 : c = 34 → P (wQuot ++ escL r)) (h39 : c = 39 → P (wApos ++ escL r))
    (h13 : c = 13 → P (wCr ++ escL r)) (h0 : c = 0 → P (wBad ++ escL r)) (hm : ∀ q, c = 239 → r = 187 :: 191 :: q → P (wMark ++ escL q))
    (hc : c ≠ 38 → c ≠ 60 → c ≠ 62 → c ≠ 34 → c ≠ 39 → c ≠ 13 → c ≠ 0 → (c = 239 → ¬ [187, 191].isPrefixOf r = true) → P (c :: escL r)) : P (escL (c :: r)) := by
  unfold escL at *
  have hit : ∀ {v : List UInt8}, escF c = some ([], v) → P (v ++ replS escF 0 r) → P (replS escF 0 (c :: r)) := by
    intro v h hp
    rw [replS_hit h rfl]; exact hp
  by_cases e1 : c = 38
  · exact hit (by simp [escF, e1]) (h38 e1)
  by_cases e2 : c = 60
  · exact hit (by simp [escF, e2]) (h60 e2)
  by_cases e3 : c = 62
  · exact hit (by simp [escF, e3]) (h62 e3)
  by_cases e4 : c = 34
  · exact hit (by simp [escF, e4]) (h34 e4)
  by_cases e5 : c = 39
  · exact hit (by simp [escF, e5]) (h39 e5)
  by_cases e6 : c = 13
  · exact hit (by simp [escF, e6]) (h13 e6)
  by_cases e7 : c = 0
  · exact hit (by simp [escF, e7]) (h0 e7)
  by_cases e8 : c = 239
  · have hf : escF c = some ([187, 191], wMark) := by simp [escF, e8]
    by_cases hp : [187, 191].isPrefixOf r = true
    · rw [replS_hit hf hp]
      obtain ⟨q, rfl⟩ := List.isPrefixOf_iff_prefix.1 hp
      exact hm q e8 rfl
    · rw [replS_miss hf hp]
      exact hc e1 e2 e3 e4 e5 e6 e7 fun _ => hp
  · rw [replS_none (by simp [escF, e1, e2, e3, e4, e5, e6, e7, e8])]
    exact hc e1 e2 e3 e4 e5 e6 e7 fun e => absurd e e8
def scanE : Bool → List UInt8 → Bool
  | o, [] => !o
  | o, c :: r => if c = 60 ∨ c = 62 ∨ c = 34 ∨ c = 39 ∨ c = 0 ∨ c = 13 then false else if c = 38 then !o && scanE true r else if c = 59 then scanE false r else scanE o r
theorem scan_plain {o : Bool} {c : UInt8} {r : List UInt8} (h1 : c ≠ 60) (h2 : c ≠ 62) (h3 : c ≠ 34) (h4 : c ≠ 39) (h5 : c ≠ 0) (h6 : c ≠ 13) (h7 : c ≠ 38) : scanE o (c :: r) = scanE (if c = 59 then false else o) r := by
  rw [scanE, if_neg (by simp [h1, h2, h3, h4, h5, h6]), if_neg h7]
  by_cases h : c = 59 <;> simp [h]
theorem scan_esc : ∀ n (s : List UInt8), s.length ≤ n → scanE false (escL s) = true := by
  intro n
  induction n with
  | zero => intro s h; obtain rfl := List.eq_nil_of_length_eq_zero (Nat.le_zero.1 h); rfl
  | succ n ih =>
    intro s h
    cases s with
    | nil => rfl
    | cons c r =>
      have hr := ih r (by simp at h; omega)
      refine esc_cases c r (fun l => scanE false l = true) ?_ ?_ ?_ ?_ ?_ ?_ ?_ ?_ ?_
      all_goals try (intro _; simp [wAmp, wLt, wGt, wQuot, wApos, wCr, wBad, scanE, hr]; done)
      · intro q _ e
        have hq := ih q (by subst e; simp at h; omega)
        simp [wMark, scanE, hq]
      · intro h38 h60 h62 h34 h39 h13 h0 _
        rw [scan_plain h60 h62 h34 h39 h0 h13 h38]
        simp [hr]
theorem scan_enc (k : Int) (s : List UInt8) : scanE false (encL k s) = true := by
  have h := scan_esc s.length s (Nat.le_refl _)
  unfold encL
  split
  · exact h
  · split
    · split
      · rw [scan_plain (by decide) (by decide) (by decide) (by decide) (by decide) (by decide) (by decide)]
        exact h
      · exact h
    · rfl
theorem esc_length : ∀ n (s : List UInt8), s.length ≤ n → (escL s).length ≤ 6 * s.length ∧ (s.head? = some 10 → (escL s).length + 5 ≤ 6 * s.length) := by
  intro n
  induction n with
  | zero => intro s h; obtain rfl := List.eq_nil_of_length_eq_zero (Nat.le_zero.1 h); simp [escL, replS]
  | succ n ih =>
    intro s h
    cases s with
    | nil => simp [escL, replS]
    | cons c r =>
      have hr := (ih r (by simp at h; omega)).1
      refine esc_cases c r (fun l => l.length ≤ 6 * (c :: r).length ∧ ((c :: r).head? = some 10 → l.length + 5 ≤ 6 * (c :: r).length)) ?_ ?_ ?_ ?_ ?_ ?_ ?_ ?_ ?_
      · intro e; subst e; simp [wAmp]; omega
      · intro e; subst e; simp [wLt]; omega
      · intro e; subst e; simp [wGt]; omega
      · intro e; subst e; simp [wQuot]; omega
      · intro e; subst e; simp [wApos]; omega
      · intro e; subst e; simp [wCr]; omega
      · intro e; subst e; simp [wBad]; omega
      · intro q e1 e
        have hq := (ih q (by subst e; simp at h; omega)).1
        subst e1; subst e
        simp [wMark]; omega
      · intros; simp; omega
theorem enc_length (k : Int) (s : List UInt8) : (encL k s).length ≤ 6 * s.length := by
  have h := esc_length s.length s (Nat.le_refl _)
  unfold encL
  split
  · exact h.1
  · split
    · split
      · rename_i h10; have := h.2 h10; simp; omega
      · exact h.1
    · simp
end Go.Proofs.YtbdcghbafopjjaaGreatDoor.Pl
end

section
namespace Go.Proofs.YtbdcghbafopjjaaGreatDoor.Hand
open Go.RowKit Go.Proofs.YtbdcghbafopjjaaGreatDoor.Pb Go.Proofs.YtbdcghbafopjjaaGreatDoor.Pl
theorem Below.of_drewN (B : Nat) (w : World) (k : Nat) : Below B w (w.drewN k) := ⟨rfl, rfl, rfl, Nat.le_refl _, fun _ _ => rfl⟩
def pairF (kv : List (List UInt8 × ByteArray)) (c : UInt8) : Option (List UInt8 × List UInt8) := (kv.find? fun x => x.1.head? == some c).map fun x => (x.1.tail, x.2.data.toList)
theorem pairF_some {kv : List (List UInt8 × ByteArray)} {c : UInt8} {t v : List UInt8} (h : pairF kv c = some (t, v)) : ∃ j, ∃ hj : j < kv.length, kv[j].1 = c :: t ∧ kv[j].2 = B v := by
  unfold pairF at h
  obtain ⟨x, hx, e⟩ := Option.map_eq_some_iff.1 h
  have hm := List.mem_of_find?_eq_some hx
  have hp := List.find?_some hx
  obtain ⟨j, hj, ej⟩ := List.mem_iff_getElem.1 hm
  refine ⟨j, hj, ?_, ?_⟩
  · rw [ej]
    simp only [beq_iff_eq] at hp
    have e1 : x.1.tail = t := (Prod.mk.inj e).1
    cases hxl : x.1 with
    | nil => rw [hxl] at hp; cases hp
    | cons d r => rw [hxl] at hp e1; simp at hp e1; rw [hp, e1]
  · rw [ej]
    have e2 : x.2.data.toList = v := (Prod.mk.inj e).2
    rw [← e2]; exact B_of _
theorem pairF_none {kv : List (List UInt8 × ByteArray)} {c : UInt8} (h : pairF kv c = none) : ∀ j (hj : j < kv.length) d t, kv[j].1 = d :: t → d ≠ c := by
  unfold pairF at h
  simp only [Option.map_eq_none_iff, List.find?_eq_none] at h
  intro j hj d t e hd
  have := h _ (List.getElem_mem hj)
  rw [e, hd] at this
  simp at this
structure TrieAt (kv : List (List UInt8 × ByteArray)) (br bt ts : Nat) (W : World) : Prop where
  root : BlkF br 262 (replF (keysU kv kv.length) ts bt) W
  tab : ∃ T, BlkF bt ts T W ∧ (∀ j (h : j < kv.length), ∀ c t, kv[j].1 = c :: t → ∃ (b : Nat) (p : Int), 0 < p ∧ T (cntU (keysU kv kv.length) c.toNat) = .pointer (some ⟨b, 0, none⟩) ∧ NodeAt (bt + 1) b t kv[j].2 p W) ∧
    (∀ x, x < ts → (∀ j (h : j < kv.length), ∀ c t, kv[j].1 = c :: t → cntU (keysU kv kv.length) c.toNat ≠ x) → T x = .pointer none)
  heads : Heads kv
  lens : ∀ x ∈ kv, x.1.length ≤ 1000
  lt : br < bt ∧ bt < W.heap.size
  many : ts = cntU (keysU kv kv.length) 256 ∧ ts ≤ 200
theorem NodeAt.below {lo b : Nat} {t : List UInt8} {v : ByteArray} {p : Int} {w W : World} (h : NodeAt lo b t v p w) (hb : Below w.heap.size w W) : NodeAt lo b t v p W := by
  obtain ⟨h1, h2, h3⟩ := h
  refine ⟨h1, Nat.lt_of_lt_of_le h2 hb.size, ?_⟩
  rcases h3 with ⟨ht, h3⟩ | ⟨ht, b2, h4, h5, h6, h7⟩
  · exact .inl ⟨ht, h3.below hb h2⟩
  · exact .inr ⟨ht, b2, h4, Nat.lt_of_lt_of_le h5 hb.size, h6.below hb h2, h7.below hb h5⟩
theorem TrieAt.below {kv : List (List UInt8 × ByteArray)} {br bt ts : Nat} {w W : World} (h : TrieAt kv br bt ts w) (hb : Below w.heap.size w W) : TrieAt kv br bt ts W := by
  obtain ⟨T, h1, h2, h3⟩ := h.tab
  refine ⟨h.root.below hb (Nat.lt_trans h.lt.1 h.lt.2), ⟨T, h1.below hb h.lt.2, fun j hj c t e => ?_, h3⟩, h.heads, h.lens, ⟨h.lt.1, Nat.lt_of_lt_of_le h.lt.2 hb.size⟩, h.many⟩
  obtain ⟨b, p, g1, g2, g3⟩ := h2 j hj c t e
  exact ⟨b, p, g1, g2, g3.below hb⟩
def LookR (kv : List (List UInt8 × ByteArray)) (c : UInt8) (r : List UInt8) : ByteArray × Nat × Bool :=
  match pairF kv c with
  | some (t, v) => if t.isPrefixOf r = true then (B v, 1 + t.length, true) else (⟨#[]⟩, 0, false)
  | none => (⟨#[]⟩, 0, false)
theorem look_c {kv : List (List UInt8 × ByteArray)} {br bt ts : Nat} {W : World} (h : TrieAt kv br bt ts W) (c : UInt8) (r : List UInt8) (hr : r.length ≤ 100000) (hp : (pairF kv c).isSome = true) :
    Calls Tryz.prog 264 #[.pointer (some ⟨br, 0, none⟩), .string (B (c :: r)), .bool false] W fun e w' => e = .returned (.tuple #[.string (LookR kv c r).1, .int .i64 ((LookR kv c r).2.1 : Int), .bool (LookR kv c r).2.2]) ∧ ∃ k, w' = W.drewN k := by
  obtain ⟨tv, htv⟩ := Option.isSome_iff_exists.1 hp
  obtain ⟨t, v⟩ := tv
  obtain ⟨j, hj, e1, e2⟩ := pairF_some htv
  obtain ⟨T, h1, h2, h3⟩ := h.tab
  obtain ⟨b, p, g1, g2, g3⟩ := h2 j hj c t e1
  have hu := used_of hj e1
  have hm : cntU (keysU kv kv.length) c.toNat < ts := by
    rw [h.many.1]; exact cnt_lt _ hu c.toNat_lt
  have hrm : replF (keysU kv kv.length) ts bt (6 + c.toNat) = .int .u8 ((cntU (keysU kv kv.length) c.toNat : Nat) : Int) := by
    rw [replF_map _ _ _ _ c.toNat_lt]
    simp only [mapV, hu, if_true]
  have hc0 : ∀ h, (B (c :: r))[0]'h = c := fun _ => rfl
  have hx : (B (c :: r)).extract 1 (B (c :: r)).size = B r := by rw [B_extract]; simp
  have htl : t.length ≤ 1000 := by
    have := h.lens _ (List.getElem_mem hj)
    rw [e1] at this; simp at this; omega
  have hts := h.many.2
  rw [e2] at g3
  obtain ⟨_, _, g3⟩ := g3
  unfold LookR
  rw [htv]
  simp only
  rcases g3 with ⟨rfl, g3⟩ | ⟨hne, b2, _, _, g3, g4⟩
  · have := lookup_leaf br bt ts _ b _ T (B (c :: r)) (B v) p W (by simp) (by simp; omega) h.root h1 (by omega) hm g1 rfl rfl rfl (by rw [hc0]; exact hrm) g2 g3
    simpa using this
  · have hne' : ¬ (B t).toList = [] := by simpa using hne
    cases hpre : t.isPrefixOf r with
    | true =>
      have hle : t.length ≤ r.length := (List.isPrefixOf_iff_prefix.1 hpre).length_le
      have := lookup_tail br bt ts _ b _ T (B (c :: r)) (B v) (B t) p W (by simp) (by simp; omega) h.root h1 (by omega) hm g1 rfl rfl rfl (by rw [hc0]; exact hrm) g2 b2 hne' (by simpa using htl) g3 g4 (by rw [hx, B_data, B_data]; exact hpre) (by rw [hx]; simpa using hle)
      simpa using this
    | false =>
      have := lookup_miss br bt ts _ b _ T (B (c :: r)) (B v) (B t) p W (by simp) (by simp; omega) h.root h1 (by omega) hm g1 rfl rfl rfl (by rw [hc0]; exact hrm) g2 b2 hne' (by simpa using htl) g3 (by rw [hx, B_data, B_data]; exact hpre)
      simpa using this
theorem none_c {kv : List (List UInt8 × ByteArray)} {br bt ts : Nat} {W : World} (h : TrieAt kv br bt ts W) (c : UInt8) (hp : pairF kv c = none) :
    ∃ m : Nat, W.cell? ⟨br, 6 + c.toNat, none⟩ = some (.int .u8 (m : Int)) ∧ (m = ts ∨ (m < ts ∧ W.cell? ⟨bt, m, none⟩ = some (.pointer none))) := by
  obtain ⟨T, h1, h2, h3⟩ := h.tab
  have hc := h.root.cell (6 + c.toNat) (by have := c.toNat_lt; omega)
  rw [replF_map _ _ _ _ c.toNat_lt] at hc
  unfold mapV at hc
  refine ⟨_, hc, ?_⟩
  cases hu : usedB (keysU kv kv.length) c.toNat with
  | false => exact .inl (by simp)
  | true =>
    refine .inr ?_
    simp only [if_true]
    have hm : cntU (keysU kv kv.length) c.toNat < ts := by
      rw [h.many.1]; exact cnt_lt _ hu c.toNat_lt
    refine ⟨hm, ?_⟩
    rw [h1.cell _ hm, h3 _ hm]
    intro j hj d t e
    exact cnt_inj (used_of hj e) hu fun e' => pairF_none hp j hj d t e (UInt8.toNat_inj.1 e')
theorem some_c {kv : List (List UInt8 × ByteArray)} {br bt ts : Nat} {W : World} (h : TrieAt kv br bt ts W) (c : UInt8) (hp : (pairF kv c).isSome = true) :
    ∃ m b : Nat, W.cell? ⟨br, 6 + c.toNat, none⟩ = some (.int .u8 (m : Int)) ∧ m < ts ∧ W.cell? ⟨bt, m, none⟩ = some (.pointer (some ⟨b, 0, none⟩)) := by
  obtain ⟨tv, htv⟩ := Option.isSome_iff_exists.1 hp
  obtain ⟨t, v⟩ := tv
  obtain ⟨j, hj, e1, e2⟩ := pairF_some htv
  obtain ⟨T, h1, h2, h3⟩ := h.tab
  obtain ⟨b, p, g1, g2, g3⟩ := h2 j hj c t e1
  have hu := used_of hj e1
  have hm : cntU (keysU kv kv.length) c.toNat < ts := by
    rw [h.many.1]; exact cnt_lt _ hu c.toNat_lt
  have hc := h.root.cell (6 + c.toNat) (by have := c.toNat_lt; omega)
  rw [replF_map _ _ _ _ c.toNat_lt] at hc
  simp only [mapV, hu, if_true] at hc
  exact ⟨_, b, hc, hm, by rw [h1.cell _ hm, g2]⟩
end Go.Proofs.YtbdcghbafopjjaaGreatDoor.Hand
end

section
namespace Go.Proofs.YtbdcghbafopjjaaGreatDoor.Hand
open Go.RowKit Go.Proofs.YtbdcghbafopjjaaGreatDoor.Pb Go.Proofs.YtbdcghbafopjjaaGreatDoor.Pl
def TwoRes (e : Ending) : Prop := ∃ n : Int, e = .returned (.tuple #[.int .i64 n, .nilIface])
theorem Buf.drewN {bb lo : Nat} {acc : List UInt8} {W : World} (h : Buf bb lo acc W) (k : Nat) : Buf bb lo acc (W.drewN k) :=
  ⟨by obtain ⟨v, h1, h2⟩ := h.val; exact ⟨v, h1, h2⟩, h.le⟩
theorem Buf.drew {bb lo : Nat} {acc : List UInt8} {W : World} (h : Buf bb lo acc W) : Buf bb lo acc W.drew :=
  ⟨by obtain ⟨v, h1, h2⟩ := h.val; exact ⟨v, h1, h2⟩, h.le⟩
theorem nil_ahead (n : Nat) (a : Addr) (w : World) : (nilAhead (n + 1) 256 (.pointer (some a)) "WriteString").run Tryz.prog w = .ok (some false) w := by kernel_rfl
theorem meth_ws (n : Nat) (a : Addr) (w : World) : (method (n + 1) 256 (.pointer (some a)) "WriteString").run Tryz.prog w = .ok (272, .pointer (some a)) w := by kernel_rfl
section
variable {f : UInt8 → Option (List UInt8 × List UInt8)} {acc s R : List UInt8} {l k : Nat}
theorem take_grow (hl : l ≤ k) (hk : k < s.length) : (s.drop l).take (k + 1 - l) = (s.drop l).take (k - l) ++ [s[k]] := by
  rw [show k + 1 - l = (k - l) + 1 by omega, List.take_succ_eq_append_getElem (by simp; omega)]
  congr 2
  rw [List.getElem_drop]
  congr 1
  omega
theorem step_skip (hl : l ≤ k) (hk : k < s.length) (hs : replS f 0 (s.drop k) = s[k] :: replS f 0 (s.drop (k + 1))) (h : acc ++ (s.drop l).take (k - l) ++ replS f 0 (s.drop k) = R) :
    acc ++ (s.drop l).take (k + 1 - l) ++ replS f 0 (s.drop (k + 1)) = R := by
  rw [← h, hs, take_grow hl hk]; simp
theorem step_hit (v : List UInt8) (n : Nat) (hs : replS f 0 (s.drop k) = v ++ replS f 0 (s.drop (k + n))) (h : acc ++ (s.drop l).take (k - l) ++ replS f 0 (s.drop k) = R) :
    (acc ++ (s.drop l).take (k - l) ++ v) ++ (s.drop (k + n)).take (k + n - (k + n)) ++ replS f 0 (s.drop (k + n)) = R := by
  rw [← h, hs]; simp
theorem step_end (hl : l ≤ s.length) (h : acc ++ (s.drop l).take (s.length - l) ++ replS f 0 (s.drop s.length) = R) :
    acc ++ (s.drop l).take (s.length + 1 - l) ++ replS f 0 (s.drop (s.length + 1)) = R := by
  rw [← h, List.drop_length, List.drop_eq_nil_of_le (show s.length ≤ s.length + 1 by omega), List.take_of_length_le (by rw [List.length_drop]; omega), List.take_of_length_le (by rw [List.length_drop]; omega)]
theorem step_out (hl : l ≤ s.length) (h : acc ++ (s.drop l).take (s.length + 1 - l) ++ replS f 0 (s.drop (s.length + 1)) = R) : acc ++ s.drop l = R := by
  rw [← h, List.drop_eq_nil_of_le (show s.length ≤ s.length + 1 by omega), List.take_of_length_le (by rw [List.length_drop]; omega), replS_nil, List.append_nil]
end
set_option maxRecDepth 100000 in
set_option maxHeartbeats 8000000 in
theorem gen_write (kv : List (List UInt8 × ByteArray)) (br bt ts bb lo : Nat) (s : List UInt8) (W0 w : World) (hT : TrieAt kv br bt ts W0) (hw : Below W0.heap.size W0 w) (hs : s.length ≤ 100000) (hbb : W0.heap.size ≤ lo) (hB : Buf bb lo [] w)
    (hv : ∀ x ∈ kv, x.2.size ≤ 100) :
    Calls Tryz.prog 262 #[.pointer (some ⟨br, 0, none⟩), .iface 256 (.pointer (some ⟨bb, 0, none⟩)), .string (B s)] w fun e w' => TwoRes e ∧ Buf bb lo (replS (pairF kv) 0 s) w' ∧ Below W0.heap.size W0 w' := by
  have HT := Lib.hid hT
  have HW := Lib.hid hw
  have HB := Lib.hid hB
  obtain ⟨R, hR⟩ : ∃ R, replS (pairF kv) 0 s = R := ⟨_, rfl⟩
  rw [hR]
  have HR := Lib.hid hR
  obtain ⟨a, ha⟩ : ∃ a, B s = a := ⟨_, rfl⟩
  have hza : a.size = s.length := by rw [← ha]; simp
  have had : a.data.toList = s := by rw [← ha, B_data]
  have hz : a.size ≤ 100000 := by omega
  rw [ha]
  have HA := Lib.hid ha
  have HZ := Lib.hid hza
  have HV := Lib.hid hv
  clear hT hw hB hR ha hza had hs hv
  go_enter Tryz.func262, Tryz.ntmps262
  go_wp2_with fail
  refine (getSW _ _).mono ?_
  rintro e w1 ⟨rfl, rfl⟩
  go_wp2_with fail
  go_loopw [6, 7, 9, 11, 12] (fun n er la pm i wr => ∃ (z : Int) (l k : Nat) (acc : List UInt8), n = .int .i64 z ∧ er = .nilIface ∧ la = .int .i64 (l : Int) ∧ pm = .bool false ∧ i = .int .i64 (k : Int) ∧ l ≤ k ∧ k ≤ a.size + 1 ∧ l ≤ a.size ∧
      Hid (acc ++ (s.drop l).take (k - l) ++ replS (pairF kv) 0 (s.drop k) = R) ∧ Hid (Buf bb lo acc wr) ∧ Hid (Below W0.heap.size W0 wr) ∧ Hid (acc.length ≤ 100 * l)) (fun _ _ _ _ i _ => a.size + 1 - (intOf i).toNat)
  case atStart => exact ⟨0, 0, 0, [], rfl, rfl, rfl, rfl, rfl, Nat.le_refl _, by omega, by omega, Lib.hid (by rw [Nat.sub_self, List.take_zero, List.drop_zero, List.nil_append]; exact HR.out), HB, HW, Lib.hid (by simp)⟩
  case round =>
    clear HB HW
    obtain ⟨z, l, k, acc, rfl, rfl, rfl, rfl, rfl, hlk, hk, hl, HQ, HB, HW, HAL⟩ := hrel
    by_cases hlt : k < a.size
    · have hks : k < s.length := by rw [← HZ.out]; exact hlt
      have hca : a[k] = s[k] := by
        have h := HA.out
        subst h
        rfl
      have hdr : s.drop k = a[k] :: s.drop (k + 1) := by rw [List.drop_eq_getElem_cons hks, hca]
      have hTr := HT.out.below HW.out
      have c1 := hTr.root.cell 1 (by omega)
      have c4 := hTr.root.cell 4 (by omega)
      have c5 := hTr.root.cell 5 (by omega)
      rw [replF_1] at c1
      rw [replF_4] at c4
      rw [replF_5] at c5
      have hts := hTr.many.2
      have hb0 : (0 : Int) ≤ (a[k].toNat : Int) := by omega
      have hb1 : (a[k].toNat : Int) < 256 := by have := a[k].toNat_lt; omega
      have hb2 : a[k].toNat < 256 := by have := a[k].toNat_lt; omega
      have hk0 : (0 : Int) ≤ (k : Int) := by omega
      have hk1 : (k : Int) < (a.size : Int) := by omega
      have hk2 : (k : Int) ≤ (a.size : Int) := by omega
      have e0 : ((k : Int) != (a.size : Int)) = true := by rw [bne_iff_ne]; omega
      cases hp : pairF kv (a[k]) with
      | none =>
        obtain ⟨m, hm, hor⟩ := none_c hTr (a[k]) hp
        have HQ2 : Hid (acc ++ (s.drop l).take (k + 1 - l) ++ replS (pairF kv) 0 (s.drop (k + 1)) = R) := Lib.hid (step_skip hlk hks (by rw [hdr, replS_none hp, hca]) HQ.out)
        clear hTr hdr hca hks HQ hp
        have hm0 : (0 : Int) ≤ (m : Int) := by omega
        have hml : m ≤ 200 := by rcases hor with h | h <;> omega
        have HWM := Lib.hid (show wrap64 (m : Int) = (m : Int) from wrap_id _ (by omega) (by omega))
        rcases hor with hor | ⟨hmt, hor⟩
        · have e1 : ((m : Int) == (ts : Int)) = true := by rw [hor]; simp
          clear hor
          have hwm := HWM.out
          go_wp2_with fail
          go_quiet (fail)
          go_wp2_with fail
          clear hwm
          go_roundw
          case rel => exact ⟨z, l, k + 1, acc, rfl, rfl, rfl, rfl, by go_num, by omega, by omega, hl, HQ2, Lib.hid (HB.out.drewN _), Lib.hid (HW.out.trans (Below.of_drewN _ _ _)), HAL⟩
          case measure => simp [intOf]; omega
        · have e1 : ((m : Int) == (ts : Int)) = false := by rw [beq_eq_false_iff_ne]; omega
          have hm1 : (m : Int) < (ts : Int) := by omega
          have hwm := HWM.out
          go_wp2_with fail
          go_quiet (fail)
          go_wp2_with fail
          clear hwm
          go_roundw
          case rel => exact ⟨z, l, k + 1, acc, rfl, rfl, rfl, rfl, by go_num, by omega, by omega, hl, HQ2, Lib.hid (HB.out.drewN _), Lib.hid (HW.out.trans (Below.of_drewN _ _ _)), HAL⟩
          case measure => simp [intOf]; omega
      | some tv =>
        obtain ⟨t, v⟩ := tv
        obtain ⟨m, b, hm, hmt, hmb⟩ := some_c hTr (a[k]) (by rw [hp]; rfl)
        have hr : (s.drop (k + 1)).length ≤ 100000 := by have := HZ.out; simp; omega
        have C := fun W (hb : Below wr.heap.size wr W) => look_c (hTr.below hb) (a[k]) (s.drop (k + 1)) hr (by rw [hp]; rfl)
        have hx : a.extract k a.size = B (a[k] :: s.drop (k + 1)) := by
          rw [← hdr, ← HA.out, B_extract, size_B, List.take_length]
        rw [← hx] at C
        have hvz : v.length ≤ 100 := by
          obtain ⟨j, hj, _, e2⟩ := pairF_some hp
          have := HV.out _ (List.getElem_mem hj)
          rw [e2] at this; simpa using this
        have hm0 : (0 : Int) ≤ (m : Int) := by omega
        have hm1 : (m : Int) < (ts : Int) := by omega
        have HWM := Lib.hid (show wrap64 (m : Int) = (m : Int) from wrap_id _ (by omega) (by omega))
        have e1 : ((m : Int) == (ts : Int)) = false := by rw [beq_eq_false_iff_ne]; omega
        unfold LookR at C
        rw [hp] at C
        simp only at C
        cases hpre : t.isPrefixOf (s.drop (k + 1)) with
        | false =>
          rw [hpre] at C
          simp only [Bool.false_eq_true, if_false] at C
          have HQ2 : Hid (acc ++ (s.drop l).take (k + 1 - l) ++ replS (pairF kv) 0 (s.drop (k + 1)) = R) := Lib.hid (step_skip hlk hks (by rw [hdr, replS_miss hp (by rw [hpre]; simp), hca]) HQ.out)
          have HC := Lib.hid C
          clear hTr hdr hca hks HQ hp C hx hr hpre
          have hwm := HWM.out
          go_wp2_with fail
          go_quiet (fail)
          go_wp2_with fail
          clear hwm
          refine (HC.out _ (Below.of_drewN _ _ _)).mono ?_
          rintro e w2 ⟨rfl, q, rfl⟩
          go_wp2_with fail
          go_roundw
          case rel => exact ⟨z, l, k + 1, acc, rfl, rfl, rfl, rfl, by go_num, by omega, by omega, hl, HQ2, Lib.hid (HB.out.drewN _), Lib.hid (HW.out.trans (Below.of_drewN _ _ _)), HAL⟩
          case measure => simp [intOf]; omega
        | true =>
          rw [hpre] at C
          simp only [if_true] at C
          have hle : t.length ≤ (s.drop (k + 1)).length := (List.isPrefixOf_iff_prefix.1 hpre).length_le
          rw [List.length_drop] at hle
          obtain ⟨n, hn⟩ : ∃ n, 1 + t.length = n := ⟨_, rfl⟩
          have hn1 : 1 ≤ n := by omega
          have hkn : k + n ≤ a.size := by have := HZ.out; omega
          have HQ2 : Hid ((acc ++ (s.drop l).take (k - l) ++ v) ++ (s.drop (k + n)).take (k + n - (k + n)) ++ replS (pairF kv) 0 (s.drop (k + n)) = R) :=
            Lib.hid (step_hit v n (by rw [hdr, replS_hit hp hpre, List.drop_drop, ← hn]; congr 3; omega) HQ.out)
          rw [hn] at C
          have HC := Lib.hid C
          have hx1 : a.extract l k = B ((s.drop l).take (k - l)) := by
            rw [← HA.out, B_extract, List.drop_take]
          have HX1 := Lib.hid hx1
          have hsl : ((s.drop l).take (k - l)).length ≤ k - l := List.length_take_le _ _
          have HAL2 : Hid ((acc ++ (s.drop l).take (k - l) ++ v).length ≤ 100 * (k + n)) := Lib.hid (by have := HAL.out; simp only [List.length_append]; omega)
          have hz1 : acc.length + ((s.drop l).take (k - l)).length ≤ 100000000 := by have := HAL.out; omega
          have hz2 : (acc ++ (s.drop l).take (k - l)).length + v.length ≤ 100000000 := by have := HAL.out; rw [List.length_append]; omega
          have D1 := Lib.hid (fun W (h : Buf bb lo acc W) => aw_write bb lo acc ((s.drop l).take (k - l)) W h hz1)
          have D2 := Lib.hid (fun W (h : Buf bb lo (acc ++ (s.drop l).take (k - l)) W) => aw_write bb lo (acc ++ (s.drop l).take (k - l)) v W h hz2)
          obtain ⟨vb, hvb⟩ : ∃ x, B v = x := ⟨_, rfl⟩
          rw [hvb] at HC D2
          have e2 : ((n : Int) == 0) = false := by rw [beq_eq_false_iff_ne]; omega
          have hl0 : (0 : Int) ≤ (l : Int) := by omega
          have hl1 : (l : Int) ≤ (k : Int) := by omega
          clear hTr hdr hca hks HQ hp C hx hr hpre hn hx1 hsl hz1 hz2 hvb hle
          have HKN := Lib.hid hkn
          have HN1 := Lib.hid hn1
          clear hkn hn1
          have hwm := HWM.out
          go_wp2_with fail
          go_quiet (fail)
          go_wp2_with fail
          clear hwm
          refine (HC.out _ (Below.of_drewN _ _ _)).mono ?_
          rintro e w2 ⟨rfl, q, hw2⟩
          have HB2 : Hid (Buf bb lo acc w2) := Lib.hid (by rw [hw2]; exact (HB.out.drewN _).drewN _)
          have HW2 : Hid (Below W0.heap.size W0 w2) := Lib.hid (by rw [hw2]; exact (HW.out.trans (Below.of_drewN _ _ _)).trans (Below.of_drewN _ _ _))
          clear HC HB HW hw2 hm hmb c1 c4 c5 HWM
          have hmf : ∀ (fn : Fn) (first cap : Array Value) (w : World), (Instr.makeFunc fn first cap).run Tryz.prog w = .ok (.func fn first cap) w := fun _ _ _ _ => rfl
          have hna := nil_ahead
          have hme := meth_ws
          have HBd := Lib.hid (HB2.out.drew)
          have HWd := Lib.hid (HW2.out.drew)
          clear HB2 HW2
          go_wp2_with fail
          go_region_held3 (fun _ => True) (exact trivial) ((go_at_call 272; rw [HX1.out]; refine (D1.out _ HBd.out).mono ?_; rintro e w3 ⟨rfl, hb1, hb2⟩))
          have HB3 := Lib.hid (by assumption : Buf bb lo (acc ++ (s.drop l).take (k - l)) _)
          have HW3 := Lib.hid (HWd.out.trans (Below.mono (by assumption : Below lo _ _) hbb))
          clear HBd HWd D1
          go_wp2_with fail
          refine (D2.out _ HB3.out).mono ?_
          rintro e w4 ⟨rfl, hb3, hb4⟩
          have HB4 := Lib.hid hb3
          have HW4 := Lib.hid (HW3.out.trans (hb4.mono hbb))
          clear hb3 hb4 HB3 HW3 D2
          have hkn2 : k + n ≤ a.size := HKN.out
          have hn2 : 1 ≤ n := HN1.out
          have hle2 : k + n ≤ a.size + 1 := by omega
          go_wp2_with fail
          go_roundw
          case rel => exact ⟨_, k + n, k + n, acc ++ (s.drop l).take (k - l) ++ v, rfl, rfl, by go_num, rfl, by go_num, Nat.le_refl _, hle2, hkn2, HQ2, HB4, HW4, HAL2⟩
          case measure => simp [intOf]; omega
    · by_cases hke : k = a.size
      · subst hke
        have C := Lib.hid (fun W (hW : Below W0.heap.size W0 W) => lookup_end br _ W (HT.out.below hW).root rfl)
        have HQ2 : Hid (acc ++ (s.drop l).take (a.size + 1 - l) ++ replS (pairF kv) 0 (s.drop (a.size + 1)) = R) := Lib.hid (by
          have h := HQ.out
          have h2 := HZ.out
          rw [h2] at h ⊢
          exact step_end (by omega) h)
        have hx : a.extract a.size a.size = ⟨#[]⟩ := by
          have h := HA.out
          subst h
          rw [B_extract, size_B, List.take_length, List.drop_length]
          rfl
        have e1 : ((a.size : Int) != (a.size : Int)) = false := by simp
        clear HQ
        go_wp2_with fail
        refine (C.out _ HW.out).mono ?_
        rintro e w2 ⟨rfl, q, rfl⟩
        replace HB : Hid (Buf bb lo acc (wr.drewN q)) := Lib.hid (HB.out.drewN q)
        replace HW : Hid (Below W0.heap.size W0 (wr.drewN q)) := Lib.hid (HW.out.trans (Below.of_drewN _ _ _))
        clear C
        go_wp2_with fail
        go_roundw
        case rel => exact ⟨z, l, a.size + 1, acc, rfl, rfl, rfl, rfl, by go_num, by omega, by omega, hl, HQ2, HB, HW, HAL⟩
        case measure => simp [intOf]
      · obtain rfl : k = a.size + 1 := by omega
        have hq := HQ.out
        have h2 := HZ.out
        rw [h2] at hq
        have HO : Hid (acc ++ s.drop l = R) := Lib.hid (step_out (by omega) hq)
        clear hq h2 HQ
        by_cases hle : l = a.size
        · subst hle
          have HO2 : Hid (acc = R) := Lib.hid (by have h := HO.out; rw [List.drop_eq_nil_of_le (by have := HZ.out; omega), List.append_nil] at h; exact h)
          have e1 : ((a.size : Int) != (a.size : Int)) = false := by simp
          clear HO
          go_wp2_with fail
          go_ret2
          exact ⟨⟨_, rfl⟩, by rw [← HO2.out]; exact HB.out, HW.out⟩
        · have e1 : ((l : Int) != (a.size : Int)) = true := by rw [bne_iff_ne]; omega
          have hx : a.extract l a.size = B (s.drop l) := by
            rw [← HA.out, B_extract, size_B, List.take_length]
          have HX := Lib.hid hx
          clear hx
          have hmf : ∀ (fn : Fn) (first cap : Array Value) (w : World), (Instr.makeFunc fn first cap).run Tryz.prog w = .ok (.func fn first cap) w := fun _ _ _ _ => rfl
          have hl0 : (0 : Int) ≤ (l : Int) := by omega
          have hl1 : (l : Int) ≤ (a.size : Int) := by omega
          go_wp2_with fail
          have hna := nil_ahead
          have hme := meth_ws
          have C := Lib.hid (fun W (h : Buf bb lo acc W) => aw_write bb lo acc (s.drop l) W h (by have := HAL.out; have := HZ.out; simp; omega))
          have HBd := Lib.hid (HB.out.drew)
          have HWd := Lib.hid (HW.out.drew)
          clear HB HW
          go_region_with (go_at_call 272; rw [HX.out]; refine (C.out _ HBd.out).mono ?_; rintro e w2 ⟨rfl, hb1, hb2⟩)
          all_goals
            have HB := Lib.hid (by assumption : Buf bb lo (acc ++ s.drop l) _)
            have HW := Lib.hid (HWd.out.trans (Below.mono (by assumption : Below lo _ _) hbb))
            go_wp2_with fail
            go_ret2
            exact ⟨⟨_, rfl⟩, by rw [← HO.out]; exact HB.out, HW.out⟩
end Go.Proofs.YtbdcghbafopjjaaGreatDoor.Hand
end

section
namespace Go.Proofs.YtbdcghbafopjjaaGreatDoor.Hand
open Go.RowKit Go.Proofs.YtbdcghbafopjjaaGreatDoor.Pb Go.Proofs.YtbdcghbafopjjaaGreatDoor.Pl
theorem owns_string {W : World} {lo : Nat} {v : Value} {l : List UInt8} (h : W.ownsRow lo 5 1 v l.length (Lib.byteCells l)) : (convert 255 9 v).run Tryz.prog W = .ok (.string (B l)) W := by
  rcases h.2 with ⟨rfl, hn⟩ | ⟨g, cap, cur, rfl, _⟩
  · obtain rfl := List.eq_nil_of_length_eq_zero hn
    exact run_convert_bytes_nil W 255 5 Tryz.underlying255 Tryz.underlying5 0 0 9 Tryz.underlying9
  · have hc := h.cells (g := g) rfl
    exact run_convert_bytes_back (P := Tryz.prog) W 255 9 5 ⟨g, 0, none⟩ cap l Tryz.underlying255 Tryz.underlying5 Tryz.underlying9 (fun j hj => hc j _ (by simp [Lib.byteCells, List.getElem?_eq_getElem hj]))
set_option maxRecDepth 100000 in
set_option maxHeartbeats 4000000 in
theorem gen_replace (kv : List (List UInt8 × ByteArray)) (br bt ts : Nat) (s : List UInt8) (W0 : World) (hT : TrieAt kv br bt ts W0) (hs : s.length ≤ 100000)
    (hv : ∀ x ∈ kv, x.2.size ≤ 100) (hr : (replS (pairF kv) 0 s).length ≤ 100000000) :
    Calls Tryz.prog 261 #[.pointer (some ⟨br, 0, none⟩), .string (B s)] W0 fun e w' => e = .returned (.string (B (replS (pairF kv) 0 s))) ∧ Below W0.heap.size W0 w' := by
  obtain ⟨i, hi, hzz⟩ := Option.map_eq_some_iff.1 info_u8
  simp only [Prod.mk.injEq] at hzz
  obtain ⟨hz0, hs1, hb1⟩ := hzz
  obtain ⟨w1, hmk, hown, hgr⟩ := run_makeSlice_owned (P := Tryz.prog) W0 W0.heap.size 255 5 i (.int .u8 0) 1 Tryz.underlying255 hi hz0 hs1 .i64 .i64 s.length (by omega) (by rw [hb1]; omega) (by unfold maxLen; omega) (Nat.le_refl _)
  have hb1 : Below W0.heap.size W0 w1 := (Below.refl _ _).grown hgr (Nat.le_refl _) (fun k h => by cases h)
  have hlt1 : W0.heap.size < w1.heap.size := (hown.lt W0.heap.size rfl).2
  have hB0 : Buf w1.heap.size W0.heap.size [] (w1.alloc (.cells #[.slice (some ⟨W0.heap.size, 0, none⟩) 0 s.length] 255)) :=
    ⟨⟨_, heap_alloc_new _ _, hown.alloc _⟩, Nat.le_of_lt hlt1⟩
  have C := Lib.hid (gen_write kv br bt ts w1.heap.size W0.heap.size s W0 _ hT (hb1.alloc (Nat.le_of_lt hlt1) (.cells #[.slice (some ⟨W0.heap.size, 0, none⟩) 0 s.length] 255)) hs (Nat.le_refl _) hB0 hv)
  obtain ⟨R, hR⟩ : ∃ R, replS (pairF kv) 0 s = R := ⟨_, rfl⟩
  rw [hR] at C hr ⊢
  have hsz : (B s).size = s.length := by simp
  clear hR hB0 hb1 hlt1 hown hgr hi hz0 hs1
  go_enter Tryz.func261, Tryz.ntmps261
  go_wp2_with fail
  refine C.out.mono ?_
  rintro e w2 ⟨⟨n, rfl⟩, hB, hW⟩
  obtain ⟨v, hh, hown2⟩ := hB.val
  have hv1 := cell_of_one hh
  have hcv := owns_string hown2
  have HW := Lib.hid hW
  clear hmk hB hW hh hown2 C hT hv
  go_wp2_with fail
  go_ret
  exact ⟨rfl, HW.out⟩
end Go.Proofs.YtbdcghbafopjjaaGreatDoor.Hand
end

section
namespace Go.Proofs.YtbdcghbafopjjaaGreatDoor.Hand
open Go.RowKit Go.Proofs.YtbdcghbafopjjaaGreatDoor.Pb Go.Proofs.YtbdcghbafopjjaaGreatDoor.Pl
structure NewR (strs : List ByteArray) (rb b2 c : Nat) (w W : World) : Prop where
  blk : Blk rb #[.int .u32 0, .int .i32 0, .int .u32 0, .nilIface, .slice (some ⟨b2, 0, none⟩) strs.length c] W
  old : BlkF b2 strs.length (strV strs) W
  below : Below w.heap.size w W
  le : w.heap.size ≤ b2 ∧ b2 < rb ∧ rb < W.heap.size
theorem info_str : (Tryz.prog.info? 9).map (fun i => (i.zero, i.size, i.bytes)) = some (some (.string ByteArray.empty), 1, 16) := by kernel_rfl
theorem strV_get (l : List ByteArray) (j : Nat) (h : j < l.length) : (l.map Value.string)[j]? = some (strV l j) := by
  rw [List.getElem?_map, List.getElem?_eq_getElem h]
  unfold strV
  rw [List.getD_eq_getElem?_getD, List.getElem?_eq_getElem h]; rfl
theorem owns_blkF {W : World} {lo e g c : Nat} {l : List ByteArray} (h : W.ownsRow lo e 1 (.slice (some ⟨g, 0, none⟩) l.length c) l.length (l.map .string)) : BlkF g l.length (strV l) W := by
  refine ⟨fun j hj => ?_, fun j => ?_⟩
  · have := h.cells (g := g) rfl j _ (strV_get l j hj)
    have hadd : (⟨g, 0, none⟩ : Addr).add j = ⟨g, j, none⟩ := by unfold Addr.add; split <;> simp_all
    rw [hadd] at this; exact this
  · rcases h.2 with ⟨h1, _⟩ | ⟨g', cap, cur, h1, _, hh, _⟩
    · cases h1
    · have : g = g' := by simp at h1; exact h1.1
      subst this
      simp [World.frozen?, hh]
set_option maxRecDepth 100000 in
set_option maxHeartbeats 4000000 in
theorem new_replacer (bo cap : Nat) (strs : List ByteArray) (w : World) (ho : BlkF bo strs.length (strV strs) w) (hbo : bo < w.heap.size) (hn : 0 < strs.length) (h2 : strs.length % 2 = 0) (hm : strs.length ≤ 1000) :
    Calls Tryz.prog 122 #[.slice (some ⟨bo, 0, none⟩) strs.length cap] w fun e w' => ∃ rb b2 c, e = .returned (.pointer (some ⟨rb, 0, none⟩)) ∧ NewR strs rb b2 c w w' := by
  obtain ⟨i, hi, hzz⟩ := Option.map_eq_some_iff.1 info_str
  simp only [Prod.mk.injEq] at hzz
  obtain ⟨hz0, hs1, hb1⟩ := hzz
  obtain ⟨N, hN⟩ : ∃ N, strs.length = N := ⟨_, rfl⟩
  have hnews : ∀ j u, (strs.map Value.string)[j]? = some u → w.cell? ((⟨bo, 0, none⟩ : Addr).add j) = some u := by
    intro j u hu
    have hj : j < strs.length := by
      rcases Nat.lt_or_ge j strs.length with h | h
      · exact h
      · rw [List.getElem?_eq_none (by simpa using h)] at hu; cases hu
    have hadd : (⟨bo, 0, none⟩ : Addr).add j = ⟨bo, j, none⟩ := by unfold Addr.add; split <;> simp_all
    rw [hadd, ho.cell j hj, ← hu, strV_get strs j hj]
  have h1 : ∀ u ∈ strs.map Value.string, u.oneCell' = true := by
    intro u hu
    obtain ⟨_, _, rfl⟩ := List.mem_map.1 hu
    rfl
  have hlen : (strs.map Value.string).length = strs.length * 1 := by simp
  rw [hN] at hn h2 hm hlen ⊢
  have hrem : ((N : Int).tmod 2 == 1) = false := by
    rw [beq_eq_false_iff_ne, Int.tmod_eq_emod_of_nonneg (by omega)]; omega
  have hrem2 : ((N : Int) % 2 == 1) = false := by rw [beq_eq_false_iff_ne]; omega
  have HI := Lib.hid hi
  have HZ := Lib.hid hz0
  have HS1 := Lib.hid hs1
  have HB1 := Lib.hid hb1
  have HNEWS := Lib.hid hnews
  have H1 := Lib.hid h1
  have HL := Lib.hid hlen
  have HN := Lib.hid hN
  clear hi hz0 hs1 hb1 hnews h1 hlen ho hN
  go_enter Tryz.func122, Tryz.ntmps122
  go_wp2_with (with_reducible refine wpList_append_own _ rfl (.const (.slice none 0 0)) (.tmp 8) 118 rfl w.heap.size 9 i (.string ByteArray.empty) 1 16 Tryz.underlying118 HI.out HZ.out HS1.out HB1.out rfl (by decide) (.slice none 0 0) 0 [] rfl (World.ownsRow_nil _ _ _ _) ⟨bo, 0, none⟩ N cap (strs.map Value.string) rfl HL.out HNEWS.out H1.out (by unfold maxLen; omega) (by omega) (Nat.le_refl _) ?_)
  intro v' w1 hown hgr hnil
  have hbel : Below w.heap.size w w1 := (Below.refl _ _).grown hgr (Nat.le_refl _) (fun k h => by cases h)
  replace hown : w1.ownsRow w.heap.size 9 1 v' N (strs.map Value.string) := by simpa only [Nat.zero_add, List.nil_append] using hown
  rcases hown.2 with ⟨hv, h0⟩ | ⟨g, c, cur, rfl, hg1, hg2, _⟩
  · omega
  · have hlt := (hown.lt g rfl).2
    have hF : BlkF g strs.length (strV strs) w1 := by
      have := hown
      rw [← HN.out] at this
      exact owns_blkF this
    have HF := Lib.hid hF
    have HB := Lib.hid hbel
    clear hown hgr hnil hF hbel hg2
    have HA := Lib.hid (Below.alloc (Below.refl w1.heap.size w1) (Nat.le_refl _) (.cells #[.int .u32 0, .int .i32 0, .int .u32 0, .nilIface, .slice (some ⟨g, 0, none⟩) N c] 158))
    go_wp2_with fail
    go_ret
    refine ⟨w1.heap.size, g, c, rfl, ⟨?_, HF.out.below HA.out hlt, HB.out.trans (HA.out.mono HB.out.size), hg1, hlt, by simp⟩⟩
    rw [HN.out]
    exact Blk.of_alloc _ _ _
end Go.Proofs.YtbdcghbafopjjaaGreatDoor.Hand
end

section
namespace Go.Proofs.YtbdcghbafopjjaaGreatDoor.Hand
open Go.RowKit Go.Proofs.YtbdcghbafopjjaaGreatDoor.Pb Go.Proofs.YtbdcghbafopjjaaGreatDoor.Pl
structure Words (kv : List (List UInt8 × ByteArray)) : Prop where
  heads : Heads kv
  lens : ∀ x ∈ kv, x.1.length ≤ 1000
  vals : ∀ x ∈ kv, x.2.size ≤ 100
  many : kv.length ≤ 100
  cnt : cntU (keysU kv kv.length) 256 ≤ 200
  long : ∃ j, ∃ h : j < kv.length, kv[j].1.length ≠ 1
  two : 2 ≤ kv.length
theorem trie_of {kv : List (List UInt8 × ByteArray)} {n br bt ts : Nat} {w W : World} (hk : Words kv) (h : TrieSt n br bt (bt + 1) ts (keysU kv kv.length) kv kv.length w W) (h1 : br < bt) (h2 : ts ≤ 200) (h3 : ts = cntU (keysU kv kv.length) 256) : TrieAt kv br bt ts W := by
  obtain ⟨T, g1, g2, g3⟩ := h.tab
  exact ⟨h.root, ⟨T, g1, fun j hj c t e => g2 j hj hj c t e, fun x hx hxe => g3 x hx fun j hj _ => hxe j hj⟩, hk.heads, hk.lens, ⟨h1, h.size⟩, h3, h2⟩
theorem NodeAt.put {lo b b0 k : Nat} {t : List UInt8} {v : ByteArray} {p : Int} {W : World} (h : NodeAt lo b t v p W) (x : Value) (hb : b0 < lo) : NodeAt lo b t v p (W.setCell ⟨b0, k, none⟩ x) := by
  obtain ⟨h1, h2, h3⟩ := h
  refine ⟨h1, by simpa using h2, ?_⟩
  rcases h3 with ⟨ht, h3⟩ | ⟨ht, b2, h4, h5, h6, h7⟩
  · exact .inl ⟨ht, h3.other k x (by omega)⟩
  · exact .inr ⟨ht, b2, h4, by simpa using h5, h6.other k x (by omega), h7.other k x (by omega)⟩
theorem TrieAt.put {kv : List (List UInt8 × ByteArray)} {br bt ts b0 k : Nat} {W : World} (h : TrieAt kv br bt ts W) (x : Value) (hb : b0 < br) : TrieAt kv br bt ts (W.setCell ⟨b0, k, none⟩ x) := by
  obtain ⟨T, h1, h2, h3⟩ := h.tab
  have hl := h.lt
  refine ⟨h.root.other k x (by omega), ⟨T, h1.other k x (by omega), fun j hj c t e => ?_, h3⟩, h.heads, h.lens, ⟨hl.1, by simpa using hl.2⟩, h.many⟩
  obtain ⟨b, p, g1, g2, g3⟩ := h2 j hj c t e
  exact ⟨b, p, g1, g2, g3.put x (by omega)⟩
def Built (kv : List (List UInt8 × ByteArray)) (w : World) (e : Ending) (w' : World) : Prop :=
  e = .returned (.iface 186 (.pointer (some ⟨w.heap.size, 0, none⟩))) ∧ ∃ bt ts, TrieAt kv w.heap.size bt ts w' ∧ Below w.heap.size w w'
set_option maxRecDepth 100000 in
set_option maxHeartbeats 8000000 in
theorem build_gen (kv : List (List UInt8 × ByteArray)) (rb b2 c : Nat) (w : World) (hk : Words kv) (hc : w.cell? ⟨rb, 4, none⟩ = some (.slice (some ⟨b2, 0, none⟩) (2 * kv.length) c)) (hb : BlkF b2 (2 * kv.length) (strV (flatKV kv)) w) (hb2 : b2 < w.heap.size) :
    Calls Tryz.prog 178 #[.pointer (some ⟨rb, 0, none⟩)] w (Built kv w) := by
  have CM : Hid (Calls Tryz.prog 195 #[.slice (some ⟨b2, 0, none⟩) (2 * kv.length) c] w (fun e w' => e = .returned (.pointer (some ⟨w.heap.size, 0, none⟩)) ∧ ∃ bt ts, TrieAt kv w.heap.size bt ts w' ∧ Below w.heap.size w w')) := Lib.hid (by
    refine (make_gen b2 c kv w hk.many hk.cnt hk.lens hk.heads hb hb2).mono ?_
    rintro e w' ⟨rfl, bt, ts, h0, h1, h2, h4⟩
    exact ⟨rfl, bt, ts, trie_of hk h4 h2 h1 h0, h4.below⟩)
  obtain ⟨jl, hjl, hjn⟩ := hk.long
  have hmany := hk.many
  have htwo := hk.two
  have e2 : (2 * (kv.length : Int) == 2) = false := by rw [beq_eq_false_iff_ne]; omega
  have HB := Lib.hid hb
  have HJ := Lib.hid hjn
  clear hb hb2 hk hjn
  go_enter Tryz.func178, Tryz.ntmps178
  go_wp2_with fail
  go_loop [4, 5] (fun x i => ∃ (b : Bool) (q : Nat), x = .bool b ∧ i = .int .i64 (2 * (q : Int)) ∧ q ≤ jl) (fun _ i => 2 * kv.length - (intOf i).toNat)
  case atStart => exact ⟨true, 0, rfl, rfl, Nat.zero_le _⟩
  case round =>
    obtain ⟨b, q, rfl, rfl, hq⟩ := hrel
    have hlt : q < kv.length := by omega
    have hkey := HB.out.cell (2 * q) (by omega)
    have hval := HB.out.cell (2 * q + 1) (by omega)
    rw [strV_at (flatKV_key kv q hlt)] at hkey
    rw [strV_at (flatKV_val kv q hlt)] at hval
    obtain ⟨K, hK⟩ : ∃ K, B kv[q].1 = K := ⟨_, rfl⟩
    obtain ⟨V, hV⟩ : ∃ V, kv[q].2 = V := ⟨_, rfl⟩
    have hKs : K.size = kv[q].1.length := by rw [← hK]; simp
    rw [hK] at hkey
    rw [hV] at hval
    clear hK hV
    by_cases h1 : K.size = 1
    · have hqj : q < jl := by
        rcases Nat.lt_or_ge q jl with h | h
        · exact h
        · obtain rfl : q = jl := by omega
          exact absurd (hKs.symm.trans h1) HJ.out
      have e1 : ((K.size : Int) != 1) = false := by rw [h1]; rfl
      clear hKs h1
      by_cases h3 : V.size = 1
      · have e3 : ((V.size : Int) != 1) = false := by rw [h3]; rfl
        clear h3
        go_wp2_with fail
        go_round
        case rel => exact ⟨b, q + 1, rfl, by go_num, by omega⟩
        case measure => simp [intOf]; omega
      · have e3 : ((V.size : Int) != 1) = true := by rw [bne_iff_ne]; omega
        clear h3
        go_wp2_with fail
        go_round
        case rel => exact ⟨false, q + 1, rfl, by go_num, by omega⟩
        case measure => simp [intOf]; omega
    · have e1 : ((K.size : Int) != 1) = true := by rw [bne_iff_ne]; omega
      clear hKs h1
      go_wp2_with fail
      refine CM.out.mono ?_
      rintro e w' ⟨rfl, hw⟩
      have HW := Lib.hid hw
      clear hw
      go_wp2_with fail
      go_ret
      exact ⟨rfl, HW.out⟩
structure Ready (kv : List (List UInt8 × ByteArray)) (rb : Nat) (W : World) : Prop where
  ex : ∃ br bt ts, W.cell? ⟨rb, 3, none⟩ = some (.iface 186 (.pointer (some ⟨br, 0, none⟩))) ∧ TrieAt kv br bt ts W ∧ rb < br
set_option maxRecDepth 100000 in
set_option maxHeartbeats 8000000 in
theorem build_once (kv : List (List UInt8 × ByteArray)) (rb b2 c n : Nat) (w : World) (hk : Words kv) (hr : Blk rb #[.int .u32 0, .int .i32 1, .int .u32 0, .nilIface, .slice (some ⟨b2, 0, none⟩) (2 * kv.length) c] w) (hb : BlkF b2 (2 * kv.length) (strV (flatKV kv)) w)
    (hb2 : b2 < w.heap.size) (hrb : rb < w.heap.size) (hn : n ≤ rb) : OnceRun rb w (fun w' => Ready kv rb w' ∧ Below n w w') := by
  refine ⟨?_⟩
  have hc4 := hr.cell 4 (by simp)
  simp only [List.getElem?_toArray, List.getElem?_cons_succ, List.getElem?_cons_zero] at hc4
  have C := Lib.hid (build_gen kv rb b2 c w hk hc4 hb hb2)
  have HR := Lib.hid hr
  clear hr hc4 hb hb2 hk
  go_enter Tryz.func161, Tryz.ntmps161
  go_wp2_with fail
  refine C.out.mono ?_
  rintro e w1 ⟨rfl, bt, ts, hT, hB⟩
  have hr1 := HR.out.below hB hrb
  have c3 := hr1.cell 3 (by simp)
  simp only [List.getElem?_toArray, List.getElem?_cons_succ, List.getElem?_cons_zero] at c3
  have c4 := fun x => (hr1.set 3 x (by simp)).cell 4 (by simp)
  simp only [List.setIfInBounds_toArray, List.set_cons_succ, List.set_cons_zero, List.getElem?_toArray, List.getElem?_cons_succ, List.getElem?_cons_zero] at c4
  have hf := hr1.open_
  have hfin := fun x y => (hr1.set 3 x (by simp)).set 4 y (by simp)
  simp only [List.setIfInBounds_toArray, List.set_cons_succ, List.set_cons_zero] at hfin
  have HF := Lib.hid hfin
  have HT := Lib.hid (fun x y => (hT.put (b0 := rb) (k := 3) x hrb).put (b0 := rb) (k := 4) y hrb)
  have HB := Lib.hid (fun x y => ((hB.mono (show n ≤ w.heap.size by omega)).setCell (p := ⟨rb, 3, none⟩) hn x).setCell (p := ⟨rb, 4, none⟩) hn y)
  clear hr1 hfin hT hB C HR
  go_wp2_with fail
  go_end0
  refine ⟨rfl, ?_, ?_, ?_, ?_, ⟨⟨w.heap.size, bt, ts, ?_, HT.out _ _, hrb⟩⟩, HB.out _ _⟩
  · exact (HF.out _ _).cell 0 (by simp)
  · exact (HF.out _ _).cell 1 (by simp)
  · exact (HF.out _ _).open_ 0
  · exact (HF.out _ _).open_ 1
  · exact (HF.out _ _).cell 3 (by simp)
theorem meth_rep (n : Nat) (a : Addr) (w : World) : (method (n + 1) 186 (.pointer (some a)) "Replace").run Tryz.prog w = .ok (261, .pointer (some a)) w := by kernel_rfl
set_option maxRecDepth 100000 in
set_option maxHeartbeats 8000000 in
theorem repl_replace (kv : List (List UInt8 × ByteArray)) (rb b2 c n : Nat) (s : List UInt8) (w0 w : World) (hk : Words kv) (hN : NewR (flatKV kv) rb b2 c w0 w) (hn : n ≤ w0.heap.size) (hs : s.length ≤ 100000) (hr : (replS (pairF kv) 0 s).length ≤ 100000000) :
    Calls Tryz.prog 123 #[.pointer (some ⟨rb, 0, none⟩), .string (B s)] w fun e w' => e = .returned (.string (B (replS (pairF kv) 0 s))) ∧ Below n w w' := by
  have hlen := flatKV_length kv
  obtain ⟨hblk, hold, hbel, hle⟩ := hN
  rw [hlen] at hblk hold
  have h1 := hblk.set 1 (.int .i32 1) (by simp)
  simp only [List.setIfInBounds_toArray, List.set_cons_succ, List.set_cons_zero] at h1
  have hon := build_once kv rb b2 c n (w.setCell ⟨rb, 1, none⟩ (.int .i32 1)) hk h1 (hold.other 1 _ (by omega)) (by simp; omega) (by simp; omega) (by omega)
  have g0 := hblk.cell 0 (by simp)
  have g1 := hblk.cell 1 (by simp)
  have C := Lib.hid (once_do rb _ w g0 g1 (hblk.open_ 0) (hblk.open_ 1) hon)
  have hrn : n ≤ rb := by omega
  have hnw : n ≤ w.heap.size := by omega
  have hmf : ∀ (fn : Fn) (first cap : Array Value) (w : World), (Instr.makeFunc fn first cap).run Tryz.prog w = .ok (.func fn first cap) w := fun _ _ _ _ => rfl
  clear hblk hold hbel h1 hon g0 g1 hlen hle
  go_enter Tryz.func123, Tryz.ntmps123
  go_wp2_with fail
  refine C.out.mono ?_
  rintro e w1 ⟨rfl, w2, ⟨⟨br, bt, ts, hc3, hT, hlt⟩, hB⟩, rfl⟩
  have hd : Below w2.heap.size w2 w2.drew := Below.drew (Below.refl _ _)
  have hT2 := ((hT.below hd).put (b0 := rb) (k := 0) (.int .u32 1) hlt).put (b0 := rb) (k := 1) (.int .i32 0) hlt
  have c3 : ((w2.drew.setCell ⟨rb, 0, none⟩ (.int .u32 1)).setCell ⟨rb, 1, none⟩ (.int .i32 0)).cell? ⟨rb, 3, none⟩ = some (.iface 186 (.pointer (some ⟨br, 0, none⟩))) := by
    rw [World.cell?_setCell_other _ _ _ _ (ne_off (by decide)), World.cell?_setCell_other _ _ _ _ (ne_off (by decide))]
    exact hc3
  have hbl : Below n w ((w2.drew.setCell ⟨rb, 0, none⟩ (.int .u32 1)).setCell ⟨rb, 1, none⟩ (.int .i32 0)) := by
    refine ((Below.drew ?_).setCell hrn _).setCell hrn _
    exact ((Below.refl n w).setCell (p := ⟨rb, 1, none⟩) hrn _).trans hB
  generalize (w2.drew.setCell ⟨rb, 0, none⟩ (.int .u32 1)).setCell ⟨rb, 1, none⟩ (.int .i32 0) = W3 at hT2 c3 hbl ⊢
  have D := Lib.hid (gen_replace kv br bt ts s W3 hT2 hs hk.vals hr)
  have HBL := Lib.hid hbl
  have hme := meth_rep
  clear hT hT2 hd hB hc3 hbl C hk
  go_wp2_with fail
  refine D.out.mono ?_
  rintro e w4 ⟨rfl, hb4⟩
  have HB4 := Lib.hid (HBL.out.trans (hb4.mono (Nat.le_trans hnw HBL.out.size)))
  clear hb4 D
  go_wp2_with fail
  go_ret
  exact ⟨rfl, HB4.out⟩
end Go.Proofs.YtbdcghbafopjjaaGreatDoor.Hand
end

section
namespace Go.Proofs.YtbdcghbafopjjaaGreatDoor.Hand
open Go.RowKit Go.Proofs.YtbdcghbafopjjaaGreatDoor.Pb Go.Proofs.YtbdcghbafopjjaaGreatDoor.Pl
theorem replS_length {f : UInt8 → Option (List UInt8 × List UInt8)} (hf : ∀ c t v, f c = some (t, v) → v.length ≤ 100) : ∀ (s : List UInt8) (k : Nat), (replS f k s).length ≤ 100 * s.length := by
  intro s
  induction s with
  | nil => intro k; rw [replS_nil]; simp
  | cons c r ih =>
    intro k
    cases k with
    | succ k => have := ih k; simp only [replS, List.length_cons]; omega
    | zero =>
      simp only [replS]
      split
      · rename_i t v h
        have h1 := hf c t v h
        split
        · have := ih t.length; simp only [List.length_append, List.length_cons]; omega
        · have := ih 0; simp only [List.length_cons]; omega
      · have := ih 0; simp only [List.length_cons]; omega
theorem pairF_val {kv : List (List UInt8 × ByteArray)} (hv : ∀ x ∈ kv, x.2.size ≤ 100) (c : UInt8) (t v : List UInt8) (h : pairF kv c = some (t, v)) : v.length ≤ 100 := by
  obtain ⟨j, hj, _, e⟩ := pairF_some h
  have := hv _ (List.getElem_mem hj)
  rw [e] at this
  simpa using this
set_option maxRecDepth 100000 in
set_option maxHeartbeats 2000000 in
theorem replace_c (kv : List (List UInt8 × ByteArray)) (hk : Words kv) (bo cap : Nat) (s : List UInt8) (w : World) (ho : BlkF bo (2 * kv.length) (strV (flatKV kv)) w) (hbo : bo < w.heap.size) (hs : s.length ≤ 100000) :
    Calls Tryz.prog 77 #[.string (B s), .slice (some ⟨bo, 0, none⟩) (2 * kv.length) cap] w fun e w' => e = .returned (.string (B (replS (pairF kv) 0 s))) ∧ Below w.heap.size w w' := by
  have hl := flatKV_length kv
  have hr : (replS (pairF kv) 0 s).length ≤ 100000000 := by
    have := replS_length (pairF_val hk.vals) s 0
    omega
  have h2 := hk.two
  have hm := hk.many
  have C1 := new_replacer bo cap (flatKV kv) w (by rw [hl]; exact ho) hbo (by omega) (by omega) (by omega)
  rw [hl] at C1
  replace C1 := Lib.hid C1
  have C2 := Lib.hid (fun rb b2 c w1 (hN : NewR (flatKV kv) rb b2 c w w1) => repl_replace kv rb b2 c w.heap.size s w w1 hk hN (Nat.le_refl _) hs hr)
  clear hl hr h2 hm hk ho hbo
  go_enter Tryz.func77, Tryz.ntmps77
  go_wp2_with fail
  refine C1.out.mono ?_
  rintro e w1 ⟨rb, b2, c, rfl, hN⟩
  have HN := Lib.hid hN
  clear hN C1
  go_wp2_with fail
  refine (C2.out rb b2 c _ HN.out).mono ?_
  rintro e w2 ⟨rfl, hb⟩
  have HB := Lib.hid (HN.out.below.trans hb)
  clear hb C2 HN
  go_wp2_with fail
  go_ret
  exact ⟨rfl, HB.out⟩
def escP : List (List UInt8 × ByteArray) := [([38], B wAmp), ([60], B wLt), ([62], B wGt), ([34], B wQuot), ([39], B wApos), ([13], B wCr), ([0], B wBad), ([239, 187, 191], B wMark)]
theorem escP_pair : pairF escP = escF := by
  funext c
  have : ∀ n : Fin 256, pairF escP (UInt8.ofNat n.val) = escF (UInt8.ofNat n.val) := by decide +kernel
  have h' := this ⟨c.toNat, c.toNat_lt⟩
  simpa using h'
theorem heads_of {kv : List (List UInt8 × ByteArray)} (h : (∀ x ∈ kv, x.1 ≠ []) ∧ ∀ i j : Fin kv.length, i ≠ j → kv[i].1.head? ≠ kv[j].1.head?) : Heads kv :=
  ⟨h.1, fun i j hi hj hne => h.2 ⟨i, hi⟩ ⟨j, hj⟩ (by simpa using hne)⟩
theorem escP_words : Words escP where
  heads := heads_of (by decide +kernel)
  lens := by decide +kernel
  vals := by decide +kernel
  many := by decide
  cnt := by decide +kernel
  long := ⟨7, by decide, by decide⟩
  two := by decide
def escCells : Array Value := #[.string ⟨#[38]⟩, .string ⟨#[38, 97, 109, 112, 59]⟩, .string ⟨#[60]⟩, .string ⟨#[38, 108, 116, 59]⟩, .string ⟨#[62]⟩, .string ⟨#[38, 103, 116, 59]⟩, .string ⟨#[34]⟩, .string ⟨#[38, 113, 117, 111, 116, 59]⟩,
  .string ⟨#[39]⟩, .string ⟨#[38, 35, 51, 57, 59]⟩, .string ⟨#[13]⟩, .string ⟨#[38, 35, 49, 51, 59]⟩, .string ⟨#[0]⟩, .string ⟨#[239, 191, 189]⟩, .string ⟨#[239, 187, 191]⟩, .string ⟨#[38, 35, 54, 53, 50, 55, 57, 59]⟩]
theorem cells_strs {l : List ByteArray} {cs : Array Value} (h : cs.toList = l.map .string) (t : TypeId) (w : World) : BlkF w.heap.size l.length (strV l) (w.alloc (.cells cs t)) := by
  refine ⟨fun j hj => (World.cell?_alloc_at _ _ _ j rfl).trans ?_, fun j => World.frozen?_alloc_at _ _ _ j rfl⟩
  rw [← strV_get l j hj, ← h, Array.getElem?_toList]
theorem sign_mark : signB 65279 = ⟨#[239, 187, 191]⟩ := by rfl
set_option maxRecDepth 100000 in
set_option maxHeartbeats 2000000 in
theorem marked_c (s : List UInt8) (w : World) (hs : s.length ≤ 100000) :
    Calls Tryz.prog 46 #[.string (B s)] w fun e w' => e = .returned (.string (B (escL s))) ∧ Below w.heap.size w w' := by
  have C1 := sign_c 65279 w (by omega)
  rw [sign_mark] at C1
  replace C1 := Lib.hid C1
  have hF : BlkF w.heap.size (2 * escP.length) (strV (flatKV escP)) (w.alloc (.cells escCells 9)) := cells_strs (l := flatKV escP) rfl 9 w
  have C2 : Hid (Calls Tryz.prog 77 #[.string (B s), .slice (some ⟨w.heap.size, 0, none⟩) 16 16] (w.alloc (.cells escCells 9)) fun e w' => e = .returned (.string (B (escL s))) ∧ Below w.heap.size w w') := Lib.hid (by
    have := replace_c escP escP_words w.heap.size 16 s _ hF (by simp) hs
    rw [escP_pair] at this
    refine this.mono ?_
    rintro e w' ⟨h1, h2⟩
    exact ⟨h1, (Below.alloc (Below.refl _ _) (Nat.le_refl _) (.cells escCells 9)).trans (h2.mono (by simp))⟩)
  clear hF
  unfold escCells at C2
  go_enter Tryz.func46, Tryz.ntmps46
  go_wp2_with fail
  refine C1.out.mono ?_
  rintro e w1 ⟨rfl, rfl⟩
  go_wp2_with fail
  refine C2.out.mono ?_
  rintro e w2 ⟨rfl, hb⟩
  go_wp2_with fail
  go_ret
  exact ⟨rfl, hb⟩
theorem pre10 (s : List UInt8) : Lib.hasPrefix s [10] = (s.head? == some 10) := by
  cases s with
  | nil => rfl
  | cons c r => rw [Bool.eq_iff_iff]; simp only [Lib.hasPrefix, List.isPrefixOf, Bool.and_true, beq_iff_eq, List.head?_cons, Option.some.injEq]; exact eq_comm
set_option maxRecDepth 100000 in
set_option maxHeartbeats 4000000 in
theorem enc_c (k : Int) (s : List UInt8) (w : World) (hs : s.length ≤ 100000) :
    Calls Tryz.prog 24 #[.int .i64 k, .string (B s)] w fun e w' => e = .returned (.string (B (encL k s))) ∧ Below w.heap.size w w' := by
  have C1 := Lib.hid (fun W => marked_c s W hs)
  have C2 := fun W => hasPrefix_t (B s) ⟨#[10]⟩ W
  have hpre : Lib.hasPrefix (B s).data.toList (⟨#[10]⟩ : ByteArray).data.toList = (s.head? == some 10) := by rw [B_data]; exact pre10 s
  rw [hpre] at C2
  clear hpre
  obtain ⟨a, ha⟩ : ∃ a, B s = a := ⟨_, rfl⟩
  rw [ha] at C1 C2 ⊢
  replace C2 := Lib.hid C2
  clear ha
  by_cases h0 : k = 0
  · subst h0
    have hr : encL 0 s = escL s := by simp [encL]
    rw [hr]
    go_enter Tryz.func24, Tryz.ntmps24
    go_wp2_with fail
    refine (C1.out _).mono ?_
    rintro e w1 ⟨rfl, hb⟩
    go_wp2_with fail
    go_ret
    exact ⟨rfl, hb⟩
  by_cases h1 : k = 1
  · subst h1
    have hr : encL 1 s = escL s := by simp [encL]
    rw [hr]
    go_enter Tryz.func24, Tryz.ntmps24
    go_wp2_with fail
    refine (C1.out _).mono ?_
    rintro e w1 ⟨rfl, hb⟩
    go_wp2_with fail
    go_ret
    exact ⟨rfl, hb⟩
  by_cases h2 : k = 2
  · subst h2
    cases hh : (s.head? == some 10) with
    | true =>
      rw [hh] at C2
      have hr : B (encL 2 s) = ⟨#[10]⟩ ++ B (escL s) := by
        have h : s.head? = some 10 := by simpa using hh
        have e : encL 2 s = [10] ++ escL s := by simp [encL, h]
        rw [e, ← B_append]; rfl
      rw [hr]
      have hz : (escL s).length ≤ 100000000 := by
        have := (esc_length s.length s (Nat.le_refl _)).1
        omega
      have hz2 : (B (escL s)).size ≤ 100000000 := by simpa using hz
      obtain ⟨b, hb'⟩ : ∃ b, B (escL s) = b := ⟨_, rfl⟩
      rw [hb'] at C1 hz2 ⊢
      clear hh hr hz hb' h0 h1
      go_enter Tryz.func24, Tryz.ntmps24
      go_wp2_with fail
      refine (C1.out _).mono ?_
      rintro e w1 ⟨rfl, hb⟩
      go_wp2_with fail
      refine (C2.out _).mono ?_
      rintro e w2 ⟨rfl, rfl⟩
      go_wp2_with fail
      go_ret
      exact ⟨rfl, hb⟩
    | false =>
      rw [hh] at C2
      have hr : encL 2 s = escL s := by
        have h : ¬ s.head? = some 10 := by simpa using hh
        simp [encL, h]
      rw [hr]
      clear hh hr h0 h1
      go_enter Tryz.func24, Tryz.ntmps24
      go_wp2_with fail
      refine (C1.out _).mono ?_
      rintro e w1 ⟨rfl, hb⟩
      go_wp2_with fail
      refine (C2.out _).mono ?_
      rintro e w2 ⟨rfl, rfl⟩
      go_wp2_with fail
      go_ret
      exact ⟨rfl, hb⟩
  · have hr : encL k s = [] := by simp [encL, h0, h1, h2]
    rw [hr]
    have e0 : (k != 0) = true := by rw [bne_iff_ne]; exact h0
    have e1 : (k != 1) = true := by rw [bne_iff_ne]; exact h1
    have e2 : (k != 2) = true := by rw [bne_iff_ne]; exact h2
    clear h0 h1 h2 hr
    go_enter Tryz.func24, Tryz.ntmps24
    go_wp2_with fail
    go_ret
    exact ⟨rfl, Below.refl _ _⟩
end Go.Proofs.YtbdcghbafopjjaaGreatDoor.Hand
end

section
namespace Go.Proofs.YtbdcghbafopjjaaGreatDoor.Hand
open Go Go.RowKit Go.Proofs.YtbdcghbafopjjaaGreatDoor.Pl Go.Proofs.YtbdcghbafopjjaaGreatDoor.Pb
def escape_Encode.f (a0 : Int) (a1 : ByteArray) : Option ByteArray := if a1.size ≤ 100000 then some (B (encL a0 a1.data.toList)) else none
theorem escape_Encode.calls (a0 : Int) (a1 r : ByteArray) (w : World) (h : escape_Encode.f a0 a1 = some r) :
    Calls Tryz.prog 24 #[.int .i64 a0, .string a1] w fun e w' => e = .returned (.string r) ∧ Below w.heap.size w w' := by
  obtain ⟨hc, h⟩ := hg_split h
  obtain rfl := Option.some.inj h
  have := enc_c a0 a1.data.toList w (by rw [Array.length_toList]; exact hc)
  rwa [← B_of] at this
end Go.Proofs.YtbdcghbafopjjaaGreatDoor.Hand
end

section
namespace Go.Proofs.YtbdcghbafopjjaaGreatDoor.Su
open Go.RowKit Go.Proofs.YtbdcghbafopjjaaGreatDoor.K0 Go.Proofs.YtbdcghbafopjjaaGreatDoor.Hand Go.Proofs.YtbdcghbafopjjaaGreatDoor.Sa Go.Proofs.YtbdcghbafopjjaaGreatDoorW.PrintWords Go.Proofs.YtbdcghbafopjjaaGreatDoorW.PrintLast Go.Proofs.YtbdcghbafopjjaaGreatDoorW.PrintMore
attribute [local go_sem] max2_int min2_int max_two min_two max_three min_three max_four min_four  
set_option linter.unusedVariables false
set_option linter.unusedSimpArgs false
noncomputable def errW : Option Int → Value
  | none => .nilIface
  | some c => .iface 0 (.int .i64 c)
theorem errW_none : errW none = .nilIface := rfl
theorem errW_some (c : Int) : errW (some c) = .iface 0 (.int .i64 c) := rfl
end Go.Proofs.YtbdcghbafopjjaaGreatDoor.Su
end

section
namespace Go.Proofs.YtbdcghbafopjjaaGreatDoor.Su
open Go.RowKit Go.Proofs.YtbdcghbafopjjaaGreatDoor.K0 Go.Proofs.YtbdcghbafopjjaaGreatDoor.Hand Go.Proofs.YtbdcghbafopjjaaGreatDoor.Sa Go.Proofs.YtbdcghbafopjjaaGreatDoorW.PrintWords Go.Proofs.YtbdcghbafopjjaaGreatDoorW.PrintLast Go.Proofs.YtbdcghbafopjjaaGreatDoorW.PrintMore
attribute [local go_sem] max2_int min2_int max_two min_two max_three min_three max_four min_four  
set_option linter.unusedVariables false
set_option linter.unusedSimpArgs false
noncomputable def flaillaw23_awake.f  : Option (Bool) := (context_Parse.f 0 false (⟨#[97, 60, 98, 62]⟩ : ByteArray)).bind fun bt101 => ((context_Parse.f 1 false (⟨#[97, 62, 98]⟩ : ByteArray)).bind fun bt103 => ((context_Parse.f 2 false (⟨#[10, 97]⟩ : ByteArray)).bind fun bt105 => (if bt101.2 = true then (some false) else (if bt103.2 = true then (if bt105.2 = true then (if bt103.1.toList = ([97, 62, 98] : List UInt8) then (if bt105.1.toList = ([97] : List UInt8) then ((context_Wrap.f 1 true (⟨#[122]⟩ : ByteArray)).bind fun t107 => (some (t107.toList == ([60, 97, 32, 120, 61, 39, 122, 39, 62] : List UInt8)))) else (some false)) else (some false)) else (some false)) else (some false)))))
set_option maxHeartbeats 8000000 in
set_option maxRecDepth 100000 in
theorem flaillaw23_awake.calls  (r : Bool) (w : World) (hGl : Glob w) (h : flaillaw23_awake.f  = some r) :
    Calls Tryz.prog 17 #[] w fun e w' => e = .returned (.bool r) ∧ Below w.heap.size w w' := by
  have HB := Aside0.mk (Below.refl w.heap.size w)
  have H : ((context_Parse.f 0 false (⟨#[97, 60, 98, 62]⟩ : ByteArray)).bind fun bt101 => ((context_Parse.f 1 false (⟨#[97, 62, 98]⟩ : ByteArray)).bind fun bt103 => ((context_Parse.f 2 false (⟨#[10, 97]⟩ : ByteArray)).bind fun bt105 => (if bt101.2 = true then (some false) else (if bt103.2 = true then (if bt105.2 = true then (if bt103.1.toList = ([97, 62, 98] : List UInt8) then (if bt105.1.toList = ([97] : List UInt8) then ((context_Wrap.f 1 true (⟨#[122]⟩ : ByteArray)).bind fun t107 => (some (t107.toList == ([60, 97, 32, 120, 61, 39, 122, 39, 62] : List UInt8)))) else (some false)) else (some false)) else (some false)) else (some false)))))) = some r := h
  clear h
  replace H := Option.bind_eq_some_iff.mp H
  obtain ⟨⟨t101, t102⟩, A10, H⟩ := H
  replace H : ((context_Parse.f 1 false (⟨#[97, 62, 98]⟩ : ByteArray)).bind fun bt103 => ((context_Parse.f 2 false (⟨#[10, 97]⟩ : ByteArray)).bind fun bt105 => (if t102 = true then (some false) else (if bt103.2 = true then (if bt105.2 = true then (if bt103.1.toList = ([97, 62, 98] : List UInt8) then (if bt105.1.toList = ([97] : List UInt8) then ((context_Wrap.f 1 true (⟨#[122]⟩ : ByteArray)).bind fun t107 => (some (t107.toList == ([60, 97, 32, 120, 61, 39, 122, 39, 62] : List UInt8)))) else (some false)) else (some false)) else (some false)) else (some false))))) = some r := H
  have A1 := Aside0.mk A10
  clear A10
  replace H := Option.bind_eq_some_iff.mp H
  obtain ⟨⟨t103, t104⟩, A20, H⟩ := H
  replace H : ((context_Parse.f 2 false (⟨#[10, 97]⟩ : ByteArray)).bind fun bt105 => (if t102 = true then (some false) else (if t104 = true then (if bt105.2 = true then (if t103.toList = ([97, 62, 98] : List UInt8) then (if bt105.1.toList = ([97] : List UInt8) then ((context_Wrap.f 1 true (⟨#[122]⟩ : ByteArray)).bind fun t107 => (some (t107.toList == ([60, 97, 32, 120, 61, 39, 122, 39, 62] : List UInt8)))) else (some false)) else (some false)) else (some false)) else (some false)))) = some r := H
  have A2 := Aside0.mk A20
  clear A20
  replace H := Option.bind_eq_some_iff.mp H
  obtain ⟨⟨t105, t106⟩, A30, H⟩ := H
  replace H : (if t102 = true then (some false) else (if t104 = true then (if t106 = true then (if t103.toList = ([97, 62, 98] : List UInt8) then (if t105.toList = ([97] : List UInt8) then ((context_Wrap.f 1 true (⟨#[122]⟩ : ByteArray)).bind fun t107 => (some (t107.toList == ([60, 97, 32, 120, 61, 39, 122, 39, 62] : List UInt8)))) else (some false)) else (some false)) else (some false)) else (some false))) = some r := H
  have A3 := Aside0.mk A30
  clear A30
  by_cases c4 : t102 = true
  · subst c4
    have H1 : (some false) = some r := by rw [if_pos rfl] at H; exact H
    clear H
    have H := H1
    clear H1
    obtain rfl := Option.some.inj H
    go_enter Tryz.func17, Tryz.ntmps17
    go_wp2_with (first | ((with_reducible refine gate_callee (f := 18) rfl ?_); refine goesL_ (some 8) rfl rfl Tryz.func18 (by kernel_rfl) rfl #[.int .i64 0, .bool false, .string (⟨#[97, 60, 98, 62]⟩ : ByteArray)] rfl (by (try simp only [List.map_toArray, List.map_cons, List.map_nil]); first | done | rfl | (simp only [List.length_drop, List.length_take]; rfl)) ?_; (with_reducible refine (context_Parse.calls 0 false (⟨#[97, 60, 98, 62]⟩ : ByteArray) t101 true _ ?side1 A1.out).mono ?_); (case side1 => exact Glob.step hGl (by repeat (first | (with_reducible first | exact HB.out | apply below_alloc | apply pw_below_drewN | apply below_drew1) | exact HB.out))); rintro e w5 ⟨rfl, hb⟩; refine ⟨_, rfl, ?_⟩; have n0_ := Aside0.mk (below_step (by repeat (first | (with_reducible first | exact HB.out | apply below_alloc | apply pw_below_drewN | apply below_drew1) | exact HB.out)) hb); clear HB; have HB := n0_; clear n0_; (try clear hb); (try clear hb2); (try clear hk); (try clear hi)) | ((with_reducible refine gate_callee (f := 18) rfl ?_); refine goesL_ (some 12) rfl rfl Tryz.func18 (by kernel_rfl) rfl #[.int .i64 1, .bool false, .string (⟨#[97, 62, 98]⟩ : ByteArray)] rfl (by (try simp only [List.map_toArray, List.map_cons, List.map_nil]); first | done | rfl | (simp only [List.length_drop, List.length_take]; rfl)) ?_; (with_reducible refine (context_Parse.calls 1 false (⟨#[97, 62, 98]⟩ : ByteArray) t103 t104 _ ?side1 A2.out).mono ?_); (case side1 => exact Glob.step hGl (by repeat (first | (with_reducible first | exact HB.out | apply below_alloc | apply pw_below_drewN | apply below_drew1) | exact HB.out))); rintro e w6 ⟨rfl, hb⟩; refine ⟨_, rfl, ?_⟩; have n0_ := Aside0.mk (below_step (by repeat (first | (with_reducible first | exact HB.out | apply below_alloc | apply pw_below_drewN | apply below_drew1) | exact HB.out)) hb); clear HB; have HB := n0_; clear n0_; (try clear hb); (try clear hb2); (try clear hk); (try clear hi)) | ((with_reducible refine gate_callee (f := 18) rfl ?_); refine goesL_ (some 16) rfl rfl Tryz.func18 (by kernel_rfl) rfl #[.int .i64 2, .bool false, .string (⟨#[10, 97]⟩ : ByteArray)] rfl (by (try simp only [List.map_toArray, List.map_cons, List.map_nil]); first | done | rfl | (simp only [List.length_drop, List.length_take]; rfl)) ?_; (with_reducible refine (context_Parse.calls 2 false (⟨#[10, 97]⟩ : ByteArray) t105 t106 _ ?side1 A3.out).mono ?_); (case side1 => exact Glob.step hGl (by repeat (first | (with_reducible first | exact HB.out | apply below_alloc | apply pw_below_drewN | apply below_drew1) | exact HB.out))); rintro e w7 ⟨rfl, hb⟩; refine ⟨_, rfl, ?_⟩; have n0_ := Aside0.mk (below_step (by repeat (first | (with_reducible first | exact HB.out | apply below_alloc | apply pw_below_drewN | apply below_drew1) | exact HB.out)) hb); clear HB; have HB := n0_; clear n0_; (try clear hb); (try clear hb2); (try clear hk); (try clear hi)))
    go_ret
    exact ⟨by first | rfl | (simp [errW_none, errW_some] <;> rfl) | (simp [*, errW_none, errW_some] <;> rfl), by repeat (first | (with_reducible first | exact HB.out | apply below_alloc | apply pw_below_drewN | apply below_drew1) | exact HB.out)⟩
  · replace c4 := Bool.eq_false_iff.mpr c4
    subst c4
    have H1 : (if t104 = true then (if t106 = true then (if t103.toList = ([97, 62, 98] : List UInt8) then (if t105.toList = ([97] : List UInt8) then ((context_Wrap.f 1 true (⟨#[122]⟩ : ByteArray)).bind fun t107 => (some (t107.toList == ([60, 97, 32, 120, 61, 39, 122, 39, 62] : List UInt8)))) else (some false)) else (some false)) else (some false)) else (some false)) = some r := by rw [if_neg (show ¬ (false = true) by decide)] at H; exact H
    clear H
    have H := H1
    clear H1
    by_cases c8 : t104 = true
    · subst c8
      have H1 : (if t106 = true then (if t103.toList = ([97, 62, 98] : List UInt8) then (if t105.toList = ([97] : List UInt8) then ((context_Wrap.f 1 true (⟨#[122]⟩ : ByteArray)).bind fun t107 => (some (t107.toList == ([60, 97, 32, 120, 61, 39, 122, 39, 62] : List UInt8)))) else (some false)) else (some false)) else (some false)) = some r := by rw [if_pos rfl] at H; exact H
      clear H
      have H := H1
      clear H1
      by_cases c9 : t106 = true
      · subst c9
        have H1 : (if t103.toList = ([97, 62, 98] : List UInt8) then (if t105.toList = ([97] : List UInt8) then ((context_Wrap.f 1 true (⟨#[122]⟩ : ByteArray)).bind fun t107 => (some (t107.toList == ([60, 97, 32, 120, 61, 39, 122, 39, 62] : List UInt8)))) else (some false)) else (some false)) = some r := by rw [if_pos rfl] at H; exact H
        clear H
        have H := H1
        clear H1
        by_cases c10 : t103.toList = ([97, 62, 98] : List UInt8)
        · rw [if_pos c10] at H
          have c10b0 : (t103.toList == ([97, 62, 98] : List UInt8)) = true := beq_iff_eq.mpr c10
          have c10b1 : (t103.toList != ([97, 62, 98] : List UInt8)) = false := bne_eq_false_iff_eq.mpr c10
          clear c10
          by_cases c11 : t105.toList = ([97] : List UInt8)
          · rw [if_pos c11] at H
            have c11b0 : (t105.toList == ([97] : List UInt8)) = true := beq_iff_eq.mpr c11
            have c11b1 : (t105.toList != ([97] : List UInt8)) = false := bne_eq_false_iff_eq.mpr c11
            clear c11
            replace H := Option.bind_eq_some_iff.mp H
            obtain ⟨t107, A120, H⟩ := H
            replace H : (some (t107.toList == ([60, 97, 32, 120, 61, 39, 122, 39, 62] : List UInt8))) = some r := H
            have A12 := Aside0.mk A120
            clear A120
            obtain rfl := Option.some.inj H
            go_enter Tryz.func17, Tryz.ntmps17
            go_wp2_with (first | ((with_reducible refine gate_callee (f := 18) rfl ?_); refine goesL_ (some 8) rfl rfl Tryz.func18 (by kernel_rfl) rfl #[.int .i64 0, .bool false, .string (⟨#[97, 60, 98, 62]⟩ : ByteArray)] rfl (by (try simp only [List.map_toArray, List.map_cons, List.map_nil]); first | done | rfl | (simp only [List.length_drop, List.length_take]; rfl)) ?_; (with_reducible refine (context_Parse.calls 0 false (⟨#[97, 60, 98, 62]⟩ : ByteArray) t101 false _ ?side1 A1.out).mono ?_); (case side1 => exact Glob.step hGl (by repeat (first | (with_reducible first | exact HB.out | apply below_alloc | apply pw_below_drewN | apply below_drew1) | exact HB.out))); rintro e w13 ⟨rfl, hb⟩; refine ⟨_, rfl, ?_⟩; have n0_ := Aside0.mk (below_step (by repeat (first | (with_reducible first | exact HB.out | apply below_alloc | apply pw_below_drewN | apply below_drew1) | exact HB.out)) hb); clear HB; have HB := n0_; clear n0_; (try clear hb); (try clear hb2); (try clear hk); (try clear hi)) | ((with_reducible refine gate_callee (f := 18) rfl ?_); refine goesL_ (some 12) rfl rfl Tryz.func18 (by kernel_rfl) rfl #[.int .i64 1, .bool false, .string (⟨#[97, 62, 98]⟩ : ByteArray)] rfl (by (try simp only [List.map_toArray, List.map_cons, List.map_nil]); first | done | rfl | (simp only [List.length_drop, List.length_take]; rfl)) ?_; (with_reducible refine (context_Parse.calls 1 false (⟨#[97, 62, 98]⟩ : ByteArray) t103 true _ ?side1 A2.out).mono ?_); (case side1 => exact Glob.step hGl (by repeat (first | (with_reducible first | exact HB.out | apply below_alloc | apply pw_below_drewN | apply below_drew1) | exact HB.out))); rintro e w14 ⟨rfl, hb⟩; refine ⟨_, rfl, ?_⟩; have n0_ := Aside0.mk (below_step (by repeat (first | (with_reducible first | exact HB.out | apply below_alloc | apply pw_below_drewN | apply below_drew1) | exact HB.out)) hb); clear HB; have HB := n0_; clear n0_; (try clear hb); (try clear hb2); (try clear hk); (try clear hi)) | ((with_reducible refine gate_callee (f := 18) rfl ?_); refine goesL_ (some 16) rfl rfl Tryz.func18 (by kernel_rfl) rfl #[.int .i64 2, .bool false, .string (⟨#[10, 97]⟩ : ByteArray)] rfl (by (try simp only [List.map_toArray, List.map_cons, List.map_nil]); first | done | rfl | (simp only [List.length_drop, List.length_take]; rfl)) ?_; (with_reducible refine (context_Parse.calls 2 false (⟨#[10, 97]⟩ : ByteArray) t105 true _ ?side1 A3.out).mono ?_); (case side1 => exact Glob.step hGl (by repeat (first | (with_reducible first | exact HB.out | apply below_alloc | apply pw_below_drewN | apply below_drew1) | exact HB.out))); rintro e w15 ⟨rfl, hb⟩; refine ⟨_, rfl, ?_⟩; have n0_ := Aside0.mk (below_step (by repeat (first | (with_reducible first | exact HB.out | apply below_alloc | apply pw_below_drewN | apply below_drew1) | exact HB.out)) hb); clear HB; have HB := n0_; clear n0_; (try clear hb); (try clear hb2); (try clear hk); (try clear hi)) | (go_at_call 20; (with_reducible refine (context_Wrap.calls 1 true (⟨#[122]⟩ : ByteArray) t107 _ A12.out).mono ?_); rintro e w16 ⟨rfl, hb⟩; have n0_ := Aside0.mk (below_step (by repeat (first | (with_reducible first | exact HB.out | apply below_alloc | apply pw_below_drewN | apply below_drew1) | exact HB.out)) hb); clear HB; have HB := n0_; clear n0_; (try clear hb); (try clear hb2); (try clear hk); (try clear hi)))
            go_ret
            exact ⟨by first | rfl | (simp [errW_none, errW_some] <;> rfl) | (simp [*, errW_none, errW_some] <;> rfl), by repeat (first | (with_reducible first | exact HB.out | apply below_alloc | apply pw_below_drewN | apply below_drew1) | exact HB.out)⟩
          · rw [if_neg c11] at H
            have c11b0 : (t105.toList == ([97] : List UInt8)) = false := beq_eq_false_iff_ne.mpr c11
            have c11b1 : (t105.toList != ([97] : List UInt8)) = true := bne_iff_ne.mpr c11
            obtain rfl := Option.some.inj H
            go_enter Tryz.func17, Tryz.ntmps17
            go_wp2_with (first | ((with_reducible refine gate_callee (f := 18) rfl ?_); refine goesL_ (some 8) rfl rfl Tryz.func18 (by kernel_rfl) rfl #[.int .i64 0, .bool false, .string (⟨#[97, 60, 98, 62]⟩ : ByteArray)] rfl (by (try simp only [List.map_toArray, List.map_cons, List.map_nil]); first | done | rfl | (simp only [List.length_drop, List.length_take]; rfl)) ?_; (with_reducible refine (context_Parse.calls 0 false (⟨#[97, 60, 98, 62]⟩ : ByteArray) t101 false _ ?side1 A1.out).mono ?_); (case side1 => exact Glob.step hGl (by repeat (first | (with_reducible first | exact HB.out | apply below_alloc | apply pw_below_drewN | apply below_drew1) | exact HB.out))); rintro e w17 ⟨rfl, hb⟩; refine ⟨_, rfl, ?_⟩; have n0_ := Aside0.mk (below_step (by repeat (first | (with_reducible first | exact HB.out | apply below_alloc | apply pw_below_drewN | apply below_drew1) | exact HB.out)) hb); clear HB; have HB := n0_; clear n0_; (try clear hb); (try clear hb2); (try clear hk); (try clear hi)) | ((with_reducible refine gate_callee (f := 18) rfl ?_); refine goesL_ (some 12) rfl rfl Tryz.func18 (by kernel_rfl) rfl #[.int .i64 1, .bool false, .string (⟨#[97, 62, 98]⟩ : ByteArray)] rfl (by (try simp only [List.map_toArray, List.map_cons, List.map_nil]); first | done | rfl | (simp only [List.length_drop, List.length_take]; rfl)) ?_; (with_reducible refine (context_Parse.calls 1 false (⟨#[97, 62, 98]⟩ : ByteArray) t103 true _ ?side1 A2.out).mono ?_); (case side1 => exact Glob.step hGl (by repeat (first | (with_reducible first | exact HB.out | apply below_alloc | apply pw_below_drewN | apply below_drew1) | exact HB.out))); rintro e w18 ⟨rfl, hb⟩; refine ⟨_, rfl, ?_⟩; have n0_ := Aside0.mk (below_step (by repeat (first | (with_reducible first | exact HB.out | apply below_alloc | apply pw_below_drewN | apply below_drew1) | exact HB.out)) hb); clear HB; have HB := n0_; clear n0_; (try clear hb); (try clear hb2); (try clear hk); (try clear hi)) | ((with_reducible refine gate_callee (f := 18) rfl ?_); refine goesL_ (some 16) rfl rfl Tryz.func18 (by kernel_rfl) rfl #[.int .i64 2, .bool false, .string (⟨#[10, 97]⟩ : ByteArray)] rfl (by (try simp only [List.map_toArray, List.map_cons, List.map_nil]); first | done | rfl | (simp only [List.length_drop, List.length_take]; rfl)) ?_; (with_reducible refine (context_Parse.calls 2 false (⟨#[10, 97]⟩ : ByteArray) t105 true _ ?side1 A3.out).mono ?_); (case side1 => exact Glob.step hGl (by repeat (first | (with_reducible first | exact HB.out | apply below_alloc | apply pw_below_drewN | apply below_drew1) | exact HB.out))); rintro e w19 ⟨rfl, hb⟩; refine ⟨_, rfl, ?_⟩; have n0_ := Aside0.mk (below_step (by repeat (first | (with_reducible first | exact HB.out | apply below_alloc | apply pw_below_drewN | apply below_drew1) | exact HB.out)) hb); clear HB; have HB := n0_; clear n0_; (try clear hb); (try clear hb2); (try clear hk); (try clear hi)))
            go_ret
            exact ⟨by first | rfl | (simp [errW_none, errW_some] <;> rfl) | (simp [*, errW_none, errW_some] <;> rfl), by repeat (first | (with_reducible first | exact HB.out | apply below_alloc | apply pw_below_drewN | apply below_drew1) | exact HB.out)⟩
        · rw [if_neg c10] at H
          have c10b0 : (t103.toList == ([97, 62, 98] : List UInt8)) = false := beq_eq_false_iff_ne.mpr c10
          have c10b1 : (t103.toList != ([97, 62, 98] : List UInt8)) = true := bne_iff_ne.mpr c10
          obtain rfl := Option.some.inj H
          go_enter Tryz.func17, Tryz.ntmps17
          go_wp2_with (first | ((with_reducible refine gate_callee (f := 18) rfl ?_); refine goesL_ (some 8) rfl rfl Tryz.func18 (by kernel_rfl) rfl #[.int .i64 0, .bool false, .string (⟨#[97, 60, 98, 62]⟩ : ByteArray)] rfl (by (try simp only [List.map_toArray, List.map_cons, List.map_nil]); first | done | rfl | (simp only [List.length_drop, List.length_take]; rfl)) ?_; (with_reducible refine (context_Parse.calls 0 false (⟨#[97, 60, 98, 62]⟩ : ByteArray) t101 false _ ?side1 A1.out).mono ?_); (case side1 => exact Glob.step hGl (by repeat (first | (with_reducible first | exact HB.out | apply below_alloc | apply pw_below_drewN | apply below_drew1) | exact HB.out))); rintro e w20 ⟨rfl, hb⟩; refine ⟨_, rfl, ?_⟩; have n0_ := Aside0.mk (below_step (by repeat (first | (with_reducible first | exact HB.out | apply below_alloc | apply pw_below_drewN | apply below_drew1) | exact HB.out)) hb); clear HB; have HB := n0_; clear n0_; (try clear hb); (try clear hb2); (try clear hk); (try clear hi)) | ((with_reducible refine gate_callee (f := 18) rfl ?_); refine goesL_ (some 12) rfl rfl Tryz.func18 (by kernel_rfl) rfl #[.int .i64 1, .bool false, .string (⟨#[97, 62, 98]⟩ : ByteArray)] rfl (by (try simp only [List.map_toArray, List.map_cons, List.map_nil]); first | done | rfl | (simp only [List.length_drop, List.length_take]; rfl)) ?_; (with_reducible refine (context_Parse.calls 1 false (⟨#[97, 62, 98]⟩ : ByteArray) t103 true _ ?side1 A2.out).mono ?_); (case side1 => exact Glob.step hGl (by repeat (first | (with_reducible first | exact HB.out | apply below_alloc | apply pw_below_drewN | apply below_drew1) | exact HB.out))); rintro e w21 ⟨rfl, hb⟩; refine ⟨_, rfl, ?_⟩; have n0_ := Aside0.mk (below_step (by repeat (first | (with_reducible first | exact HB.out | apply below_alloc | apply pw_below_drewN | apply below_drew1) | exact HB.out)) hb); clear HB; have HB := n0_; clear n0_; (try clear hb); (try clear hb2); (try clear hk); (try clear hi)) | ((with_reducible refine gate_callee (f := 18) rfl ?_); refine goesL_ (some 16) rfl rfl Tryz.func18 (by kernel_rfl) rfl #[.int .i64 2, .bool false, .string (⟨#[10, 97]⟩ : ByteArray)] rfl (by (try simp only [List.map_toArray, List.map_cons, List.map_nil]); first | done | rfl | (simp only [List.length_drop, List.length_take]; rfl)) ?_; (with_reducible refine (context_Parse.calls 2 false (⟨#[10, 97]⟩ : ByteArray) t105 true _ ?side1 A3.out).mono ?_); (case side1 => exact Glob.step hGl (by repeat (first | (with_reducible first | exact HB.out | apply below_alloc | apply pw_below_drewN | apply below_drew1) | exact HB.out))); rintro e w22 ⟨rfl, hb⟩; refine ⟨_, rfl, ?_⟩; have n0_ := Aside0.mk (below_step (by repeat (first | (with_reducible first | exact HB.out | apply below_alloc | apply pw_below_drewN | apply below_drew1) | exact HB.out)) hb); clear HB; have HB := n0_; clear n0_; (try clear hb); (try clear hb2); (try clear hk); (try clear hi)))
          go_ret
          exact ⟨by first | rfl | (simp [errW_none, errW_some] <;> rfl) | (simp [*, errW_none, errW_some] <;> rfl), by repeat (first | (with_reducible first | exact HB.out | apply below_alloc | apply pw_below_drewN | apply below_drew1) | exact HB.out)⟩
      · replace c9 := Bool.eq_false_iff.mpr c9
        subst c9
        have H1 : (some false) = some r := by rw [if_neg (show ¬ (false = true) by decide)] at H; exact H
        clear H
        have H := H1
        clear H1
        obtain rfl := Option.some.inj H
        go_enter Tryz.func17, Tryz.ntmps17
        go_wp2_with (first | ((with_reducible refine gate_callee (f := 18) rfl ?_); refine goesL_ (some 8) rfl rfl Tryz.func18 (by kernel_rfl) rfl #[.int .i64 0, .bool false, .string (⟨#[97, 60, 98, 62]⟩ : ByteArray)] rfl (by (try simp only [List.map_toArray, List.map_cons, List.map_nil]); first | done | rfl | (simp only [List.length_drop, List.length_take]; rfl)) ?_; (with_reducible refine (context_Parse.calls 0 false (⟨#[97, 60, 98, 62]⟩ : ByteArray) t101 false _ ?side1 A1.out).mono ?_); (case side1 => exact Glob.step hGl (by repeat (first | (with_reducible first | exact HB.out | apply below_alloc | apply pw_below_drewN | apply below_drew1) | exact HB.out))); rintro e w23 ⟨rfl, hb⟩; refine ⟨_, rfl, ?_⟩; have n0_ := Aside0.mk (below_step (by repeat (first | (with_reducible first | exact HB.out | apply below_alloc | apply pw_below_drewN | apply below_drew1) | exact HB.out)) hb); clear HB; have HB := n0_; clear n0_; (try clear hb); (try clear hb2); (try clear hk); (try clear hi)) | ((with_reducible refine gate_callee (f := 18) rfl ?_); refine goesL_ (some 12) rfl rfl Tryz.func18 (by kernel_rfl) rfl #[.int .i64 1, .bool false, .string (⟨#[97, 62, 98]⟩ : ByteArray)] rfl (by (try simp only [List.map_toArray, List.map_cons, List.map_nil]); first | done | rfl | (simp only [List.length_drop, List.length_take]; rfl)) ?_; (with_reducible refine (context_Parse.calls 1 false (⟨#[97, 62, 98]⟩ : ByteArray) t103 true _ ?side1 A2.out).mono ?_); (case side1 => exact Glob.step hGl (by repeat (first | (with_reducible first | exact HB.out | apply below_alloc | apply pw_below_drewN | apply below_drew1) | exact HB.out))); rintro e w24 ⟨rfl, hb⟩; refine ⟨_, rfl, ?_⟩; have n0_ := Aside0.mk (below_step (by repeat (first | (with_reducible first | exact HB.out | apply below_alloc | apply pw_below_drewN | apply below_drew1) | exact HB.out)) hb); clear HB; have HB := n0_; clear n0_; (try clear hb); (try clear hb2); (try clear hk); (try clear hi)) | ((with_reducible refine gate_callee (f := 18) rfl ?_); refine goesL_ (some 16) rfl rfl Tryz.func18 (by kernel_rfl) rfl #[.int .i64 2, .bool false, .string (⟨#[10, 97]⟩ : ByteArray)] rfl (by (try simp only [List.map_toArray, List.map_cons, List.map_nil]); first | done | rfl | (simp only [List.length_drop, List.length_take]; rfl)) ?_; (with_reducible refine (context_Parse.calls 2 false (⟨#[10, 97]⟩ : ByteArray) t105 false _ ?side1 A3.out).mono ?_); (case side1 => exact Glob.step hGl (by repeat (first | (with_reducible first | exact HB.out | apply below_alloc | apply pw_below_drewN | apply below_drew1) | exact HB.out))); rintro e w25 ⟨rfl, hb⟩; refine ⟨_, rfl, ?_⟩; have n0_ := Aside0.mk (below_step (by repeat (first | (with_reducible first | exact HB.out | apply below_alloc | apply pw_below_drewN | apply below_drew1) | exact HB.out)) hb); clear HB; have HB := n0_; clear n0_; (try clear hb); (try clear hb2); (try clear hk); (try clear hi)))
        go_ret
        exact ⟨by first | rfl | (simp [errW_none, errW_some] <;> rfl) | (simp [*, errW_none, errW_some] <;> rfl), by repeat (first | (with_reducible first | exact HB.out | apply below_alloc | apply pw_below_drewN | apply below_drew1) | exact HB.out)⟩
    · replace c8 := Bool.eq_false_iff.mpr c8
      subst c8
      have H1 : (some false) = some r := by rw [if_neg (show ¬ (false = true) by decide)] at H; exact H
      clear H
      have H := H1
      clear H1
      obtain rfl := Option.some.inj H
      go_enter Tryz.func17, Tryz.ntmps17
      go_wp2_with (first | ((with_reducible refine gate_callee (f := 18) rfl ?_); refine goesL_ (some 8) rfl rfl Tryz.func18 (by kernel_rfl) rfl #[.int .i64 0, .bool false, .string (⟨#[97, 60, 98, 62]⟩ : ByteArray)] rfl (by (try simp only [List.map_toArray, List.map_cons, List.map_nil]); first | done | rfl | (simp only [List.length_drop, List.length_take]; rfl)) ?_; (with_reducible refine (context_Parse.calls 0 false (⟨#[97, 60, 98, 62]⟩ : ByteArray) t101 false _ ?side1 A1.out).mono ?_); (case side1 => exact Glob.step hGl (by repeat (first | (with_reducible first | exact HB.out | apply below_alloc | apply pw_below_drewN | apply below_drew1) | exact HB.out))); rintro e w26 ⟨rfl, hb⟩; refine ⟨_, rfl, ?_⟩; have n0_ := Aside0.mk (below_step (by repeat (first | (with_reducible first | exact HB.out | apply below_alloc | apply pw_below_drewN | apply below_drew1) | exact HB.out)) hb); clear HB; have HB := n0_; clear n0_; (try clear hb); (try clear hb2); (try clear hk); (try clear hi)) | ((with_reducible refine gate_callee (f := 18) rfl ?_); refine goesL_ (some 12) rfl rfl Tryz.func18 (by kernel_rfl) rfl #[.int .i64 1, .bool false, .string (⟨#[97, 62, 98]⟩ : ByteArray)] rfl (by (try simp only [List.map_toArray, List.map_cons, List.map_nil]); first | done | rfl | (simp only [List.length_drop, List.length_take]; rfl)) ?_; (with_reducible refine (context_Parse.calls 1 false (⟨#[97, 62, 98]⟩ : ByteArray) t103 false _ ?side1 A2.out).mono ?_); (case side1 => exact Glob.step hGl (by repeat (first | (with_reducible first | exact HB.out | apply below_alloc | apply pw_below_drewN | apply below_drew1) | exact HB.out))); rintro e w27 ⟨rfl, hb⟩; refine ⟨_, rfl, ?_⟩; have n0_ := Aside0.mk (below_step (by repeat (first | (with_reducible first | exact HB.out | apply below_alloc | apply pw_below_drewN | apply below_drew1) | exact HB.out)) hb); clear HB; have HB := n0_; clear n0_; (try clear hb); (try clear hb2); (try clear hk); (try clear hi)) | ((with_reducible refine gate_callee (f := 18) rfl ?_); refine goesL_ (some 16) rfl rfl Tryz.func18 (by kernel_rfl) rfl #[.int .i64 2, .bool false, .string (⟨#[10, 97]⟩ : ByteArray)] rfl (by (try simp only [List.map_toArray, List.map_cons, List.map_nil]); first | done | rfl | (simp only [List.length_drop, List.length_take]; rfl)) ?_; (with_reducible refine (context_Parse.calls 2 false (⟨#[10, 97]⟩ : ByteArray) t105 t106 _ ?side1 A3.out).mono ?_); (case side1 => exact Glob.step hGl (by repeat (first | (with_reducible first | exact HB.out | apply below_alloc | apply pw_below_drewN | apply below_drew1) | exact HB.out))); rintro e w28 ⟨rfl, hb⟩; refine ⟨_, rfl, ?_⟩; have n0_ := Aside0.mk (below_step (by repeat (first | (with_reducible first | exact HB.out | apply below_alloc | apply pw_below_drewN | apply below_drew1) | exact HB.out)) hb); clear HB; have HB := n0_; clear n0_; (try clear hb); (try clear hb2); (try clear hk); (try clear hi)))
      go_ret
      exact ⟨by first | rfl | (simp [errW_none, errW_some] <;> rfl) | (simp [*, errW_none, errW_some] <;> rfl), by repeat (first | (with_reducible first | exact HB.out | apply below_alloc | apply pw_below_drewN | apply below_drew1) | exact HB.out)⟩
noncomputable def flaillaw23_ContextQuotes.j0 : Nat → ByteArray → ByteArray → Bool → Bool → Option (Bool)
  | 0, _, _, _, _ => none
  | k + 1, x0, x1, x5, x27 => if x27 = true then (some x5) else ((escape_Encode.f 1 x0).bind fun t109 => ((context_Parse.f 1 false t109).bind fun bt110 => ((context_Parse.f 1 true t109).bind fun bt112 => ((context_Parse.f 0 false x1).bind fun bt114 => ((context_Parse.f 0 true x1).bind fun bt116 => ((context_Parse.f 2 false x1).bind fun bt118 => ((context_Parse.f 2 true x1).bind fun bt120 => (if x5 = true then (if bt110.2 = true then (if bt112.2 = true then (if bt110.1.toList = bt112.1.toList then ((lines_Clean.f x0).bind fun t122 => (if bt110.1.toList = t122.toList then (if bt114.1.toList = bt116.1.toList then (if (bt114.2 == bt116.2) = true then (if bt118.1.toList = bt120.1.toList then (some (bt118.2 == bt120.2)) else (some false)) else (some false)) else (some false)) else (some false))) else (some false)) else (some false)) else (some false)) else (some false)))))))))
noncomputable def flaillaw23_ContextQuotes.f (k : Nat) (a0 : ByteArray) (a1 : ByteArray) : Option (Bool) := (flaillaw23_awake.f).bind fun t108 => (if (a0.size : Int) > 300 then (flaillaw23_ContextQuotes.j0 k a0 a1 t108 true) else (flaillaw23_ContextQuotes.j0 k a0 a1 t108 (decide ((a1.size : Int) > 300))))
set_option maxHeartbeats 8000000 in
set_option maxRecDepth 100000 in
theorem flaillaw23_ContextQuotes.calls (k : Nat) (a0 : ByteArray) (a1 : ByteArray) (r : Bool) (w : World) (hGl : Glob w) (h : flaillaw23_ContextQuotes.f k a0 a1 = some r) :
    Calls Tryz.prog 8 #[.string a0, .string a1] w fun e w' => e = .returned (.bool r) ∧ Below w.heap.size w w' := by
  have HB := Aside0.mk (Below.refl w.heap.size w)
  have H : ((flaillaw23_awake.f).bind fun t108 => (if (a0.size : Int) > 300 then (flaillaw23_ContextQuotes.j0 k a0 a1 t108 true) else (flaillaw23_ContextQuotes.j0 k a0 a1 t108 (decide ((a1.size : Int) > 300))))) = some r := h
  clear h
  replace H := Option.bind_eq_some_iff.mp H
  obtain ⟨t108, A30, H⟩ := H
  replace H : (if (a0.size : Int) > 300 then (flaillaw23_ContextQuotes.j0 k a0 a1 t108 true) else (flaillaw23_ContextQuotes.j0 k a0 a1 t108 (decide ((a1.size : Int) > 300)))) = some r := H
  have A3 := Aside0.mk A30
  clear A30
  have HC4 := Aside0.mk H
  clear H
  go_enter Tryz.func8, Tryz.ntmps8
  go_upto_region 2 with (first | ((with_reducible refine gate_callee (f := 17) rfl ?_); refine goesL_ (some 19) rfl rfl Tryz.func17 (by kernel_rfl) rfl #[] rfl (by (try simp only [List.map_toArray, List.map_cons, List.map_nil]); first | done | rfl | (simp only [List.length_drop, List.length_take]; rfl)) ?_; (with_reducible refine (flaillaw23_awake.calls  t108 _ ?side1 A3.out).mono ?_); (case side1 => exact Glob.step hGl (by repeat (first | (with_reducible first | exact HB.out | apply below_alloc | apply pw_below_drewN | apply below_drew1) | exact HB.out))); rintro e w5 ⟨rfl, hb⟩; refine ⟨_, rfl, ?_⟩; have n0_ := Aside0.mk (below_step (by repeat (first | (with_reducible first | exact HB.out | apply below_alloc | apply pw_below_drewN | apply below_drew1) | exact HB.out)) hb); clear HB; have HB := n0_; clear n0_; (try clear hb); (try clear hb2); (try clear hk); (try clear hi)))
  (try simp only [Act.put, List.setIfInBounds_toArray, List.set_cons_zero, List.set_cons_succ])
  go_cut [27] (fun v27 wc => ∃ (kq : Nat) (x27_3 : Bool), v27 = .bool x27_3 ∧ Aside0 (flaillaw23_ContextQuotes.j0 kq a0 a1 t108 x27_3 = some r) ∧ Aside0 (kq ≤ k) ∧ Aside0 (Below w.heap.size w wc))
  case first =>
    have H := HC4.out
    clear HC4
    by_cases c6 : (a0.size : Int) > 300
    · rw [if_pos c6] at H
      have c6b0 : decide (300 < (a0.size : Int)) = true := decide_eq_true c6
      have c6b1 : decide (300 < a0.size) = true := decide_eq_true (by omega)
      clear c6
      (first | rw [c6b0] | (simp only [i64_w, i32_w]; rw [c6b0]) | skip)
      have H' := Aside0.mk H
      clear H
      go_wp2
      go_meet
      case rel => exact ⟨_, (true), (by first | rfl | (simp; done) | (simp [*]; done)), H', ⟨by first | omega | exact Nat.le_refl _⟩, ⟨by repeat (first | (with_reducible first | exact HB.out | apply below_alloc | apply pw_below_drewN | apply below_drew1) | exact HB.out)⟩⟩
    · rw [if_neg c6] at H
      have c6b0 : decide (300 < (a0.size : Int)) = false := decide_eq_false c6
      have c6b1 : decide (300 < a0.size) = false := decide_eq_false (by omega)
      clear c6
      (first | rw [c6b0] | (simp only [i64_w, i32_w]; rw [c6b0]) | skip)
      have H' := Aside0.mk H
      clear H
      go_wp2
      go_meet
      case rel => exact ⟨_, (decide ((a1.size : Int) > 300)), (by first | rfl | (simp; done) | (simp [*]; done)), H', ⟨by first | omega | exact Nat.le_refl _⟩, ⟨by repeat (first | (with_reducible first | exact HB.out | apply below_alloc | apply pw_below_drewN | apply below_drew1) | exact HB.out)⟩⟩
  case rest =>
    clear HC4
    try clear c1
    try clear p2
    try clear c6
    try clear c6b0
    try clear c6b1
    obtain ⟨kq, x27_3, rfl, HA, HJ3, HB⟩ := hcut
    cases kq with
    | zero => exact absurd HA.out (by simp [flaillaw23_ContextQuotes.j0])
    | succ kj3 =>
      have H := HA.out
      clear HA
      simp only [flaillaw23_ContextQuotes.j0] at H
      by_cases c7 : x27_3 = true
      · subst c7
        have H1 : (some t108) = some r := by rw [if_pos rfl] at H; exact H
        clear H
        have H := H1
        clear H1
        obtain rfl := Option.some.inj H
        go_wp2
        go_ret
        exact ⟨by first | rfl | (simp [errW_none, errW_some] <;> rfl) | (simp [*, errW_none, errW_some] <;> rfl), by repeat (first | (with_reducible first | exact HB.out | apply below_alloc | apply pw_below_drewN | apply below_drew1) | exact HB.out)⟩
      · replace c7 := Bool.eq_false_iff.mpr c7
        subst c7
        have H1 : ((escape_Encode.f 1 a0).bind fun t109 => ((context_Parse.f 1 false t109).bind fun bt110 => ((context_Parse.f 1 true t109).bind fun bt112 => ((context_Parse.f 0 false a1).bind fun bt114 => ((context_Parse.f 0 true a1).bind fun bt116 => ((context_Parse.f 2 false a1).bind fun bt118 => ((context_Parse.f 2 true a1).bind fun bt120 => (if t108 = true then (if bt110.2 = true then (if bt112.2 = true then (if bt110.1.toList = bt112.1.toList then ((lines_Clean.f a0).bind fun t122 => (if bt110.1.toList = t122.toList then (if bt114.1.toList = bt116.1.toList then (if (bt114.2 == bt116.2) = true then (if bt118.1.toList = bt120.1.toList then (some (bt118.2 == bt120.2)) else (some false)) else (some false)) else (some false)) else (some false))) else (some false)) else (some false)) else (some false)) else (some false))))))))) = some r := by rw [if_neg (show ¬ (false = true) by decide)] at H; exact H
        clear H
        have H := H1
        clear H1
        replace H := Option.bind_eq_some_iff.mp H
        obtain ⟨t109, A80, H⟩ := H
        replace H : ((context_Parse.f 1 false t109).bind fun bt110 => ((context_Parse.f 1 true t109).bind fun bt112 => ((context_Parse.f 0 false a1).bind fun bt114 => ((context_Parse.f 0 true a1).bind fun bt116 => ((context_Parse.f 2 false a1).bind fun bt118 => ((context_Parse.f 2 true a1).bind fun bt120 => (if t108 = true then (if bt110.2 = true then (if bt112.2 = true then (if bt110.1.toList = bt112.1.toList then ((lines_Clean.f a0).bind fun t122 => (if bt110.1.toList = t122.toList then (if bt114.1.toList = bt116.1.toList then (if (bt114.2 == bt116.2) = true then (if bt118.1.toList = bt120.1.toList then (some (bt118.2 == bt120.2)) else (some false)) else (some false)) else (some false)) else (some false))) else (some false)) else (some false)) else (some false)) else (some false)))))))) = some r := H
        have A8 := Aside0.mk A80
        clear A80
        replace H := Option.bind_eq_some_iff.mp H
        obtain ⟨⟨t110, t111⟩, A90, H⟩ := H
        replace H : ((context_Parse.f 1 true t109).bind fun bt112 => ((context_Parse.f 0 false a1).bind fun bt114 => ((context_Parse.f 0 true a1).bind fun bt116 => ((context_Parse.f 2 false a1).bind fun bt118 => ((context_Parse.f 2 true a1).bind fun bt120 => (if t108 = true then (if t111 = true then (if bt112.2 = true then (if t110.toList = bt112.1.toList then ((lines_Clean.f a0).bind fun t122 => (if t110.toList = t122.toList then (if bt114.1.toList = bt116.1.toList then (if (bt114.2 == bt116.2) = true then (if bt118.1.toList = bt120.1.toList then (some (bt118.2 == bt120.2)) else (some false)) else (some false)) else (some false)) else (some false))) else (some false)) else (some false)) else (some false)) else (some false))))))) = some r := H
        have A9 := Aside0.mk A90
        clear A90
        replace H := Option.bind_eq_some_iff.mp H
        obtain ⟨⟨t112, t113⟩, A100, H⟩ := H
        replace H : ((context_Parse.f 0 false a1).bind fun bt114 => ((context_Parse.f 0 true a1).bind fun bt116 => ((context_Parse.f 2 false a1).bind fun bt118 => ((context_Parse.f 2 true a1).bind fun bt120 => (if t108 = true then (if t111 = true then (if t113 = true then (if t110.toList = t112.toList then ((lines_Clean.f a0).bind fun t122 => (if t110.toList = t122.toList then (if bt114.1.toList = bt116.1.toList then (if (bt114.2 == bt116.2) = true then (if bt118.1.toList = bt120.1.toList then (some (bt118.2 == bt120.2)) else (some false)) else (some false)) else (some false)) else (some false))) else (some false)) else (some false)) else (some false)) else (some false)))))) = some r := H
        have A10 := Aside0.mk A100
        clear A100
        replace H := Option.bind_eq_some_iff.mp H
        obtain ⟨⟨t114, t115⟩, A110, H⟩ := H
        replace H : ((context_Parse.f 0 true a1).bind fun bt116 => ((context_Parse.f 2 false a1).bind fun bt118 => ((context_Parse.f 2 true a1).bind fun bt120 => (if t108 = true then (if t111 = true then (if t113 = true then (if t110.toList = t112.toList then ((lines_Clean.f a0).bind fun t122 => (if t110.toList = t122.toList then (if t114.toList = bt116.1.toList then (if (t115 == bt116.2) = true then (if bt118.1.toList = bt120.1.toList then (some (bt118.2 == bt120.2)) else (some false)) else (some false)) else (some false)) else (some false))) else (some false)) else (some false)) else (some false)) else (some false))))) = some r := H
        have A11 := Aside0.mk A110
        clear A110
        replace H := Option.bind_eq_some_iff.mp H
        obtain ⟨⟨t116, t117⟩, A120, H⟩ := H
        replace H : ((context_Parse.f 2 false a1).bind fun bt118 => ((context_Parse.f 2 true a1).bind fun bt120 => (if t108 = true then (if t111 = true then (if t113 = true then (if t110.toList = t112.toList then ((lines_Clean.f a0).bind fun t122 => (if t110.toList = t122.toList then (if t114.toList = t116.toList then (if (t115 == t117) = true then (if bt118.1.toList = bt120.1.toList then (some (bt118.2 == bt120.2)) else (some false)) else (some false)) else (some false)) else (some false))) else (some false)) else (some false)) else (some false)) else (some false)))) = some r := H
        have A12 := Aside0.mk A120
        clear A120
        replace H := Option.bind_eq_some_iff.mp H
        obtain ⟨⟨t118, t119⟩, A130, H⟩ := H
        replace H : ((context_Parse.f 2 true a1).bind fun bt120 => (if t108 = true then (if t111 = true then (if t113 = true then (if t110.toList = t112.toList then ((lines_Clean.f a0).bind fun t122 => (if t110.toList = t122.toList then (if t114.toList = t116.toList then (if (t115 == t117) = true then (if t118.toList = bt120.1.toList then (some (t119 == bt120.2)) else (some false)) else (some false)) else (some false)) else (some false))) else (some false)) else (some false)) else (some false)) else (some false))) = some r := H
        have A13 := Aside0.mk A130
        clear A130
        replace H := Option.bind_eq_some_iff.mp H
        obtain ⟨⟨t120, t121⟩, A140, H⟩ := H
        replace H : (if t108 = true then (if t111 = true then (if t113 = true then (if t110.toList = t112.toList then ((lines_Clean.f a0).bind fun t122 => (if t110.toList = t122.toList then (if t114.toList = t116.toList then (if (t115 == t117) = true then (if t118.toList = t120.toList then (some (t119 == t121)) else (some false)) else (some false)) else (some false)) else (some false))) else (some false)) else (some false)) else (some false)) else (some false)) = some r := H
        have A14 := Aside0.mk A140
        clear A140
        by_cases c15 : t108 = true
        · subst c15
          have H1 : (if t111 = true then (if t113 = true then (if t110.toList = t112.toList then ((lines_Clean.f a0).bind fun t122 => (if t110.toList = t122.toList then (if t114.toList = t116.toList then (if (t115 == t117) = true then (if t118.toList = t120.toList then (some (t119 == t121)) else (some false)) else (some false)) else (some false)) else (some false))) else (some false)) else (some false)) else (some false)) = some r := by rw [if_pos rfl] at H; exact H
          clear H
          have H := H1
          clear H1
          by_cases c16 : t111 = true
          · subst c16
            have H1 : (if t113 = true then (if t110.toList = t112.toList then ((lines_Clean.f a0).bind fun t122 => (if t110.toList = t122.toList then (if t114.toList = t116.toList then (if (t115 == t117) = true then (if t118.toList = t120.toList then (some (t119 == t121)) else (some false)) else (some false)) else (some false)) else (some false))) else (some false)) else (some false)) = some r := by rw [if_pos rfl] at H; exact H
            clear H
            have H := H1
            clear H1
            by_cases c17 : t113 = true
            · subst c17
              have H1 : (if t110.toList = t112.toList then ((lines_Clean.f a0).bind fun t122 => (if t110.toList = t122.toList then (if t114.toList = t116.toList then (if (t115 == t117) = true then (if t118.toList = t120.toList then (some (t119 == t121)) else (some false)) else (some false)) else (some false)) else (some false))) else (some false)) = some r := by rw [if_pos rfl] at H; exact H
              clear H
              have H := H1
              clear H1
              by_cases c18 : t110.toList = t112.toList
              · rw [if_pos c18] at H
                have c18b0 : (t110.toList == t112.toList) = true := beq_iff_eq.mpr c18
                have c18b1 : (t110.toList != t112.toList) = false := bne_eq_false_iff_eq.mpr c18
                clear c18
                replace H := Option.bind_eq_some_iff.mp H
                obtain ⟨t122, A190, H⟩ := H
                replace H : (if t110.toList = t122.toList then (if t114.toList = t116.toList then (if (t115 == t117) = true then (if t118.toList = t120.toList then (some (t119 == t121)) else (some false)) else (some false)) else (some false)) else (some false)) = some r := H
                have A19 := Aside0.mk A190
                clear A190
                by_cases c20 : t110.toList = t122.toList
                · rw [if_pos c20] at H
                  have c20b0 : (t110.toList == t122.toList) = true := beq_iff_eq.mpr c20
                  have c20b1 : (t110.toList != t122.toList) = false := bne_eq_false_iff_eq.mpr c20
                  clear c20
                  by_cases c21 : t114.toList = t116.toList
                  · rw [if_pos c21] at H
                    have c21b0 : (t114.toList == t116.toList) = true := beq_iff_eq.mpr c21
                    have c21b1 : (t114.toList != t116.toList) = false := bne_eq_false_iff_eq.mpr c21
                    clear c21
                    by_cases c22 : (t115 == t117) = true
                    · rw [if_pos c22] at H
                      have c22b0 : (t115 == t117) = true := c22
                      (try (have c22b1 : decide (t115 = t117) = true := by simpa using c22))
                      (try (have c22b2 : (t115 == t117) = true := by simpa using c22))
                      clear c22
                      by_cases c23 : t118.toList = t120.toList
                      · rw [if_pos c23] at H
                        have c23b0 : (t118.toList == t120.toList) = true := beq_iff_eq.mpr c23
                        have c23b1 : (t118.toList != t120.toList) = false := bne_eq_false_iff_eq.mpr c23
                        clear c23
                        obtain rfl := Option.some.inj H
                        go_wp2_with (first | ((with_reducible refine gate_callee (f := 24) rfl ?_); refine goesL_ (some 30) rfl rfl Tryz.func24 (by kernel_rfl) rfl #[.int .i64 1, .string a0] rfl (by (try simp only [List.map_toArray, List.map_cons, List.map_nil]); first | done | rfl | (simp only [List.length_drop, List.length_take]; rfl)) ?_; (with_reducible refine (escape_Encode.calls 1 a0 t109 _ A8.out).mono ?_); rintro e w24 ⟨rfl, hb⟩; refine ⟨_, rfl, ?_⟩; have n0_ := Aside0.mk (below_step (by repeat (first | (with_reducible first | exact HB.out | apply below_alloc | apply pw_below_drewN | apply below_drew1) | exact HB.out)) hb); clear HB; have HB := n0_; clear n0_; (try clear hb); (try clear hb2); (try clear hk); (try clear hi)) | ((with_reducible refine gate_callee (f := 18) rfl ?_); refine goesL_ (some 33) rfl rfl Tryz.func18 (by kernel_rfl) rfl #[.int .i64 1, .bool false, .string t109] rfl (by (try simp only [List.map_toArray, List.map_cons, List.map_nil]); first | done | rfl | (simp only [List.length_drop, List.length_take]; rfl)) ?_; (with_reducible refine (context_Parse.calls 1 false t109 t110 true _ ?side1 A9.out).mono ?_); (case side1 => exact Glob.step hGl (by repeat (first | (with_reducible first | exact HB.out | apply below_alloc | apply pw_below_drewN | apply below_drew1) | exact HB.out))); rintro e w25 ⟨rfl, hb⟩; refine ⟨_, rfl, ?_⟩; have n0_ := Aside0.mk (below_step (by repeat (first | (with_reducible first | exact HB.out | apply below_alloc | apply pw_below_drewN | apply below_drew1) | exact HB.out)) hb); clear HB; have HB := n0_; clear n0_; (try clear hb); (try clear hb2); (try clear hk); (try clear hi)) | ((with_reducible refine gate_callee (f := 18) rfl ?_); refine goesL_ (some 38) rfl rfl Tryz.func18 (by kernel_rfl) rfl #[.int .i64 1, .bool true, .string t109] rfl (by (try simp only [List.map_toArray, List.map_cons, List.map_nil]); first | done | rfl | (simp only [List.length_drop, List.length_take]; rfl)) ?_; (with_reducible refine (context_Parse.calls 1 true t109 t112 true _ ?side1 A10.out).mono ?_); (case side1 => exact Glob.step hGl (by repeat (first | (with_reducible first | exact HB.out | apply below_alloc | apply pw_below_drewN | apply below_drew1) | exact HB.out))); rintro e w26 ⟨rfl, hb⟩; refine ⟨_, rfl, ?_⟩; have n0_ := Aside0.mk (below_step (by repeat (first | (with_reducible first | exact HB.out | apply below_alloc | apply pw_below_drewN | apply below_drew1) | exact HB.out)) hb); clear HB; have HB := n0_; clear n0_; (try clear hb); (try clear hb2); (try clear hk); (try clear hi)) | ((with_reducible refine gate_callee (f := 18) rfl ?_); refine goesL_ (some 43) rfl rfl Tryz.func18 (by kernel_rfl) rfl #[.int .i64 0, .bool false, .string a1] rfl (by (try simp only [List.map_toArray, List.map_cons, List.map_nil]); first | done | rfl | (simp only [List.length_drop, List.length_take]; rfl)) ?_; (with_reducible refine (context_Parse.calls 0 false a1 t114 t115 _ ?side1 A11.out).mono ?_); (case side1 => exact Glob.step hGl (by repeat (first | (with_reducible first | exact HB.out | apply below_alloc | apply pw_below_drewN | apply below_drew1) | exact HB.out))); rintro e w27 ⟨rfl, hb⟩; refine ⟨_, rfl, ?_⟩; have n0_ := Aside0.mk (below_step (by repeat (first | (with_reducible first | exact HB.out | apply below_alloc | apply pw_below_drewN | apply below_drew1) | exact HB.out)) hb); clear HB; have HB := n0_; clear n0_; (try clear hb); (try clear hb2); (try clear hk); (try clear hi)) | ((with_reducible refine gate_callee (f := 18) rfl ?_); refine goesL_ (some 48) rfl rfl Tryz.func18 (by kernel_rfl) rfl #[.int .i64 0, .bool true, .string a1] rfl (by (try simp only [List.map_toArray, List.map_cons, List.map_nil]); first | done | rfl | (simp only [List.length_drop, List.length_take]; rfl)) ?_; (with_reducible refine (context_Parse.calls 0 true a1 t116 t117 _ ?side1 A12.out).mono ?_); (case side1 => exact Glob.step hGl (by repeat (first | (with_reducible first | exact HB.out | apply below_alloc | apply pw_below_drewN | apply below_drew1) | exact HB.out))); rintro e w28 ⟨rfl, hb⟩; refine ⟨_, rfl, ?_⟩; have n0_ := Aside0.mk (below_step (by repeat (first | (with_reducible first | exact HB.out | apply below_alloc | apply pw_below_drewN | apply below_drew1) | exact HB.out)) hb); clear HB; have HB := n0_; clear n0_; (try clear hb); (try clear hb2); (try clear hk); (try clear hi)) | ((with_reducible refine gate_callee (f := 18) rfl ?_); refine goesL_ (some 53) rfl rfl Tryz.func18 (by kernel_rfl) rfl #[.int .i64 2, .bool false, .string a1] rfl (by (try simp only [List.map_toArray, List.map_cons, List.map_nil]); first | done | rfl | (simp only [List.length_drop, List.length_take]; rfl)) ?_; (with_reducible refine (context_Parse.calls 2 false a1 t118 t119 _ ?side1 A13.out).mono ?_); (case side1 => exact Glob.step hGl (by repeat (first | (with_reducible first | exact HB.out | apply below_alloc | apply pw_below_drewN | apply below_drew1) | exact HB.out))); rintro e w29 ⟨rfl, hb⟩; refine ⟨_, rfl, ?_⟩; have n0_ := Aside0.mk (below_step (by repeat (first | (with_reducible first | exact HB.out | apply below_alloc | apply pw_below_drewN | apply below_drew1) | exact HB.out)) hb); clear HB; have HB := n0_; clear n0_; (try clear hb); (try clear hb2); (try clear hk); (try clear hi)) | ((with_reducible refine gate_callee (f := 18) rfl ?_); refine goesL_ (some 58) rfl rfl Tryz.func18 (by kernel_rfl) rfl #[.int .i64 2, .bool true, .string a1] rfl (by (try simp only [List.map_toArray, List.map_cons, List.map_nil]); first | done | rfl | (simp only [List.length_drop, List.length_take]; rfl)) ?_; (with_reducible refine (context_Parse.calls 2 true a1 t120 t121 _ ?side1 A14.out).mono ?_); (case side1 => exact Glob.step hGl (by repeat (first | (with_reducible first | exact HB.out | apply below_alloc | apply pw_below_drewN | apply below_drew1) | exact HB.out))); rintro e w30 ⟨rfl, hb⟩; refine ⟨_, rfl, ?_⟩; have n0_ := Aside0.mk (below_step (by repeat (first | (with_reducible first | exact HB.out | apply below_alloc | apply pw_below_drewN | apply below_drew1) | exact HB.out)) hb); clear HB; have HB := n0_; clear n0_; (try clear hb); (try clear hb2); (try clear hk); (try clear hi)) | (go_at_call 22; (with_reducible refine (lines_Clean.calls a0 t122 _ ?side1 A19.out).mono ?_); (case side1 => exact Glob.step hGl (by repeat (first | (with_reducible first | exact HB.out | apply below_alloc | apply pw_below_drewN | apply below_drew1) | exact HB.out))); rintro e w31 ⟨rfl, hb⟩; have n0_ := Aside0.mk (below_step (by repeat (first | (with_reducible first | exact HB.out | apply below_alloc | apply pw_below_drewN | apply below_drew1) | exact HB.out)) hb); clear HB; have HB := n0_; clear n0_; (try clear hb); (try clear hb2); (try clear hk); (try clear hi)))
                        go_ret
                        exact ⟨by first | rfl | (simp [errW_none, errW_some] <;> rfl) | (simp [*, errW_none, errW_some] <;> rfl), by repeat (first | (with_reducible first | exact HB.out | apply below_alloc | apply pw_below_drewN | apply below_drew1) | exact HB.out)⟩
                      · rw [if_neg c23] at H
                        have c23b0 : (t118.toList == t120.toList) = false := beq_eq_false_iff_ne.mpr c23
                        have c23b1 : (t118.toList != t120.toList) = true := bne_iff_ne.mpr c23
                        obtain rfl := Option.some.inj H
                        go_wp2_with (first | ((with_reducible refine gate_callee (f := 24) rfl ?_); refine goesL_ (some 30) rfl rfl Tryz.func24 (by kernel_rfl) rfl #[.int .i64 1, .string a0] rfl (by (try simp only [List.map_toArray, List.map_cons, List.map_nil]); first | done | rfl | (simp only [List.length_drop, List.length_take]; rfl)) ?_; (with_reducible refine (escape_Encode.calls 1 a0 t109 _ A8.out).mono ?_); rintro e w32 ⟨rfl, hb⟩; refine ⟨_, rfl, ?_⟩; have n0_ := Aside0.mk (below_step (by repeat (first | (with_reducible first | exact HB.out | apply below_alloc | apply pw_below_drewN | apply below_drew1) | exact HB.out)) hb); clear HB; have HB := n0_; clear n0_; (try clear hb); (try clear hb2); (try clear hk); (try clear hi)) | ((with_reducible refine gate_callee (f := 18) rfl ?_); refine goesL_ (some 33) rfl rfl Tryz.func18 (by kernel_rfl) rfl #[.int .i64 1, .bool false, .string t109] rfl (by (try simp only [List.map_toArray, List.map_cons, List.map_nil]); first | done | rfl | (simp only [List.length_drop, List.length_take]; rfl)) ?_; (with_reducible refine (context_Parse.calls 1 false t109 t110 true _ ?side1 A9.out).mono ?_); (case side1 => exact Glob.step hGl (by repeat (first | (with_reducible first | exact HB.out | apply below_alloc | apply pw_below_drewN | apply below_drew1) | exact HB.out))); rintro e w33 ⟨rfl, hb⟩; refine ⟨_, rfl, ?_⟩; have n0_ := Aside0.mk (below_step (by repeat (first | (with_reducible first | exact HB.out | apply below_alloc | apply pw_below_drewN | apply below_drew1) | exact HB.out)) hb); clear HB; have HB := n0_; clear n0_; (try clear hb); (try clear hb2); (try clear hk); (try clear hi)) | ((with_reducible refine gate_callee (f := 18) rfl ?_); refine goesL_ (some 38) rfl rfl Tryz.func18 (by kernel_rfl) rfl #[.int .i64 1, .bool true, .string t109] rfl (by (try simp only [List.map_toArray, List.map_cons, List.map_nil]); first | done | rfl | (simp only [List.length_drop, List.length_take]; rfl)) ?_; (with_reducible refine (context_Parse.calls 1 true t109 t112 true _ ?side1 A10.out).mono ?_); (case side1 => exact Glob.step hGl (by repeat (first | (with_reducible first | exact HB.out | apply below_alloc | apply pw_below_drewN | apply below_drew1) | exact HB.out))); rintro e w34 ⟨rfl, hb⟩; refine ⟨_, rfl, ?_⟩; have n0_ := Aside0.mk (below_step (by repeat (first | (with_reducible first | exact HB.out | apply below_alloc | apply pw_below_drewN | apply below_drew1) | exact HB.out)) hb); clear HB; have HB := n0_; clear n0_; (try clear hb); (try clear hb2); (try clear hk); (try clear hi)) | ((with_reducible refine gate_callee (f := 18) rfl ?_); refine goesL_ (some 43) rfl rfl Tryz.func18 (by kernel_rfl) rfl #[.int .i64 0, .bool false, .string a1] rfl (by (try simp only [List.map_toArray, List.map_cons, List.map_nil]); first | done | rfl | (simp only [List.length_drop, List.length_take]; rfl)) ?_; (with_reducible refine (context_Parse.calls 0 false a1 t114 t115 _ ?side1 A11.out).mono ?_); (case side1 => exact Glob.step hGl (by repeat (first | (with_reducible first | exact HB.out | apply below_alloc | apply pw_below_drewN | apply below_drew1) | exact HB.out))); rintro e w35 ⟨rfl, hb⟩; refine ⟨_, rfl, ?_⟩; have n0_ := Aside0.mk (below_step (by repeat (first | (with_reducible first | exact HB.out | apply below_alloc | apply pw_below_drewN | apply below_drew1) | exact HB.out)) hb); clear HB; have HB := n0_; clear n0_; (try clear hb); (try clear hb2); (try clear hk); (try clear hi)) | ((with_reducible refine gate_callee (f := 18) rfl ?_); refine goesL_ (some 48) rfl rfl Tryz.func18 (by kernel_rfl) rfl #[.int .i64 0, .bool true, .string a1] rfl (by (try simp only [List.map_toArray, List.map_cons, List.map_nil]); first | done | rfl | (simp only [List.length_drop, List.length_take]; rfl)) ?_; (with_reducible refine (context_Parse.calls 0 true a1 t116 t117 _ ?side1 A12.out).mono ?_); (case side1 => exact Glob.step hGl (by repeat (first | (with_reducible first | exact HB.out | apply below_alloc | apply pw_below_drewN | apply below_drew1) | exact HB.out))); rintro e w36 ⟨rfl, hb⟩; refine ⟨_, rfl, ?_⟩; have n0_ := Aside0.mk (below_step (by repeat (first | (with_reducible first | exact HB.out | apply below_alloc | apply pw_below_drewN | apply below_drew1) | exact HB.out)) hb); clear HB; have HB := n0_; clear n0_; (try clear hb); (try clear hb2); (try clear hk); (try clear hi)) | ((with_reducible refine gate_callee (f := 18) rfl ?_); refine goesL_ (some 53) rfl rfl Tryz.func18 (by kernel_rfl) rfl #[.int .i64 2, .bool false, .string a1] rfl (by (try simp only [List.map_toArray, List.map_cons, List.map_nil]); first | done | rfl | (simp only [List.length_drop, List.length_take]; rfl)) ?_; (with_reducible refine (context_Parse.calls 2 false a1 t118 t119 _ ?side1 A13.out).mono ?_); (case side1 => exact Glob.step hGl (by repeat (first | (with_reducible first | exact HB.out | apply below_alloc | apply pw_below_drewN | apply below_drew1) | exact HB.out))); rintro e w37 ⟨rfl, hb⟩; refine ⟨_, rfl, ?_⟩; have n0_ := Aside0.mk (below_step (by repeat (first | (with_reducible first | exact HB.out | apply below_alloc | apply pw_below_drewN | apply below_drew1) | exact HB.out)) hb); clear HB; have HB := n0_; clear n0_; (try clear hb); (try clear hb2); (try clear hk); (try clear hi)) | ((with_reducible refine gate_callee (f := 18) rfl ?_); refine goesL_ (some 58) rfl rfl Tryz.func18 (by kernel_rfl) rfl #[.int .i64 2, .bool true, .string a1] rfl (by (try simp only [List.map_toArray, List.map_cons, List.map_nil]); first | done | rfl | (simp only [List.length_drop, List.length_take]; rfl)) ?_; (with_reducible refine (context_Parse.calls 2 true a1 t120 t121 _ ?side1 A14.out).mono ?_); (case side1 => exact Glob.step hGl (by repeat (first | (with_reducible first | exact HB.out | apply below_alloc | apply pw_below_drewN | apply below_drew1) | exact HB.out))); rintro e w38 ⟨rfl, hb⟩; refine ⟨_, rfl, ?_⟩; have n0_ := Aside0.mk (below_step (by repeat (first | (with_reducible first | exact HB.out | apply below_alloc | apply pw_below_drewN | apply below_drew1) | exact HB.out)) hb); clear HB; have HB := n0_; clear n0_; (try clear hb); (try clear hb2); (try clear hk); (try clear hi)) | (go_at_call 22; (with_reducible refine (lines_Clean.calls a0 t122 _ ?side1 A19.out).mono ?_); (case side1 => exact Glob.step hGl (by repeat (first | (with_reducible first | exact HB.out | apply below_alloc | apply pw_below_drewN | apply below_drew1) | exact HB.out))); rintro e w39 ⟨rfl, hb⟩; have n0_ := Aside0.mk (below_step (by repeat (first | (with_reducible first | exact HB.out | apply below_alloc | apply pw_below_drewN | apply below_drew1) | exact HB.out)) hb); clear HB; have HB := n0_; clear n0_; (try clear hb); (try clear hb2); (try clear hk); (try clear hi)))
                        go_ret
                        exact ⟨by first | rfl | (simp [errW_none, errW_some] <;> rfl) | (simp [*, errW_none, errW_some] <;> rfl), by repeat (first | (with_reducible first | exact HB.out | apply below_alloc | apply pw_below_drewN | apply below_drew1) | exact HB.out)⟩
                    · rw [if_neg c22] at H
                      have c22b0 : (t115 == t117) = false := by simpa using c22
                      (try (have c22b1 : decide (t115 = t117) = false := by simpa using c22))
                      (try (have c22b2 : (t115 == t117) = false := by simpa using c22))
                      (try (have c22b3 : ¬ (t115 = t117) := by simpa using c22))
                      clear c22
                      obtain rfl := Option.some.inj H
                      go_wp2_with (first | ((with_reducible refine gate_callee (f := 24) rfl ?_); refine goesL_ (some 30) rfl rfl Tryz.func24 (by kernel_rfl) rfl #[.int .i64 1, .string a0] rfl (by (try simp only [List.map_toArray, List.map_cons, List.map_nil]); first | done | rfl | (simp only [List.length_drop, List.length_take]; rfl)) ?_; (with_reducible refine (escape_Encode.calls 1 a0 t109 _ A8.out).mono ?_); rintro e w40 ⟨rfl, hb⟩; refine ⟨_, rfl, ?_⟩; have n0_ := Aside0.mk (below_step (by repeat (first | (with_reducible first | exact HB.out | apply below_alloc | apply pw_below_drewN | apply below_drew1) | exact HB.out)) hb); clear HB; have HB := n0_; clear n0_; (try clear hb); (try clear hb2); (try clear hk); (try clear hi)) | ((with_reducible refine gate_callee (f := 18) rfl ?_); refine goesL_ (some 33) rfl rfl Tryz.func18 (by kernel_rfl) rfl #[.int .i64 1, .bool false, .string t109] rfl (by (try simp only [List.map_toArray, List.map_cons, List.map_nil]); first | done | rfl | (simp only [List.length_drop, List.length_take]; rfl)) ?_; (with_reducible refine (context_Parse.calls 1 false t109 t110 true _ ?side1 A9.out).mono ?_); (case side1 => exact Glob.step hGl (by repeat (first | (with_reducible first | exact HB.out | apply below_alloc | apply pw_below_drewN | apply below_drew1) | exact HB.out))); rintro e w41 ⟨rfl, hb⟩; refine ⟨_, rfl, ?_⟩; have n0_ := Aside0.mk (below_step (by repeat (first | (with_reducible first | exact HB.out | apply below_alloc | apply pw_below_drewN | apply below_drew1) | exact HB.out)) hb); clear HB; have HB := n0_; clear n0_; (try clear hb); (try clear hb2); (try clear hk); (try clear hi)) | ((with_reducible refine gate_callee (f := 18) rfl ?_); refine goesL_ (some 38) rfl rfl Tryz.func18 (by kernel_rfl) rfl #[.int .i64 1, .bool true, .string t109] rfl (by (try simp only [List.map_toArray, List.map_cons, List.map_nil]); first | done | rfl | (simp only [List.length_drop, List.length_take]; rfl)) ?_; (with_reducible refine (context_Parse.calls 1 true t109 t112 true _ ?side1 A10.out).mono ?_); (case side1 => exact Glob.step hGl (by repeat (first | (with_reducible first | exact HB.out | apply below_alloc | apply pw_below_drewN | apply below_drew1) | exact HB.out))); rintro e w42 ⟨rfl, hb⟩; refine ⟨_, rfl, ?_⟩; have n0_ := Aside0.mk (below_step (by repeat (first | (with_reducible first | exact HB.out | apply below_alloc | apply pw_below_drewN | apply below_drew1) | exact HB.out)) hb); clear HB; have HB := n0_; clear n0_; (try clear hb); (try clear hb2); (try clear hk); (try clear hi)) | ((with_reducible refine gate_callee (f := 18) rfl ?_); refine goesL_ (some 43) rfl rfl Tryz.func18 (by kernel_rfl) rfl #[.int .i64 0, .bool false, .string a1] rfl (by (try simp only [List.map_toArray, List.map_cons, List.map_nil]); first | done | rfl | (simp only [List.length_drop, List.length_take]; rfl)) ?_; (with_reducible refine (context_Parse.calls 0 false a1 t114 t115 _ ?side1 A11.out).mono ?_); (case side1 => exact Glob.step hGl (by repeat (first | (with_reducible first | exact HB.out | apply below_alloc | apply pw_below_drewN | apply below_drew1) | exact HB.out))); rintro e w43 ⟨rfl, hb⟩; refine ⟨_, rfl, ?_⟩; have n0_ := Aside0.mk (below_step (by repeat (first | (with_reducible first | exact HB.out | apply below_alloc | apply pw_below_drewN | apply below_drew1) | exact HB.out)) hb); clear HB; have HB := n0_; clear n0_; (try clear hb); (try clear hb2); (try clear hk); (try clear hi)) | ((with_reducible refine gate_callee (f := 18) rfl ?_); refine goesL_ (some 48) rfl rfl Tryz.func18 (by kernel_rfl) rfl #[.int .i64 0, .bool true, .string a1] rfl (by (try simp only [List.map_toArray, List.map_cons, List.map_nil]); first | done | rfl | (simp only [List.length_drop, List.length_take]; rfl)) ?_; (with_reducible refine (context_Parse.calls 0 true a1 t116 t117 _ ?side1 A12.out).mono ?_); (case side1 => exact Glob.step hGl (by repeat (first | (with_reducible first | exact HB.out | apply below_alloc | apply pw_below_drewN | apply below_drew1) | exact HB.out))); rintro e w44 ⟨rfl, hb⟩; refine ⟨_, rfl, ?_⟩; have n0_ := Aside0.mk (below_step (by repeat (first | (with_reducible first | exact HB.out | apply below_alloc | apply pw_below_drewN | apply below_drew1) | exact HB.out)) hb); clear HB; have HB := n0_; clear n0_; (try clear hb); (try clear hb2); (try clear hk); (try clear hi)) | ((with_reducible refine gate_callee (f := 18) rfl ?_); refine goesL_ (some 53) rfl rfl Tryz.func18 (by kernel_rfl) rfl #[.int .i64 2, .bool false, .string a1] rfl (by (try simp only [List.map_toArray, List.map_cons, List.map_nil]); first | done | rfl | (simp only [List.length_drop, List.length_take]; rfl)) ?_; (with_reducible refine (context_Parse.calls 2 false a1 t118 t119 _ ?side1 A13.out).mono ?_); (case side1 => exact Glob.step hGl (by repeat (first | (with_reducible first | exact HB.out | apply below_alloc | apply pw_below_drewN | apply below_drew1) | exact HB.out))); rintro e w45 ⟨rfl, hb⟩; refine ⟨_, rfl, ?_⟩; have n0_ := Aside0.mk (below_step (by repeat (first | (with_reducible first | exact HB.out | apply below_alloc | apply pw_below_drewN | apply below_drew1) | exact HB.out)) hb); clear HB; have HB := n0_; clear n0_; (try clear hb); (try clear hb2); (try clear hk); (try clear hi)) | ((with_reducible refine gate_callee (f := 18) rfl ?_); refine goesL_ (some 58) rfl rfl Tryz.func18 (by kernel_rfl) rfl #[.int .i64 2, .bool true, .string a1] rfl (by (try simp only [List.map_toArray, List.map_cons, List.map_nil]); first | done | rfl | (simp only [List.length_drop, List.length_take]; rfl)) ?_; (with_reducible refine (context_Parse.calls 2 true a1 t120 t121 _ ?side1 A14.out).mono ?_); (case side1 => exact Glob.step hGl (by repeat (first | (with_reducible first | exact HB.out | apply below_alloc | apply pw_below_drewN | apply below_drew1) | exact HB.out))); rintro e w46 ⟨rfl, hb⟩; refine ⟨_, rfl, ?_⟩; have n0_ := Aside0.mk (below_step (by repeat (first | (with_reducible first | exact HB.out | apply below_alloc | apply pw_below_drewN | apply below_drew1) | exact HB.out)) hb); clear HB; have HB := n0_; clear n0_; (try clear hb); (try clear hb2); (try clear hk); (try clear hi)) | (go_at_call 22; (with_reducible refine (lines_Clean.calls a0 t122 _ ?side1 A19.out).mono ?_); (case side1 => exact Glob.step hGl (by repeat (first | (with_reducible first | exact HB.out | apply below_alloc | apply pw_below_drewN | apply below_drew1) | exact HB.out))); rintro e w47 ⟨rfl, hb⟩; have n0_ := Aside0.mk (below_step (by repeat (first | (with_reducible first | exact HB.out | apply below_alloc | apply pw_below_drewN | apply below_drew1) | exact HB.out)) hb); clear HB; have HB := n0_; clear n0_; (try clear hb); (try clear hb2); (try clear hk); (try clear hi)))
                      go_ret
                      exact ⟨by first | rfl | (simp [errW_none, errW_some] <;> rfl) | (simp [*, errW_none, errW_some] <;> rfl), by repeat (first | (with_reducible first | exact HB.out | apply below_alloc | apply pw_below_drewN | apply below_drew1) | exact HB.out)⟩
                  · rw [if_neg c21] at H
                    have c21b0 : (t114.toList == t116.toList) = false := beq_eq_false_iff_ne.mpr c21
                    have c21b1 : (t114.toList != t116.toList) = true := bne_iff_ne.mpr c21
                    obtain rfl := Option.some.inj H
                    go_wp2_with (first | ((with_reducible refine gate_callee (f := 24) rfl ?_); refine goesL_ (some 30) rfl rfl Tryz.func24 (by kernel_rfl) rfl #[.int .i64 1, .string a0] rfl (by (try simp only [List.map_toArray, List.map_cons, List.map_nil]); first | done | rfl | (simp only [List.length_drop, List.length_take]; rfl)) ?_; (with_reducible refine (escape_Encode.calls 1 a0 t109 _ A8.out).mono ?_); rintro e w48 ⟨rfl, hb⟩; refine ⟨_, rfl, ?_⟩; have n0_ := Aside0.mk (below_step (by repeat (first | (with_reducible first | exact HB.out | apply below_alloc | apply pw_below_drewN | apply below_drew1) | exact HB.out)) hb); clear HB; have HB := n0_; clear n0_; (try clear hb); (try clear hb2); (try clear hk); (try clear hi)) | ((with_reducible refine gate_callee (f := 18) rfl ?_); refine goesL_ (some 33) rfl rfl Tryz.func18 (by kernel_rfl) rfl #[.int .i64 1, .bool false, .string t109] rfl (by (try simp only [List.map_toArray, List.map_cons, List.map_nil]); first | done | rfl | (simp only [List.length_drop, List.length_take]; rfl)) ?_; (with_reducible refine (context_Parse.calls 1 false t109 t110 true _ ?side1 A9.out).mono ?_); (case side1 => exact Glob.step hGl (by repeat (first | (with_reducible first | exact HB.out | apply below_alloc | apply pw_below_drewN | apply below_drew1) | exact HB.out))); rintro e w49 ⟨rfl, hb⟩; refine ⟨_, rfl, ?_⟩; have n0_ := Aside0.mk (below_step (by repeat (first | (with_reducible first | exact HB.out | apply below_alloc | apply pw_below_drewN | apply below_drew1) | exact HB.out)) hb); clear HB; have HB := n0_; clear n0_; (try clear hb); (try clear hb2); (try clear hk); (try clear hi)) | ((with_reducible refine gate_callee (f := 18) rfl ?_); refine goesL_ (some 38) rfl rfl Tryz.func18 (by kernel_rfl) rfl #[.int .i64 1, .bool true, .string t109] rfl (by (try simp only [List.map_toArray, List.map_cons, List.map_nil]); first | done | rfl | (simp only [List.length_drop, List.length_take]; rfl)) ?_; (with_reducible refine (context_Parse.calls 1 true t109 t112 true _ ?side1 A10.out).mono ?_); (case side1 => exact Glob.step hGl (by repeat (first | (with_reducible first | exact HB.out | apply below_alloc | apply pw_below_drewN | apply below_drew1) | exact HB.out))); rintro e w50 ⟨rfl, hb⟩; refine ⟨_, rfl, ?_⟩; have n0_ := Aside0.mk (below_step (by repeat (first | (with_reducible first | exact HB.out | apply below_alloc | apply pw_below_drewN | apply below_drew1) | exact HB.out)) hb); clear HB; have HB := n0_; clear n0_; (try clear hb); (try clear hb2); (try clear hk); (try clear hi)) | ((with_reducible refine gate_callee (f := 18) rfl ?_); refine goesL_ (some 43) rfl rfl Tryz.func18 (by kernel_rfl) rfl #[.int .i64 0, .bool false, .string a1] rfl (by (try simp only [List.map_toArray, List.map_cons, List.map_nil]); first | done | rfl | (simp only [List.length_drop, List.length_take]; rfl)) ?_; (with_reducible refine (context_Parse.calls 0 false a1 t114 t115 _ ?side1 A11.out).mono ?_); (case side1 => exact Glob.step hGl (by repeat (first | (with_reducible first | exact HB.out | apply below_alloc | apply pw_below_drewN | apply below_drew1) | exact HB.out))); rintro e w51 ⟨rfl, hb⟩; refine ⟨_, rfl, ?_⟩; have n0_ := Aside0.mk (below_step (by repeat (first | (with_reducible first | exact HB.out | apply below_alloc | apply pw_below_drewN | apply below_drew1) | exact HB.out)) hb); clear HB; have HB := n0_; clear n0_; (try clear hb); (try clear hb2); (try clear hk); (try clear hi)) | ((with_reducible refine gate_callee (f := 18) rfl ?_); refine goesL_ (some 48) rfl rfl Tryz.func18 (by kernel_rfl) rfl #[.int .i64 0, .bool true, .string a1] rfl (by (try simp only [List.map_toArray, List.map_cons, List.map_nil]); first | done | rfl | (simp only [List.length_drop, List.length_take]; rfl)) ?_; (with_reducible refine (context_Parse.calls 0 true a1 t116 t117 _ ?side1 A12.out).mono ?_); (case side1 => exact Glob.step hGl (by repeat (first | (with_reducible first | exact HB.out | apply below_alloc | apply pw_below_drewN | apply below_drew1) | exact HB.out))); rintro e w52 ⟨rfl, hb⟩; refine ⟨_, rfl, ?_⟩; have n0_ := Aside0.mk (below_step (by repeat (first | (with_reducible first | exact HB.out | apply below_alloc | apply pw_below_drewN | apply below_drew1) | exact HB.out)) hb); clear HB; have HB := n0_; clear n0_; (try clear hb); (try clear hb2); (try clear hk); (try clear hi)) | ((with_reducible refine gate_callee (f := 18) rfl ?_); refine goesL_ (some 53) rfl rfl Tryz.func18 (by kernel_rfl) rfl #[.int .i64 2, .bool false, .string a1] rfl (by (try simp only [List.map_toArray, List.map_cons, List.map_nil]); first | done | rfl | (simp only [List.length_drop, List.length_take]; rfl)) ?_; (with_reducible refine (context_Parse.calls 2 false a1 t118 t119 _ ?side1 A13.out).mono ?_); (case side1 => exact Glob.step hGl (by repeat (first | (with_reducible first | exact HB.out | apply below_alloc | apply pw_below_drewN | apply below_drew1) | exact HB.out))); rintro e w53 ⟨rfl, hb⟩; refine ⟨_, rfl, ?_⟩; have n0_ := Aside0.mk (below_step (by repeat (first | (with_reducible first | exact HB.out | apply below_alloc | apply pw_below_drewN | apply below_drew1) | exact HB.out)) hb); clear HB; have HB := n0_; clear n0_; (try clear hb); (try clear hb2); (try clear hk); (try clear hi)) | ((with_reducible refine gate_callee (f := 18) rfl ?_); refine goesL_ (some 58) rfl rfl Tryz.func18 (by kernel_rfl) rfl #[.int .i64 2, .bool true, .string a1] rfl (by (try simp only [List.map_toArray, List.map_cons, List.map_nil]); first | done | rfl | (simp only [List.length_drop, List.length_take]; rfl)) ?_; (with_reducible refine (context_Parse.calls 2 true a1 t120 t121 _ ?side1 A14.out).mono ?_); (case side1 => exact Glob.step hGl (by repeat (first | (with_reducible first | exact HB.out | apply below_alloc | apply pw_below_drewN | apply below_drew1) | exact HB.out))); rintro e w54 ⟨rfl, hb⟩; refine ⟨_, rfl, ?_⟩; have n0_ := Aside0.mk (below_step (by repeat (first | (with_reducible first | exact HB.out | apply below_alloc | apply pw_below_drewN | apply below_drew1) | exact HB.out)) hb); clear HB; have HB := n0_; clear n0_; (try clear hb); (try clear hb2); (try clear hk); (try clear hi)) | (go_at_call 22; (with_reducible refine (lines_Clean.calls a0 t122 _ ?side1 A19.out).mono ?_); (case side1 => exact Glob.step hGl (by repeat (first | (with_reducible first | exact HB.out | apply below_alloc | apply pw_below_drewN | apply below_drew1) | exact HB.out))); rintro e w55 ⟨rfl, hb⟩; have n0_ := Aside0.mk (below_step (by repeat (first | (with_reducible first | exact HB.out | apply below_alloc | apply pw_below_drewN | apply below_drew1) | exact HB.out)) hb); clear HB; have HB := n0_; clear n0_; (try clear hb); (try clear hb2); (try clear hk); (try clear hi)))
                    go_ret
                    exact ⟨by first | rfl | (simp [errW_none, errW_some] <;> rfl) | (simp [*, errW_none, errW_some] <;> rfl), by repeat (first | (with_reducible first | exact HB.out | apply below_alloc | apply pw_below_drewN | apply below_drew1) | exact HB.out)⟩
                · rw [if_neg c20] at H
                  have c20b0 : (t110.toList == t122.toList) = false := beq_eq_false_iff_ne.mpr c20
                  have c20b1 : (t110.toList != t122.toList) = true := bne_iff_ne.mpr c20
                  obtain rfl := Option.some.inj H
                  go_wp2_with (first | ((with_reducible refine gate_callee (f := 24) rfl ?_); refine goesL_ (some 30) rfl rfl Tryz.func24 (by kernel_rfl) rfl #[.int .i64 1, .string a0] rfl (by (try simp only [List.map_toArray, List.map_cons, List.map_nil]); first | done | rfl | (simp only [List.length_drop, List.length_take]; rfl)) ?_; (with_reducible refine (escape_Encode.calls 1 a0 t109 _ A8.out).mono ?_); rintro e w56 ⟨rfl, hb⟩; refine ⟨_, rfl, ?_⟩; have n0_ := Aside0.mk (below_step (by repeat (first | (with_reducible first | exact HB.out | apply below_alloc | apply pw_below_drewN | apply below_drew1) | exact HB.out)) hb); clear HB; have HB := n0_; clear n0_; (try clear hb); (try clear hb2); (try clear hk); (try clear hi)) | ((with_reducible refine gate_callee (f := 18) rfl ?_); refine goesL_ (some 33) rfl rfl Tryz.func18 (by kernel_rfl) rfl #[.int .i64 1, .bool false, .string t109] rfl (by (try simp only [List.map_toArray, List.map_cons, List.map_nil]); first | done | rfl | (simp only [List.length_drop, List.length_take]; rfl)) ?_; (with_reducible refine (context_Parse.calls 1 false t109 t110 true _ ?side1 A9.out).mono ?_); (case side1 => exact Glob.step hGl (by repeat (first | (with_reducible first | exact HB.out | apply below_alloc | apply pw_below_drewN | apply below_drew1) | exact HB.out))); rintro e w57 ⟨rfl, hb⟩; refine ⟨_, rfl, ?_⟩; have n0_ := Aside0.mk (below_step (by repeat (first | (with_reducible first | exact HB.out | apply below_alloc | apply pw_below_drewN | apply below_drew1) | exact HB.out)) hb); clear HB; have HB := n0_; clear n0_; (try clear hb); (try clear hb2); (try clear hk); (try clear hi)) | ((with_reducible refine gate_callee (f := 18) rfl ?_); refine goesL_ (some 38) rfl rfl Tryz.func18 (by kernel_rfl) rfl #[.int .i64 1, .bool true, .string t109] rfl (by (try simp only [List.map_toArray, List.map_cons, List.map_nil]); first | done | rfl | (simp only [List.length_drop, List.length_take]; rfl)) ?_; (with_reducible refine (context_Parse.calls 1 true t109 t112 true _ ?side1 A10.out).mono ?_); (case side1 => exact Glob.step hGl (by repeat (first | (with_reducible first | exact HB.out | apply below_alloc | apply pw_below_drewN | apply below_drew1) | exact HB.out))); rintro e w58 ⟨rfl, hb⟩; refine ⟨_, rfl, ?_⟩; have n0_ := Aside0.mk (below_step (by repeat (first | (with_reducible first | exact HB.out | apply below_alloc | apply pw_below_drewN | apply below_drew1) | exact HB.out)) hb); clear HB; have HB := n0_; clear n0_; (try clear hb); (try clear hb2); (try clear hk); (try clear hi)) | ((with_reducible refine gate_callee (f := 18) rfl ?_); refine goesL_ (some 43) rfl rfl Tryz.func18 (by kernel_rfl) rfl #[.int .i64 0, .bool false, .string a1] rfl (by (try simp only [List.map_toArray, List.map_cons, List.map_nil]); first | done | rfl | (simp only [List.length_drop, List.length_take]; rfl)) ?_; (with_reducible refine (context_Parse.calls 0 false a1 t114 t115 _ ?side1 A11.out).mono ?_); (case side1 => exact Glob.step hGl (by repeat (first | (with_reducible first | exact HB.out | apply below_alloc | apply pw_below_drewN | apply below_drew1) | exact HB.out))); rintro e w59 ⟨rfl, hb⟩; refine ⟨_, rfl, ?_⟩; have n0_ := Aside0.mk (below_step (by repeat (first | (with_reducible first | exact HB.out | apply below_alloc | apply pw_below_drewN | apply below_drew1) | exact HB.out)) hb); clear HB; have HB := n0_; clear n0_; (try clear hb); (try clear hb2); (try clear hk); (try clear hi)) | ((with_reducible refine gate_callee (f := 18) rfl ?_); refine goesL_ (some 48) rfl rfl Tryz.func18 (by kernel_rfl) rfl #[.int .i64 0, .bool true, .string a1] rfl (by (try simp only [List.map_toArray, List.map_cons, List.map_nil]); first | done | rfl | (simp only [List.length_drop, List.length_take]; rfl)) ?_; (with_reducible refine (context_Parse.calls 0 true a1 t116 t117 _ ?side1 A12.out).mono ?_); (case side1 => exact Glob.step hGl (by repeat (first | (with_reducible first | exact HB.out | apply below_alloc | apply pw_below_drewN | apply below_drew1) | exact HB.out))); rintro e w60 ⟨rfl, hb⟩; refine ⟨_, rfl, ?_⟩; have n0_ := Aside0.mk (below_step (by repeat (first | (with_reducible first | exact HB.out | apply below_alloc | apply pw_below_drewN | apply below_drew1) | exact HB.out)) hb); clear HB; have HB := n0_; clear n0_; (try clear hb); (try clear hb2); (try clear hk); (try clear hi)) | ((with_reducible refine gate_callee (f := 18) rfl ?_); refine goesL_ (some 53) rfl rfl Tryz.func18 (by kernel_rfl) rfl #[.int .i64 2, .bool false, .string a1] rfl (by (try simp only [List.map_toArray, List.map_cons, List.map_nil]); first | done | rfl | (simp only [List.length_drop, List.length_take]; rfl)) ?_; (with_reducible refine (context_Parse.calls 2 false a1 t118 t119 _ ?side1 A13.out).mono ?_); (case side1 => exact Glob.step hGl (by repeat (first | (with_reducible first | exact HB.out | apply below_alloc | apply pw_below_drewN | apply below_drew1) | exact HB.out))); rintro e w61 ⟨rfl, hb⟩; refine ⟨_, rfl, ?_⟩; have n0_ := Aside0.mk (below_step (by repeat (first | (with_reducible first | exact HB.out | apply below_alloc | apply pw_below_drewN | apply below_drew1) | exact HB.out)) hb); clear HB; have HB := n0_; clear n0_; (try clear hb); (try clear hb2); (try clear hk); (try clear hi)) | ((with_reducible refine gate_callee (f := 18) rfl ?_); refine goesL_ (some 58) rfl rfl Tryz.func18 (by kernel_rfl) rfl #[.int .i64 2, .bool true, .string a1] rfl (by (try simp only [List.map_toArray, List.map_cons, List.map_nil]); first | done | rfl | (simp only [List.length_drop, List.length_take]; rfl)) ?_; (with_reducible refine (context_Parse.calls 2 true a1 t120 t121 _ ?side1 A14.out).mono ?_); (case side1 => exact Glob.step hGl (by repeat (first | (with_reducible first | exact HB.out | apply below_alloc | apply pw_below_drewN | apply below_drew1) | exact HB.out))); rintro e w62 ⟨rfl, hb⟩; refine ⟨_, rfl, ?_⟩; have n0_ := Aside0.mk (below_step (by repeat (first | (with_reducible first | exact HB.out | apply below_alloc | apply pw_below_drewN | apply below_drew1) | exact HB.out)) hb); clear HB; have HB := n0_; clear n0_; (try clear hb); (try clear hb2); (try clear hk); (try clear hi)) | (go_at_call 22; (with_reducible refine (lines_Clean.calls a0 t122 _ ?side1 A19.out).mono ?_); (case side1 => exact Glob.step hGl (by repeat (first | (with_reducible first | exact HB.out | apply below_alloc | apply pw_below_drewN | apply below_drew1) | exact HB.out))); rintro e w63 ⟨rfl, hb⟩; have n0_ := Aside0.mk (below_step (by repeat (first | (with_reducible first | exact HB.out | apply below_alloc | apply pw_below_drewN | apply below_drew1) | exact HB.out)) hb); clear HB; have HB := n0_; clear n0_; (try clear hb); (try clear hb2); (try clear hk); (try clear hi)))
                  go_ret
                  exact ⟨by first | rfl | (simp [errW_none, errW_some] <;> rfl) | (simp [*, errW_none, errW_some] <;> rfl), by repeat (first | (with_reducible first | exact HB.out | apply below_alloc | apply pw_below_drewN | apply below_drew1) | exact HB.out)⟩
              · rw [if_neg c18] at H
                have c18b0 : (t110.toList == t112.toList) = false := beq_eq_false_iff_ne.mpr c18
                have c18b1 : (t110.toList != t112.toList) = true := bne_iff_ne.mpr c18
                obtain rfl := Option.some.inj H
                go_wp2_with (first | ((with_reducible refine gate_callee (f := 24) rfl ?_); refine goesL_ (some 30) rfl rfl Tryz.func24 (by kernel_rfl) rfl #[.int .i64 1, .string a0] rfl (by (try simp only [List.map_toArray, List.map_cons, List.map_nil]); first | done | rfl | (simp only [List.length_drop, List.length_take]; rfl)) ?_; (with_reducible refine (escape_Encode.calls 1 a0 t109 _ A8.out).mono ?_); rintro e w64 ⟨rfl, hb⟩; refine ⟨_, rfl, ?_⟩; have n0_ := Aside0.mk (below_step (by repeat (first | (with_reducible first | exact HB.out | apply below_alloc | apply pw_below_drewN | apply below_drew1) | exact HB.out)) hb); clear HB; have HB := n0_; clear n0_; (try clear hb); (try clear hb2); (try clear hk); (try clear hi)) | ((with_reducible refine gate_callee (f := 18) rfl ?_); refine goesL_ (some 33) rfl rfl Tryz.func18 (by kernel_rfl) rfl #[.int .i64 1, .bool false, .string t109] rfl (by (try simp only [List.map_toArray, List.map_cons, List.map_nil]); first | done | rfl | (simp only [List.length_drop, List.length_take]; rfl)) ?_; (with_reducible refine (context_Parse.calls 1 false t109 t110 true _ ?side1 A9.out).mono ?_); (case side1 => exact Glob.step hGl (by repeat (first | (with_reducible first | exact HB.out | apply below_alloc | apply pw_below_drewN | apply below_drew1) | exact HB.out))); rintro e w65 ⟨rfl, hb⟩; refine ⟨_, rfl, ?_⟩; have n0_ := Aside0.mk (below_step (by repeat (first | (with_reducible first | exact HB.out | apply below_alloc | apply pw_below_drewN | apply below_drew1) | exact HB.out)) hb); clear HB; have HB := n0_; clear n0_; (try clear hb); (try clear hb2); (try clear hk); (try clear hi)) | ((with_reducible refine gate_callee (f := 18) rfl ?_); refine goesL_ (some 38) rfl rfl Tryz.func18 (by kernel_rfl) rfl #[.int .i64 1, .bool true, .string t109] rfl (by (try simp only [List.map_toArray, List.map_cons, List.map_nil]); first | done | rfl | (simp only [List.length_drop, List.length_take]; rfl)) ?_; (with_reducible refine (context_Parse.calls 1 true t109 t112 true _ ?side1 A10.out).mono ?_); (case side1 => exact Glob.step hGl (by repeat (first | (with_reducible first | exact HB.out | apply below_alloc | apply pw_below_drewN | apply below_drew1) | exact HB.out))); rintro e w66 ⟨rfl, hb⟩; refine ⟨_, rfl, ?_⟩; have n0_ := Aside0.mk (below_step (by repeat (first | (with_reducible first | exact HB.out | apply below_alloc | apply pw_below_drewN | apply below_drew1) | exact HB.out)) hb); clear HB; have HB := n0_; clear n0_; (try clear hb); (try clear hb2); (try clear hk); (try clear hi)) | ((with_reducible refine gate_callee (f := 18) rfl ?_); refine goesL_ (some 43) rfl rfl Tryz.func18 (by kernel_rfl) rfl #[.int .i64 0, .bool false, .string a1] rfl (by (try simp only [List.map_toArray, List.map_cons, List.map_nil]); first | done | rfl | (simp only [List.length_drop, List.length_take]; rfl)) ?_; (with_reducible refine (context_Parse.calls 0 false a1 t114 t115 _ ?side1 A11.out).mono ?_); (case side1 => exact Glob.step hGl (by repeat (first | (with_reducible first | exact HB.out | apply below_alloc | apply pw_below_drewN | apply below_drew1) | exact HB.out))); rintro e w67 ⟨rfl, hb⟩; refine ⟨_, rfl, ?_⟩; have n0_ := Aside0.mk (below_step (by repeat (first | (with_reducible first | exact HB.out | apply below_alloc | apply pw_below_drewN | apply below_drew1) | exact HB.out)) hb); clear HB; have HB := n0_; clear n0_; (try clear hb); (try clear hb2); (try clear hk); (try clear hi)) | ((with_reducible refine gate_callee (f := 18) rfl ?_); refine goesL_ (some 48) rfl rfl Tryz.func18 (by kernel_rfl) rfl #[.int .i64 0, .bool true, .string a1] rfl (by (try simp only [List.map_toArray, List.map_cons, List.map_nil]); first | done | rfl | (simp only [List.length_drop, List.length_take]; rfl)) ?_; (with_reducible refine (context_Parse.calls 0 true a1 t116 t117 _ ?side1 A12.out).mono ?_); (case side1 => exact Glob.step hGl (by repeat (first | (with_reducible first | exact HB.out | apply below_alloc | apply pw_below_drewN | apply below_drew1) | exact HB.out))); rintro e w68 ⟨rfl, hb⟩; refine ⟨_, rfl, ?_⟩; have n0_ := Aside0.mk (below_step (by repeat (first | (with_reducible first | exact HB.out | apply below_alloc | apply pw_below_drewN | apply below_drew1) | exact HB.out)) hb); clear HB; have HB := n0_; clear n0_; (try clear hb); (try clear hb2); (try clear hk); (try clear hi)) | ((with_reducible refine gate_callee (f := 18) rfl ?_); refine goesL_ (some 53) rfl rfl Tryz.func18 (by kernel_rfl) rfl #[.int .i64 2, .bool false, .string a1] rfl (by (try simp only [List.map_toArray, List.map_cons, List.map_nil]); first | done | rfl | (simp only [List.length_drop, List.length_take]; rfl)) ?_; (with_reducible refine (context_Parse.calls 2 false a1 t118 t119 _ ?side1 A13.out).mono ?_); (case side1 => exact Glob.step hGl (by repeat (first | (with_reducible first | exact HB.out | apply below_alloc | apply pw_below_drewN | apply below_drew1) | exact HB.out))); rintro e w69 ⟨rfl, hb⟩; refine ⟨_, rfl, ?_⟩; have n0_ := Aside0.mk (below_step (by repeat (first | (with_reducible first | exact HB.out | apply below_alloc | apply pw_below_drewN | apply below_drew1) | exact HB.out)) hb); clear HB; have HB := n0_; clear n0_; (try clear hb); (try clear hb2); (try clear hk); (try clear hi)) | ((with_reducible refine gate_callee (f := 18) rfl ?_); refine goesL_ (some 58) rfl rfl Tryz.func18 (by kernel_rfl) rfl #[.int .i64 2, .bool true, .string a1] rfl (by (try simp only [List.map_toArray, List.map_cons, List.map_nil]); first | done | rfl | (simp only [List.length_drop, List.length_take]; rfl)) ?_; (with_reducible refine (context_Parse.calls 2 true a1 t120 t121 _ ?side1 A14.out).mono ?_); (case side1 => exact Glob.step hGl (by repeat (first | (with_reducible first | exact HB.out | apply below_alloc | apply pw_below_drewN | apply below_drew1) | exact HB.out))); rintro e w70 ⟨rfl, hb⟩; refine ⟨_, rfl, ?_⟩; have n0_ := Aside0.mk (below_step (by repeat (first | (with_reducible first | exact HB.out | apply below_alloc | apply pw_below_drewN | apply below_drew1) | exact HB.out)) hb); clear HB; have HB := n0_; clear n0_; (try clear hb); (try clear hb2); (try clear hk); (try clear hi)))
                go_ret
                exact ⟨by first | rfl | (simp [errW_none, errW_some] <;> rfl) | (simp [*, errW_none, errW_some] <;> rfl), by repeat (first | (with_reducible first | exact HB.out | apply below_alloc | apply pw_below_drewN | apply below_drew1) | exact HB.out)⟩
            · replace c17 := Bool.eq_false_iff.mpr c17
              subst c17
              have H1 : (some false) = some r := by rw [if_neg (show ¬ (false = true) by decide)] at H; exact H
              clear H
              have H := H1
              clear H1
              obtain rfl := Option.some.inj H
              go_wp2_with (first | ((with_reducible refine gate_callee (f := 24) rfl ?_); refine goesL_ (some 30) rfl rfl Tryz.func24 (by kernel_rfl) rfl #[.int .i64 1, .string a0] rfl (by (try simp only [List.map_toArray, List.map_cons, List.map_nil]); first | done | rfl | (simp only [List.length_drop, List.length_take]; rfl)) ?_; (with_reducible refine (escape_Encode.calls 1 a0 t109 _ A8.out).mono ?_); rintro e w71 ⟨rfl, hb⟩; refine ⟨_, rfl, ?_⟩; have n0_ := Aside0.mk (below_step (by repeat (first | (with_reducible first | exact HB.out | apply below_alloc | apply pw_below_drewN | apply below_drew1) | exact HB.out)) hb); clear HB; have HB := n0_; clear n0_; (try clear hb); (try clear hb2); (try clear hk); (try clear hi)) | ((with_reducible refine gate_callee (f := 18) rfl ?_); refine goesL_ (some 33) rfl rfl Tryz.func18 (by kernel_rfl) rfl #[.int .i64 1, .bool false, .string t109] rfl (by (try simp only [List.map_toArray, List.map_cons, List.map_nil]); first | done | rfl | (simp only [List.length_drop, List.length_take]; rfl)) ?_; (with_reducible refine (context_Parse.calls 1 false t109 t110 true _ ?side1 A9.out).mono ?_); (case side1 => exact Glob.step hGl (by repeat (first | (with_reducible first | exact HB.out | apply below_alloc | apply pw_below_drewN | apply below_drew1) | exact HB.out))); rintro e w72 ⟨rfl, hb⟩; refine ⟨_, rfl, ?_⟩; have n0_ := Aside0.mk (below_step (by repeat (first | (with_reducible first | exact HB.out | apply below_alloc | apply pw_below_drewN | apply below_drew1) | exact HB.out)) hb); clear HB; have HB := n0_; clear n0_; (try clear hb); (try clear hb2); (try clear hk); (try clear hi)) | ((with_reducible refine gate_callee (f := 18) rfl ?_); refine goesL_ (some 38) rfl rfl Tryz.func18 (by kernel_rfl) rfl #[.int .i64 1, .bool true, .string t109] rfl (by (try simp only [List.map_toArray, List.map_cons, List.map_nil]); first | done | rfl | (simp only [List.length_drop, List.length_take]; rfl)) ?_; (with_reducible refine (context_Parse.calls 1 true t109 t112 false _ ?side1 A10.out).mono ?_); (case side1 => exact Glob.step hGl (by repeat (first | (with_reducible first | exact HB.out | apply below_alloc | apply pw_below_drewN | apply below_drew1) | exact HB.out))); rintro e w73 ⟨rfl, hb⟩; refine ⟨_, rfl, ?_⟩; have n0_ := Aside0.mk (below_step (by repeat (first | (with_reducible first | exact HB.out | apply below_alloc | apply pw_below_drewN | apply below_drew1) | exact HB.out)) hb); clear HB; have HB := n0_; clear n0_; (try clear hb); (try clear hb2); (try clear hk); (try clear hi)) | ((with_reducible refine gate_callee (f := 18) rfl ?_); refine goesL_ (some 43) rfl rfl Tryz.func18 (by kernel_rfl) rfl #[.int .i64 0, .bool false, .string a1] rfl (by (try simp only [List.map_toArray, List.map_cons, List.map_nil]); first | done | rfl | (simp only [List.length_drop, List.length_take]; rfl)) ?_; (with_reducible refine (context_Parse.calls 0 false a1 t114 t115 _ ?side1 A11.out).mono ?_); (case side1 => exact Glob.step hGl (by repeat (first | (with_reducible first | exact HB.out | apply below_alloc | apply pw_below_drewN | apply below_drew1) | exact HB.out))); rintro e w74 ⟨rfl, hb⟩; refine ⟨_, rfl, ?_⟩; have n0_ := Aside0.mk (below_step (by repeat (first | (with_reducible first | exact HB.out | apply below_alloc | apply pw_below_drewN | apply below_drew1) | exact HB.out)) hb); clear HB; have HB := n0_; clear n0_; (try clear hb); (try clear hb2); (try clear hk); (try clear hi)) | ((with_reducible refine gate_callee (f := 18) rfl ?_); refine goesL_ (some 48) rfl rfl Tryz.func18 (by kernel_rfl) rfl #[.int .i64 0, .bool true, .string a1] rfl (by (try simp only [List.map_toArray, List.map_cons, List.map_nil]); first | done | rfl | (simp only [List.length_drop, List.length_take]; rfl)) ?_; (with_reducible refine (context_Parse.calls 0 true a1 t116 t117 _ ?side1 A12.out).mono ?_); (case side1 => exact Glob.step hGl (by repeat (first | (with_reducible first | exact HB.out | apply below_alloc | apply pw_below_drewN | apply below_drew1) | exact HB.out))); rintro e w75 ⟨rfl, hb⟩; refine ⟨_, rfl, ?_⟩; have n0_ := Aside0.mk (below_step (by repeat (first | (with_reducible first | exact HB.out | apply below_alloc | apply pw_below_drewN | apply below_drew1) | exact HB.out)) hb); clear HB; have HB := n0_; clear n0_; (try clear hb); (try clear hb2); (try clear hk); (try clear hi)) | ((with_reducible refine gate_callee (f := 18) rfl ?_); refine goesL_ (some 53) rfl rfl Tryz.func18 (by kernel_rfl) rfl #[.int .i64 2, .bool false, .string a1] rfl (by (try simp only [List.map_toArray, List.map_cons, List.map_nil]); first | done | rfl | (simp only [List.length_drop, List.length_take]; rfl)) ?_; (with_reducible refine (context_Parse.calls 2 false a1 t118 t119 _ ?side1 A13.out).mono ?_); (case side1 => exact Glob.step hGl (by repeat (first | (with_reducible first | exact HB.out | apply below_alloc | apply pw_below_drewN | apply below_drew1) | exact HB.out))); rintro e w76 ⟨rfl, hb⟩; refine ⟨_, rfl, ?_⟩; have n0_ := Aside0.mk (below_step (by repeat (first | (with_reducible first | exact HB.out | apply below_alloc | apply pw_below_drewN | apply below_drew1) | exact HB.out)) hb); clear HB; have HB := n0_; clear n0_; (try clear hb); (try clear hb2); (try clear hk); (try clear hi)) | ((with_reducible refine gate_callee (f := 18) rfl ?_); refine goesL_ (some 58) rfl rfl Tryz.func18 (by kernel_rfl) rfl #[.int .i64 2, .bool true, .string a1] rfl (by (try simp only [List.map_toArray, List.map_cons, List.map_nil]); first | done | rfl | (simp only [List.length_drop, List.length_take]; rfl)) ?_; (with_reducible refine (context_Parse.calls 2 true a1 t120 t121 _ ?side1 A14.out).mono ?_); (case side1 => exact Glob.step hGl (by repeat (first | (with_reducible first | exact HB.out | apply below_alloc | apply pw_below_drewN | apply below_drew1) | exact HB.out))); rintro e w77 ⟨rfl, hb⟩; refine ⟨_, rfl, ?_⟩; have n0_ := Aside0.mk (below_step (by repeat (first | (with_reducible first | exact HB.out | apply below_alloc | apply pw_below_drewN | apply below_drew1) | exact HB.out)) hb); clear HB; have HB := n0_; clear n0_; (try clear hb); (try clear hb2); (try clear hk); (try clear hi)))
              go_ret
              exact ⟨by first | rfl | (simp [errW_none, errW_some] <;> rfl) | (simp [*, errW_none, errW_some] <;> rfl), by repeat (first | (with_reducible first | exact HB.out | apply below_alloc | apply pw_below_drewN | apply below_drew1) | exact HB.out)⟩
          · replace c16 := Bool.eq_false_iff.mpr c16
            subst c16
            have H1 : (some false) = some r := by rw [if_neg (show ¬ (false = true) by decide)] at H; exact H
            clear H
            have H := H1
            clear H1
            obtain rfl := Option.some.inj H
            go_wp2_with (first | ((with_reducible refine gate_callee (f := 24) rfl ?_); refine goesL_ (some 30) rfl rfl Tryz.func24 (by kernel_rfl) rfl #[.int .i64 1, .string a0] rfl (by (try simp only [List.map_toArray, List.map_cons, List.map_nil]); first | done | rfl | (simp only [List.length_drop, List.length_take]; rfl)) ?_; (with_reducible refine (escape_Encode.calls 1 a0 t109 _ A8.out).mono ?_); rintro e w78 ⟨rfl, hb⟩; refine ⟨_, rfl, ?_⟩; have n0_ := Aside0.mk (below_step (by repeat (first | (with_reducible first | exact HB.out | apply below_alloc | apply pw_below_drewN | apply below_drew1) | exact HB.out)) hb); clear HB; have HB := n0_; clear n0_; (try clear hb); (try clear hb2); (try clear hk); (try clear hi)) | ((with_reducible refine gate_callee (f := 18) rfl ?_); refine goesL_ (some 33) rfl rfl Tryz.func18 (by kernel_rfl) rfl #[.int .i64 1, .bool false, .string t109] rfl (by (try simp only [List.map_toArray, List.map_cons, List.map_nil]); first | done | rfl | (simp only [List.length_drop, List.length_take]; rfl)) ?_; (with_reducible refine (context_Parse.calls 1 false t109 t110 false _ ?side1 A9.out).mono ?_); (case side1 => exact Glob.step hGl (by repeat (first | (with_reducible first | exact HB.out | apply below_alloc | apply pw_below_drewN | apply below_drew1) | exact HB.out))); rintro e w79 ⟨rfl, hb⟩; refine ⟨_, rfl, ?_⟩; have n0_ := Aside0.mk (below_step (by repeat (first | (with_reducible first | exact HB.out | apply below_alloc | apply pw_below_drewN | apply below_drew1) | exact HB.out)) hb); clear HB; have HB := n0_; clear n0_; (try clear hb); (try clear hb2); (try clear hk); (try clear hi)) | ((with_reducible refine gate_callee (f := 18) rfl ?_); refine goesL_ (some 38) rfl rfl Tryz.func18 (by kernel_rfl) rfl #[.int .i64 1, .bool true, .string t109] rfl (by (try simp only [List.map_toArray, List.map_cons, List.map_nil]); first | done | rfl | (simp only [List.length_drop, List.length_take]; rfl)) ?_; (with_reducible refine (context_Parse.calls 1 true t109 t112 t113 _ ?side1 A10.out).mono ?_); (case side1 => exact Glob.step hGl (by repeat (first | (with_reducible first | exact HB.out | apply below_alloc | apply pw_below_drewN | apply below_drew1) | exact HB.out))); rintro e w80 ⟨rfl, hb⟩; refine ⟨_, rfl, ?_⟩; have n0_ := Aside0.mk (below_step (by repeat (first | (with_reducible first | exact HB.out | apply below_alloc | apply pw_below_drewN | apply below_drew1) | exact HB.out)) hb); clear HB; have HB := n0_; clear n0_; (try clear hb); (try clear hb2); (try clear hk); (try clear hi)) | ((with_reducible refine gate_callee (f := 18) rfl ?_); refine goesL_ (some 43) rfl rfl Tryz.func18 (by kernel_rfl) rfl #[.int .i64 0, .bool false, .string a1] rfl (by (try simp only [List.map_toArray, List.map_cons, List.map_nil]); first | done | rfl | (simp only [List.length_drop, List.length_take]; rfl)) ?_; (with_reducible refine (context_Parse.calls 0 false a1 t114 t115 _ ?side1 A11.out).mono ?_); (case side1 => exact Glob.step hGl (by repeat (first | (with_reducible first | exact HB.out | apply below_alloc | apply pw_below_drewN | apply below_drew1) | exact HB.out))); rintro e w81 ⟨rfl, hb⟩; refine ⟨_, rfl, ?_⟩; have n0_ := Aside0.mk (below_step (by repeat (first | (with_reducible first | exact HB.out | apply below_alloc | apply pw_below_drewN | apply below_drew1) | exact HB.out)) hb); clear HB; have HB := n0_; clear n0_; (try clear hb); (try clear hb2); (try clear hk); (try clear hi)) | ((with_reducible refine gate_callee (f := 18) rfl ?_); refine goesL_ (some 48) rfl rfl Tryz.func18 (by kernel_rfl) rfl #[.int .i64 0, .bool true, .string a1] rfl (by (try simp only [List.map_toArray, List.map_cons, List.map_nil]); first | done | rfl | (simp only [List.length_drop, List.length_take]; rfl)) ?_; (with_reducible refine (context_Parse.calls 0 true a1 t116 t117 _ ?side1 A12.out).mono ?_); (case side1 => exact Glob.step hGl (by repeat (first | (with_reducible first | exact HB.out | apply below_alloc | apply pw_below_drewN | apply below_drew1) | exact HB.out))); rintro e w82 ⟨rfl, hb⟩; refine ⟨_, rfl, ?_⟩; have n0_ := Aside0.mk (below_step (by repeat (first | (with_reducible first | exact HB.out | apply below_alloc | apply pw_below_drewN | apply below_drew1) | exact HB.out)) hb); clear HB; have HB := n0_; clear n0_; (try clear hb); (try clear hb2); (try clear hk); (try clear hi)) | ((with_reducible refine gate_callee (f := 18) rfl ?_); refine goesL_ (some 53) rfl rfl Tryz.func18 (by kernel_rfl) rfl #[.int .i64 2, .bool false, .string a1] rfl (by (try simp only [List.map_toArray, List.map_cons, List.map_nil]); first | done | rfl | (simp only [List.length_drop, List.length_take]; rfl)) ?_; (with_reducible refine (context_Parse.calls 2 false a1 t118 t119 _ ?side1 A13.out).mono ?_); (case side1 => exact Glob.step hGl (by repeat (first | (with_reducible first | exact HB.out | apply below_alloc | apply pw_below_drewN | apply below_drew1) | exact HB.out))); rintro e w83 ⟨rfl, hb⟩; refine ⟨_, rfl, ?_⟩; have n0_ := Aside0.mk (below_step (by repeat (first | (with_reducible first | exact HB.out | apply below_alloc | apply pw_below_drewN | apply below_drew1) | exact HB.out)) hb); clear HB; have HB := n0_; clear n0_; (try clear hb); (try clear hb2); (try clear hk); (try clear hi)) | ((with_reducible refine gate_callee (f := 18) rfl ?_); refine goesL_ (some 58) rfl rfl Tryz.func18 (by kernel_rfl) rfl #[.int .i64 2, .bool true, .string a1] rfl (by (try simp only [List.map_toArray, List.map_cons, List.map_nil]); first | done | rfl | (simp only [List.length_drop, List.length_take]; rfl)) ?_; (with_reducible refine (context_Parse.calls 2 true a1 t120 t121 _ ?side1 A14.out).mono ?_); (case side1 => exact Glob.step hGl (by repeat (first | (with_reducible first | exact HB.out | apply below_alloc | apply pw_below_drewN | apply below_drew1) | exact HB.out))); rintro e w84 ⟨rfl, hb⟩; refine ⟨_, rfl, ?_⟩; have n0_ := Aside0.mk (below_step (by repeat (first | (with_reducible first | exact HB.out | apply below_alloc | apply pw_below_drewN | apply below_drew1) | exact HB.out)) hb); clear HB; have HB := n0_; clear n0_; (try clear hb); (try clear hb2); (try clear hk); (try clear hi)))
            go_ret
            exact ⟨by first | rfl | (simp [errW_none, errW_some] <;> rfl) | (simp [*, errW_none, errW_some] <;> rfl), by repeat (first | (with_reducible first | exact HB.out | apply below_alloc | apply pw_below_drewN | apply below_drew1) | exact HB.out)⟩
        · replace c15 := Bool.eq_false_iff.mpr c15
          subst c15
          have H1 : (some false) = some r := by rw [if_neg (show ¬ (false = true) by decide)] at H; exact H
          clear H
          have H := H1
          clear H1
          obtain rfl := Option.some.inj H
          go_wp2_with (first | ((with_reducible refine gate_callee (f := 24) rfl ?_); refine goesL_ (some 30) rfl rfl Tryz.func24 (by kernel_rfl) rfl #[.int .i64 1, .string a0] rfl (by (try simp only [List.map_toArray, List.map_cons, List.map_nil]); first | done | rfl | (simp only [List.length_drop, List.length_take]; rfl)) ?_; (with_reducible refine (escape_Encode.calls 1 a0 t109 _ A8.out).mono ?_); rintro e w85 ⟨rfl, hb⟩; refine ⟨_, rfl, ?_⟩; have n0_ := Aside0.mk (below_step (by repeat (first | (with_reducible first | exact HB.out | apply below_alloc | apply pw_below_drewN | apply below_drew1) | exact HB.out)) hb); clear HB; have HB := n0_; clear n0_; (try clear hb); (try clear hb2); (try clear hk); (try clear hi)) | ((with_reducible refine gate_callee (f := 18) rfl ?_); refine goesL_ (some 33) rfl rfl Tryz.func18 (by kernel_rfl) rfl #[.int .i64 1, .bool false, .string t109] rfl (by (try simp only [List.map_toArray, List.map_cons, List.map_nil]); first | done | rfl | (simp only [List.length_drop, List.length_take]; rfl)) ?_; (with_reducible refine (context_Parse.calls 1 false t109 t110 t111 _ ?side1 A9.out).mono ?_); (case side1 => exact Glob.step hGl (by repeat (first | (with_reducible first | exact HB.out | apply below_alloc | apply pw_below_drewN | apply below_drew1) | exact HB.out))); rintro e w86 ⟨rfl, hb⟩; refine ⟨_, rfl, ?_⟩; have n0_ := Aside0.mk (below_step (by repeat (first | (with_reducible first | exact HB.out | apply below_alloc | apply pw_below_drewN | apply below_drew1) | exact HB.out)) hb); clear HB; have HB := n0_; clear n0_; (try clear hb); (try clear hb2); (try clear hk); (try clear hi)) | ((with_reducible refine gate_callee (f := 18) rfl ?_); refine goesL_ (some 38) rfl rfl Tryz.func18 (by kernel_rfl) rfl #[.int .i64 1, .bool true, .string t109] rfl (by (try simp only [List.map_toArray, List.map_cons, List.map_nil]); first | done | rfl | (simp only [List.length_drop, List.length_take]; rfl)) ?_; (with_reducible refine (context_Parse.calls 1 true t109 t112 t113 _ ?side1 A10.out).mono ?_); (case side1 => exact Glob.step hGl (by repeat (first | (with_reducible first | exact HB.out | apply below_alloc | apply pw_below_drewN | apply below_drew1) | exact HB.out))); rintro e w87 ⟨rfl, hb⟩; refine ⟨_, rfl, ?_⟩; have n0_ := Aside0.mk (below_step (by repeat (first | (with_reducible first | exact HB.out | apply below_alloc | apply pw_below_drewN | apply below_drew1) | exact HB.out)) hb); clear HB; have HB := n0_; clear n0_; (try clear hb); (try clear hb2); (try clear hk); (try clear hi)) | ((with_reducible refine gate_callee (f := 18) rfl ?_); refine goesL_ (some 43) rfl rfl Tryz.func18 (by kernel_rfl) rfl #[.int .i64 0, .bool false, .string a1] rfl (by (try simp only [List.map_toArray, List.map_cons, List.map_nil]); first | done | rfl | (simp only [List.length_drop, List.length_take]; rfl)) ?_; (with_reducible refine (context_Parse.calls 0 false a1 t114 t115 _ ?side1 A11.out).mono ?_); (case side1 => exact Glob.step hGl (by repeat (first | (with_reducible first | exact HB.out | apply below_alloc | apply pw_below_drewN | apply below_drew1) | exact HB.out))); rintro e w88 ⟨rfl, hb⟩; refine ⟨_, rfl, ?_⟩; have n0_ := Aside0.mk (below_step (by repeat (first | (with_reducible first | exact HB.out | apply below_alloc | apply pw_below_drewN | apply below_drew1) | exact HB.out)) hb); clear HB; have HB := n0_; clear n0_; (try clear hb); (try clear hb2); (try clear hk); (try clear hi)) | ((with_reducible refine gate_callee (f := 18) rfl ?_); refine goesL_ (some 48) rfl rfl Tryz.func18 (by kernel_rfl) rfl #[.int .i64 0, .bool true, .string a1] rfl (by (try simp only [List.map_toArray, List.map_cons, List.map_nil]); first | done | rfl | (simp only [List.length_drop, List.length_take]; rfl)) ?_; (with_reducible refine (context_Parse.calls 0 true a1 t116 t117 _ ?side1 A12.out).mono ?_); (case side1 => exact Glob.step hGl (by repeat (first | (with_reducible first | exact HB.out | apply below_alloc | apply pw_below_drewN | apply below_drew1) | exact HB.out))); rintro e w89 ⟨rfl, hb⟩; refine ⟨_, rfl, ?_⟩; have n0_ := Aside0.mk (below_step (by repeat (first | (with_reducible first | exact HB.out | apply below_alloc | apply pw_below_drewN | apply below_drew1) | exact HB.out)) hb); clear HB; have HB := n0_; clear n0_; (try clear hb); (try clear hb2); (try clear hk); (try clear hi)) | ((with_reducible refine gate_callee (f := 18) rfl ?_); refine goesL_ (some 53) rfl rfl Tryz.func18 (by kernel_rfl) rfl #[.int .i64 2, .bool false, .string a1] rfl (by (try simp only [List.map_toArray, List.map_cons, List.map_nil]); first | done | rfl | (simp only [List.length_drop, List.length_take]; rfl)) ?_; (with_reducible refine (context_Parse.calls 2 false a1 t118 t119 _ ?side1 A13.out).mono ?_); (case side1 => exact Glob.step hGl (by repeat (first | (with_reducible first | exact HB.out | apply below_alloc | apply pw_below_drewN | apply below_drew1) | exact HB.out))); rintro e w90 ⟨rfl, hb⟩; refine ⟨_, rfl, ?_⟩; have n0_ := Aside0.mk (below_step (by repeat (first | (with_reducible first | exact HB.out | apply below_alloc | apply pw_below_drewN | apply below_drew1) | exact HB.out)) hb); clear HB; have HB := n0_; clear n0_; (try clear hb); (try clear hb2); (try clear hk); (try clear hi)) | ((with_reducible refine gate_callee (f := 18) rfl ?_); refine goesL_ (some 58) rfl rfl Tryz.func18 (by kernel_rfl) rfl #[.int .i64 2, .bool true, .string a1] rfl (by (try simp only [List.map_toArray, List.map_cons, List.map_nil]); first | done | rfl | (simp only [List.length_drop, List.length_take]; rfl)) ?_; (with_reducible refine (context_Parse.calls 2 true a1 t120 t121 _ ?side1 A14.out).mono ?_); (case side1 => exact Glob.step hGl (by repeat (first | (with_reducible first | exact HB.out | apply below_alloc | apply pw_below_drewN | apply below_drew1) | exact HB.out))); rintro e w91 ⟨rfl, hb⟩; refine ⟨_, rfl, ?_⟩; have n0_ := Aside0.mk (below_step (by repeat (first | (with_reducible first | exact HB.out | apply below_alloc | apply pw_below_drewN | apply below_drew1) | exact HB.out)) hb); clear HB; have HB := n0_; clear n0_; (try clear hb); (try clear hb2); (try clear hk); (try clear hi)))
          go_ret
          exact ⟨by first | rfl | (simp [errW_none, errW_some] <;> rfl) | (simp [*, errW_none, errW_some] <;> rfl), by repeat (first | (with_reducible first | exact HB.out | apply below_alloc | apply pw_below_drewN | apply below_drew1) | exact HB.out)⟩
end Go.Proofs.YtbdcghbafopjjaaGreatDoor.Su
end

section
namespace Go.Proofs.YtbdcghbafopjjaaGreatDoor.Hand
open Go Go.RowKit Go.Proofs.YtbdcghbafopjjaaGreatDoor.Pl Go.Proofs.YtbdcghbafopjjaaGreatDoor.Pb Go.Proofs.YtbdcghbafopjjaaGreatDoor.Pure
theorem tagN_b (x : List UInt8) : tagN (60 :: 98 :: x) = 1 := rfl
theorem attrL_62 (L : List AttrT) (x : List UInt8) : attrL L (62 :: x) = some (L, false, x) := by
  rw [attrL_eq, show spL (62 :: x) = 62 :: x from rfl]
  simp only [if_true]
theorem tokL_b (x : List UInt8) : tokL (60 :: 98 :: 62 :: x) = (some (.start [98] [] false), x) := by
  unfold tokL
  rw [if_pos (by rw [tagN_b]; decide)]
  unfold tagL
  rw [tagN_b, show (((60 : UInt8) :: 98 :: 62 :: x).drop 1).dropWhile stC = 62 :: x from rfl, attrL_62]
  rfl
theorem drvL_b (x : List UInt8) : drvL (60 :: 98 :: 62 :: x) = .start [98] [] false :: drvL x := by
  rw [drvL_eq (by simp), tokL_b]
  rfl
theorem only_b {t : List UInt8} (h : (60 : UInt8) ∉ t) : (onlyL (driveL (t ++ [60, 98, 62]))).2 = false := by
  have hd : drvL (t ++ [60, 98, 62]) = (if t = [] then [] else [.text (rdL false t)]) ++ [.start [98] [] false] := by
    by_cases ht : t = []
    · subst ht; rw [if_pos rfl, List.nil_append, drvL_b, drvL_nil]; rfl
    · rw [if_neg ht, drvL_text ht h rfl, drvL_b, drvL_nil]; rfl
  have hj : ∃ u, driveL (t ++ [60, 98, 62]) = txtT u ++ [.start [98] [] false] := by
    unfold driveL
    rw [hd]
    split
    · exact ⟨[], rfl⟩
    · exact ⟨rdL false t, joinL_txno _ [] rfl⟩
  obtain ⟨u, hu⟩ := hj
  rw [hu]
  unfold txtT
  split <;> rfl
theorem spL_sp (r : List UInt8) : spL (32 :: r) = spL r := rfl
theorem attrL_sp (L : List AttrT) (r : List UInt8) : attrL L (32 :: r) = attrL L r := by rw [attrL_eq, attrL_eq L r, spL_sp]
theorem tokL_a {x r : List UInt8} {al : List AttrT} {self : Bool} (h : attrL [] x = some (al, self, r)) : tokL (60 :: 97 :: 32 :: x) = (some (.start [97] al self), r) := by
  have ht : tagN (60 :: 97 :: 32 :: x) = 1 := rfl
  unfold tokL
  rw [if_pos (by rw [ht]; decide)]
  unfold tagL
  rw [ht, show (((60 : UInt8) :: 97 :: 32 :: x).drop 1).dropWhile stC = 32 :: x from rfl, attrL_sp, h]
  rfl
theorem drive_a {x : List UInt8} {al : List AttrT} {self : Bool} (h : attrL [] x = some (al, self, [])) : driveL (60 :: 97 :: 32 :: x) = [.start [97] al self] := by
  unfold driveL
  rw [drvL_eq (by simp), tokL_a h]
  rfl
theorem qB_or (single : Bool) : qB single = 34 ∨ qB single = 39 := by cases single <;> decide
theorem wrap1 (single : Bool) (t : List UInt8) : wrapL 1 single t = 60 :: 97 :: 32 :: 120 :: 61 :: qB single :: (t ++ qB single :: [62]) := by
  unfold wrapL attrO
  rw [if_neg (by decide), if_pos rfl]
  rfl
theorem value_txt (single : Bool) {t : List UInt8} (h : qB single ∉ t) : valueL (driveL (wrapL 1 single t)) = (cleanL (rdL true t), true) := by
  rw [wrap1, drive_a (al := [([120], cleanL (rdL true t))]) (self := false) (by rw [quoted_L (qB_or single) h, attrL_62])]
  rfl
theorem ends_ne {c : UInt8} (r name : List UInt8) (h : c ≠ 60) : endsL (c :: r) name = false := by
  cases he : endsL (c :: r) name with
  | false => rfl
  | true =>
    have := ends_pref he
    simp [List.isPrefixOf] at this
    exact absurd this.1.symm h
theorem firstE_app (name : List UInt8) {s : List UInt8} (r : List UInt8) (h : (60 : UInt8) ∉ s) : firstE name (s ++ r) = s.length + firstE name r := by
  induction s with
  | nil => rw [List.nil_append]; exact (Nat.zero_add _).symm
  | cons c s ih =>
    rw [List.mem_cons, not_or] at h
    rw [List.cons_append, firstE, if_neg (by rw [ends_ne _ _ (fun e => h.1 e.symm)]; decide), ih h.2, List.length_cons]
    omega
theorem firstE_areaC (y : List UInt8) : firstE areaW (areaC ++ y) = 0 := by
  show firstE areaW (60 :: _) = 0
  rw [firstE, if_pos (by rfl)]
theorem tagR_areaC (y : List UInt8) : tagR (areaC ++ y) = (some (.fin areaW), y) := by
  have ht : tagN (areaC ++ y) = 2 := rfl
  unfold tagR
  rw [if_neg (by rw [ht]; decide)]
  unfold tagL
  rw [ht, show ((areaC ++ y).drop 2).dropWhile stC = 62 :: y from rfl, attrL_62]
  rfl
theorem restL_area {x y : List UInt8} {n : Nat} (hn : firstE areaW x = n) (hd : x.drop n = areaC ++ y) : restL 1 areaW x = (txtT (rawT true (x.take n)) ++ [.fin areaW], y) := by
  have he : endN 1 areaW x = n := by unfold endN; rw [if_pos (.inl rfl), hn]
  unfold restL
  rw [if_neg (by decide), he, hd, if_neg (by simp [areaC]), tagR_areaC]
  rfl
theorem drvL_area (x : List UInt8) : drvL (areaO ++ x) = .start areaW [] false :: ((restL 1 areaW x).1 ++ drvL (restL 1 areaW x).2) := by
  have ht : tagN (areaO ++ x) = 1 := rfl
  have hk : tokL (areaO ++ x) = (some (.start areaW [] false), x) := by
    unfold tokL
    rw [if_pos (by rw [ht]; decide)]
    unfold tagL
    rw [ht, show ((areaO ++ x).drop 1).dropWhile stC = 62 :: x from rfl, attrL_62]
    rfl
  rw [drvL_eq (by simp [areaO]), hk]
  rfl
theorem join_area (u : List UInt8) (r : List Tk) : joinL (.start areaW [] false :: (txtT u ++ (.fin areaW :: r))) = .start areaW [] false :: (txtT u ++ (.fin areaW :: joinL r)) := by
  rw [joinL_no _ rfl]
  congr 1
  unfold txtT
  split
  · exact joinL_no _ rfl
  · rename_i hu
    show joinL (.text u :: .fin areaW :: r) = _
    rw [joinL_txno _ _ rfl]
    unfold txtT; rw [if_neg hu]
theorem within_txt {x : List UInt8} {n : Nat} (single : Bool) (hn : firstE areaW (x ++ areaC) = n) (hl : n = x.length) : withinL (driveL (wrapL 2 single x)) = (trimN (cleanL (rdL false x)), true) := by
  have hr := restL_area (x := x ++ areaC) (y := []) (hn.trans hl) (by rw [List.drop_left, List.append_nil])
  rw [List.take_left] at hr
  have hw : wrapL 2 single x = areaO ++ (x ++ areaC) := by unfold wrapL; rw [if_neg (by decide), if_neg (by decide), if_pos rfl]
  unfold driveL
  rw [hw, drvL_area, hr]
  simp only [drvL_nil, List.append_nil]
  rw [join_area, show rawT true x = cleanL (rdL false x) from rfl]
  generalize cleanL (rdL false x) = u
  unfold txtT
  split
  · rename_i e; subst e; rfl
  · rfl
theorem area_plain {x : List UInt8} (h : (60 : UInt8) ∉ x) : firstE areaW (x ++ areaC) = x.length := by
  have := firstE_areaC []
  rw [List.append_nil] at this
  rw [firstE_app _ _ h, this, Nat.add_zero]
end Go.Proofs.YtbdcghbafopjjaaGreatDoor.Hand
end

section
namespace Go.Proofs.YtbdcghbafopjjaaGreatDoor.Hand
open Go Go.RowKit Go.Proofs.YtbdcghbafopjjaaGreatDoor.Pl Go.Proofs.YtbdcghbafopjjaaGreatDoor.Pb Go.Proofs.YtbdcghbafopjjaaGreatDoor.Pure
theorem parse0 (single : Bool) (s : List UInt8) : parseL 0 single s = onlyL (driveL (normL s)) := by unfold parseL; rw [if_pos rfl, norm_wrap]; rfl
theorem parse1 (single : Bool) (s : List UInt8) : parseL 1 single s = valueL (driveL (wrapL 1 single (normL s))) := by unfold parseL; rw [if_neg (by decide), if_pos rfl, norm_wrap]
theorem parse2 (single : Bool) (s : List UInt8) : parseL 2 single s = withinL (driveL (wrapL 2 single (normL s))) := by unfold parseL; rw [if_neg (by decide), if_neg (by decide), if_pos rfl, norm_wrap]
theorem aw_1 : (parseL 0 false [97, 60, 98, 62]).2 = false := by
  rw [parse0, normL_of_no13 (by decide)]
  exact only_b (t := [97]) (by decide)
theorem aw_2 : parseL 1 false [97, 62, 98] = ([97, 62, 98], true) := by
  rw [parse1, normL_of_no13 (by decide), value_txt false (by decide), rdL_no true (by decide)]; rfl
theorem aw_3 : parseL 2 false [10, 97] = ([97], true) := by
  rw [parse2, normL_of_no13 (by decide), within_txt false (area_plain (by decide)) rfl, rdL_no false (by decide)]; rfl
end Go.Proofs.YtbdcghbafopjjaaGreatDoor.Hand
end

section
namespace Go.Proofs.YtbdcghbafopjjaaGreatDoor.Hand
open Go Go.RowKit Go.Proofs.YtbdcghbafopjjaaGreatDoor.Pl Go.Proofs.YtbdcghbafopjjaaGreatDoor.Pb
def rowAt (T : List UInt8) (p : Nat) (key rest : List UInt8) : Bool := (T[p]? == some 10) && (lnT T (p + 1) == key ++ 32 :: rest)
def wordAmp : List UInt8 := [97, 109, 112]
def wordLt : List UInt8 := [108, 116]
def wordGt : List UInt8 := [103, 116]
def wordQuot : List UInt8 := [113, 117, 111, 116]
def wordNbsp : List UInt8 := [110, 98, 115, 112]
set_option maxRecDepth 1000000 in
theorem rows_are : (rowAt namesL 9820 (wordAmp ++ [59]) [50, 54] && (rowAt namesL 9813 wordAmp [50, 54] && (rowAt namesL 19023 (wordLt ++ [59]) [51, 67] && (rowAt namesL 15791 (wordGt ++ [59]) [51, 69] && (rowAt namesL 23656 (wordQuot ++ [59]) [50, 50] && rowAt namesL 20038 (wordNbsp ++ [59]) [65, 48]))))) = true := by kernel_rfl
theorem row_fnd {p : Nat} {key rest : List UInt8} (h : rowAt namesL p key rest = true) (hk : ∀ c ∈ key, c ≠ 10 ∧ c ≠ 32) : Fnd namesL key (some rest) := by
  unfold rowAt at h
  rw [Bool.and_eq_true, beq_iff_eq, beq_iff_eq] at h
  obtain ⟨h1, h2⟩ := h
  refine .inl ⟨p + 1, .inr ⟨p, rfl, h1⟩, ?_, ?_⟩
  · unfold kyT; rw [h2, ky_row hk]
  · rw [h2]; unfold rsL; rw [ky_row hk, List.drop_append, List.drop_eq_nil_of_le (by omega), List.nil_append, show key.length + 1 - key.length = 1 by omega]; rfl
theorem fnd_amp : Fnd namesL (wordAmp ++ [59]) (some [50, 54]) := row_fnd (Bool.and_eq_true_iff.1 rows_are).1 (by decide)
theorem fnd_lt : Fnd namesL (wordLt ++ [59]) (some [51, 67]) := row_fnd (Bool.and_eq_true_iff.1 (Bool.and_eq_true_iff.1 (Bool.and_eq_true_iff.1 rows_are).2).2).1 (by decide)
theorem fnd_gt : Fnd namesL (wordGt ++ [59]) (some [51, 69]) := row_fnd (Bool.and_eq_true_iff.1 (Bool.and_eq_true_iff.1 (Bool.and_eq_true_iff.1 (Bool.and_eq_true_iff.1 rows_are).2).2).2).1 (by decide)
theorem fnd_quot : Fnd namesL (wordQuot ++ [59]) (some [50, 50]) := row_fnd (Bool.and_eq_true_iff.1 (Bool.and_eq_true_iff.1 (Bool.and_eq_true_iff.1 (Bool.and_eq_true_iff.1 (Bool.and_eq_true_iff.1 rows_are).2).2).2).2).1 (by decide)
theorem fnd_key {key rest : List UInt8} (h : Fnd namesL key (some rest)) : isKey namesL key := (fnd_rest h).2.2
theorem nameT_of {key rest : List UInt8} (h : Fnd namesL key (some rest)) : nameT key = (textB (num1 rest) (num2 rest)).data.toList := by unfold nameT; rw [rowN_eq h]
theorem nameT_amp : nameT (wordAmp ++ [59]) = [38] := by rw [nameT_of fnd_amp]; decide +kernel
theorem nameT_lt : nameT (wordLt ++ [59]) = [60] := by rw [nameT_of fnd_lt]; decide +kernel
theorem nameT_gt : nameT (wordGt ++ [59]) = [62] := by rw [nameT_of fnd_gt]; decide +kernel
theorem nameT_quot : nameT (wordQuot ++ [59]) = [34] := by rw [nameT_of fnd_quot]; decide +kernel
theorem lng_stop {k r : List UInt8} {c : UInt8} (hk : isKey namesL k) (hc : kyC c = false ∧ c ≠ 59 ∨ k.getLast? = some 59) : lngN (k ++ c :: r) = k.length := by
  have hf := key_facts hk
  refine lngN_eq ⟨?_, .inr (by rw [List.take_left]; exact hk), fun m h1 h2 hm => ?_⟩
  · have := hf.le; simp; omega
  · have hg := key_facts hm
    have h2' : m ≤ (k ++ c :: r).length := by omega
    obtain ⟨d, rfl⟩ : ∃ d, m = k.length + 1 + d := ⟨m - (k.length + 1), by omega⟩
    have e : (k ++ c :: r).take (k.length + 1 + d) = k ++ c :: r.take d := by
      rw [List.take_append, List.take_of_length_le (by omega), show k.length + 1 + d - k.length = d + 1 by omega, List.take_succ_cons]
    rw [e] at hg
    rcases hc with ⟨h3, h4⟩ | h3
    ·
      cases hd : r.take d with
      | nil =>
        rw [hd] at hg
        obtain ⟨x, hx, hx2⟩ := hg.last
        simp at hx
        subst hx
        rcases hx2 with h | h
        · rw [h3] at h; cases h
        · exact h4 h
      | cons y t =>
        rw [hd] at hg
        have hmem : c ∈ (k ++ c :: y :: t).dropLast := by
          rw [List.dropLast_append_of_ne_nil (by simp)]
          simp
        have := hg.inner c hmem
        rw [h3] at this; cases this
    · have hmem : (59 : UInt8) ∈ (k ++ c :: r.take d).dropLast := by
        rw [List.dropLast_append_of_ne_nil (by simp)]
        exact List.mem_append_left _ (List.mem_of_getLast? h3)
      have := hg.inner 59 hmem
      exact absurd this (by decide)
theorem num_letter {k r : List UInt8} (hk : isKey namesL k) : numL (k ++ r) = none := by
  have hf := key_facts hk
  cases k with
  | nil => exact absurd rfl hf.pos
  | cons c k =>
    have hh := hf.head
    have h35 : c ≠ 35 := by rintro rfl; exact absurd hh (by simp [hdC])
    unfold numL
    rw [if_neg]
    simp [begR, h35]
    have : ∀ n : Fin 256, lowB (UInt8.ofNat n.val) = 35 → UInt8.ofNat n.val = 35 := by decide +kernel
    have h := this ⟨c.toNat, c.toNat_lt⟩
    simp only [UInt8.ofNat_toNat] at h
    exact fun e => h35 (h e)
theorem refN_semi {attr : Bool} {w : List UInt8} (r : List UInt8) (hk : isKey namesL (w ++ [59])) : refN attr (38 :: (w ++ 59 :: r)) = (nameT (w ++ [59]), w.length + 2) := by
  have hl : lngN (w ++ 59 :: r) = w.length + 1 := by
    cases r with
    | nil =>
      refine lngN_eq ⟨?_, .inr ?_, fun m h1 h2 _ => ?_⟩
      · have := (key_facts hk).le; simp at this ⊢; omega
      · rw [List.take_of_length_le (by simp)]; exact hk
      · simp at h2; omega
    | cons c r =>
      have := lng_stop (c := c) (r := r) hk (.inr (by simp))
      rw [List.append_assoc] at this
      simpa using this
  have hn : numL (w ++ 59 :: r) = none := by
    have := num_letter (r := r) hk
    rwa [List.append_assoc] at this
  have ht : (w ++ 59 :: r).take (w.length + 1) = w ++ [59] := by
    rw [List.take_append, List.take_of_length_le (by omega), show w.length + 1 - w.length = 1 by omega]; rfl
  unfold refN
  rw [List.drop_succ_cons, List.drop_zero, hn, hl, ht]
  simp only
  rw [if_neg, show 1 + (w.length + 1) = w.length + 2 by omega]
  rintro (e | e)
  · omega
  · unfold leftL at e
    rw [show Lib.hasSuffix (w ++ [59]) [59] = true by unfold Lib.hasSuffix; simp] at e
    simp at e
theorem rdL_semi {attr : Bool} {w : List UInt8} (r : List UInt8) (hk : isKey namesL (w ++ [59])) : rdL attr (38 :: (w ++ 59 :: r)) = nameT (w ++ [59]) ++ rdL attr r := by
  rw [rdL_amp, refN_semi r hk]
  simp only
  congr 2
  rw [List.drop_succ_cons, List.drop_append, List.drop_eq_nil_of_le (by omega), show w.length + 1 - w.length = 1 by omega]; rfl
theorem numL_dec (ds r : List UInt8) (h : ∀ c ∈ ds, isDg false c = true) (h0 : ds ≠ []) {m : Nat} (hv : valL 10 ds = m) : numL (35 :: (ds ++ 59 :: r)) = some (m, ds.length + 2) := by
  have hx : begR (ds ++ 59 :: r) [120] = false := by
    cases ds with
    | nil => exact absurd rfl h0
    | cons c ds =>
      have hc := h c (by simp)
      have : ∀ n : Fin 256, isDg false (UInt8.ofNat n.val) = true → (lowB (UInt8.ofNat n.val) == 120) = false := by decide +kernel
      have g := this ⟨c.toNat, c.toNat_lt⟩
      simp only [UInt8.ofNat_toNat] at g
      simp [begR, g hc]
  have hd : digs false (ds ++ 59 :: r) = ds := by
    unfold digs
    rw [tw_app _ _ _ h, List.takeWhile_cons, if_neg (by decide), List.append_nil]
  unfold numL
  rw [show begR (35 :: (ds ++ 59 :: r)) [35] = true by simp [begR, lowB], if_pos rfl, List.drop_succ_cons, List.drop_zero, hx, if_neg (by decide)]
  unfold numQ
  simp only [hd]
  rw [show baseN false = 10 from rfl, hv, if_neg (by omega), List.drop_left, show begR (59 :: r) [59] = true by simp [begR, lowB], if_pos rfl]
  simp only [Option.map_some, Int.toNat_natCast]
theorem refN_dec {attr : Bool} (ds r : List UInt8) (h : ∀ c ∈ ds, isDg false c = true) (h0 : ds ≠ []) {m : Nat} (hv : valL 10 ds = m) : refN attr (38 :: 35 :: (ds ++ 59 :: r)) = ((fixB m).data.toList, ds.length + 3) := by
  unfold refN
  rw [List.drop_succ_cons, List.drop_zero, numL_dec ds r h h0 hv]
  simp only
  rw [show 1 + (ds.length + 2) = ds.length + 3 by omega]
theorem rdL_dec {attr : Bool} (ds r : List UInt8) (h : ∀ c ∈ ds, isDg false c = true) (h0 : ds ≠ []) {m : Nat} (hv : valL 10 ds = m) : rdL attr (38 :: 35 :: (ds ++ 59 :: r)) = (fixB m).data.toList ++ rdL attr r := by
  rw [rdL_amp, refN_dec ds r h h0 hv]
  simp only
  congr 2
  rw [show ds.length + 3 = (ds.length + 1) + 2 by omega, List.drop_succ_cons, List.drop_succ_cons, List.drop_append, List.drop_eq_nil_of_le (by omega), show ds.length + 1 - ds.length = 1 by omega]; rfl
end Go.Proofs.YtbdcghbafopjjaaGreatDoor.Hand
end
