/-
  Hand walks: raw.places, its iterator, raw.Find.
-/
import Derived.RangeFuncNested
import Derived.RangeFuncBound
import Derived.RangeFuncCalls
import Derived.RangeFuncLeaves
import Derived.RangeFuncFrom
import Derived.Shelf.Abstract
import Derived.Shelf.RegionOpen
import Derived.OwnWalkIn
import Derived.TacticsInMore
import Derived.LoopNIn
import Derived.LoopIn
import Derived.Lib.Index
import Derived.Test.YtppaobgccdlccaaDoorHaL
import Derived.Test.YtppaobgccdlccaaDoorHa1
import Derived.Test.YtppaobgccdlccaaDoorSa
import Derived.Test.YtppaobgccdlccaaDoorPuSign
import Derived.Test.YtppaobgccdlccaaDoorSc
import Derived.Test.YtppaobgccdlccaaDoorPlR
namespace Go.Proofs.YtppaobgccdlccaaDoor.Hand
open Go.RowKit Go.Shelf Go.Proofs.YtppaobgccdlccaaDoor.K0 Go.Proofs.YtppaobgccdlccaaDoor.Pl Go.Proofs.YtppaobgccdlccaaDoor.Pb Go.Proofs.YtppaobgccdlccaaDoor.Sa Go.Proofs.YtppaobgccdlccaaDoor.Pure Go.Proofs.YtppaobgccdlccaaDoorW.PrintWords Go.Proofs.YtppaobgccdlccaaDoorW.PrintLast Go.Proofs.YtppaobgccdlccaaDoorW.PrintMore

theorem cell_new_l (W : World) (v : Value) (t : TypeId) : (W.alloc (.cells #[v] t)).cell? ⟨W.heap.size, 0, none⟩ = some v ∧ (W.alloc (.cells #[v] t)).frozen? ⟨W.heap.size, 0, none⟩ = false :=
  ⟨World.cell?_alloc_at _ t _ 0 rfl, World.frozen?_alloc_at _ t _ 0 rfl⟩
theorem cell_alloc_l {W : World} {a : Addr} {v : Value} (o : Obj) (h : W.cell? a = some v) : (W.alloc o).cell? a = some v := cell_kept h (World.grownBy_alloc W o none) (fun r e => by cases e)
theorem frozen_alloc_l {W : World} {a : Addr} {v : Value} (o : Obj) (h : W.cell? a = some v) (hf : W.frozen? a = false) : (W.alloc o).frozen? a = false := (frozen_kept h (World.grownBy_alloc W o none) (fun r e => by cases e)).trans hf

set_option maxHeartbeats 400000 in
theorem places_any (s : ByteArray) (i : Int) (w : World) : Calls Tryd.prog 71 #[.string s, .int .i64 i] w fun e w' =>
    e = .returned (.func (.func 92) #[] #[.pointer (some ⟨w.heap.size + 1, 0, none⟩), .pointer (some ⟨w.heap.size, 0, none⟩)]) ∧ w' = (w.alloc (.cells #[.string s] 9)).alloc (.cells #[.int .i64 i] 3) := by
  go_enter Tryd.func71, Tryd.ntmps71
  go_wp2
  go_ret
  exact ⟨rfl, rfl⟩

attribute [local go_sem] Oper.semAt_some
set_option maxRecDepth 100000 in
set_option maxHeartbeats 2000000 in
theorem places1_in (n l Ba Bs n₀ : Nat) (s : ByteArray) (at0 : Nat) (hn : 1 ≤ n) (hs : s.size ≤ 1000000) (hat : at0 ≤ s.size) (J Jx : List Nat → World → Prop)
    (hY : ∀ pre x W, J pre W → pre.length < s.size + 1 → YieldAt Fence.wide (n - 1) Tryd.prog l #[.int .i64 (x : Nat)] W fun e W' =>
      (e = .returned (.bool true) ∧ J (pre ++ [x]) W' ∧ Below n₀ W W') ∨ (e = .returned (.bool false) ∧ Jx (pre ++ [x]) W'))
    (W : World) (hG : Glob W) (h00 : 0 < n₀) (hBa : Ba < n₀) (hBs : Bs < n₀) (ha : W.cell? ⟨Ba, 0, none⟩ = some (.int .i64 at0)) (hc : W.cell? ⟨Bs, 0, none⟩ = some (.string s)) (h0 : J [] W) :
    CallsIn Fence.wide n Tryd.prog 92 #[.func (.yield l) #[] #[], .pointer (some ⟨Ba, 0, none⟩), .pointer (some ⟨Bs, 0, none⟩)] W fun e W' => (∃ v, e = .returned v) ∧
      ((∃ ys, ys = plc at0 (s.data.toList.drop at0) ∧ J ys W') ∨ (∃ pre, pre <+: plc at0 (s.data.toList.drop at0) ∧ Jx pre W')) := by
  refine callsIn_of_wp Tryd.func92 rfl trivial ?_ rfl
  simp only [Tryd.ntmps92, List.size_toArray, List.length_cons, List.length_nil, Nat.reduceAdd, Nat.reduceSub, Array.replicate_succ, Array.replicate_zero, List.push_toArray, List.append_toArray, List.nil_append, List.cons_append]
  gi_wp2
  gi_loopw [4] (fun i wr => ∃ (k : Nat) (pre : List Nat), k ≤ s.size ∧ i = .int .i64 k ∧ J pre wr ∧ pre ++ plc k (s.data.toList.drop k) = plc at0 (s.data.toList.drop at0) ∧ Below n₀ W wr) (fun i _ => s.size - (intOf i).toNat)
  case atStart => exact ⟨at0, [], hat, rfl, h0, rfl, Below.refl _ _⟩
  case round =>
    obtain ⟨k, pre, hk, rfl, hJs, hp, hB⟩ := hrel
    have ha' := (hB.cell (p := ⟨Ba, 0, none⟩) hBa).trans ha
    have hc' := (hB.cell (p := ⟨Bs, 0, none⟩) hBs).trans hc
    have HP := Lib.hid hp
    have HB := Lib.hid hB
    obtain ⟨m, hm⟩ := hG
    have hm' := (hB.cell (p := ⟨0, 0, none⟩) h00).trans hm
    have hx := xdrop s k
    by_cases hlt : k < s.size
    · have CI := Lib.hid (Tryd.strings_Index (s.extract k s.size) ⟨#[60, 47]⟩ m wr (by simp; omega) hm')
      obtain ⟨q, hq⟩ : ∃ q, Lib.index (s.extract k s.size).data.toList [60, 47] = q := ⟨_, rfl⟩
      have hq0 := Lib.index_ge (s.extract k s.size).data.toList [60, 47]
      have hq1 := Lib.index_le (s.extract k s.size).data.toList [60, 47]
      rw [hq] at hq0 hq1
      have hql : (s.extract k s.size).data.toList.length = s.size - k := by rw [hx]; simp
      rw [hql] at hq1
      replace CI : Hid (Calls Tryd.prog 93 #[.string (s.extract k s.size), .string ⟨#[60, 47]⟩] wr fun e w' => e = .returned (.int .i64 q) ∧ w' = wr) := by
        have := CI.out
        rw [show (⟨#[60, 47]⟩ : ByteArray).data.toList = [60, 47] from rfl, hq] at this
        exact this
      rw [hx] at hq
      have HQ := Lib.hid hq
      clear hq hx hql hp hB hm
      by_cases hneg : q < 0
      · gi_wp2_with (refine ⟨trivial, ?_⟩; gi_at_call 93; refine (callsIn_wide.2 CI.out).mono ?_; rintro e w' ⟨rfl, rfl⟩)
        refine bodyPost_ret (results_none rfl _ _ _) rfl ?_
        exact ⟨⟨_, rfl⟩, .inl ⟨pre, by rw [← HP.out, plc_none _ _ (by rw [HQ.out]; exact hneg), List.append_nil], hJs⟩⟩
      · obtain ⟨j, rfl⟩ : ∃ j : Nat, q = j := ⟨q.toNat, by omega⟩
        have hkj : k + j + 1 ≤ s.size := by
          have h1 := index_lt _ j HQ.out
          rw [List.length_drop, Array.length_toList] at h1
          have : s.data.size = s.size := rfl
          omega
        have hps := plc_some (s.data.toList.drop k) k j HQ.out
        rw [List.drop_drop, show k + (j + 1) = k + j + 1 by omega] at hps
        have hlen : pre.length < s.size + 1 := by
          have h1 := congrArg List.length HP.out
          have h2 := plc_length (s.data.toList.drop at0) at0
          simp only [List.length_append, List.length_drop, Array.length_toList] at h1 h2
          have : s.data.size = s.size := rfl
          omega
        obtain ⟨fn, tmps, assign, body, hy, hR⟩ := hY pre (k + j) wr hJs hlen
        rw [Int.natCast_add] at hy
        have HP' := Lib.hid (show (pre ++ [k + j]) ++ plc (k + j + 1) (s.data.toList.drop (k + j + 1)) = plc at0 (s.data.toList.drop at0) by rw [← HP.out, hps]; simp)
        clear hps hlen
        gi_wp2_with (refine ⟨trivial, ?_⟩; gi_at_call 93; refine (callsIn_wide.2 CI.out).mono ?_; rintro e w' ⟨rfl, rfl⟩)
        refine hR.mono ?_
        rintro e W3 (⟨rfl, hJ3, hk3⟩ | ⟨rfl, hJx3⟩)
        · gi_wp2
          go_roundw
          case rel => exact ⟨k + j + 1, pre ++ [k + j], hkj, by go_num, hJ3, HP'.out, HB.out.trans hk3⟩
          case measure => simp [intOf]; omega
        · gi_wp2
          refine bodyPost_ret (results_none rfl _ _ _) rfl ?_
          exact ⟨⟨_, rfl⟩, .inr ⟨pre ++ [k + j], ⟨_, HP'.out⟩, hJx3⟩⟩
    · obtain rfl : k = s.size := by omega
      gi_wp2
      go_end0
      exact ⟨⟨_, rfl⟩, .inl ⟨pre, by rw [← HP.out, List.drop_eq_nil_of_le (by simp), plc, List.append_nil], hJs⟩⟩
theorem places_stops (n Ba Bs n₀ : Nat) (s : ByteArray) (at0 : Nat) (hn : 1 ≤ n) (hs : s.size ≤ 1000000) (hat : at0 ≤ s.size) (w : World) (hG : Glob w) (h00 : 0 < n₀) (hBa : Ba < n₀) (hBs : Bs < n₀) (hn₀ : n₀ ≤ w.heap.size)
    (ha : w.cell? ⟨Ba, 0, none⟩ = some (.int .i64 at0)) (hc : w.cell? ⟨Bs, 0, none⟩ = some (.string s)) :
    SeqStopsK Fence.wide n Tryd.prog 92 #[.pointer (some ⟨Ba, 0, none⟩), .pointer (some ⟨Bs, 0, none⟩)] (fun x : Nat => #[Value.int .i64 x]) (Below n₀) (fun ys => ys = plc at0 (s.data.toList.drop at0)) (fun pre => pre <+: plc at0 (s.data.toList.drop at0)) (s.size + 1) w :=
  fun l J Jx W hW _ _ hY h0 => places1_in n l Ba Bs n₀ s at0 hn hs hat J Jx hY W (hG.step hW) h00 hBa hBs ((hW.cell (p := ⟨Ba, 0, none⟩) (Nat.lt_of_lt_of_le hBa hn₀)).trans ha) ((hW.cell (p := ⟨Bs, 0, none⟩) (Nat.lt_of_lt_of_le hBs hn₀)).trans hc) h0

theorem ends_past (s name : List UInt8) (n k : Nat) (hn : s.length < n) : raw_Ends.f (k + 1) (B s) (n : Int) (B name) = some (endsL (s.drop n) name) := by
  have hd : s.drop n = [] := List.drop_eq_nil_of_le (by omega)
  have he : endsL [] name = false := by simp [endsL, begR]
  have j_true : raw_Ends.j0 (k + 1) (B s) (n : Int) (B name) true = some false := by rw [raw_Ends.j0, if_pos rfl]
  rw [hd, he]
  unfold raw_Ends.f
  by_cases hne : name = []
  · subst hne
    rw [if_pos (by simp), j_true]
  · rw [if_neg (by simpa using hne), show (⟨#[60, 47]⟩ : ByteArray) = B [60, 47] from rfl, begins_past s _ n (by omega), Option.bind_some, if_neg (by simp), j_true]
theorem ends_c (s name : List UInt8) (n : Nat) (hs : s.length ≤ 1000000) (hl : name.length ≤ 1000000) (w : World) :
    Calls Tryd.prog 43 #[.string (B s), .int .i64 n, .string (B name)] w fun e w' => e = .returned (.bool (endsL (s.drop n) name)) ∧ Below w.heap.size w w' := by
  by_cases h : n ≤ s.length
  · exact raw_Ends.calls 1 _ _ _ _ w (ends_f 0 s name n hs hl h)
  · exact raw_Ends.calls 1 _ _ _ _ w (ends_past s name n 0 (by omega))
theorem keeps_below {W W' : World} (h : Below W.heap.size W W') : KeepsOthers W W' :=
  ⟨h.size, fun b o hb _ => (h.block b (Array.getElem?_eq_some_iff.1 hb).1).trans hb⟩
def clN (n : Nat) (a : Int) : Nat := if a < 0 then 0 else if (n : Int) < a then n else a.toNat
attribute [local go_sem] max2_int min2_int max_two min_two max_three min_three max_four min_four
def At3 (w W : World) (s name : ByteArray) (r : Int) : Prop :=
  W.cell? ⟨w.heap.size, 0, none⟩ = some (.string s) ∧ W.cell? ⟨w.heap.size + 1, 0, none⟩ = some (.string name) ∧ W.cell? ⟨w.heap.size + 1 + 1, 0, none⟩ = some (.int .i64 r) ∧ W.frozen? ⟨w.heap.size + 1 + 1, 0, none⟩ = false
theorem At3.kept {w A B' : World} {s name : ByteArray} {r : Int} {row : Option Nat} (h : At3 w A s name r) (hg : A.grownBy B' row) (hr : ∀ k, row = some k → ∃ o, A.heap[k]? = some o ∧ o.isCells = false) : At3 w B' s name r :=
  ⟨cell_kept h.1 hg hr, cell_kept h.2.1 hg hr, cell_kept h.2.2.1 hg hr, (frozen_kept h.2.2.1 hg hr).trans h.2.2.2⟩
theorem At3.below {w A B' : World} {s name : ByteArray} {r : Int} {n : Nat} (h : At3 w A s name r) (hb : Below n A B') (hn : w.heap.size + 1 + 1 < n) : At3 w B' s name r :=
  ⟨(hb.cell (p := ⟨_, 0, none⟩) (by show w.heap.size < n; omega)).trans h.1, (hb.cell (p := ⟨_, 0, none⟩) (by show w.heap.size + 1 < n; omega)).trans h.2.1, (hb.cell (p := ⟨_, 0, none⟩) hn).trans h.2.2.1, (hb.frozen (p := ⟨_, 0, none⟩) hn).trans h.2.2.2⟩
theorem At3.put {w A : World} {s name : ByteArray} {r : Int} (h : At3 w A s name r) (x : Int) : At3 w (A.setCell ⟨w.heap.size + 1 + 1, 0, none⟩ (.int .i64 x)) s name x :=
  ⟨by rw [World.cell?_setCell_other _ _ _ _ (by intro e; injection e; omega)]; exact h.1, by rw [World.cell?_setCell_other _ _ _ _ (by intro e; injection e; omega)]; exact h.2.1,
    World.cell?_setCell_same' _ _ _ (by rw [h.2.2.1]; rfl), by rw [World.frozen?_setCell]; exact h.2.2.2⟩
set_option maxRecDepth 100000 in
set_option maxHeartbeats 4000000 in
theorem find_in (s name : List UInt8) (a : Int) (w : World) (hG : Glob w) (hs : s.length ≤ 1000000) (hl : name.length ≤ 1000000) :
    CallsIn Fence.wide 8 Tryd.prog 42 #[.string (B s), .int .i64 a, .string (B name)] w fun e w' => e = .returned (.int .i64 (rawFind s (clN s.length a) name)) ∧ Below w.heap.size w w' := by
  obtain ⟨j1, hj1⟩ : ∃ j, (if a < 0 then 0 else a) = j := ⟨_, rfl⟩
  obtain ⟨j2, hj2⟩ : ∃ j, (if ((B s).size : Int) < j1 then ((B s).size : Int) else j1) = j := ⟨_, rfl⟩
  have hc : j2 = (clN s.length a : Nat) ∧ clN s.length a ≤ s.length := by
    rw [← hj2, ← hj1, size_B]; unfold clN
    repeat' split
    all_goals first | omega | (simp; omega)
  obtain ⟨hc1, hc2⟩ := hc
  obtain ⟨n, hn⟩ : ∃ n, clN s.length a = n := ⟨_, rfl⟩
  rw [hn] at hc1 hc2 ⊢
  clear hn
  subst hc1
  have E := ends_c s name
  obtain ⟨sb, hsb⟩ : ∃ b, B s = b := ⟨_, rfl⟩
  obtain ⟨nb, hnb⟩ : ∃ b, B name = b := ⟨_, rfl⟩
  have hzs : sb.size = s.length := by rw [← hsb]; simp
  have hds : sb.data.toList = s := by rw [← hsb, B_data]
  rw [hsb] at E hj2 ⊢
  rw [hnb] at E ⊢
  clear hsb hnb
  have EE := Lib.hid E
  have HZ := Lib.hid hzs
  have HD := Lib.hid hds
  have hzb : sb.size ≤ 1000000 := by omega
  clear E hzs hds
  refine callsIn_of_wp_marks Tryd.func42 rfl trivial ?_ rfl
  simp only [Tryd.ntmps42, List.size_toArray, List.length_cons, List.length_nil, Nat.reduceAdd, Nat.reduceSub, Array.replicate_succ, Array.replicate_zero, List.push_toArray, List.append_toArray, List.nil_append, List.cons_append]
  gi_wp2_with (refine ⟨trivial, ?_⟩; gi_at_call 71; refine (callsIn_wide.2 (places_any _ _ _)).mono ?_; rintro e w' ⟨rfl, rfl⟩)
  obtain ⟨W0, hW0⟩ : ∃ W0, ((((w.alloc (.cells #[.string sb] 9)).alloc (.cells #[.string nb] 9)).alloc (.cells #[.int .i64 0] 3)).alloc (.cells #[.string sb] 9)).alloc (.cells #[.int .i64 (n : Int)] 3) = W0 := ⟨_, rfl⟩
  have hz0 : W0.heap.size = w.heap.size + 5 := by rw [← hW0]; simp
  have hB0 : Below w.heap.size w W0 := by
    rw [← hW0]
    exact (((((Below.refl _ w).alloc (Nat.le_refl _) _).alloc (by simp) _).alloc (by simp; omega) _).alloc (by simp; omega) _).alloc (by simp; omega) _
  have hA0 : At3 w W0 sb nb 0 := by
    rw [← hW0]
    have c0 := cell_new_l w (.string sb) 9
    have c1 := cell_new_l (w.alloc (.cells #[.string sb] 9)) (.string nb) 9
    have c2 := cell_new_l ((w.alloc (.cells #[.string sb] 9)).alloc (.cells #[.string nb] 9)) (.int .i64 0) 3
    simp only [World.size_alloc] at c1 c2
    exact ⟨cell_alloc_l _ (cell_alloc_l _ (cell_alloc_l _ (cell_alloc_l _ c0.1))), cell_alloc_l _ (cell_alloc_l _ (cell_alloc_l _ c1.1)), cell_alloc_l _ (cell_alloc_l _ c2.1), frozen_alloc_l _ (cell_alloc_l _ c2.1) (frozen_alloc_l _ c2.1 c2.2)⟩
  have hBs : W0.cell? ⟨w.heap.size + 1 + 1 + 1, 0, none⟩ = some (.string sb) := by
    rw [← hW0]
    have c3 := cell_new_l (((w.alloc (.cells #[.string sb] 9)).alloc (.cells #[.string nb] 9)).alloc (.cells #[.int .i64 0] 3)) (.string sb) 9
    simp only [World.size_alloc] at c3
    exact cell_alloc_l _ c3.1
  have hBa : W0.cell? ⟨w.heap.size + 1 + 1 + 1 + 1, 0, none⟩ = some (.int .i64 (n : Int)) := by
    rw [← hW0]
    have c4 := cell_new_l ((((w.alloc (.cells #[.string sb] 9)).alloc (.cells #[.string nb] 9)).alloc (.cells #[.int .i64 0] 3)).alloc (.cells #[.string sb] 9)) (.int .i64 (n : Int)) 3
    simp only [World.size_alloc] at c4
    exact c4.1
  rw [hW0]
  have hGW := hG.step hB0
  clear hW0
  obtain ⟨mG, hmG⟩ := hG
  have h00 := World.block_lt_of_cell? w _ hmG
  refine wpIn_rangeFunc_ownF rfl (by decide) (gf := 92) (lb := #[.pointer (some ⟨w.heap.size + 1 + 1 + 1 + 1, 0, none⟩), .pointer (some ⟨w.heap.size + 1 + 1 + 1, 0, none⟩)]) rfl trivial (enters_of Tryd.func92 (by kernel_rfl) rfl)
    (places_stops 7 (w.heap.size + 1 + 1 + 1 + 1) (w.heap.size + 1 + 1 + 1) W0.heap.size sb n (by decide) hzb (by rw [HZ.out]; exact hc2) W0 hGW (by omega) (by omega) (by omega) (Nat.le_refl _) hBa hBs) belowK_t (belowK_b (Nat.le_refl _)) (Below.refl _ _) (fun _ => rfl)
    (fun pre W => ((∀ p ∈ pre, endsL (s.drop p) name = false) ∧ At3 w W sb nb 0 ∧ W.cell? ⟨w.heap.size + 1 + 1 + 1 + 1, 0, none⟩ = some (.int .i64 (n : Int))) ∧ Below w.heap.size w W)
    (fun c pre W => (c = .ret ∧ ∃ p x, pre = p ++ [x] ∧ (∀ q ∈ p, endsL (s.drop q) name = false) ∧ endsL (s.drop x) name = true ∧ At3 w W sb nb x) ∧ Below w.heap.size w W)
    (OwnFrom.and (Own.from (fun t A B' row hs' hg hr => ⟨hs'.1, hs'.2.1.kept hg hr, cell_kept hs'.2.2 hg hr⟩) _) (ownFrom_below (Nat.le_refl _) (by omega)))
    (fun c => OwnFrom.and (Own.from (fun t A B' row ⟨e1, p, x, e2, e3, e4, e5⟩ hg hr => ⟨e1, p, x, e2, e3, e4, e5.kept hg hr⟩) _) (ownFrom_below (Nat.le_refl _) (by omega)))
    ⟨⟨by simp, hA0, hBa⟩, hB0⟩
    (fun x => { tmps := #[.string sb, .int .i64 a, .string nb, .pointer (some ⟨w.heap.size, 0, none⟩), undef, .pointer (some ⟨w.heap.size + 1, 0, none⟩), .pointer (some ⟨w.heap.size + 1 + 1, 0, none⟩), .int .i64 (x : Nat), .string sb, .int .i64 a, .int .i64 j1, .string sb, .int .i64 (sb.size : Int), .int .i64 (n : Int), .func (.func 92) #[] #[.pointer (some ⟨w.heap.size + 1 + 1 + 1 + 1, 0, none⟩), .pointer (some ⟨w.heap.size + 1 + 1 + 1, 0, none⟩)], .int .i64 (x : Nat), undef, undef, undef, undef, undef, undef, undef], defers := [] }) ?assign ?body ?done ?stop
  case assign =>
    intro l x W K hK
    gi_wp2
    exact hK
  case body =>
    rintro l pre x W ⟨⟨hp, hA, hcB⟩, hB⟩ _
    have hlt5 : w.heap.size + 1 + 1 + 1 + 1 < W.heap.size := World.block_lt_of_cell? W _ hcB
    have HCB := Lib.hid hcB
    clear hcB
    have hcs := hA.1
    have hcn := hA.2.1
    have HA := Lib.hid hA
    clear hA
    have EC := Lib.hid (EE.out x hs hl W)
    obtain ⟨eb, heb⟩ : ∃ b, endsL (s.drop x) name = b := ⟨_, rfl⟩
    rw [heb] at EC
    have hsz := hB.size
    have hlt3 : w.heap.size + 1 + 1 < W.heap.size := World.block_lt_of_cell? W _ HA.out.2.2.1
    have HHB := Lib.hid hB
    clear hB
    cases eb with
    | true =>
      gi_wp2_with (refine ⟨trivial, ?_⟩; gi_at_call 43; refine (CallsIn.inRound l (callsIn_wide.2 EC.out)).mono ?_; rintro e w' ⟨rfl, hbel⟩; have hA2 := HA.out.below hbel hlt3; have hcr := hA2.2.2.1; have hfr := hA2.2.2.2; have HA2 := Lib.hid hA2; clear hA2)
      refine ⟨(keeps_below hbel).trans (KeepsOthers.setCell _ _ _), ⟨rfl, pre, x, rfl, hp, heb, ?_⟩, (HHB.out.trans (hbel.mono hsz)).setCell (p := ⟨w.heap.size + 1 + 1, 0, none⟩) (by simp; omega) _⟩
      exact HA2.out.put x
    | false =>
      gi_wp2_with (refine ⟨trivial, ?_⟩; gi_at_call 43; refine (CallsIn.inRound l (callsIn_wide.2 EC.out)).mono ?_; rintro e w' ⟨rfl, hbel⟩; have HA2 := Lib.hid (HA.out.below hbel hlt3))
      rename_i w' hbel HA2
      refine ⟨keeps_below hbel, hbel.mono (by omega), ⟨fun q hq => ?_, HA2.out, (hbel.cell (p := ⟨_, 0, none⟩) hlt5).trans HCB.out⟩, HHB.out.trans (hbel.mono hsz)⟩
      rcases List.mem_append.1 hq with hq | hq
      · exact hp q hq
      · rw [List.mem_singleton.1 hq]; exact heb
  case done =>
    rintro D ys W hD rfl ⟨⟨hne, hA, -⟩, hB⟩ hK
    have hcs := hA.1
    have hcr := hA.2.2.1
    have hfr := hA.2.2.2
    gi_wp2
    have hK' := (KeepsOthers.setCell W ⟨w.heap.size + 1 + 1, 0, none⟩ (.int .i64 (sb.size : Int))).same D _ hK rfl
    refine ⟨by simp, .inl ⟨_, _, rfl, run_takeDeferred hK', ?_⟩⟩
    have hc5 := cell_kept (World.cell?_setCell_same' W ⟨w.heap.size + 1 + 1, 0, none⟩ (.int .i64 (sb.size : Int)) (by rw [hcr]; rfl)) (grownBy_putObj' _ D (.deferred none)) (fun r e => by cases e; exact ⟨_, hK', rfl⟩)
    refine ⟨.int .i64 (sb.size : Int), ?_, by rw [rawFind_none (fun p hp => hne p (by rw [HD.out]; exact hp)), HZ.out], (hB.setCell (p := ⟨w.heap.size + 1 + 1, 0, none⟩) (by simp; omega) _).trans (belowK_b (w := w) (Nat.le_refl _) _ D _ _ (by omega) hK' rfl rfl)⟩
    simp [results, Tryd.f42, go_sem, hc5]
  case stop =>
    rintro D c pre W hD hpre ⟨⟨rfl, p, x, rfl, e3, e4, hA⟩, hB⟩ hK
    gi_wp2
    refine ⟨by simp, .inl ⟨_, _, rfl, run_takeDeferred hK, ?_⟩⟩
    have hc5 := cell_kept hA.2.2.1 (grownBy_putObj' _ D (.deferred none)) (fun r e => by cases e; exact ⟨_, hK, rfl⟩)
    refine ⟨.int .i64 (x : Nat), ?_, by rw [rawFind_some (by rw [HD.out] at hpre; exact hpre) e3 e4], hB.trans (belowK_b (w := w) (Nat.le_refl _) W D _ _ (by omega) hK rfl rfl)⟩
    simp [results, Tryd.f42, go_sem, hc5]
theorem rawFind_any (s name : List UInt8) (a : Int) (w : World) (hG : Glob w) (hs : s.length ≤ 1000000) (hl : name.length ≤ 1000000) :
    Calls Tryd.prog 42 #[.string (B s), .int .i64 a, .string (B name)] w fun e w' => e = .returned (.int .i64 (rawFind s (clN s.length a) name)) ∧ Below w.heap.size w w' :=
  callsIn_wide.1 (find_in s name a w hG hs hl)
end Go.Proofs.YtppaobgccdlccaaDoor.Hand
