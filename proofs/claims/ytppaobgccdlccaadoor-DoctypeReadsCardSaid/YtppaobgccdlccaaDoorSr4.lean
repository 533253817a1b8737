-- Written by a program of this session over the kit's printer: not by hand.
import Derived.Test.YtppaobgccdlccaaDoorSr0
import Derived.Test.YtppaobgccdlccaaDoorSr3
namespace Go.Proofs.YtppaobgccdlccaaDoor.Sr
open Go.RowKit Go.Proofs.YtppaobgccdlccaaDoor.K0 Go.Proofs.YtppaobgccdlccaaDoor.Hand Go.Proofs.YtppaobgccdlccaaDoorW.PrintWords Go.Proofs.YtppaobgccdlccaaDoorW.PrintLast Go.Proofs.YtppaobgccdlccaaDoorW.PrintMore
attribute [local go_sem] max2_int min2_int max_two min_two max_three min_three max_four min_four   -- for this text's walks alone
set_option linter.unusedVariables false
set_option linter.unusedSimpArgs false

/-! ### flailref09_Same: function 39 -/
def flailref09_Same.f (k : Nat) (a0_0 : Int) (a0_1 : ByteArray) (a0_2 : ByteArray) (l0_3 : List (S88)) (a0_4 : Bool) (a1_0 : Int) (a1_1 : ByteArray) (a1_2 : ByteArray) (l1_3 : List (S88)) (a1_4 : Bool) : Option (Bool) := if a0_0 = a1_0 then (if a0_1.toList = a1_1.toList then (if a0_2.toList = a1_2.toList then (if (a0_4 == a1_4) = true then ((flailref08_Same.f k l0_3 l1_3).bind fun t115 => (some t115)) else (some false)) else (some false)) else (some false)) else (some false)
theorem flailref09_Same.mono : ∀ a0 a1 a2 a3 a4 a5 a6 a7 a8 a9 k, LeO (flailref09_Same.f k a0 a1 a2 a3 a4 a5 a6 a7 a8 a9) (flailref09_Same.f (k + 1) a0 a1 a2 a3 a4 a5 a6 a7 a8 a9) := by
  intro a0 a1 a2 a3 a4 a5 a6 a7 a8 a9 k
  unfold flailref09_Same.f
  repeat' first
      | (with_reducible exact flailref08_Same.mono _ _ _)
      | (with_reducible exact LeO.refl _)
      | (with_reducible exact LeO.none _)
      | (with_reducible refine LeO.ite ?_ ?_)
      | (with_reducible refine LeO.bind ?_ (fun _ => ?_))
      | exact flailref08_Same.mono _ _ _
      | exact LeO.none _
      | refine LeO.ite ?_ ?_
      | refine LeO.bind ?_ (fun _ => ?_)
set_option maxHeartbeats 8000000 in
set_option maxRecDepth 100000 in
theorem flailref09_Same.calls (k : Nat) (a0_0 : Int) (a0_1 : ByteArray) (a0_2 : ByteArray) (A0_3 : Option Addr) (c0_3 : Nat) (l0_3 : List (S88)) (a0_4 : Bool) (a1_0 : Int) (a1_1 : ByteArray) (a1_2 : ByteArray) (A1_3 : Option Addr) (c1_3 : Nat) (l1_3 : List (S88)) (a1_4 : Bool) (r : Bool) (w : World) (hr0_3 : Kd.C k88 w A0_3 l0_3.length l0_3) (hc0_3 : l0_3.length ≤ c0_3) (hr1_3 : Kd.C k88 w A1_3 l1_3.length l1_3) (hc1_3 : l1_3.length ≤ c1_3) (h : flailref09_Same.f k a0_0 a0_1 a0_2 l0_3 a0_4 a1_0 a1_1 a1_2 l1_3 a1_4 = some r) :
    Calls Tryd.prog 39 #[.agg #[.int .i64 a0_0, .string a0_1, .string a0_2, .slice A0_3 l0_3.length c0_3, .bool a0_4], .agg #[.int .i64 a1_0, .string a1_1, .string a1_2, .slice A1_3 l1_3.length c1_3, .bool a1_4]] w fun e w' => e = .returned (.bool r) ∧ Below w.heap.size w w' := by
  have hu35 := Tryd.underlying35
  have HR0_3 := Aside0.mk hr0_3
  have HC0_3 := Aside0.mk hc0_3
  clear hr0_3 hc0_3
  have HR1_3 := Aside0.mk hr1_3
  have HC1_3 := Aside0.mk hc1_3
  clear hr1_3 hc1_3
  have HB := Aside0.mk (Below.refl w.heap.size w)
  have H : (if a0_0 = a1_0 then (if a0_1.toList = a1_1.toList then (if a0_2.toList = a1_2.toList then (if (a0_4 == a1_4) = true then ((flailref08_Same.f k l0_3 l1_3).bind fun t115 => (some t115)) else (some false)) else (some false)) else (some false)) else (some false)) = some r := h
  clear h
  by_cases c3 : a0_0 = a1_0
  · rw [if_pos c3] at H
    have c3b0 : (a0_0 == a1_0) = true := beq_iff_eq.mpr c3
    have c3b1 : (a0_0 != a1_0) = false := bne_eq_false_iff_eq.mpr c3
    clear c3
    by_cases c4 : a0_1.toList = a1_1.toList
    · rw [if_pos c4] at H
      have c4b0 : (a0_1.toList == a1_1.toList) = true := beq_iff_eq.mpr c4
      have c4b1 : (a0_1.toList != a1_1.toList) = false := bne_eq_false_iff_eq.mpr c4
      clear c4
      by_cases c5 : a0_2.toList = a1_2.toList
      · rw [if_pos c5] at H
        have c5b0 : (a0_2.toList == a1_2.toList) = true := beq_iff_eq.mpr c5
        have c5b1 : (a0_2.toList != a1_2.toList) = false := bne_eq_false_iff_eq.mpr c5
        clear c5
        by_cases c6 : (a0_4 == a1_4) = true
        · rw [if_pos c6] at H
          have c6b0 : (a0_4 == a1_4) = true := c6
          (try (have c6b1 : decide (a0_4 = a1_4) = true := by simpa using c6))
          (try (have c6b2 : (a0_4 == a1_4) = true := by simpa using c6))
          clear c6
          replace H := Option.bind_eq_some_iff.mp H
          obtain ⟨t115, A70, H⟩ := H
          replace H : (some t115) = some r := H
          have A7 := Aside0.mk A70
          clear A70
          obtain rfl := Option.some.inj H
          go_enter Tryd.func39, Tryd.ntmps39
          go_wp2_with (first | ((with_reducible refine gate_dst (N := 2) rfl ?_); refine box_event ?hg (N := 2) ?hd (cs := #[.int .i64 a0_0, .string a0_1, .string a0_2, .slice A0_3 l0_3.length c0_3, .bool a0_4]) (t := 35) ?hr ?_; (case hd => rfl); (case hg => rfl); (case hr => first | (go_simp; done) | (go_simp; rfl)); intro gb113 hg w8 hbox hb; have n0_ := Aside0.mk (below_step (by repeat (first | (with_reducible first | exact HB.out | apply below_alloc | apply pw_below_drewN | apply below_drew1) | exact HB.out)) hb); have n1_ := Aside0.mk (hbox); have n2_ := Aside0.mk ((by rw [hg]; exact (below_size (by repeat (first | (with_reducible first | exact HB.out | apply below_alloc | apply pw_below_drewN | apply below_drew1) | exact HB.out))) : w.heap.size ≤ gb113)); have n3_ := Aside0.mk ((by rw [hg]; exact (below_size (by repeat (first | (with_reducible first | exact HB.out | apply below_alloc | apply pw_below_drewN | apply below_drew1) | exact HB.out))) : w.heap.size ≤ gb113)); clear HB; have HB := n0_; have BK113 := n1_; have GW113 := n2_; have GE113 := n3_; clear n0_ n1_ n2_ n3_; clear hb hbox hg) | ((with_reducible refine gate_dst (N := 3) rfl ?_); refine box_event ?hg (N := 3) ?hd (cs := #[.int .i64 a1_0, .string a1_1, .string a1_2, .slice A1_3 l1_3.length c1_3, .bool a1_4]) (t := 35) ?hr ?_; (case hd => rfl); (case hg => rfl); (case hr => first | (go_simp; done) | (go_simp; rfl)); intro gb114 hg w9 hbox hb; have n0_ := Aside0.mk (blk_below (g := gb113) (o := .cells #[.int .i64 a0_0, .string a0_1, .string a0_2, .slice A0_3 l0_3.length c0_3, .bool a0_4] 35 (0, 0)) (by (with_reducible repeat (first | refine blk_drewN ?_ _ | refine blk_drew ?_ | refine blk_alloc ?_ _)); exact BK113.out) hb); have n1_ := Aside0.mk (below_step (by repeat (first | (with_reducible first | exact HB.out | apply below_alloc | apply pw_below_drewN | apply below_drew1 | refine below_set ?_ GE113.out) | exact HB.out)) hb); have n2_ := Aside0.mk (hbox); have n3_ := Aside0.mk ((by rw [hg]; exact (below_size (by repeat (first | (with_reducible first | exact HB.out | apply below_alloc | apply pw_below_drewN | apply below_drew1 | refine below_set ?_ GE113.out) | exact HB.out))) : w.heap.size ≤ gb114)); have n4_ := Aside0.mk ((by rw [hg]; exact (below_size (by repeat (first | (with_reducible first | exact HB.out | apply below_alloc | apply pw_below_drewN | apply below_drew1 | refine below_set ?_ GE113.out) | exact HB.out))) : w.heap.size ≤ gb114)); have n5_ := Aside0.mk ((by rw [hg]; exact Nat.ne_of_lt (blk_lt (g := gb113) (o := .cells #[.int .i64 a0_0, .string a0_1, .string a0_2, .slice A0_3 l0_3.length c0_3, .bool a0_4] 35 (0, 0)) (by (with_reducible repeat (first | refine blk_drewN ?_ _ | refine blk_drew ?_ | refine blk_alloc ?_ _)); exact BK113.out)) : gb113 ≠ gb114)); have n6_ := Aside0.mk ((by rw [hg]; exact Nat.ne_of_gt (blk_lt (g := gb113) (o := .cells #[.int .i64 a0_0, .string a0_1, .string a0_2, .slice A0_3 l0_3.length c0_3, .bool a0_4] 35 (0, 0)) (by (with_reducible repeat (first | refine blk_drewN ?_ _ | refine blk_drew ?_ | refine blk_alloc ?_ _)); exact BK113.out)) : gb114 ≠ gb113)); clear BK113; clear HB; have BK113 := n0_; have HB := n1_; have BK114 := n2_; have GW114 := n3_; have GE114 := n4_; have NB113_114 := n5_; have NB114_113 := n6_; clear n0_ n1_ n2_ n3_ n4_ n5_ n6_; clear hb hbox hg; have hnb10 := NB113_114.out; have hnc10 := NB114_113.out; have hcz11_0 : w9.cell? ⟨gb113, 0, none⟩ = some (.int .i64 a0_0) := (blk_cell BK113.out 0).trans rfl; have hcz11_1 : w9.cell? ⟨gb113, 1, none⟩ = some (.string a0_1) := (blk_cell BK113.out 1).trans rfl; have hcz11_2 : w9.cell? ⟨gb113, 2, none⟩ = some (.string a0_2) := (blk_cell BK113.out 2).trans rfl; have hcz11_3 : w9.cell? ⟨gb113, 3, none⟩ = some (.slice A0_3 l0_3.length c0_3) := (blk_cell BK113.out 3).trans rfl; have hcz11_4 : w9.cell? ⟨gb113, 4, none⟩ = some (.bool a0_4) := (blk_cell BK113.out 4).trans rfl; have hfz11_0 := blk_frozen BK113.out 0; have hfz11_1 := blk_frozen BK113.out 1; have hfz11_2 := blk_frozen BK113.out 2; have hfz11_3 := blk_frozen BK113.out 3; have hfz11_4 := blk_frozen BK113.out 4; have hcz12_0 : w9.cell? ⟨gb114, 0, none⟩ = some (.int .i64 a1_0) := (blk_cell BK114.out 0).trans rfl; have hcz12_1 : w9.cell? ⟨gb114, 1, none⟩ = some (.string a1_1) := (blk_cell BK114.out 1).trans rfl; have hcz12_2 : w9.cell? ⟨gb114, 2, none⟩ = some (.string a1_2) := (blk_cell BK114.out 2).trans rfl; have hcz12_3 : w9.cell? ⟨gb114, 3, none⟩ = some (.slice A1_3 l1_3.length c1_3) := (blk_cell BK114.out 3).trans rfl; have hcz12_4 : w9.cell? ⟨gb114, 4, none⟩ = some (.bool a1_4) := (blk_cell BK114.out 4).trans rfl; have hfz12_0 := blk_frozen BK114.out 0; have hfz12_1 := blk_frozen BK114.out 1; have hfz12_2 := blk_frozen BK114.out 2; have hfz12_3 := blk_frozen BK114.out 3; have hfz12_4 := blk_frozen BK114.out 4) | (go_at_call 68; (with_reducible refine (flailref08_Same.calls k _ _ l0_3 _ _ l1_3 t115 _ ?side1 ?side2 ?side3 ?side4 A7.out).mono ?_); (case side1 => repeat (first | exact (Kd.C_below HR0_3.out HB.out) | (with_reducible refine Kd.C_alloc ?_ _) | (with_reducible refine Kd.C_drewN ?_ _) | (with_reducible refine Kd.C_drew ?_))); (case side2 => exact HC0_3.out); (case side3 => repeat (first | exact (Kd.C_below HR1_3.out HB.out) | (with_reducible refine Kd.C_alloc ?_ _) | (with_reducible refine Kd.C_drewN ?_ _) | (with_reducible refine Kd.C_drew ?_))); (case side4 => exact HC1_3.out); rintro e w' ⟨rfl, ⟨nd, rfl⟩⟩))
          go_ret
          exact ⟨by first | rfl | (simp [errW_none, errW_some] <;> rfl) | (simp [*, errW_none, errW_some] <;> rfl), by repeat (first | (with_reducible first | exact HB.out | apply below_alloc | apply pw_below_drewN | apply below_drew1 | refine below_set ?_ GE113.out | refine below_set ?_ GE114.out) | exact HB.out)⟩
        · rw [if_neg c6] at H
          have c6b0 : (a0_4 == a1_4) = false := by simpa using c6
          (try (have c6b1 : decide (a0_4 = a1_4) = false := by simpa using c6))
          (try (have c6b2 : (a0_4 == a1_4) = false := by simpa using c6))
          (try (have c6b3 : ¬ (a0_4 = a1_4) := by simpa using c6))
          clear c6
          obtain rfl := Option.some.inj H
          go_enter Tryd.func39, Tryd.ntmps39
          go_wp2_with (first | ((with_reducible refine gate_dst (N := 2) rfl ?_); refine box_event ?hg (N := 2) ?hd (cs := #[.int .i64 a0_0, .string a0_1, .string a0_2, .slice A0_3 l0_3.length c0_3, .bool a0_4]) (t := 35) ?hr ?_; (case hd => rfl); (case hg => rfl); (case hr => first | (go_simp; done) | (go_simp; rfl)); intro gb113 hg w13 hbox hb; have n0_ := Aside0.mk (below_step (by repeat (first | (with_reducible first | exact HB.out | apply below_alloc | apply pw_below_drewN | apply below_drew1) | exact HB.out)) hb); have n1_ := Aside0.mk (hbox); have n2_ := Aside0.mk ((by rw [hg]; exact (below_size (by repeat (first | (with_reducible first | exact HB.out | apply below_alloc | apply pw_below_drewN | apply below_drew1) | exact HB.out))) : w.heap.size ≤ gb113)); have n3_ := Aside0.mk ((by rw [hg]; exact (below_size (by repeat (first | (with_reducible first | exact HB.out | apply below_alloc | apply pw_below_drewN | apply below_drew1) | exact HB.out))) : w.heap.size ≤ gb113)); clear HB; have HB := n0_; have BK113 := n1_; have GW113 := n2_; have GE113 := n3_; clear n0_ n1_ n2_ n3_; clear hb hbox hg) | ((with_reducible refine gate_dst (N := 3) rfl ?_); refine box_event ?hg (N := 3) ?hd (cs := #[.int .i64 a1_0, .string a1_1, .string a1_2, .slice A1_3 l1_3.length c1_3, .bool a1_4]) (t := 35) ?hr ?_; (case hd => rfl); (case hg => rfl); (case hr => first | (go_simp; done) | (go_simp; rfl)); intro gb114 hg w14 hbox hb; have n0_ := Aside0.mk (blk_below (g := gb113) (o := .cells #[.int .i64 a0_0, .string a0_1, .string a0_2, .slice A0_3 l0_3.length c0_3, .bool a0_4] 35 (0, 0)) (by (with_reducible repeat (first | refine blk_drewN ?_ _ | refine blk_drew ?_ | refine blk_alloc ?_ _)); exact BK113.out) hb); have n1_ := Aside0.mk (below_step (by repeat (first | (with_reducible first | exact HB.out | apply below_alloc | apply pw_below_drewN | apply below_drew1 | refine below_set ?_ GE113.out) | exact HB.out)) hb); have n2_ := Aside0.mk (hbox); have n3_ := Aside0.mk ((by rw [hg]; exact (below_size (by repeat (first | (with_reducible first | exact HB.out | apply below_alloc | apply pw_below_drewN | apply below_drew1 | refine below_set ?_ GE113.out) | exact HB.out))) : w.heap.size ≤ gb114)); have n4_ := Aside0.mk ((by rw [hg]; exact (below_size (by repeat (first | (with_reducible first | exact HB.out | apply below_alloc | apply pw_below_drewN | apply below_drew1 | refine below_set ?_ GE113.out) | exact HB.out))) : w.heap.size ≤ gb114)); have n5_ := Aside0.mk ((by rw [hg]; exact Nat.ne_of_lt (blk_lt (g := gb113) (o := .cells #[.int .i64 a0_0, .string a0_1, .string a0_2, .slice A0_3 l0_3.length c0_3, .bool a0_4] 35 (0, 0)) (by (with_reducible repeat (first | refine blk_drewN ?_ _ | refine blk_drew ?_ | refine blk_alloc ?_ _)); exact BK113.out)) : gb113 ≠ gb114)); have n6_ := Aside0.mk ((by rw [hg]; exact Nat.ne_of_gt (blk_lt (g := gb113) (o := .cells #[.int .i64 a0_0, .string a0_1, .string a0_2, .slice A0_3 l0_3.length c0_3, .bool a0_4] 35 (0, 0)) (by (with_reducible repeat (first | refine blk_drewN ?_ _ | refine blk_drew ?_ | refine blk_alloc ?_ _)); exact BK113.out)) : gb114 ≠ gb113)); clear BK113; clear HB; have BK113 := n0_; have HB := n1_; have BK114 := n2_; have GW114 := n3_; have GE114 := n4_; have NB113_114 := n5_; have NB114_113 := n6_; clear n0_ n1_ n2_ n3_ n4_ n5_ n6_; clear hb hbox hg; have hnb15 := NB113_114.out; have hnc15 := NB114_113.out; have hcz16_0 : w14.cell? ⟨gb113, 0, none⟩ = some (.int .i64 a0_0) := (blk_cell BK113.out 0).trans rfl; have hcz16_1 : w14.cell? ⟨gb113, 1, none⟩ = some (.string a0_1) := (blk_cell BK113.out 1).trans rfl; have hcz16_2 : w14.cell? ⟨gb113, 2, none⟩ = some (.string a0_2) := (blk_cell BK113.out 2).trans rfl; have hcz16_3 : w14.cell? ⟨gb113, 3, none⟩ = some (.slice A0_3 l0_3.length c0_3) := (blk_cell BK113.out 3).trans rfl; have hcz16_4 : w14.cell? ⟨gb113, 4, none⟩ = some (.bool a0_4) := (blk_cell BK113.out 4).trans rfl; have hfz16_0 := blk_frozen BK113.out 0; have hfz16_1 := blk_frozen BK113.out 1; have hfz16_2 := blk_frozen BK113.out 2; have hfz16_3 := blk_frozen BK113.out 3; have hfz16_4 := blk_frozen BK113.out 4; have hcz17_0 : w14.cell? ⟨gb114, 0, none⟩ = some (.int .i64 a1_0) := (blk_cell BK114.out 0).trans rfl; have hcz17_1 : w14.cell? ⟨gb114, 1, none⟩ = some (.string a1_1) := (blk_cell BK114.out 1).trans rfl; have hcz17_2 : w14.cell? ⟨gb114, 2, none⟩ = some (.string a1_2) := (blk_cell BK114.out 2).trans rfl; have hcz17_3 : w14.cell? ⟨gb114, 3, none⟩ = some (.slice A1_3 l1_3.length c1_3) := (blk_cell BK114.out 3).trans rfl; have hcz17_4 : w14.cell? ⟨gb114, 4, none⟩ = some (.bool a1_4) := (blk_cell BK114.out 4).trans rfl; have hfz17_0 := blk_frozen BK114.out 0; have hfz17_1 := blk_frozen BK114.out 1; have hfz17_2 := blk_frozen BK114.out 2; have hfz17_3 := blk_frozen BK114.out 3; have hfz17_4 := blk_frozen BK114.out 4))
          go_ret
          exact ⟨by first | rfl | (simp [errW_none, errW_some] <;> rfl) | (simp [*, errW_none, errW_some] <;> rfl), by repeat (first | (with_reducible first | exact HB.out | apply below_alloc | apply pw_below_drewN | apply below_drew1 | refine below_set ?_ GE113.out | refine below_set ?_ GE114.out) | exact HB.out)⟩
      · rw [if_neg c5] at H
        have c5b0 : (a0_2.toList == a1_2.toList) = false := beq_eq_false_iff_ne.mpr c5
        have c5b1 : (a0_2.toList != a1_2.toList) = true := bne_iff_ne.mpr c5
        obtain rfl := Option.some.inj H
        go_enter Tryd.func39, Tryd.ntmps39
        go_wp2_with (first | ((with_reducible refine gate_dst (N := 2) rfl ?_); refine box_event ?hg (N := 2) ?hd (cs := #[.int .i64 a0_0, .string a0_1, .string a0_2, .slice A0_3 l0_3.length c0_3, .bool a0_4]) (t := 35) ?hr ?_; (case hd => rfl); (case hg => rfl); (case hr => first | (go_simp; done) | (go_simp; rfl)); intro gb113 hg w18 hbox hb; have n0_ := Aside0.mk (below_step (by repeat (first | (with_reducible first | exact HB.out | apply below_alloc | apply pw_below_drewN | apply below_drew1) | exact HB.out)) hb); have n1_ := Aside0.mk (hbox); have n2_ := Aside0.mk ((by rw [hg]; exact (below_size (by repeat (first | (with_reducible first | exact HB.out | apply below_alloc | apply pw_below_drewN | apply below_drew1) | exact HB.out))) : w.heap.size ≤ gb113)); have n3_ := Aside0.mk ((by rw [hg]; exact (below_size (by repeat (first | (with_reducible first | exact HB.out | apply below_alloc | apply pw_below_drewN | apply below_drew1) | exact HB.out))) : w.heap.size ≤ gb113)); clear HB; have HB := n0_; have BK113 := n1_; have GW113 := n2_; have GE113 := n3_; clear n0_ n1_ n2_ n3_; clear hb hbox hg) | ((with_reducible refine gate_dst (N := 3) rfl ?_); refine box_event ?hg (N := 3) ?hd (cs := #[.int .i64 a1_0, .string a1_1, .string a1_2, .slice A1_3 l1_3.length c1_3, .bool a1_4]) (t := 35) ?hr ?_; (case hd => rfl); (case hg => rfl); (case hr => first | (go_simp; done) | (go_simp; rfl)); intro gb114 hg w19 hbox hb; have n0_ := Aside0.mk (blk_below (g := gb113) (o := .cells #[.int .i64 a0_0, .string a0_1, .string a0_2, .slice A0_3 l0_3.length c0_3, .bool a0_4] 35 (0, 0)) (by (with_reducible repeat (first | refine blk_drewN ?_ _ | refine blk_drew ?_ | refine blk_alloc ?_ _)); exact BK113.out) hb); have n1_ := Aside0.mk (below_step (by repeat (first | (with_reducible first | exact HB.out | apply below_alloc | apply pw_below_drewN | apply below_drew1 | refine below_set ?_ GE113.out) | exact HB.out)) hb); have n2_ := Aside0.mk (hbox); have n3_ := Aside0.mk ((by rw [hg]; exact (below_size (by repeat (first | (with_reducible first | exact HB.out | apply below_alloc | apply pw_below_drewN | apply below_drew1 | refine below_set ?_ GE113.out) | exact HB.out))) : w.heap.size ≤ gb114)); have n4_ := Aside0.mk ((by rw [hg]; exact (below_size (by repeat (first | (with_reducible first | exact HB.out | apply below_alloc | apply pw_below_drewN | apply below_drew1 | refine below_set ?_ GE113.out) | exact HB.out))) : w.heap.size ≤ gb114)); have n5_ := Aside0.mk ((by rw [hg]; exact Nat.ne_of_lt (blk_lt (g := gb113) (o := .cells #[.int .i64 a0_0, .string a0_1, .string a0_2, .slice A0_3 l0_3.length c0_3, .bool a0_4] 35 (0, 0)) (by (with_reducible repeat (first | refine blk_drewN ?_ _ | refine blk_drew ?_ | refine blk_alloc ?_ _)); exact BK113.out)) : gb113 ≠ gb114)); have n6_ := Aside0.mk ((by rw [hg]; exact Nat.ne_of_gt (blk_lt (g := gb113) (o := .cells #[.int .i64 a0_0, .string a0_1, .string a0_2, .slice A0_3 l0_3.length c0_3, .bool a0_4] 35 (0, 0)) (by (with_reducible repeat (first | refine blk_drewN ?_ _ | refine blk_drew ?_ | refine blk_alloc ?_ _)); exact BK113.out)) : gb114 ≠ gb113)); clear BK113; clear HB; have BK113 := n0_; have HB := n1_; have BK114 := n2_; have GW114 := n3_; have GE114 := n4_; have NB113_114 := n5_; have NB114_113 := n6_; clear n0_ n1_ n2_ n3_ n4_ n5_ n6_; clear hb hbox hg; have hnb20 := NB113_114.out; have hnc20 := NB114_113.out; have hcz21_0 : w19.cell? ⟨gb113, 0, none⟩ = some (.int .i64 a0_0) := (blk_cell BK113.out 0).trans rfl; have hcz21_1 : w19.cell? ⟨gb113, 1, none⟩ = some (.string a0_1) := (blk_cell BK113.out 1).trans rfl; have hcz21_2 : w19.cell? ⟨gb113, 2, none⟩ = some (.string a0_2) := (blk_cell BK113.out 2).trans rfl; have hcz21_3 : w19.cell? ⟨gb113, 3, none⟩ = some (.slice A0_3 l0_3.length c0_3) := (blk_cell BK113.out 3).trans rfl; have hcz21_4 : w19.cell? ⟨gb113, 4, none⟩ = some (.bool a0_4) := (blk_cell BK113.out 4).trans rfl; have hfz21_0 := blk_frozen BK113.out 0; have hfz21_1 := blk_frozen BK113.out 1; have hfz21_2 := blk_frozen BK113.out 2; have hfz21_3 := blk_frozen BK113.out 3; have hfz21_4 := blk_frozen BK113.out 4; have hcz22_0 : w19.cell? ⟨gb114, 0, none⟩ = some (.int .i64 a1_0) := (blk_cell BK114.out 0).trans rfl; have hcz22_1 : w19.cell? ⟨gb114, 1, none⟩ = some (.string a1_1) := (blk_cell BK114.out 1).trans rfl; have hcz22_2 : w19.cell? ⟨gb114, 2, none⟩ = some (.string a1_2) := (blk_cell BK114.out 2).trans rfl; have hcz22_3 : w19.cell? ⟨gb114, 3, none⟩ = some (.slice A1_3 l1_3.length c1_3) := (blk_cell BK114.out 3).trans rfl; have hcz22_4 : w19.cell? ⟨gb114, 4, none⟩ = some (.bool a1_4) := (blk_cell BK114.out 4).trans rfl; have hfz22_0 := blk_frozen BK114.out 0; have hfz22_1 := blk_frozen BK114.out 1; have hfz22_2 := blk_frozen BK114.out 2; have hfz22_3 := blk_frozen BK114.out 3; have hfz22_4 := blk_frozen BK114.out 4))
        go_ret
        exact ⟨by first | rfl | (simp [errW_none, errW_some] <;> rfl) | (simp [*, errW_none, errW_some] <;> rfl), by repeat (first | (with_reducible first | exact HB.out | apply below_alloc | apply pw_below_drewN | apply below_drew1 | refine below_set ?_ GE113.out | refine below_set ?_ GE114.out) | exact HB.out)⟩
    · rw [if_neg c4] at H
      have c4b0 : (a0_1.toList == a1_1.toList) = false := beq_eq_false_iff_ne.mpr c4
      have c4b1 : (a0_1.toList != a1_1.toList) = true := bne_iff_ne.mpr c4
      obtain rfl := Option.some.inj H
      go_enter Tryd.func39, Tryd.ntmps39
      go_wp2_with (first | ((with_reducible refine gate_dst (N := 2) rfl ?_); refine box_event ?hg (N := 2) ?hd (cs := #[.int .i64 a0_0, .string a0_1, .string a0_2, .slice A0_3 l0_3.length c0_3, .bool a0_4]) (t := 35) ?hr ?_; (case hd => rfl); (case hg => rfl); (case hr => first | (go_simp; done) | (go_simp; rfl)); intro gb113 hg w23 hbox hb; have n0_ := Aside0.mk (below_step (by repeat (first | (with_reducible first | exact HB.out | apply below_alloc | apply pw_below_drewN | apply below_drew1) | exact HB.out)) hb); have n1_ := Aside0.mk (hbox); have n2_ := Aside0.mk ((by rw [hg]; exact (below_size (by repeat (first | (with_reducible first | exact HB.out | apply below_alloc | apply pw_below_drewN | apply below_drew1) | exact HB.out))) : w.heap.size ≤ gb113)); have n3_ := Aside0.mk ((by rw [hg]; exact (below_size (by repeat (first | (with_reducible first | exact HB.out | apply below_alloc | apply pw_below_drewN | apply below_drew1) | exact HB.out))) : w.heap.size ≤ gb113)); clear HB; have HB := n0_; have BK113 := n1_; have GW113 := n2_; have GE113 := n3_; clear n0_ n1_ n2_ n3_; clear hb hbox hg) | ((with_reducible refine gate_dst (N := 3) rfl ?_); refine box_event ?hg (N := 3) ?hd (cs := #[.int .i64 a1_0, .string a1_1, .string a1_2, .slice A1_3 l1_3.length c1_3, .bool a1_4]) (t := 35) ?hr ?_; (case hd => rfl); (case hg => rfl); (case hr => first | (go_simp; done) | (go_simp; rfl)); intro gb114 hg w24 hbox hb; have n0_ := Aside0.mk (blk_below (g := gb113) (o := .cells #[.int .i64 a0_0, .string a0_1, .string a0_2, .slice A0_3 l0_3.length c0_3, .bool a0_4] 35 (0, 0)) (by (with_reducible repeat (first | refine blk_drewN ?_ _ | refine blk_drew ?_ | refine blk_alloc ?_ _)); exact BK113.out) hb); have n1_ := Aside0.mk (below_step (by repeat (first | (with_reducible first | exact HB.out | apply below_alloc | apply pw_below_drewN | apply below_drew1 | refine below_set ?_ GE113.out) | exact HB.out)) hb); have n2_ := Aside0.mk (hbox); have n3_ := Aside0.mk ((by rw [hg]; exact (below_size (by repeat (first | (with_reducible first | exact HB.out | apply below_alloc | apply pw_below_drewN | apply below_drew1 | refine below_set ?_ GE113.out) | exact HB.out))) : w.heap.size ≤ gb114)); have n4_ := Aside0.mk ((by rw [hg]; exact (below_size (by repeat (first | (with_reducible first | exact HB.out | apply below_alloc | apply pw_below_drewN | apply below_drew1 | refine below_set ?_ GE113.out) | exact HB.out))) : w.heap.size ≤ gb114)); have n5_ := Aside0.mk ((by rw [hg]; exact Nat.ne_of_lt (blk_lt (g := gb113) (o := .cells #[.int .i64 a0_0, .string a0_1, .string a0_2, .slice A0_3 l0_3.length c0_3, .bool a0_4] 35 (0, 0)) (by (with_reducible repeat (first | refine blk_drewN ?_ _ | refine blk_drew ?_ | refine blk_alloc ?_ _)); exact BK113.out)) : gb113 ≠ gb114)); have n6_ := Aside0.mk ((by rw [hg]; exact Nat.ne_of_gt (blk_lt (g := gb113) (o := .cells #[.int .i64 a0_0, .string a0_1, .string a0_2, .slice A0_3 l0_3.length c0_3, .bool a0_4] 35 (0, 0)) (by (with_reducible repeat (first | refine blk_drewN ?_ _ | refine blk_drew ?_ | refine blk_alloc ?_ _)); exact BK113.out)) : gb114 ≠ gb113)); clear BK113; clear HB; have BK113 := n0_; have HB := n1_; have BK114 := n2_; have GW114 := n3_; have GE114 := n4_; have NB113_114 := n5_; have NB114_113 := n6_; clear n0_ n1_ n2_ n3_ n4_ n5_ n6_; clear hb hbox hg; have hnb25 := NB113_114.out; have hnc25 := NB114_113.out; have hcz26_0 : w24.cell? ⟨gb113, 0, none⟩ = some (.int .i64 a0_0) := (blk_cell BK113.out 0).trans rfl; have hcz26_1 : w24.cell? ⟨gb113, 1, none⟩ = some (.string a0_1) := (blk_cell BK113.out 1).trans rfl; have hcz26_2 : w24.cell? ⟨gb113, 2, none⟩ = some (.string a0_2) := (blk_cell BK113.out 2).trans rfl; have hcz26_3 : w24.cell? ⟨gb113, 3, none⟩ = some (.slice A0_3 l0_3.length c0_3) := (blk_cell BK113.out 3).trans rfl; have hcz26_4 : w24.cell? ⟨gb113, 4, none⟩ = some (.bool a0_4) := (blk_cell BK113.out 4).trans rfl; have hfz26_0 := blk_frozen BK113.out 0; have hfz26_1 := blk_frozen BK113.out 1; have hfz26_2 := blk_frozen BK113.out 2; have hfz26_3 := blk_frozen BK113.out 3; have hfz26_4 := blk_frozen BK113.out 4; have hcz27_0 : w24.cell? ⟨gb114, 0, none⟩ = some (.int .i64 a1_0) := (blk_cell BK114.out 0).trans rfl; have hcz27_1 : w24.cell? ⟨gb114, 1, none⟩ = some (.string a1_1) := (blk_cell BK114.out 1).trans rfl; have hcz27_2 : w24.cell? ⟨gb114, 2, none⟩ = some (.string a1_2) := (blk_cell BK114.out 2).trans rfl; have hcz27_3 : w24.cell? ⟨gb114, 3, none⟩ = some (.slice A1_3 l1_3.length c1_3) := (blk_cell BK114.out 3).trans rfl; have hcz27_4 : w24.cell? ⟨gb114, 4, none⟩ = some (.bool a1_4) := (blk_cell BK114.out 4).trans rfl; have hfz27_0 := blk_frozen BK114.out 0; have hfz27_1 := blk_frozen BK114.out 1; have hfz27_2 := blk_frozen BK114.out 2; have hfz27_3 := blk_frozen BK114.out 3; have hfz27_4 := blk_frozen BK114.out 4))
      go_ret
      exact ⟨by first | rfl | (simp [errW_none, errW_some] <;> rfl) | (simp [*, errW_none, errW_some] <;> rfl), by repeat (first | (with_reducible first | exact HB.out | apply below_alloc | apply pw_below_drewN | apply below_drew1 | refine below_set ?_ GE113.out | refine below_set ?_ GE114.out) | exact HB.out)⟩
  · rw [if_neg c3] at H
    have c3b0 : (a0_0 == a1_0) = false := beq_eq_false_iff_ne.mpr c3
    have c3b1 : (a0_0 != a1_0) = true := bne_iff_ne.mpr c3
    obtain rfl := Option.some.inj H
    go_enter Tryd.func39, Tryd.ntmps39
    go_wp2_with (first | ((with_reducible refine gate_dst (N := 2) rfl ?_); refine box_event ?hg (N := 2) ?hd (cs := #[.int .i64 a0_0, .string a0_1, .string a0_2, .slice A0_3 l0_3.length c0_3, .bool a0_4]) (t := 35) ?hr ?_; (case hd => rfl); (case hg => rfl); (case hr => first | (go_simp; done) | (go_simp; rfl)); intro gb113 hg w28 hbox hb; have n0_ := Aside0.mk (below_step (by repeat (first | (with_reducible first | exact HB.out | apply below_alloc | apply pw_below_drewN | apply below_drew1) | exact HB.out)) hb); have n1_ := Aside0.mk (hbox); have n2_ := Aside0.mk ((by rw [hg]; exact (below_size (by repeat (first | (with_reducible first | exact HB.out | apply below_alloc | apply pw_below_drewN | apply below_drew1) | exact HB.out))) : w.heap.size ≤ gb113)); have n3_ := Aside0.mk ((by rw [hg]; exact (below_size (by repeat (first | (with_reducible first | exact HB.out | apply below_alloc | apply pw_below_drewN | apply below_drew1) | exact HB.out))) : w.heap.size ≤ gb113)); clear HB; have HB := n0_; have BK113 := n1_; have GW113 := n2_; have GE113 := n3_; clear n0_ n1_ n2_ n3_; clear hb hbox hg) | ((with_reducible refine gate_dst (N := 3) rfl ?_); refine box_event ?hg (N := 3) ?hd (cs := #[.int .i64 a1_0, .string a1_1, .string a1_2, .slice A1_3 l1_3.length c1_3, .bool a1_4]) (t := 35) ?hr ?_; (case hd => rfl); (case hg => rfl); (case hr => first | (go_simp; done) | (go_simp; rfl)); intro gb114 hg w29 hbox hb; have n0_ := Aside0.mk (blk_below (g := gb113) (o := .cells #[.int .i64 a0_0, .string a0_1, .string a0_2, .slice A0_3 l0_3.length c0_3, .bool a0_4] 35 (0, 0)) (by (with_reducible repeat (first | refine blk_drewN ?_ _ | refine blk_drew ?_ | refine blk_alloc ?_ _)); exact BK113.out) hb); have n1_ := Aside0.mk (below_step (by repeat (first | (with_reducible first | exact HB.out | apply below_alloc | apply pw_below_drewN | apply below_drew1 | refine below_set ?_ GE113.out) | exact HB.out)) hb); have n2_ := Aside0.mk (hbox); have n3_ := Aside0.mk ((by rw [hg]; exact (below_size (by repeat (first | (with_reducible first | exact HB.out | apply below_alloc | apply pw_below_drewN | apply below_drew1 | refine below_set ?_ GE113.out) | exact HB.out))) : w.heap.size ≤ gb114)); have n4_ := Aside0.mk ((by rw [hg]; exact (below_size (by repeat (first | (with_reducible first | exact HB.out | apply below_alloc | apply pw_below_drewN | apply below_drew1 | refine below_set ?_ GE113.out) | exact HB.out))) : w.heap.size ≤ gb114)); have n5_ := Aside0.mk ((by rw [hg]; exact Nat.ne_of_lt (blk_lt (g := gb113) (o := .cells #[.int .i64 a0_0, .string a0_1, .string a0_2, .slice A0_3 l0_3.length c0_3, .bool a0_4] 35 (0, 0)) (by (with_reducible repeat (first | refine blk_drewN ?_ _ | refine blk_drew ?_ | refine blk_alloc ?_ _)); exact BK113.out)) : gb113 ≠ gb114)); have n6_ := Aside0.mk ((by rw [hg]; exact Nat.ne_of_gt (blk_lt (g := gb113) (o := .cells #[.int .i64 a0_0, .string a0_1, .string a0_2, .slice A0_3 l0_3.length c0_3, .bool a0_4] 35 (0, 0)) (by (with_reducible repeat (first | refine blk_drewN ?_ _ | refine blk_drew ?_ | refine blk_alloc ?_ _)); exact BK113.out)) : gb114 ≠ gb113)); clear BK113; clear HB; have BK113 := n0_; have HB := n1_; have BK114 := n2_; have GW114 := n3_; have GE114 := n4_; have NB113_114 := n5_; have NB114_113 := n6_; clear n0_ n1_ n2_ n3_ n4_ n5_ n6_; clear hb hbox hg; have hnb30 := NB113_114.out; have hnc30 := NB114_113.out; have hcz31_0 : w29.cell? ⟨gb113, 0, none⟩ = some (.int .i64 a0_0) := (blk_cell BK113.out 0).trans rfl; have hcz31_1 : w29.cell? ⟨gb113, 1, none⟩ = some (.string a0_1) := (blk_cell BK113.out 1).trans rfl; have hcz31_2 : w29.cell? ⟨gb113, 2, none⟩ = some (.string a0_2) := (blk_cell BK113.out 2).trans rfl; have hcz31_3 : w29.cell? ⟨gb113, 3, none⟩ = some (.slice A0_3 l0_3.length c0_3) := (blk_cell BK113.out 3).trans rfl; have hcz31_4 : w29.cell? ⟨gb113, 4, none⟩ = some (.bool a0_4) := (blk_cell BK113.out 4).trans rfl; have hfz31_0 := blk_frozen BK113.out 0; have hfz31_1 := blk_frozen BK113.out 1; have hfz31_2 := blk_frozen BK113.out 2; have hfz31_3 := blk_frozen BK113.out 3; have hfz31_4 := blk_frozen BK113.out 4; have hcz32_0 : w29.cell? ⟨gb114, 0, none⟩ = some (.int .i64 a1_0) := (blk_cell BK114.out 0).trans rfl; have hcz32_1 : w29.cell? ⟨gb114, 1, none⟩ = some (.string a1_1) := (blk_cell BK114.out 1).trans rfl; have hcz32_2 : w29.cell? ⟨gb114, 2, none⟩ = some (.string a1_2) := (blk_cell BK114.out 2).trans rfl; have hcz32_3 : w29.cell? ⟨gb114, 3, none⟩ = some (.slice A1_3 l1_3.length c1_3) := (blk_cell BK114.out 3).trans rfl; have hcz32_4 : w29.cell? ⟨gb114, 4, none⟩ = some (.bool a1_4) := (blk_cell BK114.out 4).trans rfl; have hfz32_0 := blk_frozen BK114.out 0; have hfz32_1 := blk_frozen BK114.out 1; have hfz32_2 := blk_frozen BK114.out 2; have hfz32_3 := blk_frozen BK114.out 3; have hfz32_4 := blk_frozen BK114.out 4))
    go_ret
    exact ⟨by first | rfl | (simp [errW_none, errW_some] <;> rfl) | (simp [*, errW_none, errW_some] <;> rfl), by repeat (first | (with_reducible first | exact HB.out | apply below_alloc | apply pw_below_drewN | apply below_drew1 | refine below_set ?_ GE113.out | refine below_set ?_ GE114.out) | exact HB.out)⟩

/-! ### flailref12_Ends: function 60 -/
def flailref12_Ends.j0 : Nat → ByteArray → Int → ByteArray → Bool → Option (Bool)
  | 0, _, _, _, _ => none
  | k + 1, x0, x1, x2, x20 => if x20 = true then (some false) else (if 2 + x2.size ≤ 9223372036854775807 then ((flailref03_Begins.f k x0 x1 ((⟨#[60, 47]⟩ : ByteArray) ++ x2)).bind fun t116 => (if t116 = true then (if (wrap64 ((wrap64 (x1 + 2)) + (x2.size : Int))) ≥ (x0.size : Int) then (some false) else (if 0 ≤ (wrap64 ((wrap64 (x1 + 2)) + (x2.size : Int))) then (if (wrap64 ((wrap64 (x1 + 2)) + (x2.size : Int))) < (x0.size : Int) then ((flailref03_Space.f (bt x0 (wrap64 ((wrap64 (x1 + 2)) + (x2.size : Int))))).bind fun t117 => (if t117 = true then (some true) else (if (bt x0 (wrap64 ((wrap64 (x1 + 2)) + (x2.size : Int)))) = 47 then (some true) else (some ((bt x0 (wrap64 ((wrap64 (x1 + 2)) + (x2.size : Int)))) == 62))))) else (none)) else (none))) else (some false))) else (none))
def flailref12_Ends.f (k : Nat) (a0 : ByteArray) (a1 : Int) (a2 : ByteArray) : Option (Bool) := if (a2.size : Int) = 0 then (flailref12_Ends.j0 k a0 a1 a2 true) else (if a1 < 0 then (flailref12_Ends.j0 k a0 a1 a2 true) else (flailref12_Ends.j0 k a0 a1 a2 (decide (a1 ≥ (a0.size : Int)))))
theorem flailref12_Ends.mono_l : ∀ k, (∀ y0 y1 y2 y3, LeO (flailref12_Ends.j0 k y0 y1 y2 y3) (flailref12_Ends.j0 (k + 1) y0 y1 y2 y3))
  | 0 => fun _ _ _ _ r h => by simp [flailref12_Ends.j0] at h
  | k + 1 => by
    have ih0 := flailref12_Ends.mono_l k
    · intro y0 y1 y2 y3
      unfold flailref12_Ends.j0
      repeat' first
      | (with_reducible exact ih0 _ _ _ _)
      | (with_reducible exact flailref03_Begins.mono _ _ _ _)
      | (with_reducible exact LeO.refl _)
      | (with_reducible exact LeO.none _)
      | (with_reducible refine LeO.ite ?_ ?_)
      | (with_reducible refine LeO.bind ?_ (fun _ => ?_))
      | exact ih0 _ _ _ _
      | exact flailref03_Begins.mono _ _ _ _
      | exact LeO.none _
      | refine LeO.ite ?_ ?_
      | refine LeO.bind ?_ (fun _ => ?_)
theorem flailref12_Ends.mono : ∀ a0 a1 a2 k, LeO (flailref12_Ends.f k a0 a1 a2) (flailref12_Ends.f (k + 1) a0 a1 a2) := by
  intro a0 a1 a2 k
  have ih0 := flailref12_Ends.mono_l k
  unfold flailref12_Ends.f
  repeat' first
      | (with_reducible exact ih0 _ _ _ _)
      | (with_reducible exact flailref03_Begins.mono _ _ _ _)
      | (with_reducible exact LeO.refl _)
      | (with_reducible exact LeO.none _)
      | (with_reducible refine LeO.ite ?_ ?_)
      | (with_reducible refine LeO.bind ?_ (fun _ => ?_))
      | exact ih0 _ _ _ _
      | exact flailref03_Begins.mono _ _ _ _
      | exact LeO.none _
      | refine LeO.ite ?_ ?_
      | refine LeO.bind ?_ (fun _ => ?_)
set_option maxHeartbeats 8000000 in
set_option maxRecDepth 100000 in
theorem flailref12_Ends.calls (k : Nat) (a0 : ByteArray) (a1 : Int) (a2 : ByteArray) (r : Bool) (w : World) (h : flailref12_Ends.f k a0 a1 a2 = some r) :
    Calls Tryd.prog 60 #[.string a0, .int .i64 a1, .string a2] w fun e w' => e = .returned (.bool r) ∧ Below w.heap.size w w' := by
  have HB := Aside0.mk (Below.refl w.heap.size w)
  have H : (if (a2.size : Int) = 0 then (flailref12_Ends.j0 k a0 a1 a2 true) else (if a1 < 0 then (flailref12_Ends.j0 k a0 a1 a2 true) else (flailref12_Ends.j0 k a0 a1 a2 (decide (a1 ≥ (a0.size : Int)))))) = some r := h
  clear h
  have HC4 := Aside0.mk H
  clear H
  go_enter Tryd.func60, Tryd.ntmps60
  go_upto_region 1 with (fail)
  go_cut [20] (fun v20 wc => ∃ (kq : Nat) (x20_3 : Bool), v20 = .bool x20_3 ∧ Aside0 (flailref12_Ends.j0 kq a0 a1 a2 x20_3 = some r) ∧ Aside0 (kq ≤ k) ∧ Aside0 (Below w.heap.size w wc))
  case first =>
    have H := HC4.out
    clear HC4
    by_cases c5 : (a2.size : Int) = 0
    · rw [if_pos c5] at H
      have c5b0 : ((a2.size : Int) == 0) = true := beq_iff_eq.mpr c5
      have c5b1 : ((a2.size : Int) != 0) = false := bne_eq_false_iff_eq.mpr c5
      clear c5
      (first | rw [c5b0] | (simp only [i64_w, i32_w]; rw [c5b0]) | skip)
      have H' := Aside0.mk H
      clear H
      go_wp2
      go_meet
      case rel => exact ⟨_, (true), (by first | rfl | (simp; done) | (simp [*]; done)), H', ⟨by first | omega | exact Nat.le_refl _⟩, ⟨by repeat (first | (with_reducible first | exact HB.out | apply below_alloc | apply pw_below_drewN | apply below_drew1) | exact HB.out)⟩⟩
    · rw [if_neg c5] at H
      have c5b0 : ((a2.size : Int) == 0) = false := beq_eq_false_iff_ne.mpr c5
      have c5b1 : ((a2.size : Int) != 0) = true := bne_iff_ne.mpr c5
      (first | rw [c5b0] | (simp only [i64_w, i32_w]; rw [c5b0]) | skip)
      by_cases c6 : a1 < 0
      · rw [if_pos c6] at H
        have c6b0 : decide (a1 < 0) = true := decide_eq_true c6
        clear c6
        have H' := Aside0.mk H
        clear H
        go_wp2
        go_meet
        case rel => exact ⟨_, (true), (by first | rfl | (simp; done) | (simp [*]; done)), H', ⟨by first | omega | exact Nat.le_refl _⟩, ⟨by repeat (first | (with_reducible first | exact HB.out | apply below_alloc | apply pw_below_drewN | apply below_drew1) | exact HB.out)⟩⟩
      · rw [if_neg c6] at H
        have c6b0 : decide (a1 < 0) = false := decide_eq_false c6
        clear c6
        have H' := Aside0.mk H
        clear H
        go_wp2
        go_meet
        case rel => exact ⟨_, (decide (a1 ≥ (a0.size : Int))), (by first | rfl | (simp; done) | (simp [*]; done)), H', ⟨by first | omega | exact Nat.le_refl _⟩, ⟨by repeat (first | (with_reducible first | exact HB.out | apply below_alloc | apply pw_below_drewN | apply below_drew1) | exact HB.out)⟩⟩
  case rest =>
    clear HC4
    try clear p2
    try clear c5
    try clear c5b0
    try clear c5b1
    try clear c6
    try clear c6b0
    obtain ⟨kq, x20_3, rfl, HA, HJ3, HB⟩ := hcut
    cases kq with
    | zero => exact absurd HA.out (by simp [flailref12_Ends.j0])
    | succ kj3 =>
      have H := HA.out
      clear HA
      simp only [flailref12_Ends.j0] at H
      by_cases c7 : x20_3 = true
      · subst c7
        have H1 : (some false) = some r := by rw [if_pos rfl] at H; exact H
        clear H
        have H := H1
        clear H1
        obtain rfl := Option.some.inj H
        go_wp2
        go_ret
        exact ⟨by first | rfl | (simp [errW_none, errW_some] <;> rfl) | (simp [*, errW_none, errW_some] <;> rfl), by repeat (first | (with_reducible first | exact HB.out | apply below_alloc | apply pw_below_drewN | apply below_drew1) | exact HB.out)⟩
      · replace c7 := Bool.eq_false_iff.mpr c7
        subst c7
        have H1 : (if 2 + a2.size ≤ 9223372036854775807 then ((flailref03_Begins.f kj3 a0 a1 ((⟨#[60, 47]⟩ : ByteArray) ++ a2)).bind fun t116 => (if t116 = true then (if (wrap64 ((wrap64 (a1 + 2)) + (a2.size : Int))) ≥ (a0.size : Int) then (some false) else (if 0 ≤ (wrap64 ((wrap64 (a1 + 2)) + (a2.size : Int))) then (if (wrap64 ((wrap64 (a1 + 2)) + (a2.size : Int))) < (a0.size : Int) then ((flailref03_Space.f (bt a0 (wrap64 ((wrap64 (a1 + 2)) + (a2.size : Int))))).bind fun t117 => (if t117 = true then (some true) else (if (bt a0 (wrap64 ((wrap64 (a1 + 2)) + (a2.size : Int)))) = 47 then (some true) else (some ((bt a0 (wrap64 ((wrap64 (a1 + 2)) + (a2.size : Int)))) == 62))))) else (none)) else (none))) else (some false))) else (none)) = some r := by rw [if_neg (show ¬ (false = true) by decide)] at H; exact H
        clear H
        have H := H1
        clear H1
        by_cases c8 : 2 + a2.size ≤ 9223372036854775807
        · rw [if_pos c8] at H
          have c8b0 := eq_true c8
          have c8b1 : decide (2 + a2.size ≤ 9223372036854775807) = true := decide_eq_true c8
          try have c8b2 : (9223372036854775807 < 2 + a2.size) = False := eq_false (Nat.not_lt.2 c8)
          replace H := Option.bind_eq_some_iff.mp H
          obtain ⟨t116, A90, H⟩ := H
          replace H : (if t116 = true then (if (wrap64 ((wrap64 (a1 + 2)) + (a2.size : Int))) ≥ (a0.size : Int) then (some false) else (if 0 ≤ (wrap64 ((wrap64 (a1 + 2)) + (a2.size : Int))) then (if (wrap64 ((wrap64 (a1 + 2)) + (a2.size : Int))) < (a0.size : Int) then ((flailref03_Space.f (bt a0 (wrap64 ((wrap64 (a1 + 2)) + (a2.size : Int))))).bind fun t117 => (if t117 = true then (some true) else (if (bt a0 (wrap64 ((wrap64 (a1 + 2)) + (a2.size : Int)))) = 47 then (some true) else (some ((bt a0 (wrap64 ((wrap64 (a1 + 2)) + (a2.size : Int)))) == 62))))) else (none)) else (none))) else (some false)) = some r := H
          have A9 := Aside0.mk A90
          clear A90
          by_cases c10 : t116 = true
          · subst c10
            have H1 : (if (wrap64 ((wrap64 (a1 + 2)) + (a2.size : Int))) ≥ (a0.size : Int) then (some false) else (if 0 ≤ (wrap64 ((wrap64 (a1 + 2)) + (a2.size : Int))) then (if (wrap64 ((wrap64 (a1 + 2)) + (a2.size : Int))) < (a0.size : Int) then ((flailref03_Space.f (bt a0 (wrap64 ((wrap64 (a1 + 2)) + (a2.size : Int))))).bind fun t117 => (if t117 = true then (some true) else (if (bt a0 (wrap64 ((wrap64 (a1 + 2)) + (a2.size : Int)))) = 47 then (some true) else (some ((bt a0 (wrap64 ((wrap64 (a1 + 2)) + (a2.size : Int)))) == 62))))) else (none)) else (none))) = some r := by rw [if_pos rfl] at H; exact H
            clear H
            have H := H1
            clear H1
            by_cases c11 : (wrap64 ((wrap64 (a1 + 2)) + (a2.size : Int))) ≥ (a0.size : Int)
            · rw [if_pos c11] at H
              have c11b0 : decide ((a0.size : Int) ≤ (wrap64 ((wrap64 (a1 + 2)) + (a2.size : Int)))) = true := decide_eq_true c11
              clear c11
              obtain rfl := Option.some.inj H
              go_wp2_with (first | ((with_reducible refine gate_callee (f := 62) rfl ?_); refine goesL_ (some 25) rfl rfl Tryd.func62 (by kernel_rfl) rfl #[.string a0, .int .i64 a1, .string ((⟨#[60, 47]⟩ : ByteArray) ++ a2)] rfl (by (try simp only [List.map_toArray, List.map_cons, List.map_nil]); first | done | rfl | (simp only [List.length_drop, List.length_take]; rfl)) ?_; (with_reducible refine (flailref03_Begins.calls kj3 a0 a1 ((⟨#[60, 47]⟩ : ByteArray) ++ a2) true _ A9.out).mono ?_); rintro e w12 ⟨rfl, hb⟩; refine ⟨_, rfl, ?_⟩; have n0_ := Aside0.mk (below_step (by repeat (first | (with_reducible first | exact HB.out | apply below_alloc | apply pw_below_drewN | apply below_drew1) | exact HB.out)) hb); clear HB; have HB := n0_; clear n0_; (try clear hb); (try clear hb2); (try clear hk); (try clear hi)))
              go_ret
              exact ⟨by first | rfl | (simp [errW_none, errW_some] <;> rfl) | (simp [*, errW_none, errW_some] <;> rfl), by repeat (first | (with_reducible first | exact HB.out | apply below_alloc | apply pw_below_drewN | apply below_drew1) | exact HB.out)⟩
            · rw [if_neg c11] at H
              have c11b0 : decide ((a0.size : Int) ≤ (wrap64 ((wrap64 (a1 + 2)) + (a2.size : Int)))) = false := decide_eq_false c11
              clear c11
              obtain ⟨ji13, hji13⟩ : ∃ j_ : Int, (wrap64 ((wrap64 (a1 + 2)) + (a2.size : Int))) = j_ := ⟨_, rfl⟩
              replace H : (if 0 ≤ (ji13) then (if (ji13) < (a0.size : Int) then ((flailref03_Space.f (bt a0 (ji13))).bind fun t117 => (if t117 = true then (some true) else (if (bt a0 (ji13)) = 47 then (some true) else (some ((bt a0 (ji13)) == 62))))) else (none)) else (none)) = some r := by first | (rw [hji13] at H; exact H) | (simp only [hji13] at H ⊢; exact H)
              (try rw [hji13] at c11b0)
              (try rw [hji13] at A9)
              have hji13w : (IntKind.i64.wrap ((wrap64 (a1 + 2)) + (a2.size : Int))) = ji13 := (i64_w _).trans hji13
              by_cases c14 : 0 ≤ (ji13)
              · rw [if_pos c14] at H
                have c14b0 : decide (0 ≤ (ji13)) = true := decide_eq_true c14
                clear c14
                by_cases c15 : (ji13) < (a0.size : Int)
                · rw [if_pos c15] at H
                  have c15b0 : decide ((ji13) < (a0.size : Int)) = true := decide_eq_true c15
                  clear c15
                  replace H := Option.bind_eq_some_iff.mp H
                  obtain ⟨t117, A170, H⟩ := H
                  replace H : (if t117 = true then (some true) else (if (bt a0 (ji13)) = 47 then (some true) else (some ((bt a0 (ji13)) == 62)))) = some r := H
                  have A17 := Aside0.mk A170
                  clear A170
                  by_cases c18 : t117 = true
                  · subst c18
                    have H1 : (some true) = some r := by rw [if_pos rfl] at H; exact H
                    clear H
                    have H := H1
                    clear H1
                    obtain rfl := Option.some.inj H
                    go_wp2_with (first | ((with_reducible refine gate_callee (f := 62) rfl ?_); refine goesL_ (some 25) rfl rfl Tryd.func62 (by kernel_rfl) rfl #[.string a0, .int .i64 a1, .string ((⟨#[60, 47]⟩ : ByteArray) ++ a2)] rfl (by (try simp only [List.map_toArray, List.map_cons, List.map_nil]); first | done | rfl | (simp only [List.length_drop, List.length_take]; rfl)) ?_; (with_reducible refine (flailref03_Begins.calls kj3 a0 a1 ((⟨#[60, 47]⟩ : ByteArray) ++ a2) true _ A9.out).mono ?_); rintro e w19 ⟨rfl, hb⟩; refine ⟨_, rfl, ?_⟩; have n0_ := Aside0.mk (below_step (by repeat (first | (with_reducible first | exact HB.out | apply below_alloc | apply pw_below_drewN | apply below_drew1) | exact HB.out)) hb); clear HB; have HB := n0_; clear n0_; (try clear hb); (try clear hb2); (try clear hk); (try clear hi); have p16 : 0 ≤ ((ji13) : Int) := of_decide_eq_true (by first | (with_reducible assumption) | assumption); have q16 : (ji13) < (a0.size : Int) := of_decide_eq_true (by first | (with_reducible assumption) | assumption); have hx16 := bt_at a0 (ji13); replace p16 := eq_true p16; replace q16 := eq_true q16) | ((with_reducible refine gate_callee (f := 78) rfl ?_); refine goesL_ (some 39) rfl rfl Tryd.func78 (by kernel_rfl) rfl #[.int .u8 (bt a0 (ji13))] rfl (by (try simp only [List.map_toArray, List.map_cons, List.map_nil]); first | done | (simp only [hji13]; rfl) | rfl | (simp only [List.length_drop, List.length_take]; rfl)) ?_; (with_reducible refine (flailref03_Space.calls (bt a0 (ji13)) true _ A17.out).mono ?_); rintro e w' ⟨rfl, ⟨nd, rfl⟩⟩; refine ⟨_, rfl, ?_⟩))
                    go_ret
                    exact ⟨by first | rfl | (simp [errW_none, errW_some] <;> rfl) | (simp only [← hji13]; first | rfl | (simp [errW_none, errW_some] <;> rfl)) | (simp [*, errW_none, errW_some] <;> rfl), by repeat (first | (with_reducible first | exact HB.out | apply below_alloc | apply pw_below_drewN | apply below_drew1) | exact HB.out)⟩
                  · replace c18 := Bool.eq_false_iff.mpr c18
                    subst c18
                    have H1 : (if (bt a0 (ji13)) = 47 then (some true) else (some ((bt a0 (ji13)) == 62))) = some r := by rw [if_neg (show ¬ (false = true) by decide)] at H; exact H
                    clear H
                    have H := H1
                    clear H1
                    by_cases c21 : (bt a0 (ji13)) = 47
                    · rw [if_pos c21] at H
                      have c21b0 : ((bt a0 (ji13)) == 47) = true := beq_iff_eq.mpr c21
                      have c21b1 : ((bt a0 (ji13)) != 47) = false := bne_eq_false_iff_eq.mpr c21
                      clear c21
                      obtain rfl := Option.some.inj H
                      go_wp2_with (first | ((with_reducible refine gate_callee (f := 62) rfl ?_); refine goesL_ (some 25) rfl rfl Tryd.func62 (by kernel_rfl) rfl #[.string a0, .int .i64 a1, .string ((⟨#[60, 47]⟩ : ByteArray) ++ a2)] rfl (by (try simp only [List.map_toArray, List.map_cons, List.map_nil]); first | done | rfl | (simp only [List.length_drop, List.length_take]; rfl)) ?_; (with_reducible refine (flailref03_Begins.calls kj3 a0 a1 ((⟨#[60, 47]⟩ : ByteArray) ++ a2) true _ A9.out).mono ?_); rintro e w22 ⟨rfl, hb⟩; refine ⟨_, rfl, ?_⟩; have n0_ := Aside0.mk (below_step (by repeat (first | (with_reducible first | exact HB.out | apply below_alloc | apply pw_below_drewN | apply below_drew1) | exact HB.out)) hb); clear HB; have HB := n0_; clear n0_; (try clear hb); (try clear hb2); (try clear hk); (try clear hi); have p16 : 0 ≤ ((ji13) : Int) := of_decide_eq_true (by first | (with_reducible assumption) | assumption); have q16 : (ji13) < (a0.size : Int) := of_decide_eq_true (by first | (with_reducible assumption) | assumption); have hx16 := bt_at a0 (ji13); replace p16 := eq_true p16; replace q16 := eq_true q16) | ((with_reducible refine gate_callee (f := 78) rfl ?_); refine goesL_ (some 39) rfl rfl Tryd.func78 (by kernel_rfl) rfl #[.int .u8 (bt a0 (ji13))] rfl (by (try simp only [List.map_toArray, List.map_cons, List.map_nil]); first | done | (simp only [hji13]; rfl) | rfl | (simp only [List.length_drop, List.length_take]; rfl)) ?_; (with_reducible refine (flailref03_Space.calls (bt a0 (ji13)) false _ A17.out).mono ?_); rintro e w' ⟨rfl, ⟨nd, rfl⟩⟩; refine ⟨_, rfl, ?_⟩; have p20 : 0 ≤ ((ji13) : Int) := of_decide_eq_true (by first | (with_reducible assumption) | assumption); have q20 : (ji13) < (a0.size : Int) := of_decide_eq_true (by first | (with_reducible assumption) | assumption); have hx20 := bt_at a0 (ji13); replace p20 := eq_true p20; replace q20 := eq_true q20))
                      go_ret
                      exact ⟨by first | rfl | (simp [errW_none, errW_some] <;> rfl) | (simp only [← hji13]; first | rfl | (simp [errW_none, errW_some] <;> rfl)) | (simp [*, errW_none, errW_some] <;> rfl), by repeat (first | (with_reducible first | exact HB.out | apply below_alloc | apply pw_below_drewN | apply below_drew1) | exact HB.out)⟩
                    · rw [if_neg c21] at H
                      have c21b0 : ((bt a0 (ji13)) == 47) = false := beq_eq_false_iff_ne.mpr c21
                      have c21b1 : ((bt a0 (ji13)) != 47) = true := bne_iff_ne.mpr c21
                      obtain rfl := Option.some.inj H
                      go_wp2_with (first | ((with_reducible refine gate_callee (f := 62) rfl ?_); refine goesL_ (some 25) rfl rfl Tryd.func62 (by kernel_rfl) rfl #[.string a0, .int .i64 a1, .string ((⟨#[60, 47]⟩ : ByteArray) ++ a2)] rfl (by (try simp only [List.map_toArray, List.map_cons, List.map_nil]); first | done | rfl | (simp only [List.length_drop, List.length_take]; rfl)) ?_; (with_reducible refine (flailref03_Begins.calls kj3 a0 a1 ((⟨#[60, 47]⟩ : ByteArray) ++ a2) true _ A9.out).mono ?_); rintro e w24 ⟨rfl, hb⟩; refine ⟨_, rfl, ?_⟩; have n0_ := Aside0.mk (below_step (by repeat (first | (with_reducible first | exact HB.out | apply below_alloc | apply pw_below_drewN | apply below_drew1) | exact HB.out)) hb); clear HB; have HB := n0_; clear n0_; (try clear hb); (try clear hb2); (try clear hk); (try clear hi); have p16 : 0 ≤ ((ji13) : Int) := of_decide_eq_true (by first | (with_reducible assumption) | assumption); have q16 : (ji13) < (a0.size : Int) := of_decide_eq_true (by first | (with_reducible assumption) | assumption); have hx16 := bt_at a0 (ji13); replace p16 := eq_true p16; replace q16 := eq_true q16) | ((with_reducible refine gate_callee (f := 78) rfl ?_); refine goesL_ (some 39) rfl rfl Tryd.func78 (by kernel_rfl) rfl #[.int .u8 (bt a0 (ji13))] rfl (by (try simp only [List.map_toArray, List.map_cons, List.map_nil]); first | done | (simp only [hji13]; rfl) | rfl | (simp only [List.length_drop, List.length_take]; rfl)) ?_; (with_reducible refine (flailref03_Space.calls (bt a0 (ji13)) false _ A17.out).mono ?_); rintro e w' ⟨rfl, ⟨nd, rfl⟩⟩; refine ⟨_, rfl, ?_⟩; have p20 : 0 ≤ ((ji13) : Int) := of_decide_eq_true (by first | (with_reducible assumption) | assumption); have q20 : (ji13) < (a0.size : Int) := of_decide_eq_true (by first | (with_reducible assumption) | assumption); have hx20 := bt_at a0 (ji13); replace p20 := eq_true p20; replace q20 := eq_true q20; have p23 : 0 ≤ ((ji13) : Int) := of_decide_eq_true (by first | (with_reducible assumption) | assumption); have q23 : (ji13) < (a0.size : Int) := of_decide_eq_true (by first | (with_reducible assumption) | assumption); have hx23 := bt_at a0 (ji13); replace p23 := eq_true p23; replace q23 := eq_true q23))
                      go_ret
                      exact ⟨by first | rfl | (simp [errW_none, errW_some] <;> rfl) | (simp only [← hji13]; first | rfl | (simp [errW_none, errW_some] <;> rfl)) | (simp [*, errW_none, errW_some] <;> rfl), by repeat (first | (with_reducible first | exact HB.out | apply below_alloc | apply pw_below_drewN | apply below_drew1) | exact HB.out)⟩
                · rw [if_neg c15] at H
                  exact absurd H (by simp)
              · rw [if_neg c14] at H
                exact absurd H (by simp)
          · replace c10 := Bool.eq_false_iff.mpr c10
            subst c10
            have H1 : (some false) = some r := by rw [if_neg (show ¬ (false = true) by decide)] at H; exact H
            clear H
            have H := H1
            clear H1
            obtain rfl := Option.some.inj H
            go_wp2_with (first | ((with_reducible refine gate_callee (f := 62) rfl ?_); refine goesL_ (some 25) rfl rfl Tryd.func62 (by kernel_rfl) rfl #[.string a0, .int .i64 a1, .string ((⟨#[60, 47]⟩ : ByteArray) ++ a2)] rfl (by (try simp only [List.map_toArray, List.map_cons, List.map_nil]); first | done | rfl | (simp only [List.length_drop, List.length_take]; rfl)) ?_; (with_reducible refine (flailref03_Begins.calls kj3 a0 a1 ((⟨#[60, 47]⟩ : ByteArray) ++ a2) false _ A9.out).mono ?_); rintro e w25 ⟨rfl, hb⟩; refine ⟨_, rfl, ?_⟩; have n0_ := Aside0.mk (below_step (by repeat (first | (with_reducible first | exact HB.out | apply below_alloc | apply pw_below_drewN | apply below_drew1) | exact HB.out)) hb); clear HB; have HB := n0_; clear n0_; (try clear hb); (try clear hb2); (try clear hk); (try clear hi)))
            go_ret
            exact ⟨by first | rfl | (simp [errW_none, errW_some] <;> rfl) | (simp [*, errW_none, errW_some] <;> rfl), by repeat (first | (with_reducible first | exact HB.out | apply below_alloc | apply pw_below_drewN | apply below_drew1) | exact HB.out)⟩
        · rw [if_neg c8] at H
          exact absurd H (by simp)

/-! ### flailref13_word: function 61 -/
def flailref13_word.f (k : Nat) (a0 : ByteArray) (a1 : Int) (a2 : ByteArray) : Option (Bool) := if a2.size + 6 ≤ 9223372036854775807 then ((flailref03_Begins.f k a0 a1 (a2 ++ (⟨#[115, 99, 114, 105, 112, 116]⟩ : ByteArray))).bind fun t118 => (if t118 = true then (if (wrap64 ((wrap64 (a1 + (a2.size : Int))) + 6)) ≥ (a0.size : Int) then (some false) else (if 0 ≤ (wrap64 ((wrap64 (a1 + (a2.size : Int))) + 6)) then (if (wrap64 ((wrap64 (a1 + (a2.size : Int))) + 6)) < (a0.size : Int) then ((flailref03_Space.f (bt a0 (wrap64 ((wrap64 (a1 + (a2.size : Int))) + 6)))).bind fun t119 => (if t119 = true then (some true) else (if (bt a0 (wrap64 ((wrap64 (a1 + (a2.size : Int))) + 6))) = 47 then (some true) else (some ((bt a0 (wrap64 ((wrap64 (a1 + (a2.size : Int))) + 6))) == 62))))) else (none)) else (none))) else (some false))) else (none)
theorem flailref13_word.mono : ∀ a0 a1 a2 k, LeO (flailref13_word.f k a0 a1 a2) (flailref13_word.f (k + 1) a0 a1 a2) := by
  intro a0 a1 a2 k
  unfold flailref13_word.f
  repeat' first
      | (with_reducible exact flailref03_Begins.mono _ _ _ _)
      | (with_reducible exact LeO.refl _)
      | (with_reducible exact LeO.none _)
      | (with_reducible refine LeO.ite ?_ ?_)
      | (with_reducible refine LeO.bind ?_ (fun _ => ?_))
      | exact flailref03_Begins.mono _ _ _ _
      | exact LeO.none _
      | refine LeO.ite ?_ ?_
      | refine LeO.bind ?_ (fun _ => ?_)
set_option maxHeartbeats 8000000 in
set_option maxRecDepth 100000 in
theorem flailref13_word.calls (k : Nat) (a0 : ByteArray) (a1 : Int) (a2 : ByteArray) (r : Bool) (w : World) (h : flailref13_word.f k a0 a1 a2 = some r) :
    Calls Tryd.prog 61 #[.string a0, .int .i64 a1, .string a2] w fun e w' => e = .returned (.bool r) ∧ Below w.heap.size w w' := by
  have HB := Aside0.mk (Below.refl w.heap.size w)
  have H : (if a2.size + 6 ≤ 9223372036854775807 then ((flailref03_Begins.f k a0 a1 (a2 ++ (⟨#[115, 99, 114, 105, 112, 116]⟩ : ByteArray))).bind fun t118 => (if t118 = true then (if (wrap64 ((wrap64 (a1 + (a2.size : Int))) + 6)) ≥ (a0.size : Int) then (some false) else (if 0 ≤ (wrap64 ((wrap64 (a1 + (a2.size : Int))) + 6)) then (if (wrap64 ((wrap64 (a1 + (a2.size : Int))) + 6)) < (a0.size : Int) then ((flailref03_Space.f (bt a0 (wrap64 ((wrap64 (a1 + (a2.size : Int))) + 6)))).bind fun t119 => (if t119 = true then (some true) else (if (bt a0 (wrap64 ((wrap64 (a1 + (a2.size : Int))) + 6))) = 47 then (some true) else (some ((bt a0 (wrap64 ((wrap64 (a1 + (a2.size : Int))) + 6))) == 62))))) else (none)) else (none))) else (some false))) else (none)) = some r := h
  clear h
  by_cases c4 : a2.size + 6 ≤ 9223372036854775807
  · rw [if_pos c4] at H
    have c4b0 := eq_true c4
    have c4b1 : decide (a2.size + 6 ≤ 9223372036854775807) = true := decide_eq_true c4
    try have c4b2 : (9223372036854775807 < a2.size + 6) = False := eq_false (Nat.not_lt.2 c4)
    replace H := Option.bind_eq_some_iff.mp H
    obtain ⟨t118, A50, H⟩ := H
    replace H : (if t118 = true then (if (wrap64 ((wrap64 (a1 + (a2.size : Int))) + 6)) ≥ (a0.size : Int) then (some false) else (if 0 ≤ (wrap64 ((wrap64 (a1 + (a2.size : Int))) + 6)) then (if (wrap64 ((wrap64 (a1 + (a2.size : Int))) + 6)) < (a0.size : Int) then ((flailref03_Space.f (bt a0 (wrap64 ((wrap64 (a1 + (a2.size : Int))) + 6)))).bind fun t119 => (if t119 = true then (some true) else (if (bt a0 (wrap64 ((wrap64 (a1 + (a2.size : Int))) + 6))) = 47 then (some true) else (some ((bt a0 (wrap64 ((wrap64 (a1 + (a2.size : Int))) + 6))) == 62))))) else (none)) else (none))) else (some false)) = some r := H
    have A5 := Aside0.mk A50
    clear A50
    by_cases c6 : t118 = true
    · subst c6
      have H1 : (if (wrap64 ((wrap64 (a1 + (a2.size : Int))) + 6)) ≥ (a0.size : Int) then (some false) else (if 0 ≤ (wrap64 ((wrap64 (a1 + (a2.size : Int))) + 6)) then (if (wrap64 ((wrap64 (a1 + (a2.size : Int))) + 6)) < (a0.size : Int) then ((flailref03_Space.f (bt a0 (wrap64 ((wrap64 (a1 + (a2.size : Int))) + 6)))).bind fun t119 => (if t119 = true then (some true) else (if (bt a0 (wrap64 ((wrap64 (a1 + (a2.size : Int))) + 6))) = 47 then (some true) else (some ((bt a0 (wrap64 ((wrap64 (a1 + (a2.size : Int))) + 6))) == 62))))) else (none)) else (none))) = some r := by rw [if_pos rfl] at H; exact H
      clear H
      have H := H1
      clear H1
      by_cases c7 : (wrap64 ((wrap64 (a1 + (a2.size : Int))) + 6)) ≥ (a0.size : Int)
      · rw [if_pos c7] at H
        have c7b0 : decide ((a0.size : Int) ≤ (wrap64 ((wrap64 (a1 + (a2.size : Int))) + 6))) = true := decide_eq_true c7
        clear c7
        obtain rfl := Option.some.inj H
        go_enter Tryd.func61, Tryd.ntmps61
        go_wp2_with (first | ((with_reducible refine gate_callee (f := 62) rfl ?_); refine goesL_ (some 12) rfl rfl Tryd.func62 (by kernel_rfl) rfl #[.string a0, .int .i64 a1, .string (a2 ++ (⟨#[115, 99, 114, 105, 112, 116]⟩ : ByteArray))] rfl (by (try simp only [List.map_toArray, List.map_cons, List.map_nil]); first | done | rfl | (simp only [List.length_drop, List.length_take]; rfl)) ?_; (with_reducible refine (flailref03_Begins.calls k a0 a1 (a2 ++ (⟨#[115, 99, 114, 105, 112, 116]⟩ : ByteArray)) true _ A5.out).mono ?_); rintro e w8 ⟨rfl, hb⟩; refine ⟨_, rfl, ?_⟩; have n0_ := Aside0.mk (below_step (by repeat (first | (with_reducible first | exact HB.out | apply below_alloc | apply pw_below_drewN | apply below_drew1) | exact HB.out)) hb); clear HB; have HB := n0_; clear n0_; (try clear hb); (try clear hb2); (try clear hk); (try clear hi)))
        go_ret
        exact ⟨by first | rfl | (simp [errW_none, errW_some] <;> rfl) | (simp [*, errW_none, errW_some] <;> rfl), by repeat (first | (with_reducible first | exact HB.out | apply below_alloc | apply pw_below_drewN | apply below_drew1) | exact HB.out)⟩
      · rw [if_neg c7] at H
        have c7b0 : decide ((a0.size : Int) ≤ (wrap64 ((wrap64 (a1 + (a2.size : Int))) + 6))) = false := decide_eq_false c7
        clear c7
        obtain ⟨ji9, hji9⟩ : ∃ j_ : Int, (wrap64 ((wrap64 (a1 + (a2.size : Int))) + 6)) = j_ := ⟨_, rfl⟩
        replace H : (if 0 ≤ (ji9) then (if (ji9) < (a0.size : Int) then ((flailref03_Space.f (bt a0 (ji9))).bind fun t119 => (if t119 = true then (some true) else (if (bt a0 (ji9)) = 47 then (some true) else (some ((bt a0 (ji9)) == 62))))) else (none)) else (none)) = some r := by first | (rw [hji9] at H; exact H) | (simp only [hji9] at H ⊢; exact H)
        (try rw [hji9] at c7b0)
        (try rw [hji9] at A5)
        have hji9w : (IntKind.i64.wrap ((wrap64 (a1 + (a2.size : Int))) + 6)) = ji9 := (i64_w _).trans hji9
        by_cases c10 : 0 ≤ (ji9)
        · rw [if_pos c10] at H
          have c10b0 : decide (0 ≤ (ji9)) = true := decide_eq_true c10
          clear c10
          by_cases c11 : (ji9) < (a0.size : Int)
          · rw [if_pos c11] at H
            have c11b0 : decide ((ji9) < (a0.size : Int)) = true := decide_eq_true c11
            clear c11
            replace H := Option.bind_eq_some_iff.mp H
            obtain ⟨t119, A130, H⟩ := H
            replace H : (if t119 = true then (some true) else (if (bt a0 (ji9)) = 47 then (some true) else (some ((bt a0 (ji9)) == 62)))) = some r := H
            have A13 := Aside0.mk A130
            clear A130
            by_cases c14 : t119 = true
            · subst c14
              have H1 : (some true) = some r := by rw [if_pos rfl] at H; exact H
              clear H
              have H := H1
              clear H1
              obtain rfl := Option.some.inj H
              go_enter Tryd.func61, Tryd.ntmps61
              go_wp2_with (first | ((with_reducible refine gate_callee (f := 62) rfl ?_); refine goesL_ (some 12) rfl rfl Tryd.func62 (by kernel_rfl) rfl #[.string a0, .int .i64 a1, .string (a2 ++ (⟨#[115, 99, 114, 105, 112, 116]⟩ : ByteArray))] rfl (by (try simp only [List.map_toArray, List.map_cons, List.map_nil]); first | done | rfl | (simp only [List.length_drop, List.length_take]; rfl)) ?_; (with_reducible refine (flailref03_Begins.calls k a0 a1 (a2 ++ (⟨#[115, 99, 114, 105, 112, 116]⟩ : ByteArray)) true _ A5.out).mono ?_); rintro e w15 ⟨rfl, hb⟩; refine ⟨_, rfl, ?_⟩; have n0_ := Aside0.mk (below_step (by repeat (first | (with_reducible first | exact HB.out | apply below_alloc | apply pw_below_drewN | apply below_drew1) | exact HB.out)) hb); clear HB; have HB := n0_; clear n0_; (try clear hb); (try clear hb2); (try clear hk); (try clear hi); have p12 : 0 ≤ ((ji9) : Int) := of_decide_eq_true (by first | (with_reducible assumption) | assumption); have q12 : (ji9) < (a0.size : Int) := of_decide_eq_true (by first | (with_reducible assumption) | assumption); have hx12 := bt_at a0 (ji9); replace p12 := eq_true p12; replace q12 := eq_true q12) | ((with_reducible refine gate_callee (f := 78) rfl ?_); refine goesL_ (some 26) rfl rfl Tryd.func78 (by kernel_rfl) rfl #[.int .u8 (bt a0 (ji9))] rfl (by (try simp only [List.map_toArray, List.map_cons, List.map_nil]); first | done | (simp only [hji9]; rfl) | rfl | (simp only [List.length_drop, List.length_take]; rfl)) ?_; (with_reducible refine (flailref03_Space.calls (bt a0 (ji9)) true _ A13.out).mono ?_); rintro e w' ⟨rfl, ⟨nd, rfl⟩⟩; refine ⟨_, rfl, ?_⟩))
              go_ret
              exact ⟨by first | rfl | (simp [errW_none, errW_some] <;> rfl) | (simp only [← hji9]; first | rfl | (simp [errW_none, errW_some] <;> rfl)) | (simp [*, errW_none, errW_some] <;> rfl), by repeat (first | (with_reducible first | exact HB.out | apply below_alloc | apply pw_below_drewN | apply below_drew1) | exact HB.out)⟩
            · replace c14 := Bool.eq_false_iff.mpr c14
              subst c14
              have H1 : (if (bt a0 (ji9)) = 47 then (some true) else (some ((bt a0 (ji9)) == 62))) = some r := by rw [if_neg (show ¬ (false = true) by decide)] at H; exact H
              clear H
              have H := H1
              clear H1
              by_cases c17 : (bt a0 (ji9)) = 47
              · rw [if_pos c17] at H
                have c17b0 : ((bt a0 (ji9)) == 47) = true := beq_iff_eq.mpr c17
                have c17b1 : ((bt a0 (ji9)) != 47) = false := bne_eq_false_iff_eq.mpr c17
                clear c17
                obtain rfl := Option.some.inj H
                go_enter Tryd.func61, Tryd.ntmps61
                go_wp2_with (first | ((with_reducible refine gate_callee (f := 62) rfl ?_); refine goesL_ (some 12) rfl rfl Tryd.func62 (by kernel_rfl) rfl #[.string a0, .int .i64 a1, .string (a2 ++ (⟨#[115, 99, 114, 105, 112, 116]⟩ : ByteArray))] rfl (by (try simp only [List.map_toArray, List.map_cons, List.map_nil]); first | done | rfl | (simp only [List.length_drop, List.length_take]; rfl)) ?_; (with_reducible refine (flailref03_Begins.calls k a0 a1 (a2 ++ (⟨#[115, 99, 114, 105, 112, 116]⟩ : ByteArray)) true _ A5.out).mono ?_); rintro e w18 ⟨rfl, hb⟩; refine ⟨_, rfl, ?_⟩; have n0_ := Aside0.mk (below_step (by repeat (first | (with_reducible first | exact HB.out | apply below_alloc | apply pw_below_drewN | apply below_drew1) | exact HB.out)) hb); clear HB; have HB := n0_; clear n0_; (try clear hb); (try clear hb2); (try clear hk); (try clear hi); have p12 : 0 ≤ ((ji9) : Int) := of_decide_eq_true (by first | (with_reducible assumption) | assumption); have q12 : (ji9) < (a0.size : Int) := of_decide_eq_true (by first | (with_reducible assumption) | assumption); have hx12 := bt_at a0 (ji9); replace p12 := eq_true p12; replace q12 := eq_true q12) | ((with_reducible refine gate_callee (f := 78) rfl ?_); refine goesL_ (some 26) rfl rfl Tryd.func78 (by kernel_rfl) rfl #[.int .u8 (bt a0 (ji9))] rfl (by (try simp only [List.map_toArray, List.map_cons, List.map_nil]); first | done | (simp only [hji9]; rfl) | rfl | (simp only [List.length_drop, List.length_take]; rfl)) ?_; (with_reducible refine (flailref03_Space.calls (bt a0 (ji9)) false _ A13.out).mono ?_); rintro e w' ⟨rfl, ⟨nd, rfl⟩⟩; refine ⟨_, rfl, ?_⟩; have p16 : 0 ≤ ((ji9) : Int) := of_decide_eq_true (by first | (with_reducible assumption) | assumption); have q16 : (ji9) < (a0.size : Int) := of_decide_eq_true (by first | (with_reducible assumption) | assumption); have hx16 := bt_at a0 (ji9); replace p16 := eq_true p16; replace q16 := eq_true q16))
                go_ret
                exact ⟨by first | rfl | (simp [errW_none, errW_some] <;> rfl) | (simp only [← hji9]; first | rfl | (simp [errW_none, errW_some] <;> rfl)) | (simp [*, errW_none, errW_some] <;> rfl), by repeat (first | (with_reducible first | exact HB.out | apply below_alloc | apply pw_below_drewN | apply below_drew1) | exact HB.out)⟩
              · rw [if_neg c17] at H
                have c17b0 : ((bt a0 (ji9)) == 47) = false := beq_eq_false_iff_ne.mpr c17
                have c17b1 : ((bt a0 (ji9)) != 47) = true := bne_iff_ne.mpr c17
                obtain rfl := Option.some.inj H
                go_enter Tryd.func61, Tryd.ntmps61
                go_wp2_with (first | ((with_reducible refine gate_callee (f := 62) rfl ?_); refine goesL_ (some 12) rfl rfl Tryd.func62 (by kernel_rfl) rfl #[.string a0, .int .i64 a1, .string (a2 ++ (⟨#[115, 99, 114, 105, 112, 116]⟩ : ByteArray))] rfl (by (try simp only [List.map_toArray, List.map_cons, List.map_nil]); first | done | rfl | (simp only [List.length_drop, List.length_take]; rfl)) ?_; (with_reducible refine (flailref03_Begins.calls k a0 a1 (a2 ++ (⟨#[115, 99, 114, 105, 112, 116]⟩ : ByteArray)) true _ A5.out).mono ?_); rintro e w20 ⟨rfl, hb⟩; refine ⟨_, rfl, ?_⟩; have n0_ := Aside0.mk (below_step (by repeat (first | (with_reducible first | exact HB.out | apply below_alloc | apply pw_below_drewN | apply below_drew1) | exact HB.out)) hb); clear HB; have HB := n0_; clear n0_; (try clear hb); (try clear hb2); (try clear hk); (try clear hi); have p12 : 0 ≤ ((ji9) : Int) := of_decide_eq_true (by first | (with_reducible assumption) | assumption); have q12 : (ji9) < (a0.size : Int) := of_decide_eq_true (by first | (with_reducible assumption) | assumption); have hx12 := bt_at a0 (ji9); replace p12 := eq_true p12; replace q12 := eq_true q12) | ((with_reducible refine gate_callee (f := 78) rfl ?_); refine goesL_ (some 26) rfl rfl Tryd.func78 (by kernel_rfl) rfl #[.int .u8 (bt a0 (ji9))] rfl (by (try simp only [List.map_toArray, List.map_cons, List.map_nil]); first | done | (simp only [hji9]; rfl) | rfl | (simp only [List.length_drop, List.length_take]; rfl)) ?_; (with_reducible refine (flailref03_Space.calls (bt a0 (ji9)) false _ A13.out).mono ?_); rintro e w' ⟨rfl, ⟨nd, rfl⟩⟩; refine ⟨_, rfl, ?_⟩; have p16 : 0 ≤ ((ji9) : Int) := of_decide_eq_true (by first | (with_reducible assumption) | assumption); have q16 : (ji9) < (a0.size : Int) := of_decide_eq_true (by first | (with_reducible assumption) | assumption); have hx16 := bt_at a0 (ji9); replace p16 := eq_true p16; replace q16 := eq_true q16; have p19 : 0 ≤ ((ji9) : Int) := of_decide_eq_true (by first | (with_reducible assumption) | assumption); have q19 : (ji9) < (a0.size : Int) := of_decide_eq_true (by first | (with_reducible assumption) | assumption); have hx19 := bt_at a0 (ji9); replace p19 := eq_true p19; replace q19 := eq_true q19))
                go_ret
                exact ⟨by first | rfl | (simp [errW_none, errW_some] <;> rfl) | (simp only [← hji9]; first | rfl | (simp [errW_none, errW_some] <;> rfl)) | (simp [*, errW_none, errW_some] <;> rfl), by repeat (first | (with_reducible first | exact HB.out | apply below_alloc | apply pw_below_drewN | apply below_drew1) | exact HB.out)⟩
          · rw [if_neg c11] at H
            exact absurd H (by simp)
        · rw [if_neg c10] at H
          exact absurd H (by simp)
    · replace c6 := Bool.eq_false_iff.mpr c6
      subst c6
      have H1 : (some false) = some r := by rw [if_neg (show ¬ (false = true) by decide)] at H; exact H
      clear H
      have H := H1
      clear H1
      obtain rfl := Option.some.inj H
      go_enter Tryd.func61, Tryd.ntmps61
      go_wp2_with (first | ((with_reducible refine gate_callee (f := 62) rfl ?_); refine goesL_ (some 12) rfl rfl Tryd.func62 (by kernel_rfl) rfl #[.string a0, .int .i64 a1, .string (a2 ++ (⟨#[115, 99, 114, 105, 112, 116]⟩ : ByteArray))] rfl (by (try simp only [List.map_toArray, List.map_cons, List.map_nil]); first | done | rfl | (simp only [List.length_drop, List.length_take]; rfl)) ?_; (with_reducible refine (flailref03_Begins.calls k a0 a1 (a2 ++ (⟨#[115, 99, 114, 105, 112, 116]⟩ : ByteArray)) false _ A5.out).mono ?_); rintro e w21 ⟨rfl, hb⟩; refine ⟨_, rfl, ?_⟩; have n0_ := Aside0.mk (below_step (by repeat (first | (with_reducible first | exact HB.out | apply below_alloc | apply pw_below_drewN | apply below_drew1) | exact HB.out)) hb); clear HB; have HB := n0_; clear n0_; (try clear hb); (try clear hb2); (try clear hk); (try clear hi)))
      go_ret
      exact ⟨by first | rfl | (simp [errW_none, errW_some] <;> rfl) | (simp [*, errW_none, errW_some] <;> rfl), by repeat (first | (with_reducible first | exact HB.out | apply below_alloc | apply pw_below_drewN | apply below_drew1) | exact HB.out)⟩
  · rw [if_neg c4] at H
    exact absurd H (by simp)

end Go.Proofs.YtppaobgccdlccaaDoor.Sr
