-- Written by a program of this session over the kit's printer: not by hand.
import Derived.Test.YtppaobgccdlccaaDoorPr0
import Derived.Test.YtppaobgccdlccaaDoorPr1
namespace Go.Proofs.YtppaobgccdlccaaDoor.Pr
open Go.RowKit Go.Proofs.YtppaobgccdlccaaDoor.Hand Go.Proofs.YtppaobgccdlccaaDoorW.PrintWords Go.Proofs.YtppaobgccdlccaaDoorW.PrintLast Go.Proofs.YtppaobgccdlccaaDoorW.PrintMore
attribute [local go_sem] max2_int min2_int max_two min_two max_three min_three max_four min_four   -- for this text's walks alone
set_option linter.unusedVariables false
set_option linter.unusedSimpArgs false

/-! ### flaillaw02_LinesCounts: function 6 -/
mutual
def flaillaw02_LinesCounts.l0 : Nat → ByteArray → Bool → Int → ByteArray → Int → Option (Bool)
  | 0, _, _, _, _, _ => none
  | k + 1, x0, x3, x4, x5, x6 => if x6 < (x0.size : Int) then (if 0 ≤ x6 then (if (bt x0 x6) = 13 then (flaillaw02_LinesCounts.l0 k x0 x3 (wrap64 (x4 + 1)) x5 (wrap64 (x6 + 1))) else (if (bt x0 x6) = 10 then (if x6 = 0 then (flaillaw02_LinesCounts.l0 k x0 x3 (wrap64 (x4 + 1)) x5 (wrap64 (x6 + 1))) else (if 0 ≤ (wrap64 (x6 - 1)) then (if (wrap64 (x6 - 1)) < (x0.size : Int) then (if (bt x0 (wrap64 (x6 - 1))) = 13 then (flaillaw02_LinesCounts.l0 k x0 x3 x4 x5 (wrap64 (x6 + 1))) else (flaillaw02_LinesCounts.l0 k x0 x3 (wrap64 (x4 + 1)) x5 (wrap64 (x6 + 1)))) else (none)) else (none))) else (if x6 ≤ (wrap64 (x6 + 1)) then (if (wrap64 (x6 + 1)) ≤ (x0.size : Int) then (if x5.size + (x0.extract (x6 : Int).toNat ((wrap64 (x6 + 1)) : Int).toNat).size ≤ 9223372036854775807 then (flaillaw02_LinesCounts.l0 k x0 x3 x4 (x5 ++ (x0.extract (x6 : Int).toNat ((wrap64 (x6 + 1)) : Int).toNat)) (wrap64 (x6 + 1))) else (none)) else (none)) else (none)))) else (none)) else ((lines_Norm.f x0).bind fun t128 => (flaillaw02_LinesCounts.l1 k x3 x4 x5 t128 0 (⟨#[]⟩ : ByteArray) 0))
def flaillaw02_LinesCounts.l1 : Nat → Bool → Int → ByteArray → ByteArray → Int → ByteArray → Int → Option (Bool)
  | 0, _, _, _, _, _, _, _ => none
  | k + 1, x3, x4, x5, x7, x8, x9, x10 => if x10 < (x7.size : Int) then (if 0 ≤ x10 then (if (bt x7 x10) = 10 then (flaillaw02_LinesCounts.l1 k x3 x4 x5 x7 (wrap64 (x8 + 1)) x9 (wrap64 (x10 + 1))) else (if x10 ≤ (wrap64 (x10 + 1)) then (if (wrap64 (x10 + 1)) ≤ (x7.size : Int) then (if x9.size + (x7.extract (x10 : Int).toNat ((wrap64 (x10 + 1)) : Int).toNat).size ≤ 9223372036854775807 then (flaillaw02_LinesCounts.l1 k x3 x4 x5 x7 x8 (x9 ++ (x7.extract (x10 : Int).toNat ((wrap64 (x10 + 1)) : Int).toNat)) (wrap64 (x10 + 1))) else (none)) else (none)) else (none))) else (none)) else (if x3 = true then (if x8 = x4 then (some (x9.toList == x5.toList)) else (some false)) else (some false))
end
def flaillaw02_LinesCounts.f (k : Nat) (a0 : ByteArray) : Option (Bool) := (flaillaw02_awake.f).bind fun t127 => (if (a0.size : Int) > 300 then (some t127) else (flaillaw02_LinesCounts.l0 k a0 t127 0 (⟨#[]⟩ : ByteArray) 0))
theorem flaillaw02_LinesCounts.mono_l : ∀ k, (∀ y0 y1 y2 y3 y4, LeO (flaillaw02_LinesCounts.l0 k y0 y1 y2 y3 y4) (flaillaw02_LinesCounts.l0 (k + 1) y0 y1 y2 y3 y4)) ∧ (∀ y0 y1 y2 y3 y4 y5 y6, LeO (flaillaw02_LinesCounts.l1 k y0 y1 y2 y3 y4 y5 y6) (flaillaw02_LinesCounts.l1 (k + 1) y0 y1 y2 y3 y4 y5 y6))
  | 0 => ⟨fun _ _ _ _ _ r h => by simp [flaillaw02_LinesCounts.l0] at h, fun _ _ _ _ _ _ _ r h => by simp [flaillaw02_LinesCounts.l1] at h⟩
  | k + 1 => by
    obtain ⟨ih0, ih1⟩ := flaillaw02_LinesCounts.mono_l k
    refine ⟨?_, ?_⟩
    · intro y0 y1 y2 y3 y4
      unfold flaillaw02_LinesCounts.l0
      repeat' first
      | (with_reducible exact ih0 _ _ _ _ _)
      | (with_reducible exact ih1 _ _ _ _ _ _ _)
      | (with_reducible exact LeO.refl _)
      | (with_reducible exact LeO.none _)
      | (with_reducible refine LeO.ite ?_ ?_)
      | (with_reducible refine LeO.bind ?_ (fun _ => ?_))
      | exact ih0 _ _ _ _ _
      | exact ih1 _ _ _ _ _ _ _
      | exact LeO.none _
      | refine LeO.ite ?_ ?_
      | refine LeO.bind ?_ (fun _ => ?_)
    · intro y0 y1 y2 y3 y4 y5 y6
      unfold flaillaw02_LinesCounts.l1
      repeat' first
      | (with_reducible exact ih0 _ _ _ _ _)
      | (with_reducible exact ih1 _ _ _ _ _ _ _)
      | (with_reducible exact LeO.refl _)
      | (with_reducible exact LeO.none _)
      | (with_reducible refine LeO.ite ?_ ?_)
      | (with_reducible refine LeO.bind ?_ (fun _ => ?_))
      | exact ih0 _ _ _ _ _
      | exact ih1 _ _ _ _ _ _ _
      | exact LeO.none _
      | refine LeO.ite ?_ ?_
      | refine LeO.bind ?_ (fun _ => ?_)
theorem flaillaw02_LinesCounts.mono : ∀ a0 k, LeO (flaillaw02_LinesCounts.f k a0) (flaillaw02_LinesCounts.f (k + 1) a0) := by
  intro a0 k
  obtain ⟨ih0, ih1⟩ := flaillaw02_LinesCounts.mono_l k
  unfold flaillaw02_LinesCounts.f
  repeat' first
      | (with_reducible exact ih0 _ _ _ _ _)
      | (with_reducible exact ih1 _ _ _ _ _ _ _)
      | (with_reducible exact LeO.refl _)
      | (with_reducible exact LeO.none _)
      | (with_reducible refine LeO.ite ?_ ?_)
      | (with_reducible refine LeO.bind ?_ (fun _ => ?_))
      | exact ih0 _ _ _ _ _
      | exact ih1 _ _ _ _ _ _ _
      | exact LeO.none _
      | refine LeO.ite ?_ ?_
      | refine LeO.bind ?_ (fun _ => ?_)
set_option maxHeartbeats 8000000 in
set_option maxRecDepth 100000 in
theorem flaillaw02_LinesCounts.calls (k : Nat) (a0 : ByteArray) (r : Bool) (w : World) (hGl : Glob w) (h : flaillaw02_LinesCounts.f k a0 = some r) :
    Calls Tryd.prog 6 #[.string a0] w fun e w' => e = .returned (.bool r) ∧ Below w.heap.size w w' := by
  have HB := Aside0.mk (Below.refl w.heap.size w)
  have H : ((flaillaw02_awake.f).bind fun t127 => (if (a0.size : Int) > 300 then (some t127) else (flaillaw02_LinesCounts.l0 k a0 t127 0 (⟨#[]⟩ : ByteArray) 0))) = some r := h
  clear h
  replace H := Option.bind_eq_some_iff.mp H
  obtain ⟨t127, A20, H⟩ := H
  replace H : (if (a0.size : Int) > 300 then (some t127) else (flaillaw02_LinesCounts.l0 k a0 t127 0 (⟨#[]⟩ : ByteArray) 0)) = some r := H
  have A2 := Aside0.mk A20
  clear A20
  by_cases c3 : (a0.size : Int) > 300
  · rw [if_pos c3] at H
    have c3b0 : decide (300 < (a0.size : Int)) = true := decide_eq_true c3
    have c3b1 : decide (300 < a0.size) = true := decide_eq_true (by omega)
    clear c3
    obtain rfl := Option.some.inj H
    go_enter Tryd.func6, Tryd.ntmps6
    go_wp2_with (first | ((with_reducible refine gate_callee (f := 26) rfl ?_); refine goesL_ (some 11) rfl rfl Tryd.func26 (by kernel_rfl) rfl #[] rfl (by (try simp only [List.map_toArray, List.map_cons, List.map_nil]); first | done | rfl | (simp only [List.length_drop, List.length_take]; rfl)) ?_; (with_reducible refine (flaillaw02_awake.calls  t127 _ ?side1 A2.out).mono ?_); (case side1 => exact Glob.step hGl (by repeat (first | (with_reducible first | exact HB.out | apply below_alloc | apply pw_below_drewN | apply below_drew1) | exact HB.out))); rintro e w4 ⟨rfl, hb⟩; refine ⟨_, rfl, ?_⟩; have n0_ := Aside0.mk (below_step (by repeat (first | (with_reducible first | exact HB.out | apply below_alloc | apply pw_below_drewN | apply below_drew1) | exact HB.out)) hb); clear HB; have HB := n0_; clear n0_; (try clear hb); (try clear hb2); (try clear hk); (try clear hi)))
    go_ret
    exact ⟨by first | rfl | (simp [errW_none, errW_some] <;> rfl) | (simp [*, errW_none, errW_some] <;> rfl), by repeat (first | (with_reducible first | exact HB.out | apply below_alloc | apply pw_below_drewN | apply below_drew1) | exact HB.out)⟩
  · rw [if_neg c3] at H
    have c3b0 : decide (300 < (a0.size : Int)) = false := decide_eq_false c3
    have c3b1 : decide (300 < a0.size) = false := decide_eq_false (by omega)
    clear c3
    have H' := Aside0.mk H
    clear H
    go_enter Tryd.func6, Tryd.ntmps6
    go_wp2_with (first | ((with_reducible refine gate_callee (f := 26) rfl ?_); refine goesL_ (some 11) rfl rfl Tryd.func26 (by kernel_rfl) rfl #[] rfl (by (try simp only [List.map_toArray, List.map_cons, List.map_nil]); first | done | rfl | (simp only [List.length_drop, List.length_take]; rfl)) ?_; (with_reducible refine (flaillaw02_awake.calls  t127 _ ?side1 A2.out).mono ?_); (case side1 => exact Glob.step hGl (by repeat (first | (with_reducible first | exact HB.out | apply below_alloc | apply pw_below_drewN | apply below_drew1) | exact HB.out))); rintro e w5 ⟨rfl, hb⟩; refine ⟨_, rfl, ?_⟩; have n0_ := Aside0.mk (below_step (by repeat (first | (with_reducible first | exact HB.out | apply below_alloc | apply pw_below_drewN | apply below_drew1) | exact HB.out)) hb); clear HB; have HB := n0_; clear n0_; (try clear hb); (try clear hb2); (try clear hk); (try clear hi)))
    go_loopg [4, 5, 6] k (fun kq v4 v5 v6 w' => ∃ (x4_1 : Int) (x5_1 : ByteArray) (x6_1 : Int), v4 = .int .i64 x4_1 ∧ v5 = .string x5_1 ∧ v6 = .int .i64 x6_1 ∧ Aside0 (flaillaw02_LinesCounts.l0 kq a0 t127 x4_1 x5_1 x6_1 = some r) ∧ Aside0 (kq ≤ k) ∧ Aside0 (Below w.heap.size w w'))
    case atStart => exact ⟨(0), ((⟨#[]⟩ : ByteArray)), (0), (by first | rfl | (simp; done) | (simp [*]; done)), (by first | rfl | (simp; done) | (simp [*]; done)), (by first | rfl | (simp; done) | (simp [*]; done)), H', ⟨Nat.le_refl _⟩, ⟨by repeat (first | (with_reducible first | exact HB.out | apply below_alloc | apply pw_below_drewN | apply below_drew1) | exact HB.out)⟩⟩
    case round =>
      clear H'
      try clear c2
      try clear p2
      try clear c3
      try clear c3b0
      try clear c3b1
      obtain ⟨x4_1, x5_1, x6_1, rfl, rfl, rfl, HA, HK1, HB⟩ := hrel
      cases gk with
      | zero => exact absurd HA.out (by simp [flaillaw02_LinesCounts.l0])
      | succ k1 =>
        have H := HA.out
        clear HA
        simp only [flaillaw02_LinesCounts.l0] at H
        by_cases c6 : x6_1 < (a0.size : Int)
        · rw [if_pos c6] at H
          have c6b0 : decide (x6_1 < (a0.size : Int)) = true := decide_eq_true c6
          clear c6
          by_cases c7 : 0 ≤ x6_1
          · rw [if_pos c7] at H
            have c7b0 : decide (0 ≤ x6_1) = true := decide_eq_true c7
            clear c7
            by_cases c9 : (bt a0 x6_1) = 13
            · rw [if_pos c9] at H
              have c9b0 : ((bt a0 x6_1) == 13) = true := beq_iff_eq.mpr c9
              have c9b1 : ((bt a0 x6_1) != 13) = false := bne_eq_false_iff_eq.mpr c9
              clear c9
              have H' := Aside0.mk H
              clear H
              have p8 : 0 ≤ (x6_1 : Int) := of_decide_eq_true (by first | (with_reducible assumption) | assumption)
              have q8 : x6_1 < (a0.size : Int) := of_decide_eq_true (by first | (with_reducible assumption) | assumption)
              have hx8 := bt_at a0 x6_1
              replace p8 := eq_true p8
              replace q8 := eq_true q8
              go_wp2
              go_roundg k1
              case measure => have := HK1.out; omega
              case rel => exact ⟨(wrap64 (x4_1 + 1)), (x5_1), (wrap64 (x6_1 + 1)), (by first | rfl | (simp; done) | (simp [*]; done)), (by first | rfl | (simp; done) | (simp [*]; done)), (by first | rfl | (simp; done) | (simp [*]; done)), H', ⟨by have := HK1.out; omega⟩, ⟨by repeat (first | (with_reducible first | exact HB.out | apply below_alloc | apply pw_below_drewN | apply below_drew1) | exact HB.out)⟩⟩
            · rw [if_neg c9] at H
              have c9b0 : ((bt a0 x6_1) == 13) = false := beq_eq_false_iff_ne.mpr c9
              have c9b1 : ((bt a0 x6_1) != 13) = true := bne_iff_ne.mpr c9
              by_cases c11 : (bt a0 x6_1) = 10
              · rw [if_pos c11] at H
                have c11b0 : ((bt a0 x6_1) == 10) = true := beq_iff_eq.mpr c11
                have c11b1 : ((bt a0 x6_1) != 10) = false := bne_eq_false_iff_eq.mpr c11
                clear c11
                by_cases c12 : x6_1 = 0
                · rw [if_pos c12] at H
                  have c12b0 : (x6_1 == 0) = true := beq_iff_eq.mpr c12
                  have c12b1 : (x6_1 != 0) = false := bne_eq_false_iff_eq.mpr c12
                  clear c12
                  have H' := Aside0.mk H
                  clear H
                  have p8 : 0 ≤ (x6_1 : Int) := of_decide_eq_true (by first | (with_reducible assumption) | assumption)
                  have q8 : x6_1 < (a0.size : Int) := of_decide_eq_true (by first | (with_reducible assumption) | assumption)
                  have hx8 := bt_at a0 x6_1
                  replace p8 := eq_true p8
                  replace q8 := eq_true q8
                  have p10 : 0 ≤ (x6_1 : Int) := of_decide_eq_true (by first | (with_reducible assumption) | assumption)
                  have q10 : x6_1 < (a0.size : Int) := of_decide_eq_true (by first | (with_reducible assumption) | assumption)
                  have hx10 := bt_at a0 x6_1
                  replace p10 := eq_true p10
                  replace q10 := eq_true q10
                  go_wp2
                  go_roundg k1
                  case measure => have := HK1.out; omega
                  case rel => exact ⟨(wrap64 (x4_1 + 1)), (x5_1), (wrap64 (x6_1 + 1)), (by first | rfl | (simp; done) | (simp [*]; done)), (by first | rfl | (simp; done) | (simp [*]; done)), (by first | rfl | (simp; done) | (simp [*]; done)), H', ⟨by have := HK1.out; omega⟩, ⟨by repeat (first | (with_reducible first | exact HB.out | apply below_alloc | apply pw_below_drewN | apply below_drew1) | exact HB.out)⟩⟩
                · rw [if_neg c12] at H
                  have c12b0 : (x6_1 == 0) = false := beq_eq_false_iff_ne.mpr c12
                  have c12b1 : (x6_1 != 0) = true := bne_iff_ne.mpr c12
                  obtain ⟨ji13, hji13⟩ : ∃ j_ : Int, (wrap64 (x6_1 - 1)) = j_ := ⟨_, rfl⟩
                  replace H : (if 0 ≤ (ji13) then (if (ji13) < (a0.size : Int) then (if (bt a0 (ji13)) = 13 then (flaillaw02_LinesCounts.l0 k1 a0 t127 x4_1 x5_1 (wrap64 (x6_1 + 1))) else (flaillaw02_LinesCounts.l0 k1 a0 t127 (wrap64 (x4_1 + 1)) x5_1 (wrap64 (x6_1 + 1)))) else (none)) else (none)) = some r := by first | (rw [hji13] at H; exact H) | (simp only [hji13] at H ⊢; exact H)
                  have hji13w : (IntKind.i64.wrap (x6_1 - 1)) = ji13 := (i64_w _).trans hji13
                  by_cases c14 : 0 ≤ (ji13)
                  · rw [if_pos c14] at H
                    have c14b0 : decide (0 ≤ (ji13)) = true := decide_eq_true c14
                    clear c14
                    by_cases c15 : (ji13) < (a0.size : Int)
                    · rw [if_pos c15] at H
                      have c15b0 : decide ((ji13) < (a0.size : Int)) = true := decide_eq_true c15
                      clear c15
                      by_cases c17 : (bt a0 (ji13)) = 13
                      · rw [if_pos c17] at H
                        have c17b0 : ((bt a0 (ji13)) == 13) = true := beq_iff_eq.mpr c17
                        have c17b1 : ((bt a0 (ji13)) != 13) = false := bne_eq_false_iff_eq.mpr c17
                        clear c17
                        have H' := Aside0.mk H
                        clear H
                        have p8 : 0 ≤ (x6_1 : Int) := of_decide_eq_true (by first | (with_reducible assumption) | assumption)
                        have q8 : x6_1 < (a0.size : Int) := of_decide_eq_true (by first | (with_reducible assumption) | assumption)
                        have hx8 := bt_at a0 x6_1
                        replace p8 := eq_true p8
                        replace q8 := eq_true q8
                        have p10 : 0 ≤ (x6_1 : Int) := of_decide_eq_true (by first | (with_reducible assumption) | assumption)
                        have q10 : x6_1 < (a0.size : Int) := of_decide_eq_true (by first | (with_reducible assumption) | assumption)
                        have hx10 := bt_at a0 x6_1
                        replace p10 := eq_true p10
                        replace q10 := eq_true q10
                        have p16 : 0 ≤ ((ji13) : Int) := of_decide_eq_true (by first | (with_reducible assumption) | assumption)
                        have q16 : (ji13) < (a0.size : Int) := of_decide_eq_true (by first | (with_reducible assumption) | assumption)
                        have hx16 := bt_at a0 (ji13)
                        replace p16 := eq_true p16
                        replace q16 := eq_true q16
                        go_wp2
                        go_roundg k1
                        case measure => have := HK1.out; omega
                        case rel => exact ⟨(x4_1), (x5_1), (wrap64 (x6_1 + 1)), (by first | rfl | (simp; done) | (simp [*]; done)), (by first | rfl | (simp; done) | (simp [*]; done)), (by first | rfl | (simp; done) | (simp [*]; done)), H', ⟨by have := HK1.out; omega⟩, ⟨by repeat (first | (with_reducible first | exact HB.out | apply below_alloc | apply pw_below_drewN | apply below_drew1) | exact HB.out)⟩⟩
                      · rw [if_neg c17] at H
                        have c17b0 : ((bt a0 (ji13)) == 13) = false := beq_eq_false_iff_ne.mpr c17
                        have c17b1 : ((bt a0 (ji13)) != 13) = true := bne_iff_ne.mpr c17
                        have H' := Aside0.mk H
                        clear H
                        have p8 : 0 ≤ (x6_1 : Int) := of_decide_eq_true (by first | (with_reducible assumption) | assumption)
                        have q8 : x6_1 < (a0.size : Int) := of_decide_eq_true (by first | (with_reducible assumption) | assumption)
                        have hx8 := bt_at a0 x6_1
                        replace p8 := eq_true p8
                        replace q8 := eq_true q8
                        have p10 : 0 ≤ (x6_1 : Int) := of_decide_eq_true (by first | (with_reducible assumption) | assumption)
                        have q10 : x6_1 < (a0.size : Int) := of_decide_eq_true (by first | (with_reducible assumption) | assumption)
                        have hx10 := bt_at a0 x6_1
                        replace p10 := eq_true p10
                        replace q10 := eq_true q10
                        have p16 : 0 ≤ ((ji13) : Int) := of_decide_eq_true (by first | (with_reducible assumption) | assumption)
                        have q16 : (ji13) < (a0.size : Int) := of_decide_eq_true (by first | (with_reducible assumption) | assumption)
                        have hx16 := bt_at a0 (ji13)
                        replace p16 := eq_true p16
                        replace q16 := eq_true q16
                        go_wp2
                        go_roundg k1
                        case measure => have := HK1.out; omega
                        case rel => exact ⟨(wrap64 (x4_1 + 1)), (x5_1), (wrap64 (x6_1 + 1)), (by first | rfl | (simp; done) | (simp [*]; done)), (by first | rfl | (simp; done) | (simp [*]; done)), (by first | rfl | (simp; done) | (simp [*]; done)), H', ⟨by have := HK1.out; omega⟩, ⟨by repeat (first | (with_reducible first | exact HB.out | apply below_alloc | apply pw_below_drewN | apply below_drew1) | exact HB.out)⟩⟩
                    · rw [if_neg c15] at H
                      exact absurd H (by simp)
                  · rw [if_neg c14] at H
                    exact absurd H (by simp)
              · rw [if_neg c11] at H
                have c11b0 : ((bt a0 x6_1) == 10) = false := beq_eq_false_iff_ne.mpr c11
                have c11b1 : ((bt a0 x6_1) != 10) = true := bne_iff_ne.mpr c11
                have c18b0 := eq_true (of_decide_eq_true (by first | (with_reducible assumption) | assumption) : 0 ≤ x6_1)
                by_cases c19 : x6_1 ≤ (wrap64 (x6_1 + 1))
                · rw [if_pos c19] at H
                  have c19b0 := eq_true c19
                  have c19b1 : decide (x6_1 ≤ (wrap64 (x6_1 + 1))) = true := decide_eq_true c19
                  by_cases c20 : (wrap64 (x6_1 + 1)) ≤ (a0.size : Int)
                  · rw [if_pos c20] at H
                    have c20b0 := eq_true c20
                    have c20b1 : decide ((wrap64 (x6_1 + 1)) ≤ (a0.size : Int)) = true := decide_eq_true c20
                    by_cases c21 : x5_1.size + (a0.extract (x6_1 : Int).toNat ((wrap64 (x6_1 + 1)) : Int).toNat).size ≤ 9223372036854775807
                    · rw [if_pos c21] at H
                      have c21b0 := eq_true c21
                      have c21b1 : decide (x5_1.size + (a0.extract (x6_1 : Int).toNat ((wrap64 (x6_1 + 1)) : Int).toNat).size ≤ 9223372036854775807) = true := decide_eq_true c21
                      try have c21b2 : (9223372036854775807 < x5_1.size + (a0.extract (x6_1 : Int).toNat ((wrap64 (x6_1 + 1)) : Int).toNat).size) = False := eq_false (Nat.not_lt.2 c21)
                      have H' := Aside0.mk H
                      clear H
                      have p8 : 0 ≤ (x6_1 : Int) := of_decide_eq_true (by first | (with_reducible assumption) | assumption)
                      have q8 : x6_1 < (a0.size : Int) := of_decide_eq_true (by first | (with_reducible assumption) | assumption)
                      have hx8 := bt_at a0 x6_1
                      replace p8 := eq_true p8
                      replace q8 := eq_true q8
                      have p10 : 0 ≤ (x6_1 : Int) := of_decide_eq_true (by first | (with_reducible assumption) | assumption)
                      have q10 : x6_1 < (a0.size : Int) := of_decide_eq_true (by first | (with_reducible assumption) | assumption)
                      have hx10 := bt_at a0 x6_1
                      replace p10 := eq_true p10
                      replace q10 := eq_true q10
                      go_wp2
                      go_roundg k1
                      case measure => have := HK1.out; omega
                      case rel => exact ⟨(x4_1), (x5_1 ++ (a0.extract (x6_1 : Int).toNat ((wrap64 (x6_1 + 1)) : Int).toNat)), (wrap64 (x6_1 + 1)), (by first | rfl | (simp; done) | (simp [*]; done)), (by first | rfl | (simp; done) | (simp [*]; done)), (by first | rfl | (simp; done) | (simp [*]; done)), H', ⟨by have := HK1.out; omega⟩, ⟨by repeat (first | (with_reducible first | exact HB.out | apply below_alloc | apply pw_below_drewN | apply below_drew1) | exact HB.out)⟩⟩
                    · rw [if_neg c21] at H
                      exact absurd H (by simp)
                  · rw [if_neg c20] at H
                    exact absurd H (by simp)
                · rw [if_neg c19] at H
                  exact absurd H (by simp)
          · rw [if_neg c7] at H
            exact absurd H (by simp)
        · rw [if_neg c6] at H
          have c6b0 : decide (x6_1 < (a0.size : Int)) = false := decide_eq_false c6
          clear c6
          replace H := Option.bind_eq_some_iff.mp H
          obtain ⟨t128, A220, H⟩ := H
          replace H : (flaillaw02_LinesCounts.l1 k1 t127 x4_1 x5_1 t128 0 (⟨#[]⟩ : ByteArray) 0) = some r := H
          have A22 := Aside0.mk A220
          clear A220
          have H' := Aside0.mk H
          clear H
          go_wp2_with (first | ((with_reducible refine gate_callee (f := 27) rfl ?_); refine goesL_ (some 55) rfl rfl Tryd.func27 (by kernel_rfl) rfl #[.string a0] rfl (by (try simp only [List.map_toArray, List.map_cons, List.map_nil]); first | done | rfl | (simp only [List.length_drop, List.length_take]; rfl)) ?_; (with_reducible refine (lines_Norm.calls a0 t128 _ A22.out).mono ?_); rintro e w23 ⟨rfl, hb⟩; refine ⟨_, rfl, ?_⟩; have n0_ := Aside0.mk (below_step (by repeat (first | (with_reducible first | exact HB.out | apply below_alloc | apply pw_below_drewN | apply below_drew1) | exact HB.out)) hb); clear HB; have HB := n0_; clear n0_; (try clear hb); (try clear hb2); (try clear hk); (try clear hi)))
          go_loopg [8, 9, 10] k1 (fun kq v8 v9 v10 w' => ∃ (x8_2 : Int) (x9_2 : ByteArray) (x10_2 : Int), v8 = .int .i64 x8_2 ∧ v9 = .string x9_2 ∧ v10 = .int .i64 x10_2 ∧ Aside0 (flaillaw02_LinesCounts.l1 kq t127 x4_1 x5_1 t128 x8_2 x9_2 x10_2 = some r) ∧ Aside0 (kq ≤ k1) ∧ Aside0 (Below w.heap.size w w'))
          case atStart => exact ⟨(0), ((⟨#[]⟩ : ByteArray)), (0), (by first | rfl | (simp; done) | (simp [*]; done)), (by first | rfl | (simp; done) | (simp [*]; done)), (by first | rfl | (simp; done) | (simp [*]; done)), H', ⟨Nat.le_refl _⟩, ⟨by repeat (first | (with_reducible first | exact HB.out | apply below_alloc | apply pw_below_drewN | apply below_drew1) | exact HB.out)⟩⟩
          case round =>
            clear H'
            try clear c1
            try clear p1
            try clear q1
            try clear hx1
            try clear c2
            try clear p2
            try clear c3
            try clear c3b0
            try clear c3b1
            try clear c6
            try clear c6b0
            try clear p6
            try clear c7
            try clear c7b0
            try clear p8
            try clear q8
            try clear hx8
            try clear c9
            try clear c9b0
            try clear c9b1
            try clear p10
            try clear q10
            try clear hx10
            try clear c11
            try clear c11b0
            try clear c11b1
            try clear c12
            try clear c12b0
            try clear c12b1
            try clear c14
            try clear c14b0
            try clear c15
            try clear c15b0
            try clear p16
            try clear q16
            try clear hx16
            try clear c17
            try clear c17b0
            try clear c17b1
            try clear c18
            try clear c18b0
            try clear c19
            try clear c19b0
            try clear c19b1
            try clear c20
            try clear c20b0
            try clear c20b1
            try clear c21
            try clear c21b0
            try clear c21b1
            try clear c21b2
            try clear p10
            try clear p16
            try clear p2
            try clear p8
            try clear q10
            try clear q16
            try clear q8
            obtain ⟨x8_2, x9_2, x10_2, rfl, rfl, rfl, HA, HK2, HB⟩ := hrel
            cases gk with
            | zero => exact absurd HA.out (by simp [flaillaw02_LinesCounts.l1])
            | succ k2 =>
              have H := HA.out
              clear HA
              simp only [flaillaw02_LinesCounts.l1] at H
              by_cases c24 : x10_2 < (t128.size : Int)
              · rw [if_pos c24] at H
                have c24b0 : decide (x10_2 < (t128.size : Int)) = true := decide_eq_true c24
                clear c24
                by_cases c25 : 0 ≤ x10_2
                · rw [if_pos c25] at H
                  have c25b0 : decide (0 ≤ x10_2) = true := decide_eq_true c25
                  clear c25
                  by_cases c27 : (bt t128 x10_2) = 10
                  · rw [if_pos c27] at H
                    have c27b0 : ((bt t128 x10_2) == 10) = true := beq_iff_eq.mpr c27
                    have c27b1 : ((bt t128 x10_2) != 10) = false := bne_eq_false_iff_eq.mpr c27
                    clear c27
                    have H' := Aside0.mk H
                    clear H
                    have p26 : 0 ≤ (x10_2 : Int) := of_decide_eq_true (by first | (with_reducible assumption) | assumption)
                    have q26 : x10_2 < (t128.size : Int) := of_decide_eq_true (by first | (with_reducible assumption) | assumption)
                    have hx26 := bt_at t128 x10_2
                    replace p26 := eq_true p26
                    replace q26 := eq_true q26
                    go_wp2
                    go_roundg k2
                    case measure => have := HK1.out; have := HK2.out; omega
                    case rel => exact ⟨(wrap64 (x8_2 + 1)), (x9_2), (wrap64 (x10_2 + 1)), (by first | rfl | (simp; done) | (simp [*]; done)), (by first | rfl | (simp; done) | (simp [*]; done)), (by first | rfl | (simp; done) | (simp [*]; done)), H', ⟨by have := HK1.out; have := HK2.out; omega⟩, ⟨by repeat (first | (with_reducible first | exact HB.out | apply below_alloc | apply pw_below_drewN | apply below_drew1) | exact HB.out)⟩⟩
                  · rw [if_neg c27] at H
                    have c27b0 : ((bt t128 x10_2) == 10) = false := beq_eq_false_iff_ne.mpr c27
                    have c27b1 : ((bt t128 x10_2) != 10) = true := bne_iff_ne.mpr c27
                    have c28b0 := eq_true (of_decide_eq_true (by first | (with_reducible assumption) | assumption) : 0 ≤ x10_2)
                    by_cases c29 : x10_2 ≤ (wrap64 (x10_2 + 1))
                    · rw [if_pos c29] at H
                      have c29b0 := eq_true c29
                      have c29b1 : decide (x10_2 ≤ (wrap64 (x10_2 + 1))) = true := decide_eq_true c29
                      by_cases c30 : (wrap64 (x10_2 + 1)) ≤ (t128.size : Int)
                      · rw [if_pos c30] at H
                        have c30b0 := eq_true c30
                        have c30b1 : decide ((wrap64 (x10_2 + 1)) ≤ (t128.size : Int)) = true := decide_eq_true c30
                        by_cases c31 : x9_2.size + (t128.extract (x10_2 : Int).toNat ((wrap64 (x10_2 + 1)) : Int).toNat).size ≤ 9223372036854775807
                        · rw [if_pos c31] at H
                          have c31b0 := eq_true c31
                          have c31b1 : decide (x9_2.size + (t128.extract (x10_2 : Int).toNat ((wrap64 (x10_2 + 1)) : Int).toNat).size ≤ 9223372036854775807) = true := decide_eq_true c31
                          try have c31b2 : (9223372036854775807 < x9_2.size + (t128.extract (x10_2 : Int).toNat ((wrap64 (x10_2 + 1)) : Int).toNat).size) = False := eq_false (Nat.not_lt.2 c31)
                          have H' := Aside0.mk H
                          clear H
                          have p26 : 0 ≤ (x10_2 : Int) := of_decide_eq_true (by first | (with_reducible assumption) | assumption)
                          have q26 : x10_2 < (t128.size : Int) := of_decide_eq_true (by first | (with_reducible assumption) | assumption)
                          have hx26 := bt_at t128 x10_2
                          replace p26 := eq_true p26
                          replace q26 := eq_true q26
                          go_wp2
                          go_roundg k2
                          case measure => have := HK1.out; have := HK2.out; omega
                          case rel => exact ⟨(x8_2), (x9_2 ++ (t128.extract (x10_2 : Int).toNat ((wrap64 (x10_2 + 1)) : Int).toNat)), (wrap64 (x10_2 + 1)), (by first | rfl | (simp; done) | (simp [*]; done)), (by first | rfl | (simp; done) | (simp [*]; done)), (by first | rfl | (simp; done) | (simp [*]; done)), H', ⟨by have := HK1.out; have := HK2.out; omega⟩, ⟨by repeat (first | (with_reducible first | exact HB.out | apply below_alloc | apply pw_below_drewN | apply below_drew1) | exact HB.out)⟩⟩
                        · rw [if_neg c31] at H
                          exact absurd H (by simp)
                      · rw [if_neg c30] at H
                        exact absurd H (by simp)
                    · rw [if_neg c29] at H
                      exact absurd H (by simp)
                · rw [if_neg c25] at H
                  exact absurd H (by simp)
              · rw [if_neg c24] at H
                have c24b0 : decide (x10_2 < (t128.size : Int)) = false := decide_eq_false c24
                clear c24
                by_cases c32 : t127 = true
                · subst c32
                  have H1 : (if x8_2 = x4_1 then (some (x9_2.toList == x5_1.toList)) else (some false)) = some r := by rw [if_pos rfl] at H; exact H
                  clear H
                  have H := H1
                  clear H1
                  by_cases c33 : x8_2 = x4_1
                  · rw [if_pos c33] at H
                    have c33b0 : (x8_2 == x4_1) = true := beq_iff_eq.mpr c33
                    have c33b1 : (x8_2 != x4_1) = false := bne_eq_false_iff_eq.mpr c33
                    clear c33
                    obtain rfl := Option.some.inj H
                    go_wp2
                    go_ret
                    exact ⟨by first | rfl | (simp [errW_none, errW_some] <;> rfl) | (simp [*, errW_none, errW_some] <;> rfl), by repeat (first | (with_reducible first | exact HB.out | apply below_alloc | apply pw_below_drewN | apply below_drew1) | exact HB.out)⟩
                  · rw [if_neg c33] at H
                    have c33b0 : (x8_2 == x4_1) = false := beq_eq_false_iff_ne.mpr c33
                    have c33b1 : (x8_2 != x4_1) = true := bne_iff_ne.mpr c33
                    obtain rfl := Option.some.inj H
                    go_wp2
                    go_ret
                    exact ⟨by first | rfl | (simp [errW_none, errW_some] <;> rfl) | (simp [*, errW_none, errW_some] <;> rfl), by repeat (first | (with_reducible first | exact HB.out | apply below_alloc | apply pw_below_drewN | apply below_drew1) | exact HB.out)⟩
                · replace c32 := Bool.eq_false_iff.mpr c32
                  subst c32
                  have H1 : (some false) = some r := by rw [if_neg (show ¬ (false = true) by decide)] at H; exact H
                  clear H
                  have H := H1
                  clear H1
                  obtain rfl := Option.some.inj H
                  go_wp2
                  go_ret
                  exact ⟨by first | rfl | (simp [errW_none, errW_some] <;> rfl) | (simp [*, errW_none, errW_some] <;> rfl), by repeat (first | (with_reducible first | exact HB.out | apply below_alloc | apply pw_below_drewN | apply below_drew1) | exact HB.out)⟩

/-- THE ONE PURE STATEMENT of flaillaw02_LinesCounts: yours. -/
def flaillaw02_LinesCounts.Pure : Prop := ∀ (a0 : ByteArray), a0.size ≤ 140737488351232 → ∃ k, flaillaw02_LinesCounts.f k a0 = some true
theorem flaillaw02_LinesCounts.walk (P : flaillaw02_LinesCounts.Pure) (a0 : ByteArray) (w : World) (w0 : a0.size ≤ 140737488351232) (hGl : Glob w) :
    Calls Tryd.prog 6 #[.string a0] w fun e w' => e = .returned (.bool true) ∧ Below w.heap.size w w' := by
  obtain ⟨k, h⟩ := P a0 w0
  refine (flaillaw02_LinesCounts.calls k a0 true w hGl h).mono ?_
  rintro e w' ⟨rfl, hd⟩
  exact ⟨rfl, hd⟩

/-! ### flaillaw02_LinesKeep: function 7 -/
def flaillaw02_LinesKeep.l0 : Nat → ByteArray → Bool → Bool → Bool → Int → Option (Bool)
  | 0, _, _, _, _, _ => none
  | k + 1, x0, x3, x4, x5, x6 => if x6 < (x0.size : Int) then (if x4 = true then (if x5 = true then (flaillaw02_LinesKeep.l0 k x0 x3 true true (wrap64 (x6 + 1))) else (if 0 ≤ x6 then (flaillaw02_LinesKeep.l0 k x0 x3 true ((bt x0 x6) == 0) (wrap64 (x6 + 1))) else (none))) else (if 0 ≤ x6 then (if x5 = true then (flaillaw02_LinesKeep.l0 k x0 x3 ((bt x0 x6) == 13) true (wrap64 (x6 + 1))) else (flaillaw02_LinesKeep.l0 k x0 x3 ((bt x0 x6) == 13) ((bt x0 x6) == 0) (wrap64 (x6 + 1)))) else (none))) else (if x3 = true then ((lines_Norm.f x0).bind fun t130 => (if ((t130.toList == x0.toList) == (!x4)) = true then ((lines_Clean.f x0).bind fun t131 => (if ((t131.toList == x0.toList) == (!x5)) = true then ((lines_Norm.f t131).bind fun t132 => ((lines_Clean.f t130).bind fun t133 => (some (t132.toList == t133.toList)))) else (some false))) else (some false))) else (some false))
def flaillaw02_LinesKeep.f (k : Nat) (a0 : ByteArray) : Option (Bool) := (flaillaw02_awake.f).bind fun t129 => (if (a0.size : Int) > 300 then (some t129) else (flaillaw02_LinesKeep.l0 k a0 t129 false false 0))
theorem flaillaw02_LinesKeep.mono_l : ∀ k, (∀ y0 y1 y2 y3 y4, LeO (flaillaw02_LinesKeep.l0 k y0 y1 y2 y3 y4) (flaillaw02_LinesKeep.l0 (k + 1) y0 y1 y2 y3 y4))
  | 0 => fun _ _ _ _ _ r h => by simp [flaillaw02_LinesKeep.l0] at h
  | k + 1 => by
    have ih0 := flaillaw02_LinesKeep.mono_l k
    · intro y0 y1 y2 y3 y4
      unfold flaillaw02_LinesKeep.l0
      repeat' first
      | (with_reducible exact ih0 _ _ _ _ _)
      | (with_reducible exact LeO.refl _)
      | (with_reducible exact LeO.none _)
      | (with_reducible refine LeO.ite ?_ ?_)
      | (with_reducible refine LeO.bind ?_ (fun _ => ?_))
      | exact ih0 _ _ _ _ _
      | exact LeO.none _
      | refine LeO.ite ?_ ?_
      | refine LeO.bind ?_ (fun _ => ?_)
theorem flaillaw02_LinesKeep.mono : ∀ a0 k, LeO (flaillaw02_LinesKeep.f k a0) (flaillaw02_LinesKeep.f (k + 1) a0) := by
  intro a0 k
  have ih0 := flaillaw02_LinesKeep.mono_l k
  unfold flaillaw02_LinesKeep.f
  repeat' first
      | (with_reducible exact ih0 _ _ _ _ _)
      | (with_reducible exact LeO.refl _)
      | (with_reducible exact LeO.none _)
      | (with_reducible refine LeO.ite ?_ ?_)
      | (with_reducible refine LeO.bind ?_ (fun _ => ?_))
      | exact ih0 _ _ _ _ _
      | exact LeO.none _
      | refine LeO.ite ?_ ?_
      | refine LeO.bind ?_ (fun _ => ?_)
set_option maxHeartbeats 8000000 in
set_option maxRecDepth 100000 in
theorem flaillaw02_LinesKeep.calls (k : Nat) (a0 : ByteArray) (r : Bool) (w : World) (hGl : Glob w) (h : flaillaw02_LinesKeep.f k a0 = some r) :
    Calls Tryd.prog 7 #[.string a0] w fun e w' => e = .returned (.bool r) ∧ Below w.heap.size w w' := by
  have HB := Aside0.mk (Below.refl w.heap.size w)
  have H : ((flaillaw02_awake.f).bind fun t129 => (if (a0.size : Int) > 300 then (some t129) else (flaillaw02_LinesKeep.l0 k a0 t129 false false 0))) = some r := h
  clear h
  replace H := Option.bind_eq_some_iff.mp H
  obtain ⟨t129, A20, H⟩ := H
  replace H : (if (a0.size : Int) > 300 then (some t129) else (flaillaw02_LinesKeep.l0 k a0 t129 false false 0)) = some r := H
  have A2 := Aside0.mk A20
  clear A20
  by_cases c3 : (a0.size : Int) > 300
  · rw [if_pos c3] at H
    have c3b0 : decide (300 < (a0.size : Int)) = true := decide_eq_true c3
    have c3b1 : decide (300 < a0.size) = true := decide_eq_true (by omega)
    clear c3
    obtain rfl := Option.some.inj H
    go_enter Tryd.func7, Tryd.ntmps7
    go_wp2_with (first | ((with_reducible refine gate_callee (f := 26) rfl ?_); refine goesL_ (some 7) rfl rfl Tryd.func26 (by kernel_rfl) rfl #[] rfl (by (try simp only [List.map_toArray, List.map_cons, List.map_nil]); first | done | rfl | (simp only [List.length_drop, List.length_take]; rfl)) ?_; (with_reducible refine (flaillaw02_awake.calls  t129 _ ?side1 A2.out).mono ?_); (case side1 => exact Glob.step hGl (by repeat (first | (with_reducible first | exact HB.out | apply below_alloc | apply pw_below_drewN | apply below_drew1) | exact HB.out))); rintro e w4 ⟨rfl, hb⟩; refine ⟨_, rfl, ?_⟩; have n0_ := Aside0.mk (below_step (by repeat (first | (with_reducible first | exact HB.out | apply below_alloc | apply pw_below_drewN | apply below_drew1) | exact HB.out)) hb); clear HB; have HB := n0_; clear n0_; (try clear hb); (try clear hb2); (try clear hk); (try clear hi)))
    go_ret
    exact ⟨by first | rfl | (simp [errW_none, errW_some] <;> rfl) | (simp [*, errW_none, errW_some] <;> rfl), by repeat (first | (with_reducible first | exact HB.out | apply below_alloc | apply pw_below_drewN | apply below_drew1) | exact HB.out)⟩
  · rw [if_neg c3] at H
    have c3b0 : decide (300 < (a0.size : Int)) = false := decide_eq_false c3
    have c3b1 : decide (300 < a0.size) = false := decide_eq_false (by omega)
    clear c3
    have H' := Aside0.mk H
    clear H
    go_enter Tryd.func7, Tryd.ntmps7
    go_wp2_with (first | ((with_reducible refine gate_callee (f := 26) rfl ?_); refine goesL_ (some 7) rfl rfl Tryd.func26 (by kernel_rfl) rfl #[] rfl (by (try simp only [List.map_toArray, List.map_cons, List.map_nil]); first | done | rfl | (simp only [List.length_drop, List.length_take]; rfl)) ?_; (with_reducible refine (flaillaw02_awake.calls  t129 _ ?side1 A2.out).mono ?_); (case side1 => exact Glob.step hGl (by repeat (first | (with_reducible first | exact HB.out | apply below_alloc | apply pw_below_drewN | apply below_drew1) | exact HB.out))); rintro e w5 ⟨rfl, hb⟩; refine ⟨_, rfl, ?_⟩; have n0_ := Aside0.mk (below_step (by repeat (first | (with_reducible first | exact HB.out | apply below_alloc | apply pw_below_drewN | apply below_drew1) | exact HB.out)) hb); clear HB; have HB := n0_; clear n0_; (try clear hb); (try clear hb2); (try clear hk); (try clear hi)))
    go_loopg [4, 5, 6] k (fun kq v4 v5 v6 w' => ∃ (x4_1 : Bool) (x5_1 : Bool) (x6_1 : Int), v4 = .bool x4_1 ∧ v5 = .bool x5_1 ∧ v6 = .int .i64 x6_1 ∧ Aside0 (flaillaw02_LinesKeep.l0 kq a0 t129 x4_1 x5_1 x6_1 = some r) ∧ Aside0 (kq ≤ k) ∧ Aside0 (Below w.heap.size w w'))
    case atStart => exact ⟨(false), (false), (0), (by first | rfl | (simp; done) | (simp [*]; done)), (by first | rfl | (simp; done) | (simp [*]; done)), (by first | rfl | (simp; done) | (simp [*]; done)), H', ⟨Nat.le_refl _⟩, ⟨by repeat (first | (with_reducible first | exact HB.out | apply below_alloc | apply pw_below_drewN | apply below_drew1) | exact HB.out)⟩⟩
    case round =>
      clear H'
      try clear c2
      try clear p2
      try clear c3
      try clear c3b0
      try clear c3b1
      obtain ⟨x4_1, x5_1, x6_1, rfl, rfl, rfl, HA, HK1, HB⟩ := hrel
      cases gk with
      | zero => exact absurd HA.out (by simp [flaillaw02_LinesKeep.l0])
      | succ k1 =>
        have H := HA.out
        clear HA
        simp only [flaillaw02_LinesKeep.l0] at H
        by_cases c6 : x6_1 < (a0.size : Int)
        · rw [if_pos c6] at H
          have c6b0 : decide (x6_1 < (a0.size : Int)) = true := decide_eq_true c6
          clear c6
          by_cases c7 : x4_1 = true
          · subst c7
            have H1 : (if x5_1 = true then (flaillaw02_LinesKeep.l0 k1 a0 t129 true true (wrap64 (x6_1 + 1))) else (if 0 ≤ x6_1 then (flaillaw02_LinesKeep.l0 k1 a0 t129 true ((bt a0 x6_1) == 0) (wrap64 (x6_1 + 1))) else (none))) = some r := by rw [if_pos rfl] at H; exact H
            clear H
            have H := H1
            clear H1
            by_cases c8 : x5_1 = true
            · subst c8
              have H1 : (flaillaw02_LinesKeep.l0 k1 a0 t129 true true (wrap64 (x6_1 + 1))) = some r := by rw [if_pos rfl] at H; exact H
              clear H
              have H := H1
              clear H1
              have H' := Aside0.mk H
              clear H
              go_wp2
              go_roundg k1
              case measure => have := HK1.out; omega
              case rel => exact ⟨(true), (true), (wrap64 (x6_1 + 1)), (by first | rfl | (simp; done) | (simp [*]; done)), (by first | rfl | (simp; done) | (simp [*]; done)), (by first | rfl | (simp; done) | (simp [*]; done)), H', ⟨by have := HK1.out; omega⟩, ⟨by repeat (first | (with_reducible first | exact HB.out | apply below_alloc | apply pw_below_drewN | apply below_drew1) | exact HB.out)⟩⟩
            · replace c8 := Bool.eq_false_iff.mpr c8
              subst c8
              have H1 : (if 0 ≤ x6_1 then (flaillaw02_LinesKeep.l0 k1 a0 t129 true ((bt a0 x6_1) == 0) (wrap64 (x6_1 + 1))) else (none)) = some r := by rw [if_neg (show ¬ (false = true) by decide)] at H; exact H
              clear H
              have H := H1
              clear H1
              by_cases c9 : 0 ≤ x6_1
              · rw [if_pos c9] at H
                have c9b0 : decide (0 ≤ x6_1) = true := decide_eq_true c9
                clear c9
                have H' := Aside0.mk H
                clear H
                have p10 : 0 ≤ (x6_1 : Int) := of_decide_eq_true (by first | (with_reducible assumption) | assumption)
                have q10 : x6_1 < (a0.size : Int) := of_decide_eq_true (by first | (with_reducible assumption) | assumption)
                have hx10 := bt_at a0 x6_1
                replace p10 := eq_true p10
                replace q10 := eq_true q10
                go_wp2
                go_roundg k1
                case measure => have := HK1.out; omega
                case rel => exact ⟨(true), (((bt a0 x6_1) == 0)), (wrap64 (x6_1 + 1)), (by first | rfl | (simp; done) | (simp [*]; done)), (by first | rfl | (simp; done) | (simp [*]; done)), (by first | rfl | (simp; done) | (simp [*]; done)), H', ⟨by have := HK1.out; omega⟩, ⟨by repeat (first | (with_reducible first | exact HB.out | apply below_alloc | apply pw_below_drewN | apply below_drew1) | exact HB.out)⟩⟩
              · rw [if_neg c9] at H
                exact absurd H (by simp)
          · replace c7 := Bool.eq_false_iff.mpr c7
            subst c7
            have H1 : (if 0 ≤ x6_1 then (if x5_1 = true then (flaillaw02_LinesKeep.l0 k1 a0 t129 ((bt a0 x6_1) == 13) true (wrap64 (x6_1 + 1))) else (flaillaw02_LinesKeep.l0 k1 a0 t129 ((bt a0 x6_1) == 13) ((bt a0 x6_1) == 0) (wrap64 (x6_1 + 1)))) else (none)) = some r := by rw [if_neg (show ¬ (false = true) by decide)] at H; exact H
            clear H
            have H := H1
            clear H1
            by_cases c11 : 0 ≤ x6_1
            · rw [if_pos c11] at H
              have c11b0 : decide (0 ≤ x6_1) = true := decide_eq_true c11
              clear c11
              by_cases c13 : x5_1 = true
              · subst c13
                have H1 : (flaillaw02_LinesKeep.l0 k1 a0 t129 ((bt a0 x6_1) == 13) true (wrap64 (x6_1 + 1))) = some r := by rw [if_pos rfl] at H; exact H
                clear H
                have H := H1
                clear H1
                have H' := Aside0.mk H
                clear H
                have p12 : 0 ≤ (x6_1 : Int) := of_decide_eq_true (by first | (with_reducible assumption) | assumption)
                have q12 : x6_1 < (a0.size : Int) := of_decide_eq_true (by first | (with_reducible assumption) | assumption)
                have hx12 := bt_at a0 x6_1
                replace p12 := eq_true p12
                replace q12 := eq_true q12
                go_wp2
                go_roundg k1
                case measure => have := HK1.out; omega
                case rel => exact ⟨(((bt a0 x6_1) == 13)), (true), (wrap64 (x6_1 + 1)), (by first | rfl | (simp; done) | (simp [*]; done)), (by first | rfl | (simp; done) | (simp [*]; done)), (by first | rfl | (simp; done) | (simp [*]; done)), H', ⟨by have := HK1.out; omega⟩, ⟨by repeat (first | (with_reducible first | exact HB.out | apply below_alloc | apply pw_below_drewN | apply below_drew1) | exact HB.out)⟩⟩
              · replace c13 := Bool.eq_false_iff.mpr c13
                subst c13
                have H1 : (flaillaw02_LinesKeep.l0 k1 a0 t129 ((bt a0 x6_1) == 13) ((bt a0 x6_1) == 0) (wrap64 (x6_1 + 1))) = some r := by rw [if_neg (show ¬ (false = true) by decide)] at H; exact H
                clear H
                have H := H1
                clear H1
                have H' := Aside0.mk H
                clear H
                have p12 : 0 ≤ (x6_1 : Int) := of_decide_eq_true (by first | (with_reducible assumption) | assumption)
                have q12 : x6_1 < (a0.size : Int) := of_decide_eq_true (by first | (with_reducible assumption) | assumption)
                have hx12 := bt_at a0 x6_1
                replace p12 := eq_true p12
                replace q12 := eq_true q12
                have p14 : 0 ≤ (x6_1 : Int) := of_decide_eq_true (by first | (with_reducible assumption) | assumption)
                have q14 : x6_1 < (a0.size : Int) := of_decide_eq_true (by first | (with_reducible assumption) | assumption)
                have hx14 := bt_at a0 x6_1
                replace p14 := eq_true p14
                replace q14 := eq_true q14
                go_wp2
                go_roundg k1
                case measure => have := HK1.out; omega
                case rel => exact ⟨(((bt a0 x6_1) == 13)), (((bt a0 x6_1) == 0)), (wrap64 (x6_1 + 1)), (by first | rfl | (simp; done) | (simp [*]; done)), (by first | rfl | (simp; done) | (simp [*]; done)), (by first | rfl | (simp; done) | (simp [*]; done)), H', ⟨by have := HK1.out; omega⟩, ⟨by repeat (first | (with_reducible first | exact HB.out | apply below_alloc | apply pw_below_drewN | apply below_drew1) | exact HB.out)⟩⟩
            · rw [if_neg c11] at H
              exact absurd H (by simp)
        · rw [if_neg c6] at H
          have c6b0 : decide (x6_1 < (a0.size : Int)) = false := decide_eq_false c6
          clear c6
          by_cases c15 : t129 = true
          · subst c15
            have H1 : ((lines_Norm.f a0).bind fun t130 => (if ((t130.toList == a0.toList) == (!x4_1)) = true then ((lines_Clean.f a0).bind fun t131 => (if ((t131.toList == a0.toList) == (!x5_1)) = true then ((lines_Norm.f t131).bind fun t132 => ((lines_Clean.f t130).bind fun t133 => (some (t132.toList == t133.toList)))) else (some false))) else (some false))) = some r := by rw [if_pos rfl] at H; exact H
            clear H
            have H := H1
            clear H1
            replace H := Option.bind_eq_some_iff.mp H
            obtain ⟨t130, A160, H⟩ := H
            replace H : (if ((t130.toList == a0.toList) == (!x4_1)) = true then ((lines_Clean.f a0).bind fun t131 => (if ((t131.toList == a0.toList) == (!x5_1)) = true then ((lines_Norm.f t131).bind fun t132 => ((lines_Clean.f t130).bind fun t133 => (some (t132.toList == t133.toList)))) else (some false))) else (some false)) = some r := H
            have A16 := Aside0.mk A160
            clear A160
            by_cases c17 : ((t130.toList == a0.toList) == (!x4_1)) = true
            · rw [if_pos c17] at H
              have c17b0 : ((t130.toList == a0.toList) == (!x4_1)) = true := c17
              (try (have c17b1 : decide ((t130.toList == a0.toList) = (!x4_1)) = true := by simpa using c17))
              (try (have c17b2 : ((t130.toList == a0.toList) == (!x4_1)) = true := by simpa using c17))
              clear c17
              replace H := Option.bind_eq_some_iff.mp H
              obtain ⟨t131, A180, H⟩ := H
              replace H : (if ((t131.toList == a0.toList) == (!x5_1)) = true then ((lines_Norm.f t131).bind fun t132 => ((lines_Clean.f t130).bind fun t133 => (some (t132.toList == t133.toList)))) else (some false)) = some r := H
              have A18 := Aside0.mk A180
              clear A180
              by_cases c19 : ((t131.toList == a0.toList) == (!x5_1)) = true
              · rw [if_pos c19] at H
                have c19b0 : ((t131.toList == a0.toList) == (!x5_1)) = true := c19
                (try (have c19b1 : decide ((t131.toList == a0.toList) = (!x5_1)) = true := by simpa using c19))
                (try (have c19b2 : ((t131.toList == a0.toList) == (!x5_1)) = true := by simpa using c19))
                clear c19
                replace H := Option.bind_eq_some_iff.mp H
                obtain ⟨t132, A200, H⟩ := H
                replace H : ((lines_Clean.f t130).bind fun t133 => (some (t132.toList == t133.toList))) = some r := H
                have A20 := Aside0.mk A200
                clear A200
                replace H := Option.bind_eq_some_iff.mp H
                obtain ⟨t133, A210, H⟩ := H
                replace H : (some (t132.toList == t133.toList)) = some r := H
                have A21 := Aside0.mk A210
                clear A210
                obtain rfl := Option.some.inj H
                go_wp2_with (first | (go_at_call 27; (with_reducible refine (lines_Norm.calls a0 t130 _ A16.out).mono ?_); rintro e w22 ⟨rfl, hb⟩; have n0_ := Aside0.mk (below_step (by repeat (first | (with_reducible first | exact HB.out | apply below_alloc | apply pw_below_drewN | apply below_drew1) | exact HB.out)) hb); clear HB; have HB := n0_; clear n0_; (try clear hb); (try clear hb2); (try clear hk); (try clear hi)) | (go_at_call 29; (with_reducible refine (lines_Clean.calls a0 t131 _ ?side1 A18.out).mono ?_); (case side1 => exact Glob.step hGl (by repeat (first | (with_reducible first | exact HB.out | apply below_alloc | apply pw_below_drewN | apply below_drew1) | exact HB.out))); rintro e w23 ⟨rfl, hb⟩; have n0_ := Aside0.mk (below_step (by repeat (first | (with_reducible first | exact HB.out | apply below_alloc | apply pw_below_drewN | apply below_drew1) | exact HB.out)) hb); clear HB; have HB := n0_; clear n0_; (try clear hb); (try clear hb2); (try clear hk); (try clear hi)) | (go_at_call 27; (with_reducible refine (lines_Norm.calls t131 t132 _ A20.out).mono ?_); rintro e w24 ⟨rfl, hb⟩; have n0_ := Aside0.mk (below_step (by repeat (first | (with_reducible first | exact HB.out | apply below_alloc | apply pw_below_drewN | apply below_drew1) | exact HB.out)) hb); clear HB; have HB := n0_; clear n0_; (try clear hb); (try clear hb2); (try clear hk); (try clear hi)) | (go_at_call 29; (with_reducible refine (lines_Clean.calls t130 t133 _ ?side1 A21.out).mono ?_); (case side1 => exact Glob.step hGl (by repeat (first | (with_reducible first | exact HB.out | apply below_alloc | apply pw_below_drewN | apply below_drew1) | exact HB.out))); rintro e w25 ⟨rfl, hb⟩; have n0_ := Aside0.mk (below_step (by repeat (first | (with_reducible first | exact HB.out | apply below_alloc | apply pw_below_drewN | apply below_drew1) | exact HB.out)) hb); clear HB; have HB := n0_; clear n0_; (try clear hb); (try clear hb2); (try clear hk); (try clear hi)))
                go_ret
                exact ⟨by first | rfl | (simp [errW_none, errW_some] <;> rfl) | (simp [*, errW_none, errW_some] <;> rfl), by repeat (first | (with_reducible first | exact HB.out | apply below_alloc | apply pw_below_drewN | apply below_drew1) | exact HB.out)⟩
              · rw [if_neg c19] at H
                have c19b0 : ((t131.toList == a0.toList) == (!x5_1)) = false := by simpa using c19
                (try (have c19b1 : decide ((t131.toList == a0.toList) = (!x5_1)) = false := by simpa using c19))
                (try (have c19b2 : ((t131.toList == a0.toList) == (!x5_1)) = false := by simpa using c19))
                (try (have c19b3 : ¬ ((t131.toList == a0.toList) = (!x5_1)) := by simpa using c19))
                clear c19
                obtain rfl := Option.some.inj H
                go_wp2_with (first | (go_at_call 27; (with_reducible refine (lines_Norm.calls a0 t130 _ A16.out).mono ?_); rintro e w26 ⟨rfl, hb⟩; have n0_ := Aside0.mk (below_step (by repeat (first | (with_reducible first | exact HB.out | apply below_alloc | apply pw_below_drewN | apply below_drew1) | exact HB.out)) hb); clear HB; have HB := n0_; clear n0_; (try clear hb); (try clear hb2); (try clear hk); (try clear hi)) | (go_at_call 29; (with_reducible refine (lines_Clean.calls a0 t131 _ ?side1 A18.out).mono ?_); (case side1 => exact Glob.step hGl (by repeat (first | (with_reducible first | exact HB.out | apply below_alloc | apply pw_below_drewN | apply below_drew1) | exact HB.out))); rintro e w27 ⟨rfl, hb⟩; have n0_ := Aside0.mk (below_step (by repeat (first | (with_reducible first | exact HB.out | apply below_alloc | apply pw_below_drewN | apply below_drew1) | exact HB.out)) hb); clear HB; have HB := n0_; clear n0_; (try clear hb); (try clear hb2); (try clear hk); (try clear hi)))
                go_ret
                exact ⟨by first | rfl | (simp [errW_none, errW_some] <;> rfl) | (simp [*, errW_none, errW_some] <;> rfl), by repeat (first | (with_reducible first | exact HB.out | apply below_alloc | apply pw_below_drewN | apply below_drew1) | exact HB.out)⟩
            · rw [if_neg c17] at H
              have c17b0 : ((t130.toList == a0.toList) == (!x4_1)) = false := by simpa using c17
              (try (have c17b1 : decide ((t130.toList == a0.toList) = (!x4_1)) = false := by simpa using c17))
              (try (have c17b2 : ((t130.toList == a0.toList) == (!x4_1)) = false := by simpa using c17))
              (try (have c17b3 : ¬ ((t130.toList == a0.toList) = (!x4_1)) := by simpa using c17))
              clear c17
              obtain rfl := Option.some.inj H
              go_wp2_with (first | (go_at_call 27; (with_reducible refine (lines_Norm.calls a0 t130 _ A16.out).mono ?_); rintro e w28 ⟨rfl, hb⟩; have n0_ := Aside0.mk (below_step (by repeat (first | (with_reducible first | exact HB.out | apply below_alloc | apply pw_below_drewN | apply below_drew1) | exact HB.out)) hb); clear HB; have HB := n0_; clear n0_; (try clear hb); (try clear hb2); (try clear hk); (try clear hi)))
              go_ret
              exact ⟨by first | rfl | (simp [errW_none, errW_some] <;> rfl) | (simp [*, errW_none, errW_some] <;> rfl), by repeat (first | (with_reducible first | exact HB.out | apply below_alloc | apply pw_below_drewN | apply below_drew1) | exact HB.out)⟩
          · replace c15 := Bool.eq_false_iff.mpr c15
            subst c15
            have H1 : (some false) = some r := by rw [if_neg (show ¬ (false = true) by decide)] at H; exact H
            clear H
            have H := H1
            clear H1
            obtain rfl := Option.some.inj H
            go_wp2
            go_ret
            exact ⟨by first | rfl | (simp [errW_none, errW_some] <;> rfl) | (simp [*, errW_none, errW_some] <;> rfl), by repeat (first | (with_reducible first | exact HB.out | apply below_alloc | apply pw_below_drewN | apply below_drew1) | exact HB.out)⟩

/-- THE ONE PURE STATEMENT of flaillaw02_LinesKeep: yours. -/
def flaillaw02_LinesKeep.Pure : Prop := ∀ (a0 : ByteArray), a0.size ≤ 140737488351232 → ∃ k, flaillaw02_LinesKeep.f k a0 = some true
theorem flaillaw02_LinesKeep.walk (P : flaillaw02_LinesKeep.Pure) (a0 : ByteArray) (w : World) (w0 : a0.size ≤ 140737488351232) (hGl : Glob w) :
    Calls Tryd.prog 7 #[.string a0] w fun e w' => e = .returned (.bool true) ∧ Below w.heap.size w w' := by
  obtain ⟨k, h⟩ := P a0 w0
  refine (flaillaw02_LinesKeep.calls k a0 true w hGl h).mono ?_
  rintro e w' ⟨rfl, hd⟩
  exact ⟨rfl, hd⟩

end Go.Proofs.YtppaobgccdlccaaDoor.Pr
