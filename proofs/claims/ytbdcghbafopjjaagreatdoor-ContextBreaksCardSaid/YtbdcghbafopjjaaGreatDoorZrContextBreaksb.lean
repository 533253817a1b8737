/-
  Texts of the claim ContextBreaks, merged by a program of this session (2).
-/
import Derived.Test.YtbdcghbafopjjaaGreatDoorZrContextBreaksa
section
namespace Go.Proofs.YtbdcghbafopjjaaGreatDoor.Sp
open Go.RowKit Go.Proofs.YtbdcghbafopjjaaGreatDoor.K0 Go.Proofs.YtbdcghbafopjjaaGreatDoor.Hand Go.Proofs.YtbdcghbafopjjaaGreatDoor.Sa Go.Proofs.YtbdcghbafopjjaaGreatDoorW.PrintWords Go.Proofs.YtbdcghbafopjjaaGreatDoorW.PrintLast Go.Proofs.YtbdcghbafopjjaaGreatDoorW.PrintMore
attribute [local go_sem] max2_int min2_int max_two min_two max_three min_three max_four min_four  
set_option linter.unusedVariables false
set_option linter.unusedSimpArgs false
noncomputable def flaillaw23_ContextBreaks.l0 : Nat → ByteArray → Bool → Int → Option (Bool)
  | 0, _, _, _ => none
  | k + 1, x0, x3, x4 => if x4 < (x0.size : Int) then (if 0 ≤ x4 then (if (bt x0 x4) = 60 then (some x3) else (if (bt x0 x4) = 62 then (some x3) else (if (bt x0 x4) = 34 then (some x3) else (if (bt x0 x4) = 39 then (some x3) else (if (bt x0 x4) = 38 then (some x3) else (flaillaw23_ContextBreaks.l0 k x0 x3 (wrap64 (x4 + 1)))))))) else (none)) else (if x0.size + 3 ≤ 9223372036854775807 then ((context_Parse.f 0 false (x0 ++ (⟨#[60, 98, 62]⟩ : ByteArray))).bind fun bt112 => (if x0.size + 5 ≤ 9223372036854775807 then ((context_Parse.f 1 false (x0 ++ (⟨#[34, 32, 121, 61, 34]⟩ : ByteArray))).bind fun bt114 => ((context_Parse.f 1 true (x0 ++ (⟨#[39, 32, 121, 61, 39]⟩ : ByteArray))).bind fun bt116 => (if x0.size + 14 ≤ 9223372036854775807 then ((context_Parse.f 2 false (x0 ++ (⟨#[60, 47, 116, 101, 120, 116, 97, 114, 101, 97, 62, 60, 98, 62]⟩ : ByteArray))).bind fun bt118 => ((context_Parse.f 1 false (x0 ++ (⟨#[39, 32, 121, 61, 39]⟩ : ByteArray))).bind fun bt120 => (if 1 + x0.size ≤ 9223372036854775807 then (if ((⟨#[97]⟩ : ByteArray) ++ x0).size + 3 ≤ 9223372036854775807 then ((context_Parse.f 2 false (((⟨#[97]⟩ : ByteArray) ++ x0) ++ (⟨#[60, 98, 62]⟩ : ByteArray))).bind fun bt122 => (if x3 = true then (if bt112.2 = true then (some false) else (if bt114.2 = true then (some false) else (if bt116.2 = true then (some false) else (if bt118.2 = true then (some false) else (if bt120.2 = true then (if bt122.2 = true then ((lines_Norm.f x0).bind fun t124 => ((lines_Clean.f t124).bind fun t125 => (if t125.size + 5 ≤ 9223372036854775807 then (if bt120.1.toList = (t125 ++ (⟨#[39, 32, 121, 61, 39]⟩ : ByteArray)).toList then (if 1 + t125.size ≤ 9223372036854775807 then (if ((⟨#[97]⟩ : ByteArray) ++ t125).size + 3 ≤ 9223372036854775807 then (some (bt122.1.toList == (((⟨#[97]⟩ : ByteArray) ++ t125) ++ (⟨#[60, 98, 62]⟩ : ByteArray)).toList)) else (none)) else (none)) else (some false)) else (none)))) else (some false)) else (some false)))))) else (some false))) else (none)) else (none)))) else (none)))) else (none))) else (none))
noncomputable def flaillaw23_ContextBreaks.f (k : Nat) (a0 : ByteArray) : Option (Bool) := (flaillaw23_awake.f).bind fun t111 => (if (a0.size : Int) > 300 then (some t111) else (flaillaw23_ContextBreaks.l0 k a0 t111 0))
set_option maxHeartbeats 8000000 in
set_option maxRecDepth 100000 in
theorem flaillaw23_ContextBreaks.calls (k : Nat) (a0 : ByteArray) (r : Bool) (w : World) (hGl : Glob w) (h : flaillaw23_ContextBreaks.f k a0 = some r) :
    Calls Tryz.prog 6 #[.string a0] w fun e w' => e = .returned (.bool r) ∧ Below w.heap.size w w' := by
  have HB := Aside0.mk (Below.refl w.heap.size w)
  have H : ((flaillaw23_awake.f).bind fun t111 => (if (a0.size : Int) > 300 then (some t111) else (flaillaw23_ContextBreaks.l0 k a0 t111 0))) = some r := h
  clear h
  replace H := Option.bind_eq_some_iff.mp H
  obtain ⟨t111, A20, H⟩ := H
  replace H : (if (a0.size : Int) > 300 then (some t111) else (flaillaw23_ContextBreaks.l0 k a0 t111 0)) = some r := H
  have A2 := Aside0.mk A20
  clear A20
  by_cases c3 : (a0.size : Int) > 300
  · rw [if_pos c3] at H
    have c3b0 : decide (300 < (a0.size : Int)) = true := decide_eq_true c3
    have c3b1 : decide (300 < a0.size) = true := decide_eq_true (by omega)
    clear c3
    obtain rfl := Option.some.inj H
    go_enter Tryz.func6, Tryz.ntmps6
    go_wp2_with (first | ((with_reducible refine gate_callee (f := 17) rfl ?_); refine goesL_ (some 17) rfl rfl Tryz.func17 (by kernel_rfl) rfl #[] rfl (by (try simp only [List.map_toArray, List.map_cons, List.map_nil]); first | done | rfl | (simp only [List.length_drop, List.length_take]; rfl)) ?_; (with_reducible refine (flaillaw23_awake.calls  t111 _ ?side1 A2.out).mono ?_); (case side1 => exact Glob.step hGl (by repeat (first | (with_reducible first | exact HB.out | apply below_alloc | apply pw_below_drewN | apply below_drew1) | exact HB.out))); rintro e w4 ⟨rfl, hb⟩; refine ⟨_, rfl, ?_⟩; have n0_ := Aside0.mk (below_step (by repeat (first | (with_reducible first | exact HB.out | apply below_alloc | apply pw_below_drewN | apply below_drew1) | exact HB.out)) hb); clear HB; have HB := n0_; clear n0_; (try clear hb); (try clear hb2); (try clear hk); (try clear hi)))
    go_ret
    exact ⟨by first | rfl | (simp [errW_none, errW_some] <;> rfl) | (simp [*, errW_none, errW_some] <;> rfl), by repeat (first | (with_reducible first | exact HB.out | apply below_alloc | apply pw_below_drewN | apply below_drew1) | exact HB.out)⟩
  · rw [if_neg c3] at H
    have c3b0 : decide (300 < (a0.size : Int)) = false := decide_eq_false c3
    have c3b1 : decide (300 < a0.size) = false := decide_eq_false (by omega)
    clear c3
    have H' := Aside0.mk H
    clear H
    go_enter Tryz.func6, Tryz.ntmps6
    go_wp2_with (first | ((with_reducible refine gate_callee (f := 17) rfl ?_); refine goesL_ (some 17) rfl rfl Tryz.func17 (by kernel_rfl) rfl #[] rfl (by (try simp only [List.map_toArray, List.map_cons, List.map_nil]); first | done | rfl | (simp only [List.length_drop, List.length_take]; rfl)) ?_; (with_reducible refine (flaillaw23_awake.calls  t111 _ ?side1 A2.out).mono ?_); (case side1 => exact Glob.step hGl (by repeat (first | (with_reducible first | exact HB.out | apply below_alloc | apply pw_below_drewN | apply below_drew1) | exact HB.out))); rintro e w5 ⟨rfl, hb⟩; refine ⟨_, rfl, ?_⟩; have n0_ := Aside0.mk (below_step (by repeat (first | (with_reducible first | exact HB.out | apply below_alloc | apply pw_below_drewN | apply below_drew1) | exact HB.out)) hb); clear HB; have HB := n0_; clear n0_; (try clear hb); (try clear hb2); (try clear hk); (try clear hi)))
    go_loopg [4] k (fun kq v4 w' => ∃ (x4_1 : Int), v4 = .int .i64 x4_1 ∧ Aside0 (flaillaw23_ContextBreaks.l0 kq a0 t111 x4_1 = some r) ∧ Aside0 (kq ≤ k) ∧ Aside0 (Below w.heap.size w w'))
    case atStart => exact ⟨(0), (by first | rfl | (simp; done) | (simp [*]; done)), H', ⟨Nat.le_refl _⟩, ⟨by repeat (first | (with_reducible first | exact HB.out | apply below_alloc | apply pw_below_drewN | apply below_drew1) | exact HB.out)⟩⟩
    case round =>
      clear H'
      try clear c1
      try clear p2
      try clear c3
      try clear c3b0
      try clear c3b1
      obtain ⟨x4_1, rfl, HA, HK1, HB⟩ := hrel
      cases gk with
      | zero => exact absurd HA.out (by simp [flaillaw23_ContextBreaks.l0])
      | succ k1 =>
        have H := HA.out
        clear HA
        simp only [flaillaw23_ContextBreaks.l0] at H
        by_cases c6 : x4_1 < (a0.size : Int)
        · rw [if_pos c6] at H
          have c6b0 : decide (x4_1 < (a0.size : Int)) = true := decide_eq_true c6
          clear c6
          by_cases c7 : 0 ≤ x4_1
          · rw [if_pos c7] at H
            have c7b0 : decide (0 ≤ x4_1) = true := decide_eq_true c7
            clear c7
            by_cases c9 : (bt a0 x4_1) = 60
            · rw [if_pos c9] at H
              have c9b0 : ((bt a0 x4_1) == 60) = true := beq_iff_eq.mpr c9
              have c9b1 : ((bt a0 x4_1) != 60) = false := bne_eq_false_iff_eq.mpr c9
              clear c9
              obtain rfl := Option.some.inj H
              have p8 : 0 ≤ (x4_1 : Int) := of_decide_eq_true (by first | (with_reducible assumption) | assumption)
              have q8 : x4_1 < (a0.size : Int) := of_decide_eq_true (by first | (with_reducible assumption) | assumption)
              have hx8 := bt_at a0 x4_1
              replace p8 := eq_true p8
              replace q8 := eq_true q8
              go_wp2
              go_ret
              exact ⟨by first | rfl | (simp [errW_none, errW_some] <;> rfl) | (simp [*, errW_none, errW_some] <;> rfl), by repeat (first | (with_reducible first | exact HB.out | apply below_alloc | apply pw_below_drewN | apply below_drew1) | exact HB.out)⟩
            · rw [if_neg c9] at H
              have c9b0 : ((bt a0 x4_1) == 60) = false := beq_eq_false_iff_ne.mpr c9
              have c9b1 : ((bt a0 x4_1) != 60) = true := bne_iff_ne.mpr c9
              by_cases c11 : (bt a0 x4_1) = 62
              · rw [if_pos c11] at H
                have c11b0 : ((bt a0 x4_1) == 62) = true := beq_iff_eq.mpr c11
                have c11b1 : ((bt a0 x4_1) != 62) = false := bne_eq_false_iff_eq.mpr c11
                clear c11
                obtain rfl := Option.some.inj H
                have p8 : 0 ≤ (x4_1 : Int) := of_decide_eq_true (by first | (with_reducible assumption) | assumption)
                have q8 : x4_1 < (a0.size : Int) := of_decide_eq_true (by first | (with_reducible assumption) | assumption)
                have hx8 := bt_at a0 x4_1
                replace p8 := eq_true p8
                replace q8 := eq_true q8
                have p10 : 0 ≤ (x4_1 : Int) := of_decide_eq_true (by first | (with_reducible assumption) | assumption)
                have q10 : x4_1 < (a0.size : Int) := of_decide_eq_true (by first | (with_reducible assumption) | assumption)
                have hx10 := bt_at a0 x4_1
                replace p10 := eq_true p10
                replace q10 := eq_true q10
                go_wp2
                go_ret
                exact ⟨by first | rfl | (simp [errW_none, errW_some] <;> rfl) | (simp [*, errW_none, errW_some] <;> rfl), by repeat (first | (with_reducible first | exact HB.out | apply below_alloc | apply pw_below_drewN | apply below_drew1) | exact HB.out)⟩
              · rw [if_neg c11] at H
                have c11b0 : ((bt a0 x4_1) == 62) = false := beq_eq_false_iff_ne.mpr c11
                have c11b1 : ((bt a0 x4_1) != 62) = true := bne_iff_ne.mpr c11
                by_cases c13 : (bt a0 x4_1) = 34
                · rw [if_pos c13] at H
                  have c13b0 : ((bt a0 x4_1) == 34) = true := beq_iff_eq.mpr c13
                  have c13b1 : ((bt a0 x4_1) != 34) = false := bne_eq_false_iff_eq.mpr c13
                  clear c13
                  obtain rfl := Option.some.inj H
                  have p8 : 0 ≤ (x4_1 : Int) := of_decide_eq_true (by first | (with_reducible assumption) | assumption)
                  have q8 : x4_1 < (a0.size : Int) := of_decide_eq_true (by first | (with_reducible assumption) | assumption)
                  have hx8 := bt_at a0 x4_1
                  replace p8 := eq_true p8
                  replace q8 := eq_true q8
                  have p10 : 0 ≤ (x4_1 : Int) := of_decide_eq_true (by first | (with_reducible assumption) | assumption)
                  have q10 : x4_1 < (a0.size : Int) := of_decide_eq_true (by first | (with_reducible assumption) | assumption)
                  have hx10 := bt_at a0 x4_1
                  replace p10 := eq_true p10
                  replace q10 := eq_true q10
                  have p12 : 0 ≤ (x4_1 : Int) := of_decide_eq_true (by first | (with_reducible assumption) | assumption)
                  have q12 : x4_1 < (a0.size : Int) := of_decide_eq_true (by first | (with_reducible assumption) | assumption)
                  have hx12 := bt_at a0 x4_1
                  replace p12 := eq_true p12
                  replace q12 := eq_true q12
                  go_wp2
                  go_ret
                  exact ⟨by first | rfl | (simp [errW_none, errW_some] <;> rfl) | (simp [*, errW_none, errW_some] <;> rfl), by repeat (first | (with_reducible first | exact HB.out | apply below_alloc | apply pw_below_drewN | apply below_drew1) | exact HB.out)⟩
                · rw [if_neg c13] at H
                  have c13b0 : ((bt a0 x4_1) == 34) = false := beq_eq_false_iff_ne.mpr c13
                  have c13b1 : ((bt a0 x4_1) != 34) = true := bne_iff_ne.mpr c13
                  by_cases c15 : (bt a0 x4_1) = 39
                  · rw [if_pos c15] at H
                    have c15b0 : ((bt a0 x4_1) == 39) = true := beq_iff_eq.mpr c15
                    have c15b1 : ((bt a0 x4_1) != 39) = false := bne_eq_false_iff_eq.mpr c15
                    clear c15
                    obtain rfl := Option.some.inj H
                    have p8 : 0 ≤ (x4_1 : Int) := of_decide_eq_true (by first | (with_reducible assumption) | assumption)
                    have q8 : x4_1 < (a0.size : Int) := of_decide_eq_true (by first | (with_reducible assumption) | assumption)
                    have hx8 := bt_at a0 x4_1
                    replace p8 := eq_true p8
                    replace q8 := eq_true q8
                    have p10 : 0 ≤ (x4_1 : Int) := of_decide_eq_true (by first | (with_reducible assumption) | assumption)
                    have q10 : x4_1 < (a0.size : Int) := of_decide_eq_true (by first | (with_reducible assumption) | assumption)
                    have hx10 := bt_at a0 x4_1
                    replace p10 := eq_true p10
                    replace q10 := eq_true q10
                    have p12 : 0 ≤ (x4_1 : Int) := of_decide_eq_true (by first | (with_reducible assumption) | assumption)
                    have q12 : x4_1 < (a0.size : Int) := of_decide_eq_true (by first | (with_reducible assumption) | assumption)
                    have hx12 := bt_at a0 x4_1
                    replace p12 := eq_true p12
                    replace q12 := eq_true q12
                    have p14 : 0 ≤ (x4_1 : Int) := of_decide_eq_true (by first | (with_reducible assumption) | assumption)
                    have q14 : x4_1 < (a0.size : Int) := of_decide_eq_true (by first | (with_reducible assumption) | assumption)
                    have hx14 := bt_at a0 x4_1
                    replace p14 := eq_true p14
                    replace q14 := eq_true q14
                    go_wp2
                    go_ret
                    exact ⟨by first | rfl | (simp [errW_none, errW_some] <;> rfl) | (simp [*, errW_none, errW_some] <;> rfl), by repeat (first | (with_reducible first | exact HB.out | apply below_alloc | apply pw_below_drewN | apply below_drew1) | exact HB.out)⟩
                  · rw [if_neg c15] at H
                    have c15b0 : ((bt a0 x4_1) == 39) = false := beq_eq_false_iff_ne.mpr c15
                    have c15b1 : ((bt a0 x4_1) != 39) = true := bne_iff_ne.mpr c15
                    by_cases c17 : (bt a0 x4_1) = 38
                    · rw [if_pos c17] at H
                      have c17b0 : ((bt a0 x4_1) == 38) = true := beq_iff_eq.mpr c17
                      have c17b1 : ((bt a0 x4_1) != 38) = false := bne_eq_false_iff_eq.mpr c17
                      clear c17
                      obtain rfl := Option.some.inj H
                      have p8 : 0 ≤ (x4_1 : Int) := of_decide_eq_true (by first | (with_reducible assumption) | assumption)
                      have q8 : x4_1 < (a0.size : Int) := of_decide_eq_true (by first | (with_reducible assumption) | assumption)
                      have hx8 := bt_at a0 x4_1
                      replace p8 := eq_true p8
                      replace q8 := eq_true q8
                      have p10 : 0 ≤ (x4_1 : Int) := of_decide_eq_true (by first | (with_reducible assumption) | assumption)
                      have q10 : x4_1 < (a0.size : Int) := of_decide_eq_true (by first | (with_reducible assumption) | assumption)
                      have hx10 := bt_at a0 x4_1
                      replace p10 := eq_true p10
                      replace q10 := eq_true q10
                      have p12 : 0 ≤ (x4_1 : Int) := of_decide_eq_true (by first | (with_reducible assumption) | assumption)
                      have q12 : x4_1 < (a0.size : Int) := of_decide_eq_true (by first | (with_reducible assumption) | assumption)
                      have hx12 := bt_at a0 x4_1
                      replace p12 := eq_true p12
                      replace q12 := eq_true q12
                      have p14 : 0 ≤ (x4_1 : Int) := of_decide_eq_true (by first | (with_reducible assumption) | assumption)
                      have q14 : x4_1 < (a0.size : Int) := of_decide_eq_true (by first | (with_reducible assumption) | assumption)
                      have hx14 := bt_at a0 x4_1
                      replace p14 := eq_true p14
                      replace q14 := eq_true q14
                      have p16 : 0 ≤ (x4_1 : Int) := of_decide_eq_true (by first | (with_reducible assumption) | assumption)
                      have q16 : x4_1 < (a0.size : Int) := of_decide_eq_true (by first | (with_reducible assumption) | assumption)
                      have hx16 := bt_at a0 x4_1
                      replace p16 := eq_true p16
                      replace q16 := eq_true q16
                      go_wp2
                      go_ret
                      exact ⟨by first | rfl | (simp [errW_none, errW_some] <;> rfl) | (simp [*, errW_none, errW_some] <;> rfl), by repeat (first | (with_reducible first | exact HB.out | apply below_alloc | apply pw_below_drewN | apply below_drew1) | exact HB.out)⟩
                    · rw [if_neg c17] at H
                      have c17b0 : ((bt a0 x4_1) == 38) = false := beq_eq_false_iff_ne.mpr c17
                      have c17b1 : ((bt a0 x4_1) != 38) = true := bne_iff_ne.mpr c17
                      have H' := Aside0.mk H
                      clear H
                      have p8 : 0 ≤ (x4_1 : Int) := of_decide_eq_true (by first | (with_reducible assumption) | assumption)
                      have q8 : x4_1 < (a0.size : Int) := of_decide_eq_true (by first | (with_reducible assumption) | assumption)
                      have hx8 := bt_at a0 x4_1
                      replace p8 := eq_true p8
                      replace q8 := eq_true q8
                      have p10 : 0 ≤ (x4_1 : Int) := of_decide_eq_true (by first | (with_reducible assumption) | assumption)
                      have q10 : x4_1 < (a0.size : Int) := of_decide_eq_true (by first | (with_reducible assumption) | assumption)
                      have hx10 := bt_at a0 x4_1
                      replace p10 := eq_true p10
                      replace q10 := eq_true q10
                      have p12 : 0 ≤ (x4_1 : Int) := of_decide_eq_true (by first | (with_reducible assumption) | assumption)
                      have q12 : x4_1 < (a0.size : Int) := of_decide_eq_true (by first | (with_reducible assumption) | assumption)
                      have hx12 := bt_at a0 x4_1
                      replace p12 := eq_true p12
                      replace q12 := eq_true q12
                      have p14 : 0 ≤ (x4_1 : Int) := of_decide_eq_true (by first | (with_reducible assumption) | assumption)
                      have q14 : x4_1 < (a0.size : Int) := of_decide_eq_true (by first | (with_reducible assumption) | assumption)
                      have hx14 := bt_at a0 x4_1
                      replace p14 := eq_true p14
                      replace q14 := eq_true q14
                      have p16 : 0 ≤ (x4_1 : Int) := of_decide_eq_true (by first | (with_reducible assumption) | assumption)
                      have q16 : x4_1 < (a0.size : Int) := of_decide_eq_true (by first | (with_reducible assumption) | assumption)
                      have hx16 := bt_at a0 x4_1
                      replace p16 := eq_true p16
                      replace q16 := eq_true q16
                      go_wp2
                      go_roundg k1
                      case measure => have := HK1.out; omega
                      case rel => exact ⟨(wrap64 (x4_1 + 1)), (by first | rfl | (simp; done) | (simp [*]; done)), H', ⟨by have := HK1.out; omega⟩, ⟨by repeat (first | (with_reducible first | exact HB.out | apply below_alloc | apply pw_below_drewN | apply below_drew1) | exact HB.out)⟩⟩
          · rw [if_neg c7] at H
            exact absurd H (by simp)
        · rw [if_neg c6] at H
          have c6b0 : decide (x4_1 < (a0.size : Int)) = false := decide_eq_false c6
          clear c6
          by_cases c18 : a0.size + 3 ≤ 9223372036854775807
          · rw [if_pos c18] at H
            have c18b0 := eq_true c18
            have c18b1 : decide (a0.size + 3 ≤ 9223372036854775807) = true := decide_eq_true c18
            try have c18b2 : (9223372036854775807 < a0.size + 3) = False := eq_false (Nat.not_lt.2 c18)
            replace H := Option.bind_eq_some_iff.mp H
            obtain ⟨⟨t112, t113⟩, A190, H⟩ := H
            replace H : (if a0.size + 5 ≤ 9223372036854775807 then ((context_Parse.f 1 false (a0 ++ (⟨#[34, 32, 121, 61, 34]⟩ : ByteArray))).bind fun bt114 => ((context_Parse.f 1 true (a0 ++ (⟨#[39, 32, 121, 61, 39]⟩ : ByteArray))).bind fun bt116 => (if a0.size + 14 ≤ 9223372036854775807 then ((context_Parse.f 2 false (a0 ++ (⟨#[60, 47, 116, 101, 120, 116, 97, 114, 101, 97, 62, 60, 98, 62]⟩ : ByteArray))).bind fun bt118 => ((context_Parse.f 1 false (a0 ++ (⟨#[39, 32, 121, 61, 39]⟩ : ByteArray))).bind fun bt120 => (if 1 + a0.size ≤ 9223372036854775807 then (if ((⟨#[97]⟩ : ByteArray) ++ a0).size + 3 ≤ 9223372036854775807 then ((context_Parse.f 2 false (((⟨#[97]⟩ : ByteArray) ++ a0) ++ (⟨#[60, 98, 62]⟩ : ByteArray))).bind fun bt122 => (if t111 = true then (if t113 = true then (some false) else (if bt114.2 = true then (some false) else (if bt116.2 = true then (some false) else (if bt118.2 = true then (some false) else (if bt120.2 = true then (if bt122.2 = true then ((lines_Norm.f a0).bind fun t124 => ((lines_Clean.f t124).bind fun t125 => (if t125.size + 5 ≤ 9223372036854775807 then (if bt120.1.toList = (t125 ++ (⟨#[39, 32, 121, 61, 39]⟩ : ByteArray)).toList then (if 1 + t125.size ≤ 9223372036854775807 then (if ((⟨#[97]⟩ : ByteArray) ++ t125).size + 3 ≤ 9223372036854775807 then (some (bt122.1.toList == (((⟨#[97]⟩ : ByteArray) ++ t125) ++ (⟨#[60, 98, 62]⟩ : ByteArray)).toList)) else (none)) else (none)) else (some false)) else (none)))) else (some false)) else (some false)))))) else (some false))) else (none)) else (none)))) else (none)))) else (none)) = some r := H
            have A19 := Aside0.mk A190
            clear A190
            by_cases c20 : a0.size + 5 ≤ 9223372036854775807
            · rw [if_pos c20] at H
              have c20b0 := eq_true c20
              have c20b1 : decide (a0.size + 5 ≤ 9223372036854775807) = true := decide_eq_true c20
              try have c20b2 : (9223372036854775807 < a0.size + 5) = False := eq_false (Nat.not_lt.2 c20)
              replace H := Option.bind_eq_some_iff.mp H
              obtain ⟨⟨t114, t115⟩, A210, H⟩ := H
              replace H : ((context_Parse.f 1 true (a0 ++ (⟨#[39, 32, 121, 61, 39]⟩ : ByteArray))).bind fun bt116 => (if a0.size + 14 ≤ 9223372036854775807 then ((context_Parse.f 2 false (a0 ++ (⟨#[60, 47, 116, 101, 120, 116, 97, 114, 101, 97, 62, 60, 98, 62]⟩ : ByteArray))).bind fun bt118 => ((context_Parse.f 1 false (a0 ++ (⟨#[39, 32, 121, 61, 39]⟩ : ByteArray))).bind fun bt120 => (if 1 + a0.size ≤ 9223372036854775807 then (if ((⟨#[97]⟩ : ByteArray) ++ a0).size + 3 ≤ 9223372036854775807 then ((context_Parse.f 2 false (((⟨#[97]⟩ : ByteArray) ++ a0) ++ (⟨#[60, 98, 62]⟩ : ByteArray))).bind fun bt122 => (if t111 = true then (if t113 = true then (some false) else (if t115 = true then (some false) else (if bt116.2 = true then (some false) else (if bt118.2 = true then (some false) else (if bt120.2 = true then (if bt122.2 = true then ((lines_Norm.f a0).bind fun t124 => ((lines_Clean.f t124).bind fun t125 => (if t125.size + 5 ≤ 9223372036854775807 then (if bt120.1.toList = (t125 ++ (⟨#[39, 32, 121, 61, 39]⟩ : ByteArray)).toList then (if 1 + t125.size ≤ 9223372036854775807 then (if ((⟨#[97]⟩ : ByteArray) ++ t125).size + 3 ≤ 9223372036854775807 then (some (bt122.1.toList == (((⟨#[97]⟩ : ByteArray) ++ t125) ++ (⟨#[60, 98, 62]⟩ : ByteArray)).toList)) else (none)) else (none)) else (some false)) else (none)))) else (some false)) else (some false)))))) else (some false))) else (none)) else (none)))) else (none))) = some r := H
              have A21 := Aside0.mk A210
              clear A210
              replace H := Option.bind_eq_some_iff.mp H
              obtain ⟨⟨t116, t117⟩, A220, H⟩ := H
              replace H : (if a0.size + 14 ≤ 9223372036854775807 then ((context_Parse.f 2 false (a0 ++ (⟨#[60, 47, 116, 101, 120, 116, 97, 114, 101, 97, 62, 60, 98, 62]⟩ : ByteArray))).bind fun bt118 => ((context_Parse.f 1 false (a0 ++ (⟨#[39, 32, 121, 61, 39]⟩ : ByteArray))).bind fun bt120 => (if 1 + a0.size ≤ 9223372036854775807 then (if ((⟨#[97]⟩ : ByteArray) ++ a0).size + 3 ≤ 9223372036854775807 then ((context_Parse.f 2 false (((⟨#[97]⟩ : ByteArray) ++ a0) ++ (⟨#[60, 98, 62]⟩ : ByteArray))).bind fun bt122 => (if t111 = true then (if t113 = true then (some false) else (if t115 = true then (some false) else (if t117 = true then (some false) else (if bt118.2 = true then (some false) else (if bt120.2 = true then (if bt122.2 = true then ((lines_Norm.f a0).bind fun t124 => ((lines_Clean.f t124).bind fun t125 => (if t125.size + 5 ≤ 9223372036854775807 then (if bt120.1.toList = (t125 ++ (⟨#[39, 32, 121, 61, 39]⟩ : ByteArray)).toList then (if 1 + t125.size ≤ 9223372036854775807 then (if ((⟨#[97]⟩ : ByteArray) ++ t125).size + 3 ≤ 9223372036854775807 then (some (bt122.1.toList == (((⟨#[97]⟩ : ByteArray) ++ t125) ++ (⟨#[60, 98, 62]⟩ : ByteArray)).toList)) else (none)) else (none)) else (some false)) else (none)))) else (some false)) else (some false)))))) else (some false))) else (none)) else (none)))) else (none)) = some r := H
              have A22 := Aside0.mk A220
              clear A220
              by_cases c23 : a0.size + 14 ≤ 9223372036854775807
              · rw [if_pos c23] at H
                have c23b0 := eq_true c23
                have c23b1 : decide (a0.size + 14 ≤ 9223372036854775807) = true := decide_eq_true c23
                try have c23b2 : (9223372036854775807 < a0.size + 14) = False := eq_false (Nat.not_lt.2 c23)
                replace H := Option.bind_eq_some_iff.mp H
                obtain ⟨⟨t118, t119⟩, A240, H⟩ := H
                replace H : ((context_Parse.f 1 false (a0 ++ (⟨#[39, 32, 121, 61, 39]⟩ : ByteArray))).bind fun bt120 => (if 1 + a0.size ≤ 9223372036854775807 then (if ((⟨#[97]⟩ : ByteArray) ++ a0).size + 3 ≤ 9223372036854775807 then ((context_Parse.f 2 false (((⟨#[97]⟩ : ByteArray) ++ a0) ++ (⟨#[60, 98, 62]⟩ : ByteArray))).bind fun bt122 => (if t111 = true then (if t113 = true then (some false) else (if t115 = true then (some false) else (if t117 = true then (some false) else (if t119 = true then (some false) else (if bt120.2 = true then (if bt122.2 = true then ((lines_Norm.f a0).bind fun t124 => ((lines_Clean.f t124).bind fun t125 => (if t125.size + 5 ≤ 9223372036854775807 then (if bt120.1.toList = (t125 ++ (⟨#[39, 32, 121, 61, 39]⟩ : ByteArray)).toList then (if 1 + t125.size ≤ 9223372036854775807 then (if ((⟨#[97]⟩ : ByteArray) ++ t125).size + 3 ≤ 9223372036854775807 then (some (bt122.1.toList == (((⟨#[97]⟩ : ByteArray) ++ t125) ++ (⟨#[60, 98, 62]⟩ : ByteArray)).toList)) else (none)) else (none)) else (some false)) else (none)))) else (some false)) else (some false)))))) else (some false))) else (none)) else (none))) = some r := H
                have A24 := Aside0.mk A240
                clear A240
                replace H := Option.bind_eq_some_iff.mp H
                obtain ⟨⟨t120, t121⟩, A250, H⟩ := H
                replace H : (if 1 + a0.size ≤ 9223372036854775807 then (if ((⟨#[97]⟩ : ByteArray) ++ a0).size + 3 ≤ 9223372036854775807 then ((context_Parse.f 2 false (((⟨#[97]⟩ : ByteArray) ++ a0) ++ (⟨#[60, 98, 62]⟩ : ByteArray))).bind fun bt122 => (if t111 = true then (if t113 = true then (some false) else (if t115 = true then (some false) else (if t117 = true then (some false) else (if t119 = true then (some false) else (if t121 = true then (if bt122.2 = true then ((lines_Norm.f a0).bind fun t124 => ((lines_Clean.f t124).bind fun t125 => (if t125.size + 5 ≤ 9223372036854775807 then (if t120.toList = (t125 ++ (⟨#[39, 32, 121, 61, 39]⟩ : ByteArray)).toList then (if 1 + t125.size ≤ 9223372036854775807 then (if ((⟨#[97]⟩ : ByteArray) ++ t125).size + 3 ≤ 9223372036854775807 then (some (bt122.1.toList == (((⟨#[97]⟩ : ByteArray) ++ t125) ++ (⟨#[60, 98, 62]⟩ : ByteArray)).toList)) else (none)) else (none)) else (some false)) else (none)))) else (some false)) else (some false)))))) else (some false))) else (none)) else (none)) = some r := H
                have A25 := Aside0.mk A250
                clear A250
                by_cases c26 : 1 + a0.size ≤ 9223372036854775807
                · rw [if_pos c26] at H
                  have c26b0 := eq_true c26
                  have c26b1 : decide (1 + a0.size ≤ 9223372036854775807) = true := decide_eq_true c26
                  try have c26b2 : (9223372036854775807 < 1 + a0.size) = False := eq_false (Nat.not_lt.2 c26)
                  by_cases c27 : ((⟨#[97]⟩ : ByteArray) ++ a0).size + 3 ≤ 9223372036854775807
                  · rw [if_pos c27] at H
                    have c27b0 := eq_true c27
                    have c27b1 : decide (((⟨#[97]⟩ : ByteArray) ++ a0).size + 3 ≤ 9223372036854775807) = true := decide_eq_true c27
                    try have c27b2 : (9223372036854775807 < ((⟨#[97]⟩ : ByteArray) ++ a0).size + 3) = False := eq_false (Nat.not_lt.2 c27)
                    replace H := Option.bind_eq_some_iff.mp H
                    obtain ⟨⟨t122, t123⟩, A280, H⟩ := H
                    replace H : (if t111 = true then (if t113 = true then (some false) else (if t115 = true then (some false) else (if t117 = true then (some false) else (if t119 = true then (some false) else (if t121 = true then (if t123 = true then ((lines_Norm.f a0).bind fun t124 => ((lines_Clean.f t124).bind fun t125 => (if t125.size + 5 ≤ 9223372036854775807 then (if t120.toList = (t125 ++ (⟨#[39, 32, 121, 61, 39]⟩ : ByteArray)).toList then (if 1 + t125.size ≤ 9223372036854775807 then (if ((⟨#[97]⟩ : ByteArray) ++ t125).size + 3 ≤ 9223372036854775807 then (some (t122.toList == (((⟨#[97]⟩ : ByteArray) ++ t125) ++ (⟨#[60, 98, 62]⟩ : ByteArray)).toList)) else (none)) else (none)) else (some false)) else (none)))) else (some false)) else (some false)))))) else (some false)) = some r := H
                    have A28 := Aside0.mk A280
                    clear A280
                    by_cases c29 : t111 = true
                    · subst c29
                      have H1 : (if t113 = true then (some false) else (if t115 = true then (some false) else (if t117 = true then (some false) else (if t119 = true then (some false) else (if t121 = true then (if t123 = true then ((lines_Norm.f a0).bind fun t124 => ((lines_Clean.f t124).bind fun t125 => (if t125.size + 5 ≤ 9223372036854775807 then (if t120.toList = (t125 ++ (⟨#[39, 32, 121, 61, 39]⟩ : ByteArray)).toList then (if 1 + t125.size ≤ 9223372036854775807 then (if ((⟨#[97]⟩ : ByteArray) ++ t125).size + 3 ≤ 9223372036854775807 then (some (t122.toList == (((⟨#[97]⟩ : ByteArray) ++ t125) ++ (⟨#[60, 98, 62]⟩ : ByteArray)).toList)) else (none)) else (none)) else (some false)) else (none)))) else (some false)) else (some false)))))) = some r := by rw [if_pos rfl] at H; exact H
                      clear H
                      have H := H1
                      clear H1
                      by_cases c30 : t113 = true
                      · subst c30
                        have H1 : (some false) = some r := by rw [if_pos rfl] at H; exact H
                        clear H
                        have H := H1
                        clear H1
                        obtain rfl := Option.some.inj H
                        go_wp2_with (first | ((with_reducible refine gate_callee (f := 18) rfl ?_); refine goesL_ (some 60) rfl rfl Tryz.func18 (by kernel_rfl) rfl #[.int .i64 0, .bool false, .string (a0 ++ (⟨#[60, 98, 62]⟩ : ByteArray))] rfl (by (try simp only [List.map_toArray, List.map_cons, List.map_nil]); first | done | rfl | (simp only [List.length_drop, List.length_take]; rfl)) ?_; (with_reducible refine (context_Parse.calls 0 false (a0 ++ (⟨#[60, 98, 62]⟩ : ByteArray)) t112 true _ ?side1 A19.out).mono ?_); (case side1 => exact Glob.step hGl (by repeat (first | (with_reducible first | exact HB.out | apply below_alloc | apply pw_below_drewN | apply below_drew1) | exact HB.out))); rintro e w31 ⟨rfl, hb⟩; refine ⟨_, rfl, ?_⟩; have n0_ := Aside0.mk (below_step (by repeat (first | (with_reducible first | exact HB.out | apply below_alloc | apply pw_below_drewN | apply below_drew1) | exact HB.out)) hb); clear HB; have HB := n0_; clear n0_; (try clear hb); (try clear hb2); (try clear hk); (try clear hi)) | ((with_reducible refine gate_callee (f := 18) rfl ?_); refine goesL_ (some 66) rfl rfl Tryz.func18 (by kernel_rfl) rfl #[.int .i64 1, .bool false, .string (a0 ++ (⟨#[34, 32, 121, 61, 34]⟩ : ByteArray))] rfl (by (try simp only [List.map_toArray, List.map_cons, List.map_nil]); first | done | rfl | (simp only [List.length_drop, List.length_take]; rfl)) ?_; (with_reducible refine (context_Parse.calls 1 false (a0 ++ (⟨#[34, 32, 121, 61, 34]⟩ : ByteArray)) t114 t115 _ ?side1 A21.out).mono ?_); (case side1 => exact Glob.step hGl (by repeat (first | (with_reducible first | exact HB.out | apply below_alloc | apply pw_below_drewN | apply below_drew1) | exact HB.out))); rintro e w32 ⟨rfl, hb⟩; refine ⟨_, rfl, ?_⟩; have n0_ := Aside0.mk (below_step (by repeat (first | (with_reducible first | exact HB.out | apply below_alloc | apply pw_below_drewN | apply below_drew1) | exact HB.out)) hb); clear HB; have HB := n0_; clear n0_; (try clear hb); (try clear hb2); (try clear hk); (try clear hi)) | ((with_reducible refine gate_callee (f := 18) rfl ?_); refine goesL_ (some 72) rfl rfl Tryz.func18 (by kernel_rfl) rfl #[.int .i64 1, .bool true, .string (a0 ++ (⟨#[39, 32, 121, 61, 39]⟩ : ByteArray))] rfl (by (try simp only [List.map_toArray, List.map_cons, List.map_nil]); first | done | rfl | (simp only [List.length_drop, List.length_take]; rfl)) ?_; (with_reducible refine (context_Parse.calls 1 true (a0 ++ (⟨#[39, 32, 121, 61, 39]⟩ : ByteArray)) t116 t117 _ ?side1 A22.out).mono ?_); (case side1 => exact Glob.step hGl (by repeat (first | (with_reducible first | exact HB.out | apply below_alloc | apply pw_below_drewN | apply below_drew1) | exact HB.out))); rintro e w33 ⟨rfl, hb⟩; refine ⟨_, rfl, ?_⟩; have n0_ := Aside0.mk (below_step (by repeat (first | (with_reducible first | exact HB.out | apply below_alloc | apply pw_below_drewN | apply below_drew1) | exact HB.out)) hb); clear HB; have HB := n0_; clear n0_; (try clear hb); (try clear hb2); (try clear hk); (try clear hi)) | ((with_reducible refine gate_callee (f := 18) rfl ?_); refine goesL_ (some 78) rfl rfl Tryz.func18 (by kernel_rfl) rfl #[.int .i64 2, .bool false, .string (a0 ++ (⟨#[60, 47, 116, 101, 120, 116, 97, 114, 101, 97, 62, 60, 98, 62]⟩ : ByteArray))] rfl (by (try simp only [List.map_toArray, List.map_cons, List.map_nil]); first | done | rfl | (simp only [List.length_drop, List.length_take]; rfl)) ?_; (with_reducible refine (context_Parse.calls 2 false (a0 ++ (⟨#[60, 47, 116, 101, 120, 116, 97, 114, 101, 97, 62, 60, 98, 62]⟩ : ByteArray)) t118 t119 _ ?side1 A24.out).mono ?_); (case side1 => exact Glob.step hGl (by repeat (first | (with_reducible first | exact HB.out | apply below_alloc | apply pw_below_drewN | apply below_drew1) | exact HB.out))); rintro e w34 ⟨rfl, hb⟩; refine ⟨_, rfl, ?_⟩; have n0_ := Aside0.mk (below_step (by repeat (first | (with_reducible first | exact HB.out | apply below_alloc | apply pw_below_drewN | apply below_drew1) | exact HB.out)) hb); clear HB; have HB := n0_; clear n0_; (try clear hb); (try clear hb2); (try clear hk); (try clear hi)) | ((with_reducible refine gate_callee (f := 18) rfl ?_); refine goesL_ (some 84) rfl rfl Tryz.func18 (by kernel_rfl) rfl #[.int .i64 1, .bool false, .string (a0 ++ (⟨#[39, 32, 121, 61, 39]⟩ : ByteArray))] rfl (by (try simp only [List.map_toArray, List.map_cons, List.map_nil]); first | done | rfl | (simp only [List.length_drop, List.length_take]; rfl)) ?_; (with_reducible refine (context_Parse.calls 1 false (a0 ++ (⟨#[39, 32, 121, 61, 39]⟩ : ByteArray)) t120 t121 _ ?side1 A25.out).mono ?_); (case side1 => exact Glob.step hGl (by repeat (first | (with_reducible first | exact HB.out | apply below_alloc | apply pw_below_drewN | apply below_drew1) | exact HB.out))); rintro e w35 ⟨rfl, hb⟩; refine ⟨_, rfl, ?_⟩; have n0_ := Aside0.mk (below_step (by repeat (first | (with_reducible first | exact HB.out | apply below_alloc | apply pw_below_drewN | apply below_drew1) | exact HB.out)) hb); clear HB; have HB := n0_; clear n0_; (try clear hb); (try clear hb2); (try clear hk); (try clear hi)) | ((with_reducible refine gate_callee (f := 18) rfl ?_); refine goesL_ (some 91) rfl rfl Tryz.func18 (by kernel_rfl) rfl #[.int .i64 2, .bool false, .string (((⟨#[97]⟩ : ByteArray) ++ a0) ++ (⟨#[60, 98, 62]⟩ : ByteArray))] rfl (by (try simp only [List.map_toArray, List.map_cons, List.map_nil]); first | done | rfl | (simp only [List.length_drop, List.length_take]; rfl)) ?_; (with_reducible refine (context_Parse.calls 2 false (((⟨#[97]⟩ : ByteArray) ++ a0) ++ (⟨#[60, 98, 62]⟩ : ByteArray)) t122 t123 _ ?side1 A28.out).mono ?_); (case side1 => exact Glob.step hGl (by repeat (first | (with_reducible first | exact HB.out | apply below_alloc | apply pw_below_drewN | apply below_drew1) | exact HB.out))); rintro e w36 ⟨rfl, hb⟩; refine ⟨_, rfl, ?_⟩; have n0_ := Aside0.mk (below_step (by repeat (first | (with_reducible first | exact HB.out | apply below_alloc | apply pw_below_drewN | apply below_drew1) | exact HB.out)) hb); clear HB; have HB := n0_; clear n0_; (try clear hb); (try clear hb2); (try clear hk); (try clear hi)))
                        go_ret
                        exact ⟨by first | rfl | (simp [errW_none, errW_some] <;> rfl) | (simp [*, errW_none, errW_some] <;> rfl), by repeat (first | (with_reducible first | exact HB.out | apply below_alloc | apply pw_below_drewN | apply below_drew1) | exact HB.out)⟩
                      · replace c30 := Bool.eq_false_iff.mpr c30
                        subst c30
                        have H1 : (if t115 = true then (some false) else (if t117 = true then (some false) else (if t119 = true then (some false) else (if t121 = true then (if t123 = true then ((lines_Norm.f a0).bind fun t124 => ((lines_Clean.f t124).bind fun t125 => (if t125.size + 5 ≤ 9223372036854775807 then (if t120.toList = (t125 ++ (⟨#[39, 32, 121, 61, 39]⟩ : ByteArray)).toList then (if 1 + t125.size ≤ 9223372036854775807 then (if ((⟨#[97]⟩ : ByteArray) ++ t125).size + 3 ≤ 9223372036854775807 then (some (t122.toList == (((⟨#[97]⟩ : ByteArray) ++ t125) ++ (⟨#[60, 98, 62]⟩ : ByteArray)).toList)) else (none)) else (none)) else (some false)) else (none)))) else (some false)) else (some false))))) = some r := by rw [if_neg (show ¬ (false = true) by decide)] at H; exact H
                        clear H
                        have H := H1
                        clear H1
                        by_cases c37 : t115 = true
                        · subst c37
                          have H1 : (some false) = some r := by rw [if_pos rfl] at H; exact H
                          clear H
                          have H := H1
                          clear H1
                          obtain rfl := Option.some.inj H
                          go_wp2_with (first | ((with_reducible refine gate_callee (f := 18) rfl ?_); refine goesL_ (some 60) rfl rfl Tryz.func18 (by kernel_rfl) rfl #[.int .i64 0, .bool false, .string (a0 ++ (⟨#[60, 98, 62]⟩ : ByteArray))] rfl (by (try simp only [List.map_toArray, List.map_cons, List.map_nil]); first | done | rfl | (simp only [List.length_drop, List.length_take]; rfl)) ?_; (with_reducible refine (context_Parse.calls 0 false (a0 ++ (⟨#[60, 98, 62]⟩ : ByteArray)) t112 false _ ?side1 A19.out).mono ?_); (case side1 => exact Glob.step hGl (by repeat (first | (with_reducible first | exact HB.out | apply below_alloc | apply pw_below_drewN | apply below_drew1) | exact HB.out))); rintro e w38 ⟨rfl, hb⟩; refine ⟨_, rfl, ?_⟩; have n0_ := Aside0.mk (below_step (by repeat (first | (with_reducible first | exact HB.out | apply below_alloc | apply pw_below_drewN | apply below_drew1) | exact HB.out)) hb); clear HB; have HB := n0_; clear n0_; (try clear hb); (try clear hb2); (try clear hk); (try clear hi)) | ((with_reducible refine gate_callee (f := 18) rfl ?_); refine goesL_ (some 66) rfl rfl Tryz.func18 (by kernel_rfl) rfl #[.int .i64 1, .bool false, .string (a0 ++ (⟨#[34, 32, 121, 61, 34]⟩ : ByteArray))] rfl (by (try simp only [List.map_toArray, List.map_cons, List.map_nil]); first | done | rfl | (simp only [List.length_drop, List.length_take]; rfl)) ?_; (with_reducible refine (context_Parse.calls 1 false (a0 ++ (⟨#[34, 32, 121, 61, 34]⟩ : ByteArray)) t114 true _ ?side1 A21.out).mono ?_); (case side1 => exact Glob.step hGl (by repeat (first | (with_reducible first | exact HB.out | apply below_alloc | apply pw_below_drewN | apply below_drew1) | exact HB.out))); rintro e w39 ⟨rfl, hb⟩; refine ⟨_, rfl, ?_⟩; have n0_ := Aside0.mk (below_step (by repeat (first | (with_reducible first | exact HB.out | apply below_alloc | apply pw_below_drewN | apply below_drew1) | exact HB.out)) hb); clear HB; have HB := n0_; clear n0_; (try clear hb); (try clear hb2); (try clear hk); (try clear hi)) | ((with_reducible refine gate_callee (f := 18) rfl ?_); refine goesL_ (some 72) rfl rfl Tryz.func18 (by kernel_rfl) rfl #[.int .i64 1, .bool true, .string (a0 ++ (⟨#[39, 32, 121, 61, 39]⟩ : ByteArray))] rfl (by (try simp only [List.map_toArray, List.map_cons, List.map_nil]); first | done | rfl | (simp only [List.length_drop, List.length_take]; rfl)) ?_; (with_reducible refine (context_Parse.calls 1 true (a0 ++ (⟨#[39, 32, 121, 61, 39]⟩ : ByteArray)) t116 t117 _ ?side1 A22.out).mono ?_); (case side1 => exact Glob.step hGl (by repeat (first | (with_reducible first | exact HB.out | apply below_alloc | apply pw_below_drewN | apply below_drew1) | exact HB.out))); rintro e w40 ⟨rfl, hb⟩; refine ⟨_, rfl, ?_⟩; have n0_ := Aside0.mk (below_step (by repeat (first | (with_reducible first | exact HB.out | apply below_alloc | apply pw_below_drewN | apply below_drew1) | exact HB.out)) hb); clear HB; have HB := n0_; clear n0_; (try clear hb); (try clear hb2); (try clear hk); (try clear hi)) | ((with_reducible refine gate_callee (f := 18) rfl ?_); refine goesL_ (some 78) rfl rfl Tryz.func18 (by kernel_rfl) rfl #[.int .i64 2, .bool false, .string (a0 ++ (⟨#[60, 47, 116, 101, 120, 116, 97, 114, 101, 97, 62, 60, 98, 62]⟩ : ByteArray))] rfl (by (try simp only [List.map_toArray, List.map_cons, List.map_nil]); first | done | rfl | (simp only [List.length_drop, List.length_take]; rfl)) ?_; (with_reducible refine (context_Parse.calls 2 false (a0 ++ (⟨#[60, 47, 116, 101, 120, 116, 97, 114, 101, 97, 62, 60, 98, 62]⟩ : ByteArray)) t118 t119 _ ?side1 A24.out).mono ?_); (case side1 => exact Glob.step hGl (by repeat (first | (with_reducible first | exact HB.out | apply below_alloc | apply pw_below_drewN | apply below_drew1) | exact HB.out))); rintro e w41 ⟨rfl, hb⟩; refine ⟨_, rfl, ?_⟩; have n0_ := Aside0.mk (below_step (by repeat (first | (with_reducible first | exact HB.out | apply below_alloc | apply pw_below_drewN | apply below_drew1) | exact HB.out)) hb); clear HB; have HB := n0_; clear n0_; (try clear hb); (try clear hb2); (try clear hk); (try clear hi)) | ((with_reducible refine gate_callee (f := 18) rfl ?_); refine goesL_ (some 84) rfl rfl Tryz.func18 (by kernel_rfl) rfl #[.int .i64 1, .bool false, .string (a0 ++ (⟨#[39, 32, 121, 61, 39]⟩ : ByteArray))] rfl (by (try simp only [List.map_toArray, List.map_cons, List.map_nil]); first | done | rfl | (simp only [List.length_drop, List.length_take]; rfl)) ?_; (with_reducible refine (context_Parse.calls 1 false (a0 ++ (⟨#[39, 32, 121, 61, 39]⟩ : ByteArray)) t120 t121 _ ?side1 A25.out).mono ?_); (case side1 => exact Glob.step hGl (by repeat (first | (with_reducible first | exact HB.out | apply below_alloc | apply pw_below_drewN | apply below_drew1) | exact HB.out))); rintro e w42 ⟨rfl, hb⟩; refine ⟨_, rfl, ?_⟩; have n0_ := Aside0.mk (below_step (by repeat (first | (with_reducible first | exact HB.out | apply below_alloc | apply pw_below_drewN | apply below_drew1) | exact HB.out)) hb); clear HB; have HB := n0_; clear n0_; (try clear hb); (try clear hb2); (try clear hk); (try clear hi)) | ((with_reducible refine gate_callee (f := 18) rfl ?_); refine goesL_ (some 91) rfl rfl Tryz.func18 (by kernel_rfl) rfl #[.int .i64 2, .bool false, .string (((⟨#[97]⟩ : ByteArray) ++ a0) ++ (⟨#[60, 98, 62]⟩ : ByteArray))] rfl (by (try simp only [List.map_toArray, List.map_cons, List.map_nil]); first | done | rfl | (simp only [List.length_drop, List.length_take]; rfl)) ?_; (with_reducible refine (context_Parse.calls 2 false (((⟨#[97]⟩ : ByteArray) ++ a0) ++ (⟨#[60, 98, 62]⟩ : ByteArray)) t122 t123 _ ?side1 A28.out).mono ?_); (case side1 => exact Glob.step hGl (by repeat (first | (with_reducible first | exact HB.out | apply below_alloc | apply pw_below_drewN | apply below_drew1) | exact HB.out))); rintro e w43 ⟨rfl, hb⟩; refine ⟨_, rfl, ?_⟩; have n0_ := Aside0.mk (below_step (by repeat (first | (with_reducible first | exact HB.out | apply below_alloc | apply pw_below_drewN | apply below_drew1) | exact HB.out)) hb); clear HB; have HB := n0_; clear n0_; (try clear hb); (try clear hb2); (try clear hk); (try clear hi)))
                          go_ret
                          exact ⟨by first | rfl | (simp [errW_none, errW_some] <;> rfl) | (simp [*, errW_none, errW_some] <;> rfl), by repeat (first | (with_reducible first | exact HB.out | apply below_alloc | apply pw_below_drewN | apply below_drew1) | exact HB.out)⟩
                        · replace c37 := Bool.eq_false_iff.mpr c37
                          subst c37
                          have H1 : (if t117 = true then (some false) else (if t119 = true then (some false) else (if t121 = true then (if t123 = true then ((lines_Norm.f a0).bind fun t124 => ((lines_Clean.f t124).bind fun t125 => (if t125.size + 5 ≤ 9223372036854775807 then (if t120.toList = (t125 ++ (⟨#[39, 32, 121, 61, 39]⟩ : ByteArray)).toList then (if 1 + t125.size ≤ 9223372036854775807 then (if ((⟨#[97]⟩ : ByteArray) ++ t125).size + 3 ≤ 9223372036854775807 then (some (t122.toList == (((⟨#[97]⟩ : ByteArray) ++ t125) ++ (⟨#[60, 98, 62]⟩ : ByteArray)).toList)) else (none)) else (none)) else (some false)) else (none)))) else (some false)) else (some false)))) = some r := by rw [if_neg (show ¬ (false = true) by decide)] at H; exact H
                          clear H
                          have H := H1
                          clear H1
                          by_cases c44 : t117 = true
                          · subst c44
                            have H1 : (some false) = some r := by rw [if_pos rfl] at H; exact H
                            clear H
                            have H := H1
                            clear H1
                            obtain rfl := Option.some.inj H
                            go_wp2_with (first | ((with_reducible refine gate_callee (f := 18) rfl ?_); refine goesL_ (some 60) rfl rfl Tryz.func18 (by kernel_rfl) rfl #[.int .i64 0, .bool false, .string (a0 ++ (⟨#[60, 98, 62]⟩ : ByteArray))] rfl (by (try simp only [List.map_toArray, List.map_cons, List.map_nil]); first | done | rfl | (simp only [List.length_drop, List.length_take]; rfl)) ?_; (with_reducible refine (context_Parse.calls 0 false (a0 ++ (⟨#[60, 98, 62]⟩ : ByteArray)) t112 false _ ?side1 A19.out).mono ?_); (case side1 => exact Glob.step hGl (by repeat (first | (with_reducible first | exact HB.out | apply below_alloc | apply pw_below_drewN | apply below_drew1) | exact HB.out))); rintro e w45 ⟨rfl, hb⟩; refine ⟨_, rfl, ?_⟩; have n0_ := Aside0.mk (below_step (by repeat (first | (with_reducible first | exact HB.out | apply below_alloc | apply pw_below_drewN | apply below_drew1) | exact HB.out)) hb); clear HB; have HB := n0_; clear n0_; (try clear hb); (try clear hb2); (try clear hk); (try clear hi)) | ((with_reducible refine gate_callee (f := 18) rfl ?_); refine goesL_ (some 66) rfl rfl Tryz.func18 (by kernel_rfl) rfl #[.int .i64 1, .bool false, .string (a0 ++ (⟨#[34, 32, 121, 61, 34]⟩ : ByteArray))] rfl (by (try simp only [List.map_toArray, List.map_cons, List.map_nil]); first | done | rfl | (simp only [List.length_drop, List.length_take]; rfl)) ?_; (with_reducible refine (context_Parse.calls 1 false (a0 ++ (⟨#[34, 32, 121, 61, 34]⟩ : ByteArray)) t114 false _ ?side1 A21.out).mono ?_); (case side1 => exact Glob.step hGl (by repeat (first | (with_reducible first | exact HB.out | apply below_alloc | apply pw_below_drewN | apply below_drew1) | exact HB.out))); rintro e w46 ⟨rfl, hb⟩; refine ⟨_, rfl, ?_⟩; have n0_ := Aside0.mk (below_step (by repeat (first | (with_reducible first | exact HB.out | apply below_alloc | apply pw_below_drewN | apply below_drew1) | exact HB.out)) hb); clear HB; have HB := n0_; clear n0_; (try clear hb); (try clear hb2); (try clear hk); (try clear hi)) | ((with_reducible refine gate_callee (f := 18) rfl ?_); refine goesL_ (some 72) rfl rfl Tryz.func18 (by kernel_rfl) rfl #[.int .i64 1, .bool true, .string (a0 ++ (⟨#[39, 32, 121, 61, 39]⟩ : ByteArray))] rfl (by (try simp only [List.map_toArray, List.map_cons, List.map_nil]); first | done | rfl | (simp only [List.length_drop, List.length_take]; rfl)) ?_; (with_reducible refine (context_Parse.calls 1 true (a0 ++ (⟨#[39, 32, 121, 61, 39]⟩ : ByteArray)) t116 true _ ?side1 A22.out).mono ?_); (case side1 => exact Glob.step hGl (by repeat (first | (with_reducible first | exact HB.out | apply below_alloc | apply pw_below_drewN | apply below_drew1) | exact HB.out))); rintro e w47 ⟨rfl, hb⟩; refine ⟨_, rfl, ?_⟩; have n0_ := Aside0.mk (below_step (by repeat (first | (with_reducible first | exact HB.out | apply below_alloc | apply pw_below_drewN | apply below_drew1) | exact HB.out)) hb); clear HB; have HB := n0_; clear n0_; (try clear hb); (try clear hb2); (try clear hk); (try clear hi)) | ((with_reducible refine gate_callee (f := 18) rfl ?_); refine goesL_ (some 78) rfl rfl Tryz.func18 (by kernel_rfl) rfl #[.int .i64 2, .bool false, .string (a0 ++ (⟨#[60, 47, 116, 101, 120, 116, 97, 114, 101, 97, 62, 60, 98, 62]⟩ : ByteArray))] rfl (by (try simp only [List.map_toArray, List.map_cons, List.map_nil]); first | done | rfl | (simp only [List.length_drop, List.length_take]; rfl)) ?_; (with_reducible refine (context_Parse.calls 2 false (a0 ++ (⟨#[60, 47, 116, 101, 120, 116, 97, 114, 101, 97, 62, 60, 98, 62]⟩ : ByteArray)) t118 t119 _ ?side1 A24.out).mono ?_); (case side1 => exact Glob.step hGl (by repeat (first | (with_reducible first | exact HB.out | apply below_alloc | apply pw_below_drewN | apply below_drew1) | exact HB.out))); rintro e w48 ⟨rfl, hb⟩; refine ⟨_, rfl, ?_⟩; have n0_ := Aside0.mk (below_step (by repeat (first | (with_reducible first | exact HB.out | apply below_alloc | apply pw_below_drewN | apply below_drew1) | exact HB.out)) hb); clear HB; have HB := n0_; clear n0_; (try clear hb); (try clear hb2); (try clear hk); (try clear hi)) | ((with_reducible refine gate_callee (f := 18) rfl ?_); refine goesL_ (some 84) rfl rfl Tryz.func18 (by kernel_rfl) rfl #[.int .i64 1, .bool false, .string (a0 ++ (⟨#[39, 32, 121, 61, 39]⟩ : ByteArray))] rfl (by (try simp only [List.map_toArray, List.map_cons, List.map_nil]); first | done | rfl | (simp only [List.length_drop, List.length_take]; rfl)) ?_; (with_reducible refine (context_Parse.calls 1 false (a0 ++ (⟨#[39, 32, 121, 61, 39]⟩ : ByteArray)) t120 t121 _ ?side1 A25.out).mono ?_); (case side1 => exact Glob.step hGl (by repeat (first | (with_reducible first | exact HB.out | apply below_alloc | apply pw_below_drewN | apply below_drew1) | exact HB.out))); rintro e w49 ⟨rfl, hb⟩; refine ⟨_, rfl, ?_⟩; have n0_ := Aside0.mk (below_step (by repeat (first | (with_reducible first | exact HB.out | apply below_alloc | apply pw_below_drewN | apply below_drew1) | exact HB.out)) hb); clear HB; have HB := n0_; clear n0_; (try clear hb); (try clear hb2); (try clear hk); (try clear hi)) | ((with_reducible refine gate_callee (f := 18) rfl ?_); refine goesL_ (some 91) rfl rfl Tryz.func18 (by kernel_rfl) rfl #[.int .i64 2, .bool false, .string (((⟨#[97]⟩ : ByteArray) ++ a0) ++ (⟨#[60, 98, 62]⟩ : ByteArray))] rfl (by (try simp only [List.map_toArray, List.map_cons, List.map_nil]); first | done | rfl | (simp only [List.length_drop, List.length_take]; rfl)) ?_; (with_reducible refine (context_Parse.calls 2 false (((⟨#[97]⟩ : ByteArray) ++ a0) ++ (⟨#[60, 98, 62]⟩ : ByteArray)) t122 t123 _ ?side1 A28.out).mono ?_); (case side1 => exact Glob.step hGl (by repeat (first | (with_reducible first | exact HB.out | apply below_alloc | apply pw_below_drewN | apply below_drew1) | exact HB.out))); rintro e w50 ⟨rfl, hb⟩; refine ⟨_, rfl, ?_⟩; have n0_ := Aside0.mk (below_step (by repeat (first | (with_reducible first | exact HB.out | apply below_alloc | apply pw_below_drewN | apply below_drew1) | exact HB.out)) hb); clear HB; have HB := n0_; clear n0_; (try clear hb); (try clear hb2); (try clear hk); (try clear hi)))
                            go_ret
                            exact ⟨by first | rfl | (simp [errW_none, errW_some] <;> rfl) | (simp [*, errW_none, errW_some] <;> rfl), by repeat (first | (with_reducible first | exact HB.out | apply below_alloc | apply pw_below_drewN | apply below_drew1) | exact HB.out)⟩
                          · replace c44 := Bool.eq_false_iff.mpr c44
                            subst c44
                            have H1 : (if t119 = true then (some false) else (if t121 = true then (if t123 = true then ((lines_Norm.f a0).bind fun t124 => ((lines_Clean.f t124).bind fun t125 => (if t125.size + 5 ≤ 9223372036854775807 then (if t120.toList = (t125 ++ (⟨#[39, 32, 121, 61, 39]⟩ : ByteArray)).toList then (if 1 + t125.size ≤ 9223372036854775807 then (if ((⟨#[97]⟩ : ByteArray) ++ t125).size + 3 ≤ 9223372036854775807 then (some (t122.toList == (((⟨#[97]⟩ : ByteArray) ++ t125) ++ (⟨#[60, 98, 62]⟩ : ByteArray)).toList)) else (none)) else (none)) else (some false)) else (none)))) else (some false)) else (some false))) = some r := by rw [if_neg (show ¬ (false = true) by decide)] at H; exact H
                            clear H
                            have H := H1
                            clear H1
                            by_cases c51 : t119 = true
                            · subst c51
                              have H1 : (some false) = some r := by rw [if_pos rfl] at H; exact H
                              clear H
                              have H := H1
                              clear H1
                              obtain rfl := Option.some.inj H
                              go_wp2_with (first | ((with_reducible refine gate_callee (f := 18) rfl ?_); refine goesL_ (some 60) rfl rfl Tryz.func18 (by kernel_rfl) rfl #[.int .i64 0, .bool false, .string (a0 ++ (⟨#[60, 98, 62]⟩ : ByteArray))] rfl (by (try simp only [List.map_toArray, List.map_cons, List.map_nil]); first | done | rfl | (simp only [List.length_drop, List.length_take]; rfl)) ?_; (with_reducible refine (context_Parse.calls 0 false (a0 ++ (⟨#[60, 98, 62]⟩ : ByteArray)) t112 false _ ?side1 A19.out).mono ?_); (case side1 => exact Glob.step hGl (by repeat (first | (with_reducible first | exact HB.out | apply below_alloc | apply pw_below_drewN | apply below_drew1) | exact HB.out))); rintro e w52 ⟨rfl, hb⟩; refine ⟨_, rfl, ?_⟩; have n0_ := Aside0.mk (below_step (by repeat (first | (with_reducible first | exact HB.out | apply below_alloc | apply pw_below_drewN | apply below_drew1) | exact HB.out)) hb); clear HB; have HB := n0_; clear n0_; (try clear hb); (try clear hb2); (try clear hk); (try clear hi)) | ((with_reducible refine gate_callee (f := 18) rfl ?_); refine goesL_ (some 66) rfl rfl Tryz.func18 (by kernel_rfl) rfl #[.int .i64 1, .bool false, .string (a0 ++ (⟨#[34, 32, 121, 61, 34]⟩ : ByteArray))] rfl (by (try simp only [List.map_toArray, List.map_cons, List.map_nil]); first | done | rfl | (simp only [List.length_drop, List.length_take]; rfl)) ?_; (with_reducible refine (context_Parse.calls 1 false (a0 ++ (⟨#[34, 32, 121, 61, 34]⟩ : ByteArray)) t114 false _ ?side1 A21.out).mono ?_); (case side1 => exact Glob.step hGl (by repeat (first | (with_reducible first | exact HB.out | apply below_alloc | apply pw_below_drewN | apply below_drew1) | exact HB.out))); rintro e w53 ⟨rfl, hb⟩; refine ⟨_, rfl, ?_⟩; have n0_ := Aside0.mk (below_step (by repeat (first | (with_reducible first | exact HB.out | apply below_alloc | apply pw_below_drewN | apply below_drew1) | exact HB.out)) hb); clear HB; have HB := n0_; clear n0_; (try clear hb); (try clear hb2); (try clear hk); (try clear hi)) | ((with_reducible refine gate_callee (f := 18) rfl ?_); refine goesL_ (some 72) rfl rfl Tryz.func18 (by kernel_rfl) rfl #[.int .i64 1, .bool true, .string (a0 ++ (⟨#[39, 32, 121, 61, 39]⟩ : ByteArray))] rfl (by (try simp only [List.map_toArray, List.map_cons, List.map_nil]); first | done | rfl | (simp only [List.length_drop, List.length_take]; rfl)) ?_; (with_reducible refine (context_Parse.calls 1 true (a0 ++ (⟨#[39, 32, 121, 61, 39]⟩ : ByteArray)) t116 false _ ?side1 A22.out).mono ?_); (case side1 => exact Glob.step hGl (by repeat (first | (with_reducible first | exact HB.out | apply below_alloc | apply pw_below_drewN | apply below_drew1) | exact HB.out))); rintro e w54 ⟨rfl, hb⟩; refine ⟨_, rfl, ?_⟩; have n0_ := Aside0.mk (below_step (by repeat (first | (with_reducible first | exact HB.out | apply below_alloc | apply pw_below_drewN | apply below_drew1) | exact HB.out)) hb); clear HB; have HB := n0_; clear n0_; (try clear hb); (try clear hb2); (try clear hk); (try clear hi)) | ((with_reducible refine gate_callee (f := 18) rfl ?_); refine goesL_ (some 78) rfl rfl Tryz.func18 (by kernel_rfl) rfl #[.int .i64 2, .bool false, .string (a0 ++ (⟨#[60, 47, 116, 101, 120, 116, 97, 114, 101, 97, 62, 60, 98, 62]⟩ : ByteArray))] rfl (by (try simp only [List.map_toArray, List.map_cons, List.map_nil]); first | done | rfl | (simp only [List.length_drop, List.length_take]; rfl)) ?_; (with_reducible refine (context_Parse.calls 2 false (a0 ++ (⟨#[60, 47, 116, 101, 120, 116, 97, 114, 101, 97, 62, 60, 98, 62]⟩ : ByteArray)) t118 true _ ?side1 A24.out).mono ?_); (case side1 => exact Glob.step hGl (by repeat (first | (with_reducible first | exact HB.out | apply below_alloc | apply pw_below_drewN | apply below_drew1) | exact HB.out))); rintro e w55 ⟨rfl, hb⟩; refine ⟨_, rfl, ?_⟩; have n0_ := Aside0.mk (below_step (by repeat (first | (with_reducible first | exact HB.out | apply below_alloc | apply pw_below_drewN | apply below_drew1) | exact HB.out)) hb); clear HB; have HB := n0_; clear n0_; (try clear hb); (try clear hb2); (try clear hk); (try clear hi)) | ((with_reducible refine gate_callee (f := 18) rfl ?_); refine goesL_ (some 84) rfl rfl Tryz.func18 (by kernel_rfl) rfl #[.int .i64 1, .bool false, .string (a0 ++ (⟨#[39, 32, 121, 61, 39]⟩ : ByteArray))] rfl (by (try simp only [List.map_toArray, List.map_cons, List.map_nil]); first | done | rfl | (simp only [List.length_drop, List.length_take]; rfl)) ?_; (with_reducible refine (context_Parse.calls 1 false (a0 ++ (⟨#[39, 32, 121, 61, 39]⟩ : ByteArray)) t120 t121 _ ?side1 A25.out).mono ?_); (case side1 => exact Glob.step hGl (by repeat (first | (with_reducible first | exact HB.out | apply below_alloc | apply pw_below_drewN | apply below_drew1) | exact HB.out))); rintro e w56 ⟨rfl, hb⟩; refine ⟨_, rfl, ?_⟩; have n0_ := Aside0.mk (below_step (by repeat (first | (with_reducible first | exact HB.out | apply below_alloc | apply pw_below_drewN | apply below_drew1) | exact HB.out)) hb); clear HB; have HB := n0_; clear n0_; (try clear hb); (try clear hb2); (try clear hk); (try clear hi)) | ((with_reducible refine gate_callee (f := 18) rfl ?_); refine goesL_ (some 91) rfl rfl Tryz.func18 (by kernel_rfl) rfl #[.int .i64 2, .bool false, .string (((⟨#[97]⟩ : ByteArray) ++ a0) ++ (⟨#[60, 98, 62]⟩ : ByteArray))] rfl (by (try simp only [List.map_toArray, List.map_cons, List.map_nil]); first | done | rfl | (simp only [List.length_drop, List.length_take]; rfl)) ?_; (with_reducible refine (context_Parse.calls 2 false (((⟨#[97]⟩ : ByteArray) ++ a0) ++ (⟨#[60, 98, 62]⟩ : ByteArray)) t122 t123 _ ?side1 A28.out).mono ?_); (case side1 => exact Glob.step hGl (by repeat (first | (with_reducible first | exact HB.out | apply below_alloc | apply pw_below_drewN | apply below_drew1) | exact HB.out))); rintro e w57 ⟨rfl, hb⟩; refine ⟨_, rfl, ?_⟩; have n0_ := Aside0.mk (below_step (by repeat (first | (with_reducible first | exact HB.out | apply below_alloc | apply pw_below_drewN | apply below_drew1) | exact HB.out)) hb); clear HB; have HB := n0_; clear n0_; (try clear hb); (try clear hb2); (try clear hk); (try clear hi)))
                              go_ret
                              exact ⟨by first | rfl | (simp [errW_none, errW_some] <;> rfl) | (simp [*, errW_none, errW_some] <;> rfl), by repeat (first | (with_reducible first | exact HB.out | apply below_alloc | apply pw_below_drewN | apply below_drew1) | exact HB.out)⟩
                            · replace c51 := Bool.eq_false_iff.mpr c51
                              subst c51
                              have H1 : (if t121 = true then (if t123 = true then ((lines_Norm.f a0).bind fun t124 => ((lines_Clean.f t124).bind fun t125 => (if t125.size + 5 ≤ 9223372036854775807 then (if t120.toList = (t125 ++ (⟨#[39, 32, 121, 61, 39]⟩ : ByteArray)).toList then (if 1 + t125.size ≤ 9223372036854775807 then (if ((⟨#[97]⟩ : ByteArray) ++ t125).size + 3 ≤ 9223372036854775807 then (some (t122.toList == (((⟨#[97]⟩ : ByteArray) ++ t125) ++ (⟨#[60, 98, 62]⟩ : ByteArray)).toList)) else (none)) else (none)) else (some false)) else (none)))) else (some false)) else (some false)) = some r := by rw [if_neg (show ¬ (false = true) by decide)] at H; exact H
                              clear H
                              have H := H1
                              clear H1
                              by_cases c58 : t121 = true
                              · subst c58
                                have H1 : (if t123 = true then ((lines_Norm.f a0).bind fun t124 => ((lines_Clean.f t124).bind fun t125 => (if t125.size + 5 ≤ 9223372036854775807 then (if t120.toList = (t125 ++ (⟨#[39, 32, 121, 61, 39]⟩ : ByteArray)).toList then (if 1 + t125.size ≤ 9223372036854775807 then (if ((⟨#[97]⟩ : ByteArray) ++ t125).size + 3 ≤ 9223372036854775807 then (some (t122.toList == (((⟨#[97]⟩ : ByteArray) ++ t125) ++ (⟨#[60, 98, 62]⟩ : ByteArray)).toList)) else (none)) else (none)) else (some false)) else (none)))) else (some false)) = some r := by rw [if_pos rfl] at H; exact H
                                clear H
                                have H := H1
                                clear H1
                                by_cases c59 : t123 = true
                                · subst c59
                                  have H1 : ((lines_Norm.f a0).bind fun t124 => ((lines_Clean.f t124).bind fun t125 => (if t125.size + 5 ≤ 9223372036854775807 then (if t120.toList = (t125 ++ (⟨#[39, 32, 121, 61, 39]⟩ : ByteArray)).toList then (if 1 + t125.size ≤ 9223372036854775807 then (if ((⟨#[97]⟩ : ByteArray) ++ t125).size + 3 ≤ 9223372036854775807 then (some (t122.toList == (((⟨#[97]⟩ : ByteArray) ++ t125) ++ (⟨#[60, 98, 62]⟩ : ByteArray)).toList)) else (none)) else (none)) else (some false)) else (none)))) = some r := by rw [if_pos rfl] at H; exact H
                                  clear H
                                  have H := H1
                                  clear H1
                                  replace H := Option.bind_eq_some_iff.mp H
                                  obtain ⟨t124, A600, H⟩ := H
                                  replace H : ((lines_Clean.f t124).bind fun t125 => (if t125.size + 5 ≤ 9223372036854775807 then (if t120.toList = (t125 ++ (⟨#[39, 32, 121, 61, 39]⟩ : ByteArray)).toList then (if 1 + t125.size ≤ 9223372036854775807 then (if ((⟨#[97]⟩ : ByteArray) ++ t125).size + 3 ≤ 9223372036854775807 then (some (t122.toList == (((⟨#[97]⟩ : ByteArray) ++ t125) ++ (⟨#[60, 98, 62]⟩ : ByteArray)).toList)) else (none)) else (none)) else (some false)) else (none))) = some r := H
                                  have A60 := Aside0.mk A600
                                  clear A600
                                  replace H := Option.bind_eq_some_iff.mp H
                                  obtain ⟨t125, A610, H⟩ := H
                                  replace H : (if t125.size + 5 ≤ 9223372036854775807 then (if t120.toList = (t125 ++ (⟨#[39, 32, 121, 61, 39]⟩ : ByteArray)).toList then (if 1 + t125.size ≤ 9223372036854775807 then (if ((⟨#[97]⟩ : ByteArray) ++ t125).size + 3 ≤ 9223372036854775807 then (some (t122.toList == (((⟨#[97]⟩ : ByteArray) ++ t125) ++ (⟨#[60, 98, 62]⟩ : ByteArray)).toList)) else (none)) else (none)) else (some false)) else (none)) = some r := H
                                  have A61 := Aside0.mk A610
                                  clear A610
                                  by_cases c62 : t125.size + 5 ≤ 9223372036854775807
                                  · rw [if_pos c62] at H
                                    have c62b0 := eq_true c62
                                    have c62b1 : decide (t125.size + 5 ≤ 9223372036854775807) = true := decide_eq_true c62
                                    try have c62b2 : (9223372036854775807 < t125.size + 5) = False := eq_false (Nat.not_lt.2 c62)
                                    by_cases c63 : t120.toList = (t125 ++ (⟨#[39, 32, 121, 61, 39]⟩ : ByteArray)).toList
                                    · rw [if_pos c63] at H
                                      have c63b0 : (t120.toList == (t125 ++ (⟨#[39, 32, 121, 61, 39]⟩ : ByteArray)).toList) = true := beq_iff_eq.mpr c63
                                      have c63b1 : (t120.toList != (t125 ++ (⟨#[39, 32, 121, 61, 39]⟩ : ByteArray)).toList) = false := bne_eq_false_iff_eq.mpr c63
                                      clear c63
                                      by_cases c64 : 1 + t125.size ≤ 9223372036854775807
                                      · rw [if_pos c64] at H
                                        have c64b0 := eq_true c64
                                        have c64b1 : decide (1 + t125.size ≤ 9223372036854775807) = true := decide_eq_true c64
                                        try have c64b2 : (9223372036854775807 < 1 + t125.size) = False := eq_false (Nat.not_lt.2 c64)
                                        by_cases c65 : ((⟨#[97]⟩ : ByteArray) ++ t125).size + 3 ≤ 9223372036854775807
                                        · rw [if_pos c65] at H
                                          have c65b0 := eq_true c65
                                          have c65b1 : decide (((⟨#[97]⟩ : ByteArray) ++ t125).size + 3 ≤ 9223372036854775807) = true := decide_eq_true c65
                                          try have c65b2 : (9223372036854775807 < ((⟨#[97]⟩ : ByteArray) ++ t125).size + 3) = False := eq_false (Nat.not_lt.2 c65)
                                          obtain rfl := Option.some.inj H
                                          go_wp2_with (first | ((with_reducible refine gate_callee (f := 18) rfl ?_); refine goesL_ (some 60) rfl rfl Tryz.func18 (by kernel_rfl) rfl #[.int .i64 0, .bool false, .string (a0 ++ (⟨#[60, 98, 62]⟩ : ByteArray))] rfl (by (try simp only [List.map_toArray, List.map_cons, List.map_nil]); first | done | rfl | (simp only [List.length_drop, List.length_take]; rfl)) ?_; (with_reducible refine (context_Parse.calls 0 false (a0 ++ (⟨#[60, 98, 62]⟩ : ByteArray)) t112 false _ ?side1 A19.out).mono ?_); (case side1 => exact Glob.step hGl (by repeat (first | (with_reducible first | exact HB.out | apply below_alloc | apply pw_below_drewN | apply below_drew1) | exact HB.out))); rintro e w66 ⟨rfl, hb⟩; refine ⟨_, rfl, ?_⟩; have n0_ := Aside0.mk (below_step (by repeat (first | (with_reducible first | exact HB.out | apply below_alloc | apply pw_below_drewN | apply below_drew1) | exact HB.out)) hb); clear HB; have HB := n0_; clear n0_; (try clear hb); (try clear hb2); (try clear hk); (try clear hi)) | ((with_reducible refine gate_callee (f := 18) rfl ?_); refine goesL_ (some 66) rfl rfl Tryz.func18 (by kernel_rfl) rfl #[.int .i64 1, .bool false, .string (a0 ++ (⟨#[34, 32, 121, 61, 34]⟩ : ByteArray))] rfl (by (try simp only [List.map_toArray, List.map_cons, List.map_nil]); first | done | rfl | (simp only [List.length_drop, List.length_take]; rfl)) ?_; (with_reducible refine (context_Parse.calls 1 false (a0 ++ (⟨#[34, 32, 121, 61, 34]⟩ : ByteArray)) t114 false _ ?side1 A21.out).mono ?_); (case side1 => exact Glob.step hGl (by repeat (first | (with_reducible first | exact HB.out | apply below_alloc | apply pw_below_drewN | apply below_drew1) | exact HB.out))); rintro e w67 ⟨rfl, hb⟩; refine ⟨_, rfl, ?_⟩; have n0_ := Aside0.mk (below_step (by repeat (first | (with_reducible first | exact HB.out | apply below_alloc | apply pw_below_drewN | apply below_drew1) | exact HB.out)) hb); clear HB; have HB := n0_; clear n0_; (try clear hb); (try clear hb2); (try clear hk); (try clear hi)) | ((with_reducible refine gate_callee (f := 18) rfl ?_); refine goesL_ (some 72) rfl rfl Tryz.func18 (by kernel_rfl) rfl #[.int .i64 1, .bool true, .string (a0 ++ (⟨#[39, 32, 121, 61, 39]⟩ : ByteArray))] rfl (by (try simp only [List.map_toArray, List.map_cons, List.map_nil]); first | done | rfl | (simp only [List.length_drop, List.length_take]; rfl)) ?_; (with_reducible refine (context_Parse.calls 1 true (a0 ++ (⟨#[39, 32, 121, 61, 39]⟩ : ByteArray)) t116 false _ ?side1 A22.out).mono ?_); (case side1 => exact Glob.step hGl (by repeat (first | (with_reducible first | exact HB.out | apply below_alloc | apply pw_below_drewN | apply below_drew1) | exact HB.out))); rintro e w68 ⟨rfl, hb⟩; refine ⟨_, rfl, ?_⟩; have n0_ := Aside0.mk (below_step (by repeat (first | (with_reducible first | exact HB.out | apply below_alloc | apply pw_below_drewN | apply below_drew1) | exact HB.out)) hb); clear HB; have HB := n0_; clear n0_; (try clear hb); (try clear hb2); (try clear hk); (try clear hi)) | ((with_reducible refine gate_callee (f := 18) rfl ?_); refine goesL_ (some 78) rfl rfl Tryz.func18 (by kernel_rfl) rfl #[.int .i64 2, .bool false, .string (a0 ++ (⟨#[60, 47, 116, 101, 120, 116, 97, 114, 101, 97, 62, 60, 98, 62]⟩ : ByteArray))] rfl (by (try simp only [List.map_toArray, List.map_cons, List.map_nil]); first | done | rfl | (simp only [List.length_drop, List.length_take]; rfl)) ?_; (with_reducible refine (context_Parse.calls 2 false (a0 ++ (⟨#[60, 47, 116, 101, 120, 116, 97, 114, 101, 97, 62, 60, 98, 62]⟩ : ByteArray)) t118 false _ ?side1 A24.out).mono ?_); (case side1 => exact Glob.step hGl (by repeat (first | (with_reducible first | exact HB.out | apply below_alloc | apply pw_below_drewN | apply below_drew1) | exact HB.out))); rintro e w69 ⟨rfl, hb⟩; refine ⟨_, rfl, ?_⟩; have n0_ := Aside0.mk (below_step (by repeat (first | (with_reducible first | exact HB.out | apply below_alloc | apply pw_below_drewN | apply below_drew1) | exact HB.out)) hb); clear HB; have HB := n0_; clear n0_; (try clear hb); (try clear hb2); (try clear hk); (try clear hi)) | ((with_reducible refine gate_callee (f := 18) rfl ?_); refine goesL_ (some 84) rfl rfl Tryz.func18 (by kernel_rfl) rfl #[.int .i64 1, .bool false, .string (a0 ++ (⟨#[39, 32, 121, 61, 39]⟩ : ByteArray))] rfl (by (try simp only [List.map_toArray, List.map_cons, List.map_nil]); first | done | rfl | (simp only [List.length_drop, List.length_take]; rfl)) ?_; (with_reducible refine (context_Parse.calls 1 false (a0 ++ (⟨#[39, 32, 121, 61, 39]⟩ : ByteArray)) t120 true _ ?side1 A25.out).mono ?_); (case side1 => exact Glob.step hGl (by repeat (first | (with_reducible first | exact HB.out | apply below_alloc | apply pw_below_drewN | apply below_drew1) | exact HB.out))); rintro e w70 ⟨rfl, hb⟩; refine ⟨_, rfl, ?_⟩; have n0_ := Aside0.mk (below_step (by repeat (first | (with_reducible first | exact HB.out | apply below_alloc | apply pw_below_drewN | apply below_drew1) | exact HB.out)) hb); clear HB; have HB := n0_; clear n0_; (try clear hb); (try clear hb2); (try clear hk); (try clear hi)) | ((with_reducible refine gate_callee (f := 18) rfl ?_); refine goesL_ (some 91) rfl rfl Tryz.func18 (by kernel_rfl) rfl #[.int .i64 2, .bool false, .string (((⟨#[97]⟩ : ByteArray) ++ a0) ++ (⟨#[60, 98, 62]⟩ : ByteArray))] rfl (by (try simp only [List.map_toArray, List.map_cons, List.map_nil]); first | done | rfl | (simp only [List.length_drop, List.length_take]; rfl)) ?_; (with_reducible refine (context_Parse.calls 2 false (((⟨#[97]⟩ : ByteArray) ++ a0) ++ (⟨#[60, 98, 62]⟩ : ByteArray)) t122 true _ ?side1 A28.out).mono ?_); (case side1 => exact Glob.step hGl (by repeat (first | (with_reducible first | exact HB.out | apply below_alloc | apply pw_below_drewN | apply below_drew1) | exact HB.out))); rintro e w71 ⟨rfl, hb⟩; refine ⟨_, rfl, ?_⟩; have n0_ := Aside0.mk (below_step (by repeat (first | (with_reducible first | exact HB.out | apply below_alloc | apply pw_below_drewN | apply below_drew1) | exact HB.out)) hb); clear HB; have HB := n0_; clear n0_; (try clear hb); (try clear hb2); (try clear hk); (try clear hi)) | (go_at_call 23; (with_reducible refine (lines_Norm.calls a0 t124 _ A60.out).mono ?_); rintro e w72 ⟨rfl, hb⟩; have n0_ := Aside0.mk (below_step (by repeat (first | (with_reducible first | exact HB.out | apply below_alloc | apply pw_below_drewN | apply below_drew1) | exact HB.out)) hb); clear HB; have HB := n0_; clear n0_; (try clear hb); (try clear hb2); (try clear hk); (try clear hi)) | (go_at_call 22; (with_reducible refine (lines_Clean.calls t124 t125 _ ?side1 A61.out).mono ?_); (case side1 => exact Glob.step hGl (by repeat (first | (with_reducible first | exact HB.out | apply below_alloc | apply pw_below_drewN | apply below_drew1) | exact HB.out))); rintro e w73 ⟨rfl, hb⟩; have n0_ := Aside0.mk (below_step (by repeat (first | (with_reducible first | exact HB.out | apply below_alloc | apply pw_below_drewN | apply below_drew1) | exact HB.out)) hb); clear HB; have HB := n0_; clear n0_; (try clear hb); (try clear hb2); (try clear hk); (try clear hi)))
                                          go_ret
                                          exact ⟨by first | rfl | (simp [errW_none, errW_some] <;> rfl) | (simp [*, errW_none, errW_some] <;> rfl), by repeat (first | (with_reducible first | exact HB.out | apply below_alloc | apply pw_below_drewN | apply below_drew1) | exact HB.out)⟩
                                        · rw [if_neg c65] at H
                                          exact absurd H (by simp)
                                      · rw [if_neg c64] at H
                                        exact absurd H (by simp)
                                    · rw [if_neg c63] at H
                                      have c63b0 : (t120.toList == (t125 ++ (⟨#[39, 32, 121, 61, 39]⟩ : ByteArray)).toList) = false := beq_eq_false_iff_ne.mpr c63
                                      have c63b1 : (t120.toList != (t125 ++ (⟨#[39, 32, 121, 61, 39]⟩ : ByteArray)).toList) = true := bne_iff_ne.mpr c63
                                      obtain rfl := Option.some.inj H
                                      go_wp2_with (first | ((with_reducible refine gate_callee (f := 18) rfl ?_); refine goesL_ (some 60) rfl rfl Tryz.func18 (by kernel_rfl) rfl #[.int .i64 0, .bool false, .string (a0 ++ (⟨#[60, 98, 62]⟩ : ByteArray))] rfl (by (try simp only [List.map_toArray, List.map_cons, List.map_nil]); first | done | rfl | (simp only [List.length_drop, List.length_take]; rfl)) ?_; (with_reducible refine (context_Parse.calls 0 false (a0 ++ (⟨#[60, 98, 62]⟩ : ByteArray)) t112 false _ ?side1 A19.out).mono ?_); (case side1 => exact Glob.step hGl (by repeat (first | (with_reducible first | exact HB.out | apply below_alloc | apply pw_below_drewN | apply below_drew1) | exact HB.out))); rintro e w74 ⟨rfl, hb⟩; refine ⟨_, rfl, ?_⟩; have n0_ := Aside0.mk (below_step (by repeat (first | (with_reducible first | exact HB.out | apply below_alloc | apply pw_below_drewN | apply below_drew1) | exact HB.out)) hb); clear HB; have HB := n0_; clear n0_; (try clear hb); (try clear hb2); (try clear hk); (try clear hi)) | ((with_reducible refine gate_callee (f := 18) rfl ?_); refine goesL_ (some 66) rfl rfl Tryz.func18 (by kernel_rfl) rfl #[.int .i64 1, .bool false, .string (a0 ++ (⟨#[34, 32, 121, 61, 34]⟩ : ByteArray))] rfl (by (try simp only [List.map_toArray, List.map_cons, List.map_nil]); first | done | rfl | (simp only [List.length_drop, List.length_take]; rfl)) ?_; (with_reducible refine (context_Parse.calls 1 false (a0 ++ (⟨#[34, 32, 121, 61, 34]⟩ : ByteArray)) t114 false _ ?side1 A21.out).mono ?_); (case side1 => exact Glob.step hGl (by repeat (first | (with_reducible first | exact HB.out | apply below_alloc | apply pw_below_drewN | apply below_drew1) | exact HB.out))); rintro e w75 ⟨rfl, hb⟩; refine ⟨_, rfl, ?_⟩; have n0_ := Aside0.mk (below_step (by repeat (first | (with_reducible first | exact HB.out | apply below_alloc | apply pw_below_drewN | apply below_drew1) | exact HB.out)) hb); clear HB; have HB := n0_; clear n0_; (try clear hb); (try clear hb2); (try clear hk); (try clear hi)) | ((with_reducible refine gate_callee (f := 18) rfl ?_); refine goesL_ (some 72) rfl rfl Tryz.func18 (by kernel_rfl) rfl #[.int .i64 1, .bool true, .string (a0 ++ (⟨#[39, 32, 121, 61, 39]⟩ : ByteArray))] rfl (by (try simp only [List.map_toArray, List.map_cons, List.map_nil]); first | done | rfl | (simp only [List.length_drop, List.length_take]; rfl)) ?_; (with_reducible refine (context_Parse.calls 1 true (a0 ++ (⟨#[39, 32, 121, 61, 39]⟩ : ByteArray)) t116 false _ ?side1 A22.out).mono ?_); (case side1 => exact Glob.step hGl (by repeat (first | (with_reducible first | exact HB.out | apply below_alloc | apply pw_below_drewN | apply below_drew1) | exact HB.out))); rintro e w76 ⟨rfl, hb⟩; refine ⟨_, rfl, ?_⟩; have n0_ := Aside0.mk (below_step (by repeat (first | (with_reducible first | exact HB.out | apply below_alloc | apply pw_below_drewN | apply below_drew1) | exact HB.out)) hb); clear HB; have HB := n0_; clear n0_; (try clear hb); (try clear hb2); (try clear hk); (try clear hi)) | ((with_reducible refine gate_callee (f := 18) rfl ?_); refine goesL_ (some 78) rfl rfl Tryz.func18 (by kernel_rfl) rfl #[.int .i64 2, .bool false, .string (a0 ++ (⟨#[60, 47, 116, 101, 120, 116, 97, 114, 101, 97, 62, 60, 98, 62]⟩ : ByteArray))] rfl (by (try simp only [List.map_toArray, List.map_cons, List.map_nil]); first | done | rfl | (simp only [List.length_drop, List.length_take]; rfl)) ?_; (with_reducible refine (context_Parse.calls 2 false (a0 ++ (⟨#[60, 47, 116, 101, 120, 116, 97, 114, 101, 97, 62, 60, 98, 62]⟩ : ByteArray)) t118 false _ ?side1 A24.out).mono ?_); (case side1 => exact Glob.step hGl (by repeat (first | (with_reducible first | exact HB.out | apply below_alloc | apply pw_below_drewN | apply below_drew1) | exact HB.out))); rintro e w77 ⟨rfl, hb⟩; refine ⟨_, rfl, ?_⟩; have n0_ := Aside0.mk (below_step (by repeat (first | (with_reducible first | exact HB.out | apply below_alloc | apply pw_below_drewN | apply below_drew1) | exact HB.out)) hb); clear HB; have HB := n0_; clear n0_; (try clear hb); (try clear hb2); (try clear hk); (try clear hi)) | ((with_reducible refine gate_callee (f := 18) rfl ?_); refine goesL_ (some 84) rfl rfl Tryz.func18 (by kernel_rfl) rfl #[.int .i64 1, .bool false, .string (a0 ++ (⟨#[39, 32, 121, 61, 39]⟩ : ByteArray))] rfl (by (try simp only [List.map_toArray, List.map_cons, List.map_nil]); first | done | rfl | (simp only [List.length_drop, List.length_take]; rfl)) ?_; (with_reducible refine (context_Parse.calls 1 false (a0 ++ (⟨#[39, 32, 121, 61, 39]⟩ : ByteArray)) t120 true _ ?side1 A25.out).mono ?_); (case side1 => exact Glob.step hGl (by repeat (first | (with_reducible first | exact HB.out | apply below_alloc | apply pw_below_drewN | apply below_drew1) | exact HB.out))); rintro e w78 ⟨rfl, hb⟩; refine ⟨_, rfl, ?_⟩; have n0_ := Aside0.mk (below_step (by repeat (first | (with_reducible first | exact HB.out | apply below_alloc | apply pw_below_drewN | apply below_drew1) | exact HB.out)) hb); clear HB; have HB := n0_; clear n0_; (try clear hb); (try clear hb2); (try clear hk); (try clear hi)) | ((with_reducible refine gate_callee (f := 18) rfl ?_); refine goesL_ (some 91) rfl rfl Tryz.func18 (by kernel_rfl) rfl #[.int .i64 2, .bool false, .string (((⟨#[97]⟩ : ByteArray) ++ a0) ++ (⟨#[60, 98, 62]⟩ : ByteArray))] rfl (by (try simp only [List.map_toArray, List.map_cons, List.map_nil]); first | done | rfl | (simp only [List.length_drop, List.length_take]; rfl)) ?_; (with_reducible refine (context_Parse.calls 2 false (((⟨#[97]⟩ : ByteArray) ++ a0) ++ (⟨#[60, 98, 62]⟩ : ByteArray)) t122 true _ ?side1 A28.out).mono ?_); (case side1 => exact Glob.step hGl (by repeat (first | (with_reducible first | exact HB.out | apply below_alloc | apply pw_below_drewN | apply below_drew1) | exact HB.out))); rintro e w79 ⟨rfl, hb⟩; refine ⟨_, rfl, ?_⟩; have n0_ := Aside0.mk (below_step (by repeat (first | (with_reducible first | exact HB.out | apply below_alloc | apply pw_below_drewN | apply below_drew1) | exact HB.out)) hb); clear HB; have HB := n0_; clear n0_; (try clear hb); (try clear hb2); (try clear hk); (try clear hi)) | (go_at_call 23; (with_reducible refine (lines_Norm.calls a0 t124 _ A60.out).mono ?_); rintro e w80 ⟨rfl, hb⟩; have n0_ := Aside0.mk (below_step (by repeat (first | (with_reducible first | exact HB.out | apply below_alloc | apply pw_below_drewN | apply below_drew1) | exact HB.out)) hb); clear HB; have HB := n0_; clear n0_; (try clear hb); (try clear hb2); (try clear hk); (try clear hi)) | (go_at_call 22; (with_reducible refine (lines_Clean.calls t124 t125 _ ?side1 A61.out).mono ?_); (case side1 => exact Glob.step hGl (by repeat (first | (with_reducible first | exact HB.out | apply below_alloc | apply pw_below_drewN | apply below_drew1) | exact HB.out))); rintro e w81 ⟨rfl, hb⟩; have n0_ := Aside0.mk (below_step (by repeat (first | (with_reducible first | exact HB.out | apply below_alloc | apply pw_below_drewN | apply below_drew1) | exact HB.out)) hb); clear HB; have HB := n0_; clear n0_; (try clear hb); (try clear hb2); (try clear hk); (try clear hi)))
                                      go_ret
                                      exact ⟨by first | rfl | (simp [errW_none, errW_some] <;> rfl) | (simp [*, errW_none, errW_some] <;> rfl), by repeat (first | (with_reducible first | exact HB.out | apply below_alloc | apply pw_below_drewN | apply below_drew1) | exact HB.out)⟩
                                  · rw [if_neg c62] at H
                                    exact absurd H (by simp)
                                · replace c59 := Bool.eq_false_iff.mpr c59
                                  subst c59
                                  have H1 : (some false) = some r := by rw [if_neg (show ¬ (false = true) by decide)] at H; exact H
                                  clear H
                                  have H := H1
                                  clear H1
                                  obtain rfl := Option.some.inj H
                                  go_wp2_with (first | ((with_reducible refine gate_callee (f := 18) rfl ?_); refine goesL_ (some 60) rfl rfl Tryz.func18 (by kernel_rfl) rfl #[.int .i64 0, .bool false, .string (a0 ++ (⟨#[60, 98, 62]⟩ : ByteArray))] rfl (by (try simp only [List.map_toArray, List.map_cons, List.map_nil]); first | done | rfl | (simp only [List.length_drop, List.length_take]; rfl)) ?_; (with_reducible refine (context_Parse.calls 0 false (a0 ++ (⟨#[60, 98, 62]⟩ : ByteArray)) t112 false _ ?side1 A19.out).mono ?_); (case side1 => exact Glob.step hGl (by repeat (first | (with_reducible first | exact HB.out | apply below_alloc | apply pw_below_drewN | apply below_drew1) | exact HB.out))); rintro e w82 ⟨rfl, hb⟩; refine ⟨_, rfl, ?_⟩; have n0_ := Aside0.mk (below_step (by repeat (first | (with_reducible first | exact HB.out | apply below_alloc | apply pw_below_drewN | apply below_drew1) | exact HB.out)) hb); clear HB; have HB := n0_; clear n0_; (try clear hb); (try clear hb2); (try clear hk); (try clear hi)) | ((with_reducible refine gate_callee (f := 18) rfl ?_); refine goesL_ (some 66) rfl rfl Tryz.func18 (by kernel_rfl) rfl #[.int .i64 1, .bool false, .string (a0 ++ (⟨#[34, 32, 121, 61, 34]⟩ : ByteArray))] rfl (by (try simp only [List.map_toArray, List.map_cons, List.map_nil]); first | done | rfl | (simp only [List.length_drop, List.length_take]; rfl)) ?_; (with_reducible refine (context_Parse.calls 1 false (a0 ++ (⟨#[34, 32, 121, 61, 34]⟩ : ByteArray)) t114 false _ ?side1 A21.out).mono ?_); (case side1 => exact Glob.step hGl (by repeat (first | (with_reducible first | exact HB.out | apply below_alloc | apply pw_below_drewN | apply below_drew1) | exact HB.out))); rintro e w83 ⟨rfl, hb⟩; refine ⟨_, rfl, ?_⟩; have n0_ := Aside0.mk (below_step (by repeat (first | (with_reducible first | exact HB.out | apply below_alloc | apply pw_below_drewN | apply below_drew1) | exact HB.out)) hb); clear HB; have HB := n0_; clear n0_; (try clear hb); (try clear hb2); (try clear hk); (try clear hi)) | ((with_reducible refine gate_callee (f := 18) rfl ?_); refine goesL_ (some 72) rfl rfl Tryz.func18 (by kernel_rfl) rfl #[.int .i64 1, .bool true, .string (a0 ++ (⟨#[39, 32, 121, 61, 39]⟩ : ByteArray))] rfl (by (try simp only [List.map_toArray, List.map_cons, List.map_nil]); first | done | rfl | (simp only [List.length_drop, List.length_take]; rfl)) ?_; (with_reducible refine (context_Parse.calls 1 true (a0 ++ (⟨#[39, 32, 121, 61, 39]⟩ : ByteArray)) t116 false _ ?side1 A22.out).mono ?_); (case side1 => exact Glob.step hGl (by repeat (first | (with_reducible first | exact HB.out | apply below_alloc | apply pw_below_drewN | apply below_drew1) | exact HB.out))); rintro e w84 ⟨rfl, hb⟩; refine ⟨_, rfl, ?_⟩; have n0_ := Aside0.mk (below_step (by repeat (first | (with_reducible first | exact HB.out | apply below_alloc | apply pw_below_drewN | apply below_drew1) | exact HB.out)) hb); clear HB; have HB := n0_; clear n0_; (try clear hb); (try clear hb2); (try clear hk); (try clear hi)) | ((with_reducible refine gate_callee (f := 18) rfl ?_); refine goesL_ (some 78) rfl rfl Tryz.func18 (by kernel_rfl) rfl #[.int .i64 2, .bool false, .string (a0 ++ (⟨#[60, 47, 116, 101, 120, 116, 97, 114, 101, 97, 62, 60, 98, 62]⟩ : ByteArray))] rfl (by (try simp only [List.map_toArray, List.map_cons, List.map_nil]); first | done | rfl | (simp only [List.length_drop, List.length_take]; rfl)) ?_; (with_reducible refine (context_Parse.calls 2 false (a0 ++ (⟨#[60, 47, 116, 101, 120, 116, 97, 114, 101, 97, 62, 60, 98, 62]⟩ : ByteArray)) t118 false _ ?side1 A24.out).mono ?_); (case side1 => exact Glob.step hGl (by repeat (first | (with_reducible first | exact HB.out | apply below_alloc | apply pw_below_drewN | apply below_drew1) | exact HB.out))); rintro e w85 ⟨rfl, hb⟩; refine ⟨_, rfl, ?_⟩; have n0_ := Aside0.mk (below_step (by repeat (first | (with_reducible first | exact HB.out | apply below_alloc | apply pw_below_drewN | apply below_drew1) | exact HB.out)) hb); clear HB; have HB := n0_; clear n0_; (try clear hb); (try clear hb2); (try clear hk); (try clear hi)) | ((with_reducible refine gate_callee (f := 18) rfl ?_); refine goesL_ (some 84) rfl rfl Tryz.func18 (by kernel_rfl) rfl #[.int .i64 1, .bool false, .string (a0 ++ (⟨#[39, 32, 121, 61, 39]⟩ : ByteArray))] rfl (by (try simp only [List.map_toArray, List.map_cons, List.map_nil]); first | done | rfl | (simp only [List.length_drop, List.length_take]; rfl)) ?_; (with_reducible refine (context_Parse.calls 1 false (a0 ++ (⟨#[39, 32, 121, 61, 39]⟩ : ByteArray)) t120 true _ ?side1 A25.out).mono ?_); (case side1 => exact Glob.step hGl (by repeat (first | (with_reducible first | exact HB.out | apply below_alloc | apply pw_below_drewN | apply below_drew1) | exact HB.out))); rintro e w86 ⟨rfl, hb⟩; refine ⟨_, rfl, ?_⟩; have n0_ := Aside0.mk (below_step (by repeat (first | (with_reducible first | exact HB.out | apply below_alloc | apply pw_below_drewN | apply below_drew1) | exact HB.out)) hb); clear HB; have HB := n0_; clear n0_; (try clear hb); (try clear hb2); (try clear hk); (try clear hi)) | ((with_reducible refine gate_callee (f := 18) rfl ?_); refine goesL_ (some 91) rfl rfl Tryz.func18 (by kernel_rfl) rfl #[.int .i64 2, .bool false, .string (((⟨#[97]⟩ : ByteArray) ++ a0) ++ (⟨#[60, 98, 62]⟩ : ByteArray))] rfl (by (try simp only [List.map_toArray, List.map_cons, List.map_nil]); first | done | rfl | (simp only [List.length_drop, List.length_take]; rfl)) ?_; (with_reducible refine (context_Parse.calls 2 false (((⟨#[97]⟩ : ByteArray) ++ a0) ++ (⟨#[60, 98, 62]⟩ : ByteArray)) t122 false _ ?side1 A28.out).mono ?_); (case side1 => exact Glob.step hGl (by repeat (first | (with_reducible first | exact HB.out | apply below_alloc | apply pw_below_drewN | apply below_drew1) | exact HB.out))); rintro e w87 ⟨rfl, hb⟩; refine ⟨_, rfl, ?_⟩; have n0_ := Aside0.mk (below_step (by repeat (first | (with_reducible first | exact HB.out | apply below_alloc | apply pw_below_drewN | apply below_drew1) | exact HB.out)) hb); clear HB; have HB := n0_; clear n0_; (try clear hb); (try clear hb2); (try clear hk); (try clear hi)))
                                  go_ret
                                  exact ⟨by first | rfl | (simp [errW_none, errW_some] <;> rfl) | (simp [*, errW_none, errW_some] <;> rfl), by repeat (first | (with_reducible first | exact HB.out | apply below_alloc | apply pw_below_drewN | apply below_drew1) | exact HB.out)⟩
                              · replace c58 := Bool.eq_false_iff.mpr c58
                                subst c58
                                have H1 : (some false) = some r := by rw [if_neg (show ¬ (false = true) by decide)] at H; exact H
                                clear H
                                have H := H1
                                clear H1
                                obtain rfl := Option.some.inj H
                                go_wp2_with (first | ((with_reducible refine gate_callee (f := 18) rfl ?_); refine goesL_ (some 60) rfl rfl Tryz.func18 (by kernel_rfl) rfl #[.int .i64 0, .bool false, .string (a0 ++ (⟨#[60, 98, 62]⟩ : ByteArray))] rfl (by (try simp only [List.map_toArray, List.map_cons, List.map_nil]); first | done | rfl | (simp only [List.length_drop, List.length_take]; rfl)) ?_; (with_reducible refine (context_Parse.calls 0 false (a0 ++ (⟨#[60, 98, 62]⟩ : ByteArray)) t112 false _ ?side1 A19.out).mono ?_); (case side1 => exact Glob.step hGl (by repeat (first | (with_reducible first | exact HB.out | apply below_alloc | apply pw_below_drewN | apply below_drew1) | exact HB.out))); rintro e w88 ⟨rfl, hb⟩; refine ⟨_, rfl, ?_⟩; have n0_ := Aside0.mk (below_step (by repeat (first | (with_reducible first | exact HB.out | apply below_alloc | apply pw_below_drewN | apply below_drew1) | exact HB.out)) hb); clear HB; have HB := n0_; clear n0_; (try clear hb); (try clear hb2); (try clear hk); (try clear hi)) | ((with_reducible refine gate_callee (f := 18) rfl ?_); refine goesL_ (some 66) rfl rfl Tryz.func18 (by kernel_rfl) rfl #[.int .i64 1, .bool false, .string (a0 ++ (⟨#[34, 32, 121, 61, 34]⟩ : ByteArray))] rfl (by (try simp only [List.map_toArray, List.map_cons, List.map_nil]); first | done | rfl | (simp only [List.length_drop, List.length_take]; rfl)) ?_; (with_reducible refine (context_Parse.calls 1 false (a0 ++ (⟨#[34, 32, 121, 61, 34]⟩ : ByteArray)) t114 false _ ?side1 A21.out).mono ?_); (case side1 => exact Glob.step hGl (by repeat (first | (with_reducible first | exact HB.out | apply below_alloc | apply pw_below_drewN | apply below_drew1) | exact HB.out))); rintro e w89 ⟨rfl, hb⟩; refine ⟨_, rfl, ?_⟩; have n0_ := Aside0.mk (below_step (by repeat (first | (with_reducible first | exact HB.out | apply below_alloc | apply pw_below_drewN | apply below_drew1) | exact HB.out)) hb); clear HB; have HB := n0_; clear n0_; (try clear hb); (try clear hb2); (try clear hk); (try clear hi)) | ((with_reducible refine gate_callee (f := 18) rfl ?_); refine goesL_ (some 72) rfl rfl Tryz.func18 (by kernel_rfl) rfl #[.int .i64 1, .bool true, .string (a0 ++ (⟨#[39, 32, 121, 61, 39]⟩ : ByteArray))] rfl (by (try simp only [List.map_toArray, List.map_cons, List.map_nil]); first | done | rfl | (simp only [List.length_drop, List.length_take]; rfl)) ?_; (with_reducible refine (context_Parse.calls 1 true (a0 ++ (⟨#[39, 32, 121, 61, 39]⟩ : ByteArray)) t116 false _ ?side1 A22.out).mono ?_); (case side1 => exact Glob.step hGl (by repeat (first | (with_reducible first | exact HB.out | apply below_alloc | apply pw_below_drewN | apply below_drew1) | exact HB.out))); rintro e w90 ⟨rfl, hb⟩; refine ⟨_, rfl, ?_⟩; have n0_ := Aside0.mk (below_step (by repeat (first | (with_reducible first | exact HB.out | apply below_alloc | apply pw_below_drewN | apply below_drew1) | exact HB.out)) hb); clear HB; have HB := n0_; clear n0_; (try clear hb); (try clear hb2); (try clear hk); (try clear hi)) | ((with_reducible refine gate_callee (f := 18) rfl ?_); refine goesL_ (some 78) rfl rfl Tryz.func18 (by kernel_rfl) rfl #[.int .i64 2, .bool false, .string (a0 ++ (⟨#[60, 47, 116, 101, 120, 116, 97, 114, 101, 97, 62, 60, 98, 62]⟩ : ByteArray))] rfl (by (try simp only [List.map_toArray, List.map_cons, List.map_nil]); first | done | rfl | (simp only [List.length_drop, List.length_take]; rfl)) ?_; (with_reducible refine (context_Parse.calls 2 false (a0 ++ (⟨#[60, 47, 116, 101, 120, 116, 97, 114, 101, 97, 62, 60, 98, 62]⟩ : ByteArray)) t118 false _ ?side1 A24.out).mono ?_); (case side1 => exact Glob.step hGl (by repeat (first | (with_reducible first | exact HB.out | apply below_alloc | apply pw_below_drewN | apply below_drew1) | exact HB.out))); rintro e w91 ⟨rfl, hb⟩; refine ⟨_, rfl, ?_⟩; have n0_ := Aside0.mk (below_step (by repeat (first | (with_reducible first | exact HB.out | apply below_alloc | apply pw_below_drewN | apply below_drew1) | exact HB.out)) hb); clear HB; have HB := n0_; clear n0_; (try clear hb); (try clear hb2); (try clear hk); (try clear hi)) | ((with_reducible refine gate_callee (f := 18) rfl ?_); refine goesL_ (some 84) rfl rfl Tryz.func18 (by kernel_rfl) rfl #[.int .i64 1, .bool false, .string (a0 ++ (⟨#[39, 32, 121, 61, 39]⟩ : ByteArray))] rfl (by (try simp only [List.map_toArray, List.map_cons, List.map_nil]); first | done | rfl | (simp only [List.length_drop, List.length_take]; rfl)) ?_; (with_reducible refine (context_Parse.calls 1 false (a0 ++ (⟨#[39, 32, 121, 61, 39]⟩ : ByteArray)) t120 false _ ?side1 A25.out).mono ?_); (case side1 => exact Glob.step hGl (by repeat (first | (with_reducible first | exact HB.out | apply below_alloc | apply pw_below_drewN | apply below_drew1) | exact HB.out))); rintro e w92 ⟨rfl, hb⟩; refine ⟨_, rfl, ?_⟩; have n0_ := Aside0.mk (below_step (by repeat (first | (with_reducible first | exact HB.out | apply below_alloc | apply pw_below_drewN | apply below_drew1) | exact HB.out)) hb); clear HB; have HB := n0_; clear n0_; (try clear hb); (try clear hb2); (try clear hk); (try clear hi)) | ((with_reducible refine gate_callee (f := 18) rfl ?_); refine goesL_ (some 91) rfl rfl Tryz.func18 (by kernel_rfl) rfl #[.int .i64 2, .bool false, .string (((⟨#[97]⟩ : ByteArray) ++ a0) ++ (⟨#[60, 98, 62]⟩ : ByteArray))] rfl (by (try simp only [List.map_toArray, List.map_cons, List.map_nil]); first | done | rfl | (simp only [List.length_drop, List.length_take]; rfl)) ?_; (with_reducible refine (context_Parse.calls 2 false (((⟨#[97]⟩ : ByteArray) ++ a0) ++ (⟨#[60, 98, 62]⟩ : ByteArray)) t122 t123 _ ?side1 A28.out).mono ?_); (case side1 => exact Glob.step hGl (by repeat (first | (with_reducible first | exact HB.out | apply below_alloc | apply pw_below_drewN | apply below_drew1) | exact HB.out))); rintro e w93 ⟨rfl, hb⟩; refine ⟨_, rfl, ?_⟩; have n0_ := Aside0.mk (below_step (by repeat (first | (with_reducible first | exact HB.out | apply below_alloc | apply pw_below_drewN | apply below_drew1) | exact HB.out)) hb); clear HB; have HB := n0_; clear n0_; (try clear hb); (try clear hb2); (try clear hk); (try clear hi)))
                                go_ret
                                exact ⟨by first | rfl | (simp [errW_none, errW_some] <;> rfl) | (simp [*, errW_none, errW_some] <;> rfl), by repeat (first | (with_reducible first | exact HB.out | apply below_alloc | apply pw_below_drewN | apply below_drew1) | exact HB.out)⟩
                    · replace c29 := Bool.eq_false_iff.mpr c29
                      subst c29
                      have H1 : (some false) = some r := by rw [if_neg (show ¬ (false = true) by decide)] at H; exact H
                      clear H
                      have H := H1
                      clear H1
                      obtain rfl := Option.some.inj H
                      go_wp2_with (first | ((with_reducible refine gate_callee (f := 18) rfl ?_); refine goesL_ (some 60) rfl rfl Tryz.func18 (by kernel_rfl) rfl #[.int .i64 0, .bool false, .string (a0 ++ (⟨#[60, 98, 62]⟩ : ByteArray))] rfl (by (try simp only [List.map_toArray, List.map_cons, List.map_nil]); first | done | rfl | (simp only [List.length_drop, List.length_take]; rfl)) ?_; (with_reducible refine (context_Parse.calls 0 false (a0 ++ (⟨#[60, 98, 62]⟩ : ByteArray)) t112 t113 _ ?side1 A19.out).mono ?_); (case side1 => exact Glob.step hGl (by repeat (first | (with_reducible first | exact HB.out | apply below_alloc | apply pw_below_drewN | apply below_drew1) | exact HB.out))); rintro e w94 ⟨rfl, hb⟩; refine ⟨_, rfl, ?_⟩; have n0_ := Aside0.mk (below_step (by repeat (first | (with_reducible first | exact HB.out | apply below_alloc | apply pw_below_drewN | apply below_drew1) | exact HB.out)) hb); clear HB; have HB := n0_; clear n0_; (try clear hb); (try clear hb2); (try clear hk); (try clear hi)) | ((with_reducible refine gate_callee (f := 18) rfl ?_); refine goesL_ (some 66) rfl rfl Tryz.func18 (by kernel_rfl) rfl #[.int .i64 1, .bool false, .string (a0 ++ (⟨#[34, 32, 121, 61, 34]⟩ : ByteArray))] rfl (by (try simp only [List.map_toArray, List.map_cons, List.map_nil]); first | done | rfl | (simp only [List.length_drop, List.length_take]; rfl)) ?_; (with_reducible refine (context_Parse.calls 1 false (a0 ++ (⟨#[34, 32, 121, 61, 34]⟩ : ByteArray)) t114 t115 _ ?side1 A21.out).mono ?_); (case side1 => exact Glob.step hGl (by repeat (first | (with_reducible first | exact HB.out | apply below_alloc | apply pw_below_drewN | apply below_drew1) | exact HB.out))); rintro e w95 ⟨rfl, hb⟩; refine ⟨_, rfl, ?_⟩; have n0_ := Aside0.mk (below_step (by repeat (first | (with_reducible first | exact HB.out | apply below_alloc | apply pw_below_drewN | apply below_drew1) | exact HB.out)) hb); clear HB; have HB := n0_; clear n0_; (try clear hb); (try clear hb2); (try clear hk); (try clear hi)) | ((with_reducible refine gate_callee (f := 18) rfl ?_); refine goesL_ (some 72) rfl rfl Tryz.func18 (by kernel_rfl) rfl #[.int .i64 1, .bool true, .string (a0 ++ (⟨#[39, 32, 121, 61, 39]⟩ : ByteArray))] rfl (by (try simp only [List.map_toArray, List.map_cons, List.map_nil]); first | done | rfl | (simp only [List.length_drop, List.length_take]; rfl)) ?_; (with_reducible refine (context_Parse.calls 1 true (a0 ++ (⟨#[39, 32, 121, 61, 39]⟩ : ByteArray)) t116 t117 _ ?side1 A22.out).mono ?_); (case side1 => exact Glob.step hGl (by repeat (first | (with_reducible first | exact HB.out | apply below_alloc | apply pw_below_drewN | apply below_drew1) | exact HB.out))); rintro e w96 ⟨rfl, hb⟩; refine ⟨_, rfl, ?_⟩; have n0_ := Aside0.mk (below_step (by repeat (first | (with_reducible first | exact HB.out | apply below_alloc | apply pw_below_drewN | apply below_drew1) | exact HB.out)) hb); clear HB; have HB := n0_; clear n0_; (try clear hb); (try clear hb2); (try clear hk); (try clear hi)) | ((with_reducible refine gate_callee (f := 18) rfl ?_); refine goesL_ (some 78) rfl rfl Tryz.func18 (by kernel_rfl) rfl #[.int .i64 2, .bool false, .string (a0 ++ (⟨#[60, 47, 116, 101, 120, 116, 97, 114, 101, 97, 62, 60, 98, 62]⟩ : ByteArray))] rfl (by (try simp only [List.map_toArray, List.map_cons, List.map_nil]); first | done | rfl | (simp only [List.length_drop, List.length_take]; rfl)) ?_; (with_reducible refine (context_Parse.calls 2 false (a0 ++ (⟨#[60, 47, 116, 101, 120, 116, 97, 114, 101, 97, 62, 60, 98, 62]⟩ : ByteArray)) t118 t119 _ ?side1 A24.out).mono ?_); (case side1 => exact Glob.step hGl (by repeat (first | (with_reducible first | exact HB.out | apply below_alloc | apply pw_below_drewN | apply below_drew1) | exact HB.out))); rintro e w97 ⟨rfl, hb⟩; refine ⟨_, rfl, ?_⟩; have n0_ := Aside0.mk (below_step (by repeat (first | (with_reducible first | exact HB.out | apply below_alloc | apply pw_below_drewN | apply below_drew1) | exact HB.out)) hb); clear HB; have HB := n0_; clear n0_; (try clear hb); (try clear hb2); (try clear hk); (try clear hi)) | ((with_reducible refine gate_callee (f := 18) rfl ?_); refine goesL_ (some 84) rfl rfl Tryz.func18 (by kernel_rfl) rfl #[.int .i64 1, .bool false, .string (a0 ++ (⟨#[39, 32, 121, 61, 39]⟩ : ByteArray))] rfl (by (try simp only [List.map_toArray, List.map_cons, List.map_nil]); first | done | rfl | (simp only [List.length_drop, List.length_take]; rfl)) ?_; (with_reducible refine (context_Parse.calls 1 false (a0 ++ (⟨#[39, 32, 121, 61, 39]⟩ : ByteArray)) t120 t121 _ ?side1 A25.out).mono ?_); (case side1 => exact Glob.step hGl (by repeat (first | (with_reducible first | exact HB.out | apply below_alloc | apply pw_below_drewN | apply below_drew1) | exact HB.out))); rintro e w98 ⟨rfl, hb⟩; refine ⟨_, rfl, ?_⟩; have n0_ := Aside0.mk (below_step (by repeat (first | (with_reducible first | exact HB.out | apply below_alloc | apply pw_below_drewN | apply below_drew1) | exact HB.out)) hb); clear HB; have HB := n0_; clear n0_; (try clear hb); (try clear hb2); (try clear hk); (try clear hi)) | ((with_reducible refine gate_callee (f := 18) rfl ?_); refine goesL_ (some 91) rfl rfl Tryz.func18 (by kernel_rfl) rfl #[.int .i64 2, .bool false, .string (((⟨#[97]⟩ : ByteArray) ++ a0) ++ (⟨#[60, 98, 62]⟩ : ByteArray))] rfl (by (try simp only [List.map_toArray, List.map_cons, List.map_nil]); first | done | rfl | (simp only [List.length_drop, List.length_take]; rfl)) ?_; (with_reducible refine (context_Parse.calls 2 false (((⟨#[97]⟩ : ByteArray) ++ a0) ++ (⟨#[60, 98, 62]⟩ : ByteArray)) t122 t123 _ ?side1 A28.out).mono ?_); (case side1 => exact Glob.step hGl (by repeat (first | (with_reducible first | exact HB.out | apply below_alloc | apply pw_below_drewN | apply below_drew1) | exact HB.out))); rintro e w99 ⟨rfl, hb⟩; refine ⟨_, rfl, ?_⟩; have n0_ := Aside0.mk (below_step (by repeat (first | (with_reducible first | exact HB.out | apply below_alloc | apply pw_below_drewN | apply below_drew1) | exact HB.out)) hb); clear HB; have HB := n0_; clear n0_; (try clear hb); (try clear hb2); (try clear hk); (try clear hi)))
                      go_ret
                      exact ⟨by first | rfl | (simp [errW_none, errW_some] <;> rfl) | (simp [*, errW_none, errW_some] <;> rfl), by repeat (first | (with_reducible first | exact HB.out | apply below_alloc | apply pw_below_drewN | apply below_drew1) | exact HB.out)⟩
                  · rw [if_neg c27] at H
                    exact absurd H (by simp)
                · rw [if_neg c26] at H
                  exact absurd H (by simp)
              · rw [if_neg c23] at H
                exact absurd H (by simp)
            · rw [if_neg c20] at H
              exact absurd H (by simp)
          · rw [if_neg c18] at H
            exact absurd H (by simp)
end Go.Proofs.YtbdcghbafopjjaaGreatDoor.Sp
end

section
namespace Go.Proofs.YtbdcghbafopjjaaGreatDoor.Hand
open Go Go.RowKit Go.Proofs.YtbdcghbafopjjaaGreatDoor.Pl Go.Proofs.YtbdcghbafopjjaaGreatDoor.Pb Go.Proofs.YtbdcghbafopjjaaGreatDoor.Pure
theorem tagN_b (x : List UInt8) : tagN (60 :: 98 :: x) = 1 := rfl
theorem attrL_62 (L : List AttrT) (x : List UInt8) : attrL L (62 :: x) = some (L, false, x) := by
  rw [attrL_eq, show spL (62 :: x) = 62 :: x from rfl]
  simp only [if_true]
theorem tokL_b (x : List UInt8) : tokL (60 :: 98 :: 62 :: x) = (some (.start [98] [] false), x) := by
  unfold tokL
  rw [if_pos (by rw [tagN_b]; decide)]
  unfold tagL
  rw [tagN_b, show (((60 : UInt8) :: 98 :: 62 :: x).drop 1).dropWhile stC = 62 :: x from rfl, attrL_62]
  rfl
theorem drvL_b (x : List UInt8) : drvL (60 :: 98 :: 62 :: x) = .start [98] [] false :: drvL x := by
  rw [drvL_eq (by simp), tokL_b]
  rfl
theorem only_b {t : List UInt8} (h : (60 : UInt8) ∉ t) : (onlyL (driveL (t ++ [60, 98, 62]))).2 = false := by
  have hd : drvL (t ++ [60, 98, 62]) = (if t = [] then [] else [.text (rdL false t)]) ++ [.start [98] [] false] := by
    by_cases ht : t = []
    · subst ht; rw [if_pos rfl, List.nil_append, drvL_b, drvL_nil]; rfl
    · rw [if_neg ht, drvL_text ht h rfl, drvL_b, drvL_nil]; rfl
  have hj : ∃ u, driveL (t ++ [60, 98, 62]) = txtT u ++ [.start [98] [] false] := by
    unfold driveL
    rw [hd]
    split
    · exact ⟨[], rfl⟩
    · exact ⟨rdL false t, joinL_txno _ [] rfl⟩
  obtain ⟨u, hu⟩ := hj
  rw [hu]
  unfold txtT
  split <;> rfl
theorem spL_sp (r : List UInt8) : spL (32 :: r) = spL r := rfl
theorem attrL_sp (L : List AttrT) (r : List UInt8) : attrL L (32 :: r) = attrL L r := by rw [attrL_eq, attrL_eq L r, spL_sp]
theorem quoted_G {q : UInt8} (hq : q = 34 ∨ q = 39) {c : UInt8} (hn : nmC c = true) (L : List AttrT) {s r : List UInt8} (hs : q ∉ s) : attrL L (c :: 61 :: q :: (s ++ q :: r)) = attrL (addA L [c] s) r := by
  have hq2 : isSp q = false := by rcases hq with rfl | rfl <;> rfl
  unfold nmC at hn
  rw [Bool.not_eq_true', Bool.or_eq_false_iff, Bool.or_eq_false_iff, Bool.or_eq_false_iff] at hn
  obtain ⟨⟨⟨n1, n2⟩, n3⟩, n4⟩ := hn
  have e1 : spL (c :: 61 :: q :: (s ++ q :: r)) = c :: 61 :: q :: (s ++ q :: r) := by unfold spL; rw [List.dropWhile_cons, n1]; rfl
  have e2 : (61 :: q :: (s ++ q :: r)).dropWhile nmC = 61 :: q :: (s ++ q :: r) := rfl
  have e2' : (61 :: q :: (s ++ q :: r)).takeWhile nmC = [] := rfl
  have e3 : spL (q :: (s ++ q :: r)) = q :: (s ++ q :: r) := by unfold spL; rw [List.dropWhile_cons, hq2]; rfl
  have e4 : valA (61 :: q :: (s ++ q :: r)) = some (s, r) := by
    unfold valA
    rw [show spL (61 :: q :: (s ++ q :: r)) = 61 :: q :: (s ++ q :: r) from rfl]
    simp only [e3]
    rw [if_pos hq, if_pos (by simp), upto_stop hs]
    unfold past
    rw [upto_stop hs]
    congr 2
    rw [show s ++ q :: r = (s ++ [q]) ++ r by simp, show s.length + 1 = (s ++ [q]).length by simp]
    exact List.drop_left
  rw [attrL_eq, e1]
  simp only [e2, e2', e4]
  rw [if_neg (by simpa using n3), if_neg (by simpa using n2)]
theorem tokL_a {x r : List UInt8} {al : List AttrT} {self : Bool} (h : attrL [] x = some (al, self, r)) : tokL (60 :: 97 :: 32 :: x) = (some (.start [97] al self), r) := by
  have ht : tagN (60 :: 97 :: 32 :: x) = 1 := rfl
  unfold tokL
  rw [if_pos (by rw [ht]; decide)]
  unfold tagL
  rw [ht, show (((60 : UInt8) :: 97 :: 32 :: x).drop 1).dropWhile stC = 32 :: x from rfl, attrL_sp, h]
  rfl
theorem drive_a {x : List UInt8} {al : List AttrT} {self : Bool} (h : attrL [] x = some (al, self, [])) : driveL (60 :: 97 :: 32 :: x) = [.start [97] al self] := by
  unfold driveL
  rw [drvL_eq (by simp), tokL_a h]
  rfl
theorem qB_or (single : Bool) : qB single = 34 ∨ qB single = 39 := by cases single <;> decide
theorem wrap1 (single : Bool) (t : List UInt8) : wrapL 1 single t = 60 :: 97 :: 32 :: 120 :: 61 :: qB single :: (t ++ qB single :: [62]) := by
  unfold wrapL attrO
  rw [if_neg (by decide), if_pos rfl]
  rfl
theorem value_txt (single : Bool) {t : List UInt8} (h : qB single ∉ t) : valueL (driveL (wrapL 1 single t)) = (cleanL (rdL true t), true) := by
  rw [wrap1, drive_a (al := [([120], cleanL (rdL true t))]) (self := false) (by rw [quoted_L (qB_or single) h, attrL_62])]
  rfl
theorem value_two (single : Bool) {t : List UInt8} (h : qB single ∉ t) : (valueL (driveL (wrapL 1 single (t ++ [qB single, 32, 121, 61, qB single])))).2 = false := by
  have e : t ++ [qB single, 32, 121, 61, qB single] ++ qB single :: [62] = t ++ qB single :: (32 :: 121 :: 61 :: qB single :: ([] ++ qB single :: [62])) := by simp
  rw [wrap1, e, drive_a (al := [([120], cleanL (rdL true t)), ([121], cleanL (rdL true []))]) (self := false) (by
    rw [quoted_L (qB_or single) h, attrL_sp, quoted_G (qB_or single) (by decide) _ (by simp), attrL_62]; rfl)]
  rfl
theorem ends_ne {c : UInt8} (r name : List UInt8) (h : c ≠ 60) : endsL (c :: r) name = false := by
  cases he : endsL (c :: r) name with
  | false => rfl
  | true =>
    have := ends_pref he
    simp [List.isPrefixOf] at this
    exact absurd this.1.symm h
theorem firstE_app (name : List UInt8) {s : List UInt8} (r : List UInt8) (h : (60 : UInt8) ∉ s) : firstE name (s ++ r) = s.length + firstE name r := by
  induction s with
  | nil => rw [List.nil_append]; exact (Nat.zero_add _).symm
  | cons c s ih =>
    rw [List.mem_cons, not_or] at h
    rw [List.cons_append, firstE, if_neg (by rw [ends_ne _ _ (fun e => h.1 e.symm)]; decide), ih h.2, List.length_cons]
    omega
theorem firstE_areaC (y : List UInt8) : firstE areaW (areaC ++ y) = 0 := by
  show firstE areaW (60 :: _) = 0
  rw [firstE, if_pos (by rfl)]
theorem tagR_areaC (y : List UInt8) : tagR (areaC ++ y) = (some (.fin areaW), y) := by
  have ht : tagN (areaC ++ y) = 2 := rfl
  unfold tagR
  rw [if_neg (by rw [ht]; decide)]
  unfold tagL
  rw [ht, show ((areaC ++ y).drop 2).dropWhile stC = 62 :: y from rfl, attrL_62]
  rfl
theorem restL_area {x y : List UInt8} {n : Nat} (hn : firstE areaW x = n) (hd : x.drop n = areaC ++ y) : restL 1 areaW x = (txtT (rawT true (x.take n)) ++ [.fin areaW], y) := by
  have he : endN 1 areaW x = n := by unfold endN; rw [if_pos (.inl rfl), hn]
  unfold restL
  rw [if_neg (by decide), he, hd, if_neg (by simp [areaC]), tagR_areaC]
  rfl
theorem drvL_area (x : List UInt8) : drvL (areaO ++ x) = .start areaW [] false :: ((restL 1 areaW x).1 ++ drvL (restL 1 areaW x).2) := by
  have ht : tagN (areaO ++ x) = 1 := rfl
  have hk : tokL (areaO ++ x) = (some (.start areaW [] false), x) := by
    unfold tokL
    rw [if_pos (by rw [ht]; decide)]
    unfold tagL
    rw [ht, show ((areaO ++ x).drop 1).dropWhile stC = 62 :: x from rfl, attrL_62]
    rfl
  rw [drvL_eq (by simp [areaO]), hk]
  rfl
theorem join_area (u : List UInt8) (r : List Tk) : joinL (.start areaW [] false :: (txtT u ++ (.fin areaW :: r))) = .start areaW [] false :: (txtT u ++ (.fin areaW :: joinL r)) := by
  rw [joinL_no _ rfl]
  congr 1
  unfold txtT
  split
  · exact joinL_no _ rfl
  · rename_i hu
    show joinL (.text u :: .fin areaW :: r) = _
    rw [joinL_txno _ _ rfl]
    unfold txtT; rw [if_neg hu]
theorem within_txt {x : List UInt8} {n : Nat} (single : Bool) (hn : firstE areaW (x ++ areaC) = n) (hl : n = x.length) : withinL (driveL (wrapL 2 single x)) = (trimN (cleanL (rdL false x)), true) := by
  have hr := restL_area (x := x ++ areaC) (y := []) (hn.trans hl) (by rw [List.drop_left, List.append_nil])
  rw [List.take_left] at hr
  have hw : wrapL 2 single x = areaO ++ (x ++ areaC) := by unfold wrapL; rw [if_neg (by decide), if_neg (by decide), if_pos rfl]
  unfold driveL
  rw [hw, drvL_area, hr]
  simp only [drvL_nil, List.append_nil]
  rw [join_area, show rawT true x = cleanL (rdL false x) from rfl]
  generalize cleanL (rdL false x) = u
  unfold txtT
  split
  · rename_i e; subst e; rfl
  · rfl
theorem area_plain {x : List UInt8} (h : (60 : UInt8) ∉ x) : firstE areaW (x ++ areaC) = x.length := by
  have := firstE_areaC []
  rw [List.append_nil] at this
  rw [firstE_app _ _ h, this, Nat.add_zero]
theorem area_b {x : List UInt8} (h : (60 : UInt8) ∉ x) : firstE areaW (x ++ [60, 98, 62] ++ areaC) = (x ++ [60, 98, 62]).length := by
  rw [List.append_assoc, firstE_app _ _ h, show firstE areaW ([60, 98, 62] ++ areaC) = 3 by decide, List.length_append]; rfl
theorem within_break {x : List UInt8} (single : Bool) (h : (60 : UInt8) ∉ x) : (withinL (driveL (wrapL 2 single (x ++ (areaC ++ [60, 98, 62]))))).2 = false := by
  have hf : firstE areaW (x ++ (areaC ++ [60, 98, 62]) ++ areaC) = x.length := by
    rw [List.append_assoc, firstE_app _ _ h, List.append_assoc, firstE_areaC, Nat.add_zero]
  have hr := restL_area (x := x ++ (areaC ++ [60, 98, 62]) ++ areaC) (y := [60, 98, 62] ++ areaC) hf (by rw [List.append_assoc, List.drop_left, List.append_assoc])
  have hw : wrapL 2 single (x ++ (areaC ++ [60, 98, 62])) = areaO ++ (x ++ (areaC ++ [60, 98, 62]) ++ areaC) := by unfold wrapL; rw [if_neg (by decide), if_neg (by decide), if_pos rfl]
  have hd : drvL ([60, 98, 62] ++ areaC) = [.start [98] [] false, .fin areaW] := by
    show drvL (60 :: 98 :: 62 :: areaC) = _
    have ht : tagN areaC ≠ 0 := by decide
    have hk : tokL areaC = (some (.fin areaW), []) := by
      unfold tokL
      rw [if_pos ht]
      have := tagR_areaC []
      rw [List.append_nil] at this
      unfold tagR at this
      rwa [if_neg ht] at this
    rw [drvL_b, drvL_eq (by decide), hk]
    rfl
  unfold driveL
  rw [hw, drvL_area, hr]
  simp only [hd]
  rw [List.append_assoc]
  show (withinL (joinL (_ :: (txtT _ ++ (.fin areaW :: [.start [98] [] false, .fin areaW]))))).2 = false
  rw [join_area]
  generalize rawT true _ = u
  unfold txtT
  split <;> rfl
end Go.Proofs.YtbdcghbafopjjaaGreatDoor.Hand
end

section
namespace Go.Proofs.YtbdcghbafopjjaaGreatDoor.Hand
open Go Go.RowKit Go.Proofs.YtbdcghbafopjjaaGreatDoor.Pl Go.Proofs.YtbdcghbafopjjaaGreatDoor.Pb Go.Proofs.YtbdcghbafopjjaaGreatDoor.Pure
theorem parse0 (single : Bool) (s : List UInt8) : parseL 0 single s = onlyL (driveL (normL s)) := by unfold parseL; rw [if_pos rfl, norm_wrap]; rfl
theorem parse1 (single : Bool) (s : List UInt8) : parseL 1 single s = valueL (driveL (wrapL 1 single (normL s))) := by unfold parseL; rw [if_neg (by decide), if_pos rfl, norm_wrap]
theorem parse2 (single : Bool) (s : List UInt8) : parseL 2 single s = withinL (driveL (wrapL 2 single (normL s))) := by unfold parseL; rw [if_neg (by decide), if_neg (by decide), if_pos rfl, norm_wrap]
theorem aw_1 : (parseL 0 false [97, 60, 98, 62]).2 = false := by
  rw [parse0, normL_of_no13 (by decide)]
  exact only_b (t := [97]) (by decide)
theorem aw_2 : parseL 1 false [97, 62, 98] = ([97, 62, 98], true) := by
  rw [parse1, normL_of_no13 (by decide), value_txt false (by decide), rdL_no true (by decide)]; rfl
theorem aw_3 : parseL 2 false [10, 97] = ([97], true) := by
  rw [parse2, normL_of_no13 (by decide), within_txt false (area_plain (by decide)) rfl, rdL_no false (by decide)]; rfl
theorem mem_norm {c : UInt8} (hc : c ≠ 10) : ∀ n (s : List UInt8), s.length ≤ n → c ∈ normL s → c ∈ s := by
  intro n
  induction n with
  | zero => intro s h hm; obtain rfl := List.eq_nil_of_length_eq_zero (Nat.le_zero.1 h); exact hm
  | succ n ih =>
    intro s h hm
    cases s with
    | nil => exact hm
    | cons d r =>
      simp only [List.length_cons] at h
      by_cases hd : d = 13
      · subst hd
        cases r with
        | nil => rw [normL_13_end] at hm; exact absurd (List.mem_singleton.1 hm) hc
        | cons e r =>
          simp only [List.length_cons] at h
          by_cases he : e = 10
          · subst he
            rw [normL_13_10] at hm
            rcases List.mem_cons.1 hm with hm | hm
            · exact absurd hm hc
            · exact List.mem_cons_of_mem _ (List.mem_cons_of_mem _ (ih r (by omega) hm))
          · rw [normL_13_ne he] at hm
            rcases List.mem_cons.1 hm with hm | hm
            · exact absurd hm hc
            · exact List.mem_cons_of_mem _ (ih (e :: r) (by simp; omega) hm)
      · rw [normL_ne hd] at hm
        rcases List.mem_cons.1 hm with hm | hm
        · rw [hm]; exact List.mem_cons_self
        · exact List.mem_cons_of_mem _ (ih r (by omega) hm)
theorem no_norm {c : UInt8} (hc : c ≠ 10) {s : List UInt8} (h : c ∉ s) : c ∉ normL s := fun hm => h (mem_norm hc _ s (Nat.le_refl _) hm)
theorem clean_app (a b : List UInt8) : cleanL (a ++ b) = cleanL a ++ cleanL b := by
  induction a with
  | nil => rfl
  | cons c a ih => rw [List.cons_append, cleanL_cons, cleanL_cons, ih, List.append_assoc]
theorem br_a {s : List UInt8} (h60 : (60 : UInt8) ∉ s) (_ : (34 : UInt8) ∉ s) (_ : (39 : UInt8) ∉ s) (_ : (38 : UInt8) ∉ s) : (parseL 0 false (s ++ [60, 98, 62])).2 = false := by
  rw [parse0, normL_suf (by decide) (by decide) _ _ (Nat.le_refl _)]
  exact only_b (no_norm (by decide) h60)
theorem br_b {s : List UInt8} (_ : (60 : UInt8) ∉ s) (h34 : (34 : UInt8) ∉ s) (_ : (39 : UInt8) ∉ s) (_ : (38 : UInt8) ∉ s) : (parseL 1 false (s ++ [34, 32, 121, 61, 34])).2 = false := by
  rw [parse1, normL_suf (by decide) (by decide) _ _ (Nat.le_refl _)]
  exact value_two false (no_norm (by decide) h34)
theorem br_c {s : List UInt8} (_ : (60 : UInt8) ∉ s) (_ : (34 : UInt8) ∉ s) (h39 : (39 : UInt8) ∉ s) (_ : (38 : UInt8) ∉ s) : (parseL 1 true (s ++ [39, 32, 121, 61, 39])).2 = false := by
  rw [parse1, normL_suf (by decide) (by decide) _ _ (Nat.le_refl _)]
  exact value_two true (no_norm (by decide) h39)
theorem br_d {s : List UInt8} (h60 : (60 : UInt8) ∉ s) (_ : (34 : UInt8) ∉ s) (_ : (39 : UInt8) ∉ s) (_ : (38 : UInt8) ∉ s) : (parseL 2 false (s ++ [60, 47, 116, 101, 120, 116, 97, 114, 101, 97, 62, 60, 98, 62])).2 = false := by
  rw [parse2, normL_suf (by decide) (by decide) _ _ (Nat.le_refl _)]
  exact within_break false (no_norm (by decide) h60)
theorem br_e {s : List UInt8} (_ : (60 : UInt8) ∉ s) (h34 : (34 : UInt8) ∉ s) (_ : (39 : UInt8) ∉ s) (h38 : (38 : UInt8) ∉ s) : parseL 1 false (s ++ [39, 32, 121, 61, 39]) = (cleanL (normL s) ++ [39, 32, 121, 61, 39], true) := by
  have h1 := no_norm (by decide) h34
  have h2 := no_norm (by decide) h38
  rw [parse1, normL_suf (by decide) (by decide) _ _ (Nat.le_refl _), value_txt false (by
      rw [List.mem_append, not_or]; exact ⟨h1, by decide⟩), rdL_no true (by rw [List.mem_append, not_or]; exact ⟨h2, by decide⟩), clean_app]
  rfl
theorem br_f {s : List UInt8} (h60 : (60 : UInt8) ∉ s) (_ : (34 : UInt8) ∉ s) (_ : (39 : UInt8) ∉ s) (h38 : (38 : UInt8) ∉ s) : parseL 2 false (97 :: s ++ [60, 98, 62]) = (97 :: cleanL (normL s) ++ [60, 98, 62], true) := by
  have h1 := no_norm (by decide) h60
  have h2 := no_norm (by decide) h38
  have e1 : (60 : UInt8) ∉ 97 :: normL s := by rw [List.mem_cons, not_or]; exact ⟨by decide, h1⟩
  have e2 : (38 : UInt8) ∉ 97 :: normL s ++ [60, 98, 62] := by rw [List.mem_append, List.mem_cons, not_or, not_or]; exact ⟨⟨by decide, h2⟩, by decide⟩
  rw [parse2, normL_suf (by decide) (by decide) _ _ (Nat.le_refl _), normL_ne (by decide), within_txt false (area_b e1) rfl, rdL_no false e2, clean_app, cleanL_cons]
  rfl
end Go.Proofs.YtbdcghbafopjjaaGreatDoor.Hand
end

section
namespace Go.Proofs.YtbdcghbafopjjaaGreatDoor.Pure
open Go Go.RowKit Go.Proofs.YtbdcghbafopjjaaGreatDoor.K0 Go.Proofs.YtbdcghbafopjjaaGreatDoor.Hand Go.Proofs.YtbdcghbafopjjaaGreatDoor.Sa Go.Proofs.YtbdcghbafopjjaaGreatDoor.Sp Go.Proofs.YtbdcghbafopjjaaGreatDoorW.PrintWords Go.Proofs.YtbdcghbafopjjaaGreatDoorW.PrintMore Go.Proofs.YtbdcghbafopjjaaGreatDoor.Pl Go.Proofs.YtbdcghbafopjjaaGreatDoor.Pb
theorem parse_f (d : Int) (single : Bool) (s : List UInt8) (hs : s.length ≤ 20000) : context_Parse.f d single (B s) = some (B (parseL d single s).1, (parseL d single s).2) := by
  unfold context_Parse.f
  rw [if_pos (by rw [size_B]; exact hs), B_data]
theorem wrap_f (d : Int) (single : Bool) (s : List UInt8) (hs : s.length ≤ 20000) : context_Wrap.f d single (B s) = some (B (wrapL d single s)) := by
  unfold context_Wrap.f
  rw [if_pos (by rw [size_B]; omega), B_data]
theorem B_list (x : List UInt8) : (B x).toList = x := by rw [toList_data, B_data]
theorem awake23 : flaillaw23_awake.f = some true := by
  unfold flaillaw23_awake.f
  rw [show (⟨#[97, 60, 98, 62]⟩ : ByteArray) = B [97, 60, 98, 62] from rfl, show (⟨#[97, 62, 98]⟩ : ByteArray) = B [97, 62, 98] from rfl, show (⟨#[10, 97]⟩ : ByteArray) = B [10, 97] from rfl, show (⟨#[122]⟩ : ByteArray) = B [122] from rfl,
    parse_f _ _ _ (by decide), parse_f _ _ _ (by decide), parse_f _ _ _ (by decide), wrap_f _ _ _ (by decide), aw_2, aw_3, Option.bind_some, Option.bind_some, Option.bind_some, aw_1, if_neg (by decide), if_pos rfl, if_pos rfl,
    if_pos (B_list _), if_pos (B_list _), Option.bind_some, B_list]
  rfl
def fine (s : List UInt8) (n : Nat) : Prop := ∀ j (h : j < s.length), j < n → s[j] ≠ 60 ∧ s[j] ≠ 62 ∧ s[j] ≠ 34 ∧ s[j] ≠ 39 ∧ s[j] ≠ 38
theorem fine_no {s : List UInt8} (h : fine s s.length) : (60 : UInt8) ∉ s ∧ (34 : UInt8) ∉ s ∧ (39 : UInt8) ∉ s ∧ (38 : UInt8) ∉ s := by
  refine ⟨?_, ?_, ?_, ?_⟩ <;> (intro hm; obtain ⟨j, hj, e⟩ := List.getElem_of_mem hm; have := h j hj hj; simp [e] at this)
theorem breaks_l0 (s : List UInt8) (hs : s.length ≤ 300) : ∀ d i : Nat, s.length - i = d → i ≤ s.length → fine s i → Ev (fun k => flaillaw23_ContextBreaks.l0 k (B s) true (i : Int)) true := by
  intro d
  induction d with
  | zero =>
    intro i hd hi h1
    have hie : i = s.length := by omega
    subst hie
    obtain ⟨m1, m2, m3, m4⟩ := fine_no h1
    have hn := normL_length s
    have hc := (cleanL_length (normL s)).2
    refine Ev.step (f := fun _ => some true) (fun k => ?_) (Ev.now _)
    have e1 : B s ++ (⟨#[60, 98, 62]⟩ : ByteArray) = B (s ++ [60, 98, 62]) := by rw [show (⟨#[60, 98, 62]⟩ : ByteArray) = B [60, 98, 62] from rfl, B_append]
    have e2 : B s ++ (⟨#[34, 32, 121, 61, 34]⟩ : ByteArray) = B (s ++ [34, 32, 121, 61, 34]) := by rw [show (⟨#[34, 32, 121, 61, 34]⟩ : ByteArray) = B [34, 32, 121, 61, 34] from rfl, B_append]
    have e3 : ∀ x : List UInt8, B x ++ (⟨#[39, 32, 121, 61, 39]⟩ : ByteArray) = B (x ++ [39, 32, 121, 61, 39]) := fun x => by rw [show (⟨#[39, 32, 121, 61, 39]⟩ : ByteArray) = B [39, 32, 121, 61, 39] from rfl, B_append]
    have e4 : B s ++ (⟨#[60, 47, 116, 101, 120, 116, 97, 114, 101, 97, 62, 60, 98, 62]⟩ : ByteArray) = B (s ++ [60, 47, 116, 101, 120, 116, 97, 114, 101, 97, 62, 60, 98, 62]) := by rw [show (⟨#[60, 47, 116, 101, 120, 116, 97, 114, 101, 97, 62, 60, 98, 62]⟩ : ByteArray) = B [60, 47, 116, 101, 120, 116, 97, 114, 101, 97, 62, 60, 98, 62] from rfl, B_append]
    have e5 : ∀ x : List UInt8, (⟨#[97]⟩ : ByteArray) ++ B x = B (97 :: x) := fun x => by rw [show (⟨#[97]⟩ : ByteArray) = B [97] from rfl, B_append]; rfl
    have e6 : ∀ x : List UInt8, B (97 :: x) ++ (⟨#[60, 98, 62]⟩ : ByteArray) = B (97 :: x ++ [60, 98, 62]) := fun x => by rw [show (⟨#[60, 98, 62]⟩ : ByteArray) = B [60, 98, 62] from rfl, B_append]
    rw [flaillaw23_ContextBreaks.l0, if_neg (by rw [size_B]; omega), e1, e2, e3, e4, e5, e6]
    rw [if_pos (by rw [size_B]; omega), parse_f _ _ _ (by simp; omega), Option.bind_some, if_pos (by rw [size_B]; omega), parse_f _ _ _ (by simp; omega), Option.bind_some, parse_f _ _ _ (by simp; omega), Option.bind_some, if_pos (by rw [size_B]; omega),
      parse_f _ _ _ (by simp; omega), Option.bind_some, parse_f _ _ _ (by simp; omega), Option.bind_some, if_pos (by rw [size_B]; omega), if_pos (by rw [size_B, List.length_cons]; omega), parse_f _ _ _ (by simp; omega), Option.bind_some, if_pos rfl]
    simp only [br_a m1 m2 m3 m4, br_b m1 m2 m3 m4, br_c m1 m2 m3 m4, br_d m1 m2 m3 m4, br_e m1 m2 m3 m4, br_f m1 m2 m3 m4, Bool.false_eq_true, if_false, if_true]
    rw [norm_f _ (by omega), Option.bind_some, clean_f _ (by omega), Option.bind_some, if_pos (by rw [size_B]; omega), e3, if_pos rfl, if_pos (by rw [size_B]; omega), e5, if_pos (by rw [size_B, List.length_cons]; omega), e6]
    simp
  | succ d ih =>
    intro i hd hi h1
    have hlt : i < s.length := by omega
    have hdr := List.drop_eq_getElem_cons hlt
    have hb := bt_drop s i _ _ hdr
    have q1 : (i : Int) < ((B s).size : Int) := by rw [size_B]; omega
    have q2 : (0 : Int) ≤ (i : Int) := by omega
    have out : ∀ (h : ∀ k, flaillaw23_ContextBreaks.l0 (k + 1) (B s) true (i : Int) = some true), Ev (fun k => flaillaw23_ContextBreaks.l0 k (B s) true (i : Int)) true := fun h => Ev.step (f := fun _ => some true) h (Ev.now _)
    have w : wrap64 ((i : Int) + 1) = ((i + 1 : Nat) : Int) := by unfold wrap64; omega
    by_cases c1 : s[i] = 60
    · exact out fun k => by rw [flaillaw23_ContextBreaks.l0, if_pos q1, if_pos q2, hb, if_pos ((u8_eq 60 60 rfl).2 c1)]
    by_cases c2 : s[i] = 62
    · exact out fun k => by rw [flaillaw23_ContextBreaks.l0, if_pos q1, if_pos q2, hb, if_neg (fun e => c1 ((u8_eq 60 60 rfl).1 e)), if_pos ((u8_eq 62 62 rfl).2 c2)]
    by_cases c3 : s[i] = 34
    · exact out fun k => by rw [flaillaw23_ContextBreaks.l0, if_pos q1, if_pos q2, hb, if_neg (fun e => c1 ((u8_eq 60 60 rfl).1 e)), if_neg (fun e => c2 ((u8_eq 62 62 rfl).1 e)), if_pos ((u8_eq 34 34 rfl).2 c3)]
    by_cases c4 : s[i] = 39
    · exact out fun k => by rw [flaillaw23_ContextBreaks.l0, if_pos q1, if_pos q2, hb, if_neg (fun e => c1 ((u8_eq 60 60 rfl).1 e)), if_neg (fun e => c2 ((u8_eq 62 62 rfl).1 e)), if_neg (fun e => c3 ((u8_eq 34 34 rfl).1 e)), if_pos ((u8_eq 39 39 rfl).2 c4)]
    by_cases c5 : s[i] = 38
    · exact out fun k => by rw [flaillaw23_ContextBreaks.l0, if_pos q1, if_pos q2, hb, if_neg (fun e => c1 ((u8_eq 60 60 rfl).1 e)), if_neg (fun e => c2 ((u8_eq 62 62 rfl).1 e)), if_neg (fun e => c3 ((u8_eq 34 34 rfl).1 e)), if_neg (fun e => c4 ((u8_eq 39 39 rfl).1 e)), if_pos ((u8_eq 38 38 rfl).2 c5)]
    refine Ev.step (fun k => ?_) (ih (i + 1) (by omega) (by omega) (fun j hj hji => by
      by_cases e : j = i
      · subst e; exact ⟨c1, c2, c3, c4, c5⟩
      · exact h1 j hj (by omega)))
    rw [flaillaw23_ContextBreaks.l0, if_pos q1, if_pos q2, hb, if_neg (fun e => c1 ((u8_eq 60 60 rfl).1 e)), if_neg (fun e => c2 ((u8_eq 62 62 rfl).1 e)), if_neg (fun e => c3 ((u8_eq 34 34 rfl).1 e)), if_neg (fun e => c4 ((u8_eq 39 39 rfl).1 e)), if_neg (fun e => c5 ((u8_eq 38 38 rfl).1 e)), w]
end Go.Proofs.YtbdcghbafopjjaaGreatDoor.Pure
namespace Go.Proofs.YtbdcghbafopjjaaGreatDoor.Hand
open Go Go.RowKit Go.Proofs.YtbdcghbafopjjaaGreatDoor.Pl Go.Proofs.YtbdcghbafopjjaaGreatDoor.Pb Go.Proofs.YtbdcghbafopjjaaGreatDoor.Pure Go.Proofs.YtbdcghbafopjjaaGreatDoor.Sp Go.Proofs.YtbdcghbafopjjaaGreatDoorW.PrintWords
theorem ContextBreaks_law (a0 : ByteArray) (w : World) (w0 : a0.size ≤ 140737488351232) (hGl : Glob w) :
    Calls Tryz.prog 6 #[.string a0] w fun e w' => e = .returned (.bool true) ∧ Below w.heap.size w w' := by
  have h : ∃ k, flaillaw23_ContextBreaks.f k a0 = some true := by
    obtain ⟨s, rfl⟩ := exists_B a0
    by_cases hb : 300 < s.length
    · exact ⟨0, by unfold flaillaw23_ContextBreaks.f; rw [awake23, Option.bind_some, if_pos (by rw [size_B]; omega)]⟩
    · obtain ⟨k, hk⟩ := (breaks_l0 s (by omega) s.length 0 (by omega) (Nat.zero_le _) (fun j _ h => absurd h (by omega))).rounds
      exact ⟨k, by unfold flaillaw23_ContextBreaks.f; rw [awake23, Option.bind_some, if_neg (by rw [size_B]; omega)]; exact hk⟩
  obtain ⟨k, hk⟩ := h
  exact flaillaw23_ContextBreaks.calls k a0 true w hGl hk
end Go.Proofs.YtbdcghbafopjjaaGreatDoor.Hand
end
