-- Written by a program of this session over the kit's printer: not by hand.
import Derived.Test.YtppaobgccdlccaaDoorPr0
import Derived.Test.YtppaobgccdlccaaDoorPr1
namespace Go.Proofs.YtppaobgccdlccaaDoor.Pr
open Go.RowKit Go.Proofs.YtppaobgccdlccaaDoor.Hand Go.Proofs.YtppaobgccdlccaaDoorW.PrintWords Go.Proofs.YtppaobgccdlccaaDoorW.PrintLast Go.Proofs.YtppaobgccdlccaaDoorW.PrintMore
attribute [local go_sem] max2_int min2_int max_two min_two max_three min_three max_four min_four   -- for this text's walks alone
set_option linter.unusedVariables false
set_option linter.unusedSimpArgs false

/-! ### flaillaw02_LinesOnce: function 4 -/
mutual
def flaillaw02_LinesOnce.l0 : Nat → ByteArray → Bool → ByteArray → ByteArray → Int → Option (Bool)
  | 0, _, _, _, _, _ => none
  | k + 1, x0, x3, x4, x5, x6 => if x6 < (x4.size : Int) then (if 0 ≤ x6 then (if (bt x4 x6) = 13 then (some false) else (flaillaw02_LinesOnce.l0 k x0 x3 x4 x5 (wrap64 (x6 + 1)))) else (none)) else (flaillaw02_LinesOnce.l1 k x0 x3 x4 x5 0)
def flaillaw02_LinesOnce.l1 : Nat → ByteArray → Bool → ByteArray → ByteArray → Int → Option (Bool)
  | 0, _, _, _, _, _ => none
  | k + 1, x0, x3, x4, x5, x7 => if x7 < (x5.size : Int) then (if 0 ≤ x7 then (if (bt x5 x7) = 0 then (some false) else (flaillaw02_LinesOnce.l1 k x0 x3 x4 x5 (wrap64 (x7 + 1)))) else (none)) else (if x3 = true then ((lines_Norm.f x4).bind fun t112 => (if t112.toList = x4.toList then ((lines_Clean.f x5).bind fun t113 => (if t113.toList = x5.toList then (if (x4.size : Int) ≤ (x0.size : Int) then (some (decide ((x5.size : Int) ≥ (x0.size : Int)))) else (some false)) else (some false))) else (some false))) else (some false))
end
def flaillaw02_LinesOnce.f (k : Nat) (a0 : ByteArray) : Option (Bool) := (flaillaw02_awake.f).bind fun t109 => (if (a0.size : Int) > 300 then (some t109) else ((lines_Norm.f a0).bind fun t110 => ((lines_Clean.f a0).bind fun t111 => (flaillaw02_LinesOnce.l0 k a0 t109 t110 t111 0))))
theorem flaillaw02_LinesOnce.mono_l : ∀ k, (∀ y0 y1 y2 y3 y4, LeO (flaillaw02_LinesOnce.l0 k y0 y1 y2 y3 y4) (flaillaw02_LinesOnce.l0 (k + 1) y0 y1 y2 y3 y4)) ∧ (∀ y0 y1 y2 y3 y4, LeO (flaillaw02_LinesOnce.l1 k y0 y1 y2 y3 y4) (flaillaw02_LinesOnce.l1 (k + 1) y0 y1 y2 y3 y4))
  | 0 => ⟨fun _ _ _ _ _ r h => by simp [flaillaw02_LinesOnce.l0] at h, fun _ _ _ _ _ r h => by simp [flaillaw02_LinesOnce.l1] at h⟩
  | k + 1 => by
    obtain ⟨ih0, ih1⟩ := flaillaw02_LinesOnce.mono_l k
    refine ⟨?_, ?_⟩
    · intro y0 y1 y2 y3 y4
      unfold flaillaw02_LinesOnce.l0
      repeat' first
      | (with_reducible exact ih0 _ _ _ _ _)
      | (with_reducible exact ih1 _ _ _ _ _)
      | (with_reducible exact LeO.refl _)
      | (with_reducible exact LeO.none _)
      | (with_reducible refine LeO.ite ?_ ?_)
      | (with_reducible refine LeO.bind ?_ (fun _ => ?_))
      | exact ih0 _ _ _ _ _
      | exact ih1 _ _ _ _ _
      | exact LeO.none _
      | refine LeO.ite ?_ ?_
      | refine LeO.bind ?_ (fun _ => ?_)
    · intro y0 y1 y2 y3 y4
      unfold flaillaw02_LinesOnce.l1
      repeat' first
      | (with_reducible exact ih0 _ _ _ _ _)
      | (with_reducible exact ih1 _ _ _ _ _)
      | (with_reducible exact LeO.refl _)
      | (with_reducible exact LeO.none _)
      | (with_reducible refine LeO.ite ?_ ?_)
      | (with_reducible refine LeO.bind ?_ (fun _ => ?_))
      | exact ih0 _ _ _ _ _
      | exact ih1 _ _ _ _ _
      | exact LeO.none _
      | refine LeO.ite ?_ ?_
      | refine LeO.bind ?_ (fun _ => ?_)
theorem flaillaw02_LinesOnce.mono : ∀ a0 k, LeO (flaillaw02_LinesOnce.f k a0) (flaillaw02_LinesOnce.f (k + 1) a0) := by
  intro a0 k
  obtain ⟨ih0, ih1⟩ := flaillaw02_LinesOnce.mono_l k
  unfold flaillaw02_LinesOnce.f
  repeat' first
      | (with_reducible exact ih0 _ _ _ _ _)
      | (with_reducible exact ih1 _ _ _ _ _)
      | (with_reducible exact LeO.refl _)
      | (with_reducible exact LeO.none _)
      | (with_reducible refine LeO.ite ?_ ?_)
      | (with_reducible refine LeO.bind ?_ (fun _ => ?_))
      | exact ih0 _ _ _ _ _
      | exact ih1 _ _ _ _ _
      | exact LeO.none _
      | refine LeO.ite ?_ ?_
      | refine LeO.bind ?_ (fun _ => ?_)
set_option maxHeartbeats 8000000 in
set_option maxRecDepth 100000 in
theorem flaillaw02_LinesOnce.calls (k : Nat) (a0 : ByteArray) (r : Bool) (w : World) (hGl : Glob w) (h : flaillaw02_LinesOnce.f k a0 = some r) :
    Calls Tryd.prog 4 #[.string a0] w fun e w' => e = .returned (.bool r) ∧ Below w.heap.size w w' := by
  have HB := Aside0.mk (Below.refl w.heap.size w)
  have H : ((flaillaw02_awake.f).bind fun t109 => (if (a0.size : Int) > 300 then (some t109) else ((lines_Norm.f a0).bind fun t110 => ((lines_Clean.f a0).bind fun t111 => (flaillaw02_LinesOnce.l0 k a0 t109 t110 t111 0))))) = some r := h
  clear h
  replace H := Option.bind_eq_some_iff.mp H
  obtain ⟨t109, A20, H⟩ := H
  replace H : (if (a0.size : Int) > 300 then (some t109) else ((lines_Norm.f a0).bind fun t110 => ((lines_Clean.f a0).bind fun t111 => (flaillaw02_LinesOnce.l0 k a0 t109 t110 t111 0)))) = some r := H
  have A2 := Aside0.mk A20
  clear A20
  by_cases c3 : (a0.size : Int) > 300
  · rw [if_pos c3] at H
    have c3b0 : decide (300 < (a0.size : Int)) = true := decide_eq_true c3
    have c3b1 : decide (300 < a0.size) = true := decide_eq_true (by omega)
    clear c3
    obtain rfl := Option.some.inj H
    go_enter Tryd.func4, Tryd.ntmps4
    go_wp2_with (first | ((with_reducible refine gate_callee (f := 26) rfl ?_); refine goesL_ (some 8) rfl rfl Tryd.func26 (by kernel_rfl) rfl #[] rfl (by (try simp only [List.map_toArray, List.map_cons, List.map_nil]); first | done | rfl | (simp only [List.length_drop, List.length_take]; rfl)) ?_; (with_reducible refine (flaillaw02_awake.calls  t109 _ ?side1 A2.out).mono ?_); (case side1 => exact Glob.step hGl (by repeat (first | (with_reducible first | exact HB.out | apply below_alloc | apply pw_below_drewN | apply below_drew1) | exact HB.out))); rintro e w4 ⟨rfl, hb⟩; refine ⟨_, rfl, ?_⟩; have n0_ := Aside0.mk (below_step (by repeat (first | (with_reducible first | exact HB.out | apply below_alloc | apply pw_below_drewN | apply below_drew1) | exact HB.out)) hb); clear HB; have HB := n0_; clear n0_; (try clear hb); (try clear hb2); (try clear hk); (try clear hi)))
    go_ret
    exact ⟨by first | rfl | (simp [errW_none, errW_some] <;> rfl) | (simp [*, errW_none, errW_some] <;> rfl), by repeat (first | (with_reducible first | exact HB.out | apply below_alloc | apply pw_below_drewN | apply below_drew1) | exact HB.out)⟩
  · rw [if_neg c3] at H
    have c3b0 : decide (300 < (a0.size : Int)) = false := decide_eq_false c3
    have c3b1 : decide (300 < a0.size) = false := decide_eq_false (by omega)
    clear c3
    replace H := Option.bind_eq_some_iff.mp H
    obtain ⟨t110, A50, H⟩ := H
    replace H : ((lines_Clean.f a0).bind fun t111 => (flaillaw02_LinesOnce.l0 k a0 t109 t110 t111 0)) = some r := H
    have A5 := Aside0.mk A50
    clear A50
    replace H := Option.bind_eq_some_iff.mp H
    obtain ⟨t111, A60, H⟩ := H
    replace H : (flaillaw02_LinesOnce.l0 k a0 t109 t110 t111 0) = some r := H
    have A6 := Aside0.mk A60
    clear A60
    have H' := Aside0.mk H
    clear H
    go_enter Tryd.func4, Tryd.ntmps4
    go_wp2_with (first | ((with_reducible refine gate_callee (f := 26) rfl ?_); refine goesL_ (some 8) rfl rfl Tryd.func26 (by kernel_rfl) rfl #[] rfl (by (try simp only [List.map_toArray, List.map_cons, List.map_nil]); first | done | rfl | (simp only [List.length_drop, List.length_take]; rfl)) ?_; (with_reducible refine (flaillaw02_awake.calls  t109 _ ?side1 A2.out).mono ?_); (case side1 => exact Glob.step hGl (by repeat (first | (with_reducible first | exact HB.out | apply below_alloc | apply pw_below_drewN | apply below_drew1) | exact HB.out))); rintro e w7 ⟨rfl, hb⟩; refine ⟨_, rfl, ?_⟩; have n0_ := Aside0.mk (below_step (by repeat (first | (with_reducible first | exact HB.out | apply below_alloc | apply pw_below_drewN | apply below_drew1) | exact HB.out)) hb); clear HB; have HB := n0_; clear n0_; (try clear hb); (try clear hb2); (try clear hk); (try clear hi)) | ((with_reducible refine gate_callee (f := 27) rfl ?_); refine goesL_ (some 14) rfl rfl Tryd.func27 (by kernel_rfl) rfl #[.string a0] rfl (by (try simp only [List.map_toArray, List.map_cons, List.map_nil]); first | done | rfl | (simp only [List.length_drop, List.length_take]; rfl)) ?_; (with_reducible refine (lines_Norm.calls a0 t110 _ A5.out).mono ?_); rintro e w8 ⟨rfl, hb⟩; refine ⟨_, rfl, ?_⟩; have n0_ := Aside0.mk (below_step (by repeat (first | (with_reducible first | exact HB.out | apply below_alloc | apply pw_below_drewN | apply below_drew1) | exact HB.out)) hb); clear HB; have HB := n0_; clear n0_; (try clear hb); (try clear hb2); (try clear hk); (try clear hi)) | ((with_reducible refine gate_callee (f := 29) rfl ?_); refine goesL_ (some 16) rfl rfl Tryd.func29 (by kernel_rfl) rfl #[.string a0] rfl (by (try simp only [List.map_toArray, List.map_cons, List.map_nil]); first | done | rfl | (simp only [List.length_drop, List.length_take]; rfl)) ?_; (with_reducible refine (lines_Clean.calls a0 t111 _ ?side1 A6.out).mono ?_); (case side1 => exact Glob.step hGl (by repeat (first | (with_reducible first | exact HB.out | apply below_alloc | apply pw_below_drewN | apply below_drew1) | exact HB.out))); rintro e w9 ⟨rfl, hb⟩; refine ⟨_, rfl, ?_⟩; have n0_ := Aside0.mk (below_step (by repeat (first | (with_reducible first | exact HB.out | apply below_alloc | apply pw_below_drewN | apply below_drew1) | exact HB.out)) hb); clear HB; have HB := n0_; clear n0_; (try clear hb); (try clear hb2); (try clear hk); (try clear hi)))
    go_loopg [6] k (fun kq v6 w' => ∃ (x6_1 : Int), v6 = .int .i64 x6_1 ∧ Aside0 (flaillaw02_LinesOnce.l0 kq a0 t109 t110 t111 x6_1 = some r) ∧ Aside0 (kq ≤ k) ∧ Aside0 (Below w.heap.size w w'))
    case atStart => exact ⟨(0), (by first | rfl | (simp; done) | (simp [*]; done)), H', ⟨Nat.le_refl _⟩, ⟨by repeat (first | (with_reducible first | exact HB.out | apply below_alloc | apply pw_below_drewN | apply below_drew1) | exact HB.out)⟩⟩
    case round =>
      clear H'
      try clear c2
      try clear p2
      try clear c3
      try clear c3b0
      try clear c3b1
      try clear c4
      obtain ⟨x6_1, rfl, HA, HK1, HB⟩ := hrel
      cases gk with
      | zero => exact absurd HA.out (by simp [flaillaw02_LinesOnce.l0])
      | succ k1 =>
        have H := HA.out
        clear HA
        simp only [flaillaw02_LinesOnce.l0] at H
        by_cases c10 : x6_1 < (t110.size : Int)
        · rw [if_pos c10] at H
          have c10b0 : decide (x6_1 < (t110.size : Int)) = true := decide_eq_true c10
          clear c10
          by_cases c11 : 0 ≤ x6_1
          · rw [if_pos c11] at H
            have c11b0 : decide (0 ≤ x6_1) = true := decide_eq_true c11
            clear c11
            by_cases c13 : (bt t110 x6_1) = 13
            · rw [if_pos c13] at H
              have c13b0 : ((bt t110 x6_1) == 13) = true := beq_iff_eq.mpr c13
              have c13b1 : ((bt t110 x6_1) != 13) = false := bne_eq_false_iff_eq.mpr c13
              clear c13
              obtain rfl := Option.some.inj H
              have p12 : 0 ≤ (x6_1 : Int) := of_decide_eq_true (by first | (with_reducible assumption) | assumption)
              have q12 : x6_1 < (t110.size : Int) := of_decide_eq_true (by first | (with_reducible assumption) | assumption)
              have hx12 := bt_at t110 x6_1
              replace p12 := eq_true p12
              replace q12 := eq_true q12
              go_wp2
              go_ret
              exact ⟨by first | rfl | (simp [errW_none, errW_some] <;> rfl) | (simp [*, errW_none, errW_some] <;> rfl), by repeat (first | (with_reducible first | exact HB.out | apply below_alloc | apply pw_below_drewN | apply below_drew1) | exact HB.out)⟩
            · rw [if_neg c13] at H
              have c13b0 : ((bt t110 x6_1) == 13) = false := beq_eq_false_iff_ne.mpr c13
              have c13b1 : ((bt t110 x6_1) != 13) = true := bne_iff_ne.mpr c13
              have H' := Aside0.mk H
              clear H
              have p12 : 0 ≤ (x6_1 : Int) := of_decide_eq_true (by first | (with_reducible assumption) | assumption)
              have q12 : x6_1 < (t110.size : Int) := of_decide_eq_true (by first | (with_reducible assumption) | assumption)
              have hx12 := bt_at t110 x6_1
              replace p12 := eq_true p12
              replace q12 := eq_true q12
              go_wp2
              go_roundg k1
              case measure => have := HK1.out; omega
              case rel => exact ⟨(wrap64 (x6_1 + 1)), (by first | rfl | (simp; done) | (simp [*]; done)), H', ⟨by have := HK1.out; omega⟩, ⟨by repeat (first | (with_reducible first | exact HB.out | apply below_alloc | apply pw_below_drewN | apply below_drew1) | exact HB.out)⟩⟩
          · rw [if_neg c11] at H
            exact absurd H (by simp)
        · rw [if_neg c10] at H
          have c10b0 : decide (x6_1 < (t110.size : Int)) = false := decide_eq_false c10
          clear c10
          have H' := Aside0.mk H
          clear H
          go_wp2
          go_loopg [7] k1 (fun kq v7 w' => ∃ (x7_2 : Int), v7 = .int .i64 x7_2 ∧ Aside0 (flaillaw02_LinesOnce.l1 kq a0 t109 t110 t111 x7_2 = some r) ∧ Aside0 (kq ≤ k1) ∧ Aside0 (Below w.heap.size w w'))
          case atStart => exact ⟨(0), (by first | rfl | (simp; done) | (simp [*]; done)), H', ⟨Nat.le_refl _⟩, ⟨by repeat (first | (with_reducible first | exact HB.out | apply below_alloc | apply pw_below_drewN | apply below_drew1) | exact HB.out)⟩⟩
          case round =>
            clear H'
            try clear c1
            try clear p1
            try clear q1
            try clear hx1
            try clear c2
            try clear p2
            try clear c3
            try clear c3b0
            try clear c3b1
            try clear c4
            try clear p6
            try clear c10
            try clear c10b0
            try clear c11
            try clear c11b0
            try clear p12
            try clear q12
            try clear hx12
            try clear c13
            try clear c13b0
            try clear c13b1
            try clear p12
            try clear p2
            try clear q12
            obtain ⟨x7_2, rfl, HA, HK2, HB⟩ := hrel
            cases gk with
            | zero => exact absurd HA.out (by simp [flaillaw02_LinesOnce.l1])
            | succ k2 =>
              have H := HA.out
              clear HA
              simp only [flaillaw02_LinesOnce.l1] at H
              by_cases c14 : x7_2 < (t111.size : Int)
              · rw [if_pos c14] at H
                have c14b0 : decide (x7_2 < (t111.size : Int)) = true := decide_eq_true c14
                clear c14
                by_cases c15 : 0 ≤ x7_2
                · rw [if_pos c15] at H
                  have c15b0 : decide (0 ≤ x7_2) = true := decide_eq_true c15
                  clear c15
                  by_cases c17 : (bt t111 x7_2) = 0
                  · rw [if_pos c17] at H
                    have c17b0 : ((bt t111 x7_2) == 0) = true := beq_iff_eq.mpr c17
                    have c17b1 : ((bt t111 x7_2) != 0) = false := bne_eq_false_iff_eq.mpr c17
                    clear c17
                    obtain rfl := Option.some.inj H
                    have p16 : 0 ≤ (x7_2 : Int) := of_decide_eq_true (by first | (with_reducible assumption) | assumption)
                    have q16 : x7_2 < (t111.size : Int) := of_decide_eq_true (by first | (with_reducible assumption) | assumption)
                    have hx16 := bt_at t111 x7_2
                    replace p16 := eq_true p16
                    replace q16 := eq_true q16
                    go_wp2
                    go_ret
                    exact ⟨by first | rfl | (simp [errW_none, errW_some] <;> rfl) | (simp [*, errW_none, errW_some] <;> rfl), by repeat (first | (with_reducible first | exact HB.out | apply below_alloc | apply pw_below_drewN | apply below_drew1) | exact HB.out)⟩
                  · rw [if_neg c17] at H
                    have c17b0 : ((bt t111 x7_2) == 0) = false := beq_eq_false_iff_ne.mpr c17
                    have c17b1 : ((bt t111 x7_2) != 0) = true := bne_iff_ne.mpr c17
                    have H' := Aside0.mk H
                    clear H
                    have p16 : 0 ≤ (x7_2 : Int) := of_decide_eq_true (by first | (with_reducible assumption) | assumption)
                    have q16 : x7_2 < (t111.size : Int) := of_decide_eq_true (by first | (with_reducible assumption) | assumption)
                    have hx16 := bt_at t111 x7_2
                    replace p16 := eq_true p16
                    replace q16 := eq_true q16
                    go_wp2
                    go_roundg k2
                    case measure => have := HK1.out; have := HK2.out; omega
                    case rel => exact ⟨(wrap64 (x7_2 + 1)), (by first | rfl | (simp; done) | (simp [*]; done)), H', ⟨by have := HK1.out; have := HK2.out; omega⟩, ⟨by repeat (first | (with_reducible first | exact HB.out | apply below_alloc | apply pw_below_drewN | apply below_drew1) | exact HB.out)⟩⟩
                · rw [if_neg c15] at H
                  exact absurd H (by simp)
              · rw [if_neg c14] at H
                have c14b0 : decide (x7_2 < (t111.size : Int)) = false := decide_eq_false c14
                clear c14
                by_cases c18 : t109 = true
                · subst c18
                  have H1 : ((lines_Norm.f t110).bind fun t112 => (if t112.toList = t110.toList then ((lines_Clean.f t111).bind fun t113 => (if t113.toList = t111.toList then (if (t110.size : Int) ≤ (a0.size : Int) then (some (decide ((t111.size : Int) ≥ (a0.size : Int)))) else (some false)) else (some false))) else (some false))) = some r := by rw [if_pos rfl] at H; exact H
                  clear H
                  have H := H1
                  clear H1
                  replace H := Option.bind_eq_some_iff.mp H
                  obtain ⟨t112, A190, H⟩ := H
                  replace H : (if t112.toList = t110.toList then ((lines_Clean.f t111).bind fun t113 => (if t113.toList = t111.toList then (if (t110.size : Int) ≤ (a0.size : Int) then (some (decide ((t111.size : Int) ≥ (a0.size : Int)))) else (some false)) else (some false))) else (some false)) = some r := H
                  have A19 := Aside0.mk A190
                  clear A190
                  by_cases c20 : t112.toList = t110.toList
                  · rw [if_pos c20] at H
                    have c20b0 : (t112.toList == t110.toList) = true := beq_iff_eq.mpr c20
                    have c20b1 : (t112.toList != t110.toList) = false := bne_eq_false_iff_eq.mpr c20
                    clear c20
                    replace H := Option.bind_eq_some_iff.mp H
                    obtain ⟨t113, A210, H⟩ := H
                    replace H : (if t113.toList = t111.toList then (if (t110.size : Int) ≤ (a0.size : Int) then (some (decide ((t111.size : Int) ≥ (a0.size : Int)))) else (some false)) else (some false)) = some r := H
                    have A21 := Aside0.mk A210
                    clear A210
                    by_cases c22 : t113.toList = t111.toList
                    · rw [if_pos c22] at H
                      have c22b0 : (t113.toList == t111.toList) = true := beq_iff_eq.mpr c22
                      have c22b1 : (t113.toList != t111.toList) = false := bne_eq_false_iff_eq.mpr c22
                      clear c22
                      by_cases c23 : (t110.size : Int) ≤ (a0.size : Int)
                      · rw [if_pos c23] at H
                        have c23b0 : decide ((t110.size : Int) ≤ (a0.size : Int)) = true := decide_eq_true c23
                        have c23b1 : decide (t110.size ≤ a0.size) = true := decide_eq_true (Int.ofNat_le.mp c23)
                        clear c23
                        obtain rfl := Option.some.inj H
                        go_wp2_with (first | (go_at_call 27; (with_reducible refine (lines_Norm.calls t110 t112 _ A19.out).mono ?_); rintro e w24 ⟨rfl, hb⟩; have n0_ := Aside0.mk (below_step (by repeat (first | (with_reducible first | exact HB.out | apply below_alloc | apply pw_below_drewN | apply below_drew1) | exact HB.out)) hb); clear HB; have HB := n0_; clear n0_; (try clear hb); (try clear hb2); (try clear hk); (try clear hi)) | (go_at_call 29; (with_reducible refine (lines_Clean.calls t111 t113 _ ?side1 A21.out).mono ?_); (case side1 => exact Glob.step hGl (by repeat (first | (with_reducible first | exact HB.out | apply below_alloc | apply pw_below_drewN | apply below_drew1) | exact HB.out))); rintro e w25 ⟨rfl, hb⟩; have n0_ := Aside0.mk (below_step (by repeat (first | (with_reducible first | exact HB.out | apply below_alloc | apply pw_below_drewN | apply below_drew1) | exact HB.out)) hb); clear HB; have HB := n0_; clear n0_; (try clear hb); (try clear hb2); (try clear hk); (try clear hi)))
                        go_ret
                        exact ⟨by first | rfl | (simp [errW_none, errW_some] <;> rfl) | (simp [*, errW_none, errW_some] <;> rfl), by repeat (first | (with_reducible first | exact HB.out | apply below_alloc | apply pw_below_drewN | apply below_drew1) | exact HB.out)⟩
                      · rw [if_neg c23] at H
                        have c23b0 : decide ((t110.size : Int) ≤ (a0.size : Int)) = false := decide_eq_false c23
                        have c23b1 : decide (t110.size ≤ a0.size) = false := decide_eq_false (fun h => c23 (Int.ofNat_le.mpr h))
                        clear c23
                        obtain rfl := Option.some.inj H
                        go_wp2_with (first | (go_at_call 27; (with_reducible refine (lines_Norm.calls t110 t112 _ A19.out).mono ?_); rintro e w26 ⟨rfl, hb⟩; have n0_ := Aside0.mk (below_step (by repeat (first | (with_reducible first | exact HB.out | apply below_alloc | apply pw_below_drewN | apply below_drew1) | exact HB.out)) hb); clear HB; have HB := n0_; clear n0_; (try clear hb); (try clear hb2); (try clear hk); (try clear hi)) | (go_at_call 29; (with_reducible refine (lines_Clean.calls t111 t113 _ ?side1 A21.out).mono ?_); (case side1 => exact Glob.step hGl (by repeat (first | (with_reducible first | exact HB.out | apply below_alloc | apply pw_below_drewN | apply below_drew1) | exact HB.out))); rintro e w27 ⟨rfl, hb⟩; have n0_ := Aside0.mk (below_step (by repeat (first | (with_reducible first | exact HB.out | apply below_alloc | apply pw_below_drewN | apply below_drew1) | exact HB.out)) hb); clear HB; have HB := n0_; clear n0_; (try clear hb); (try clear hb2); (try clear hk); (try clear hi)))
                        go_ret
                        exact ⟨by first | rfl | (simp [errW_none, errW_some] <;> rfl) | (simp [*, errW_none, errW_some] <;> rfl), by repeat (first | (with_reducible first | exact HB.out | apply below_alloc | apply pw_below_drewN | apply below_drew1) | exact HB.out)⟩
                    · rw [if_neg c22] at H
                      have c22b0 : (t113.toList == t111.toList) = false := beq_eq_false_iff_ne.mpr c22
                      have c22b1 : (t113.toList != t111.toList) = true := bne_iff_ne.mpr c22
                      obtain rfl := Option.some.inj H
                      go_wp2_with (first | (go_at_call 27; (with_reducible refine (lines_Norm.calls t110 t112 _ A19.out).mono ?_); rintro e w28 ⟨rfl, hb⟩; have n0_ := Aside0.mk (below_step (by repeat (first | (with_reducible first | exact HB.out | apply below_alloc | apply pw_below_drewN | apply below_drew1) | exact HB.out)) hb); clear HB; have HB := n0_; clear n0_; (try clear hb); (try clear hb2); (try clear hk); (try clear hi)) | (go_at_call 29; (with_reducible refine (lines_Clean.calls t111 t113 _ ?side1 A21.out).mono ?_); (case side1 => exact Glob.step hGl (by repeat (first | (with_reducible first | exact HB.out | apply below_alloc | apply pw_below_drewN | apply below_drew1) | exact HB.out))); rintro e w29 ⟨rfl, hb⟩; have n0_ := Aside0.mk (below_step (by repeat (first | (with_reducible first | exact HB.out | apply below_alloc | apply pw_below_drewN | apply below_drew1) | exact HB.out)) hb); clear HB; have HB := n0_; clear n0_; (try clear hb); (try clear hb2); (try clear hk); (try clear hi)))
                      go_ret
                      exact ⟨by first | rfl | (simp [errW_none, errW_some] <;> rfl) | (simp [*, errW_none, errW_some] <;> rfl), by repeat (first | (with_reducible first | exact HB.out | apply below_alloc | apply pw_below_drewN | apply below_drew1) | exact HB.out)⟩
                  · rw [if_neg c20] at H
                    have c20b0 : (t112.toList == t110.toList) = false := beq_eq_false_iff_ne.mpr c20
                    have c20b1 : (t112.toList != t110.toList) = true := bne_iff_ne.mpr c20
                    obtain rfl := Option.some.inj H
                    go_wp2_with (first | (go_at_call 27; (with_reducible refine (lines_Norm.calls t110 t112 _ A19.out).mono ?_); rintro e w30 ⟨rfl, hb⟩; have n0_ := Aside0.mk (below_step (by repeat (first | (with_reducible first | exact HB.out | apply below_alloc | apply pw_below_drewN | apply below_drew1) | exact HB.out)) hb); clear HB; have HB := n0_; clear n0_; (try clear hb); (try clear hb2); (try clear hk); (try clear hi)))
                    go_ret
                    exact ⟨by first | rfl | (simp [errW_none, errW_some] <;> rfl) | (simp [*, errW_none, errW_some] <;> rfl), by repeat (first | (with_reducible first | exact HB.out | apply below_alloc | apply pw_below_drewN | apply below_drew1) | exact HB.out)⟩
                · replace c18 := Bool.eq_false_iff.mpr c18
                  subst c18
                  have H1 : (some false) = some r := by rw [if_neg (show ¬ (false = true) by decide)] at H; exact H
                  clear H
                  have H := H1
                  clear H1
                  obtain rfl := Option.some.inj H
                  go_wp2
                  go_ret
                  exact ⟨by first | rfl | (simp [errW_none, errW_some] <;> rfl) | (simp [*, errW_none, errW_some] <;> rfl), by repeat (first | (with_reducible first | exact HB.out | apply below_alloc | apply pw_below_drewN | apply below_drew1) | exact HB.out)⟩

/-- THE ONE PURE STATEMENT of flaillaw02_LinesOnce: yours. -/
def flaillaw02_LinesOnce.Pure : Prop := ∀ (a0 : ByteArray), a0.size ≤ 140737488351232 → ∃ k, flaillaw02_LinesOnce.f k a0 = some true
theorem flaillaw02_LinesOnce.walk (P : flaillaw02_LinesOnce.Pure) (a0 : ByteArray) (w : World) (w0 : a0.size ≤ 140737488351232) (hGl : Glob w) :
    Calls Tryd.prog 4 #[.string a0] w fun e w' => e = .returned (.bool true) ∧ Below w.heap.size w w' := by
  obtain ⟨k, h⟩ := P a0 w0
  refine (flaillaw02_LinesOnce.calls k a0 true w hGl h).mono ?_
  rintro e w' ⟨rfl, hd⟩
  exact ⟨rfl, hd⟩

end Go.Proofs.YtppaobgccdlccaaDoor.Pr
