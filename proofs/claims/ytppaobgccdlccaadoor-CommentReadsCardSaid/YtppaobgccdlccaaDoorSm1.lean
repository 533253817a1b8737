-- Written by a program of this session over the kit's printer: not by hand.
import Derived.Test.YtppaobgccdlccaaDoorSm0
namespace Go.Proofs.YtppaobgccdlccaaDoor.Sm
open Go.RowKit Go.Proofs.YtppaobgccdlccaaDoor.K0  Go.Proofs.YtppaobgccdlccaaDoor.Sr Go.Proofs.YtppaobgccdlccaaDoorW.PrintWords Go.Proofs.YtppaobgccdlccaaDoorW.PrintLast Go.Proofs.YtppaobgccdlccaaDoorW.PrintMore
attribute [local go_sem] max2_int min2_int max_two min_two max_three min_three max_four min_four   -- for this text's walks alone
set_option linter.unusedVariables false
set_option linter.unusedSimpArgs false

/-! ### flailref10_Begins: function 41 -/
def flailref10_Begins.j0 : Nat → ByteArray → Int → Bool → Option (Bool)
  | 0, _, _, _ => none
  | k + 1, x0, x1, x13 => if x13 = true then (some false) else (if 0 ≤ x1 then (if x1 < (x0.size : Int) then (if (bt x0 x1) = 60 then (if 0 ≤ (wrap64 (x1 + 1)) then (if (wrap64 (x1 + 1)) < (x0.size : Int) then (if (bt x0 (wrap64 (x1 + 1))) = 33 then ((flailref03_Begins.f k x0 (wrap64 (x1 + 2)) (⟨#[100, 111, 99, 116, 121, 112, 101]⟩ : ByteArray)).bind fun t101 => (some (!t101))) else (if (bt x0 (wrap64 (x1 + 1))) = 63 then (some true) else (if (bt x0 (wrap64 (x1 + 1))) = 47 then (if (wrap64 (x1 + 2)) ≥ (x0.size : Int) then (some false) else (if 0 ≤ (wrap64 (x1 + 2)) then (if (wrap64 (x1 + 2)) < (x0.size : Int) then (if (bt x0 (wrap64 (x1 + 2))) = 62 then (some false) else ((flailref03_Letter.f (bt x0 (wrap64 (x1 + 2)))).bind fun t102 => (some (!t102)))) else (none)) else (none))) else (some false)))) else (none)) else (none)) else (some false)) else (none)) else (none))
def flailref10_Begins.f (k : Nat) (a0 : ByteArray) (a1 : Int) : Option (Bool) := if a1 < 0 then (flailref10_Begins.j0 k a0 a1 true) else (flailref10_Begins.j0 k a0 a1 (decide (a1 ≥ (wrap64 ((a0.size : Int) - 1)))))
theorem flailref10_Begins.mono_l : ∀ k, (∀ y0 y1 y2, LeO (flailref10_Begins.j0 k y0 y1 y2) (flailref10_Begins.j0 (k + 1) y0 y1 y2))
  | 0 => fun _ _ _ r h => by simp [flailref10_Begins.j0] at h
  | k + 1 => by
    have ih0 := flailref10_Begins.mono_l k
    · intro y0 y1 y2
      unfold flailref10_Begins.j0
      repeat' first
      | (with_reducible exact ih0 _ _ _)
      | (with_reducible exact flailref03_Begins.mono _ _ _ _)
      | (with_reducible exact LeO.refl _)
      | (with_reducible exact LeO.none _)
      | (with_reducible refine LeO.ite ?_ ?_)
      | (with_reducible refine LeO.bind ?_ (fun _ => ?_))
      | exact ih0 _ _ _
      | exact flailref03_Begins.mono _ _ _ _
      | exact LeO.none _
      | refine LeO.ite ?_ ?_
      | refine LeO.bind ?_ (fun _ => ?_)
theorem flailref10_Begins.mono : ∀ a0 a1 k, LeO (flailref10_Begins.f k a0 a1) (flailref10_Begins.f (k + 1) a0 a1) := by
  intro a0 a1 k
  have ih0 := flailref10_Begins.mono_l k
  unfold flailref10_Begins.f
  repeat' first
      | (with_reducible exact ih0 _ _ _)
      | (with_reducible exact flailref03_Begins.mono _ _ _ _)
      | (with_reducible exact LeO.refl _)
      | (with_reducible exact LeO.none _)
      | (with_reducible refine LeO.ite ?_ ?_)
      | (with_reducible refine LeO.bind ?_ (fun _ => ?_))
      | exact ih0 _ _ _
      | exact flailref03_Begins.mono _ _ _ _
      | exact LeO.none _
      | refine LeO.ite ?_ ?_
      | refine LeO.bind ?_ (fun _ => ?_)
set_option maxHeartbeats 8000000 in
set_option maxRecDepth 100000 in
theorem flailref10_Begins.calls (k : Nat) (a0 : ByteArray) (a1 : Int) (r : Bool) (w : World) (h : flailref10_Begins.f k a0 a1 = some r) :
    Calls Tryd.prog 41 #[.string a0, .int .i64 a1] w fun e w' => e = .returned (.bool r) ∧ Below w.heap.size w w' := by
  have HB := Aside0.mk (Below.refl w.heap.size w)
  have H : (if a1 < 0 then (flailref10_Begins.j0 k a0 a1 true) else (flailref10_Begins.j0 k a0 a1 (decide (a1 ≥ (wrap64 ((a0.size : Int) - 1)))))) = some r := h
  clear h
  have HC3 := Aside0.mk H
  clear H
  go_enter Tryd.func41, Tryd.ntmps41
  go_upto_region 1 with (fail)
  go_cut [13] (fun v13 wc => ∃ (kq : Nat) (x13_2 : Bool), v13 = .bool x13_2 ∧ Aside0 (flailref10_Begins.j0 kq a0 a1 x13_2 = some r) ∧ Aside0 (kq ≤ k) ∧ Aside0 (Below w.heap.size w wc))
  case first =>
    have H := HC3.out
    clear HC3
    by_cases c4 : a1 < 0
    · rw [if_pos c4] at H
      have c4b0 : decide (a1 < 0) = true := decide_eq_true c4
      clear c4
      (first | rw [c4b0] | (simp only [i64_w, i32_w]; rw [c4b0]) | skip)
      have H' := Aside0.mk H
      clear H
      go_wp2
      go_meet
      case rel => exact ⟨_, (true), (by first | rfl | (simp; done) | (simp [*]; done)), H', ⟨by first | omega | exact Nat.le_refl _⟩, ⟨by repeat (first | (with_reducible first | exact HB.out | apply below_alloc | apply pw_below_drewN | apply below_drew1) | exact HB.out)⟩⟩
    · rw [if_neg c4] at H
      have c4b0 : decide (a1 < 0) = false := decide_eq_false c4
      clear c4
      (first | rw [c4b0] | (simp only [i64_w, i32_w]; rw [c4b0]) | skip)
      have H' := Aside0.mk H
      clear H
      go_wp2
      go_meet
      case rel => exact ⟨_, (decide (a1 ≥ (wrap64 ((a0.size : Int) - 1)))), (by first | rfl | (simp; done) | (simp [*]; done)), H', ⟨by first | omega | exact Nat.le_refl _⟩, ⟨by repeat (first | (with_reducible first | exact HB.out | apply below_alloc | apply pw_below_drewN | apply below_drew1) | exact HB.out)⟩⟩
  case rest =>
    clear HC3
    try clear p2
    try clear c4
    try clear c4b0
    obtain ⟨kq, x13_2, rfl, HA, HJ2, HB⟩ := hcut
    cases kq with
    | zero => exact absurd HA.out (by simp [flailref10_Begins.j0])
    | succ kj2 =>
      have H := HA.out
      clear HA
      simp only [flailref10_Begins.j0] at H
      by_cases c5 : x13_2 = true
      · subst c5
        have H1 : (some false) = some r := by rw [if_pos rfl] at H; exact H
        clear H
        have H := H1
        clear H1
        obtain rfl := Option.some.inj H
        go_wp2
        go_ret
        exact ⟨by first | rfl | (simp [errW_none, errW_some] <;> rfl) | (simp [*, errW_none, errW_some] <;> rfl), by repeat (first | (with_reducible first | exact HB.out | apply below_alloc | apply pw_below_drewN | apply below_drew1) | exact HB.out)⟩
      · replace c5 := Bool.eq_false_iff.mpr c5
        subst c5
        have H1 : (if 0 ≤ a1 then (if a1 < (a0.size : Int) then (if (bt a0 a1) = 60 then (if 0 ≤ (wrap64 (a1 + 1)) then (if (wrap64 (a1 + 1)) < (a0.size : Int) then (if (bt a0 (wrap64 (a1 + 1))) = 33 then ((flailref03_Begins.f kj2 a0 (wrap64 (a1 + 2)) (⟨#[100, 111, 99, 116, 121, 112, 101]⟩ : ByteArray)).bind fun t101 => (some (!t101))) else (if (bt a0 (wrap64 (a1 + 1))) = 63 then (some true) else (if (bt a0 (wrap64 (a1 + 1))) = 47 then (if (wrap64 (a1 + 2)) ≥ (a0.size : Int) then (some false) else (if 0 ≤ (wrap64 (a1 + 2)) then (if (wrap64 (a1 + 2)) < (a0.size : Int) then (if (bt a0 (wrap64 (a1 + 2))) = 62 then (some false) else ((flailref03_Letter.f (bt a0 (wrap64 (a1 + 2)))).bind fun t102 => (some (!t102)))) else (none)) else (none))) else (some false)))) else (none)) else (none)) else (some false)) else (none)) else (none)) = some r := by rw [if_neg (show ¬ (false = true) by decide)] at H; exact H
        clear H
        have H := H1
        clear H1
        by_cases c6 : 0 ≤ a1
        · rw [if_pos c6] at H
          have c6b0 : decide (0 ≤ a1) = true := decide_eq_true c6
          clear c6
          by_cases c7 : a1 < (a0.size : Int)
          · rw [if_pos c7] at H
            have c7b0 : decide (a1 < (a0.size : Int)) = true := decide_eq_true c7
            clear c7
            by_cases c9 : (bt a0 a1) = 60
            · rw [if_pos c9] at H
              have c9b0 : ((bt a0 a1) == 60) = true := beq_iff_eq.mpr c9
              have c9b1 : ((bt a0 a1) != 60) = false := bne_eq_false_iff_eq.mpr c9
              clear c9
              obtain ⟨ji10, hji10⟩ : ∃ j_ : Int, (wrap64 (a1 + 1)) = j_ := ⟨_, rfl⟩
              replace H : (if 0 ≤ (ji10) then (if (ji10) < (a0.size : Int) then (if (bt a0 (ji10)) = 33 then ((flailref03_Begins.f kj2 a0 (wrap64 (a1 + 2)) (⟨#[100, 111, 99, 116, 121, 112, 101]⟩ : ByteArray)).bind fun t101 => (some (!t101))) else (if (bt a0 (ji10)) = 63 then (some true) else (if (bt a0 (ji10)) = 47 then (if (wrap64 (a1 + 2)) ≥ (a0.size : Int) then (some false) else (if 0 ≤ (wrap64 (a1 + 2)) then (if (wrap64 (a1 + 2)) < (a0.size : Int) then (if (bt a0 (wrap64 (a1 + 2))) = 62 then (some false) else ((flailref03_Letter.f (bt a0 (wrap64 (a1 + 2)))).bind fun t102 => (some (!t102)))) else (none)) else (none))) else (some false)))) else (none)) else (none)) = some r := by first | (rw [hji10] at H; exact H) | (simp only [hji10] at H ⊢; exact H)
              have hji10w : (IntKind.i64.wrap (a1 + 1)) = ji10 := (i64_w _).trans hji10
              by_cases c11 : 0 ≤ (ji10)
              · rw [if_pos c11] at H
                have c11b0 : decide (0 ≤ (ji10)) = true := decide_eq_true c11
                clear c11
                by_cases c12 : (ji10) < (a0.size : Int)
                · rw [if_pos c12] at H
                  have c12b0 : decide ((ji10) < (a0.size : Int)) = true := decide_eq_true c12
                  clear c12
                  by_cases c14 : (bt a0 (ji10)) = 33
                  · rw [if_pos c14] at H
                    have c14b0 : ((bt a0 (ji10)) == 33) = true := beq_iff_eq.mpr c14
                    have c14b1 : ((bt a0 (ji10)) != 33) = false := bne_eq_false_iff_eq.mpr c14
                    clear c14
                    replace H := Option.bind_eq_some_iff.mp H
                    obtain ⟨t101, A150, H⟩ := H
                    replace H : (some (!t101)) = some r := H
                    have A15 := Aside0.mk A150
                    clear A150
                    obtain rfl := Option.some.inj H
                    have p8 : 0 ≤ (a1 : Int) := of_decide_eq_true (by first | (with_reducible assumption) | assumption)
                    have q8 : a1 < (a0.size : Int) := of_decide_eq_true (by first | (with_reducible assumption) | assumption)
                    have hx8 := bt_at a0 a1
                    replace p8 := eq_true p8
                    replace q8 := eq_true q8
                    have p13 : 0 ≤ ((ji10) : Int) := of_decide_eq_true (by first | (with_reducible assumption) | assumption)
                    have q13 : (ji10) < (a0.size : Int) := of_decide_eq_true (by first | (with_reducible assumption) | assumption)
                    have hx13 := bt_at a0 (ji10)
                    replace p13 := eq_true p13
                    replace q13 := eq_true q13
                    go_wp2_with (first | ((with_reducible refine gate_callee (f := 62) rfl ?_); refine goesL_ (some 27) rfl rfl Tryd.func62 (by kernel_rfl) rfl #[.string a0, .int .i64 (wrap64 (a1 + 2)), .string (⟨#[100, 111, 99, 116, 121, 112, 101]⟩ : ByteArray)] rfl (by (try simp only [List.map_toArray, List.map_cons, List.map_nil]); first | done | rfl | (simp only [List.length_drop, List.length_take]; rfl)) ?_; (with_reducible refine (flailref03_Begins.calls kj2 a0 (wrap64 (a1 + 2)) (⟨#[100, 111, 99, 116, 121, 112, 101]⟩ : ByteArray) t101 _ A15.out).mono ?_); rintro e w16 ⟨rfl, hb⟩; refine ⟨_, rfl, ?_⟩; have n0_ := Aside0.mk (below_step (by repeat (first | (with_reducible first | exact HB.out | apply below_alloc | apply pw_below_drewN | apply below_drew1) | exact HB.out)) hb); clear HB; have HB := n0_; clear n0_; (try clear hb); (try clear hb2); (try clear hk); (try clear hi)))
                    go_ret
                    exact ⟨by first | rfl | (simp [errW_none, errW_some] <;> rfl) | (simp only [← hji10]; first | rfl | (simp [errW_none, errW_some] <;> rfl)) | (simp [*, errW_none, errW_some] <;> rfl), by repeat (first | (with_reducible first | exact HB.out | apply below_alloc | apply pw_below_drewN | apply below_drew1) | exact HB.out)⟩
                  · rw [if_neg c14] at H
                    have c14b0 : ((bt a0 (ji10)) == 33) = false := beq_eq_false_iff_ne.mpr c14
                    have c14b1 : ((bt a0 (ji10)) != 33) = true := bne_iff_ne.mpr c14
                    by_cases c17 : (bt a0 (ji10)) = 63
                    · rw [if_pos c17] at H
                      have c17b0 : ((bt a0 (ji10)) == 63) = true := beq_iff_eq.mpr c17
                      have c17b1 : ((bt a0 (ji10)) != 63) = false := bne_eq_false_iff_eq.mpr c17
                      clear c17
                      obtain rfl := Option.some.inj H
                      have p8 : 0 ≤ (a1 : Int) := of_decide_eq_true (by first | (with_reducible assumption) | assumption)
                      have q8 : a1 < (a0.size : Int) := of_decide_eq_true (by first | (with_reducible assumption) | assumption)
                      have hx8 := bt_at a0 a1
                      replace p8 := eq_true p8
                      replace q8 := eq_true q8
                      have p13 : 0 ≤ ((ji10) : Int) := of_decide_eq_true (by first | (with_reducible assumption) | assumption)
                      have q13 : (ji10) < (a0.size : Int) := of_decide_eq_true (by first | (with_reducible assumption) | assumption)
                      have hx13 := bt_at a0 (ji10)
                      replace p13 := eq_true p13
                      replace q13 := eq_true q13
                      go_wp2
                      go_ret
                      exact ⟨by first | rfl | (simp [errW_none, errW_some] <;> rfl) | (simp only [← hji10]; first | rfl | (simp [errW_none, errW_some] <;> rfl)) | (simp [*, errW_none, errW_some] <;> rfl), by repeat (first | (with_reducible first | exact HB.out | apply below_alloc | apply pw_below_drewN | apply below_drew1) | exact HB.out)⟩
                    · rw [if_neg c17] at H
                      have c17b0 : ((bt a0 (ji10)) == 63) = false := beq_eq_false_iff_ne.mpr c17
                      have c17b1 : ((bt a0 (ji10)) != 63) = true := bne_iff_ne.mpr c17
                      by_cases c18 : (bt a0 (ji10)) = 47
                      · rw [if_pos c18] at H
                        have c18b0 : ((bt a0 (ji10)) == 47) = true := beq_iff_eq.mpr c18
                        have c18b1 : ((bt a0 (ji10)) != 47) = false := bne_eq_false_iff_eq.mpr c18
                        clear c18
                        by_cases c19 : (wrap64 (a1 + 2)) ≥ (a0.size : Int)
                        · rw [if_pos c19] at H
                          have c19b0 : decide ((a0.size : Int) ≤ (wrap64 (a1 + 2))) = true := decide_eq_true c19
                          clear c19
                          obtain rfl := Option.some.inj H
                          have p8 : 0 ≤ (a1 : Int) := of_decide_eq_true (by first | (with_reducible assumption) | assumption)
                          have q8 : a1 < (a0.size : Int) := of_decide_eq_true (by first | (with_reducible assumption) | assumption)
                          have hx8 := bt_at a0 a1
                          replace p8 := eq_true p8
                          replace q8 := eq_true q8
                          have p13 : 0 ≤ ((ji10) : Int) := of_decide_eq_true (by first | (with_reducible assumption) | assumption)
                          have q13 : (ji10) < (a0.size : Int) := of_decide_eq_true (by first | (with_reducible assumption) | assumption)
                          have hx13 := bt_at a0 (ji10)
                          replace p13 := eq_true p13
                          replace q13 := eq_true q13
                          go_wp2
                          go_ret
                          exact ⟨by first | rfl | (simp [errW_none, errW_some] <;> rfl) | (simp only [← hji10]; first | rfl | (simp [errW_none, errW_some] <;> rfl)) | (simp [*, errW_none, errW_some] <;> rfl), by repeat (first | (with_reducible first | exact HB.out | apply below_alloc | apply pw_below_drewN | apply below_drew1) | exact HB.out)⟩
                        · rw [if_neg c19] at H
                          have c19b0 : decide ((a0.size : Int) ≤ (wrap64 (a1 + 2))) = false := decide_eq_false c19
                          clear c19
                          obtain ⟨ji20, hji20⟩ : ∃ j_ : Int, (wrap64 (a1 + 2)) = j_ := ⟨_, rfl⟩
                          replace H : (if 0 ≤ (ji20) then (if (ji20) < (a0.size : Int) then (if (bt a0 (ji20)) = 62 then (some false) else ((flailref03_Letter.f (bt a0 (ji20))).bind fun t102 => (some (!t102)))) else (none)) else (none)) = some r := by first | (rw [hji20] at H; exact H) | (simp only [hji20] at H ⊢; exact H)
                          (try rw [hji20] at c19b0)
                          have hji20w : (IntKind.i64.wrap (a1 + 2)) = ji20 := (i64_w _).trans hji20
                          by_cases c21 : 0 ≤ (ji20)
                          · rw [if_pos c21] at H
                            have c21b0 : decide (0 ≤ (ji20)) = true := decide_eq_true c21
                            clear c21
                            by_cases c22 : (ji20) < (a0.size : Int)
                            · rw [if_pos c22] at H
                              have c22b0 : decide ((ji20) < (a0.size : Int)) = true := decide_eq_true c22
                              clear c22
                              by_cases c24 : (bt a0 (ji20)) = 62
                              · rw [if_pos c24] at H
                                have c24b0 : ((bt a0 (ji20)) == 62) = true := beq_iff_eq.mpr c24
                                have c24b1 : ((bt a0 (ji20)) != 62) = false := bne_eq_false_iff_eq.mpr c24
                                clear c24
                                obtain rfl := Option.some.inj H
                                have p8 : 0 ≤ (a1 : Int) := of_decide_eq_true (by first | (with_reducible assumption) | assumption)
                                have q8 : a1 < (a0.size : Int) := of_decide_eq_true (by first | (with_reducible assumption) | assumption)
                                have hx8 := bt_at a0 a1
                                replace p8 := eq_true p8
                                replace q8 := eq_true q8
                                have p13 : 0 ≤ ((ji10) : Int) := of_decide_eq_true (by first | (with_reducible assumption) | assumption)
                                have q13 : (ji10) < (a0.size : Int) := of_decide_eq_true (by first | (with_reducible assumption) | assumption)
                                have hx13 := bt_at a0 (ji10)
                                replace p13 := eq_true p13
                                replace q13 := eq_true q13
                                have p23 : 0 ≤ ((ji20) : Int) := of_decide_eq_true (by first | (with_reducible assumption) | assumption)
                                have q23 : (ji20) < (a0.size : Int) := of_decide_eq_true (by first | (with_reducible assumption) | assumption)
                                have hx23 := bt_at a0 (ji20)
                                replace p23 := eq_true p23
                                replace q23 := eq_true q23
                                go_wp2
                                go_ret
                                exact ⟨by first | rfl | (simp [errW_none, errW_some] <;> rfl) | (simp only [← hji10, ← hji20]; first | rfl | (simp [errW_none, errW_some] <;> rfl)) | (simp [*, errW_none, errW_some] <;> rfl), by repeat (first | (with_reducible first | exact HB.out | apply below_alloc | apply pw_below_drewN | apply below_drew1) | exact HB.out)⟩
                              · rw [if_neg c24] at H
                                have c24b0 : ((bt a0 (ji20)) == 62) = false := beq_eq_false_iff_ne.mpr c24
                                have c24b1 : ((bt a0 (ji20)) != 62) = true := bne_iff_ne.mpr c24
                                replace H := Option.bind_eq_some_iff.mp H
                                obtain ⟨t102, A260, H⟩ := H
                                replace H : (some (!t102)) = some r := H
                                have A26 := Aside0.mk A260
                                clear A260
                                obtain rfl := Option.some.inj H
                                have p8 : 0 ≤ (a1 : Int) := of_decide_eq_true (by first | (with_reducible assumption) | assumption)
                                have q8 : a1 < (a0.size : Int) := of_decide_eq_true (by first | (with_reducible assumption) | assumption)
                                have hx8 := bt_at a0 a1
                                replace p8 := eq_true p8
                                replace q8 := eq_true q8
                                have p13 : 0 ≤ ((ji10) : Int) := of_decide_eq_true (by first | (with_reducible assumption) | assumption)
                                have q13 : (ji10) < (a0.size : Int) := of_decide_eq_true (by first | (with_reducible assumption) | assumption)
                                have hx13 := bt_at a0 (ji10)
                                replace p13 := eq_true p13
                                replace q13 := eq_true q13
                                have p23 : 0 ≤ ((ji20) : Int) := of_decide_eq_true (by first | (with_reducible assumption) | assumption)
                                have q23 : (ji20) < (a0.size : Int) := of_decide_eq_true (by first | (with_reducible assumption) | assumption)
                                have hx23 := bt_at a0 (ji20)
                                replace p23 := eq_true p23
                                replace q23 := eq_true q23
                                have p25 : 0 ≤ ((ji20) : Int) := of_decide_eq_true (by first | (with_reducible assumption) | assumption)
                                have q25 : (ji20) < (a0.size : Int) := of_decide_eq_true (by first | (with_reducible assumption) | assumption)
                                have hx25 := bt_at a0 (ji20)
                                replace p25 := eq_true p25
                                replace q25 := eq_true q25
                                go_wp2_with (first | (go_at_call 70; (with_reducible refine (flailref03_Letter.calls (bt a0 (ji20)) t102 _ A26.out).mono ?_); rintro e w' ⟨rfl, ⟨nd, rfl⟩⟩))
                                go_ret
                                exact ⟨by first | rfl | (simp [errW_none, errW_some] <;> rfl) | (simp only [← hji10, ← hji20]; first | rfl | (simp [errW_none, errW_some] <;> rfl)) | (simp [*, errW_none, errW_some] <;> rfl), by repeat (first | (with_reducible first | exact HB.out | apply below_alloc | apply pw_below_drewN | apply below_drew1) | exact HB.out)⟩
                            · rw [if_neg c22] at H
                              exact absurd H (by simp)
                          · rw [if_neg c21] at H
                            exact absurd H (by simp)
                      · rw [if_neg c18] at H
                        have c18b0 : ((bt a0 (ji10)) == 47) = false := beq_eq_false_iff_ne.mpr c18
                        have c18b1 : ((bt a0 (ji10)) != 47) = true := bne_iff_ne.mpr c18
                        obtain rfl := Option.some.inj H
                        have p8 : 0 ≤ (a1 : Int) := of_decide_eq_true (by first | (with_reducible assumption) | assumption)
                        have q8 : a1 < (a0.size : Int) := of_decide_eq_true (by first | (with_reducible assumption) | assumption)
                        have hx8 := bt_at a0 a1
                        replace p8 := eq_true p8
                        replace q8 := eq_true q8
                        have p13 : 0 ≤ ((ji10) : Int) := of_decide_eq_true (by first | (with_reducible assumption) | assumption)
                        have q13 : (ji10) < (a0.size : Int) := of_decide_eq_true (by first | (with_reducible assumption) | assumption)
                        have hx13 := bt_at a0 (ji10)
                        replace p13 := eq_true p13
                        replace q13 := eq_true q13
                        go_wp2
                        go_ret
                        exact ⟨by first | rfl | (simp [errW_none, errW_some] <;> rfl) | (simp only [← hji10]; first | rfl | (simp [errW_none, errW_some] <;> rfl)) | (simp [*, errW_none, errW_some] <;> rfl), by repeat (first | (with_reducible first | exact HB.out | apply below_alloc | apply pw_below_drewN | apply below_drew1) | exact HB.out)⟩
                · rw [if_neg c12] at H
                  exact absurd H (by simp)
              · rw [if_neg c11] at H
                exact absurd H (by simp)
            · rw [if_neg c9] at H
              have c9b0 : ((bt a0 a1) == 60) = false := beq_eq_false_iff_ne.mpr c9
              have c9b1 : ((bt a0 a1) != 60) = true := bne_iff_ne.mpr c9
              obtain rfl := Option.some.inj H
              have p8 : 0 ≤ (a1 : Int) := of_decide_eq_true (by first | (with_reducible assumption) | assumption)
              have q8 : a1 < (a0.size : Int) := of_decide_eq_true (by first | (with_reducible assumption) | assumption)
              have hx8 := bt_at a0 a1
              replace p8 := eq_true p8
              replace q8 := eq_true q8
              go_wp2
              go_ret
              exact ⟨by first | rfl | (simp [errW_none, errW_some] <;> rfl) | (simp [*, errW_none, errW_some] <;> rfl), by repeat (first | (with_reducible first | exact HB.out | apply below_alloc | apply pw_below_drewN | apply below_drew1) | exact HB.out)⟩
          · rw [if_neg c7] at H
            exact absurd H (by simp)
        · rw [if_neg c6] at H
          exact absurd H (by simp)

/-! ### flailref10_ends: function 91 -/
def flailref10_ends.f (a0 : ByteArray) (a1 : ByteArray) : Option (Bool) := if (a0.size : Int) < (a1.size : Int) then (some false) else (if 0 ≤ (wrap64 ((a0.size : Int) - (a1.size : Int))) then (if (wrap64 ((a0.size : Int) - (a1.size : Int))) ≤ (a0.size : Int) then (some ((a0.extract ((wrap64 ((a0.size : Int) - (a1.size : Int))) : Int).toNat a0.size).toList == a1.toList)) else (none)) else (none))
set_option maxHeartbeats 8000000 in
set_option maxRecDepth 100000 in
theorem flailref10_ends.calls (a0 : ByteArray) (a1 : ByteArray) (r : Bool) (w : World) (h : flailref10_ends.f a0 a1 = some r) :
    Calls Tryd.prog 91 #[.string a0, .string a1] w fun e w' => e = .returned (.bool r) ∧ Drawn0 w w' := by
  have H : (if (a0.size : Int) < (a1.size : Int) then (some false) else (if 0 ≤ (wrap64 ((a0.size : Int) - (a1.size : Int))) then (if (wrap64 ((a0.size : Int) - (a1.size : Int))) ≤ (a0.size : Int) then (some ((a0.extract ((wrap64 ((a0.size : Int) - (a1.size : Int))) : Int).toNat a0.size).toList == a1.toList)) else (none)) else (none))) = some r := h
  clear h
  by_cases c3 : (a0.size : Int) < (a1.size : Int)
  · rw [if_pos c3] at H
    have c3b0 : decide ((a0.size : Int) < (a1.size : Int)) = true := decide_eq_true c3
    have c3b1 : decide (a0.size < a1.size) = true := decide_eq_true (Int.ofNat_lt.mp c3)
    clear c3
    obtain rfl := Option.some.inj H
    go_enter Tryd.func91, Tryd.ntmps91
    go_wp2
    go_ret
    exact ⟨by first | rfl | (simp; done) | (simp [*]; done), by repeat (first | exact Drawn0.refl _ | apply Drawn0.step)⟩
  · rw [if_neg c3] at H
    have c3b0 : decide ((a0.size : Int) < (a1.size : Int)) = false := decide_eq_false c3
    have c3b1 : decide (a0.size < a1.size) = false := decide_eq_false (fun h => c3 (Int.ofNat_lt.mpr h))
    clear c3
    obtain ⟨ji4, hji4⟩ : ∃ j_ : Int, (wrap64 ((a0.size : Int) - (a1.size : Int))) = j_ := ⟨_, rfl⟩
    replace H : (if 0 ≤ (ji4) then (if (ji4) ≤ (a0.size : Int) then (some ((a0.extract ((ji4) : Int).toNat a0.size).toList == a1.toList)) else (none)) else (none)) = some r := by first | (rw [hji4] at H; exact H) | (simp only [hji4] at H ⊢; exact H)
    have hji4w : (IntKind.i64.wrap ((a0.size : Int) - (a1.size : Int))) = ji4 := (i64_w _).trans hji4
    by_cases c5 : 0 ≤ (ji4)
    · rw [if_pos c5] at H
      have c5b0 := eq_true c5
      have c5b1 : decide (0 ≤ (ji4)) = true := decide_eq_true c5
      clear c5
      by_cases c6 : (ji4) ≤ (a0.size : Int)
      · rw [if_pos c6] at H
        have c6b0 := eq_true c6
        have c6b1 : decide ((ji4) ≤ (a0.size : Int)) = true := decide_eq_true c6
        clear c6
        obtain rfl := Option.some.inj H
        go_enter Tryd.func91, Tryd.ntmps91
        go_wp2
        go_ret
        exact ⟨by first | rfl | (simp; done) | (simp only [← hji4] <;> (first | rfl | simp)) | (simp [*]; done), by repeat (first | exact Drawn0.refl _ | apply Drawn0.step)⟩
      · rw [if_neg c6] at H
        exact absurd H (by simp)
    · rw [if_neg c5] at H
      exact absurd H (by simp)

/-! ### flailref10_plain: function 67 -/
def flailref10_plain.l0 : Nat → ByteArray → Int → Option (ByteArray × Int)
  | 0, _, _ => none
  | k + 1, x0, x4 => if x4 < (x0.size : Int) then (if 0 ≤ x4 then (if x4 ≤ (x0.size : Int) then ((flailref01_Begins.f (x0.extract (x4 : Int).toNat x0.size) (⟨#[45, 45, 62]⟩ : ByteArray)).bind fun t105 => (if t105 = true then (some (x0.extract 0 (x4 : Int).toNat, wrap64 (x4 + 3))) else ((flailref01_Begins.f (x0.extract (x4 : Int).toNat x0.size) (⟨#[45, 45, 33, 62]⟩ : ByteArray)).bind fun t106 => (if t106 = true then (some (x0.extract 0 (x4 : Int).toNat, wrap64 (x4 + 4))) else (flailref10_plain.l0 k x0 (wrap64 (x4 + 1))))))) else (none)) else (none)) else ((flailref10_ends.f x0 (⟨#[45, 45, 33]⟩ : ByteArray)).bind fun t107 => (if t107 = true then (if 0 ≤ (wrap64 ((x0.size : Int) - 3)) then (if (wrap64 ((x0.size : Int) - 3)) ≤ (x0.size : Int) then (some (x0.extract 0 ((wrap64 ((x0.size : Int) - 3)) : Int).toNat, (x0.size : Int))) else (none)) else (none)) else ((flailref10_ends.f x0 (⟨#[45, 45]⟩ : ByteArray)).bind fun t108 => (if t108 = true then (if 0 ≤ (wrap64 ((x0.size : Int) - 2)) then (if (wrap64 ((x0.size : Int) - 2)) ≤ (x0.size : Int) then (some (x0.extract 0 ((wrap64 ((x0.size : Int) - 2)) : Int).toNat, (x0.size : Int))) else (none)) else (none)) else ((flailref10_ends.f x0 (⟨#[45]⟩ : ByteArray)).bind fun t109 => (if t109 = true then (if 0 ≤ (wrap64 ((x0.size : Int) - 1)) then (if (wrap64 ((x0.size : Int) - 1)) ≤ (x0.size : Int) then (some (x0.extract 0 ((wrap64 ((x0.size : Int) - 1)) : Int).toNat, (x0.size : Int))) else (none)) else (none)) else (some (x0, (x0.size : Int)))))))))
def flailref10_plain.f (k : Nat) (a0 : ByteArray) : Option (ByteArray × Int) := (flailref01_Begins.f a0 (⟨#[62]⟩ : ByteArray)).bind fun t103 => (if t103 = true then (some ((⟨#[]⟩ : ByteArray), 1)) else ((flailref01_Begins.f a0 (⟨#[45, 62]⟩ : ByteArray)).bind fun t104 => (if t104 = true then (some ((⟨#[]⟩ : ByteArray), 2)) else (flailref10_plain.l0 k a0 0))))
theorem flailref10_plain.mono_l : ∀ k, (∀ y0 y1, LeO (flailref10_plain.l0 k y0 y1) (flailref10_plain.l0 (k + 1) y0 y1))
  | 0 => fun _ _ r h => by simp [flailref10_plain.l0] at h
  | k + 1 => by
    have ih0 := flailref10_plain.mono_l k
    · intro y0 y1
      unfold flailref10_plain.l0
      repeat' first
      | (with_reducible exact ih0 _ _)
      | (with_reducible exact LeO.refl _)
      | (with_reducible exact LeO.none _)
      | (with_reducible refine LeO.ite ?_ ?_)
      | (with_reducible refine LeO.bind ?_ (fun _ => ?_))
      | exact ih0 _ _
      | exact LeO.none _
      | refine LeO.ite ?_ ?_
      | refine LeO.bind ?_ (fun _ => ?_)
theorem flailref10_plain.mono : ∀ a0 k, LeO (flailref10_plain.f k a0) (flailref10_plain.f (k + 1) a0) := by
  intro a0 k
  have ih0 := flailref10_plain.mono_l k
  unfold flailref10_plain.f
  repeat' first
      | (with_reducible exact ih0 _ _)
      | (with_reducible exact LeO.refl _)
      | (with_reducible exact LeO.none _)
      | (with_reducible refine LeO.ite ?_ ?_)
      | (with_reducible refine LeO.bind ?_ (fun _ => ?_))
      | exact ih0 _ _
      | exact LeO.none _
      | refine LeO.ite ?_ ?_
      | refine LeO.bind ?_ (fun _ => ?_)
set_option maxHeartbeats 8000000 in
set_option maxRecDepth 100000 in
theorem flailref10_plain.calls (k : Nat) (a0 : ByteArray) (r1 : ByteArray) (r2 : Int) (w : World) (h : flailref10_plain.f k a0 = some (r1, r2)) :
    Calls Tryd.prog 67 #[.string a0] w fun e w' => e = .returned (.tuple #[.string r1, .int .i64 r2]) ∧ Drawn0 w w' := by
  have H : ((flailref01_Begins.f a0 (⟨#[62]⟩ : ByteArray)).bind fun t103 => (if t103 = true then (some ((⟨#[]⟩ : ByteArray), 1)) else ((flailref01_Begins.f a0 (⟨#[45, 62]⟩ : ByteArray)).bind fun t104 => (if t104 = true then (some ((⟨#[]⟩ : ByteArray), 2)) else (flailref10_plain.l0 k a0 0))))) = some (r1, r2) := h
  clear h
  replace H := Option.bind_eq_some_iff.mp H
  obtain ⟨t103, A20, H⟩ := H
  replace H : (if t103 = true then (some ((⟨#[]⟩ : ByteArray), 1)) else ((flailref01_Begins.f a0 (⟨#[45, 62]⟩ : ByteArray)).bind fun t104 => (if t104 = true then (some ((⟨#[]⟩ : ByteArray), 2)) else (flailref10_plain.l0 k a0 0)))) = some (r1, r2) := H
  have A2 := Aside0.mk A20
  clear A20
  by_cases c3 : t103 = true
  · subst c3
    have H1 : (some ((⟨#[]⟩ : ByteArray), 1)) = some (r1, r2) := by rw [if_pos rfl] at H; exact H
    clear H
    have H := H1
    clear H1
    simp only [Option.some.injEq, Prod.mk.injEq] at H
    obtain ⟨rfl, rfl⟩ := H
    go_enter Tryd.func67, Tryd.ntmps67
    go_wp2_with (first | ((with_reducible refine gate_callee (f := 66) rfl ?_); refine goesL_ (some 7) rfl rfl Tryd.func66 (by kernel_rfl) rfl #[.string a0, .string (⟨#[62]⟩ : ByteArray)] rfl (by (try simp only [List.map_toArray, List.map_cons, List.map_nil]); first | done | rfl | (simp only [List.length_drop, List.length_take]; rfl)) ?_; (with_reducible refine (flailref01_Begins.calls a0 (⟨#[62]⟩ : ByteArray) true _ A2.out).mono ?_); rintro e w' ⟨rfl, ⟨nd, rfl⟩⟩; refine ⟨_, rfl, ?_⟩))
    go_ret2
    exact ⟨by first | rfl | (simp; done) | (simp [*]; done), by repeat (first | exact Drawn0.refl _ | apply Drawn0.step)⟩
  · replace c3 := Bool.eq_false_iff.mpr c3
    subst c3
    have H1 : ((flailref01_Begins.f a0 (⟨#[45, 62]⟩ : ByteArray)).bind fun t104 => (if t104 = true then (some ((⟨#[]⟩ : ByteArray), 2)) else (flailref10_plain.l0 k a0 0))) = some (r1, r2) := by rw [if_neg (show ¬ (false = true) by decide)] at H; exact H
    clear H
    have H := H1
    clear H1
    replace H := Option.bind_eq_some_iff.mp H
    obtain ⟨t104, A40, H⟩ := H
    replace H : (if t104 = true then (some ((⟨#[]⟩ : ByteArray), 2)) else (flailref10_plain.l0 k a0 0)) = some (r1, r2) := H
    have A4 := Aside0.mk A40
    clear A40
    by_cases c5 : t104 = true
    · subst c5
      have H1 : (some ((⟨#[]⟩ : ByteArray), 2)) = some (r1, r2) := by rw [if_pos rfl] at H; exact H
      clear H
      have H := H1
      clear H1
      simp only [Option.some.injEq, Prod.mk.injEq] at H
      obtain ⟨rfl, rfl⟩ := H
      go_enter Tryd.func67, Tryd.ntmps67
      go_wp2_with (first | ((with_reducible refine gate_callee (f := 66) rfl ?_); refine goesL_ (some 7) rfl rfl Tryd.func66 (by kernel_rfl) rfl #[.string a0, .string (⟨#[62]⟩ : ByteArray)] rfl (by (try simp only [List.map_toArray, List.map_cons, List.map_nil]); first | done | rfl | (simp only [List.length_drop, List.length_take]; rfl)) ?_; (with_reducible refine (flailref01_Begins.calls a0 (⟨#[62]⟩ : ByteArray) false _ A2.out).mono ?_); rintro e w' ⟨rfl, ⟨nd, rfl⟩⟩; refine ⟨_, rfl, ?_⟩) | ((with_reducible refine gate_callee (f := 66) rfl ?_); refine goesL_ (some 9) rfl rfl Tryd.func66 (by kernel_rfl) rfl #[.string a0, .string (⟨#[45, 62]⟩ : ByteArray)] rfl (by (try simp only [List.map_toArray, List.map_cons, List.map_nil]); first | done | rfl | (simp only [List.length_drop, List.length_take]; rfl)) ?_; (with_reducible refine (flailref01_Begins.calls a0 (⟨#[45, 62]⟩ : ByteArray) true _ A4.out).mono ?_); rintro e w' ⟨rfl, ⟨nd, rfl⟩⟩; refine ⟨_, rfl, ?_⟩))
      go_ret2
      exact ⟨by first | rfl | (simp; done) | (simp [*]; done), by repeat (first | exact Drawn0.refl _ | apply Drawn0.step)⟩
    · replace c5 := Bool.eq_false_iff.mpr c5
      subst c5
      have H1 : (flailref10_plain.l0 k a0 0) = some (r1, r2) := by rw [if_neg (show ¬ (false = true) by decide)] at H; exact H
      clear H
      have H := H1
      clear H1
      have H' := Aside0.mk H
      clear H
      go_enter Tryd.func67, Tryd.ntmps67
      go_wp2_with (first | ((with_reducible refine gate_callee (f := 66) rfl ?_); refine goesL_ (some 7) rfl rfl Tryd.func66 (by kernel_rfl) rfl #[.string a0, .string (⟨#[62]⟩ : ByteArray)] rfl (by (try simp only [List.map_toArray, List.map_cons, List.map_nil]); first | done | rfl | (simp only [List.length_drop, List.length_take]; rfl)) ?_; (with_reducible refine (flailref01_Begins.calls a0 (⟨#[62]⟩ : ByteArray) false _ A2.out).mono ?_); rintro e w' ⟨rfl, ⟨nd, rfl⟩⟩; refine ⟨_, rfl, ?_⟩) | ((with_reducible refine gate_callee (f := 66) rfl ?_); refine goesL_ (some 9) rfl rfl Tryd.func66 (by kernel_rfl) rfl #[.string a0, .string (⟨#[45, 62]⟩ : ByteArray)] rfl (by (try simp only [List.map_toArray, List.map_cons, List.map_nil]); first | done | rfl | (simp only [List.length_drop, List.length_take]; rfl)) ?_; (with_reducible refine (flailref01_Begins.calls a0 (⟨#[45, 62]⟩ : ByteArray) false _ A4.out).mono ?_); rintro e w' ⟨rfl, ⟨nd, rfl⟩⟩; refine ⟨_, rfl, ?_⟩))
      go_loopg [4] k (fun kq v4 w' => ∃ (x4_1 : Int), v4 = .int .i64 x4_1 ∧ Aside0 (flailref10_plain.l0 kq a0 x4_1 = some (r1, r2)) ∧ Aside0 (kq ≤ k) ∧ Drawn0 w w')
      case atStart => exact ⟨(0), (by first | rfl | (simp; done) | (simp [*]; done)), H', ⟨Nat.le_refl _⟩, by repeat (first | exact Drawn0.refl _ | apply Drawn0.step)⟩
      case round =>
        clear H'
        try clear p2
        try clear c3
        try clear c5
        obtain ⟨x4_1, rfl, HA, HK1, ⟨m1, rfl⟩⟩ := hrel
        cases gk with
        | zero => exact absurd HA.out (by simp [flailref10_plain.l0])
        | succ k1 =>
          have H := HA.out
          clear HA
          simp only [flailref10_plain.l0] at H
          by_cases c6 : x4_1 < (a0.size : Int)
          · rw [if_pos c6] at H
            have c6b0 : decide (x4_1 < (a0.size : Int)) = true := decide_eq_true c6
            clear c6
            by_cases c7 : 0 ≤ x4_1
            · rw [if_pos c7] at H
              have c7b0 := eq_true c7
              have c7b1 : decide (0 ≤ x4_1) = true := decide_eq_true c7
              clear c7
              by_cases c8 : x4_1 ≤ (a0.size : Int)
              · rw [if_pos c8] at H
                have c8b0 := eq_true c8
                have c8b1 : decide (x4_1 ≤ (a0.size : Int)) = true := decide_eq_true c8
                clear c8
                replace H := Option.bind_eq_some_iff.mp H
                obtain ⟨t105, A90, H⟩ := H
                replace H : (if t105 = true then (some (a0.extract 0 (x4_1 : Int).toNat, wrap64 (x4_1 + 3))) else ((flailref01_Begins.f (a0.extract (x4_1 : Int).toNat a0.size) (⟨#[45, 45, 33, 62]⟩ : ByteArray)).bind fun t106 => (if t106 = true then (some (a0.extract 0 (x4_1 : Int).toNat, wrap64 (x4_1 + 4))) else (flailref10_plain.l0 k1 a0 (wrap64 (x4_1 + 1)))))) = some (r1, r2) := H
                have A9 := Aside0.mk A90
                clear A90
                by_cases c10 : t105 = true
                · subst c10
                  have H1 : (some (a0.extract 0 (x4_1 : Int).toNat, wrap64 (x4_1 + 3))) = some (r1, r2) := by rw [if_pos rfl] at H; exact H
                  clear H
                  have H := H1
                  clear H1
                  have c11b0 := eq_true (of_decide_eq_true (by first | (with_reducible assumption) | assumption) : 0 ≤ x4_1)
                  have c12b0 := eq_true (of_decide_eq_true (by first | (with_reducible assumption) | assumption) : x4_1 ≤ (a0.size : Int))
                  simp only [Option.some.injEq, Prod.mk.injEq] at H
                  obtain ⟨rfl, rfl⟩ := H
                  go_wp2_with (first | ((with_reducible refine gate_callee (f := 66) rfl ?_); refine goesL_ (some 19) rfl rfl Tryd.func66 (by kernel_rfl) rfl #[.string (a0.extract (x4_1 : Int).toNat a0.size), .string (⟨#[45, 45, 62]⟩ : ByteArray)] rfl (by (try simp only [List.map_toArray, List.map_cons, List.map_nil]); first | done | rfl | (simp only [List.length_drop, List.length_take]; rfl)) ?_; (with_reducible refine (flailref01_Begins.calls (a0.extract (x4_1 : Int).toNat a0.size) (⟨#[45, 45, 62]⟩ : ByteArray) true _ A9.out).mono ?_); rintro e w' ⟨rfl, ⟨nd, rfl⟩⟩; refine ⟨_, rfl, ?_⟩))
                  go_ret2
                  exact ⟨by first | rfl | (simp; done) | (simp [*]; done), by repeat (first | exact Drawn0.refl _ | apply Drawn0.step)⟩
                · replace c10 := Bool.eq_false_iff.mpr c10
                  subst c10
                  have H1 : ((flailref01_Begins.f (a0.extract (x4_1 : Int).toNat a0.size) (⟨#[45, 45, 33, 62]⟩ : ByteArray)).bind fun t106 => (if t106 = true then (some (a0.extract 0 (x4_1 : Int).toNat, wrap64 (x4_1 + 4))) else (flailref10_plain.l0 k1 a0 (wrap64 (x4_1 + 1))))) = some (r1, r2) := by rw [if_neg (show ¬ (false = true) by decide)] at H; exact H
                  clear H
                  have H := H1
                  clear H1
                  have c13b0 := eq_true (of_decide_eq_true (by first | (with_reducible assumption) | assumption) : 0 ≤ x4_1)
                  have c14b0 := eq_true (of_decide_eq_true (by first | (with_reducible assumption) | assumption) : x4_1 ≤ (a0.size : Int))
                  replace H := Option.bind_eq_some_iff.mp H
                  obtain ⟨t106, A150, H⟩ := H
                  replace H : (if t106 = true then (some (a0.extract 0 (x4_1 : Int).toNat, wrap64 (x4_1 + 4))) else (flailref10_plain.l0 k1 a0 (wrap64 (x4_1 + 1)))) = some (r1, r2) := H
                  have A15 := Aside0.mk A150
                  clear A150
                  by_cases c16 : t106 = true
                  · subst c16
                    have H1 : (some (a0.extract 0 (x4_1 : Int).toNat, wrap64 (x4_1 + 4))) = some (r1, r2) := by rw [if_pos rfl] at H; exact H
                    clear H
                    have H := H1
                    clear H1
                    have c17b0 := eq_true (of_decide_eq_true (by first | (with_reducible assumption) | assumption) : 0 ≤ x4_1)
                    have c18b0 := eq_true (of_decide_eq_true (by first | (with_reducible assumption) | assumption) : x4_1 ≤ (a0.size : Int))
                    simp only [Option.some.injEq, Prod.mk.injEq] at H
                    obtain ⟨rfl, rfl⟩ := H
                    go_wp2_with (first | ((with_reducible refine gate_callee (f := 66) rfl ?_); refine goesL_ (some 19) rfl rfl Tryd.func66 (by kernel_rfl) rfl #[.string (a0.extract (x4_1 : Int).toNat a0.size), .string (⟨#[45, 45, 62]⟩ : ByteArray)] rfl (by (try simp only [List.map_toArray, List.map_cons, List.map_nil]); first | done | rfl | (simp only [List.length_drop, List.length_take]; rfl)) ?_; (with_reducible refine (flailref01_Begins.calls (a0.extract (x4_1 : Int).toNat a0.size) (⟨#[45, 45, 62]⟩ : ByteArray) false _ A9.out).mono ?_); rintro e w' ⟨rfl, ⟨nd, rfl⟩⟩; refine ⟨_, rfl, ?_⟩) | ((with_reducible refine gate_callee (f := 66) rfl ?_); refine goesL_ (some 28) rfl rfl Tryd.func66 (by kernel_rfl) rfl #[.string (a0.extract (x4_1 : Int).toNat a0.size), .string (⟨#[45, 45, 33, 62]⟩ : ByteArray)] rfl (by (try simp only [List.map_toArray, List.map_cons, List.map_nil]); first | done | rfl | (simp only [List.length_drop, List.length_take]; rfl)) ?_; (with_reducible refine (flailref01_Begins.calls (a0.extract (x4_1 : Int).toNat a0.size) (⟨#[45, 45, 33, 62]⟩ : ByteArray) true _ A15.out).mono ?_); rintro e w' ⟨rfl, ⟨nd, rfl⟩⟩; refine ⟨_, rfl, ?_⟩))
                    go_ret2
                    exact ⟨by first | rfl | (simp; done) | (simp [*]; done), by repeat (first | exact Drawn0.refl _ | apply Drawn0.step)⟩
                  · replace c16 := Bool.eq_false_iff.mpr c16
                    subst c16
                    have H1 : (flailref10_plain.l0 k1 a0 (wrap64 (x4_1 + 1))) = some (r1, r2) := by rw [if_neg (show ¬ (false = true) by decide)] at H; exact H
                    clear H
                    have H := H1
                    clear H1
                    have H' := Aside0.mk H
                    clear H
                    go_wp2_with (first | ((with_reducible refine gate_callee (f := 66) rfl ?_); refine goesL_ (some 19) rfl rfl Tryd.func66 (by kernel_rfl) rfl #[.string (a0.extract (x4_1 : Int).toNat a0.size), .string (⟨#[45, 45, 62]⟩ : ByteArray)] rfl (by (try simp only [List.map_toArray, List.map_cons, List.map_nil]); first | done | rfl | (simp only [List.length_drop, List.length_take]; rfl)) ?_; (with_reducible refine (flailref01_Begins.calls (a0.extract (x4_1 : Int).toNat a0.size) (⟨#[45, 45, 62]⟩ : ByteArray) false _ A9.out).mono ?_); rintro e w' ⟨rfl, ⟨nd, rfl⟩⟩; refine ⟨_, rfl, ?_⟩) | ((with_reducible refine gate_callee (f := 66) rfl ?_); refine goesL_ (some 28) rfl rfl Tryd.func66 (by kernel_rfl) rfl #[.string (a0.extract (x4_1 : Int).toNat a0.size), .string (⟨#[45, 45, 33, 62]⟩ : ByteArray)] rfl (by (try simp only [List.map_toArray, List.map_cons, List.map_nil]); first | done | rfl | (simp only [List.length_drop, List.length_take]; rfl)) ?_; (with_reducible refine (flailref01_Begins.calls (a0.extract (x4_1 : Int).toNat a0.size) (⟨#[45, 45, 33, 62]⟩ : ByteArray) false _ A15.out).mono ?_); rintro e w' ⟨rfl, ⟨nd, rfl⟩⟩; refine ⟨_, rfl, ?_⟩))
                    go_roundg k1
                    case measure => have := HK1.out; omega
                    case rel => exact ⟨(wrap64 (x4_1 + 1)), (by first | rfl | (simp; done) | (simp [*]; done)), H', ⟨by have := HK1.out; omega⟩, by repeat (first | exact Drawn0.refl _ | apply Drawn0.step)⟩
              · rw [if_neg c8] at H
                exact absurd H (by simp)
            · rw [if_neg c7] at H
              exact absurd H (by simp)
          · rw [if_neg c6] at H
            have c6b0 : decide (x4_1 < (a0.size : Int)) = false := decide_eq_false c6
            clear c6
            replace H := Option.bind_eq_some_iff.mp H
            obtain ⟨t107, A190, H⟩ := H
            replace H : (if t107 = true then (if 0 ≤ (wrap64 ((a0.size : Int) - 3)) then (if (wrap64 ((a0.size : Int) - 3)) ≤ (a0.size : Int) then (some (a0.extract 0 ((wrap64 ((a0.size : Int) - 3)) : Int).toNat, (a0.size : Int))) else (none)) else (none)) else ((flailref10_ends.f a0 (⟨#[45, 45]⟩ : ByteArray)).bind fun t108 => (if t108 = true then (if 0 ≤ (wrap64 ((a0.size : Int) - 2)) then (if (wrap64 ((a0.size : Int) - 2)) ≤ (a0.size : Int) then (some (a0.extract 0 ((wrap64 ((a0.size : Int) - 2)) : Int).toNat, (a0.size : Int))) else (none)) else (none)) else ((flailref10_ends.f a0 (⟨#[45]⟩ : ByteArray)).bind fun t109 => (if t109 = true then (if 0 ≤ (wrap64 ((a0.size : Int) - 1)) then (if (wrap64 ((a0.size : Int) - 1)) ≤ (a0.size : Int) then (some (a0.extract 0 ((wrap64 ((a0.size : Int) - 1)) : Int).toNat, (a0.size : Int))) else (none)) else (none)) else (some (a0, (a0.size : Int)))))))) = some (r1, r2) := H
            have A19 := Aside0.mk A190
            clear A190
            by_cases c20 : t107 = true
            · subst c20
              have H1 : (if 0 ≤ (wrap64 ((a0.size : Int) - 3)) then (if (wrap64 ((a0.size : Int) - 3)) ≤ (a0.size : Int) then (some (a0.extract 0 ((wrap64 ((a0.size : Int) - 3)) : Int).toNat, (a0.size : Int))) else (none)) else (none)) = some (r1, r2) := by rw [if_pos rfl] at H; exact H
              clear H
              have H := H1
              clear H1
              obtain ⟨ji21, hji21⟩ : ∃ j_ : Int, (wrap64 ((a0.size : Int) - 3)) = j_ := ⟨_, rfl⟩
              replace H : (if 0 ≤ (ji21) then (if (ji21) ≤ (a0.size : Int) then (some (a0.extract 0 ((ji21) : Int).toNat, (a0.size : Int))) else (none)) else (none)) = some (r1, r2) := by first | (rw [hji21] at H; exact H) | (simp only [hji21] at H ⊢; exact H)
              (try rw [hji21] at A19)
              have hji21w : (IntKind.i64.wrap ((a0.size : Int) - 3)) = ji21 := (i64_w _).trans hji21
              by_cases c22 : 0 ≤ (ji21)
              · rw [if_pos c22] at H
                have c22b0 := eq_true c22
                have c22b1 : decide (0 ≤ (ji21)) = true := decide_eq_true c22
                clear c22
                by_cases c23 : (ji21) ≤ (a0.size : Int)
                · rw [if_pos c23] at H
                  have c23b0 := eq_true c23
                  have c23b1 : decide ((ji21) ≤ (a0.size : Int)) = true := decide_eq_true c23
                  clear c23
                  simp only [Option.some.injEq, Prod.mk.injEq] at H
                  obtain ⟨rfl, rfl⟩ := H
                  go_wp2_with (first | ((with_reducible refine gate_callee (f := 91) rfl ?_); refine goesL_ (some 38) rfl rfl Tryd.func91 (by kernel_rfl) rfl #[.string a0, .string (⟨#[45, 45, 33]⟩ : ByteArray)] rfl (by (try simp only [List.map_toArray, List.map_cons, List.map_nil]); first | done | rfl | (simp only [List.length_drop, List.length_take]; rfl)) ?_; (with_reducible refine (flailref10_ends.calls a0 (⟨#[45, 45, 33]⟩ : ByteArray) true _ A19.out).mono ?_); rintro e w' ⟨rfl, ⟨nd, rfl⟩⟩; refine ⟨_, rfl, ?_⟩))
                  go_ret2
                  exact ⟨by first | rfl | (simp; done) | (simp only [← hji21] <;> (first | rfl | simp)) | (simp [*]; done), by repeat (first | exact Drawn0.refl _ | apply Drawn0.step)⟩
                · rw [if_neg c23] at H
                  exact absurd H (by simp)
              · rw [if_neg c22] at H
                exact absurd H (by simp)
            · replace c20 := Bool.eq_false_iff.mpr c20
              subst c20
              have H1 : ((flailref10_ends.f a0 (⟨#[45, 45]⟩ : ByteArray)).bind fun t108 => (if t108 = true then (if 0 ≤ (wrap64 ((a0.size : Int) - 2)) then (if (wrap64 ((a0.size : Int) - 2)) ≤ (a0.size : Int) then (some (a0.extract 0 ((wrap64 ((a0.size : Int) - 2)) : Int).toNat, (a0.size : Int))) else (none)) else (none)) else ((flailref10_ends.f a0 (⟨#[45]⟩ : ByteArray)).bind fun t109 => (if t109 = true then (if 0 ≤ (wrap64 ((a0.size : Int) - 1)) then (if (wrap64 ((a0.size : Int) - 1)) ≤ (a0.size : Int) then (some (a0.extract 0 ((wrap64 ((a0.size : Int) - 1)) : Int).toNat, (a0.size : Int))) else (none)) else (none)) else (some (a0, (a0.size : Int))))))) = some (r1, r2) := by rw [if_neg (show ¬ (false = true) by decide)] at H; exact H
              clear H
              have H := H1
              clear H1
              replace H := Option.bind_eq_some_iff.mp H
              obtain ⟨t108, A240, H⟩ := H
              replace H : (if t108 = true then (if 0 ≤ (wrap64 ((a0.size : Int) - 2)) then (if (wrap64 ((a0.size : Int) - 2)) ≤ (a0.size : Int) then (some (a0.extract 0 ((wrap64 ((a0.size : Int) - 2)) : Int).toNat, (a0.size : Int))) else (none)) else (none)) else ((flailref10_ends.f a0 (⟨#[45]⟩ : ByteArray)).bind fun t109 => (if t109 = true then (if 0 ≤ (wrap64 ((a0.size : Int) - 1)) then (if (wrap64 ((a0.size : Int) - 1)) ≤ (a0.size : Int) then (some (a0.extract 0 ((wrap64 ((a0.size : Int) - 1)) : Int).toNat, (a0.size : Int))) else (none)) else (none)) else (some (a0, (a0.size : Int)))))) = some (r1, r2) := H
              have A24 := Aside0.mk A240
              clear A240
              by_cases c25 : t108 = true
              · subst c25
                have H1 : (if 0 ≤ (wrap64 ((a0.size : Int) - 2)) then (if (wrap64 ((a0.size : Int) - 2)) ≤ (a0.size : Int) then (some (a0.extract 0 ((wrap64 ((a0.size : Int) - 2)) : Int).toNat, (a0.size : Int))) else (none)) else (none)) = some (r1, r2) := by rw [if_pos rfl] at H; exact H
                clear H
                have H := H1
                clear H1
                obtain ⟨ji26, hji26⟩ : ∃ j_ : Int, (wrap64 ((a0.size : Int) - 2)) = j_ := ⟨_, rfl⟩
                replace H : (if 0 ≤ (ji26) then (if (ji26) ≤ (a0.size : Int) then (some (a0.extract 0 ((ji26) : Int).toNat, (a0.size : Int))) else (none)) else (none)) = some (r1, r2) := by first | (rw [hji26] at H; exact H) | (simp only [hji26] at H ⊢; exact H)
                (try rw [hji26] at A19)
                (try rw [hji26] at A24)
                have hji26w : (IntKind.i64.wrap ((a0.size : Int) - 2)) = ji26 := (i64_w _).trans hji26
                by_cases c27 : 0 ≤ (ji26)
                · rw [if_pos c27] at H
                  have c27b0 := eq_true c27
                  have c27b1 : decide (0 ≤ (ji26)) = true := decide_eq_true c27
                  clear c27
                  by_cases c28 : (ji26) ≤ (a0.size : Int)
                  · rw [if_pos c28] at H
                    have c28b0 := eq_true c28
                    have c28b1 : decide ((ji26) ≤ (a0.size : Int)) = true := decide_eq_true c28
                    clear c28
                    simp only [Option.some.injEq, Prod.mk.injEq] at H
                    obtain ⟨rfl, rfl⟩ := H
                    go_wp2_with (first | ((with_reducible refine gate_callee (f := 91) rfl ?_); refine goesL_ (some 38) rfl rfl Tryd.func91 (by kernel_rfl) rfl #[.string a0, .string (⟨#[45, 45, 33]⟩ : ByteArray)] rfl (by (try simp only [List.map_toArray, List.map_cons, List.map_nil]); first | done | rfl | (simp only [List.length_drop, List.length_take]; rfl)) ?_; (with_reducible refine (flailref10_ends.calls a0 (⟨#[45, 45, 33]⟩ : ByteArray) false _ A19.out).mono ?_); rintro e w' ⟨rfl, ⟨nd, rfl⟩⟩; refine ⟨_, rfl, ?_⟩) | ((with_reducible refine gate_callee (f := 91) rfl ?_); refine goesL_ (some 46) rfl rfl Tryd.func91 (by kernel_rfl) rfl #[.string a0, .string (⟨#[45, 45]⟩ : ByteArray)] rfl (by (try simp only [List.map_toArray, List.map_cons, List.map_nil]); first | done | rfl | (simp only [List.length_drop, List.length_take]; rfl)) ?_; (with_reducible refine (flailref10_ends.calls a0 (⟨#[45, 45]⟩ : ByteArray) true _ A24.out).mono ?_); rintro e w' ⟨rfl, ⟨nd, rfl⟩⟩; refine ⟨_, rfl, ?_⟩))
                    go_ret2
                    exact ⟨by first | rfl | (simp; done) | (simp only [← hji26] <;> (first | rfl | simp)) | (simp [*]; done), by repeat (first | exact Drawn0.refl _ | apply Drawn0.step)⟩
                  · rw [if_neg c28] at H
                    exact absurd H (by simp)
                · rw [if_neg c27] at H
                  exact absurd H (by simp)
              · replace c25 := Bool.eq_false_iff.mpr c25
                subst c25
                have H1 : ((flailref10_ends.f a0 (⟨#[45]⟩ : ByteArray)).bind fun t109 => (if t109 = true then (if 0 ≤ (wrap64 ((a0.size : Int) - 1)) then (if (wrap64 ((a0.size : Int) - 1)) ≤ (a0.size : Int) then (some (a0.extract 0 ((wrap64 ((a0.size : Int) - 1)) : Int).toNat, (a0.size : Int))) else (none)) else (none)) else (some (a0, (a0.size : Int))))) = some (r1, r2) := by rw [if_neg (show ¬ (false = true) by decide)] at H; exact H
                clear H
                have H := H1
                clear H1
                replace H := Option.bind_eq_some_iff.mp H
                obtain ⟨t109, A290, H⟩ := H
                replace H : (if t109 = true then (if 0 ≤ (wrap64 ((a0.size : Int) - 1)) then (if (wrap64 ((a0.size : Int) - 1)) ≤ (a0.size : Int) then (some (a0.extract 0 ((wrap64 ((a0.size : Int) - 1)) : Int).toNat, (a0.size : Int))) else (none)) else (none)) else (some (a0, (a0.size : Int)))) = some (r1, r2) := H
                have A29 := Aside0.mk A290
                clear A290
                by_cases c30 : t109 = true
                · subst c30
                  have H1 : (if 0 ≤ (wrap64 ((a0.size : Int) - 1)) then (if (wrap64 ((a0.size : Int) - 1)) ≤ (a0.size : Int) then (some (a0.extract 0 ((wrap64 ((a0.size : Int) - 1)) : Int).toNat, (a0.size : Int))) else (none)) else (none)) = some (r1, r2) := by rw [if_pos rfl] at H; exact H
                  clear H
                  have H := H1
                  clear H1
                  obtain ⟨ji31, hji31⟩ : ∃ j_ : Int, (wrap64 ((a0.size : Int) - 1)) = j_ := ⟨_, rfl⟩
                  replace H : (if 0 ≤ (ji31) then (if (ji31) ≤ (a0.size : Int) then (some (a0.extract 0 ((ji31) : Int).toNat, (a0.size : Int))) else (none)) else (none)) = some (r1, r2) := by first | (rw [hji31] at H; exact H) | (simp only [hji31] at H ⊢; exact H)
                  (try rw [hji31] at A19)
                  (try rw [hji31] at A24)
                  (try rw [hji31] at A29)
                  have hji31w : (IntKind.i64.wrap ((a0.size : Int) - 1)) = ji31 := (i64_w _).trans hji31
                  by_cases c32 : 0 ≤ (ji31)
                  · rw [if_pos c32] at H
                    have c32b0 := eq_true c32
                    have c32b1 : decide (0 ≤ (ji31)) = true := decide_eq_true c32
                    clear c32
                    by_cases c33 : (ji31) ≤ (a0.size : Int)
                    · rw [if_pos c33] at H
                      have c33b0 := eq_true c33
                      have c33b1 : decide ((ji31) ≤ (a0.size : Int)) = true := decide_eq_true c33
                      clear c33
                      simp only [Option.some.injEq, Prod.mk.injEq] at H
                      obtain ⟨rfl, rfl⟩ := H
                      go_wp2_with (first | ((with_reducible refine gate_callee (f := 91) rfl ?_); refine goesL_ (some 38) rfl rfl Tryd.func91 (by kernel_rfl) rfl #[.string a0, .string (⟨#[45, 45, 33]⟩ : ByteArray)] rfl (by (try simp only [List.map_toArray, List.map_cons, List.map_nil]); first | done | rfl | (simp only [List.length_drop, List.length_take]; rfl)) ?_; (with_reducible refine (flailref10_ends.calls a0 (⟨#[45, 45, 33]⟩ : ByteArray) false _ A19.out).mono ?_); rintro e w' ⟨rfl, ⟨nd, rfl⟩⟩; refine ⟨_, rfl, ?_⟩) | ((with_reducible refine gate_callee (f := 91) rfl ?_); refine goesL_ (some 46) rfl rfl Tryd.func91 (by kernel_rfl) rfl #[.string a0, .string (⟨#[45, 45]⟩ : ByteArray)] rfl (by (try simp only [List.map_toArray, List.map_cons, List.map_nil]); first | done | rfl | (simp only [List.length_drop, List.length_take]; rfl)) ?_; (with_reducible refine (flailref10_ends.calls a0 (⟨#[45, 45]⟩ : ByteArray) false _ A24.out).mono ?_); rintro e w' ⟨rfl, ⟨nd, rfl⟩⟩; refine ⟨_, rfl, ?_⟩) | ((with_reducible refine gate_callee (f := 91) rfl ?_); refine goesL_ (some 54) rfl rfl Tryd.func91 (by kernel_rfl) rfl #[.string a0, .string (⟨#[45]⟩ : ByteArray)] rfl (by (try simp only [List.map_toArray, List.map_cons, List.map_nil]); first | done | rfl | (simp only [List.length_drop, List.length_take]; rfl)) ?_; (with_reducible refine (flailref10_ends.calls a0 (⟨#[45]⟩ : ByteArray) true _ A29.out).mono ?_); rintro e w' ⟨rfl, ⟨nd, rfl⟩⟩; refine ⟨_, rfl, ?_⟩))
                      go_ret2
                      exact ⟨by first | rfl | (simp; done) | (simp only [← hji31] <;> (first | rfl | simp)) | (simp [*]; done), by repeat (first | exact Drawn0.refl _ | apply Drawn0.step)⟩
                    · rw [if_neg c33] at H
                      exact absurd H (by simp)
                  · rw [if_neg c32] at H
                    exact absurd H (by simp)
                · replace c30 := Bool.eq_false_iff.mpr c30
                  subst c30
                  have H1 : (some (a0, (a0.size : Int))) = some (r1, r2) := by rw [if_neg (show ¬ (false = true) by decide)] at H; exact H
                  clear H
                  have H := H1
                  clear H1
                  simp only [Option.some.injEq, Prod.mk.injEq] at H
                  obtain ⟨rfl, rfl⟩ := H
                  go_wp2_with (first | ((with_reducible refine gate_callee (f := 91) rfl ?_); refine goesL_ (some 38) rfl rfl Tryd.func91 (by kernel_rfl) rfl #[.string a0, .string (⟨#[45, 45, 33]⟩ : ByteArray)] rfl (by (try simp only [List.map_toArray, List.map_cons, List.map_nil]); first | done | rfl | (simp only [List.length_drop, List.length_take]; rfl)) ?_; (with_reducible refine (flailref10_ends.calls a0 (⟨#[45, 45, 33]⟩ : ByteArray) false _ A19.out).mono ?_); rintro e w' ⟨rfl, ⟨nd, rfl⟩⟩; refine ⟨_, rfl, ?_⟩) | ((with_reducible refine gate_callee (f := 91) rfl ?_); refine goesL_ (some 46) rfl rfl Tryd.func91 (by kernel_rfl) rfl #[.string a0, .string (⟨#[45, 45]⟩ : ByteArray)] rfl (by (try simp only [List.map_toArray, List.map_cons, List.map_nil]); first | done | rfl | (simp only [List.length_drop, List.length_take]; rfl)) ?_; (with_reducible refine (flailref10_ends.calls a0 (⟨#[45, 45]⟩ : ByteArray) false _ A24.out).mono ?_); rintro e w' ⟨rfl, ⟨nd, rfl⟩⟩; refine ⟨_, rfl, ?_⟩) | ((with_reducible refine gate_callee (f := 91) rfl ?_); refine goesL_ (some 54) rfl rfl Tryd.func91 (by kernel_rfl) rfl #[.string a0, .string (⟨#[45]⟩ : ByteArray)] rfl (by (try simp only [List.map_toArray, List.map_cons, List.map_nil]); first | done | rfl | (simp only [List.length_drop, List.length_take]; rfl)) ?_; (with_reducible refine (flailref10_ends.calls a0 (⟨#[45]⟩ : ByteArray) false _ A29.out).mono ?_); rintro e w' ⟨rfl, ⟨nd, rfl⟩⟩; refine ⟨_, rfl, ?_⟩))
                  go_ret2
                  exact ⟨by first | rfl | (simp; done) | (simp [*]; done), by repeat (first | exact Drawn0.refl _ | apply Drawn0.step)⟩

end Go.Proofs.YtppaobgccdlccaaDoor.Sm
