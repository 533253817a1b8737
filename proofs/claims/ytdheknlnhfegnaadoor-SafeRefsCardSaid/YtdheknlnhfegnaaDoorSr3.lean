-- Written by a program of this session over the kit's printer: not by hand.
import Derived.Test.YtdheknlnhfegnaaDoorSr0
import Derived.Test.YtdheknlnhfegnaaDoorSr1
import Derived.Test.YtdheknlnhfegnaaDoorSr2
namespace Go.Proofs.YtdheknlnhfegnaaDoor.Sr
open Go.RowKit Go.Proofs.YtdheknlnhfegnaaDoor.K0 Go.Proofs.YtdheknlnhfegnaaDoor.Hand Go.Proofs.YtdheknlnhfegnaaDoorW.PrintWords Go.Proofs.YtdheknlnhfegnaaDoorW.PrintLast Go.Proofs.YtdheknlnhfegnaaDoorW.PrintMore
attribute [local go_sem] max2_int min2_int max_two min_two max_three min_three max_four min_four   -- for this text's walks alone
set_option linter.unusedVariables false
set_option linter.unusedSimpArgs false

/-! ### flailref04_Read: function 28 -/
mutual
def flailref04_Read.j0 : Nat → ByteArray → Int → Bool → Option (ByteArray × Int × Bool)
  | 0, _, _, _ => none
  | k + 1, x0, x1, x19 => if x19 = true then (some ((⟨#[]⟩ : ByteArray), x1, false)) else (if 0 ≤ x1 then (if x1 < (x0.size : Int) then (if (bt x0 x1) = 35 then (if (wrap64 (x1 + 1)) < (x0.size : Int) then (if 0 ≤ (wrap64 (x1 + 1)) then (if (bt x0 (wrap64 (x1 + 1))) = 120 then (flailref04_Read.j1 k x0 x1 (wrap64 ((wrap64 (x1 + 1)) + 1)) true) else (if (bt x0 (wrap64 (x1 + 1))) = 88 then (flailref04_Read.j1 k x0 x1 (wrap64 ((wrap64 (x1 + 1)) + 1)) true) else (flailref04_Read.j1 k x0 x1 (wrap64 (x1 + 1)) false))) else (none)) else (flailref04_Read.j1 k x0 x1 (wrap64 (x1 + 1)) false)) else (some ((⟨#[]⟩ : ByteArray), x1, false))) else (none)) else (none))
def flailref04_Read.j1 : Nat → ByteArray → Int → Int → Bool → Option (ByteArray × Int × Bool)
  | 0, _, _, _, _ => none
  | k + 1, x0, x1, x7, x8 => flailref04_Read.l0 k x0 x1 x7 x8 x7
def flailref04_Read.j3 : Nat → ByteArray → Int → Int → Bool → Int → Option (ByteArray × Int × Bool)
  | 0, _, _, _, _, _ => none
  | k + 1, x0, x1, x7, x8, x9 => if 0 ≤ x7 then (if x7 ≤ x9 then (if x9 ≤ (x0.size : Int) then ((flailref04_Value.f k (x0.extract (x7 : Int).toNat (x9 : Int).toNat) x8).bind fun t121 => (if t121 < 0 then (some ((⟨#[]⟩ : ByteArray), x1, false)) else (if x9 < (x0.size : Int) then (if 0 ≤ x9 then (if (bt x0 x9) = 59 then ((flailref04_Fix.f k t121).bind fun t122 => (some (t122, wrap64 (x9 + 1), true))) else ((flailref04_Fix.f k t121).bind fun t123 => (some (t123, x9, true)))) else (none)) else ((flailref04_Fix.f k t121).bind fun t124 => (some (t124, x9, true)))))) else (none)) else (none)) else (none)
def flailref04_Read.l0 : Nat → ByteArray → Int → Int → Bool → Int → Option (ByteArray × Int × Bool)
  | 0, _, _, _, _, _ => none
  | k + 1, x0, x1, x7, x8, x9 => if x9 < (x0.size : Int) then (if 0 ≤ x9 then ((flailref03_Hex.f k (bt x0 x9)).bind fun t120 => (if t120 < 0 then (flailref04_Read.j3 k x0 x1 x7 x8 x9) else (if t120 > 9 then (if x8 = true then (flailref04_Read.l0 k x0 x1 x7 x8 (wrap64 (x9 + 1))) else (flailref04_Read.j3 k x0 x1 x7 x8 x9)) else (flailref04_Read.l0 k x0 x1 x7 x8 (wrap64 (x9 + 1)))))) else (none)) else (flailref04_Read.j3 k x0 x1 x7 x8 x9)
end
def flailref04_Read.f (k : Nat) (a0 : ByteArray) (a1 : Int) : Option (ByteArray × Int × Bool) := if a1 < 0 then (flailref04_Read.j0 k a0 a1 true) else (flailref04_Read.j0 k a0 a1 (decide (a1 ≥ (a0.size : Int))))
theorem flailref04_Read.mono_l : ∀ k, (∀ y0 y1 y2, LeO (flailref04_Read.j0 k y0 y1 y2) (flailref04_Read.j0 (k + 1) y0 y1 y2)) ∧ (∀ y0 y1 y2 y3, LeO (flailref04_Read.j1 k y0 y1 y2 y3) (flailref04_Read.j1 (k + 1) y0 y1 y2 y3)) ∧ (∀ y0 y1 y2 y3 y4, LeO (flailref04_Read.j3 k y0 y1 y2 y3 y4) (flailref04_Read.j3 (k + 1) y0 y1 y2 y3 y4)) ∧ (∀ y0 y1 y2 y3 y4, LeO (flailref04_Read.l0 k y0 y1 y2 y3 y4) (flailref04_Read.l0 (k + 1) y0 y1 y2 y3 y4))
  | 0 => ⟨fun _ _ _ r h => by simp [flailref04_Read.j0] at h, fun _ _ _ _ r h => by simp [flailref04_Read.j1] at h, fun _ _ _ _ _ r h => by simp [flailref04_Read.j3] at h, fun _ _ _ _ _ r h => by simp [flailref04_Read.l0] at h⟩
  | k + 1 => by
    obtain ⟨ih0, ih1, ih2, ih3⟩ := flailref04_Read.mono_l k
    refine ⟨?_, ?_, ?_, ?_⟩
    · intro y0 y1 y2
      unfold flailref04_Read.j0
      repeat' first
      | (with_reducible exact ih0 _ _ _)
      | (with_reducible exact ih1 _ _ _ _)
      | (with_reducible exact ih2 _ _ _ _ _)
      | (with_reducible exact ih3 _ _ _ _ _)
      | (with_reducible exact flailref03_Hex.mono _ _)
      | (with_reducible exact flailref04_Fix.mono _ _)
      | (with_reducible exact flailref04_Value.mono _ _ _)
      | (with_reducible exact LeO.refl _)
      | (with_reducible exact LeO.none _)
      | (with_reducible refine LeO.ite ?_ ?_)
      | (with_reducible refine LeO.bind ?_ (fun _ => ?_))
      | exact ih0 _ _ _
      | exact ih1 _ _ _ _
      | exact ih2 _ _ _ _ _
      | exact ih3 _ _ _ _ _
      | exact flailref03_Hex.mono _ _
      | exact flailref04_Fix.mono _ _
      | exact flailref04_Value.mono _ _ _
      | exact LeO.none _
      | refine LeO.ite ?_ ?_
      | refine LeO.bind ?_ (fun _ => ?_)
    · intro y0 y1 y2 y3
      unfold flailref04_Read.j1
      repeat' first
      | (with_reducible exact ih0 _ _ _)
      | (with_reducible exact ih1 _ _ _ _)
      | (with_reducible exact ih2 _ _ _ _ _)
      | (with_reducible exact ih3 _ _ _ _ _)
      | (with_reducible exact flailref03_Hex.mono _ _)
      | (with_reducible exact flailref04_Fix.mono _ _)
      | (with_reducible exact flailref04_Value.mono _ _ _)
      | (with_reducible exact LeO.refl _)
      | (with_reducible exact LeO.none _)
      | (with_reducible refine LeO.ite ?_ ?_)
      | (with_reducible refine LeO.bind ?_ (fun _ => ?_))
      | exact ih0 _ _ _
      | exact ih1 _ _ _ _
      | exact ih2 _ _ _ _ _
      | exact ih3 _ _ _ _ _
      | exact flailref03_Hex.mono _ _
      | exact flailref04_Fix.mono _ _
      | exact flailref04_Value.mono _ _ _
      | exact LeO.none _
      | refine LeO.ite ?_ ?_
      | refine LeO.bind ?_ (fun _ => ?_)
    · intro y0 y1 y2 y3 y4
      unfold flailref04_Read.j3
      repeat' first
      | (with_reducible exact ih0 _ _ _)
      | (with_reducible exact ih1 _ _ _ _)
      | (with_reducible exact ih2 _ _ _ _ _)
      | (with_reducible exact ih3 _ _ _ _ _)
      | (with_reducible exact flailref03_Hex.mono _ _)
      | (with_reducible exact flailref04_Fix.mono _ _)
      | (with_reducible exact flailref04_Value.mono _ _ _)
      | (with_reducible exact LeO.refl _)
      | (with_reducible exact LeO.none _)
      | (with_reducible refine LeO.ite ?_ ?_)
      | (with_reducible refine LeO.bind ?_ (fun _ => ?_))
      | exact ih0 _ _ _
      | exact ih1 _ _ _ _
      | exact ih2 _ _ _ _ _
      | exact ih3 _ _ _ _ _
      | exact flailref03_Hex.mono _ _
      | exact flailref04_Fix.mono _ _
      | exact flailref04_Value.mono _ _ _
      | exact LeO.none _
      | refine LeO.ite ?_ ?_
      | refine LeO.bind ?_ (fun _ => ?_)
    · intro y0 y1 y2 y3 y4
      unfold flailref04_Read.l0
      repeat' first
      | (with_reducible exact ih0 _ _ _)
      | (with_reducible exact ih1 _ _ _ _)
      | (with_reducible exact ih2 _ _ _ _ _)
      | (with_reducible exact ih3 _ _ _ _ _)
      | (with_reducible exact flailref03_Hex.mono _ _)
      | (with_reducible exact flailref04_Fix.mono _ _)
      | (with_reducible exact flailref04_Value.mono _ _ _)
      | (with_reducible exact LeO.refl _)
      | (with_reducible exact LeO.none _)
      | (with_reducible refine LeO.ite ?_ ?_)
      | (with_reducible refine LeO.bind ?_ (fun _ => ?_))
      | exact ih0 _ _ _
      | exact ih1 _ _ _ _
      | exact ih2 _ _ _ _ _
      | exact ih3 _ _ _ _ _
      | exact flailref03_Hex.mono _ _
      | exact flailref04_Fix.mono _ _
      | exact flailref04_Value.mono _ _ _
      | exact LeO.none _
      | refine LeO.ite ?_ ?_
      | refine LeO.bind ?_ (fun _ => ?_)
theorem flailref04_Read.mono : ∀ a0 a1 k, LeO (flailref04_Read.f k a0 a1) (flailref04_Read.f (k + 1) a0 a1) := by
  intro a0 a1 k
  obtain ⟨ih0, ih1, ih2, ih3⟩ := flailref04_Read.mono_l k
  unfold flailref04_Read.f
  repeat' first
      | (with_reducible exact ih0 _ _ _)
      | (with_reducible exact ih1 _ _ _ _)
      | (with_reducible exact ih2 _ _ _ _ _)
      | (with_reducible exact ih3 _ _ _ _ _)
      | (with_reducible exact flailref03_Hex.mono _ _)
      | (with_reducible exact flailref04_Fix.mono _ _)
      | (with_reducible exact flailref04_Value.mono _ _ _)
      | (with_reducible exact LeO.refl _)
      | (with_reducible exact LeO.none _)
      | (with_reducible refine LeO.ite ?_ ?_)
      | (with_reducible refine LeO.bind ?_ (fun _ => ?_))
      | exact ih0 _ _ _
      | exact ih1 _ _ _ _
      | exact ih2 _ _ _ _ _
      | exact ih3 _ _ _ _ _
      | exact flailref03_Hex.mono _ _
      | exact flailref04_Fix.mono _ _
      | exact flailref04_Value.mono _ _ _
      | exact LeO.none _
      | refine LeO.ite ?_ ?_
      | refine LeO.bind ?_ (fun _ => ?_)
set_option maxHeartbeats 8000000 in
set_option maxRecDepth 100000 in
theorem flailref04_Read.calls (k : Nat) (a0 : ByteArray) (a1 : Int) (r1 : ByteArray) (r2 : Int) (r3 : Bool) (w : World) (h : flailref04_Read.f k a0 a1 = some (r1, r2, r3)) :
    Calls Tryd.prog 28 #[.string a0, .int .i64 a1] w fun e w' => e = .returned (.tuple #[.string r1, .int .i64 r2, .bool r3]) ∧ Below w.heap.size w w' := by
  have HB := Aside0.mk (Below.refl w.heap.size w)
  have H : (if a1 < 0 then (flailref04_Read.j0 k a0 a1 true) else (flailref04_Read.j0 k a0 a1 (decide (a1 ≥ (a0.size : Int))))) = some (r1, r2, r3) := h
  clear h
  have HC3 := Aside0.mk H
  clear H
  go_enter Tryd.func28, Tryd.ntmps28
  go_upto_region 1 with (fail)
  go_cut [19] (fun v19 wc => ∃ (kq : Nat) (x19_2 : Bool), v19 = .bool x19_2 ∧ Aside0 (flailref04_Read.j0 kq a0 a1 x19_2 = some (r1, r2, r3)) ∧ Aside0 (kq ≤ k) ∧ Aside0 (Below w.heap.size w wc))
  case first =>
    have H := HC3.out
    clear HC3
    by_cases c4 : a1 < 0
    · rw [if_pos c4] at H
      have c4b0 : decide (a1 < 0) = true := decide_eq_true c4
      clear c4
      (first | rw [c4b0] | (simp only [i64_w, i32_w]; rw [c4b0]) | skip)
      have H' := Aside0.mk H
      clear H
      go_wp2
      go_meet
      case rel => exact ⟨_, (true), (by first | rfl | (simp; done) | (simp [*]; done)), H', ⟨by first | omega | exact Nat.le_refl _⟩, ⟨by repeat (first | (with_reducible first | exact HB.out | apply below_alloc | apply pw_below_drewN | apply below_drew1) | exact HB.out)⟩⟩
    · rw [if_neg c4] at H
      have c4b0 : decide (a1 < 0) = false := decide_eq_false c4
      clear c4
      (first | rw [c4b0] | (simp only [i64_w, i32_w]; rw [c4b0]) | skip)
      have H' := Aside0.mk H
      clear H
      go_wp2
      go_meet
      case rel => exact ⟨_, (decide (a1 ≥ (a0.size : Int))), (by first | rfl | (simp; done) | (simp [*]; done)), H', ⟨by first | omega | exact Nat.le_refl _⟩, ⟨by repeat (first | (with_reducible first | exact HB.out | apply below_alloc | apply pw_below_drewN | apply below_drew1) | exact HB.out)⟩⟩
  case rest =>
    clear HC3
    try clear c2
    try clear p2
    try clear c4
    try clear c4b0
    obtain ⟨kq, x19_2, rfl, HA, HJ2, HB⟩ := hcut
    cases kq with
    | zero => exact absurd HA.out (by simp [flailref04_Read.j0])
    | succ kj2 =>
      have H := HA.out
      clear HA
      simp only [flailref04_Read.j0] at H
      by_cases c5 : x19_2 = true
      · subst c5
        have H1 : (some ((⟨#[]⟩ : ByteArray), a1, false)) = some (r1, r2, r3) := by rw [if_pos rfl] at H; exact H
        clear H
        have H := H1
        clear H1
        simp only [Option.some.injEq, Prod.mk.injEq] at H
        obtain ⟨rfl, rfl, rfl⟩ := H
        go_wp2
        go_ret3
        exact ⟨by first | rfl | (simp [errW_none, errW_some] <;> rfl) | (simp [*, errW_none, errW_some] <;> rfl), by repeat (first | (with_reducible first | exact HB.out | apply below_alloc | apply pw_below_drewN | apply below_drew1) | exact HB.out)⟩
      · replace c5 := Bool.eq_false_iff.mpr c5
        subst c5
        have H1 : (if 0 ≤ a1 then (if a1 < (a0.size : Int) then (if (bt a0 a1) = 35 then (if (wrap64 (a1 + 1)) < (a0.size : Int) then (if 0 ≤ (wrap64 (a1 + 1)) then (if (bt a0 (wrap64 (a1 + 1))) = 120 then (flailref04_Read.j1 kj2 a0 a1 (wrap64 ((wrap64 (a1 + 1)) + 1)) true) else (if (bt a0 (wrap64 (a1 + 1))) = 88 then (flailref04_Read.j1 kj2 a0 a1 (wrap64 ((wrap64 (a1 + 1)) + 1)) true) else (flailref04_Read.j1 kj2 a0 a1 (wrap64 (a1 + 1)) false))) else (none)) else (flailref04_Read.j1 kj2 a0 a1 (wrap64 (a1 + 1)) false)) else (some ((⟨#[]⟩ : ByteArray), a1, false))) else (none)) else (none)) = some (r1, r2, r3) := by rw [if_neg (show ¬ (false = true) by decide)] at H; exact H
        clear H
        have H := H1
        clear H1
        by_cases c6 : 0 ≤ a1
        · rw [if_pos c6] at H
          have c6b0 : decide (0 ≤ a1) = true := decide_eq_true c6
          clear c6
          by_cases c7 : a1 < (a0.size : Int)
          · rw [if_pos c7] at H
            have c7b0 : decide (a1 < (a0.size : Int)) = true := decide_eq_true c7
            clear c7
            by_cases c9 : (bt a0 a1) = 35
            · rw [if_pos c9] at H
              have c9b0 : ((bt a0 a1) == 35) = true := beq_iff_eq.mpr c9
              have c9b1 : ((bt a0 a1) != 35) = false := bne_eq_false_iff_eq.mpr c9
              clear c9
              have HC10 := Aside0.mk H
              clear H
              have p8 : 0 ≤ (a1 : Int) := of_decide_eq_true (by first | (with_reducible assumption) | assumption)
              have q8 : a1 < (a0.size : Int) := of_decide_eq_true (by first | (with_reducible assumption) | assumption)
              have hx8 := bt_at a0 a1
              replace p8 := eq_true p8
              replace q8 := eq_true q8
              go_upto_if 31 with (fail)
              go_cut [7, 8] (fun v7 v8 wc => ∃ (kq : Nat) (x7_9 : Int) (x8_9 : Bool), v7 = .int .i64 x7_9 ∧ v8 = .bool x8_9 ∧ Aside0 (flailref04_Read.j1 kq a0 a1 x7_9 x8_9 = some (r1, r2, r3)) ∧ Aside0 (kq ≤ kj2) ∧ Aside0 (Below w.heap.size w wc))
              case first =>
                have H := HC10.out
                clear HC10
                by_cases c11 : (wrap64 (a1 + 1)) < (a0.size : Int)
                · rw [if_pos c11] at H
                  have c11b0 : decide ((wrap64 (a1 + 1)) < (a0.size : Int)) = true := decide_eq_true c11
                  clear c11
                  (first | rw [c11b0] | (simp only [i64_w, i32_w]; rw [c11b0]) | skip)
                  obtain ⟨ji12, hji12⟩ : ∃ j_ : Int, (wrap64 (a1 + 1)) = j_ := ⟨_, rfl⟩
                  replace H : (if 0 ≤ (ji12) then (if (bt a0 (ji12)) = 120 then (flailref04_Read.j1 kj2 a0 a1 (wrap64 ((ji12) + 1)) true) else (if (bt a0 (ji12)) = 88 then (flailref04_Read.j1 kj2 a0 a1 (wrap64 ((ji12) + 1)) true) else (flailref04_Read.j1 kj2 a0 a1 ji12 false))) else (none)) = some (r1, r2, r3) := by first | (rw [hji12] at H; exact H) | (simp only [hji12] at H ⊢; exact H)
                  (try rw [hji12] at c11b0)
                  have hji12w : (IntKind.i64.wrap (a1 + 1)) = ji12 := (i64_w _).trans hji12
                  by_cases c13 : 0 ≤ (ji12)
                  · rw [if_pos c13] at H
                    have c13b0 : decide (0 ≤ (ji12)) = true := decide_eq_true c13
                    clear c13
                    by_cases c15 : (bt a0 (ji12)) = 120
                    · rw [if_pos c15] at H
                      have c15b0 : ((bt a0 (ji12)) == 120) = true := beq_iff_eq.mpr c15
                      have c15b1 : ((bt a0 (ji12)) != 120) = false := bne_eq_false_iff_eq.mpr c15
                      clear c15
                      have H' := Aside0.mk H
                      clear H
                      have p14 : 0 ≤ ((ji12) : Int) := of_decide_eq_true (by first | (with_reducible assumption) | assumption)
                      have q14 : (ji12) < (a0.size : Int) := of_decide_eq_true (by first | (with_reducible assumption) | assumption)
                      have hx14 := bt_at a0 (ji12)
                      replace p14 := eq_true p14
                      replace q14 := eq_true q14
                      go_wp2
                      go_meet
                      case rel => exact ⟨_, (wrap64 ((ji12) + 1)), (true), (by first | rfl | (simp; done) | (simp only [← hji12] <;> (first | rfl | simp)) | (simp [*]; done)), (by first | rfl | (simp; done) | (simp [*]; done)), H', ⟨by have := HJ2.out; first | omega | exact Nat.le_refl _⟩, ⟨by repeat (first | (with_reducible first | exact HB.out | apply below_alloc | apply pw_below_drewN | apply below_drew1) | exact HB.out)⟩⟩
                    · rw [if_neg c15] at H
                      have c15b0 : ((bt a0 (ji12)) == 120) = false := beq_eq_false_iff_ne.mpr c15
                      have c15b1 : ((bt a0 (ji12)) != 120) = true := bne_iff_ne.mpr c15
                      by_cases c17 : (bt a0 (ji12)) = 88
                      · rw [if_pos c17] at H
                        have c17b0 : ((bt a0 (ji12)) == 88) = true := beq_iff_eq.mpr c17
                        have c17b1 : ((bt a0 (ji12)) != 88) = false := bne_eq_false_iff_eq.mpr c17
                        clear c17
                        have H' := Aside0.mk H
                        clear H
                        have p14 : 0 ≤ ((ji12) : Int) := of_decide_eq_true (by first | (with_reducible assumption) | assumption)
                        have q14 : (ji12) < (a0.size : Int) := of_decide_eq_true (by first | (with_reducible assumption) | assumption)
                        have hx14 := bt_at a0 (ji12)
                        replace p14 := eq_true p14
                        replace q14 := eq_true q14
                        have p16 : 0 ≤ ((ji12) : Int) := of_decide_eq_true (by first | (with_reducible assumption) | assumption)
                        have q16 : (ji12) < (a0.size : Int) := of_decide_eq_true (by first | (with_reducible assumption) | assumption)
                        have hx16 := bt_at a0 (ji12)
                        replace p16 := eq_true p16
                        replace q16 := eq_true q16
                        go_wp2
                        go_meet
                        case rel => exact ⟨_, (wrap64 ((ji12) + 1)), (true), (by first | rfl | (simp; done) | (simp only [← hji12] <;> (first | rfl | simp)) | (simp [*]; done)), (by first | rfl | (simp; done) | (simp [*]; done)), H', ⟨by have := HJ2.out; first | omega | exact Nat.le_refl _⟩, ⟨by repeat (first | (with_reducible first | exact HB.out | apply below_alloc | apply pw_below_drewN | apply below_drew1) | exact HB.out)⟩⟩
                      · rw [if_neg c17] at H
                        have c17b0 : ((bt a0 (ji12)) == 88) = false := beq_eq_false_iff_ne.mpr c17
                        have c17b1 : ((bt a0 (ji12)) != 88) = true := bne_iff_ne.mpr c17
                        have H' := Aside0.mk H
                        clear H
                        have p14 : 0 ≤ ((ji12) : Int) := of_decide_eq_true (by first | (with_reducible assumption) | assumption)
                        have q14 : (ji12) < (a0.size : Int) := of_decide_eq_true (by first | (with_reducible assumption) | assumption)
                        have hx14 := bt_at a0 (ji12)
                        replace p14 := eq_true p14
                        replace q14 := eq_true q14
                        have p16 : 0 ≤ ((ji12) : Int) := of_decide_eq_true (by first | (with_reducible assumption) | assumption)
                        have q16 : (ji12) < (a0.size : Int) := of_decide_eq_true (by first | (with_reducible assumption) | assumption)
                        have hx16 := bt_at a0 (ji12)
                        replace p16 := eq_true p16
                        replace q16 := eq_true q16
                        go_wp2
                        go_meet
                        case rel => exact ⟨_, (ji12), (false), (by first | rfl | (simp; done) | (simp only [← hji12] <;> (first | rfl | simp)) | (simp [*]; done)), (by first | rfl | (simp; done) | (simp [*]; done)), H', ⟨by have := HJ2.out; first | omega | exact Nat.le_refl _⟩, ⟨by repeat (first | (with_reducible first | exact HB.out | apply below_alloc | apply pw_below_drewN | apply below_drew1) | exact HB.out)⟩⟩
                  · rw [if_neg c13] at H
                    exact absurd H (by simp)
                · rw [if_neg c11] at H
                  have c11b0 : decide ((wrap64 (a1 + 1)) < (a0.size : Int)) = false := decide_eq_false c11
                  clear c11
                  (first | rw [c11b0] | (simp only [i64_w, i32_w]; rw [c11b0]) | skip)
                  have H' := Aside0.mk H
                  clear H
                  go_wp2
                  go_meet
                  case rel => exact ⟨_, (wrap64 (a1 + 1)), (false), (by first | rfl | (simp; done) | (simp [*]; done)), (by first | rfl | (simp; done) | (simp [*]; done)), H', ⟨by have := HJ2.out; first | omega | exact Nat.le_refl _⟩, ⟨by repeat (first | (with_reducible first | exact HB.out | apply below_alloc | apply pw_below_drewN | apply below_drew1) | exact HB.out)⟩⟩
              case rest =>
                clear HC10
                try clear c1
                try clear p1
                try clear q1
                try clear hx1
                try clear c2
                try clear p2
                try clear c4
                try clear c4b0
                try clear c5
                try clear c6
                try clear c6b0
                try clear p6
                try clear c7
                try clear c7b0
                try clear p8
                try clear q8
                try clear hx8
                try clear c9
                try clear c9b0
                try clear c9b1
                try clear c11
                try clear c11b0
                try clear c13
                try clear c13b0
                try clear p14
                try clear q14
                try clear hx14
                try clear c15
                try clear c15b0
                try clear c15b1
                try clear p16
                try clear q16
                try clear hx16
                try clear c17
                try clear c17b0
                try clear c17b1
                try clear p14
                try clear p16
                try clear p2
                try clear p8
                try clear q14
                try clear q16
                try clear q8
                obtain ⟨kq, x7_9, x8_9, rfl, rfl, HA, HJ9, HB⟩ := hcut
                cases kq with
                | zero => exact absurd HA.out (by simp [flailref04_Read.j1])
                | succ kj9 =>
                  have H := HA.out
                  clear HA
                  simp only [flailref04_Read.j1] at H
                  have HC18 := Aside0.mk H
                  clear H
                  go_upto_block 0 with (fail)
                  go_cut [9] (fun v9 wc => ∃ (kq : Nat) (x9_17 : Int), v9 = .int .i64 x9_17 ∧ Aside0 (flailref04_Read.j3 kq a0 a1 x7_9 x8_9 x9_17 = some (r1, r2, r3)) ∧ Aside0 (kq ≤ kj9) ∧ Aside0 (Below w.heap.size w wc))
                  case first =>
                    have H := HC18.out
                    clear HC18
                    have H' := Aside0.mk H
                    clear H
                    go_wp2
                    go_loopg [9] kj9 (fun kq v9 w' => ∃ (x9_3 : Int), v9 = .int .i64 x9_3 ∧ Aside0 (flailref04_Read.l0 kq a0 a1 x7_9 x8_9 x9_3 = some (r1, r2, r3)) ∧ Aside0 (kq ≤ kj9) ∧ Aside0 (Below w.heap.size w w'))
                    case atStart => exact ⟨(x7_9), (by first | rfl | (simp; done) | (simp [*]; done)), H', ⟨Nat.le_refl _⟩, ⟨by repeat (first | (with_reducible first | exact HB.out | apply below_alloc | apply pw_below_drewN | apply below_drew1) | exact HB.out)⟩⟩
                    case round =>
                      clear H'
                      try clear c1
                      try clear p1
                      try clear q1
                      try clear hx1
                      try clear c2
                      try clear p2
                      try clear c4
                      try clear c4b0
                      try clear c5
                      try clear c6
                      try clear c6b0
                      try clear p6
                      try clear c7
                      try clear c7b0
                      try clear p8
                      try clear q8
                      try clear hx8
                      try clear c9
                      try clear c9b0
                      try clear c9b1
                      try clear c11
                      try clear c11b0
                      try clear c13
                      try clear c13b0
                      try clear p14
                      try clear q14
                      try clear hx14
                      try clear c15
                      try clear c15b0
                      try clear c15b1
                      try clear p16
                      try clear q16
                      try clear hx16
                      try clear c17
                      try clear c17b0
                      try clear c17b1
                      try clear p1
                      try clear p14
                      try clear p16
                      try clear p2
                      try clear p6
                      try clear p8
                      try clear q1
                      try clear q14
                      try clear q16
                      try clear q8
                      obtain ⟨x9_3, rfl, HA, HK3, HB⟩ := hrel
                      cases gk with
                      | zero => exact absurd HA.out (by simp [flailref04_Read.l0])
                      | succ k3 =>
                        have H := HA.out
                        clear HA
                        simp only [flailref04_Read.l0] at H
                        by_cases c19 : x9_3 < (a0.size : Int)
                        · rw [if_pos c19] at H
                          have c19b0 : decide (x9_3 < (a0.size : Int)) = true := decide_eq_true c19
                          clear c19
                          (first | rw [c19b0] | (simp only [i64_w, i32_w]; rw [c19b0]) | skip)
                          by_cases c20 : 0 ≤ x9_3
                          · rw [if_pos c20] at H
                            have c20b0 : decide (0 ≤ x9_3) = true := decide_eq_true c20
                            clear c20
                            replace H := Option.bind_eq_some_iff.mp H
                            obtain ⟨t120, A220, H⟩ := H
                            replace H : (if t120 < 0 then (flailref04_Read.j3 k3 a0 a1 x7_9 x8_9 x9_3) else (if t120 > 9 then (if x8_9 = true then (flailref04_Read.l0 k3 a0 a1 x7_9 x8_9 (wrap64 (x9_3 + 1))) else (flailref04_Read.j3 k3 a0 a1 x7_9 x8_9 x9_3)) else (flailref04_Read.l0 k3 a0 a1 x7_9 x8_9 (wrap64 (x9_3 + 1))))) = some (r1, r2, r3) := H
                            have A22 := Aside0.mk A220
                            clear A220
                            by_cases c23 : t120 < 0
                            · rw [if_pos c23] at H
                              have c23b0 : decide (t120 < 0) = true := decide_eq_true c23
                              clear c23
                              have H' := Aside0.mk H
                              clear H
                              have p21 : 0 ≤ (x9_3 : Int) := of_decide_eq_true (by first | (with_reducible assumption) | assumption)
                              have q21 : x9_3 < (a0.size : Int) := of_decide_eq_true (by first | (with_reducible assumption) | assumption)
                              have hx21 := bt_at a0 x9_3
                              replace p21 := eq_true p21
                              replace q21 := eq_true q21
                              go_wp2_with (first | ((with_reducible refine gate_callee (f := 49) rfl ?_); refine goesL_ (some 52) rfl rfl Tryd.func49 (by kernel_rfl) rfl #[.int .u8 (bt a0 x9_3)] rfl (by (try simp only [List.map_toArray, List.map_cons, List.map_nil]); first | done | rfl | (simp only [List.length_drop, List.length_take]; rfl)) ?_; (with_reducible refine (flailref03_Hex.calls k3 (bt a0 x9_3) t120 _ A22.out).mono ?_); rintro e w' ⟨rfl, ⟨nd, rfl⟩⟩; refine ⟨_, rfl, ?_⟩))
                              go_meet
                              case rel => exact ⟨_, (x9_3), (by first | rfl | (simp; done) | (simp [*]; done)), H', ⟨by have := HJ2.out; have := HJ9.out; have := HK3.out; first | omega | exact Nat.le_refl _⟩, ⟨by repeat (first | (with_reducible first | exact HB.out | apply below_alloc | apply pw_below_drewN | apply below_drew1) | exact HB.out)⟩⟩
                            · rw [if_neg c23] at H
                              have c23b0 : decide (t120 < 0) = false := decide_eq_false c23
                              clear c23
                              by_cases c24 : t120 > 9
                              · rw [if_pos c24] at H
                                have c24b0 : decide (9 < t120) = true := decide_eq_true c24
                                clear c24
                                by_cases c25 : x8_9 = true
                                · subst c25
                                  have H1 : (flailref04_Read.l0 k3 a0 a1 x7_9 true (wrap64 (x9_3 + 1))) = some (r1, r2, r3) := by rw [if_pos rfl] at H; exact H
                                  clear H
                                  have H := H1
                                  clear H1
                                  have H' := Aside0.mk H
                                  clear H
                                  have p21 : 0 ≤ (x9_3 : Int) := of_decide_eq_true (by first | (with_reducible assumption) | assumption)
                                  have q21 : x9_3 < (a0.size : Int) := of_decide_eq_true (by first | (with_reducible assumption) | assumption)
                                  have hx21 := bt_at a0 x9_3
                                  replace p21 := eq_true p21
                                  replace q21 := eq_true q21
                                  go_wp2_with (first | ((with_reducible refine gate_callee (f := 49) rfl ?_); refine goesL_ (some 52) rfl rfl Tryd.func49 (by kernel_rfl) rfl #[.int .u8 (bt a0 x9_3)] rfl (by (try simp only [List.map_toArray, List.map_cons, List.map_nil]); first | done | rfl | (simp only [List.length_drop, List.length_take]; rfl)) ?_; (with_reducible refine (flailref03_Hex.calls k3 (bt a0 x9_3) t120 _ A22.out).mono ?_); rintro e w' ⟨rfl, ⟨nd, rfl⟩⟩; refine ⟨_, rfl, ?_⟩))
                                  go_roundg k3
                                  case measure => have := HJ2.out; have := HJ9.out; have := HK3.out; omega
                                  case rel => exact ⟨(wrap64 (x9_3 + 1)), (by first | rfl | (simp; done) | (simp [*]; done)), H', ⟨by have := HJ2.out; have := HJ9.out; have := HK3.out; omega⟩, ⟨by repeat (first | (with_reducible first | exact HB.out | apply below_alloc | apply pw_below_drewN | apply below_drew1) | exact HB.out)⟩⟩
                                · replace c25 := Bool.eq_false_iff.mpr c25
                                  subst c25
                                  have H1 : (flailref04_Read.j3 k3 a0 a1 x7_9 false x9_3) = some (r1, r2, r3) := by rw [if_neg (show ¬ (false = true) by decide)] at H; exact H
                                  clear H
                                  have H := H1
                                  clear H1
                                  have H' := Aside0.mk H
                                  clear H
                                  have p21 : 0 ≤ (x9_3 : Int) := of_decide_eq_true (by first | (with_reducible assumption) | assumption)
                                  have q21 : x9_3 < (a0.size : Int) := of_decide_eq_true (by first | (with_reducible assumption) | assumption)
                                  have hx21 := bt_at a0 x9_3
                                  replace p21 := eq_true p21
                                  replace q21 := eq_true q21
                                  go_wp2_with (first | ((with_reducible refine gate_callee (f := 49) rfl ?_); refine goesL_ (some 52) rfl rfl Tryd.func49 (by kernel_rfl) rfl #[.int .u8 (bt a0 x9_3)] rfl (by (try simp only [List.map_toArray, List.map_cons, List.map_nil]); first | done | rfl | (simp only [List.length_drop, List.length_take]; rfl)) ?_; (with_reducible refine (flailref03_Hex.calls k3 (bt a0 x9_3) t120 _ A22.out).mono ?_); rintro e w' ⟨rfl, ⟨nd, rfl⟩⟩; refine ⟨_, rfl, ?_⟩))
                                  go_meet
                                  case rel => exact ⟨_, (x9_3), (by first | rfl | (simp; done) | (simp [*]; done)), H', ⟨by have := HJ2.out; have := HJ9.out; have := HK3.out; first | omega | exact Nat.le_refl _⟩, ⟨by repeat (first | (with_reducible first | exact HB.out | apply below_alloc | apply pw_below_drewN | apply below_drew1) | exact HB.out)⟩⟩
                              · rw [if_neg c24] at H
                                have c24b0 : decide (9 < t120) = false := decide_eq_false c24
                                clear c24
                                have H' := Aside0.mk H
                                clear H
                                have p21 : 0 ≤ (x9_3 : Int) := of_decide_eq_true (by first | (with_reducible assumption) | assumption)
                                have q21 : x9_3 < (a0.size : Int) := of_decide_eq_true (by first | (with_reducible assumption) | assumption)
                                have hx21 := bt_at a0 x9_3
                                replace p21 := eq_true p21
                                replace q21 := eq_true q21
                                go_wp2_with (first | ((with_reducible refine gate_callee (f := 49) rfl ?_); refine goesL_ (some 52) rfl rfl Tryd.func49 (by kernel_rfl) rfl #[.int .u8 (bt a0 x9_3)] rfl (by (try simp only [List.map_toArray, List.map_cons, List.map_nil]); first | done | rfl | (simp only [List.length_drop, List.length_take]; rfl)) ?_; (with_reducible refine (flailref03_Hex.calls k3 (bt a0 x9_3) t120 _ A22.out).mono ?_); rintro e w' ⟨rfl, ⟨nd, rfl⟩⟩; refine ⟨_, rfl, ?_⟩))
                                go_roundg k3
                                case measure => have := HJ2.out; have := HJ9.out; have := HK3.out; omega
                                case rel => exact ⟨(wrap64 (x9_3 + 1)), (by first | rfl | (simp; done) | (simp [*]; done)), H', ⟨by have := HJ2.out; have := HJ9.out; have := HK3.out; omega⟩, ⟨by repeat (first | (with_reducible first | exact HB.out | apply below_alloc | apply pw_below_drewN | apply below_drew1) | exact HB.out)⟩⟩
                          · rw [if_neg c20] at H
                            exact absurd H (by simp)
                        · rw [if_neg c19] at H
                          have c19b0 : decide (x9_3 < (a0.size : Int)) = false := decide_eq_false c19
                          clear c19
                          (first | rw [c19b0] | (simp only [i64_w, i32_w]; rw [c19b0]) | skip)
                          have H' := Aside0.mk H
                          clear H
                          go_wp2
                          go_meet
                          case rel => exact ⟨_, (x9_3), (by first | rfl | (simp; done) | (simp [*]; done)), H', ⟨by have := HJ2.out; have := HJ9.out; have := HK3.out; first | omega | exact Nat.le_refl _⟩, ⟨by repeat (first | (with_reducible first | exact HB.out | apply below_alloc | apply pw_below_drewN | apply below_drew1) | exact HB.out)⟩⟩
                  case rest =>
                    clear HC18
                    try clear c1
                    try clear p1
                    try clear q1
                    try clear hx1
                    try clear c2
                    try clear p2
                    try clear q2
                    try clear hx2
                    try clear c4
                    try clear c4b0
                    try clear c5
                    try clear c6
                    try clear c6b0
                    try clear p6
                    try clear c7
                    try clear c7b0
                    try clear p8
                    try clear q8
                    try clear hx8
                    try clear c9
                    try clear c9b0
                    try clear c9b1
                    try clear c11
                    try clear c11b0
                    try clear c13
                    try clear c13b0
                    try clear p14
                    try clear q14
                    try clear hx14
                    try clear c15
                    try clear c15b0
                    try clear c15b1
                    try clear p16
                    try clear q16
                    try clear hx16
                    try clear c17
                    try clear c17b0
                    try clear c17b1
                    try clear c19
                    try clear c19b0
                    try clear c20
                    try clear c20b0
                    try clear p21
                    try clear q21
                    try clear hx21
                    try clear c23
                    try clear c23b0
                    try clear c24
                    try clear c24b0
                    try clear c25
                    try clear p1
                    try clear p14
                    try clear p16
                    try clear p2
                    try clear p21
                    try clear p6
                    try clear p8
                    try clear q1
                    try clear q14
                    try clear q16
                    try clear q21
                    try clear q8
                    obtain ⟨kq, x9_17, rfl, HA, HJ17, HB⟩ := hcut
                    cases kq with
                    | zero => exact absurd HA.out (by simp [flailref04_Read.j3])
                    | succ kj17 =>
                      have H := HA.out
                      clear HA
                      simp only [flailref04_Read.j3] at H
                      by_cases c26 : 0 ≤ x7_9
                      · rw [if_pos c26] at H
                        have c26b0 := eq_true c26
                        have c26b1 : decide (0 ≤ x7_9) = true := decide_eq_true c26
                        clear c26
                        by_cases c27 : x7_9 ≤ x9_17
                        · rw [if_pos c27] at H
                          have c27b0 := eq_true c27
                          have c27b1 : decide (x7_9 ≤ x9_17) = true := decide_eq_true c27
                          clear c27
                          by_cases c28 : x9_17 ≤ (a0.size : Int)
                          · rw [if_pos c28] at H
                            have c28b0 := eq_true c28
                            have c28b1 : decide (x9_17 ≤ (a0.size : Int)) = true := decide_eq_true c28
                            clear c28
                            replace H := Option.bind_eq_some_iff.mp H
                            obtain ⟨t121, A290, H⟩ := H
                            replace H : (if t121 < 0 then (some ((⟨#[]⟩ : ByteArray), a1, false)) else (if x9_17 < (a0.size : Int) then (if 0 ≤ x9_17 then (if (bt a0 x9_17) = 59 then ((flailref04_Fix.f kj17 t121).bind fun t122 => (some (t122, wrap64 (x9_17 + 1), true))) else ((flailref04_Fix.f kj17 t121).bind fun t123 => (some (t123, x9_17, true)))) else (none)) else ((flailref04_Fix.f kj17 t121).bind fun t124 => (some (t124, x9_17, true))))) = some (r1, r2, r3) := H
                            have A29 := Aside0.mk A290
                            clear A290
                            by_cases c30 : t121 < 0
                            · rw [if_pos c30] at H
                              have c30b0 : decide (t121 < 0) = true := decide_eq_true c30
                              clear c30
                              simp only [Option.some.injEq, Prod.mk.injEq] at H
                              obtain ⟨rfl, rfl, rfl⟩ := H
                              go_wp2_with (first | ((with_reducible refine gate_callee (f := 50) rfl ?_); refine goesL_ (some 70) rfl rfl Tryd.func50 (by kernel_rfl) rfl #[.string (a0.extract (x7_9 : Int).toNat (x9_17 : Int).toNat), .bool x8_9] rfl (by (try simp only [List.map_toArray, List.map_cons, List.map_nil]); first | done | rfl | (simp only [List.length_drop, List.length_take]; rfl)) ?_; (with_reducible refine (flailref04_Value.calls kj17 (a0.extract (x7_9 : Int).toNat (x9_17 : Int).toNat) x8_9 t121 _ A29.out).mono ?_); rintro e w' ⟨rfl, ⟨nd, rfl⟩⟩; refine ⟨_, rfl, ?_⟩))
                              go_ret3
                              exact ⟨by first | rfl | (simp [errW_none, errW_some] <;> rfl) | (simp [*, errW_none, errW_some] <;> rfl), by repeat (first | (with_reducible first | exact HB.out | apply below_alloc | apply pw_below_drewN | apply below_drew1) | exact HB.out)⟩
                            · rw [if_neg c30] at H
                              have c30b0 : decide (t121 < 0) = false := decide_eq_false c30
                              clear c30
                              by_cases c31 : x9_17 < (a0.size : Int)
                              · rw [if_pos c31] at H
                                have c31b0 : decide (x9_17 < (a0.size : Int)) = true := decide_eq_true c31
                                clear c31
                                by_cases c32 : 0 ≤ x9_17
                                · rw [if_pos c32] at H
                                  have c32b0 : decide (0 ≤ x9_17) = true := decide_eq_true c32
                                  clear c32
                                  by_cases c34 : (bt a0 x9_17) = 59
                                  · rw [if_pos c34] at H
                                    have c34b0 : ((bt a0 x9_17) == 59) = true := beq_iff_eq.mpr c34
                                    have c34b1 : ((bt a0 x9_17) != 59) = false := bne_eq_false_iff_eq.mpr c34
                                    clear c34
                                    replace H := Option.bind_eq_some_iff.mp H
                                    obtain ⟨t122, A350, H⟩ := H
                                    replace H : (some (t122, wrap64 (x9_17 + 1), true)) = some (r1, r2, r3) := H
                                    have A35 := Aside0.mk A350
                                    clear A350
                                    simp only [Option.some.injEq, Prod.mk.injEq] at H
                                    obtain ⟨rfl, rfl, rfl⟩ := H
                                    go_wp2_with (first | ((with_reducible refine gate_callee (f := 50) rfl ?_); refine goesL_ (some 70) rfl rfl Tryd.func50 (by kernel_rfl) rfl #[.string (a0.extract (x7_9 : Int).toNat (x9_17 : Int).toNat), .bool x8_9] rfl (by (try simp only [List.map_toArray, List.map_cons, List.map_nil]); first | done | rfl | (simp only [List.length_drop, List.length_take]; rfl)) ?_; (with_reducible refine (flailref04_Value.calls kj17 (a0.extract (x7_9 : Int).toNat (x9_17 : Int).toNat) x8_9 t121 _ A29.out).mono ?_); rintro e w' ⟨rfl, ⟨nd, rfl⟩⟩; refine ⟨_, rfl, ?_⟩; have p33 : 0 ≤ (x9_17 : Int) := of_decide_eq_true (by first | (with_reducible assumption) | assumption); have q33 : x9_17 < (a0.size : Int) := of_decide_eq_true (by first | (with_reducible assumption) | assumption); have hx33 := bt_at a0 x9_17; replace p33 := eq_true p33; replace q33 := eq_true q33) | ((with_reducible refine gate_callee (f := 51) rfl ?_); refine goesL_ (some 85) rfl rfl Tryd.func51 (by kernel_rfl) rfl #[.int .i64 t121] rfl (by (try simp only [List.map_toArray, List.map_cons, List.map_nil]); first | done | rfl | (simp only [List.length_drop, List.length_take]; rfl)) ?_; (with_reducible refine (flailref04_Fix.calls kj17 t121 t122 _ A35.out).mono ?_); rintro e w36 ⟨rfl, hb⟩; refine ⟨_, rfl, ?_⟩; have n0_ := Aside0.mk (below_step (by repeat (first | (with_reducible first | exact HB.out | apply below_alloc | apply pw_below_drewN | apply below_drew1) | exact HB.out)) hb); clear HB; have HB := n0_; clear n0_; (try clear hb); (try clear hb2); (try clear hk); (try clear hi)))
                                    go_ret3
                                    exact ⟨by first | rfl | (simp [errW_none, errW_some] <;> rfl) | (simp [*, errW_none, errW_some] <;> rfl), by repeat (first | (with_reducible first | exact HB.out | apply below_alloc | apply pw_below_drewN | apply below_drew1) | exact HB.out)⟩
                                  · rw [if_neg c34] at H
                                    have c34b0 : ((bt a0 x9_17) == 59) = false := beq_eq_false_iff_ne.mpr c34
                                    have c34b1 : ((bt a0 x9_17) != 59) = true := bne_iff_ne.mpr c34
                                    replace H := Option.bind_eq_some_iff.mp H
                                    obtain ⟨t123, A370, H⟩ := H
                                    replace H : (some (t123, x9_17, true)) = some (r1, r2, r3) := H
                                    have A37 := Aside0.mk A370
                                    clear A370
                                    simp only [Option.some.injEq, Prod.mk.injEq] at H
                                    obtain ⟨rfl, rfl, rfl⟩ := H
                                    go_wp2_with (first | ((with_reducible refine gate_callee (f := 50) rfl ?_); refine goesL_ (some 70) rfl rfl Tryd.func50 (by kernel_rfl) rfl #[.string (a0.extract (x7_9 : Int).toNat (x9_17 : Int).toNat), .bool x8_9] rfl (by (try simp only [List.map_toArray, List.map_cons, List.map_nil]); first | done | rfl | (simp only [List.length_drop, List.length_take]; rfl)) ?_; (with_reducible refine (flailref04_Value.calls kj17 (a0.extract (x7_9 : Int).toNat (x9_17 : Int).toNat) x8_9 t121 _ A29.out).mono ?_); rintro e w' ⟨rfl, ⟨nd, rfl⟩⟩; refine ⟨_, rfl, ?_⟩; have p33 : 0 ≤ (x9_17 : Int) := of_decide_eq_true (by first | (with_reducible assumption) | assumption); have q33 : x9_17 < (a0.size : Int) := of_decide_eq_true (by first | (with_reducible assumption) | assumption); have hx33 := bt_at a0 x9_17; replace p33 := eq_true p33; replace q33 := eq_true q33) | ((with_reducible refine gate_callee (f := 51) rfl ?_); refine goesL_ (some 85) rfl rfl Tryd.func51 (by kernel_rfl) rfl #[.int .i64 t121] rfl (by (try simp only [List.map_toArray, List.map_cons, List.map_nil]); first | done | rfl | (simp only [List.length_drop, List.length_take]; rfl)) ?_; (with_reducible refine (flailref04_Fix.calls kj17 t121 t123 _ A37.out).mono ?_); rintro e w38 ⟨rfl, hb⟩; refine ⟨_, rfl, ?_⟩; have n0_ := Aside0.mk (below_step (by repeat (first | (with_reducible first | exact HB.out | apply below_alloc | apply pw_below_drewN | apply below_drew1) | exact HB.out)) hb); clear HB; have HB := n0_; clear n0_; (try clear hb); (try clear hb2); (try clear hk); (try clear hi)))
                                    go_ret3
                                    exact ⟨by first | rfl | (simp [errW_none, errW_some] <;> rfl) | (simp [*, errW_none, errW_some] <;> rfl), by repeat (first | (with_reducible first | exact HB.out | apply below_alloc | apply pw_below_drewN | apply below_drew1) | exact HB.out)⟩
                                · rw [if_neg c32] at H
                                  exact absurd H (by simp)
                              · rw [if_neg c31] at H
                                have c31b0 : decide (x9_17 < (a0.size : Int)) = false := decide_eq_false c31
                                clear c31
                                replace H := Option.bind_eq_some_iff.mp H
                                obtain ⟨t124, A390, H⟩ := H
                                replace H : (some (t124, x9_17, true)) = some (r1, r2, r3) := H
                                have A39 := Aside0.mk A390
                                clear A390
                                simp only [Option.some.injEq, Prod.mk.injEq] at H
                                obtain ⟨rfl, rfl, rfl⟩ := H
                                go_wp2_with (first | ((with_reducible refine gate_callee (f := 50) rfl ?_); refine goesL_ (some 70) rfl rfl Tryd.func50 (by kernel_rfl) rfl #[.string (a0.extract (x7_9 : Int).toNat (x9_17 : Int).toNat), .bool x8_9] rfl (by (try simp only [List.map_toArray, List.map_cons, List.map_nil]); first | done | rfl | (simp only [List.length_drop, List.length_take]; rfl)) ?_; (with_reducible refine (flailref04_Value.calls kj17 (a0.extract (x7_9 : Int).toNat (x9_17 : Int).toNat) x8_9 t121 _ A29.out).mono ?_); rintro e w' ⟨rfl, ⟨nd, rfl⟩⟩; refine ⟨_, rfl, ?_⟩) | ((with_reducible refine gate_callee (f := 51) rfl ?_); refine goesL_ (some 85) rfl rfl Tryd.func51 (by kernel_rfl) rfl #[.int .i64 t121] rfl (by (try simp only [List.map_toArray, List.map_cons, List.map_nil]); first | done | rfl | (simp only [List.length_drop, List.length_take]; rfl)) ?_; (with_reducible refine (flailref04_Fix.calls kj17 t121 t124 _ A39.out).mono ?_); rintro e w40 ⟨rfl, hb⟩; refine ⟨_, rfl, ?_⟩; have n0_ := Aside0.mk (below_step (by repeat (first | (with_reducible first | exact HB.out | apply below_alloc | apply pw_below_drewN | apply below_drew1) | exact HB.out)) hb); clear HB; have HB := n0_; clear n0_; (try clear hb); (try clear hb2); (try clear hk); (try clear hi)))
                                go_ret3
                                exact ⟨by first | rfl | (simp [errW_none, errW_some] <;> rfl) | (simp [*, errW_none, errW_some] <;> rfl), by repeat (first | (with_reducible first | exact HB.out | apply below_alloc | apply pw_below_drewN | apply below_drew1) | exact HB.out)⟩
                          · rw [if_neg c28] at H
                            exact absurd H (by simp)
                        · rw [if_neg c27] at H
                          exact absurd H (by simp)
                      · rw [if_neg c26] at H
                        exact absurd H (by simp)
            · rw [if_neg c9] at H
              have c9b0 : ((bt a0 a1) == 35) = false := beq_eq_false_iff_ne.mpr c9
              have c9b1 : ((bt a0 a1) != 35) = true := bne_iff_ne.mpr c9
              simp only [Option.some.injEq, Prod.mk.injEq] at H
              obtain ⟨rfl, rfl, rfl⟩ := H
              have p8 : 0 ≤ (a1 : Int) := of_decide_eq_true (by first | (with_reducible assumption) | assumption)
              have q8 : a1 < (a0.size : Int) := of_decide_eq_true (by first | (with_reducible assumption) | assumption)
              have hx8 := bt_at a0 a1
              replace p8 := eq_true p8
              replace q8 := eq_true q8
              go_wp2
              go_ret3
              exact ⟨by first | rfl | (simp [errW_none, errW_some] <;> rfl) | (simp [*, errW_none, errW_some] <;> rfl), by repeat (first | (with_reducible first | exact HB.out | apply below_alloc | apply pw_below_drewN | apply below_drew1) | exact HB.out)⟩
          · rw [if_neg c7] at H
            exact absurd H (by simp)
        · rw [if_neg c6] at H
          exact absurd H (by simp)

/-! ### flailref03_Letter: function 30 -/
def flailref03_Letter.f (a0 : Int) : Option (Bool) := if a0 ≥ 65 then (if a0 ≤ 90 then (some true) else (if a0 ≥ 97 then (some (decide (a0 ≤ 122))) else (some false))) else (if a0 ≥ 97 then (some (decide (a0 ≤ 122))) else (some false))
set_option maxHeartbeats 8000000 in
set_option maxRecDepth 100000 in
theorem flailref03_Letter.calls (a0 : Int) (r : Bool) (w : World) (h : flailref03_Letter.f a0 = some r) :
    Calls Tryd.prog 30 #[.int .u8 a0] w fun e w' => e = .returned (.bool r) ∧ Drawn0 w w' := by
  have H : (if a0 ≥ 65 then (if a0 ≤ 90 then (some true) else (if a0 ≥ 97 then (some (decide (a0 ≤ 122))) else (some false))) else (if a0 ≥ 97 then (some (decide (a0 ≤ 122))) else (some false))) = some r := h
  clear h
  by_cases c2 : a0 ≥ 65
  · rw [if_pos c2] at H
    have c2b0 : decide (65 ≤ a0) = true := decide_eq_true c2
    clear c2
    by_cases c3 : a0 ≤ 90
    · rw [if_pos c3] at H
      have c3b0 : decide (a0 ≤ 90) = true := decide_eq_true c3
      clear c3
      obtain rfl := Option.some.inj H
      go_enter Tryd.func30, Tryd.ntmps30
      go_wp2
      go_ret
      exact ⟨by first | rfl | (simp; done) | (simp [*]; done), by repeat (first | exact Drawn0.refl _ | apply Drawn0.step)⟩
    · rw [if_neg c3] at H
      have c3b0 : decide (a0 ≤ 90) = false := decide_eq_false c3
      clear c3
      by_cases c4 : a0 ≥ 97
      · rw [if_pos c4] at H
        have c4b0 : decide (97 ≤ a0) = true := decide_eq_true c4
        clear c4
        obtain rfl := Option.some.inj H
        go_enter Tryd.func30, Tryd.ntmps30
        go_wp2
        go_ret
        exact ⟨by first | rfl | (simp; done) | (simp [*]; done), by repeat (first | exact Drawn0.refl _ | apply Drawn0.step)⟩
      · rw [if_neg c4] at H
        have c4b0 : decide (97 ≤ a0) = false := decide_eq_false c4
        clear c4
        obtain rfl := Option.some.inj H
        go_enter Tryd.func30, Tryd.ntmps30
        go_wp2
        go_ret
        exact ⟨by first | rfl | (simp; done) | (simp [*]; done), by repeat (first | exact Drawn0.refl _ | apply Drawn0.step)⟩
  · rw [if_neg c2] at H
    have c2b0 : decide (65 ≤ a0) = false := decide_eq_false c2
    clear c2
    by_cases c5 : a0 ≥ 97
    · rw [if_pos c5] at H
      have c5b0 : decide (97 ≤ a0) = true := decide_eq_true c5
      clear c5
      obtain rfl := Option.some.inj H
      go_enter Tryd.func30, Tryd.ntmps30
      go_wp2
      go_ret
      exact ⟨by first | rfl | (simp; done) | (simp [*]; done), by repeat (first | exact Drawn0.refl _ | apply Drawn0.step)⟩
    · rw [if_neg c5] at H
      have c5b0 : decide (97 ≤ a0) = false := decide_eq_false c5
      clear c5
      obtain rfl := Option.some.inj H
      go_enter Tryd.func30, Tryd.ntmps30
      go_wp2
      go_ret
      exact ⟨by first | rfl | (simp; done) | (simp [*]; done), by repeat (first | exact Drawn0.refl _ | apply Drawn0.step)⟩

/-! ### flailref03_Digit: function 31 -/
def flailref03_Digit.f (a0 : Int) : Option (Bool) := if a0 ≥ 48 then (some (decide (a0 ≤ 57))) else (some false)
set_option maxHeartbeats 8000000 in
set_option maxRecDepth 100000 in
theorem flailref03_Digit.calls (a0 : Int) (r : Bool) (w : World) (h : flailref03_Digit.f a0 = some r) :
    Calls Tryd.prog 31 #[.int .u8 a0] w fun e w' => e = .returned (.bool r) ∧ Drawn0 w w' := by
  have H : (if a0 ≥ 48 then (some (decide (a0 ≤ 57))) else (some false)) = some r := h
  clear h
  by_cases c2 : a0 ≥ 48
  · rw [if_pos c2] at H
    have c2b0 : decide (48 ≤ a0) = true := decide_eq_true c2
    clear c2
    obtain rfl := Option.some.inj H
    go_enter Tryd.func31, Tryd.ntmps31
    go_wp2
    go_ret
    exact ⟨by first | rfl | (simp; done) | (simp [*]; done), by repeat (first | exact Drawn0.refl _ | apply Drawn0.step)⟩
  · rw [if_neg c2] at H
    have c2b0 : decide (48 ≤ a0) = false := decide_eq_false c2
    clear c2
    obtain rfl := Option.some.inj H
    go_enter Tryd.func31, Tryd.ntmps31
    go_wp2
    go_ret
    exact ⟨by first | rfl | (simp; done) | (simp [*]; done), by repeat (first | exact Drawn0.refl _ | apply Drawn0.step)⟩

end Go.Proofs.YtdheknlnhfegnaaDoor.Sr
