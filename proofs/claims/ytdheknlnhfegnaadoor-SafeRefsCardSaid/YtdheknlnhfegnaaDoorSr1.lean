-- Written by a program of this session over the kit's printer: not by hand.
import Derived.Test.YtdheknlnhfegnaaDoorSr0
namespace Go.Proofs.YtdheknlnhfegnaaDoor.Sr
open Go.RowKit Go.Proofs.YtdheknlnhfegnaaDoor.K0 Go.Proofs.YtdheknlnhfegnaaDoor.Hand Go.Proofs.YtdheknlnhfegnaaDoorW.PrintWords Go.Proofs.YtdheknlnhfegnaaDoorW.PrintLast Go.Proofs.YtdheknlnhfegnaaDoorW.PrintMore
attribute [local go_sem] max2_int min2_int max_two min_two max_three min_three max_four min_four   -- for this text's walks alone
set_option linter.unusedVariables false
set_option linter.unusedSimpArgs false

/-! ### flailref25_has: function 14 -/
def flailref25_has.l0 : Nat → ByteArray → Int → Int → Option (Bool)
  | 0, _, _, _ => none
  | k + 1, x0, x1, x5 => if x5 < (x0.size : Int) then (if 0 ≤ x5 then (if (bt x0 x5) = x1 then (some true) else (flailref25_has.l0 k x0 x1 (wrap64 (x5 + 1)))) else (none)) else (some false)
def flailref25_has.f (k : Nat) (a0 : ByteArray) (a1 : Int) : Option (Bool) := flailref25_has.l0 k a0 a1 0
theorem flailref25_has.mono_l : ∀ k, (∀ y0 y1 y2, LeO (flailref25_has.l0 k y0 y1 y2) (flailref25_has.l0 (k + 1) y0 y1 y2))
  | 0 => fun _ _ _ r h => by simp [flailref25_has.l0] at h
  | k + 1 => by
    have ih0 := flailref25_has.mono_l k
    · intro y0 y1 y2
      unfold flailref25_has.l0
      repeat' first
      | (with_reducible exact ih0 _ _ _)
      | (with_reducible exact LeO.refl _)
      | (with_reducible exact LeO.none _)
      | (with_reducible refine LeO.ite ?_ ?_)
      | (with_reducible refine LeO.bind ?_ (fun _ => ?_))
      | exact ih0 _ _ _
      | exact LeO.none _
      | refine LeO.ite ?_ ?_
      | refine LeO.bind ?_ (fun _ => ?_)
theorem flailref25_has.mono : ∀ a0 a1 k, LeO (flailref25_has.f k a0 a1) (flailref25_has.f (k + 1) a0 a1) := by
  intro a0 a1 k
  have ih0 := flailref25_has.mono_l k
  unfold flailref25_has.f
  repeat' first
      | (with_reducible exact ih0 _ _ _)
      | (with_reducible exact LeO.refl _)
      | (with_reducible exact LeO.none _)
      | (with_reducible refine LeO.ite ?_ ?_)
      | (with_reducible refine LeO.bind ?_ (fun _ => ?_))
      | exact ih0 _ _ _
      | exact LeO.none _
      | refine LeO.ite ?_ ?_
      | refine LeO.bind ?_ (fun _ => ?_)
set_option maxHeartbeats 8000000 in
set_option maxRecDepth 100000 in
theorem flailref25_has.calls (k : Nat) (a0 : ByteArray) (a1 : Int) (r : Bool) (w : World) (h : flailref25_has.f k a0 a1 = some r) :
    Calls Tryd.prog 14 #[.string a0, .int .u8 a1] w fun e w' => e = .returned (.bool r) ∧ Drawn0 w w' := by
  have H : (flailref25_has.l0 k a0 a1 0) = some r := h
  clear h
  have H' := Aside0.mk H
  clear H
  go_enter Tryd.func14, Tryd.ntmps14
  go_wp2
  go_loopg [5] k (fun kq v5 w' => ∃ (x5_1 : Int), v5 = .int .i64 x5_1 ∧ Aside0 (flailref25_has.l0 kq a0 a1 x5_1 = some r) ∧ Aside0 (kq ≤ k) ∧ Drawn0 w w')
  case atStart => exact ⟨(0), (by first | rfl | (simp; done) | (simp [*]; done)), H', ⟨Nat.le_refl _⟩, by repeat (first | exact Drawn0.refl _ | apply Drawn0.step)⟩
  case round =>
    clear H'
    try clear c1
    try clear p2
    obtain ⟨x5_1, rfl, HA, HK1, ⟨m1, rfl⟩⟩ := hrel
    cases gk with
    | zero => exact absurd HA.out (by simp [flailref25_has.l0])
    | succ k1 =>
      have H := HA.out
      clear HA
      simp only [flailref25_has.l0] at H
      by_cases c3 : x5_1 < (a0.size : Int)
      · rw [if_pos c3] at H
        have c3b0 : decide (x5_1 < (a0.size : Int)) = true := decide_eq_true c3
        clear c3
        by_cases c4 : 0 ≤ x5_1
        · rw [if_pos c4] at H
          have c4b0 : decide (0 ≤ x5_1) = true := decide_eq_true c4
          clear c4
          by_cases c6 : (bt a0 x5_1) = a1
          · rw [if_pos c6] at H
            have c6b0 : ((bt a0 x5_1) == a1) = true := beq_iff_eq.mpr c6
            have c6b1 : ((bt a0 x5_1) != a1) = false := bne_eq_false_iff_eq.mpr c6
            clear c6
            obtain rfl := Option.some.inj H
            have p5 : 0 ≤ (x5_1 : Int) := of_decide_eq_true (by first | (with_reducible assumption) | assumption)
            have q5 : x5_1 < (a0.size : Int) := of_decide_eq_true (by first | (with_reducible assumption) | assumption)
            have hx5 := bt_at a0 x5_1
            replace p5 := eq_true p5
            replace q5 := eq_true q5
            go_wp2
            go_ret
            exact ⟨by first | rfl | (simp; done) | (simp [*]; done), by repeat (first | exact Drawn0.refl _ | apply Drawn0.step)⟩
          · rw [if_neg c6] at H
            have c6b0 : ((bt a0 x5_1) == a1) = false := beq_eq_false_iff_ne.mpr c6
            have c6b1 : ((bt a0 x5_1) != a1) = true := bne_iff_ne.mpr c6
            have H' := Aside0.mk H
            clear H
            have p5 : 0 ≤ (x5_1 : Int) := of_decide_eq_true (by first | (with_reducible assumption) | assumption)
            have q5 : x5_1 < (a0.size : Int) := of_decide_eq_true (by first | (with_reducible assumption) | assumption)
            have hx5 := bt_at a0 x5_1
            replace p5 := eq_true p5
            replace q5 := eq_true q5
            go_wp2
            go_roundg k1
            case measure => have := HK1.out; omega
            case rel => exact ⟨(wrap64 (x5_1 + 1)), (by first | rfl | (simp; done) | (simp [*]; done)), H', ⟨by have := HK1.out; omega⟩, by repeat (first | exact Drawn0.refl _ | apply Drawn0.step)⟩
        · rw [if_neg c4] at H
          exact absurd H (by simp)
      · rw [if_neg c3] at H
        have c3b0 : decide (x5_1 < (a0.size : Int)) = false := decide_eq_false c3
        clear c3
        obtain rfl := Option.some.inj H
        go_wp2
        go_ret
        exact ⟨by first | rfl | (simp; done) | (simp [*]; done), by repeat (first | exact Drawn0.refl _ | apply Drawn0.step)⟩

/-! ### flailref03_Hex: function 49 -/
mutual
def flailref03_Hex.j0 : Nat → Int → Bool → Option (Int)
  | 0, _, _ => none
  | k + 1, x0, x3 => if x3 = true then (some (wrap64 ((wrap64 (x0)) - 48))) else (if x0 ≥ 65 then (flailref03_Hex.j1 k x0 (decide (x0 ≤ 70))) else (flailref03_Hex.j1 k x0 false))
def flailref03_Hex.j1 : Nat → Int → Bool → Option (Int)
  | 0, _, _ => none
  | k + 1, x0, x13 => if x13 = true then (some (wrap64 ((wrap64 (x0)) - 55))) else (if x0 ≥ 97 then (if x0 ≤ 102 then (some (wrap64 ((wrap64 (x0)) - 87))) else (some (-1))) else (some (-1)))
end
def flailref03_Hex.f (k : Nat) (a0 : Int) : Option (Int) := if a0 ≥ 48 then (flailref03_Hex.j0 k a0 (decide (a0 ≤ 57))) else (flailref03_Hex.j0 k a0 false)
theorem flailref03_Hex.mono_l : ∀ k, (∀ y0 y1, LeO (flailref03_Hex.j0 k y0 y1) (flailref03_Hex.j0 (k + 1) y0 y1)) ∧ (∀ y0 y1, LeO (flailref03_Hex.j1 k y0 y1) (flailref03_Hex.j1 (k + 1) y0 y1))
  | 0 => ⟨fun _ _ r h => by simp [flailref03_Hex.j0] at h, fun _ _ r h => by simp [flailref03_Hex.j1] at h⟩
  | k + 1 => by
    obtain ⟨ih0, ih1⟩ := flailref03_Hex.mono_l k
    refine ⟨?_, ?_⟩
    · intro y0 y1
      unfold flailref03_Hex.j0
      repeat' first
      | (with_reducible exact ih0 _ _)
      | (with_reducible exact ih1 _ _)
      | (with_reducible exact LeO.refl _)
      | (with_reducible exact LeO.none _)
      | (with_reducible refine LeO.ite ?_ ?_)
      | (with_reducible refine LeO.bind ?_ (fun _ => ?_))
      | exact ih0 _ _
      | exact ih1 _ _
      | exact LeO.none _
      | refine LeO.ite ?_ ?_
      | refine LeO.bind ?_ (fun _ => ?_)
    · intro y0 y1
      unfold flailref03_Hex.j1
      repeat' first
      | (with_reducible exact ih0 _ _)
      | (with_reducible exact ih1 _ _)
      | (with_reducible exact LeO.refl _)
      | (with_reducible exact LeO.none _)
      | (with_reducible refine LeO.ite ?_ ?_)
      | (with_reducible refine LeO.bind ?_ (fun _ => ?_))
      | exact ih0 _ _
      | exact ih1 _ _
      | exact LeO.none _
      | refine LeO.ite ?_ ?_
      | refine LeO.bind ?_ (fun _ => ?_)
theorem flailref03_Hex.mono : ∀ a0 k, LeO (flailref03_Hex.f k a0) (flailref03_Hex.f (k + 1) a0) := by
  intro a0 k
  obtain ⟨ih0, ih1⟩ := flailref03_Hex.mono_l k
  unfold flailref03_Hex.f
  repeat' first
      | (with_reducible exact ih0 _ _)
      | (with_reducible exact ih1 _ _)
      | (with_reducible exact LeO.refl _)
      | (with_reducible exact LeO.none _)
      | (with_reducible refine LeO.ite ?_ ?_)
      | (with_reducible refine LeO.bind ?_ (fun _ => ?_))
      | exact ih0 _ _
      | exact ih1 _ _
      | exact LeO.none _
      | refine LeO.ite ?_ ?_
      | refine LeO.bind ?_ (fun _ => ?_)
set_option maxHeartbeats 8000000 in
set_option maxRecDepth 100000 in
theorem flailref03_Hex.calls (k : Nat) (a0 : Int) (r : Int) (w : World) (h : flailref03_Hex.f k a0 = some r) :
    Calls Tryd.prog 49 #[.int .u8 a0] w fun e w' => e = .returned (.int .i64 r) ∧ Drawn0 w w' := by
  have H : (if a0 ≥ 48 then (flailref03_Hex.j0 k a0 (decide (a0 ≤ 57))) else (flailref03_Hex.j0 k a0 false)) = some r := h
  clear h
  have HC2 := Aside0.mk H
  clear H
  go_enter Tryd.func49, Tryd.ntmps49
  go_upto_region 1 with (fail)
  go_cut [3] (fun v3 wc => ∃ (kq : Nat) (x3_1 : Bool), v3 = .bool x3_1 ∧ Aside0 (flailref03_Hex.j0 kq a0 x3_1 = some r) ∧ Aside0 (kq ≤ k) ∧ Drawn0 w wc)
  case first =>
    have H := HC2.out
    clear HC2
    by_cases c3 : a0 ≥ 48
    · rw [if_pos c3] at H
      have c3b0 : decide (48 ≤ a0) = true := decide_eq_true c3
      clear c3
      (first | rw [c3b0] | (simp only [i64_w, i32_w]; rw [c3b0]) | skip)
      have H' := Aside0.mk H
      clear H
      go_wp2
      go_meet
      case rel => exact ⟨_, (decide (a0 ≤ 57)), (by first | rfl | (simp; done) | (simp [*]; done)), H', ⟨by first | omega | exact Nat.le_refl _⟩, by repeat (first | exact Drawn0.refl _ | apply Drawn0.step)⟩
    · rw [if_neg c3] at H
      have c3b0 : decide (48 ≤ a0) = false := decide_eq_false c3
      clear c3
      (first | rw [c3b0] | (simp only [i64_w, i32_w]; rw [c3b0]) | skip)
      have H' := Aside0.mk H
      clear H
      go_wp2
      go_meet
      case rel => exact ⟨_, (false), (by first | rfl | (simp; done) | (simp [*]; done)), H', ⟨by first | omega | exact Nat.le_refl _⟩, by repeat (first | exact Drawn0.refl _ | apply Drawn0.step)⟩
  case rest =>
    clear HC2
    try clear p2
    try clear c3
    try clear c3b0
    obtain ⟨kq, x3_1, rfl, HA, HJ1, ⟨mc1, rfl⟩⟩ := hcut
    cases kq with
    | zero => exact absurd HA.out (by simp [flailref03_Hex.j0])
    | succ kj1 =>
      have H := HA.out
      clear HA
      simp only [flailref03_Hex.j0] at H
      by_cases c4 : x3_1 = true
      · subst c4
        have H1 : (some (wrap64 ((wrap64 (a0)) - 48))) = some r := by rw [if_pos rfl] at H; exact H
        clear H
        have H := H1
        clear H1
        obtain rfl := Option.some.inj H
        go_wp2
        go_ret
        exact ⟨by first | rfl | (simp; done) | (simp [*]; done), by repeat (first | exact Drawn0.refl _ | apply Drawn0.step)⟩
      · replace c4 := Bool.eq_false_iff.mpr c4
        subst c4
        have H1 : (if a0 ≥ 65 then (flailref03_Hex.j1 kj1 a0 (decide (a0 ≤ 70))) else (flailref03_Hex.j1 kj1 a0 false)) = some r := by rw [if_neg (show ¬ (false = true) by decide)] at H; exact H
        clear H
        have H := H1
        clear H1
        have HC5 := Aside0.mk H
        clear H
        go_upto_region 3 with (fail)
        go_cut [13] (fun v13 wc => ∃ (kq : Nat) (x13_4 : Bool), v13 = .bool x13_4 ∧ Aside0 (flailref03_Hex.j1 kq a0 x13_4 = some r) ∧ Aside0 (kq ≤ kj1) ∧ Drawn0 w wc)
        case first =>
          have H := HC5.out
          clear HC5
          by_cases c6 : a0 ≥ 65
          · rw [if_pos c6] at H
            have c6b0 : decide (65 ≤ a0) = true := decide_eq_true c6
            clear c6
            (first | rw [c6b0] | (simp only [i64_w, i32_w]; rw [c6b0]) | skip)
            have H' := Aside0.mk H
            clear H
            go_wp2
            go_meet
            case rel => exact ⟨_, (decide (a0 ≤ 70)), (by first | rfl | (simp; done) | (simp [*]; done)), H', ⟨by have := HJ1.out; first | omega | exact Nat.le_refl _⟩, by repeat (first | exact Drawn0.refl _ | apply Drawn0.step)⟩
          · rw [if_neg c6] at H
            have c6b0 : decide (65 ≤ a0) = false := decide_eq_false c6
            clear c6
            (first | rw [c6b0] | (simp only [i64_w, i32_w]; rw [c6b0]) | skip)
            have H' := Aside0.mk H
            clear H
            go_wp2
            go_meet
            case rel => exact ⟨_, (false), (by first | rfl | (simp; done) | (simp [*]; done)), H', ⟨by have := HJ1.out; first | omega | exact Nat.le_refl _⟩, by repeat (first | exact Drawn0.refl _ | apply Drawn0.step)⟩
        case rest =>
          clear HC5
          try clear c1
          try clear p2
          try clear c3
          try clear c3b0
          try clear c4
          try clear c6
          try clear c6b0
          try clear p6
          try clear p2
          obtain ⟨kq, x13_4, rfl, HA, HJ4, ⟨mc4, rfl⟩⟩ := hcut
          cases kq with
          | zero => exact absurd HA.out (by simp [flailref03_Hex.j1])
          | succ kj4 =>
            have H := HA.out
            clear HA
            simp only [flailref03_Hex.j1] at H
            by_cases c7 : x13_4 = true
            · subst c7
              have H1 : (some (wrap64 ((wrap64 (a0)) - 55))) = some r := by rw [if_pos rfl] at H; exact H
              clear H
              have H := H1
              clear H1
              obtain rfl := Option.some.inj H
              go_wp2
              go_ret
              exact ⟨by first | rfl | (simp; done) | (simp [*]; done), by repeat (first | exact Drawn0.refl _ | apply Drawn0.step)⟩
            · replace c7 := Bool.eq_false_iff.mpr c7
              subst c7
              have H1 : (if a0 ≥ 97 then (if a0 ≤ 102 then (some (wrap64 ((wrap64 (a0)) - 87))) else (some (-1))) else (some (-1))) = some r := by rw [if_neg (show ¬ (false = true) by decide)] at H; exact H
              clear H
              have H := H1
              clear H1
              by_cases c8 : a0 ≥ 97
              · rw [if_pos c8] at H
                have c8b0 : decide (97 ≤ a0) = true := decide_eq_true c8
                clear c8
                by_cases c9 : a0 ≤ 102
                · rw [if_pos c9] at H
                  have c9b0 : decide (a0 ≤ 102) = true := decide_eq_true c9
                  clear c9
                  obtain rfl := Option.some.inj H
                  go_wp2
                  go_ret
                  exact ⟨by first | rfl | (simp; done) | (simp [*]; done), by repeat (first | exact Drawn0.refl _ | apply Drawn0.step)⟩
                · rw [if_neg c9] at H
                  have c9b0 : decide (a0 ≤ 102) = false := decide_eq_false c9
                  clear c9
                  obtain rfl := Option.some.inj H
                  go_wp2
                  go_ret
                  exact ⟨by first | rfl | (simp; done) | (simp [*]; done), by repeat (first | exact Drawn0.refl _ | apply Drawn0.step)⟩
              · rw [if_neg c8] at H
                have c8b0 : decide (97 ≤ a0) = false := decide_eq_false c8
                clear c8
                obtain rfl := Option.some.inj H
                go_wp2
                go_ret
                exact ⟨by first | rfl | (simp; done) | (simp [*]; done), by repeat (first | exact Drawn0.refl _ | apply Drawn0.step)⟩

/-! ### flailref04_Value: function 50 -/
mutual
def flailref04_Value.j0 : Nat → ByteArray → Int → Option (Int)
  | 0, _, _ => none
  | k + 1, x0, x5 => if (x0.size : Int) = 0 then (some (-1)) else (flailref04_Value.l0 k x0 x5 0 0)
def flailref04_Value.l0 : Nat → ByteArray → Int → Int → Int → Option (Int)
  | 0, _, _, _, _ => none
  | k + 1, x0, x5, x6, x7 => if x7 < (x0.size : Int) then (if 0 ≤ x7 then ((flailref03_Hex.f k (bt x0 x7)).bind fun t101 => (if t101 < 0 then (flailref04_Value.j2 k x0 x5 x6 x7 t101 true) else (flailref04_Value.j2 k x0 x5 x6 x7 t101 (decide (t101 ≥ x5))))) else (none)) else (some x6)
def flailref04_Value.j2 : Nat → ByteArray → Int → Int → Int → Int → Bool → Option (Int)
  | 0, _, _, _, _, _, _ => none
  | k + 1, x0, x5, x6, x7, x8, x29 => if x29 = true then (some (-1)) else (if (wrap64 ((wrap64 (x6 * x5)) + x8)) > 1114112 then (flailref04_Value.l0 k x0 x5 1114112 (wrap64 (x7 + 1))) else (flailref04_Value.l0 k x0 x5 (wrap64 ((wrap64 (x6 * x5)) + x8)) (wrap64 (x7 + 1))))
end
def flailref04_Value.f (k : Nat) (a0 : ByteArray) (a1 : Bool) : Option (Int) := if a1 = true then (flailref04_Value.j0 k a0 16) else (flailref04_Value.j0 k a0 10)
theorem flailref04_Value.mono_l : ∀ k, (∀ y0 y1, LeO (flailref04_Value.j0 k y0 y1) (flailref04_Value.j0 (k + 1) y0 y1)) ∧ (∀ y0 y1 y2 y3, LeO (flailref04_Value.l0 k y0 y1 y2 y3) (flailref04_Value.l0 (k + 1) y0 y1 y2 y3)) ∧ (∀ y0 y1 y2 y3 y4 y5, LeO (flailref04_Value.j2 k y0 y1 y2 y3 y4 y5) (flailref04_Value.j2 (k + 1) y0 y1 y2 y3 y4 y5))
  | 0 => ⟨fun _ _ r h => by simp [flailref04_Value.j0] at h, fun _ _ _ _ r h => by simp [flailref04_Value.l0] at h, fun _ _ _ _ _ _ r h => by simp [flailref04_Value.j2] at h⟩
  | k + 1 => by
    obtain ⟨ih0, ih1, ih2⟩ := flailref04_Value.mono_l k
    refine ⟨?_, ?_, ?_⟩
    · intro y0 y1
      unfold flailref04_Value.j0
      repeat' first
      | (with_reducible exact ih0 _ _)
      | (with_reducible exact ih1 _ _ _ _)
      | (with_reducible exact ih2 _ _ _ _ _ _)
      | (with_reducible exact flailref03_Hex.mono _ _)
      | (with_reducible exact LeO.refl _)
      | (with_reducible exact LeO.none _)
      | (with_reducible refine LeO.ite ?_ ?_)
      | (with_reducible refine LeO.bind ?_ (fun _ => ?_))
      | exact ih0 _ _
      | exact ih1 _ _ _ _
      | exact ih2 _ _ _ _ _ _
      | exact flailref03_Hex.mono _ _
      | exact LeO.none _
      | refine LeO.ite ?_ ?_
      | refine LeO.bind ?_ (fun _ => ?_)
    · intro y0 y1 y2 y3
      unfold flailref04_Value.l0
      repeat' first
      | (with_reducible exact ih0 _ _)
      | (with_reducible exact ih1 _ _ _ _)
      | (with_reducible exact ih2 _ _ _ _ _ _)
      | (with_reducible exact flailref03_Hex.mono _ _)
      | (with_reducible exact LeO.refl _)
      | (with_reducible exact LeO.none _)
      | (with_reducible refine LeO.ite ?_ ?_)
      | (with_reducible refine LeO.bind ?_ (fun _ => ?_))
      | exact ih0 _ _
      | exact ih1 _ _ _ _
      | exact ih2 _ _ _ _ _ _
      | exact flailref03_Hex.mono _ _
      | exact LeO.none _
      | refine LeO.ite ?_ ?_
      | refine LeO.bind ?_ (fun _ => ?_)
    · intro y0 y1 y2 y3 y4 y5
      unfold flailref04_Value.j2
      repeat' first
      | (with_reducible exact ih0 _ _)
      | (with_reducible exact ih1 _ _ _ _)
      | (with_reducible exact ih2 _ _ _ _ _ _)
      | (with_reducible exact flailref03_Hex.mono _ _)
      | (with_reducible exact LeO.refl _)
      | (with_reducible exact LeO.none _)
      | (with_reducible refine LeO.ite ?_ ?_)
      | (with_reducible refine LeO.bind ?_ (fun _ => ?_))
      | exact ih0 _ _
      | exact ih1 _ _ _ _
      | exact ih2 _ _ _ _ _ _
      | exact flailref03_Hex.mono _ _
      | exact LeO.none _
      | refine LeO.ite ?_ ?_
      | refine LeO.bind ?_ (fun _ => ?_)
theorem flailref04_Value.mono : ∀ a0 a1 k, LeO (flailref04_Value.f k a0 a1) (flailref04_Value.f (k + 1) a0 a1) := by
  intro a0 a1 k
  obtain ⟨ih0, ih1, ih2⟩ := flailref04_Value.mono_l k
  unfold flailref04_Value.f
  repeat' first
      | (with_reducible exact ih0 _ _)
      | (with_reducible exact ih1 _ _ _ _)
      | (with_reducible exact ih2 _ _ _ _ _ _)
      | (with_reducible exact flailref03_Hex.mono _ _)
      | (with_reducible exact LeO.refl _)
      | (with_reducible exact LeO.none _)
      | (with_reducible refine LeO.ite ?_ ?_)
      | (with_reducible refine LeO.bind ?_ (fun _ => ?_))
      | exact ih0 _ _
      | exact ih1 _ _ _ _
      | exact ih2 _ _ _ _ _ _
      | exact flailref03_Hex.mono _ _
      | exact LeO.none _
      | refine LeO.ite ?_ ?_
      | refine LeO.bind ?_ (fun _ => ?_)
set_option maxHeartbeats 8000000 in
set_option maxRecDepth 100000 in
theorem flailref04_Value.calls (k : Nat) (a0 : ByteArray) (a1 : Bool) (r : Int) (w : World) (h : flailref04_Value.f k a0 a1 = some r) :
    Calls Tryd.prog 50 #[.string a0, .bool a1] w fun e w' => e = .returned (.int .i64 r) ∧ Drawn0 w w' := by
  have H : (if a1 = true then (flailref04_Value.j0 k a0 16) else (flailref04_Value.j0 k a0 10)) = some r := h
  clear h
  have HC3 := Aside0.mk H
  clear H
  go_enter Tryd.func50, Tryd.ntmps50
  go_upto_if 9 with (fail)
  go_cut [5] (fun v5 wc => ∃ (kq : Nat) (x5_2 : Int), v5 = .int .i64 x5_2 ∧ Aside0 (flailref04_Value.j0 kq a0 x5_2 = some r) ∧ Aside0 (kq ≤ k) ∧ Drawn0 w wc)
  case first =>
    have H := HC3.out
    clear HC3
    by_cases c4 : a1 = true
    · subst c4
      have H1 : (flailref04_Value.j0 k a0 16) = some r := by rw [if_pos rfl] at H; exact H
      clear H
      have H := H1
      clear H1
      have H' := Aside0.mk H
      clear H
      go_wp2
      go_meet
      case rel => exact ⟨_, (16), (by first | rfl | (simp; done) | (simp [*]; done)), H', ⟨by first | omega | exact Nat.le_refl _⟩, by repeat (first | exact Drawn0.refl _ | apply Drawn0.step)⟩
    · replace c4 := Bool.eq_false_iff.mpr c4
      subst c4
      have H1 : (flailref04_Value.j0 k a0 10) = some r := by rw [if_neg (show ¬ (false = true) by decide)] at H; exact H
      clear H
      have H := H1
      clear H1
      have H' := Aside0.mk H
      clear H
      go_wp2
      go_meet
      case rel => exact ⟨_, (10), (by first | rfl | (simp; done) | (simp [*]; done)), H', ⟨by first | omega | exact Nat.le_refl _⟩, by repeat (first | exact Drawn0.refl _ | apply Drawn0.step)⟩
  case rest =>
    clear HC3
    try clear p2
    try clear c4
    obtain ⟨kq, x5_2, rfl, HA, HJ2, ⟨mc2, rfl⟩⟩ := hcut
    cases kq with
    | zero => exact absurd HA.out (by simp [flailref04_Value.j0])
    | succ kj2 =>
      have H := HA.out
      clear HA
      simp only [flailref04_Value.j0] at H
      by_cases c5 : (a0.size : Int) = 0
      · rw [if_pos c5] at H
        have c5b0 : ((a0.size : Int) == 0) = true := beq_iff_eq.mpr c5
        have c5b1 : ((a0.size : Int) != 0) = false := bne_eq_false_iff_eq.mpr c5
        clear c5
        obtain rfl := Option.some.inj H
        go_wp2
        go_ret
        exact ⟨by first | rfl | (simp; done) | (simp [*]; done), by repeat (first | exact Drawn0.refl _ | apply Drawn0.step)⟩
      · rw [if_neg c5] at H
        have c5b0 : ((a0.size : Int) == 0) = false := beq_eq_false_iff_ne.mpr c5
        have c5b1 : ((a0.size : Int) != 0) = true := bne_iff_ne.mpr c5
        have H' := Aside0.mk H
        clear H
        go_wp2
        go_loopg [6, 7] kj2 (fun kq v6 v7 w' => ∃ (x6_2 : Int) (x7_2 : Int), v6 = .int .i64 x6_2 ∧ v7 = .int .i64 x7_2 ∧ Aside0 (flailref04_Value.l0 kq a0 x5_2 x6_2 x7_2 = some r) ∧ Aside0 (kq ≤ kj2) ∧ Drawn0 w w')
        case atStart => exact ⟨(0), (0), (by first | rfl | (simp; done) | (simp [*]; done)), (by first | rfl | (simp; done) | (simp [*]; done)), H', ⟨Nat.le_refl _⟩, by repeat (first | exact Drawn0.refl _ | apply Drawn0.step)⟩
        case round =>
          clear H'
          try clear c2
          try clear p2
          try clear c4
          try clear c5
          try clear c5b0
          try clear c5b1
          try clear p2
          obtain ⟨x6_2, x7_2, rfl, rfl, HA, HK2, ⟨m2, rfl⟩⟩ := hrel
          cases gk with
          | zero => exact absurd HA.out (by simp [flailref04_Value.l0])
          | succ k2 =>
            have H := HA.out
            clear HA
            simp only [flailref04_Value.l0] at H
            by_cases c6 : x7_2 < (a0.size : Int)
            · rw [if_pos c6] at H
              have c6b0 : decide (x7_2 < (a0.size : Int)) = true := decide_eq_true c6
              clear c6
              by_cases c7 : 0 ≤ x7_2
              · rw [if_pos c7] at H
                have c7b0 : decide (0 ≤ x7_2) = true := decide_eq_true c7
                clear c7
                replace H := Option.bind_eq_some_iff.mp H
                obtain ⟨t101, A90, H⟩ := H
                replace H : (if t101 < 0 then (flailref04_Value.j2 k2 a0 x5_2 x6_2 x7_2 t101 true) else (flailref04_Value.j2 k2 a0 x5_2 x6_2 x7_2 t101 (decide (t101 ≥ x5_2)))) = some r := H
                have A9 := Aside0.mk A90
                clear A90
                have HC10 := Aside0.mk H
                clear H
                have p8 : 0 ≤ (x7_2 : Int) := of_decide_eq_true (by first | (with_reducible assumption) | assumption)
                have q8 : x7_2 < (a0.size : Int) := of_decide_eq_true (by first | (with_reducible assumption) | assumption)
                have hx8 := bt_at a0 x7_2
                replace p8 := eq_true p8
                replace q8 := eq_true q8
                go_upto_region 11 with (first | ((with_reducible refine gate_callee (f := 49) rfl ?_); refine goesL_ (some 22) rfl rfl Tryd.func49 (by kernel_rfl) rfl #[.int .u8 (bt a0 x7_2)] rfl (by (try simp only [List.map_toArray, List.map_cons, List.map_nil]); first | done | rfl | (simp only [List.length_drop, List.length_take]; rfl)) ?_; (with_reducible refine (flailref03_Hex.calls k2 (bt a0 x7_2) t101 _ A9.out).mono ?_); rintro e w' ⟨rfl, ⟨nd, rfl⟩⟩; refine ⟨_, rfl, ?_⟩))
                (try simp only [Act.put, List.setIfInBounds_toArray, List.set_cons_zero, List.set_cons_succ])
                go_cut [29] (fun v29 wc => ∃ (kq : Nat) (x29_9 : Bool), v29 = .bool x29_9 ∧ Aside0 (flailref04_Value.j2 kq a0 x5_2 x6_2 x7_2 t101 x29_9 = some r) ∧ Aside0 (kq ≤ k2) ∧ Drawn0 w wc)
                case first =>
                  have H := HC10.out
                  clear HC10
                  by_cases c11 : t101 < 0
                  · rw [if_pos c11] at H
                    have c11b0 : decide (t101 < 0) = true := decide_eq_true c11
                    clear c11
                    (first | rw [c11b0] | (simp only [i64_w, i32_w]; rw [c11b0]) | skip)
                    have H' := Aside0.mk H
                    clear H
                    go_wp2
                    go_meet
                    case rel => exact ⟨_, (true), (by first | rfl | (simp; done) | (simp [*]; done)), H', ⟨by have := HJ2.out; have := HK2.out; first | omega | exact Nat.le_refl _⟩, by repeat (first | exact Drawn0.refl _ | apply Drawn0.step)⟩
                  · rw [if_neg c11] at H
                    have c11b0 : decide (t101 < 0) = false := decide_eq_false c11
                    clear c11
                    (first | rw [c11b0] | (simp only [i64_w, i32_w]; rw [c11b0]) | skip)
                    have H' := Aside0.mk H
                    clear H
                    go_wp2
                    go_meet
                    case rel => exact ⟨_, (decide (t101 ≥ x5_2)), (by first | rfl | (simp; done) | (simp [*]; done)), H', ⟨by have := HJ2.out; have := HK2.out; first | omega | exact Nat.le_refl _⟩, by repeat (first | exact Drawn0.refl _ | apply Drawn0.step)⟩
                case rest =>
                  clear HC10
                  try clear c1
                  try clear c2
                  try clear p2
                  try clear c4
                  try clear c5
                  try clear c5b0
                  try clear c5b1
                  try clear c6
                  try clear c6b0
                  try clear c7
                  try clear c7b0
                  try clear p8
                  try clear q8
                  try clear hx8
                  try clear c11
                  try clear c11b0
                  try clear p2
                  try clear p8
                  try clear q8
                  obtain ⟨kq, x29_9, rfl, HA, HJ9, ⟨mc9, rfl⟩⟩ := hcut
                  cases kq with
                  | zero => exact absurd HA.out (by simp [flailref04_Value.j2])
                  | succ kj9 =>
                    have H := HA.out
                    clear HA
                    simp only [flailref04_Value.j2] at H
                    by_cases c12 : x29_9 = true
                    · subst c12
                      have H1 : (some (-1)) = some r := by rw [if_pos rfl] at H; exact H
                      clear H
                      have H := H1
                      clear H1
                      obtain rfl := Option.some.inj H
                      go_wp2
                      go_ret
                      exact ⟨by first | rfl | (simp; done) | (simp [*]; done), by repeat (first | exact Drawn0.refl _ | apply Drawn0.step)⟩
                    · replace c12 := Bool.eq_false_iff.mpr c12
                      subst c12
                      have H1 : (if (wrap64 ((wrap64 (x6_2 * x5_2)) + t101)) > 1114112 then (flailref04_Value.l0 kj9 a0 x5_2 1114112 (wrap64 (x7_2 + 1))) else (flailref04_Value.l0 kj9 a0 x5_2 (wrap64 ((wrap64 (x6_2 * x5_2)) + t101)) (wrap64 (x7_2 + 1)))) = some r := by rw [if_neg (show ¬ (false = true) by decide)] at H; exact H
                      clear H
                      have H := H1
                      clear H1
                      by_cases c13 : (wrap64 ((wrap64 (x6_2 * x5_2)) + t101)) > 1114112
                      · rw [if_pos c13] at H
                        have c13b0 : decide (1114112 < (wrap64 ((wrap64 (x6_2 * x5_2)) + t101))) = true := decide_eq_true c13
                        clear c13
                        have H' := Aside0.mk H
                        clear H
                        go_wp2
                        go_roundg kj9
                        case measure => have := HJ2.out; have := HK2.out; have := HJ9.out; omega
                        case rel => exact ⟨(1114112), (wrap64 (x7_2 + 1)), (by first | rfl | (simp; done) | (simp [*]; done)), (by first | rfl | (simp; done) | (simp [*]; done)), H', ⟨by have := HJ2.out; have := HK2.out; have := HJ9.out; omega⟩, by repeat (first | exact Drawn0.refl _ | apply Drawn0.step)⟩
                      · rw [if_neg c13] at H
                        have c13b0 : decide (1114112 < (wrap64 ((wrap64 (x6_2 * x5_2)) + t101))) = false := decide_eq_false c13
                        clear c13
                        have H' := Aside0.mk H
                        clear H
                        go_wp2
                        go_roundg kj9
                        case measure => have := HJ2.out; have := HK2.out; have := HJ9.out; omega
                        case rel => exact ⟨(wrap64 ((wrap64 (x6_2 * x5_2)) + t101)), (wrap64 (x7_2 + 1)), (by first | rfl | (simp; done) | (simp [*]; done)), (by first | rfl | (simp; done) | (simp [*]; done)), H', ⟨by have := HJ2.out; have := HK2.out; have := HJ9.out; omega⟩, by repeat (first | exact Drawn0.refl _ | apply Drawn0.step)⟩
              · rw [if_neg c7] at H
                exact absurd H (by simp)
            · rw [if_neg c6] at H
              have c6b0 : decide (x7_2 < (a0.size : Int)) = false := decide_eq_false c6
              clear c6
              obtain rfl := Option.some.inj H
              go_wp2
              go_ret
              exact ⟨by first | rfl | (simp; done) | (simp [*]; done), by repeat (first | exact Drawn0.refl _ | apply Drawn0.step)⟩

/-! ### flailref01_Sign: function 53 -/
def flailref01_Sign.j0 : Nat → Int → Bool → Option (ByteArray)
  | 0, _, _ => none
  | k + 1, x0, x3 => if x3 = true then (some (⟨#[239, 191, 189]⟩ : ByteArray)) else (if x0 < 128 then (some (strOfNums (([(x0) % 256] : List Int)))) else (if x0 < 2048 then (some (strOfNums (([(wrap64 (192 + (wrap64 (Int.tdiv x0 64)))) % 256, (wrap64 (128 + (Int.tmod x0 64))) % 256] : List Int)))) else (if x0 < 65536 then (some (strOfNums (([(wrap64 (224 + (wrap64 (Int.tdiv x0 4096)))) % 256, (wrap64 (128 + (Int.tmod (wrap64 (Int.tdiv x0 64)) 64))) % 256, (wrap64 (128 + (Int.tmod x0 64))) % 256] : List Int)))) else (some (strOfNums (([(wrap64 (240 + (wrap64 (Int.tdiv x0 262144)))) % 256, (wrap64 (128 + (Int.tmod (wrap64 (Int.tdiv x0 4096)) 64))) % 256, (wrap64 (128 + (Int.tmod (wrap64 (Int.tdiv x0 64)) 64))) % 256, (wrap64 (128 + (Int.tmod x0 64))) % 256] : List Int)))))))
def flailref01_Sign.f (k : Nat) (a0 : Int) : Option (ByteArray) := if a0 < 0 then (flailref01_Sign.j0 k a0 true) else (if a0 > 1114111 then (flailref01_Sign.j0 k a0 true) else (if a0 ≥ 55296 then (flailref01_Sign.j0 k a0 (decide (a0 ≤ 57343))) else (flailref01_Sign.j0 k a0 false)))
theorem flailref01_Sign.mono_l : ∀ k, (∀ y0 y1, LeO (flailref01_Sign.j0 k y0 y1) (flailref01_Sign.j0 (k + 1) y0 y1))
  | 0 => fun _ _ r h => by simp [flailref01_Sign.j0] at h
  | k + 1 => by
    have ih0 := flailref01_Sign.mono_l k
    · intro y0 y1
      unfold flailref01_Sign.j0
      repeat' first
      | (with_reducible exact ih0 _ _)
      | (with_reducible exact LeO.refl _)
      | (with_reducible exact LeO.none _)
      | (with_reducible refine LeO.ite ?_ ?_)
      | (with_reducible refine LeO.bind ?_ (fun _ => ?_))
      | exact ih0 _ _
      | exact LeO.none _
      | refine LeO.ite ?_ ?_
      | refine LeO.bind ?_ (fun _ => ?_)
theorem flailref01_Sign.mono : ∀ a0 k, LeO (flailref01_Sign.f k a0) (flailref01_Sign.f (k + 1) a0) := by
  intro a0 k
  have ih0 := flailref01_Sign.mono_l k
  unfold flailref01_Sign.f
  repeat' first
      | (with_reducible exact ih0 _ _)
      | (with_reducible exact LeO.refl _)
      | (with_reducible exact LeO.none _)
      | (with_reducible refine LeO.ite ?_ ?_)
      | (with_reducible refine LeO.bind ?_ (fun _ => ?_))
      | exact ih0 _ _
      | exact LeO.none _
      | refine LeO.ite ?_ ?_
      | refine LeO.bind ?_ (fun _ => ?_)
set_option maxHeartbeats 8000000 in
set_option maxRecDepth 100000 in
theorem flailref01_Sign.calls (k : Nat) (a0 : Int) (r : ByteArray) (w : World) (h : flailref01_Sign.f k a0 = some r) :
    Calls Tryd.prog 53 #[.int .i64 a0] w fun e w' => e = .returned (.string r) ∧ Below w.heap.size w w' := by
  have HB := Aside0.mk (Below.refl w.heap.size w)
  have H : (if a0 < 0 then (flailref01_Sign.j0 k a0 true) else (if a0 > 1114111 then (flailref01_Sign.j0 k a0 true) else (if a0 ≥ 55296 then (flailref01_Sign.j0 k a0 (decide (a0 ≤ 57343))) else (flailref01_Sign.j0 k a0 false)))) = some r := h
  clear h
  have HC2 := Aside0.mk H
  clear H
  go_enter Tryd.func53, Tryd.ntmps53
  go_upto_region 1 with (fail)
  go_cut [3] (fun v3 wc => ∃ (kq : Nat) (x3_1 : Bool), v3 = .bool x3_1 ∧ Aside0 (flailref01_Sign.j0 kq a0 x3_1 = some r) ∧ Aside0 (kq ≤ k) ∧ Aside0 (Below w.heap.size w wc))
  case first =>
    have H := HC2.out
    clear HC2
    by_cases c3 : a0 < 0
    · rw [if_pos c3] at H
      have c3b0 : decide (a0 < 0) = true := decide_eq_true c3
      clear c3
      (first | rw [c3b0] | (simp only [i64_w, i32_w]; rw [c3b0]) | skip)
      have H' := Aside0.mk H
      clear H
      go_wp2
      go_meet
      case rel => exact ⟨_, (true), (by first | rfl | (simp; done) | (simp [*]; done)), H', ⟨by first | omega | exact Nat.le_refl _⟩, ⟨by repeat (first | (with_reducible first | exact HB.out | apply below_alloc | apply pw_below_drewN | apply below_drew1) | exact HB.out)⟩⟩
    · rw [if_neg c3] at H
      have c3b0 : decide (a0 < 0) = false := decide_eq_false c3
      clear c3
      (first | rw [c3b0] | (simp only [i64_w, i32_w]; rw [c3b0]) | skip)
      by_cases c4 : a0 > 1114111
      · rw [if_pos c4] at H
        have c4b0 : decide (1114111 < a0) = true := decide_eq_true c4
        clear c4
        have H' := Aside0.mk H
        clear H
        go_wp2
        go_meet
        case rel => exact ⟨_, (true), (by first | rfl | (simp; done) | (simp [*]; done)), H', ⟨by first | omega | exact Nat.le_refl _⟩, ⟨by repeat (first | (with_reducible first | exact HB.out | apply below_alloc | apply pw_below_drewN | apply below_drew1) | exact HB.out)⟩⟩
      · rw [if_neg c4] at H
        have c4b0 : decide (1114111 < a0) = false := decide_eq_false c4
        clear c4
        by_cases c5 : a0 ≥ 55296
        · rw [if_pos c5] at H
          have c5b0 : decide (55296 ≤ a0) = true := decide_eq_true c5
          clear c5
          have H' := Aside0.mk H
          clear H
          go_wp2
          go_meet
          case rel => exact ⟨_, (decide (a0 ≤ 57343)), (by first | rfl | (simp; done) | (simp [*]; done)), H', ⟨by first | omega | exact Nat.le_refl _⟩, ⟨by repeat (first | (with_reducible first | exact HB.out | apply below_alloc | apply pw_below_drewN | apply below_drew1) | exact HB.out)⟩⟩
        · rw [if_neg c5] at H
          have c5b0 : decide (55296 ≤ a0) = false := decide_eq_false c5
          clear c5
          have H' := Aside0.mk H
          clear H
          go_wp2
          go_meet
          case rel => exact ⟨_, (false), (by first | rfl | (simp; done) | (simp [*]; done)), H', ⟨by first | omega | exact Nat.le_refl _⟩, ⟨by repeat (first | (with_reducible first | exact HB.out | apply below_alloc | apply pw_below_drewN | apply below_drew1) | exact HB.out)⟩⟩
  case rest =>
    clear HC2
    try clear p2
    try clear c3
    try clear c3b0
    try clear c4
    try clear c4b0
    try clear c5
    try clear c5b0
    obtain ⟨kq, x3_1, rfl, HA, HJ1, HB⟩ := hcut
    cases kq with
    | zero => exact absurd HA.out (by simp [flailref01_Sign.j0])
    | succ kj1 =>
      have H := HA.out
      clear HA
      simp only [flailref01_Sign.j0] at H
      by_cases c6 : x3_1 = true
      · subst c6
        have H1 : (some (⟨#[239, 191, 189]⟩ : ByteArray)) = some r := by rw [if_pos rfl] at H; exact H
        clear H
        have H := H1
        clear H1
        obtain rfl := Option.some.inj H
        go_wp2
        go_ret
        exact ⟨by first | rfl | (simp [errW_none, errW_some] <;> rfl) | (simp [*, errW_none, errW_some] <;> rfl), by repeat (first | (with_reducible first | exact HB.out | apply below_alloc | apply pw_below_drewN | apply below_drew1) | exact HB.out)⟩
      · replace c6 := Bool.eq_false_iff.mpr c6
        subst c6
        have H1 : (if a0 < 128 then (some (strOfNums (([(a0) % 256] : List Int)))) else (if a0 < 2048 then (some (strOfNums (([(wrap64 (192 + (wrap64 (Int.tdiv a0 64)))) % 256, (wrap64 (128 + (Int.tmod a0 64))) % 256] : List Int)))) else (if a0 < 65536 then (some (strOfNums (([(wrap64 (224 + (wrap64 (Int.tdiv a0 4096)))) % 256, (wrap64 (128 + (Int.tmod (wrap64 (Int.tdiv a0 64)) 64))) % 256, (wrap64 (128 + (Int.tmod a0 64))) % 256] : List Int)))) else (some (strOfNums (([(wrap64 (240 + (wrap64 (Int.tdiv a0 262144)))) % 256, (wrap64 (128 + (Int.tmod (wrap64 (Int.tdiv a0 4096)) 64))) % 256, (wrap64 (128 + (Int.tmod (wrap64 (Int.tdiv a0 64)) 64))) % 256, (wrap64 (128 + (Int.tmod a0 64))) % 256] : List Int))))))) = some r := by rw [if_neg (show ¬ (false = true) by decide)] at H; exact H
        clear H
        have H := H1
        clear H1
        by_cases c7 : a0 < 128
        · rw [if_pos c7] at H
          have c7b0 : decide (a0 < 128) = true := decide_eq_true c7
          clear c7
          obtain ⟨y102, hy102⟩ : ∃ y_ : List Int, y_ = (([(a0) % 256] : List Int)) := ⟨_, rfl⟩
          replace H : (some (strOfNums y102)) = some r := by first | (rw [hy102]; with_reducible exact H) | (have H2_ := (Option.bind_some _ _).symm.trans H; rw [hy102]; with_reducible exact H2_) | (have H2_ := (Option.bind_some _ _).symm.trans H; with_reducible exact H2_) | with_reducible exact H | (rw [hy102]; exact H) | exact H
          have Ny102 := Aside0.mk hy102
          clear hy102
          obtain rfl := Option.some.inj H
          go_wp2_with (first | ((with_reducible refine gate_dst (N := 23) rfl ?_); refine Kd.R_lit (Kd.int .u8) _ 5 ?hg (N := 23) ?hd (xs := ([(a0) % 256] : List Int)) (inner := [.int .u8 ((a0) % 256)]) (ok := fun _ => True) (okp := fun _ => True) ?hr ?hp (fun _ hk => hk) trivial (Below.refl _ _) (Nat.le_refl _) (by simp) ?_; (case hd => rfl); (case hg => rfl); (case hr => first | (go_simp; done) | (go_simp; rfl)); (case hp => exact (Reps.one (show Kd.M (Kd.int .u8) _ _ _ ((a0) % 256) [.int .u8 ((a0) % 256)] from rfl) (Reps.none _ _))); intro v103 w8 ho9 hb hg_ hnew_; clear hg_ hnew_; (first | rw [← Ny102.out] at ho9 | (simp only [Int.reduceToNat] at ho9; rw [← Ny102.out] at ho9)); have n0_ := Aside0.mk (Kd.R_lower ho9 (below_size (by repeat (first | (with_reducible first | exact HB.out | apply below_alloc | apply pw_below_drewN | apply below_drew1) | exact HB.out)))); have n1_ := Aside0.mk (below_step (by repeat (first | (with_reducible first | exact HB.out | apply below_alloc | apply pw_below_drewN | apply below_drew1) | exact HB.out)) hb); clear HB; have HO104 := n0_; have HB := n1_; clear n0_ n1_; clear hb ho9; have hcv10 := own_string (P := Tryd.prog) Tryd.underlying38 Tryd.underlying5 Tryd.underlying9 (Kd.own_of_R HO104.out)))
          go_ret
          exact ⟨by first | rfl | (simp [errW_none, errW_some] <;> rfl) | (simp [*, errW_none, errW_some] <;> rfl), by repeat (first | (with_reducible first | exact HB.out | apply below_alloc | apply pw_below_drewN | apply below_drew1) | exact HB.out)⟩
        · rw [if_neg c7] at H
          have c7b0 : decide (a0 < 128) = false := decide_eq_false c7
          clear c7
          by_cases c11 : a0 < 2048
          · rw [if_pos c11] at H
            have c11b0 : decide (a0 < 2048) = true := decide_eq_true c11
            clear c11
            obtain ⟨y105, hy105⟩ : ∃ y_ : List Int, y_ = (([(wrap64 (192 + (wrap64 (Int.tdiv a0 64)))) % 256, (wrap64 (128 + (Int.tmod a0 64))) % 256] : List Int)) := ⟨_, rfl⟩
            replace H : (some (strOfNums y105)) = some r := by first | (rw [hy105]; with_reducible exact H) | (have H2_ := (Option.bind_some _ _).symm.trans H; rw [hy105]; with_reducible exact H2_) | (have H2_ := (Option.bind_some _ _).symm.trans H; with_reducible exact H2_) | with_reducible exact H | (rw [hy105]; exact H) | exact H
            have Ny105 := Aside0.mk hy105
            clear hy105
            obtain rfl := Option.some.inj H
            go_wp2_with (first | ((with_reducible refine gate_dst (N := 36) rfl ?_); refine Kd.R_lit (Kd.int .u8) _ 5 ?hg (N := 36) ?hd (xs := ([(wrap64 (192 + (wrap64 (Int.tdiv a0 64)))) % 256, (wrap64 (128 + (Int.tmod a0 64))) % 256] : List Int)) (inner := [.int .u8 ((wrap64 (192 + (wrap64 (Int.tdiv a0 64)))) % 256), .int .u8 ((wrap64 (128 + (Int.tmod a0 64))) % 256)]) (ok := fun _ => True) (okp := fun _ => True) ?hr ?hp (fun _ hk => hk) trivial (Below.refl _ _) (Nat.le_refl _) (by simp) ?_; (case hd => rfl); (case hg => rfl); (case hr => first | (go_simp; done) | (go_simp; rfl)); (case hp => exact (Reps.one (show Kd.M (Kd.int .u8) _ _ _ ((wrap64 (192 + (wrap64 (Int.tdiv a0 64)))) % 256) [.int .u8 ((wrap64 (192 + (wrap64 (Int.tdiv a0 64)))) % 256)] from rfl) (Reps.one (show Kd.M (Kd.int .u8) _ _ _ ((wrap64 (128 + (Int.tmod a0 64))) % 256) [.int .u8 ((wrap64 (128 + (Int.tmod a0 64))) % 256)] from rfl) (Reps.none _ _)))); intro v106 w12 ho13 hb hg_ hnew_; clear hg_ hnew_; (first | rw [← Ny105.out] at ho13 | (simp only [Int.reduceToNat] at ho13; rw [← Ny105.out] at ho13)); have n0_ := Aside0.mk (Kd.R_lower ho13 (below_size (by repeat (first | (with_reducible first | exact HB.out | apply below_alloc | apply pw_below_drewN | apply below_drew1) | exact HB.out)))); have n1_ := Aside0.mk (below_step (by repeat (first | (with_reducible first | exact HB.out | apply below_alloc | apply pw_below_drewN | apply below_drew1) | exact HB.out)) hb); clear HB; have HO107 := n0_; have HB := n1_; clear n0_ n1_; clear hb ho13; have hcv14 := own_string (P := Tryd.prog) Tryd.underlying38 Tryd.underlying5 Tryd.underlying9 (Kd.own_of_R HO107.out)))
            go_ret
            exact ⟨by first | rfl | (simp [errW_none, errW_some] <;> rfl) | (simp [*, errW_none, errW_some] <;> rfl), by repeat (first | (with_reducible first | exact HB.out | apply below_alloc | apply pw_below_drewN | apply below_drew1) | exact HB.out)⟩
          · rw [if_neg c11] at H
            have c11b0 : decide (a0 < 2048) = false := decide_eq_false c11
            clear c11
            by_cases c15 : a0 < 65536
            · rw [if_pos c15] at H
              have c15b0 : decide (a0 < 65536) = true := decide_eq_true c15
              clear c15
              obtain ⟨y108, hy108⟩ : ∃ y_ : List Int, y_ = (([(wrap64 (224 + (wrap64 (Int.tdiv a0 4096)))) % 256, (wrap64 (128 + (Int.tmod (wrap64 (Int.tdiv a0 64)) 64))) % 256, (wrap64 (128 + (Int.tmod a0 64))) % 256] : List Int)) := ⟨_, rfl⟩
              replace H : (some (strOfNums y108)) = some r := by first | (rw [hy108]; with_reducible exact H) | (have H2_ := (Option.bind_some _ _).symm.trans H; rw [hy108]; with_reducible exact H2_) | (have H2_ := (Option.bind_some _ _).symm.trans H; with_reducible exact H2_) | with_reducible exact H | (rw [hy108]; exact H) | exact H
              have Ny108 := Aside0.mk hy108
              clear hy108
              obtain rfl := Option.some.inj H
              go_wp2_with (first | ((with_reducible refine gate_dst (N := 54) rfl ?_); refine Kd.R_lit (Kd.int .u8) _ 5 ?hg (N := 54) ?hd (xs := ([(wrap64 (224 + (wrap64 (Int.tdiv a0 4096)))) % 256, (wrap64 (128 + (Int.tmod (wrap64 (Int.tdiv a0 64)) 64))) % 256, (wrap64 (128 + (Int.tmod a0 64))) % 256] : List Int)) (inner := [.int .u8 ((wrap64 (224 + (wrap64 (Int.tdiv a0 4096)))) % 256), .int .u8 ((wrap64 (128 + (Int.tmod (wrap64 (Int.tdiv a0 64)) 64))) % 256), .int .u8 ((wrap64 (128 + (Int.tmod a0 64))) % 256)]) (ok := fun _ => True) (okp := fun _ => True) ?hr ?hp (fun _ hk => hk) trivial (Below.refl _ _) (Nat.le_refl _) (by simp) ?_; (case hd => rfl); (case hg => rfl); (case hr => first | (go_simp; done) | (go_simp; rfl)); (case hp => exact (Reps.one (show Kd.M (Kd.int .u8) _ _ _ ((wrap64 (224 + (wrap64 (Int.tdiv a0 4096)))) % 256) [.int .u8 ((wrap64 (224 + (wrap64 (Int.tdiv a0 4096)))) % 256)] from rfl) (Reps.one (show Kd.M (Kd.int .u8) _ _ _ ((wrap64 (128 + (Int.tmod (wrap64 (Int.tdiv a0 64)) 64))) % 256) [.int .u8 ((wrap64 (128 + (Int.tmod (wrap64 (Int.tdiv a0 64)) 64))) % 256)] from rfl) (Reps.one (show Kd.M (Kd.int .u8) _ _ _ ((wrap64 (128 + (Int.tmod a0 64))) % 256) [.int .u8 ((wrap64 (128 + (Int.tmod a0 64))) % 256)] from rfl) (Reps.none _ _))))); intro v109 w16 ho17 hb hg_ hnew_; clear hg_ hnew_; (first | rw [← Ny108.out] at ho17 | (simp only [Int.reduceToNat] at ho17; rw [← Ny108.out] at ho17)); have n0_ := Aside0.mk (Kd.R_lower ho17 (below_size (by repeat (first | (with_reducible first | exact HB.out | apply below_alloc | apply pw_below_drewN | apply below_drew1) | exact HB.out)))); have n1_ := Aside0.mk (below_step (by repeat (first | (with_reducible first | exact HB.out | apply below_alloc | apply pw_below_drewN | apply below_drew1) | exact HB.out)) hb); clear HB; have HO110 := n0_; have HB := n1_; clear n0_ n1_; clear hb ho17; have hcv18 := own_string (P := Tryd.prog) Tryd.underlying38 Tryd.underlying5 Tryd.underlying9 (Kd.own_of_R HO110.out)))
              go_ret
              exact ⟨by first | rfl | (simp [errW_none, errW_some] <;> rfl) | (simp [*, errW_none, errW_some] <;> rfl), by repeat (first | (with_reducible first | exact HB.out | apply below_alloc | apply pw_below_drewN | apply below_drew1) | exact HB.out)⟩
            · rw [if_neg c15] at H
              have c15b0 : decide (a0 < 65536) = false := decide_eq_false c15
              clear c15
              obtain ⟨y111, hy111⟩ : ∃ y_ : List Int, y_ = (([(wrap64 (240 + (wrap64 (Int.tdiv a0 262144)))) % 256, (wrap64 (128 + (Int.tmod (wrap64 (Int.tdiv a0 4096)) 64))) % 256, (wrap64 (128 + (Int.tmod (wrap64 (Int.tdiv a0 64)) 64))) % 256, (wrap64 (128 + (Int.tmod a0 64))) % 256] : List Int)) := ⟨_, rfl⟩
              replace H : (some (strOfNums y111)) = some r := by first | (rw [hy111]; with_reducible exact H) | (have H2_ := (Option.bind_some _ _).symm.trans H; rw [hy111]; with_reducible exact H2_) | (have H2_ := (Option.bind_some _ _).symm.trans H; with_reducible exact H2_) | with_reducible exact H | (rw [hy111]; exact H) | exact H
              have Ny111 := Aside0.mk hy111
              clear hy111
              obtain rfl := Option.some.inj H
              go_wp2_with (first | ((with_reducible refine gate_dst (N := 74) rfl ?_); refine Kd.R_lit (Kd.int .u8) _ 5 ?hg (N := 74) ?hd (xs := ([(wrap64 (240 + (wrap64 (Int.tdiv a0 262144)))) % 256, (wrap64 (128 + (Int.tmod (wrap64 (Int.tdiv a0 4096)) 64))) % 256, (wrap64 (128 + (Int.tmod (wrap64 (Int.tdiv a0 64)) 64))) % 256, (wrap64 (128 + (Int.tmod a0 64))) % 256] : List Int)) (inner := [.int .u8 ((wrap64 (240 + (wrap64 (Int.tdiv a0 262144)))) % 256), .int .u8 ((wrap64 (128 + (Int.tmod (wrap64 (Int.tdiv a0 4096)) 64))) % 256), .int .u8 ((wrap64 (128 + (Int.tmod (wrap64 (Int.tdiv a0 64)) 64))) % 256), .int .u8 ((wrap64 (128 + (Int.tmod a0 64))) % 256)]) (ok := fun _ => True) (okp := fun _ => True) ?hr ?hp (fun _ hk => hk) trivial (Below.refl _ _) (Nat.le_refl _) (by simp) ?_; (case hd => rfl); (case hg => rfl); (case hr => first | (go_simp; done) | (go_simp; rfl)); (case hp => exact (Reps.one (show Kd.M (Kd.int .u8) _ _ _ ((wrap64 (240 + (wrap64 (Int.tdiv a0 262144)))) % 256) [.int .u8 ((wrap64 (240 + (wrap64 (Int.tdiv a0 262144)))) % 256)] from rfl) (Reps.one (show Kd.M (Kd.int .u8) _ _ _ ((wrap64 (128 + (Int.tmod (wrap64 (Int.tdiv a0 4096)) 64))) % 256) [.int .u8 ((wrap64 (128 + (Int.tmod (wrap64 (Int.tdiv a0 4096)) 64))) % 256)] from rfl) (Reps.one (show Kd.M (Kd.int .u8) _ _ _ ((wrap64 (128 + (Int.tmod (wrap64 (Int.tdiv a0 64)) 64))) % 256) [.int .u8 ((wrap64 (128 + (Int.tmod (wrap64 (Int.tdiv a0 64)) 64))) % 256)] from rfl) (Reps.one (show Kd.M (Kd.int .u8) _ _ _ ((wrap64 (128 + (Int.tmod a0 64))) % 256) [.int .u8 ((wrap64 (128 + (Int.tmod a0 64))) % 256)] from rfl) (Reps.none _ _)))))); intro v112 w19 ho20 hb hg_ hnew_; clear hg_ hnew_; (first | rw [← Ny111.out] at ho20 | (simp only [Int.reduceToNat] at ho20; rw [← Ny111.out] at ho20)); have n0_ := Aside0.mk (Kd.R_lower ho20 (below_size (by repeat (first | (with_reducible first | exact HB.out | apply below_alloc | apply pw_below_drewN | apply below_drew1) | exact HB.out)))); have n1_ := Aside0.mk (below_step (by repeat (first | (with_reducible first | exact HB.out | apply below_alloc | apply pw_below_drewN | apply below_drew1) | exact HB.out)) hb); clear HB; have HO113 := n0_; have HB := n1_; clear n0_ n1_; clear hb ho20; have hcv21 := own_string (P := Tryd.prog) Tryd.underlying38 Tryd.underlying5 Tryd.underlying9 (Kd.own_of_R HO113.out)))
              go_ret
              exact ⟨by first | rfl | (simp [errW_none, errW_some] <;> rfl) | (simp [*, errW_none, errW_some] <;> rfl), by repeat (first | (with_reducible first | exact HB.out | apply below_alloc | apply pw_below_drewN | apply below_drew1) | exact HB.out)⟩

end Go.Proofs.YtdheknlnhfegnaaDoor.Sr
