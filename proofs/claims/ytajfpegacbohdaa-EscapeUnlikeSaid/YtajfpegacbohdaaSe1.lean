-- Written by a program of this session over the kit's printer: not by hand.
import Derived.Test.YtajfpegacbohdaaSe0
namespace Go.Proofs.Ytajfpegacbohdaa.Se
open Go.RowKit Go.Proofs.Ytajfpegacbohdaa.K0  Go.Proofs.YtajfpegacbohdaaW.PrintWords Go.Proofs.YtajfpegacbohdaaW.PrintLast Go.Proofs.YtajfpegacbohdaaW.PrintMore
attribute [local go_sem] max2_int min2_int max_two min_two max_three min_three max_four min_four   -- for this text's walks alone
set_option linter.unusedVariables false
set_option linter.unusedSimpArgs false

/-! ### flailref01_Begins: function 13 -/
def flailref01_Begins.f (a0 : ByteArray) (a1 : ByteArray) : Option (Bool) := if (a0.size : Int) < (a1.size : Int) then (some false) else (if 0 ≤ (a1.size : Int) then (if (a1.size : Int) ≤ (a0.size : Int) then (some ((a0.extract 0 ((a1.size : Int) : Int).toNat).toList == a1.toList)) else (none)) else (none))
set_option maxHeartbeats 8000000 in
set_option maxRecDepth 100000 in
theorem flailref01_Begins.calls (a0 : ByteArray) (a1 : ByteArray) (r : Bool) (w : World) (h : flailref01_Begins.f a0 a1 = some r) :
    Calls Try.prog 13 #[.string a0, .string a1] w fun e w' => e = .returned (.bool r) ∧ Drawn0 w w' := by
  have H : (if (a0.size : Int) < (a1.size : Int) then (some false) else (if 0 ≤ (a1.size : Int) then (if (a1.size : Int) ≤ (a0.size : Int) then (some ((a0.extract 0 ((a1.size : Int) : Int).toNat).toList == a1.toList)) else (none)) else (none))) = some r := h
  clear h
  by_cases c3 : (a0.size : Int) < (a1.size : Int)
  · rw [if_pos c3] at H
    have c3b0 : decide ((a0.size : Int) < (a1.size : Int)) = true := decide_eq_true c3
    have c3b1 : decide (a0.size < a1.size) = true := decide_eq_true (Int.ofNat_lt.mp c3)
    clear c3
    obtain rfl := Option.some.inj H
    go_enter Try.func13, Try.ntmps13
    go_wp2
    go_ret
    exact ⟨by first | rfl | (simp; done) | (simp [*]; done), by repeat (first | exact Drawn0.refl _ | apply Drawn0.step)⟩
  · rw [if_neg c3] at H
    have c3b0 : decide ((a0.size : Int) < (a1.size : Int)) = false := decide_eq_false c3
    have c3b1 : decide (a0.size < a1.size) = false := decide_eq_false (fun h => c3 (Int.ofNat_lt.mpr h))
    clear c3
    by_cases c4 : 0 ≤ (a1.size : Int)
    · rw [if_pos c4] at H
      have c4b0 := eq_true c4
      have c4b1 : decide (0 ≤ (a1.size : Int)) = true := decide_eq_true c4
      clear c4
      by_cases c5 : (a1.size : Int) ≤ (a0.size : Int)
      · rw [if_pos c5] at H
        have c5b0 := eq_true c5
        have c5b1 : decide ((a1.size : Int) ≤ (a0.size : Int)) = true := decide_eq_true c5
        clear c5
        obtain rfl := Option.some.inj H
        go_enter Try.func13, Try.ntmps13
        go_wp2
        go_ret
        exact ⟨by first | rfl | (simp; done) | (simp [*]; done), by repeat (first | exact Drawn0.refl _ | apply Drawn0.step)⟩
      · rw [if_neg c5] at H
        exact absurd H (by simp)
    · rw [if_neg c4] at H
      exact absurd H (by simp)

/-! ### flailref21_Encode: function 9 -/
mutual
def flailref21_Encode.j0 : Nat → Int → ByteArray → Bool → Option (ByteArray)
  | 0, _, _, _ => none
  | k + 1, x0, x1, x13 => if x13 = true then (some (⟨#[]⟩ : ByteArray)) else (if x0 = 2 then ((flailref01_Begins.f x1 (⟨#[10]⟩ : ByteArray)).bind fun t101 => (flailref21_Encode.j1 k x1 (⟨#[]⟩ : ByteArray) t101)) else (flailref21_Encode.j1 k x1 (⟨#[]⟩ : ByteArray) false))
def flailref21_Encode.j1 : Nat → ByteArray → ByteArray → Bool → Option (ByteArray)
  | 0, _, _, _ => none
  | k + 1, x1, x5, x19 => if x19 = true then (flailref21_Encode.j2 k x1 (⟨#[10]⟩ : ByteArray)) else (flailref21_Encode.j2 k x1 x5)
def flailref21_Encode.j2 : Nat → ByteArray → ByteArray → Option (ByteArray)
  | 0, _, _ => none
  | k + 1, x1, x5 => flailref21_Encode.l0 k x1 x5 0
def flailref21_Encode.l0 : Nat → ByteArray → ByteArray → Int → Option (ByteArray)
  | 0, _, _, _ => none
  | k + 1, x1, x5, x6 => if x6 < (x1.size : Int) then (if 0 ≤ x6 then (if x6 ≤ (x1.size : Int) then ((flailref01_Begins.f (x1.extract (x6 : Int).toNat x1.size) (⟨#[239, 187, 191]⟩ : ByteArray)).bind fun t102 => (if (bt x1 x6) = 38 then (if x5.size + 5 ≤ 9223372036854775807 then (flailref21_Encode.l0 k x1 (x5 ++ (⟨#[38, 97, 109, 112, 59]⟩ : ByteArray)) (wrap64 (x6 + 1))) else (none)) else (if (bt x1 x6) = 60 then (if x5.size + 4 ≤ 9223372036854775807 then (flailref21_Encode.l0 k x1 (x5 ++ (⟨#[38, 108, 116, 59]⟩ : ByteArray)) (wrap64 (x6 + 1))) else (none)) else (if (bt x1 x6) = 62 then (if x5.size + 4 ≤ 9223372036854775807 then (flailref21_Encode.l0 k x1 (x5 ++ (⟨#[38, 103, 116, 59]⟩ : ByteArray)) (wrap64 (x6 + 1))) else (none)) else (if (bt x1 x6) = 34 then (if x5.size + 6 ≤ 9223372036854775807 then (flailref21_Encode.l0 k x1 (x5 ++ (⟨#[38, 113, 117, 111, 116, 59]⟩ : ByteArray)) (wrap64 (x6 + 1))) else (none)) else (if (bt x1 x6) = 39 then (if x5.size + 5 ≤ 9223372036854775807 then (flailref21_Encode.l0 k x1 (x5 ++ (⟨#[38, 35, 51, 57, 59]⟩ : ByteArray)) (wrap64 (x6 + 1))) else (none)) else (if (bt x1 x6) = 13 then (if x5.size + 5 ≤ 9223372036854775807 then (flailref21_Encode.l0 k x1 (x5 ++ (⟨#[38, 35, 49, 51, 59]⟩ : ByteArray)) (wrap64 (x6 + 1))) else (none)) else (if (bt x1 x6) = 0 then (if x5.size + 3 ≤ 9223372036854775807 then (flailref21_Encode.l0 k x1 (x5 ++ (⟨#[239, 191, 189]⟩ : ByteArray)) (wrap64 (x6 + 1))) else (none)) else (if t102 = true then (if x5.size + 8 ≤ 9223372036854775807 then (flailref21_Encode.l0 k x1 (x5 ++ (⟨#[38, 35, 54, 53, 50, 55, 57, 59]⟩ : ByteArray)) (wrap64 ((wrap64 (x6 + 2)) + 1))) else (none)) else (if x6 ≤ (wrap64 (x6 + 1)) then (if (wrap64 (x6 + 1)) ≤ (x1.size : Int) then (if x5.size + (x1.extract (x6 : Int).toNat ((wrap64 (x6 + 1)) : Int).toNat).size ≤ 9223372036854775807 then (flailref21_Encode.l0 k x1 (x5 ++ (x1.extract (x6 : Int).toNat ((wrap64 (x6 + 1)) : Int).toNat)) (wrap64 (x6 + 1))) else (none)) else (none)) else (none))))))))))) else (none)) else (none)) else (some x5)
end
def flailref21_Encode.f (k : Nat) (a0 : Int) (a1 : ByteArray) : Option (ByteArray) := if a0 < 0 then (flailref21_Encode.j0 k a0 a1 true) else (flailref21_Encode.j0 k a0 a1 (decide (a0 > 2)))
theorem flailref21_Encode.mono_l : ∀ k, (∀ y0 y1 y2, LeO (flailref21_Encode.j0 k y0 y1 y2) (flailref21_Encode.j0 (k + 1) y0 y1 y2)) ∧ (∀ y0 y1 y2, LeO (flailref21_Encode.j1 k y0 y1 y2) (flailref21_Encode.j1 (k + 1) y0 y1 y2)) ∧ (∀ y0 y1, LeO (flailref21_Encode.j2 k y0 y1) (flailref21_Encode.j2 (k + 1) y0 y1)) ∧ (∀ y0 y1 y2, LeO (flailref21_Encode.l0 k y0 y1 y2) (flailref21_Encode.l0 (k + 1) y0 y1 y2))
  | 0 => ⟨fun _ _ _ r h => by simp [flailref21_Encode.j0] at h, fun _ _ _ r h => by simp [flailref21_Encode.j1] at h, fun _ _ r h => by simp [flailref21_Encode.j2] at h, fun _ _ _ r h => by simp [flailref21_Encode.l0] at h⟩
  | k + 1 => by
    obtain ⟨ih0, ih1, ih2, ih3⟩ := flailref21_Encode.mono_l k
    refine ⟨?_, ?_, ?_, ?_⟩
    · intro y0 y1 y2
      unfold flailref21_Encode.j0
      repeat' first
      | (with_reducible exact ih0 _ _ _)
      | (with_reducible exact ih1 _ _ _)
      | (with_reducible exact ih2 _ _)
      | (with_reducible exact ih3 _ _ _)
      | (with_reducible exact LeO.refl _)
      | (with_reducible exact LeO.none _)
      | (with_reducible refine LeO.ite ?_ ?_)
      | (with_reducible refine LeO.bind ?_ (fun _ => ?_))
      | exact ih0 _ _ _
      | exact ih1 _ _ _
      | exact ih2 _ _
      | exact ih3 _ _ _
      | exact LeO.none _
      | refine LeO.ite ?_ ?_
      | refine LeO.bind ?_ (fun _ => ?_)
    · intro y0 y1 y2
      unfold flailref21_Encode.j1
      repeat' first
      | (with_reducible exact ih0 _ _ _)
      | (with_reducible exact ih1 _ _ _)
      | (with_reducible exact ih2 _ _)
      | (with_reducible exact ih3 _ _ _)
      | (with_reducible exact LeO.refl _)
      | (with_reducible exact LeO.none _)
      | (with_reducible refine LeO.ite ?_ ?_)
      | (with_reducible refine LeO.bind ?_ (fun _ => ?_))
      | exact ih0 _ _ _
      | exact ih1 _ _ _
      | exact ih2 _ _
      | exact ih3 _ _ _
      | exact LeO.none _
      | refine LeO.ite ?_ ?_
      | refine LeO.bind ?_ (fun _ => ?_)
    · intro y0 y1
      unfold flailref21_Encode.j2
      repeat' first
      | (with_reducible exact ih0 _ _ _)
      | (with_reducible exact ih1 _ _ _)
      | (with_reducible exact ih2 _ _)
      | (with_reducible exact ih3 _ _ _)
      | (with_reducible exact LeO.refl _)
      | (with_reducible exact LeO.none _)
      | (with_reducible refine LeO.ite ?_ ?_)
      | (with_reducible refine LeO.bind ?_ (fun _ => ?_))
      | exact ih0 _ _ _
      | exact ih1 _ _ _
      | exact ih2 _ _
      | exact ih3 _ _ _
      | exact LeO.none _
      | refine LeO.ite ?_ ?_
      | refine LeO.bind ?_ (fun _ => ?_)
    · intro y0 y1 y2
      unfold flailref21_Encode.l0
      repeat' first
      | (with_reducible exact ih0 _ _ _)
      | (with_reducible exact ih1 _ _ _)
      | (with_reducible exact ih2 _ _)
      | (with_reducible exact ih3 _ _ _)
      | (with_reducible exact LeO.refl _)
      | (with_reducible exact LeO.none _)
      | (with_reducible refine LeO.ite ?_ ?_)
      | (with_reducible refine LeO.bind ?_ (fun _ => ?_))
      | exact ih0 _ _ _
      | exact ih1 _ _ _
      | exact ih2 _ _
      | exact ih3 _ _ _
      | exact LeO.none _
      | refine LeO.ite ?_ ?_
      | refine LeO.bind ?_ (fun _ => ?_)
theorem flailref21_Encode.mono : ∀ a0 a1 k, LeO (flailref21_Encode.f k a0 a1) (flailref21_Encode.f (k + 1) a0 a1) := by
  intro a0 a1 k
  obtain ⟨ih0, ih1, ih2, ih3⟩ := flailref21_Encode.mono_l k
  unfold flailref21_Encode.f
  repeat' first
      | (with_reducible exact ih0 _ _ _)
      | (with_reducible exact ih1 _ _ _)
      | (with_reducible exact ih2 _ _)
      | (with_reducible exact ih3 _ _ _)
      | (with_reducible exact LeO.refl _)
      | (with_reducible exact LeO.none _)
      | (with_reducible refine LeO.ite ?_ ?_)
      | (with_reducible refine LeO.bind ?_ (fun _ => ?_))
      | exact ih0 _ _ _
      | exact ih1 _ _ _
      | exact ih2 _ _
      | exact ih3 _ _ _
      | exact LeO.none _
      | refine LeO.ite ?_ ?_
      | refine LeO.bind ?_ (fun _ => ?_)
set_option maxHeartbeats 8000000 in
set_option maxRecDepth 100000 in
theorem flailref21_Encode.calls (k : Nat) (a0 : Int) (a1 : ByteArray) (r : ByteArray) (w : World) (h : flailref21_Encode.f k a0 a1 = some r) :
    Calls Try.prog 9 #[.int .i64 a0, .string a1] w fun e w' => e = .returned (.string r) ∧ Drawn0 w w' := by
  have H : (if a0 < 0 then (flailref21_Encode.j0 k a0 a1 true) else (flailref21_Encode.j0 k a0 a1 (decide (a0 > 2)))) = some r := h
  clear h
  have HC3 := Aside0.mk H
  clear H
  go_enter Try.func9, Try.ntmps9
  go_upto_region 1 with (fail)
  go_cut [13] (fun v13 wc => ∃ (kq : Nat) (x13_2 : Bool), v13 = .bool x13_2 ∧ Aside0 (flailref21_Encode.j0 kq a0 a1 x13_2 = some r) ∧ Aside0 (kq ≤ k) ∧ Drawn0 w wc)
  case first =>
    have H := HC3.out
    clear HC3
    by_cases c4 : a0 < 0
    · rw [if_pos c4] at H
      have c4b0 : decide (a0 < 0) = true := decide_eq_true c4
      clear c4
      (first | rw [c4b0] | (simp only [i64_w, i32_w]; rw [c4b0]) | skip)
      have H' := Aside0.mk H
      clear H
      go_wp2
      go_meet
      case rel => exact ⟨_, (true), (by first | rfl | (simp; done) | (simp [*]; done)), H', ⟨by first | omega | exact Nat.le_refl _⟩, by repeat (first | exact Drawn0.refl _ | apply Drawn0.step)⟩
    · rw [if_neg c4] at H
      have c4b0 : decide (a0 < 0) = false := decide_eq_false c4
      clear c4
      (first | rw [c4b0] | (simp only [i64_w, i32_w]; rw [c4b0]) | skip)
      have H' := Aside0.mk H
      clear H
      go_wp2
      go_meet
      case rel => exact ⟨_, (decide (a0 > 2)), (by first | rfl | (simp; done) | (simp [*]; done)), H', ⟨by first | omega | exact Nat.le_refl _⟩, by repeat (first | exact Drawn0.refl _ | apply Drawn0.step)⟩
  case rest =>
    clear HC3
    try clear p2
    try clear c4
    try clear c4b0
    obtain ⟨kq, x13_2, rfl, HA, HJ2, ⟨mc2, rfl⟩⟩ := hcut
    cases kq with
    | zero => exact absurd HA.out (by simp [flailref21_Encode.j0])
    | succ kj2 =>
      have H := HA.out
      clear HA
      simp only [flailref21_Encode.j0] at H
      by_cases c5 : x13_2 = true
      · subst c5
        have H1 : (some (⟨#[]⟩ : ByteArray)) = some r := by rw [if_pos rfl] at H; exact H
        clear H
        have H := H1
        clear H1
        obtain rfl := Option.some.inj H
        go_wp2
        go_ret
        exact ⟨by first | rfl | (simp; done) | (simp [*]; done), by repeat (first | exact Drawn0.refl _ | apply Drawn0.step)⟩
      · replace c5 := Bool.eq_false_iff.mpr c5
        subst c5
        have H1 : (if a0 = 2 then ((flailref01_Begins.f a1 (⟨#[10]⟩ : ByteArray)).bind fun t101 => (flailref21_Encode.j1 kj2 a1 (⟨#[]⟩ : ByteArray) t101)) else (flailref21_Encode.j1 kj2 a1 (⟨#[]⟩ : ByteArray) false)) = some r := by rw [if_neg (show ¬ (false = true) by decide)] at H; exact H
        clear H
        have H := H1
        clear H1
        have HC6 := Aside0.mk H
        clear H
        go_upto_region 4 with (fail)
        go_cut [19] (fun v19 wc => ∃ (kq : Nat) (x19_5 : Bool), v19 = .bool x19_5 ∧ Aside0 (flailref21_Encode.j1 kq a1 (⟨#[]⟩ : ByteArray) x19_5 = some r) ∧ Aside0 (kq ≤ kj2) ∧ Drawn0 w wc)
        case first =>
          have H := HC6.out
          clear HC6
          by_cases c7 : a0 = 2
          · rw [if_pos c7] at H
            have c7b0 : (a0 == 2) = true := beq_iff_eq.mpr c7
            have c7b1 : (a0 != 2) = false := bne_eq_false_iff_eq.mpr c7
            clear c7
            (first | rw [c7b0] | (simp only [i64_w, i32_w]; rw [c7b0]) | skip)
            replace H := Option.bind_eq_some_iff.mp H
            obtain ⟨t101, A80, H⟩ := H
            replace H : (flailref21_Encode.j1 kj2 a1 (⟨#[]⟩ : ByteArray) t101) = some r := H
            have A8 := Aside0.mk A80
            clear A80
            have H' := Aside0.mk H
            clear H
            go_wp2_with (first | (go_at_call 13; (with_reducible refine (flailref01_Begins.calls a1 (⟨#[10]⟩ : ByteArray) t101 _ A8.out).mono ?_); rintro e w' ⟨rfl, ⟨nd, rfl⟩⟩))
            go_meet
            case rel => exact ⟨_, (t101), (by first | rfl | (simp; done) | (simp [*]; done)), H', ⟨by have := HJ2.out; first | omega | exact Nat.le_refl _⟩, by repeat (first | exact Drawn0.refl _ | apply Drawn0.step)⟩
          · rw [if_neg c7] at H
            have c7b0 : (a0 == 2) = false := beq_eq_false_iff_ne.mpr c7
            have c7b1 : (a0 != 2) = true := bne_iff_ne.mpr c7
            (first | rw [c7b0] | (simp only [i64_w, i32_w]; rw [c7b0]) | skip)
            have H' := Aside0.mk H
            clear H
            go_wp2
            go_meet
            case rel => exact ⟨_, (false), (by first | rfl | (simp; done) | (simp [*]; done)), H', ⟨by have := HJ2.out; first | omega | exact Nat.le_refl _⟩, by repeat (first | exact Drawn0.refl _ | apply Drawn0.step)⟩
        case rest =>
          clear HC6
          try clear c2
          try clear p2
          try clear c4
          try clear c4b0
          try clear c5
          try clear c7
          try clear c7b0
          try clear c7b1
          try clear p2
          obtain ⟨kq, x19_5, rfl, HA, HJ5, ⟨mc5, rfl⟩⟩ := hcut
          cases kq with
          | zero => exact absurd HA.out (by simp [flailref21_Encode.j1])
          | succ kj5 =>
            have H := HA.out
            clear HA
            simp only [flailref21_Encode.j1] at H
            have HC9 := Aside0.mk H
            clear H
            go_upto_if 19 with (fail)
            go_cut [5] (fun v5 wc => ∃ (kq : Nat) (x5_8 : ByteArray), v5 = .string x5_8 ∧ Aside0 (flailref21_Encode.j2 kq a1 x5_8 = some r) ∧ Aside0 (kq ≤ kj5) ∧ Drawn0 w wc)
            case first =>
              have H := HC9.out
              clear HC9
              by_cases c10 : x19_5 = true
              · subst c10
                have H1 : (flailref21_Encode.j2 kj5 a1 (⟨#[10]⟩ : ByteArray)) = some r := by rw [if_pos rfl] at H; exact H
                clear H
                have H := H1
                clear H1
                have H' := Aside0.mk H
                clear H
                go_wp2
                go_meet
                case rel => exact ⟨_, ((⟨#[10]⟩ : ByteArray)), (by first | rfl | (simp; done) | (simp [*]; done)), H', ⟨by have := HJ2.out; have := HJ5.out; first | omega | exact Nat.le_refl _⟩, by repeat (first | exact Drawn0.refl _ | apply Drawn0.step)⟩
              · replace c10 := Bool.eq_false_iff.mpr c10
                subst c10
                have H1 : (flailref21_Encode.j2 kj5 a1 (⟨#[]⟩ : ByteArray)) = some r := by rw [if_neg (show ¬ (false = true) by decide)] at H; exact H
                clear H
                have H := H1
                clear H1
                have H' := Aside0.mk H
                clear H
                go_wp2
                go_meet
                case rel => exact ⟨_, ((⟨#[]⟩ : ByteArray)), (by first | rfl | (simp; done) | (simp [*]; done)), H', ⟨by have := HJ2.out; have := HJ5.out; first | omega | exact Nat.le_refl _⟩, by repeat (first | exact Drawn0.refl _ | apply Drawn0.step)⟩
            case rest =>
              clear HC9
              try clear c1
              try clear c2
              try clear p2
              try clear c4
              try clear c4b0
              try clear c5
              try clear c7
              try clear c7b0
              try clear c7b1
              try clear c9
              try clear c10
              try clear p2
              obtain ⟨kq, x5_8, rfl, HA, HJ8, ⟨mc8, rfl⟩⟩ := hcut
              cases kq with
              | zero => exact absurd HA.out (by simp [flailref21_Encode.j2])
              | succ kj8 =>
                have H := HA.out
                clear HA
                simp only [flailref21_Encode.j2] at H
                have H' := Aside0.mk H
                clear H
                go_wp2
                go_loopg [5, 6] kj8 (fun kq v5 v6 w' => ∃ (x5_4 : ByteArray) (x6_4 : Int), v5 = .string x5_4 ∧ v6 = .int .i64 x6_4 ∧ Aside0 (flailref21_Encode.l0 kq a1 x5_4 x6_4 = some r) ∧ Aside0 (kq ≤ kj8) ∧ Drawn0 w w')
                case atStart => exact ⟨(x5_8), (0), (by first | rfl | (simp; done) | (simp [*]; done)), (by first | rfl | (simp; done) | (simp [*]; done)), H', ⟨Nat.le_refl _⟩, by repeat (first | exact Drawn0.refl _ | apply Drawn0.step)⟩
                case round =>
                  clear H'
                  try clear c1
                  try clear c2
                  try clear p2
                  try clear c4
                  try clear c4b0
                  try clear c5
                  try clear c7
                  try clear c7b0
                  try clear c7b1
                  try clear c8
                  try clear c9
                  try clear c10
                  try clear p2
                  obtain ⟨x5_4, x6_4, rfl, rfl, HA, HK4, ⟨m4, rfl⟩⟩ := hrel
                  cases gk with
                  | zero => exact absurd HA.out (by simp [flailref21_Encode.l0])
                  | succ k4 =>
                    have H := HA.out
                    clear HA
                    simp only [flailref21_Encode.l0] at H
                    by_cases c11 : x6_4 < (a1.size : Int)
                    · rw [if_pos c11] at H
                      have c11b0 : decide (x6_4 < (a1.size : Int)) = true := decide_eq_true c11
                      clear c11
                      by_cases c12 : 0 ≤ x6_4
                      · rw [if_pos c12] at H
                        have c12b0 := eq_true c12
                        have c12b1 : decide (0 ≤ x6_4) = true := decide_eq_true c12
                        clear c12
                        by_cases c13 : x6_4 ≤ (a1.size : Int)
                        · rw [if_pos c13] at H
                          have c13b0 := eq_true c13
                          have c13b1 : decide (x6_4 ≤ (a1.size : Int)) = true := decide_eq_true c13
                          clear c13
                          replace H := Option.bind_eq_some_iff.mp H
                          obtain ⟨t102, A140, H⟩ := H
                          replace H : (if (bt a1 x6_4) = 38 then (if x5_4.size + 5 ≤ 9223372036854775807 then (flailref21_Encode.l0 k4 a1 (x5_4 ++ (⟨#[38, 97, 109, 112, 59]⟩ : ByteArray)) (wrap64 (x6_4 + 1))) else (none)) else (if (bt a1 x6_4) = 60 then (if x5_4.size + 4 ≤ 9223372036854775807 then (flailref21_Encode.l0 k4 a1 (x5_4 ++ (⟨#[38, 108, 116, 59]⟩ : ByteArray)) (wrap64 (x6_4 + 1))) else (none)) else (if (bt a1 x6_4) = 62 then (if x5_4.size + 4 ≤ 9223372036854775807 then (flailref21_Encode.l0 k4 a1 (x5_4 ++ (⟨#[38, 103, 116, 59]⟩ : ByteArray)) (wrap64 (x6_4 + 1))) else (none)) else (if (bt a1 x6_4) = 34 then (if x5_4.size + 6 ≤ 9223372036854775807 then (flailref21_Encode.l0 k4 a1 (x5_4 ++ (⟨#[38, 113, 117, 111, 116, 59]⟩ : ByteArray)) (wrap64 (x6_4 + 1))) else (none)) else (if (bt a1 x6_4) = 39 then (if x5_4.size + 5 ≤ 9223372036854775807 then (flailref21_Encode.l0 k4 a1 (x5_4 ++ (⟨#[38, 35, 51, 57, 59]⟩ : ByteArray)) (wrap64 (x6_4 + 1))) else (none)) else (if (bt a1 x6_4) = 13 then (if x5_4.size + 5 ≤ 9223372036854775807 then (flailref21_Encode.l0 k4 a1 (x5_4 ++ (⟨#[38, 35, 49, 51, 59]⟩ : ByteArray)) (wrap64 (x6_4 + 1))) else (none)) else (if (bt a1 x6_4) = 0 then (if x5_4.size + 3 ≤ 9223372036854775807 then (flailref21_Encode.l0 k4 a1 (x5_4 ++ (⟨#[239, 191, 189]⟩ : ByteArray)) (wrap64 (x6_4 + 1))) else (none)) else (if t102 = true then (if x5_4.size + 8 ≤ 9223372036854775807 then (flailref21_Encode.l0 k4 a1 (x5_4 ++ (⟨#[38, 35, 54, 53, 50, 55, 57, 59]⟩ : ByteArray)) (wrap64 ((wrap64 (x6_4 + 2)) + 1))) else (none)) else (if x6_4 ≤ (wrap64 (x6_4 + 1)) then (if (wrap64 (x6_4 + 1)) ≤ (a1.size : Int) then (if x5_4.size + (a1.extract (x6_4 : Int).toNat ((wrap64 (x6_4 + 1)) : Int).toNat).size ≤ 9223372036854775807 then (flailref21_Encode.l0 k4 a1 (x5_4 ++ (a1.extract (x6_4 : Int).toNat ((wrap64 (x6_4 + 1)) : Int).toNat)) (wrap64 (x6_4 + 1))) else (none)) else (none)) else (none)))))))))) = some r := H
                          have A14 := Aside0.mk A140
                          clear A140
                          by_cases c16 : (bt a1 x6_4) = 38
                          · rw [if_pos c16] at H
                            have c16b0 : ((bt a1 x6_4) == 38) = true := beq_iff_eq.mpr c16
                            have c16b1 : ((bt a1 x6_4) != 38) = false := bne_eq_false_iff_eq.mpr c16
                            clear c16
                            by_cases c17 : x5_4.size + 5 ≤ 9223372036854775807
                            · rw [if_pos c17] at H
                              have c17b0 := eq_true c17
                              have c17b1 : decide (x5_4.size + 5 ≤ 9223372036854775807) = true := decide_eq_true c17
                              try have c17b2 : (9223372036854775807 < x5_4.size + 5) = False := eq_false (Nat.not_lt.2 c17)
                              have H' := Aside0.mk H
                              clear H
                              go_wp2_with (first | ((with_reducible refine gate_callee (f := 13) rfl ?_); refine goesL_ (some 29) rfl rfl Try.func13 (by kernel_rfl) rfl #[.string (a1.extract (x6_4 : Int).toNat a1.size), .string (⟨#[239, 187, 191]⟩ : ByteArray)] rfl (by (try simp only [List.map_toArray, List.map_cons, List.map_nil]); first | done | rfl | (simp only [List.length_drop, List.length_take]; rfl)) ?_; (with_reducible refine (flailref01_Begins.calls (a1.extract (x6_4 : Int).toNat a1.size) (⟨#[239, 187, 191]⟩ : ByteArray) t102 _ A14.out).mono ?_); rintro e w' ⟨rfl, ⟨nd, rfl⟩⟩; refine ⟨_, rfl, ?_⟩; have p15 : 0 ≤ (x6_4 : Int) := of_decide_eq_true (by first | (with_reducible assumption) | assumption); have q15 : x6_4 < (a1.size : Int) := of_decide_eq_true (by first | (with_reducible assumption) | assumption); have hx15 := bt_at a1 x6_4; replace p15 := eq_true p15; replace q15 := eq_true q15))
                              go_roundg k4
                              case measure => have := HJ2.out; have := HJ5.out; have := HJ8.out; have := HK4.out; omega
                              case rel => exact ⟨(x5_4 ++ (⟨#[38, 97, 109, 112, 59]⟩ : ByteArray)), (wrap64 (x6_4 + 1)), (by first | rfl | (simp; done) | (simp [*]; done)), (by first | rfl | (simp; done) | (simp [*]; done)), H', ⟨by have := HJ2.out; have := HJ5.out; have := HJ8.out; have := HK4.out; omega⟩, by repeat (first | exact Drawn0.refl _ | apply Drawn0.step)⟩
                            · rw [if_neg c17] at H
                              exact absurd H (by simp)
                          · rw [if_neg c16] at H
                            have c16b0 : ((bt a1 x6_4) == 38) = false := beq_eq_false_iff_ne.mpr c16
                            have c16b1 : ((bt a1 x6_4) != 38) = true := bne_iff_ne.mpr c16
                            by_cases c19 : (bt a1 x6_4) = 60
                            · rw [if_pos c19] at H
                              have c19b0 : ((bt a1 x6_4) == 60) = true := beq_iff_eq.mpr c19
                              have c19b1 : ((bt a1 x6_4) != 60) = false := bne_eq_false_iff_eq.mpr c19
                              clear c19
                              by_cases c20 : x5_4.size + 4 ≤ 9223372036854775807
                              · rw [if_pos c20] at H
                                have c20b0 := eq_true c20
                                have c20b1 : decide (x5_4.size + 4 ≤ 9223372036854775807) = true := decide_eq_true c20
                                try have c20b2 : (9223372036854775807 < x5_4.size + 4) = False := eq_false (Nat.not_lt.2 c20)
                                have H' := Aside0.mk H
                                clear H
                                go_wp2_with (first | ((with_reducible refine gate_callee (f := 13) rfl ?_); refine goesL_ (some 29) rfl rfl Try.func13 (by kernel_rfl) rfl #[.string (a1.extract (x6_4 : Int).toNat a1.size), .string (⟨#[239, 187, 191]⟩ : ByteArray)] rfl (by (try simp only [List.map_toArray, List.map_cons, List.map_nil]); first | done | rfl | (simp only [List.length_drop, List.length_take]; rfl)) ?_; (with_reducible refine (flailref01_Begins.calls (a1.extract (x6_4 : Int).toNat a1.size) (⟨#[239, 187, 191]⟩ : ByteArray) t102 _ A14.out).mono ?_); rintro e w' ⟨rfl, ⟨nd, rfl⟩⟩; refine ⟨_, rfl, ?_⟩; have p15 : 0 ≤ (x6_4 : Int) := of_decide_eq_true (by first | (with_reducible assumption) | assumption); have q15 : x6_4 < (a1.size : Int) := of_decide_eq_true (by first | (with_reducible assumption) | assumption); have hx15 := bt_at a1 x6_4; replace p15 := eq_true p15; replace q15 := eq_true q15; have p18 : 0 ≤ (x6_4 : Int) := of_decide_eq_true (by first | (with_reducible assumption) | assumption); have q18 : x6_4 < (a1.size : Int) := of_decide_eq_true (by first | (with_reducible assumption) | assumption); have hx18 := bt_at a1 x6_4; replace p18 := eq_true p18; replace q18 := eq_true q18))
                                go_roundg k4
                                case measure => have := HJ2.out; have := HJ5.out; have := HJ8.out; have := HK4.out; omega
                                case rel => exact ⟨(x5_4 ++ (⟨#[38, 108, 116, 59]⟩ : ByteArray)), (wrap64 (x6_4 + 1)), (by first | rfl | (simp; done) | (simp [*]; done)), (by first | rfl | (simp; done) | (simp [*]; done)), H', ⟨by have := HJ2.out; have := HJ5.out; have := HJ8.out; have := HK4.out; omega⟩, by repeat (first | exact Drawn0.refl _ | apply Drawn0.step)⟩
                              · rw [if_neg c20] at H
                                exact absurd H (by simp)
                            · rw [if_neg c19] at H
                              have c19b0 : ((bt a1 x6_4) == 60) = false := beq_eq_false_iff_ne.mpr c19
                              have c19b1 : ((bt a1 x6_4) != 60) = true := bne_iff_ne.mpr c19
                              by_cases c22 : (bt a1 x6_4) = 62
                              · rw [if_pos c22] at H
                                have c22b0 : ((bt a1 x6_4) == 62) = true := beq_iff_eq.mpr c22
                                have c22b1 : ((bt a1 x6_4) != 62) = false := bne_eq_false_iff_eq.mpr c22
                                clear c22
                                by_cases c23 : x5_4.size + 4 ≤ 9223372036854775807
                                · rw [if_pos c23] at H
                                  have c23b0 := eq_true c23
                                  have c23b1 : decide (x5_4.size + 4 ≤ 9223372036854775807) = true := decide_eq_true c23
                                  try have c23b2 : (9223372036854775807 < x5_4.size + 4) = False := eq_false (Nat.not_lt.2 c23)
                                  have H' := Aside0.mk H
                                  clear H
                                  go_wp2_with (first | ((with_reducible refine gate_callee (f := 13) rfl ?_); refine goesL_ (some 29) rfl rfl Try.func13 (by kernel_rfl) rfl #[.string (a1.extract (x6_4 : Int).toNat a1.size), .string (⟨#[239, 187, 191]⟩ : ByteArray)] rfl (by (try simp only [List.map_toArray, List.map_cons, List.map_nil]); first | done | rfl | (simp only [List.length_drop, List.length_take]; rfl)) ?_; (with_reducible refine (flailref01_Begins.calls (a1.extract (x6_4 : Int).toNat a1.size) (⟨#[239, 187, 191]⟩ : ByteArray) t102 _ A14.out).mono ?_); rintro e w' ⟨rfl, ⟨nd, rfl⟩⟩; refine ⟨_, rfl, ?_⟩; have p15 : 0 ≤ (x6_4 : Int) := of_decide_eq_true (by first | (with_reducible assumption) | assumption); have q15 : x6_4 < (a1.size : Int) := of_decide_eq_true (by first | (with_reducible assumption) | assumption); have hx15 := bt_at a1 x6_4; replace p15 := eq_true p15; replace q15 := eq_true q15; have p18 : 0 ≤ (x6_4 : Int) := of_decide_eq_true (by first | (with_reducible assumption) | assumption); have q18 : x6_4 < (a1.size : Int) := of_decide_eq_true (by first | (with_reducible assumption) | assumption); have hx18 := bt_at a1 x6_4; replace p18 := eq_true p18; replace q18 := eq_true q18; have p21 : 0 ≤ (x6_4 : Int) := of_decide_eq_true (by first | (with_reducible assumption) | assumption); have q21 : x6_4 < (a1.size : Int) := of_decide_eq_true (by first | (with_reducible assumption) | assumption); have hx21 := bt_at a1 x6_4; replace p21 := eq_true p21; replace q21 := eq_true q21))
                                  go_roundg k4
                                  case measure => have := HJ2.out; have := HJ5.out; have := HJ8.out; have := HK4.out; omega
                                  case rel => exact ⟨(x5_4 ++ (⟨#[38, 103, 116, 59]⟩ : ByteArray)), (wrap64 (x6_4 + 1)), (by first | rfl | (simp; done) | (simp [*]; done)), (by first | rfl | (simp; done) | (simp [*]; done)), H', ⟨by have := HJ2.out; have := HJ5.out; have := HJ8.out; have := HK4.out; omega⟩, by repeat (first | exact Drawn0.refl _ | apply Drawn0.step)⟩
                                · rw [if_neg c23] at H
                                  exact absurd H (by simp)
                              · rw [if_neg c22] at H
                                have c22b0 : ((bt a1 x6_4) == 62) = false := beq_eq_false_iff_ne.mpr c22
                                have c22b1 : ((bt a1 x6_4) != 62) = true := bne_iff_ne.mpr c22
                                by_cases c25 : (bt a1 x6_4) = 34
                                · rw [if_pos c25] at H
                                  have c25b0 : ((bt a1 x6_4) == 34) = true := beq_iff_eq.mpr c25
                                  have c25b1 : ((bt a1 x6_4) != 34) = false := bne_eq_false_iff_eq.mpr c25
                                  clear c25
                                  by_cases c26 : x5_4.size + 6 ≤ 9223372036854775807
                                  · rw [if_pos c26] at H
                                    have c26b0 := eq_true c26
                                    have c26b1 : decide (x5_4.size + 6 ≤ 9223372036854775807) = true := decide_eq_true c26
                                    try have c26b2 : (9223372036854775807 < x5_4.size + 6) = False := eq_false (Nat.not_lt.2 c26)
                                    have H' := Aside0.mk H
                                    clear H
                                    go_wp2_with (first | ((with_reducible refine gate_callee (f := 13) rfl ?_); refine goesL_ (some 29) rfl rfl Try.func13 (by kernel_rfl) rfl #[.string (a1.extract (x6_4 : Int).toNat a1.size), .string (⟨#[239, 187, 191]⟩ : ByteArray)] rfl (by (try simp only [List.map_toArray, List.map_cons, List.map_nil]); first | done | rfl | (simp only [List.length_drop, List.length_take]; rfl)) ?_; (with_reducible refine (flailref01_Begins.calls (a1.extract (x6_4 : Int).toNat a1.size) (⟨#[239, 187, 191]⟩ : ByteArray) t102 _ A14.out).mono ?_); rintro e w' ⟨rfl, ⟨nd, rfl⟩⟩; refine ⟨_, rfl, ?_⟩; have p15 : 0 ≤ (x6_4 : Int) := of_decide_eq_true (by first | (with_reducible assumption) | assumption); have q15 : x6_4 < (a1.size : Int) := of_decide_eq_true (by first | (with_reducible assumption) | assumption); have hx15 := bt_at a1 x6_4; replace p15 := eq_true p15; replace q15 := eq_true q15; have p18 : 0 ≤ (x6_4 : Int) := of_decide_eq_true (by first | (with_reducible assumption) | assumption); have q18 : x6_4 < (a1.size : Int) := of_decide_eq_true (by first | (with_reducible assumption) | assumption); have hx18 := bt_at a1 x6_4; replace p18 := eq_true p18; replace q18 := eq_true q18; have p21 : 0 ≤ (x6_4 : Int) := of_decide_eq_true (by first | (with_reducible assumption) | assumption); have q21 : x6_4 < (a1.size : Int) := of_decide_eq_true (by first | (with_reducible assumption) | assumption); have hx21 := bt_at a1 x6_4; replace p21 := eq_true p21; replace q21 := eq_true q21; have p24 : 0 ≤ (x6_4 : Int) := of_decide_eq_true (by first | (with_reducible assumption) | assumption); have q24 : x6_4 < (a1.size : Int) := of_decide_eq_true (by first | (with_reducible assumption) | assumption); have hx24 := bt_at a1 x6_4; replace p24 := eq_true p24; replace q24 := eq_true q24))
                                    go_roundg k4
                                    case measure => have := HJ2.out; have := HJ5.out; have := HJ8.out; have := HK4.out; omega
                                    case rel => exact ⟨(x5_4 ++ (⟨#[38, 113, 117, 111, 116, 59]⟩ : ByteArray)), (wrap64 (x6_4 + 1)), (by first | rfl | (simp; done) | (simp [*]; done)), (by first | rfl | (simp; done) | (simp [*]; done)), H', ⟨by have := HJ2.out; have := HJ5.out; have := HJ8.out; have := HK4.out; omega⟩, by repeat (first | exact Drawn0.refl _ | apply Drawn0.step)⟩
                                  · rw [if_neg c26] at H
                                    exact absurd H (by simp)
                                · rw [if_neg c25] at H
                                  have c25b0 : ((bt a1 x6_4) == 34) = false := beq_eq_false_iff_ne.mpr c25
                                  have c25b1 : ((bt a1 x6_4) != 34) = true := bne_iff_ne.mpr c25
                                  by_cases c28 : (bt a1 x6_4) = 39
                                  · rw [if_pos c28] at H
                                    have c28b0 : ((bt a1 x6_4) == 39) = true := beq_iff_eq.mpr c28
                                    have c28b1 : ((bt a1 x6_4) != 39) = false := bne_eq_false_iff_eq.mpr c28
                                    clear c28
                                    by_cases c29 : x5_4.size + 5 ≤ 9223372036854775807
                                    · rw [if_pos c29] at H
                                      have c29b0 := eq_true c29
                                      have c29b1 : decide (x5_4.size + 5 ≤ 9223372036854775807) = true := decide_eq_true c29
                                      try have c29b2 : (9223372036854775807 < x5_4.size + 5) = False := eq_false (Nat.not_lt.2 c29)
                                      have H' := Aside0.mk H
                                      clear H
                                      go_wp2_with (first | ((with_reducible refine gate_callee (f := 13) rfl ?_); refine goesL_ (some 29) rfl rfl Try.func13 (by kernel_rfl) rfl #[.string (a1.extract (x6_4 : Int).toNat a1.size), .string (⟨#[239, 187, 191]⟩ : ByteArray)] rfl (by (try simp only [List.map_toArray, List.map_cons, List.map_nil]); first | done | rfl | (simp only [List.length_drop, List.length_take]; rfl)) ?_; (with_reducible refine (flailref01_Begins.calls (a1.extract (x6_4 : Int).toNat a1.size) (⟨#[239, 187, 191]⟩ : ByteArray) t102 _ A14.out).mono ?_); rintro e w' ⟨rfl, ⟨nd, rfl⟩⟩; refine ⟨_, rfl, ?_⟩; have p15 : 0 ≤ (x6_4 : Int) := of_decide_eq_true (by first | (with_reducible assumption) | assumption); have q15 : x6_4 < (a1.size : Int) := of_decide_eq_true (by first | (with_reducible assumption) | assumption); have hx15 := bt_at a1 x6_4; replace p15 := eq_true p15; replace q15 := eq_true q15; have p18 : 0 ≤ (x6_4 : Int) := of_decide_eq_true (by first | (with_reducible assumption) | assumption); have q18 : x6_4 < (a1.size : Int) := of_decide_eq_true (by first | (with_reducible assumption) | assumption); have hx18 := bt_at a1 x6_4; replace p18 := eq_true p18; replace q18 := eq_true q18; have p21 : 0 ≤ (x6_4 : Int) := of_decide_eq_true (by first | (with_reducible assumption) | assumption); have q21 : x6_4 < (a1.size : Int) := of_decide_eq_true (by first | (with_reducible assumption) | assumption); have hx21 := bt_at a1 x6_4; replace p21 := eq_true p21; replace q21 := eq_true q21; have p24 : 0 ≤ (x6_4 : Int) := of_decide_eq_true (by first | (with_reducible assumption) | assumption); have q24 : x6_4 < (a1.size : Int) := of_decide_eq_true (by first | (with_reducible assumption) | assumption); have hx24 := bt_at a1 x6_4; replace p24 := eq_true p24; replace q24 := eq_true q24; have p27 : 0 ≤ (x6_4 : Int) := of_decide_eq_true (by first | (with_reducible assumption) | assumption); have q27 : x6_4 < (a1.size : Int) := of_decide_eq_true (by first | (with_reducible assumption) | assumption); have hx27 := bt_at a1 x6_4; replace p27 := eq_true p27; replace q27 := eq_true q27))
                                      go_roundg k4
                                      case measure => have := HJ2.out; have := HJ5.out; have := HJ8.out; have := HK4.out; omega
                                      case rel => exact ⟨(x5_4 ++ (⟨#[38, 35, 51, 57, 59]⟩ : ByteArray)), (wrap64 (x6_4 + 1)), (by first | rfl | (simp; done) | (simp [*]; done)), (by first | rfl | (simp; done) | (simp [*]; done)), H', ⟨by have := HJ2.out; have := HJ5.out; have := HJ8.out; have := HK4.out; omega⟩, by repeat (first | exact Drawn0.refl _ | apply Drawn0.step)⟩
                                    · rw [if_neg c29] at H
                                      exact absurd H (by simp)
                                  · rw [if_neg c28] at H
                                    have c28b0 : ((bt a1 x6_4) == 39) = false := beq_eq_false_iff_ne.mpr c28
                                    have c28b1 : ((bt a1 x6_4) != 39) = true := bne_iff_ne.mpr c28
                                    by_cases c31 : (bt a1 x6_4) = 13
                                    · rw [if_pos c31] at H
                                      have c31b0 : ((bt a1 x6_4) == 13) = true := beq_iff_eq.mpr c31
                                      have c31b1 : ((bt a1 x6_4) != 13) = false := bne_eq_false_iff_eq.mpr c31
                                      clear c31
                                      by_cases c32 : x5_4.size + 5 ≤ 9223372036854775807
                                      · rw [if_pos c32] at H
                                        have c32b0 := eq_true c32
                                        have c32b1 : decide (x5_4.size + 5 ≤ 9223372036854775807) = true := decide_eq_true c32
                                        try have c32b2 : (9223372036854775807 < x5_4.size + 5) = False := eq_false (Nat.not_lt.2 c32)
                                        have H' := Aside0.mk H
                                        clear H
                                        go_wp2_with (first | ((with_reducible refine gate_callee (f := 13) rfl ?_); refine goesL_ (some 29) rfl rfl Try.func13 (by kernel_rfl) rfl #[.string (a1.extract (x6_4 : Int).toNat a1.size), .string (⟨#[239, 187, 191]⟩ : ByteArray)] rfl (by (try simp only [List.map_toArray, List.map_cons, List.map_nil]); first | done | rfl | (simp only [List.length_drop, List.length_take]; rfl)) ?_; (with_reducible refine (flailref01_Begins.calls (a1.extract (x6_4 : Int).toNat a1.size) (⟨#[239, 187, 191]⟩ : ByteArray) t102 _ A14.out).mono ?_); rintro e w' ⟨rfl, ⟨nd, rfl⟩⟩; refine ⟨_, rfl, ?_⟩; have p15 : 0 ≤ (x6_4 : Int) := of_decide_eq_true (by first | (with_reducible assumption) | assumption); have q15 : x6_4 < (a1.size : Int) := of_decide_eq_true (by first | (with_reducible assumption) | assumption); have hx15 := bt_at a1 x6_4; replace p15 := eq_true p15; replace q15 := eq_true q15; have p18 : 0 ≤ (x6_4 : Int) := of_decide_eq_true (by first | (with_reducible assumption) | assumption); have q18 : x6_4 < (a1.size : Int) := of_decide_eq_true (by first | (with_reducible assumption) | assumption); have hx18 := bt_at a1 x6_4; replace p18 := eq_true p18; replace q18 := eq_true q18; have p21 : 0 ≤ (x6_4 : Int) := of_decide_eq_true (by first | (with_reducible assumption) | assumption); have q21 : x6_4 < (a1.size : Int) := of_decide_eq_true (by first | (with_reducible assumption) | assumption); have hx21 := bt_at a1 x6_4; replace p21 := eq_true p21; replace q21 := eq_true q21; have p24 : 0 ≤ (x6_4 : Int) := of_decide_eq_true (by first | (with_reducible assumption) | assumption); have q24 : x6_4 < (a1.size : Int) := of_decide_eq_true (by first | (with_reducible assumption) | assumption); have hx24 := bt_at a1 x6_4; replace p24 := eq_true p24; replace q24 := eq_true q24; have p27 : 0 ≤ (x6_4 : Int) := of_decide_eq_true (by first | (with_reducible assumption) | assumption); have q27 : x6_4 < (a1.size : Int) := of_decide_eq_true (by first | (with_reducible assumption) | assumption); have hx27 := bt_at a1 x6_4; replace p27 := eq_true p27; replace q27 := eq_true q27; have p30 : 0 ≤ (x6_4 : Int) := of_decide_eq_true (by first | (with_reducible assumption) | assumption); have q30 : x6_4 < (a1.size : Int) := of_decide_eq_true (by first | (with_reducible assumption) | assumption); have hx30 := bt_at a1 x6_4; replace p30 := eq_true p30; replace q30 := eq_true q30))
                                        go_roundg k4
                                        case measure => have := HJ2.out; have := HJ5.out; have := HJ8.out; have := HK4.out; omega
                                        case rel => exact ⟨(x5_4 ++ (⟨#[38, 35, 49, 51, 59]⟩ : ByteArray)), (wrap64 (x6_4 + 1)), (by first | rfl | (simp; done) | (simp [*]; done)), (by first | rfl | (simp; done) | (simp [*]; done)), H', ⟨by have := HJ2.out; have := HJ5.out; have := HJ8.out; have := HK4.out; omega⟩, by repeat (first | exact Drawn0.refl _ | apply Drawn0.step)⟩
                                      · rw [if_neg c32] at H
                                        exact absurd H (by simp)
                                    · rw [if_neg c31] at H
                                      have c31b0 : ((bt a1 x6_4) == 13) = false := beq_eq_false_iff_ne.mpr c31
                                      have c31b1 : ((bt a1 x6_4) != 13) = true := bne_iff_ne.mpr c31
                                      by_cases c34 : (bt a1 x6_4) = 0
                                      · rw [if_pos c34] at H
                                        have c34b0 : ((bt a1 x6_4) == 0) = true := beq_iff_eq.mpr c34
                                        have c34b1 : ((bt a1 x6_4) != 0) = false := bne_eq_false_iff_eq.mpr c34
                                        clear c34
                                        by_cases c35 : x5_4.size + 3 ≤ 9223372036854775807
                                        · rw [if_pos c35] at H
                                          have c35b0 := eq_true c35
                                          have c35b1 : decide (x5_4.size + 3 ≤ 9223372036854775807) = true := decide_eq_true c35
                                          try have c35b2 : (9223372036854775807 < x5_4.size + 3) = False := eq_false (Nat.not_lt.2 c35)
                                          have H' := Aside0.mk H
                                          clear H
                                          go_wp2_with (first | ((with_reducible refine gate_callee (f := 13) rfl ?_); refine goesL_ (some 29) rfl rfl Try.func13 (by kernel_rfl) rfl #[.string (a1.extract (x6_4 : Int).toNat a1.size), .string (⟨#[239, 187, 191]⟩ : ByteArray)] rfl (by (try simp only [List.map_toArray, List.map_cons, List.map_nil]); first | done | rfl | (simp only [List.length_drop, List.length_take]; rfl)) ?_; (with_reducible refine (flailref01_Begins.calls (a1.extract (x6_4 : Int).toNat a1.size) (⟨#[239, 187, 191]⟩ : ByteArray) t102 _ A14.out).mono ?_); rintro e w' ⟨rfl, ⟨nd, rfl⟩⟩; refine ⟨_, rfl, ?_⟩; have p15 : 0 ≤ (x6_4 : Int) := of_decide_eq_true (by first | (with_reducible assumption) | assumption); have q15 : x6_4 < (a1.size : Int) := of_decide_eq_true (by first | (with_reducible assumption) | assumption); have hx15 := bt_at a1 x6_4; replace p15 := eq_true p15; replace q15 := eq_true q15; have p18 : 0 ≤ (x6_4 : Int) := of_decide_eq_true (by first | (with_reducible assumption) | assumption); have q18 : x6_4 < (a1.size : Int) := of_decide_eq_true (by first | (with_reducible assumption) | assumption); have hx18 := bt_at a1 x6_4; replace p18 := eq_true p18; replace q18 := eq_true q18; have p21 : 0 ≤ (x6_4 : Int) := of_decide_eq_true (by first | (with_reducible assumption) | assumption); have q21 : x6_4 < (a1.size : Int) := of_decide_eq_true (by first | (with_reducible assumption) | assumption); have hx21 := bt_at a1 x6_4; replace p21 := eq_true p21; replace q21 := eq_true q21; have p24 : 0 ≤ (x6_4 : Int) := of_decide_eq_true (by first | (with_reducible assumption) | assumption); have q24 : x6_4 < (a1.size : Int) := of_decide_eq_true (by first | (with_reducible assumption) | assumption); have hx24 := bt_at a1 x6_4; replace p24 := eq_true p24; replace q24 := eq_true q24; have p27 : 0 ≤ (x6_4 : Int) := of_decide_eq_true (by first | (with_reducible assumption) | assumption); have q27 : x6_4 < (a1.size : Int) := of_decide_eq_true (by first | (with_reducible assumption) | assumption); have hx27 := bt_at a1 x6_4; replace p27 := eq_true p27; replace q27 := eq_true q27; have p30 : 0 ≤ (x6_4 : Int) := of_decide_eq_true (by first | (with_reducible assumption) | assumption); have q30 : x6_4 < (a1.size : Int) := of_decide_eq_true (by first | (with_reducible assumption) | assumption); have hx30 := bt_at a1 x6_4; replace p30 := eq_true p30; replace q30 := eq_true q30; have p33 : 0 ≤ (x6_4 : Int) := of_decide_eq_true (by first | (with_reducible assumption) | assumption); have q33 : x6_4 < (a1.size : Int) := of_decide_eq_true (by first | (with_reducible assumption) | assumption); have hx33 := bt_at a1 x6_4; replace p33 := eq_true p33; replace q33 := eq_true q33))
                                          go_roundg k4
                                          case measure => have := HJ2.out; have := HJ5.out; have := HJ8.out; have := HK4.out; omega
                                          case rel => exact ⟨(x5_4 ++ (⟨#[239, 191, 189]⟩ : ByteArray)), (wrap64 (x6_4 + 1)), (by first | rfl | (simp; done) | (simp [*]; done)), (by first | rfl | (simp; done) | (simp [*]; done)), H', ⟨by have := HJ2.out; have := HJ5.out; have := HJ8.out; have := HK4.out; omega⟩, by repeat (first | exact Drawn0.refl _ | apply Drawn0.step)⟩
                                        · rw [if_neg c35] at H
                                          exact absurd H (by simp)
                                      · rw [if_neg c34] at H
                                        have c34b0 : ((bt a1 x6_4) == 0) = false := beq_eq_false_iff_ne.mpr c34
                                        have c34b1 : ((bt a1 x6_4) != 0) = true := bne_iff_ne.mpr c34
                                        by_cases c36 : t102 = true
                                        · subst c36
                                          have H1 : (if x5_4.size + 8 ≤ 9223372036854775807 then (flailref21_Encode.l0 k4 a1 (x5_4 ++ (⟨#[38, 35, 54, 53, 50, 55, 57, 59]⟩ : ByteArray)) (wrap64 ((wrap64 (x6_4 + 2)) + 1))) else (none)) = some r := by rw [if_pos rfl] at H; exact H
                                          clear H
                                          have H := H1
                                          clear H1
                                          by_cases c37 : x5_4.size + 8 ≤ 9223372036854775807
                                          · rw [if_pos c37] at H
                                            have c37b0 := eq_true c37
                                            have c37b1 : decide (x5_4.size + 8 ≤ 9223372036854775807) = true := decide_eq_true c37
                                            try have c37b2 : (9223372036854775807 < x5_4.size + 8) = False := eq_false (Nat.not_lt.2 c37)
                                            have H' := Aside0.mk H
                                            clear H
                                            go_wp2_with (first | ((with_reducible refine gate_callee (f := 13) rfl ?_); refine goesL_ (some 29) rfl rfl Try.func13 (by kernel_rfl) rfl #[.string (a1.extract (x6_4 : Int).toNat a1.size), .string (⟨#[239, 187, 191]⟩ : ByteArray)] rfl (by (try simp only [List.map_toArray, List.map_cons, List.map_nil]); first | done | rfl | (simp only [List.length_drop, List.length_take]; rfl)) ?_; (with_reducible refine (flailref01_Begins.calls (a1.extract (x6_4 : Int).toNat a1.size) (⟨#[239, 187, 191]⟩ : ByteArray) true _ A14.out).mono ?_); rintro e w' ⟨rfl, ⟨nd, rfl⟩⟩; refine ⟨_, rfl, ?_⟩; have p15 : 0 ≤ (x6_4 : Int) := of_decide_eq_true (by first | (with_reducible assumption) | assumption); have q15 : x6_4 < (a1.size : Int) := of_decide_eq_true (by first | (with_reducible assumption) | assumption); have hx15 := bt_at a1 x6_4; replace p15 := eq_true p15; replace q15 := eq_true q15; have p18 : 0 ≤ (x6_4 : Int) := of_decide_eq_true (by first | (with_reducible assumption) | assumption); have q18 : x6_4 < (a1.size : Int) := of_decide_eq_true (by first | (with_reducible assumption) | assumption); have hx18 := bt_at a1 x6_4; replace p18 := eq_true p18; replace q18 := eq_true q18; have p21 : 0 ≤ (x6_4 : Int) := of_decide_eq_true (by first | (with_reducible assumption) | assumption); have q21 : x6_4 < (a1.size : Int) := of_decide_eq_true (by first | (with_reducible assumption) | assumption); have hx21 := bt_at a1 x6_4; replace p21 := eq_true p21; replace q21 := eq_true q21; have p24 : 0 ≤ (x6_4 : Int) := of_decide_eq_true (by first | (with_reducible assumption) | assumption); have q24 : x6_4 < (a1.size : Int) := of_decide_eq_true (by first | (with_reducible assumption) | assumption); have hx24 := bt_at a1 x6_4; replace p24 := eq_true p24; replace q24 := eq_true q24; have p27 : 0 ≤ (x6_4 : Int) := of_decide_eq_true (by first | (with_reducible assumption) | assumption); have q27 : x6_4 < (a1.size : Int) := of_decide_eq_true (by first | (with_reducible assumption) | assumption); have hx27 := bt_at a1 x6_4; replace p27 := eq_true p27; replace q27 := eq_true q27; have p30 : 0 ≤ (x6_4 : Int) := of_decide_eq_true (by first | (with_reducible assumption) | assumption); have q30 : x6_4 < (a1.size : Int) := of_decide_eq_true (by first | (with_reducible assumption) | assumption); have hx30 := bt_at a1 x6_4; replace p30 := eq_true p30; replace q30 := eq_true q30; have p33 : 0 ≤ (x6_4 : Int) := of_decide_eq_true (by first | (with_reducible assumption) | assumption); have q33 : x6_4 < (a1.size : Int) := of_decide_eq_true (by first | (with_reducible assumption) | assumption); have hx33 := bt_at a1 x6_4; replace p33 := eq_true p33; replace q33 := eq_true q33))
                                            go_roundg k4
                                            case measure => have := HJ2.out; have := HJ5.out; have := HJ8.out; have := HK4.out; omega
                                            case rel => exact ⟨(x5_4 ++ (⟨#[38, 35, 54, 53, 50, 55, 57, 59]⟩ : ByteArray)), (wrap64 ((wrap64 (x6_4 + 2)) + 1)), (by first | rfl | (simp; done) | (simp [*]; done)), (by first | rfl | (simp; done) | (simp [*]; done)), H', ⟨by have := HJ2.out; have := HJ5.out; have := HJ8.out; have := HK4.out; omega⟩, by repeat (first | exact Drawn0.refl _ | apply Drawn0.step)⟩
                                          · rw [if_neg c37] at H
                                            exact absurd H (by simp)
                                        · replace c36 := Bool.eq_false_iff.mpr c36
                                          subst c36
                                          have H1 : (if x6_4 ≤ (wrap64 (x6_4 + 1)) then (if (wrap64 (x6_4 + 1)) ≤ (a1.size : Int) then (if x5_4.size + (a1.extract (x6_4 : Int).toNat ((wrap64 (x6_4 + 1)) : Int).toNat).size ≤ 9223372036854775807 then (flailref21_Encode.l0 k4 a1 (x5_4 ++ (a1.extract (x6_4 : Int).toNat ((wrap64 (x6_4 + 1)) : Int).toNat)) (wrap64 (x6_4 + 1))) else (none)) else (none)) else (none)) = some r := by rw [if_neg (show ¬ (false = true) by decide)] at H; exact H
                                          clear H
                                          have H := H1
                                          clear H1
                                          have c38b0 := eq_true (of_decide_eq_true (by first | (with_reducible assumption) | assumption) : 0 ≤ x6_4)
                                          by_cases c39 : x6_4 ≤ (wrap64 (x6_4 + 1))
                                          · rw [if_pos c39] at H
                                            have c39b0 := eq_true c39
                                            have c39b1 : decide (x6_4 ≤ (wrap64 (x6_4 + 1))) = true := decide_eq_true c39
                                            by_cases c40 : (wrap64 (x6_4 + 1)) ≤ (a1.size : Int)
                                            · rw [if_pos c40] at H
                                              have c40b0 := eq_true c40
                                              have c40b1 : decide ((wrap64 (x6_4 + 1)) ≤ (a1.size : Int)) = true := decide_eq_true c40
                                              by_cases c41 : x5_4.size + (a1.extract (x6_4 : Int).toNat ((wrap64 (x6_4 + 1)) : Int).toNat).size ≤ 9223372036854775807
                                              · rw [if_pos c41] at H
                                                have c41b0 := eq_true c41
                                                have c41b1 : decide (x5_4.size + (a1.extract (x6_4 : Int).toNat ((wrap64 (x6_4 + 1)) : Int).toNat).size ≤ 9223372036854775807) = true := decide_eq_true c41
                                                try have c41b2 : (9223372036854775807 < x5_4.size + (a1.extract (x6_4 : Int).toNat ((wrap64 (x6_4 + 1)) : Int).toNat).size) = False := eq_false (Nat.not_lt.2 c41)
                                                have H' := Aside0.mk H
                                                clear H
                                                go_wp2_with (first | ((with_reducible refine gate_callee (f := 13) rfl ?_); refine goesL_ (some 29) rfl rfl Try.func13 (by kernel_rfl) rfl #[.string (a1.extract (x6_4 : Int).toNat a1.size), .string (⟨#[239, 187, 191]⟩ : ByteArray)] rfl (by (try simp only [List.map_toArray, List.map_cons, List.map_nil]); first | done | rfl | (simp only [List.length_drop, List.length_take]; rfl)) ?_; (with_reducible refine (flailref01_Begins.calls (a1.extract (x6_4 : Int).toNat a1.size) (⟨#[239, 187, 191]⟩ : ByteArray) false _ A14.out).mono ?_); rintro e w' ⟨rfl, ⟨nd, rfl⟩⟩; refine ⟨_, rfl, ?_⟩; have p15 : 0 ≤ (x6_4 : Int) := of_decide_eq_true (by first | (with_reducible assumption) | assumption); have q15 : x6_4 < (a1.size : Int) := of_decide_eq_true (by first | (with_reducible assumption) | assumption); have hx15 := bt_at a1 x6_4; replace p15 := eq_true p15; replace q15 := eq_true q15; have p18 : 0 ≤ (x6_4 : Int) := of_decide_eq_true (by first | (with_reducible assumption) | assumption); have q18 : x6_4 < (a1.size : Int) := of_decide_eq_true (by first | (with_reducible assumption) | assumption); have hx18 := bt_at a1 x6_4; replace p18 := eq_true p18; replace q18 := eq_true q18; have p21 : 0 ≤ (x6_4 : Int) := of_decide_eq_true (by first | (with_reducible assumption) | assumption); have q21 : x6_4 < (a1.size : Int) := of_decide_eq_true (by first | (with_reducible assumption) | assumption); have hx21 := bt_at a1 x6_4; replace p21 := eq_true p21; replace q21 := eq_true q21; have p24 : 0 ≤ (x6_4 : Int) := of_decide_eq_true (by first | (with_reducible assumption) | assumption); have q24 : x6_4 < (a1.size : Int) := of_decide_eq_true (by first | (with_reducible assumption) | assumption); have hx24 := bt_at a1 x6_4; replace p24 := eq_true p24; replace q24 := eq_true q24; have p27 : 0 ≤ (x6_4 : Int) := of_decide_eq_true (by first | (with_reducible assumption) | assumption); have q27 : x6_4 < (a1.size : Int) := of_decide_eq_true (by first | (with_reducible assumption) | assumption); have hx27 := bt_at a1 x6_4; replace p27 := eq_true p27; replace q27 := eq_true q27; have p30 : 0 ≤ (x6_4 : Int) := of_decide_eq_true (by first | (with_reducible assumption) | assumption); have q30 : x6_4 < (a1.size : Int) := of_decide_eq_true (by first | (with_reducible assumption) | assumption); have hx30 := bt_at a1 x6_4; replace p30 := eq_true p30; replace q30 := eq_true q30; have p33 : 0 ≤ (x6_4 : Int) := of_decide_eq_true (by first | (with_reducible assumption) | assumption); have q33 : x6_4 < (a1.size : Int) := of_decide_eq_true (by first | (with_reducible assumption) | assumption); have hx33 := bt_at a1 x6_4; replace p33 := eq_true p33; replace q33 := eq_true q33))
                                                go_roundg k4
                                                case measure => have := HJ2.out; have := HJ5.out; have := HJ8.out; have := HK4.out; omega
                                                case rel => exact ⟨(x5_4 ++ (a1.extract (x6_4 : Int).toNat ((wrap64 (x6_4 + 1)) : Int).toNat)), (wrap64 (x6_4 + 1)), (by first | rfl | (simp; done) | (simp [*]; done)), (by first | rfl | (simp; done) | (simp [*]; done)), H', ⟨by have := HJ2.out; have := HJ5.out; have := HJ8.out; have := HK4.out; omega⟩, by repeat (first | exact Drawn0.refl _ | apply Drawn0.step)⟩
                                              · rw [if_neg c41] at H
                                                exact absurd H (by simp)
                                            · rw [if_neg c40] at H
                                              exact absurd H (by simp)
                                          · rw [if_neg c39] at H
                                            exact absurd H (by simp)
                        · rw [if_neg c13] at H
                          exact absurd H (by simp)
                      · rw [if_neg c12] at H
                        exact absurd H (by simp)
                    · rw [if_neg c11] at H
                      have c11b0 : decide (x6_4 < (a1.size : Int)) = false := decide_eq_false c11
                      clear c11
                      obtain rfl := Option.some.inj H
                      go_wp2
                      go_ret
                      exact ⟨by first | rfl | (simp; done) | (simp [*]; done), by repeat (first | exact Drawn0.refl _ | apply Drawn0.step)⟩

end Go.Proofs.Ytajfpegacbohdaa.Se
