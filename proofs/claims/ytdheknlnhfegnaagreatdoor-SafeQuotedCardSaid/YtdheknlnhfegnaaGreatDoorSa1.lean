-- Written by a program of this session over the kit's printer: not by hand.
import Derived.Test.YtdheknlnhfegnaaGreatDoorSa0
namespace Go.Proofs.YtdheknlnhfegnaaGreatDoor.Sa
open Go.RowKit Go.Proofs.YtdheknlnhfegnaaGreatDoor.K0 Go.Proofs.YtdheknlnhfegnaaGreatDoor.Hand Go.Proofs.YtdheknlnhfegnaaGreatDoorW.PrintWords Go.Proofs.YtdheknlnhfegnaaGreatDoorW.PrintLast Go.Proofs.YtdheknlnhfegnaaGreatDoorW.PrintMore
attribute [local go_sem] max2_int min2_int max_two min_two max_three min_three max_four min_four   -- for this text's walks alone
set_option linter.unusedVariables false
set_option linter.unusedSimpArgs false

/-! ### sign_Begins: function 24 -/
def sign_Begins.f (a0 : ByteArray) (a1 : Int) (a2 : ByteArray) : Option (Bool) := if a1 < 0 then (some false) else (if a1 > (a0.size : Int) then (some false) else (if (wrap64 ((a0.size : Int) - a1)) < (a2.size : Int) then (some false) else (if 0 ≤ a1 then (if a1 ≤ (wrap64 (a1 + (a2.size : Int))) then (if (wrap64 (a1 + (a2.size : Int))) ≤ (a0.size : Int) then ((sign_Lower.f (a0.extract (a1 : Int).toNat ((wrap64 (a1 + (a2.size : Int))) : Int).toNat)).bind fun t101 => (some (t101.toList == a2.toList))) else (none)) else (none)) else (none))))
set_option maxHeartbeats 8000000 in
set_option maxRecDepth 100000 in
theorem sign_Begins.calls (a0 : ByteArray) (a1 : Int) (a2 : ByteArray) (r : Bool) (w : World) (h : sign_Begins.f a0 a1 a2 = some r) :
    Calls Tryz.prog 24 #[.string a0, .int .i64 a1, .string a2] w fun e w' => e = .returned (.bool r) ∧ Below w.heap.size w w' := by
  have HB := Aside0.mk (Below.refl w.heap.size w)
  have H : (if a1 < 0 then (some false) else (if a1 > (a0.size : Int) then (some false) else (if (wrap64 ((a0.size : Int) - a1)) < (a2.size : Int) then (some false) else (if 0 ≤ a1 then (if a1 ≤ (wrap64 (a1 + (a2.size : Int))) then (if (wrap64 (a1 + (a2.size : Int))) ≤ (a0.size : Int) then ((sign_Lower.f (a0.extract (a1 : Int).toNat ((wrap64 (a1 + (a2.size : Int))) : Int).toNat)).bind fun t101 => (some (t101.toList == a2.toList))) else (none)) else (none)) else (none))))) = some r := h
  clear h
  by_cases c4 : a1 < 0
  · rw [if_pos c4] at H
    have c4b0 : decide (a1 < 0) = true := decide_eq_true c4
    clear c4
    obtain rfl := Option.some.inj H
    go_enter Tryz.func24, Tryz.ntmps24
    go_wp2
    go_ret
    exact ⟨by first | rfl | (simp [errW_none, errW_some] <;> rfl) | (simp [*, errW_none, errW_some] <;> rfl), by repeat (first | (with_reducible first | exact HB.out | apply below_alloc | apply pw_below_drewN | apply below_drew1) | exact HB.out)⟩
  · rw [if_neg c4] at H
    have c4b0 : decide (a1 < 0) = false := decide_eq_false c4
    clear c4
    by_cases c5 : a1 > (a0.size : Int)
    · rw [if_pos c5] at H
      have c5b0 : decide ((a0.size : Int) < a1) = true := decide_eq_true c5
      clear c5
      obtain rfl := Option.some.inj H
      go_enter Tryz.func24, Tryz.ntmps24
      go_wp2
      go_ret
      exact ⟨by first | rfl | (simp [errW_none, errW_some] <;> rfl) | (simp [*, errW_none, errW_some] <;> rfl), by repeat (first | (with_reducible first | exact HB.out | apply below_alloc | apply pw_below_drewN | apply below_drew1) | exact HB.out)⟩
    · rw [if_neg c5] at H
      have c5b0 : decide ((a0.size : Int) < a1) = false := decide_eq_false c5
      clear c5
      by_cases c6 : (wrap64 ((a0.size : Int) - a1)) < (a2.size : Int)
      · rw [if_pos c6] at H
        have c6b0 : decide ((wrap64 ((a0.size : Int) - a1)) < (a2.size : Int)) = true := decide_eq_true c6
        clear c6
        obtain rfl := Option.some.inj H
        go_enter Tryz.func24, Tryz.ntmps24
        go_wp2
        go_ret
        exact ⟨by first | rfl | (simp [errW_none, errW_some] <;> rfl) | (simp [*, errW_none, errW_some] <;> rfl), by repeat (first | (with_reducible first | exact HB.out | apply below_alloc | apply pw_below_drewN | apply below_drew1) | exact HB.out)⟩
      · rw [if_neg c6] at H
        have c6b0 : decide ((wrap64 ((a0.size : Int) - a1)) < (a2.size : Int)) = false := decide_eq_false c6
        clear c6
        by_cases c7 : 0 ≤ a1
        · rw [if_pos c7] at H
          have c7b0 := eq_true c7
          have c7b1 : decide (0 ≤ a1) = true := decide_eq_true c7
          clear c7
          by_cases c8 : a1 ≤ (wrap64 (a1 + (a2.size : Int)))
          · rw [if_pos c8] at H
            have c8b0 := eq_true c8
            have c8b1 : decide (a1 ≤ (wrap64 (a1 + (a2.size : Int)))) = true := decide_eq_true c8
            by_cases c9 : (wrap64 (a1 + (a2.size : Int))) ≤ (a0.size : Int)
            · rw [if_pos c9] at H
              have c9b0 := eq_true c9
              have c9b1 : decide ((wrap64 (a1 + (a2.size : Int))) ≤ (a0.size : Int)) = true := decide_eq_true c9
              replace H := Option.bind_eq_some_iff.mp H
              obtain ⟨t101, A100, H⟩ := H
              replace H : (some (t101.toList == a2.toList)) = some r := H
              have A10 := Aside0.mk A100
              clear A100
              obtain rfl := Option.some.inj H
              go_enter Tryz.func24, Tryz.ntmps24
              go_wp2_with (first | ((with_reducible refine gate_callee (f := 25) rfl ?_); refine goesL_ (some 31) rfl rfl Tryz.func25 (by kernel_rfl) rfl #[.string (a0.extract (a1 : Int).toNat ((wrap64 (a1 + (a2.size : Int))) : Int).toNat)] rfl (by (try simp only [List.map_toArray, List.map_cons, List.map_nil]); first | done | rfl | (simp only [List.length_drop, List.length_take]; rfl)) ?_; (with_reducible refine (sign_Lower.calls (a0.extract (a1 : Int).toNat ((wrap64 (a1 + (a2.size : Int))) : Int).toNat) t101 _ A10.out).mono ?_); rintro e w11 ⟨rfl, hb⟩; refine ⟨_, rfl, ?_⟩; have n0_ := Aside0.mk (below_step (by repeat (first | (with_reducible first | exact HB.out | apply below_alloc | apply pw_below_drewN | apply below_drew1) | exact HB.out)) hb); clear HB; have HB := n0_; clear n0_; (try clear hb); (try clear hb2); (try clear hk); (try clear hi)))
              go_ret
              exact ⟨by first | rfl | (simp [errW_none, errW_some] <;> rfl) | (simp [*, errW_none, errW_some] <;> rfl), by repeat (first | (with_reducible first | exact HB.out | apply below_alloc | apply pw_below_drewN | apply below_drew1) | exact HB.out)⟩
            · rw [if_neg c9] at H
              exact absurd H (by simp)
          · rw [if_neg c8] at H
            exact absurd H (by simp)
        · rw [if_neg c7] at H
          exact absurd H (by simp)

/-! ### sign_within: function 43 -/
def sign_within.f (a0 : Int) (a1 : Int) (a2 : Int) : Option (Bool) := if a0 ≥ a1 then (some (decide (a0 ≤ a2))) else (some false)
set_option maxHeartbeats 8000000 in
set_option maxRecDepth 100000 in
theorem sign_within.calls (a0 : Int) (a1 : Int) (a2 : Int) (r : Bool) (w : World) (h : sign_within.f a0 a1 a2 = some r) :
    Calls Tryz.prog 43 #[.int .u8 a0, .int .u8 a1, .int .u8 a2] w fun e w' => e = .returned (.bool r) ∧ Drawn0 w w' := by
  have H : (if a0 ≥ a1 then (some (decide (a0 ≤ a2))) else (some false)) = some r := h
  clear h
  by_cases c4 : a0 ≥ a1
  · rw [if_pos c4] at H
    have c4b0 : decide (a1 ≤ a0) = true := decide_eq_true c4
    clear c4
    obtain rfl := Option.some.inj H
    go_enter Tryz.func43, Tryz.ntmps43
    go_wp2
    go_ret
    exact ⟨by first | rfl | (simp; done) | (simp [*]; done), by repeat (first | exact Drawn0.refl _ | apply Drawn0.step)⟩
  · rw [if_neg c4] at H
    have c4b0 : decide (a1 ≤ a0) = false := decide_eq_false c4
    clear c4
    obtain rfl := Option.some.inj H
    go_enter Tryz.func43, Tryz.ntmps43
    go_wp2
    go_ret
    exact ⟨by first | rfl | (simp; done) | (simp [*]; done), by repeat (first | exact Drawn0.refl _ | apply Drawn0.step)⟩

/-! ### sign_Digit: function 73 -/
def sign_Digit.f (a0 : Int) : Option (Bool) := (sign_within.f a0 48 57).bind fun t102 => (some t102)
set_option maxHeartbeats 8000000 in
set_option maxRecDepth 100000 in
theorem sign_Digit.calls (a0 : Int) (r : Bool) (w : World) (h : sign_Digit.f a0 = some r) :
    Calls Tryz.prog 73 #[.int .u8 a0] w fun e w' => e = .returned (.bool r) ∧ Drawn0 w w' := by
  have H : ((sign_within.f a0 48 57).bind fun t102 => (some t102)) = some r := h
  clear h
  replace H := Option.bind_eq_some_iff.mp H
  obtain ⟨t102, A20, H⟩ := H
  replace H : (some t102) = some r := H
  have A2 := Aside0.mk A20
  clear A20
  obtain rfl := Option.some.inj H
  go_enter Tryz.func73, Tryz.ntmps73
  go_wp2_with (first | ((with_reducible refine gate_callee (f := 43) rfl ?_); refine goesL_ (some 4) rfl rfl Tryz.func43 (by kernel_rfl) rfl #[.int .u8 a0, .int .u8 48, .int .u8 57] rfl (by (try simp only [List.map_toArray, List.map_cons, List.map_nil]); first | done | rfl | (simp only [List.length_drop, List.length_take]; rfl)) ?_; (with_reducible refine (sign_within.calls a0 48 57 t102 _ A2.out).mono ?_); rintro e w' ⟨rfl, ⟨nd, rfl⟩⟩; refine ⟨_, rfl, ?_⟩))
  go_ret
  exact ⟨by first | rfl | (simp; done) | (simp [*]; done), by repeat (first | exact Drawn0.refl _ | apply Drawn0.step)⟩

/-! ### sign_Hex: function 74 -/
def sign_Hex.f (a0 : Int) : Option (Int) := (sign_Digit.f a0).bind fun t103 => (if t103 = true then (some (wrap64 ((wrap64 (a0)) - 48))) else ((sign_within.f a0 65 70).bind fun t104 => (if t104 = true then (some (wrap64 ((wrap64 ((wrap64 ((wrap64 (a0)) + 32)) - 97)) + 10))) else ((sign_within.f a0 97 102).bind fun t105 => (if t105 = true then (some (wrap64 ((wrap64 ((wrap64 (a0)) - 97)) + 10))) else (some (-1)))))))
set_option maxHeartbeats 8000000 in
set_option maxRecDepth 100000 in
theorem sign_Hex.calls (a0 : Int) (r : Int) (w : World) (h : sign_Hex.f a0 = some r) :
    Calls Tryz.prog 74 #[.int .u8 a0] w fun e w' => e = .returned (.int .i64 r) ∧ Drawn0 w w' := by
  have H : ((sign_Digit.f a0).bind fun t103 => (if t103 = true then (some (wrap64 ((wrap64 (a0)) - 48))) else ((sign_within.f a0 65 70).bind fun t104 => (if t104 = true then (some (wrap64 ((wrap64 ((wrap64 ((wrap64 (a0)) + 32)) - 97)) + 10))) else ((sign_within.f a0 97 102).bind fun t105 => (if t105 = true then (some (wrap64 ((wrap64 ((wrap64 (a0)) - 97)) + 10))) else (some (-1)))))))) = some r := h
  clear h
  replace H := Option.bind_eq_some_iff.mp H
  obtain ⟨t103, A20, H⟩ := H
  replace H : (if t103 = true then (some (wrap64 ((wrap64 (a0)) - 48))) else ((sign_within.f a0 65 70).bind fun t104 => (if t104 = true then (some (wrap64 ((wrap64 ((wrap64 ((wrap64 (a0)) + 32)) - 97)) + 10))) else ((sign_within.f a0 97 102).bind fun t105 => (if t105 = true then (some (wrap64 ((wrap64 ((wrap64 (a0)) - 97)) + 10))) else (some (-1))))))) = some r := H
  have A2 := Aside0.mk A20
  clear A20
  by_cases c3 : t103 = true
  · subst c3
    have H1 : (some (wrap64 ((wrap64 (a0)) - 48))) = some r := by rw [if_pos rfl] at H; exact H
    clear H
    have H := H1
    clear H1
    obtain rfl := Option.some.inj H
    go_enter Tryz.func74, Tryz.ntmps74
    go_wp2_with (first | ((with_reducible refine gate_callee (f := 73) rfl ?_); refine goesL_ (some 8) rfl rfl Tryz.func73 (by kernel_rfl) rfl #[.int .u8 a0] rfl (by (try simp only [List.map_toArray, List.map_cons, List.map_nil]); first | done | rfl | (simp only [List.length_drop, List.length_take]; rfl)) ?_; (with_reducible refine (sign_Digit.calls a0 true _ A2.out).mono ?_); rintro e w' ⟨rfl, ⟨nd, rfl⟩⟩; refine ⟨_, rfl, ?_⟩))
    go_ret
    exact ⟨by first | rfl | (simp; done) | (simp [*]; done), by repeat (first | exact Drawn0.refl _ | apply Drawn0.step)⟩
  · replace c3 := Bool.eq_false_iff.mpr c3
    subst c3
    have H1 : ((sign_within.f a0 65 70).bind fun t104 => (if t104 = true then (some (wrap64 ((wrap64 ((wrap64 ((wrap64 (a0)) + 32)) - 97)) + 10))) else ((sign_within.f a0 97 102).bind fun t105 => (if t105 = true then (some (wrap64 ((wrap64 ((wrap64 (a0)) - 97)) + 10))) else (some (-1)))))) = some r := by rw [if_neg (show ¬ (false = true) by decide)] at H; exact H
    clear H
    have H := H1
    clear H1
    replace H := Option.bind_eq_some_iff.mp H
    obtain ⟨t104, A40, H⟩ := H
    replace H : (if t104 = true then (some (wrap64 ((wrap64 ((wrap64 ((wrap64 (a0)) + 32)) - 97)) + 10))) else ((sign_within.f a0 97 102).bind fun t105 => (if t105 = true then (some (wrap64 ((wrap64 ((wrap64 (a0)) - 97)) + 10))) else (some (-1))))) = some r := H
    have A4 := Aside0.mk A40
    clear A40
    by_cases c5 : t104 = true
    · subst c5
      have H1 : (some (wrap64 ((wrap64 ((wrap64 ((wrap64 (a0)) + 32)) - 97)) + 10))) = some r := by rw [if_pos rfl] at H; exact H
      clear H
      have H := H1
      clear H1
      obtain rfl := Option.some.inj H
      go_enter Tryz.func74, Tryz.ntmps74
      go_wp2_with (first | ((with_reducible refine gate_callee (f := 73) rfl ?_); refine goesL_ (some 8) rfl rfl Tryz.func73 (by kernel_rfl) rfl #[.int .u8 a0] rfl (by (try simp only [List.map_toArray, List.map_cons, List.map_nil]); first | done | rfl | (simp only [List.length_drop, List.length_take]; rfl)) ?_; (with_reducible refine (sign_Digit.calls a0 false _ A2.out).mono ?_); rintro e w' ⟨rfl, ⟨nd, rfl⟩⟩; refine ⟨_, rfl, ?_⟩) | ((with_reducible refine gate_callee (f := 43) rfl ?_); refine goesL_ (some 11) rfl rfl Tryz.func43 (by kernel_rfl) rfl #[.int .u8 a0, .int .u8 65, .int .u8 70] rfl (by (try simp only [List.map_toArray, List.map_cons, List.map_nil]); first | done | rfl | (simp only [List.length_drop, List.length_take]; rfl)) ?_; (with_reducible refine (sign_within.calls a0 65 70 true _ A4.out).mono ?_); rintro e w' ⟨rfl, ⟨nd, rfl⟩⟩; refine ⟨_, rfl, ?_⟩))
      go_ret
      exact ⟨by first | rfl | (simp; done) | (simp [*]; done), by repeat (first | exact Drawn0.refl _ | apply Drawn0.step)⟩
    · replace c5 := Bool.eq_false_iff.mpr c5
      subst c5
      have H1 : ((sign_within.f a0 97 102).bind fun t105 => (if t105 = true then (some (wrap64 ((wrap64 ((wrap64 (a0)) - 97)) + 10))) else (some (-1)))) = some r := by rw [if_neg (show ¬ (false = true) by decide)] at H; exact H
      clear H
      have H := H1
      clear H1
      replace H := Option.bind_eq_some_iff.mp H
      obtain ⟨t105, A60, H⟩ := H
      replace H : (if t105 = true then (some (wrap64 ((wrap64 ((wrap64 (a0)) - 97)) + 10))) else (some (-1))) = some r := H
      have A6 := Aside0.mk A60
      clear A60
      by_cases c7 : t105 = true
      · subst c7
        have H1 : (some (wrap64 ((wrap64 ((wrap64 (a0)) - 97)) + 10))) = some r := by rw [if_pos rfl] at H; exact H
        clear H
        have H := H1
        clear H1
        obtain rfl := Option.some.inj H
        go_enter Tryz.func74, Tryz.ntmps74
        go_wp2_with (first | ((with_reducible refine gate_callee (f := 73) rfl ?_); refine goesL_ (some 8) rfl rfl Tryz.func73 (by kernel_rfl) rfl #[.int .u8 a0] rfl (by (try simp only [List.map_toArray, List.map_cons, List.map_nil]); first | done | rfl | (simp only [List.length_drop, List.length_take]; rfl)) ?_; (with_reducible refine (sign_Digit.calls a0 false _ A2.out).mono ?_); rintro e w' ⟨rfl, ⟨nd, rfl⟩⟩; refine ⟨_, rfl, ?_⟩) | ((with_reducible refine gate_callee (f := 43) rfl ?_); refine goesL_ (some 11) rfl rfl Tryz.func43 (by kernel_rfl) rfl #[.int .u8 a0, .int .u8 65, .int .u8 70] rfl (by (try simp only [List.map_toArray, List.map_cons, List.map_nil]); first | done | rfl | (simp only [List.length_drop, List.length_take]; rfl)) ?_; (with_reducible refine (sign_within.calls a0 65 70 false _ A4.out).mono ?_); rintro e w' ⟨rfl, ⟨nd, rfl⟩⟩; refine ⟨_, rfl, ?_⟩) | ((with_reducible refine gate_callee (f := 43) rfl ?_); refine goesL_ (some 14) rfl rfl Tryz.func43 (by kernel_rfl) rfl #[.int .u8 a0, .int .u8 97, .int .u8 102] rfl (by (try simp only [List.map_toArray, List.map_cons, List.map_nil]); first | done | rfl | (simp only [List.length_drop, List.length_take]; rfl)) ?_; (with_reducible refine (sign_within.calls a0 97 102 true _ A6.out).mono ?_); rintro e w' ⟨rfl, ⟨nd, rfl⟩⟩; refine ⟨_, rfl, ?_⟩))
        go_ret
        exact ⟨by first | rfl | (simp; done) | (simp [*]; done), by repeat (first | exact Drawn0.refl _ | apply Drawn0.step)⟩
      · replace c7 := Bool.eq_false_iff.mpr c7
        subst c7
        have H1 : (some (-1)) = some r := by rw [if_neg (show ¬ (false = true) by decide)] at H; exact H
        clear H
        have H := H1
        clear H1
        obtain rfl := Option.some.inj H
        go_enter Tryz.func74, Tryz.ntmps74
        go_wp2_with (first | ((with_reducible refine gate_callee (f := 73) rfl ?_); refine goesL_ (some 8) rfl rfl Tryz.func73 (by kernel_rfl) rfl #[.int .u8 a0] rfl (by (try simp only [List.map_toArray, List.map_cons, List.map_nil]); first | done | rfl | (simp only [List.length_drop, List.length_take]; rfl)) ?_; (with_reducible refine (sign_Digit.calls a0 false _ A2.out).mono ?_); rintro e w' ⟨rfl, ⟨nd, rfl⟩⟩; refine ⟨_, rfl, ?_⟩) | ((with_reducible refine gate_callee (f := 43) rfl ?_); refine goesL_ (some 11) rfl rfl Tryz.func43 (by kernel_rfl) rfl #[.int .u8 a0, .int .u8 65, .int .u8 70] rfl (by (try simp only [List.map_toArray, List.map_cons, List.map_nil]); first | done | rfl | (simp only [List.length_drop, List.length_take]; rfl)) ?_; (with_reducible refine (sign_within.calls a0 65 70 false _ A4.out).mono ?_); rintro e w' ⟨rfl, ⟨nd, rfl⟩⟩; refine ⟨_, rfl, ?_⟩) | ((with_reducible refine gate_callee (f := 43) rfl ?_); refine goesL_ (some 14) rfl rfl Tryz.func43 (by kernel_rfl) rfl #[.int .u8 a0, .int .u8 97, .int .u8 102] rfl (by (try simp only [List.map_toArray, List.map_cons, List.map_nil]); first | done | rfl | (simp only [List.length_drop, List.length_take]; rfl)) ?_; (with_reducible refine (sign_within.calls a0 97 102 false _ A6.out).mono ?_); rintro e w' ⟨rfl, ⟨nd, rfl⟩⟩; refine ⟨_, rfl, ?_⟩))
        go_ret
        exact ⟨by first | rfl | (simp; done) | (simp [*]; done), by repeat (first | exact Drawn0.refl _ | apply Drawn0.step)⟩

/-! ### sign_Letter: function 89 -/
def sign_Letter.f (a0 : Int) : Option (Bool) := (sign_within.f (Go.bits .or .u8 a0 32) 97 122).bind fun t106 => (some t106)
set_option maxHeartbeats 8000000 in
set_option maxRecDepth 100000 in
theorem sign_Letter.calls (a0 : Int) (r : Bool) (w : World) (h : sign_Letter.f a0 = some r) :
    Calls Tryz.prog 89 #[.int .u8 a0] w fun e w' => e = .returned (.bool r) ∧ Drawn0 w w' := by
  have H : ((sign_within.f (Go.bits .or .u8 a0 32) 97 122).bind fun t106 => (some t106)) = some r := h
  clear h
  replace H := Option.bind_eq_some_iff.mp H
  obtain ⟨t106, A20, H⟩ := H
  replace H : (some t106) = some r := H
  have A2 := Aside0.mk A20
  clear A20
  obtain rfl := Option.some.inj H
  go_enter Tryz.func89, Tryz.ntmps89
  go_wp2_with (first | ((with_reducible refine gate_callee (f := 43) rfl ?_); refine goesL_ (some 5) rfl rfl Tryz.func43 (by kernel_rfl) rfl #[.int .u8 (Go.bits .or .u8 a0 32), .int .u8 97, .int .u8 122] rfl (by (try simp only [List.map_toArray, List.map_cons, List.map_nil]); first | done | rfl | (simp only [List.length_drop, List.length_take]; rfl)) ?_; (with_reducible refine (sign_within.calls (Go.bits .or .u8 a0 32) 97 122 t106 _ A2.out).mono ?_); rintro e w' ⟨rfl, ⟨nd, rfl⟩⟩; refine ⟨_, rfl, ?_⟩))
  go_ret
  exact ⟨by first | rfl | (simp; done) | (simp [*]; done), by repeat (first | exact Drawn0.refl _ | apply Drawn0.step)⟩

/-! ### sign_Word: function 82 -/
def sign_Word.f (a0 : Int) : Option (Bool) := (sign_Letter.f a0).bind fun t107 => (if t107 = true then (some true) else ((sign_Digit.f a0).bind fun t108 => (some t108)))
set_option maxHeartbeats 8000000 in
set_option maxRecDepth 100000 in
theorem sign_Word.calls (a0 : Int) (r : Bool) (w : World) (h : sign_Word.f a0 = some r) :
    Calls Tryz.prog 82 #[.int .u8 a0] w fun e w' => e = .returned (.bool r) ∧ Drawn0 w w' := by
  have H : ((sign_Letter.f a0).bind fun t107 => (if t107 = true then (some true) else ((sign_Digit.f a0).bind fun t108 => (some t108)))) = some r := h
  clear h
  replace H := Option.bind_eq_some_iff.mp H
  obtain ⟨t107, A20, H⟩ := H
  replace H : (if t107 = true then (some true) else ((sign_Digit.f a0).bind fun t108 => (some t108))) = some r := H
  have A2 := Aside0.mk A20
  clear A20
  by_cases c3 : t107 = true
  · subst c3
    have H1 : (some true) = some r := by rw [if_pos rfl] at H; exact H
    clear H
    have H := H1
    clear H1
    obtain rfl := Option.some.inj H
    go_enter Tryz.func82, Tryz.ntmps82
    go_wp2_with (first | ((with_reducible refine gate_callee (f := 89) rfl ?_); refine goesL_ (some 4) rfl rfl Tryz.func89 (by kernel_rfl) rfl #[.int .u8 a0] rfl (by (try simp only [List.map_toArray, List.map_cons, List.map_nil]); first | done | rfl | (simp only [List.length_drop, List.length_take]; rfl)) ?_; (with_reducible refine (sign_Letter.calls a0 true _ A2.out).mono ?_); rintro e w' ⟨rfl, ⟨nd, rfl⟩⟩; refine ⟨_, rfl, ?_⟩))
    go_ret
    exact ⟨by first | rfl | (simp; done) | (simp [*]; done), by repeat (first | exact Drawn0.refl _ | apply Drawn0.step)⟩
  · replace c3 := Bool.eq_false_iff.mpr c3
    subst c3
    have H1 : ((sign_Digit.f a0).bind fun t108 => (some t108)) = some r := by rw [if_neg (show ¬ (false = true) by decide)] at H; exact H
    clear H
    have H := H1
    clear H1
    replace H := Option.bind_eq_some_iff.mp H
    obtain ⟨t108, A40, H⟩ := H
    replace H : (some t108) = some r := H
    have A4 := Aside0.mk A40
    clear A40
    obtain rfl := Option.some.inj H
    go_enter Tryz.func82, Tryz.ntmps82
    go_wp2_with (first | ((with_reducible refine gate_callee (f := 89) rfl ?_); refine goesL_ (some 4) rfl rfl Tryz.func89 (by kernel_rfl) rfl #[.int .u8 a0] rfl (by (try simp only [List.map_toArray, List.map_cons, List.map_nil]); first | done | rfl | (simp only [List.length_drop, List.length_take]; rfl)) ?_; (with_reducible refine (sign_Letter.calls a0 false _ A2.out).mono ?_); rintro e w' ⟨rfl, ⟨nd, rfl⟩⟩; refine ⟨_, rfl, ?_⟩) | (go_at_call 73; (with_reducible refine (sign_Digit.calls a0 t108 _ A4.out).mono ?_); rintro e w' ⟨rfl, ⟨nd, rfl⟩⟩))
    go_ret
    exact ⟨by first | rfl | (simp; done) | (simp [*]; done), by repeat (first | exact Drawn0.refl _ | apply Drawn0.step)⟩

/-! ### sign_Space: function 42 -/
def sign_Space.f (a0 : Int) : Option (Bool) := if a0 = 32 then (some true) else (if a0 = 9 then (some true) else (if a0 = 10 then (some true) else (some (a0 == 12))))
set_option maxHeartbeats 8000000 in
set_option maxRecDepth 100000 in
theorem sign_Space.calls (a0 : Int) (r : Bool) (w : World) (h : sign_Space.f a0 = some r) :
    Calls Tryz.prog 42 #[.int .u8 a0] w fun e w' => e = .returned (.bool r) ∧ Drawn0 w w' := by
  have H : (if a0 = 32 then (some true) else (if a0 = 9 then (some true) else (if a0 = 10 then (some true) else (some (a0 == 12))))) = some r := h
  clear h
  by_cases c2 : a0 = 32
  · rw [if_pos c2] at H
    have c2b0 : (a0 == 32) = true := beq_iff_eq.mpr c2
    have c2b1 : (a0 != 32) = false := bne_eq_false_iff_eq.mpr c2
    clear c2
    obtain rfl := Option.some.inj H
    go_enter Tryz.func42, Tryz.ntmps42
    go_wp2
    go_ret
    exact ⟨by first | rfl | (simp; done) | (simp [*]; done), by repeat (first | exact Drawn0.refl _ | apply Drawn0.step)⟩
  · rw [if_neg c2] at H
    have c2b0 : (a0 == 32) = false := beq_eq_false_iff_ne.mpr c2
    have c2b1 : (a0 != 32) = true := bne_iff_ne.mpr c2
    by_cases c3 : a0 = 9
    · rw [if_pos c3] at H
      have c3b0 : (a0 == 9) = true := beq_iff_eq.mpr c3
      have c3b1 : (a0 != 9) = false := bne_eq_false_iff_eq.mpr c3
      clear c3
      obtain rfl := Option.some.inj H
      go_enter Tryz.func42, Tryz.ntmps42
      go_wp2
      go_ret
      exact ⟨by first | rfl | (simp; done) | (simp [*]; done), by repeat (first | exact Drawn0.refl _ | apply Drawn0.step)⟩
    · rw [if_neg c3] at H
      have c3b0 : (a0 == 9) = false := beq_eq_false_iff_ne.mpr c3
      have c3b1 : (a0 != 9) = true := bne_iff_ne.mpr c3
      by_cases c4 : a0 = 10
      · rw [if_pos c4] at H
        have c4b0 : (a0 == 10) = true := beq_iff_eq.mpr c4
        have c4b1 : (a0 != 10) = false := bne_eq_false_iff_eq.mpr c4
        clear c4
        obtain rfl := Option.some.inj H
        go_enter Tryz.func42, Tryz.ntmps42
        go_wp2
        go_ret
        exact ⟨by first | rfl | (simp; done) | (simp [*]; done), by repeat (first | exact Drawn0.refl _ | apply Drawn0.step)⟩
      · rw [if_neg c4] at H
        have c4b0 : (a0 == 10) = false := beq_eq_false_iff_ne.mpr c4
        have c4b1 : (a0 != 10) = true := bne_iff_ne.mpr c4
        obtain rfl := Option.some.inj H
        go_enter Tryz.func42, Tryz.ntmps42
        go_wp2
        go_ret
        exact ⟨by first | rfl | (simp; done) | (simp [*]; done), by repeat (first | exact Drawn0.refl _ | apply Drawn0.step)⟩

/-! ### ref_kept: function 53 -/
def ref_kept.f (a0 : ByteArray) (a1 : Int) : Option (Bool) := if a1 < (a0.size : Int) then (if 0 ≤ a1 then (if (bt a0 a1) = 61 then (some true) else ((sign_Word.f (bt a0 a1)).bind fun t109 => (some t109))) else (none)) else (some false)
set_option maxHeartbeats 8000000 in
set_option maxRecDepth 100000 in
theorem ref_kept.calls (a0 : ByteArray) (a1 : Int) (r : Bool) (w : World) (h : ref_kept.f a0 a1 = some r) :
    Calls Tryz.prog 53 #[.string a0, .int .i64 a1] w fun e w' => e = .returned (.bool r) ∧ Drawn0 w w' := by
  have H : (if a1 < (a0.size : Int) then (if 0 ≤ a1 then (if (bt a0 a1) = 61 then (some true) else ((sign_Word.f (bt a0 a1)).bind fun t109 => (some t109))) else (none)) else (some false)) = some r := h
  clear h
  by_cases c3 : a1 < (a0.size : Int)
  · rw [if_pos c3] at H
    have c3b0 : decide (a1 < (a0.size : Int)) = true := decide_eq_true c3
    clear c3
    by_cases c4 : 0 ≤ a1
    · rw [if_pos c4] at H
      have c4b0 : decide (0 ≤ a1) = true := decide_eq_true c4
      clear c4
      by_cases c6 : (bt a0 a1) = 61
      · rw [if_pos c6] at H
        have c6b0 : ((bt a0 a1) == 61) = true := beq_iff_eq.mpr c6
        have c6b1 : ((bt a0 a1) != 61) = false := bne_eq_false_iff_eq.mpr c6
        clear c6
        obtain rfl := Option.some.inj H
        have p5 : 0 ≤ (a1 : Int) := of_decide_eq_true (by first | (with_reducible assumption) | assumption)
        have q5 : a1 < (a0.size : Int) := of_decide_eq_true (by first | (with_reducible assumption) | assumption)
        have hx5 := bt_at a0 a1
        replace p5 := eq_true p5
        replace q5 := eq_true q5
        go_enter Tryz.func53, Tryz.ntmps53
        go_wp2
        go_ret
        exact ⟨by first | rfl | (simp; done) | (simp [*]; done), by repeat (first | exact Drawn0.refl _ | apply Drawn0.step)⟩
      · rw [if_neg c6] at H
        have c6b0 : ((bt a0 a1) == 61) = false := beq_eq_false_iff_ne.mpr c6
        have c6b1 : ((bt a0 a1) != 61) = true := bne_iff_ne.mpr c6
        replace H := Option.bind_eq_some_iff.mp H
        obtain ⟨t109, A80, H⟩ := H
        replace H : (some t109) = some r := H
        have A8 := Aside0.mk A80
        clear A80
        obtain rfl := Option.some.inj H
        have p5 : 0 ≤ (a1 : Int) := of_decide_eq_true (by first | (with_reducible assumption) | assumption)
        have q5 : a1 < (a0.size : Int) := of_decide_eq_true (by first | (with_reducible assumption) | assumption)
        have hx5 := bt_at a0 a1
        replace p5 := eq_true p5
        replace q5 := eq_true q5
        have p7 : 0 ≤ (a1 : Int) := of_decide_eq_true (by first | (with_reducible assumption) | assumption)
        have q7 : a1 < (a0.size : Int) := of_decide_eq_true (by first | (with_reducible assumption) | assumption)
        have hx7 := bt_at a0 a1
        replace p7 := eq_true p7
        replace q7 := eq_true q7
        go_enter Tryz.func53, Tryz.ntmps53
        go_wp2_with (first | (go_at_call 82; (with_reducible refine (sign_Word.calls (bt a0 a1) t109 _ A8.out).mono ?_); rintro e w' ⟨rfl, ⟨nd, rfl⟩⟩))
        go_ret
        exact ⟨by first | rfl | (simp; done) | (simp [*]; done), by repeat (first | exact Drawn0.refl _ | apply Drawn0.step)⟩
    · rw [if_neg c4] at H
      exact absurd H (by simp)
  · rw [if_neg c3] at H
    have c3b0 : decide (a1 < (a0.size : Int)) = false := decide_eq_false c3
    clear c3
    obtain rfl := Option.some.inj H
    go_enter Tryz.func53, Tryz.ntmps53
    go_wp2
    go_ret
    exact ⟨by first | rfl | (simp; done) | (simp [*]; done), by repeat (first | exact Drawn0.refl _ | apply Drawn0.step)⟩

/-! ### raw_Ends: function 109 -/
def raw_Ends.j0 : Nat → ByteArray → Int → ByteArray → Bool → Option (Bool)
  | 0, _, _, _, _ => none
  | k + 1, x0, x1, x2, x24 => if x24 = true then (some false) else (if (wrap64 ((wrap64 (x1 + 2)) + (x2.size : Int))) = (x0.size : Int) then (some false) else (if 0 ≤ (wrap64 ((wrap64 (x1 + 2)) + (x2.size : Int))) then (if (wrap64 ((wrap64 (x1 + 2)) + (x2.size : Int))) < (x0.size : Int) then ((sign_Space.f (bt x0 (wrap64 ((wrap64 (x1 + 2)) + (x2.size : Int))))).bind fun t112 => (if t112 = true then (some true) else (if (bt x0 (wrap64 ((wrap64 (x1 + 2)) + (x2.size : Int)))) = 47 then (some true) else (some ((bt x0 (wrap64 ((wrap64 (x1 + 2)) + (x2.size : Int)))) == 62))))) else (none)) else (none)))
def raw_Ends.f (k : Nat) (a0 : ByteArray) (a1 : Int) (a2 : ByteArray) : Option (Bool) := if a2.toList = ([] : List UInt8) then (raw_Ends.j0 k a0 a1 a2 true) else ((sign_Begins.f a0 a1 (⟨#[60, 47]⟩ : ByteArray)).bind fun t110 => (if t110 = true then ((sign_Begins.f a0 (wrap64 (a1 + 2)) a2).bind fun t111 => (raw_Ends.j0 k a0 a1 a2 (!t111))) else (raw_Ends.j0 k a0 a1 a2 true)))
theorem raw_Ends.mono_l : ∀ k, (∀ y0 y1 y2 y3, LeO (raw_Ends.j0 k y0 y1 y2 y3) (raw_Ends.j0 (k + 1) y0 y1 y2 y3))
  | 0 => fun _ _ _ _ r h => by simp [raw_Ends.j0] at h
  | k + 1 => by
    have ih0 := raw_Ends.mono_l k
    · intro y0 y1 y2 y3
      unfold raw_Ends.j0
      repeat' first
      | (with_reducible exact ih0 _ _ _ _)
      | (with_reducible exact LeO.refl _)
      | (with_reducible exact LeO.none _)
      | (with_reducible refine LeO.ite ?_ ?_)
      | (with_reducible refine LeO.bind ?_ (fun _ => ?_))
      | exact ih0 _ _ _ _
      | exact LeO.none _
      | refine LeO.ite ?_ ?_
      | refine LeO.bind ?_ (fun _ => ?_)
theorem raw_Ends.mono : ∀ a0 a1 a2 k, LeO (raw_Ends.f k a0 a1 a2) (raw_Ends.f (k + 1) a0 a1 a2) := by
  intro a0 a1 a2 k
  have ih0 := raw_Ends.mono_l k
  unfold raw_Ends.f
  repeat' first
      | (with_reducible exact ih0 _ _ _ _)
      | (with_reducible exact LeO.refl _)
      | (with_reducible exact LeO.none _)
      | (with_reducible refine LeO.ite ?_ ?_)
      | (with_reducible refine LeO.bind ?_ (fun _ => ?_))
      | exact ih0 _ _ _ _
      | exact LeO.none _
      | refine LeO.ite ?_ ?_
      | refine LeO.bind ?_ (fun _ => ?_)
set_option maxHeartbeats 8000000 in
set_option maxRecDepth 100000 in
theorem raw_Ends.calls (k : Nat) (a0 : ByteArray) (a1 : Int) (a2 : ByteArray) (r : Bool) (w : World) (h : raw_Ends.f k a0 a1 a2 = some r) :
    Calls Tryz.prog 109 #[.string a0, .int .i64 a1, .string a2] w fun e w' => e = .returned (.bool r) ∧ Below w.heap.size w w' := by
  have HB := Aside0.mk (Below.refl w.heap.size w)
  have H : (if a2.toList = ([] : List UInt8) then (raw_Ends.j0 k a0 a1 a2 true) else ((sign_Begins.f a0 a1 (⟨#[60, 47]⟩ : ByteArray)).bind fun t110 => (if t110 = true then ((sign_Begins.f a0 (wrap64 (a1 + 2)) a2).bind fun t111 => (raw_Ends.j0 k a0 a1 a2 (!t111))) else (raw_Ends.j0 k a0 a1 a2 true)))) = some r := h
  clear h
  have HC4 := Aside0.mk H
  clear H
  go_enter Tryz.func109, Tryz.ntmps109
  go_upto_region 1 with (fail)
  go_cut [24] (fun v24 wc => ∃ (kq : Nat) (x24_3 : Bool), v24 = .bool x24_3 ∧ Aside0 (raw_Ends.j0 kq a0 a1 a2 x24_3 = some r) ∧ Aside0 (kq ≤ k) ∧ Aside0 (Below w.heap.size w wc))
  case first =>
    have H := HC4.out
    clear HC4
    by_cases c5 : a2.toList = ([] : List UInt8)
    · rw [if_pos c5] at H
      have c5b0 : (a2.toList == ([] : List UInt8)) = true := beq_iff_eq.mpr c5
      have c5b1 : (a2.toList != ([] : List UInt8)) = false := bne_eq_false_iff_eq.mpr c5
      clear c5
      (first | rw [c5b0] | (simp only [i64_w, i32_w]; rw [c5b0]) | skip)
      have H' := Aside0.mk H
      clear H
      go_wp2
      go_meet
      case rel => exact ⟨_, (true), (by first | rfl | (simp; done) | (simp [*]; done)), H', ⟨by first | omega | exact Nat.le_refl _⟩, ⟨by repeat (first | (with_reducible first | exact HB.out | apply below_alloc | apply pw_below_drewN | apply below_drew1) | exact HB.out)⟩⟩
    · rw [if_neg c5] at H
      have c5b0 : (a2.toList == ([] : List UInt8)) = false := beq_eq_false_iff_ne.mpr c5
      have c5b1 : (a2.toList != ([] : List UInt8)) = true := bne_iff_ne.mpr c5
      (first | rw [c5b0] | (simp only [i64_w, i32_w]; rw [c5b0]) | skip)
      replace H := Option.bind_eq_some_iff.mp H
      obtain ⟨t110, A60, H⟩ := H
      replace H : (if t110 = true then ((sign_Begins.f a0 (wrap64 (a1 + 2)) a2).bind fun t111 => (raw_Ends.j0 k a0 a1 a2 (!t111))) else (raw_Ends.j0 k a0 a1 a2 true)) = some r := H
      have A6 := Aside0.mk A60
      clear A60
      by_cases c7 : t110 = true
      · subst c7
        have H1 : ((sign_Begins.f a0 (wrap64 (a1 + 2)) a2).bind fun t111 => (raw_Ends.j0 k a0 a1 a2 (!t111))) = some r := by rw [if_pos rfl] at H; exact H
        clear H
        have H := H1
        clear H1
        replace H := Option.bind_eq_some_iff.mp H
        obtain ⟨t111, A80, H⟩ := H
        replace H : (raw_Ends.j0 k a0 a1 a2 (!t111)) = some r := H
        have A8 := Aside0.mk A80
        clear A80
        have H' := Aside0.mk H
        clear H
        go_wp2_with (first | (go_at_call 24; (with_reducible refine (sign_Begins.calls a0 a1 (⟨#[60, 47]⟩ : ByteArray) true _ A6.out).mono ?_); rintro e w9 ⟨rfl, hb⟩; have n0_ := Aside0.mk (below_step (by repeat (first | (with_reducible first | exact HB.out | apply below_alloc | apply pw_below_drewN | apply below_drew1) | exact HB.out)) hb); clear HB; have HB := n0_; clear n0_; (try clear hb); (try clear hb2); (try clear hk); (try clear hi)) | (go_at_call 24; (with_reducible refine (sign_Begins.calls a0 (wrap64 (a1 + 2)) a2 t111 _ A8.out).mono ?_); rintro e w10 ⟨rfl, hb⟩; have n0_ := Aside0.mk (below_step (by repeat (first | (with_reducible first | exact HB.out | apply below_alloc | apply pw_below_drewN | apply below_drew1) | exact HB.out)) hb); clear HB; have HB := n0_; clear n0_; (try clear hb); (try clear hb2); (try clear hk); (try clear hi)))
        go_meet
        case rel => exact ⟨_, (!t111), (by first | rfl | (simp; done) | (simp [*]; done)), H', ⟨by first | omega | exact Nat.le_refl _⟩, ⟨by repeat (first | (with_reducible first | exact HB.out | apply below_alloc | apply pw_below_drewN | apply below_drew1) | exact HB.out)⟩⟩
      · replace c7 := Bool.eq_false_iff.mpr c7
        subst c7
        have H1 : (raw_Ends.j0 k a0 a1 a2 true) = some r := by rw [if_neg (show ¬ (false = true) by decide)] at H; exact H
        clear H
        have H := H1
        clear H1
        have H' := Aside0.mk H
        clear H
        go_wp2_with (first | (go_at_call 24; (with_reducible refine (sign_Begins.calls a0 a1 (⟨#[60, 47]⟩ : ByteArray) false _ A6.out).mono ?_); rintro e w11 ⟨rfl, hb⟩; have n0_ := Aside0.mk (below_step (by repeat (first | (with_reducible first | exact HB.out | apply below_alloc | apply pw_below_drewN | apply below_drew1) | exact HB.out)) hb); clear HB; have HB := n0_; clear n0_; (try clear hb); (try clear hb2); (try clear hk); (try clear hi)))
        go_meet
        case rel => exact ⟨_, (true), (by first | rfl | (simp; done) | (simp [*]; done)), H', ⟨by first | omega | exact Nat.le_refl _⟩, ⟨by repeat (first | (with_reducible first | exact HB.out | apply below_alloc | apply pw_below_drewN | apply below_drew1) | exact HB.out)⟩⟩
  case rest =>
    clear HC4
    try clear c1
    try clear p2
    try clear c5
    try clear c5b0
    try clear c5b1
    try clear p6
    try clear c7
    try clear c10
    obtain ⟨kq, x24_3, rfl, HA, HJ3, HB⟩ := hcut
    cases kq with
    | zero => exact absurd HA.out (by simp [raw_Ends.j0])
    | succ kj3 =>
      have H := HA.out
      clear HA
      simp only [raw_Ends.j0] at H
      by_cases c12 : x24_3 = true
      · subst c12
        have H1 : (some false) = some r := by rw [if_pos rfl] at H; exact H
        clear H
        have H := H1
        clear H1
        obtain rfl := Option.some.inj H
        go_wp2
        go_ret
        exact ⟨by first | rfl | (simp [errW_none, errW_some] <;> rfl) | (simp [*, errW_none, errW_some] <;> rfl), by repeat (first | (with_reducible first | exact HB.out | apply below_alloc | apply pw_below_drewN | apply below_drew1) | exact HB.out)⟩
      · replace c12 := Bool.eq_false_iff.mpr c12
        subst c12
        have H1 : (if (wrap64 ((wrap64 (a1 + 2)) + (a2.size : Int))) = (a0.size : Int) then (some false) else (if 0 ≤ (wrap64 ((wrap64 (a1 + 2)) + (a2.size : Int))) then (if (wrap64 ((wrap64 (a1 + 2)) + (a2.size : Int))) < (a0.size : Int) then ((sign_Space.f (bt a0 (wrap64 ((wrap64 (a1 + 2)) + (a2.size : Int))))).bind fun t112 => (if t112 = true then (some true) else (if (bt a0 (wrap64 ((wrap64 (a1 + 2)) + (a2.size : Int)))) = 47 then (some true) else (some ((bt a0 (wrap64 ((wrap64 (a1 + 2)) + (a2.size : Int)))) == 62))))) else (none)) else (none))) = some r := by rw [if_neg (show ¬ (false = true) by decide)] at H; exact H
        clear H
        have H := H1
        clear H1
        by_cases c13 : (wrap64 ((wrap64 (a1 + 2)) + (a2.size : Int))) = (a0.size : Int)
        · rw [if_pos c13] at H
          have c13b0 : ((wrap64 ((wrap64 (a1 + 2)) + (a2.size : Int))) == (a0.size : Int)) = true := beq_iff_eq.mpr c13
          have c13b1 : ((wrap64 ((wrap64 (a1 + 2)) + (a2.size : Int))) != (a0.size : Int)) = false := bne_eq_false_iff_eq.mpr c13
          clear c13
          obtain rfl := Option.some.inj H
          go_wp2
          go_ret
          exact ⟨by first | rfl | (simp [errW_none, errW_some] <;> rfl) | (simp [*, errW_none, errW_some] <;> rfl), by repeat (first | (with_reducible first | exact HB.out | apply below_alloc | apply pw_below_drewN | apply below_drew1) | exact HB.out)⟩
        · rw [if_neg c13] at H
          have c13b0 : ((wrap64 ((wrap64 (a1 + 2)) + (a2.size : Int))) == (a0.size : Int)) = false := beq_eq_false_iff_ne.mpr c13
          have c13b1 : ((wrap64 ((wrap64 (a1 + 2)) + (a2.size : Int))) != (a0.size : Int)) = true := bne_iff_ne.mpr c13
          obtain ⟨ji14, hji14⟩ : ∃ j_ : Int, (wrap64 ((wrap64 (a1 + 2)) + (a2.size : Int))) = j_ := ⟨_, rfl⟩
          replace H : (if 0 ≤ (ji14) then (if (ji14) < (a0.size : Int) then ((sign_Space.f (bt a0 (ji14))).bind fun t112 => (if t112 = true then (some true) else (if (bt a0 (ji14)) = 47 then (some true) else (some ((bt a0 (ji14)) == 62))))) else (none)) else (none)) = some r := by first | (rw [hji14] at H; exact H) | (simp only [hji14] at H ⊢; exact H)
          (try rw [hji14] at c13b0)
          (try rw [hji14] at c13b1)
          have hji14w : (IntKind.i64.wrap ((wrap64 (a1 + 2)) + (a2.size : Int))) = ji14 := (i64_w _).trans hji14
          by_cases c15 : 0 ≤ (ji14)
          · rw [if_pos c15] at H
            have c15b0 : decide (0 ≤ (ji14)) = true := decide_eq_true c15
            clear c15
            by_cases c16 : (ji14) < (a0.size : Int)
            · rw [if_pos c16] at H
              have c16b0 : decide ((ji14) < (a0.size : Int)) = true := decide_eq_true c16
              clear c16
              replace H := Option.bind_eq_some_iff.mp H
              obtain ⟨t112, A180, H⟩ := H
              replace H : (if t112 = true then (some true) else (if (bt a0 (ji14)) = 47 then (some true) else (some ((bt a0 (ji14)) == 62)))) = some r := H
              have A18 := Aside0.mk A180
              clear A180
              by_cases c19 : t112 = true
              · subst c19
                have H1 : (some true) = some r := by rw [if_pos rfl] at H; exact H
                clear H
                have H := H1
                clear H1
                obtain rfl := Option.some.inj H
                have p17 : 0 ≤ ((ji14) : Int) := of_decide_eq_true (by first | (with_reducible assumption) | assumption)
                have q17 : (ji14) < (a0.size : Int) := of_decide_eq_true (by first | (with_reducible assumption) | assumption)
                have hx17 := bt_at a0 (ji14)
                replace p17 := eq_true p17
                replace q17 := eq_true q17
                go_wp2_with (first | ((with_reducible refine gate_callee (f := 42) rfl ?_); refine goesL_ (some 38) rfl rfl Tryz.func42 (by kernel_rfl) rfl #[.int .u8 (bt a0 (ji14))] rfl (by (try simp only [List.map_toArray, List.map_cons, List.map_nil]); first | done | (simp only [hji14]; rfl) | rfl | (simp only [List.length_drop, List.length_take]; rfl)) ?_; (with_reducible refine (sign_Space.calls (bt a0 (ji14)) true _ A18.out).mono ?_); rintro e w' ⟨rfl, ⟨nd, rfl⟩⟩; refine ⟨_, rfl, ?_⟩))
                go_ret
                exact ⟨by first | rfl | (simp [errW_none, errW_some] <;> rfl) | (simp only [← hji14]; first | rfl | (simp [errW_none, errW_some] <;> rfl)) | (simp [*, errW_none, errW_some] <;> rfl), by repeat (first | (with_reducible first | exact HB.out | apply below_alloc | apply pw_below_drewN | apply below_drew1) | exact HB.out)⟩
              · replace c19 := Bool.eq_false_iff.mpr c19
                subst c19
                have H1 : (if (bt a0 (ji14)) = 47 then (some true) else (some ((bt a0 (ji14)) == 62))) = some r := by rw [if_neg (show ¬ (false = true) by decide)] at H; exact H
                clear H
                have H := H1
                clear H1
                by_cases c20 : (bt a0 (ji14)) = 47
                · rw [if_pos c20] at H
                  have c20b0 : ((bt a0 (ji14)) == 47) = true := beq_iff_eq.mpr c20
                  have c20b1 : ((bt a0 (ji14)) != 47) = false := bne_eq_false_iff_eq.mpr c20
                  clear c20
                  obtain rfl := Option.some.inj H
                  have p17 : 0 ≤ ((ji14) : Int) := of_decide_eq_true (by first | (with_reducible assumption) | assumption)
                  have q17 : (ji14) < (a0.size : Int) := of_decide_eq_true (by first | (with_reducible assumption) | assumption)
                  have hx17 := bt_at a0 (ji14)
                  replace p17 := eq_true p17
                  replace q17 := eq_true q17
                  go_wp2_with (first | ((with_reducible refine gate_callee (f := 42) rfl ?_); refine goesL_ (some 38) rfl rfl Tryz.func42 (by kernel_rfl) rfl #[.int .u8 (bt a0 (ji14))] rfl (by (try simp only [List.map_toArray, List.map_cons, List.map_nil]); first | done | (simp only [hji14]; rfl) | rfl | (simp only [List.length_drop, List.length_take]; rfl)) ?_; (with_reducible refine (sign_Space.calls (bt a0 (ji14)) false _ A18.out).mono ?_); rintro e w' ⟨rfl, ⟨nd, rfl⟩⟩; refine ⟨_, rfl, ?_⟩))
                  go_ret
                  exact ⟨by first | rfl | (simp [errW_none, errW_some] <;> rfl) | (simp only [← hji14]; first | rfl | (simp [errW_none, errW_some] <;> rfl)) | (simp [*, errW_none, errW_some] <;> rfl), by repeat (first | (with_reducible first | exact HB.out | apply below_alloc | apply pw_below_drewN | apply below_drew1) | exact HB.out)⟩
                · rw [if_neg c20] at H
                  have c20b0 : ((bt a0 (ji14)) == 47) = false := beq_eq_false_iff_ne.mpr c20
                  have c20b1 : ((bt a0 (ji14)) != 47) = true := bne_iff_ne.mpr c20
                  obtain rfl := Option.some.inj H
                  have p17 : 0 ≤ ((ji14) : Int) := of_decide_eq_true (by first | (with_reducible assumption) | assumption)
                  have q17 : (ji14) < (a0.size : Int) := of_decide_eq_true (by first | (with_reducible assumption) | assumption)
                  have hx17 := bt_at a0 (ji14)
                  replace p17 := eq_true p17
                  replace q17 := eq_true q17
                  go_wp2_with (first | ((with_reducible refine gate_callee (f := 42) rfl ?_); refine goesL_ (some 38) rfl rfl Tryz.func42 (by kernel_rfl) rfl #[.int .u8 (bt a0 (ji14))] rfl (by (try simp only [List.map_toArray, List.map_cons, List.map_nil]); first | done | (simp only [hji14]; rfl) | rfl | (simp only [List.length_drop, List.length_take]; rfl)) ?_; (with_reducible refine (sign_Space.calls (bt a0 (ji14)) false _ A18.out).mono ?_); rintro e w' ⟨rfl, ⟨nd, rfl⟩⟩; refine ⟨_, rfl, ?_⟩))
                  go_ret
                  exact ⟨by first | rfl | (simp [errW_none, errW_some] <;> rfl) | (simp only [← hji14]; first | rfl | (simp [errW_none, errW_some] <;> rfl)) | (simp [*, errW_none, errW_some] <;> rfl), by repeat (first | (with_reducible first | exact HB.out | apply below_alloc | apply pw_below_drewN | apply below_drew1) | exact HB.out)⟩
            · rw [if_neg c16] at H
              exact absurd H (by simp)
          · rw [if_neg c15] at H
            exact absurd H (by simp)

/-! ### script_word: function 110 -/
def script_word.j0 : Nat → ByteArray → Int → Int → Bool → Option (Int)
  | 0, _, _, _, _ => none
  | k + 1, x0, x1, x7, x25 => if x25 = true then (some 0) else (if 0 ≤ (wrap64 (x1 + x7)) then (if (wrap64 (x1 + x7)) < (x0.size : Int) then ((sign_Space.f (bt x0 (wrap64 (x1 + x7)))).bind fun t114 => (if t114 = true then (some (wrap64 (x7 + 1))) else (if (bt x0 (wrap64 (x1 + x7))) = 47 then (some (wrap64 (x7 + 1))) else (if (bt x0 (wrap64 (x1 + x7))) = 62 then (some (wrap64 (x7 + 1))) else (some 0))))) else (none)) else (none))
def script_word.f (k : Nat) (a0 : ByteArray) (a1 : Int) (a2 : ByteArray) : Option (Int) := if a2.size + 6 ≤ 9223372036854775807 then ((sign_Begins.f a0 a1 (a2 ++ (⟨#[115, 99, 114, 105, 112, 116]⟩ : ByteArray))).bind fun t113 => (if t113 = true then (script_word.j0 k a0 a1 (wrap64 ((a2.size : Int) + 6)) ((wrap64 (a1 + (wrap64 ((a2.size : Int) + 6)))) == (a0.size : Int))) else (script_word.j0 k a0 a1 (wrap64 ((a2.size : Int) + 6)) true))) else (none)
theorem script_word.mono_l : ∀ k, (∀ y0 y1 y2 y3, LeO (script_word.j0 k y0 y1 y2 y3) (script_word.j0 (k + 1) y0 y1 y2 y3))
  | 0 => fun _ _ _ _ r h => by simp [script_word.j0] at h
  | k + 1 => by
    have ih0 := script_word.mono_l k
    · intro y0 y1 y2 y3
      unfold script_word.j0
      repeat' first
      | (with_reducible exact ih0 _ _ _ _)
      | (with_reducible exact LeO.refl _)
      | (with_reducible exact LeO.none _)
      | (with_reducible refine LeO.ite ?_ ?_)
      | (with_reducible refine LeO.bind ?_ (fun _ => ?_))
      | exact ih0 _ _ _ _
      | exact LeO.none _
      | refine LeO.ite ?_ ?_
      | refine LeO.bind ?_ (fun _ => ?_)
theorem script_word.mono : ∀ a0 a1 a2 k, LeO (script_word.f k a0 a1 a2) (script_word.f (k + 1) a0 a1 a2) := by
  intro a0 a1 a2 k
  have ih0 := script_word.mono_l k
  unfold script_word.f
  repeat' first
      | (with_reducible exact ih0 _ _ _ _)
      | (with_reducible exact LeO.refl _)
      | (with_reducible exact LeO.none _)
      | (with_reducible refine LeO.ite ?_ ?_)
      | (with_reducible refine LeO.bind ?_ (fun _ => ?_))
      | exact ih0 _ _ _ _
      | exact LeO.none _
      | refine LeO.ite ?_ ?_
      | refine LeO.bind ?_ (fun _ => ?_)
set_option maxHeartbeats 8000000 in
set_option maxRecDepth 100000 in
theorem script_word.calls (k : Nat) (a0 : ByteArray) (a1 : Int) (a2 : ByteArray) (r : Int) (w : World) (h : script_word.f k a0 a1 a2 = some r) :
    Calls Tryz.prog 110 #[.string a0, .int .i64 a1, .string a2] w fun e w' => e = .returned (.int .i64 r) ∧ Below w.heap.size w w' := by
  have HB := Aside0.mk (Below.refl w.heap.size w)
  have H : (if a2.size + 6 ≤ 9223372036854775807 then ((sign_Begins.f a0 a1 (a2 ++ (⟨#[115, 99, 114, 105, 112, 116]⟩ : ByteArray))).bind fun t113 => (if t113 = true then (script_word.j0 k a0 a1 (wrap64 ((a2.size : Int) + 6)) ((wrap64 (a1 + (wrap64 ((a2.size : Int) + 6)))) == (a0.size : Int))) else (script_word.j0 k a0 a1 (wrap64 ((a2.size : Int) + 6)) true))) else (none)) = some r := h
  clear h
  have HC4 := Aside0.mk H
  clear H
  go_enter Tryz.func110, Tryz.ntmps110
  go_upto_region 2 with (fail)
  go_cut [25] (fun v25 wc => ∃ (kq : Nat) (x25_3 : Bool), v25 = .bool x25_3 ∧ Aside0 (script_word.j0 kq a0 a1 (wrap64 ((a2.size : Int) + 6)) x25_3 = some r) ∧ Aside0 (kq ≤ k) ∧ Aside0 (Below w.heap.size w wc))
  case first =>
    have H := HC4.out
    clear HC4
    by_cases c5 : a2.size + 6 ≤ 9223372036854775807
    · rw [if_pos c5] at H
      have c5b0 := eq_true c5
      have c5b1 : decide (a2.size + 6 ≤ 9223372036854775807) = true := decide_eq_true c5
      try have c5b2 : (9223372036854775807 < a2.size + 6) = False := eq_false (Nat.not_lt.2 c5)
      replace H := Option.bind_eq_some_iff.mp H
      obtain ⟨t113, A60, H⟩ := H
      replace H : (if t113 = true then (script_word.j0 k a0 a1 (wrap64 ((a2.size : Int) + 6)) ((wrap64 (a1 + (wrap64 ((a2.size : Int) + 6)))) == (a0.size : Int))) else (script_word.j0 k a0 a1 (wrap64 ((a2.size : Int) + 6)) true)) = some r := H
      have A6 := Aside0.mk A60
      clear A60
      by_cases c7 : t113 = true
      · subst c7
        have H1 : (script_word.j0 k a0 a1 (wrap64 ((a2.size : Int) + 6)) ((wrap64 (a1 + (wrap64 ((a2.size : Int) + 6)))) == (a0.size : Int))) = some r := by rw [if_pos rfl] at H; exact H
        clear H
        have H := H1
        clear H1
        have H' := Aside0.mk H
        clear H
        go_wp2_with (first | ((with_reducible refine gate_callee (f := 24) rfl ?_); refine goesL_ (some 16) rfl rfl Tryz.func24 (by kernel_rfl) rfl #[.string a0, .int .i64 a1, .string (a2 ++ (⟨#[115, 99, 114, 105, 112, 116]⟩ : ByteArray))] rfl (by (try simp only [List.map_toArray, List.map_cons, List.map_nil]); first | done | rfl | (simp only [List.length_drop, List.length_take]; rfl)) ?_; (with_reducible refine (sign_Begins.calls a0 a1 (a2 ++ (⟨#[115, 99, 114, 105, 112, 116]⟩ : ByteArray)) true _ A6.out).mono ?_); rintro e w8 ⟨rfl, hb⟩; refine ⟨_, rfl, ?_⟩; have n0_ := Aside0.mk (below_step (by repeat (first | (with_reducible first | exact HB.out | apply below_alloc | apply pw_below_drewN | apply below_drew1) | exact HB.out)) hb); clear HB; have HB := n0_; clear n0_; (try clear hb); (try clear hb2); (try clear hk); (try clear hi)))
        go_meet
        case rel => exact ⟨_, (((wrap64 (a1 + (wrap64 ((a2.size : Int) + 6)))) == (a0.size : Int))), (by first | rfl | (simp; done) | (simp [*]; done)), H', ⟨by first | omega | exact Nat.le_refl _⟩, ⟨by repeat (first | (with_reducible first | exact HB.out | apply below_alloc | apply pw_below_drewN | apply below_drew1) | exact HB.out)⟩⟩
      · replace c7 := Bool.eq_false_iff.mpr c7
        subst c7
        have H1 : (script_word.j0 k a0 a1 (wrap64 ((a2.size : Int) + 6)) true) = some r := by rw [if_neg (show ¬ (false = true) by decide)] at H; exact H
        clear H
        have H := H1
        clear H1
        have H' := Aside0.mk H
        clear H
        go_wp2_with (first | ((with_reducible refine gate_callee (f := 24) rfl ?_); refine goesL_ (some 16) rfl rfl Tryz.func24 (by kernel_rfl) rfl #[.string a0, .int .i64 a1, .string (a2 ++ (⟨#[115, 99, 114, 105, 112, 116]⟩ : ByteArray))] rfl (by (try simp only [List.map_toArray, List.map_cons, List.map_nil]); first | done | rfl | (simp only [List.length_drop, List.length_take]; rfl)) ?_; (with_reducible refine (sign_Begins.calls a0 a1 (a2 ++ (⟨#[115, 99, 114, 105, 112, 116]⟩ : ByteArray)) false _ A6.out).mono ?_); rintro e w9 ⟨rfl, hb⟩; refine ⟨_, rfl, ?_⟩; have n0_ := Aside0.mk (below_step (by repeat (first | (with_reducible first | exact HB.out | apply below_alloc | apply pw_below_drewN | apply below_drew1) | exact HB.out)) hb); clear HB; have HB := n0_; clear n0_; (try clear hb); (try clear hb2); (try clear hk); (try clear hi)))
        go_meet
        case rel => exact ⟨_, (true), (by first | rfl | (simp; done) | (simp [*]; done)), H', ⟨by first | omega | exact Nat.le_refl _⟩, ⟨by repeat (first | (with_reducible first | exact HB.out | apply below_alloc | apply pw_below_drewN | apply below_drew1) | exact HB.out)⟩⟩
    · rw [if_neg c5] at H
      exact absurd H (by simp)
  case rest =>
    clear HC4
    try clear c1
    try clear c2
    try clear p2
    try clear c5
    try clear c5b0
    try clear c5b1
    try clear c5b2
    try clear p6
    try clear c7
    obtain ⟨kq, x25_3, rfl, HA, HJ3, HB⟩ := hcut
    cases kq with
    | zero => exact absurd HA.out (by simp [script_word.j0])
    | succ kj3 =>
      have H := HA.out
      clear HA
      simp only [script_word.j0] at H
      by_cases c10 : x25_3 = true
      · subst c10
        have H1 : (some 0) = some r := by rw [if_pos rfl] at H; exact H
        clear H
        have H := H1
        clear H1
        obtain rfl := Option.some.inj H
        go_wp2
        go_ret
        exact ⟨by first | rfl | (simp [errW_none, errW_some] <;> rfl) | (simp [*, errW_none, errW_some] <;> rfl), by repeat (first | (with_reducible first | exact HB.out | apply below_alloc | apply pw_below_drewN | apply below_drew1) | exact HB.out)⟩
      · replace c10 := Bool.eq_false_iff.mpr c10
        subst c10
        have H1 : (if 0 ≤ (wrap64 (a1 + (wrap64 ((a2.size : Int) + 6)))) then (if (wrap64 (a1 + (wrap64 ((a2.size : Int) + 6)))) < (a0.size : Int) then ((sign_Space.f (bt a0 (wrap64 (a1 + (wrap64 ((a2.size : Int) + 6)))))).bind fun t114 => (if t114 = true then (some (wrap64 ((wrap64 ((a2.size : Int) + 6)) + 1))) else (if (bt a0 (wrap64 (a1 + (wrap64 ((a2.size : Int) + 6))))) = 47 then (some (wrap64 ((wrap64 ((a2.size : Int) + 6)) + 1))) else (if (bt a0 (wrap64 (a1 + (wrap64 ((a2.size : Int) + 6))))) = 62 then (some (wrap64 ((wrap64 ((a2.size : Int) + 6)) + 1))) else (some 0))))) else (none)) else (none)) = some r := by rw [if_neg (show ¬ (false = true) by decide)] at H; exact H
        clear H
        have H := H1
        clear H1
        obtain ⟨ji11, hji11⟩ : ∃ j_ : Int, (wrap64 (a1 + (wrap64 ((a2.size : Int) + 6)))) = j_ := ⟨_, rfl⟩
        replace H : (if 0 ≤ (ji11) then (if (ji11) < (a0.size : Int) then ((sign_Space.f (bt a0 (ji11))).bind fun t114 => (if t114 = true then (some (wrap64 ((wrap64 ((a2.size : Int) + 6)) + 1))) else (if (bt a0 (ji11)) = 47 then (some (wrap64 ((wrap64 ((a2.size : Int) + 6)) + 1))) else (if (bt a0 (ji11)) = 62 then (some (wrap64 ((wrap64 ((a2.size : Int) + 6)) + 1))) else (some 0))))) else (none)) else (none)) = some r := by first | (rw [hji11] at H; exact H) | (simp only [hji11] at H ⊢; exact H)
        have hji11w : (IntKind.i64.wrap (a1 + (wrap64 ((a2.size : Int) + 6)))) = ji11 := (i64_w _).trans hji11
        by_cases c12 : 0 ≤ (ji11)
        · rw [if_pos c12] at H
          have c12b0 : decide (0 ≤ (ji11)) = true := decide_eq_true c12
          clear c12
          by_cases c13 : (ji11) < (a0.size : Int)
          · rw [if_pos c13] at H
            have c13b0 : decide ((ji11) < (a0.size : Int)) = true := decide_eq_true c13
            clear c13
            replace H := Option.bind_eq_some_iff.mp H
            obtain ⟨t114, A150, H⟩ := H
            replace H : (if t114 = true then (some (wrap64 ((wrap64 ((a2.size : Int) + 6)) + 1))) else (if (bt a0 (ji11)) = 47 then (some (wrap64 ((wrap64 ((a2.size : Int) + 6)) + 1))) else (if (bt a0 (ji11)) = 62 then (some (wrap64 ((wrap64 ((a2.size : Int) + 6)) + 1))) else (some 0)))) = some r := H
            have A15 := Aside0.mk A150
            clear A150
            by_cases c16 : t114 = true
            · subst c16
              have H1 : (some (wrap64 ((wrap64 ((a2.size : Int) + 6)) + 1))) = some r := by rw [if_pos rfl] at H; exact H
              clear H
              have H := H1
              clear H1
              obtain rfl := Option.some.inj H
              have p14 : 0 ≤ ((ji11) : Int) := of_decide_eq_true (by first | (with_reducible assumption) | assumption)
              have q14 : (ji11) < (a0.size : Int) := of_decide_eq_true (by first | (with_reducible assumption) | assumption)
              have hx14 := bt_at a0 (ji11)
              replace p14 := eq_true p14
              replace q14 := eq_true q14
              go_wp2_with (first | ((with_reducible refine gate_callee (f := 42) rfl ?_); refine goesL_ (some 32) rfl rfl Tryz.func42 (by kernel_rfl) rfl #[.int .u8 (bt a0 (ji11))] rfl (by (try simp only [List.map_toArray, List.map_cons, List.map_nil]); first | done | (simp only [hji11]; rfl) | rfl | (simp only [List.length_drop, List.length_take]; rfl)) ?_; (with_reducible refine (sign_Space.calls (bt a0 (ji11)) true _ A15.out).mono ?_); rintro e w' ⟨rfl, ⟨nd, rfl⟩⟩; refine ⟨_, rfl, ?_⟩))
              go_ret
              exact ⟨by first | rfl | (simp [errW_none, errW_some] <;> rfl) | (simp only [← hji11]; first | rfl | (simp [errW_none, errW_some] <;> rfl)) | (simp [*, errW_none, errW_some] <;> rfl), by repeat (first | (with_reducible first | exact HB.out | apply below_alloc | apply pw_below_drewN | apply below_drew1) | exact HB.out)⟩
            · replace c16 := Bool.eq_false_iff.mpr c16
              subst c16
              have H1 : (if (bt a0 (ji11)) = 47 then (some (wrap64 ((wrap64 ((a2.size : Int) + 6)) + 1))) else (if (bt a0 (ji11)) = 62 then (some (wrap64 ((wrap64 ((a2.size : Int) + 6)) + 1))) else (some 0))) = some r := by rw [if_neg (show ¬ (false = true) by decide)] at H; exact H
              clear H
              have H := H1
              clear H1
              by_cases c17 : (bt a0 (ji11)) = 47
              · rw [if_pos c17] at H
                have c17b0 : ((bt a0 (ji11)) == 47) = true := beq_iff_eq.mpr c17
                have c17b1 : ((bt a0 (ji11)) != 47) = false := bne_eq_false_iff_eq.mpr c17
                clear c17
                obtain rfl := Option.some.inj H
                have p14 : 0 ≤ ((ji11) : Int) := of_decide_eq_true (by first | (with_reducible assumption) | assumption)
                have q14 : (ji11) < (a0.size : Int) := of_decide_eq_true (by first | (with_reducible assumption) | assumption)
                have hx14 := bt_at a0 (ji11)
                replace p14 := eq_true p14
                replace q14 := eq_true q14
                go_wp2_with (first | ((with_reducible refine gate_callee (f := 42) rfl ?_); refine goesL_ (some 32) rfl rfl Tryz.func42 (by kernel_rfl) rfl #[.int .u8 (bt a0 (ji11))] rfl (by (try simp only [List.map_toArray, List.map_cons, List.map_nil]); first | done | (simp only [hji11]; rfl) | rfl | (simp only [List.length_drop, List.length_take]; rfl)) ?_; (with_reducible refine (sign_Space.calls (bt a0 (ji11)) false _ A15.out).mono ?_); rintro e w' ⟨rfl, ⟨nd, rfl⟩⟩; refine ⟨_, rfl, ?_⟩))
                go_ret
                exact ⟨by first | rfl | (simp [errW_none, errW_some] <;> rfl) | (simp only [← hji11]; first | rfl | (simp [errW_none, errW_some] <;> rfl)) | (simp [*, errW_none, errW_some] <;> rfl), by repeat (first | (with_reducible first | exact HB.out | apply below_alloc | apply pw_below_drewN | apply below_drew1) | exact HB.out)⟩
              · rw [if_neg c17] at H
                have c17b0 : ((bt a0 (ji11)) == 47) = false := beq_eq_false_iff_ne.mpr c17
                have c17b1 : ((bt a0 (ji11)) != 47) = true := bne_iff_ne.mpr c17
                by_cases c18 : (bt a0 (ji11)) = 62
                · rw [if_pos c18] at H
                  have c18b0 : ((bt a0 (ji11)) == 62) = true := beq_iff_eq.mpr c18
                  have c18b1 : ((bt a0 (ji11)) != 62) = false := bne_eq_false_iff_eq.mpr c18
                  clear c18
                  obtain rfl := Option.some.inj H
                  have p14 : 0 ≤ ((ji11) : Int) := of_decide_eq_true (by first | (with_reducible assumption) | assumption)
                  have q14 : (ji11) < (a0.size : Int) := of_decide_eq_true (by first | (with_reducible assumption) | assumption)
                  have hx14 := bt_at a0 (ji11)
                  replace p14 := eq_true p14
                  replace q14 := eq_true q14
                  go_wp2_with (first | ((with_reducible refine gate_callee (f := 42) rfl ?_); refine goesL_ (some 32) rfl rfl Tryz.func42 (by kernel_rfl) rfl #[.int .u8 (bt a0 (ji11))] rfl (by (try simp only [List.map_toArray, List.map_cons, List.map_nil]); first | done | (simp only [hji11]; rfl) | rfl | (simp only [List.length_drop, List.length_take]; rfl)) ?_; (with_reducible refine (sign_Space.calls (bt a0 (ji11)) false _ A15.out).mono ?_); rintro e w' ⟨rfl, ⟨nd, rfl⟩⟩; refine ⟨_, rfl, ?_⟩))
                  go_ret
                  exact ⟨by first | rfl | (simp [errW_none, errW_some] <;> rfl) | (simp only [← hji11]; first | rfl | (simp [errW_none, errW_some] <;> rfl)) | (simp [*, errW_none, errW_some] <;> rfl), by repeat (first | (with_reducible first | exact HB.out | apply below_alloc | apply pw_below_drewN | apply below_drew1) | exact HB.out)⟩
                · rw [if_neg c18] at H
                  have c18b0 : ((bt a0 (ji11)) == 62) = false := beq_eq_false_iff_ne.mpr c18
                  have c18b1 : ((bt a0 (ji11)) != 62) = true := bne_iff_ne.mpr c18
                  obtain rfl := Option.some.inj H
                  have p14 : 0 ≤ ((ji11) : Int) := of_decide_eq_true (by first | (with_reducible assumption) | assumption)
                  have q14 : (ji11) < (a0.size : Int) := of_decide_eq_true (by first | (with_reducible assumption) | assumption)
                  have hx14 := bt_at a0 (ji11)
                  replace p14 := eq_true p14
                  replace q14 := eq_true q14
                  go_wp2_with (first | ((with_reducible refine gate_callee (f := 42) rfl ?_); refine goesL_ (some 32) rfl rfl Tryz.func42 (by kernel_rfl) rfl #[.int .u8 (bt a0 (ji11))] rfl (by (try simp only [List.map_toArray, List.map_cons, List.map_nil]); first | done | (simp only [hji11]; rfl) | rfl | (simp only [List.length_drop, List.length_take]; rfl)) ?_; (with_reducible refine (sign_Space.calls (bt a0 (ji11)) false _ A15.out).mono ?_); rintro e w' ⟨rfl, ⟨nd, rfl⟩⟩; refine ⟨_, rfl, ?_⟩))
                  go_ret
                  exact ⟨by first | rfl | (simp [errW_none, errW_some] <;> rfl) | (simp only [← hji11]; first | rfl | (simp [errW_none, errW_some] <;> rfl)) | (simp [*, errW_none, errW_some] <;> rfl), by repeat (first | (with_reducible first | exact HB.out | apply below_alloc | apply pw_below_drewN | apply below_drew1) | exact HB.out)⟩
          · rw [if_neg c13] at H
            exact absurd H (by simp)
        · rw [if_neg c12] at H
          exact absurd H (by simp)

end Go.Proofs.YtdheknlnhfegnaaGreatDoor.Sa
