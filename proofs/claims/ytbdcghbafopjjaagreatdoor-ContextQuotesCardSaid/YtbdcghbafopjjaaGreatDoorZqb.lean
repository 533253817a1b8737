/-
  Texts that several claims of this seat share, merged by a program of this session (2).
-/
import Derived.KernelRfl
import Derived.Lib.IndexLaws
import Derived.Lib.LastIndexByte
import Derived.WalkLawsBesides
import Derived.Laws.Cover1
import Derived.LoopN
import Derived.Laws.FloatArith
import Derived.Laws.Cover2
import Derived.Lib.ConvBytes
import Derived.Laws.Cover3
import Derived.Laws.ComplexArith
import Derived.Test.YtbdcghbafopjjaaGreatDoorZqa
section
namespace Go.Proofs.YtbdcghbafopjjaaGreatDoor.Sa
open Go.RowKit Go.Proofs.YtbdcghbafopjjaaGreatDoor.K0 Go.Proofs.YtbdcghbafopjjaaGreatDoor.Hand Go.Proofs.YtbdcghbafopjjaaGreatDoorW.PrintWords Go.Proofs.YtbdcghbafopjjaaGreatDoorW.PrintLast Go.Proofs.YtbdcghbafopjjaaGreatDoorW.PrintMore
attribute [local go_sem] max2_int min2_int max_two min_two max_three min_three max_four min_four  
set_option linter.unusedVariables false
set_option linter.unusedSimpArgs false
def sign_Begins.f (a0 : ByteArray) (a1 : Int) (a2 : ByteArray) : Option (Bool) := if a1 < 0 then (some false) else (if a1 > (a0.size : Int) then (some false) else (if (wrap64 ((a0.size : Int) - a1)) < (a2.size : Int) then (some false) else (if 0 ≤ a1 then (if a1 ≤ (wrap64 (a1 + (a2.size : Int))) then (if (wrap64 (a1 + (a2.size : Int))) ≤ (a0.size : Int) then ((sign_Lower.f (a0.extract (a1 : Int).toNat ((wrap64 (a1 + (a2.size : Int))) : Int).toNat)).bind fun t101 => (some (t101.toList == a2.toList))) else (none)) else (none)) else (none))))
set_option maxHeartbeats 8000000 in
set_option maxRecDepth 100000 in
theorem sign_Begins.calls (a0 : ByteArray) (a1 : Int) (a2 : ByteArray) (r : Bool) (w : World) (h : sign_Begins.f a0 a1 a2 = some r) :
    Calls Tryz.prog 53 #[.string a0, .int .i64 a1, .string a2] w fun e w' => e = .returned (.bool r) ∧ Below w.heap.size w w' := by
  have HB := Aside0.mk (Below.refl w.heap.size w)
  have H : (if a1 < 0 then (some false) else (if a1 > (a0.size : Int) then (some false) else (if (wrap64 ((a0.size : Int) - a1)) < (a2.size : Int) then (some false) else (if 0 ≤ a1 then (if a1 ≤ (wrap64 (a1 + (a2.size : Int))) then (if (wrap64 (a1 + (a2.size : Int))) ≤ (a0.size : Int) then ((sign_Lower.f (a0.extract (a1 : Int).toNat ((wrap64 (a1 + (a2.size : Int))) : Int).toNat)).bind fun t101 => (some (t101.toList == a2.toList))) else (none)) else (none)) else (none))))) = some r := h
  clear h
  by_cases c4 : a1 < 0
  · rw [if_pos c4] at H
    have c4b0 : decide (a1 < 0) = true := decide_eq_true c4
    clear c4
    obtain rfl := Option.some.inj H
    go_enter Tryz.func53, Tryz.ntmps53
    go_wp2
    go_ret
    exact ⟨by first | rfl | (simp [errW_none, errW_some] <;> rfl) | (simp [*, errW_none, errW_some] <;> rfl), by repeat (first | (with_reducible first | exact HB.out | apply below_alloc | apply pw_below_drewN | apply below_drew1) | exact HB.out)⟩
  · rw [if_neg c4] at H
    have c4b0 : decide (a1 < 0) = false := decide_eq_false c4
    clear c4
    by_cases c5 : a1 > (a0.size : Int)
    · rw [if_pos c5] at H
      have c5b0 : decide ((a0.size : Int) < a1) = true := decide_eq_true c5
      clear c5
      obtain rfl := Option.some.inj H
      go_enter Tryz.func53, Tryz.ntmps53
      go_wp2
      go_ret
      exact ⟨by first | rfl | (simp [errW_none, errW_some] <;> rfl) | (simp [*, errW_none, errW_some] <;> rfl), by repeat (first | (with_reducible first | exact HB.out | apply below_alloc | apply pw_below_drewN | apply below_drew1) | exact HB.out)⟩
    · rw [if_neg c5] at H
      have c5b0 : decide ((a0.size : Int) < a1) = false := decide_eq_false c5
      clear c5
      by_cases c6 : (wrap64 ((a0.size : Int) - a1)) < (a2.size : Int)
      · rw [if_pos c6] at H
        have c6b0 : decide ((wrap64 ((a0.size : Int) - a1)) < (a2.size : Int)) = true := decide_eq_true c6
        clear c6
        obtain rfl := Option.some.inj H
        go_enter Tryz.func53, Tryz.ntmps53
        go_wp2
        go_ret
        exact ⟨by first | rfl | (simp [errW_none, errW_some] <;> rfl) | (simp [*, errW_none, errW_some] <;> rfl), by repeat (first | (with_reducible first | exact HB.out | apply below_alloc | apply pw_below_drewN | apply below_drew1) | exact HB.out)⟩
      · rw [if_neg c6] at H
        have c6b0 : decide ((wrap64 ((a0.size : Int) - a1)) < (a2.size : Int)) = false := decide_eq_false c6
        clear c6
        by_cases c7 : 0 ≤ a1
        · rw [if_pos c7] at H
          have c7b0 := eq_true c7
          have c7b1 : decide (0 ≤ a1) = true := decide_eq_true c7
          clear c7
          by_cases c8 : a1 ≤ (wrap64 (a1 + (a2.size : Int)))
          · rw [if_pos c8] at H
            have c8b0 := eq_true c8
            have c8b1 : decide (a1 ≤ (wrap64 (a1 + (a2.size : Int)))) = true := decide_eq_true c8
            by_cases c9 : (wrap64 (a1 + (a2.size : Int))) ≤ (a0.size : Int)
            · rw [if_pos c9] at H
              have c9b0 := eq_true c9
              have c9b1 : decide ((wrap64 (a1 + (a2.size : Int))) ≤ (a0.size : Int)) = true := decide_eq_true c9
              replace H := Option.bind_eq_some_iff.mp H
              obtain ⟨t101, A100, H⟩ := H
              replace H : (some (t101.toList == a2.toList)) = some r := H
              have A10 := Aside0.mk A100
              clear A100
              obtain rfl := Option.some.inj H
              go_enter Tryz.func53, Tryz.ntmps53
              go_wp2_with (first | ((with_reducible refine gate_callee (f := 86) rfl ?_); refine goesL_ (some 31) rfl rfl Tryz.func86 (by kernel_rfl) rfl #[.string (a0.extract (a1 : Int).toNat ((wrap64 (a1 + (a2.size : Int))) : Int).toNat)] rfl (by (try simp only [List.map_toArray, List.map_cons, List.map_nil]); first | done | rfl | (simp only [List.length_drop, List.length_take]; rfl)) ?_; (with_reducible refine (sign_Lower.calls (a0.extract (a1 : Int).toNat ((wrap64 (a1 + (a2.size : Int))) : Int).toNat) t101 _ A10.out).mono ?_); rintro e w11 ⟨rfl, hb⟩; refine ⟨_, rfl, ?_⟩; have n0_ := Aside0.mk (below_step (by repeat (first | (with_reducible first | exact HB.out | apply below_alloc | apply pw_below_drewN | apply below_drew1) | exact HB.out)) hb); clear HB; have HB := n0_; clear n0_; (try clear hb); (try clear hb2); (try clear hk); (try clear hi)))
              go_ret
              exact ⟨by first | rfl | (simp [errW_none, errW_some] <;> rfl) | (simp [*, errW_none, errW_some] <;> rfl), by repeat (first | (with_reducible first | exact HB.out | apply below_alloc | apply pw_below_drewN | apply below_drew1) | exact HB.out)⟩
            · rw [if_neg c9] at H
              exact absurd H (by simp)
          · rw [if_neg c8] at H
            exact absurd H (by simp)
        · rw [if_neg c7] at H
          exact absurd H (by simp)
def sign_within.f (a0 : Int) (a1 : Int) (a2 : Int) : Option (Bool) := if a0 ≥ a1 then (some (decide (a0 ≤ a2))) else (some false)
set_option maxHeartbeats 8000000 in
set_option maxRecDepth 100000 in
theorem sign_within.calls (a0 : Int) (a1 : Int) (a2 : Int) (r : Bool) (w : World) (h : sign_within.f a0 a1 a2 = some r) :
    Calls Tryz.prog 127 #[.int .u8 a0, .int .u8 a1, .int .u8 a2] w fun e w' => e = .returned (.bool r) ∧ Drawn0 w w' := by
  have H : (if a0 ≥ a1 then (some (decide (a0 ≤ a2))) else (some false)) = some r := h
  clear h
  by_cases c4 : a0 ≥ a1
  · rw [if_pos c4] at H
    have c4b0 : decide (a1 ≤ a0) = true := decide_eq_true c4
    clear c4
    obtain rfl := Option.some.inj H
    go_enter Tryz.func127, Tryz.ntmps127
    go_wp2
    go_ret
    exact ⟨by first | rfl | (simp; done) | (simp [*]; done), by repeat (first | exact Drawn0.refl _ | apply Drawn0.step)⟩
  · rw [if_neg c4] at H
    have c4b0 : decide (a1 ≤ a0) = false := decide_eq_false c4
    clear c4
    obtain rfl := Option.some.inj H
    go_enter Tryz.func127, Tryz.ntmps127
    go_wp2
    go_ret
    exact ⟨by first | rfl | (simp; done) | (simp [*]; done), by repeat (first | exact Drawn0.refl _ | apply Drawn0.step)⟩
def sign_Digit.f (a0 : Int) : Option (Bool) := (sign_within.f a0 48 57).bind fun t102 => (some t102)
set_option maxHeartbeats 8000000 in
set_option maxRecDepth 100000 in
theorem sign_Digit.calls (a0 : Int) (r : Bool) (w : World) (h : sign_Digit.f a0 = some r) :
    Calls Tryz.prog 87 #[.int .u8 a0] w fun e w' => e = .returned (.bool r) ∧ Drawn0 w w' := by
  have H : ((sign_within.f a0 48 57).bind fun t102 => (some t102)) = some r := h
  clear h
  replace H := Option.bind_eq_some_iff.mp H
  obtain ⟨t102, A20, H⟩ := H
  replace H : (some t102) = some r := H
  have A2 := Aside0.mk A20
  clear A20
  obtain rfl := Option.some.inj H
  go_enter Tryz.func87, Tryz.ntmps87
  go_wp2_with (first | ((with_reducible refine gate_callee (f := 127) rfl ?_); refine goesL_ (some 4) rfl rfl Tryz.func127 (by kernel_rfl) rfl #[.int .u8 a0, .int .u8 48, .int .u8 57] rfl (by (try simp only [List.map_toArray, List.map_cons, List.map_nil]); first | done | rfl | (simp only [List.length_drop, List.length_take]; rfl)) ?_; (with_reducible refine (sign_within.calls a0 48 57 t102 _ A2.out).mono ?_); rintro e w' ⟨rfl, ⟨nd, rfl⟩⟩; refine ⟨_, rfl, ?_⟩))
  go_ret
  exact ⟨by first | rfl | (simp; done) | (simp [*]; done), by repeat (first | exact Drawn0.refl _ | apply Drawn0.step)⟩
def sign_Hex.f (a0 : Int) : Option (Int) := (sign_Digit.f a0).bind fun t103 => (if t103 = true then (some (wrap64 ((wrap64 (a0)) - 48))) else ((sign_within.f a0 65 70).bind fun t104 => (if t104 = true then (some (wrap64 ((wrap64 ((wrap64 ((wrap64 (a0)) + 32)) - 97)) + 10))) else ((sign_within.f a0 97 102).bind fun t105 => (if t105 = true then (some (wrap64 ((wrap64 ((wrap64 (a0)) - 97)) + 10))) else (some (-1)))))))
set_option maxHeartbeats 8000000 in
set_option maxRecDepth 100000 in
theorem sign_Hex.calls (a0 : Int) (r : Int) (w : World) (h : sign_Hex.f a0 = some r) :
    Calls Tryz.prog 88 #[.int .u8 a0] w fun e w' => e = .returned (.int .i64 r) ∧ Drawn0 w w' := by
  have H : ((sign_Digit.f a0).bind fun t103 => (if t103 = true then (some (wrap64 ((wrap64 (a0)) - 48))) else ((sign_within.f a0 65 70).bind fun t104 => (if t104 = true then (some (wrap64 ((wrap64 ((wrap64 ((wrap64 (a0)) + 32)) - 97)) + 10))) else ((sign_within.f a0 97 102).bind fun t105 => (if t105 = true then (some (wrap64 ((wrap64 ((wrap64 (a0)) - 97)) + 10))) else (some (-1)))))))) = some r := h
  clear h
  replace H := Option.bind_eq_some_iff.mp H
  obtain ⟨t103, A20, H⟩ := H
  replace H : (if t103 = true then (some (wrap64 ((wrap64 (a0)) - 48))) else ((sign_within.f a0 65 70).bind fun t104 => (if t104 = true then (some (wrap64 ((wrap64 ((wrap64 ((wrap64 (a0)) + 32)) - 97)) + 10))) else ((sign_within.f a0 97 102).bind fun t105 => (if t105 = true then (some (wrap64 ((wrap64 ((wrap64 (a0)) - 97)) + 10))) else (some (-1))))))) = some r := H
  have A2 := Aside0.mk A20
  clear A20
  by_cases c3 : t103 = true
  · subst c3
    have H1 : (some (wrap64 ((wrap64 (a0)) - 48))) = some r := by rw [if_pos rfl] at H; exact H
    clear H
    have H := H1
    clear H1
    obtain rfl := Option.some.inj H
    go_enter Tryz.func88, Tryz.ntmps88
    go_wp2_with (first | ((with_reducible refine gate_callee (f := 87) rfl ?_); refine goesL_ (some 8) rfl rfl Tryz.func87 (by kernel_rfl) rfl #[.int .u8 a0] rfl (by (try simp only [List.map_toArray, List.map_cons, List.map_nil]); first | done | rfl | (simp only [List.length_drop, List.length_take]; rfl)) ?_; (with_reducible refine (sign_Digit.calls a0 true _ A2.out).mono ?_); rintro e w' ⟨rfl, ⟨nd, rfl⟩⟩; refine ⟨_, rfl, ?_⟩))
    go_ret
    exact ⟨by first | rfl | (simp; done) | (simp [*]; done), by repeat (first | exact Drawn0.refl _ | apply Drawn0.step)⟩
  · replace c3 := Bool.eq_false_iff.mpr c3
    subst c3
    have H1 : ((sign_within.f a0 65 70).bind fun t104 => (if t104 = true then (some (wrap64 ((wrap64 ((wrap64 ((wrap64 (a0)) + 32)) - 97)) + 10))) else ((sign_within.f a0 97 102).bind fun t105 => (if t105 = true then (some (wrap64 ((wrap64 ((wrap64 (a0)) - 97)) + 10))) else (some (-1)))))) = some r := by rw [if_neg (show ¬ (false = true) by decide)] at H; exact H
    clear H
    have H := H1
    clear H1
    replace H := Option.bind_eq_some_iff.mp H
    obtain ⟨t104, A40, H⟩ := H
    replace H : (if t104 = true then (some (wrap64 ((wrap64 ((wrap64 ((wrap64 (a0)) + 32)) - 97)) + 10))) else ((sign_within.f a0 97 102).bind fun t105 => (if t105 = true then (some (wrap64 ((wrap64 ((wrap64 (a0)) - 97)) + 10))) else (some (-1))))) = some r := H
    have A4 := Aside0.mk A40
    clear A40
    by_cases c5 : t104 = true
    · subst c5
      have H1 : (some (wrap64 ((wrap64 ((wrap64 ((wrap64 (a0)) + 32)) - 97)) + 10))) = some r := by rw [if_pos rfl] at H; exact H
      clear H
      have H := H1
      clear H1
      obtain rfl := Option.some.inj H
      go_enter Tryz.func88, Tryz.ntmps88
      go_wp2_with (first | ((with_reducible refine gate_callee (f := 87) rfl ?_); refine goesL_ (some 8) rfl rfl Tryz.func87 (by kernel_rfl) rfl #[.int .u8 a0] rfl (by (try simp only [List.map_toArray, List.map_cons, List.map_nil]); first | done | rfl | (simp only [List.length_drop, List.length_take]; rfl)) ?_; (with_reducible refine (sign_Digit.calls a0 false _ A2.out).mono ?_); rintro e w' ⟨rfl, ⟨nd, rfl⟩⟩; refine ⟨_, rfl, ?_⟩) | ((with_reducible refine gate_callee (f := 127) rfl ?_); refine goesL_ (some 11) rfl rfl Tryz.func127 (by kernel_rfl) rfl #[.int .u8 a0, .int .u8 65, .int .u8 70] rfl (by (try simp only [List.map_toArray, List.map_cons, List.map_nil]); first | done | rfl | (simp only [List.length_drop, List.length_take]; rfl)) ?_; (with_reducible refine (sign_within.calls a0 65 70 true _ A4.out).mono ?_); rintro e w' ⟨rfl, ⟨nd, rfl⟩⟩; refine ⟨_, rfl, ?_⟩))
      go_ret
      exact ⟨by first | rfl | (simp; done) | (simp [*]; done), by repeat (first | exact Drawn0.refl _ | apply Drawn0.step)⟩
    · replace c5 := Bool.eq_false_iff.mpr c5
      subst c5
      have H1 : ((sign_within.f a0 97 102).bind fun t105 => (if t105 = true then (some (wrap64 ((wrap64 ((wrap64 (a0)) - 97)) + 10))) else (some (-1)))) = some r := by rw [if_neg (show ¬ (false = true) by decide)] at H; exact H
      clear H
      have H := H1
      clear H1
      replace H := Option.bind_eq_some_iff.mp H
      obtain ⟨t105, A60, H⟩ := H
      replace H : (if t105 = true then (some (wrap64 ((wrap64 ((wrap64 (a0)) - 97)) + 10))) else (some (-1))) = some r := H
      have A6 := Aside0.mk A60
      clear A60
      by_cases c7 : t105 = true
      · subst c7
        have H1 : (some (wrap64 ((wrap64 ((wrap64 (a0)) - 97)) + 10))) = some r := by rw [if_pos rfl] at H; exact H
        clear H
        have H := H1
        clear H1
        obtain rfl := Option.some.inj H
        go_enter Tryz.func88, Tryz.ntmps88
        go_wp2_with (first | ((with_reducible refine gate_callee (f := 87) rfl ?_); refine goesL_ (some 8) rfl rfl Tryz.func87 (by kernel_rfl) rfl #[.int .u8 a0] rfl (by (try simp only [List.map_toArray, List.map_cons, List.map_nil]); first | done | rfl | (simp only [List.length_drop, List.length_take]; rfl)) ?_; (with_reducible refine (sign_Digit.calls a0 false _ A2.out).mono ?_); rintro e w' ⟨rfl, ⟨nd, rfl⟩⟩; refine ⟨_, rfl, ?_⟩) | ((with_reducible refine gate_callee (f := 127) rfl ?_); refine goesL_ (some 11) rfl rfl Tryz.func127 (by kernel_rfl) rfl #[.int .u8 a0, .int .u8 65, .int .u8 70] rfl (by (try simp only [List.map_toArray, List.map_cons, List.map_nil]); first | done | rfl | (simp only [List.length_drop, List.length_take]; rfl)) ?_; (with_reducible refine (sign_within.calls a0 65 70 false _ A4.out).mono ?_); rintro e w' ⟨rfl, ⟨nd, rfl⟩⟩; refine ⟨_, rfl, ?_⟩) | ((with_reducible refine gate_callee (f := 127) rfl ?_); refine goesL_ (some 14) rfl rfl Tryz.func127 (by kernel_rfl) rfl #[.int .u8 a0, .int .u8 97, .int .u8 102] rfl (by (try simp only [List.map_toArray, List.map_cons, List.map_nil]); first | done | rfl | (simp only [List.length_drop, List.length_take]; rfl)) ?_; (with_reducible refine (sign_within.calls a0 97 102 true _ A6.out).mono ?_); rintro e w' ⟨rfl, ⟨nd, rfl⟩⟩; refine ⟨_, rfl, ?_⟩))
        go_ret
        exact ⟨by first | rfl | (simp; done) | (simp [*]; done), by repeat (first | exact Drawn0.refl _ | apply Drawn0.step)⟩
      · replace c7 := Bool.eq_false_iff.mpr c7
        subst c7
        have H1 : (some (-1)) = some r := by rw [if_neg (show ¬ (false = true) by decide)] at H; exact H
        clear H
        have H := H1
        clear H1
        obtain rfl := Option.some.inj H
        go_enter Tryz.func88, Tryz.ntmps88
        go_wp2_with (first | ((with_reducible refine gate_callee (f := 87) rfl ?_); refine goesL_ (some 8) rfl rfl Tryz.func87 (by kernel_rfl) rfl #[.int .u8 a0] rfl (by (try simp only [List.map_toArray, List.map_cons, List.map_nil]); first | done | rfl | (simp only [List.length_drop, List.length_take]; rfl)) ?_; (with_reducible refine (sign_Digit.calls a0 false _ A2.out).mono ?_); rintro e w' ⟨rfl, ⟨nd, rfl⟩⟩; refine ⟨_, rfl, ?_⟩) | ((with_reducible refine gate_callee (f := 127) rfl ?_); refine goesL_ (some 11) rfl rfl Tryz.func127 (by kernel_rfl) rfl #[.int .u8 a0, .int .u8 65, .int .u8 70] rfl (by (try simp only [List.map_toArray, List.map_cons, List.map_nil]); first | done | rfl | (simp only [List.length_drop, List.length_take]; rfl)) ?_; (with_reducible refine (sign_within.calls a0 65 70 false _ A4.out).mono ?_); rintro e w' ⟨rfl, ⟨nd, rfl⟩⟩; refine ⟨_, rfl, ?_⟩) | ((with_reducible refine gate_callee (f := 127) rfl ?_); refine goesL_ (some 14) rfl rfl Tryz.func127 (by kernel_rfl) rfl #[.int .u8 a0, .int .u8 97, .int .u8 102] rfl (by (try simp only [List.map_toArray, List.map_cons, List.map_nil]); first | done | rfl | (simp only [List.length_drop, List.length_take]; rfl)) ?_; (with_reducible refine (sign_within.calls a0 97 102 false _ A6.out).mono ?_); rintro e w' ⟨rfl, ⟨nd, rfl⟩⟩; refine ⟨_, rfl, ?_⟩))
        go_ret
        exact ⟨by first | rfl | (simp; done) | (simp [*]; done), by repeat (first | exact Drawn0.refl _ | apply Drawn0.step)⟩
def sign_Letter.f (a0 : Int) : Option (Bool) := (sign_within.f (Go.bits .or .u8 a0 32) 97 122).bind fun t106 => (some t106)
set_option maxHeartbeats 8000000 in
set_option maxRecDepth 100000 in
theorem sign_Letter.calls (a0 : Int) (r : Bool) (w : World) (h : sign_Letter.f a0 = some r) :
    Calls Tryz.prog 102 #[.int .u8 a0] w fun e w' => e = .returned (.bool r) ∧ Drawn0 w w' := by
  have H : ((sign_within.f (Go.bits .or .u8 a0 32) 97 122).bind fun t106 => (some t106)) = some r := h
  clear h
  replace H := Option.bind_eq_some_iff.mp H
  obtain ⟨t106, A20, H⟩ := H
  replace H : (some t106) = some r := H
  have A2 := Aside0.mk A20
  clear A20
  obtain rfl := Option.some.inj H
  go_enter Tryz.func102, Tryz.ntmps102
  go_wp2_with (first | ((with_reducible refine gate_callee (f := 127) rfl ?_); refine goesL_ (some 5) rfl rfl Tryz.func127 (by kernel_rfl) rfl #[.int .u8 (Go.bits .or .u8 a0 32), .int .u8 97, .int .u8 122] rfl (by (try simp only [List.map_toArray, List.map_cons, List.map_nil]); first | done | rfl | (simp only [List.length_drop, List.length_take]; rfl)) ?_; (with_reducible refine (sign_within.calls (Go.bits .or .u8 a0 32) 97 122 t106 _ A2.out).mono ?_); rintro e w' ⟨rfl, ⟨nd, rfl⟩⟩; refine ⟨_, rfl, ?_⟩))
  go_ret
  exact ⟨by first | rfl | (simp; done) | (simp [*]; done), by repeat (first | exact Drawn0.refl _ | apply Drawn0.step)⟩
def sign_Word.f (a0 : Int) : Option (Bool) := (sign_Letter.f a0).bind fun t107 => (if t107 = true then (some true) else ((sign_Digit.f a0).bind fun t108 => (some t108)))
set_option maxHeartbeats 8000000 in
set_option maxRecDepth 100000 in
theorem sign_Word.calls (a0 : Int) (r : Bool) (w : World) (h : sign_Word.f a0 = some r) :
    Calls Tryz.prog 96 #[.int .u8 a0] w fun e w' => e = .returned (.bool r) ∧ Drawn0 w w' := by
  have H : ((sign_Letter.f a0).bind fun t107 => (if t107 = true then (some true) else ((sign_Digit.f a0).bind fun t108 => (some t108)))) = some r := h
  clear h
  replace H := Option.bind_eq_some_iff.mp H
  obtain ⟨t107, A20, H⟩ := H
  replace H : (if t107 = true then (some true) else ((sign_Digit.f a0).bind fun t108 => (some t108))) = some r := H
  have A2 := Aside0.mk A20
  clear A20
  by_cases c3 : t107 = true
  · subst c3
    have H1 : (some true) = some r := by rw [if_pos rfl] at H; exact H
    clear H
    have H := H1
    clear H1
    obtain rfl := Option.some.inj H
    go_enter Tryz.func96, Tryz.ntmps96
    go_wp2_with (first | ((with_reducible refine gate_callee (f := 102) rfl ?_); refine goesL_ (some 4) rfl rfl Tryz.func102 (by kernel_rfl) rfl #[.int .u8 a0] rfl (by (try simp only [List.map_toArray, List.map_cons, List.map_nil]); first | done | rfl | (simp only [List.length_drop, List.length_take]; rfl)) ?_; (with_reducible refine (sign_Letter.calls a0 true _ A2.out).mono ?_); rintro e w' ⟨rfl, ⟨nd, rfl⟩⟩; refine ⟨_, rfl, ?_⟩))
    go_ret
    exact ⟨by first | rfl | (simp; done) | (simp [*]; done), by repeat (first | exact Drawn0.refl _ | apply Drawn0.step)⟩
  · replace c3 := Bool.eq_false_iff.mpr c3
    subst c3
    have H1 : ((sign_Digit.f a0).bind fun t108 => (some t108)) = some r := by rw [if_neg (show ¬ (false = true) by decide)] at H; exact H
    clear H
    have H := H1
    clear H1
    replace H := Option.bind_eq_some_iff.mp H
    obtain ⟨t108, A40, H⟩ := H
    replace H : (some t108) = some r := H
    have A4 := Aside0.mk A40
    clear A40
    obtain rfl := Option.some.inj H
    go_enter Tryz.func96, Tryz.ntmps96
    go_wp2_with (first | ((with_reducible refine gate_callee (f := 102) rfl ?_); refine goesL_ (some 4) rfl rfl Tryz.func102 (by kernel_rfl) rfl #[.int .u8 a0] rfl (by (try simp only [List.map_toArray, List.map_cons, List.map_nil]); first | done | rfl | (simp only [List.length_drop, List.length_take]; rfl)) ?_; (with_reducible refine (sign_Letter.calls a0 false _ A2.out).mono ?_); rintro e w' ⟨rfl, ⟨nd, rfl⟩⟩; refine ⟨_, rfl, ?_⟩) | (go_at_call 87; (with_reducible refine (sign_Digit.calls a0 t108 _ A4.out).mono ?_); rintro e w' ⟨rfl, ⟨nd, rfl⟩⟩))
    go_ret
    exact ⟨by first | rfl | (simp; done) | (simp [*]; done), by repeat (first | exact Drawn0.refl _ | apply Drawn0.step)⟩
def ref_kept.f (a0 : ByteArray) (a1 : Int) : Option (Bool) := if a1 < (a0.size : Int) then (if 0 ≤ a1 then (if (bt a0 a1) = 61 then (some true) else ((sign_Word.f (bt a0 a1)).bind fun t109 => (some t109))) else (none)) else (some false)
set_option maxHeartbeats 8000000 in
set_option maxRecDepth 100000 in
theorem ref_kept.calls (a0 : ByteArray) (a1 : Int) (r : Bool) (w : World) (h : ref_kept.f a0 a1 = some r) :
    Calls Tryz.prog 58 #[.string a0, .int .i64 a1] w fun e w' => e = .returned (.bool r) ∧ Drawn0 w w' := by
  have H : (if a1 < (a0.size : Int) then (if 0 ≤ a1 then (if (bt a0 a1) = 61 then (some true) else ((sign_Word.f (bt a0 a1)).bind fun t109 => (some t109))) else (none)) else (some false)) = some r := h
  clear h
  by_cases c3 : a1 < (a0.size : Int)
  · rw [if_pos c3] at H
    have c3b0 : decide (a1 < (a0.size : Int)) = true := decide_eq_true c3
    clear c3
    by_cases c4 : 0 ≤ a1
    · rw [if_pos c4] at H
      have c4b0 : decide (0 ≤ a1) = true := decide_eq_true c4
      clear c4
      by_cases c6 : (bt a0 a1) = 61
      · rw [if_pos c6] at H
        have c6b0 : ((bt a0 a1) == 61) = true := beq_iff_eq.mpr c6
        have c6b1 : ((bt a0 a1) != 61) = false := bne_eq_false_iff_eq.mpr c6
        clear c6
        obtain rfl := Option.some.inj H
        have p5 : 0 ≤ (a1 : Int) := of_decide_eq_true (by first | (with_reducible assumption) | assumption)
        have q5 : a1 < (a0.size : Int) := of_decide_eq_true (by first | (with_reducible assumption) | assumption)
        have hx5 := bt_at a0 a1
        replace p5 := eq_true p5
        replace q5 := eq_true q5
        go_enter Tryz.func58, Tryz.ntmps58
        go_wp2
        go_ret
        exact ⟨by first | rfl | (simp; done) | (simp [*]; done), by repeat (first | exact Drawn0.refl _ | apply Drawn0.step)⟩
      · rw [if_neg c6] at H
        have c6b0 : ((bt a0 a1) == 61) = false := beq_eq_false_iff_ne.mpr c6
        have c6b1 : ((bt a0 a1) != 61) = true := bne_iff_ne.mpr c6
        replace H := Option.bind_eq_some_iff.mp H
        obtain ⟨t109, A80, H⟩ := H
        replace H : (some t109) = some r := H
        have A8 := Aside0.mk A80
        clear A80
        obtain rfl := Option.some.inj H
        have p5 : 0 ≤ (a1 : Int) := of_decide_eq_true (by first | (with_reducible assumption) | assumption)
        have q5 : a1 < (a0.size : Int) := of_decide_eq_true (by first | (with_reducible assumption) | assumption)
        have hx5 := bt_at a0 a1
        replace p5 := eq_true p5
        replace q5 := eq_true q5
        have p7 : 0 ≤ (a1 : Int) := of_decide_eq_true (by first | (with_reducible assumption) | assumption)
        have q7 : a1 < (a0.size : Int) := of_decide_eq_true (by first | (with_reducible assumption) | assumption)
        have hx7 := bt_at a0 a1
        replace p7 := eq_true p7
        replace q7 := eq_true q7
        go_enter Tryz.func58, Tryz.ntmps58
        go_wp2_with (first | (go_at_call 96; (with_reducible refine (sign_Word.calls (bt a0 a1) t109 _ A8.out).mono ?_); rintro e w' ⟨rfl, ⟨nd, rfl⟩⟩))
        go_ret
        exact ⟨by first | rfl | (simp; done) | (simp [*]; done), by repeat (first | exact Drawn0.refl _ | apply Drawn0.step)⟩
    · rw [if_neg c4] at H
      exact absurd H (by simp)
  · rw [if_neg c3] at H
    have c3b0 : decide (a1 < (a0.size : Int)) = false := decide_eq_false c3
    clear c3
    obtain rfl := Option.some.inj H
    go_enter Tryz.func58, Tryz.ntmps58
    go_wp2
    go_ret
    exact ⟨by first | rfl | (simp; done) | (simp [*]; done), by repeat (first | exact Drawn0.refl _ | apply Drawn0.step)⟩
def sign_Space.f (a0 : Int) : Option (Bool) := if a0 = 32 then (some true) else (if a0 = 9 then (some true) else (if a0 = 10 then (some true) else (some (a0 == 12))))
set_option maxHeartbeats 8000000 in
set_option maxRecDepth 100000 in
theorem sign_Space.calls (a0 : Int) (r : Bool) (w : World) (h : sign_Space.f a0 = some r) :
    Calls Tryz.prog 100 #[.int .u8 a0] w fun e w' => e = .returned (.bool r) ∧ Drawn0 w w' := by
  have H : (if a0 = 32 then (some true) else (if a0 = 9 then (some true) else (if a0 = 10 then (some true) else (some (a0 == 12))))) = some r := h
  clear h
  by_cases c2 : a0 = 32
  · rw [if_pos c2] at H
    have c2b0 : (a0 == 32) = true := beq_iff_eq.mpr c2
    have c2b1 : (a0 != 32) = false := bne_eq_false_iff_eq.mpr c2
    clear c2
    obtain rfl := Option.some.inj H
    go_enter Tryz.func100, Tryz.ntmps100
    go_wp2
    go_ret
    exact ⟨by first | rfl | (simp; done) | (simp [*]; done), by repeat (first | exact Drawn0.refl _ | apply Drawn0.step)⟩
  · rw [if_neg c2] at H
    have c2b0 : (a0 == 32) = false := beq_eq_false_iff_ne.mpr c2
    have c2b1 : (a0 != 32) = true := bne_iff_ne.mpr c2
    by_cases c3 : a0 = 9
    · rw [if_pos c3] at H
      have c3b0 : (a0 == 9) = true := beq_iff_eq.mpr c3
      have c3b1 : (a0 != 9) = false := bne_eq_false_iff_eq.mpr c3
      clear c3
      obtain rfl := Option.some.inj H
      go_enter Tryz.func100, Tryz.ntmps100
      go_wp2
      go_ret
      exact ⟨by first | rfl | (simp; done) | (simp [*]; done), by repeat (first | exact Drawn0.refl _ | apply Drawn0.step)⟩
    · rw [if_neg c3] at H
      have c3b0 : (a0 == 9) = false := beq_eq_false_iff_ne.mpr c3
      have c3b1 : (a0 != 9) = true := bne_iff_ne.mpr c3
      by_cases c4 : a0 = 10
      · rw [if_pos c4] at H
        have c4b0 : (a0 == 10) = true := beq_iff_eq.mpr c4
        have c4b1 : (a0 != 10) = false := bne_eq_false_iff_eq.mpr c4
        clear c4
        obtain rfl := Option.some.inj H
        go_enter Tryz.func100, Tryz.ntmps100
        go_wp2
        go_ret
        exact ⟨by first | rfl | (simp; done) | (simp [*]; done), by repeat (first | exact Drawn0.refl _ | apply Drawn0.step)⟩
      · rw [if_neg c4] at H
        have c4b0 : (a0 == 10) = false := beq_eq_false_iff_ne.mpr c4
        have c4b1 : (a0 != 10) = true := bne_iff_ne.mpr c4
        obtain rfl := Option.some.inj H
        go_enter Tryz.func100, Tryz.ntmps100
        go_wp2
        go_ret
        exact ⟨by first | rfl | (simp; done) | (simp [*]; done), by repeat (first | exact Drawn0.refl _ | apply Drawn0.step)⟩
def raw_Ends.j0 : Nat → ByteArray → Int → ByteArray → Bool → Option (Bool)
  | 0, _, _, _, _ => none
  | k + 1, x0, x1, x2, x24 => if x24 = true then (some false) else (if (wrap64 ((wrap64 (x1 + 2)) + (x2.size : Int))) = (x0.size : Int) then (some false) else (if 0 ≤ (wrap64 ((wrap64 (x1 + 2)) + (x2.size : Int))) then (if (wrap64 ((wrap64 (x1 + 2)) + (x2.size : Int))) < (x0.size : Int) then ((sign_Space.f (bt x0 (wrap64 ((wrap64 (x1 + 2)) + (x2.size : Int))))).bind fun t112 => (if t112 = true then (some true) else (if (bt x0 (wrap64 ((wrap64 (x1 + 2)) + (x2.size : Int)))) = 47 then (some true) else (some ((bt x0 (wrap64 ((wrap64 (x1 + 2)) + (x2.size : Int)))) == 62))))) else (none)) else (none)))
def raw_Ends.f (k : Nat) (a0 : ByteArray) (a1 : Int) (a2 : ByteArray) : Option (Bool) := if a2.toList = ([] : List UInt8) then (raw_Ends.j0 k a0 a1 a2 true) else ((sign_Begins.f a0 a1 (⟨#[60, 47]⟩ : ByteArray)).bind fun t110 => (if t110 = true then ((sign_Begins.f a0 (wrap64 (a1 + 2)) a2).bind fun t111 => (raw_Ends.j0 k a0 a1 a2 (!t111))) else (raw_Ends.j0 k a0 a1 a2 true)))
set_option maxHeartbeats 8000000 in
set_option maxRecDepth 100000 in
theorem raw_Ends.calls (k : Nat) (a0 : ByteArray) (a1 : Int) (a2 : ByteArray) (r : Bool) (w : World) (h : raw_Ends.f k a0 a1 a2 = some r) :
    Calls Tryz.prog 134 #[.string a0, .int .i64 a1, .string a2] w fun e w' => e = .returned (.bool r) ∧ Below w.heap.size w w' := by
  have HB := Aside0.mk (Below.refl w.heap.size w)
  have H : (if a2.toList = ([] : List UInt8) then (raw_Ends.j0 k a0 a1 a2 true) else ((sign_Begins.f a0 a1 (⟨#[60, 47]⟩ : ByteArray)).bind fun t110 => (if t110 = true then ((sign_Begins.f a0 (wrap64 (a1 + 2)) a2).bind fun t111 => (raw_Ends.j0 k a0 a1 a2 (!t111))) else (raw_Ends.j0 k a0 a1 a2 true)))) = some r := h
  clear h
  have HC4 := Aside0.mk H
  clear H
  go_enter Tryz.func134, Tryz.ntmps134
  go_upto_region 1 with (fail)
  go_cut [24] (fun v24 wc => ∃ (kq : Nat) (x24_3 : Bool), v24 = .bool x24_3 ∧ Aside0 (raw_Ends.j0 kq a0 a1 a2 x24_3 = some r) ∧ Aside0 (kq ≤ k) ∧ Aside0 (Below w.heap.size w wc))
  case first =>
    have H := HC4.out
    clear HC4
    by_cases c5 : a2.toList = ([] : List UInt8)
    · rw [if_pos c5] at H
      have c5b0 : (a2.toList == ([] : List UInt8)) = true := beq_iff_eq.mpr c5
      have c5b1 : (a2.toList != ([] : List UInt8)) = false := bne_eq_false_iff_eq.mpr c5
      clear c5
      (first | rw [c5b0] | (simp only [i64_w, i32_w]; rw [c5b0]) | skip)
      have H' := Aside0.mk H
      clear H
      go_wp2
      go_meet
      case rel => exact ⟨_, (true), (by first | rfl | (simp; done) | (simp [*]; done)), H', ⟨by first | omega | exact Nat.le_refl _⟩, ⟨by repeat (first | (with_reducible first | exact HB.out | apply below_alloc | apply pw_below_drewN | apply below_drew1) | exact HB.out)⟩⟩
    · rw [if_neg c5] at H
      have c5b0 : (a2.toList == ([] : List UInt8)) = false := beq_eq_false_iff_ne.mpr c5
      have c5b1 : (a2.toList != ([] : List UInt8)) = true := bne_iff_ne.mpr c5
      (first | rw [c5b0] | (simp only [i64_w, i32_w]; rw [c5b0]) | skip)
      replace H := Option.bind_eq_some_iff.mp H
      obtain ⟨t110, A60, H⟩ := H
      replace H : (if t110 = true then ((sign_Begins.f a0 (wrap64 (a1 + 2)) a2).bind fun t111 => (raw_Ends.j0 k a0 a1 a2 (!t111))) else (raw_Ends.j0 k a0 a1 a2 true)) = some r := H
      have A6 := Aside0.mk A60
      clear A60
      by_cases c7 : t110 = true
      · subst c7
        have H1 : ((sign_Begins.f a0 (wrap64 (a1 + 2)) a2).bind fun t111 => (raw_Ends.j0 k a0 a1 a2 (!t111))) = some r := by rw [if_pos rfl] at H; exact H
        clear H
        have H := H1
        clear H1
        replace H := Option.bind_eq_some_iff.mp H
        obtain ⟨t111, A80, H⟩ := H
        replace H : (raw_Ends.j0 k a0 a1 a2 (!t111)) = some r := H
        have A8 := Aside0.mk A80
        clear A80
        have H' := Aside0.mk H
        clear H
        go_wp2_with (first | (go_at_call 53; (with_reducible refine (sign_Begins.calls a0 a1 (⟨#[60, 47]⟩ : ByteArray) true _ A6.out).mono ?_); rintro e w9 ⟨rfl, hb⟩; have n0_ := Aside0.mk (below_step (by repeat (first | (with_reducible first | exact HB.out | apply below_alloc | apply pw_below_drewN | apply below_drew1) | exact HB.out)) hb); clear HB; have HB := n0_; clear n0_; (try clear hb); (try clear hb2); (try clear hk); (try clear hi)) | (go_at_call 53; (with_reducible refine (sign_Begins.calls a0 (wrap64 (a1 + 2)) a2 t111 _ A8.out).mono ?_); rintro e w10 ⟨rfl, hb⟩; have n0_ := Aside0.mk (below_step (by repeat (first | (with_reducible first | exact HB.out | apply below_alloc | apply pw_below_drewN | apply below_drew1) | exact HB.out)) hb); clear HB; have HB := n0_; clear n0_; (try clear hb); (try clear hb2); (try clear hk); (try clear hi)))
        go_meet
        case rel => exact ⟨_, (!t111), (by first | rfl | (simp; done) | (simp [*]; done)), H', ⟨by first | omega | exact Nat.le_refl _⟩, ⟨by repeat (first | (with_reducible first | exact HB.out | apply below_alloc | apply pw_below_drewN | apply below_drew1) | exact HB.out)⟩⟩
      · replace c7 := Bool.eq_false_iff.mpr c7
        subst c7
        have H1 : (raw_Ends.j0 k a0 a1 a2 true) = some r := by rw [if_neg (show ¬ (false = true) by decide)] at H; exact H
        clear H
        have H := H1
        clear H1
        have H' := Aside0.mk H
        clear H
        go_wp2_with (first | (go_at_call 53; (with_reducible refine (sign_Begins.calls a0 a1 (⟨#[60, 47]⟩ : ByteArray) false _ A6.out).mono ?_); rintro e w11 ⟨rfl, hb⟩; have n0_ := Aside0.mk (below_step (by repeat (first | (with_reducible first | exact HB.out | apply below_alloc | apply pw_below_drewN | apply below_drew1) | exact HB.out)) hb); clear HB; have HB := n0_; clear n0_; (try clear hb); (try clear hb2); (try clear hk); (try clear hi)))
        go_meet
        case rel => exact ⟨_, (true), (by first | rfl | (simp; done) | (simp [*]; done)), H', ⟨by first | omega | exact Nat.le_refl _⟩, ⟨by repeat (first | (with_reducible first | exact HB.out | apply below_alloc | apply pw_below_drewN | apply below_drew1) | exact HB.out)⟩⟩
  case rest =>
    clear HC4
    try clear c1
    try clear p2
    try clear c5
    try clear c5b0
    try clear c5b1
    try clear p6
    try clear c7
    obtain ⟨kq, x24_3, rfl, HA, HJ3, HB⟩ := hcut
    cases kq with
    | zero => exact absurd HA.out (by simp [raw_Ends.j0])
    | succ kj3 =>
      have H := HA.out
      clear HA
      simp only [raw_Ends.j0] at H
      by_cases c12 : x24_3 = true
      · subst c12
        have H1 : (some false) = some r := by rw [if_pos rfl] at H; exact H
        clear H
        have H := H1
        clear H1
        obtain rfl := Option.some.inj H
        go_wp2
        go_ret
        exact ⟨by first | rfl | (simp [errW_none, errW_some] <;> rfl) | (simp [*, errW_none, errW_some] <;> rfl), by repeat (first | (with_reducible first | exact HB.out | apply below_alloc | apply pw_below_drewN | apply below_drew1) | exact HB.out)⟩
      · replace c12 := Bool.eq_false_iff.mpr c12
        subst c12
        have H1 : (if (wrap64 ((wrap64 (a1 + 2)) + (a2.size : Int))) = (a0.size : Int) then (some false) else (if 0 ≤ (wrap64 ((wrap64 (a1 + 2)) + (a2.size : Int))) then (if (wrap64 ((wrap64 (a1 + 2)) + (a2.size : Int))) < (a0.size : Int) then ((sign_Space.f (bt a0 (wrap64 ((wrap64 (a1 + 2)) + (a2.size : Int))))).bind fun t112 => (if t112 = true then (some true) else (if (bt a0 (wrap64 ((wrap64 (a1 + 2)) + (a2.size : Int)))) = 47 then (some true) else (some ((bt a0 (wrap64 ((wrap64 (a1 + 2)) + (a2.size : Int)))) == 62))))) else (none)) else (none))) = some r := by rw [if_neg (show ¬ (false = true) by decide)] at H; exact H
        clear H
        have H := H1
        clear H1
        by_cases c13 : (wrap64 ((wrap64 (a1 + 2)) + (a2.size : Int))) = (a0.size : Int)
        · rw [if_pos c13] at H
          have c13b0 : ((wrap64 ((wrap64 (a1 + 2)) + (a2.size : Int))) == (a0.size : Int)) = true := beq_iff_eq.mpr c13
          have c13b1 : ((wrap64 ((wrap64 (a1 + 2)) + (a2.size : Int))) != (a0.size : Int)) = false := bne_eq_false_iff_eq.mpr c13
          clear c13
          obtain rfl := Option.some.inj H
          go_wp2
          go_ret
          exact ⟨by first | rfl | (simp [errW_none, errW_some] <;> rfl) | (simp [*, errW_none, errW_some] <;> rfl), by repeat (first | (with_reducible first | exact HB.out | apply below_alloc | apply pw_below_drewN | apply below_drew1) | exact HB.out)⟩
        · rw [if_neg c13] at H
          have c13b0 : ((wrap64 ((wrap64 (a1 + 2)) + (a2.size : Int))) == (a0.size : Int)) = false := beq_eq_false_iff_ne.mpr c13
          have c13b1 : ((wrap64 ((wrap64 (a1 + 2)) + (a2.size : Int))) != (a0.size : Int)) = true := bne_iff_ne.mpr c13
          obtain ⟨ji14, hji14⟩ : ∃ j_ : Int, (wrap64 ((wrap64 (a1 + 2)) + (a2.size : Int))) = j_ := ⟨_, rfl⟩
          replace H : (if 0 ≤ (ji14) then (if (ji14) < (a0.size : Int) then ((sign_Space.f (bt a0 (ji14))).bind fun t112 => (if t112 = true then (some true) else (if (bt a0 (ji14)) = 47 then (some true) else (some ((bt a0 (ji14)) == 62))))) else (none)) else (none)) = some r := by first | (rw [hji14] at H; exact H) | (simp only [hji14] at H ⊢; exact H)
          (try rw [hji14] at c13b0)
          (try rw [hji14] at c13b1)
          have hji14w : (IntKind.i64.wrap ((wrap64 (a1 + 2)) + (a2.size : Int))) = ji14 := (i64_w _).trans hji14
          by_cases c15 : 0 ≤ (ji14)
          · rw [if_pos c15] at H
            have c15b0 : decide (0 ≤ (ji14)) = true := decide_eq_true c15
            clear c15
            by_cases c16 : (ji14) < (a0.size : Int)
            · rw [if_pos c16] at H
              have c16b0 : decide ((ji14) < (a0.size : Int)) = true := decide_eq_true c16
              clear c16
              replace H := Option.bind_eq_some_iff.mp H
              obtain ⟨t112, A180, H⟩ := H
              replace H : (if t112 = true then (some true) else (if (bt a0 (ji14)) = 47 then (some true) else (some ((bt a0 (ji14)) == 62)))) = some r := H
              have A18 := Aside0.mk A180
              clear A180
              by_cases c19 : t112 = true
              · subst c19
                have H1 : (some true) = some r := by rw [if_pos rfl] at H; exact H
                clear H
                have H := H1
                clear H1
                obtain rfl := Option.some.inj H
                have p17 : 0 ≤ ((ji14) : Int) := of_decide_eq_true (by first | (with_reducible assumption) | assumption)
                have q17 : (ji14) < (a0.size : Int) := of_decide_eq_true (by first | (with_reducible assumption) | assumption)
                have hx17 := bt_at a0 (ji14)
                replace p17 := eq_true p17
                replace q17 := eq_true q17
                go_wp2_with (first | ((with_reducible refine gate_callee (f := 100) rfl ?_); refine goesL_ (some 38) rfl rfl Tryz.func100 (by kernel_rfl) rfl #[.int .u8 (bt a0 (ji14))] rfl (by (try simp only [List.map_toArray, List.map_cons, List.map_nil]); first | done | (simp only [hji14]; rfl) | rfl | (simp only [List.length_drop, List.length_take]; rfl)) ?_; (with_reducible refine (sign_Space.calls (bt a0 (ji14)) true _ A18.out).mono ?_); rintro e w' ⟨rfl, ⟨nd, rfl⟩⟩; refine ⟨_, rfl, ?_⟩))
                go_ret
                exact ⟨by first | rfl | (simp [errW_none, errW_some] <;> rfl) | (simp only [← hji14]; first | rfl | (simp [errW_none, errW_some] <;> rfl)) | (simp [*, errW_none, errW_some] <;> rfl), by repeat (first | (with_reducible first | exact HB.out | apply below_alloc | apply pw_below_drewN | apply below_drew1) | exact HB.out)⟩
              · replace c19 := Bool.eq_false_iff.mpr c19
                subst c19
                have H1 : (if (bt a0 (ji14)) = 47 then (some true) else (some ((bt a0 (ji14)) == 62))) = some r := by rw [if_neg (show ¬ (false = true) by decide)] at H; exact H
                clear H
                have H := H1
                clear H1
                by_cases c20 : (bt a0 (ji14)) = 47
                · rw [if_pos c20] at H
                  have c20b0 : ((bt a0 (ji14)) == 47) = true := beq_iff_eq.mpr c20
                  have c20b1 : ((bt a0 (ji14)) != 47) = false := bne_eq_false_iff_eq.mpr c20
                  clear c20
                  obtain rfl := Option.some.inj H
                  have p17 : 0 ≤ ((ji14) : Int) := of_decide_eq_true (by first | (with_reducible assumption) | assumption)
                  have q17 : (ji14) < (a0.size : Int) := of_decide_eq_true (by first | (with_reducible assumption) | assumption)
                  have hx17 := bt_at a0 (ji14)
                  replace p17 := eq_true p17
                  replace q17 := eq_true q17
                  go_wp2_with (first | ((with_reducible refine gate_callee (f := 100) rfl ?_); refine goesL_ (some 38) rfl rfl Tryz.func100 (by kernel_rfl) rfl #[.int .u8 (bt a0 (ji14))] rfl (by (try simp only [List.map_toArray, List.map_cons, List.map_nil]); first | done | (simp only [hji14]; rfl) | rfl | (simp only [List.length_drop, List.length_take]; rfl)) ?_; (with_reducible refine (sign_Space.calls (bt a0 (ji14)) false _ A18.out).mono ?_); rintro e w' ⟨rfl, ⟨nd, rfl⟩⟩; refine ⟨_, rfl, ?_⟩))
                  go_ret
                  exact ⟨by first | rfl | (simp [errW_none, errW_some] <;> rfl) | (simp only [← hji14]; first | rfl | (simp [errW_none, errW_some] <;> rfl)) | (simp [*, errW_none, errW_some] <;> rfl), by repeat (first | (with_reducible first | exact HB.out | apply below_alloc | apply pw_below_drewN | apply below_drew1) | exact HB.out)⟩
                · rw [if_neg c20] at H
                  have c20b0 : ((bt a0 (ji14)) == 47) = false := beq_eq_false_iff_ne.mpr c20
                  have c20b1 : ((bt a0 (ji14)) != 47) = true := bne_iff_ne.mpr c20
                  obtain rfl := Option.some.inj H
                  have p17 : 0 ≤ ((ji14) : Int) := of_decide_eq_true (by first | (with_reducible assumption) | assumption)
                  have q17 : (ji14) < (a0.size : Int) := of_decide_eq_true (by first | (with_reducible assumption) | assumption)
                  have hx17 := bt_at a0 (ji14)
                  replace p17 := eq_true p17
                  replace q17 := eq_true q17
                  go_wp2_with (first | ((with_reducible refine gate_callee (f := 100) rfl ?_); refine goesL_ (some 38) rfl rfl Tryz.func100 (by kernel_rfl) rfl #[.int .u8 (bt a0 (ji14))] rfl (by (try simp only [List.map_toArray, List.map_cons, List.map_nil]); first | done | (simp only [hji14]; rfl) | rfl | (simp only [List.length_drop, List.length_take]; rfl)) ?_; (with_reducible refine (sign_Space.calls (bt a0 (ji14)) false _ A18.out).mono ?_); rintro e w' ⟨rfl, ⟨nd, rfl⟩⟩; refine ⟨_, rfl, ?_⟩))
                  go_ret
                  exact ⟨by first | rfl | (simp [errW_none, errW_some] <;> rfl) | (simp only [← hji14]; first | rfl | (simp [errW_none, errW_some] <;> rfl)) | (simp [*, errW_none, errW_some] <;> rfl), by repeat (first | (with_reducible first | exact HB.out | apply below_alloc | apply pw_below_drewN | apply below_drew1) | exact HB.out)⟩
            · rw [if_neg c16] at H
              exact absurd H (by simp)
          · rw [if_neg c15] at H
            exact absurd H (by simp)
def script_word.j0 : Nat → ByteArray → Int → Int → Bool → Option (Int)
  | 0, _, _, _, _ => none
  | k + 1, x0, x1, x7, x25 => if x25 = true then (some 0) else (if 0 ≤ (wrap64 (x1 + x7)) then (if (wrap64 (x1 + x7)) < (x0.size : Int) then ((sign_Space.f (bt x0 (wrap64 (x1 + x7)))).bind fun t114 => (if t114 = true then (some (wrap64 (x7 + 1))) else (if (bt x0 (wrap64 (x1 + x7))) = 47 then (some (wrap64 (x7 + 1))) else (if (bt x0 (wrap64 (x1 + x7))) = 62 then (some (wrap64 (x7 + 1))) else (some 0))))) else (none)) else (none))
def script_word.f (k : Nat) (a0 : ByteArray) (a1 : Int) (a2 : ByteArray) : Option (Int) := if a2.size + 6 ≤ 9223372036854775807 then ((sign_Begins.f a0 a1 (a2 ++ (⟨#[115, 99, 114, 105, 112, 116]⟩ : ByteArray))).bind fun t113 => (if t113 = true then (script_word.j0 k a0 a1 (wrap64 ((a2.size : Int) + 6)) ((wrap64 (a1 + (wrap64 ((a2.size : Int) + 6)))) == (a0.size : Int))) else (script_word.j0 k a0 a1 (wrap64 ((a2.size : Int) + 6)) true))) else (none)
set_option maxHeartbeats 8000000 in
set_option maxRecDepth 100000 in
theorem script_word.calls (k : Nat) (a0 : ByteArray) (a1 : Int) (a2 : ByteArray) (r : Int) (w : World) (h : script_word.f k a0 a1 a2 = some r) :
    Calls Tryz.prog 135 #[.string a0, .int .i64 a1, .string a2] w fun e w' => e = .returned (.int .i64 r) ∧ Below w.heap.size w w' := by
  have HB := Aside0.mk (Below.refl w.heap.size w)
  have H : (if a2.size + 6 ≤ 9223372036854775807 then ((sign_Begins.f a0 a1 (a2 ++ (⟨#[115, 99, 114, 105, 112, 116]⟩ : ByteArray))).bind fun t113 => (if t113 = true then (script_word.j0 k a0 a1 (wrap64 ((a2.size : Int) + 6)) ((wrap64 (a1 + (wrap64 ((a2.size : Int) + 6)))) == (a0.size : Int))) else (script_word.j0 k a0 a1 (wrap64 ((a2.size : Int) + 6)) true))) else (none)) = some r := h
  clear h
  have HC4 := Aside0.mk H
  clear H
  go_enter Tryz.func135, Tryz.ntmps135
  go_upto_region 2 with (fail)
  go_cut [25] (fun v25 wc => ∃ (kq : Nat) (x25_3 : Bool), v25 = .bool x25_3 ∧ Aside0 (script_word.j0 kq a0 a1 (wrap64 ((a2.size : Int) + 6)) x25_3 = some r) ∧ Aside0 (kq ≤ k) ∧ Aside0 (Below w.heap.size w wc))
  case first =>
    have H := HC4.out
    clear HC4
    by_cases c5 : a2.size + 6 ≤ 9223372036854775807
    · rw [if_pos c5] at H
      have c5b0 := eq_true c5
      have c5b1 : decide (a2.size + 6 ≤ 9223372036854775807) = true := decide_eq_true c5
      try have c5b2 : (9223372036854775807 < a2.size + 6) = False := eq_false (Nat.not_lt.2 c5)
      replace H := Option.bind_eq_some_iff.mp H
      obtain ⟨t113, A60, H⟩ := H
      replace H : (if t113 = true then (script_word.j0 k a0 a1 (wrap64 ((a2.size : Int) + 6)) ((wrap64 (a1 + (wrap64 ((a2.size : Int) + 6)))) == (a0.size : Int))) else (script_word.j0 k a0 a1 (wrap64 ((a2.size : Int) + 6)) true)) = some r := H
      have A6 := Aside0.mk A60
      clear A60
      by_cases c7 : t113 = true
      · subst c7
        have H1 : (script_word.j0 k a0 a1 (wrap64 ((a2.size : Int) + 6)) ((wrap64 (a1 + (wrap64 ((a2.size : Int) + 6)))) == (a0.size : Int))) = some r := by rw [if_pos rfl] at H; exact H
        clear H
        have H := H1
        clear H1
        have H' := Aside0.mk H
        clear H
        go_wp2_with (first | ((with_reducible refine gate_callee (f := 53) rfl ?_); refine goesL_ (some 16) rfl rfl Tryz.func53 (by kernel_rfl) rfl #[.string a0, .int .i64 a1, .string (a2 ++ (⟨#[115, 99, 114, 105, 112, 116]⟩ : ByteArray))] rfl (by (try simp only [List.map_toArray, List.map_cons, List.map_nil]); first | done | rfl | (simp only [List.length_drop, List.length_take]; rfl)) ?_; (with_reducible refine (sign_Begins.calls a0 a1 (a2 ++ (⟨#[115, 99, 114, 105, 112, 116]⟩ : ByteArray)) true _ A6.out).mono ?_); rintro e w8 ⟨rfl, hb⟩; refine ⟨_, rfl, ?_⟩; have n0_ := Aside0.mk (below_step (by repeat (first | (with_reducible first | exact HB.out | apply below_alloc | apply pw_below_drewN | apply below_drew1) | exact HB.out)) hb); clear HB; have HB := n0_; clear n0_; (try clear hb); (try clear hb2); (try clear hk); (try clear hi)))
        go_meet
        case rel => exact ⟨_, (((wrap64 (a1 + (wrap64 ((a2.size : Int) + 6)))) == (a0.size : Int))), (by first | rfl | (simp; done) | (simp [*]; done)), H', ⟨by first | omega | exact Nat.le_refl _⟩, ⟨by repeat (first | (with_reducible first | exact HB.out | apply below_alloc | apply pw_below_drewN | apply below_drew1) | exact HB.out)⟩⟩
      · replace c7 := Bool.eq_false_iff.mpr c7
        subst c7
        have H1 : (script_word.j0 k a0 a1 (wrap64 ((a2.size : Int) + 6)) true) = some r := by rw [if_neg (show ¬ (false = true) by decide)] at H; exact H
        clear H
        have H := H1
        clear H1
        have H' := Aside0.mk H
        clear H
        go_wp2_with (first | ((with_reducible refine gate_callee (f := 53) rfl ?_); refine goesL_ (some 16) rfl rfl Tryz.func53 (by kernel_rfl) rfl #[.string a0, .int .i64 a1, .string (a2 ++ (⟨#[115, 99, 114, 105, 112, 116]⟩ : ByteArray))] rfl (by (try simp only [List.map_toArray, List.map_cons, List.map_nil]); first | done | rfl | (simp only [List.length_drop, List.length_take]; rfl)) ?_; (with_reducible refine (sign_Begins.calls a0 a1 (a2 ++ (⟨#[115, 99, 114, 105, 112, 116]⟩ : ByteArray)) false _ A6.out).mono ?_); rintro e w9 ⟨rfl, hb⟩; refine ⟨_, rfl, ?_⟩; have n0_ := Aside0.mk (below_step (by repeat (first | (with_reducible first | exact HB.out | apply below_alloc | apply pw_below_drewN | apply below_drew1) | exact HB.out)) hb); clear HB; have HB := n0_; clear n0_; (try clear hb); (try clear hb2); (try clear hk); (try clear hi)))
        go_meet
        case rel => exact ⟨_, (true), (by first | rfl | (simp; done) | (simp [*]; done)), H', ⟨by first | omega | exact Nat.le_refl _⟩, ⟨by repeat (first | (with_reducible first | exact HB.out | apply below_alloc | apply pw_below_drewN | apply below_drew1) | exact HB.out)⟩⟩
    · rw [if_neg c5] at H
      exact absurd H (by simp)
  case rest =>
    clear HC4
    try clear c1
    try clear p2
    try clear c5
    try clear c5b0
    try clear c5b1
    try clear c5b2
    try clear p6
    try clear c7
    obtain ⟨kq, x25_3, rfl, HA, HJ3, HB⟩ := hcut
    cases kq with
    | zero => exact absurd HA.out (by simp [script_word.j0])
    | succ kj3 =>
      have H := HA.out
      clear HA
      simp only [script_word.j0] at H
      by_cases c10 : x25_3 = true
      · subst c10
        have H1 : (some 0) = some r := by rw [if_pos rfl] at H; exact H
        clear H
        have H := H1
        clear H1
        obtain rfl := Option.some.inj H
        go_wp2
        go_ret
        exact ⟨by first | rfl | (simp [errW_none, errW_some] <;> rfl) | (simp [*, errW_none, errW_some] <;> rfl), by repeat (first | (with_reducible first | exact HB.out | apply below_alloc | apply pw_below_drewN | apply below_drew1) | exact HB.out)⟩
      · replace c10 := Bool.eq_false_iff.mpr c10
        subst c10
        have H1 : (if 0 ≤ (wrap64 (a1 + (wrap64 ((a2.size : Int) + 6)))) then (if (wrap64 (a1 + (wrap64 ((a2.size : Int) + 6)))) < (a0.size : Int) then ((sign_Space.f (bt a0 (wrap64 (a1 + (wrap64 ((a2.size : Int) + 6)))))).bind fun t114 => (if t114 = true then (some (wrap64 ((wrap64 ((a2.size : Int) + 6)) + 1))) else (if (bt a0 (wrap64 (a1 + (wrap64 ((a2.size : Int) + 6))))) = 47 then (some (wrap64 ((wrap64 ((a2.size : Int) + 6)) + 1))) else (if (bt a0 (wrap64 (a1 + (wrap64 ((a2.size : Int) + 6))))) = 62 then (some (wrap64 ((wrap64 ((a2.size : Int) + 6)) + 1))) else (some 0))))) else (none)) else (none)) = some r := by rw [if_neg (show ¬ (false = true) by decide)] at H; exact H
        clear H
        have H := H1
        clear H1
        obtain ⟨ji11, hji11⟩ : ∃ j_ : Int, (wrap64 (a1 + (wrap64 ((a2.size : Int) + 6)))) = j_ := ⟨_, rfl⟩
        replace H : (if 0 ≤ (ji11) then (if (ji11) < (a0.size : Int) then ((sign_Space.f (bt a0 (ji11))).bind fun t114 => (if t114 = true then (some (wrap64 ((wrap64 ((a2.size : Int) + 6)) + 1))) else (if (bt a0 (ji11)) = 47 then (some (wrap64 ((wrap64 ((a2.size : Int) + 6)) + 1))) else (if (bt a0 (ji11)) = 62 then (some (wrap64 ((wrap64 ((a2.size : Int) + 6)) + 1))) else (some 0))))) else (none)) else (none)) = some r := by first | (rw [hji11] at H; exact H) | (simp only [hji11] at H ⊢; exact H)
        have hji11w : (IntKind.i64.wrap (a1 + (wrap64 ((a2.size : Int) + 6)))) = ji11 := (i64_w _).trans hji11
        by_cases c12 : 0 ≤ (ji11)
        · rw [if_pos c12] at H
          have c12b0 : decide (0 ≤ (ji11)) = true := decide_eq_true c12
          clear c12
          by_cases c13 : (ji11) < (a0.size : Int)
          · rw [if_pos c13] at H
            have c13b0 : decide ((ji11) < (a0.size : Int)) = true := decide_eq_true c13
            clear c13
            replace H := Option.bind_eq_some_iff.mp H
            obtain ⟨t114, A150, H⟩ := H
            replace H : (if t114 = true then (some (wrap64 ((wrap64 ((a2.size : Int) + 6)) + 1))) else (if (bt a0 (ji11)) = 47 then (some (wrap64 ((wrap64 ((a2.size : Int) + 6)) + 1))) else (if (bt a0 (ji11)) = 62 then (some (wrap64 ((wrap64 ((a2.size : Int) + 6)) + 1))) else (some 0)))) = some r := H
            have A15 := Aside0.mk A150
            clear A150
            by_cases c16 : t114 = true
            · subst c16
              have H1 : (some (wrap64 ((wrap64 ((a2.size : Int) + 6)) + 1))) = some r := by rw [if_pos rfl] at H; exact H
              clear H
              have H := H1
              clear H1
              obtain rfl := Option.some.inj H
              have p14 : 0 ≤ ((ji11) : Int) := of_decide_eq_true (by first | (with_reducible assumption) | assumption)
              have q14 : (ji11) < (a0.size : Int) := of_decide_eq_true (by first | (with_reducible assumption) | assumption)
              have hx14 := bt_at a0 (ji11)
              replace p14 := eq_true p14
              replace q14 := eq_true q14
              go_wp2_with (first | ((with_reducible refine gate_callee (f := 100) rfl ?_); refine goesL_ (some 32) rfl rfl Tryz.func100 (by kernel_rfl) rfl #[.int .u8 (bt a0 (ji11))] rfl (by (try simp only [List.map_toArray, List.map_cons, List.map_nil]); first | done | (simp only [hji11]; rfl) | rfl | (simp only [List.length_drop, List.length_take]; rfl)) ?_; (with_reducible refine (sign_Space.calls (bt a0 (ji11)) true _ A15.out).mono ?_); rintro e w' ⟨rfl, ⟨nd, rfl⟩⟩; refine ⟨_, rfl, ?_⟩))
              go_ret
              exact ⟨by first | rfl | (simp [errW_none, errW_some] <;> rfl) | (simp only [← hji11]; first | rfl | (simp [errW_none, errW_some] <;> rfl)) | (simp [*, errW_none, errW_some] <;> rfl), by repeat (first | (with_reducible first | exact HB.out | apply below_alloc | apply pw_below_drewN | apply below_drew1) | exact HB.out)⟩
            · replace c16 := Bool.eq_false_iff.mpr c16
              subst c16
              have H1 : (if (bt a0 (ji11)) = 47 then (some (wrap64 ((wrap64 ((a2.size : Int) + 6)) + 1))) else (if (bt a0 (ji11)) = 62 then (some (wrap64 ((wrap64 ((a2.size : Int) + 6)) + 1))) else (some 0))) = some r := by rw [if_neg (show ¬ (false = true) by decide)] at H; exact H
              clear H
              have H := H1
              clear H1
              by_cases c17 : (bt a0 (ji11)) = 47
              · rw [if_pos c17] at H
                have c17b0 : ((bt a0 (ji11)) == 47) = true := beq_iff_eq.mpr c17
                have c17b1 : ((bt a0 (ji11)) != 47) = false := bne_eq_false_iff_eq.mpr c17
                clear c17
                obtain rfl := Option.some.inj H
                have p14 : 0 ≤ ((ji11) : Int) := of_decide_eq_true (by first | (with_reducible assumption) | assumption)
                have q14 : (ji11) < (a0.size : Int) := of_decide_eq_true (by first | (with_reducible assumption) | assumption)
                have hx14 := bt_at a0 (ji11)
                replace p14 := eq_true p14
                replace q14 := eq_true q14
                go_wp2_with (first | ((with_reducible refine gate_callee (f := 100) rfl ?_); refine goesL_ (some 32) rfl rfl Tryz.func100 (by kernel_rfl) rfl #[.int .u8 (bt a0 (ji11))] rfl (by (try simp only [List.map_toArray, List.map_cons, List.map_nil]); first | done | (simp only [hji11]; rfl) | rfl | (simp only [List.length_drop, List.length_take]; rfl)) ?_; (with_reducible refine (sign_Space.calls (bt a0 (ji11)) false _ A15.out).mono ?_); rintro e w' ⟨rfl, ⟨nd, rfl⟩⟩; refine ⟨_, rfl, ?_⟩))
                go_ret
                exact ⟨by first | rfl | (simp [errW_none, errW_some] <;> rfl) | (simp only [← hji11]; first | rfl | (simp [errW_none, errW_some] <;> rfl)) | (simp [*, errW_none, errW_some] <;> rfl), by repeat (first | (with_reducible first | exact HB.out | apply below_alloc | apply pw_below_drewN | apply below_drew1) | exact HB.out)⟩
              · rw [if_neg c17] at H
                have c17b0 : ((bt a0 (ji11)) == 47) = false := beq_eq_false_iff_ne.mpr c17
                have c17b1 : ((bt a0 (ji11)) != 47) = true := bne_iff_ne.mpr c17
                by_cases c18 : (bt a0 (ji11)) = 62
                · rw [if_pos c18] at H
                  have c18b0 : ((bt a0 (ji11)) == 62) = true := beq_iff_eq.mpr c18
                  have c18b1 : ((bt a0 (ji11)) != 62) = false := bne_eq_false_iff_eq.mpr c18
                  clear c18
                  obtain rfl := Option.some.inj H
                  have p14 : 0 ≤ ((ji11) : Int) := of_decide_eq_true (by first | (with_reducible assumption) | assumption)
                  have q14 : (ji11) < (a0.size : Int) := of_decide_eq_true (by first | (with_reducible assumption) | assumption)
                  have hx14 := bt_at a0 (ji11)
                  replace p14 := eq_true p14
                  replace q14 := eq_true q14
                  go_wp2_with (first | ((with_reducible refine gate_callee (f := 100) rfl ?_); refine goesL_ (some 32) rfl rfl Tryz.func100 (by kernel_rfl) rfl #[.int .u8 (bt a0 (ji11))] rfl (by (try simp only [List.map_toArray, List.map_cons, List.map_nil]); first | done | (simp only [hji11]; rfl) | rfl | (simp only [List.length_drop, List.length_take]; rfl)) ?_; (with_reducible refine (sign_Space.calls (bt a0 (ji11)) false _ A15.out).mono ?_); rintro e w' ⟨rfl, ⟨nd, rfl⟩⟩; refine ⟨_, rfl, ?_⟩))
                  go_ret
                  exact ⟨by first | rfl | (simp [errW_none, errW_some] <;> rfl) | (simp only [← hji11]; first | rfl | (simp [errW_none, errW_some] <;> rfl)) | (simp [*, errW_none, errW_some] <;> rfl), by repeat (first | (with_reducible first | exact HB.out | apply below_alloc | apply pw_below_drewN | apply below_drew1) | exact HB.out)⟩
                · rw [if_neg c18] at H
                  have c18b0 : ((bt a0 (ji11)) == 62) = false := beq_eq_false_iff_ne.mpr c18
                  have c18b1 : ((bt a0 (ji11)) != 62) = true := bne_iff_ne.mpr c18
                  obtain rfl := Option.some.inj H
                  have p14 : 0 ≤ ((ji11) : Int) := of_decide_eq_true (by first | (with_reducible assumption) | assumption)
                  have q14 : (ji11) < (a0.size : Int) := of_decide_eq_true (by first | (with_reducible assumption) | assumption)
                  have hx14 := bt_at a0 (ji11)
                  replace p14 := eq_true p14
                  replace q14 := eq_true q14
                  go_wp2_with (first | ((with_reducible refine gate_callee (f := 100) rfl ?_); refine goesL_ (some 32) rfl rfl Tryz.func100 (by kernel_rfl) rfl #[.int .u8 (bt a0 (ji11))] rfl (by (try simp only [List.map_toArray, List.map_cons, List.map_nil]); first | done | (simp only [hji11]; rfl) | rfl | (simp only [List.length_drop, List.length_take]; rfl)) ?_; (with_reducible refine (sign_Space.calls (bt a0 (ji11)) false _ A15.out).mono ?_); rintro e w' ⟨rfl, ⟨nd, rfl⟩⟩; refine ⟨_, rfl, ?_⟩))
                  go_ret
                  exact ⟨by first | rfl | (simp [errW_none, errW_some] <;> rfl) | (simp only [← hji11]; first | rfl | (simp [errW_none, errW_some] <;> rfl)) | (simp [*, errW_none, errW_some] <;> rfl), by repeat (first | (with_reducible first | exact HB.out | apply below_alloc | apply pw_below_drewN | apply below_drew1) | exact HB.out)⟩
          · rw [if_neg c13] at H
            exact absurd H (by simp)
        · rw [if_neg c12] at H
          exact absurd H (by simp)
end Go.Proofs.YtbdcghbafopjjaaGreatDoor.Sa
end

section
namespace Go.Proofs.YtbdcghbafopjjaaGreatDoor.Hand
open Go.RowKit Go.Proofs.YtbdcghbafopjjaaGreatDoor.Pl Go.Proofs.YtbdcghbafopjjaaGreatDoor.Sa Go.Proofs.YtbdcghbafopjjaaGreatDoorW.PrintWords Go.Proofs.YtbdcghbafopjjaaGreatDoorW.PrintLast Go.Proofs.YtbdcghbafopjjaaGreatDoorW.PrintMore
attribute [local go_sem] max2_int min2_int max_two min_two max_three min_three max_four min_four
def script_Find.m (k : Nat) (L : Int → Int → Int → Option (Int × Int)) (s : ByteArray) (nx st ct : Int) : Option (Int × Int) :=
  if 0 ≤ nx then (if nx < (s.size : Int) then
    (if bt s nx = 45 then L (wrap64 (nx + 1)) st (wrap64 (ct + 1))
    else if bt s nx = 62 ∧ 2 ≤ ct then L (wrap64 (nx + 1)) 0 0
    else if st = 1 then (script_word.f k s nx ⟨#[60]⟩).bind fun x => if x > 0 then L (wrap64 (nx + x)) 2 0 else L (wrap64 (nx + 1)) 1 0
    else if st = 2 then (script_word.f k s nx ⟨#[60, 47]⟩).bind fun x => if x > 0 then L (wrap64 (nx + x)) 1 0 else L (wrap64 (nx + 1)) 2 0
    else L (wrap64 (nx + 1)) st 0) else none) else none
def script_Find.l : Nat → ByteArray → Int → Int → Int → Option (Int × Int)
  | 0, _, _, _, _ => none
  | k + 1, s, nx, st, ct =>
    if nx = (s.size : Int) then some (nx, st)
    else if st = 2 then script_Find.m k (script_Find.l k s) s nx st ct
    else (raw_Ends.f k s nx ⟨#[115, 99, 114, 105, 112, 116]⟩).bind fun e =>
      if e = true then some (nx, st)
      else if st = 0 then (sign_Begins.f s nx ⟨#[60, 33, 45, 45]⟩).bind fun b => if b = true then script_Find.l k s (wrap64 (nx + 4)) 1 2 else script_Find.l k s (wrap64 (nx + 1)) 0 ct
      else script_Find.m k (script_Find.l k s) s nx st ct
def script_Find.f (k : Nat) (a0 : ByteArray) (a1 : Int) : Option (Int × Int) := script_Find.l k a0 (mn (mx a1 0) (a0.size : Int)) 0 0
def FindJ (s : ByteArray) (w : World) (r1 r2 : Int) (g : Nat) (a' : Act) (wr : World) : Prop :=
  ∃ (nx st ct : Int) (u1 u2 u3 u7 u8 u9 u10 u11 u12 u13 u14 u15 u16 u17 u18 u19 u20 u21 u22 u23 u24 u25 u26 u27 u28 u29 u30 u31 u32 u33 u34 u35 u36 u37 u38 u39 u40 u41 u42 u43 u44 u45 u46 u47 u48 u49 u50 u51 u52 u53 u54 u55 u56 u57 u58 u59 u60 u61 u62 u63 u64 u65 u66 u67 u68 u69 u70 u71 u72 u73 u74 u75 : Value),
    a' = { tmps := #[.string s, u1, u2, u3, .int .i64 nx, .int .i64 st, .int .i64 ct, u7, u8, u9, u10, u11, u12, u13, u14, u15, u16, u17, u18, u19, u20, u21, u22, u23, u24, u25, u26, u27, u28, u29, u30, u31, u32, u33, u34, u35, u36, u37, u38, u39, u40, u41, u42, u43, u44, u45, u46, u47, u48, u49, u50, u51, u52, u53, u54, u55, u56, u57, u58, u59, u60, u61, u62, u63, u64, u65, u66, u67, u68, u69, u70, u71, u72, u73, u74, u75], defers := [] } ∧ Hid (script_Find.l g s nx st ct = some (r1, r2)) ∧ Below w.heap.size w wr
theorem below_on {w W W1 : World} (h : Below w.heap.size w W) (k : Below W.heap.size W W1) : Below w.heap.size w W1 := h.trans (k.mono h.size)
set_option maxHeartbeats 2000000 in
set_option maxRecDepth 100000 in
theorem script_Find.calls (k : Nat) (a0 : ByteArray) (a1 : Int) (r1 r2 : Int) (w : World) (h : script_Find.f k a0 a1 = some (r1, r2)) :
    Calls Tryz.prog 98 #[.string a0, .int .i64 a1] w fun e w' => e = .returned (.tuple #[.int .i64 r1, .int .i64 r2]) ∧ Below w.heap.size w w' := by
  unfold script_Find.f at h
  obtain ⟨j1, hj1⟩ : ∃ j, mx a1 0 = j := ⟨_, rfl⟩
  rw [hj1] at h
  obtain ⟨j2, hj2⟩ : ∃ j, mn j1 (a0.size : Int) = j := ⟨_, rfl⟩
  rw [hj2] at h
  have H0 := Lib.hid h
  clear h
  replace hj1 : (if a1 < 0 then 0 else a1) = j1 := hj1
  replace hj2 : (if (a0.size : Int) < j1 then (a0.size : Int) else j1) = j2 := hj2
  generalize hs : a0 = s at *
  clear hs a0
  go_enter Tryz.func98, Tryz.ntmps98
  go_wp2
  refine wp_scope_back 0 (FindJ s w r1 r2) rfl ?_ ?_
  · intro hB
    have HB := Lib.hid hB
    clear hB
    go_wp2
    refine wp_label_k (by assumption) (HB.out k _ _ ?_)
    exact ⟨_, _, _, _, _, _, _, _, _, _, _, _, _, _, _, _, _, _, _, _, _, _, _, _, _, _, _, _, _, _, _, _, _, _, _, _, _, _, _, _, _, _, _, _, _, _, _, _, _, _, _, _, _, _, _, _, _, _, _, _, _, _, _, _, _, _, _, _, _, _, _, _, _, _, _, rfl, H0, Below.refl _ _⟩
  · rintro g a' wr ⟨nx, st, ct, u1, u2, u3, u7, u8, u9, u10, u11, u12, u13, u14, u15, u16, u17, u18, u19, u20, u21, u22, u23, u24, u25, u26, u27, u28, u29, u30, u31, u32, u33, u34, u35, u36, u37, u38, u39, u40, u41, u42, u43, u44, u45, u46, u47, u48, u49, u50, u51, u52, u53, u54, u55, u56, u57, u58, u59, u60, u61, u62, u63, u64, u65, u66, u67, u68, u69, u70, u71, u72, u73, u74, u75, rfl, HJ, hb⟩
    clear H0 hj1 hj2
    cases g with
    | zero => exact absurd HJ.out (by simp [script_Find.l])
    | succ g =>
      have H := HJ.out
      clear HJ
      rw [script_Find.l] at H
      have HB := Lib.hid hb
      clear hb
      by_cases c1 : nx = (s.size : Int)
      · rw [if_pos c1] at H
        have t1 : (nx == (s.size : Int)) = true := beq_iff_eq.2 c1
        simp only [Option.some.injEq, Prod.mk.injEq] at H
        obtain ⟨rfl, rfl⟩ := H
        clear c1
        go_wp2
        simp only [Exit.jumps]
        go_ret2
        exact ⟨rfl, HB.out⟩
      rw [if_neg c1] at H
      have t1 : (nx == (s.size : Int)) = false := beq_eq_false_iff_ne.2 c1
      clear c1
      by_cases c2 : st = 2
      · subst c2
        rw [if_pos rfl] at H
        unfold script_Find.m at H
        have d0 : 0 ≤ nx := Decidable.byContradiction fun d0 => by rw [if_neg d0] at H; cases H
        have d1 : nx < (s.size : Int) := Decidable.byContradiction fun d1 => by rw [if_pos d0, if_neg d1] at H; cases H
        rw [if_pos d0, if_pos d1] at H
        have hx := bt_at s nx
        replace d0 := eq_true d0
        replace d1 := eq_true d1
        by_cases d2 : bt s nx = 45
        · rw [if_pos d2] at H
          have d2b : (bt s nx == 45) = true := beq_iff_eq.2 d2
          clear d2
          have H' := Lib.hid H; clear H; have H := H'; clear H'
          go_wp2
          go_step3
          exact ⟨rfl, g, Nat.lt_succ_self _, _, _, _, _, _, _, _, _, _, _, _, _, _, _, _, _, _, _, _, _, _, _, _, _, _, _, _, _, _, _, _, _, _, _, _, _, _, _, _, _, _, _, _, _, _, _, _, _, _, _, _, _, _, _, _, _, _, _, _, _, _, _, _, _, _, _, _, _, _, _, _, _, _, _, _, rfl, H.out, HB.out⟩
        rw [if_neg d2] at H
        have d2b : (bt s nx == 45) = false := beq_eq_false_iff_ne.2 d2
        clear d2
        by_cases d3 : bt s nx = 62 ∧ 2 ≤ ct
        · rw [if_pos d3] at H
          have d3b : (bt s nx == 62) = true := beq_iff_eq.2 d3.1
          have d3c : decide (2 ≤ ct) = true := decide_eq_true d3.2
          clear d3
          have H' := Lib.hid H; clear H; have H := H'; clear H'
          go_wp2
          go_step3
          exact ⟨rfl, g, Nat.lt_succ_self _, _, _, _, _, _, _, _, _, _, _, _, _, _, _, _, _, _, _, _, _, _, _, _, _, _, _, _, _, _, _, _, _, _, _, _, _, _, _, _, _, _, _, _, _, _, _, _, _, _, _, _, _, _, _, _, _, _, _, _, _, _, _, _, _, _, _, _, _, _, _, _, _, _, _, _, rfl, H.out, HB.out⟩
        rw [if_neg d3] at H
        have d4 : (bt s nx == 62) = false ∨ ((bt s nx == 62) = true ∧ decide (2 ≤ ct) = false) := by
          by_cases e : bt s nx = 62
          · exact .inr ⟨beq_iff_eq.2 e, decide_eq_false fun h => d3 ⟨e, h⟩⟩
          · exact .inl (beq_eq_false_iff_ne.2 e)
        clear d3
        rw [if_neg (by decide), if_pos rfl] at H
        replace H := Option.bind_eq_some_iff.1 H
        obtain ⟨x, AW0, H⟩ := H
        have AW := Lib.hid AW0
        clear AW0
        by_cases d5 : x > 0
        · rw [if_pos d5] at H
          have d5b : decide (0 < x) = true := decide_eq_true d5
          clear d5
          have H' := Lib.hid H; clear H; have H := H'; clear H'
          rcases d4 with d4 | ⟨d4, d4c⟩
          all_goals
            go_wp2_with (first | (go_at_call 135; (with_reducible refine (script_word.calls g s nx _ _ _ AW.out).mono ?_); rintro e' w1 ⟨rfl, b1⟩; have HC := Lib.hid (below_on HB.out b1); clear b1 HB; have HB := HC; clear HC))
            go_step3
            exact ⟨rfl, g, Nat.lt_succ_self _, _, _, _, _, _, _, _, _, _, _, _, _, _, _, _, _, _, _, _, _, _, _, _, _, _, _, _, _, _, _, _, _, _, _, _, _, _, _, _, _, _, _, _, _, _, _, _, _, _, _, _, _, _, _, _, _, _, _, _, _, _, _, _, _, _, _, _, _, _, _, _, _, _, _, _, rfl, H.out, HB.out⟩
        · rw [if_neg d5] at H
          have d5b : decide (0 < x) = false := decide_eq_false d5
          clear d5
          have H' := Lib.hid H; clear H; have H := H'; clear H'
          rcases d4 with d4 | ⟨d4, d4c⟩
          all_goals
            go_wp2_with (first | (go_at_call 135; (with_reducible refine (script_word.calls g s nx _ _ _ AW.out).mono ?_); rintro e' w1 ⟨rfl, b1⟩; have HC := Lib.hid (below_on HB.out b1); clear b1 HB; have HB := HC; clear HC))
            go_step3
            exact ⟨rfl, g, Nat.lt_succ_self _, _, _, _, _, _, _, _, _, _, _, _, _, _, _, _, _, _, _, _, _, _, _, _, _, _, _, _, _, _, _, _, _, _, _, _, _, _, _, _, _, _, _, _, _, _, _, _, _, _, _, _, _, _, _, _, _, _, _, _, _, _, _, _, _, _, _, _, _, _, _, _, _, _, _, _, rfl, H.out, HB.out⟩
      · rw [if_neg c2] at H
        replace H := Option.bind_eq_some_iff.1 H
        obtain ⟨e, AE0, H⟩ := H
        have AE := Lib.hid AE0
        clear AE0
        have t2 : (st != 2) = true := bne_iff_ne.2 c2
        by_cases c3 : e = true
        · subst c3
          rw [if_pos rfl] at H
          simp only [Option.some.injEq, Prod.mk.injEq] at H
          obtain ⟨rfl, rfl⟩ := H
          clear c2
          go_wp2_with (first | (go_at_call 134; (with_reducible refine (raw_Ends.calls g s nx _ _ _ AE.out).mono ?_); rintro e' w1 ⟨rfl, b1⟩; have HC := Lib.hid (below_on HB.out b1); clear b1 HB; have HB := HC; clear HC))
          simp only [Exit.jumps]
          go_ret2
          exact ⟨rfl, HB.out⟩
        rw [if_neg c3] at H
        obtain rfl : e = false := by simpa using c3
        clear c3
        by_cases c4 : st = 0
        · subst c4
          rw [if_pos rfl] at H
          clear c2
          replace H := Option.bind_eq_some_iff.1 H
          obtain ⟨b, AB0, H⟩ := H
          have AB := Lib.hid AB0
          clear AB0
          cases b with
          | true =>
            rw [if_pos rfl] at H
            have H' := Lib.hid H; clear H; have H := H'; clear H'
            go_wp2_with (first | (go_at_call 134; (with_reducible refine (raw_Ends.calls g s nx _ _ _ AE.out).mono ?_); rintro e' w1 ⟨rfl, b1⟩; have HC := Lib.hid (below_on HB.out b1); clear b1 HB; have HB := HC; clear HC) | (go_at_call 53; (with_reducible refine (sign_Begins.calls s nx _ _ _ AB.out).mono ?_); rintro e' w1 ⟨rfl, b1⟩; have HC := Lib.hid (below_on HB.out b1); clear b1 HB; have HB := HC; clear HC))
            go_step3
            exact ⟨rfl, g, Nat.lt_succ_self _, _, _, _, _, _, _, _, _, _, _, _, _, _, _, _, _, _, _, _, _, _, _, _, _, _, _, _, _, _, _, _, _, _, _, _, _, _, _, _, _, _, _, _, _, _, _, _, _, _, _, _, _, _, _, _, _, _, _, _, _, _, _, _, _, _, _, _, _, _, _, _, _, _, _, _, rfl, H.out, HB.out⟩
          | false =>
            rw [if_neg (by simp)] at H
            have H' := Lib.hid H; clear H; have H := H'; clear H'
            go_wp2_with (first | (go_at_call 134; (with_reducible refine (raw_Ends.calls g s nx _ _ _ AE.out).mono ?_); rintro e' w1 ⟨rfl, b1⟩; have HC := Lib.hid (below_on HB.out b1); clear b1 HB; have HB := HC; clear HC) | (go_at_call 53; (with_reducible refine (sign_Begins.calls s nx _ _ _ AB.out).mono ?_); rintro e' w1 ⟨rfl, b1⟩; have HC := Lib.hid (below_on HB.out b1); clear b1 HB; have HB := HC; clear HC))
            go_step3
            exact ⟨rfl, g, Nat.lt_succ_self _, _, _, _, _, _, _, _, _, _, _, _, _, _, _, _, _, _, _, _, _, _, _, _, _, _, _, _, _, _, _, _, _, _, _, _, _, _, _, _, _, _, _, _, _, _, _, _, _, _, _, _, _, _, _, _, _, _, _, _, _, _, _, _, _, _, _, _, _, _, _, _, _, _, _, _, rfl, H.out, HB.out⟩
        rw [if_neg c4] at H
        have t4 : (st == 0) = false := beq_eq_false_iff_ne.2 c4
        clear c4
        unfold script_Find.m at H
        have d0 : 0 ≤ nx := Decidable.byContradiction fun d0 => by rw [if_neg d0] at H; cases H
        have d1 : nx < (s.size : Int) := Decidable.byContradiction fun d1 => by rw [if_pos d0, if_neg d1] at H; cases H
        rw [if_pos d0, if_pos d1] at H
        have hx := bt_at s nx
        replace d0 := eq_true d0
        replace d1 := eq_true d1
        by_cases d2 : bt s nx = 45
        · rw [if_pos d2] at H
          have d2b : (bt s nx == 45) = true := beq_iff_eq.2 d2
          clear d2
          have H' := Lib.hid H; clear H; have H := H'; clear H'
          go_wp2_with (first | (go_at_call 134; (with_reducible refine (raw_Ends.calls g s nx _ _ _ AE.out).mono ?_); rintro e' w1 ⟨rfl, b1⟩; have HC := Lib.hid (below_on HB.out b1); clear b1 HB; have HB := HC; clear HC))
          go_step3
          exact ⟨rfl, g, Nat.lt_succ_self _, _, _, _, _, _, _, _, _, _, _, _, _, _, _, _, _, _, _, _, _, _, _, _, _, _, _, _, _, _, _, _, _, _, _, _, _, _, _, _, _, _, _, _, _, _, _, _, _, _, _, _, _, _, _, _, _, _, _, _, _, _, _, _, _, _, _, _, _, _, _, _, _, _, _, _, rfl, H.out, HB.out⟩
        rw [if_neg d2] at H
        have d2b : (bt s nx == 45) = false := beq_eq_false_iff_ne.2 d2
        clear d2
        by_cases d3 : bt s nx = 62 ∧ 2 ≤ ct
        · rw [if_pos d3] at H
          have d3b : (bt s nx == 62) = true := beq_iff_eq.2 d3.1
          have d3c : decide (2 ≤ ct) = true := decide_eq_true d3.2
          clear d3
          have H' := Lib.hid H; clear H; have H := H'; clear H'
          go_wp2_with (first | (go_at_call 134; (with_reducible refine (raw_Ends.calls g s nx _ _ _ AE.out).mono ?_); rintro e' w1 ⟨rfl, b1⟩; have HC := Lib.hid (below_on HB.out b1); clear b1 HB; have HB := HC; clear HC))
          go_step3
          exact ⟨rfl, g, Nat.lt_succ_self _, _, _, _, _, _, _, _, _, _, _, _, _, _, _, _, _, _, _, _, _, _, _, _, _, _, _, _, _, _, _, _, _, _, _, _, _, _, _, _, _, _, _, _, _, _, _, _, _, _, _, _, _, _, _, _, _, _, _, _, _, _, _, _, _, _, _, _, _, _, _, _, _, _, _, _, rfl, H.out, HB.out⟩
        rw [if_neg d3] at H
        have d4 : (bt s nx == 62) = false ∨ ((bt s nx == 62) = true ∧ decide (2 ≤ ct) = false) := by
          by_cases e : bt s nx = 62
          · exact .inr ⟨beq_iff_eq.2 e, decide_eq_false fun h => d3 ⟨e, h⟩⟩
          · exact .inl (beq_eq_false_iff_ne.2 e)
        clear d3
        by_cases d6 : st = 1
        · subst d6
          rw [if_pos rfl] at H
          replace H := Option.bind_eq_some_iff.1 H
          obtain ⟨x, AW0, H⟩ := H
          have AW := Lib.hid AW0
          clear AW0
          by_cases d5 : x > 0
          · rw [if_pos d5] at H
            have d5b : decide (0 < x) = true := decide_eq_true d5
            clear d5
            have H' := Lib.hid H; clear H; have H := H'; clear H'
            rcases d4 with d4 | ⟨d4, d4c⟩
            all_goals
              go_wp2_with (first | (go_at_call 134; (with_reducible refine (raw_Ends.calls g s nx _ _ _ AE.out).mono ?_); rintro e' w1 ⟨rfl, b1⟩; have HC := Lib.hid (below_on HB.out b1); clear b1 HB; have HB := HC; clear HC) | (go_at_call 135; (with_reducible refine (script_word.calls g s nx _ _ _ AW.out).mono ?_); rintro e' w1 ⟨rfl, b1⟩; have HC := Lib.hid (below_on HB.out b1); clear b1 HB; have HB := HC; clear HC))
              go_step3
              exact ⟨rfl, g, Nat.lt_succ_self _, _, _, _, _, _, _, _, _, _, _, _, _, _, _, _, _, _, _, _, _, _, _, _, _, _, _, _, _, _, _, _, _, _, _, _, _, _, _, _, _, _, _, _, _, _, _, _, _, _, _, _, _, _, _, _, _, _, _, _, _, _, _, _, _, _, _, _, _, _, _, _, _, _, _, _, rfl, H.out, HB.out⟩
          · rw [if_neg d5] at H
            have d5b : decide (0 < x) = false := decide_eq_false d5
            clear d5
            have H' := Lib.hid H; clear H; have H := H'; clear H'
            rcases d4 with d4 | ⟨d4, d4c⟩
            all_goals
              go_wp2_with (first | (go_at_call 134; (with_reducible refine (raw_Ends.calls g s nx _ _ _ AE.out).mono ?_); rintro e' w1 ⟨rfl, b1⟩; have HC := Lib.hid (below_on HB.out b1); clear b1 HB; have HB := HC; clear HC) | (go_at_call 135; (with_reducible refine (script_word.calls g s nx _ _ _ AW.out).mono ?_); rintro e' w1 ⟨rfl, b1⟩; have HC := Lib.hid (below_on HB.out b1); clear b1 HB; have HB := HC; clear HC))
              go_step3
              exact ⟨rfl, g, Nat.lt_succ_self _, _, _, _, _, _, _, _, _, _, _, _, _, _, _, _, _, _, _, _, _, _, _, _, _, _, _, _, _, _, _, _, _, _, _, _, _, _, _, _, _, _, _, _, _, _, _, _, _, _, _, _, _, _, _, _, _, _, _, _, _, _, _, _, _, _, _, _, _, _, _, _, _, _, _, _, rfl, H.out, HB.out⟩
        · rw [if_neg d6, if_neg c2] at H
          have d6b : (st == 1) = false := beq_eq_false_iff_ne.2 d6
          have d6c : (st == 2) = false := beq_eq_false_iff_ne.2 c2
          clear d6 c2
          have H' := Lib.hid H; clear H; have H := H'; clear H'
          rcases d4 with d4 | ⟨d4, d4c⟩
          all_goals
            go_wp2_with (first | (go_at_call 134; (with_reducible refine (raw_Ends.calls g s nx _ _ _ AE.out).mono ?_); rintro e' w1 ⟨rfl, b1⟩; have HC := Lib.hid (below_on HB.out b1); clear b1 HB; have HB := HC; clear HC))
            go_step3
            exact ⟨rfl, g, Nat.lt_succ_self _, _, _, _, _, _, _, _, _, _, _, _, _, _, _, _, _, _, _, _, _, _, _, _, _, _, _, _, _, _, _, _, _, _, _, _, _, _, _, _, _, _, _, _, _, _, _, _, _, _, _, _, _, _, _, _, _, _, _, _, _, _, _, _, _, _, _, _, _, _, _, _, _, _, _, _, rfl, H.out, HB.out⟩
end Go.Proofs.YtbdcghbafopjjaaGreatDoor.Hand
end

section
namespace Go.Proofs.YtbdcghbafopjjaaGreatDoor.Pl
def ltB : List UInt8 → List UInt8 → Bool
  | [], [] => false
  | [], _ :: _ => true
  | _ :: _, [] => false
  | a :: l, b :: m => if a.toNat < b.toNat then true else if b.toNat < a.toNat then false else ltB l m
theorem ltB_trans : ∀ {a b c : List UInt8}, ltB a b = true → ltB b c = true → ltB a c = true := by
  intro a
  induction a with
  | nil =>
    intro b c h1 h2
    cases c with
    | nil => cases b <;> simp [ltB] at h1 h2
    | cons => rfl
  | cons x l ih =>
    intro b c h1 h2
    cases b with
    | nil => simp [ltB] at h1
    | cons y m =>
      cases c with
      | nil => simp [ltB] at h2
      | cons z n =>
        simp only [ltB] at h1 h2 ⊢
        by_cases hxy : x.toNat < y.toNat
        · by_cases hyz : y.toNat < z.toNat
          · rw [if_pos (by omega)]
          · by_cases hzy : z.toNat < y.toNat
            · rw [if_neg hyz, if_pos hzy] at h2; cases h2
            · rw [if_pos (by omega)]
        · by_cases hyx : y.toNat < x.toNat
          · rw [if_neg hxy, if_pos hyx] at h1; cases h1
          · rw [if_neg hxy, if_neg hyx] at h1
            by_cases hyz : y.toNat < z.toNat
            · rw [if_pos (by omega)]
            · by_cases hzy : z.toNat < y.toNat
              · rw [if_neg hyz, if_pos hzy] at h2; cases h2
              · rw [if_neg hyz, if_neg hzy] at h2
                rw [if_neg (by omega), if_neg (by omega)]
                exact ih h1 h2
theorem ltB_irrefl : ∀ a : List UInt8, ltB a a = false := by
  intro a
  induction a with
  | nil => rfl
  | cons x l ih => simp [ltB, ih]
theorem ltB_total : ∀ a b : List UInt8, ltB a b = false → ltB b a = false → a = b := by
  intro a
  induction a with
  | nil => intro b h _; cases b with
    | nil => rfl
    | cons => simp [ltB] at h
  | cons x l ih =>
    intro b h1 h2
    cases b with
    | nil => simp [ltB] at h2
    | cons y m =>
      simp only [ltB] at h1 h2
      by_cases hxy : x.toNat < y.toNat
      · rw [if_pos hxy] at h1; cases h1
      · by_cases hyx : y.toNat < x.toNat
        · rw [if_pos hyx] at h2; cases h2
        · rw [if_neg hxy, if_neg hyx] at h1
          rw [if_neg hyx, if_neg hxy] at h2
          have : x = y := UInt8.toNat_inj.1 (by omega)
          rw [this, ih m h1 h2]
theorem ltB_ne {a b : List UInt8} (h : ltB a b = true) : a ≠ b := by rintro rfl; rw [ltB_irrefl] at h; cases h
def isHexU (c : UInt8) : Bool := (48 ≤ c.toNat && c.toNat ≤ 57) || (65 ≤ c.toNat && c.toNat ≤ 70)
def tabOk : List UInt8 → List UInt8 → List UInt8 → Bool → Bool
  | [], _, _, inKey => !inKey
  | c :: r, last, acc, true => if c.toNat = 32 then (ltB last acc.reverse && tabOk r acc.reverse [] false) else (c.toNat ≠ 10 && tabOk r last (c :: acc) true)
  | c :: r, last, acc, false => if c.toNat = 10 then tabOk r last [] true else ((isHexU c || c.toNat == 32) && tabOk r last acc false)
theorem tab_rest : ∀ (r last acc : List UInt8), tabOk r last acc false = true → ∃ q t, r = q ++ t ∧ (∀ c ∈ q, c ≠ 10 ∧ (isHexU c = true ∨ c = 32)) ∧ (t = [] ∨ ∃ r', t = 10 :: r' ∧ tabOk r' last [] true = true) := by
  intro r
  induction r with
  | nil => intro last acc _; exact ⟨[], [], rfl, by simp, .inl rfl⟩
  | cons c r ih =>
    intro last acc h
    rw [tabOk] at h
    by_cases h10 : c.toNat = 10
    · rw [if_pos h10] at h
      obtain rfl : c = 10 := UInt8.toNat_inj.1 h10
      exact ⟨[], 10 :: r, rfl, by simp, .inr ⟨r, rfl, h⟩⟩
    · rw [if_neg h10, Bool.and_eq_true, Bool.or_eq_true] at h
      obtain ⟨q, t, rfl, h1, h2⟩ := ih last acc h.2
      refine ⟨c :: q, t, rfl, ?_, h2⟩
      intro x hx
      rcases List.mem_cons.1 hx with rfl | hx
      · refine ⟨fun e => h10 (by rw [e]; rfl), ?_⟩
        rcases h.1 with h | h
        · exact .inl h
        · right; apply UInt8.toNat_inj.1; simpa using h
      · exact h1 x hx
theorem tab_key : ∀ (r last acc : List UInt8), tabOk r last acc true = true → ∃ k q t, r = k ++ 32 :: (q ++ t) ∧ (∀ c ∈ k, c ≠ 10 ∧ c ≠ 32) ∧ (∀ c ∈ q, c ≠ 10 ∧ (isHexU c = true ∨ c = 32)) ∧ ltB last (acc.reverse ++ k) = true ∧ (t = [] ∨ ∃ r', t = 10 :: r' ∧ tabOk r' (acc.reverse ++ k) [] true = true) := by
  intro r
  induction r with
  | nil => intro last acc h; cases h
  | cons c r ih =>
    intro last acc h
    rw [tabOk] at h
    by_cases h32 : c.toNat = 32
    · rw [if_pos h32, Bool.and_eq_true] at h
      obtain rfl : c = 32 := UInt8.toNat_inj.1 h32
      obtain ⟨q, t, rfl, h1, h2⟩ := tab_rest _ _ _ h.2
      refine ⟨[], q, t, rfl, by simp, h1, by simpa using h.1, ?_⟩
      rw [List.append_nil]; exact h2
    · rw [if_neg h32, Bool.and_eq_true] at h
      obtain ⟨k, q, t, rfl, h1, h2, h3, h4⟩ := ih _ _ h.2
      refine ⟨c :: k, q, t, rfl, ?_, h2, by simpa using h3, by simpa using h4⟩
      intro x hx
      rcases List.mem_cons.1 hx with rfl | hx
      · exact ⟨fun e => by have := h.1; rw [e] at this; exact absurd this (by decide), fun e => h32 (by rw [e]; rfl)⟩
      · exact h1 x hx
def St (T : List UInt8) (p : Nat) : Prop := p = 0 ∨ ∃ q, p = q + 1 ∧ T[q]? = some 10
def lnT (T : List UInt8) (p : Nat) : List UInt8 := (T.drop p).takeWhile (fun c => c != 10)
def kyL (l : List UInt8) : List UInt8 := l.takeWhile (fun c => c != 32)
def rsL (l : List UInt8) : List UInt8 := l.drop ((kyL l).length + 1)
def kyT (T : List UInt8) (p : Nat) : List UInt8 := kyL (lnT T p)
theorem tw_app {α : Type} (f : α → Bool) (a b : List α) (h : ∀ x ∈ a, f x = true) : (a ++ b).takeWhile f = a ++ b.takeWhile f := by
  induction a with
  | nil => rfl
  | cons x a ih => rw [List.cons_append, List.takeWhile_cons, h x (by simp), if_pos rfl, ih (fun y hy => h y (by simp [hy]))]; rfl
theorem ln_row {k q t : List UInt8} (hk : ∀ c ∈ k, c ≠ 10 ∧ c ≠ 32) (hq : ∀ c ∈ q, c ≠ 10 ∧ (isHexU c = true ∨ c = 32)) (ht : t = [] ∨ ∃ r', t = 10 :: r') : lnT (k ++ 32 :: (q ++ t)) 0 = k ++ 32 :: q := by
  unfold lnT
  rw [List.drop_zero, tw_app _ _ _ (fun x hx => by simpa using (hk x hx).1), List.takeWhile_cons, show ((32 : UInt8) != 10) = true from rfl, if_pos rfl, tw_app _ _ _ (fun x hx => by simpa using (hq x hx).1)]
  rcases ht with rfl | ⟨r', rfl⟩
  · simp
  · rw [List.takeWhile_cons, show ((10 : UInt8) != 10) = false from rfl]; simp
theorem ky_row {k q : List UInt8} (hk : ∀ c ∈ k, c ≠ 10 ∧ c ≠ 32) : kyL (k ++ 32 :: q) = k := by
  unfold kyL
  rw [tw_app _ _ _ (fun x hx => by simpa using (hk x hx).2), List.takeWhile_cons, show ((32 : UInt8) != 32) = false from rfl]; simp
structure Tab (T last : List UInt8) : Prop where
  above : ∀ p, St T p → ltB last (kyT T p) = true
  rise : ∀ p p', St T p → St T p' → p < p' → ltB (kyT T p) (kyT T p') = true
  inside : ∀ p, St T p → p < T.length
  row : ∀ p, St T p → ∃ q, lnT T p = kyT T p ++ 32 :: q ∧ (∀ c ∈ q, isHexU c = true ∨ c = 32) ∧ (∀ c ∈ kyT T p, c ≠ 10 ∧ c ≠ 32)
theorem tab_all : ∀ n (T last : List UInt8), T.length ≤ n → tabOk T last [] true = true → Tab T last := by
  intro n
  induction n with
  | zero => intro T last h h'; obtain rfl := List.eq_nil_of_length_eq_zero (Nat.le_zero.1 h); cases h'
  | succ n ih =>
    intro T last hn h
    obtain ⟨k, q, t, rfl, hk, hq, hl, ht⟩ := tab_key _ _ _ h
    rw [List.reverse_nil, List.nil_append] at hl ht
    have hln := ln_row (t := t) hk hq (by rcases ht with h | ⟨r', h, _⟩; exact .inl h; exact .inr ⟨r', h⟩)
    have hk0 : kyT (k ++ 32 :: (q ++ t)) 0 = k := by unfold kyT; rw [hln, ky_row hk]
    have hrow0 : ∃ q', lnT (k ++ 32 :: (q ++ t)) 0 = kyT (k ++ 32 :: (q ++ t)) 0 ++ 32 :: q' ∧ (∀ c ∈ q', isHexU c = true ∨ c = 32) ∧ (∀ c ∈ kyT (k ++ 32 :: (q ++ t)) 0, c ≠ 10 ∧ c ≠ 32) :=
      ⟨q, by rw [hk0, hln], fun c hc => (hq c hc).2, by rw [hk0]; exact hk⟩
    have hst : ∀ p, St (k ++ 32 :: (q ++ t)) p → p = 0 ∨ ∃ r' p', t = 10 :: r' ∧ tabOk r' k [] true = true ∧ p = (k.length + 1 + q.length + 1) + p' ∧ St r' p' ∧ kyT (k ++ 32 :: (q ++ t)) p = kyT r' p' ∧ lnT (k ++ 32 :: (q ++ t)) p = lnT r' p' := by
      intro p hp
      rcases hp with rfl | ⟨j, rfl, hj⟩
      · exact .inl rfl
      · right
        have e : k ++ 32 :: (q ++ t) = (k ++ 32 :: q) ++ t := by simp
        rw [e] at hj
        have hpre : ∀ c ∈ k ++ 32 :: q, c ≠ 10 := by
          intro c hc
          rcases List.mem_append.1 hc with hc | hc
          · exact (hk c hc).1
          · rcases List.mem_cons.1 hc with rfl | hc
            · decide
            · exact (hq c hc).1
        rcases Nat.lt_or_ge j (k ++ 32 :: q).length with hlt | hge
        · rw [List.getElem?_append_left hlt, List.getElem?_eq_getElem hlt] at hj
          exact absurd (Option.some.inj hj) (hpre _ (List.getElem_mem _))
        · rw [List.getElem?_append_right hge] at hj
          rcases ht with rfl | ⟨r', rfl, hr'⟩
          · cases hj
          · obtain ⟨d, hd⟩ := Nat.exists_eq_add_of_le hge
            rw [hd, Nat.add_sub_cancel_left] at hj
            have hlen : (k ++ 32 :: q).length = k.length + 1 + q.length := by simp; omega
            have hdrop : (k ++ 32 :: (q ++ 10 :: r')).drop (j + 1) = r'.drop d := by
              rw [e, hd, List.drop_append, List.drop_eq_nil_of_le (by omega), List.nil_append, show (k ++ 32 :: q).length + d + 1 - (k ++ 32 :: q).length = d + 1 by omega, List.drop_succ_cons]
            refine ⟨r', d, rfl, hr', by omega, ?_, ?_, ?_⟩
            · cases d with
              | zero => exact .inl rfl
              | succ d => right; exact ⟨d, rfl, by simpa using hj⟩
            · unfold kyT lnT; rw [hdrop]
            · unfold lnT; rw [hdrop]
    have hih : ∀ r', t = 10 :: r' → tabOk r' k [] true = true → Tab r' k := fun r' e h' => ih r' k (by subst e; simp at hn; omega) h'
    refine ⟨?_, ?_, ?_, ?_⟩
    · intro p hp
      rcases hst p hp with rfl | ⟨r', p', e, h', rfl, hs, hky, _⟩
      · rw [hk0]; exact hl
      · rw [hky]; exact ltB_trans hl ((hih r' e h').above p' hs)
    · intro p p' hp hp' hlt
      rcases hst p' hp' with rfl | ⟨r', b, e, h', rfl, hs, hky, _⟩
      · omega
      · rw [hky]
        rcases hst p hp with rfl | ⟨r2, a, e2, _, rfl, hs2, hky2, _⟩
        · rw [hk0]; exact (hih r' e h').above b hs
        · rw [hky2]
          rw [e] at e2
          obtain rfl := (List.cons.inj e2).2
          exact (hih _ e h').rise a b hs2 hs (by omega)
    · intro p hp
      rcases hst p hp with rfl | ⟨r', p', e, h', rfl, hs, _, _⟩
      · simp only [List.length_append, List.length_cons]; omega
      · have := (hih r' e h').inside p' hs
        subst e
        simp
        omega
    · intro p hp
      rcases hst p hp with rfl | ⟨r', p', e, h', rfl, hs, hky, hln'⟩
      · exact hrow0
      · rw [hky, hln']; exact (hih r' e h').row p' hs
end Go.Proofs.YtbdcghbafopjjaaGreatDoor.Pl
end

section
namespace Go.Proofs.YtbdcghbafopjjaaGreatDoor.Hand
open Go Go.RowKit Go.Proofs.YtbdcghbafopjjaaGreatDoor.Pl
def strOf : Operand → ByteArray
  | .const (.string s) => s
  | _ => ⟨#[]⟩
def argOf (i : Nat) : Op → ByteArray
  | .call c => match c.args[i]? with | some x => strOf x | none => ⟨#[]⟩
  | _ => ⟨#[]⟩
def operOf (k : Nat) : Code → ByteArray
  | .region _ ops _ => match ops[k]? with | some o => argOf 0 o.op | none => ⟨#[]⟩
  | _ => ⟨#[]⟩
def secondOf (k : Nat) : Option Code → ByteArray
  | some (.seq _ (.seq x _)) => operOf k x
  | _ => ⟨#[]⟩
noncomputable def namesB : ByteArray := secondOf 1 Tryz.f56.body
noncomputable def namesL : List UInt8 := namesB.data.toList
set_option maxRecDepth 1000000 in
theorem names_ok : tabOk namesL [] [] true = true := by kernel_rfl
theorem names_tab : Tab namesL [] := tab_all _ _ _ (Nat.le_refl _) names_ok
end Go.Proofs.YtbdcghbafopjjaaGreatDoor.Hand
end

section
namespace Go.Proofs.YtbdcghbafopjjaaGreatDoor.Pl
open Go
theorem tw_first {l : List UInt8} {o : Nat} (h : l[o]? = some 10) (hn : ∀ k, k < o → l[k]? ≠ some 10) : (l.takeWhile (fun c => c != 10)).length = o := by
  induction l generalizing o with
  | nil => cases h
  | cons c l ih =>
    cases o with
    | zero => obtain rfl : c = 10 := by simpa using h
              rfl
    | succ o =>
      have hc : c ≠ 10 := fun e => hn 0 (by omega) (by simp [e])
      rw [List.takeWhile_cons, show (c != 10) = true by simpa using hc, if_pos rfl, List.length_cons, ih (by simpa using h) (fun k hk => by have := hn (k + 1) (by omega); simpa using this)]
theorem tw_none {l : List UInt8} (hn : ∀ k : Nat, l[k]? ≠ some 10) : l.takeWhile (fun c => c != 10) = l := by
  induction l with
  | nil => rfl
  | cons c l ih =>
    have hc : c ≠ 10 := fun e => hn 0 (by simp [e])
    rw [List.takeWhile_cons, show (c != 10) = true by simpa using hc, if_pos rfl, ih (fun k => by have := hn (k + 1); simpa using this)]
theorem tw_mem {l : List UInt8} {x : UInt8} (h : x ∈ l.takeWhile (fun c => c != 10)) : x ≠ 10 := by
  induction l with
  | nil => cases h
  | cons c l ih =>
    rw [List.takeWhile_cons] at h
    split at h
    · rename_i hc
      rcases List.mem_cons.1 h with rfl | h
      · simpa using hc
      · exact ih h
    · cases h
theorem ln_le (T : List UInt8) (p : Nat) (hp : p ≤ T.length) : p + (lnT T p).length ≤ T.length := by
  unfold lnT
  have : ∀ l : List UInt8, (l.takeWhile (fun c => c != 10)).length ≤ l.length := by
    intro l
    induction l with
    | nil => simp
    | cons a l ih => rw [List.takeWhile_cons]; split <;> simp <;> omega
  have := this (T.drop p)
  rw [List.length_drop] at this
  omega
theorem st_within {T : List UInt8} {p q : Nat} (hq : St T q) (h1 : p < q) : p + (lnT T p).length < q := by
  rcases hq with rfl | ⟨j, rfl, hj⟩
  · omega
  · rcases Nat.lt_or_ge (p + (lnT T p).length) (j + 1) with h | h
    · exact h
    · exfalso
      have hlt : j - p < (lnT T p).length := by omega
      have : (lnT T p)[j - p]? = some 10 := by
        unfold lnT at hlt ⊢
        obtain ⟨m, hm⟩ := List.takeWhile_prefix (fun c : UInt8 => c != 10) (l := T.drop p)
        have h2 := List.getElem?_append_left hlt (l₂ := m)
        rw [hm, List.getElem?_drop, show p + (j - p) = j by omega, hj] at h2
        exact h2.symm
      have hmem := List.mem_of_getElem? this
      exact tw_mem hmem rfl
def Fnd (T key : List UInt8) (r : Option (List UInt8)) : Prop :=
  (∃ p, St T p ∧ kyT T p = key ∧ r = some (rsL (lnT T p))) ∨ ((∀ p, St T p → kyT T p ≠ key) ∧ r = none)
structure Half (T key : List UInt8) (low high : Nat) : Prop where
  lows : ∀ p, St T p → p < low → ltB (kyT T p) key = true
  highs : ∀ p, St T p → high ≤ p → ltB key (kyT T p) = true
  at_ : St T low ∨ T.length < low
  le : high ≤ T.length
theorem Half.start {T last : List UInt8} (h : Tab T last) (key : List UInt8) : Half T key 0 T.length :=
  ⟨fun p _ hp => by omega, fun p hp hl => by have := h.inside p hp; omega, .inl (.inl rfl), Nat.le_refl _⟩
theorem Half.none {T key : List UInt8} {low high : Nat} (h : Half T key low high) (hl : high ≤ low) : ∀ p, St T p → kyT T p ≠ key := by
  intro p hp
  rcases Nat.lt_or_ge p low with h1 | h1
  · exact ltB_ne (h.lows p hp h1)
  · exact fun e => ltB_ne (h.highs p hp (by omega)) e.symm
theorem Half.up {T last key : List UInt8} {low high p : Nat} (t : Tab T last) (h : Half T key low high) (hp : St T p) (hk : ltB (kyT T p) key = true) (hph : p < high) : Half T key (p + (lnT T p).length + 1) high := by
  refine ⟨fun q hq hl => ?_, h.highs, ?_, h.le⟩
  · rcases Nat.lt_trichotomy q p with h1 | h1 | h1
    · exact ltB_trans (t.rise q p hq hp h1) hk
    · rw [h1]; exact hk
    · have := st_within hq h1; omega
  · have hle := ln_le T p (by have := h.le; omega)
    rcases Nat.lt_or_ge (p + (lnT T p).length) T.length with hlt | hge
    · left; right
      refine ⟨_, rfl, ?_⟩
      rw [List.getElem?_eq_getElem hlt]
      have hsp : (T.drop p) = lnT T p ++ (T.drop p).dropWhile (fun c => c != 10) := (List.takeWhile_append_dropWhile).symm
      have hlen := congrArg List.length hsp
      rw [List.length_append, List.length_drop] at hlen
      cases hd : (T.drop p).dropWhile (fun c => c != 10) with
      | nil => rw [hd] at hlen; simp at hlen; omega
      | cons x m =>
        have hx : x = 10 := by
          have := List.head_dropWhile_not (fun c : UInt8 => c != 10) (l := T.drop p) (by rw [hd]; simp)
          simp only [hd, List.head_cons] at this
          simpa using this
        have : (T.drop p)[(lnT T p).length]? = some x := by
          rw [hsp, hd, List.getElem?_append_right (Nat.le_refl _), Nat.sub_self]; rfl
        rw [List.getElem?_drop, List.getElem?_eq_getElem hlt] at this
        rw [Option.some.inj this, hx]
    · right; omega
theorem Half.down {T last key : List UInt8} {low high p : Nat} (t : Tab T last) (h : Half T key low high) (hp : St T p) (hk : ltB key (kyT T p) = true) (hph : p < high) : Half T key low p := by
  refine ⟨h.lows, fun q hq hl => ?_, h.at_, by have := h.le; omega⟩
  rcases Nat.lt_or_ge p q with h1 | h1
  · exact ltB_trans hk (t.rise p q hp hq h1)
  · obtain rfl : p = q := by omega
    exact hk
end Go.Proofs.YtbdcghbafopjjaaGreatDoor.Pl
end

section
namespace Go.Proofs.YtbdcghbafopjjaaGreatDoor.Hand
open Go.RowKit
structure Blk (b : Nat) (v : Array Value) (W : World) : Prop where
  cell : ∀ j, j < v.size → W.cell? ⟨b, j, none⟩ = v[j]?
  open_ : ∀ j, W.frozen? ⟨b, j, none⟩ = false
theorem Blk.of_alloc (v : Array Value) (t : TypeId) (w : World) : Blk w.heap.size v (w.alloc (.cells v t)) :=
  ⟨fun j _ => World.cell?_alloc_at v t _ j rfl, fun j => World.frozen?_alloc_at v t _ j rfl⟩
theorem Blk.below {b : Nat} {v : Array Value} {W W' : World} (h : Blk b v W) {n : Nat} (hb : Below n W W') (hn : b < n) : Blk b v W' :=
  ⟨fun j hj => (hb.cell (p := ⟨b, j, none⟩) hn).trans (h.cell j hj), fun j => (hb.frozen (p := ⟨b, j, none⟩) hn).trans (h.open_ j)⟩
structure Live (w W : World) (L : List (Nat × Array Value)) : Prop where
  glob : Glob W
  below : Below w.heap.size w W
  blk : ∀ x ∈ L, x.1 < W.heap.size ∧ Blk x.1 x.2 W
theorem Live.start {w : World} (h : Glob w) : Live w w [] := ⟨h, Below.refl _ _, fun _ h => by cases h⟩
theorem Live.call {w W W' : World} {L : List (Nat × Array Value)} (h : Live w W L) (hb : Below W.heap.size W W') : Live w W' L :=
  ⟨h.glob.step hb, h.below.trans (hb.mono h.below.size), fun x hx => ⟨Nat.lt_of_lt_of_le (h.blk x hx).1 hb.size, (h.blk x hx).2.below hb (h.blk x hx).1⟩⟩
theorem Live.alloc {w W : World} {L : List (Nat × Array Value)} (h : Live w W L) (v : Array Value) (t : TypeId) : Live w (W.alloc (.cells v t)) ((W.heap.size, v) :: L) := by
  have hb : Below W.heap.size W (W.alloc (.cells v t)) := Below.alloc (Below.refl _ _) (Nat.le_refl _) _
  refine ⟨h.glob.step hb, h.below.trans (hb.mono h.below.size), fun x hx => ?_⟩
  rcases List.mem_cons.1 hx with rfl | hx
  · exact ⟨by simp, Blk.of_alloc _ _ _⟩
  · exact (h.call hb).blk x hx
theorem Live.cell {w W : World} {L : List (Nat × Array Value)} (h : Live w W L) {b : Nat} {v : Array Value} (hm : (b, v) ∈ L) {j : Nat} {x : Value} (hx : v[j]? = some x) : W.cell? ⟨b, j, none⟩ = some x := by
  have hj : j < v.size := by
    rcases Nat.lt_or_ge j v.size with h' | h'
    · exact h'
    · rw [Array.getElem?_eq_none h'] at hx; cases hx
  rw [(h.blk _ hm).2.cell j hj, hx]
theorem m0 {α : Type} {a : α} {l : List α} : a ∈ a :: l := List.mem_cons_self
theorem m1 {α : Type} {a b : α} {l : List α} : a ∈ b :: a :: l := List.mem_cons_of_mem _ m0
theorem m2 {α : Type} {a b c : α} {l : List α} : a ∈ b :: c :: a :: l := List.mem_cons_of_mem _ m1
theorem m3 {α : Type} {a b c d : α} {l : List α} : a ∈ b :: c :: d :: a :: l := List.mem_cons_of_mem _ m2
end Go.Proofs.YtbdcghbafopjjaaGreatDoor.Hand
end

section
namespace Go.Proofs.YtbdcghbafopjjaaGreatDoor.Pb
open Go Go.RowKit Go.Proofs.YtbdcghbafopjjaaGreatDoorW.PrintWords
def B (l : List UInt8) : ByteArray := ⟨l.toArray⟩
theorem B_data (l : List UInt8) : (B l).data.toList = l := by simp [B]
theorem B_of (s : ByteArray) : s = B s.data.toList := by cases s; simp [B]
theorem exists_B (s : ByteArray) : ∃ l, s = B l := ⟨_, B_of s⟩
theorem B_nil : (⟨#[]⟩ : ByteArray) = B [] := rfl
@[simp] theorem size_B (l : List UInt8) : (B l).size = l.length := by simp [B, ByteArray.size]
@[simp] theorem B_append (l m : List UInt8) : B l ++ B m = B (l ++ m) := by
  apply ByteArray.ext; rw [ByteArray.data_append]; simp [B]
theorem B_extract (l : List UInt8) (i j : Nat) : (B l).extract i j = B ((l.take j).drop i) := by
  apply ByteArray.ext; rw [ByteArray.data_extract]; simp [B, List.drop_take]
theorem toList_loop (bs : ByteArray) (n : Nat) : ∀ i r, bs.size - i = n → ByteArray.toList.loop bs i r = r.reverse ++ bs.data.toList.drop i := by
  induction n with
  | zero =>
    intro i r h
    unfold ByteArray.toList.loop
    rw [if_neg (by omega), List.drop_eq_nil_of_le (by simp; have : bs.data.size = bs.size := rfl; omega), List.append_nil]
  | succ n ih =>
    intro i r h
    unfold ByteArray.toList.loop
    have hi : i < bs.size := by omega
    rw [if_pos hi, ih (i + 1) _ (by omega)]
    have hd : bs.data.toList.drop i = bs.get! i :: bs.data.toList.drop (i + 1) := by
      rw [List.drop_eq_getElem_cons (by simpa using hi)]
      congr 1
      cases bs with
      | mk d =>
        show d.toList[i] = d[i]!
        have hd : i < d.size := hi
        rw [getElem!_pos d i hd]; simp
    rw [hd]; simp
theorem toList_data (bs : ByteArray) : bs.toList = bs.data.toList := by
  unfold ByteArray.toList; rw [toList_loop bs bs.size 0 [] (by omega)]; simp
@[simp] theorem toList_B (l : List UInt8) : (B l).toList = l := by rw [toList_data, B_data]
theorem bt_B (l : List UInt8) (i : Nat) (h : i < l.length) : bt (B l) (i : Int) = ((l[i]'h).toNat : Int) := by
  unfold bt
  have this : (i : Int).toNat < (B l).size := by simpa using h
  rw [dif_pos this]
  have e : (B l)[(i : Int).toNat]'this = l[i]'h := by
    show (l.toArray)[(i : Int).toNat]'(by simpa using h) = l[i]'h
    simp only [Int.toNat_natCast, List.getElem_toArray]
  exact congrArg (fun c : UInt8 => (c.toNat : Int)) e
@[simp] theorem bt_mid (p r : List UInt8) (c : UInt8) : bt (B (p ++ c :: r)) (p.length : Int) = (c.toNat : Int) := by
  rw [bt_B _ _ (by simp)]; simp
theorem wrap_nat (n : Nat) (h : n < 9223372036854775807) : wrap64 ((n : Int) + 1) = ((n + 1 : Nat) : Int) := by unfold wrap64; omega
theorem wrap_add (n k : Nat) (h : n + k < 9223372036854775808) : wrap64 ((n : Int) + (k : Int)) = ((n + k : Nat) : Int) := by unfold wrap64; omega
theorem u8_eq (c : UInt8) (n : Nat) (h : n < 256) : (((c.toNat : Int)) = ((n : Nat) : Int)) = (c = UInt8.ofNat n) := by
  apply propext
  constructor
  · intro e; apply UInt8.toNat_inj.1; simp [UInt8.toNat_ofNat']; omega
  · intro e; subst e; simp [UInt8.toNat_ofNat']; omega
end Go.Proofs.YtbdcghbafopjjaaGreatDoor.Pb
end

section
namespace Go.Proofs.YtbdcghbafopjjaaGreatDoor.Hand
open Go Go.RowKit Go.Proofs.YtbdcghbafopjjaaGreatDoor.Pl Go.Proofs.YtbdcghbafopjjaaGreatDoor.Pb
theorem byte10 {t : ByteArray} {j : Nat} (hj : j < t.size) : ((t.data[j]!).toNat : Int) = 10 ↔ t.data.toList[j]? = some 10 := by
  have h1 : t.data[j]! = t.data[j]'hj := getElem!_pos t.data j hj
  have h2 : t.data.toList[j]? = some (t.data[j]'hj) := by rw [Array.getElem?_toList, Array.getElem?_eq_getElem hj]
  rw [h1, h2]
  constructor
  · intro h
    have : t.data[j]'hj = 10 := UInt8.toNat_inj.1 (by
      have : (t.data[j]'hj).toNat = 10 := by omega
      rw [this]; rfl)
    rw [this]
  · intro h
    rw [Option.some.inj h]; rfl
theorem last_10 (t : ByteArray) (i : Nat) (hi : i ≤ t.size) :
    ∃ p : Nat, Lib.lastIndexByte (t.extract 0 i) 10 + 1 = p ∧ -1 ≤ Lib.lastIndexByte (t.extract 0 i) 10 ∧ p ≤ i ∧ St t.data.toList p ∧ ∀ j, p ≤ j → j < i → t.data.toList[j]? ≠ some 10 := by
  have hz : (t.extract 0 i).size = i := by rw [ByteArray.size_extract]; omega
  have same : ∀ j, j < i → (t.extract 0 i).data.toList[j]? = t.data.toList[j]? := fun j h1 => by
    rw [ByteArray.data_extract, Array.toList_extract]
    simp [List.extract]
    rw [List.getElem?_take_of_lt h1, Array.getElem?_toList]
  rcases Lib.lastIndexByte_spec (t.extract 0 i) 10 with ⟨h1, hno⟩ | ⟨j, h1, h2, h3, hno⟩
  · exact ⟨0, by rw [h1]; rfl, by rw [h1]; decide, Nat.zero_le _, .inl rfl, fun j _ hj e => hno j (by rw [hz]; exact hj) ((byte10 (t := t.extract 0 i) (by rw [hz]; exact hj)).2 (by rw [same j hj]; exact e))⟩
  · rw [hz] at h1
    refine ⟨j + 1, by rw [h2]; rfl, by rw [h2]; omega, by omega, .inr ⟨j, rfl, ?_⟩, fun k hk1 hk e => hno k (by omega) (by rw [hz]; exact hk) ((byte10 (t := t.extract 0 i) (by rw [hz]; exact hk)).2 (by rw [same k hk]; exact e))⟩
    have h4 := (byte10 (t := t.extract 0 i) (by rw [hz]; exact h1)).1 h3
    rw [same j h1] at h4
    exact h4
theorem next_10 (t : ByteArray) (p : Nat) (hp : p ≤ t.size) :
    (Lib.indexByte (t.extract p t.size).data.toList 10 = -1 ∧ p + (lnT t.data.toList p).length = t.size) ∨
    ∃ o : Nat, Lib.indexByte (t.extract p t.size).data.toList 10 = o ∧ (lnT t.data.toList p).length = o ∧ p + o ≤ t.size := by
  obtain ⟨l, rfl⟩ := exists_B t
  rw [size_B, B_extract, B_data, B_data, List.take_length]
  rw [size_B] at hp
  rcases Int.lt_or_le (Lib.indexByte (l.drop p) 10) 0 with h | h
  · left
    have h1 : Lib.indexByte (l.drop p) 10 = -1 := by have := Lib.indexByte_ge (l.drop p) 10; omega
    refine ⟨h1, ?_⟩
    unfold lnT
    rw [tw_none (fun k => Lib.indexByte_none h1 k), List.length_drop]; omega
  · right
    obtain ⟨o, ho⟩ : ∃ o : Nat, Lib.indexByte (l.drop p) 10 = o := ⟨_, (Int.toNat_of_nonneg h).symm⟩
    obtain ⟨h1, h2⟩ := Lib.indexByte_some ho
    have : (lnT l p).length = o := tw_first h1 h2
    exact ⟨o, ho, this, by have := ln_le l p hp; omega⟩
set_option maxRecDepth 100000 in
set_option maxHeartbeats 2000000 in
theorem line_c (t : ByteArray) (i : Nat) (hz : t.size ≤ 1000000) (hi : i ≤ t.size) :
    ∃ p, St t.data.toList p ∧ (∀ j, p ≤ j → j < i → t.data.toList[j]? ≠ some 10) ∧ p ≤ i ∧ p + (lnT t.data.toList p).length ≤ t.size ∧ ∀ w, Calls Tryz.prog 129 #[.string t, .int .i64 (i : Int)] w fun e w' => e = .returned (.tuple #[.int .i64 (p : Int), .int .i64 ((p + (lnT t.data.toList p).length : Nat) : Int)]) ∧ w' = w := by
  obtain ⟨p, h1, h1', h2, h3, hno⟩ := last_10 t i hi
  have hle := ln_le t.data.toList p (by rw [Array.length_toList]; show p ≤ t.size; omega)
  rw [show t.data.toList.length = t.size from Array.length_toList] at hle
  refine ⟨p, h3, hno, h2, hle, fun w => ?_⟩
  have L := Lib.hid (fun W => Tryz.strings_LastIndexByte (t.extract 0 i) 10 (by rw [ByteArray.size_extract]; omega) W)
  have hn := next_10 t p (by omega)
  obtain ⟨x, hx⟩ : ∃ x, Lib.lastIndexByte (t.extract 0 i) 10 = x := ⟨_, rfl⟩
  rw [hx] at h1 h1' L
  obtain rfl : x = (p : Int) - 1 := by omega
  have I := fun W => Tryz.strings_IndexByte (t.extract p t.size) 10 W
  have hpz : p ≤ t.size := by omega
  obtain ⟨m, hm⟩ : ∃ m, (lnT t.data.toList p).length = m := ⟨_, rfl⟩
  rw [hm] at hn hle ⊢
  clear hx h3 hm h1 hno
  rcases hn with ⟨g1, g2⟩ | ⟨o, g1, g2, g3⟩
  · have I2 : Hid (∀ W, Calls Tryz.prog 30 #[.string (t.extract p t.size), .int .u8 10] W fun e w' => e = .returned (.int .i64 (-1)) ∧ w' = W) := Lib.hid (fun W => by rw [← g1]; exact I W)
    have G2 := Lib.hid g2
    clear I g1 g2 hle
    go_enter Tryz.func129, Tryz.ntmps129
    go_wp2_with fail
    refine (L.out _).mono ?_
    rintro e w1 ⟨rfl, rfl⟩
    have hw : wrap64 ((p : Int) - 1 + 1) = (p : Int) := by unfold wrap64; omega
    go_wp2_with fail
    refine (I2.out _).mono ?_
    rintro e w2 ⟨rfl, rfl⟩
    go_wp2_with fail
    go_ret2
    exact ⟨by rw [G2.out]; rfl, rfl⟩
  · have I2 : Hid (∀ W, Calls Tryz.prog 30 #[.string (t.extract p t.size), .int .u8 10] W fun e w' => e = .returned (.int .i64 (o : Int)) ∧ w' = W) := Lib.hid (fun W => by rw [← g1]; exact I W)
    subst g2
    clear I g1 hle
    go_enter Tryz.func129, Tryz.ntmps129
    go_wp2_with fail
    refine (L.out _).mono ?_
    rintro e w1 ⟨rfl, rfl⟩
    have hw : wrap64 ((p : Int) - 1 + 1) = (p : Int) := by unfold wrap64; omega
    go_wp2_with fail
    refine (I2.out _).mono ?_
    rintro e w2 ⟨rfl, rfl⟩
    go_wp2_with fail
    go_ret2
    exact ⟨rfl, rfl⟩
end Go.Proofs.YtbdcghbafopjjaaGreatDoor.Hand
end

section
namespace Go.Proofs.YtbdcghbafopjjaaGreatDoor.Hand
open Go.RowKit Go.Proofs.YtbdcghbafopjjaaGreatDoor.Pl Go.Proofs.YtbdcghbafopjjaaGreatDoor.Pb
def isNe (c x : UInt8) : Bool := x != c
def upto (c : UInt8) (s : List UInt8) : List UInt8 := s.takeWhile (isNe c)
def past (c : UInt8) (s : List UInt8) : List UInt8 := s.drop ((upto c s).length + 1)
theorem upto_cons (c x : UInt8) (r : List UInt8) : upto c (x :: r) = if x = c then [] else x :: upto c r := by
  unfold upto isNe
  rw [List.takeWhile_cons]
  by_cases h : x = c <;> simp [h]
theorem index_byte (c : UInt8) : ∀ s : List UInt8, Lib.index s [c] = if c ∈ s then ((upto c s).length : Int) else -1 := by
  intro s
  induction s with
  | nil => rfl
  | cons x r ih =>
    rw [index_cons, ih, upto_cons]
    by_cases h : x = c
    · simp [h]
    · rw [if_neg h, if_neg h]
      by_cases hm : c ∈ r
      · rw [if_pos hm, if_pos (List.mem_cons_of_mem _ hm), if_neg (by omega)]; simp
      · rw [if_neg hm, if_pos rfl, if_neg (by simp [hm, Ne.symm h])]
theorem upto_length (c : UInt8) : ∀ s : List UInt8, (upto c s).length ≤ s.length := by
  intro s
  induction s with
  | nil => simp [upto]
  | cons x r ih => rw [upto_cons]; split <;> simp; exact ih
theorem upto_take (c : UInt8) : ∀ s : List UInt8, s.take (upto c s).length = upto c s := by
  intro s
  induction s with
  | nil => rfl
  | cons x r ih => rw [upto_cons]; split <;> simp; exact ih
theorem upto_all (c : UInt8) : ∀ s : List UInt8, c ∉ s → upto c s = s := by
  intro s
  induction s with
  | nil => intro _; rfl
  | cons x r ih =>
    intro h
    simp only [List.mem_cons, not_or] at h
    rw [upto_cons, if_neg (Ne.symm h.1), ih h.2]
theorem past_all (c : UInt8) (s : List UInt8) (h : c ∉ s) : past c s = [] := by
  unfold past; rw [upto_all c s h]; simp
theorem cut_byte (c : UInt8) (s : List UInt8) : Lib.cut s [c] = (upto c s, past c s, decide (c ∈ s)) := by
  unfold Lib.cut
  rw [index_byte]
  by_cases h : c ∈ s
  · simp [h, upto_take, past]
  · simp [h, upto_all c s h, past_all c s h]
theorem below_drewN {B : Nat} (w : World) (n : Nat) : Below B w (w.drewN n) := ⟨rfl, rfl, rfl, Nat.le_refl _, fun _ _ => rfl⟩
theorem scut_c (c : UInt8) (s : List UInt8) (w : World) (hs : s.length ≤ 1000000000) (hG : Glob w) :
    Calls Tryz.prog 93 #[.string (B s), .string (B [c])] w fun e w' => e = .returned (.tuple #[.string (B (upto c s)), .string (B (past c s)), .bool (decide (c ∈ s))]) ∧ Below w.heap.size w w' := by
  obtain ⟨m, hm⟩ := hG.out
  refine (Tryz.strings_Cut (B s) (B [c]) m w (by simp; omega) hm).mono ?_
  rintro e w' ⟨h1, n, rfl⟩
  rw [B_data, B_data, cut_byte] at h1
  exact ⟨h1, below_drewN _ _⟩
end Go.Proofs.YtbdcghbafopjjaaGreatDoor.Hand
end

section
namespace Go.Proofs.YtbdcghbafopjjaaGreatDoor.Hand
open Go Go.RowKit Go.Proofs.YtbdcghbafopjjaaGreatDoor.Pl Go.Proofs.YtbdcghbafopjjaaGreatDoor.Pb
theorem less_ltB : ∀ a b : List UInt8, Op.bytesLess a b = ltB a b := by
  intro a
  induction a with
  | nil => intro b; cases b <;> rfl
  | cons x l ih =>
    intro b
    cases b with
    | nil => rfl
    | cons y m =>
      rw [Op.bytesLess, ltB, ih]
      by_cases h1 : x.toNat < y.toNat
      · rw [if_pos h1, decide_eq_true (show x < y from h1)]; rfl
      · rw [if_neg h1, decide_eq_false (show ¬ x < y from h1), Bool.false_or]
        by_cases h2 : y.toNat < x.toNat
        · rw [if_pos h2, show (x == y) = false by rw [beq_eq_false_iff_ne]; rintro rfl; omega]; rfl
        · rw [if_neg h2, show (x == y) = true by rw [beq_iff_eq]; exact UInt8.toNat_inj.1 (by omega)]; rfl
def fndV (key : ByteArray) : Option (List UInt8) → Value
  | none => .tuple #[.string ⟨#[]⟩, .bool false]
  | some r => .tuple #[.string (B r), .bool (!key.toList.isEmpty)]
def LineJ (t key : ByteArray) (w : World) (a' : Act) (wr : World) : Prop :=
  ∃ (low high : Nat) (u2 u3 u4 u5 u8 u9 u10 u11 u12 u13 u14 u15 u16 u17 u18 u19 u20 u21 u22 u23 u24 u25 u26 u27 u28 u29 u30 u31 u32 u33 u34 u35 u36 u37 u38 u39 u40 u41 u42 u43 u44 u45 u46 u47 : Value),
    a' = { tmps := #[.string t, .string key, u2, u3, u4, u5, .int .i64 (low : Int), .int .i64 (high : Int), u8, u9, u10, u11, u12, u13, u14, u15, u16, u17, u18, u19, u20, u21, u22, u23, u24, u25, u26, u27, u28, u29, u30, u31, u32, u33, u34, u35, u36, u37, u38, u39, u40, u41, u42, u43, u44, u45, u46, u47], defers := [] } ∧ Below w.heap.size w wr ∧ low ≤ t.size + 1 ∧ high ≤ t.size ∧ Half t.data.toList key.data.toList low high
theorem extract_ln (t : ByteArray) (p : Nat) (h : p + (lnT t.data.toList p).length ≤ t.size) : t.extract p (p + (lnT t.data.toList p).length) = B (lnT t.data.toList p) := by
  obtain ⟨l, rfl⟩ := exists_B t
  rw [B_data, B_extract]
  congr 1
  unfold lnT
  rw [List.drop_take, Nat.add_sub_cancel_left]
  exact (List.prefix_iff_eq_take.1 (List.takeWhile_prefix _)).symm
set_option maxRecDepth 100000 in
set_option maxHeartbeats 4000000 in
theorem sline_c (t key : ByteArray) (last : List UInt8) (hT : Tab t.data.toList last) (hz : t.size ≤ 1000000) (w : World) (hGl : Glob w) :
    Calls Tryz.prog 92 #[.string t, .string key] w fun e w' => (∃ r, Fnd t.data.toList key.data.toList r ∧ e = .returned (fndV key r)) ∧ Below w.heap.size w w' := by
  have HT := Lib.hid hT
  have HG := Lib.hid hGl
  have HL := Lib.hid (fun i (hi : i ≤ t.size) => line_c t i hz hi)
  clear hT hGl
  go_enter Tryz.func92, Tryz.ntmps92
  go_wp2
  refine wp_scope_at 0 (LineJ t key w) (fun a' _ => (intOf (a'.tmps.getD 7 undef)).toNat + (t.size + 1 - (intOf (a'.tmps.getD 6 undef)).toNat)) rfl ?_ ?_
  · intro hB
    have HB := Lib.hid hB
    clear hB
    go_wp2
    refine wp_label_k (by assumption) (HB.out _ _ ?_)
    exact ⟨0, t.size, _, _, _, _, _, _, _, _, _, _, _, _, _, _, _, _, _, _, _, _, _, _, _, _, _, _, _, _, _, _, _, _, _, _, _, _, _, _, _, _, _, _, _, _, rfl, Below.refl _ _, by omega, Nat.le_refl _, Half.start HT.out key.data.toList⟩
  · rintro a' wr ⟨low, high, u2, u3, u4, u5, u8, u9, u10, u11, u12, u13, u14, u15, u16, u17, u18, u19, u20, u21, u22, u23, u24, u25, u26, u27, u28, u29, u30, u31, u32, u33, u34, u35, u36, u37, u38, u39, u40, u41, u42, u43, u44, u45, u46, u47, rfl, hb, hlo, hhi, hH⟩
    have HH := Lib.hid hH
    have HW := Lib.hid hb
    clear hH hb
    by_cases hlt : low < high
    · obtain ⟨q, hq⟩ : ∃ q, (low + high) / 2 = q := ⟨_, rfl⟩
      have hq1 : low ≤ q := by omega
      have hq2 : q < high := by omega
      have hqd : ((low : Int) + (high : Int)).tdiv 2 = (q : Int) := by rw [Int.tdiv_eq_ediv_of_nonneg (by omega)]; omega
      obtain ⟨p, hp, hno, hpq, hpl, F⟩ := HL.out q (by omega)
      have hlp : low ≤ p := by
        rcases HH.out.at_ with h | h
        · rcases h with rfl | ⟨j, rfl, hj⟩
          · omega
          · rcases Nat.lt_or_ge j p with h' | h'
            · omega
            · exact absurd hj (hno j h' (by omega))
        · have e : t.data.toList.length = t.size := Array.length_toList
          omega
      clear hno
      have HF := Lib.hid F
      have hx := extract_ln t p hpl
      have hC := fun (W : World) (hG : Glob W) => scut_c 32 (lnT t.data.toList p) W (by omega) hG
      rw [← hx] at hC
      obtain ⟨m, hm⟩ : ∃ m, (lnT t.data.toList p).length = m := ⟨_, rfl⟩
      rw [hm] at hC HF hpl
      obtain ⟨K, hK⟩ : ∃ K, B (upto 32 (lnT t.data.toList p)) = K := ⟨_, rfl⟩
      obtain ⟨R, hR⟩ : ∃ R, B (past 32 (lnT t.data.toList p)) = R := ⟨_, rfl⟩
      obtain ⟨bf, hbf⟩ : ∃ b, decide ((32 : UInt8) ∈ lnT t.data.toList p) = b := ⟨_, rfl⟩
      rw [hK, hR, hbf] at hC
      have HC := Lib.hid hC
      have hKl : K.toList = kyT t.data.toList p := by rw [← hK, toList_B]; rfl
      have hkl : key.toList = key.data.toList := by
        obtain ⟨l, rfl⟩ := exists_B key
        rw [toList_B, B_data]
      have HP := Lib.hid hp
      have HM := Lib.hid hm
      have hRr : B (rsL (lnT t.data.toList p)) = R := by rw [← hR]; rfl
      have HRR := Lib.hid hRr
      have c0 : decide ((high : Int) ≤ (low : Int)) = false := decide_eq_false (by omega)
      clear F hx hC hK hR hbf hp hm hRr hq
      cases hlk : ltB (kyT t.data.toList p) key.data.toList with
      | true =>
        have c1 : Op.bytesLess K.toList key.toList = true := by rw [less_ltB, hKl, hkl]; exact hlk
        have HN := Lib.hid (HH.out.up HT.out HP.out hlk (by omega))
        clear hKl hkl hlk
        go_wp2_with fail
        refine (HF.out _).mono ?_
        rintro e w1 ⟨rfl, rfl⟩
        go_wp2_with fail
        refine (HC.out _ (HG.out.step HW.out)).mono ?_
        rintro e w2 ⟨rfl, hb⟩
        have HW2 := Lib.hid (HW.out.trans (hb.mono HW.out.size))
        clear hb
        go_wp2_with fail
        go_step3
        refine ⟨rfl, ⟨p + m + 1, high, _, _, _, _, _, _, _, _, _, _, _, _, _, _, _, _, _, _, _, _, _, _, _, _, _, _, _, _, _, _, _, _, _, _, _, _, _, _, _, _, _, _, _, _, rfl, HW2.out, by omega, hhi, by rw [← HM.out]; exact HN.out⟩, ?_⟩
        simp [intOf]; omega
      | false =>
        have c1 : Op.bytesLess K.toList key.toList = false := by rw [less_ltB, hKl, hkl]; exact hlk
        cases hgk : ltB key.data.toList (kyT t.data.toList p) with
        | true =>
          have c2 : (K.toList == key.toList) = false := by rw [hKl, hkl, beq_eq_false_iff_ne]; exact fun e => ltB_ne hgk e.symm
          have HN := Lib.hid (HH.out.down HT.out HP.out hgk (by omega))
          clear hKl hkl hlk hgk
          go_wp2_with fail
          refine (HF.out _).mono ?_
          rintro e w1 ⟨rfl, rfl⟩
          go_wp2_with fail
          refine (HC.out _ (HG.out.step HW.out)).mono ?_
          rintro e w2 ⟨rfl, hb⟩
          have HW2 := Lib.hid (HW.out.trans (hb.mono HW.out.size))
          clear hb
          go_wp2_with fail
          go_step3
          refine ⟨rfl, ⟨low, p, _, _, _, _, _, _, _, _, _, _, _, _, _, _, _, _, _, _, _, _, _, _, _, _, _, _, _, _, _, _, _, _, _, _, _, _, _, _, _, _, _, _, _, _, rfl, HW2.out, hlo, by omega, HN.out⟩, ?_⟩
          simp [intOf]; omega
        | false =>
          have he := ltB_total _ _ hlk hgk
          have c2 : (K.toList == key.toList) = true := by rw [hKl, hkl, beq_iff_eq]; exact he
          have HE := Lib.hid he
          clear hKl hkl hlk hgk he
          go_wp2_with fail
          refine (HF.out _).mono ?_
          rintro e w1 ⟨rfl, rfl⟩
          go_wp2_with fail
          refine (HC.out _ (HG.out.step HW.out)).mono ?_
          rintro e w2 ⟨rfl, hb⟩
          have HW2 := Lib.hid (HW.out.trans (hb.mono HW.out.size))
          clear hb
          go_wp2_with fail
          simp only [Exit.jump]
          go_ret2
          exact ⟨⟨_, .inl ⟨p, HP.out, HE.out, rfl⟩, by show _ = Ending.returned (.tuple #[.string (B (rsL (lnT t.data.toList p))), .bool (!key.toList.isEmpty)]); rw [HRR.out]; rfl⟩, HW2.out⟩
    · have c0 : decide ((high : Int) ≤ (low : Int)) = true := decide_eq_true (by omega)
      go_wp2_with fail
      simp only [Exit.jump]
      go_ret2
      exact ⟨⟨none, .inr ⟨HH.out.none (by omega), rfl⟩, rfl⟩, HW.out⟩
end Go.Proofs.YtbdcghbafopjjaaGreatDoor.Hand
end

section
namespace Go.Proofs.YtbdcghbafopjjaaGreatDoor.Hand
open Go Go.RowKit Go.Proofs.YtbdcghbafopjjaaGreatDoor.Pl Go.Proofs.YtbdcghbafopjjaaGreatDoor.Pb
def isKey (T k : List UInt8) : Prop := ∃ p, St T p ∧ kyT T p = k
structure Lng (T r : List UInt8) (n : Nat) : Prop where
  le : n ≤ min 32 r.length
  key : n = 0 ∨ isKey T (r.take n)
  more : ∀ m, n < m → m ≤ min 32 r.length → ¬ isKey T (r.take m)
theorem Lng.uniq {T r : List UInt8} {n m : Nat} (h : Lng T r n) (h' : Lng T r m) : n = m := by
  rcases Nat.lt_trichotomy n m with hl | he | hg
  · rcases h'.key with h0 | hk
    · omega
    · exact absurd hk (h.more m hl h'.le)
  · exact he
  · rcases h.key with h0 | hk
    · omega
    · exact absurd hk (h'.more n hg h.le)
set_option maxRecDepth 100000 in
set_option maxHeartbeats 4000000 in
theorem slongest_c (t : ByteArray) (s last : List UInt8) (n : Nat) (hT : Tab t.data.toList last) (hz : t.size ≤ 1000000) (hs : s.length ≤ 1000000) (hn : n ≤ s.length) (w : World) (hGl : Glob w) :
    Calls Tryz.prog 91 #[.string t, .string (B s), .int .i64 (n : Int), .int .i64 32] w fun e w' => (∃ k : Nat, Lng t.data.toList (s.drop n) k ∧ e = .returned (.int .i64 (k : Int))) ∧ Below w.heap.size w w' := by
  obtain ⟨M, hM⟩ : ∃ M, min 32 (s.drop n).length = M := ⟨_, rfl⟩
  have HG := Lib.hid hGl
  have HL := Lib.hid (fun (key : ByteArray) W hG => sline_c t key last hT hz W hG)
  obtain ⟨a, ha⟩ : ∃ a, B s = a := ⟨_, rfl⟩
  have hsz : a.size = s.length := by rw [← ha]; simp
  have hMle : M ≤ 32 ∧ n + M ≤ a.size := by rw [← hM, List.length_drop]; omega
  have hmin : min (32 : Int) ((a.size : Int) - (n : Int)) = (M : Int) := by
    rw [← hM, List.length_drop]
    omega
  have HMIN := Lib.hid hmin
  have hx : ∀ k, k ≤ M → (a.extract n (n + k)).data.toList = (s.drop n).take k := fun k hk => by
    rw [← ha, B_extract, B_data, List.drop_take, Nat.add_sub_cancel_left]
  have HX := Lib.hid hx
  have HMM := Lib.hid hM
  have HSZ := Lib.hid hsz
  obtain ⟨hM1, hM2⟩ := hMle
  have hna : n ≤ a.size := by omega
  have hz2 : a.size ≤ 1000000 := by omega
  have q0 : decide ((n : Int) < 0) = false := decide_eq_false (by omega)
  have q1 : decide ((a.size : Int) < (n : Int)) = false := decide_eq_false (by omega)
  rw [ha]
  clear ha hsz hM hx hT hz hs hn hGl hmin
  go_enter Tryz.func91, Tryz.ntmps91
  go_wp2_with fail
  go_loopw [9] (fun v wx => ∃ k : Nat, v = .int .i64 (k : Int) ∧ k ≤ M ∧ Below w.heap.size w wx ∧ Hid (∀ m, k < m → m ≤ M → ¬ isKey t.data.toList ((s.drop n).take m))) (fun v _ => (intOf v).toNat)
  case atStart => exact ⟨M, by rw [HMIN.out], Nat.le_refl _, Below.refl _ _, Lib.hid (fun m h1 h2 => by omega)⟩
  case round =>
    obtain ⟨k, rfl, hk, hB, hno⟩ := hrel
    have HW := Lib.hid hB
    clear hB
    by_cases h0 : 0 < k
    · have q2 : decide ((0 : Int) < (k : Int)) = true := decide_eq_true (by omega)
      have hkx := HX.out k hk
      have hke : (a.extract n (n + k)).toList.isEmpty = false := by
        obtain ⟨l, hl⟩ := exists_B (a.extract n (n + k))
        rw [hl, B_data] at hkx
        rw [hl, toList_B, hkx]
        have : ((s.drop n).take k).length = k := by
          rw [List.length_take]
          have := HMM.out
          omega
        cases hq : (s.drop n).take k with
        | nil => rw [hq] at this; simp at this; omega
        | cons => rfl
      have HKX := Lib.hid hkx
      have HKE := Lib.hid hke
      clear hkx hke
      go_wp2_with fail
      refine (HL.out _ _ (HG.out.step HW.out)).mono ?_
      rintro e w1 ⟨⟨r, hf, rfl⟩, hb⟩
      have HW2 := Lib.hid (HW.out.trans (hb.mono HW.out.size))
      have HF := Lib.hid hf
      clear hb hf
      cases r with
      | none =>
        dsimp only [fndV]
        have HN : Hid (∀ m, k - 1 < m → m ≤ M → ¬ isKey t.data.toList ((s.drop n).take m)) := Lib.hid (fun m h1 h2 => by
          rcases Nat.lt_or_ge k m with h | h
          · exact hno.out m h h2
          · obtain rfl : m = k := by omega
            rintro ⟨p, hp1, hp2⟩
            rcases HF.out with ⟨_, _, _, e⟩ | ⟨e, _⟩
            · cases e
            · exact e p hp1 (by rw [HKX.out]; exact hp2))
        go_wp2_with fail
        go_roundw
        case rel => exact ⟨k - 1, by go_num, by omega, HW2.out, HN⟩
        case measure => simp [intOf]; omega
      | some rest =>
        dsimp only [fndV]
        have hke := HKE.out
        rw [hke]
        clear hke
        go_wp2_with fail
        go_ret
        refine ⟨⟨k, ⟨by rw [HMM.out]; exact hk, .inr ?_, fun m h1 h2 => hno.out m h1 (by rw [← HMM.out]; exact h2)⟩, rfl⟩, HW2.out⟩
        rcases HF.out with ⟨p, h1, h2, _⟩ | ⟨_, e⟩
        · exact ⟨p, h1, by rw [h2, HKX.out]⟩
        · cases e
    · obtain rfl : k = 0 := by omega
      go_wp2_with fail
      go_ret
      exact ⟨⟨0, ⟨Nat.zero_le _, .inl rfl, fun m h1 h2 => hno.out m h1 (by rw [← HMM.out]; exact h2)⟩, rfl⟩, HW.out⟩
set_option maxRecDepth 1000000 in
theorem nlongest_c (s : List UInt8) (n : Nat) (hs : s.length ≤ 1000000) (hn : n ≤ s.length) (hz : namesB.size ≤ 1000000) (w : World) (hGl : Glob w) :
    Calls Tryz.prog 55 #[.string (B s), .int .i64 (n : Int)] w fun e w' => (∃ k : Nat, Lng namesL (s.drop n) k ∧ e = .returned (.int .i64 (k : Int))) ∧ Below w.heap.size w w' := by
  have HL := Lib.hid (fun W (hG : Glob W) => slongest_c namesB s [] n names_tab hz hs hn W hG)
  have HG := Lib.hid hGl
  obtain ⟨a, ha⟩ : ∃ a, B s = a := ⟨_, rfl⟩
  rw [ha] at HL ⊢
  clear ha hs hn hGl hz
  refine calls_of_wp Tryz.func55 rfl ?_
  generalize hN : ByteArray.mk _ = N
  have hN2 : N = namesB := hN.symm.trans rfl
  clear hN
  subst hN2
  simp only [Tryz.ntmps55, List.size_toArray, List.length_cons, List.length_nil, Nat.reduceAdd, Nat.reduceSub, Array.replicate_succ, Array.replicate_zero, List.push_toArray, List.append_toArray, List.nil_append, List.cons_append]
  go_wp2_with fail
  refine (HL.out _ HG.out).mono ?_
  rintro e w' ⟨⟨k, hk, rfl⟩, hb⟩
  have HK := Lib.hid hk
  clear hk
  go_wp2_with fail
  go_ret
  exact ⟨⟨k, HK.out, rfl⟩, hb⟩
end Go.Proofs.YtbdcghbafopjjaaGreatDoor.Hand
end

section
namespace Go.Proofs.YtbdcghbafopjjaaGreatDoor.Pl
open Go
def fW (n : Nat) : Nat := if n = 0 then 0 else (n.log2 + 1022) * 2 ^ 52 + n * 2 ^ (52 - n.log2)
def Rep (m : Nat) (p : Int) (n : Nat) : Prop := ∃ K : Nat, 0 ≤ p + K ∧ m * 2 ^ (p + K).toNat = n * 2 ^ K
theorem Rep.at {m : Nat} {p : Int} {n : Nat} (h : Rep m p n) (J : Nat) (hJ : 0 ≤ p + J) : m * 2 ^ (p + J).toNat = n * 2 ^ J := by
  obtain ⟨K, hK, h⟩ := h
  rcases Nat.le_total K J with hl | hl
  · obtain ⟨d, rfl⟩ := Nat.exists_eq_add_of_le hl
    rw [show (p + ((K + d : Nat) : Int)).toNat = (p + K).toNat + d by omega, Nat.pow_add, Nat.pow_add, ← Nat.mul_assoc, ← Nat.mul_assoc, h]
  · obtain ⟨d, rfl⟩ := Nat.exists_eq_add_of_le hl
    rw [show (p + ((J + d : Nat) : Int)).toNat = (p + J).toNat + d by omega, Nat.pow_add, Nat.pow_add, ← Nat.mul_assoc, ← Nat.mul_assoc] at h
    exact Nat.eq_of_mul_eq_mul_right (Nat.two_pow_pos d) h
theorem Rep.zero {m : Nat} {p : Int} {n : Nat} (h : Rep m p n) : m = 0 ↔ n = 0 := by
  obtain ⟨K, hK, h⟩ := h
  constructor
  · rintro rfl
    rw [Nat.zero_mul] at h
    rcases Nat.mul_eq_zero.1 h.symm with h | h
    · exact h
    · exact absurd h (Nat.ne_of_gt (Nat.two_pow_pos K))
  · rintro rfl
    rw [Nat.zero_mul] at h
    rcases Nat.mul_eq_zero.1 h with h | h
    · exact h
    · exact absurd h (Nat.ne_of_gt (Nat.two_pow_pos _))
theorem log2_mul_pow (n k : Nat) (h : n ≠ 0) : (n * 2 ^ k).log2 = n.log2 + k := by
  have h1 : n * 2 ^ k ≠ 0 := Nat.mul_ne_zero h (Nat.ne_of_gt (Nat.two_pow_pos k))
  rw [Nat.log2_eq_iff h1]
  have h2 := (Nat.log2_eq_iff h (k := n.log2)).1 rfl
  rw [Nat.pow_add, show n.log2 + k + 1 = (n.log2 + 1) + k by omega, Nat.pow_add]
  exact ⟨Nat.mul_le_mul_right _ h2.1, Nat.mul_lt_mul_of_pos_right h2.2 (Nat.two_pow_pos k)⟩
theorem Rep.log {m : Nat} {p : Int} {n : Nat} (h : Rep m p n) (hn : n ≠ 0) : (m.log2 : Int) + p = n.log2 := by
  have hm : m ≠ 0 := fun e => hn (h.zero.1 e)
  obtain ⟨K, hK, h⟩ := h
  have := congrArg Nat.log2 h
  rw [log2_mul_pow _ _ hm, log2_mul_pow _ _ hn] at this
  omega
theorem cut_zero (n : Nat) : Ieee.Toward.even.cut false n 0 = n := by
  unfold Ieee.Toward.cut
  simp [Nat.mod_one]
theorem cut_exact (a d : Nat) (h : d ≤ (a * 2 ^ d).log2 + 2) : Ieee.Toward.even.cut false (a * 2 ^ d) d = a := by
  unfold Ieee.Toward.cut
  have hg : 1 <<< min d ((a * 2 ^ d).log2 + 2) = 2 ^ d := by rw [Nat.min_eq_left h, Nat.one_shiftLeft]
  have h0 : (0 == 2 ^ d) = false := by rw [beq_eq_false_iff_ne]; exact Nat.ne_of_lt (Nat.two_pow_pos d)
  have hp := Nat.two_pow_pos d
  have h1 : (2 ^ d == 0) = false := by rw [beq_eq_false_iff_ne]; omega
  simp only [hg, Nat.mul_div_cancel _ hp, Nat.mul_mod_left, Nat.mul_zero, h1, Bool.false_and, Bool.or_false, show ¬ 2 ^ d < 0 by omega, decide_false]
  rfl
theorem log2_lt {n k : Nat} (h : n ≠ 0) (hk : n < 2 ^ k) : n.log2 < k := (Nat.log2_lt h).2 hk
theorem nearest_rep {m : Nat} {p : Int} {n : Nat} (h : Rep m p n) (hn : n < 2 ^ 53) : Ieee.double.nearest false m p = fW n := by
  unfold Ieee.Format.nearest fW
  by_cases h0 : n = 0
  · rw [if_pos (h.zero.2 h0), if_pos h0]; rfl
  rw [if_neg (fun e => h0 (h.zero.1 e)), if_neg h0]
  have hl := h.log h0
  have h53 := log2_lt h0 hn
  have hlast : max (p + (m.log2 : Int) - (Ieee.double.fractionBits : Int)) Ieee.double.leastPlace = (n.log2 : Int) - 52 := by
    have e1 : (Ieee.double.fractionBits : Int) = 52 := rfl
    have e2 : Ieee.double.leastPlace = -1074 := by decide
    rw [e1, e2]
    omega
  simp only [hlast]
  have hkept : Ieee.Toward.even.cut false (m <<< (p - ((n.log2 : Int) - 52)).toNat) (((n.log2 : Int) - 52) - p).toNat = n * 2 ^ (52 - n.log2) := by
    rcases Int.lt_or_le p ((n.log2 : Int) - 52) with hlt | hge
    · obtain ⟨d, hd⟩ : ∃ d : Nat, ((n.log2 : Int) - 52) - p = d := ⟨_, (Int.toNat_of_nonneg (by omega)).symm⟩
      rw [hd, show (p - ((n.log2 : Int) - 52)).toNat = 0 by omega, Nat.shiftLeft_zero, Int.toNat_natCast]
      have hr := h.at ((52 - n.log2) + d) (by omega)
      rw [show (p + (((52 - n.log2) + d : Nat) : Int)).toNat = 0 by omega, Nat.pow_zero, Nat.mul_one, Nat.pow_add, ← Nat.mul_assoc] at hr
      have hml : m.log2 = 52 + d := by omega
      rw [hr] at hml ⊢
      exact cut_exact _ _ (by omega)
    · rw [show (((n.log2 : Int) - 52) - p).toNat = 0 by omega, cut_zero, Nat.shiftLeft_eq]
      have hr := h.at (52 - n.log2) (by omega)
      rw [← hr]
      congr 2
      omega
  rw [hkept]
  have hb : Ieee.double.binade = 2 ^ 52 := rfl
  have hi : Ieee.double.infRung = 2047 * 2 ^ 52 := by decide
  have hp : n * 2 ^ (52 - n.log2) < 2 ^ 53 := by
    have := (Nat.log2_eq_iff h0 (k := n.log2)).1 rfl
    calc n * 2 ^ (52 - n.log2) < 2 ^ (n.log2 + 1) * 2 ^ (52 - n.log2) := Nat.mul_lt_mul_of_pos_right this.2 (Nat.two_pow_pos _)
      _ = 2 ^ 53 := by rw [← Nat.pow_add]; congr 1; omega
  unfold Ieee.Format.word
  rw [hb, hi, show (((n.log2 : Int) - 52) - Ieee.double.leastPlace).toNat = n.log2 + 1022 by rw [show Ieee.double.leastPlace = -1074 by decide]; omega, Nat.min_eq_left (by omega)]
  rfl
set_option exponentiation.threshold 2000 in
theorem read_fW (n : Nat) (hn : n < 2 ^ 53) : ∃ m p, Ieee.double.read (fW n) = .number false m p ∧ Rep m p n := by
  unfold fW
  by_cases h0 : n = 0
  · subst h0
    exact ⟨0, -1074, by decide, 1074, by decide, by rw [Nat.zero_mul, Nat.zero_mul]⟩
  · rw [if_neg h0]
    have h53 := log2_lt h0 hn
    have h2 := (Nat.log2_eq_iff h0 (k := n.log2)).1 rfl
    have hlo : 2 ^ 52 ≤ n * 2 ^ (52 - n.log2) := by
      calc 2 ^ 52 = 2 ^ n.log2 * 2 ^ (52 - n.log2) := by rw [← Nat.pow_add]; congr 1; omega
        _ ≤ n * 2 ^ (52 - n.log2) := Nat.mul_le_mul_right _ h2.1
    have hhi : n * 2 ^ (52 - n.log2) < 2 ^ 53 := by
      calc n * 2 ^ (52 - n.log2) < 2 ^ (n.log2 + 1) * 2 ^ (52 - n.log2) := Nat.mul_lt_mul_of_pos_right h2.2 (Nat.two_pow_pos _)
        _ = 2 ^ 53 := by rw [← Nat.pow_add]; congr 1; omega
    refine ⟨n * 2 ^ (52 - n.log2), (n.log2 : Int) - 52, ?_, 52 - n.log2, by omega, by rw [show ((n.log2 : Int) - 52 + ((52 - n.log2 : Nat) : Int)).toNat = 0 by omega, Nat.pow_zero, Nat.mul_one]⟩
    obtain ⟨M, hM⟩ : ∃ M, n * 2 ^ (52 - n.log2) = M := ⟨_, rfl⟩
    obtain ⟨l, hl⟩ : ∃ l, n.log2 = l := ⟨_, rfl⟩
    rw [hM] at hlo hhi ⊢
    rw [hl] at h53 ⊢
    have hb : Ieee.double.binade = 4503599627370496 := by decide
    have hi : Ieee.double.infRung = 9218868437227405312 := by decide
    have hs : Ieee.double.signWeight = 9223372036854775808 := by decide
    have hp : Ieee.double.leastPlace = -1074 := by decide
    unfold Ieee.Format.read
    rw [hb, hi, hs, hp]
    have e1 : ((l + 1022) * 2 ^ 52 + M) / 9223372036854775808 = 0 := by omega
    have e2 : ((l + 1022) * 2 ^ 52 + M) % 9223372036854775808 = (l + 1022) * 4503599627370496 + M := by omega
    have e3 : ((l + 1022) * 4503599627370496 + M) % 4503599627370496 = M - 4503599627370496 := by omega
    have e4 : ((l + 1022) * 4503599627370496 + M) / 4503599627370496 = l + 1023 := by omega
    simp only [e1, e2]
    rw [if_neg (by omega), if_pos (by omega), e3, e4]
    have e5 : 4503599627370496 + (M - 4503599627370496) = M := by omega
    have e6 : (-1074 : Int) + ((l + 1023 - 1 : Nat) : Int) = (l : Int) - 52 := by omega
    rw [e5, e6]
    rfl
theorem write_rep {m : Nat} {p : Int} {n : Nat} (h : Rep m p n) (hn : n < 2 ^ 53) : Ieee.double.write (.number false m p) = fW n := nearest_rep h hn
theorem Rep.mul {m m' : Nat} {p p' : Int} {n n' : Nat} (h : Rep m p n) (h' : Rep m' p' n') : Rep (m * m') (p + p') (n * n') := by
  obtain ⟨K, hK, h⟩ := h
  obtain ⟨J, hJ, h'⟩ := h'
  refine ⟨K + J, by omega, ?_⟩
  rw [show (p + p' + ((K + J : Nat) : Int)).toNat = (p + K).toNat + (p' + J).toNat by omega, Nat.pow_add, Nat.pow_add]
  calc m * m' * (2 ^ (p + K).toNat * 2 ^ (p' + J).toNat) = (m * 2 ^ (p + K).toNat) * (m' * 2 ^ (p' + J).toNat) := by
        rw [Nat.mul_mul_mul_comm]
    _ = n * n' * (2 ^ K * 2 ^ J) := by rw [h, h', Nat.mul_mul_mul_comm]
theorem Rep.shift {m : Nat} {p : Int} {n : Nat} (h : Rep m p n) (b : Int) (hb : b ≤ p) : Rep (m <<< (p - b).toNat) b n := by
  obtain ⟨K, hK, h⟩ := h
  refine ⟨K + (p - b).toNat + (b.natAbs), by omega, ?_⟩
  have := Rep.at ⟨K, hK, h⟩ (K + (p - b).toNat + b.natAbs) (by omega)
  rw [← this, Nat.shiftLeft_eq, Nat.mul_assoc, ← Nat.pow_add]
  congr 2
  omega
theorem Rep.add {m m' : Nat} {p : Int} {n n' : Nat} (h : Rep m p n) (h' : Rep m' p n') : Rep (m + m') p (n + n') := by
  obtain ⟨K, hK, h⟩ := h
  exact ⟨K, hK, by rw [Nat.add_mul, h, Rep.at h' K hK, Nat.add_mul]⟩
theorem fW_mul (a b : Nat) (h : a * b < 2 ^ 53) (ha : a < 2 ^ 53) (hb : b < 2 ^ 53) : floatBits .mul .f64 (fW a) (fW b) = some (fW (a * b)) := by
  obtain ⟨m, p, e, r⟩ := read_fW a ha
  obtain ⟨m', p', e', r'⟩ := read_fW b hb
  show ((Ieee.double.read (fW a)).product (Ieee.double.read (fW b))).map Ieee.double.write = _
  rw [e, e']
  show some (Ieee.double.write (.number (false ^^ false) (m * m') (p + p'))) = _
  rw [show (false ^^ false) = false from rfl, write_rep (r.mul r') h]
theorem fW_add (a b : Nat) (h : a + b < 2 ^ 53) : floatBits .add .f64 (fW a) (fW b) = some (fW (a + b)) := by
  obtain ⟨m, p, e, r⟩ := read_fW a (by omega)
  obtain ⟨m', p', e', r'⟩ := read_fW b (by omega)
  show ((Ieee.double.read (fW a)).sum (Ieee.double.read (fW b))).map Ieee.double.write = _
  rw [e, e']
  have s1 := r.shift (min p p') (by omega)
  have s2 := r'.shift (min p p') (by omega)
  have s3 := s1.add s2
  obtain ⟨X, hX⟩ : ∃ X, m <<< (p - min p p').toNat = X := ⟨_, rfl⟩
  obtain ⟨Y, hY⟩ : ∃ Y, m' <<< (p' - min p p').toNat = Y := ⟨_, rfl⟩
  have e3 : (Ieee.Datum.number false m p).sum (.number false m' p') = some (.number false (X + Y) (min p p')) := by
    unfold Ieee.Datum.sum Ieee.signed
    simp only [hX, hY, Bool.false_eq_true, if_false]
    rw [show (((X : Nat) : Int) + ((Y : Nat) : Int)).natAbs = X + Y by omega]
    split
    · rfl
    · rw [decide_eq_false (by omega)]
  rw [hX, hY] at s3
  rw [e3]
  show some (Ieee.double.write (.number false (X + Y) (min p p'))) = _
  rw [write_rep s3 h]
theorem fW_order (a b : Nat) (ha : a < 2 ^ 53) (hb : b < 2 ^ 53) : Ieee.double.order (fW a) (fW b) = some (compare a b) := by
  obtain ⟨m, p, e, r⟩ := read_fW a ha
  obtain ⟨m', p', e', r'⟩ := read_fW b hb
  unfold Ieee.Format.order
  rw [e, e']
  have s1 := r.shift (min p p') (by omega)
  have s2 := r'.shift (min p p') (by omega)
  obtain ⟨X, hX⟩ : ∃ X, m <<< (p - min p p').toNat = X := ⟨_, rfl⟩
  obtain ⟨Y, hY⟩ : ∃ Y, m' <<< (p' - min p p').toNat = Y := ⟨_, rfl⟩
  rw [hX] at s1
  rw [hY] at s2
  have e3 : (Ieee.Datum.number false m p).order (.number false m' p') = some (compare (X : Int) (Y : Int)) := by
    unfold Ieee.Datum.order Ieee.signed
    simp only [hX, hY, Bool.false_eq_true, if_false]
  rw [e3]
  congr 1
  have t1 := s1.at (min p p').natAbs (by omega)
  have t2 := s2.at (min p p').natAbs (by omega)
  have hp1 := Nat.two_pow_pos (min p p' + ((min p p').natAbs : Int)).toNat
  have hp2 := Nat.two_pow_pos (min p p').natAbs
  rcases Nat.lt_trichotomy a b with hlt | heq | hgt
  · have : X < Y := Nat.lt_of_mul_lt_mul_right (by rw [t1, t2]; exact Nat.mul_lt_mul_of_pos_right hlt hp2)
    rw [Int.compare_eq_lt.2 (by omega), Nat.compare_eq_lt.2 hlt]
  · have : X = Y := Nat.eq_of_mul_eq_mul_right hp1 (by rw [t1, t2, heq])
    rw [Int.compare_eq_eq.2 (by omega), Nat.compare_eq_eq.2 heq]
  · have : Y < X := Nat.lt_of_mul_lt_mul_right (by rw [t1, t2]; exact Nat.mul_lt_mul_of_pos_right hgt hp2)
    rw [Int.compare_eq_gt.2 (by omega), Nat.compare_eq_gt.2 hgt]
theorem fW_ofInt (n : Nat) (hn : n < 2 ^ 53) : floatOfInt .f64 (n : Int) = fW n := by
  show Ieee.double.write (.number (decide ((n : Int) < 0)) (n : Int).natAbs 0) = _
  rw [decide_eq_false (by omega), Int.natAbs_natCast, write_rep ⟨0, by decide, by simp⟩ hn]
theorem cut_way_exact (a d : Nat) (h : a ≠ 0 → d ≤ (a * 2 ^ d).log2 + 2) : Ieee.Toward.zero.cut false (a * 2 ^ d) d = a := by
  unfold Ieee.Toward.cut
  by_cases h0 : a = 0
  · subst h0; simp
  · have hg : 1 <<< min d ((a * 2 ^ d).log2 + 2) = 2 ^ d := by rw [Nat.min_eq_left (h h0), Nat.one_shiftLeft]
    simp only [hg, Nat.mul_div_cancel _ (Nat.two_pow_pos d)]
    rfl
theorem fW_toInt (n : Nat) (hn : n < 2 ^ 53) : floatToIntVal .f64 (fW n) .i64 = some (n : Int) := by
  obtain ⟨m, p, e, r⟩ := read_fW n hn
  have hI : (Ieee.double.read (fW n)).toInt .zero = some (n : Int) := by
    rw [e]
    unfold Ieee.Datum.toInt Ieee.Datum.integral
    have : Ieee.Toward.zero.cut false (m <<< p.toNat) (-p).toNat = n := by
      rcases Int.lt_or_le p 0 with hlt | hge
      · obtain ⟨d, hd⟩ : ∃ d : Nat, -p = d := ⟨_, (Int.toNat_of_nonneg (by omega)).symm⟩
        have hr := r.at d (by omega)
        rw [show (p + (d : Int)).toNat = 0 by omega, Nat.pow_zero, Nat.mul_one] at hr
        rw [show p.toNat = 0 by omega, Nat.shiftLeft_zero, hd, Int.toNat_natCast, hr]
        refine cut_way_exact n d fun h0 => ?_
        rw [log2_mul_pow _ _ h0]; omega
      · have hr := r.at 0 (by omega)
        rw [show (p + ((0 : Nat) : Int)).toNat = p.toNat by omega, Nat.pow_zero, Nat.mul_one] at hr
        rw [Nat.shiftLeft_eq, hr, show (-p).toNat = 0 by omega]
        have := cut_way_exact n 0 (fun _ => by omega)
        simpa using this
    simp only [this]
    show some (Ieee.signed false n 0) = _
    unfold Ieee.signed
    simp
  unfold floatToIntVal
  show (match (Ieee.double.read (fW n)).toInt .zero with | some n => if IntKind.i64.min ≤ n ∧ n ≤ IntKind.i64.max then some n else none | none => none) = _
  rw [hI]
  have e1 : IntKind.i64.min = -9223372036854775808 := by decide
  have e2 : IntKind.i64.max = 9223372036854775807 := by decide
  simp only [e1, e2]
  rw [if_pos (by omega)]
end Go.Proofs.YtbdcghbafopjjaaGreatDoor.Pl
end

section
namespace Go.Proofs.YtbdcghbafopjjaaGreatDoor.Pl
open Go
def hexV (c : UInt8) : Int := if 48 ≤ c.toNat ∧ c.toNat ≤ 57 then c.toNat - 48 else if 65 ≤ c.toNat ∧ c.toNat ≤ 70 then c.toNat - 55 else if 97 ≤ c.toNat ∧ c.toNat ≤ 102 then c.toNat - 87 else -1
theorem hexV_bound (c : UInt8) : -1 ≤ hexV c ∧ hexV c ≤ 15 := by unfold hexV; split <;> (try split) <;> (try split) <;> omega
def valR (base : Nat) : Nat → List UInt8 → Option Nat
  | n, [] => some n
  | n, c :: r => if hexV c < 0 ∨ (base : Int) ≤ hexV c then none else valR base (min (n * base + (hexV c).toNat) 1114112) r
def valM : Option Nat → Int
  | none => -1
  | some n => n
def valL (base : Nat) (s : List UInt8) : Int := if s = [] then -1 else valM (valR base 0 s)
theorem valR_le (base : Nat) : ∀ (s : List UInt8) (n m : Nat), n ≤ 1114112 → valR base n s = some m → m ≤ 1114112 := by
  intro s
  induction s with
  | nil => intro n m h e; cases e; exact h
  | cons c r ih =>
    intro n m h e
    rw [valR] at e
    split at e
    · cases e
    · exact ih _ m (Nat.min_le_right _ _) e
theorem valL_bound (base : Nat) (s : List UInt8) : -1 ≤ valL base s ∧ valL base s ≤ 1114112 := by
  unfold valL
  split
  · omega
  · cases h : valR base 0 s with
    | none => exact ⟨by decide, by decide⟩
    | some n =>
      have := valR_le base s 0 n (by omega) h
      show -1 ≤ (n : Int) ∧ (n : Int) ≤ 1114112
      omega
theorem fW_0 : fW 0 = 0 := by decide
theorem fW_1 : fW 1 = 4607182418800017408 := by decide
theorem fW_10 : fW 10 = 4621819117588971520 := by decide
theorem fW_16 : fW 16 = 4625196817309499392 := by decide
theorem fW_beyond : fW 1114112 = 4697535886324137984 := by decide
theorem fneg : floatOfInt .f64 (-1) = 13830554455654793216 := by decide
theorem ord_lt {a b : Nat} (ha : a < 2 ^ 53) (hb : b < 2 ^ 53) : (FloatKind.f64.format.order (fW a) (fW b) == some Ordering.lt) = decide (a < b) := by
  rw [show FloatKind.f64.format.order (fW a) (fW b) = some (compare a b) from fW_order a b ha hb]
  rcases Nat.lt_trichotomy a b with h | h | h
  · rw [Nat.compare_eq_lt.2 h, decide_eq_true h]; rfl
  · rw [Nat.compare_eq_eq.2 h, decide_eq_false (by omega)]; rfl
  · rw [Nat.compare_eq_gt.2 h, decide_eq_false (by omega)]; rfl
theorem ord_gt {a b : Nat} (ha : a < 2 ^ 53) (hb : b < 2 ^ 53) : (FloatKind.f64.format.order (fW a) (fW b) == some Ordering.gt) = decide (b < a) := by
  rw [show FloatKind.f64.format.order (fW a) (fW b) = some (compare a b) from fW_order a b ha hb]
  rcases Nat.lt_trichotomy a b with h | h | h
  · rw [Nat.compare_eq_lt.2 h, decide_eq_false (by omega)]; rfl
  · rw [Nat.compare_eq_eq.2 h, decide_eq_false (by omega)]; rfl
  · rw [Nat.compare_eq_gt.2 h, decide_eq_true h]; rfl
theorem ord_eq {a b : Nat} (ha : a < 2 ^ 53) (hb : b < 2 ^ 53) : (FloatKind.f64.format.order (fW a) (fW b) == some Ordering.eq) = decide (a = b) := by
  rw [show FloatKind.f64.format.order (fW a) (fW b) = some (compare a b) from fW_order a b ha hb]
  rcases Nat.lt_trichotomy a b with h | h | h
  · rw [Nat.compare_eq_lt.2 h, decide_eq_false (by omega)]; rfl
  · rw [Nat.compare_eq_eq.2 h, decide_eq_true h]; rfl
  · rw [Nat.compare_eq_gt.2 h, decide_eq_false (by omega)]; rfl
theorem run_min_float {P : Program} (ts : Array TypeId) (t : TypeId) (a b : Nat) (ha : a < 2 ^ 53) (hb : b < 2 ^ 53) (w : World) :
    (Builtin.min_ ts t #[.float .f64 (fW a), .float .f64 (fW b)]).run P w = .ok (.float .f64 (fW (min a b))) w := by
  have ho : FloatKind.f64.format.order (fW a) (fW b) = some (compare a b) := fW_order a b ha hb
  have hm : Builtin.min_ ts t #[.float .f64 (fW a), .float .f64 (fW b)] = Builtin.min2 (.float .f64 (fW a)) (.float .f64 (fW b)) := by
    simp [Builtin.min_, List.foldlM]
  rw [hm]
  unfold Builtin.min2
  simp only [ho]
  rcases Nat.lt_trichotomy a b with h | h | h
  · rw [Nat.compare_eq_lt.2 h, Nat.min_eq_left (by omega)]; rfl
  · subst h; rw [Nat.compare_eq_eq.2 rfl, Nat.min_self]; simp
  · rw [Nat.compare_eq_gt.2 h, Nat.min_eq_right (by omega)]; rfl
end Go.Proofs.YtbdcghbafopjjaaGreatDoor.Pl
end

section
namespace Go.Proofs.YtbdcghbafopjjaaGreatDoor.Hand
open Go Go.RowKit Go.Proofs.YtbdcghbafopjjaaGreatDoor.Pl Go.Proofs.YtbdcghbafopjjaaGreatDoor.Pb
def hexN (n : Nat) : List UInt8 → Nat
  | [] => n
  | c :: r => hexN (16 * n + (hexV c).toNat) r
theorem hexU_cases {c : UInt8} (h : isHexU c = true) : (48 ≤ c.toNat ∧ c.toNat ≤ 57) ∨ (65 ≤ c.toNat ∧ c.toNat ≤ 70) := by
  unfold isHexU at h
  simpa using h
set_option maxRecDepth 100000 in
set_option maxHeartbeats 8000000 in
theorem iparse_c (s : ByteArray) (hx : ∀ c ∈ s.data.toList, isHexU c = true) (h1 : 1 ≤ s.size) (h8 : s.size ≤ 8) (w : World) :
    Calls Tryz.prog 164 #[.string s, .int .i64 16, .int .i64 32] w fun e w' => e = .returned (.tuple #[.int .u64 (hexN 0 s.data.toList : Nat), .nilIface]) ∧ Below w.heap.size w w' := by
  have he : (s.toList == []) = false := by
    obtain ⟨l, rfl⟩ := exists_B s
    rw [toList_B, beq_eq_false_iff_ne]
    rintro rfl
    exact absurd h1 (by decide)
  have hconv := Lib.run_convert_string_bytes (P := Tryz.prog) w 9 43 5 s Tryz.underlying9 Tryz.underlying43 Tryz.underlying5
  have hcell : ∀ j (hj : j < s.size), (Lib.bytesWorld w 5 s).cell? ⟨w.heap.size, j, none⟩ = some (.int .u8 ((s[j].toNat : Nat) : Int)) := fun j hj => by
    rw [Lib.bytesWorld_cell w 5 s j hj]
    have : s.data.toList.getD j 0 = s[j] := by
      rw [List.getD_eq_getElem?_getD, List.getElem?_eq_getElem (by simpa using hj)]; rfl
    rw [this]
  have hb0 := below_bytesWorld w 5 s
  generalize Lib.bytesWorld w 5 s = W0 at hconv hcell hb0
  generalize grownCap w s.size 0 5 = cap at hconv
  have HC := Lib.hid hcell
  have HB0 := Lib.hid hb0
  have HX := Lib.hid hx
  clear hcell hb0 hx
  go_enter Tryz.func164, Tryz.ntmps164
  obtain ⟨R, hR⟩ : ∃ R, hexN 0 s.data.toList = R := ⟨_, rfl⟩
  rw [hR]
  have HR : Hid (hexN 0 (s.data.toList.drop 0) = R) := Lib.hid hR
  clear hR
  go_wp2_with fail
  clear hconv
  go_loop [12, 13, 101] (fun u v i => ∃ (k : Nat) (a : Int), u = .bool false ∧ v = .int .u64 a ∧ i = .int .i64 (k : Int) ∧ k ≤ s.size ∧ Hid (0 ≤ a ∧ a < ((16 ^ k : Nat) : Int) ∧ hexN a.toNat (s.data.toList.drop k) = R)) (fun _ _ i => s.size - (intOf i).toNat)
  case atStart => exact ⟨0, 0, rfl, rfl, rfl, Nat.zero_le _, Lib.hid ⟨by decide, by decide, HR.out⟩⟩
  case round =>
    obtain ⟨k, a, rfl, rfl, rfl, hk, hh⟩ := hrel
    obtain ⟨a0, ha, hV⟩ := hh.out
    clear hh
    by_cases hlt : k < s.size
    · have hck := HC.out k hlt
      have hd := drop_cons s k hlt
      have hu := HX.out s[k] (List.mem_of_mem_drop (i := k) (by rw [hd]; simp))
      have a1 : a ≤ 268435455 := by
        have : 16 ^ k ≤ 16 ^ 7 := Nat.pow_le_pow_right (by decide) (by omega)
        have e : (16 : Nat) ^ 7 = 268435456 := by decide
        omega
      have HM : Hid (∀ d : Int, 0 ≤ d → d < 16 → a * 16 + d < ((16 ^ (k + 1) : Nat) : Int)) := Lib.hid (fun d h0 h1 => by rw [Nat.pow_succ]; omega)
      rw [hd, hexN] at hV
      have hu2 := hexU_cases hu
      obtain ⟨v, hv⟩ : ∃ v, hexV s[k] = v := ⟨_, rfl⟩
      have hv2 : (48 ≤ s[k].toNat ∧ s[k].toNat ≤ 57 → v = s[k].toNat - 48) ∧ (65 ≤ s[k].toNat ∧ s[k].toNat ≤ 70 → v = s[k].toNat - 55) := by
        rw [← hv]; unfold hexV
        constructor
        · intro h; rw [if_pos h]
        · intro h; rw [if_neg (by omega), if_pos h]
      rw [hv] at hV
      generalize s[k] = c at hck hu2 hv2
      clear hd hu hv ha
      by_cases hdig : 48 ≤ c.toNat ∧ c.toNat ≤ 57
      · obtain rfl := hv2.1 hdig
        obtain ⟨hd0, hd1⟩ := hdig
        have HN : Hid (0 ≤ a * 16 + ((c.toNat : Int) - 48) ∧ a * 16 + ((c.toNat : Int) - 48) < ((16 ^ (k + 1) : Nat) : Int) ∧ hexN (a * 16 + ((c.toNat : Int) - 48)).toNat (s.data.toList.drop (k + 1)) = R) := Lib.hid ⟨by omega, HM.out _ (by omega) (by omega), by rw [← hV]; congr 1; omega⟩
        have iov : a * 16 + ((c.toNat : Int) - 48) ≤ 4294967295 := by omega
        clear hV hu2 hv2
        go_wp2_with fail
        exact ⟨⟨k + 1, _, rfl, rfl, by first | rfl | (congr 1; omega), by omega, HN⟩, by simp [intOf]; omega⟩
      · have hl : 65 ≤ c.toNat ∧ c.toNat ≤ 70 := by omega
        obtain rfl := hv2.2 hl
        obtain ⟨hd0, hd1⟩ := hl
        have hor : bits .or .u8 (c.toNat : Int) 32 = (c.toNat : Int) + 32 := by
          rcases (show c.toNat = 65 ∨ c.toNat = 66 ∨ c.toNat = 67 ∨ c.toNat = 68 ∨ c.toNat = 69 ∨ c.toNat = 70 by omega) with h | h | h | h | h | h <;> rw [h] <;> decide
        have F : Hid (∀ W, Calls Tryz.prog 180 #[.int .u8 (c.toNat : Int)] W fun e w' => e = .returned (.int .u8 ((c.toNat : Int) + 32)) ∧ w' = W) := Lib.hid (fun W => by
          have := Tryz.internal_strconv_lower (c.toNat : Int) W
          rw [hor] at this
          exact this)
        have HN : Hid (0 ≤ a * 16 + ((c.toNat : Int) - 55) ∧ a * 16 + ((c.toNat : Int) - 55) < ((16 ^ (k + 1) : Nat) : Int) ∧ hexN (a * 16 + ((c.toNat : Int) - 55)).toNat (s.data.toList.drop (k + 1)) = R) := Lib.hid ⟨by omega, HM.out _ (by omega) (by omega), by rw [← hV]; congr 1; omega⟩
        have iov : a * 16 + ((c.toNat : Int) - 55) ≤ 4294967295 := by omega
        clear hV hu2 hv2 hor hdig
        go_wp2_with fail
        refine (F.out _).mono ?_
        rintro e w1 ⟨rfl, rfl⟩
        go_wp2_with fail
        refine (F.out _).mono ?_
        rintro e w1 ⟨rfl, rfl⟩
        go_wp2_with fail
        refine (F.out _).mono ?_
        rintro e w1 ⟨rfl, rfl⟩
        go_wp2_with fail
        refine ⟨⟨k + 1, a * 16 + ((c.toNat : Int) - 55), rfl, ?_, by first | rfl | (congr 1; omega), by omega, HN⟩, by simp [intOf]; omega⟩
        first | rfl | (congr 1; omega)
    · obtain rfl : k = s.size := by omega
      rw [List.drop_eq_nil_of_le (by rw [Array.length_toList]; show s.size ≤ s.size; omega), hexN] at hV
      obtain rfl : a = (R : Int) := by omega
      have HE := Lib.hid (show hexN 0 s.data.toList = R from HR.out)
      clear hV ha a0
      go_wp2_with fail
      go_ret2
      exact ⟨rfl, HB0.out⟩
end Go.Proofs.YtbdcghbafopjjaaGreatDoor.Hand
end

section
namespace Go.Proofs.YtbdcghbafopjjaaGreatDoor.Sa
open Go.RowKit Go.Proofs.YtbdcghbafopjjaaGreatDoor.K0 Go.Proofs.YtbdcghbafopjjaaGreatDoor.Hand Go.Proofs.YtbdcghbafopjjaaGreatDoorW.PrintWords Go.Proofs.YtbdcghbafopjjaaGreatDoorW.PrintLast Go.Proofs.YtbdcghbafopjjaaGreatDoorW.PrintMore
attribute [local go_sem] max2_int min2_int max_two min_two max_three min_three max_four min_four  
set_option linter.unusedVariables false
set_option linter.unusedSimpArgs false
def comment_Begins.f (a0 : ByteArray) (a1 : Int) : Option (Bool) := (sign_Begins.f a0 a1 (⟨#[60, 33]⟩ : ByteArray)).bind fun t115 => (if t115 = true then ((sign_Begins.f a0 a1 (⟨#[60, 33, 100, 111, 99, 116, 121, 112, 101]⟩ : ByteArray)).bind fun t116 => (some (!t116))) else ((sign_Begins.f a0 a1 (⟨#[60, 63]⟩ : ByteArray)).bind fun t117 => (if t117 = true then (some true) else ((sign_Begins.f a0 a1 (⟨#[60, 47]⟩ : ByteArray)).bind fun t118 => (if t118 = true then (if (wrap64 (a1 + 2)) = (a0.size : Int) then (some false) else (if 0 ≤ (wrap64 (a1 + 2)) then (if (wrap64 (a1 + 2)) < (a0.size : Int) then (if (bt a0 (wrap64 (a1 + 2))) = 62 then (some false) else ((sign_Letter.f (bt a0 (wrap64 (a1 + 2)))).bind fun t119 => (some (!t119)))) else (none)) else (none))) else (some false))))))
set_option maxHeartbeats 8000000 in
set_option maxRecDepth 100000 in
theorem comment_Begins.calls (a0 : ByteArray) (a1 : Int) (r : Bool) (w : World) (h : comment_Begins.f a0 a1 = some r) :
    Calls Tryz.prog 64 #[.string a0, .int .i64 a1] w fun e w' => e = .returned (.bool r) ∧ Below w.heap.size w w' := by
  have HB := Aside0.mk (Below.refl w.heap.size w)
  have H : ((sign_Begins.f a0 a1 (⟨#[60, 33]⟩ : ByteArray)).bind fun t115 => (if t115 = true then ((sign_Begins.f a0 a1 (⟨#[60, 33, 100, 111, 99, 116, 121, 112, 101]⟩ : ByteArray)).bind fun t116 => (some (!t116))) else ((sign_Begins.f a0 a1 (⟨#[60, 63]⟩ : ByteArray)).bind fun t117 => (if t117 = true then (some true) else ((sign_Begins.f a0 a1 (⟨#[60, 47]⟩ : ByteArray)).bind fun t118 => (if t118 = true then (if (wrap64 (a1 + 2)) = (a0.size : Int) then (some false) else (if 0 ≤ (wrap64 (a1 + 2)) then (if (wrap64 (a1 + 2)) < (a0.size : Int) then (if (bt a0 (wrap64 (a1 + 2))) = 62 then (some false) else ((sign_Letter.f (bt a0 (wrap64 (a1 + 2)))).bind fun t119 => (some (!t119)))) else (none)) else (none))) else (some false))))))) = some r := h
  clear h
  replace H := Option.bind_eq_some_iff.mp H
  obtain ⟨t115, A30, H⟩ := H
  replace H : (if t115 = true then ((sign_Begins.f a0 a1 (⟨#[60, 33, 100, 111, 99, 116, 121, 112, 101]⟩ : ByteArray)).bind fun t116 => (some (!t116))) else ((sign_Begins.f a0 a1 (⟨#[60, 63]⟩ : ByteArray)).bind fun t117 => (if t117 = true then (some true) else ((sign_Begins.f a0 a1 (⟨#[60, 47]⟩ : ByteArray)).bind fun t118 => (if t118 = true then (if (wrap64 (a1 + 2)) = (a0.size : Int) then (some false) else (if 0 ≤ (wrap64 (a1 + 2)) then (if (wrap64 (a1 + 2)) < (a0.size : Int) then (if (bt a0 (wrap64 (a1 + 2))) = 62 then (some false) else ((sign_Letter.f (bt a0 (wrap64 (a1 + 2)))).bind fun t119 => (some (!t119)))) else (none)) else (none))) else (some false)))))) = some r := H
  have A3 := Aside0.mk A30
  clear A30
  by_cases c4 : t115 = true
  · subst c4
    have H1 : ((sign_Begins.f a0 a1 (⟨#[60, 33, 100, 111, 99, 116, 121, 112, 101]⟩ : ByteArray)).bind fun t116 => (some (!t116))) = some r := by rw [if_pos rfl] at H; exact H
    clear H
    have H := H1
    clear H1
    replace H := Option.bind_eq_some_iff.mp H
    obtain ⟨t116, A50, H⟩ := H
    replace H : (some (!t116)) = some r := H
    have A5 := Aside0.mk A50
    clear A50
    obtain rfl := Option.some.inj H
    go_enter Tryz.func64, Tryz.ntmps64
    go_wp2_with (first | ((with_reducible refine gate_callee (f := 53) rfl ?_); refine goesL_ (some 9) rfl rfl Tryz.func53 (by kernel_rfl) rfl #[.string a0, .int .i64 a1, .string (⟨#[60, 33]⟩ : ByteArray)] rfl (by (try simp only [List.map_toArray, List.map_cons, List.map_nil]); first | done | rfl | (simp only [List.length_drop, List.length_take]; rfl)) ?_; (with_reducible refine (sign_Begins.calls a0 a1 (⟨#[60, 33]⟩ : ByteArray) true _ A3.out).mono ?_); rintro e w6 ⟨rfl, hb⟩; refine ⟨_, rfl, ?_⟩; have n0_ := Aside0.mk (below_step (by repeat (first | (with_reducible first | exact HB.out | apply below_alloc | apply pw_below_drewN | apply below_drew1) | exact HB.out)) hb); clear HB; have HB := n0_; clear n0_; (try clear hb); (try clear hb2); (try clear hk); (try clear hi)) | ((with_reducible refine gate_callee (f := 53) rfl ?_); refine goesL_ (some 12) rfl rfl Tryz.func53 (by kernel_rfl) rfl #[.string a0, .int .i64 a1, .string (⟨#[60, 33, 100, 111, 99, 116, 121, 112, 101]⟩ : ByteArray)] rfl (by (try simp only [List.map_toArray, List.map_cons, List.map_nil]); first | done | rfl | (simp only [List.length_drop, List.length_take]; rfl)) ?_; (with_reducible refine (sign_Begins.calls a0 a1 (⟨#[60, 33, 100, 111, 99, 116, 121, 112, 101]⟩ : ByteArray) t116 _ A5.out).mono ?_); rintro e w7 ⟨rfl, hb⟩; refine ⟨_, rfl, ?_⟩; have n0_ := Aside0.mk (below_step (by repeat (first | (with_reducible first | exact HB.out | apply below_alloc | apply pw_below_drewN | apply below_drew1) | exact HB.out)) hb); clear HB; have HB := n0_; clear n0_; (try clear hb); (try clear hb2); (try clear hk); (try clear hi)))
    go_ret
    exact ⟨by first | rfl | (simp [errW_none, errW_some] <;> rfl) | (simp [*, errW_none, errW_some] <;> rfl), by repeat (first | (with_reducible first | exact HB.out | apply below_alloc | apply pw_below_drewN | apply below_drew1) | exact HB.out)⟩
  · replace c4 := Bool.eq_false_iff.mpr c4
    subst c4
    have H1 : ((sign_Begins.f a0 a1 (⟨#[60, 63]⟩ : ByteArray)).bind fun t117 => (if t117 = true then (some true) else ((sign_Begins.f a0 a1 (⟨#[60, 47]⟩ : ByteArray)).bind fun t118 => (if t118 = true then (if (wrap64 (a1 + 2)) = (a0.size : Int) then (some false) else (if 0 ≤ (wrap64 (a1 + 2)) then (if (wrap64 (a1 + 2)) < (a0.size : Int) then (if (bt a0 (wrap64 (a1 + 2))) = 62 then (some false) else ((sign_Letter.f (bt a0 (wrap64 (a1 + 2)))).bind fun t119 => (some (!t119)))) else (none)) else (none))) else (some false))))) = some r := by rw [if_neg (show ¬ (false = true) by decide)] at H; exact H
    clear H
    have H := H1
    clear H1
    replace H := Option.bind_eq_some_iff.mp H
    obtain ⟨t117, A80, H⟩ := H
    replace H : (if t117 = true then (some true) else ((sign_Begins.f a0 a1 (⟨#[60, 47]⟩ : ByteArray)).bind fun t118 => (if t118 = true then (if (wrap64 (a1 + 2)) = (a0.size : Int) then (some false) else (if 0 ≤ (wrap64 (a1 + 2)) then (if (wrap64 (a1 + 2)) < (a0.size : Int) then (if (bt a0 (wrap64 (a1 + 2))) = 62 then (some false) else ((sign_Letter.f (bt a0 (wrap64 (a1 + 2)))).bind fun t119 => (some (!t119)))) else (none)) else (none))) else (some false)))) = some r := H
    have A8 := Aside0.mk A80
    clear A80
    by_cases c9 : t117 = true
    · subst c9
      have H1 : (some true) = some r := by rw [if_pos rfl] at H; exact H
      clear H
      have H := H1
      clear H1
      obtain rfl := Option.some.inj H
      go_enter Tryz.func64, Tryz.ntmps64
      go_wp2_with (first | ((with_reducible refine gate_callee (f := 53) rfl ?_); refine goesL_ (some 9) rfl rfl Tryz.func53 (by kernel_rfl) rfl #[.string a0, .int .i64 a1, .string (⟨#[60, 33]⟩ : ByteArray)] rfl (by (try simp only [List.map_toArray, List.map_cons, List.map_nil]); first | done | rfl | (simp only [List.length_drop, List.length_take]; rfl)) ?_; (with_reducible refine (sign_Begins.calls a0 a1 (⟨#[60, 33]⟩ : ByteArray) false _ A3.out).mono ?_); rintro e w10 ⟨rfl, hb⟩; refine ⟨_, rfl, ?_⟩; have n0_ := Aside0.mk (below_step (by repeat (first | (with_reducible first | exact HB.out | apply below_alloc | apply pw_below_drewN | apply below_drew1) | exact HB.out)) hb); clear HB; have HB := n0_; clear n0_; (try clear hb); (try clear hb2); (try clear hk); (try clear hi)) | ((with_reducible refine gate_callee (f := 53) rfl ?_); refine goesL_ (some 17) rfl rfl Tryz.func53 (by kernel_rfl) rfl #[.string a0, .int .i64 a1, .string (⟨#[60, 63]⟩ : ByteArray)] rfl (by (try simp only [List.map_toArray, List.map_cons, List.map_nil]); first | done | rfl | (simp only [List.length_drop, List.length_take]; rfl)) ?_; (with_reducible refine (sign_Begins.calls a0 a1 (⟨#[60, 63]⟩ : ByteArray) true _ A8.out).mono ?_); rintro e w11 ⟨rfl, hb⟩; refine ⟨_, rfl, ?_⟩; have n0_ := Aside0.mk (below_step (by repeat (first | (with_reducible first | exact HB.out | apply below_alloc | apply pw_below_drewN | apply below_drew1) | exact HB.out)) hb); clear HB; have HB := n0_; clear n0_; (try clear hb); (try clear hb2); (try clear hk); (try clear hi)))
      go_ret
      exact ⟨by first | rfl | (simp [errW_none, errW_some] <;> rfl) | (simp [*, errW_none, errW_some] <;> rfl), by repeat (first | (with_reducible first | exact HB.out | apply below_alloc | apply pw_below_drewN | apply below_drew1) | exact HB.out)⟩
    · replace c9 := Bool.eq_false_iff.mpr c9
      subst c9
      have H1 : ((sign_Begins.f a0 a1 (⟨#[60, 47]⟩ : ByteArray)).bind fun t118 => (if t118 = true then (if (wrap64 (a1 + 2)) = (a0.size : Int) then (some false) else (if 0 ≤ (wrap64 (a1 + 2)) then (if (wrap64 (a1 + 2)) < (a0.size : Int) then (if (bt a0 (wrap64 (a1 + 2))) = 62 then (some false) else ((sign_Letter.f (bt a0 (wrap64 (a1 + 2)))).bind fun t119 => (some (!t119)))) else (none)) else (none))) else (some false))) = some r := by rw [if_neg (show ¬ (false = true) by decide)] at H; exact H
      clear H
      have H := H1
      clear H1
      replace H := Option.bind_eq_some_iff.mp H
      obtain ⟨t118, A120, H⟩ := H
      replace H : (if t118 = true then (if (wrap64 (a1 + 2)) = (a0.size : Int) then (some false) else (if 0 ≤ (wrap64 (a1 + 2)) then (if (wrap64 (a1 + 2)) < (a0.size : Int) then (if (bt a0 (wrap64 (a1 + 2))) = 62 then (some false) else ((sign_Letter.f (bt a0 (wrap64 (a1 + 2)))).bind fun t119 => (some (!t119)))) else (none)) else (none))) else (some false)) = some r := H
      have A12 := Aside0.mk A120
      clear A120
      by_cases c13 : t118 = true
      · subst c13
        have H1 : (if (wrap64 (a1 + 2)) = (a0.size : Int) then (some false) else (if 0 ≤ (wrap64 (a1 + 2)) then (if (wrap64 (a1 + 2)) < (a0.size : Int) then (if (bt a0 (wrap64 (a1 + 2))) = 62 then (some false) else ((sign_Letter.f (bt a0 (wrap64 (a1 + 2)))).bind fun t119 => (some (!t119)))) else (none)) else (none))) = some r := by rw [if_pos rfl] at H; exact H
        clear H
        have H := H1
        clear H1
        by_cases c14 : (wrap64 (a1 + 2)) = (a0.size : Int)
        · rw [if_pos c14] at H
          have c14b0 : ((wrap64 (a1 + 2)) == (a0.size : Int)) = true := beq_iff_eq.mpr c14
          have c14b1 : ((wrap64 (a1 + 2)) != (a0.size : Int)) = false := bne_eq_false_iff_eq.mpr c14
          clear c14
          obtain rfl := Option.some.inj H
          go_enter Tryz.func64, Tryz.ntmps64
          go_wp2_with (first | ((with_reducible refine gate_callee (f := 53) rfl ?_); refine goesL_ (some 9) rfl rfl Tryz.func53 (by kernel_rfl) rfl #[.string a0, .int .i64 a1, .string (⟨#[60, 33]⟩ : ByteArray)] rfl (by (try simp only [List.map_toArray, List.map_cons, List.map_nil]); first | done | rfl | (simp only [List.length_drop, List.length_take]; rfl)) ?_; (with_reducible refine (sign_Begins.calls a0 a1 (⟨#[60, 33]⟩ : ByteArray) false _ A3.out).mono ?_); rintro e w15 ⟨rfl, hb⟩; refine ⟨_, rfl, ?_⟩; have n0_ := Aside0.mk (below_step (by repeat (first | (with_reducible first | exact HB.out | apply below_alloc | apply pw_below_drewN | apply below_drew1) | exact HB.out)) hb); clear HB; have HB := n0_; clear n0_; (try clear hb); (try clear hb2); (try clear hk); (try clear hi)) | ((with_reducible refine gate_callee (f := 53) rfl ?_); refine goesL_ (some 17) rfl rfl Tryz.func53 (by kernel_rfl) rfl #[.string a0, .int .i64 a1, .string (⟨#[60, 63]⟩ : ByteArray)] rfl (by (try simp only [List.map_toArray, List.map_cons, List.map_nil]); first | done | rfl | (simp only [List.length_drop, List.length_take]; rfl)) ?_; (with_reducible refine (sign_Begins.calls a0 a1 (⟨#[60, 63]⟩ : ByteArray) false _ A8.out).mono ?_); rintro e w16 ⟨rfl, hb⟩; refine ⟨_, rfl, ?_⟩; have n0_ := Aside0.mk (below_step (by repeat (first | (with_reducible first | exact HB.out | apply below_alloc | apply pw_below_drewN | apply below_drew1) | exact HB.out)) hb); clear HB; have HB := n0_; clear n0_; (try clear hb); (try clear hb2); (try clear hk); (try clear hi)) | ((with_reducible refine gate_callee (f := 53) rfl ?_); refine goesL_ (some 21) rfl rfl Tryz.func53 (by kernel_rfl) rfl #[.string a0, .int .i64 a1, .string (⟨#[60, 47]⟩ : ByteArray)] rfl (by (try simp only [List.map_toArray, List.map_cons, List.map_nil]); first | done | rfl | (simp only [List.length_drop, List.length_take]; rfl)) ?_; (with_reducible refine (sign_Begins.calls a0 a1 (⟨#[60, 47]⟩ : ByteArray) true _ A12.out).mono ?_); rintro e w17 ⟨rfl, hb⟩; refine ⟨_, rfl, ?_⟩; have n0_ := Aside0.mk (below_step (by repeat (first | (with_reducible first | exact HB.out | apply below_alloc | apply pw_below_drewN | apply below_drew1) | exact HB.out)) hb); clear HB; have HB := n0_; clear n0_; (try clear hb); (try clear hb2); (try clear hk); (try clear hi)))
          go_ret
          exact ⟨by first | rfl | (simp [errW_none, errW_some] <;> rfl) | (simp [*, errW_none, errW_some] <;> rfl), by repeat (first | (with_reducible first | exact HB.out | apply below_alloc | apply pw_below_drewN | apply below_drew1) | exact HB.out)⟩
        · rw [if_neg c14] at H
          have c14b0 : ((wrap64 (a1 + 2)) == (a0.size : Int)) = false := beq_eq_false_iff_ne.mpr c14
          have c14b1 : ((wrap64 (a1 + 2)) != (a0.size : Int)) = true := bne_iff_ne.mpr c14
          obtain ⟨ji18, hji18⟩ : ∃ j_ : Int, (wrap64 (a1 + 2)) = j_ := ⟨_, rfl⟩
          replace H : (if 0 ≤ (ji18) then (if (ji18) < (a0.size : Int) then (if (bt a0 (ji18)) = 62 then (some false) else ((sign_Letter.f (bt a0 (ji18))).bind fun t119 => (some (!t119)))) else (none)) else (none)) = some r := by first | (rw [hji18] at H; exact H) | (simp only [hji18] at H ⊢; exact H)
          (try rw [hji18] at c14b0)
          (try rw [hji18] at c14b1)
          (try rw [hji18] at A3)
          (try rw [hji18] at A8)
          (try rw [hji18] at A12)
          have hji18w : (IntKind.i64.wrap (a1 + 2)) = ji18 := (i64_w _).trans hji18
          by_cases c19 : 0 ≤ (ji18)
          · rw [if_pos c19] at H
            have c19b0 : decide (0 ≤ (ji18)) = true := decide_eq_true c19
            clear c19
            by_cases c20 : (ji18) < (a0.size : Int)
            · rw [if_pos c20] at H
              have c20b0 : decide ((ji18) < (a0.size : Int)) = true := decide_eq_true c20
              clear c20
              by_cases c22 : (bt a0 (ji18)) = 62
              · rw [if_pos c22] at H
                have c22b0 : ((bt a0 (ji18)) == 62) = true := beq_iff_eq.mpr c22
                have c22b1 : ((bt a0 (ji18)) != 62) = false := bne_eq_false_iff_eq.mpr c22
                clear c22
                obtain rfl := Option.some.inj H
                go_enter Tryz.func64, Tryz.ntmps64
                go_wp2_with (first | ((with_reducible refine gate_callee (f := 53) rfl ?_); refine goesL_ (some 9) rfl rfl Tryz.func53 (by kernel_rfl) rfl #[.string a0, .int .i64 a1, .string (⟨#[60, 33]⟩ : ByteArray)] rfl (by (try simp only [List.map_toArray, List.map_cons, List.map_nil]); first | done | rfl | (simp only [List.length_drop, List.length_take]; rfl)) ?_; (with_reducible refine (sign_Begins.calls a0 a1 (⟨#[60, 33]⟩ : ByteArray) false _ A3.out).mono ?_); rintro e w23 ⟨rfl, hb⟩; refine ⟨_, rfl, ?_⟩; have n0_ := Aside0.mk (below_step (by repeat (first | (with_reducible first | exact HB.out | apply below_alloc | apply pw_below_drewN | apply below_drew1) | exact HB.out)) hb); clear HB; have HB := n0_; clear n0_; (try clear hb); (try clear hb2); (try clear hk); (try clear hi)) | ((with_reducible refine gate_callee (f := 53) rfl ?_); refine goesL_ (some 17) rfl rfl Tryz.func53 (by kernel_rfl) rfl #[.string a0, .int .i64 a1, .string (⟨#[60, 63]⟩ : ByteArray)] rfl (by (try simp only [List.map_toArray, List.map_cons, List.map_nil]); first | done | rfl | (simp only [List.length_drop, List.length_take]; rfl)) ?_; (with_reducible refine (sign_Begins.calls a0 a1 (⟨#[60, 63]⟩ : ByteArray) false _ A8.out).mono ?_); rintro e w24 ⟨rfl, hb⟩; refine ⟨_, rfl, ?_⟩; have n0_ := Aside0.mk (below_step (by repeat (first | (with_reducible first | exact HB.out | apply below_alloc | apply pw_below_drewN | apply below_drew1) | exact HB.out)) hb); clear HB; have HB := n0_; clear n0_; (try clear hb); (try clear hb2); (try clear hk); (try clear hi)) | ((with_reducible refine gate_callee (f := 53) rfl ?_); refine goesL_ (some 21) rfl rfl Tryz.func53 (by kernel_rfl) rfl #[.string a0, .int .i64 a1, .string (⟨#[60, 47]⟩ : ByteArray)] rfl (by (try simp only [List.map_toArray, List.map_cons, List.map_nil]); first | done | rfl | (simp only [List.length_drop, List.length_take]; rfl)) ?_; (with_reducible refine (sign_Begins.calls a0 a1 (⟨#[60, 47]⟩ : ByteArray) true _ A12.out).mono ?_); rintro e w25 ⟨rfl, hb⟩; refine ⟨_, rfl, ?_⟩; have n0_ := Aside0.mk (below_step (by repeat (first | (with_reducible first | exact HB.out | apply below_alloc | apply pw_below_drewN | apply below_drew1) | exact HB.out)) hb); clear HB; have HB := n0_; clear n0_; (try clear hb); (try clear hb2); (try clear hk); (try clear hi); have p21 : 0 ≤ ((ji18) : Int) := of_decide_eq_true (by first | (with_reducible assumption) | assumption); have q21 : (ji18) < (a0.size : Int) := of_decide_eq_true (by first | (with_reducible assumption) | assumption); have hx21 := bt_at a0 (ji18); replace p21 := eq_true p21; replace q21 := eq_true q21))
                go_ret
                exact ⟨by first | rfl | (simp [errW_none, errW_some] <;> rfl) | (simp only [← hji18]; first | rfl | (simp [errW_none, errW_some] <;> rfl)) | (simp [*, errW_none, errW_some] <;> rfl), by repeat (first | (with_reducible first | exact HB.out | apply below_alloc | apply pw_below_drewN | apply below_drew1) | exact HB.out)⟩
              · rw [if_neg c22] at H
                have c22b0 : ((bt a0 (ji18)) == 62) = false := beq_eq_false_iff_ne.mpr c22
                have c22b1 : ((bt a0 (ji18)) != 62) = true := bne_iff_ne.mpr c22
                replace H := Option.bind_eq_some_iff.mp H
                obtain ⟨t119, A260, H⟩ := H
                replace H : (some (!t119)) = some r := H
                have A26 := Aside0.mk A260
                clear A260
                obtain rfl := Option.some.inj H
                go_enter Tryz.func64, Tryz.ntmps64
                go_wp2_with (first | ((with_reducible refine gate_callee (f := 53) rfl ?_); refine goesL_ (some 9) rfl rfl Tryz.func53 (by kernel_rfl) rfl #[.string a0, .int .i64 a1, .string (⟨#[60, 33]⟩ : ByteArray)] rfl (by (try simp only [List.map_toArray, List.map_cons, List.map_nil]); first | done | rfl | (simp only [List.length_drop, List.length_take]; rfl)) ?_; (with_reducible refine (sign_Begins.calls a0 a1 (⟨#[60, 33]⟩ : ByteArray) false _ A3.out).mono ?_); rintro e w27 ⟨rfl, hb⟩; refine ⟨_, rfl, ?_⟩; have n0_ := Aside0.mk (below_step (by repeat (first | (with_reducible first | exact HB.out | apply below_alloc | apply pw_below_drewN | apply below_drew1) | exact HB.out)) hb); clear HB; have HB := n0_; clear n0_; (try clear hb); (try clear hb2); (try clear hk); (try clear hi)) | ((with_reducible refine gate_callee (f := 53) rfl ?_); refine goesL_ (some 17) rfl rfl Tryz.func53 (by kernel_rfl) rfl #[.string a0, .int .i64 a1, .string (⟨#[60, 63]⟩ : ByteArray)] rfl (by (try simp only [List.map_toArray, List.map_cons, List.map_nil]); first | done | rfl | (simp only [List.length_drop, List.length_take]; rfl)) ?_; (with_reducible refine (sign_Begins.calls a0 a1 (⟨#[60, 63]⟩ : ByteArray) false _ A8.out).mono ?_); rintro e w28 ⟨rfl, hb⟩; refine ⟨_, rfl, ?_⟩; have n0_ := Aside0.mk (below_step (by repeat (first | (with_reducible first | exact HB.out | apply below_alloc | apply pw_below_drewN | apply below_drew1) | exact HB.out)) hb); clear HB; have HB := n0_; clear n0_; (try clear hb); (try clear hb2); (try clear hk); (try clear hi)) | ((with_reducible refine gate_callee (f := 53) rfl ?_); refine goesL_ (some 21) rfl rfl Tryz.func53 (by kernel_rfl) rfl #[.string a0, .int .i64 a1, .string (⟨#[60, 47]⟩ : ByteArray)] rfl (by (try simp only [List.map_toArray, List.map_cons, List.map_nil]); first | done | rfl | (simp only [List.length_drop, List.length_take]; rfl)) ?_; (with_reducible refine (sign_Begins.calls a0 a1 (⟨#[60, 47]⟩ : ByteArray) true _ A12.out).mono ?_); rintro e w29 ⟨rfl, hb⟩; refine ⟨_, rfl, ?_⟩; have n0_ := Aside0.mk (below_step (by repeat (first | (with_reducible first | exact HB.out | apply below_alloc | apply pw_below_drewN | apply below_drew1) | exact HB.out)) hb); clear HB; have HB := n0_; clear n0_; (try clear hb); (try clear hb2); (try clear hk); (try clear hi); have p21 : 0 ≤ ((ji18) : Int) := of_decide_eq_true (by first | (with_reducible assumption) | assumption); have q21 : (ji18) < (a0.size : Int) := of_decide_eq_true (by first | (with_reducible assumption) | assumption); have hx21 := bt_at a0 (ji18); replace p21 := eq_true p21; replace q21 := eq_true q21) | (go_at_call 102; (with_reducible refine (sign_Letter.calls (bt a0 (ji18)) t119 _ A26.out).mono ?_); rintro e w' ⟨rfl, ⟨nd, rfl⟩⟩))
                go_ret
                exact ⟨by first | rfl | (simp [errW_none, errW_some] <;> rfl) | (simp only [← hji18]; first | rfl | (simp [errW_none, errW_some] <;> rfl)) | (simp [*, errW_none, errW_some] <;> rfl), by repeat (first | (with_reducible first | exact HB.out | apply below_alloc | apply pw_below_drewN | apply below_drew1) | exact HB.out)⟩
            · rw [if_neg c20] at H
              exact absurd H (by simp)
          · rw [if_neg c19] at H
            exact absurd H (by simp)
      · replace c13 := Bool.eq_false_iff.mpr c13
        subst c13
        have H1 : (some false) = some r := by rw [if_neg (show ¬ (false = true) by decide)] at H; exact H
        clear H
        have H := H1
        clear H1
        obtain rfl := Option.some.inj H
        go_enter Tryz.func64, Tryz.ntmps64
        go_wp2_with (first | ((with_reducible refine gate_callee (f := 53) rfl ?_); refine goesL_ (some 9) rfl rfl Tryz.func53 (by kernel_rfl) rfl #[.string a0, .int .i64 a1, .string (⟨#[60, 33]⟩ : ByteArray)] rfl (by (try simp only [List.map_toArray, List.map_cons, List.map_nil]); first | done | rfl | (simp only [List.length_drop, List.length_take]; rfl)) ?_; (with_reducible refine (sign_Begins.calls a0 a1 (⟨#[60, 33]⟩ : ByteArray) false _ A3.out).mono ?_); rintro e w30 ⟨rfl, hb⟩; refine ⟨_, rfl, ?_⟩; have n0_ := Aside0.mk (below_step (by repeat (first | (with_reducible first | exact HB.out | apply below_alloc | apply pw_below_drewN | apply below_drew1) | exact HB.out)) hb); clear HB; have HB := n0_; clear n0_; (try clear hb); (try clear hb2); (try clear hk); (try clear hi)) | ((with_reducible refine gate_callee (f := 53) rfl ?_); refine goesL_ (some 17) rfl rfl Tryz.func53 (by kernel_rfl) rfl #[.string a0, .int .i64 a1, .string (⟨#[60, 63]⟩ : ByteArray)] rfl (by (try simp only [List.map_toArray, List.map_cons, List.map_nil]); first | done | rfl | (simp only [List.length_drop, List.length_take]; rfl)) ?_; (with_reducible refine (sign_Begins.calls a0 a1 (⟨#[60, 63]⟩ : ByteArray) false _ A8.out).mono ?_); rintro e w31 ⟨rfl, hb⟩; refine ⟨_, rfl, ?_⟩; have n0_ := Aside0.mk (below_step (by repeat (first | (with_reducible first | exact HB.out | apply below_alloc | apply pw_below_drewN | apply below_drew1) | exact HB.out)) hb); clear HB; have HB := n0_; clear n0_; (try clear hb); (try clear hb2); (try clear hk); (try clear hi)) | ((with_reducible refine gate_callee (f := 53) rfl ?_); refine goesL_ (some 21) rfl rfl Tryz.func53 (by kernel_rfl) rfl #[.string a0, .int .i64 a1, .string (⟨#[60, 47]⟩ : ByteArray)] rfl (by (try simp only [List.map_toArray, List.map_cons, List.map_nil]); first | done | rfl | (simp only [List.length_drop, List.length_take]; rfl)) ?_; (with_reducible refine (sign_Begins.calls a0 a1 (⟨#[60, 47]⟩ : ByteArray) false _ A12.out).mono ?_); rintro e w32 ⟨rfl, hb⟩; refine ⟨_, rfl, ?_⟩; have n0_ := Aside0.mk (below_step (by repeat (first | (with_reducible first | exact HB.out | apply below_alloc | apply pw_below_drewN | apply below_drew1) | exact HB.out)) hb); clear HB; have HB := n0_; clear n0_; (try clear hb); (try clear hb2); (try clear hk); (try clear hi)))
        go_ret
        exact ⟨by first | rfl | (simp [errW_none, errW_some] <;> rfl) | (simp [*, errW_none, errW_some] <;> rfl), by repeat (first | (with_reducible first | exact HB.out | apply below_alloc | apply pw_below_drewN | apply below_drew1) | exact HB.out)⟩
end Go.Proofs.YtbdcghbafopjjaaGreatDoor.Sa
end

section
namespace Go.Proofs.YtbdcghbafopjjaaGreatDoor.Hand
open Go.RowKit Go.Proofs.YtbdcghbafopjjaaGreatDoor.Pb Go.Proofs.YtbdcghbafopjjaaGreatDoor.Pl Go.Proofs.YtbdcghbafopjjaaGreatDoor.Sa Go.Proofs.YtbdcghbafopjjaaGreatDoorW.PrintWords
theorem hex_f (c : UInt8) : sign_Hex.f (c.toNat : Int) = some (hexV c) := by
  have hc := c.toNat_lt
  have ww : wrap64 (c.toNat : Int) = c.toNat := by unfold wrap64; omega
  unfold sign_Hex.f sign_Digit.f sign_within.f hexV
  rw [ww]
  by_cases h1 : 48 ≤ c.toNat ∧ c.toNat ≤ 57
  · rw [if_pos (by omega), if_pos h1]
    simp only [Option.bind_some]
    rw [if_pos (by simp; omega), show wrap64 ((c.toNat : Int) - 48) = (c.toNat : Int) - 48 by unfold wrap64; omega]
  · rw [if_neg h1]
    have hd : ((if (c.toNat : Int) ≥ 48 then some (decide ((c.toNat : Int) ≤ 57)) else some false).bind fun t102 => some t102) = some false := by
      split
      · rw [decide_eq_false (by omega)]; rfl
      · rfl
    rw [hd]
    simp only [Option.bind_some, Bool.false_eq_true, if_false]
    by_cases h2 : 65 ≤ c.toNat ∧ c.toNat ≤ 70
    · rw [if_pos (by omega), if_pos h2, decide_eq_true (by omega)]
      simp only [Option.bind_some, if_true]
      congr 1
      unfold wrap64; omega
    · rw [if_neg h2]
      have hd : (if (c.toNat : Int) ≥ 65 then some (decide ((c.toNat : Int) ≤ 70)) else some false) = some false := by
        split
        · rw [decide_eq_false (by omega)]
        · rfl
      rw [hd]
      simp only [Option.bind_some, Bool.false_eq_true, if_false]
      by_cases h3 : 97 ≤ c.toNat ∧ c.toNat ≤ 102
      · rw [if_pos (by omega), if_pos h3, decide_eq_true (by omega)]
        simp only [Option.bind_some, if_true]
        congr 1
        unfold wrap64; omega
      · rw [if_neg h3]
        have hd : (if (c.toNat : Int) ≥ 97 then some (decide ((c.toNat : Int) ≤ 102)) else some false) = some false := by
          split
          · rw [decide_eq_false (by omega)]
          · rfl
        rw [hd]
        rfl
theorem hex_c (c : UInt8) (w : World) : Calls Tryz.prog 88 #[.int .u8 (c.toNat : Int)] w fun e w' => e = .returned (.int .i64 (hexV c)) ∧ Below w.heap.size w w' :=
  (sign_Hex.calls _ _ w (hex_f c)).mono fun _ _ h => ⟨h.1, h.2.below⟩
set_option maxRecDepth 100000 in
set_option maxHeartbeats 8000000 in
theorem value_at (base : Nat) (six : Bool) (hb : base = if six = true then 16 else 10) (s : List UInt8) (hs : s.length ≤ 1000000) (w : World) :
    Calls Tryz.prog 89 #[.string (B s), .bool six] w fun e w' => e = .returned (.int .i64 (valL base s)) ∧ Below w.heap.size w w' := by
  have hb2 : base = 10 ∨ base = 16 := by rw [hb]; split <;> simp
  have hbw : (if six = true then 4625196817309499392 else 4621819117588971520) = fW base := by rw [hb]; cases six <;> decide
  obtain ⟨a, ha⟩ : ∃ a, B s = a := ⟨_, rfl⟩
  have hz : a.size = s.length := by rw [← ha]; simp
  have hD : a.data.toList = s := by rw [← ha, B_data]
  rw [ha]
  have HZ := Lib.hid hz
  have HS : a.size ≤ 1000000 := by omega
  have HX := Lib.hid hD
  have HB := Lib.hid hb2
  have HH := Lib.hid (fun c W => hex_c c W)
  have hm0 := fW_0
  clear ha hz hD hb2 hs hm0
  obtain ⟨R, hR⟩ : ∃ R, valM (valR base 0 (a.data.toList.drop 0)) = R := ⟨_, rfl⟩
  obtain ⟨E, hE⟩ : ∃ E, valL base s = E := ⟨_, rfl⟩
  have HEmpty : Hid (a.size = 0 → E = -1) := Lib.hid (fun h => by
    rw [← hE]
    obtain rfl := List.eq_nil_of_length_eq_zero (l := s) (by have := HZ.out; omega)
    rfl)
  have HFul : Hid (a.size ≠ 0 → E = R) := Lib.hid (fun h => by
    rw [← hE, ← hR, List.drop_zero, HX.out]
    unfold valL
    rw [if_neg (by rintro rfl; exact h (by rw [HZ.out]; rfl))])
  have HR := Lib.hid hR
  rw [hE]
  clear hR hE HX HZ HB
  have HE : Hid (a.size ≠ 0 → E = R) := HFul
  go_enter Tryz.func89, Tryz.ntmps89
  cases six with
  | true =>
    simp only [if_true] at hb
    subst hb
    clear hbw
    go_wp2_with fail
    go_loopw [6, 12] (fun v i wx => ∃ (k x : Nat), i = .int .i64 (k : Int) ∧ v = .complex .f64 (fW x) (fW k) ∧ k ≤ a.size ∧ x ≤ 1114112 ∧ Below w.heap.size w wx ∧ Hid (valM (valR 16 x (a.data.toList.drop k)) = R) ∧ Hid (k = 0 → x = 0)) (fun _ i _ => a.size - (intOf i).toNat)
    case atStart => exact ⟨0, 0, rfl, by rw [fW_0], Nat.zero_le _, Nat.zero_le _, Below.refl _ _, HR, Lib.hid (fun _ => rfl)⟩
    case round =>
      obtain ⟨k, x, rfl, rfl, hk, hx, hB, hV, hX0⟩ := hrel
      have HW := Lib.hid hB
      clear hB
      by_cases hlt : k < a.size
      · have hd := drop_cons a k hlt
        have hbd := hexV_bound a[k]
        obtain ⟨v, hv⟩ : ∃ v, hexV a[k] = v := ⟨_, rfl⟩
        have F : Hid (∀ W, Calls Tryz.prog 88 #[.int .u8 ((a[k].toNat : Nat) : Int)] W fun e w' => e = .returned (.int .i64 v) ∧ Below W.heap.size W w') := Lib.hid (fun W => by rw [← hv]; exact HH.out a[k] W)
        have hV2 := hV.out
        rw [hd, valR, hv] at hV2
        rw [hv] at hbd
        by_cases hneg : v < 0
        · obtain rfl : v = -1 := by omega
          rw [if_pos (.inl (by omega))] at hV2
          have HR2 := Lib.hid hV2
          have c1 : floatOfInt .f64 (-1) = 13830554455654793216 := fneg
          have c2 : (FloatKind.f64.format.order 13830554455654793216 0 == some Ordering.lt) = true := by decide
          clear hd hv hV2 hV hbd hneg hX0
          go_wp2_with fail
          refine (F.out _).mono ?_
          rintro e w1 ⟨rfl, b1⟩
          have HW2 := Lib.hid (HW.out.trans (b1.mono HW.out.size))
          clear b1 HW
          go_wp2_with fail
          go_ret
          exact ⟨by rw [HE.out (by omega), ← HR2.out]; rfl, HW2.out⟩
        · obtain ⟨d, rfl⟩ : ∃ d : Nat, v = d := ⟨v.toNat, by omega⟩
          have hd15 : d ≤ 15 := by omega
          have c1 : floatOfInt .f64 (d : Int) = fW d := fW_ofInt d (by omega)
          have c2 : (FloatKind.f64.format.order (fW d) 0 == some Ordering.lt) = false := by
            rw [← fW_0, ord_lt (by omega) (by omega)]; exact decide_eq_false (by omega)
          by_cases hbig : 16 ≤ d
          · have c3 : (FloatKind.f64.format.order (fW d) 4625196817309499392 == some Ordering.gt || FloatKind.f64.format.order (fW d) 4625196817309499392 == some Ordering.eq) = true := by
              rw [← fW_16, ord_gt (by omega) (by omega), ord_eq (by omega) (by omega), Bool.or_eq_true, decide_eq_true_eq, decide_eq_true_eq]; omega
            rw [if_pos (.inr (by omega))] at hV2
            have HR2 := Lib.hid hV2
            clear hd hv hV2 hV hbd hneg hbig hd15 hX0
            go_wp2_with fail
            refine (F.out _).mono ?_
            rintro e w1 ⟨rfl, b1⟩
            have HW2 := Lib.hid (HW.out.trans (b1.mono HW.out.size))
            clear b1 HW
            go_wp2_with fail
            go_ret
            exact ⟨by rw [HE.out (by omega), ← HR2.out]; rfl, HW2.out⟩
          · have c3 : (FloatKind.f64.format.order (fW d) 4625196817309499392 == some Ordering.gt || FloatKind.f64.format.order (fW d) 4625196817309499392 == some Ordering.eq) = false := by
              rw [← fW_16, ord_gt (by omega) (by omega), ord_eq (by omega) (by omega), Bool.or_eq_false_iff, decide_eq_false_iff_not, decide_eq_false_iff_not]; omega
            rw [if_neg (by omega), Int.toNat_natCast] at hV2
            have HR2 := Lib.hid hV2
            have c4 : ∀ W, (binOp .mul 103 (.float .f64 (fW x)) (.float .f64 4625196817309499392)).run Tryz.prog W = .ok (.float .f64 (fW (x * 16))) W := fun W => by
              rw [← fW_16]; exact run_float_arith (h := fW_mul _ _ (by omega) (by omega) (by omega)) ..
            have c5 : ∀ W, (binOp .add 103 (.float .f64 (fW (x * 16))) (.float .f64 (fW d))).run Tryz.prog W = .ok (.float .f64 (fW (x * 16 + d))) W := fun W => run_float_arith (h := fW_add _ _ (by omega)) ..
            have c6 : ∀ ts t W, (Builtin.min_ ts t #[.float .f64 (fW (x * 16 + d)), .float .f64 4697535886324137984]).run Tryz.prog W = .ok (.float .f64 (fW (min (x * 16 + d) 1114112))) W := fun ts t W => by
              rw [← fW_beyond]; exact run_min_float ts t _ _ (by omega) (by omega) W
            have c7 : ∀ W, (binOp .add 103 (.float .f64 (fW k)) (.float .f64 4607182418800017408)).run Tryz.prog W = .ok (.float .f64 (fW (k + 1))) W := fun W => by
              rw [← fW_1]; exact run_float_arith (h := fW_add _ _ (by omega)) ..
            clear hd hv hV2 hV hbd hneg hbig hd15 hX0
            go_wp2_with fail
            refine (F.out _).mono ?_
            rintro e w1 ⟨rfl, b1⟩
            have HW2 := Lib.hid (HW.out.trans (b1.mono HW.out.size))
            clear b1 HW
            go_wp2_with fail
            go_roundw
            case rel => exact ⟨k + 1, min (x * 16 + d) 1114112, by go_num, rfl, by omega, Nat.min_le_right _ _, HW2.out, HR2, Lib.hid (fun h => absurd h (by omega))⟩
            case measure => simp [intOf]; omega
      · obtain rfl : k = a.size := by omega
        have hV2 := hV.out
        rw [List.drop_eq_nil_of_le (by rw [Array.length_toList]; show a.size ≤ a.size; omega), valR] at hV2
        by_cases h0 : a.size = 0
        · have c1 : (FloatKind.f64.format.order (fW a.size) 0 == some Ordering.eq) = true := by
            rw [← fW_0, ord_eq (by omega) (by omega)]; exact decide_eq_true h0
          have HE0 := Lib.hid (HEmpty.out h0)
          clear hV2 hV h0 hX0
          go_wp2_with fail
          go_ret
          exact ⟨by rw [HE0.out]; rfl, HW.out⟩
        · have c1 : (FloatKind.f64.format.order (fW a.size) 0 == some Ordering.eq) = false := by
            rw [← fW_0, ord_eq (by omega) (by omega)]; exact decide_eq_false h0
          have c2 : ∀ W, (convert 103 3 (.float .f64 (fW x))).run Tryz.prog W = .ok (.int .i64 (x : Int)) W := fun W =>
            run_convert_float_int W 103 3 .f64 .i64 (fW x) (x : Int) (by rw [Tryz.underlying103]; rfl) Tryz.underlying3 (fW_toInt x (by omega))
          have HR2 := Lib.hid hV2
          have HFull := Lib.hid (HFul.out h0)
          clear hV2 hV h0 hX0
          go_wp2_with fail
          go_ret
          exact ⟨by rw [HFull.out, ← HR2.out]; rfl, HW.out⟩
  | false =>
    simp only [Bool.false_eq_true, if_false] at hb
    subst hb
    clear hbw
    go_wp2_with fail
    go_loopw [6, 12] (fun v i wx => ∃ (k x : Nat), i = .int .i64 (k : Int) ∧ v = .complex .f64 (fW x) (fW k) ∧ k ≤ a.size ∧ x ≤ 1114112 ∧ Below w.heap.size w wx ∧ Hid (valM (valR 10 x (a.data.toList.drop k)) = R) ∧ Hid (k = 0 → x = 0)) (fun _ i _ => a.size - (intOf i).toNat)
    case atStart => exact ⟨0, 0, rfl, by rw [fW_0], Nat.zero_le _, Nat.zero_le _, Below.refl _ _, HR, Lib.hid (fun _ => rfl)⟩
    case round =>
      obtain ⟨k, x, rfl, rfl, hk, hx, hB, hV, hX0⟩ := hrel
      have HW := Lib.hid hB
      clear hB
      by_cases hlt : k < a.size
      · have hd := drop_cons a k hlt
        have hbd := hexV_bound a[k]
        obtain ⟨v, hv⟩ : ∃ v, hexV a[k] = v := ⟨_, rfl⟩
        have F : Hid (∀ W, Calls Tryz.prog 88 #[.int .u8 ((a[k].toNat : Nat) : Int)] W fun e w' => e = .returned (.int .i64 v) ∧ Below W.heap.size W w') := Lib.hid (fun W => by rw [← hv]; exact HH.out a[k] W)
        have hV2 := hV.out
        rw [hd, valR, hv] at hV2
        rw [hv] at hbd
        by_cases hneg : v < 0
        · obtain rfl : v = -1 := by omega
          rw [if_pos (.inl (by omega))] at hV2
          have HR2 := Lib.hid hV2
          have c1 : floatOfInt .f64 (-1) = 13830554455654793216 := fneg
          have c2 : (FloatKind.f64.format.order 13830554455654793216 0 == some Ordering.lt) = true := by decide
          clear hd hv hV2 hV hbd hneg hX0
          go_wp2_with fail
          refine (F.out _).mono ?_
          rintro e w1 ⟨rfl, b1⟩
          have HW2 := Lib.hid (HW.out.trans (b1.mono HW.out.size))
          clear b1 HW
          go_wp2_with fail
          go_ret
          exact ⟨by rw [HE.out (by omega), ← HR2.out]; rfl, HW2.out⟩
        · obtain ⟨d, rfl⟩ : ∃ d : Nat, v = d := ⟨v.toNat, by omega⟩
          have hd15 : d ≤ 15 := by omega
          have c1 : floatOfInt .f64 (d : Int) = fW d := fW_ofInt d (by omega)
          have c2 : (FloatKind.f64.format.order (fW d) 0 == some Ordering.lt) = false := by
            rw [← fW_0, ord_lt (by omega) (by omega)]; exact decide_eq_false (by omega)
          by_cases hbig : 10 ≤ d
          · have c3 : (FloatKind.f64.format.order (fW d) 4621819117588971520 == some Ordering.gt || FloatKind.f64.format.order (fW d) 4621819117588971520 == some Ordering.eq) = true := by
              rw [← fW_10, ord_gt (by omega) (by omega), ord_eq (by omega) (by omega), Bool.or_eq_true, decide_eq_true_eq, decide_eq_true_eq]; omega
            rw [if_pos (.inr (by omega))] at hV2
            have HR2 := Lib.hid hV2
            clear hd hv hV2 hV hbd hneg hbig hd15 hX0
            go_wp2_with fail
            refine (F.out _).mono ?_
            rintro e w1 ⟨rfl, b1⟩
            have HW2 := Lib.hid (HW.out.trans (b1.mono HW.out.size))
            clear b1 HW
            go_wp2_with fail
            go_ret
            exact ⟨by rw [HE.out (by omega), ← HR2.out]; rfl, HW2.out⟩
          · have c3 : (FloatKind.f64.format.order (fW d) 4621819117588971520 == some Ordering.gt || FloatKind.f64.format.order (fW d) 4621819117588971520 == some Ordering.eq) = false := by
              rw [← fW_10, ord_gt (by omega) (by omega), ord_eq (by omega) (by omega), Bool.or_eq_false_iff, decide_eq_false_iff_not, decide_eq_false_iff_not]; omega
            rw [if_neg (by omega), Int.toNat_natCast] at hV2
            have HR2 := Lib.hid hV2
            have c4 : ∀ W, (binOp .mul 103 (.float .f64 (fW x)) (.float .f64 4621819117588971520)).run Tryz.prog W = .ok (.float .f64 (fW (x * 10))) W := fun W => by
              rw [← fW_10]; exact run_float_arith (h := fW_mul _ _ (by omega) (by omega) (by omega)) ..
            have c5 : ∀ W, (binOp .add 103 (.float .f64 (fW (x * 10))) (.float .f64 (fW d))).run Tryz.prog W = .ok (.float .f64 (fW (x * 10 + d))) W := fun W => run_float_arith (h := fW_add _ _ (by omega)) ..
            have c6 : ∀ ts t W, (Builtin.min_ ts t #[.float .f64 (fW (x * 10 + d)), .float .f64 4697535886324137984]).run Tryz.prog W = .ok (.float .f64 (fW (min (x * 10 + d) 1114112))) W := fun ts t W => by
              rw [← fW_beyond]; exact run_min_float ts t _ _ (by omega) (by omega) W
            have c7 : ∀ W, (binOp .add 103 (.float .f64 (fW k)) (.float .f64 4607182418800017408)).run Tryz.prog W = .ok (.float .f64 (fW (k + 1))) W := fun W => by
              rw [← fW_1]; exact run_float_arith (h := fW_add _ _ (by omega)) ..
            clear hd hv hV2 hV hbd hneg hbig hd15 hX0
            go_wp2_with fail
            refine (F.out _).mono ?_
            rintro e w1 ⟨rfl, b1⟩
            have HW2 := Lib.hid (HW.out.trans (b1.mono HW.out.size))
            clear b1 HW
            go_wp2_with fail
            go_roundw
            case rel => exact ⟨k + 1, min (x * 10 + d) 1114112, by go_num, rfl, by omega, Nat.min_le_right _ _, HW2.out, HR2, Lib.hid (fun h => absurd h (by omega))⟩
            case measure => simp [intOf]; omega
      · obtain rfl : k = a.size := by omega
        have hV2 := hV.out
        rw [List.drop_eq_nil_of_le (by rw [Array.length_toList]; show a.size ≤ a.size; omega), valR] at hV2
        by_cases h0 : a.size = 0
        · have c1 : (FloatKind.f64.format.order (fW a.size) 0 == some Ordering.eq) = true := by
            rw [← fW_0, ord_eq (by omega) (by omega)]; exact decide_eq_true h0
          have HE0 := Lib.hid (HEmpty.out h0)
          clear hV2 hV h0 hX0
          go_wp2_with fail
          go_ret
          exact ⟨by rw [HE0.out]; rfl, HW.out⟩
        · have c1 : (FloatKind.f64.format.order (fW a.size) 0 == some Ordering.eq) = false := by
            rw [← fW_0, ord_eq (by omega) (by omega)]; exact decide_eq_false h0
          have c2 : ∀ W, (convert 103 3 (.float .f64 (fW x))).run Tryz.prog W = .ok (.int .i64 (x : Int)) W := fun W =>
            run_convert_float_int W 103 3 .f64 .i64 (fW x) (x : Int) (by rw [Tryz.underlying103]; rfl) Tryz.underlying3 (fW_toInt x (by omega))
          have HR2 := Lib.hid hV2
          have HFull := Lib.hid (HFul.out h0)
          clear hV2 hV h0 hX0
          go_wp2_with fail
          go_ret
          exact ⟨by rw [HFull.out, ← HR2.out]; rfl, HW.out⟩
end Go.Proofs.YtbdcghbafopjjaaGreatDoor.Hand
end

section
namespace Go.Proofs.YtbdcghbafopjjaaGreatDoor.Hand
open Go Go.RowKit Go.Proofs.YtbdcghbafopjjaaGreatDoor.Pl Go.Proofs.YtbdcghbafopjjaaGreatDoor.Pb
structure GlobE (w : World) : Prop where mk :: (out : ∃ ev, w.cell? ⟨3, 0, none⟩ = some ev ∧ (ev = .nilIface ∨ ∃ te pe, ev = .iface te pe))
theorem Glob.toE {w : World} (h : Glob w) : GlobE w := ⟨h.err⟩
theorem GlobE.step {w W : World} (h : GlobE w) (hb : Below w.heap.size w W) : GlobE W := by
  obtain ⟨ev, h1, h2⟩ := h
  exact ⟨ev, (hb.cell (World.block_lt_of_cell? w _ h1)).trans h1, h2⟩
set_option maxRecDepth 100000 in
set_option maxHeartbeats 1000000 in
theorem parse_ok (s : ByteArray) (hx : ∀ c ∈ s.data.toList, isHexU c = true) (h1 : 1 ≤ s.size) (h8 : s.size ≤ 8) (w : World) :
    Calls Tryz.prog 131 #[.string s, .int .i64 16, .int .i64 32] w fun e w' => e = .returned (.tuple #[.int .u64 (hexN 0 s.data.toList : Nat), .nilIface]) ∧ Below w.heap.size w w' := by
  have I := Lib.hid (fun W => iparse_c s hx h1 h8 W)
  obtain ⟨R, hR⟩ : ∃ R, hexN 0 s.data.toList = R := ⟨_, rfl⟩
  rw [hR] at I ⊢
  clear hx h1 h8 hR
  go_enter Tryz.func131, Tryz.ntmps131
  go_wp2_with fail
  refine (I.out _).mono ?_
  rintro e w1 ⟨rfl, hb⟩
  go_wp2_with fail
  go_ret2
  exact ⟨rfl, hb⟩
set_option maxRecDepth 100000 in
set_option maxHeartbeats 1000000 in
theorem parse_empty (w : World) (hG : GlobE w) :
    Calls Tryz.prog 131 #[.string ⟨#[]⟩, .int .i64 16, .int .i64 32] w fun e w' => (∃ t x, e = .returned (.tuple #[.int .u64 0, .iface t x])) ∧ Below w.heap.size w w' := by
  obtain ⟨ev, hv, hev⟩ := hG
  have I := Lib.hid (Tryz.internal_strconv_ParseUint_empty 16 32 w)
  have E := Lib.hid (fun fn => Tryz.strconv_toError_syntax fn ⟨#[]⟩ 16 32 ev w (by decide) hv hev)
  clear hv hev
  go_enter Tryz.func131, Tryz.ntmps131
  go_wp2_with fail
  refine I.out.mono ?_
  rintro e w1 ⟨rfl, rfl⟩
  go_wp2_with fail
  refine (E.out _).mono ?_
  rintro e w2 ⟨N, rfl, _, _, hb⟩
  go_wp2_with fail
  go_ret2
  exact ⟨⟨_, _, rfl⟩, hb⟩
theorem hexN_lt : ∀ (l : List UInt8) (n k : Nat), n < 16 ^ k → hexN n l < 16 ^ (k + l.length) := by
  intro l
  induction l with
  | nil => intro n k h; exact h
  | cons c r ih =>
    intro n k h
    have hb := hexV_bound c
    rw [hexN, List.length_cons, show k + (r.length + 1) = (k + 1) + r.length by omega]
    apply ih
    rw [Nat.pow_succ]; omega
set_option maxRecDepth 100000 in
set_option maxHeartbeats 1000000 in
theorem nnum_ok (s : ByteArray) (hx : ∀ c ∈ s.data.toList, isHexU c = true) (h1 : 1 ≤ s.size) (h8 : s.size ≤ 8) (w : World) :
    Calls Tryz.prog 94 #[.string s] w fun e w' => e = .returned (.float .f64 (fW (hexN 0 s.data.toList))) ∧ Below w.heap.size w w' := by
  have I := Lib.hid (fun W => parse_ok s hx h1 h8 W)
  have hlt : hexN 0 s.data.toList < 2 ^ 53 := by
    have := hexN_lt s.data.toList 0 0 (by decide)
    have h2 : 16 ^ (0 + s.data.toList.length) ≤ 16 ^ 8 := Nat.pow_le_pow_right (by decide) (by rw [Array.length_toList]; show 0 + s.size ≤ 8; omega)
    have h3 : (16 : Nat) ^ 8 ≤ 2 ^ 53 := by decide
    omega
  obtain ⟨R, hR⟩ : ∃ R, hexN 0 s.data.toList = R := ⟨_, rfl⟩
  rw [hR] at I hlt ⊢
  have hf : floatOfInt .f64 (R : Int) = fW R := fW_ofInt R hlt
  clear hx h1 h8 hR hlt
  go_enter Tryz.func94, Tryz.ntmps94
  go_wp2_with fail
  refine (I.out _).mono ?_
  rintro e w1 ⟨rfl, hb⟩
  go_wp2_with fail
  go_ret
  exact ⟨rfl, hb⟩
set_option maxRecDepth 100000 in
set_option maxHeartbeats 1000000 in
theorem nnum_empty (w : World) (hG : GlobE w) :
    Calls Tryz.prog 94 #[.string ⟨#[]⟩] w fun e w' => e = .returned (.float .f64 (fW 0)) ∧ Below w.heap.size w w' := by
  have I := Lib.hid (parse_empty w hG)
  rw [fW_0]
  clear hG
  go_enter Tryz.func94, Tryz.ntmps94
  go_wp2_with fail
  refine I.out.mono ?_
  rintro e w1 ⟨⟨t, x, rfl⟩, hb⟩
  go_wp2_with fail
  go_ret
  exact ⟨rfl, hb⟩
end Go.Proofs.YtbdcghbafopjjaaGreatDoor.Hand
end

section
namespace Go.Proofs.YtbdcghbafopjjaaGreatDoor.Pl
def linesOf : List UInt8 → List UInt8 × List (List UInt8)
  | [] => ([], [])
  | c :: r => if c.toNat = 10 then ([], (linesOf r).1 :: (linesOf r).2) else (c :: (linesOf r).1, (linesOf r).2)
theorem lines_head : ∀ T : List UInt8, lnT T 0 = (linesOf T).1 := by
  intro T
  induction T with
  | nil => rfl
  | cons c r ih =>
    unfold lnT at ih ⊢
    rw [List.drop_zero] at ih ⊢
    rw [List.takeWhile_cons, linesOf]
    by_cases h : c.toNat = 10
    · obtain rfl : c = 10 := UInt8.toNat_inj.1 h
      rfl
    · rw [if_neg h, show (c != 10) = true by rw [bne_iff_ne]; rintro rfl; exact h rfl, if_pos rfl, ih]
theorem lines_mem : ∀ (T : List UInt8) (q : Nat), T[q]? = some 10 → lnT T (q + 1) ∈ (linesOf T).2 := by
  intro T
  induction T with
  | nil => intro q h; cases h
  | cons c r ih =>
    intro q h
    rw [linesOf]
    cases q with
    | zero =>
      obtain rfl : c = 10 := by simpa using h
      rw [if_pos (show (10 : UInt8).toNat = 10 by decide)]
      have : lnT (10 :: r) (0 + 1) = lnT r 0 := rfl
      rw [this, lines_head]
      exact List.mem_cons_self
    | succ q =>
      have hm := ih q (by simpa using h)
      have : lnT (c :: r) (q + 1 + 1) = lnT r (q + 1) := rfl
      rw [this]
      split
      · exact List.mem_cons_of_mem _ hm
      · exact hm
def hexW (w : List UInt8) : Bool := w.all isHexU && (decide (1 ≤ w.length) && decide (w.length ≤ 8))
def restOk (q : List UInt8) : Bool := hexW (q.takeWhile (fun c => c != 32)) && (let b := q.drop ((q.takeWhile (fun c => c != 32)).length + 1); b.isEmpty || hexW b)
def rowOk (l : List UInt8) : Bool := restOk (rsL l) && decide (1 ≤ (kyL l).length)
def linesOk (T : List UInt8) : Bool := rowOk (linesOf T).1 && (linesOf T).2.all rowOk
theorem lines_all {T : List UInt8} (h : linesOk T = true) (p : Nat) (hp : St T p) : rowOk (lnT T p) = true := by
  unfold linesOk at h
  rw [Bool.and_eq_true, List.all_eq_true] at h
  rcases hp with rfl | ⟨q, rfl, hq⟩
  · rw [lines_head]; exact h.1
  · exact h.2 _ (lines_mem T q hq)
theorem hexW_spec {w : List UInt8} (h : hexW w = true) : (∀ c ∈ w, isHexU c = true) ∧ 1 ≤ w.length ∧ w.length ≤ 8 := by
  unfold hexW at h
  rw [Bool.and_eq_true, Bool.and_eq_true, List.all_eq_true, decide_eq_true_eq, decide_eq_true_eq] at h
  exact h
end Go.Proofs.YtbdcghbafopjjaaGreatDoor.Pl
end
