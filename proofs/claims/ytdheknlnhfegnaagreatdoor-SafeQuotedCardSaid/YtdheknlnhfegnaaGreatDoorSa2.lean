-- Written by a program of this session over the kit's printer: not by hand.
import Derived.Test.YtdheknlnhfegnaaGreatDoorSa0
import Derived.Test.YtdheknlnhfegnaaGreatDoorSa1
namespace Go.Proofs.YtdheknlnhfegnaaGreatDoor.Sa
open Go.RowKit Go.Proofs.YtdheknlnhfegnaaGreatDoor.K0 Go.Proofs.YtdheknlnhfegnaaGreatDoor.Hand Go.Proofs.YtdheknlnhfegnaaGreatDoorW.PrintWords Go.Proofs.YtdheknlnhfegnaaGreatDoorW.PrintLast Go.Proofs.YtdheknlnhfegnaaGreatDoorW.PrintMore
attribute [local go_sem] max2_int min2_int max_two min_two max_three min_three max_four min_four   -- for this text's walks alone
set_option linter.unusedVariables false
set_option linter.unusedSimpArgs false

/-! ### comment_Begins: function 62 -/
def comment_Begins.f (a0 : ByteArray) (a1 : Int) : Option (Bool) := (sign_Begins.f a0 a1 (⟨#[60, 33]⟩ : ByteArray)).bind fun t115 => (if t115 = true then ((sign_Begins.f a0 a1 (⟨#[60, 33, 100, 111, 99, 116, 121, 112, 101]⟩ : ByteArray)).bind fun t116 => (some (!t116))) else ((sign_Begins.f a0 a1 (⟨#[60, 63]⟩ : ByteArray)).bind fun t117 => (if t117 = true then (some true) else ((sign_Begins.f a0 a1 (⟨#[60, 47]⟩ : ByteArray)).bind fun t118 => (if t118 = true then (if (wrap64 (a1 + 2)) = (a0.size : Int) then (some false) else (if 0 ≤ (wrap64 (a1 + 2)) then (if (wrap64 (a1 + 2)) < (a0.size : Int) then (if (bt a0 (wrap64 (a1 + 2))) = 62 then (some false) else ((sign_Letter.f (bt a0 (wrap64 (a1 + 2)))).bind fun t119 => (some (!t119)))) else (none)) else (none))) else (some false))))))
set_option maxHeartbeats 8000000 in
set_option maxRecDepth 100000 in
theorem comment_Begins.calls (a0 : ByteArray) (a1 : Int) (r : Bool) (w : World) (h : comment_Begins.f a0 a1 = some r) :
    Calls Tryz.prog 62 #[.string a0, .int .i64 a1] w fun e w' => e = .returned (.bool r) ∧ Below w.heap.size w w' := by
  have HB := Aside0.mk (Below.refl w.heap.size w)
  have H : ((sign_Begins.f a0 a1 (⟨#[60, 33]⟩ : ByteArray)).bind fun t115 => (if t115 = true then ((sign_Begins.f a0 a1 (⟨#[60, 33, 100, 111, 99, 116, 121, 112, 101]⟩ : ByteArray)).bind fun t116 => (some (!t116))) else ((sign_Begins.f a0 a1 (⟨#[60, 63]⟩ : ByteArray)).bind fun t117 => (if t117 = true then (some true) else ((sign_Begins.f a0 a1 (⟨#[60, 47]⟩ : ByteArray)).bind fun t118 => (if t118 = true then (if (wrap64 (a1 + 2)) = (a0.size : Int) then (some false) else (if 0 ≤ (wrap64 (a1 + 2)) then (if (wrap64 (a1 + 2)) < (a0.size : Int) then (if (bt a0 (wrap64 (a1 + 2))) = 62 then (some false) else ((sign_Letter.f (bt a0 (wrap64 (a1 + 2)))).bind fun t119 => (some (!t119)))) else (none)) else (none))) else (some false))))))) = some r := h
  clear h
  replace H := Option.bind_eq_some_iff.mp H
  obtain ⟨t115, A30, H⟩ := H
  replace H : (if t115 = true then ((sign_Begins.f a0 a1 (⟨#[60, 33, 100, 111, 99, 116, 121, 112, 101]⟩ : ByteArray)).bind fun t116 => (some (!t116))) else ((sign_Begins.f a0 a1 (⟨#[60, 63]⟩ : ByteArray)).bind fun t117 => (if t117 = true then (some true) else ((sign_Begins.f a0 a1 (⟨#[60, 47]⟩ : ByteArray)).bind fun t118 => (if t118 = true then (if (wrap64 (a1 + 2)) = (a0.size : Int) then (some false) else (if 0 ≤ (wrap64 (a1 + 2)) then (if (wrap64 (a1 + 2)) < (a0.size : Int) then (if (bt a0 (wrap64 (a1 + 2))) = 62 then (some false) else ((sign_Letter.f (bt a0 (wrap64 (a1 + 2)))).bind fun t119 => (some (!t119)))) else (none)) else (none))) else (some false)))))) = some r := H
  have A3 := Aside0.mk A30
  clear A30
  by_cases c4 : t115 = true
  · subst c4
    have H1 : ((sign_Begins.f a0 a1 (⟨#[60, 33, 100, 111, 99, 116, 121, 112, 101]⟩ : ByteArray)).bind fun t116 => (some (!t116))) = some r := by rw [if_pos rfl] at H; exact H
    clear H
    have H := H1
    clear H1
    replace H := Option.bind_eq_some_iff.mp H
    obtain ⟨t116, A50, H⟩ := H
    replace H : (some (!t116)) = some r := H
    have A5 := Aside0.mk A50
    clear A50
    obtain rfl := Option.some.inj H
    go_enter Tryz.func62, Tryz.ntmps62
    go_wp2_with (first | ((with_reducible refine gate_callee (f := 24) rfl ?_); refine goesL_ (some 9) rfl rfl Tryz.func24 (by kernel_rfl) rfl #[.string a0, .int .i64 a1, .string (⟨#[60, 33]⟩ : ByteArray)] rfl (by (try simp only [List.map_toArray, List.map_cons, List.map_nil]); first | done | rfl | (simp only [List.length_drop, List.length_take]; rfl)) ?_; (with_reducible refine (sign_Begins.calls a0 a1 (⟨#[60, 33]⟩ : ByteArray) true _ A3.out).mono ?_); rintro e w6 ⟨rfl, hb⟩; refine ⟨_, rfl, ?_⟩; have n0_ := Aside0.mk (below_step (by repeat (first | (with_reducible first | exact HB.out | apply below_alloc | apply pw_below_drewN | apply below_drew1) | exact HB.out)) hb); clear HB; have HB := n0_; clear n0_; (try clear hb); (try clear hb2); (try clear hk); (try clear hi)) | ((with_reducible refine gate_callee (f := 24) rfl ?_); refine goesL_ (some 12) rfl rfl Tryz.func24 (by kernel_rfl) rfl #[.string a0, .int .i64 a1, .string (⟨#[60, 33, 100, 111, 99, 116, 121, 112, 101]⟩ : ByteArray)] rfl (by (try simp only [List.map_toArray, List.map_cons, List.map_nil]); first | done | rfl | (simp only [List.length_drop, List.length_take]; rfl)) ?_; (with_reducible refine (sign_Begins.calls a0 a1 (⟨#[60, 33, 100, 111, 99, 116, 121, 112, 101]⟩ : ByteArray) t116 _ A5.out).mono ?_); rintro e w7 ⟨rfl, hb⟩; refine ⟨_, rfl, ?_⟩; have n0_ := Aside0.mk (below_step (by repeat (first | (with_reducible first | exact HB.out | apply below_alloc | apply pw_below_drewN | apply below_drew1) | exact HB.out)) hb); clear HB; have HB := n0_; clear n0_; (try clear hb); (try clear hb2); (try clear hk); (try clear hi)))
    go_ret
    exact ⟨by first | rfl | (simp [errW_none, errW_some] <;> rfl) | (simp [*, errW_none, errW_some] <;> rfl), by repeat (first | (with_reducible first | exact HB.out | apply below_alloc | apply pw_below_drewN | apply below_drew1) | exact HB.out)⟩
  · replace c4 := Bool.eq_false_iff.mpr c4
    subst c4
    have H1 : ((sign_Begins.f a0 a1 (⟨#[60, 63]⟩ : ByteArray)).bind fun t117 => (if t117 = true then (some true) else ((sign_Begins.f a0 a1 (⟨#[60, 47]⟩ : ByteArray)).bind fun t118 => (if t118 = true then (if (wrap64 (a1 + 2)) = (a0.size : Int) then (some false) else (if 0 ≤ (wrap64 (a1 + 2)) then (if (wrap64 (a1 + 2)) < (a0.size : Int) then (if (bt a0 (wrap64 (a1 + 2))) = 62 then (some false) else ((sign_Letter.f (bt a0 (wrap64 (a1 + 2)))).bind fun t119 => (some (!t119)))) else (none)) else (none))) else (some false))))) = some r := by rw [if_neg (show ¬ (false = true) by decide)] at H; exact H
    clear H
    have H := H1
    clear H1
    replace H := Option.bind_eq_some_iff.mp H
    obtain ⟨t117, A80, H⟩ := H
    replace H : (if t117 = true then (some true) else ((sign_Begins.f a0 a1 (⟨#[60, 47]⟩ : ByteArray)).bind fun t118 => (if t118 = true then (if (wrap64 (a1 + 2)) = (a0.size : Int) then (some false) else (if 0 ≤ (wrap64 (a1 + 2)) then (if (wrap64 (a1 + 2)) < (a0.size : Int) then (if (bt a0 (wrap64 (a1 + 2))) = 62 then (some false) else ((sign_Letter.f (bt a0 (wrap64 (a1 + 2)))).bind fun t119 => (some (!t119)))) else (none)) else (none))) else (some false)))) = some r := H
    have A8 := Aside0.mk A80
    clear A80
    by_cases c9 : t117 = true
    · subst c9
      have H1 : (some true) = some r := by rw [if_pos rfl] at H; exact H
      clear H
      have H := H1
      clear H1
      obtain rfl := Option.some.inj H
      go_enter Tryz.func62, Tryz.ntmps62
      go_wp2_with (first | ((with_reducible refine gate_callee (f := 24) rfl ?_); refine goesL_ (some 9) rfl rfl Tryz.func24 (by kernel_rfl) rfl #[.string a0, .int .i64 a1, .string (⟨#[60, 33]⟩ : ByteArray)] rfl (by (try simp only [List.map_toArray, List.map_cons, List.map_nil]); first | done | rfl | (simp only [List.length_drop, List.length_take]; rfl)) ?_; (with_reducible refine (sign_Begins.calls a0 a1 (⟨#[60, 33]⟩ : ByteArray) false _ A3.out).mono ?_); rintro e w10 ⟨rfl, hb⟩; refine ⟨_, rfl, ?_⟩; have n0_ := Aside0.mk (below_step (by repeat (first | (with_reducible first | exact HB.out | apply below_alloc | apply pw_below_drewN | apply below_drew1) | exact HB.out)) hb); clear HB; have HB := n0_; clear n0_; (try clear hb); (try clear hb2); (try clear hk); (try clear hi)) | ((with_reducible refine gate_callee (f := 24) rfl ?_); refine goesL_ (some 17) rfl rfl Tryz.func24 (by kernel_rfl) rfl #[.string a0, .int .i64 a1, .string (⟨#[60, 63]⟩ : ByteArray)] rfl (by (try simp only [List.map_toArray, List.map_cons, List.map_nil]); first | done | rfl | (simp only [List.length_drop, List.length_take]; rfl)) ?_; (with_reducible refine (sign_Begins.calls a0 a1 (⟨#[60, 63]⟩ : ByteArray) true _ A8.out).mono ?_); rintro e w11 ⟨rfl, hb⟩; refine ⟨_, rfl, ?_⟩; have n0_ := Aside0.mk (below_step (by repeat (first | (with_reducible first | exact HB.out | apply below_alloc | apply pw_below_drewN | apply below_drew1) | exact HB.out)) hb); clear HB; have HB := n0_; clear n0_; (try clear hb); (try clear hb2); (try clear hk); (try clear hi)))
      go_ret
      exact ⟨by first | rfl | (simp [errW_none, errW_some] <;> rfl) | (simp [*, errW_none, errW_some] <;> rfl), by repeat (first | (with_reducible first | exact HB.out | apply below_alloc | apply pw_below_drewN | apply below_drew1) | exact HB.out)⟩
    · replace c9 := Bool.eq_false_iff.mpr c9
      subst c9
      have H1 : ((sign_Begins.f a0 a1 (⟨#[60, 47]⟩ : ByteArray)).bind fun t118 => (if t118 = true then (if (wrap64 (a1 + 2)) = (a0.size : Int) then (some false) else (if 0 ≤ (wrap64 (a1 + 2)) then (if (wrap64 (a1 + 2)) < (a0.size : Int) then (if (bt a0 (wrap64 (a1 + 2))) = 62 then (some false) else ((sign_Letter.f (bt a0 (wrap64 (a1 + 2)))).bind fun t119 => (some (!t119)))) else (none)) else (none))) else (some false))) = some r := by rw [if_neg (show ¬ (false = true) by decide)] at H; exact H
      clear H
      have H := H1
      clear H1
      replace H := Option.bind_eq_some_iff.mp H
      obtain ⟨t118, A120, H⟩ := H
      replace H : (if t118 = true then (if (wrap64 (a1 + 2)) = (a0.size : Int) then (some false) else (if 0 ≤ (wrap64 (a1 + 2)) then (if (wrap64 (a1 + 2)) < (a0.size : Int) then (if (bt a0 (wrap64 (a1 + 2))) = 62 then (some false) else ((sign_Letter.f (bt a0 (wrap64 (a1 + 2)))).bind fun t119 => (some (!t119)))) else (none)) else (none))) else (some false)) = some r := H
      have A12 := Aside0.mk A120
      clear A120
      by_cases c13 : t118 = true
      · subst c13
        have H1 : (if (wrap64 (a1 + 2)) = (a0.size : Int) then (some false) else (if 0 ≤ (wrap64 (a1 + 2)) then (if (wrap64 (a1 + 2)) < (a0.size : Int) then (if (bt a0 (wrap64 (a1 + 2))) = 62 then (some false) else ((sign_Letter.f (bt a0 (wrap64 (a1 + 2)))).bind fun t119 => (some (!t119)))) else (none)) else (none))) = some r := by rw [if_pos rfl] at H; exact H
        clear H
        have H := H1
        clear H1
        by_cases c14 : (wrap64 (a1 + 2)) = (a0.size : Int)
        · rw [if_pos c14] at H
          have c14b0 : ((wrap64 (a1 + 2)) == (a0.size : Int)) = true := beq_iff_eq.mpr c14
          have c14b1 : ((wrap64 (a1 + 2)) != (a0.size : Int)) = false := bne_eq_false_iff_eq.mpr c14
          clear c14
          obtain rfl := Option.some.inj H
          go_enter Tryz.func62, Tryz.ntmps62
          go_wp2_with (first | ((with_reducible refine gate_callee (f := 24) rfl ?_); refine goesL_ (some 9) rfl rfl Tryz.func24 (by kernel_rfl) rfl #[.string a0, .int .i64 a1, .string (⟨#[60, 33]⟩ : ByteArray)] rfl (by (try simp only [List.map_toArray, List.map_cons, List.map_nil]); first | done | rfl | (simp only [List.length_drop, List.length_take]; rfl)) ?_; (with_reducible refine (sign_Begins.calls a0 a1 (⟨#[60, 33]⟩ : ByteArray) false _ A3.out).mono ?_); rintro e w15 ⟨rfl, hb⟩; refine ⟨_, rfl, ?_⟩; have n0_ := Aside0.mk (below_step (by repeat (first | (with_reducible first | exact HB.out | apply below_alloc | apply pw_below_drewN | apply below_drew1) | exact HB.out)) hb); clear HB; have HB := n0_; clear n0_; (try clear hb); (try clear hb2); (try clear hk); (try clear hi)) | ((with_reducible refine gate_callee (f := 24) rfl ?_); refine goesL_ (some 17) rfl rfl Tryz.func24 (by kernel_rfl) rfl #[.string a0, .int .i64 a1, .string (⟨#[60, 63]⟩ : ByteArray)] rfl (by (try simp only [List.map_toArray, List.map_cons, List.map_nil]); first | done | rfl | (simp only [List.length_drop, List.length_take]; rfl)) ?_; (with_reducible refine (sign_Begins.calls a0 a1 (⟨#[60, 63]⟩ : ByteArray) false _ A8.out).mono ?_); rintro e w16 ⟨rfl, hb⟩; refine ⟨_, rfl, ?_⟩; have n0_ := Aside0.mk (below_step (by repeat (first | (with_reducible first | exact HB.out | apply below_alloc | apply pw_below_drewN | apply below_drew1) | exact HB.out)) hb); clear HB; have HB := n0_; clear n0_; (try clear hb); (try clear hb2); (try clear hk); (try clear hi)) | ((with_reducible refine gate_callee (f := 24) rfl ?_); refine goesL_ (some 21) rfl rfl Tryz.func24 (by kernel_rfl) rfl #[.string a0, .int .i64 a1, .string (⟨#[60, 47]⟩ : ByteArray)] rfl (by (try simp only [List.map_toArray, List.map_cons, List.map_nil]); first | done | rfl | (simp only [List.length_drop, List.length_take]; rfl)) ?_; (with_reducible refine (sign_Begins.calls a0 a1 (⟨#[60, 47]⟩ : ByteArray) true _ A12.out).mono ?_); rintro e w17 ⟨rfl, hb⟩; refine ⟨_, rfl, ?_⟩; have n0_ := Aside0.mk (below_step (by repeat (first | (with_reducible first | exact HB.out | apply below_alloc | apply pw_below_drewN | apply below_drew1) | exact HB.out)) hb); clear HB; have HB := n0_; clear n0_; (try clear hb); (try clear hb2); (try clear hk); (try clear hi)))
          go_ret
          exact ⟨by first | rfl | (simp [errW_none, errW_some] <;> rfl) | (simp [*, errW_none, errW_some] <;> rfl), by repeat (first | (with_reducible first | exact HB.out | apply below_alloc | apply pw_below_drewN | apply below_drew1) | exact HB.out)⟩
        · rw [if_neg c14] at H
          have c14b0 : ((wrap64 (a1 + 2)) == (a0.size : Int)) = false := beq_eq_false_iff_ne.mpr c14
          have c14b1 : ((wrap64 (a1 + 2)) != (a0.size : Int)) = true := bne_iff_ne.mpr c14
          obtain ⟨ji18, hji18⟩ : ∃ j_ : Int, (wrap64 (a1 + 2)) = j_ := ⟨_, rfl⟩
          replace H : (if 0 ≤ (ji18) then (if (ji18) < (a0.size : Int) then (if (bt a0 (ji18)) = 62 then (some false) else ((sign_Letter.f (bt a0 (ji18))).bind fun t119 => (some (!t119)))) else (none)) else (none)) = some r := by first | (rw [hji18] at H; exact H) | (simp only [hji18] at H ⊢; exact H)
          (try rw [hji18] at c14b0)
          (try rw [hji18] at c14b1)
          (try rw [hji18] at A3)
          (try rw [hji18] at A8)
          (try rw [hji18] at A12)
          have hji18w : (IntKind.i64.wrap (a1 + 2)) = ji18 := (i64_w _).trans hji18
          by_cases c19 : 0 ≤ (ji18)
          · rw [if_pos c19] at H
            have c19b0 : decide (0 ≤ (ji18)) = true := decide_eq_true c19
            clear c19
            by_cases c20 : (ji18) < (a0.size : Int)
            · rw [if_pos c20] at H
              have c20b0 : decide ((ji18) < (a0.size : Int)) = true := decide_eq_true c20
              clear c20
              by_cases c22 : (bt a0 (ji18)) = 62
              · rw [if_pos c22] at H
                have c22b0 : ((bt a0 (ji18)) == 62) = true := beq_iff_eq.mpr c22
                have c22b1 : ((bt a0 (ji18)) != 62) = false := bne_eq_false_iff_eq.mpr c22
                clear c22
                obtain rfl := Option.some.inj H
                go_enter Tryz.func62, Tryz.ntmps62
                go_wp2_with (first | ((with_reducible refine gate_callee (f := 24) rfl ?_); refine goesL_ (some 9) rfl rfl Tryz.func24 (by kernel_rfl) rfl #[.string a0, .int .i64 a1, .string (⟨#[60, 33]⟩ : ByteArray)] rfl (by (try simp only [List.map_toArray, List.map_cons, List.map_nil]); first | done | rfl | (simp only [List.length_drop, List.length_take]; rfl)) ?_; (with_reducible refine (sign_Begins.calls a0 a1 (⟨#[60, 33]⟩ : ByteArray) false _ A3.out).mono ?_); rintro e w23 ⟨rfl, hb⟩; refine ⟨_, rfl, ?_⟩; have n0_ := Aside0.mk (below_step (by repeat (first | (with_reducible first | exact HB.out | apply below_alloc | apply pw_below_drewN | apply below_drew1) | exact HB.out)) hb); clear HB; have HB := n0_; clear n0_; (try clear hb); (try clear hb2); (try clear hk); (try clear hi)) | ((with_reducible refine gate_callee (f := 24) rfl ?_); refine goesL_ (some 17) rfl rfl Tryz.func24 (by kernel_rfl) rfl #[.string a0, .int .i64 a1, .string (⟨#[60, 63]⟩ : ByteArray)] rfl (by (try simp only [List.map_toArray, List.map_cons, List.map_nil]); first | done | rfl | (simp only [List.length_drop, List.length_take]; rfl)) ?_; (with_reducible refine (sign_Begins.calls a0 a1 (⟨#[60, 63]⟩ : ByteArray) false _ A8.out).mono ?_); rintro e w24 ⟨rfl, hb⟩; refine ⟨_, rfl, ?_⟩; have n0_ := Aside0.mk (below_step (by repeat (first | (with_reducible first | exact HB.out | apply below_alloc | apply pw_below_drewN | apply below_drew1) | exact HB.out)) hb); clear HB; have HB := n0_; clear n0_; (try clear hb); (try clear hb2); (try clear hk); (try clear hi)) | ((with_reducible refine gate_callee (f := 24) rfl ?_); refine goesL_ (some 21) rfl rfl Tryz.func24 (by kernel_rfl) rfl #[.string a0, .int .i64 a1, .string (⟨#[60, 47]⟩ : ByteArray)] rfl (by (try simp only [List.map_toArray, List.map_cons, List.map_nil]); first | done | rfl | (simp only [List.length_drop, List.length_take]; rfl)) ?_; (with_reducible refine (sign_Begins.calls a0 a1 (⟨#[60, 47]⟩ : ByteArray) true _ A12.out).mono ?_); rintro e w25 ⟨rfl, hb⟩; refine ⟨_, rfl, ?_⟩; have n0_ := Aside0.mk (below_step (by repeat (first | (with_reducible first | exact HB.out | apply below_alloc | apply pw_below_drewN | apply below_drew1) | exact HB.out)) hb); clear HB; have HB := n0_; clear n0_; (try clear hb); (try clear hb2); (try clear hk); (try clear hi); have p21 : 0 ≤ ((ji18) : Int) := of_decide_eq_true (by first | (with_reducible assumption) | assumption); have q21 : (ji18) < (a0.size : Int) := of_decide_eq_true (by first | (with_reducible assumption) | assumption); have hx21 := bt_at a0 (ji18); replace p21 := eq_true p21; replace q21 := eq_true q21))
                go_ret
                exact ⟨by first | rfl | (simp [errW_none, errW_some] <;> rfl) | (simp only [← hji18]; first | rfl | (simp [errW_none, errW_some] <;> rfl)) | (simp [*, errW_none, errW_some] <;> rfl), by repeat (first | (with_reducible first | exact HB.out | apply below_alloc | apply pw_below_drewN | apply below_drew1) | exact HB.out)⟩
              · rw [if_neg c22] at H
                have c22b0 : ((bt a0 (ji18)) == 62) = false := beq_eq_false_iff_ne.mpr c22
                have c22b1 : ((bt a0 (ji18)) != 62) = true := bne_iff_ne.mpr c22
                replace H := Option.bind_eq_some_iff.mp H
                obtain ⟨t119, A260, H⟩ := H
                replace H : (some (!t119)) = some r := H
                have A26 := Aside0.mk A260
                clear A260
                obtain rfl := Option.some.inj H
                go_enter Tryz.func62, Tryz.ntmps62
                go_wp2_with (first | ((with_reducible refine gate_callee (f := 24) rfl ?_); refine goesL_ (some 9) rfl rfl Tryz.func24 (by kernel_rfl) rfl #[.string a0, .int .i64 a1, .string (⟨#[60, 33]⟩ : ByteArray)] rfl (by (try simp only [List.map_toArray, List.map_cons, List.map_nil]); first | done | rfl | (simp only [List.length_drop, List.length_take]; rfl)) ?_; (with_reducible refine (sign_Begins.calls a0 a1 (⟨#[60, 33]⟩ : ByteArray) false _ A3.out).mono ?_); rintro e w27 ⟨rfl, hb⟩; refine ⟨_, rfl, ?_⟩; have n0_ := Aside0.mk (below_step (by repeat (first | (with_reducible first | exact HB.out | apply below_alloc | apply pw_below_drewN | apply below_drew1) | exact HB.out)) hb); clear HB; have HB := n0_; clear n0_; (try clear hb); (try clear hb2); (try clear hk); (try clear hi)) | ((with_reducible refine gate_callee (f := 24) rfl ?_); refine goesL_ (some 17) rfl rfl Tryz.func24 (by kernel_rfl) rfl #[.string a0, .int .i64 a1, .string (⟨#[60, 63]⟩ : ByteArray)] rfl (by (try simp only [List.map_toArray, List.map_cons, List.map_nil]); first | done | rfl | (simp only [List.length_drop, List.length_take]; rfl)) ?_; (with_reducible refine (sign_Begins.calls a0 a1 (⟨#[60, 63]⟩ : ByteArray) false _ A8.out).mono ?_); rintro e w28 ⟨rfl, hb⟩; refine ⟨_, rfl, ?_⟩; have n0_ := Aside0.mk (below_step (by repeat (first | (with_reducible first | exact HB.out | apply below_alloc | apply pw_below_drewN | apply below_drew1) | exact HB.out)) hb); clear HB; have HB := n0_; clear n0_; (try clear hb); (try clear hb2); (try clear hk); (try clear hi)) | ((with_reducible refine gate_callee (f := 24) rfl ?_); refine goesL_ (some 21) rfl rfl Tryz.func24 (by kernel_rfl) rfl #[.string a0, .int .i64 a1, .string (⟨#[60, 47]⟩ : ByteArray)] rfl (by (try simp only [List.map_toArray, List.map_cons, List.map_nil]); first | done | rfl | (simp only [List.length_drop, List.length_take]; rfl)) ?_; (with_reducible refine (sign_Begins.calls a0 a1 (⟨#[60, 47]⟩ : ByteArray) true _ A12.out).mono ?_); rintro e w29 ⟨rfl, hb⟩; refine ⟨_, rfl, ?_⟩; have n0_ := Aside0.mk (below_step (by repeat (first | (with_reducible first | exact HB.out | apply below_alloc | apply pw_below_drewN | apply below_drew1) | exact HB.out)) hb); clear HB; have HB := n0_; clear n0_; (try clear hb); (try clear hb2); (try clear hk); (try clear hi); have p21 : 0 ≤ ((ji18) : Int) := of_decide_eq_true (by first | (with_reducible assumption) | assumption); have q21 : (ji18) < (a0.size : Int) := of_decide_eq_true (by first | (with_reducible assumption) | assumption); have hx21 := bt_at a0 (ji18); replace p21 := eq_true p21; replace q21 := eq_true q21) | (go_at_call 89; (with_reducible refine (sign_Letter.calls (bt a0 (ji18)) t119 _ A26.out).mono ?_); rintro e w' ⟨rfl, ⟨nd, rfl⟩⟩))
                go_ret
                exact ⟨by first | rfl | (simp [errW_none, errW_some] <;> rfl) | (simp only [← hji18]; first | rfl | (simp [errW_none, errW_some] <;> rfl)) | (simp [*, errW_none, errW_some] <;> rfl), by repeat (first | (with_reducible first | exact HB.out | apply below_alloc | apply pw_below_drewN | apply below_drew1) | exact HB.out)⟩
            · rw [if_neg c20] at H
              exact absurd H (by simp)
          · rw [if_neg c19] at H
            exact absurd H (by simp)
      · replace c13 := Bool.eq_false_iff.mpr c13
        subst c13
        have H1 : (some false) = some r := by rw [if_neg (show ¬ (false = true) by decide)] at H; exact H
        clear H
        have H := H1
        clear H1
        obtain rfl := Option.some.inj H
        go_enter Tryz.func62, Tryz.ntmps62
        go_wp2_with (first | ((with_reducible refine gate_callee (f := 24) rfl ?_); refine goesL_ (some 9) rfl rfl Tryz.func24 (by kernel_rfl) rfl #[.string a0, .int .i64 a1, .string (⟨#[60, 33]⟩ : ByteArray)] rfl (by (try simp only [List.map_toArray, List.map_cons, List.map_nil]); first | done | rfl | (simp only [List.length_drop, List.length_take]; rfl)) ?_; (with_reducible refine (sign_Begins.calls a0 a1 (⟨#[60, 33]⟩ : ByteArray) false _ A3.out).mono ?_); rintro e w30 ⟨rfl, hb⟩; refine ⟨_, rfl, ?_⟩; have n0_ := Aside0.mk (below_step (by repeat (first | (with_reducible first | exact HB.out | apply below_alloc | apply pw_below_drewN | apply below_drew1) | exact HB.out)) hb); clear HB; have HB := n0_; clear n0_; (try clear hb); (try clear hb2); (try clear hk); (try clear hi)) | ((with_reducible refine gate_callee (f := 24) rfl ?_); refine goesL_ (some 17) rfl rfl Tryz.func24 (by kernel_rfl) rfl #[.string a0, .int .i64 a1, .string (⟨#[60, 63]⟩ : ByteArray)] rfl (by (try simp only [List.map_toArray, List.map_cons, List.map_nil]); first | done | rfl | (simp only [List.length_drop, List.length_take]; rfl)) ?_; (with_reducible refine (sign_Begins.calls a0 a1 (⟨#[60, 63]⟩ : ByteArray) false _ A8.out).mono ?_); rintro e w31 ⟨rfl, hb⟩; refine ⟨_, rfl, ?_⟩; have n0_ := Aside0.mk (below_step (by repeat (first | (with_reducible first | exact HB.out | apply below_alloc | apply pw_below_drewN | apply below_drew1) | exact HB.out)) hb); clear HB; have HB := n0_; clear n0_; (try clear hb); (try clear hb2); (try clear hk); (try clear hi)) | ((with_reducible refine gate_callee (f := 24) rfl ?_); refine goesL_ (some 21) rfl rfl Tryz.func24 (by kernel_rfl) rfl #[.string a0, .int .i64 a1, .string (⟨#[60, 47]⟩ : ByteArray)] rfl (by (try simp only [List.map_toArray, List.map_cons, List.map_nil]); first | done | rfl | (simp only [List.length_drop, List.length_take]; rfl)) ?_; (with_reducible refine (sign_Begins.calls a0 a1 (⟨#[60, 47]⟩ : ByteArray) false _ A12.out).mono ?_); rintro e w32 ⟨rfl, hb⟩; refine ⟨_, rfl, ?_⟩; have n0_ := Aside0.mk (below_step (by repeat (first | (with_reducible first | exact HB.out | apply below_alloc | apply pw_below_drewN | apply below_drew1) | exact HB.out)) hb); clear HB; have HB := n0_; clear n0_; (try clear hb); (try clear hb2); (try clear hk); (try clear hi)))
        go_ret
        exact ⟨by first | rfl | (simp [errW_none, errW_some] <;> rfl) | (simp [*, errW_none, errW_some] <;> rfl), by repeat (first | (with_reducible first | exact HB.out | apply below_alloc | apply pw_below_drewN | apply below_drew1) | exact HB.out)⟩

/-! ### tag_place_letter: function 111 -/
def tag_place_letter.f (a0_0 : ByteArray) (a0_1 : Int) (a1 : Int) : Option (Bool) := if (wrap64 (a0_1 + a1)) < (a0_0.size : Int) then (if 0 ≤ (wrap64 (a0_1 + a1)) then ((sign_Letter.f (bt a0_0 (wrap64 (a0_1 + a1)))).bind fun t121 => (some t121)) else (none)) else (some false)
set_option maxHeartbeats 8000000 in
set_option maxRecDepth 100000 in
theorem tag_place_letter.calls (a0_0 : ByteArray) (a0_1 : Int) (a1 : Int) (r : Bool) (w : World) (h : tag_place_letter.f a0_0 a0_1 a1 = some r) :
    Calls Tryz.prog 111 #[.agg #[.string a0_0, .int .i64 a0_1], .int .i64 a1] w fun e w' => e = .returned (.bool r) ∧ Below w.heap.size w w' := by
  have hu110 := Tryz.underlying110
  have HB := Aside0.mk (Below.refl w.heap.size w)
  have H : (if (wrap64 (a0_1 + a1)) < (a0_0.size : Int) then (if 0 ≤ (wrap64 (a0_1 + a1)) then ((sign_Letter.f (bt a0_0 (wrap64 (a0_1 + a1)))).bind fun t121 => (some t121)) else (none)) else (some false)) = some r := h
  clear h
  by_cases c3 : (wrap64 (a0_1 + a1)) < (a0_0.size : Int)
  · rw [if_pos c3] at H
    have c3b0 : decide ((wrap64 (a0_1 + a1)) < (a0_0.size : Int)) = true := decide_eq_true c3
    clear c3
    obtain ⟨ji4, hji4⟩ : ∃ j_ : Int, (wrap64 (a0_1 + a1)) = j_ := ⟨_, rfl⟩
    replace H : (if 0 ≤ (ji4) then ((sign_Letter.f (bt a0_0 (ji4))).bind fun t121 => (some t121)) else (none)) = some r := by first | (rw [hji4] at H; exact H) | (simp only [hji4] at H ⊢; exact H)
    (try rw [hji4] at c3b0)
    have hji4w : (IntKind.i64.wrap (a0_1 + a1)) = ji4 := (i64_w _).trans hji4
    by_cases c5 : 0 ≤ (ji4)
    · rw [if_pos c5] at H
      have c5b0 : decide (0 ≤ (ji4)) = true := decide_eq_true c5
      clear c5
      replace H := Option.bind_eq_some_iff.mp H
      obtain ⟨t121, A70, H⟩ := H
      replace H : (some t121) = some r := H
      have A7 := Aside0.mk A70
      clear A70
      obtain rfl := Option.some.inj H
      go_enter Tryz.func111, Tryz.ntmps111
      go_wp2_with (first | ((with_reducible refine gate_dst (N := 2) rfl ?_); refine box_event ?hg (N := 2) ?hd (cs := #[.string a0_0, .int .i64 a0_1]) (t := 110) ?hr ?_; (case hd => rfl); (case hg => rfl); (case hr => first | (go_simp; done) | (go_simp; rfl)); intro gb120 hg w8 hbox hb; have n0_ := Aside0.mk (below_step (by repeat (first | (with_reducible first | exact HB.out | apply below_alloc | apply pw_below_drewN | apply below_drew1) | exact HB.out)) hb); have n1_ := Aside0.mk (hbox); have n2_ := Aside0.mk ((by rw [hg]; exact (below_size (by repeat (first | (with_reducible first | exact HB.out | apply below_alloc | apply pw_below_drewN | apply below_drew1) | exact HB.out))) : w.heap.size ≤ gb120)); have n3_ := Aside0.mk ((by rw [hg]; exact (below_size (by repeat (first | (with_reducible first | exact HB.out | apply below_alloc | apply pw_below_drewN | apply below_drew1) | exact HB.out))) : w.heap.size ≤ gb120)); clear HB; have HB := n0_; have BK120 := n1_; have GW120 := n2_; have GE120 := n3_; clear n0_ n1_ n2_ n3_; clear hb hbox hg; have hcz9_0 : w8.cell? ⟨gb120, 0, none⟩ = some (.string a0_0) := (blk_cell BK120.out 0).trans rfl; have hcz9_1 : w8.cell? ⟨gb120, 1, none⟩ = some (.int .i64 a0_1) := (blk_cell BK120.out 1).trans rfl; have hfz9_0 := blk_frozen BK120.out 0; have hfz9_1 := blk_frozen BK120.out 1; have p6 : 0 ≤ ((ji4) : Int) := of_decide_eq_true (by first | (with_reducible assumption) | assumption); have q6 : (ji4) < (a0_0.size : Int) := of_decide_eq_true (by first | (with_reducible assumption) | assumption); have hx6 := bt_at a0_0 (ji4); replace p6 := eq_true p6; replace q6 := eq_true q6) | (go_at_call 89; (with_reducible refine (sign_Letter.calls (bt a0_0 (ji4)) t121 _ A7.out).mono ?_); rintro e w' ⟨rfl, ⟨nd, rfl⟩⟩))
      go_ret
      exact ⟨by first | rfl | (simp [errW_none, errW_some] <;> rfl) | (simp only [← hji4]; first | rfl | (simp [errW_none, errW_some] <;> rfl)) | (simp [*, errW_none, errW_some] <;> rfl), by repeat (first | (with_reducible first | exact HB.out | apply below_alloc | apply pw_below_drewN | apply below_drew1 | refine below_set ?_ GE120.out) | exact HB.out)⟩
    · rw [if_neg c5] at H
      exact absurd H (by simp)
  · rw [if_neg c3] at H
    have c3b0 : decide ((wrap64 (a0_1 + a1)) < (a0_0.size : Int)) = false := decide_eq_false c3
    clear c3
    obtain rfl := Option.some.inj H
    go_enter Tryz.func111, Tryz.ntmps111
    go_wp2_with (first | ((with_reducible refine gate_dst (N := 2) rfl ?_); refine box_event ?hg (N := 2) ?hd (cs := #[.string a0_0, .int .i64 a0_1]) (t := 110) ?hr ?_; (case hd => rfl); (case hg => rfl); (case hr => first | (go_simp; done) | (go_simp; rfl)); intro gb120 hg w10 hbox hb; have n0_ := Aside0.mk (below_step (by repeat (first | (with_reducible first | exact HB.out | apply below_alloc | apply pw_below_drewN | apply below_drew1) | exact HB.out)) hb); have n1_ := Aside0.mk (hbox); have n2_ := Aside0.mk ((by rw [hg]; exact (below_size (by repeat (first | (with_reducible first | exact HB.out | apply below_alloc | apply pw_below_drewN | apply below_drew1) | exact HB.out))) : w.heap.size ≤ gb120)); have n3_ := Aside0.mk ((by rw [hg]; exact (below_size (by repeat (first | (with_reducible first | exact HB.out | apply below_alloc | apply pw_below_drewN | apply below_drew1) | exact HB.out))) : w.heap.size ≤ gb120)); clear HB; have HB := n0_; have BK120 := n1_; have GW120 := n2_; have GE120 := n3_; clear n0_ n1_ n2_ n3_; clear hb hbox hg; have hcz11_0 : w10.cell? ⟨gb120, 0, none⟩ = some (.string a0_0) := (blk_cell BK120.out 0).trans rfl; have hcz11_1 : w10.cell? ⟨gb120, 1, none⟩ = some (.int .i64 a0_1) := (blk_cell BK120.out 1).trans rfl; have hfz11_0 := blk_frozen BK120.out 0; have hfz11_1 := blk_frozen BK120.out 1))
    go_ret
    exact ⟨by first | rfl | (simp [errW_none, errW_some] <;> rfl) | (simp [*, errW_none, errW_some] <;> rfl), by repeat (first | (with_reducible first | exact HB.out | apply below_alloc | apply pw_below_drewN | apply below_drew1 | refine below_set ?_ GE120.out) | exact HB.out)⟩

end Go.Proofs.YtdheknlnhfegnaaGreatDoor.Sa
