-- Written by a program of this session over the kit's printer: not by hand.
import Derived.Test.YtppaobgccdlccaaDoorLs0
namespace Go.Proofs.YtppaobgccdlccaaDoor.Ls
open Go.RowKit Go.Proofs.YtppaobgccdlccaaDoor.K0 Go.Proofs.YtppaobgccdlccaaDoor.Hand Go.Proofs.YtppaobgccdlccaaDoor.Sa Go.Proofs.YtppaobgccdlccaaDoor.Sr Go.Proofs.YtppaobgccdlccaaDoorW.PrintWords Go.Proofs.YtppaobgccdlccaaDoorW.PrintLast Go.Proofs.YtppaobgccdlccaaDoorW.PrintMore
attribute [local go_sem] max2_int min2_int max_two min_two max_three min_three max_four min_four   -- for this text's walks alone
set_option linter.unusedVariables false
set_option linter.unusedSimpArgs false

/-! ### script_Text: function 34 -/
def script_Text.f (a0 : ByteArray) : Option (ByteArray) := (lines_Clean.f a0).bind fun t101 => (some t101)
set_option maxHeartbeats 8000000 in
set_option maxRecDepth 100000 in
theorem script_Text.calls (a0 : ByteArray) (r : ByteArray) (w : World) (hGl : Glob w) (h : script_Text.f a0 = some r) :
    Calls Tryd.prog 34 #[.string a0] w fun e w' => e = .returned (.string r) ∧ Below w.heap.size w w' := by
  have HB := Aside0.mk (Below.refl w.heap.size w)
  have H : ((lines_Clean.f a0).bind fun t101 => (some t101)) = some r := h
  clear h
  replace H := Option.bind_eq_some_iff.mp H
  obtain ⟨t101, A20, H⟩ := H
  replace H : (some t101) = some r := H
  have A2 := Aside0.mk A20
  clear A20
  obtain rfl := Option.some.inj H
  go_enter Tryd.func34, Tryd.ntmps34
  go_wp2_with (first | ((with_reducible refine gate_callee (f := 29) rfl ?_); refine goesL_ (some 4) rfl rfl Tryd.func29 (by kernel_rfl) rfl #[.string a0] rfl (by (try simp only [List.map_toArray, List.map_cons, List.map_nil]); first | done | rfl | (simp only [List.length_drop, List.length_take]; rfl)) ?_; (with_reducible refine (lines_Clean.calls a0 t101 _ ?side1 A2.out).mono ?_); (case side1 => exact Glob.step hGl (by repeat (first | (with_reducible first | exact HB.out | apply below_alloc | apply pw_below_drewN | apply below_drew1) | exact HB.out))); rintro e w3 ⟨rfl, hb⟩; refine ⟨_, rfl, ?_⟩; have n0_ := Aside0.mk (below_step (by repeat (first | (with_reducible first | exact HB.out | apply below_alloc | apply pw_below_drewN | apply below_drew1) | exact HB.out)) hb); clear HB; have HB := n0_; clear n0_; (try clear hb); (try clear hb2); (try clear hk); (try clear hi)))
  go_ret
  exact ⟨by first | rfl | (simp [errW_none, errW_some] <;> rfl) | (simp [*, errW_none, errW_some] <;> rfl), by repeat (first | (with_reducible first | exact HB.out | apply below_alloc | apply pw_below_drewN | apply below_drew1) | exact HB.out)⟩

/-! ### flaillaw13_awake: function 31 -/
def flaillaw13_awake.f (k : Nat)  : Option (Bool) := (script_Find.f k (⟨#[97, 60, 47, 115, 99, 114, 105, 112, 116, 62]⟩ : ByteArray) 0).bind fun bt102 => ((script_Find.f k (⟨#[60, 33, 45, 45, 60, 115, 99, 114, 105, 112, 116, 62, 60, 47, 115, 99, 114, 105, 112, 116, 62, 45, 45, 62, 60, 47, 115, 99, 114, 105, 112, 116, 62]⟩ : ByteArray) 0).bind fun bt104 => (if bt102.1 = 1 then (if bt102.2 = 0 then (if bt104.1 = 24 then (if bt104.2 = 0 then ((script_Text.f (⟨#[97, 0]⟩ : ByteArray)).bind fun t106 => (some (t106.toList == ([97, 239, 191, 189] : List UInt8)))) else (some false)) else (some false)) else (some false)) else (some false)))
theorem flaillaw13_awake.mono : ∀ k, LeO (flaillaw13_awake.f k ) (flaillaw13_awake.f (k + 1) ) := by
  intro  k
  unfold flaillaw13_awake.f
  repeat' first
      | (with_reducible exact script_Find.mono _ _ _)
      | (with_reducible exact LeO.refl _)
      | (with_reducible exact LeO.none _)
      | (with_reducible refine LeO.ite ?_ ?_)
      | (with_reducible refine LeO.bind ?_ (fun _ => ?_))
      | exact script_Find.mono _ _ _
      | exact LeO.none _
      | refine LeO.ite ?_ ?_
      | refine LeO.bind ?_ (fun _ => ?_)
set_option maxHeartbeats 8000000 in
set_option maxRecDepth 100000 in
theorem flaillaw13_awake.calls (k : Nat)  (r : Bool) (w : World) (hGl : Glob w) (h : flaillaw13_awake.f k  = some r) :
    Calls Tryd.prog 31 #[] w fun e w' => e = .returned (.bool r) ∧ Below w.heap.size w w' := by
  have HB := Aside0.mk (Below.refl w.heap.size w)
  have H : ((script_Find.f k (⟨#[97, 60, 47, 115, 99, 114, 105, 112, 116, 62]⟩ : ByteArray) 0).bind fun bt102 => ((script_Find.f k (⟨#[60, 33, 45, 45, 60, 115, 99, 114, 105, 112, 116, 62, 60, 47, 115, 99, 114, 105, 112, 116, 62, 45, 45, 62, 60, 47, 115, 99, 114, 105, 112, 116, 62]⟩ : ByteArray) 0).bind fun bt104 => (if bt102.1 = 1 then (if bt102.2 = 0 then (if bt104.1 = 24 then (if bt104.2 = 0 then ((script_Text.f (⟨#[97, 0]⟩ : ByteArray)).bind fun t106 => (some (t106.toList == ([97, 239, 191, 189] : List UInt8)))) else (some false)) else (some false)) else (some false)) else (some false)))) = some r := h
  clear h
  replace H := Option.bind_eq_some_iff.mp H
  obtain ⟨⟨t102, t103⟩, A10, H⟩ := H
  replace H : ((script_Find.f k (⟨#[60, 33, 45, 45, 60, 115, 99, 114, 105, 112, 116, 62, 60, 47, 115, 99, 114, 105, 112, 116, 62, 45, 45, 62, 60, 47, 115, 99, 114, 105, 112, 116, 62]⟩ : ByteArray) 0).bind fun bt104 => (if t102 = 1 then (if t103 = 0 then (if bt104.1 = 24 then (if bt104.2 = 0 then ((script_Text.f (⟨#[97, 0]⟩ : ByteArray)).bind fun t106 => (some (t106.toList == ([97, 239, 191, 189] : List UInt8)))) else (some false)) else (some false)) else (some false)) else (some false))) = some r := H
  have A1 := Aside0.mk A10
  clear A10
  replace H := Option.bind_eq_some_iff.mp H
  obtain ⟨⟨t104, t105⟩, A20, H⟩ := H
  replace H : (if t102 = 1 then (if t103 = 0 then (if t104 = 24 then (if t105 = 0 then ((script_Text.f (⟨#[97, 0]⟩ : ByteArray)).bind fun t106 => (some (t106.toList == ([97, 239, 191, 189] : List UInt8)))) else (some false)) else (some false)) else (some false)) else (some false)) = some r := H
  have A2 := Aside0.mk A20
  clear A20
  by_cases c3 : t102 = 1
  · rw [if_pos c3] at H
    have c3b0 : (t102 == 1) = true := beq_iff_eq.mpr c3
    have c3b1 : (t102 != 1) = false := bne_eq_false_iff_eq.mpr c3
    clear c3
    by_cases c4 : t103 = 0
    · rw [if_pos c4] at H
      have c4b0 : (t103 == 0) = true := beq_iff_eq.mpr c4
      have c4b1 : (t103 != 0) = false := bne_eq_false_iff_eq.mpr c4
      clear c4
      by_cases c5 : t104 = 24
      · rw [if_pos c5] at H
        have c5b0 : (t104 == 24) = true := beq_iff_eq.mpr c5
        have c5b1 : (t104 != 24) = false := bne_eq_false_iff_eq.mpr c5
        clear c5
        by_cases c6 : t105 = 0
        · rw [if_pos c6] at H
          have c6b0 : (t105 == 0) = true := beq_iff_eq.mpr c6
          have c6b1 : (t105 != 0) = false := bne_eq_false_iff_eq.mpr c6
          clear c6
          replace H := Option.bind_eq_some_iff.mp H
          obtain ⟨t106, A70, H⟩ := H
          replace H : (some (t106.toList == ([97, 239, 191, 189] : List UInt8))) = some r := H
          have A7 := Aside0.mk A70
          clear A70
          obtain rfl := Option.some.inj H
          go_enter Tryd.func31, Tryd.ntmps31
          go_wp2_with (first | ((with_reducible refine gate_callee (f := 32) rfl ?_); refine goesL_ (some 6) rfl rfl Tryd.func32 (by kernel_rfl) rfl #[.string (⟨#[97, 60, 47, 115, 99, 114, 105, 112, 116, 62]⟩ : ByteArray), .int .i64 0] rfl (by (try simp only [List.map_toArray, List.map_cons, List.map_nil]); first | done | rfl | (simp only [List.length_drop, List.length_take]; rfl)) ?_; (with_reducible refine (script_Find.calls k (⟨#[97, 60, 47, 115, 99, 114, 105, 112, 116, 62]⟩ : ByteArray) 0 t102 t103 _ A1.out).mono ?_); rintro e w8 ⟨rfl, hb⟩; refine ⟨_, rfl, ?_⟩; have n0_ := Aside0.mk (below_step (by repeat (first | (with_reducible first | exact HB.out | apply below_alloc | apply pw_below_drewN | apply below_drew1) | exact HB.out)) hb); clear HB; have HB := n0_; clear n0_; (try clear hb); (try clear hb2); (try clear hk); (try clear hi)) | ((with_reducible refine gate_callee (f := 32) rfl ?_); refine goesL_ (some 10) rfl rfl Tryd.func32 (by kernel_rfl) rfl #[.string (⟨#[60, 33, 45, 45, 60, 115, 99, 114, 105, 112, 116, 62, 60, 47, 115, 99, 114, 105, 112, 116, 62, 45, 45, 62, 60, 47, 115, 99, 114, 105, 112, 116, 62]⟩ : ByteArray), .int .i64 0] rfl (by (try simp only [List.map_toArray, List.map_cons, List.map_nil]); first | done | rfl | (simp only [List.length_drop, List.length_take]; rfl)) ?_; (with_reducible refine (script_Find.calls k (⟨#[60, 33, 45, 45, 60, 115, 99, 114, 105, 112, 116, 62, 60, 47, 115, 99, 114, 105, 112, 116, 62, 45, 45, 62, 60, 47, 115, 99, 114, 105, 112, 116, 62]⟩ : ByteArray) 0 t104 t105 _ A2.out).mono ?_); rintro e w9 ⟨rfl, hb⟩; refine ⟨_, rfl, ?_⟩; have n0_ := Aside0.mk (below_step (by repeat (first | (with_reducible first | exact HB.out | apply below_alloc | apply pw_below_drewN | apply below_drew1) | exact HB.out)) hb); clear HB; have HB := n0_; clear n0_; (try clear hb); (try clear hb2); (try clear hk); (try clear hi)) | (go_at_call 34; (with_reducible refine (script_Text.calls (⟨#[97, 0]⟩ : ByteArray) t106 _ ?side1 A7.out).mono ?_); (case side1 => exact Glob.step hGl (by repeat (first | (with_reducible first | exact HB.out | apply below_alloc | apply pw_below_drewN | apply below_drew1) | exact HB.out))); rintro e w10 ⟨rfl, hb⟩; have n0_ := Aside0.mk (below_step (by repeat (first | (with_reducible first | exact HB.out | apply below_alloc | apply pw_below_drewN | apply below_drew1) | exact HB.out)) hb); clear HB; have HB := n0_; clear n0_; (try clear hb); (try clear hb2); (try clear hk); (try clear hi)))
          go_ret
          exact ⟨by first | rfl | (simp [errW_none, errW_some] <;> rfl) | (simp [*, errW_none, errW_some] <;> rfl), by repeat (first | (with_reducible first | exact HB.out | apply below_alloc | apply pw_below_drewN | apply below_drew1) | exact HB.out)⟩
        · rw [if_neg c6] at H
          have c6b0 : (t105 == 0) = false := beq_eq_false_iff_ne.mpr c6
          have c6b1 : (t105 != 0) = true := bne_iff_ne.mpr c6
          obtain rfl := Option.some.inj H
          go_enter Tryd.func31, Tryd.ntmps31
          go_wp2_with (first | ((with_reducible refine gate_callee (f := 32) rfl ?_); refine goesL_ (some 6) rfl rfl Tryd.func32 (by kernel_rfl) rfl #[.string (⟨#[97, 60, 47, 115, 99, 114, 105, 112, 116, 62]⟩ : ByteArray), .int .i64 0] rfl (by (try simp only [List.map_toArray, List.map_cons, List.map_nil]); first | done | rfl | (simp only [List.length_drop, List.length_take]; rfl)) ?_; (with_reducible refine (script_Find.calls k (⟨#[97, 60, 47, 115, 99, 114, 105, 112, 116, 62]⟩ : ByteArray) 0 t102 t103 _ A1.out).mono ?_); rintro e w11 ⟨rfl, hb⟩; refine ⟨_, rfl, ?_⟩; have n0_ := Aside0.mk (below_step (by repeat (first | (with_reducible first | exact HB.out | apply below_alloc | apply pw_below_drewN | apply below_drew1) | exact HB.out)) hb); clear HB; have HB := n0_; clear n0_; (try clear hb); (try clear hb2); (try clear hk); (try clear hi)) | ((with_reducible refine gate_callee (f := 32) rfl ?_); refine goesL_ (some 10) rfl rfl Tryd.func32 (by kernel_rfl) rfl #[.string (⟨#[60, 33, 45, 45, 60, 115, 99, 114, 105, 112, 116, 62, 60, 47, 115, 99, 114, 105, 112, 116, 62, 45, 45, 62, 60, 47, 115, 99, 114, 105, 112, 116, 62]⟩ : ByteArray), .int .i64 0] rfl (by (try simp only [List.map_toArray, List.map_cons, List.map_nil]); first | done | rfl | (simp only [List.length_drop, List.length_take]; rfl)) ?_; (with_reducible refine (script_Find.calls k (⟨#[60, 33, 45, 45, 60, 115, 99, 114, 105, 112, 116, 62, 60, 47, 115, 99, 114, 105, 112, 116, 62, 45, 45, 62, 60, 47, 115, 99, 114, 105, 112, 116, 62]⟩ : ByteArray) 0 t104 t105 _ A2.out).mono ?_); rintro e w12 ⟨rfl, hb⟩; refine ⟨_, rfl, ?_⟩; have n0_ := Aside0.mk (below_step (by repeat (first | (with_reducible first | exact HB.out | apply below_alloc | apply pw_below_drewN | apply below_drew1) | exact HB.out)) hb); clear HB; have HB := n0_; clear n0_; (try clear hb); (try clear hb2); (try clear hk); (try clear hi)))
          go_ret
          exact ⟨by first | rfl | (simp [errW_none, errW_some] <;> rfl) | (simp [*, errW_none, errW_some] <;> rfl), by repeat (first | (with_reducible first | exact HB.out | apply below_alloc | apply pw_below_drewN | apply below_drew1) | exact HB.out)⟩
      · rw [if_neg c5] at H
        have c5b0 : (t104 == 24) = false := beq_eq_false_iff_ne.mpr c5
        have c5b1 : (t104 != 24) = true := bne_iff_ne.mpr c5
        obtain rfl := Option.some.inj H
        go_enter Tryd.func31, Tryd.ntmps31
        go_wp2_with (first | ((with_reducible refine gate_callee (f := 32) rfl ?_); refine goesL_ (some 6) rfl rfl Tryd.func32 (by kernel_rfl) rfl #[.string (⟨#[97, 60, 47, 115, 99, 114, 105, 112, 116, 62]⟩ : ByteArray), .int .i64 0] rfl (by (try simp only [List.map_toArray, List.map_cons, List.map_nil]); first | done | rfl | (simp only [List.length_drop, List.length_take]; rfl)) ?_; (with_reducible refine (script_Find.calls k (⟨#[97, 60, 47, 115, 99, 114, 105, 112, 116, 62]⟩ : ByteArray) 0 t102 t103 _ A1.out).mono ?_); rintro e w13 ⟨rfl, hb⟩; refine ⟨_, rfl, ?_⟩; have n0_ := Aside0.mk (below_step (by repeat (first | (with_reducible first | exact HB.out | apply below_alloc | apply pw_below_drewN | apply below_drew1) | exact HB.out)) hb); clear HB; have HB := n0_; clear n0_; (try clear hb); (try clear hb2); (try clear hk); (try clear hi)) | ((with_reducible refine gate_callee (f := 32) rfl ?_); refine goesL_ (some 10) rfl rfl Tryd.func32 (by kernel_rfl) rfl #[.string (⟨#[60, 33, 45, 45, 60, 115, 99, 114, 105, 112, 116, 62, 60, 47, 115, 99, 114, 105, 112, 116, 62, 45, 45, 62, 60, 47, 115, 99, 114, 105, 112, 116, 62]⟩ : ByteArray), .int .i64 0] rfl (by (try simp only [List.map_toArray, List.map_cons, List.map_nil]); first | done | rfl | (simp only [List.length_drop, List.length_take]; rfl)) ?_; (with_reducible refine (script_Find.calls k (⟨#[60, 33, 45, 45, 60, 115, 99, 114, 105, 112, 116, 62, 60, 47, 115, 99, 114, 105, 112, 116, 62, 45, 45, 62, 60, 47, 115, 99, 114, 105, 112, 116, 62]⟩ : ByteArray) 0 t104 t105 _ A2.out).mono ?_); rintro e w14 ⟨rfl, hb⟩; refine ⟨_, rfl, ?_⟩; have n0_ := Aside0.mk (below_step (by repeat (first | (with_reducible first | exact HB.out | apply below_alloc | apply pw_below_drewN | apply below_drew1) | exact HB.out)) hb); clear HB; have HB := n0_; clear n0_; (try clear hb); (try clear hb2); (try clear hk); (try clear hi)))
        go_ret
        exact ⟨by first | rfl | (simp [errW_none, errW_some] <;> rfl) | (simp [*, errW_none, errW_some] <;> rfl), by repeat (first | (with_reducible first | exact HB.out | apply below_alloc | apply pw_below_drewN | apply below_drew1) | exact HB.out)⟩
    · rw [if_neg c4] at H
      have c4b0 : (t103 == 0) = false := beq_eq_false_iff_ne.mpr c4
      have c4b1 : (t103 != 0) = true := bne_iff_ne.mpr c4
      obtain rfl := Option.some.inj H
      go_enter Tryd.func31, Tryd.ntmps31
      go_wp2_with (first | ((with_reducible refine gate_callee (f := 32) rfl ?_); refine goesL_ (some 6) rfl rfl Tryd.func32 (by kernel_rfl) rfl #[.string (⟨#[97, 60, 47, 115, 99, 114, 105, 112, 116, 62]⟩ : ByteArray), .int .i64 0] rfl (by (try simp only [List.map_toArray, List.map_cons, List.map_nil]); first | done | rfl | (simp only [List.length_drop, List.length_take]; rfl)) ?_; (with_reducible refine (script_Find.calls k (⟨#[97, 60, 47, 115, 99, 114, 105, 112, 116, 62]⟩ : ByteArray) 0 t102 t103 _ A1.out).mono ?_); rintro e w15 ⟨rfl, hb⟩; refine ⟨_, rfl, ?_⟩; have n0_ := Aside0.mk (below_step (by repeat (first | (with_reducible first | exact HB.out | apply below_alloc | apply pw_below_drewN | apply below_drew1) | exact HB.out)) hb); clear HB; have HB := n0_; clear n0_; (try clear hb); (try clear hb2); (try clear hk); (try clear hi)) | ((with_reducible refine gate_callee (f := 32) rfl ?_); refine goesL_ (some 10) rfl rfl Tryd.func32 (by kernel_rfl) rfl #[.string (⟨#[60, 33, 45, 45, 60, 115, 99, 114, 105, 112, 116, 62, 60, 47, 115, 99, 114, 105, 112, 116, 62, 45, 45, 62, 60, 47, 115, 99, 114, 105, 112, 116, 62]⟩ : ByteArray), .int .i64 0] rfl (by (try simp only [List.map_toArray, List.map_cons, List.map_nil]); first | done | rfl | (simp only [List.length_drop, List.length_take]; rfl)) ?_; (with_reducible refine (script_Find.calls k (⟨#[60, 33, 45, 45, 60, 115, 99, 114, 105, 112, 116, 62, 60, 47, 115, 99, 114, 105, 112, 116, 62, 45, 45, 62, 60, 47, 115, 99, 114, 105, 112, 116, 62]⟩ : ByteArray) 0 t104 t105 _ A2.out).mono ?_); rintro e w16 ⟨rfl, hb⟩; refine ⟨_, rfl, ?_⟩; have n0_ := Aside0.mk (below_step (by repeat (first | (with_reducible first | exact HB.out | apply below_alloc | apply pw_below_drewN | apply below_drew1) | exact HB.out)) hb); clear HB; have HB := n0_; clear n0_; (try clear hb); (try clear hb2); (try clear hk); (try clear hi)))
      go_ret
      exact ⟨by first | rfl | (simp [errW_none, errW_some] <;> rfl) | (simp [*, errW_none, errW_some] <;> rfl), by repeat (first | (with_reducible first | exact HB.out | apply below_alloc | apply pw_below_drewN | apply below_drew1) | exact HB.out)⟩
  · rw [if_neg c3] at H
    have c3b0 : (t102 == 1) = false := beq_eq_false_iff_ne.mpr c3
    have c3b1 : (t102 != 1) = true := bne_iff_ne.mpr c3
    obtain rfl := Option.some.inj H
    go_enter Tryd.func31, Tryd.ntmps31
    go_wp2_with (first | ((with_reducible refine gate_callee (f := 32) rfl ?_); refine goesL_ (some 6) rfl rfl Tryd.func32 (by kernel_rfl) rfl #[.string (⟨#[97, 60, 47, 115, 99, 114, 105, 112, 116, 62]⟩ : ByteArray), .int .i64 0] rfl (by (try simp only [List.map_toArray, List.map_cons, List.map_nil]); first | done | rfl | (simp only [List.length_drop, List.length_take]; rfl)) ?_; (with_reducible refine (script_Find.calls k (⟨#[97, 60, 47, 115, 99, 114, 105, 112, 116, 62]⟩ : ByteArray) 0 t102 t103 _ A1.out).mono ?_); rintro e w17 ⟨rfl, hb⟩; refine ⟨_, rfl, ?_⟩; have n0_ := Aside0.mk (below_step (by repeat (first | (with_reducible first | exact HB.out | apply below_alloc | apply pw_below_drewN | apply below_drew1) | exact HB.out)) hb); clear HB; have HB := n0_; clear n0_; (try clear hb); (try clear hb2); (try clear hk); (try clear hi)) | ((with_reducible refine gate_callee (f := 32) rfl ?_); refine goesL_ (some 10) rfl rfl Tryd.func32 (by kernel_rfl) rfl #[.string (⟨#[60, 33, 45, 45, 60, 115, 99, 114, 105, 112, 116, 62, 60, 47, 115, 99, 114, 105, 112, 116, 62, 45, 45, 62, 60, 47, 115, 99, 114, 105, 112, 116, 62]⟩ : ByteArray), .int .i64 0] rfl (by (try simp only [List.map_toArray, List.map_cons, List.map_nil]); first | done | rfl | (simp only [List.length_drop, List.length_take]; rfl)) ?_; (with_reducible refine (script_Find.calls k (⟨#[60, 33, 45, 45, 60, 115, 99, 114, 105, 112, 116, 62, 60, 47, 115, 99, 114, 105, 112, 116, 62, 45, 45, 62, 60, 47, 115, 99, 114, 105, 112, 116, 62]⟩ : ByteArray) 0 t104 t105 _ A2.out).mono ?_); rintro e w18 ⟨rfl, hb⟩; refine ⟨_, rfl, ?_⟩; have n0_ := Aside0.mk (below_step (by repeat (first | (with_reducible first | exact HB.out | apply below_alloc | apply pw_below_drewN | apply below_drew1) | exact HB.out)) hb); clear HB; have HB := n0_; clear n0_; (try clear hb); (try clear hb2); (try clear hk); (try clear hi)))
    go_ret
    exact ⟨by first | rfl | (simp [errW_none, errW_some] <;> rfl) | (simp [*, errW_none, errW_some] <;> rfl), by repeat (first | (with_reducible first | exact HB.out | apply below_alloc | apply pw_below_drewN | apply below_drew1) | exact HB.out)⟩

/-! ### flaillaw13_ScriptFinds: function 8 -/
def flaillaw13_ScriptFinds.f (k : Nat) (a0 : ByteArray) (a1 : Int) : Option (Bool) := (flaillaw13_awake.f k).bind fun t107 => (if (a0.size : Int) > 300 then (some t107) else ((script_Find.f k a0 a1).bind fun bt108 => ((flailref13_Find.f k a0 a1).bind fun bt110 => (if t107 = true then (if bt108.1 = bt110.1 then (if bt108.2 = bt110.2 then ((script_Text.f a0).bind fun t112 => ((flailref02_Clean.f k a0).bind fun t113 => (some (t112.toList == t113.toList)))) else (some false)) else (some false)) else (some false)))))
theorem flaillaw13_ScriptFinds.mono : ∀ a0 a1 k, LeO (flaillaw13_ScriptFinds.f k a0 a1) (flaillaw13_ScriptFinds.f (k + 1) a0 a1) := by
  intro a0 a1 k
  unfold flaillaw13_ScriptFinds.f
  repeat' first
      | (with_reducible exact flaillaw13_awake.mono _)
      | (with_reducible exact flailref02_Clean.mono _ _)
      | (with_reducible exact flailref13_Find.mono _ _ _)
      | (with_reducible exact script_Find.mono _ _ _)
      | (with_reducible exact LeO.refl _)
      | (with_reducible exact LeO.none _)
      | (with_reducible refine LeO.ite ?_ ?_)
      | (with_reducible refine LeO.bind ?_ (fun _ => ?_))
      | exact flaillaw13_awake.mono _
      | exact flailref02_Clean.mono _ _
      | exact flailref13_Find.mono _ _ _
      | exact script_Find.mono _ _ _
      | exact LeO.none _
      | refine LeO.ite ?_ ?_
      | refine LeO.bind ?_ (fun _ => ?_)
set_option maxHeartbeats 8000000 in
set_option maxRecDepth 100000 in
theorem flaillaw13_ScriptFinds.calls (k : Nat) (a0 : ByteArray) (a1 : Int) (r : Bool) (w : World) (hGl : Glob w) (h : flaillaw13_ScriptFinds.f k a0 a1 = some r) :
    Calls Tryd.prog 8 #[.string a0, .int .i64 a1] w fun e w' => e = .returned (.bool r) ∧ Below w.heap.size w w' := by
  have HB := Aside0.mk (Below.refl w.heap.size w)
  have H : ((flaillaw13_awake.f k).bind fun t107 => (if (a0.size : Int) > 300 then (some t107) else ((script_Find.f k a0 a1).bind fun bt108 => ((flailref13_Find.f k a0 a1).bind fun bt110 => (if t107 = true then (if bt108.1 = bt110.1 then (if bt108.2 = bt110.2 then ((script_Text.f a0).bind fun t112 => ((flailref02_Clean.f k a0).bind fun t113 => (some (t112.toList == t113.toList)))) else (some false)) else (some false)) else (some false)))))) = some r := h
  clear h
  replace H := Option.bind_eq_some_iff.mp H
  obtain ⟨t107, A30, H⟩ := H
  replace H : (if (a0.size : Int) > 300 then (some t107) else ((script_Find.f k a0 a1).bind fun bt108 => ((flailref13_Find.f k a0 a1).bind fun bt110 => (if t107 = true then (if bt108.1 = bt110.1 then (if bt108.2 = bt110.2 then ((script_Text.f a0).bind fun t112 => ((flailref02_Clean.f k a0).bind fun t113 => (some (t112.toList == t113.toList)))) else (some false)) else (some false)) else (some false))))) = some r := H
  have A3 := Aside0.mk A30
  clear A30
  by_cases c4 : (a0.size : Int) > 300
  · rw [if_pos c4] at H
    have c4b0 : decide (300 < (a0.size : Int)) = true := decide_eq_true c4
    have c4b1 : decide (300 < a0.size) = true := decide_eq_true (by omega)
    clear c4
    obtain rfl := Option.some.inj H
    go_enter Tryd.func8, Tryd.ntmps8
    go_wp2_with (first | ((with_reducible refine gate_callee (f := 31) rfl ?_); refine goesL_ (some 10) rfl rfl Tryd.func31 (by kernel_rfl) rfl #[] rfl (by (try simp only [List.map_toArray, List.map_cons, List.map_nil]); first | done | rfl | (simp only [List.length_drop, List.length_take]; rfl)) ?_; (with_reducible refine (flaillaw13_awake.calls k  t107 _ ?side1 A3.out).mono ?_); (case side1 => exact Glob.step hGl (by repeat (first | (with_reducible first | exact HB.out | apply below_alloc | apply pw_below_drewN | apply below_drew1) | exact HB.out))); rintro e w5 ⟨rfl, hb⟩; refine ⟨_, rfl, ?_⟩; have n0_ := Aside0.mk (below_step (by repeat (first | (with_reducible first | exact HB.out | apply below_alloc | apply pw_below_drewN | apply below_drew1) | exact HB.out)) hb); clear HB; have HB := n0_; clear n0_; (try clear hb); (try clear hb2); (try clear hk); (try clear hi)))
    go_ret
    exact ⟨by first | rfl | (simp [errW_none, errW_some] <;> rfl) | (simp [*, errW_none, errW_some] <;> rfl), by repeat (first | (with_reducible first | exact HB.out | apply below_alloc | apply pw_below_drewN | apply below_drew1) | exact HB.out)⟩
  · rw [if_neg c4] at H
    have c4b0 : decide (300 < (a0.size : Int)) = false := decide_eq_false c4
    have c4b1 : decide (300 < a0.size) = false := decide_eq_false (by omega)
    clear c4
    replace H := Option.bind_eq_some_iff.mp H
    obtain ⟨⟨t108, t109⟩, A60, H⟩ := H
    replace H : ((flailref13_Find.f k a0 a1).bind fun bt110 => (if t107 = true then (if t108 = bt110.1 then (if t109 = bt110.2 then ((script_Text.f a0).bind fun t112 => ((flailref02_Clean.f k a0).bind fun t113 => (some (t112.toList == t113.toList)))) else (some false)) else (some false)) else (some false))) = some r := H
    have A6 := Aside0.mk A60
    clear A60
    replace H := Option.bind_eq_some_iff.mp H
    obtain ⟨⟨t110, t111⟩, A70, H⟩ := H
    replace H : (if t107 = true then (if t108 = t110 then (if t109 = t111 then ((script_Text.f a0).bind fun t112 => ((flailref02_Clean.f k a0).bind fun t113 => (some (t112.toList == t113.toList)))) else (some false)) else (some false)) else (some false)) = some r := H
    have A7 := Aside0.mk A70
    clear A70
    by_cases c8 : t107 = true
    · subst c8
      have H1 : (if t108 = t110 then (if t109 = t111 then ((script_Text.f a0).bind fun t112 => ((flailref02_Clean.f k a0).bind fun t113 => (some (t112.toList == t113.toList)))) else (some false)) else (some false)) = some r := by rw [if_pos rfl] at H; exact H
      clear H
      have H := H1
      clear H1
      by_cases c9 : t108 = t110
      · rw [if_pos c9] at H
        have c9b0 : (t108 == t110) = true := beq_iff_eq.mpr c9
        have c9b1 : (t108 != t110) = false := bne_eq_false_iff_eq.mpr c9
        clear c9
        by_cases c10 : t109 = t111
        · rw [if_pos c10] at H
          have c10b0 : (t109 == t111) = true := beq_iff_eq.mpr c10
          have c10b1 : (t109 != t111) = false := bne_eq_false_iff_eq.mpr c10
          clear c10
          replace H := Option.bind_eq_some_iff.mp H
          obtain ⟨t112, A110, H⟩ := H
          replace H : ((flailref02_Clean.f k a0).bind fun t113 => (some (t112.toList == t113.toList))) = some r := H
          have A11 := Aside0.mk A110
          clear A110
          replace H := Option.bind_eq_some_iff.mp H
          obtain ⟨t113, A120, H⟩ := H
          replace H : (some (t112.toList == t113.toList)) = some r := H
          have A12 := Aside0.mk A120
          clear A120
          obtain rfl := Option.some.inj H
          go_enter Tryd.func8, Tryd.ntmps8
          go_wp2_with (first | ((with_reducible refine gate_callee (f := 31) rfl ?_); refine goesL_ (some 10) rfl rfl Tryd.func31 (by kernel_rfl) rfl #[] rfl (by (try simp only [List.map_toArray, List.map_cons, List.map_nil]); first | done | rfl | (simp only [List.length_drop, List.length_take]; rfl)) ?_; (with_reducible refine (flaillaw13_awake.calls k  true _ ?side1 A3.out).mono ?_); (case side1 => exact Glob.step hGl (by repeat (first | (with_reducible first | exact HB.out | apply below_alloc | apply pw_below_drewN | apply below_drew1) | exact HB.out))); rintro e w13 ⟨rfl, hb⟩; refine ⟨_, rfl, ?_⟩; have n0_ := Aside0.mk (below_step (by repeat (first | (with_reducible first | exact HB.out | apply below_alloc | apply pw_below_drewN | apply below_drew1) | exact HB.out)) hb); clear HB; have HB := n0_; clear n0_; (try clear hb); (try clear hb2); (try clear hk); (try clear hi)) | ((with_reducible refine gate_callee (f := 32) rfl ?_); refine goesL_ (some 18) rfl rfl Tryd.func32 (by kernel_rfl) rfl #[.string a0, .int .i64 a1] rfl (by (try simp only [List.map_toArray, List.map_cons, List.map_nil]); first | done | rfl | (simp only [List.length_drop, List.length_take]; rfl)) ?_; (with_reducible refine (script_Find.calls k a0 a1 t108 t109 _ A6.out).mono ?_); rintro e w14 ⟨rfl, hb⟩; refine ⟨_, rfl, ?_⟩; have n0_ := Aside0.mk (below_step (by repeat (first | (with_reducible first | exact HB.out | apply below_alloc | apply pw_below_drewN | apply below_drew1) | exact HB.out)) hb); clear HB; have HB := n0_; clear n0_; (try clear hb); (try clear hb2); (try clear hk); (try clear hi)) | ((with_reducible refine gate_callee (f := 33) rfl ?_); refine goesL_ (some 24) rfl rfl Tryd.func33 (by kernel_rfl) rfl #[.string a0, .int .i64 a1] rfl (by (try simp only [List.map_toArray, List.map_cons, List.map_nil]); first | done | rfl | (simp only [List.length_drop, List.length_take]; rfl)) ?_; (with_reducible refine (flailref13_Find.calls k a0 a1 t110 t111 _ A7.out).mono ?_); rintro e w15 ⟨rfl, hb⟩; refine ⟨_, rfl, ?_⟩; have n0_ := Aside0.mk (below_step (by repeat (first | (with_reducible first | exact HB.out | apply below_alloc | apply pw_below_drewN | apply below_drew1) | exact HB.out)) hb); clear HB; have HB := n0_; clear n0_; (try clear hb); (try clear hb2); (try clear hk); (try clear hi)) | (go_at_call 34; (with_reducible refine (script_Text.calls a0 t112 _ ?side1 A11.out).mono ?_); (case side1 => exact Glob.step hGl (by repeat (first | (with_reducible first | exact HB.out | apply below_alloc | apply pw_below_drewN | apply below_drew1) | exact HB.out))); rintro e w16 ⟨rfl, hb⟩; have n0_ := Aside0.mk (below_step (by repeat (first | (with_reducible first | exact HB.out | apply below_alloc | apply pw_below_drewN | apply below_drew1) | exact HB.out)) hb); clear HB; have HB := n0_; clear n0_; (try clear hb); (try clear hb2); (try clear hk); (try clear hi)) | (go_at_call 30; (with_reducible refine (flailref02_Clean.calls k a0 t113 _ A12.out).mono ?_); rintro e w' ⟨rfl, ⟨nd, rfl⟩⟩))
          go_ret
          exact ⟨by first | rfl | (simp [errW_none, errW_some] <;> rfl) | (simp [*, errW_none, errW_some] <;> rfl), by repeat (first | (with_reducible first | exact HB.out | apply below_alloc | apply pw_below_drewN | apply below_drew1) | exact HB.out)⟩
        · rw [if_neg c10] at H
          have c10b0 : (t109 == t111) = false := beq_eq_false_iff_ne.mpr c10
          have c10b1 : (t109 != t111) = true := bne_iff_ne.mpr c10
          obtain rfl := Option.some.inj H
          go_enter Tryd.func8, Tryd.ntmps8
          go_wp2_with (first | ((with_reducible refine gate_callee (f := 31) rfl ?_); refine goesL_ (some 10) rfl rfl Tryd.func31 (by kernel_rfl) rfl #[] rfl (by (try simp only [List.map_toArray, List.map_cons, List.map_nil]); first | done | rfl | (simp only [List.length_drop, List.length_take]; rfl)) ?_; (with_reducible refine (flaillaw13_awake.calls k  true _ ?side1 A3.out).mono ?_); (case side1 => exact Glob.step hGl (by repeat (first | (with_reducible first | exact HB.out | apply below_alloc | apply pw_below_drewN | apply below_drew1) | exact HB.out))); rintro e w17 ⟨rfl, hb⟩; refine ⟨_, rfl, ?_⟩; have n0_ := Aside0.mk (below_step (by repeat (first | (with_reducible first | exact HB.out | apply below_alloc | apply pw_below_drewN | apply below_drew1) | exact HB.out)) hb); clear HB; have HB := n0_; clear n0_; (try clear hb); (try clear hb2); (try clear hk); (try clear hi)) | ((with_reducible refine gate_callee (f := 32) rfl ?_); refine goesL_ (some 18) rfl rfl Tryd.func32 (by kernel_rfl) rfl #[.string a0, .int .i64 a1] rfl (by (try simp only [List.map_toArray, List.map_cons, List.map_nil]); first | done | rfl | (simp only [List.length_drop, List.length_take]; rfl)) ?_; (with_reducible refine (script_Find.calls k a0 a1 t108 t109 _ A6.out).mono ?_); rintro e w18 ⟨rfl, hb⟩; refine ⟨_, rfl, ?_⟩; have n0_ := Aside0.mk (below_step (by repeat (first | (with_reducible first | exact HB.out | apply below_alloc | apply pw_below_drewN | apply below_drew1) | exact HB.out)) hb); clear HB; have HB := n0_; clear n0_; (try clear hb); (try clear hb2); (try clear hk); (try clear hi)) | ((with_reducible refine gate_callee (f := 33) rfl ?_); refine goesL_ (some 24) rfl rfl Tryd.func33 (by kernel_rfl) rfl #[.string a0, .int .i64 a1] rfl (by (try simp only [List.map_toArray, List.map_cons, List.map_nil]); first | done | rfl | (simp only [List.length_drop, List.length_take]; rfl)) ?_; (with_reducible refine (flailref13_Find.calls k a0 a1 t110 t111 _ A7.out).mono ?_); rintro e w19 ⟨rfl, hb⟩; refine ⟨_, rfl, ?_⟩; have n0_ := Aside0.mk (below_step (by repeat (first | (with_reducible first | exact HB.out | apply below_alloc | apply pw_below_drewN | apply below_drew1) | exact HB.out)) hb); clear HB; have HB := n0_; clear n0_; (try clear hb); (try clear hb2); (try clear hk); (try clear hi)))
          go_ret
          exact ⟨by first | rfl | (simp [errW_none, errW_some] <;> rfl) | (simp [*, errW_none, errW_some] <;> rfl), by repeat (first | (with_reducible first | exact HB.out | apply below_alloc | apply pw_below_drewN | apply below_drew1) | exact HB.out)⟩
      · rw [if_neg c9] at H
        have c9b0 : (t108 == t110) = false := beq_eq_false_iff_ne.mpr c9
        have c9b1 : (t108 != t110) = true := bne_iff_ne.mpr c9
        obtain rfl := Option.some.inj H
        go_enter Tryd.func8, Tryd.ntmps8
        go_wp2_with (first | ((with_reducible refine gate_callee (f := 31) rfl ?_); refine goesL_ (some 10) rfl rfl Tryd.func31 (by kernel_rfl) rfl #[] rfl (by (try simp only [List.map_toArray, List.map_cons, List.map_nil]); first | done | rfl | (simp only [List.length_drop, List.length_take]; rfl)) ?_; (with_reducible refine (flaillaw13_awake.calls k  true _ ?side1 A3.out).mono ?_); (case side1 => exact Glob.step hGl (by repeat (first | (with_reducible first | exact HB.out | apply below_alloc | apply pw_below_drewN | apply below_drew1) | exact HB.out))); rintro e w20 ⟨rfl, hb⟩; refine ⟨_, rfl, ?_⟩; have n0_ := Aside0.mk (below_step (by repeat (first | (with_reducible first | exact HB.out | apply below_alloc | apply pw_below_drewN | apply below_drew1) | exact HB.out)) hb); clear HB; have HB := n0_; clear n0_; (try clear hb); (try clear hb2); (try clear hk); (try clear hi)) | ((with_reducible refine gate_callee (f := 32) rfl ?_); refine goesL_ (some 18) rfl rfl Tryd.func32 (by kernel_rfl) rfl #[.string a0, .int .i64 a1] rfl (by (try simp only [List.map_toArray, List.map_cons, List.map_nil]); first | done | rfl | (simp only [List.length_drop, List.length_take]; rfl)) ?_; (with_reducible refine (script_Find.calls k a0 a1 t108 t109 _ A6.out).mono ?_); rintro e w21 ⟨rfl, hb⟩; refine ⟨_, rfl, ?_⟩; have n0_ := Aside0.mk (below_step (by repeat (first | (with_reducible first | exact HB.out | apply below_alloc | apply pw_below_drewN | apply below_drew1) | exact HB.out)) hb); clear HB; have HB := n0_; clear n0_; (try clear hb); (try clear hb2); (try clear hk); (try clear hi)) | ((with_reducible refine gate_callee (f := 33) rfl ?_); refine goesL_ (some 24) rfl rfl Tryd.func33 (by kernel_rfl) rfl #[.string a0, .int .i64 a1] rfl (by (try simp only [List.map_toArray, List.map_cons, List.map_nil]); first | done | rfl | (simp only [List.length_drop, List.length_take]; rfl)) ?_; (with_reducible refine (flailref13_Find.calls k a0 a1 t110 t111 _ A7.out).mono ?_); rintro e w22 ⟨rfl, hb⟩; refine ⟨_, rfl, ?_⟩; have n0_ := Aside0.mk (below_step (by repeat (first | (with_reducible first | exact HB.out | apply below_alloc | apply pw_below_drewN | apply below_drew1) | exact HB.out)) hb); clear HB; have HB := n0_; clear n0_; (try clear hb); (try clear hb2); (try clear hk); (try clear hi)))
        go_ret
        exact ⟨by first | rfl | (simp [errW_none, errW_some] <;> rfl) | (simp [*, errW_none, errW_some] <;> rfl), by repeat (first | (with_reducible first | exact HB.out | apply below_alloc | apply pw_below_drewN | apply below_drew1) | exact HB.out)⟩
    · replace c8 := Bool.eq_false_iff.mpr c8
      subst c8
      have H1 : (some false) = some r := by rw [if_neg (show ¬ (false = true) by decide)] at H; exact H
      clear H
      have H := H1
      clear H1
      obtain rfl := Option.some.inj H
      go_enter Tryd.func8, Tryd.ntmps8
      go_wp2_with (first | ((with_reducible refine gate_callee (f := 31) rfl ?_); refine goesL_ (some 10) rfl rfl Tryd.func31 (by kernel_rfl) rfl #[] rfl (by (try simp only [List.map_toArray, List.map_cons, List.map_nil]); first | done | rfl | (simp only [List.length_drop, List.length_take]; rfl)) ?_; (with_reducible refine (flaillaw13_awake.calls k  false _ ?side1 A3.out).mono ?_); (case side1 => exact Glob.step hGl (by repeat (first | (with_reducible first | exact HB.out | apply below_alloc | apply pw_below_drewN | apply below_drew1) | exact HB.out))); rintro e w23 ⟨rfl, hb⟩; refine ⟨_, rfl, ?_⟩; have n0_ := Aside0.mk (below_step (by repeat (first | (with_reducible first | exact HB.out | apply below_alloc | apply pw_below_drewN | apply below_drew1) | exact HB.out)) hb); clear HB; have HB := n0_; clear n0_; (try clear hb); (try clear hb2); (try clear hk); (try clear hi)) | ((with_reducible refine gate_callee (f := 32) rfl ?_); refine goesL_ (some 18) rfl rfl Tryd.func32 (by kernel_rfl) rfl #[.string a0, .int .i64 a1] rfl (by (try simp only [List.map_toArray, List.map_cons, List.map_nil]); first | done | rfl | (simp only [List.length_drop, List.length_take]; rfl)) ?_; (with_reducible refine (script_Find.calls k a0 a1 t108 t109 _ A6.out).mono ?_); rintro e w24 ⟨rfl, hb⟩; refine ⟨_, rfl, ?_⟩; have n0_ := Aside0.mk (below_step (by repeat (first | (with_reducible first | exact HB.out | apply below_alloc | apply pw_below_drewN | apply below_drew1) | exact HB.out)) hb); clear HB; have HB := n0_; clear n0_; (try clear hb); (try clear hb2); (try clear hk); (try clear hi)) | ((with_reducible refine gate_callee (f := 33) rfl ?_); refine goesL_ (some 24) rfl rfl Tryd.func33 (by kernel_rfl) rfl #[.string a0, .int .i64 a1] rfl (by (try simp only [List.map_toArray, List.map_cons, List.map_nil]); first | done | rfl | (simp only [List.length_drop, List.length_take]; rfl)) ?_; (with_reducible refine (flailref13_Find.calls k a0 a1 t110 t111 _ A7.out).mono ?_); rintro e w25 ⟨rfl, hb⟩; refine ⟨_, rfl, ?_⟩; have n0_ := Aside0.mk (below_step (by repeat (first | (with_reducible first | exact HB.out | apply below_alloc | apply pw_below_drewN | apply below_drew1) | exact HB.out)) hb); clear HB; have HB := n0_; clear n0_; (try clear hb); (try clear hb2); (try clear hk); (try clear hi)))
      go_ret
      exact ⟨by first | rfl | (simp [errW_none, errW_some] <;> rfl) | (simp [*, errW_none, errW_some] <;> rfl), by repeat (first | (with_reducible first | exact HB.out | apply below_alloc | apply pw_below_drewN | apply below_drew1) | exact HB.out)⟩

/-- THE ONE PURE STATEMENT of flaillaw13_ScriptFinds: yours. -/
def flaillaw13_ScriptFinds.Pure : Prop := ∀ (a0 : ByteArray) (a1 : Int), a0.size ≤ 140737488351232 → (Lit.int .i64 a1).wf = true → ∃ k, flaillaw13_ScriptFinds.f k a0 a1 = some true
theorem flaillaw13_ScriptFinds.walk (P : flaillaw13_ScriptFinds.Pure) (a0 : ByteArray) (a1 : Int) (w : World) (w0 : a0.size ≤ 140737488351232) (w1 : (Lit.int .i64 a1).wf = true) (hGl : Glob w) :
    Calls Tryd.prog 8 #[.string a0, .int .i64 a1] w fun e w' => e = .returned (.bool true) ∧ Below w.heap.size w w' := by
  obtain ⟨k, h⟩ := P a0 a1 w0 w1
  refine (flaillaw13_ScriptFinds.calls k a0 a1 true w hGl h).mono ?_
  rintro e w' ⟨rfl, hd⟩
  exact ⟨rfl, hd⟩

/-! ### flaillaw13_ScriptWithin: function 9 -/
mutual
def flaillaw13_ScriptWithin.j0 : Nat → ByteArray → ByteArray → Bool → Bool → Bool → Option (Bool)
  | 0, _, _, _, _, _ => none
  | k + 1, x0, x1, x2, x7, x24 => if x24 = true then (some x7) else (if x0.size + x1.size ≤ 9223372036854775807 then (flaillaw13_ScriptWithin.l0 k x0 x1 x2 x7 (x0 ++ x1) 0) else (none))
def flaillaw13_ScriptWithin.l0 : Nat → ByteArray → ByteArray → Bool → Bool → ByteArray → Int → Option (Bool)
  | 0, _, _, _, _, _, _ => none
  | k + 1, x0, x1, x2, x7, x8, x9 => if x9 < (x8.size : Int) then (if 0 ≤ x9 then (if (bt x8 x9) = 45 then (some x7) else (if (bt x8 x9) = 60 then (some x7) else (if (bt x8 x9) = 62 then (some x7) else (flaillaw13_ScriptWithin.l0 k x0 x1 x2 x7 x8 (wrap64 (x9 + 1)))))) else (none)) else (if x0.size + 4 ≤ 9223372036854775807 then (if (x0 ++ (⟨#[60, 33, 45, 45]⟩ : ByteArray)).size + x1.size ≤ 9223372036854775807 then (if ((x0 ++ (⟨#[60, 33, 45, 45]⟩ : ByteArray)) ++ x1).size + 8 ≤ 9223372036854775807 then (if (((x0 ++ (⟨#[60, 33, 45, 45]⟩ : ByteArray)) ++ x1) ++ (⟨#[60, 115, 99, 114, 105, 112, 116, 62]⟩ : ByteArray)).size + x0.size ≤ 9223372036854775807 then (if ((((x0 ++ (⟨#[60, 33, 45, 45]⟩ : ByteArray)) ++ x1) ++ (⟨#[60, 115, 99, 114, 105, 112, 116, 62]⟩ : ByteArray)) ++ x0).size + 9 ≤ 9223372036854775807 then (if (((((x0 ++ (⟨#[60, 33, 45, 45]⟩ : ByteArray)) ++ x1) ++ (⟨#[60, 115, 99, 114, 105, 112, 116, 62]⟩ : ByteArray)) ++ x0) ++ (⟨#[60, 47, 115, 99, 114, 105, 112, 116, 62]⟩ : ByteArray)).size + x1.size ≤ 9223372036854775807 then (if x2 = true then (if ((((((x0 ++ (⟨#[60, 33, 45, 45]⟩ : ByteArray)) ++ x1) ++ (⟨#[60, 115, 99, 114, 105, 112, 116, 62]⟩ : ByteArray)) ++ x0) ++ (⟨#[60, 47, 115, 99, 114, 105, 112, 116, 62]⟩ : ByteArray)) ++ x1).size + 3 ≤ 9223372036854775807 then (if (((((((x0 ++ (⟨#[60, 33, 45, 45]⟩ : ByteArray)) ++ x1) ++ (⟨#[60, 115, 99, 114, 105, 112, 116, 62]⟩ : ByteArray)) ++ x0) ++ (⟨#[60, 47, 115, 99, 114, 105, 112, 116, 62]⟩ : ByteArray)) ++ x1) ++ (⟨#[45, 45, 62]⟩ : ByteArray)).size + 9 ≤ 9223372036854775807 then (if ((((((((x0 ++ (⟨#[60, 33, 45, 45]⟩ : ByteArray)) ++ x1) ++ (⟨#[60, 115, 99, 114, 105, 112, 116, 62]⟩ : ByteArray)) ++ x0) ++ (⟨#[60, 47, 115, 99, 114, 105, 112, 116, 62]⟩ : ByteArray)) ++ x1) ++ (⟨#[45, 45, 62]⟩ : ByteArray)) ++ (⟨#[60, 47, 115, 99, 114, 105, 112, 116, 62]⟩ : ByteArray)).size + x0.size ≤ 9223372036854775807 then ((script_Find.f k (((((((((x0 ++ (⟨#[60, 33, 45, 45]⟩ : ByteArray)) ++ x1) ++ (⟨#[60, 115, 99, 114, 105, 112, 116, 62]⟩ : ByteArray)) ++ x0) ++ (⟨#[60, 47, 115, 99, 114, 105, 112, 116, 62]⟩ : ByteArray)) ++ x1) ++ (⟨#[45, 45, 62]⟩ : ByteArray)) ++ (⟨#[60, 47, 115, 99, 114, 105, 112, 116, 62]⟩ : ByteArray)) ++ x0) 0).bind fun bt115 => ((script_Find.f k ((((x0 ++ (⟨#[60, 33, 45, 45]⟩ : ByteArray)) ++ x1) ++ (⟨#[60, 115, 99, 114, 105, 112, 116, 62]⟩ : ByteArray)) ++ x0) 0).bind fun bt117 => (if x7 = true then (if bt115.1 = ((((((((x0 ++ (⟨#[60, 33, 45, 45]⟩ : ByteArray)) ++ x1) ++ (⟨#[60, 115, 99, 114, 105, 112, 116, 62]⟩ : ByteArray)) ++ x0) ++ (⟨#[60, 47, 115, 99, 114, 105, 112, 116, 62]⟩ : ByteArray)) ++ x1) ++ (⟨#[45, 45, 62]⟩ : ByteArray)).size : Int) then (if bt115.2 = 0 then (if bt117.2 = 2 then (some (bt117.1 == (wrap64 ((wrap64 ((wrap64 (2 * (x0.size : Int))) + (x1.size : Int))) + 12)))) else (some false)) else (some false)) else (some false)) else (some false)))) else (none)) else (none)) else (none)) else (if ((((((x0 ++ (⟨#[60, 33, 45, 45]⟩ : ByteArray)) ++ x1) ++ (⟨#[60, 115, 99, 114, 105, 112, 116, 62]⟩ : ByteArray)) ++ x0) ++ (⟨#[60, 47, 115, 99, 114, 105, 112, 116, 62]⟩ : ByteArray)) ++ x1).size + 9 ≤ 9223372036854775807 then (if (((((((x0 ++ (⟨#[60, 33, 45, 45]⟩ : ByteArray)) ++ x1) ++ (⟨#[60, 115, 99, 114, 105, 112, 116, 62]⟩ : ByteArray)) ++ x0) ++ (⟨#[60, 47, 115, 99, 114, 105, 112, 116, 62]⟩ : ByteArray)) ++ x1) ++ (⟨#[60, 47, 115, 99, 114, 105, 112, 116, 62]⟩ : ByteArray)).size + x0.size ≤ 9223372036854775807 then ((script_Find.f k ((((((((x0 ++ (⟨#[60, 33, 45, 45]⟩ : ByteArray)) ++ x1) ++ (⟨#[60, 115, 99, 114, 105, 112, 116, 62]⟩ : ByteArray)) ++ x0) ++ (⟨#[60, 47, 115, 99, 114, 105, 112, 116, 62]⟩ : ByteArray)) ++ x1) ++ (⟨#[60, 47, 115, 99, 114, 105, 112, 116, 62]⟩ : ByteArray)) ++ x0) 0).bind fun bt119 => ((script_Find.f k ((((x0 ++ (⟨#[60, 33, 45, 45]⟩ : ByteArray)) ++ x1) ++ (⟨#[60, 115, 99, 114, 105, 112, 116, 62]⟩ : ByteArray)) ++ x0) 0).bind fun bt121 => (if x7 = true then (if bt119.1 = (((((((x0 ++ (⟨#[60, 33, 45, 45]⟩ : ByteArray)) ++ x1) ++ (⟨#[60, 115, 99, 114, 105, 112, 116, 62]⟩ : ByteArray)) ++ x0) ++ (⟨#[60, 47, 115, 99, 114, 105, 112, 116, 62]⟩ : ByteArray)) ++ x1).size : Int) then (if bt119.2 = 1 then (if bt121.2 = 2 then (some (bt121.1 == (wrap64 ((wrap64 ((wrap64 (2 * (x0.size : Int))) + (x1.size : Int))) + 12)))) else (some false)) else (some false)) else (some false)) else (some false)))) else (none)) else (none))) else (none)) else (none)) else (none)) else (none)) else (none)) else (none))
end
def flaillaw13_ScriptWithin.f (k : Nat) (a0 : ByteArray) (a1 : ByteArray) (a2 : Bool) : Option (Bool) := (flaillaw13_awake.f k).bind fun t114 => (if (a0.size : Int) > 100 then (flaillaw13_ScriptWithin.j0 k a0 a1 a2 t114 true) else (flaillaw13_ScriptWithin.j0 k a0 a1 a2 t114 (decide ((a1.size : Int) > 100))))
theorem flaillaw13_ScriptWithin.mono_l : ∀ k, (∀ y0 y1 y2 y3 y4, LeO (flaillaw13_ScriptWithin.j0 k y0 y1 y2 y3 y4) (flaillaw13_ScriptWithin.j0 (k + 1) y0 y1 y2 y3 y4)) ∧ (∀ y0 y1 y2 y3 y4 y5, LeO (flaillaw13_ScriptWithin.l0 k y0 y1 y2 y3 y4 y5) (flaillaw13_ScriptWithin.l0 (k + 1) y0 y1 y2 y3 y4 y5))
  | 0 => ⟨fun _ _ _ _ _ r h => by simp [flaillaw13_ScriptWithin.j0] at h, fun _ _ _ _ _ _ r h => by simp [flaillaw13_ScriptWithin.l0] at h⟩
  | k + 1 => by
    obtain ⟨ih0, ih1⟩ := flaillaw13_ScriptWithin.mono_l k
    refine ⟨?_, ?_⟩
    · intro y0 y1 y2 y3 y4
      unfold flaillaw13_ScriptWithin.j0
      repeat' first
      | (with_reducible exact ih0 _ _ _ _ _)
      | (with_reducible exact ih1 _ _ _ _ _ _)
      | (with_reducible exact flaillaw13_awake.mono _)
      | (with_reducible exact script_Find.mono _ _ _)
      | (with_reducible exact LeO.refl _)
      | (with_reducible exact LeO.none _)
      | (with_reducible refine LeO.ite ?_ ?_)
      | (with_reducible refine LeO.bind ?_ (fun _ => ?_))
      | exact ih0 _ _ _ _ _
      | exact ih1 _ _ _ _ _ _
      | exact flaillaw13_awake.mono _
      | exact script_Find.mono _ _ _
      | exact LeO.none _
      | refine LeO.ite ?_ ?_
      | refine LeO.bind ?_ (fun _ => ?_)
    · intro y0 y1 y2 y3 y4 y5
      unfold flaillaw13_ScriptWithin.l0
      repeat' first
      | (with_reducible exact ih0 _ _ _ _ _)
      | (with_reducible exact ih1 _ _ _ _ _ _)
      | (with_reducible exact flaillaw13_awake.mono _)
      | (with_reducible exact script_Find.mono _ _ _)
      | (with_reducible exact LeO.refl _)
      | (with_reducible exact LeO.none _)
      | (with_reducible refine LeO.ite ?_ ?_)
      | (with_reducible refine LeO.bind ?_ (fun _ => ?_))
      | exact ih0 _ _ _ _ _
      | exact ih1 _ _ _ _ _ _
      | exact flaillaw13_awake.mono _
      | exact script_Find.mono _ _ _
      | exact LeO.none _
      | refine LeO.ite ?_ ?_
      | refine LeO.bind ?_ (fun _ => ?_)
theorem flaillaw13_ScriptWithin.mono : ∀ a0 a1 a2 k, LeO (flaillaw13_ScriptWithin.f k a0 a1 a2) (flaillaw13_ScriptWithin.f (k + 1) a0 a1 a2) := by
  intro a0 a1 a2 k
  obtain ⟨ih0, ih1⟩ := flaillaw13_ScriptWithin.mono_l k
  unfold flaillaw13_ScriptWithin.f
  repeat' first
      | (with_reducible exact ih0 _ _ _ _ _)
      | (with_reducible exact ih1 _ _ _ _ _ _)
      | (with_reducible exact flaillaw13_awake.mono _)
      | (with_reducible exact script_Find.mono _ _ _)
      | (with_reducible exact LeO.refl _)
      | (with_reducible exact LeO.none _)
      | (with_reducible refine LeO.ite ?_ ?_)
      | (with_reducible refine LeO.bind ?_ (fun _ => ?_))
      | exact ih0 _ _ _ _ _
      | exact ih1 _ _ _ _ _ _
      | exact flaillaw13_awake.mono _
      | exact script_Find.mono _ _ _
      | exact LeO.none _
      | refine LeO.ite ?_ ?_
      | refine LeO.bind ?_ (fun _ => ?_)
set_option maxHeartbeats 8000000 in
set_option maxRecDepth 100000 in
theorem flaillaw13_ScriptWithin.calls (k : Nat) (a0 : ByteArray) (a1 : ByteArray) (a2 : Bool) (r : Bool) (w : World) (hGl : Glob w) (h : flaillaw13_ScriptWithin.f k a0 a1 a2 = some r) :
    Calls Tryd.prog 9 #[.string a0, .string a1, .bool a2] w fun e w' => e = .returned (.bool r) ∧ Below w.heap.size w w' := by
  obtain ⟨X0, hX0⟩ : ∃ y, a0 ++ a1 = y := ⟨_, rfl⟩
  obtain ⟨Y1, hY1⟩ : ∃ y, a0 ++ (⟨#[60, 33, 45, 45]⟩ : ByteArray) = y := ⟨_, rfl⟩
  obtain ⟨Y2, hY2⟩ : ∃ y, Y1 ++ a1 = y := ⟨_, rfl⟩
  obtain ⟨Y3, hY3⟩ : ∃ y, Y2 ++ (⟨#[60, 115, 99, 114, 105, 112, 116, 62]⟩ : ByteArray) = y := ⟨_, rfl⟩
  obtain ⟨Y4, hY4⟩ : ∃ y, Y3 ++ a0 = y := ⟨_, rfl⟩
  obtain ⟨Y5, hY5⟩ : ∃ y, Y4 ++ (⟨#[60, 47, 115, 99, 114, 105, 112, 116, 62]⟩ : ByteArray) = y := ⟨_, rfl⟩
  obtain ⟨Y6, hY6⟩ : ∃ y, Y5 ++ a1 = y := ⟨_, rfl⟩
  obtain ⟨Y7, hY7⟩ : ∃ y, Y6 ++ (⟨#[45, 45, 62]⟩ : ByteArray) = y := ⟨_, rfl⟩
  obtain ⟨Y8, hY8⟩ : ∃ y, Y7 ++ (⟨#[60, 47, 115, 99, 114, 105, 112, 116, 62]⟩ : ByteArray) = y := ⟨_, rfl⟩
  obtain ⟨Y9, hY9⟩ : ∃ y, Y8 ++ a0 = y := ⟨_, rfl⟩
  obtain ⟨Z7, hZ7⟩ : ∃ y, Y6 ++ (⟨#[60, 47, 115, 99, 114, 105, 112, 116, 62]⟩ : ByteArray) = y := ⟨_, rfl⟩
  obtain ⟨Z8, hZ8⟩ : ∃ y, Z7 ++ a0 = y := ⟨_, rfl⟩
  have HB := Aside0.mk (Below.refl w.heap.size w)
  have H : ((flaillaw13_awake.f k).bind fun t114 => (if (a0.size : Int) > 100 then (flaillaw13_ScriptWithin.j0 k a0 a1 a2 t114 true) else (flaillaw13_ScriptWithin.j0 k a0 a1 a2 t114 (decide ((a1.size : Int) > 100))))) = some r := h
  clear h
  replace H := Option.bind_eq_some_iff.mp H
  obtain ⟨t114, A40, H⟩ := H
  replace H : (if (a0.size : Int) > 100 then (flaillaw13_ScriptWithin.j0 k a0 a1 a2 t114 true) else (flaillaw13_ScriptWithin.j0 k a0 a1 a2 t114 (decide ((a1.size : Int) > 100)))) = some r := H
  have A4 := Aside0.mk A40
  clear A40
  have HC5 := Aside0.mk H
  clear H
  go_enter Tryd.func9, Tryd.ntmps9
  go_upto_region 2 with (first | ((with_reducible refine gate_callee (f := 31) rfl ?_); refine goesL_ (some 16) rfl rfl Tryd.func31 (by kernel_rfl) rfl #[] rfl (by (try simp only [List.map_toArray, List.map_cons, List.map_nil]); first | done | rfl | (simp only [List.length_drop, List.length_take]; rfl)) ?_; (with_reducible refine (flaillaw13_awake.calls k  t114 _ ?side1 A4.out).mono ?_); (case side1 => exact Glob.step hGl (by repeat (first | (with_reducible first | exact HB.out | apply below_alloc | apply pw_below_drewN | apply below_drew1) | exact HB.out))); rintro e w6 ⟨rfl, hb⟩; refine ⟨_, rfl, ?_⟩; have n0_ := Aside0.mk (below_step (by repeat (first | (with_reducible first | exact HB.out | apply below_alloc | apply pw_below_drewN | apply below_drew1) | exact HB.out)) hb); clear HB; have HB := n0_; clear n0_; (try clear hb); (try clear hb2); (try clear hk); (try clear hi)))
  (try simp only [Act.put, List.setIfInBounds_toArray, List.set_cons_zero, List.set_cons_succ])
  go_cut [24] (fun v24 wc => ∃ (kq : Nat) (x24_4 : Bool), v24 = .bool x24_4 ∧ Aside0 (flaillaw13_ScriptWithin.j0 kq a0 a1 a2 t114 x24_4 = some r) ∧ Aside0 (kq ≤ k) ∧ Aside0 (Below w.heap.size w wc))
  case first =>
    have H := HC5.out
    clear HC5
    by_cases c7 : (a0.size : Int) > 100
    · rw [if_pos c7] at H
      have c7b0 : decide (100 < (a0.size : Int)) = true := decide_eq_true c7
      have c7b1 : decide (100 < a0.size) = true := decide_eq_true (by omega)
      clear c7
      (first | rw [c7b0] | (simp only [i64_w, i32_w]; rw [c7b0]) | skip)
      have H' := Aside0.mk H
      clear H
      go_wp2
      go_meet
      case rel => exact ⟨_, (true), (by first | rfl | (simp; done) | (simp [*]; done)), H', ⟨by first | omega | exact Nat.le_refl _⟩, ⟨by repeat (first | (with_reducible first | exact HB.out | apply below_alloc | apply pw_below_drewN | apply below_drew1) | exact HB.out)⟩⟩
    · rw [if_neg c7] at H
      have c7b0 : decide (100 < (a0.size : Int)) = false := decide_eq_false c7
      have c7b1 : decide (100 < a0.size) = false := decide_eq_false (by omega)
      clear c7
      (first | rw [c7b0] | (simp only [i64_w, i32_w]; rw [c7b0]) | skip)
      have H' := Aside0.mk H
      clear H
      go_wp2
      go_meet
      case rel => exact ⟨_, (decide ((a1.size : Int) > 100)), (by first | rfl | (simp; done) | (simp [*]; done)), H', ⟨by first | omega | exact Nat.le_refl _⟩, ⟨by repeat (first | (with_reducible first | exact HB.out | apply below_alloc | apply pw_below_drewN | apply below_drew1) | exact HB.out)⟩⟩
  case rest =>
    clear HC5
    try clear p2
    try clear c3
    try clear c7
    try clear c7b0
    try clear c7b1
    obtain ⟨kq, x24_4, rfl, HA, HJ4, HB⟩ := hcut
    cases kq with
    | zero => exact absurd HA.out (by simp [flaillaw13_ScriptWithin.j0])
    | succ kj4 =>
      have H := HA.out
      clear HA
      simp only [flaillaw13_ScriptWithin.j0] at H
      try simp only [hX0, hY1, hY2, hY3, hY4, hY5, hY6, hY7, hY8, hY9, hZ7, hZ8] at H
      by_cases c8 : x24_4 = true
      · subst c8
        have H1 : (some t114) = some r := by rw [if_pos rfl] at H; exact H
        clear H
        have H := H1
        clear H1
        obtain rfl := Option.some.inj H
        go_wp2
        go_ret
        exact ⟨by first | rfl | (simp [errW_none, errW_some] <;> rfl) | (simp [*, errW_none, errW_some] <;> rfl), by repeat (first | (with_reducible first | exact HB.out | apply below_alloc | apply pw_below_drewN | apply below_drew1) | exact HB.out)⟩
      · replace c8 := Bool.eq_false_iff.mpr c8
        subst c8
        have H1 : (if a0.size + a1.size ≤ 9223372036854775807 then (flaillaw13_ScriptWithin.l0 kj4 a0 a1 a2 t114 X0 0) else (none)) = some r := by rw [if_neg (show ¬ (false = true) by decide)] at H; exact H
        clear H
        have H := H1
        clear H1
        by_cases c9 : a0.size + a1.size ≤ 9223372036854775807
        · rw [if_pos c9] at H
          have c9b0 := eq_true c9
          have c9b1 : decide (a0.size + a1.size ≤ 9223372036854775807) = true := decide_eq_true c9
          try have c9b2 : (9223372036854775807 < a0.size + a1.size) = False := eq_false (Nat.not_lt.2 c9)
          have H' := Aside0.mk H
          clear H
          go_wp2
          go_loopg [9] kj4 (fun kq v9 w' => ∃ (x9_2 : Int), v9 = .int .i64 x9_2 ∧ Aside0 (flaillaw13_ScriptWithin.l0 kq a0 a1 a2 t114 X0 x9_2 = some r) ∧ Aside0 (kq ≤ kj4) ∧ Aside0 (Below w.heap.size w w'))
          case atStart => exact ⟨(0), (by first | rfl | (simp; done) | (simp [*]; done)), H', ⟨Nat.le_refl _⟩, ⟨by repeat (first | (with_reducible first | exact HB.out | apply below_alloc | apply pw_below_drewN | apply below_drew1) | exact HB.out)⟩⟩
          case round =>
            clear H'
            try clear p2
            try clear c3
            try clear c7
            try clear c7b0
            try clear c7b1
            try clear c8
            try clear c9
            try clear c9b0
            try clear c9b1
            try clear c9b2
            try clear p2
            obtain ⟨x9_2, rfl, HA, HK2, HB⟩ := hrel
            cases gk with
            | zero => exact absurd HA.out (by simp [flaillaw13_ScriptWithin.l0])
            | succ k2 =>
              have H := HA.out
              clear HA
              simp only [flaillaw13_ScriptWithin.l0] at H
              try simp only [hX0, hY1, hY2, hY3, hY4, hY5, hY6, hY7, hY8, hY9, hZ7, hZ8] at H
              by_cases c10 : x9_2 < (X0.size : Int)
              · rw [if_pos c10] at H
                have c10b0 : decide (x9_2 < (X0.size : Int)) = true := decide_eq_true c10
                clear c10
                by_cases c11 : 0 ≤ x9_2
                · rw [if_pos c11] at H
                  have c11b0 : decide (0 ≤ x9_2) = true := decide_eq_true c11
                  clear c11
                  by_cases c13 : (bt X0 x9_2) = 45
                  · rw [if_pos c13] at H
                    have c13b0 : ((bt X0 x9_2) == 45) = true := beq_iff_eq.mpr c13
                    have c13b1 : ((bt X0 x9_2) != 45) = false := bne_eq_false_iff_eq.mpr c13
                    clear c13
                    obtain rfl := Option.some.inj H
                    have p12 : 0 ≤ (x9_2 : Int) := of_decide_eq_true (by first | (with_reducible assumption) | assumption)
                    have q12 : x9_2 < (X0.size : Int) := of_decide_eq_true (by first | (with_reducible assumption) | assumption)
                    have hx12 := bt_at X0 x9_2
                    replace p12 := eq_true p12
                    replace q12 := eq_true q12
                    go_wp2
                    go_ret
                    exact ⟨by first | rfl | (simp [errW_none, errW_some] <;> rfl) | (simp [*, errW_none, errW_some] <;> rfl), by repeat (first | (with_reducible first | exact HB.out | apply below_alloc | apply pw_below_drewN | apply below_drew1) | exact HB.out)⟩
                  · rw [if_neg c13] at H
                    have c13b0 : ((bt X0 x9_2) == 45) = false := beq_eq_false_iff_ne.mpr c13
                    have c13b1 : ((bt X0 x9_2) != 45) = true := bne_iff_ne.mpr c13
                    by_cases c15 : (bt X0 x9_2) = 60
                    · rw [if_pos c15] at H
                      have c15b0 : ((bt X0 x9_2) == 60) = true := beq_iff_eq.mpr c15
                      have c15b1 : ((bt X0 x9_2) != 60) = false := bne_eq_false_iff_eq.mpr c15
                      clear c15
                      obtain rfl := Option.some.inj H
                      have p12 : 0 ≤ (x9_2 : Int) := of_decide_eq_true (by first | (with_reducible assumption) | assumption)
                      have q12 : x9_2 < (X0.size : Int) := of_decide_eq_true (by first | (with_reducible assumption) | assumption)
                      have hx12 := bt_at X0 x9_2
                      replace p12 := eq_true p12
                      replace q12 := eq_true q12
                      have p14 : 0 ≤ (x9_2 : Int) := of_decide_eq_true (by first | (with_reducible assumption) | assumption)
                      have q14 : x9_2 < (X0.size : Int) := of_decide_eq_true (by first | (with_reducible assumption) | assumption)
                      have hx14 := bt_at X0 x9_2
                      replace p14 := eq_true p14
                      replace q14 := eq_true q14
                      go_wp2
                      go_ret
                      exact ⟨by first | rfl | (simp [errW_none, errW_some] <;> rfl) | (simp [*, errW_none, errW_some] <;> rfl), by repeat (first | (with_reducible first | exact HB.out | apply below_alloc | apply pw_below_drewN | apply below_drew1) | exact HB.out)⟩
                    · rw [if_neg c15] at H
                      have c15b0 : ((bt X0 x9_2) == 60) = false := beq_eq_false_iff_ne.mpr c15
                      have c15b1 : ((bt X0 x9_2) != 60) = true := bne_iff_ne.mpr c15
                      by_cases c17 : (bt X0 x9_2) = 62
                      · rw [if_pos c17] at H
                        have c17b0 : ((bt X0 x9_2) == 62) = true := beq_iff_eq.mpr c17
                        have c17b1 : ((bt X0 x9_2) != 62) = false := bne_eq_false_iff_eq.mpr c17
                        clear c17
                        obtain rfl := Option.some.inj H
                        have p12 : 0 ≤ (x9_2 : Int) := of_decide_eq_true (by first | (with_reducible assumption) | assumption)
                        have q12 : x9_2 < (X0.size : Int) := of_decide_eq_true (by first | (with_reducible assumption) | assumption)
                        have hx12 := bt_at X0 x9_2
                        replace p12 := eq_true p12
                        replace q12 := eq_true q12
                        have p14 : 0 ≤ (x9_2 : Int) := of_decide_eq_true (by first | (with_reducible assumption) | assumption)
                        have q14 : x9_2 < (X0.size : Int) := of_decide_eq_true (by first | (with_reducible assumption) | assumption)
                        have hx14 := bt_at X0 x9_2
                        replace p14 := eq_true p14
                        replace q14 := eq_true q14
                        have p16 : 0 ≤ (x9_2 : Int) := of_decide_eq_true (by first | (with_reducible assumption) | assumption)
                        have q16 : x9_2 < (X0.size : Int) := of_decide_eq_true (by first | (with_reducible assumption) | assumption)
                        have hx16 := bt_at X0 x9_2
                        replace p16 := eq_true p16
                        replace q16 := eq_true q16
                        go_wp2
                        go_ret
                        exact ⟨by first | rfl | (simp [errW_none, errW_some] <;> rfl) | (simp [*, errW_none, errW_some] <;> rfl), by repeat (first | (with_reducible first | exact HB.out | apply below_alloc | apply pw_below_drewN | apply below_drew1) | exact HB.out)⟩
                      · rw [if_neg c17] at H
                        have c17b0 : ((bt X0 x9_2) == 62) = false := beq_eq_false_iff_ne.mpr c17
                        have c17b1 : ((bt X0 x9_2) != 62) = true := bne_iff_ne.mpr c17
                        have H' := Aside0.mk H
                        clear H
                        have p12 : 0 ≤ (x9_2 : Int) := of_decide_eq_true (by first | (with_reducible assumption) | assumption)
                        have q12 : x9_2 < (X0.size : Int) := of_decide_eq_true (by first | (with_reducible assumption) | assumption)
                        have hx12 := bt_at X0 x9_2
                        replace p12 := eq_true p12
                        replace q12 := eq_true q12
                        have p14 : 0 ≤ (x9_2 : Int) := of_decide_eq_true (by first | (with_reducible assumption) | assumption)
                        have q14 : x9_2 < (X0.size : Int) := of_decide_eq_true (by first | (with_reducible assumption) | assumption)
                        have hx14 := bt_at X0 x9_2
                        replace p14 := eq_true p14
                        replace q14 := eq_true q14
                        have p16 : 0 ≤ (x9_2 : Int) := of_decide_eq_true (by first | (with_reducible assumption) | assumption)
                        have q16 : x9_2 < (X0.size : Int) := of_decide_eq_true (by first | (with_reducible assumption) | assumption)
                        have hx16 := bt_at X0 x9_2
                        replace p16 := eq_true p16
                        replace q16 := eq_true q16
                        go_wp2
                        go_roundg k2
                        case measure => have := HJ4.out; have := HK2.out; omega
                        case rel => exact ⟨(wrap64 (x9_2 + 1)), (by first | rfl | (simp; done) | (simp [*]; done)), H', ⟨by have := HJ4.out; have := HK2.out; omega⟩, ⟨by repeat (first | (with_reducible first | exact HB.out | apply below_alloc | apply pw_below_drewN | apply below_drew1) | exact HB.out)⟩⟩
                · rw [if_neg c11] at H
                  exact absurd H (by simp)
              · rw [if_neg c10] at H
                have c10b0 : decide (x9_2 < (X0.size : Int)) = false := decide_eq_false c10
                clear c10
                by_cases c18 : a0.size + 4 ≤ 9223372036854775807
                · rw [if_pos c18] at H
                  have c18b0 := eq_true c18
                  have c18b1 : decide (a0.size + 4 ≤ 9223372036854775807) = true := decide_eq_true c18
                  try have c18b2 : (9223372036854775807 < a0.size + 4) = False := eq_false (Nat.not_lt.2 c18)
                  by_cases c19 : Y1.size + a1.size ≤ 9223372036854775807
                  · rw [if_pos c19] at H
                    have c19b0 := eq_true c19
                    have c19b1 : decide (Y1.size + a1.size ≤ 9223372036854775807) = true := decide_eq_true c19
                    try have c19b2 : (9223372036854775807 < Y1.size + a1.size) = False := eq_false (Nat.not_lt.2 c19)
                    by_cases c20 : Y2.size + 8 ≤ 9223372036854775807
                    · rw [if_pos c20] at H
                      have c20b0 := eq_true c20
                      have c20b1 : decide (Y2.size + 8 ≤ 9223372036854775807) = true := decide_eq_true c20
                      try have c20b2 : (9223372036854775807 < Y2.size + 8) = False := eq_false (Nat.not_lt.2 c20)
                      by_cases c21 : Y3.size + a0.size ≤ 9223372036854775807
                      · rw [if_pos c21] at H
                        have c21b0 := eq_true c21
                        have c21b1 : decide (Y3.size + a0.size ≤ 9223372036854775807) = true := decide_eq_true c21
                        try have c21b2 : (9223372036854775807 < Y3.size + a0.size) = False := eq_false (Nat.not_lt.2 c21)
                        by_cases c22 : Y4.size + 9 ≤ 9223372036854775807
                        · rw [if_pos c22] at H
                          have c22b0 := eq_true c22
                          have c22b1 : decide (Y4.size + 9 ≤ 9223372036854775807) = true := decide_eq_true c22
                          try have c22b2 : (9223372036854775807 < Y4.size + 9) = False := eq_false (Nat.not_lt.2 c22)
                          by_cases c23 : Y5.size + a1.size ≤ 9223372036854775807
                          · rw [if_pos c23] at H
                            have c23b0 := eq_true c23
                            have c23b1 : decide (Y5.size + a1.size ≤ 9223372036854775807) = true := decide_eq_true c23
                            try have c23b2 : (9223372036854775807 < Y5.size + a1.size) = False := eq_false (Nat.not_lt.2 c23)
                            by_cases c24 : a2 = true
                            · subst c24
                              have H1 : (if Y6.size + 3 ≤ 9223372036854775807 then (if Y7.size + 9 ≤ 9223372036854775807 then (if Y8.size + a0.size ≤ 9223372036854775807 then ((script_Find.f k2 Y9 0).bind fun bt115 => ((script_Find.f k2 Y4 0).bind fun bt117 => (if t114 = true then (if bt115.1 = (Y7.size : Int) then (if bt115.2 = 0 then (if bt117.2 = 2 then (some (bt117.1 == (wrap64 ((wrap64 ((wrap64 (2 * (a0.size : Int))) + (a1.size : Int))) + 12)))) else (some false)) else (some false)) else (some false)) else (some false)))) else (none)) else (none)) else (none)) = some r := by rw [if_pos rfl] at H; exact H
                              clear H
                              have H := H1
                              clear H1
                              by_cases c25 : Y6.size + 3 ≤ 9223372036854775807
                              · rw [if_pos c25] at H
                                have c25b0 := eq_true c25
                                have c25b1 : decide (Y6.size + 3 ≤ 9223372036854775807) = true := decide_eq_true c25
                                try have c25b2 : (9223372036854775807 < Y6.size + 3) = False := eq_false (Nat.not_lt.2 c25)
                                by_cases c26 : Y7.size + 9 ≤ 9223372036854775807
                                · rw [if_pos c26] at H
                                  have c26b0 := eq_true c26
                                  have c26b1 : decide (Y7.size + 9 ≤ 9223372036854775807) = true := decide_eq_true c26
                                  try have c26b2 : (9223372036854775807 < Y7.size + 9) = False := eq_false (Nat.not_lt.2 c26)
                                  by_cases c27 : Y8.size + a0.size ≤ 9223372036854775807
                                  · rw [if_pos c27] at H
                                    have c27b0 := eq_true c27
                                    have c27b1 : decide (Y8.size + a0.size ≤ 9223372036854775807) = true := decide_eq_true c27
                                    try have c27b2 : (9223372036854775807 < Y8.size + a0.size) = False := eq_false (Nat.not_lt.2 c27)
                                    replace H := Option.bind_eq_some_iff.mp H
                                    obtain ⟨⟨t115, t116⟩, A280, H⟩ := H
                                    replace H : ((script_Find.f k2 Y4 0).bind fun bt117 => (if t114 = true then (if t115 = (Y7.size : Int) then (if t116 = 0 then (if bt117.2 = 2 then (some (bt117.1 == (wrap64 ((wrap64 ((wrap64 (2 * (a0.size : Int))) + (a1.size : Int))) + 12)))) else (some false)) else (some false)) else (some false)) else (some false))) = some r := H
                                    have A28 := Aside0.mk A280
                                    clear A280
                                    replace H := Option.bind_eq_some_iff.mp H
                                    obtain ⟨⟨t117, t118⟩, A290, H⟩ := H
                                    replace H : (if t114 = true then (if t115 = (Y7.size : Int) then (if t116 = 0 then (if t118 = 2 then (some (t117 == (wrap64 ((wrap64 ((wrap64 (2 * (a0.size : Int))) + (a1.size : Int))) + 12)))) else (some false)) else (some false)) else (some false)) else (some false)) = some r := H
                                    have A29 := Aside0.mk A290
                                    clear A290
                                    by_cases c30 : t114 = true
                                    · subst c30
                                      have H1 : (if t115 = (Y7.size : Int) then (if t116 = 0 then (if t118 = 2 then (some (t117 == (wrap64 ((wrap64 ((wrap64 (2 * (a0.size : Int))) + (a1.size : Int))) + 12)))) else (some false)) else (some false)) else (some false)) = some r := by rw [if_pos rfl] at H; exact H
                                      clear H
                                      have H := H1
                                      clear H1
                                      by_cases c31 : t115 = (Y7.size : Int)
                                      · rw [if_pos c31] at H
                                        have c31b0 : (t115 == (Y7.size : Int)) = true := beq_iff_eq.mpr c31
                                        have c31b1 : (t115 != (Y7.size : Int)) = false := bne_eq_false_iff_eq.mpr c31
                                        clear c31
                                        by_cases c32 : t116 = 0
                                        · rw [if_pos c32] at H
                                          have c32b0 : (t116 == 0) = true := beq_iff_eq.mpr c32
                                          have c32b1 : (t116 != 0) = false := bne_eq_false_iff_eq.mpr c32
                                          clear c32
                                          by_cases c33 : t118 = 2
                                          · rw [if_pos c33] at H
                                            have c33b0 : (t118 == 2) = true := beq_iff_eq.mpr c33
                                            have c33b1 : (t118 != 2) = false := bne_eq_false_iff_eq.mpr c33
                                            clear c33
                                            obtain rfl := Option.some.inj H
                                            go_wp2_with (first | ((with_reducible refine gate_callee (f := 32) rfl ?_); refine goesL_ (some 70) rfl rfl Tryd.func32 (by kernel_rfl) rfl #[.string Y9, .int .i64 0] rfl (by (try simp only [List.map_toArray, List.map_cons, List.map_nil]); first | done | rfl | (simp only [List.length_drop, List.length_take]; rfl)) ?_; (with_reducible refine (script_Find.calls k2 Y9 0 t115 t116 _ A28.out).mono ?_); rintro e w34 ⟨rfl, hb⟩; refine ⟨_, rfl, ?_⟩; have n0_ := Aside0.mk (below_step (by repeat (first | (with_reducible first | exact HB.out | apply below_alloc | apply pw_below_drewN | apply below_drew1) | exact HB.out)) hb); clear HB; have HB := n0_; clear n0_; (try clear hb); (try clear hb2); (try clear hk); (try clear hi)) | ((with_reducible refine gate_callee (f := 32) rfl ?_); refine goesL_ (some 81) rfl rfl Tryd.func32 (by kernel_rfl) rfl #[.string Y4, .int .i64 0] rfl (by (try simp only [List.map_toArray, List.map_cons, List.map_nil]); first | done | rfl | (simp only [List.length_drop, List.length_take]; rfl)) ?_; (with_reducible refine (script_Find.calls k2 Y4 0 t117 t118 _ A29.out).mono ?_); rintro e w35 ⟨rfl, hb⟩; refine ⟨_, rfl, ?_⟩; have n0_ := Aside0.mk (below_step (by repeat (first | (with_reducible first | exact HB.out | apply below_alloc | apply pw_below_drewN | apply below_drew1) | exact HB.out)) hb); clear HB; have HB := n0_; clear n0_; (try clear hb); (try clear hb2); (try clear hk); (try clear hi)))
                                            go_ret
                                            exact ⟨by first | rfl | (simp [errW_none, errW_some] <;> rfl) | (simp [*, errW_none, errW_some] <;> rfl), by repeat (first | (with_reducible first | exact HB.out | apply below_alloc | apply pw_below_drewN | apply below_drew1) | exact HB.out)⟩
                                          · rw [if_neg c33] at H
                                            have c33b0 : (t118 == 2) = false := beq_eq_false_iff_ne.mpr c33
                                            have c33b1 : (t118 != 2) = true := bne_iff_ne.mpr c33
                                            obtain rfl := Option.some.inj H
                                            go_wp2_with (first | ((with_reducible refine gate_callee (f := 32) rfl ?_); refine goesL_ (some 70) rfl rfl Tryd.func32 (by kernel_rfl) rfl #[.string Y9, .int .i64 0] rfl (by (try simp only [List.map_toArray, List.map_cons, List.map_nil]); first | done | rfl | (simp only [List.length_drop, List.length_take]; rfl)) ?_; (with_reducible refine (script_Find.calls k2 Y9 0 t115 t116 _ A28.out).mono ?_); rintro e w36 ⟨rfl, hb⟩; refine ⟨_, rfl, ?_⟩; have n0_ := Aside0.mk (below_step (by repeat (first | (with_reducible first | exact HB.out | apply below_alloc | apply pw_below_drewN | apply below_drew1) | exact HB.out)) hb); clear HB; have HB := n0_; clear n0_; (try clear hb); (try clear hb2); (try clear hk); (try clear hi)) | ((with_reducible refine gate_callee (f := 32) rfl ?_); refine goesL_ (some 81) rfl rfl Tryd.func32 (by kernel_rfl) rfl #[.string Y4, .int .i64 0] rfl (by (try simp only [List.map_toArray, List.map_cons, List.map_nil]); first | done | rfl | (simp only [List.length_drop, List.length_take]; rfl)) ?_; (with_reducible refine (script_Find.calls k2 Y4 0 t117 t118 _ A29.out).mono ?_); rintro e w37 ⟨rfl, hb⟩; refine ⟨_, rfl, ?_⟩; have n0_ := Aside0.mk (below_step (by repeat (first | (with_reducible first | exact HB.out | apply below_alloc | apply pw_below_drewN | apply below_drew1) | exact HB.out)) hb); clear HB; have HB := n0_; clear n0_; (try clear hb); (try clear hb2); (try clear hk); (try clear hi)))
                                            go_ret
                                            exact ⟨by first | rfl | (simp [errW_none, errW_some] <;> rfl) | (simp [*, errW_none, errW_some] <;> rfl), by repeat (first | (with_reducible first | exact HB.out | apply below_alloc | apply pw_below_drewN | apply below_drew1) | exact HB.out)⟩
                                        · rw [if_neg c32] at H
                                          have c32b0 : (t116 == 0) = false := beq_eq_false_iff_ne.mpr c32
                                          have c32b1 : (t116 != 0) = true := bne_iff_ne.mpr c32
                                          obtain rfl := Option.some.inj H
                                          go_wp2_with (first | ((with_reducible refine gate_callee (f := 32) rfl ?_); refine goesL_ (some 70) rfl rfl Tryd.func32 (by kernel_rfl) rfl #[.string Y9, .int .i64 0] rfl (by (try simp only [List.map_toArray, List.map_cons, List.map_nil]); first | done | rfl | (simp only [List.length_drop, List.length_take]; rfl)) ?_; (with_reducible refine (script_Find.calls k2 Y9 0 t115 t116 _ A28.out).mono ?_); rintro e w38 ⟨rfl, hb⟩; refine ⟨_, rfl, ?_⟩; have n0_ := Aside0.mk (below_step (by repeat (first | (with_reducible first | exact HB.out | apply below_alloc | apply pw_below_drewN | apply below_drew1) | exact HB.out)) hb); clear HB; have HB := n0_; clear n0_; (try clear hb); (try clear hb2); (try clear hk); (try clear hi)) | ((with_reducible refine gate_callee (f := 32) rfl ?_); refine goesL_ (some 81) rfl rfl Tryd.func32 (by kernel_rfl) rfl #[.string Y4, .int .i64 0] rfl (by (try simp only [List.map_toArray, List.map_cons, List.map_nil]); first | done | rfl | (simp only [List.length_drop, List.length_take]; rfl)) ?_; (with_reducible refine (script_Find.calls k2 Y4 0 t117 t118 _ A29.out).mono ?_); rintro e w39 ⟨rfl, hb⟩; refine ⟨_, rfl, ?_⟩; have n0_ := Aside0.mk (below_step (by repeat (first | (with_reducible first | exact HB.out | apply below_alloc | apply pw_below_drewN | apply below_drew1) | exact HB.out)) hb); clear HB; have HB := n0_; clear n0_; (try clear hb); (try clear hb2); (try clear hk); (try clear hi)))
                                          go_ret
                                          exact ⟨by first | rfl | (simp [errW_none, errW_some] <;> rfl) | (simp [*, errW_none, errW_some] <;> rfl), by repeat (first | (with_reducible first | exact HB.out | apply below_alloc | apply pw_below_drewN | apply below_drew1) | exact HB.out)⟩
                                      · rw [if_neg c31] at H
                                        have c31b0 : (t115 == (Y7.size : Int)) = false := beq_eq_false_iff_ne.mpr c31
                                        have c31b1 : (t115 != (Y7.size : Int)) = true := bne_iff_ne.mpr c31
                                        obtain rfl := Option.some.inj H
                                        go_wp2_with (first | ((with_reducible refine gate_callee (f := 32) rfl ?_); refine goesL_ (some 70) rfl rfl Tryd.func32 (by kernel_rfl) rfl #[.string Y9, .int .i64 0] rfl (by (try simp only [List.map_toArray, List.map_cons, List.map_nil]); first | done | rfl | (simp only [List.length_drop, List.length_take]; rfl)) ?_; (with_reducible refine (script_Find.calls k2 Y9 0 t115 t116 _ A28.out).mono ?_); rintro e w40 ⟨rfl, hb⟩; refine ⟨_, rfl, ?_⟩; have n0_ := Aside0.mk (below_step (by repeat (first | (with_reducible first | exact HB.out | apply below_alloc | apply pw_below_drewN | apply below_drew1) | exact HB.out)) hb); clear HB; have HB := n0_; clear n0_; (try clear hb); (try clear hb2); (try clear hk); (try clear hi)) | ((with_reducible refine gate_callee (f := 32) rfl ?_); refine goesL_ (some 81) rfl rfl Tryd.func32 (by kernel_rfl) rfl #[.string Y4, .int .i64 0] rfl (by (try simp only [List.map_toArray, List.map_cons, List.map_nil]); first | done | rfl | (simp only [List.length_drop, List.length_take]; rfl)) ?_; (with_reducible refine (script_Find.calls k2 Y4 0 t117 t118 _ A29.out).mono ?_); rintro e w41 ⟨rfl, hb⟩; refine ⟨_, rfl, ?_⟩; have n0_ := Aside0.mk (below_step (by repeat (first | (with_reducible first | exact HB.out | apply below_alloc | apply pw_below_drewN | apply below_drew1) | exact HB.out)) hb); clear HB; have HB := n0_; clear n0_; (try clear hb); (try clear hb2); (try clear hk); (try clear hi)))
                                        go_ret
                                        exact ⟨by first | rfl | (simp [errW_none, errW_some] <;> rfl) | (simp [*, errW_none, errW_some] <;> rfl), by repeat (first | (with_reducible first | exact HB.out | apply below_alloc | apply pw_below_drewN | apply below_drew1) | exact HB.out)⟩
                                    · replace c30 := Bool.eq_false_iff.mpr c30
                                      subst c30
                                      have H1 : (some false) = some r := by rw [if_neg (show ¬ (false = true) by decide)] at H; exact H
                                      clear H
                                      have H := H1
                                      clear H1
                                      obtain rfl := Option.some.inj H
                                      go_wp2_with (first | ((with_reducible refine gate_callee (f := 32) rfl ?_); refine goesL_ (some 70) rfl rfl Tryd.func32 (by kernel_rfl) rfl #[.string Y9, .int .i64 0] rfl (by (try simp only [List.map_toArray, List.map_cons, List.map_nil]); first | done | rfl | (simp only [List.length_drop, List.length_take]; rfl)) ?_; (with_reducible refine (script_Find.calls k2 Y9 0 t115 t116 _ A28.out).mono ?_); rintro e w42 ⟨rfl, hb⟩; refine ⟨_, rfl, ?_⟩; have n0_ := Aside0.mk (below_step (by repeat (first | (with_reducible first | exact HB.out | apply below_alloc | apply pw_below_drewN | apply below_drew1) | exact HB.out)) hb); clear HB; have HB := n0_; clear n0_; (try clear hb); (try clear hb2); (try clear hk); (try clear hi)) | ((with_reducible refine gate_callee (f := 32) rfl ?_); refine goesL_ (some 81) rfl rfl Tryd.func32 (by kernel_rfl) rfl #[.string Y4, .int .i64 0] rfl (by (try simp only [List.map_toArray, List.map_cons, List.map_nil]); first | done | rfl | (simp only [List.length_drop, List.length_take]; rfl)) ?_; (with_reducible refine (script_Find.calls k2 Y4 0 t117 t118 _ A29.out).mono ?_); rintro e w43 ⟨rfl, hb⟩; refine ⟨_, rfl, ?_⟩; have n0_ := Aside0.mk (below_step (by repeat (first | (with_reducible first | exact HB.out | apply below_alloc | apply pw_below_drewN | apply below_drew1) | exact HB.out)) hb); clear HB; have HB := n0_; clear n0_; (try clear hb); (try clear hb2); (try clear hk); (try clear hi)))
                                      go_ret
                                      exact ⟨by first | rfl | (simp [errW_none, errW_some] <;> rfl) | (simp [*, errW_none, errW_some] <;> rfl), by repeat (first | (with_reducible first | exact HB.out | apply below_alloc | apply pw_below_drewN | apply below_drew1) | exact HB.out)⟩
                                  · rw [if_neg c27] at H
                                    exact absurd H (by simp)
                                · rw [if_neg c26] at H
                                  exact absurd H (by simp)
                              · rw [if_neg c25] at H
                                exact absurd H (by simp)
                            · replace c24 := Bool.eq_false_iff.mpr c24
                              subst c24
                              have H1 : (if Y6.size + 9 ≤ 9223372036854775807 then (if Z7.size + a0.size ≤ 9223372036854775807 then ((script_Find.f k2 Z8 0).bind fun bt119 => ((script_Find.f k2 Y4 0).bind fun bt121 => (if t114 = true then (if bt119.1 = (Y6.size : Int) then (if bt119.2 = 1 then (if bt121.2 = 2 then (some (bt121.1 == (wrap64 ((wrap64 ((wrap64 (2 * (a0.size : Int))) + (a1.size : Int))) + 12)))) else (some false)) else (some false)) else (some false)) else (some false)))) else (none)) else (none)) = some r := by rw [if_neg (show ¬ (false = true) by decide)] at H; exact H
                              clear H
                              have H := H1
                              clear H1
                              by_cases c44 : Y6.size + 9 ≤ 9223372036854775807
                              · rw [if_pos c44] at H
                                have c44b0 := eq_true c44
                                have c44b1 : decide (Y6.size + 9 ≤ 9223372036854775807) = true := decide_eq_true c44
                                try have c44b2 : (9223372036854775807 < Y6.size + 9) = False := eq_false (Nat.not_lt.2 c44)
                                by_cases c45 : Z7.size + a0.size ≤ 9223372036854775807
                                · rw [if_pos c45] at H
                                  have c45b0 := eq_true c45
                                  have c45b1 : decide (Z7.size + a0.size ≤ 9223372036854775807) = true := decide_eq_true c45
                                  try have c45b2 : (9223372036854775807 < Z7.size + a0.size) = False := eq_false (Nat.not_lt.2 c45)
                                  replace H := Option.bind_eq_some_iff.mp H
                                  obtain ⟨⟨t119, t120⟩, A460, H⟩ := H
                                  replace H : ((script_Find.f k2 Y4 0).bind fun bt121 => (if t114 = true then (if t119 = (Y6.size : Int) then (if t120 = 1 then (if bt121.2 = 2 then (some (bt121.1 == (wrap64 ((wrap64 ((wrap64 (2 * (a0.size : Int))) + (a1.size : Int))) + 12)))) else (some false)) else (some false)) else (some false)) else (some false))) = some r := H
                                  have A46 := Aside0.mk A460
                                  clear A460
                                  replace H := Option.bind_eq_some_iff.mp H
                                  obtain ⟨⟨t121, t122⟩, A470, H⟩ := H
                                  replace H : (if t114 = true then (if t119 = (Y6.size : Int) then (if t120 = 1 then (if t122 = 2 then (some (t121 == (wrap64 ((wrap64 ((wrap64 (2 * (a0.size : Int))) + (a1.size : Int))) + 12)))) else (some false)) else (some false)) else (some false)) else (some false)) = some r := H
                                  have A47 := Aside0.mk A470
                                  clear A470
                                  by_cases c48 : t114 = true
                                  · subst c48
                                    have H1 : (if t119 = (Y6.size : Int) then (if t120 = 1 then (if t122 = 2 then (some (t121 == (wrap64 ((wrap64 ((wrap64 (2 * (a0.size : Int))) + (a1.size : Int))) + 12)))) else (some false)) else (some false)) else (some false)) = some r := by rw [if_pos rfl] at H; exact H
                                    clear H
                                    have H := H1
                                    clear H1
                                    by_cases c49 : t119 = (Y6.size : Int)
                                    · rw [if_pos c49] at H
                                      have c49b0 : (t119 == (Y6.size : Int)) = true := beq_iff_eq.mpr c49
                                      have c49b1 : (t119 != (Y6.size : Int)) = false := bne_eq_false_iff_eq.mpr c49
                                      clear c49
                                      by_cases c50 : t120 = 1
                                      · rw [if_pos c50] at H
                                        have c50b0 : (t120 == 1) = true := beq_iff_eq.mpr c50
                                        have c50b1 : (t120 != 1) = false := bne_eq_false_iff_eq.mpr c50
                                        clear c50
                                        by_cases c51 : t122 = 2
                                        · rw [if_pos c51] at H
                                          have c51b0 : (t122 == 2) = true := beq_iff_eq.mpr c51
                                          have c51b1 : (t122 != 2) = false := bne_eq_false_iff_eq.mpr c51
                                          clear c51
                                          obtain rfl := Option.some.inj H
                                          go_wp2_with (first | ((with_reducible refine gate_callee (f := 32) rfl ?_); refine goesL_ (some 70) rfl rfl Tryd.func32 (by kernel_rfl) rfl #[.string Z8, .int .i64 0] rfl (by (try simp only [List.map_toArray, List.map_cons, List.map_nil]); first | done | rfl | (simp only [List.length_drop, List.length_take]; rfl)) ?_; (with_reducible refine (script_Find.calls k2 Z8 0 t119 t120 _ A46.out).mono ?_); rintro e w52 ⟨rfl, hb⟩; refine ⟨_, rfl, ?_⟩; have n0_ := Aside0.mk (below_step (by repeat (first | (with_reducible first | exact HB.out | apply below_alloc | apply pw_below_drewN | apply below_drew1) | exact HB.out)) hb); clear HB; have HB := n0_; clear n0_; (try clear hb); (try clear hb2); (try clear hk); (try clear hi)) | ((with_reducible refine gate_callee (f := 32) rfl ?_); refine goesL_ (some 81) rfl rfl Tryd.func32 (by kernel_rfl) rfl #[.string Y4, .int .i64 0] rfl (by (try simp only [List.map_toArray, List.map_cons, List.map_nil]); first | done | rfl | (simp only [List.length_drop, List.length_take]; rfl)) ?_; (with_reducible refine (script_Find.calls k2 Y4 0 t121 t122 _ A47.out).mono ?_); rintro e w53 ⟨rfl, hb⟩; refine ⟨_, rfl, ?_⟩; have n0_ := Aside0.mk (below_step (by repeat (first | (with_reducible first | exact HB.out | apply below_alloc | apply pw_below_drewN | apply below_drew1) | exact HB.out)) hb); clear HB; have HB := n0_; clear n0_; (try clear hb); (try clear hb2); (try clear hk); (try clear hi)))
                                          go_ret
                                          exact ⟨by first | rfl | (simp [errW_none, errW_some] <;> rfl) | (simp [*, errW_none, errW_some] <;> rfl), by repeat (first | (with_reducible first | exact HB.out | apply below_alloc | apply pw_below_drewN | apply below_drew1) | exact HB.out)⟩
                                        · rw [if_neg c51] at H
                                          have c51b0 : (t122 == 2) = false := beq_eq_false_iff_ne.mpr c51
                                          have c51b1 : (t122 != 2) = true := bne_iff_ne.mpr c51
                                          obtain rfl := Option.some.inj H
                                          go_wp2_with (first | ((with_reducible refine gate_callee (f := 32) rfl ?_); refine goesL_ (some 70) rfl rfl Tryd.func32 (by kernel_rfl) rfl #[.string Z8, .int .i64 0] rfl (by (try simp only [List.map_toArray, List.map_cons, List.map_nil]); first | done | rfl | (simp only [List.length_drop, List.length_take]; rfl)) ?_; (with_reducible refine (script_Find.calls k2 Z8 0 t119 t120 _ A46.out).mono ?_); rintro e w54 ⟨rfl, hb⟩; refine ⟨_, rfl, ?_⟩; have n0_ := Aside0.mk (below_step (by repeat (first | (with_reducible first | exact HB.out | apply below_alloc | apply pw_below_drewN | apply below_drew1) | exact HB.out)) hb); clear HB; have HB := n0_; clear n0_; (try clear hb); (try clear hb2); (try clear hk); (try clear hi)) | ((with_reducible refine gate_callee (f := 32) rfl ?_); refine goesL_ (some 81) rfl rfl Tryd.func32 (by kernel_rfl) rfl #[.string Y4, .int .i64 0] rfl (by (try simp only [List.map_toArray, List.map_cons, List.map_nil]); first | done | rfl | (simp only [List.length_drop, List.length_take]; rfl)) ?_; (with_reducible refine (script_Find.calls k2 Y4 0 t121 t122 _ A47.out).mono ?_); rintro e w55 ⟨rfl, hb⟩; refine ⟨_, rfl, ?_⟩; have n0_ := Aside0.mk (below_step (by repeat (first | (with_reducible first | exact HB.out | apply below_alloc | apply pw_below_drewN | apply below_drew1) | exact HB.out)) hb); clear HB; have HB := n0_; clear n0_; (try clear hb); (try clear hb2); (try clear hk); (try clear hi)))
                                          go_ret
                                          exact ⟨by first | rfl | (simp [errW_none, errW_some] <;> rfl) | (simp [*, errW_none, errW_some] <;> rfl), by repeat (first | (with_reducible first | exact HB.out | apply below_alloc | apply pw_below_drewN | apply below_drew1) | exact HB.out)⟩
                                      · rw [if_neg c50] at H
                                        have c50b0 : (t120 == 1) = false := beq_eq_false_iff_ne.mpr c50
                                        have c50b1 : (t120 != 1) = true := bne_iff_ne.mpr c50
                                        obtain rfl := Option.some.inj H
                                        go_wp2_with (first | ((with_reducible refine gate_callee (f := 32) rfl ?_); refine goesL_ (some 70) rfl rfl Tryd.func32 (by kernel_rfl) rfl #[.string Z8, .int .i64 0] rfl (by (try simp only [List.map_toArray, List.map_cons, List.map_nil]); first | done | rfl | (simp only [List.length_drop, List.length_take]; rfl)) ?_; (with_reducible refine (script_Find.calls k2 Z8 0 t119 t120 _ A46.out).mono ?_); rintro e w56 ⟨rfl, hb⟩; refine ⟨_, rfl, ?_⟩; have n0_ := Aside0.mk (below_step (by repeat (first | (with_reducible first | exact HB.out | apply below_alloc | apply pw_below_drewN | apply below_drew1) | exact HB.out)) hb); clear HB; have HB := n0_; clear n0_; (try clear hb); (try clear hb2); (try clear hk); (try clear hi)) | ((with_reducible refine gate_callee (f := 32) rfl ?_); refine goesL_ (some 81) rfl rfl Tryd.func32 (by kernel_rfl) rfl #[.string Y4, .int .i64 0] rfl (by (try simp only [List.map_toArray, List.map_cons, List.map_nil]); first | done | rfl | (simp only [List.length_drop, List.length_take]; rfl)) ?_; (with_reducible refine (script_Find.calls k2 Y4 0 t121 t122 _ A47.out).mono ?_); rintro e w57 ⟨rfl, hb⟩; refine ⟨_, rfl, ?_⟩; have n0_ := Aside0.mk (below_step (by repeat (first | (with_reducible first | exact HB.out | apply below_alloc | apply pw_below_drewN | apply below_drew1) | exact HB.out)) hb); clear HB; have HB := n0_; clear n0_; (try clear hb); (try clear hb2); (try clear hk); (try clear hi)))
                                        go_ret
                                        exact ⟨by first | rfl | (simp [errW_none, errW_some] <;> rfl) | (simp [*, errW_none, errW_some] <;> rfl), by repeat (first | (with_reducible first | exact HB.out | apply below_alloc | apply pw_below_drewN | apply below_drew1) | exact HB.out)⟩
                                    · rw [if_neg c49] at H
                                      have c49b0 : (t119 == (Y6.size : Int)) = false := beq_eq_false_iff_ne.mpr c49
                                      have c49b1 : (t119 != (Y6.size : Int)) = true := bne_iff_ne.mpr c49
                                      obtain rfl := Option.some.inj H
                                      go_wp2_with (first | ((with_reducible refine gate_callee (f := 32) rfl ?_); refine goesL_ (some 70) rfl rfl Tryd.func32 (by kernel_rfl) rfl #[.string Z8, .int .i64 0] rfl (by (try simp only [List.map_toArray, List.map_cons, List.map_nil]); first | done | rfl | (simp only [List.length_drop, List.length_take]; rfl)) ?_; (with_reducible refine (script_Find.calls k2 Z8 0 t119 t120 _ A46.out).mono ?_); rintro e w58 ⟨rfl, hb⟩; refine ⟨_, rfl, ?_⟩; have n0_ := Aside0.mk (below_step (by repeat (first | (with_reducible first | exact HB.out | apply below_alloc | apply pw_below_drewN | apply below_drew1) | exact HB.out)) hb); clear HB; have HB := n0_; clear n0_; (try clear hb); (try clear hb2); (try clear hk); (try clear hi)) | ((with_reducible refine gate_callee (f := 32) rfl ?_); refine goesL_ (some 81) rfl rfl Tryd.func32 (by kernel_rfl) rfl #[.string Y4, .int .i64 0] rfl (by (try simp only [List.map_toArray, List.map_cons, List.map_nil]); first | done | rfl | (simp only [List.length_drop, List.length_take]; rfl)) ?_; (with_reducible refine (script_Find.calls k2 Y4 0 t121 t122 _ A47.out).mono ?_); rintro e w59 ⟨rfl, hb⟩; refine ⟨_, rfl, ?_⟩; have n0_ := Aside0.mk (below_step (by repeat (first | (with_reducible first | exact HB.out | apply below_alloc | apply pw_below_drewN | apply below_drew1) | exact HB.out)) hb); clear HB; have HB := n0_; clear n0_; (try clear hb); (try clear hb2); (try clear hk); (try clear hi)))
                                      go_ret
                                      exact ⟨by first | rfl | (simp [errW_none, errW_some] <;> rfl) | (simp [*, errW_none, errW_some] <;> rfl), by repeat (first | (with_reducible first | exact HB.out | apply below_alloc | apply pw_below_drewN | apply below_drew1) | exact HB.out)⟩
                                  · replace c48 := Bool.eq_false_iff.mpr c48
                                    subst c48
                                    have H1 : (some false) = some r := by rw [if_neg (show ¬ (false = true) by decide)] at H; exact H
                                    clear H
                                    have H := H1
                                    clear H1
                                    obtain rfl := Option.some.inj H
                                    go_wp2_with (first | ((with_reducible refine gate_callee (f := 32) rfl ?_); refine goesL_ (some 70) rfl rfl Tryd.func32 (by kernel_rfl) rfl #[.string Z8, .int .i64 0] rfl (by (try simp only [List.map_toArray, List.map_cons, List.map_nil]); first | done | rfl | (simp only [List.length_drop, List.length_take]; rfl)) ?_; (with_reducible refine (script_Find.calls k2 Z8 0 t119 t120 _ A46.out).mono ?_); rintro e w60 ⟨rfl, hb⟩; refine ⟨_, rfl, ?_⟩; have n0_ := Aside0.mk (below_step (by repeat (first | (with_reducible first | exact HB.out | apply below_alloc | apply pw_below_drewN | apply below_drew1) | exact HB.out)) hb); clear HB; have HB := n0_; clear n0_; (try clear hb); (try clear hb2); (try clear hk); (try clear hi)) | ((with_reducible refine gate_callee (f := 32) rfl ?_); refine goesL_ (some 81) rfl rfl Tryd.func32 (by kernel_rfl) rfl #[.string Y4, .int .i64 0] rfl (by (try simp only [List.map_toArray, List.map_cons, List.map_nil]); first | done | rfl | (simp only [List.length_drop, List.length_take]; rfl)) ?_; (with_reducible refine (script_Find.calls k2 Y4 0 t121 t122 _ A47.out).mono ?_); rintro e w61 ⟨rfl, hb⟩; refine ⟨_, rfl, ?_⟩; have n0_ := Aside0.mk (below_step (by repeat (first | (with_reducible first | exact HB.out | apply below_alloc | apply pw_below_drewN | apply below_drew1) | exact HB.out)) hb); clear HB; have HB := n0_; clear n0_; (try clear hb); (try clear hb2); (try clear hk); (try clear hi)))
                                    go_ret
                                    exact ⟨by first | rfl | (simp [errW_none, errW_some] <;> rfl) | (simp [*, errW_none, errW_some] <;> rfl), by repeat (first | (with_reducible first | exact HB.out | apply below_alloc | apply pw_below_drewN | apply below_drew1) | exact HB.out)⟩
                                · rw [if_neg c45] at H
                                  exact absurd H (by simp)
                              · rw [if_neg c44] at H
                                exact absurd H (by simp)
                          · rw [if_neg c23] at H
                            exact absurd H (by simp)
                        · rw [if_neg c22] at H
                          exact absurd H (by simp)
                      · rw [if_neg c21] at H
                        exact absurd H (by simp)
                    · rw [if_neg c20] at H
                      exact absurd H (by simp)
                  · rw [if_neg c19] at H
                    exact absurd H (by simp)
                · rw [if_neg c18] at H
                  exact absurd H (by simp)
        · rw [if_neg c9] at H
          exact absurd H (by simp)

/-- THE ONE PURE STATEMENT of flaillaw13_ScriptWithin: yours. -/
def flaillaw13_ScriptWithin.Pure : Prop := ∀ (a0 : ByteArray) (a1 : ByteArray) (a2 : Bool), a0.size ≤ 140737488351232 → a1.size ≤ 140737488351232 → ∃ k, flaillaw13_ScriptWithin.f k a0 a1 a2 = some true
theorem flaillaw13_ScriptWithin.walk (P : flaillaw13_ScriptWithin.Pure) (a0 : ByteArray) (a1 : ByteArray) (a2 : Bool) (w : World) (w0 : a0.size ≤ 140737488351232) (w1 : a1.size ≤ 140737488351232) (hGl : Glob w) :
    Calls Tryd.prog 9 #[.string a0, .string a1, .bool a2] w fun e w' => e = .returned (.bool true) ∧ Below w.heap.size w w' := by
  obtain ⟨k, h⟩ := P a0 a1 a2 w0 w1
  refine (flaillaw13_ScriptWithin.calls k a0 a1 a2 true w hGl h).mono ?_
  rintro e w' ⟨rfl, hd⟩
  exact ⟨rfl, hd⟩

end Go.Proofs.YtppaobgccdlccaaDoor.Ls
