-- Written by a program of this session over the kit's printer: not by hand.
import Derived.Test.YtppaobgccdlccaaDoorLs0
import Derived.Test.YtppaobgccdlccaaDoorLs1
namespace Go.Proofs.YtppaobgccdlccaaDoor.Ls
open Go.RowKit Go.Proofs.YtppaobgccdlccaaDoor.K0 Go.Proofs.YtppaobgccdlccaaDoor.Hand Go.Proofs.YtppaobgccdlccaaDoor.Sa Go.Proofs.YtppaobgccdlccaaDoor.Sr Go.Proofs.YtppaobgccdlccaaDoorW.PrintWords Go.Proofs.YtppaobgccdlccaaDoorW.PrintLast Go.Proofs.YtppaobgccdlccaaDoorW.PrintMore
attribute [local go_sem] max2_int min2_int max_two min_two max_three min_three max_four min_four   -- for this text's walks alone
set_option linter.unusedVariables false
set_option linter.unusedSimpArgs false

/-! ### flaillaw13_ScriptRest: function 10 -/
mutual
def flaillaw13_ScriptRest.j0 : Nat → ByteArray → ByteArray → ByteArray → Bool → Bool → Option (Bool)
  | 0, _, _, _, _, _ => none
  | k + 1, x0, x1, x2, x7, x27 => if x27 = true then (some x7) else ((script_Find.f k x1 0).bind fun bt124 => (if x0.size + x1.size ≤ 9223372036854775807 then ((script_Find.f k (x0 ++ x1) (x0.size : Int)).bind fun bt126 => (if bt126.1 = (wrap64 ((x0.size : Int) + bt124.1)) then (flaillaw13_ScriptRest.j1 k x1 x2 x7 bt124.1 bt124.2 (bt126.2 != bt124.2)) else (flaillaw13_ScriptRest.j1 k x1 x2 x7 bt124.1 bt124.2 true))) else (none)))
def flaillaw13_ScriptRest.j1 : Nat → ByteArray → ByteArray → Bool → Int → Int → Bool → Option (Bool)
  | 0, _, _, _, _, _, _ => none
  | k + 1, x1, x2, x7, x8, x9, x53 => if x53 = true then (some false) else (if x8 = (x1.size : Int) then (some x7) else (if x1.size + x2.size ≤ 9223372036854775807 then ((script_Find.f k (x1 ++ x2) 0).bind fun bt128 => (if x7 = true then (if bt128.1 = x8 then (some (bt128.2 == x9)) else (some false)) else (some false))) else (none)))
end
def flaillaw13_ScriptRest.f (k : Nat) (a0 : ByteArray) (a1 : ByteArray) (a2 : ByteArray) : Option (Bool) := (flaillaw13_awake.f k).bind fun t123 => (if (a0.size : Int) > 300 then (flaillaw13_ScriptRest.j0 k a0 a1 a2 t123 true) else (if (a1.size : Int) > 300 then (flaillaw13_ScriptRest.j0 k a0 a1 a2 t123 true) else (flaillaw13_ScriptRest.j0 k a0 a1 a2 t123 (decide ((a2.size : Int) > 300)))))
theorem flaillaw13_ScriptRest.mono_l : ∀ k, (∀ y0 y1 y2 y3 y4, LeO (flaillaw13_ScriptRest.j0 k y0 y1 y2 y3 y4) (flaillaw13_ScriptRest.j0 (k + 1) y0 y1 y2 y3 y4)) ∧ (∀ y0 y1 y2 y3 y4 y5, LeO (flaillaw13_ScriptRest.j1 k y0 y1 y2 y3 y4 y5) (flaillaw13_ScriptRest.j1 (k + 1) y0 y1 y2 y3 y4 y5))
  | 0 => ⟨fun _ _ _ _ _ r h => by simp [flaillaw13_ScriptRest.j0] at h, fun _ _ _ _ _ _ r h => by simp [flaillaw13_ScriptRest.j1] at h⟩
  | k + 1 => by
    obtain ⟨ih0, ih1⟩ := flaillaw13_ScriptRest.mono_l k
    refine ⟨?_, ?_⟩
    · intro y0 y1 y2 y3 y4
      unfold flaillaw13_ScriptRest.j0
      repeat' first
      | (with_reducible exact ih0 _ _ _ _ _)
      | (with_reducible exact ih1 _ _ _ _ _ _)
      | (with_reducible exact flaillaw13_awake.mono _)
      | (with_reducible exact script_Find.mono _ _ _)
      | (with_reducible exact LeO.refl _)
      | (with_reducible exact LeO.none _)
      | (with_reducible refine LeO.ite ?_ ?_)
      | (with_reducible refine LeO.bind ?_ (fun _ => ?_))
      | exact ih0 _ _ _ _ _
      | exact ih1 _ _ _ _ _ _
      | exact flaillaw13_awake.mono _
      | exact script_Find.mono _ _ _
      | exact LeO.none _
      | refine LeO.ite ?_ ?_
      | refine LeO.bind ?_ (fun _ => ?_)
    · intro y0 y1 y2 y3 y4 y5
      unfold flaillaw13_ScriptRest.j1
      repeat' first
      | (with_reducible exact ih0 _ _ _ _ _)
      | (with_reducible exact ih1 _ _ _ _ _ _)
      | (with_reducible exact flaillaw13_awake.mono _)
      | (with_reducible exact script_Find.mono _ _ _)
      | (with_reducible exact LeO.refl _)
      | (with_reducible exact LeO.none _)
      | (with_reducible refine LeO.ite ?_ ?_)
      | (with_reducible refine LeO.bind ?_ (fun _ => ?_))
      | exact ih0 _ _ _ _ _
      | exact ih1 _ _ _ _ _ _
      | exact flaillaw13_awake.mono _
      | exact script_Find.mono _ _ _
      | exact LeO.none _
      | refine LeO.ite ?_ ?_
      | refine LeO.bind ?_ (fun _ => ?_)
theorem flaillaw13_ScriptRest.mono : ∀ a0 a1 a2 k, LeO (flaillaw13_ScriptRest.f k a0 a1 a2) (flaillaw13_ScriptRest.f (k + 1) a0 a1 a2) := by
  intro a0 a1 a2 k
  obtain ⟨ih0, ih1⟩ := flaillaw13_ScriptRest.mono_l k
  unfold flaillaw13_ScriptRest.f
  repeat' first
      | (with_reducible exact ih0 _ _ _ _ _)
      | (with_reducible exact ih1 _ _ _ _ _ _)
      | (with_reducible exact flaillaw13_awake.mono _)
      | (with_reducible exact script_Find.mono _ _ _)
      | (with_reducible exact LeO.refl _)
      | (with_reducible exact LeO.none _)
      | (with_reducible refine LeO.ite ?_ ?_)
      | (with_reducible refine LeO.bind ?_ (fun _ => ?_))
      | exact ih0 _ _ _ _ _
      | exact ih1 _ _ _ _ _ _
      | exact flaillaw13_awake.mono _
      | exact script_Find.mono _ _ _
      | exact LeO.none _
      | refine LeO.ite ?_ ?_
      | refine LeO.bind ?_ (fun _ => ?_)
set_option maxHeartbeats 8000000 in
set_option maxRecDepth 100000 in
theorem flaillaw13_ScriptRest.calls (k : Nat) (a0 : ByteArray) (a1 : ByteArray) (a2 : ByteArray) (r : Bool) (w : World) (hGl : Glob w) (h : flaillaw13_ScriptRest.f k a0 a1 a2 = some r) :
    Calls Tryd.prog 10 #[.string a0, .string a1, .string a2] w fun e w' => e = .returned (.bool r) ∧ Below w.heap.size w w' := by
  have HB := Aside0.mk (Below.refl w.heap.size w)
  have H : ((flaillaw13_awake.f k).bind fun t123 => (if (a0.size : Int) > 300 then (flaillaw13_ScriptRest.j0 k a0 a1 a2 t123 true) else (if (a1.size : Int) > 300 then (flaillaw13_ScriptRest.j0 k a0 a1 a2 t123 true) else (flaillaw13_ScriptRest.j0 k a0 a1 a2 t123 (decide ((a2.size : Int) > 300)))))) = some r := h
  clear h
  replace H := Option.bind_eq_some_iff.mp H
  obtain ⟨t123, A40, H⟩ := H
  replace H : (if (a0.size : Int) > 300 then (flaillaw13_ScriptRest.j0 k a0 a1 a2 t123 true) else (if (a1.size : Int) > 300 then (flaillaw13_ScriptRest.j0 k a0 a1 a2 t123 true) else (flaillaw13_ScriptRest.j0 k a0 a1 a2 t123 (decide ((a2.size : Int) > 300))))) = some r := H
  have A4 := Aside0.mk A40
  clear A40
  have HC5 := Aside0.mk H
  clear H
  go_enter Tryd.func10, Tryd.ntmps10
  go_upto_region 2 with (first | ((with_reducible refine gate_callee (f := 31) rfl ?_); refine goesL_ (some 14) rfl rfl Tryd.func31 (by kernel_rfl) rfl #[] rfl (by (try simp only [List.map_toArray, List.map_cons, List.map_nil]); first | done | rfl | (simp only [List.length_drop, List.length_take]; rfl)) ?_; (with_reducible refine (flaillaw13_awake.calls k  t123 _ ?side1 A4.out).mono ?_); (case side1 => exact Glob.step hGl (by repeat (first | (with_reducible first | exact HB.out | apply below_alloc | apply pw_below_drewN | apply below_drew1) | exact HB.out))); rintro e w6 ⟨rfl, hb⟩; refine ⟨_, rfl, ?_⟩; have n0_ := Aside0.mk (below_step (by repeat (first | (with_reducible first | exact HB.out | apply below_alloc | apply pw_below_drewN | apply below_drew1) | exact HB.out)) hb); clear HB; have HB := n0_; clear n0_; (try clear hb); (try clear hb2); (try clear hk); (try clear hi)))
  (try simp only [Act.put, List.setIfInBounds_toArray, List.set_cons_zero, List.set_cons_succ])
  go_cut [27] (fun v27 wc => ∃ (kq : Nat) (x27_4 : Bool), v27 = .bool x27_4 ∧ Aside0 (flaillaw13_ScriptRest.j0 kq a0 a1 a2 t123 x27_4 = some r) ∧ Aside0 (kq ≤ k) ∧ Aside0 (Below w.heap.size w wc))
  case first =>
    have H := HC5.out
    clear HC5
    by_cases c7 : (a0.size : Int) > 300
    · rw [if_pos c7] at H
      have c7b0 : decide (300 < (a0.size : Int)) = true := decide_eq_true c7
      have c7b1 : decide (300 < a0.size) = true := decide_eq_true (by omega)
      clear c7
      (first | rw [c7b0] | (simp only [i64_w, i32_w]; rw [c7b0]) | skip)
      have H' := Aside0.mk H
      clear H
      go_wp2
      go_meet
      case rel => exact ⟨_, (true), (by first | rfl | (simp; done) | (simp [*]; done)), H', ⟨by first | omega | exact Nat.le_refl _⟩, ⟨by repeat (first | (with_reducible first | exact HB.out | apply below_alloc | apply pw_below_drewN | apply below_drew1) | exact HB.out)⟩⟩
    · rw [if_neg c7] at H
      have c7b0 : decide (300 < (a0.size : Int)) = false := decide_eq_false c7
      have c7b1 : decide (300 < a0.size) = false := decide_eq_false (by omega)
      clear c7
      (first | rw [c7b0] | (simp only [i64_w, i32_w]; rw [c7b0]) | skip)
      by_cases c8 : (a1.size : Int) > 300
      · rw [if_pos c8] at H
        have c8b0 : decide (300 < (a1.size : Int)) = true := decide_eq_true c8
        have c8b1 : decide (300 < a1.size) = true := decide_eq_true (by omega)
        clear c8
        have H' := Aside0.mk H
        clear H
        go_wp2
        go_meet
        case rel => exact ⟨_, (true), (by first | rfl | (simp; done) | (simp [*]; done)), H', ⟨by first | omega | exact Nat.le_refl _⟩, ⟨by repeat (first | (with_reducible first | exact HB.out | apply below_alloc | apply pw_below_drewN | apply below_drew1) | exact HB.out)⟩⟩
      · rw [if_neg c8] at H
        have c8b0 : decide (300 < (a1.size : Int)) = false := decide_eq_false c8
        have c8b1 : decide (300 < a1.size) = false := decide_eq_false (by omega)
        clear c8
        have H' := Aside0.mk H
        clear H
        go_wp2
        go_meet
        case rel => exact ⟨_, (decide ((a2.size : Int) > 300)), (by first | rfl | (simp; done) | (simp [*]; done)), H', ⟨by first | omega | exact Nat.le_refl _⟩, ⟨by repeat (first | (with_reducible first | exact HB.out | apply below_alloc | apply pw_below_drewN | apply below_drew1) | exact HB.out)⟩⟩
  case rest =>
    clear HC5
    try clear c1
    try clear p2
    try clear c3
    try clear c7
    try clear c7b0
    try clear c7b1
    try clear c8
    try clear c8b0
    try clear c8b1
    obtain ⟨kq, x27_4, rfl, HA, HJ4, HB⟩ := hcut
    cases kq with
    | zero => exact absurd HA.out (by simp [flaillaw13_ScriptRest.j0])
    | succ kj4 =>
      have H := HA.out
      clear HA
      simp only [flaillaw13_ScriptRest.j0] at H
      by_cases c9 : x27_4 = true
      · subst c9
        have H1 : (some t123) = some r := by rw [if_pos rfl] at H; exact H
        clear H
        have H := H1
        clear H1
        obtain rfl := Option.some.inj H
        go_wp2
        go_ret
        exact ⟨by first | rfl | (simp [errW_none, errW_some] <;> rfl) | (simp [*, errW_none, errW_some] <;> rfl), by repeat (first | (with_reducible first | exact HB.out | apply below_alloc | apply pw_below_drewN | apply below_drew1) | exact HB.out)⟩
      · replace c9 := Bool.eq_false_iff.mpr c9
        subst c9
        have H1 : ((script_Find.f kj4 a1 0).bind fun bt124 => (if a0.size + a1.size ≤ 9223372036854775807 then ((script_Find.f kj4 (a0 ++ a1) (a0.size : Int)).bind fun bt126 => (if bt126.1 = (wrap64 ((a0.size : Int) + bt124.1)) then (flaillaw13_ScriptRest.j1 kj4 a1 a2 t123 bt124.1 bt124.2 (bt126.2 != bt124.2)) else (flaillaw13_ScriptRest.j1 kj4 a1 a2 t123 bt124.1 bt124.2 true))) else (none))) = some r := by rw [if_neg (show ¬ (false = true) by decide)] at H; exact H
        clear H
        have H := H1
        clear H1
        replace H := Option.bind_eq_some_iff.mp H
        obtain ⟨⟨t124, t125⟩, A100, H⟩ := H
        replace H : (if a0.size + a1.size ≤ 9223372036854775807 then ((script_Find.f kj4 (a0 ++ a1) (a0.size : Int)).bind fun bt126 => (if bt126.1 = (wrap64 ((a0.size : Int) + t124)) then (flaillaw13_ScriptRest.j1 kj4 a1 a2 t123 t124 t125 (bt126.2 != t125)) else (flaillaw13_ScriptRest.j1 kj4 a1 a2 t123 t124 t125 true))) else (none)) = some r := H
        have A10 := Aside0.mk A100
        clear A100
        by_cases c11 : a0.size + a1.size ≤ 9223372036854775807
        · rw [if_pos c11] at H
          have c11b0 := eq_true c11
          have c11b1 : decide (a0.size + a1.size ≤ 9223372036854775807) = true := decide_eq_true c11
          try have c11b2 : (9223372036854775807 < a0.size + a1.size) = False := eq_false (Nat.not_lt.2 c11)
          replace H := Option.bind_eq_some_iff.mp H
          obtain ⟨⟨t126, t127⟩, A120, H⟩ := H
          replace H : (if t126 = (wrap64 ((a0.size : Int) + t124)) then (flaillaw13_ScriptRest.j1 kj4 a1 a2 t123 t124 t125 (t127 != t125)) else (flaillaw13_ScriptRest.j1 kj4 a1 a2 t123 t124 t125 true)) = some r := H
          have A12 := Aside0.mk A120
          clear A120
          have HC13 := Aside0.mk H
          clear H
          go_upto_region 6 with (first | ((with_reducible refine gate_callee (f := 32) rfl ?_); refine goesL_ (some 31) rfl rfl Tryd.func32 (by kernel_rfl) rfl #[.string a1, .int .i64 0] rfl (by (try simp only [List.map_toArray, List.map_cons, List.map_nil]); first | done | rfl | (simp only [List.length_drop, List.length_take]; rfl)) ?_; (with_reducible refine (script_Find.calls kj4 a1 0 t124 t125 _ A10.out).mono ?_); rintro e w14 ⟨rfl, hb⟩; refine ⟨_, rfl, ?_⟩; have n0_ := Aside0.mk (below_step (by repeat (first | (with_reducible first | exact HB.out | apply below_alloc | apply pw_below_drewN | apply below_drew1) | exact HB.out)) hb); clear HB; have HB := n0_; clear n0_; (try clear hb); (try clear hb2); (try clear hk); (try clear hi)) | ((with_reducible refine gate_callee (f := 32) rfl ?_); refine goesL_ (some 40) rfl rfl Tryd.func32 (by kernel_rfl) rfl #[.string (a0 ++ a1), .int .i64 (a0.size : Int)] rfl (by (try simp only [List.map_toArray, List.map_cons, List.map_nil]); first | done | rfl | (simp only [List.length_drop, List.length_take]; rfl)) ?_; (with_reducible refine (script_Find.calls kj4 (a0 ++ a1) (a0.size : Int) t126 t127 _ A12.out).mono ?_); rintro e w15 ⟨rfl, hb⟩; refine ⟨_, rfl, ?_⟩; have n0_ := Aside0.mk (below_step (by repeat (first | (with_reducible first | exact HB.out | apply below_alloc | apply pw_below_drewN | apply below_drew1) | exact HB.out)) hb); clear HB; have HB := n0_; clear n0_; (try clear hb); (try clear hb2); (try clear hk); (try clear hi)))
          (try simp only [Act.put, List.setIfInBounds_toArray, List.set_cons_zero, List.set_cons_succ])
          go_cut [53] (fun v53 wc => ∃ (kq : Nat) (x53_12 : Bool), v53 = .bool x53_12 ∧ Aside0 (flaillaw13_ScriptRest.j1 kq a1 a2 t123 t124 t125 x53_12 = some r) ∧ Aside0 (kq ≤ kj4) ∧ Aside0 (Below w.heap.size w wc))
          case first =>
            have H := HC13.out
            clear HC13
            by_cases c16 : t126 = (wrap64 ((a0.size : Int) + t124))
            · rw [if_pos c16] at H
              have c16b0 : (t126 == (wrap64 ((a0.size : Int) + t124))) = true := beq_iff_eq.mpr c16
              have c16b1 : (t126 != (wrap64 ((a0.size : Int) + t124))) = false := bne_eq_false_iff_eq.mpr c16
              clear c16
              (first | rw [c16b0] | (simp only [i64_w, i32_w]; rw [c16b0]) | skip)
              have H' := Aside0.mk H
              clear H
              go_wp2
              go_meet
              case rel => exact ⟨_, ((t127 != t125)), (by first | rfl | (simp; done) | (simp [*]; done)), H', ⟨by have := HJ4.out; first | omega | exact Nat.le_refl _⟩, ⟨by repeat (first | (with_reducible first | exact HB.out | apply below_alloc | apply pw_below_drewN | apply below_drew1) | exact HB.out)⟩⟩
            · rw [if_neg c16] at H
              have c16b0 : (t126 == (wrap64 ((a0.size : Int) + t124))) = false := beq_eq_false_iff_ne.mpr c16
              have c16b1 : (t126 != (wrap64 ((a0.size : Int) + t124))) = true := bne_iff_ne.mpr c16
              (first | rw [c16b0] | (simp only [i64_w, i32_w]; rw [c16b0]) | skip)
              have H' := Aside0.mk H
              clear H
              go_wp2
              go_meet
              case rel => exact ⟨_, (true), (by first | rfl | (simp; done) | (simp [*]; done)), H', ⟨by have := HJ4.out; first | omega | exact Nat.le_refl _⟩, ⟨by repeat (first | (with_reducible first | exact HB.out | apply below_alloc | apply pw_below_drewN | apply below_drew1) | exact HB.out)⟩⟩
          case rest =>
            clear HC13
            try clear c1
            try clear p2
            try clear c3
            try clear p6
            try clear c7
            try clear c7b0
            try clear c7b1
            try clear c8
            try clear c8b0
            try clear c8b1
            try clear c9
            try clear c10
            try clear c11
            try clear c11b0
            try clear c11b1
            try clear c11b2
            try clear c16
            try clear c16b0
            try clear c16b1
            try clear p2
            obtain ⟨kq, x53_12, rfl, HA, HJ12, HB⟩ := hcut
            cases kq with
            | zero => exact absurd HA.out (by simp [flaillaw13_ScriptRest.j1])
            | succ kj12 =>
              have H := HA.out
              clear HA
              simp only [flaillaw13_ScriptRest.j1] at H
              by_cases c17 : x53_12 = true
              · subst c17
                have H1 : (some false) = some r := by rw [if_pos rfl] at H; exact H
                clear H
                have H := H1
                clear H1
                obtain rfl := Option.some.inj H
                go_wp2
                go_ret
                exact ⟨by first | rfl | (simp [errW_none, errW_some] <;> rfl) | (simp [*, errW_none, errW_some] <;> rfl), by repeat (first | (with_reducible first | exact HB.out | apply below_alloc | apply pw_below_drewN | apply below_drew1) | exact HB.out)⟩
              · replace c17 := Bool.eq_false_iff.mpr c17
                subst c17
                have H1 : (if t124 = (a1.size : Int) then (some t123) else (if a1.size + a2.size ≤ 9223372036854775807 then ((script_Find.f kj12 (a1 ++ a2) 0).bind fun bt128 => (if t123 = true then (if bt128.1 = t124 then (some (bt128.2 == t125)) else (some false)) else (some false))) else (none))) = some r := by rw [if_neg (show ¬ (false = true) by decide)] at H; exact H
                clear H
                have H := H1
                clear H1
                by_cases c18 : t124 = (a1.size : Int)
                · rw [if_pos c18] at H
                  have c18b0 : (t124 == (a1.size : Int)) = true := beq_iff_eq.mpr c18
                  have c18b1 : (t124 != (a1.size : Int)) = false := bne_eq_false_iff_eq.mpr c18
                  clear c18
                  obtain rfl := Option.some.inj H
                  go_wp2
                  go_ret
                  exact ⟨by first | rfl | (simp [errW_none, errW_some] <;> rfl) | (simp [*, errW_none, errW_some] <;> rfl), by repeat (first | (with_reducible first | exact HB.out | apply below_alloc | apply pw_below_drewN | apply below_drew1) | exact HB.out)⟩
                · rw [if_neg c18] at H
                  have c18b0 : (t124 == (a1.size : Int)) = false := beq_eq_false_iff_ne.mpr c18
                  have c18b1 : (t124 != (a1.size : Int)) = true := bne_iff_ne.mpr c18
                  by_cases c19 : a1.size + a2.size ≤ 9223372036854775807
                  · rw [if_pos c19] at H
                    have c19b0 := eq_true c19
                    have c19b1 : decide (a1.size + a2.size ≤ 9223372036854775807) = true := decide_eq_true c19
                    try have c19b2 : (9223372036854775807 < a1.size + a2.size) = False := eq_false (Nat.not_lt.2 c19)
                    replace H := Option.bind_eq_some_iff.mp H
                    obtain ⟨⟨t128, t129⟩, A200, H⟩ := H
                    replace H : (if t123 = true then (if t128 = t124 then (some (t129 == t125)) else (some false)) else (some false)) = some r := H
                    have A20 := Aside0.mk A200
                    clear A200
                    by_cases c21 : t123 = true
                    · subst c21
                      have H1 : (if t128 = t124 then (some (t129 == t125)) else (some false)) = some r := by rw [if_pos rfl] at H; exact H
                      clear H
                      have H := H1
                      clear H1
                      by_cases c22 : t128 = t124
                      · rw [if_pos c22] at H
                        have c22b0 : (t128 == t124) = true := beq_iff_eq.mpr c22
                        have c22b1 : (t128 != t124) = false := bne_eq_false_iff_eq.mpr c22
                        clear c22
                        obtain rfl := Option.some.inj H
                        go_wp2_with (first | ((with_reducible refine gate_callee (f := 32) rfl ?_); refine goesL_ (some 63) rfl rfl Tryd.func32 (by kernel_rfl) rfl #[.string (a1 ++ a2), .int .i64 0] rfl (by (try simp only [List.map_toArray, List.map_cons, List.map_nil]); first | done | rfl | (simp only [List.length_drop, List.length_take]; rfl)) ?_; (with_reducible refine (script_Find.calls kj12 (a1 ++ a2) 0 t128 t129 _ A20.out).mono ?_); rintro e w23 ⟨rfl, hb⟩; refine ⟨_, rfl, ?_⟩; have n0_ := Aside0.mk (below_step (by repeat (first | (with_reducible first | exact HB.out | apply below_alloc | apply pw_below_drewN | apply below_drew1) | exact HB.out)) hb); clear HB; have HB := n0_; clear n0_; (try clear hb); (try clear hb2); (try clear hk); (try clear hi)))
                        go_ret
                        exact ⟨by first | rfl | (simp [errW_none, errW_some] <;> rfl) | (simp [*, errW_none, errW_some] <;> rfl), by repeat (first | (with_reducible first | exact HB.out | apply below_alloc | apply pw_below_drewN | apply below_drew1) | exact HB.out)⟩
                      · rw [if_neg c22] at H
                        have c22b0 : (t128 == t124) = false := beq_eq_false_iff_ne.mpr c22
                        have c22b1 : (t128 != t124) = true := bne_iff_ne.mpr c22
                        obtain rfl := Option.some.inj H
                        go_wp2_with (first | ((with_reducible refine gate_callee (f := 32) rfl ?_); refine goesL_ (some 63) rfl rfl Tryd.func32 (by kernel_rfl) rfl #[.string (a1 ++ a2), .int .i64 0] rfl (by (try simp only [List.map_toArray, List.map_cons, List.map_nil]); first | done | rfl | (simp only [List.length_drop, List.length_take]; rfl)) ?_; (with_reducible refine (script_Find.calls kj12 (a1 ++ a2) 0 t128 t129 _ A20.out).mono ?_); rintro e w24 ⟨rfl, hb⟩; refine ⟨_, rfl, ?_⟩; have n0_ := Aside0.mk (below_step (by repeat (first | (with_reducible first | exact HB.out | apply below_alloc | apply pw_below_drewN | apply below_drew1) | exact HB.out)) hb); clear HB; have HB := n0_; clear n0_; (try clear hb); (try clear hb2); (try clear hk); (try clear hi)))
                        go_ret
                        exact ⟨by first | rfl | (simp [errW_none, errW_some] <;> rfl) | (simp [*, errW_none, errW_some] <;> rfl), by repeat (first | (with_reducible first | exact HB.out | apply below_alloc | apply pw_below_drewN | apply below_drew1) | exact HB.out)⟩
                    · replace c21 := Bool.eq_false_iff.mpr c21
                      subst c21
                      have H1 : (some false) = some r := by rw [if_neg (show ¬ (false = true) by decide)] at H; exact H
                      clear H
                      have H := H1
                      clear H1
                      obtain rfl := Option.some.inj H
                      go_wp2_with (first | ((with_reducible refine gate_callee (f := 32) rfl ?_); refine goesL_ (some 63) rfl rfl Tryd.func32 (by kernel_rfl) rfl #[.string (a1 ++ a2), .int .i64 0] rfl (by (try simp only [List.map_toArray, List.map_cons, List.map_nil]); first | done | rfl | (simp only [List.length_drop, List.length_take]; rfl)) ?_; (with_reducible refine (script_Find.calls kj12 (a1 ++ a2) 0 t128 t129 _ A20.out).mono ?_); rintro e w25 ⟨rfl, hb⟩; refine ⟨_, rfl, ?_⟩; have n0_ := Aside0.mk (below_step (by repeat (first | (with_reducible first | exact HB.out | apply below_alloc | apply pw_below_drewN | apply below_drew1) | exact HB.out)) hb); clear HB; have HB := n0_; clear n0_; (try clear hb); (try clear hb2); (try clear hk); (try clear hi)))
                      go_ret
                      exact ⟨by first | rfl | (simp [errW_none, errW_some] <;> rfl) | (simp [*, errW_none, errW_some] <;> rfl), by repeat (first | (with_reducible first | exact HB.out | apply below_alloc | apply pw_below_drewN | apply below_drew1) | exact HB.out)⟩
                  · rw [if_neg c19] at H
                    exact absurd H (by simp)
        · rw [if_neg c11] at H
          exact absurd H (by simp)

/-- THE ONE PURE STATEMENT of flaillaw13_ScriptRest: yours. -/
def flaillaw13_ScriptRest.Pure : Prop := ∀ (a0 : ByteArray) (a1 : ByteArray) (a2 : ByteArray), a0.size ≤ 140737488351232 → a1.size ≤ 140737488351232 → a2.size ≤ 140737488351232 → ∃ k, flaillaw13_ScriptRest.f k a0 a1 a2 = some true
theorem flaillaw13_ScriptRest.walk (P : flaillaw13_ScriptRest.Pure) (a0 : ByteArray) (a1 : ByteArray) (a2 : ByteArray) (w : World) (w0 : a0.size ≤ 140737488351232) (w1 : a1.size ≤ 140737488351232) (w2 : a2.size ≤ 140737488351232) (hGl : Glob w) :
    Calls Tryd.prog 10 #[.string a0, .string a1, .string a2] w fun e w' => e = .returned (.bool true) ∧ Below w.heap.size w w' := by
  obtain ⟨k, h⟩ := P a0 a1 a2 w0 w1 w2
  refine (flaillaw13_ScriptRest.calls k a0 a1 a2 true w hGl h).mono ?_
  rintro e w' ⟨rfl, hd⟩
  exact ⟨rfl, hd⟩

/-! ### flaillaw13_ScriptCase: function 11 -/
def flaillaw13_ScriptCase.f (k : Nat) (a0 : ByteArray) (a1 : Int) : Option (Bool) := (flaillaw13_awake.f k).bind fun t130 => (if (a0.size : Int) > 300 then (some t130) else (if (wrap64 ((a0.size : Int) + 1)) = 0 then (none) else ((script_Find.f k a0 (Int.tmod (wrap64 (a1)) (wrap64 ((a0.size : Int) + 1)))).bind fun bt131 => ((sign_Lower.f a0).bind fun t133 => ((script_Find.f k t133 (Int.tmod (wrap64 (a1)) (wrap64 ((a0.size : Int) + 1)))).bind fun bt134 => (if t130 = true then (if bt131.1 = bt134.1 then (if bt131.2 = bt134.2 then ((script_Text.f a0).bind fun t136 => (some (decide ((t136.size : Int) ≥ (a0.size : Int))))) else (some false)) else (some false)) else (some false)))))))
theorem flaillaw13_ScriptCase.mono : ∀ a0 a1 k, LeO (flaillaw13_ScriptCase.f k a0 a1) (flaillaw13_ScriptCase.f (k + 1) a0 a1) := by
  intro a0 a1 k
  unfold flaillaw13_ScriptCase.f
  repeat' first
      | (with_reducible exact flaillaw13_awake.mono _)
      | (with_reducible exact script_Find.mono _ _ _)
      | (with_reducible exact LeO.refl _)
      | (with_reducible exact LeO.none _)
      | (with_reducible refine LeO.ite ?_ ?_)
      | (with_reducible refine LeO.bind ?_ (fun _ => ?_))
      | exact flaillaw13_awake.mono _
      | exact script_Find.mono _ _ _
      | exact LeO.none _
      | refine LeO.ite ?_ ?_
      | refine LeO.bind ?_ (fun _ => ?_)
set_option maxHeartbeats 8000000 in
set_option maxRecDepth 100000 in
theorem flaillaw13_ScriptCase.calls (k : Nat) (a0 : ByteArray) (a1 : Int) (r : Bool) (w : World) (hGl : Glob w) (h : flaillaw13_ScriptCase.f k a0 a1 = some r) :
    Calls Tryd.prog 11 #[.string a0, .int .u16 a1] w fun e w' => e = .returned (.bool r) ∧ Below w.heap.size w w' := by
  have HB := Aside0.mk (Below.refl w.heap.size w)
  have H : ((flaillaw13_awake.f k).bind fun t130 => (if (a0.size : Int) > 300 then (some t130) else (if (wrap64 ((a0.size : Int) + 1)) = 0 then (none) else ((script_Find.f k a0 (Int.tmod (wrap64 (a1)) (wrap64 ((a0.size : Int) + 1)))).bind fun bt131 => ((sign_Lower.f a0).bind fun t133 => ((script_Find.f k t133 (Int.tmod (wrap64 (a1)) (wrap64 ((a0.size : Int) + 1)))).bind fun bt134 => (if t130 = true then (if bt131.1 = bt134.1 then (if bt131.2 = bt134.2 then ((script_Text.f a0).bind fun t136 => (some (decide ((t136.size : Int) ≥ (a0.size : Int))))) else (some false)) else (some false)) else (some false)))))))) = some r := h
  clear h
  replace H := Option.bind_eq_some_iff.mp H
  obtain ⟨t130, A30, H⟩ := H
  replace H : (if (a0.size : Int) > 300 then (some t130) else (if (wrap64 ((a0.size : Int) + 1)) = 0 then (none) else ((script_Find.f k a0 (Int.tmod (wrap64 (a1)) (wrap64 ((a0.size : Int) + 1)))).bind fun bt131 => ((sign_Lower.f a0).bind fun t133 => ((script_Find.f k t133 (Int.tmod (wrap64 (a1)) (wrap64 ((a0.size : Int) + 1)))).bind fun bt134 => (if t130 = true then (if bt131.1 = bt134.1 then (if bt131.2 = bt134.2 then ((script_Text.f a0).bind fun t136 => (some (decide ((t136.size : Int) ≥ (a0.size : Int))))) else (some false)) else (some false)) else (some false))))))) = some r := H
  have A3 := Aside0.mk A30
  clear A30
  by_cases c4 : (a0.size : Int) > 300
  · rw [if_pos c4] at H
    have c4b0 : decide (300 < (a0.size : Int)) = true := decide_eq_true c4
    have c4b1 : decide (300 < a0.size) = true := decide_eq_true (by omega)
    clear c4
    obtain rfl := Option.some.inj H
    go_enter Tryd.func11, Tryd.ntmps11
    go_wp2_with (first | ((with_reducible refine gate_callee (f := 31) rfl ?_); refine goesL_ (some 11) rfl rfl Tryd.func31 (by kernel_rfl) rfl #[] rfl (by (try simp only [List.map_toArray, List.map_cons, List.map_nil]); first | done | rfl | (simp only [List.length_drop, List.length_take]; rfl)) ?_; (with_reducible refine (flaillaw13_awake.calls k  t130 _ ?side1 A3.out).mono ?_); (case side1 => exact Glob.step hGl (by repeat (first | (with_reducible first | exact HB.out | apply below_alloc | apply pw_below_drewN | apply below_drew1) | exact HB.out))); rintro e w5 ⟨rfl, hb⟩; refine ⟨_, rfl, ?_⟩; have n0_ := Aside0.mk (below_step (by repeat (first | (with_reducible first | exact HB.out | apply below_alloc | apply pw_below_drewN | apply below_drew1) | exact HB.out)) hb); clear HB; have HB := n0_; clear n0_; (try clear hb); (try clear hb2); (try clear hk); (try clear hi)))
    go_ret
    exact ⟨by first | rfl | (simp [errW_none, errW_some] <;> rfl) | (simp [*, errW_none, errW_some] <;> rfl), by repeat (first | (with_reducible first | exact HB.out | apply below_alloc | apply pw_below_drewN | apply below_drew1) | exact HB.out)⟩
  · rw [if_neg c4] at H
    have c4b0 : decide (300 < (a0.size : Int)) = false := decide_eq_false c4
    have c4b1 : decide (300 < a0.size) = false := decide_eq_false (by omega)
    clear c4
    by_cases c6 : (wrap64 ((a0.size : Int) + 1)) = 0
    · rw [if_pos c6] at H
      exact absurd H (by simp)
    · rw [if_neg c6] at H
      have c6b0 : ((wrap64 ((a0.size : Int) + 1)) == 0) = false := beq_eq_false_iff_ne.mpr c6
      have c6b1 : ((wrap64 ((a0.size : Int) + 1)) != 0) = true := bne_iff_ne.mpr c6
      replace H := Option.bind_eq_some_iff.mp H
      obtain ⟨⟨t131, t132⟩, A70, H⟩ := H
      replace H : ((sign_Lower.f a0).bind fun t133 => ((script_Find.f k t133 (Int.tmod (wrap64 (a1)) (wrap64 ((a0.size : Int) + 1)))).bind fun bt134 => (if t130 = true then (if t131 = bt134.1 then (if t132 = bt134.2 then ((script_Text.f a0).bind fun t136 => (some (decide ((t136.size : Int) ≥ (a0.size : Int))))) else (some false)) else (some false)) else (some false)))) = some r := H
      have A7 := Aside0.mk A70
      clear A70
      replace H := Option.bind_eq_some_iff.mp H
      obtain ⟨t133, A80, H⟩ := H
      replace H : ((script_Find.f k t133 (Int.tmod (wrap64 (a1)) (wrap64 ((a0.size : Int) + 1)))).bind fun bt134 => (if t130 = true then (if t131 = bt134.1 then (if t132 = bt134.2 then ((script_Text.f a0).bind fun t136 => (some (decide ((t136.size : Int) ≥ (a0.size : Int))))) else (some false)) else (some false)) else (some false))) = some r := H
      have A8 := Aside0.mk A80
      clear A80
      replace H := Option.bind_eq_some_iff.mp H
      obtain ⟨⟨t134, t135⟩, A90, H⟩ := H
      replace H : (if t130 = true then (if t131 = t134 then (if t132 = t135 then ((script_Text.f a0).bind fun t136 => (some (decide ((t136.size : Int) ≥ (a0.size : Int))))) else (some false)) else (some false)) else (some false)) = some r := H
      have A9 := Aside0.mk A90
      clear A90
      by_cases c10 : t130 = true
      · subst c10
        have H1 : (if t131 = t134 then (if t132 = t135 then ((script_Text.f a0).bind fun t136 => (some (decide ((t136.size : Int) ≥ (a0.size : Int))))) else (some false)) else (some false)) = some r := by rw [if_pos rfl] at H; exact H
        clear H
        have H := H1
        clear H1
        by_cases c11 : t131 = t134
        · rw [if_pos c11] at H
          have c11b0 : (t131 == t134) = true := beq_iff_eq.mpr c11
          have c11b1 : (t131 != t134) = false := bne_eq_false_iff_eq.mpr c11
          clear c11
          by_cases c12 : t132 = t135
          · rw [if_pos c12] at H
            have c12b0 : (t132 == t135) = true := beq_iff_eq.mpr c12
            have c12b1 : (t132 != t135) = false := bne_eq_false_iff_eq.mpr c12
            clear c12
            replace H := Option.bind_eq_some_iff.mp H
            obtain ⟨t136, A130, H⟩ := H
            replace H : (some (decide ((t136.size : Int) ≥ (a0.size : Int)))) = some r := H
            have A13 := Aside0.mk A130
            clear A130
            obtain rfl := Option.some.inj H
            go_enter Tryd.func11, Tryd.ntmps11
            go_wp2_with (first | ((with_reducible refine gate_callee (f := 31) rfl ?_); refine goesL_ (some 11) rfl rfl Tryd.func31 (by kernel_rfl) rfl #[] rfl (by (try simp only [List.map_toArray, List.map_cons, List.map_nil]); first | done | rfl | (simp only [List.length_drop, List.length_take]; rfl)) ?_; (with_reducible refine (flaillaw13_awake.calls k  true _ ?side1 A3.out).mono ?_); (case side1 => exact Glob.step hGl (by repeat (first | (with_reducible first | exact HB.out | apply below_alloc | apply pw_below_drewN | apply below_drew1) | exact HB.out))); rintro e w14 ⟨rfl, hb⟩; refine ⟨_, rfl, ?_⟩; have n0_ := Aside0.mk (below_step (by repeat (first | (with_reducible first | exact HB.out | apply below_alloc | apply pw_below_drewN | apply below_drew1) | exact HB.out)) hb); clear HB; have HB := n0_; clear n0_; (try clear hb); (try clear hb2); (try clear hk); (try clear hi)) | ((with_reducible refine gate_callee (f := 32) rfl ?_); refine goesL_ (some 25) rfl rfl Tryd.func32 (by kernel_rfl) rfl #[.string a0, .int .i64 (Int.tmod (wrap64 (a1)) (wrap64 ((a0.size : Int) + 1)))] rfl (by (try simp only [List.map_toArray, List.map_cons, List.map_nil]); first | done | rfl | (simp only [List.length_drop, List.length_take]; rfl)) ?_; (with_reducible refine (script_Find.calls k a0 (Int.tmod (wrap64 (a1)) (wrap64 ((a0.size : Int) + 1))) t131 t132 _ A7.out).mono ?_); rintro e w15 ⟨rfl, hb⟩; refine ⟨_, rfl, ?_⟩; have n0_ := Aside0.mk (below_step (by repeat (first | (with_reducible first | exact HB.out | apply below_alloc | apply pw_below_drewN | apply below_drew1) | exact HB.out)) hb); clear HB; have HB := n0_; clear n0_; (try clear hb); (try clear hb2); (try clear hk); (try clear hi)) | ((with_reducible refine gate_callee (f := 35) rfl ?_); refine goesL_ (some 30) rfl rfl Tryd.func35 (by kernel_rfl) rfl #[.string a0] rfl (by (try simp only [List.map_toArray, List.map_cons, List.map_nil]); first | done | rfl | (simp only [List.length_drop, List.length_take]; rfl)) ?_; (with_reducible refine (sign_Lower.calls a0 t133 _ A8.out).mono ?_); rintro e w16 ⟨rfl, hb⟩; refine ⟨_, rfl, ?_⟩; have n0_ := Aside0.mk (below_step (by repeat (first | (with_reducible first | exact HB.out | apply below_alloc | apply pw_below_drewN | apply below_drew1) | exact HB.out)) hb); clear HB; have HB := n0_; clear n0_; (try clear hb); (try clear hb2); (try clear hk); (try clear hi)) | ((with_reducible refine gate_callee (f := 32) rfl ?_); refine goesL_ (some 32) rfl rfl Tryd.func32 (by kernel_rfl) rfl #[.string t133, .int .i64 (Int.tmod (wrap64 (a1)) (wrap64 ((a0.size : Int) + 1)))] rfl (by (try simp only [List.map_toArray, List.map_cons, List.map_nil]); first | done | rfl | (simp only [List.length_drop, List.length_take]; rfl)) ?_; (with_reducible refine (script_Find.calls k t133 (Int.tmod (wrap64 (a1)) (wrap64 ((a0.size : Int) + 1))) t134 t135 _ A9.out).mono ?_); rintro e w17 ⟨rfl, hb⟩; refine ⟨_, rfl, ?_⟩; have n0_ := Aside0.mk (below_step (by repeat (first | (with_reducible first | exact HB.out | apply below_alloc | apply pw_below_drewN | apply below_drew1) | exact HB.out)) hb); clear HB; have HB := n0_; clear n0_; (try clear hb); (try clear hb2); (try clear hk); (try clear hi)) | (go_at_call 34; (with_reducible refine (script_Text.calls a0 t136 _ ?side1 A13.out).mono ?_); (case side1 => exact Glob.step hGl (by repeat (first | (with_reducible first | exact HB.out | apply below_alloc | apply pw_below_drewN | apply below_drew1) | exact HB.out))); rintro e w18 ⟨rfl, hb⟩; have n0_ := Aside0.mk (below_step (by repeat (first | (with_reducible first | exact HB.out | apply below_alloc | apply pw_below_drewN | apply below_drew1) | exact HB.out)) hb); clear HB; have HB := n0_; clear n0_; (try clear hb); (try clear hb2); (try clear hk); (try clear hi)))
            go_ret
            exact ⟨by first | rfl | (simp [errW_none, errW_some] <;> rfl) | (simp [*, errW_none, errW_some] <;> rfl), by repeat (first | (with_reducible first | exact HB.out | apply below_alloc | apply pw_below_drewN | apply below_drew1) | exact HB.out)⟩
          · rw [if_neg c12] at H
            have c12b0 : (t132 == t135) = false := beq_eq_false_iff_ne.mpr c12
            have c12b1 : (t132 != t135) = true := bne_iff_ne.mpr c12
            obtain rfl := Option.some.inj H
            go_enter Tryd.func11, Tryd.ntmps11
            go_wp2_with (first | ((with_reducible refine gate_callee (f := 31) rfl ?_); refine goesL_ (some 11) rfl rfl Tryd.func31 (by kernel_rfl) rfl #[] rfl (by (try simp only [List.map_toArray, List.map_cons, List.map_nil]); first | done | rfl | (simp only [List.length_drop, List.length_take]; rfl)) ?_; (with_reducible refine (flaillaw13_awake.calls k  true _ ?side1 A3.out).mono ?_); (case side1 => exact Glob.step hGl (by repeat (first | (with_reducible first | exact HB.out | apply below_alloc | apply pw_below_drewN | apply below_drew1) | exact HB.out))); rintro e w19 ⟨rfl, hb⟩; refine ⟨_, rfl, ?_⟩; have n0_ := Aside0.mk (below_step (by repeat (first | (with_reducible first | exact HB.out | apply below_alloc | apply pw_below_drewN | apply below_drew1) | exact HB.out)) hb); clear HB; have HB := n0_; clear n0_; (try clear hb); (try clear hb2); (try clear hk); (try clear hi)) | ((with_reducible refine gate_callee (f := 32) rfl ?_); refine goesL_ (some 25) rfl rfl Tryd.func32 (by kernel_rfl) rfl #[.string a0, .int .i64 (Int.tmod (wrap64 (a1)) (wrap64 ((a0.size : Int) + 1)))] rfl (by (try simp only [List.map_toArray, List.map_cons, List.map_nil]); first | done | rfl | (simp only [List.length_drop, List.length_take]; rfl)) ?_; (with_reducible refine (script_Find.calls k a0 (Int.tmod (wrap64 (a1)) (wrap64 ((a0.size : Int) + 1))) t131 t132 _ A7.out).mono ?_); rintro e w20 ⟨rfl, hb⟩; refine ⟨_, rfl, ?_⟩; have n0_ := Aside0.mk (below_step (by repeat (first | (with_reducible first | exact HB.out | apply below_alloc | apply pw_below_drewN | apply below_drew1) | exact HB.out)) hb); clear HB; have HB := n0_; clear n0_; (try clear hb); (try clear hb2); (try clear hk); (try clear hi)) | ((with_reducible refine gate_callee (f := 35) rfl ?_); refine goesL_ (some 30) rfl rfl Tryd.func35 (by kernel_rfl) rfl #[.string a0] rfl (by (try simp only [List.map_toArray, List.map_cons, List.map_nil]); first | done | rfl | (simp only [List.length_drop, List.length_take]; rfl)) ?_; (with_reducible refine (sign_Lower.calls a0 t133 _ A8.out).mono ?_); rintro e w21 ⟨rfl, hb⟩; refine ⟨_, rfl, ?_⟩; have n0_ := Aside0.mk (below_step (by repeat (first | (with_reducible first | exact HB.out | apply below_alloc | apply pw_below_drewN | apply below_drew1) | exact HB.out)) hb); clear HB; have HB := n0_; clear n0_; (try clear hb); (try clear hb2); (try clear hk); (try clear hi)) | ((with_reducible refine gate_callee (f := 32) rfl ?_); refine goesL_ (some 32) rfl rfl Tryd.func32 (by kernel_rfl) rfl #[.string t133, .int .i64 (Int.tmod (wrap64 (a1)) (wrap64 ((a0.size : Int) + 1)))] rfl (by (try simp only [List.map_toArray, List.map_cons, List.map_nil]); first | done | rfl | (simp only [List.length_drop, List.length_take]; rfl)) ?_; (with_reducible refine (script_Find.calls k t133 (Int.tmod (wrap64 (a1)) (wrap64 ((a0.size : Int) + 1))) t134 t135 _ A9.out).mono ?_); rintro e w22 ⟨rfl, hb⟩; refine ⟨_, rfl, ?_⟩; have n0_ := Aside0.mk (below_step (by repeat (first | (with_reducible first | exact HB.out | apply below_alloc | apply pw_below_drewN | apply below_drew1) | exact HB.out)) hb); clear HB; have HB := n0_; clear n0_; (try clear hb); (try clear hb2); (try clear hk); (try clear hi)))
            go_ret
            exact ⟨by first | rfl | (simp [errW_none, errW_some] <;> rfl) | (simp [*, errW_none, errW_some] <;> rfl), by repeat (first | (with_reducible first | exact HB.out | apply below_alloc | apply pw_below_drewN | apply below_drew1) | exact HB.out)⟩
        · rw [if_neg c11] at H
          have c11b0 : (t131 == t134) = false := beq_eq_false_iff_ne.mpr c11
          have c11b1 : (t131 != t134) = true := bne_iff_ne.mpr c11
          obtain rfl := Option.some.inj H
          go_enter Tryd.func11, Tryd.ntmps11
          go_wp2_with (first | ((with_reducible refine gate_callee (f := 31) rfl ?_); refine goesL_ (some 11) rfl rfl Tryd.func31 (by kernel_rfl) rfl #[] rfl (by (try simp only [List.map_toArray, List.map_cons, List.map_nil]); first | done | rfl | (simp only [List.length_drop, List.length_take]; rfl)) ?_; (with_reducible refine (flaillaw13_awake.calls k  true _ ?side1 A3.out).mono ?_); (case side1 => exact Glob.step hGl (by repeat (first | (with_reducible first | exact HB.out | apply below_alloc | apply pw_below_drewN | apply below_drew1) | exact HB.out))); rintro e w23 ⟨rfl, hb⟩; refine ⟨_, rfl, ?_⟩; have n0_ := Aside0.mk (below_step (by repeat (first | (with_reducible first | exact HB.out | apply below_alloc | apply pw_below_drewN | apply below_drew1) | exact HB.out)) hb); clear HB; have HB := n0_; clear n0_; (try clear hb); (try clear hb2); (try clear hk); (try clear hi)) | ((with_reducible refine gate_callee (f := 32) rfl ?_); refine goesL_ (some 25) rfl rfl Tryd.func32 (by kernel_rfl) rfl #[.string a0, .int .i64 (Int.tmod (wrap64 (a1)) (wrap64 ((a0.size : Int) + 1)))] rfl (by (try simp only [List.map_toArray, List.map_cons, List.map_nil]); first | done | rfl | (simp only [List.length_drop, List.length_take]; rfl)) ?_; (with_reducible refine (script_Find.calls k a0 (Int.tmod (wrap64 (a1)) (wrap64 ((a0.size : Int) + 1))) t131 t132 _ A7.out).mono ?_); rintro e w24 ⟨rfl, hb⟩; refine ⟨_, rfl, ?_⟩; have n0_ := Aside0.mk (below_step (by repeat (first | (with_reducible first | exact HB.out | apply below_alloc | apply pw_below_drewN | apply below_drew1) | exact HB.out)) hb); clear HB; have HB := n0_; clear n0_; (try clear hb); (try clear hb2); (try clear hk); (try clear hi)) | ((with_reducible refine gate_callee (f := 35) rfl ?_); refine goesL_ (some 30) rfl rfl Tryd.func35 (by kernel_rfl) rfl #[.string a0] rfl (by (try simp only [List.map_toArray, List.map_cons, List.map_nil]); first | done | rfl | (simp only [List.length_drop, List.length_take]; rfl)) ?_; (with_reducible refine (sign_Lower.calls a0 t133 _ A8.out).mono ?_); rintro e w25 ⟨rfl, hb⟩; refine ⟨_, rfl, ?_⟩; have n0_ := Aside0.mk (below_step (by repeat (first | (with_reducible first | exact HB.out | apply below_alloc | apply pw_below_drewN | apply below_drew1) | exact HB.out)) hb); clear HB; have HB := n0_; clear n0_; (try clear hb); (try clear hb2); (try clear hk); (try clear hi)) | ((with_reducible refine gate_callee (f := 32) rfl ?_); refine goesL_ (some 32) rfl rfl Tryd.func32 (by kernel_rfl) rfl #[.string t133, .int .i64 (Int.tmod (wrap64 (a1)) (wrap64 ((a0.size : Int) + 1)))] rfl (by (try simp only [List.map_toArray, List.map_cons, List.map_nil]); first | done | rfl | (simp only [List.length_drop, List.length_take]; rfl)) ?_; (with_reducible refine (script_Find.calls k t133 (Int.tmod (wrap64 (a1)) (wrap64 ((a0.size : Int) + 1))) t134 t135 _ A9.out).mono ?_); rintro e w26 ⟨rfl, hb⟩; refine ⟨_, rfl, ?_⟩; have n0_ := Aside0.mk (below_step (by repeat (first | (with_reducible first | exact HB.out | apply below_alloc | apply pw_below_drewN | apply below_drew1) | exact HB.out)) hb); clear HB; have HB := n0_; clear n0_; (try clear hb); (try clear hb2); (try clear hk); (try clear hi)))
          go_ret
          exact ⟨by first | rfl | (simp [errW_none, errW_some] <;> rfl) | (simp [*, errW_none, errW_some] <;> rfl), by repeat (first | (with_reducible first | exact HB.out | apply below_alloc | apply pw_below_drewN | apply below_drew1) | exact HB.out)⟩
      · replace c10 := Bool.eq_false_iff.mpr c10
        subst c10
        have H1 : (some false) = some r := by rw [if_neg (show ¬ (false = true) by decide)] at H; exact H
        clear H
        have H := H1
        clear H1
        obtain rfl := Option.some.inj H
        go_enter Tryd.func11, Tryd.ntmps11
        go_wp2_with (first | ((with_reducible refine gate_callee (f := 31) rfl ?_); refine goesL_ (some 11) rfl rfl Tryd.func31 (by kernel_rfl) rfl #[] rfl (by (try simp only [List.map_toArray, List.map_cons, List.map_nil]); first | done | rfl | (simp only [List.length_drop, List.length_take]; rfl)) ?_; (with_reducible refine (flaillaw13_awake.calls k  false _ ?side1 A3.out).mono ?_); (case side1 => exact Glob.step hGl (by repeat (first | (with_reducible first | exact HB.out | apply below_alloc | apply pw_below_drewN | apply below_drew1) | exact HB.out))); rintro e w27 ⟨rfl, hb⟩; refine ⟨_, rfl, ?_⟩; have n0_ := Aside0.mk (below_step (by repeat (first | (with_reducible first | exact HB.out | apply below_alloc | apply pw_below_drewN | apply below_drew1) | exact HB.out)) hb); clear HB; have HB := n0_; clear n0_; (try clear hb); (try clear hb2); (try clear hk); (try clear hi)) | ((with_reducible refine gate_callee (f := 32) rfl ?_); refine goesL_ (some 25) rfl rfl Tryd.func32 (by kernel_rfl) rfl #[.string a0, .int .i64 (Int.tmod (wrap64 (a1)) (wrap64 ((a0.size : Int) + 1)))] rfl (by (try simp only [List.map_toArray, List.map_cons, List.map_nil]); first | done | rfl | (simp only [List.length_drop, List.length_take]; rfl)) ?_; (with_reducible refine (script_Find.calls k a0 (Int.tmod (wrap64 (a1)) (wrap64 ((a0.size : Int) + 1))) t131 t132 _ A7.out).mono ?_); rintro e w28 ⟨rfl, hb⟩; refine ⟨_, rfl, ?_⟩; have n0_ := Aside0.mk (below_step (by repeat (first | (with_reducible first | exact HB.out | apply below_alloc | apply pw_below_drewN | apply below_drew1) | exact HB.out)) hb); clear HB; have HB := n0_; clear n0_; (try clear hb); (try clear hb2); (try clear hk); (try clear hi)) | ((with_reducible refine gate_callee (f := 35) rfl ?_); refine goesL_ (some 30) rfl rfl Tryd.func35 (by kernel_rfl) rfl #[.string a0] rfl (by (try simp only [List.map_toArray, List.map_cons, List.map_nil]); first | done | rfl | (simp only [List.length_drop, List.length_take]; rfl)) ?_; (with_reducible refine (sign_Lower.calls a0 t133 _ A8.out).mono ?_); rintro e w29 ⟨rfl, hb⟩; refine ⟨_, rfl, ?_⟩; have n0_ := Aside0.mk (below_step (by repeat (first | (with_reducible first | exact HB.out | apply below_alloc | apply pw_below_drewN | apply below_drew1) | exact HB.out)) hb); clear HB; have HB := n0_; clear n0_; (try clear hb); (try clear hb2); (try clear hk); (try clear hi)) | ((with_reducible refine gate_callee (f := 32) rfl ?_); refine goesL_ (some 32) rfl rfl Tryd.func32 (by kernel_rfl) rfl #[.string t133, .int .i64 (Int.tmod (wrap64 (a1)) (wrap64 ((a0.size : Int) + 1)))] rfl (by (try simp only [List.map_toArray, List.map_cons, List.map_nil]); first | done | rfl | (simp only [List.length_drop, List.length_take]; rfl)) ?_; (with_reducible refine (script_Find.calls k t133 (Int.tmod (wrap64 (a1)) (wrap64 ((a0.size : Int) + 1))) t134 t135 _ A9.out).mono ?_); rintro e w30 ⟨rfl, hb⟩; refine ⟨_, rfl, ?_⟩; have n0_ := Aside0.mk (below_step (by repeat (first | (with_reducible first | exact HB.out | apply below_alloc | apply pw_below_drewN | apply below_drew1) | exact HB.out)) hb); clear HB; have HB := n0_; clear n0_; (try clear hb); (try clear hb2); (try clear hk); (try clear hi)))
        go_ret
        exact ⟨by first | rfl | (simp [errW_none, errW_some] <;> rfl) | (simp [*, errW_none, errW_some] <;> rfl), by repeat (first | (with_reducible first | exact HB.out | apply below_alloc | apply pw_below_drewN | apply below_drew1) | exact HB.out)⟩

/-- THE ONE PURE STATEMENT of flaillaw13_ScriptCase: yours. -/
def flaillaw13_ScriptCase.Pure : Prop := ∀ (a0 : ByteArray) (a1 : Int), a0.size ≤ 140737488351232 → (Lit.int .u16 a1).wf = true → ∃ k, flaillaw13_ScriptCase.f k a0 a1 = some true
theorem flaillaw13_ScriptCase.walk (P : flaillaw13_ScriptCase.Pure) (a0 : ByteArray) (a1 : Int) (w : World) (w0 : a0.size ≤ 140737488351232) (w1 : (Lit.int .u16 a1).wf = true) (hGl : Glob w) :
    Calls Tryd.prog 11 #[.string a0, .int .u16 a1] w fun e w' => e = .returned (.bool true) ∧ Below w.heap.size w w' := by
  obtain ⟨k, h⟩ := P a0 a1 w0 w1
  refine (flaillaw13_ScriptCase.calls k a0 a1 true w hGl h).mono ?_
  rintro e w' ⟨rfl, hd⟩
  exact ⟨rfl, hd⟩

end Go.Proofs.YtppaobgccdlccaaDoor.Ls
