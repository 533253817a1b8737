-- Written by a program of this session over the kit's printer: not by hand.
import Derived.Test.YtppaobgccdlccaaDoorPr0
import Derived.Test.YtppaobgccdlccaaDoorPr1
namespace Go.Proofs.YtppaobgccdlccaaDoor.Pr
open Go.RowKit Go.Proofs.YtppaobgccdlccaaDoor.Hand Go.Proofs.YtppaobgccdlccaaDoorW.PrintWords Go.Proofs.YtppaobgccdlccaaDoorW.PrintLast Go.Proofs.YtppaobgccdlccaaDoorW.PrintMore
attribute [local go_sem] max2_int min2_int max_two min_two max_three min_three max_four min_four   -- for this text's walks alone
set_option linter.unusedVariables false
set_option linter.unusedSimpArgs false

/-! ### flaillaw02_LinesJoins: function 5 -/
mutual
def flaillaw02_LinesJoins.j0 : Nat → ByteArray → ByteArray → Bool → Bool → Option (Bool)
  | 0, _, _, _, _ => none
  | k + 1, x0, x1, x5, x15 => if x15 = true then (some x5) else (if x0.size + x1.size ≤ 9223372036854775807 then ((lines_Clean.f (x0 ++ x1)).bind fun t115 => ((lines_Clean.f x0).bind fun t116 => ((lines_Clean.f x1).bind fun t117 => (if t116.size + t117.size ≤ 9223372036854775807 then (if (x0.size : Int) > 0 then (flaillaw02_LinesJoins.j1 k x0 x1 x5 (t115.toList == (t116 ++ t117).toList) (decide ((x1.size : Int) > 0))) else (flaillaw02_LinesJoins.j1 k x0 x1 x5 (t115.toList == (t116 ++ t117).toList) false)) else (none))))) else (none))
def flaillaw02_LinesJoins.j1 : Nat → ByteArray → ByteArray → Bool → Bool → Bool → Option (Bool)
  | 0, _, _, _, _, _ => none
  | k + 1, x0, x1, x5, x6, x34 => if x34 = true then (if 0 ≤ (wrap64 ((x0.size : Int) - 1)) then (if (wrap64 ((x0.size : Int) - 1)) < (x0.size : Int) then (if (bt x0 (wrap64 ((x0.size : Int) - 1))) = 13 then (if 0 < (x1.size : Int) then (flaillaw02_LinesJoins.j2 k x0 x1 x5 x6 ((bt x1 0) == 10)) else (none)) else (flaillaw02_LinesJoins.j2 k x0 x1 x5 x6 false)) else (none)) else (none)) else (if x5 = true then (if x6 = true then (if x0.size + x1.size ≤ 9223372036854775807 then ((lines_Norm.f (x0 ++ x1)).bind fun t124 => ((lines_Norm.f x0).bind fun t125 => ((lines_Norm.f x1).bind fun t126 => (if t125.size + t126.size ≤ 9223372036854775807 then (some (t124.toList == (t125 ++ t126).toList)) else (none))))) else (none)) else (some false)) else (some false))
def flaillaw02_LinesJoins.j2 : Nat → ByteArray → ByteArray → Bool → Bool → Bool → Option (Bool)
  | 0, _, _, _, _, _ => none
  | k + 1, x0, x1, x5, x6, x45 => if x45 = true then (if x5 = true then (if x6 = true then (if x0.size + x1.size ≤ 9223372036854775807 then ((lines_Norm.f (x0 ++ x1)).bind fun t118 => ((lines_Norm.f x0).bind fun t119 => (if 1 ≤ (x1.size : Int) then ((lines_Norm.f (x1.extract 1 x1.size)).bind fun t120 => (if t119.size + t120.size ≤ 9223372036854775807 then (some (t118.toList == (t119 ++ t120).toList)) else (none))) else (none)))) else (none)) else (some false)) else (some false)) else (if x5 = true then (if x6 = true then (if x0.size + x1.size ≤ 9223372036854775807 then ((lines_Norm.f (x0 ++ x1)).bind fun t121 => ((lines_Norm.f x0).bind fun t122 => ((lines_Norm.f x1).bind fun t123 => (if t122.size + t123.size ≤ 9223372036854775807 then (some (t121.toList == (t122 ++ t123).toList)) else (none))))) else (none)) else (some false)) else (some false))
end
def flaillaw02_LinesJoins.f (k : Nat) (a0 : ByteArray) (a1 : ByteArray) : Option (Bool) := (flaillaw02_awake.f).bind fun t114 => (if (a0.size : Int) > 300 then (flaillaw02_LinesJoins.j0 k a0 a1 t114 true) else (flaillaw02_LinesJoins.j0 k a0 a1 t114 (decide ((a1.size : Int) > 300))))
theorem flaillaw02_LinesJoins.mono_l : ∀ k, (∀ y0 y1 y2 y3, LeO (flaillaw02_LinesJoins.j0 k y0 y1 y2 y3) (flaillaw02_LinesJoins.j0 (k + 1) y0 y1 y2 y3)) ∧ (∀ y0 y1 y2 y3 y4, LeO (flaillaw02_LinesJoins.j1 k y0 y1 y2 y3 y4) (flaillaw02_LinesJoins.j1 (k + 1) y0 y1 y2 y3 y4)) ∧ (∀ y0 y1 y2 y3 y4, LeO (flaillaw02_LinesJoins.j2 k y0 y1 y2 y3 y4) (flaillaw02_LinesJoins.j2 (k + 1) y0 y1 y2 y3 y4))
  | 0 => ⟨fun _ _ _ _ r h => by simp [flaillaw02_LinesJoins.j0] at h, fun _ _ _ _ _ r h => by simp [flaillaw02_LinesJoins.j1] at h, fun _ _ _ _ _ r h => by simp [flaillaw02_LinesJoins.j2] at h⟩
  | k + 1 => by
    obtain ⟨ih0, ih1, ih2⟩ := flaillaw02_LinesJoins.mono_l k
    refine ⟨?_, ?_, ?_⟩
    · intro y0 y1 y2 y3
      unfold flaillaw02_LinesJoins.j0
      repeat' first
      | (with_reducible exact ih0 _ _ _ _)
      | (with_reducible exact ih1 _ _ _ _ _)
      | (with_reducible exact ih2 _ _ _ _ _)
      | (with_reducible exact LeO.refl _)
      | (with_reducible exact LeO.none _)
      | (with_reducible refine LeO.ite ?_ ?_)
      | (with_reducible refine LeO.bind ?_ (fun _ => ?_))
      | exact ih0 _ _ _ _
      | exact ih1 _ _ _ _ _
      | exact ih2 _ _ _ _ _
      | exact LeO.none _
      | refine LeO.ite ?_ ?_
      | refine LeO.bind ?_ (fun _ => ?_)
    · intro y0 y1 y2 y3 y4
      unfold flaillaw02_LinesJoins.j1
      repeat' first
      | (with_reducible exact ih0 _ _ _ _)
      | (with_reducible exact ih1 _ _ _ _ _)
      | (with_reducible exact ih2 _ _ _ _ _)
      | (with_reducible exact LeO.refl _)
      | (with_reducible exact LeO.none _)
      | (with_reducible refine LeO.ite ?_ ?_)
      | (with_reducible refine LeO.bind ?_ (fun _ => ?_))
      | exact ih0 _ _ _ _
      | exact ih1 _ _ _ _ _
      | exact ih2 _ _ _ _ _
      | exact LeO.none _
      | refine LeO.ite ?_ ?_
      | refine LeO.bind ?_ (fun _ => ?_)
    · intro y0 y1 y2 y3 y4
      unfold flaillaw02_LinesJoins.j2
      repeat' first
      | (with_reducible exact ih0 _ _ _ _)
      | (with_reducible exact ih1 _ _ _ _ _)
      | (with_reducible exact ih2 _ _ _ _ _)
      | (with_reducible exact LeO.refl _)
      | (with_reducible exact LeO.none _)
      | (with_reducible refine LeO.ite ?_ ?_)
      | (with_reducible refine LeO.bind ?_ (fun _ => ?_))
      | exact ih0 _ _ _ _
      | exact ih1 _ _ _ _ _
      | exact ih2 _ _ _ _ _
      | exact LeO.none _
      | refine LeO.ite ?_ ?_
      | refine LeO.bind ?_ (fun _ => ?_)
theorem flaillaw02_LinesJoins.mono : ∀ a0 a1 k, LeO (flaillaw02_LinesJoins.f k a0 a1) (flaillaw02_LinesJoins.f (k + 1) a0 a1) := by
  intro a0 a1 k
  obtain ⟨ih0, ih1, ih2⟩ := flaillaw02_LinesJoins.mono_l k
  unfold flaillaw02_LinesJoins.f
  repeat' first
      | (with_reducible exact ih0 _ _ _ _)
      | (with_reducible exact ih1 _ _ _ _ _)
      | (with_reducible exact ih2 _ _ _ _ _)
      | (with_reducible exact LeO.refl _)
      | (with_reducible exact LeO.none _)
      | (with_reducible refine LeO.ite ?_ ?_)
      | (with_reducible refine LeO.bind ?_ (fun _ => ?_))
      | exact ih0 _ _ _ _
      | exact ih1 _ _ _ _ _
      | exact ih2 _ _ _ _ _
      | exact LeO.none _
      | refine LeO.ite ?_ ?_
      | refine LeO.bind ?_ (fun _ => ?_)
def flaillaw02_LinesJoins.T7 : Bool × List (List Nat × List Nat) := (true, [([], []), ([0], [0]), ([1], [1]), ([1, 2], [1, 2]), ([3, 1], [3]), ([4], [4]), ([4], [4]), ([5, 6, 4], [4, 5, 6]), ([7, 4, 4], [4, 7]), ([4], [4]), ([9, 8, 4], [4, 9]), ([4], [4]), ([11, 4], [4, 11]), ([12, 10, 4], [4, 12]), ([10, 13, 4], [4, 10, 13]), ([8, 14, 4], [4, 8, 14]), ([4, 15], [4, 15]), ([16, 13, 0, 1, 2, 3, 4, 5, 6, 7, 8, 9, 10, 11, 12, 13, 14, 15, 16], [16])])
def flaillaw02_LinesJoins.B7 : List Nat := [0, 1, 3, 7, 15, 31, 31, 127, 255, 31, 1023, 31, 2079, 8191, 16383, 32767, 65535, 131071]
theorem flaillaw02_LinesJoins.tab7 : rtab .any (opsOf Tryd.f5 7) = flaillaw02_LinesJoins.T7 := by kernel_rfl
theorem flaillaw02_LinesJoins.bits7 : waitsOk flaillaw02_LinesJoins.T7.2 flaillaw02_LinesJoins.B7 = true := by kernel_rfl
set_option maxHeartbeats 8000000 in
set_option maxRecDepth 100000 in
theorem flaillaw02_LinesJoins.calls (k : Nat) (a0 : ByteArray) (a1 : ByteArray) (r : Bool) (w : World) (hGl : Glob w) (h : flaillaw02_LinesJoins.f k a0 a1 = some r) :
    Calls Tryd.prog 5 #[.string a0, .string a1] w fun e w' => e = .returned (.bool r) ∧ Below w.heap.size w w' := by
  have HB := Aside0.mk (Below.refl w.heap.size w)
  have H : ((flaillaw02_awake.f).bind fun t114 => (if (a0.size : Int) > 300 then (flaillaw02_LinesJoins.j0 k a0 a1 t114 true) else (flaillaw02_LinesJoins.j0 k a0 a1 t114 (decide ((a1.size : Int) > 300))))) = some r := h
  clear h
  replace H := Option.bind_eq_some_iff.mp H
  obtain ⟨t114, A30, H⟩ := H
  replace H : (if (a0.size : Int) > 300 then (flaillaw02_LinesJoins.j0 k a0 a1 t114 true) else (flaillaw02_LinesJoins.j0 k a0 a1 t114 (decide ((a1.size : Int) > 300)))) = some r := H
  have A3 := Aside0.mk A30
  clear A30
  have HC4 := Aside0.mk H
  clear H
  go_enter Tryd.func5, Tryd.ntmps5
  go_upto_region 2 with (first | ((with_reducible refine gate_callee (f := 26) rfl ?_); refine goesL_ (some 7) rfl rfl Tryd.func26 (by kernel_rfl) rfl #[] rfl (by (try simp only [List.map_toArray, List.map_cons, List.map_nil]); first | done | rfl | (simp only [List.length_drop, List.length_take]; rfl)) ?_; (with_reducible refine (flaillaw02_awake.calls  t114 _ ?side1 A3.out).mono ?_); (case side1 => exact Glob.step hGl (by repeat (first | (with_reducible first | exact HB.out | apply below_alloc | apply pw_below_drewN | apply below_drew1) | exact HB.out))); rintro e w5 ⟨rfl, hb⟩; refine ⟨_, rfl, ?_⟩; have n0_ := Aside0.mk (below_step (by repeat (first | (with_reducible first | exact HB.out | apply below_alloc | apply pw_below_drewN | apply below_drew1) | exact HB.out)) hb); clear HB; have HB := n0_; clear n0_; (try clear hb); (try clear hb2); (try clear hk); (try clear hi)))
  (try simp only [Act.put, List.setIfInBounds_toArray, List.set_cons_zero, List.set_cons_succ])
  go_cut [15] (fun v15 wc => ∃ (kq : Nat) (x15_3 : Bool), v15 = .bool x15_3 ∧ Aside0 (flaillaw02_LinesJoins.j0 kq a0 a1 t114 x15_3 = some r) ∧ Aside0 (kq ≤ k) ∧ Aside0 (Below w.heap.size w wc))
  case first =>
    have H := HC4.out
    clear HC4
    by_cases c6 : (a0.size : Int) > 300
    · rw [if_pos c6] at H
      have c6b0 : decide (300 < (a0.size : Int)) = true := decide_eq_true c6
      have c6b1 : decide (300 < a0.size) = true := decide_eq_true (by omega)
      clear c6
      (first | rw [c6b0] | (simp only [i64_w, i32_w]; rw [c6b0]) | skip)
      have H' := Aside0.mk H
      clear H
      go_wp2
      go_meet
      case rel => exact ⟨_, (true), (by first | rfl | (simp; done) | (simp [*]; done)), H', ⟨by first | omega | exact Nat.le_refl _⟩, ⟨by repeat (first | (with_reducible first | exact HB.out | apply below_alloc | apply pw_below_drewN | apply below_drew1) | exact HB.out)⟩⟩
    · rw [if_neg c6] at H
      have c6b0 : decide (300 < (a0.size : Int)) = false := decide_eq_false c6
      have c6b1 : decide (300 < a0.size) = false := decide_eq_false (by omega)
      clear c6
      (first | rw [c6b0] | (simp only [i64_w, i32_w]; rw [c6b0]) | skip)
      have H' := Aside0.mk H
      clear H
      go_wp2
      go_meet
      case rel => exact ⟨_, (decide ((a1.size : Int) > 300)), (by first | rfl | (simp; done) | (simp [*]; done)), H', ⟨by first | omega | exact Nat.le_refl _⟩, ⟨by repeat (first | (with_reducible first | exact HB.out | apply below_alloc | apply pw_below_drewN | apply below_drew1) | exact HB.out)⟩⟩
  case rest =>
    clear HC4
    try clear c2
    try clear p2
    try clear c5
    try clear c6
    try clear c6b0
    try clear c6b1
    obtain ⟨kq, x15_3, rfl, HA, HJ3, HB⟩ := hcut
    cases kq with
    | zero => exact absurd HA.out (by simp [flaillaw02_LinesJoins.j0])
    | succ kj3 =>
      have H := HA.out
      clear HA
      simp only [flaillaw02_LinesJoins.j0] at H
      by_cases c7 : x15_3 = true
      · subst c7
        have H1 : (some t114) = some r := by rw [if_pos rfl] at H; exact H
        clear H
        have H := H1
        clear H1
        obtain rfl := Option.some.inj H
        go_wp2
        go_ret
        exact ⟨by first | rfl | (simp [errW_none, errW_some] <;> rfl) | (simp [*, errW_none, errW_some] <;> rfl), by repeat (first | (with_reducible first | exact HB.out | apply below_alloc | apply pw_below_drewN | apply below_drew1) | exact HB.out)⟩
      · replace c7 := Bool.eq_false_iff.mpr c7
        subst c7
        have H1 : (if a0.size + a1.size ≤ 9223372036854775807 then ((lines_Clean.f (a0 ++ a1)).bind fun t115 => ((lines_Clean.f a0).bind fun t116 => ((lines_Clean.f a1).bind fun t117 => (if t116.size + t117.size ≤ 9223372036854775807 then (if (a0.size : Int) > 0 then (flaillaw02_LinesJoins.j1 kj3 a0 a1 t114 (t115.toList == (t116 ++ t117).toList) (decide ((a1.size : Int) > 0))) else (flaillaw02_LinesJoins.j1 kj3 a0 a1 t114 (t115.toList == (t116 ++ t117).toList) false)) else (none))))) else (none)) = some r := by rw [if_neg (show ¬ (false = true) by decide)] at H; exact H
        clear H
        have H := H1
        clear H1
        by_cases c8 : a0.size + a1.size ≤ 9223372036854775807
        · rw [if_pos c8] at H
          have c8b0 := eq_true c8
          have c8b1 : decide (a0.size + a1.size ≤ 9223372036854775807) = true := decide_eq_true c8
          try have c8b2 : (9223372036854775807 < a0.size + a1.size) = False := eq_false (Nat.not_lt.2 c8)
          replace H := Option.bind_eq_some_iff.mp H
          obtain ⟨t115, A90, H⟩ := H
          replace H : ((lines_Clean.f a0).bind fun t116 => ((lines_Clean.f a1).bind fun t117 => (if t116.size + t117.size ≤ 9223372036854775807 then (if (a0.size : Int) > 0 then (flaillaw02_LinesJoins.j1 kj3 a0 a1 t114 (t115.toList == (t116 ++ t117).toList) (decide ((a1.size : Int) > 0))) else (flaillaw02_LinesJoins.j1 kj3 a0 a1 t114 (t115.toList == (t116 ++ t117).toList) false)) else (none)))) = some r := H
          have A9 := Aside0.mk A90
          clear A90
          replace H := Option.bind_eq_some_iff.mp H
          obtain ⟨t116, A100, H⟩ := H
          replace H : ((lines_Clean.f a1).bind fun t117 => (if t116.size + t117.size ≤ 9223372036854775807 then (if (a0.size : Int) > 0 then (flaillaw02_LinesJoins.j1 kj3 a0 a1 t114 (t115.toList == (t116 ++ t117).toList) (decide ((a1.size : Int) > 0))) else (flaillaw02_LinesJoins.j1 kj3 a0 a1 t114 (t115.toList == (t116 ++ t117).toList) false)) else (none))) = some r := H
          have A10 := Aside0.mk A100
          clear A100
          replace H := Option.bind_eq_some_iff.mp H
          obtain ⟨t117, A110, H⟩ := H
          replace H : (if t116.size + t117.size ≤ 9223372036854775807 then (if (a0.size : Int) > 0 then (flaillaw02_LinesJoins.j1 kj3 a0 a1 t114 (t115.toList == (t116 ++ t117).toList) (decide ((a1.size : Int) > 0))) else (flaillaw02_LinesJoins.j1 kj3 a0 a1 t114 (t115.toList == (t116 ++ t117).toList) false)) else (none)) = some r := H
          have A11 := Aside0.mk A110
          clear A110
          by_cases c12 : t116.size + t117.size ≤ 9223372036854775807
          · rw [if_pos c12] at H
            have c12b0 := eq_true c12
            have c12b1 : decide (t116.size + t117.size ≤ 9223372036854775807) = true := decide_eq_true c12
            try have c12b2 : (9223372036854775807 < t116.size + t117.size) = False := eq_false (Nat.not_lt.2 c12)
            have HC13 := Aside0.mk H
            clear H
            go_upto_region 5 with (first | ((with_reducible refine gate_callee (f := 29) rfl ?_); refine goesL_ (some 20) rfl rfl Tryd.func29 (by kernel_rfl) rfl #[.string (a0 ++ a1)] rfl (by (try simp only [List.map_toArray, List.map_cons, List.map_nil]); first | done | rfl | (simp only [List.length_drop, List.length_take]; rfl)) ?_; (with_reducible refine (lines_Clean.calls (a0 ++ a1) t115 _ ?side1 A9.out).mono ?_); (case side1 => exact Glob.step hGl (by repeat (first | (with_reducible first | exact HB.out | apply below_alloc | apply pw_below_drewN | apply below_drew1) | exact HB.out))); rintro e w14 ⟨rfl, hb⟩; refine ⟨_, rfl, ?_⟩; have n0_ := Aside0.mk (below_step (by repeat (first | (with_reducible first | exact HB.out | apply below_alloc | apply pw_below_drewN | apply below_drew1) | exact HB.out)) hb); clear HB; have HB := n0_; clear n0_; (try clear hb); (try clear hb2); (try clear hk); (try clear hi)) | ((with_reducible refine gate_callee (f := 29) rfl ?_); refine goesL_ (some 22) rfl rfl Tryd.func29 (by kernel_rfl) rfl #[.string a0] rfl (by (try simp only [List.map_toArray, List.map_cons, List.map_nil]); first | done | rfl | (simp only [List.length_drop, List.length_take]; rfl)) ?_; (with_reducible refine (lines_Clean.calls a0 t116 _ ?side1 A10.out).mono ?_); (case side1 => exact Glob.step hGl (by repeat (first | (with_reducible first | exact HB.out | apply below_alloc | apply pw_below_drewN | apply below_drew1) | exact HB.out))); rintro e w15 ⟨rfl, hb⟩; refine ⟨_, rfl, ?_⟩; have n0_ := Aside0.mk (below_step (by repeat (first | (with_reducible first | exact HB.out | apply below_alloc | apply pw_below_drewN | apply below_drew1) | exact HB.out)) hb); clear HB; have HB := n0_; clear n0_; (try clear hb); (try clear hb2); (try clear hk); (try clear hi)) | ((with_reducible refine gate_callee (f := 29) rfl ?_); refine goesL_ (some 24) rfl rfl Tryd.func29 (by kernel_rfl) rfl #[.string a1] rfl (by (try simp only [List.map_toArray, List.map_cons, List.map_nil]); first | done | rfl | (simp only [List.length_drop, List.length_take]; rfl)) ?_; (with_reducible refine (lines_Clean.calls a1 t117 _ ?side1 A11.out).mono ?_); (case side1 => exact Glob.step hGl (by repeat (first | (with_reducible first | exact HB.out | apply below_alloc | apply pw_below_drewN | apply below_drew1) | exact HB.out))); rintro e w16 ⟨rfl, hb⟩; refine ⟨_, rfl, ?_⟩; have n0_ := Aside0.mk (below_step (by repeat (first | (with_reducible first | exact HB.out | apply below_alloc | apply pw_below_drewN | apply below_drew1) | exact HB.out)) hb); clear HB; have HB := n0_; clear n0_; (try clear hb); (try clear hb2); (try clear hk); (try clear hi)))
            (try simp only [Act.put, List.setIfInBounds_toArray, List.set_cons_zero, List.set_cons_succ])
            go_cut [34] (fun v34 wc => ∃ (kq : Nat) (x34_12 : Bool), v34 = .bool x34_12 ∧ Aside0 (flaillaw02_LinesJoins.j1 kq a0 a1 t114 (t115.toList == (t116 ++ t117).toList) x34_12 = some r) ∧ Aside0 (kq ≤ kj3) ∧ Aside0 (Below w.heap.size w wc))
            case first =>
              have H := HC13.out
              clear HC13
              by_cases c17 : (a0.size : Int) > 0
              · rw [if_pos c17] at H
                have c17b0 : decide (0 < (a0.size : Int)) = true := decide_eq_true c17
                have c17b1 : decide (0 < a0.size) = true := decide_eq_true (by omega)
                clear c17
                (first | rw [c17b0] | (simp only [i64_w, i32_w]; rw [c17b0]) | skip)
                have H' := Aside0.mk H
                clear H
                go_wp2
                go_meet
                case rel => exact ⟨_, (decide ((a1.size : Int) > 0)), (by first | rfl | (simp; done) | (simp [*]; done)), H', ⟨by have := HJ3.out; first | omega | exact Nat.le_refl _⟩, ⟨by repeat (first | (with_reducible first | exact HB.out | apply below_alloc | apply pw_below_drewN | apply below_drew1) | exact HB.out)⟩⟩
              · rw [if_neg c17] at H
                have c17b0 : decide (0 < (a0.size : Int)) = false := decide_eq_false c17
                have c17b1 : decide (0 < a0.size) = false := decide_eq_false (by omega)
                clear c17
                (first | rw [c17b0] | (simp only [i64_w, i32_w]; rw [c17b0]) | skip)
                have H' := Aside0.mk H
                clear H
                go_wp2
                go_meet
                case rel => exact ⟨_, (false), (by first | rfl | (simp; done) | (simp [*]; done)), H', ⟨by have := HJ3.out; first | omega | exact Nat.le_refl _⟩, ⟨by repeat (first | (with_reducible first | exact HB.out | apply below_alloc | apply pw_below_drewN | apply below_drew1) | exact HB.out)⟩⟩
            case rest =>
              clear HC13
              try clear c1
              try clear c2
              try clear p2
              try clear c5
              try clear c6
              try clear c6b0
              try clear c6b1
              try clear c7
              try clear c8
              try clear c8b0
              try clear c8b1
              try clear c8b2
              try clear c12
              try clear c12b0
              try clear c12b1
              try clear c12b2
              try clear c17
              try clear c17b0
              try clear c17b1
              try clear p2
              obtain ⟨kq, x34_12, rfl, HA, HJ12, HB⟩ := hcut
              cases kq with
              | zero => exact absurd HA.out (by simp [flaillaw02_LinesJoins.j1])
              | succ kj12 =>
                have H := HA.out
                clear HA
                simp only [flaillaw02_LinesJoins.j1] at H
                by_cases c18 : x34_12 = true
                · subst c18
                  have H1 : (if 0 ≤ (wrap64 ((a0.size : Int) - 1)) then (if (wrap64 ((a0.size : Int) - 1)) < (a0.size : Int) then (if (bt a0 (wrap64 ((a0.size : Int) - 1))) = 13 then (if 0 < (a1.size : Int) then (flaillaw02_LinesJoins.j2 kj12 a0 a1 t114 (t115.toList == (t116 ++ t117).toList) ((bt a1 0) == 10)) else (none)) else (flaillaw02_LinesJoins.j2 kj12 a0 a1 t114 (t115.toList == (t116 ++ t117).toList) false)) else (none)) else (none)) = some r := by rw [if_pos rfl] at H; exact H
                  clear H
                  have H := H1
                  clear H1
                  have HC19 := Aside0.mk H
                  clear H
                  go_upto_region 6 with (fail)
                  go_cut [45] (fun v45 wc => ∃ (kq : Nat) (x45_18 : Bool), v45 = .bool x45_18 ∧ Aside0 (flaillaw02_LinesJoins.j2 kq a0 a1 t114 (t115.toList == (t116 ++ t117).toList) x45_18 = some r) ∧ Aside0 (kq ≤ kj12) ∧ Aside0 (Below w.heap.size w wc))
                  case first =>
                    have H := HC19.out
                    clear HC19
                    obtain ⟨ji20, hji20⟩ : ∃ j_ : Int, (wrap64 ((a0.size : Int) - 1)) = j_ := ⟨_, rfl⟩
                    replace H : (if 0 ≤ (ji20) then (if (ji20) < (a0.size : Int) then (if (bt a0 (ji20)) = 13 then (if 0 < (a1.size : Int) then (flaillaw02_LinesJoins.j2 kj12 a0 a1 t114 (t115.toList == (t116 ++ t117).toList) ((bt a1 0) == 10)) else (none)) else (flaillaw02_LinesJoins.j2 kj12 a0 a1 t114 (t115.toList == (t116 ++ t117).toList) false)) else (none)) else (none)) = some r := by first | (rw [hji20] at H; exact H) | (simp only [hji20] at H ⊢; exact H)
                    have hji20w : (IntKind.i64.wrap ((a0.size : Int) - 1)) = ji20 := (i64_w _).trans hji20
                    by_cases c21 : 0 ≤ (ji20)
                    · rw [if_pos c21] at H
                      have c21b0 : decide (0 ≤ (ji20)) = true := decide_eq_true c21
                      clear c21
                      (first | rw [c21b0] | (simp only [i64_w, i32_w]; rw [c21b0]) | skip)
                      by_cases c22 : (ji20) < (a0.size : Int)
                      · rw [if_pos c22] at H
                        have c22b0 : decide ((ji20) < (a0.size : Int)) = true := decide_eq_true c22
                        clear c22
                        by_cases c24 : (bt a0 (ji20)) = 13
                        · rw [if_pos c24] at H
                          have c24b0 : ((bt a0 (ji20)) == 13) = true := beq_iff_eq.mpr c24
                          have c24b1 : ((bt a0 (ji20)) != 13) = false := bne_eq_false_iff_eq.mpr c24
                          clear c24
                          by_cases c25 : 0 < (a1.size : Int)
                          · rw [if_pos c25] at H
                            have c25b0 : decide (0 < (a1.size : Int)) = true := decide_eq_true c25
                            have c25b1 : decide (0 < a1.size) = true := decide_eq_true (by omega)
                            clear c25
                            have H' := Aside0.mk H
                            clear H
                            have p23 : 0 ≤ ((ji20) : Int) := of_decide_eq_true (by first | (with_reducible assumption) | assumption)
                            have q23 : (ji20) < (a0.size : Int) := of_decide_eq_true (by first | (with_reducible assumption) | assumption)
                            have hx23 := bt_at a0 (ji20)
                            replace p23 := eq_true p23
                            replace q23 := eq_true q23
                            have p26 : 0 ≤ (0 : Int) := (by omega)
                            have q26 : 0 < a1.size := (by have : (0 : Int) < (a1.size : Int) := of_decide_eq_true (by first | (with_reducible assumption) | assumption); omega)
                            have hx26 : ∀ h : 0 < a1.size, ((a1[0]'h).toNat : Int) = bt a1 0 := bt_at a1 0
                            clear p26
                            have qi26 : (0 < (a1.size : Int)) = True := eq_true (of_decide_eq_true (by first | (with_reducible assumption) | assumption))
                            replace q26 := eq_true q26
                            go_wp2
                            go_meet
                            case rel => exact ⟨_, (((bt a1 0) == 10)), (by first | rfl | (simp; done) | (simp [*]; done)), H', ⟨by have := HJ3.out; have := HJ12.out; first | omega | exact Nat.le_refl _⟩, ⟨by repeat (first | (with_reducible first | exact HB.out | apply below_alloc | apply pw_below_drewN | apply below_drew1) | exact HB.out)⟩⟩
                          · rw [if_neg c25] at H
                            exact absurd H (by simp)
                        · rw [if_neg c24] at H
                          have c24b0 : ((bt a0 (ji20)) == 13) = false := beq_eq_false_iff_ne.mpr c24
                          have c24b1 : ((bt a0 (ji20)) != 13) = true := bne_iff_ne.mpr c24
                          have H' := Aside0.mk H
                          clear H
                          have p23 : 0 ≤ ((ji20) : Int) := of_decide_eq_true (by first | (with_reducible assumption) | assumption)
                          have q23 : (ji20) < (a0.size : Int) := of_decide_eq_true (by first | (with_reducible assumption) | assumption)
                          have hx23 := bt_at a0 (ji20)
                          replace p23 := eq_true p23
                          replace q23 := eq_true q23
                          go_wp2
                          go_meet
                          case rel => exact ⟨_, (false), (by first | rfl | (simp; done) | (simp [*]; done)), H', ⟨by have := HJ3.out; have := HJ12.out; first | omega | exact Nat.le_refl _⟩, ⟨by repeat (first | (with_reducible first | exact HB.out | apply below_alloc | apply pw_below_drewN | apply below_drew1) | exact HB.out)⟩⟩
                      · rw [if_neg c22] at H
                        exact absurd H (by simp)
                    · rw [if_neg c21] at H
                      exact absurd H (by simp)
                  case rest =>
                    clear HC19
                    try clear c1
                    try clear c2
                    try clear p2
                    try clear q2
                    try clear hx2
                    try clear qi2
                    try clear c5
                    try clear c6
                    try clear c6b0
                    try clear c6b1
                    try clear p6
                    try clear c7
                    try clear c8
                    try clear c8b0
                    try clear c8b1
                    try clear c8b2
                    try clear c12
                    try clear c12b0
                    try clear c12b1
                    try clear c12b2
                    try clear c17
                    try clear c17b0
                    try clear c17b1
                    try clear c18
                    try clear c21
                    try clear c21b0
                    try clear c22
                    try clear c22b0
                    try clear p23
                    try clear q23
                    try clear hx23
                    try clear c24
                    try clear c24b0
                    try clear c24b1
                    try clear c25
                    try clear c25b0
                    try clear c25b1
                    try clear c26
                    try clear p26
                    try clear q26
                    try clear hx26
                    try clear qi26
                    try clear p2
                    try clear p23
                    try clear p26
                    try clear q23
                    try clear q26
                    obtain ⟨kq, x45_18, rfl, HA, HJ18, HB⟩ := hcut
                    cases kq with
                    | zero => exact absurd HA.out (by simp [flaillaw02_LinesJoins.j2])
                    | succ kj18 =>
                      have H := HA.out
                      clear HA
                      simp only [flaillaw02_LinesJoins.j2] at H
                      by_cases c27 : x45_18 = true
                      · subst c27
                        have H1 : (if t114 = true then (if (t115.toList == (t116 ++ t117).toList) = true then (if a0.size + a1.size ≤ 9223372036854775807 then ((lines_Norm.f (a0 ++ a1)).bind fun t118 => ((lines_Norm.f a0).bind fun t119 => (if 1 ≤ (a1.size : Int) then ((lines_Norm.f (a1.extract 1 a1.size)).bind fun t120 => (if t119.size + t120.size ≤ 9223372036854775807 then (some (t118.toList == (t119 ++ t120).toList)) else (none))) else (none)))) else (none)) else (some false)) else (some false)) = some r := by rw [if_pos rfl] at H; exact H
                        clear H
                        have H := H1
                        clear H1
                        by_cases c28 : t114 = true
                        · subst c28
                          have H1 : (if (t115.toList == (t116 ++ t117).toList) = true then (if a0.size + a1.size ≤ 9223372036854775807 then ((lines_Norm.f (a0 ++ a1)).bind fun t118 => ((lines_Norm.f a0).bind fun t119 => (if 1 ≤ (a1.size : Int) then ((lines_Norm.f (a1.extract 1 a1.size)).bind fun t120 => (if t119.size + t120.size ≤ 9223372036854775807 then (some (t118.toList == (t119 ++ t120).toList)) else (none))) else (none)))) else (none)) else (some false)) = some r := by rw [if_pos rfl] at H; exact H
                          clear H
                          have H := H1
                          clear H1
                          by_cases c29 : (t115.toList == (t116 ++ t117).toList) = true
                          · rw [if_pos c29] at H
                            have c29b0 : (t115.toList == (t116 ++ t117).toList) = true := c29
                            (try (have c29b1 : decide (t115.toList = (t116 ++ t117).toList) = true := by simpa using c29))
                            (try (have c29b2 : (t115.toList == (t116 ++ t117).toList) = true := by simpa using c29))
                            clear c29
                            by_cases c30 : a0.size + a1.size ≤ 9223372036854775807
                            · rw [if_pos c30] at H
                              have c30b0 := eq_true c30
                              have c30b1 : decide (a0.size + a1.size ≤ 9223372036854775807) = true := decide_eq_true c30
                              try have c30b2 : (9223372036854775807 < a0.size + a1.size) = False := eq_false (Nat.not_lt.2 c30)
                              replace H := Option.bind_eq_some_iff.mp H
                              obtain ⟨t118, A310, H⟩ := H
                              replace H : ((lines_Norm.f a0).bind fun t119 => (if 1 ≤ (a1.size : Int) then ((lines_Norm.f (a1.extract 1 a1.size)).bind fun t120 => (if t119.size + t120.size ≤ 9223372036854775807 then (some (t118.toList == (t119 ++ t120).toList)) else (none))) else (none))) = some r := H
                              have A31 := Aside0.mk A310
                              clear A310
                              replace H := Option.bind_eq_some_iff.mp H
                              obtain ⟨t119, A320, H⟩ := H
                              replace H : (if 1 ≤ (a1.size : Int) then ((lines_Norm.f (a1.extract 1 a1.size)).bind fun t120 => (if t119.size + t120.size ≤ 9223372036854775807 then (some (t118.toList == (t119 ++ t120).toList)) else (none))) else (none)) = some r := H
                              have A32 := Aside0.mk A320
                              clear A320
                              by_cases c33 : 1 ≤ (a1.size : Int)
                              · rw [if_pos c33] at H
                                have c33b0 := eq_true c33
                                have c33b1 : decide (1 ≤ (a1.size : Int)) = true := decide_eq_true c33
                                clear c33
                                replace H := Option.bind_eq_some_iff.mp H
                                obtain ⟨t120, A340, H⟩ := H
                                replace H : (if t119.size + t120.size ≤ 9223372036854775807 then (some (t118.toList == (t119 ++ t120).toList)) else (none)) = some r := H
                                have A34 := Aside0.mk A340
                                clear A340
                                by_cases c35 : t119.size + t120.size ≤ 9223372036854775807
                                · rw [if_pos c35] at H
                                  have c35b0 := eq_true c35
                                  have c35b1 : decide (t119.size + t120.size ≤ 9223372036854775807) = true := decide_eq_true c35
                                  try have c35b2 : (9223372036854775807 < t119.size + t120.size) = False := eq_false (Nat.not_lt.2 c35)
                                  obtain rfl := Option.some.inj H
                                  try go_wp2
                                  have n0_ := Aside0.mk (below_drew1 HB.out)
                                  clear HB
                                  have HB := n0_
                                  clear n0_
                                  refine start_ (n := 18) (S := fun w' => True) (ds := []) #[false, false, false, false, false, false, false, false, false, false, false, false, false, false, false, false, false, false] (by kernel_rfl) rfl rfl trivial (fun hHeld => ?_); refine with_tabW flaillaw02_LinesJoins.tab7 flaillaw02_LinesJoins.bits7 (fun HT_ HW_ => ?_)
                                  generalize wc.drew = w36 at HB hHeld ⊢
                                  refine pure_ (i := 0) (N := some 46) (v := ?_) (a' := ?_) #[true, false, false, false, false, false, false, false, false, false, false, false, false, false, false, false, false, false] rfl rfl (any_of HT_.out (by kernel_rfl)) (fun _ _ _ h => h) (Or.inl ⟨by rfl, ?_⟩) ?_ ?_
                                  rotate_left
                                  · intro w'
                                    go_simp
                                    with_reducible rfl
                                  rotate_left
                                  · simp only [Act.put, List.setIfInBounds_toArray, List.set_cons_zero, List.set_cons_succ, i64_w, i32_w]
                                    rfl
                                  refine pure_ (i := 1) (N := some 47) (v := ?_) (a' := ?_) #[true, true, false, false, false, false, false, false, false, false, false, false, false, false, false, false, false, false] rfl rfl (any_of HT_.out (by kernel_rfl)) (fun _ _ _ h => h) (Or.inl ⟨by rfl, ?_⟩) ?_ ?_
                                  rotate_left
                                  · intro w'
                                    go_simp
                                    with_reducible rfl
                                  rotate_left
                                  · simp only [Act.put, List.setIfInBounds_toArray, List.set_cons_zero, List.set_cons_succ, i64_w, i32_w]
                                    rfl
                                  refine pure_ (i := 2) (N := some 48) (v := ?_) (a' := ?_) #[true, true, true, false, false, false, false, false, false, false, false, false, false, false, false, false, false, false] rfl rfl (any_of HT_.out (by kernel_rfl)) (fun _ _ _ h => h) (Or.inl ⟨by rfl, ?_⟩) ?_ ?_
                                  rotate_left
                                  · intro w'
                                    go_simp
                                    with_reducible rfl
                                  rotate_left
                                  · simp only [Act.put, List.setIfInBounds_toArray, List.set_cons_zero, List.set_cons_succ, i64_w, i32_w]
                                    rfl
                                  refine pure_ (i := 3) (N := some 49) (v := ?_) (a' := ?_) #[true, true, true, true, false, false, false, false, false, false, false, false, false, false, false, false, false, false] rfl rfl (any_of HT_.out (by kernel_rfl)) (fun _ _ _ h => h) (Or.inl ⟨by rfl, ?_⟩) ?_ ?_
                                  rotate_left
                                  · intro w'
                                    go_simp
                                    with_reducible rfl
                                  rotate_left
                                  · simp only [Act.put, List.setIfInBounds_toArray, List.set_cons_zero, List.set_cons_succ, i64_w, i32_w]
                                    rfl
                                  refine pure_ (i := 4) (N := some 50) (v := ?_) (a' := ?_) #[true, true, true, true, true, false, false, false, false, false, false, false, false, false, false, false, false, false] rfl rfl (any_of HT_.out (by kernel_rfl)) (fun _ _ _ h => h) (Or.inl ⟨by rfl, ?_⟩) ?_ ?_
                                  rotate_left
                                  · intro w'
                                    go_simp
                                    with_reducible rfl
                                  rotate_left
                                  · simp only [Act.put, List.setIfInBounds_toArray, List.set_cons_zero, List.set_cons_succ, i64_w, i32_w]
                                    rfl
                                  refine pure_ (i := 5) (N := some 51) (v := ?_) (a' := ?_) #[true, true, true, true, true, true, false, false, false, false, false, false, false, false, false, false, false, false] rfl rfl (any_of HT_.out (by kernel_rfl)) (fun _ _ _ h => h) (Or.inl ⟨by rfl, ?_⟩) ?_ ?_
                                  rotate_left
                                  · intro w'
                                    go_simp
                                    with_reducible rfl
                                  rotate_left
                                  · simp only [Act.put, List.setIfInBounds_toArray, List.set_cons_zero, List.set_cons_succ, i64_w, i32_w]
                                    rfl
                                  refine pure_ (i := 6) (N := some 52) (v := ?_) (a' := ?_) #[true, true, true, true, true, true, true, false, false, false, false, false, false, false, false, false, false, false] rfl rfl (any_of HT_.out (by kernel_rfl)) (fun _ _ _ h => h) (Or.inl ⟨by rfl, ?_⟩) ?_ ?_
                                  rotate_left
                                  · intro w'
                                    go_simp
                                    with_reducible rfl
                                  rotate_left
                                  · simp only [Act.put, List.setIfInBounds_toArray, List.set_cons_zero, List.set_cons_succ, i64_w, i32_w]
                                    rfl
                                  refine pure_ (i := 7) (N := some 53) (v := ?_) (a' := ?_) #[true, true, true, true, true, true, true, true, false, false, false, false, false, false, false, false, false, false] rfl rfl (any_of HT_.out (by kernel_rfl)) (fun _ _ _ h => h) (Or.inl ⟨by rfl, ?_⟩) ?_ ?_
                                  rotate_left
                                  · intro w'
                                    go_simp
                                    with_reducible rfl
                                  rotate_left
                                  · simp only [Act.put, List.setIfInBounds_toArray, List.set_cons_zero, List.set_cons_succ, i64_w, i32_w]
                                    rfl
                                  refine pure_ (i := 9) (N := some 55) (v := ?_) (a' := ?_) #[true, true, true, true, true, true, true, true, false, true, false, false, false, false, false, false, false, false] rfl rfl (any_of HT_.out (by kernel_rfl)) (fun _ _ _ h => h) (Or.inl ⟨by rfl, ?_⟩) ?_ ?_
                                  rotate_left
                                  · intro w'
                                    go_simp
                                    with_reducible rfl
                                  rotate_left
                                  · simp only [Act.put, List.setIfInBounds_toArray, List.set_cons_zero, List.set_cons_succ, i64_w, i32_w]
                                    rfl
                                  refine pure_ (i := 11) (N := some 57) (v := ?_) (a' := ?_) #[true, true, true, true, true, true, true, true, false, true, false, true, false, false, false, false, false, false] rfl rfl (any_of HT_.out (by kernel_rfl)) (fun _ _ _ h => h) (Or.inl ⟨by rfl, ?_⟩) ?_ ?_
                                  rotate_left
                                  · intro w'
                                    go_simp
                                    with_reducible rfl
                                  rotate_left
                                  · simp only [Act.put, List.setIfInBounds_toArray, List.set_cons_zero, List.set_cons_succ, i64_w, i32_w]
                                    rfl
                                  refine pure_ (i := 12) (N := some 58) (v := ?_) (a' := ?_) #[true, true, true, true, true, true, true, true, false, true, false, true, true, false, false, false, false, false] rfl rfl (any_of HT_.out (by kernel_rfl)) (fun _ _ _ h => h) (Or.inl ⟨by rfl, ?_⟩) ?_ ?_
                                  rotate_left
                                  · intro w'
                                    go_simp
                                    with_reducible rfl
                                  rotate_left
                                  · simp only [Act.put, List.setIfInBounds_toArray, List.set_cons_zero, List.set_cons_succ, i64_w, i32_w]
                                    rfl
                                  refine one_ (i := 8) (N := some 54) #[true, true, true, true, true, true, true, true, true, true, false, true, true, false, false, false, false, false] rfl rfl (one_of HT_.out (by kernel_rfl)) (by decide) (fun K hK => ?_)
                                  refine goes_ Tryd.func27 (by kernel_rfl) rfl #[.string (a0 ++ a1)] (by rfl) rfl rfl (by (try simp only [List.map_toArray, List.map_cons, List.map_nil]); first | done | rfl | (simp only [List.length_drop, List.length_take]; rfl)) ?_
                                  with_reducible refine (lines_Norm.calls (a0 ++ a1) t118 _ A31.out).mono ?_
                                  rintro e w37 ⟨rfl, hb⟩
                                  refine ⟨_, rfl, ?_⟩
                                  have n0_ := Aside0.mk (below_step (by repeat (first | (with_reducible first | exact HB.out | apply below_alloc | apply pw_below_drewN | apply below_drew1) | exact HB.out)) hb)
                                  clear HB
                                  have HB := n0_
                                  clear n0_
                                  (try clear hb)
                                  (try clear hb2)
                                  (try clear hk)
                                  (try clear hi)
                                  refine hK.out _ _ trivial (fun hHeld => ?_)
                                  clear hK K
                                  refine norm_ (a' := ?_) ?_ ?_
                                  rotate_left
                                  · show Act.put _ (some 54) _ = _
                                    simp only [Act.put, List.setIfInBounds_toArray, List.set_cons_zero, List.set_cons_succ, i64_w, i32_w]
                                    rfl
                                  refine one_ (i := 10) (N := some 56) #[true, true, true, true, true, true, true, true, true, true, true, true, true, false, false, false, false, false] rfl rfl (one_of HT_.out (by kernel_rfl)) (by decide) (fun K hK => ?_)
                                  refine goes_ Tryd.func27 (by kernel_rfl) rfl #[.string a0] (by rfl) rfl rfl (by (try simp only [List.map_toArray, List.map_cons, List.map_nil]); first | done | rfl | (simp only [List.length_drop, List.length_take]; rfl)) ?_
                                  with_reducible refine (lines_Norm.calls a0 t119 _ A32.out).mono ?_
                                  rintro e w38 ⟨rfl, hb⟩
                                  refine ⟨_, rfl, ?_⟩
                                  have n0_ := Aside0.mk (below_step (by repeat (first | (with_reducible first | exact HB.out | apply below_alloc | apply pw_below_drewN | apply below_drew1) | exact HB.out)) hb)
                                  clear HB
                                  have HB := n0_
                                  clear n0_
                                  (try clear hb)
                                  (try clear hb2)
                                  (try clear hk)
                                  (try clear hi)
                                  refine hK.out _ _ trivial (fun hHeld => ?_)
                                  clear hK K
                                  refine norm_ (a' := ?_) ?_ ?_
                                  rotate_left
                                  · show Act.put _ (some 56) _ = _
                                    simp only [Act.put, List.setIfInBounds_toArray, List.set_cons_zero, List.set_cons_succ, i64_w, i32_w]
                                    rfl
                                  refine one_ (i := 13) (N := some 59) #[true, true, true, true, true, true, true, true, true, true, true, true, true, true, false, false, false, false] rfl rfl (one_of HT_.out (by kernel_rfl)) (by decide) (fun K hK => ?_)
                                  refine goes_ Tryd.func27 (by kernel_rfl) rfl #[.string (a1.extract 1 a1.size)] (by rfl) rfl rfl (by (try simp only [List.map_toArray, List.map_cons, List.map_nil]); first | done | rfl | (simp only [List.length_drop, List.length_take]; rfl)) ?_
                                  with_reducible refine (lines_Norm.calls (a1.extract 1 a1.size) t120 _ A34.out).mono ?_
                                  rintro e w39 ⟨rfl, hb⟩
                                  refine ⟨_, rfl, ?_⟩
                                  have n0_ := Aside0.mk (below_step (by repeat (first | (with_reducible first | exact HB.out | apply below_alloc | apply pw_below_drewN | apply below_drew1) | exact HB.out)) hb)
                                  clear HB
                                  have HB := n0_
                                  clear n0_
                                  (try clear hb)
                                  (try clear hb2)
                                  (try clear hk)
                                  (try clear hi)
                                  refine hK.out _ _ trivial (fun hHeld => ?_)
                                  clear hK K
                                  refine norm_ (a' := ?_) ?_ ?_
                                  rotate_left
                                  · show Act.put _ (some 59) _ = _
                                    simp only [Act.put, List.setIfInBounds_toArray, List.set_cons_zero, List.set_cons_succ, i64_w, i32_w]
                                    rfl
                                  refine pure_ (i := 14) (N := some 60) (v := ?_) (a' := ?_) #[true, true, true, true, true, true, true, true, true, true, true, true, true, true, true, false, false, false] rfl rfl (any_of HT_.out (by kernel_rfl)) (fun _ _ _ h => h) (Or.inl ⟨by rfl, ?_⟩) ?_ ?_
                                  rotate_left
                                  · intro w'
                                    go_simp
                                    with_reducible rfl
                                  rotate_left
                                  · simp only [Act.put, List.setIfInBounds_toArray, List.set_cons_zero, List.set_cons_succ, i64_w, i32_w]
                                    rfl
                                  refine pure_ (i := 15) (N := some 61) (v := ?_) (a' := ?_) #[true, true, true, true, true, true, true, true, true, true, true, true, true, true, true, true, false, false] rfl rfl (any_of HT_.out (by kernel_rfl)) (fun _ _ _ h => h) (Or.inl ⟨by rfl, ?_⟩) ?_ ?_
                                  rotate_left
                                  · intro w'
                                    go_simp
                                    with_reducible rfl
                                  rotate_left
                                  · simp only [Act.put, List.setIfInBounds_toArray, List.set_cons_zero, List.set_cons_succ, i64_w, i32_w]
                                    rfl
                                  refine pure_ (i := 16) (N := some 62) (v := ?_) (a' := ?_) #[true, true, true, true, true, true, true, true, true, true, true, true, true, true, true, true, true, false] rfl rfl (any_of HT_.out (by kernel_rfl)) (fun _ _ _ h => h) (Or.inl ⟨by rfl, ?_⟩) ?_ ?_
                                  rotate_left
                                  · intro w'
                                    go_simp
                                    with_reducible rfl
                                  rotate_left
                                  · simp only [Act.put, List.setIfInBounds_toArray, List.set_cons_zero, List.set_cons_succ, i64_w, i32_w]
                                    rfl
                                  refine pure_ (i := 17) (N := some 4) (v := ?_) (a' := ?_) #[true, true, true, true, true, true, true, true, true, true, true, true, true, true, true, true, true, true] rfl rfl (any_of HT_.out (by kernel_rfl)) (fun _ _ _ h => h) (Or.inl ⟨by rfl, ?_⟩) ?_ ?_
                                  rotate_left
                                  · intro w'
                                    go_simp
                                    with_reducible rfl
                                  rotate_left
                                  · simp only [Act.put, List.setIfInBounds_toArray, List.set_cons_zero, List.set_cons_succ, i64_w, i32_w]
                                    rfl
                                  refine done_ (done_of HT_.out (by kernel_rfl)) ?_
                                  try go_wp2
                                  go_ret
                                  exact ⟨by first | rfl | (simp [errW_none, errW_some] <;> rfl) | (simp [*, errW_none, errW_some] <;> rfl), by repeat (first | (with_reducible first | exact HB.out | apply below_alloc | apply pw_below_drewN | apply below_drew1) | exact HB.out)⟩
                                · rw [if_neg c35] at H
                                  exact absurd H (by simp)
                              · rw [if_neg c33] at H
                                exact absurd H (by simp)
                            · rw [if_neg c30] at H
                              exact absurd H (by simp)
                          · rw [if_neg c29] at H
                            have c29b0 : (t115.toList == (t116 ++ t117).toList) = false := by simpa using c29
                            (try (have c29b1 : decide (t115.toList = (t116 ++ t117).toList) = false := by simpa using c29))
                            (try (have c29b2 : (t115.toList == (t116 ++ t117).toList) = false := by simpa using c29))
                            (try (have c29b3 : ¬ (t115.toList = (t116 ++ t117).toList) := by simpa using c29))
                            clear c29
                            obtain rfl := Option.some.inj H
                            try go_wp2
                            have n0_ := Aside0.mk (below_drew1 HB.out)
                            clear HB
                            have HB := n0_
                            clear n0_
                            refine start_ (n := 18) (S := fun w' => True) (ds := []) #[false, false, false, false, false, false, false, false, false, false, false, false, false, false, false, false, false, false] (by kernel_rfl) rfl rfl trivial (fun hHeld => ?_); refine with_tabW flaillaw02_LinesJoins.tab7 flaillaw02_LinesJoins.bits7 (fun HT_ HW_ => ?_)
                            generalize wc.drew = w40 at HB hHeld ⊢
                            refine pure_ (i := 0) (N := some 46) (v := ?_) (a' := ?_) #[true, false, false, false, false, false, false, false, false, false, false, false, false, false, false, false, false, false] rfl rfl (any_of HT_.out (by kernel_rfl)) (fun _ _ _ h => h) (Or.inl ⟨by rfl, ?_⟩) ?_ ?_
                            rotate_left
                            · intro w'
                              go_simp
                              with_reducible rfl
                            rotate_left
                            · simp only [Act.put, List.setIfInBounds_toArray, List.set_cons_zero, List.set_cons_succ, i64_w, i32_w]
                              rfl
                            refine pure_ (i := 1) (N := some 47) (v := ?_) (a' := ?_) #[true, true, false, false, false, false, false, false, false, false, false, false, false, false, false, false, false, false] rfl rfl (any_of HT_.out (by kernel_rfl)) (fun _ _ _ h => h) (Or.inl ⟨by rfl, ?_⟩) ?_ ?_
                            rotate_left
                            · intro w'
                              go_simp
                              with_reducible rfl
                            rotate_left
                            · simp only [Act.put, List.setIfInBounds_toArray, List.set_cons_zero, List.set_cons_succ, i64_w, i32_w]
                              rfl
                            refine pure_ (i := 2) (N := some 48) (v := ?_) (a' := ?_) #[true, true, true, false, false, false, false, false, false, false, false, false, false, false, false, false, false, false] rfl rfl (any_of HT_.out (by kernel_rfl)) (fun _ _ _ h => h) (Or.inl ⟨by rfl, ?_⟩) ?_ ?_
                            rotate_left
                            · intro w'
                              go_simp
                              with_reducible rfl
                            rotate_left
                            · simp only [Act.put, List.setIfInBounds_toArray, List.set_cons_zero, List.set_cons_succ, i64_w, i32_w]
                              rfl
                            refine pure_ (i := 3) (N := some 49) (v := ?_) (a' := ?_) #[true, true, true, true, false, false, false, false, false, false, false, false, false, false, false, false, false, false] rfl rfl (any_of HT_.out (by kernel_rfl)) (fun _ _ _ h => h) (Or.inl ⟨by rfl, ?_⟩) ?_ ?_
                            rotate_left
                            · intro w'
                              go_simp
                              with_reducible rfl
                            rotate_left
                            · simp only [Act.put, List.setIfInBounds_toArray, List.set_cons_zero, List.set_cons_succ, i64_w, i32_w]
                              rfl
                            refine pure_ (i := 4) (N := some 50) (v := ?_) (a' := ?_) #[true, true, true, true, true, false, false, false, false, false, false, false, false, false, false, false, false, false] rfl rfl (any_of HT_.out (by kernel_rfl)) (fun _ _ _ h => h) (Or.inl ⟨by rfl, ?_⟩) ?_ ?_
                            rotate_left
                            · intro w'
                              go_simp
                              with_reducible rfl
                            rotate_left
                            · simp only [Act.put, List.setIfInBounds_toArray, List.set_cons_zero, List.set_cons_succ, i64_w, i32_w]
                              rfl
                            refine pure_ (i := 5) (N := some 51) (v := undef) (a' := ?_) #[true, true, true, true, true, true, false, false, false, false, false, false, false, false, false, false, false, false] rfl rfl (any_of HT_.out (by kernel_rfl)) (fun _ _ _ h => h) (Or.inr ⟨by rfl, rfl⟩) ?_ ?_
                            rotate_left
                            · simp only [Act.put, List.setIfInBounds_toArray, List.set_cons_zero, List.set_cons_succ, i64_w, i32_w]
                              rfl
                            refine pure_ (i := 6) (N := some 52) (v := undef) (a' := ?_) #[true, true, true, true, true, true, true, false, false, false, false, false, false, false, false, false, false, false] rfl rfl (any_of HT_.out (by kernel_rfl)) (fun _ _ _ h => h) (Or.inr ⟨by rfl, rfl⟩) ?_ ?_
                            rotate_left
                            · simp only [Act.put, List.setIfInBounds_toArray, List.set_cons_zero, List.set_cons_succ, i64_w, i32_w]
                              rfl
                            refine pure_ (i := 7) (N := some 53) (v := undef) (a' := ?_) #[true, true, true, true, true, true, true, true, false, false, false, false, false, false, false, false, false, false] rfl rfl (any_of HT_.out (by kernel_rfl)) (fun _ _ _ h => h) (Or.inr ⟨by rfl, rfl⟩) ?_ ?_
                            rotate_left
                            · simp only [Act.put, List.setIfInBounds_toArray, List.set_cons_zero, List.set_cons_succ, i64_w, i32_w]
                              rfl
                            refine pure_ (i := 8) (N := some 54) (v := undef) (a' := ?_) #[true, true, true, true, true, true, true, true, true, false, false, false, false, false, false, false, false, false] rfl rfl (any_of HT_.out (by kernel_rfl)) (fun _ _ _ h => h) (Or.inr ⟨by rfl, rfl⟩) ?_ ?_
                            rotate_left
                            · simp only [Act.put, List.setIfInBounds_toArray, List.set_cons_zero, List.set_cons_succ, i64_w, i32_w]
                              rfl
                            refine pure_ (i := 9) (N := some 55) (v := undef) (a' := ?_) #[true, true, true, true, true, true, true, true, true, true, false, false, false, false, false, false, false, false] rfl rfl (any_of HT_.out (by kernel_rfl)) (fun _ _ _ h => h) (Or.inr ⟨by rfl, rfl⟩) ?_ ?_
                            rotate_left
                            · simp only [Act.put, List.setIfInBounds_toArray, List.set_cons_zero, List.set_cons_succ, i64_w, i32_w]
                              rfl
                            refine pure_ (i := 10) (N := some 56) (v := undef) (a' := ?_) #[true, true, true, true, true, true, true, true, true, true, true, false, false, false, false, false, false, false] rfl rfl (any_of HT_.out (by kernel_rfl)) (fun _ _ _ h => h) (Or.inr ⟨by rfl, rfl⟩) ?_ ?_
                            rotate_left
                            · simp only [Act.put, List.setIfInBounds_toArray, List.set_cons_zero, List.set_cons_succ, i64_w, i32_w]
                              rfl
                            refine pure_ (i := 11) (N := some 57) (v := undef) (a' := ?_) #[true, true, true, true, true, true, true, true, true, true, true, true, false, false, false, false, false, false] rfl rfl (any_of HT_.out (by kernel_rfl)) (fun _ _ _ h => h) (Or.inr ⟨by rfl, rfl⟩) ?_ ?_
                            rotate_left
                            · simp only [Act.put, List.setIfInBounds_toArray, List.set_cons_zero, List.set_cons_succ, i64_w, i32_w]
                              rfl
                            refine pure_ (i := 12) (N := some 58) (v := undef) (a' := ?_) #[true, true, true, true, true, true, true, true, true, true, true, true, true, false, false, false, false, false] rfl rfl (any_of HT_.out (by kernel_rfl)) (fun _ _ _ h => h) (Or.inr ⟨by rfl, rfl⟩) ?_ ?_
                            rotate_left
                            · simp only [Act.put, List.setIfInBounds_toArray, List.set_cons_zero, List.set_cons_succ, i64_w, i32_w]
                              rfl
                            refine pure_ (i := 13) (N := some 59) (v := undef) (a' := ?_) #[true, true, true, true, true, true, true, true, true, true, true, true, true, true, false, false, false, false] rfl rfl (any_of HT_.out (by kernel_rfl)) (fun _ _ _ h => h) (Or.inr ⟨by rfl, rfl⟩) ?_ ?_
                            rotate_left
                            · simp only [Act.put, List.setIfInBounds_toArray, List.set_cons_zero, List.set_cons_succ, i64_w, i32_w]
                              rfl
                            refine pure_ (i := 14) (N := some 60) (v := undef) (a' := ?_) #[true, true, true, true, true, true, true, true, true, true, true, true, true, true, true, false, false, false] rfl rfl (any_of HT_.out (by kernel_rfl)) (fun _ _ _ h => h) (Or.inr ⟨by rfl, rfl⟩) ?_ ?_
                            rotate_left
                            · simp only [Act.put, List.setIfInBounds_toArray, List.set_cons_zero, List.set_cons_succ, i64_w, i32_w]
                              rfl
                            refine pure_ (i := 15) (N := some 61) (v := undef) (a' := ?_) #[true, true, true, true, true, true, true, true, true, true, true, true, true, true, true, true, false, false] rfl rfl (any_of HT_.out (by kernel_rfl)) (fun _ _ _ h => h) (Or.inr ⟨by rfl, rfl⟩) ?_ ?_
                            rotate_left
                            · simp only [Act.put, List.setIfInBounds_toArray, List.set_cons_zero, List.set_cons_succ, i64_w, i32_w]
                              rfl
                            refine pure_ (i := 16) (N := some 62) (v := ?_) (a' := ?_) #[true, true, true, true, true, true, true, true, true, true, true, true, true, true, true, true, true, false] rfl rfl (any_of HT_.out (by kernel_rfl)) (fun _ _ _ h => h) (Or.inl ⟨by rfl, ?_⟩) ?_ ?_
                            rotate_left
                            · intro w'
                              go_simp
                              with_reducible rfl
                            rotate_left
                            · simp only [Act.put, List.setIfInBounds_toArray, List.set_cons_zero, List.set_cons_succ, i64_w, i32_w]
                              rfl
                            refine pure_ (i := 17) (N := some 4) (v := ?_) (a' := ?_) #[true, true, true, true, true, true, true, true, true, true, true, true, true, true, true, true, true, true] rfl rfl (any_of HT_.out (by kernel_rfl)) (fun _ _ _ h => h) (Or.inl ⟨by rfl, ?_⟩) ?_ ?_
                            rotate_left
                            · intro w'
                              go_simp
                              with_reducible rfl
                            rotate_left
                            · simp only [Act.put, List.setIfInBounds_toArray, List.set_cons_zero, List.set_cons_succ, i64_w, i32_w]
                              rfl
                            refine done_ (done_of HT_.out (by kernel_rfl)) ?_
                            try go_wp2
                            go_ret
                            exact ⟨by first | rfl | (simp [errW_none, errW_some] <;> rfl) | (simp [*, errW_none, errW_some] <;> rfl), by repeat (first | (with_reducible first | exact HB.out | apply below_alloc | apply pw_below_drewN | apply below_drew1) | exact HB.out)⟩
                        · replace c28 := Bool.eq_false_iff.mpr c28
                          subst c28
                          have H1 : (some false) = some r := by rw [if_neg (show ¬ (false = true) by decide)] at H; exact H
                          clear H
                          have H := H1
                          clear H1
                          obtain rfl := Option.some.inj H
                          try go_wp2
                          have n0_ := Aside0.mk (below_drew1 HB.out)
                          clear HB
                          have HB := n0_
                          clear n0_
                          refine start_ (n := 18) (S := fun w' => True) (ds := []) #[false, false, false, false, false, false, false, false, false, false, false, false, false, false, false, false, false, false] (by kernel_rfl) rfl rfl trivial (fun hHeld => ?_); refine with_tabW flaillaw02_LinesJoins.tab7 flaillaw02_LinesJoins.bits7 (fun HT_ HW_ => ?_)
                          generalize wc.drew = w41 at HB hHeld ⊢
                          refine pure_ (i := 0) (N := some 46) (v := ?_) (a' := ?_) #[true, false, false, false, false, false, false, false, false, false, false, false, false, false, false, false, false, false] rfl rfl (any_of HT_.out (by kernel_rfl)) (fun _ _ _ h => h) (Or.inl ⟨by rfl, ?_⟩) ?_ ?_
                          rotate_left
                          · intro w'
                            go_simp
                            with_reducible rfl
                          rotate_left
                          · simp only [Act.put, List.setIfInBounds_toArray, List.set_cons_zero, List.set_cons_succ, i64_w, i32_w]
                            rfl
                          refine pure_ (i := 1) (N := some 47) (v := ?_) (a' := ?_) #[true, true, false, false, false, false, false, false, false, false, false, false, false, false, false, false, false, false] rfl rfl (any_of HT_.out (by kernel_rfl)) (fun _ _ _ h => h) (Or.inl ⟨by rfl, ?_⟩) ?_ ?_
                          rotate_left
                          · intro w'
                            go_simp
                            with_reducible rfl
                          rotate_left
                          · simp only [Act.put, List.setIfInBounds_toArray, List.set_cons_zero, List.set_cons_succ, i64_w, i32_w]
                            rfl
                          refine pure_ (i := 2) (N := some 48) (v := undef) (a' := ?_) #[true, true, true, false, false, false, false, false, false, false, false, false, false, false, false, false, false, false] rfl rfl (any_of HT_.out (by kernel_rfl)) (fun _ _ _ h => h) (Or.inr ⟨by rfl, rfl⟩) ?_ ?_
                          rotate_left
                          · simp only [Act.put, List.setIfInBounds_toArray, List.set_cons_zero, List.set_cons_succ, i64_w, i32_w]
                            rfl
                          refine pure_ (i := 3) (N := some 49) (v := ?_) (a' := ?_) #[true, true, true, true, false, false, false, false, false, false, false, false, false, false, false, false, false, false] rfl rfl (any_of HT_.out (by kernel_rfl)) (fun _ _ _ h => h) (Or.inl ⟨by rfl, ?_⟩) ?_ ?_
                          rotate_left
                          · intro w'
                            go_simp
                            with_reducible rfl
                          rotate_left
                          · simp only [Act.put, List.setIfInBounds_toArray, List.set_cons_zero, List.set_cons_succ, i64_w, i32_w]
                            rfl
                          refine pure_ (i := 4) (N := some 50) (v := ?_) (a' := ?_) #[true, true, true, true, true, false, false, false, false, false, false, false, false, false, false, false, false, false] rfl rfl (any_of HT_.out (by kernel_rfl)) (fun _ _ _ h => h) (Or.inl ⟨by rfl, ?_⟩) ?_ ?_
                          rotate_left
                          · intro w'
                            go_simp
                            with_reducible rfl
                          rotate_left
                          · simp only [Act.put, List.setIfInBounds_toArray, List.set_cons_zero, List.set_cons_succ, i64_w, i32_w]
                            rfl
                          refine pure_ (i := 5) (N := some 51) (v := undef) (a' := ?_) #[true, true, true, true, true, true, false, false, false, false, false, false, false, false, false, false, false, false] rfl rfl (any_of HT_.out (by kernel_rfl)) (fun _ _ _ h => h) (Or.inr ⟨by rfl, rfl⟩) ?_ ?_
                          rotate_left
                          · simp only [Act.put, List.setIfInBounds_toArray, List.set_cons_zero, List.set_cons_succ, i64_w, i32_w]
                            rfl
                          refine pure_ (i := 6) (N := some 52) (v := undef) (a' := ?_) #[true, true, true, true, true, true, true, false, false, false, false, false, false, false, false, false, false, false] rfl rfl (any_of HT_.out (by kernel_rfl)) (fun _ _ _ h => h) (Or.inr ⟨by rfl, rfl⟩) ?_ ?_
                          rotate_left
                          · simp only [Act.put, List.setIfInBounds_toArray, List.set_cons_zero, List.set_cons_succ, i64_w, i32_w]
                            rfl
                          refine pure_ (i := 7) (N := some 53) (v := undef) (a' := ?_) #[true, true, true, true, true, true, true, true, false, false, false, false, false, false, false, false, false, false] rfl rfl (any_of HT_.out (by kernel_rfl)) (fun _ _ _ h => h) (Or.inr ⟨by rfl, rfl⟩) ?_ ?_
                          rotate_left
                          · simp only [Act.put, List.setIfInBounds_toArray, List.set_cons_zero, List.set_cons_succ, i64_w, i32_w]
                            rfl
                          refine pure_ (i := 8) (N := some 54) (v := undef) (a' := ?_) #[true, true, true, true, true, true, true, true, true, false, false, false, false, false, false, false, false, false] rfl rfl (any_of HT_.out (by kernel_rfl)) (fun _ _ _ h => h) (Or.inr ⟨by rfl, rfl⟩) ?_ ?_
                          rotate_left
                          · simp only [Act.put, List.setIfInBounds_toArray, List.set_cons_zero, List.set_cons_succ, i64_w, i32_w]
                            rfl
                          refine pure_ (i := 9) (N := some 55) (v := undef) (a' := ?_) #[true, true, true, true, true, true, true, true, true, true, false, false, false, false, false, false, false, false] rfl rfl (any_of HT_.out (by kernel_rfl)) (fun _ _ _ h => h) (Or.inr ⟨by rfl, rfl⟩) ?_ ?_
                          rotate_left
                          · simp only [Act.put, List.setIfInBounds_toArray, List.set_cons_zero, List.set_cons_succ, i64_w, i32_w]
                            rfl
                          refine pure_ (i := 10) (N := some 56) (v := undef) (a' := ?_) #[true, true, true, true, true, true, true, true, true, true, true, false, false, false, false, false, false, false] rfl rfl (any_of HT_.out (by kernel_rfl)) (fun _ _ _ h => h) (Or.inr ⟨by rfl, rfl⟩) ?_ ?_
                          rotate_left
                          · simp only [Act.put, List.setIfInBounds_toArray, List.set_cons_zero, List.set_cons_succ, i64_w, i32_w]
                            rfl
                          refine pure_ (i := 11) (N := some 57) (v := undef) (a' := ?_) #[true, true, true, true, true, true, true, true, true, true, true, true, false, false, false, false, false, false] rfl rfl (any_of HT_.out (by kernel_rfl)) (fun _ _ _ h => h) (Or.inr ⟨by rfl, rfl⟩) ?_ ?_
                          rotate_left
                          · simp only [Act.put, List.setIfInBounds_toArray, List.set_cons_zero, List.set_cons_succ, i64_w, i32_w]
                            rfl
                          refine pure_ (i := 12) (N := some 58) (v := undef) (a' := ?_) #[true, true, true, true, true, true, true, true, true, true, true, true, true, false, false, false, false, false] rfl rfl (any_of HT_.out (by kernel_rfl)) (fun _ _ _ h => h) (Or.inr ⟨by rfl, rfl⟩) ?_ ?_
                          rotate_left
                          · simp only [Act.put, List.setIfInBounds_toArray, List.set_cons_zero, List.set_cons_succ, i64_w, i32_w]
                            rfl
                          refine pure_ (i := 13) (N := some 59) (v := undef) (a' := ?_) #[true, true, true, true, true, true, true, true, true, true, true, true, true, true, false, false, false, false] rfl rfl (any_of HT_.out (by kernel_rfl)) (fun _ _ _ h => h) (Or.inr ⟨by rfl, rfl⟩) ?_ ?_
                          rotate_left
                          · simp only [Act.put, List.setIfInBounds_toArray, List.set_cons_zero, List.set_cons_succ, i64_w, i32_w]
                            rfl
                          refine pure_ (i := 14) (N := some 60) (v := undef) (a' := ?_) #[true, true, true, true, true, true, true, true, true, true, true, true, true, true, true, false, false, false] rfl rfl (any_of HT_.out (by kernel_rfl)) (fun _ _ _ h => h) (Or.inr ⟨by rfl, rfl⟩) ?_ ?_
                          rotate_left
                          · simp only [Act.put, List.setIfInBounds_toArray, List.set_cons_zero, List.set_cons_succ, i64_w, i32_w]
                            rfl
                          refine pure_ (i := 15) (N := some 61) (v := undef) (a' := ?_) #[true, true, true, true, true, true, true, true, true, true, true, true, true, true, true, true, false, false] rfl rfl (any_of HT_.out (by kernel_rfl)) (fun _ _ _ h => h) (Or.inr ⟨by rfl, rfl⟩) ?_ ?_
                          rotate_left
                          · simp only [Act.put, List.setIfInBounds_toArray, List.set_cons_zero, List.set_cons_succ, i64_w, i32_w]
                            rfl
                          refine pure_ (i := 16) (N := some 62) (v := ?_) (a' := ?_) #[true, true, true, true, true, true, true, true, true, true, true, true, true, true, true, true, true, false] rfl rfl (any_of HT_.out (by kernel_rfl)) (fun _ _ _ h => h) (Or.inl ⟨by rfl, ?_⟩) ?_ ?_
                          rotate_left
                          · intro w'
                            go_simp
                            with_reducible rfl
                          rotate_left
                          · simp only [Act.put, List.setIfInBounds_toArray, List.set_cons_zero, List.set_cons_succ, i64_w, i32_w]
                            rfl
                          refine pure_ (i := 17) (N := some 4) (v := ?_) (a' := ?_) #[true, true, true, true, true, true, true, true, true, true, true, true, true, true, true, true, true, true] rfl rfl (any_of HT_.out (by kernel_rfl)) (fun _ _ _ h => h) (Or.inl ⟨by rfl, ?_⟩) ?_ ?_
                          rotate_left
                          · intro w'
                            go_simp
                            with_reducible rfl
                          rotate_left
                          · simp only [Act.put, List.setIfInBounds_toArray, List.set_cons_zero, List.set_cons_succ, i64_w, i32_w]
                            rfl
                          refine done_ (done_of HT_.out (by kernel_rfl)) ?_
                          try go_wp2
                          go_ret
                          exact ⟨by first | rfl | (simp [errW_none, errW_some] <;> rfl) | (simp [*, errW_none, errW_some] <;> rfl), by repeat (first | (with_reducible first | exact HB.out | apply below_alloc | apply pw_below_drewN | apply below_drew1) | exact HB.out)⟩
                      · replace c27 := Bool.eq_false_iff.mpr c27
                        subst c27
                        have H1 : (if t114 = true then (if (t115.toList == (t116 ++ t117).toList) = true then (if a0.size + a1.size ≤ 9223372036854775807 then ((lines_Norm.f (a0 ++ a1)).bind fun t121 => ((lines_Norm.f a0).bind fun t122 => ((lines_Norm.f a1).bind fun t123 => (if t122.size + t123.size ≤ 9223372036854775807 then (some (t121.toList == (t122 ++ t123).toList)) else (none))))) else (none)) else (some false)) else (some false)) = some r := by rw [if_neg (show ¬ (false = true) by decide)] at H; exact H
                        clear H
                        have H := H1
                        clear H1
                        by_cases c42 : t114 = true
                        · subst c42
                          have H1 : (if (t115.toList == (t116 ++ t117).toList) = true then (if a0.size + a1.size ≤ 9223372036854775807 then ((lines_Norm.f (a0 ++ a1)).bind fun t121 => ((lines_Norm.f a0).bind fun t122 => ((lines_Norm.f a1).bind fun t123 => (if t122.size + t123.size ≤ 9223372036854775807 then (some (t121.toList == (t122 ++ t123).toList)) else (none))))) else (none)) else (some false)) = some r := by rw [if_pos rfl] at H; exact H
                          clear H
                          have H := H1
                          clear H1
                          by_cases c43 : (t115.toList == (t116 ++ t117).toList) = true
                          · rw [if_pos c43] at H
                            have c43b0 : (t115.toList == (t116 ++ t117).toList) = true := c43
                            (try (have c43b1 : decide (t115.toList = (t116 ++ t117).toList) = true := by simpa using c43))
                            (try (have c43b2 : (t115.toList == (t116 ++ t117).toList) = true := by simpa using c43))
                            clear c43
                            by_cases c44 : a0.size + a1.size ≤ 9223372036854775807
                            · rw [if_pos c44] at H
                              have c44b0 := eq_true c44
                              have c44b1 : decide (a0.size + a1.size ≤ 9223372036854775807) = true := decide_eq_true c44
                              try have c44b2 : (9223372036854775807 < a0.size + a1.size) = False := eq_false (Nat.not_lt.2 c44)
                              replace H := Option.bind_eq_some_iff.mp H
                              obtain ⟨t121, A450, H⟩ := H
                              replace H : ((lines_Norm.f a0).bind fun t122 => ((lines_Norm.f a1).bind fun t123 => (if t122.size + t123.size ≤ 9223372036854775807 then (some (t121.toList == (t122 ++ t123).toList)) else (none)))) = some r := H
                              have A45 := Aside0.mk A450
                              clear A450
                              replace H := Option.bind_eq_some_iff.mp H
                              obtain ⟨t122, A460, H⟩ := H
                              replace H : ((lines_Norm.f a1).bind fun t123 => (if t122.size + t123.size ≤ 9223372036854775807 then (some (t121.toList == (t122 ++ t123).toList)) else (none))) = some r := H
                              have A46 := Aside0.mk A460
                              clear A460
                              replace H := Option.bind_eq_some_iff.mp H
                              obtain ⟨t123, A470, H⟩ := H
                              replace H : (if t122.size + t123.size ≤ 9223372036854775807 then (some (t121.toList == (t122 ++ t123).toList)) else (none)) = some r := H
                              have A47 := Aside0.mk A470
                              clear A470
                              by_cases c48 : t122.size + t123.size ≤ 9223372036854775807
                              · rw [if_pos c48] at H
                                have c48b0 := eq_true c48
                                have c48b1 : decide (t122.size + t123.size ≤ 9223372036854775807) = true := decide_eq_true c48
                                try have c48b2 : (9223372036854775807 < t122.size + t123.size) = False := eq_false (Nat.not_lt.2 c48)
                                obtain rfl := Option.some.inj H
                                go_wp2_with (first | (go_at_call 27; (with_reducible refine (lines_Norm.calls (a0 ++ a1) t121 _ A45.out).mono ?_); rintro e w49 ⟨rfl, hb⟩; have n0_ := Aside0.mk (below_step (by repeat (first | (with_reducible first | exact HB.out | apply below_alloc | apply pw_below_drewN | apply below_drew1) | exact HB.out)) hb); clear HB; have HB := n0_; clear n0_; (try clear hb); (try clear hb2); (try clear hk); (try clear hi)) | (go_at_call 27; (with_reducible refine (lines_Norm.calls a0 t122 _ A46.out).mono ?_); rintro e w50 ⟨rfl, hb⟩; have n0_ := Aside0.mk (below_step (by repeat (first | (with_reducible first | exact HB.out | apply below_alloc | apply pw_below_drewN | apply below_drew1) | exact HB.out)) hb); clear HB; have HB := n0_; clear n0_; (try clear hb); (try clear hb2); (try clear hk); (try clear hi)) | (go_at_call 27; (with_reducible refine (lines_Norm.calls a1 t123 _ A47.out).mono ?_); rintro e w51 ⟨rfl, hb⟩; have n0_ := Aside0.mk (below_step (by repeat (first | (with_reducible first | exact HB.out | apply below_alloc | apply pw_below_drewN | apply below_drew1) | exact HB.out)) hb); clear HB; have HB := n0_; clear n0_; (try clear hb); (try clear hb2); (try clear hk); (try clear hi)))
                                go_ret
                                exact ⟨by first | rfl | (simp [errW_none, errW_some] <;> rfl) | (simp [*, errW_none, errW_some] <;> rfl), by repeat (first | (with_reducible first | exact HB.out | apply below_alloc | apply pw_below_drewN | apply below_drew1) | exact HB.out)⟩
                              · rw [if_neg c48] at H
                                exact absurd H (by simp)
                            · rw [if_neg c44] at H
                              exact absurd H (by simp)
                          · rw [if_neg c43] at H
                            have c43b0 : (t115.toList == (t116 ++ t117).toList) = false := by simpa using c43
                            (try (have c43b1 : decide (t115.toList = (t116 ++ t117).toList) = false := by simpa using c43))
                            (try (have c43b2 : (t115.toList == (t116 ++ t117).toList) = false := by simpa using c43))
                            (try (have c43b3 : ¬ (t115.toList = (t116 ++ t117).toList) := by simpa using c43))
                            clear c43
                            obtain rfl := Option.some.inj H
                            go_wp2
                            go_ret
                            exact ⟨by first | rfl | (simp [errW_none, errW_some] <;> rfl) | (simp [*, errW_none, errW_some] <;> rfl), by repeat (first | (with_reducible first | exact HB.out | apply below_alloc | apply pw_below_drewN | apply below_drew1) | exact HB.out)⟩
                        · replace c42 := Bool.eq_false_iff.mpr c42
                          subst c42
                          have H1 : (some false) = some r := by rw [if_neg (show ¬ (false = true) by decide)] at H; exact H
                          clear H
                          have H := H1
                          clear H1
                          obtain rfl := Option.some.inj H
                          go_wp2
                          go_ret
                          exact ⟨by first | rfl | (simp [errW_none, errW_some] <;> rfl) | (simp [*, errW_none, errW_some] <;> rfl), by repeat (first | (with_reducible first | exact HB.out | apply below_alloc | apply pw_below_drewN | apply below_drew1) | exact HB.out)⟩
                · replace c18 := Bool.eq_false_iff.mpr c18
                  subst c18
                  have H1 : (if t114 = true then (if (t115.toList == (t116 ++ t117).toList) = true then (if a0.size + a1.size ≤ 9223372036854775807 then ((lines_Norm.f (a0 ++ a1)).bind fun t124 => ((lines_Norm.f a0).bind fun t125 => ((lines_Norm.f a1).bind fun t126 => (if t125.size + t126.size ≤ 9223372036854775807 then (some (t124.toList == (t125 ++ t126).toList)) else (none))))) else (none)) else (some false)) else (some false)) = some r := by rw [if_neg (show ¬ (false = true) by decide)] at H; exact H
                  clear H
                  have H := H1
                  clear H1
                  by_cases c52 : t114 = true
                  · subst c52
                    have H1 : (if (t115.toList == (t116 ++ t117).toList) = true then (if a0.size + a1.size ≤ 9223372036854775807 then ((lines_Norm.f (a0 ++ a1)).bind fun t124 => ((lines_Norm.f a0).bind fun t125 => ((lines_Norm.f a1).bind fun t126 => (if t125.size + t126.size ≤ 9223372036854775807 then (some (t124.toList == (t125 ++ t126).toList)) else (none))))) else (none)) else (some false)) = some r := by rw [if_pos rfl] at H; exact H
                    clear H
                    have H := H1
                    clear H1
                    by_cases c53 : (t115.toList == (t116 ++ t117).toList) = true
                    · rw [if_pos c53] at H
                      have c53b0 : (t115.toList == (t116 ++ t117).toList) = true := c53
                      (try (have c53b1 : decide (t115.toList = (t116 ++ t117).toList) = true := by simpa using c53))
                      (try (have c53b2 : (t115.toList == (t116 ++ t117).toList) = true := by simpa using c53))
                      clear c53
                      by_cases c54 : a0.size + a1.size ≤ 9223372036854775807
                      · rw [if_pos c54] at H
                        have c54b0 := eq_true c54
                        have c54b1 : decide (a0.size + a1.size ≤ 9223372036854775807) = true := decide_eq_true c54
                        try have c54b2 : (9223372036854775807 < a0.size + a1.size) = False := eq_false (Nat.not_lt.2 c54)
                        replace H := Option.bind_eq_some_iff.mp H
                        obtain ⟨t124, A550, H⟩ := H
                        replace H : ((lines_Norm.f a0).bind fun t125 => ((lines_Norm.f a1).bind fun t126 => (if t125.size + t126.size ≤ 9223372036854775807 then (some (t124.toList == (t125 ++ t126).toList)) else (none)))) = some r := H
                        have A55 := Aside0.mk A550
                        clear A550
                        replace H := Option.bind_eq_some_iff.mp H
                        obtain ⟨t125, A560, H⟩ := H
                        replace H : ((lines_Norm.f a1).bind fun t126 => (if t125.size + t126.size ≤ 9223372036854775807 then (some (t124.toList == (t125 ++ t126).toList)) else (none))) = some r := H
                        have A56 := Aside0.mk A560
                        clear A560
                        replace H := Option.bind_eq_some_iff.mp H
                        obtain ⟨t126, A570, H⟩ := H
                        replace H : (if t125.size + t126.size ≤ 9223372036854775807 then (some (t124.toList == (t125 ++ t126).toList)) else (none)) = some r := H
                        have A57 := Aside0.mk A570
                        clear A570
                        by_cases c58 : t125.size + t126.size ≤ 9223372036854775807
                        · rw [if_pos c58] at H
                          have c58b0 := eq_true c58
                          have c58b1 : decide (t125.size + t126.size ≤ 9223372036854775807) = true := decide_eq_true c58
                          try have c58b2 : (9223372036854775807 < t125.size + t126.size) = False := eq_false (Nat.not_lt.2 c58)
                          obtain rfl := Option.some.inj H
                          go_wp2_with (first | (go_at_call 27; (with_reducible refine (lines_Norm.calls (a0 ++ a1) t124 _ A55.out).mono ?_); rintro e w59 ⟨rfl, hb⟩; have n0_ := Aside0.mk (below_step (by repeat (first | (with_reducible first | exact HB.out | apply below_alloc | apply pw_below_drewN | apply below_drew1) | exact HB.out)) hb); clear HB; have HB := n0_; clear n0_; (try clear hb); (try clear hb2); (try clear hk); (try clear hi)) | (go_at_call 27; (with_reducible refine (lines_Norm.calls a0 t125 _ A56.out).mono ?_); rintro e w60 ⟨rfl, hb⟩; have n0_ := Aside0.mk (below_step (by repeat (first | (with_reducible first | exact HB.out | apply below_alloc | apply pw_below_drewN | apply below_drew1) | exact HB.out)) hb); clear HB; have HB := n0_; clear n0_; (try clear hb); (try clear hb2); (try clear hk); (try clear hi)) | (go_at_call 27; (with_reducible refine (lines_Norm.calls a1 t126 _ A57.out).mono ?_); rintro e w61 ⟨rfl, hb⟩; have n0_ := Aside0.mk (below_step (by repeat (first | (with_reducible first | exact HB.out | apply below_alloc | apply pw_below_drewN | apply below_drew1) | exact HB.out)) hb); clear HB; have HB := n0_; clear n0_; (try clear hb); (try clear hb2); (try clear hk); (try clear hi)))
                          go_ret
                          exact ⟨by first | rfl | (simp [errW_none, errW_some] <;> rfl) | (simp [*, errW_none, errW_some] <;> rfl), by repeat (first | (with_reducible first | exact HB.out | apply below_alloc | apply pw_below_drewN | apply below_drew1) | exact HB.out)⟩
                        · rw [if_neg c58] at H
                          exact absurd H (by simp)
                      · rw [if_neg c54] at H
                        exact absurd H (by simp)
                    · rw [if_neg c53] at H
                      have c53b0 : (t115.toList == (t116 ++ t117).toList) = false := by simpa using c53
                      (try (have c53b1 : decide (t115.toList = (t116 ++ t117).toList) = false := by simpa using c53))
                      (try (have c53b2 : (t115.toList == (t116 ++ t117).toList) = false := by simpa using c53))
                      (try (have c53b3 : ¬ (t115.toList = (t116 ++ t117).toList) := by simpa using c53))
                      clear c53
                      obtain rfl := Option.some.inj H
                      go_wp2
                      go_ret
                      exact ⟨by first | rfl | (simp [errW_none, errW_some] <;> rfl) | (simp [*, errW_none, errW_some] <;> rfl), by repeat (first | (with_reducible first | exact HB.out | apply below_alloc | apply pw_below_drewN | apply below_drew1) | exact HB.out)⟩
                  · replace c52 := Bool.eq_false_iff.mpr c52
                    subst c52
                    have H1 : (some false) = some r := by rw [if_neg (show ¬ (false = true) by decide)] at H; exact H
                    clear H
                    have H := H1
                    clear H1
                    obtain rfl := Option.some.inj H
                    go_wp2
                    go_ret
                    exact ⟨by first | rfl | (simp [errW_none, errW_some] <;> rfl) | (simp [*, errW_none, errW_some] <;> rfl), by repeat (first | (with_reducible first | exact HB.out | apply below_alloc | apply pw_below_drewN | apply below_drew1) | exact HB.out)⟩
          · rw [if_neg c12] at H
            exact absurd H (by simp)
        · rw [if_neg c8] at H
          exact absurd H (by simp)

/-- THE ONE PURE STATEMENT of flaillaw02_LinesJoins: yours. -/
def flaillaw02_LinesJoins.Pure : Prop := ∀ (a0 : ByteArray) (a1 : ByteArray), a0.size ≤ 140737488351232 → a1.size ≤ 140737488351232 → ∃ k, flaillaw02_LinesJoins.f k a0 a1 = some true
theorem flaillaw02_LinesJoins.walk (P : flaillaw02_LinesJoins.Pure) (a0 : ByteArray) (a1 : ByteArray) (w : World) (w0 : a0.size ≤ 140737488351232) (w1 : a1.size ≤ 140737488351232) (hGl : Glob w) :
    Calls Tryd.prog 5 #[.string a0, .string a1] w fun e w' => e = .returned (.bool true) ∧ Below w.heap.size w w' := by
  obtain ⟨k, h⟩ := P a0 a1 w0 w1
  refine (flaillaw02_LinesJoins.calls k a0 a1 true w hGl h).mono ?_
  rintro e w' ⟨rfl, hd⟩
  exact ⟨rfl, hd⟩

end Go.Proofs.YtppaobgccdlccaaDoor.Pr
