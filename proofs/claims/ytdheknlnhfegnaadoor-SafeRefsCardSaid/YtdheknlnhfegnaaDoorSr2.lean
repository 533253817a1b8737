-- Written by a program of this session over the kit's printer: not by hand.
import Derived.Test.YtdheknlnhfegnaaDoorSr0
import Derived.Test.YtdheknlnhfegnaaDoorSr1
namespace Go.Proofs.YtdheknlnhfegnaaDoor.Sr
open Go.RowKit Go.Proofs.YtdheknlnhfegnaaDoor.K0 Go.Proofs.YtdheknlnhfegnaaDoor.Hand Go.Proofs.YtdheknlnhfegnaaDoorW.PrintWords Go.Proofs.YtdheknlnhfegnaaDoorW.PrintLast Go.Proofs.YtdheknlnhfegnaaDoorW.PrintMore
attribute [local go_sem] max2_int min2_int max_two min_two max_three min_three max_four min_four   -- for this text's walks alone
set_option linter.unusedVariables false
set_option linter.unusedSimpArgs false

/-! ### flailref04_Fix: function 51 -/
mutual
def flailref04_Fix.j0 : Nat → Int → Bool → Option (ByteArray)
  | 0, _, _ => none
  | k + 1, x0, x9 => if x9 = true then (some (⟨#[239, 191, 189]⟩ : ByteArray)) else ((some (([8364, 129, 8218, 402, 8222, 8230, 8224, 8225, 710, 8240, 352, 8249, 338, 141, 381, 143, 144, 8216, 8217, 8220, 8221, 8226, 8211, 8212, 732, 8482, 353, 8250, 339, 157, 382, 376] : List Int) : List Int)).bind fun y114 => (if x0 ≥ 128 then (flailref04_Fix.j1 k x0 y114 (decide (x0 ≤ 159))) else (flailref04_Fix.j1 k x0 y114 false)))
def flailref04_Fix.j1 : Nat → Int → List Int → Bool → Option (ByteArray)
  | 0, _, _, _ => none
  | k + 1, x0, x3, x16 => if x16 = true then (if 0 ≤ (wrap64 (x0 - 128)) then (if (wrap64 (x0 - 128)) < (x3.length : Int) then ((flailref01_Sign.f k (rd x3 (wrap64 (x0 - 128)))).bind fun t118 => (some t118)) else (none)) else (none)) else ((flailref01_Sign.f k x0).bind fun t119 => (some t119))
end
def flailref04_Fix.f (k : Nat) (a0 : Int) : Option (ByteArray) := if a0 < 1 then (flailref04_Fix.j0 k a0 true) else (flailref04_Fix.j0 k a0 (decide (a0 > 1114111)))
theorem flailref04_Fix.mono_l : ∀ k, (∀ y0 y1, LeO (flailref04_Fix.j0 k y0 y1) (flailref04_Fix.j0 (k + 1) y0 y1)) ∧ (∀ y0 y1 y2, LeO (flailref04_Fix.j1 k y0 y1 y2) (flailref04_Fix.j1 (k + 1) y0 y1 y2))
  | 0 => ⟨fun _ _ r h => by simp [flailref04_Fix.j0] at h, fun _ _ _ r h => by simp [flailref04_Fix.j1] at h⟩
  | k + 1 => by
    obtain ⟨ih0, ih1⟩ := flailref04_Fix.mono_l k
    refine ⟨?_, ?_⟩
    · intro y0 y1
      unfold flailref04_Fix.j0
      repeat' first
      | (with_reducible exact ih0 _ _)
      | (with_reducible exact ih1 _ _ _)
      | (with_reducible exact flailref01_Sign.mono _ _)
      | (with_reducible exact LeO.refl _)
      | (with_reducible exact LeO.none _)
      | (with_reducible refine LeO.ite ?_ ?_)
      | (with_reducible refine LeO.bind ?_ (fun _ => ?_))
      | exact ih0 _ _
      | exact ih1 _ _ _
      | exact flailref01_Sign.mono _ _
      | exact LeO.none _
      | refine LeO.ite ?_ ?_
      | refine LeO.bind ?_ (fun _ => ?_)
    · intro y0 y1 y2
      unfold flailref04_Fix.j1
      repeat' first
      | (with_reducible exact ih0 _ _)
      | (with_reducible exact ih1 _ _ _)
      | (with_reducible exact flailref01_Sign.mono _ _)
      | (with_reducible exact LeO.refl _)
      | (with_reducible exact LeO.none _)
      | (with_reducible refine LeO.ite ?_ ?_)
      | (with_reducible refine LeO.bind ?_ (fun _ => ?_))
      | exact ih0 _ _
      | exact ih1 _ _ _
      | exact flailref01_Sign.mono _ _
      | exact LeO.none _
      | refine LeO.ite ?_ ?_
      | refine LeO.bind ?_ (fun _ => ?_)
theorem flailref04_Fix.mono : ∀ a0 k, LeO (flailref04_Fix.f k a0) (flailref04_Fix.f (k + 1) a0) := by
  intro a0 k
  obtain ⟨ih0, ih1⟩ := flailref04_Fix.mono_l k
  unfold flailref04_Fix.f
  repeat' first
      | (with_reducible exact ih0 _ _)
      | (with_reducible exact ih1 _ _ _)
      | (with_reducible exact flailref01_Sign.mono _ _)
      | (with_reducible exact LeO.refl _)
      | (with_reducible exact LeO.none _)
      | (with_reducible refine LeO.ite ?_ ?_)
      | (with_reducible refine LeO.bind ?_ (fun _ => ?_))
      | exact ih0 _ _
      | exact ih1 _ _ _
      | exact flailref01_Sign.mono _ _
      | exact LeO.none _
      | refine LeO.ite ?_ ?_
      | refine LeO.bind ?_ (fun _ => ?_)
set_option maxHeartbeats 8000000 in
set_option maxRecDepth 100000 in
theorem flailref04_Fix.calls (k : Nat) (a0 : Int) (r : ByteArray) (w : World) (h : flailref04_Fix.f k a0 = some r) :
    Calls Tryd.prog 51 #[.int .i64 a0] w fun e w' => e = .returned (.string r) ∧ Below w.heap.size w w' := by
  have HB := Aside0.mk (Below.refl w.heap.size w)
  have H : (if a0 < 1 then (flailref04_Fix.j0 k a0 true) else (flailref04_Fix.j0 k a0 (decide (a0 > 1114111)))) = some r := h
  clear h
  have HC2 := Aside0.mk H
  clear H
  go_enter Tryd.func51, Tryd.ntmps51
  go_upto_region 1 with (fail)
  go_cut [9] (fun v9 wc => ∃ (kq : Nat) (x9_1 : Bool), v9 = .bool x9_1 ∧ Aside0 (flailref04_Fix.j0 kq a0 x9_1 = some r) ∧ Aside0 (kq ≤ k) ∧ Aside0 (Below w.heap.size w wc))
  case first =>
    have H := HC2.out
    clear HC2
    by_cases c3 : a0 < 1
    · rw [if_pos c3] at H
      have c3b0 : decide (a0 < 1) = true := decide_eq_true c3
      clear c3
      (first | rw [c3b0] | (simp only [i64_w, i32_w]; rw [c3b0]) | skip)
      have H' := Aside0.mk H
      clear H
      go_wp2
      go_meet
      case rel => exact ⟨_, (true), (by first | rfl | (simp; done) | (simp [*]; done)), H', ⟨by first | omega | exact Nat.le_refl _⟩, ⟨by repeat (first | (with_reducible first | exact HB.out | apply below_alloc | apply pw_below_drewN | apply below_drew1) | exact HB.out)⟩⟩
    · rw [if_neg c3] at H
      have c3b0 : decide (a0 < 1) = false := decide_eq_false c3
      clear c3
      (first | rw [c3b0] | (simp only [i64_w, i32_w]; rw [c3b0]) | skip)
      have H' := Aside0.mk H
      clear H
      go_wp2
      go_meet
      case rel => exact ⟨_, (decide (a0 > 1114111)), (by first | rfl | (simp; done) | (simp [*]; done)), H', ⟨by first | omega | exact Nat.le_refl _⟩, ⟨by repeat (first | (with_reducible first | exact HB.out | apply below_alloc | apply pw_below_drewN | apply below_drew1) | exact HB.out)⟩⟩
  case rest =>
    clear HC2
    try clear p2
    try clear c3
    try clear c3b0
    obtain ⟨kq, x9_1, rfl, HA, HJ1, HB⟩ := hcut
    cases kq with
    | zero => exact absurd HA.out (by simp [flailref04_Fix.j0])
    | succ kj1 =>
      have H := HA.out
      clear HA
      simp only [flailref04_Fix.j0] at H
      by_cases c4 : x9_1 = true
      · subst c4
        have H1 : (some (⟨#[239, 191, 189]⟩ : ByteArray)) = some r := by rw [if_pos rfl] at H; exact H
        clear H
        have H := H1
        clear H1
        obtain rfl := Option.some.inj H
        go_wp2
        go_ret
        exact ⟨by first | rfl | (simp [errW_none, errW_some] <;> rfl) | (simp [*, errW_none, errW_some] <;> rfl), by repeat (first | (with_reducible first | exact HB.out | apply below_alloc | apply pw_below_drewN | apply below_drew1) | exact HB.out)⟩
      · replace c4 := Bool.eq_false_iff.mpr c4
        subst c4
        have H1 : ((some (([8364, 129, 8218, 402, 8222, 8230, 8224, 8225, 710, 8240, 352, 8249, 338, 141, 381, 143, 144, 8216, 8217, 8220, 8221, 8226, 8211, 8212, 732, 8482, 353, 8250, 339, 157, 382, 376] : List Int) : List Int)).bind fun y114 => (if a0 ≥ 128 then (flailref04_Fix.j1 kj1 a0 y114 (decide (a0 ≤ 159))) else (flailref04_Fix.j1 kj1 a0 y114 false))) = some r := by rw [if_neg (show ¬ (false = true) by decide)] at H; exact H
        clear H
        have H := H1
        clear H1
        obtain ⟨y114, hy114⟩ : ∃ y_ : List Int, y_ = (([8364, 129, 8218, 402, 8222, 8230, 8224, 8225, 710, 8240, 352, 8249, 338, 141, 381, 143, 144, 8216, 8217, 8220, 8221, 8226, 8211, 8212, 732, 8482, 353, 8250, 339, 157, 382, 376] : List Int)) := ⟨_, rfl⟩
        replace H : (if a0 ≥ 128 then (flailref04_Fix.j1 kj1 a0 y114 (decide (a0 ≤ 159))) else (flailref04_Fix.j1 kj1 a0 y114 false)) = some r := by first | (rw [hy114]; with_reducible exact H) | (have H2_ := (Option.bind_some _ _).symm.trans H; rw [hy114]; with_reducible exact H2_) | (have H2_ := (Option.bind_some _ _).symm.trans H; with_reducible exact H2_) | with_reducible exact H | (rw [hy114]; exact H) | exact H
        have Ny114 := Aside0.mk hy114
        clear hy114
        have HC5 := Aside0.mk H
        clear H
        go_upto_region 4 with (first | ((with_reducible refine gate_dst (N := 10) rfl ?_); refine Kd.R_lit (Kd.int .i64) _ 3 ?hg (N := 10) ?hd (xs := ([8364, 129, 8218, 402, 8222, 8230, 8224, 8225, 710, 8240, 352, 8249, 338, 141, 381, 143, 144, 8216, 8217, 8220, 8221, 8226, 8211, 8212, 732, 8482, 353, 8250, 339, 157, 382, 376] : List Int)) (inner := [.int .i64 8364, .int .i64 129, .int .i64 8218, .int .i64 402, .int .i64 8222, .int .i64 8230, .int .i64 8224, .int .i64 8225, .int .i64 710, .int .i64 8240, .int .i64 352, .int .i64 8249, .int .i64 338, .int .i64 141, .int .i64 381, .int .i64 143, .int .i64 144, .int .i64 8216, .int .i64 8217, .int .i64 8220, .int .i64 8221, .int .i64 8226, .int .i64 8211, .int .i64 8212, .int .i64 732, .int .i64 8482, .int .i64 353, .int .i64 8250, .int .i64 339, .int .i64 157, .int .i64 382, .int .i64 376]) (ok := fun _ => True) (okp := fun _ => True) ?hr ?hp (fun _ hk => hk) trivial (Below.refl _ _) (Nat.le_refl _) (by simp) ?_; (case hd => rfl); (case hg => rfl); (case hr => first | (go_simp; done) | (go_simp; rfl)); (case hp => exact (Reps.one (show Kd.M (Kd.int .i64) _ _ _ 8364 [.int .i64 8364] from rfl) (Reps.one (show Kd.M (Kd.int .i64) _ _ _ 129 [.int .i64 129] from rfl) (Reps.one (show Kd.M (Kd.int .i64) _ _ _ 8218 [.int .i64 8218] from rfl) (Reps.one (show Kd.M (Kd.int .i64) _ _ _ 402 [.int .i64 402] from rfl) (Reps.one (show Kd.M (Kd.int .i64) _ _ _ 8222 [.int .i64 8222] from rfl) (Reps.one (show Kd.M (Kd.int .i64) _ _ _ 8230 [.int .i64 8230] from rfl) (Reps.one (show Kd.M (Kd.int .i64) _ _ _ 8224 [.int .i64 8224] from rfl) (Reps.one (show Kd.M (Kd.int .i64) _ _ _ 8225 [.int .i64 8225] from rfl) (Reps.one (show Kd.M (Kd.int .i64) _ _ _ 710 [.int .i64 710] from rfl) (Reps.one (show Kd.M (Kd.int .i64) _ _ _ 8240 [.int .i64 8240] from rfl) (Reps.one (show Kd.M (Kd.int .i64) _ _ _ 352 [.int .i64 352] from rfl) (Reps.one (show Kd.M (Kd.int .i64) _ _ _ 8249 [.int .i64 8249] from rfl) (Reps.one (show Kd.M (Kd.int .i64) _ _ _ 338 [.int .i64 338] from rfl) (Reps.one (show Kd.M (Kd.int .i64) _ _ _ 141 [.int .i64 141] from rfl) (Reps.one (show Kd.M (Kd.int .i64) _ _ _ 381 [.int .i64 381] from rfl) (Reps.one (show Kd.M (Kd.int .i64) _ _ _ 143 [.int .i64 143] from rfl) (Reps.one (show Kd.M (Kd.int .i64) _ _ _ 144 [.int .i64 144] from rfl) (Reps.one (show Kd.M (Kd.int .i64) _ _ _ 8216 [.int .i64 8216] from rfl) (Reps.one (show Kd.M (Kd.int .i64) _ _ _ 8217 [.int .i64 8217] from rfl) (Reps.one (show Kd.M (Kd.int .i64) _ _ _ 8220 [.int .i64 8220] from rfl) (Reps.one (show Kd.M (Kd.int .i64) _ _ _ 8221 [.int .i64 8221] from rfl) (Reps.one (show Kd.M (Kd.int .i64) _ _ _ 8226 [.int .i64 8226] from rfl) (Reps.one (show Kd.M (Kd.int .i64) _ _ _ 8211 [.int .i64 8211] from rfl) (Reps.one (show Kd.M (Kd.int .i64) _ _ _ 8212 [.int .i64 8212] from rfl) (Reps.one (show Kd.M (Kd.int .i64) _ _ _ 732 [.int .i64 732] from rfl) (Reps.one (show Kd.M (Kd.int .i64) _ _ _ 8482 [.int .i64 8482] from rfl) (Reps.one (show Kd.M (Kd.int .i64) _ _ _ 353 [.int .i64 353] from rfl) (Reps.one (show Kd.M (Kd.int .i64) _ _ _ 8250 [.int .i64 8250] from rfl) (Reps.one (show Kd.M (Kd.int .i64) _ _ _ 339 [.int .i64 339] from rfl) (Reps.one (show Kd.M (Kd.int .i64) _ _ _ 157 [.int .i64 157] from rfl) (Reps.one (show Kd.M (Kd.int .i64) _ _ _ 382 [.int .i64 382] from rfl) (Reps.one (show Kd.M (Kd.int .i64) _ _ _ 376 [.int .i64 376] from rfl) (Reps.none _ _)))))))))))))))))))))))))))))))))); intro v115 w6 ho7 hb hg_ hnew_; clear hg_ hnew_; (first | rw [← Ny114.out] at ho7 | (simp only [Int.reduceToNat] at ho7; rw [← Ny114.out] at ho7)); have n0_ := Aside0.mk (Kd.R_lower ho7 (below_size (by repeat (first | (with_reducible first | exact HB.out | apply below_alloc | apply pw_below_drewN | apply below_drew1) | exact HB.out)))); have n1_ := Aside0.mk (below_step (by repeat (first | (with_reducible first | exact HB.out | apply below_alloc | apply pw_below_drewN | apply below_drew1) | exact HB.out)) hb); clear HB; have HO116 := n0_; have HB := n1_; clear n0_ n1_; clear hb ho7))
        (try simp only [Act.put, List.setIfInBounds_toArray, List.set_cons_zero, List.set_cons_succ])
        go_cut [16] (fun v16 wc => ∃ (kq : Nat) (x16_4 : Bool), v16 = .bool x16_4 ∧ Aside0 (flailref04_Fix.j1 kq a0 y114 x16_4 = some r) ∧ Aside0 (kq ≤ kj1) ∧ Aside0 (Kd.R (Kd.int .i64) 3 wc w.heap.size (fun _ => True) v115 y114) ∧ Aside0 (Below w.heap.size w wc))
        case first =>
          have H := HC5.out
          clear HC5
          by_cases c8 : a0 ≥ 128
          · rw [if_pos c8] at H
            have c8b0 : decide (128 ≤ a0) = true := decide_eq_true c8
            clear c8
            (first | rw [c8b0] | (simp only [i64_w, i32_w]; rw [c8b0]) | skip)
            have H' := Aside0.mk H
            clear H
            go_wp2
            go_meet
            case rel => exact ⟨_, (decide (a0 ≤ 159)), (by first | rfl | (simp; done) | (simp [*]; done)), H', ⟨by have := HJ1.out; first | omega | exact Nat.le_refl _⟩, ⟨by (with_reducible repeat (first | apply Kd.R_alloc | apply Kd.R_drewN | apply Kd.R_drew)); exact HO116.out⟩, ⟨by repeat (first | (with_reducible first | exact HB.out | apply below_alloc | apply pw_below_drewN | apply below_drew1) | exact HB.out)⟩⟩
          · rw [if_neg c8] at H
            have c8b0 : decide (128 ≤ a0) = false := decide_eq_false c8
            clear c8
            (first | rw [c8b0] | (simp only [i64_w, i32_w]; rw [c8b0]) | skip)
            have H' := Aside0.mk H
            clear H
            go_wp2
            go_meet
            case rel => exact ⟨_, (false), (by first | rfl | (simp; done) | (simp [*]; done)), H', ⟨by have := HJ1.out; first | omega | exact Nat.le_refl _⟩, ⟨by (with_reducible repeat (first | apply Kd.R_alloc | apply Kd.R_drewN | apply Kd.R_drew)); exact HO116.out⟩, ⟨by repeat (first | (with_reducible first | exact HB.out | apply below_alloc | apply pw_below_drewN | apply below_drew1) | exact HB.out)⟩⟩
        case rest =>
          clear HC5
          try clear p2
          try clear c3
          try clear c3b0
          try clear c4
          try clear c5
          try clear c8
          try clear c8b0
          try clear p2
          obtain ⟨kq, x16_4, rfl, HA, HJ4, HO_3, HB⟩ := hcut
          cases kq with
          | zero => exact absurd HA.out (by simp [flailref04_Fix.j1])
          | succ kj4 =>
            have H := HA.out
            clear HA
            simp only [flailref04_Fix.j1] at H
            by_cases c9 : x16_4 = true
            · subst c9
              have H1 : (if 0 ≤ (wrap64 (a0 - 128)) then (if (wrap64 (a0 - 128)) < (y114.length : Int) then ((flailref01_Sign.f kj4 (rd y114 (wrap64 (a0 - 128)))).bind fun t118 => (some t118)) else (none)) else (none)) = some r := by rw [if_pos rfl] at H; exact H
              clear H
              have H := H1
              clear H1
              obtain ⟨ji10, hji10⟩ : ∃ j_ : Int, (wrap64 (a0 - 128)) = j_ := ⟨_, rfl⟩
              replace H : (if 0 ≤ (ji10) then (if (ji10) < (y114.length : Int) then ((flailref01_Sign.f kj4 (rd y114 (ji10))).bind fun t118 => (some t118)) else (none)) else (none)) = some r := by first | (rw [hji10] at H; exact H) | (simp only [hji10] at H ⊢; exact H)
              have hji10w : (IntKind.i64.wrap (a0 - 128)) = ji10 := (i64_w _).trans hji10
              by_cases c11 : 0 ≤ (ji10)
              · rw [if_pos c11] at H
                have c11b0 : decide (0 ≤ (ji10)) = true := decide_eq_true c11
                clear c11
                by_cases c12 : (ji10) < (y114.length : Int)
                · rw [if_pos c12] at H
                  have c12b0 : decide ((ji10) < (y114.length : Int)) = true := decide_eq_true c12
                  clear c12
                  replace H := Option.bind_eq_some_iff.mp H
                  obtain ⟨t118, A130, H⟩ := H
                  replace H : (some t118) = some r := H
                  have A13 := Aside0.mk A130
                  clear A130
                  obtain rfl := Option.some.inj H
                  obtain ⟨Ao14, co14, eo14⟩ := Kd.R_slice HO_3.out
                  subst eo14
                  have p117 : 0 ≤ ((ji10) : Int) := of_decide_eq_true (by first | (with_reducible assumption) | assumption)
                  have q117 : (ji10) < (y114.length : Int) := of_decide_eq_true (by first | (with_reducible assumption) | assumption)
                  obtain ⟨ad117, e117, hx117_0⟩ := Kd.at_int (Kd.R_reads' HO_3.out).2.2 (ji10) p117 q117
                  cases e117
                  replace p117 := eq_true p117
                  replace q117 := eq_true q117
                  go_wp2_with (first | ((with_reducible refine gate_callee (f := 53) rfl ?_); refine goesL_ (some 22) rfl rfl Tryd.func53 (by kernel_rfl) rfl #[.int .i64 (rd y114 (ji10))] rfl (by (try simp only [List.map_toArray, List.map_cons, List.map_nil]); first | done | (simp only [hji10]; rfl) | rfl | (simp only [List.length_drop, List.length_take]; rfl)) ?_; (with_reducible refine (flailref01_Sign.calls kj4 (rd y114 (ji10)) t118 _ A13.out).mono ?_); rintro e w15 ⟨rfl, hb⟩; refine ⟨_, rfl, ?_⟩; have n0_ := Aside0.mk (Kd.R_below (by (with_reducible repeat (first | apply Kd.R_alloc | apply Kd.R_drewN | apply Kd.R_drew)); exact HO_3.out) hb); have n1_ := Aside0.mk (below_step (by repeat (first | (with_reducible first | exact HB.out | apply below_alloc | apply pw_below_drewN | apply below_drew1) | exact HB.out)) hb); clear HO_3; clear HB; have HO_3 := n0_; have HB := n1_; clear n0_ n1_; (try clear hb); (try clear hb2); (try clear hk); (try clear hi)))
                  go_ret
                  exact ⟨by first | rfl | (simp [errW_none, errW_some] <;> rfl) | (simp only [← hji10]; first | rfl | (simp [errW_none, errW_some] <;> rfl)) | (simp [*, errW_none, errW_some] <;> rfl), by repeat (first | (with_reducible first | exact HB.out | apply below_alloc | apply pw_below_drewN | apply below_drew1) | exact HB.out)⟩
                · rw [if_neg c12] at H
                  exact absurd H (by simp)
              · rw [if_neg c11] at H
                exact absurd H (by simp)
            · replace c9 := Bool.eq_false_iff.mpr c9
              subst c9
              have H1 : ((flailref01_Sign.f kj4 a0).bind fun t119 => (some t119)) = some r := by rw [if_neg (show ¬ (false = true) by decide)] at H; exact H
              clear H
              have H := H1
              clear H1
              replace H := Option.bind_eq_some_iff.mp H
              obtain ⟨t119, A160, H⟩ := H
              replace H : (some t119) = some r := H
              have A16 := Aside0.mk A160
              clear A160
              obtain rfl := Option.some.inj H
              go_wp2_with (first | ((with_reducible refine gate_callee (f := 53) rfl ?_); refine goesL_ (some 24) rfl rfl Tryd.func53 (by kernel_rfl) rfl #[.int .i64 a0] rfl (by (try simp only [List.map_toArray, List.map_cons, List.map_nil]); first | done | rfl | (simp only [List.length_drop, List.length_take]; rfl)) ?_; (with_reducible refine (flailref01_Sign.calls kj4 a0 t119 _ A16.out).mono ?_); rintro e w17 ⟨rfl, hb⟩; refine ⟨_, rfl, ?_⟩; have n0_ := Aside0.mk (Kd.R_below (by (with_reducible repeat (first | apply Kd.R_alloc | apply Kd.R_drewN | apply Kd.R_drew)); exact HO_3.out) hb); have n1_ := Aside0.mk (below_step (by repeat (first | (with_reducible first | exact HB.out | apply below_alloc | apply pw_below_drewN | apply below_drew1) | exact HB.out)) hb); clear HO_3; clear HB; have HO_3 := n0_; have HB := n1_; clear n0_ n1_; (try clear hb); (try clear hb2); (try clear hk); (try clear hi)))
              go_ret
              exact ⟨by first | rfl | (simp [errW_none, errW_some] <;> rfl) | (simp [*, errW_none, errW_some] <;> rfl), by repeat (first | (with_reducible first | exact HB.out | apply below_alloc | apply pw_below_drewN | apply below_drew1) | exact HB.out)⟩

end Go.Proofs.YtdheknlnhfegnaaDoor.Sr
