-- Written by a program of this session over the kit's printer: not by hand.
import Derived.Test.YtppaobgccdlccaaDoorSr0
import Derived.Test.YtppaobgccdlccaaDoorSr3
import Derived.Test.YtppaobgccdlccaaDoorSr4
namespace Go.Proofs.YtppaobgccdlccaaDoor.Sr
open Go.RowKit Go.Proofs.YtppaobgccdlccaaDoor.K0 Go.Proofs.YtppaobgccdlccaaDoor.Hand Go.Proofs.YtppaobgccdlccaaDoorW.PrintWords Go.Proofs.YtppaobgccdlccaaDoorW.PrintLast Go.Proofs.YtppaobgccdlccaaDoorW.PrintMore
attribute [local go_sem] max2_int min2_int max_two min_two max_three min_three max_four min_four   -- for this text's walks alone
set_option linter.unusedVariables false
set_option linter.unusedSimpArgs false

/-! ### flailref13_Find: function 33 -/
mutual
def flailref13_Find.l0 : Nat → ByteArray → Int → Int → Int → Option (Int × Int)
  | 0, _, _, _, _ => none
  | k + 1, x0, x6, x7, x8 => if x8 < (x0.size : Int) then ((flailref12_Ends.f k x0 x8 (⟨#[115, 99, 114, 105, 112, 116]⟩ : ByteArray)).bind fun t120 => ((flailref13_word.f k x0 x8 (⟨#[60]⟩ : ByteArray)).bind fun t121 => ((flailref13_word.f k x0 x8 (⟨#[60, 47]⟩ : ByteArray)).bind fun t122 => (if x6 = 0 then (flailref13_Find.j1 k x0 x6 x7 x8 t120 t121 t122 t120) else (flailref13_Find.j1 k x0 x6 x7 x8 t120 t121 t122 false))))) else (some (x8, x6))
def flailref13_Find.j1 : Nat → ByteArray → Int → Int → Int → Bool → Bool → Bool → Bool → Option (Int × Int)
  | 0, _, _, _, _, _, _, _, _ => none
  | k + 1, x0, x6, x7, x8, x9, x10, x11, x32 => if x32 = true then (some (x8, 0)) else (if x6 = 0 then ((flailref03_Begins.f k x0 x8 (⟨#[60, 33, 45, 45]⟩ : ByteArray)).bind fun t123 => (flailref13_Find.j2 k x0 x6 x7 x8 x9 x10 x11 t123)) else (flailref13_Find.j2 k x0 x6 x7 x8 x9 x10 x11 false))
def flailref13_Find.j2 : Nat → ByteArray → Int → Int → Int → Bool → Bool → Bool → Bool → Option (Int × Int)
  | 0, _, _, _, _, _, _, _, _ => none
  | k + 1, x0, x6, x7, x8, x9, x10, x11, x39 => if x39 = true then (flailref13_Find.l0 k x0 1 2 (wrap64 (x8 + 4))) else (if x6 = 0 then (flailref13_Find.l0 k x0 x6 x7 (wrap64 (x8 + 1))) else (if 0 ≤ x8 then (if x8 < (x0.size : Int) then (if (bt x0 x8) = 45 then (flailref13_Find.l0 k x0 x6 (wrap64 (x7 + 1)) (wrap64 (x8 + 1))) else (if (bt x0 x8) = 62 then (flailref13_Find.j3 k x0 x6 x8 x9 x10 x11 (decide (x7 ≥ 2))) else (flailref13_Find.j3 k x0 x6 x8 x9 x10 x11 false))) else (none)) else (none)))
def flailref13_Find.j3 : Nat → ByteArray → Int → Int → Bool → Bool → Bool → Bool → Option (Int × Int)
  | 0, _, _, _, _, _, _, _ => none
  | k + 1, x0, x6, x8, x9, x10, x11, x63 => if x63 = true then (flailref13_Find.l0 k x0 0 0 (wrap64 (x8 + 1))) else (if x6 = 1 then (flailref13_Find.j4 k x0 x6 x8 x10 x11 x9) else (flailref13_Find.j4 k x0 x6 x8 x10 x11 false))
def flailref13_Find.j4 : Nat → ByteArray → Int → Int → Bool → Bool → Bool → Option (Int × Int)
  | 0, _, _, _, _, _, _ => none
  | k + 1, x0, x6, x8, x10, x11, x74 => if x74 = true then (some (x8, 1)) else (if x6 = 1 then (flailref13_Find.j5 k x0 x6 x8 x11 x10) else (flailref13_Find.j5 k x0 x6 x8 x11 false))
def flailref13_Find.j5 : Nat → ByteArray → Int → Int → Bool → Bool → Option (Int × Int)
  | 0, _, _, _, _, _ => none
  | k + 1, x0, x6, x8, x11, x81 => if x81 = true then (flailref13_Find.l0 k x0 2 0 (wrap64 (x8 + 8))) else (if x6 = 2 then (if x11 = true then (flailref13_Find.l0 k x0 1 0 (wrap64 (x8 + 9))) else (flailref13_Find.l0 k x0 x6 0 (wrap64 (x8 + 1)))) else (flailref13_Find.l0 k x0 x6 0 (wrap64 (x8 + 1))))
end
def flailref13_Find.f (k : Nat) (a0 : ByteArray) (a1 : Int) : Option (Int × Int) := flailref13_Find.l0 k a0 0 0 (mx 0 (mn a1 (a0.size : Int)))
theorem flailref13_Find.mono_l : ∀ k, (∀ y0 y1 y2 y3, LeO (flailref13_Find.l0 k y0 y1 y2 y3) (flailref13_Find.l0 (k + 1) y0 y1 y2 y3)) ∧ (∀ y0 y1 y2 y3 y4 y5 y6 y7, LeO (flailref13_Find.j1 k y0 y1 y2 y3 y4 y5 y6 y7) (flailref13_Find.j1 (k + 1) y0 y1 y2 y3 y4 y5 y6 y7)) ∧ (∀ y0 y1 y2 y3 y4 y5 y6 y7, LeO (flailref13_Find.j2 k y0 y1 y2 y3 y4 y5 y6 y7) (flailref13_Find.j2 (k + 1) y0 y1 y2 y3 y4 y5 y6 y7)) ∧ (∀ y0 y1 y2 y3 y4 y5 y6, LeO (flailref13_Find.j3 k y0 y1 y2 y3 y4 y5 y6) (flailref13_Find.j3 (k + 1) y0 y1 y2 y3 y4 y5 y6)) ∧ (∀ y0 y1 y2 y3 y4 y5, LeO (flailref13_Find.j4 k y0 y1 y2 y3 y4 y5) (flailref13_Find.j4 (k + 1) y0 y1 y2 y3 y4 y5)) ∧ (∀ y0 y1 y2 y3 y4, LeO (flailref13_Find.j5 k y0 y1 y2 y3 y4) (flailref13_Find.j5 (k + 1) y0 y1 y2 y3 y4))
  | 0 => ⟨fun _ _ _ _ r h => by simp [flailref13_Find.l0] at h, fun _ _ _ _ _ _ _ _ r h => by simp [flailref13_Find.j1] at h, fun _ _ _ _ _ _ _ _ r h => by simp [flailref13_Find.j2] at h, fun _ _ _ _ _ _ _ r h => by simp [flailref13_Find.j3] at h, fun _ _ _ _ _ _ r h => by simp [flailref13_Find.j4] at h, fun _ _ _ _ _ r h => by simp [flailref13_Find.j5] at h⟩
  | k + 1 => by
    obtain ⟨ih0, ih1, ih2, ih3, ih4, ih5⟩ := flailref13_Find.mono_l k
    refine ⟨?_, ?_, ?_, ?_, ?_, ?_⟩
    · intro y0 y1 y2 y3
      unfold flailref13_Find.l0
      repeat' first
      | (with_reducible exact ih0 _ _ _ _)
      | (with_reducible exact ih1 _ _ _ _ _ _ _ _)
      | (with_reducible exact ih2 _ _ _ _ _ _ _ _)
      | (with_reducible exact ih3 _ _ _ _ _ _ _)
      | (with_reducible exact ih4 _ _ _ _ _ _)
      | (with_reducible exact ih5 _ _ _ _ _)
      | (with_reducible exact flailref03_Begins.mono _ _ _ _)
      | (with_reducible exact flailref12_Ends.mono _ _ _ _)
      | (with_reducible exact flailref13_word.mono _ _ _ _)
      | (with_reducible exact LeO.refl _)
      | (with_reducible exact LeO.none _)
      | (with_reducible refine LeO.ite ?_ ?_)
      | (with_reducible refine LeO.bind ?_ (fun _ => ?_))
      | exact ih0 _ _ _ _
      | exact ih1 _ _ _ _ _ _ _ _
      | exact ih2 _ _ _ _ _ _ _ _
      | exact ih3 _ _ _ _ _ _ _
      | exact ih4 _ _ _ _ _ _
      | exact ih5 _ _ _ _ _
      | exact flailref03_Begins.mono _ _ _ _
      | exact flailref12_Ends.mono _ _ _ _
      | exact flailref13_word.mono _ _ _ _
      | exact LeO.none _
      | refine LeO.ite ?_ ?_
      | refine LeO.bind ?_ (fun _ => ?_)
    · intro y0 y1 y2 y3 y4 y5 y6 y7
      unfold flailref13_Find.j1
      repeat' first
      | (with_reducible exact ih0 _ _ _ _)
      | (with_reducible exact ih1 _ _ _ _ _ _ _ _)
      | (with_reducible exact ih2 _ _ _ _ _ _ _ _)
      | (with_reducible exact ih3 _ _ _ _ _ _ _)
      | (with_reducible exact ih4 _ _ _ _ _ _)
      | (with_reducible exact ih5 _ _ _ _ _)
      | (with_reducible exact flailref03_Begins.mono _ _ _ _)
      | (with_reducible exact flailref12_Ends.mono _ _ _ _)
      | (with_reducible exact flailref13_word.mono _ _ _ _)
      | (with_reducible exact LeO.refl _)
      | (with_reducible exact LeO.none _)
      | (with_reducible refine LeO.ite ?_ ?_)
      | (with_reducible refine LeO.bind ?_ (fun _ => ?_))
      | exact ih0 _ _ _ _
      | exact ih1 _ _ _ _ _ _ _ _
      | exact ih2 _ _ _ _ _ _ _ _
      | exact ih3 _ _ _ _ _ _ _
      | exact ih4 _ _ _ _ _ _
      | exact ih5 _ _ _ _ _
      | exact flailref03_Begins.mono _ _ _ _
      | exact flailref12_Ends.mono _ _ _ _
      | exact flailref13_word.mono _ _ _ _
      | exact LeO.none _
      | refine LeO.ite ?_ ?_
      | refine LeO.bind ?_ (fun _ => ?_)
    · intro y0 y1 y2 y3 y4 y5 y6 y7
      unfold flailref13_Find.j2
      repeat' first
      | (with_reducible exact ih0 _ _ _ _)
      | (with_reducible exact ih1 _ _ _ _ _ _ _ _)
      | (with_reducible exact ih2 _ _ _ _ _ _ _ _)
      | (with_reducible exact ih3 _ _ _ _ _ _ _)
      | (with_reducible exact ih4 _ _ _ _ _ _)
      | (with_reducible exact ih5 _ _ _ _ _)
      | (with_reducible exact flailref03_Begins.mono _ _ _ _)
      | (with_reducible exact flailref12_Ends.mono _ _ _ _)
      | (with_reducible exact flailref13_word.mono _ _ _ _)
      | (with_reducible exact LeO.refl _)
      | (with_reducible exact LeO.none _)
      | (with_reducible refine LeO.ite ?_ ?_)
      | (with_reducible refine LeO.bind ?_ (fun _ => ?_))
      | exact ih0 _ _ _ _
      | exact ih1 _ _ _ _ _ _ _ _
      | exact ih2 _ _ _ _ _ _ _ _
      | exact ih3 _ _ _ _ _ _ _
      | exact ih4 _ _ _ _ _ _
      | exact ih5 _ _ _ _ _
      | exact flailref03_Begins.mono _ _ _ _
      | exact flailref12_Ends.mono _ _ _ _
      | exact flailref13_word.mono _ _ _ _
      | exact LeO.none _
      | refine LeO.ite ?_ ?_
      | refine LeO.bind ?_ (fun _ => ?_)
    · intro y0 y1 y2 y3 y4 y5 y6
      unfold flailref13_Find.j3
      repeat' first
      | (with_reducible exact ih0 _ _ _ _)
      | (with_reducible exact ih1 _ _ _ _ _ _ _ _)
      | (with_reducible exact ih2 _ _ _ _ _ _ _ _)
      | (with_reducible exact ih3 _ _ _ _ _ _ _)
      | (with_reducible exact ih4 _ _ _ _ _ _)
      | (with_reducible exact ih5 _ _ _ _ _)
      | (with_reducible exact flailref03_Begins.mono _ _ _ _)
      | (with_reducible exact flailref12_Ends.mono _ _ _ _)
      | (with_reducible exact flailref13_word.mono _ _ _ _)
      | (with_reducible exact LeO.refl _)
      | (with_reducible exact LeO.none _)
      | (with_reducible refine LeO.ite ?_ ?_)
      | (with_reducible refine LeO.bind ?_ (fun _ => ?_))
      | exact ih0 _ _ _ _
      | exact ih1 _ _ _ _ _ _ _ _
      | exact ih2 _ _ _ _ _ _ _ _
      | exact ih3 _ _ _ _ _ _ _
      | exact ih4 _ _ _ _ _ _
      | exact ih5 _ _ _ _ _
      | exact flailref03_Begins.mono _ _ _ _
      | exact flailref12_Ends.mono _ _ _ _
      | exact flailref13_word.mono _ _ _ _
      | exact LeO.none _
      | refine LeO.ite ?_ ?_
      | refine LeO.bind ?_ (fun _ => ?_)
    · intro y0 y1 y2 y3 y4 y5
      unfold flailref13_Find.j4
      repeat' first
      | (with_reducible exact ih0 _ _ _ _)
      | (with_reducible exact ih1 _ _ _ _ _ _ _ _)
      | (with_reducible exact ih2 _ _ _ _ _ _ _ _)
      | (with_reducible exact ih3 _ _ _ _ _ _ _)
      | (with_reducible exact ih4 _ _ _ _ _ _)
      | (with_reducible exact ih5 _ _ _ _ _)
      | (with_reducible exact flailref03_Begins.mono _ _ _ _)
      | (with_reducible exact flailref12_Ends.mono _ _ _ _)
      | (with_reducible exact flailref13_word.mono _ _ _ _)
      | (with_reducible exact LeO.refl _)
      | (with_reducible exact LeO.none _)
      | (with_reducible refine LeO.ite ?_ ?_)
      | (with_reducible refine LeO.bind ?_ (fun _ => ?_))
      | exact ih0 _ _ _ _
      | exact ih1 _ _ _ _ _ _ _ _
      | exact ih2 _ _ _ _ _ _ _ _
      | exact ih3 _ _ _ _ _ _ _
      | exact ih4 _ _ _ _ _ _
      | exact ih5 _ _ _ _ _
      | exact flailref03_Begins.mono _ _ _ _
      | exact flailref12_Ends.mono _ _ _ _
      | exact flailref13_word.mono _ _ _ _
      | exact LeO.none _
      | refine LeO.ite ?_ ?_
      | refine LeO.bind ?_ (fun _ => ?_)
    · intro y0 y1 y2 y3 y4
      unfold flailref13_Find.j5
      repeat' first
      | (with_reducible exact ih0 _ _ _ _)
      | (with_reducible exact ih1 _ _ _ _ _ _ _ _)
      | (with_reducible exact ih2 _ _ _ _ _ _ _ _)
      | (with_reducible exact ih3 _ _ _ _ _ _ _)
      | (with_reducible exact ih4 _ _ _ _ _ _)
      | (with_reducible exact ih5 _ _ _ _ _)
      | (with_reducible exact flailref03_Begins.mono _ _ _ _)
      | (with_reducible exact flailref12_Ends.mono _ _ _ _)
      | (with_reducible exact flailref13_word.mono _ _ _ _)
      | (with_reducible exact LeO.refl _)
      | (with_reducible exact LeO.none _)
      | (with_reducible refine LeO.ite ?_ ?_)
      | (with_reducible refine LeO.bind ?_ (fun _ => ?_))
      | exact ih0 _ _ _ _
      | exact ih1 _ _ _ _ _ _ _ _
      | exact ih2 _ _ _ _ _ _ _ _
      | exact ih3 _ _ _ _ _ _ _
      | exact ih4 _ _ _ _ _ _
      | exact ih5 _ _ _ _ _
      | exact flailref03_Begins.mono _ _ _ _
      | exact flailref12_Ends.mono _ _ _ _
      | exact flailref13_word.mono _ _ _ _
      | exact LeO.none _
      | refine LeO.ite ?_ ?_
      | refine LeO.bind ?_ (fun _ => ?_)
theorem flailref13_Find.mono : ∀ a0 a1 k, LeO (flailref13_Find.f k a0 a1) (flailref13_Find.f (k + 1) a0 a1) := by
  intro a0 a1 k
  obtain ⟨ih0, ih1, ih2, ih3, ih4, ih5⟩ := flailref13_Find.mono_l k
  unfold flailref13_Find.f
  repeat' first
      | (with_reducible exact ih0 _ _ _ _)
      | (with_reducible exact ih1 _ _ _ _ _ _ _ _)
      | (with_reducible exact ih2 _ _ _ _ _ _ _ _)
      | (with_reducible exact ih3 _ _ _ _ _ _ _)
      | (with_reducible exact ih4 _ _ _ _ _ _)
      | (with_reducible exact ih5 _ _ _ _ _)
      | (with_reducible exact flailref03_Begins.mono _ _ _ _)
      | (with_reducible exact flailref12_Ends.mono _ _ _ _)
      | (with_reducible exact flailref13_word.mono _ _ _ _)
      | (with_reducible exact LeO.refl _)
      | (with_reducible exact LeO.none _)
      | (with_reducible refine LeO.ite ?_ ?_)
      | (with_reducible refine LeO.bind ?_ (fun _ => ?_))
      | exact ih0 _ _ _ _
      | exact ih1 _ _ _ _ _ _ _ _
      | exact ih2 _ _ _ _ _ _ _ _
      | exact ih3 _ _ _ _ _ _ _
      | exact ih4 _ _ _ _ _ _
      | exact ih5 _ _ _ _ _
      | exact flailref03_Begins.mono _ _ _ _
      | exact flailref12_Ends.mono _ _ _ _
      | exact flailref13_word.mono _ _ _ _
      | exact LeO.none _
      | refine LeO.ite ?_ ?_
      | refine LeO.bind ?_ (fun _ => ?_)
set_option maxHeartbeats 8000000 in
set_option maxRecDepth 100000 in
theorem flailref13_Find.calls (k : Nat) (a0 : ByteArray) (a1 : Int) (r1 : Int) (r2 : Int) (w : World) (h : flailref13_Find.f k a0 a1 = some (r1, r2)) :
    Calls Tryd.prog 33 #[.string a0, .int .i64 a1] w fun e w' => e = .returned (.tuple #[.int .i64 r1, .int .i64 r2]) ∧ Below w.heap.size w w' := by
  have HB := Aside0.mk (Below.refl w.heap.size w)
  have H : (flailref13_Find.l0 k a0 0 0 (mx 0 (mn a1 (a0.size : Int)))) = some (r1, r2) := h
  clear h
  obtain ⟨ji3, hji3⟩ : ∃ j_ : Int, (mn a1 (a0.size : Int)) = j_ := ⟨_, rfl⟩
  replace H : (flailref13_Find.l0 k a0 0 0 (mx 0 (ji3))) = some (r1, r2) := by first | (rw [hji3] at H; exact H) | (simp only [hji3] at H ⊢; exact H)
  have hji3_ : (if (a0.size : Int) < a1 then (a0.size : Int) else a1) = ji3 := hji3
  obtain ⟨ji4, hji4⟩ : ∃ j_ : Int, (mx 0 (ji3)) = j_ := ⟨_, rfl⟩
  replace H : (flailref13_Find.l0 k a0 0 0 ji4) = some (r1, r2) := by first | (rw [hji4] at H; exact H) | (simp only [hji4] at H ⊢; exact H)
  have hji4_ : (if 0 < (ji3) then (ji3) else 0) = ji4 := hji4
  have H' := Aside0.mk H
  clear H
  go_enter Tryd.func33, Tryd.ntmps33
  go_wp2
  go_loopg [6, 7, 8] k (fun kq v6 v7 v8 w' => ∃ (x6_1 : Int) (x7_1 : Int) (x8_1 : Int), v6 = .int .i64 x6_1 ∧ v7 = .int .i64 x7_1 ∧ v8 = .int .i64 x8_1 ∧ Aside0 (flailref13_Find.l0 kq a0 x6_1 x7_1 x8_1 = some (r1, r2)) ∧ Aside0 (kq ≤ k) ∧ Aside0 (Below w.heap.size w w'))
  case atStart => exact ⟨(0), (0), (ji4), (by first | rfl | (simp; done) | (simp [*]; done)), (by first | rfl | (simp; done) | (simp [*]; done)), (by first | rfl | (simp; done) | (simp only [← hji4] <;> (first | rfl | simp)) | (simp [*]; done)), H', ⟨Nat.le_refl _⟩, ⟨by repeat (first | (with_reducible first | exact HB.out | apply below_alloc | apply pw_below_drewN | apply below_drew1) | exact HB.out)⟩⟩
  case round =>
    clear H'
    try clear p2
    try clear c3
    obtain ⟨x6_1, x7_1, x8_1, rfl, rfl, rfl, HA, HK1, HB⟩ := hrel
    cases gk with
    | zero => exact absurd HA.out (by simp [flailref13_Find.l0])
    | succ k1 =>
      have H := HA.out
      clear HA
      simp only [flailref13_Find.l0] at H
      by_cases c5 : x8_1 < (a0.size : Int)
      · rw [if_pos c5] at H
        have c5b0 : decide (x8_1 < (a0.size : Int)) = true := decide_eq_true c5
        clear c5
        replace H := Option.bind_eq_some_iff.mp H
        obtain ⟨t120, A60, H⟩ := H
        replace H : ((flailref13_word.f k1 a0 x8_1 (⟨#[60]⟩ : ByteArray)).bind fun t121 => ((flailref13_word.f k1 a0 x8_1 (⟨#[60, 47]⟩ : ByteArray)).bind fun t122 => (if x6_1 = 0 then (flailref13_Find.j1 k1 a0 x6_1 x7_1 x8_1 t120 t121 t122 t120) else (flailref13_Find.j1 k1 a0 x6_1 x7_1 x8_1 t120 t121 t122 false)))) = some (r1, r2) := H
        have A6 := Aside0.mk A60
        clear A60
        replace H := Option.bind_eq_some_iff.mp H
        obtain ⟨t121, A70, H⟩ := H
        replace H : ((flailref13_word.f k1 a0 x8_1 (⟨#[60, 47]⟩ : ByteArray)).bind fun t122 => (if x6_1 = 0 then (flailref13_Find.j1 k1 a0 x6_1 x7_1 x8_1 t120 t121 t122 t120) else (flailref13_Find.j1 k1 a0 x6_1 x7_1 x8_1 t120 t121 t122 false))) = some (r1, r2) := H
        have A7 := Aside0.mk A70
        clear A70
        replace H := Option.bind_eq_some_iff.mp H
        obtain ⟨t122, A80, H⟩ := H
        replace H : (if x6_1 = 0 then (flailref13_Find.j1 k1 a0 x6_1 x7_1 x8_1 t120 t121 t122 t120) else (flailref13_Find.j1 k1 a0 x6_1 x7_1 x8_1 t120 t121 t122 false)) = some (r1, r2) := H
        have A8 := Aside0.mk A80
        clear A80
        have HC9 := Aside0.mk H
        clear H
        go_upto_region 10 with (first | ((with_reducible refine gate_callee (f := 60) rfl ?_); refine goesL_ (some 23) rfl rfl Tryd.func60 (by kernel_rfl) rfl #[.string a0, .int .i64 x8_1, .string (⟨#[115, 99, 114, 105, 112, 116]⟩ : ByteArray)] rfl (by (try simp only [List.map_toArray, List.map_cons, List.map_nil]); first | done | rfl | (simp only [List.length_drop, List.length_take]; rfl)) ?_; (with_reducible refine (flailref12_Ends.calls k1 a0 x8_1 (⟨#[115, 99, 114, 105, 112, 116]⟩ : ByteArray) t120 _ A6.out).mono ?_); rintro e w10 ⟨rfl, hb⟩; refine ⟨_, rfl, ?_⟩; have n0_ := Aside0.mk (below_step (by repeat (first | (with_reducible first | exact HB.out | apply below_alloc | apply pw_below_drewN | apply below_drew1) | exact HB.out)) hb); clear HB; have HB := n0_; clear n0_; (try clear hb); (try clear hb2); (try clear hk); (try clear hi)) | ((with_reducible refine gate_callee (f := 61) rfl ?_); refine goesL_ (some 26) rfl rfl Tryd.func61 (by kernel_rfl) rfl #[.string a0, .int .i64 x8_1, .string (⟨#[60]⟩ : ByteArray)] rfl (by (try simp only [List.map_toArray, List.map_cons, List.map_nil]); first | done | rfl | (simp only [List.length_drop, List.length_take]; rfl)) ?_; (with_reducible refine (flailref13_word.calls k1 a0 x8_1 (⟨#[60]⟩ : ByteArray) t121 _ A7.out).mono ?_); rintro e w11 ⟨rfl, hb⟩; refine ⟨_, rfl, ?_⟩; have n0_ := Aside0.mk (below_step (by repeat (first | (with_reducible first | exact HB.out | apply below_alloc | apply pw_below_drewN | apply below_drew1) | exact HB.out)) hb); clear HB; have HB := n0_; clear n0_; (try clear hb); (try clear hb2); (try clear hk); (try clear hi)) | ((with_reducible refine gate_callee (f := 61) rfl ?_); refine goesL_ (some 29) rfl rfl Tryd.func61 (by kernel_rfl) rfl #[.string a0, .int .i64 x8_1, .string (⟨#[60, 47]⟩ : ByteArray)] rfl (by (try simp only [List.map_toArray, List.map_cons, List.map_nil]); first | done | rfl | (simp only [List.length_drop, List.length_take]; rfl)) ?_; (with_reducible refine (flailref13_word.calls k1 a0 x8_1 (⟨#[60, 47]⟩ : ByteArray) t122 _ A8.out).mono ?_); rintro e w12 ⟨rfl, hb⟩; refine ⟨_, rfl, ?_⟩; have n0_ := Aside0.mk (below_step (by repeat (first | (with_reducible first | exact HB.out | apply below_alloc | apply pw_below_drewN | apply below_drew1) | exact HB.out)) hb); clear HB; have HB := n0_; clear n0_; (try clear hb); (try clear hb2); (try clear hk); (try clear hi)))
        (try simp only [Act.put, List.setIfInBounds_toArray, List.set_cons_zero, List.set_cons_succ])
        go_cut [32] (fun v32 wc => ∃ (kq : Nat) (x32_8 : Bool), v32 = .bool x32_8 ∧ Aside0 (flailref13_Find.j1 kq a0 x6_1 x7_1 x8_1 t120 t121 t122 x32_8 = some (r1, r2)) ∧ Aside0 (kq ≤ k1) ∧ Aside0 (Below w.heap.size w wc))
        case first =>
          have H := HC9.out
          clear HC9
          by_cases c13 : x6_1 = 0
          · rw [if_pos c13] at H
            have c13b0 : (x6_1 == 0) = true := beq_iff_eq.mpr c13
            have c13b1 : (x6_1 != 0) = false := bne_eq_false_iff_eq.mpr c13
            clear c13
            (first | rw [c13b0] | (simp only [i64_w, i32_w]; rw [c13b0]) | skip)
            have H' := Aside0.mk H
            clear H
            go_wp2
            go_meet
            case rel => exact ⟨_, (t120), (by first | rfl | (simp; done) | (simp [*]; done)), H', ⟨by have := HK1.out; first | omega | exact Nat.le_refl _⟩, ⟨by repeat (first | (with_reducible first | exact HB.out | apply below_alloc | apply pw_below_drewN | apply below_drew1) | exact HB.out)⟩⟩
          · rw [if_neg c13] at H
            have c13b0 : (x6_1 == 0) = false := beq_eq_false_iff_ne.mpr c13
            have c13b1 : (x6_1 != 0) = true := bne_iff_ne.mpr c13
            (first | rw [c13b0] | (simp only [i64_w, i32_w]; rw [c13b0]) | skip)
            have H' := Aside0.mk H
            clear H
            go_wp2
            go_meet
            case rel => exact ⟨_, (false), (by first | rfl | (simp; done) | (simp [*]; done)), H', ⟨by have := HK1.out; first | omega | exact Nat.le_refl _⟩, ⟨by repeat (first | (with_reducible first | exact HB.out | apply below_alloc | apply pw_below_drewN | apply below_drew1) | exact HB.out)⟩⟩
        case rest =>
          clear HC9
          try clear c1
          try clear p2
          try clear c3
          try clear c5
          try clear c5b0
          try clear c6
          try clear c13
          try clear c13b0
          try clear c13b1
          try clear p2
          obtain ⟨kq, x32_8, rfl, HA, HJ8, HB⟩ := hcut
          cases kq with
          | zero => exact absurd HA.out (by simp [flailref13_Find.j1])
          | succ kj8 =>
            have H := HA.out
            clear HA
            simp only [flailref13_Find.j1] at H
            by_cases c14 : x32_8 = true
            · subst c14
              have H1 : (some (x8_1, 0)) = some (r1, r2) := by rw [if_pos rfl] at H; exact H
              clear H
              have H := H1
              clear H1
              simp only [Option.some.injEq, Prod.mk.injEq] at H
              obtain ⟨rfl, rfl⟩ := H
              go_wp2
              go_ret2
              exact ⟨by first | rfl | (simp [errW_none, errW_some] <;> rfl) | (simp only [← hji3, ← hji4]; first | rfl | (simp [errW_none, errW_some] <;> rfl)) | (simp [*, errW_none, errW_some] <;> rfl), by repeat (first | (with_reducible first | exact HB.out | apply below_alloc | apply pw_below_drewN | apply below_drew1) | exact HB.out)⟩
            · replace c14 := Bool.eq_false_iff.mpr c14
              subst c14
              have H1 : (if x6_1 = 0 then ((flailref03_Begins.f kj8 a0 x8_1 (⟨#[60, 33, 45, 45]⟩ : ByteArray)).bind fun t123 => (flailref13_Find.j2 kj8 a0 x6_1 x7_1 x8_1 t120 t121 t122 t123)) else (flailref13_Find.j2 kj8 a0 x6_1 x7_1 x8_1 t120 t121 t122 false)) = some (r1, r2) := by rw [if_neg (show ¬ (false = true) by decide)] at H; exact H
              clear H
              have H := H1
              clear H1
              have HC15 := Aside0.mk H
              clear H
              go_upto_region 12 with (fail)
              go_cut [39] (fun v39 wc => ∃ (kq : Nat) (x39_14 : Bool), v39 = .bool x39_14 ∧ Aside0 (flailref13_Find.j2 kq a0 x6_1 x7_1 x8_1 t120 t121 t122 x39_14 = some (r1, r2)) ∧ Aside0 (kq ≤ kj8) ∧ Aside0 (Below w.heap.size w wc))
              case first =>
                have H := HC15.out
                clear HC15
                by_cases c16 : x6_1 = 0
                · rw [if_pos c16] at H
                  have c16b0 : (x6_1 == 0) = true := beq_iff_eq.mpr c16
                  have c16b1 : (x6_1 != 0) = false := bne_eq_false_iff_eq.mpr c16
                  clear c16
                  (first | rw [c16b0] | (simp only [i64_w, i32_w]; rw [c16b0]) | skip)
                  replace H := Option.bind_eq_some_iff.mp H
                  obtain ⟨t123, A170, H⟩ := H
                  replace H : (flailref13_Find.j2 kj8 a0 x6_1 x7_1 x8_1 t120 t121 t122 t123) = some (r1, r2) := H
                  have A17 := Aside0.mk A170
                  clear A170
                  have H' := Aside0.mk H
                  clear H
                  go_wp2_with (first | (go_at_call 62; (with_reducible refine (flailref03_Begins.calls kj8 a0 x8_1 (⟨#[60, 33, 45, 45]⟩ : ByteArray) t123 _ A17.out).mono ?_); rintro e w18 ⟨rfl, hb⟩; have n0_ := Aside0.mk (below_step (by repeat (first | (with_reducible first | exact HB.out | apply below_alloc | apply pw_below_drewN | apply below_drew1) | exact HB.out)) hb); clear HB; have HB := n0_; clear n0_; (try clear hb); (try clear hb2); (try clear hk); (try clear hi)))
                  go_meet
                  case rel => exact ⟨_, (t123), (by first | rfl | (simp; done) | (simp [*]; done)), H', ⟨by have := HK1.out; have := HJ8.out; first | omega | exact Nat.le_refl _⟩, ⟨by repeat (first | (with_reducible first | exact HB.out | apply below_alloc | apply pw_below_drewN | apply below_drew1) | exact HB.out)⟩⟩
                · rw [if_neg c16] at H
                  have c16b0 : (x6_1 == 0) = false := beq_eq_false_iff_ne.mpr c16
                  have c16b1 : (x6_1 != 0) = true := bne_iff_ne.mpr c16
                  (first | rw [c16b0] | (simp only [i64_w, i32_w]; rw [c16b0]) | skip)
                  have H' := Aside0.mk H
                  clear H
                  go_wp2
                  go_meet
                  case rel => exact ⟨_, (false), (by first | rfl | (simp; done) | (simp [*]; done)), H', ⟨by have := HK1.out; have := HJ8.out; first | omega | exact Nat.le_refl _⟩, ⟨by repeat (first | (with_reducible first | exact HB.out | apply below_alloc | apply pw_below_drewN | apply below_drew1) | exact HB.out)⟩⟩
              case rest =>
                clear HC15
                try clear c1
                try clear p2
                try clear c3
                try clear c5
                try clear c5b0
                try clear c6
                try clear c13
                try clear c13b0
                try clear c13b1
                try clear c14
                try clear c16
                try clear c16b0
                try clear c16b1
                try clear p2
                obtain ⟨kq, x39_14, rfl, HA, HJ14, HB⟩ := hcut
                cases kq with
                | zero => exact absurd HA.out (by simp [flailref13_Find.j2])
                | succ kj14 =>
                  have H := HA.out
                  clear HA
                  simp only [flailref13_Find.j2] at H
                  by_cases c19 : x39_14 = true
                  · subst c19
                    have H1 : (flailref13_Find.l0 kj14 a0 1 2 (wrap64 (x8_1 + 4))) = some (r1, r2) := by rw [if_pos rfl] at H; exact H
                    clear H
                    have H := H1
                    clear H1
                    have H' := Aside0.mk H
                    clear H
                    go_wp2
                    go_roundg kj14
                    case measure => have := HK1.out; have := HJ8.out; have := HJ14.out; omega
                    case rel => exact ⟨(1), (2), (wrap64 (x8_1 + 4)), (by first | rfl | (simp; done) | (simp [*]; done)), (by first | rfl | (simp; done) | (simp [*]; done)), (by first | rfl | (simp; done) | (simp [*]; done)), H', ⟨by have := HK1.out; have := HJ8.out; have := HJ14.out; omega⟩, ⟨by repeat (first | (with_reducible first | exact HB.out | apply below_alloc | apply pw_below_drewN | apply below_drew1) | exact HB.out)⟩⟩
                  · replace c19 := Bool.eq_false_iff.mpr c19
                    subst c19
                    have H1 : (if x6_1 = 0 then (flailref13_Find.l0 kj14 a0 x6_1 x7_1 (wrap64 (x8_1 + 1))) else (if 0 ≤ x8_1 then (if x8_1 < (a0.size : Int) then (if (bt a0 x8_1) = 45 then (flailref13_Find.l0 kj14 a0 x6_1 (wrap64 (x7_1 + 1)) (wrap64 (x8_1 + 1))) else (if (bt a0 x8_1) = 62 then (flailref13_Find.j3 kj14 a0 x6_1 x8_1 t120 t121 t122 (decide (x7_1 ≥ 2))) else (flailref13_Find.j3 kj14 a0 x6_1 x8_1 t120 t121 t122 false))) else (none)) else (none))) = some (r1, r2) := by rw [if_neg (show ¬ (false = true) by decide)] at H; exact H
                    clear H
                    have H := H1
                    clear H1
                    by_cases c20 : x6_1 = 0
                    · rw [if_pos c20] at H
                      have c20b0 : (x6_1 == 0) = true := beq_iff_eq.mpr c20
                      have c20b1 : (x6_1 != 0) = false := bne_eq_false_iff_eq.mpr c20
                      clear c20
                      have H' := Aside0.mk H
                      clear H
                      go_wp2
                      go_roundg kj14
                      case measure => have := HK1.out; have := HJ8.out; have := HJ14.out; omega
                      case rel => exact ⟨(x6_1), (x7_1), (wrap64 (x8_1 + 1)), (by first | rfl | (simp; done) | (simp [*]; done)), (by first | rfl | (simp; done) | (simp [*]; done)), (by first | rfl | (simp; done) | (simp [*]; done)), H', ⟨by have := HK1.out; have := HJ8.out; have := HJ14.out; omega⟩, ⟨by repeat (first | (with_reducible first | exact HB.out | apply below_alloc | apply pw_below_drewN | apply below_drew1) | exact HB.out)⟩⟩
                    · rw [if_neg c20] at H
                      have c20b0 : (x6_1 == 0) = false := beq_eq_false_iff_ne.mpr c20
                      have c20b1 : (x6_1 != 0) = true := bne_iff_ne.mpr c20
                      by_cases c21 : 0 ≤ x8_1
                      · rw [if_pos c21] at H
                        have c21b0 : decide (0 ≤ x8_1) = true := decide_eq_true c21
                        clear c21
                        by_cases c22 : x8_1 < (a0.size : Int)
                        · rw [if_pos c22] at H
                          have c22b0 : decide (x8_1 < (a0.size : Int)) = true := decide_eq_true c22
                          clear c22
                          by_cases c24 : (bt a0 x8_1) = 45
                          · rw [if_pos c24] at H
                            have c24b0 : ((bt a0 x8_1) == 45) = true := beq_iff_eq.mpr c24
                            have c24b1 : ((bt a0 x8_1) != 45) = false := bne_eq_false_iff_eq.mpr c24
                            clear c24
                            have H' := Aside0.mk H
                            clear H
                            have p23 : 0 ≤ (x8_1 : Int) := of_decide_eq_true (by first | (with_reducible assumption) | assumption)
                            have q23 : x8_1 < (a0.size : Int) := of_decide_eq_true (by first | (with_reducible assumption) | assumption)
                            have hx23 := bt_at a0 x8_1
                            replace p23 := eq_true p23
                            replace q23 := eq_true q23
                            go_wp2
                            go_roundg kj14
                            case measure => have := HK1.out; have := HJ8.out; have := HJ14.out; omega
                            case rel => exact ⟨(x6_1), (wrap64 (x7_1 + 1)), (wrap64 (x8_1 + 1)), (by first | rfl | (simp; done) | (simp [*]; done)), (by first | rfl | (simp; done) | (simp [*]; done)), (by first | rfl | (simp; done) | (simp [*]; done)), H', ⟨by have := HK1.out; have := HJ8.out; have := HJ14.out; omega⟩, ⟨by repeat (first | (with_reducible first | exact HB.out | apply below_alloc | apply pw_below_drewN | apply below_drew1) | exact HB.out)⟩⟩
                          · rw [if_neg c24] at H
                            have c24b0 : ((bt a0 x8_1) == 45) = false := beq_eq_false_iff_ne.mpr c24
                            have c24b1 : ((bt a0 x8_1) != 45) = true := bne_iff_ne.mpr c24
                            have HC25 := Aside0.mk H
                            clear H
                            have p23 : 0 ≤ (x8_1 : Int) := of_decide_eq_true (by first | (with_reducible assumption) | assumption)
                            have q23 : x8_1 < (a0.size : Int) := of_decide_eq_true (by first | (with_reducible assumption) | assumption)
                            have hx23 := bt_at a0 x8_1
                            replace p23 := eq_true p23
                            replace q23 := eq_true q23
                            go_upto_region 21 with (fail)
                            go_cut [63] (fun v63 wc => ∃ (kq : Nat) (x63_24 : Bool), v63 = .bool x63_24 ∧ Aside0 (flailref13_Find.j3 kq a0 x6_1 x8_1 t120 t121 t122 x63_24 = some (r1, r2)) ∧ Aside0 (kq ≤ kj14) ∧ Aside0 (Below w.heap.size w wc))
                            case first =>
                              have H := HC25.out
                              clear HC25
                              by_cases c27 : (bt a0 x8_1) = 62
                              · rw [if_pos c27] at H
                                have c27b0 : ((bt a0 x8_1) == 62) = true := beq_iff_eq.mpr c27
                                have c27b1 : ((bt a0 x8_1) != 62) = false := bne_eq_false_iff_eq.mpr c27
                                clear c27
                                (first | rw [c27b0] | (simp only [i64_w, i32_w]; rw [c27b0]) | skip)
                                have H' := Aside0.mk H
                                clear H
                                have p26 : 0 ≤ (x8_1 : Int) := of_decide_eq_true (by first | (with_reducible assumption) | assumption)
                                have q26 : x8_1 < (a0.size : Int) := of_decide_eq_true (by first | (with_reducible assumption) | assumption)
                                have hx26 := bt_at a0 x8_1
                                replace p26 := eq_true p26
                                replace q26 := eq_true q26
                                go_wp2
                                go_meet
                                case rel => exact ⟨_, (decide (x7_1 ≥ 2)), (by first | rfl | (simp; done) | (simp [*]; done)), H', ⟨by have := HK1.out; have := HJ8.out; have := HJ14.out; first | omega | exact Nat.le_refl _⟩, ⟨by repeat (first | (with_reducible first | exact HB.out | apply below_alloc | apply pw_below_drewN | apply below_drew1) | exact HB.out)⟩⟩
                              · rw [if_neg c27] at H
                                have c27b0 : ((bt a0 x8_1) == 62) = false := beq_eq_false_iff_ne.mpr c27
                                have c27b1 : ((bt a0 x8_1) != 62) = true := bne_iff_ne.mpr c27
                                (first | rw [c27b0] | (simp only [i64_w, i32_w]; rw [c27b0]) | skip)
                                have H' := Aside0.mk H
                                clear H
                                have p26 : 0 ≤ (x8_1 : Int) := of_decide_eq_true (by first | (with_reducible assumption) | assumption)
                                have q26 : x8_1 < (a0.size : Int) := of_decide_eq_true (by first | (with_reducible assumption) | assumption)
                                have hx26 := bt_at a0 x8_1
                                replace p26 := eq_true p26
                                replace q26 := eq_true q26
                                go_wp2
                                go_meet
                                case rel => exact ⟨_, (false), (by first | rfl | (simp; done) | (simp [*]; done)), H', ⟨by have := HK1.out; have := HJ8.out; have := HJ14.out; first | omega | exact Nat.le_refl _⟩, ⟨by repeat (first | (with_reducible first | exact HB.out | apply below_alloc | apply pw_below_drewN | apply below_drew1) | exact HB.out)⟩⟩
                            case rest =>
                              clear HC25
                              try clear c1
                              try clear c2
                              try clear p2
                              try clear q2
                              try clear hx2
                              try clear c3
                              try clear c5
                              try clear c5b0
                              try clear c6
                              try clear p6
                              try clear c13
                              try clear c13b0
                              try clear c13b1
                              try clear c14
                              try clear c16
                              try clear c16b0
                              try clear c16b1
                              try clear c19
                              try clear c20
                              try clear c20b0
                              try clear c20b1
                              try clear c21
                              try clear c21b0
                              try clear c22
                              try clear c22b0
                              try clear p23
                              try clear q23
                              try clear hx23
                              try clear c24
                              try clear c24b0
                              try clear c24b1
                              try clear p26
                              try clear q26
                              try clear hx26
                              try clear c27
                              try clear c27b0
                              try clear c27b1
                              try clear p2
                              try clear p23
                              try clear p26
                              try clear q23
                              try clear q26
                              obtain ⟨kq, x63_24, rfl, HA, HJ24, HB⟩ := hcut
                              cases kq with
                              | zero => exact absurd HA.out (by simp [flailref13_Find.j3])
                              | succ kj24 =>
                                have H := HA.out
                                clear HA
                                simp only [flailref13_Find.j3] at H
                                by_cases c28 : x63_24 = true
                                · subst c28
                                  have H1 : (flailref13_Find.l0 kj24 a0 0 0 (wrap64 (x8_1 + 1))) = some (r1, r2) := by rw [if_pos rfl] at H; exact H
                                  clear H
                                  have H := H1
                                  clear H1
                                  have H' := Aside0.mk H
                                  clear H
                                  go_wp2
                                  go_roundg kj24
                                  case measure => have := HK1.out; have := HJ8.out; have := HJ14.out; have := HJ24.out; omega
                                  case rel => exact ⟨(0), (0), (wrap64 (x8_1 + 1)), (by first | rfl | (simp; done) | (simp [*]; done)), (by first | rfl | (simp; done) | (simp [*]; done)), (by first | rfl | (simp; done) | (simp [*]; done)), H', ⟨by have := HK1.out; have := HJ8.out; have := HJ14.out; have := HJ24.out; omega⟩, ⟨by repeat (first | (with_reducible first | exact HB.out | apply below_alloc | apply pw_below_drewN | apply below_drew1) | exact HB.out)⟩⟩
                                · replace c28 := Bool.eq_false_iff.mpr c28
                                  subst c28
                                  have H1 : (if x6_1 = 1 then (flailref13_Find.j4 kj24 a0 x6_1 x8_1 t121 t122 t120) else (flailref13_Find.j4 kj24 a0 x6_1 x8_1 t121 t122 false)) = some (r1, r2) := by rw [if_neg (show ¬ (false = true) by decide)] at H; exact H
                                  clear H
                                  have H := H1
                                  clear H1
                                  have HC29 := Aside0.mk H
                                  clear H
                                  go_upto_region 25 with (fail)
                                  go_cut [74] (fun v74 wc => ∃ (kq : Nat) (x74_28 : Bool), v74 = .bool x74_28 ∧ Aside0 (flailref13_Find.j4 kq a0 x6_1 x8_1 t121 t122 x74_28 = some (r1, r2)) ∧ Aside0 (kq ≤ kj24) ∧ Aside0 (Below w.heap.size w wc))
                                  case first =>
                                    have H := HC29.out
                                    clear HC29
                                    by_cases c30 : x6_1 = 1
                                    · rw [if_pos c30] at H
                                      have c30b0 : (x6_1 == 1) = true := beq_iff_eq.mpr c30
                                      have c30b1 : (x6_1 != 1) = false := bne_eq_false_iff_eq.mpr c30
                                      clear c30
                                      (first | rw [c30b0] | (simp only [i64_w, i32_w]; rw [c30b0]) | skip)
                                      have H' := Aside0.mk H
                                      clear H
                                      go_wp2
                                      go_meet
                                      case rel => exact ⟨_, (t120), (by first | rfl | (simp; done) | (simp [*]; done)), H', ⟨by have := HK1.out; have := HJ8.out; have := HJ14.out; have := HJ24.out; first | omega | exact Nat.le_refl _⟩, ⟨by repeat (first | (with_reducible first | exact HB.out | apply below_alloc | apply pw_below_drewN | apply below_drew1) | exact HB.out)⟩⟩
                                    · rw [if_neg c30] at H
                                      have c30b0 : (x6_1 == 1) = false := beq_eq_false_iff_ne.mpr c30
                                      have c30b1 : (x6_1 != 1) = true := bne_iff_ne.mpr c30
                                      (first | rw [c30b0] | (simp only [i64_w, i32_w]; rw [c30b0]) | skip)
                                      have H' := Aside0.mk H
                                      clear H
                                      go_wp2
                                      go_meet
                                      case rel => exact ⟨_, (false), (by first | rfl | (simp; done) | (simp [*]; done)), H', ⟨by have := HK1.out; have := HJ8.out; have := HJ14.out; have := HJ24.out; first | omega | exact Nat.le_refl _⟩, ⟨by repeat (first | (with_reducible first | exact HB.out | apply below_alloc | apply pw_below_drewN | apply below_drew1) | exact HB.out)⟩⟩
                                  case rest =>
                                    clear HC29
                                    try clear c1
                                    try clear c2
                                    try clear p2
                                    try clear q2
                                    try clear hx2
                                    try clear c3
                                    try clear c5
                                    try clear c5b0
                                    try clear c6
                                    try clear p6
                                    try clear c13
                                    try clear c13b0
                                    try clear c13b1
                                    try clear c14
                                    try clear c16
                                    try clear c16b0
                                    try clear c16b1
                                    try clear c19
                                    try clear c20
                                    try clear c20b0
                                    try clear c20b1
                                    try clear c21
                                    try clear c21b0
                                    try clear c22
                                    try clear c22b0
                                    try clear p23
                                    try clear q23
                                    try clear hx23
                                    try clear c24
                                    try clear c24b0
                                    try clear c24b1
                                    try clear p26
                                    try clear q26
                                    try clear hx26
                                    try clear c27
                                    try clear c27b0
                                    try clear c27b1
                                    try clear c28
                                    try clear c30
                                    try clear c30b0
                                    try clear c30b1
                                    try clear p2
                                    try clear p23
                                    try clear p26
                                    try clear p6
                                    try clear q2
                                    try clear q23
                                    try clear q26
                                    obtain ⟨kq, x74_28, rfl, HA, HJ28, HB⟩ := hcut
                                    cases kq with
                                    | zero => exact absurd HA.out (by simp [flailref13_Find.j4])
                                    | succ kj28 =>
                                      have H := HA.out
                                      clear HA
                                      simp only [flailref13_Find.j4] at H
                                      by_cases c31 : x74_28 = true
                                      · subst c31
                                        have H1 : (some (x8_1, 1)) = some (r1, r2) := by rw [if_pos rfl] at H; exact H
                                        clear H
                                        have H := H1
                                        clear H1
                                        simp only [Option.some.injEq, Prod.mk.injEq] at H
                                        obtain ⟨rfl, rfl⟩ := H
                                        go_wp2
                                        go_ret2
                                        exact ⟨by first | rfl | (simp [errW_none, errW_some] <;> rfl) | (simp only [← hji3, ← hji4]; first | rfl | (simp [errW_none, errW_some] <;> rfl)) | (simp [*, errW_none, errW_some] <;> rfl), by repeat (first | (with_reducible first | exact HB.out | apply below_alloc | apply pw_below_drewN | apply below_drew1) | exact HB.out)⟩
                                      · replace c31 := Bool.eq_false_iff.mpr c31
                                        subst c31
                                        have H1 : (if x6_1 = 1 then (flailref13_Find.j5 kj28 a0 x6_1 x8_1 t122 t121) else (flailref13_Find.j5 kj28 a0 x6_1 x8_1 t122 false)) = some (r1, r2) := by rw [if_neg (show ¬ (false = true) by decide)] at H; exact H
                                        clear H
                                        have H := H1
                                        clear H1
                                        have HC32 := Aside0.mk H
                                        clear H
                                        go_upto_region 27 with (fail)
                                        go_cut [81] (fun v81 wc => ∃ (kq : Nat) (x81_31 : Bool), v81 = .bool x81_31 ∧ Aside0 (flailref13_Find.j5 kq a0 x6_1 x8_1 t122 x81_31 = some (r1, r2)) ∧ Aside0 (kq ≤ kj28) ∧ Aside0 (Below w.heap.size w wc))
                                        case first =>
                                          have H := HC32.out
                                          clear HC32
                                          by_cases c33 : x6_1 = 1
                                          · rw [if_pos c33] at H
                                            have c33b0 : (x6_1 == 1) = true := beq_iff_eq.mpr c33
                                            have c33b1 : (x6_1 != 1) = false := bne_eq_false_iff_eq.mpr c33
                                            clear c33
                                            (first | rw [c33b0] | (simp only [i64_w, i32_w]; rw [c33b0]) | skip)
                                            have H' := Aside0.mk H
                                            clear H
                                            go_wp2
                                            go_meet
                                            case rel => exact ⟨_, (t121), (by first | rfl | (simp; done) | (simp [*]; done)), H', ⟨by have := HK1.out; have := HJ8.out; have := HJ14.out; have := HJ24.out; have := HJ28.out; first | omega | exact Nat.le_refl _⟩, ⟨by repeat (first | (with_reducible first | exact HB.out | apply below_alloc | apply pw_below_drewN | apply below_drew1) | exact HB.out)⟩⟩
                                          · rw [if_neg c33] at H
                                            have c33b0 : (x6_1 == 1) = false := beq_eq_false_iff_ne.mpr c33
                                            have c33b1 : (x6_1 != 1) = true := bne_iff_ne.mpr c33
                                            (first | rw [c33b0] | (simp only [i64_w, i32_w]; rw [c33b0]) | skip)
                                            have H' := Aside0.mk H
                                            clear H
                                            go_wp2
                                            go_meet
                                            case rel => exact ⟨_, (false), (by first | rfl | (simp; done) | (simp [*]; done)), H', ⟨by have := HK1.out; have := HJ8.out; have := HJ14.out; have := HJ24.out; have := HJ28.out; first | omega | exact Nat.le_refl _⟩, ⟨by repeat (first | (with_reducible first | exact HB.out | apply below_alloc | apply pw_below_drewN | apply below_drew1) | exact HB.out)⟩⟩
                                        case rest =>
                                          clear HC32
                                          try clear c1
                                          try clear c2
                                          try clear p2
                                          try clear q2
                                          try clear hx2
                                          try clear c3
                                          try clear c5
                                          try clear c5b0
                                          try clear c6
                                          try clear p6
                                          try clear c13
                                          try clear c13b0
                                          try clear c13b1
                                          try clear c14
                                          try clear c16
                                          try clear c16b0
                                          try clear c16b1
                                          try clear c19
                                          try clear c20
                                          try clear c20b0
                                          try clear c20b1
                                          try clear c21
                                          try clear c21b0
                                          try clear c22
                                          try clear c22b0
                                          try clear p23
                                          try clear q23
                                          try clear hx23
                                          try clear c24
                                          try clear c24b0
                                          try clear c24b1
                                          try clear p26
                                          try clear q26
                                          try clear hx26
                                          try clear c27
                                          try clear c27b0
                                          try clear c27b1
                                          try clear c28
                                          try clear c30
                                          try clear c30b0
                                          try clear c30b1
                                          try clear c31
                                          try clear c33
                                          try clear c33b0
                                          try clear c33b1
                                          try clear p2
                                          try clear p23
                                          try clear p26
                                          try clear p6
                                          try clear q2
                                          try clear q23
                                          try clear q26
                                          obtain ⟨kq, x81_31, rfl, HA, HJ31, HB⟩ := hcut
                                          cases kq with
                                          | zero => exact absurd HA.out (by simp [flailref13_Find.j5])
                                          | succ kj31 =>
                                            have H := HA.out
                                            clear HA
                                            simp only [flailref13_Find.j5] at H
                                            by_cases c34 : x81_31 = true
                                            · subst c34
                                              have H1 : (flailref13_Find.l0 kj31 a0 2 0 (wrap64 (x8_1 + 8))) = some (r1, r2) := by rw [if_pos rfl] at H; exact H
                                              clear H
                                              have H := H1
                                              clear H1
                                              have H' := Aside0.mk H
                                              clear H
                                              go_wp2
                                              go_roundg kj31
                                              case measure => have := HK1.out; have := HJ8.out; have := HJ14.out; have := HJ24.out; have := HJ28.out; have := HJ31.out; omega
                                              case rel => exact ⟨(2), (0), (wrap64 (x8_1 + 8)), (by first | rfl | (simp; done) | (simp [*]; done)), (by first | rfl | (simp; done) | (simp [*]; done)), (by first | rfl | (simp; done) | (simp [*]; done)), H', ⟨by have := HK1.out; have := HJ8.out; have := HJ14.out; have := HJ24.out; have := HJ28.out; have := HJ31.out; omega⟩, ⟨by repeat (first | (with_reducible first | exact HB.out | apply below_alloc | apply pw_below_drewN | apply below_drew1) | exact HB.out)⟩⟩
                                            · replace c34 := Bool.eq_false_iff.mpr c34
                                              subst c34
                                              have H1 : (if x6_1 = 2 then (if t122 = true then (flailref13_Find.l0 kj31 a0 1 0 (wrap64 (x8_1 + 9))) else (flailref13_Find.l0 kj31 a0 x6_1 0 (wrap64 (x8_1 + 1)))) else (flailref13_Find.l0 kj31 a0 x6_1 0 (wrap64 (x8_1 + 1)))) = some (r1, r2) := by rw [if_neg (show ¬ (false = true) by decide)] at H; exact H
                                              clear H
                                              have H := H1
                                              clear H1
                                              by_cases c35 : x6_1 = 2
                                              · rw [if_pos c35] at H
                                                have c35b0 : (x6_1 == 2) = true := beq_iff_eq.mpr c35
                                                have c35b1 : (x6_1 != 2) = false := bne_eq_false_iff_eq.mpr c35
                                                clear c35
                                                by_cases c36 : t122 = true
                                                · subst c36
                                                  have H1 : (flailref13_Find.l0 kj31 a0 1 0 (wrap64 (x8_1 + 9))) = some (r1, r2) := by rw [if_pos rfl] at H; exact H
                                                  clear H
                                                  have H := H1
                                                  clear H1
                                                  have H' := Aside0.mk H
                                                  clear H
                                                  go_wp2
                                                  go_roundg kj31
                                                  case measure => have := HK1.out; have := HJ8.out; have := HJ14.out; have := HJ24.out; have := HJ28.out; have := HJ31.out; omega
                                                  case rel => exact ⟨(1), (0), (wrap64 (x8_1 + 9)), (by first | rfl | (simp; done) | (simp [*]; done)), (by first | rfl | (simp; done) | (simp [*]; done)), (by first | rfl | (simp; done) | (simp [*]; done)), H', ⟨by have := HK1.out; have := HJ8.out; have := HJ14.out; have := HJ24.out; have := HJ28.out; have := HJ31.out; omega⟩, ⟨by repeat (first | (with_reducible first | exact HB.out | apply below_alloc | apply pw_below_drewN | apply below_drew1) | exact HB.out)⟩⟩
                                                · replace c36 := Bool.eq_false_iff.mpr c36
                                                  subst c36
                                                  have H1 : (flailref13_Find.l0 kj31 a0 x6_1 0 (wrap64 (x8_1 + 1))) = some (r1, r2) := by rw [if_neg (show ¬ (false = true) by decide)] at H; exact H
                                                  clear H
                                                  have H := H1
                                                  clear H1
                                                  have H' := Aside0.mk H
                                                  clear H
                                                  go_wp2
                                                  go_roundg kj31
                                                  case measure => have := HK1.out; have := HJ8.out; have := HJ14.out; have := HJ24.out; have := HJ28.out; have := HJ31.out; omega
                                                  case rel => exact ⟨(x6_1), (0), (wrap64 (x8_1 + 1)), (by first | rfl | (simp; done) | (simp [*]; done)), (by first | rfl | (simp; done) | (simp [*]; done)), (by first | rfl | (simp; done) | (simp [*]; done)), H', ⟨by have := HK1.out; have := HJ8.out; have := HJ14.out; have := HJ24.out; have := HJ28.out; have := HJ31.out; omega⟩, ⟨by repeat (first | (with_reducible first | exact HB.out | apply below_alloc | apply pw_below_drewN | apply below_drew1) | exact HB.out)⟩⟩
                                              · rw [if_neg c35] at H
                                                have c35b0 : (x6_1 == 2) = false := beq_eq_false_iff_ne.mpr c35
                                                have c35b1 : (x6_1 != 2) = true := bne_iff_ne.mpr c35
                                                have H' := Aside0.mk H
                                                clear H
                                                go_wp2
                                                go_roundg kj31
                                                case measure => have := HK1.out; have := HJ8.out; have := HJ14.out; have := HJ24.out; have := HJ28.out; have := HJ31.out; omega
                                                case rel => exact ⟨(x6_1), (0), (wrap64 (x8_1 + 1)), (by first | rfl | (simp; done) | (simp [*]; done)), (by first | rfl | (simp; done) | (simp [*]; done)), (by first | rfl | (simp; done) | (simp [*]; done)), H', ⟨by have := HK1.out; have := HJ8.out; have := HJ14.out; have := HJ24.out; have := HJ28.out; have := HJ31.out; omega⟩, ⟨by repeat (first | (with_reducible first | exact HB.out | apply below_alloc | apply pw_below_drewN | apply below_drew1) | exact HB.out)⟩⟩
                        · rw [if_neg c22] at H
                          exact absurd H (by simp)
                      · rw [if_neg c21] at H
                        exact absurd H (by simp)
      · rw [if_neg c5] at H
        have c5b0 : decide (x8_1 < (a0.size : Int)) = false := decide_eq_false c5
        clear c5
        simp only [Option.some.injEq, Prod.mk.injEq] at H
        obtain ⟨rfl, rfl⟩ := H
        go_wp2
        go_ret2
        exact ⟨by first | rfl | (simp [errW_none, errW_some] <;> rfl) | (simp only [← hji3, ← hji4]; first | rfl | (simp [errW_none, errW_some] <;> rfl)) | (simp [*, errW_none, errW_some] <;> rfl), by repeat (first | (with_reducible first | exact HB.out | apply below_alloc | apply pw_below_drewN | apply below_drew1) | exact HB.out)⟩

end Go.Proofs.YtppaobgccdlccaaDoor.Sr
