-- Written by a program of this session over the kit's printer: not by hand.
import Derived.Test.YtppaobgccdlccaaDoorSm0
import Derived.Test.YtppaobgccdlccaaDoorSm1
namespace Go.Proofs.YtppaobgccdlccaaDoor.Sm
open Go.RowKit Go.Proofs.YtppaobgccdlccaaDoor.K0  Go.Proofs.YtppaobgccdlccaaDoor.Sr Go.Proofs.YtppaobgccdlccaaDoorW.PrintWords Go.Proofs.YtppaobgccdlccaaDoorW.PrintLast Go.Proofs.YtppaobgccdlccaaDoorW.PrintMore
attribute [local go_sem] max2_int min2_int max_two min_two max_three min_three max_four min_four   -- for this text's walks alone
set_option linter.unusedVariables false
set_option linter.unusedSimpArgs false

/-! ### flailref10_Read: function 38 -/
mutual
def flailref10_Read.j0 : Nat → ByteArray → Int → Option (Int × ByteArray × ByteArray × (List (S88)) × Bool × Int × Bool)
  | 0, _, _ => none
  | k + 1, x0, x10 => flailref10_Read.l0 k x0 x10 x10
def flailref10_Read.l0 : Nat → ByteArray → Int → Int → Option (Int × ByteArray × ByteArray × (List (S88)) × Bool × Int × Bool)
  | 0, _, _, _ => none
  | k + 1, x0, x10, x11 => if x11 < (x0.size : Int) then (if 0 ≤ x11 then (if (bt x0 x11) = 62 then (if 0 ≤ x10 then (if x10 ≤ x11 then (if x11 ≤ (x0.size : Int) then ((flailref02_Clean.f k (x0.extract (x10 : Int).toNat (x11 : Int).toNat)).bind fun t116 => (some (3, (⟨#[]⟩ : ByteArray), t116, ([] : List (S88)), false, wrap64 (x11 + 1), true))) else (none)) else (none)) else (none)) else (flailref10_Read.l0 k x0 x10 (wrap64 (x11 + 1)))) else (none)) else (if 0 ≤ x10 then (if x10 ≤ (x0.size : Int) then ((flailref02_Clean.f k (x0.extract (x10 : Int).toNat x0.size)).bind fun t117 => (some (3, (⟨#[]⟩ : ByteArray), t117, ([] : List (S88)), false, (x0.size : Int), true))) else (none)) else (none))
end
def flailref10_Read.f (k : Nat) (a0 : ByteArray) (a1 : Int) : Option (Int × ByteArray × ByteArray × (List (S88)) × Bool × Int × Bool) := (flailref10_Begins.f k a0 a1).bind fun t111 => (if t111 = true then (if 0 ≤ a1 then (if a1 ≤ (a0.size : Int) then ((flailref01_Begins.f (a0.extract (a1 : Int).toNat a0.size) (⟨#[60, 33, 45, 45]⟩ : ByteArray)).bind fun t112 => (if t112 = true then (if 0 ≤ (wrap64 (a1 + 4)) then (if (wrap64 (a1 + 4)) ≤ (a0.size : Int) then ((flailref10_plain.f k (a0.extract ((wrap64 (a1 + 4)) : Int).toNat a0.size)).bind fun bt113 => ((flailref02_Clean.f k bt113.1).bind fun t115 => (some (3, (⟨#[]⟩ : ByteArray), t115, ([] : List (S88)), false, wrap64 ((wrap64 (a1 + 4)) + bt113.2), true)))) else (none)) else (none)) else (if 0 ≤ (wrap64 (a1 + 1)) then (if (wrap64 (a1 + 1)) < (a0.size : Int) then (if (bt a0 (wrap64 (a1 + 1))) = 63 then (flailref10_Read.j0 k a0 (wrap64 (a1 + 1))) else (flailref10_Read.j0 k a0 (wrap64 (a1 + 2)))) else (none)) else (none)))) else (none)) else (none)) else (some (0, (⟨#[]⟩ : ByteArray), (⟨#[]⟩ : ByteArray), ([] : List (S88)), false, a1, false)))
theorem flailref10_Read.mono_l : ∀ k, (∀ y0 y1, LeO (flailref10_Read.j0 k y0 y1) (flailref10_Read.j0 (k + 1) y0 y1)) ∧ (∀ y0 y1 y2, LeO (flailref10_Read.l0 k y0 y1 y2) (flailref10_Read.l0 (k + 1) y0 y1 y2))
  | 0 => ⟨fun _ _ r h => by simp [flailref10_Read.j0] at h, fun _ _ _ r h => by simp [flailref10_Read.l0] at h⟩
  | k + 1 => by
    obtain ⟨ih0, ih1⟩ := flailref10_Read.mono_l k
    refine ⟨?_, ?_⟩
    · intro y0 y1
      unfold flailref10_Read.j0
      repeat' first
      | (with_reducible exact ih0 _ _)
      | (with_reducible exact ih1 _ _ _)
      | (with_reducible exact flailref02_Clean.mono _ _)
      | (with_reducible exact flailref10_Begins.mono _ _ _)
      | (with_reducible exact flailref10_plain.mono _ _)
      | (with_reducible exact LeO.refl _)
      | (with_reducible exact LeO.none _)
      | (with_reducible refine LeO.ite ?_ ?_)
      | (with_reducible refine LeO.bind ?_ (fun _ => ?_))
      | exact ih0 _ _
      | exact ih1 _ _ _
      | exact flailref02_Clean.mono _ _
      | exact flailref10_Begins.mono _ _ _
      | exact flailref10_plain.mono _ _
      | exact LeO.none _
      | refine LeO.ite ?_ ?_
      | refine LeO.bind ?_ (fun _ => ?_)
    · intro y0 y1 y2
      unfold flailref10_Read.l0
      repeat' first
      | (with_reducible exact ih0 _ _)
      | (with_reducible exact ih1 _ _ _)
      | (with_reducible exact flailref02_Clean.mono _ _)
      | (with_reducible exact flailref10_Begins.mono _ _ _)
      | (with_reducible exact flailref10_plain.mono _ _)
      | (with_reducible exact LeO.refl _)
      | (with_reducible exact LeO.none _)
      | (with_reducible refine LeO.ite ?_ ?_)
      | (with_reducible refine LeO.bind ?_ (fun _ => ?_))
      | exact ih0 _ _
      | exact ih1 _ _ _
      | exact flailref02_Clean.mono _ _
      | exact flailref10_Begins.mono _ _ _
      | exact flailref10_plain.mono _ _
      | exact LeO.none _
      | refine LeO.ite ?_ ?_
      | refine LeO.bind ?_ (fun _ => ?_)
theorem flailref10_Read.mono : ∀ a0 a1 k, LeO (flailref10_Read.f k a0 a1) (flailref10_Read.f (k + 1) a0 a1) := by
  intro a0 a1 k
  obtain ⟨ih0, ih1⟩ := flailref10_Read.mono_l k
  unfold flailref10_Read.f
  repeat' first
      | (with_reducible exact ih0 _ _)
      | (with_reducible exact ih1 _ _ _)
      | (with_reducible exact flailref02_Clean.mono _ _)
      | (with_reducible exact flailref10_Begins.mono _ _ _)
      | (with_reducible exact flailref10_plain.mono _ _)
      | (with_reducible exact LeO.refl _)
      | (with_reducible exact LeO.none _)
      | (with_reducible refine LeO.ite ?_ ?_)
      | (with_reducible refine LeO.bind ?_ (fun _ => ?_))
      | exact ih0 _ _
      | exact ih1 _ _ _
      | exact flailref02_Clean.mono _ _
      | exact flailref10_Begins.mono _ _ _
      | exact flailref10_plain.mono _ _
      | exact LeO.none _
      | refine LeO.ite ?_ ?_
      | refine LeO.bind ?_ (fun _ => ?_)
set_option maxHeartbeats 8000000 in
set_option maxRecDepth 100000 in
theorem flailref10_Read.calls (k : Nat) (a0 : ByteArray) (a1 : Int) (r1 : Int) (r2 : ByteArray) (r3 : ByteArray) (r4 : List (S88)) (r5 : Bool) (r6 : Int) (r7 : Bool) (w : World) (h : flailref10_Read.f k a0 a1 = some (r1, r2, r3, r4, r5, r6, r7)) :
    Calls Tryd.prog 38 #[.string a0, .int .i64 a1] w fun e w' => ∃ v3_ : Value, e = .returned (.tuple #[.agg #[.int .i64 r1, .string r2, .string r3, v3_, .bool r5], .int .i64 r6, .bool r7]) ∧ Kd.R k88 88 w' w.heap.size (fun _ => True) v3_ r4 ∧ Below w.heap.size w w' := by
  have hu35 := Tryd.underlying35
  have HB := Aside0.mk (Below.refl w.heap.size w)
  have H : ((flailref10_Begins.f k a0 a1).bind fun t111 => (if t111 = true then (if 0 ≤ a1 then (if a1 ≤ (a0.size : Int) then ((flailref01_Begins.f (a0.extract (a1 : Int).toNat a0.size) (⟨#[60, 33, 45, 45]⟩ : ByteArray)).bind fun t112 => (if t112 = true then (if 0 ≤ (wrap64 (a1 + 4)) then (if (wrap64 (a1 + 4)) ≤ (a0.size : Int) then ((flailref10_plain.f k (a0.extract ((wrap64 (a1 + 4)) : Int).toNat a0.size)).bind fun bt113 => ((flailref02_Clean.f k bt113.1).bind fun t115 => (some (3, (⟨#[]⟩ : ByteArray), t115, ([] : List (S88)), false, wrap64 ((wrap64 (a1 + 4)) + bt113.2), true)))) else (none)) else (none)) else (if 0 ≤ (wrap64 (a1 + 1)) then (if (wrap64 (a1 + 1)) < (a0.size : Int) then (if (bt a0 (wrap64 (a1 + 1))) = 63 then (flailref10_Read.j0 k a0 (wrap64 (a1 + 1))) else (flailref10_Read.j0 k a0 (wrap64 (a1 + 2)))) else (none)) else (none)))) else (none)) else (none)) else (some (0, (⟨#[]⟩ : ByteArray), (⟨#[]⟩ : ByteArray), ([] : List (S88)), false, a1, false)))) = some (r1, r2, r3, r4, r5, r6, r7) := h
  clear h
  replace H := Option.bind_eq_some_iff.mp H
  obtain ⟨t111, A30, H⟩ := H
  replace H : (if t111 = true then (if 0 ≤ a1 then (if a1 ≤ (a0.size : Int) then ((flailref01_Begins.f (a0.extract (a1 : Int).toNat a0.size) (⟨#[60, 33, 45, 45]⟩ : ByteArray)).bind fun t112 => (if t112 = true then (if 0 ≤ (wrap64 (a1 + 4)) then (if (wrap64 (a1 + 4)) ≤ (a0.size : Int) then ((flailref10_plain.f k (a0.extract ((wrap64 (a1 + 4)) : Int).toNat a0.size)).bind fun bt113 => ((flailref02_Clean.f k bt113.1).bind fun t115 => (some (3, (⟨#[]⟩ : ByteArray), t115, ([] : List (S88)), false, wrap64 ((wrap64 (a1 + 4)) + bt113.2), true)))) else (none)) else (none)) else (if 0 ≤ (wrap64 (a1 + 1)) then (if (wrap64 (a1 + 1)) < (a0.size : Int) then (if (bt a0 (wrap64 (a1 + 1))) = 63 then (flailref10_Read.j0 k a0 (wrap64 (a1 + 1))) else (flailref10_Read.j0 k a0 (wrap64 (a1 + 2)))) else (none)) else (none)))) else (none)) else (none)) else (some (0, (⟨#[]⟩ : ByteArray), (⟨#[]⟩ : ByteArray), ([] : List (S88)), false, a1, false))) = some (r1, r2, r3, r4, r5, r6, r7) := H
  have A3 := Aside0.mk A30
  clear A30
  by_cases c4 : t111 = true
  · subst c4
    have H1 : (if 0 ≤ a1 then (if a1 ≤ (a0.size : Int) then ((flailref01_Begins.f (a0.extract (a1 : Int).toNat a0.size) (⟨#[60, 33, 45, 45]⟩ : ByteArray)).bind fun t112 => (if t112 = true then (if 0 ≤ (wrap64 (a1 + 4)) then (if (wrap64 (a1 + 4)) ≤ (a0.size : Int) then ((flailref10_plain.f k (a0.extract ((wrap64 (a1 + 4)) : Int).toNat a0.size)).bind fun bt113 => ((flailref02_Clean.f k bt113.1).bind fun t115 => (some (3, (⟨#[]⟩ : ByteArray), t115, ([] : List (S88)), false, wrap64 ((wrap64 (a1 + 4)) + bt113.2), true)))) else (none)) else (none)) else (if 0 ≤ (wrap64 (a1 + 1)) then (if (wrap64 (a1 + 1)) < (a0.size : Int) then (if (bt a0 (wrap64 (a1 + 1))) = 63 then (flailref10_Read.j0 k a0 (wrap64 (a1 + 1))) else (flailref10_Read.j0 k a0 (wrap64 (a1 + 2)))) else (none)) else (none)))) else (none)) else (none)) = some (r1, r2, r3, r4, r5, r6, r7) := by rw [if_pos rfl] at H; exact H
    clear H
    have H := H1
    clear H1
    by_cases c5 : 0 ≤ a1
    · rw [if_pos c5] at H
      have c5b0 := eq_true c5
      have c5b1 : decide (0 ≤ a1) = true := decide_eq_true c5
      clear c5
      by_cases c6 : a1 ≤ (a0.size : Int)
      · rw [if_pos c6] at H
        have c6b0 := eq_true c6
        have c6b1 : decide (a1 ≤ (a0.size : Int)) = true := decide_eq_true c6
        clear c6
        replace H := Option.bind_eq_some_iff.mp H
        obtain ⟨t112, A70, H⟩ := H
        replace H : (if t112 = true then (if 0 ≤ (wrap64 (a1 + 4)) then (if (wrap64 (a1 + 4)) ≤ (a0.size : Int) then ((flailref10_plain.f k (a0.extract ((wrap64 (a1 + 4)) : Int).toNat a0.size)).bind fun bt113 => ((flailref02_Clean.f k bt113.1).bind fun t115 => (some (3, (⟨#[]⟩ : ByteArray), t115, ([] : List (S88)), false, wrap64 ((wrap64 (a1 + 4)) + bt113.2), true)))) else (none)) else (none)) else (if 0 ≤ (wrap64 (a1 + 1)) then (if (wrap64 (a1 + 1)) < (a0.size : Int) then (if (bt a0 (wrap64 (a1 + 1))) = 63 then (flailref10_Read.j0 k a0 (wrap64 (a1 + 1))) else (flailref10_Read.j0 k a0 (wrap64 (a1 + 2)))) else (none)) else (none))) = some (r1, r2, r3, r4, r5, r6, r7) := H
        have A7 := Aside0.mk A70
        clear A70
        by_cases c8 : t112 = true
        · subst c8
          have H1 : (if 0 ≤ (wrap64 (a1 + 4)) then (if (wrap64 (a1 + 4)) ≤ (a0.size : Int) then ((flailref10_plain.f k (a0.extract ((wrap64 (a1 + 4)) : Int).toNat a0.size)).bind fun bt113 => ((flailref02_Clean.f k bt113.1).bind fun t115 => (some (3, (⟨#[]⟩ : ByteArray), t115, ([] : List (S88)), false, wrap64 ((wrap64 (a1 + 4)) + bt113.2), true)))) else (none)) else (none)) = some (r1, r2, r3, r4, r5, r6, r7) := by rw [if_pos rfl] at H; exact H
          clear H
          have H := H1
          clear H1
          obtain ⟨ji9, hji9⟩ : ∃ j_ : Int, (wrap64 (a1 + 4)) = j_ := ⟨_, rfl⟩
          replace H : (if 0 ≤ (ji9) then (if (ji9) ≤ (a0.size : Int) then ((flailref10_plain.f k (a0.extract ((ji9) : Int).toNat a0.size)).bind fun bt113 => ((flailref02_Clean.f k bt113.1).bind fun t115 => (some (3, (⟨#[]⟩ : ByteArray), t115, ([] : List (S88)), false, wrap64 ((ji9) + bt113.2), true)))) else (none)) else (none)) = some (r1, r2, r3, r4, r5, r6, r7) := by first | (rw [hji9] at H; exact H) | (simp only [hji9] at H ⊢; exact H)
          (try rw [hji9] at A3)
          (try rw [hji9] at A7)
          have hji9w : (IntKind.i64.wrap (a1 + 4)) = ji9 := (i64_w _).trans hji9
          by_cases c10 : 0 ≤ (ji9)
          · rw [if_pos c10] at H
            have c10b0 := eq_true c10
            have c10b1 : decide (0 ≤ (ji9)) = true := decide_eq_true c10
            clear c10
            by_cases c11 : (ji9) ≤ (a0.size : Int)
            · rw [if_pos c11] at H
              have c11b0 := eq_true c11
              have c11b1 : decide ((ji9) ≤ (a0.size : Int)) = true := decide_eq_true c11
              clear c11
              replace H := Option.bind_eq_some_iff.mp H
              obtain ⟨⟨t113, t114⟩, A120, H⟩ := H
              replace H : ((flailref02_Clean.f k t113).bind fun t115 => (some (3, (⟨#[]⟩ : ByteArray), t115, ([] : List (S88)), false, wrap64 ((ji9) + t114), true))) = some (r1, r2, r3, r4, r5, r6, r7) := H
              have A12 := Aside0.mk A120
              clear A120
              replace H := Option.bind_eq_some_iff.mp H
              obtain ⟨t115, A130, H⟩ := H
              replace H : (some (3, (⟨#[]⟩ : ByteArray), t115, ([] : List (S88)), false, wrap64 ((ji9) + t114), true)) = some (r1, r2, r3, r4, r5, r6, r7) := H
              have A13 := Aside0.mk A130
              clear A130
              simp only [Option.some.injEq, Prod.mk.injEq] at H
              obtain ⟨rfl, rfl, rfl, rfl, rfl, rfl, rfl⟩ := H
              go_enter Tryd.func38, Tryd.ntmps38
              go_wp2_with (first | ((with_reducible refine gate_dst (N := 4) rfl ?_); refine box_event ?hg (N := 4) ?hd (cs := #[.int .i64 0, .string (⟨#[]⟩ : ByteArray), .string (⟨#[]⟩ : ByteArray), .slice none 0 0, .bool false]) (t := 35) ?hr ?_; (case hd => rfl); (case hg => rfl); (case hr => first | (go_simp; done) | (go_simp; rfl)); intro gb110 hg w14 hbox hb; have n0_ := Aside0.mk (below_step (by repeat (first | (with_reducible first | exact HB.out | apply below_alloc | apply pw_below_drewN | apply below_drew1) | exact HB.out)) hb); have n1_ := Aside0.mk (hbox); have n2_ := Aside0.mk ((by rw [hg]; exact (below_size (by repeat (first | (with_reducible first | exact HB.out | apply below_alloc | apply pw_below_drewN | apply below_drew1) | exact HB.out))) : w.heap.size ≤ gb110)); have n3_ := Aside0.mk ((by rw [hg]; exact (below_size (by repeat (first | (with_reducible first | exact HB.out | apply below_alloc | apply pw_below_drewN | apply below_drew1) | exact HB.out))) : w.heap.size ≤ gb110)); clear HB; have HB := n0_; have BK110 := n1_; have GW110 := n2_; have GE110 := n3_; clear n0_ n1_ n2_ n3_; clear hb hbox hg) | ((with_reducible refine gate_callee (f := 41) rfl ?_); refine goesL_ (some 14) rfl rfl Tryd.func41 (by kernel_rfl) rfl #[.string a0, .int .i64 a1] rfl (by (try simp only [List.map_toArray, List.map_cons, List.map_nil]); first | done | rfl | (simp only [List.length_drop, List.length_take]; rfl)) ?_; (with_reducible refine (flailref10_Begins.calls k a0 a1 true _ A3.out).mono ?_); rintro e w15 ⟨rfl, hb⟩; refine ⟨_, rfl, ?_⟩; have n0_ := Aside0.mk (blk_below (g := gb110) (o := .cells #[.int .i64 0, .string (⟨#[]⟩ : ByteArray), .string (⟨#[]⟩ : ByteArray), .slice none 0 0, .bool false] 35 (0, 0)) (by (with_reducible repeat (first | refine blk_drewN ?_ _ | refine blk_drew ?_ | refine blk_alloc ?_ _)); exact BK110.out) hb); have n1_ := Aside0.mk (below_step (by repeat (first | (with_reducible first | exact HB.out | apply below_alloc | apply pw_below_drewN | apply below_drew1 | refine below_set ?_ GE110.out) | exact HB.out)) hb); clear BK110; clear HB; have BK110 := n0_; have HB := n1_; clear n0_ n1_; (try clear hb); (try clear hb2); (try clear hk); (try clear hi)) | ((with_reducible refine gate_callee (f := 66) rfl ?_); refine goesL_ (some 22) rfl rfl Tryd.func66 (by kernel_rfl) rfl #[.string (a0.extract (a1 : Int).toNat a0.size), .string (⟨#[60, 33, 45, 45]⟩ : ByteArray)] rfl (by (try simp only [List.map_toArray, List.map_cons, List.map_nil]); first | done | rfl | (simp only [List.length_drop, List.length_take]; rfl)) ?_; (with_reducible refine (flailref01_Begins.calls (a0.extract (a1 : Int).toNat a0.size) (⟨#[60, 33, 45, 45]⟩ : ByteArray) true _ A7.out).mono ?_); rintro e w' ⟨rfl, ⟨nd, rfl⟩⟩; refine ⟨_, rfl, ?_⟩; (try (rw [drewN_self w15]; generalize hq_ : World.drewN w15 _ = w15; have n0_ : Aside0 (w15.heap[gb110]? = some (.cells #[.int .i64 0, .string (⟨#[]⟩ : ByteArray), .string (⟨#[]⟩ : ByteArray), .slice none 0 0, .bool false] 35 (0, 0))) := ⟨by rw [← hq_]; exact (by (with_reducible repeat (first | refine blk_drewN ?_ _ | refine blk_drew ?_ | refine blk_alloc ?_ _)); exact BK110.out)⟩; have n1_ : Aside0 (Below w.heap.size w w15) := ⟨by rw [← hq_]; exact (by repeat (first | (with_reducible first | exact HB.out | apply below_alloc | apply pw_below_drewN | apply below_drew1 | refine below_set ?_ GE110.out) | exact HB.out))⟩; clear BK110 HB hq_; have BK110 := n0_; have HB := n1_; clear n0_ n1_))) | ((with_reducible refine gate_callee (f := 67) rfl ?_); refine goesL_ (some 28) rfl rfl Tryd.func67 (by kernel_rfl) rfl #[.string (a0.extract ((ji9) : Int).toNat a0.size)] rfl (by (try simp only [List.map_toArray, List.map_cons, List.map_nil]); first | done | (simp only [hji9]; rfl) | rfl | (simp only [List.length_drop, List.length_take]; rfl)) ?_; (with_reducible refine (flailref10_plain.calls k (a0.extract ((ji9) : Int).toNat a0.size) t113 t114 _ A12.out).mono ?_); rintro e w' ⟨rfl, ⟨nd, rfl⟩⟩; refine ⟨_, rfl, ?_⟩; (try (rw [drewN_self w15]; generalize hq_ : World.drewN w15 _ = w15; have n0_ : Aside0 (w15.heap[gb110]? = some (.cells #[.int .i64 0, .string (⟨#[]⟩ : ByteArray), .string (⟨#[]⟩ : ByteArray), .slice none 0 0, .bool false] 35 (0, 0))) := ⟨by rw [← hq_]; exact (by (with_reducible repeat (first | refine blk_drewN ?_ _ | refine blk_drew ?_ | refine blk_alloc ?_ _)); exact BK110.out)⟩; have n1_ : Aside0 (Below w.heap.size w w15) := ⟨by rw [← hq_]; exact (by repeat (first | (with_reducible first | exact HB.out | apply below_alloc | apply pw_below_drewN | apply below_drew1 | refine below_set ?_ GE110.out) | exact HB.out))⟩; clear BK110 HB hq_; have BK110 := n0_; have HB := n1_; clear n0_ n1_))) | ((with_reducible refine gate_callee (f := 30) rfl ?_); refine goesL_ (some 32) rfl rfl Tryd.func30 (by kernel_rfl) rfl #[.string t113] rfl (by (try simp only [List.map_toArray, List.map_cons, List.map_nil]); first | done | rfl | (simp only [List.length_drop, List.length_take]; rfl)) ?_; (with_reducible refine (flailref02_Clean.calls k t113 t115 _ A13.out).mono ?_); rintro e w' ⟨rfl, ⟨nd, rfl⟩⟩; refine ⟨_, rfl, ?_⟩; (try (rw [drewN_self w15]; generalize hq_ : World.drewN w15 _ = w15; have n0_ : Aside0 (w15.heap[gb110]? = some (.cells #[.int .i64 0, .string (⟨#[]⟩ : ByteArray), .string (⟨#[]⟩ : ByteArray), .slice none 0 0, .bool false] 35 (0, 0))) := ⟨by rw [← hq_]; exact (by (with_reducible repeat (first | refine blk_drewN ?_ _ | refine blk_drew ?_ | refine blk_alloc ?_ _)); exact BK110.out)⟩; have n1_ : Aside0 (Below w.heap.size w w15) := ⟨by rw [← hq_]; exact (by repeat (first | (with_reducible first | exact HB.out | apply below_alloc | apply pw_below_drewN | apply below_drew1 | refine below_set ?_ GE110.out) | exact HB.out))⟩; clear BK110 HB hq_; have BK110 := n0_; have HB := n1_; clear n0_ n1_)); have hcz16_0 : w15.cell? ⟨gb110, 0, none⟩ = some (.int .i64 0) := (blk_cell BK110.out 0).trans rfl; have hcz16_1 : w15.cell? ⟨gb110, 1, none⟩ = some (.string (⟨#[]⟩ : ByteArray)) := (blk_cell BK110.out 1).trans rfl; have hcz16_2 : w15.cell? ⟨gb110, 2, none⟩ = some (.string (⟨#[]⟩ : ByteArray)) := (blk_cell BK110.out 2).trans rfl; have hcz16_3 : w15.cell? ⟨gb110, 3, none⟩ = some (.slice none 0 0) := (blk_cell BK110.out 3).trans rfl; have hcz16_4 : w15.cell? ⟨gb110, 4, none⟩ = some (.bool false) := (blk_cell BK110.out 4).trans rfl; have hfz16_0 := blk_frozen BK110.out 0; have hfz16_1 := blk_frozen BK110.out 1; have hfz16_2 := blk_frozen BK110.out 2; have hfz16_3 := blk_frozen BK110.out 3; have hfz16_4 := blk_frozen BK110.out 4))
              refine bodyPost_ret (results_ctt rfl _ _ gb110 35 #[.int .i64 3, .string (⟨#[]⟩ : ByteArray), .string t115, .slice none 0 0, .bool false] (0, 0) _ rfl (by (with_reducible repeat (first | refine blk_drewN ?_ _ | refine blk_drew ?_ | refine blk_alloc ?_ _)); refine blk_put (cs := #[.int .i64 3, .string (⟨#[]⟩ : ByteArray), .string t115, .slice none 0 0, .bool false]) ?_ 4 _ rfl; (with_reducible repeat (first | refine blk_drewN ?_ _ | refine blk_drew ?_ | refine blk_alloc ?_ _)); refine blk_put (cs := #[.int .i64 3, .string (⟨#[]⟩ : ByteArray), .string t115, .slice none 0 0, .bool false]) ?_ 3 _ rfl; (with_reducible repeat (first | refine blk_drewN ?_ _ | refine blk_drew ?_ | refine blk_alloc ?_ _)); refine blk_put (cs := #[.int .i64 3, .string (⟨#[]⟩ : ByteArray), .string (⟨#[]⟩ : ByteArray), .slice none 0 0, .bool false]) ?_ 2 _ rfl; (with_reducible repeat (first | refine blk_drewN ?_ _ | refine blk_drew ?_ | refine blk_alloc ?_ _)); refine blk_put (cs := #[.int .i64 3, .string (⟨#[]⟩ : ByteArray), .string (⟨#[]⟩ : ByteArray), .slice none 0 0, .bool false]) ?_ 1 _ rfl; (with_reducible repeat (first | refine blk_drewN ?_ _ | refine blk_drew ?_ | refine blk_alloc ?_ _)); refine blk_put (cs := #[.int .i64 0, .string (⟨#[]⟩ : ByteArray), .string (⟨#[]⟩ : ByteArray), .slice none 0 0, .bool false]) ?_ 0 _ rfl; (with_reducible repeat (first | refine blk_drewN ?_ _ | refine blk_drew ?_ | refine blk_alloc ?_ _)); exact BK110.out) Tryd.underlying35 rfl (by kernel_rfl)) rfl ?_
              exact ⟨_, by first | rfl | (simp [errW_none, errW_some] <;> rfl) | (simp only [← hji9]; first | rfl | (simp [errW_none, errW_some] <;> rfl)) | (simp [*, errW_none, errW_some] <;> rfl), by first | exact Kd.R_nil _ _ _ _ _ | exact Kd.N_nil _ _ _ _ _ | exact Kd.V_nil _ _ _ _ _ | exact Kd.Q_nil _ _ _ _ _ | exact Kd.S_nil _ _ _ _ _, by repeat (first | (with_reducible first | exact HB.out | apply below_alloc | apply pw_below_drewN | apply below_drew1 | refine below_set ?_ GE110.out) | exact HB.out)⟩
            · rw [if_neg c11] at H
              exact absurd H (by simp)
          · rw [if_neg c10] at H
            exact absurd H (by simp)
        · replace c8 := Bool.eq_false_iff.mpr c8
          subst c8
          have H1 : (if 0 ≤ (wrap64 (a1 + 1)) then (if (wrap64 (a1 + 1)) < (a0.size : Int) then (if (bt a0 (wrap64 (a1 + 1))) = 63 then (flailref10_Read.j0 k a0 (wrap64 (a1 + 1))) else (flailref10_Read.j0 k a0 (wrap64 (a1 + 2)))) else (none)) else (none)) = some (r1, r2, r3, r4, r5, r6, r7) := by rw [if_neg (show ¬ (false = true) by decide)] at H; exact H
          clear H
          have H := H1
          clear H1
          obtain ⟨ji17, hji17⟩ : ∃ j_ : Int, (wrap64 (a1 + 1)) = j_ := ⟨_, rfl⟩
          replace H : (if 0 ≤ (ji17) then (if (ji17) < (a0.size : Int) then (if (bt a0 (ji17)) = 63 then (flailref10_Read.j0 k a0 ji17) else (flailref10_Read.j0 k a0 (wrap64 (a1 + 2)))) else (none)) else (none)) = some (r1, r2, r3, r4, r5, r6, r7) := by first | (rw [hji17] at H; exact H) | (simp only [hji17] at H ⊢; exact H)
          (try rw [hji17] at A3)
          (try rw [hji17] at A7)
          have hji17w : (IntKind.i64.wrap (a1 + 1)) = ji17 := (i64_w _).trans hji17
          by_cases c18 : 0 ≤ (ji17)
          · rw [if_pos c18] at H
            have c18b0 : decide (0 ≤ (ji17)) = true := decide_eq_true c18
            clear c18
            by_cases c19 : (ji17) < (a0.size : Int)
            · rw [if_pos c19] at H
              have c19b0 : decide ((ji17) < (a0.size : Int)) = true := decide_eq_true c19
              clear c19
              have HC21 := Aside0.mk H
              clear H
              go_enter Tryd.func38, Tryd.ntmps38
              go_upto_if 44 with (first | ((with_reducible refine gate_dst (N := 4) rfl ?_); refine box_event ?hg (N := 4) ?hd (cs := #[.int .i64 0, .string (⟨#[]⟩ : ByteArray), .string (⟨#[]⟩ : ByteArray), .slice none 0 0, .bool false]) (t := 35) ?hr ?_; (case hd => rfl); (case hg => rfl); (case hr => first | (go_simp; done) | (go_simp; rfl)); intro gb110 hg w22 hbox hb; have n0_ := Aside0.mk (below_step (by repeat (first | (with_reducible first | exact HB.out | apply below_alloc | apply pw_below_drewN | apply below_drew1) | exact HB.out)) hb); have n1_ := Aside0.mk (hbox); have n2_ := Aside0.mk ((by rw [hg]; exact (below_size (by repeat (first | (with_reducible first | exact HB.out | apply below_alloc | apply pw_below_drewN | apply below_drew1) | exact HB.out))) : w.heap.size ≤ gb110)); have n3_ := Aside0.mk ((by rw [hg]; exact (below_size (by repeat (first | (with_reducible first | exact HB.out | apply below_alloc | apply pw_below_drewN | apply below_drew1) | exact HB.out))) : w.heap.size ≤ gb110)); clear HB; have HB := n0_; have BK110 := n1_; have GW110 := n2_; have GE110 := n3_; clear n0_ n1_ n2_ n3_; clear hb hbox hg) | ((with_reducible refine gate_callee (f := 41) rfl ?_); refine goesL_ (some 14) rfl rfl Tryd.func41 (by kernel_rfl) rfl #[.string a0, .int .i64 a1] rfl (by (try simp only [List.map_toArray, List.map_cons, List.map_nil]); first | done | rfl | (simp only [List.length_drop, List.length_take]; rfl)) ?_; (with_reducible refine (flailref10_Begins.calls k a0 a1 true _ A3.out).mono ?_); rintro e w23 ⟨rfl, hb⟩; refine ⟨_, rfl, ?_⟩; have n0_ := Aside0.mk (blk_below (g := gb110) (o := .cells #[.int .i64 0, .string (⟨#[]⟩ : ByteArray), .string (⟨#[]⟩ : ByteArray), .slice none 0 0, .bool false] 35 (0, 0)) (by (with_reducible repeat (first | refine blk_drewN ?_ _ | refine blk_drew ?_ | refine blk_alloc ?_ _)); exact BK110.out) hb); have n1_ := Aside0.mk (below_step (by repeat (first | (with_reducible first | exact HB.out | apply below_alloc | apply pw_below_drewN | apply below_drew1 | refine below_set ?_ GE110.out) | exact HB.out)) hb); clear BK110; clear HB; have BK110 := n0_; have HB := n1_; clear n0_ n1_; (try clear hb); (try clear hb2); (try clear hk); (try clear hi)) | ((with_reducible refine gate_callee (f := 66) rfl ?_); refine goesL_ (some 22) rfl rfl Tryd.func66 (by kernel_rfl) rfl #[.string (a0.extract (a1 : Int).toNat a0.size), .string (⟨#[60, 33, 45, 45]⟩ : ByteArray)] rfl (by (try simp only [List.map_toArray, List.map_cons, List.map_nil]); first | done | rfl | (simp only [List.length_drop, List.length_take]; rfl)) ?_; (with_reducible refine (flailref01_Begins.calls (a0.extract (a1 : Int).toNat a0.size) (⟨#[60, 33, 45, 45]⟩ : ByteArray) false _ A7.out).mono ?_); rintro e w' ⟨rfl, ⟨nd, rfl⟩⟩; refine ⟨_, rfl, ?_⟩; have p20 : 0 ≤ ((ji17) : Int) := of_decide_eq_true (by first | (with_reducible assumption) | assumption); have q20 : (ji17) < (a0.size : Int) := of_decide_eq_true (by first | (with_reducible assumption) | assumption); have hx20 := bt_at a0 (ji17); replace p20 := eq_true p20; replace q20 := eq_true q20))
              (try simp only [Act.put, List.setIfInBounds_toArray, List.set_cons_zero, List.set_cons_succ])
              go_cut [10] (fun v10 wc => ∃ (kq : Nat) (x10_20 : Int), v10 = .int .i64 x10_20 ∧ Aside0 (flailref10_Read.j0 kq a0 x10_20 = some (r1, r2, r3, r4, r5, r6, r7)) ∧ Aside0 (kq ≤ k) ∧ Aside0 (wc.heap[gb110]? = some (.cells #[.int .i64 0, .string (⟨#[]⟩ : ByteArray), .string (⟨#[]⟩ : ByteArray), (.slice none 0 0), .bool false] 35 (0, 0))) ∧ Aside0 (Below w.heap.size w wc))
              case first =>
                have H := HC21.out
                clear HC21
                by_cases c24 : (bt a0 (ji17)) = 63
                · rw [if_pos c24] at H
                  have c24b0 : ((bt a0 (ji17)) == 63) = true := beq_iff_eq.mpr c24
                  have c24b1 : ((bt a0 (ji17)) != 63) = false := bne_eq_false_iff_eq.mpr c24
                  clear c24
                  (first | rw [c24b0] | (simp only [i64_w, i32_w]; rw [c24b0]) | skip)
                  have H' := Aside0.mk H
                  clear H
                  go_wp2
                  go_meet
                  case rel => exact ⟨_, (ji17), (by first | rfl | (simp; done) | (simp only [← hji17] <;> (first | rfl | simp)) | (simp [*]; done)), H', ⟨by first | omega | exact Nat.le_refl _⟩, ⟨by (with_reducible repeat (first | refine blk_drewN ?_ _ | refine blk_drew ?_ | refine blk_alloc ?_ _)); exact BK110.out⟩, ⟨by repeat (first | (with_reducible first | exact HB.out | apply below_alloc | apply pw_below_drewN | apply below_drew1 | refine below_set ?_ GE110.out) | exact HB.out)⟩⟩
                · rw [if_neg c24] at H
                  have c24b0 : ((bt a0 (ji17)) == 63) = false := beq_eq_false_iff_ne.mpr c24
                  have c24b1 : ((bt a0 (ji17)) != 63) = true := bne_iff_ne.mpr c24
                  (first | rw [c24b0] | (simp only [i64_w, i32_w]; rw [c24b0]) | skip)
                  have H' := Aside0.mk H
                  clear H
                  go_wp2
                  go_meet
                  case rel => exact ⟨_, (wrap64 (a1 + 2)), (by first | rfl | (simp; done) | (simp [*]; done)), H', ⟨by first | omega | exact Nat.le_refl _⟩, ⟨by (with_reducible repeat (first | refine blk_drewN ?_ _ | refine blk_drew ?_ | refine blk_alloc ?_ _)); exact BK110.out⟩, ⟨by repeat (first | (with_reducible first | exact HB.out | apply below_alloc | apply pw_below_drewN | apply below_drew1 | refine below_set ?_ GE110.out) | exact HB.out)⟩⟩
              case rest =>
                clear HC21
                try clear c1
                try clear c2
                try clear p2
                try clear q2
                try clear hx2
                try clear c3
                try clear c4
                try clear c5
                try clear c5b0
                try clear c5b1
                try clear c6
                try clear c6b0
                try clear c6b1
                try clear p6
                try clear c8
                try clear c10
                try clear c10b0
                try clear c10b1
                try clear c11
                try clear c11b0
                try clear c11b1
                try clear c18
                try clear c18b0
                try clear c19
                try clear c19b0
                try clear p20
                try clear q20
                try clear hx20
                try clear c24
                try clear c24b0
                try clear c24b1
                try clear hcz16_0
                try clear hcz16_1
                try clear hcz16_2
                try clear hcz16_3
                try clear hcz16_4
                try clear hfz16_0
                try clear hfz16_1
                try clear hfz16_2
                try clear hfz16_3
                try clear hfz16_4
                try clear p20
                try clear q20
                obtain ⟨kq, x10_20, rfl, HA, HJ20, BK110, HB⟩ := hcut
                cases kq with
                | zero => exact absurd HA.out (by simp [flailref10_Read.j0])
                | succ kj20 =>
                  have H := HA.out
                  clear HA
                  simp only [flailref10_Read.j0] at H
                  have H' := Aside0.mk H
                  clear H
                  go_wp2
                  go_loopg [11] kj20 (fun kq v11 w' => ∃ (x11_2 : Int) (x111000_2 : Int) (x111001_2 : ByteArray) (x111002_2 : ByteArray) (x111004_2 : Bool), v11 = .int .i64 x11_2 ∧ Aside0 (flailref10_Read.l0 kq a0 x10_20 x11_2 = some (r1, r2, r3, r4, r5, r6, r7)) ∧ Aside0 (kq ≤ kj20) ∧ Aside0 (w'.heap[gb110]? = some (.cells #[.int .i64 x111000_2, .string x111001_2, .string x111002_2, (.slice none 0 0), .bool x111004_2] 35 (0, 0))) ∧ Aside0 (Below w.heap.size w w'))
                  case atStart => exact ⟨(x10_20), (0), ((⟨#[]⟩ : ByteArray)), ((⟨#[]⟩ : ByteArray)), (false), (by first | rfl | (simp; done) | (simp [*]; done)), H', ⟨Nat.le_refl _⟩, ⟨by (with_reducible repeat (first | refine blk_drewN ?_ _ | refine blk_drew ?_ | refine blk_alloc ?_ _)); exact BK110.out⟩, ⟨by repeat (first | (with_reducible first | exact HB.out | apply below_alloc | apply pw_below_drewN | apply below_drew1 | refine below_set ?_ GE110.out) | exact HB.out)⟩⟩
                  case round =>
                    clear H'
                    try clear c1
                    try clear c2
                    try clear p2
                    try clear q2
                    try clear hx2
                    try clear c3
                    try clear c4
                    try clear c5
                    try clear c5b0
                    try clear c5b1
                    try clear c6
                    try clear c6b0
                    try clear c6b1
                    try clear p6
                    try clear c8
                    try clear c10
                    try clear c10b0
                    try clear c10b1
                    try clear c11
                    try clear c11b0
                    try clear c11b1
                    try clear c18
                    try clear c18b0
                    try clear c19
                    try clear c19b0
                    try clear p20
                    try clear q20
                    try clear hx20
                    try clear c24
                    try clear c24b0
                    try clear c24b1
                    try clear hcz16_0
                    try clear hcz16_1
                    try clear hcz16_2
                    try clear hcz16_3
                    try clear hcz16_4
                    try clear hfz16_0
                    try clear hfz16_1
                    try clear hfz16_2
                    try clear hfz16_3
                    try clear hfz16_4
                    try clear p2
                    try clear p20
                    try clear p6
                    try clear q2
                    try clear q20
                    obtain ⟨x11_2, x111000_2, x111001_2, x111002_2, x111004_2, rfl, HA, HK2, BK110, HB⟩ := hrel
                    cases gk with
                    | zero => exact absurd HA.out (by simp [flailref10_Read.l0])
                    | succ k2 =>
                      have H := HA.out
                      clear HA
                      simp only [flailref10_Read.l0] at H
                      by_cases c25 : x11_2 < (a0.size : Int)
                      · rw [if_pos c25] at H
                        have c25b0 : decide (x11_2 < (a0.size : Int)) = true := decide_eq_true c25
                        clear c25
                        by_cases c26 : 0 ≤ x11_2
                        · rw [if_pos c26] at H
                          have c26b0 : decide (0 ≤ x11_2) = true := decide_eq_true c26
                          clear c26
                          by_cases c28 : (bt a0 x11_2) = 62
                          · rw [if_pos c28] at H
                            have c28b0 : ((bt a0 x11_2) == 62) = true := beq_iff_eq.mpr c28
                            have c28b1 : ((bt a0 x11_2) != 62) = false := bne_eq_false_iff_eq.mpr c28
                            clear c28
                            by_cases c29 : 0 ≤ x10_20
                            · rw [if_pos c29] at H
                              have c29b0 := eq_true c29
                              have c29b1 : decide (0 ≤ x10_20) = true := decide_eq_true c29
                              clear c29
                              by_cases c30 : x10_20 ≤ x11_2
                              · rw [if_pos c30] at H
                                have c30b0 := eq_true c30
                                have c30b1 : decide (x10_20 ≤ x11_2) = true := decide_eq_true c30
                                clear c30
                                by_cases c31 : x11_2 ≤ (a0.size : Int)
                                · rw [if_pos c31] at H
                                  have c31b0 := eq_true c31
                                  have c31b1 : decide (x11_2 ≤ (a0.size : Int)) = true := decide_eq_true c31
                                  clear c31
                                  replace H := Option.bind_eq_some_iff.mp H
                                  obtain ⟨t116, A320, H⟩ := H
                                  replace H : (some (3, (⟨#[]⟩ : ByteArray), t116, ([] : List (S88)), false, wrap64 (x11_2 + 1), true)) = some (r1, r2, r3, r4, r5, r6, r7) := H
                                  have A32 := Aside0.mk A320
                                  clear A320
                                  simp only [Option.some.injEq, Prod.mk.injEq] at H
                                  obtain ⟨rfl, rfl, rfl, rfl, rfl, rfl, rfl⟩ := H
                                  have p27 : 0 ≤ (x11_2 : Int) := of_decide_eq_true (by first | (with_reducible assumption) | assumption)
                                  have q27 : x11_2 < (a0.size : Int) := of_decide_eq_true (by first | (with_reducible assumption) | assumption)
                                  have hx27 := bt_at a0 x11_2
                                  replace p27 := eq_true p27
                                  replace q27 := eq_true q27
                                  go_wp2_with (first | ((with_reducible refine gate_callee (f := 30) rfl ?_); refine goesL_ (some 60) rfl rfl Tryd.func30 (by kernel_rfl) rfl #[.string (a0.extract (x10_20 : Int).toNat (x11_2 : Int).toNat)] rfl (by (try simp only [List.map_toArray, List.map_cons, List.map_nil]); first | done | rfl | (simp only [List.length_drop, List.length_take]; rfl)) ?_; (with_reducible refine (flailref02_Clean.calls k2 (a0.extract (x10_20 : Int).toNat (x11_2 : Int).toNat) t116 _ A32.out).mono ?_); rintro e w' ⟨rfl, ⟨nd, rfl⟩⟩; refine ⟨_, rfl, ?_⟩; (try (rw [drewN_self wr]; generalize hq_ : World.drewN wr _ = wr; have n0_ : Aside0 (wr.heap[gb110]? = some (.cells #[.int .i64 x111000_2, .string x111001_2, .string x111002_2, .slice none 0 0, .bool x111004_2] 35 (0, 0))) := ⟨by rw [← hq_]; exact (by (with_reducible repeat (first | refine blk_drewN ?_ _ | refine blk_drew ?_ | refine blk_alloc ?_ _)); exact BK110.out)⟩; have n1_ : Aside0 (Below w.heap.size w wr) := ⟨by rw [← hq_]; exact (by repeat (first | (with_reducible first | exact HB.out | apply below_alloc | apply pw_below_drewN | apply below_drew1 | refine below_set ?_ GE110.out) | exact HB.out))⟩; clear BK110 HB hq_; have BK110 := n0_; have HB := n1_; clear n0_ n1_)); have hcz33_0 : wr.cell? ⟨gb110, 0, none⟩ = some (.int .i64 x111000_2) := (blk_cell BK110.out 0).trans rfl; have hcz33_1 : wr.cell? ⟨gb110, 1, none⟩ = some (.string x111001_2) := (blk_cell BK110.out 1).trans rfl; have hcz33_2 : wr.cell? ⟨gb110, 2, none⟩ = some (.string x111002_2) := (blk_cell BK110.out 2).trans rfl; have hcz33_3 : wr.cell? ⟨gb110, 3, none⟩ = some (.slice none 0 0) := (blk_cell BK110.out 3).trans rfl; have hcz33_4 : wr.cell? ⟨gb110, 4, none⟩ = some (.bool x111004_2) := (blk_cell BK110.out 4).trans rfl; have hfz33_0 := blk_frozen BK110.out 0; have hfz33_1 := blk_frozen BK110.out 1; have hfz33_2 := blk_frozen BK110.out 2; have hfz33_3 := blk_frozen BK110.out 3; have hfz33_4 := blk_frozen BK110.out 4))
                                  refine bodyPost_ret (results_ctt rfl _ _ gb110 35 #[.int .i64 3, .string (⟨#[]⟩ : ByteArray), .string t116, .slice none 0 0, .bool false] (0, 0) _ rfl (by (with_reducible repeat (first | refine blk_drewN ?_ _ | refine blk_drew ?_ | refine blk_alloc ?_ _)); refine blk_put (cs := #[.int .i64 3, .string (⟨#[]⟩ : ByteArray), .string t116, .slice none 0 0, .bool x111004_2]) ?_ 4 _ rfl; (with_reducible repeat (first | refine blk_drewN ?_ _ | refine blk_drew ?_ | refine blk_alloc ?_ _)); refine blk_put (cs := #[.int .i64 3, .string (⟨#[]⟩ : ByteArray), .string t116, .slice none 0 0, .bool x111004_2]) ?_ 3 _ rfl; (with_reducible repeat (first | refine blk_drewN ?_ _ | refine blk_drew ?_ | refine blk_alloc ?_ _)); refine blk_put (cs := #[.int .i64 3, .string (⟨#[]⟩ : ByteArray), .string x111002_2, .slice none 0 0, .bool x111004_2]) ?_ 2 _ rfl; (with_reducible repeat (first | refine blk_drewN ?_ _ | refine blk_drew ?_ | refine blk_alloc ?_ _)); refine blk_put (cs := #[.int .i64 3, .string x111001_2, .string x111002_2, .slice none 0 0, .bool x111004_2]) ?_ 1 _ rfl; (with_reducible repeat (first | refine blk_drewN ?_ _ | refine blk_drew ?_ | refine blk_alloc ?_ _)); refine blk_put (cs := #[.int .i64 x111000_2, .string x111001_2, .string x111002_2, .slice none 0 0, .bool x111004_2]) ?_ 0 _ rfl; (with_reducible repeat (first | refine blk_drewN ?_ _ | refine blk_drew ?_ | refine blk_alloc ?_ _)); exact BK110.out) Tryd.underlying35 rfl (by kernel_rfl)) rfl ?_
                                  exact ⟨_, by first | rfl | (simp [errW_none, errW_some] <;> rfl) | (simp only [← hji17]; first | rfl | (simp [errW_none, errW_some] <;> rfl)) | (simp [*, errW_none, errW_some] <;> rfl), by first | exact Kd.R_nil _ _ _ _ _ | exact Kd.N_nil _ _ _ _ _ | exact Kd.V_nil _ _ _ _ _ | exact Kd.Q_nil _ _ _ _ _ | exact Kd.S_nil _ _ _ _ _, by repeat (first | (with_reducible first | exact HB.out | apply below_alloc | apply pw_below_drewN | apply below_drew1 | refine below_set ?_ GE110.out) | exact HB.out)⟩
                                · rw [if_neg c31] at H
                                  exact absurd H (by simp)
                              · rw [if_neg c30] at H
                                exact absurd H (by simp)
                            · rw [if_neg c29] at H
                              exact absurd H (by simp)
                          · rw [if_neg c28] at H
                            have c28b0 : ((bt a0 x11_2) == 62) = false := beq_eq_false_iff_ne.mpr c28
                            have c28b1 : ((bt a0 x11_2) != 62) = true := bne_iff_ne.mpr c28
                            have H' := Aside0.mk H
                            clear H
                            have p27 : 0 ≤ (x11_2 : Int) := of_decide_eq_true (by first | (with_reducible assumption) | assumption)
                            have q27 : x11_2 < (a0.size : Int) := of_decide_eq_true (by first | (with_reducible assumption) | assumption)
                            have hx27 := bt_at a0 x11_2
                            replace p27 := eq_true p27
                            replace q27 := eq_true q27
                            go_wp2
                            go_roundg k2
                            case measure => have := HJ20.out; have := HK2.out; omega
                            case rel => exact ⟨(wrap64 (x11_2 + 1)), (x111000_2), (x111001_2), (x111002_2), (x111004_2), (by first | rfl | (simp; done) | (simp [*]; done)), H', ⟨by have := HJ20.out; have := HK2.out; omega⟩, ⟨by (with_reducible repeat (first | refine blk_drewN ?_ _ | refine blk_drew ?_ | refine blk_alloc ?_ _)); exact BK110.out⟩, ⟨by repeat (first | (with_reducible first | exact HB.out | apply below_alloc | apply pw_below_drewN | apply below_drew1 | refine below_set ?_ GE110.out) | exact HB.out)⟩⟩
                        · rw [if_neg c26] at H
                          exact absurd H (by simp)
                      · rw [if_neg c25] at H
                        have c25b0 : decide (x11_2 < (a0.size : Int)) = false := decide_eq_false c25
                        clear c25
                        by_cases c34 : 0 ≤ x10_20
                        · rw [if_pos c34] at H
                          have c34b0 := eq_true c34
                          have c34b1 : decide (0 ≤ x10_20) = true := decide_eq_true c34
                          clear c34
                          by_cases c35 : x10_20 ≤ (a0.size : Int)
                          · rw [if_pos c35] at H
                            have c35b0 := eq_true c35
                            have c35b1 : decide (x10_20 ≤ (a0.size : Int)) = true := decide_eq_true c35
                            clear c35
                            replace H := Option.bind_eq_some_iff.mp H
                            obtain ⟨t117, A360, H⟩ := H
                            replace H : (some (3, (⟨#[]⟩ : ByteArray), t117, ([] : List (S88)), false, (a0.size : Int), true)) = some (r1, r2, r3, r4, r5, r6, r7) := H
                            have A36 := Aside0.mk A360
                            clear A360
                            simp only [Option.some.injEq, Prod.mk.injEq] at H
                            obtain ⟨rfl, rfl, rfl, rfl, rfl, rfl, rfl⟩ := H
                            go_wp2_with (first | ((with_reducible refine gate_callee (f := 30) rfl ?_); refine goesL_ (some 69) rfl rfl Tryd.func30 (by kernel_rfl) rfl #[.string (a0.extract (x10_20 : Int).toNat a0.size)] rfl (by (try simp only [List.map_toArray, List.map_cons, List.map_nil]); first | done | rfl | (simp only [List.length_drop, List.length_take]; rfl)) ?_; (with_reducible refine (flailref02_Clean.calls k2 (a0.extract (x10_20 : Int).toNat a0.size) t117 _ A36.out).mono ?_); rintro e w' ⟨rfl, ⟨nd, rfl⟩⟩; refine ⟨_, rfl, ?_⟩; (try (rw [drewN_self wr]; generalize hq_ : World.drewN wr _ = wr; have n0_ : Aside0 (wr.heap[gb110]? = some (.cells #[.int .i64 x111000_2, .string x111001_2, .string x111002_2, .slice none 0 0, .bool x111004_2] 35 (0, 0))) := ⟨by rw [← hq_]; exact (by (with_reducible repeat (first | refine blk_drewN ?_ _ | refine blk_drew ?_ | refine blk_alloc ?_ _)); exact BK110.out)⟩; have n1_ : Aside0 (Below w.heap.size w wr) := ⟨by rw [← hq_]; exact (by repeat (first | (with_reducible first | exact HB.out | apply below_alloc | apply pw_below_drewN | apply below_drew1 | refine below_set ?_ GE110.out) | exact HB.out))⟩; clear BK110 HB hq_; have BK110 := n0_; have HB := n1_; clear n0_ n1_)); have hcz37_0 : wr.cell? ⟨gb110, 0, none⟩ = some (.int .i64 x111000_2) := (blk_cell BK110.out 0).trans rfl; have hcz37_1 : wr.cell? ⟨gb110, 1, none⟩ = some (.string x111001_2) := (blk_cell BK110.out 1).trans rfl; have hcz37_2 : wr.cell? ⟨gb110, 2, none⟩ = some (.string x111002_2) := (blk_cell BK110.out 2).trans rfl; have hcz37_3 : wr.cell? ⟨gb110, 3, none⟩ = some (.slice none 0 0) := (blk_cell BK110.out 3).trans rfl; have hcz37_4 : wr.cell? ⟨gb110, 4, none⟩ = some (.bool x111004_2) := (blk_cell BK110.out 4).trans rfl; have hfz37_0 := blk_frozen BK110.out 0; have hfz37_1 := blk_frozen BK110.out 1; have hfz37_2 := blk_frozen BK110.out 2; have hfz37_3 := blk_frozen BK110.out 3; have hfz37_4 := blk_frozen BK110.out 4))
                            refine bodyPost_ret (results_ctt rfl _ _ gb110 35 #[.int .i64 3, .string (⟨#[]⟩ : ByteArray), .string t117, .slice none 0 0, .bool false] (0, 0) _ rfl (by (with_reducible repeat (first | refine blk_drewN ?_ _ | refine blk_drew ?_ | refine blk_alloc ?_ _)); refine blk_put (cs := #[.int .i64 3, .string (⟨#[]⟩ : ByteArray), .string t117, .slice none 0 0, .bool x111004_2]) ?_ 4 _ rfl; (with_reducible repeat (first | refine blk_drewN ?_ _ | refine blk_drew ?_ | refine blk_alloc ?_ _)); refine blk_put (cs := #[.int .i64 3, .string (⟨#[]⟩ : ByteArray), .string t117, .slice none 0 0, .bool x111004_2]) ?_ 3 _ rfl; (with_reducible repeat (first | refine blk_drewN ?_ _ | refine blk_drew ?_ | refine blk_alloc ?_ _)); refine blk_put (cs := #[.int .i64 3, .string (⟨#[]⟩ : ByteArray), .string x111002_2, .slice none 0 0, .bool x111004_2]) ?_ 2 _ rfl; (with_reducible repeat (first | refine blk_drewN ?_ _ | refine blk_drew ?_ | refine blk_alloc ?_ _)); refine blk_put (cs := #[.int .i64 3, .string x111001_2, .string x111002_2, .slice none 0 0, .bool x111004_2]) ?_ 1 _ rfl; (with_reducible repeat (first | refine blk_drewN ?_ _ | refine blk_drew ?_ | refine blk_alloc ?_ _)); refine blk_put (cs := #[.int .i64 x111000_2, .string x111001_2, .string x111002_2, .slice none 0 0, .bool x111004_2]) ?_ 0 _ rfl; (with_reducible repeat (first | refine blk_drewN ?_ _ | refine blk_drew ?_ | refine blk_alloc ?_ _)); exact BK110.out) Tryd.underlying35 rfl (by kernel_rfl)) rfl ?_
                            exact ⟨_, by first | rfl | (simp [errW_none, errW_some] <;> rfl) | (simp only [← hji17]; first | rfl | (simp [errW_none, errW_some] <;> rfl)) | (simp [*, errW_none, errW_some] <;> rfl), by first | exact Kd.R_nil _ _ _ _ _ | exact Kd.N_nil _ _ _ _ _ | exact Kd.V_nil _ _ _ _ _ | exact Kd.Q_nil _ _ _ _ _ | exact Kd.S_nil _ _ _ _ _, by repeat (first | (with_reducible first | exact HB.out | apply below_alloc | apply pw_below_drewN | apply below_drew1 | refine below_set ?_ GE110.out) | exact HB.out)⟩
                          · rw [if_neg c35] at H
                            exact absurd H (by simp)
                        · rw [if_neg c34] at H
                          exact absurd H (by simp)
            · rw [if_neg c19] at H
              exact absurd H (by simp)
          · rw [if_neg c18] at H
            exact absurd H (by simp)
      · rw [if_neg c6] at H
        exact absurd H (by simp)
    · rw [if_neg c5] at H
      exact absurd H (by simp)
  · replace c4 := Bool.eq_false_iff.mpr c4
    subst c4
    have H1 : (some (0, (⟨#[]⟩ : ByteArray), (⟨#[]⟩ : ByteArray), ([] : List (S88)), false, a1, false)) = some (r1, r2, r3, r4, r5, r6, r7) := by rw [if_neg (show ¬ (false = true) by decide)] at H; exact H
    clear H
    have H := H1
    clear H1
    simp only [Option.some.injEq, Prod.mk.injEq] at H
    obtain ⟨rfl, rfl, rfl, rfl, rfl, rfl, rfl⟩ := H
    go_enter Tryd.func38, Tryd.ntmps38
    go_wp2_with (first | ((with_reducible refine gate_dst (N := 4) rfl ?_); refine box_event ?hg (N := 4) ?hd (cs := #[.int .i64 0, .string (⟨#[]⟩ : ByteArray), .string (⟨#[]⟩ : ByteArray), .slice none 0 0, .bool false]) (t := 35) ?hr ?_; (case hd => rfl); (case hg => rfl); (case hr => first | (go_simp; done) | (go_simp; rfl)); intro gb110 hg w38 hbox hb; have n0_ := Aside0.mk (below_step (by repeat (first | (with_reducible first | exact HB.out | apply below_alloc | apply pw_below_drewN | apply below_drew1) | exact HB.out)) hb); have n1_ := Aside0.mk (hbox); have n2_ := Aside0.mk ((by rw [hg]; exact (below_size (by repeat (first | (with_reducible first | exact HB.out | apply below_alloc | apply pw_below_drewN | apply below_drew1) | exact HB.out))) : w.heap.size ≤ gb110)); have n3_ := Aside0.mk ((by rw [hg]; exact (below_size (by repeat (first | (with_reducible first | exact HB.out | apply below_alloc | apply pw_below_drewN | apply below_drew1) | exact HB.out))) : w.heap.size ≤ gb110)); clear HB; have HB := n0_; have BK110 := n1_; have GW110 := n2_; have GE110 := n3_; clear n0_ n1_ n2_ n3_; clear hb hbox hg) | ((with_reducible refine gate_callee (f := 41) rfl ?_); refine goesL_ (some 14) rfl rfl Tryd.func41 (by kernel_rfl) rfl #[.string a0, .int .i64 a1] rfl (by (try simp only [List.map_toArray, List.map_cons, List.map_nil]); first | done | rfl | (simp only [List.length_drop, List.length_take]; rfl)) ?_; (with_reducible refine (flailref10_Begins.calls k a0 a1 false _ A3.out).mono ?_); rintro e w39 ⟨rfl, hb⟩; refine ⟨_, rfl, ?_⟩; have n0_ := Aside0.mk (blk_below (g := gb110) (o := .cells #[.int .i64 0, .string (⟨#[]⟩ : ByteArray), .string (⟨#[]⟩ : ByteArray), .slice none 0 0, .bool false] 35 (0, 0)) (by (with_reducible repeat (first | refine blk_drewN ?_ _ | refine blk_drew ?_ | refine blk_alloc ?_ _)); exact BK110.out) hb); have n1_ := Aside0.mk (below_step (by repeat (first | (with_reducible first | exact HB.out | apply below_alloc | apply pw_below_drewN | apply below_drew1 | refine below_set ?_ GE110.out) | exact HB.out)) hb); clear BK110; clear HB; have BK110 := n0_; have HB := n1_; clear n0_ n1_; (try clear hb); (try clear hb2); (try clear hk); (try clear hi); have hcz40_0 : w39.cell? ⟨gb110, 0, none⟩ = some (.int .i64 0) := (blk_cell BK110.out 0).trans rfl; have hcz40_1 : w39.cell? ⟨gb110, 1, none⟩ = some (.string (⟨#[]⟩ : ByteArray)) := (blk_cell BK110.out 1).trans rfl; have hcz40_2 : w39.cell? ⟨gb110, 2, none⟩ = some (.string (⟨#[]⟩ : ByteArray)) := (blk_cell BK110.out 2).trans rfl; have hcz40_3 : w39.cell? ⟨gb110, 3, none⟩ = some (.slice none 0 0) := (blk_cell BK110.out 3).trans rfl; have hcz40_4 : w39.cell? ⟨gb110, 4, none⟩ = some (.bool false) := (blk_cell BK110.out 4).trans rfl; have hfz40_0 := blk_frozen BK110.out 0; have hfz40_1 := blk_frozen BK110.out 1; have hfz40_2 := blk_frozen BK110.out 2; have hfz40_3 := blk_frozen BK110.out 3; have hfz40_4 := blk_frozen BK110.out 4))
    refine bodyPost_ret (results_ctt rfl _ _ gb110 35 #[.int .i64 0, .string (⟨#[]⟩ : ByteArray), .string (⟨#[]⟩ : ByteArray), .slice none 0 0, .bool false] (0, 0) _ rfl (by (with_reducible repeat (first | refine blk_drewN ?_ _ | refine blk_drew ?_ | refine blk_alloc ?_ _)); refine blk_put (cs := #[.int .i64 0, .string (⟨#[]⟩ : ByteArray), .string (⟨#[]⟩ : ByteArray), .slice none 0 0, .bool false]) ?_ 4 _ rfl; (with_reducible repeat (first | refine blk_drewN ?_ _ | refine blk_drew ?_ | refine blk_alloc ?_ _)); refine blk_put (cs := #[.int .i64 0, .string (⟨#[]⟩ : ByteArray), .string (⟨#[]⟩ : ByteArray), .slice none 0 0, .bool false]) ?_ 3 _ rfl; (with_reducible repeat (first | refine blk_drewN ?_ _ | refine blk_drew ?_ | refine blk_alloc ?_ _)); refine blk_put (cs := #[.int .i64 0, .string (⟨#[]⟩ : ByteArray), .string (⟨#[]⟩ : ByteArray), .slice none 0 0, .bool false]) ?_ 2 _ rfl; (with_reducible repeat (first | refine blk_drewN ?_ _ | refine blk_drew ?_ | refine blk_alloc ?_ _)); refine blk_put (cs := #[.int .i64 0, .string (⟨#[]⟩ : ByteArray), .string (⟨#[]⟩ : ByteArray), .slice none 0 0, .bool false]) ?_ 1 _ rfl; (with_reducible repeat (first | refine blk_drewN ?_ _ | refine blk_drew ?_ | refine blk_alloc ?_ _)); refine blk_put (cs := #[.int .i64 0, .string (⟨#[]⟩ : ByteArray), .string (⟨#[]⟩ : ByteArray), .slice none 0 0, .bool false]) ?_ 0 _ rfl; (with_reducible repeat (first | refine blk_drewN ?_ _ | refine blk_drew ?_ | refine blk_alloc ?_ _)); exact BK110.out) Tryd.underlying35 rfl (by kernel_rfl)) rfl ?_
    exact ⟨_, by first | rfl | (simp [errW_none, errW_some] <;> rfl) | (simp [*, errW_none, errW_some] <;> rfl), by first | exact Kd.R_nil _ _ _ _ _ | exact Kd.N_nil _ _ _ _ _ | exact Kd.V_nil _ _ _ _ _ | exact Kd.Q_nil _ _ _ _ _ | exact Kd.S_nil _ _ _ _ _, by repeat (first | (with_reducible first | exact HB.out | apply below_alloc | apply pw_below_drewN | apply below_drew1 | refine below_set ?_ GE110.out) | exact HB.out)⟩

end Go.Proofs.YtppaobgccdlccaaDoor.Sm
