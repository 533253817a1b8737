-- Written by a program of this session over the kit's printer: not by hand.
import Derived.Test.YtdheknlnhfegnaaGreatDoorSx0
namespace Go.Proofs.YtdheknlnhfegnaaGreatDoor.Sx
open Go.RowKit Go.Proofs.YtdheknlnhfegnaaGreatDoor.K0 Go.Proofs.YtdheknlnhfegnaaGreatDoor.Hand Go.Proofs.YtdheknlnhfegnaaGreatDoor.Sa Go.Proofs.YtdheknlnhfegnaaGreatDoorW.PrintWords Go.Proofs.YtdheknlnhfegnaaGreatDoorW.PrintLast Go.Proofs.YtdheknlnhfegnaaGreatDoorW.PrintMore
attribute [local go_sem] max2_int min2_int max_two min_two max_three min_three max_four min_four   -- for this text's walks alone
set_option linter.unusedVariables false
set_option linter.unusedSimpArgs false

/-- A state of type 46 at block g of W; what its slices lead to came in by w0. -/
def IsS46 (w0 W : World) (g : Nat) (f0 : ByteArray) (f1 : Int) : Prop := W.heap[g]? = some (.cells #[.string f0, .int .i64 f1] 46 (0, 0)) ∧ w0.heap.size ≤ g
theorem IsS46.grown {w0 W : World} {g : Nat} {f0 : ByteArray} {f1 : Int} {W1 : World} {row : Option Nat} (h : IsS46 w0 W g f0 f1) (hw : W.grownBy W1 row) (hne : some g ≠ row) : IsS46 w0 W1 g f0 f1 := by
  obtain ⟨hb, hg⟩ := h
  exact ⟨blk_grown hb hw hne, hg⟩
theorem IsS46.own_neN {w0 W : World} {g : Nat} {f0 : ByteArray} {f1 : Int} {α : Type} {d : Kd α} {e : Nat} {base : Nat} {ok : Nat → Prop} {v : Value} {xs : List α} (h : IsS46 w0 W g f0 f1) (ho : Kd.N d e W base ok v xs) (ht : e ≠ 46) : some g ≠ v.ownBlock := by
  obtain ⟨hb, hg⟩ := h
  exact Kd.N_ne ho hb ht
theorem IsS46.fresh {w0 W : World} {g : Nat} {f0 : ByteArray} {f1 : Int} (h : IsS46 w0 W g f0 f1) : ∀ k, W.heap.size ≤ k → k ≠ g := by
  obtain ⟨hb, hg⟩ := h
  exact Kd.freshB hb
theorem IsS46.kept {w0 W : World} {g : Nat} {f0 : ByteArray} {f1 : Int} {W1 : World} {S : Nat → Prop} (h : IsS46 w0 W g f0 f1) (hk : Kept W W1 S) (hne : ¬ S g) : IsS46 w0 W1 g f0 f1 := by
  obtain ⟨hb, hg⟩ := h
  exact ⟨blk_kept hb hk hne, hg⟩
theorem IsS46.below {w0 W : World} {g : Nat} {f0 : ByteArray} {f1 : Int} {W1 : World} (h : IsS46 w0 W g f0 f1) (hw : Below W.heap.size W W1) : IsS46 w0 W1 g f0 f1 := h.grown (grown_of_below hw none) (by simp)
theorem IsS46.alloc {w0 W : World} {g : Nat} {f0 : ByteArray} {f1 : Int} (h : IsS46 w0 W g f0 f1) (o : Obj) : IsS46 w0 (W.alloc o) g f0 f1 := h.below (below_alloc (Below.refl _ _) o)
theorem IsS46.drewN {w0 W : World} {g : Nat} {f0 : ByteArray} {f1 : Int} (h : IsS46 w0 W g f0 f1) (m : Nat) : IsS46 w0 (W.drewN m) g f0 f1 := h
theorem IsS46.drew {w0 W : World} {g : Nat} {f0 : ByteArray} {f1 : Int} (h : IsS46 w0 W g f0 f1) : IsS46 w0 W.drew g f0 f1 := h
theorem IsS46.at_ {w0 W : World} {g : Nat} {f0 : ByteArray} {f1 : Int} {w' : World} {m : Nat} (hq : W.drewN m = w') (h : IsS46 w0 W g f0 f1) : IsS46 w0 w' g f0 f1 := by subst hq; exact IsS46.drewN h m
theorem IsS46.apart {w0 W : World} {g : Nat} {f0 : ByteArray} {f1 : Int} {α : Type} {d : Kd α} {e : Nat} {base : Nat} {ok : Nat → Prop} {v : Value} {xs : List α} (h : IsS46 w0 W g f0 f1) (ho : d.R e W base ok v xs) (ht : ∀ q, q ∈ e :: d.E → q ≠ 46) : d.R e W base (fun k => ok k ∧ k ≠ g) v xs := by
  obtain ⟨hb, hg⟩ := h
  exact Kd.R_types ho hb ht
theorem IsS46.own_ne {w0 W : World} {g : Nat} {f0 : ByteArray} {f1 : Int} {α : Type} {d : Kd α} {e : Nat} {base : Nat} {ok : Nat → Prop} {v : Value} {xs : List α} (h : IsS46 w0 W g f0 f1) (ho : d.R e W base ok v xs) (ht : e ≠ 46) : some g ≠ v.ownBlock := by
  obtain ⟨hb, hg⟩ := h
  exact Kd.R_ne ho hb ht
theorem IsS46.apartQ {w0 W : World} {g : Nat} {f0 : ByteArray} {f1 : Int} {α : Type} {d : Kd α} {e : Nat} {base : Nat} {ok : Nat → Prop} {v : Value} {xs : List α} (h : IsS46 w0 W g f0 f1) (ho : d.Q e W base ok v xs) (ht : ∀ q, q ∈ e :: d.E → q ≠ 46) : d.Q e W base (fun k => ok k ∧ k ≠ g) v xs := by
  obtain ⟨hb, hg⟩ := h
  exact Kd.Q_types ho hb ht
theorem IsS46.own_neQ {w0 W : World} {g : Nat} {f0 : ByteArray} {f1 : Int} {α : Type} {d : Kd α} {e : Nat} {base : Nat} {ok : Nat → Prop} {v : Value} {xs : List α} (h : IsS46 w0 W g f0 f1) (ho : d.Q e W base ok v xs) (ht : e ≠ 46) : some g ≠ v.ownBlock := by
  obtain ⟨hb, hg⟩ := h
  exact Kd.Q_ne ho hb ht
theorem IsS46.apartS {w0 W : World} {g : Nat} {f0 : ByteArray} {f1 : Int} {α : Type} {d : Kd α} {e : Nat} {base : Nat} {ok : Nat → Prop} {v : Value} {xs : List α} (h : IsS46 w0 W g f0 f1) (ho : d.S e W base ok v xs) (ht : ∀ q, q ∈ e :: d.E → q ≠ 46) : d.S e W base (fun k => ok k ∧ k ≠ g) v xs := by
  obtain ⟨hb, hg⟩ := h
  exact Kd.S_types ho hb ht
theorem IsS46.own_neS {w0 W : World} {g : Nat} {f0 : ByteArray} {f1 : Int} {α : Type} {d : Kd α} {e : Nat} {base : Nat} {ok : Nat → Prop} {v : Value} {xs : List α} (h : IsS46 w0 W g f0 f1) (ho : d.S e W base ok v xs) (ht : e ≠ 46) : some g ≠ v.ownBlock := by
  obtain ⟨hb, hg⟩ := h
  exact Kd.S_ne ho hb ht
theorem IsS46.lt {w0 W : World} {g : Nat} {f0 : ByteArray} {f1 : Int} (h : IsS46 w0 W g f0 f1) : g < W.heap.size := by
  obtain ⟨hb, hg⟩ := h
  exact blk_lt hb
theorem IsS46.ge {w0 W : World} {g : Nat} {f0 : ByteArray} {f1 : Int} (h : IsS46 w0 W g f0 f1) : w0.heap.size ≤ g := by
  obtain ⟨hb, hg⟩ := h
  exact hg
theorem IsS46.ne_blk {w0 W : World} {g : Nat} {f0 : ByteArray} {f1 : Int} {a : Nat} {cs : Array Value} {t : TypeId} {fr : Nat × Nat} (h : IsS46 w0 W g f0 f1) (hb2 : W.heap[a]? = some (.cells cs t fr)) (ht : t ≠ 46) : g ≠ a := by
  obtain ⟨hb, hg⟩ := h
  rintro rfl
  rw [hb] at hb2
  injection hb2 with hb2
  injection hb2 with _ ht2
  exact ht ht2.symm
theorem IsS46.far {w0 W : World} {g : Nat} {f0 : ByteArray} {f1 : Int} {p : Addr} (h : IsS46 w0 W g f0 f1) (hne : g ≠ p.block) (u : Value) : IsS46 w0 (W.setCell p u) g f0 f1 := by
  obtain ⟨hb, hg⟩ := h
  exact ⟨blk_far hb hne u, hg⟩
theorem cellS46_0 {W : World} {g : Nat} {f0 : ByteArray} {f1 : Int} (h : W.heap[g]? = some (.cells #[.string f0, .int .i64 f1] 46 (0, 0))) : W.cell? ⟨g, 0, none⟩ = some (.string f0) := (blk_cell h 0).trans rfl
theorem IsS46.set_0 {w0 W : World} {g : Nat} {f0 : ByteArray} {f1 : Int} (h : IsS46 w0 W g f0 f1) (x : ByteArray) : IsS46 w0 (W.setCell ⟨g, 0, none⟩ (.string x)) g x f1 := by
  obtain ⟨hb, hg⟩ := h
  exact ⟨by simpa using blk_set hb 0 (.string x), hg⟩
theorem cellS46_1 {W : World} {g : Nat} {f0 : ByteArray} {f1 : Int} (h : W.heap[g]? = some (.cells #[.string f0, .int .i64 f1] 46 (0, 0))) : W.cell? ⟨g, 1, none⟩ = some (.int .i64 f1) := (blk_cell h 1).trans rfl
theorem IsS46.set_1 {w0 W : World} {g : Nat} {f0 : ByteArray} {f1 : Int} (h : IsS46 w0 W g f0 f1) (x : Int) : IsS46 w0 (W.setCell ⟨g, 1, none⟩ (.int .i64 x)) g f0 x := by
  obtain ⟨hb, hg⟩ := h
  exact ⟨by simpa using blk_set hb 1 (.int .i64 x), hg⟩
theorem IsS46.new (w0 W : World) (f0 : ByteArray) (f1 : Int) (hB : Below w0.heap.size w0 W) : IsS46 w0 (W.alloc (.cells #[.string f0, .int .i64 f1] 46)) W.heap.size f0 f1 := ⟨by simpa using heap_alloc_new W _, hB.size⟩

/-! ### attrs_reader_spaces: function 22 -/
def attrs_reader_spaces.l0 : Nat → ByteArray → Int → Option (ByteArray × Int)
  | 0, _, _ => none
  | k + 1, x1000, x1001 => if x1001 < (x1000.size : Int) then (if 0 ≤ x1001 then ((sign_Space.f (bt x1000 x1001)).bind fun t101 => (if t101 = true then (attrs_reader_spaces.l0 k x1000 (wrap64 (x1001 + 1))) else (some (x1000, x1001)))) else (none)) else (some (x1000, x1001))
def attrs_reader_spaces.f (k : Nat) (s0_0 : ByteArray) (s0_1 : Int) : Option (ByteArray × Int) := attrs_reader_spaces.l0 k s0_0 s0_1
theorem attrs_reader_spaces.mono_l : ∀ k, (∀ y0 y1, LeO (attrs_reader_spaces.l0 k y0 y1) (attrs_reader_spaces.l0 (k + 1) y0 y1))
  | 0 => fun _ _ r h => by simp [attrs_reader_spaces.l0] at h
  | k + 1 => by
    have ih0 := attrs_reader_spaces.mono_l k
    · intro y0 y1
      unfold attrs_reader_spaces.l0
      repeat' first
      | (with_reducible exact ih0 _ _)
      | (with_reducible exact LeO.refl _)
      | (with_reducible exact LeO.none _)
      | (with_reducible refine LeO.ite ?_ ?_)
      | (with_reducible refine LeO.bind ?_ (fun _ => ?_))
      | exact ih0 _ _
      | exact LeO.none _
      | refine LeO.ite ?_ ?_
      | refine LeO.bind ?_ (fun _ => ?_)
theorem attrs_reader_spaces.mono : ∀ a0 a1 k, LeO (attrs_reader_spaces.f k a0 a1) (attrs_reader_spaces.f (k + 1) a0 a1) := by
  intro a0 a1 k
  have ih0 := attrs_reader_spaces.mono_l k
  unfold attrs_reader_spaces.f
  repeat' first
      | (with_reducible exact ih0 _ _)
      | (with_reducible exact LeO.refl _)
      | (with_reducible exact LeO.none _)
      | (with_reducible refine LeO.ite ?_ ?_)
      | (with_reducible refine LeO.bind ?_ (fun _ => ?_))
      | exact ih0 _ _
      | exact LeO.none _
      | refine LeO.ite ?_ ?_
      | refine LeO.bind ?_ (fun _ => ?_)
set_option maxHeartbeats 8000000 in
set_option maxRecDepth 100000 in
theorem attrs_reader_spaces.calls (k : Nat) (g : Nat) (s0_0 : ByteArray) (s0_1 : Int) (r1 : ByteArray) (r2 : Int) (w0 w : World) (hI : IsS46 w0 w g s0_0 s0_1) (hB : Below w0.heap.size w0 w) (h : attrs_reader_spaces.f k s0_0 s0_1 = some (r1, r2)) :
    Calls Tryz.prog 22 #[.pointer (some ⟨g, 0, none⟩)] w fun e w' => e = .returned (.tuple #[]) ∧ IsS46 w0 w' g r1 r2 ∧ Below w0.heap.size w0 w' ∧ KeepBut w w' g none := by
  have HI0 := Aside0.mk hI
  have HK := Aside0.mk (KeepBut.refl w g none)
  have HL := Aside0.mk hB.size
  clear hI
  have HW0 := Aside0.mk hB.size
  have HB := Aside0.mk hB
  clear hB
  have H : (attrs_reader_spaces.l0 k s0_0 s0_1) = some (r1, r2) := h
  clear h
  have H' := Aside0.mk H
  clear H
  go_enter Tryz.func22, Tryz.ntmps22
  go_wp2
  repeat (go_quiet (fail); try go_wp2)
  go_loopg [] k (fun kq w' => ∃ (x1001_1 : Int), Aside0 (attrs_reader_spaces.l0 kq s0_0 x1001_1 = some (r1, r2)) ∧ Aside0 (kq ≤ k) ∧ Aside0 (IsS46 w0 w' g s0_0 x1001_1) ∧ Aside0 (KeepBut w w' g none) ∧ Aside0 (Below w0.heap.size w0 w'))
  case atStart => exact ⟨(s0_1), H', ⟨Nat.le_refl _⟩, ⟨by repeat (first | (with_reducible first | exact HI0.out | apply IsS46.alloc | apply IsS46.drewN | apply IsS46.drew | apply IsS46.set_0 | apply IsS46.set_1) | exact HI0.out)⟩, ⟨by repeat (first | (with_reducible first | exact HK.out | apply KeepBut.set_ | apply keep_drewN | apply keep_drew | apply keep_alloc) | exact HK.out)⟩, ⟨by repeat (first | (with_reducible first | exact HB.out | apply below_alloc | apply pw_below_drewN | apply below_drew1 | refine below_set ?_ (IsS46.ge HI0.out)) | exact HB.out)⟩⟩
  case round =>
    clear H'
    obtain ⟨x1001_1, HA, HK1, HI0, HK, HB⟩ := hrel
    cases gk with
    | zero => exact absurd HA.out (by simp [attrs_reader_spaces.l0])
    | succ k1 =>
      have H := HA.out
      clear HA
      simp only [attrs_reader_spaces.l0] at H
      by_cases c2 : x1001_1 < (s0_0.size : Int)
      · rw [if_pos c2] at H
        have c2b0 : decide (x1001_1 < (s0_0.size : Int)) = true := decide_eq_true c2
        clear c2
        by_cases c3 : 0 ≤ x1001_1
        · rw [if_pos c3] at H
          have c3b0 : decide (0 ≤ x1001_1) = true := decide_eq_true c3
          clear c3
          replace H := Option.bind_eq_some_iff.mp H
          obtain ⟨t101, A50, H⟩ := H
          replace H : (if t101 = true then (attrs_reader_spaces.l0 k1 s0_0 (wrap64 (x1001_1 + 1))) else (some (s0_0, x1001_1))) = some (r1, r2) := H
          have A5 := Aside0.mk A50
          clear A50
          by_cases c6 : t101 = true
          · subst c6
            have H1 : (attrs_reader_spaces.l0 k1 s0_0 (wrap64 (x1001_1 + 1))) = some (r1, r2) := by rw [if_pos rfl] at H; exact H
            clear H
            have H := H1
            clear H1
            have H' := Aside0.mk H
            clear H
            obtain ⟨HGz7, hgz7⟩ := HI0.out
            have hcz7_0 := cellS46_0 HGz7
            have hcz7_1 := cellS46_1 HGz7
            have hfz7_0 := blk_frozen HGz7 0
            have hfz7_1 := blk_frozen HGz7 1
            clear HGz7 hgz7
            have p4 : 0 ≤ (x1001_1 : Int) := of_decide_eq_true (by first | (with_reducible assumption) | assumption)
            have q4 : x1001_1 < (s0_0.size : Int) := of_decide_eq_true (by first | (with_reducible assumption) | assumption)
            have hx4 := bt_at s0_0 x1001_1
            replace p4 := eq_true p4
            replace q4 := eq_true q4
            go_wp2_with (first | (go_at_call 42; (with_reducible refine (sign_Space.calls (bt s0_0 x1001_1) true _ A5.out).mono ?_); rintro e w' ⟨rfl, ⟨nd, rfl⟩⟩; (try first | exact ⟨rfl, _, World.drewN_drewN _ _ _⟩ | exact ⟨rfl, _, Eq.trans (World.drewN_drewN _ _ _) (congrArg (World.drewN _) (Nat.add_assoc _ _ _))⟩)))
            repeat (go_quiet (first | (go_at_call 42; (with_reducible refine (sign_Space.calls (bt s0_0 x1001_1) true _ A5.out).mono ?_); rintro e w' ⟨rfl, ⟨nd, rfl⟩⟩; (try first | exact ⟨rfl, _, World.drewN_drewN _ _ _⟩ | exact ⟨rfl, _, Eq.trans (World.drewN_drewN _ _ _) (congrArg (World.drewN _) (Nat.add_assoc _ _ _))⟩))); try go_wp2_with (first | (go_at_call 42; (with_reducible refine (sign_Space.calls (bt s0_0 x1001_1) true _ A5.out).mono ?_); rintro e w' ⟨rfl, ⟨nd, rfl⟩⟩; (try first | exact ⟨rfl, _, World.drewN_drewN _ _ _⟩ | exact ⟨rfl, _, Eq.trans (World.drewN_drewN _ _ _) (congrArg (World.drewN _) (Nat.add_assoc _ _ _))⟩))))
            go_roundg k1
            case measure => have := HK1.out; omega
            case rel => exact ⟨(wrap64 (x1001_1 + 1)), H', ⟨by have := HK1.out; omega⟩, ⟨by repeat (first | (with_reducible first | exact HI0.out | apply IsS46.alloc | apply IsS46.drewN | apply IsS46.drew | apply IsS46.set_0 | apply IsS46.set_1) | exact HI0.out)⟩, ⟨by repeat (first | (with_reducible first | exact HK.out | apply KeepBut.set_ | apply keep_drewN | apply keep_drew | apply keep_alloc) | exact HK.out)⟩, ⟨by repeat (first | (with_reducible first | exact HB.out | apply below_alloc | apply pw_below_drewN | apply below_drew1 | refine below_set ?_ (IsS46.ge HI0.out)) | exact HB.out)⟩⟩
          · replace c6 := Bool.eq_false_iff.mpr c6
            subst c6
            have H1 : (some (s0_0, x1001_1)) = some (r1, r2) := by rw [if_neg (show ¬ (false = true) by decide)] at H; exact H
            clear H
            have H := H1
            clear H1
            simp only [Option.some.injEq, Prod.mk.injEq] at H
            obtain ⟨rfl, rfl⟩ := H
            obtain ⟨HGz8, hgz8⟩ := HI0.out
            have hcz8_0 := cellS46_0 HGz8
            have hcz8_1 := cellS46_1 HGz8
            have hfz8_0 := blk_frozen HGz8 0
            have hfz8_1 := blk_frozen HGz8 1
            clear HGz8 hgz8
            have p4 : 0 ≤ (x1001_1 : Int) := of_decide_eq_true (by first | (with_reducible assumption) | assumption)
            have q4 : x1001_1 < (s0_0.size : Int) := of_decide_eq_true (by first | (with_reducible assumption) | assumption)
            have hx4 := bt_at s0_0 x1001_1
            replace p4 := eq_true p4
            replace q4 := eq_true q4
            go_wp2_with (first | (go_at_call 42; (with_reducible refine (sign_Space.calls (bt s0_0 x1001_1) false _ A5.out).mono ?_); rintro e w' ⟨rfl, ⟨nd, rfl⟩⟩; (try first | exact ⟨rfl, _, World.drewN_drewN _ _ _⟩ | exact ⟨rfl, _, Eq.trans (World.drewN_drewN _ _ _) (congrArg (World.drewN _) (Nat.add_assoc _ _ _))⟩)))
            repeat (go_quiet (first | (go_at_call 42; (with_reducible refine (sign_Space.calls (bt s0_0 x1001_1) false _ A5.out).mono ?_); rintro e w' ⟨rfl, ⟨nd, rfl⟩⟩; (try first | exact ⟨rfl, _, World.drewN_drewN _ _ _⟩ | exact ⟨rfl, _, Eq.trans (World.drewN_drewN _ _ _) (congrArg (World.drewN _) (Nat.add_assoc _ _ _))⟩))); try go_wp2_with (first | (go_at_call 42; (with_reducible refine (sign_Space.calls (bt s0_0 x1001_1) false _ A5.out).mono ?_); rintro e w' ⟨rfl, ⟨nd, rfl⟩⟩; (try first | exact ⟨rfl, _, World.drewN_drewN _ _ _⟩ | exact ⟨rfl, _, Eq.trans (World.drewN_drewN _ _ _) (congrArg (World.drewN _) (Nat.add_assoc _ _ _))⟩))))
            first | go_end0 | ((try simp only [Exit.inBlock, Exit.then]); refine bodyPost_ret (results_none rfl _ _ _) rfl ?_)
            exact ⟨by first | rfl | (simp [errW_none, errW_some] <;> rfl) | (simp [*, errW_none, errW_some] <;> rfl), by repeat (first | (with_reducible first | exact HI0.out | apply IsS46.alloc | apply IsS46.drewN | apply IsS46.drew | apply IsS46.set_0 | apply IsS46.set_1) | exact HI0.out), by repeat (first | (with_reducible first | exact HB.out | apply below_alloc | apply pw_below_drewN | apply below_drew1 | refine below_set ?_ (IsS46.ge HI0.out)) | exact HB.out), by repeat (first | (with_reducible first | exact HK.out | apply KeepBut.set_ | apply keep_drewN | apply keep_drew | apply keep_alloc) | exact HK.out)⟩
        · rw [if_neg c3] at H
          exact absurd H (by simp)
      · rw [if_neg c2] at H
        have c2b0 : decide (x1001_1 < (s0_0.size : Int)) = false := decide_eq_false c2
        clear c2
        simp only [Option.some.injEq, Prod.mk.injEq] at H
        obtain ⟨rfl, rfl⟩ := H
        obtain ⟨HGz9, hgz9⟩ := HI0.out
        have hcz9_0 := cellS46_0 HGz9
        have hcz9_1 := cellS46_1 HGz9
        have hfz9_0 := blk_frozen HGz9 0
        have hfz9_1 := blk_frozen HGz9 1
        clear HGz9 hgz9
        go_wp2
        repeat (go_quiet (fail); try go_wp2)
        first | go_end0 | ((try simp only [Exit.inBlock, Exit.then]); refine bodyPost_ret (results_none rfl _ _ _) rfl ?_)
        exact ⟨by first | rfl | (simp [errW_none, errW_some] <;> rfl) | (simp [*, errW_none, errW_some] <;> rfl), by repeat (first | (with_reducible first | exact HI0.out | apply IsS46.alloc | apply IsS46.drewN | apply IsS46.drew | apply IsS46.set_0 | apply IsS46.set_1) | exact HI0.out), by repeat (first | (with_reducible first | exact HB.out | apply below_alloc | apply pw_below_drewN | apply below_drew1 | refine below_set ?_ (IsS46.ge HI0.out)) | exact HB.out), by repeat (first | (with_reducible first | exact HK.out | apply KeepBut.set_ | apply keep_drewN | apply keep_drew | apply keep_alloc) | exact HK.out)⟩

/-! ### attrs_reader_is: function 23 -/
def attrs_reader_is.f (s0_0 : ByteArray) (s0_1 : Int) (a1 : Int) : Option (Bool × ByteArray × Int) := if s0_1 < (s0_0.size : Int) then (if 0 ≤ s0_1 then (some (((bt s0_0 s0_1) == a1), s0_0, s0_1)) else (none)) else (some (false, s0_0, s0_1))
set_option maxHeartbeats 8000000 in
set_option maxRecDepth 100000 in
theorem attrs_reader_is.calls (g : Nat) (s0_0 : ByteArray) (s0_1 : Int) (a1 : Int) (r1 : Bool) (r2 : ByteArray) (r3 : Int) (w0 w : World) (hI : IsS46 w0 w g s0_0 s0_1) (hB : Below w0.heap.size w0 w) (h : attrs_reader_is.f s0_0 s0_1 a1 = some (r1, r2, r3)) :
    Calls Tryz.prog 23 #[.pointer (some ⟨g, 0, none⟩), .int .u8 a1] w fun e w' => e = .returned (.bool r1) ∧ IsS46 w0 w' g r2 r3 ∧ Below w0.heap.size w0 w' ∧ KeepBut w w' g none := by
  have HI0 := Aside0.mk hI
  have HK := Aside0.mk (KeepBut.refl w g none)
  have HL := Aside0.mk hB.size
  clear hI
  have HW0 := Aside0.mk hB.size
  have HB := Aside0.mk hB
  clear hB
  have H : (if s0_1 < (s0_0.size : Int) then (if 0 ≤ s0_1 then (some (((bt s0_0 s0_1) == a1), s0_0, s0_1)) else (none)) else (some (false, s0_0, s0_1))) = some (r1, r2, r3) := h
  clear h
  by_cases c3 : s0_1 < (s0_0.size : Int)
  · rw [if_pos c3] at H
    have c3b0 : decide (s0_1 < (s0_0.size : Int)) = true := decide_eq_true c3
    clear c3
    by_cases c4 : 0 ≤ s0_1
    · rw [if_pos c4] at H
      have c4b0 : decide (0 ≤ s0_1) = true := decide_eq_true c4
      clear c4
      simp only [Option.some.injEq, Prod.mk.injEq] at H
      obtain ⟨rfl, rfl, rfl⟩ := H
      obtain ⟨HGz6, hgz6⟩ := HI0.out
      have hcz6_0 := cellS46_0 HGz6
      have hcz6_1 := cellS46_1 HGz6
      have hfz6_0 := blk_frozen HGz6 0
      have hfz6_1 := blk_frozen HGz6 1
      clear HGz6 hgz6
      have p5 : 0 ≤ (s0_1 : Int) := of_decide_eq_true (by first | (with_reducible assumption) | assumption)
      have q5 : s0_1 < (s0_0.size : Int) := of_decide_eq_true (by first | (with_reducible assumption) | assumption)
      have hx5 := bt_at s0_0 s0_1
      replace p5 := eq_true p5
      replace q5 := eq_true q5
      go_enter Tryz.func23, Tryz.ntmps23
      go_wp2
      repeat (go_quiet (fail); try go_wp2)
      go_ret
      exact ⟨by first | rfl | (simp [errW_none, errW_some] <;> rfl) | (simp [*, errW_none, errW_some] <;> rfl), by repeat (first | (with_reducible first | exact HI0.out | apply IsS46.alloc | apply IsS46.drewN | apply IsS46.drew | apply IsS46.set_0 | apply IsS46.set_1) | exact HI0.out), by repeat (first | (with_reducible first | exact HB.out | apply below_alloc | apply pw_below_drewN | apply below_drew1 | refine below_set ?_ (IsS46.ge HI0.out)) | exact HB.out), by repeat (first | (with_reducible first | exact HK.out | apply KeepBut.set_ | apply keep_drewN | apply keep_drew | apply keep_alloc) | exact HK.out)⟩
    · rw [if_neg c4] at H
      exact absurd H (by simp)
  · rw [if_neg c3] at H
    have c3b0 : decide (s0_1 < (s0_0.size : Int)) = false := decide_eq_false c3
    clear c3
    simp only [Option.some.injEq, Prod.mk.injEq] at H
    obtain ⟨rfl, rfl, rfl⟩ := H
    obtain ⟨HGz7, hgz7⟩ := HI0.out
    have hcz7_0 := cellS46_0 HGz7
    have hcz7_1 := cellS46_1 HGz7
    have hfz7_0 := blk_frozen HGz7 0
    have hfz7_1 := blk_frozen HGz7 1
    clear HGz7 hgz7
    go_enter Tryz.func23, Tryz.ntmps23
    go_wp2
    repeat (go_quiet (fail); try go_wp2)
    go_ret
    exact ⟨by first | rfl | (simp [errW_none, errW_some] <;> rfl) | (simp [*, errW_none, errW_some] <;> rfl), by repeat (first | (with_reducible first | exact HI0.out | apply IsS46.alloc | apply IsS46.drewN | apply IsS46.drew | apply IsS46.set_0 | apply IsS46.set_1) | exact HI0.out), by repeat (first | (with_reducible first | exact HB.out | apply below_alloc | apply pw_below_drewN | apply below_drew1 | refine below_set ?_ (IsS46.ge HI0.out)) | exact HB.out), by repeat (first | (with_reducible first | exact HK.out | apply KeepBut.set_ | apply keep_drewN | apply keep_drew | apply keep_alloc) | exact HK.out)⟩

/-! ### attrs_reader_upTo: function 26 -/
def attrs_reader_upTo.l0 : Nat → ByteArray → Int → ByteArray → Int → Option (ByteArray × ByteArray × Int)
  | 0, _, _, _, _ => none
  | k + 1, x1, x5, x1000, x1001 => if x1001 < (x1000.size : Int) then (if 0 ≤ x1001 then ((sign_Space.f (bt x1000 x1001)).bind fun t102 => (if t102 = true then (if 0 ≤ x5 then (if x5 ≤ x1001 then (if x1001 ≤ (x1000.size : Int) then (some (x1000.extract (x5 : Int).toNat (x1001 : Int).toNat, x1000, x1001)) else (none)) else (none)) else (none)) else ((strings_IndexByte.f x1 (bt x1000 x1001)).bind fun t103 => (if t103 ≥ 0 then (if 0 ≤ x5 then (if x5 ≤ x1001 then (if x1001 ≤ (x1000.size : Int) then (some (x1000.extract (x5 : Int).toNat (x1001 : Int).toNat, x1000, x1001)) else (none)) else (none)) else (none)) else (attrs_reader_upTo.l0 k x1 x5 x1000 (wrap64 (x1001 + 1))))))) else (none)) else (if 0 ≤ x5 then (if x5 ≤ x1001 then (if x1001 ≤ (x1000.size : Int) then (some (x1000.extract (x5 : Int).toNat (x1001 : Int).toNat, x1000, x1001)) else (none)) else (none)) else (none))
def attrs_reader_upTo.f (k : Nat) (s0_0 : ByteArray) (s0_1 : Int) (a1 : ByteArray) : Option (ByteArray × ByteArray × Int) := attrs_reader_upTo.l0 k a1 s0_1 s0_0 (wrap64 (s0_1 + 1))
theorem attrs_reader_upTo.mono_l : ∀ k, (∀ y0 y1 y2 y3, LeO (attrs_reader_upTo.l0 k y0 y1 y2 y3) (attrs_reader_upTo.l0 (k + 1) y0 y1 y2 y3))
  | 0 => fun _ _ _ _ r h => by simp [attrs_reader_upTo.l0] at h
  | k + 1 => by
    have ih0 := attrs_reader_upTo.mono_l k
    · intro y0 y1 y2 y3
      unfold attrs_reader_upTo.l0
      repeat' first
      | (with_reducible exact ih0 _ _ _ _)
      | (with_reducible exact LeO.refl _)
      | (with_reducible exact LeO.none _)
      | (with_reducible refine LeO.ite ?_ ?_)
      | (with_reducible refine LeO.bind ?_ (fun _ => ?_))
      | exact ih0 _ _ _ _
      | exact LeO.none _
      | refine LeO.ite ?_ ?_
      | refine LeO.bind ?_ (fun _ => ?_)
theorem attrs_reader_upTo.mono : ∀ a0 a1 a2 k, LeO (attrs_reader_upTo.f k a0 a1 a2) (attrs_reader_upTo.f (k + 1) a0 a1 a2) := by
  intro a0 a1 a2 k
  have ih0 := attrs_reader_upTo.mono_l k
  unfold attrs_reader_upTo.f
  repeat' first
      | (with_reducible exact ih0 _ _ _ _)
      | (with_reducible exact LeO.refl _)
      | (with_reducible exact LeO.none _)
      | (with_reducible refine LeO.ite ?_ ?_)
      | (with_reducible refine LeO.bind ?_ (fun _ => ?_))
      | exact ih0 _ _ _ _
      | exact LeO.none _
      | refine LeO.ite ?_ ?_
      | refine LeO.bind ?_ (fun _ => ?_)
set_option maxHeartbeats 8000000 in
set_option maxRecDepth 100000 in
theorem attrs_reader_upTo.calls (k : Nat) (g : Nat) (s0_0 : ByteArray) (s0_1 : Int) (a1 : ByteArray) (r1 : ByteArray) (r2 : ByteArray) (r3 : Int) (w0 w : World) (hI : IsS46 w0 w g s0_0 s0_1) (hB : Below w0.heap.size w0 w) (h : attrs_reader_upTo.f k s0_0 s0_1 a1 = some (r1, r2, r3)) :
    Calls Tryz.prog 26 #[.pointer (some ⟨g, 0, none⟩), .string a1] w fun e w' => e = .returned (.string r1) ∧ IsS46 w0 w' g r2 r3 ∧ Below w0.heap.size w0 w' ∧ KeepBut w w' g none := by
  have HI0 := Aside0.mk hI
  have HK := Aside0.mk (KeepBut.refl w g none)
  have HL := Aside0.mk hB.size
  clear hI
  have HW0 := Aside0.mk hB.size
  have HB := Aside0.mk hB
  clear hB
  have H : (attrs_reader_upTo.l0 k a1 s0_1 s0_0 (wrap64 (s0_1 + 1))) = some (r1, r2, r3) := h
  clear h
  have H' := Aside0.mk H
  clear H
  obtain ⟨HGz3, hgz3⟩ := HI0.out
  have hcz3_0 := cellS46_0 HGz3
  have hcz3_1 := cellS46_1 HGz3
  have hfz3_0 := blk_frozen HGz3 0
  have hfz3_1 := blk_frozen HGz3 1
  clear HGz3 hgz3
  go_enter Tryz.func26, Tryz.ntmps26
  go_wp2
  repeat (go_quiet (fail); try go_wp2)
  go_loopg [] k (fun kq w' => ∃ (x1001_1 : Int), Aside0 (attrs_reader_upTo.l0 kq a1 s0_1 s0_0 x1001_1 = some (r1, r2, r3)) ∧ Aside0 (kq ≤ k) ∧ Aside0 (IsS46 w0 w' g s0_0 x1001_1) ∧ Aside0 (KeepBut w w' g none) ∧ Aside0 (Below w0.heap.size w0 w'))
  case atStart => exact ⟨(wrap64 (s0_1 + 1)), H', ⟨Nat.le_refl _⟩, ⟨by repeat (first | (with_reducible first | exact HI0.out | apply IsS46.alloc | apply IsS46.drewN | apply IsS46.drew | apply IsS46.set_0 | apply IsS46.set_1) | exact HI0.out)⟩, ⟨by repeat (first | (with_reducible first | exact HK.out | apply KeepBut.set_ | apply keep_drewN | apply keep_drew | apply keep_alloc) | exact HK.out)⟩, ⟨by repeat (first | (with_reducible first | exact HB.out | apply below_alloc | apply pw_below_drewN | apply below_drew1 | refine below_set ?_ (IsS46.ge HI0.out)) | exact HB.out)⟩⟩
  case round =>
    clear H'
    try clear c2
    try clear p2
    try clear hcz3_0
    try clear hcz3_1
    try clear hfz3_0
    try clear hfz3_1
    obtain ⟨x1001_1, HA, HK1, HI0, HK, HB⟩ := hrel
    cases gk with
    | zero => exact absurd HA.out (by simp [attrs_reader_upTo.l0])
    | succ k1 =>
      have H := HA.out
      clear HA
      simp only [attrs_reader_upTo.l0] at H
      by_cases c4 : x1001_1 < (s0_0.size : Int)
      · rw [if_pos c4] at H
        have c4b0 : decide (x1001_1 < (s0_0.size : Int)) = true := decide_eq_true c4
        clear c4
        by_cases c5 : 0 ≤ x1001_1
        · rw [if_pos c5] at H
          have c5b0 : decide (0 ≤ x1001_1) = true := decide_eq_true c5
          clear c5
          replace H := Option.bind_eq_some_iff.mp H
          obtain ⟨t102, A70, H⟩ := H
          replace H : (if t102 = true then (if 0 ≤ s0_1 then (if s0_1 ≤ x1001_1 then (if x1001_1 ≤ (s0_0.size : Int) then (some (s0_0.extract (s0_1 : Int).toNat (x1001_1 : Int).toNat, s0_0, x1001_1)) else (none)) else (none)) else (none)) else ((strings_IndexByte.f a1 (bt s0_0 x1001_1)).bind fun t103 => (if t103 ≥ 0 then (if 0 ≤ s0_1 then (if s0_1 ≤ x1001_1 then (if x1001_1 ≤ (s0_0.size : Int) then (some (s0_0.extract (s0_1 : Int).toNat (x1001_1 : Int).toNat, s0_0, x1001_1)) else (none)) else (none)) else (none)) else (attrs_reader_upTo.l0 k1 a1 s0_1 s0_0 (wrap64 (x1001_1 + 1)))))) = some (r1, r2, r3) := H
          have A7 := Aside0.mk A70
          clear A70
          by_cases c8 : t102 = true
          · subst c8
            have H1 : (if 0 ≤ s0_1 then (if s0_1 ≤ x1001_1 then (if x1001_1 ≤ (s0_0.size : Int) then (some (s0_0.extract (s0_1 : Int).toNat (x1001_1 : Int).toNat, s0_0, x1001_1)) else (none)) else (none)) else (none)) = some (r1, r2, r3) := by rw [if_pos rfl] at H; exact H
            clear H
            have H := H1
            clear H1
            by_cases c9 : 0 ≤ s0_1
            · rw [if_pos c9] at H
              have c9b0 := eq_true c9
              have c9b1 : decide (0 ≤ s0_1) = true := decide_eq_true c9
              clear c9
              by_cases c10 : s0_1 ≤ x1001_1
              · rw [if_pos c10] at H
                have c10b0 := eq_true c10
                have c10b1 : decide (s0_1 ≤ x1001_1) = true := decide_eq_true c10
                clear c10
                by_cases c11 : x1001_1 ≤ (s0_0.size : Int)
                · rw [if_pos c11] at H
                  have c11b0 := eq_true c11
                  have c11b1 : decide (x1001_1 ≤ (s0_0.size : Int)) = true := decide_eq_true c11
                  clear c11
                  simp only [Option.some.injEq, Prod.mk.injEq] at H
                  obtain ⟨rfl, rfl, rfl⟩ := H
                  obtain ⟨HGz12, hgz12⟩ := HI0.out
                  have hcz12_0 := cellS46_0 HGz12
                  have hcz12_1 := cellS46_1 HGz12
                  have hfz12_0 := blk_frozen HGz12 0
                  have hfz12_1 := blk_frozen HGz12 1
                  clear HGz12 hgz12
                  have p6 : 0 ≤ (x1001_1 : Int) := of_decide_eq_true (by first | (with_reducible assumption) | assumption)
                  have q6 : x1001_1 < (s0_0.size : Int) := of_decide_eq_true (by first | (with_reducible assumption) | assumption)
                  have hx6 := bt_at s0_0 x1001_1
                  replace p6 := eq_true p6
                  replace q6 := eq_true q6
                  go_wp2_with (first | (go_at_call 42; (with_reducible refine (sign_Space.calls (bt s0_0 x1001_1) true _ A7.out).mono ?_); rintro e w' ⟨rfl, ⟨nd, rfl⟩⟩; (try first | exact ⟨rfl, _, World.drewN_drewN _ _ _⟩ | exact ⟨rfl, _, Eq.trans (World.drewN_drewN _ _ _) (congrArg (World.drewN _) (Nat.add_assoc _ _ _))⟩)))
                  repeat (go_quiet (first | (go_at_call 42; (with_reducible refine (sign_Space.calls (bt s0_0 x1001_1) true _ A7.out).mono ?_); rintro e w' ⟨rfl, ⟨nd, rfl⟩⟩; (try first | exact ⟨rfl, _, World.drewN_drewN _ _ _⟩ | exact ⟨rfl, _, Eq.trans (World.drewN_drewN _ _ _) (congrArg (World.drewN _) (Nat.add_assoc _ _ _))⟩))); try go_wp2_with (first | (go_at_call 42; (with_reducible refine (sign_Space.calls (bt s0_0 x1001_1) true _ A7.out).mono ?_); rintro e w' ⟨rfl, ⟨nd, rfl⟩⟩; (try first | exact ⟨rfl, _, World.drewN_drewN _ _ _⟩ | exact ⟨rfl, _, Eq.trans (World.drewN_drewN _ _ _) (congrArg (World.drewN _) (Nat.add_assoc _ _ _))⟩))))
                  go_ret
                  exact ⟨by first | rfl | (simp [errW_none, errW_some] <;> rfl) | (simp [*, errW_none, errW_some] <;> rfl), by repeat (first | (with_reducible first | exact HI0.out | apply IsS46.alloc | apply IsS46.drewN | apply IsS46.drew | apply IsS46.set_0 | apply IsS46.set_1) | exact HI0.out), by repeat (first | (with_reducible first | exact HB.out | apply below_alloc | apply pw_below_drewN | apply below_drew1 | refine below_set ?_ (IsS46.ge HI0.out)) | exact HB.out), by repeat (first | (with_reducible first | exact HK.out | apply KeepBut.set_ | apply keep_drewN | apply keep_drew | apply keep_alloc) | exact HK.out)⟩
                · rw [if_neg c11] at H
                  exact absurd H (by simp)
              · rw [if_neg c10] at H
                exact absurd H (by simp)
            · rw [if_neg c9] at H
              exact absurd H (by simp)
          · replace c8 := Bool.eq_false_iff.mpr c8
            subst c8
            have H1 : ((strings_IndexByte.f a1 (bt s0_0 x1001_1)).bind fun t103 => (if t103 ≥ 0 then (if 0 ≤ s0_1 then (if s0_1 ≤ x1001_1 then (if x1001_1 ≤ (s0_0.size : Int) then (some (s0_0.extract (s0_1 : Int).toNat (x1001_1 : Int).toNat, s0_0, x1001_1)) else (none)) else (none)) else (none)) else (attrs_reader_upTo.l0 k1 a1 s0_1 s0_0 (wrap64 (x1001_1 + 1))))) = some (r1, r2, r3) := by rw [if_neg (show ¬ (false = true) by decide)] at H; exact H
            clear H
            have H := H1
            clear H1
            replace H := Option.bind_eq_some_iff.mp H
            obtain ⟨t103, A130, H⟩ := H
            replace H : (if t103 ≥ 0 then (if 0 ≤ s0_1 then (if s0_1 ≤ x1001_1 then (if x1001_1 ≤ (s0_0.size : Int) then (some (s0_0.extract (s0_1 : Int).toNat (x1001_1 : Int).toNat, s0_0, x1001_1)) else (none)) else (none)) else (none)) else (attrs_reader_upTo.l0 k1 a1 s0_1 s0_0 (wrap64 (x1001_1 + 1)))) = some (r1, r2, r3) := H
            have A13 := Aside0.mk A130
            clear A130
            by_cases c14 : t103 ≥ 0
            · rw [if_pos c14] at H
              have c14b0 : decide (0 ≤ t103) = true := decide_eq_true c14
              clear c14
              by_cases c15 : 0 ≤ s0_1
              · rw [if_pos c15] at H
                have c15b0 := eq_true c15
                have c15b1 : decide (0 ≤ s0_1) = true := decide_eq_true c15
                clear c15
                by_cases c16 : s0_1 ≤ x1001_1
                · rw [if_pos c16] at H
                  have c16b0 := eq_true c16
                  have c16b1 : decide (s0_1 ≤ x1001_1) = true := decide_eq_true c16
                  clear c16
                  by_cases c17 : x1001_1 ≤ (s0_0.size : Int)
                  · rw [if_pos c17] at H
                    have c17b0 := eq_true c17
                    have c17b1 : decide (x1001_1 ≤ (s0_0.size : Int)) = true := decide_eq_true c17
                    clear c17
                    simp only [Option.some.injEq, Prod.mk.injEq] at H
                    obtain ⟨rfl, rfl, rfl⟩ := H
                    obtain ⟨HGz18, hgz18⟩ := HI0.out
                    have hcz18_0 := cellS46_0 HGz18
                    have hcz18_1 := cellS46_1 HGz18
                    have hfz18_0 := blk_frozen HGz18 0
                    have hfz18_1 := blk_frozen HGz18 1
                    clear HGz18 hgz18
                    have p6 : 0 ≤ (x1001_1 : Int) := of_decide_eq_true (by first | (with_reducible assumption) | assumption)
                    have q6 : x1001_1 < (s0_0.size : Int) := of_decide_eq_true (by first | (with_reducible assumption) | assumption)
                    have hx6 := bt_at s0_0 x1001_1
                    replace p6 := eq_true p6
                    replace q6 := eq_true q6
                    go_wp2_with (first | (go_at_call 42; (with_reducible refine (sign_Space.calls (bt s0_0 x1001_1) false _ A7.out).mono ?_); rintro e w' ⟨rfl, ⟨nd, rfl⟩⟩; (try first | exact ⟨rfl, _, World.drewN_drewN _ _ _⟩ | exact ⟨rfl, _, Eq.trans (World.drewN_drewN _ _ _) (congrArg (World.drewN _) (Nat.add_assoc _ _ _))⟩)) | (go_at_call 31; (with_reducible refine (strings_IndexByte.calls a1 (bt s0_0 x1001_1) t103 _ A13.out).mono ?_); rintro e w19 ⟨rfl, hb⟩; have n0_ := Aside0.mk (IsS46.below (by repeat (first | (with_reducible first | exact HI0.out | apply IsS46.alloc | apply IsS46.drewN | apply IsS46.drew | apply IsS46.set_0 | apply IsS46.set_1) | exact HI0.out)) hb); have n1_ := Aside0.mk (KeepBut.trans (by repeat (first | (with_reducible first | exact HK.out | apply KeepBut.set_ | apply keep_drewN | apply keep_drew | apply keep_alloc) | exact HK.out)) (KeepBut.of_below hb g none) (.inl rfl)); have n2_ := Aside0.mk (below_step (by repeat (first | (with_reducible first | exact HB.out | apply below_alloc | apply pw_below_drewN | apply below_drew1 | refine below_set ?_ (IsS46.ge HI0.out)) | exact HB.out)) hb); clear HI0; clear HK; clear HB; have HI0 := n0_; have HK := n1_; have HB := n2_; clear n0_ n1_ n2_; (try clear hb); (try clear hb2); (try clear hk); (try clear hi); obtain ⟨HGz20, hgz20⟩ := HI0.out; have hcz20_0 := cellS46_0 HGz20; have hcz20_1 := cellS46_1 HGz20; have hfz20_0 := blk_frozen HGz20 0; have hfz20_1 := blk_frozen HGz20 1; clear HGz20 hgz20))
                    repeat (go_quiet (first | (go_at_call 42; (with_reducible refine (sign_Space.calls (bt s0_0 x1001_1) false _ A7.out).mono ?_); rintro e w' ⟨rfl, ⟨nd, rfl⟩⟩; (try first | exact ⟨rfl, _, World.drewN_drewN _ _ _⟩ | exact ⟨rfl, _, Eq.trans (World.drewN_drewN _ _ _) (congrArg (World.drewN _) (Nat.add_assoc _ _ _))⟩)) | (go_at_call 31; (with_reducible refine (strings_IndexByte.calls a1 (bt s0_0 x1001_1) t103 _ A13.out).mono ?_); rintro e w19 ⟨rfl, hb⟩; have n0_ := Aside0.mk (IsS46.below (by repeat (first | (with_reducible first | exact HI0.out | apply IsS46.alloc | apply IsS46.drewN | apply IsS46.drew | apply IsS46.set_0 | apply IsS46.set_1) | exact HI0.out)) hb); have n1_ := Aside0.mk (KeepBut.trans (by repeat (first | (with_reducible first | exact HK.out | apply KeepBut.set_ | apply keep_drewN | apply keep_drew | apply keep_alloc) | exact HK.out)) (KeepBut.of_below hb g none) (.inl rfl)); have n2_ := Aside0.mk (below_step (by repeat (first | (with_reducible first | exact HB.out | apply below_alloc | apply pw_below_drewN | apply below_drew1 | refine below_set ?_ (IsS46.ge HI0.out)) | exact HB.out)) hb); clear HI0; clear HK; clear HB; have HI0 := n0_; have HK := n1_; have HB := n2_; clear n0_ n1_ n2_; (try clear hb); (try clear hb2); (try clear hk); (try clear hi); obtain ⟨HGz20, hgz20⟩ := HI0.out; have hcz20_0 := cellS46_0 HGz20; have hcz20_1 := cellS46_1 HGz20; have hfz20_0 := blk_frozen HGz20 0; have hfz20_1 := blk_frozen HGz20 1; clear HGz20 hgz20)); try go_wp2_with (first | (go_at_call 42; (with_reducible refine (sign_Space.calls (bt s0_0 x1001_1) false _ A7.out).mono ?_); rintro e w' ⟨rfl, ⟨nd, rfl⟩⟩; (try first | exact ⟨rfl, _, World.drewN_drewN _ _ _⟩ | exact ⟨rfl, _, Eq.trans (World.drewN_drewN _ _ _) (congrArg (World.drewN _) (Nat.add_assoc _ _ _))⟩)) | (go_at_call 31; (with_reducible refine (strings_IndexByte.calls a1 (bt s0_0 x1001_1) t103 _ A13.out).mono ?_); rintro e w19 ⟨rfl, hb⟩; have n0_ := Aside0.mk (IsS46.below (by repeat (first | (with_reducible first | exact HI0.out | apply IsS46.alloc | apply IsS46.drewN | apply IsS46.drew | apply IsS46.set_0 | apply IsS46.set_1) | exact HI0.out)) hb); have n1_ := Aside0.mk (KeepBut.trans (by repeat (first | (with_reducible first | exact HK.out | apply KeepBut.set_ | apply keep_drewN | apply keep_drew | apply keep_alloc) | exact HK.out)) (KeepBut.of_below hb g none) (.inl rfl)); have n2_ := Aside0.mk (below_step (by repeat (first | (with_reducible first | exact HB.out | apply below_alloc | apply pw_below_drewN | apply below_drew1 | refine below_set ?_ (IsS46.ge HI0.out)) | exact HB.out)) hb); clear HI0; clear HK; clear HB; have HI0 := n0_; have HK := n1_; have HB := n2_; clear n0_ n1_ n2_; (try clear hb); (try clear hb2); (try clear hk); (try clear hi); obtain ⟨HGz20, hgz20⟩ := HI0.out; have hcz20_0 := cellS46_0 HGz20; have hcz20_1 := cellS46_1 HGz20; have hfz20_0 := blk_frozen HGz20 0; have hfz20_1 := blk_frozen HGz20 1; clear HGz20 hgz20)))
                    go_ret
                    exact ⟨by first | rfl | (simp [errW_none, errW_some] <;> rfl) | (simp [*, errW_none, errW_some] <;> rfl), by repeat (first | (with_reducible first | exact HI0.out | apply IsS46.alloc | apply IsS46.drewN | apply IsS46.drew | apply IsS46.set_0 | apply IsS46.set_1) | exact HI0.out), by repeat (first | (with_reducible first | exact HB.out | apply below_alloc | apply pw_below_drewN | apply below_drew1 | refine below_set ?_ (IsS46.ge HI0.out)) | exact HB.out), by repeat (first | (with_reducible first | exact HK.out | apply KeepBut.set_ | apply keep_drewN | apply keep_drew | apply keep_alloc) | exact HK.out)⟩
                  · rw [if_neg c17] at H
                    exact absurd H (by simp)
                · rw [if_neg c16] at H
                  exact absurd H (by simp)
              · rw [if_neg c15] at H
                exact absurd H (by simp)
            · rw [if_neg c14] at H
              have c14b0 : decide (0 ≤ t103) = false := decide_eq_false c14
              clear c14
              have H' := Aside0.mk H
              clear H
              obtain ⟨HGz21, hgz21⟩ := HI0.out
              have hcz21_0 := cellS46_0 HGz21
              have hcz21_1 := cellS46_1 HGz21
              have hfz21_0 := blk_frozen HGz21 0
              have hfz21_1 := blk_frozen HGz21 1
              clear HGz21 hgz21
              have p6 : 0 ≤ (x1001_1 : Int) := of_decide_eq_true (by first | (with_reducible assumption) | assumption)
              have q6 : x1001_1 < (s0_0.size : Int) := of_decide_eq_true (by first | (with_reducible assumption) | assumption)
              have hx6 := bt_at s0_0 x1001_1
              replace p6 := eq_true p6
              replace q6 := eq_true q6
              go_wp2_with (first | (go_at_call 42; (with_reducible refine (sign_Space.calls (bt s0_0 x1001_1) false _ A7.out).mono ?_); rintro e w' ⟨rfl, ⟨nd, rfl⟩⟩; (try first | exact ⟨rfl, _, World.drewN_drewN _ _ _⟩ | exact ⟨rfl, _, Eq.trans (World.drewN_drewN _ _ _) (congrArg (World.drewN _) (Nat.add_assoc _ _ _))⟩)) | (go_at_call 31; (with_reducible refine (strings_IndexByte.calls a1 (bt s0_0 x1001_1) t103 _ A13.out).mono ?_); rintro e w22 ⟨rfl, hb⟩; have n0_ := Aside0.mk (IsS46.below (by repeat (first | (with_reducible first | exact HI0.out | apply IsS46.alloc | apply IsS46.drewN | apply IsS46.drew | apply IsS46.set_0 | apply IsS46.set_1) | exact HI0.out)) hb); have n1_ := Aside0.mk (KeepBut.trans (by repeat (first | (with_reducible first | exact HK.out | apply KeepBut.set_ | apply keep_drewN | apply keep_drew | apply keep_alloc) | exact HK.out)) (KeepBut.of_below hb g none) (.inl rfl)); have n2_ := Aside0.mk (below_step (by repeat (first | (with_reducible first | exact HB.out | apply below_alloc | apply pw_below_drewN | apply below_drew1 | refine below_set ?_ (IsS46.ge HI0.out)) | exact HB.out)) hb); clear HI0; clear HK; clear HB; have HI0 := n0_; have HK := n1_; have HB := n2_; clear n0_ n1_ n2_; (try clear hb); (try clear hb2); (try clear hk); (try clear hi); obtain ⟨HGz23, hgz23⟩ := HI0.out; have hcz23_0 := cellS46_0 HGz23; have hcz23_1 := cellS46_1 HGz23; have hfz23_0 := blk_frozen HGz23 0; have hfz23_1 := blk_frozen HGz23 1; clear HGz23 hgz23))
              repeat (go_quiet (first | (go_at_call 42; (with_reducible refine (sign_Space.calls (bt s0_0 x1001_1) false _ A7.out).mono ?_); rintro e w' ⟨rfl, ⟨nd, rfl⟩⟩; (try first | exact ⟨rfl, _, World.drewN_drewN _ _ _⟩ | exact ⟨rfl, _, Eq.trans (World.drewN_drewN _ _ _) (congrArg (World.drewN _) (Nat.add_assoc _ _ _))⟩)) | (go_at_call 31; (with_reducible refine (strings_IndexByte.calls a1 (bt s0_0 x1001_1) t103 _ A13.out).mono ?_); rintro e w22 ⟨rfl, hb⟩; have n0_ := Aside0.mk (IsS46.below (by repeat (first | (with_reducible first | exact HI0.out | apply IsS46.alloc | apply IsS46.drewN | apply IsS46.drew | apply IsS46.set_0 | apply IsS46.set_1) | exact HI0.out)) hb); have n1_ := Aside0.mk (KeepBut.trans (by repeat (first | (with_reducible first | exact HK.out | apply KeepBut.set_ | apply keep_drewN | apply keep_drew | apply keep_alloc) | exact HK.out)) (KeepBut.of_below hb g none) (.inl rfl)); have n2_ := Aside0.mk (below_step (by repeat (first | (with_reducible first | exact HB.out | apply below_alloc | apply pw_below_drewN | apply below_drew1 | refine below_set ?_ (IsS46.ge HI0.out)) | exact HB.out)) hb); clear HI0; clear HK; clear HB; have HI0 := n0_; have HK := n1_; have HB := n2_; clear n0_ n1_ n2_; (try clear hb); (try clear hb2); (try clear hk); (try clear hi); obtain ⟨HGz23, hgz23⟩ := HI0.out; have hcz23_0 := cellS46_0 HGz23; have hcz23_1 := cellS46_1 HGz23; have hfz23_0 := blk_frozen HGz23 0; have hfz23_1 := blk_frozen HGz23 1; clear HGz23 hgz23)); try go_wp2_with (first | (go_at_call 42; (with_reducible refine (sign_Space.calls (bt s0_0 x1001_1) false _ A7.out).mono ?_); rintro e w' ⟨rfl, ⟨nd, rfl⟩⟩; (try first | exact ⟨rfl, _, World.drewN_drewN _ _ _⟩ | exact ⟨rfl, _, Eq.trans (World.drewN_drewN _ _ _) (congrArg (World.drewN _) (Nat.add_assoc _ _ _))⟩)) | (go_at_call 31; (with_reducible refine (strings_IndexByte.calls a1 (bt s0_0 x1001_1) t103 _ A13.out).mono ?_); rintro e w22 ⟨rfl, hb⟩; have n0_ := Aside0.mk (IsS46.below (by repeat (first | (with_reducible first | exact HI0.out | apply IsS46.alloc | apply IsS46.drewN | apply IsS46.drew | apply IsS46.set_0 | apply IsS46.set_1) | exact HI0.out)) hb); have n1_ := Aside0.mk (KeepBut.trans (by repeat (first | (with_reducible first | exact HK.out | apply KeepBut.set_ | apply keep_drewN | apply keep_drew | apply keep_alloc) | exact HK.out)) (KeepBut.of_below hb g none) (.inl rfl)); have n2_ := Aside0.mk (below_step (by repeat (first | (with_reducible first | exact HB.out | apply below_alloc | apply pw_below_drewN | apply below_drew1 | refine below_set ?_ (IsS46.ge HI0.out)) | exact HB.out)) hb); clear HI0; clear HK; clear HB; have HI0 := n0_; have HK := n1_; have HB := n2_; clear n0_ n1_ n2_; (try clear hb); (try clear hb2); (try clear hk); (try clear hi); obtain ⟨HGz23, hgz23⟩ := HI0.out; have hcz23_0 := cellS46_0 HGz23; have hcz23_1 := cellS46_1 HGz23; have hfz23_0 := blk_frozen HGz23 0; have hfz23_1 := blk_frozen HGz23 1; clear HGz23 hgz23)))
              go_roundg k1
              case measure => have := HK1.out; omega
              case rel => exact ⟨(wrap64 (x1001_1 + 1)), H', ⟨by have := HK1.out; omega⟩, ⟨by repeat (first | (with_reducible first | exact HI0.out | apply IsS46.alloc | apply IsS46.drewN | apply IsS46.drew | apply IsS46.set_0 | apply IsS46.set_1) | exact HI0.out)⟩, ⟨by repeat (first | (with_reducible first | exact HK.out | apply KeepBut.set_ | apply keep_drewN | apply keep_drew | apply keep_alloc) | exact HK.out)⟩, ⟨by repeat (first | (with_reducible first | exact HB.out | apply below_alloc | apply pw_below_drewN | apply below_drew1 | refine below_set ?_ (IsS46.ge HI0.out)) | exact HB.out)⟩⟩
        · rw [if_neg c5] at H
          exact absurd H (by simp)
      · rw [if_neg c4] at H
        have c4b0 : decide (x1001_1 < (s0_0.size : Int)) = false := decide_eq_false c4
        clear c4
        by_cases c24 : 0 ≤ s0_1
        · rw [if_pos c24] at H
          have c24b0 := eq_true c24
          have c24b1 : decide (0 ≤ s0_1) = true := decide_eq_true c24
          clear c24
          by_cases c25 : s0_1 ≤ x1001_1
          · rw [if_pos c25] at H
            have c25b0 := eq_true c25
            have c25b1 : decide (s0_1 ≤ x1001_1) = true := decide_eq_true c25
            clear c25
            by_cases c26 : x1001_1 ≤ (s0_0.size : Int)
            · rw [if_pos c26] at H
              have c26b0 := eq_true c26
              have c26b1 : decide (x1001_1 ≤ (s0_0.size : Int)) = true := decide_eq_true c26
              clear c26
              simp only [Option.some.injEq, Prod.mk.injEq] at H
              obtain ⟨rfl, rfl, rfl⟩ := H
              obtain ⟨HGz27, hgz27⟩ := HI0.out
              have hcz27_0 := cellS46_0 HGz27
              have hcz27_1 := cellS46_1 HGz27
              have hfz27_0 := blk_frozen HGz27 0
              have hfz27_1 := blk_frozen HGz27 1
              clear HGz27 hgz27
              go_wp2
              repeat (go_quiet (fail); try go_wp2)
              go_ret
              exact ⟨by first | rfl | (simp [errW_none, errW_some] <;> rfl) | (simp [*, errW_none, errW_some] <;> rfl), by repeat (first | (with_reducible first | exact HI0.out | apply IsS46.alloc | apply IsS46.drewN | apply IsS46.drew | apply IsS46.set_0 | apply IsS46.set_1) | exact HI0.out), by repeat (first | (with_reducible first | exact HB.out | apply below_alloc | apply pw_below_drewN | apply below_drew1 | refine below_set ?_ (IsS46.ge HI0.out)) | exact HB.out), by repeat (first | (with_reducible first | exact HK.out | apply KeepBut.set_ | apply keep_drewN | apply keep_drew | apply keep_alloc) | exact HK.out)⟩
            · rw [if_neg c26] at H
              exact absurd H (by simp)
          · rw [if_neg c25] at H
            exact absurd H (by simp)
        · rw [if_neg c24] at H
          exact absurd H (by simp)

end Go.Proofs.YtdheknlnhfegnaaGreatDoor.Sx
