/-
  Hand walks: strings.IndexRune of four blanks at a sign beyond ASCII; a range over a string in whatever world; strings.IndexAny of four blanks.
-/
import Derived.Test.YtajfpegacbohdaaDoorHaDo1
import Derived.RangeFuncOwn
import Derived.RangeFuncKeeps
import Derived.Laws.Runes
import Derived.Laws.RangeString
import Derived.Lib.IndexAny
import Derived.LoopN
import Derived.Deep.LoopGhost
namespace Go.Proofs.YtajfpegacbohdaaDoor.Hand
open Go.RowKit Go.Proofs.YtajfpegacbohdaaDoor.K0 Go.Proofs.YtajfpegacbohdaaDoor.Pl Go.Proofs.YtajfpegacbohdaaDoor.Pb Go.Proofs.YtajfpegacbohdaaDoor.Sa Go.Proofs.YtajfpegacbohdaaDoor.Pure Go.Proofs.YtajfpegacbohdaaDoorW.PrintWords Go.Proofs.YtajfpegacbohdaaDoorW.PrintLast Go.Proofs.YtajfpegacbohdaaDoorW.PrintMore

/-- a range over a string, at any sign -/
theorem run_next_gen {P : Program} (W : World) (b : Nat) (s : ByteArray) (pos : Nat) (ty : TypeId) (hb : W.heap[b]? = some (.stringIter s pos)) (h : pos < s.size) :
    (Instr.next (.pointer (some ⟨b, 0, none⟩)) true ty).run P W =
      .ok (.tuple #[.bool true, .int .i64 pos, .int .i32 ((Utf8.decode s pos).1 : Nat)]) (W.putObj b (.stringIter s (pos + (Utf8.decode s pos).2))) := by
  simp [Instr.next, getObj, setObj, Sem.run, hb, h, World.putObj, goInt]
theorem run_next_stop {P : Program} (W : World) (b : Nat) (s : ByteArray) (pos : Nat) (ty : TypeId) (hb : W.heap[b]? = some (.stringIter s pos)) (h : ¬ pos < s.size) :
    (Instr.next (.pointer (some ⟨b, 0, none⟩)) true ty).run P W = .ok (.tuple #[.bool false]) W := by
  simp [Instr.next, getObj, Sem.run, hb, h]
def chB : ByteArray := ⟨#[32, 9, 10, 12]⟩
set_option maxRecDepth 100000 in
set_option maxHeartbeats 4000000 in
theorem irune_bad (w : World) : Calls Tryd.prog 40 #[.string ⟨#[32, 9, 10, 12]⟩, .int .i32 65533] w fun e w' => e = .returned (.int .i64 (-1)) ∧ Below w.heap.size w w' := by
  have n0 : ∀ ty, (Instr.next (.pointer (some ⟨w.heap.size, 0, none⟩)) true ty).run Tryd.prog (w.iter ⟨#[32, 9, 10, 12]⟩ 0) = .ok (.tuple #[.bool true, .int .i64 0, .int .i32 32]) (w.iter ⟨#[32, 9, 10, 12]⟩ 1) := fun ty => run_next_ascii (P := Tryd.prog) w ⟨#[32, 9, 10, 12]⟩ 0 ty (by decide) (by decide)
  have n1 : ∀ ty, (Instr.next (.pointer (some ⟨w.heap.size, 0, none⟩)) true ty).run Tryd.prog (w.iter ⟨#[32, 9, 10, 12]⟩ 1) = .ok (.tuple #[.bool true, .int .i64 1, .int .i32 9]) (w.iter ⟨#[32, 9, 10, 12]⟩ 2) := fun ty => run_next_ascii (P := Tryd.prog) w ⟨#[32, 9, 10, 12]⟩ 1 ty (by decide) (by decide)
  have n2 : ∀ ty, (Instr.next (.pointer (some ⟨w.heap.size, 0, none⟩)) true ty).run Tryd.prog (w.iter ⟨#[32, 9, 10, 12]⟩ 2) = .ok (.tuple #[.bool true, .int .i64 2, .int .i32 10]) (w.iter ⟨#[32, 9, 10, 12]⟩ 3) := fun ty => run_next_ascii (P := Tryd.prog) w ⟨#[32, 9, 10, 12]⟩ 2 ty (by decide) (by decide)
  have n3 : ∀ ty, (Instr.next (.pointer (some ⟨w.heap.size, 0, none⟩)) true ty).run Tryd.prog (w.iter ⟨#[32, 9, 10, 12]⟩ 3) = .ok (.tuple #[.bool true, .int .i64 3, .int .i32 12]) (w.iter ⟨#[32, 9, 10, 12]⟩ 4) := fun ty => run_next_ascii (P := Tryd.prog) w ⟨#[32, 9, 10, 12]⟩ 3 ty (by decide) (by decide)
  have n4 := fun ty => run_next_end (P := Tryd.prog) w ⟨#[32, 9, 10, 12]⟩ 4 ty (by decide)
  go_enter Tryd.func40, Tryd.ntmps40
  go_wp2_with fail
  refine wp_loop_rounds 5 ?_
  rw [rounds_succ]
  go_wp2_with fail
  rw [rounds_succ]
  go_wp2_with fail
  rw [rounds_succ]
  go_wp2_with fail
  rw [rounds_succ]
  go_wp2_with fail
  rw [rounds_succ]
  go_wp2_with fail
  go_ret
  exact ⟨rfl, (Below.refl _ w).alloc (Nat.le_refl _) _⟩
theorem quiet_add {P : Program} {f : FuncId} {args : Array Value} {w : World} {a n : Nat} {v : Value}
    (h : Calls P f args (w.drewN (a + n)) fun e w' => e = .returned v ∧ w' = w.drewN (a + n)) :
    Calls P f args (w.drewN (a + n)) fun e w'' => e = .returned v ∧ ∃ m, w'' = w.drewN (a + m) :=
  h.mono fun _ _ ⟨he, hm⟩ => ⟨he, n, hm⟩
theorem idx_none : ∀ (l : List UInt8) (c : UInt8), (∀ b ∈ l, b ≠ c) → Lib.indexByte l c = -1 := by
  intro l c
  induction l with
  | nil => intro _; rfl
  | cons b l ih =>
    intro h
    have hb : (b == c) = false := by simpa using h b (by simp)
    simp [Lib.indexByte, hb, ih (fun x hx => h x (by simp [hx]))]
set_option maxRecDepth 100000 in
set_option maxHeartbeats 4000000 in
theorem irune_good (r : Int) (w : World) (h0 : 128 ≤ r) (h1 : r < 2147483648) (hv : Utf8.valid r = true) (hn : r ≠ 65533) :
    Calls Tryd.prog 40 #[.string ⟨#[32, 9, 10, 12]⟩, .int .i32 r] w fun e w' => e = .returned (.int .i64 (-1)) ∧ Below w.heap.size w w' := by
  obtain ⟨z2, z4, zl⟩ := encode_facts r hv h0
  obtain ⟨E, hE⟩ : ∃ E, Utf8.encode r = E := ⟨_, rfl⟩
  rw [hE] at z2 z4 zl
  have V := Lib.hid (Tryd.utf8_ValidRune r)
  rw [show Lib.validRune r = true by simp only [Utf8.valid, Lib.validRune] at hv ⊢; simp at hv ⊢; omega] at V
  have e0 : decide (r < 128) = false := by simp; omega
  have e1 : (r == 65533) = false := by rw [beq_eq_false_iff_ne]; exact hn
  have e2 : decide (0 ≤ r) = true := by simp; omega
  rcases (show E.size = 2 ∨ E.size = 3 ∨ E.size = 4 by omega) with hz | hz | hz
  · have zq : ∃ c : UInt8, ∃ h : 1 < E.size, E[1]'h = c ∧ 128 ≤ c.toNat := ⟨_, by omega, rfl, by have := zl (by omega); simpa only [hz] using this⟩
    obtain ⟨c, hc, hcE, hc8⟩ := zq
    have e3 : ((((⟨#[32, 9, 10, 12]⟩ : ByteArray)[1]'(by decide)).toNat : Int) != (c.toNat : Int)) = true := by
      show ((9 : Int) != (c.toNat : Int)) = true
      rw [bne_iff_ne]; omega
    have CI : ∀ (W : World) (k : Nat), Calls Tryd.prog 56 #[.string ((⟨#[32, 9, 10, 12]⟩ : ByteArray).extract 2 4), .int .u8 (c.toNat : Int)] (W.drewN k) fun e w' => e = .returned (.int .i64 (-1)) ∧ w' = W.drewN k := by
      intro W k
      have := Tryd.strings_IndexByte ((⟨#[32, 9, 10, 12]⟩ : ByteArray).extract 2 4) (c.toNat : Int) (W.drewN k)
      rw [idx_none _ _ (by
        intro b hb e
        have hb' := mem_extract hb
        have : ∀ x ∈ (⟨#[32, 9, 10, 12]⟩ : ByteArray).data.toList, x.toNat < 128 := by decide
        have := this b hb'
        rw [e] at this
        simp at this; omega)] at this
      exact this
    have HCI := Lib.hid CI
    clear zl CI
    go_enter Tryd.func40, Tryd.ntmps40
    go_wp2_with fail
    refine (V.out _).mono ?_
    rintro e w' ⟨rfl, rfl⟩
    go_wp2_with fail
    go_step3
    go_wp2_with fail
    refine wp_loop_rounds 1 ?_
    rw [rounds_succ]
    go_wp2_with fail
    go_step3
    go_wp2_with fail
    go_quiet (fail)
    go_wp2_with fail
    go_quiet ((go_at_call 56; exact quiet_add (HCI.out _ _)))
    go_wp2_with fail
    rw [Exit.noGoto_ret]
    go_wp2_with fail
    rw [Exit.noGoto_ret]
    go_wp2_with fail
    go_ret
    exact ⟨rfl, below_drewN _ _⟩
  · have zq : ∃ c : UInt8, ∃ h : 2 < E.size, E[2]'h = c ∧ 128 ≤ c.toNat := ⟨_, by omega, rfl, by have := zl (by omega); simpa only [hz] using this⟩
    obtain ⟨c, hc, hcE, hc8⟩ := zq
    have e3 : ((((⟨#[32, 9, 10, 12]⟩ : ByteArray)[2]'(by decide)).toNat : Int) != (c.toNat : Int)) = true := by
      show ((10 : Int) != (c.toNat : Int)) = true
      rw [bne_iff_ne]; omega
    have CI : ∀ (W : World) (k : Nat), Calls Tryd.prog 56 #[.string ((⟨#[32, 9, 10, 12]⟩ : ByteArray).extract 3 4), .int .u8 (c.toNat : Int)] (W.drewN k) fun e w' => e = .returned (.int .i64 (-1)) ∧ w' = W.drewN k := by
      intro W k
      have := Tryd.strings_IndexByte ((⟨#[32, 9, 10, 12]⟩ : ByteArray).extract 3 4) (c.toNat : Int) (W.drewN k)
      rw [idx_none _ _ (by
        intro b hb e
        have hb' := mem_extract hb
        have : ∀ x ∈ (⟨#[32, 9, 10, 12]⟩ : ByteArray).data.toList, x.toNat < 128 := by decide
        have := this b hb'
        rw [e] at this
        simp at this; omega)] at this
      exact this
    have HCI := Lib.hid CI
    clear zl CI
    go_enter Tryd.func40, Tryd.ntmps40
    go_wp2_with fail
    refine (V.out _).mono ?_
    rintro e w' ⟨rfl, rfl⟩
    go_wp2_with fail
    go_step3
    go_wp2_with fail
    refine wp_loop_rounds 1 ?_
    rw [rounds_succ]
    go_wp2_with fail
    go_step3
    go_wp2_with fail
    go_quiet (fail)
    go_wp2_with fail
    go_quiet ((go_at_call 56; exact quiet_add (HCI.out _ _)))
    go_wp2_with fail
    rw [Exit.noGoto_ret]
    go_wp2_with fail
    rw [Exit.noGoto_ret]
    go_wp2_with fail
    go_ret
    exact ⟨rfl, below_drewN _ _⟩
  · have zq : ∃ c : UInt8, ∃ h : 3 < E.size, E[3]'h = c ∧ 128 ≤ c.toNat := ⟨_, by omega, rfl, by have := zl (by omega); simpa only [hz] using this⟩
    obtain ⟨c, hc, hcE, hc8⟩ := zq
    have e3 : ((((⟨#[32, 9, 10, 12]⟩ : ByteArray)[3]'(by decide)).toNat : Int) != (c.toNat : Int)) = true := by
      show ((12 : Int) != (c.toNat : Int)) = true
      rw [bne_iff_ne]; omega
    have CI : ∀ (W : World) (k : Nat), Calls Tryd.prog 56 #[.string ((⟨#[32, 9, 10, 12]⟩ : ByteArray).extract 4 4), .int .u8 (c.toNat : Int)] (W.drewN k) fun e w' => e = .returned (.int .i64 (-1)) ∧ w' = W.drewN k := by
      intro W k
      have := Tryd.strings_IndexByte ((⟨#[32, 9, 10, 12]⟩ : ByteArray).extract 4 4) (c.toNat : Int) (W.drewN k)
      rw [idx_none _ _ (by
        intro b hb e
        have hb' := mem_extract hb
        have : ∀ x ∈ (⟨#[32, 9, 10, 12]⟩ : ByteArray).data.toList, x.toNat < 128 := by decide
        have := this b hb'
        rw [e] at this
        simp at this; omega)] at this
      exact this
    have HCI := Lib.hid CI
    clear zl CI
    go_enter Tryd.func40, Tryd.ntmps40
    go_wp2_with fail
    refine (V.out _).mono ?_
    rintro e w' ⟨rfl, rfl⟩
    go_wp2_with fail
    go_step3
    go_wp2_with fail
    refine wp_loop_rounds 1 ?_
    rw [rounds_succ]
    go_wp2_with fail
    go_step3
    go_wp2_with fail
    go_quiet (fail)
    go_wp2_with fail
    go_quiet ((go_at_call 56; exact quiet_add (HCI.out _ _)))
    go_wp2_with fail
    rw [Exit.noGoto_ret]
    go_wp2_with fail
    rw [Exit.noGoto_ret]
    go_wp2_with fail
    go_ret
    exact ⟨rfl, below_drewN _ _⟩

/-- any sign beyond ASCII that a text may hold -/
theorem irune_any (r : Nat) (w : World) (h0 : 128 ≤ r) (hv : Utf8.valid (r : Int) = true) :
    Calls Tryd.prog 40 #[.string ⟨#[32, 9, 10, 12]⟩, .int .i32 (r : Int)] w fun e w' => e = .returned (.int .i64 (-1)) ∧ Below w.heap.size w w' := by
  by_cases h : r = 65533
  · subst h; exact irune_bad w
  · refine irune_good (r : Int) w (by omega) ?_ hv (by omega)
    simp [Utf8.valid] at hv; omega
/-- what a decoded sign beyond ASCII is -/
def HighAt (s : ByteArray) (i : Nat) (d : Nat × Nat) : Prop :=
  128 ≤ d.1 ∧ Utf8.valid (d.1 : Int) = true ∧ 1 ≤ d.2 ∧ i + d.2 ≤ s.size ∧ ∀ j (hj : j < s.size), i ≤ j → j < i + d.2 → 128 ≤ (s[j]'hj).toNat
theorem high_bad (s : ByteArray) (i : Nat) (h : i < s.size) (hc : 128 ≤ (s[i]'h).toNat) : HighAt s i (65533, 1) := by
  refine ⟨by decide, by decide, by decide, by show i + 1 ≤ s.size; omega, fun j hj h1 h2 => ?_⟩
  obtain rfl : j = i := by simp only at h2; omega
  exact hc
theorem get_at (s : ByteArray) (k : Nat) (hk : k < s.size) : s.get! k = s[k]'hk := by
  simp [ByteArray.get!, getElem!_pos, hk]
  rfl
def contAt (s : ByteArray) (k : Nat) : Bool := decide (k < s.size) && (s.get! k).toNat / 64 == 2
theorem cont_high {s : ByteArray} {k : Nat} (h : contAt s k = true) : ∃ hk : k < s.size, 128 ≤ (s[k]'hk).toNat := by
  simp only [contAt, Bool.and_eq_true, decide_eq_true_eq, beq_iff_eq] at h
  refine ⟨h.1, ?_⟩
  have := h.2
  rw [get_at s k h.1] at this
  omega
theorem decode_high (s : ByteArray) (i : Nat) (h : i < s.size) (hc : 128 ≤ (s[i]'h).toNat) : HighAt s i (Utf8.decode s i) := by
  have hb := high_bad s i h hc
  have hlt := (s[i]'h).toNat_lt
  have e0 : s.get! (i + 0) = s[i]'h := get_at s i h
  unfold Utf8.decode
  simp only [e0]
  rw [if_neg (by omega)]
  change HighAt s i (if ((s[i]'h).toNat / 32 == 6 && contAt s (i + 1)) = true then _ else if ((s[i]'h).toNat / 16 == 14 && contAt s (i + 1) && contAt s (i + 2)) = true then _ else if ((s[i]'h).toNat / 8 == 30 && contAt s (i + 1) && contAt s (i + 2) && contAt s (i + 3)) = true then _ else _)
  split
  · rename_i hh
    simp only [Bool.and_eq_true, beq_iff_eq] at hh
    obtain ⟨h1, g1⟩ := cont_high hh.2
    split
    · rename_i hge
      refine ⟨hge, ?_, by show 1 ≤ 2; omega, by show i + 2 ≤ s.size; omega, fun j hj a b => ?_⟩
      · simp [Utf8.valid]; omega
      · simp only at b
        rcases (show j = i ∨ j = i + 1 by omega) with rfl | rfl
        · exact hc
        · exact g1
    · exact hb
  · split
    · rename_i _ hh
      simp only [Bool.and_eq_true, beq_iff_eq] at hh
      obtain ⟨h1, g1⟩ := cont_high hh.1.2
      obtain ⟨h2, g2⟩ := cont_high hh.2
      split
      · rename_i hge
        simp only [Bool.and_eq_true, decide_eq_true_eq] at hge
        refine ⟨by simp only; omega, hge.2, by show 1 ≤ 3; omega, by show i + 3 ≤ s.size; omega, fun j hj a b => ?_⟩
        simp only at b
        rcases (show j = i ∨ j = i + 1 ∨ j = i + 2 by omega) with rfl | rfl | rfl
        · exact hc
        · exact g1
        · exact g2
      · exact hb
    · split
      · rename_i _ _ hh
        simp only [Bool.and_eq_true, beq_iff_eq] at hh
        obtain ⟨h1, g1⟩ := cont_high hh.1.1.2
        obtain ⟨h2, g2⟩ := cont_high hh.1.2
        obtain ⟨h3, g3⟩ := cont_high hh.2
        split
        · rename_i hge
          simp only [Bool.and_eq_true, decide_eq_true_eq] at hge
          refine ⟨by simp only; omega, hge.2, by show 1 ≤ 4; omega, by show i + 4 ≤ s.size; omega, fun j hj a b => ?_⟩
          simp only at b
          rcases (show j = i ∨ j = i + 1 ∨ j = i + 2 ∨ j = i + 3 by omega) with rfl | rfl | rfl | rfl
          · exact hc
          · exact g1
          · exact g2
          · exact g3
        · exact hb
      · exact hb

/-! ### strings.IndexAny -/
theorem below_putObj {w W : World} {b : Nat} {o : Obj} (h : Below w.heap.size w W) (hb : w.heap.size ≤ b) : Below w.heap.size w (W.putObj b o) :=
  h.grown (grownBy_putObj' W b o) h.size (fun k e => by cases e; exact hb)
def wordLen (s : List UInt8) : Nat := (s.takeWhile (fun c => !isSp c)).length
theorem indexAny_word : ∀ s : List UInt8, Lib.indexAny s blanks = if wordLen s < s.length then (wordLen s : Int) else -1 := by
  intro s
  induction s with
  | nil => rfl
  | cons c r ih =>
    unfold wordLen at ih ⊢
    rw [Lib.indexAny, blanks_sp, List.takeWhile_cons]
    by_cases h : isSp c = true
    · simp [h]
    · have h' : isSp c = false := by simpa using h
      rw [ih]
      simp only [h', Bool.not_false, if_true, Bool.false_eq_true, if_false, List.length_cons]
      split
      · rename_i hl
        rw [if_neg (by first | (simp; done) | (simp; omega)), if_pos (by omega)]
        try rfl
      · rename_i hl
        rw [if_pos (by simp), if_neg (by omega)]
/-- no blank ahead of i -/
def NoSp (s : ByteArray) (i : Nat) : Prop := ∀ j (hj : j < s.size), j < i → isSp (s[j]'hj) = false
theorem word_at {l : List UInt8} {i : Nat} (hi : i < l.length) (h : ∀ j (hj : j < l.length), j < i → isSp l[j] = false) (hs : isSp l[i] = true) : wordLen l = i := by
  induction l generalizing i with
  | nil => simp at hi
  | cons c r ih =>
    unfold wordLen at ih ⊢
    rw [List.takeWhile_cons]
    cases i with
    | zero =>
      have : isSp c = true := by simpa using hs
      simp [this]
    | succ i =>
      have h0 : isSp c = false := h 0 (by simp) (by omega)
      have := ih (i := i) (by simpa using hi) (fun j hj hl => h (j + 1) (by simpa using hj) (by omega)) hs
      simp [h0, this]
theorem word_all {l : List UInt8} (h : ∀ j (hj : j < l.length), isSp l[j] = false) : wordLen l = l.length := by
  induction l with
  | nil => rfl
  | cons c r ih =>
    have h0 : isSp c = false := h 0 (by simp)
    have := ih (fun j hj => h (j + 1) (by simpa using hj))
    unfold wordLen at this ⊢
    simp [h0, this]
theorem sp_ascii {c : UInt8} (h : isSp c = true) : c.toNat < 128 := by
  have : ∀ n : Fin 256, isSp (UInt8.ofNat n.val) = true → (UInt8.ofNat n.val).toNat < 128 := by decide +kernel
  have h' := this ⟨c.toNat, c.toNat_lt⟩
  simpa using h' (by simpa using h)
theorem ibyte_sp (c : UInt8) : decide (0 ≤ Lib.indexByte (⟨#[32, 9, 10, 12]⟩ : ByteArray).data.toList c) = isSp c := by
  have : ∀ n : Fin 256, decide (0 ≤ Lib.indexByte (⟨#[32, 9, 10, 12]⟩ : ByteArray).data.toList (UInt8.ofNat n.val)) = isSp (UInt8.ofNat n.val) := by decide +kernel
  have h' := this ⟨c.toNat, c.toNat_lt⟩
  simpa using h'
def wordI (s : List UInt8) : Int := if wordLen s < s.length then (wordLen s : Int) else -1
set_option maxRecDepth 100000 in
set_option maxHeartbeats 8000000 in
theorem iany_short (s : ByteArray) (w : World) (h8 : s.size ≤ 8) :
    Calls Tryd.prog 18 #[.string s, .string ⟨#[32, 9, 10, 12]⟩] w fun e w' => e = .returned (.int .i64 (wordI s.data.toList)) ∧ Below w.heap.size w w' := by
  have h8z : decide ((8 : Int) < (s.size : Int)) = false := decide_eq_false (by omega)
  have SU := Lib.hid (Tryd.strings_shouldUseASCIISet (s.size : Int))
  rw [h8z] at SU
  go_enter Tryd.func18, Tryd.ntmps18
  go_wp2_with fail
  refine (SU.out _).mono ?_
  rintro e w' ⟨rfl, rfl⟩
  go_wp2_with fail
  go_loopg [9, 10] s.size (fun g _ _ wx => ∃ i : Nat, i + g = s.size ∧ wx.heap[w'.heap.size]? = some (.stringIter s i) ∧ Hid (NoSp s i) ∧ Hid (Below w'.heap.size w' wx))
  case atStart => exact ⟨0, by omega, World.iter_heap _ _ _, Lib.hid (fun j hj h => by omega), Lib.hid ((Below.refl _ _).alloc (Nat.le_refl _) _)⟩
  case round =>
    obtain ⟨i, hig, hit, hno, hbl⟩ := hrel
    cases gk with
    | zero =>
      obtain rfl : i = s.size := by omega
      have hnx := fun ty => run_next_stop (P := Tryd.prog) _ w'.heap.size s s.size ty hit (by omega)
      clear hit
      go_wp2_with fail
      go_ret
      refine ⟨?_, hbl.out⟩
      have e : wordLen s.data.toList = s.data.toList.length := word_all (fun j hj => hno.out j (by simpa using hj) (by simpa using hj))
      unfold wordI
      rw [e, if_neg (by omega)]; rfl
    | succ g =>
      have hi : i < s.size := by omega
      have hil : i < s.data.toList.length := by rw [Array.length_toList]; exact hi
      by_cases h128 : (s[i]'hi).toNat < 128
      · have hd := decode_ascii s i hi h128
        have hnx := fun ty => run_next_gen (P := Tryd.prog) _ w'.heap.size s i ty hit hi
        rw [hd] at hnx
        simp only at hnx
        have hlt2 := (Array.getElem?_eq_some_iff.1 hit).1
        have HI := Lib.hid hit
        obtain ⟨q, hq⟩ : ∃ q, Lib.indexByte (⟨#[32, 9, 10, 12]⟩ : ByteArray).data.toList (s[i]'hi) = q := ⟨_, rfl⟩
        have IR : ∀ W, Calls Tryd.prog 40 #[.string ⟨#[32, 9, 10, 12]⟩, .int .i32 ((s[i]'hi).toNat : Int)] W fun e w' => e = .returned (.int .i64 q) ∧ w' = W := by
          intro W
          have := Tryd.strings_IndexRune_ascii ⟨#[32, 9, 10, 12]⟩ ((s[i]'hi).toNat : Int) W (by omega) (by omega)
          rw [Int.toNat_natCast, show (s[i]'hi).toNat.toUInt8 = s[i]'hi by simp, hq] at this
          exact this
        have hsp := ibyte_sp (s[i]'hi)
        rw [hq] at hsp
        have HIR := Lib.hid IR
        have hbl2 := Lib.hid (below_putObj (b := w'.heap.size) (o := .stringIter s (i + 1)) hbl.out (Nat.le_refl _))
        have hput := World.putObj_heap_same (o := .stringIter s (i + 1)) hlt2
        have HP := Lib.hid hput
        clear hit hd IR hq hbl hput
        cases hs : isSp (s[i]'hi) with
        | true =>
          rw [hs] at hsp
          have HS := Lib.hid hs
          clear hs
          go_wp2_with fail
          refine (HIR.out _).mono ?_
          rintro e w2 ⟨rfl, rfl⟩
          go_wp2_with fail
          go_ret
          refine ⟨?_, hbl2.out⟩
          have e : wordLen s.data.toList = i := word_at hil (fun j hj hl => hno.out j (by simpa using hj) hl) HS.out
          unfold wordI
          rw [e, if_pos hil]; rfl
        | false =>
          rw [hs] at hsp
          have HNS : Hid (NoSp s (i + 1)) := Lib.hid (fun j hj hl => by
            by_cases e : j = i
            · subst e; exact hs
            · exact hno.out j hj (by omega))
          clear hs hno
          go_wp2_with fail
          refine (HIR.out _).mono ?_
          rintro e w2 ⟨rfl, rfl⟩
          go_wp2_with fail
          go_roundg g
          case measure => omega
          case rel => exact ⟨i + 1, by omega, HP.out, HNS, hbl2⟩
      · have hd := decode_high s i hi (by omega)
        have hnx := fun ty => run_next_gen (P := Tryd.prog) _ w'.heap.size s i ty hit hi
        obtain ⟨⟨c, k⟩, hck⟩ : ∃ d, Utf8.decode s i = d := ⟨_, rfl⟩
        rw [hck] at hd hnx
        obtain ⟨d1, d2, d3, d4, d5⟩ := hd
        simp only at hnx d1 d2 d3 d4 d5
        have hlt2 := (Array.getElem?_eq_some_iff.1 hit).1
        have HIR := Lib.hid (fun W => irune_any c W d1 d2)
        have hbl2 := Lib.hid (below_putObj (b := w'.heap.size) (o := .stringIter s (i + k)) hbl.out (Nat.le_refl _))
        have hput := World.putObj_heap_same (o := .stringIter s (i + k)) hlt2
        have HP := Lib.hid hput
        have HNS : Hid (NoSp s (i + k)) := Lib.hid (fun j hj hl => by
          by_cases e : j < i
          · exact hno.out j hj e
          · have := d5 j hj (by omega) hl
            rw [Bool.eq_false_iff]; intro e
            have := sp_ascii e
            omega)
        clear hit hck hbl hput d2 d5 hno
        go_wp2_with fail
        refine (HIR.out _).mono ?_
        rintro e w2 ⟨rfl, hb2⟩
        go_wp2_with fail
        go_roundg (g + 1 - k)
        case measure => omega
        case rel => exact ⟨i + k, by omega, (hb2.block _ (by simp [World.putObj]; exact hlt2)).trans HP.out, HNS, Lib.hid (hbl2.out.trans (hb2.mono hbl2.out.size))⟩
theorem iany_any (s : List UInt8) (w : World) (hs : s.length ≤ 1000000000) :
    Calls Tryd.prog 18 #[.string (B s), .string ⟨#[32, 9, 10, 12]⟩] w fun e w' => e = .returned (.int .i64 (wordI s)) ∧ Below w.heap.size w w' := by
  by_cases h : s.length ≤ 8
  · have := iany_short (B s) w (by simpa using h)
    rw [B_data] at this
    exact this
  · refine (Tryd.strings_IndexAny_long hv92 (B s) ⟨#[32, 9, 10, 12]⟩ w (by decide) (by simp; omega) (by simp; omega) (by decide) (by intro j b h; rcases j with _ | _ | _ | _ | j <;> simp at h <;> subst h <;> decide)).mono ?_
    rintro e w' ⟨h1, rfl⟩
    refine ⟨?_, ((Below.refl _ _).alloc (Nat.le_refl _) _).alloc (by simp) _⟩
    rw [h1, B_data, show (⟨#[32, 9, 10, 12]⟩ : ByteArray).data.toList = blanks from rfl, indexAny_word]; rfl
end Go.Proofs.YtajfpegacbohdaaDoor.Hand
