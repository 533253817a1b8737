/-
  Hand walks: what lies in the library's own variable (Glob); laws for a scope with one label; contracts of lines.Norm and lines.Clean.
-/
import Derived.Test.YtdheknlnhfegnaaDoorShelf
import Derived.Test.YtdheknlnhfegnaaDoorPl0
import Derived.WalkKit
import Derived.WalkSpells
import Derived.WalkLawsBesides
import Derived.WalkMore
import Derived.ScopeJumps
import Derived.Lib.Hide
namespace Go.Proofs.YtdheknlnhfegnaaDoor.Hand
open Go.RowKit Go.Proofs.YtdheknlnhfegnaaDoor.Pl

/-- internal/bytealg.MaxLen holds some int. -/
structure Glob (w : World) : Prop where
  mk ::
  out : ∃ m, w.cell? ⟨0, 0, none⟩ = some (.int .i64 m)
  err : ∃ ev, w.cell? ⟨1, 0, none⟩ = some ev ∧ (ev = .nilIface ∨ ∃ te pe, ev = .iface te pe)
theorem Glob.step {w W : World} (h : Glob w) (hb : Below w.heap.size w W) : Glob W where
  out := by
    obtain ⟨m, hm⟩ := h.out
    exact ⟨m, (hb.cell (World.block_lt_of_cell? w _ hm)).trans hm⟩
  err := by
    obtain ⟨ev, h1, h2⟩ := h.err
    exact ⟨ev, (hb.cell (World.block_lt_of_cell? w _ h1)).trans h1, h2⟩

def intOf : Value → Int | .int _ q => q | _ => 0

section
variable {P : Program} {a : Act} {w : World} {Q : Exit → Act → World → Prop}
theorem Exit_jump_mono {l : Nat} {J J' : Act → World → Prop} (h : ∀ a w, J a w → J' a w) : ∀ e a w, Exit.jump l J Q e a w → Exit.jump l J' Q e a w := by
  intro e a w hq
  cases e with
  | goto l' => exact ⟨hq.1, h _ _ hq.2⟩
  | _ => exact hq
theorem wp_scope_at {c B : Code} (l : Nat) (J : Act → World → Prop) (μ : Act → World → Nat) (hf : findLabel c l = some (.seq .skip B))
    (first : (∀ a w, J a w → B.wp P (Exit.jump l J Q) a w) → c.wp P (Exit.jump l J Q) a w)
    (pass : ∀ a w, J a w → B.wp P (Exit.jump l (fun a' w' => J a' w' ∧ μ a' w' < μ a w) Q) a w) : (Code.scope c).wp P Q a w :=
  wp_scope_jumps l J μ hf (first fun a w hJ => wp_mono (pass a w hJ) (Exit_jump_mono fun _ _ h => h.1)) fun a w hJ => wp_seq (wp_skip (pass a w hJ))
theorem wp_label_k {l : Nat} {B : Code} {K : Act → World → Prop} (hK : ∀ a w, B.wp P Q a w → K a w) (hB : B.wp P Q a w) : (Code.label l).wp P (Exit.then K Q) a w := wp_label (hK _ _ hB)
end
theorem ret_str {a b : ByteArray} (h : a = b) : Ending.returned (.string a) = .returned (.string b) := by rw [h]
theorem drop_cons (s : ByteArray) (pos : Nat) (h : pos < s.size) : s.data.toList.drop pos = s[pos] :: s.data.toList.drop (pos + 1) := by
  rw [List.drop_eq_getElem_cons (by simpa using h)]; rfl
theorem byteCells_snoc (acc : List UInt8) (c : UInt8) : Lib.byteCells acc ++ [.int .u8 (c.toNat : Int)] = Lib.byteCells (acc ++ [c]) := by
  simp [Lib.byteCells]

/-! ### lines.Norm -/
def normB (s : ByteArray) : ByteArray := ⟨(normL s.data.toList).toArray⟩
def NormJ (s : ByteArray) (w : World) (a' : Act) (wr : World) : Prop :=
  ∃ (pos : Nat) (acc : List UInt8) (u1 u5 u6 u7 u8 u9 u10 u11 u12 u13 u14 u15 u16 u17 u18 u19 u20 u21 u22 u23 u24 u25 u26 u27 u28 u29 u30 u31 u32 u33 u34 : Value),
    a' = { tmps := #[.string s, u1, .string ⟨#[]⟩, .pointer (some ⟨w.heap.size, 0, none⟩), .int .i64 pos, u5, u6, u7, u8, u9, u10, u11, u12, u13, u14, u15, u16, u17, u18, u19, u20, u21, u22, u23, u24, u25, u26, u27, u28, u29, u30, u31, u32, u33, u34], defers := [] } ∧
    Lib.IsBuilder 51 5 w.heap.size w.heap.size (Lib.byteCells acc) wr ∧ Below w.heap.size w wr ∧ pos ≤ s.size ∧ acc.length ≤ pos ∧ acc ++ normL (s.data.toList.drop pos) = normL s.data.toList

set_option maxHeartbeats 400000 in
theorem norm_any (s : ByteArray) (w : World) (hs : s.size ≤ 35184372088832) :
    Calls Tryd.prog 18 #[.string s] w fun e w' => e = .returned (.string ⟨(normL s.data.toList).toArray⟩) ∧ Below w.heap.size w w' := by
  go_enter Tryd.func18, Tryd.ntmps18
  go_wp2
  refine wp_scope_at 0 (NormJ s w) (fun a' _ => s.size - (intOf (a'.tmps.getD 4 undef)).toNat) rfl ?_ ?_
  · intro hB
    have HB := Lib.hid hB
    clear hB
    go_wp2
    refine wp_label_k (by assumption) (HB.out _ _ ?_)
    refine ⟨0, [], undef, undef, undef, undef, undef, undef, undef, undef, undef, undef, undef, undef, undef, undef, undef, undef, undef, undef, undef, undef, undef, undef, undef, undef, undef, undef, undef, undef, undef, undef, undef, rfl, Lib.fresh_isBuilder 51 5 w, (Below.refl _ w).alloc (Nat.le_refl _) _, by omega, by simp, by simp⟩
  · rintro a' wr ⟨pos, acc, u1, u5, u6, u7, u8, u9, u10, u11, u12, u13, u14, u15, u16, u17, u18, u19, u20, u21, u22, u23, u24, u25, u26, u27, u28, u29, u30, u31, u32, u33, u34, rfl, hI, hb, hp, hl, hacc⟩
    have hbs := hb.size
    by_cases hlt : pos < s.size
    · by_cases h13 : s[pos] = 13
      · have h13' : (((s[pos].toNat : Int)) != 13) = false := by rw [h13]; rfl
        have hd := drop_cons s pos hlt
        rw [h13] at hd
        have HD := Lib.hid hd
        have HA := Lib.hid hacc
        clear hd hacc h13
        go_wp2_with (go_at_call 34; refine (Tryd.Builder_WriteByte w.heap.size w.heap.size _ 10 wr hI (by rw [Lib.byteCells_length]; omega) hbs).mono ?_)
        rintro e w1 ⟨rfl, h1, b1⟩
        have HW := Lib.hid (hb.trans b1)
        have H1 := Lib.hid h1
        clear h1 b1 hb hI hbs
        go_wp2
        · rename_i hq1 hq2 hq3
          have hlt1 : pos + 1 < s.size := by omega
          have h10 : s[pos + 1] = 10 := by
            have := beq_iff_eq.1 hq3; apply UInt8.toNat_inj.1; exact Int.ofNat_inj.1 this
          have hd1 := drop_cons s (pos + 1) hlt1
          go_step3
          refine ⟨rfl, ⟨pos + 2, acc ++ [10], _, _, _, _, _, _, _, _, _, _, _, _, _, _, _, _, _, _, _, _, _, _, _, _, _, _, _, _, _, _, _, rfl, ?_, HW.out, by omega, by simp; omega, ?_⟩, ?_⟩
          · exact Or.inr (by rw [← byteCells_snoc]; exact H1.out)
          · rw [← HA.out, HD.out, hd1, h10, normL_13_10]; simp
          · simp [intOf]; omega
        · rename_i hq1 hq2 hq3
          have hlt1 : pos + 1 < s.size := by omega
          have h10 : s[pos + 1] ≠ 10 := by
            intro h; rw [h] at hq3; simp at hq3
          have hd1 := drop_cons s (pos + 1) hlt1
          go_step3
          refine ⟨rfl, ⟨pos + 1, acc ++ [10], _, _, _, _, _, _, _, _, _, _, _, _, _, _, _, _, _, _, _, _, _, _, _, _, _, _, _, _, _, _, _, rfl, ?_, HW.out, by omega, by simp; omega, ?_⟩, ?_⟩
          · exact Or.inr (by rw [← byteCells_snoc]; exact H1.out)
          · rw [← HA.out, HD.out, hd1, normL_13_ne h10]; simp
          · simp [intOf]; omega
        · have hd1 : s.data.toList.drop (pos + 1) = [] := List.drop_eq_nil_of_le (by simp; omega)
          go_step3
          refine ⟨rfl, ⟨pos + 1, acc ++ [10], _, _, _, _, _, _, _, _, _, _, _, _, _, _, _, _, _, _, _, _, _, _, _, _, _, _, _, _, _, _, _, rfl, ?_, HW.out, by omega, by simp; omega, ?_⟩, ?_⟩
          · exact Or.inr (by rw [← byteCells_snoc]; exact H1.out)
          · rw [← HA.out, HD.out, hd1, normL_13_end, normL_nil]; simp
          · simp [intOf]; omega
      · have h13' : (((s[pos].toNat : Int)) != 13) = true := by
          rw [bne_iff_ne]; intro h; apply h13; apply UInt8.toNat_inj.1; exact Int.ofNat_inj.1 h
        have hd := drop_cons s pos hlt
        have HD := Lib.hid hd
        have HA := Lib.hid hacc
        clear hd hacc
        go_wp2_with (go_at_call 34; refine (Tryd.Builder_WriteByte w.heap.size w.heap.size _ _ wr hI (by rw [Lib.byteCells_length]; omega) hbs).mono ?_)
        rintro e w1 ⟨rfl, h1, b1⟩
        have HW := Lib.hid (hb.trans b1)
        have H1 := Lib.hid h1
        clear h1 b1 hb hI hbs
        go_wp2
        go_step3
        refine ⟨rfl, ⟨pos + 1, acc ++ [s[pos]], _, _, _, _, _, _, _, _, _, _, _, _, _, _, _, _, _, _, _, _, _, _, _, _, _, _, _, _, _, _, _, rfl, ?_, HW.out, by omega, by simp; omega, ?_⟩, ?_⟩
        · exact Or.inr (by rw [← byteCells_snoc]; exact H1.out)
        · rw [← HA.out, HD.out, normL_ne h13]; simp
        · simp [intOf]; omega
    · obtain rfl : pos = s.size := by omega
      have HA := Lib.hid hacc
      clear hacc
      go_wp2_with (go_at_call 33; refine (Tryd.Builder_String_any w.heap.size w.heap.size acc wr hI hbs).mono ?_)
      rintro e w1 ⟨rfl, b1⟩
      go_wp2
      simp only [Exit.jump]
      go_ret
      have he : acc = normL s.data.toList := by rw [← HA.out, List.drop_eq_nil_of_le (by simp), normL_nil, List.append_nil]
      rw [he]
      exact ⟨rfl, hb.trans b1⟩

def lines_Norm.f (a0 : ByteArray) : Option ByteArray := if a0.size ≤ 1000000000 then some (normB a0) else none
theorem lines_Norm.calls (a0 r : ByteArray) (w : World) (h : lines_Norm.f a0 = some r) :
    Calls Tryd.prog 18 #[.string a0] w fun e w' => e = .returned (.string r) ∧ Below w.heap.size w w' := by
  unfold lines_Norm.f at h
  split at h
  · obtain rfl := Option.some.inj h
    exact norm_any a0 w (by omega)
  · cases h

/-! ### lines.Clean -/
def cleanBA (s : ByteArray) : ByteArray := ⟨(cleanL s.data.toList).toArray⟩
end Go.Proofs.YtdheknlnhfegnaaDoor.Hand
