/-
  Texts of the claim ContextPlain, merged by a program of this session (2).
-/
import Derived.Test.YtbdcghbafopjjaaGreatDoorZrContextPlaina
section
namespace Go.Proofs.YtbdcghbafopjjaaGreatDoor.Pure
open Go Go.RowKit Go.Proofs.YtbdcghbafopjjaaGreatDoor.K0 Go.Proofs.YtbdcghbafopjjaaGreatDoor.Hand Go.Proofs.YtbdcghbafopjjaaGreatDoor.Sa Go.Proofs.YtbdcghbafopjjaaGreatDoor.Sp Go.Proofs.YtbdcghbafopjjaaGreatDoorW.PrintWords Go.Proofs.YtbdcghbafopjjaaGreatDoorW.PrintMore Go.Proofs.YtbdcghbafopjjaaGreatDoor.Pl Go.Proofs.YtbdcghbafopjjaaGreatDoor.Pb
theorem int_wfc {k : IntKind} {d : Int} (h : (Lit.int k d).wf = true) : k.min ≤ d ∧ d ≤ k.max := by simpa [Lit.wf] using h
theorem parse_f (d : Int) (single : Bool) (s : List UInt8) (hs : s.length ≤ 20000) : context_Parse.f d single (B s) = some (B (parseL d single s).1, (parseL d single s).2) := by
  unfold context_Parse.f
  rw [if_pos (by rw [size_B]; exact hs), B_data]
theorem wrap_f (d : Int) (single : Bool) (s : List UInt8) (hs : s.length ≤ 20000) : context_Wrap.f d single (B s) = some (B (wrapL d single s)) := by
  unfold context_Wrap.f
  rw [if_pos (by rw [size_B]; omega), B_data]
theorem B_list (x : List UInt8) : (B x).toList = x := by rw [toList_data, B_data]
theorem awake23 : flaillaw23_awake.f = some true := by
  unfold flaillaw23_awake.f
  rw [show (⟨#[97, 60, 98, 62]⟩ : ByteArray) = B [97, 60, 98, 62] from rfl, show (⟨#[97, 62, 98]⟩ : ByteArray) = B [97, 62, 98] from rfl, show (⟨#[10, 97]⟩ : ByteArray) = B [10, 97] from rfl, show (⟨#[122]⟩ : ByteArray) = B [122] from rfl,
    parse_f _ _ _ (by decide), parse_f _ _ _ (by decide), parse_f _ _ _ (by decide), wrap_f _ _ _ (by decide), aw_2, aw_3, Option.bind_some, Option.bind_some, Option.bind_some, aw_1, if_neg (by decide), if_pos rfl, if_pos rfl,
    if_pos (B_list _), if_pos (B_list _), Option.bind_some, B_list]
  rfl
def fine (s : List UInt8) (n : Nat) : Prop := ∀ j (h : j < s.length), j < n → s[j] ≠ 60 ∧ s[j] ≠ 62 ∧ s[j] ≠ 34 ∧ s[j] ≠ 39 ∧ s[j] ≠ 38
def fine2 (s : List UInt8) (n : Nat) : Prop := ∀ j (h : j < s.length), j < n → s[j] ≠ 0 ∧ s[j] ≠ 13 ∧ (j = 0 → s[j] ≠ 10)
theorem fine_no {s : List UInt8} (h : fine s s.length) : (60 : UInt8) ∉ s ∧ (34 : UInt8) ∉ s ∧ (39 : UInt8) ∉ s ∧ (38 : UInt8) ∉ s := by
  refine ⟨?_, ?_, ?_, ?_⟩ <;> (intro hm; obtain ⟨j, hj, e⟩ := List.getElem_of_mem hm; have := h j hj hj; simp [e] at this)
theorem fine2_no {s : List UInt8} (h : fine2 s s.length) : (0 : UInt8) ∉ s ∧ (13 : UInt8) ∉ s ∧ s.head? ≠ some 10 := by
  refine ⟨?_, ?_, ?_⟩
  · intro hm; obtain ⟨j, hj, e⟩ := List.getElem_of_mem hm; have := h j hj hj; simp [e] at this
  · intro hm; obtain ⟨j, hj, e⟩ := List.getElem_of_mem hm; have := h j hj hj; simp [e] at this
  · intro hh
    cases s with
    | nil => cases hh
    | cons c r =>
      have := (h 0 (by simp) (by simp)).2.2 rfl
      simp at hh this
      exact this hh
theorem plain_l0 (s : List UInt8) (hs : s.length ≤ 300) (a0 : Int) (hk : wrap64 (Int.tmod a0 3) = 0 ∨ wrap64 (Int.tmod a0 3) = 1 ∨ wrap64 (Int.tmod a0 3) = 2) (a1 : Bool) :
    ∀ d i : Nat, s.length - i = d → i ≤ s.length → fine s i → fine2 s i → Ev (fun k => flaillaw23_ContextPlain.l0 k a0 a1 (B s) true (i : Int)) true := by
  intro d
  induction d with
  | zero =>
    intro i hd hi h1 h2
    have hie : i = s.length := by omega
    subst hie
    obtain ⟨m1, m2, m3, m4⟩ := fine_no h1
    obtain ⟨m5, m6, m7⟩ := fine2_no h2
    refine Ev.step (f := fun _ => some true) (fun k => ?_) (Ev.now _)
    rw [flaillaw23_ContextPlain.l0, if_neg (by rw [size_B]; omega), parse_f _ _ _ (by omega), parse_plain _ hk a1 m1 m2 m3 m4 m5 m6 m7, Option.bind_some, if_pos rfl, if_pos rfl]
    simp
  | succ d ih =>
    intro i hd hi h1 h2
    have hlt : i < s.length := by omega
    have hdr := List.drop_eq_getElem_cons hlt
    have hb := bt_drop s i _ _ hdr
    have q1 : (i : Int) < ((B s).size : Int) := by rw [size_B]; omega
    have q2 : (0 : Int) ≤ (i : Int) := by omega
    have out : ∀ (h : ∀ k, flaillaw23_ContextPlain.l0 (k + 1) a0 a1 (B s) true (i : Int) = some true), Ev (fun k => flaillaw23_ContextPlain.l0 k a0 a1 (B s) true (i : Int)) true := fun h => Ev.step (f := fun _ => some true) h (Ev.now _)
    have w : wrap64 ((i : Int) + 1) = ((i + 1 : Nat) : Int) := by unfold wrap64; omega
    by_cases c1 : s[i] = 60
    · exact out fun k => by rw [flaillaw23_ContextPlain.l0, if_pos q1, if_pos q2, hb, if_pos ((u8_eq 60 60 rfl).2 c1)]
    by_cases c2 : s[i] = 62
    · exact out fun k => by rw [flaillaw23_ContextPlain.l0, if_pos q1, if_pos q2, hb, if_neg (fun e => c1 ((u8_eq 60 60 rfl).1 e)), if_pos ((u8_eq 62 62 rfl).2 c2)]
    by_cases c3 : s[i] = 34
    · exact out fun k => by rw [flaillaw23_ContextPlain.l0, if_pos q1, if_pos q2, hb, if_neg (fun e => c1 ((u8_eq 60 60 rfl).1 e)), if_neg (fun e => c2 ((u8_eq 62 62 rfl).1 e)), if_pos ((u8_eq 34 34 rfl).2 c3)]
    by_cases c4 : s[i] = 39
    · exact out fun k => by rw [flaillaw23_ContextPlain.l0, if_pos q1, if_pos q2, hb, if_neg (fun e => c1 ((u8_eq 60 60 rfl).1 e)), if_neg (fun e => c2 ((u8_eq 62 62 rfl).1 e)), if_neg (fun e => c3 ((u8_eq 34 34 rfl).1 e)), if_pos ((u8_eq 39 39 rfl).2 c4)]
    by_cases c5 : s[i] = 38
    · exact out fun k => by rw [flaillaw23_ContextPlain.l0, if_pos q1, if_pos q2, hb, if_neg (fun e => c1 ((u8_eq 60 60 rfl).1 e)), if_neg (fun e => c2 ((u8_eq 62 62 rfl).1 e)), if_neg (fun e => c3 ((u8_eq 34 34 rfl).1 e)), if_neg (fun e => c4 ((u8_eq 39 39 rfl).1 e)), if_pos ((u8_eq 38 38 rfl).2 c5)]
    by_cases c6 : s[i] = 0
    · exact out fun k => by rw [flaillaw23_ContextPlain.l0, if_pos q1, if_pos q2, hb, if_neg (fun e => c1 ((u8_eq 60 60 rfl).1 e)), if_neg (fun e => c2 ((u8_eq 62 62 rfl).1 e)), if_neg (fun e => c3 ((u8_eq 34 34 rfl).1 e)), if_neg (fun e => c4 ((u8_eq 39 39 rfl).1 e)), if_neg (fun e => c5 ((u8_eq 38 38 rfl).1 e)), if_pos ((u8_eq 0 0 rfl).2 c6)]
    by_cases c7 : s[i] = 13
    · exact out fun k => by rw [flaillaw23_ContextPlain.l0, if_pos q1, if_pos q2, hb, if_neg (fun e => c1 ((u8_eq 60 60 rfl).1 e)), if_neg (fun e => c2 ((u8_eq 62 62 rfl).1 e)), if_neg (fun e => c3 ((u8_eq 34 34 rfl).1 e)), if_neg (fun e => c4 ((u8_eq 39 39 rfl).1 e)), if_neg (fun e => c5 ((u8_eq 38 38 rfl).1 e)), if_neg (fun e => c6 ((u8_eq 0 0 rfl).1 e)), if_pos ((u8_eq 13 13 rfl).2 c7)]
    have hf : fine s (i + 1) := fun j hj hji => by
      by_cases e : j = i
      · subst e; exact ⟨c1, c2, c3, c4, c5⟩
      · exact h1 j hj (by omega)
    have go : (i = 0 → s[i] ≠ 10) → Ev (fun k => flaillaw23_ContextPlain.l0 k a0 a1 (B s) true ((i + 1 : Nat) : Int)) true := fun h => ih (i + 1) (by omega) (by omega) hf (fun j hj hji => by
      by_cases e : j = i
      · subst e; exact ⟨c6, c7, h⟩
      · exact h2 j hj (by omega))
    by_cases c8 : i = 0
    · by_cases c9 : s[i] = 10
      · exact out fun k => by rw [flaillaw23_ContextPlain.l0, if_pos q1, if_pos q2, hb, if_neg (fun e => c1 ((u8_eq 60 60 rfl).1 e)), if_neg (fun e => c2 ((u8_eq 62 62 rfl).1 e)), if_neg (fun e => c3 ((u8_eq 34 34 rfl).1 e)), if_neg (fun e => c4 ((u8_eq 39 39 rfl).1 e)), if_neg (fun e => c5 ((u8_eq 38 38 rfl).1 e)), if_neg (fun e => c6 ((u8_eq 0 0 rfl).1 e)), if_neg (fun e => c7 ((u8_eq 13 13 rfl).1 e)), if_pos (by omega), if_pos ((u8_eq 10 10 rfl).2 c9)]
      · refine Ev.step (fun k => ?_) (go (fun _ => c9))
        rw [flaillaw23_ContextPlain.l0, if_pos q1, if_pos q2, hb, if_neg (fun e => c1 ((u8_eq 60 60 rfl).1 e)), if_neg (fun e => c2 ((u8_eq 62 62 rfl).1 e)), if_neg (fun e => c3 ((u8_eq 34 34 rfl).1 e)), if_neg (fun e => c4 ((u8_eq 39 39 rfl).1 e)), if_neg (fun e => c5 ((u8_eq 38 38 rfl).1 e)), if_neg (fun e => c6 ((u8_eq 0 0 rfl).1 e)), if_neg (fun e => c7 ((u8_eq 13 13 rfl).1 e)), if_pos (by omega), if_neg (fun e => c9 ((u8_eq 10 10 rfl).1 e)), w]
    · refine Ev.step (fun k => ?_) (go (fun e => absurd e c8))
      rw [flaillaw23_ContextPlain.l0, if_pos q1, if_pos q2, hb, if_neg (fun e => c1 ((u8_eq 60 60 rfl).1 e)), if_neg (fun e => c2 ((u8_eq 62 62 rfl).1 e)), if_neg (fun e => c3 ((u8_eq 34 34 rfl).1 e)), if_neg (fun e => c4 ((u8_eq 39 39 rfl).1 e)), if_neg (fun e => c5 ((u8_eq 38 38 rfl).1 e)), if_neg (fun e => c6 ((u8_eq 0 0 rfl).1 e)), if_neg (fun e => c7 ((u8_eq 13 13 rfl).1 e)), if_neg (by omega), w]
end Go.Proofs.YtbdcghbafopjjaaGreatDoor.Pure
namespace Go.Proofs.YtbdcghbafopjjaaGreatDoor.Hand
open Go Go.RowKit Go.Proofs.YtbdcghbafopjjaaGreatDoor.Pl Go.Proofs.YtbdcghbafopjjaaGreatDoor.Pb Go.Proofs.YtbdcghbafopjjaaGreatDoor.Pure Go.Proofs.YtbdcghbafopjjaaGreatDoor.Sp Go.Proofs.YtbdcghbafopjjaaGreatDoorW.PrintWords
theorem ContextPlain_law (a0 : Int) (a1 : Bool) (a2 : ByteArray) (w : World) (w0 : (Lit.int .u8 a0).wf = true) (w2 : a2.size ≤ 140737488351232) (hGl : Glob w) :
    Calls Tryz.prog 7 #[.int .u8 a0, .bool a1, .string a2] w fun e w' => e = .returned (.bool true) ∧ Below w.heap.size w w' := by
  have h : ∃ k, flaillaw23_ContextPlain.f k a0 a1 a2 = some true := by
    obtain ⟨s, rfl⟩ := exists_B a2
    by_cases hb : 300 < s.length
    · exact ⟨0, by unfold flaillaw23_ContextPlain.f; rw [awake23, Option.bind_some, if_pos (by rw [size_B]; omega)]⟩
    · have r0 : 0 ≤ a0 := Int.le_trans (by decide) (int_wfc w0).1
      have r1 : a0 ≤ 255 := Int.le_trans (int_wfc w0).2 (by decide)
      have hk : wrap64 (Int.tmod a0 3) = 0 ∨ wrap64 (Int.tmod a0 3) = 1 ∨ wrap64 (Int.tmod a0 3) = 2 := by
        rw [Int.tmod_eq_emod_of_nonneg r0]; unfold wrap64; omega
      obtain ⟨k, hk⟩ := (plain_l0 s (by omega) a0 hk a1 s.length 0 (by omega) (Nat.zero_le _) (fun j _ h => absurd h (by omega)) (fun j _ h => absurd h (by omega))).rounds
      exact ⟨k, by unfold flaillaw23_ContextPlain.f; rw [awake23, Option.bind_some, if_neg (by rw [size_B]; omega)]; exact hk⟩
  obtain ⟨k, hk⟩ := h
  exact flaillaw23_ContextPlain.calls k a0 a1 a2 true w hGl hk
end Go.Proofs.YtbdcghbafopjjaaGreatDoor.Hand
end
