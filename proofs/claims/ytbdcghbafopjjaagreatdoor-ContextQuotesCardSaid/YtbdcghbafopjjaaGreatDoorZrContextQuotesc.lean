/-
  Texts of the claim ContextQuotes, merged by a program of this session (3).
-/
import Derived.Test.YtbdcghbafopjjaaGreatDoorZrContextQuotesb
section
namespace Go.Proofs.YtbdcghbafopjjaaGreatDoor.Hand
open Go Go.RowKit Go.Proofs.YtbdcghbafopjjaaGreatDoor.Pl Go.Proofs.YtbdcghbafopjjaaGreatDoor.Pb
theorem dec_apos (attr : Bool) (r : List UInt8) : rdL attr (wApos ++ r) = 39 :: rdL attr r := by
  have := rdL_dec (attr := attr) [51, 57] r (by decide) (by decide) (m := 39) (by decide)
  exact this.trans (by rw [show (fixB 39).data.toList = [39] by decide +kernel]; rfl)
theorem dec_cr (attr : Bool) (r : List UInt8) : rdL attr (wCr ++ r) = 13 :: rdL attr r := by
  have := rdL_dec (attr := attr) [49, 51] r (by decide) (by decide) (m := 13) (by decide)
  exact this.trans (by rw [show (fixB 13).data.toList = [13] by decide +kernel]; rfl)
theorem dec_mark (attr : Bool) (r : List UInt8) : rdL attr (wMark ++ r) = 239 :: 187 :: 191 :: rdL attr r := by
  have := rdL_dec (attr := attr) [54, 53, 50, 55, 57] r (by decide) (by decide) (m := 65279) (by decide)
  exact this.trans (by rw [show (fixB 65279).data.toList = [239, 187, 191] by decide +kernel]; rfl)
theorem dec_amp (attr : Bool) (r : List UInt8) : rdL attr (wAmp ++ r) = 38 :: rdL attr r := by
  have := rdL_semi (attr := attr) (w := wordAmp) r (fnd_key fnd_amp)
  exact this.trans (by rw [nameT_amp]; rfl)
theorem dec_lt (attr : Bool) (r : List UInt8) : rdL attr (wLt ++ r) = 60 :: rdL attr r := by
  have := rdL_semi (attr := attr) (w := wordLt) r (fnd_key fnd_lt)
  exact this.trans (by rw [nameT_lt]; rfl)
theorem dec_gt (attr : Bool) (r : List UInt8) : rdL attr (wGt ++ r) = 62 :: rdL attr r := by
  have := rdL_semi (attr := attr) (w := wordGt) r (fnd_key fnd_gt)
  exact this.trans (by rw [nameT_gt]; rfl)
theorem dec_quot (attr : Bool) (r : List UInt8) : rdL attr (wQuot ++ r) = 34 :: rdL attr r := by
  have := rdL_semi (attr := attr) (w := wordQuot) r (fnd_key fnd_quot)
  exact this.trans (by rw [nameT_quot]; rfl)
theorem clean_ne {c : UInt8} (r : List UInt8) (h : c ≠ 0) : cleanL (c :: r) = c :: cleanL r := by rw [cleanL_cons]; simp [cleanB, h]
theorem read_esc (attr : Bool) : ∀ n (s : List UInt8), s.length ≤ n → rdL attr (escL s) = cleanL s := by
  intro n
  induction n with
  | zero => intro s h; obtain rfl := List.eq_nil_of_length_eq_zero (Nat.le_zero.1 h); rfl
  | succ n ih =>
    intro s h
    cases s with
    | nil => rfl
    | cons c r =>
      simp only [List.length_cons] at h
      have hr := ih r (by omega)
      refine esc_cases c r (fun l => rdL attr l = cleanL (c :: r)) ?_ ?_ ?_ ?_ ?_ ?_ ?_ ?_ ?_
      · rintro rfl; rw [dec_amp, hr, clean_ne r (by decide)]
      · rintro rfl; rw [dec_lt, hr, clean_ne r (by decide)]
      · rintro rfl; rw [dec_gt, hr, clean_ne r (by decide)]
      · rintro rfl; rw [dec_quot, hr, clean_ne r (by decide)]
      · rintro rfl; rw [dec_apos, hr, clean_ne r (by decide)]
      · rintro rfl; rw [dec_cr, hr, clean_ne r (by decide)]
      · rintro rfl
        rw [rdL_app attr _ (show (38 : UInt8) ∉ wBad by decide), hr, cleanL_cons]; rfl
      · rintro q rfl rfl
        simp only [List.length_cons] at h
        rw [dec_mark, ih q (by omega), clean_ne _ (by decide), clean_ne _ (by decide), clean_ne _ (by decide)]
      · intro h38 _ _ _ _ _ h0 _
        rw [rdL_ne attr _ h38, hr, clean_ne r h0]
theorem read_enc (attr : Bool) (k : Int) (hk : 0 ≤ k ∧ k ≤ 2) (s : List UInt8) : rdL attr (encL k s) = (if k = 2 ∧ s.head? = some 10 then 10 :: cleanL s else cleanL s) := by
  have hr := read_esc attr _ s (Nat.le_refl _)
  unfold encL
  split
  · rw [hr, if_neg (by omega)]
  · rw [if_pos (by omega)]
    split
    · rename_i h; rw [if_pos ⟨by omega, h⟩, rdL_ne attr _ (by decide), hr]
    · rename_i h; rw [if_neg (by rintro ⟨_, e⟩; exact h e), hr]
end Go.Proofs.YtbdcghbafopjjaaGreatDoor.Hand
end

section
namespace Go.Proofs.YtbdcghbafopjjaaGreatDoor.Pcq
open Go Go.RowKit Go.Proofs.YtbdcghbafopjjaaGreatDoor.K0 Go.Proofs.YtbdcghbafopjjaaGreatDoor.Hand Go.Proofs.YtbdcghbafopjjaaGreatDoor.Sa Go.Proofs.YtbdcghbafopjjaaGreatDoor.Su Go.Proofs.YtbdcghbafopjjaaGreatDoorW.PrintWords Go.Proofs.YtbdcghbafopjjaaGreatDoorW.PrintMore Go.Proofs.YtbdcghbafopjjaaGreatDoor.Pl Go.Proofs.YtbdcghbafopjjaaGreatDoor.Pb Go.Proofs.YtbdcghbafopjjaaGreatDoor.Pure
theorem parse_q (d : Int) (single : Bool) (s : List UInt8) (hs : s.length ≤ 20000) : context_Parse.f d single (B s) = some (B (parseL d single s).1, (parseL d single s).2) := by
  unfold context_Parse.f
  rw [if_pos (by rw [size_B]; exact hs), B_data]
theorem wrap_q (d : Int) (single : Bool) (s : List UInt8) (hs : s.length ≤ 20000) : context_Wrap.f d single (B s) = some (B (wrapL d single s)) := by
  unfold context_Wrap.f
  rw [if_pos (by rw [size_B]; omega), B_data]
theorem B_list2 (x : List UInt8) : (B x).toList = x := by rw [toList_data, B_data]
theorem awake_q : flaillaw23_awake.f = some true := by
  unfold flaillaw23_awake.f
  rw [show (⟨#[97, 60, 98, 62]⟩ : ByteArray) = B [97, 60, 98, 62] from rfl, show (⟨#[97, 62, 98]⟩ : ByteArray) = B [97, 62, 98] from rfl, show (⟨#[10, 97]⟩ : ByteArray) = B [10, 97] from rfl, show (⟨#[122]⟩ : ByteArray) = B [122] from rfl,
    parse_q _ _ _ (by decide), parse_q _ _ _ (by decide), parse_q _ _ _ (by decide), wrap_q _ _ _ (by decide), aw_2, aw_3, Option.bind_some, Option.bind_some, Option.bind_some, aw_1, if_neg (by decide), if_pos rfl, if_pos rfl,
    if_pos (B_list2 _), if_pos (B_list2 _), Option.bind_some, B_list2]
  rfl
theorem scan_all : ∀ (t : List UInt8) (o : Bool), scanE o t = true → ∀ c ∈ t, c ≠ 60 ∧ c ≠ 62 ∧ c ≠ 34 ∧ c ≠ 39 ∧ c ≠ 0 ∧ c ≠ 13 := by
  intro t
  induction t with
  | nil => intro _ _ _ h; cases h
  | cons d r ih =>
    intro o h c hc
    rw [scanE] at h
    split at h
    · cases h
    · rename_i hd
      simp only [not_or] at hd
      rcases List.mem_cons.1 hc with rfl | hc
      · exact hd
      · split at h
        · rw [Bool.and_eq_true] at h; exact ih true h.2 c hc
        · split at h
          · exact ih false h c hc
          · exact ih o h c hc
theorem enc_no (s : List UInt8) : (34 : UInt8) ∉ encL 1 s ∧ (39 : UInt8) ∉ encL 1 s ∧ (13 : UInt8) ∉ encL 1 s := by
  have h := scan_all _ _ (scan_enc 1 s)
  exact ⟨fun m => (h _ m).2.2.1 rfl, fun m => (h _ m).2.2.2.1 rfl, fun m => (h _ m).2.2.2.2.2 rfl⟩
theorem clean_twice (s : List UInt8) : cleanL (cleanL s) = cleanL s := cleanL_of_no0 (cleanL_no0 s)
theorem parse_enc (single : Bool) (s : List UInt8) : parseL 1 single (encL 1 s) = (cleanL s, true) := by
  obtain ⟨h1, h2, h3⟩ := enc_no s
  rw [parse1, normL_of_no13 h3, value_txt single (by cases single <;> assumption), read_enc true 1 (by decide), if_neg (by omega), clean_twice]
theorem parse_single0 (r : List UInt8) : parseL 0 true r = parseL 0 false r := by rw [parse0, parse0]
theorem parse_single2 (r : List UInt8) : parseL 2 true r = parseL 2 false r := by rw [parse2, parse2]; rfl
theorem quotes_ok (s r : List UInt8) (hs : s.length ≤ 300) (hr : r.length ≤ 300) : Ev (fun k => flaillaw23_ContextQuotes.j0 k (B s) (B r) true false) true := by
  have hl := enc_length 1 s
  refine Ev.step (f := fun _ => some true) (fun k => ?_) (Ev.now _)
  have he : escape_Encode.f 1 (B s) = some (B (encL 1 s)) := by unfold escape_Encode.f; rw [if_pos (by rw [size_B]; omega), B_data]
  rw [flaillaw23_ContextQuotes.j0, if_neg (by decide), he, Option.bind_some, parse_q _ _ _ (by omega), parse_q _ _ _ (by omega), parse_q _ _ _ (by omega), parse_q _ _ _ (by omega), parse_q _ _ _ (by omega), parse_q _ _ _ (by omega), parse_enc, parse_enc, parse_single0, parse_single2, clean_f _ (by omega)]
  simp
end Go.Proofs.YtbdcghbafopjjaaGreatDoor.Pcq
namespace Go.Proofs.YtbdcghbafopjjaaGreatDoor.Hand
open Go Go.RowKit Go.Proofs.YtbdcghbafopjjaaGreatDoor.Pl Go.Proofs.YtbdcghbafopjjaaGreatDoor.Pb Go.Proofs.YtbdcghbafopjjaaGreatDoor.Pcq Go.Proofs.YtbdcghbafopjjaaGreatDoor.Su Go.Proofs.YtbdcghbafopjjaaGreatDoorW.PrintWords
theorem ContextQuotes_law (a0 a1 : ByteArray) (w : World) (_ : a0.size ≤ 140737488351232) (_ : a1.size ≤ 140737488351232) (hGl : Glob w) :
    Calls Tryz.prog 8 #[.string a0, .string a1] w fun e w' => e = .returned (.bool true) ∧ Below w.heap.size w w' := by
  have h : ∃ k, flaillaw23_ContextQuotes.f k a0 a1 = some true := by
    obtain ⟨s, rfl⟩ := exists_B a0
    obtain ⟨r, rfl⟩ := exists_B a1
    by_cases hb : 300 < s.length
    · exact ⟨1, by unfold flaillaw23_ContextQuotes.f; rw [awake_q, Option.bind_some, if_pos (by rw [size_B]; omega), flaillaw23_ContextQuotes.j0, if_pos rfl]⟩
    · by_cases hc : 300 < r.length
      · exact ⟨1, by unfold flaillaw23_ContextQuotes.f; rw [awake_q, Option.bind_some, if_neg (by rw [size_B]; omega), decide_eq_true (show ((B r).size : Int) > 300 by rw [size_B]; omega), flaillaw23_ContextQuotes.j0, if_pos rfl]⟩
      · obtain ⟨k, hk⟩ := (quotes_ok s r (by omega) (by omega)).rounds
        exact ⟨k, by unfold flaillaw23_ContextQuotes.f; rw [awake_q, Option.bind_some, if_neg (by rw [size_B]; omega), decide_eq_false (show ¬ ((B r).size : Int) > 300 by rw [size_B]; omega)]; exact hk⟩
  obtain ⟨k, hk⟩ := h
  exact flaillaw23_ContextQuotes.calls k a0 a1 true w hGl hk
end Go.Proofs.YtbdcghbafopjjaaGreatDoor.Hand
end
