/-
  Plain: bytes read as signs (decL); a text of just signs written as markup is one again, begins with no mark, and has no line's end and no byte 0 to be changed.
-/
import Derived.Test.YtajfpegacbohdaaDoorPlE2
import Derived.Test.YtajfpegacbohdaaDoorPl0
namespace Go.Proofs.YtajfpegacbohdaaDoor.Pl
open Go

/-! ### signs -/
theorem firstN_cut {c : Nat} {d e f d' e' f' : Option Nat} (h : (firstN c d e f).2 = true) (hd : 2 ≤ (firstN c d e f).1 → d' = d) (he : 3 ≤ (firstN c d e f).1 → e' = e) (hf : 4 ≤ (firstN c d e f).1 → f' = f) : firstN c d' e' f' = firstN c d e f := by
  revert h hd he hf
  unfold firstN
  by_cases h1 : c < 128
  · rw [if_pos h1, if_pos h1]; intros; rfl
  rw [if_neg h1, if_neg h1]
  by_cases h2 : (tailN c).2.2 = 1
  · rw [if_pos h2, if_pos h2]; intros; rfl
  rw [if_neg h2, if_neg h2]
  by_cases h3 : ¬ inO (tailN c).1 (tailN c).2.1 d
  · rw [if_pos h3]; intro h; cases h
  rw [if_neg h3]
  by_cases h4 : (tailN c).2.2 = 2
  · rw [if_pos h4]
    intro _ hd _ _
    rw [hd (by simp), if_neg h3, if_pos h4]
  rw [if_neg h4]
  by_cases h5 : ¬ contO e
  · rw [if_pos h5]; intro h; cases h
  rw [if_neg h5]
  by_cases h6 : (tailN c).2.2 = 3
  · rw [if_pos h6]
    intro _ hd he _
    rw [hd (by simp), if_neg h3, if_neg h4, he (by simp), if_neg h5, if_pos h6]
  rw [if_neg h6]
  by_cases h7 : contO f
  · rw [if_pos h7]
    intro _ hd he hf
    rw [hd (by simp), if_neg h3, if_neg h4, he (by simp), if_neg h5, if_neg h6, hf (by simp), if_pos h7]
  · rw [if_neg h7]; intro h; cases h
/-- one whole sign -/
def Sig (a : List UInt8) : Prop := a ≠ [] ∧ ∀ Y, firstU (a ++ Y) = (a.length, true)
theorem byteO_take (r Y : List UInt8) (n k : Nat) (hk : k < n) (hn : n ≤ r.length) : byteO (r.take n ++ Y) k = byteO r k := by
  unfold byteO
  rw [List.getElem?_append_left (by rw [List.length_take]; omega), List.getElem?_take_of_lt hk]
theorem sig_split {s : List UInt8} (h : rightL s = true) (hne : s ≠ []) : ∃ a q, s = a ++ q ∧ Sig a ∧ rightL q = true := by
  cases s with
  | nil => exact absurd rfl hne
  | cons c r =>
    rw [rightL_cons, Bool.and_eq_true] at h
    obtain ⟨h1, h2⟩ := h
    obtain ⟨p1, p2, p3⟩ := firstU_pos c r
    obtain ⟨n, hn⟩ : ∃ n, (firstU (c :: r)).1 = n + 1 := ⟨(firstU (c :: r)).1 - 1, by omega⟩
    rw [hn] at h2 p2 p3
    simp only [List.length_cons] at p2
    refine ⟨(c :: r).take (n + 1), (c :: r).drop (n + 1), (List.take_append_drop _ _).symm, ⟨by simp, fun Y => ?_⟩, h2⟩
    rw [List.take_succ_cons, List.cons_append]
    show firstN c.toNat (byteO (r.take n ++ Y) 0) (byteO (r.take n ++ Y) 1) (byteO (r.take n ++ Y) 2) = _
    have hf : (firstN c.toNat (byteO r 0) (byteO r 1) (byteO r 2)).1 = n + 1 := hn
    rw [firstN_cut (d := byteO r 0) (e := byteO r 1) (f := byteO r 2) h1 (fun h => byteO_take _ _ _ _ (by omega) (by omega)) (fun h => byteO_take _ _ _ _ (by omega) (by omega)) (fun h => byteO_take _ _ _ _ (by omega) (by omega))]
    rw [List.length_cons, List.length_take, Nat.min_eq_left (by omega), ← hf]
    exact Prod.ext rfl h1
theorem right_app {a : List UInt8} (h : Sig a) (Y : List UInt8) : rightL (a ++ Y) = rightL Y := by
  obtain ⟨hne, h⟩ := h
  cases a with
  | nil => exact absurd rfl hne
  | cons c r =>
    have := h Y
    rw [List.cons_append] at this ⊢
    rw [rightL_cons, this]
    simp
theorem sig_ascii {c : UInt8} (h : c.toNat < 128) : Sig [c] :=
  ⟨by simp, fun Y => by show firstN c.toNat _ _ _ = _; unfold firstN; rw [if_pos h]; rfl⟩
theorem right_ascii : ∀ (w : List UInt8) (_ : ∀ c ∈ w, c.toNat < 128) (Y : List UInt8), rightL (w ++ Y) = rightL Y := by
  intro w
  induction w with
  | nil => intro _ _; rfl
  | cons c w ih =>
    intro h Y
    rw [List.cons_append, ← ih (fun x hx => h x (by simp [hx])) Y]
    exact right_app (sig_ascii (h c (by simp))) (w ++ Y)
theorem sig_bytes {a : List UInt8} (h : Sig a) : (∃ c, a = [c] ∧ c.toNat < 128) ∨ (∃ c q, a = c :: q ∧ 194 ≤ c.toNat ∧ q ≠ [] ∧ q.length ≤ 3 ∧ ∀ x ∈ q, 128 ≤ x.toNat ∧ x.toNat ≤ 191) := by
  obtain ⟨hne, h⟩ := h
  cases a with
  | nil => exact absurd rfl hne
  | cons c q =>
    have h1 := h []
    rw [List.append_nil] at h1
    by_cases hc : c.toNat < 128
    · left
      have : firstU (c :: q) = (1, true) := by show firstN c.toNat _ _ _ = _; unfold firstN; rw [if_pos hc]
      rw [this] at h1
      have := (Prod.mk.inj h1).1
      simp only [List.length_cons] at this
      obtain rfl := List.eq_nil_of_length_eq_zero (l := q) (by omega)
      exact ⟨c, rfl, hc⟩
    · right
      have h2 : (firstU (c :: q)).2 = true := by rw [h1]
      have h3 : (firstU (c :: q)).1 = q.length + 1 := by rw [h1]; rfl
      have h4 := (firstU_pos c q).2.2
      have hc2 : 194 ≤ c.toNat := by
        rcases Nat.lt_or_ge c.toNat 194 with hlt | hge
        · exfalso
          have : firstU (c :: q) = (1, false) := first_bad1 (d := byteO q 0) (e := byteO q 1) (f := byteO q 2) hc (tail_1 (.inl hlt)).one
          rw [this] at h2; cases h2
        · exact hge
      have hge : ∀ k, k < q.length → 128 ≤ ((q[k]?).getD 0).toNat := by
        -- a byte that goes on is 128 at least
        intro k hk
        have key : ∀ (d e f : Option Nat), (firstN c.toNat d e f).2 = true → (2 ≤ (firstN c.toNat d e f).1 → ∃ x, d = some x ∧ 128 ≤ x) ∧ (3 ≤ (firstN c.toNat d e f).1 → ∃ x, e = some x ∧ 128 ≤ x) ∧ (4 ≤ (firstN c.toNat d e f).1 → ∃ x, f = some x ∧ 128 ≤ x) := by
          intro d e f
          have ht : 128 ≤ (tailN c.toNat).1 := by
            by_cases g1 : c.toNat < 194 ∨ 244 < c.toNat
            · rw [(tail_1 g1).lo_]; omega
            · by_cases g2 : c.toNat ≤ 223
              · rw [(tail_2 (by omega)).lo_]; omega
              · by_cases g3 : c.toNat ≤ 239
                · obtain ⟨lo, hi, t, g, _⟩ := tail_3 (c := c.toNat) (by omega)
                  rw [t.lo_]; exact g
                · obtain ⟨lo, hi, t, g, _⟩ := tail_4 (c := c.toNat) (by omega)
                  rw [t.lo_]; exact g
          have hd : inO (tailN c.toNat).1 (tailN c.toNat).2.1 d → ∃ x, d = some x ∧ 128 ≤ x := fun h => by
            obtain ⟨x, h1, h2, h3⟩ := (inO_iff _ _ d).1 h
            exact ⟨x, h1, by omega⟩
          have hcc : ∀ o, contO o → ∃ x, o = some x ∧ 128 ≤ x := fun o h => by
            obtain ⟨x, h1, h2, h3⟩ := (contO_iff o).1 h
            exact ⟨x, h1, by omega⟩
          unfold firstN
          rw [if_neg hc]
          split
          · simp
          · split
            · simp
            · rename_i h1
              have h1' := hd (Decidable.not_not.1 h1)
              split
              · intro _; exact ⟨fun _ => h1', by simp, by simp⟩
              · split
                · simp
                · rename_i h2
                  have h2' := hcc _ (Decidable.not_not.1 h2)
                  split
                  · intro _; exact ⟨fun _ => h1', fun _ => h2', by simp⟩
                  · split
                    · rename_i h3
                      intro _; exact ⟨fun _ => h1', fun _ => h2', fun _ => hcc _ h3⟩
                    · simp
        obtain ⟨k1, k2, k3⟩ := key _ _ _ h2
        have h3' : (firstN c.toNat (byteO q 0) (byteO q 1) (byteO q 2)).1 = q.length + 1 := h3
        have use : ∀ j, (∃ x, byteO q j = some x ∧ 128 ≤ x) → 128 ≤ ((q[j]?).getD 0).toNat := by
          rintro j ⟨x, hx, hl⟩
          unfold byteO at hx
          cases hq : q[j]? with
          | none => rw [hq] at hx; cases hx
          | some y => rw [hq] at hx; cases hx; exact hl
        rcases (show k = 0 ∨ k = 1 ∨ k = 2 by omega) with rfl | rfl | rfl
        · exact use 0 (k1 (by omega))
        · exact use 1 (k2 (by omega))
        · exact use 2 (k3 (by omega))
      refine ⟨c, q, rfl, hc2, ?_, by omega, ?_⟩
      · rintro rfl
        have : (firstU [c]) = (1, true) := h1
        have g := firstN_pos c.toNat (byteO [] 0) (byteO [] 1) (byteO [] 2)
        have : firstN c.toNat none none none = (1, true) := h1
        unfold firstN at this
        rw [if_neg hc] at this
        split at this
        · cases this
        · rw [if_pos (by simp [inO])] at this; cases this
      · intro x hx
        obtain ⟨k, hk, rfl⟩ := List.getElem_of_mem hx
        obtain ⟨y, hy, hy2⟩ := firstU_in h2 (k + 1) (by omega) (by omega)
        rw [List.getElem?_cons_succ, List.getElem?_eq_getElem hk] at hy
        cases hy
        have := hge k hk
        rw [List.getElem?_eq_getElem hk] at this
        exact ⟨this, hy2⟩

/-! ### a text written -/
theorem esc_high {c : UInt8} {r : List UInt8} (h : 128 ≤ c.toNat) (hm : c = 239 → ¬ [187, 191].isPrefixOf r = true) : escL (c :: r) = c :: escL r := by
  have ne : ∀ d : UInt8, d.toNat < 128 → c ≠ d := by rintro d hd rfl; omega
  unfold escL
  by_cases h8 : c = 239
  · have hf : escF c = some ([187, 191], wMark) := by subst h8; rfl
    rw [replS_miss hf (hm h8)]
  · rw [replS_none (by simp [escF, ne 38 (by decide), ne 60 (by decide), ne 62 (by decide), ne 34 (by decide), ne 39 (by decide), ne 13 (by decide), ne 0 (by decide), h8])]
theorem esc_cont : ∀ (q : List UInt8), (∀ x ∈ q, 128 ≤ x.toNat ∧ x.toNat ≤ 191) → ∀ Y, escL (q ++ Y) = q ++ escL Y := by
  intro q
  induction q with
  | nil => intro _ _; rfl
  | cons x q ih =>
    intro h Y
    have hx := h x (by simp)
    rw [List.cons_append, esc_high hx.1 (by rintro rfl; exact absurd hx.2 (by decide)), ih (fun y hy => h y (by simp [hy])), List.cons_append]
theorem esc_sig {a : List UInt8} (h : Sig a) (Y : List UInt8) : escL (a ++ Y) = a ++ escL Y ∨ ∃ w : List UInt8, escL (a ++ Y) = w ++ escL Y ∧ ((∀ c ∈ w, c.toNat < 128) ∨ w = wBad) := by
  rcases sig_bytes h with ⟨c, rfl, hc⟩ | ⟨c, q, rfl, h1, h2, h3, h4⟩
  · right
    refine esc_cases c Y (fun l => ∃ w : List UInt8, l = w ++ escL Y ∧ ((∀ c ∈ w, c.toNat < 128) ∨ w = wBad)) ?_ ?_ ?_ ?_ ?_ ?_ ?_ ?_ ?_
    · intro _; exact ⟨wAmp, rfl, .inl (by decide)⟩
    · intro _; exact ⟨wLt, rfl, .inl (by decide)⟩
    · intro _; exact ⟨wGt, rfl, .inl (by decide)⟩
    · intro _; exact ⟨wQuot, rfl, .inl (by decide)⟩
    · intro _; exact ⟨wApos, rfl, .inl (by decide)⟩
    · intro _; exact ⟨wCr, rfl, .inl (by decide)⟩
    · intro _; exact ⟨wBad, rfl, .inr rfl⟩
    · rintro q rfl _; exact absurd hc (by decide)
    · intros; exact ⟨[c], rfl, .inl (by simpa using hc)⟩
  · by_cases hm : c = 239 ∧ [187, 191].isPrefixOf (q ++ Y) = true
    · right
      obtain ⟨rfl, hm⟩ := hm
      obtain ⟨Z, hZ⟩ := List.isPrefixOf_iff_prefix.1 hm
      have hq : q = [187, 191] := by
        have hlen : q.length = 2 := by
          have hs := h.2 []
          rw [List.append_nil] at hs
          have ht := tail_3 (c := 239) (by omega)
          obtain ⟨lo, hi, t, _⟩ := ht
          have hn : (firstU (239 :: q)).1 = q.length + 1 := by rw [hs]; rfl
          have h2' : (firstU (239 :: q)).2 = true := by rw [hs]
          have : (firstN 239 (byteO q 0) (byteO q 1) (byteO q 2)).1 = 3 := by
            have hh : (firstN 239 (byteO q 0) (byteO q 1) (byteO q 2)).2 = true := h2'
            revert hh
            unfold firstN
            rw [if_neg (by omega), if_neg (by rw [t.one]; omega)]
            split
            · intro hh; cases hh
            · rw [if_neg (by rw [t.one]; omega)]
              split
              · intro hh; cases hh
              · rw [if_pos t.one]; intro _; rfl
          have e2 : (firstU (239 :: q)).1 = 3 := this
          omega
        match q, hlen, hZ with
        | [x, y], _, hZ =>
          simp only [List.cons_append, List.nil_append, List.cons.injEq] at hZ
          rw [hZ.1, hZ.2.1]
      subst hq
      refine ⟨wMark, ?_, .inl (by decide)⟩
      unfold escL
      rw [List.cons_append, replS_hit (show escF 239 = some ([187, 191], wMark) from rfl) (by simp)]
      rfl
    · left
      rw [List.cons_append, esc_high (by omega) (fun e h => hm ⟨e, h⟩), esc_cont q h4, List.cons_append]
theorem right_esc : ∀ n (s : List UInt8), s.length ≤ n → rightL s = true → rightL (escL s) = true := by
  intro n
  induction n with
  | zero => intro s h _; obtain rfl := List.eq_nil_of_length_eq_zero (Nat.le_zero.1 h); rfl
  | succ n ih =>
    intro s h hr
    by_cases hne : s = []
    · subst hne; rfl
    · obtain ⟨a, q, rfl, hs, hq⟩ := sig_split hr hne
      have hlen : 1 ≤ a.length := by
        rcases Nat.eq_zero_or_pos a.length with h0 | h0
        · exact absurd (List.eq_nil_of_length_eq_zero h0) hs.1
        · exact h0
      have hi := ih q (by rw [List.length_append] at h; omega) hq
      rcases esc_sig hs q with e | ⟨w, e, hw | rfl⟩
      · rw [e, right_app hs]; exact hi
      · rw [e, right_ascii w hw]; exact hi
      · rw [e]
        have : Sig wBad := ⟨by decide, fun Y => rfl⟩
        rw [right_app this]; exact hi
theorem right_enc (k : Int) {s : List UInt8} (h : rightL s = true) : rightL (encL k s) = true := by
  have he := right_esc _ s (Nat.le_refl _) h
  unfold encL
  split
  · exact he
  · split
    · split
      · exact (right_ascii [10] (by decide) (escL s)).trans he
      · exact he
    · rfl
/-! ### no mark -/
theorem esc_head {x : UInt8} {s Z : List UInt8} (h : escL s = x :: Z) (h1 : 128 ≤ x.toNat) (h2 : x ≠ 239) : ∃ r, s = x :: r ∧ escL r = Z := by
  cases s with
  | nil => cases h
  | cons c r =>
    revert h
    have no : ∀ (w : List UInt8) (l : List UInt8), (w.head? = some 38 ∨ w.head? = some 239) → w ++ l = x :: Z → ∃ q, c :: r = x :: q ∧ escL q = Z := by
      intro w l hw e
      cases w with
      | nil => rcases hw with h | h <;> cases h
      | cons y w =>
        rw [List.cons_append] at e
        have := (List.cons.inj e).1
        subst this
        rcases hw with h | h
        · cases h; exact absurd h1 (by decide)
        · cases h; exact absurd rfl h2
    refine esc_cases c r (fun l => l = x :: Z → ∃ q, c :: r = x :: q ∧ escL q = Z) ?_ ?_ ?_ ?_ ?_ ?_ ?_ ?_ ?_
    · intro _; exact no _ _ (.inl rfl)
    · intro _; exact no _ _ (.inl rfl)
    · intro _; exact no _ _ (.inl rfl)
    · intro _; exact no _ _ (.inl rfl)
    · intro _; exact no _ _ (.inl rfl)
    · intro _; exact no _ _ (.inl rfl)
    · intro _; exact no _ _ (.inr rfl)
    · intro q _ _; exact no _ _ (.inl rfl)
    · intro _ _ _ _ _ _ _ _ e
      injection e with e1 e2
      subst e1
      exact ⟨r, rfl, e2⟩
theorem esc_no_mark (s Z : List UInt8) : escL s ≠ 239 :: 187 :: 191 :: Z := by
  cases s with
  | nil => simp [escL, replS]
  | cons c r =>
    refine esc_cases c r (fun l => l ≠ 239 :: 187 :: 191 :: Z) ?_ ?_ ?_ ?_ ?_ ?_ ?_ ?_ ?_
    all_goals try (intros; simp [wAmp, wLt, wGt, wQuot, wApos, wCr, wBad, wMark]; done)
    intro _ _ _ _ _ _ _ hc e
    injection e with e1 e2
    obtain ⟨r1, rfl, e3⟩ := esc_head e2 (by decide) (by decide)
    obtain ⟨r2, rfl, e4⟩ := esc_head e3 (by decide) (by decide)
    exact hc e1 (by simp)
def markP : List UInt8 := [239, 187, 191]
theorem enc_no_mark (k : Int) (s : List UInt8) : markP.isPrefixOf (encL k s) = false := by
  rw [Bool.eq_false_iff]
  intro h
  obtain ⟨Z, hZ⟩ := List.isPrefixOf_iff_prefix.1 h
  have he := esc_no_mark s Z
  unfold encL at hZ
  split at hZ
  · exact he hZ.symm
  · split at hZ
    · split at hZ
      · simp [markP] at hZ
      · exact he hZ.symm
    · cases hZ
/-! ### read again -/
def decK : Nat → List UInt8 → List UInt8
  | _, [] => []
  | k + 1, _ :: r => decK k r
  | 0, c :: r => (if (firstU (c :: r)).2 = true then (c :: r).take (firstU (c :: r)).1 else badP) ++ decK ((firstU (c :: r)).1 - 1) r
def decL (s : List UInt8) : List UInt8 := decK 0 s
theorem decK_skip : ∀ (k : Nat) (s : List UInt8), decK k s = decL (s.drop k) := by
  intro k
  induction k with
  | zero => intro s; rfl
  | succ k ih =>
    intro s
    cases s with
    | nil => rfl
    | cons c r => exact ih r
theorem decL_cons (c : UInt8) (r : List UInt8) : decL (c :: r) = (if (firstU (c :: r)).2 = true then (c :: r).take (firstU (c :: r)).1 else badP) ++ decL ((c :: r).drop (firstU (c :: r)).1) := by
  unfold decL
  rw [decK, decK_skip]
  have h := (firstU_pos c r).1
  obtain ⟨n, hn⟩ : ∃ n, (firstU (c :: r)).1 = n + 1 := ⟨(firstU (c :: r)).1 - 1, by omega⟩
  rw [hn]
  rfl
theorem decL_right : ∀ n (s : List UInt8), s.length ≤ n → rightL s = true → decL s = s := by
  intro n
  induction n with
  | zero => intro s h _; obtain rfl := List.eq_nil_of_length_eq_zero (Nat.le_zero.1 h); rfl
  | succ n ih =>
    intro s h hr
    cases s with
    | nil => rfl
    | cons c r =>
      rw [rightL_cons, Bool.and_eq_true] at hr
      have hp := (firstU_pos c r).1
      rw [decL_cons, if_pos hr.1, ih _ (by rw [List.length_drop]; omega) hr.2, List.take_append_drop]
def trimL (s : List UInt8) : List UInt8 := if markP.isPrefixOf s = true then s.drop 3 else s
theorem dec_enc (k : Int) {s : List UInt8} (h : rightL s = true) : decL (trimL (encL k s)) = encL k s := by
  unfold trimL
  rw [enc_no_mark, if_neg (by decide)]
  exact decL_right _ _ (Nat.le_refl _) (right_enc k h)
theorem scan_mem : ∀ (t : List UInt8) (o : Bool), scanE o t = true → ∀ c ∈ t, c ≠ 13 ∧ c ≠ 0 := by
  intro t
  induction t with
  | nil => intro _ _ _ h; cases h
  | cons d t ih =>
    intro o h c hc
    rw [scanE] at h
    by_cases hs : d = 60 ∨ d = 62 ∨ d = 34 ∨ d = 39 ∨ d = 0 ∨ d = 13
    · rw [if_pos hs] at h; cases h
    rw [if_neg hs] at h
    rcases List.mem_cons.1 hc with rfl | hc
    · exact ⟨fun e => hs (by simp [e]), fun e => hs (by simp [e])⟩
    · split at h
      · rw [Bool.and_eq_true] at h; exact ih _ h.2 c hc
      · split at h
        · exact ih _ h c hc
        · exact ih _ h c hc
theorem normL_id : ∀ t : List UInt8, 13 ∉ t → normL t = t := by
  intro t
  induction t with
  | nil => intro _; rfl
  | cons c r ih =>
    intro h
    rw [normL_ne (fun e => h (by simp [e])), ih (fun e => h (by simp [e]))]
theorem norm_enc (k : Int) (s : List UInt8) : normL (encL k s) = encL k s := normL_id _ fun h => (scan_mem _ _ (scan_enc k s) _ h).1 rfl
theorem clean_enc (k : Int) (s : List UInt8) : cleanL (encL k s) = encL k s := cleanL_of_no0 fun h => (scan_mem _ _ (scan_enc k s) _ h).2 rfl
end Go.Proofs.YtajfpegacbohdaaDoor.Pl
