/-
  Plain: bytes as signs: how many bytes the first sign has and whether it is whole (firstU), texts of just signs (rightL), and the model's decoding (decL).
-/
import Derived.Test.YtajfpegacbohdaaDoorPl0
import Derived.Laws.Runes
namespace Go.Proofs.YtajfpegacbohdaaDoor.Pl
open Go

/-- what may stand behind a first byte: the least and the greatest second one, how many in all -/
def tailN (c : Nat) : Nat × Nat × Nat :=
  if 194 ≤ c ∧ c ≤ 223 then (128, 191, 2) else if c = 224 then (160, 191, 3) else if c = 237 then (128, 159, 3) else if 225 ≤ c ∧ c ≤ 239 then (128, 191, 3)
  else if c = 240 then (144, 191, 4) else if c = 244 then (128, 143, 4) else if 241 ≤ c ∧ c ≤ 243 then (128, 191, 4) else (128, 191, 1)
def contN (c : Nat) : Bool := decide (128 ≤ c) && decide (c ≤ 191)
/-- the model's decoding, by the next four bytes -/
def contO : Option Nat → Prop
  | none => False
  | some x => 128 ≤ x ∧ x ≤ 191
instance (o : Option Nat) : Decidable (contO o) := by cases o <;> unfold contO <;> infer_instance
def lowO : Option Nat → Nat
  | none => 0
  | some x => x % 64
def okV (n : Nat) : Prop := n < 55296 ∨ (57344 ≤ n ∧ n ≤ 1114111)
instance (n : Nat) : Decidable (okV n) := by unfold okV; infer_instance
def decN (c : Nat) (d e f : Option Nat) : Nat × Nat :=
  if c < 128 then (c, 1)
  else if c / 32 = 6 ∧ contO d then (if 128 ≤ c % 32 * 64 + lowO d then (c % 32 * 64 + lowO d, 2) else (65533, 1))
  else if c / 16 = 14 ∧ contO d ∧ contO e then (if 2048 ≤ c % 16 * 4096 + lowO d * 64 + lowO e ∧ okV (c % 16 * 4096 + lowO d * 64 + lowO e) then (c % 16 * 4096 + lowO d * 64 + lowO e, 3) else (65533, 1))
  else if c / 8 = 30 ∧ contO d ∧ contO e ∧ contO f then (if 65536 ≤ c % 8 * 262144 + lowO d * 4096 + lowO e * 64 + lowO f ∧ okV (c % 8 * 262144 + lowO d * 4096 + lowO e * 64 + lowO f) then (c % 8 * 262144 + lowO d * 4096 + lowO e * 64 + lowO f, 4) else (65533, 1))
  else (65533, 1)
/-- the first sign, by the next four bytes -/
def inO (lo hi : Nat) : Option Nat → Prop
  | none => False
  | some x => lo ≤ x ∧ x ≤ hi
instance (lo hi : Nat) (o : Option Nat) : Decidable (inO lo hi o) := by cases o <;> unfold inO <;> infer_instance
def firstN (c : Nat) (d e f : Option Nat) : Nat × Bool :=
  if c < 128 then (1, true)
  else if (tailN c).2.2 = 1 then (1, false)
  else if ¬ inO (tailN c).1 (tailN c).2.1 d then (1, false)
  else if (tailN c).2.2 = 2 then (2, true)
  else if ¬ contO e then (2, false)
  else if (tailN c).2.2 = 3 then (3, true)
  else if contO f then (4, true) else (3, false)
def byteO (L : List UInt8) (k : Nat) : Option Nat := L[k]?.map UInt8.toNat
/-- how many bytes of the first sign stand there, and whether it is whole -/
def firstU : List UInt8 → Nat × Bool
  | [] => (0, false)
  | c :: r => firstN c.toNat (byteO r 0) (byteO r 1) (byteO r 2)
theorem firstN_pos (c : Nat) (d e f : Option Nat) : 1 ≤ (firstN c d e f).1 ∧ (firstN c d e f).1 ≤ 4 ∧ (2 ≤ (firstN c d e f).1 → d ≠ none) ∧ (3 ≤ (firstN c d e f).1 → e ≠ none) ∧ (4 ≤ (firstN c d e f).1 → f ≠ none) := by
  have hd : ∀ lo hi, inO lo hi d → d ≠ none := by rintro lo hi h rfl; exact h
  have he : contO e → e ≠ none := by rintro h rfl; exact h
  have hf : contO f → f ≠ none := by rintro h rfl; exact h
  unfold firstN
  split
  · simp
  · split
    · simp
    · split
      · simp
      · rename_i h1
        have h1' := hd _ _ (Decidable.not_not.1 h1)
        split
        · simp [h1']
        · split
          · simp [h1']
          · rename_i h2
            have h2' := he (Decidable.not_not.1 h2)
            split
            · simp [h1', h2']
            · split
              · rename_i h3; simp [h1', h2', hf h3]
              · simp [h1', h2']
theorem byteO_lt {L : List UInt8} {k : Nat} (h : byteO L k ≠ none) : k < L.length := by
  rcases Nat.lt_or_ge k L.length with h' | h'
  · exact h'
  · exact absurd (by unfold byteO; rw [List.getElem?_eq_none h']; rfl) h
theorem firstU_pos (c : UInt8) (r : List UInt8) : 1 ≤ (firstU (c :: r)).1 ∧ (firstU (c :: r)).1 ≤ (c :: r).length ∧ (firstU (c :: r)).1 ≤ 4 := by
  obtain ⟨h1, h2, h3, h4, h5⟩ := firstN_pos c.toNat (byteO r 0) (byteO r 1) (byteO r 2)
  unfold firstU
  refine ⟨h1, ?_, h2⟩
  have g3 := fun h => byteO_lt (h3 h)
  have g4 := fun h => byteO_lt (h4 h)
  have g5 := fun h => byteO_lt (h5 h)
  simp only [List.length_cons]
  omega
/-- are these just signs? -/
def rightK : Nat → List UInt8 → Bool
  | _, [] => true
  | k + 1, _ :: r => rightK k r
  | 0, c :: r => (firstU (c :: r)).2 && rightK ((firstU (c :: r)).1 - 1) r
def rightL (s : List UInt8) : Bool := rightK 0 s
theorem rightK_skip : ∀ (k : Nat) (s : List UInt8), rightK k s = rightL (s.drop k) := by
  intro k
  induction k with
  | zero => intro s; rfl
  | succ k ih =>
    intro s
    cases s with
    | nil => rfl
    | cons c r => exact ih r
theorem rightL_cons (c : UInt8) (r : List UInt8) : rightL (c :: r) = ((firstU (c :: r)).2 && rightL ((c :: r).drop (firstU (c :: r)).1)) := by
  unfold rightL
  rw [rightK, rightK_skip]
  have h := (firstU_pos c r).1
  obtain ⟨n, hn⟩ : ∃ n, (firstU (c :: r)).1 = n + 1 := ⟨(firstU (c :: r)).1 - 1, by omega⟩
  rw [hn]
  rfl
def isBadO (c : Nat) (d e : Option Nat) : Prop := c = 239 ∧ d = some 191 ∧ e = some 189
/-- the kinds of first bytes -/
structure Kd (c lo hi n : Nat) : Prop where
  one : (tailN c).2.2 = n
  lo_ : (tailN c).1 = lo
  hi_ : (tailN c).2.1 = hi
theorem kd_of {c lo hi n : Nat} (h : tailN c = (lo, hi, n)) : Kd c lo hi n := ⟨by rw [h], by rw [h], by rw [h]⟩
theorem tail_1 {c : Nat} (h : c < 194 ∨ 244 < c) : Kd c 128 191 1 := kd_of (by unfold tailN; rw [if_neg (by omega), if_neg (by omega), if_neg (by omega), if_neg (by omega), if_neg (by omega), if_neg (by omega), if_neg (by omega)])
theorem tail_2 {c : Nat} (h : 194 ≤ c ∧ c ≤ 223) : Kd c 128 191 2 := kd_of (by unfold tailN; rw [if_pos h])
theorem tail_3 {c : Nat} (h : 224 ≤ c ∧ c ≤ 239) : ∃ lo hi, Kd c lo hi 3 ∧ 128 ≤ lo ∧ hi ≤ 191 ∧ (c = 224 → lo = 160) ∧ (c = 237 → hi = 159) ∧ (c ≠ 224 → lo = 128) ∧ (c ≠ 237 → hi = 191) := by
  by_cases h1 : c = 224
  · exact ⟨160, 191, kd_of (by subst h1; rfl), by omega⟩
  · by_cases h2 : c = 237
    · exact ⟨128, 159, kd_of (by subst h2; rfl), by omega⟩
    · exact ⟨128, 191, kd_of (by unfold tailN; rw [if_neg (by omega), if_neg h1, if_neg h2, if_pos (by omega)]), by omega⟩
theorem tail_4 {c : Nat} (h : 240 ≤ c ∧ c ≤ 244) : ∃ lo hi, Kd c lo hi 4 ∧ 128 ≤ lo ∧ hi ≤ 191 ∧ (c = 240 → lo = 144) ∧ (c = 244 → hi = 143) ∧ (c ≠ 240 → lo = 128) ∧ (c ≠ 244 → hi = 191) := by
  by_cases h1 : c = 240
  · exact ⟨144, 191, kd_of (by subst h1; rfl), by omega⟩
  · by_cases h2 : c = 244
    · exact ⟨128, 143, kd_of (by subst h2; rfl), by omega⟩
    · exact ⟨128, 191, kd_of (by unfold tailN; rw [if_neg (by omega), if_neg (by omega), if_neg (by omega), if_neg (by omega), if_neg h1, if_neg h2, if_pos (by omega)]), by omega⟩
/-- what the two say of one beginning -/
def DecSame (c : Nat) (d e f : Option Nat) : Prop :=
  ((firstN c d e f).2 = true → (decN c d e f).2 = (firstN c d e f).1 ∧ ((decN c d e f).1 = 65533 → isBadO c d e)) ∧ ((firstN c d e f).2 = false → (decN c d e f).1 = 65533 ∧ ¬ isBadO c d e)
theorem same_bad {c : Nat} {d e f : Option Nat} {n : Nat} (hf : firstN c d e f = (n, false)) (hd : (decN c d e f).1 = 65533) (hb : ¬ isBadO c d e) : DecSame c d e f := by
  unfold DecSame; rw [hf]; exact ⟨fun h => (by cases h), fun _ => ⟨hd, hb⟩⟩
theorem same_ok {c : Nat} {d e f : Option Nat} {n x : Nat} (hf : firstN c d e f = (n, true)) (hd : decN c d e f = (x, n)) (hb : x = 65533 → isBadO c d e) : DecSame c d e f := by
  unfold DecSame; rw [hf, hd]; exact ⟨fun _ => ⟨rfl, hb⟩, fun h => (by cases h)⟩
theorem first_bad1 {c : Nat} {d e f : Option Nat} (h : ¬ c < 128) (ht : (tailN c).2.2 = 1) : firstN c d e f = (1, false) := by
  unfold firstN; rw [if_neg h, if_pos ht]
theorem contO_iff (o : Option Nat) : contO o ↔ ∃ x, o = some x ∧ 128 ≤ x ∧ x ≤ 191 := by
  cases o with
  | none => simp [contO]
  | some x => simp [contO]
theorem inO_iff (lo hi : Nat) (o : Option Nat) : inO lo hi o ↔ ∃ x, o = some x ∧ lo ≤ x ∧ x ≤ hi := by
  cases o with
  | none => simp [inO]
  | some x => simp [inO]
theorem dec_same (c : Nat) (d e f : Option Nat) (hc : c < 256) : DecSame c d e f := by
  by_cases h : c < 128
  · refine same_ok (n := 1) (x := c) ?_ ?_ (by omega)
    · unfold firstN; rw [if_pos h]
    · unfold decN; rw [if_pos h]
  have h' : 128 ≤ c := by omega
  by_cases r1 : c < 194 ∨ 244 < c
  · have ht := tail_1 r1
    refine same_bad (n := 1) (first_bad1 h ht.one) ?_ (by unfold isBadO; omega)
    unfold decN
    rw [if_neg h]
    split
    · rename_i hh
      rw [if_neg]
      obtain ⟨x, rfl, h1, h2⟩ := (contO_iff d).1 hh.2
      simp only [lowO]; omega
    · split
      · rename_i _ hh; omega
      · split
        · rename_i _ _ hh
          rw [if_neg]
          rintro ⟨_, h3⟩
          unfold okV at h3
          omega
        · rfl
  by_cases r2 : c ≤ 223
  · have ht := tail_2 (c := c) (by omega)
    by_cases hd : contO d
    · obtain ⟨x, rfl, h1, h2⟩ := (contO_iff d).1 hd
      refine same_ok (n := 2) (x := c % 32 * 64 + x % 64) ?_ ?_ (by omega)
      · unfold firstN; rw [if_neg h, if_neg (by rw [ht.one]; omega), if_neg (by rw [ht.lo_, ht.hi_]; exact not_not_intro hd), if_pos ht.one]
      · unfold decN; rw [if_neg h, if_pos ⟨by omega, h1, h2⟩, if_pos (by simp only [lowO]; omega)]; rfl
    · refine same_bad (n := 1) ?_ ?_ (by unfold isBadO; omega)
      · unfold firstN; rw [if_neg h, if_neg (by rw [ht.one]; omega), if_pos (by rw [ht.lo_, ht.hi_]; exact hd)]
      · unfold decN; rw [if_neg h, if_neg (fun hh => hd hh.2), if_neg (fun hh => hd hh.2.1), if_neg (fun hh => hd hh.2.1)]
  by_cases r3 : c ≤ 239
  · obtain ⟨lo, hi, ht, g1, g2, g3, g4, g5, g6⟩ := tail_3 (c := c) (by omega)
    have n6 : ¬ (c / 32 = 6 ∧ contO d) := by omega
    have n8 : ¬ (c / 8 = 30 ∧ contO d ∧ contO e ∧ contO f) := by omega
    by_cases hd : inO lo hi d
    · obtain ⟨x, rfl, h1, h2⟩ := (inO_iff _ _ d).1 hd
      by_cases he : contO e
      · obtain ⟨y, rfl, h3, h4⟩ := (contO_iff e).1 he
        refine same_ok (n := 3) (x := c % 16 * 4096 + x % 64 * 64 + y % 64) ?_ ?_ ?_
        · unfold firstN; rw [if_neg h, if_neg (by rw [ht.one]; omega), if_neg (by rw [ht.lo_, ht.hi_]; exact not_not_intro hd), if_neg (by rw [ht.one]; omega), if_neg (not_not_intro he), if_pos ht.one]
        · unfold decN
          rw [if_neg h, if_neg n6, if_pos ⟨by omega, ⟨by omega, by omega⟩, he⟩, if_pos]
          · rfl
          · refine ⟨by simp only [lowO]; omega, ?_⟩
            simp only [okV, lowO]; omega
        · intro hx
          have : c = 239 ∧ x = 191 ∧ y = 189 := by omega
          obtain ⟨rfl, rfl, rfl⟩ := this
          exact ⟨rfl, rfl, rfl⟩
      · refine same_bad (n := 2) ?_ ?_ (by rintro ⟨_, _, rfl⟩; exact he (by simp [contO]))
        · unfold firstN; rw [if_neg h, if_neg (by rw [ht.one]; omega), if_neg (by rw [ht.lo_, ht.hi_]; exact not_not_intro hd), if_neg (by rw [ht.one]; omega), if_pos he]
        · unfold decN; rw [if_neg h, if_neg n6, if_neg (fun hh => he hh.2.2), if_neg n8]
    · refine same_bad (n := 1) ?_ ?_ ?_
      · unfold firstN; rw [if_neg h, if_neg (by rw [ht.one]; omega), if_pos (by rw [ht.lo_, ht.hi_]; exact hd)]
      · unfold decN
        rw [if_neg h, if_neg n6]
        split
        · rename_i hh
          obtain ⟨x, rfl, h1, h2⟩ := (contO_iff d).1 hh.2.1
          obtain ⟨y, rfl, h3, h4⟩ := (contO_iff e).1 hh.2.2
          rw [if_neg]
          rintro ⟨h5, h6⟩
          simp only [okV, lowO] at h5 h6
          exact hd ⟨by omega, by omega⟩
        · rfl
      · rintro ⟨rfl, rfl, _⟩
        exact hd ⟨by omega, by omega⟩
  · obtain ⟨lo, hi, ht, g1, g2, g3, g4, g5, g6⟩ := tail_4 (c := c) (by omega)
    have n6 : ¬ (c / 32 = 6 ∧ contO d) := by omega
    have n7 : ¬ (c / 16 = 14 ∧ contO d ∧ contO e) := by omega
    have nb : ¬ isBadO c d e := by unfold isBadO; omega
    by_cases hd : inO lo hi d
    · obtain ⟨x, rfl, h1, h2⟩ := (inO_iff _ _ d).1 hd
      by_cases he : contO e
      · obtain ⟨y, rfl, h3, h4⟩ := (contO_iff e).1 he
        by_cases hf : contO f
        · obtain ⟨z, rfl, h5, h6⟩ := (contO_iff f).1 hf
          refine same_ok (n := 4) (x := c % 8 * 262144 + x % 64 * 4096 + y % 64 * 64 + z % 64) ?_ ?_ (by omega)
          · unfold firstN; rw [if_neg h, if_neg (by rw [ht.one]; omega), if_neg (by rw [ht.lo_, ht.hi_]; exact not_not_intro hd), if_neg (by rw [ht.one]; omega), if_neg (not_not_intro he), if_neg (by rw [ht.one]; omega), if_pos hf]
          · unfold decN
            rw [if_neg h, if_neg n6, if_neg n7, if_pos ⟨by omega, ⟨by omega, by omega⟩, he, hf⟩, if_pos]
            · rfl
            · refine ⟨by simp only [lowO]; omega, ?_⟩
              simp only [okV, lowO]; omega
        · refine same_bad (n := 3) ?_ ?_ nb
          · unfold firstN; rw [if_neg h, if_neg (by rw [ht.one]; omega), if_neg (by rw [ht.lo_, ht.hi_]; exact not_not_intro hd), if_neg (by rw [ht.one]; omega), if_neg (not_not_intro he), if_neg (by rw [ht.one]; omega), if_neg hf]
          · unfold decN; rw [if_neg h, if_neg n6, if_neg n7, if_neg (fun hh => hf hh.2.2.2)]
      · refine same_bad (n := 2) ?_ ?_ nb
        · unfold firstN; rw [if_neg h, if_neg (by rw [ht.one]; omega), if_neg (by rw [ht.lo_, ht.hi_]; exact not_not_intro hd), if_neg (by rw [ht.one]; omega), if_pos he]
        · unfold decN; rw [if_neg h, if_neg n6, if_neg n7, if_neg (fun hh => he hh.2.2.1)]
    · refine same_bad (n := 1) ?_ ?_ nb
      · unfold firstN; rw [if_neg h, if_neg (by rw [ht.one]; omega), if_pos (by rw [ht.lo_, ht.hi_]; exact hd)]
      · unfold decN
        rw [if_neg h, if_neg n6, if_neg n7]
        split
        · rename_i hh
          obtain ⟨x, rfl, h1, h2⟩ := (contO_iff d).1 hh.2.1
          obtain ⟨y, rfl, h3, h4⟩ := (contO_iff e).1 hh.2.2.1
          obtain ⟨z, rfl, h5, h6⟩ := (contO_iff f).1 hh.2.2.2
          rw [if_neg]
          rintro ⟨h7, h8⟩
          simp only [okV, lowO] at h7 h8
          exact hd ⟨by omega, by omega⟩
        · rfl
/-! ### by lists -/
def badP : List UInt8 := [239, 191, 189]
theorem bad_list (c : UInt8) (r : List UInt8) : badP.isPrefixOf (c :: r) = true ↔ isBadO c.toNat (byteO r 0) (byteO r 1) := by
  rcases r with _ | ⟨d, _ | ⟨e, r⟩⟩
  · simp [badP, List.isPrefixOf, isBadO, byteO]
  · simp [badP, List.isPrefixOf, isBadO, byteO]
  · simp only [badP, List.isPrefixOf, Bool.and_eq_true, beq_iff_eq, Bool.and_true, isBadO, byteO, List.getElem?_cons_zero, List.getElem?_cons_succ, Option.map_some, Option.some.injEq]
    constructor
    · rintro ⟨rfl, rfl, rfl⟩; exact ⟨rfl, rfl, rfl⟩
    · rintro ⟨h1, h2, h3⟩
      exact ⟨(UInt8.toNat_inj.1 h1).symm, (UInt8.toNat_inj.1 h2).symm, (UInt8.toNat_inj.1 h3).symm⟩
theorem getb_list (s : ByteArray) (j : Nat) : s.get! j = s.data.toList.getD j 0 := by
  rw [List.getD_eq_getElem?_getD, Array.getElem?_toList]
  cases s with
  | mk d =>
    show d[j]! = _
    rw [getElem!_def]
    cases d[j]? <;> rfl
theorem valid_iff (n : Nat) : Utf8.valid (n : Int) = true ↔ okV n := by
  simp only [Utf8.valid, Bool.or_eq_true, Bool.and_eq_true, decide_eq_true_eq, okV]
  omega
theorem decode_list (s : ByteArray) (i : Nat) (c : UInt8) (r : List UInt8) (h : s.data.toList.drop i = c :: r) : Utf8.decode s i = decN c.toNat (byteO r 0) (byteO r 1) (byteO r 2) := by
  have e0 : (s.get! (i + 0)).toNat = c.toNat := by
    rw [getb_list, List.getD_eq_getElem?_getD, ← List.getElem?_drop, h]; rfl
  have ek : ∀ k, (s.get! (i + (k + 1))).toNat % 64 = lowO (byteO r k) := fun k => by
    rw [getb_list, List.getD_eq_getElem?_getD, ← List.getElem?_drop, h, List.getElem?_cons_succ]
    unfold byteO
    cases r[k]? <;> rfl
  have ck : ∀ k, (decide (i + (k + 1) < s.size) && (s.get! (i + (k + 1))).toNat / 64 == 2) = decide (contO (byteO r k)) := fun k => by
    have hl : s.size = i + (r.length + 1) := by
      have := congrArg List.length h
      rw [List.length_drop, Array.length_toList, List.length_cons] at this
      have e : s.data.size = s.size := rfl
      omega
    rw [getb_list, List.getD_eq_getElem?_getD, ← List.getElem?_drop, h, List.getElem?_cons_succ]
    unfold byteO
    rcases Nat.lt_or_ge k r.length with hk | hk
    · rw [List.getElem?_eq_getElem hk]
      have := (r[k]).toNat_lt
      rw [decide_eq_true (show i + (k + 1) < s.size by omega), Bool.true_and, Bool.eq_iff_iff, beq_iff_eq, decide_eq_true_eq]
      show (r[k]).toNat / 64 = 2 ↔ (128 ≤ (r[k]).toNat ∧ (r[k]).toNat ≤ 191)
      omega
    · rw [List.getElem?_eq_none hk, decide_eq_false (by omega), Bool.false_and]
      rfl
  have c1 := ck 0
  have c2 := ck 1
  have c3 := ck 2
  have l1 := ek 0
  have l2 := ek 1
  have l3 := ek 2
  unfold Utf8.decode decN
  simp only [Nat.zero_add, Nat.reduceAdd, Nat.add_zero] at c1 c2 c3 l1 l2 l3 e0
  simp only [Nat.add_zero, e0, c1, c2, c3, l1, l2, l3, Bool.and_eq_true, beq_iff_eq, decide_eq_true_eq, valid_iff, ge_iff_le, Utf8.runeError, and_assoc]
/-- how a text goes on that is decoded -/
theorem decode_right {s : ByteArray} {i : Nat} {c : UInt8} {r : List UInt8} (h : s.data.toList.drop i = c :: r) :
    ((firstU (c :: r)).2 = true → (Utf8.decode s i).2 = (firstU (c :: r)).1 ∧ ((Utf8.decode s i).1 = 65533 → badP.isPrefixOf (c :: r) = true)) ∧
    ((firstU (c :: r)).2 = false → (Utf8.decode s i).1 = 65533 ∧ ¬ badP.isPrefixOf (c :: r) = true) := by
  have hs := dec_same c.toNat (byteO r 0) (byteO r 1) (byteO r 2) c.toNat_lt
  rw [decode_list s i c r h, bad_list]
  exact hs
end Go.Proofs.YtajfpegacbohdaaDoor.Pl
