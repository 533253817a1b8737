/-
  The pure statements of layer 2 (lines): what the printed functions of the statements and of the reference come to.
-/
import Derived.Test.YtppaobgccdlccaaDoorPr1
import Derived.Test.YtppaobgccdlccaaDoorPr2
import Derived.Test.YtppaobgccdlccaaDoorPr3
import Derived.Test.YtppaobgccdlccaaDoorPr4
import Derived.Test.YtppaobgccdlccaaDoorPb
namespace Go.Proofs.YtppaobgccdlccaaDoor.Pure
open Go Go.RowKit Go.Proofs.YtppaobgccdlccaaDoor.Hand Go.Proofs.YtppaobgccdlccaaDoor.Pr Go.Proofs.YtppaobgccdlccaaDoorW.PrintWords Go.Proofs.YtppaobgccdlccaaDoor.Pl Go.Proofs.YtppaobgccdlccaaDoor.Pb

theorem normB_B (l : List UInt8) : normB (B l) = B (normL l) := by simp [normB, B]
theorem cleanBA_B (l : List UInt8) : cleanBA (B l) = B (cleanL l) := by simp [cleanBA, B]
theorem norm_f (l : List UInt8) (h : l.length ≤ 1000000000) : lines_Norm.f (B l) = some (B (normL l)) := by
  unfold lines_Norm.f; rw [if_pos (by simpa using h), normB_B]
theorem clean_f (l : List UInt8) (h : l.length ≤ 1000000000) : lines_Clean.f (B l) = some (B (cleanL l)) := by
  unfold lines_Clean.f; rw [if_pos (by simpa using h), cleanBA_B]
theorem lines_awake : flaillaw02_awake.f = some true := by
  have e1 : lines_Norm.f ⟨#[97, 13, 10, 98, 13, 99]⟩ = some (B [97, 10, 98, 10, 99]) := norm_f [97, 13, 10, 98, 13, 99] (by decide)
  have e2 : lines_Clean.f ⟨#[97, 0]⟩ = some (B [97, 239, 191, 189]) := clean_f [97, 0] (by decide)
  have e3 : lines_Norm.f ⟨#[]⟩ = some (B []) := norm_f [] (by decide)
  unfold flaillaw02_awake.f
  rw [e1, Option.bind_some, if_pos (by simp), e2, Option.bind_some, if_pos (by simp), e3, Option.bind_some]
  simp

theorem nil_or_snoc (p : List UInt8) : p = [] ∨ ∃ q d, p = q ++ [d] := by
  rcases List.eq_nil_or_concat p with h | ⟨q, d, h⟩
  · exact .inl h
  · exact .inr ⟨q, d, by simpa using h⟩
def last13 (p : List UInt8) : Bool := p.getLast? == some 13
@[simp] theorem last13_snoc (p : List UInt8) (c : UInt8) : last13 (p ++ [c]) = (c == 13) := by simp [last13]

theorem u13 (c : UInt8) : ((c.toNat : Int) = 13) = (c = 13) := u8_eq c 13 (by omega)
theorem u10 (c : UInt8) : ((c.toNat : Int) = 10) = (c = 10) := u8_eq c 10 (by omega)
theorem u0 (c : UInt8) : ((c.toNat : Int) = 0) = (c = 0) := u8_eq c 0 (by omega)

theorem refNorm_loop (r : List UInt8) : ∀ (p acc : List UInt8), (p ++ r).length ≤ 1000000 → acc.length ≤ p.length →
    Ev (fun k => flailref02_Norm.l0 k (B (p ++ r)) (B acc) (p.length : Int)) (B (acc ++ normF (last13 p) r)) := by
  induction r with
  | nil =>
    intro p acc hl ha
    refine Ev.step (f := fun _ => some (B acc)) (fun k => ?_) (by simp only [normF, List.append_nil]; exact Ev.now _)
    simp only [flailref02_Norm.l0, List.append_nil]
    rw [if_neg (end_nlt p)]
  | cons c r ih =>
    intro p acc hl ha
    simp only [List.length_append, List.length_cons] at hl
    have hw := wrap_nat p.length (by omega)
    have hlt := mid_lt p r c
    have hs : p ++ c :: r = (p ++ [c]) ++ r := by simp
    have go : ∀ acc', acc'.length ≤ p.length + 1 → acc' ++ normF (last13 (p ++ [c])) r = acc ++ normF (last13 p) (c :: r) →
        Ev (fun k => flailref02_Norm.l0 k (B (p ++ c :: r)) (B acc') ((p.length + 1 : Nat) : Int)) (B (acc ++ normF (last13 p) (c :: r))) := by
      intro acc' h1 h2
      have := ih (p ++ [c]) acc' (by simp; omega) (by simp; omega)
      rw [← hs, h2] at this
      simpa using this
    have hcut : (B (p ++ c :: r)).extract ((p.length : Int)).toNat (((p.length + 1 : Nat) : Int)).toNat = B [c] := by
      simp only [Int.toNat_natCast]; exact ext_mid p r c
    have keep : ∀ k, (if 0 ≤ (p.length : Int) then (if (p.length : Int) ≤ wrap64 ((p.length : Int) + 1) then (if wrap64 ((p.length : Int) + 1) ≤ ((B (p ++ c :: r)).size : Int) then (if (B acc).size + ((B (p ++ c :: r)).extract ((p.length : Int)).toNat (wrap64 ((p.length : Int) + 1)).toNat).size ≤ 9223372036854775807 then (flailref02_Norm.l0 k (B (p ++ c :: r)) (B acc ++ ((B (p ++ c :: r)).extract ((p.length : Int)).toNat (wrap64 ((p.length : Int) + 1)).toNat)) (wrap64 ((p.length : Int) + 1))) else none) else none) else none) else none) = flailref02_Norm.l0 k (B (p ++ c :: r)) (B (acc ++ [c])) ((p.length + 1 : Nat) : Int) := by
      intro k
      rw [hw, hcut, if_pos (by omega), if_pos (by omega), if_pos (by simp; omega), if_pos (by simp; omega)]
      simp
    by_cases h13 : c = 13
    · subst h13
      refine Ev.step (f := fun k => flailref02_Norm.l0 k (B (p ++ 13 :: r)) (B (acc ++ [10])) ((p.length + 1 : Nat) : Int)) (fun k => ?_) (go _ (by simp only [List.length_append, List.length_singleton] at *; omega) (by simp [normF]))
      simp only [flailref02_Norm.l0]
      rw [if_pos hlt, if_pos (by omega), bt_mid, if_pos (by decide), if_pos (by simp; omega), hw]
      simp [B_mk]
    · have n13 : ¬ ((c.toNat : Int) = 13) := by rw [u13]; exact h13
      by_cases h10 : c = 10
      · subst h10
        have head : ∀ k, flailref02_Norm.l0 (k + 1) (B (p ++ 10 :: r)) (B acc) (p.length : Int) = flailref02_Norm.j1 k (B (p ++ 10 :: r)) (B acc) (p.length : Int) ((p.length : Int) == 0) := by
          intro k
          conv => lhs; unfold flailref02_Norm.l0
          rw [if_pos hlt, if_pos (by omega), bt_mid, if_neg n13, if_pos (by decide)]
        refine Ev.step head ?_
        rcases nil_or_snoc p with rfl | ⟨q, d, rfl⟩
        · refine Ev.step (f := fun k => flailref02_Norm.l0 k (B ([] ++ 10 :: r)) (B (acc ++ [10])) (([] : List UInt8).length + 1 : Nat)) (fun k => ?_) (go _ (by simp only [List.length_append, List.length_singleton] at *; omega) (by simp [normF, last13, show ((10 : UInt8) == 13) = false from rfl]))
          unfold flailref02_Norm.j1
          rw [if_pos (by simp)]
          exact keep k
        · have hz : (((q ++ [d]).length : Int) == 0) = false := by simp; omega
          have hl' := hl
          simp only [List.length_append, List.length_singleton] at hl'
          have hm : wrap64 (((q ++ [d]).length : Int) - 1) = (q.length : Int) := by unfold wrap64; simp; omega
          have hbt : bt (B ((q ++ [d]) ++ 10 :: r)) (q.length : Int) = (d.toNat : Int) := by
            have : (q ++ [d]) ++ 10 :: r = q ++ d :: (10 :: r) := by simp
            rw [this]; exact bt_mid q (10 :: r) d
          by_cases hd : d = 13
          · subst hd
            refine Ev.step (f := fun k => flailref02_Norm.l0 k (B ((q ++ [13]) ++ 10 :: r)) (B acc) (((q ++ [13]).length + 1 : Nat) : Int)) (fun k => ?_) (go _ (by omega) (by rw [last13_snoc, last13_snoc]; simp [normF, show ((10 : UInt8) == 13) = false from rfl]))
            unfold flailref02_Norm.j1
            rw [hz, if_neg (by simp), hm, if_pos (by omega), if_pos (by simp; omega), hbt, if_pos (by decide), hw]
          · refine Ev.step (f := fun k => flailref02_Norm.l0 k (B ((q ++ [d]) ++ 10 :: r)) (B (acc ++ [10])) (((q ++ [d]).length + 1 : Nat) : Int)) (fun k => ?_) (go _ (by simp only [List.length_append, List.length_singleton] at *; omega) (by rw [last13_snoc, last13_snoc]; simp [normF, show ((10 : UInt8) == 13) = false from rfl, show (d == 13) = false by simpa using hd]))
            unfold flailref02_Norm.j1
            rw [hz, if_neg (by simp), hm, if_pos (by omega), if_pos (by simp; omega), hbt, if_neg (by rw [u13]; exact hd)]
            exact keep k
      · have n10 : ¬ ((c.toNat : Int) = 10) := by rw [u10]; exact h10
        have head : ∀ k, flailref02_Norm.l0 (k + 1) (B (p ++ c :: r)) (B acc) (p.length : Int) = flailref02_Norm.j1 k (B (p ++ c :: r)) (B acc) (p.length : Int) true := by
          intro k
          conv => lhs; unfold flailref02_Norm.l0
          rw [if_pos hlt, if_pos (by omega), bt_mid, if_neg n13, if_neg n10]
        refine Ev.step head ?_
        refine Ev.step (f := fun k => flailref02_Norm.l0 k (B (p ++ c :: r)) (B (acc ++ [c])) ((p.length + 1 : Nat) : Int)) (fun k => ?_) (go _ (by simp only [List.length_append, List.length_singleton] at *; omega) (by simp [normF, h13, h10, show (c == 13) = false by simpa using h13]))
        unfold flailref02_Norm.j1
        rw [if_pos rfl]
        exact keep k
theorem refNorm (l : List UInt8) (h : l.length ≤ 1000000) : Ev (fun k => flailref02_Norm.f k (B l)) (B (normL l)) := by
  have := refNorm_loop l [] [] (by simpa using h) (by simp)
  simpa [flailref02_Norm.f, last13, normL] using this

theorem refClean_loop (r : List UInt8) : ∀ (p acc : List UInt8), (p ++ r).length ≤ 1000000 → acc.length ≤ 3 * p.length →
    Ev (fun k => flailref02_Clean.l0 k (B (p ++ r)) (B acc) (p.length : Int)) (B (acc ++ cleanL r)) := by
  induction r with
  | nil =>
    intro p acc hl ha
    refine Ev.step (f := fun _ => some (B acc)) (fun k => ?_) (by simp only [cleanL, List.flatMap_nil, List.append_nil]; exact Ev.now _)
    simp only [flailref02_Clean.l0, List.append_nil]
    rw [if_neg (end_nlt p)]
  | cons c r ih =>
    intro p acc hl ha
    simp only [List.length_append, List.length_cons] at hl
    have hw := wrap_nat p.length (by omega)
    have hlt := mid_lt p r c
    have hs : p ++ c :: r = (p ++ [c]) ++ r := by simp
    have hcut : (B (p ++ c :: r)).extract ((p.length : Int)).toNat (((p.length + 1 : Nat) : Int)).toNat = B [c] := by
      simp only [Int.toNat_natCast]; exact ext_mid p r c
    have e : cleanL (c :: r) = cleanB c ++ cleanL r := rfl
    have hcl : (cleanB c).length ≤ 3 := by unfold cleanB; split <;> simp
    have := ih (p ++ [c]) (acc ++ cleanB c) (by simp; omega) (by simp; omega)
    rw [← hs, List.append_assoc, ← e] at this
    refine Ev.step (fun k => ?_) this
    simp only [flailref02_Clean.l0]
    rw [if_pos hlt, if_pos (by omega), bt_mid]
    by_cases h0 : c = 0
    · subst h0
      rw [if_pos (by decide), if_pos (by simp; omega), hw]
      simp [B_mk, cleanB]
    · rw [if_neg (by rw [u0]; exact h0), hw, hcut, if_pos (by omega), if_pos (by simp; omega), if_pos (by simp; omega)]
      simp [cleanB, h0]
theorem refClean (l : List UInt8) (h : l.length ≤ 1000000) : Ev (fun k => flailref02_Clean.f k (B l)) (B (cleanL l)) := by
  have := refClean_loop l [] [] (by simpa using h) (by simp)
  simpa [flailref02_Clean.f] using this

theorem LinesTells : flaillaw02_LinesTells.Pure := by
  intro a0 _
  obtain ⟨l, rfl⟩ := exists_B a0
  apply Ev.rounds (g := fun k => flaillaw02_LinesTells.f k (B l))
  simp only [flaillaw02_LinesTells.f, lines_awake, Option.bind_some, size_B]
  by_cases h : (l.length : Int) > 300
  · simp only [if_pos h]; exact Ev.now _
  · simp only [if_neg h, norm_f l (by omega), clean_f l (by omega), Option.bind_some, if_true]
    refine Ev.bind (refNorm l (by omega)) ?_
    simp only [toList_B, if_true]
    refine Ev.bind (refClean l (by omega)) ?_
    simp only [toList_B, BEq.rfl]
    exact Ev.now _
/-- a loop that looks for a byte that isn't there -/
theorem once_l1 (r : List UInt8) : ∀ (p a : List UInt8) (s : ByteArray), (p ++ r).length ≤ 1000000 → a.length ≤ 1000000 → (0 : UInt8) ∉ r → (0 : UInt8) ∉ p → (13 : UInt8) ∉ a → a.length ≤ s.size → s.size ≤ (p ++ r).length →
    Ev (fun k => flaillaw02_LinesOnce.l1 k s true (B a) (B (p ++ r)) (p.length : Int)) true := by
  induction r with
  | nil =>
    intro p a s hl ha hr hp h13 h1 h2
    simp only [List.append_nil] at hl h2 ⊢
    refine Ev.step (f := fun _ => some true) (fun k => ?_) (Ev.now _)
    rw [flaillaw02_LinesOnce.l1, if_neg (end_nlt p), if_pos rfl, norm_f a (by omega), Option.bind_some, normL_of_no13 h13, if_pos rfl, clean_f p (by omega), Option.bind_some, cleanL_of_no0 hp, if_pos rfl, if_pos (by simp; omega)]
    simp; omega
  | cons c r ih =>
    intro p a s hl ha hr hp h13 h1 h2
    simp only [List.length_append, List.length_cons] at hl h2
    have hs : p ++ c :: r = (p ++ [c]) ++ r := by simp
    have hc0 : c ≠ 0 := fun e => hr (by simp [e])
    have := ih (p ++ [c]) a s (by simp; omega) ha (fun e => hr (by simp [e])) (by simp; exact ⟨hp, fun e => hc0 e.symm⟩) h13 h1 (by simp; omega)
    rw [← hs] at this
    refine Ev.step (fun k => ?_) this
    rw [flaillaw02_LinesOnce.l1, if_pos (mid_lt p r c), if_pos (by omega), bt_mid, if_neg (by rw [u0]; exact hc0), wrap_nat _ (by omega)]
    simp
theorem once_l0 (r : List UInt8) : ∀ (p b : List UInt8) (s : ByteArray), (p ++ r).length ≤ 1000000 → b.length ≤ 1000000 → (13 : UInt8) ∉ r → (13 : UInt8) ∉ p → (0 : UInt8) ∉ b → (p ++ r).length ≤ s.size → s.size ≤ b.length →
    Ev (fun k => flaillaw02_LinesOnce.l0 k s true (B (p ++ r)) (B b) (p.length : Int)) true := by
  induction r with
  | nil =>
    intro p b s hl hb hr hp h0 h1 h2
    simp only [List.append_nil] at hl h1 ⊢
    refine Ev.step (fun k => ?_) (once_l1 b [] p s (by simpa using hb) hl h0 (by simp) hp h1 (by simpa using h2))
    rw [flaillaw02_LinesOnce.l0, if_neg (end_nlt p)]
    rfl
  | cons c r ih =>
    intro p b s hl hb hr hp h0 h1 h2
    simp only [List.length_append, List.length_cons] at hl h1
    have hs : p ++ c :: r = (p ++ [c]) ++ r := by simp
    have hc : c ≠ 13 := fun e => hr (by simp [e])
    have := ih (p ++ [c]) b s (by simp; omega) hb (fun e => hr (by simp [e])) (by simp; exact ⟨hp, fun e => hc e.symm⟩) h0 (by simp; omega) h2
    rw [← hs] at this
    refine Ev.step (fun k => ?_) this
    rw [flaillaw02_LinesOnce.l0, if_pos (mid_lt p r c), if_pos (by omega), bt_mid, if_neg (by rw [u13]; exact hc), wrap_nat _ (by omega)]
    simp
theorem LinesOnce : flaillaw02_LinesOnce.Pure := by
  intro a0 _
  obtain ⟨l, rfl⟩ := exists_B a0
  apply Ev.rounds (g := fun k => flaillaw02_LinesOnce.f k (B l))
  simp only [flaillaw02_LinesOnce.f, lines_awake, Option.bind_some, size_B]
  by_cases h : (l.length : Int) > 300
  · simp only [if_pos h]; exact Ev.now _
  · simp only [if_neg h, norm_f l (by omega), clean_f l (by omega), Option.bind_some]
    have h1 := normL_length l
    have h2 := cleanL_length l
    exact once_l0 (normL l) [] (cleanL l) (B l) (by simp; omega) (by omega) (normL_no13 l) (by simp) (cleanL_no0 l) (by simpa using h1) (by simpa using h2.1)

theorem join_len (a b : List UInt8) : (B a).size + (B b).size ≤ 9223372036854775807 ↔ a.length + b.length ≤ 9223372036854775807 := by simp
theorem LinesJoins : flaillaw02_LinesJoins.Pure := by
  intro a0 a1 _ _
  obtain ⟨l, rfl⟩ := exists_B a0
  obtain ⟨m, rfl⟩ := exists_B a1
  apply Ev.rounds (g := fun k => flaillaw02_LinesJoins.f k (B l) (B m))
  simp only [flaillaw02_LinesJoins.f, lines_awake, Option.bind_some, size_B]
  have out : ∀ b, b = true → Ev (fun k => flaillaw02_LinesJoins.j0 k (B l) (B m) true b) true := by
    rintro _ rfl
    refine Ev.step (f := fun _ => some true) (fun k => ?_) (Ev.now _)
    rw [flaillaw02_LinesJoins.j0, if_pos rfl]
  by_cases h : (l.length : Int) > 300
  · simp only [if_pos h]; exact out _ rfl
  simp only [if_neg h]
  by_cases h' : (m.length : Int) > 300
  · exact out _ (by simpa using h')
  have hl := cleanL_length l
  have hm := cleanL_length m
  have nl := normL_length l
  have nm := normL_length m
  have hlm := cleanL_length (l ++ m)
  have nlm := normL_length (l ++ m)
  simp only [List.length_append] at hlm nlm
  have hno : decide ((m.length : Int) > 300) = false := by simpa using h'
  rw [hno]
  -- the last step, behind which all is as it was
  have last : normL (l ++ m) = normL l ++ normL m → ∀ b, b = false → Ev (fun k => flaillaw02_LinesJoins.j2 k (B l) (B m) true true b) true := by
    rintro e _ rfl
    refine Ev.step (f := fun _ => some true) (fun k => ?_) (Ev.now _)
    rw [flaillaw02_LinesJoins.j2, if_neg (by simp), if_pos rfl, if_pos rfl, if_pos (by simp; omega), B_append, norm_f _ (by simp; omega), Option.bind_some, norm_f _ (by omega), Option.bind_some, norm_f _ (by omega), Option.bind_some, if_pos (by simp; omega), B_append, toList_B, toList_B, e]
    simp
  have other : normL (l ++ m) = normL l ++ normL m → ∀ b, b = false → Ev (fun k => flaillaw02_LinesJoins.j1 k (B l) (B m) true true b) true := by
    rintro e _ rfl
    refine Ev.step (f := fun _ => some true) (fun k => ?_) (Ev.now _)
    rw [flaillaw02_LinesJoins.j1, if_neg (by simp), if_pos rfl, if_pos rfl, if_pos (by simp; omega), B_append, norm_f _ (by simp; omega), Option.bind_some, norm_f _ (by omega), Option.bind_some, norm_f _ (by omega), Option.bind_some, if_pos (by simp; omega), B_append, toList_B, toList_B, e]
    simp
  have start : ∀ b, (b = decide ((l.length : Int) > 0 ∧ (m.length : Int) > 0)) → Ev (fun k => flaillaw02_LinesJoins.j1 k (B l) (B m) true true b) true → Ev (fun k => flaillaw02_LinesJoins.j0 k (B l) (B m) true false) true := by
    intro b hb hE
    refine Ev.step (fun k => ?_) hE
    rw [flaillaw02_LinesJoins.j0, if_neg (by simp), if_pos (by simp; omega), B_append, clean_f _ (by simp; omega), Option.bind_some, clean_f _ (by omega), Option.bind_some, clean_f _ (by omega), Option.bind_some, if_pos (by simp; omega), B_append, toList_B, toList_B, cleanL_append]
    by_cases h0 : (l.length : Int) > 0
    · have h0' : 0 < l.length := by omega
      rw [if_pos (by simpa using h0'), hb]; simp [h0']
    · have h0' : ¬ 0 < l.length := by omega
      rw [if_neg (by simpa using h0'), hb]; simp [h0']
  rcases nil_or_snoc l with rfl | ⟨q, d, rfl⟩
  · exact start false (by simp) (other (by simp [normL_nil]) _ rfl)
  cases m with
  | nil => exact start false (by simp) (other (by simp [normL_nil]) _ rfl)
  | cons e m =>
    refine start true (by simp) ?_
    have hw : wrap64 (((q ++ [d]).length : Int) - 1) = (q.length : Int) := by unfold wrap64; simp; simp at h; omega
    have hbt : bt (B (q ++ [d])) (q.length : Int) = (d.toNat : Int) := bt_mid q [] d
    have hb0 : bt (B (e :: m)) 0 = (e.toNat : Int) := bt_mid [] m e
    have hsz : ((B (q ++ [d])).size : Int) = ((q ++ [d]).length : Int) := by simp
    have hj' : ∀ k, flaillaw02_LinesJoins.j1 (k + 1) (B (q ++ [d])) (B (e :: m)) true true true = (if (d.toNat : Int) = 13 then flaillaw02_LinesJoins.j2 k (B (q ++ [d])) (B (e :: m)) true true (((e.toNat : Int)) == 10) else flaillaw02_LinesJoins.j2 k (B (q ++ [d])) (B (e :: m)) true true false) := by
      intro k
      rw [flaillaw02_LinesJoins.j1, if_pos rfl, hsz, hw, if_pos (by omega), if_pos (by simp; omega), hbt, if_pos (show (0 : Int) < ((B (e :: m)).size : Int) by simp), hb0]
    have fl : flag13 false (q ++ [d]) = (d == 13) := by simp [flag13]
    by_cases hd : d = 13
    · by_cases he : e = 10
      · subst hd; subst he
        have hn : normL (q ++ [13] ++ 10 :: m) = normL (q ++ [13]) ++ normL m := by
          unfold normL; rw [normF_append, fl]; simp [normF]
        refine Ev.step (fun k => (hj' k).trans ?_) (f := fun k => flaillaw02_LinesJoins.j2 k (B (q ++ [13])) (B (10 :: m)) true true true) ?_
        · rw [if_pos (by decide)]; rfl
        · refine Ev.step (f := fun _ => some true) (fun k => ?_) (Ev.now _)
          have hx : (B (10 :: m)).extract 1 (B (10 :: m)).size = B m := by rw [B_extract]; simp
          have hmm := normL_length m
          simp only [List.length_cons] at h' hm nm hlm nlm
          rw [flaillaw02_LinesJoins.j2, if_pos rfl, if_pos rfl, if_pos rfl, if_pos (by simp; simp at h; omega), B_append, norm_f _ (by simp; simp at h; omega), Option.bind_some, norm_f _ (by omega), Option.bind_some, if_pos (by simp; omega), hx, norm_f _ (by omega), Option.bind_some, if_pos (by simp; omega), B_append, toList_B, toList_B, hn]
          simp
      · subst hd
        refine Ev.step (fun k => (hj' k).trans ?_) (f := fun k => flaillaw02_LinesJoins.j2 k (B (q ++ [13])) (B (e :: m)) true true false) (last ?_ _ rfl)
        · rw [if_pos (by decide), show (((e.toNat : Int)) == 10) = false by rw [beq_eq_false_iff_ne, ne_eq, u10]; exact he]
        · unfold normL; rw [normF_append, fl, show ((13 : UInt8) == 13) = true from rfl, normF_true_ne he]
    · refine Ev.step (fun k => (hj' k).trans ?_) (f := fun k => flaillaw02_LinesJoins.j2 k (B (q ++ [d])) (B (e :: m)) true true false) (last ?_ _ rfl)
      · rw [if_neg (by rw [u13]; exact hd)]
      · unfold normL; rw [normF_append, fl, show (d == 13) = false by simpa using hd]
/-! ### LinesCounts -/
def cntF : Bool → List UInt8 → Nat
  | _, [] => 0
  | b, c :: r => if c = 13 then 1 + cntF true r else if c = 10 then (if b = true then 0 else 1) + cntF false r else cntF false r
def plainL (l : List UInt8) : List UInt8 := l.filter fun c => c != 13 && c != 10
def noEnds (l : List UInt8) : List UInt8 := l.filter fun c => c != 10
theorem cnt_norm (l : List UInt8) : ∀ b, (normF b l).count 10 = cntF b l := by
  induction l with
  | nil => intro b; rfl
  | cons c r ih =>
    intro b
    simp only [normF, cntF]
    by_cases h13 : c = 13
    · subst h13
      simp only [show ¬ ((13 : UInt8) = 10) by decide, and_false, if_false, if_true, List.count_cons, ih]
      simp; omega
    · by_cases h10 : c = 10
      · subst h10
        cases b <;> simp [List.count_cons, ih]; omega
      · simp [h13, h10, List.count_cons, ih]
theorem plain_norm (l : List UInt8) : ∀ b, noEnds (normF b l) = plainL l := by
  induction l with
  | nil => intro b; rfl
  | cons c r ih =>
    intro b
    simp only [normF]
    unfold noEnds plainL at *
    by_cases h13 : c = 13
    · subst h13; simp [ih]
    · by_cases h10 : c = 10
      · subst h10; cases b <;> simp [ih]
      · simp [h13, h10, ih]
theorem counts_l1 (ok : Bool) (ends : Nat) (rest : List UInt8) (hrest : rest.length ≤ 1000000) (r : List UInt8) : ∀ (p left : List UInt8) (got : Nat), (p ++ r).length ≤ 1000000 → left.length ≤ p.length → got ≤ p.length →
    got + r.count 10 = ends → left ++ noEnds r = rest → ok = true →
    Ev (fun k => flaillaw02_LinesCounts.l1 k ok (ends : Int) (B rest) (B (p ++ r)) (got : Int) (B left) (p.length : Int)) true := by
  induction r with
  | nil =>
    intro p left got hl h1 h2 h3 h4 hok
    simp only [noEnds, List.filter_nil, List.append_nil, List.count_nil, Nat.add_zero] at h3 h4 hl ⊢
    subst h3; subst h4; subst hok
    refine Ev.step (f := fun _ => some true) (fun k => ?_) (Ev.now _)
    rw [flaillaw02_LinesCounts.l1, if_neg (end_nlt p), if_pos rfl, if_pos rfl]; simp
  | cons c r ih =>
    intro p left got hl h1 h2 h3 h4 hok
    simp only [List.length_append, List.length_cons] at hl
    have hs : p ++ c :: r = (p ++ [c]) ++ r := by simp
    have hw := wrap_nat p.length (by omega)
    have hcut : (B (p ++ c :: r)).extract ((p.length : Int)).toNat (((p.length + 1 : Nat) : Int)).toNat = B [c] := by
      simp only [Int.toNat_natCast]; exact ext_mid p r c
    by_cases h10 : c = 10
    · subst h10
      have := ih (p ++ [10]) left (got + 1) (by simp; omega) (by simp; omega) (by simp; omega) (by rw [← h3]; simp; omega) (by rw [← h4]; simp [noEnds]) hok
      rw [← hs] at this
      refine Ev.step (fun k => ?_) this
      rw [flaillaw02_LinesCounts.l1, if_pos (mid_lt p r 10), if_pos (by omega), bt_mid, if_pos (by decide), hw, wrap_nat got (by omega)]
      simp
    · have := ih (p ++ [c]) (left ++ [c]) got (by simp; omega) (by simp; omega) (by simp; omega) (by rw [← h3]; simp [List.count_cons, h10]) (by rw [← h4]; simp [noEnds, h10]) hok
      rw [← hs] at this
      refine Ev.step (fun k => ?_) this
      rw [flaillaw02_LinesCounts.l1, if_pos (mid_lt p r c), if_pos (by omega), bt_mid, if_neg (by rw [u10]; exact h10), hw, if_pos (by omega), if_pos (by simp; omega), hcut, if_pos (by simp; omega)]
      simp
theorem counts_l0 (r : List UInt8) : ∀ (p rest : List UInt8) (ends : Nat), (p ++ r).length ≤ 1000000 → rest.length ≤ p.length → ends ≤ p.length →
    ends + cntF (last13 p) r = (normL (p ++ r)).count 10 → rest ++ plainL r = noEnds (normL (p ++ r)) →
    Ev (fun k => flaillaw02_LinesCounts.l0 k (B (p ++ r)) true (ends : Int) (B rest) (p.length : Int)) true := by
  induction r with
  | nil =>
    intro p rest ends hl h1 h2 h3 h4
    simp only [plainL, cntF, List.filter_nil, List.append_nil, Nat.add_zero] at h3 h4 hl ⊢
    have hn := normL_length p
    have := counts_l1 true ends rest (by omega) (normL p) [] [] 0 (by simp; omega) (by simp) (by simp) (by rw [h3]; simp) (by rw [h4]; simp) rfl
    refine Ev.step (fun k => ?_) this
    rw [flaillaw02_LinesCounts.l0, if_neg (end_nlt p), norm_f p (by omega)]; rfl
  | cons c r ih =>
    intro p rest ends hl h1 h2 h3 h4
    have hnl : (p ++ c :: r).length ≤ 1000000 := hl
    simp only [List.length_append, List.length_cons] at hl
    have hs : p ++ c :: r = (p ++ [c]) ++ r := by simp
    have hw := wrap_nat p.length (by omega)
    have hlt := mid_lt p r c
    have hcut : (B (p ++ c :: r)).extract ((p.length : Int)).toNat (((p.length + 1 : Nat) : Int)).toNat = B [c] := by
      simp only [Int.toNat_natCast]; exact ext_mid p r c
    have go : ∀ (rest' : List UInt8) (ends' : Nat), rest'.length ≤ p.length + 1 → ends' ≤ p.length + 1 → ends' + cntF (c == 13) r = ends + cntF (last13 p) (c :: r) → rest' ++ plainL r = rest ++ plainL (c :: r) →
        Ev (fun k => flaillaw02_LinesCounts.l0 k (B (p ++ c :: r)) true (ends' : Int) (B rest') ((p.length + 1 : Nat) : Int)) true := by
      intro rest' ends' a1 a2 a3 a4
      have := ih (p ++ [c]) rest' ends' (by rw [← hs]; exact hnl) (by simp; omega) (by simp; omega) (by rw [← hs, last13_snoc, a3, h3]) (by rw [← hs, a4, h4])
      rw [← hs] at this
      simpa using this
    by_cases h13 : c = 13
    · subst h13
      refine Ev.step (fun k => ?_) (go rest (ends + 1) (by omega) (by omega) (by simp [cntF]; omega) (by simp [plainL]))
      rw [flaillaw02_LinesCounts.l0, if_pos hlt, if_pos (by omega), bt_mid, if_pos (by decide), hw, wrap_nat ends (by omega)]
    · have n13 : ¬ ((c.toNat : Int) = 13) := by rw [u13]; exact h13
      have e13 : (c == 13) = false := by simpa using h13
      by_cases h10 : c = 10
      · subst h10
        have e13' : ((10 : UInt8) == 13) = false := rfl
        rcases nil_or_snoc p with rfl | ⟨q, d, rfl⟩
        · refine Ev.step (fun k => ?_) (go rest (ends + 1) (by omega) (by omega) (by simp [cntF, last13]; omega) (by simp [plainL]))
          rw [flaillaw02_LinesCounts.l0, if_pos hlt, if_pos (by omega), bt_mid, if_neg n13, if_pos (by decide), if_pos (by simp), hw, wrap_nat ends (by omega)]
        · have hl' := hl
          simp only [List.length_append, List.length_singleton] at hl'
          have hm : wrap64 (((q ++ [d]).length : Int) - 1) = (q.length : Int) := by unfold wrap64; simp; omega
          have hbt : bt (B ((q ++ [d]) ++ 10 :: r)) (q.length : Int) = (d.toNat : Int) := by
            have : (q ++ [d]) ++ 10 :: r = q ++ d :: (10 :: r) := by simp
            rw [this]; exact bt_mid q (10 :: r) d
          by_cases hd : d = 13
          · subst hd
            refine Ev.step (fun k => ?_) (go rest ends (by omega) (by omega) (by rw [last13_snoc]; simp [cntF, e13']) (by simp [plainL]))
            rw [flaillaw02_LinesCounts.l0, if_pos hlt, if_pos (by omega), bt_mid, if_neg n13, if_pos (by decide), if_neg (by simp; omega), hm, if_pos (by omega), if_pos (by simp; omega), hbt, if_pos (by decide), hw]
          · refine Ev.step (fun k => ?_) (go rest (ends + 1) (by omega) (by omega) (by rw [last13_snoc]; simp [cntF, e13', show (d == 13) = false by simpa using hd]; omega) (by simp [plainL]))
            rw [flaillaw02_LinesCounts.l0, if_pos hlt, if_pos (by omega), bt_mid, if_neg n13, if_pos (by decide), if_neg (by simp; omega), hm, if_pos (by omega), if_pos (by simp; omega), hbt, if_neg (by rw [u13]; exact hd), hw, wrap_nat ends (by omega)]
      · have n10 : ¬ ((c.toNat : Int) = 10) := by rw [u10]; exact h10
        refine Ev.step (fun k => ?_) (go (rest ++ [c]) ends (by simp; omega) (by omega) (by rw [e13]; simp [cntF, h13, h10]) (by simp [plainL, h13, h10]))
        rw [flaillaw02_LinesCounts.l0, if_pos hlt, if_pos (by omega), bt_mid, if_neg n13, if_neg n10, hw, if_pos (by omega), if_pos (by simp; omega), hcut, if_pos (by simp; omega)]
        simp
theorem LinesCounts : flaillaw02_LinesCounts.Pure := by
  intro a0 _
  obtain ⟨l, rfl⟩ := exists_B a0
  apply Ev.rounds (g := fun k => flaillaw02_LinesCounts.f k (B l))
  simp only [flaillaw02_LinesCounts.f, lines_awake, Option.bind_some, size_B]
  by_cases h : (l.length : Int) > 300
  · simp only [if_pos h]; exact Ev.now _
  · simp only [if_neg h]
    exact counts_l0 l [] [] 0 (by simp; omega) (by simp) (by simp) (by simp [normL, cnt_norm, last13]) (by simp [normL, plain_norm])

/-! ### LinesKeep -/
theorem normL_eq_iff (l : List UInt8) : (normL l == l) = !l.contains 13 := by
  by_cases h : (13 : UInt8) ∈ l
  · rw [show (l.contains 13) = true by simpa using h]
    simp only [Bool.not_true, beq_eq_false_iff_ne, ne_eq]
    intro e; rw [← e] at h; exact normL_no13 l h
  · rw [show (l.contains 13) = false by simpa using h, normL_of_no13 h]; simp
theorem cleanL_eq_iff (l : List UInt8) : (cleanL l == l) = !l.contains 0 := by
  by_cases h : (0 : UInt8) ∈ l
  · rw [show (l.contains 0) = true by simpa using h]
    simp only [Bool.not_true, beq_eq_false_iff_ne, ne_eq]
    intro e; rw [← e] at h; exact cleanL_no0 l h
  · rw [show (l.contains 0) = false by simpa using h, cleanL_of_no0 h]; simp
theorem contains_snoc (p : List UInt8) (c x : UInt8) : (p ++ [c]).contains x = (p.contains x || (c == x)) := by
  rw [Bool.eq_iff_iff]
  simp only [List.contains_eq_mem, List.mem_append, List.mem_singleton, decide_eq_true_eq, Bool.or_eq_true, beq_iff_eq]
  constructor
  · rintro (h | h)
    · exact .inl h
    · exact .inr h.symm
  · rintro (h | h)
    · exact .inl h
    · exact .inr h.symm
theorem keep_l0 (r : List UInt8) : ∀ (p : List UInt8), (p ++ r).length ≤ 1000000 →
    Ev (fun k => flaillaw02_LinesKeep.l0 k (B (p ++ r)) true (p.contains 13) (p.contains 0) (p.length : Int)) true := by
  induction r with
  | nil =>
    intro p hl
    simp only [List.append_nil] at hl ⊢
    refine Ev.step (f := fun _ => some true) (fun k => ?_) (Ev.now _)
    have h1 := normL_length p
    have h2 := cleanL_length p
    rw [flaillaw02_LinesKeep.l0, if_neg (end_nlt p), if_pos rfl, norm_f p (by omega), Option.bind_some, toList_B, toList_B, normL_eq_iff, if_pos (by simp), clean_f p (by omega), Option.bind_some, toList_B, cleanL_eq_iff, if_pos (by simp), norm_f _ (by omega), Option.bind_some, clean_f _ (by omega), Option.bind_some, toList_B, toList_B]
    simp [normL, normF_clean]
  | cons c r ih =>
    intro p hl
    have hnl : (p ++ c :: r).length ≤ 1000000 := hl
    simp only [List.length_append, List.length_cons] at hl
    have hs : p ++ c :: r = (p ++ [c]) ++ r := by simp
    have hw := wrap_nat p.length (by omega)
    have := ih (p ++ [c]) (by rw [← hs]; exact hnl)
    rw [← hs] at this
    have e13 : (((c.toNat : Int)) == 13) = (c == 13) := by rw [Bool.eq_iff_iff, beq_iff_eq, beq_iff_eq, u13]
    have e0 : (((c.toNat : Int)) == 0) = (c == 0) := by rw [Bool.eq_iff_iff, beq_iff_eq, beq_iff_eq, u0]
    rw [contains_snoc, contains_snoc] at this
    refine Ev.step (fun k => ?_) this
    rw [flaillaw02_LinesKeep.l0, if_pos (mid_lt p r c), hw, bt_mid, e13, e0]
    cases p.contains 13 <;> cases p.contains 0 <;> simp
theorem LinesKeep : flaillaw02_LinesKeep.Pure := by
  intro a0 _
  obtain ⟨l, rfl⟩ := exists_B a0
  apply Ev.rounds (g := fun k => flaillaw02_LinesKeep.f k (B l))
  simp only [flaillaw02_LinesKeep.f, lines_awake, Option.bind_some, size_B]
  by_cases h : (l.length : Int) > 300
  · simp only [if_pos h]; exact Ev.now _
  · simp only [if_neg h]
    exact keep_l0 l [] (by simp; omega)
end Go.Proofs.YtppaobgccdlccaaDoor.Pure
