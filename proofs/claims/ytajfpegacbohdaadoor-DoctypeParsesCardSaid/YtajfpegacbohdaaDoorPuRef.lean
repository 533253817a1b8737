/-
  The printed functions of the references 02, 03, 12, 13 as plain functions of the text from a place on.
-/
import Derived.Test.YtajfpegacbohdaaDoorPuSign
import Derived.Test.YtajfpegacbohdaaDoorSr
namespace Go.Proofs.YtajfpegacbohdaaDoor.Pure
open Go Go.RowKit Go.Proofs.YtajfpegacbohdaaDoor.Sr Go.Proofs.YtajfpegacbohdaaDoorW.PrintWords Go.Proofs.YtajfpegacbohdaaDoorW.PrintMore Go.Proofs.YtajfpegacbohdaaDoor.Pl Go.Proofs.YtajfpegacbohdaaDoor.Pb
attribute [local simp] B_nil

theorem refClean_loop (r : List UInt8) : ∀ (p acc : List UInt8), (p ++ r).length ≤ 1000000 → acc.length ≤ 3 * p.length →
    Ev (fun k => flailref02_Clean.l0 k (B (p ++ r)) (B acc) (p.length : Int)) (B (acc ++ cleanL r)) := by
  induction r with
  | nil =>
    intro p acc hl ha
    refine Ev.step (f := fun _ => some (B acc)) (fun k => ?_) (by simp only [cleanL, List.flatMap_nil, List.append_nil]; exact Ev.now _)
    simp only [flailref02_Clean.l0, List.append_nil]
    rw [if_neg (end_nlt p)]
  | cons c r ih =>
    intro p acc hl ha
    simp only [List.length_append, List.length_cons] at hl
    have hw := wrap_nat p.length (by omega)
    have hlt := mid_lt p r c
    have hs : p ++ c :: r = (p ++ [c]) ++ r := by simp
    have hcut : (B (p ++ c :: r)).extract ((p.length : Int)).toNat (((p.length + 1 : Nat) : Int)).toNat = B [c] := by
      simp only [Int.toNat_natCast]; exact ext_mid p r c
    have e : cleanL (c :: r) = cleanB c ++ cleanL r := rfl
    have hcl : (cleanB c).length ≤ 3 := by unfold cleanB; split <;> simp
    have := ih (p ++ [c]) (acc ++ cleanB c) (by simp; omega) (by simp; omega)
    rw [← hs, List.append_assoc, ← e] at this
    refine Ev.step (fun k => ?_) this
    simp only [flailref02_Clean.l0]
    rw [if_pos hlt, if_pos (by omega), bt_mid]
    by_cases h0 : c = 0
    · subst h0
      rw [if_pos (by decide), if_pos (by simp; omega), hw]
      simp [B_mk, cleanB]
    · rw [if_neg (by rw [u0]; exact h0), hw, hcut, if_pos (by omega), if_pos (by simp; omega), if_pos (by simp; omega)]
      simp [cleanB, h0]
theorem refClean (l : List UInt8) (h : l.length ≤ 1000000) : Ev (fun k => flailref02_Clean.f k (B l)) (B (cleanL l)) := by
  have := refClean_loop l [] [] (by simpa using h) (by simp)
  simpa [flailref02_Clean.f] using this

theorem strOfNums_one (c : UInt8) : strOfNums [(c.toNat : Int)] = B [c] := by simp [strOfNums, B]
theorem lowB_num (c : UInt8) (h1 : 65 ≤ c.toNat) (h2 : c.toNat ≤ 90) : ((c.toNat : Int) + 32) % 256 = ((lowB c).toNat : Int) := by
  have hl : (lowB c).toNat = c.toNat + 32 := by
    unfold lowB
    rw [if_pos ⟨by rw [UInt8.le_iff_toNat_le]; exact h1, by rw [UInt8.le_iff_toNat_le]; exact h2⟩, UInt8.toNat_add]
    show (c.toNat + 32) % 256 = _
    omega
  omega
theorem refLower_loop (r : List UInt8) : ∀ (p acc : List UInt8), (p ++ r).length ≤ 1000000 → acc.length ≤ p.length →
    Ev (fun k => flailref03_Lower.l0 k (B (p ++ r)) (B acc) (p.length : Int)) (B (acc ++ lowL r)) := by
  induction r with
  | nil =>
    intro p acc hl ha
    refine Ev.step (f := fun _ => some (B acc)) (fun k => ?_) (by simp only [lowL, List.map_nil, List.append_nil]; exact Ev.now _)
    rw [flailref03_Lower.l0, List.append_nil, if_neg (end_nlt p)]
  | cons c r ih =>
    intro p acc hl ha
    simp only [List.length_append, List.length_cons] at hl
    have hw := wrap_nat p.length (by omega)
    have hs : p ++ c :: r = (p ++ [c]) ++ r := by simp
    have e : lowL (c :: r) = lowB c :: lowL r := rfl
    have := ih (p ++ [c]) (acc ++ [lowB c]) (by simp; omega) (by simp; omega)
    rw [← hs, List.append_assoc, List.singleton_append, ← e] at this
    refine Ev.step (fun k => ?_) this
    rw [flailref03_Lower.l0, if_pos (mid_lt p r c), if_pos (by omega), bt_mid]
    simp only [Option.bind_some]
    by_cases h1 : 65 ≤ c.toNat
    · by_cases h2 : c.toNat ≤ 90
      · rw [if_pos (by omega), if_pos (by omega), lowB_num c h1 h2, strOfNums_one, if_pos (by simp; omega), hw]
        simp
      · rw [if_pos (by omega), if_neg (by omega), strOfNums_one, if_pos (by simp; omega), hw, Hand.lowB_id c (.inr (by omega))]
        simp
    · rw [if_neg (by omega), strOfNums_one, if_pos (by simp; omega), hw, Hand.lowB_id c (.inl (by omega))]
      simp
theorem refLower (l : List UInt8) (h : l.length ≤ 1000000) : Ev (fun k => flailref03_Lower.f k (B l)) (B (lowL l)) := by
  have := refLower_loop l [] [] (by simpa using h) (by simp)
  simpa [flailref03_Lower.f] using this

theorem refSpace (c : UInt8) : flailref03_Space.f (c.toNat : Int) = some (isSp c) := by
  unfold flailref03_Space.f isSp
  simp only [u32, u9, u10, u12]
  by_cases h1 : c = 32
  · subst h1; simp
  · by_cases h2 : c = 9
    · simp [h2]
    · by_cases h3 : c = 10
      · simp [h3]
      · by_cases h4 : c = 12 <;> simp [h1, h2, h3, h4]

theorem ext_one {s : List UInt8} {n : Nat} {c : UInt8} {r : List UInt8} (h : s.drop n = c :: r) : (B s).extract n (n + 1) = B [c] := by
  rw [B_extract]; congr 1
  rw [List.drop_take, h]; simp
theorem refBegins_loop (q : List UInt8) : ∀ (s p : List UInt8) (n : Nat), s.length ≤ 1000000 → (p ++ q).length ≤ 1000000 → n ≤ s.length →
    Ev (fun k => flailref03_Begins.l0 k (B s) (n : Int) (B (p ++ q)) (p.length : Int)) (begR (s.drop (n + p.length)) q) := by
  induction q with
  | nil =>
    intro s p n hs hl hn
    refine Ev.step (f := fun _ => some true) (fun k => ?_) (by simp only [begR]; exact Ev.now _)
    rw [flailref03_Begins.l0, List.append_nil, if_neg (end_nlt p)]
  | cons d q ih =>
    intro s p n hs hl hn
    simp only [List.length_append, List.length_cons] at hl
    have hw := wrap_nat p.length (by omega)
    have hw1 : wrap64 ((n : Int) + (p.length : Int)) = ((n + p.length : Nat) : Int) := by unfold wrap64; omega
    have hs' : p ++ d :: q = (p ++ [d]) ++ q := by simp
    cases hr : s.drop (n + p.length) with
    | nil =>
      have := drop_nil hr
      refine Ev.step (f := fun _ => some false) (fun k => ?_) (by simp only [begR]; exact Ev.now _)
      rw [flailref03_Begins.l0, if_pos (mid_lt p q d), hw1, if_pos (by simp; omega)]
    | cons c r =>
      have hlt := drop_lt hr
      have hw2 : wrap64 (((n + p.length : Nat) : Int) + 1) = ((n + p.length + 1 : Nat) : Int) := by unfold wrap64; omega
      have hr' : s.drop (n + (p ++ [d]).length) = r := by
        rw [List.length_append, List.length_singleton, ← Nat.add_assoc, ← List.drop_drop, hr]; rfl
      have hstep : ∀ k, flailref03_Begins.l0 (k + 1) (B s) (n : Int) (B (p ++ d :: q)) (p.length : Int) =
          (flailref03_Lower.f k (B [c])).bind fun t => if t.toList = [d] then flailref03_Begins.l0 k (B s) (n : Int) (B (p ++ d :: q)) ((p.length + 1 : Nat) : Int) else some false := by
        intro k
        rw [flailref03_Begins.l0, if_pos (mid_lt p q d), hw1, if_neg (by simp; omega), if_pos (by omega), hw2, if_pos (by omega), if_pos (by simp; omega)]
        simp only [Int.toNat_natCast, ext_one hr, hw]
        congr 1
        funext t
        rw [if_pos (by omega), if_pos (by omega), if_pos (by simp; omega), ext_mid p q d, toList_B]
      refine Ev.step hstep (Ev.bind (refLower [c] (by simp)) ?_)
      simp only [toList_B, lowL, List.map_cons, List.map_nil, begR]
      by_cases h : lowB c = d
      · subst h
        simp only [if_true, BEq.rfl, Bool.true_and]
        have := ih s (p ++ [lowB c]) n hs (by simp; omega) hn
        rw [hr', ← hs'] at this
        simpa using this
      · rw [show (lowB c == d) = false by simpa using h]
        simp only [Bool.false_and]
        simp only [show ([lowB c] = [d]) = False by simpa using h, if_false]
        exact Ev.now _
theorem refBegins (s low : List UInt8) (n : Nat) (hs : s.length ≤ 1000000) (hl : low.length ≤ 1000000) (hn : n ≤ s.length) :
    Ev (fun k => flailref03_Begins.f k (B s) (n : Int) (B low)) (begR (s.drop n) low) := by
  have := refBegins_loop low s [] n hs (by simpa using hl) hn
  simp only [List.nil_append, List.length_nil, Nat.add_zero] at this
  unfold flailref03_Begins.f
  simp only [show ¬ ((n : Int) < 0) by omega, if_false]
  rw [show decide ((n : Int) > ((B s).size : Int)) = false by simp; omega]
  refine Ev.step (fun k => ?_) this
  rw [flailref03_Begins.j0, if_neg (by simp)]; rfl
theorem refBegins_past (s low : List UInt8) (n : Int) (h : n < 0 ∨ (s.length : Int) < n) : Ev (fun k => flailref03_Begins.f k (B s) n (B low)) false := by
  have j : Ev (fun k => flailref03_Begins.j0 k (B s) n (B low) true) false :=
    Ev.step (f := fun _ => some false) (fun k => by rw [flailref03_Begins.j0, if_pos rfl]) (Ev.now _)
  unfold flailref03_Begins.f
  by_cases h0 : n < 0
  · simp only [if_pos h0]; exact j
  · simp only [if_neg h0]
    rw [show decide (n > ((B s).size : Int)) = true by simp; omega]
    exact j

theorem refStop (c : UInt8) : ((flailref03_Space.f (c.toNat : Int)).bind fun t => if t = true then some true else if (c.toNat : Int) = 47 then some true else some (((c.toNat : Int)) == 62)) = some (stops c) := by
  simp only [refSpace, Option.bind_some, u47, ub c (u62 c)]
  unfold stops
  cases isSp c
  · by_cases h : c = 47 <;> simp [h]
  · simp
end Go.Proofs.YtajfpegacbohdaaDoor.Pure
