/-
  The printed reference of escape (flailref21.Encode) as a plain function.
-/
import Derived.Test.YtajfpegacbohdaaPb
import Derived.Test.YtajfpegacbohdaaPlE
import Derived.Test.YtajfpegacbohdaaSe
namespace Go.Proofs.Ytajfpegacbohdaa.Pure
open Go Go.RowKit Go.Proofs.Ytajfpegacbohdaa.Se Go.Proofs.YtajfpegacbohdaaW.PrintWords Go.Proofs.YtajfpegacbohdaaW.PrintMore Go.Proofs.Ytajfpegacbohdaa.Pl Go.Proofs.Ytajfpegacbohdaa.Pb
attribute [local simp] B_nil

theorem ref01_begins (s t : List UInt8) : flailref01_Begins.f (B s) (B t) = some (t.isPrefixOf s) := by
  unfold flailref01_Begins.f
  by_cases h : s.length < t.length
  · rw [if_pos (by simp; omega)]
    congr 1
    symm
    rw [Bool.eq_false_iff]
    intro e
    have := (List.isPrefixOf_iff_prefix.1 e).length_le
    omega
  · rw [if_neg (by simp; omega), if_pos (by omega), if_pos (by simp; omega)]
    congr 1
    rw [B_extract, toList_B, toList_B, size_B, Int.toNat_natCast, List.drop_zero]
    rw [Bool.eq_iff_iff, beq_iff_eq, List.isPrefixOf_iff_prefix, List.prefix_iff_eq_take]
    exact eq_comm
theorem nb {c m : UInt8} (h : c ≠ m) (n : Int) (hn : (m.toNat : Int) = n) : ¬ (c.toNat : Int) = n := fun e => h (UInt8.toNat_inj.1 (by omega))
theorem refEnc_loop : ∀ (n : Nat) (r p acc : List UInt8), r.length ≤ n → (p ++ r).length ≤ 1000 → acc.length ≤ 8 * p.length + 1 →
    Ev (fun k => flailref21_Encode.l0 k (B (p ++ r)) (B acc) (p.length : Int)) (B (acc ++ escL r)) := by
  intro n
  induction n with
  | zero =>
    intro r p acc hr hl ha
    obtain rfl := List.eq_nil_of_length_eq_zero (Nat.le_zero.1 hr)
    refine Ev.step (f := fun _ => some (B acc)) (fun k => ?_) (by simp only [escL_nil, List.append_nil]; exact Ev.now _)
    rw [flailref21_Encode.l0, List.append_nil, if_neg (end_nlt p)]
  | succ n ih =>
    intro r p acc hr hl ha
    cases r with
    | nil =>
      refine Ev.step (f := fun _ => some (B acc)) (fun k => ?_) (by simp only [escL_nil, List.append_nil]; exact Ev.now _)
      rw [flailref21_Encode.l0, List.append_nil, if_neg (end_nlt p)]
    | cons c r =>
      simp only [List.length_append, List.length_cons] at hl hr
      have hw := wrap_nat p.length (by omega)
      have hs : p ++ c :: r = (p ++ [c]) ++ r := by simp
      have hx : (B (p ++ c :: r)).extract ((p.length : Int)).toNat (B (p ++ c :: r)).size = B (c :: r) := by
        rw [B_extract, size_B, List.take_length, Int.toNat_natCast, List.drop_left]
      have hcut : (B (p ++ c :: r)).extract ((p.length : Int)).toNat (((p.length + 1 : Nat) : Int)).toNat = B [c] := by
        simp only [Int.toNat_natCast]; exact ext_mid p r c
      have go1 : ∀ v : List UInt8, v.length ≤ 8 → Ev (fun k => flailref21_Encode.l0 k (B (p ++ c :: r)) (B acc ++ B v) ((p.length + 1 : Nat) : Int)) (B (acc ++ (v ++ escL r))) := by
        intro v hv
        have := ih r (p ++ [c]) (acc ++ v) (by omega) (by simp; omega) (by simp; omega)
        rw [← hs, List.append_assoc] at this
        simpa using this
      have hlt := mid_lt p r c
      have hle : (p.length : Int) ≤ ((B (p ++ c :: r)).size : Int) := by omega
      have hz : ∀ m : Nat, m ≤ 8 → (B acc).size + m ≤ 9223372036854775807 := by intro m hm; simp; omega
      have hstep : ∀ k, flailref21_Encode.l0 (k + 1) (B (p ++ c :: r)) (B acc) (p.length : Int) = _ := fun k => by
        rw [flailref21_Encode.l0, if_pos hlt, if_pos (by omega), if_pos hle, hx, show (⟨#[239, 187, 191]⟩ : ByteArray) = B [239, 187, 191] from rfl, ref01_begins, Option.bind_some, bt_mid]
      by_cases e1 : c = 38
      · have e : escL (c :: r) = wAmp ++ escL r := by unfold escL; rw [replS_hit (t := []) (v := wAmp) (by simp [escF, e1]) rfl]; rfl
        rw [e]
        refine Ev.step (fun k => ?_) (go1 wAmp (by decide))
        rw [hstep, if_pos (by rw [e1]; rfl), if_pos (hz 5 (by omega)), hw]; rfl
      by_cases e2 : c = 60
      · have e : escL (c :: r) = wLt ++ escL r := by unfold escL; rw [replS_hit (t := []) (v := wLt) (by simp [escF, e2]) rfl]; rfl
        rw [e]
        refine Ev.step (fun k => ?_) (go1 wLt (by decide))
        rw [hstep, if_neg (by rw [e2]; decide), if_pos (by rw [e2]; rfl), if_pos (hz 4 (by omega)), hw]; rfl
      by_cases e3 : c = 62
      · have e : escL (c :: r) = wGt ++ escL r := by unfold escL; rw [replS_hit (t := []) (v := wGt) (by simp [escF, e3]) rfl]; rfl
        rw [e]
        refine Ev.step (fun k => ?_) (go1 wGt (by decide))
        rw [hstep, if_neg (by rw [e3]; decide), if_neg (by rw [e3]; decide), if_pos (by rw [e3]; rfl), if_pos (hz 4 (by omega)), hw]; rfl
      by_cases e4 : c = 34
      · have e : escL (c :: r) = wQuot ++ escL r := by unfold escL; rw [replS_hit (t := []) (v := wQuot) (by simp [escF, e4]) rfl]; rfl
        rw [e]
        refine Ev.step (fun k => ?_) (go1 wQuot (by decide))
        rw [hstep, if_neg (by rw [e4]; decide), if_neg (by rw [e4]; decide), if_neg (by rw [e4]; decide), if_pos (by rw [e4]; rfl), if_pos (hz 6 (by omega)), hw]; rfl
      by_cases e5 : c = 39
      · have e : escL (c :: r) = wApos ++ escL r := by unfold escL; rw [replS_hit (t := []) (v := wApos) (by simp [escF, e5]) rfl]; rfl
        rw [e]
        refine Ev.step (fun k => ?_) (go1 wApos (by decide))
        rw [hstep, if_neg (by rw [e5]; decide), if_neg (by rw [e5]; decide), if_neg (by rw [e5]; decide), if_neg (by rw [e5]; decide), if_pos (by rw [e5]; rfl), if_pos (hz 5 (by omega)), hw]; rfl
      by_cases e6 : c = 13
      · have e : escL (c :: r) = wCr ++ escL r := by unfold escL; rw [replS_hit (t := []) (v := wCr) (by simp [escF, e6]) rfl]; rfl
        rw [e]
        refine Ev.step (fun k => ?_) (go1 wCr (by decide))
        rw [hstep, if_neg (by rw [e6]; decide), if_neg (by rw [e6]; decide), if_neg (by rw [e6]; decide), if_neg (by rw [e6]; decide), if_neg (by rw [e6]; decide), if_pos (by rw [e6]; rfl), if_pos (hz 5 (by omega)), hw]; rfl
      by_cases e7 : c = 0
      · have e : escL (c :: r) = wBad ++ escL r := by unfold escL; rw [replS_hit (t := []) (v := wBad) (by simp [escF, e7]) rfl]; rfl
        rw [e]
        refine Ev.step (fun k => ?_) (go1 wBad (by decide))
        rw [hstep, if_neg (by rw [e7]; decide), if_neg (by rw [e7]; decide), if_neg (by rw [e7]; decide), if_neg (by rw [e7]; decide), if_neg (by rw [e7]; decide), if_neg (by rw [e7]; decide), if_pos (by rw [e7]; rfl), if_pos (hz 3 (by omega)), hw]; rfl
      have n1 : ¬ ((c.toNat : Int) = 38) := nb e1 _ rfl
      have n2 : ¬ ((c.toNat : Int) = 60) := nb e2 _ rfl
      have n3 : ¬ ((c.toNat : Int) = 62) := nb e3 _ rfl
      have n4 : ¬ ((c.toNat : Int) = 34) := nb e4 _ rfl
      have n5 : ¬ ((c.toNat : Int) = 39) := nb e5 _ rfl
      have n6 : ¬ ((c.toNat : Int) = 13) := nb e6 _ rfl
      have n7 : ¬ ((c.toNat : Int) = 0) := nb e7 _ rfl
      cases hp : [239, 187, 191].isPrefixOf (c :: r) with
      | true =>
        obtain ⟨q, hq⟩ := List.isPrefixOf_iff_prefix.1 hp
        have hq' : c = 239 ∧ r = [187, 191] ++ q := by
          simp only [List.cons_append, List.nil_append, List.cons.injEq] at hq
          exact ⟨hq.1.symm, by rw [← hq.2]; rfl⟩
        obtain ⟨rfl, rfl⟩ := hq'
        have e : escL (239 :: ([187, 191] ++ q)) = wMark ++ escL q := by unfold escL; rw [replS_hit (t := [187, 191]) (v := wMark) rfl (by simp)]; rfl
        rw [e]
        have hs3 : p ++ 239 :: ([187, 191] ++ q) = (p ++ [239, 187, 191]) ++ q := by simp
        simp only [List.length_append, List.length_cons, List.length_nil] at hl hr
        have := ih q (p ++ [239, 187, 191]) (acc ++ wMark) (by omega) (by simp; omega) (by simp [wMark]; omega)
        rw [← hs3, List.append_assoc] at this
        refine Ev.step (fun k => ?_) this
        have hw2 : wrap64 (wrap64 ((p.length : Int) + 2) + 1) = (((p ++ [239, 187, 191]).length : Nat) : Int) := by simp; unfold wrap64; omega
        rw [hstep, if_neg n1, if_neg n2, if_neg n3, if_neg n4, if_neg n5, if_neg n6, if_neg n7, hp, if_pos rfl, if_pos (hz 8 (by omega)), hw2, ← B_append]; rfl
      | false =>
        have e : escL (c :: r) = [c] ++ escL r := by
          unfold escL
          by_cases e8 : c = 239
          · have hf : escF c = some ([187, 191], wMark) := by simp [escF, e8]
            rw [replS_miss hf]; rfl
            intro h
            subst e8
            have : [239, 187, 191].isPrefixOf (239 :: r) = true := by simp only [List.isPrefixOf, BEq.rfl, Bool.true_and] at h ⊢; exact h
            rw [this] at hp; cases hp
          · rw [replS_none (by simp [escF, e1, e2, e3, e4, e5, e6, e7, e8])]; rfl
        rw [e]
        refine Ev.step (fun k => ?_) (go1 [c] (by simp))
        rw [hstep, if_neg n1, if_neg n2, if_neg n3, if_neg n4, if_neg n5, if_neg n6, if_neg n7, hp, if_neg (by simp), hw, if_pos (by omega), if_pos (by simp; omega), hcut, if_pos (by simp; omega)]
theorem refEnc (k : Int) (s : List UInt8) (hs : s.length ≤ 1000) : Ev (fun n => flailref21_Encode.f n k (B s)) (B (encL k s)) := by
  unfold flailref21_Encode.f
  have j2 : ∀ acc : List UInt8, acc.length ≤ 1 → Ev (fun n => flailref21_Encode.j2 n (B s) (B acc)) (B (acc ++ escL s)) := by
    intro acc ha
    refine Ev.step (fun n => ?_) (refEnc_loop s.length s [] acc (Nat.le_refl _) (by simpa using hs) (by simp; omega))
    rw [flailref21_Encode.j2]; rfl
  have j1 : ∀ b : Bool, Ev (fun n => flailref21_Encode.j1 n (B s) (⟨#[]⟩) b) (B ((if b = true then [10] else []) ++ escL s)) := by
    intro b
    cases b with
    | true =>
      refine Ev.step (fun n => ?_) (j2 [10] (by simp))
      rw [flailref21_Encode.j1, if_pos rfl]; rfl
    | false =>
      refine Ev.step (fun n => ?_) (j2 [] (by simp))
      rw [flailref21_Encode.j1, if_neg (by simp)]; rfl
  by_cases h0 : k < 0
  · have e : encL k s = [] := by unfold encL; rw [if_neg (by omega), if_neg (by omega)]
    simp only [if_pos h0]
    rw [e]
    exact Ev.step (f := fun _ => some _) (fun n => by rw [flailref21_Encode.j0, if_pos rfl]; rfl) (Ev.now _)
  · simp only [if_neg h0]
    by_cases h2 : k > 2
    · have e : encL k s = [] := by unfold encL; rw [if_neg (by omega), if_neg (by omega)]
      rw [e, decide_eq_true h2]
      exact Ev.step (f := fun _ => some _) (fun n => by rw [flailref21_Encode.j0, if_pos rfl]; rfl) (Ev.now _)
    · rw [decide_eq_false h2]
      by_cases hk : k = 2
      · subst hk
        have e : encL 2 s = (if [10].isPrefixOf s = true then [10] else []) ++ escL s := by
          unfold encL
          rw [if_neg (by omega), if_pos rfl]
          cases s with
          | nil => simp
          | cons c r =>
            by_cases hc : c = 10
            · subst hc; simp
            · have : ¬ (10 : UInt8) = c := fun h => hc h.symm
              simp [hc, this]
        rw [e]
        refine Ev.step (fun n => ?_) (j1 _)
        rw [flailref21_Encode.j0, if_neg (by simp), if_pos rfl, show (⟨#[10]⟩ : ByteArray) = B [10] from rfl, ref01_begins, Option.bind_some]
      · have e : encL k s = (if false = true then [10] else []) ++ escL s := by
          unfold encL
          rw [if_pos (by omega)]; simp
        rw [e]
        refine Ev.step (fun n => ?_) (j1 false)
        rw [flailref21_Encode.j0, if_neg (by simp), if_neg hk]
end Go.Proofs.Ytajfpegacbohdaa.Pure
