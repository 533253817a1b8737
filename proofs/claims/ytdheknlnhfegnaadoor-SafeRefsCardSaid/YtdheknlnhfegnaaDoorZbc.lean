/-
  Hand walks of the references: flailref06.Longest, flailref06.Text, flailref07.Read.
  Whether all references of a text end, as a function.
  What safe.Safe, safe.Everywhere tell as functions.
  Hand walks of the references: flailref25.Whole, flailref25.Safe; what safe.Safe, safe.Everywhere tell as functions.
  What some references mean: by the names amp, lt, gt, quot, nbsp, with a semicolon; by decimal digits; whatever stands behind.
  Whether references end: by names and by digits with a semicolon.
  Walk: flaillaw25.awake.
  Walks: flailref25.Safe; flaillaw25.awake; the law SafeTells.
  Plain: references by names and by digits in a text of their own; a number's digits.
  Hand walk of the reference: flailref06.Nth.
  The law SafeRefs walked.
  Closed facts about this seat's program alone, each by the kernel, once.
  For the rows of this seat: a call's contract lifted where the row lists package-level variables and the proof wants the world's shape.
-/
import Derived.Test.YtdheknlnhfegnaaDoorZbb
import Derived.Test.YtdheknlnhfegnaaDoorSd
import Derived.Test.YtdheknlnhfegnaaDoorZba
import Derived.Deep.RegionHeld3
import Derived.JoinedOf
import Derived.KernelRfl
import Derived.SevenTiedAt
import Derived.Test.YtdheknlnhfegnaaDoorRows
import Derived.Test.YtdheknlnhfegnaaDoorCards
import Derived.ProofKit
import Derived.Handed
import Derived.SizedLaws
import Derived.LaidMore
import Derived.Lay
import Derived.LaidLaws
import Derived.ChangeBears2
import Derived.MakeChecks
import Derived.Shelf.Vars
import Derived.Stop.Joined
import Derived.Test.YtdheknlnhfegnaaDoorShelf
import Derived.Test.YtdheknlnhfegnaaDoorHa0
namespace Go.Proofs.YtdheknlnhfegnaaDoor.Hand
open Go Go.RowKit Go.Proofs.YtdheknlnhfegnaaDoor.Pl Go.Proofs.YtdheknlnhfegnaaDoor.Pb Go.Proofs.YtdheknlnhfegnaaDoor.Sr

theorem rsign_c (n : Nat) (h : n < 4294967296) (w : World) : Calls Tryd.prog 53 #[.int .i64 (n : Int)] w fun e w' => e = .returned (.string (signB (n : Int))) ∧ Below w.heap.size w w' := by
  by_cases hm : n ≤ 1114111
  · exact (flailref01_Sign.calls 1 _ _ w (sign1_f n hm 0)).mono fun _ _ h => ⟨h.1, h.2⟩
  · have hf : flailref01_Sign.f 1 (n : Int) = some (signB (n : Int)) := by
      unfold flailref01_Sign.f signB
      rw [if_neg (by omega), if_pos (by omega), flailref01_Sign.j0, if_pos rfl, if_pos (by omega)]
    exact (flailref01_Sign.calls 1 _ _ w hf).mono fun _ _ h => ⟨h.1, h.2⟩
theorem rval_is {key : List UInt8} : (∃ a b, rvalV key = .tuple #[.int .i64 a, .int .i64 b, .bool true] ∧ isKey namesL key) ∨ (rvalV key = .tuple #[.int .i64 0, .int .i64 0, .bool false] ∧ ¬ isKey namesL key) := by
  by_cases h : isKey namesL key
  · left
    obtain ⟨rest, hr, _⟩ := row_some h
    exact ⟨_, _, by unfold rvalV; rw [hr], h⟩
  · exact .inr ⟨rval_none h, h⟩
set_option maxRecDepth 100000 in
set_option maxHeartbeats 4000000 in
theorem rlongest_c (s : List UInt8) (n : Nat) (hs : s.length ≤ 100000) (hn : n ≤ s.length) (w : World) :
    Calls Tryd.prog 29 #[.string (B s), .int .i64 (n : Int)] w fun e w' => e = .returned (.int .i64 (lngN (s.drop n) : Int)) ∧ Below w.heap.size w w' := by
  obtain ⟨L, hL⟩ : ∃ L, lngN (s.drop n) = L := ⟨_, rfl⟩
  have hsp := lngN_spec (s.drop n)
  rw [hL] at hsp ⊢
  have HSP := Lib.hid hsp
  obtain ⟨a, ha⟩ : ∃ a, B s = a := ⟨_, rfl⟩
  have hsz : a.size = s.length := by rw [← ha]; simp
  have hxk : ∀ k, n + k ≤ a.size → ∀ W, Calls Tryd.prog 52 #[.string (a.extract n (n + k))] W fun e w' => e = .returned (rvalV ((s.drop n).take k)) ∧ Below W.heap.size W w' := fun k hk W => by
    have e : a.extract n (n + k) = B ((s.drop n).take k) := by rw [← ha, B_extract, List.drop_take, Nat.add_sub_cancel_left]
    rw [e]
    exact value6_c _ (by rw [List.length_take, List.length_drop]; omega) W
  have HV := Lib.hid hxk
  have HSZ := Lib.hid hsz
  have hza : a.size ≤ 100000 := by omega
  have hna : n ≤ a.size := by omega
  rw [ha]
  by_cases hend : n < a.size
  · have q1 : decide ((n : Int) < 0) = false := decide_eq_false (by omega)
    have q2 : decide (a.size ≤ n) = false := decide_eq_false (by omega)
    obtain ⟨M, hM⟩ : ∃ M : Nat, min 32 (a.size - n) = M := ⟨_, rfl⟩
    have hm : min (32 : Int) ((a.size : Int) - (n : Int)) = (M : Int) := by omega
    have hM2 : n + M ≤ a.size := by omega
    have HMM := Lib.hid hM
    clear hs hn hL hsp ha hsz hxk hM hna
    go_enter Tryd.func29, Tryd.ntmps29
    go_wp2_with fail
    go_loopw [5] (fun v wx => ∃ k : Nat, v = .int .i64 (k : Int) ∧ n + k ≤ a.size ∧ k ≤ M ∧ Hid (Below w.heap.size w wx) ∧ Hid (∀ m, k < m → m ≤ M → ¬ isKey namesL ((s.drop n).take m))) (fun v _ => (intOf v).toNat)
    case atStart => exact ⟨M, by first | rfl | rw [hm], hM2, Nat.le_refl _, Lib.hid (Below.refl _ _), Lib.hid (fun m h1 h2 => by omega)⟩
    case round =>
      obtain ⟨k, rfl, hk, hkM, HW, HD⟩ := hrel
      by_cases hk0 : k = 0
      · subst hk0
        have hL0 : L = 0 := by
          rcases HSP.out.key with h | h
          · exact h
          · have hle := HSP.out.le
            rw [List.length_drop] at hle
            rcases Nat.eq_zero_or_pos L with h0 | h0
            · exact h0
            · exact absurd h (HD.out L h0 (by have := HMM.out; have := HSZ.out; omega))
        have HL0 := Lib.hid hL0
        go_wp2_with fail
        go_ret
        exact ⟨by rw [HL0.out]; rfl, HW.out⟩
      · have q3 : decide ((0 : Int) < (k : Int)) = true := decide_eq_true (by omega)
        have V := HV.out k hk
        rcases rval_is (key := (s.drop n).take k) with ⟨x, y, hv, hkey⟩ | ⟨hv, hkey⟩
        · rw [hv] at V
          have hLk : L = k := by
            refine (lngN_spec (s.drop n)).uniq HSP.out |>.symm.trans ?_
            refine (lngN_spec (s.drop n)).uniq ⟨?_, .inr hkey, fun m h1 h2 => ?_⟩
            · rw [List.length_drop]; have := HMM.out; have := HSZ.out; omega
            · exact HD.out m h1 (by rw [List.length_drop] at h2; have := HMM.out; have := HSZ.out; omega)
          have HLk := Lib.hid hLk
          have HV1 := Lib.hid V
          clear hv hkey hLk V
          go_wp2_with fail
          refine (HV1.out _).mono ?_
          rintro e w1 ⟨rfl, hb⟩
          have HW2 := Lib.hid (HW.out.trans (hb.mono HW.out.size))
          clear hb
          go_wp2_with fail
          go_ret
          exact ⟨by rw [HLk.out]; rfl, HW2.out⟩
        · rw [hv] at V
          have HV1 := Lib.hid V
          have HD2 : Hid (∀ m, k - 1 < m → m ≤ M → ¬ isKey namesL ((s.drop n).take m)) := Lib.hid (fun m h1 h2 => by
            by_cases e : m = k
            · subst e; exact hkey
            · exact HD.out m (by omega) h2)
          clear hv hkey V
          go_wp2_with fail
          refine (HV1.out _).mono ?_
          rintro e w1 ⟨rfl, hb⟩
          have HW2 := Lib.hid (HW.out.trans (hb.mono HW.out.size))
          clear hb
          go_wp2_with fail
          go_roundw
          case rel => exact ⟨k - 1, by go_num, by omega, by omega, HW2, HD2⟩
          case measure => simp [intOf]; omega
  · have q1 : decide ((n : Int) < 0) = false := decide_eq_false (by omega)
    have q2 : decide ((a.size : Int) ≤ (n : Int)) = true := decide_eq_true (by omega)
    have hL0 : L = 0 := by
      have hle := hsp.le
      rw [List.length_drop] at hle
      omega
    have HL0 := Lib.hid hL0
    clear hL0 hs hn hL hsp ha hsz hxk
    go_enter Tryd.func29, Tryd.ntmps29
    go_wp2_with fail
    go_ret
    exact ⟨by rw [HL0.out]; rfl, Below.refl _ _⟩
set_option maxRecDepth 100000 in
set_option maxHeartbeats 4000000 in
theorem rtext_c (key : List UInt8) (hk : isKey namesL key) (hl : key.length ≤ 1000000) (w : World) :
    Calls Tryd.prog 32 #[.string (B key)] w fun e w' => e = .returned (.string (B (nameT key))) ∧ Below w.heap.size w w' := by
  obtain ⟨rest, hr, hf⟩ := row_some hk
  obtain ⟨l1, l2⟩ := num_lt (fnd_rest hf).1
  have V := fun W => value6_c key hl W
  have hv : rvalV key = .tuple #[.int .i64 (num1 rest : Int), .int .i64 (num2 rest : Int), .bool true] := by unfold rvalV; rw [hr]
  have ht : nameT key = (textB (num1 rest) (num2 rest)).data.toList := by unfold nameT; rw [hr]
  rw [hv] at V
  rw [ht, ← B_of]
  have S1 := fun W => rsign_c (num1 rest) l1 W
  have S2 := fun W => rsign_c (num2 rest) l2 W
  obtain ⟨x, hx⟩ : ∃ x, num1 rest = x := ⟨_, rfl⟩
  obtain ⟨y, hy⟩ : ∃ y, num2 rest = y := ⟨_, rfl⟩
  rw [hx] at V S1
  rw [hy] at V S2
  rw [hx, hy]
  have HV := Lib.hid V
  have HS1 := Lib.hid S1
  have HS2 := Lib.hid S2
  have z1 := signB_size (x : Int)
  have z2 := signB_size (y : Int)
  have HT : Hid (textB x y = if y = 0 then signB (x : Int) else signB (x : Int) ++ signB (y : Int)) := Lib.hid rfl
  obtain ⟨t1, h1⟩ : ∃ t, signB (x : Int) = t := ⟨_, rfl⟩
  obtain ⟨t2, h2⟩ : ∃ t, signB (y : Int) = t := ⟨_, rfl⟩
  rw [h1] at HS1 HT z1
  rw [h2] at HS2 HT z2
  obtain ⟨a, ha⟩ : ∃ a, B key = a := ⟨_, rfl⟩
  obtain ⟨T, hT⟩ : ∃ T, textB x y = T := ⟨_, rfl⟩
  rw [ha] at HV ⊢
  rw [hT] at HT ⊢
  clear V S1 S2 hv ht hx hy hr hf l1 l2 hk hl h1 h2 ha hT
  by_cases h0 : y = 0
  · have q1 : ((y : Int) != 0) = false := by rw [h0]; rfl
    have q2 : ((y : Int) == 0) = true := by rw [h0]; rfl
    have HE : Hid (T = t1) := Lib.hid (by rw [HT.out, if_pos h0])
    clear h0
    go_enter Tryd.func32, Tryd.ntmps32
    go_wp2_with fail
    refine (HV.out _).mono ?_
    rintro e w1 ⟨rfl, hb1⟩
    go_wp2_with fail
    refine (HS1.out _).mono ?_
    rintro e w2 ⟨rfl, hb2⟩
    go_wp2_with fail
    go_ret
    exact ⟨by rw [HE.out]; rfl, hb1.trans (hb2.mono hb1.size)⟩
  · have q1 : ((y : Int) != 0) = true := by rw [bne_iff_ne]; omega
    have q2 : ((y : Int) == 0) = false := by rw [beq_eq_false_iff_ne]; omega
    have HE : Hid (T = t1 ++ t2) := Lib.hid (by rw [HT.out, if_neg h0])
    clear h0
    go_enter Tryd.func32, Tryd.ntmps32
    go_wp2_with fail
    refine (HV.out _).mono ?_
    rintro e w1 ⟨rfl, hb1⟩
    go_wp2_with fail
    refine (HS1.out _).mono ?_
    rintro e w2 ⟨rfl, hb2⟩
    go_wp2_with fail
    refine (HS2.out _).mono ?_
    rintro e w3 ⟨rfl, hb3⟩
    go_wp2_with fail
    go_ret
    exact ⟨by rw [HE.out]; rfl, (hb1.trans (hb2.mono hb1.size)).trans (hb3.mono (hb1.trans (hb2.mono hb1.size)).size)⟩
theorem rletter_c (c : UInt8) (w : World) : Calls Tryd.prog 30 #[.int .u8 (c.toNat : Int)] w fun e w' => e = .returned (.bool (isLetB c)) ∧ Below w.heap.size w w' := by
  have : ∀ n : Fin 256, flailref03_Letter.f ((n.val : Nat) : Int) = some (isLetB (UInt8.ofNat n.val)) := by decide +kernel
  have h := this ⟨c.toNat, c.toNat_lt⟩
  simp only [UInt8.ofNat_toNat] at h
  exact (flailref03_Letter.calls _ _ w h).mono fun _ _ h => ⟨h.1, h.2.below⟩
theorem rdigit_c (c : UInt8) (w : World) : Calls Tryd.prog 31 #[.int .u8 (c.toNat : Int)] w fun e w' => e = .returned (.bool (isDigB c)) ∧ Below w.heap.size w w' := by
  have : ∀ n : Fin 256, flailref03_Digit.f ((n.val : Nat) : Int) = some (isDigB (UInt8.ofNat n.val)) := by decide +kernel
  have h := this ⟨c.toNat, c.toNat_lt⟩
  simp only [UInt8.ofNat_toNat] at h
  exact (flailref03_Digit.calls _ _ w h).mono fun _ _ h => ⟨h.1, h.2.below⟩
/-- a name without its semicolon is left as it is -/
theorem suffix_semi (l : List UInt8) (h : l ≠ []) : Lib.hasSuffix l [59] = (l.getLast? == some 59) := by
  unfold Lib.hasSuffix
  rw [Bool.eq_iff_iff, List.isSuffixOf_iff_suffix, beq_iff_eq]
  constructor
  · rintro ⟨p, rfl⟩; simp
  · intro e
    obtain ⟨p, x, rfl⟩ : ∃ p x, l = p ++ [x] := ⟨l.dropLast, l.getLast h, (List.dropLast_concat_getLast h).symm⟩
    simp at e
    rw [e]; exact ⟨p, rfl⟩
set_option maxRecDepth 100000 in
set_option maxHeartbeats 8000000 in
theorem rread_c (s : List UInt8) (n : Nat) (attr : Bool) (hs : s.length ≤ 100000) (hn : n < s.length) (h38 : s[n] = 38) (w : World) :
    Calls Tryd.prog 17 #[.string (B s), .int .i64 (n : Int), .bool attr] w fun e w' => e = .returned (.tuple #[.string (B (refN attr (s.drop n)).1), .int .i64 ((n + (refN attr (s.drop n)).2 : Nat) : Int)]) ∧ Below w.heap.size w w' := by
  have NR := Lib.hid (fun W => rnumber_c s hs (n + 1) (by omega) W)
  have LR := Lib.hid (fun W => rlongest_c s (n + 1) hs (by omega) W)
  have ed : (s.drop n).drop 1 = s.drop (n + 1) := by rw [List.drop_drop]
  have hdn : s.drop n = 38 :: s.drop (n + 1) := by rw [List.drop_eq_getElem_cons hn, h38]
  obtain ⟨T, hT⟩ : ∃ T, B (refN attr (s.drop n)).1 = T := ⟨_, rfl⟩
  obtain ⟨X, hX⟩ : ∃ X, n + (refN attr (s.drop n)).2 = X := ⟨_, rfl⟩
  rw [hT, hX]
  obtain ⟨a, ha⟩ : ∃ a, B s = a := ⟨_, rfl⟩
  have hsz : a.size = s.length := by rw [← ha]; simp
  have hby : ∀ i (h : i < a.size), a[i] = s[i]'(by omega) := fun i h => by subst ha; rfl
  rw [ha] at NR LR ⊢
  have hza : a.size ≤ 100000 := by omega
  have hna : n < a.size := by omega
  have q1 : decide ((n : Int) < 0) = false := decide_eq_false (by omega)
  have q2 : decide ((a.size : Int) ≤ (n : Int)) = false := decide_eq_false (by omega)
  have q3 : (((a[n].toNat : Nat) : Int) != 38) = false := by rw [hby n hna, h38]; rfl
  cases hnl : numL (s.drop (n + 1)) with
  | some mk =>
    obtain ⟨m, k⟩ := mk
    have hv : numV s (n + 1) = .tuple #[.string (fixB m), .int .i64 ((n + 1 + k : Nat) : Int), .bool true] := by unfold numV; rw [hnl]; rfl
    have hr : refN attr (s.drop n) = ((fixB m).data.toList, 1 + k) := by unfold refN; rw [ed, hnl]
    have hT2 : Hid (T = fixB m) := Lib.hid (by rw [← hT, hr, ← B_of])
    have hX2 : Hid (X = n + 1 + k) := Lib.hid (by rw [← hX, hr]; omega)
    rw [hv] at NR
    clear hT hX ed hdn ha hsz hby hs hn h38 hnl hv hr LR
    go_enter Tryd.func17, Tryd.ntmps17
    go_wp2_with fail
    refine (NR.out _).mono ?_
    rintro e w1 ⟨rfl, hb⟩
    go_wp2_with fail
    go_ret2
    exact ⟨by rw [hT2.out, hX2.out]; rfl, hb⟩
  | none =>
    have hv : numV s (n + 1) = .tuple #[.string ⟨#[]⟩, .int .i64 ((n + 1 : Nat) : Int), .bool false] := by unfold numV; rw [hnl]; rfl
    rw [hv] at NR
    obtain ⟨k, hk⟩ : ∃ k, lngN (s.drop (n + 1)) = k := ⟨_, rfl⟩
    have hsp := lngN_spec (s.drop (n + 1))
    have hr : refN attr (s.drop n) = (if k = 0 ∨ leftL attr ((s.drop (n + 1)).take k) ((s.drop (n + 1)).drop k) = true then ((s.drop n).take (1 + k), 1 + k) else (nameT ((s.drop (n + 1)).take k), 1 + k)) := by
      unfold refN; rw [ed, hnl]; simp only [hk]
    have hX2 : X = n + 1 + k := by rw [← hX, hr]; split <;> simp only <;> omega
    rw [hk] at LR hsp
    have hle := hsp.le
    rw [List.length_drop] at hle
    by_cases hk0 : k = 0
    · have hT2 : Hid (T = ⟨#[38]⟩) := Lib.hid (by rw [← hT, hr, if_pos (.inl hk0), hk0, hdn]; rfl)
      have HX2 := Lib.hid hX2
      have q4 : ((k : Int) == 0) = true := by rw [hk0]; rfl
      have HK := Lib.hid hk0
      clear hT hX ed hdn ha hsz hby hs hn h38 hnl hv hr hX2 hk hsp hle hk0
      go_enter Tryd.func17, Tryd.ntmps17
      go_wp2_with fail
      refine (NR.out _).mono ?_
      rintro e w1 ⟨rfl, hb⟩
      go_wp2_with fail
      refine (LR.out _).mono ?_
      rintro e w2 ⟨rfl, hb2⟩
      go_wp2_with fail
      go_ret2
      exact ⟨by rw [hT2.out, HX2.out, HK.out]; rfl, hb.trans (hb2.mono hb.size)⟩
    · have q4 : ((k : Int) == 0) = false := by rw [beq_eq_false_iff_ne]; omega
      have hkey : isKey namesL ((s.drop (n + 1)).take k) := by
        rcases hsp.key with h | h
        · exact absurd h hk0
        · exact h
      have hkl : ((s.drop (n + 1)).take k).length = k := by rw [List.length_take, List.length_drop]; omega
      have hke : n + 1 + k ≤ a.size := by omega
      have hnm : a.extract (n + 1) (n + 1 + k) = B ((s.drop (n + 1)).take k) := by rw [← ha, B_extract, List.drop_take, Nat.add_sub_cancel_left]
      have hct : a.extract n (n + 1 + k) = B ((s.drop n).take (1 + k)) := by rw [← ha, B_extract, List.drop_take, show n + 1 + k - n = 1 + k by omega]
      have TX := fun W => rtext_c ((s.drop (n + 1)).take k) hkey (by omega) W
      rw [← hnm] at TX
      have HTX := Lib.hid TX
      have hlt : n + k < a.size := by omega
      have hlast : ((s.drop (n + 1)).take k).getLast? = some (a[n + k]'hlt) := by
        rw [List.getLast?_eq_getElem?, hkl, List.getElem?_take_of_lt (by omega), List.getElem?_drop, List.getElem?_eq_getElem (by omega), hby]
        congr 2; omega
      have hafter : keptL ((s.drop (n + 1)).drop k) = if h : n + 1 + k < a.size then keptB a[n + 1 + k] else false := by
        rw [List.drop_drop]
        split
        · rename_i h
          rw [List.drop_eq_getElem_cons (by omega), hby]; rfl
        · rw [List.drop_eq_nil_of_le (by omega)]; rfl
      have hsuf := suffix_semi ((s.drop (n + 1)).take k) (by intro e; rw [e] at hkl; exact hk0 hkl.symm)
      rw [hlast] at hsuf
      have HX2 := Lib.hid hX2
      have hi : ((n : Int) + 1 + (k : Int) - 1) = ((n + k : Nat) : Int) := by omega
      -- whether it is left as it is
      have name : leftL attr ((s.drop (n + 1)).take k) ((s.drop (n + 1)).drop k) = false → T = B (nameT ((s.drop (n + 1)).take k)) := fun h => by
        rw [← hT, hr, if_neg]
        rintro (e | e)
        · exact hk0 e
        · rw [h] at e; cases e
      have left : leftL attr ((s.drop (n + 1)).take k) ((s.drop (n + 1)).drop k) = true → T = a.extract n (n + 1 + k) := fun h => by
        rw [← hT, hr, if_pos (.inr h), hct]
      unfold leftL at name left
      rw [hsuf, hafter] at name left
      have HN := Lib.hid name
      have HL := Lib.hid left
      clear name left hT hX ed hdn ha hsz hby hs hn h38 hnl hv hr hX2 hk hsp hle hk0 hkey hkl hnm hct TX hlast hafter hsuf
      cases attr with
      | false =>
        have hT2 := Lib.hid (HN.out rfl)
        clear HN HL
        go_enter Tryd.func17, Tryd.ntmps17
        go_wp2_with fail
        refine (NR.out _).mono ?_
        rintro e w1 ⟨rfl, hb⟩
        go_wp2_with fail
        refine (LR.out _).mono ?_
        rintro e w2 ⟨rfl, hb2⟩
        go_wp2_with fail
        refine (HTX.out _).mono ?_
        rintro e w3 ⟨rfl, hb3⟩
        go_wp2_with fail
        go_ret2
        exact ⟨by rw [hT2.out, HX2.out]; rfl, (hb.trans (hb2.mono hb.size)).trans (hb3.mono (hb.trans (hb2.mono hb.size)).size)⟩
      | true =>
        by_cases h59 : a[n + k] = 59
        · have hT2 := Lib.hid (HN.out (by rw [h59]; rfl))
          have q5 : (((a[n + k].toNat : Nat) : Int) != 59) = false := by rw [h59]; rfl
          clear HN HL h59
          go_enter Tryd.func17, Tryd.ntmps17
          go_wp2_with fail
          refine (NR.out _).mono ?_
          rintro e w1 ⟨rfl, hb⟩
          go_wp2_with fail
          refine (LR.out _).mono ?_
          rintro e w2 ⟨rfl, hb2⟩
          go_wp2_with fail
          refine (HTX.out _).mono ?_
          rintro e w3 ⟨rfl, hb3⟩
          go_wp2_with fail
          go_ret2
          exact ⟨by rw [hT2.out, HX2.out]; rfl, (hb.trans (hb2.mono hb.size)).trans (hb3.mono (hb.trans (hb2.mono hb.size)).size)⟩
        · have q5 : (((a[n + k].toNat : Nat) : Int) != 59) = true := by rw [bne_iff_ne]; exact u8_ne h59 (by rfl)
          have e59 : (some a[n + k] == some (59 : UInt8)) = false := by rw [beq_eq_false_iff_ne]; intro e; exact h59 (Option.some.inj e)
          have HN2 := HN.out
          have HL2 := HL.out
          rw [e59] at HN2 HL2
          simp only [Bool.true_and, Bool.not_false] at HN2 HL2
          clear HN HL h59 e59
          by_cases hend : n + 1 + k < a.size
          · rw [dif_pos hend] at HN2 HL2
            have q6 : decide ((n : Int) + 1 + (k : Int) < (a.size : Int)) = true := decide_eq_true (by omega)
            obtain ⟨c, hc⟩ : ∃ c, a[n + 1 + k] = c := ⟨_, rfl⟩
            rw [hc] at HN2 HL2
            unfold keptB at HN2 HL2
            have HN := Lib.hid HN2
            have HL := Lib.hid HL2
            have LT := Lib.hid (fun W => rletter_c c W)
            have DG := Lib.hid (fun W => rdigit_c c W)
            clear HN2 HL2
            by_cases h61 : c = 61
            · have q7 : (((c.toNat : Nat) : Int) == 61) = true := by rw [h61]; rfl
              have hT2 := Lib.hid (HL.out (by rw [h61]; rfl))
              clear HN HL h61
              go_enter Tryd.func17, Tryd.ntmps17
              go_wp2_with fail
              refine (NR.out _).mono ?_
              rintro e w1 ⟨rfl, hb⟩
              go_wp2_with fail
              refine (LR.out _).mono ?_
              rintro e w2 ⟨rfl, hb2⟩
              go_wp2_with fail
              go_ret2
              exact ⟨by rw [hT2.out, HX2.out]; rfl, hb.trans (hb2.mono hb.size)⟩
            · have q7 : (((c.toNat : Nat) : Int) == 61) = false := by rw [beq_eq_false_iff_ne]; exact u8_ne h61 (by rfl)
              have e61 : (c == 61) = false := by rw [beq_eq_false_iff_ne]; exact h61
              have HN2 := HN.out
              have HL2 := HL.out
              rw [e61] at HN2 HL2
              clear HN HL h61 e61
              obtain ⟨lb, hlb⟩ : ∃ b, isLetB c = b := ⟨_, rfl⟩
              obtain ⟨db, hdb⟩ : ∃ b, isDigB c = b := ⟨_, rfl⟩
              rw [hlb, hdb] at HN2 HL2
              rw [hlb] at LT
              rw [hdb] at DG
              clear hlb hdb
              cases lb with
              | true =>
                have hT2 := Lib.hid (HL2 rfl)
                clear HN2 HL2
                go_enter Tryd.func17, Tryd.ntmps17
                go_wp2_with fail
                refine (NR.out _).mono ?_
                rintro e w1 ⟨rfl, hb⟩
                go_wp2_with fail
                refine (LR.out _).mono ?_
                rintro e w2 ⟨rfl, hb2⟩
                go_wp2_with fail
                refine (LT.out _).mono ?_
                rintro e w3 ⟨rfl, hb3⟩
                go_wp2_with fail
                go_ret2
                exact ⟨by rw [hT2.out, HX2.out]; rfl, (hb.trans (hb2.mono hb.size)).trans (hb3.mono (hb.trans (hb2.mono hb.size)).size)⟩
              | false =>
                cases db with
                | true =>
                  have hT2 := Lib.hid (HL2 rfl)
                  clear HN2 HL2
                  go_enter Tryd.func17, Tryd.ntmps17
                  go_wp2_with fail
                  refine (NR.out _).mono ?_
                  rintro e w1 ⟨rfl, hb⟩
                  go_wp2_with fail
                  refine (LR.out _).mono ?_
                  rintro e w2 ⟨rfl, hb2⟩
                  go_wp2_with fail
                  refine (LT.out _).mono ?_
                  rintro e w3 ⟨rfl, hb3⟩
                  go_wp2_with fail
                  refine (DG.out _).mono ?_
                  rintro e w4 ⟨rfl, hb4⟩
                  have HB := (hb.trans (hb2.mono hb.size)).trans (hb3.mono (hb.trans (hb2.mono hb.size)).size)
                  go_wp2_with fail
                  go_ret2
                  exact ⟨by rw [hT2.out, HX2.out]; rfl, HB.trans (hb4.mono HB.size)⟩
                | false =>
                  have hT2 := Lib.hid (HN2 rfl)
                  clear HN2 HL2
                  go_enter Tryd.func17, Tryd.ntmps17
                  go_wp2_with fail
                  refine (NR.out _).mono ?_
                  rintro e w1 ⟨rfl, hb⟩
                  go_wp2_with fail
                  refine (LR.out _).mono ?_
                  rintro e w2 ⟨rfl, hb2⟩
                  go_wp2_with fail
                  refine (LT.out _).mono ?_
                  rintro e w3 ⟨rfl, hb3⟩
                  go_wp2_with fail
                  refine (DG.out _).mono ?_
                  rintro e w4 ⟨rfl, hb4⟩
                  have HB := (hb.trans (hb2.mono hb.size)).trans (hb3.mono (hb.trans (hb2.mono hb.size)).size)
                  go_wp2_with fail
                  refine (HTX.out _).mono ?_
                  rintro e w5 ⟨rfl, hb5⟩
                  have HB5 := HB.trans (hb4.mono HB.size)
                  go_wp2_with fail
                  go_ret2
                  exact ⟨by rw [hT2.out, HX2.out]; rfl, HB5.trans (hb5.mono HB5.size)⟩
          · rw [dif_neg hend] at HN2 HL2
            have q6 : decide ((n : Int) + 1 + (k : Int) < (a.size : Int)) = false := decide_eq_false (by omega)
            have hT2 := Lib.hid (HN2 rfl)
            clear HN2 HL2
            go_enter Tryd.func17, Tryd.ntmps17
            go_wp2_with fail
            refine (NR.out _).mono ?_
            rintro e w1 ⟨rfl, hb⟩
            go_wp2_with fail
            refine (LR.out _).mono ?_
            rintro e w2 ⟨rfl, hb2⟩
            go_wp2_with fail
            refine (HTX.out _).mono ?_
            rintro e w3 ⟨rfl, hb3⟩
            go_wp2_with fail
            go_ret2
            exact ⟨by rw [hT2.out, HX2.out]; rfl, (hb.trans (hb2.mono hb.size)).trans (hb3.mono (hb.trans (hb2.mono hb.size)).size)⟩
end Go.Proofs.YtdheknlnhfegnaaDoor.Hand

namespace Go.Proofs.YtdheknlnhfegnaaDoor.Hand
open Go Go.RowKit Go.Proofs.YtdheknlnhfegnaaDoor.Pl Go.Proofs.YtdheknlnhfegnaaDoor.Pb

/-! ### do all end? -/
noncomputable def whF (attr : Bool) : Nat → List UInt8 → Bool
  | 0, _ => true
  | _ + 1, [] => true
  | f + 1, c :: r => if c = 38 then ((c :: r)[(refN attr (c :: r)).2 - 1]? == some 59) && whF attr f ((c :: r).drop (refN attr (c :: r)).2) else whF attr f r
theorem whF_more (attr : Bool) (f : Nat) : ∀ l f', l.length ≤ f → l.length ≤ f' → whF attr f l = whF attr f' l := by
  induction f with
  | zero =>
    intro l f' h h'
    obtain rfl := List.eq_nil_of_length_eq_zero (Nat.le_zero.1 h)
    cases f' <;> rfl
  | succ f ih =>
    intro l f' h h'
    cases l with
    | nil => cases f' <;> rfl
    | cons c r =>
      cases f' with
      | zero => simp at h'
      | succ f' =>
        have hb := refN_bd attr c r
        simp only [List.length_cons] at h h' hb
        simp only [whF]
        split
        · rw [ih _ f' (by rw [List.length_drop, List.length_cons]; omega) (by rw [List.length_drop, List.length_cons]; omega)]
        · rw [ih r f' (by omega) (by omega)]
noncomputable def whL (attr : Bool) (l : List UInt8) : Bool := whF attr l.length l
theorem whL_nil (attr : Bool) : whL attr [] = true := rfl
theorem whL_ne {c : UInt8} (attr : Bool) (r : List UInt8) (h : c ≠ 38) : whL attr (c :: r) = whL attr r := by
  unfold whL; simp only [List.length_cons, whF, if_neg h]
theorem whL_amp (attr : Bool) (r : List UInt8) : whL attr (38 :: r) = (((38 :: r)[(refN attr (38 :: r)).2 - 1]? == some 59) && whL attr ((38 :: r).drop (refN attr (38 :: r)).2)) := by
  have hb := refN_bd attr 38 r
  simp only [List.length_cons] at hb
  unfold whL
  rw [List.length_cons, whF, if_pos rfl, whF_more attr r.length _ _ (by rw [List.length_drop, List.length_cons]; omega) (Nat.le_refl _)]
theorem whL_app {p : List UInt8} (attr : Bool) (r : List UInt8) (h : (38 : UInt8) ∉ p) : whL attr (p ++ r) = whL attr r := by
  induction p with
  | nil => rfl
  | cons c p ih =>
    rw [List.cons_append, whL_ne attr _ (fun e => h (by rw [e]; simp)), ih (fun e => h (by simp [e]))]
theorem no38_take {l : List UInt8} {o : Nat} (h : ∀ k, k < o → l[k]? ≠ some 38) : (38 : UInt8) ∉ l.take o := by
  intro hm
  obtain ⟨k, hk, e⟩ := List.getElem_of_mem hm
  rw [List.length_take] at hk
  rw [List.getElem_take] at e
  exact h k (by omega) (by rw [List.getElem?_eq_getElem (by omega), e])
theorem split_at {s : List UInt8} {i o : Nat} (h1 : (s.drop i)[o]? = some 38) : s.drop i = (s.drop i).take o ++ 38 :: s.drop (i + o + 1) ∧ s.drop (i + o) = 38 :: s.drop (i + o + 1) := by
  rw [List.getElem?_drop] at h1
  obtain ⟨hl, he⟩ := List.getElem?_eq_some_iff.1 h1
  have hd : s.drop (i + o) = 38 :: s.drop (i + o + 1) := by rw [List.drop_eq_getElem_cons hl, he]
  refine ⟨?_, hd⟩
  rw [← hd, ← List.drop_drop, List.take_append_drop]
theorem refR_next {s : List UInt8} {n m : Nat} {attr : Bool} {t : ByteArray} (h : RefR s n attr (.tuple #[.string t, .int .i64 (m : Int)])) (hb : begR (s.drop n) [38] = true) : m = n + (refN attr (s.drop n)).2 ∧ t = B (refN attr (s.drop n)).1 := by
  have e := refR_refN h hb
  simp only [Value.tuple.injEq, Array.mk.injEq, List.cons.injEq, Value.int.injEq, Value.string.injEq] at e
  exact ⟨by omega, e.1⟩
theorem whl_fun {s : List UInt8} {attr : Bool} {i : Nat} {b : Bool} (h : Whl s attr i b) : b = whL attr (s.drop i) := by
  induction h with
  | stop i h =>
    have : (38 : UInt8) ∉ s.drop i := by
      intro hm
      obtain ⟨k, hk, e⟩ := List.getElem_of_mem hm
      exact h k (by rw [List.getElem?_eq_getElem hk, e])
    have e := whL_app attr [] this
    rw [List.append_nil, whL_nil] at e
    exact e.symm
  | bad i o m t h1 h2 h3 h4 =>
    obtain ⟨e1, e2⟩ := split_at h1
    obtain ⟨e3, _⟩ := refR_next h3 (begR_amp h1)
    have hb := refN_bd attr 38 (s.drop (i + o + 1))
    rw [e1, whL_app attr _ (no38_take h2), whL_amp, ← e2]
    rw [← e2] at hb
    have : (s.drop (i + o))[(refN attr (s.drop (i + o))).2 - 1]? = s[m - 1]? := by rw [List.getElem?_drop, e3]; congr 1; omega
    rw [this, show (s[m - 1]? == some 59) = false by rw [beq_eq_false_iff_ne]; exact h4]; rfl
  | go i o m t b h1 h2 h3 h4 h5 ih =>
    obtain ⟨e1, e2⟩ := split_at h1
    obtain ⟨e3, _⟩ := refR_next h3 (begR_amp h1)
    have hb := refN_bd attr 38 (s.drop (i + o + 1))
    rw [e1, whL_app attr _ (no38_take h2), whL_amp, ← e2]
    rw [← e2] at hb
    have : (s.drop (i + o))[(refN attr (s.drop (i + o))).2 - 1]? = s[m - 1]? := by rw [List.getElem?_drop, e3]; congr 1; omega
    rw [this, h4, ih, List.drop_drop, ← e3]; rfl
theorem wholeN_c (s : List UInt8) (attr : Bool) (hs : s.length ≤ 100000) (w : World) (hGl : Glob w) (hGE : GlobE w) :
    Calls Tryd.prog 8 #[.string (B s), .bool attr] w fun e w' => e = .returned (.bool (whL attr s)) ∧ Below w.heap.size w w' :=
  (whole_c s attr hs w hGl hGE).mono fun e w' h => by
    obtain ⟨⟨v, hv, he⟩, hb2⟩ := h
    exact ⟨by rw [he, whl_fun hv, List.drop_zero], hb2⟩
end Go.Proofs.YtdheknlnhfegnaaDoor.Hand

namespace Go.Proofs.YtdheknlnhfegnaaDoor.Hand
open Go Go.RowKit Go.Proofs.YtdheknlnhfegnaaDoor.Pl Go.Proofs.YtdheknlnhfegnaaDoor.Pb

/-- is a text just text in a state? -/
noncomputable def safL (st : Int) (s : List UInt8) : Bool :=
  !hasB s 13 && (if st = 0 ∨ st = 1 then !hasB s 60 && whL false s else if st = 2 ∨ st = 3 then !hasB s 60 else if st = 4 then true else if st = 5 then !hasB s 34 && whL true s else if st = 6 then !hasB s 39 && whL true s else false)
theorem saf_fun {s : List UInt8} {st : Int} {b : Bool} (h : SafeR s st b) : b = safL st s := by
  unfold SafeR at h
  unfold safL
  split at h
  · rename_i g; rw [h, g]; rfl
  · rename_i g
    rw [Bool.not_eq_true] at g
    rw [g, Bool.not_false, Bool.true_and]
    split at h
    · rename_i g1; rw [if_pos g1]
      obtain ⟨x, hx, rfl⟩ := h
      rw [whl_fun hx, List.drop_zero, Bool.and_comm]
    · rename_i g1; rw [if_neg g1]
      split at h
      · rename_i g2; rw [if_pos g2]; exact h
      · rename_i g2; rw [if_neg g2]
        split at h
        · rename_i g3; rw [if_pos g3]; exact h
        · rename_i g3; rw [if_neg g3]
          split at h
          · rename_i g6
            rw [if_neg (by omega), if_pos g6]
            rcases h with ⟨a1, a2⟩ | ⟨a1, a2⟩
            · rw [a2, a1]; rfl
            · rw [whl_fun a2, a1, List.drop_zero]; rfl
          · rename_i g6
            split at h
            · rename_i g5; rw [if_pos g5]
              rcases h with ⟨a1, a2⟩ | ⟨a1, a2⟩
              · rw [a2, a1]; rfl
              · rw [whl_fun a2, a1, List.drop_zero]; rfl
            · rename_i g5; rw [if_neg g5, if_neg g6]; exact h
theorem safeN_c (s : List UInt8) (st : Int) (hs : s.length ≤ 100000) (w : World) (hGl : Glob w) (hGE : GlobE w) :
    Calls Tryd.prog 10 #[.int .i64 st, .string (B s)] w fun e w' => e = .returned (.bool (safL st s)) ∧ Below w.heap.size w w' :=
  (safe_c s st hs w hGl hGE).mono fun e w' h => by
    obtain ⟨⟨b, hb, he⟩, h2⟩ := h
    exact ⟨by rw [he, saf_fun hb], h2⟩
/-- .. in each of the seven states -/
noncomputable def everL (s : List UInt8) : Bool := safL 0 s && (safL 1 s && (safL 2 s && (safL 3 s && (safL 4 s && (safL 5 s && safL 6 s)))))
theorem everN_c (s : List UInt8) (hs : s.length ≤ 100000) (w : World) (hGl : Glob w) (hGE : GlobE w) :
    Calls Tryd.prog 11 #[.string (B s)] w fun e w' => e = .returned (.bool (everL s)) ∧ Below w.heap.size w w' :=
  (every_c s hs w hGl hGE).mono fun e w' h => by
    obtain ⟨h1, h2⟩ := h
    refine ⟨?_, h2⟩
    rcases h1 with ⟨rfl, hh⟩ | ⟨rfl, k, hk, hh⟩
    · have g := fun k hk => (saf_fun (hh k hk)).symm
      have : everL s = true := by
        unfold everL
        rw [show safL 0 s = true from g 0 (by decide), show safL 1 s = true from g 1 (by decide), show safL 2 s = true from g 2 (by decide), show safL 3 s = true from g 3 (by decide), show safL 4 s = true from g 4 (by decide), show safL 5 s = true from g 5 (by decide), show safL 6 s = true from g 6 (by decide)]
        rfl
      rw [this]
    · have g := (saf_fun hh).symm
      have : everL s = false := by
        unfold everL
        match k, hk with
        | 0, _ => rw [show safL 0 s = false from g]; rfl
        | 1, _ => rw [show safL 1 s = false from g]; simp
        | 2, _ => rw [show safL 2 s = false from g]; simp
        | 3, _ => rw [show safL 3 s = false from g]; simp
        | 4, _ => rw [show safL 4 s = false from g]; simp
        | 5, _ => rw [show safL 5 s = false from g]; simp
        | 6, _ => rw [show safL 6 s = false from g]; simp
      rw [this]
end Go.Proofs.YtdheknlnhfegnaaDoor.Hand

namespace Go.Proofs.YtdheknlnhfegnaaDoor.Hand
open Go Go.RowKit Go.Proofs.YtdheknlnhfegnaaDoor.Pl Go.Proofs.YtdheknlnhfegnaaDoor.Pb Go.Proofs.YtdheknlnhfegnaaDoor.Sr Go.Proofs.YtdheknlnhfegnaaDoor.Pure Go.Proofs.YtdheknlnhfegnaaDoorW.PrintWords

theorem has_l (s : List UInt8) (hs : s.length ≤ 1000000) (c : UInt8) : ∀ (r : List UInt8) (i k : Nat), s.drop i = r → i ≤ s.length → flailref25_has.l0 (r.length + 1 + k) (B s) (c.toNat : Int) (i : Int) = some (decide (c ∈ r)) := by
  intro r
  induction r with
  | nil =>
    intro i k hd hi
    have := List.drop_eq_nil_iff.1 hd
    rw [show ([] : List UInt8).length + 1 + k = k + 1 by simp; omega, flailref25_has.l0, if_neg (by rw [size_B]; omega)]; rfl
  | cons d r ih =>
    intro i k hd hi
    have hlt := drop_lt hd
    have hd2 : s.drop (i + 1) = r := by rw [← List.drop_drop, hd]; rfl
    have w1 : wrap64 ((i : Int) + 1) = ((i + 1 : Nat) : Int) := by unfold wrap64; omega
    rw [show (d :: r).length + 1 + k = (r.length + 1 + k) + 1 by simp; omega, flailref25_has.l0, if_pos (by rw [size_B]; omega), if_pos (by omega), bt_drop s i d r hd, w1]
    by_cases h : d = c
    · subst h; rw [if_pos rfl]; simp
    · rw [if_neg (u8_ne h rfl), ih (i + 1) k hd2 (by omega)]
      congr 1
      simp [Ne.symm h]
theorem rhas_c (s : List UInt8) (hs : s.length ≤ 1000000) (c : UInt8) (w : World) : Calls Tryd.prog 14 #[.string (B s), .int .u8 (c.toNat : Int)] w fun e w' => e = .returned (.bool (hasB s c)) ∧ Below w.heap.size w w' :=
  (flailref25_has.calls (s.length + 1) _ _ _ w (by
    have := has_l s hs c s 0 0 rfl (by omega)
    exact this)).mono fun _ _ h => ⟨h.1, h.2.below⟩
theorem whL_drop {s : List UInt8} {i : Nat} (attr : Bool) (h : i < s.length) (hc : s[i] = 38) :
    whL attr (s.drop i) = ((s[i + (refN attr (s.drop i)).2 - 1]? == some 59) && whL attr (s.drop (i + (refN attr (s.drop i)).2))) ∧ 1 ≤ (refN attr (s.drop i)).2 ∧ i + (refN attr (s.drop i)).2 ≤ s.length := by
  have hd : s.drop i = 38 :: s.drop (i + 1) := by rw [List.drop_eq_getElem_cons h, hc]
  have hb := refN_bd attr 38 (s.drop (i + 1))
  rw [← hd, List.length_drop] at hb
  refine ⟨?_, hb.1, by omega⟩
  conv => lhs; rw [hd]
  rw [whL_amp, ← hd, List.drop_drop, List.getElem?_drop, show i + ((refN attr (s.drop i)).2 - 1) = i + (refN attr (s.drop i)).2 - 1 by omega]
set_option maxRecDepth 100000 in
set_option maxHeartbeats 4000000 in
theorem rwhole_c (s : List UInt8) (attr : Bool) (hs : s.length ≤ 100000) (w : World) :
    Calls Tryd.prog 9 #[.string (B s), .bool attr] w fun e w' => e = .returned (.bool (whL attr s)) ∧ Below w.heap.size w w' := by
  have RD := Lib.hid (fun n (hn : n < s.length) (h : s[n] = 38) W => rread_c s n attr hs hn h W)
  have WD := Lib.hid (fun i (h : i < s.length) (hc : s[i] = 38) => whL_drop attr h hc)
  obtain ⟨V, hV⟩ : ∃ V, whL attr s = V := ⟨_, rfl⟩
  have HV : Hid (whL attr (s.drop 0) = V) := Lib.hid hV
  rw [hV]
  obtain ⟨a, ha⟩ : ∃ a, B s = a := ⟨_, rfl⟩
  have hsz : a.size = s.length := by rw [← ha]; simp
  have hby : ∀ i (h : i < a.size) (h' : i < s.length), a[i] = s[i] := fun i h _ => by subst ha; rfl
  rw [ha] at RD ⊢
  have HSZ := Lib.hid hsz
  have HBY := Lib.hid hby
  have hza : a.size ≤ 100000 := by omega
  clear hV ha hsz hby hs
  go_enter Tryd.func9, Tryd.ntmps9
  go_wp2_with fail
  go_loopw [5] (fun v wx => ∃ i : Nat, v = .int .i64 (i : Int) ∧ i ≤ a.size ∧ Hid (Below w.heap.size w wx) ∧ Hid (whL attr (s.drop i) = V)) (fun v _ => a.size - (intOf v).toNat)
  case atStart => exact ⟨0, rfl, Nat.zero_le _, Lib.hid (Below.refl _ _), HV⟩
  case round =>
    obtain ⟨i, rfl, hi, HW, HR⟩ := hrel
    by_cases hlt : i < a.size
    · by_cases h38 : a[i] = 38
      · have q1 : (((a[i].toNat : Nat) : Int) != 38) = false := by rw [h38]; rfl
        have hls : i < s.length := by rw [← HSZ.out]; exact hlt
        have h38' : s[i] = 38 := by rw [← HBY.out i hlt hls]; exact h38
        have R := RD.out i hls h38'
        obtain ⟨w1, w2, w3⟩ := WD.out i hls h38'
        obtain ⟨t, ht⟩ : ∃ t, B (refN attr (s.drop i)).1 = t := ⟨_, rfl⟩
        obtain ⟨k, hk⟩ : ∃ k, (refN attr (s.drop i)).2 = k := ⟨_, rfl⟩
        rw [ht, hk] at R
        rw [hk, HR.out] at w1
        rw [hk] at w2 w3
        rw [← HSZ.out] at w3
        have hm0 : i + k - 1 < a.size := by omega
        have hmi : ((i + k : Nat) : Int) - 1 = ((i + k - 1 : Nat) : Int) := by omega
        have hms : i + k - 1 < s.length := by rw [← HSZ.out]; exact hm0
        rw [List.getElem?_eq_getElem hms, ← HBY.out _ hm0 hms] at w1
        have HR2 := Lib.hid R
        by_cases h59 : a[i + k - 1] = 59
        · have q2 : (((a[i + k - 1].toNat : Nat) : Int) != 59) = false := by rw [h59]; rfl
          rw [h59] at w1
          have HN : Hid (whL attr (s.drop (i + k)) = V) := Lib.hid (by rw [w1]; rfl)
          clear h38 h38' R w1 ht hk h59 HR
          go_wp2_with fail
          refine (HR2.out _).mono ?_
          rintro e w4 ⟨rfl, hb⟩
          have HW2 := Lib.hid (HW.out.trans (hb.mono HW.out.size))
          clear hb HR2
          go_wp2_with fail
          go_roundw
          case rel => exact ⟨i + k, by go_num, by omega, HW2, HN⟩
          case measure => simp [intOf]; omega
        · have q2 : (((a[i + k - 1].toNat : Nat) : Int) != 59) = true := by rw [bne_iff_ne]; exact u8_ne h59 rfl
          have HN : Hid (V = false) := Lib.hid (by rw [w1, show (some a[i + k - 1] == some (59 : UInt8)) = false by rw [beq_eq_false_iff_ne]; intro e; exact h59 (Option.some.inj e)]; rfl)
          clear h38 h38' R w1 ht hk h59 HR
          go_wp2_with fail
          refine (HR2.out _).mono ?_
          rintro e w4 ⟨rfl, hb⟩
          have HW2 := Lib.hid (HW.out.trans (hb.mono HW.out.size))
          clear hb HR2
          go_wp2_with fail
          go_ret
          exact ⟨by rw [HN.out]; rfl, HW2.out⟩
      · have q1 : (((a[i].toNat : Nat) : Int) != 38) = true := by rw [bne_iff_ne]; exact u8_ne h38 rfl
        have HN : Hid (whL attr (s.drop (i + 1)) = V) := Lib.hid (by
          have hl : i < s.length := by rw [← HSZ.out]; exact hlt
          rw [← HR.out, List.drop_eq_getElem_cons hl, whL_ne]
          rw [← HBY.out i hlt hl]; exact h38)
        clear h38 HR
        go_wp2_with fail
        go_roundw
        case rel => exact ⟨i + 1, by go_num, by omega, HW, HN⟩
        case measure => simp [intOf]; omega
    · obtain rfl : i = a.size := by omega
      have HN : Hid (V = true) := Lib.hid (by rw [← HR.out, List.drop_eq_nil_of_le (by rw [HSZ.out]; exact Nat.le_refl _), whL_nil])
      go_wp2_with fail
      go_ret
      exact ⟨by rw [HN.out]; rfl, HW.out⟩
end Go.Proofs.YtdheknlnhfegnaaDoor.Hand

namespace Go.Proofs.YtdheknlnhfegnaaDoor.Hand
open Go Go.RowKit Go.Proofs.YtdheknlnhfegnaaDoor.Pl Go.Proofs.YtdheknlnhfegnaaDoor.Pb

def rowAt (T : List UInt8) (p : Nat) (key rest : List UInt8) : Bool := (T[p]? == some 10) && (lnT T (p + 1) == key ++ 32 :: rest)
def wordAmp : List UInt8 := [97, 109, 112]
def wordLt : List UInt8 := [108, 116]
def wordGt : List UInt8 := [103, 116]
def wordQuot : List UInt8 := [113, 117, 111, 116]
def wordNbsp : List UInt8 := [110, 98, 115, 112]
set_option maxRecDepth 1000000 in
theorem rows_are : (rowAt namesL 9820 (wordAmp ++ [59]) [50, 54] && (rowAt namesL 9813 wordAmp [50, 54] && (rowAt namesL 19023 (wordLt ++ [59]) [51, 67] && (rowAt namesL 15791 (wordGt ++ [59]) [51, 69] && (rowAt namesL 23656 (wordQuot ++ [59]) [50, 50] && rowAt namesL 20038 (wordNbsp ++ [59]) [65, 48]))))) = true := by kernel_rfl
theorem row_fnd {p : Nat} {key rest : List UInt8} (h : rowAt namesL p key rest = true) (hk : ∀ c ∈ key, c ≠ 10 ∧ c ≠ 32) : Fnd namesL key (some rest) := by
  unfold rowAt at h
  rw [Bool.and_eq_true, beq_iff_eq, beq_iff_eq] at h
  obtain ⟨h1, h2⟩ := h
  refine .inl ⟨p + 1, .inr ⟨p, rfl, h1⟩, ?_, ?_⟩
  · unfold kyT; rw [h2, ky_row hk]
  · rw [h2]; unfold rsL; rw [ky_row hk, List.drop_append, List.drop_eq_nil_of_le (by omega), List.nil_append, show key.length + 1 - key.length = 1 by omega]; rfl
theorem fnd_amp : Fnd namesL (wordAmp ++ [59]) (some [50, 54]) := row_fnd (Bool.and_eq_true_iff.1 rows_are).1 (by decide)
theorem fnd_amp0 : Fnd namesL wordAmp (some [50, 54]) := row_fnd (Bool.and_eq_true_iff.1 (Bool.and_eq_true_iff.1 rows_are).2).1 (by decide)
theorem fnd_lt : Fnd namesL (wordLt ++ [59]) (some [51, 67]) := row_fnd (Bool.and_eq_true_iff.1 (Bool.and_eq_true_iff.1 (Bool.and_eq_true_iff.1 rows_are).2).2).1 (by decide)
theorem fnd_gt : Fnd namesL (wordGt ++ [59]) (some [51, 69]) := row_fnd (Bool.and_eq_true_iff.1 (Bool.and_eq_true_iff.1 (Bool.and_eq_true_iff.1 (Bool.and_eq_true_iff.1 rows_are).2).2).2).1 (by decide)
theorem fnd_quot : Fnd namesL (wordQuot ++ [59]) (some [50, 50]) := row_fnd (Bool.and_eq_true_iff.1 (Bool.and_eq_true_iff.1 (Bool.and_eq_true_iff.1 (Bool.and_eq_true_iff.1 (Bool.and_eq_true_iff.1 rows_are).2).2).2).2).1 (by decide)
theorem fnd_nbsp : Fnd namesL (wordNbsp ++ [59]) (some [65, 48]) := row_fnd (Bool.and_eq_true_iff.1 (Bool.and_eq_true_iff.1 (Bool.and_eq_true_iff.1 (Bool.and_eq_true_iff.1 (Bool.and_eq_true_iff.1 rows_are).2).2).2).2).2 (by decide)
theorem fnd_key {key rest : List UInt8} (h : Fnd namesL key (some rest)) : isKey namesL key := (fnd_rest h).2.2
theorem nameT_of {key rest : List UInt8} (h : Fnd namesL key (some rest)) : nameT key = (textB (num1 rest) (num2 rest)).data.toList := by unfold nameT; rw [rowN_eq h]
theorem nameT_amp : nameT (wordAmp ++ [59]) = [38] := by rw [nameT_of fnd_amp]; decide +kernel
theorem nameT_amp0 : nameT wordAmp = [38] := by rw [nameT_of fnd_amp0]; decide +kernel
theorem nameT_lt : nameT (wordLt ++ [59]) = [60] := by rw [nameT_of fnd_lt]; decide +kernel
theorem nameT_gt : nameT (wordGt ++ [59]) = [62] := by rw [nameT_of fnd_gt]; decide +kernel
theorem nameT_quot : nameT (wordQuot ++ [59]) = [34] := by rw [nameT_of fnd_quot]; decide +kernel
theorem nameT_nbsp : nameT (wordNbsp ++ [59]) = [194, 160] := by rw [nameT_of fnd_nbsp]; decide +kernel

/-- no key goes on behind a byte that no key has within -/
theorem lng_stop {k r : List UInt8} {c : UInt8} (hk : isKey namesL k) (hc : kyC c = false ∧ c ≠ 59 ∨ k.getLast? = some 59) : lngN (k ++ c :: r) = k.length := by
  have hf := key_facts hk
  refine lngN_eq ⟨?_, .inr (by rw [List.take_left]; exact hk), fun m h1 h2 hm => ?_⟩
  · have := hf.le; simp; omega
  · have hg := key_facts hm
    have h2' : m ≤ (k ++ c :: r).length := by omega
    obtain ⟨d, rfl⟩ : ∃ d, m = k.length + 1 + d := ⟨m - (k.length + 1), by omega⟩
    have e : (k ++ c :: r).take (k.length + 1 + d) = k ++ c :: r.take d := by
      rw [List.take_append, List.take_of_length_le (by omega), show k.length + 1 + d - k.length = d + 1 by omega, List.take_succ_cons]
    rw [e] at hg
    rcases hc with ⟨h3, h4⟩ | h3
    · -- c itself stands there
      cases hd : r.take d with
      | nil =>
        rw [hd] at hg
        obtain ⟨x, hx, hx2⟩ := hg.last
        simp at hx
        subst hx
        rcases hx2 with h | h
        · rw [h3] at h; cases h
        · exact h4 h
      | cons y t =>
        rw [hd] at hg
        have hmem : c ∈ (k ++ c :: y :: t).dropLast := by
          rw [List.dropLast_append_of_ne_nil (by simp)]
          simp
        have := hg.inner c hmem
        rw [h3] at this; cases this
    · have hmem : (59 : UInt8) ∈ (k ++ c :: r.take d).dropLast := by
        rw [List.dropLast_append_of_ne_nil (by simp)]
        exact List.mem_append_left _ (List.mem_of_getLast? h3)
      have := hg.inner 59 hmem
      exact absurd this (by decide)
theorem num_letter {k r : List UInt8} (hk : isKey namesL k) : numL (k ++ r) = none := by
  have hf := key_facts hk
  cases k with
  | nil => exact absurd rfl hf.pos
  | cons c k =>
    have hh := hf.head
    have h35 : c ≠ 35 := by rintro rfl; exact absurd hh (by simp [hdC])
    unfold numL
    rw [if_neg]
    simp [begR, h35]
    have : ∀ n : Fin 256, lowB (UInt8.ofNat n.val) = 35 → UInt8.ofNat n.val = 35 := by decide +kernel
    have h := this ⟨c.toNat, c.toNat_lt⟩
    simp only [UInt8.ofNat_toNat] at h
    exact fun e => h35 (h e)
/-- a name with its semicolon -/
theorem refN_semi {attr : Bool} {w : List UInt8} (r : List UInt8) (hk : isKey namesL (w ++ [59])) : refN attr (38 :: (w ++ 59 :: r)) = (nameT (w ++ [59]), w.length + 2) := by
  have hl : lngN (w ++ 59 :: r) = w.length + 1 := by
    cases r with
    | nil =>
      refine lngN_eq ⟨?_, .inr ?_, fun m h1 h2 _ => ?_⟩
      · have := (key_facts hk).le; simp at this ⊢; omega
      · rw [List.take_of_length_le (by simp)]; exact hk
      · simp at h2; omega
    | cons c r =>
      have := lng_stop (c := c) (r := r) hk (.inr (by simp))
      rw [List.append_assoc] at this
      simpa using this
  have hn : numL (w ++ 59 :: r) = none := by
    have := num_letter (r := r) hk
    rwa [List.append_assoc] at this
  have ht : (w ++ 59 :: r).take (w.length + 1) = w ++ [59] := by
    rw [List.take_append, List.take_of_length_le (by omega), show w.length + 1 - w.length = 1 by omega]; rfl
  unfold refN
  rw [List.drop_succ_cons, List.drop_zero, hn, hl, ht]
  simp only
  rw [if_neg, show 1 + (w.length + 1) = w.length + 2 by omega]
  rintro (e | e)
  · omega
  · unfold leftL at e
    rw [show Lib.hasSuffix (w ++ [59]) [59] = true by unfold Lib.hasSuffix; simp] at e
    simp at e
theorem rdL_semi {attr : Bool} {w : List UInt8} (r : List UInt8) (hk : isKey namesL (w ++ [59])) : rdL attr (38 :: (w ++ 59 :: r)) = nameT (w ++ [59]) ++ rdL attr r := by
  rw [rdL_amp, refN_semi r hk]
  simp only
  congr 2
  rw [List.drop_succ_cons, List.drop_append, List.drop_eq_nil_of_le (by omega), show w.length + 1 - w.length = 1 by omega]; rfl
/-- digits with a semicolon -/
theorem numL_dec (ds r : List UInt8) (h : ∀ c ∈ ds, isDg false c = true) (h0 : ds ≠ []) {m : Nat} (hv : valL 10 ds = m) : numL (35 :: (ds ++ 59 :: r)) = some (m, ds.length + 2) := by
  have hx : begR (ds ++ 59 :: r) [120] = false := by
    cases ds with
    | nil => exact absurd rfl h0
    | cons c ds =>
      have hc := h c (by simp)
      have : ∀ n : Fin 256, isDg false (UInt8.ofNat n.val) = true → (lowB (UInt8.ofNat n.val) == 120) = false := by decide +kernel
      have g := this ⟨c.toNat, c.toNat_lt⟩
      simp only [UInt8.ofNat_toNat] at g
      simp [begR, g hc]
  have hd : digs false (ds ++ 59 :: r) = ds := by
    unfold digs
    rw [tw_app _ _ _ h, List.takeWhile_cons, if_neg (by decide), List.append_nil]
  unfold numL
  rw [show begR (35 :: (ds ++ 59 :: r)) [35] = true by simp [begR, lowB], if_pos rfl, List.drop_succ_cons, List.drop_zero, hx, if_neg (by decide)]
  unfold numQ
  simp only [hd]
  rw [show baseN false = 10 from rfl, hv, if_neg (by omega), List.drop_left, show begR (59 :: r) [59] = true by simp [begR, lowB], if_pos rfl]
  simp only [Option.map_some, Int.toNat_natCast]
theorem refN_dec {attr : Bool} (ds r : List UInt8) (h : ∀ c ∈ ds, isDg false c = true) (h0 : ds ≠ []) {m : Nat} (hv : valL 10 ds = m) : refN attr (38 :: 35 :: (ds ++ 59 :: r)) = ((fixB m).data.toList, ds.length + 3) := by
  unfold refN
  rw [List.drop_succ_cons, List.drop_zero, numL_dec ds r h h0 hv]
  simp only
  rw [show 1 + (ds.length + 2) = ds.length + 3 by omega]
theorem rdL_dec {attr : Bool} (ds r : List UInt8) (h : ∀ c ∈ ds, isDg false c = true) (h0 : ds ≠ []) {m : Nat} (hv : valL 10 ds = m) : rdL attr (38 :: 35 :: (ds ++ 59 :: r)) = (fixB m).data.toList ++ rdL attr r := by
  rw [rdL_amp, refN_dec ds r h h0 hv]
  simp only
  congr 2
  rw [show ds.length + 3 = (ds.length + 1) + 2 by omega, List.drop_succ_cons, List.drop_succ_cons, List.drop_append, List.drop_eq_nil_of_le (by omega), show ds.length + 1 - ds.length = 1 by omega]; rfl
end Go.Proofs.YtdheknlnhfegnaaDoor.Hand

namespace Go.Proofs.YtdheknlnhfegnaaDoor.Hand
open Go Go.RowKit Go.Proofs.YtdheknlnhfegnaaDoor.Pl Go.Proofs.YtdheknlnhfegnaaDoor.Pb

theorem whL_semi {attr : Bool} {w : List UInt8} (r : List UInt8) (hk : isKey namesL (w ++ [59])) : whL attr (38 :: (w ++ 59 :: r)) = whL attr r := by
  rw [whL_amp, refN_semi r hk]
  simp only
  rw [show w.length + 2 - 1 = w.length + 1 by omega, List.getElem?_cons_succ, List.getElem?_append_right (Nat.le_refl _), Nat.sub_self, List.drop_succ_cons, List.drop_append, List.drop_eq_nil_of_le (by omega), show w.length + 1 - w.length = 1 by omega]
  rfl
theorem whL_dec {attr : Bool} (ds r : List UInt8) (h : ∀ c ∈ ds, isDg false c = true) (h0 : ds ≠ []) {m : Nat} (hv : valL 10 ds = m) : whL attr (38 :: 35 :: (ds ++ 59 :: r)) = whL attr r := by
  rw [whL_amp, refN_dec ds r h h0 hv]
  simp only
  rw [show ds.length + 3 - 1 = (ds.length + 1) + 1 by omega, List.getElem?_cons_succ, List.getElem?_cons_succ, List.getElem?_append_right (Nat.le_refl _), Nat.sub_self, show ds.length + 3 = (ds.length + 1) + 2 by omega, List.drop_succ_cons, List.drop_succ_cons, List.drop_append, List.drop_eq_nil_of_le (by omega), show ds.length + 1 - ds.length = 1 by omega]
  rfl
theorem whL_no {attr : Bool} {p : List UInt8} (h : (38 : UInt8) ∉ p) : whL attr p = true := by
  have := whL_app attr [] h
  rwa [List.append_nil, whL_nil] at this
end Go.Proofs.YtdheknlnhfegnaaDoor.Hand

namespace Go.Proofs.YtdheknlnhfegnaaDoor.Hand
open Go Go.RowKit Go.Proofs.YtdheknlnhfegnaaDoor.Pl Go.Proofs.YtdheknlnhfegnaaDoor.Pb

theorem ever_amp : everL [97, 38, 97, 109, 112, 59] = true := by
  have hw : ∀ attr, whL attr [97, 38, 97, 109, 112, 59] = true := fun attr => by
    rw [whL_ne attr _ (by decide)]
    exact (whL_semi (w := wordAmp) [] (fnd_key fnd_amp)).trans (whL_nil _)
  unfold everL safL
  rw [hw, hw]; decide
theorem saf_amp0 : safL 0 [97, 38, 97, 109, 112] = false := by
  have hl : lngN wordAmp = 3 := lngN_eq ⟨by decide, .inr (fnd_key fnd_amp0), fun m h1 h2 _ => by have : min 32 wordAmp.length = 3 := rfl; omega⟩
  have hr : refN false (38 :: wordAmp) = ([38], 4) := by
    unfold refN
    rw [show (38 :: wordAmp).drop 1 = wordAmp from rfl, show numL wordAmp = none by decide +kernel]
    simp only [hl]
    rw [if_neg, show wordAmp.take 3 = wordAmp from rfl, nameT_amp0]
    rintro (e | e)
    · cases e
    · exact absurd e (by decide)
  have hw : whL false [97, 38, 97, 109, 112] = false := by
    rw [whL_ne false _ (by decide)]
    refine (whL_amp false wordAmp).trans ?_
    rw [hr]; rfl
  unfold safL
  rw [if_pos (.inl rfl), hw, Bool.and_false, Bool.and_false]
set_option maxRecDepth 100000 in
set_option maxHeartbeats 4000000 in
theorem awake25_any (w : World) (hGl : Glob w) (hGE : GlobE w) : Calls Tryd.prog 6 #[] w fun e w' => e = .returned (.bool true) ∧ Below w.heap.size w w' := by
  have G1 := Lib.hid (fun W hG hE => everN_c [97, 38, 97, 109, 112, 59] (by decide) W hG hE)
  have G2 := Lib.hid (fun W hG hE => safeN_c [97, 38, 97, 109, 112] 0 (by decide) W hG hE)
  have G3 := Lib.hid (fun W hG hE => safeN_c [39] 5 (by decide) W hG hE)
  have G4 := Lib.hid (fun W hG hE => safeN_c [39] 6 (by decide) W hG hE)
  have G5 := Lib.hid (fun W hG hE => wholeN_c [97] true (by decide) W hG hE)
  rw [ever_amp] at G1
  rw [saf_amp0] at G2
  rw [show safL 5 [39] = true by unfold safL; rw [whL_no (by decide)]; decide] at G3
  rw [show safL 6 [39] = false by unfold safL; decide] at G4
  rw [whL_no (by decide)] at G5
  unfold B at G1 G2 G3 G4 G5
  have HG := Lib.hid hGl
  have HE := Lib.hid hGE
  clear hGl hGE
  go_enter Tryd.func6, Tryd.ntmps6
  go_wp2_with fail
  refine (G1.out _ HG.out HE.out).mono ?_
  rintro e w1 ⟨rfl, hb⟩
  have HB := Lib.hid hb
  clear hb
  go_wp2_with fail
  refine (G2.out _ (HG.out.step HB.out) (HE.out.step HB.out)).mono ?_
  rintro e w2 ⟨rfl, hb⟩
  replace HB := Lib.hid (HB.out.trans (hb.mono HB.out.size))
  clear hb
  go_wp2_with fail
  refine (G3.out _ (HG.out.step HB.out) (HE.out.step HB.out)).mono ?_
  rintro e w3 ⟨rfl, hb⟩
  replace HB := Lib.hid (HB.out.trans (hb.mono HB.out.size))
  clear hb
  go_wp2_with fail
  refine (G4.out _ (HG.out.step HB.out) (HE.out.step HB.out)).mono ?_
  rintro e w4 ⟨rfl, hb⟩
  replace HB := Lib.hid (HB.out.trans (hb.mono HB.out.size))
  clear hb
  go_wp2_with fail
  refine (G5.out _ (HG.out.step HB.out) (HE.out.step HB.out)).mono ?_
  rintro e w5 ⟨rfl, hb⟩
  replace HB := Lib.hid (HB.out.trans (hb.mono HB.out.size))
  clear hb
  go_wp2_with fail
  go_ret
  exact ⟨rfl, HB.out⟩
end Go.Proofs.YtdheknlnhfegnaaDoor.Hand

namespace Go.Proofs.YtdheknlnhfegnaaDoor.Hand
open Go Go.RowKit Go.Proofs.YtdheknlnhfegnaaDoor.Pl Go.Proofs.YtdheknlnhfegnaaDoor.Pb

theorem saf13 {s : List UInt8} (st : Int) (h : hasB s 13 = true) : safL st s = false := by unfold safL; rw [h]; rfl
theorem saf_no {s : List UInt8} (st : Int) (h : hasB s 13 = false) : safL st s = (if st = 0 ∨ st = 1 then !hasB s 60 && whL false s else if st = 2 ∨ st = 3 then !hasB s 60 else if st = 4 then true else if st = 5 then !hasB s 34 && whL true s else if st = 6 then !hasB s 39 && whL true s else false) := by
  unfold safL; rw [h]; rfl
set_option maxRecDepth 100000 in
set_option maxHeartbeats 4000000 in
theorem rsafe_c (s : List UInt8) (st : Int) (hs : s.length ≤ 100000) (w : World) :
    Calls Tryd.prog 7 #[.int .i64 st, .string (B s)] w fun e w' => e = .returned (.bool (safL st s)) ∧ Below w.heap.size w w' := by
  have H13 := Lib.hid (fun W => rhas_c s (by omega) 13 W)
  have H60 := Lib.hid (fun W => rhas_c s (by omega) 60 W)
  have H34 := Lib.hid (fun W => rhas_c s (by omega) 34 W)
  have H39 := Lib.hid (fun W => rhas_c s (by omega) 39 W)
  have WF := Lib.hid (fun W => rwhole_c s false hs W)
  have WT := Lib.hid (fun W => rwhole_c s true hs W)
  obtain ⟨b13, e13⟩ : ∃ b, hasB s 13 = b := ⟨_, rfl⟩
  have S13 := saf13 (s := s) st
  have SNO := saf_no (s := s) st
  obtain ⟨b60, e60⟩ : ∃ b, hasB s 60 = b := ⟨_, rfl⟩
  obtain ⟨b34, e34⟩ : ∃ b, hasB s 34 = b := ⟨_, rfl⟩
  obtain ⟨b39, e39⟩ : ∃ b, hasB s 39 = b := ⟨_, rfl⟩
  obtain ⟨f, ef⟩ : ∃ b, whL false s = b := ⟨_, rfl⟩
  obtain ⟨t, et⟩ : ∃ b, whL true s = b := ⟨_, rfl⟩
  obtain ⟨R, hR⟩ : ∃ R, safL st s = R := ⟨_, rfl⟩
  rw [e13, hR] at S13 SNO
  rw [e60, e34, e39, ef, et] at SNO
  rw [e13] at H13
  rw [e60] at H60
  rw [e34] at H34
  rw [e39] at H39
  rw [ef] at WF
  rw [et] at WT
  rw [hR]
  obtain ⟨a, ha⟩ : ∃ a, B s = a := ⟨_, rfl⟩
  rw [ha] at H13 H60 H34 H39 WF WT ⊢
  clear e13 e60 e34 e39 ef et hR ha hs
  cases b13 with
  | true =>
    have hR := Lib.hid (S13 rfl)
    clear S13 SNO
    go_enter Tryd.func7, Tryd.ntmps7
    go_wp2_with fail
    refine (H13.out _).mono ?_
    rintro e w1 ⟨rfl, hb⟩
    go_wp2_with fail
    go_ret
    exact ⟨by rw [hR.out]; rfl, hb⟩
  | false =>
    have SN := SNO rfl
    clear S13 SNO
    by_cases h0 : st = 0
    · subst h0
      rw [if_pos (.inl rfl)] at SN
      cases b60 with
      | true =>
        have hR := Lib.hid SN
        clear SN
        go_enter Tryd.func7, Tryd.ntmps7
        go_wp2_with fail
        refine (H13.out _).mono ?_
        rintro e w1 ⟨rfl, hb⟩
        go_wp2_with fail
        refine (H60.out _).mono ?_
        rintro e w2 ⟨rfl, hb2⟩
        go_wp2_with fail
        go_ret
        exact ⟨by rw [hR.out]; rfl, hb.trans (hb2.mono hb.size)⟩
      | false =>
        have hR := Lib.hid SN
        clear SN
        go_enter Tryd.func7, Tryd.ntmps7
        go_wp2_with fail
        refine (H13.out _).mono ?_
        rintro e w1 ⟨rfl, hb⟩
        go_wp2_with fail
        refine (H60.out _).mono ?_
        rintro e w2 ⟨rfl, hb2⟩
        have hb3 := hb.trans (hb2.mono hb.size)
        go_wp2_with fail
        refine (WF.out _).mono ?_
        rintro e w3 ⟨rfl, hb4⟩
        go_wp2_with fail
        go_ret
        exact ⟨by rw [hR.out]; rfl, hb3.trans (hb4.mono hb3.size)⟩
    have q0 : (st == 0) = false := by rw [beq_eq_false_iff_ne]; exact h0
    by_cases h1 : st = 1
    · subst h1
      rw [if_pos (.inr rfl)] at SN
      clear q0 h0
      cases b60 with
      | true =>
        have hR := Lib.hid SN
        clear SN
        go_enter Tryd.func7, Tryd.ntmps7
        go_wp2_with fail
        refine (H13.out _).mono ?_
        rintro e w1 ⟨rfl, hb⟩
        go_wp2_with fail
        refine (H60.out _).mono ?_
        rintro e w2 ⟨rfl, hb2⟩
        go_wp2_with fail
        go_ret
        exact ⟨by rw [hR.out]; rfl, hb.trans (hb2.mono hb.size)⟩
      | false =>
        have hR := Lib.hid SN
        clear SN
        go_enter Tryd.func7, Tryd.ntmps7
        go_wp2_with fail
        refine (H13.out _).mono ?_
        rintro e w1 ⟨rfl, hb⟩
        go_wp2_with fail
        refine (H60.out _).mono ?_
        rintro e w2 ⟨rfl, hb2⟩
        have hb3 := hb.trans (hb2.mono hb.size)
        go_wp2_with fail
        refine (WF.out _).mono ?_
        rintro e w3 ⟨rfl, hb4⟩
        go_wp2_with fail
        go_ret
        exact ⟨by rw [hR.out]; rfl, hb3.trans (hb4.mono hb3.size)⟩
    have q1 : (st == 1) = false := by rw [beq_eq_false_iff_ne]; exact h1
    rw [if_neg (by omega)] at SN
    by_cases h2 : st = 2
    · subst h2
      rw [if_pos (.inl rfl)] at SN
      have hR := Lib.hid SN
      clear SN q0 h0 q1 h1
      go_enter Tryd.func7, Tryd.ntmps7
      go_wp2_with fail
      refine (H13.out _).mono ?_
      rintro e w1 ⟨rfl, hb⟩
      go_wp2_with fail
      refine (H60.out _).mono ?_
      rintro e w2 ⟨rfl, hb2⟩
      go_wp2_with fail
      go_ret
      exact ⟨by rw [hR.out]; rfl, hb.trans (hb2.mono hb.size)⟩
    have q2 : (st == 2) = false := by rw [beq_eq_false_iff_ne]; exact h2
    by_cases h3 : st = 3
    · subst h3
      rw [if_pos (.inr rfl)] at SN
      have hR := Lib.hid SN
      clear SN q0 h0 q1 h1 q2 h2
      go_enter Tryd.func7, Tryd.ntmps7
      go_wp2_with fail
      refine (H13.out _).mono ?_
      rintro e w1 ⟨rfl, hb⟩
      go_wp2_with fail
      refine (H60.out _).mono ?_
      rintro e w2 ⟨rfl, hb2⟩
      go_wp2_with fail
      go_ret
      exact ⟨by rw [hR.out]; rfl, hb.trans (hb2.mono hb.size)⟩
    have q3 : (st == 3) = false := by rw [beq_eq_false_iff_ne]; exact h3
    rw [if_neg (by omega)] at SN
    by_cases h4 : st = 4
    · subst h4
      rw [if_pos rfl] at SN
      have hR := Lib.hid SN
      clear SN q0 h0 q1 h1 q2 h2 q3 h3
      go_enter Tryd.func7, Tryd.ntmps7
      go_wp2_with fail
      refine (H13.out _).mono ?_
      rintro e w1 ⟨rfl, hb⟩
      go_wp2_with fail
      go_ret
      exact ⟨by rw [hR.out]; rfl, hb⟩
    have q4 : (st == 4) = false := by rw [beq_eq_false_iff_ne]; exact h4
    rw [if_neg h4] at SN
    by_cases h5 : st = 5
    · subst h5
      rw [if_pos rfl] at SN
      clear q0 h0 q1 h1 q2 h2 q3 h3 q4 h4
      cases b34 with
      | true =>
        have hR := Lib.hid SN
        clear SN
        go_enter Tryd.func7, Tryd.ntmps7
        go_wp2_with fail
        refine (H13.out _).mono ?_
        rintro e w1 ⟨rfl, hb⟩
        go_wp2_with fail
        refine (H34.out _).mono ?_
        rintro e w2 ⟨rfl, hb2⟩
        go_wp2_with fail
        go_ret
        exact ⟨by rw [hR.out]; rfl, hb.trans (hb2.mono hb.size)⟩
      | false =>
        have hR := Lib.hid SN
        clear SN
        go_enter Tryd.func7, Tryd.ntmps7
        go_wp2_with fail
        refine (H13.out _).mono ?_
        rintro e w1 ⟨rfl, hb⟩
        go_wp2_with fail
        refine (H34.out _).mono ?_
        rintro e w2 ⟨rfl, hb2⟩
        have hb3 := hb.trans (hb2.mono hb.size)
        go_wp2_with fail
        refine (WT.out _).mono ?_
        rintro e w3 ⟨rfl, hb4⟩
        go_wp2_with fail
        go_ret
        exact ⟨by rw [hR.out]; rfl, hb3.trans (hb4.mono hb3.size)⟩
    have q5 : (st == 5) = false := by rw [beq_eq_false_iff_ne]; exact h5
    rw [if_neg h5] at SN
    by_cases h6 : st = 6
    · subst h6
      rw [if_pos rfl] at SN
      clear q0 h0 q1 h1 q2 h2 q3 h3 q4 h4 q5 h5
      cases b39 with
      | true =>
        have hR := Lib.hid SN
        clear SN
        go_enter Tryd.func7, Tryd.ntmps7
        go_wp2_with fail
        refine (H13.out _).mono ?_
        rintro e w1 ⟨rfl, hb⟩
        go_wp2_with fail
        refine (H39.out _).mono ?_
        rintro e w2 ⟨rfl, hb2⟩
        go_wp2_with fail
        go_ret
        exact ⟨by rw [hR.out]; rfl, hb.trans (hb2.mono hb.size)⟩
      | false =>
        have hR := Lib.hid SN
        clear SN
        go_enter Tryd.func7, Tryd.ntmps7
        go_wp2_with fail
        refine (H13.out _).mono ?_
        rintro e w1 ⟨rfl, hb⟩
        go_wp2_with fail
        refine (H39.out _).mono ?_
        rintro e w2 ⟨rfl, hb2⟩
        have hb3 := hb.trans (hb2.mono hb.size)
        go_wp2_with fail
        refine (WT.out _).mono ?_
        rintro e w3 ⟨rfl, hb4⟩
        go_wp2_with fail
        go_ret
        exact ⟨by rw [hR.out]; rfl, hb3.trans (hb4.mono hb3.size)⟩
    have q6 : (st == 6) = false := by rw [beq_eq_false_iff_ne]; exact h6
    rw [if_neg h6] at SN
    have hR := Lib.hid SN
    clear SN h0 h1 h2 h3 h4 h5 h6
    go_enter Tryd.func7, Tryd.ntmps7
    go_wp2_with fail
    refine (H13.out _).mono ?_
    rintro e w1 ⟨rfl, hb⟩
    go_wp2_with fail
    go_ret
    exact ⟨by rw [hR.out]; rfl, hb⟩
end Go.Proofs.YtdheknlnhfegnaaDoor.Hand

namespace Go.Proofs.YtdheknlnhfegnaaDoor.Hand
open Go Go.RowKit Go.Proofs.YtdheknlnhfegnaaDoor.Pl Go.Proofs.YtdheknlnhfegnaaDoor.Pb Go.Proofs.YtdheknlnhfegnaaDoor.Sd Go.Proofs.YtdheknlnhfegnaaDoorW.PrintWords

theorem wh_name (attr : Bool) {k : List UInt8} (hk : isKey namesL k) : whL attr (97 :: 38 :: (k ++ [32, 98])) = (k.getLast? == some 59) := by
  have hl : lngN (k ++ [32, 98]) = k.length := lng_stop (c := 32) (r := [98]) hk (.inl ⟨by decide, by decide⟩)
  have hn : numL (k ++ [32, 98]) = none := num_letter hk
  have hne : k ≠ [] := (key_facts hk).pos
  have hp := List.length_pos_iff.2 hne
  have h2 : (refN attr (38 :: (k ++ [32, 98]))).2 = k.length + 1 := by
    unfold refN
    rw [List.drop_succ_cons, List.drop_zero, hn]
    simp only [hl]
    split <;> simp only <;> omega
  rw [whL_ne attr _ (by decide), whL_amp, h2]
  have e1 : (38 :: (k ++ [32, 98]))[k.length + 1 - 1]? = k.getLast? := by
    rw [show k.length + 1 - 1 = (k.length - 1) + 1 by omega, List.getElem?_cons_succ, List.getElem?_append_left (by omega), List.getLast?_eq_getElem?]
  have e2 : (38 :: (k ++ [32, 98])).drop (k.length + 1) = [32, 98] := by rw [List.drop_succ_cons, List.drop_left]
  rw [e1, e2, whL_no (by decide), Bool.and_true]
theorem val_digits : ∀ (ds : List UInt8) (n : Nat), (∀ c ∈ ds, isDg false c = true) → ∃ m, valR 10 n ds = some m := by
  intro ds
  induction ds with
  | nil => intro n _; exact ⟨n, rfl⟩
  | cons c r ih =>
    intro n h
    have hc := h c (by simp)
    have : ∀ x : Fin 256, isDg false (UInt8.ofNat x.val) = true → 0 ≤ hexV (UInt8.ofNat x.val) ∧ hexV (UInt8.ofNat x.val) < 10 := by decide +kernel
    have g := this ⟨c.toNat, c.toNat_lt⟩
    simp only [UInt8.ofNat_toNat] at g
    obtain ⟨g1, g2⟩ := g hc
    rw [valR, if_neg (by omega)]
    exact ih _ (fun d hd => h d (by simp [hd]))
theorem valL_digits {ds : List UInt8} (h : ∀ c ∈ ds, isDg false c = true) (h0 : ds ≠ []) : ∃ m : Nat, valL 10 ds = m := by
  obtain ⟨m, hm⟩ := val_digits ds 0 h
  exact ⟨m, by unfold valL; rw [if_neg h0, hm]; rfl⟩
theorem head_dg {ds t : List UInt8} (h : ∀ c ∈ ds, isDg false c = true) (h0 : ds ≠ []) : begR (ds ++ t) [120] = false := by
  cases ds with
  | nil => exact absurd rfl h0
  | cons c ds =>
    have hc := h c (by simp)
    have : ∀ n : Fin 256, isDg false (UInt8.ofNat n.val) = true → (lowB (UInt8.ofNat n.val) == 120) = false := by decide +kernel
    have g := this ⟨c.toNat, c.toNat_lt⟩
    simp only [UInt8.ofNat_toNat] at g
    simp [begR, g hc]
/-- digits with no semicolon -/
theorem num_bare {ds t : List UInt8} (h : ∀ c ∈ ds, isDg false c = true) (h0 : ds ≠ []) (ht : t = [] ∨ ∃ r, t = 32 :: r) : ∃ m, numL (35 :: (ds ++ t)) = some (m, ds.length + 1) := by
  obtain ⟨m, hm⟩ := valL_digits h h0
  have hd : digs false (ds ++ t) = ds := by
    unfold digs
    rw [tw_app _ _ _ h]
    rcases ht with rfl | ⟨r, rfl⟩
    · simp
    · rw [List.takeWhile_cons, if_neg (by decide), List.append_nil]
  have hb : begR ((ds ++ t).drop ds.length) [59] = false := by
    rw [List.drop_left]
    rcases ht with rfl | ⟨r, rfl⟩
    · rfl
    · simp [begR, lowB]
  refine ⟨m, ?_⟩
  unfold numL
  rw [show begR (35 :: (ds ++ t)) [35] = true by simp [begR, lowB], if_pos rfl, List.drop_succ_cons, List.drop_zero, head_dg h h0, if_neg (by decide)]
  unfold numQ
  simp only [hd]
  rw [show baseN false = 10 from rfl, hm, if_neg (by omega), hb]
  simp
theorem wh_bare (attr : Bool) {ds t : List UInt8} (h : ∀ c ∈ ds, isDg false c = true) (h0 : ds ≠ []) (ht : t = [] ∨ ∃ r, t = 32 :: r) : whL attr (38 :: 35 :: (ds ++ t)) = false := by
  obtain ⟨m, hm⟩ := num_bare h h0 ht
  have h2 : (refN attr (38 :: 35 :: (ds ++ t))).2 = ds.length + 2 := by
    unfold refN
    rw [List.drop_succ_cons, List.drop_zero, hm]
    simp only; omega
  have hp := List.length_pos_iff.2 h0
  rw [whL_amp, h2, show ds.length + 2 - 1 = (ds.length - 1) + 1 + 1 by omega, List.getElem?_cons_succ, List.getElem?_cons_succ, List.getElem?_append_left (by omega), List.getElem?_eq_getElem (by omega)]
  have hl := h _ (List.getElem_mem (show ds.length - 1 < ds.length by omega))
  have : (some (ds[ds.length - 1]'(by omega)) == some (59 : UInt8)) = false := by
    rw [beq_eq_false_iff_ne]
    intro e
    rw [Option.some.inj e] at hl
    exact absurd hl (by decide)
  rw [this]; rfl
theorem wh_two (attr : Bool) {ds : List UInt8} (h : ∀ c ∈ ds, isDg false c = true) (h0 : ds ≠ []) : whL attr (38 :: 35 :: (ds ++ 59 :: 38 :: 35 :: (ds ++ [59]))) = true := by
  obtain ⟨m, hm⟩ := valL_digits h h0
  rw [whL_dec ds _ h h0 hm, whL_dec ds _ h h0 hm, whL_nil]
/-- a number's digits -/
theorem dec_f : ∀ n : Nat, n ≤ 4294967295 → ∃ ds : List UInt8, ds ≠ [] ∧ (∀ j, 1 ≤ j → n < 10 ^ j → ds.length ≤ j) ∧ (∀ c ∈ ds, isDg false c = true) ∧ ∀ k, flailref01_Decimal.f (n + 1 + k) (n : Int) = some (B ds) := by
  intro n
  induction n using Nat.strongRecOn with
  | _ n ih =>
    intro hn
    have hmod : Int.tmod (n : Int) 10 = ((n % 10 : Nat) : Int) := by rw [Int.tmod_eq_emod_of_nonneg (by omega)]; rfl
    have hdiv : Int.tdiv (n : Int) 10 = ((n / 10 : Nat) : Int) := by rw [Int.tdiv_eq_ediv_of_nonneg (by omega)]; rfl
    have hw : (wrap64 (48 + ((n % 10 : Nat) : Int))) % 256 = ((48 + n % 10 : Nat) : Int) := by unfold wrap64; omega
    have hs : strOfNums [((48 + n % 10 : Nat) : Int)] = B [UInt8.ofNat (48 + n % 10)] := by
      unfold strOfNums B
      rw [List.map_cons, List.map_nil, Int.toNat_natCast]
    have hdg : isDg false (UInt8.ofNat (48 + n % 10)) = true := by
      have : ∀ x : Fin 10, isDg false (UInt8.ofNat (48 + x.val)) = true := by decide
      exact this ⟨n % 10, Nat.mod_lt _ (by decide)⟩
    by_cases h : n < 10
    · refine ⟨[UInt8.ofNat (48 + n % 10)], by simp, fun j hj _ => by simpa using hj, by simpa using hdg, fun k => ?_⟩
      rw [show n + 1 + k = (n + k) + 1 by omega, flailref01_Decimal.f, hmod, hw, Option.bind_some, if_pos (by omega), hs]
    · obtain ⟨ds, d0, dl, dd, df⟩ := ih (n / 10) (by omega) (by omega)
      have d10 := dl 10 (by decide) (by omega)
      refine ⟨ds ++ [UInt8.ofNat (48 + n % 10)], by simp, fun j hj hnj => ?_, ?_, fun k => ?_⟩
      · obtain ⟨i, rfl⟩ : ∃ i, j = i + 1 := ⟨j - 1, by omega⟩
        rw [Nat.pow_succ] at hnj
        rcases Nat.eq_zero_or_pos i with h0 | h0
        · subst h0; simp at hnj; omega
        · have := dl i h0 (by omega)
          simp; omega
      · intro c hc
        rcases List.mem_append.1 hc with hc | hc
        · exact dd c hc
        · rw [List.mem_singleton.1 hc]; exact hdg
      · have hk := df (n + k - (n / 10 + 1))
        rw [show n / 10 + 1 + (n + k - (n / 10 + 1)) = n + k by omega] at hk
        have hwd : wrap64 ((n / 10 : Nat) : Int) = ((n / 10 : Nat) : Int) := by unfold wrap64; omega
        rw [show n + 1 + k = (n + k) + 1 by omega, flailref01_Decimal.f, hmod, hw, Option.bind_some, if_neg (by omega), hdiv, hwd, hk, Option.bind_some, hs, if_pos (by rw [size_B, size_B]; simp; omega), B_append]
theorem decimal_c (n : Nat) (hn : n ≤ 4294967295) : ∃ ds : List UInt8, ds ≠ [] ∧ ds.length ≤ 10 ∧ (∀ c ∈ ds, isDg false c = true) ∧ ∀ w, Calls Tryd.prog 13 #[.int .i64 (n : Int)] w fun e w' => e = .returned (.string (B ds)) ∧ Below w.heap.size w w' := by
  obtain ⟨ds, h1, h2, h3, h4⟩ := dec_f n hn
  exact ⟨ds, h1, h2 10 (by decide) (by omega), h3, fun w => flailref01_Decimal.calls _ _ _ w (h4 0)⟩
end Go.Proofs.YtdheknlnhfegnaaDoor.Hand

namespace Go.Proofs.YtdheknlnhfegnaaDoor.Hand
open Go Go.RowKit Go.Proofs.YtdheknlnhfegnaaDoor.Pl Go.Proofs.YtdheknlnhfegnaaDoor.Pb

def cnt10 : List UInt8 → Nat
  | [] => 0
  | c :: r => (if c = 10 then 1 else 0) + cnt10 r
theorem cnt10_le : ∀ l : List UInt8, cnt10 l ≤ l.length
  | [] => Nat.le_refl _
  | c :: r => by have := cnt10_le r; simp only [cnt10, List.length_cons]; split <;> omega
/-- where a row begins: its key is what stands ahead of the first blank -/
theorem key_at {p e : Nat} (hp : St namesL p) (h1 : p ≤ e) (h2 : e ≤ namesL.length) (hno : ∀ j, p ≤ j → j < e → namesL[j]? ≠ some 32) (hend : e = namesL.length ∨ namesL[e]? = some 32) :
    (namesL.take e).drop p = kyT namesL p := by
  obtain ⟨q, g1, _, g3⟩ := names_tab.row p hp
  have hd : ∃ t, namesL.drop p = kyT namesL p ++ 32 :: t := by
    have e := List.takeWhile_append_dropWhile (p := fun c : UInt8 => c != 10) (l := namesL.drop p)
    change lnT namesL p ++ _ = _ at e
    rw [g1] at e
    exact ⟨_, by rw [← e, List.append_assoc]; rfl⟩
  obtain ⟨t, ht⟩ := hd
  obtain ⟨K, hK⟩ : ∃ K, kyT namesL p = K := ⟨_, rfl⟩
  rw [hK] at ht g3 ⊢
  have hlen := congrArg List.length ht
  rw [List.length_drop, List.length_append, List.length_cons] at hlen
  have at_ : ∀ j, namesL[p + j]? = (K ++ 32 :: t)[j]? := fun j => by rw [← ht, List.getElem?_drop]
  have hb : namesL[p + K.length]? = some 32 := by rw [at_, List.getElem?_append_right (Nat.le_refl _), Nat.sub_self]; rfl
  have he : e = p + K.length := by
    rcases Nat.lt_trichotomy e (p + K.length) with h | h | h
    · exfalso
      rcases hend with h' | h'
      · omega
      · obtain ⟨j, rfl⟩ : ∃ j, e = p + j := ⟨e - p, by omega⟩
        rw [at_, List.getElem?_append_left (by omega), List.getElem?_eq_getElem (by omega)] at h'
        exact (g3 _ (List.getElem_mem _)).2 (Option.some.inj h')
    · exact h
    · exact absurd hb (hno _ (by omega) h)
  rw [List.drop_take, ht, he, show p + K.length - p = K.length by omega, List.take_left]
set_option maxRecDepth 1000000 in
set_option maxHeartbeats 4000000 in
theorem nth_c (n : Nat) (hn : n ≤ 100000) (w : World) :
    Calls Tryd.prog 12 #[.int .i64 (n : Int)] w fun e w' => (∃ k, isKey namesL k ∧ e = .returned (.string (B k))) ∧ Below w.heap.size w w' := by
  have hNS : namesB.size ≤ 1000000 := of_decide_eq_true names_size
  have KA : ∀ p e, St namesL p → p ≤ e → e ≤ namesB.size → (∀ j, p ≤ j → j < e → namesL[j]? ≠ some 32) → (e = namesB.size ∨ namesL[e]? = some 32) → ∃ k, isKey namesL k ∧ namesB.extract p e = B k := by
    intro p e h1 h2 h3 h4 h5
    have hT : namesB = B namesL := B_of _
    have hl : namesB.size = namesL.length := by rw [hT, size_B]
    rw [hl] at h3 h5
    exact ⟨kyT namesL p, ⟨p, h1, rfl⟩, by rw [hT, B_extract, key_at h1 h2 h3 h4 h5]⟩
  have INS : ¬ St namesL namesB.size := fun h => by
    have := names_tab.inside _ h
    have hl : namesB.size = namesL.length := by rw [show namesB = B namesL from B_of _, size_B]
    omega
  have BY : ∀ i (h : i < namesB.size), namesL[i]? = some namesB[i] := fun i h => by
    have h' : i < namesL.length := by rw [show namesL = namesB.data.toList from rfl, Array.length_toList]; exact h
    rw [List.getElem?_eq_getElem h']; rfl
  refine calls_of_wp Tryd.func12 rfl ?_
  generalize hN : ByteArray.mk (List.toArray (List.append _ _)) = N
  have hN2 : N = namesB := hN.symm.trans rfl
  clear hN
  rw [← hN2] at KA INS BY hNS
  have HKA := Lib.hid KA
  have HINS := Lib.hid INS
  have HBY := Lib.hid BY
  have HDR : Hid (∀ i (h : i < N.size), namesL.drop i = N[i] :: namesL.drop (i + 1)) := Lib.hid (by rw [hN2]; exact fun i h => drop_cons namesB i h)
  have HEND : Hid (namesL.drop N.size = []) := Lib.hid (by rw [hN2]; exact List.drop_eq_nil_of_le (by rw [show namesL = namesB.data.toList from rfl, Array.length_toList]; exact Nat.le_refl _))
  clear hN2 KA INS BY
  simp only [Tryd.ntmps12, List.size_toArray, List.length_cons, List.length_nil, Nat.reduceAdd, Nat.reduceSub, Array.replicate_succ, Array.replicate_zero, List.push_toArray, List.append_toArray, List.nil_append, List.cons_append]
  obtain ⟨M, hM⟩ : ∃ M, 1 + cnt10 (namesL.drop 0) = M := ⟨_, rfl⟩
  have HM := Lib.hid hM
  clear hM
  go_wp2_with fail
  go_loopw [3, 5] (fun v3 v wx => ∃ m i : Nat, v3 = .int .i64 (m : Int) ∧ v = .int .i64 (i : Int) ∧ i ≤ N.size ∧ 1 ≤ m ∧ m ≤ i + 1 ∧ Hid (Below w.heap.size w wx) ∧ Hid (m + cnt10 (namesL.drop i) = M)) (fun _ v _ => N.size - (intOf v).toNat)
  case atStart => exact ⟨1, 0, rfl, rfl, Nat.zero_le _, Nat.le_refl _, Nat.le_refl _, Lib.hid (Below.refl _ _), HM⟩
  case round =>
    obtain ⟨m, i, rfl, rfl, hi, hm1, hm2, HW, HC⟩ := hrel
    by_cases hlt : i < N.size
    · have hd := HDR.out i hlt
      have hC := HC.out
      rw [hd, cnt10] at hC
      by_cases h10 : N[i] = 10
      · have q1 : (((N[i].toNat : Nat) : Int) == 10) = true := by rw [h10]; rfl
        rw [if_pos h10] at hC
        have HC2 : Hid (m + 1 + cnt10 (namesL.drop (i + 1)) = M) := Lib.hid (by omega)
        clear h10 hd hC HC
        go_wp2_with fail
        go_roundw
        case rel => exact ⟨m + 1, i + 1, by go_num, by go_num, by omega, by omega, by omega, HW, HC2⟩
        case measure => simp [intOf]; omega
      · have q1 : (((N[i].toNat : Nat) : Int) == 10) = false := by rw [beq_eq_false_iff_ne]; intro e; exact h10 (UInt8.toNat_inj.1 (show N[i].toNat = 10 by omega))
        rw [if_neg h10] at hC
        have HC2 : Hid (m + cnt10 (namesL.drop (i + 1)) = M) := Lib.hid (by omega)
        clear h10 hd hC HC
        go_wp2_with fail
        go_roundw
        case rel => exact ⟨m, i + 1, rfl, by go_num, by omega, by omega, by omega, HW, HC2⟩
        case measure => simp [intOf]; omega
    · obtain rfl : i = N.size := by omega
      have hmM : m = M := by have := HC.out; rw [HEND.out, cnt10] at this; omega
      subst hmM
      have hm0 : ((m : Int) == 0) = false := by rw [beq_eq_false_iff_ne]; omega
      have hmod : Int.tmod (n : Int) (m : Int) = ((n % m : Nat) : Int) := by rw [Int.tmod_eq_emod_of_nonneg (by omega)]; rfl
      have hk0 : n % m ≤ cnt10 (namesL.drop 0) := by have := Nat.mod_lt n (show 0 < m by omega); have := HM.out; omega
      obtain ⟨k0, hk0e⟩ : ∃ k, n % m = k := ⟨_, rfl⟩
      rw [hk0e] at hmod hk0
      have HK0 := Lib.hid hk0
      have hm00 : (m : Int) ≠ 0 := by omega
      clear hk0 hk0e HC
      go_wp2_with fail
      go_loopw [6, 7] (fun v6 v wx => ∃ k i : Nat, v6 = .int .i64 (k : Int) ∧ v = .int .i64 (i : Int) ∧ i ≤ N.size ∧ Hid (Below w.heap.size w wx) ∧ Hid (k ≤ cnt10 (namesL.drop i)) ∧ Hid (k = 0 → St namesL i)) (fun _ v _ => N.size - (intOf v).toNat)
      case atStart => exact ⟨k0, 0, by first | rfl | rw [hmod], rfl, Nat.zero_le _, HW, HK0, Lib.hid (fun _ => .inl rfl)⟩
      case round =>
        obtain ⟨k, i, rfl, rfl, hi, HW, HC, HS⟩ := hrel
        by_cases hlt : i < N.size
        · have hd := HDR.out i hlt
          have hC := HC.out
          rw [hd, cnt10] at hC
          by_cases hk : k = 0
          · have q0 : ((k : Int) == 0) = true := by rw [hk]; rfl
            have HSt := Lib.hid (HS.out hk)
            clear hk hd hC HC HS
            go_wp2_with fail
            go_loopw [8] (fun v wx => ∃ e : Nat, v = .int .i64 (e : Int) ∧ i ≤ e ∧ e ≤ N.size ∧ Hid (Below w.heap.size w wx) ∧ Hid (∀ j, i ≤ j → j < e → namesL[j]? ≠ some 32)) (fun v _ => N.size - (intOf v).toNat)
            case atStart => exact ⟨i, rfl, Nat.le_refl _, hi, HW, Lib.hid (fun j h1 h2 => by omega)⟩
            case round =>
              obtain ⟨e, rfl, he1, he2, HW, HNo⟩ := hrel
              by_cases hlt2 : e < N.size
              · by_cases h32 : N[e] = 32
                · have q1 : (((N[e].toNat : Nat) : Int) == 32) = true := by rw [h32]; rfl
                  have HX := Lib.hid (HKA.out i e HSt.out he1 he2 HNo.out (.inr (by rw [HBY.out e hlt2, h32])))
                  clear h32
                  go_wp2_with fail
                  go_ret
                  obtain ⟨kk, k1, k2⟩ := HX.out
                  exact ⟨⟨kk, k1, by rw [← k2]; rfl⟩, HW.out⟩
                · have q1 : (((N[e].toNat : Nat) : Int) == 32) = false := by rw [beq_eq_false_iff_ne]; intro x; exact h32 (UInt8.toNat_inj.1 (show N[e].toNat = 32 by omega))
                  have HN2 : Hid (∀ j, i ≤ j → j < e + 1 → namesL[j]? ≠ some 32) := Lib.hid (fun j h1 h2 => by
                    by_cases hj : j = e
                    · subst hj; rw [HBY.out j hlt2]; intro x; exact h32 (Option.some.inj x)
                    · exact HNo.out j h1 (by omega))
                  clear h32
                  go_wp2_with fail
                  go_roundw
                  case rel => exact ⟨e + 1, by go_num, by omega, by omega, HW, HN2⟩
                  case measure => simp [intOf]; omega
              · obtain rfl : e = N.size := by omega
                have HX := Lib.hid (HKA.out i N.size HSt.out he1 he2 HNo.out (.inl rfl))
                go_wp2_with fail
                go_ret
                obtain ⟨kk, k1, k2⟩ := HX.out
                exact ⟨⟨kk, k1, by rw [← k2]; rfl⟩, HW.out⟩
          · have q0 : ((k : Int) == 0) = false := by rw [beq_eq_false_iff_ne]; omega
            have hkb : k ≤ 1000000 := by
              have h1 := cnt10_le (namesL.drop i)
              have h2 := List.drop_eq_nil_iff.1 HEND.out
              rw [List.length_drop] at h1
              have := HC.out
              omega
            have hk1 : wrap64 ((k : Int) - 1) = ((k - 1 : Nat) : Int) := by unfold wrap64; omega
            by_cases h10 : N[i] = 10
            · have q1 : (((N[i].toNat : Nat) : Int) == 10) = true := by rw [h10]; rfl
              rw [if_pos h10] at hC
              have HC2 : Hid (k - 1 ≤ cnt10 (namesL.drop (i + 1))) := Lib.hid (by omega)
              have HS2 : Hid (k - 1 = 0 → St namesL (i + 1)) := Lib.hid (fun _ => .inr ⟨i, rfl, by rw [HBY.out i hlt, h10]⟩)
              clear h10 hd hC HC HS
              go_wp2_with fail
              go_roundw
              case rel => exact ⟨k - 1, i + 1, by first | rfl | rw [hk1] | (congr 1; omega), by go_num, by omega, HW, HC2, HS2⟩
              case measure => simp [intOf]; omega
            · have q1 : (((N[i].toNat : Nat) : Int) == 10) = false := by rw [beq_eq_false_iff_ne]; intro e; exact h10 (UInt8.toNat_inj.1 (show N[i].toNat = 10 by omega))
              rw [if_neg h10] at hC
              have HC2 : Hid (k ≤ cnt10 (namesL.drop (i + 1))) := Lib.hid (by omega)
              have HS2 : Hid (k = 0 → St namesL (i + 1)) := Lib.hid (fun h => absurd h hk)
              clear h10 hd hC HC HS
              go_wp2_with fail
              go_roundw
              case rel => exact ⟨k, i + 1, rfl, by go_num, by omega, HW, HC2, HS2⟩
              case measure => simp [intOf]; omega
        · obtain rfl : i = N.size := by omega
          exfalso
          have hC := HC.out
          rw [HEND.out, cnt10] at hC
          exact HINS.out (HS.out (by omega))
end Go.Proofs.YtdheknlnhfegnaaDoor.Hand

namespace Go.Proofs.YtdheknlnhfegnaaDoor.Hand
open Go Go.RowKit Go.Proofs.YtdheknlnhfegnaaDoor.Pl Go.Proofs.YtdheknlnhfegnaaDoor.Pb

theorem int_wf {k : IntKind} {d : Int} (h : (Lit.int k d).wf = true) : k.min ≤ d ∧ d ≤ k.max := by simpa [Lit.wf] using h
/-- a later world -/
def Lv (w W : World) : Prop := Glob W ∧ GlobE W ∧ Below w.heap.size w W
theorem Lv.start {w : World} (h1 : Glob w) (h2 : GlobE w) : Lv w w := ⟨h1, h2, Below.refl _ _⟩
theorem Lv.call {w W W' : World} (h : Lv w W) (hb : Below W.heap.size W W') : Lv w W' := ⟨h.1.step hb, h.2.1.step hb, h.2.2.trans (hb.mono h.2.2.size)⟩
theorem Lv.drew {w W : World} (h : Lv w W) : Lv w W.drew := h.call (below_drewN (w := W) 1)
def isX (X1 X2 X3 X4 X : ByteArray) : Prop := X = X1 ∨ X = X2 ∨ X = X3 ∨ X = X4
theorem isX.x1 {a b c d : ByteArray} : isX a b c d a := .inl rfl
theorem isX.x2 {a b c d : ByteArray} : isX a b c d b := .inr (.inl rfl)
theorem isX.x3 {a b c d : ByteArray} : isX a b c d c := .inr (.inr (.inl rfl))
theorem isX.x4 {a b c d : ByteArray} : isX a b c d d := .inr (.inr (.inr rfl))
set_option maxRecDepth 100000 in
set_option maxHeartbeats 8000000 in
theorem refs_in (n m : Nat) (attr : Bool) (w : World) (n2 : n ≤ 65535) (m2 : m ≤ 4294967295) (hGl : Glob w) (hGE : GlobE w) (D : ByteArray) (G : ByteArray → Bool) (zD : D.size ≤ 10)
    (NT : Hid (∀ W, Calls Tryd.prog 12 #[.int .i64 (n : Int)] W fun e w' => (∃ K : ByteArray, ∃ b : Bool, (∃ L : Nat, ∃ h : L < K.size, K.size = L + 1 ∧ L ≤ 31 ∧ ((((K[L]'h).toNat : Nat) : Int) == 59) = b) ∧ G (⟨#[97, 38]⟩ ++ K ++ ⟨#[32, 98]⟩) = b ∧ e = .returned (.string K) ∧
      (∀ X, isX (⟨#[97, 38]⟩ ++ K ++ ⟨#[32, 98]⟩) (⟨#[38, 35]⟩ ++ D ++ ⟨#[59]⟩ ++ (⟨#[38, 35]⟩ ++ D) ++ ⟨#[59]⟩) (⟨#[38, 35]⟩ ++ D) (⟨#[38, 35]⟩ ++ D ++ ⟨#[32, 59]⟩) X → ∀ W, Lv w W → Calls Tryd.prog 8 #[.string X, .bool attr] W fun e w' => e = .returned (.bool (G X)) ∧ Below W.heap.size W w')) ∧ Below W.heap.size W w'))
    (DC : Hid (∀ W, Calls Tryd.prog 13 #[.int .i64 (m : Int)] W fun e w' => e = .returned (.string D) ∧ Below W.heap.size W w'))
    (g1 : G (⟨#[38, 35]⟩ ++ D ++ ⟨#[59]⟩ ++ (⟨#[38, 35]⟩ ++ D) ++ ⟨#[59]⟩) = true) (g2 : G (⟨#[38, 35]⟩ ++ D) = false) (g3 : G (⟨#[38, 35]⟩ ++ D ++ ⟨#[32, 59]⟩) = false) :
    Calls Tryd.prog 5 #[.int .u16 (n : Int), .int .u32 (m : Int), .bool attr] w fun e w' => e = .returned (.bool true) ∧ Below w.heap.size w w' := by
  have HL := Lib.hid (Lv.start hGl hGE)
  clear hGl hGE
  go_enter Tryd.func5, Tryd.ntmps5
  go_wp2_with fail
  refine (awake25_any _ HL.out.1 HL.out.2.1).mono ?_
  rintro e w1 ⟨rfl, hb⟩
  replace HL := Lib.hid (HL.out.call hb)
  clear hb
  go_wp2_with fail
  refine (NT.out _).mono ?_
  rintro e w2 ⟨⟨K, b, ⟨L, hi0, hKL, hz1, hlast⟩, g4, rfl, CC⟩, hb⟩
  replace HL := Lib.hid (HL.out.call hb)
  have HC := Lib.hid CC
  have q1 : ((K.size : Int) == 0) = false := by rw [beq_eq_false_iff_ne]; omega
  have hw : wrap64 ((L : Int) + 1 - 1) = (L : Int) := by unfold wrap64; omega
  have i1 : (L : Int) < (K.size : Int) := by omega
  have i2 : (0 : Int) ≤ (L : Int) := by omega
  have i3 : (L : Int) < (L : Int) + 1 := by omega
  have i4 : (K.size : Int) - 1 = (L : Int) := by omega
  have i5 : 0 < K.size := by omega
  have i6 : K.size ≤ 32 := by omega
  have j1 : ¬ 9223372036854775807 < 2 + K.size := by omega
  have j2 : ¬ 9223372036854775807 < 2 + K.size + 2 := by omega
  have j3 : ¬ 9223372036854775807 < 2 + D.size + 1 := by omega
  have j4 : ¬ 9223372036854775807 < 2 + D.size + 1 + (2 + D.size) := by omega
  have j5 : ¬ 9223372036854775807 < 2 + D.size + 1 + (2 + D.size) + 1 := by omega
  have j6 : ¬ 9223372036854775807 < 2 + D.size + 2 := by omega
  have i7 : IntKind.i64.wrap (L : Int) = (L : Int) := by simp [IntKind.wrap_i64]; omega
  clear hKL hw
  clear hb CC
  go_wp2_with fail
  refine (DC.out _).mono ?_
  rintro e w3 ⟨rfl, hb⟩
  replace HL := Lib.hid (HL.out.call hb)
  clear hb
  have q2 : (b == b) = true := beq_self_eq_true b
  have HS := Lv.drew HL.out
  go_wp2_with fail
  have H4 : Hid (∀ W, Lv w W → Calls Tryd.prog 8 #[.string (⟨#[97, 38]⟩ ++ K ++ ⟨#[32, 98]⟩), .bool attr] W fun e w' => e = .returned (.bool b) ∧ Below W.heap.size W w') := Lib.hid (fun W hW => by rw [← g4]; exact HC.out _ isX.x1 W hW)
  have H1 : Hid (∀ W, Lv w W → Calls Tryd.prog 8 #[.string (⟨#[38, 35]⟩ ++ D ++ ⟨#[59]⟩ ++ (⟨#[38, 35]⟩ ++ D) ++ ⟨#[59]⟩), .bool attr] W fun e w' => e = .returned (.bool true) ∧ Below W.heap.size W w') := Lib.hid (fun W hW => by rw [← g1]; exact HC.out _ isX.x2 W hW)
  have H2 : Hid (∀ W, Lv w W → Calls Tryd.prog 8 #[.string (⟨#[38, 35]⟩ ++ D), .bool attr] W fun e w' => e = .returned (.bool false) ∧ Below W.heap.size W w') := Lib.hid (fun W hW => by rw [← g2]; exact HC.out _ isX.x3 W hW)
  have H3 : Hid (∀ W, Lv w W → Calls Tryd.prog 8 #[.string (⟨#[38, 35]⟩ ++ D ++ ⟨#[32, 59]⟩), .bool attr] W fun e w' => e = .returned (.bool false) ∧ Below W.heap.size W w') := Lib.hid (fun W hW => by rw [← g3]; exact HC.out _ isX.x4 W hW)
  clear g1 g2 g3 g4 HC
  go_region_held3 (fun W => Lv w W) (first | with_reducible assumption | with_reducible exact HS | exact Lv.call (by with_reducible assumption) (by with_reducible assumption)) (first | (go_at_call 8; with_reducible refine (H4.out _ (by assumption)).mono ?_; rintro e w' ⟨rfl, hb⟩) | (go_at_call 8; with_reducible refine (H1.out _ (by assumption)).mono ?_; rintro e w' ⟨rfl, hb⟩) | (go_at_call 8; with_reducible refine (H2.out _ (by assumption)).mono ?_; rintro e w' ⟨rfl, hb⟩) | (go_at_call 8; with_reducible refine (H3.out _ (by assumption)).mono ?_; rintro e w' ⟨rfl, hb⟩))
  all_goals (
    have HB : Below w.heap.size w _ := And.right (And.right (by with_reducible assumption : Lv w _))
    go_wp2_with fail
    go_ret
    exact ⟨by first | rfl | simp, HB⟩)
theorem SafeRefs_law (n m : Int) (attr : Bool) (w : World) (hn : (Lit.int .u16 n).wf = true) (hm : (Lit.int .u32 m).wf = true) (hGl : Glob w) (hGE : GlobE w) :
    Calls Tryd.prog 5 #[.int .u16 n, .int .u32 m, .bool attr] w fun e w' => e = .returned (.bool true) ∧ Below w.heap.size w w' := by
  have n1 : 0 ≤ n := Int.le_trans (by decide) (int_wf hn).1
  have n2 : n ≤ 65535 := Int.le_trans (int_wf hn).2 (by decide)
  have m1 : 0 ≤ m := Int.le_trans (by decide) (int_wf hm).1
  have m2 : m ≤ 4294967295 := Int.le_trans (int_wf hm).2 (by decide)
  obtain ⟨n, rfl⟩ := Int.eq_ofNat_of_zero_le n1
  obtain ⟨m, rfl⟩ := Int.eq_ofNat_of_zero_le m1
  obtain ⟨ds, d0, dl, dd, dc⟩ := decimal_c m (by omega)
  obtain ⟨G, hG⟩ : ∃ G : ByteArray → Bool, ∀ l, G (B l) = whL attr l := ⟨fun X => whL attr X.data.toList, fun l => by show whL attr (B l).data.toList = _; rw [B_data]⟩
  have CALL : ∀ l : List UInt8, l.length ≤ 100 → ∀ W, Lv w W → Calls Tryd.prog 8 #[.string (B l), .bool attr] W fun e w' => e = .returned (.bool (G (B l))) ∧ Below W.heap.size W w' := fun l hl W hW => by
    rw [hG]; exact wholeN_c l attr (by omega) W hW.1 hW.2.1
  have f1 := wh_two attr dd d0
  have f2 := wh_bare attr (t := []) dd d0 (.inl rfl)
  have f3 := wh_bare attr (t := [32, 59]) dd d0 (.inr ⟨_, rfl⟩)
  rw [List.append_nil] at f2
  have c59 : (⟨#[59]⟩ : ByteArray) = B [59] := rfl
  have e1 : (⟨#[38, 35]⟩ : ByteArray) ++ B ds ++ ⟨#[59]⟩ ++ (⟨#[38, 35]⟩ ++ B ds) ++ ⟨#[59]⟩ = B (38 :: 35 :: (ds ++ 59 :: 38 :: 35 :: (ds ++ [59]))) := by
    rw [c59, show (⟨#[38, 35]⟩ : ByteArray) = B [38, 35] from rfl]; simp only [B_append]; congr 1; simp
  have e2 : (⟨#[38, 35]⟩ : ByteArray) ++ B ds = B (38 :: 35 :: ds) := by
    rw [show (⟨#[38, 35]⟩ : ByteArray) = B [38, 35] from rfl]; simp only [B_append]; rfl
  have e3 : (⟨#[38, 35]⟩ : ByteArray) ++ B ds ++ ⟨#[32, 59]⟩ = B (38 :: 35 :: (ds ++ [32, 59])) := by
    rw [show (⟨#[32, 59]⟩ : ByteArray) = B [32, 59] from rfl, show (⟨#[38, 35]⟩ : ByteArray) = B [38, 35] from rfl]; simp only [B_append]; congr 1
  refine refs_in n m attr w (by omega) (by omega) hGl hGE (B ds) G (by rw [size_B]; exact dl) (Lib.hid fun W => ?_) (Lib.hid dc) (by rw [e1, hG, f1]) (by rw [e2, hG, f2]) (by rw [e3, hG, f3])
  refine (nth_c n (by omega) W).mono ?_
  rintro e w2 ⟨⟨k, hk, rfl⟩, hb⟩
  have hf := key_facts hk
  have hkp := List.length_pos_iff.2 hf.pos
  have hkl := hf.le
  have e4 : (⟨#[97, 38]⟩ : ByteArray) ++ B k ++ ⟨#[32, 98]⟩ = B (97 :: 38 :: (k ++ [32, 98])) := by
    rw [show (⟨#[97, 38]⟩ : ByteArray) = B [97, 38] from rfl, show (⟨#[32, 98]⟩ : ByteArray) = B [32, 98] from rfl]; simp only [B_append]; congr 1
  have zK : (B k).size = k.length := size_B k
  refine ⟨⟨B k, k.getLast? == some 59, ⟨k.length - 1, by omega, by omega, by omega, ?_⟩, by rw [e4, hG, wh_name attr hk], rfl, ?_⟩, hb⟩
  · have hlt : k.length - 1 < k.length := by omega
    have key : ∀ (j : Nat) (hj : j < (B k).size), j = k.length - 1 → (B k)[j] = k[k.length - 1] := by rintro j hj rfl; rfl
    rw [List.getLast?_eq_getElem?, List.getElem?_eq_getElem hlt]
    have : (B k)[k.length - 1]'(by omega) = k[k.length - 1] := key _ _ rfl
    rw [this, Bool.eq_iff_iff, beq_iff_eq, beq_iff_eq]
    constructor
    · intro e; congr 1; exact UInt8.toNat_inj.1 (show _ = 59 by omega)
    · intro e; rw [Option.some.inj e]; rfl
  · intro X hX W hW
    rcases hX with rfl | rfl | rfl | rfl
    · rw [e4]; exact CALL _ (by simp; omega) W hW
    · rw [e1]; exact CALL _ (by simp; omega) W hW
    · rw [e2]; exact CALL _ (by simp; omega) W hW
    · rw [e3]; exact CALL _ (by simp; omega) W hW
end Go.Proofs.YtdheknlnhfegnaaDoor.Hand

namespace Go.Proofs.YtdheknlnhfegnaaDoor.RowKit
open Go

/-! What is asked of the program alone, each once. -/
def R : OpenClaim := Rows.safeTellsRow
theorem p2 : laidOutB Tryd.prog = true := by kernel_rfl
theorem p3 : mapsRowed Tryd.prog = true := by kernel_rfl
theorem p7 : (Tryd.prog.stops == []) = true := by kernel_rfl
theorem p9 : (Tryd.prog.stopKnobs == []) = true := by kernel_rfl
theorem p23 : (R.plainKeys == Tryd.prog.plainKeys) = true := by kernel_rfl
theorem p25 : Tryd.prog.stopsHeard = true := by kernel_rfl
theorem p26 : Tryd.prog.mayEnter = true := by kernel_rfl
theorem p27 : (R.lifted == Tryd.prog.liftsFinal) = true := by kernel_rfl
theorem p28 : (Tryd.prog.make == some R.make) = true := by kernel_rfl
theorem looks_is : Tryd.prog.looks [] = Rows.safeTellsCard.stood.looks := by kernel_rfl
theorem main_is : Tryd.prog.mainIs = some (Rows.safeTellsCard.stood.harness.1, Rows.safeTellsCard.stood.harness.2.toList) := by kernel_rfl
end Go.Proofs.YtdheknlnhfegnaaDoor.RowKit

namespace Go.Proofs.YtdheknlnhfegnaaDoor.RowKit
open Go Go.RowKit


theorem out_of_shape {W : World} (h : W.ShapedOpen Tryd.prog) : ∃ m, W.cell? ⟨0, 0, none⟩ = some (.int .i64 m) :=
  Go.Proofs.cell_of_shapedOpen_int (zero := #[.int .i64 0]) (t := 3) h (of_decide_eq_true (by kernel_rfl)) (by kernel_rfl) rfl (by kernel_rfl) (by kernel_rfl) Tryd.underlying3
theorem laid_mem {P : Program} {w : World} {n : String} {d : DataW Unit} : ∀ {l : List (String × DataW Unit)} {ps : List MemPlace}, DataW.LaidVars P w l ps → (n, d) ∈ l →
    ∃ g t cs fuel p, P.globalNamed n = some g ∧ (P.globals[g]?).map (·.type) = some t ∧ w.var? P n = some cs ∧ DataW.trod (fun _ => ()) P w 0 (fun _ => true) false fuel t cs.toList = some (d, p)
  | [], _, _, hm => by cases hm
  | (m, e) :: r, ps, h, hm => by
    obtain ⟨g, t, cs, fuel, p, q, h1, h2, h3, h4, h5, _⟩ := h
    rcases List.mem_cons.1 hm with h' | h'
    · obtain ⟨rfl, rfl⟩ := Prod.mk.inj h'
      exact ⟨g, t, cs, fuel, p, h1, h2, h3, h4⟩
    · exact laid_mem h5 h'
theorem globE_of_laid {W : World} {laid : List (String × DataW Unit)} {nm : String} {d : DataW Unit} (h : laidMetH Tryd.prog laid W) (hp : (laid.all fun x => x.2.handleName?.isNone) = true)
    (hm : ("strconv.ErrSyntax", DataW.iface nm d) ∈ laid) : Hand.GlobE W := by
  rw [MakeChecks.laidMetH_plain _ _ _ hp] at h
  obtain ⟨ps, hl, _⟩ := h
  obtain ⟨g, t, cs, fuel, p, h1, h2, h3, h4⟩ := laid_mem hl hm
  have hg : Tryd.prog.globalNamed "strconv.ErrSyntax" = some 1 := by kernel_rfl
  obtain rfl : 1 = g := Option.some.inj (hg.symm.trans h1)
  have ht : (Tryd.prog.globals[1]?).map (·.type) = some 54 := by kernel_rfl
  obtain rfl : 54 = t := Option.some.inj (ht.symm.trans h2)
  obtain ⟨_, u, v, hc, _, _⟩ := iface_of_trod Tryd.underlying54 h4
  have hcell := var?_cell h1 h3 0
  have hcs : cs = #[.iface u v] := by cases cs; simpa using hc
  rw [hcs] at hcell
  exact ⟨_, hcell, .inr ⟨u, v, rfl⟩⟩
theorem glob_of_laid {W : World} (hs : W.ShapedOpen Tryd.prog) {laid : List (String × DataW Unit)} {nm : String} {d : DataW Unit} (h : laidMetH Tryd.prog laid W) (hp : (laid.all fun x => x.2.handleName?.isNone) = true)
    (hm : ("strconv.ErrSyntax", DataW.iface nm d) ∈ laid) : Hand.Glob W := ⟨out_of_shape hs, (globE_of_laid h hp hm).out⟩
section
variable {H : Type} {enc : TypeId × Value → H}
theorem handed_and_shaped {a : Assume} {C : Checked} {os : Os} {f : FuncId} {fn : Func} {s : ChangeSpec} {conds : List PathCond} {apart fresh handsOn again : Bool} {X : World → Array Value → Prop}
    (hX : ∀ (w w' : World) (args : Array Value), w.heap = w'.heap → X w args → X w' args)
    (own : ownKnob C.prog.godebug = none) (started : os.Started) (noInit : C.prog.inits.idxOf? f = none) (hfn : C.prog.funcs[f]? = some fn)
    (witness : ∃ (w : World) (tape : Tape) (i : Input), w.os = os ∧ (w.forCall tape i).Shaped C.prog ∧ i.vars = [] ∧ Input.okWide C.prog (w.forCall tape i) .any w.heap.size f i ∧
      ((s.pre enc C.prog fn conds apart (w.forCall tape i).memory i.args ∧ X (w.forCall tape i).memory i.args) ∧ sizedMet enc C.prog fn (OpenSpec.ofChange s) apart (w.forCall tape i).memory i.args) ∧
      a.holds C.prog (lone (Frame.enter C.prog f i.args .normal) [] (w.forCall tape i)))
    (contract : ∀ (W : World) (base : Nat) (args : Array Value) (ds gs : List (DataW H)) (before : List MemPlace),
      (∀ (j : Nat) t v, fn.params[j]? = some t → args[j]? = some v → Value.okWide C.prog W .any base t v) →
      DataW.Whole enc C.prog fn.params.toList s.vars apart W args.toList ds gs before →
      (DataW.weightsEach C.prog (fn.params.toList ++ s.plain.varTypes C.prog) (ds ++ gs)).all (· ≤ reachBytes) = true → X W args → W.ShapedOpen C.prog →
      Calls C.prog f args W fun e W' => ∃ v, e = .returned v ∧ s.post enc C.prog fn apart fresh handsOn again W args v W') :
    ReturnsInHanded a C os f .any (fun w args => (s.pre enc C.prog fn conds apart w args ∧ X w args) ∧ sizedMet enc C.prog fn (OpenSpec.ofChange s) apart w args) (s.post enc C.prog fn apart fresh handsOn again) := by
  refine returnsInHanded_of_calls own started noInit witness ?_
  intro w tape i _ hsh _ hok hpre _
  obtain ⟨_, _, _, fn', hfn', _, _, _, _, hval⟩ := hok
  have e : fn' = fn := Option.some.inj (hfn'.symm.trans hfn)
  subst e
  obtain ⟨⟨⟨ds, gs, before, hw, _⟩, hx⟩, hz⟩ := hpre
  have hw' := DataW.Whole.of_heap (w' := w.forCall tape i) (by rfl) hw
  refine (contract (w.forCall tape i) w.heap.size i.args ds gs before hval hw' (hz.weights hw) (hX _ _ _ (by rfl) hx) hsh).mono fun e W' ⟨v, he, hp⟩ => ?_
  subst he
  exact ChangeSpec.post_blind hp
end

theorem joined {f : FuncId} {fn : Func} {s : ChangeSpec} {c : OpenClaim}
    (k1 : c.wf (OpenSpec.ofChange s) = true) (k4 : (fn.params.all (Tryd.prog.readableRec ·)) = true) (k5 : namedTie Tryd.prog c.named s.vars = true) (k6 : (c.stops == []) = true) (k8 : (c.knobs == []) = true)
    (k10 : (c.inPlace == Tryd.prog.inPlace f) = true) (k11 : (c.unfollowed == Tryd.prog.unfollowed f) = true) (k12 : (c.recurses == Tryd.prog.recurses f) = true) (k13 : (c.named == Tryd.prog.varsNamed f) = true)
    (k14 : (c.maps == (fn.params.toList ++ s.plain.varTypes Tryd.prog).any (Tryd.prog.mapsRec ·)) = true) (k15 : (c.ifaces == (fn.params.toList ++ s.plain.varTypes Tryd.prog).any (Tryd.prog.ifacesRec ·)) = true) (k16 : (c.mapsOut == Tryd.prog.mapsAmong fn.resultTypes.toList) = true)
    (k17 : (c.loops == (fn.params.toList ++ s.plain.varTypes Tryd.prog).any (Tryd.prog.loopsFrom ·)) = true) (k18 : (c.wideKeys == (fn.params.toList ++ s.plain.varTypes Tryd.prog ++ fn.resultTypes.toList).any (Tryd.prog.wideKeysFrom ·)) = true)
    (k19 : s.vars.all (Tryd.prog.varReadable ·) = true) (k20 : fn.resultTypes.all (fun t => Tryd.prog.readableRec t && decide (t < Tryd.prog.types.size)) = true) (k21 : (c.ifacesOut == fn.resultTypes.toList.any (Tryd.prog.ifacesRec ·)) = true) (k22 : (c.loopsOut == fn.resultTypes.toList.any (Tryd.prog.loopsFrom ·)) = true)
    (k23 : c.plainKeys = R.plainKeys) (k24 : c.shortTexts.isNone = true) (k27 : c.lifted = R.lifted) (k28 : c.make = R.make)
    (k29 : c.domain = []) (k29' : c.kinds = []) (k30 : (c.pinned == c.pinnedBy) = true)
    (k31 : (c.veiled == (fn.params.toList ++ s.plain.varTypes Tryd.prog ++ fn.resultTypes.toList).any (Tryd.prog.veiledRec ·)) = true) (k32 : c.veiledFits Tryd.prog fn.params.toList (fn.params.toList ++ s.plain.varTypes Tryd.prog ++ fn.resultTypes.toList) = true) :
    joinedFacts Tryd.prog f fn s c = true := by
  have e23 : (c.plainKeys == Tryd.prog.plainKeys) = true := by rw [k23]; exact p23
  have e27 : (c.lifted == Tryd.prog.liftsFinal) = true := by rw [k27]; exact p27
  have e28 : (Tryd.prog.make == some c.make) = true := by rw [k28]; exact p28
  unfold joinedFacts
  rw [k1, p2, p3, k4, k5, k6, p7, k8, p9, k10, k11, k12, k13, k14, k15, k16, k17, k18, k19, k20, k21, k22, e23, k24, p25, p26, e27, e28, k29, k29', k30, k31, k32]
  rfl
end Go.Proofs.YtdheknlnhfegnaaDoor.RowKit
