/-
  Hand walks: flailref11.Begins, flailref11.Read; a law: flaillaw11.DoctypeReads.
-/
import Derived.Test.YtppaobgccdlccaaDoorHaDoR
import Derived.Test.YtppaobgccdlccaaDoorPuRef
namespace Go.Proofs.YtppaobgccdlccaaDoor.Hand
open Go.RowKit Go.Proofs.YtppaobgccdlccaaDoor.K0 Go.Proofs.YtppaobgccdlccaaDoor.Pl Go.Proofs.YtppaobgccdlccaaDoor.Pb Go.Proofs.YtppaobgccdlccaaDoor.Sa Go.Proofs.YtppaobgccdlccaaDoor.Sr Go.Proofs.YtppaobgccdlccaaDoor.Pure Go.Proofs.YtppaobgccdlccaaDoorW.PrintWords Go.Proofs.YtppaobgccdlccaaDoorW.PrintLast Go.Proofs.YtppaobgccdlccaaDoorW.PrintMore

theorem rbegins_c (s low : List UInt8) (a : Int) (hs : s.length ≤ 1000000) (hl : low.length ≤ 1000000) (w : World) :
    Calls Tryd.prog 62 #[.string (B s), .int .i64 a, .string (B low)] w fun e w' => e = .returned (.bool (begAt s a low)) ∧ Below w.heap.size w w' := by
  unfold begAt
  by_cases h : 0 ≤ a ∧ a ≤ (s.length : Int)
  · rw [if_pos h]
    obtain ⟨n, rfl⟩ : ∃ n : Nat, a = n := ⟨a.toNat, by omega⟩
    obtain ⟨k, hk⟩ := (refBegins s low n hs hl (by omega)).rounds
    exact flailref03_Begins.calls k _ _ _ _ w hk
  · rw [if_neg h]
    obtain ⟨k, hk⟩ := (refBegins_past s low a (by omega)).rounds
    exact flailref03_Begins.calls k _ _ _ _ w hk
theorem rdbegins_c (s : List UInt8) (a : Int) (hs : s.length ≤ 1000000) (w : World) :
    Calls Tryd.prog 48 #[.string (B s), .int .i64 a] w fun e w' => e = .returned (.bool (begAt s a doctB)) ∧ Below w.heap.size w w' := by
  have C := Lib.hid (show Calls Tryd.prog 62 #[.string (B s), .int .i64 a, .string ⟨#[60, 33, 100, 111, 99, 116, 121, 112, 101]⟩] w _ from rbegins_c s doctB a hs (by simp [doctB]) w)
  go_enter Tryd.func48, Tryd.ntmps48
  go_wp2_with fail
  refine C.out.mono ?_
  rintro e w1 ⟨rfl, hb⟩
  go_wp2_with fail
  go_ret
  exact ⟨rfl, hb⟩
theorem rclean_c (l : List UInt8) (h : l.length ≤ 1000000) (w : World) : Calls Tryd.prog 30 #[.string (B l)] w fun e w' => e = .returned (.string (B (cleanL l))) ∧ Below w.heap.size w w' := by
  obtain ⟨k, hk⟩ := (refClean l h).rounds
  refine (flailref02_Clean.calls k _ _ w hk).mono ?_
  rintro e w' ⟨h1, h2⟩
  exact ⟨h1, h2.below⟩
set_option maxRecDepth 100000 in
set_option maxHeartbeats 4000000 in
theorem rread_no (s : List UInt8) (a : Int) (w : World) (hs : s.length ≤ 1000000) (hb : begAt s a doctB = false) :
    Calls Tryd.prog 46 #[.string (B s), .int .i64 a] w fun e w' => e = .returned (.tuple #[.agg #[.int .i64 0, .string ⟨#[]⟩, .string ⟨#[]⟩, .slice none 0 0, .bool false], .int .i64 a, .bool false]) ∧ Below w.heap.size w w' := by
  have hu35 := Tryd.underlying35
  have C := Lib.hid (fun W => rdbegins_c s a hs W)
  rw [hb] at C
  clear hb
  have hT := Lib.hid (Tok.of_alloc T0 35 w)
  have hB0 := Lib.hid (Below.alloc (Below.refl w.heap.size w) (Nat.le_refl _) (.cells T0 35))
  have hsz : w.heap.size < (w.alloc (.cells T0 35)).heap.size := by simp
  go_enter Tryd.func46, Tryd.ntmps46
  go_wp2_with fail
  refine (C.out _).mono ?_
  rintro e w1 ⟨rfl, hb1⟩
  clear C
  have hT1 := Lib.hid (hT.out.below hb1 hsz)
  have hB1 := Lib.hid (hB0.out.trans (hb1.mono (Nat.le_of_lt hsz)))
  clear hb1 hsz hT hB0
  have q0 : w1.cell? ⟨w.heap.size, 0, none⟩ = some (.int .i64 0) := hT1.out.cell 0 (by decide)
  have q1 := Tok.f1 hT1.out
  have q2 := Tok.f2 hT1.out
  have q3 := Tok.f3 hT1.out
  have q4 := Tok.f4 hT1.out
  have q5 : ∀ j, w1.frozen? ⟨w.heap.size, j, none⟩ = false := hT1.out.open_
  go_wp2_with fail
  refine bodyPost_ret (results_ctt rfl rfl (Tok.load (hT1.out.put _ _ _ _ _))) rfl ?_
  exact ⟨rfl, put_below _ (Nat.le_refl _) hB1.out _ _ _ _ _⟩
set_option maxRecDepth 100000 in
set_option maxHeartbeats 8000000 in
theorem rread_yes (s : List UInt8) (n : Nat) (w : World) (hs : s.length ≤ 1000000) (hn : n ≤ s.length) (hb : begR (s.drop n) doctB = true) :
    Calls Tryd.prog 46 #[.string (B s), .int .i64 (n : Int)] w fun e w' => e = .returned (.tuple #[.agg #[.int .i64 4, .string ⟨#[]⟩, .string (B (cleanL (readD (s.drop n)).1)), .slice none 0 0, .bool false], .int .i64 ((n + (readD (s.drop n)).2 : Nat) : Int), .bool true]) ∧ Below w.heap.size w w' := by
  have hu35 := Tryd.underlying35
  have h9 := begR_len9 hb hn
  have C := fun W => rdbegins_c s (n : Int) hs W
  rw [begAt_in s n doctB hn, hb] at C
  obtain ⟨r, hr⟩ : ∃ r, s.drop (n + 9) = r := ⟨_, rfl⟩
  have hrl : r.length = s.length - (n + 9) := by rw [← hr]; simp
  obtain ⟨U, hU⟩ : ∃ U, (upto 62 r).length = U := ⟨_, rfl⟩
  have hUl : U ≤ r.length := by rw [← hU]; exact upto_length 62 r
  have hrd : readD (s.drop n) = (upto 62 r, 9 + U + if (62 : UInt8) ∈ r then 1 else 0) := by unfold readD; rw [List.drop_drop, hr, hU]
  rw [hrd]
  have hat := upto_at 62 r
  rw [hU] at hat
  have hall : ∀ k (h : n + 9 + k < (B s).size), k ≤ U → ((B s)[n + 9 + k] = 62 ↔ k = U) := by
    intro k h hk
    have h' : n + 9 + k < s.length := by simpa using h
    have hk' : k < r.length := by omega
    have e : r[k] = s[n + 9 + k] := by
      have : r = s.drop (n + 9) := hr.symm
      subst this
      rw [List.getElem_drop]
    rw [← hat k hk' hk, e]
    exact Iff.rfl
  have hend : n + 9 + U = s.length → (62 : UInt8) ∉ r := by
    intro he hm
    have h1 := upto_no 62 r
    have h2 : upto 62 r = r := by
      have h3 := upto_take 62 r
      rw [hU, List.take_of_length_le (by omega)] at h3
      exact h3.symm
    rw [h2] at h1
    exact h1 hm
  have hmid : n + 9 + U < s.length → (62 : UInt8) ∈ r := by
    intro hl
    have hk' : U < r.length := by omega
    have := (hat U hk' (Nat.le_refl _)).2 rfl
    exact List.mem_iff_getElem.2 ⟨U, hk', this⟩
  have CL : ∀ W, Calls Tryd.prog 30 #[.string ((B s).extract (n + 9) (n + 9 + U))] W fun e w' => e = .returned (.string (B (cleanL (upto 62 r)))) ∧ Below W.heap.size W w' := by
    intro W
    have hx : (B s).extract (n + 9) (n + 9 + U) = B (upto 62 r) := by
      rw [B_extract, List.drop_take, hr, show n + 9 + U - (n + 9) = U by omega, ← hU, upto_take]
    rw [hx]
    exact rclean_c _ (by omega) W
  obtain ⟨ct, hct⟩ : ∃ t, B (cleanL (upto 62 r)) = t := ⟨_, rfl⟩
  rw [hct] at CL ⊢
  obtain ⟨N, hN⟩ : ∃ N, n + (9 + U + if (62 : UInt8) ∈ r then 1 else 0) = N := ⟨_, rfl⟩
  rw [hN]
  have hN1 : n + 9 + U < s.length → N = n + 9 + U + 1 := fun h => by rw [← hN, if_pos (hmid h)]; omega
  have hN2 : n + 9 + U = s.length → N = n + 9 + U := fun h => by rw [← hN, if_neg (hend h)]; omega
  obtain ⟨a, ha⟩ : ∃ a, B s = a := ⟨_, rfl⟩
  have hz : s.length = a.size := by rw [← ha]; simp
  rw [ha] at C CL hall ⊢
  rw [hz] at hN1 hN2
  have hz1 : n + 9 + U ≤ a.size := by omega
  have hz2 : a.size ≤ 1000000 := by omega
  have HC := Lib.hid C
  have HCL := Lib.hid CL
  have HA := Lib.hid hall
  have HN1 := Lib.hid hN1
  have HN2 := Lib.hid hN2
  clear C CL hall hN1 hN2 hN hmid hend hat hrd hUl hU hrl hr h9 hb hs hn hz ha hct
  have hT := Lib.hid (Tok.of_alloc T0 35 w)
  have hB0 := Lib.hid (Below.alloc (Below.refl w.heap.size w) (Nat.le_refl _) (.cells T0 35))
  have hsz : w.heap.size < (w.alloc (.cells T0 35)).heap.size := by simp
  go_enter Tryd.func46, Tryd.ntmps46
  go_wp2_with fail
  refine (HC.out _).mono ?_
  rintro e w1 ⟨rfl, hb1⟩
  clear HC
  have hT1 := Lib.hid (hT.out.below hb1 hsz)
  have hB1 := Lib.hid (hB0.out.trans (hb1.mono (Nat.le_of_lt hsz)))
  have hl1 := Nat.lt_of_lt_of_le hsz hb1.size
  clear hb1 hsz hT hB0
  go_wp2_with fail
  go_loop [8] (fun i => ∃ k : Nat, k ≤ U ∧ i = .int .i64 ((n + 9 + k : Nat) : Int)) (fun i => a.size - (intOf i).toNat)
  case atStart => exact ⟨0, Nat.zero_le _, by go_num⟩
  case round =>
    obtain ⟨k, hk, rfl⟩ := hrel
    by_cases hlt : n + 9 + k < a.size
    · by_cases hc : a[n + 9 + k] = 62
      · obtain rfl : k = U := (HA.out k hlt hk).1 hc
        have e0 := byte_eq 62 hc
        clear hc
        go_wp2_with fail
        refine (HCL.out _).mono ?_
        rintro e w3 ⟨rfl, hb1⟩
        have hT3 := Lib.hid (hT1.out.below hb1 hl1)
        have hB3 := Lib.hid (hB1.out.trans (hb1.mono (Nat.le_of_lt hl1)))
        clear hb1 hl1 hT1 hB1
        have q0 : w3.cell? ⟨w.heap.size, 0, none⟩ = some (.int .i64 0) := hT3.out.cell 0 (by decide)
        have q1 := Tok.f1 hT3.out
        have q2 := Tok.f2 hT3.out
        have q3 := Tok.f3 hT3.out
        have q4 := Tok.f4 hT3.out
        have q5 : ∀ j, w3.frozen? ⟨w.heap.size, j, none⟩ = false := hT3.out.open_
        go_wp2_with fail
        refine bodyPost_ret (results_ctt rfl rfl (Tok.load (hT3.out.put _ _ _ _ _))) rfl ?_
        refine ⟨?_, put_below _ (Nat.le_refl _) hB3.out _ _ _ _ _⟩
        rw [HN1.out hlt]; rfl
      · have hne : k ≠ U := fun e => hc ((HA.out k hlt hk).2 e)
        have e0 := byte_ne 62 hc
        clear hc
        go_wp2_with fail
        go_round
        case rel => exact ⟨k + 1, by omega, by go_num⟩
        case measure => simp [intOf]; omega
    · obtain rfl : k = U := by omega
      have he : n + 9 + k = a.size := by omega
      have HE := Lib.hid he
      have HCL2 : Hid (∀ W, Calls Tryd.prog 30 #[.string (a.extract (n + 9) a.size)] W fun e w' => e = .returned (.string ct) ∧ Below W.heap.size W w') := by
        have := HCL.out
        rw [he] at this
        exact this
      clear he
      go_wp2_with fail
      refine (HCL2.out _).mono ?_
      rintro e w3 ⟨rfl, hb1⟩
      have hT3 := Lib.hid (hT1.out.below hb1 hl1)
      have hB3 := Lib.hid (hB1.out.trans (hb1.mono (Nat.le_of_lt hl1)))
      clear hb1 hl1 hT1 hB1
      have q0 : w3.cell? ⟨w.heap.size, 0, none⟩ = some (.int .i64 0) := hT3.out.cell 0 (by decide)
      have q1 := Tok.f1 hT3.out
      have q2 := Tok.f2 hT3.out
      have q3 := Tok.f3 hT3.out
      have q4 := Tok.f4 hT3.out
      have q5 : ∀ j, w3.frozen? ⟨w.heap.size, j, none⟩ = false := hT3.out.open_
      go_wp2_with fail
      refine bodyPost_ret (results_ctt rfl rfl (Tok.load (hT3.out.put _ _ _ _ _))) rfl ?_
      refine ⟨?_, put_below _ (Nat.le_refl _) hB3.out _ _ _ _ _⟩
      rw [HN2.out HE.out, HE.out]; rfl

theorem begAt_no {s : List UInt8} {a : Int} (h : ¬ ∃ n : Nat, a = n ∧ n ≤ s.length ∧ begR (s.drop n) doctB = true) : begAt s a doctB = false := by
  unfold begAt
  by_cases hr : 0 ≤ a ∧ a ≤ (s.length : Int)
  · rw [if_pos hr]
    rw [Bool.eq_false_iff]
    intro e
    exact h ⟨a.toNat, by omega, by omega, e⟩
  · rw [if_neg hr]
theorem dsame08 : Ev (fun k => flailref08_Same.f k [] []) true := by
  unfold flailref08_Same.f
  simp only [if_true]
  exact Ev.step (f := fun _ => some true) (fun k => by rw [flailref08_Same.l0, if_neg (by simp)]) (Ev.now _)
theorem dsame_tok (x : Int) (a b : ByteArray) (f : Bool) (w : World) :
    Calls Tryd.prog 39 #[.agg #[.int .i64 x, .string a, .string b, .slice none 0 0, .bool f], .agg #[.int .i64 x, .string a, .string b, .slice none 0 0, .bool f]] w fun e w' => e = .returned (.bool true) ∧ Below w.heap.size w w' := by
  have h : Ev (fun k => flailref09_Same.f k x a b [] f x a b [] f) true := by
    unfold flailref09_Same.f
    simp only [if_true, BEq.rfl]
    exact Ev.bind dsame08 (Ev.now _)
  obtain ⟨k, hk⟩ := h.rounds
  exact flailref09_Same.calls k x a b none 0 [] f x a b none 0 [] f true w (Kd.C_nil _ _) (Nat.le_refl _) (Kd.C_nil _ _) (Nat.le_refl _) hk
set_option maxRecDepth 100000 in
set_option maxHeartbeats 8000000 in
theorem dreads_small (s : List UInt8) (at0 : Int) (w : World) (hGl : Glob w) (h0 : s.length ≤ 300) :
    Calls Tryd.prog 19 #[.string (B s), .int .i64 at0] w fun e w' => e = .returned (.bool true) ∧ Below w.heap.size w w' := by
  have hu35 := Tryd.underlying35
  by_cases h : ∃ n : Nat, at0 = n ∧ n ≤ s.length ∧ begR (s.drop n) doctB = true
  · obtain ⟨n, rfl, hn, hb⟩ := h
    have C1 := fun W hG => dread_yes s n W hG (by omega) hn hb
    have C2 := fun W => rread_yes s n W (by omega) hn hb
    have C3 := fun W => dbegins_c s (n : Int) (by omega) W
    have C4 := fun W => rdbegins_c s (n : Int) (by omega) W
    rw [begAt_in s n doctB hn, hb] at C3 C4
    obtain ⟨ct, hct⟩ : ∃ t, B (cleanL (readD (s.drop n)).1) = t := ⟨_, rfl⟩
    obtain ⟨N, hN⟩ : ∃ N, n + (readD (s.drop n)).2 = N := ⟨_, rfl⟩
    rw [hct, hN] at C1 C2
    obtain ⟨a0, ha⟩ : ∃ a, B s = a := ⟨_, rfl⟩
    have z0 : a0.size ≤ 300 := by rw [← ha]; simpa using h0
    rw [ha] at C1 C2 C3 C4 ⊢
    have H1 := Lib.hid C1
    have H2 := Lib.hid C2
    have H3 := Lib.hid C3
    have H4 := Lib.hid C4
    clear C1 C2 C3 C4 ha hct hN hb hn h0
    have q : decide ((300 : Int) < (a0.size : Int)) = false := by simp; omega
    go_enter Tryd.func19, Tryd.ntmps19
    go_wp2_with fail
    refine (awake11_any _ hGl).mono ?_
    rintro e w1 ⟨rfl, hb⟩
    have HL := Lib.hid ((Live.start hGl).call hb)
    clear hb hGl
    go_wp2_with fail
    refine (H1.out _ HL.out.glob).mono ?_
    rintro e w2 ⟨rfl, hb⟩
    replace HL := Lib.hid ((HL.out.call hb).alloc #[.int .i64 4, .string ⟨#[]⟩, .string ct, .slice none 0 0, .bool false] 35)
    clear hb H1
    go_wp2_with fail
    refine (H2.out _).mono ?_
    rintro e w3 ⟨rfl, hb⟩
    replace HL := Lib.hid ((HL.out.call hb).alloc #[.int .i64 4, .string ⟨#[]⟩, .string ct, .slice none 0 0, .bool false] 35)
    clear hb H2
    have d0 := HL.out.cell (b := w2.heap.size) (j := 0) (x := .int .i64 4) m1 rfl
    have d1 := HL.out.cell (b := w2.heap.size) (j := 1) (x := .string ⟨#[]⟩) m1 rfl
    have d2 := HL.out.cell (b := w2.heap.size) (j := 2) (x := .string ct) m1 rfl
    have d3 := HL.out.cell (b := w2.heap.size) (j := 3) (x := .slice none 0 0) m1 rfl
    have d4 := HL.out.cell (b := w2.heap.size) (j := 4) (x := .bool false) m1 rfl
    have e0 := HL.out.cell (b := w3.heap.size) (j := 0) (x := .int .i64 4) m0 rfl
    have e1 := HL.out.cell (b := w3.heap.size) (j := 1) (x := .string ⟨#[]⟩) m0 rfl
    have e2 := HL.out.cell (b := w3.heap.size) (j := 2) (x := .string ct) m0 rfl
    have e3 := HL.out.cell (b := w3.heap.size) (j := 3) (x := .slice none 0 0) m0 rfl
    have e4 := HL.out.cell (b := w3.heap.size) (j := 4) (x := .bool false) m0 rfl
    go_wp2_with fail
    refine (dsame_tok _ _ _ _ _).mono ?_
    rintro e w4 ⟨rfl, hb⟩
    replace HL := Lib.hid (HL.out.call hb)
    clear hb
    go_wp2_with fail
    refine (H3.out _).mono ?_
    rintro e w5 ⟨rfl, hb⟩
    replace HL := Lib.hid (HL.out.call hb)
    clear hb
    go_wp2_with fail
    refine (H4.out _).mono ?_
    rintro e w6 ⟨rfl, hb⟩
    replace HL := Lib.hid (HL.out.call hb)
    clear hb
    go_wp2_with fail
    go_ret
    exact ⟨rfl, HL.out.below⟩
  · have hb := begAt_no h
    have C1 := fun (W : World) (_ : Glob W) => dread_no s at0 W (by omega) hb
    have C2 := fun W => rread_no s at0 W (by omega) hb
    have C3 := fun W => dbegins_c s at0 (by omega) W
    have C4 := fun W => rdbegins_c s at0 (by omega) W
    rw [hb] at C3 C4
    obtain ⟨a0, ha⟩ : ∃ a, B s = a := ⟨_, rfl⟩
    have z0 : a0.size ≤ 300 := by rw [← ha]; simpa using h0
    rw [ha] at C1 C2 C3 C4 ⊢
    have H1 := Lib.hid C1
    have H2 := Lib.hid C2
    have H3 := Lib.hid C3
    have H4 := Lib.hid C4
    clear C1 C2 C3 C4 ha hb h h0
    have q : decide ((300 : Int) < (a0.size : Int)) = false := by simp; omega
    go_enter Tryd.func19, Tryd.ntmps19
    go_wp2_with fail
    refine (awake11_any _ hGl).mono ?_
    rintro e w1 ⟨rfl, hb⟩
    have HL := Lib.hid ((Live.start hGl).call hb)
    clear hb hGl
    go_wp2_with fail
    refine (H1.out _ HL.out.glob).mono ?_
    rintro e w2 ⟨rfl, hb⟩
    replace HL := Lib.hid ((HL.out.call hb).alloc #[.int .i64 0, .string ⟨#[]⟩, .string ⟨#[]⟩, .slice none 0 0, .bool false] 35)
    clear hb H1
    go_wp2_with fail
    refine (H2.out _).mono ?_
    rintro e w3 ⟨rfl, hb⟩
    replace HL := Lib.hid ((HL.out.call hb).alloc #[.int .i64 0, .string ⟨#[]⟩, .string ⟨#[]⟩, .slice none 0 0, .bool false] 35)
    clear hb H2
    have d0 := HL.out.cell (b := w2.heap.size) (j := 0) (x := .int .i64 0) m1 rfl
    have d1 := HL.out.cell (b := w2.heap.size) (j := 1) (x := .string ⟨#[]⟩) m1 rfl
    have d2 := HL.out.cell (b := w2.heap.size) (j := 2) (x := .string ⟨#[]⟩) m1 rfl
    have d3 := HL.out.cell (b := w2.heap.size) (j := 3) (x := .slice none 0 0) m1 rfl
    have d4 := HL.out.cell (b := w2.heap.size) (j := 4) (x := .bool false) m1 rfl
    have e0 := HL.out.cell (b := w3.heap.size) (j := 0) (x := .int .i64 0) m0 rfl
    have e1 := HL.out.cell (b := w3.heap.size) (j := 1) (x := .string ⟨#[]⟩) m0 rfl
    have e2 := HL.out.cell (b := w3.heap.size) (j := 2) (x := .string ⟨#[]⟩) m0 rfl
    have e3 := HL.out.cell (b := w3.heap.size) (j := 3) (x := .slice none 0 0) m0 rfl
    have e4 := HL.out.cell (b := w3.heap.size) (j := 4) (x := .bool false) m0 rfl
    go_wp2_with fail
    refine (dsame_tok _ _ _ _ _).mono ?_
    rintro e w4 ⟨rfl, hb⟩
    replace HL := Lib.hid (HL.out.call hb)
    clear hb
    go_wp2_with fail
    refine (H3.out _).mono ?_
    rintro e w5 ⟨rfl, hb⟩
    replace HL := Lib.hid (HL.out.call hb)
    clear hb
    go_wp2_with fail
    refine (H4.out _).mono ?_
    rintro e w6 ⟨rfl, hb⟩
    replace HL := Lib.hid (HL.out.call hb)
    clear hb
    go_wp2_with fail
    go_ret
    exact ⟨rfl, HL.out.below⟩
theorem DoctypeReads_law (a0 : ByteArray) (at0 : Int) (w : World) (h0 : a0.size ≤ 140737488351232) (_h1 : (Lit.int .i64 at0).wf = true) (hGl : Glob w) :
    Calls Tryd.prog 19 #[.string a0, .int .i64 at0] w fun e w' => e = .returned (.bool true) ∧ Below w.heap.size w w' := by
  by_cases hb : 300 < a0.size
  · have q : decide ((300 : Int) < (a0.size : Int)) = true := by simp; omega
    clear hb
    go_enter Tryd.func19, Tryd.ntmps19
    go_wp2_with fail
    refine (awake11_any _ hGl).mono ?_
    rintro e w1 ⟨rfl, hb⟩
    go_wp2_with fail
    go_ret
    exact ⟨rfl, hb⟩
  · obtain ⟨s, rfl⟩ := exists_B a0
    rw [size_B] at hb
    exact dreads_small s at0 w hGl (by omega)
end Go.Proofs.YtppaobgccdlccaaDoor.Hand
