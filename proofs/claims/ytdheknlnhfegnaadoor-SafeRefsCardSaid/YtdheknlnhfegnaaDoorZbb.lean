/-
  Hand walk: number.Read.
  Hand walks: ref.kept, ref.Read.
  Hand walks: safe.Whole.
  Hand walks: safe.Safe.
  Hand walk: safe.Everywhere.
  What an ampersand means, as a function; a text with all its references read.
  What is told of a reference, and of a text, is one thing.
  Hand walks of the reference: flailref06.at.
  The reference's printed number functions: digits' numbers.
  Plain: a row with a key begins where the key and a blank stand.
  Plain: what else holds of each row of the table: how long its key is, which bytes it has; its value read digit by digit.
  Hand walks of the reference: flailref06.Value.
  The reference's printed flailref01.Sign is utf.Sign's answer.
  The reference's printed flailref04.Fix is number.Fix's answer.
  The reference's printed flailref04.Read is numL.
-/
import Derived.Test.YtdheknlnhfegnaaDoorZba
import Derived.BigQuiet
import Derived.Deep.QuietTactic
import Derived.Test.YtdheknlnhfegnaaDoorSr
namespace Go.Proofs.YtdheknlnhfegnaaDoor.Hand
open Go.RowKit Go.Proofs.YtdheknlnhfegnaaDoor.Pb Go.Proofs.YtdheknlnhfegnaaDoor.Pl Go.Proofs.YtdheknlnhfegnaaDoor.Sa Go.Proofs.YtdheknlnhfegnaaDoor.Pure Go.Proofs.YtdheknlnhfegnaaDoorW.PrintWords

theorem nbegins_c (s low : List UInt8) (n : Nat) (hs : s.length ≤ 1000000) (hl : low.length ≤ 1000000) (hn : n ≤ s.length) (w : World) :
    Calls Tryd.prog 21 #[.string (B s), .int .i64 (n : Int), .string (B low)] w fun e w' => e = .returned (.bool (begR (s.drop n) low)) ∧ Below w.heap.size w w' :=
  sign_Begins.calls _ _ _ _ w (begins_f s low n hs hl hn)
theorem digit_f (c : UInt8) : sign_Digit.f (c.toNat : Int) = some (isDigB c) := by
  unfold sign_Digit.f sign_within.f isDigB
  by_cases h : 48 ≤ c.toNat
  · rw [if_pos (by omega), Option.bind_some, decide_eq_true h, Bool.true_and]
    congr 1
    rw [Bool.eq_iff_iff, decide_eq_true_eq, decide_eq_true_eq]; omega
  · rw [if_neg (by omega), Option.bind_some, decide_eq_false h, Bool.false_and]
theorem digit_c (c : UInt8) (w : World) : Calls Tryd.prog 38 #[.int .u8 (c.toNat : Int)] w fun e w' => e = .returned (.bool (isDigB c)) ∧ Below w.heap.size w w' :=
  (sign_Digit.calls _ _ w (digit_f c)).mono fun _ _ h => ⟨h.1, h.2.below⟩
/-- what is told of a reference by a number -/
def numT (s : List UInt8) (at_ : Nat) : Value := match numL (s.drop at_) with
  | some (n, k) => .tuple #[.string (fixB n), .int .i64 ((at_ + k : Nat) : Int), .bool true]
  | none => .tuple #[.string ⟨#[]⟩, .int .i64 (at_ : Int), .bool false]
/-- the same from the digits on -/
def numU (s : List UInt8) (at_ i : Nat) (six : Bool) : Value := match numQ six (s.drop i) with
  | some (n, k) => .tuple #[.string (fixB n), .int .i64 ((i + k : Nat) : Int), .bool true]
  | none => .tuple #[.string ⟨#[]⟩, .int .i64 (at_ : Int), .bool false]
theorem digs_at {six : Bool} {q : List UInt8} {k : Nat} (h1 : ∀ j, (h : j < q.length) → j < k → isDg six q[j] = true) (h2 : k = q.length ∨ ∃ h : k < q.length, isDg six q[k] = false) : digs six q = q.take k := by
  unfold digs
  induction q generalizing k with
  | nil => simp
  | cons c r ih =>
    cases k with
    | zero =>
      rcases h2 with h | ⟨h, e⟩
      · cases h
      · rw [List.takeWhile_cons]; simp only [List.getElem_cons_zero] at e; rw [e]; rfl
    | succ k =>
      have e := h1 0 (by simp) (by omega)
      simp only [List.getElem_cons_zero] at e
      rw [List.takeWhile_cons, e, if_pos rfl, List.take_succ_cons, ih (k := k)]
      · intro j h hj
        have := h1 (j + 1) (by simp; omega) (by omega)
        simpa using this
      · rcases h2 with h | ⟨h, e⟩
        · left; simpa using h
        · right; exact ⟨by simpa using h, by simpa using e⟩
/-- where the digits end -/
theorem num_exit (s : List UInt8) (n i k : Nat) (six : Bool) (hs : s.length ≤ 100000) (hik : i ≤ k) (hk : k ≤ s.length) (h1 : ∀ j (h : j < s.length), i ≤ j → j < k → isDg six s[j] = true) (h2 : k = s.length ∨ ∃ h : k < s.length, isDg six s[k] = false) :
    ∃ v : Int, (∀ W, Calls Tryd.prog 40 #[.string ((B s).extract i k), .bool six] W fun e w' => e = .returned (.int .i64 v) ∧ Below W.heap.size W w') ∧
      ((v = -1 ∧ numU s n i six = .tuple #[.string ⟨#[]⟩, .int .i64 (n : Int), .bool false]) ∨
       ∃ m : Nat, v = m ∧ m ≤ 1114112 ∧ ∃ b3, (∀ W, Calls Tryd.prog 21 #[.string (B s), .int .i64 (k : Int), .string ⟨#[59]⟩] W fun e w' => e = .returned (.bool b3) ∧ Below W.heap.size W w') ∧ (b3 = true → k + 1 ≤ s.length) ∧
         numU s n i six = .tuple #[.string (fixB m), .int .i64 ((k + if b3 = true then 1 else 0 : Nat) : Int), .bool true]) := by
  have hd : digs six (s.drop i) = (s.drop i).take (k - i) := by
    apply digs_at
    · intro j h hj
      rw [List.length_drop] at h
      have := h1 (i + j) (by omega) (by omega) (by omega)
      rw [List.getElem_drop]; exact this
    · rcases h2 with h | ⟨h, e⟩
      · left; rw [List.length_drop]; omega
      · right
        refine ⟨by rw [List.length_drop]; omega, ?_⟩
        rw [List.getElem_drop]
        have : i + (k - i) = k := by omega
        simp only [this]; exact e
  have he : (B s).extract i k = B (digs six (s.drop i)) := by rw [hd, B_extract, List.drop_take]
  have hl : (digs six (s.drop i)).length = k - i := by rw [hd, List.length_take, List.length_drop]; omega
  refine ⟨valL (baseN six) (digs six (s.drop i)), fun W => by rw [he]; exact value_at (baseN six) six (by cases six <;> rfl) _ (by rw [hl]; omega) W, ?_⟩
  have hb := valL_bound (baseN six) (digs six (s.drop i))
  unfold numU numQ
  simp only
  by_cases hv : valL (baseN six) (digs six (s.drop i)) < 0
  · left
    refine ⟨by omega, ?_⟩
    rw [if_pos hv]
  · right
    refine ⟨(valL (baseN six) (digs six (s.drop i))).toNat, by omega, by omega, begR (s.drop k) [59], fun W => nbegins_c s [59] k (by omega) (by decide) hk W, fun h => ?_, ?_⟩
    · have := begR_one h; rw [List.length_drop] at this; omega
    · rw [if_neg hv, hl, List.drop_drop, show i + (k - i) = k by omega]
      simp only [← Nat.add_assoc, show i + (k - i) = k by omega]
set_option maxRecDepth 100000 in
set_option maxHeartbeats 8000000 in
theorem number_c (s : List UInt8) (n : Nat) (hs : s.length ≤ 100000) (hn : n ≤ s.length) (w : World) :
    Calls Tryd.prog 22 #[.string (B s), .int .i64 (n : Int)] w fun e w' => e = .returned (numT s n) ∧ Below w.heap.size w w' := by
  have BG := Lib.hid (fun (low : List UInt8) (hl : low.length ≤ 1000000) (i : Nat) (hi : i ≤ s.length) W => nbegins_c s low i (by omega) hl hi W)
  have DG := Lib.hid (fun c W => digit_c c W)
  have HX := Lib.hid (fun c W => hex_c c W)
  have VA := Lib.hid (fun (six : Bool) (d : List UInt8) (hd : d.length ≤ 1000000) W => value_at (baseN six) six (by cases six <;> rfl) d hd W)
  have FX := Lib.hid (fun (k : Nat) (hk : k ≤ 1114112) W => fix_c k hk W)
  have B1 := BG.out [35] (by decide) n hn w
  obtain ⟨b1, hb1⟩ : ∃ b, begR (s.drop n) [35] = b := ⟨_, rfl⟩
  rw [hb1] at B1
  have HB1 := Lib.hid B1
  obtain ⟨T, hT⟩ : ∃ T, numT s n = T := ⟨_, rfl⟩
  rw [hT]
  obtain ⟨a, ha⟩ : ∃ a, B s = a := ⟨_, rfl⟩
  have hsz : a.size = s.length := by rw [← ha]; simp
  have hX : ∀ i (h : i < a.size), s[i]? = some a[i] := fun i h => by
    subst ha
    have hl : i < s.length := by simpa using h
    rw [List.getElem?_eq_getElem hl]
    rfl
  have hcut : ∀ i j, a.extract i j = B ((s.take j).drop i) := fun i j => by rw [← ha, B_extract]
  cases b1 with
  | false =>
    have hT2 : T = .tuple #[.string ⟨#[]⟩, .int .i64 (n : Int), .bool false] := by
      rw [← hT]; unfold numT numL; rw [hb1, if_neg (by decide)]
    subst hT2
    rw [ha] at HB1 ⊢
    clear B1 BG hb1 hT ha hsz hX hcut DG HX VA FX
    go_enter Tryd.func22, Tryd.ntmps22
    go_wp2_with fail
    refine HB1.out.mono ?_
    rintro e w1 ⟨rfl, hb⟩
    go_wp2_with fail
    go_ret3
    exact ⟨rfl, hb⟩
  | true =>
    have hn1 : n + 1 ≤ s.length := by have := begR_one hb1; rw [List.length_drop] at this; omega
    have B2 := fun W => BG.out [120] (by decide) (n + 1) hn1 W
    obtain ⟨six, hsix⟩ : ∃ b, begR (s.drop (n + 1)) [120] = b := ⟨_, rfl⟩
    rw [hsix] at B2
    have HB2 := Lib.hid B2
    have hT2 : ∃ i, i = (if six = true then n + 1 + 1 else n + 1) ∧ i ≤ s.length ∧ T = numU s n i six := by
      refine ⟨_, rfl, ?_, ?_⟩
      · cases six with
        | true => have := begR_one hsix; rw [List.length_drop] at this; rw [if_pos rfl]; omega
        | false => rw [if_neg (by decide)]; exact hn1
      · rw [← hT]
        unfold numT numL numU
        rw [hb1, if_pos rfl, List.drop_drop, List.drop_drop, hsix]
        cases six with
        | true =>
          rw [if_pos rfl, if_pos rfl]
          cases numQ true (s.drop (n + 2)) with
          | none => rfl
          | some x => show Value.tuple #[_, _, _] = _; simp; omega
        | false =>
          rw [if_neg (by decide), if_neg (by decide)]
          cases numQ false (s.drop (n + 1)) with
          | none => rfl
          | some x => show Value.tuple #[_, _, _] = _; simp; omega
    obtain ⟨i0, hi0, hi0s, hTU⟩ := hT2
    have BG3 := Lib.hid (fun (i : Nat) (hi : i ≤ s.length) W => BG.out [59] (by decide) i hi W)
    have HAA := Lib.hid ha
    rw [ha] at HB1 HB2 BG3 ⊢
    have HSZ := Lib.hid hsz
    have HXX := Lib.hid hX
    have HCU := Lib.hid hcut
    have HTU := Lib.hid hTU
    have hn1' : n + 1 ≤ a.size := by omega
    have hi0a : i0 ≤ a.size := by omega
    clear B1 B2 BG hb1 hT ha hX hcut hsix hsz hTU hn1 hn
    have hs2 : a.size ≤ 100000 := by have := HSZ.out; omega
    clear hs hi0s
    have HEX := Lib.hid (fun (k : Nat) (h1 : i0 ≤ k) (h2 : k ≤ a.size) (h3 : ∀ j (h : j < s.length), i0 ≤ j → j < k → isDg six s[j] = true) h4 => (by have := num_exit s n i0 k six (by have := HSZ.out; omega) h1 (by have := HSZ.out; omega) h3 h4; rw [HAA.out] at this; exact this : ∃ v : Int, (∀ W, Calls Tryd.prog 40 #[.string (a.extract i0 k), .bool six] W fun e w' => e = .returned (.int .i64 v) ∧ Below W.heap.size W w') ∧
      ((v = -1 ∧ numU s n i0 six = .tuple #[.string ⟨#[]⟩, .int .i64 (n : Int), .bool false]) ∨
       ∃ m : Nat, v = m ∧ m ≤ 1114112 ∧ ∃ b3, (∀ W, Calls Tryd.prog 21 #[.string a, .int .i64 (k : Int), .string ⟨#[59]⟩] W fun e w' => e = .returned (.bool b3) ∧ Below W.heap.size W w') ∧ (b3 = true → k + 1 ≤ s.length) ∧
         numU s n i0 six = .tuple #[.string (fixB m), .int .i64 ((k + if b3 = true then 1 else 0 : Nat) : Int), .bool true])))
    clear HAA
    cases six with
    | true =>
      rw [if_pos rfl] at hi0
      subst hi0
      go_enter Tryd.func22, Tryd.ntmps22
      go_wp2_with fail
      refine HB1.out.mono ?_
      rintro e w1 ⟨rfl, hb⟩
      have HW := Lib.hid hb
      clear hb
      go_wp2_with fail
      refine (HB2.out _).mono ?_
      rintro e w2 ⟨rfl, hb⟩
      replace HW := Lib.hid (HW.out.trans (hb.mono HW.out.size))
      clear hb
      go_wp2_with fail
      go_loopw [7] (fun v wx => ∃ k : Nat, v = .int .i64 (k : Int) ∧ (n + 1 + 1) ≤ k ∧ k ≤ a.size ∧ Hid (Below w.heap.size w wx) ∧ Hid (∀ j (h : j < s.length), (n + 1 + 1) ≤ j → j < k → isDg true s[j] = true)) (fun v _ => a.size - (intOf v).toNat)
      case atStart => exact ⟨(n + 1 + 1), by go_num, Nat.le_refl _, hi0a, HW, Lib.hid (fun j _ h1 h2 => by omega)⟩
      case round =>
        clear HW
        obtain ⟨k, rfl, hik, hk, HW, hD⟩ := hrel
        by_cases hlt : k < a.size
        · have hks : k < s.length := by have := HSZ.out; omega
          have hcg : a[k] = s[k] := by
            have := HXX.out k hlt
            rw [List.getElem?_eq_getElem hks] at this
            exact (Option.some.inj this).symm
          have HDG := Lib.hid (DG.out a[k])
          cases hdg : isDigB a[k] with
          | true =>
            have F : Hid (∀ W, Calls Tryd.prog 38 #[.int .u8 ((a[k].toNat : Nat) : Int)] W fun e w' => e = .returned (.bool true) ∧ Below W.heap.size W w') := Lib.hid (fun W => by rw [← hdg]; exact HDG.out W)
            have HN : Hid (∀ j (h : j < s.length), (n + 1 + 1) ≤ j → j < k + 1 → isDg true s[j] = true) := Lib.hid (fun j h h1 h2 => by
              by_cases e : j = k
              · subst e; rw [← hcg]; unfold isDg; rw [hdg]; rfl
              · exact hD.out j h h1 (by omega))
            clear hcg HDG hdg hD
            go_wp2_with fail
            refine (F.out _).mono ?_
            rintro e w4 ⟨rfl, hb⟩
            replace HW := Lib.hid (HW.out.trans (hb.mono HW.out.size))
            clear hb
            go_wp2_with fail
            go_roundw
            case rel => exact ⟨k + 1, by go_num, by omega, by omega, HW, HN⟩
            case measure => simp [intOf]; omega
          | false =>
            have F : Hid (∀ W, Calls Tryd.prog 38 #[.int .u8 ((a[k].toNat : Nat) : Int)] W fun e w' => e = .returned (.bool false) ∧ Below W.heap.size W w') := Lib.hid (fun W => by rw [← hdg]; exact HDG.out W)
            have HHX := Lib.hid (HX.out a[k])
            obtain ⟨x, hx⟩ : ∃ x, hexV a[k] = x := ⟨_, rfl⟩
            have F2 : Hid (∀ W, Calls Tryd.prog 39 #[.int .u8 ((a[k].toNat : Nat) : Int)] W fun e w' => e = .returned (.int .i64 x) ∧ Below W.heap.size W w') := Lib.hid (fun W => by rw [← hx]; exact HHX.out W)
            by_cases hx0 : 0 ≤ x
            · have q1 : decide ((0 : Int) ≤ x) = true := decide_eq_true hx0
              have HN : Hid (∀ j (h : j < s.length), (n + 1 + 1) ≤ j → j < k + 1 → isDg true s[j] = true) := Lib.hid (fun j h h1 h2 => by
                by_cases e : j = k
                · subst e; rw [← hcg]; unfold isDg; rw [hdg, hx, q1]; rfl
                · exact hD.out j h h1 (by omega))
              clear hcg HDG hdg hD hx HHX hx0
              go_wp2_with fail
              refine (F.out _).mono ?_
              rintro e w4 ⟨rfl, hb⟩
              replace HW := Lib.hid (HW.out.trans (hb.mono HW.out.size))
              clear hb
              go_wp2_with fail
              refine (F2.out _).mono ?_
              rintro e w4 ⟨rfl, hb⟩
              replace HW := Lib.hid (HW.out.trans (hb.mono HW.out.size))
              clear hb
              go_wp2_with fail
              go_roundw
              case rel => exact ⟨k + 1, by go_num, by omega, by omega, HW, HN⟩
              case measure => simp [intOf]; omega
            · have q1 : decide ((0 : Int) ≤ x) = false := decide_eq_false hx0
              have hstop : k = s.length ∨ ∃ h : k < s.length, isDg true s[k] = false := .inr ⟨hks, by rw [← hcg]; unfold isDg; rw [hdg, hx, q1]; rfl⟩
              clear hcg HDG hdg hx HHX hx0
              have HST := Lib.hid hstop
              clear hstop
              go_wp2_with fail
              refine (F.out _).mono ?_
              rintro e w4 ⟨rfl, hb⟩
              replace HW := Lib.hid (HW.out.trans (hb.mono HW.out.size))
              clear hb
              go_wp2_with fail
              refine (F2.out _).mono ?_
              rintro e w4 ⟨rfl, hb⟩
              replace HW := Lib.hid (HW.out.trans (hb.mono HW.out.size))
              clear hb
              have hstop := HST.out
              clear HST F F2
              have hE := HEX.out k hik hk (fun j h _ hj => hD.out j h (by omega) hj) hstop
              obtain ⟨v, FV, hv⟩ := hE
              have HFV := Lib.hid FV
              clear FV hstop
              rcases hv with ⟨rfl, hv⟩ | ⟨m, rfl, hm, b3, FB, hb3, hv⟩
              · have HV := Lib.hid (HTU.out.trans hv)
                clear hv
                go_wp2_with fail
                with_reducible refine (HFV.out _).mono ?_
                rintro e w5 ⟨rfl, hb⟩
                replace HW := Lib.hid (HW.out.trans (hb.mono HW.out.size))
                clear hb
                go_wp2_with fail
                go_ret3
                exact ⟨by rw [HV.out]; rfl, HW.out⟩
              · have HV := Lib.hid (HTU.out.trans hv)
                have HFB := Lib.hid FB
                have HFX := Lib.hid (FX.out m hm)
                have hb3' : b3 = true → k + 1 ≤ a.size := fun h => by have := hb3 h; have := HSZ.out; omega
                clear hv FB hb3
                go_wp2_with fail
                with_reducible refine (HFV.out _).mono ?_
                rintro e w5 ⟨rfl, hb⟩
                replace HW := Lib.hid (HW.out.trans (hb.mono HW.out.size))
                clear hb
                go_wp2_with fail
                with_reducible refine (HFB.out _).mono ?_
                rintro e w6 ⟨rfl, hb⟩
                replace HW := Lib.hid (HW.out.trans (hb.mono HW.out.size))
                clear hb
                cases b3 with
                | true =>
                  have hk1 := hb3' rfl
                  clear hb3'
                  go_wp2_with fail
                  with_reducible refine (HFX.out _).mono ?_
                  rintro e w7 ⟨rfl, hb⟩
                  replace HW := Lib.hid (HW.out.trans (hb.mono HW.out.size))
                  clear hb
                  go_wp2_with fail
                  go_ret3
                  exact ⟨by rw [HV.out]; simp only [if_true]; rfl, HW.out⟩
                | false =>
                  clear hb3'
                  go_wp2_with fail
                  with_reducible refine (HFX.out _).mono ?_
                  rintro e w7 ⟨rfl, hb⟩
                  replace HW := Lib.hid (HW.out.trans (hb.mono HW.out.size))
                  clear hb
                  go_wp2_with fail
                  go_ret3
                  exact ⟨by rw [HV.out]; rfl, HW.out⟩
        · obtain rfl : k = a.size := by omega
          have hstop : a.size = s.length ∨ ∃ h : a.size < s.length, isDg true s[a.size] = false := .inl (by have := HSZ.out; omega)
          clear DG
          have hE := HEX.out a.size hik hk (fun j h _ hj => hD.out j h (by omega) hj) hstop
          obtain ⟨v, FV, hv⟩ := hE
          have HFV := Lib.hid FV
          clear FV hstop
          rcases hv with ⟨rfl, hv⟩ | ⟨m, rfl, hm, b3, FB, hb3, hv⟩
          · have HV := Lib.hid (HTU.out.trans hv)
            clear hv
            go_wp2_with fail
            with_reducible refine (HFV.out _).mono ?_
            rintro e w5 ⟨rfl, hb⟩
            replace HW := Lib.hid (HW.out.trans (hb.mono HW.out.size))
            clear hb
            go_wp2_with fail
            go_ret3
            exact ⟨by rw [HV.out]; rfl, HW.out⟩
          · have HV := Lib.hid (HTU.out.trans hv)
            have HFB := Lib.hid FB
            have HFX := Lib.hid (FX.out m hm)
            have hb3' : b3 = true → a.size + 1 ≤ a.size := fun h => by have := hb3 h; have := HSZ.out; omega
            clear hv FB hb3
            go_wp2_with fail
            with_reducible refine (HFV.out _).mono ?_
            rintro e w5 ⟨rfl, hb⟩
            replace HW := Lib.hid (HW.out.trans (hb.mono HW.out.size))
            clear hb
            go_wp2_with fail
            with_reducible refine (HFB.out _).mono ?_
            rintro e w6 ⟨rfl, hb⟩
            replace HW := Lib.hid (HW.out.trans (hb.mono HW.out.size))
            clear hb
            cases b3 with
            | true =>
              have hk1 := hb3' rfl
              clear hb3'
              go_wp2_with fail
              with_reducible refine (HFX.out _).mono ?_
              rintro e w7 ⟨rfl, hb⟩
              replace HW := Lib.hid (HW.out.trans (hb.mono HW.out.size))
              clear hb
              go_wp2_with fail
              go_ret3
              exact ⟨by rw [HV.out]; simp only [if_true]; rfl, HW.out⟩
            | false =>
              clear hb3'
              go_wp2_with fail
              with_reducible refine (HFX.out _).mono ?_
              rintro e w7 ⟨rfl, hb⟩
              replace HW := Lib.hid (HW.out.trans (hb.mono HW.out.size))
              clear hb
              go_wp2_with fail
              go_ret3
              exact ⟨by rw [HV.out]; rfl, HW.out⟩
    | false =>
      rw [if_neg (by decide)] at hi0
      subst hi0
      go_enter Tryd.func22, Tryd.ntmps22
      go_wp2_with fail
      refine HB1.out.mono ?_
      rintro e w1 ⟨rfl, hb⟩
      have HW := Lib.hid hb
      clear hb
      go_wp2_with fail
      refine (HB2.out _).mono ?_
      rintro e w2 ⟨rfl, hb⟩
      replace HW := Lib.hid (HW.out.trans (hb.mono HW.out.size))
      clear hb
      go_wp2_with fail
      go_loopw [7] (fun v wx => ∃ k : Nat, v = .int .i64 (k : Int) ∧ (n + 1) ≤ k ∧ k ≤ a.size ∧ Hid (Below w.heap.size w wx) ∧ Hid (∀ j (h : j < s.length), (n + 1) ≤ j → j < k → isDg false s[j] = true)) (fun v _ => a.size - (intOf v).toNat)
      case atStart => exact ⟨(n + 1), by go_num, Nat.le_refl _, hi0a, HW, Lib.hid (fun j _ h1 h2 => by omega)⟩
      case round =>
        clear HW
        obtain ⟨k, rfl, hik, hk, HW, hD⟩ := hrel
        by_cases hlt : k < a.size
        · have hks : k < s.length := by have := HSZ.out; omega
          have hcg : a[k] = s[k] := by
            have := HXX.out k hlt
            rw [List.getElem?_eq_getElem hks] at this
            exact (Option.some.inj this).symm
          have HDG := Lib.hid (DG.out a[k])
          cases hdg : isDigB a[k] with
          | true =>
            have F : Hid (∀ W, Calls Tryd.prog 38 #[.int .u8 ((a[k].toNat : Nat) : Int)] W fun e w' => e = .returned (.bool true) ∧ Below W.heap.size W w') := Lib.hid (fun W => by rw [← hdg]; exact HDG.out W)
            have HN : Hid (∀ j (h : j < s.length), (n + 1) ≤ j → j < k + 1 → isDg false s[j] = true) := Lib.hid (fun j h h1 h2 => by
              by_cases e : j = k
              · subst e; rw [← hcg]; unfold isDg; rw [hdg]; rfl
              · exact hD.out j h h1 (by omega))
            clear hcg HDG hdg hD
            go_wp2_with fail
            refine (F.out _).mono ?_
            rintro e w4 ⟨rfl, hb⟩
            replace HW := Lib.hid (HW.out.trans (hb.mono HW.out.size))
            clear hb
            go_wp2_with fail
            go_roundw
            case rel => exact ⟨k + 1, by go_num, by omega, by omega, HW, HN⟩
            case measure => simp [intOf]; omega
          | false =>
            have F : Hid (∀ W, Calls Tryd.prog 38 #[.int .u8 ((a[k].toNat : Nat) : Int)] W fun e w' => e = .returned (.bool false) ∧ Below W.heap.size W w') := Lib.hid (fun W => by rw [← hdg]; exact HDG.out W)
            have hstop : k = s.length ∨ ∃ h : k < s.length, isDg false s[k] = false := .inr ⟨hks, by rw [← hcg]; unfold isDg; rw [hdg]; rfl⟩
            clear hcg HDG hdg
            have HST := Lib.hid hstop
            clear hstop
            go_wp2_with fail
            refine (F.out _).mono ?_
            rintro e w4 ⟨rfl, hb⟩
            replace HW := Lib.hid (HW.out.trans (hb.mono HW.out.size))
            clear hb
            have hstop := HST.out
            clear HST F
            have hE := HEX.out k hik hk (fun j h _ hj => hD.out j h (by omega) hj) hstop
            obtain ⟨v, FV, hv⟩ := hE
            have HFV := Lib.hid FV
            clear FV hstop
            rcases hv with ⟨rfl, hv⟩ | ⟨m, rfl, hm, b3, FB, hb3, hv⟩
            · have HV := Lib.hid (HTU.out.trans hv)
              clear hv
              go_wp2_with fail
              with_reducible refine (HFV.out _).mono ?_
              rintro e w5 ⟨rfl, hb⟩
              replace HW := Lib.hid (HW.out.trans (hb.mono HW.out.size))
              clear hb
              go_wp2_with fail
              go_ret3
              exact ⟨by rw [HV.out]; rfl, HW.out⟩
            · have HV := Lib.hid (HTU.out.trans hv)
              have HFB := Lib.hid FB
              have HFX := Lib.hid (FX.out m hm)
              have hb3' : b3 = true → k + 1 ≤ a.size := fun h => by have := hb3 h; have := HSZ.out; omega
              clear hv FB hb3
              go_wp2_with fail
              with_reducible refine (HFV.out _).mono ?_
              rintro e w5 ⟨rfl, hb⟩
              replace HW := Lib.hid (HW.out.trans (hb.mono HW.out.size))
              clear hb
              go_wp2_with fail
              with_reducible refine (HFB.out _).mono ?_
              rintro e w6 ⟨rfl, hb⟩
              replace HW := Lib.hid (HW.out.trans (hb.mono HW.out.size))
              clear hb
              cases b3 with
              | true =>
                have hk1 := hb3' rfl
                clear hb3'
                go_wp2_with fail
                with_reducible refine (HFX.out _).mono ?_
                rintro e w7 ⟨rfl, hb⟩
                replace HW := Lib.hid (HW.out.trans (hb.mono HW.out.size))
                clear hb
                go_wp2_with fail
                go_ret3
                exact ⟨by rw [HV.out]; simp only [if_true]; rfl, HW.out⟩
              | false =>
                clear hb3'
                go_wp2_with fail
                with_reducible refine (HFX.out _).mono ?_
                rintro e w7 ⟨rfl, hb⟩
                replace HW := Lib.hid (HW.out.trans (hb.mono HW.out.size))
                clear hb
                go_wp2_with fail
                go_ret3
                exact ⟨by rw [HV.out]; rfl, HW.out⟩
        · obtain rfl : k = a.size := by omega
          have hstop : a.size = s.length ∨ ∃ h : a.size < s.length, isDg false s[a.size] = false := .inl (by have := HSZ.out; omega)
          clear DG
          have hE := HEX.out a.size hik hk (fun j h _ hj => hD.out j h (by omega) hj) hstop
          obtain ⟨v, FV, hv⟩ := hE
          have HFV := Lib.hid FV
          clear FV hstop
          rcases hv with ⟨rfl, hv⟩ | ⟨m, rfl, hm, b3, FB, hb3, hv⟩
          · have HV := Lib.hid (HTU.out.trans hv)
            clear hv
            go_wp2_with fail
            with_reducible refine (HFV.out _).mono ?_
            rintro e w5 ⟨rfl, hb⟩
            replace HW := Lib.hid (HW.out.trans (hb.mono HW.out.size))
            clear hb
            go_wp2_with fail
            go_ret3
            exact ⟨by rw [HV.out]; rfl, HW.out⟩
          · have HV := Lib.hid (HTU.out.trans hv)
            have HFB := Lib.hid FB
            have HFX := Lib.hid (FX.out m hm)
            have hb3' : b3 = true → a.size + 1 ≤ a.size := fun h => by have := hb3 h; have := HSZ.out; omega
            clear hv FB hb3
            go_wp2_with fail
            with_reducible refine (HFV.out _).mono ?_
            rintro e w5 ⟨rfl, hb⟩
            replace HW := Lib.hid (HW.out.trans (hb.mono HW.out.size))
            clear hb
            go_wp2_with fail
            with_reducible refine (HFB.out _).mono ?_
            rintro e w6 ⟨rfl, hb⟩
            replace HW := Lib.hid (HW.out.trans (hb.mono HW.out.size))
            clear hb
            cases b3 with
            | true =>
              have hk1 := hb3' rfl
              clear hb3'
              go_wp2_with fail
              with_reducible refine (HFX.out _).mono ?_
              rintro e w7 ⟨rfl, hb⟩
              replace HW := Lib.hid (HW.out.trans (hb.mono HW.out.size))
              clear hb
              go_wp2_with fail
              go_ret3
              exact ⟨by rw [HV.out]; simp only [if_true]; rfl, HW.out⟩
            | false =>
              clear hb3'
              go_wp2_with fail
              with_reducible refine (HFX.out _).mono ?_
              rintro e w7 ⟨rfl, hb⟩
              replace HW := Lib.hid (HW.out.trans (hb.mono HW.out.size))
              clear hb
              go_wp2_with fail
              go_ret3
              exact ⟨by rw [HV.out]; rfl, HW.out⟩
end Go.Proofs.YtdheknlnhfegnaaDoor.Hand

namespace Go.Proofs.YtdheknlnhfegnaaDoor.Hand
open Go Go.RowKit Go.Proofs.YtdheknlnhfegnaaDoor.Pl Go.Proofs.YtdheknlnhfegnaaDoor.Pb Go.Proofs.YtdheknlnhfegnaaDoor.Sa Go.Proofs.YtdheknlnhfegnaaDoor.Pure Go.Proofs.YtdheknlnhfegnaaDoorW.PrintWords

def isLetB (c : UInt8) : Bool := (decide (65 ≤ c.toNat) && decide (c.toNat ≤ 90)) || (decide (97 ≤ c.toNat) && decide (c.toNat ≤ 122))
def keptB (c : UInt8) : Bool := c == 61 || (isLetB c || isDigB c)
def keptL : List UInt8 → Bool
  | [] => false
  | c :: _ => keptB c
/-- a short name is left as it is -/
def leftL (attr : Bool) (name after : List UInt8) : Bool := attr && (!Lib.hasSuffix name [59] && keptL after)
/-- what is told of what begins with an ampersand -/
inductive RefR (s : List UInt8) (n : Nat) (attr : Bool) : Value → Prop
  | no (h : begR (s.drop n) [38] = false) : RefR s n attr (.tuple #[.string ⟨#[]⟩, .int .i64 (n : Int)])
  | num (h : begR (s.drop n) [38] = true) (m k : Nat) (h2 : numL (s.drop (n + 1)) = some (m, k)) : RefR s n attr (.tuple #[.string (fixB m), .int .i64 ((n + 1 + k : Nat) : Int)])
  | left (h : begR (s.drop n) [38] = true) (h2 : numL (s.drop (n + 1)) = none) (k : Nat) (h3 : Lng namesL (s.drop (n + 1)) k) (h4 : k = 0 ∨ leftL attr ((s.drop (n + 1)).take k) (s.drop (n + 1 + k)) = true) :
      RefR s n attr (.tuple #[.string (B ((s.drop n).take (k + 1))), .int .i64 ((n + 1 + k : Nat) : Int)])
  | name (h : begR (s.drop n) [38] = true) (h2 : numL (s.drop (n + 1)) = none) (k : Nat) (h3 : Lng namesL (s.drop (n + 1)) k) (h4 : k ≠ 0) (h5 : leftL attr ((s.drop (n + 1)).take k) (s.drop (n + 1 + k)) = false)
      (rest : List UInt8) (h6 : Fnd namesL ((s.drop (n + 1)).take k) (some rest)) : RefR s n attr (.tuple #[.string (textB (num1 rest) (num2 rest)), .int .i64 ((n + 1 + k : Nat) : Int)])
set_option maxRecDepth 100000 in
theorem or32 : ∀ x : Fin 256, decide (97 ≤ Go.bits .or .u8 ((x.val : Nat) : Int) 32 ∧ Go.bits .or .u8 ((x.val : Nat) : Int) 32 ≤ 122) = ((decide (65 ≤ x.val) && decide (x.val ≤ 90)) || (decide (97 ≤ x.val) && decide (x.val ≤ 122))) := by decide
theorem letter_f (c : UInt8) : sign_Letter.f (c.toNat : Int) = some (isLetB c) := by
  have h := or32 ⟨c.toNat, c.toNat_lt⟩
  unfold sign_Letter.f sign_within.f isLetB
  rw [← h]
  by_cases h1 : Go.bits .or .u8 ((c.toNat : Nat) : Int) 32 ≥ 97
  · rw [if_pos h1, Option.bind_some]
    congr 1
    rw [Bool.eq_iff_iff, decide_eq_true_eq, decide_eq_true_eq]
    exact ⟨fun h => ⟨h1, h⟩, fun h => h.2⟩
  · rw [if_neg h1, Option.bind_some]
    congr 1
    exact (decide_eq_false (fun h => h1 h.1)).symm
theorem kept_f (s : List UInt8) (n : Nat) (hn : n ≤ s.length) : ref_kept.f (B s) (n : Int) = some (keptL (s.drop n)) := by
  unfold ref_kept.f
  rcases Nat.lt_or_ge n s.length with h | h
  · have hd := List.drop_eq_getElem_cons h
    rw [if_pos (by rw [size_B]; omega), if_pos (by omega), hd, bt_drop s n _ _ hd]
    unfold keptL keptB
    by_cases h61 : s[n] = 61
    · rw [h61]; rfl
    · rw [if_neg (fun e => h61 (UInt8.toNat_inj.1 (show s[n].toNat = 61 by omega)))]
      unfold sign_Word.f
      rw [letter_f, digit_f]
      simp only [Option.bind_some]
      rw [show (s[n] == 61) = false by rw [beq_eq_false_iff_ne]; exact h61]
      cases isLetB s[n] <;> rfl
  · rw [if_neg (by rw [size_B]; omega), List.drop_eq_nil_of_le h]; rfl
theorem kept_c (s : List UInt8) (n : Nat) (hn : n ≤ s.length) (w : World) : Calls Tryd.prog 26 #[.string (B s), .int .i64 (n : Int)] w fun e w' => e = .returned (.bool (keptL (s.drop n))) ∧ Below w.heap.size w w' :=
  (ref_kept.calls _ _ _ w (kept_f s n hn)).mono fun _ _ h => ⟨h.1, h.2.below⟩
set_option maxRecDepth 100000 in
set_option maxHeartbeats 8000000 in
theorem read_c (s : List UInt8) (n : Nat) (attr : Bool) (hs : s.length ≤ 100000) (hn : n ≤ s.length) (w : World) (hGl : Glob w) (hGE : GlobE w) :
    Calls Tryd.prog 16 #[.string (B s), .int .i64 (n : Int), .bool attr] w fun e w' => (∃ v, RefR s n attr v ∧ e = .returned v) ∧ Below w.heap.size w w' := by
  have BG := Lib.hid (nbegins_c s [38] n (by omega) (by decide) hn w)
  have HG := Lib.hid hGl
  have HE := Lib.hid hGE
  obtain ⟨a, ha⟩ : ∃ a, B s = a := ⟨_, rfl⟩
  have HA := Lib.hid ha
  have hsz : a.size = s.length := by rw [← ha]; simp
  obtain ⟨b1, hb1⟩ : ∃ b, begR (s.drop n) [38] = b := ⟨_, rfl⟩
  rw [hb1, ha] at BG
  rw [ha]
  have hB1 := Lib.hid hb1
  cases b1 with
  | false =>
    clear ha hsz hb1 hs hn hGl hGE
    go_enter Tryd.func16, Tryd.ntmps16
    go_wp2_with fail
    refine BG.out.mono ?_
    rintro e w1 ⟨rfl, hb⟩
    go_wp2_with fail
    go_ret2
    exact ⟨⟨_, RefR.no hB1.out, rfl⟩, hb⟩
  | true =>
    have hn1 : n + 1 ≤ s.length := by have := begR_one hb1; rw [List.length_drop] at this; omega
    have NR := Lib.hid (fun W => number_c s (n + 1) hs hn1 W)
    have LR := Lib.hid (fun W hG => nlongest_c s (n + 1) (by omega) hn1 (of_decide_eq_true names_size) W hG)
    have hHS := Lib.hid hs
    have HSZ := Lib.hid hsz
    have HN1 := Lib.hid hn1
    rw [ha] at NR LR
    have hn1a : n + 1 ≤ a.size := by omega
    have hza : a.size ≤ 100000 := by omega
    cases hnl : numL (s.drop (n + 1)) with
    | some mk =>
      obtain ⟨m, k⟩ := mk
      have hT : numT s (n + 1) = .tuple #[.string (fixB m), .int .i64 ((n + 1 + k : Nat) : Int), .bool true] := by unfold numT; rw [hnl]
      rw [hT] at NR
      have HNL := Lib.hid hnl
      clear ha hsz hb1 hs hn hGl hGE hnl hT hn1 LR
      go_enter Tryd.func16, Tryd.ntmps16
      go_wp2_with fail
      refine BG.out.mono ?_
      rintro e w1 ⟨rfl, hb⟩
      have HW := Lib.hid hb
      clear hb
      go_wp2_with fail
      refine (NR.out _).mono ?_
      rintro e w2 ⟨rfl, hb⟩
      replace HW := Lib.hid (HW.out.trans (hb.mono HW.out.size))
      clear hb
      go_wp2_with fail
      go_ret2
      exact ⟨⟨_, RefR.num hB1.out m k HNL.out, rfl⟩, HW.out⟩
    | none =>
      have hT : numT s (n + 1) = .tuple #[.string ⟨#[]⟩, .int .i64 ((n + 1 : Nat) : Int), .bool false] := by unfold numT; rw [hnl]
      rw [hT] at NR
      have hNL := Lib.hid hnl
      clear ha hsz hb1 hs hn hGl hGE hnl hT hn1
      go_enter Tryd.func16, Tryd.ntmps16
      go_wp2_with fail
      refine BG.out.mono ?_
      rintro e w1 ⟨rfl, hb⟩
      have HW := Lib.hid hb
      clear hb
      go_wp2_with fail
      refine (NR.out _).mono ?_
      rintro e w2 ⟨rfl, hb⟩
      replace HW := Lib.hid (HW.out.trans (hb.mono HW.out.size))
      clear hb
      go_wp2_with fail
      refine (LR.out _ (HG.out.step HW.out)).mono ?_
      rintro e w3 ⟨⟨k, hlg, rfl⟩, hb⟩
      replace HW := Lib.hid (HW.out.trans (hb.mono HW.out.size))
      have hLG := Lib.hid hlg
      have hka : n + 1 + k ≤ a.size := by
        have h1 := hlg.le
        rw [List.length_drop] at h1
        have := HSZ.out
        omega
      have hnm : a.extract (n + 1) (n + 1 + k) = B ((s.drop (n + 1)).take k) := by rw [← HA.out, B_extract, List.drop_take, Nat.add_sub_cancel_left]
      have hct : a.extract n (n + 1 + k) = B ((s.drop n).take (k + 1)) := by rw [← HA.out, B_extract, List.drop_take, show n + 1 + k - n = k + 1 by omega]
      have HCUT := Lib.hid hct
      have V := nvalue_c ((s.drop (n + 1)).take k) w3 (HG.out.step HW.out) (HE.out.step HW.out)
      rw [← hnm] at V
      have HV := Lib.hid V
      have HNM := Lib.hid hnm
      clear hb hlg hnm hct V NR LR BG
      go_wp2_with fail
      refine HV.out.mono ?_
      rintro e w4 ⟨⟨r, hf, rfl⟩, hb⟩
      replace HW := Lib.hid (HW.out.trans (hb.mono HW.out.size))
      have HF := Lib.hid hf
      clear hb hf HV
      by_cases hk0 : k = 0
      · have hv : nvalV ((s.drop (n + 1)).take k) r = .tuple #[.complex .f64 0 0, .bool false] := by
          rw [hk0, List.take_zero]
          cases r <;> rfl
        rw [hv]
        clear hv
        have HK0 := Lib.hid hk0
        clear hk0
        go_wp2_with fail
        go_ret2
        refine ⟨⟨_, RefR.left hB1.out hNL.out k hLG.out (.inl HK0.out), ?_⟩, HW.out⟩
        rw [← HCUT.out]; rfl
      · have hkey : isKey namesL ((s.drop (n + 1)).take k) := by
          rcases hLG.out.key with h | h
          · exact absurd h hk0
          · exact h
        obtain ⟨rest, rfl⟩ : ∃ rest, r = some rest := by
          cases r with
          | some rest => exact ⟨rest, rfl⟩
          | none =>
            obtain ⟨p, h1, h2⟩ := hkey
            rcases HF.out with ⟨_, _, _, e⟩ | ⟨e, _⟩
            · cases e
            · exact absurd h2 (e p h1)
        obtain ⟨hro, hkn, _⟩ := fnd_rest HF.out
        have hv : nvalV ((s.drop (n + 1)).take k) (some rest) = .tuple #[.complex .f64 (fW (num1 rest)) (fW (num2 rest)), .bool true] := by unfold nvalV; simp only [hkn, if_false]
        rw [hv]
        obtain ⟨l1, l2⟩ := num_lt hro
        have HTX := Lib.hid (fun W => ntext_c (num1 rest) (num2 rest) l1 l2 W)
        have hkl : ((s.drop (n + 1)).take k).length ≤ 1000000 := by rw [List.length_take, List.length_drop]; have := hHS.out; omega
        have SH := fun W hG hE => nshort_c ((s.drop (n + 1)).take k) hkey hkl W hG hE
        have KP := fun W => kept_c s (n + 1 + k) (by have := HSZ.out; omega) W
        rw [HA.out] at KP
        rw [← HNM.out] at SH
        obtain ⟨bs, hbs⟩ : ∃ b, Lib.hasSuffix ((s.drop (n + 1)).take k) [59] = b := ⟨_, rfl⟩
        obtain ⟨kp, hkp⟩ : ∃ b, keptL (s.drop (n + 1 + k)) = b := ⟨_, rfl⟩
        rw [hbs] at SH
        rw [hkp] at KP
        have HSH := Lib.hid SH
        have HKP := Lib.hid KP
        have HLL : Hid (leftL attr ((s.drop (n + 1)).take k) (s.drop (n + 1 + k)) = (attr && (!bs && kp))) := Lib.hid (by unfold leftL; rw [hbs, hkp])
        obtain ⟨t1, ht1⟩ : ∃ t, textB (num1 rest) (num2 rest) = t := ⟨_, rfl⟩
        clear hv hkey hro hkn l1 l2 hkl SH KP hbs hkp ht1 t1
        cases attr with
        | false =>
          go_wp2_with fail
          refine (HTX.out _).mono ?_
          rintro e w8 ⟨rfl, rfl⟩
          go_wp2_with fail
          go_ret2
          exact ⟨⟨_, RefR.name hB1.out hNL.out k hLG.out (by omega) (by rw [HLL.out]; rfl) rest HF.out, rfl⟩, HW.out⟩
        | true =>
          go_wp2_with fail
          refine (HSH.out _ (HG.out.step HW.out) (HE.out.step HW.out)).mono ?_
          rintro e w5 ⟨rfl, hb⟩
          replace HW := Lib.hid (HW.out.trans (hb.mono HW.out.size))
          clear hb HSH
          cases bs with
          | true =>
            go_wp2_with fail
            refine (HTX.out _).mono ?_
            rintro e w8 ⟨rfl, rfl⟩
            go_wp2_with fail
            go_ret2
            exact ⟨⟨_, RefR.name hB1.out hNL.out k hLG.out (by omega) (by rw [HLL.out]; rfl) rest HF.out, rfl⟩, HW.out⟩
          | false =>
            go_wp2_with fail
            refine (HKP.out _).mono ?_
            rintro e w6 ⟨rfl, hb⟩
            replace HW := Lib.hid (HW.out.trans (hb.mono HW.out.size))
            clear hb HKP
            cases kp with
            | true =>
              go_wp2_with fail
              go_ret2
              refine ⟨⟨_, RefR.left hB1.out hNL.out k hLG.out (.inr (by rw [HLL.out]; rfl)), ?_⟩, HW.out⟩
              rw [← HCUT.out]; rfl
            | false =>
              go_wp2_with fail
              refine (HTX.out _).mono ?_
              rintro e w8 ⟨rfl, rfl⟩
              go_wp2_with fail
              go_ret2
              exact ⟨⟨_, RefR.name hB1.out hNL.out k hLG.out (by omega) (by rw [HLL.out]; rfl) rest HF.out, rfl⟩, HW.out⟩
end Go.Proofs.YtdheknlnhfegnaaDoor.Hand

namespace Go.Proofs.YtdheknlnhfegnaaDoor.Hand
open Go Go.RowKit Go.Proofs.YtdheknlnhfegnaaDoor.Pl Go.Proofs.YtdheknlnhfegnaaDoor.Pb

theorem RefR.next {s : List UInt8} {n : Nat} {attr : Bool} {v : Value} (h : RefR s n attr v) (hb : begR (s.drop n) [38] = true) : ∃ t m, v = .tuple #[.string t, .int .i64 ((m : Nat) : Int)] ∧ n + 1 ≤ m ∧ m ≤ s.length := by
  have hn : n + 1 ≤ s.length := by have := begR_one hb; rw [List.length_drop] at this; omega
  cases h with
  | no h => rw [hb] at h; cases h
  | num h m k h2 =>
    have := (numL_le h2).2.1
    rw [List.length_drop] at this
    exact ⟨_, _, rfl, by omega, by omega⟩
  | left h h2 k h3 h4 =>
    have := h3.le
    rw [List.length_drop] at this
    exact ⟨_, _, rfl, by omega, by omega⟩
  | name h h2 k h3 h4 h5 rest h6 =>
    have := h3.le
    rw [List.length_drop] at this
    exact ⟨_, _, rfl, by omega, by omega⟩
/-- each reference from a place on ends, or not -/
inductive Whl (s : List UInt8) (attr : Bool) : Nat → Bool → Prop
  | stop (i : Nat) (h : ∀ k : Nat, (s.drop i)[k]? ≠ some 38) : Whl s attr i true
  | bad (i o m : Nat) (t : ByteArray) (h1 : (s.drop i)[o]? = some 38) (h2 : ∀ k, k < o → (s.drop i)[k]? ≠ some 38) (h3 : RefR s (i + o) attr (.tuple #[.string t, .int .i64 (m : Int)])) (h4 : s[m - 1]? ≠ some 59) : Whl s attr i false
  | go (i o m : Nat) (t : ByteArray) (b : Bool) (h1 : (s.drop i)[o]? = some 38) (h2 : ∀ k, k < o → (s.drop i)[k]? ≠ some 38) (h3 : RefR s (i + o) attr (.tuple #[.string t, .int .i64 (m : Int)])) (h4 : s[m - 1]? = some 59) (h5 : Whl s attr m b) : Whl s attr i b
theorem begR_amp {s : List UInt8} {i o : Nat} (h : (s.drop i)[o]? = some 38) : begR (s.drop (i + o)) [38] = true := by
  rw [List.getElem?_drop] at h
  obtain ⟨hl, he⟩ := List.getElem?_eq_some_iff.1 h
  rw [List.drop_eq_getElem_cons hl, he]
  simp [begR, show lowB 38 = 38 by decide]
theorem bytes_at {s : List UInt8} {m : Nat} (h1 : 1 ≤ m) (h2 : m ≤ s.length) : s[m - 1]? = some (s[m - 1]'(by omega)) := List.getElem?_eq_getElem (by omega)
set_option maxRecDepth 100000 in
set_option maxHeartbeats 8000000 in
theorem whole_c (s : List UInt8) (attr : Bool) (hs : s.length ≤ 100000) (w : World) (hGl : Glob w) (hGE : GlobE w) :
    Calls Tryd.prog 8 #[.string (B s), .bool attr] w fun e w' => (∃ b, Whl s attr 0 b ∧ e = .returned (.bool b)) ∧ Below w.heap.size w w' := by
  have HG := Lib.hid hGl
  have HE := Lib.hid hGE
  have RD := Lib.hid (fun n (hn : n ≤ s.length) W hG hE => read_c s n attr hs hn W hG hE)
  obtain ⟨a, ha⟩ : ∃ a, B s = a := ⟨_, rfl⟩
  have hsz : a.size = s.length := by rw [← ha]; simp
  have hx : ∀ i, (a.extract i a.size).data.toList = s.drop i := fun i => by rw [← ha, size_B, B_extract, List.take_length, B_data]
  have hb : ∀ i (h : i < a.size), s[i]? = some a[i] := fun i h => by
    subst ha
    rw [List.getElem?_eq_getElem (by simpa using h)]; rfl
  rw [ha] at RD ⊢
  have HX := Lib.hid hx
  have HBY := Lib.hid hb
  have HSZ := Lib.hid hsz
  have hza : a.size ≤ 100000 := by omega
  clear hs hGl hGE ha hsz hx hb
  go_enter Tryd.func8, Tryd.ntmps8
  go_wp2_with fail
  go_loopw [5] (fun v wx => ∃ i : Nat, v = .int .i64 (i : Int) ∧ i ≤ a.size ∧ Hid (Below w.heap.size w wx) ∧ Hid (∀ b, Whl s attr i b → Whl s attr 0 b)) (fun v _ => a.size - (intOf v).toNat)
  case atStart => exact ⟨0, rfl, Nat.zero_le _, Lib.hid (Below.refl _ _), Lib.hid (fun _ h => h)⟩
  case round =>
    obtain ⟨i, rfl, hi, HW, HR⟩ := hrel
    have I := fun W => Tryd.strings_IndexByte (a.extract i a.size) 38 W
    rw [HX.out i] at I
    rcases Int.lt_or_le (Lib.indexByte (s.drop i) 38) 0 with h | h
    · have h1 : Lib.indexByte (s.drop i) 38 = -1 := by have := Lib.indexByte_ge (s.drop i) 38; omega
      have I2 : Hid (∀ W, Calls Tryd.prog 15 #[.string (a.extract i a.size), .int .u8 38] W fun e w' => e = .returned (.int .i64 (-1)) ∧ w' = W) := Lib.hid (fun W => by rw [← h1]; exact I W)
      have HN := Lib.hid (HR.out true (Whl.stop i (fun k => Lib.indexByte_none h1 k)))
      clear I h h1
      go_wp2_with fail
      refine (I2.out _).mono ?_
      rintro e w1 ⟨rfl, rfl⟩
      go_wp2_with fail
      go_ret
      exact ⟨⟨true, HN.out, rfl⟩, HW.out⟩
    · obtain ⟨o, ho⟩ : ∃ o : Nat, Lib.indexByte (s.drop i) 38 = o := ⟨_, (Int.toNat_of_nonneg h).symm⟩
      have I2 : Hid (∀ W, Calls Tryd.prog 15 #[.string (a.extract i a.size), .int .u8 38] W fun e w' => e = .returned (.int .i64 (o : Int)) ∧ w' = W) := Lib.hid (fun W => by rw [← ho]; exact I W)
      obtain ⟨h1, h2⟩ := Lib.indexByte_some ho
      have hba := begR_amp h1
      have hio : i + o < a.size := by
        obtain ⟨hl, _⟩ := List.getElem?_eq_some_iff.1 h1
        rw [List.length_drop] at hl
        have := HSZ.out
        omega
      have H1 := Lib.hid h1
      have H2 := Lib.hid h2
      have RI := fun W hG hE => RD.out (i + o) (by have := HSZ.out; omega) W hG hE
      have HRI := Lib.hid RI
      have HBA := Lib.hid hba
      clear I h ho h1 h2 hba RI
      go_wp2_with fail
      refine (I2.out _).mono ?_
      rintro e w1 ⟨rfl, rfl⟩
      go_wp2_with fail
      refine (HRI.out _ (HG.out.step HW.out) (HE.out.step HW.out)).mono ?_
      rintro e w2 ⟨⟨v, hv, rfl⟩, hb⟩
      have HW2 := Lib.hid (HW.out.trans (hb.mono HW.out.size))
      obtain ⟨t, m, rfl, hm1, hm2⟩ := hv.next HBA.out
      have HV := Lib.hid hv
      have hmz : m ≤ a.size := by have := HSZ.out; omega
      have hm0 : m - 1 < a.size := by omega
      have hby := HBY.out (m - 1) hm0
      have hm3 : 0 < m := by omega
      have hmi : ((m : Int) - 1) = ((m - 1 : Nat) : Int) := by omega
      by_cases h59 : a[m - 1] = 59
      · have q1 : (((a[m - 1].toNat : Nat) : Int) != 59) = false := by rw [h59]; rfl
        have HN : Hid (∀ b, Whl s attr m b → Whl s attr 0 b) := Lib.hid (fun b h => HR.out b (Whl.go i o m t b H1.out H2.out HV.out (by rw [hby, h59]) h))
        clear hb hv hby h59 hm2
        go_wp2_with fail
        go_roundw
        case rel => exact ⟨m, rfl, hmz, HW2, HN⟩
        case measure => simp [intOf]; omega
      · have q1 : (((a[m - 1].toNat : Nat) : Int) != 59) = true := by
          rw [bne_iff_ne]
          intro e
          exact h59 (UInt8.toNat_inj.1 (show a[m - 1].toNat = 59 by omega))
        have HN := Lib.hid (HR.out false (Whl.bad i o m t H1.out H2.out HV.out (by rw [hby]; intro e; exact h59 (Option.some.inj e))))
        clear hb hv hby h59 hm2
        go_wp2_with fail
        go_ret
        exact ⟨⟨false, HN.out, rfl⟩, HW2.out⟩
end Go.Proofs.YtdheknlnhfegnaaDoor.Hand

namespace Go.Proofs.YtdheknlnhfegnaaDoor.Hand
open Go Go.RowKit Go.Proofs.YtdheknlnhfegnaaDoor.Pl Go.Proofs.YtdheknlnhfegnaaDoor.Pb

def hasB (s : List UInt8) (c : UInt8) : Bool := decide (c ∈ s)
theorem index_has (c : UInt8) : ∀ s : List UInt8, decide (0 ≤ Lib.indexByte s c) = hasB s c := by
  intro s
  unfold hasB
  rw [Bool.eq_iff_iff, decide_eq_true_eq, decide_eq_true_eq]
  constructor
  · intro h
    obtain ⟨o, ho⟩ : ∃ o : Nat, Lib.indexByte s c = o := ⟨_, (Int.toNat_of_nonneg h).symm⟩
    exact List.mem_of_getElem? (Lib.indexByte_some ho).1
  · intro h
    rcases Int.lt_or_le (Lib.indexByte s c) 0 with h' | h'
    · exfalso
      have h1 : Lib.indexByte s c = -1 := by have := Lib.indexByte_ge s c; omega
      obtain ⟨k, hk, he⟩ := List.getElem_of_mem h
      exact Lib.indexByte_none h1 k (by rw [List.getElem?_eq_getElem hk, he])
    · exact h'
/-- is a text just text in a state? -/
def SafeR (s : List UInt8) (st : Int) (b : Bool) : Prop :=
  if hasB s 13 = true then b = false
  else if st = 0 ∨ st = 1 then ∃ x, Whl s false 0 x ∧ b = (x && !hasB s 60)
  else if st = 2 ∨ st = 3 then b = !hasB s 60
  else if st = 4 then b = true
  else if st = 6 then (hasB s 39 = true ∧ b = false) ∨ (hasB s 39 = false ∧ Whl s true 0 b)
  else if st = 5 then (hasB s 34 = true ∧ b = false) ∨ (hasB s 34 = false ∧ Whl s true 0 b)
  else b = false
def SafeP (s : List UInt8) (st : Int) (e : Ending) : Prop := ∃ b, SafeR s st b ∧ e = .returned (.bool b)
theorem norm_has (s : List UInt8) : (normL s == s) = !hasB s 13 := by
  unfold hasB
  by_cases h : 13 ∈ s
  · rw [decide_eq_true h, beq_eq_false_iff_ne.2]; rfl
    intro e
    have := normL_no13 s
    rw [e] at this
    exact this h
  · rw [decide_eq_false h, normL_of_no13 h]; simp
set_option maxRecDepth 100000 in
set_option maxHeartbeats 8000000 in
theorem safe_c (s : List UInt8) (st : Int) (hs : s.length ≤ 100000) (w : World) (hGl : Glob w) (hGE : GlobE w) :
    Calls Tryd.prog 10 #[.int .i64 st, .string (B s)] w fun e w' => SafeP s st e ∧ Below w.heap.size w w' := by
  have HG := Lib.hid hGl
  have HE := Lib.hid hGE
  have HWH := Lib.hid (fun attr W hG hE => whole_c s attr hs W hG hE)
  have HC := Lib.hid (fun (c : UInt8) W => (by have := Tryd.strings_Contains_one (B s) c W; rw [B_data, index_has] at this; exact this : Calls Tryd.prog 19 #[.string (B s), .string ⟨#[c]⟩] W fun e w' => e = .returned (.bool (hasB s c)) ∧ w' = W))
  have NM : ∀ W, Calls Tryd.prog 18 #[.string (B s)] W fun e w' => e = .returned (.string (B (normL s))) ∧ Below W.heap.size W w' := fun W => by
    have := norm_any (B s) W (by rw [size_B]; omega)
    rw [B_data] at this
    exact this
  have e1 : ((B (normL s)).toList == (B s).toList) = !hasB s 13 := by rw [toList_B, toList_B]; exact norm_has s
  have HN := Lib.hid NM
  obtain ⟨a, ha⟩ : ∃ a, B s = a := ⟨_, rfl⟩
  obtain ⟨nm, hnm⟩ : ∃ a, B (normL s) = a := ⟨_, rfl⟩
  rw [ha] at HWH HC HN e1 ⊢
  rw [hnm] at HN e1
  have e2 : (nm.toList != a.toList) = hasB s 13 := by rw [bne, e1]; simp
  obtain ⟨h13, hh13⟩ : ∃ b, hasB s 13 = b := ⟨_, rfl⟩
  obtain ⟨h60, hh60⟩ : ∃ b, hasB s 60 = b := ⟨_, rfl⟩
  obtain ⟨h39, hh39⟩ : ∃ b, hasB s 39 = b := ⟨_, rfl⟩
  obtain ⟨h34, hh34⟩ : ∃ b, hasB s 34 = b := ⟨_, rfl⟩
  have C60 : Hid (∀ W, Calls Tryd.prog 19 #[.string a, .string ⟨#[60]⟩] W fun e w' => e = .returned (.bool h60) ∧ w' = W) := Lib.hid (fun W => by rw [← hh60]; exact HC.out 60 W)
  have C39 : Hid (∀ W, Calls Tryd.prog 19 #[.string a, .string ⟨#[39]⟩] W fun e w' => e = .returned (.bool h39) ∧ w' = W) := Lib.hid (fun W => by rw [← hh39]; exact HC.out 39 W)
  have C34 : Hid (∀ W, Calls Tryd.prog 19 #[.string a, .string ⟨#[34]⟩] W fun e w' => e = .returned (.bool h34) ∧ w' = W) := Lib.hid (fun W => by rw [← hh34]; exact HC.out 34 W)
  rw [hh13] at e1 e2
  have K13 := Lib.hid hh13
  have K60 := Lib.hid hh60
  have K39 := Lib.hid hh39
  have K34 := Lib.hid hh34
  clear NM ha hnm hh13 hh60 hh39 hh34 hGl hGE hs HC
  cases h13 with
  | true =>
    go_enter Tryd.func10, Tryd.ntmps10
    go_wp2_with fail
    refine (HN.out _).mono ?_
    rintro e w1 ⟨rfl, hb⟩
    have HW := Lib.hid hb
    clear hb
    go_wp2_with fail
    go_ret
    exact ⟨⟨false, by unfold SafeR; rw [K13.out, if_pos rfl], rfl⟩, HW.out⟩
  | false =>
    rw [Bool.not_false] at e1
    by_cases s01 : st = 0 ∨ st = 1
    · rcases s01 with rfl | rfl
      · go_enter Tryd.func10, Tryd.ntmps10
        go_wp2_with fail
        refine (HN.out _).mono ?_
        rintro e w1 ⟨rfl, hb⟩
        have HW := Lib.hid hb
        clear hb
        go_wp2_with fail
        refine (HWH.out false _ (HG.out.step HW.out) (HE.out.step HW.out)).mono ?_
        rintro e w2 ⟨⟨x, hx, rfl⟩, hb⟩
        replace HW := Lib.hid (HW.out.trans (hb.mono HW.out.size))
        have HX := Lib.hid hx
        clear hb hx
        cases x with
        | false =>
          go_wp2_with fail
          go_ret
          exact ⟨⟨false, by unfold SafeR; rw [K13.out, if_neg (by decide), if_pos (by decide)]; exact ⟨false, HX.out, rfl⟩, rfl⟩, HW.out⟩
        | true =>
          go_wp2_with fail
          refine (C60.out _).mono ?_
          rintro e w3 ⟨rfl, rfl⟩
          go_wp2_with fail
          go_ret
          exact ⟨⟨_, by unfold SafeR; rw [K13.out, if_neg (by decide), if_pos (by decide)]; exact ⟨true, HX.out, by rw [K60.out]; rfl⟩, rfl⟩, HW.out⟩
      · go_enter Tryd.func10, Tryd.ntmps10
        go_wp2_with fail
        refine (HN.out _).mono ?_
        rintro e w1 ⟨rfl, hb⟩
        have HW := Lib.hid hb
        clear hb
        go_wp2_with fail
        refine (HWH.out false _ (HG.out.step HW.out) (HE.out.step HW.out)).mono ?_
        rintro e w2 ⟨⟨x, hx, rfl⟩, hb⟩
        replace HW := Lib.hid (HW.out.trans (hb.mono HW.out.size))
        have HX := Lib.hid hx
        clear hb hx
        cases x with
        | false =>
          go_wp2_with fail
          go_ret
          exact ⟨⟨false, by unfold SafeR; rw [K13.out, if_neg (by decide), if_pos (by decide)]; exact ⟨false, HX.out, rfl⟩, rfl⟩, HW.out⟩
        | true =>
          go_wp2_with fail
          refine (C60.out _).mono ?_
          rintro e w3 ⟨rfl, rfl⟩
          go_wp2_with fail
          go_ret
          exact ⟨⟨_, by unfold SafeR; rw [K13.out, if_neg (by decide), if_pos (by decide)]; exact ⟨true, HX.out, by rw [K60.out]; rfl⟩, rfl⟩, HW.out⟩
    by_cases s23 : st = 2 ∨ st = 3
    · rcases s23 with rfl | rfl
      · go_enter Tryd.func10, Tryd.ntmps10
        go_wp2_with fail
        refine (HN.out _).mono ?_
        rintro e w1 ⟨rfl, hb⟩
        have HW := Lib.hid hb
        clear hb
        go_wp2_with fail
        refine (C60.out _).mono ?_
        rintro e w3 ⟨rfl, rfl⟩
        go_wp2_with fail
        go_ret
        exact ⟨⟨_, by unfold SafeR; rw [K13.out, if_neg (by decide), if_neg (by decide), if_pos (by decide), K60.out], rfl⟩, HW.out⟩
      · go_enter Tryd.func10, Tryd.ntmps10
        go_wp2_with fail
        refine (HN.out _).mono ?_
        rintro e w1 ⟨rfl, hb⟩
        have HW := Lib.hid hb
        clear hb
        go_wp2_with fail
        refine (C60.out _).mono ?_
        rintro e w3 ⟨rfl, rfl⟩
        go_wp2_with fail
        go_ret
        exact ⟨⟨_, by unfold SafeR; rw [K13.out, if_neg (by decide), if_neg (by decide), if_pos (by decide), K60.out], rfl⟩, HW.out⟩
    by_cases s4 : st = 4
    · subst s4
      go_enter Tryd.func10, Tryd.ntmps10
      go_wp2_with fail
      refine (HN.out _).mono ?_
      rintro e w1 ⟨rfl, hb⟩
      have HW := Lib.hid hb
      clear hb
      go_wp2_with fail
      go_ret
      exact ⟨⟨true, by unfold SafeR; rw [K13.out, if_neg (by decide), if_neg (by decide), if_neg (by decide), if_pos rfl], rfl⟩, HW.out⟩
    by_cases s6 : st = 6
    · subst s6
      go_enter Tryd.func10, Tryd.ntmps10
      go_wp2_with fail
      refine (HN.out _).mono ?_
      rintro e w1 ⟨rfl, hb⟩
      have HW := Lib.hid hb
      clear hb
      go_wp2_with fail
      refine (C39.out _).mono ?_
      rintro e w3 ⟨rfl, rfl⟩
      cases h39 with
      | true =>
        go_wp2_with fail
        go_ret
        exact ⟨⟨false, by unfold SafeR; rw [K13.out, if_neg (by decide), if_neg (by decide), if_neg (by decide), if_neg (by decide), if_pos rfl]; exact .inl ⟨K39.out, rfl⟩, rfl⟩, HW.out⟩
      | false =>
        go_wp2_with fail
        refine (HWH.out true _ (HG.out.step HW.out) (HE.out.step HW.out)).mono ?_
        rintro e w4 ⟨⟨x, hx, rfl⟩, hb⟩
        replace HW := Lib.hid (HW.out.trans (hb.mono HW.out.size))
        have HX := Lib.hid hx
        clear hb hx
        go_wp2_with fail
        go_ret
        exact ⟨⟨x, by unfold SafeR; rw [K13.out, if_neg (by decide), if_neg (by decide), if_neg (by decide), if_neg (by decide), if_pos rfl]; exact .inr ⟨K39.out, HX.out⟩, rfl⟩, HW.out⟩
    by_cases s5 : st = 5
    · subst s5
      go_enter Tryd.func10, Tryd.ntmps10
      go_wp2_with fail
      refine (HN.out _).mono ?_
      rintro e w1 ⟨rfl, hb⟩
      have HW := Lib.hid hb
      clear hb
      go_wp2_with fail
      refine (C34.out _).mono ?_
      rintro e w3 ⟨rfl, rfl⟩
      cases h34 with
      | true =>
        go_wp2_with fail
        go_ret
        exact ⟨⟨false, by unfold SafeR; rw [K13.out, if_neg (by decide), if_neg (by decide), if_neg (by decide), if_neg (by decide), if_neg (by decide), if_pos rfl]; exact .inl ⟨K34.out, rfl⟩, rfl⟩, HW.out⟩
      | false =>
        go_wp2_with fail
        refine (HWH.out true _ (HG.out.step HW.out) (HE.out.step HW.out)).mono ?_
        rintro e w4 ⟨⟨x, hx, rfl⟩, hb⟩
        replace HW := Lib.hid (HW.out.trans (hb.mono HW.out.size))
        have HX := Lib.hid hx
        clear hb hx
        go_wp2_with fail
        go_ret
        exact ⟨⟨x, by unfold SafeR; rw [K13.out, if_neg (by decide), if_neg (by decide), if_neg (by decide), if_neg (by decide), if_neg (by decide), if_pos rfl]; exact .inr ⟨K34.out, HX.out⟩, rfl⟩, HW.out⟩
    have q0 : (st == 0) = false := by rw [beq_eq_false_iff_ne]; omega
    have q1 : (st == 1) = false := by rw [beq_eq_false_iff_ne]; omega
    have q2 : (st == 2) = false := by rw [beq_eq_false_iff_ne]; omega
    have q3 : (st == 3) = false := by rw [beq_eq_false_iff_ne]; omega
    have q4 : (st == 4) = false := by rw [beq_eq_false_iff_ne]; omega
    have q5 : (st == 5) = false := by rw [beq_eq_false_iff_ne]; omega
    have q6 : (st == 6) = false := by rw [beq_eq_false_iff_ne]; omega
    go_enter Tryd.func10, Tryd.ntmps10
    go_wp2_with fail
    refine (HN.out _).mono ?_
    rintro e w1 ⟨rfl, hb⟩
    have HW := Lib.hid hb
    clear hb
    go_wp2_with fail
    go_ret
    exact ⟨⟨false, by unfold SafeR; rw [K13.out, if_neg (by decide), if_neg s01, if_neg s23, if_neg s4, if_neg s6, if_neg s5], rfl⟩, HW.out⟩
end Go.Proofs.YtdheknlnhfegnaaDoor.Hand

namespace Go.Proofs.YtdheknlnhfegnaaDoor.Hand
open Go Go.RowKit Go.Proofs.YtdheknlnhfegnaaDoor.Pl Go.Proofs.YtdheknlnhfegnaaDoor.Pb

/-- is it just text in each of the seven states? -/
def EvP (s : List UInt8) (e : Ending) : Prop :=
  (e = .returned (.bool true) ∧ ∀ k : Nat, k < 7 → SafeR s (k : Int) true) ∨ (e = .returned (.bool false) ∧ ∃ k : Nat, k < 7 ∧ SafeR s (k : Int) false)
set_option maxRecDepth 100000 in
set_option maxHeartbeats 4000000 in
theorem every_c (s : List UInt8) (hs : s.length ≤ 100000) (w : World) (hGl : Glob w) (hGE : GlobE w) :
    Calls Tryd.prog 11 #[.string (B s)] w fun e w' => EvP s e ∧ Below w.heap.size w w' := by
  have HG := Lib.hid hGl
  have HE := Lib.hid hGE
  have HS := Lib.hid (fun (k : Nat) W hG hE => safe_c s (k : Int) hs W hG hE)
  obtain ⟨a, ha⟩ : ∃ a, B s = a := ⟨_, rfl⟩
  rw [ha] at HS ⊢
  clear ha hs hGl hGE
  go_enter Tryd.func11, Tryd.ntmps11
  go_wp2_with fail
  go_loopw [4] (fun v wx => ∃ k : Nat, v = .int .i64 (k : Int) ∧ k ≤ 7 ∧ Hid (Below w.heap.size w wx) ∧ Hid (∀ j : Nat, j < k → SafeR s (j : Int) true)) (fun v _ => 7 - (intOf v).toNat)
  case atStart => exact ⟨0, rfl, by decide, Lib.hid (Below.refl _ _), Lib.hid (fun j h => by omega)⟩
  case round =>
    obtain ⟨k, rfl, hk, HW, HD⟩ := hrel
    by_cases hlt : k < 7
    · have q1 : decide ((k : Int) < 7) = true := decide_eq_true (by omega)
      go_wp2_with fail
      refine (HS.out k _ (HG.out.step HW.out) (HE.out.step HW.out)).mono ?_
      rintro e w1 ⟨⟨b, hb, rfl⟩, hbl⟩
      have HW2 := Lib.hid (HW.out.trans (hbl.mono HW.out.size))
      cases b with
      | true =>
        have HN : Hid (∀ j : Nat, j < k + 1 → SafeR s (j : Int) true) := Lib.hid (fun j h => by
          by_cases e : j = k
          · subst e; exact hb
          · exact HD.out j (by omega))
        clear hb hbl
        go_wp2_with fail
        go_roundw
        case rel => exact ⟨k + 1, by go_num, by omega, HW2, HN⟩
        case measure => simp [intOf]; omega
      | false =>
        have HN := Lib.hid hb
        clear hb hbl
        go_wp2_with fail
        go_ret
        exact ⟨.inr ⟨rfl, k, hlt, HN.out⟩, HW2.out⟩
    · obtain rfl : k = 7 := by omega
      go_wp2_with fail
      go_ret
      exact ⟨.inl ⟨rfl, HD.out⟩, HW.out⟩
end Go.Proofs.YtdheknlnhfegnaaDoor.Hand

namespace Go.Proofs.YtdheknlnhfegnaaDoor.Hand
open Go Go.RowKit Go.Proofs.YtdheknlnhfegnaaDoor.Pl Go.Proofs.YtdheknlnhfegnaaDoor.Pb

theorem fnd_uniq {T last key : List UInt8} (h : Tab T last) {r r' : Option (List UInt8)} (h1 : Fnd T key r) (h2 : Fnd T key r') : r = r' := by
  rcases h1 with ⟨p, a1, a2, a3⟩ | ⟨a1, a2⟩
  · rcases h2 with ⟨q, b1, b2, b3⟩ | ⟨b1, b2⟩
    · rcases Nat.lt_trichotomy p q with hl | he | hg
      · have := h.rise p q a1 b1 hl
        rw [a2, b2, ltB_irrefl] at this; cases this
      · rw [a3, b3, he]
      · have := h.rise q p b1 a1 hg
        rw [a2, b2, ltB_irrefl] at this; cases this
    · exact absurd a2 (b1 p a1)
  · rcases h2 with ⟨q, b1, b2, b3⟩ | ⟨b1, b2⟩
    · exact absurd b2 (a1 q b1)
    · rw [a2, b2]
theorem lng_ex (T r : List UInt8) : ∃ k, Lng T r k := by
  have h : ∀ d : Nat, ∃ k, k ≤ d ∧ (k = 0 ∨ isKey T (r.take k)) ∧ ∀ m, k < m → m ≤ d → ¬ isKey T (r.take m) := by
    intro d
    induction d with
    | zero => exact ⟨0, Nat.le_refl _, .inl rfl, fun m h1 h2 => by omega⟩
    | succ d ih =>
      by_cases hk : isKey T (r.take (d + 1))
      · exact ⟨d + 1, Nat.le_refl _, .inr hk, fun m h1 h2 => by omega⟩
      · obtain ⟨k, h1, h2, h3⟩ := ih
        refine ⟨k, by omega, h2, fun m g1 g2 => ?_⟩
        by_cases e : m = d + 1
        · subst e; exact hk
        · exact h3 m g1 (by omega)
  obtain ⟨k, h1, h2, h3⟩ := h (min 32 r.length)
  exact ⟨k, h1, h2, h3⟩
noncomputable def lngN (r : List UInt8) : Nat := Classical.choose (lng_ex namesL r)
theorem lngN_spec (r : List UInt8) : Lng namesL r (lngN r) := Classical.choose_spec (lng_ex namesL r)
theorem lngN_eq {r : List UInt8} {k : Nat} (h : Lng namesL r k) : lngN r = k := (lngN_spec r).uniq h
theorem fnd_ex (T key : List UInt8) : ∃ r, Fnd T key r := by
  by_cases h : ∃ p, St T p ∧ kyT T p = key
  · obtain ⟨p, h1, h2⟩ := h; exact ⟨_, .inl ⟨p, h1, h2, rfl⟩⟩
  · exact ⟨none, .inr ⟨fun p h1 h2 => h ⟨p, h1, h2⟩, rfl⟩⟩
noncomputable def rowN (key : List UInt8) : Option (List UInt8) := Classical.choose (fnd_ex namesL key)
theorem rowN_spec (key : List UInt8) : Fnd namesL key (rowN key) := Classical.choose_spec (fnd_ex namesL key)
theorem rowN_eq {key : List UInt8} {r : Option (List UInt8)} (h : Fnd namesL key r) : rowN key = r := fnd_uniq names_tab (rowN_spec key) h
/-- a name's signs -/
noncomputable def nameT (key : List UInt8) : List UInt8 := match rowN key with | some rest => (textB (num1 rest) (num2 rest)).data.toList | none => []
/-- what begins with an ampersand: what it means, and how long it is -/
noncomputable def refN (attr : Bool) (l : List UInt8) : List UInt8 × Nat :=
  match numL (l.drop 1) with
  | some (m, k) => ((fixB m).data.toList, 1 + k)
  | none =>
    if lngN (l.drop 1) = 0 ∨ leftL attr ((l.drop 1).take (lngN (l.drop 1))) ((l.drop 1).drop (lngN (l.drop 1))) = true then (l.take (1 + lngN (l.drop 1)), 1 + lngN (l.drop 1))
    else (nameT ((l.drop 1).take (lngN (l.drop 1))), 1 + lngN (l.drop 1))
theorem lng_pos {r : List UInt8} (h : lngN r ≠ 0) : isKey namesL (r.take (lngN r)) := by
  rcases (lngN_spec r).key with h0 | hk
  · exact absurd h0 h
  · exact hk
theorem row_some {key : List UInt8} (h : isKey namesL key) : ∃ rest, rowN key = some rest ∧ Fnd namesL key (some rest) := by
  obtain ⟨p, h1, h2⟩ := h
  rcases rowN_spec key with ⟨q, g1, g2, g3⟩ | ⟨g1, _⟩
  · exact ⟨_, g3, by rw [← g3]; exact rowN_spec key⟩
  · exact absurd h2 (g1 p h1)
theorem refR_refN {s : List UInt8} {n : Nat} {attr : Bool} {v : Value} (h : RefR s n attr v) (hb : begR (s.drop n) [38] = true) :
    v = .tuple #[.string (B (refN attr (s.drop n)).1), .int .i64 ((n + (refN attr (s.drop n)).2 : Nat) : Int)] := by
  have ed : ∀ k, (s.drop n).drop k = s.drop (n + k) := fun k => by rw [List.drop_drop]
  cases h with
  | no h => rw [h] at hb; cases hb
  | num h m k h2 =>
    have : refN attr (s.drop n) = ((fixB m).data.toList, 1 + k) := by unfold refN; rw [ed, h2]
    rw [this, ← B_of, show n + (1 + k) = n + 1 + k by omega]
  | left h h2 k h3 h4 =>
    have hk := lngN_eq h3
    have : refN attr (s.drop n) = ((s.drop n).take (1 + k), 1 + k) := by
      unfold refN
      rw [ed, h2]
      simp only [hk]
      rw [if_pos]
      rcases h4 with h4 | h4
      · exact .inl h4
      · exact .inr (by rw [List.drop_drop]; exact h4)
    rw [this, show n + (1 + k) = n + 1 + k by omega, show 1 + k = k + 1 by omega]
  | name h h2 k h3 h4 h5 rest h6 =>
    have hk := lngN_eq h3
    have : refN attr (s.drop n) = ((textB (num1 rest) (num2 rest)).data.toList, 1 + k) := by
      unfold refN
      rw [ed, h2]
      simp only [hk]
      rw [if_neg]
      · unfold nameT; rw [rowN_eq h6]
      · rintro (e | e)
        · exact h4 e
        · rw [List.drop_drop, h5] at e; cases e
    rw [this, ← B_of, show n + (1 + k) = n + 1 + k by omega]
theorem textB_size (a b : Nat) : (textB a b).size ≤ 8 := by
  unfold textB
  have h1 := signB_size (a : Int)
  have h2 := signB_size (b : Int)
  split
  · omega
  · rw [ByteArray.size_append]; omega
theorem fixB_size (n : Nat) : (fixB n).size ≤ 4 := by
  unfold fixB
  split
  · decide
  · split <;> exact signB_size _
theorem refN_bd (attr : Bool) (c : UInt8) (r : List UInt8) : 1 ≤ (refN attr (c :: r)).2 ∧ (refN attr (c :: r)).2 ≤ (c :: r).length ∧ (refN attr (c :: r)).1.length ≤ 8 * (refN attr (c :: r)).2 := by
  have hl := (lngN_spec r).le
  have e : (c :: r).drop 1 = r := rfl
  unfold refN
  rw [e]
  split
  · rename_i m k hn
    have := numL_le hn
    have h4 := fixB_size m
    simp only [List.length_cons, Array.length_toList]
    have : (fixB m).data.size ≤ 4 := h4
    omega
  · split
    · simp only [List.length_cons, List.length_take]; omega
    · rename_i hne
      simp only [List.length_cons]
      refine ⟨by omega, by omega, ?_⟩
      unfold nameT
      split
      · rename_i rest _
        have h8 := textB_size (num1 rest) (num2 rest)
        rw [Array.length_toList]
        have : (textB (num1 rest) (num2 rest)).data.size ≤ 8 := h8
        omega
      · simp
/-! ### all references read -/
noncomputable def rdF (attr : Bool) : Nat → List UInt8 → List UInt8
  | 0, _ => []
  | _ + 1, [] => []
  | f + 1, c :: r => if c = 38 then (refN attr (c :: r)).1 ++ rdF attr f ((c :: r).drop (refN attr (c :: r)).2) else c :: rdF attr f r
theorem rdF_more (attr : Bool) (f : Nat) : ∀ l f', l.length ≤ f → l.length ≤ f' → rdF attr f l = rdF attr f' l := by
  induction f with
  | zero =>
    intro l f' h h'
    obtain rfl := List.eq_nil_of_length_eq_zero (Nat.le_zero.1 h)
    cases f' <;> rfl
  | succ f ih =>
    intro l f' h h'
    cases l with
    | nil => cases f' <;> rfl
    | cons c r =>
      cases f' with
      | zero => simp at h'
      | succ f' =>
        have hb := refN_bd attr c r
        simp only [List.length_cons] at h h' hb
        simp only [rdF]
        split
        · rw [ih _ f' (by rw [List.length_drop, List.length_cons]; omega) (by rw [List.length_drop, List.length_cons]; omega)]
        · rw [ih r f' (by omega) (by omega)]
noncomputable def rdL (attr : Bool) (l : List UInt8) : List UInt8 := rdF attr l.length l
theorem rdL_nil (attr : Bool) : rdL attr [] = [] := rfl
theorem rdL_ne {c : UInt8} (attr : Bool) (r : List UInt8) (h : c ≠ 38) : rdL attr (c :: r) = c :: rdL attr r := by
  unfold rdL; simp only [List.length_cons, rdF, if_neg h]
theorem rdL_amp (attr : Bool) (r : List UInt8) : rdL attr (38 :: r) = (refN attr (38 :: r)).1 ++ rdL attr ((38 :: r).drop (refN attr (38 :: r)).2) := by
  have hb := refN_bd attr 38 r
  simp only [List.length_cons] at hb
  unfold rdL
  rw [List.length_cons, rdF, if_pos rfl, rdF_more attr r.length _ _ (by rw [List.length_drop, List.length_cons]; omega) (Nat.le_refl _)]
theorem rdL_app {p : List UInt8} (attr : Bool) (r : List UInt8) (h : (38 : UInt8) ∉ p) : rdL attr (p ++ r) = p ++ rdL attr r := by
  induction p with
  | nil => rfl
  | cons c p ih =>
    rw [List.cons_append, rdL_ne attr _ (fun e => h (by rw [e]; simp)), ih (fun e => h (by simp [e]))]; rfl
theorem rdL_no {p : List UInt8} (attr : Bool) (h : (38 : UInt8) ∉ p) : rdL attr p = p := by
  have := rdL_app attr [] h
  rw [List.append_nil, rdL_nil, List.append_nil] at this
  exact this
theorem rdL_length (attr : Bool) : ∀ n (l : List UInt8), l.length ≤ n → (rdL attr l).length ≤ 8 * l.length := by
  intro n
  induction n with
  | zero => intro l h; obtain rfl := List.eq_nil_of_length_eq_zero (Nat.le_zero.1 h); simp [rdL_nil]
  | succ n ih =>
    intro l h
    cases l with
    | nil => simp [rdL_nil]
    | cons c r =>
      simp only [List.length_cons] at h ⊢
      by_cases hc : c = 38
      · subst hc
        have hb := refN_bd attr 38 r
        have := ih ((38 :: r).drop (refN attr (38 :: r)).2) (by rw [List.length_drop, List.length_cons]; omega)
        rw [rdL_amp, List.length_append]
        rw [List.length_drop, List.length_cons] at this
        simp only [List.length_cons] at hb
        omega
      · have := ih r (by omega)
        rw [rdL_ne attr r hc, List.length_cons]; omega
theorem rdL_le (attr : Bool) (l : List UInt8) : (rdL attr l).length ≤ 8 * l.length := rdL_length attr _ l (Nat.le_refl _)
theorem readN_c (s : List UInt8) (n : Nat) (attr : Bool) (hs : s.length ≤ 100000) (hn : n ≤ s.length) (hb : begR (s.drop n) [38] = true) (w : World) (hGl : Glob w) (hGE : GlobE w) :
    Calls Tryd.prog 16 #[.string (B s), .int .i64 (n : Int), .bool attr] w fun e w' => e = .returned (.tuple #[.string (B (refN attr (s.drop n)).1), .int .i64 ((n + (refN attr (s.drop n)).2 : Nat) : Int)]) ∧ Below w.heap.size w w' :=
  (read_c s n attr hs hn w hGl hGE).mono fun e w' h => by
    obtain ⟨⟨v, hv, he⟩, hb2⟩ := h
    exact ⟨by rw [he, refR_refN hv hb], hb2⟩
end Go.Proofs.YtdheknlnhfegnaaDoor.Hand

namespace Go.Proofs.YtdheknlnhfegnaaDoor.Hand
open Go Go.RowKit Go.Proofs.YtdheknlnhfegnaaDoor.Pl Go.Proofs.YtdheknlnhfegnaaDoor.Pb

theorem ref_uniq {s : List UInt8} {n : Nat} {attr : Bool} {v v' : Value} (h : RefR s n attr v) (h' : RefR s n attr v') : v = v' := by
  cases h with
  | no h =>
    cases h' with
    | no => rfl
    | num g => rw [h] at g; cases g
    | left g => rw [h] at g; cases g
    | name g => rw [h] at g; cases g
  | num h m k h2 =>
    cases h' with
    | no g => rw [h] at g; cases g
    | num g m' k' g2 =>
      rw [h2] at g2
      cases g2
      rfl
    | left g g2 => rw [h2] at g2; cases g2
    | name g g2 => rw [h2] at g2; cases g2
  | left h h2 k h3 h4 =>
    cases h' with
    | no g => rw [h] at g; cases g
    | num g m k g2 => rw [h2] at g2; cases g2
    | left g g2 k' g3 g4 => rw [h3.uniq g3]
    | name g g2 k' g3 g4 g5 rest g6 =>
      obtain rfl := h3.uniq g3
      rcases h4 with h4 | h4
      · exact absurd h4 g4
      · rw [g5] at h4; cases h4
  | name h h2 k h3 h4 h5 rest h6 =>
    cases h' with
    | no g => rw [h] at g; cases g
    | num g m k g2 => rw [h2] at g2; cases g2
    | left g g2 k' g3 g4 =>
      obtain rfl := h3.uniq g3
      rcases g4 with g4 | g4
      · exact absurd g4 h4
      · rw [h5] at g4; cases g4
    | name g g2 k' g3 g4 g5 rest' g6 =>
      obtain rfl := h3.uniq g3
      have := fnd_uniq names_tab h6 g6
      cases this
      rfl
theorem first_uniq {l : List UInt8} {o o' : Nat} (h1 : l[o]? = some 38) (h2 : ∀ k, k < o → l[k]? ≠ some 38) (g1 : l[o']? = some 38) (g2 : ∀ k, k < o' → l[k]? ≠ some 38) : o = o' := by
  rcases Nat.lt_trichotomy o o' with h | h | h
  · exact absurd h1 (g2 o h)
  · exact h
  · exact absurd g1 (h2 o' h)
theorem next_uniq {s : List UInt8} {n : Nat} {attr : Bool} {t t' : ByteArray} {m m' : Nat} (h : RefR s n attr (.tuple #[.string t, .int .i64 (m : Int)])) (h' : RefR s n attr (.tuple #[.string t', .int .i64 (m' : Int)])) : m = m' := by
  have e := ref_uniq h h'
  simp only [Value.tuple.injEq, Array.mk.injEq, List.cons.injEq, Value.int.injEq] at e
  omega
theorem whl_uniq {s : List UInt8} {attr : Bool} {i : Nat} {b : Bool} (h : Whl s attr i b) : ∀ b', Whl s attr i b' → b = b' := by
  induction h with
  | stop i h =>
    intro b' h'
    cases h' with
    | stop => rfl
    | bad _ o m t g1 => exact absurd g1 (h o)
    | go _ o m t b g1 => exact absurd g1 (h o)
  | bad i o m t h1 h2 h3 h4 =>
    intro b' h'
    cases h' with
    | stop _ g => exact absurd h1 (g o)
    | bad => rfl
    | go _ o' m' t' b g1 g2 g3 g4 g5 =>
      obtain rfl := first_uniq h1 h2 g1 g2
      obtain rfl := next_uniq h3 g3
      exact absurd g4 h4
  | go i o m t b h1 h2 h3 h4 h5 ih =>
    intro b' h'
    cases h' with
    | stop _ g => exact absurd h1 (g o)
    | bad _ o' m' t' g1 g2 g3 g4 =>
      obtain rfl := first_uniq h1 h2 g1 g2
      obtain rfl := next_uniq h3 g3
      exact absurd h4 g4
    | go _ o' m' t' b' g1 g2 g3 g4 g5 =>
      obtain rfl := first_uniq h1 h2 g1 g2
      obtain rfl := next_uniq h3 g3
      exact ih _ g5
theorem safe_uniq {s : List UInt8} {st : Int} {b b' : Bool} (h : SafeR s st b) (h' : SafeR s st b') : b = b' := by
  unfold SafeR at h h'
  split at h
  · rename_i g; rw [if_pos g] at h'; rw [h, h']
  · rename_i g; rw [if_neg g] at h'
    split at h
    · rename_i g; rw [if_pos g] at h'
      obtain ⟨x, hx, rfl⟩ := h
      obtain ⟨y, hy, rfl⟩ := h'
      rw [whl_uniq hx y hy]
    · rename_i g; rw [if_neg g] at h'
      split at h
      · rename_i g; rw [if_pos g] at h'; rw [h, h']
      · rename_i g; rw [if_neg g] at h'
        split at h
        · rename_i g; rw [if_pos g] at h'; rw [h, h']
        · rename_i g; rw [if_neg g] at h'
          split at h
          · rename_i g; rw [if_pos g] at h'
            rcases h with ⟨a1, a2⟩ | ⟨a1, a2⟩
            · rcases h' with ⟨b1, b2⟩ | ⟨b1, b2⟩
              · rw [a2, b2]
              · rw [a1] at b1; cases b1
            · rcases h' with ⟨b1, b2⟩ | ⟨b1, b2⟩
              · rw [a1] at b1; cases b1
              · exact whl_uniq a2 _ b2
          · rename_i g; rw [if_neg g] at h'
            split at h
            · rename_i g; rw [if_pos g] at h'
              rcases h with ⟨a1, a2⟩ | ⟨a1, a2⟩
              · rcases h' with ⟨b1, b2⟩ | ⟨b1, b2⟩
                · rw [a2, b2]
                · rw [a1] at b1; cases b1
              · rcases h' with ⟨b1, b2⟩ | ⟨b1, b2⟩
                · rw [a1] at b1; cases b1
                · exact whl_uniq a2 _ b2
            · rename_i g; rw [if_neg g] at h'; rw [h, h']
end Go.Proofs.YtdheknlnhfegnaaDoor.Hand

namespace Go.Proofs.YtdheknlnhfegnaaDoor.Hand
open Go Go.RowKit Go.Proofs.YtdheknlnhfegnaaDoor.Pl Go.Proofs.YtdheknlnhfegnaaDoor.Pb

/-- where a row with a key begins; below 0: nowhere -/
def AtR (T : ByteArray) (want : ByteArray) (r : Int) : Prop :=
  (∃ p : Nat, r = p ∧ St T.data.toList p ∧ p + want.size ≤ T.size ∧ T.extract p (p + want.size) = want) ∨ (r = -1 ∧ ∀ p, St T.data.toList p → p + want.size ≤ T.size → T.extract p (p + want.size) ≠ want)
theorem first_eq {T W : ByteArray} {p : Nat} (hp : p < T.size) (hW : 0 < W.size) (h : T.extract p (p + W.size) = W) : T[p] = W[0] := by
  obtain ⟨l, rfl⟩ := exists_B T
  obtain ⟨m, rfl⟩ := exists_B W
  rw [B_extract] at h
  have h2 := congrArg (fun b : ByteArray => b.data.toList[0]?) h
  simp only [B_data] at h2
  have hp' : p < l.length := by simpa using hp
  have hm' : 0 < m.length := by simpa using hW
  rw [List.getElem?_drop, Nat.add_zero, List.getElem?_take_of_lt (by rw [size_B]; omega), List.getElem?_eq_getElem hp', List.getElem?_eq_getElem hm'] at h2
  exact Option.some.inj h2
theorem st_prev {T : ByteArray} {i : Nat} (hi : i ≤ T.size) (h0 : 0 < i) (h : T[i - 1]'(by omega) ≠ 10) : ¬ St T.data.toList i := by
  rintro (h1 | ⟨q, rfl, hq⟩)
  · omega
  · apply h
    have hq' : q < T.data.toList.length := by rw [Array.length_toList]; show q < T.size; omega
    rw [List.getElem?_eq_getElem hq'] at hq
    exact Option.some.inj hq
set_option maxRecDepth 1000000 in
set_option maxHeartbeats 4000000 in
theorem at6_c (a : ByteArray) (h1 : 1 ≤ a.size) (h32 : a.size ≤ 32) (w : World) :
    Calls Tryd.prog 63 #[.string a] w fun e w' => (∃ r, AtR namesB (a ++ ⟨#[32]⟩) r ∧ e = .returned (.int .i64 r)) ∧ Below w.heap.size w w' := by
  refine calls_of_wp Tryd.func63 rfl ?_
  generalize hN : ByteArray.mk (List.toArray (List.append _ _)) = N
  have hN2 : N = namesB := hN.symm.trans rfl
  clear hN
  have hz : N.size ≤ 1000000 := by rw [hN2]; exact of_decide_eq_true names_size
  rw [← hN2]
  clear hN2
  simp only [Tryd.ntmps63, List.size_toArray, List.length_cons, List.length_nil, Nat.reduceAdd, Nat.reduceSub, Array.replicate_succ, Array.replicate_zero, List.push_toArray, List.append_toArray, List.nil_append, List.cons_append]
  have q1 : ((a.size : Int) == 0) = false := by rw [beq_eq_false_iff_ne]; omega
  have q2 : decide ((32 : Int) < (a.size : Int)) = false := decide_eq_false (by omega)
  go_wp2_with fail
  generalize hW : a ++ (⟨#[32]⟩ : ByteArray) = W
  have hWs : W.size = a.size + 1 := by rw [← hW, ByteArray.size_append]; rfl
  have HWS := Lib.hid hWs
  have hW1 : 0 < W.size := by omega
  have hW33 : W.size ≤ 33 := by omega
  have HWW := Lib.hid hW
  clear hW hWs q1 q2
  go_loopw [5] (fun v wx => ∃ i : Nat, v = .int .i64 (i : Int) ∧ i ≤ N.size ∧ Hid (Below w.heap.size w wx) ∧ Hid (∀ p, p < i → St N.data.toList p → p + W.size ≤ N.size → N.extract p (p + W.size) ≠ W)) (fun v _ => N.size + 1 - (intOf v).toNat)
  case atStart => exact ⟨0, rfl, Nat.zero_le _, Lib.hid (Below.refl _ _), Lib.hid (fun p h => by omega)⟩
  case round =>
    obtain ⟨i, rfl, hi, HB, HD⟩ := hrel
    by_cases hin : i + W.size ≤ N.size
    · have hT : i < N.size := by omega
      have q3 : decide ((i : Int) + (W.size : Int) ≤ (N.size : Int)) = true := decide_eq_true (by omega)
      have i1 : (i : Int) < (N.size : Int) := by omega
      have i2 : (0 : Int) < (W.size : Int) := by omega
      by_cases hc : N[i] = W[0]
      · have q4 : (((N[i].toNat : Nat) : Int) != ((W[0].toNat : Nat) : Int)) = false := by rw [hc]; simp
        by_cases h0 : i = 0
        · have hst : St N.data.toList i := .inl h0
          have q5 : decide ((0 : Int) < (i : Int)) = false := decide_eq_false (by omega)
          have q5n : ¬ 0 < i := by omega
          clear hc h0
          by_cases hex : N.extract i (i + W.size) = W
          · have q6 : ((N.extract i (i + W.size)).toList == W.toList) = true := by rw [hex]; simp
            have HX := Lib.hid hex
            have HST := Lib.hid hst
            clear hex hst
            go_wp2_with fail
            go_quiet (fail)
            go_wp2_with fail
            go_ret
            exact ⟨⟨(i : Int), by rw [HWW.out]; exact .inl ⟨i, rfl, HST.out, hin, HX.out⟩, rfl⟩, HB.out.trans ⟨rfl, rfl, rfl, Nat.le_refl _, fun _ _ => rfl⟩⟩
          · have q6 : ((N.extract i (i + W.size)).toList == W.toList) = false := by
              rw [beq_eq_false_iff_ne]
              intro e
              apply hex
              obtain ⟨l, hl⟩ := exists_B (N.extract i (i + W.size))
              obtain ⟨m, rfl⟩ := exists_B W
              rw [hl, toList_B, toList_B] at e
              rw [hl, e]
            have HN : Hid (∀ p, p < i + 1 → St N.data.toList p → p + W.size ≤ N.size → N.extract p (p + W.size) ≠ W) := Lib.hid (fun p h hs hl => by
              by_cases e : p = i
              · subst e
                exact hex
              · exact HD.out p (by omega) hs hl)
            clear hex hst
            go_wp2_with fail
            go_quiet (fail)
            go_wp2_with fail
            go_roundw
            case rel => exact ⟨i + 1, by go_num, by omega, Lib.hid (HB.out.trans ⟨rfl, rfl, rfl, Nat.le_refl _, fun _ _ => rfl⟩), HN⟩
            case measure => simp [intOf]; omega
        · have q5 : decide ((0 : Int) < (i : Int)) = true := decide_eq_true (by omega)
          have q5n : 0 < i := by omega
          have hi1 : i - 1 < N.size := by omega
          by_cases h10 : N[i - 1] = 10
          · have hst : St N.data.toList i := .inr ⟨i - 1, by omega, by
              have : i - 1 < N.data.toList.length := by rw [Array.length_toList]; exact hi1
              rw [List.getElem?_eq_getElem this]; exact congrArg some h10⟩
            have q7 : (((N[i - 1].toNat : Nat) : Int) != 10) = false := by rw [h10]; rfl
            clear hc h10
            by_cases hex : N.extract i (i + W.size) = W
            · have q6 : ((N.extract i (i + W.size)).toList == W.toList) = true := by rw [hex]; simp
              have HX := Lib.hid hex
              have HST := Lib.hid hst
              clear hex hst
              go_wp2_with fail
              go_quiet (fail)
              go_wp2_with fail
              go_ret
              exact ⟨⟨(i : Int), by rw [HWW.out]; exact .inl ⟨i, rfl, HST.out, hin, HX.out⟩, rfl⟩, HB.out.trans ⟨rfl, rfl, rfl, Nat.le_refl _, fun _ _ => rfl⟩⟩
            · have q6 : ((N.extract i (i + W.size)).toList == W.toList) = false := by
                rw [beq_eq_false_iff_ne]
                intro e
                apply hex
                obtain ⟨l, hl⟩ := exists_B (N.extract i (i + W.size))
                obtain ⟨m, rfl⟩ := exists_B W
                rw [hl, toList_B, toList_B] at e
                rw [hl, e]
              have HN : Hid (∀ p, p < i + 1 → St N.data.toList p → p + W.size ≤ N.size → N.extract p (p + W.size) ≠ W) := Lib.hid (fun p h hs hl => by
                by_cases e : p = i
                · subst e
                  exact hex
                · exact HD.out p (by omega) hs hl)
              clear hex hst
              go_wp2_with fail
              go_quiet (fail)
              go_wp2_with fail
              go_roundw
              case rel => exact ⟨i + 1, by go_num, by omega, Lib.hid (HB.out.trans ⟨rfl, rfl, rfl, Nat.le_refl _, fun _ _ => rfl⟩), HN⟩
              case measure => simp [intOf]; omega
          · have q7 : (((N[i - 1].toNat : Nat) : Int) != 10) = true := by
              rw [bne_iff_ne]; intro e; exact h10 (UInt8.toNat_inj.1 (show N[i - 1].toNat = 10 by omega))
            have HN : Hid (∀ p, p < i + 1 → St N.data.toList p → p + W.size ≤ N.size → N.extract p (p + W.size) ≠ W) := Lib.hid (fun p h hs hl => by
              by_cases e : p = i
              · subst e
                exact absurd hs (st_prev hi (by omega) h10)
              · exact HD.out p (by omega) hs hl)
            clear hc h10
            go_wp2_with fail
            go_quiet (fail)
            go_wp2_with fail
            go_roundw
            case rel => exact ⟨i + 1, by go_num, by omega, Lib.hid (HB.out.trans ⟨rfl, rfl, rfl, Nat.le_refl _, fun _ _ => rfl⟩), HN⟩
            case measure => simp [intOf]; omega
      · have q4 : (((N[i].toNat : Nat) : Int) != ((W[0].toNat : Nat) : Int)) = true := by
          rw [bne_iff_ne]; intro e; exact hc (UInt8.toNat_inj.1 (by omega))
        have HN : Hid (∀ p, p < i + 1 → St N.data.toList p → p + W.size ≤ N.size → N.extract p (p + W.size) ≠ W) := Lib.hid (fun p h hs hl => by
          by_cases e : p = i
          · subst e
            intro e; exact hc (first_eq hT hW1 e)
          · exact HD.out p (by omega) hs hl)
        clear hc
        go_wp2_with fail
        go_quiet (fail)
        go_wp2_with fail
        go_roundw
        case rel => exact ⟨i + 1, by go_num, by omega, Lib.hid (HB.out.trans ⟨rfl, rfl, rfl, Nat.le_refl _, fun _ _ => rfl⟩), HN⟩
        case measure => simp [intOf]; omega
    · have q3 : decide ((i : Int) + (W.size : Int) ≤ (N.size : Int)) = false := decide_eq_false (by omega)
      go_wp2_with fail
      go_ret
      exact ⟨⟨-1, by rw [HWW.out]; exact .inr ⟨rfl, fun p hs hl => HD.out p (by omega) hs hl⟩, rfl⟩, HB.out⟩
end Go.Proofs.YtdheknlnhfegnaaDoor.Hand

namespace Go.Proofs.YtdheknlnhfegnaaDoor.Hand
open Go Go.RowKit Go.Proofs.YtdheknlnhfegnaaDoor.Pb Go.Proofs.YtdheknlnhfegnaaDoor.Pl Go.Proofs.YtdheknlnhfegnaaDoor.Sr Go.Proofs.YtdheknlnhfegnaaDoor.Pure Go.Proofs.YtdheknlnhfegnaaDoorW.PrintWords

theorem hex3_f (c : UInt8) (k : Nat) : flailref03_Hex.f (k + 2) (c.toNat : Int) = some (hexV c) := by
  have hc := c.toNat_lt
  have ww : wrap64 (c.toNat : Int) = c.toNat := by unfold wrap64; omega
  have j1 : ∀ b, (b = true ↔ 65 ≤ c.toNat ∧ c.toNat ≤ 70) → ¬ (48 ≤ c.toNat ∧ c.toNat ≤ 57) → flailref03_Hex.j1 (k + 1) (c.toNat : Int) b = some (hexV c) := by
    intro b hb h1
    rw [flailref03_Hex.j1, ww]
    unfold hexV
    rw [if_neg h1]
    by_cases h2 : 65 ≤ c.toNat ∧ c.toNat ≤ 70
    · rw [if_pos (hb.2 h2), if_pos h2]
      congr 1; unfold wrap64; omega
    · rw [if_neg (fun e => h2 (hb.1 e)), if_neg h2]
      by_cases h3 : 97 ≤ c.toNat ∧ c.toNat ≤ 102
      · rw [if_pos (by omega), if_pos (by omega), if_pos h3]
        congr 1; unfold wrap64; omega
      · rw [if_neg h3]
        by_cases h4 : (c.toNat : Int) ≥ 97
        · rw [if_pos h4, if_neg (by omega)]
        · rw [if_neg h4]
  have j0 : ∀ b, (b = true ↔ 48 ≤ c.toNat ∧ c.toNat ≤ 57) → flailref03_Hex.j0 (k + 2) (c.toNat : Int) b = some (hexV c) := by
    intro b hb
    rw [flailref03_Hex.j0, ww]
    by_cases h1 : 48 ≤ c.toNat ∧ c.toNat ≤ 57
    · rw [if_pos (hb.2 h1)]
      unfold hexV
      rw [if_pos h1]
      congr 1; unfold wrap64; omega
    · rw [if_neg (fun e => h1 (hb.1 e))]
      by_cases h2 : (c.toNat : Int) ≥ 65
      · rw [if_pos h2]
        exact j1 _ (by rw [decide_eq_true_eq]; omega) h1
      · rw [if_neg h2]
        exact j1 _ (by constructor; intro h; cases h; omega) h1
  unfold flailref03_Hex.f
  by_cases h : (c.toNat : Int) ≥ 48
  · rw [if_pos h]; exact j0 _ (by rw [decide_eq_true_eq]; omega)
  · rw [if_neg h]; exact j0 _ (by constructor; intro h; cases h; omega)
theorem val4_l (s : List UInt8) (hs : s.length ≤ 1000000) (base : Nat) (hb : base = 10 ∨ base = 16) : ∀ (r : List UInt8) (i n k : Nat), s.drop i = r → n ≤ 1114112 → i ≤ s.length →
    flailref04_Value.l0 (2 * r.length + 3 + k) (B s) (base : Int) (n : Int) (i : Int) = some (valM (valR base n r)) := by
  intro r
  induction r with
  | nil =>
    intro i n k hd hn hi
    have hl : s.length ≤ i := by
      rcases Nat.lt_or_ge i s.length with h | h
      · rw [List.drop_eq_getElem_cons h] at hd; cases hd
      · exact h
    rw [show 2 * ([] : List UInt8).length + 3 + k = (2 + k) + 1 by simp; omega, flailref04_Value.l0, if_neg (by rw [size_B]; omega), valR]
    rfl
  | cons c r ih =>
    intro i n k hd hn hi
    have hlt := drop_lt hd
    have hd2 : s.drop (i + 1) = r := by
      rw [List.drop_eq_getElem_cons hlt] at hd
      exact (List.cons.inj hd).2
    have hbd := hexV_bound c
    have w1 : wrap64 ((i : Int) + 1) = ((i + 1 : Nat) : Int) := by unfold wrap64; omega
    have w2 : ∀ d : Int, -1 ≤ d → d ≤ 15 → wrap64 (wrap64 ((n : Int) * (base : Int)) + d) = (n : Int) * (base : Int) + d := fun d h1 h2 => by
      have : (n : Int) * (base : Int) ≤ 1114112 * 16 := by rcases hb with rfl | rfl <;> omega
      have : 0 ≤ (n : Int) * (base : Int) := by rcases hb with rfl | rfl <;> omega
      unfold wrap64; omega
    rw [show 2 * (c :: r).length + 3 + k = ((2 * r.length + 2 + k) + 2) + 1 by simp; omega, flailref04_Value.l0, if_pos (by rw [size_B]; omega), if_pos (by omega), bt_drop s i c r hd, hex3_f, Option.bind_some, valR]
    by_cases h0 : hexV c < 0
    · rw [if_pos h0, if_pos (.inl h0), flailref04_Value.j2, if_pos rfl]; rfl
    · rw [if_neg h0]
      by_cases h1 : (base : Int) ≤ hexV c
      · rw [if_pos (.inr h1), flailref04_Value.j2, if_pos (decide_eq_true h1)]; rfl
      · rw [if_neg (by omega), flailref04_Value.j2, if_neg (by rw [decide_eq_true_eq]; exact h1), w2 _ hbd.1 hbd.2, w1]
        by_cases h2 : (n : Int) * (base : Int) + hexV c > 1114112
        · have e : min (n * base + (hexV c).toNat) 1114112 = 1114112 := by
            have : ((n * base : Nat) : Int) = (n : Int) * (base : Int) := by simp
            omega
          rw [if_pos h2, e, show 2 * r.length + 2 + k + 1 = 2 * r.length + 3 + k by omega]
          exact ih (i + 1) 1114112 k hd2 (Nat.le_refl _) (by omega)
        · have e : ((min (n * base + (hexV c).toNat) 1114112 : Nat) : Int) = (n : Int) * (base : Int) + hexV c := by
            have : ((n * base : Nat) : Int) = (n : Int) * (base : Int) := by simp
            omega
          rw [if_neg h2, ← e, show 2 * r.length + 2 + k + 1 = 2 * r.length + 3 + k by omega]
          exact ih (i + 1) _ k hd2 (Nat.min_le_right _ _) (by omega)
theorem val4_f (s : List UInt8) (hs : s.length ≤ 1000000) (six : Bool) (k : Nat) : flailref04_Value.f (2 * s.length + 4 + k) (B s) six = some (valL (baseN six) s) := by
  have key : ∀ base : Nat, base = 10 ∨ base = 16 → flailref04_Value.j0 (2 * s.length + 4 + k) (B s) (base : Int) = some (valL base s) := by
    intro base hb
    rw [show 2 * s.length + 4 + k = (2 * s.length + 3 + k) + 1 by omega, flailref04_Value.j0]
    unfold valL
    by_cases h : s = []
    · subst h; rw [if_pos rfl, if_pos (by rfl)]
    · rw [if_neg h, if_neg (by rw [size_B]; have := List.length_pos_iff.2 h; omega)]
      exact val4_l s hs base hb s 0 0 k rfl (by omega) (by omega)
  unfold flailref04_Value.f
  cases six with
  | true => exact key 16 (.inr rfl)
  | false => exact key 10 (.inl rfl)
end Go.Proofs.YtdheknlnhfegnaaDoor.Hand

namespace Go.Proofs.YtdheknlnhfegnaaDoor.Pl
open Go

theorem ky_iff {T name : List UInt8} {p : Nat} (hn : ∀ c ∈ name, c ≠ 10 ∧ c ≠ 32) (row : ∃ q, lnT T p = kyT T p ++ 32 :: q) : kyT T p = name ↔ ∃ rest, T.drop p = name ++ 32 :: rest := by
  constructor
  · intro h
    obtain ⟨q, hq⟩ := row
    rw [h] at hq
    obtain ⟨m, hm⟩ := List.takeWhile_prefix (fun c : UInt8 => c != 10) (l := T.drop p)
    have hm' : lnT T p ++ m = T.drop p := hm
    rw [hq] at hm'
    exact ⟨q ++ m, by rw [← hm']; simp⟩
  · rintro ⟨rest, h⟩
    have hl : lnT T p = name ++ 32 :: rest.takeWhile (fun c => c != 10) := by
      unfold lnT
      rw [h, tw_app _ _ _ (fun x hx => by simpa using (hn x hx).1), List.takeWhile_cons, show ((32 : UInt8) != 10) = true from rfl, if_pos rfl]
    unfold kyT
    rw [hl, ky_row hn]
end Go.Proofs.YtdheknlnhfegnaaDoor.Pl

namespace Go.Proofs.YtdheknlnhfegnaaDoor.Hand
open Go Go.RowKit Go.Proofs.YtdheknlnhfegnaaDoor.Pl Go.Proofs.YtdheknlnhfegnaaDoor.Pb

def kyC (c : UInt8) : Bool := (decide (65 ≤ c.toNat) && decide (c.toNat ≤ 90)) || (decide (97 ≤ c.toNat) && decide (c.toNat ≤ 122)) || (decide (48 ≤ c.toNat) && decide (c.toNat ≤ 57))
def hdC : List UInt8 → Bool
  | [] => false
  | c :: _ => (decide (65 ≤ c.toNat) && decide (c.toNat ≤ 90)) || (decide (97 ≤ c.toNat) && decide (c.toNat ≤ 122))
/-- a key: letters and digits, a letter first, and at its end perhaps a semicolon -/
def keyOk (l : List UInt8) : Bool := decide ((kyL l).length ≤ 32) && ((kyL l).dropLast.all kyC && (hdC (kyL l) && (match (kyL l).getLast? with | some c => kyC c || c == 59 | none => false)))
def keysOk (T : List UInt8) : Bool := keyOk (linesOf T).1 && (linesOf T).2.all keyOk
set_option maxRecDepth 1000000 in
theorem names_keys : keysOk namesL = true := by kernel_rfl
theorem keys_all {T : List UInt8} (h : keysOk T = true) (p : Nat) (hp : St T p) : keyOk (lnT T p) = true := by
  unfold keysOk at h
  rw [Bool.and_eq_true, List.all_eq_true] at h
  rcases hp with rfl | ⟨q, rfl, hq⟩
  · rw [lines_head]; exact h.1
  · exact h.2 _ (lines_mem T q hq)
structure KeyP (k : List UInt8) : Prop where
  le : k.length ≤ 32
  pos : k ≠ []
  inner : ∀ c ∈ k.dropLast, kyC c = true
  head : hdC k = true
  last : ∃ c, k.getLast? = some c ∧ (kyC c = true ∨ c = 59)
theorem key_facts {k : List UInt8} (h : isKey namesL k) : KeyP k := by
  obtain ⟨p, h1, rfl⟩ := h
  have := keys_all names_keys p h1
  unfold keyOk at this
  rw [Bool.and_eq_true, Bool.and_eq_true, Bool.and_eq_true, decide_eq_true_eq, List.all_eq_true] at this
  obtain ⟨g1, g2, g3, g4⟩ := this
  change (kyT namesL p).length ≤ 32 at g1
  change hdC (kyT namesL p) = true at g3
  refine ⟨g1, ?_, g2, g3, ?_⟩
  · intro e; rw [e] at g3; cases g3
  · change (match (kyT namesL p).getLast? with | some c => kyC c || c == 59 | none => false) = true at g4
    split at g4
    · rename_i c hc
      refine ⟨c, hc, ?_⟩
      simpa using g4
    · cases g4
/-- a row's value, as the reference reads it -/
def runV : Int → Int → Bool → List UInt8 → Int × Int
  | a, b, _, [] => (a, b)
  | a, b, one, c :: r => if c = 10 then (a, b) else if c = 32 then runV a b false r else if one = true then runV (wrap64 (wrap64 (16 * a) + hexV c)) b true r else runV a (wrap64 (wrap64 (16 * b) + hexV c)) false r
theorem hexU_val {c : UInt8} (h : isHexU c = true) : 0 ≤ hexV c ∧ hexV c ≤ 15 ∧ c ≠ 10 ∧ c ≠ 32 := by
  have hc := hexU_cases h
  have hb := hexV_bound c
  refine ⟨?_, hb.2, ?_, ?_⟩
  · unfold hexV
    rcases hc with hc | hc
    · rw [if_pos hc]; omega
    · rw [if_neg (by omega), if_pos hc]; omega
  · rintro rfl
    rcases hc with hc | hc
    · exact absurd hc.1 (by decide)
    · exact absurd hc.1 (by decide)
  · rintro rfl
    rcases hc with hc | hc
    · exact absurd hc.1 (by decide)
    · exact absurd hc.1 (by decide)
theorem run_first (t : List UInt8) (b : Int) : ∀ (w : List UInt8) (a k : Nat), (∀ c ∈ w, isHexU c = true) → a < 16 ^ k → k + w.length ≤ 8 → runV (a : Int) b true (w ++ t) = runV (hexN a w : Int) b true t := by
  intro w
  induction w with
  | nil => intro a k _ _ _; rfl
  | cons c r ih =>
    intro a k hx ha hl
    obtain ⟨v1, v2, v3, v4⟩ := hexU_val (hx c (by simp))
    rw [List.length_cons] at hl
    have hp : 16 ^ (k + 1) ≤ 16 ^ 8 := Nat.pow_le_pow_right (by decide) (by omega)
    have h8 : (16 : Nat) ^ 8 = 4294967296 := by decide
    have hp2 : (16 : Nat) ^ (k + 1) = 16 * 16 ^ k := by rw [Nat.pow_succ, Nat.mul_comm]
    obtain ⟨v, hv⟩ := Int.eq_ofNat_of_zero_le v1
    have e : wrap64 (wrap64 (16 * (a : Int)) + hexV c) = ((16 * a + (hexV c).toNat : Nat) : Int) := by
      rw [hv]; unfold wrap64; omega
    rw [List.cons_append, runV, if_neg v3, if_neg v4, if_pos rfl, e, ih _ (k + 1) (fun d hd => hx d (by simp [hd])) (by omega) (by omega)]
    rfl
theorem run_second (t : List UInt8) (a : Int) : ∀ (w : List UInt8) (b k : Nat), (∀ c ∈ w, isHexU c = true) → b < 16 ^ k → k + w.length ≤ 8 → runV a (b : Int) false (w ++ t) = runV a (hexN b w : Int) false t := by
  intro w
  induction w with
  | nil => intro b k _ _ _; rfl
  | cons c r ih =>
    intro b k hx ha hl
    obtain ⟨v1, v2, v3, v4⟩ := hexU_val (hx c (by simp))
    rw [List.length_cons] at hl
    have hp : 16 ^ (k + 1) ≤ 16 ^ 8 := Nat.pow_le_pow_right (by decide) (by omega)
    have h8 : (16 : Nat) ^ 8 = 4294967296 := by decide
    have hp2 : (16 : Nat) ^ (k + 1) = 16 * 16 ^ k := by rw [Nat.pow_succ, Nat.mul_comm]
    obtain ⟨v, hv⟩ := Int.eq_ofNat_of_zero_le v1
    have e : wrap64 (wrap64 (16 * (b : Int)) + hexV c) = ((16 * b + (hexV c).toNat : Nat) : Int) := by
      rw [hv]; unfold wrap64; omega
    rw [List.cons_append, runV, if_neg v3, if_neg v4, if_neg (by decide), e, ih _ (k + 1) (fun d hd => hx d (by simp [hd])) (by omega) (by omega)]
    rfl
theorem run_end (a b : Int) (one : Bool) (t : List UInt8) (ht : t = [] ∨ ∃ r, t = 10 :: r) : runV a b one t = (a, b) := by
  rcases ht with rfl | ⟨r, rfl⟩
  · rfl
  · rw [runV, if_pos rfl]
theorem take_up (c : UInt8) (l : List UInt8) (h : c ∈ l) : l = upto c l ++ c :: past c l := by
  induction l with
  | nil => cases h
  | cons d r ih =>
    unfold upto past isNe at *
    by_cases e : d = c
    · subst e; simp [upto, isNe]
    · have hne : (d != c) = true := by simpa using e
      have hr : c ∈ r := by
        rcases List.mem_cons.1 h with h | h
        · exact absurd h.symm e
        · exact h
      have := ih hr
      simp only [List.takeWhile_cons, hne, if_true, List.cons_append, upto, isNe, List.length_cons, List.drop_succ_cons]
      simp only [upto, isNe] at this
      exact congrArg _ this
theorem upto_no {c : UInt8} : ∀ {l : List UInt8}, c ∉ l → upto c l = l
  | [], _ => rfl
  | d :: r, h => by
    have hd : (d != c) = true := by
      rw [bne_iff_ne]; exact fun e => h (by rw [e]; simp)
    have := upto_no (c := c) (l := r) (fun hm => h (by simp [hm]))
    unfold upto isNe at *
    rw [List.takeWhile_cons, if_pos hd, this]
theorem run_rest {rest t : List UInt8} (h : restOk rest = true) (ht : t = [] ∨ ∃ r, t = 10 :: r) : runV 0 0 true (rest ++ t) = ((num1 rest : Int), (num2 rest : Int)) := by
  unfold restOk at h
  rw [Bool.and_eq_true] at h
  obtain ⟨h1, h2⟩ := h
  change hexW (upto 32 rest) = true at h1
  change ((past 32 rest).isEmpty || hexW (past 32 rest)) = true at h2
  obtain ⟨a1, a2, a3⟩ := hexW_spec h1
  unfold num1 num2
  by_cases hm : (32 : UInt8) ∈ rest
  · have e := take_up 32 rest hm
    have hb : (∀ c ∈ past 32 rest, isHexU c = true) ∧ (past 32 rest).length ≤ 8 := by
      rw [Bool.or_eq_true, List.isEmpty_iff] at h2
      rcases h2 with h2 | h2
      · rw [h2]; simp
      · obtain ⟨b1, b2, b3⟩ := hexW_spec h2; exact ⟨b1, b3⟩
    obtain ⟨p1, p2⟩ : ∃ p, past 32 rest = p := ⟨_, rfl⟩
    obtain ⟨u1, u2⟩ : ∃ p, upto 32 rest = p := ⟨_, rfl⟩
    rw [p2, u2] at e
    rw [p2] at hb ⊢
    rw [u2] at a1 a2 a3 ⊢
    rw [e, List.append_assoc]
    have := run_first (32 :: p1 ++ t) 0 u1 0 0 a1 (by decide) (by omega)
    rw [List.cons_append] at this
    rw [List.cons_append]
    refine this.trans ?_
    rw [runV, if_neg (by decide), if_pos rfl]
    have := run_second t (hexN 0 u1 : Int) p1 0 0 hb.1 (by decide) (by omega)
    refine this.trans ?_
    exact run_end _ _ _ _ ht
  · have e : upto 32 rest = rest := upto_no hm
    have e2 : past 32 rest = [] := by unfold past; rw [e, List.drop_eq_nil_of_le (by omega)]
    rw [e2]
    rw [e] at a1 a2 a3 ⊢
    have := run_first t 0 rest 0 0 a1 (by decide) (by omega)
    refine this.trans ?_
    exact run_end _ _ _ _ ht
end Go.Proofs.YtdheknlnhfegnaaDoor.Hand

namespace Go.Proofs.YtdheknlnhfegnaaDoor.Hand
open Go Go.RowKit Go.Proofs.YtdheknlnhfegnaaDoor.Pl Go.Proofs.YtdheknlnhfegnaaDoor.Pb Go.Proofs.YtdheknlnhfegnaaDoor.Sr

theorem rhex_c (c : UInt8) (w : World) : Calls Tryd.prog 49 #[.int .u8 (c.toNat : Int)] w fun e w' => e = .returned (.int .i64 (hexV c)) ∧ Below w.heap.size w w' :=
  (flailref03_Hex.calls 2 _ _ w (hex3_f c 0)).mono fun _ _ h => ⟨h.1, h.2.below⟩
/-- what the reference tells of a name -/
noncomputable def rvalV (key : List UInt8) : Value := match rowN key with
  | none => .tuple #[.int .i64 0, .int .i64 0, .bool false]
  | some rest => .tuple #[.int .i64 (num1 rest : Int), .int .i64 (num2 rest : Int), .bool true]
theorem rval_none {key : List UInt8} (h : ¬ isKey namesL key) : rvalV key = .tuple #[.int .i64 0, .int .i64 0, .bool false] := by
  unfold rvalV
  rcases rowN_spec key with ⟨p, h1, h2, _⟩ | ⟨_, e⟩
  · exact absurd ⟨p, h1, h2⟩ h
  · rw [e]
/-- where a key's row begins: its value stands behind it -/
theorem at_row {key : List UInt8} (hk : ∀ c ∈ key, c ≠ 10 ∧ c ≠ 32) {p : Nat} (hp : St namesL p) (he : ∃ rest, namesL.drop p = key ++ 32 :: rest) :
    ∃ rest t, rowN key = some rest ∧ restOk rest = true ∧ namesL.drop (p + key.length + 1) = rest ++ t ∧ (t = [] ∨ ∃ r, t = 10 :: r) := by
  obtain ⟨q, h1, h2, h3⟩ := names_tab.row p hp
  have hky : kyT namesL p = key := (ky_iff hk ⟨q, h1⟩).2 he
  have hf : Fnd namesL key (some (rsL (lnT namesL p))) := .inl ⟨p, hp, hky, rfl⟩
  obtain ⟨r1, _, _⟩ := fnd_rest hf
  have hrs : rsL (lnT namesL p) = q := by
    unfold rsL
    change (lnT namesL p).drop ((kyT namesL p).length + 1) = q
    rw [h1, List.drop_append, List.drop_eq_nil_of_le (by omega), List.nil_append, show (kyT namesL p).length + 1 - (kyT namesL p).length = 1 by omega]; rfl
  refine ⟨q, (namesL.drop p).dropWhile (fun c => c != 10), by rw [rowN_eq hf, hrs], by rw [← hrs]; exact r1, ?_, ?_⟩
  · have e := List.takeWhile_append_dropWhile (p := fun c : UInt8 => c != 10) (l := namesL.drop p)
    change lnT namesL p ++ _ = _ at e
    rw [h1, hky] at e
    obtain ⟨D, hD⟩ : ∃ D, (namesL.drop p).dropWhile (fun c => c != 10) = D := ⟨_, rfl⟩
    rw [hD] at e ⊢
    rw [Nat.add_assoc, ← List.drop_drop, ← e, List.append_assoc, List.drop_append, List.drop_eq_nil_of_le (by omega), List.nil_append, Nat.add_sub_cancel_left]; rfl
  · have := List.head?_dropWhile_not (fun c : UInt8 => c != 10) (namesL.drop p)
    cases hd : (namesL.drop p).dropWhile (fun c => c != 10) with
    | nil => exact .inl rfl
    | cons c r =>
      rw [hd] at this
      right
      refine ⟨r, ?_⟩
      simp at this
      rw [this]
set_option maxRecDepth 1000000 in
set_option maxHeartbeats 4000000 in
theorem value6_c (s : List UInt8) (hs : s.length ≤ 1000000) (w : World) :
    Calls Tryd.prog 52 #[.string (B s)] w fun e w' => e = .returned (rvalV s) ∧ Below w.heap.size w w' := by
  have hNS : namesB.size ≤ 1000000 := of_decide_eq_true names_size
  -- what 'at' answers
  have AT : (∀ c ∈ s, c ≠ 10 ∧ c ≠ 32) → ∀ W, Calls Tryd.prog 63 #[.string (B s)] W fun e w' => ((∃ (p : Nat) (rest t : List UInt8), e = .returned (.int .i64 (p : Int)) ∧ p + s.length + 1 ≤ namesB.size ∧ rowN s = some rest ∧ restOk rest = true ∧ namesL.drop (p + s.length + 1) = rest ++ t ∧ (t = [] ∨ ∃ r, t = 10 :: r)) ∨ (e = .returned (.int .i64 (-1)) ∧ ¬ isKey namesL s)) ∧ Below W.heap.size W w' := by
    intro hk W
    by_cases h1 : 1 ≤ s.length ∧ s.length ≤ 32
    · refine (at6_c (B s) (by rw [size_B]; exact h1.1) (by rw [size_B]; exact h1.2) W).mono ?_
      rintro e w' ⟨⟨r, hr, rfl⟩, hb⟩
      refine ⟨?_, hb⟩
      have eW : B s ++ (⟨#[32]⟩ : ByteArray) = B (s ++ [32]) := by rw [show (⟨#[32]⟩ : ByteArray) = B [32] from rfl, B_append]
      rw [eW] at hr
      have hex : ∀ p, p + (B (s ++ [32])).size ≤ namesB.size → (namesB.extract p (p + (B (s ++ [32])).size) = B (s ++ [32]) ↔ ∃ rest, namesL.drop p = s ++ 32 :: rest) := by
        intro p hp
        have hT : namesB = B namesL := B_of _
        have hl : namesB.size = namesL.length := by rw [hT, size_B]
        constructor
        · intro e
          rw [hT, B_extract] at e
          have e2 := B_inj e
          rw [List.drop_take, Nat.add_sub_cancel_left] at e2
          have e3 := List.take_append_drop (B (s ++ [32])).size (namesL.drop p)
          rw [e2] at e3
          exact ⟨_, e3.symm.trans (by rw [List.append_assoc]; rfl)⟩
        · rintro ⟨rest, e⟩
          rw [hT, B_extract, List.drop_take, Nat.add_sub_cancel_left, e, size_B]
          congr 1
          rw [show s ++ 32 :: rest = (s ++ [32]) ++ rest by simp, List.take_left]
      rcases hr with ⟨p, rfl, hst, hle, hx⟩ | ⟨rfl, hno⟩
      · obtain ⟨rest, t, r1, r2, r3, r4⟩ := at_row hk hst ((hex p hle).1 hx)
        left
        refine ⟨p, rest, t, rfl, ?_, r1, r2, r3, r4⟩
        rw [size_B, List.length_append] at hle
        simp at hle
        omega
      · right
        refine ⟨rfl, ?_⟩
        rintro ⟨p, hp, hky⟩
        obtain ⟨q, g1, _, _⟩ := names_tab.row p hp
        have hd := (ky_iff hk ⟨q, g1⟩).1 hky
        have hle : p + (B (s ++ [32])).size ≤ namesB.size := by
          obtain ⟨rest, e⟩ := hd
          have := congrArg List.length e
          rw [List.length_drop] at this
          have hT : namesB.size = namesL.length := by rw [show namesB = B namesL from B_of _, size_B]
          simp only [List.length_append, List.length_cons] at this
          rw [size_B, List.length_append, hT]
          simp
          omega
        exact hno p hp hle ((hex p hle).2 hd)
    · have hnk : ¬ isKey namesL s := by
        intro h
        have := key_facts h
        have h0 := List.length_pos_iff.2 this.pos
        exact h1 ⟨h0, this.le⟩
      refine (?_ : Calls Tryd.prog 63 #[.string (B s)] W fun e w' => e = .returned (.int .i64 (-1)) ∧ Below W.heap.size W w').mono (fun e w' h => ⟨.inr ⟨h.1, hnk⟩, h.2⟩)
      obtain ⟨a, ha⟩ : ∃ a, B s = a := ⟨_, rfl⟩
      have hz : a.size = s.length := by rw [← ha]; simp
      have hq : a.size = 0 ∨ 32 < a.size := by omega
      rw [ha]
      clear ha hz hk hs hnk h1
      refine calls_of_wp Tryd.func63 rfl ?_
      generalize hN : ByteArray.mk (List.toArray (List.append _ _)) = N
      clear hN
      simp only [Tryd.ntmps63, List.size_toArray, List.length_cons, List.length_nil, Nat.reduceAdd, Nat.reduceSub, Array.replicate_succ, Array.replicate_zero, List.push_toArray, List.append_toArray, List.nil_append, List.cons_append]
      rcases hq with h0 | h0
      · have q1 : ((a.size : Int) == 0) = true := by rw [beq_iff_eq]; omega
        go_wp2_with fail
        go_ret
        exact ⟨rfl, Below.refl _ _⟩
      · have q1 : ((a.size : Int) == 0) = false := by rw [beq_eq_false_iff_ne]; omega
        have q2 : decide ((32 : Int) < (a.size : Int)) = true := decide_eq_true (by omega)
        go_wp2_with fail
        go_ret
        exact ⟨rfl, Below.refl _ _⟩
  have HAT := Lib.hid AT
  have hNo : (∃ c ∈ s, c = 10 ∨ c = 32) → rvalV s = .tuple #[.int .i64 0, .int .i64 0, .bool false] := by
    rintro ⟨c, hc, h⟩
    refine rval_none ?_
    rintro ⟨p, hp, rfl⟩
    obtain ⟨_, _, _, g⟩ := names_tab.row p hp
    rcases h with rfl | rfl
    · exact (g _ hc).1 rfl
    · exact (g _ hc).2 rfl
  have HNO := Lib.hid hNo
  have hRN : ¬ isKey namesL s → rvalV s = .tuple #[.int .i64 0, .int .i64 0, .bool false] := rval_none
  have HRN := Lib.hid hRN
  have hRS : ∀ rest, rowN s = some rest → rvalV s = .tuple #[.int .i64 (num1 rest : Int), .int .i64 (num2 rest : Int), .bool true] := fun rest h => by unfold rvalV; rw [h]
  have HRS := Lib.hid hRS
  obtain ⟨V, hV⟩ : ∃ V, rvalV s = V := ⟨_, rfl⟩
  rw [hV] at HNO HRN HRS ⊢
  obtain ⟨a, ha⟩ : ∃ a, B s = a := ⟨_, rfl⟩
  have hsz : a.size = s.length := by rw [← ha]; simp
  have hby : ∀ i (h : i < a.size), a[i] ∈ s := fun i h => by
    subst ha
    have h' : i < s.length := by simpa using h
    exact List.getElem_mem h'
  have hall : ∀ c ∈ s, ∃ i, ∃ h : i < a.size, a[i] = c := fun c hc => by
    obtain ⟨i, hi, e⟩ := List.getElem_of_mem hc
    subst ha
    exact ⟨i, by simpa using hi, e⟩
  rw [ha] at HAT ⊢
  have HSZ := Lib.hid hsz
  have HBY := Lib.hid hby
  have HALL := Lib.hid hall
  have hza : a.size ≤ 1000000 := by omega
  clear AT hNo hRN hRS hV ha hsz hby hall hs
  refine calls_of_wp Tryd.func52 rfl ?_
  generalize hN : ByteArray.mk (List.toArray (List.append _ _)) = N
  have hN2 : N = namesB := hN.symm.trans rfl
  clear hN
  have HN2 := Lib.hid hN2
  have hz : N.size ≤ 1000000 := by rw [hN2]; exact hNS
  clear hN2 hNS
  simp only [Tryd.ntmps52, List.size_toArray, List.length_cons, List.length_nil, Nat.reduceAdd, Nat.reduceSub, Array.replicate_succ, Array.replicate_zero, List.push_toArray, List.append_toArray, List.nil_append, List.cons_append]
  go_wp2_with fail
  go_loopw [5] (fun v wx => ∃ i : Nat, v = .int .i64 (i : Int) ∧ i ≤ a.size ∧ Hid (Below w.heap.size w wx) ∧ Hid (∀ j (h : j < a.size), j < i → a[j] ≠ 10 ∧ a[j] ≠ 32)) (fun v _ => a.size - (intOf v).toNat)
  case atStart => exact ⟨0, rfl, Nat.zero_le _, Lib.hid (Below.refl _ _), Lib.hid (fun j h h' => by omega)⟩
  case round =>
    obtain ⟨i, rfl, hi, HW0, HD⟩ := hrel
    by_cases hlt : i < a.size
    · by_cases h10 : a[i] = 10
      · have q1 : (((a[i].toNat : Nat) : Int) == 10) = true := by rw [h10]; rfl
        have HX := Lib.hid (HNO.out ⟨a[i], HBY.out i hlt, .inl h10⟩)
        clear h10
        go_wp2_with fail
        go_ret3
        exact ⟨by rw [HX.out]; rfl, HW0.out⟩
      · have q1 : (((a[i].toNat : Nat) : Int) == 10) = false := by rw [beq_eq_false_iff_ne]; intro e; exact h10 (UInt8.toNat_inj.1 (show a[i].toNat = 10 by omega))
        by_cases h32 : a[i] = 32
        · have q2 : (((a[i].toNat : Nat) : Int) == 32) = true := by rw [h32]; rfl
          have HX := Lib.hid (HNO.out ⟨a[i], HBY.out i hlt, .inr h32⟩)
          clear h10 h32
          go_wp2_with fail
          go_ret3
          exact ⟨by rw [HX.out]; rfl, HW0.out⟩
        · have q2 : (((a[i].toNat : Nat) : Int) == 32) = false := by rw [beq_eq_false_iff_ne]; intro e; exact h32 (UInt8.toNat_inj.1 (show a[i].toNat = 32 by omega))
          have HD2 : Hid (∀ j (h : j < a.size), j < i + 1 → a[j] ≠ 10 ∧ a[j] ≠ 32) := Lib.hid (fun j h hj => by
            by_cases e : j = i
            · subst e; exact ⟨h10, h32⟩
            · exact HD.out j h (by omega))
          clear h10 h32
          go_wp2_with fail
          go_roundw
          case rel => exact ⟨i + 1, by go_num, by omega, HW0, HD2⟩
          case measure => simp [intOf]; omega
    · obtain rfl : i = a.size := by omega
      have A := Lib.hid (HAT.out (fun c hc => by
        obtain ⟨j, hj, rfl⟩ := HALL.out c hc
        exact HD.out j hj (by omega)))
      go_wp2_with fail
      refine (A.out _).mono ?_
      rintro e w1 ⟨⟨p, rest, t, rfl, hp, hrow, hok, hdrop, ht⟩ | ⟨rfl, hnk⟩, hb⟩
      · have HR := Lib.hid (HRS.out rest hrow)
        have HRV := Lib.hid (run_rest hok ht)
        rw [← hdrop] at HRV
        have HB := Lib.hid (HW0.out.trans (hb.mono HW0.out.size))
        have hp2 : p + a.size + 1 ≤ N.size := by rw [HN2.out, HSZ.out]; exact hp
        have hd2 : Hid (namesL.drop (p + s.length + 1) = N.data.toList.drop (p + a.size + 1)) := Lib.hid (by rw [HN2.out, HSZ.out]; rfl)
        rw [hd2.out] at HRV
        have q3 : decide ((p : Int) < 0) = false := decide_eq_false (by omega)
        obtain ⟨n1, hn1⟩ : ∃ n, (num1 rest : Int) = n := ⟨_, rfl⟩
        obtain ⟨n2, hn2⟩ : ∃ n, (num2 rest : Int) = n := ⟨_, rfl⟩
        rw [hn1, hn2] at HRV HR
        clear hrow hok hdrop ht hb hd2 hp hn1 hn2 A
        go_wp2_with fail
        go_loopw [7, 8, 9, 11] (fun v7 v8 v9 v11 wx => ∃ (x y : Int) (one : Bool) (i : Nat), v7 = .int .i64 x ∧ v8 = .int .i64 y ∧ v9 = .bool one ∧ v11 = .int .i64 (i : Int) ∧ i ≤ N.size ∧ Hid (Below w.heap.size w wx) ∧ Hid (runV x y one (N.data.toList.drop i) = (n1, n2))) (fun _ _ _ v _ => N.size - (intOf v).toNat)
        case atStart => exact ⟨0, 0, true, p + a.size + 1, rfl, rfl, rfl, by go_num, hp2, HB, HRV⟩
        case round =>
          obtain ⟨x, y, one, i, rfl, rfl, rfl, rfl, hi, HW, HV⟩ := hrel
          by_cases hlt : i < N.size
          · have hd := drop_cons N i hlt
            have hV := HV.out
            rw [hd, runV] at hV
            have HXX := Lib.hid (fun W => rhex_c N[i] W)
            by_cases h10 : N[i] = 10
            · have q1 : (((N[i].toNat : Nat) : Int) == 10) = true := by rw [h10]; rfl
              rw [if_pos h10] at hV
              obtain ⟨rfl, rfl⟩ := Prod.mk.inj hV
              clear h10 hd hV HXX HV
              go_wp2_with fail
              go_ret3
              exact ⟨by rw [HR.out]; rfl, HW.out⟩
            · have q1 : (((N[i].toNat : Nat) : Int) == 10) = false := by rw [beq_eq_false_iff_ne]; intro e; exact h10 (UInt8.toNat_inj.1 (show N[i].toNat = 10 by omega))
              rw [if_neg h10] at hV
              by_cases h32 : N[i] = 32
              · have q2 : (((N[i].toNat : Nat) : Int) == 32) = true := by rw [h32]; rfl
                rw [if_pos h32] at hV
                have HV2 := Lib.hid hV
                clear h10 h32 hd hV HXX HV
                go_wp2_with fail
                go_roundw
                case rel => exact ⟨x, y, false, i + 1, rfl, rfl, rfl, by go_num, by omega, HW, HV2⟩
                case measure => simp [intOf]; omega
              · have q2 : (((N[i].toNat : Nat) : Int) == 32) = false := by rw [beq_eq_false_iff_ne]; intro e; exact h32 (UInt8.toNat_inj.1 (show N[i].toNat = 32 by omega))
                rw [if_neg h32] at hV
                cases one with
                | true =>
                  rw [if_pos rfl] at hV
                  have HV2 := Lib.hid hV
                  clear h10 h32 hd hV HV
                  go_wp2_with fail
                  refine (HXX.out _).mono ?_
                  rintro e w2 ⟨rfl, hb⟩
                  have HW2 := Lib.hid (HW.out.trans (hb.mono HW.out.size))
                  clear hb HXX
                  go_wp2_with fail
                  go_roundw
                  case rel => exact ⟨_, y, true, i + 1, rfl, rfl, rfl, by go_num, by omega, HW2, HV2⟩
                  case measure => simp [intOf]; omega
                | false =>
                  rw [if_neg (by decide)] at hV
                  have HV2 := Lib.hid hV
                  clear h10 h32 hd hV HV
                  go_wp2_with fail
                  refine (HXX.out _).mono ?_
                  rintro e w2 ⟨rfl, hb⟩
                  have HW2 := Lib.hid (HW.out.trans (hb.mono HW.out.size))
                  clear hb HXX
                  go_wp2_with fail
                  go_roundw
                  case rel => exact ⟨x, _, false, i + 1, rfl, rfl, rfl, by go_num, by omega, HW2, HV2⟩
                  case measure => simp [intOf]; omega
          · obtain rfl : i = N.size := by omega
            have hV := HV.out
            rw [List.drop_eq_nil_of_le (by rw [Array.length_toList]; exact Nat.le_refl _), runV] at hV
            obtain ⟨rfl, rfl⟩ := Prod.mk.inj hV
            clear hV HV
            go_wp2_with fail
            go_ret3
            exact ⟨by rw [HR.out]; rfl, HW.out⟩
      · have HX := Lib.hid (HRN.out hnk)
        have HB := Lib.hid (HW0.out.trans (hb.mono HW0.out.size))
        clear hnk hb A
        go_wp2_with fail
        go_ret3
        exact ⟨by rw [HX.out]; rfl, HB.out⟩
end Go.Proofs.YtdheknlnhfegnaaDoor.Hand

namespace Go.Proofs.YtdheknlnhfegnaaDoor.Hand
open Go Go.RowKit Go.Proofs.YtdheknlnhfegnaaDoor.Pb Go.Proofs.YtdheknlnhfegnaaDoor.Pl Go.Proofs.YtdheknlnhfegnaaDoor.Sr Go.Proofs.YtdheknlnhfegnaaDoor.Pure Go.Proofs.YtdheknlnhfegnaaDoorW.PrintWords

theorem sign1_f (m : Nat) (hm : m ≤ 1114111) (k : Nat) : flailref01_Sign.f (k + 1) (m : Int) = some (signB (m : Int)) := by
  have hs : signB (m : Int) = Utf8.encode (m : Int) := by unfold signB; rw [if_neg (by omega)]
  have hv : Utf8.valid (m : Int) = decide (m < 55296 ∨ (57344 ≤ m ∧ m ≤ 1114111)) := by
    rw [Bool.eq_iff_iff, decide_eq_true_eq]
    simp only [Utf8.valid, Bool.or_eq_true, Bool.and_eq_true, decide_eq_true_eq]
    omega
  rw [hs]
  unfold flailref01_Sign.f Utf8.encode
  rw [if_neg (by omega), if_neg (by omega), hv]
  have td : ∀ a : Nat, (m : Int).tdiv (a : Int) = ((m / a : Nat) : Int) := fun a => by rw [Int.tdiv_eq_ediv_of_nonneg (by omega)]; rfl
  have t64 : (m : Int).tdiv 64 = ((m / 64 : Nat) : Int) := td 64
  have t4096 : (m : Int).tdiv 4096 = ((m / 4096 : Nat) : Int) := td 4096
  have t262144 : (m : Int).tdiv 262144 = ((m / 262144 : Nat) : Int) := td 262144
  have tm : ∀ a : Nat, (a : Int).tmod 64 = ((a % 64 : Nat) : Int) := fun a => by rw [Int.tmod_eq_emod_of_nonneg (by omega)]; rfl
  have ww : ∀ a : Nat, a ≤ 2000000 → wrap64 (a : Int) = a := fun a h => by unfold wrap64; omega
  have b128 : ∀ a : Nat, a ≤ 127 → wrap64 (128 + (a : Int)) % 256 = ((128 + a : Nat) : Int) := fun a h => by unfold wrap64; omega
  have b192 : ∀ a : Nat, a ≤ 63 → wrap64 (192 + (a : Int)) % 256 = ((192 + a : Nat) : Int) := fun a h => by unfold wrap64; omega
  have b224 : ∀ a : Nat, a ≤ 31 → wrap64 (224 + (a : Int)) % 256 = ((224 + a : Nat) : Int) := fun a h => by unfold wrap64; omega
  have b240 : ∀ a : Nat, a ≤ 15 → wrap64 (240 + (a : Int)) % 256 = ((240 + a : Nat) : Int) := fun a h => by unfold wrap64; omega
  by_cases hb : 55296 ≤ m ∧ m ≤ 57343
  · rw [if_pos (by omega), decide_eq_true (by omega), decide_eq_false (by omega), flailref01_Sign.j0, if_pos rfl]
    simp only [Bool.false_eq_true, if_false, Utf8.runeError]
    rfl
  · have j : flailref01_Sign.j0 (k + 1) (m : Int) false = some (Utf8.encode (m : Int)) := by
      rw [flailref01_Sign.j0, if_neg (by decide)]
      unfold Utf8.encode
      rw [hv, decide_eq_true (by omega)]
      simp only [if_true, Int.toNat_natCast]
      by_cases h1 : m < 128
      · rw [if_pos (by omega), if_pos h1, show (m : Int) % 256 = (m : Int) by omega]; rfl
      · rw [if_neg (by omega), if_neg h1]
        by_cases h2 : m < 2048
        · rw [if_pos (by omega), if_pos h2, t64, tm, ww _ (by omega), b192 (m / 64) (by omega), b128 (m % 64) (by omega)]; rfl
        · rw [if_neg (by omega), if_neg h2]
          by_cases h3 : m < 65536
          · rw [if_pos (by omega), if_pos h3, t4096, t64, tm, ww _ (by omega), ww _ (by omega), tm, b224 (m / 4096) (by omega), b128 (m / 64 % 64) (by omega), b128 (m % 64) (by omega)]; rfl
          · rw [if_neg (by omega), if_neg h3, t262144, t4096, t64, tm, ww _ (by omega), ww _ (by omega), tm, ww _ (by omega), tm, b240 (m / 262144) (by omega), b128 (m / 4096 % 64) (by omega), b128 (m / 64 % 64) (by omega), b128 (m % 64) (by omega)]; rfl
    have j' := j
    unfold Utf8.encode at j'
    rw [hv] at j'
    split
    · rw [decide_eq_false (show ¬ (m : Int) ≤ 57343 by omega)]; exact j'
    · exact j'
end Go.Proofs.YtdheknlnhfegnaaDoor.Hand

namespace Go.Proofs.YtdheknlnhfegnaaDoor.Hand
open Go Go.RowKit Go.Proofs.YtdheknlnhfegnaaDoor.Pb Go.Proofs.YtdheknlnhfegnaaDoor.Pl Go.Proofs.YtdheknlnhfegnaaDoor.Sr Go.Proofs.YtdheknlnhfegnaaDoor.Pure Go.Proofs.YtdheknlnhfegnaaDoorW.PrintWords

def tab4 : List Int := [8364, 129, 8218, 402, 8222, 8230, 8224, 8225, 710, 8240, 352, 8249, 338, 141, 381, 143, 144, 8216, 8217, 8220, 8221, 8226, 8211, 8212, 732, 8482, 353, 8250, 339, 157, 382, 376]
theorem tab4_at : ∀ j : Fin 32, rd tab4 ((j.val : Nat) : Int) = ((otherN.getD j.val 0 : Nat) : Int) := by decide
theorem fix4_f (m : Nat) (hm : m ≤ 1114112) (k : Nat) : flailref04_Fix.f (k + 3) (m : Int) = some (fixB m) := by
  unfold flailref04_Fix.f fixB
  by_cases h0 : m = 0
  · rw [if_pos (by omega), if_pos h0, flailref04_Fix.j0, if_pos rfl]
  rw [if_neg (by omega), if_neg h0]
  by_cases hb : m = 1114112
  · rw [decide_eq_true (by omega), flailref04_Fix.j0, if_pos rfl, if_neg (by omega)]
    unfold signB
    rw [if_pos (by omega)]
  rw [decide_eq_false (by omega), flailref04_Fix.j0, if_neg (by decide), Option.bind_some]
  have w : 128 ≤ m → wrap64 ((m : Int) - 128) = ((m - 128 : Nat) : Int) := fun h => by unfold wrap64; omega
  by_cases h1 : 128 ≤ m
  · rw [if_pos (by omega)]
    by_cases h2 : m < 160
    · rw [decide_eq_true (by omega), flailref04_Fix.j1, if_pos rfl, w h1, if_pos (by omega), if_pos (by show ((m - 128 : Nat) : Int) < 32; omega), if_pos ⟨h1, h2⟩]
      have := tab4_at ⟨m - 128, by omega⟩
      show (flailref01_Sign.f (k + 1) (rd tab4 ((m - 128 : Nat) : Int))).bind (fun t => some t) = _
      rw [this, sign1_f _ (otherN_le _) k]; rfl
    · rw [decide_eq_false (by omega), flailref04_Fix.j1, if_neg (by decide), sign1_f m (by omega) k, if_neg (by omega)]; rfl
  · rw [if_neg (by omega), flailref04_Fix.j1, if_neg (by decide), sign1_f m (by omega) k, if_neg (by omega)]; rfl
end Go.Proofs.YtdheknlnhfegnaaDoor.Hand

namespace Go.Proofs.YtdheknlnhfegnaaDoor.Hand
open Go Go.RowKit Go.Proofs.YtdheknlnhfegnaaDoor.Pb Go.Proofs.YtdheknlnhfegnaaDoor.Pl Go.Proofs.YtdheknlnhfegnaaDoor.Sr Go.Proofs.YtdheknlnhfegnaaDoor.Pure Go.Proofs.YtdheknlnhfegnaaDoorW.PrintWords

theorem isDig_hex (c : UInt8) : isDigB c = decide (0 ≤ hexV c ∧ hexV c ≤ 9) := by
  have : ∀ n : Fin 256, isDigB (UInt8.ofNat n.val) = decide (0 ≤ hexV (UInt8.ofNat n.val) ∧ hexV (UInt8.ofNat n.val) ≤ 9) := by decide +kernel
  have h := this ⟨c.toNat, c.toNat_lt⟩
  simpa using h
theorem isDg_hex (six : Bool) (c : UInt8) : isDg six c = if hexV c < 0 then false else if hexV c > 9 then six else true := by
  unfold isDg
  rw [isDig_hex]
  by_cases h1 : hexV c < 0
  · rw [if_pos h1, decide_eq_false (by omega), decide_eq_false (by omega)]; cases six <;> rfl
  · rw [if_neg h1]
    by_cases h2 : hexV c > 9
    · rw [if_pos h2, decide_eq_false (by omega), decide_eq_true (by omega)]; cases six <;> rfl
    · rw [if_neg h2, decide_eq_true (by omega)]; rfl
/-- what the reference tells of digits -/
def res4 (p : Int) (fr : Nat) (x : Option (Nat × Nat)) : ByteArray × Int × Bool := match x with
  | none => ((⟨#[]⟩ : ByteArray), p, false)
  | some (m, k) => (fixB m, ((fr + k : Nat) : Int), true)
theorem begR_semi (q : List UInt8) : begR q [59] = (q.head? == some 59) := by
  cases q with
  | nil => rfl
  | cons c r =>
    have : ∀ n : Fin 256, (lowB (UInt8.ofNat n.val) == 59) = (UInt8.ofNat n.val == 59) := by decide +kernel
    have h := this ⟨c.toNat, c.toNat_lt⟩
    simp only [UInt8.ofNat_toNat] at h
    simp [begR, h]
theorem tail4 (s : List UInt8) (hs : s.length ≤ 100000) (p : Int) (fr : Nat) (six : Bool) (q pre : List UInt8) (hd : s.drop fr = pre ++ q) (hdg : digs six (s.drop fr) = pre) (hfr : fr ≤ s.length) (K : Nat) (hK : 2 * s.length + 8 ≤ K) :
    flailref04_Read.j3 (K + 1) (B s) p (fr : Int) six ((fr + pre.length : Nat) : Int) = some (res4 p fr (numQ six (s.drop fr))) := by
  have hl := congrArg List.length hd
  rw [List.length_drop, List.length_append] at hl
  have hx : (B s).extract ((fr : Int)).toNat (((fr + pre.length : Nat) : Int)).toNat = B pre := by
    rw [Int.toNat_natCast, Int.toNat_natCast, B_extract, List.drop_take, hd, show fr + pre.length - fr = pre.length by omega, List.take_left]
  have hq : s.drop (fr + pre.length) = q := by rw [← List.drop_drop, hd, List.drop_left]
  have hv := val4_f pre (by omega) six (K - (2 * pre.length + 4))
  rw [show 2 * pre.length + 4 + (K - (2 * pre.length + 4)) = K by omega] at hv
  have hvb := valL_bound (baseN six) pre
  rw [flailref04_Read.j3, if_pos (by omega), if_pos (by omega), if_pos (by rw [size_B]; omega), hx, hv, Option.bind_some]
  unfold numQ
  simp only [hdg]
  by_cases h0 : valL (baseN six) pre < 0
  · rw [if_pos h0, if_pos h0]; rfl
  · rw [if_neg h0, if_neg h0]
    obtain ⟨m, hm⟩ : ∃ m : Nat, valL (baseN six) pre = m := ⟨_, (Int.toNat_of_nonneg (by omega)).symm⟩
    rw [hm] at hvb ⊢
    have hf := fix4_f m (by omega) (K - 3)
    rw [show K - 3 + 3 = K by omega] at hf
    rw [hf, hd, List.drop_left, begR_semi]
    simp only [Option.bind_some, Int.toNat_natCast]
    have w1 : wrap64 (((fr + pre.length : Nat) : Int) + 1) = ((fr + (pre.length + 1) : Nat) : Int) := by unfold wrap64; omega
    cases q with
    | nil =>
      rw [if_neg (by rw [size_B]; simp only [List.length_nil] at hl; omega)]; rfl
    | cons c r =>
      simp only [List.length_cons] at hl
      rw [if_pos (by rw [size_B]; omega), if_pos (by omega), bt_drop s _ c r hq]
      by_cases h59 : c = 59
      · subst h59
        rw [if_pos (by rfl), w1]; rfl
      · rw [if_neg (fun e => h59 (UInt8.toNat_inj.1 (show c.toNat = 59 by omega)))]
        have : ((c :: r).head? == some 59) = false := by rw [beq_eq_false_iff_ne]; intro e; exact h59 (Option.some.inj e)
        rw [this]; rfl
theorem scan4 (s : List UInt8) (hs : s.length ≤ 100000) (p : Int) (fr : Nat) (six : Bool) (hfr : fr ≤ s.length) (K : Nat) (hK : 2 * s.length + 8 ≤ K) : ∀ (q pre : List UInt8), s.drop fr = pre ++ q → (∀ c ∈ pre, isDg six c = true) →
    flailref04_Read.l0 (K + q.length + 2) (B s) p (fr : Int) six ((fr + pre.length : Nat) : Int) = some (res4 p fr (numQ six (s.drop fr))) := by
  intro q
  induction q with
  | nil =>
    intro pre hd hp
    have hl := congrArg List.length hd
    rw [List.length_drop, List.append_nil] at hl
    have hdg : digs six (s.drop fr) = pre := by
      unfold digs; rw [hd, tw_app _ _ _ hp]; simp
    rw [flailref04_Read.l0, if_neg (by rw [size_B]; omega)]
    exact tail4 s hs p fr six [] pre hd hdg hfr _ (by simp; omega)
  | cons c r ih =>
    intro pre hd hp
    have hl := congrArg List.length hd
    rw [List.length_drop, List.length_append, List.length_cons] at hl
    have hq : s.drop (fr + pre.length) = c :: r := by rw [← List.drop_drop, hd, List.drop_left]
    have hdg := isDg_hex six c
    have w1 : wrap64 (((fr + pre.length : Nat) : Int) + 1) = ((fr + (pre ++ [c]).length : Nat) : Int) := by rw [List.length_append]; simp only [List.length_cons, List.length_nil]; unfold wrap64; omega
    have hstop : isDg six c = false → flailref04_Read.j3 (K + (r.length + 1) + 1) (B s) p (fr : Int) six ((fr + pre.length : Nat) : Int) = some (res4 p fr (numQ six (s.drop fr))) := fun h => by
      have hdg : digs six (s.drop fr) = pre := by
        unfold digs; rw [hd, tw_app _ _ _ hp, List.takeWhile_cons, h]; simp
      exact tail4 s hs p fr six _ pre hd hdg hfr _ (by omega)
    have hgo : isDg six c = true → flailref04_Read.l0 (K + (r.length + 1) + 1) (B s) p (fr : Int) six ((fr + (pre ++ [c]).length : Nat) : Int) = some (res4 p fr (numQ six (s.drop fr))) := fun h => by
      rw [show K + (r.length + 1) + 1 = K + r.length + 2 by omega]
      exact ih (pre ++ [c]) (by rw [hd]; simp) (fun d hd => by
        rcases List.mem_append.1 hd with h' | h'
        · exact hp d h'
        · rw [List.mem_singleton.1 h']; exact h)
    rw [show K + (c :: r).length + 2 = (K + (r.length + 1) + 1) + 1 by simp only [List.length_cons], flailref04_Read.l0, if_pos (by rw [size_B]; omega), if_pos (by omega), bt_drop s _ c r hq, show K + (r.length + 1) + 1 = (K + r.length) + 2 by omega, hex3_f, Option.bind_some, w1]
    rw [show K + (r.length + 1) + 1 = (K + r.length) + 2 by omega] at hstop hgo
    by_cases h1 : hexV c < 0
    · rw [if_pos h1] at hdg ⊢; exact hstop hdg
    · rw [if_neg h1] at hdg ⊢
      by_cases h2 : hexV c > 9
      · rw [if_pos h2] at hdg ⊢
        cases six with
        | true => rw [if_pos rfl]; exact hgo hdg
        | false => rw [if_neg (by decide)]; exact hstop hdg
      · rw [if_neg h2] at hdg ⊢; exact hgo hdg
theorem low_x (c : UInt8) : (lowB c == 120) = (c == 120 || c == 88) := by
  have : ∀ n : Fin 256, (lowB (UInt8.ofNat n.val) == 120) = (UInt8.ofNat n.val == 120 || UInt8.ofNat n.val == 88) := by decide +kernel
  have h := this ⟨c.toNat, c.toNat_lt⟩
  simpa using h
theorem low_35 (c : UInt8) : (lowB c == 35) = (c == 35) := by
  have : ∀ n : Fin 256, (lowB (UInt8.ofNat n.val) == 35) = (UInt8.ofNat n.val == 35) := by decide +kernel
  have h := this ⟨c.toNat, c.toNat_lt⟩
  simpa using h
theorem u8_ne {c d : UInt8} {n : Int} (h : c ≠ d) (hn : n = (d.toNat : Int)) : ¬ ((c.toNat : Int)) = n := fun e => h (UInt8.toNat_inj.1 (by omega))
theorem read4_f (s : List UInt8) (hs : s.length ≤ 100000) (p : Nat) (hp : p ≤ s.length) : flailref04_Read.f (4 * s.length + 20) (B s) (p : Int) = some (res4 p p (numL (s.drop p))) := by
  unfold flailref04_Read.f
  rw [if_neg (by omega)]
  cases hr : s.drop p with
  | nil =>
    have : s.length ≤ p := List.drop_eq_nil_iff.1 hr
    rw [decide_eq_true (by rw [size_B]; omega), show 4 * s.length + 20 = (4 * s.length + 19) + 1 by omega, flailref04_Read.j0, if_pos rfl]; rfl
  | cons c r =>
    have hlt := drop_lt hr
    have hr1 : s.drop (p + 1) = r := by rw [← List.drop_drop, hr]; rfl
    have hl1 := congrArg List.length hr1
    rw [List.length_drop] at hl1
    rw [decide_eq_false (by rw [size_B]; omega), show 4 * s.length + 20 = (4 * s.length + 19) + 1 by omega, flailref04_Read.j0, if_neg (by decide), if_pos (by omega), if_pos (by rw [size_B]; omega), bt_drop s p c r hr]
    unfold numL
    rw [show begR (c :: r) [35] = (c == 35) by simp [begR, low_35]]
    by_cases h35 : c = 35
    · subst h35
      rw [if_pos (show (((35 : UInt8).toNat : Nat) : Int) = 35 from rfl), if_pos (show ((35 : UInt8) == 35) = true from rfl)]
      have w1 : wrap64 ((p : Int) + 1) = ((p + 1 : Nat) : Int) := by unfold wrap64; omega
      have w2 : wrap64 (((p + 1 : Nat) : Int) + 1) = ((p + 2 : Nat) : Int) := by unfold wrap64; omega
      rw [w1, w2]
      have dec : ∀ six fr, fr ≤ s.length → flailref04_Read.j1 (4 * s.length + 19) (B s) (p : Int) (fr : Int) six = some (res4 p fr (numQ six (s.drop fr))) := fun six fr hfr => by
        rw [show 4 * s.length + 19 = (4 * s.length + 18) + 1 by omega, flailref04_Read.j1]
        have hq : (s.drop fr).length = s.length - fr := List.length_drop
        have := scan4 s hs p fr six hfr (4 * s.length + 18 - ((s.drop fr).length + 2)) (by omega) (s.drop fr) [] rfl (fun c h => by cases h)
        rw [show 4 * s.length + 18 - ((s.drop fr).length + 2) + (s.drop fr).length + 2 = 4 * s.length + 18 by omega] at this
        exact this
      have shift : ∀ (d : Nat) (x : Option (Nat × Nat)), res4 p (p + d) x = res4 p p (x.map fun y => (y.1, y.2 + d)) := by
        intro d x
        cases x with
        | none => rfl
        | some y => obtain ⟨a, b⟩ := y; simp only [res4, Option.map_some]; congr 3; omega
      change _ = some (res4 p p (if begR r [120] = true then (numQ true (r.drop 1)).map _ else (numQ false r).map _))
      cases r with
      | nil =>
        simp only [List.length_nil] at hl1
        rw [if_neg (by rw [size_B]; omega), dec false (p + 1) (by omega), hr1, shift]; rfl
      | cons d r2 =>
        have hr2 : s.drop (p + 2) = r2 := by rw [show p + 2 = (p + 1) + 1 by omega, ← List.drop_drop, hr1]; rfl
        simp only [List.length_cons] at hl1
        rw [if_pos (by rw [size_B]; omega), if_pos (by omega), bt_drop s (p + 1) d r2 hr1, show begR (d :: r2) [120] = (d == 120 || d == 88) by simp [begR, low_x]]
        by_cases h120 : d = 120
        · subst h120
          rw [if_pos (show (((120 : UInt8).toNat : Nat) : Int) = 120 from rfl), if_pos (show ((120 : UInt8) == 120 || (120 : UInt8) == 88) = true from rfl), dec true (p + 2) (by omega), hr2, shift]; rfl
        · rw [if_neg (u8_ne h120 (by rfl))]
          by_cases h88 : d = 88
          · subst h88
            rw [if_pos (show (((88 : UInt8).toNat : Nat) : Int) = 88 from rfl), if_pos (show ((88 : UInt8) == 120 || (88 : UInt8) == 88) = true from rfl), dec true (p + 2) (by omega), hr2, shift]; rfl
          · have : ¬ ((d == 120 || d == 88) = true) := by simp [h120, h88]
            rw [if_neg (u8_ne h88 (by rfl)), if_neg this, dec false (p + 1) (by omega), hr1, shift]
    · rw [if_neg (u8_ne h35 (by rfl)), if_neg (by simpa using h35)]; rfl
/-- what the reference tells of a number -/
def numV (s : List UInt8) (p : Nat) : Value := .tuple #[.string (res4 p p (numL (s.drop p))).1, .int .i64 (res4 p p (numL (s.drop p))).2.1, .bool (res4 p p (numL (s.drop p))).2.2]
theorem rnumber_c (s : List UInt8) (hs : s.length ≤ 100000) (p : Nat) (hp : p ≤ s.length) (w : World) :
    Calls Tryd.prog 28 #[.string (B s), .int .i64 (p : Int)] w fun e w' => e = .returned (numV s p) ∧ Below w.heap.size w w' := by
  have h := read4_f s hs p hp
  unfold numV
  generalize res4 (p : Int) p (numL (s.drop p)) = x at h ⊢
  obtain ⟨x1, x2, x3⟩ := x
  exact flailref04_Read.calls _ _ _ _ _ _ w h
end Go.Proofs.YtdheknlnhfegnaaDoor.Hand
