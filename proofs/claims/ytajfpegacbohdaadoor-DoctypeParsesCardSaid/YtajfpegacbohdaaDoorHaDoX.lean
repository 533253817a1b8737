/-
  Hand walk: flailref11.Parse.
-/
import Derived.Test.YtajfpegacbohdaaDoorHaDoQ
import Derived.Test.YtajfpegacbohdaaDoorPlDX
import Derived.Deep.DeepCutAuto
import Derived.Deep.CutBlock
namespace Go.Proofs.YtajfpegacbohdaaDoor.Hand
open Go.RowKit Go.Proofs.YtajfpegacbohdaaDoor.K0 Go.Proofs.YtajfpegacbohdaaDoor.Pl Go.Proofs.YtajfpegacbohdaaDoor.Pb Go.Proofs.YtajfpegacbohdaaDoor.Sa Go.Proofs.YtajfpegacbohdaaDoor.Sr Go.Proofs.YtajfpegacbohdaaDoor.Pure Go.Proofs.YtajfpegacbohdaaDoorW.PrintWords Go.Proofs.YtajfpegacbohdaaDoorW.PrintLast Go.Proofs.YtajfpegacbohdaaDoorW.PrintMore

theorem docr_load {b : Nat} {x0 x1 x2 x3 x4 x5 x6 : Value} {W : World} (h : Blk b #[x0, x1, x2, x3, x4, x5, x6] W) : (loadVar 26 ⟨b, 0, none⟩).run Tryd.prog W = .ok (.agg #[x0, x1, x2, x3, x4, x5, x6]) W := by
  have hl : (loadCells ⟨b, 0, none⟩ [x0, x1, x2, x3, x4, x5, x6].length).run Tryd.prog W = .ok [x0, x1, x2, x3, x4, x5, x6].toArray W :=
    run_loadCells_list (P := Tryd.prog) W ⟨b, 0, none⟩ [x0, x1, x2, x3, x4, x5, x6] (fun j v hv => by
      have hadd : (⟨b, 0, none⟩ : Addr).add j = ⟨b, j, none⟩ := by unfold Addr.add; split <;> simp_all
      have hj : j < 7 := by
        rcases Nat.lt_or_ge j 7 with h' | h'
        · exact h'
        · rw [List.getElem?_eq_none (by simpa using h')] at hv; cases hv
      rw [hadd, h.cell j (by simpa using hj), ← hv]; simp)
  have hagg : (isAgg 26).run Tryd.prog W = .ok true W := by
    unfold isAgg
    rw [Sem.run_bind, run_underlying Tryd.underlying26 W]
    rfl
  obtain ⟨i, hi⟩ := info_of_underlying (P := Tryd.prog) Tryd.underlying26
  have hc : Tryd.prog.cellsOf 26 = 7 := by kernel_rfl
  have hsz := run_sizeOf (P := Tryd.prog) W hi
  rw [hc] at hsz
  unfold loadVar
  rw [Sem.run_bind, hagg]
  simp only [Result.andThen_ok, if_true, Sem.run_bind, hsz]
  rw [show (7 : Nat) = [x0, x1, x2, x3, x4, x5, x6].length from rfl, hl]
  rfl

/-- what the copy of the answer into the result wants -/
theorem retc {w W : World} {n p y : List UInt8} {hn hp hy q : Bool} (h : DocSt w W (docV n p y hn hp hy q)) :
    (∀ j, W.frozen? ⟨w.heap.size + 1, j, none⟩ = false) ∧ (∀ j, W.frozen? ⟨w.heap.size, j, none⟩ = false) ∧
    W.cell? ⟨w.heap.size + 1, 0, none⟩ = some (.string (B n)) ∧ W.cell? ⟨w.heap.size + 1, 1, none⟩ = some (.string (B p)) ∧ W.cell? ⟨w.heap.size + 1, 2, none⟩ = some (.string (B y)) ∧
    W.cell? ⟨w.heap.size + 1, 3, none⟩ = some (.bool hn) ∧ W.cell? ⟨w.heap.size + 1, 4, none⟩ = some (.bool hp) ∧ W.cell? ⟨w.heap.size + 1, 5, none⟩ = some (.bool hy) ∧ W.cell? ⟨w.heap.size + 1, 6, none⟩ = some (.bool q) ∧
    W.cell? ⟨w.heap.size, 0, none⟩ = some (.string (B [])) := by
  refine ⟨h.d.open_, h.z.open_, ?_, ?_, ?_, ?_, ?_, ?_, ?_, ?_⟩
  · exact h.d.cell 0 (by simp [docV])
  · exact h.d.cell 1 (by simp [docV])
  · exact h.d.cell 2 (by simp [docV])
  · exact h.d.cell 3 (by simp [docV])
  · exact h.d.cell 4 (by simp [docV])
  · exact h.d.cell 5 (by simp [docV])
  · exact h.d.cell 6 (by simp [docV])
  · exact h.z.cell 0 (by simp [docV])
theorem DocSt.put6 {w W : World} {n p y : List UInt8} {hn hp hy q : Bool} (h : DocSt w W (docV n p y hn hp hy q)) (x : Bool) : DocSt w (W.setCell ⟨w.heap.size + 1, 6, none⟩ (.bool x)) (docV n p y hn hp hy x) := by
  have := h.put 6 (.bool x) (by simp [docV])
  simpa only [docV, List.setIfInBounds_toArray, List.set_cons_succ, List.set_cons_zero] using this
set_option maxRecDepth 100000 in
set_option maxHeartbeats 16000000 in
theorem rparse_any (raw : List UInt8) (en : Bool) (w : World) (hG : Glob w) (hs : raw.length ≤ 1000000) :
    Calls Tryd.prog 8 #[.string (B raw), .bool en] w fun e w' => e = .returned (.agg (docA (parseD raw en))) ∧ Below w.heap.size w w' := by
  have hu44 := Tryd.underlying26
  obtain ⟨R, hR⟩ : ∃ R, parseD raw en = R := ⟨_, rfl⟩
  rw [hR]
  have CP := Lib.hid (fun W => pass_p raw 0 0 rfl hs (Nat.zero_le _) W)
  have hi1 := pas_le (s := raw) (n := 0) (Nat.zero_le _)
  have hd1 := pas_drop raw 0
  rw [List.drop_zero] at hd1
  obtain ⟨i1, hi1e⟩ : ∃ i, pasN raw 0 = i := ⟨_, rfl⟩
  rw [hi1e] at CP hi1 hd1
  have HRa := Lib.hid hR
  have HP1 := Lib.hid hd1
  clear hi1e hd1 hR
  obtain ⟨a, ha⟩ : ∃ a, B raw = a := ⟨_, rfl⟩
  have hza : a.size = raw.length := by rw [← ha]; simp
  have hz1 : a.size ≤ 1000000 := by omega
  have had : a.data.toList = raw := by rw [← ha, B_data]
  rw [ha] at CP ⊢
  have HA := Lib.hid ha
  have HAD := Lib.hid had
  have HZ := Lib.hid hza
  rw [← hza] at hi1
  have hB1 := Blk.of_alloc (docV [] [] [] false false false false) 26 w
  have hB2 := Blk.of_alloc (docV [] [] [] false false false false) 26 (w.alloc (.cells (docV [] [] [] false false false false) 26))
  rw [World.size_alloc] at hB2
  have hbl : Below (w.alloc (.cells (docV [] [] [] false false false false) 26)).heap.size (w.alloc (.cells (docV [] [] [] false false false false) 26)) ((w.alloc (.cells (docV [] [] [] false false false false) 26)).alloc (.cells (docV [] [] [] false false false false) 26)) := Below.alloc (Below.refl _ _) (Nat.le_refl _) _
  have hbw : Below w.heap.size w ((w.alloc (.cells (docV [] [] [] false false false false) 26)).alloc (.cells (docV [] [] [] false false false false) 26)) := ((Below.refl _ w).alloc (Nat.le_refl _) _).alloc (by simp) _
  have hD0 : DocSt w ((w.alloc (.cells (docV [] [] [] false false false false) 26)).alloc (.cells (docV [] [] [] false false false false) 26)) (docV [] [] [] false false false false) := ⟨hG.step hbw, hbw, hB1.below hbl (by simp), hB2, by simp⟩
  have HD := Lib.hid hD0
  clear hB1 hB2 hbl hbw hD0 hG ha hza had hs
  go_enter Tryd.func8, Tryd.ntmps8
  go_wp2_with fail
  refine (CP.out _).mono ?_
  rintro e wq ⟨rfl, hb⟩
  replace HD := Lib.hid (HD.out.call hb)
  clear hb CP
  by_cases he : i1 = a.size
  · have e1 : ((i1 : Int) == (a.size : Int)) = true := by rw [beq_iff_eq]; omega
    have HQ : Hid ((([], [], [], false, false, false, true) : DocR) = R) := Lib.hid (by
      have h := HRa.out
      unfold parseD at h
      rw [← HP1.out, if_pos (List.drop_eq_nil_of_le (by have := HZ.out; omega))] at h
      exact h)
    clear HRa
    have c6 := (retc HD.out).2.2.2.2.2.2.2.2.1
    have hf6 := (retc HD.out).1
    replace HD := Lib.hid (HD.out.put6 (true))
    obtain ⟨hf5, hf4, l0, l1, l2, l3, l4, l5, l6, m0⟩ := retc HD.out
    have hz := HD.out.z
    have m1 := doc_f1 hz
    have m2 := doc_f2 hz
    have m3 := doc_f3 hz
    have m4 := doc_f4 hz
    have m5 := doc_f5 hz
    have m6 := doc_f6 hz
    have HB6 := Lib.hid HD.out.below
    have HP := Lib.hid hz
    clear hz HD
    go_wp2_with fail
    refine bodyPost_ret (results_c rfl rfl (docr_load (doc_put HP.out _ _ _ _ _ _ _))) rfl ?_
    exact ⟨by rw [← HQ.out]; rfl, doc_below HB6.out _ _ _ _ _ _ _⟩
  · have e1 : ((i1 : Int) == (a.size : Int)) = false := by rw [beq_eq_false_iff_ne]; omega
    have hne : ¬ raw.drop i1 = [] := fun e => he (by have := List.drop_eq_nil_iff.1 e; have := HZ.out; omega)
    have HR1 : Hid (restD raw en (namN raw i1) (secN raw i1) = R) := Lib.hid (by rw [← parse_pos HP1.out hne]; exact HRa.out)
    clear HRa hne he HP1
    obtain ⟨K2, hK2⟩ : ∃ K, i1 + wordLen (raw.drop i1) = K := ⟨_, rfl⟩
    have hle : i1 ≤ K2 ∧ K2 ≤ a.size := by
      have := word_len_le (raw.drop i1)
      rw [List.length_drop] at this
      have := HZ.out
      omega
    obtain ⟨hle1, hle2⟩ := hle
    have HK := Lib.hid hK2
    clear hK2
    go_upto_block 0 with fail
    go_cut [7] (fun k wx => k = .int .i64 (K2 : Int) ∧ Hid (DocSt w wx (docV [] [] [] false false false false)))
    case first =>
      go_wp2_with fail
      go_loopw [7] (fun i wr => ∃ k : Nat, i1 ≤ k ∧ k ≤ a.size ∧ i = .int .i64 (k : Int) ∧ Hid (k + wordLen (raw.drop k) = K2) ∧ Hid (DocSt w wr (docV [] [] [] false false false false))) (fun i _ => a.size - (intOf i).toNat)
      case atStart => exact ⟨i1, Nat.le_refl _, hi1, rfl, HK, HD⟩
      case round =>
        obtain ⟨k, hik, hk, rfl, hq, HE⟩ := hrel
        clear HD
        have HD := HE
        clear HE
        by_cases hlt : k < a.size
        · have C := Lib.hid (rspace_c (a[k]))
          have hd := drop_at a k hlt
          rw [HAD.out] at hd
          cases hs : isSp (a[k]) with
          | false =>
            rw [hs] at C
            have hq' := Lib.hid (show k + 1 + wordLen (raw.drop (k + 1)) = K2 by have := hq.out; rw [hd, word_cons, if_neg (by rw [hs]; simp)] at this; omega)
            clear hs hd hq
            go_wp2_with fail
            refine (C.out _).mono ?_
            rintro e wq ⟨rfl, hb⟩
            replace HD := Lib.hid (HD.out.call hb)
            clear hb C
            go_wp2_with fail
            go_roundw
            case rel => exact ⟨k + 1, by omega, by omega, by go_num, hq', HD⟩
            case measure => simp [intOf]; omega
          | true =>
            rw [hs] at C
            have hq' := Lib.hid (show k = K2 by have := hq.out; rw [hd, word_cons, if_pos hs] at this; omega)
            clear hs hd hq
            go_wp2_with fail
            refine (C.out _).mono ?_
            rintro e wq ⟨rfl, hb⟩
            replace HD := Lib.hid (HD.out.call hb)
            clear hb C
            go_wp2_with fail
            go_meet
            case rel => exact ⟨by rw [← hq'.out], HD⟩
        · have hq' := Lib.hid (show k = K2 by have := hq.out; have h2 := drop_past a k hlt; rw [HAD.out] at h2; rw [h2] at this; simpa [wordLen] using this)
          clear hq
          go_wp2_with fail
          go_meet
          case rel => exact ⟨by rw [← hq'.out], HD⟩
    case rest =>
      clear HD e1
      obtain ⟨rfl, HD⟩ := hcut
      obtain ⟨l, hl⟩ : ∃ l, (raw.drop i1).take (wordLen (raw.drop i1)) = l := ⟨_, rfl⟩
      have hex : a.extract i1 K2 = B l := by
        rw [← HA.out, B_extract, ← hl, ← HK.out, List.drop_take, Nat.add_sub_cancel_left]
      have hll : l.length ≤ 1000000 := by
        rw [← hl]
        have := HZ.out
        simp
        omega
      have CL := fun W => rlower_c l hll W
      rw [← hex] at CL
      have CC := fun W => rclean_c (lowL l) (by simpa [lowL] using hll) W
      have hnm : namN raw i1 = cleanL (lowL l) := by unfold namN; rw [hl]
      obtain ⟨nm, hn⟩ : ∃ n, cleanL (lowL l) = n := ⟨_, rfl⟩
      rw [hn] at CC hnm
      have hsec : secN raw i1 = pasN raw K2 := by unfold secN; rw [HK.out]
      have CP := fun W => pass_p raw K2 K2 rfl (by have := HZ.out; omega) (by have := HZ.out; omega) W
      have hi3 := pas_le (s := raw) (n := K2) (by have := HZ.out; omega)
      have hi3' := pas_ge raw K2
      obtain ⟨i3, hi3e⟩ : ∃ i, pasN raw K2 = i := ⟨_, rfl⟩
      rw [hi3e] at CP hi3 hsec hi3'
      rw [← HZ.out] at hi3
      have HR2 : Hid (restD raw en nm i3 = R) := Lib.hid (by rw [← hnm, ← hsec]; exact HR1.out)
      rw [HA.out] at CP
      replace CP := Lib.hid CP
      replace CC := Lib.hid CC
      replace CL := Lib.hid CL
      clear HR1 hnm hn hex hl hll hi3e hsec
      go_wp2_with fail
      refine (CL.out _).mono ?_
      rintro e wq ⟨rfl, hb⟩
      replace HD := Lib.hid (HD.out.call hb)
      clear hb CL
      go_wp2_with fail
      refine (CC.out _).mono ?_
      rintro e wq ⟨rfl, hb⟩
      replace HD := Lib.hid (HD.out.call hb)
      clear hb CC
      have hd := HD.out.d
      have hfz := hd.open_
      have ca := hd.cell 0 (by simp [docV])
      have cb := fun x => (hd.set 0 x (by simp [docV])).cell 3 (by simp [docV])
      simp only [docV, List.setIfInBounds_toArray, List.set_cons_succ, List.set_cons_zero, List.getElem?_toArray, List.getElem?_cons_succ, List.getElem?_cons_zero] at ca cb
      replace HD := Lib.hid (show DocSt w _ (docV nm [] [] true false false false) from ((HD.out.put 0 (.string (B nm)) (by simp [docV])).put 3 (.bool true) (by simp [docV])))
      clear hd
      go_wp2_with fail
      clear hfz ca cb
      go_wp2_with fail
      refine (CP.out _).mono ?_
      rintro e wq ⟨rfl, hb⟩
      replace HD := Lib.hid (HD.out.call hb)
      clear hb CP
      by_cases he : i3 = a.size
      · have e2 : ((i3 : Int) == (a.size : Int)) = true := by rw [beq_iff_eq]; omega
        have HQ : Hid (((nm, [], [], true, false, false, !en) : DocR) = R) := Lib.hid (by
          have h := HR2.out
          unfold restD at h
          rw [if_pos (List.drop_eq_nil_of_le (by have := HZ.out; omega))] at h
          exact h)
        clear HR2
        have c6 := (retc HD.out).2.2.2.2.2.2.2.2.1
        have hf6 := (retc HD.out).1
        replace HD := Lib.hid (HD.out.put6 (!en))
        obtain ⟨hf5, hf4, l0, l1, l2, l3, l4, l5, l6, m0⟩ := retc HD.out
        have hz := HD.out.z
        have m1 := doc_f1 hz
        have m2 := doc_f2 hz
        have m3 := doc_f3 hz
        have m4 := doc_f4 hz
        have m5 := doc_f5 hz
        have m6 := doc_f6 hz
        have HB6 := Lib.hid HD.out.below
        have HP := Lib.hid hz
        clear hz HD
        go_wp2_with fail
        refine bodyPost_ret (results_c rfl rfl (docr_load (doc_put HP.out _ _ _ _ _ _ _))) rfl ?_
        exact ⟨by rw [← HQ.out]; rfl, doc_below HB6.out _ _ _ _ _ _ _⟩
      · have e2 : ((i3 : Int) == (a.size : Int)) = false := by rw [beq_eq_false_iff_ne]; omega
        have hlt3 : i3 < a.size := by omega
        have hne : ¬ raw.drop i3 = [] := fun e => he (by have := List.drop_eq_nil_iff.1 e; have := HZ.out; omega)
        have CB1 : ∀ W, Calls Tryd.prog 25 #[.string a, .int .i64 (i3 : Int), .string ⟨#[112, 117, 98, 108, 105, 99]⟩] W fun e w' => e = .returned (.bool (begR (raw.drop i3) publicL)) ∧ Below W.heap.size W w' := by
          intro W
          have := rbegins_c raw publicL (i3 : Int) (by have := HZ.out; omega) (by decide) W
          rw [HA.out, begAt_in _ _ _ (by have := HZ.out; omega)] at this
          exact this
        have CB2 : ∀ W, Calls Tryd.prog 25 #[.string a, .int .i64 (i3 : Int), .string ⟨#[115, 121, 115, 116, 101, 109]⟩] W fun e w' => e = .returned (.bool (begR (raw.drop i3) systemL)) ∧ Below W.heap.size W w' := by
          intro W
          have := rbegins_c raw systemL (i3 : Int) (by have := HZ.out; omega) (by decide) W
          rw [HA.out, begAt_in _ _ _ (by have := HZ.out; omega)] at this
          exact this
        have h6 : begR (raw.drop i3) publicL = true ∨ begR (raw.drop i3) systemL = true → i3 + 6 ≤ a.size := by
          rw [HZ.out]
          rintro (h | h)
          · exact six_lt (w := publicL) rfl h
          · exact six_lt (w := systemL) rfl h
        have h7 : (begR (raw.drop i3) publicL = true ∨ begR (raw.drop i3) systemL = true) → quoD nm raw en (begR (raw.drop i3) publicL) i3 (pasN raw (i3 + 6)) = R := by
          intro ho
          have h := HR2.out
          unfold restD at h
          rw [if_neg hne] at h
          unfold quoD
          by_cases hp : begR (raw.drop i3) publicL = true
          · rw [if_pos hp] at h
            rw [if_pos hp]; exact h
          · rw [if_neg hp, if_pos (ho.resolve_left hp)] at h
            rw [if_neg hp]; exact h
        have h8 : ¬ (begR (raw.drop i3) publicL = true ∨ begR (raw.drop i3) systemL = true) → (((nm, [], [], true, false, false, true) : DocR) = R) := by
          intro ho
          have h := HR2.out
          unfold restD at h
          rw [if_neg hne, if_neg (fun e => ho (.inl e)), if_neg (fun e => ho (.inr e))] at h
          exact h
        obtain ⟨pub, hpub⟩ : ∃ b, begR (raw.drop i3) publicL = b := ⟨_, rfl⟩
        obtain ⟨sys, hsys⟩ : ∃ b, begR (raw.drop i3) systemL = b := ⟨_, rfl⟩
        rw [hpub] at CB1 h6 h7 h8
        rw [hsys] at CB2 h6 h7 h8
        replace CB1 := Lib.hid CB1
        replace CB2 := Lib.hid CB2
        clear HR2 hpub hsys he hne
        go_wp2_with fail
        refine (CB1.out _).mono ?_
        rintro e wq ⟨rfl, hb⟩
        replace HD := Lib.hid (HD.out.call hb)
        clear hb CB1
        go_wp2_with fail
        refine (CB2.out _).mono ?_
        rintro e wq ⟨rfl, hb⟩
        replace HD := Lib.hid (HD.out.call hb)
        clear hb CB2
        by_cases ho : pub = true ∨ sys = true
        · have hi6 := h6 ho
          have HQ := Lib.hid (h7 ho)
          have g1 : (!pub && !sys) = false := by rcases ho with h | h <;> subst h <;> simp
          clear h6 h7 h8
          have CP := fun W => pass_p raw (i3 + 6) ((i3 : Int) + 6) (by push_cast; rfl) (by have := HZ.out; omega) (by have := HZ.out; omega) W
          have hi5 := pas_le (s := raw) (n := i3 + 6) (by have := HZ.out; omega)
          have hi5' := pas_ge raw (i3 + 6)
          have hno := fun h => quo_no (raw := raw) (n := nm) (en := en) (pub := pub) (j := i3) h
          have h4 : trimL ((raw.drop i3).drop 6) = raw.drop (pasN raw (i3 + 6)) := by rw [List.drop_drop, pas_drop]
          obtain ⟨i5, hi5e⟩ : ∃ i, pasN raw (i3 + 6) = i := ⟨_, rfl⟩
          rw [hi5e] at CP hi5 hno h4 hi5' HQ
          rw [← HZ.out] at hi5
          rw [HA.out] at CP
          have CQ := fun W => quote_p raw i5 (by have := HZ.out; omega) (by have := HZ.out; omega) W
          rw [HA.out] at CQ
          obtain ⟨bq, hbq⟩ : ∃ b, isQ (raw.drop i5) = b := ⟨_, rfl⟩
          rw [hbq] at CQ hno
          have HBQ := Lib.hid hbq
          have H4 := Lib.hid h4
          replace CP := Lib.hid CP
          replace CQ := Lib.hid CQ
          have HNO := Lib.hid hno
          clear hi5e hbq h4 hno
          rcases Bool.eq_false_or_eq_true pub with rfl | rfl
          · clear ho
            go_wp2_with fail
            refine (CP.out _).mono ?_
            rintro e wq ⟨rfl, hb⟩
            replace HD := Lib.hid (HD.out.call hb)
            clear hb CP
            go_wp2_with fail
            refine (CQ.out _).mono ?_
            rintro e wq ⟨rfl, hb⟩
            replace HD := Lib.hid (HD.out.call hb)
            clear hb CQ
            cases bq with
            | false =>
              replace HQ := Lib.hid ((HNO.out rfl).symm.trans HQ.out)
              clear HNO
              have c6 := (retc HD.out).2.2.2.2.2.2.2.2.1
              have hf6 := (retc HD.out).1
              replace HD := Lib.hid (HD.out.put6 (true))
              obtain ⟨hf5, hf4, l0, l1, l2, l3, l4, l5, l6, m0⟩ := retc HD.out
              have hz := HD.out.z
              have m1 := doc_f1 hz
              have m2 := doc_f2 hz
              have m3 := doc_f3 hz
              have m4 := doc_f4 hz
              have m5 := doc_f5 hz
              have m6 := doc_f6 hz
              have HB6 := Lib.hid HD.out.below
              have HP := Lib.hid hz
              clear hz HD
              go_wp2_with fail
              refine bodyPost_ret (results_c rfl rfl (docr_load (doc_put HP.out _ _ _ _ _ _ _))) rfl ?_
              exact ⟨by rw [← HQ.out]; rfl, doc_below HB6.out _ _ _ _ _ _ _⟩
            | true =>
              clear HNO
              go_wp2_with fail
              have hil : i5 < raw.length := isQ_lt HBQ.out
              have hil' : i5 < a.size := by rw [HZ.out]; exact hil
              obtain ⟨c, hc⟩ : ∃ c, raw[i5] = c := ⟨_, rfl⟩
              have hu := unt_le c hil
              have CU := fun W => until_p raw i5 (by have := HZ.out; omega) hil W
              have hex := extract_unt raw i5 c
              have hul := (upto_len c (raw.drop (i5 + 1))).1
              have CC := fun W => rclean_c (upto c (raw.drop (i5 + 1))) (by have := HZ.out; simp at hul; omega) W
              rw [← hex] at CC
              rw [hc] at CU
              have HQp : pubD nm (raw.drop i3) en = R := HQ.out
              have f1 := fun h => (pub_open nm en H4.out hil HBQ.out (by rw [hc]; exact h)).symm.trans HQp
              have f2 := fun h h' => (pub_end nm en H4.out hil HBQ.out (by rw [hc]; exact h) (by rw [hc]; exact h')).symm.trans HQp
              have f3 := fun h h' => (pub_more nm en H4.out hil HBQ.out (by rw [hc]; exact h) (by rw [hc]; exact h')).symm.trans HQp
              rw [hc] at f1 f2 f3
              clear HQp
              obtain ⟨p, hP⟩ : ∃ P, cleanL (upto c (raw.drop (i5 + 1))) = P := ⟨_, rfl⟩
              obtain ⟨k5, hk⟩ : ∃ k, untN raw i5 c = k := ⟨_, rfl⟩
              have hu1 : i5 + 1 ≤ k5 := by rw [← hk]; exact hu.1
              have hu2 : k5 ≤ a.size := by rw [← hk, HZ.out]; exact hu.2
              rw [HA.out, hP, hk] at CC
              rw [HA.out, hk] at CU
              rw [hk] at f1 f2 f3
              rw [hP] at f1 f2 f3
              replace CU := Lib.hid CU
              replace CC := Lib.hid CC
              have F1 := Lib.hid f1
              have F2 := Lib.hid f2
              have F3 := Lib.hid f3
              clear hex hul hu hP hk hc hil f1 f2 f3 HBQ HQ
              go_wp2_with fail
              refine (CU.out _).mono ?_
              rintro e wq ⟨rfl, hb⟩
              replace HD := Lib.hid (HD.out.call hb)
              clear hb CU
              go_wp2_with fail
              refine (CC.out _).mono ?_
              rintro e wq ⟨rfl, hb⟩
              replace HD := Lib.hid (HD.out.call hb)
              clear hb CC
              have hd := HD.out.d
              have hfz := hd.open_
              have ca := hd.cell 1 (by simp [docV])
              have cb := fun x => (hd.set 1 x (by simp [docV])).cell 4 (by simp [docV])
              simp only [docV, List.setIfInBounds_toArray, List.set_cons_succ, List.set_cons_zero, List.getElem?_toArray, List.getElem?_cons_succ, List.getElem?_cons_zero] at ca cb
              replace HD := Lib.hid (show DocSt w _ (docV nm p [] true true false false) from ((HD.out.put 1 (.string (B p)) (by simp [docV])).put 4 (.bool true) (by simp [docV])))
              clear hd
              by_cases he : k5 = a.size
              · have e4 : ((k5 : Int) == (a.size : Int)) = true := by rw [beq_iff_eq]; omega
                have HQ := Lib.hid (F1.out (by rw [← HZ.out]; exact he))
                clear F1 F2 F3
                have c6 := (retc HD.out).2.2.2.2.2.2.2.2.1
                have hf6 := (retc HD.out).1
                replace HD := Lib.hid (HD.out.put6 (true))
                obtain ⟨hf5, hf4, l0, l1, l2, l3, l4, l5, l6, m0⟩ := retc HD.out
                have hz := HD.out.z
                have m1 := doc_f1 hz
                have m2 := doc_f2 hz
                have m3 := doc_f3 hz
                have m4 := doc_f4 hz
                have m5 := doc_f5 hz
                have m6 := doc_f6 hz
                have HB6 := Lib.hid HD.out.below
                have HP := Lib.hid hz
                clear hz HD
                go_wp2_with fail
                refine bodyPost_ret (results_c rfl rfl (docr_load (doc_put HP.out _ _ _ _ _ _ _))) rfl ?_
                exact ⟨by rw [← HQ.out]; rfl, doc_below HB6.out _ _ _ _ _ _ _⟩
              · have e4 : ((k5 : Int) == (a.size : Int)) = false := by rw [beq_eq_false_iff_ne]; omega
                have CP := fun W => pass_p raw (k5 + 1) ((k5 : Int) + 1) (by push_cast; rfl) (by have := HZ.out; omega) (by have := HZ.out; omega) W
                have hk6 := pas_le (s := raw) (n := k5 + 1) (by have := HZ.out; omega)
                have f2 := F2.out (by rw [← HZ.out]; omega)
                have f3 := F3.out (by rw [← HZ.out]; omega)
                obtain ⟨i6, hk6e⟩ : ∃ i, pasN raw (k5 + 1) = i := ⟨_, rfl⟩
                rw [hk6e] at CP hk6 f2 f3
                rw [← HZ.out] at hk6
                rw [HA.out] at CP
                replace CP := Lib.hid CP
                have G2 := Lib.hid f2
                have G3 := Lib.hid f3
                clear hk6e F1 F2 F3 he f2 f3
                go_wp2_with fail
                refine (CP.out _).mono ?_
                rintro e wq ⟨rfl, hb⟩
                replace HD := Lib.hid (HD.out.call hb)
                clear hb CP
                by_cases he : i6 = a.size
                · have e5 : ((i6 : Int) == (a.size : Int)) = true := by rw [beq_iff_eq]; omega
                  have HQ := Lib.hid (G2.out (by rw [← HZ.out]; exact he))
                  clear G2 G3
                  have c6 := (retc HD.out).2.2.2.2.2.2.2.2.1
                  have hf6 := (retc HD.out).1
                  replace HD := Lib.hid (HD.out.put6 (!en))
                  obtain ⟨hf5, hf4, l0, l1, l2, l3, l4, l5, l6, m0⟩ := retc HD.out
                  have hz := HD.out.z
                  have m1 := doc_f1 hz
                  have m2 := doc_f2 hz
                  have m3 := doc_f3 hz
                  have m4 := doc_f4 hz
                  have m5 := doc_f5 hz
                  have m6 := doc_f6 hz
                  have HB6 := Lib.hid HD.out.below
                  have HP := Lib.hid hz
                  clear hz HD
                  go_wp2_with fail
                  refine bodyPost_ret (results_c rfl rfl (docr_load (doc_put HP.out _ _ _ _ _ _ _))) rfl ?_
                  exact ⟨by rw [← HQ.out]; rfl, doc_below HB6.out _ _ _ _ _ _ _⟩
                · have e5 : ((i6 : Int) == (a.size : Int)) = false := by rw [beq_eq_false_iff_ne]; omega
                  have HQ := Lib.hid (G3.out (by rw [← HZ.out]; exact he))
                  clear G2 G3 he
                  have CQ := fun W => quote_p raw i6 (by have := HZ.out; omega) (by have := HZ.out; omega) W
                  rw [HA.out] at CQ
                  obtain ⟨bq, hbq⟩ : ∃ b, isQ (raw.drop i6) = b := ⟨_, rfl⟩
                  rw [hbq] at CQ
                  have HBQ := Lib.hid hbq
                  replace CQ := Lib.hid CQ
                  clear hbq
                  go_wp2_with fail
                  refine (CQ.out _).mono ?_
                  rintro e wq ⟨rfl, hb⟩
                  replace HD := Lib.hid (HD.out.call hb)
                  clear hb CQ
                  cases bq with
                  | false =>
                    replace HQ := Lib.hid ((sys_no nm p true true en HBQ.out).symm.trans HQ.out)
                    have c6 := (retc HD.out).2.2.2.2.2.2.2.2.1
                    have hf6 := (retc HD.out).1
                    replace HD := Lib.hid (HD.out.put6 (true))
                    obtain ⟨hf5, hf4, l0, l1, l2, l3, l4, l5, l6, m0⟩ := retc HD.out
                    have hz := HD.out.z
                    have m1 := doc_f1 hz
                    have m2 := doc_f2 hz
                    have m3 := doc_f3 hz
                    have m4 := doc_f4 hz
                    have m5 := doc_f5 hz
                    have m6 := doc_f6 hz
                    have HB6 := Lib.hid HD.out.below
                    have HP := Lib.hid hz
                    clear hz HD
                    go_wp2_with fail
                    refine bodyPost_ret (results_c rfl rfl (docr_load (doc_put HP.out _ _ _ _ _ _ _))) rfl ?_
                    exact ⟨by rw [← HQ.out]; rfl, doc_below HB6.out _ _ _ _ _ _ _⟩
                  | true =>
                    go_wp2_with fail
                    have hil : i6 < raw.length := isQ_lt HBQ.out
                    have hil' : i6 < a.size := by rw [HZ.out]; exact hil
                    obtain ⟨c, hc⟩ : ∃ c, raw[i6] = c := ⟨_, rfl⟩
                    have hu := unt_le c hil
                    have CU := fun W => until_p raw i6 (by have := HZ.out; omega) hil W
                    have hex := extract_unt raw i6 c
                    have hul := (upto_len c (raw.drop (i6 + 1))).1
                    have CC := fun W => rclean_c (upto c (raw.drop (i6 + 1))) (by have := HZ.out; simp at hul; omega) W
                    rw [← hex] at CC
                    rw [hc] at CU
                    have f1 := fun h => (sys_open nm p true true en hil HBQ.out (by rw [hc]; exact h)).symm.trans HQ.out
                    have f2 := fun h h' => (sys_end nm p true true en hil HBQ.out (by rw [hc]; exact h) (by rw [hc]; exact h')).symm.trans HQ.out
                    have f3 := fun h h' => (sys_more nm p true true en hil HBQ.out (by rw [hc]; exact h) (by rw [hc]; exact h')).symm.trans HQ.out
                    rw [hc] at f1 f2 f3
                    obtain ⟨y, hP⟩ : ∃ P, cleanL (upto c (raw.drop (i6 + 1))) = P := ⟨_, rfl⟩
                    obtain ⟨k7, hk⟩ : ∃ k, untN raw i6 c = k := ⟨_, rfl⟩
                    have hu1 : i6 + 1 ≤ k7 := by rw [← hk]; exact hu.1
                    have hu2 : k7 ≤ a.size := by rw [← hk, HZ.out]; exact hu.2
                    rw [HA.out, hP, hk] at CC
                    rw [HA.out, hk] at CU
                    rw [hk] at f1 f2 f3
                    rw [hP] at f1 f2 f3
                    replace CU := Lib.hid CU
                    replace CC := Lib.hid CC
                    have F1 := Lib.hid f1
                    have F2 := Lib.hid f2
                    have F3 := Lib.hid f3
                    clear hex hul hu hP hk hc hil f1 f2 f3 HBQ HQ
                    go_wp2_with fail
                    refine (CU.out _).mono ?_
                    rintro e wq ⟨rfl, hb⟩
                    replace HD := Lib.hid (HD.out.call hb)
                    clear hb CU
                    go_wp2_with fail
                    refine (CC.out _).mono ?_
                    rintro e wq ⟨rfl, hb⟩
                    replace HD := Lib.hid (HD.out.call hb)
                    clear hb CC
                    have hd := HD.out.d
                    have hfz := hd.open_
                    have ca := hd.cell 2 (by simp [docV])
                    have cb := fun x => (hd.set 2 x (by simp [docV])).cell 5 (by simp [docV])
                    simp only [docV, List.setIfInBounds_toArray, List.set_cons_succ, List.set_cons_zero, List.getElem?_toArray, List.getElem?_cons_succ, List.getElem?_cons_zero] at ca cb
                    replace HD := Lib.hid (show DocSt w _ (docV nm p y true true true false) from ((HD.out.put 2 (.string (B y)) (by simp [docV])).put 5 (.bool true) (by simp [docV])))
                    clear hd
                    by_cases he : k7 = a.size
                    · have e4 : ((k7 : Int) == (a.size : Int)) = true := by rw [beq_iff_eq]; omega
                      have HQ := Lib.hid (F1.out (by rw [← HZ.out]; exact he))
                      clear F1 F2 F3
                      have c6 := (retc HD.out).2.2.2.2.2.2.2.2.1
                      have hf6 := (retc HD.out).1
                      replace HD := Lib.hid (HD.out.put6 (true))
                      obtain ⟨hf5, hf4, l0, l1, l2, l3, l4, l5, l6, m0⟩ := retc HD.out
                      have hz := HD.out.z
                      have m1 := doc_f1 hz
                      have m2 := doc_f2 hz
                      have m3 := doc_f3 hz
                      have m4 := doc_f4 hz
                      have m5 := doc_f5 hz
                      have m6 := doc_f6 hz
                      have HB6 := Lib.hid HD.out.below
                      have HP := Lib.hid hz
                      clear hz HD
                      go_wp2_with fail
                      refine bodyPost_ret (results_c rfl rfl (docr_load (doc_put HP.out _ _ _ _ _ _ _))) rfl ?_
                      exact ⟨by rw [← HQ.out]; rfl, doc_below HB6.out _ _ _ _ _ _ _⟩
                    · have e4 : ((k7 : Int) == (a.size : Int)) = false := by rw [beq_eq_false_iff_ne]; omega
                      have CP := fun W => pass_p raw (k7 + 1) ((k7 : Int) + 1) (by push_cast; rfl) (by have := HZ.out; omega) (by have := HZ.out; omega) W
                      have hk8 := pas_le (s := raw) (n := k7 + 1) (by have := HZ.out; omega)
                      have f2 := F2.out (by rw [← HZ.out]; omega)
                      have f3 := F3.out (by rw [← HZ.out]; omega)
                      obtain ⟨k8, hk8e⟩ : ∃ i, pasN raw (k7 + 1) = i := ⟨_, rfl⟩
                      rw [hk8e] at CP hk8 f2 f3
                      rw [← HZ.out] at hk8
                      rw [HA.out] at CP
                      replace CP := Lib.hid CP
                      have G2 := Lib.hid f2
                      have G3 := Lib.hid f3
                      clear hk8e F1 F2 F3 he f2 f3
                      go_wp2_with fail
                      refine (CP.out _).mono ?_
                      rintro e wq ⟨rfl, hb⟩
                      replace HD := Lib.hid (HD.out.call hb)
                      clear hb CP
                      by_cases he : k8 = a.size
                      · have e5 : ((k8 : Int) == (a.size : Int)) = true := by rw [beq_iff_eq]; omega
                        have HQ := Lib.hid (G2.out (by rw [← HZ.out]; exact he))
                        clear G2 G3
                        have c6 := (retc HD.out).2.2.2.2.2.2.2.2.1
                        have hf6 := (retc HD.out).1
                        replace HD := Lib.hid (HD.out.put6 (!en))
                        obtain ⟨hf5, hf4, l0, l1, l2, l3, l4, l5, l6, m0⟩ := retc HD.out
                        have hz := HD.out.z
                        have m1 := doc_f1 hz
                        have m2 := doc_f2 hz
                        have m3 := doc_f3 hz
                        have m4 := doc_f4 hz
                        have m5 := doc_f5 hz
                        have m6 := doc_f6 hz
                        have HB6 := Lib.hid HD.out.below
                        have HP := Lib.hid hz
                        clear hz HD
                        go_wp2_with fail
                        refine bodyPost_ret (results_c rfl rfl (docr_load (doc_put HP.out _ _ _ _ _ _ _))) rfl ?_
                        exact ⟨by rw [← HQ.out]; rfl, doc_below HB6.out _ _ _ _ _ _ _⟩
                      · have e5 : ((k8 : Int) == (a.size : Int)) = false := by rw [beq_eq_false_iff_ne]; omega
                        have HQ := Lib.hid (G3.out (by rw [← HZ.out]; exact he))
                        clear G2 G3 he
                        obtain ⟨hf5, hf4, l0, l1, l2, l3, l4, l5, l6, m0⟩ := retc HD.out
                        have hz := HD.out.z
                        have m1 := doc_f1 hz
                        have m2 := doc_f2 hz
                        have m3 := doc_f3 hz
                        have m4 := doc_f4 hz
                        have m5 := doc_f5 hz
                        have m6 := doc_f6 hz
                        have HB6 := Lib.hid HD.out.below
                        have HP := Lib.hid hz
                        clear hz HD
                        go_wp2_with fail
                        refine bodyPost_ret (results_c rfl rfl (docr_load (doc_put HP.out _ _ _ _ _ _ _))) rfl ?_
                        exact ⟨by rw [← HQ.out]; rfl, doc_below HB6.out _ _ _ _ _ _ _⟩
          · obtain rfl : sys = true := ho.resolve_left (by simp)
            clear ho
            replace HQ : Hid (sysD nm [] true false (raw.drop i5) en = R) := Lib.hid HQ.out
            go_wp2_with fail
            refine (CP.out _).mono ?_
            rintro e wq ⟨rfl, hb⟩
            replace HD := Lib.hid (HD.out.call hb)
            clear hb CP
            go_wp2_with fail
            refine (CQ.out _).mono ?_
            rintro e wq ⟨rfl, hb⟩
            replace HD := Lib.hid (HD.out.call hb)
            clear hb CQ
            cases bq with
            | false =>
              replace HQ := Lib.hid ((sys_no nm [] true false en HBQ.out).symm.trans HQ.out)
              clear HNO
              have c6 := (retc HD.out).2.2.2.2.2.2.2.2.1
              have hf6 := (retc HD.out).1
              replace HD := Lib.hid (HD.out.put6 (true))
              obtain ⟨hf5, hf4, l0, l1, l2, l3, l4, l5, l6, m0⟩ := retc HD.out
              have hz := HD.out.z
              have m1 := doc_f1 hz
              have m2 := doc_f2 hz
              have m3 := doc_f3 hz
              have m4 := doc_f4 hz
              have m5 := doc_f5 hz
              have m6 := doc_f6 hz
              have HB6 := Lib.hid HD.out.below
              have HP := Lib.hid hz
              clear hz HD
              go_wp2_with fail
              refine bodyPost_ret (results_c rfl rfl (docr_load (doc_put HP.out _ _ _ _ _ _ _))) rfl ?_
              exact ⟨by rw [← HQ.out]; rfl, doc_below HB6.out _ _ _ _ _ _ _⟩
            | true =>
              clear HNO
              go_wp2_with fail
              have hil : i5 < raw.length := isQ_lt HBQ.out
              have hil' : i5 < a.size := by rw [HZ.out]; exact hil
              obtain ⟨c, hc⟩ : ∃ c, raw[i5] = c := ⟨_, rfl⟩
              have hu := unt_le c hil
              have CU := fun W => until_p raw i5 (by have := HZ.out; omega) hil W
              have hex := extract_unt raw i5 c
              have hul := (upto_len c (raw.drop (i5 + 1))).1
              have CC := fun W => rclean_c (upto c (raw.drop (i5 + 1))) (by have := HZ.out; simp at hul; omega) W
              rw [← hex] at CC
              rw [hc] at CU
              have f1 := fun h => (sys_open nm [] true false en hil HBQ.out (by rw [hc]; exact h)).symm.trans HQ.out
              have f2 := fun h h' => (sys_end nm [] true false en hil HBQ.out (by rw [hc]; exact h) (by rw [hc]; exact h')).symm.trans HQ.out
              have f3 := fun h h' => (sys_more nm [] true false en hil HBQ.out (by rw [hc]; exact h) (by rw [hc]; exact h')).symm.trans HQ.out
              rw [hc] at f1 f2 f3
              obtain ⟨y, hP⟩ : ∃ P, cleanL (upto c (raw.drop (i5 + 1))) = P := ⟨_, rfl⟩
              obtain ⟨k7, hk⟩ : ∃ k, untN raw i5 c = k := ⟨_, rfl⟩
              have hu1 : i5 + 1 ≤ k7 := by rw [← hk]; exact hu.1
              have hu2 : k7 ≤ a.size := by rw [← hk, HZ.out]; exact hu.2
              rw [HA.out, hP, hk] at CC
              rw [HA.out, hk] at CU
              rw [hk] at f1 f2 f3
              rw [hP] at f1 f2 f3
              replace CU := Lib.hid CU
              replace CC := Lib.hid CC
              have F1 := Lib.hid f1
              have F2 := Lib.hid f2
              have F3 := Lib.hid f3
              clear hex hul hu hP hk hc hil f1 f2 f3 HBQ HQ
              go_wp2_with fail
              refine (CU.out _).mono ?_
              rintro e wq ⟨rfl, hb⟩
              replace HD := Lib.hid (HD.out.call hb)
              clear hb CU
              go_wp2_with fail
              refine (CC.out _).mono ?_
              rintro e wq ⟨rfl, hb⟩
              replace HD := Lib.hid (HD.out.call hb)
              clear hb CC
              have hd := HD.out.d
              have hfz := hd.open_
              have ca := hd.cell 2 (by simp [docV])
              have cb := fun x => (hd.set 2 x (by simp [docV])).cell 5 (by simp [docV])
              simp only [docV, List.setIfInBounds_toArray, List.set_cons_succ, List.set_cons_zero, List.getElem?_toArray, List.getElem?_cons_succ, List.getElem?_cons_zero] at ca cb
              replace HD := Lib.hid (show DocSt w _ (docV nm [] y true false true false) from ((HD.out.put 2 (.string (B y)) (by simp [docV])).put 5 (.bool true) (by simp [docV])))
              clear hd
              by_cases he : k7 = a.size
              · have e4 : ((k7 : Int) == (a.size : Int)) = true := by rw [beq_iff_eq]; omega
                have HQ := Lib.hid (F1.out (by rw [← HZ.out]; exact he))
                clear F1 F2 F3
                have c6 := (retc HD.out).2.2.2.2.2.2.2.2.1
                have hf6 := (retc HD.out).1
                replace HD := Lib.hid (HD.out.put6 (true))
                obtain ⟨hf5, hf4, l0, l1, l2, l3, l4, l5, l6, m0⟩ := retc HD.out
                have hz := HD.out.z
                have m1 := doc_f1 hz
                have m2 := doc_f2 hz
                have m3 := doc_f3 hz
                have m4 := doc_f4 hz
                have m5 := doc_f5 hz
                have m6 := doc_f6 hz
                have HB6 := Lib.hid HD.out.below
                have HP := Lib.hid hz
                clear hz HD
                go_wp2_with fail
                refine bodyPost_ret (results_c rfl rfl (docr_load (doc_put HP.out _ _ _ _ _ _ _))) rfl ?_
                exact ⟨by rw [← HQ.out]; rfl, doc_below HB6.out _ _ _ _ _ _ _⟩
              · have e4 : ((k7 : Int) == (a.size : Int)) = false := by rw [beq_eq_false_iff_ne]; omega
                have CP := fun W => pass_p raw (k7 + 1) ((k7 : Int) + 1) (by push_cast; rfl) (by have := HZ.out; omega) (by have := HZ.out; omega) W
                have hk8 := pas_le (s := raw) (n := k7 + 1) (by have := HZ.out; omega)
                have f2 := F2.out (by rw [← HZ.out]; omega)
                have f3 := F3.out (by rw [← HZ.out]; omega)
                obtain ⟨k8, hk8e⟩ : ∃ i, pasN raw (k7 + 1) = i := ⟨_, rfl⟩
                rw [hk8e] at CP hk8 f2 f3
                rw [← HZ.out] at hk8
                rw [HA.out] at CP
                replace CP := Lib.hid CP
                have G2 := Lib.hid f2
                have G3 := Lib.hid f3
                clear hk8e F1 F2 F3 he f2 f3
                go_wp2_with fail
                refine (CP.out _).mono ?_
                rintro e wq ⟨rfl, hb⟩
                replace HD := Lib.hid (HD.out.call hb)
                clear hb CP
                by_cases he : k8 = a.size
                · have e5 : ((k8 : Int) == (a.size : Int)) = true := by rw [beq_iff_eq]; omega
                  have HQ := Lib.hid (G2.out (by rw [← HZ.out]; exact he))
                  clear G2 G3
                  have c6 := (retc HD.out).2.2.2.2.2.2.2.2.1
                  have hf6 := (retc HD.out).1
                  replace HD := Lib.hid (HD.out.put6 (!en))
                  obtain ⟨hf5, hf4, l0, l1, l2, l3, l4, l5, l6, m0⟩ := retc HD.out
                  have hz := HD.out.z
                  have m1 := doc_f1 hz
                  have m2 := doc_f2 hz
                  have m3 := doc_f3 hz
                  have m4 := doc_f4 hz
                  have m5 := doc_f5 hz
                  have m6 := doc_f6 hz
                  have HB6 := Lib.hid HD.out.below
                  have HP := Lib.hid hz
                  clear hz HD
                  go_wp2_with fail
                  refine bodyPost_ret (results_c rfl rfl (docr_load (doc_put HP.out _ _ _ _ _ _ _))) rfl ?_
                  exact ⟨by rw [← HQ.out]; rfl, doc_below HB6.out _ _ _ _ _ _ _⟩
                · have e5 : ((k8 : Int) == (a.size : Int)) = false := by rw [beq_eq_false_iff_ne]; omega
                  have HQ := Lib.hid (G3.out (by rw [← HZ.out]; exact he))
                  clear G2 G3 he
                  obtain ⟨hf5, hf4, l0, l1, l2, l3, l4, l5, l6, m0⟩ := retc HD.out
                  have hz := HD.out.z
                  have m1 := doc_f1 hz
                  have m2 := doc_f2 hz
                  have m3 := doc_f3 hz
                  have m4 := doc_f4 hz
                  have m5 := doc_f5 hz
                  have m6 := doc_f6 hz
                  have HB6 := Lib.hid HD.out.below
                  have HP := Lib.hid hz
                  clear hz HD
                  go_wp2_with fail
                  refine bodyPost_ret (results_c rfl rfl (docr_load (doc_put HP.out _ _ _ _ _ _ _))) rfl ?_
                  exact ⟨by rw [← HQ.out]; rfl, doc_below HB6.out _ _ _ _ _ _ _⟩
        · have HQ := Lib.hid (h8 ho)
          obtain ⟨rfl, rfl⟩ : pub = false ∧ sys = false := by cases pub <;> cases sys <;> simp_all
          clear h6 h7 h8 ho
          have c6 := (retc HD.out).2.2.2.2.2.2.2.2.1
          have hf6 := (retc HD.out).1
          replace HD := Lib.hid (HD.out.put6 (true))
          obtain ⟨hf5, hf4, l0, l1, l2, l3, l4, l5, l6, m0⟩ := retc HD.out
          have hz := HD.out.z
          have m1 := doc_f1 hz
          have m2 := doc_f2 hz
          have m3 := doc_f3 hz
          have m4 := doc_f4 hz
          have m5 := doc_f5 hz
          have m6 := doc_f6 hz
          have HB6 := Lib.hid HD.out.below
          have HP := Lib.hid hz
          clear hz HD
          go_wp2_with fail
          refine bodyPost_ret (results_c rfl rfl (docr_load (doc_put HP.out _ _ _ _ _ _ _))) rfl ?_
          exact ⟨by rw [← HQ.out]; rfl, doc_below HB6.out _ _ _ _ _ _ _⟩
end Go.Proofs.YtajfpegacbohdaaDoor.Hand
