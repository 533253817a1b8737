/-
  Walk of a law: SafeQuoted.
-/
import Derived.Test.YtdheknlnhfegnaaGreatDoorZbd
import Derived.Test.YtdheknlnhfegnaaGreatDoorSs
namespace Go.Proofs.YtdheknlnhfegnaaGreatDoor.Hand
open Go Go.RowKit Go.Proofs.YtdheknlnhfegnaaGreatDoor.K0 Go.Proofs.YtdheknlnhfegnaaGreatDoor.Pb Go.Proofs.YtdheknlnhfegnaaGreatDoor.Pl Go.Proofs.YtdheknlnhfegnaaGreatDoor.Ss Go.Proofs.YtdheknlnhfegnaaGreatDoorW.PrintWords Go.Proofs.YtdheknlnhfegnaaGreatDoorW.PrintLast Go.Proofs.YtdheknlnhfegnaaGreatDoorW.PrintMore

theorem attrs_x (X : ByteArray) (s : List UInt8) (hX : X.data.toList = s) (hs : s.length ≤ 100000) (w : World) (hGl : Glob w) :
    Calls Tryz.prog 8 #[.string X, .int .i64 0] w fun e w' => (∃ v, e = .returned (.tuple #[v, .bool (atRes s (attrL [] s)).2.1, .int .i64 (atRes s (attrL [] s)).2.2.1, .bool (atRes s (attrL [] s)).2.2.2]) ∧
      Kd.R atK 28 w' w.heap.size (fun _ => True) v (atRes s (attrL [] s)).1) ∧ Below w.heap.size w w' := by
  have := attrs_c s 0 hs (Nat.zero_le _) w hGl
  rw [List.drop_zero] at this
  have e : X = B s := by rw [← hX]; rfl
  rw [e]
  exact this
theorem same_l (l : List AtS) (hl : l.length ≤ 9223372036854775807) : ∀ (d i : Nat), l.length - i = d → i ≤ l.length → flailref08_Same.l0 (d + 1) l l (i : Int) = some true := by
  intro d
  induction d with
  | zero => intro i h1 h2; rw [flailref08_Same.l0, if_neg (by omega)]
  | succ d ih =>
    intro i h1 h2
    rw [flailref08_Same.l0, if_pos (by omega), if_pos (by omega), if_pos (by omega)]
    rw [if_neg (by simp), show wrap64 ((i : Int) + 1) = ((i + 1 : Nat) : Int) by unfold wrap64; omega]
    exact ih (i + 1) (by omega) (by omega)
theorem same_self (l : List AtS) (hl : l.length ≤ 9223372036854775807) : flailref08_Same.f (l.length + 1) l l = some true := by
  unfold flailref08_Same.f
  rw [if_pos rfl]
  exact same_l l hl _ 0 (by omega) (Nat.zero_le _)
def SqR (w : World) (A A2 : Option Addr) (L L2 : List AtS) (W : World) : Prop := Below w.heap.size w W ∧ Glob W ∧ Kd.C atK W A L.length L ∧ Kd.C atK W A2 L2.length L2
theorem SqR.call {w : World} {A A2 : Option Addr} {L L2 : List AtS} {W W' : World} (h : SqR w A A2 L L2 W) (hb : Below W.heap.size W W') : SqR w A A2 L L2 W' :=
  ⟨h.1.trans (hb.mono h.1.size), h.2.1.step hb, Kd.C_below h.2.2.1 hb, Kd.C_below h.2.2.2 hb⟩
abbrev SqC (w : World) (A A2 : Option Addr) (L L2 : List AtS) (p0 p1 : Addr) (x y : ByteArray) (W : World) : Prop := SqR w A A2 L L2 W ∧ W.cell? p0 = some (.string x) ∧ W.cell? p1 = some (.string y)
theorem SqC.call {w : World} {A A2 : Option Addr} {L L2 : List AtS} {p0 p1 : Addr} {x y : ByteArray} {W W' : World} (hb : Below W.heap.size W W') (h : SqC w A A2 L L2 p0 p1 x y W) : SqC w A A2 L L2 p0 p1 x y W' :=
  ⟨h.1.call hb, (hb.cell (World.block_lt_of_cell? W _ h.2.1)).trans h.2.1, (hb.cell (World.block_lt_of_cell? W _ h.2.2)).trans h.2.2⟩
set_option maxRecDepth 100000 in
set_option maxHeartbeats 4000000 in
theorem SafeQuoted_law (a1 b1 : ByteArray) (single : Bool) (w : World) (h0 : a1.size ≤ 140737488351232) (h0b : b1.size ≤ 140737488351232) (hGl : Glob w) :
    Calls Tryz.prog 3 #[.string a1, .string b1, .bool single] w fun e w' => e = .returned (.bool true) ∧ Below w.heap.size w w' := by
  have HG := Lib.hid hGl
  have AW := Lib.hid (fun W hG => awake25_any W hG hG.toE)
  by_cases hb : 300 < a1.size
  · have q : decide ((300 : Int) < (a1.size : Int)) = true := by simp; omega
    clear hb hGl
    cases single with
    | true =>
      go_enter Tryz.func3, Tryz.ntmps3
      go_wp2_with fail
      refine (AW.out _ HG.out).mono ?_
      rintro e w1 ⟨rfl, hb⟩
      go_wp2_with fail
      go_ret
      exact ⟨rfl, hb⟩
    | false =>
      go_enter Tryz.func3, Tryz.ntmps3
      go_wp2_with fail
      refine (AW.out _ HG.out).mono ?_
      rintro e w1 ⟨rfl, hb⟩
      go_wp2_with fail
      go_ret
      exact ⟨rfl, hb⟩
  have q : decide ((300 : Int) < (a1.size : Int)) = false := by simp; omega
  by_cases hb2 : 300 < b1.size
  · have q2 : decide ((300 : Int) < (b1.size : Int)) = true := by simp; omega
    clear hb hb2 hGl
    cases single with
    | true =>
      go_enter Tryz.func3, Tryz.ntmps3
      go_wp2_with fail
      refine (AW.out _ HG.out).mono ?_
      rintro e w1 ⟨rfl, hb⟩
      go_wp2_with fail
      go_ret
      exact ⟨rfl, hb⟩
    | false =>
      go_enter Tryz.func3, Tryz.ntmps3
      go_wp2_with fail
      refine (AW.out _ HG.out).mono ?_
      rintro e w1 ⟨rfl, hb⟩
      go_wp2_with fail
      go_ret
      exact ⟨rfl, hb⟩
  have q2 : decide ((300 : Int) < (b1.size : Int)) = false := by simp; omega
  obtain ⟨s, rfl⟩ := exists_B a1
  obtain ⟨t, rfl⟩ := exists_B b1
  rw [size_B] at hb hb2
  have z1 : (B s).size ≤ 300 := by rw [size_B]; omega
  have z2 : (B t).size ≤ 300 := by rw [size_B]; omega
  have hs : s.length ≤ 300 := by omega
  have ht : t.length ≤ 300 := by omega
  obtain ⟨st, hst⟩ : ∃ st : Int, st = if single then 6 else 5 := ⟨_, rfl⟩
  have SA := fun W hG => safeN_c s st (by omega) W hG (Glob.toE hG)
  obtain ⟨x, hx⟩ : ∃ x, safL st s = x := ⟨_, rfl⟩
  rw [hx] at SA
  obtain ⟨a, ha⟩ : ∃ a, B s = a := ⟨_, rfl⟩
  obtain ⟨b, hb'⟩ : ∃ a, B t = a := ⟨_, rfl⟩
  have hda : a.data.toList = s := by rw [← ha]; exact B_data s
  have hdb : b.data.toList = t := by rw [← hb']; exact B_data t
  have hsa : (a.size : Int) = s.length := by rw [← ha, size_B]
  rw [ha] at SA z1 q ⊢
  rw [hb'] at z2 q2 ⊢
  cases x with
  | false =>
    have HSA := Lib.hid SA
    clear hx hb hb2 h0 h0b hGl SA hda hdb hsa ha hb' hs ht
    cases single with
    | true =>
      rw [hst, if_pos rfl] at HSA
      clear hst
      go_enter Tryz.func3, Tryz.ntmps3
      go_wp2_with fail
      refine (AW.out _ HG.out).mono ?_
      rintro e w1 ⟨rfl, hb⟩
      have HW := Lib.hid hb
      clear hb
      go_wp2_with fail
      refine (HSA.out _ (HG.out.step HW.out)).mono ?_
      rintro e w2 ⟨rfl, hb⟩
      replace HW := Lib.hid (HW.out.trans (hb.mono HW.out.size))
      clear hb
      go_wp2_with fail
      go_ret
      exact ⟨rfl, HW.out⟩
    | false =>
      rw [hst, if_neg (by decide)] at HSA
      clear hst
      go_enter Tryz.func3, Tryz.ntmps3
      go_wp2_with fail
      refine (AW.out _ HG.out).mono ?_
      rintro e w1 ⟨rfl, hb⟩
      have HW := Lib.hid hb
      clear hb
      go_wp2_with fail
      refine (HSA.out _ (HG.out.step HW.out)).mono ?_
      rintro e w2 ⟨rfl, hb⟩
      replace HW := Lib.hid (HW.out.trans (hb.mono HW.out.size))
      clear hb
      go_wp2_with fail
      go_ret
      exact ⟨rfl, HW.out⟩
  | true =>
    obtain ⟨qq, hqq⟩ : ∃ c : UInt8, c = if single then 39 else 34 := ⟨_, rfl⟩
    have hq34 : qq = 34 ∨ qq = 39 := by rw [hqq]; cases single <;> simp
    have hnq : qq ∉ s := by
      have h := hx
      unfold safL at h
      rw [hst] at h
      rw [hqq]
      unfold hasB at h
      cases single <;> simp at h ⊢ <;> exact h.2.1
    obtain ⟨g, g1, g2, g3⟩ := quoted_two hq34 t hnq
    have R1 := Lib.hid (fun X hX W hG => attrs_x X (120 :: 61 :: qq :: (s ++ qq :: t)) hX (by simp; omega) W hG)
    have R2 := Lib.hid (fun X hX W hG => attrs_x X (120 :: 61 :: qq :: qq :: t) hX (by simp; omega) W hG)
    rw [g1] at R1
    rw [g2] at R2
    have HSA := Lib.hid SA
    have HDA := Lib.hid hda
    have HDB := Lib.hid hdb
    have HSZ := Lib.hid hsa
    have HZ : Hid (s.length ≤ 300 ∧ t.length ≤ 300) := Lib.hid ⟨hs, ht⟩
    clear hb hb2 h0 h0b hGl SA hda hdb hsa hx g1 g2 hnq hq34
    cases g with
    | none =>
      clear g3 hs ht
      have RA : Hid (∀ X : ByteArray, X.data.toList = 120 :: 61 :: qq :: (s ++ qq :: t) → ∀ W, Glob W → Calls Tryz.prog 8 #[.string X, .int .i64 0] W fun e w' => (∃ A c, e = .returned (.tuple #[.slice A 0 c, .bool false, .int .i64 ((4 + s.length + t.length : Nat) : Int), .bool false])) ∧ Below W.heap.size W w') := Lib.hid (fun X hX W hG => (R1.out X hX W hG).mono fun e w' h => by
        obtain ⟨⟨v, he, hR⟩, hb⟩ := h
        obtain ⟨A, c, rfl, _, _⟩ := Kd.R_reads hR
        refine ⟨⟨A, c, he.trans ?_⟩, hb⟩
        unfold atRes
        simp; omega)
      have RB : Hid (∀ X : ByteArray, X.data.toList = 120 :: 61 :: qq :: qq :: t → ∀ W, Glob W → Calls Tryz.prog 8 #[.string X, .int .i64 0] W fun e w' => (∃ A c, e = .returned (.tuple #[.slice A 0 c, .bool false, .int .i64 ((4 + t.length : Nat) : Int), .bool false])) ∧ Below W.heap.size W w') := Lib.hid (fun X hX W hG => (R2.out X hX W hG).mono fun e w' h => by
        obtain ⟨⟨v, he, hR⟩, hb⟩ := h
        obtain ⟨A, c, rfl, _, _⟩ := Kd.R_reads hR
        refine ⟨⟨A, c, he.trans ?_⟩, hb⟩
        unfold atRes
        simp; omega)
      clear R1 R2
      obtain ⟨N1, hN1⟩ : ∃ n : Nat, 4 + s.length + t.length = n := ⟨_, rfl⟩
      obtain ⟨M1, hM1⟩ : ∃ n : Nat, 4 + t.length = n := ⟨_, rfl⟩
      have u1 : M1 ≤ 1000 := by have := HZ.out; omega
      have u2 : (M1 : Int) + (a.size : Int) = (N1 : Int) := by have := HSZ.out; omega
      rw [hN1] at RA
      rw [hM1] at RB
      clear hN1 hM1
      cases single with
      | true =>
        rw [hst, if_pos rfl] at HSA
        rw [hqq, if_pos rfl] at RA RB
        clear hst hqq ha hb'
        go_enter Tryz.func3, Tryz.ntmps3
        go_wp2_with fail
        refine (AW.out _ HG.out).mono ?_
        rintro e w1 ⟨rfl, hb⟩
        have HW := Lib.hid hb
        clear hb
        go_wp2_with fail
        refine (HSA.out _ (HG.out.step HW.out)).mono ?_
        rintro e w2 ⟨rfl, hb⟩
        replace HW := Lib.hid (HW.out.trans (hb.mono HW.out.size))
        clear hb
        go_wp2_with fail
        refine (RA.out _ (by simp [HDB.out, HDA.out]) _ (HG.out.step HW.out)).mono ?_
        rintro e w3 ⟨⟨A, c, rfl⟩, hb⟩
        replace HW := Lib.hid (HW.out.trans (hb.mono HW.out.size))
        clear hb
        go_wp2_with fail
        refine (RB.out _ (by simp [HDB.out]) _ (HG.out.step HW.out)).mono ?_
        rintro e w4 ⟨⟨A2, c2, rfl⟩, hb⟩
        replace HW := Lib.hid (HW.out.trans (hb.mono HW.out.size))
        clear hb
        go_wp2_with fail
        go_ret
        exact ⟨rfl, HW.out⟩
      | false =>
        rw [hst, if_neg (by decide)] at HSA
        rw [hqq, if_neg (by decide)] at RA RB
        clear hst hqq ha hb'
        go_enter Tryz.func3, Tryz.ntmps3
        go_wp2_with fail
        refine (AW.out _ HG.out).mono ?_
        rintro e w1 ⟨rfl, hb⟩
        have HW := Lib.hid hb
        clear hb
        go_wp2_with fail
        refine (HSA.out _ (HG.out.step HW.out)).mono ?_
        rintro e w2 ⟨rfl, hb⟩
        replace HW := Lib.hid (HW.out.trans (hb.mono HW.out.size))
        clear hb
        go_wp2_with fail
        refine (RA.out _ (by simp [HDB.out, HDA.out]) _ (HG.out.step HW.out)).mono ?_
        rintro e w3 ⟨⟨A, c, rfl⟩, hb⟩
        replace HW := Lib.hid (HW.out.trans (hb.mono HW.out.size))
        clear hb
        go_wp2_with fail
        refine (RB.out _ (by simp [HDB.out]) _ (HG.out.step HW.out)).mono ?_
        rintro e w4 ⟨⟨A2, c2, rfl⟩, hb⟩
        replace HW := Lib.hid (HW.out.trans (hb.mono HW.out.size))
        clear hb
        go_wp2_with fail
        go_ret
        exact ⟨rfl, HW.out⟩
    | some y =>
      obtain ⟨T, self, rest⟩ := y
      have g4 := g3 _ rfl
      simp only at g4
      obtain ⟨CV, hCV⟩ : ∃ X, B (cleanL (rdL true s)) = X := ⟨_, rfl⟩
      obtain ⟨TL, hTL⟩ : ∃ X, T.map ofT = X := ⟨_, rfl⟩
      obtain ⟨n, hn⟩ : ∃ n, TL.length + 1 = n := ⟨_, rfl⟩
      have RA : Hid (∀ X : ByteArray, X.data.toList = 120 :: 61 :: qq :: (s ++ qq :: t) → ∀ W, Glob W → Calls Tryz.prog 8 #[.string X, .int .i64 0] W fun e w' => (∃ A c, e = .returned (.tuple #[.slice A n c, .bool self, .int .i64 ((4 + s.length + t.length - rest.length : Nat) : Int), .bool true]) ∧ n ≤ c ∧ Kd.C atK w' A n (⟨⟨#[120]⟩, CV⟩ :: TL)) ∧ Below W.heap.size W w') := Lib.hid (fun X hX W hG => (R1.out X hX W hG).mono fun e w' h => by
        obtain ⟨⟨v, he, hR⟩, hb⟩ := h
        obtain ⟨A, c, rfl, hc, hC⟩ := Kd.R_reads hR
        have e1 : (atRes (120 :: 61 :: qq :: (s ++ qq :: t)) ((some (T, self, rest)).map (headA [120] (cleanL (rdL true s))))).1 = (⟨⟨#[120]⟩, CV⟩ :: TL) := by
          rw [← hCV, ← hTL]; rfl
        rw [e1] at he hC hc
        rw [List.length_cons, hn] at he hC hc
        refine ⟨⟨A, c, he.trans ?_, hc, hC⟩, hb⟩
        unfold atRes headA
        simp; omega)
      have RB : Hid (∀ X : ByteArray, X.data.toList = 120 :: 61 :: qq :: qq :: t → ∀ W, Glob W → Calls Tryz.prog 8 #[.string X, .int .i64 0] W fun e w' => (∃ A c, e = .returned (.tuple #[.slice A n c, .bool self, .int .i64 ((4 + t.length - rest.length : Nat) : Int), .bool true]) ∧ n ≤ c ∧ ∃ z, Kd.C atK w' A n (z :: TL)) ∧ Below W.heap.size W w') := Lib.hid (fun X hX W hG => (R2.out X hX W hG).mono fun e w' h => by
        obtain ⟨⟨v, he, hR⟩, hb⟩ := h
        obtain ⟨A, c, rfl, hc, hC⟩ := Kd.R_reads hR
        have e1 : (atRes (120 :: 61 :: qq :: qq :: t) ((some (T, self, rest)).map (headA [120] (cleanL (rdL true []))))).1 = (ofT ([120], cleanL (rdL true [])) :: TL) := by
          rw [← hTL]; rfl
        rw [e1] at he hC hc
        rw [List.length_cons, hn] at he hC hc
        refine ⟨⟨A, c, he.trans ?_, hc, _, hC⟩, hb⟩
        unfold atRes headA
        simp; omega)
      clear R1 R2 g3
      have SM := Lib.hid (fun (A A2 : Option Addr) (c c2 : Nat) W (hC : Kd.C atK W A TL.length TL) (hc : TL.length ≤ c) (hC2 : Kd.C atK W A2 TL.length TL) (hc2 : TL.length ≤ c2) => flailref08_Same.calls (TL.length + 1) A c TL A2 c2 TL true W hC hc hC2 hc2 (same_self TL hC.2.1))
      have HN := Lib.hid hn
      obtain ⟨N1, hN1⟩ : ∃ n : Nat, 4 + s.length + t.length - rest.length = n := ⟨_, rfl⟩
      obtain ⟨M1, hM1⟩ : ∃ n : Nat, 4 + t.length - rest.length = n := ⟨_, rfl⟩
      have u1 : M1 ≤ 1000 := by have := HZ.out; omega
      have u2 : (M1 : Int) + (a.size : Int) = (N1 : Int) := by have := HSZ.out; have := HZ.out; omega
      have u3 : ((n : Int) == 0) = false := by rw [beq_eq_false_iff_ne]; omega
      have u4 : (0 : Int) < (n : Int) := by omega
      have u5 : 0 < n := by omega
      have DC : Hid (∀ W, Glob W → Calls Tryz.prog 10 #[.string a, .bool true] W fun e w' => e = .returned (.string (B (rdL true s))) ∧ Below W.heap.size W w') := Lib.hid (fun W hG => by
        have := rdecode_c s true (by omega) W hG hG.toE
        rw [ha] at this; exact this)
      have CL : Hid (∀ W, Glob W → Calls Tryz.prog 9 #[.string (B (rdL true s))] W fun e w' => e = .returned (.string CV) ∧ Below W.heap.size W w') := Lib.hid (fun W hG => by
        have hl := rdL_le true s
        have := clean_any (B (rdL true s)) W (by rw [size_B]; omega) hG
        unfold cleanBA at this
        rw [B_data] at this
        change Calls _ _ _ _ (fun e w' => e = .returned (.string (B (cleanL (rdL true s)))) ∧ _) at this
        rw [hCV] at this
        exact this)
      obtain ⟨DV, hDV⟩ : ∃ X, B (rdL true s) = X := ⟨_, rfl⟩
      rw [hDV] at DC CL
      obtain ⟨i24, hi24, hi2⟩ : ∃ i, Tryz.prog.info? 28 = some i ∧ i.size = 2 := by
        have h := infoA
        rw [Option.map_eq_some_iff] at h
        obtain ⟨i, h1, h2⟩ := h
        exact ⟨i, h1, by simpa using congrArg (fun x => x.2.1) h2⟩
      have CF := Lib.hid (fun (A : Option Addr) (c : Nat) => cut_from (P := Tryz.prog) 24 28 .i64 Tryz.underlying24 hi24 2 hi2 A n c 1 (by decide) (by omega))
      rw [hN1] at RA
      rw [hM1] at RB
      clear hN1 hM1 hDV hTL hCV hn hi24 hs ht g4
      cases single with
      | true =>
        rw [hst, if_pos rfl] at HSA
        rw [hqq, if_pos rfl] at RA RB
        clear hst hqq ha hb'
        go_enter Tryz.func3, Tryz.ntmps3
        go_wp2_with fail
        refine (AW.out _ HG.out).mono ?_
        rintro e w1 ⟨rfl, hb⟩
        have HW := Lib.hid hb
        clear hb
        go_wp2_with fail
        refine (HSA.out _ (HG.out.step HW.out)).mono ?_
        rintro e w2 ⟨rfl, hb⟩
        replace HW := Lib.hid (HW.out.trans (hb.mono HW.out.size))
        clear hb
        go_wp2_with fail
        refine (RA.out _ (by simp [HDB.out, HDA.out]) _ (HG.out.step HW.out)).mono ?_
        rintro e w3 ⟨⟨A, c, rfl, hc, hC⟩, hb⟩
        replace HW := Lib.hid (HW.out.trans (hb.mono HW.out.size))
        have HCA := Lib.hid hC
        clear hb hC
        go_wp2_with fail
        refine (RB.out _ (by simp [HDB.out]) _ (HG.out.step HW.out)).mono ?_
        rintro e w4 ⟨⟨A2, c2, rfl, hc2, z, hC2⟩, hb⟩
        replace HW := Lib.hid (HW.out.trans (hb.mono HW.out.size))
        replace HCA := Lib.hid (Kd.C_below HCA.out hb)
        have HCB := Lib.hid hC2
        clear hb hC2
        have CA0 : Kd.C atK w4 A (⟨⟨#[120]⟩, CV⟩ :: TL : List AtS).length (⟨⟨#[120]⟩, CV⟩ :: TL) := by rw [List.length_cons, HN.out]; exact HCA.out
        have CB0 : Kd.C atK w4 A2 (z :: TL : List AtS).length (z :: TL) := by rw [List.length_cons, HN.out]; exact HCB.out
        have D1 := Kd.C_drop (m := 1) (c := c) CA0 (by rw [List.length_cons]; omega) (by rw [List.length_cons, HN.out]; exact hc)
        have D2 := Kd.C_drop (m := 1) (c := c2) CB0 (by rw [List.length_cons]; omega) (by rw [List.length_cons, HN.out]; exact hc2)
        have CFa := CF.out A c
        have CFb := CF.out A2 c2
        change ∀ W : World, Sem.run _ _ W = Result.ok (Value.slice (if c = 1 then A else A.map (·.add (1 * atK.sz))) (n - 1) (c - 1)) W at CFa
        change ∀ W : World, Sem.run _ _ W = Result.ok (Value.slice (if c2 = 1 then A2 else A2.map (·.add (1 * atK.sz))) (n - 1) (c2 - 1)) W at CFb
        obtain ⟨A', hA'⟩ : ∃ X, (if c = 1 then A else A.map (·.add (1 * atK.sz))) = X := ⟨_, rfl⟩
        obtain ⟨A2', hA2'⟩ : ∃ X, (if c2 = 1 then A2 else A2.map (·.add (1 * atK.sz))) = X := ⟨_, rfl⟩
        rw [hA'] at D1 CFa
        rw [hA2'] at D2 CFb
        change Kd.C atK w4 A' TL.length TL at D1
        change Kd.C atK w4 A2' TL.length TL at D2
        obtain ⟨m, hm⟩ : ∃ m, TL.length = m := ⟨_, rfl⟩
        have hnm : n - 1 = m := by have := HN.out; omega
        rw [hnm] at CFa CFb
        obtain ⟨c', hc'⟩ : ∃ m, c - 1 = m := ⟨_, rfl⟩
        obtain ⟨c2', hc2'⟩ : ∃ m, c2 - 1 = m := ⟨_, rfl⟩
        rw [hc'] at CFa
        rw [hc2'] at CFb
        have SMx : Hid (∀ p0 p1 x y W, SqC w A' A2' TL TL p0 p1 x y W → Calls Tryz.prog 11 #[.slice A' m c', .slice A2' m c2'] W fun e w' => e = .returned (.bool true) ∧ Below W.heap.size W w') := Lib.hid (fun p0 p1 x y W h => by
          rw [← hm]
          exact (SM.out A' A2' c' c2' W h.1.2.2.1 (by omega) h.1.2.2.2 (by omega)).mono fun _ _ h => ⟨h.1, h.2.below⟩)
        obtain ⟨ad, rfl, hx0, hx1⟩ := at_T28 HCA.out 0 (by decide) u4
        have a0 : ad.add (Int.toNat 0 * 2) = ad := by show ad.add 0 = ad; unfold Addr.add; simp
        rw [a0] at hx0 hx1
        change w4.cell? ad = some (.string ⟨#[120]⟩) at hx0
        change w4.cell? ⟨ad.block, ad.off + 1, none⟩ = some (.string CV) at hx1
        have HS : SqC w A' A2' TL TL ad ⟨ad.block, ad.off + 1, none⟩ ⟨#[120]⟩ CV w4.drew := SqC.call (Below.drew (Below.refl _ _)) ⟨⟨HW.out, HG.out.step HW.out, D1, D2⟩, hx0, hx1⟩
        clear RA RB HSA AW CF CA0 CB0 D1 D2 a0 hA' hA2' hc' hc2' SM
        go_wp2_with fail
        go_region_held3 (fun W => SqR w A' A2' TL TL W ∧ W.cell? ad = some (.string ⟨#[120]⟩) ∧ W.cell? ⟨ad.block, ad.off + 1, none⟩ = some (.string CV)) (first | with_reducible assumption | with_reducible exact HS | exact SqC.call hb (by with_reducible assumption)) (first | (go_at_call 10; refine (DC.out _ (And.left (And.right (And.left (by with_reducible assumption : SqC w A' A2' TL TL ad ⟨ad.block, ad.off + 1, none⟩ ⟨#[120]⟩ CV _))))).mono ?_; rintro e w' ⟨rfl, hb⟩) | (go_at_call 9; refine (CL.out _ (And.left (And.right (And.left (by with_reducible assumption : SqC w A' A2' TL TL ad ⟨ad.block, ad.off + 1, none⟩ ⟨#[120]⟩ CV _))))).mono ?_; rintro e w' ⟨rfl, hb⟩) | (go_at_call 11; refine (SMx.out _ _ _ _ _ (by with_reducible assumption : SqC w A' A2' TL TL ad ⟨ad.block, ad.off + 1, none⟩ ⟨#[120]⟩ CV _)).mono ?_; rintro e w' ⟨rfl, hb⟩))
        all_goals (
          have HB : Below w.heap.size w _ := And.left (And.left (by with_reducible assumption : SqC w A' A2' TL TL ad ⟨ad.block, ad.off + 1, none⟩ ⟨#[120]⟩ CV _))
          go_wp2_with fail
          go_ret
          exact ⟨rfl, HB⟩)
      | false =>
        rw [hst, if_neg (by decide)] at HSA
        rw [hqq, if_neg (by decide)] at RA RB
        clear hst hqq ha hb'
        go_enter Tryz.func3, Tryz.ntmps3
        go_wp2_with fail
        refine (AW.out _ HG.out).mono ?_
        rintro e w1 ⟨rfl, hb⟩
        have HW := Lib.hid hb
        clear hb
        go_wp2_with fail
        refine (HSA.out _ (HG.out.step HW.out)).mono ?_
        rintro e w2 ⟨rfl, hb⟩
        replace HW := Lib.hid (HW.out.trans (hb.mono HW.out.size))
        clear hb
        go_wp2_with fail
        refine (RA.out _ (by simp [HDB.out, HDA.out]) _ (HG.out.step HW.out)).mono ?_
        rintro e w3 ⟨⟨A, c, rfl, hc, hC⟩, hb⟩
        replace HW := Lib.hid (HW.out.trans (hb.mono HW.out.size))
        have HCA := Lib.hid hC
        clear hb hC
        go_wp2_with fail
        refine (RB.out _ (by simp [HDB.out]) _ (HG.out.step HW.out)).mono ?_
        rintro e w4 ⟨⟨A2, c2, rfl, hc2, z, hC2⟩, hb⟩
        replace HW := Lib.hid (HW.out.trans (hb.mono HW.out.size))
        replace HCA := Lib.hid (Kd.C_below HCA.out hb)
        have HCB := Lib.hid hC2
        clear hb hC2
        have CA0 : Kd.C atK w4 A (⟨⟨#[120]⟩, CV⟩ :: TL : List AtS).length (⟨⟨#[120]⟩, CV⟩ :: TL) := by rw [List.length_cons, HN.out]; exact HCA.out
        have CB0 : Kd.C atK w4 A2 (z :: TL : List AtS).length (z :: TL) := by rw [List.length_cons, HN.out]; exact HCB.out
        have D1 := Kd.C_drop (m := 1) (c := c) CA0 (by rw [List.length_cons]; omega) (by rw [List.length_cons, HN.out]; exact hc)
        have D2 := Kd.C_drop (m := 1) (c := c2) CB0 (by rw [List.length_cons]; omega) (by rw [List.length_cons, HN.out]; exact hc2)
        have CFa := CF.out A c
        have CFb := CF.out A2 c2
        change ∀ W : World, Sem.run _ _ W = Result.ok (Value.slice (if c = 1 then A else A.map (·.add (1 * atK.sz))) (n - 1) (c - 1)) W at CFa
        change ∀ W : World, Sem.run _ _ W = Result.ok (Value.slice (if c2 = 1 then A2 else A2.map (·.add (1 * atK.sz))) (n - 1) (c2 - 1)) W at CFb
        obtain ⟨A', hA'⟩ : ∃ X, (if c = 1 then A else A.map (·.add (1 * atK.sz))) = X := ⟨_, rfl⟩
        obtain ⟨A2', hA2'⟩ : ∃ X, (if c2 = 1 then A2 else A2.map (·.add (1 * atK.sz))) = X := ⟨_, rfl⟩
        rw [hA'] at D1 CFa
        rw [hA2'] at D2 CFb
        change Kd.C atK w4 A' TL.length TL at D1
        change Kd.C atK w4 A2' TL.length TL at D2
        obtain ⟨m, hm⟩ : ∃ m, TL.length = m := ⟨_, rfl⟩
        have hnm : n - 1 = m := by have := HN.out; omega
        rw [hnm] at CFa CFb
        obtain ⟨c', hc'⟩ : ∃ m, c - 1 = m := ⟨_, rfl⟩
        obtain ⟨c2', hc2'⟩ : ∃ m, c2 - 1 = m := ⟨_, rfl⟩
        rw [hc'] at CFa
        rw [hc2'] at CFb
        have SMx : Hid (∀ p0 p1 x y W, SqC w A' A2' TL TL p0 p1 x y W → Calls Tryz.prog 11 #[.slice A' m c', .slice A2' m c2'] W fun e w' => e = .returned (.bool true) ∧ Below W.heap.size W w') := Lib.hid (fun p0 p1 x y W h => by
          rw [← hm]
          exact (SM.out A' A2' c' c2' W h.1.2.2.1 (by omega) h.1.2.2.2 (by omega)).mono fun _ _ h => ⟨h.1, h.2.below⟩)
        obtain ⟨ad, rfl, hx0, hx1⟩ := at_T28 HCA.out 0 (by decide) u4
        have a0 : ad.add (Int.toNat 0 * 2) = ad := by show ad.add 0 = ad; unfold Addr.add; simp
        rw [a0] at hx0 hx1
        change w4.cell? ad = some (.string ⟨#[120]⟩) at hx0
        change w4.cell? ⟨ad.block, ad.off + 1, none⟩ = some (.string CV) at hx1
        have HS : SqC w A' A2' TL TL ad ⟨ad.block, ad.off + 1, none⟩ ⟨#[120]⟩ CV w4.drew := SqC.call (Below.drew (Below.refl _ _)) ⟨⟨HW.out, HG.out.step HW.out, D1, D2⟩, hx0, hx1⟩
        clear RA RB HSA AW CF CA0 CB0 D1 D2 a0 hA' hA2' hc' hc2' SM
        go_wp2_with fail
        go_region_held3 (fun W => SqR w A' A2' TL TL W ∧ W.cell? ad = some (.string ⟨#[120]⟩) ∧ W.cell? ⟨ad.block, ad.off + 1, none⟩ = some (.string CV)) (first | with_reducible assumption | with_reducible exact HS | exact SqC.call hb (by with_reducible assumption)) (first | (go_at_call 10; refine (DC.out _ (And.left (And.right (And.left (by with_reducible assumption : SqC w A' A2' TL TL ad ⟨ad.block, ad.off + 1, none⟩ ⟨#[120]⟩ CV _))))).mono ?_; rintro e w' ⟨rfl, hb⟩) | (go_at_call 9; refine (CL.out _ (And.left (And.right (And.left (by with_reducible assumption : SqC w A' A2' TL TL ad ⟨ad.block, ad.off + 1, none⟩ ⟨#[120]⟩ CV _))))).mono ?_; rintro e w' ⟨rfl, hb⟩) | (go_at_call 11; refine (SMx.out _ _ _ _ _ (by with_reducible assumption : SqC w A' A2' TL TL ad ⟨ad.block, ad.off + 1, none⟩ ⟨#[120]⟩ CV _)).mono ?_; rintro e w' ⟨rfl, hb⟩))
        all_goals (
          have HB : Below w.heap.size w _ := And.left (And.left (by with_reducible assumption : SqC w A' A2' TL TL ad ⟨ad.block, ad.off + 1, none⟩ ⟨#[120]⟩ CV _))
          go_wp2_with fail
          go_ret
          exact ⟨rfl, HB⟩)
end Go.Proofs.YtdheknlnhfegnaaGreatDoor.Hand
