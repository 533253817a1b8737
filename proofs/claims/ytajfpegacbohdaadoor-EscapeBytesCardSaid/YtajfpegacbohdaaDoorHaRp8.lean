/-
  Hand walks: the library's generic Replacer writes a text: the loop.
-/
import Derived.Test.YtajfpegacbohdaaDoorHaRp7
import Derived.Deep.RegionHeld3
namespace Go.Proofs.YtajfpegacbohdaaDoor.Hand
open Go.RowKit Go.Proofs.YtajfpegacbohdaaDoor.Pb Go.Proofs.YtajfpegacbohdaaDoor.Pl

/-- a count and no error -/
def TwoRes (e : Ending) : Prop := ∃ n : Int, e = .returned (.tuple #[.int .i64 n, .nilIface])
theorem Buf.drewN {bb lo : Nat} {acc : List UInt8} {W : World} (h : Buf bb lo acc W) (k : Nat) : Buf bb lo acc (W.drewN k) :=
  ⟨by obtain ⟨v, h1, h2⟩ := h.val; exact ⟨v, h1, h2⟩, h.le⟩
theorem Buf.drew {bb lo : Nat} {acc : List UInt8} {W : World} (h : Buf bb lo acc W) : Buf bb lo acc W.drew :=
  ⟨by obtain ⟨v, h1, h2⟩ := h.val; exact ⟨v, h1, h2⟩, h.le⟩
theorem nil_ahead (n : Nat) (a : Addr) (w : World) : (nilAhead (n + 1) 179 (.pointer (some a)) "WriteString").run Tryd.prog w = .ok (some false) w := by kernel_rfl
theorem meth_ws (n : Nat) (a : Addr) (w : World) : (method (n + 1) 179 (.pointer (some a)) "WriteString").run Tryd.prog w = .ok (140, .pointer (some a)) w := by kernel_rfl
section
variable {f : UInt8 → Option (List UInt8 × List UInt8)} {acc s R : List UInt8} {l k : Nat}
theorem take_grow (hl : l ≤ k) (hk : k < s.length) : (s.drop l).take (k + 1 - l) = (s.drop l).take (k - l) ++ [s[k]] := by
  rw [show k + 1 - l = (k - l) + 1 by omega, List.take_succ_eq_append_getElem (by simp; omega)]
  congr 2
  rw [List.getElem_drop]
  congr 1
  omega
theorem step_skip (hl : l ≤ k) (hk : k < s.length) (hs : replS f 0 (s.drop k) = s[k] :: replS f 0 (s.drop (k + 1))) (h : acc ++ (s.drop l).take (k - l) ++ replS f 0 (s.drop k) = R) :
    acc ++ (s.drop l).take (k + 1 - l) ++ replS f 0 (s.drop (k + 1)) = R := by
  rw [← h, hs, take_grow hl hk]; simp
theorem step_hit (v : List UInt8) (n : Nat) (hs : replS f 0 (s.drop k) = v ++ replS f 0 (s.drop (k + n))) (h : acc ++ (s.drop l).take (k - l) ++ replS f 0 (s.drop k) = R) :
    (acc ++ (s.drop l).take (k - l) ++ v) ++ (s.drop (k + n)).take (k + n - (k + n)) ++ replS f 0 (s.drop (k + n)) = R := by
  rw [← h, hs]; simp
theorem step_end (hl : l ≤ s.length) (h : acc ++ (s.drop l).take (s.length - l) ++ replS f 0 (s.drop s.length) = R) :
    acc ++ (s.drop l).take (s.length + 1 - l) ++ replS f 0 (s.drop (s.length + 1)) = R := by
  rw [← h, List.drop_length, List.drop_eq_nil_of_le (show s.length ≤ s.length + 1 by omega), List.take_of_length_le (by rw [List.length_drop]; omega), List.take_of_length_le (by rw [List.length_drop]; omega)]
theorem step_out (hl : l ≤ s.length) (h : acc ++ (s.drop l).take (s.length + 1 - l) ++ replS f 0 (s.drop (s.length + 1)) = R) : acc ++ s.drop l = R := by
  rw [← h, List.drop_eq_nil_of_le (show s.length ≤ s.length + 1 by omega), List.take_of_length_le (by rw [List.length_drop]; omega), replS_nil, List.append_nil]
end
set_option maxRecDepth 100000 in
set_option maxHeartbeats 8000000 in
theorem gen_write (kv : List (List UInt8 × ByteArray)) (br bt ts bb lo : Nat) (s : List UInt8) (W0 w : World) (hT : TrieAt kv br bt ts W0) (hw : Below W0.heap.size W0 w) (hs : s.length ≤ 100000) (hbb : W0.heap.size ≤ lo) (hB : Buf bb lo [] w)
    (hv : ∀ x ∈ kv, x.2.size ≤ 100) :
    Calls Tryd.prog 131 #[.pointer (some ⟨br, 0, none⟩), .iface 179 (.pointer (some ⟨bb, 0, none⟩)), .string (B s)] w fun e w' => TwoRes e ∧ Buf bb lo (replS (pairF kv) 0 s) w' ∧ Below W0.heap.size W0 w' := by
  have HT := Lib.hid hT
  have HW := Lib.hid hw
  have HB := Lib.hid hB
  obtain ⟨R, hR⟩ : ∃ R, replS (pairF kv) 0 s = R := ⟨_, rfl⟩
  rw [hR]
  have HR := Lib.hid hR
  obtain ⟨a, ha⟩ : ∃ a, B s = a := ⟨_, rfl⟩
  have hza : a.size = s.length := by rw [← ha]; simp
  have had : a.data.toList = s := by rw [← ha, B_data]
  have hz : a.size ≤ 100000 := by omega
  rw [ha]
  have HA := Lib.hid ha
  have HZ := Lib.hid hza
  have HV := Lib.hid hv
  clear hT hw hB hR ha hza had hs hv
  go_enter Tryd.func131, Tryd.ntmps131
  go_wp2_with fail
  refine (getSW _ _).mono ?_
  rintro e w1 ⟨rfl, rfl⟩
  go_wp2_with fail
  go_loopw [6, 7, 9, 11, 12] (fun n er la pm i wr => ∃ (z : Int) (l k : Nat) (acc : List UInt8), n = .int .i64 z ∧ er = .nilIface ∧ la = .int .i64 (l : Int) ∧ pm = .bool false ∧ i = .int .i64 (k : Int) ∧ l ≤ k ∧ k ≤ a.size + 1 ∧ l ≤ a.size ∧
      Hid (acc ++ (s.drop l).take (k - l) ++ replS (pairF kv) 0 (s.drop k) = R) ∧ Hid (Buf bb lo acc wr) ∧ Hid (Below W0.heap.size W0 wr) ∧ Hid (acc.length ≤ 100 * l)) (fun _ _ _ _ i _ => a.size + 1 - (intOf i).toNat)
  case atStart => exact ⟨0, 0, 0, [], rfl, rfl, rfl, rfl, rfl, Nat.le_refl _, by omega, by omega, Lib.hid (by rw [Nat.sub_self, List.take_zero, List.drop_zero, List.nil_append]; exact HR.out), HB, HW, Lib.hid (by simp)⟩
  case round =>
    clear HB HW
    obtain ⟨z, l, k, acc, rfl, rfl, rfl, rfl, rfl, hlk, hk, hl, HQ, HB, HW, HAL⟩ := hrel
    by_cases hlt : k < a.size
    · have hks : k < s.length := by rw [← HZ.out]; exact hlt
      have hca : a[k] = s[k] := by
        have h := HA.out
        subst h
        rfl
      have hdr : s.drop k = a[k] :: s.drop (k + 1) := by rw [List.drop_eq_getElem_cons hks, hca]
      have hTr := HT.out.below HW.out
      have c1 := hTr.root.cell 1 (by omega)
      have c4 := hTr.root.cell 4 (by omega)
      have c5 := hTr.root.cell 5 (by omega)
      rw [replF_1] at c1
      rw [replF_4] at c4
      rw [replF_5] at c5
      have hts := hTr.many.2
      have hb0 : (0 : Int) ≤ (a[k].toNat : Int) := by omega
      have hb1 : (a[k].toNat : Int) < 256 := by have := a[k].toNat_lt; omega
      have hb2 : a[k].toNat < 256 := by have := a[k].toNat_lt; omega
      have hk0 : (0 : Int) ≤ (k : Int) := by omega
      have hk1 : (k : Int) < (a.size : Int) := by omega
      have hk2 : (k : Int) ≤ (a.size : Int) := by omega
      have e0 : ((k : Int) != (a.size : Int)) = true := by rw [bne_iff_ne]; omega
      cases hp : pairF kv (a[k]) with
      | none =>
        obtain ⟨m, hm, hor⟩ := none_c hTr (a[k]) hp
        have HQ2 : Hid (acc ++ (s.drop l).take (k + 1 - l) ++ replS (pairF kv) 0 (s.drop (k + 1)) = R) := Lib.hid (step_skip hlk hks (by rw [hdr, replS_none hp, hca]) HQ.out)
        clear hTr hdr hca hks HQ hp
        have hm0 : (0 : Int) ≤ (m : Int) := by omega
        have hml : m ≤ 200 := by rcases hor with h | h <;> omega
        have HWM := Lib.hid (show wrap64 (m : Int) = (m : Int) from wrap_id _ (by omega) (by omega))
        rcases hor with hor | ⟨hmt, hor⟩
        · have e1 : ((m : Int) == (ts : Int)) = true := by rw [hor]; simp
          clear hor
          have hwm := HWM.out
          go_wp2_with fail
          go_quiet (fail)
          go_wp2_with fail
          clear hwm
          go_roundw
          case rel => exact ⟨z, l, k + 1, acc, rfl, rfl, rfl, rfl, by go_num, by omega, by omega, hl, HQ2, Lib.hid (HB.out.drewN _), Lib.hid (HW.out.trans (Below.of_drewN _ _ _)), HAL⟩
          case measure => simp [intOf]; omega
        · have e1 : ((m : Int) == (ts : Int)) = false := by rw [beq_eq_false_iff_ne]; omega
          have hm1 : (m : Int) < (ts : Int) := by omega
          have hwm := HWM.out
          go_wp2_with fail
          go_quiet (fail)
          go_wp2_with fail
          clear hwm
          go_roundw
          case rel => exact ⟨z, l, k + 1, acc, rfl, rfl, rfl, rfl, by go_num, by omega, by omega, hl, HQ2, Lib.hid (HB.out.drewN _), Lib.hid (HW.out.trans (Below.of_drewN _ _ _)), HAL⟩
          case measure => simp [intOf]; omega
      | some tv =>
        obtain ⟨t, v⟩ := tv
        obtain ⟨m, b, hm, hmt, hmb⟩ := some_c hTr (a[k]) (by rw [hp]; rfl)
        have hr : (s.drop (k + 1)).length ≤ 100000 := by have := HZ.out; simp; omega
        have C := fun W (hb : Below wr.heap.size wr W) => look_c (hTr.below hb) (a[k]) (s.drop (k + 1)) hr (by rw [hp]; rfl)
        have hx : a.extract k a.size = B (a[k] :: s.drop (k + 1)) := by
          rw [← hdr, ← HA.out, B_extract, size_B, List.take_length]
        rw [← hx] at C
        have hvz : v.length ≤ 100 := by
          obtain ⟨j, hj, _, e2⟩ := pairF_some hp
          have := HV.out _ (List.getElem_mem hj)
          rw [e2] at this; simpa using this
        have hm0 : (0 : Int) ≤ (m : Int) := by omega
        have hm1 : (m : Int) < (ts : Int) := by omega
        have HWM := Lib.hid (show wrap64 (m : Int) = (m : Int) from wrap_id _ (by omega) (by omega))
        have e1 : ((m : Int) == (ts : Int)) = false := by rw [beq_eq_false_iff_ne]; omega
        unfold LookR at C
        rw [hp] at C
        simp only at C
        cases hpre : t.isPrefixOf (s.drop (k + 1)) with
        | false =>
          rw [hpre] at C
          simp only [Bool.false_eq_true, if_false] at C
          have HQ2 : Hid (acc ++ (s.drop l).take (k + 1 - l) ++ replS (pairF kv) 0 (s.drop (k + 1)) = R) := Lib.hid (step_skip hlk hks (by rw [hdr, replS_miss hp (by rw [hpre]; simp), hca]) HQ.out)
          have HC := Lib.hid C
          clear hTr hdr hca hks HQ hp C hx hr hpre
          have hwm := HWM.out
          go_wp2_with fail
          go_quiet (fail)
          go_wp2_with fail
          clear hwm
          refine (HC.out _ (Below.of_drewN _ _ _)).mono ?_
          rintro e w2 ⟨rfl, q, rfl⟩
          go_wp2_with fail
          go_roundw
          case rel => exact ⟨z, l, k + 1, acc, rfl, rfl, rfl, rfl, by go_num, by omega, by omega, hl, HQ2, Lib.hid (HB.out.drewN _), Lib.hid (HW.out.trans (Below.of_drewN _ _ _)), HAL⟩
          case measure => simp [intOf]; omega
        | true =>
          rw [hpre] at C
          simp only [if_true] at C
          have hle : t.length ≤ (s.drop (k + 1)).length := (List.isPrefixOf_iff_prefix.1 hpre).length_le
          rw [List.length_drop] at hle
          obtain ⟨n, hn⟩ : ∃ n, 1 + t.length = n := ⟨_, rfl⟩
          have hn1 : 1 ≤ n := by omega
          have hkn : k + n ≤ a.size := by have := HZ.out; omega
          have HQ2 : Hid ((acc ++ (s.drop l).take (k - l) ++ v) ++ (s.drop (k + n)).take (k + n - (k + n)) ++ replS (pairF kv) 0 (s.drop (k + n)) = R) :=
            Lib.hid (step_hit v n (by rw [hdr, replS_hit hp hpre, List.drop_drop, ← hn]; congr 3; omega) HQ.out)
          rw [hn] at C
          have HC := Lib.hid C
          have hx1 : a.extract l k = B ((s.drop l).take (k - l)) := by
            rw [← HA.out, B_extract, List.drop_take]
          have HX1 := Lib.hid hx1
          have hsl : ((s.drop l).take (k - l)).length ≤ k - l := List.length_take_le _ _
          have HAL2 : Hid ((acc ++ (s.drop l).take (k - l) ++ v).length ≤ 100 * (k + n)) := Lib.hid (by have := HAL.out; simp only [List.length_append]; omega)
          have hz1 : acc.length + ((s.drop l).take (k - l)).length ≤ 100000000 := by have := HAL.out; omega
          have hz2 : (acc ++ (s.drop l).take (k - l)).length + v.length ≤ 100000000 := by have := HAL.out; rw [List.length_append]; omega
          have D1 := Lib.hid (fun W (h : Buf bb lo acc W) => aw_write bb lo acc ((s.drop l).take (k - l)) W h hz1)
          have D2 := Lib.hid (fun W (h : Buf bb lo (acc ++ (s.drop l).take (k - l)) W) => aw_write bb lo (acc ++ (s.drop l).take (k - l)) v W h hz2)
          obtain ⟨vb, hvb⟩ : ∃ x, B v = x := ⟨_, rfl⟩
          rw [hvb] at HC D2
          have e2 : ((n : Int) == 0) = false := by rw [beq_eq_false_iff_ne]; omega
          have hl0 : (0 : Int) ≤ (l : Int) := by omega
          have hl1 : (l : Int) ≤ (k : Int) := by omega
          clear hTr hdr hca hks HQ hp C hx hr hpre hn hx1 hsl hz1 hz2 hvb hle
          have HKN := Lib.hid hkn
          have HN1 := Lib.hid hn1
          clear hkn hn1
          have hwm := HWM.out
          go_wp2_with fail
          go_quiet (fail)
          go_wp2_with fail
          clear hwm
          refine (HC.out _ (Below.of_drewN _ _ _)).mono ?_
          rintro e w2 ⟨rfl, q, hw2⟩
          have HB2 : Hid (Buf bb lo acc w2) := Lib.hid (by rw [hw2]; exact (HB.out.drewN _).drewN _)
          have HW2 : Hid (Below W0.heap.size W0 w2) := Lib.hid (by rw [hw2]; exact (HW.out.trans (Below.of_drewN _ _ _)).trans (Below.of_drewN _ _ _))
          clear HC HB HW hw2 hm hmb c1 c4 c5 HWM
          have hmf : ∀ (fn : Fn) (first cap : Array Value) (w : World), (Instr.makeFunc fn first cap).run Tryd.prog w = .ok (.func fn first cap) w := fun _ _ _ _ => rfl
          have hna := nil_ahead
          have hme := meth_ws
          have HBd := Lib.hid (HB2.out.drew)
          have HWd := Lib.hid (HW2.out.drew)
          clear HB2 HW2
          go_wp2_with fail
          go_region_held3 (fun _ => True) (exact trivial) ((go_at_call 140; rw [HX1.out]; refine (D1.out _ HBd.out).mono ?_; rintro e w3 ⟨rfl, hb1, hb2⟩))
          have HB3 := Lib.hid (by assumption : Buf bb lo (acc ++ (s.drop l).take (k - l)) _)
          have HW3 := Lib.hid (HWd.out.trans (Below.mono (by assumption : Below lo _ _) hbb))
          clear HBd HWd D1
          go_wp2_with fail
          refine (D2.out _ HB3.out).mono ?_
          rintro e w4 ⟨rfl, hb3, hb4⟩
          have HB4 := Lib.hid hb3
          have HW4 := Lib.hid (HW3.out.trans (hb4.mono hbb))
          clear hb3 hb4 HB3 HW3 D2
          have hkn2 : k + n ≤ a.size := HKN.out
          have hn2 : 1 ≤ n := HN1.out
          have hle2 : k + n ≤ a.size + 1 := by omega
          go_wp2_with fail
          go_roundw
          case rel => exact ⟨_, k + n, k + n, acc ++ (s.drop l).take (k - l) ++ v, rfl, rfl, by go_num, rfl, by go_num, Nat.le_refl _, hle2, hkn2, HQ2, HB4, HW4, HAL2⟩
          case measure => simp [intOf]; omega
    · by_cases hke : k = a.size
      · subst hke
        have C := Lib.hid (fun W (hW : Below W0.heap.size W0 W) => lookup_end br _ W (HT.out.below hW).root rfl)
        have HQ2 : Hid (acc ++ (s.drop l).take (a.size + 1 - l) ++ replS (pairF kv) 0 (s.drop (a.size + 1)) = R) := Lib.hid (by
          have h := HQ.out
          have h2 := HZ.out
          rw [h2] at h ⊢
          exact step_end (by omega) h)
        have hx : a.extract a.size a.size = ⟨#[]⟩ := by
          have h := HA.out
          subst h
          rw [B_extract, size_B, List.take_length, List.drop_length]
          rfl
        have e1 : ((a.size : Int) != (a.size : Int)) = false := by simp
        clear HQ
        go_wp2_with fail
        refine (C.out _ HW.out).mono ?_
        rintro e w2 ⟨rfl, q, rfl⟩
        replace HB : Hid (Buf bb lo acc (wr.drewN q)) := Lib.hid (HB.out.drewN q)
        replace HW : Hid (Below W0.heap.size W0 (wr.drewN q)) := Lib.hid (HW.out.trans (Below.of_drewN _ _ _))
        clear C
        go_wp2_with fail
        go_roundw
        case rel => exact ⟨z, l, a.size + 1, acc, rfl, rfl, rfl, rfl, by go_num, by omega, by omega, hl, HQ2, HB, HW, HAL⟩
        case measure => simp [intOf]
      · obtain rfl : k = a.size + 1 := by omega
        have hq := HQ.out
        have h2 := HZ.out
        rw [h2] at hq
        have HO : Hid (acc ++ s.drop l = R) := Lib.hid (step_out (by omega) hq)
        clear hq h2 HQ
        by_cases hle : l = a.size
        · subst hle
          have HO2 : Hid (acc = R) := Lib.hid (by have h := HO.out; rw [List.drop_eq_nil_of_le (by have := HZ.out; omega), List.append_nil] at h; exact h)
          have e1 : ((a.size : Int) != (a.size : Int)) = false := by simp
          clear HO
          go_wp2_with fail
          go_ret2
          exact ⟨⟨_, rfl⟩, by rw [← HO2.out]; exact HB.out, HW.out⟩
        · have e1 : ((l : Int) != (a.size : Int)) = true := by rw [bne_iff_ne]; omega
          have hx : a.extract l a.size = B (s.drop l) := by
            rw [← HA.out, B_extract, size_B, List.take_length]
          have HX := Lib.hid hx
          clear hx
          have hmf : ∀ (fn : Fn) (first cap : Array Value) (w : World), (Instr.makeFunc fn first cap).run Tryd.prog w = .ok (.func fn first cap) w := fun _ _ _ _ => rfl
          have hl0 : (0 : Int) ≤ (l : Int) := by omega
          have hl1 : (l : Int) ≤ (a.size : Int) := by omega
          go_wp2_with fail
          have hna := nil_ahead
          have hme := meth_ws
          have C := Lib.hid (fun W (h : Buf bb lo acc W) => aw_write bb lo acc (s.drop l) W h (by have := HAL.out; have := HZ.out; simp; omega))
          have HBd := Lib.hid (HB.out.drew)
          have HWd := Lib.hid (HW.out.drew)
          clear HB HW
          go_region_with (go_at_call 140; rw [HX.out]; refine (C.out _ HBd.out).mono ?_; rintro e w2 ⟨rfl, hb1, hb2⟩)
          all_goals
            have HB := Lib.hid (by assumption : Buf bb lo (acc ++ s.drop l) _)
            have HW := Lib.hid (HWd.out.trans (Below.mono (by assumption : Below lo _ _) hbb))
            go_wp2_with fail
            go_ret2
            exact ⟨⟨_, rfl⟩, by rw [← HO.out]; exact HB.out, HW.out⟩
end Go.Proofs.YtajfpegacbohdaaDoor.Hand
