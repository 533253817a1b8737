/-
  Hand walks: flailref11.pass, .quote, .until.
-/
import Derived.Test.YtajfpegacbohdaaDoorHaDoD
namespace Go.Proofs.YtajfpegacbohdaaDoor.Hand
open Go.RowKit Go.Proofs.YtajfpegacbohdaaDoor.K0 Go.Proofs.YtajfpegacbohdaaDoor.Pl Go.Proofs.YtajfpegacbohdaaDoor.Pb Go.Proofs.YtajfpegacbohdaaDoor.Sa Go.Proofs.YtajfpegacbohdaaDoor.Sr Go.Proofs.YtajfpegacbohdaaDoor.Pure Go.Proofs.YtajfpegacbohdaaDoorW.PrintWords Go.Proofs.YtajfpegacbohdaaDoorW.PrintLast Go.Proofs.YtajfpegacbohdaaDoorW.PrintMore

theorem rspace_c (c : UInt8) (w : World) : Calls Tryd.prog 22 #[.int .u8 (c.toNat : Int)] w fun e w' => e = .returned (.bool (isSp c)) ∧ Below w.heap.size w w' := by
  refine (flailref03_Space.calls _ _ w (refSpace c)).mono ?_
  rintro e w' ⟨h1, h2⟩
  exact ⟨h1, h2.below⟩
/-- how many blanks stand first -/
def spN (s : List UInt8) : Nat := (s.takeWhile isSp).length
theorem spN_drop : ∀ s : List UInt8, s.drop (spN s) = trimL s := by
  intro s
  induction s with
  | nil => rfl
  | cons c r ih =>
    unfold spN trimL at *
    by_cases h : isSp c = true
    · simp [h, ih]
    · simp [h]
theorem spN_le : ∀ s : List UInt8, spN s ≤ s.length := fun s => (List.takeWhile_sublist _).length_le
theorem spN_cons {c : UInt8} {r : List UInt8} : spN (c :: r) = if isSp c = true then spN r + 1 else 0 := by
  unfold spN
  by_cases h : isSp c = true <;> simp [h]
theorem drop_at (a : ByteArray) (k : Nat) (h : k < a.size) : a.data.toList.drop k = a[k] :: a.data.toList.drop (k + 1) := by
  rw [List.drop_eq_getElem_cons (by simpa using h)]; rfl
theorem drop_past (a : ByteArray) (k : Nat) (h : ¬ k < a.size) : a.data.toList.drop k = [] := List.drop_eq_nil_of_le (by rw [Array.length_toList]; show a.size ≤ k; omega)
set_option maxRecDepth 100000 in
set_option maxHeartbeats 2000000 in
theorem pass_any (a : ByteArray) (n : Nat) (w : World) (hz : a.size ≤ 1000000) (hn : n ≤ a.size) :
    Calls Tryd.prog 21 #[.string a, .int .i64 (n : Int)] w fun e w' => e = .returned (.int .i64 ((n + spN (a.data.toList.drop n) : Nat) : Int)) ∧ Below w.heap.size w w' := by
  obtain ⟨N, hN⟩ : ∃ N, n + spN (a.data.toList.drop n) = N := ⟨_, rfl⟩
  rw [hN]
  go_enter Tryd.func21, Tryd.ntmps21
  go_wp2_with fail
  go_loopw [1] (fun i wr => ∃ k : Nat, k ≤ a.size ∧ i = .int .i64 (k : Int) ∧ Hid (k + spN (a.data.toList.drop k) = N) ∧ Hid (Below w.heap.size w wr)) (fun i _ => a.size - (intOf i).toNat)
  case atStart => exact ⟨n, hn, rfl, Lib.hid hN, Lib.hid (Below.refl _ _)⟩
  case round =>
    obtain ⟨k, hk, rfl, hq, hb⟩ := hrel
    by_cases hlt : k < a.size
    · have C := Lib.hid (rspace_c (a[k]))
      have hd := drop_at a k hlt
      cases hs : isSp (a[k]) with
      | true =>
        rw [hs] at C
        have hq' := Lib.hid (show k + 1 + spN (a.data.toList.drop (k + 1)) = N by have := hq.out; rw [hd, spN_cons, if_pos hs] at this; omega)
        clear hs hd hq
        go_wp2_with fail
        refine (C.out _).mono ?_
        rintro e w2 ⟨rfl, hb2⟩
        have hb' := Lib.hid (hb.out.trans (hb2.mono hb.out.size))
        clear hb2 hb C
        go_wp2_with fail
        go_roundw
        case rel => exact ⟨k + 1, by omega, by go_num, hq', hb'⟩
        case measure => simp [intOf]; omega
      | false =>
        rw [hs] at C
        have hq' := Lib.hid (show k = N by have := hq.out; rw [hd, spN_cons, if_neg (by rw [hs]; simp)] at this; omega)
        clear hs hd hq
        go_wp2_with fail
        refine (C.out _).mono ?_
        rintro e w2 ⟨rfl, hb2⟩
        have hb' := Lib.hid (hb.out.trans (hb2.mono hb.out.size))
        clear hb2 hb C
        go_wp2_with fail
        go_ret
        exact ⟨by rw [← hq'.out]; rfl, hb'.out⟩
    · have hq' := Lib.hid (show k = N by have := hq.out; rw [drop_past a k hlt] at this; simpa [spN] using this)
      clear hq
      go_wp2_with fail
      go_ret
      exact ⟨by rw [← hq'.out]; rfl, hb.out⟩
def isQ (s : List UInt8) : Bool := match s with | [] => false | c :: _ => c == 34 || c == 39
set_option maxRecDepth 100000 in
set_option maxHeartbeats 2000000 in
theorem quote_any (a : ByteArray) (n : Nat) (w : World) (_hz : a.size ≤ 1000000) (hn : n ≤ a.size) :
    Calls Tryd.prog 26 #[.string a, .int .i64 (n : Int)] w fun e w' => e = .returned (.bool (isQ (a.data.toList.drop n))) ∧ Below w.heap.size w w' := by
  by_cases hlt : n < a.size
  · rw [drop_at a n hlt]
    by_cases h34 : a[n] = 34
    · have e1 := byte_eq 34 h34
      have hr : isQ (a[n] :: a.data.toList.drop (n + 1)) = true := by simp [isQ, h34]
      rw [hr]
      clear h34 hr
      go_enter Tryd.func26, Tryd.ntmps26
      go_wp2_with fail
      go_ret
      exact ⟨rfl, Below.refl _ _⟩
    · have e1 := byte_ne 34 h34
      by_cases h39 : a[n] = 39
      · have e2 := byte_eq 39 h39
        have hr : isQ (a[n] :: a.data.toList.drop (n + 1)) = true := by simp [isQ, h39]
        rw [hr]
        clear h34 h39 hr
        go_enter Tryd.func26, Tryd.ntmps26
        go_wp2_with fail
        go_ret
        exact ⟨rfl, Below.refl _ _⟩
      · have e2 := byte_ne 39 h39
        have hr : isQ (a[n] :: a.data.toList.drop (n + 1)) = false := by simp [isQ, h34, h39]
        rw [hr]
        clear h34 h39 hr
        go_enter Tryd.func26, Tryd.ntmps26
        go_wp2_with fail
        go_ret
        exact ⟨rfl, Below.refl _ _⟩
  · rw [drop_past a n hlt]
    have e : decide ((a.size : Int) ≤ (n : Int)) = true := by simp; omega
    go_enter Tryd.func26, Tryd.ntmps26
    go_wp2_with fail
    go_ret
    exact ⟨rfl, Below.refl _ _⟩
set_option maxRecDepth 100000 in
set_option maxHeartbeats 4000000 in
theorem until_any (a : ByteArray) (n : Nat) (w : World) (hz : a.size ≤ 1000000) (hn : n < a.size) :
    Calls Tryd.prog 27 #[.string a, .int .i64 (n : Int)] w fun e w' => e = .returned (.int .i64 ((n + 1 + (upto a[n] (a.data.toList.drop (n + 1))).length : Nat) : Int)) ∧ Below w.heap.size w w' := by
  obtain ⟨q, hq⟩ : ∃ q, a[n] = q := ⟨_, rfl⟩
  rw [hq]
  obtain ⟨N, hN⟩ : ∃ N, n + 1 + (upto q (a.data.toList.drop (n + 1))).length = N := ⟨_, rfl⟩
  rw [hN]
  go_enter Tryd.func27, Tryd.ntmps27
  go_wp2_with fail
  go_loopw [5] (fun i wr => ∃ k : Nat, k ≤ a.size ∧ i = .int .i64 (k : Int) ∧ Hid (k + (upto q (a.data.toList.drop k)).length = N) ∧ Hid (Below w.heap.size w wr)) (fun i _ => a.size - (intOf i).toNat)
  case atStart => exact ⟨n + 1, by omega, by go_num, Lib.hid hN, Lib.hid (Below.refl _ _)⟩
  case round =>
    obtain ⟨k, hk, rfl, hs, hb⟩ := hrel
    by_cases hlt : k < a.size
    · have hd := drop_at a k hlt
      by_cases hc : a[k] = q
      · have hq' := Lib.hid (show k = N by have := hs.out; rw [hd, upto_cons, if_pos hc] at this; simpa using this)
        have e1 : (((a[k].toNat : Int)) == (q.toNat : Int)) = true := by rw [hc]; simp
        clear hd hs hc
        go_wp2_with fail
        go_quiet (fail)
        go_wp2_with fail
        go_ret
        exact ⟨by rw [← hq'.out]; rfl, hb.out.trans (below_drewN _ _)⟩
      · have hq' := Lib.hid (show k + 1 + (upto q (a.data.toList.drop (k + 1))).length = N by have := hs.out; rw [hd, upto_cons, if_neg hc] at this; simp at this; omega)
        have e1 : (((a[k].toNat : Int)) == (q.toNat : Int)) = false := by
          rw [beq_eq_false_iff_ne]; intro e; exact hc (UInt8.toNat_inj.1 (by omega))
        clear hd hs hc
        go_wp2_with fail
        go_quiet (fail)
        go_wp2_with fail
        go_roundw
        case rel => exact ⟨k + 1, by omega, by go_num, hq', Lib.hid (hb.out.trans (below_drewN _ _))⟩
        case measure => simp [intOf]; omega
    · have hq' := Lib.hid (show k = N by have := hs.out; rw [drop_past a k hlt] at this; simpa [upto] using this)
      clear hs
      go_wp2_with fail
      go_ret
      exact ⟨by rw [← hq'.out]; rfl, hb.out⟩
end Go.Proofs.YtajfpegacbohdaaDoor.Hand
