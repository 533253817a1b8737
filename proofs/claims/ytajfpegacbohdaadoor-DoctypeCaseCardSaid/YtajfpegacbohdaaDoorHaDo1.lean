/-
  Hand walks: strings.TrimLeft of four blanks, doctype.trim, doctype.quoted, doctype.Begins, doctype.Read.
-/
import Derived.Test.YtajfpegacbohdaaDoorHaL
import Derived.Test.YtajfpegacbohdaaDoorHaT
import Derived.Test.YtajfpegacbohdaaDoorHa1
import Derived.Test.YtajfpegacbohdaaDoorSa
import Derived.Test.YtajfpegacbohdaaDoorPuSign
import Derived.Lib.AsciiSet
import Derived.Lib.Builder
import Derived.Deep.QuietTactic
import Derived.BigQuiet
namespace Go.Proofs.YtajfpegacbohdaaDoor.Hand
open Go.RowKit Go.Proofs.YtajfpegacbohdaaDoor.K0 Go.Proofs.YtajfpegacbohdaaDoor.Pl Go.Proofs.YtajfpegacbohdaaDoor.Pb Go.Proofs.YtajfpegacbohdaaDoor.Sa Go.Proofs.YtajfpegacbohdaaDoor.Pure Go.Proofs.YtajfpegacbohdaaDoorW.PrintWords Go.Proofs.YtajfpegacbohdaaDoorW.PrintLast Go.Proofs.YtajfpegacbohdaaDoorW.PrintMore

def blanks : List UInt8 := [32, 9, 10, 12]
theorem blanks_sp (c : UInt8) : blanks.contains c = isSp c := by
  have : ∀ n : Fin 256, blanks.contains (UInt8.ofNat n.val) = isSp (UInt8.ofNat n.val) := by decide +kernel
  have h' := this ⟨c.toNat, c.toNat_lt⟩
  simpa using h'
def trimL (s : List UInt8) : List UInt8 := s.dropWhile isSp
def strLen : Value → Nat | .string b => b.size | _ => 0
theorem hv92 : ∀ w, (zeroValue 67).run Tryd.prog w = .ok (.agg (Array.replicate 256 (.bool false))) w := fun _ => by kernel_rfl
theorem data0 (a : ByteArray) (h : 0 < a.size) : a.data.toList = a[0] :: (a.extract 1 a.size).data.toList := by
  obtain ⟨l, rfl⟩ := exists_B a
  cases l with
  | nil => simp at h
  | cons c r => rw [B_extract]; simp [B_data]; rfl
theorem data_nil (a : ByteArray) (h : ¬ 0 < a.size) : a.data.toList = [] := by
  have : a.data.toList.length = 0 := by rw [Array.length_toList]; show a.size = 0; omega
  exact List.length_eq_zero_iff.1 this
set_option maxRecDepth 100000 in
set_option maxHeartbeats 2000000 in
theorem trimASCII_any (s : ByteArray) (b : Nat) (w : World) (hs : s.size ≤ 1000000000) (hc : ∀ x : UInt8, w.cell? ⟨b, x.toNat, none⟩ = some (.bool (isSp x))) :
    Calls Tryd.prog 54 #[.string s, .pointer (some ⟨b, 0, none⟩)] w fun e w' => e = .returned (.string (B (trimL s.data.toList))) ∧ w' = w := by
  have HC := Lib.hid hc
  clear hc
  go_enter Tryd.func54, Tryd.ntmps54
  go_wp2_with fail
  go_loop [0] (fun v => ∃ a : ByteArray, v = .string a ∧ a.size ≤ 1000000000 ∧ Hid (trimL a.data.toList = trimL s.data.toList)) (fun v => strLen v)
  case atStart => exact ⟨s, rfl, hs, Lib.hid rfl⟩
  case round =>
    obtain ⟨a, rfl, ha, ht⟩ := hrel
    by_cases h0 : 0 < a.size
    · have CC := Lib.hid (Tryd.asciiSet_contains b a[0] (isSp a[0]) w (HC.out a[0]))
      have HD := Lib.hid (data0 a h0)
      cases hq : isSp a[0] with
      | true =>
        rw [hq] at CC
        have HQ := Lib.hid hq
        clear hq
        go_wp2_with fail
        refine CC.out.mono ?_
        rintro e w' ⟨rfl, rfl⟩
        go_wp2_with fail
        go_round
        case rel =>
          refine ⟨_, rfl, by simp; omega, Lib.hid ?_⟩
          rw [← ht.out, HD.out, trimL, trimL, List.dropWhile_cons, if_pos HQ.out]
        case measure => simp [strLen]; omega
      | false =>
        rw [hq] at CC
        have HQ := Lib.hid hq
        clear hq
        go_wp2_with fail
        refine CC.out.mono ?_
        rintro e w' ⟨rfl, rfl⟩
        go_wp2_with fail
        go_ret
        refine ⟨ret_str ?_, rfl⟩
        rw [← ht.out, HD.out, trimL, List.dropWhile_cons, if_neg (by rw [HQ.out]; simp), ← HD.out, ← B_of]
    · go_wp2_with fail
      go_ret
      refine ⟨ret_str ?_, rfl⟩
      rw [← ht.out, data_nil a h0, B_of a, data_nil a h0]; rfl
set_option maxRecDepth 100000 in
set_option maxHeartbeats 2000000 in
theorem trimLeft_any (s : List UInt8) (w : World) (hs : s.length ≤ 1000000000) :
    Calls Tryd.prog 39 #[.string (B s), .string ⟨#[32, 9, 10, 12]⟩] w fun e w' => e = .returned (.string (B (trimL s))) ∧ Below w.heap.size w w' := by
  cases s with
  | nil =>
    go_enter Tryd.func39, Tryd.ntmps39
    go_wp2_with fail
    go_ret
    exact ⟨rfl, Below.refl _ _⟩
  | cons c r =>
    obtain ⟨a, ha⟩ : ∃ a, B (c :: r) = a := ⟨_, rfl⟩
    have hz : 0 < a.size := by rw [← ha]; simp
    have hd : a.data.toList = c :: r := by rw [← ha, B_data]
    have hz2 : a.size ≤ 1000000000 := by rw [← ha]; simpa using hs
    have he : a.toList.isEmpty = false := by rw [toList_data, hd]; rfl
    rw [ha]
    have M := Lib.hid (Tryd.strings_makeASCIISet hv92 ⟨#[32, 9, 10, 12]⟩ w (by decide) (by intro j b h; rcases j with _ | _ | _ | _ | j <;> simp at h <;> subst h <;> decide))
    have T := Lib.hid (fun (w : World) (b : Nat) h => trimASCII_any a b w hz2 h)
    have HD := Lib.hid hd
    clear ha hd
    have hsc : (storeCells ⟨w.heap.size + 1, 0, none⟩ (Lib.setCells (⟨#[32, 9, 10, 12]⟩ : ByteArray).data.toList).toList 0).run Tryd.prog ((w.alloc (.cells (Lib.setCells (⟨#[32, 9, 10, 12]⟩ : ByteArray).data.toList) 67)).alloc (.cells Tryd.zeroCells67 67)) = .ok () ((w.alloc (.cells (Lib.setCells (⟨#[32, 9, 10, 12]⟩ : ByteArray).data.toList) 67)).alloc (.cells (Lib.setCells (⟨#[32, 9, 10, 12]⟩ : ByteArray).data.toList) 67)) := by
      have := run_storeCells_new (P := Tryd.prog) (w.alloc (.cells (Lib.setCells (⟨#[32, 9, 10, 12]⟩ : ByteArray).data.toList) 67)) 67 Tryd.zeroCells67 (Lib.setCells (⟨#[32, 9, 10, 12]⟩ : ByteArray).data.toList) (by rw [Lib.setCells_size]; kernel_rfl) (by rw [Lib.setCells_size]; kernel_rfl) (Lib.setCells_one _)
      simpa using this
    have hcs := Lib.setCells_size (⟨#[32, 9, 10, 12]⟩ : ByteArray).data.toList
    have hcAt : ∀ (x : UInt8), ((w.alloc (.cells (Lib.setCells (⟨#[32, 9, 10, 12]⟩ : ByteArray).data.toList) 67)).alloc (.cells (Lib.setCells (⟨#[32, 9, 10, 12]⟩ : ByteArray).data.toList) 67)).cell? ⟨w.heap.size + 1, x.toNat, none⟩ = some (.bool (isSp x)) := fun x => by
      rw [World.cell?_alloc_at _ _ _ _ (by simp), Lib.setCells_at, ← blanks_sp]; rfl
    have HAt := Lib.hid hcAt
    clear hcAt
    obtain ⟨SC, hSC⟩ : ∃ SC, Lib.setCells (⟨#[32, 9, 10, 12]⟩ : ByteArray).data.toList = SC := ⟨_, rfl⟩
    rw [hSC] at M HAt hsc hcs
    clear hSC
    go_enter Tryd.func39, Tryd.ntmps39
    go_wp2_with fail
    refine M.out.mono ?_
    rintro e w1 ⟨rfl, rfl⟩
    go_wp2_with fail
    refine (T.out _ _ HAt.out).mono ?_
    rintro e w2 ⟨rfl, rfl⟩
    go_wp2_with fail
    go_ret
    refine ⟨by rw [HD.out]; rfl, ?_⟩
    exact ((Below.refl _ _).alloc (Nat.le_refl _) _).alloc (by simp) _
theorem trim_any (s : List UInt8) (w : World) (hs : s.length ≤ 1000000000) :
    Calls Tryd.prog 17 #[.string (B s)] w fun e w' => e = .returned (.string (B (trimL s))) ∧ Below w.heap.size w w' := by
  have T := Lib.hid (trimLeft_any s w hs)
  go_enter Tryd.func17, Tryd.ntmps17
  go_wp2_with fail
  refine T.out.mono ?_
  rintro e w1 ⟨rfl, hb⟩
  go_wp2_with fail
  go_ret
  exact ⟨rfl, hb⟩

/-! ### cutting at a byte -/
def isNe (c x : UInt8) : Bool := x != c
def upto (c : UInt8) (s : List UInt8) : List UInt8 := s.takeWhile (isNe c)
def past (c : UInt8) (s : List UInt8) : List UInt8 := s.drop ((upto c s).length + 1)
theorem upto_cons (c x : UInt8) (r : List UInt8) : upto c (x :: r) = if x = c then [] else x :: upto c r := by
  unfold upto isNe
  rw [List.takeWhile_cons]
  by_cases h : x = c <;> simp [h]
theorem index_byte (c : UInt8) : ∀ s : List UInt8, Lib.index s [c] = if c ∈ s then ((upto c s).length : Int) else -1 := by
  intro s
  induction s with
  | nil => rfl
  | cons x r ih =>
    rw [index_cons, ih, upto_cons]
    by_cases h : x = c
    · simp [h]
    · rw [if_neg h, if_neg h]
      by_cases hm : c ∈ r
      · rw [if_pos hm, if_pos (List.mem_cons_of_mem _ hm), if_neg (by omega)]; simp
      · rw [if_neg hm, if_pos rfl, if_neg (by simp [hm, Ne.symm h])]
theorem upto_length (c : UInt8) : ∀ s : List UInt8, (upto c s).length ≤ s.length := by
  intro s
  induction s with
  | nil => simp [upto]
  | cons x r ih => rw [upto_cons]; split <;> simp; exact ih
theorem upto_take (c : UInt8) : ∀ s : List UInt8, s.take (upto c s).length = upto c s := by
  intro s
  induction s with
  | nil => rfl
  | cons x r ih => rw [upto_cons]; split <;> simp; exact ih
theorem upto_all (c : UInt8) : ∀ s : List UInt8, c ∉ s → upto c s = s := by
  intro s
  induction s with
  | nil => intro _; rfl
  | cons x r ih =>
    intro h
    simp only [List.mem_cons, not_or] at h
    rw [upto_cons, if_neg (Ne.symm h.1), ih h.2]
theorem past_all (c : UInt8) (s : List UInt8) (h : c ∉ s) : past c s = [] := by
  unfold past; rw [upto_all c s h]; simp
theorem cut_byte (c : UInt8) (s : List UInt8) : Lib.cut s [c] = (upto c s, past c s, decide (c ∈ s)) := by
  unfold Lib.cut
  rw [index_byte]
  by_cases h : c ∈ s
  · simp [h, upto_take, past]
  · simp [h, upto_all c s h, past_all c s h]
theorem below_drewN {B : Nat} (w : World) (n : Nat) : Below B w (w.drewN n) := ⟨rfl, rfl, rfl, Nat.le_refl _, fun _ _ => rfl⟩
theorem scut_c (c : UInt8) (s : List UInt8) (w : World) (hs : s.length ≤ 1000000000) (hG : Glob w) :
    Calls Tryd.prog 38 #[.string (B s), .string (B [c])] w fun e w' => e = .returned (.tuple #[.string (B (upto c s)), .string (B (past c s)), .bool (decide (c ∈ s))]) ∧ Below w.heap.size w w' := by
  obtain ⟨m, hm⟩ := hG
  refine (Tryd.strings_Cut (B s) (B [c]) m w (by simp; omega) hm).mono ?_
  rintro e w' ⟨h1, n, rfl⟩
  rw [B_data, B_data, cut_byte] at h1
  exact ⟨h1, below_drewN _ _⟩
def begAt (s : List UInt8) (a : Int) (low : List UInt8) : Bool := if 0 ≤ a ∧ a ≤ (s.length : Int) then begR (s.drop a.toNat) low else false
theorem begAt_in (s : List UInt8) (n : Nat) (low : List UInt8) (h : n ≤ s.length) : begAt s (n : Int) low = begR (s.drop n) low := by
  unfold begAt; rw [if_pos ⟨by omega, by omega⟩]; simp
theorem sbegins_c (s low : List UInt8) (a : Int) (hs : s.length ≤ 1000000) (hl : low.length ≤ 1000000) (w : World) :
    Calls Tryd.prog 19 #[.string (B s), .int .i64 a, .string (B low)] w fun e w' => e = .returned (.bool (begAt s a low)) ∧ Below w.heap.size w w' := by
  unfold begAt
  by_cases h : 0 ≤ a ∧ a ≤ (s.length : Int)
  · rw [if_pos h]
    obtain ⟨n, rfl⟩ : ∃ n : Nat, a = n := ⟨a.toNat, by omega⟩
    exact sign_Begins.calls _ _ _ _ w (begins_f s low n hs hl (by omega))
  · rw [if_neg h]
    exact sign_Begins.calls _ _ _ _ w (begins_past s low a (by omega))
def doctB : List UInt8 := [60, 33, 100, 111, 99, 116, 121, 112, 101]
theorem dbegins_c (s : List UInt8) (a : Int) (hs : s.length ≤ 1000000) (w : World) :
    Calls Tryd.prog 37 #[.string (B s), .int .i64 a] w fun e w' => e = .returned (.bool (begAt s a doctB)) ∧ Below w.heap.size w w' := by
  have C := Lib.hid (show Calls Tryd.prog 19 #[.string (B s), .int .i64 a, .string ⟨#[60, 33, 100, 111, 99, 116, 121, 112, 101]⟩] w _ from sbegins_c s doctB a hs (by simp [doctB]) w)
  go_enter Tryd.func37, Tryd.ntmps37
  go_wp2_with fail
  refine C.out.mono ?_
  rintro e w1 ⟨rfl, hb⟩
  go_wp2_with fail
  go_ret
  exact ⟨rfl, hb⟩

theorem byte_nb (n : Int) {c m : UInt8} (h : c ≠ m) (hm : (m.toNat : Int) = n := by rfl) : (((c.toNat : Int)) != n) = true := by
  rw [bne_iff_ne]
  intro e
  apply h
  apply UInt8.toNat_inj.1
  omega
theorem byte_nf (n : Int) {c m : UInt8} (h : c = m) (hm : (m.toNat : Int) = n := by rfl) : (((c.toNat : Int)) != n) = false := by
  subst h
  rw [bne_eq_false_iff_eq, hm]
theorem cleanBA_B (l : List UInt8) : cleanBA (B l) = B (cleanL l) := by unfold cleanBA; rw [B_data]; rfl
def quotedL (s : List UInt8) : List UInt8 × List UInt8 × Bool × Bool := match s with
  | [] => ([], [], false, false)
  | q :: r => if q = 34 ∨ q = 39 then (cleanL (upto q r), past q r, true, decide (q ∈ r)) else ([], q :: r, false, false)
set_option maxRecDepth 100000 in
set_option maxHeartbeats 2000000 in
theorem quoted_any (s : List UInt8) (w : World) (hs : s.length ≤ 1000000) (hG : Glob w) :
    Calls Tryd.prog 20 #[.string (B s)] w fun e w' => e = .returned (.tuple #[.string (B (quotedL s).1), .string (B (quotedL s).2.1), .bool (quotedL s).2.2.1, .bool (quotedL s).2.2.2]) ∧ Below w.heap.size w w' := by
  cases s with
  | nil =>
    go_enter Tryd.func20, Tryd.ntmps20
    go_wp2_with fail
    refine bodyPost_ret (v := .tuple #[.string (B []), .string (B []), .bool false, .bool false]) (by simp [results, Tryd.results20, go_sem]; rfl) rfl ⟨rfl, Below.refl _ _⟩
  | cons q r =>
    obtain ⟨a, ha⟩ : ∃ a, B (q :: r) = a := ⟨_, rfl⟩
    have hz : 0 < a.size := by rw [← ha]; simp
    have hd : a.data.toList = q :: r := by rw [← ha, B_data]
    have hz2 : a.size ≤ 1000000 := by rw [← ha]; simpa using hs
    have he : a.toList.isEmpty = false := by rw [toList_data, hd]; rfl
    have hx1 : a.extract 1 a.size = B r := by rw [← ha, B_extract]; simp
    have hx0 : a.extract 0 1 = B [q] := by rw [← ha, B_extract]; simp
    have h0 : a[0] = q := by
      have := data0 a hz
      rw [hd] at this
      exact (List.cons.inj this).1.symm
    rw [ha]
    have HA := Lib.hid ha
    clear ha hd
    by_cases hq : q = 34 ∨ q = 39
    · have hql : quotedL (q :: r) = (cleanL (upto q r), past q r, true, decide (q ∈ r)) := by simp only [quotedL, if_pos hq]
      rw [hql]
      have hup := upto_length q r
      have CL := Lib.hid (fun W hG => clean_any (B (upto q r)) W (by simp at hs ⊢; omega) hG)
      obtain ⟨m, hm⟩ := hG
      have CC : ∀ k, Calls Tryd.prog 38 #[.string (a.extract 1 a.size), .string (a.extract 0 1)] (w.drewN k) fun e w' => e = .returned (.tuple #[.string (B (upto q r)), .string (B (past q r)), .bool (decide (q ∈ r))]) ∧ ∃ n, w' = (w.drewN k).drewN n := by
        intro k
        rw [hx1, hx0]
        refine (Tryd.strings_Cut (B r) (B [q]) m (w.drewN k) (by simp at hs ⊢; omega) hm).mono ?_
        rintro e w' ⟨h1, h2⟩
        rw [B_data, B_data, cut_byte] at h1
        exact ⟨h1, h2⟩
      have HC := Lib.hid CC
      clear CC hx1 hx0 hql hup
      rcases hq with hq | hq
      · have e1 := byte_nf 34 (h0.trans hq)
        clear h0 hq
        go_enter Tryd.func20, Tryd.ntmps20
        go_wp2_with fail
        go_quiet ((go_at_call 38; exact Calls.quiet_of (HC.out _)))
        go_wp2_with fail
        refine (CL.out (w.drewN _) ⟨m, hm⟩).mono ?_
        rintro e w1 ⟨rfl, hb⟩
        go_wp2_with fail
        refine bodyPost_ret (v := .tuple #[.string (cleanBA (B (upto q r))), .string (B (past q r)), .bool true, .bool (decide (q ∈ r))]) (by simp [results, Tryd.results20, go_sem]) rfl ⟨by rw [cleanBA_B], ?_⟩
        exact (below_drewN w _).trans hb
      · have e0 := byte_nb 34 (show a[0] ≠ 34 by rw [h0, hq]; decide)
        have e1 := byte_nf 39 (h0.trans hq)
        clear h0 hq
        go_enter Tryd.func20, Tryd.ntmps20
        go_wp2_with fail
        go_quiet ((go_at_call 38; exact Calls.quiet_of (HC.out _)))
        go_wp2_with fail
        refine (CL.out (w.drewN _) ⟨m, hm⟩).mono ?_
        rintro e w1 ⟨rfl, hb⟩
        go_wp2_with fail
        refine bodyPost_ret (v := .tuple #[.string (cleanBA (B (upto q r))), .string (B (past q r)), .bool true, .bool (decide (q ∈ r))]) (by simp [results, Tryd.results20, go_sem]) rfl ⟨by rw [cleanBA_B], ?_⟩
        exact (below_drewN w _).trans hb
    · have e0 := byte_nb 34 (show a[0] ≠ 34 by rw [h0]; exact fun e => hq (.inl e))
      have e1 := byte_nb 39 (show a[0] ≠ 39 by rw [h0]; exact fun e => hq (.inr e))
      have hql : quotedL (q :: r) = ([], q :: r, false, false) := by simp only [quotedL, if_neg hq]
      rw [hql]
      have HQ := Lib.hid hql
      clear h0 hq hql hx0 hx1
      go_enter Tryd.func20, Tryd.ntmps20
      go_wp2_with fail
      refine bodyPost_ret (v := .tuple #[.string (B []), .string a, .bool false, .bool false]) (by simp [results, Tryd.results20, go_sem]; rfl) rfl ⟨by rw [← HA.out], Below.refl _ _⟩

/-! ### doctype.Read -/
/-- a doctype at the beginning of a text: its text, and how many bytes it has -/
def readD (r : List UInt8) : List UInt8 × Nat := (upto 62 (r.drop 9), 9 + (upto 62 (r.drop 9)).length + if (62 : UInt8) ∈ r.drop 9 then 1 else 0)
set_option maxRecDepth 100000 in
set_option maxHeartbeats 4000000 in
theorem dread_no (s : List UInt8) (a : Int) (w : World) (hs : s.length ≤ 1000000) (hb : begAt s a doctB = false) :
    Calls Tryd.prog 16 #[.string (B s), .int .i64 a] w fun e w' => e = .returned (.tuple #[.agg #[.int .i64 0, .string ⟨#[]⟩, .string ⟨#[]⟩, .slice none 0 0, .bool false], .int .i64 a, .bool false]) ∧ Below w.heap.size w w' := by
  have hu35 := Tryd.underlying37
  have C := Lib.hid (fun W => dbegins_c s a hs W)
  rw [hb] at C
  clear hb
  have hT := Lib.hid (Tok.of_alloc T0 37 w)
  have hB0 := Lib.hid (Below.alloc (Below.refl w.heap.size w) (Nat.le_refl _) (.cells T0 37))
  have hsz : w.heap.size < (w.alloc (.cells T0 37)).heap.size := by simp
  go_enter Tryd.func16, Tryd.ntmps16
  go_wp2_with fail
  refine (C.out _).mono ?_
  rintro e w1 ⟨rfl, hb1⟩
  clear C
  have hT1 := Lib.hid (hT.out.below hb1 hsz)
  have hB1 := Lib.hid (hB0.out.trans (hb1.mono (Nat.le_of_lt hsz)))
  clear hb1 hsz hT hB0
  have q0 : w1.cell? ⟨w.heap.size, 0, none⟩ = some (.int .i64 0) := hT1.out.cell 0 (by decide)
  have q1 := Tok.f1 hT1.out
  have q2 := Tok.f2 hT1.out
  have q3 := Tok.f3 hT1.out
  have q4 := Tok.f4 hT1.out
  have q5 : ∀ j, w1.frozen? ⟨w.heap.size, j, none⟩ = false := hT1.out.open_
  go_wp2_with fail
  refine bodyPost_ret (results_ctt rfl rfl (Tok.load (hT1.out.put _ _ _ _ _))) rfl ?_
  exact ⟨rfl, put_below _ (Nat.le_refl _) hB1.out _ _ _ _ _⟩
theorem begR_len9 {s : List UInt8} {n : Nat} (h : begR (s.drop n) doctB = true) (hn : n ≤ s.length) : n + 9 ≤ s.length := by
  have := begR_length _ _ h
  simp only [List.length_drop, doctB, List.length_cons, List.length_nil] at this
  omega
set_option maxRecDepth 100000 in
set_option maxHeartbeats 8000000 in
theorem dread_yes (s : List UInt8) (n : Nat) (w : World) (hG : Glob w) (hs : s.length ≤ 1000000) (hn : n ≤ s.length) (hb : begR (s.drop n) doctB = true) :
    Calls Tryd.prog 16 #[.string (B s), .int .i64 (n : Int)] w fun e w' => e = .returned (.tuple #[.agg #[.int .i64 4, .string ⟨#[]⟩, .string (B (cleanL (readD (s.drop n)).1)), .slice none 0 0, .bool false], .int .i64 ((n + (readD (s.drop n)).2 : Nat) : Int), .bool true]) ∧ Below w.heap.size w w' := by
  have hu35 := Tryd.underlying37
  have h9 := begR_len9 hb hn
  have C := fun W => dbegins_c s (n : Int) hs W
  rw [begAt_in s n doctB hn, hb] at C
  obtain ⟨r, hr⟩ : ∃ r, s.drop (n + 9) = r := ⟨_, rfl⟩
  have hrl : r.length = s.length - (n + 9) := by rw [← hr]; simp
  have hup := upto_length 62 r
  have hrd : readD (s.drop n) = (upto 62 r, 9 + (upto 62 r).length + if (62 : UInt8) ∈ r then 1 else 0) := by unfold readD; rw [List.drop_drop, hr]
  rw [hrd]
  have hx : (B s).extract (n + 9) (B s).size = B r := by rw [B_extract, size_B, List.take_length, hr]
  obtain ⟨a, ha⟩ : ∃ a, B s = a := ⟨_, rfl⟩
  have hz : a.size = s.length := by rw [← ha]; simp
  rw [ha] at C hx ⊢
  have CU : ∀ W, Glob W → Calls Tryd.prog 38 #[.string (a.extract (n + 9) a.size), .string ⟨#[62]⟩] W fun e w' => e = .returned (.tuple #[.string (B (upto 62 r)), .string (B (past 62 r)), .bool (decide ((62 : UInt8) ∈ r))]) ∧ Below W.heap.size W w' := by
    intro W hG
    rw [hx]
    exact scut_c 62 r W (by omega) hG
  have CL := Lib.hid (fun W hG => clean_any (B (upto 62 r)) W (by simp; omega) hG)
  obtain ⟨t1, ht1⟩ : ∃ t, B (upto 62 r) = t := ⟨_, rfl⟩
  have hcl : cleanBA t1 = B (cleanL (upto 62 r)) := by rw [← ht1, cleanBA_B]
  have hzt : t1.size = (upto 62 r).length := by rw [← ht1]; simp
  rw [ht1] at CU CL
  rw [← hcl, ← hzt]
  obtain ⟨bb, hbb⟩ : ∃ b, decide ((62 : UInt8) ∈ r) = b := ⟨_, rfl⟩
  rw [hbb] at CU
  have hz3 : n + 9 ≤ a.size := by omega
  have hz4 : t1.size ≤ 1000000 := by omega
  have hz5 : a.size ≤ 1000000 := by omega
  have HC := Lib.hid C
  have HU := Lib.hid CU
  obtain ⟨N, hN⟩ : ∃ N, n + (9 + t1.size + if (62 : UInt8) ∈ r then 1 else 0) = N := ⟨_, rfl⟩
  have HN : Hid ((N : Int) = if bb = true then (n : Int) + 9 + t1.size + 1 else (n : Int) + 9 + t1.size) := by
    rw [← hbb, ← hN]
    by_cases hm : (62 : UInt8) ∈ r
    · rw [if_pos hm, if_pos (by simpa using hm)]; show _ = _; omega
    · rw [if_neg hm, if_neg (by simpa using hm)]; show _ = _; omega
  rw [hN]
  clear C CU hb hr hrd hx ha hz hrl hup hcl hzt ht1 hbb h9 hs hn hN
  have hT := Lib.hid (Tok.of_alloc T0 37 w)
  have hB0 := Lib.hid (Below.alloc (Below.refl w.heap.size w) (Nat.le_refl _) (.cells T0 37))
  have hsz : w.heap.size < (w.alloc (.cells T0 37)).heap.size := by simp
  go_enter Tryd.func16, Tryd.ntmps16
  go_wp2_with fail
  refine (HC.out _).mono ?_
  rintro e w1 ⟨rfl, hb1⟩
  clear HC
  have hT1 := Lib.hid (hT.out.below hb1 hsz)
  have hB1 := Lib.hid (hB0.out.trans (hb1.mono (Nat.le_of_lt hsz)))
  have hl1 := Nat.lt_of_lt_of_le hsz hb1.size
  clear hb1 hsz hT hB0
  go_wp2_with fail
  refine (HU.out _ (hG.step hB1.out)).mono ?_
  rintro e w2 ⟨rfl, hb1⟩
  have hT2 := Lib.hid (hT1.out.below hb1 hl1)
  have hB2 := Lib.hid (hB1.out.trans (hb1.mono (Nat.le_of_lt hl1)))
  have hl2 := Nat.lt_of_lt_of_le hl1 hb1.size
  clear hb1 hl1 hT1 hB1 HU
  cases bb with
  | true =>
    go_wp2_with fail
    refine (CL.out _ (hG.step hB2.out)).mono ?_
    rintro e w3 ⟨rfl, hb1⟩
    have hT3 := Lib.hid (hT2.out.below hb1 hl2)
    have hB3 := Lib.hid (hB2.out.trans (hb1.mono (Nat.le_of_lt hl2)))
    clear hb1 hl2 hT2 hB2
    have q0 : w3.cell? ⟨w.heap.size, 0, none⟩ = some (.int .i64 0) := hT3.out.cell 0 (by decide)
    have q1 := Tok.f1 hT3.out
    have q2 := Tok.f2 hT3.out
    have q3 := Tok.f3 hT3.out
    have q4 := Tok.f4 hT3.out
    have q5 : ∀ j, w3.frozen? ⟨w.heap.size, j, none⟩ = false := hT3.out.open_
    go_wp2_with fail
    refine bodyPost_ret (results_ctt rfl rfl (Tok.load (hT3.out.put _ _ _ _ _))) rfl ?_
    refine ⟨?_, put_below _ (Nat.le_refl _) hB3.out _ _ _ _ _⟩
    rw [HN.out]; rfl
  | false =>
    go_wp2_with fail
    refine (CL.out _ (hG.step hB2.out)).mono ?_
    rintro e w3 ⟨rfl, hb1⟩
    have hT3 := Lib.hid (hT2.out.below hb1 hl2)
    have hB3 := Lib.hid (hB2.out.trans (hb1.mono (Nat.le_of_lt hl2)))
    clear hb1 hl2 hT2 hB2
    have q0 : w3.cell? ⟨w.heap.size, 0, none⟩ = some (.int .i64 0) := hT3.out.cell 0 (by decide)
    have q1 := Tok.f1 hT3.out
    have q2 := Tok.f2 hT3.out
    have q3 := Tok.f3 hT3.out
    have q4 := Tok.f4 hT3.out
    have q5 : ∀ j, w3.frozen? ⟨w.heap.size, j, none⟩ = false := hT3.out.open_
    go_wp2_with fail
    refine bodyPost_ret (results_ctt rfl rfl (Tok.load (hT3.out.put _ _ _ _ _))) rfl ?_
    refine ⟨?_, put_below _ (Nat.le_refl _) hB3.out _ _ _ _ _⟩
    rw [HN.out]; rfl
end Go.Proofs.YtajfpegacbohdaaDoor.Hand
