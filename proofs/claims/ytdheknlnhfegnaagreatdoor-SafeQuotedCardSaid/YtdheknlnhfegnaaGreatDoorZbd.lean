/-
  Hand walks: safe.Whole.
  Hand walks: safe.Safe.
  Hand walk: safe.Everywhere.
  What is told of a reference, and of a text, is one thing.
  Whether all references of a text end, as a function.
  What safe.Safe, safe.Everywhere tell as functions.
  Whether references end: by names and by digits with a semicolon.
  Walk: flaillaw25.awake.
  Plain: what stands in a text: attributes, tags, comments, doctypes, text; all pieces of a text.
  Hand walks: the reader of attributes: blanks, one byte, up to some ends, in quotes, a value.
  Hand walk: an attribute's value.
  Hand walks: is a name among attributes (slices.ContainsFunc, with its closure).
  Laws for a scope whose code goes to labels: what holds at each jump, with a number (a ghost) that each jump lowers.
  Hand walk: attrs.Read.
  Plain: an attribute in quotes; the first attribute's value plays no part in what is read behind it.
-/
import Derived.Test.YtdheknlnhfegnaaGreatDoorZbc
import Derived.Test.YtdheknlnhfegnaaGreatDoorSx
import Derived.Deep.QuietTactic
import Derived.BigQuiet
import Derived.WalkKit
import Derived.WalkMore
import Derived.ScopeJumps
import Derived.Lib.Hide
import Derived.Test.YtdheknlnhfegnaaGreatDoorHa1
namespace Go.Proofs.YtdheknlnhfegnaaGreatDoor.Hand
open Go Go.RowKit Go.Proofs.YtdheknlnhfegnaaGreatDoor.Pl Go.Proofs.YtdheknlnhfegnaaGreatDoor.Pb

theorem RefR.next {s : List UInt8} {n : Nat} {attr : Bool} {v : Value} (h : RefR s n attr v) (hb : begR (s.drop n) [38] = true) : ∃ t m, v = .tuple #[.string t, .int .i64 ((m : Nat) : Int)] ∧ n + 1 ≤ m ∧ m ≤ s.length := by
  have hn : n + 1 ≤ s.length := by have := begR_one hb; rw [List.length_drop] at this; omega
  cases h with
  | no h => rw [hb] at h; cases h
  | num h m k h2 =>
    have := (numL_le h2).2.1
    rw [List.length_drop] at this
    exact ⟨_, _, rfl, by omega, by omega⟩
  | left h h2 k h3 h4 =>
    have := h3.le
    rw [List.length_drop] at this
    exact ⟨_, _, rfl, by omega, by omega⟩
  | name h h2 k h3 h4 h5 rest h6 =>
    have := h3.le
    rw [List.length_drop] at this
    exact ⟨_, _, rfl, by omega, by omega⟩
/-- each reference from a place on ends, or not -/
inductive Whl (s : List UInt8) (attr : Bool) : Nat → Bool → Prop
  | stop (i : Nat) (h : ∀ k : Nat, (s.drop i)[k]? ≠ some 38) : Whl s attr i true
  | bad (i o m : Nat) (t : ByteArray) (h1 : (s.drop i)[o]? = some 38) (h2 : ∀ k, k < o → (s.drop i)[k]? ≠ some 38) (h3 : RefR s (i + o) attr (.tuple #[.string t, .int .i64 (m : Int)])) (h4 : s[m - 1]? ≠ some 59) : Whl s attr i false
  | go (i o m : Nat) (t : ByteArray) (b : Bool) (h1 : (s.drop i)[o]? = some 38) (h2 : ∀ k, k < o → (s.drop i)[k]? ≠ some 38) (h3 : RefR s (i + o) attr (.tuple #[.string t, .int .i64 (m : Int)])) (h4 : s[m - 1]? = some 59) (h5 : Whl s attr m b) : Whl s attr i b
theorem begR_amp {s : List UInt8} {i o : Nat} (h : (s.drop i)[o]? = some 38) : begR (s.drop (i + o)) [38] = true := by
  rw [List.getElem?_drop] at h
  obtain ⟨hl, he⟩ := List.getElem?_eq_some_iff.1 h
  rw [List.drop_eq_getElem_cons hl, he]
  simp [begR, show lowB 38 = 38 by decide]
theorem bytes_at {s : List UInt8} {m : Nat} (h1 : 1 ≤ m) (h2 : m ≤ s.length) : s[m - 1]? = some (s[m - 1]'(by omega)) := List.getElem?_eq_getElem (by omega)
set_option maxRecDepth 100000 in
set_option maxHeartbeats 8000000 in
theorem whole_c (s : List UInt8) (attr : Bool) (hs : s.length ≤ 100000) (w : World) (hGl : Glob w) (hGE : GlobE w) :
    Calls Tryz.prog 19 #[.string (B s), .bool attr] w fun e w' => (∃ b, Whl s attr 0 b ∧ e = .returned (.bool b)) ∧ Below w.heap.size w w' := by
  have HG := Lib.hid hGl
  have HE := Lib.hid hGE
  have RD := Lib.hid (fun n (hn : n ≤ s.length) W hG hE => read_c s n attr hs hn W hG hE)
  obtain ⟨a, ha⟩ : ∃ a, B s = a := ⟨_, rfl⟩
  have hsz : a.size = s.length := by rw [← ha]; simp
  have hx : ∀ i, (a.extract i a.size).data.toList = s.drop i := fun i => by rw [← ha, size_B, B_extract, List.take_length, B_data]
  have hb : ∀ i (h : i < a.size), s[i]? = some a[i] := fun i h => by
    subst ha
    rw [List.getElem?_eq_getElem (by simpa using h)]; rfl
  rw [ha] at RD ⊢
  have HX := Lib.hid hx
  have HBY := Lib.hid hb
  have HSZ := Lib.hid hsz
  have hza : a.size ≤ 100000 := by omega
  clear hs hGl hGE ha hsz hx hb
  go_enter Tryz.func19, Tryz.ntmps19
  go_wp2_with fail
  go_loopw [5] (fun v wx => ∃ i : Nat, v = .int .i64 (i : Int) ∧ i ≤ a.size ∧ Hid (Below w.heap.size w wx) ∧ Hid (∀ b, Whl s attr i b → Whl s attr 0 b)) (fun v _ => a.size - (intOf v).toNat)
  case atStart => exact ⟨0, rfl, Nat.zero_le _, Lib.hid (Below.refl _ _), Lib.hid (fun _ h => h)⟩
  case round =>
    obtain ⟨i, rfl, hi, HW, HR⟩ := hrel
    have I := fun W => Tryz.strings_IndexByte (a.extract i a.size) 38 W
    rw [HX.out i] at I
    rcases Int.lt_or_le (Lib.indexByte (s.drop i) 38) 0 with h | h
    · have h1 : Lib.indexByte (s.drop i) 38 = -1 := by have := Lib.indexByte_ge (s.drop i) 38; omega
      have I2 : Hid (∀ W, Calls Tryz.prog 31 #[.string (a.extract i a.size), .int .u8 38] W fun e w' => e = .returned (.int .i64 (-1)) ∧ w' = W) := Lib.hid (fun W => by rw [← h1]; exact I W)
      have HN := Lib.hid (HR.out true (Whl.stop i (fun k => Lib.indexByte_none h1 k)))
      clear I h h1
      go_wp2_with fail
      refine (I2.out _).mono ?_
      rintro e w1 ⟨rfl, rfl⟩
      go_wp2_with fail
      go_ret
      exact ⟨⟨true, HN.out, rfl⟩, HW.out⟩
    · obtain ⟨o, ho⟩ : ∃ o : Nat, Lib.indexByte (s.drop i) 38 = o := ⟨_, (Int.toNat_of_nonneg h).symm⟩
      have I2 : Hid (∀ W, Calls Tryz.prog 31 #[.string (a.extract i a.size), .int .u8 38] W fun e w' => e = .returned (.int .i64 (o : Int)) ∧ w' = W) := Lib.hid (fun W => by rw [← ho]; exact I W)
      obtain ⟨h1, h2⟩ := Lib.indexByte_some ho
      have hba := begR_amp h1
      have hio : i + o < a.size := by
        obtain ⟨hl, _⟩ := List.getElem?_eq_some_iff.1 h1
        rw [List.length_drop] at hl
        have := HSZ.out
        omega
      have H1 := Lib.hid h1
      have H2 := Lib.hid h2
      have RI := fun W hG hE => RD.out (i + o) (by have := HSZ.out; omega) W hG hE
      have HRI := Lib.hid RI
      have HBA := Lib.hid hba
      clear I h ho h1 h2 hba RI
      go_wp2_with fail
      refine (I2.out _).mono ?_
      rintro e w1 ⟨rfl, rfl⟩
      go_wp2_with fail
      refine (HRI.out _ (HG.out.step HW.out) (HE.out.step HW.out)).mono ?_
      rintro e w2 ⟨⟨v, hv, rfl⟩, hb⟩
      have HW2 := Lib.hid (HW.out.trans (hb.mono HW.out.size))
      obtain ⟨t, m, rfl, hm1, hm2⟩ := hv.next HBA.out
      have HV := Lib.hid hv
      have hmz : m ≤ a.size := by have := HSZ.out; omega
      have hm0 : m - 1 < a.size := by omega
      have hby := HBY.out (m - 1) hm0
      have hm3 : 0 < m := by omega
      have hmi : ((m : Int) - 1) = ((m - 1 : Nat) : Int) := by omega
      by_cases h59 : a[m - 1] = 59
      · have q1 : (((a[m - 1].toNat : Nat) : Int) != 59) = false := by rw [h59]; rfl
        have HN : Hid (∀ b, Whl s attr m b → Whl s attr 0 b) := Lib.hid (fun b h => HR.out b (Whl.go i o m t b H1.out H2.out HV.out (by rw [hby, h59]) h))
        clear hb hv hby h59 hm2
        go_wp2_with fail
        go_roundw
        case rel => exact ⟨m, rfl, hmz, HW2, HN⟩
        case measure => simp [intOf]; omega
      · have q1 : (((a[m - 1].toNat : Nat) : Int) != 59) = true := by
          rw [bne_iff_ne]
          intro e
          exact h59 (UInt8.toNat_inj.1 (show a[m - 1].toNat = 59 by omega))
        have HN := Lib.hid (HR.out false (Whl.bad i o m t H1.out H2.out HV.out (by rw [hby]; intro e; exact h59 (Option.some.inj e))))
        clear hb hv hby h59 hm2
        go_wp2_with fail
        go_ret
        exact ⟨⟨false, HN.out, rfl⟩, HW2.out⟩
end Go.Proofs.YtdheknlnhfegnaaGreatDoor.Hand

namespace Go.Proofs.YtdheknlnhfegnaaGreatDoor.Hand
open Go Go.RowKit Go.Proofs.YtdheknlnhfegnaaGreatDoor.Pl Go.Proofs.YtdheknlnhfegnaaGreatDoor.Pb

def hasB (s : List UInt8) (c : UInt8) : Bool := decide (c ∈ s)
theorem index_has (c : UInt8) : ∀ s : List UInt8, decide (0 ≤ Lib.indexByte s c) = hasB s c := by
  intro s
  unfold hasB
  rw [Bool.eq_iff_iff, decide_eq_true_eq, decide_eq_true_eq]
  constructor
  · intro h
    obtain ⟨o, ho⟩ : ∃ o : Nat, Lib.indexByte s c = o := ⟨_, (Int.toNat_of_nonneg h).symm⟩
    exact List.mem_of_getElem? (Lib.indexByte_some ho).1
  · intro h
    rcases Int.lt_or_le (Lib.indexByte s c) 0 with h' | h'
    · exfalso
      have h1 : Lib.indexByte s c = -1 := by have := Lib.indexByte_ge s c; omega
      obtain ⟨k, hk, he⟩ := List.getElem_of_mem h
      exact Lib.indexByte_none h1 k (by rw [List.getElem?_eq_getElem hk, he])
    · exact h'
/-- is a text just text in a state? -/
def SafeR (s : List UInt8) (st : Int) (b : Bool) : Prop :=
  if hasB s 13 = true then b = false
  else if st = 0 ∨ st = 1 then ∃ x, Whl s false 0 x ∧ b = (x && !hasB s 60)
  else if st = 2 ∨ st = 3 then b = !hasB s 60
  else if st = 4 then b = true
  else if st = 6 then (hasB s 39 = true ∧ b = false) ∨ (hasB s 39 = false ∧ Whl s true 0 b)
  else if st = 5 then (hasB s 34 = true ∧ b = false) ∨ (hasB s 34 = false ∧ Whl s true 0 b)
  else b = false
def SafeP (s : List UInt8) (st : Int) (e : Ending) : Prop := ∃ b, SafeR s st b ∧ e = .returned (.bool b)
theorem norm_has (s : List UInt8) : (normL s == s) = !hasB s 13 := by
  unfold hasB
  by_cases h : 13 ∈ s
  · rw [decide_eq_true h, beq_eq_false_iff_ne.2]; rfl
    intro e
    have := normL_no13 s
    rw [e] at this
    exact this h
  · rw [decide_eq_false h, normL_of_no13 h]; simp
set_option maxRecDepth 100000 in
set_option maxHeartbeats 8000000 in
theorem safe_c (s : List UInt8) (st : Int) (hs : s.length ≤ 100000) (w : World) (hGl : Glob w) (hGE : GlobE w) :
    Calls Tryz.prog 7 #[.int .i64 st, .string (B s)] w fun e w' => SafeP s st e ∧ Below w.heap.size w w' := by
  have HG := Lib.hid hGl
  have HE := Lib.hid hGE
  have HWH := Lib.hid (fun attr W hG hE => whole_c s attr hs W hG hE)
  have HC := Lib.hid (fun (c : UInt8) W => (by have := Tryz.strings_Contains_one (B s) c W; rw [B_data, index_has] at this; exact this : Calls Tryz.prog 21 #[.string (B s), .string ⟨#[c]⟩] W fun e w' => e = .returned (.bool (hasB s c)) ∧ w' = W))
  have NM : ∀ W, Calls Tryz.prog 20 #[.string (B s)] W fun e w' => e = .returned (.string (B (normL s))) ∧ Below W.heap.size W w' := fun W => by
    have := norm_any (B s) W (by rw [size_B]; omega)
    rw [B_data] at this
    exact this
  have e1 : ((B (normL s)).toList == (B s).toList) = !hasB s 13 := by rw [toList_B, toList_B]; exact norm_has s
  have HN := Lib.hid NM
  obtain ⟨a, ha⟩ : ∃ a, B s = a := ⟨_, rfl⟩
  obtain ⟨nm, hnm⟩ : ∃ a, B (normL s) = a := ⟨_, rfl⟩
  rw [ha] at HWH HC HN e1 ⊢
  rw [hnm] at HN e1
  have e2 : (nm.toList != a.toList) = hasB s 13 := by rw [bne, e1]; simp
  obtain ⟨h13, hh13⟩ : ∃ b, hasB s 13 = b := ⟨_, rfl⟩
  obtain ⟨h60, hh60⟩ : ∃ b, hasB s 60 = b := ⟨_, rfl⟩
  obtain ⟨h39, hh39⟩ : ∃ b, hasB s 39 = b := ⟨_, rfl⟩
  obtain ⟨h34, hh34⟩ : ∃ b, hasB s 34 = b := ⟨_, rfl⟩
  have C60 : Hid (∀ W, Calls Tryz.prog 21 #[.string a, .string ⟨#[60]⟩] W fun e w' => e = .returned (.bool h60) ∧ w' = W) := Lib.hid (fun W => by rw [← hh60]; exact HC.out 60 W)
  have C39 : Hid (∀ W, Calls Tryz.prog 21 #[.string a, .string ⟨#[39]⟩] W fun e w' => e = .returned (.bool h39) ∧ w' = W) := Lib.hid (fun W => by rw [← hh39]; exact HC.out 39 W)
  have C34 : Hid (∀ W, Calls Tryz.prog 21 #[.string a, .string ⟨#[34]⟩] W fun e w' => e = .returned (.bool h34) ∧ w' = W) := Lib.hid (fun W => by rw [← hh34]; exact HC.out 34 W)
  rw [hh13] at e1 e2
  have K13 := Lib.hid hh13
  have K60 := Lib.hid hh60
  have K39 := Lib.hid hh39
  have K34 := Lib.hid hh34
  clear NM ha hnm hh13 hh60 hh39 hh34 hGl hGE hs HC
  cases h13 with
  | true =>
    go_enter Tryz.func7, Tryz.ntmps7
    go_wp2_with fail
    refine (HN.out _).mono ?_
    rintro e w1 ⟨rfl, hb⟩
    have HW := Lib.hid hb
    clear hb
    go_wp2_with fail
    go_ret
    exact ⟨⟨false, by unfold SafeR; rw [K13.out, if_pos rfl], rfl⟩, HW.out⟩
  | false =>
    rw [Bool.not_false] at e1
    by_cases s01 : st = 0 ∨ st = 1
    · rcases s01 with rfl | rfl
      · go_enter Tryz.func7, Tryz.ntmps7
        go_wp2_with fail
        refine (HN.out _).mono ?_
        rintro e w1 ⟨rfl, hb⟩
        have HW := Lib.hid hb
        clear hb
        go_wp2_with fail
        refine (HWH.out false _ (HG.out.step HW.out) (HE.out.step HW.out)).mono ?_
        rintro e w2 ⟨⟨x, hx, rfl⟩, hb⟩
        replace HW := Lib.hid (HW.out.trans (hb.mono HW.out.size))
        have HX := Lib.hid hx
        clear hb hx
        cases x with
        | false =>
          go_wp2_with fail
          go_ret
          exact ⟨⟨false, by unfold SafeR; rw [K13.out, if_neg (by decide), if_pos (by decide)]; exact ⟨false, HX.out, rfl⟩, rfl⟩, HW.out⟩
        | true =>
          go_wp2_with fail
          refine (C60.out _).mono ?_
          rintro e w3 ⟨rfl, rfl⟩
          go_wp2_with fail
          go_ret
          exact ⟨⟨_, by unfold SafeR; rw [K13.out, if_neg (by decide), if_pos (by decide)]; exact ⟨true, HX.out, by rw [K60.out]; rfl⟩, rfl⟩, HW.out⟩
      · go_enter Tryz.func7, Tryz.ntmps7
        go_wp2_with fail
        refine (HN.out _).mono ?_
        rintro e w1 ⟨rfl, hb⟩
        have HW := Lib.hid hb
        clear hb
        go_wp2_with fail
        refine (HWH.out false _ (HG.out.step HW.out) (HE.out.step HW.out)).mono ?_
        rintro e w2 ⟨⟨x, hx, rfl⟩, hb⟩
        replace HW := Lib.hid (HW.out.trans (hb.mono HW.out.size))
        have HX := Lib.hid hx
        clear hb hx
        cases x with
        | false =>
          go_wp2_with fail
          go_ret
          exact ⟨⟨false, by unfold SafeR; rw [K13.out, if_neg (by decide), if_pos (by decide)]; exact ⟨false, HX.out, rfl⟩, rfl⟩, HW.out⟩
        | true =>
          go_wp2_with fail
          refine (C60.out _).mono ?_
          rintro e w3 ⟨rfl, rfl⟩
          go_wp2_with fail
          go_ret
          exact ⟨⟨_, by unfold SafeR; rw [K13.out, if_neg (by decide), if_pos (by decide)]; exact ⟨true, HX.out, by rw [K60.out]; rfl⟩, rfl⟩, HW.out⟩
    by_cases s23 : st = 2 ∨ st = 3
    · rcases s23 with rfl | rfl
      · go_enter Tryz.func7, Tryz.ntmps7
        go_wp2_with fail
        refine (HN.out _).mono ?_
        rintro e w1 ⟨rfl, hb⟩
        have HW := Lib.hid hb
        clear hb
        go_wp2_with fail
        refine (C60.out _).mono ?_
        rintro e w3 ⟨rfl, rfl⟩
        go_wp2_with fail
        go_ret
        exact ⟨⟨_, by unfold SafeR; rw [K13.out, if_neg (by decide), if_neg (by decide), if_pos (by decide), K60.out], rfl⟩, HW.out⟩
      · go_enter Tryz.func7, Tryz.ntmps7
        go_wp2_with fail
        refine (HN.out _).mono ?_
        rintro e w1 ⟨rfl, hb⟩
        have HW := Lib.hid hb
        clear hb
        go_wp2_with fail
        refine (C60.out _).mono ?_
        rintro e w3 ⟨rfl, rfl⟩
        go_wp2_with fail
        go_ret
        exact ⟨⟨_, by unfold SafeR; rw [K13.out, if_neg (by decide), if_neg (by decide), if_pos (by decide), K60.out], rfl⟩, HW.out⟩
    by_cases s4 : st = 4
    · subst s4
      go_enter Tryz.func7, Tryz.ntmps7
      go_wp2_with fail
      refine (HN.out _).mono ?_
      rintro e w1 ⟨rfl, hb⟩
      have HW := Lib.hid hb
      clear hb
      go_wp2_with fail
      go_ret
      exact ⟨⟨true, by unfold SafeR; rw [K13.out, if_neg (by decide), if_neg (by decide), if_neg (by decide), if_pos rfl], rfl⟩, HW.out⟩
    by_cases s6 : st = 6
    · subst s6
      go_enter Tryz.func7, Tryz.ntmps7
      go_wp2_with fail
      refine (HN.out _).mono ?_
      rintro e w1 ⟨rfl, hb⟩
      have HW := Lib.hid hb
      clear hb
      go_wp2_with fail
      refine (C39.out _).mono ?_
      rintro e w3 ⟨rfl, rfl⟩
      cases h39 with
      | true =>
        go_wp2_with fail
        go_ret
        exact ⟨⟨false, by unfold SafeR; rw [K13.out, if_neg (by decide), if_neg (by decide), if_neg (by decide), if_neg (by decide), if_pos rfl]; exact .inl ⟨K39.out, rfl⟩, rfl⟩, HW.out⟩
      | false =>
        go_wp2_with fail
        refine (HWH.out true _ (HG.out.step HW.out) (HE.out.step HW.out)).mono ?_
        rintro e w4 ⟨⟨x, hx, rfl⟩, hb⟩
        replace HW := Lib.hid (HW.out.trans (hb.mono HW.out.size))
        have HX := Lib.hid hx
        clear hb hx
        go_wp2_with fail
        go_ret
        exact ⟨⟨x, by unfold SafeR; rw [K13.out, if_neg (by decide), if_neg (by decide), if_neg (by decide), if_neg (by decide), if_pos rfl]; exact .inr ⟨K39.out, HX.out⟩, rfl⟩, HW.out⟩
    by_cases s5 : st = 5
    · subst s5
      go_enter Tryz.func7, Tryz.ntmps7
      go_wp2_with fail
      refine (HN.out _).mono ?_
      rintro e w1 ⟨rfl, hb⟩
      have HW := Lib.hid hb
      clear hb
      go_wp2_with fail
      refine (C34.out _).mono ?_
      rintro e w3 ⟨rfl, rfl⟩
      cases h34 with
      | true =>
        go_wp2_with fail
        go_ret
        exact ⟨⟨false, by unfold SafeR; rw [K13.out, if_neg (by decide), if_neg (by decide), if_neg (by decide), if_neg (by decide), if_neg (by decide), if_pos rfl]; exact .inl ⟨K34.out, rfl⟩, rfl⟩, HW.out⟩
      | false =>
        go_wp2_with fail
        refine (HWH.out true _ (HG.out.step HW.out) (HE.out.step HW.out)).mono ?_
        rintro e w4 ⟨⟨x, hx, rfl⟩, hb⟩
        replace HW := Lib.hid (HW.out.trans (hb.mono HW.out.size))
        have HX := Lib.hid hx
        clear hb hx
        go_wp2_with fail
        go_ret
        exact ⟨⟨x, by unfold SafeR; rw [K13.out, if_neg (by decide), if_neg (by decide), if_neg (by decide), if_neg (by decide), if_neg (by decide), if_pos rfl]; exact .inr ⟨K34.out, HX.out⟩, rfl⟩, HW.out⟩
    have q0 : (st == 0) = false := by rw [beq_eq_false_iff_ne]; omega
    have q1 : (st == 1) = false := by rw [beq_eq_false_iff_ne]; omega
    have q2 : (st == 2) = false := by rw [beq_eq_false_iff_ne]; omega
    have q3 : (st == 3) = false := by rw [beq_eq_false_iff_ne]; omega
    have q4 : (st == 4) = false := by rw [beq_eq_false_iff_ne]; omega
    have q5 : (st == 5) = false := by rw [beq_eq_false_iff_ne]; omega
    have q6 : (st == 6) = false := by rw [beq_eq_false_iff_ne]; omega
    go_enter Tryz.func7, Tryz.ntmps7
    go_wp2_with fail
    refine (HN.out _).mono ?_
    rintro e w1 ⟨rfl, hb⟩
    have HW := Lib.hid hb
    clear hb
    go_wp2_with fail
    go_ret
    exact ⟨⟨false, by unfold SafeR; rw [K13.out, if_neg (by decide), if_neg s01, if_neg s23, if_neg s4, if_neg s6, if_neg s5], rfl⟩, HW.out⟩
end Go.Proofs.YtdheknlnhfegnaaGreatDoor.Hand

namespace Go.Proofs.YtdheknlnhfegnaaGreatDoor.Hand
open Go Go.RowKit Go.Proofs.YtdheknlnhfegnaaGreatDoor.Pl Go.Proofs.YtdheknlnhfegnaaGreatDoor.Pb

/-- is it just text in each of the seven states? -/
def EvP (s : List UInt8) (e : Ending) : Prop :=
  (e = .returned (.bool true) ∧ ∀ k : Nat, k < 7 → SafeR s (k : Int) true) ∨ (e = .returned (.bool false) ∧ ∃ k : Nat, k < 7 ∧ SafeR s (k : Int) false)
set_option maxRecDepth 100000 in
set_option maxHeartbeats 4000000 in
theorem every_c (s : List UInt8) (hs : s.length ≤ 100000) (w : World) (hGl : Glob w) (hGE : GlobE w) :
    Calls Tryz.prog 18 #[.string (B s)] w fun e w' => EvP s e ∧ Below w.heap.size w w' := by
  have HG := Lib.hid hGl
  have HE := Lib.hid hGE
  have HS := Lib.hid (fun (k : Nat) W hG hE => safe_c s (k : Int) hs W hG hE)
  obtain ⟨a, ha⟩ : ∃ a, B s = a := ⟨_, rfl⟩
  rw [ha] at HS ⊢
  clear ha hs hGl hGE
  go_enter Tryz.func18, Tryz.ntmps18
  go_wp2_with fail
  go_loopw [4] (fun v wx => ∃ k : Nat, v = .int .i64 (k : Int) ∧ k ≤ 7 ∧ Hid (Below w.heap.size w wx) ∧ Hid (∀ j : Nat, j < k → SafeR s (j : Int) true)) (fun v _ => 7 - (intOf v).toNat)
  case atStart => exact ⟨0, rfl, by decide, Lib.hid (Below.refl _ _), Lib.hid (fun j h => by omega)⟩
  case round =>
    obtain ⟨k, rfl, hk, HW, HD⟩ := hrel
    by_cases hlt : k < 7
    · have q1 : decide ((k : Int) < 7) = true := decide_eq_true (by omega)
      go_wp2_with fail
      refine (HS.out k _ (HG.out.step HW.out) (HE.out.step HW.out)).mono ?_
      rintro e w1 ⟨⟨b, hb, rfl⟩, hbl⟩
      have HW2 := Lib.hid (HW.out.trans (hbl.mono HW.out.size))
      cases b with
      | true =>
        have HN : Hid (∀ j : Nat, j < k + 1 → SafeR s (j : Int) true) := Lib.hid (fun j h => by
          by_cases e : j = k
          · subst e; exact hb
          · exact HD.out j (by omega))
        clear hb hbl
        go_wp2_with fail
        go_roundw
        case rel => exact ⟨k + 1, by go_num, by omega, HW2, HN⟩
        case measure => simp [intOf]; omega
      | false =>
        have HN := Lib.hid hb
        clear hb hbl
        go_wp2_with fail
        go_ret
        exact ⟨.inr ⟨rfl, k, hlt, HN.out⟩, HW2.out⟩
    · obtain rfl : k = 7 := by omega
      go_wp2_with fail
      go_ret
      exact ⟨.inl ⟨rfl, HD.out⟩, HW.out⟩
end Go.Proofs.YtdheknlnhfegnaaGreatDoor.Hand

namespace Go.Proofs.YtdheknlnhfegnaaGreatDoor.Hand
open Go Go.RowKit Go.Proofs.YtdheknlnhfegnaaGreatDoor.Pl Go.Proofs.YtdheknlnhfegnaaGreatDoor.Pb

theorem ref_uniq {s : List UInt8} {n : Nat} {attr : Bool} {v v' : Value} (h : RefR s n attr v) (h' : RefR s n attr v') : v = v' := by
  cases h with
  | no h =>
    cases h' with
    | no => rfl
    | num g => rw [h] at g; cases g
    | left g => rw [h] at g; cases g
    | name g => rw [h] at g; cases g
  | num h m k h2 =>
    cases h' with
    | no g => rw [h] at g; cases g
    | num g m' k' g2 =>
      rw [h2] at g2
      cases g2
      rfl
    | left g g2 => rw [h2] at g2; cases g2
    | name g g2 => rw [h2] at g2; cases g2
  | left h h2 k h3 h4 =>
    cases h' with
    | no g => rw [h] at g; cases g
    | num g m k g2 => rw [h2] at g2; cases g2
    | left g g2 k' g3 g4 => rw [h3.uniq g3]
    | name g g2 k' g3 g4 g5 rest g6 =>
      obtain rfl := h3.uniq g3
      rcases h4 with h4 | h4
      · exact absurd h4 g4
      · rw [g5] at h4; cases h4
  | name h h2 k h3 h4 h5 rest h6 =>
    cases h' with
    | no g => rw [h] at g; cases g
    | num g m k g2 => rw [h2] at g2; cases g2
    | left g g2 k' g3 g4 =>
      obtain rfl := h3.uniq g3
      rcases g4 with g4 | g4
      · exact absurd g4 h4
      · rw [h5] at g4; cases g4
    | name g g2 k' g3 g4 g5 rest' g6 =>
      obtain rfl := h3.uniq g3
      have := fnd_uniq names_tab h6 g6
      cases this
      rfl
theorem first_uniq {l : List UInt8} {o o' : Nat} (h1 : l[o]? = some 38) (h2 : ∀ k, k < o → l[k]? ≠ some 38) (g1 : l[o']? = some 38) (g2 : ∀ k, k < o' → l[k]? ≠ some 38) : o = o' := by
  rcases Nat.lt_trichotomy o o' with h | h | h
  · exact absurd h1 (g2 o h)
  · exact h
  · exact absurd g1 (h2 o' h)
theorem next_uniq {s : List UInt8} {n : Nat} {attr : Bool} {t t' : ByteArray} {m m' : Nat} (h : RefR s n attr (.tuple #[.string t, .int .i64 (m : Int)])) (h' : RefR s n attr (.tuple #[.string t', .int .i64 (m' : Int)])) : m = m' := by
  have e := ref_uniq h h'
  simp only [Value.tuple.injEq, Array.mk.injEq, List.cons.injEq, Value.int.injEq] at e
  omega
theorem whl_uniq {s : List UInt8} {attr : Bool} {i : Nat} {b : Bool} (h : Whl s attr i b) : ∀ b', Whl s attr i b' → b = b' := by
  induction h with
  | stop i h =>
    intro b' h'
    cases h' with
    | stop => rfl
    | bad _ o m t g1 => exact absurd g1 (h o)
    | go _ o m t b g1 => exact absurd g1 (h o)
  | bad i o m t h1 h2 h3 h4 =>
    intro b' h'
    cases h' with
    | stop _ g => exact absurd h1 (g o)
    | bad => rfl
    | go _ o' m' t' b g1 g2 g3 g4 g5 =>
      obtain rfl := first_uniq h1 h2 g1 g2
      obtain rfl := next_uniq h3 g3
      exact absurd g4 h4
  | go i o m t b h1 h2 h3 h4 h5 ih =>
    intro b' h'
    cases h' with
    | stop _ g => exact absurd h1 (g o)
    | bad _ o' m' t' g1 g2 g3 g4 =>
      obtain rfl := first_uniq h1 h2 g1 g2
      obtain rfl := next_uniq h3 g3
      exact absurd h4 g4
    | go _ o' m' t' b' g1 g2 g3 g4 g5 =>
      obtain rfl := first_uniq h1 h2 g1 g2
      obtain rfl := next_uniq h3 g3
      exact ih _ g5
theorem safe_uniq {s : List UInt8} {st : Int} {b b' : Bool} (h : SafeR s st b) (h' : SafeR s st b') : b = b' := by
  unfold SafeR at h h'
  split at h
  · rename_i g; rw [if_pos g] at h'; rw [h, h']
  · rename_i g; rw [if_neg g] at h'
    split at h
    · rename_i g; rw [if_pos g] at h'
      obtain ⟨x, hx, rfl⟩ := h
      obtain ⟨y, hy, rfl⟩ := h'
      rw [whl_uniq hx y hy]
    · rename_i g; rw [if_neg g] at h'
      split at h
      · rename_i g; rw [if_pos g] at h'; rw [h, h']
      · rename_i g; rw [if_neg g] at h'
        split at h
        · rename_i g; rw [if_pos g] at h'; rw [h, h']
        · rename_i g; rw [if_neg g] at h'
          split at h
          · rename_i g; rw [if_pos g] at h'
            rcases h with ⟨a1, a2⟩ | ⟨a1, a2⟩
            · rcases h' with ⟨b1, b2⟩ | ⟨b1, b2⟩
              · rw [a2, b2]
              · rw [a1] at b1; cases b1
            · rcases h' with ⟨b1, b2⟩ | ⟨b1, b2⟩
              · rw [a1] at b1; cases b1
              · exact whl_uniq a2 _ b2
          · rename_i g; rw [if_neg g] at h'
            split at h
            · rename_i g; rw [if_pos g] at h'
              rcases h with ⟨a1, a2⟩ | ⟨a1, a2⟩
              · rcases h' with ⟨b1, b2⟩ | ⟨b1, b2⟩
                · rw [a2, b2]
                · rw [a1] at b1; cases b1
              · rcases h' with ⟨b1, b2⟩ | ⟨b1, b2⟩
                · rw [a1] at b1; cases b1
                · exact whl_uniq a2 _ b2
            · rename_i g; rw [if_neg g] at h'; rw [h, h']
end Go.Proofs.YtdheknlnhfegnaaGreatDoor.Hand

namespace Go.Proofs.YtdheknlnhfegnaaGreatDoor.Hand
open Go Go.RowKit Go.Proofs.YtdheknlnhfegnaaGreatDoor.Pl Go.Proofs.YtdheknlnhfegnaaGreatDoor.Pb

/-! ### do all end? -/
noncomputable def whF (attr : Bool) : Nat → List UInt8 → Bool
  | 0, _ => true
  | _ + 1, [] => true
  | f + 1, c :: r => if c = 38 then ((c :: r)[(refN attr (c :: r)).2 - 1]? == some 59) && whF attr f ((c :: r).drop (refN attr (c :: r)).2) else whF attr f r
theorem whF_more (attr : Bool) (f : Nat) : ∀ l f', l.length ≤ f → l.length ≤ f' → whF attr f l = whF attr f' l := by
  induction f with
  | zero =>
    intro l f' h h'
    obtain rfl := List.eq_nil_of_length_eq_zero (Nat.le_zero.1 h)
    cases f' <;> rfl
  | succ f ih =>
    intro l f' h h'
    cases l with
    | nil => cases f' <;> rfl
    | cons c r =>
      cases f' with
      | zero => simp at h'
      | succ f' =>
        have hb := refN_bd attr c r
        simp only [List.length_cons] at h h' hb
        simp only [whF]
        split
        · rw [ih _ f' (by rw [List.length_drop, List.length_cons]; omega) (by rw [List.length_drop, List.length_cons]; omega)]
        · rw [ih r f' (by omega) (by omega)]
noncomputable def whL (attr : Bool) (l : List UInt8) : Bool := whF attr l.length l
theorem whL_nil (attr : Bool) : whL attr [] = true := rfl
theorem whL_ne {c : UInt8} (attr : Bool) (r : List UInt8) (h : c ≠ 38) : whL attr (c :: r) = whL attr r := by
  unfold whL; simp only [List.length_cons, whF, if_neg h]
theorem whL_amp (attr : Bool) (r : List UInt8) : whL attr (38 :: r) = (((38 :: r)[(refN attr (38 :: r)).2 - 1]? == some 59) && whL attr ((38 :: r).drop (refN attr (38 :: r)).2)) := by
  have hb := refN_bd attr 38 r
  simp only [List.length_cons] at hb
  unfold whL
  rw [List.length_cons, whF, if_pos rfl, whF_more attr r.length _ _ (by rw [List.length_drop, List.length_cons]; omega) (Nat.le_refl _)]
theorem whL_app {p : List UInt8} (attr : Bool) (r : List UInt8) (h : (38 : UInt8) ∉ p) : whL attr (p ++ r) = whL attr r := by
  induction p with
  | nil => rfl
  | cons c p ih =>
    rw [List.cons_append, whL_ne attr _ (fun e => h (by rw [e]; simp)), ih (fun e => h (by simp [e]))]
theorem no38_take {l : List UInt8} {o : Nat} (h : ∀ k, k < o → l[k]? ≠ some 38) : (38 : UInt8) ∉ l.take o := by
  intro hm
  obtain ⟨k, hk, e⟩ := List.getElem_of_mem hm
  rw [List.length_take] at hk
  rw [List.getElem_take] at e
  exact h k (by omega) (by rw [List.getElem?_eq_getElem (by omega), e])
theorem split_at {s : List UInt8} {i o : Nat} (h1 : (s.drop i)[o]? = some 38) : s.drop i = (s.drop i).take o ++ 38 :: s.drop (i + o + 1) ∧ s.drop (i + o) = 38 :: s.drop (i + o + 1) := by
  rw [List.getElem?_drop] at h1
  obtain ⟨hl, he⟩ := List.getElem?_eq_some_iff.1 h1
  have hd : s.drop (i + o) = 38 :: s.drop (i + o + 1) := by rw [List.drop_eq_getElem_cons hl, he]
  refine ⟨?_, hd⟩
  rw [← hd, ← List.drop_drop, List.take_append_drop]
theorem refR_next {s : List UInt8} {n m : Nat} {attr : Bool} {t : ByteArray} (h : RefR s n attr (.tuple #[.string t, .int .i64 (m : Int)])) (hb : begR (s.drop n) [38] = true) : m = n + (refN attr (s.drop n)).2 ∧ t = B (refN attr (s.drop n)).1 := by
  have e := refR_refN h hb
  simp only [Value.tuple.injEq, Array.mk.injEq, List.cons.injEq, Value.int.injEq, Value.string.injEq] at e
  exact ⟨by omega, e.1⟩
theorem whl_fun {s : List UInt8} {attr : Bool} {i : Nat} {b : Bool} (h : Whl s attr i b) : b = whL attr (s.drop i) := by
  induction h with
  | stop i h =>
    have : (38 : UInt8) ∉ s.drop i := by
      intro hm
      obtain ⟨k, hk, e⟩ := List.getElem_of_mem hm
      exact h k (by rw [List.getElem?_eq_getElem hk, e])
    have e := whL_app attr [] this
    rw [List.append_nil, whL_nil] at e
    exact e.symm
  | bad i o m t h1 h2 h3 h4 =>
    obtain ⟨e1, e2⟩ := split_at h1
    obtain ⟨e3, _⟩ := refR_next h3 (begR_amp h1)
    have hb := refN_bd attr 38 (s.drop (i + o + 1))
    rw [e1, whL_app attr _ (no38_take h2), whL_amp, ← e2]
    rw [← e2] at hb
    have : (s.drop (i + o))[(refN attr (s.drop (i + o))).2 - 1]? = s[m - 1]? := by rw [List.getElem?_drop, e3]; congr 1; omega
    rw [this, show (s[m - 1]? == some 59) = false by rw [beq_eq_false_iff_ne]; exact h4]; rfl
  | go i o m t b h1 h2 h3 h4 h5 ih =>
    obtain ⟨e1, e2⟩ := split_at h1
    obtain ⟨e3, _⟩ := refR_next h3 (begR_amp h1)
    have hb := refN_bd attr 38 (s.drop (i + o + 1))
    rw [e1, whL_app attr _ (no38_take h2), whL_amp, ← e2]
    rw [← e2] at hb
    have : (s.drop (i + o))[(refN attr (s.drop (i + o))).2 - 1]? = s[m - 1]? := by rw [List.getElem?_drop, e3]; congr 1; omega
    rw [this, h4, ih, List.drop_drop, ← e3]; rfl
theorem wholeN_c (s : List UInt8) (attr : Bool) (hs : s.length ≤ 100000) (w : World) (hGl : Glob w) (hGE : GlobE w) :
    Calls Tryz.prog 19 #[.string (B s), .bool attr] w fun e w' => e = .returned (.bool (whL attr s)) ∧ Below w.heap.size w w' :=
  (whole_c s attr hs w hGl hGE).mono fun e w' h => by
    obtain ⟨⟨v, hv, he⟩, hb2⟩ := h
    exact ⟨by rw [he, whl_fun hv, List.drop_zero], hb2⟩
end Go.Proofs.YtdheknlnhfegnaaGreatDoor.Hand

namespace Go.Proofs.YtdheknlnhfegnaaGreatDoor.Hand
open Go Go.RowKit Go.Proofs.YtdheknlnhfegnaaGreatDoor.Pl Go.Proofs.YtdheknlnhfegnaaGreatDoor.Pb

/-- is a text just text in a state? -/
noncomputable def safL (st : Int) (s : List UInt8) : Bool :=
  !hasB s 13 && (if st = 0 ∨ st = 1 then !hasB s 60 && whL false s else if st = 2 ∨ st = 3 then !hasB s 60 else if st = 4 then true else if st = 5 then !hasB s 34 && whL true s else if st = 6 then !hasB s 39 && whL true s else false)
theorem saf_fun {s : List UInt8} {st : Int} {b : Bool} (h : SafeR s st b) : b = safL st s := by
  unfold SafeR at h
  unfold safL
  split at h
  · rename_i g; rw [h, g]; rfl
  · rename_i g
    rw [Bool.not_eq_true] at g
    rw [g, Bool.not_false, Bool.true_and]
    split at h
    · rename_i g1; rw [if_pos g1]
      obtain ⟨x, hx, rfl⟩ := h
      rw [whl_fun hx, List.drop_zero, Bool.and_comm]
    · rename_i g1; rw [if_neg g1]
      split at h
      · rename_i g2; rw [if_pos g2]; exact h
      · rename_i g2; rw [if_neg g2]
        split at h
        · rename_i g3; rw [if_pos g3]; exact h
        · rename_i g3; rw [if_neg g3]
          split at h
          · rename_i g6
            rw [if_neg (by omega), if_pos g6]
            rcases h with ⟨a1, a2⟩ | ⟨a1, a2⟩
            · rw [a2, a1]; rfl
            · rw [whl_fun a2, a1, List.drop_zero]; rfl
          · rename_i g6
            split at h
            · rename_i g5; rw [if_pos g5]
              rcases h with ⟨a1, a2⟩ | ⟨a1, a2⟩
              · rw [a2, a1]; rfl
              · rw [whl_fun a2, a1, List.drop_zero]; rfl
            · rename_i g5; rw [if_neg g5, if_neg g6]; exact h
theorem safeN_c (s : List UInt8) (st : Int) (hs : s.length ≤ 100000) (w : World) (hGl : Glob w) (hGE : GlobE w) :
    Calls Tryz.prog 7 #[.int .i64 st, .string (B s)] w fun e w' => e = .returned (.bool (safL st s)) ∧ Below w.heap.size w w' :=
  (safe_c s st hs w hGl hGE).mono fun e w' h => by
    obtain ⟨⟨b, hb, he⟩, h2⟩ := h
    exact ⟨by rw [he, saf_fun hb], h2⟩
/-- .. in each of the seven states -/
noncomputable def everL (s : List UInt8) : Bool := safL 0 s && (safL 1 s && (safL 2 s && (safL 3 s && (safL 4 s && (safL 5 s && safL 6 s)))))
theorem everN_c (s : List UInt8) (hs : s.length ≤ 100000) (w : World) (hGl : Glob w) (hGE : GlobE w) :
    Calls Tryz.prog 18 #[.string (B s)] w fun e w' => e = .returned (.bool (everL s)) ∧ Below w.heap.size w w' :=
  (every_c s hs w hGl hGE).mono fun e w' h => by
    obtain ⟨h1, h2⟩ := h
    refine ⟨?_, h2⟩
    rcases h1 with ⟨rfl, hh⟩ | ⟨rfl, k, hk, hh⟩
    · have g := fun k hk => (saf_fun (hh k hk)).symm
      have : everL s = true := by
        unfold everL
        rw [show safL 0 s = true from g 0 (by decide), show safL 1 s = true from g 1 (by decide), show safL 2 s = true from g 2 (by decide), show safL 3 s = true from g 3 (by decide), show safL 4 s = true from g 4 (by decide), show safL 5 s = true from g 5 (by decide), show safL 6 s = true from g 6 (by decide)]
        rfl
      rw [this]
    · have g := (saf_fun hh).symm
      have : everL s = false := by
        unfold everL
        match k, hk with
        | 0, _ => rw [show safL 0 s = false from g]; rfl
        | 1, _ => rw [show safL 1 s = false from g]; simp
        | 2, _ => rw [show safL 2 s = false from g]; simp
        | 3, _ => rw [show safL 3 s = false from g]; simp
        | 4, _ => rw [show safL 4 s = false from g]; simp
        | 5, _ => rw [show safL 5 s = false from g]; simp
        | 6, _ => rw [show safL 6 s = false from g]; simp
      rw [this]
end Go.Proofs.YtdheknlnhfegnaaGreatDoor.Hand

namespace Go.Proofs.YtdheknlnhfegnaaGreatDoor.Hand
open Go Go.RowKit Go.Proofs.YtdheknlnhfegnaaGreatDoor.Pl Go.Proofs.YtdheknlnhfegnaaGreatDoor.Pb

theorem whL_semi {attr : Bool} {w : List UInt8} (r : List UInt8) (hk : isKey namesL (w ++ [59])) : whL attr (38 :: (w ++ 59 :: r)) = whL attr r := by
  rw [whL_amp, refN_semi r hk]
  simp only
  rw [show w.length + 2 - 1 = w.length + 1 by omega, List.getElem?_cons_succ, List.getElem?_append_right (Nat.le_refl _), Nat.sub_self, List.drop_succ_cons, List.drop_append, List.drop_eq_nil_of_le (by omega), show w.length + 1 - w.length = 1 by omega]
  rfl
theorem whL_dec {attr : Bool} (ds r : List UInt8) (h : ∀ c ∈ ds, isDg false c = true) (h0 : ds ≠ []) {m : Nat} (hv : valL 10 ds = m) : whL attr (38 :: 35 :: (ds ++ 59 :: r)) = whL attr r := by
  rw [whL_amp, refN_dec ds r h h0 hv]
  simp only
  rw [show ds.length + 3 - 1 = (ds.length + 1) + 1 by omega, List.getElem?_cons_succ, List.getElem?_cons_succ, List.getElem?_append_right (Nat.le_refl _), Nat.sub_self, show ds.length + 3 = (ds.length + 1) + 2 by omega, List.drop_succ_cons, List.drop_succ_cons, List.drop_append, List.drop_eq_nil_of_le (by omega), show ds.length + 1 - ds.length = 1 by omega]
  rfl
theorem whL_no {attr : Bool} {p : List UInt8} (h : (38 : UInt8) ∉ p) : whL attr p = true := by
  have := whL_app attr [] h
  rwa [List.append_nil, whL_nil] at this
end Go.Proofs.YtdheknlnhfegnaaGreatDoor.Hand

namespace Go.Proofs.YtdheknlnhfegnaaGreatDoor.Hand
open Go Go.RowKit Go.Proofs.YtdheknlnhfegnaaGreatDoor.Pl Go.Proofs.YtdheknlnhfegnaaGreatDoor.Pb

theorem ever_amp : everL [97, 38, 97, 109, 112, 59] = true := by
  have hw : ∀ attr, whL attr [97, 38, 97, 109, 112, 59] = true := fun attr => by
    rw [whL_ne attr _ (by decide)]
    exact (whL_semi (w := wordAmp) [] (fnd_key fnd_amp)).trans (whL_nil _)
  unfold everL safL
  rw [hw, hw]; decide
theorem saf_amp0 : safL 0 [97, 38, 97, 109, 112] = false := by
  have hl : lngN wordAmp = 3 := lngN_eq ⟨by decide, .inr (fnd_key fnd_amp0), fun m h1 h2 _ => by have : min 32 wordAmp.length = 3 := rfl; omega⟩
  have hr : refN false (38 :: wordAmp) = ([38], 4) := by
    unfold refN
    rw [show (38 :: wordAmp).drop 1 = wordAmp from rfl, show numL wordAmp = none by decide +kernel]
    simp only [hl]
    rw [if_neg, show wordAmp.take 3 = wordAmp from rfl, nameT_amp0]
    rintro (e | e)
    · cases e
    · exact absurd e (by decide)
  have hw : whL false [97, 38, 97, 109, 112] = false := by
    rw [whL_ne false _ (by decide)]
    refine (whL_amp false wordAmp).trans ?_
    rw [hr]; rfl
  unfold safL
  rw [if_pos (.inl rfl), hw, Bool.and_false, Bool.and_false]
set_option maxRecDepth 100000 in
set_option maxHeartbeats 4000000 in
theorem awake25_any (w : World) (hGl : Glob w) (hGE : GlobE w) : Calls Tryz.prog 6 #[] w fun e w' => e = .returned (.bool true) ∧ Below w.heap.size w w' := by
  have G1 := Lib.hid (fun W hG hE => everN_c [97, 38, 97, 109, 112, 59] (by decide) W hG hE)
  have G2 := Lib.hid (fun W hG hE => safeN_c [97, 38, 97, 109, 112] 0 (by decide) W hG hE)
  have G3 := Lib.hid (fun W hG hE => safeN_c [39] 5 (by decide) W hG hE)
  have G4 := Lib.hid (fun W hG hE => safeN_c [39] 6 (by decide) W hG hE)
  have G5 := Lib.hid (fun W hG hE => wholeN_c [97] true (by decide) W hG hE)
  rw [ever_amp] at G1
  rw [saf_amp0] at G2
  rw [show safL 5 [39] = true by unfold safL; rw [whL_no (by decide)]; decide] at G3
  rw [show safL 6 [39] = false by unfold safL; decide] at G4
  rw [whL_no (by decide)] at G5
  unfold B at G1 G2 G3 G4 G5
  have HG := Lib.hid hGl
  have HE := Lib.hid hGE
  clear hGl hGE
  go_enter Tryz.func6, Tryz.ntmps6
  go_wp2_with fail
  refine (G1.out _ HG.out HE.out).mono ?_
  rintro e w1 ⟨rfl, hb⟩
  have HB := Lib.hid hb
  clear hb
  go_wp2_with fail
  refine (G2.out _ (HG.out.step HB.out) (HE.out.step HB.out)).mono ?_
  rintro e w2 ⟨rfl, hb⟩
  replace HB := Lib.hid (HB.out.trans (hb.mono HB.out.size))
  clear hb
  go_wp2_with fail
  refine (G3.out _ (HG.out.step HB.out) (HE.out.step HB.out)).mono ?_
  rintro e w3 ⟨rfl, hb⟩
  replace HB := Lib.hid (HB.out.trans (hb.mono HB.out.size))
  clear hb
  go_wp2_with fail
  refine (G4.out _ (HG.out.step HB.out) (HE.out.step HB.out)).mono ?_
  rintro e w4 ⟨rfl, hb⟩
  replace HB := Lib.hid (HB.out.trans (hb.mono HB.out.size))
  clear hb
  go_wp2_with fail
  refine (G5.out _ (HG.out.step HB.out) (HE.out.step HB.out)).mono ?_
  rintro e w5 ⟨rfl, hb⟩
  replace HB := Lib.hid (HB.out.trans (hb.mono HB.out.size))
  clear hb
  go_wp2_with fail
  go_ret
  exact ⟨rfl, HB.out⟩
end Go.Proofs.YtdheknlnhfegnaaGreatDoor.Hand

namespace Go.Proofs.YtdheknlnhfegnaaGreatDoor.Hand
open Go Go.RowKit Go.Proofs.YtdheknlnhfegnaaGreatDoor.Pl Go.Proofs.YtdheknlnhfegnaaGreatDoor.Pb

abbrev AttrT := List UInt8 × List UInt8
/-- a piece: text, a start tag, an end tag, a comment, a doctype -/
inductive Tk where
  | text (s : List UInt8)
  | start (name : List UInt8) (l : List AttrT) (self : Bool)
  | fin (name : List UInt8)
  | comment (s : List UInt8)
  | doctype (s : List UInt8)

/-! ### attributes -/
def nmC (c : UInt8) : Bool := !(isSp c || c == 47 || c == 62 || c == 61)
def vlC (c : UInt8) : Bool := !(isSp c || c == 62)
def spL (l : List UInt8) : List UInt8 := l.dropWhile isSp
noncomputable def addA (l : List AttrT) (name value : List UInt8) : List AttrT :=
  if l.any (fun a => a.1 == cleanL (lowL name)) = true then l else l ++ [(cleanL (lowL name), cleanL (rdL true value))]
/-- behind a name: its value, and what stands behind -/
def valA (r : List UInt8) : Option (List UInt8 × List UInt8) :=
  match spL r with
  | 61 :: r2 => match spL r2 with
    | [] => some ([], [])
    | c :: r3 => if c = 34 ∨ c = 39 then (if c ∈ r3 then some (upto c r3, past c r3) else none) else if c = 62 then some ([], c :: r3) else some (c :: r3.takeWhile vlC, r3.dropWhile vlC)
  | r1 => some ([], r1)
noncomputable def attrF : Nat → List AttrT → List UInt8 → Option (List AttrT × Bool × List UInt8)
  | 0, _, _ => none
  | f + 1, l, s => match spL s with
    | [] => none
    | c :: r =>
      if c = 62 then some (l, false, r)
      else if c = 47 then (match r with
        | [] => attrF f l []
        | d :: r' => if d = 62 then some (l, true, r') else attrF f l (d :: r'))
      else match valA (r.dropWhile nmC) with
        | none => none
        | some (v, r') => attrF f (addA l (c :: r.takeWhile nmC) v) r'
theorem dw_le {α : Type} (p : α → Bool) (l : List α) : (l.dropWhile p).length ≤ l.length := by
  induction l with
  | nil => simp
  | cons c r ih => rw [List.dropWhile_cons]; split <;> simp only [List.length_cons] <;> omega
theorem past_le (c : UInt8) (l : List UInt8) : (past c l).length ≤ l.length := by unfold past; rw [List.length_drop]; omega
theorem valA_le {r v r' : List UInt8} (h : valA r = some (v, r')) : r'.length ≤ r.length := by
  have h1 := dw_le isSp r
  unfold valA at h
  change (spL r).length ≤ _ at h1
  split at h
  · rename_i r2 he
    rw [he, List.length_cons] at h1
    have h2 := dw_le isSp r2
    change (spL r2).length ≤ _ at h2
    split at h
    · cases h; simp
    · rename_i c r3 he2
      rw [he2, List.length_cons] at h2
      split at h
      · split at h
        · cases h; have := past_le c r3; omega
        · cases h
      · split at h
        · cases h; simp only [List.length_cons]; omega
        · cases h; have := dw_le vlC r3; omega
  · cases h; exact h1
theorem attrF_more (f : Nat) : ∀ l s f', s.length < f → s.length < f' → attrF f l s = attrF f' l s := by
  induction f with
  | zero => intro l s f' h _; omega
  | succ f ih =>
    intro l s f' h h'
    cases f' with
    | zero => omega
    | succ f' =>
      have h1 := dw_le isSp s
      change (spL s).length ≤ _ at h1
      simp only [attrF]
      split
      · rfl
      · rename_i c r he
        rw [he, List.length_cons] at h1
        split
        · rfl
        · split
          · split
            · rw [ih _ _ f' (by simp; omega) (by simp; omega)]
            · simp only [List.length_cons] at h1
              split
              · rfl
              · rw [ih _ _ f' (by simp; omega) (by simp; omega)]
          · have h2 := dw_le nmC r
            cases hv : valA (r.dropWhile nmC) with
            | none => rfl
            | some x =>
              obtain ⟨v, r'⟩ := x
              have := valA_le hv
              simp only
              rw [ih _ _ f' (by omega) (by omega)]
/-- attributes to a tag's end: they, whether it closes itself, what stands behind -/
noncomputable def attrL (l : List AttrT) (s : List UInt8) : Option (List AttrT × Bool × List UInt8) := attrF (s.length + 1) l s
theorem attrL_eq (l : List AttrT) (s : List UInt8) : attrL l s = match spL s with
    | [] => none
    | c :: r =>
      if c = 62 then some (l, false, r)
      else if c = 47 then (match r with
        | [] => none
        | d :: r' => if d = 62 then some (l, true, r') else attrL l (d :: r'))
      else match valA (r.dropWhile nmC) with
        | none => none
        | some (v, r') => attrL (addA l (c :: r.takeWhile nmC) v) r' := by
  have h1 := dw_le isSp s
  change (spL s).length ≤ _ at h1
  unfold attrL
  rw [attrF]
  split
  · rfl
  · rename_i c r he
    rw [he, List.length_cons] at h1
    split
    · rfl
    · split
      · split
        · cases hs : s.length with
          | zero => omega
          | succ n => simp [attrF, spL]
        · simp only [List.length_cons] at h1
          split
          · rfl
          · rw [attrF_more _ _ _ _ (by simp; omega) (Nat.lt_succ_self _)]
      · have h2 := dw_le nmC r
        cases hv : valA (r.dropWhile nmC) with
        | none => rfl
        | some x =>
          obtain ⟨v, r'⟩ := x
          have := valA_le hv
          simp only
          rw [attrF_more _ _ _ _ (by omega) (Nat.lt_succ_self _)]
theorem attrF_le (f : Nat) : ∀ l s l' b r, attrF f l s = some (l', b, r) → r.length < s.length := by
  induction f with
  | zero => intro l s l' b r h; cases h
  | succ f ih =>
    intro l s l' b r h
    have h1 := dw_le isSp s
    change (spL s).length ≤ _ at h1
    simp only [attrF] at h
    split at h
    · cases h
    · rename_i c r0 he
      rw [he, List.length_cons] at h1
      split at h
      · cases h; omega
      · split at h
        · split at h
          · have := ih _ _ _ _ _ h; simp at this
          · simp only [List.length_cons] at h1
            split at h
            · cases h; omega
            · have := ih _ _ _ _ _ h; simp at this; omega
        · have h2 := dw_le nmC r0
          split at h
          · cases h
          · rename_i v r' hv
            have h3 := valA_le hv
            have := ih _ _ _ _ _ h
            omega
theorem attrL_lt {l l' : List AttrT} {s r : List UInt8} {b : Bool} (h : attrL l s = some (l', b, r)) : r.length < s.length := attrF_le _ _ _ _ _ _ h
end Go.Proofs.YtdheknlnhfegnaaGreatDoor.Hand

namespace Go.Proofs.YtdheknlnhfegnaaGreatDoor.Hand
open Go Go.RowKit Go.Proofs.YtdheknlnhfegnaaGreatDoor.Pl Go.Proofs.YtdheknlnhfegnaaGreatDoor.Pb Go.Proofs.YtdheknlnhfegnaaGreatDoor.Sx Go.Proofs.YtdheknlnhfegnaaGreatDoor.Sa Go.Proofs.YtdheknlnhfegnaaGreatDoor.Pure Go.Proofs.YtdheknlnhfegnaaGreatDoorW.PrintWords Go.Proofs.YtdheknlnhfegnaaGreatDoorW.PrintLast Go.Proofs.YtdheknlnhfegnaaGreatDoorW.PrintMore

abbrev Rdr (w0 W : World) (g : Nat) (s : List UInt8) (pos : Nat) : Prop := IsS46 w0 W g (B s) (pos : Int)
theorem sp_f (c : UInt8) : sign_Space.f (c.toNat : Int) = some (isSp c) := by
  have : ∀ n : Fin 256, sign_Space.f ((n.val : Nat) : Int) = some (isSp (UInt8.ofNat n.val)) := by decide +kernel
  have h := this ⟨c.toNat, c.toNat_lt⟩
  simpa using h
/-- how many blanks there are -/
def spc (l : List UInt8) : Nat := (l.takeWhile isSp).length
theorem spc_drop (l : List UInt8) : l.drop (spc l) = spL l := by
  unfold spc spL
  conv => lhs; arg 2; rw [← List.takeWhile_append_dropWhile (p := isSp) (l := l)]
  rw [List.drop_left]
theorem tw_len {α : Type} (p : α → Bool) (l : List α) : (l.takeWhile p).length ≤ l.length := by
  induction l with
  | nil => simp
  | cons a l ih => rw [List.takeWhile_cons]; split <;> simp <;> omega
theorem spaces_l (s : List UInt8) (hs : s.length ≤ 1000000) : ∀ (r : List UInt8) (i k : Nat), s.drop i = r → i ≤ s.length → attrs_reader_spaces.l0 (r.length + 1 + k) (B s) (i : Int) = some (B s, ((i + spc r : Nat) : Int)) := by
  intro r
  induction r with
  | nil =>
    intro i k hd hi
    have := List.drop_eq_nil_iff.1 hd
    rw [show ([] : List UInt8).length + 1 + k = k + 1 by simp; omega, attrs_reader_spaces.l0, if_neg (by rw [size_B]; omega)]; rfl
  | cons c r ih =>
    intro i k hd hi
    have hlt := drop_lt hd
    have hd2 : s.drop (i + 1) = r := by rw [← List.drop_drop, hd]; rfl
    have w1 : wrap64 ((i : Int) + 1) = ((i + 1 : Nat) : Int) := by unfold wrap64; omega
    rw [show (c :: r).length + 1 + k = (r.length + 1 + k) + 1 by simp; omega, attrs_reader_spaces.l0, if_pos (by rw [size_B]; omega), if_pos (by omega), bt_drop s i c r hd, sp_f, Option.bind_some, w1]
    cases h : isSp c with
    | true =>
      rw [if_pos rfl, ih (i + 1) k hd2 (by omega)]
      have : spc (c :: r) = spc r + 1 := by unfold spc; rw [List.takeWhile_cons, if_pos h]; rfl
      rw [this]; congr 3; omega
    | false =>
      rw [if_neg (by decide)]
      have : spc (c :: r) = 0 := by unfold spc; rw [List.takeWhile_cons, h]; rfl
      rw [this]; rfl
theorem spaces_c (w0 w : World) (g : Nat) (s : List UInt8) (pos : Nat) (hs : s.length ≤ 1000000) (hp : pos ≤ s.length) (hI : Rdr w0 w g s pos) (hB : Below w0.heap.size w0 w) :
    Calls Tryz.prog 22 #[.pointer (some ⟨g, 0, none⟩)] w fun e w' => e = .returned (.tuple #[]) ∧ Rdr w0 w' g s (pos + spc (s.drop pos)) ∧ Below w0.heap.size w0 w' ∧ KeepBut w w' g none :=
  attrs_reader_spaces.calls _ g _ _ _ _ w0 w hI hB (spaces_l s hs (s.drop pos) pos 0 rfl hp)
/-- is that byte there? -/
def isB (c : UInt8) (l : List UInt8) : Bool := l.head? == some c
theorem is_c (c : UInt8) (w0 w : World) (g : Nat) (s : List UInt8) (pos : Nat) (hI : Rdr w0 w g s pos) (hB : Below w0.heap.size w0 w) :
    Calls Tryz.prog 23 #[.pointer (some ⟨g, 0, none⟩), .int .u8 (c.toNat : Int)] w fun e w' => e = .returned (.bool (isB c (s.drop pos))) ∧ Rdr w0 w' g s pos ∧ Below w0.heap.size w0 w' ∧ KeepBut w w' g none := by
  refine attrs_reader_is.calls g _ _ _ _ _ _ w0 w hI hB ?_
  unfold attrs_reader_is.f
  cases hd : s.drop pos with
  | nil =>
    have := List.drop_eq_nil_iff.1 hd
    rw [if_neg (by rw [size_B]; omega)]; rfl
  | cons d r =>
    have hlt := drop_lt hd
    rw [if_pos (by rw [size_B]; omega), if_pos (by omega), bt_drop s pos d r hd]
    congr 2
    unfold isB
    rw [List.head?_cons, Bool.eq_iff_iff, beq_iff_eq, beq_iff_eq]
    constructor
    · intro e; rw [UInt8.toNat_inj.1 (show d.toNat = c.toNat by omega)]
    · intro e; rw [Option.some.inj e]
/-- up to a blank, or one of some bytes -/
def upC (ends : List UInt8) (c : UInt8) : Bool := !(isSp c || decide (c ∈ ends))
theorem index_mem (ends : List UInt8) (c : UInt8) : (Lib.indexByte ends c ≥ 0) = (c ∈ ends) := by
  apply propext
  constructor
  · intro h
    obtain ⟨o, ho⟩ : ∃ o : Nat, Lib.indexByte ends c = o := ⟨_, (Int.toNat_of_nonneg h).symm⟩
    exact List.mem_of_getElem? (Lib.indexByte_some ho).1
  · intro h
    rcases Int.lt_or_le (Lib.indexByte ends c) 0 with h' | h'
    · exfalso
      have h1 : Lib.indexByte ends c = -1 := by have := Lib.indexByte_ge ends c; omega
      obtain ⟨k, hk, he⟩ := List.getElem_of_mem h
      exact Lib.indexByte_none h1 k (by rw [List.getElem?_eq_getElem hk, he])
    · exact h'
theorem upTo_l (ends s : List UInt8) (hs : s.length ≤ 1000000) (fr : Nat) : ∀ (r : List UInt8) (i k : Nat), s.drop i = r → i ≤ s.length → fr ≤ i →
    attrs_reader_upTo.l0 (r.length + 1 + k) (B ends) (fr : Int) (B s) (i : Int) = some ((B s).extract fr (i + (r.takeWhile (upC ends)).length), B s, ((i + (r.takeWhile (upC ends)).length : Nat) : Int)) := by
  intro r
  induction r with
  | nil =>
    intro i k hd hi hf
    have := List.drop_eq_nil_iff.1 hd
    rw [show ([] : List UInt8).length + 1 + k = k + 1 by simp; omega, attrs_reader_upTo.l0, if_neg (by rw [size_B]; omega), if_pos (by omega), if_pos (by omega), if_pos (by rw [size_B]; omega)]
    rfl
  | cons c r ih =>
    intro i k hd hi hf
    have hlt := drop_lt hd
    have hd2 : s.drop (i + 1) = r := by rw [← List.drop_drop, hd]; rfl
    have w1 : wrap64 ((i : Int) + 1) = ((i + 1 : Nat) : Int) := by unfold wrap64; omega
    have hc : ((c.toNat : Int)).toNat.toUInt8 = c := by rw [Int.toNat_natCast]; simp
    rw [show (c :: r).length + 1 + k = (r.length + 1 + k) + 1 by simp; omega, attrs_reader_upTo.l0, if_pos (by rw [size_B]; omega), if_pos (by omega), bt_drop s i c r hd, sp_f, Option.bind_some, w1]
    cases h : isSp c with
    | true =>
      have e : (c :: r).takeWhile (upC ends) = [] := by rw [List.takeWhile_cons, if_neg]; unfold upC; rw [h]; simp
      rw [if_pos rfl, if_pos (by omega), if_pos (by omega), if_pos (by rw [size_B]; omega), e]; rfl
    | false =>
      rw [if_neg (by decide)]
      unfold strings_IndexByte.f
      rw [Option.bind_some, hc, B_data]
      by_cases hm : c ∈ ends
      · have e : (c :: r).takeWhile (upC ends) = [] := by rw [List.takeWhile_cons, if_neg]; unfold upC; rw [h, decide_eq_true hm]; simp
        rw [if_pos (by rw [index_mem]; exact hm), if_pos (by omega), if_pos (by omega), if_pos (by rw [size_B]; omega), e]; rfl
      · have e : (c :: r).takeWhile (upC ends) = c :: r.takeWhile (upC ends) := by rw [List.takeWhile_cons, if_pos]; unfold upC; rw [h, decide_eq_false hm]; rfl
        rw [if_neg (by rw [index_mem]; exact hm), ih (i + 1) k hd2 (by omega) (by omega), e, List.length_cons, show i + 1 + (r.takeWhile (upC ends)).length = i + ((r.takeWhile (upC ends)).length + 1) by omega]
theorem upTo_c (ends : List UInt8) (w0 w : World) (g : Nat) (s : List UInt8) (pos : Nat) (hs : s.length ≤ 1000000) (hp : pos < s.length) (hI : Rdr w0 w g s pos) (hB : Below w0.heap.size w0 w) :
    Calls Tryz.prog 26 #[.pointer (some ⟨g, 0, none⟩), .string (B ends)] w fun e w' =>
      e = .returned (.string (B (s[pos] :: (s.drop (pos + 1)).takeWhile (upC ends)))) ∧ Rdr w0 w' g s (pos + 1 + ((s.drop (pos + 1)).takeWhile (upC ends)).length) ∧ Below w0.heap.size w0 w' ∧ KeepBut w w' g none := by
  have w1 : wrap64 ((pos : Int) + 1) = ((pos + 1 : Nat) : Int) := by unfold wrap64; omega
  have h := upTo_l ends s hs pos (s.drop (pos + 1)) (pos + 1) 0 rfl (by omega) (by omega)
  have hx : (B s).extract pos (pos + 1 + ((s.drop (pos + 1)).takeWhile (upC ends)).length) = B (s[pos] :: (s.drop (pos + 1)).takeWhile (upC ends)) := by
    have hl := tw_len (upC ends) (s.drop (pos + 1))
    rw [B_extract, List.drop_take, List.drop_eq_getElem_cons hp, show pos + 1 + ((s.drop (pos + 1)).takeWhile (upC ends)).length - pos = ((s.drop (pos + 1)).takeWhile (upC ends)).length + 1 by omega, List.take_succ_cons]
    congr 2
    conv => lhs; arg 2; rw [← List.takeWhile_append_dropWhile (p := upC ends) (l := s.drop (pos + 1))]
    rw [List.take_left]
  rw [hx] at h
  exact attrs_reader_upTo.calls ((s.drop (pos + 1)).length + 1 + 0) g _ _ _ _ _ _ w0 w hI hB (by unfold attrs_reader_upTo.f; rw [w1]; exact h)
theorem quiet_at {P : Program} {f : FuncId} {args : Array Value} {W : World} {n : Nat} {v : Value} (h : Calls P f args (W.drewN n) fun e w' => e = .returned v ∧ w' = W.drewN n) :
    Calls P f args (W.drewN n) fun e w'' => e = .returned v ∧ ∃ m, w'' = W.drewN m := h.mono fun _ _ ⟨he, hm⟩ => ⟨he, n, hm⟩
/-- what stands between two quotes -/
def quoP (s : List UInt8) (pos : Nat) (q : UInt8) : List UInt8 × Bool × Nat :=
  if q ∈ s.drop (pos + 1) then (upto q (s.drop (pos + 1)), true, pos + 1 + (upto q (s.drop (pos + 1))).length + 1) else ([], false, pos + 1)
set_option maxRecDepth 100000 in
set_option maxHeartbeats 4000000 in
theorem quoted_c (w0 w : World) (g : Nat) (s : List UInt8) (pos : Nat) (q : UInt8) (hs : s.length ≤ 1000000) (hp : pos < s.length) (hq : s[pos] = q) (hI : Rdr w0 w g s pos) (hB : Below w0.heap.size w0 w) :
    Calls Tryz.prog 44 #[.pointer (some ⟨g, 0, none⟩)] w fun e w' =>
      e = .returned (.tuple #[.string (B (quoP s pos q).1), .bool (quoP s pos q).2.1]) ∧ Rdr w0 w' g s (quoP s pos q).2.2 ∧ Below w0.heap.size w0 w' ∧ KeepBut w w' g none := by
  have I := fun W => Tryz.strings_IndexByte ((B s).extract (pos + 1) (B s).size) (q.toNat : Int) W
  have hr : ((B s).extract (pos + 1) (B s).size).data.toList = s.drop (pos + 1) := by rw [size_B, B_extract, List.take_length, B_data]
  rw [hr, show ((q.toNat : Int)).toNat.toUInt8 = q by rw [Int.toNat_natCast]; simp] at I
  have HI0 := Aside0.mk hI
  have HK := Aside0.mk (KeepBut.refl w g none)
  have HB := Aside0.mk hB
  obtain ⟨HG, hg⟩ := hI
  have hc0 := cellS46_0 HG
  have hc1 := cellS46_1 HG
  have hf0 := blk_frozen HG 0
  have hf1 := blk_frozen HG 1
  have hlen : (B s).size = s.length := size_B s
  have hby : ∀ (h : pos < (B s).size), (B s)[pos] = q := fun h => hq
  have hxt : ∀ o, (B s).extract (pos + 1) (pos + 1 + o) = B ((s.drop (pos + 1)).take o) := fun o => by rw [B_extract, List.drop_take, Nat.add_sub_cancel_left]
  obtain ⟨a, ha⟩ : ∃ a, B s = a := ⟨_, rfl⟩
  have HI1 : Aside0 (Rdr w0 w g s pos = IsS46 w0 w g a (pos : Int)) := Aside0.mk (by rw [← ha])
  have HE : Aside0 (∀ W p, Rdr w0 W g s p = IsS46 w0 W g a (p : Int)) := Aside0.mk (fun W p => by rw [← ha])
  rw [ha] at I hc0 hlen hxt
  replace HI0 := Aside0.mk (HI1.out ▸ HI0.out)
  have hpa : pos < a.size := by omega
  have i1 : (pos : Int) < (a.size : Int) := by omega
  have i2 : (pos : Int) + 1 ≤ (a.size : Int) := by omega
  have hby2 : a[pos] = q := by subst ha; exact hby (by rw [size_B]; exact hp)
  have hza : a.size ≤ 1000000 := by omega
  have hsl : ∀ W, (Instr.slice 9 (.string a) (some (.int .i64 ((pos : Int) + 1))) none none).run Tryz.prog W = .ok (.string (a.extract (pos + 1) a.size)) W := fun W => by
    rw [run_slice_string_from_if W 9 a .i64 _ Tryz.underlying9, if_pos (by omega), show ((pos : Int) + 1).toNat = pos + 1 by omega]
  clear HI1 hby HG hg hB ha hr hq hp
  rcases Int.lt_or_le (Lib.indexByte (s.drop (pos + 1)) q) 0 with h | h
  · have h1 : Lib.indexByte (s.drop (pos + 1)) q = -1 := by have := Lib.indexByte_ge (s.drop (pos + 1)) q; omega
    have hno : q ∉ s.drop (pos + 1) := by
      intro hm
      obtain ⟨k, hk, e⟩ := List.getElem_of_mem hm
      exact Lib.indexByte_none h1 k (by rw [List.getElem?_eq_getElem hk, e])
    have hqp : quoP s pos q = ([], false, pos + 1) := by unfold quoP; rw [if_neg hno]
    rw [hqp]; simp only [HE.out]
    rw [h1] at I
    have HIX := Lib.hid I
    clear I h h1 hno hqp hxt HE hlen hs
    go_enter Tryz.func44, Tryz.ntmps44
    go_wp2
    repeat (go_quiet (fail); try go_wp2)
    go_quiet ((go_at_call 31; exact quiet_at (HIX.out _)))
    go_wp2
    go_ret2
    exact ⟨by first | rfl | (simp; done) | (simp [*]; done), by rw [show ((pos + 1 : Nat) : Int) = (pos : Int) + 1 by omega]; repeat (first | (with_reducible first | exact HI0.out | apply IsS46.drewN | apply IsS46.drew | apply IsS46.set_1) | exact HI0.out), by repeat (first | (with_reducible first | exact HB.out | apply below_alloc | apply pw_below_drewN | apply below_drew1 | refine below_set ?_ (IsS46.ge HI0.out)) | exact HB.out), by repeat (first | (with_reducible first | exact HK.out | apply KeepBut.set_ | apply keep_drewN | apply keep_drew | apply keep_alloc) | exact HK.out)⟩
  · obtain ⟨o, ho⟩ : ∃ o : Nat, Lib.indexByte (s.drop (pos + 1)) q = o := ⟨_, (Int.toNat_of_nonneg h).symm⟩
    obtain ⟨h1, h2⟩ := Lib.indexByte_some ho
    have hup : upto q (s.drop (pos + 1)) = (s.drop (pos + 1)).take o := by
      obtain ⟨hl, he⟩ := List.getElem?_eq_some_iff.1 h1
      have e : s.drop (pos + 1) = (s.drop (pos + 1)).take o ++ q :: (s.drop (pos + 1)).drop (o + 1) := by
        conv => lhs; rw [← List.take_append_drop o (s.drop (pos + 1)), List.drop_eq_getElem_cons hl, he]
      conv => lhs; rw [e]
      unfold upto isNe
      rw [tw_app _ _ _ (fun c hc => ?_), List.takeWhile_cons, if_neg (by simp), List.append_nil]
      rw [bne_iff_ne]
      rintro rfl
      obtain ⟨k, hk, e2⟩ := List.getElem_of_mem hc
      rw [List.length_take] at hk
      rw [List.getElem_take] at e2
      exact h2 k (by omega) (by rw [List.getElem?_eq_getElem (by omega), e2])
    have hol : (s.drop (pos + 1))[o]? ≠ none := by rw [h1]; simp
    have hol2 : o < (s.drop (pos + 1)).length := (List.getElem?_eq_some_iff.1 h1).1
    rw [List.length_drop] at hol2
    have hqp : quoP s pos q = ((s.drop (pos + 1)).take o, true, pos + 1 + o + 1) := by
      unfold quoP; rw [if_pos (List.mem_of_getElem? h1), hup, List.length_take, List.length_drop, Nat.min_eq_left (by omega)]
    rw [hqp]; simp only [HE.out]
    rw [ho] at I
    have hx := hxt o
    obtain ⟨t, ht⟩ : ∃ t, B ((s.drop (pos + 1)).take o) = t := ⟨_, rfl⟩
    rw [ht] at hx
    simp only [ht]
    have hpo : pos + 1 + o ≤ a.size := by omega
    have hs2 : ∀ W, (Instr.slice 9 (.string a) (some (.int .i64 ((pos : Int) + 1))) (some (.int .i64 ((pos : Int) + 1 + (o : Int)))) none).run Tryz.prog W = .ok (.string t) W := fun W => by
      rw [run_slice_string W 9 a .i64 .i64 _ _ Tryz.underlying9 (by omega) (by omega) (by omega), show ((pos : Int) + 1).toNat = pos + 1 by omega, show ((pos : Int) + 1 + (o : Int)).toNat = pos + 1 + o by omega, hx]
    have HIX := Lib.hid I
    clear I h ho h1 h2 hup hol hol2 hqp hxt HE hlen hs ht
    go_enter Tryz.func44, Tryz.ntmps44
    go_wp2
    repeat (go_quiet (fail); try go_wp2)
    go_quiet ((go_at_call 31; exact quiet_at (HIX.out _)))
    go_wp2
    repeat (go_quiet (fail); try go_wp2)
    go_ret2
    exact ⟨by first | rfl | (simp; done) | (simp [*]; done), by rw [show ((pos + 1 + o + 1 : Nat) : Int) = (pos : Int) + 1 + ((o : Int) + 1) by omega]; repeat (first | (with_reducible first | exact HI0.out | apply IsS46.drewN | apply IsS46.drew | apply IsS46.set_1) | exact HI0.out), by repeat (first | (with_reducible first | exact HB.out | apply below_alloc | apply pw_below_drewN | apply below_drew1 | refine below_set ?_ (IsS46.ge HI0.out)) | exact HB.out), by repeat (first | (with_reducible first | exact HK.out | apply KeepBut.set_ | apply keep_drewN | apply keep_drew | apply keep_alloc) | exact HK.out)⟩
end Go.Proofs.YtdheknlnhfegnaaGreatDoor.Hand

namespace Go.Proofs.YtdheknlnhfegnaaGreatDoor.Hand
open Go Go.RowKit Go.Proofs.YtdheknlnhfegnaaGreatDoor.Pl Go.Proofs.YtdheknlnhfegnaaGreatDoor.Pb Go.Proofs.YtdheknlnhfegnaaGreatDoor.Sx Go.Proofs.YtdheknlnhfegnaaGreatDoorW.PrintWords Go.Proofs.YtdheknlnhfegnaaGreatDoorW.PrintLast Go.Proofs.YtdheknlnhfegnaaGreatDoorW.PrintMore

/-- what the reader holds, and what it has left as it was -/
structure RdSt (w0 w W : World) (g : Nat) (s : List UInt8) (pos : Nat) : Prop where
  rd : Rdr w0 W g s pos
  below : Below w0.heap.size w0 W
  keep : KeepBut w W g none
theorem RdSt.next {w0 w W W' : World} {g : Nat} {s : List UInt8} {pos pos' : Nat} (h : RdSt w0 w W g s pos) (h2 : Rdr w0 W' g s pos' ∧ Below w0.heap.size w0 W' ∧ KeepBut W W' g none) : RdSt w0 w W' g s pos' :=
  ⟨h2.1, h2.2.1, h.keep.trans h2.2.2 (.inl rfl)⟩
/-- what is told of an attribute's value -/
def ValOk (s : List UInt8) (pos : Nat) (v : List UInt8) (b : Bool) (p : Nat) : Prop :=
  p ≤ s.length ∧ pos ≤ p ∧ v.length ≤ s.length ∧ ((b = true ∧ valA (s.drop pos) = some (v, s.drop p)) ∨ (b = false ∧ valA (s.drop pos) = none))
theorem spc_le (s : List UInt8) (p : Nat) (h : p ≤ s.length) : p + spc (s.drop p) ≤ s.length := by
  have := tw_len isSp (s.drop p); rw [List.length_drop] at this; unfold spc; omega
theorem isB_true {c : UInt8} {l : List UInt8} (h : isB c l = true) : ∃ r, l = c :: r := by
  unfold isB at h
  rw [beq_iff_eq] at h
  cases l with
  | nil => cases h
  | cons d r => exact ⟨r, by rw [Option.some.inj h]⟩
theorem isB_false {c d : UInt8} {r : List UInt8} (h : isB c (d :: r) = false) : d ≠ c := by
  unfold isB at h
  rw [beq_eq_false_iff_ne] at h
  rintro rfl; exact h rfl
theorem sp_at (s : List UInt8) (p : Nat) : s.drop (p + spc (s.drop p)) = spL (s.drop p) := by rw [← List.drop_drop, spc_drop]
theorem upC62 (c : UInt8) : upC [62] c = vlC c := by unfold upC vlC; simp; rfl
theorem upC_vl : upC [62] = vlC := funext upC62
theorem dw_drop {α : Type} (p : α → Bool) (l : List α) : l.dropWhile p = l.drop (l.takeWhile p).length := by
  conv => rhs; arg 2; rw [← List.takeWhile_append_dropWhile (p := p) (l := l)]
  rw [List.drop_left]
section
variable {s : List UInt8} {pos : Nat} (hp : pos ≤ s.length)
include hp
theorem val_none (h : isB 61 (s.drop (pos + spc (s.drop pos))) = false) : ValOk s pos [] true (pos + spc (s.drop pos)) := by
  refine ⟨spc_le s pos hp, by omega, by simp, .inl ⟨rfl, ?_⟩⟩
  rw [sp_at] at h ⊢
  unfold valA
  split
  · rename_i r2 he; rw [he] at h; cases h
  · rfl
variable (h61 : isB 61 (s.drop (pos + spc (s.drop pos))) = true)
include h61
theorem val_eq : ∃ p2, p2 = pos + spc (s.drop pos) + 1 ∧ p2 ≤ s.length ∧ valA (s.drop pos) = (match spL (s.drop p2) with
    | [] => some ([], [])
    | c :: r3 => if c = 34 ∨ c = 39 then (if c ∈ r3 then some (upto c r3, past c r3) else none) else if c = 62 then some ([], c :: r3) else some (c :: r3.takeWhile vlC, r3.dropWhile vlC)) := by
  have _hp := hp
  obtain ⟨r2, he⟩ := isB_true h61
  have hl := congrArg List.length he
  rw [List.length_drop, List.length_cons] at hl
  refine ⟨_, rfl, by omega, ?_⟩
  rw [← List.drop_drop, he]
  rw [sp_at] at he
  unfold valA
  rw [he]; rfl
theorem val_quo {q : UInt8} (hq : q = 34 ∨ q = 39) (p3 : Nat) (h3 : p3 = pos + spc (s.drop pos) + 1 + spc (s.drop (pos + spc (s.drop pos) + 1))) (hb : isB q (s.drop p3) = true) :
    p3 < s.length ∧ s[p3]? = some q ∧ ValOk s pos (quoP s p3 q).1 (quoP s p3 q).2.1 (quoP s p3 q).2.2 := by
  obtain ⟨p2, e2, l2, hv⟩ := val_eq hp h61
  rw [← e2] at h3
  obtain ⟨r, he⟩ := isB_true hb
  have hl := congrArg List.length he
  rw [List.length_drop, List.length_cons] at hl
  have hr : s.drop (p3 + 1) = r := by rw [← List.drop_drop, he]; rfl
  refine ⟨by omega, ?_, ?_⟩
  · have := congrArg List.head? he
    rw [List.head?_drop] at this
    exact this
  · rw [h3, sp_at] at he
    rw [he] at hv
    simp only at hv
    rw [if_pos hq] at hv
    unfold quoP
    rw [hr]
    by_cases hm : q ∈ r
    · rw [if_pos hm] at hv ⊢
      have hu := tw_len (isNe q) r
      have ht := take_up q r hm
      have htl := congrArg List.length ht
      rw [List.length_append, List.length_cons] at htl
      refine ⟨by simp only; omega, by simp only; omega, by simp only; omega, .inl ⟨rfl, ?_⟩⟩
      rw [hv]
      congr 2
      unfold past
      rw [← hr, List.drop_drop]; congr 1
    · rw [if_neg hm] at hv ⊢
      exact ⟨by simp only; omega, by simp only; omega, by simp, .inr ⟨rfl, hv⟩⟩
theorem val_end (p3 : Nat) (h3 : p3 = pos + spc (s.drop pos) + 1 + spc (s.drop (pos + spc (s.drop pos) + 1))) (hb : isB 62 (s.drop p3) = true ∨ p3 = s.length) : ValOk s pos [] true p3 := by
  obtain ⟨p2, e2, l2, hv⟩ := val_eq hp h61
  rw [← e2] at h3
  have hle := spc_le s p2 l2
  rw [← h3] at hle
  refine ⟨hle, by omega, by simp, .inl ⟨rfl, ?_⟩⟩
  rw [hv, ← sp_at, ← h3]
  rcases hb with hb | hb
  · obtain ⟨r, he⟩ := isB_true hb
    rw [he]; simp
  · rw [hb, List.drop_length]
theorem val_word (p3 : Nat) (h3 : p3 = pos + spc (s.drop pos) + 1 + spc (s.drop (pos + spc (s.drop pos) + 1))) (hlt : p3 < s.length) (n34 : isB 34 (s.drop p3) = false) (n39 : isB 39 (s.drop p3) = false) (n62 : isB 62 (s.drop p3) = false) :
    ValOk s pos (s[p3] :: (s.drop (p3 + 1)).takeWhile (upC [62])) true (p3 + 1 + ((s.drop (p3 + 1)).takeWhile (upC [62])).length) := by
  obtain ⟨p2, e2, l2, hv⟩ := val_eq hp h61
  rw [← e2] at h3
  have hd := List.drop_eq_getElem_cons hlt
  have hl := tw_len (upC [62]) (s.drop (p3 + 1))
  rw [List.length_drop] at hl
  refine ⟨by omega, by omega, by simp only [List.length_cons]; omega, .inl ⟨rfl, ?_⟩⟩
  rw [hd] at n34 n39 n62
  rw [hv, ← sp_at, ← h3, hd]
  simp only
  rw [if_neg (by rintro (e | e); exact isB_false n34 e; exact isB_false n39 e), if_neg (isB_false n62), upC_vl, dw_drop, List.drop_drop]
end
set_option maxRecDepth 100000 in
set_option maxHeartbeats 8000000 in
theorem value_c (w0 w : World) (g : Nat) (s : List UInt8) (pos : Nat) (hs : s.length ≤ 1000000) (hp : pos ≤ s.length) (hI : Rdr w0 w g s pos) (hB : Below w0.heap.size w0 w) :
    Calls Tryz.prog 27 #[.pointer (some ⟨g, 0, none⟩)] w fun e w' =>
      (∃ v b p, ValOk s pos v b p ∧ e = .returned (.tuple #[.string (B v), .bool b]) ∧ Rdr w0 w' g s p) ∧ Below w0.heap.size w0 w' ∧ KeepBut w w' g none := by
  have HS := Lib.hid (RdSt.mk hI hB (KeepBut.refl w g none))
  have SP := Lib.hid (fun W p (hp : p ≤ s.length) hI hB => spaces_c w0 W g s p hs hp hI hB)
  have IS := Lib.hid (fun c W p hI hB => is_c c w0 W g s p hI hB)
  have QU := Lib.hid (fun W p q (hp : p < s.length) hq hI hB => quoted_c w0 W g s p q hs hp hq hI hB)
  have UP := Lib.hid (fun W p (hp : p < s.length) hI hB => upTo_c [62] w0 W g s p hs hp hI hB)
  have HP := Lib.hid hp
  have hle1 := Lib.hid (spc_le s pos hp)
  have hlenB : Hid ((B s).size = s.length) := Lib.hid (size_B s)
  have hsz : s.length ≤ 1000000 := hs
  clear hI hB hs hp
  go_enter Tryz.func27, Tryz.ntmps27
  go_wp2_with fail
  refine (SP.out _ pos HP.out HS.out.rd HS.out.below).mono ?_
  rintro e w1 ⟨rfl, h2⟩
  replace HS := Lib.hid (HS.out.next h2)
  clear h2
  obtain ⟨b61, e61⟩ : ∃ b, isB 61 (s.drop (pos + spc (s.drop pos))) = b := ⟨_, rfl⟩
  have I1 := IS.out 61 _ _ HS.out.rd HS.out.below
  rw [e61] at I1
  have HI1 := Lib.hid I1
  have E61 := Lib.hid e61
  clear I1 e61
  go_wp2_with fail
  refine HI1.out.mono ?_
  rintro e w2 ⟨rfl, h2⟩
  replace HS := Lib.hid (HS.out.next h2)
  clear h2 HI1
  cases b61 with
  | false =>
    have hv := Lib.hid (val_none HP.out E61.out)
    go_wp2_with fail
    go_ret2
    exact ⟨⟨_, _, _, hv.out, rfl, HS.out.rd⟩, HS.out.below, HS.out.keep⟩
  | true =>
    obtain ⟨p2, e2, l2, _⟩ := val_eq HP.out E61.out
    have hc0 := cellS46_0 HS.out.rd.1
    have hc1 := cellS46_1 HS.out.rd.1
    have hf1 := blk_frozen HS.out.rd.1 1
    have hpb : pos + spc (s.drop pos) ≤ 1000000 := by omega
    obtain ⟨p1, hp1⟩ : ∃ p1, pos + spc (s.drop pos) = p1 := ⟨_, rfl⟩
    have HP1 := Lib.hid hp1
    rw [hp1] at hc1 hpb
    rw [hp1] at e2
    subst e2
    have HL2 := Lib.hid l2
    have HST : Hid (RdSt w0 w (w2.setCell ⟨g, 1, none⟩ (.int .i64 ((p1 : Int) + 1))) g s (p1 + 1)) := Lib.hid (by
      have h := HS.out
      rw [hp1] at h
      refine ⟨?_, h.below.setCell h.rd.2 _, h.keep.set_ 1 _⟩
      have := h.rd.set_1 ((p1 : Int) + 1)
      exact this)
    clear hp1 l2
    go_wp2_with fail
    refine (SP.out _ (p1 + 1) HL2.out HST.out.rd HST.out.below).mono ?_
    rintro e w3 ⟨rfl, h2⟩
    replace HS := Lib.hid (HST.out.next h2)
    clear h2 hc0 hc1 hf1 HST
    have hle3 := Lib.hid (spc_le s (p1 + 1) HL2.out)
    obtain ⟨p3, hp3⟩ : ∃ p3, p1 + 1 + spc (s.drop (p1 + 1)) = p3 := ⟨_, rfl⟩
    rw [hp3] at HS hle3
    have HP3 : Hid (p3 = pos + spc (s.drop pos) + 1 + spc (s.drop (pos + spc (s.drop pos) + 1))) := Lib.hid (by rw [HP1.out]; exact hp3.symm)
    clear hp3
    obtain ⟨b34, e34⟩ : ∃ b, isB 34 (s.drop p3) = b := ⟨_, rfl⟩
    have I1 := IS.out 34 _ _ HS.out.rd HS.out.below
    rw [e34] at I1
    have HI1 := Lib.hid I1
    have E34 := Lib.hid e34
    clear I1 e34
    go_wp2_with fail
    refine HI1.out.mono ?_
    rintro e w4 ⟨rfl, h2⟩
    replace HS := Lib.hid (HS.out.next h2)
    clear h2 HI1
    cases b34 with
    | true =>
      obtain ⟨q1, q2, q3⟩ := val_quo HP.out E61.out (.inl rfl) p3 HP3.out E34.out
      have Q := Lib.hid (QU.out _ p3 34 q1 (by rw [List.getElem?_eq_getElem q1] at q2; exact Option.some.inj q2) HS.out.rd HS.out.below)
      have HV := Lib.hid q3
      clear q1 q2 q3
      go_wp2_with fail
      refine Q.out.mono ?_
      rintro e w5 ⟨rfl, h2⟩
      replace HS := Lib.hid (HS.out.next h2)
      clear h2
      go_wp2_with fail
      go_ret2
      exact ⟨⟨_, _, _, HV.out, rfl, HS.out.rd⟩, HS.out.below, HS.out.keep⟩
    | false =>
      obtain ⟨b39, e39⟩ : ∃ b, isB 39 (s.drop p3) = b := ⟨_, rfl⟩
      have I1 := IS.out 39 _ _ HS.out.rd HS.out.below
      rw [e39] at I1
      have HI1 := Lib.hid I1
      have E39 := Lib.hid e39
      clear I1 e39
      go_wp2_with fail
      refine HI1.out.mono ?_
      rintro e w5 ⟨rfl, h2⟩
      replace HS := Lib.hid (HS.out.next h2)
      clear h2 HI1
      cases b39 with
      | true =>
        obtain ⟨q1, q2, q3⟩ := val_quo HP.out E61.out (.inr rfl) p3 HP3.out E39.out
        have Q := Lib.hid (QU.out _ p3 39 q1 (by rw [List.getElem?_eq_getElem q1] at q2; exact Option.some.inj q2) HS.out.rd HS.out.below)
        have HV := Lib.hid q3
        clear q1 q2 q3
        go_wp2_with fail
        refine Q.out.mono ?_
        rintro e w6 ⟨rfl, h2⟩
        replace HS := Lib.hid (HS.out.next h2)
        clear h2
        go_wp2_with fail
        go_ret2
        exact ⟨⟨_, _, _, HV.out, rfl, HS.out.rd⟩, HS.out.below, HS.out.keep⟩
      | false =>
        obtain ⟨b62, e62⟩ : ∃ b, isB 62 (s.drop p3) = b := ⟨_, rfl⟩
        have I1 := IS.out 62 _ _ HS.out.rd HS.out.below
        rw [e62] at I1
        have HI1 := Lib.hid I1
        have E62 := Lib.hid e62
        clear I1 e62
        go_wp2_with fail
        refine HI1.out.mono ?_
        rintro e w6 ⟨rfl, h2⟩
        replace HS := Lib.hid (HS.out.next h2)
        clear h2 HI1
        cases b62 with
        | true =>
          have HV := Lib.hid (val_end HP.out E61.out p3 HP3.out (.inl E62.out))
          go_wp2_with fail
          go_ret2
          exact ⟨⟨_, _, _, HV.out, rfl, HS.out.rd⟩, HS.out.below, HS.out.keep⟩
        | false =>
          have hc0 := cellS46_0 HS.out.rd.1
          have hc1 := cellS46_1 HS.out.rd.1
          obtain ⟨z, hz⟩ : ∃ z, (B s).size = z := ⟨_, rfl⟩
          have hzl : z = s.length := by rw [← hz]; exact hlenB.out
          obtain ⟨a, ha⟩ : ∃ a, B s = a := ⟨_, rfl⟩
          rw [ha] at hc0 hz
          have HZ := Lib.hid hz
          have HZL := Lib.hid hzl
          by_cases hend : p3 = s.length
          · have q1 : ((p3 : Int) == (a.size : Int)) = true := by rw [beq_iff_eq]; omega
            have q1n : (p3 == a.size) = true := by rw [beq_iff_eq]; omega
            have HV := Lib.hid (val_end HP.out E61.out p3 HP3.out (.inr hend))
            clear hend hz hzl ha
            go_wp2_with fail
            go_quiet (fail)
            go_wp2_with fail
            go_ret2
            exact ⟨⟨_, _, _, HV.out, rfl, HS.out.rd⟩, pw_below_drewN HS.out.below _, keep_drewN HS.out.keep _⟩
          · have q1 : ((p3 : Int) == (a.size : Int)) = false := by rw [beq_eq_false_iff_ne]; omega
            have q1n : (p3 == a.size) = false := by rw [beq_eq_false_iff_ne]; omega
            have hlt : p3 < s.length := by have := hle3.out; omega
            have HV := Lib.hid (val_word HP.out E61.out p3 HP3.out hlt E34.out E39.out E62.out)
            have U := Lib.hid (fun n => UP.out (w6.drewN n) p3 hlt HS.out.rd (pw_below_drewN HS.out.below n))
            have HK := Lib.hid (fun n => keep_drewN HS.out.keep n)
            clear hend hz hzl ha
            go_wp2_with fail
            go_quiet (fail)
            go_wp2_with fail
            refine (U.out _).mono ?_
            rintro e w7 ⟨rfl, h2, h3, h4⟩
            go_wp2_with fail
            go_ret2
            exact ⟨⟨_, _, _, HV.out, rfl, h2⟩, h3, (HK.out _).trans h4 (.inl rfl)⟩
end Go.Proofs.YtdheknlnhfegnaaGreatDoor.Hand

namespace Go.Proofs.YtdheknlnhfegnaaGreatDoor.Hand
open Go Go.RowKit Go.Proofs.YtdheknlnhfegnaaGreatDoor.K0 Go.Proofs.YtdheknlnhfegnaaGreatDoor.Pl Go.Proofs.YtdheknlnhfegnaaGreatDoor.Pb Go.Proofs.YtdheknlnhfegnaaGreatDoorW.PrintWords Go.Proofs.YtdheknlnhfegnaaGreatDoorW.PrintLast Go.Proofs.YtdheknlnhfegnaaGreatDoorW.PrintMore

abbrev AtS := S28
abbrev atK := k28
set_option maxRecDepth 100000 in
set_option maxHeartbeats 2000000 in
theorem same_c (x y nm : ByteArray) (ga : Nat) (w : World) (hc : w.cell? ⟨ga, 0, none⟩ = some (.string nm)) :
    Calls Tryz.prog 29 #[.agg #[.string x, .string y], .pointer (some ⟨ga, 0, none⟩)] w fun e w' => e = .returned (.bool (x.toList == nm.toList)) ∧ Below w.heap.size w w' := by
  have hc2 : (w.alloc (.cells #[.string x, .string y] 28)).cell? ⟨ga, 0, none⟩ = some (.string nm) := by
    rw [World.cell?_alloc_past _ _ _ (World.block_lt_of_cell? w _ hc)]; exact hc
  have hc3 : (w.alloc (.cells #[.string x, .string y] 28)).cell? ⟨w.heap.size, 0, none⟩ = some (.string x) := (World.cell?_alloc_at _ _ _ 0 rfl).trans rfl
  clear hc
  go_enter Tryz.func29, Tryz.ntmps29
  go_wp2_with fail
  go_ret
  exact ⟨rfl, (Below.refl _ w).alloc (Nat.le_refl _) _⟩
def hasN (nm : ByteArray) (l : List AtS) : Bool := l.any fun a => a.f0.toList == nm.toList
set_option maxRecDepth 100000 in
set_option maxHeartbeats 4000000 in
theorem indexF_c (A : Option Addr) (c : Nat) (l : List AtS) (nm : ByteArray) (ga : Nat) (w : World) (hr : Kd.C atK w A l.length l) (hl : l.length ≤ c) (hm : l.length ≤ 1000000) (hc : w.cell? ⟨ga, 0, none⟩ = some (.string nm)) :
    Calls Tryz.prog 45 #[.slice A l.length c, .func (.func 29) #[] #[.pointer (some ⟨ga, 0, none⟩)]] w fun e w' =>
      (∃ r : Int, e = .returned (.int .i64 r) ∧ decide (0 ≤ r) = hasN nm l) ∧ Below w.heap.size w w' := by
  have HR := Lib.hid hr
  have HC := Lib.hid hc
  have CL := Lib.hid (fun x y W (h : W.cell? ⟨ga, 0, none⟩ = some (.string nm)) => same_c x y nm ga W h)
  obtain ⟨n, hn⟩ : ∃ n, l.length = n := ⟨_, rfl⟩
  rw [hn] at hl hm HR ⊢
  have HN := Lib.hid hn
  clear hr hc hn
  go_enter Tryz.func45, Tryz.ntmps45
  go_wp2_with fail
  go_loopw [8] (fun v wx => ∃ i : Nat, v = .int .i64 (i : Int) ∧ i ≤ n ∧ Hid (Below w.heap.size w wx) ∧ Hid (hasN nm (l.take i) = false)) (fun v _ => n - (intOf v).toNat)
  case atStart => exact ⟨0, rfl, Nat.zero_le _, Lib.hid (Below.refl _ _), Lib.hid rfl⟩
  case round =>
    obtain ⟨i, rfl, hi, HW, HD⟩ := hrel
    by_cases hlt : i < n
    · have q1 : decide ((i : Int) < (n : Int)) = true := decide_eq_true (by omega)
      have i0 : (0 : Int) ≤ (i : Int) := by omega
      have i1 : (i : Int) < (n : Int) := by omega
      have hll : i < l.length := by rw [HN.out]; exact hlt
      obtain ⟨ad, rfl, hx0, hx1⟩ := at_T28 (Kd.C_below HR.out HW.out) (i : Int) i0 i1
      have hrd : rd_T28 l (i : Int) = l[i] := by unfold rd_T28; rw [Int.toNat_natCast, List.getD_eq_getElem?_getD, List.getElem?_eq_getElem hll]; rfl
      rw [hrd, Int.toNat_natCast] at hx0 hx1
      obtain ⟨x, hx⟩ : ∃ x, l[i].f0 = x := ⟨_, rfl⟩
      obtain ⟨y, hy⟩ : ∃ y, l[i].f1 = y := ⟨_, rfl⟩
      rw [hx] at hx0
      rw [hy] at hx1
      have C1 := Lib.hid (CL.out x y _ ((HW.out.cell (World.block_lt_of_cell? w _ HC.out)).trans HC.out))
      have htk : l.take (i + 1) = l.take i ++ [l[i]] := List.take_succ_eq_append_getElem hll
      have hsplit : hasN nm (l.take (i + 1)) = (x.toList == nm.toList) := by
        unfold hasN
        rw [htk, List.any_append]
        have := HD.out
        unfold hasN at this
        rw [this]; simp [hx]
      have hall : (x.toList == nm.toList) = true → hasN nm l = true := fun h => by
        unfold hasN
        rw [List.any_eq_true]
        exact ⟨l[i], List.getElem_mem hll, by rw [hx]; exact h⟩
      obtain ⟨b, hb⟩ : ∃ b, (x.toList == nm.toList) = b := ⟨_, rfl⟩
      rw [hb] at C1 hsplit hall
      have HSP := Lib.hid hsplit
      have HALL := Lib.hid hall
      clear hrd hx hy htk hsplit hall hb
      cases b with
      | true =>
        have HX := Lib.hid (HALL.out rfl)
        go_wp2_with fail
        refine C1.out.mono ?_
        rintro e w1 ⟨rfl, hb⟩
        have HW2 := Lib.hid (HW.out.trans (hb.mono HW.out.size))
        clear hb
        go_wp2_with fail
        go_ret
        exact ⟨⟨(i : Int), rfl, by rw [HX.out, decide_eq_true (by omega)]⟩, HW2.out⟩
      | false =>
        go_wp2_with fail
        refine C1.out.mono ?_
        rintro e w1 ⟨rfl, hb⟩
        have HW2 := Lib.hid (HW.out.trans (hb.mono HW.out.size))
        clear hb
        go_wp2_with fail
        go_roundw
        case rel => exact ⟨i + 1, by go_num, by omega, HW2, HSP⟩
        case measure => simp [intOf]; omega
    · obtain rfl : i = n := by omega
      have HX : Hid (hasN nm l = false) := Lib.hid (by have := HD.out; rwa [← HN.out, List.take_length] at this)
      go_wp2_with fail
      go_ret
      exact ⟨⟨-1, rfl, by rw [HX.out]; rfl⟩, HW.out⟩
set_option maxRecDepth 100000 in
set_option maxHeartbeats 2000000 in
theorem contains_c (A : Option Addr) (c : Nat) (l : List AtS) (nm : ByteArray) (ga : Nat) (w : World) (hr : Kd.C atK w A l.length l) (hl : l.length ≤ c) (hm : l.length ≤ 1000000) (hc : w.cell? ⟨ga, 0, none⟩ = some (.string nm)) :
    Calls Tryz.prog 28 #[.slice A l.length c, .func (.func 29) #[] #[.pointer (some ⟨ga, 0, none⟩)]] w fun e w' =>
      e = .returned (.bool (hasN nm l)) ∧ Below w.heap.size w w' := by
  have I := Lib.hid (indexF_c A c l nm ga w hr hl hm hc)
  obtain ⟨n, hn⟩ : ∃ n, l.length = n := ⟨_, rfl⟩
  obtain ⟨R, hR⟩ : ∃ R, hasN nm l = R := ⟨_, rfl⟩
  rw [hn, hR] at I
  rw [hn, hR]
  clear hr hl hm hc hn hR
  go_enter Tryz.func28, Tryz.ntmps28
  go_wp2_with fail
  refine I.out.mono ?_
  rintro e w1 ⟨⟨r, rfl, hr⟩, hb⟩
  go_wp2_with fail
  go_ret
  exact ⟨by rw [← hr]; rfl, hb⟩
end Go.Proofs.YtdheknlnhfegnaaGreatDoor.Hand

namespace Go.Proofs.YtdheknlnhfegnaaGreatDoor.Hand
open Go.RowKit

/-- As Q; by a goto: J. -/
def Exit.jumps (J : Nat → Act → World → Prop) (Q : Exit → Act → World → Prop) : Exit → Act → World → Prop
  | .goto l, a, w => J l a w
  | e, a, w => Q e a w
section
variable {P : Program} {a : Act} {w : World} {Q : Exit → Act → World → Prop}
@[go_sem] theorem Exit.jumps_ret {J : Nat → Act → World → Prop} : Exit.jumps J Q .ret a w = Q .ret a w := rfl
@[go_sem] theorem Exit.jumps_normal {J : Nat → Act → World → Prop} : Exit.jumps J Q .normal a w = Q .normal a w := rfl
@[go_sem] theorem Exit.jumps_exit {J : Nat → Act → World → Prop} (id : Nat) : Exit.jumps J Q (.exit id) a w = Q (.exit id) a w := rfl
@[go_sem] theorem Exit.jumps_panic {J : Nat → Act → World → Prop} (ch : List PanicEntry) : Exit.jumps J Q (.panic ch) a w = Q (.panic ch) a w := rfl
theorem Exit_jumps_mono {J J' : Nat → Act → World → Prop} (h : ∀ l a w, J l a w → J' l a w) : ∀ e a w, Exit.jumps J Q e a w → Exit.jumps J' Q e a w := by
  intro e a w hq
  cases e with
  | goto l' => exact h _ _ _ hq
  | _ => exact hq

theorem wp_scope_gen {c : Code} (J : Nat → Nat → Act → World → Prop)
    (pass : ∀ l g a w, J l g a w → ∃ rest, findLabel c l = some rest ∧ rest.wp P (Exit.jumps (fun l' a' w' => ∃ g', g' < g ∧ J l' g' a' w') Q) a w)
    (first : c.wp P (Exit.jumps (fun l a w => ∃ g, J l g a w) Q) a w) : (Code.scope c).wp P Q a w := by
  intro b k cs
  have key : ∀ g l a w, J l g a w → ∃ rest, findLabel c l = some rest ∧ ∃ e a' w', Q e a' w' ∧ Arrives P (lone (b.at a (.code rest :: .inScope c :: k)) cs w) b k cs e a' w' := by
    intro g
    induction g using Nat.strongRecOn with
    | _ g ih =>
      intro l a w hJ
      obtain ⟨rest, hf, hp⟩ := pass l g a w hJ
      refine ⟨rest, hf, ?_⟩
      obtain ⟨e, a₁, w₁, hq, harr⟩ := hp b (.inScope c :: k) cs
      cases e with
      | normal => exact ⟨.normal, a₁, w₁, hq, Steps.trans harr (.one step_inScope)⟩
      | exit id => exact ⟨.exit id, a₁, w₁, hq, fun k' hk => harr k' (by simp [exitTo, hk])⟩
      | goto l' =>
        obtain ⟨g', hlt, hJ'⟩ := hq
        obtain ⟨rest', hf', e₂, a₂, w₂, hq₂, harr₂⟩ := ih g' hlt l' a₁ w₁ hJ'
        have hg : gotoIn l' (.inScope c :: k) = some (.code rest' :: .inScope c :: k) := by simp [gotoIn, hf']
        exact ⟨e₂, a₂, w₂, hq₂, .of_steps (harr _ hg) harr₂⟩
      | ret => exact ⟨_, a₁, w₁, hq, harr⟩
      | panic ch => exact ⟨_, a₁, w₁, hq, harr⟩
      | outgrown => exact ⟨_, a₁, w₁, hq, harr⟩
  obtain ⟨e, a₁, w₁, hq, harr⟩ := first b (.inScope c :: k) cs
  cases e with
  | normal => exact ⟨.normal, a₁, w₁, hq, .head step_scope (Steps.trans harr (.one step_inScope))⟩
  | exit id => exact ⟨.exit id, a₁, w₁, hq, fun k' hk => .head step_scope (harr k' (by simp [exitTo, hk]))⟩
  | goto l' =>
    obtain ⟨g', hJ'⟩ := hq
    obtain ⟨rest', hf', e₂, a₂, w₂, hq₂, harr₂⟩ := key g' l' a₁ w₁ hJ'
    have hg : gotoIn l' (.inScope c :: k) = some (.code rest' :: .inScope c :: k) := by simp [gotoIn, hf']
    exact ⟨e₂, a₂, w₂, hq₂, .of_steps (.head step_scope (harr _ hg)) harr₂⟩
  | ret => exact ⟨_, a₁, w₁, hq, .of_steps (.one step_scope) harr⟩
  | panic ch => exact ⟨_, a₁, w₁, hq, .of_steps (.one step_scope) harr⟩
  | outgrown => exact ⟨_, a₁, w₁, hq, .of_steps (.one step_scope) harr⟩

/-- One label, come back to: B is what stands behind it. -/
theorem wp_scope_back {c B : Code} (l : Nat) (J : Nat → Act → World → Prop) (hf : findLabel c l = some (.seq .skip B))
    (first : (∀ g a w, J g a w → B.wp P (Exit.jumps (fun l' a' w' => l' = l ∧ ∃ g', J g' a' w') Q) a w) → c.wp P (Exit.jumps (fun l' a' w' => l' = l ∧ ∃ g', J g' a' w') Q) a w)
    (pass : ∀ g a w, J g a w → B.wp P (Exit.jumps (fun l' a' w' => l' = l ∧ ∃ g', g' < g ∧ J g' a' w') Q) a w) : (Code.scope c).wp P Q a w := by
  refine wp_scope_gen (fun l' g a w => l' = l ∧ J g a w) ?_ ?_
  · rintro l' g a w ⟨rfl, hJ⟩
    exact ⟨_, hf, wp_seq (wp_skip (wp_mono (pass g a w hJ) (Exit_jumps_mono fun l'' a' w' ⟨e, g', hg, h⟩ => ⟨g', hg, e, h⟩)))⟩
  · refine wp_mono (first fun g a w hJ => wp_mono (pass g a w hJ) (Exit_jumps_mono fun l'' a' w' ⟨e, g', _, h⟩ => ⟨e, g', h⟩)) (Exit_jumps_mono fun l'' a' w' ⟨e, g', h⟩ => ⟨g', e, h⟩)
end
end Go.Proofs.YtdheknlnhfegnaaGreatDoor.Hand

namespace Go.Proofs.YtdheknlnhfegnaaGreatDoor.Hand
open Go Go.RowKit Go.Proofs.YtdheknlnhfegnaaGreatDoor.K0 Go.Proofs.YtdheknlnhfegnaaGreatDoor.Pl Go.Proofs.YtdheknlnhfegnaaGreatDoor.Pb Go.Proofs.YtdheknlnhfegnaaGreatDoor.Sx Go.Proofs.YtdheknlnhfegnaaGreatDoorW.PrintWords Go.Proofs.YtdheknlnhfegnaaGreatDoorW.PrintLast Go.Proofs.YtdheknlnhfegnaaGreatDoorW.PrintMore

def ofT (x : AttrT) : AtS := ⟨B x.1, B x.2⟩
theorem has_of (nm : List UInt8) (L : List AttrT) : hasN (B nm) (L.map ofT) = L.any (fun a => a.1 == nm) := by
  unfold hasN
  rw [List.any_map]
  congr 1
  funext a
  show ((B a.1).toList == (B nm).toList) = _
  rw [toList_B, toList_B]
def slotA (a : Act) (i : Nat) : Value := a.tmps.getD i undef
def AtF (a : ByteArray) (at_ : Int) (g : Nat) (v : Value) (wh : Bool) (u : Nat → Value) : Act :=
  { tmps := #[.string a, .int .i64 at_, u 2, u 3, v, .bool false, .int .i64 0, .bool false, .pointer (some ⟨g, 0, none⟩), .pointer (some ⟨g + 1, 0, none⟩), .bool wh, u 11, u 12, u 13, u 14, u 15, u 16, u 17, u 18, u 19, u 20, u 21, u 22, u 23, u 24, u 25, u 26, u 27, u 28, u 29, u 30, u 31, u 32, u 33, u 34, u 35, u 36, u 37, u 38, u 39, u 40, u 41, u 42, u 43, u 44, u 45, u 46, u 47, u 48, u 49, u 50, u 51, u 52, u 53, u 54, u 55, u 56, u 57, u 58, u 59, u 60, u 61, u 62, u 63, u 64, u 65, u 66, u 67, u 68, u 69, u 70, u 71, u 72, u 73, u 74, u 75, u 76, u 77, u 78, u 79, u 80, u 81, u 82, u 83, u 84, u 85, u 86, u 87, u 88, u 89, u 90, u 91, u 92, u 93, u 94, u 95], defers := [] }

def okA (g : Nat) (k : Nat) : Prop := k ≠ g ∧ k ≠ g + 1
/-- what lies in memory while attributes are read -/
structure ASt (w W : World) (s : List UInt8) (pos : Nat) (x y : ByteArray) (v : Value) (l : List AtS) : Prop where
  rd : Rdr w W w.heap.size s pos
  blk : W.heap[w.heap.size + 1]? = some (.cells #[.string x, .string y] 28 (0, 0))
  row : Kd.R atK 28 W w.heap.size (okA w.heap.size) v l
  below : Below w.heap.size w W
section
variable {w W W' : World} {s : List UInt8} {pos pos' : Nat} {x y : ByteArray} {v : Value} {l : List AtS} (h : ASt w W s pos x y v l)
include h
theorem ASt.lt : w.heap.size + 1 < W.heap.size := blk_lt h.blk
theorem ASt.step (h2 : Rdr w W' w.heap.size s pos' ∧ Below w.heap.size w W' ∧ KeepBut W W' w.heap.size none) : ASt w W' s pos' x y v l :=
  ⟨h2.1, (h2.2.2.2 _ h.lt (by omega) (by simp)).trans h.blk, Kd.R_keep h.row h2.2.2 (fun _ hk => hk.1), h2.2.1⟩
theorem ASt.call (hb : Below W.heap.size W W') : ASt w W' s pos x y v l :=
  ⟨h.rd.below hb, (hb.block _ h.lt).trans h.blk, Kd.R_below h.row hb, h.below.trans (hb.mono h.below.size)⟩
theorem ASt.drewN (n : Nat) : ASt w (W.drewN n) s pos x y v l := h.call (below_drewN _ _)
theorem ASt.setx (z : ByteArray) : ASt w (W.setCell ⟨w.heap.size + 1, 0, none⟩ (.string z)) s pos z y v l :=
  ⟨h.rd.far (by simp) _, by simpa using blk_set h.blk 0 (.string z), Kd.R_far (p := ⟨w.heap.size + 1, 0, none⟩) h.row (fun _ hk => hk.2) _, h.below.setCell (by simp) _⟩
theorem ASt.sety (z : ByteArray) : ASt w (W.setCell ⟨w.heap.size + 1, 1, none⟩ (.string z)) s pos x z v l :=
  ⟨h.rd.far (by simp) _, by simpa using blk_set h.blk 1 (.string z), Kd.R_far (p := ⟨w.heap.size + 1, 1, none⟩) h.row (fun _ hk => hk.2) _, h.below.setCell (by simp) _⟩
theorem ASt.setp (z : Nat) : ASt w (W.setCell ⟨w.heap.size, 1, none⟩ (.int .i64 (z : Int))) s z x y v l :=
  ⟨h.rd.set_1 _, (blk_far h.blk (by simp) _), Kd.R_far (p := ⟨w.heap.size, 1, none⟩) h.row (fun _ hk => hk.1) _, h.below.setCell (Nat.le_refl _) _⟩
theorem ASt.grown {v1 : Value} {l1 : List AtS} (hr : Kd.R atK 28 W' w.heap.size (okA w.heap.size) v1 l1) (hb : Below w.heap.size w W') (hg : W.grownBy W' v.ownBlock) : ASt w W' s pos x y v1 l1 :=
  ⟨h.rd.grown hg (fun e => (h.row.1 _ e.symm).1 rfl), (hg.block _ h.lt (fun e => (h.row.1 _ e.symm).2 rfl)).trans h.blk, hr, hb⟩
theorem ASt.c0 : W.cell? ⟨w.heap.size, 0, none⟩ = some (.string (B s)) := cellS46_0 h.rd.1
theorem ASt.c1 : W.cell? ⟨w.heap.size, 1, none⟩ = some (.int .i64 (pos : Int)) := cellS46_1 h.rd.1
theorem ASt.f1 : W.frozen? ⟨w.heap.size, 1, none⟩ = false := blk_frozen h.rd.1 1
theorem ASt.d0 : W.cell? ⟨w.heap.size + 1, 0, none⟩ = some (.string x) := (blk_cell h.blk 0).trans rfl
theorem ASt.d1 : W.cell? ⟨w.heap.size + 1, 1, none⟩ = some (.string y) := (blk_cell h.blk 1).trans rfl
theorem ASt.g0 : W.frozen? ⟨w.heap.size + 1, 0, none⟩ = false := blk_frozen h.blk 0
theorem ASt.g1 : W.frozen? ⟨w.heap.size + 1, 1, none⟩ = false := blk_frozen h.blk 1
end
theorem infoA : (Tryz.prog.info? 28).map (fun i => (i.zero, i.size, i.bytes)) = some (some (.agg #[.string ⟨#[]⟩, .string ⟨#[]⟩]), 2, 32) := by kernel_rfl
/-- what is told of attributes -/
noncomputable def atRes (s : List UInt8) (R : Option (List AttrT × Bool × List UInt8)) : List AtS × Bool × Int × Bool :=
  match R with
  | none => ([], false, (s.length : Int), false)
  | some (L, self, r) => (L.map ofT, self, ((s.length - r.length : Nat) : Int), true)
def AtJ (a : ByteArray) (at_ : Int) (s : List UInt8) (w : World) (R : Option (List AttrT × Bool × List UInt8)) (n : Nat) (a' : Act) (W : World) : Prop :=
  ∃ (pos : Nat) (x y : ByteArray) (v : Value) (wh : Bool) (L : List AttrT), a' = AtF a at_ w.heap.size v wh (slotA a') ∧ Hid (ASt w W s pos x y v (L.map ofT)) ∧ pos ≤ s.length ∧ s.length - pos < n ∧ L.length ≤ pos ∧ Hid (attrL L (s.drop pos) = R)
theorem nm_upC : upC [47, 62, 61] = nmC := by
  funext c
  have : ∀ n : Fin 256, upC [47, 62, 61] (UInt8.ofNat n.val) = nmC (UInt8.ofNat n.val) := by decide +kernel
  have h := this ⟨c.toNat, c.toNat_lt⟩
  simpa using h
/-- the ways on behind blanks -/
theorem attrL_end {L : List AttrT} {s : List UInt8} {pos : Nat} (h : pos + spc (s.drop pos) = s.length) : attrL L (s.drop pos) = none := by
  rw [attrL_eq, ← sp_at, h, List.drop_length]
theorem attrL_at {L : List AttrT} {s : List UInt8} {pos p : Nat} (hp : pos + spc (s.drop pos) = p) (h : p < s.length) : attrL L (s.drop pos) =
      (if s[p] = 62 then some (L, false, s.drop (p + 1))
      else if s[p] = 47 then (match s.drop (p + 1) with
        | [] => none
        | d :: r' => if d = 62 then some (L, true, r') else attrL L (d :: r'))
      else match valA ((s.drop (p + 1)).dropWhile nmC) with
        | none => none
        | some (v, r') => attrL (addA L (s[p] :: (s.drop (p + 1)).takeWhile nmC) v) r') := by
  conv => lhs; rw [attrL_eq, ← sp_at, hp, List.drop_eq_getElem_cons h]
  all_goals rfl
theorem isB_at {s : List UInt8} {p : Nat} (h : p < s.length) (c : UInt8) : isB c (s.drop p) = (s[p] == c) := by
  unfold isB
  rw [List.head?_drop, List.getElem?_eq_getElem h, Bool.eq_iff_iff, beq_iff_eq, beq_iff_eq]
  exact ⟨Option.some.inj, congrArg some⟩
theorem beg_close {s : List UInt8} {p : Nat} (h : p < s.length) : begR (s.drop p) [47, 62] = (s[p] == 47 && s[p + 1]? == some 62) := by
  have l47 : ∀ n : Fin 256, (lowB (UInt8.ofNat n.val) == 47) = (UInt8.ofNat n.val == 47) := by decide +kernel
  have l62 : ∀ n : Fin 256, (lowB (UInt8.ofNat n.val) == 62) = (UInt8.ofNat n.val == 62) := by decide +kernel
  have e1 := l47 ⟨s[p].toNat, s[p].toNat_lt⟩
  simp only [UInt8.ofNat_toNat] at e1
  rw [List.drop_eq_getElem_cons h, begR, e1]
  congr 1
  cases hd : s.drop (p + 1) with
  | nil =>
    have := List.drop_eq_nil_iff.1 hd
    rw [List.getElem?_eq_none (by omega)]; rfl
  | cons d r =>
    have hg : s[p + 1]? = some d := by have := congrArg List.head? hd; rwa [List.head?_drop] at this
    have e2 := l62 ⟨d.toNat, d.toNat_lt⟩
    simp only [UInt8.ofNat_toNat] at e2
    rw [hg, begR, e2]
    simp [begR]
set_option maxRecDepth 100000 in
set_option maxHeartbeats 16000000 in
theorem attrs_c (s : List UInt8) (at_ : Nat) (hs : s.length ≤ 100000) (hat : at_ ≤ s.length) (w : World) (hGl : Glob w) :
    Calls Tryz.prog 8 #[.string (B s), .int .i64 (at_ : Int)] w fun e w' => (∃ v, e = .returned (.tuple #[v, .bool (atRes s (attrL [] (s.drop at_))).2.1, .int .i64 (atRes s (attrL [] (s.drop at_))).2.2.1, .bool (atRes s (attrL [] (s.drop at_))).2.2.2]) ∧
      Kd.R atK 28 w' w.heap.size (fun _ => True) v (atRes s (attrL [] (s.drop at_))).1) ∧ Below w.heap.size w w' := by
  have HG := Lib.hid hGl
  have SP := Lib.hid (fun W p (hp : p ≤ s.length) hI hB => spaces_c w W w.heap.size s p (by omega) hp hI hB)
  have IS := Lib.hid (fun c W p hI hB => is_c c w W w.heap.size s p hI hB)
  have UP := Lib.hid (fun W p (hp : p < s.length) hI hB => upTo_c [47, 62, 61] w W w.heap.size s p (by omega) hp hI hB)
  have VA := Lib.hid (fun W p (hp : p ≤ s.length) hI hB => value_c w W w.heap.size s p (by omega) hp hI hB)
  have BG := Lib.hid (fun p (hp : p ≤ s.length) W => nbegins_c s [47, 62] p (by omega) (by decide) hp W)
  have LW : Hid (∀ l : List UInt8, l.length ≤ 1000000 → ∀ W, Calls Tryz.prog 25 #[.string (B l)] W fun e w' => e = .returned (.string (B (lowL l))) ∧ Below W.heap.size W w') := Lib.hid (fun l hl W => by
    have := lower_any (B l) W (by rw [size_B]; omega)
    unfold lowBA at this
    rw [B_data] at this
    exact this)
  have CLN : Hid (∀ l : List UInt8, l.length ≤ 10000000 → ∀ W, Glob W → Calls Tryz.prog 9 #[.string (B l)] W fun e w' => e = .returned (.string (B (cleanL l))) ∧ Below W.heap.size W w') := Lib.hid (fun l hl W hG => by
    have := clean_any (B l) W (by rw [size_B]; omega) hG
    unfold cleanBA at this
    rw [B_data] at this
    exact this)
  have RD := Lib.hid (fun (l : List UInt8) (hl : l.length ≤ 100000) W hG => rdecode_c l true hl W hG hG.toE)
  have CT := Lib.hid (fun A c l nm W hr hl hm hc => contains_c A c l nm (w.heap.size + 1) W hr hl hm hc)
  have HSL := Lib.hid hs
  obtain ⟨R, hR⟩ : ∃ R, attrL [] (s.drop at_) = R := ⟨_, rfl⟩
  have HR := Lib.hid hR
  rw [hR]
  obtain ⟨a, ha⟩ : ∃ a, B s = a := ⟨_, rfl⟩
  have hsz : a.size = s.length := by rw [← ha]; simp
  have HA := Lib.hid ha
  have HSZ := Lib.hid hsz
  rw [ha] at BG
  have hz : a.size ≤ 100000 := by omega
  have q1 : decide ((at_ : Int) < 0) = false := decide_eq_false (by omega)
  have q2 : decide (a.size < at_) = false := decide_eq_false (by omega)
  have HAT := Lib.hid hat
  have hS0 : Hid (ASt w ((w.alloc (.cells #[.string a, .int .i64 (at_ : Int)] 46)).alloc (.cells #[.string ⟨#[]⟩, .string ⟨#[]⟩] 28)) s at_ ⟨#[]⟩ ⟨#[]⟩ (.slice none 0 0) []) := Lib.hid (by
    have h1 := IsS46.new w w a (at_ : Int) (Below.refl _ _)
    have e : Rdr w (w.alloc (.cells #[.string a, .int .i64 (at_ : Int)] 46)) w.heap.size s at_ := by show IsS46 _ _ _ (B s) _; rw [ha]; exact h1
    refine ⟨e.alloc _, ?_, Kd.R_nil _ _ _ _ _, below_alloc (below_alloc (Below.refl _ _) _) _⟩
    have := heap_alloc_new (w.alloc (.cells #[.string a, .int .i64 (at_ : Int)] 46)) (.cells #[.string ⟨#[]⟩, .string ⟨#[]⟩] 28)
    simpa using this)
  rw [ha]
  clear hGl hs hR ha hsz hat
  go_enter Tryz.func8, Tryz.ntmps8
  go_wp2_with fail
  refine wp_scope_back 0 (AtJ a (at_ : Int) s w R) rfl ?_ ?_
  · intro hB
    have HB := Lib.hid hB
    clear hB
    go_wp2_with fail
    refine wp_label_k (by assumption) (HB.out (s.length - at_ + 1) _ _ ?_)
    exact ⟨at_, ⟨#[]⟩, ⟨#[]⟩, .slice none 0 0, false, [], rfl, hS0, HAT.out, Nat.lt_succ_self _, Nat.zero_le _, HR⟩
  · rintro n a' W ⟨pos, x, y, v, wh, L, hu, HS, hp, hn, hL, HQ⟩
    obtain ⟨u, rfl⟩ : ∃ u, a' = AtF a (at_ : Int) w.heap.size v wh u := ⟨_, hu⟩
    clear hu
    clear hS0
    unfold AtF
    go_wp2_with fail
    refine (SP.out _ pos hp HS.out.rd HS.out.below).mono ?_
    rintro e w1 ⟨rfl, h2⟩
    replace HS := Lib.hid (HS.out.step h2)
    clear h2
    have hp1 := spc_le s pos hp
    obtain ⟨p, hpe⟩ : ∃ p, pos + spc (s.drop pos) = p := ⟨_, rfl⟩
    rw [hpe] at HS hp1
    have HPE := Lib.hid hpe
    have hpp : pos ≤ p := by omega
    have hpb : p ≤ 100000 := by have := HSL.out; omega
    have c0 := HS.out.c0
    have c1 := HS.out.c1
    rw [HA.out] at c0
    clear hpe
    by_cases hend : p = s.length
    · have qe : ((p : Int) == (a.size : Int)) = true := by rw [beq_iff_eq]; have := HSZ.out; omega
      have qe2 : (p == a.size) = true := by rw [beq_iff_eq]; have := HSZ.out; omega
      have hRn : R = none := by rw [← HQ.out]; exact attrL_end (by rw [HPE.out]; exact hend)
      have HRn := Lib.hid hRn
      clear hend hRn
      go_wp2_with fail
      simp only [Exit.jumps]
      refine bodyPost_ret (v := .tuple #[.slice none 0 0, .bool false, .int .i64 (a.size : Int), .bool false]) (by simp [results, Tryz.results8, go_sem]) rfl ?_
      rw [HRn.out]
      exact ⟨⟨_, by rw [HSZ.out]; rfl, Kd.R_nil _ _ _ _ _⟩, HS.out.below⟩
    have hlt : p < s.length := by omega
    have qe : ((p : Int) == (a.size : Int)) = false := by rw [beq_eq_false_iff_ne]; have := HSZ.out; omega
    have qe2 : (p == a.size) = false := by rw [beq_eq_false_iff_ne]; have := HSZ.out; omega
    have hQ := attrL_at (L := L) HPE.out hlt
    rw [HQ.out] at hQ
    obtain ⟨c, hc⟩ : ∃ c, s[p] = c := ⟨_, rfl⟩
    rw [hc] at hQ
    have I62 := IS.out 62 _ p HS.out.rd HS.out.below
    rw [isB_at hlt, hc] at I62
    have HI62 := Lib.hid I62
    have HQ2 := Lib.hid hQ
    have HC := Lib.hid hc
    clear I62 hQ hc HQ hend
    by_cases h62 : c = 62
    · have e62 : (c == 62) = true := by rw [h62]; rfl
      have hRn : R = some (L, false, s.drop (p + 1)) := by rw [HQ2.out, if_pos h62]
      have HRn := Lib.hid hRn
      rw [e62] at HI62
      clear h62 e62 hRn
      go_wp2_with fail
      refine HI62.out.mono ?_
      rintro e w2 ⟨rfl, h2⟩
      replace HS := Lib.hid (HS.out.step h2)
      clear h2 c0 c1
      have c1 := HS.out.c1
      go_wp2_with fail
      go_quiet (fail)
      go_wp2_with fail
      simp only [Exit.jumps]
      refine bodyPost_ret (v := .tuple #[v, .bool false, .int .i64 ((p : Int) + 1), .bool true]) (by simp [results, Tryz.results8, go_sem]) rfl ?_
      rw [HRn.out]
      have hS2 := HS.out.drewN (w2.drewN 0 |> fun _ => 0)
      refine ⟨⟨v, ?_, Kd.R_mono (HS.out.drewN _).row (fun _ _ => trivial)⟩, (HS.out.drewN _).below⟩
      have : s.length - (s.drop (p + 1)).length = p + 1 := by rw [List.length_drop]; omega
      simp only [atRes, this]; rfl
    have e62 : (c == 62) = false := by rw [beq_eq_false_iff_ne]; exact h62
    rw [e62] at HI62
    have hQ3 := HQ2.out
    rw [if_neg h62] at hQ3
    have HQ3 := Lib.hid hQ3
    have B1 := fun W => BG.out p hp1 W
    rw [beg_close hlt, HC.out] at B1
    obtain ⟨bc, hbc⟩ : ∃ b, (c == 47 && s[p + 1]? == some 62) = b := ⟨_, rfl⟩
    rw [hbc] at B1
    have HB1 := Lib.hid B1
    have HBC := Lib.hid hbc
    clear hQ3 B1 hbc e62 HQ2
    have h62' := Lib.hid h62
    clear h62
    go_wp2_with fail
    refine HI62.out.mono ?_
    rintro e w2 ⟨rfl, h2⟩
    replace HS := Lib.hid (HS.out.step h2)
    clear h2 c0 c1 HI62
    have c1 := HS.out.c1
    go_wp2_with fail
    refine (HB1.out _).mono ?_
    rintro e w3 ⟨rfl, hb⟩
    replace HS := Lib.hid (HS.out.call hb)
    clear hb c1 HB1
    have c1 := HS.out.c1
    cases bc with
    | true =>
      have hcc := HBC.out
      rw [Bool.and_eq_true, beq_iff_eq, beq_iff_eq] at hcc
      obtain ⟨h47, hg⟩ := hcc
      have hlt2 : p + 1 < s.length := (List.getElem?_eq_some_iff.1 hg).1
      have hd1 : s.drop (p + 1) = 62 :: s.drop (p + 2) := by rw [List.drop_eq_getElem_cons hlt2, (List.getElem?_eq_some_iff.1 hg).2]
      have hRn : R = some (L, true, s.drop (p + 2)) := by rw [HQ3.out, if_pos h47, hd1]; simp
      have HRn := Lib.hid hRn
      clear h47 hg hd1 hRn
      go_wp2_with fail
      go_quiet (fail)
      go_wp2_with fail
      simp only [Exit.jumps]
      refine bodyPost_ret (v := .tuple #[v, .bool true, .int .i64 ((p : Int) + 2), .bool true]) (by simp [results, Tryz.results8, go_sem]) rfl ?_
      rw [HRn.out]
      refine ⟨⟨v, ?_, Kd.R_mono (HS.out.drewN _).row (fun _ _ => trivial)⟩, (HS.out.drewN _).below⟩
      have : s.length - (s.drop (p + 2)).length = p + 2 := by rw [List.length_drop]; omega
      simp only [atRes, this]; rfl
    | false =>
      have I47 := IS.out 47 _ p HS.out.rd HS.out.below
      rw [isB_at hlt, HC.out] at I47
      by_cases h47 : c = 47
      · have e47 : (c == 47) = true := by rw [h47]; rfl
        rw [e47] at I47
        have HI47 := Lib.hid I47
        have hn62 : s[p + 1]? ≠ some 62 := by
          intro e
          have := HBC.out
          rw [e47, e] at this
          cases this
        have hQ4 : attrL L (s.drop (p + 1)) = R := by
          rw [HQ3.out, if_pos h47]
          cases hd : s.drop (p + 1) with
          | nil =>
            have e : attrL L ([] : List UInt8) = none := by rw [attrL_eq]; rfl
            rw [e]
          | cons d r =>
            have hg : s[p + 1]? = some d := by have := congrArg List.head? hd; rwa [List.head?_drop] at this
            simp only
            rw [if_neg (by rintro rfl; exact hn62 hg)]
        have HQ4 := Lib.hid hQ4
        clear I47 e47 hn62 hQ4 h47 HQ3
        go_wp2_with fail
        refine HI47.out.mono ?_
        rintro e w4 ⟨rfl, h2⟩
        replace HS := Lib.hid (HS.out.step h2)
        clear h2 c1 HI47
        have c1 := HS.out.c1
        have f1 := HS.out.f1
        have HSP := HS.out.setp (p + 1)
        rw [show ((p + 1 : Nat) : Int) = (p : Int) + 1 by omega] at HSP
        have HSP2 := Lib.hid HSP
        clear HSP
        go_wp2_with fail
        go_step3
        exact ⟨rfl, s.length - (p + 1) + 1, by omega, p + 1, x, y, v, wh, L, rfl, HSP2, by omega, Nat.lt_succ_self _, by omega, HQ4⟩
      · have e47 : (c == 47) = false := by rw [beq_eq_false_iff_ne]; exact h47
        rw [e47] at I47
        have HI47 := Lib.hid I47
        have hQ4 := HQ3.out
        rw [if_neg h47] at hQ4
        obtain ⟨nm, hnm⟩ : ∃ nm, c :: (s.drop (p + 1)).takeWhile nmC = nm := ⟨_, rfl⟩
        have hnl : nm.length ≤ 100000 := by
          have h1 := tw_len nmC (s.drop (p + 1))
          rw [List.length_drop] at h1
          have h2 := HSL.out
          rw [← hnm, List.length_cons]; omega
        obtain ⟨p2, hp2⟩ : ∃ p2, p + 1 + ((s.drop (p + 1)).takeWhile nmC).length = p2 := ⟨_, rfl⟩
        have hp2l : p2 ≤ s.length := by
          have h1 := tw_len nmC (s.drop (p + 1))
          rw [List.length_drop] at h1
          omega
        have hp2g : p + 1 ≤ p2 := by omega
        rw [dw_drop, List.drop_drop, hp2, hnm] at hQ4
        have HQ4 := Lib.hid hQ4
        have UPc := fun W hI hB => UP.out W p hlt hI hB
        rw [nm_upC, hp2, HC.out, hnm] at UPc
        have HUP := Lib.hid UPc
        have LWn := Lib.hid (LW.out nm (by omega))
        have hll : (lowL nm).length ≤ 100000 := by unfold lowL; rw [List.length_map]; exact hnl
        have CLn := Lib.hid (CLN.out (lowL nm) (by omega))
        obtain ⟨ln, hln⟩ : ∃ ln, lowL nm = ln := ⟨_, rfl⟩
        obtain ⟨cn, hcn⟩ : ∃ cn, cleanL ln = cn := ⟨_, rfl⟩
        rw [hln] at LWn CLn
        rw [hcn] at CLn
        have HCN : Hid (cleanL (lowL nm) = cn) := Lib.hid (by rw [hln, hcn])
        have HP2 := Lib.hid hp2l
        clear I47 e47 hQ4 h47 HQ3 hnm hp2 UPc hll hln hcn hnl
        go_wp2_with fail
        refine HI47.out.mono ?_
        rintro e w4 ⟨rfl, h2⟩
        replace HS := Lib.hid (HS.out.step h2)
        clear h2 c1 HI47
        go_wp2_with fail
        refine (HUP.out _ HS.out.rd HS.out.below).mono ?_
        rintro e w5 ⟨rfl, h2⟩
        replace HS := Lib.hid (HS.out.step h2)
        clear h2 HUP
        go_wp2_with fail
        refine (LWn.out _).mono ?_
        rintro e w6 ⟨rfl, hb⟩
        replace HS := Lib.hid (HS.out.call hb)
        clear hb LWn
        go_wp2_with fail
        refine (CLn.out _ (HG.out.step HS.out.below)).mono ?_
        rintro e w7 ⟨rfl, hb⟩
        replace HS := Lib.hid (HS.out.call hb)
        clear hb CLn
        have d0 := HS.out.d0
        have g0 := HS.out.g0
        have HSX := Lib.hid (HS.out.setx (B cn))
        have V1 := Lib.hid (VA.out _ p2 HP2.out HSX.out.rd HSX.out.below)
        go_wp2_with fail
        refine V1.out.mono ?_
        rintro e w8 ⟨⟨vv, b, p4, hvo, rfl, hrd⟩, hbw, hkp⟩
        replace HS := Lib.hid (HSX.out.step ⟨hrd, hbw, hkp⟩)
        clear hrd hbw hkp V1 HSX d0 g0
        have HVO := Lib.hid hvo
        clear hvo
        have d1 := HS.out.d1
        have g1 := HS.out.g1
        cases b with
        | false =>
          have hRn : R = none := by
            rw [HQ4.out]
            rcases HVO.out.2.2.2 with ⟨h, _⟩ | ⟨_, h⟩
            · cases h
            · rw [h]
          have HRn := Lib.hid hRn
          have HSY := Lib.hid (HS.out.sety (B vv))
          clear hRn
          go_wp2_with fail
          simp only [Exit.jumps]
          refine bodyPost_ret (v := .tuple #[.slice none 0 0, .bool false, .int .i64 (a.size : Int), .bool false]) (by simp [results, Tryz.results8, go_sem]) rfl ?_
          rw [HRn.out]
          exact ⟨⟨_, by rw [HSZ.out]; rfl, Kd.R_nil _ _ _ _ _⟩, HSY.out.below⟩
        | true =>
          obtain ⟨v1, v2, v3, v4⟩ := HVO.out
          have hv : valA (s.drop p2) = some (vv, s.drop p4) := by
            rcases v4 with ⟨_, h⟩ | ⟨h, _⟩
            · exact h
            · cases h
          have hR4 : attrL (addA L nm vv) (s.drop p4) = R := by rw [HQ4.out, hv]
          have RDn := Lib.hid (RD.out vv (by have := HSL.out; omega))
          have hrl := rdL_le true vv
          obtain ⟨dv, hdv⟩ : ∃ dv, rdL true vv = dv := ⟨_, rfl⟩
          rw [hdv] at hrl RDn
          have CLv := Lib.hid (CLN.out dv (by have := HSL.out; omega))
          obtain ⟨cv, hcv⟩ : ∃ cv, cleanL dv = cv := ⟨_, rfl⟩
          rw [hcv] at CLv
          have hadd : addA L nm vv = if L.any (fun a => a.1 == cn) = true then L else L ++ [(cn, cv)] := by
            unfold addA; rw [HCN.out, hdv, hcv]
          rw [hadd] at hR4
          have HR4 := Lib.hid hR4
          have hany := has_of cn L
          have HANY := Lib.hid hany
          have HSY := Lib.hid (HS.out.sety (B vv))
          have e1 := HSY.out.d1
          have h1 := HSY.out.g1
          have hp4 : p + 1 ≤ p4 := by omega
          have HP4 := Lib.hid v1
          clear v1 v2 v3 v4 hv hR4 hrl hdv hcv hadd hany HVO
          go_wp2_with fail
          refine (RDn.out _ (HG.out.step HSY.out.below)).mono ?_
          rintro e w9 ⟨rfl, hb⟩
          replace HS := Lib.hid (HSY.out.call hb)
          clear hb RDn e1 h1 d1 g1 HSY
          go_wp2_with fail
          refine (CLv.out _ (HG.out.step HS.out.below)).mono ?_
          rintro e w10 ⟨rfl, hb⟩
          replace HS := Lib.hid (HS.out.call hb)
          clear hb CLv
          have d1 := HS.out.d1
          have g1 := HS.out.g1
          have HSY := Lib.hid (HS.out.sety (B cv))
          obtain ⟨A0, c00, hv0, hlc, hrC⟩ := Kd.R_reads HSY.out.row
          have CTn := Lib.hid (CT.out A0 c00 (L.map ofT) (B cn) _ hrC hlc (by rw [List.length_map]; omega) HSY.out.d0)
          rw [HANY.out] at CTn
          rw [← hv0] at CTn
          have HV0 := Lib.hid hv0
          clear hrC hv0 hlc
          obtain ⟨bn, hbn⟩ : ∃ b, (L.any (fun a => a.1 == cn)) = b := ⟨_, rfl⟩
          have hR5 := HR4.out
          rw [hbn] at hR5 CTn
          have HR5 := Lib.hid hR5
          clear hR5 HR4 HANY hbn
          have hnotc : c = c := rfl
          go_wp2_with fail
          refine CTn.out.mono ?_
          rintro e w11 ⟨rfl, hb⟩
          replace HS := Lib.hid (HSY.out.call hb)
          clear hb CTn HSY d1 g1
          cases bn with
          | true =>
            go_wp2_with fail
            go_step3
            exact ⟨rfl, s.length - p4 + 1, by omega, p4, _, _, v, _, L, rfl, HS, HP4.out, Nat.lt_succ_self _, by omega, HR5.out⟩
          | false =>
            have d0 := HS.out.d0
            have d1 := HS.out.d1
            have HLL := Lib.hid hL
            rw [if_neg (by decide)] at HR5
            go_wp2_with (first | ((with_reducible refine gate_builtin (b := .append) (xs := #[.tmp 92, .tmp 94]) rfl ?_); at_builtin; refine Kd.R_append atK (w0 := w) w.heap.size rfl (.tmp 92) (.tmp 94) 24 28 (.agg #[.string ⟨#[]⟩, .string ⟨#[]⟩]) 32 rfl Tryz.underlying24 infoA rfl (by decide) (by decide) v (L.map ofT) (ofT (cn, cv)) [.string (B cn), .string (B cv)] (okA w.heap.size) (fun _ => False) rfl rfl (k28_mkM _ _ _ _) (fun _ h => h.elim) ?aF ?aO ?aB ?aS ?aL ?_; (case aF => exact (fun k hk => ⟨by have := HS.out.lt; omega, by have := HS.out.lt; omega⟩)); (case aO => exact HS.out.row); (case aB => exact HS.out.below); (case aS => exact HS.out.below.size); (case aL => (rw [List.length_map]; have := HSL.out; have := HLL.out; omega)); intro v1 w12 ho hb hg hat))
            have hSF := HS.out.grown (v1 := v1) (l1 := (L ++ [(cn, cv)]).map ofT) (by rw [List.map_append]; exact ho) hb hg
            have HSF := Lib.hid hSF
            clear ho hb hg hat hSF d0 d1
            go_wp2_with fail
            go_step3
            exact ⟨rfl, s.length - p4 + 1, by omega, p4, _, _, v1, _, L ++ [(cn, cv)], rfl, HSF, HP4.out, Nat.lt_succ_self _, by rw [List.length_append]; simp; omega, HR5.out⟩
end Go.Proofs.YtdheknlnhfegnaaGreatDoor.Hand

namespace Go.Proofs.YtdheknlnhfegnaaGreatDoor.Hand
open Go Go.RowKit Go.Proofs.YtdheknlnhfegnaaGreatDoor.Pl Go.Proofs.YtdheknlnhfegnaaGreatDoor.Pb

noncomputable def headA (n v : List UInt8) (x : List AttrT × Bool × List UInt8) : List AttrT × Bool × List UInt8 := ((n, v) :: x.1, x.2.1, x.2.2)
theorem attrF_head (f : Nat) : ∀ (l : List AttrT) (s n : List UInt8), ∃ g : Option (List AttrT × Bool × List UInt8), ∀ v, attrF f ((n, v) :: l) s = g.map (headA n v) := by
  induction f with
  | zero => intro l s n; exact ⟨none, fun v => rfl⟩
  | succ f ih =>
    intro l s n
    simp only [attrF]
    cases spL s with
    | nil => exact ⟨none, fun v => rfl⟩
    | cons c r =>
      by_cases h1 : c = 62
      · exact ⟨some (l, false, r), fun v => by simp only [if_pos h1]; rfl⟩
      · simp only [if_neg h1]
        by_cases h2 : c = 47
        · simp only [if_pos h2]
          cases r with
          | nil => exact ih l [] n
          | cons d r' =>
            by_cases h3 : d = 62
            · exact ⟨some (l, true, r'), fun v => by simp only [if_pos h3]; rfl⟩
            · simp only [if_neg h3]
              exact ih l (d :: r') n
        · simp only [if_neg h2]
          cases valA (r.dropWhile nmC) with
          | none => exact ⟨none, fun v => rfl⟩
          | some x =>
            obtain ⟨val, r'⟩ := x
            simp only
            by_cases h3 : (n == cleanL (lowL (c :: r.takeWhile nmC))) = true
            · obtain ⟨g, hg⟩ := ih l r' n
              refine ⟨g, fun v => ?_⟩
              rw [← hg v]
              unfold addA
              rw [if_pos (by rw [List.any_cons, h3]; rfl)]
            · rw [Bool.not_eq_true] at h3
              obtain ⟨g, hg⟩ := ih (addA l (c :: r.takeWhile nmC) val) r' n
              refine ⟨g, fun v => ?_⟩
              rw [← hg v]
              congr 1
              unfold addA
              rw [List.any_cons, h3, Bool.false_or]
              split <;> rfl
theorem attrL_head (s n : List UInt8) : ∃ g : Option (List AttrT × Bool × List UInt8), ∀ v, attrL [(n, v)] s = g.map (headA n v) := attrF_head (s.length + 1) [] s n
theorem upto_stop {c : UInt8} {s r : List UInt8} (h : c ∉ s) : upto c (s ++ c :: r) = s := by
  induction s with
  | nil => rw [List.nil_append, upto_cons, if_pos rfl]
  | cons d t ih =>
    rw [List.mem_cons, not_or] at h
    rw [List.cons_append, upto_cons, if_neg (fun e => h.1 e.symm), ih h.2]
theorem quoted_L {q : UInt8} (hq : q = 34 ∨ q = 39) {s r : List UInt8} (hs : q ∉ s) : attrL [] (120 :: 61 :: q :: (s ++ q :: r)) = attrL [([120], cleanL (rdL true s))] r := by
  have hq2 : isSp q = false := by rcases hq with rfl | rfl <;> rfl
  have e1 : spL (120 :: 61 :: q :: (s ++ q :: r)) = 120 :: 61 :: q :: (s ++ q :: r) := rfl
  have e2 : (61 :: q :: (s ++ q :: r)).dropWhile nmC = 61 :: q :: (s ++ q :: r) := rfl
  have e2' : (61 :: q :: (s ++ q :: r)).takeWhile nmC = [] := rfl
  have e3 : spL (q :: (s ++ q :: r)) = q :: (s ++ q :: r) := by unfold spL; rw [List.dropWhile_cons, hq2]; rfl
  have e4 : valA (61 :: q :: (s ++ q :: r)) = some (s, r) := by
    unfold valA
    rw [show spL (61 :: q :: (s ++ q :: r)) = 61 :: q :: (s ++ q :: r) from rfl]
    simp only [e3]
    rw [if_pos hq, if_pos (by simp), upto_stop hs]
    unfold past
    rw [upto_stop hs]
    congr 2
    rw [show s ++ q :: r = (s ++ [q]) ++ r by simp, show s.length + 1 = (s ++ [q]).length by simp]
    exact List.drop_left
  rw [attrL_eq, e1]
  simp only [e2, e2', e4]
  rw [if_neg (by decide), if_neg (by decide)]
  congr 1
theorem quoted_two {q : UInt8} (hq : q = 34 ∨ q = 39) {s : List UInt8} (r : List UInt8) (hs : q ∉ s) : ∃ g : Option (List AttrT × Bool × List UInt8),
    attrL [] (120 :: 61 :: q :: (s ++ q :: r)) = g.map (headA [120] (cleanL (rdL true s))) ∧ attrL [] (120 :: 61 :: q :: q :: r) = g.map (headA [120] (cleanL (rdL true []))) ∧
      ∀ x, g = some x → x.2.2.length ≤ r.length := by
  obtain ⟨g, hg⟩ := attrL_head r [120]
  refine ⟨g, (quoted_L hq hs).trans (hg _), (quoted_L (s := []) hq (by simp)).trans (hg _), fun x hx => ?_⟩
  have h1 := hg []
  rw [hx] at h1
  have := attrL_lt h1
  change x.2.2.length < _ at this
  omega
end Go.Proofs.YtdheknlnhfegnaaGreatDoor.Hand
