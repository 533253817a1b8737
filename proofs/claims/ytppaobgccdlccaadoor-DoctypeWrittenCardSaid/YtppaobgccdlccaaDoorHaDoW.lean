/-
  Walk of a law: flaillaw11.DoctypeWritten.
-/
import Derived.Test.YtppaobgccdlccaaDoorHaDoR
import Derived.Test.YtppaobgccdlccaaDoorPlDW
namespace Go.Proofs.YtppaobgccdlccaaDoor.Hand
open Go.RowKit Go.Proofs.YtppaobgccdlccaaDoor.K0 Go.Proofs.YtppaobgccdlccaaDoor.Pl Go.Proofs.YtppaobgccdlccaaDoor.Pb Go.Proofs.YtppaobgccdlccaaDoor.Sa Go.Proofs.YtppaobgccdlccaaDoor.Pure Go.Proofs.YtppaobgccdlccaaDoorW.PrintWords Go.Proofs.YtppaobgccdlccaaDoorW.PrintLast Go.Proofs.YtppaobgccdlccaaDoorW.PrintMore

def GoodB (a : ByteArray) (n : Nat) : Prop := ∀ i (h : i < a.size), i < n → a[i] ≠ 34 ∧ a[i] ≠ 39 ∧ a[i] ≠ 0
theorem GoodB.succ {a : ByteArray} {k : Nat} (h : GoodB a k) (hk : k < a.size) (h1 : a[k] ≠ 34) (h2 : a[k] ≠ 39) (h3 : a[k] ≠ 0) : GoodB a (k + 1) := by
  intro i hi hik
  by_cases e : i = k
  · subst e; exact ⟨h1, h2, h3⟩
  · exact h i hi (by omega)
theorem GoodB.list {s : List UInt8} (h : GoodB (B s) (B s).size) : (34 : UInt8) ∉ s ∧ (39 : UInt8) ∉ s ∧ (0 : UInt8) ∉ s := by
  have g : ∀ i (h : i < s.length), s[i] ≠ 34 ∧ s[i] ≠ 39 ∧ s[i] ≠ 0 := fun i hi => h i (by simpa using hi) (by simpa using hi)
  refine ⟨?_, ?_, ?_⟩ <;> intro hm <;> obtain ⟨i, hi, e⟩ := List.mem_iff_getElem.1 hm
  · exact (g i hi).1 e
  · exact (g i hi).2.1 e
  · exact (g i hi).2.2 e
theorem doc_ok {a b : List UInt8} {al : ByteArray} (h : al = B a ++ B b) (ok : GoodB al al.size) (q : UInt8) (hq : q = 34 ∨ q = 39) : (q ∉ a ∧ (0 : UInt8) ∉ a) ∧ (q ∉ b ∧ (0 : UInt8) ∉ b) ∧ True := by
  subst h
  rw [B_append] at ok
  obtain ⟨g1, g2, g3⟩ := ok.list
  simp only [List.mem_append, not_or] at g1 g2 g3
  rcases hq with rfl | rfl
  · exact ⟨⟨g1.1, g3.1⟩, ⟨g1.2, g3.2⟩, trivial⟩
  · exact ⟨⟨g2.1, g3.1⟩, ⟨g2.2, g3.2⟩, trivial⟩
theorem doc_wd {L : UInt8} {c : Int} {a b : List UInt8} {a0 a1 al : ByteArray} (hL : NameOk L) (_hn : (L.toNat : Int) = 97 + c % 26) (h : a0 = B a ∧ a1 = B b ∧ al = a0 ++ a1) (ok : GoodB al al.size) (hz : a.length ≤ 60 ∧ b.length ≤ 60) (q : UInt8) (hq : q = 34 ∨ q = 39) (lg : Bool) (W : World) (hG : Glob W) :
    Calls Tryd.prog 49 #[.string (⟨#[32]⟩ ++ B [L] ++ B (pubW lg) ++ B [q] ++ a0 ++ B [q] ++ B [q] ++ a1 ++ B [q]), .bool true] W fun e w' => e = .returned (.agg #[.string (B [L]), .string a0, .string a1, .bool true, .bool true, .bool true, .bool false]) ∧ Below W.heap.size W w' := by
  obtain ⟨rfl, rfl, h3⟩ := h
  obtain ⟨ga, gb, -⟩ := doc_ok h3 ok q hq
  have hl : (pubW lg).length ≤ 8 := by cases lg <;> simp [pubW]
  have := parse_c _ true _ (written_d hL hq ga gb lg) (by simp; omega) W hG
  rw [show 32 :: L :: (pubW lg ++ (q :: (a ++ (q :: (q :: (b ++ [q])))))) = [32] ++ ([L] ++ (pubW lg ++ ([q] ++ (a ++ ([q] ++ ([q] ++ (b ++ [q]))))))) by simp] at this
  simp only [B_app, ← ByteArray.append_assoc] at this
  exact this
theorem doc_we {L : UInt8} {c : Int} {a b : List UInt8} {a0 a1 al : ByteArray} (hL : NameOk L) (_hn : (L.toNat : Int) = 97 + c % 26) (h : a0 = B a ∧ a1 = B b ∧ al = a0 ++ a1) (ok : GoodB al al.size) (hz : a.length ≤ 60 ∧ b.length ≤ 60) (q : UInt8) (hq : q = 34 ∨ q = 39) (lg : Bool) (W : World) (hG : Glob W) :
    Calls Tryd.prog 49 #[.string (B [L] ++ B (sysW lg) ++ B [q] ++ a1 ++ B [q] ++ ⟨#[32]⟩), .bool true] W fun e w' => e = .returned (.agg #[.string (B [L]), .string ⟨#[]⟩, .string a1, .bool true, .bool false, .bool true, .bool false]) ∧ Below W.heap.size W w' := by
  obtain ⟨rfl, rfl, h3⟩ := h
  obtain ⟨ga, gb, -⟩ := doc_ok h3 ok q hq
  have hl : (sysW lg).length ≤ 8 := by cases lg <;> simp [sysW]
  have := parse_c _ true _ (written_e hL hq gb lg) (by simp; omega) W hG
  rw [show L :: (sysW lg ++ (q :: (b ++ [q, 32]))) = [L] ++ (sysW lg ++ ([q] ++ (b ++ ([q] ++ [32])))) by simp] at this
  simp only [B_app, ← ByteArray.append_assoc] at this
  exact this
theorem name_of (c : Int) (h0 : 0 ≤ c) (h1 : c < 256) : ∃ L : UInt8, (L.toNat : Int) = 97 + c % 26 ∧ NameOk L := by
  refine ⟨UInt8.ofNat (97 + c % 26).toNat, ?_, ?_⟩
  · rw [UInt8.toNat_ofNat_of_lt' (by show (97 + c % 26).toNat < 256; omega)]; omega
  · refine name_ok _ ⟨?_, ?_⟩
    · rw [UInt8.le_iff_toNat_le, UInt8.toNat_ofNat_of_lt' (by show (97 + c % 26).toNat < 256; omega)]; show 97 ≤ _; omega
    · rw [UInt8.le_iff_toNat_le, UInt8.toNat_ofNat_of_lt' (by show (97 + c % 26).toNat < 256; omega)]; show _ ≤ 122; omega
set_option maxRecDepth 100000 in
set_option maxHeartbeats 8000000 in
theorem dwritten_small (c : Int) (a b : List UInt8) (large single : Bool) (w : World) (hGl : Glob w) (hc0 : 0 ≤ c) (hc1 : c < 256) (h0 : a.length ≤ 60) (h1 : b.length ≤ 60) :
    Calls Tryd.prog 22 #[.int .u8 c, .string (B a), .string (B b), .bool large, .bool single] w fun e w' => e = .returned (.bool true) ∧ Below w.heap.size w w' := by
  have hu42 := Tryd.underlying42
  obtain ⟨a0, ha⟩ : ∃ x, B a = x := ⟨_, rfl⟩
  obtain ⟨a1, hb⟩ : ∃ x, B b = x := ⟨_, rfl⟩
  have z0 : a0.size ≤ 60 := by rw [← ha]; simpa using h0
  have z1 : a1.size ≤ 60 := by rw [← hb]; simpa using h1
  rw [ha, hb]
  have q : decide ((60 : Int) < (a0.size : Int)) = false := by simp; omega
  have q' : decide ((60 : Int) < (a1.size : Int)) = false := by simp; omega
  obtain ⟨al, hal⟩ : ∃ x, a0 ++ a1 = x := ⟨_, rfl⟩
  have zl : al.size = a0.size + a1.size := by rw [← hal]; simp
  have hzl : al.size ≤ 120 := by omega
  have HAB := Lib.hid (show a0 = B a ∧ a1 = B b ∧ al = a0 ++ a1 from ⟨ha.symm, hb.symm, hal.symm⟩)
  clear ha hb zl
  obtain ⟨L, hLn, hLok⟩ := name_of c hc0 hc1
  have hcv : ∀ W : World, (convert 47 9 (.slice (some ⟨W.heap.size, 0, none⟩) 1 1)).run Tryd.prog (W.alloc (.cells #[.int .u8 (97 + c % 26)] 5)) = .ok (.string (B [L])) (W.alloc (.cells #[.int .u8 (97 + c % 26)] 5)) := by
    intro W
    have := run_convert_bytes_back (P := Tryd.prog) (W.alloc (.cells #[.int .u8 (97 + c % 26)] 5)) 47 9 5 ⟨W.heap.size, 0, none⟩ 1 [L] Tryd.underlying47 Tryd.underlying5 Tryd.underlying9 (by
      intro j hj
      obtain rfl : j = 0 := by simpa using hj
      have e : (⟨W.heap.size, 0, none⟩ : Addr).add 0 = ⟨W.heap.size, 0, none⟩ := by simp [Addr.add]
      rw [e, World.cell?_alloc_at _ _ _ _ rfl]
      simp [hLn])
    exact this
  have HCV := Lib.hid hcv
  clear hcv
  go_enter Tryd.func22, Tryd.ntmps22
  go_wp2_with fail
  refine (awake11_any _ hGl).mono ?_
  rintro e w1 ⟨rfl, hb⟩
  have HL := Lib.hid ((Live.start hGl).call hb)
  clear hb hGl
  go_wp2_with fail
  go_loop [13] (fun i => ∃ k : Nat, k ≤ al.size ∧ i = .int .i64 k ∧ Hid (GoodB al k)) (fun i => al.size - (intOf i).toNat)
  case atStart => exact ⟨0, Nat.zero_le _, rfl, Lib.hid (fun i _ h => by omega)⟩
  case round =>
    obtain ⟨k, hk, rfl, ho⟩ := hrel
    by_cases hlt : k < al.size
    · by_cases h34 : al[k] = 34
      · have e1 := byte_eq 34 h34
        clear ho h34
        go_wp2_with fail
        go_ret
        exact ⟨rfl, HL.out.below⟩
      · have e1 := byte_ne 34 h34
        by_cases h39 : al[k] = 39
        · have e2 := byte_eq 39 h39
          clear ho h34 h39
          go_wp2_with fail
          go_ret
          exact ⟨rfl, HL.out.below⟩
        · have e2 := byte_ne 39 h39
          by_cases h00 : al[k] = 0
          · have e3 := byte_eq 0 h00
            clear ho h34 h39 h00
            go_wp2_with fail
            go_ret
            exact ⟨rfl, HL.out.below⟩
          · have e3 := byte_ne 0 h00
            have ho' := Lib.hid (ho.out.succ hlt h34 h39 h00)
            clear ho h34 h39 h00
            go_wp2_with fail
            go_round
            case rel => exact ⟨k + 1, by omega, by go_num, ho'⟩
            case measure => simp [intOf]; omega
    · obtain rfl : k = al.size := by omega
      have ok := ho.out
      clear ho
      have WD := fun q hq lg W hG => doc_wd (L := L) hLok hLn HAB.out ok ⟨h0, h1⟩ q hq lg W hG
      have WE := fun q hq lg W hG => doc_we (L := L) hLok hLn HAB.out ok ⟨h0, h1⟩ q hq lg W hG
      have HWD := Lib.hid WD
      have HWE := Lib.hid WE
      clear WD WE ok hLn hLok
      have hcv := HCV.out w1
      clear HCV
      cases single with
      | true =>
        cases large with
        | true =>
          have C1 : ∀ W, Glob W → Calls Tryd.prog 49 #[.string (⟨#[32]⟩ ++ B [L] ++ ⟨#[10, 80, 85, 66, 76, 73, 67]⟩ ++ ⟨#[39]⟩ ++ a0 ++ ⟨#[39]⟩ ++ ⟨#[39]⟩ ++ a1 ++ ⟨#[39]⟩), .bool true] W fun e w' => e = .returned (.agg #[.string (B [L]), .string a0, .string a1, .bool true, .bool true, .bool true, .bool false]) ∧ Below W.heap.size W w' := HWD.out 39 (by decide) true
          have C2 : ∀ W, Glob W → Calls Tryd.prog 49 #[.string (B [L] ++ ⟨#[9, 83, 89, 83, 84, 69, 77]⟩ ++ ⟨#[39]⟩ ++ a1 ++ ⟨#[39]⟩ ++ ⟨#[32]⟩), .bool true] W fun e w' => e = .returned (.agg #[.string (B [L]), .string ⟨#[]⟩, .string a1, .bool true, .bool false, .bool true, .bool false]) ∧ Below W.heap.size W w' := HWE.out 39 (by decide) true
          have H1 := Lib.hid C1
          have H2 := Lib.hid C2
          clear C1 C2 HWD HWE
          go_wp2_with fail
          replace HL := Lib.hid (HL.out.alloc #[.int .u8 (97 + c % 26)] 5)
          refine (H1.out _ HL.out.glob).mono ?_
          rintro e w2 ⟨rfl, hb⟩
          replace HL := Lib.hid ((HL.out.call hb).alloc #[.string (B [L]), .string a0, .string a1, .bool true, .bool true, .bool true, .bool false] 42)
          clear hb H1
          go_wp2_with fail
          refine (H2.out _ HL.out.glob).mono ?_
          rintro e w3 ⟨rfl, hb⟩
          replace HL := Lib.hid ((HL.out.call hb).alloc #[.string (B [L]), .string ⟨#[]⟩, .string a1, .bool true, .bool false, .bool true, .bool false] 42)
          clear hb H2
          have d0 := HL.out.cell (b := w2.heap.size) (j := 0) (x := .string (B [L])) m1 rfl
          have d1 := HL.out.cell (b := w2.heap.size) (j := 1) (x := .string a0) m1 rfl
          have d2 := HL.out.cell (b := w2.heap.size) (j := 2) (x := .string a1) m1 rfl
          have d3 := HL.out.cell (b := w2.heap.size) (j := 3) (x := .bool true) m1 rfl
          have d4 := HL.out.cell (b := w2.heap.size) (j := 4) (x := .bool true) m1 rfl
          have d5 := HL.out.cell (b := w2.heap.size) (j := 5) (x := .bool true) m1 rfl
          have d6 := HL.out.cell (b := w2.heap.size) (j := 6) (x := .bool false) m1 rfl
          have e0 := HL.out.cell (b := w3.heap.size) (j := 0) (x := .string (B [L])) m0 rfl
          have e1 := HL.out.cell (b := w3.heap.size) (j := 1) (x := .string ⟨#[]⟩) m0 rfl
          have e2 := HL.out.cell (b := w3.heap.size) (j := 2) (x := .string a1) m0 rfl
          have e3 := HL.out.cell (b := w3.heap.size) (j := 3) (x := .bool true) m0 rfl
          have e4 := HL.out.cell (b := w3.heap.size) (j := 4) (x := .bool false) m0 rfl
          have e5 := HL.out.cell (b := w3.heap.size) (j := 5) (x := .bool true) m0 rfl
          have e6 := HL.out.cell (b := w3.heap.size) (j := 6) (x := .bool false) m0 rfl
          go_wp2_with fail
          go_ret
          exact ⟨rfl, HL.out.below⟩
        | false =>
          have C1 : ∀ W, Glob W → Calls Tryd.prog 49 #[.string (⟨#[32]⟩ ++ B [L] ++ ⟨#[32, 112, 117, 98, 108, 105, 99, 32]⟩ ++ ⟨#[39]⟩ ++ a0 ++ ⟨#[39]⟩ ++ ⟨#[39]⟩ ++ a1 ++ ⟨#[39]⟩), .bool true] W fun e w' => e = .returned (.agg #[.string (B [L]), .string a0, .string a1, .bool true, .bool true, .bool true, .bool false]) ∧ Below W.heap.size W w' := HWD.out 39 (by decide) false
          have C2 : ∀ W, Glob W → Calls Tryd.prog 49 #[.string (B [L] ++ ⟨#[32, 115, 121, 115, 116, 101, 109, 32]⟩ ++ ⟨#[39]⟩ ++ a1 ++ ⟨#[39]⟩ ++ ⟨#[32]⟩), .bool true] W fun e w' => e = .returned (.agg #[.string (B [L]), .string ⟨#[]⟩, .string a1, .bool true, .bool false, .bool true, .bool false]) ∧ Below W.heap.size W w' := HWE.out 39 (by decide) false
          have H1 := Lib.hid C1
          have H2 := Lib.hid C2
          clear C1 C2 HWD HWE
          go_wp2_with fail
          replace HL := Lib.hid (HL.out.alloc #[.int .u8 (97 + c % 26)] 5)
          refine (H1.out _ HL.out.glob).mono ?_
          rintro e w2 ⟨rfl, hb⟩
          replace HL := Lib.hid ((HL.out.call hb).alloc #[.string (B [L]), .string a0, .string a1, .bool true, .bool true, .bool true, .bool false] 42)
          clear hb H1
          go_wp2_with fail
          refine (H2.out _ HL.out.glob).mono ?_
          rintro e w3 ⟨rfl, hb⟩
          replace HL := Lib.hid ((HL.out.call hb).alloc #[.string (B [L]), .string ⟨#[]⟩, .string a1, .bool true, .bool false, .bool true, .bool false] 42)
          clear hb H2
          have d0 := HL.out.cell (b := w2.heap.size) (j := 0) (x := .string (B [L])) m1 rfl
          have d1 := HL.out.cell (b := w2.heap.size) (j := 1) (x := .string a0) m1 rfl
          have d2 := HL.out.cell (b := w2.heap.size) (j := 2) (x := .string a1) m1 rfl
          have d3 := HL.out.cell (b := w2.heap.size) (j := 3) (x := .bool true) m1 rfl
          have d4 := HL.out.cell (b := w2.heap.size) (j := 4) (x := .bool true) m1 rfl
          have d5 := HL.out.cell (b := w2.heap.size) (j := 5) (x := .bool true) m1 rfl
          have d6 := HL.out.cell (b := w2.heap.size) (j := 6) (x := .bool false) m1 rfl
          have e0 := HL.out.cell (b := w3.heap.size) (j := 0) (x := .string (B [L])) m0 rfl
          have e1 := HL.out.cell (b := w3.heap.size) (j := 1) (x := .string ⟨#[]⟩) m0 rfl
          have e2 := HL.out.cell (b := w3.heap.size) (j := 2) (x := .string a1) m0 rfl
          have e3 := HL.out.cell (b := w3.heap.size) (j := 3) (x := .bool true) m0 rfl
          have e4 := HL.out.cell (b := w3.heap.size) (j := 4) (x := .bool false) m0 rfl
          have e5 := HL.out.cell (b := w3.heap.size) (j := 5) (x := .bool true) m0 rfl
          have e6 := HL.out.cell (b := w3.heap.size) (j := 6) (x := .bool false) m0 rfl
          go_wp2_with fail
          go_ret
          exact ⟨rfl, HL.out.below⟩
      | false =>
        cases large with
        | true =>
          have C1 : ∀ W, Glob W → Calls Tryd.prog 49 #[.string (⟨#[32]⟩ ++ B [L] ++ ⟨#[10, 80, 85, 66, 76, 73, 67]⟩ ++ ⟨#[34]⟩ ++ a0 ++ ⟨#[34]⟩ ++ ⟨#[34]⟩ ++ a1 ++ ⟨#[34]⟩), .bool true] W fun e w' => e = .returned (.agg #[.string (B [L]), .string a0, .string a1, .bool true, .bool true, .bool true, .bool false]) ∧ Below W.heap.size W w' := HWD.out 34 (by decide) true
          have C2 : ∀ W, Glob W → Calls Tryd.prog 49 #[.string (B [L] ++ ⟨#[9, 83, 89, 83, 84, 69, 77]⟩ ++ ⟨#[34]⟩ ++ a1 ++ ⟨#[34]⟩ ++ ⟨#[32]⟩), .bool true] W fun e w' => e = .returned (.agg #[.string (B [L]), .string ⟨#[]⟩, .string a1, .bool true, .bool false, .bool true, .bool false]) ∧ Below W.heap.size W w' := HWE.out 34 (by decide) true
          have H1 := Lib.hid C1
          have H2 := Lib.hid C2
          clear C1 C2 HWD HWE
          go_wp2_with fail
          replace HL := Lib.hid (HL.out.alloc #[.int .u8 (97 + c % 26)] 5)
          refine (H1.out _ HL.out.glob).mono ?_
          rintro e w2 ⟨rfl, hb⟩
          replace HL := Lib.hid ((HL.out.call hb).alloc #[.string (B [L]), .string a0, .string a1, .bool true, .bool true, .bool true, .bool false] 42)
          clear hb H1
          go_wp2_with fail
          refine (H2.out _ HL.out.glob).mono ?_
          rintro e w3 ⟨rfl, hb⟩
          replace HL := Lib.hid ((HL.out.call hb).alloc #[.string (B [L]), .string ⟨#[]⟩, .string a1, .bool true, .bool false, .bool true, .bool false] 42)
          clear hb H2
          have d0 := HL.out.cell (b := w2.heap.size) (j := 0) (x := .string (B [L])) m1 rfl
          have d1 := HL.out.cell (b := w2.heap.size) (j := 1) (x := .string a0) m1 rfl
          have d2 := HL.out.cell (b := w2.heap.size) (j := 2) (x := .string a1) m1 rfl
          have d3 := HL.out.cell (b := w2.heap.size) (j := 3) (x := .bool true) m1 rfl
          have d4 := HL.out.cell (b := w2.heap.size) (j := 4) (x := .bool true) m1 rfl
          have d5 := HL.out.cell (b := w2.heap.size) (j := 5) (x := .bool true) m1 rfl
          have d6 := HL.out.cell (b := w2.heap.size) (j := 6) (x := .bool false) m1 rfl
          have e0 := HL.out.cell (b := w3.heap.size) (j := 0) (x := .string (B [L])) m0 rfl
          have e1 := HL.out.cell (b := w3.heap.size) (j := 1) (x := .string ⟨#[]⟩) m0 rfl
          have e2 := HL.out.cell (b := w3.heap.size) (j := 2) (x := .string a1) m0 rfl
          have e3 := HL.out.cell (b := w3.heap.size) (j := 3) (x := .bool true) m0 rfl
          have e4 := HL.out.cell (b := w3.heap.size) (j := 4) (x := .bool false) m0 rfl
          have e5 := HL.out.cell (b := w3.heap.size) (j := 5) (x := .bool true) m0 rfl
          have e6 := HL.out.cell (b := w3.heap.size) (j := 6) (x := .bool false) m0 rfl
          go_wp2_with fail
          go_ret
          exact ⟨rfl, HL.out.below⟩
        | false =>
          have C1 : ∀ W, Glob W → Calls Tryd.prog 49 #[.string (⟨#[32]⟩ ++ B [L] ++ ⟨#[32, 112, 117, 98, 108, 105, 99, 32]⟩ ++ ⟨#[34]⟩ ++ a0 ++ ⟨#[34]⟩ ++ ⟨#[34]⟩ ++ a1 ++ ⟨#[34]⟩), .bool true] W fun e w' => e = .returned (.agg #[.string (B [L]), .string a0, .string a1, .bool true, .bool true, .bool true, .bool false]) ∧ Below W.heap.size W w' := HWD.out 34 (by decide) false
          have C2 : ∀ W, Glob W → Calls Tryd.prog 49 #[.string (B [L] ++ ⟨#[32, 115, 121, 115, 116, 101, 109, 32]⟩ ++ ⟨#[34]⟩ ++ a1 ++ ⟨#[34]⟩ ++ ⟨#[32]⟩), .bool true] W fun e w' => e = .returned (.agg #[.string (B [L]), .string ⟨#[]⟩, .string a1, .bool true, .bool false, .bool true, .bool false]) ∧ Below W.heap.size W w' := HWE.out 34 (by decide) false
          have H1 := Lib.hid C1
          have H2 := Lib.hid C2
          clear C1 C2 HWD HWE
          go_wp2_with fail
          replace HL := Lib.hid (HL.out.alloc #[.int .u8 (97 + c % 26)] 5)
          refine (H1.out _ HL.out.glob).mono ?_
          rintro e w2 ⟨rfl, hb⟩
          replace HL := Lib.hid ((HL.out.call hb).alloc #[.string (B [L]), .string a0, .string a1, .bool true, .bool true, .bool true, .bool false] 42)
          clear hb H1
          go_wp2_with fail
          refine (H2.out _ HL.out.glob).mono ?_
          rintro e w3 ⟨rfl, hb⟩
          replace HL := Lib.hid ((HL.out.call hb).alloc #[.string (B [L]), .string ⟨#[]⟩, .string a1, .bool true, .bool false, .bool true, .bool false] 42)
          clear hb H2
          have d0 := HL.out.cell (b := w2.heap.size) (j := 0) (x := .string (B [L])) m1 rfl
          have d1 := HL.out.cell (b := w2.heap.size) (j := 1) (x := .string a0) m1 rfl
          have d2 := HL.out.cell (b := w2.heap.size) (j := 2) (x := .string a1) m1 rfl
          have d3 := HL.out.cell (b := w2.heap.size) (j := 3) (x := .bool true) m1 rfl
          have d4 := HL.out.cell (b := w2.heap.size) (j := 4) (x := .bool true) m1 rfl
          have d5 := HL.out.cell (b := w2.heap.size) (j := 5) (x := .bool true) m1 rfl
          have d6 := HL.out.cell (b := w2.heap.size) (j := 6) (x := .bool false) m1 rfl
          have e0 := HL.out.cell (b := w3.heap.size) (j := 0) (x := .string (B [L])) m0 rfl
          have e1 := HL.out.cell (b := w3.heap.size) (j := 1) (x := .string ⟨#[]⟩) m0 rfl
          have e2 := HL.out.cell (b := w3.heap.size) (j := 2) (x := .string a1) m0 rfl
          have e3 := HL.out.cell (b := w3.heap.size) (j := 3) (x := .bool true) m0 rfl
          have e4 := HL.out.cell (b := w3.heap.size) (j := 4) (x := .bool false) m0 rfl
          have e5 := HL.out.cell (b := w3.heap.size) (j := 5) (x := .bool true) m0 rfl
          have e6 := HL.out.cell (b := w3.heap.size) (j := 6) (x := .bool false) m0 rfl
          go_wp2_with fail
          go_ret
          exact ⟨rfl, HL.out.below⟩
theorem dwritten_big (c : Int) (a0 a1 : ByteArray) (large single : Bool) (w : World) (hGl : Glob w) (h0 : a0.size ≤ 140737488351232) (h1 : a1.size ≤ 140737488351232) (hb : 60 < a0.size ∨ 60 < a1.size) :
    Calls Tryd.prog 22 #[.int .u8 c, .string a0, .string a1, .bool large, .bool single] w fun e w' => e = .returned (.bool true) ∧ Below w.heap.size w w' := by
  by_cases hq : 60 < a0.size
  · have q : decide ((60 : Int) < (a0.size : Int)) = true := by simp; omega
    clear hb
    go_enter Tryd.func22, Tryd.ntmps22
    go_wp2_with fail
    refine (awake11_any _ hGl).mono ?_
    rintro e w1 ⟨rfl, hb⟩
    go_wp2_with fail
    go_ret
    exact ⟨rfl, hb⟩
  · have q : decide ((60 : Int) < (a0.size : Int)) = false := by simp; omega
    have q' : decide ((60 : Int) < (a1.size : Int)) = true := by simp; omega
    clear hb
    go_enter Tryd.func22, Tryd.ntmps22
    go_wp2_with fail
    refine (awake11_any _ hGl).mono ?_
    rintro e w1 ⟨rfl, hb⟩
    go_wp2_with fail
    go_ret
    exact ⟨rfl, hb⟩
theorem u8_range {n : Int} (h : (Lit.int .u8 n).wf = true) : 0 ≤ n ∧ n < 256 := by
  simp only [Lit.wf, IntKind.min, IntKind.max, IntKind.signed, IntKind.bits, Bool.and_eq_true, decide_eq_true_eq, Bool.false_eq_true, if_false] at h
  omega
theorem DoctypeWritten_law (c : Int) (a0 a1 : ByteArray) (large single : Bool) (w : World) (hc : (Lit.int .u8 c).wf = true) (h0 : a0.size ≤ 140737488351232) (h1 : a1.size ≤ 140737488351232) (hGl : Glob w) :
    Calls Tryd.prog 22 #[.int .u8 c, .string a0, .string a1, .bool large, .bool single] w fun e w' => e = .returned (.bool true) ∧ Below w.heap.size w w' := by
  by_cases hb : 60 < a0.size ∨ 60 < a1.size
  · exact dwritten_big c a0 a1 large single w hGl h0 h1 hb
  · obtain ⟨s, rfl⟩ := exists_B a0
    obtain ⟨m, rfl⟩ := exists_B a1
    rw [size_B, size_B] at hb
    exact dwritten_small c s m large single w hGl (u8_range hc).1 (u8_range hc).2 (by omega) (by omega)
end Go.Proofs.YtppaobgccdlccaaDoor.Hand
