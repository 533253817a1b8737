/-
  Walk of a law: flaillaw10.CommentBogus.
-/
import Derived.Test.YtppaobgccdlccaaDoorHaL
import Derived.Test.YtppaobgccdlccaaDoorHaC
import Derived.Test.YtppaobgccdlccaaDoorPlC
namespace Go.Proofs.YtppaobgccdlccaaDoor.Hand
open Go.RowKit Go.Proofs.YtppaobgccdlccaaDoor.K0 Go.Proofs.YtppaobgccdlccaaDoor.Pl Go.Proofs.YtppaobgccdlccaaDoor.Pb Go.Proofs.YtppaobgccdlccaaDoor.Sa Go.Proofs.YtppaobgccdlccaaDoor.Pure Go.Proofs.YtppaobgccdlccaaDoorW.PrintWords Go.Proofs.YtppaobgccdlccaaDoorW.PrintLast Go.Proofs.YtppaobgccdlccaaDoorW.PrintMore

/-- the contract of comment.Read at the begin of a text of which it is told what it is read as -/
theorem read0 (s : List UInt8) (t : List UInt8) (n : Nat) (hs : s.length ≤ 1000000) (h : tokC 0 s = tok0 t n) (w : World) (hGl : Glob w) :
    Calls Tryd.prog 37 #[.string (B s), .int .i64 0] w fun e w' => e = .returned (.tuple #[.agg #[.int .i64 3, .string (B []), .string (B t), .slice none 0 0, .bool false], .int .i64 (n : Int), .bool true]) ∧ Below w.heap.size w w' := by
  have hf : comment_Read.f (B s) 0 = some (3, ⟨#[]⟩, B t, [], false, (n : Int), true) := by
    have := read_f s 0 hs (by omega)
    rw [List.drop_zero, h] at this
    exact this
  refine (comment_Read.exact _ _ _ _ _ _ _ _ _ w hGl hf).mono ?_
  rintro e w' ⟨h1, -, h2⟩
  exact ⟨h1, h2⟩
def Reads (a : ByteArray) (k : Int) (x y : ByteArray) (n : Int) (b : Bool) : Prop := ∀ W, Glob W → Calls Tryd.prog 37 #[.string a, .int .i64 0] W fun e w' => e = .returned (.tuple #[.agg #[.int .i64 k, .string x, .string y, .slice none 0 0, .bool false], .int .i64 n, .bool b]) ∧ Below W.heap.size W w'
theorem reads_of {s t : List UInt8} {n : Nat} (hs : s.length ≤ 1000000) (h : tokC 0 s = tok0 t n) : Reads (B s) 3 (B []) (B t) (n : Int) true := fun W hG => read0 s t n hs h W hG
theorem reads_none {s : List UInt8} (hs : s.length ≤ 1000000) (h : tokC 0 s = (0, B [], B [], [], false, 0, false)) : Reads (B s) 0 (B []) (B []) 0 false := by
  intro W hG
  have hf : comment_Read.f (B s) 0 = some (0, B [], B [], [], false, 0, false) := by
    have := read_f s 0 hs (by omega)
    rw [List.drop_zero, h] at this
    exact this
  refine (comment_Read.exact _ _ _ _ _ _ _ _ _ W hG hf).mono ?_
  rintro e w' ⟨h1, -, h2⟩
  exact ⟨h1, h2⟩
theorem B_app (a b : List UInt8) : B (a ++ b) = B a ++ B b := by
  apply ByteArray.ext; simp [B]
def BogOk (a : ByteArray) (n : Nat) : Prop := ∀ i (h : i < a.size), i < n → a[i] ≠ 62 ∧ a[i] ≠ 0
theorem BogOk.list {s : List UInt8} (h : BogOk (B s) (B s).size) : (62 : UInt8) ∉ s ∧ (0 : UInt8) ∉ s := by
  have g : ∀ i (h : i < s.length), s[i] ≠ 62 ∧ s[i] ≠ 0 := fun i hi => h i (by simpa using hi) (by simpa using hi)
  constructor <;> intro hm <;> obtain ⟨i, hi, e⟩ := List.mem_iff_getElem.1 hm
  · exact (g i hi).1 e
  · exact (g i hi).2 e
theorem byte_ne (n : Int) {c m : UInt8} (h : c ≠ m) (hm : (m.toNat : Int) = n := by rfl) : (((c.toNat : Int)) == n) = false := by
  rw [beq_eq_false_iff_ne]
  intro e
  apply h
  apply UInt8.toNat_inj.1
  omega
theorem byte_eq (n : Int) {c m : UInt8} (h : c = m) (hm : (m.toNat : Int) = n := by rfl) : (((c.toNat : Int)) == n) = true := by
  subst h
  rw [beq_iff_eq, hm]
theorem BogOk.succ {a : ByteArray} {k : Nat} (h : BogOk a k) (hk : k < a.size) (h1 : a[k] ≠ 62) (h2 : a[k] ≠ 0) : BogOk a (k + 1) := by
  intro i hi hik
  by_cases e : i = k
  · subst e; exact ⟨h1, h2⟩
  · exact h i hi (by omega)
set_option maxRecDepth 100000 in
set_option maxHeartbeats 2000000 in
theorem bogus_big (a0 a1 : ByteArray) (w : World) (hGl : Glob w) (h0 : a0.size ≤ 140737488351232) (h1 : a1.size ≤ 140737488351232) (hb : 300 < a0.size ∨ 300 < a1.size) :
    Calls Tryd.prog 14 #[.string a0, .string a1] w fun e w' => e = .returned (.bool true) ∧ Below w.heap.size w w' := by
  by_cases hq : 300 < a0.size
  · have q : decide ((300 : Int) < (a0.size : Int)) = true := by simp; omega
    clear hb
    go_enter Tryd.func14, Tryd.ntmps14
    go_wp2_with fail
    refine (awake10_any _ hGl).mono ?_
    rintro e w1 ⟨rfl, hb⟩
    go_wp2_with fail
    go_ret
    exact ⟨rfl, hb⟩
  · have q : decide ((300 : Int) < (a0.size : Int)) = false := by simp; omega
    have q' : decide ((300 : Int) < (a1.size : Int)) = true := by simp; omega
    clear hb
    go_enter Tryd.func14, Tryd.ntmps14
    go_wp2_with fail
    refine (awake10_any _ hGl).mono ?_
    rintro e w1 ⟨rfl, hb⟩
    go_wp2_with fail
    go_ret
    exact ⟨rfl, hb⟩

set_option maxRecDepth 100000 in
set_option maxHeartbeats 2000000 in
theorem bogus_small (s m : List UInt8) (w : World) (hGl : Glob w) (h0 : s.length ≤ 300) (h1 : m.length ≤ 300) :
    Calls Tryd.prog 14 #[.string (B s), .string (B m)] w fun e w' => e = .returned (.bool true) ∧ Below w.heap.size w w' := by
  have R1 : BogOk (B s) (B s).size → ∀ W, Glob W → Calls Tryd.prog 37 #[.string (⟨#[60, 63]⟩ ++ B s ++ ⟨#[62]⟩ ++ B m), .int .i64 0] W fun e w' => e = .returned (.tuple #[.agg #[.int .i64 3, .string (B []), .string (⟨#[63]⟩ ++ B s), .slice none 0 0, .bool false], .int .i64 ((B s).size + 3 : Int), .bool true]) ∧ Below W.heap.size W w' := by
    intro ho W hG
    have := read0 _ _ _ (by simp; omega) (bogus_one ho.list.1 ho.list.2 m) W hG
    rw [B_app, B_app, B_app, ← ByteArray.append_assoc, ← ByteArray.append_assoc] at this
    rw [size_B]
    exact this
  have R2 : BogOk (B s) (B s).size → ∀ W, Glob W → Calls Tryd.prog 37 #[.string (⟨#[60, 33, 91]⟩ ++ B s ++ ⟨#[62]⟩ ++ B m), .int .i64 0] W fun e w' => e = .returned (.tuple #[.agg #[.int .i64 3, .string (B []), .string (⟨#[91]⟩ ++ B s), .slice none 0 0, .bool false], .int .i64 ((B s).size + 4 : Int), .bool true]) ∧ Below W.heap.size W w' := by
    intro ho W hG
    have := read0 _ _ _ (by simp; omega) (bogus_two ho.list.1 ho.list.2 m) W hG
    rw [B_app, B_app, B_app, ← ByteArray.append_assoc, ← ByteArray.append_assoc] at this
    rw [size_B]
    exact this
  have R3 : BogOk (B s) (B s).size → ∀ W, Glob W → Calls Tryd.prog 37 #[.string (⟨#[60, 47, 49]⟩ ++ B s), .int .i64 0] W fun e w' => e = .returned (.tuple #[.agg #[.int .i64 3, .string (B []), .string (⟨#[49]⟩ ++ B s), .slice none 0 0, .bool false], .int .i64 ((B s).size + 3 : Int), .bool true]) ∧ Below W.heap.size W w' := by
    intro ho W hG
    have := read0 _ _ _ (by simp; omega) (bogus_three ho.list.1 ho.list.2) W hG
    rw [B_app] at this
    rw [size_B]
    exact this
  obtain ⟨a0, ha⟩ : ∃ a, B s = a := ⟨_, rfl⟩
  obtain ⟨a1, hm⟩ : ∃ a, B m = a := ⟨_, rfl⟩
  have z0 : a0.size ≤ 300 := by rw [← ha]; simpa using h0
  have z1 : a1.size ≤ 300 := by rw [← hm]; simpa using h1
  rw [ha] at R1 R2 R3 ⊢
  rw [hm] at R1 R2 ⊢
  clear ha hm h0 h1
  have q : decide ((300 : Int) < (a0.size : Int)) = false := by simp; omega
  have q' : decide ((300 : Int) < (a1.size : Int)) = false := by simp; omega
  have HR1 := Lib.hid R1
  have HR2 := Lib.hid R2
  have HR3 := Lib.hid R3
  clear R1 R2 R3
  go_enter Tryd.func14, Tryd.ntmps14
  go_wp2_with fail
  refine (awake10_any _ hGl).mono ?_
  rintro e w1 ⟨rfl, hb⟩
  have HL := Lib.hid ((Live.start hGl).call hb)
  clear hb hGl
  go_wp2_with fail
  go_loop [6] (fun i => ∃ k : Nat, k ≤ a0.size ∧ i = .int .i64 k ∧ Hid (BogOk a0 k)) (fun i => a0.size - (intOf i).toNat)
  case atStart => exact ⟨0, Nat.zero_le _, rfl, Lib.hid (fun i _ h => by omega)⟩
  case round =>
    obtain ⟨k, hk, rfl, ho⟩ := hrel
    by_cases hlt : k < a0.size
    · by_cases h62 : a0[k] = 62
      · have e1 : (((a0[k].toNat : Int)) == 62) = true := by rw [h62]; rfl
        clear h62
        go_wp2_with fail
        go_ret
        exact ⟨rfl, HL.out.below⟩
      · have e1 : (((a0[k].toNat : Int)) == 62) = false := byte_ne 62 h62
        by_cases h00 : a0[k] = 0
        · have e2 : (((a0[k].toNat : Int)) == 0) = true := by rw [h00]; rfl
          clear h62 h00
          go_wp2_with fail
          go_ret
          exact ⟨rfl, HL.out.below⟩
        · have e2 : (((a0[k].toNat : Int)) == 0) = false := byte_ne 0 h00
          have ho' := Lib.hid (ho.out.succ hlt h62 h00)
          clear h62 h00 ho
          go_wp2_with fail
          go_round
          case rel => exact ⟨k + 1, by omega, by go_num, ho'⟩
          case measure => simp [intOf]; omega
    · obtain rfl : k = a0.size := by omega
      have C1 := Lib.hid (HR1.out ho.out)
      have C2 := Lib.hid (HR2.out ho.out)
      have C3 := Lib.hid (HR3.out ho.out)
      clear HR1 HR2 HR3 ho
      go_wp2_with fail
      refine (C1.out _ HL.out.glob).mono ?_
      rintro e w2 ⟨rfl, hb⟩
      replace HL := Lib.hid (HL.out.call hb)
      clear hb C1
      go_wp2_with fail
      replace HL := Lib.hid (HL.out.alloc #[.int .i64 3, .string (B []), .string (⟨#[63]⟩ ++ a0), .slice none 0 0, .bool false] 35)
      refine (C2.out _ HL.out.glob).mono ?_
      rintro e w3 ⟨rfl, hb⟩
      replace HL := Lib.hid (HL.out.call hb)
      clear hb C2
      go_wp2_with fail
      replace HL := Lib.hid (HL.out.alloc #[.int .i64 3, .string (B []), .string (⟨#[91]⟩ ++ a0), .slice none 0 0, .bool false] 35)
      refine (C3.out _ HL.out.glob).mono ?_
      rintro e w4 ⟨rfl, hb⟩
      replace HL := Lib.hid (HL.out.call hb)
      clear hb C3
      replace HL := Lib.hid (HL.out.alloc #[.int .i64 3, .string (B []), .string (⟨#[49]⟩ ++ a0), .slice none 0 0, .bool false] 35)
      have q1 := HL.out.cell (b := w2.heap.size) (j := 2) (x := .string (⟨#[63]⟩ ++ a0)) m2 rfl
      have q2 := HL.out.cell (b := w3.heap.size) (j := 2) (x := .string (⟨#[91]⟩ ++ a0)) m1 rfl
      have q3 := HL.out.cell (b := w4.heap.size) (j := 2) (x := .string (⟨#[49]⟩ ++ a0)) m0 rfl
      go_wp2_with fail
      go_ret
      exact ⟨rfl, HL.out.below⟩
theorem CommentBogus_law (a0 a1 : ByteArray) (w : World) (h0 : a0.size ≤ 140737488351232) (h1 : a1.size ≤ 140737488351232) (hGl : Glob w) :
    Calls Tryd.prog 14 #[.string a0, .string a1] w fun e w' => e = .returned (.bool true) ∧ Below w.heap.size w w' := by
  by_cases hb : 300 < a0.size ∨ 300 < a1.size
  · exact bogus_big a0 a1 w hGl h0 h1 hb
  · obtain ⟨s, rfl⟩ := exists_B a0
    obtain ⟨m, rfl⟩ := exists_B a1
    rw [size_B, size_B] at hb
    exact bogus_small s m w hGl (by omega) (by omega)
end Go.Proofs.YtppaobgccdlccaaDoor.Hand
