/-
  Walk of a law: flaillaw10.CommentEnds.
-/
import Derived.Test.YtppaobgccdlccaaDoorHaBog
namespace Go.Proofs.YtppaobgccdlccaaDoor.Hand
open Go.RowKit Go.Proofs.YtppaobgccdlccaaDoor.K0 Go.Proofs.YtppaobgccdlccaaDoor.Pl Go.Proofs.YtppaobgccdlccaaDoor.Pb Go.Proofs.YtppaobgccdlccaaDoor.Sa Go.Proofs.YtppaobgccdlccaaDoor.Pure Go.Proofs.YtppaobgccdlccaaDoorW.PrintWords Go.Proofs.YtppaobgccdlccaaDoorW.PrintLast Go.Proofs.YtppaobgccdlccaaDoorW.PrintMore

def EndB (a : ByteArray) (n : Nat) : Prop := ∀ i (h : i < a.size), i < n → a[i] ≠ 0 ∧ ((i = 0 ∨ i + 1 = a.size) → a[i] ≠ 45) ∧ (i = 0 → a[i] ≠ 62) ∧ (∀ j (_ : j + 1 = i), ¬ (a[i] = 45 ∧ a[j] = 45))
theorem EndB.list {s : List UInt8} (h : EndB (B s) (B s).size) : EndsOk s := by
  intro i hi
  have hi' : i < (B s).size := by simpa using hi
  obtain ⟨h1, h2, h3, h4⟩ := h i hi' hi'
  have e : ∀ j (hj : j < s.length), s[j]? = some ((B s)[j]'(by simpa using hj)) := fun j hj => List.getElem?_eq_getElem hj
  refine ⟨?_, fun g => ?_, fun g => ?_, fun g => ?_⟩
  · rw [e i hi]; simpa using h1
  · rw [e i hi]; simpa using h2 (by simpa using g)
  · rw [e i hi]; simpa using h3 g
  · rw [e i hi, e (i - 1) (by omega)]
    have := h4 (i - 1) (by omega)
    simpa using this
theorem EndB.succ {a : ByteArray} {k : Nat} (h : EndB a k) (hk : k < a.size) (h1 : a[k] ≠ 0) (h2 : (k = 0 ∨ k + 1 = a.size) → a[k] ≠ 45) (h3 : k = 0 → a[k] ≠ 62) (h4 : ∀ j (_ : j + 1 = k), ¬ (a[k] = 45 ∧ a[j] = 45)) : EndB a (k + 1) := by
  intro i hi hik
  by_cases e : i = k
  · subst e; exact ⟨h1, h2, h3, h4⟩
  · exact h i hi (by omega)
set_option maxRecDepth 100000 in
set_option maxHeartbeats 2000000 in
theorem ends_big (a0 a1 : ByteArray) (b : Bool) (w : World) (hGl : Glob w) (h0 : a0.size ≤ 140737488351232) (h1 : a1.size ≤ 140737488351232) (hb : 300 < a0.size ∨ 300 < a1.size) :
    Calls Tryd.prog 13 #[.string a0, .string a1, .bool b] w fun e w' => e = .returned (.bool true) ∧ Below w.heap.size w w' := by
  by_cases hq : 300 < a0.size
  · have q : decide ((300 : Int) < (a0.size : Int)) = true := by simp; omega
    clear hb
    go_enter Tryd.func13, Tryd.ntmps13
    go_wp2_with fail
    refine (awake10_any _ hGl).mono ?_
    rintro e w1 ⟨rfl, hb⟩
    go_wp2_with fail
    go_ret
    exact ⟨rfl, hb⟩
  · have q : decide ((300 : Int) < (a0.size : Int)) = false := by simp; omega
    have q' : decide ((300 : Int) < (a1.size : Int)) = true := by simp; omega
    clear hb
    go_enter Tryd.func13, Tryd.ntmps13
    go_wp2_with fail
    refine (awake10_any _ hGl).mono ?_
    rintro e w1 ⟨rfl, hb⟩
    go_wp2_with fail
    go_ret
    exact ⟨rfl, hb⟩
def endOfB (b : Bool) : ByteArray := B (endOf b)
set_option maxRecDepth 100000 in
set_option maxHeartbeats 4000000 in
theorem ends_small (s m : List UInt8) (b : Bool) (w : World) (hGl : Glob w) (h0 : s.length ≤ 300) (h1 : m.length ≤ 300) :
    Calls Tryd.prog 13 #[.string (B s), .string (B m), .bool b] w fun e w' => e = .returned (.bool true) ∧ Below w.heap.size w w' := by
  have R1 : EndB (B s) (B s).size → ∀ W, Glob W → Calls Tryd.prog 37 #[.string (⟨#[60, 33, 45, 45]⟩ ++ B s ++ endOfB b ++ B m), .int .i64 0] W fun e w' => e = .returned (.tuple #[.agg #[.int .i64 3, .string (B []), .string (B s), .slice none 0 0, .bool false], .int .i64 (4 + ((B s).size : Int) + ((endOfB b).size : Int)), .bool true]) ∧ Below W.heap.size W w' := by
    intro ho W hG
    have l : (endOf b).length ≤ 4 := by cases b <;> simp [endOf, P3, P4]
    have := read0 _ _ _ (by simp [O4]; omega) (ends_one ho.list b m) W hG
    rw [B_app, B_app, B_app, ← ByteArray.append_assoc, ← ByteArray.append_assoc] at this
    rw [endOfB, size_B, size_B, show (4 : Int) + (s.length : Int) + ((endOf b).length : Int) = ((4 + (s.length + (endOf b).length) : Nat) : Int) by omega]
    exact this
  have R2 : EndB (B s) (B s).size → ∀ W, Glob W → Calls Tryd.prog 37 #[.string (⟨#[60, 33, 45, 45]⟩ ++ B s), .int .i64 0] W fun e w' => e = .returned (.tuple #[.agg #[.int .i64 3, .string (B []), .string (B s), .slice none 0 0, .bool false], .int .i64 (((B s).size : Int) + 4), .bool true]) ∧ Below W.heap.size W w' := by
    intro ho W hG
    have := read0 _ _ _ (by simp [O4]; omega) (ends_two ho.list) W hG
    rw [B_app] at this
    rw [size_B, show (s.length : Int) + 4 = ((4 + s.length : Nat) : Int) by omega]
    exact this
  obtain ⟨a0, ha⟩ : ∃ a, B s = a := ⟨_, rfl⟩
  obtain ⟨a1, hm⟩ : ∃ a, B m = a := ⟨_, rfl⟩
  have z0 : a0.size ≤ 300 := by rw [← ha]; simpa using h0
  have z1 : a1.size ≤ 300 := by rw [← hm]; simpa using h1
  rw [ha] at R1 R2 ⊢
  rw [hm] at R1 ⊢
  clear ha hm h0 h1
  have q : decide ((300 : Int) < (a0.size : Int)) = false := by simp; omega
  have q' : decide ((300 : Int) < (a1.size : Int)) = false := by simp; omega
  have HR1 := Lib.hid R1
  have HR2 := Lib.hid R2
  clear R1 R2
  go_enter Tryd.func13, Tryd.ntmps13
  go_wp2_with fail
  refine (awake10_any _ hGl).mono ?_
  rintro e w1 ⟨rfl, hb⟩
  have HL := Lib.hid ((Live.start hGl).call hb)
  clear hb hGl
  go_wp2_with fail
  go_loop [8] (fun i => ∃ k : Nat, k ≤ a0.size ∧ i = .int .i64 k ∧ Hid (EndB a0 k)) (fun i => a0.size - (intOf i).toNat)
  case atStart => exact ⟨0, Nat.zero_le _, rfl, Lib.hid (fun i _ h => by omega)⟩
  case round =>
    obtain ⟨k, hk, rfl, ho⟩ := hrel
    by_cases hlt : k < a0.size
    · by_cases h00 : a0[k] = 0
      · have e1 := byte_eq 0 h00
        clear h00 ho
        cases k with
        | zero =>
          go_wp2_with fail
          go_ret
          exact ⟨rfl, HL.out.below⟩
        | succ j =>
          by_cases hl : j + 2 = a0.size
          · have e2 : (a0.size : Int) - 1 = ((j + 1 : Nat) : Int) := by omega
            go_wp2_with fail
            go_ret
            exact ⟨rfl, HL.out.below⟩
          · have e2 : (((j + 1 : Nat) : Int) == (a0.size : Int) - 1) = false := by rw [beq_eq_false_iff_ne]; omega
            go_wp2_with fail
            go_ret
            exact ⟨rfl, HL.out.below⟩
      · have e1 := byte_ne 0 h00
        cases k with
        | zero =>
          by_cases h45 : a0[0] = 45
          · have e3 := byte_eq 45 h45
            clear h00 h45 ho
            go_wp2_with fail
            go_ret
            exact ⟨rfl, HL.out.below⟩
          · have e3 := byte_ne 45 h45
            by_cases h62 : a0[0] = 62
            · have e4 := byte_eq 62 h62
              clear h00 h45 h62 ho
              go_wp2_with fail
              go_ret
              exact ⟨rfl, HL.out.below⟩
            · have e4 := byte_ne 62 h62
              have ho' := Lib.hid (ho.out.succ hlt h00 (fun _ => h45) (fun _ => h62) (fun j hj => by omega))
              clear h00 h45 h62 ho
              go_wp2_with fail
              go_round
              case rel => exact ⟨0 + 1, by omega, by go_num, ho'⟩
              case measure => simp [intOf]; omega
        | succ j =>
          by_cases h45 : a0[j + 1] = 45
          · have e3 := byte_eq 45 h45
            by_cases hl : j + 2 = a0.size
            · have e2 : (a0.size : Int) - 1 = ((j + 1 : Nat) : Int) := by omega
              clear h00 h45 ho
              go_wp2_with fail
              go_ret
              exact ⟨rfl, HL.out.below⟩
            · have e2 : (((j + 1 : Nat) : Int) == (a0.size : Int) - 1) = false := by rw [beq_eq_false_iff_ne]; omega
              by_cases hp : a0[j] = 45
              · have e5 := byte_eq 45 hp
                clear h00 h45 hp ho
                go_wp2_with fail
                go_ret
                exact ⟨rfl, HL.out.below⟩
              · have e5 := byte_ne 45 hp
                have hj : ∀ i (_ : i + 1 = j + 1), ¬ (a0[j + 1] = 45 ∧ a0[i] = 45) := by
                  intro i hi
                  obtain rfl : i = j := by omega
                  exact fun h => hp h.2
                have ho' := Lib.hid (ho.out.succ hlt h00 (fun h => by omega) (fun h => by omega) hj)
                clear hj
                clear h00 h45 hp ho
                go_wp2_with fail
                go_round
                case rel => exact ⟨j + 1 + 1, by omega, by go_num, ho'⟩
                case measure => simp [intOf]; omega
          · have e3 := byte_ne 45 h45
            have ho' := Lib.hid (ho.out.succ hlt h00 (fun _ => h45) (fun h => by omega) (fun i _ h => h45 h.1))
            clear h00 h45 ho
            by_cases hl : j + 2 = a0.size
            · have e2 : (a0.size : Int) - 1 = ((j + 1 : Nat) : Int) := by omega
              go_wp2_with fail
              go_round
              case rel => exact ⟨j + 1 + 1, by omega, by go_num, ho'⟩
              case measure => simp [intOf]; omega
            · have e2 : (((j + 1 : Nat) : Int) == (a0.size : Int) - 1) = false := by rw [beq_eq_false_iff_ne]; omega
              go_wp2_with fail
              go_round
              case rel => exact ⟨j + 1 + 1, by omega, by go_num, ho'⟩
              case measure => simp [intOf]; omega
    · obtain rfl : k = a0.size := by omega
      have C1 := Lib.hid (HR1.out ho.out)
      have C2 := Lib.hid (HR2.out ho.out)
      clear HR1 HR2 ho
      cases b with
      | true =>
        go_wp2_with fail
        refine (C1.out _ HL.out.glob).mono ?_
        rintro e w2 ⟨rfl, hb⟩
        replace HL := Lib.hid (HL.out.call hb)
        clear hb C1
        go_wp2_with fail
        replace HL := Lib.hid (HL.out.alloc #[.int .i64 3, .string (B []), .string a0, .slice none 0 0, .bool false] 35)
        refine (C2.out _ HL.out.glob).mono ?_
        rintro e w3 ⟨rfl, hb⟩
        replace HL := Lib.hid (HL.out.call hb)
        clear hb C2
        replace HL := Lib.hid (HL.out.alloc #[.int .i64 3, .string (B []), .string a0, .slice none 0 0, .bool false] 35)
        have q1 := HL.out.cell (b := w2.heap.size) (j := 2) (x := .string a0) m1 rfl
        have q2 := HL.out.cell (b := w3.heap.size) (j := 2) (x := .string a0) m0 rfl
        go_wp2_with fail
        go_ret
        exact ⟨rfl, HL.out.below⟩
      | false =>
        go_wp2_with fail
        refine (C1.out _ HL.out.glob).mono ?_
        rintro e w2 ⟨rfl, hb⟩
        replace HL := Lib.hid (HL.out.call hb)
        clear hb C1
        go_wp2_with fail
        replace HL := Lib.hid (HL.out.alloc #[.int .i64 3, .string (B []), .string a0, .slice none 0 0, .bool false] 35)
        refine (C2.out _ HL.out.glob).mono ?_
        rintro e w3 ⟨rfl, hb⟩
        replace HL := Lib.hid (HL.out.call hb)
        clear hb C2
        replace HL := Lib.hid (HL.out.alloc #[.int .i64 3, .string (B []), .string a0, .slice none 0 0, .bool false] 35)
        have q1 := HL.out.cell (b := w2.heap.size) (j := 2) (x := .string a0) m1 rfl
        have q2 := HL.out.cell (b := w3.heap.size) (j := 2) (x := .string a0) m0 rfl
        go_wp2_with fail
        go_ret
        exact ⟨rfl, HL.out.below⟩
theorem CommentEnds_law (a0 a1 : ByteArray) (b : Bool) (w : World) (h0 : a0.size ≤ 140737488351232) (h1 : a1.size ≤ 140737488351232) (hGl : Glob w) :
    Calls Tryd.prog 13 #[.string a0, .string a1, .bool b] w fun e w' => e = .returned (.bool true) ∧ Below w.heap.size w w' := by
  by_cases hb : 300 < a0.size ∨ 300 < a1.size
  · exact ends_big a0 a1 b w hGl h0 h1 hb
  · obtain ⟨s, rfl⟩ := exists_B a0
    obtain ⟨m, rfl⟩ := exists_B a1
    rw [size_B, size_B] at hb
    exact ends_small s m b w hGl (by omega) (by omega)
end Go.Proofs.YtppaobgccdlccaaDoor.Hand
