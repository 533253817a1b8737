/-
  Walk of a law: flaillaw11.DoctypeSays.
-/
import Derived.Test.YtppaobgccdlccaaDoorHaDo4
import Derived.Test.YtppaobgccdlccaaDoorPlD
namespace Go.Proofs.YtppaobgccdlccaaDoor.Hand
open Go.RowKit Go.Proofs.YtppaobgccdlccaaDoor.K0 Go.Proofs.YtppaobgccdlccaaDoor.Pl Go.Proofs.YtppaobgccdlccaaDoor.Pb Go.Proofs.YtppaobgccdlccaaDoor.Sa Go.Proofs.YtppaobgccdlccaaDoor.Pure Go.Proofs.YtppaobgccdlccaaDoorW.PrintWords Go.Proofs.YtppaobgccdlccaaDoorW.PrintLast Go.Proofs.YtppaobgccdlccaaDoorW.PrintMore

theorem Live.put0 {w W : World} {L : List (Nat × Array Value)} {b : Nat} {v : Array Value} (h : Live w W ((b, v) :: L)) (k : Nat) (x : Value) (hk : k < v.size) (hne : ∀ y ∈ L, b ≠ y.1) (hb : w.heap.size ≤ b) (hb0 : b ≠ 0) :
    Live w (W.setCell ⟨b, k, none⟩ x) ((b, v.setIfInBounds k x) :: L) := by
  refine ⟨?_, h.below.setCell (p := ⟨b, k, none⟩) hb _, fun y hy => ?_⟩
  · obtain ⟨m, hm⟩ := h.glob
    exact ⟨m, by rw [World.cell?_setCell_other _ _ _ _ (by intro e; injection e with e; exact hb0 e)]; exact hm⟩
  · rcases List.mem_cons.1 hy with rfl | hy
    · exact ⟨by simp [World.setCell]; exact (h.blk _ m0).1, (h.blk _ m0).2.set k x hk⟩
    · have := h.blk y (List.mem_cons_of_mem _ hy)
      exact ⟨by simp [World.setCell]; exact this.1, this.2.other k x (hne y hy)⟩
theorem doc_big (f : Nat) (hf : f = 21) (a0 : ByteArray) (w : World) (hGl : Glob w) (h0 : a0.size ≤ 140737488351232) (hb : 300 < a0.size) :
    Calls Tryd.prog f #[.string a0] w fun e w' => e = .returned (.bool true) ∧ Below w.heap.size w w' := by
  subst hf
  have q : decide ((300 : Int) < (a0.size : Int)) = true := by simp; omega
  clear hb
  go_enter Tryd.func21, Tryd.ntmps21
  go_wp2_with fail
  refine (awake11_any _ hGl).mono ?_
  rintro e w1 ⟨rfl, hb⟩
  go_wp2_with fail
  go_ret
  exact ⟨rfl, hb⟩
set_option maxRecDepth 100000 in
set_option maxHeartbeats 8000000 in
theorem says_small (s : List UInt8) (w : World) (hGl : Glob w) (h0 : s.length ≤ 300) :
    Calls Tryd.prog 21 #[.string (B s)] w fun e w' => e = .returned (.bool true) ∧ Below w.heap.size w w' := by
  have hu42 := Tryd.underlying42
  obtain ⟨n, p, y, hn, hp, hy, q1, q2, hd, he, r1, r2, r3, r4, r5⟩ := parse_two s
  have C1 := fun W hG => parse_c s true _ hd (by omega) W hG
  have C2 := fun W hG => parse_c s false _ he (by omega) W hG
  have G1 : ∀ W, Glob W → Calls Tryd.prog 49 #[.string (B s), .bool true] W fun e w' => e = .returned (.agg #[.string (B n), .string (B p), .string (B y), .bool hn, .bool hp, .bool hy, .bool q1]) ∧ Below W.heap.size W w' := C1
  have G2 : ∀ W, Glob W → Calls Tryd.prog 49 #[.string (B s), .bool false] W fun e w' => e = .returned (.agg #[.string (B n), .string (B p), .string (B y), .bool hn, .bool hp, .bool hy, .bool q2]) ∧ Below W.heap.size W w' := C2
  clear C1 C2 hd he
  obtain ⟨a0, ha⟩ : ∃ a, B s = a := ⟨_, rfl⟩
  have z0 : a0.size ≤ 300 := by rw [← ha]; simpa using h0
  rw [ha] at G1 G2 ⊢
  clear ha h0
  obtain ⟨np, hnp⟩ : ∃ a, B n = a := ⟨_, rfl⟩
  obtain ⟨pp, hpp⟩ : ∃ a, B p = a := ⟨_, rfl⟩
  obtain ⟨yp, hyp⟩ : ∃ a, B y = a := ⟨_, rfl⟩
  have s1 : (np.toList != ([] : List UInt8)) = hn := by rw [← hnp, toList_B, r3]; cases n <;> rfl
  have s2 : hp = false → (pp.toList == ([] : List UInt8)) = true := by intro h; rw [← hpp, toList_B, r4 h]; rfl
  have s3 : hy = false → (yp.toList == ([] : List UInt8)) = true := by intro h; rw [← hyp, toList_B, r5 h]; rfl
  rw [hnp, hpp, hyp] at G1 G2
  clear hnp hpp hyp r3 r4 r5
  have H1 := Lib.hid G1
  have H2 := Lib.hid G2
  clear G1 G2
  have q : decide ((300 : Int) < (a0.size : Int)) = false := by simp; omega
  obtain ⟨mg, hmg⟩ := hGl
  have hw0 := World.block_lt_of_cell? w _ hmg
  have hGl : Glob w := ⟨mg, hmg⟩
  clear hmg
  have key : ∀ (hn hp hy q1 q2 : Bool), (q1 = true → q2 = true) → (hn = false → q1 = true ∧ hp = false ∧ hy = false) → (np.toList != ([] : List UInt8)) = hn → (hp = false → (pp.toList == ([] : List UInt8)) = true) → (hy = false → (yp.toList == ([] : List UInt8)) = true) →
      Hid (∀ W, Glob W → Calls Tryd.prog 49 #[.string a0, .bool true] W fun e w' => e = .returned (.agg #[.string np, .string pp, .string yp, .bool hn, .bool hp, .bool hy, .bool q1]) ∧ Below W.heap.size W w') →
      Hid (∀ W, Glob W → Calls Tryd.prog 49 #[.string a0, .bool false] W fun e w' => e = .returned (.agg #[.string np, .string pp, .string yp, .bool hn, .bool hp, .bool hy, .bool q2]) ∧ Below W.heap.size W w') →
      Calls Tryd.prog 21 #[.string a0] w fun e w' => e = .returned (.bool true) ∧ Below w.heap.size w w' := by
    clear s1 s2 s3 H1 H2 r1 r2
    intro hn hp hy q1 q2 r1 r2 s1 s2 s3 H1 H2
    have hs2 : hp = false → pp.toList = [] := fun h => by simpa using s2 h
    have hs3 : hy = false → yp.toList = [] := fun h => by simpa using s3 h
    have R1 := Lib.hid r1
    have R2 := Lib.hid r2
    have S2 := Lib.hid hs2
    have S3 := Lib.hid hs3
    clear r1 r2 s2 s3 hs2 hs3
    go_enter Tryd.func21, Tryd.ntmps21
    go_wp2_with fail
    refine (awake11_any _ hGl).mono ?_
    rintro e w1 ⟨rfl, hb⟩
    have HL := Lib.hid ((Live.start hGl).call hb)
    clear hb
    go_wp2_with fail
    refine (H1.out _ HL.out.glob).mono ?_
    rintro e w2 ⟨rfl, hb⟩
    replace HL := Lib.hid ((HL.out.call hb).alloc #[.string np, .string pp, .string yp, .bool hn, .bool hp, .bool hy, .bool q1] 42)
    clear hb
    go_wp2_with fail
    refine (H2.out _ HL.out.glob).mono ?_
    rintro e w3 ⟨rfl, hb⟩
    have HA := Lib.hid ((HL.out.call hb).alloc #[.string np, .string pp, .string yp, .bool hn, .bool hp, .bool hy, .bool q2] 42)
    have HC := Lib.hid ((HL.out.call hb).alloc #[.string np, .string pp, .string yp, .bool hn, .bool hp, .bool hy, .bool q1] 42)
    clear hb HL
    have da0 := HA.out.cell (b := w2.heap.size) (j := 0) (x := .string np) m1 rfl
    have da1 := HA.out.cell (b := w2.heap.size) (j := 1) (x := .string pp) m1 rfl
    have da2 := HA.out.cell (b := w2.heap.size) (j := 2) (x := .string yp) m1 rfl
    have da3 := HA.out.cell (b := w2.heap.size) (j := 3) (x := .bool hn) m1 rfl
    have da4 := HA.out.cell (b := w2.heap.size) (j := 4) (x := .bool hp) m1 rfl
    have da5 := HA.out.cell (b := w2.heap.size) (j := 5) (x := .bool hy) m1 rfl
    have da6 := HA.out.cell (b := w2.heap.size) (j := 6) (x := .bool q1) m1 rfl
    have dc0 := HC.out.cell (b := w2.heap.size) (j := 0) (x := .string np) m1 rfl
    have dc1 := HC.out.cell (b := w2.heap.size) (j := 1) (x := .string pp) m1 rfl
    have dc2 := HC.out.cell (b := w2.heap.size) (j := 2) (x := .string yp) m1 rfl
    have dc3 := HC.out.cell (b := w2.heap.size) (j := 3) (x := .bool hn) m1 rfl
    have dc4 := HC.out.cell (b := w2.heap.size) (j := 4) (x := .bool hp) m1 rfl
    have dc5 := HC.out.cell (b := w2.heap.size) (j := 5) (x := .bool hy) m1 rfl
    have dc6 := HC.out.cell (b := w2.heap.size) (j := 6) (x := .bool q1) m1 rfl
    clear HA
    cases hn with
    | false =>
      obtain ⟨rfl, rfl, rfl⟩ := R2.out rfl
      obtain rfl : q2 = true := R1.out rfl
      have t1 : np.toList = [] := by simpa using s1
      have t2 := S2.out rfl
      have t3 := S3.out rfl
      clear R1 R2 S2 S3 s1
      go_wp2_with fail
      go_ret
      exact ⟨rfl, HC.out.below⟩
    | true =>
      have n1 : ¬ np.toList = [] := by simpa using s1
      have n2 : np.toList.isEmpty = false := by simpa using s1
      clear s1
      cases q1 with
      | true =>
        obtain rfl : q2 = true := R1.out rfl
        clear R1 R2
        cases hp with
        | true =>
          cases hy with
          | true =>
            go_wp2_with fail
            go_ret
            exact ⟨rfl, HC.out.below⟩
          | false =>
            have t3 := S3.out rfl
            clear S2 S3
            go_wp2_with fail
            go_ret
            exact ⟨rfl, HC.out.below⟩
        | false =>
          have t2 := S2.out rfl
          cases hy with
          | true =>
            clear S2 S3
            go_wp2_with fail
            go_ret
            exact ⟨rfl, HC.out.below⟩
          | false =>
            have t3 := S3.out rfl
            clear S2 S3
            go_wp2_with fail
            go_ret
            exact ⟨rfl, HC.out.below⟩
      | false =>
        clear R1 R2
        cases hp with
        | true =>
          cases hy with
          | true =>
            clear S2 S3
            go_wp2_with fail
            go_ret
            exact ⟨rfl, HC.out.below⟩
          | false =>
            have t3 := S3.out rfl
            clear S2 S3
            go_wp2_with fail
            go_ret
            exact ⟨rfl, HC.out.below⟩
        | false =>
          have t2 := S2.out rfl
          cases hy with
          | true =>
            clear S2 S3
            go_wp2_with fail
            go_ret
            exact ⟨rfl, HC.out.below⟩
          | false =>
            have t3 := S3.out rfl
            clear S2 S3
            go_wp2_with fail
            go_ret
            exact ⟨rfl, HC.out.below⟩
  exact key hn hp hy q1 q2 r1 r2 s1 s2 s3 H1 H2
theorem DoctypeSays_law (a0 : ByteArray) (w : World) (h0 : a0.size ≤ 140737488351232) (hGl : Glob w) :
    Calls Tryd.prog 21 #[.string a0] w fun e w' => e = .returned (.bool true) ∧ Below w.heap.size w w' := by
  by_cases hb : 300 < a0.size
  · exact doc_big _ rfl a0 w hGl h0 hb
  · obtain ⟨s, rfl⟩ := exists_B a0
    rw [size_B] at hb
    exact says_small s w hGl (by omega)
end Go.Proofs.YtppaobgccdlccaaDoor.Hand
