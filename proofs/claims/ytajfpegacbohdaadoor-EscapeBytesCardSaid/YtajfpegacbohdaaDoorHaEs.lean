/-
  Hand walks: utf.Sign, escape.replace, escape.marked, escape.Encode.
-/
import Derived.Test.YtajfpegacbohdaaDoorHaRp11
namespace Go.Proofs.YtajfpegacbohdaaDoor.Hand
open Go.RowKit Go.Proofs.YtajfpegacbohdaaDoor.Pb Go.Proofs.YtajfpegacbohdaaDoor.Pl

/-- a sign's bytes -/
def signB (n : Int) : ByteArray := if n < 0 ∨ 1114111 < n then ⟨#[239, 191, 189]⟩ else Utf8.encode n
set_option maxRecDepth 100000 in
set_option maxHeartbeats 2000000 in
theorem sign_c (n : Int) (w : World) (h : -9223372036854775808 ≤ n ∧ n ≤ 9223372036854775807) :
    Calls Tryd.prog 46 #[.int .i64 n] w fun e w' => e = .returned (.string (signB n)) ∧ w' = w := by
  obtain ⟨S, hS⟩ : ∃ S, signB n = S := ⟨_, rfl⟩
  rw [hS]
  unfold signB at hS
  by_cases h0 : n < 0
  · rw [if_pos (.inl h0)] at hS
    have e0 : decide (n < 0) = true := by simpa using h0
    have HS := Lib.hid hS
    clear hS
    go_enter Tryd.func46, Tryd.ntmps46
    go_wp2_with fail
    go_ret
    exact ⟨by rw [← HS.out]; rfl, rfl⟩
  · have e0 : decide (n < 0) = false := by simpa using h0
    by_cases h1 : 1114111 < n
    · rw [if_pos (.inr h1)] at hS
      have e1 : decide (1114111 < n) = true := by simpa using h1
      have HS := Lib.hid hS
      clear hS
      go_enter Tryd.func46, Tryd.ntmps46
      go_wp2_with fail
      go_ret
      exact ⟨by rw [← HS.out]; rfl, rfl⟩
    · rw [if_neg (by omega)] at hS
      have e1 : decide (1114111 < n) = false := by simpa using h1
      have h2 : 0 ≤ n := by omega
      have h3 : n ≤ 1114111 := by omega
      have HS := Lib.hid hS
      clear hS
      go_enter Tryd.func46, Tryd.ntmps46
      go_wp2_with fail
      go_ret
      exact ⟨by rw [← HS.out]; rfl, rfl⟩
theorem replS_length {f : UInt8 → Option (List UInt8 × List UInt8)} (hf : ∀ c t v, f c = some (t, v) → v.length ≤ 100) : ∀ (s : List UInt8) (k : Nat), (replS f k s).length ≤ 100 * s.length := by
  intro s
  induction s with
  | nil => intro k; rw [replS_nil]; simp
  | cons c r ih =>
    intro k
    cases k with
    | succ k => have := ih k; simp only [replS, List.length_cons]; omega
    | zero =>
      simp only [replS]
      split
      · rename_i t v h
        have h1 := hf c t v h
        split
        · have := ih t.length; simp only [List.length_append, List.length_cons]; omega
        · have := ih 0; simp only [List.length_cons]; omega
      · have := ih 0; simp only [List.length_cons]; omega
theorem pairF_val {kv : List (List UInt8 × ByteArray)} (hv : ∀ x ∈ kv, x.2.size ≤ 100) (c : UInt8) (t v : List UInt8) (h : pairF kv c = some (t, v)) : v.length ≤ 100 := by
  obtain ⟨j, hj, _, e⟩ := pairF_some h
  have := hv _ (List.getElem_mem hj)
  rw [e] at this
  simpa using this
set_option maxRecDepth 100000 in
set_option maxHeartbeats 2000000 in
theorem replace_c (kv : List (List UInt8 × ByteArray)) (hk : Words kv) (bo cap : Nat) (s : List UInt8) (w : World) (ho : BlkF bo (2 * kv.length) (strV (flatKV kv)) w) (hbo : bo < w.heap.size) (hs : s.length ≤ 100000) :
    Calls Tryd.prog 45 #[.string (B s), .slice (some ⟨bo, 0, none⟩) (2 * kv.length) cap] w fun e w' => e = .returned (.string (B (replS (pairF kv) 0 s))) ∧ Below w.heap.size w w' := by
  have hl := flatKV_length kv
  have hr : (replS (pairF kv) 0 s).length ≤ 100000000 := by
    have := replS_length (pairF_val hk.vals) s 0
    omega
  have h2 := hk.two
  have hm := hk.many
  have C1 := new_replacer bo cap (flatKV kv) w (by rw [hl]; exact ho) hbo (by omega) (by omega) (by omega)
  rw [hl] at C1
  replace C1 := Lib.hid C1
  have C2 := Lib.hid (fun rb b2 c w1 (hN : NewR (flatKV kv) rb b2 c w w1) => repl_replace kv rb b2 c w.heap.size s w w1 hk hN (Nat.le_refl _) hs hr)
  clear hl hr h2 hm hk ho hbo
  go_enter Tryd.func45, Tryd.ntmps45
  go_wp2_with fail
  refine C1.out.mono ?_
  rintro e w1 ⟨rb, b2, c, rfl, hN⟩
  have HN := Lib.hid hN
  clear hN C1
  go_wp2_with fail
  refine (C2.out rb b2 c _ HN.out).mono ?_
  rintro e w2 ⟨rfl, hb⟩
  have HB := Lib.hid (HN.out.below.trans hb)
  clear hb C2 HN
  go_wp2_with fail
  go_ret
  exact ⟨rfl, HB.out⟩
/-- the words of escape -/
def escP : List (List UInt8 × ByteArray) := [([38], B wAmp), ([60], B wLt), ([62], B wGt), ([34], B wQuot), ([39], B wApos), ([13], B wCr), ([0], B wBad), ([239, 187, 191], B wMark)]
theorem escP_pair : pairF escP = escF := by
  funext c
  have : ∀ n : Fin 256, pairF escP (UInt8.ofNat n.val) = escF (UInt8.ofNat n.val) := by decide +kernel
  have h' := this ⟨c.toNat, c.toNat_lt⟩
  simpa using h'
theorem heads_of {kv : List (List UInt8 × ByteArray)} (h : (∀ x ∈ kv, x.1 ≠ []) ∧ ∀ i j : Fin kv.length, i ≠ j → kv[i].1.head? ≠ kv[j].1.head?) : Heads kv :=
  ⟨h.1, fun i j hi hj hne => h.2 ⟨i, hi⟩ ⟨j, hj⟩ (by simpa using hne)⟩
theorem escP_words : Words escP where
  heads := heads_of (by decide +kernel)
  lens := by decide +kernel
  vals := by decide +kernel
  many := by decide
  cnt := by decide +kernel
  long := ⟨7, by decide, by decide⟩
  two := by decide
def escCells : Array Value := #[.string ⟨#[38]⟩, .string ⟨#[38, 97, 109, 112, 59]⟩, .string ⟨#[60]⟩, .string ⟨#[38, 108, 116, 59]⟩, .string ⟨#[62]⟩, .string ⟨#[38, 103, 116, 59]⟩, .string ⟨#[34]⟩, .string ⟨#[38, 113, 117, 111, 116, 59]⟩,
  .string ⟨#[39]⟩, .string ⟨#[38, 35, 51, 57, 59]⟩, .string ⟨#[13]⟩, .string ⟨#[38, 35, 49, 51, 59]⟩, .string ⟨#[0]⟩, .string ⟨#[239, 191, 189]⟩, .string ⟨#[239, 187, 191]⟩, .string ⟨#[38, 35, 54, 53, 50, 55, 57, 59]⟩]
theorem cells_strs {l : List ByteArray} {cs : Array Value} (h : cs.toList = l.map .string) (t : TypeId) (w : World) : BlkF w.heap.size l.length (strV l) (w.alloc (.cells cs t)) := by
  refine ⟨fun j hj => (World.cell?_alloc_at _ _ _ j rfl).trans ?_, fun j => World.frozen?_alloc_at _ _ _ j rfl⟩
  rw [← strV_get l j hj, ← h, Array.getElem?_toList]
theorem sign_mark : signB 65279 = ⟨#[239, 187, 191]⟩ := by rfl
set_option maxRecDepth 100000 in
set_option maxHeartbeats 2000000 in
theorem marked_c (s : List UInt8) (w : World) (hs : s.length ≤ 100000) :
    Calls Tryd.prog 30 #[.string (B s)] w fun e w' => e = .returned (.string (B (escL s))) ∧ Below w.heap.size w w' := by
  have C1 := sign_c 65279 w (by omega)
  rw [sign_mark] at C1
  replace C1 := Lib.hid C1
  have hF : BlkF w.heap.size (2 * escP.length) (strV (flatKV escP)) (w.alloc (.cells escCells 9)) := cells_strs (l := flatKV escP) rfl 9 w
  have C2 : Hid (Calls Tryd.prog 45 #[.string (B s), .slice (some ⟨w.heap.size, 0, none⟩) 16 16] (w.alloc (.cells escCells 9)) fun e w' => e = .returned (.string (B (escL s))) ∧ Below w.heap.size w w') := Lib.hid (by
    have := replace_c escP escP_words w.heap.size 16 s _ hF (by simp) hs
    rw [escP_pair] at this
    refine this.mono ?_
    rintro e w' ⟨h1, h2⟩
    exact ⟨h1, (Below.alloc (Below.refl _ _) (Nat.le_refl _) (.cells escCells 9)).trans (h2.mono (by simp))⟩)
  clear hF
  unfold escCells at C2
  go_enter Tryd.func30, Tryd.ntmps30
  go_wp2_with fail
  refine C1.out.mono ?_
  rintro e w1 ⟨rfl, rfl⟩
  go_wp2_with fail
  refine C2.out.mono ?_
  rintro e w2 ⟨rfl, hb⟩
  go_wp2_with fail
  go_ret
  exact ⟨rfl, hb⟩
theorem pre10 (s : List UInt8) : Lib.hasPrefix s [10] = (s.head? == some 10) := by
  cases s with
  | nil => rfl
  | cons c r => rw [Bool.eq_iff_iff]; simp only [Lib.hasPrefix, List.isPrefixOf, Bool.and_true, beq_iff_eq, List.head?_cons, Option.some.injEq]; exact eq_comm
set_option maxRecDepth 100000 in
set_option maxHeartbeats 4000000 in
theorem enc_c (k : Int) (s : List UInt8) (w : World) (hs : s.length ≤ 100000) :
    Calls Tryd.prog 12 #[.int .i64 k, .string (B s)] w fun e w' => e = .returned (.string (B (encL k s))) ∧ Below w.heap.size w w' := by
  have C1 := Lib.hid (fun W => marked_c s W hs)
  have C2 := fun W => hasPrefix_t (B s) ⟨#[10]⟩ W
  have hpre : Lib.hasPrefix (B s).data.toList (⟨#[10]⟩ : ByteArray).data.toList = (s.head? == some 10) := by rw [B_data]; exact pre10 s
  rw [hpre] at C2
  clear hpre
  obtain ⟨a, ha⟩ : ∃ a, B s = a := ⟨_, rfl⟩
  rw [ha] at C1 C2 ⊢
  replace C2 := Lib.hid C2
  clear ha
  by_cases h0 : k = 0
  · subst h0
    have hr : encL 0 s = escL s := by simp [encL]
    rw [hr]
    go_enter Tryd.func12, Tryd.ntmps12
    go_wp2_with fail
    refine (C1.out _).mono ?_
    rintro e w1 ⟨rfl, hb⟩
    go_wp2_with fail
    go_ret
    exact ⟨rfl, hb⟩
  by_cases h1 : k = 1
  · subst h1
    have hr : encL 1 s = escL s := by simp [encL]
    rw [hr]
    go_enter Tryd.func12, Tryd.ntmps12
    go_wp2_with fail
    refine (C1.out _).mono ?_
    rintro e w1 ⟨rfl, hb⟩
    go_wp2_with fail
    go_ret
    exact ⟨rfl, hb⟩
  by_cases h2 : k = 2
  · subst h2
    cases hh : (s.head? == some 10) with
    | true =>
      rw [hh] at C2
      have hr : B (encL 2 s) = ⟨#[10]⟩ ++ B (escL s) := by
        have h : s.head? = some 10 := by simpa using hh
        have e : encL 2 s = [10] ++ escL s := by simp [encL, h]
        rw [e, ← B_append]; rfl
      rw [hr]
      have hz : (escL s).length ≤ 100000000 := by
        have := (esc_length s.length s (Nat.le_refl _)).1
        omega
      have hz2 : (B (escL s)).size ≤ 100000000 := by simpa using hz
      obtain ⟨b, hb'⟩ : ∃ b, B (escL s) = b := ⟨_, rfl⟩
      rw [hb'] at C1 hz2 ⊢
      clear hh hr hz hb' h0 h1
      go_enter Tryd.func12, Tryd.ntmps12
      go_wp2_with fail
      refine (C1.out _).mono ?_
      rintro e w1 ⟨rfl, hb⟩
      go_wp2_with fail
      refine (C2.out _).mono ?_
      rintro e w2 ⟨rfl, rfl⟩
      go_wp2_with fail
      go_ret
      exact ⟨rfl, hb⟩
    | false =>
      rw [hh] at C2
      have hr : encL 2 s = escL s := by
        have h : ¬ s.head? = some 10 := by simpa using hh
        simp [encL, h]
      rw [hr]
      clear hh hr h0 h1
      go_enter Tryd.func12, Tryd.ntmps12
      go_wp2_with fail
      refine (C1.out _).mono ?_
      rintro e w1 ⟨rfl, hb⟩
      go_wp2_with fail
      refine (C2.out _).mono ?_
      rintro e w2 ⟨rfl, rfl⟩
      go_wp2_with fail
      go_ret
      exact ⟨rfl, hb⟩
  · have hr : encL k s = [] := by simp [encL, h0, h1, h2]
    rw [hr]
    have e0 : (k != 0) = true := by rw [bne_iff_ne]; exact h0
    have e1 : (k != 1) = true := by rw [bne_iff_ne]; exact h1
    have e2 : (k != 2) = true := by rw [bne_iff_ne]; exact h2
    clear h0 h1 h2 hr
    go_enter Tryd.func12, Tryd.ntmps12
    go_wp2_with fail
    go_ret
    exact ⟨rfl, Below.refl _ _⟩
end Go.Proofs.YtajfpegacbohdaaDoor.Hand
