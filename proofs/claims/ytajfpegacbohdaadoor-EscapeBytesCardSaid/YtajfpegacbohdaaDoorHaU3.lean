/-
  Hand walk: utf.Decode.
-/
import Derived.Test.YtajfpegacbohdaaDoorHaU2
import Derived.Test.YtajfpegacbohdaaDoorPlU2
import Derived.Lib.Builder
import Derived.Lib.ConvBytes
import Derived.Laws.IdiomStrings
namespace Go.Proofs.YtajfpegacbohdaaDoor.Hand
open Go.RowKit Go.Proofs.YtajfpegacbohdaaDoor.Pl Go.Proofs.YtajfpegacbohdaaDoor.Pb

def decB (l : List UInt8) : ByteArray := B (decL l)
theorem trim_B (s : ByteArray) : (⟨(Lib.trimPrefix s.data.toList (⟨#[239, 187, 191]⟩ : ByteArray).data.toList).toArray⟩ : ByteArray) = B (trimL s.data.toList) := rfl
theorem first_any (X : ByteArray) (h : 0 < X.size) (hz : X.size ≤ 1000000000) :
    ∃ n b, 1 ≤ n ∧ n ≤ X.size ∧ decL X.data.toList = (if b = true then (X.extract 0 n).data.toList else badP) ++ decL (X.extract n X.size).data.toList ∧
      ∀ w, Calls Tryd.prog 32 #[.string X] w fun e w' => e = .returned (.tuple #[.int .i64 (n : Int), .bool b]) ∧ Below w.heap.size w w' := by
  obtain ⟨l, rfl⟩ := exists_B X
  cases l with
  | nil => exact absurd h (by decide)
  | cons c r =>
    obtain ⟨p1, p2, _⟩ := firstU_pos c r
    refine ⟨(firstU (c :: r)).1, (firstU (c :: r)).2, p1, by rw [size_B]; exact p2, ?_, fun w => first_at c r _ _ rfl _ (B_data _) hz w⟩
    rw [B_data, B_extract, B_extract, B_data, B_data, size_B, List.take_length, List.drop_zero, decL_cons]
theorem builderAt_below {T e : TypeId} {B0 b : Nat} {p : Value} {bs : List Value} {W W' : World} (h : Lib.BuilderAt T e B0 b p bs W) (hb : Below W.heap.size W W') : Lib.BuilderAt T e B0 b p bs W' := by
  have lt : ∀ {k : Nat} {o : Obj}, W.heap[k]? = some o → k < W.heap.size := fun h => (Array.getElem?_eq_some_iff.1 h).1
  obtain ⟨hB, v, hv, hown, hne⟩ := h
  refine ⟨hB, v, (hb.block b (lt hv)).trans hv, ⟨hown.1, ?_⟩, hne⟩
  rcases hown.2 with h | ⟨g, cap, cur, h1, h2, h3, h4⟩
  · exact .inl h
  · exact .inr ⟨g, cap, cur, h1, h2, (hb.block g (lt h3)).trans h3, h4⟩
theorem isB_below {T e : TypeId} {B0 b : Nat} {bs : List Value} {W W' : World} (h : Lib.IsBuilder T e B0 b bs W) (hb : Below W.heap.size W W') : Lib.IsBuilder T e B0 b bs W' :=
  h.elim (fun x => .inl (builderAt_below x hb)) (fun x => .inr (builderAt_below x hb))
set_option maxRecDepth 100000 in
set_option maxHeartbeats 4000000 in
theorem decode_at (s : List UInt8) (b : Nat) (cap : Nat) (w : World) (hz : s.length ≤ 100000)
    (hc : ∀ j, j < s.length → w.cell? ⟨b, j, none⟩ = some (.int .u8 ((s.getD j 0).toNat : Int))) :
    Calls Tryd.prog 13 #[.slice (some ⟨b, 0, none⟩) s.length cap] w fun e w' => e = .returned (.string (B (decL (trimL s)))) ∧ Below w.heap.size w w' := by
  have hz2 : (trimL s).length ≤ 100000 := by unfold trimL; split <;> (try rw [List.length_drop]) <;> omega
  have hback : ∀ o, (convert 33 9 (.slice (some ⟨b, 0, none⟩) s.length cap)).run Tryd.prog (w.alloc o) = Result.ok (Value.string (B s)) (w.alloc o) := fun o =>
    run_convert_bytes_back (P := Tryd.prog) (w.alloc o) 33 9 5 ⟨b, 0, none⟩ cap s Tryd.underlying33 Tryd.underlying5 Tryd.underlying9 (fun j hj => by
      have h := cell_step ((Below.refl _ w).alloc (Nat.le_refl _) o) (hc j hj)
      have ha : (⟨b, 0, none⟩ : Addr).add j = ⟨b, j, none⟩ := by unfold Addr.add; split <;> simp_all
      rw [ha, h, List.getD_eq_getElem?_getD, List.getElem?_eq_getElem hj]; rfl)
  have TP : ∀ W, Calls Tryd.prog 31 #[.string (B s), .string ⟨#[239, 187, 191]⟩] W fun e w' => e = .returned (.string (B (trimL s))) ∧ w' = W := fun W => by
    have := Tryd.strings_TrimPrefix (B s) ⟨#[239, 187, 191]⟩ W
    rw [trim_B, B_data] at this
    exact this
  have HTP := Lib.hid TP
  have DT : Hid (decL (B (trimL s)).data.toList = decL (trimL s)) := Lib.hid (by rw [B_data])
  have zT : (B (trimL s)).size ≤ 100000 := by rw [size_B]; exact hz2
  obtain ⟨T, hT⟩ : ∃ T, B (trimL s) = T := ⟨_, rfl⟩
  obtain ⟨D, hD⟩ : ∃ D, decL (trimL s) = D := ⟨_, rfl⟩
  obtain ⟨S, hS⟩ : ∃ S, B s = S := ⟨_, rfl⟩
  obtain ⟨N, hN⟩ : ∃ S, s.length = S := ⟨_, rfl⟩
  rw [hT, hS] at HTP
  rw [hT, hD] at DT
  rw [hT] at zT
  rw [hS, hN] at hback
  rw [hD, hN]
  clear hT hD hS hN TP hz2 hz hc
  go_enter Tryd.func13, Tryd.ntmps13
  go_wp2_with fail
  refine (HTP.out _).mono ?_
  rintro e w' ⟨rfl, rfl⟩
  clear hback HTP
  go_wp2_with fail
  go_loopg [4] T.size (fun g v wx => ∃ (X : ByteArray) (acc : List UInt8), X.size = g ∧ v = .string X ∧ X.size ≤ 100000 ∧ acc.length + 3 * X.size ≤ 300000 ∧ Hid (acc ++ decL X.data.toList = D) ∧ Hid (Lib.IsBuilder 51 5 w.heap.size w.heap.size (Lib.byteCells acc) wx) ∧ Hid (Below w.heap.size w wx))
  case atStart => exact ⟨T, [], rfl, rfl, zT, by simp; omega, DT, Lib.hid (Lib.fresh_isBuilder 51 5 w), Lib.hid ((Below.refl _ w).alloc (Nat.le_refl _) _)⟩
  case round =>
    obtain ⟨X, acc, hg, rfl, hX, hacc, hD, hI, hB⟩ := hrel
    cases gk with
    | zero =>
      have q1 : (X.toList == []) = true := by
        obtain ⟨l, rfl⟩ := exists_B X
        rw [size_B] at hg
        obtain rfl := List.eq_nil_of_length_eq_zero hg
        rw [toList_B]; rfl
      have q2 : (X.toList != []) = false := by rw [bne, q1]; rfl
      have e : acc = D := by
        rw [← hD.out]
        obtain ⟨l, rfl⟩ := exists_B X
        rw [size_B] at hg
        obtain rfl := List.eq_nil_of_length_eq_zero hg
        rw [B_data]; exact (List.append_nil _).symm
      subst e
      have W := Lib.hid (Tryd.Builder_String_any w.heap.size w.heap.size acc wr hI.out hB.out.size)
      clear hg hD
      go_wp2_with fail
      refine W.out.mono ?_
      rintro e w1 ⟨rfl, b1⟩
      have HB2 := Lib.hid (hB.out.trans b1)
      clear b1 W
      go_wp2_with fail
      go_ret
      exact ⟨rfl, HB2.out⟩
    | succ g =>
      have q1 : (X.toList == []) = false := by
        obtain ⟨l, rfl⟩ := exists_B X
        rw [toList_B, beq_eq_false_iff_ne]
        rintro rfl
        cases hg
      have q2 : (X.toList != []) = true := by rw [bne, q1]; rfl
      obtain ⟨n, wh, hn1, hn2, hdec, F⟩ := first_any X (by omega) (by omega)
      have HG := Lib.hid hg
      clear hg
      have HF := Lib.hid F
      have zs : (X.extract n X.size).size = X.size - n := by rw [ByteArray.size_extract]; omega
      have ze : (X.extract 0 n).size = n := by rw [ByteArray.size_extract]; omega
      have HZ := Lib.hid zs
      have HE := Lib.hid ze
      have HD2 := Lib.hid hdec
      clear F zs ze hdec
      cases wh with
      | true =>
        have HD3 : Hid ((acc ++ (X.extract 0 n).data.toList) ++ decL (X.extract n X.size).data.toList = D) := Lib.hid (by rw [← hD.out, HD2.out, if_pos rfl, List.append_assoc])
        have W := Lib.hid (fun W (h : Lib.IsBuilder 51 5 w.heap.size w.heap.size (Lib.byteCells acc) W) hb => Tryd.Builder_WriteString w.heap.size w.heap.size _ (X.extract 0 n) W h (by rw [Lib.byteCells_length, ByteArray.size_extract]; omega) hb)
        clear HD2 hD
        go_wp2_with fail
        refine (HF.out _).mono ?_
        rintro e w1 ⟨rfl, b1⟩
        have HB2 := Lib.hid (hB.out.trans (b1.mono hB.out.size))
        have HI2 : Hid (Lib.IsBuilder 51 5 w.heap.size w.heap.size (Lib.byteCells acc) w1) := Lib.hid (isB_below hI.out b1)
        clear b1 hB hI
        go_wp2_with fail
        refine (W.out _ HI2.out HB2.out.size).mono ?_
        rintro e w2 ⟨rfl, h1, b2⟩
        have HB3 := Lib.hid (HB2.out.trans b2)
        have HI3 : Hid (Lib.IsBuilder 51 5 w.heap.size w.heap.size (Lib.byteCells (acc ++ (X.extract 0 n).data.toList)) w2) := Lib.hid (Or.inr (by rw [show Lib.byteCells (acc ++ (X.extract 0 n).data.toList) = Lib.byteCells acc ++ Lib.strCells (X.extract 0 n) by simp [Lib.byteCells, Lib.strCells]]; exact h1))
        clear h1 b2 HB2 HI2 W
        go_wp2_with fail
        go_roundg (X.size - n)
        case measure => have := HG.out; omega
        case rel => exact ⟨X.extract n X.size, _, HZ.out, rfl, by rw [HZ.out]; omega, by rw [HZ.out, List.length_append, show (X.extract 0 n).data.toList.length = n from by rw [Array.length_toList]; exact HE.out]; omega, HD3, HI3, HB3⟩
      | false =>
        have HD3 : Hid ((acc ++ badP) ++ decL (X.extract n X.size).data.toList = D) := Lib.hid (by rw [← hD.out, HD2.out, if_neg (by decide), List.append_assoc])
        have W := Lib.hid (fun W (h : Lib.IsBuilder 51 5 w.heap.size w.heap.size (Lib.byteCells acc) W) hb => Tryd.Builder_WriteString w.heap.size w.heap.size _ ⟨#[239, 191, 189]⟩ W h (by rw [Lib.byteCells_length, show (⟨#[239, 191, 189]⟩ : ByteArray).size = 3 from rfl]; omega) hb)
        clear HD2 hD
        go_wp2_with fail
        refine (HF.out _).mono ?_
        rintro e w1 ⟨rfl, b1⟩
        have HB2 := Lib.hid (hB.out.trans (b1.mono hB.out.size))
        have HI2 : Hid (Lib.IsBuilder 51 5 w.heap.size w.heap.size (Lib.byteCells acc) w1) := Lib.hid (isB_below hI.out b1)
        clear b1 hB hI
        go_wp2_with fail
        refine (W.out _ HI2.out HB2.out.size).mono ?_
        rintro e w2 ⟨rfl, h1, b2⟩
        have HB3 := Lib.hid (HB2.out.trans b2)
        have HI3 : Hid (Lib.IsBuilder 51 5 w.heap.size w.heap.size (Lib.byteCells (acc ++ badP)) w2) := Lib.hid (Or.inr (by rw [show Lib.byteCells (acc ++ badP) = Lib.byteCells acc ++ Lib.strCells ⟨#[239, 191, 189]⟩ by simp [Lib.byteCells, Lib.strCells, badP]]; exact h1))
        clear h1 b2 HB2 HI2 W
        go_wp2_with fail
        go_roundg (X.size - n)
        case measure => have := HG.out; omega
        case rel => exact ⟨X.extract n X.size, _, HZ.out, rfl, by rw [HZ.out]; omega, by rw [HZ.out, List.length_append, show badP.length = 3 from rfl]; omega, HD3, HI3, HB3⟩
end Go.Proofs.YtajfpegacbohdaaDoor.Hand
