/-
  Hand walk: utf.Right, a range over a string.
-/
import Derived.Test.YtajfpegacbohdaaDoorK0
import Derived.Test.YtajfpegacbohdaaDoorHa0
import Derived.Test.YtajfpegacbohdaaDoorHa1
import Derived.Test.YtajfpegacbohdaaDoorHaL
import Derived.Test.YtajfpegacbohdaaDoorPlU
import Derived.Test.YtajfpegacbohdaaDoorPb
import Derived.RangeFuncOwn
import Derived.RangeFuncKeeps
import Derived.Laws.Runes
import Derived.Laws.RangeString
import Derived.LoopN
import Derived.Deep.LoopGhost
namespace Go.Proofs.YtajfpegacbohdaaDoor.Hand
open Go.RowKit Go.Proofs.YtajfpegacbohdaaDoor.Pl Go.Proofs.YtajfpegacbohdaaDoor.Pb

theorem run_next_gen {P : Program} (W : World) (b : Nat) (s : ByteArray) (pos : Nat) (ty : TypeId) (hb : W.heap[b]? = some (.stringIter s pos)) (h : pos < s.size) :
    (Instr.next (.pointer (some ⟨b, 0, none⟩)) true ty).run P W =
      .ok (.tuple #[.bool true, .int .i64 pos, .int .i32 ((Utf8.decode s pos).1 : Nat)]) (W.putObj b (.stringIter s (pos + (Utf8.decode s pos).2))) := by
  simp [Instr.next, getObj, setObj, Sem.run, hb, h, World.putObj, goInt]
theorem run_next_stop {P : Program} (W : World) (b : Nat) (s : ByteArray) (pos : Nat) (ty : TypeId) (hb : W.heap[b]? = some (.stringIter s pos)) (h : ¬ pos < s.size) :
    (Instr.next (.pointer (some ⟨b, 0, none⟩)) true ty).run P W = .ok (.tuple #[.bool false]) W := by
  simp [Instr.next, getObj, Sem.run, hb, h]
theorem below_putObj {w W : World} {b : Nat} {o : Obj} (h : Below w.heap.size w W) (hb : w.heap.size ≤ b) : Below w.heap.size w (W.putObj b o) :=
  h.grown (grownBy_putObj' W b o) h.size (fun k e => by cases e; exact hb)
def badB : ByteArray := ⟨#[239, 191, 189]⟩
theorem drop_cut (s : List UInt8) (i : Nat) : ((B s).extract i (B s).size).data.toList = s.drop i := by
  rw [show (B s).extract i (B s).size = B (s.drop i) from by
    rw [B_extract, size_B, List.take_length]]
  exact B_data _
set_option maxRecDepth 100000 in
set_option maxHeartbeats 8000000 in
theorem right_c (s : List UInt8) (w : World) : Calls Tryd.prog 11 #[.string (B s)] w fun e w' => e = .returned (.bool (rightL s)) ∧ Below w.heap.size w w' := by
  obtain ⟨a, ha⟩ : ∃ a, B s = a := ⟨_, rfl⟩
  have hsz : a.size = s.length := by rw [← ha]; simp
  have hD : ∀ i, a.data.toList.drop i = s.drop i := fun i => by rw [← ha, B_data]
  have hC : ∀ i, (a.extract i a.size).data.toList = s.drop i := fun i => by rw [← ha]; exact drop_cut s i
  rw [ha]
  have HP : Hid (∀ (i : Nat) (W : World), Calls Tryd.prog 29 #[.string (a.extract i a.size), .string ⟨#[239, 191, 189]⟩] W fun e w' => e = .returned (.bool (badP.isPrefixOf (s.drop i))) ∧ w' = W) := Lib.hid (fun i W => by
    have := Tryd.strings_HasPrefix (a.extract i a.size) ⟨#[239, 191, 189]⟩ W
    rw [hC] at this
    exact this)
  have HD := Lib.hid hD
  have HS := Lib.hid hsz
  have HX : Hid (rightL s = rightL (s.drop 0)) := Lib.hid rfl
  clear hD hC ha hsz
  go_enter Tryd.func11, Tryd.ntmps11
  go_wp2_with fail
  go_loopg [9, 10] a.size (fun g _ _ wx => ∃ i : Nat, i + g = a.size ∧ wx.heap[w.heap.size]? = some (.stringIter a i) ∧ Hid (rightL s = rightL (s.drop i)) ∧ Hid (Below w.heap.size w wx))
  case atStart => exact ⟨0, by omega, World.iter_heap _ _ _, HX, Lib.hid ((Below.refl _ _).alloc (Nat.le_refl _) _)⟩
  case round =>
    obtain ⟨i, hig, hit, hno, hbl⟩ := hrel
    cases gk with
    | zero =>
      obtain rfl : i = a.size := by omega
      have hnx := fun ty => run_next_stop (P := Tryd.prog) _ w.heap.size a a.size ty hit (by omega)
      have hr : true = rightL s := by
        rw [hno.out, List.drop_of_length_le (by have := HS.out; omega)]; rfl
      have HR := Lib.hid hr
      clear hit hr
      go_wp2_with fail
      go_ret
      exact ⟨by rw [← HR.out]; rfl, hbl.out⟩
    | succ g =>
      have hi : i < a.size := by omega
      have hil : i < s.length := by have := HS.out; omega
      obtain ⟨c0, r0, hr⟩ : ∃ c r, s.drop i = c :: r := ⟨s[i], s.drop (i + 1), List.drop_eq_getElem_cons hil⟩
      have hd := decode_right (s := a) (i := i) ((HD.out i).trans hr)
      have hnx := fun ty => run_next_gen (P := Tryd.prog) _ w.heap.size a i ty hit hi
      obtain ⟨⟨c, k⟩, hck⟩ : ∃ d, Utf8.decode a i = d := ⟨_, rfl⟩
      rw [hck] at hd hnx
      simp only at hnx hd
      have hlt2 := (Array.getElem?_eq_some_iff.1 hit).1
      have hbl2 := Lib.hid (below_putObj (b := w.heap.size) (o := .stringIter a (i + k)) hbl.out (Nat.le_refl _))
      have hput := Lib.hid (World.putObj_heap_same (o := .stringIter a (i + k)) hlt2)
      have hpos := firstU_pos c0 r0
      have hrc := rightL_cons c0 r0
      have HPi := HP.out i
      rw [hr] at HPi
      have hlen := congrArg List.length hr
      rw [List.length_drop] at hlen
      cases hF : (firstU (c0 :: r0)).2 with
      | true =>
        obtain ⟨hk, hb⟩ := hd.1 hF
        rw [← hk] at hpos hrc
        rw [hF, Bool.true_and, ← hr, List.drop_drop] at hrc
        have HNX : Hid (rightL s = rightL (s.drop (i + k))) := Lib.hid (hno.out.trans hrc)
        have hk1 : 1 ≤ k := hpos.1
        have hk2 : i + k ≤ a.size := by have := HS.out; have := hpos.2.1; omega
        by_cases e : c = 65533
        · subst e
          rw [hb rfl] at HPi
          have HPJ := Lib.hid HPi
          clear hd hit hck hbl hno hpos hrc HPi hlen hF hk hb hr
          go_wp2_with fail
          refine (HPJ.out _).mono ?_
          rintro e w2 ⟨rfl, rfl⟩
          go_wp2_with fail
          go_roundg (g + 1 - k)
          case measure => omega
          case rel => exact ⟨i + k, by omega, hput.out, HNX, hbl2⟩
        · have hne : (((c : Nat) : Int) == 65533) = false := by rw [beq_eq_false_iff_ne]; omega
          clear hd hit hck hbl hno hpos hrc HPi hlen hF hk hb hr e
          go_wp2_with fail
          go_roundg (g + 1 - k)
          case measure => omega
          case rel => exact ⟨i + k, by omega, hput.out, HNX, hbl2⟩
      | false =>
        obtain ⟨hk, hb⟩ := hd.2 hF
        subst hk
        rw [hF, Bool.false_and, ← hr] at hrc
        rw [Bool.eq_false_iff.2 hb] at HPi
        have HNX : Hid (false = rightL s) := Lib.hid (hno.out.trans hrc).symm
        have HPJ := Lib.hid HPi
        clear hd hit hck hbl hno hpos hrc HPi hlen hF hb hr
        go_wp2_with fail
        refine (HPJ.out _).mono ?_
        rintro e w2 ⟨rfl, rfl⟩
        go_wp2_with fail
        go_ret
        exact ⟨by rw [← HNX.out]; rfl, hbl2.out⟩
end Go.Proofs.YtajfpegacbohdaaDoor.Hand
