/-
  Plain base for the pure statements: strings as lists of bytes (B), one byte read and cut, indexes that do not wrap.
-/
import Derived.Test.YtajfpegacbohdaaDoorWWords
import Derived.Test.YtajfpegacbohdaaDoorPl0
namespace Go.Proofs.YtajfpegacbohdaaDoor.Pb
open Go Go.RowKit Go.Proofs.YtajfpegacbohdaaDoorW.PrintWords

/-- a string out of its bytes -/
def B (l : List UInt8) : ByteArray := ⟨l.toArray⟩
theorem B_data (l : List UInt8) : (B l).data.toList = l := by simp [B]
theorem B_of (s : ByteArray) : s = B s.data.toList := by cases s; simp [B]
theorem exists_B (s : ByteArray) : ∃ l, s = B l := ⟨_, B_of s⟩
theorem B_inj {l m : List UInt8} (h : B l = B m) : l = m := by rw [← B_data l, h, B_data]
theorem B_mk (a : Array UInt8) : (⟨a⟩ : ByteArray) = B a.toList := by simp [B]
theorem B_nil : (⟨#[]⟩ : ByteArray) = B [] := rfl
@[simp] theorem size_B (l : List UInt8) : (B l).size = l.length := by simp [B, ByteArray.size]
@[simp] theorem B_append (l m : List UInt8) : B l ++ B m = B (l ++ m) := by
  apply ByteArray.ext; rw [ByteArray.data_append]; simp [B]
theorem B_extract (l : List UInt8) (i j : Nat) : (B l).extract i j = B ((l.take j).drop i) := by
  apply ByteArray.ext; rw [ByteArray.data_extract]; simp [B, List.drop_take]
theorem toList_loop (bs : ByteArray) (n : Nat) : ∀ i r, bs.size - i = n → ByteArray.toList.loop bs i r = r.reverse ++ bs.data.toList.drop i := by
  induction n with
  | zero =>
    intro i r h
    unfold ByteArray.toList.loop
    rw [if_neg (by omega), List.drop_eq_nil_of_le (by simp; have : bs.data.size = bs.size := rfl; omega), List.append_nil]
  | succ n ih =>
    intro i r h
    unfold ByteArray.toList.loop
    have hi : i < bs.size := by omega
    rw [if_pos hi, ih (i + 1) _ (by omega)]
    have hd : bs.data.toList.drop i = bs.get! i :: bs.data.toList.drop (i + 1) := by
      rw [List.drop_eq_getElem_cons (by simpa using hi)]
      congr 1
      cases bs with
      | mk d =>
        show d.toList[i] = d[i]!
        have hd : i < d.size := hi
        rw [getElem!_pos d i hd]; simp
    rw [hd]; simp
theorem toList_data (bs : ByteArray) : bs.toList = bs.data.toList := by
  unfold ByteArray.toList; rw [toList_loop bs bs.size 0 [] (by omega)]; simp
@[simp] theorem toList_B (l : List UInt8) : (B l).toList = l := by rw [toList_data, B_data]

theorem bt_B (l : List UInt8) (i : Nat) (h : i < l.length) : bt (B l) (i : Int) = ((l[i]'h).toNat : Int) := by
  unfold bt
  have this : (i : Int).toNat < (B l).size := by simpa using h
  rw [dif_pos this]
  have e : (B l)[(i : Int).toNat]'this = l[i]'h := by
    show (l.toArray)[(i : Int).toNat]'(by simpa using h) = l[i]'h
    simp only [Int.toNat_natCast, List.getElem_toArray]
  exact congrArg (fun c : UInt8 => (c.toNat : Int)) e
@[simp] theorem bt_mid (p r : List UInt8) (c : UInt8) : bt (B (p ++ c :: r)) (p.length : Int) = (c.toNat : Int) := by
  rw [bt_B _ _ (by simp)]; simp
theorem ext_mid (p r : List UInt8) (c : UInt8) : (B (p ++ c :: r)).extract p.length (p.length + 1) = B [c] := by
  rw [B_extract]; congr 1; simp [List.take_append, List.take_of_length_le]
theorem wrap_nat (n : Nat) (h : n < 9223372036854775807) : wrap64 ((n : Int) + 1) = ((n + 1 : Nat) : Int) := by unfold wrap64; omega
theorem wrap_add (n k : Nat) (h : n + k < 9223372036854775808) : wrap64 ((n : Int) + (k : Int)) = ((n + k : Nat) : Int) := by unfold wrap64; omega
theorem wrap_id (n : Int) (h0 : -9223372036854775808 ≤ n) (h : n < 9223372036854775808) : wrap64 n = n := by unfold wrap64; omega
/-- a byte against a number -/
theorem u8_eq (c : UInt8) (n : Nat) (h : n < 256) : (((c.toNat : Int)) = ((n : Nat) : Int)) = (c = UInt8.ofNat n) := by
  apply propext
  constructor
  · intro e; apply UInt8.toNat_inj.1; simp [UInt8.toNat_ofNat']; omega
  · intro e; subst e; simp [UInt8.toNat_ofNat']; omega
theorem mid_lt (p r : List UInt8) (c : UInt8) : (p.length : Int) < ((B (p ++ c :: r)).size : Int) := by simp; omega
theorem end_nlt (p : List UInt8) : ¬ (p.length : Int) < ((B p).size : Int) := by simp
theorem take_succ_len (p r : List UInt8) (c : UInt8) : p ++ c :: r = (p ++ [c]) ++ r := by simp
end Go.Proofs.YtajfpegacbohdaaDoor.Pb
