/-
  Hand walks: sign.Lower (a string's letters made small).
-/
import Derived.Test.YtdheknlnhfegnaaDoorHa0
import Derived.Lib.ConvBytes
import Derived.Laws.IdiomStrings
namespace Go.Proofs.YtdheknlnhfegnaaDoor.Hand
open Go.RowKit Go.Proofs.YtdheknlnhfegnaaDoor.Pl

def LowAt (s : ByteArray) (b k : Nat) (W : World) : Prop :=
  ∀ j (hj : j < s.size), W.cell? ⟨b, j, none⟩ = some (.int .u8 (((if j < k then lowB s[j] else s[j]).toNat : Nat) : Int)) ∧ W.frozen? ⟨b, j, none⟩ = false
theorem LowAt.set {s : ByteArray} {b k : Nat} {W : World} (h : LowAt s b k W) (hk : k < s.size) : LowAt s b (k + 1) (W.setCell ⟨b, k, none⟩ (.int .u8 ((lowB s[k]).toNat : Int))) := by
  intro j hj
  rw [World.frozen?_setCell]
  refine ⟨?_, (h j hj).2⟩
  by_cases e : j = k
  · subst e
    rw [World.cell?_setCell_same _ _ _ (h j hj).1, if_pos (by omega)]
  · rw [World.cell?_setCell_other _ _ _ _ (by intro h'; injection h' with _ h2 _; exact e h2.symm), (h j hj).1]
    by_cases h1 : j < k
    · rw [if_pos h1, if_pos (by omega)]
    · rw [if_neg h1, if_neg (by omega)]
theorem LowAt.next {s : ByteArray} {b k : Nat} {W : World} (h : LowAt s b k W) (hk : k < s.size) (hc : lowB s[k] = s[k]) : LowAt s b (k + 1) W := by
  intro j hj
  refine ⟨?_, (h j hj).2⟩
  rw [(h j hj).1]
  by_cases e : j = k
  · subst e
    rw [if_neg (by omega), if_pos (by omega), hc]
  · by_cases h1 : j < k
    · rw [if_pos h1, if_pos (by omega)]
    · rw [if_neg h1, if_neg (by omega)]
theorem lowB_or (c : UInt8) (h1 : 65 ≤ c.toNat) (h2 : c.toNat ≤ 90) : bits .or .u8 (c.toNat : Int) 32 = ((lowB c).toNat : Int) := by
  have key : ∀ n : Fin 26, bits .or .u8 ((65 + n.val : Nat) : Int) 32 = ((65 + n.val + 32 : Nat) : Int) := by decide
  have hl : (lowB c).toNat = c.toNat + 32 := by
    unfold lowB
    rw [if_pos ⟨by rw [UInt8.le_iff_toNat_le]; exact h1, by rw [UInt8.le_iff_toNat_le]; exact h2⟩, UInt8.toNat_add]
    show (c.toNat + 32) % 256 = _
    omega
  have := key ⟨c.toNat - 65, by omega⟩
  rw [show 65 + (c.toNat - 65) = c.toNat from by omega] at this
  rw [this, hl]
theorem lowB_id (c : UInt8) (h : c.toNat < 65 ∨ 90 < c.toNat) : lowB c = c := by
  unfold lowB
  rw [if_neg]
  rintro ⟨a, b⟩
  rw [UInt8.le_iff_toNat_le] at a b
  have : (65 : UInt8).toNat = 65 := rfl
  have : (90 : UInt8).toNat = 90 := rfl
  omega
def lowBA (s : ByteArray) : ByteArray := ⟨(lowL s.data.toList).toArray⟩

theorem below_bytesWorld (w : World) (e : TypeId) (s : ByteArray) : Below w.heap.size w (Lib.bytesWorld w e s) :=
  ⟨by simp [Lib.bytesWorld, World.freeze, World.alloc, World.drew, -World.alloc_eq, -World.drew_eq], by simp [Lib.bytesWorld, World.freeze, World.alloc, World.drew, -World.alloc_eq, -World.drew_eq], by simp [Lib.bytesWorld, World.freeze, World.alloc, World.drew, -World.alloc_eq, -World.drew_eq], by rw [Lib.bytesWorld_size]; omega, fun j hj => Lib.bytesWorld_at_old w e s j hj⟩

set_option maxHeartbeats 400000 in
theorem lower_any (s : ByteArray) (w : World) (hs : s.size ≤ 1000000000) :
    Calls Tryd.prog 37 #[.string s] w fun e w' => e = .returned (.string (lowBA s)) ∧ Below w.heap.size w w' := by
  have hconv := Lib.run_convert_string_bytes (P := Tryd.prog) w 9 38 5 s Tryd.underlying9 Tryd.underlying38 Tryd.underlying5
  have hL : LowAt s w.heap.size 0 (Lib.bytesWorld w 5 s) := by
    intro j hj
    refine ⟨?_, ?_⟩
    · rw [Lib.bytesWorld_cell w 5 s j hj, if_neg (by omega)]
      have : s.data.toList.getD j 0 = s[j] := by
        rw [List.getD_eq_getElem?_getD, List.getElem?_eq_getElem (by simpa using hj)]; rfl
      rw [this]
    · have h1 := Lib.bytesWorld_at_new w 5 s
      have h2 : s.size ≤ (Lib.bytesCells w 5 s).size := by simp [Lib.bytesCells]
      unfold World.frozen?
      rw [h1]
      simp
      omega
  have hb0 := below_bytesWorld w 5 s
  generalize Lib.bytesWorld w 5 s = W0 at hconv hL hb0
  generalize grownCap w s.size 0 5 = cap at hconv
  have HL := Lib.hid hL
  have HB0 := Lib.hid hb0
  clear hL hb0
  go_enter Tryd.func37, Tryd.ntmps37
  go_wp2
  clear hconv
  go_loopw [10] (fun t wr => ∃ k : Nat, k ≤ s.size ∧ t = .int .i64 k ∧ Below w.heap.size w wr ∧ LowAt s w.heap.size k wr) (fun t _ => s.size - (intOf t).toNat)
  case atStart => exact ⟨0, by omega, rfl, HB0.out, HL.out⟩
  case round =>
    obtain ⟨k, hk, rfl, hb, hL⟩ := hrel
    by_cases hlt : k < s.size
    · have hc := (hL k hlt).1
      rw [if_neg (by omega)] at hc
      have hf := (hL k hlt).2
      have HL2 := Lib.hid hL
      have HB := Lib.hid hb
      clear hL hb
      by_cases h1 : 65 ≤ s[k].toNat
      · by_cases h2 : s[k].toNat ≤ 90
        · have e1 : decide ((65 : Int) ≤ (s[k].toNat : Int)) = true := by simp; omega
          have e2 : decide ((s[k].toNat : Int) ≤ 90) = true := by simp; omega
          have hor := lowB_or s[k] h1 h2
          go_wp2
          go_roundw
          case rel => exact ⟨k + 1, by omega, by go_num, HB.out.setCell (Nat.le_refl _) _, by first | exact HL2.out.set hlt | (rw [hor]; exact HL2.out.set hlt)⟩
          case measure => simp [intOf]; omega
        · have e1 : decide ((65 : Int) ≤ (s[k].toNat : Int)) = true := by simp; omega
          have e2 : decide ((s[k].toNat : Int) ≤ 90) = false := by simp; omega
          have hn := HL2.out.next hlt (lowB_id _ (.inr (by omega)))
          have HN := Lib.hid hn
          clear hn
          go_wp2
          go_roundw
          case rel => exact ⟨k + 1, by omega, by go_num, HB.out, HN.out⟩
          case measure => simp [intOf]; omega
      · have e1 : decide ((65 : Int) ≤ (s[k].toNat : Int)) = false := by simp; omega
        have hn := HL2.out.next hlt (lowB_id _ (.inl (by omega)))
        have HN := Lib.hid hn
        clear hn
        go_wp2
        go_roundw
        case rel => exact ⟨k + 1, by omega, by go_num, HB.out, HN.out⟩
        case measure => simp [intOf]; omega
    · obtain rfl : k = s.size := by omega
      have hlen : (lowL s.data.toList).length = s.size := by simp [lowL]
      have hback := run_convert_bytes_back (P := Tryd.prog) wr 38 9 5 ⟨w.heap.size, 0, none⟩ cap (lowL s.data.toList) Tryd.underlying38 Tryd.underlying5 Tryd.underlying9 (fun j hj => by
        have hj' : j < s.size := by omega
        have := (hL j hj').1
        rw [if_pos (by omega)] at this
        have ha : (⟨w.heap.size, 0, none⟩ : Addr).add j = ⟨w.heap.size, j, none⟩ := by unfold Addr.add; split <;> simp_all
        rw [ha, this]
        congr 3
        simp [lowL]
        rfl)
      rw [hlen] at hback
      have HB := Lib.hid hb
      clear hL hb
      go_wp2
      go_ret
      exact ⟨rfl, HB.out⟩
def sign_Lower.f (a0 : ByteArray) : Option ByteArray := if a0.size ≤ 1000000000 then some (lowBA a0) else none
theorem sign_Lower.calls (a0 r : ByteArray) (w : World) (h : sign_Lower.f a0 = some r) :
    Calls Tryd.prog 37 #[.string a0] w fun e w' => e = .returned (.string r) ∧ Below w.heap.size w w' := by
  unfold sign_Lower.f at h
  split at h
  · obtain rfl := Option.some.inj h
    exact lower_any a0 w ‹_›
  · cases h
end Go.Proofs.YtdheknlnhfegnaaDoor.Hand
