-- Written by a program of this session over the kit's printer: not by hand.
import Derived.Test.YtppaobgccdlccaaDoorProg
import Derived.Below
import Derived.Deep.Draws
import Derived.Deep.AppendLies
import Derived.Maps.AppendAt
import Derived.OwnWalk
import Derived.Laws.BytesArg
import Derived.Laws.MakeOwn
import Derived.Laws.OwnMore
import Derived.Deep.OwnRows
import Derived.Tactics
import Derived.Lib.ConvBytes
import Derived.Laws.Slices
import Derived.WalkKit
import Derived.KernelRfl
import Derived.RowKit3
import Derived.Deep.LoopGhost
import Derived.Deep.QuietTactic
import Derived.BigQuiet
import Derived.WideLaws
import Derived.Deep.DeepCutAuto
import Derived.Deep.CutBlock
import Derived.Deep.RegionHeld3
import Derived.Laws.Rows
import Derived.Lib.AppendStr
import Derived.ArgAppend
import Derived.Laws.IdiomCopy
import Derived.OrdersHeld
import Derived.Laws.BitsLemmas
import Derived.RowKit
import Derived.Test.YtppaobgccdlccaaDoorWWords
import Derived.Test.YtppaobgccdlccaaDoorWLast
import Derived.Test.YtppaobgccdlccaaDoorWTab
import Derived.Test.YtppaobgccdlccaaDoorWFour
import Derived.Test.YtppaobgccdlccaaDoorWQPut
import Derived.Test.YtppaobgccdlccaaDoorWApart
import Derived.Test.YtppaobgccdlccaaDoorWArr
import Derived.Test.YtppaobgccdlccaaDoorWZeros
import Derived.Test.YtppaobgccdlccaaDoorWFoot
import Derived.Test.YtppaobgccdlccaaDoorWKept
import Derived.Test.YtppaobgccdlccaaDoorWShare
import Derived.Test.YtppaobgccdlccaaDoorWN
import Derived.Test.YtppaobgccdlccaaDoorWFootNe
import Derived.Test.YtppaobgccdlccaaDoorWAt
import Derived.Test.YtppaobgccdlccaaDoorWEqStruct
import Derived.Test.YtppaobgccdlccaaDoorWRepsOne
import Derived.Test.YtppaobgccdlccaaDoorWInv
import Derived.Test.YtppaobgccdlccaaDoorWInvWords
import Derived.Test.YtppaobgccdlccaaDoorWGuard
import Derived.Test.YtppaobgccdlccaaDoorWNEv
import Derived.Test.YtppaobgccdlccaaDoorWMore
namespace Go.Proofs.YtppaobgccdlccaaDoor.K0
open Go.RowKit Go.Proofs.YtppaobgccdlccaaDoorW.PrintWords Go.Proofs.YtppaobgccdlccaaDoorW.PrintLast Go.Proofs.YtppaobgccdlccaaDoorW.PrintMore
attribute [local go_sem] max2_int min2_int max_two min_two max_three min_three max_four min_four   -- for this text's walks alone
set_option linter.unusedVariables false
set_option linter.unusedSimpArgs false

/-! #### struct type 7 -/
structure S7 where
  f0 : Int
  f1 : Int
  f2 : Bool
  f3 : Int
def z7 : S7 := ⟨(0 : Int), (0 : Int), false, (0 : Int)⟩
def k7 : Kd S7 := Kd.iso (Kd.pair (Kd.int .i64) (Kd.pair (Kd.int .i64) (Kd.pair Kd.bool (Kd.int .u8)))) (fun x : S7 => (x.f0, x.f1, x.f2, x.f3))
theorem k7_heap : Kd.Heap k7 := Kd.heap_iso _ (Kd.heap_pair (Kd.heap_int .i64) (Kd.heap_pair (Kd.heap_int .i64) (Kd.heap_pair Kd.heap_bool (Kd.heap_int .u8))))
theorem k7_open {w : World} {x : S7} {cs : List Value} (h : k7.K w x cs) : cs = [.int .i64 x.f0, .int .i64 x.f1, .bool x.f2, .int .u8 x.f3] := by
  obtain ⟨_, _, rfl, rfl, ⟨_, _, rfl, rfl, ⟨_, _, rfl, rfl, rfl⟩⟩⟩ := h
  exact rfl
theorem k7_openM {w : World} {base : Nat} {ok : Nat → Prop} {x : S7} {cs : List Value} (h : k7.M w base ok x cs) : cs = [.int .i64 x.f0, .int .i64 x.f1, .bool x.f2, .int .u8 x.f3] := by
  obtain ⟨_, _, rfl, rfl, ⟨_, _, rfl, rfl, ⟨_, _, rfl, rfl, rfl⟩⟩⟩ := h
  exact rfl
theorem k7_mk (w : World) (x : S7)  : k7.K w x [.int .i64 x.f0, .int .i64 x.f1, .bool x.f2, .int .u8 x.f3] := ⟨[.int .i64 x.f0], [.int .i64 x.f1, .bool x.f2, .int .u8 x.f3], rfl, rfl, ⟨[.int .i64 x.f1], [.bool x.f2, .int .u8 x.f3], rfl, rfl, ⟨[.bool x.f2], [.int .u8 x.f3], rfl, rfl, rfl⟩⟩⟩
theorem k7_mkM (w : World) (base : Nat) (ok : Nat → Prop) (x : S7)  : k7.M w base ok x [.int .i64 x.f0, .int .i64 x.f1, .bool x.f2, .int .u8 x.f3] := ⟨[.int .i64 x.f0], [.int .i64 x.f1, .bool x.f2, .int .u8 x.f3], rfl, rfl, ⟨[.int .i64 x.f1], [.bool x.f2, .int .u8 x.f3], rfl, rfl, ⟨[.bool x.f2], [.int .u8 x.f3], rfl, rfl, rfl⟩⟩⟩
theorem k7_mkF (W : World) (ok : Nat → Prop) (x : S7) : Kd.FK k7 W ok x [.int .i64 x.f0, .int .i64 x.f1, .bool x.f2, .int .u8 x.f3] := fun W2 _ => k7_mk W2 x
def rd_T7 (xs : List S7) (i : Int) : S7 := xs.getD i.toNat z7
theorem at_T7 {w : World} {A : Option Addr} {n : Nat} {xs : List S7} (h : Kd.C k7 w A n xs) (i : Int) (h0 : 0 ≤ i) (h1 : i < n) : ∃ ad , A = some ad ∧ w.cell? (ad.add (i.toNat * 4)) = some (.int .i64 (rd_T7 xs i).f0) ∧ w.cell? ⟨(ad.add (i.toNat * 4)).block, (ad.add (i.toNat * 4)).off + 1, none⟩ = some (.int .i64 (rd_T7 xs i).f1) ∧ w.cell? ⟨(ad.add (i.toNat * 4)).block, (ad.add (i.toNat * 4)).off + 2, none⟩ = some (.bool (rd_T7 xs i).f2) ∧ w.cell? ⟨(ad.add (i.toNat * 4)).block, (ad.add (i.toNat * 4)).off + 3, none⟩ = some (.int .u8 (rd_T7 xs i).f3) := by
  obtain ⟨ad, c, e, _, hK, hc0⟩ := Kd.C_get h z7 i h0 h1
  have hc : ∀ j u, c[j]? = some u → w.cell? (ad.add (i.toNat * 4 + j)) = some u := hc0
  obtain rfl := k7_open hK
  exact ⟨ad, e, hc 0 _ rfl, by rw [← add_field _ _ 1 (by omega)]; exact hc 1 _ rfl, by rw [← add_field _ _ 2 (by omega)]; exact hc 2 _ rfl, by rw [← add_field _ _ 3 (by omega)]; exact hc 3 _ rfl⟩

/-! #### struct type 8 -/
structure S8 where
  f0 : Int
  f1 : Int
  f2 : Bool
  f3 : Int
def z8 : S8 := ⟨(0 : Int), (0 : Int), false, (0 : Int)⟩
def k8 : Kd S8 := Kd.iso (Kd.pair (Kd.int .i64) (Kd.pair (Kd.int .i64) (Kd.pair Kd.bool (Kd.int .u8)))) (fun x : S8 => (x.f0, x.f1, x.f2, x.f3))
theorem k8_heap : Kd.Heap k8 := Kd.heap_iso _ (Kd.heap_pair (Kd.heap_int .i64) (Kd.heap_pair (Kd.heap_int .i64) (Kd.heap_pair Kd.heap_bool (Kd.heap_int .u8))))
theorem k8_open {w : World} {x : S8} {cs : List Value} (h : k8.K w x cs) : cs = [.int .i64 x.f0, .int .i64 x.f1, .bool x.f2, .int .u8 x.f3] := by
  obtain ⟨_, _, rfl, rfl, ⟨_, _, rfl, rfl, ⟨_, _, rfl, rfl, rfl⟩⟩⟩ := h
  exact rfl
theorem k8_openM {w : World} {base : Nat} {ok : Nat → Prop} {x : S8} {cs : List Value} (h : k8.M w base ok x cs) : cs = [.int .i64 x.f0, .int .i64 x.f1, .bool x.f2, .int .u8 x.f3] := by
  obtain ⟨_, _, rfl, rfl, ⟨_, _, rfl, rfl, ⟨_, _, rfl, rfl, rfl⟩⟩⟩ := h
  exact rfl
theorem k8_mk (w : World) (x : S8)  : k8.K w x [.int .i64 x.f0, .int .i64 x.f1, .bool x.f2, .int .u8 x.f3] := ⟨[.int .i64 x.f0], [.int .i64 x.f1, .bool x.f2, .int .u8 x.f3], rfl, rfl, ⟨[.int .i64 x.f1], [.bool x.f2, .int .u8 x.f3], rfl, rfl, ⟨[.bool x.f2], [.int .u8 x.f3], rfl, rfl, rfl⟩⟩⟩
theorem k8_mkM (w : World) (base : Nat) (ok : Nat → Prop) (x : S8)  : k8.M w base ok x [.int .i64 x.f0, .int .i64 x.f1, .bool x.f2, .int .u8 x.f3] := ⟨[.int .i64 x.f0], [.int .i64 x.f1, .bool x.f2, .int .u8 x.f3], rfl, rfl, ⟨[.int .i64 x.f1], [.bool x.f2, .int .u8 x.f3], rfl, rfl, ⟨[.bool x.f2], [.int .u8 x.f3], rfl, rfl, rfl⟩⟩⟩
theorem k8_mkF (W : World) (ok : Nat → Prop) (x : S8) : Kd.FK k8 W ok x [.int .i64 x.f0, .int .i64 x.f1, .bool x.f2, .int .u8 x.f3] := fun W2 _ => k8_mk W2 x
def rd_T8 (xs : List S8) (i : Int) : S8 := xs.getD i.toNat z8
theorem at_T8 {w : World} {A : Option Addr} {n : Nat} {xs : List S8} (h : Kd.C k8 w A n xs) (i : Int) (h0 : 0 ≤ i) (h1 : i < n) : ∃ ad , A = some ad ∧ w.cell? (ad.add (i.toNat * 4)) = some (.int .i64 (rd_T8 xs i).f0) ∧ w.cell? ⟨(ad.add (i.toNat * 4)).block, (ad.add (i.toNat * 4)).off + 1, none⟩ = some (.int .i64 (rd_T8 xs i).f1) ∧ w.cell? ⟨(ad.add (i.toNat * 4)).block, (ad.add (i.toNat * 4)).off + 2, none⟩ = some (.bool (rd_T8 xs i).f2) ∧ w.cell? ⟨(ad.add (i.toNat * 4)).block, (ad.add (i.toNat * 4)).off + 3, none⟩ = some (.int .u8 (rd_T8 xs i).f3) := by
  obtain ⟨ad, c, e, _, hK, hc0⟩ := Kd.C_get h z8 i h0 h1
  have hc : ∀ j u, c[j]? = some u → w.cell? (ad.add (i.toNat * 4 + j)) = some u := hc0
  obtain rfl := k8_open hK
  exact ⟨ad, e, hc 0 _ rfl, by rw [← add_field _ _ 1 (by omega)]; exact hc 1 _ rfl, by rw [← add_field _ _ 2 (by omega)]; exact hc 2 _ rfl, by rw [← add_field _ _ 3 (by omega)]; exact hc 3 _ rfl⟩

/-! #### struct type 13 -/
structure S13 where
  f0 : ByteArray
  f1 : Int
def z13 : S13 := ⟨(⟨#[]⟩ : ByteArray), (0 : Int)⟩
def k13 : Kd S13 := Kd.iso (Kd.pair Kd.string (Kd.int .u64)) (fun x : S13 => (x.f0, x.f1))
theorem k13_heap : Kd.Heap k13 := Kd.heap_iso _ (Kd.heap_pair Kd.heap_string (Kd.heap_int .u64))
theorem k13_open {w : World} {x : S13} {cs : List Value} (h : k13.K w x cs) : cs = [.string x.f0, .int .u64 x.f1] := by
  obtain ⟨_, _, rfl, rfl, rfl⟩ := h
  exact rfl
theorem k13_openM {w : World} {base : Nat} {ok : Nat → Prop} {x : S13} {cs : List Value} (h : k13.M w base ok x cs) : cs = [.string x.f0, .int .u64 x.f1] := by
  obtain ⟨_, _, rfl, rfl, rfl⟩ := h
  exact rfl
theorem k13_mk (w : World) (x : S13)  : k13.K w x [.string x.f0, .int .u64 x.f1] := ⟨[.string x.f0], [.int .u64 x.f1], rfl, rfl, rfl⟩
theorem k13_mkM (w : World) (base : Nat) (ok : Nat → Prop) (x : S13)  : k13.M w base ok x [.string x.f0, .int .u64 x.f1] := ⟨[.string x.f0], [.int .u64 x.f1], rfl, rfl, rfl⟩
theorem k13_mkF (W : World) (ok : Nat → Prop) (x : S13) : Kd.FK k13 W ok x [.string x.f0, .int .u64 x.f1] := fun W2 _ => k13_mk W2 x
def rd_T13 (xs : List S13) (i : Int) : S13 := xs.getD i.toNat z13
theorem at_T13 {w : World} {A : Option Addr} {n : Nat} {xs : List S13} (h : Kd.C k13 w A n xs) (i : Int) (h0 : 0 ≤ i) (h1 : i < n) : ∃ ad , A = some ad ∧ w.cell? (ad.add (i.toNat * 2)) = some (.string (rd_T13 xs i).f0) ∧ w.cell? ⟨(ad.add (i.toNat * 2)).block, (ad.add (i.toNat * 2)).off + 1, none⟩ = some (.int .u64 (rd_T13 xs i).f1) := by
  obtain ⟨ad, c, e, _, hK, hc0⟩ := Kd.C_get h z13 i h0 h1
  have hc : ∀ j u, c[j]? = some u → w.cell? (ad.add (i.toNat * 2 + j)) = some u := hc0
  obtain rfl := k13_open hK
  exact ⟨ad, e, hc 0 _ rfl, by rw [← add_field _ _ 1 (by omega)]; exact hc 1 _ rfl⟩

/-! #### struct type 14 -/
structure S14 where
  f0 : ByteArray
  f1 : Int
def z14 : S14 := ⟨(⟨#[]⟩ : ByteArray), (0 : Int)⟩
def k14 : Kd S14 := Kd.iso (Kd.pair Kd.string (Kd.int .u64)) (fun x : S14 => (x.f0, x.f1))
theorem k14_heap : Kd.Heap k14 := Kd.heap_iso _ (Kd.heap_pair Kd.heap_string (Kd.heap_int .u64))
theorem k14_open {w : World} {x : S14} {cs : List Value} (h : k14.K w x cs) : cs = [.string x.f0, .int .u64 x.f1] := by
  obtain ⟨_, _, rfl, rfl, rfl⟩ := h
  exact rfl
theorem k14_openM {w : World} {base : Nat} {ok : Nat → Prop} {x : S14} {cs : List Value} (h : k14.M w base ok x cs) : cs = [.string x.f0, .int .u64 x.f1] := by
  obtain ⟨_, _, rfl, rfl, rfl⟩ := h
  exact rfl
theorem k14_mk (w : World) (x : S14)  : k14.K w x [.string x.f0, .int .u64 x.f1] := ⟨[.string x.f0], [.int .u64 x.f1], rfl, rfl, rfl⟩
theorem k14_mkM (w : World) (base : Nat) (ok : Nat → Prop) (x : S14)  : k14.M w base ok x [.string x.f0, .int .u64 x.f1] := ⟨[.string x.f0], [.int .u64 x.f1], rfl, rfl, rfl⟩
theorem k14_mkF (W : World) (ok : Nat → Prop) (x : S14) : Kd.FK k14 W ok x [.string x.f0, .int .u64 x.f1] := fun W2 _ => k14_mk W2 x
def rd_T14 (xs : List S14) (i : Int) : S14 := xs.getD i.toNat z14
theorem at_T14 {w : World} {A : Option Addr} {n : Nat} {xs : List S14} (h : Kd.C k14 w A n xs) (i : Int) (h0 : 0 ≤ i) (h1 : i < n) : ∃ ad , A = some ad ∧ w.cell? (ad.add (i.toNat * 2)) = some (.string (rd_T14 xs i).f0) ∧ w.cell? ⟨(ad.add (i.toNat * 2)).block, (ad.add (i.toNat * 2)).off + 1, none⟩ = some (.int .u64 (rd_T14 xs i).f1) := by
  obtain ⟨ad, c, e, _, hK, hc0⟩ := Kd.C_get h z14 i h0 h1
  have hc : ∀ j u, c[j]? = some u → w.cell? (ad.add (i.toNat * 2 + j)) = some u := hc0
  obtain rfl := k14_open hK
  exact ⟨ad, e, hc 0 _ rfl, by rw [← add_field _ _ 1 (by omega)]; exact hc 1 _ rfl⟩

/-! #### struct type 88 -/
structure S88 where
  f0 : ByteArray
  f1 : ByteArray
def z88 : S88 := ⟨(⟨#[]⟩ : ByteArray), (⟨#[]⟩ : ByteArray)⟩
def k88 : Kd S88 := Kd.iso (Kd.pair Kd.string Kd.string) (fun x : S88 => (x.f0, x.f1))
theorem k88_heap : Kd.Heap k88 := Kd.heap_iso _ (Kd.heap_pair Kd.heap_string Kd.heap_string)
theorem k88_open {w : World} {x : S88} {cs : List Value} (h : k88.K w x cs) : cs = [.string x.f0, .string x.f1] := by
  obtain ⟨_, _, rfl, rfl, rfl⟩ := h
  exact rfl
theorem k88_openM {w : World} {base : Nat} {ok : Nat → Prop} {x : S88} {cs : List Value} (h : k88.M w base ok x cs) : cs = [.string x.f0, .string x.f1] := by
  obtain ⟨_, _, rfl, rfl, rfl⟩ := h
  exact rfl
theorem k88_mk (w : World) (x : S88)  : k88.K w x [.string x.f0, .string x.f1] := ⟨[.string x.f0], [.string x.f1], rfl, rfl, rfl⟩
theorem k88_mkM (w : World) (base : Nat) (ok : Nat → Prop) (x : S88)  : k88.M w base ok x [.string x.f0, .string x.f1] := ⟨[.string x.f0], [.string x.f1], rfl, rfl, rfl⟩
theorem k88_mkF (W : World) (ok : Nat → Prop) (x : S88) : Kd.FK k88 W ok x [.string x.f0, .string x.f1] := fun W2 _ => k88_mk W2 x
def rd_T88 (xs : List S88) (i : Int) : S88 := xs.getD i.toNat z88
theorem at_T88 {w : World} {A : Option Addr} {n : Nat} {xs : List S88} (h : Kd.C k88 w A n xs) (i : Int) (h0 : 0 ≤ i) (h1 : i < n) : ∃ ad , A = some ad ∧ w.cell? (ad.add (i.toNat * 2)) = some (.string (rd_T88 xs i).f0) ∧ w.cell? ⟨(ad.add (i.toNat * 2)).block, (ad.add (i.toNat * 2)).off + 1, none⟩ = some (.string (rd_T88 xs i).f1) := by
  obtain ⟨ad, c, e, _, hK, hc0⟩ := Kd.C_get h z88 i h0 h1
  have hc : ∀ j u, c[j]? = some u → w.cell? (ad.add (i.toNat * 2 + j)) = some u := hc0
  obtain rfl := k88_open hK
  exact ⟨ad, e, hc 0 _ rfl, by rw [← add_field _ _ 1 (by omega)]; exact hc 1 _ rfl⟩

def rd_L10 (xs : List (List S88)) (i : Int) : (List S88) := xs.getD i.toNat ([] : List S88)
theorem at_L10 {w : World} {A : Option Addr} {n : Nat} {xs : List (List S88)} (h : Kd.C (Kd.slice 88 k88) w A n xs) (i : Int) (h0 : 0 ≤ i) (h1 : i < n) : ∃ ad A0 c0, A = some ad ∧ w.cell? (ad.add i.toNat) = some (.slice A0 (rd_L10 xs i).length c0) ∧ (rd_L10 xs i).length ≤ c0 ∧ k88.C w A0 (rd_L10 xs i).length (rd_L10 xs i) := by
  obtain ⟨ad, c, e, _, hK, hc0⟩ := Kd.C_get h ([] : List S88) i h0 h1
  have hc : ∀ j u, c[j]? = some u → w.cell? (ad.add (i.toNat * 1 + j)) = some u := hc0
  obtain ⟨A0, c0, rfl, l0, g0⟩ := hK
  exact ⟨ad, A0, c0, e, by have hq := hc 0 _ rfl; rwa [Nat.mul_one, Nat.add_zero] at hq, l0, g0⟩

/-! #### struct type 34 -/
structure S34 where
  f0 : Int
  f1 : ByteArray
  f2 : ByteArray
  f3 : (List S88)
  f4 : Bool
def z34 : S34 := ⟨(0 : Int), (⟨#[]⟩ : ByteArray), (⟨#[]⟩ : ByteArray), ([] : List S88), false⟩
def k34 : Kd S34 := Kd.iso (Kd.pair (Kd.int .i64) (Kd.pair Kd.string (Kd.pair Kd.string (Kd.pair (Kd.slice 88 k88) Kd.bool)))) (fun x : S34 => (x.f0, x.f1, x.f2, x.f3, x.f4))
theorem k34_heap : Kd.Heap k34 := Kd.heap_iso _ (Kd.heap_pair (Kd.heap_int .i64) (Kd.heap_pair Kd.heap_string (Kd.heap_pair Kd.heap_string (Kd.heap_pair (Kd.heap_slice 88 k88_heap) Kd.heap_bool))))
theorem k34_open {w : World} {x : S34} {cs : List Value} (h : k34.K w x cs) : ∃ A3 c3, cs = [.int .i64 x.f0, .string x.f1, .string x.f2, .slice A3 x.f3.length c3, .bool x.f4] ∧ x.f3.length ≤ c3 ∧ k88.C w A3 x.f3.length x.f3 := by
  obtain ⟨_, _, rfl, rfl, ⟨_, _, rfl, rfl, ⟨_, _, rfl, rfl, ⟨_, _, rfl, ⟨A3, c3, rfl, l3, g3⟩, rfl⟩⟩⟩⟩ := h
  exact ⟨A3, c3, rfl, l3, g3⟩
theorem k34_openM {w : World} {base : Nat} {ok : Nat → Prop} {x : S34} {cs : List Value} (h : k34.M w base ok x cs) : ∃ v3, cs = [.int .i64 x.f0, .string x.f1, .string x.f2, v3, .bool x.f4] ∧ k88.R 88 w base ok v3 x.f3 := by
  obtain ⟨_, _, rfl, rfl, ⟨_, _, rfl, rfl, ⟨_, _, rfl, rfl, ⟨_, _, rfl, ⟨v3, rfl, g3⟩, rfl⟩⟩⟩⟩ := h
  exact ⟨v3, rfl, g3⟩
theorem k34_mk (w : World) (x : S34) {A3 : Option Addr} {c3 : Nat} (l3 : x.f3.length ≤ c3) (g3 : k88.C w A3 x.f3.length x.f3) : k34.K w x [.int .i64 x.f0, .string x.f1, .string x.f2, .slice A3 x.f3.length c3, .bool x.f4] := ⟨[.int .i64 x.f0], [.string x.f1, .string x.f2, .slice A3 x.f3.length c3, .bool x.f4], rfl, rfl, ⟨[.string x.f1], [.string x.f2, .slice A3 x.f3.length c3, .bool x.f4], rfl, rfl, ⟨[.string x.f2], [.slice A3 x.f3.length c3, .bool x.f4], rfl, rfl, ⟨[.slice A3 x.f3.length c3], [.bool x.f4], rfl, ⟨A3, c3, rfl, l3, g3⟩, rfl⟩⟩⟩⟩
theorem k34_mkM (w : World) (base : Nat) (ok : Nat → Prop) (x : S34) {v3 : Value} (g3 : k88.R 88 w base ok v3 x.f3) : k34.M w base ok x [.int .i64 x.f0, .string x.f1, .string x.f2, v3, .bool x.f4] := ⟨[.int .i64 x.f0], [.string x.f1, .string x.f2, v3, .bool x.f4], rfl, rfl, ⟨[.string x.f1], [.string x.f2, v3, .bool x.f4], rfl, rfl, ⟨[.string x.f2], [v3, .bool x.f4], rfl, rfl, ⟨[v3], [.bool x.f4], rfl, ⟨v3, rfl, g3⟩, rfl⟩⟩⟩⟩
theorem k34_openF {W : World} {ok : Nat → Prop} {x : S34} {cs : List Value} (h : Kd.FK k34 W ok x cs) : ∃ A3 c3, cs = [.int .i64 x.f0, .string x.f1, .string x.f2, .slice A3 x.f3.length c3, .bool x.f4] ∧ x.f3.length ≤ c3 ∧ Kd.F k88 W ok A3 x.f3.length x.f3 := by
  obtain ⟨A3, c3, rfl, l3, _⟩ := k34_open (Kd.FK_now h)
  exact ⟨A3, c3, rfl, l3, (fun W' hW => by obtain ⟨A3_, c3_, he, l3_, g3_⟩ := k34_open (h W' hW); injection (Option.some.inj (show some (Value.slice A3 x.f3.length c3) = some (Value.slice A3_ x.f3.length c3_) from congrArg (fun l => l[3]?) he)) with ha_ _ _; rw [ha_]; exact g3_)⟩
theorem k34_mkF (W : World) (ok : Nat → Prop) (x : S34) {A3 : Option Addr} {c3 : Nat} (l3 : x.f3.length ≤ c3) (g3 : Kd.F k88 W ok A3 x.f3.length x.f3) : Kd.FK k34 W ok x [.int .i64 x.f0, .string x.f1, .string x.f2, .slice A3 x.f3.length c3, .bool x.f4] := fun W2 hW => k34_mk W2 x l3 (g3 W2 hW)
def rd_T34 (xs : List S34) (i : Int) : S34 := xs.getD i.toNat z34
theorem at_T34 {w : World} {A : Option Addr} {n : Nat} {xs : List S34} (h : Kd.C k34 w A n xs) (i : Int) (h0 : 0 ≤ i) (h1 : i < n) : ∃ ad A3 c3, A = some ad ∧ w.cell? (ad.add (i.toNat * 5)) = some (.int .i64 (rd_T34 xs i).f0) ∧ w.cell? ⟨(ad.add (i.toNat * 5)).block, (ad.add (i.toNat * 5)).off + 1, none⟩ = some (.string (rd_T34 xs i).f1) ∧ w.cell? ⟨(ad.add (i.toNat * 5)).block, (ad.add (i.toNat * 5)).off + 2, none⟩ = some (.string (rd_T34 xs i).f2) ∧ w.cell? ⟨(ad.add (i.toNat * 5)).block, (ad.add (i.toNat * 5)).off + 3, none⟩ = some (.slice A3 (rd_T34 xs i).f3.length c3) ∧ w.cell? ⟨(ad.add (i.toNat * 5)).block, (ad.add (i.toNat * 5)).off + 4, none⟩ = some (.bool (rd_T34 xs i).f4) ∧ (rd_T34 xs i).f3.length ≤ c3 ∧ k88.C w A3 (rd_T34 xs i).f3.length (rd_T34 xs i).f3 := by
  obtain ⟨ad, c, e, _, hK, hc0⟩ := Kd.C_get h z34 i h0 h1
  have hc : ∀ j u, c[j]? = some u → w.cell? (ad.add (i.toNat * 5 + j)) = some u := hc0
  obtain ⟨A3, c3, rfl, l3, g3⟩ := k34_open hK
  exact ⟨ad, A3, c3, e, hc 0 _ rfl, by rw [← add_field _ _ 1 (by omega)]; exact hc 1 _ rfl, by rw [← add_field _ _ 2 (by omega)]; exact hc 2 _ rfl, by rw [← add_field _ _ 3 (by omega)]; exact hc 3 _ rfl, by rw [← add_field _ _ 4 (by omega)]; exact hc 4 _ rfl, l3, g3⟩

/-! #### struct type 35 -/
structure S35 where
  f0 : Int
  f1 : ByteArray
  f2 : ByteArray
  f3 : (List S88)
  f4 : Bool
def z35 : S35 := ⟨(0 : Int), (⟨#[]⟩ : ByteArray), (⟨#[]⟩ : ByteArray), ([] : List S88), false⟩
def k35 : Kd S35 := Kd.iso (Kd.pair (Kd.int .i64) (Kd.pair Kd.string (Kd.pair Kd.string (Kd.pair (Kd.slice 88 k88) Kd.bool)))) (fun x : S35 => (x.f0, x.f1, x.f2, x.f3, x.f4))
theorem k35_heap : Kd.Heap k35 := Kd.heap_iso _ (Kd.heap_pair (Kd.heap_int .i64) (Kd.heap_pair Kd.heap_string (Kd.heap_pair Kd.heap_string (Kd.heap_pair (Kd.heap_slice 88 k88_heap) Kd.heap_bool))))
theorem k35_open {w : World} {x : S35} {cs : List Value} (h : k35.K w x cs) : ∃ A3 c3, cs = [.int .i64 x.f0, .string x.f1, .string x.f2, .slice A3 x.f3.length c3, .bool x.f4] ∧ x.f3.length ≤ c3 ∧ k88.C w A3 x.f3.length x.f3 := by
  obtain ⟨_, _, rfl, rfl, ⟨_, _, rfl, rfl, ⟨_, _, rfl, rfl, ⟨_, _, rfl, ⟨A3, c3, rfl, l3, g3⟩, rfl⟩⟩⟩⟩ := h
  exact ⟨A3, c3, rfl, l3, g3⟩
theorem k35_openM {w : World} {base : Nat} {ok : Nat → Prop} {x : S35} {cs : List Value} (h : k35.M w base ok x cs) : ∃ v3, cs = [.int .i64 x.f0, .string x.f1, .string x.f2, v3, .bool x.f4] ∧ k88.R 88 w base ok v3 x.f3 := by
  obtain ⟨_, _, rfl, rfl, ⟨_, _, rfl, rfl, ⟨_, _, rfl, rfl, ⟨_, _, rfl, ⟨v3, rfl, g3⟩, rfl⟩⟩⟩⟩ := h
  exact ⟨v3, rfl, g3⟩
theorem k35_mk (w : World) (x : S35) {A3 : Option Addr} {c3 : Nat} (l3 : x.f3.length ≤ c3) (g3 : k88.C w A3 x.f3.length x.f3) : k35.K w x [.int .i64 x.f0, .string x.f1, .string x.f2, .slice A3 x.f3.length c3, .bool x.f4] := ⟨[.int .i64 x.f0], [.string x.f1, .string x.f2, .slice A3 x.f3.length c3, .bool x.f4], rfl, rfl, ⟨[.string x.f1], [.string x.f2, .slice A3 x.f3.length c3, .bool x.f4], rfl, rfl, ⟨[.string x.f2], [.slice A3 x.f3.length c3, .bool x.f4], rfl, rfl, ⟨[.slice A3 x.f3.length c3], [.bool x.f4], rfl, ⟨A3, c3, rfl, l3, g3⟩, rfl⟩⟩⟩⟩
theorem k35_mkM (w : World) (base : Nat) (ok : Nat → Prop) (x : S35) {v3 : Value} (g3 : k88.R 88 w base ok v3 x.f3) : k35.M w base ok x [.int .i64 x.f0, .string x.f1, .string x.f2, v3, .bool x.f4] := ⟨[.int .i64 x.f0], [.string x.f1, .string x.f2, v3, .bool x.f4], rfl, rfl, ⟨[.string x.f1], [.string x.f2, v3, .bool x.f4], rfl, rfl, ⟨[.string x.f2], [v3, .bool x.f4], rfl, rfl, ⟨[v3], [.bool x.f4], rfl, ⟨v3, rfl, g3⟩, rfl⟩⟩⟩⟩
theorem k35_openF {W : World} {ok : Nat → Prop} {x : S35} {cs : List Value} (h : Kd.FK k35 W ok x cs) : ∃ A3 c3, cs = [.int .i64 x.f0, .string x.f1, .string x.f2, .slice A3 x.f3.length c3, .bool x.f4] ∧ x.f3.length ≤ c3 ∧ Kd.F k88 W ok A3 x.f3.length x.f3 := by
  obtain ⟨A3, c3, rfl, l3, _⟩ := k35_open (Kd.FK_now h)
  exact ⟨A3, c3, rfl, l3, (fun W' hW => by obtain ⟨A3_, c3_, he, l3_, g3_⟩ := k35_open (h W' hW); injection (Option.some.inj (show some (Value.slice A3 x.f3.length c3) = some (Value.slice A3_ x.f3.length c3_) from congrArg (fun l => l[3]?) he)) with ha_ _ _; rw [ha_]; exact g3_)⟩
theorem k35_mkF (W : World) (ok : Nat → Prop) (x : S35) {A3 : Option Addr} {c3 : Nat} (l3 : x.f3.length ≤ c3) (g3 : Kd.F k88 W ok A3 x.f3.length x.f3) : Kd.FK k35 W ok x [.int .i64 x.f0, .string x.f1, .string x.f2, .slice A3 x.f3.length c3, .bool x.f4] := fun W2 hW => k35_mk W2 x l3 (g3 W2 hW)
def rd_T35 (xs : List S35) (i : Int) : S35 := xs.getD i.toNat z35
theorem at_T35 {w : World} {A : Option Addr} {n : Nat} {xs : List S35} (h : Kd.C k35 w A n xs) (i : Int) (h0 : 0 ≤ i) (h1 : i < n) : ∃ ad A3 c3, A = some ad ∧ w.cell? (ad.add (i.toNat * 5)) = some (.int .i64 (rd_T35 xs i).f0) ∧ w.cell? ⟨(ad.add (i.toNat * 5)).block, (ad.add (i.toNat * 5)).off + 1, none⟩ = some (.string (rd_T35 xs i).f1) ∧ w.cell? ⟨(ad.add (i.toNat * 5)).block, (ad.add (i.toNat * 5)).off + 2, none⟩ = some (.string (rd_T35 xs i).f2) ∧ w.cell? ⟨(ad.add (i.toNat * 5)).block, (ad.add (i.toNat * 5)).off + 3, none⟩ = some (.slice A3 (rd_T35 xs i).f3.length c3) ∧ w.cell? ⟨(ad.add (i.toNat * 5)).block, (ad.add (i.toNat * 5)).off + 4, none⟩ = some (.bool (rd_T35 xs i).f4) ∧ (rd_T35 xs i).f3.length ≤ c3 ∧ k88.C w A3 (rd_T35 xs i).f3.length (rd_T35 xs i).f3 := by
  obtain ⟨ad, c, e, _, hK, hc0⟩ := Kd.C_get h z35 i h0 h1
  have hc : ∀ j u, c[j]? = some u → w.cell? (ad.add (i.toNat * 5 + j)) = some u := hc0
  obtain ⟨A3, c3, rfl, l3, g3⟩ := k35_open hK
  exact ⟨ad, A3, c3, e, hc 0 _ rfl, by rw [← add_field _ _ 1 (by omega)]; exact hc 1 _ rfl, by rw [← add_field _ _ 2 (by omega)]; exact hc 2 _ rfl, by rw [← add_field _ _ 3 (by omega)]; exact hc 3 _ rfl, by rw [← add_field _ _ 4 (by omega)]; exact hc 4 _ rfl, l3, g3⟩

/-! #### struct type 41 -/
structure S41 where
  f0 : ByteArray
  f1 : ByteArray
  f2 : ByteArray
  f3 : Bool
  f4 : Bool
  f5 : Bool
  f6 : Bool
def z41 : S41 := ⟨(⟨#[]⟩ : ByteArray), (⟨#[]⟩ : ByteArray), (⟨#[]⟩ : ByteArray), false, false, false, false⟩
def k41 : Kd S41 := Kd.iso (Kd.pair Kd.string (Kd.pair Kd.string (Kd.pair Kd.string (Kd.pair Kd.bool (Kd.pair Kd.bool (Kd.pair Kd.bool Kd.bool)))))) (fun x : S41 => (x.f0, x.f1, x.f2, x.f3, x.f4, x.f5, x.f6))
theorem k41_heap : Kd.Heap k41 := Kd.heap_iso _ (Kd.heap_pair Kd.heap_string (Kd.heap_pair Kd.heap_string (Kd.heap_pair Kd.heap_string (Kd.heap_pair Kd.heap_bool (Kd.heap_pair Kd.heap_bool (Kd.heap_pair Kd.heap_bool Kd.heap_bool))))))
theorem k41_open {w : World} {x : S41} {cs : List Value} (h : k41.K w x cs) : cs = [.string x.f0, .string x.f1, .string x.f2, .bool x.f3, .bool x.f4, .bool x.f5, .bool x.f6] := by
  obtain ⟨_, _, rfl, rfl, ⟨_, _, rfl, rfl, ⟨_, _, rfl, rfl, ⟨_, _, rfl, rfl, ⟨_, _, rfl, rfl, ⟨_, _, rfl, rfl, rfl⟩⟩⟩⟩⟩⟩ := h
  exact rfl
theorem k41_openM {w : World} {base : Nat} {ok : Nat → Prop} {x : S41} {cs : List Value} (h : k41.M w base ok x cs) : cs = [.string x.f0, .string x.f1, .string x.f2, .bool x.f3, .bool x.f4, .bool x.f5, .bool x.f6] := by
  obtain ⟨_, _, rfl, rfl, ⟨_, _, rfl, rfl, ⟨_, _, rfl, rfl, ⟨_, _, rfl, rfl, ⟨_, _, rfl, rfl, ⟨_, _, rfl, rfl, rfl⟩⟩⟩⟩⟩⟩ := h
  exact rfl
theorem k41_mk (w : World) (x : S41)  : k41.K w x [.string x.f0, .string x.f1, .string x.f2, .bool x.f3, .bool x.f4, .bool x.f5, .bool x.f6] := ⟨[.string x.f0], [.string x.f1, .string x.f2, .bool x.f3, .bool x.f4, .bool x.f5, .bool x.f6], rfl, rfl, ⟨[.string x.f1], [.string x.f2, .bool x.f3, .bool x.f4, .bool x.f5, .bool x.f6], rfl, rfl, ⟨[.string x.f2], [.bool x.f3, .bool x.f4, .bool x.f5, .bool x.f6], rfl, rfl, ⟨[.bool x.f3], [.bool x.f4, .bool x.f5, .bool x.f6], rfl, rfl, ⟨[.bool x.f4], [.bool x.f5, .bool x.f6], rfl, rfl, ⟨[.bool x.f5], [.bool x.f6], rfl, rfl, rfl⟩⟩⟩⟩⟩⟩
theorem k41_mkM (w : World) (base : Nat) (ok : Nat → Prop) (x : S41)  : k41.M w base ok x [.string x.f0, .string x.f1, .string x.f2, .bool x.f3, .bool x.f4, .bool x.f5, .bool x.f6] := ⟨[.string x.f0], [.string x.f1, .string x.f2, .bool x.f3, .bool x.f4, .bool x.f5, .bool x.f6], rfl, rfl, ⟨[.string x.f1], [.string x.f2, .bool x.f3, .bool x.f4, .bool x.f5, .bool x.f6], rfl, rfl, ⟨[.string x.f2], [.bool x.f3, .bool x.f4, .bool x.f5, .bool x.f6], rfl, rfl, ⟨[.bool x.f3], [.bool x.f4, .bool x.f5, .bool x.f6], rfl, rfl, ⟨[.bool x.f4], [.bool x.f5, .bool x.f6], rfl, rfl, ⟨[.bool x.f5], [.bool x.f6], rfl, rfl, rfl⟩⟩⟩⟩⟩⟩
theorem k41_mkF (W : World) (ok : Nat → Prop) (x : S41) : Kd.FK k41 W ok x [.string x.f0, .string x.f1, .string x.f2, .bool x.f3, .bool x.f4, .bool x.f5, .bool x.f6] := fun W2 _ => k41_mk W2 x
def rd_T41 (xs : List S41) (i : Int) : S41 := xs.getD i.toNat z41
theorem at_T41 {w : World} {A : Option Addr} {n : Nat} {xs : List S41} (h : Kd.C k41 w A n xs) (i : Int) (h0 : 0 ≤ i) (h1 : i < n) : ∃ ad , A = some ad ∧ w.cell? (ad.add (i.toNat * 7)) = some (.string (rd_T41 xs i).f0) ∧ w.cell? ⟨(ad.add (i.toNat * 7)).block, (ad.add (i.toNat * 7)).off + 1, none⟩ = some (.string (rd_T41 xs i).f1) ∧ w.cell? ⟨(ad.add (i.toNat * 7)).block, (ad.add (i.toNat * 7)).off + 2, none⟩ = some (.string (rd_T41 xs i).f2) ∧ w.cell? ⟨(ad.add (i.toNat * 7)).block, (ad.add (i.toNat * 7)).off + 3, none⟩ = some (.bool (rd_T41 xs i).f3) ∧ w.cell? ⟨(ad.add (i.toNat * 7)).block, (ad.add (i.toNat * 7)).off + 4, none⟩ = some (.bool (rd_T41 xs i).f4) ∧ w.cell? ⟨(ad.add (i.toNat * 7)).block, (ad.add (i.toNat * 7)).off + 5, none⟩ = some (.bool (rd_T41 xs i).f5) ∧ w.cell? ⟨(ad.add (i.toNat * 7)).block, (ad.add (i.toNat * 7)).off + 6, none⟩ = some (.bool (rd_T41 xs i).f6) := by
  obtain ⟨ad, c, e, _, hK, hc0⟩ := Kd.C_get h z41 i h0 h1
  have hc : ∀ j u, c[j]? = some u → w.cell? (ad.add (i.toNat * 7 + j)) = some u := hc0
  obtain rfl := k41_open hK
  exact ⟨ad, e, hc 0 _ rfl, by rw [← add_field _ _ 1 (by omega)]; exact hc 1 _ rfl, by rw [← add_field _ _ 2 (by omega)]; exact hc 2 _ rfl, by rw [← add_field _ _ 3 (by omega)]; exact hc 3 _ rfl, by rw [← add_field _ _ 4 (by omega)]; exact hc 4 _ rfl, by rw [← add_field _ _ 5 (by omega)]; exact hc 5 _ rfl, by rw [← add_field _ _ 6 (by omega)]; exact hc 6 _ rfl⟩

/-! #### struct type 42 -/
structure S42 where
  f0 : ByteArray
  f1 : ByteArray
  f2 : ByteArray
  f3 : Bool
  f4 : Bool
  f5 : Bool
  f6 : Bool
def z42 : S42 := ⟨(⟨#[]⟩ : ByteArray), (⟨#[]⟩ : ByteArray), (⟨#[]⟩ : ByteArray), false, false, false, false⟩
def k42 : Kd S42 := Kd.iso (Kd.pair Kd.string (Kd.pair Kd.string (Kd.pair Kd.string (Kd.pair Kd.bool (Kd.pair Kd.bool (Kd.pair Kd.bool Kd.bool)))))) (fun x : S42 => (x.f0, x.f1, x.f2, x.f3, x.f4, x.f5, x.f6))
theorem k42_heap : Kd.Heap k42 := Kd.heap_iso _ (Kd.heap_pair Kd.heap_string (Kd.heap_pair Kd.heap_string (Kd.heap_pair Kd.heap_string (Kd.heap_pair Kd.heap_bool (Kd.heap_pair Kd.heap_bool (Kd.heap_pair Kd.heap_bool Kd.heap_bool))))))
theorem k42_open {w : World} {x : S42} {cs : List Value} (h : k42.K w x cs) : cs = [.string x.f0, .string x.f1, .string x.f2, .bool x.f3, .bool x.f4, .bool x.f5, .bool x.f6] := by
  obtain ⟨_, _, rfl, rfl, ⟨_, _, rfl, rfl, ⟨_, _, rfl, rfl, ⟨_, _, rfl, rfl, ⟨_, _, rfl, rfl, ⟨_, _, rfl, rfl, rfl⟩⟩⟩⟩⟩⟩ := h
  exact rfl
theorem k42_openM {w : World} {base : Nat} {ok : Nat → Prop} {x : S42} {cs : List Value} (h : k42.M w base ok x cs) : cs = [.string x.f0, .string x.f1, .string x.f2, .bool x.f3, .bool x.f4, .bool x.f5, .bool x.f6] := by
  obtain ⟨_, _, rfl, rfl, ⟨_, _, rfl, rfl, ⟨_, _, rfl, rfl, ⟨_, _, rfl, rfl, ⟨_, _, rfl, rfl, ⟨_, _, rfl, rfl, rfl⟩⟩⟩⟩⟩⟩ := h
  exact rfl
theorem k42_mk (w : World) (x : S42)  : k42.K w x [.string x.f0, .string x.f1, .string x.f2, .bool x.f3, .bool x.f4, .bool x.f5, .bool x.f6] := ⟨[.string x.f0], [.string x.f1, .string x.f2, .bool x.f3, .bool x.f4, .bool x.f5, .bool x.f6], rfl, rfl, ⟨[.string x.f1], [.string x.f2, .bool x.f3, .bool x.f4, .bool x.f5, .bool x.f6], rfl, rfl, ⟨[.string x.f2], [.bool x.f3, .bool x.f4, .bool x.f5, .bool x.f6], rfl, rfl, ⟨[.bool x.f3], [.bool x.f4, .bool x.f5, .bool x.f6], rfl, rfl, ⟨[.bool x.f4], [.bool x.f5, .bool x.f6], rfl, rfl, ⟨[.bool x.f5], [.bool x.f6], rfl, rfl, rfl⟩⟩⟩⟩⟩⟩
theorem k42_mkM (w : World) (base : Nat) (ok : Nat → Prop) (x : S42)  : k42.M w base ok x [.string x.f0, .string x.f1, .string x.f2, .bool x.f3, .bool x.f4, .bool x.f5, .bool x.f6] := ⟨[.string x.f0], [.string x.f1, .string x.f2, .bool x.f3, .bool x.f4, .bool x.f5, .bool x.f6], rfl, rfl, ⟨[.string x.f1], [.string x.f2, .bool x.f3, .bool x.f4, .bool x.f5, .bool x.f6], rfl, rfl, ⟨[.string x.f2], [.bool x.f3, .bool x.f4, .bool x.f5, .bool x.f6], rfl, rfl, ⟨[.bool x.f3], [.bool x.f4, .bool x.f5, .bool x.f6], rfl, rfl, ⟨[.bool x.f4], [.bool x.f5, .bool x.f6], rfl, rfl, ⟨[.bool x.f5], [.bool x.f6], rfl, rfl, rfl⟩⟩⟩⟩⟩⟩
theorem k42_mkF (W : World) (ok : Nat → Prop) (x : S42) : Kd.FK k42 W ok x [.string x.f0, .string x.f1, .string x.f2, .bool x.f3, .bool x.f4, .bool x.f5, .bool x.f6] := fun W2 _ => k42_mk W2 x
def rd_T42 (xs : List S42) (i : Int) : S42 := xs.getD i.toNat z42
theorem at_T42 {w : World} {A : Option Addr} {n : Nat} {xs : List S42} (h : Kd.C k42 w A n xs) (i : Int) (h0 : 0 ≤ i) (h1 : i < n) : ∃ ad , A = some ad ∧ w.cell? (ad.add (i.toNat * 7)) = some (.string (rd_T42 xs i).f0) ∧ w.cell? ⟨(ad.add (i.toNat * 7)).block, (ad.add (i.toNat * 7)).off + 1, none⟩ = some (.string (rd_T42 xs i).f1) ∧ w.cell? ⟨(ad.add (i.toNat * 7)).block, (ad.add (i.toNat * 7)).off + 2, none⟩ = some (.string (rd_T42 xs i).f2) ∧ w.cell? ⟨(ad.add (i.toNat * 7)).block, (ad.add (i.toNat * 7)).off + 3, none⟩ = some (.bool (rd_T42 xs i).f3) ∧ w.cell? ⟨(ad.add (i.toNat * 7)).block, (ad.add (i.toNat * 7)).off + 4, none⟩ = some (.bool (rd_T42 xs i).f4) ∧ w.cell? ⟨(ad.add (i.toNat * 7)).block, (ad.add (i.toNat * 7)).off + 5, none⟩ = some (.bool (rd_T42 xs i).f5) ∧ w.cell? ⟨(ad.add (i.toNat * 7)).block, (ad.add (i.toNat * 7)).off + 6, none⟩ = some (.bool (rd_T42 xs i).f6) := by
  obtain ⟨ad, c, e, _, hK, hc0⟩ := Kd.C_get h z42 i h0 h1
  have hc : ∀ j u, c[j]? = some u → w.cell? (ad.add (i.toNat * 7 + j)) = some u := hc0
  obtain rfl := k42_open hK
  exact ⟨ad, e, hc 0 _ rfl, by rw [← add_field _ _ 1 (by omega)]; exact hc 1 _ rfl, by rw [← add_field _ _ 2 (by omega)]; exact hc 2 _ rfl, by rw [← add_field _ _ 3 (by omega)]; exact hc 3 _ rfl, by rw [← add_field _ _ 4 (by omega)]; exact hc 4 _ rfl, by rw [← add_field _ _ 5 (by omega)]; exact hc 5 _ rfl, by rw [← add_field _ _ 6 (by omega)]; exact hc 6 _ rfl⟩

/-! #### struct type 44 -/
structure S44 where
  f0 : ByteArray
  f1 : ByteArray
  f2 : ByteArray
  f3 : Bool
  f4 : Bool
  f5 : Bool
  f6 : Bool
def z44 : S44 := ⟨(⟨#[]⟩ : ByteArray), (⟨#[]⟩ : ByteArray), (⟨#[]⟩ : ByteArray), false, false, false, false⟩
def k44 : Kd S44 := Kd.iso (Kd.pair Kd.string (Kd.pair Kd.string (Kd.pair Kd.string (Kd.pair Kd.bool (Kd.pair Kd.bool (Kd.pair Kd.bool Kd.bool)))))) (fun x : S44 => (x.f0, x.f1, x.f2, x.f3, x.f4, x.f5, x.f6))
theorem k44_heap : Kd.Heap k44 := Kd.heap_iso _ (Kd.heap_pair Kd.heap_string (Kd.heap_pair Kd.heap_string (Kd.heap_pair Kd.heap_string (Kd.heap_pair Kd.heap_bool (Kd.heap_pair Kd.heap_bool (Kd.heap_pair Kd.heap_bool Kd.heap_bool))))))
theorem k44_open {w : World} {x : S44} {cs : List Value} (h : k44.K w x cs) : cs = [.string x.f0, .string x.f1, .string x.f2, .bool x.f3, .bool x.f4, .bool x.f5, .bool x.f6] := by
  obtain ⟨_, _, rfl, rfl, ⟨_, _, rfl, rfl, ⟨_, _, rfl, rfl, ⟨_, _, rfl, rfl, ⟨_, _, rfl, rfl, ⟨_, _, rfl, rfl, rfl⟩⟩⟩⟩⟩⟩ := h
  exact rfl
theorem k44_openM {w : World} {base : Nat} {ok : Nat → Prop} {x : S44} {cs : List Value} (h : k44.M w base ok x cs) : cs = [.string x.f0, .string x.f1, .string x.f2, .bool x.f3, .bool x.f4, .bool x.f5, .bool x.f6] := by
  obtain ⟨_, _, rfl, rfl, ⟨_, _, rfl, rfl, ⟨_, _, rfl, rfl, ⟨_, _, rfl, rfl, ⟨_, _, rfl, rfl, ⟨_, _, rfl, rfl, rfl⟩⟩⟩⟩⟩⟩ := h
  exact rfl
theorem k44_mk (w : World) (x : S44)  : k44.K w x [.string x.f0, .string x.f1, .string x.f2, .bool x.f3, .bool x.f4, .bool x.f5, .bool x.f6] := ⟨[.string x.f0], [.string x.f1, .string x.f2, .bool x.f3, .bool x.f4, .bool x.f5, .bool x.f6], rfl, rfl, ⟨[.string x.f1], [.string x.f2, .bool x.f3, .bool x.f4, .bool x.f5, .bool x.f6], rfl, rfl, ⟨[.string x.f2], [.bool x.f3, .bool x.f4, .bool x.f5, .bool x.f6], rfl, rfl, ⟨[.bool x.f3], [.bool x.f4, .bool x.f5, .bool x.f6], rfl, rfl, ⟨[.bool x.f4], [.bool x.f5, .bool x.f6], rfl, rfl, ⟨[.bool x.f5], [.bool x.f6], rfl, rfl, rfl⟩⟩⟩⟩⟩⟩
theorem k44_mkM (w : World) (base : Nat) (ok : Nat → Prop) (x : S44)  : k44.M w base ok x [.string x.f0, .string x.f1, .string x.f2, .bool x.f3, .bool x.f4, .bool x.f5, .bool x.f6] := ⟨[.string x.f0], [.string x.f1, .string x.f2, .bool x.f3, .bool x.f4, .bool x.f5, .bool x.f6], rfl, rfl, ⟨[.string x.f1], [.string x.f2, .bool x.f3, .bool x.f4, .bool x.f5, .bool x.f6], rfl, rfl, ⟨[.string x.f2], [.bool x.f3, .bool x.f4, .bool x.f5, .bool x.f6], rfl, rfl, ⟨[.bool x.f3], [.bool x.f4, .bool x.f5, .bool x.f6], rfl, rfl, ⟨[.bool x.f4], [.bool x.f5, .bool x.f6], rfl, rfl, ⟨[.bool x.f5], [.bool x.f6], rfl, rfl, rfl⟩⟩⟩⟩⟩⟩
theorem k44_mkF (W : World) (ok : Nat → Prop) (x : S44) : Kd.FK k44 W ok x [.string x.f0, .string x.f1, .string x.f2, .bool x.f3, .bool x.f4, .bool x.f5, .bool x.f6] := fun W2 _ => k44_mk W2 x
def rd_T44 (xs : List S44) (i : Int) : S44 := xs.getD i.toNat z44
theorem at_T44 {w : World} {A : Option Addr} {n : Nat} {xs : List S44} (h : Kd.C k44 w A n xs) (i : Int) (h0 : 0 ≤ i) (h1 : i < n) : ∃ ad , A = some ad ∧ w.cell? (ad.add (i.toNat * 7)) = some (.string (rd_T44 xs i).f0) ∧ w.cell? ⟨(ad.add (i.toNat * 7)).block, (ad.add (i.toNat * 7)).off + 1, none⟩ = some (.string (rd_T44 xs i).f1) ∧ w.cell? ⟨(ad.add (i.toNat * 7)).block, (ad.add (i.toNat * 7)).off + 2, none⟩ = some (.string (rd_T44 xs i).f2) ∧ w.cell? ⟨(ad.add (i.toNat * 7)).block, (ad.add (i.toNat * 7)).off + 3, none⟩ = some (.bool (rd_T44 xs i).f3) ∧ w.cell? ⟨(ad.add (i.toNat * 7)).block, (ad.add (i.toNat * 7)).off + 4, none⟩ = some (.bool (rd_T44 xs i).f4) ∧ w.cell? ⟨(ad.add (i.toNat * 7)).block, (ad.add (i.toNat * 7)).off + 5, none⟩ = some (.bool (rd_T44 xs i).f5) ∧ w.cell? ⟨(ad.add (i.toNat * 7)).block, (ad.add (i.toNat * 7)).off + 6, none⟩ = some (.bool (rd_T44 xs i).f6) := by
  obtain ⟨ad, c, e, _, hK, hc0⟩ := Kd.C_get h z44 i h0 h1
  have hc : ∀ j u, c[j]? = some u → w.cell? (ad.add (i.toNat * 7 + j)) = some u := hc0
  obtain rfl := k44_open hK
  exact ⟨ad, e, hc 0 _ rfl, by rw [← add_field _ _ 1 (by omega)]; exact hc 1 _ rfl, by rw [← add_field _ _ 2 (by omega)]; exact hc 2 _ rfl, by rw [← add_field _ _ 3 (by omega)]; exact hc 3 _ rfl, by rw [← add_field _ _ 4 (by omega)]; exact hc 4 _ rfl, by rw [← add_field _ _ 5 (by omega)]; exact hc 5 _ rfl, by rw [← add_field _ _ 6 (by omega)]; exact hc 6 _ rfl⟩

def rd_L16 (xs : List (List Int)) (i : Int) : (List Int) := xs.getD i.toNat ([] : List Int)
theorem at_L16 {w : World} {A : Option Addr} {n : Nat} {xs : List (List Int)} (h : Kd.C (Kd.slice 5 (Kd.int .u8)) w A n xs) (i : Int) (h0 : 0 ≤ i) (h1 : i < n) : ∃ ad A0 c0, A = some ad ∧ w.cell? (ad.add i.toNat) = some (.slice A0 (rd_L16 xs i).length c0) ∧ (rd_L16 xs i).length ≤ c0 ∧ (Kd.int .u8).C w A0 (rd_L16 xs i).length (rd_L16 xs i) := by
  obtain ⟨ad, c, e, _, hK, hc0⟩ := Kd.C_get h ([] : List Int) i h0 h1
  have hc : ∀ j u, c[j]? = some u → w.cell? (ad.add (i.toNat * 1 + j)) = some u := hc0
  obtain ⟨A0, c0, rfl, l0, g0⟩ := hK
  exact ⟨ad, A0, c0, e, by have hq := hc 0 _ rfl; rwa [Nat.mul_one, Nat.add_zero] at hq, l0, g0⟩

/-! #### struct type 87 -/
structure S87 where
  f0 : ByteArray
  f1 : ByteArray
def z87 : S87 := ⟨(⟨#[]⟩ : ByteArray), (⟨#[]⟩ : ByteArray)⟩
def k87 : Kd S87 := Kd.iso (Kd.pair Kd.string Kd.string) (fun x : S87 => (x.f0, x.f1))
theorem k87_heap : Kd.Heap k87 := Kd.heap_iso _ (Kd.heap_pair Kd.heap_string Kd.heap_string)
theorem k87_open {w : World} {x : S87} {cs : List Value} (h : k87.K w x cs) : cs = [.string x.f0, .string x.f1] := by
  obtain ⟨_, _, rfl, rfl, rfl⟩ := h
  exact rfl
theorem k87_openM {w : World} {base : Nat} {ok : Nat → Prop} {x : S87} {cs : List Value} (h : k87.M w base ok x cs) : cs = [.string x.f0, .string x.f1] := by
  obtain ⟨_, _, rfl, rfl, rfl⟩ := h
  exact rfl
theorem k87_mk (w : World) (x : S87)  : k87.K w x [.string x.f0, .string x.f1] := ⟨[.string x.f0], [.string x.f1], rfl, rfl, rfl⟩
theorem k87_mkM (w : World) (base : Nat) (ok : Nat → Prop) (x : S87)  : k87.M w base ok x [.string x.f0, .string x.f1] := ⟨[.string x.f0], [.string x.f1], rfl, rfl, rfl⟩
theorem k87_mkF (W : World) (ok : Nat → Prop) (x : S87) : Kd.FK k87 W ok x [.string x.f0, .string x.f1] := fun W2 _ => k87_mk W2 x
def rd_T87 (xs : List S87) (i : Int) : S87 := xs.getD i.toNat z87
theorem at_T87 {w : World} {A : Option Addr} {n : Nat} {xs : List S87} (h : Kd.C k87 w A n xs) (i : Int) (h0 : 0 ≤ i) (h1 : i < n) : ∃ ad , A = some ad ∧ w.cell? (ad.add (i.toNat * 2)) = some (.string (rd_T87 xs i).f0) ∧ w.cell? ⟨(ad.add (i.toNat * 2)).block, (ad.add (i.toNat * 2)).off + 1, none⟩ = some (.string (rd_T87 xs i).f1) := by
  obtain ⟨ad, c, e, _, hK, hc0⟩ := Kd.C_get h z87 i h0 h1
  have hc : ∀ j u, c[j]? = some u → w.cell? (ad.add (i.toNat * 2 + j)) = some u := hc0
  obtain rfl := k87_open hK
  exact ⟨ad, e, hc 0 _ rfl, by rw [← add_field _ _ 1 (by omega)]; exact hc 1 _ rfl⟩

/-! #### struct type 97 -/
structure S97 where
  f0 : Int
  f1 : Int
def z97 : S97 := ⟨(0 : Int), (0 : Int)⟩
def k97 : Kd S97 := Kd.iso (Kd.pair (Kd.int .u8) (Kd.int .u8)) (fun x : S97 => (x.f0, x.f1))
theorem k97_heap : Kd.Heap k97 := Kd.heap_iso _ (Kd.heap_pair (Kd.heap_int .u8) (Kd.heap_int .u8))
theorem k97_open {w : World} {x : S97} {cs : List Value} (h : k97.K w x cs) : cs = [.int .u8 x.f0, .int .u8 x.f1] := by
  obtain ⟨_, _, rfl, rfl, rfl⟩ := h
  exact rfl
theorem k97_openM {w : World} {base : Nat} {ok : Nat → Prop} {x : S97} {cs : List Value} (h : k97.M w base ok x cs) : cs = [.int .u8 x.f0, .int .u8 x.f1] := by
  obtain ⟨_, _, rfl, rfl, rfl⟩ := h
  exact rfl
theorem k97_mk (w : World) (x : S97)  : k97.K w x [.int .u8 x.f0, .int .u8 x.f1] := ⟨[.int .u8 x.f0], [.int .u8 x.f1], rfl, rfl, rfl⟩
theorem k97_mkM (w : World) (base : Nat) (ok : Nat → Prop) (x : S97)  : k97.M w base ok x [.int .u8 x.f0, .int .u8 x.f1] := ⟨[.int .u8 x.f0], [.int .u8 x.f1], rfl, rfl, rfl⟩
theorem k97_mkF (W : World) (ok : Nat → Prop) (x : S97) : Kd.FK k97 W ok x [.int .u8 x.f0, .int .u8 x.f1] := fun W2 _ => k97_mk W2 x
def rd_T97 (xs : List S97) (i : Int) : S97 := xs.getD i.toNat z97
theorem at_T97 {w : World} {A : Option Addr} {n : Nat} {xs : List S97} (h : Kd.C k97 w A n xs) (i : Int) (h0 : 0 ≤ i) (h1 : i < n) : ∃ ad , A = some ad ∧ w.cell? (ad.add (i.toNat * 2)) = some (.int .u8 (rd_T97 xs i).f0) ∧ w.cell? ⟨(ad.add (i.toNat * 2)).block, (ad.add (i.toNat * 2)).off + 1, none⟩ = some (.int .u8 (rd_T97 xs i).f1) := by
  obtain ⟨ad, c, e, _, hK, hc0⟩ := Kd.C_get h z97 i h0 h1
  have hc : ∀ j u, c[j]? = some u → w.cell? (ad.add (i.toNat * 2 + j)) = some u := hc0
  obtain rfl := k97_open hK
  exact ⟨ad, e, hc 0 _ rfl, by rw [← add_field _ _ 1 (by omega)]; exact hc 1 _ rfl⟩

/-! #### struct type 98 -/
structure S98 where
  f0 : Int
  f1 : Int
def z98 : S98 := ⟨(0 : Int), (0 : Int)⟩
def k98 : Kd S98 := Kd.iso (Kd.pair (Kd.int .u8) (Kd.int .u8)) (fun x : S98 => (x.f0, x.f1))
theorem k98_heap : Kd.Heap k98 := Kd.heap_iso _ (Kd.heap_pair (Kd.heap_int .u8) (Kd.heap_int .u8))
theorem k98_open {w : World} {x : S98} {cs : List Value} (h : k98.K w x cs) : cs = [.int .u8 x.f0, .int .u8 x.f1] := by
  obtain ⟨_, _, rfl, rfl, rfl⟩ := h
  exact rfl
theorem k98_openM {w : World} {base : Nat} {ok : Nat → Prop} {x : S98} {cs : List Value} (h : k98.M w base ok x cs) : cs = [.int .u8 x.f0, .int .u8 x.f1] := by
  obtain ⟨_, _, rfl, rfl, rfl⟩ := h
  exact rfl
theorem k98_mk (w : World) (x : S98)  : k98.K w x [.int .u8 x.f0, .int .u8 x.f1] := ⟨[.int .u8 x.f0], [.int .u8 x.f1], rfl, rfl, rfl⟩
theorem k98_mkM (w : World) (base : Nat) (ok : Nat → Prop) (x : S98)  : k98.M w base ok x [.int .u8 x.f0, .int .u8 x.f1] := ⟨[.int .u8 x.f0], [.int .u8 x.f1], rfl, rfl, rfl⟩
theorem k98_mkF (W : World) (ok : Nat → Prop) (x : S98) : Kd.FK k98 W ok x [.int .u8 x.f0, .int .u8 x.f1] := fun W2 _ => k98_mk W2 x
def rd_T98 (xs : List S98) (i : Int) : S98 := xs.getD i.toNat z98
theorem at_T98 {w : World} {A : Option Addr} {n : Nat} {xs : List S98} (h : Kd.C k98 w A n xs) (i : Int) (h0 : 0 ≤ i) (h1 : i < n) : ∃ ad , A = some ad ∧ w.cell? (ad.add (i.toNat * 2)) = some (.int .u8 (rd_T98 xs i).f0) ∧ w.cell? ⟨(ad.add (i.toNat * 2)).block, (ad.add (i.toNat * 2)).off + 1, none⟩ = some (.int .u8 (rd_T98 xs i).f1) := by
  obtain ⟨ad, c, e, _, hK, hc0⟩ := Kd.C_get h z98 i h0 h1
  have hc : ∀ j u, c[j]? = some u → w.cell? (ad.add (i.toNat * 2 + j)) = some u := hc0
  obtain rfl := k98_open hK
  exact ⟨ad, e, hc 0 _ rfl, by rw [← add_field _ _ 1 (by omega)]; exact hc 1 _ rfl⟩

def rd_L20 (xs : List (List ByteArray)) (i : Int) : (List ByteArray) := xs.getD i.toNat ([] : List ByteArray)
theorem at_L20 {w : World} {A : Option Addr} {n : Nat} {xs : List (List ByteArray)} (h : Kd.C (Kd.slice 9 Kd.string) w A n xs) (i : Int) (h0 : 0 ≤ i) (h1 : i < n) : ∃ ad A0 c0, A = some ad ∧ w.cell? (ad.add i.toNat) = some (.slice A0 (rd_L20 xs i).length c0) ∧ (rd_L20 xs i).length ≤ c0 ∧ Kd.string.C w A0 (rd_L20 xs i).length (rd_L20 xs i) := by
  obtain ⟨ad, c, e, _, hK, hc0⟩ := Kd.C_get h ([] : List ByteArray) i h0 h1
  have hc : ∀ j u, c[j]? = some u → w.cell? (ad.add (i.toNat * 1 + j)) = some u := hc0
  obtain ⟨A0, c0, rfl, l0, g0⟩ := hK
  exact ⟨ad, A0, c0, e, by have hq := hc 0 _ rfl; rwa [Nat.mul_one, Nat.add_zero] at hq, l0, g0⟩

/-! #### struct type 124 -/
structure S124 where
  f0 : Int
  f1 : Int
def z124 : S124 := ⟨(0 : Int), (0 : Int)⟩
def k124 : Kd S124 := Kd.iso (Kd.pair (Kd.int .i32) (Kd.int .u32)) (fun x : S124 => (x.f0, x.f1))
theorem k124_heap : Kd.Heap k124 := Kd.heap_iso _ (Kd.heap_pair (Kd.heap_int .i32) (Kd.heap_int .u32))
theorem k124_open {w : World} {x : S124} {cs : List Value} (h : k124.K w x cs) : cs = [.int .i32 x.f0, .int .u32 x.f1] := by
  obtain ⟨_, _, rfl, rfl, rfl⟩ := h
  exact rfl
theorem k124_openM {w : World} {base : Nat} {ok : Nat → Prop} {x : S124} {cs : List Value} (h : k124.M w base ok x cs) : cs = [.int .i32 x.f0, .int .u32 x.f1] := by
  obtain ⟨_, _, rfl, rfl, rfl⟩ := h
  exact rfl
theorem k124_mk (w : World) (x : S124)  : k124.K w x [.int .i32 x.f0, .int .u32 x.f1] := ⟨[.int .i32 x.f0], [.int .u32 x.f1], rfl, rfl, rfl⟩
theorem k124_mkM (w : World) (base : Nat) (ok : Nat → Prop) (x : S124)  : k124.M w base ok x [.int .i32 x.f0, .int .u32 x.f1] := ⟨[.int .i32 x.f0], [.int .u32 x.f1], rfl, rfl, rfl⟩
theorem k124_mkF (W : World) (ok : Nat → Prop) (x : S124) : Kd.FK k124 W ok x [.int .i32 x.f0, .int .u32 x.f1] := fun W2 _ => k124_mk W2 x
def rd_T124 (xs : List S124) (i : Int) : S124 := xs.getD i.toNat z124
theorem at_T124 {w : World} {A : Option Addr} {n : Nat} {xs : List S124} (h : Kd.C k124 w A n xs) (i : Int) (h0 : 0 ≤ i) (h1 : i < n) : ∃ ad , A = some ad ∧ w.cell? (ad.add (i.toNat * 2)) = some (.int .i32 (rd_T124 xs i).f0) ∧ w.cell? ⟨(ad.add (i.toNat * 2)).block, (ad.add (i.toNat * 2)).off + 1, none⟩ = some (.int .u32 (rd_T124 xs i).f1) := by
  obtain ⟨ad, c, e, _, hK, hc0⟩ := Kd.C_get h z124 i h0 h1
  have hc : ∀ j u, c[j]? = some u → w.cell? (ad.add (i.toNat * 2 + j)) = some u := hc0
  obtain rfl := k124_open hK
  exact ⟨ad, e, hc 0 _ rfl, by rw [← add_field _ _ 1 (by omega)]; exact hc 1 _ rfl⟩

/-! #### struct type 125 -/
structure S125 where
  f0 : Int
  f1 : Int
def z125 : S125 := ⟨(0 : Int), (0 : Int)⟩
def k125 : Kd S125 := Kd.iso (Kd.pair (Kd.int .i32) (Kd.int .u32)) (fun x : S125 => (x.f0, x.f1))
theorem k125_heap : Kd.Heap k125 := Kd.heap_iso _ (Kd.heap_pair (Kd.heap_int .i32) (Kd.heap_int .u32))
theorem k125_open {w : World} {x : S125} {cs : List Value} (h : k125.K w x cs) : cs = [.int .i32 x.f0, .int .u32 x.f1] := by
  obtain ⟨_, _, rfl, rfl, rfl⟩ := h
  exact rfl
theorem k125_openM {w : World} {base : Nat} {ok : Nat → Prop} {x : S125} {cs : List Value} (h : k125.M w base ok x cs) : cs = [.int .i32 x.f0, .int .u32 x.f1] := by
  obtain ⟨_, _, rfl, rfl, rfl⟩ := h
  exact rfl
theorem k125_mk (w : World) (x : S125)  : k125.K w x [.int .i32 x.f0, .int .u32 x.f1] := ⟨[.int .i32 x.f0], [.int .u32 x.f1], rfl, rfl, rfl⟩
theorem k125_mkM (w : World) (base : Nat) (ok : Nat → Prop) (x : S125)  : k125.M w base ok x [.int .i32 x.f0, .int .u32 x.f1] := ⟨[.int .i32 x.f0], [.int .u32 x.f1], rfl, rfl, rfl⟩
theorem k125_mkF (W : World) (ok : Nat → Prop) (x : S125) : Kd.FK k125 W ok x [.int .i32 x.f0, .int .u32 x.f1] := fun W2 _ => k125_mk W2 x
def rd_T125 (xs : List S125) (i : Int) : S125 := xs.getD i.toNat z125
theorem at_T125 {w : World} {A : Option Addr} {n : Nat} {xs : List S125} (h : Kd.C k125 w A n xs) (i : Int) (h0 : 0 ≤ i) (h1 : i < n) : ∃ ad , A = some ad ∧ w.cell? (ad.add (i.toNat * 2)) = some (.int .i32 (rd_T125 xs i).f0) ∧ w.cell? ⟨(ad.add (i.toNat * 2)).block, (ad.add (i.toNat * 2)).off + 1, none⟩ = some (.int .u32 (rd_T125 xs i).f1) := by
  obtain ⟨ad, c, e, _, hK, hc0⟩ := Kd.C_get h z125 i h0 h1
  have hc : ∀ j u, c[j]? = some u → w.cell? (ad.add (i.toNat * 2 + j)) = some u := hc0
  obtain rfl := k125_open hK
  exact ⟨ad, e, hc 0 _ rfl, by rw [← add_field _ _ 1 (by omega)]; exact hc 1 _ rfl⟩

/-! #### struct type 137 -/
structure S137 where
  f0 : Int
  f1 : Int
def z137 : S137 := ⟨(0 : Int), (0 : Int)⟩
def k137 : Kd S137 := Kd.iso (Kd.pair (Kd.int .u8) (Kd.int .u8)) (fun x : S137 => (x.f0, x.f1))
theorem k137_heap : Kd.Heap k137 := Kd.heap_iso _ (Kd.heap_pair (Kd.heap_int .u8) (Kd.heap_int .u8))
theorem k137_open {w : World} {x : S137} {cs : List Value} (h : k137.K w x cs) : cs = [.int .u8 x.f0, .int .u8 x.f1] := by
  obtain ⟨_, _, rfl, rfl, rfl⟩ := h
  exact rfl
theorem k137_openM {w : World} {base : Nat} {ok : Nat → Prop} {x : S137} {cs : List Value} (h : k137.M w base ok x cs) : cs = [.int .u8 x.f0, .int .u8 x.f1] := by
  obtain ⟨_, _, rfl, rfl, rfl⟩ := h
  exact rfl
theorem k137_mk (w : World) (x : S137)  : k137.K w x [.int .u8 x.f0, .int .u8 x.f1] := ⟨[.int .u8 x.f0], [.int .u8 x.f1], rfl, rfl, rfl⟩
theorem k137_mkM (w : World) (base : Nat) (ok : Nat → Prop) (x : S137)  : k137.M w base ok x [.int .u8 x.f0, .int .u8 x.f1] := ⟨[.int .u8 x.f0], [.int .u8 x.f1], rfl, rfl, rfl⟩
theorem k137_mkF (W : World) (ok : Nat → Prop) (x : S137) : Kd.FK k137 W ok x [.int .u8 x.f0, .int .u8 x.f1] := fun W2 _ => k137_mk W2 x
def rd_T137 (xs : List S137) (i : Int) : S137 := xs.getD i.toNat z137
theorem at_T137 {w : World} {A : Option Addr} {n : Nat} {xs : List S137} (h : Kd.C k137 w A n xs) (i : Int) (h0 : 0 ≤ i) (h1 : i < n) : ∃ ad , A = some ad ∧ w.cell? (ad.add (i.toNat * 2)) = some (.int .u8 (rd_T137 xs i).f0) ∧ w.cell? ⟨(ad.add (i.toNat * 2)).block, (ad.add (i.toNat * 2)).off + 1, none⟩ = some (.int .u8 (rd_T137 xs i).f1) := by
  obtain ⟨ad, c, e, _, hK, hc0⟩ := Kd.C_get h z137 i h0 h1
  have hc : ∀ j u, c[j]? = some u → w.cell? (ad.add (i.toNat * 2 + j)) = some u := hc0
  obtain rfl := k137_open hK
  exact ⟨ad, e, hc 0 _ rfl, by rw [← add_field _ _ 1 (by omega)]; exact hc 1 _ rfl⟩

/-! #### struct type 138 -/
structure S138 where
  f0 : Int
  f1 : Int
def z138 : S138 := ⟨(0 : Int), (0 : Int)⟩
def k138 : Kd S138 := Kd.iso (Kd.pair (Kd.int .u8) (Kd.int .u8)) (fun x : S138 => (x.f0, x.f1))
theorem k138_heap : Kd.Heap k138 := Kd.heap_iso _ (Kd.heap_pair (Kd.heap_int .u8) (Kd.heap_int .u8))
theorem k138_open {w : World} {x : S138} {cs : List Value} (h : k138.K w x cs) : cs = [.int .u8 x.f0, .int .u8 x.f1] := by
  obtain ⟨_, _, rfl, rfl, rfl⟩ := h
  exact rfl
theorem k138_openM {w : World} {base : Nat} {ok : Nat → Prop} {x : S138} {cs : List Value} (h : k138.M w base ok x cs) : cs = [.int .u8 x.f0, .int .u8 x.f1] := by
  obtain ⟨_, _, rfl, rfl, rfl⟩ := h
  exact rfl
theorem k138_mk (w : World) (x : S138)  : k138.K w x [.int .u8 x.f0, .int .u8 x.f1] := ⟨[.int .u8 x.f0], [.int .u8 x.f1], rfl, rfl, rfl⟩
theorem k138_mkM (w : World) (base : Nat) (ok : Nat → Prop) (x : S138)  : k138.M w base ok x [.int .u8 x.f0, .int .u8 x.f1] := ⟨[.int .u8 x.f0], [.int .u8 x.f1], rfl, rfl, rfl⟩
theorem k138_mkF (W : World) (ok : Nat → Prop) (x : S138) : Kd.FK k138 W ok x [.int .u8 x.f0, .int .u8 x.f1] := fun W2 _ => k138_mk W2 x
def rd_T138 (xs : List S138) (i : Int) : S138 := xs.getD i.toNat z138
theorem at_T138 {w : World} {A : Option Addr} {n : Nat} {xs : List S138} (h : Kd.C k138 w A n xs) (i : Int) (h0 : 0 ≤ i) (h1 : i < n) : ∃ ad , A = some ad ∧ w.cell? (ad.add (i.toNat * 2)) = some (.int .u8 (rd_T138 xs i).f0) ∧ w.cell? ⟨(ad.add (i.toNat * 2)).block, (ad.add (i.toNat * 2)).off + 1, none⟩ = some (.int .u8 (rd_T138 xs i).f1) := by
  obtain ⟨ad, c, e, _, hK, hc0⟩ := Kd.C_get h z138 i h0 h1
  have hc : ∀ j u, c[j]? = some u → w.cell? (ad.add (i.toNat * 2 + j)) = some u := hc0
  obtain rfl := k138_open hK
  exact ⟨ad, e, hc 0 _ rfl, by rw [← add_field _ _ 1 (by omega)]; exact hc 1 _ rfl⟩

def rd_L27 (xs : List (List Int)) (i : Int) : (List Int) := xs.getD i.toNat ([] : List Int)
theorem at_L27 {w : World} {A : Option Addr} {n : Nat} {xs : List (List Int)} (h : Kd.C (Kd.slice 3 (Kd.int .i64)) w A n xs) (i : Int) (h0 : 0 ≤ i) (h1 : i < n) : ∃ ad A0 c0, A = some ad ∧ w.cell? (ad.add i.toNat) = some (.slice A0 (rd_L27 xs i).length c0) ∧ (rd_L27 xs i).length ≤ c0 ∧ (Kd.int .i64).C w A0 (rd_L27 xs i).length (rd_L27 xs i) := by
  obtain ⟨ad, c, e, _, hK, hc0⟩ := Kd.C_get h ([] : List Int) i h0 h1
  have hc : ∀ j u, c[j]? = some u → w.cell? (ad.add (i.toNat * 1 + j)) = some u := hc0
  obtain ⟨A0, c0, rfl, l0, g0⟩ := hK
  exact ⟨ad, A0, c0, e, by have hq := hc 0 _ rfl; rwa [Nat.mul_one, Nat.add_zero] at hq, l0, g0⟩

end Go.Proofs.YtppaobgccdlccaaDoor.K0
