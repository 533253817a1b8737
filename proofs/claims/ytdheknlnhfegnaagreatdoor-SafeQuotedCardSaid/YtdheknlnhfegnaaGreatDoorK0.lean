-- Written by a program of this session over the kit's printer: not by hand.
import Derived.Test.YtdheknlnhfegnaaGreatDoorProg
import Derived.Below
import Derived.Deep.Draws
import Derived.Deep.AppendLies
import Derived.Maps.AppendAt
import Derived.OwnWalk
import Derived.Laws.BytesArg
import Derived.Laws.MakeOwn
import Derived.Laws.OwnMore
import Derived.Deep.OwnRows
import Derived.Tactics
import Derived.Lib.ConvBytes
import Derived.Laws.Slices
import Derived.WalkKit
import Derived.KernelRfl
import Derived.RowKit3
import Derived.Deep.LoopGhost
import Derived.Deep.QuietTactic
import Derived.BigQuiet
import Derived.WideLaws
import Derived.Deep.DeepCutAuto
import Derived.Deep.CutBlock
import Derived.Deep.RegionHeld3
import Derived.Laws.Rows
import Derived.Lib.AppendStr
import Derived.ArgAppend
import Derived.Laws.IdiomCopy
import Derived.OrdersHeld
import Derived.Laws.BitsLemmas
import Derived.RowKit
import Derived.Test.YtdheknlnhfegnaaGreatDoorWWords
import Derived.Test.YtdheknlnhfegnaaGreatDoorWLast
import Derived.Test.YtdheknlnhfegnaaGreatDoorWTab
import Derived.Test.YtdheknlnhfegnaaGreatDoorWFour
import Derived.Test.YtdheknlnhfegnaaGreatDoorWQPut
import Derived.Test.YtdheknlnhfegnaaGreatDoorWApart
import Derived.Test.YtdheknlnhfegnaaGreatDoorWArr
import Derived.Test.YtdheknlnhfegnaaGreatDoorWZeros
import Derived.Test.YtdheknlnhfegnaaGreatDoorWFoot
import Derived.Test.YtdheknlnhfegnaaGreatDoorWKept
import Derived.Test.YtdheknlnhfegnaaGreatDoorWShare
import Derived.Test.YtdheknlnhfegnaaGreatDoorWN
import Derived.Test.YtdheknlnhfegnaaGreatDoorWFootNe
import Derived.Test.YtdheknlnhfegnaaGreatDoorWAt
import Derived.Test.YtdheknlnhfegnaaGreatDoorWEqStruct
import Derived.Test.YtdheknlnhfegnaaGreatDoorWRepsOne
import Derived.Test.YtdheknlnhfegnaaGreatDoorWInv
import Derived.Test.YtdheknlnhfegnaaGreatDoorWInvWords
import Derived.Test.YtdheknlnhfegnaaGreatDoorWGuard
import Derived.Test.YtdheknlnhfegnaaGreatDoorWNEv
import Derived.Test.YtdheknlnhfegnaaGreatDoorWMore
namespace Go.Proofs.YtdheknlnhfegnaaGreatDoor.K0
open Go.RowKit Go.Proofs.YtdheknlnhfegnaaGreatDoorW.PrintWords Go.Proofs.YtdheknlnhfegnaaGreatDoorW.PrintLast Go.Proofs.YtdheknlnhfegnaaGreatDoorW.PrintMore
attribute [local go_sem] max2_int min2_int max_two min_two max_three min_three max_four min_four   -- for this text's walks alone
set_option linter.unusedVariables false
set_option linter.unusedSimpArgs false

/-! #### struct type 7 -/
structure S7 where
  f0 : Int
  f1 : Int
  f2 : Bool
  f3 : Int
def z7 : S7 := ⟨(0 : Int), (0 : Int), false, (0 : Int)⟩
def k7 : Kd S7 := Kd.iso (Kd.pair (Kd.int .i64) (Kd.pair (Kd.int .i64) (Kd.pair Kd.bool (Kd.int .u8)))) (fun x : S7 => (x.f0, x.f1, x.f2, x.f3))
theorem k7_heap : Kd.Heap k7 := Kd.heap_iso _ (Kd.heap_pair (Kd.heap_int .i64) (Kd.heap_pair (Kd.heap_int .i64) (Kd.heap_pair Kd.heap_bool (Kd.heap_int .u8))))
theorem k7_open {w : World} {x : S7} {cs : List Value} (h : k7.K w x cs) : cs = [.int .i64 x.f0, .int .i64 x.f1, .bool x.f2, .int .u8 x.f3] := by
  obtain ⟨_, _, rfl, rfl, ⟨_, _, rfl, rfl, ⟨_, _, rfl, rfl, rfl⟩⟩⟩ := h
  exact rfl
theorem k7_openM {w : World} {base : Nat} {ok : Nat → Prop} {x : S7} {cs : List Value} (h : k7.M w base ok x cs) : cs = [.int .i64 x.f0, .int .i64 x.f1, .bool x.f2, .int .u8 x.f3] := by
  obtain ⟨_, _, rfl, rfl, ⟨_, _, rfl, rfl, ⟨_, _, rfl, rfl, rfl⟩⟩⟩ := h
  exact rfl
theorem k7_mk (w : World) (x : S7)  : k7.K w x [.int .i64 x.f0, .int .i64 x.f1, .bool x.f2, .int .u8 x.f3] := ⟨[.int .i64 x.f0], [.int .i64 x.f1, .bool x.f2, .int .u8 x.f3], rfl, rfl, ⟨[.int .i64 x.f1], [.bool x.f2, .int .u8 x.f3], rfl, rfl, ⟨[.bool x.f2], [.int .u8 x.f3], rfl, rfl, rfl⟩⟩⟩
theorem k7_mkM (w : World) (base : Nat) (ok : Nat → Prop) (x : S7)  : k7.M w base ok x [.int .i64 x.f0, .int .i64 x.f1, .bool x.f2, .int .u8 x.f3] := ⟨[.int .i64 x.f0], [.int .i64 x.f1, .bool x.f2, .int .u8 x.f3], rfl, rfl, ⟨[.int .i64 x.f1], [.bool x.f2, .int .u8 x.f3], rfl, rfl, ⟨[.bool x.f2], [.int .u8 x.f3], rfl, rfl, rfl⟩⟩⟩
theorem k7_mkF (W : World) (ok : Nat → Prop) (x : S7) : Kd.FK k7 W ok x [.int .i64 x.f0, .int .i64 x.f1, .bool x.f2, .int .u8 x.f3] := fun W2 _ => k7_mk W2 x
def rd_T7 (xs : List S7) (i : Int) : S7 := xs.getD i.toNat z7
theorem at_T7 {w : World} {A : Option Addr} {n : Nat} {xs : List S7} (h : Kd.C k7 w A n xs) (i : Int) (h0 : 0 ≤ i) (h1 : i < n) : ∃ ad , A = some ad ∧ w.cell? (ad.add (i.toNat * 4)) = some (.int .i64 (rd_T7 xs i).f0) ∧ w.cell? ⟨(ad.add (i.toNat * 4)).block, (ad.add (i.toNat * 4)).off + 1, none⟩ = some (.int .i64 (rd_T7 xs i).f1) ∧ w.cell? ⟨(ad.add (i.toNat * 4)).block, (ad.add (i.toNat * 4)).off + 2, none⟩ = some (.bool (rd_T7 xs i).f2) ∧ w.cell? ⟨(ad.add (i.toNat * 4)).block, (ad.add (i.toNat * 4)).off + 3, none⟩ = some (.int .u8 (rd_T7 xs i).f3) := by
  obtain ⟨ad, c, e, _, hK, hc0⟩ := Kd.C_get h z7 i h0 h1
  have hc : ∀ j u, c[j]? = some u → w.cell? (ad.add (i.toNat * 4 + j)) = some u := hc0
  obtain rfl := k7_open hK
  exact ⟨ad, e, hc 0 _ rfl, by rw [← add_field _ _ 1 (by omega)]; exact hc 1 _ rfl, by rw [← add_field _ _ 2 (by omega)]; exact hc 2 _ rfl, by rw [← add_field _ _ 3 (by omega)]; exact hc 3 _ rfl⟩

/-! #### struct type 8 -/
structure S8 where
  f0 : Int
  f1 : Int
  f2 : Bool
  f3 : Int
def z8 : S8 := ⟨(0 : Int), (0 : Int), false, (0 : Int)⟩
def k8 : Kd S8 := Kd.iso (Kd.pair (Kd.int .i64) (Kd.pair (Kd.int .i64) (Kd.pair Kd.bool (Kd.int .u8)))) (fun x : S8 => (x.f0, x.f1, x.f2, x.f3))
theorem k8_heap : Kd.Heap k8 := Kd.heap_iso _ (Kd.heap_pair (Kd.heap_int .i64) (Kd.heap_pair (Kd.heap_int .i64) (Kd.heap_pair Kd.heap_bool (Kd.heap_int .u8))))
theorem k8_open {w : World} {x : S8} {cs : List Value} (h : k8.K w x cs) : cs = [.int .i64 x.f0, .int .i64 x.f1, .bool x.f2, .int .u8 x.f3] := by
  obtain ⟨_, _, rfl, rfl, ⟨_, _, rfl, rfl, ⟨_, _, rfl, rfl, rfl⟩⟩⟩ := h
  exact rfl
theorem k8_openM {w : World} {base : Nat} {ok : Nat → Prop} {x : S8} {cs : List Value} (h : k8.M w base ok x cs) : cs = [.int .i64 x.f0, .int .i64 x.f1, .bool x.f2, .int .u8 x.f3] := by
  obtain ⟨_, _, rfl, rfl, ⟨_, _, rfl, rfl, ⟨_, _, rfl, rfl, rfl⟩⟩⟩ := h
  exact rfl
theorem k8_mk (w : World) (x : S8)  : k8.K w x [.int .i64 x.f0, .int .i64 x.f1, .bool x.f2, .int .u8 x.f3] := ⟨[.int .i64 x.f0], [.int .i64 x.f1, .bool x.f2, .int .u8 x.f3], rfl, rfl, ⟨[.int .i64 x.f1], [.bool x.f2, .int .u8 x.f3], rfl, rfl, ⟨[.bool x.f2], [.int .u8 x.f3], rfl, rfl, rfl⟩⟩⟩
theorem k8_mkM (w : World) (base : Nat) (ok : Nat → Prop) (x : S8)  : k8.M w base ok x [.int .i64 x.f0, .int .i64 x.f1, .bool x.f2, .int .u8 x.f3] := ⟨[.int .i64 x.f0], [.int .i64 x.f1, .bool x.f2, .int .u8 x.f3], rfl, rfl, ⟨[.int .i64 x.f1], [.bool x.f2, .int .u8 x.f3], rfl, rfl, ⟨[.bool x.f2], [.int .u8 x.f3], rfl, rfl, rfl⟩⟩⟩
theorem k8_mkF (W : World) (ok : Nat → Prop) (x : S8) : Kd.FK k8 W ok x [.int .i64 x.f0, .int .i64 x.f1, .bool x.f2, .int .u8 x.f3] := fun W2 _ => k8_mk W2 x
def rd_T8 (xs : List S8) (i : Int) : S8 := xs.getD i.toNat z8
theorem at_T8 {w : World} {A : Option Addr} {n : Nat} {xs : List S8} (h : Kd.C k8 w A n xs) (i : Int) (h0 : 0 ≤ i) (h1 : i < n) : ∃ ad , A = some ad ∧ w.cell? (ad.add (i.toNat * 4)) = some (.int .i64 (rd_T8 xs i).f0) ∧ w.cell? ⟨(ad.add (i.toNat * 4)).block, (ad.add (i.toNat * 4)).off + 1, none⟩ = some (.int .i64 (rd_T8 xs i).f1) ∧ w.cell? ⟨(ad.add (i.toNat * 4)).block, (ad.add (i.toNat * 4)).off + 2, none⟩ = some (.bool (rd_T8 xs i).f2) ∧ w.cell? ⟨(ad.add (i.toNat * 4)).block, (ad.add (i.toNat * 4)).off + 3, none⟩ = some (.int .u8 (rd_T8 xs i).f3) := by
  obtain ⟨ad, c, e, _, hK, hc0⟩ := Kd.C_get h z8 i h0 h1
  have hc : ∀ j u, c[j]? = some u → w.cell? (ad.add (i.toNat * 4 + j)) = some u := hc0
  obtain rfl := k8_open hK
  exact ⟨ad, e, hc 0 _ rfl, by rw [← add_field _ _ 1 (by omega)]; exact hc 1 _ rfl, by rw [← add_field _ _ 2 (by omega)]; exact hc 2 _ rfl, by rw [← add_field _ _ 3 (by omega)]; exact hc 3 _ rfl⟩

/-! #### struct type 13 -/
structure S13 where
  f0 : ByteArray
  f1 : Int
def z13 : S13 := ⟨(⟨#[]⟩ : ByteArray), (0 : Int)⟩
def k13 : Kd S13 := Kd.iso (Kd.pair Kd.string (Kd.int .u64)) (fun x : S13 => (x.f0, x.f1))
theorem k13_heap : Kd.Heap k13 := Kd.heap_iso _ (Kd.heap_pair Kd.heap_string (Kd.heap_int .u64))
theorem k13_open {w : World} {x : S13} {cs : List Value} (h : k13.K w x cs) : cs = [.string x.f0, .int .u64 x.f1] := by
  obtain ⟨_, _, rfl, rfl, rfl⟩ := h
  exact rfl
theorem k13_openM {w : World} {base : Nat} {ok : Nat → Prop} {x : S13} {cs : List Value} (h : k13.M w base ok x cs) : cs = [.string x.f0, .int .u64 x.f1] := by
  obtain ⟨_, _, rfl, rfl, rfl⟩ := h
  exact rfl
theorem k13_mk (w : World) (x : S13)  : k13.K w x [.string x.f0, .int .u64 x.f1] := ⟨[.string x.f0], [.int .u64 x.f1], rfl, rfl, rfl⟩
theorem k13_mkM (w : World) (base : Nat) (ok : Nat → Prop) (x : S13)  : k13.M w base ok x [.string x.f0, .int .u64 x.f1] := ⟨[.string x.f0], [.int .u64 x.f1], rfl, rfl, rfl⟩
theorem k13_mkF (W : World) (ok : Nat → Prop) (x : S13) : Kd.FK k13 W ok x [.string x.f0, .int .u64 x.f1] := fun W2 _ => k13_mk W2 x
def rd_T13 (xs : List S13) (i : Int) : S13 := xs.getD i.toNat z13
theorem at_T13 {w : World} {A : Option Addr} {n : Nat} {xs : List S13} (h : Kd.C k13 w A n xs) (i : Int) (h0 : 0 ≤ i) (h1 : i < n) : ∃ ad , A = some ad ∧ w.cell? (ad.add (i.toNat * 2)) = some (.string (rd_T13 xs i).f0) ∧ w.cell? ⟨(ad.add (i.toNat * 2)).block, (ad.add (i.toNat * 2)).off + 1, none⟩ = some (.int .u64 (rd_T13 xs i).f1) := by
  obtain ⟨ad, c, e, _, hK, hc0⟩ := Kd.C_get h z13 i h0 h1
  have hc : ∀ j u, c[j]? = some u → w.cell? (ad.add (i.toNat * 2 + j)) = some u := hc0
  obtain rfl := k13_open hK
  exact ⟨ad, e, hc 0 _ rfl, by rw [← add_field _ _ 1 (by omega)]; exact hc 1 _ rfl⟩

/-! #### struct type 14 -/
structure S14 where
  f0 : ByteArray
  f1 : Int
def z14 : S14 := ⟨(⟨#[]⟩ : ByteArray), (0 : Int)⟩
def k14 : Kd S14 := Kd.iso (Kd.pair Kd.string (Kd.int .u64)) (fun x : S14 => (x.f0, x.f1))
theorem k14_heap : Kd.Heap k14 := Kd.heap_iso _ (Kd.heap_pair Kd.heap_string (Kd.heap_int .u64))
theorem k14_open {w : World} {x : S14} {cs : List Value} (h : k14.K w x cs) : cs = [.string x.f0, .int .u64 x.f1] := by
  obtain ⟨_, _, rfl, rfl, rfl⟩ := h
  exact rfl
theorem k14_openM {w : World} {base : Nat} {ok : Nat → Prop} {x : S14} {cs : List Value} (h : k14.M w base ok x cs) : cs = [.string x.f0, .int .u64 x.f1] := by
  obtain ⟨_, _, rfl, rfl, rfl⟩ := h
  exact rfl
theorem k14_mk (w : World) (x : S14)  : k14.K w x [.string x.f0, .int .u64 x.f1] := ⟨[.string x.f0], [.int .u64 x.f1], rfl, rfl, rfl⟩
theorem k14_mkM (w : World) (base : Nat) (ok : Nat → Prop) (x : S14)  : k14.M w base ok x [.string x.f0, .int .u64 x.f1] := ⟨[.string x.f0], [.int .u64 x.f1], rfl, rfl, rfl⟩
theorem k14_mkF (W : World) (ok : Nat → Prop) (x : S14) : Kd.FK k14 W ok x [.string x.f0, .int .u64 x.f1] := fun W2 _ => k14_mk W2 x
def rd_T14 (xs : List S14) (i : Int) : S14 := xs.getD i.toNat z14
theorem at_T14 {w : World} {A : Option Addr} {n : Nat} {xs : List S14} (h : Kd.C k14 w A n xs) (i : Int) (h0 : 0 ≤ i) (h1 : i < n) : ∃ ad , A = some ad ∧ w.cell? (ad.add (i.toNat * 2)) = some (.string (rd_T14 xs i).f0) ∧ w.cell? ⟨(ad.add (i.toNat * 2)).block, (ad.add (i.toNat * 2)).off + 1, none⟩ = some (.int .u64 (rd_T14 xs i).f1) := by
  obtain ⟨ad, c, e, _, hK, hc0⟩ := Kd.C_get h z14 i h0 h1
  have hc : ∀ j u, c[j]? = some u → w.cell? (ad.add (i.toNat * 2 + j)) = some u := hc0
  obtain rfl := k14_open hK
  exact ⟨ad, e, hc 0 _ rfl, by rw [← add_field _ _ 1 (by omega)]; exact hc 1 _ rfl⟩

/-! #### struct type 28 -/
structure S28 where
  f0 : ByteArray
  f1 : ByteArray
def z28 : S28 := ⟨(⟨#[]⟩ : ByteArray), (⟨#[]⟩ : ByteArray)⟩
def k28 : Kd S28 := Kd.iso (Kd.pair Kd.string Kd.string) (fun x : S28 => (x.f0, x.f1))
theorem k28_heap : Kd.Heap k28 := Kd.heap_iso _ (Kd.heap_pair Kd.heap_string Kd.heap_string)
theorem k28_open {w : World} {x : S28} {cs : List Value} (h : k28.K w x cs) : cs = [.string x.f0, .string x.f1] := by
  obtain ⟨_, _, rfl, rfl, rfl⟩ := h
  exact rfl
theorem k28_openM {w : World} {base : Nat} {ok : Nat → Prop} {x : S28} {cs : List Value} (h : k28.M w base ok x cs) : cs = [.string x.f0, .string x.f1] := by
  obtain ⟨_, _, rfl, rfl, rfl⟩ := h
  exact rfl
theorem k28_mk (w : World) (x : S28)  : k28.K w x [.string x.f0, .string x.f1] := ⟨[.string x.f0], [.string x.f1], rfl, rfl, rfl⟩
theorem k28_mkM (w : World) (base : Nat) (ok : Nat → Prop) (x : S28)  : k28.M w base ok x [.string x.f0, .string x.f1] := ⟨[.string x.f0], [.string x.f1], rfl, rfl, rfl⟩
theorem k28_mkF (W : World) (ok : Nat → Prop) (x : S28) : Kd.FK k28 W ok x [.string x.f0, .string x.f1] := fun W2 _ => k28_mk W2 x
def rd_T28 (xs : List S28) (i : Int) : S28 := xs.getD i.toNat z28
theorem at_T28 {w : World} {A : Option Addr} {n : Nat} {xs : List S28} (h : Kd.C k28 w A n xs) (i : Int) (h0 : 0 ≤ i) (h1 : i < n) : ∃ ad , A = some ad ∧ w.cell? (ad.add (i.toNat * 2)) = some (.string (rd_T28 xs i).f0) ∧ w.cell? ⟨(ad.add (i.toNat * 2)).block, (ad.add (i.toNat * 2)).off + 1, none⟩ = some (.string (rd_T28 xs i).f1) := by
  obtain ⟨ad, c, e, _, hK, hc0⟩ := Kd.C_get h z28 i h0 h1
  have hc : ∀ j u, c[j]? = some u → w.cell? (ad.add (i.toNat * 2 + j)) = some u := hc0
  obtain rfl := k28_open hK
  exact ⟨ad, e, hc 0 _ rfl, by rw [← add_field _ _ 1 (by omega)]; exact hc 1 _ rfl⟩

def rd_L10 (xs : List (List S28)) (i : Int) : (List S28) := xs.getD i.toNat ([] : List S28)
theorem at_L10 {w : World} {A : Option Addr} {n : Nat} {xs : List (List S28)} (h : Kd.C (Kd.slice 28 k28) w A n xs) (i : Int) (h0 : 0 ≤ i) (h1 : i < n) : ∃ ad A0 c0, A = some ad ∧ w.cell? (ad.add i.toNat) = some (.slice A0 (rd_L10 xs i).length c0) ∧ (rd_L10 xs i).length ≤ c0 ∧ k28.C w A0 (rd_L10 xs i).length (rd_L10 xs i) := by
  obtain ⟨ad, c, e, _, hK, hc0⟩ := Kd.C_get h ([] : List S28) i h0 h1
  have hc : ∀ j u, c[j]? = some u → w.cell? (ad.add (i.toNat * 1 + j)) = some u := hc0
  obtain ⟨A0, c0, rfl, l0, g0⟩ := hK
  exact ⟨ad, A0, c0, e, by have hq := hc 0 _ rfl; rwa [Nat.mul_one, Nat.add_zero] at hq, l0, g0⟩

/-! #### struct type 27 -/
structure S27 where
  f0 : ByteArray
  f1 : ByteArray
def z27 : S27 := ⟨(⟨#[]⟩ : ByteArray), (⟨#[]⟩ : ByteArray)⟩
def k27 : Kd S27 := Kd.iso (Kd.pair Kd.string Kd.string) (fun x : S27 => (x.f0, x.f1))
theorem k27_heap : Kd.Heap k27 := Kd.heap_iso _ (Kd.heap_pair Kd.heap_string Kd.heap_string)
theorem k27_open {w : World} {x : S27} {cs : List Value} (h : k27.K w x cs) : cs = [.string x.f0, .string x.f1] := by
  obtain ⟨_, _, rfl, rfl, rfl⟩ := h
  exact rfl
theorem k27_openM {w : World} {base : Nat} {ok : Nat → Prop} {x : S27} {cs : List Value} (h : k27.M w base ok x cs) : cs = [.string x.f0, .string x.f1] := by
  obtain ⟨_, _, rfl, rfl, rfl⟩ := h
  exact rfl
theorem k27_mk (w : World) (x : S27)  : k27.K w x [.string x.f0, .string x.f1] := ⟨[.string x.f0], [.string x.f1], rfl, rfl, rfl⟩
theorem k27_mkM (w : World) (base : Nat) (ok : Nat → Prop) (x : S27)  : k27.M w base ok x [.string x.f0, .string x.f1] := ⟨[.string x.f0], [.string x.f1], rfl, rfl, rfl⟩
theorem k27_mkF (W : World) (ok : Nat → Prop) (x : S27) : Kd.FK k27 W ok x [.string x.f0, .string x.f1] := fun W2 _ => k27_mk W2 x
def rd_T27 (xs : List S27) (i : Int) : S27 := xs.getD i.toNat z27
theorem at_T27 {w : World} {A : Option Addr} {n : Nat} {xs : List S27} (h : Kd.C k27 w A n xs) (i : Int) (h0 : 0 ≤ i) (h1 : i < n) : ∃ ad , A = some ad ∧ w.cell? (ad.add (i.toNat * 2)) = some (.string (rd_T27 xs i).f0) ∧ w.cell? ⟨(ad.add (i.toNat * 2)).block, (ad.add (i.toNat * 2)).off + 1, none⟩ = some (.string (rd_T27 xs i).f1) := by
  obtain ⟨ad, c, e, _, hK, hc0⟩ := Kd.C_get h z27 i h0 h1
  have hc : ∀ j u, c[j]? = some u → w.cell? (ad.add (i.toNat * 2 + j)) = some u := hc0
  obtain rfl := k27_open hK
  exact ⟨ad, e, hc 0 _ rfl, by rw [← add_field _ _ 1 (by omega)]; exact hc 1 _ rfl⟩

/-! #### struct type 38 -/
structure S38 where
  f0 : Int
  f1 : ByteArray
  f2 : ByteArray
  f3 : (List S28)
  f4 : Bool
def z38 : S38 := ⟨(0 : Int), (⟨#[]⟩ : ByteArray), (⟨#[]⟩ : ByteArray), ([] : List S28), false⟩
def k38 : Kd S38 := Kd.iso (Kd.pair (Kd.int .i64) (Kd.pair Kd.string (Kd.pair Kd.string (Kd.pair (Kd.slice 28 k28) Kd.bool)))) (fun x : S38 => (x.f0, x.f1, x.f2, x.f3, x.f4))
theorem k38_heap : Kd.Heap k38 := Kd.heap_iso _ (Kd.heap_pair (Kd.heap_int .i64) (Kd.heap_pair Kd.heap_string (Kd.heap_pair Kd.heap_string (Kd.heap_pair (Kd.heap_slice 28 k28_heap) Kd.heap_bool))))
theorem k38_open {w : World} {x : S38} {cs : List Value} (h : k38.K w x cs) : ∃ A3 c3, cs = [.int .i64 x.f0, .string x.f1, .string x.f2, .slice A3 x.f3.length c3, .bool x.f4] ∧ x.f3.length ≤ c3 ∧ k28.C w A3 x.f3.length x.f3 := by
  obtain ⟨_, _, rfl, rfl, ⟨_, _, rfl, rfl, ⟨_, _, rfl, rfl, ⟨_, _, rfl, ⟨A3, c3, rfl, l3, g3⟩, rfl⟩⟩⟩⟩ := h
  exact ⟨A3, c3, rfl, l3, g3⟩
theorem k38_openM {w : World} {base : Nat} {ok : Nat → Prop} {x : S38} {cs : List Value} (h : k38.M w base ok x cs) : ∃ v3, cs = [.int .i64 x.f0, .string x.f1, .string x.f2, v3, .bool x.f4] ∧ k28.R 28 w base ok v3 x.f3 := by
  obtain ⟨_, _, rfl, rfl, ⟨_, _, rfl, rfl, ⟨_, _, rfl, rfl, ⟨_, _, rfl, ⟨v3, rfl, g3⟩, rfl⟩⟩⟩⟩ := h
  exact ⟨v3, rfl, g3⟩
theorem k38_mk (w : World) (x : S38) {A3 : Option Addr} {c3 : Nat} (l3 : x.f3.length ≤ c3) (g3 : k28.C w A3 x.f3.length x.f3) : k38.K w x [.int .i64 x.f0, .string x.f1, .string x.f2, .slice A3 x.f3.length c3, .bool x.f4] := ⟨[.int .i64 x.f0], [.string x.f1, .string x.f2, .slice A3 x.f3.length c3, .bool x.f4], rfl, rfl, ⟨[.string x.f1], [.string x.f2, .slice A3 x.f3.length c3, .bool x.f4], rfl, rfl, ⟨[.string x.f2], [.slice A3 x.f3.length c3, .bool x.f4], rfl, rfl, ⟨[.slice A3 x.f3.length c3], [.bool x.f4], rfl, ⟨A3, c3, rfl, l3, g3⟩, rfl⟩⟩⟩⟩
theorem k38_mkM (w : World) (base : Nat) (ok : Nat → Prop) (x : S38) {v3 : Value} (g3 : k28.R 28 w base ok v3 x.f3) : k38.M w base ok x [.int .i64 x.f0, .string x.f1, .string x.f2, v3, .bool x.f4] := ⟨[.int .i64 x.f0], [.string x.f1, .string x.f2, v3, .bool x.f4], rfl, rfl, ⟨[.string x.f1], [.string x.f2, v3, .bool x.f4], rfl, rfl, ⟨[.string x.f2], [v3, .bool x.f4], rfl, rfl, ⟨[v3], [.bool x.f4], rfl, ⟨v3, rfl, g3⟩, rfl⟩⟩⟩⟩
theorem k38_openF {W : World} {ok : Nat → Prop} {x : S38} {cs : List Value} (h : Kd.FK k38 W ok x cs) : ∃ A3 c3, cs = [.int .i64 x.f0, .string x.f1, .string x.f2, .slice A3 x.f3.length c3, .bool x.f4] ∧ x.f3.length ≤ c3 ∧ Kd.F k28 W ok A3 x.f3.length x.f3 := by
  obtain ⟨A3, c3, rfl, l3, _⟩ := k38_open (Kd.FK_now h)
  exact ⟨A3, c3, rfl, l3, (fun W' hW => by obtain ⟨A3_, c3_, he, l3_, g3_⟩ := k38_open (h W' hW); injection (Option.some.inj (show some (Value.slice A3 x.f3.length c3) = some (Value.slice A3_ x.f3.length c3_) from congrArg (fun l => l[3]?) he)) with ha_ _ _; rw [ha_]; exact g3_)⟩
theorem k38_mkF (W : World) (ok : Nat → Prop) (x : S38) {A3 : Option Addr} {c3 : Nat} (l3 : x.f3.length ≤ c3) (g3 : Kd.F k28 W ok A3 x.f3.length x.f3) : Kd.FK k38 W ok x [.int .i64 x.f0, .string x.f1, .string x.f2, .slice A3 x.f3.length c3, .bool x.f4] := fun W2 hW => k38_mk W2 x l3 (g3 W2 hW)
def rd_T38 (xs : List S38) (i : Int) : S38 := xs.getD i.toNat z38
theorem at_T38 {w : World} {A : Option Addr} {n : Nat} {xs : List S38} (h : Kd.C k38 w A n xs) (i : Int) (h0 : 0 ≤ i) (h1 : i < n) : ∃ ad A3 c3, A = some ad ∧ w.cell? (ad.add (i.toNat * 5)) = some (.int .i64 (rd_T38 xs i).f0) ∧ w.cell? ⟨(ad.add (i.toNat * 5)).block, (ad.add (i.toNat * 5)).off + 1, none⟩ = some (.string (rd_T38 xs i).f1) ∧ w.cell? ⟨(ad.add (i.toNat * 5)).block, (ad.add (i.toNat * 5)).off + 2, none⟩ = some (.string (rd_T38 xs i).f2) ∧ w.cell? ⟨(ad.add (i.toNat * 5)).block, (ad.add (i.toNat * 5)).off + 3, none⟩ = some (.slice A3 (rd_T38 xs i).f3.length c3) ∧ w.cell? ⟨(ad.add (i.toNat * 5)).block, (ad.add (i.toNat * 5)).off + 4, none⟩ = some (.bool (rd_T38 xs i).f4) ∧ (rd_T38 xs i).f3.length ≤ c3 ∧ k28.C w A3 (rd_T38 xs i).f3.length (rd_T38 xs i).f3 := by
  obtain ⟨ad, c, e, _, hK, hc0⟩ := Kd.C_get h z38 i h0 h1
  have hc : ∀ j u, c[j]? = some u → w.cell? (ad.add (i.toNat * 5 + j)) = some u := hc0
  obtain ⟨A3, c3, rfl, l3, g3⟩ := k38_open hK
  exact ⟨ad, A3, c3, e, hc 0 _ rfl, by rw [← add_field _ _ 1 (by omega)]; exact hc 1 _ rfl, by rw [← add_field _ _ 2 (by omega)]; exact hc 2 _ rfl, by rw [← add_field _ _ 3 (by omega)]; exact hc 3 _ rfl, by rw [← add_field _ _ 4 (by omega)]; exact hc 4 _ rfl, l3, g3⟩

def rd_L13 (xs : List (List S38)) (i : Int) : (List S38) := xs.getD i.toNat ([] : List S38)
theorem at_L13 {w : World} {A : Option Addr} {n : Nat} {xs : List (List S38)} (h : Kd.C (Kd.slice 38 k38) w A n xs) (i : Int) (h0 : 0 ≤ i) (h1 : i < n) : ∃ ad A0 c0, A = some ad ∧ w.cell? (ad.add i.toNat) = some (.slice A0 (rd_L13 xs i).length c0) ∧ (rd_L13 xs i).length ≤ c0 ∧ k38.C w A0 (rd_L13 xs i).length (rd_L13 xs i) := by
  obtain ⟨ad, c, e, _, hK, hc0⟩ := Kd.C_get h ([] : List S38) i h0 h1
  have hc : ∀ j u, c[j]? = some u → w.cell? (ad.add (i.toNat * 1 + j)) = some u := hc0
  obtain ⟨A0, c0, rfl, l0, g0⟩ := hK
  exact ⟨ad, A0, c0, e, by have hq := hc 0 _ rfl; rwa [Nat.mul_one, Nat.add_zero] at hq, l0, g0⟩

/-! #### struct type 37 -/
structure S37 where
  f0 : Int
  f1 : ByteArray
  f2 : ByteArray
  f3 : (List S28)
  f4 : Bool
def z37 : S37 := ⟨(0 : Int), (⟨#[]⟩ : ByteArray), (⟨#[]⟩ : ByteArray), ([] : List S28), false⟩
def k37 : Kd S37 := Kd.iso (Kd.pair (Kd.int .i64) (Kd.pair Kd.string (Kd.pair Kd.string (Kd.pair (Kd.slice 28 k28) Kd.bool)))) (fun x : S37 => (x.f0, x.f1, x.f2, x.f3, x.f4))
theorem k37_heap : Kd.Heap k37 := Kd.heap_iso _ (Kd.heap_pair (Kd.heap_int .i64) (Kd.heap_pair Kd.heap_string (Kd.heap_pair Kd.heap_string (Kd.heap_pair (Kd.heap_slice 28 k28_heap) Kd.heap_bool))))
theorem k37_open {w : World} {x : S37} {cs : List Value} (h : k37.K w x cs) : ∃ A3 c3, cs = [.int .i64 x.f0, .string x.f1, .string x.f2, .slice A3 x.f3.length c3, .bool x.f4] ∧ x.f3.length ≤ c3 ∧ k28.C w A3 x.f3.length x.f3 := by
  obtain ⟨_, _, rfl, rfl, ⟨_, _, rfl, rfl, ⟨_, _, rfl, rfl, ⟨_, _, rfl, ⟨A3, c3, rfl, l3, g3⟩, rfl⟩⟩⟩⟩ := h
  exact ⟨A3, c3, rfl, l3, g3⟩
theorem k37_openM {w : World} {base : Nat} {ok : Nat → Prop} {x : S37} {cs : List Value} (h : k37.M w base ok x cs) : ∃ v3, cs = [.int .i64 x.f0, .string x.f1, .string x.f2, v3, .bool x.f4] ∧ k28.R 28 w base ok v3 x.f3 := by
  obtain ⟨_, _, rfl, rfl, ⟨_, _, rfl, rfl, ⟨_, _, rfl, rfl, ⟨_, _, rfl, ⟨v3, rfl, g3⟩, rfl⟩⟩⟩⟩ := h
  exact ⟨v3, rfl, g3⟩
theorem k37_mk (w : World) (x : S37) {A3 : Option Addr} {c3 : Nat} (l3 : x.f3.length ≤ c3) (g3 : k28.C w A3 x.f3.length x.f3) : k37.K w x [.int .i64 x.f0, .string x.f1, .string x.f2, .slice A3 x.f3.length c3, .bool x.f4] := ⟨[.int .i64 x.f0], [.string x.f1, .string x.f2, .slice A3 x.f3.length c3, .bool x.f4], rfl, rfl, ⟨[.string x.f1], [.string x.f2, .slice A3 x.f3.length c3, .bool x.f4], rfl, rfl, ⟨[.string x.f2], [.slice A3 x.f3.length c3, .bool x.f4], rfl, rfl, ⟨[.slice A3 x.f3.length c3], [.bool x.f4], rfl, ⟨A3, c3, rfl, l3, g3⟩, rfl⟩⟩⟩⟩
theorem k37_mkM (w : World) (base : Nat) (ok : Nat → Prop) (x : S37) {v3 : Value} (g3 : k28.R 28 w base ok v3 x.f3) : k37.M w base ok x [.int .i64 x.f0, .string x.f1, .string x.f2, v3, .bool x.f4] := ⟨[.int .i64 x.f0], [.string x.f1, .string x.f2, v3, .bool x.f4], rfl, rfl, ⟨[.string x.f1], [.string x.f2, v3, .bool x.f4], rfl, rfl, ⟨[.string x.f2], [v3, .bool x.f4], rfl, rfl, ⟨[v3], [.bool x.f4], rfl, ⟨v3, rfl, g3⟩, rfl⟩⟩⟩⟩
theorem k37_openF {W : World} {ok : Nat → Prop} {x : S37} {cs : List Value} (h : Kd.FK k37 W ok x cs) : ∃ A3 c3, cs = [.int .i64 x.f0, .string x.f1, .string x.f2, .slice A3 x.f3.length c3, .bool x.f4] ∧ x.f3.length ≤ c3 ∧ Kd.F k28 W ok A3 x.f3.length x.f3 := by
  obtain ⟨A3, c3, rfl, l3, _⟩ := k37_open (Kd.FK_now h)
  exact ⟨A3, c3, rfl, l3, (fun W' hW => by obtain ⟨A3_, c3_, he, l3_, g3_⟩ := k37_open (h W' hW); injection (Option.some.inj (show some (Value.slice A3 x.f3.length c3) = some (Value.slice A3_ x.f3.length c3_) from congrArg (fun l => l[3]?) he)) with ha_ _ _; rw [ha_]; exact g3_)⟩
theorem k37_mkF (W : World) (ok : Nat → Prop) (x : S37) {A3 : Option Addr} {c3 : Nat} (l3 : x.f3.length ≤ c3) (g3 : Kd.F k28 W ok A3 x.f3.length x.f3) : Kd.FK k37 W ok x [.int .i64 x.f0, .string x.f1, .string x.f2, .slice A3 x.f3.length c3, .bool x.f4] := fun W2 hW => k37_mk W2 x l3 (g3 W2 hW)
def rd_T37 (xs : List S37) (i : Int) : S37 := xs.getD i.toNat z37
theorem at_T37 {w : World} {A : Option Addr} {n : Nat} {xs : List S37} (h : Kd.C k37 w A n xs) (i : Int) (h0 : 0 ≤ i) (h1 : i < n) : ∃ ad A3 c3, A = some ad ∧ w.cell? (ad.add (i.toNat * 5)) = some (.int .i64 (rd_T37 xs i).f0) ∧ w.cell? ⟨(ad.add (i.toNat * 5)).block, (ad.add (i.toNat * 5)).off + 1, none⟩ = some (.string (rd_T37 xs i).f1) ∧ w.cell? ⟨(ad.add (i.toNat * 5)).block, (ad.add (i.toNat * 5)).off + 2, none⟩ = some (.string (rd_T37 xs i).f2) ∧ w.cell? ⟨(ad.add (i.toNat * 5)).block, (ad.add (i.toNat * 5)).off + 3, none⟩ = some (.slice A3 (rd_T37 xs i).f3.length c3) ∧ w.cell? ⟨(ad.add (i.toNat * 5)).block, (ad.add (i.toNat * 5)).off + 4, none⟩ = some (.bool (rd_T37 xs i).f4) ∧ (rd_T37 xs i).f3.length ≤ c3 ∧ k28.C w A3 (rd_T37 xs i).f3.length (rd_T37 xs i).f3 := by
  obtain ⟨ad, c, e, _, hK, hc0⟩ := Kd.C_get h z37 i h0 h1
  have hc : ∀ j u, c[j]? = some u → w.cell? (ad.add (i.toNat * 5 + j)) = some u := hc0
  obtain ⟨A3, c3, rfl, l3, g3⟩ := k37_open hK
  exact ⟨ad, A3, c3, e, hc 0 _ rfl, by rw [← add_field _ _ 1 (by omega)]; exact hc 1 _ rfl, by rw [← add_field _ _ 2 (by omega)]; exact hc 2 _ rfl, by rw [← add_field _ _ 3 (by omega)]; exact hc 3 _ rfl, by rw [← add_field _ _ 4 (by omega)]; exact hc 4 _ rfl, l3, g3⟩

/-! #### struct type 45 -/
structure S45 where
  f0 : ByteArray
  f1 : Int
def z45 : S45 := ⟨(⟨#[]⟩ : ByteArray), (0 : Int)⟩
def k45 : Kd S45 := Kd.iso (Kd.pair Kd.string (Kd.int .i64)) (fun x : S45 => (x.f0, x.f1))
theorem k45_heap : Kd.Heap k45 := Kd.heap_iso _ (Kd.heap_pair Kd.heap_string (Kd.heap_int .i64))
theorem k45_open {w : World} {x : S45} {cs : List Value} (h : k45.K w x cs) : cs = [.string x.f0, .int .i64 x.f1] := by
  obtain ⟨_, _, rfl, rfl, rfl⟩ := h
  exact rfl
theorem k45_openM {w : World} {base : Nat} {ok : Nat → Prop} {x : S45} {cs : List Value} (h : k45.M w base ok x cs) : cs = [.string x.f0, .int .i64 x.f1] := by
  obtain ⟨_, _, rfl, rfl, rfl⟩ := h
  exact rfl
theorem k45_mk (w : World) (x : S45)  : k45.K w x [.string x.f0, .int .i64 x.f1] := ⟨[.string x.f0], [.int .i64 x.f1], rfl, rfl, rfl⟩
theorem k45_mkM (w : World) (base : Nat) (ok : Nat → Prop) (x : S45)  : k45.M w base ok x [.string x.f0, .int .i64 x.f1] := ⟨[.string x.f0], [.int .i64 x.f1], rfl, rfl, rfl⟩
theorem k45_mkF (W : World) (ok : Nat → Prop) (x : S45) : Kd.FK k45 W ok x [.string x.f0, .int .i64 x.f1] := fun W2 _ => k45_mk W2 x
def rd_T45 (xs : List S45) (i : Int) : S45 := xs.getD i.toNat z45
theorem at_T45 {w : World} {A : Option Addr} {n : Nat} {xs : List S45} (h : Kd.C k45 w A n xs) (i : Int) (h0 : 0 ≤ i) (h1 : i < n) : ∃ ad , A = some ad ∧ w.cell? (ad.add (i.toNat * 2)) = some (.string (rd_T45 xs i).f0) ∧ w.cell? ⟨(ad.add (i.toNat * 2)).block, (ad.add (i.toNat * 2)).off + 1, none⟩ = some (.int .i64 (rd_T45 xs i).f1) := by
  obtain ⟨ad, c, e, _, hK, hc0⟩ := Kd.C_get h z45 i h0 h1
  have hc : ∀ j u, c[j]? = some u → w.cell? (ad.add (i.toNat * 2 + j)) = some u := hc0
  obtain rfl := k45_open hK
  exact ⟨ad, e, hc 0 _ rfl, by rw [← add_field _ _ 1 (by omega)]; exact hc 1 _ rfl⟩

/-! #### struct type 46 -/
structure S46 where
  f0 : ByteArray
  f1 : Int
def z46 : S46 := ⟨(⟨#[]⟩ : ByteArray), (0 : Int)⟩
def k46 : Kd S46 := Kd.iso (Kd.pair Kd.string (Kd.int .i64)) (fun x : S46 => (x.f0, x.f1))
theorem k46_heap : Kd.Heap k46 := Kd.heap_iso _ (Kd.heap_pair Kd.heap_string (Kd.heap_int .i64))
theorem k46_open {w : World} {x : S46} {cs : List Value} (h : k46.K w x cs) : cs = [.string x.f0, .int .i64 x.f1] := by
  obtain ⟨_, _, rfl, rfl, rfl⟩ := h
  exact rfl
theorem k46_openM {w : World} {base : Nat} {ok : Nat → Prop} {x : S46} {cs : List Value} (h : k46.M w base ok x cs) : cs = [.string x.f0, .int .i64 x.f1] := by
  obtain ⟨_, _, rfl, rfl, rfl⟩ := h
  exact rfl
theorem k46_mk (w : World) (x : S46)  : k46.K w x [.string x.f0, .int .i64 x.f1] := ⟨[.string x.f0], [.int .i64 x.f1], rfl, rfl, rfl⟩
theorem k46_mkM (w : World) (base : Nat) (ok : Nat → Prop) (x : S46)  : k46.M w base ok x [.string x.f0, .int .i64 x.f1] := ⟨[.string x.f0], [.int .i64 x.f1], rfl, rfl, rfl⟩
theorem k46_mkF (W : World) (ok : Nat → Prop) (x : S46) : Kd.FK k46 W ok x [.string x.f0, .int .i64 x.f1] := fun W2 _ => k46_mk W2 x
def rd_T46 (xs : List S46) (i : Int) : S46 := xs.getD i.toNat z46
theorem at_T46 {w : World} {A : Option Addr} {n : Nat} {xs : List S46} (h : Kd.C k46 w A n xs) (i : Int) (h0 : 0 ≤ i) (h1 : i < n) : ∃ ad , A = some ad ∧ w.cell? (ad.add (i.toNat * 2)) = some (.string (rd_T46 xs i).f0) ∧ w.cell? ⟨(ad.add (i.toNat * 2)).block, (ad.add (i.toNat * 2)).off + 1, none⟩ = some (.int .i64 (rd_T46 xs i).f1) := by
  obtain ⟨ad, c, e, _, hK, hc0⟩ := Kd.C_get h z46 i h0 h1
  have hc : ∀ j u, c[j]? = some u → w.cell? (ad.add (i.toNat * 2 + j)) = some u := hc0
  obtain rfl := k46_open hK
  exact ⟨ad, e, hc 0 _ rfl, by rw [← add_field _ _ 1 (by omega)]; exact hc 1 _ rfl⟩

def rd_L17 (xs : List (List Int)) (i : Int) : (List Int) := xs.getD i.toNat ([] : List Int)
theorem at_L17 {w : World} {A : Option Addr} {n : Nat} {xs : List (List Int)} (h : Kd.C (Kd.slice 5 (Kd.int .u8)) w A n xs) (i : Int) (h0 : 0 ≤ i) (h1 : i < n) : ∃ ad A0 c0, A = some ad ∧ w.cell? (ad.add i.toNat) = some (.slice A0 (rd_L17 xs i).length c0) ∧ (rd_L17 xs i).length ≤ c0 ∧ (Kd.int .u8).C w A0 (rd_L17 xs i).length (rd_L17 xs i) := by
  obtain ⟨ad, c, e, _, hK, hc0⟩ := Kd.C_get h ([] : List Int) i h0 h1
  have hc : ∀ j u, c[j]? = some u → w.cell? (ad.add (i.toNat * 1 + j)) = some u := hc0
  obtain ⟨A0, c0, rfl, l0, g0⟩ := hK
  exact ⟨ad, A0, c0, e, by have hq := hc 0 _ rfl; rwa [Nat.mul_one, Nat.add_zero] at hq, l0, g0⟩

def rd_L18 (xs : List (List ByteArray)) (i : Int) : (List ByteArray) := xs.getD i.toNat ([] : List ByteArray)
theorem at_L18 {w : World} {A : Option Addr} {n : Nat} {xs : List (List ByteArray)} (h : Kd.C (Kd.slice 9 Kd.string) w A n xs) (i : Int) (h0 : 0 ≤ i) (h1 : i < n) : ∃ ad A0 c0, A = some ad ∧ w.cell? (ad.add i.toNat) = some (.slice A0 (rd_L18 xs i).length c0) ∧ (rd_L18 xs i).length ≤ c0 ∧ Kd.string.C w A0 (rd_L18 xs i).length (rd_L18 xs i) := by
  obtain ⟨ad, c, e, _, hK, hc0⟩ := Kd.C_get h ([] : List ByteArray) i h0 h1
  have hc : ∀ j u, c[j]? = some u → w.cell? (ad.add (i.toNat * 1 + j)) = some u := hc0
  obtain ⟨A0, c0, rfl, l0, g0⟩ := hK
  exact ⟨ad, A0, c0, e, by have hq := hc 0 _ rfl; rwa [Nat.mul_one, Nat.add_zero] at hq, l0, g0⟩

/-! #### struct type 109 -/
structure S109 where
  f0 : ByteArray
  f1 : Int
def z109 : S109 := ⟨(⟨#[]⟩ : ByteArray), (0 : Int)⟩
def k109 : Kd S109 := Kd.iso (Kd.pair Kd.string (Kd.int .i64)) (fun x : S109 => (x.f0, x.f1))
theorem k109_heap : Kd.Heap k109 := Kd.heap_iso _ (Kd.heap_pair Kd.heap_string (Kd.heap_int .i64))
theorem k109_open {w : World} {x : S109} {cs : List Value} (h : k109.K w x cs) : cs = [.string x.f0, .int .i64 x.f1] := by
  obtain ⟨_, _, rfl, rfl, rfl⟩ := h
  exact rfl
theorem k109_openM {w : World} {base : Nat} {ok : Nat → Prop} {x : S109} {cs : List Value} (h : k109.M w base ok x cs) : cs = [.string x.f0, .int .i64 x.f1] := by
  obtain ⟨_, _, rfl, rfl, rfl⟩ := h
  exact rfl
theorem k109_mk (w : World) (x : S109)  : k109.K w x [.string x.f0, .int .i64 x.f1] := ⟨[.string x.f0], [.int .i64 x.f1], rfl, rfl, rfl⟩
theorem k109_mkM (w : World) (base : Nat) (ok : Nat → Prop) (x : S109)  : k109.M w base ok x [.string x.f0, .int .i64 x.f1] := ⟨[.string x.f0], [.int .i64 x.f1], rfl, rfl, rfl⟩
theorem k109_mkF (W : World) (ok : Nat → Prop) (x : S109) : Kd.FK k109 W ok x [.string x.f0, .int .i64 x.f1] := fun W2 _ => k109_mk W2 x
def rd_T109 (xs : List S109) (i : Int) : S109 := xs.getD i.toNat z109
theorem at_T109 {w : World} {A : Option Addr} {n : Nat} {xs : List S109} (h : Kd.C k109 w A n xs) (i : Int) (h0 : 0 ≤ i) (h1 : i < n) : ∃ ad , A = some ad ∧ w.cell? (ad.add (i.toNat * 2)) = some (.string (rd_T109 xs i).f0) ∧ w.cell? ⟨(ad.add (i.toNat * 2)).block, (ad.add (i.toNat * 2)).off + 1, none⟩ = some (.int .i64 (rd_T109 xs i).f1) := by
  obtain ⟨ad, c, e, _, hK, hc0⟩ := Kd.C_get h z109 i h0 h1
  have hc : ∀ j u, c[j]? = some u → w.cell? (ad.add (i.toNat * 2 + j)) = some u := hc0
  obtain rfl := k109_open hK
  exact ⟨ad, e, hc 0 _ rfl, by rw [← add_field _ _ 1 (by omega)]; exact hc 1 _ rfl⟩

/-! #### struct type 110 -/
structure S110 where
  f0 : ByteArray
  f1 : Int
def z110 : S110 := ⟨(⟨#[]⟩ : ByteArray), (0 : Int)⟩
def k110 : Kd S110 := Kd.iso (Kd.pair Kd.string (Kd.int .i64)) (fun x : S110 => (x.f0, x.f1))
theorem k110_heap : Kd.Heap k110 := Kd.heap_iso _ (Kd.heap_pair Kd.heap_string (Kd.heap_int .i64))
theorem k110_open {w : World} {x : S110} {cs : List Value} (h : k110.K w x cs) : cs = [.string x.f0, .int .i64 x.f1] := by
  obtain ⟨_, _, rfl, rfl, rfl⟩ := h
  exact rfl
theorem k110_openM {w : World} {base : Nat} {ok : Nat → Prop} {x : S110} {cs : List Value} (h : k110.M w base ok x cs) : cs = [.string x.f0, .int .i64 x.f1] := by
  obtain ⟨_, _, rfl, rfl, rfl⟩ := h
  exact rfl
theorem k110_mk (w : World) (x : S110)  : k110.K w x [.string x.f0, .int .i64 x.f1] := ⟨[.string x.f0], [.int .i64 x.f1], rfl, rfl, rfl⟩
theorem k110_mkM (w : World) (base : Nat) (ok : Nat → Prop) (x : S110)  : k110.M w base ok x [.string x.f0, .int .i64 x.f1] := ⟨[.string x.f0], [.int .i64 x.f1], rfl, rfl, rfl⟩
theorem k110_mkF (W : World) (ok : Nat → Prop) (x : S110) : Kd.FK k110 W ok x [.string x.f0, .int .i64 x.f1] := fun W2 _ => k110_mk W2 x
def rd_T110 (xs : List S110) (i : Int) : S110 := xs.getD i.toNat z110
theorem at_T110 {w : World} {A : Option Addr} {n : Nat} {xs : List S110} (h : Kd.C k110 w A n xs) (i : Int) (h0 : 0 ≤ i) (h1 : i < n) : ∃ ad , A = some ad ∧ w.cell? (ad.add (i.toNat * 2)) = some (.string (rd_T110 xs i).f0) ∧ w.cell? ⟨(ad.add (i.toNat * 2)).block, (ad.add (i.toNat * 2)).off + 1, none⟩ = some (.int .i64 (rd_T110 xs i).f1) := by
  obtain ⟨ad, c, e, _, hK, hc0⟩ := Kd.C_get h z110 i h0 h1
  have hc : ∀ j u, c[j]? = some u → w.cell? (ad.add (i.toNat * 2 + j)) = some u := hc0
  obtain rfl := k110_open hK
  exact ⟨ad, e, hc 0 _ rfl, by rw [← add_field _ _ 1 (by omega)]; exact hc 1 _ rfl⟩

/-! #### struct type 126 -/
structure S126 where
  f0 : Int
  f1 : Int
def z126 : S126 := ⟨(0 : Int), (0 : Int)⟩
def k126 : Kd S126 := Kd.iso (Kd.pair (Kd.int .i32) (Kd.int .u32)) (fun x : S126 => (x.f0, x.f1))
theorem k126_heap : Kd.Heap k126 := Kd.heap_iso _ (Kd.heap_pair (Kd.heap_int .i32) (Kd.heap_int .u32))
theorem k126_open {w : World} {x : S126} {cs : List Value} (h : k126.K w x cs) : cs = [.int .i32 x.f0, .int .u32 x.f1] := by
  obtain ⟨_, _, rfl, rfl, rfl⟩ := h
  exact rfl
theorem k126_openM {w : World} {base : Nat} {ok : Nat → Prop} {x : S126} {cs : List Value} (h : k126.M w base ok x cs) : cs = [.int .i32 x.f0, .int .u32 x.f1] := by
  obtain ⟨_, _, rfl, rfl, rfl⟩ := h
  exact rfl
theorem k126_mk (w : World) (x : S126)  : k126.K w x [.int .i32 x.f0, .int .u32 x.f1] := ⟨[.int .i32 x.f0], [.int .u32 x.f1], rfl, rfl, rfl⟩
theorem k126_mkM (w : World) (base : Nat) (ok : Nat → Prop) (x : S126)  : k126.M w base ok x [.int .i32 x.f0, .int .u32 x.f1] := ⟨[.int .i32 x.f0], [.int .u32 x.f1], rfl, rfl, rfl⟩
theorem k126_mkF (W : World) (ok : Nat → Prop) (x : S126) : Kd.FK k126 W ok x [.int .i32 x.f0, .int .u32 x.f1] := fun W2 _ => k126_mk W2 x
def rd_T126 (xs : List S126) (i : Int) : S126 := xs.getD i.toNat z126
theorem at_T126 {w : World} {A : Option Addr} {n : Nat} {xs : List S126} (h : Kd.C k126 w A n xs) (i : Int) (h0 : 0 ≤ i) (h1 : i < n) : ∃ ad , A = some ad ∧ w.cell? (ad.add (i.toNat * 2)) = some (.int .i32 (rd_T126 xs i).f0) ∧ w.cell? ⟨(ad.add (i.toNat * 2)).block, (ad.add (i.toNat * 2)).off + 1, none⟩ = some (.int .u32 (rd_T126 xs i).f1) := by
  obtain ⟨ad, c, e, _, hK, hc0⟩ := Kd.C_get h z126 i h0 h1
  have hc : ∀ j u, c[j]? = some u → w.cell? (ad.add (i.toNat * 2 + j)) = some u := hc0
  obtain rfl := k126_open hK
  exact ⟨ad, e, hc 0 _ rfl, by rw [← add_field _ _ 1 (by omega)]; exact hc 1 _ rfl⟩

/-! #### struct type 127 -/
structure S127 where
  f0 : Int
  f1 : Int
def z127 : S127 := ⟨(0 : Int), (0 : Int)⟩
def k127 : Kd S127 := Kd.iso (Kd.pair (Kd.int .i32) (Kd.int .u32)) (fun x : S127 => (x.f0, x.f1))
theorem k127_heap : Kd.Heap k127 := Kd.heap_iso _ (Kd.heap_pair (Kd.heap_int .i32) (Kd.heap_int .u32))
theorem k127_open {w : World} {x : S127} {cs : List Value} (h : k127.K w x cs) : cs = [.int .i32 x.f0, .int .u32 x.f1] := by
  obtain ⟨_, _, rfl, rfl, rfl⟩ := h
  exact rfl
theorem k127_openM {w : World} {base : Nat} {ok : Nat → Prop} {x : S127} {cs : List Value} (h : k127.M w base ok x cs) : cs = [.int .i32 x.f0, .int .u32 x.f1] := by
  obtain ⟨_, _, rfl, rfl, rfl⟩ := h
  exact rfl
theorem k127_mk (w : World) (x : S127)  : k127.K w x [.int .i32 x.f0, .int .u32 x.f1] := ⟨[.int .i32 x.f0], [.int .u32 x.f1], rfl, rfl, rfl⟩
theorem k127_mkM (w : World) (base : Nat) (ok : Nat → Prop) (x : S127)  : k127.M w base ok x [.int .i32 x.f0, .int .u32 x.f1] := ⟨[.int .i32 x.f0], [.int .u32 x.f1], rfl, rfl, rfl⟩
theorem k127_mkF (W : World) (ok : Nat → Prop) (x : S127) : Kd.FK k127 W ok x [.int .i32 x.f0, .int .u32 x.f1] := fun W2 _ => k127_mk W2 x
def rd_T127 (xs : List S127) (i : Int) : S127 := xs.getD i.toNat z127
theorem at_T127 {w : World} {A : Option Addr} {n : Nat} {xs : List S127} (h : Kd.C k127 w A n xs) (i : Int) (h0 : 0 ≤ i) (h1 : i < n) : ∃ ad , A = some ad ∧ w.cell? (ad.add (i.toNat * 2)) = some (.int .i32 (rd_T127 xs i).f0) ∧ w.cell? ⟨(ad.add (i.toNat * 2)).block, (ad.add (i.toNat * 2)).off + 1, none⟩ = some (.int .u32 (rd_T127 xs i).f1) := by
  obtain ⟨ad, c, e, _, hK, hc0⟩ := Kd.C_get h z127 i h0 h1
  have hc : ∀ j u, c[j]? = some u → w.cell? (ad.add (i.toNat * 2 + j)) = some u := hc0
  obtain rfl := k127_open hK
  exact ⟨ad, e, hc 0 _ rfl, by rw [← add_field _ _ 1 (by omega)]; exact hc 1 _ rfl⟩

/-! #### struct type 149 -/
structure S149 where
  f0 : Int
  f1 : Int
def z149 : S149 := ⟨(0 : Int), (0 : Int)⟩
def k149 : Kd S149 := Kd.iso (Kd.pair (Kd.int .u8) (Kd.int .u8)) (fun x : S149 => (x.f0, x.f1))
theorem k149_heap : Kd.Heap k149 := Kd.heap_iso _ (Kd.heap_pair (Kd.heap_int .u8) (Kd.heap_int .u8))
theorem k149_open {w : World} {x : S149} {cs : List Value} (h : k149.K w x cs) : cs = [.int .u8 x.f0, .int .u8 x.f1] := by
  obtain ⟨_, _, rfl, rfl, rfl⟩ := h
  exact rfl
theorem k149_openM {w : World} {base : Nat} {ok : Nat → Prop} {x : S149} {cs : List Value} (h : k149.M w base ok x cs) : cs = [.int .u8 x.f0, .int .u8 x.f1] := by
  obtain ⟨_, _, rfl, rfl, rfl⟩ := h
  exact rfl
theorem k149_mk (w : World) (x : S149)  : k149.K w x [.int .u8 x.f0, .int .u8 x.f1] := ⟨[.int .u8 x.f0], [.int .u8 x.f1], rfl, rfl, rfl⟩
theorem k149_mkM (w : World) (base : Nat) (ok : Nat → Prop) (x : S149)  : k149.M w base ok x [.int .u8 x.f0, .int .u8 x.f1] := ⟨[.int .u8 x.f0], [.int .u8 x.f1], rfl, rfl, rfl⟩
theorem k149_mkF (W : World) (ok : Nat → Prop) (x : S149) : Kd.FK k149 W ok x [.int .u8 x.f0, .int .u8 x.f1] := fun W2 _ => k149_mk W2 x
def rd_T149 (xs : List S149) (i : Int) : S149 := xs.getD i.toNat z149
theorem at_T149 {w : World} {A : Option Addr} {n : Nat} {xs : List S149} (h : Kd.C k149 w A n xs) (i : Int) (h0 : 0 ≤ i) (h1 : i < n) : ∃ ad , A = some ad ∧ w.cell? (ad.add (i.toNat * 2)) = some (.int .u8 (rd_T149 xs i).f0) ∧ w.cell? ⟨(ad.add (i.toNat * 2)).block, (ad.add (i.toNat * 2)).off + 1, none⟩ = some (.int .u8 (rd_T149 xs i).f1) := by
  obtain ⟨ad, c, e, _, hK, hc0⟩ := Kd.C_get h z149 i h0 h1
  have hc : ∀ j u, c[j]? = some u → w.cell? (ad.add (i.toNat * 2 + j)) = some u := hc0
  obtain rfl := k149_open hK
  exact ⟨ad, e, hc 0 _ rfl, by rw [← add_field _ _ 1 (by omega)]; exact hc 1 _ rfl⟩

/-! #### struct type 150 -/
structure S150 where
  f0 : Int
  f1 : Int
def z150 : S150 := ⟨(0 : Int), (0 : Int)⟩
def k150 : Kd S150 := Kd.iso (Kd.pair (Kd.int .u8) (Kd.int .u8)) (fun x : S150 => (x.f0, x.f1))
theorem k150_heap : Kd.Heap k150 := Kd.heap_iso _ (Kd.heap_pair (Kd.heap_int .u8) (Kd.heap_int .u8))
theorem k150_open {w : World} {x : S150} {cs : List Value} (h : k150.K w x cs) : cs = [.int .u8 x.f0, .int .u8 x.f1] := by
  obtain ⟨_, _, rfl, rfl, rfl⟩ := h
  exact rfl
theorem k150_openM {w : World} {base : Nat} {ok : Nat → Prop} {x : S150} {cs : List Value} (h : k150.M w base ok x cs) : cs = [.int .u8 x.f0, .int .u8 x.f1] := by
  obtain ⟨_, _, rfl, rfl, rfl⟩ := h
  exact rfl
theorem k150_mk (w : World) (x : S150)  : k150.K w x [.int .u8 x.f0, .int .u8 x.f1] := ⟨[.int .u8 x.f0], [.int .u8 x.f1], rfl, rfl, rfl⟩
theorem k150_mkM (w : World) (base : Nat) (ok : Nat → Prop) (x : S150)  : k150.M w base ok x [.int .u8 x.f0, .int .u8 x.f1] := ⟨[.int .u8 x.f0], [.int .u8 x.f1], rfl, rfl, rfl⟩
theorem k150_mkF (W : World) (ok : Nat → Prop) (x : S150) : Kd.FK k150 W ok x [.int .u8 x.f0, .int .u8 x.f1] := fun W2 _ => k150_mk W2 x
def rd_T150 (xs : List S150) (i : Int) : S150 := xs.getD i.toNat z150
theorem at_T150 {w : World} {A : Option Addr} {n : Nat} {xs : List S150} (h : Kd.C k150 w A n xs) (i : Int) (h0 : 0 ≤ i) (h1 : i < n) : ∃ ad , A = some ad ∧ w.cell? (ad.add (i.toNat * 2)) = some (.int .u8 (rd_T150 xs i).f0) ∧ w.cell? ⟨(ad.add (i.toNat * 2)).block, (ad.add (i.toNat * 2)).off + 1, none⟩ = some (.int .u8 (rd_T150 xs i).f1) := by
  obtain ⟨ad, c, e, _, hK, hc0⟩ := Kd.C_get h z150 i h0 h1
  have hc : ∀ j u, c[j]? = some u → w.cell? (ad.add (i.toNat * 2 + j)) = some u := hc0
  obtain rfl := k150_open hK
  exact ⟨ad, e, hc 0 _ rfl, by rw [← add_field _ _ 1 (by omega)]; exact hc 1 _ rfl⟩

/-! #### struct type 195 -/
structure S195 where
  f0 : ByteArray
def z195 : S195 := ⟨(⟨#[]⟩ : ByteArray)⟩
def k195 : Kd S195 := Kd.iso Kd.string (fun x : S195 => x.f0)
theorem k195_heap : Kd.Heap k195 := Kd.heap_iso _ Kd.heap_string
theorem k195_open {w : World} {x : S195} {cs : List Value} (h : k195.K w x cs) : cs = [.string x.f0] := by
  obtain rfl := h
  exact rfl
theorem k195_openM {w : World} {base : Nat} {ok : Nat → Prop} {x : S195} {cs : List Value} (h : k195.M w base ok x cs) : cs = [.string x.f0] := by
  obtain rfl := h
  exact rfl
theorem k195_mk (w : World) (x : S195)  : k195.K w x [.string x.f0] := rfl
theorem k195_mkM (w : World) (base : Nat) (ok : Nat → Prop) (x : S195)  : k195.M w base ok x [.string x.f0] := rfl
theorem k195_mkF (W : World) (ok : Nat → Prop) (x : S195) : Kd.FK k195 W ok x [.string x.f0] := fun W2 _ => k195_mk W2 x
def rd_T195 (xs : List S195) (i : Int) : S195 := xs.getD i.toNat z195
theorem at_T195 {w : World} {A : Option Addr} {n : Nat} {xs : List S195} (h : Kd.C k195 w A n xs) (i : Int) (h0 : 0 ≤ i) (h1 : i < n) : ∃ ad , A = some ad ∧ w.cell? (ad.add i.toNat) = some (.string (rd_T195 xs i).f0) := by
  obtain ⟨ad, c, e, _, hK, hc0⟩ := Kd.C_get h z195 i h0 h1
  have hc : ∀ j u, c[j]? = some u → w.cell? (ad.add (i.toNat * 1 + j)) = some u := hc0
  obtain rfl := k195_open hK
  exact ⟨ad, e, by have hq := hc 0 _ rfl; rwa [Nat.mul_one, Nat.add_zero] at hq⟩

/-! #### struct type 196 -/
structure S196 where
  f0 : ByteArray
def z196 : S196 := ⟨(⟨#[]⟩ : ByteArray)⟩
def k196 : Kd S196 := Kd.iso Kd.string (fun x : S196 => x.f0)
theorem k196_heap : Kd.Heap k196 := Kd.heap_iso _ Kd.heap_string
theorem k196_open {w : World} {x : S196} {cs : List Value} (h : k196.K w x cs) : cs = [.string x.f0] := by
  obtain rfl := h
  exact rfl
theorem k196_openM {w : World} {base : Nat} {ok : Nat → Prop} {x : S196} {cs : List Value} (h : k196.M w base ok x cs) : cs = [.string x.f0] := by
  obtain rfl := h
  exact rfl
theorem k196_mk (w : World) (x : S196)  : k196.K w x [.string x.f0] := rfl
theorem k196_mkM (w : World) (base : Nat) (ok : Nat → Prop) (x : S196)  : k196.M w base ok x [.string x.f0] := rfl
theorem k196_mkF (W : World) (ok : Nat → Prop) (x : S196) : Kd.FK k196 W ok x [.string x.f0] := fun W2 _ => k196_mk W2 x
def rd_T196 (xs : List S196) (i : Int) : S196 := xs.getD i.toNat z196
theorem at_T196 {w : World} {A : Option Addr} {n : Nat} {xs : List S196} (h : Kd.C k196 w A n xs) (i : Int) (h0 : 0 ≤ i) (h1 : i < n) : ∃ ad , A = some ad ∧ w.cell? (ad.add i.toNat) = some (.string (rd_T196 xs i).f0) := by
  obtain ⟨ad, c, e, _, hK, hc0⟩ := Kd.C_get h z196 i h0 h1
  have hc : ∀ j u, c[j]? = some u → w.cell? (ad.add (i.toNat * 1 + j)) = some u := hc0
  obtain rfl := k196_open hK
  exact ⟨ad, e, by have hq := hc 0 _ rfl; rwa [Nat.mul_one, Nat.add_zero] at hq⟩

def rd_L29 (xs : List (List Int)) (i : Int) : (List Int) := xs.getD i.toNat ([] : List Int)
theorem at_L29 {w : World} {A : Option Addr} {n : Nat} {xs : List (List Int)} (h : Kd.C (Kd.slice 3 (Kd.int .i64)) w A n xs) (i : Int) (h0 : 0 ≤ i) (h1 : i < n) : ∃ ad A0 c0, A = some ad ∧ w.cell? (ad.add i.toNat) = some (.slice A0 (rd_L29 xs i).length c0) ∧ (rd_L29 xs i).length ≤ c0 ∧ (Kd.int .i64).C w A0 (rd_L29 xs i).length (rd_L29 xs i) := by
  obtain ⟨ad, c, e, _, hK, hc0⟩ := Kd.C_get h ([] : List Int) i h0 h1
  have hc : ∀ j u, c[j]? = some u → w.cell? (ad.add (i.toNat * 1 + j)) = some u := hc0
  obtain ⟨A0, c0, rfl, l0, g0⟩ := hK
  exact ⟨ad, A0, c0, e, by have hq := hc 0 _ rfl; rwa [Nat.mul_one, Nat.add_zero] at hq, l0, g0⟩

end Go.Proofs.YtdheknlnhfegnaaGreatDoor.K0
