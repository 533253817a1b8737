-- Written by a program of this session over the kit's printer: not by hand.
import Derived.Test.YtajfpegacbohdaaDoorProg
import Derived.Below
import Derived.Deep.Draws
import Derived.Deep.AppendLies
import Derived.Maps.AppendAt
import Derived.OwnWalk
import Derived.Laws.BytesArg
import Derived.Laws.MakeOwn
import Derived.Laws.OwnMore
import Derived.Deep.OwnRows
import Derived.Tactics
import Derived.Lib.ConvBytes
import Derived.Laws.Slices
import Derived.WalkKit
import Derived.KernelRfl
import Derived.RowKit3
import Derived.Deep.LoopGhost
import Derived.Deep.QuietTactic
import Derived.BigQuiet
import Derived.WideLaws
import Derived.Deep.DeepCutAuto
import Derived.Deep.CutBlock
import Derived.Deep.RegionHeld3
import Derived.Laws.Rows
import Derived.Lib.AppendStr
import Derived.ArgAppend
import Derived.Laws.IdiomCopy
import Derived.OrdersHeld
import Derived.Laws.BitsLemmas
import Derived.RowKit
import Derived.Test.YtajfpegacbohdaaDoorWWords
import Derived.Test.YtajfpegacbohdaaDoorWLast
import Derived.Test.YtajfpegacbohdaaDoorWTab
import Derived.Test.YtajfpegacbohdaaDoorWFour
import Derived.Test.YtajfpegacbohdaaDoorWQPut
import Derived.Test.YtajfpegacbohdaaDoorWApart
import Derived.Test.YtajfpegacbohdaaDoorWArr
import Derived.Test.YtajfpegacbohdaaDoorWZeros
import Derived.Test.YtajfpegacbohdaaDoorWFoot
import Derived.Test.YtajfpegacbohdaaDoorWKept
import Derived.Test.YtajfpegacbohdaaDoorWShare
import Derived.Test.YtajfpegacbohdaaDoorWN
import Derived.Test.YtajfpegacbohdaaDoorWFootNe
import Derived.Test.YtajfpegacbohdaaDoorWAt
import Derived.Test.YtajfpegacbohdaaDoorWEqStruct
import Derived.Test.YtajfpegacbohdaaDoorWRepsOne
import Derived.Test.YtajfpegacbohdaaDoorWInv
import Derived.Test.YtajfpegacbohdaaDoorWInvWords
import Derived.Test.YtajfpegacbohdaaDoorWGuard
import Derived.Test.YtajfpegacbohdaaDoorWNEv
import Derived.Test.YtajfpegacbohdaaDoorWMore
namespace Go.Proofs.YtajfpegacbohdaaDoor.K0
open Go.RowKit Go.Proofs.YtajfpegacbohdaaDoorW.PrintWords Go.Proofs.YtajfpegacbohdaaDoorW.PrintLast Go.Proofs.YtajfpegacbohdaaDoorW.PrintMore
attribute [local go_sem] max2_int min2_int max_two min_two max_three min_three max_four min_four   -- for this text's walks alone
set_option linter.unusedVariables false
set_option linter.unusedSimpArgs false

/-! #### struct type 7 -/
structure S7 where
  f0 : Int
  f1 : Int
  f2 : Bool
  f3 : Int
def z7 : S7 := ⟨(0 : Int), (0 : Int), false, (0 : Int)⟩
def k7 : Kd S7 := Kd.iso (Kd.pair (Kd.int .i64) (Kd.pair (Kd.int .i64) (Kd.pair Kd.bool (Kd.int .u8)))) (fun x : S7 => (x.f0, x.f1, x.f2, x.f3))
theorem k7_heap : Kd.Heap k7 := Kd.heap_iso _ (Kd.heap_pair (Kd.heap_int .i64) (Kd.heap_pair (Kd.heap_int .i64) (Kd.heap_pair Kd.heap_bool (Kd.heap_int .u8))))
theorem k7_open {w : World} {x : S7} {cs : List Value} (h : k7.K w x cs) : cs = [.int .i64 x.f0, .int .i64 x.f1, .bool x.f2, .int .u8 x.f3] := by
  obtain ⟨_, _, rfl, rfl, ⟨_, _, rfl, rfl, ⟨_, _, rfl, rfl, rfl⟩⟩⟩ := h
  exact rfl
theorem k7_openM {w : World} {base : Nat} {ok : Nat → Prop} {x : S7} {cs : List Value} (h : k7.M w base ok x cs) : cs = [.int .i64 x.f0, .int .i64 x.f1, .bool x.f2, .int .u8 x.f3] := by
  obtain ⟨_, _, rfl, rfl, ⟨_, _, rfl, rfl, ⟨_, _, rfl, rfl, rfl⟩⟩⟩ := h
  exact rfl
theorem k7_mk (w : World) (x : S7)  : k7.K w x [.int .i64 x.f0, .int .i64 x.f1, .bool x.f2, .int .u8 x.f3] := ⟨[.int .i64 x.f0], [.int .i64 x.f1, .bool x.f2, .int .u8 x.f3], rfl, rfl, ⟨[.int .i64 x.f1], [.bool x.f2, .int .u8 x.f3], rfl, rfl, ⟨[.bool x.f2], [.int .u8 x.f3], rfl, rfl, rfl⟩⟩⟩
theorem k7_mkM (w : World) (base : Nat) (ok : Nat → Prop) (x : S7)  : k7.M w base ok x [.int .i64 x.f0, .int .i64 x.f1, .bool x.f2, .int .u8 x.f3] := ⟨[.int .i64 x.f0], [.int .i64 x.f1, .bool x.f2, .int .u8 x.f3], rfl, rfl, ⟨[.int .i64 x.f1], [.bool x.f2, .int .u8 x.f3], rfl, rfl, ⟨[.bool x.f2], [.int .u8 x.f3], rfl, rfl, rfl⟩⟩⟩
theorem k7_mkF (W : World) (ok : Nat → Prop) (x : S7) : Kd.FK k7 W ok x [.int .i64 x.f0, .int .i64 x.f1, .bool x.f2, .int .u8 x.f3] := fun W2 _ => k7_mk W2 x
def rd_T7 (xs : List S7) (i : Int) : S7 := xs.getD i.toNat z7
theorem at_T7 {w : World} {A : Option Addr} {n : Nat} {xs : List S7} (h : Kd.C k7 w A n xs) (i : Int) (h0 : 0 ≤ i) (h1 : i < n) : ∃ ad , A = some ad ∧ w.cell? (ad.add (i.toNat * 4)) = some (.int .i64 (rd_T7 xs i).f0) ∧ w.cell? ⟨(ad.add (i.toNat * 4)).block, (ad.add (i.toNat * 4)).off + 1, none⟩ = some (.int .i64 (rd_T7 xs i).f1) ∧ w.cell? ⟨(ad.add (i.toNat * 4)).block, (ad.add (i.toNat * 4)).off + 2, none⟩ = some (.bool (rd_T7 xs i).f2) ∧ w.cell? ⟨(ad.add (i.toNat * 4)).block, (ad.add (i.toNat * 4)).off + 3, none⟩ = some (.int .u8 (rd_T7 xs i).f3) := by
  obtain ⟨ad, c, e, _, hK, hc0⟩ := Kd.C_get h z7 i h0 h1
  have hc : ∀ j u, c[j]? = some u → w.cell? (ad.add (i.toNat * 4 + j)) = some u := hc0
  obtain rfl := k7_open hK
  exact ⟨ad, e, hc 0 _ rfl, by rw [← add_field _ _ 1 (by omega)]; exact hc 1 _ rfl, by rw [← add_field _ _ 2 (by omega)]; exact hc 2 _ rfl, by rw [← add_field _ _ 3 (by omega)]; exact hc 3 _ rfl⟩

/-! #### struct type 8 -/
structure S8 where
  f0 : Int
  f1 : Int
  f2 : Bool
  f3 : Int
def z8 : S8 := ⟨(0 : Int), (0 : Int), false, (0 : Int)⟩
def k8 : Kd S8 := Kd.iso (Kd.pair (Kd.int .i64) (Kd.pair (Kd.int .i64) (Kd.pair Kd.bool (Kd.int .u8)))) (fun x : S8 => (x.f0, x.f1, x.f2, x.f3))
theorem k8_heap : Kd.Heap k8 := Kd.heap_iso _ (Kd.heap_pair (Kd.heap_int .i64) (Kd.heap_pair (Kd.heap_int .i64) (Kd.heap_pair Kd.heap_bool (Kd.heap_int .u8))))
theorem k8_open {w : World} {x : S8} {cs : List Value} (h : k8.K w x cs) : cs = [.int .i64 x.f0, .int .i64 x.f1, .bool x.f2, .int .u8 x.f3] := by
  obtain ⟨_, _, rfl, rfl, ⟨_, _, rfl, rfl, ⟨_, _, rfl, rfl, rfl⟩⟩⟩ := h
  exact rfl
theorem k8_openM {w : World} {base : Nat} {ok : Nat → Prop} {x : S8} {cs : List Value} (h : k8.M w base ok x cs) : cs = [.int .i64 x.f0, .int .i64 x.f1, .bool x.f2, .int .u8 x.f3] := by
  obtain ⟨_, _, rfl, rfl, ⟨_, _, rfl, rfl, ⟨_, _, rfl, rfl, rfl⟩⟩⟩ := h
  exact rfl
theorem k8_mk (w : World) (x : S8)  : k8.K w x [.int .i64 x.f0, .int .i64 x.f1, .bool x.f2, .int .u8 x.f3] := ⟨[.int .i64 x.f0], [.int .i64 x.f1, .bool x.f2, .int .u8 x.f3], rfl, rfl, ⟨[.int .i64 x.f1], [.bool x.f2, .int .u8 x.f3], rfl, rfl, ⟨[.bool x.f2], [.int .u8 x.f3], rfl, rfl, rfl⟩⟩⟩
theorem k8_mkM (w : World) (base : Nat) (ok : Nat → Prop) (x : S8)  : k8.M w base ok x [.int .i64 x.f0, .int .i64 x.f1, .bool x.f2, .int .u8 x.f3] := ⟨[.int .i64 x.f0], [.int .i64 x.f1, .bool x.f2, .int .u8 x.f3], rfl, rfl, ⟨[.int .i64 x.f1], [.bool x.f2, .int .u8 x.f3], rfl, rfl, ⟨[.bool x.f2], [.int .u8 x.f3], rfl, rfl, rfl⟩⟩⟩
theorem k8_mkF (W : World) (ok : Nat → Prop) (x : S8) : Kd.FK k8 W ok x [.int .i64 x.f0, .int .i64 x.f1, .bool x.f2, .int .u8 x.f3] := fun W2 _ => k8_mk W2 x
def rd_T8 (xs : List S8) (i : Int) : S8 := xs.getD i.toNat z8
theorem at_T8 {w : World} {A : Option Addr} {n : Nat} {xs : List S8} (h : Kd.C k8 w A n xs) (i : Int) (h0 : 0 ≤ i) (h1 : i < n) : ∃ ad , A = some ad ∧ w.cell? (ad.add (i.toNat * 4)) = some (.int .i64 (rd_T8 xs i).f0) ∧ w.cell? ⟨(ad.add (i.toNat * 4)).block, (ad.add (i.toNat * 4)).off + 1, none⟩ = some (.int .i64 (rd_T8 xs i).f1) ∧ w.cell? ⟨(ad.add (i.toNat * 4)).block, (ad.add (i.toNat * 4)).off + 2, none⟩ = some (.bool (rd_T8 xs i).f2) ∧ w.cell? ⟨(ad.add (i.toNat * 4)).block, (ad.add (i.toNat * 4)).off + 3, none⟩ = some (.int .u8 (rd_T8 xs i).f3) := by
  obtain ⟨ad, c, e, _, hK, hc0⟩ := Kd.C_get h z8 i h0 h1
  have hc : ∀ j u, c[j]? = some u → w.cell? (ad.add (i.toNat * 4 + j)) = some u := hc0
  obtain rfl := k8_open hK
  exact ⟨ad, e, hc 0 _ rfl, by rw [← add_field _ _ 1 (by omega)]; exact hc 1 _ rfl, by rw [← add_field _ _ 2 (by omega)]; exact hc 2 _ rfl, by rw [← add_field _ _ 3 (by omega)]; exact hc 3 _ rfl⟩

/-! #### struct type 13 -/
structure S13 where
  f0 : ByteArray
  f1 : Int
def z13 : S13 := ⟨(⟨#[]⟩ : ByteArray), (0 : Int)⟩
def k13 : Kd S13 := Kd.iso (Kd.pair Kd.string (Kd.int .u64)) (fun x : S13 => (x.f0, x.f1))
theorem k13_heap : Kd.Heap k13 := Kd.heap_iso _ (Kd.heap_pair Kd.heap_string (Kd.heap_int .u64))
theorem k13_open {w : World} {x : S13} {cs : List Value} (h : k13.K w x cs) : cs = [.string x.f0, .int .u64 x.f1] := by
  obtain ⟨_, _, rfl, rfl, rfl⟩ := h
  exact rfl
theorem k13_openM {w : World} {base : Nat} {ok : Nat → Prop} {x : S13} {cs : List Value} (h : k13.M w base ok x cs) : cs = [.string x.f0, .int .u64 x.f1] := by
  obtain ⟨_, _, rfl, rfl, rfl⟩ := h
  exact rfl
theorem k13_mk (w : World) (x : S13)  : k13.K w x [.string x.f0, .int .u64 x.f1] := ⟨[.string x.f0], [.int .u64 x.f1], rfl, rfl, rfl⟩
theorem k13_mkM (w : World) (base : Nat) (ok : Nat → Prop) (x : S13)  : k13.M w base ok x [.string x.f0, .int .u64 x.f1] := ⟨[.string x.f0], [.int .u64 x.f1], rfl, rfl, rfl⟩
theorem k13_mkF (W : World) (ok : Nat → Prop) (x : S13) : Kd.FK k13 W ok x [.string x.f0, .int .u64 x.f1] := fun W2 _ => k13_mk W2 x
def rd_T13 (xs : List S13) (i : Int) : S13 := xs.getD i.toNat z13
theorem at_T13 {w : World} {A : Option Addr} {n : Nat} {xs : List S13} (h : Kd.C k13 w A n xs) (i : Int) (h0 : 0 ≤ i) (h1 : i < n) : ∃ ad , A = some ad ∧ w.cell? (ad.add (i.toNat * 2)) = some (.string (rd_T13 xs i).f0) ∧ w.cell? ⟨(ad.add (i.toNat * 2)).block, (ad.add (i.toNat * 2)).off + 1, none⟩ = some (.int .u64 (rd_T13 xs i).f1) := by
  obtain ⟨ad, c, e, _, hK, hc0⟩ := Kd.C_get h z13 i h0 h1
  have hc : ∀ j u, c[j]? = some u → w.cell? (ad.add (i.toNat * 2 + j)) = some u := hc0
  obtain rfl := k13_open hK
  exact ⟨ad, e, hc 0 _ rfl, by rw [← add_field _ _ 1 (by omega)]; exact hc 1 _ rfl⟩

/-! #### struct type 14 -/
structure S14 where
  f0 : ByteArray
  f1 : Int
def z14 : S14 := ⟨(⟨#[]⟩ : ByteArray), (0 : Int)⟩
def k14 : Kd S14 := Kd.iso (Kd.pair Kd.string (Kd.int .u64)) (fun x : S14 => (x.f0, x.f1))
theorem k14_heap : Kd.Heap k14 := Kd.heap_iso _ (Kd.heap_pair Kd.heap_string (Kd.heap_int .u64))
theorem k14_open {w : World} {x : S14} {cs : List Value} (h : k14.K w x cs) : cs = [.string x.f0, .int .u64 x.f1] := by
  obtain ⟨_, _, rfl, rfl, rfl⟩ := h
  exact rfl
theorem k14_openM {w : World} {base : Nat} {ok : Nat → Prop} {x : S14} {cs : List Value} (h : k14.M w base ok x cs) : cs = [.string x.f0, .int .u64 x.f1] := by
  obtain ⟨_, _, rfl, rfl, rfl⟩ := h
  exact rfl
theorem k14_mk (w : World) (x : S14)  : k14.K w x [.string x.f0, .int .u64 x.f1] := ⟨[.string x.f0], [.int .u64 x.f1], rfl, rfl, rfl⟩
theorem k14_mkM (w : World) (base : Nat) (ok : Nat → Prop) (x : S14)  : k14.M w base ok x [.string x.f0, .int .u64 x.f1] := ⟨[.string x.f0], [.int .u64 x.f1], rfl, rfl, rfl⟩
theorem k14_mkF (W : World) (ok : Nat → Prop) (x : S14) : Kd.FK k14 W ok x [.string x.f0, .int .u64 x.f1] := fun W2 _ => k14_mk W2 x
def rd_T14 (xs : List S14) (i : Int) : S14 := xs.getD i.toNat z14
theorem at_T14 {w : World} {A : Option Addr} {n : Nat} {xs : List S14} (h : Kd.C k14 w A n xs) (i : Int) (h0 : 0 ≤ i) (h1 : i < n) : ∃ ad , A = some ad ∧ w.cell? (ad.add (i.toNat * 2)) = some (.string (rd_T14 xs i).f0) ∧ w.cell? ⟨(ad.add (i.toNat * 2)).block, (ad.add (i.toNat * 2)).off + 1, none⟩ = some (.int .u64 (rd_T14 xs i).f1) := by
  obtain ⟨ad, c, e, _, hK, hc0⟩ := Kd.C_get h z14 i h0 h1
  have hc : ∀ j u, c[j]? = some u → w.cell? (ad.add (i.toNat * 2 + j)) = some u := hc0
  obtain rfl := k14_open hK
  exact ⟨ad, e, hc 0 _ rfl, by rw [← add_field _ _ 1 (by omega)]; exact hc 1 _ rfl⟩

/-! #### struct type 23 -/
structure S23 where
  f0 : ByteArray
  f1 : ByteArray
  f2 : ByteArray
  f3 : Bool
  f4 : Bool
  f5 : Bool
  f6 : Bool
def z23 : S23 := ⟨(⟨#[]⟩ : ByteArray), (⟨#[]⟩ : ByteArray), (⟨#[]⟩ : ByteArray), false, false, false, false⟩
def k23 : Kd S23 := Kd.iso (Kd.pair Kd.string (Kd.pair Kd.string (Kd.pair Kd.string (Kd.pair Kd.bool (Kd.pair Kd.bool (Kd.pair Kd.bool Kd.bool)))))) (fun x : S23 => (x.f0, x.f1, x.f2, x.f3, x.f4, x.f5, x.f6))
theorem k23_heap : Kd.Heap k23 := Kd.heap_iso _ (Kd.heap_pair Kd.heap_string (Kd.heap_pair Kd.heap_string (Kd.heap_pair Kd.heap_string (Kd.heap_pair Kd.heap_bool (Kd.heap_pair Kd.heap_bool (Kd.heap_pair Kd.heap_bool Kd.heap_bool))))))
theorem k23_open {w : World} {x : S23} {cs : List Value} (h : k23.K w x cs) : cs = [.string x.f0, .string x.f1, .string x.f2, .bool x.f3, .bool x.f4, .bool x.f5, .bool x.f6] := by
  obtain ⟨_, _, rfl, rfl, ⟨_, _, rfl, rfl, ⟨_, _, rfl, rfl, ⟨_, _, rfl, rfl, ⟨_, _, rfl, rfl, ⟨_, _, rfl, rfl, rfl⟩⟩⟩⟩⟩⟩ := h
  exact rfl
theorem k23_openM {w : World} {base : Nat} {ok : Nat → Prop} {x : S23} {cs : List Value} (h : k23.M w base ok x cs) : cs = [.string x.f0, .string x.f1, .string x.f2, .bool x.f3, .bool x.f4, .bool x.f5, .bool x.f6] := by
  obtain ⟨_, _, rfl, rfl, ⟨_, _, rfl, rfl, ⟨_, _, rfl, rfl, ⟨_, _, rfl, rfl, ⟨_, _, rfl, rfl, ⟨_, _, rfl, rfl, rfl⟩⟩⟩⟩⟩⟩ := h
  exact rfl
theorem k23_mk (w : World) (x : S23)  : k23.K w x [.string x.f0, .string x.f1, .string x.f2, .bool x.f3, .bool x.f4, .bool x.f5, .bool x.f6] := ⟨[.string x.f0], [.string x.f1, .string x.f2, .bool x.f3, .bool x.f4, .bool x.f5, .bool x.f6], rfl, rfl, ⟨[.string x.f1], [.string x.f2, .bool x.f3, .bool x.f4, .bool x.f5, .bool x.f6], rfl, rfl, ⟨[.string x.f2], [.bool x.f3, .bool x.f4, .bool x.f5, .bool x.f6], rfl, rfl, ⟨[.bool x.f3], [.bool x.f4, .bool x.f5, .bool x.f6], rfl, rfl, ⟨[.bool x.f4], [.bool x.f5, .bool x.f6], rfl, rfl, ⟨[.bool x.f5], [.bool x.f6], rfl, rfl, rfl⟩⟩⟩⟩⟩⟩
theorem k23_mkM (w : World) (base : Nat) (ok : Nat → Prop) (x : S23)  : k23.M w base ok x [.string x.f0, .string x.f1, .string x.f2, .bool x.f3, .bool x.f4, .bool x.f5, .bool x.f6] := ⟨[.string x.f0], [.string x.f1, .string x.f2, .bool x.f3, .bool x.f4, .bool x.f5, .bool x.f6], rfl, rfl, ⟨[.string x.f1], [.string x.f2, .bool x.f3, .bool x.f4, .bool x.f5, .bool x.f6], rfl, rfl, ⟨[.string x.f2], [.bool x.f3, .bool x.f4, .bool x.f5, .bool x.f6], rfl, rfl, ⟨[.bool x.f3], [.bool x.f4, .bool x.f5, .bool x.f6], rfl, rfl, ⟨[.bool x.f4], [.bool x.f5, .bool x.f6], rfl, rfl, ⟨[.bool x.f5], [.bool x.f6], rfl, rfl, rfl⟩⟩⟩⟩⟩⟩
theorem k23_mkF (W : World) (ok : Nat → Prop) (x : S23) : Kd.FK k23 W ok x [.string x.f0, .string x.f1, .string x.f2, .bool x.f3, .bool x.f4, .bool x.f5, .bool x.f6] := fun W2 _ => k23_mk W2 x
def rd_T23 (xs : List S23) (i : Int) : S23 := xs.getD i.toNat z23
theorem at_T23 {w : World} {A : Option Addr} {n : Nat} {xs : List S23} (h : Kd.C k23 w A n xs) (i : Int) (h0 : 0 ≤ i) (h1 : i < n) : ∃ ad , A = some ad ∧ w.cell? (ad.add (i.toNat * 7)) = some (.string (rd_T23 xs i).f0) ∧ w.cell? ⟨(ad.add (i.toNat * 7)).block, (ad.add (i.toNat * 7)).off + 1, none⟩ = some (.string (rd_T23 xs i).f1) ∧ w.cell? ⟨(ad.add (i.toNat * 7)).block, (ad.add (i.toNat * 7)).off + 2, none⟩ = some (.string (rd_T23 xs i).f2) ∧ w.cell? ⟨(ad.add (i.toNat * 7)).block, (ad.add (i.toNat * 7)).off + 3, none⟩ = some (.bool (rd_T23 xs i).f3) ∧ w.cell? ⟨(ad.add (i.toNat * 7)).block, (ad.add (i.toNat * 7)).off + 4, none⟩ = some (.bool (rd_T23 xs i).f4) ∧ w.cell? ⟨(ad.add (i.toNat * 7)).block, (ad.add (i.toNat * 7)).off + 5, none⟩ = some (.bool (rd_T23 xs i).f5) ∧ w.cell? ⟨(ad.add (i.toNat * 7)).block, (ad.add (i.toNat * 7)).off + 6, none⟩ = some (.bool (rd_T23 xs i).f6) := by
  obtain ⟨ad, c, e, _, hK, hc0⟩ := Kd.C_get h z23 i h0 h1
  have hc : ∀ j u, c[j]? = some u → w.cell? (ad.add (i.toNat * 7 + j)) = some u := hc0
  obtain rfl := k23_open hK
  exact ⟨ad, e, hc 0 _ rfl, by rw [← add_field _ _ 1 (by omega)]; exact hc 1 _ rfl, by rw [← add_field _ _ 2 (by omega)]; exact hc 2 _ rfl, by rw [← add_field _ _ 3 (by omega)]; exact hc 3 _ rfl, by rw [← add_field _ _ 4 (by omega)]; exact hc 4 _ rfl, by rw [← add_field _ _ 5 (by omega)]; exact hc 5 _ rfl, by rw [← add_field _ _ 6 (by omega)]; exact hc 6 _ rfl⟩

/-! #### struct type 24 -/
structure S24 where
  f0 : ByteArray
  f1 : ByteArray
  f2 : ByteArray
  f3 : Bool
  f4 : Bool
  f5 : Bool
  f6 : Bool
def z24 : S24 := ⟨(⟨#[]⟩ : ByteArray), (⟨#[]⟩ : ByteArray), (⟨#[]⟩ : ByteArray), false, false, false, false⟩
def k24 : Kd S24 := Kd.iso (Kd.pair Kd.string (Kd.pair Kd.string (Kd.pair Kd.string (Kd.pair Kd.bool (Kd.pair Kd.bool (Kd.pair Kd.bool Kd.bool)))))) (fun x : S24 => (x.f0, x.f1, x.f2, x.f3, x.f4, x.f5, x.f6))
theorem k24_heap : Kd.Heap k24 := Kd.heap_iso _ (Kd.heap_pair Kd.heap_string (Kd.heap_pair Kd.heap_string (Kd.heap_pair Kd.heap_string (Kd.heap_pair Kd.heap_bool (Kd.heap_pair Kd.heap_bool (Kd.heap_pair Kd.heap_bool Kd.heap_bool))))))
theorem k24_open {w : World} {x : S24} {cs : List Value} (h : k24.K w x cs) : cs = [.string x.f0, .string x.f1, .string x.f2, .bool x.f3, .bool x.f4, .bool x.f5, .bool x.f6] := by
  obtain ⟨_, _, rfl, rfl, ⟨_, _, rfl, rfl, ⟨_, _, rfl, rfl, ⟨_, _, rfl, rfl, ⟨_, _, rfl, rfl, ⟨_, _, rfl, rfl, rfl⟩⟩⟩⟩⟩⟩ := h
  exact rfl
theorem k24_openM {w : World} {base : Nat} {ok : Nat → Prop} {x : S24} {cs : List Value} (h : k24.M w base ok x cs) : cs = [.string x.f0, .string x.f1, .string x.f2, .bool x.f3, .bool x.f4, .bool x.f5, .bool x.f6] := by
  obtain ⟨_, _, rfl, rfl, ⟨_, _, rfl, rfl, ⟨_, _, rfl, rfl, ⟨_, _, rfl, rfl, ⟨_, _, rfl, rfl, ⟨_, _, rfl, rfl, rfl⟩⟩⟩⟩⟩⟩ := h
  exact rfl
theorem k24_mk (w : World) (x : S24)  : k24.K w x [.string x.f0, .string x.f1, .string x.f2, .bool x.f3, .bool x.f4, .bool x.f5, .bool x.f6] := ⟨[.string x.f0], [.string x.f1, .string x.f2, .bool x.f3, .bool x.f4, .bool x.f5, .bool x.f6], rfl, rfl, ⟨[.string x.f1], [.string x.f2, .bool x.f3, .bool x.f4, .bool x.f5, .bool x.f6], rfl, rfl, ⟨[.string x.f2], [.bool x.f3, .bool x.f4, .bool x.f5, .bool x.f6], rfl, rfl, ⟨[.bool x.f3], [.bool x.f4, .bool x.f5, .bool x.f6], rfl, rfl, ⟨[.bool x.f4], [.bool x.f5, .bool x.f6], rfl, rfl, ⟨[.bool x.f5], [.bool x.f6], rfl, rfl, rfl⟩⟩⟩⟩⟩⟩
theorem k24_mkM (w : World) (base : Nat) (ok : Nat → Prop) (x : S24)  : k24.M w base ok x [.string x.f0, .string x.f1, .string x.f2, .bool x.f3, .bool x.f4, .bool x.f5, .bool x.f6] := ⟨[.string x.f0], [.string x.f1, .string x.f2, .bool x.f3, .bool x.f4, .bool x.f5, .bool x.f6], rfl, rfl, ⟨[.string x.f1], [.string x.f2, .bool x.f3, .bool x.f4, .bool x.f5, .bool x.f6], rfl, rfl, ⟨[.string x.f2], [.bool x.f3, .bool x.f4, .bool x.f5, .bool x.f6], rfl, rfl, ⟨[.bool x.f3], [.bool x.f4, .bool x.f5, .bool x.f6], rfl, rfl, ⟨[.bool x.f4], [.bool x.f5, .bool x.f6], rfl, rfl, ⟨[.bool x.f5], [.bool x.f6], rfl, rfl, rfl⟩⟩⟩⟩⟩⟩
theorem k24_mkF (W : World) (ok : Nat → Prop) (x : S24) : Kd.FK k24 W ok x [.string x.f0, .string x.f1, .string x.f2, .bool x.f3, .bool x.f4, .bool x.f5, .bool x.f6] := fun W2 _ => k24_mk W2 x
def rd_T24 (xs : List S24) (i : Int) : S24 := xs.getD i.toNat z24
theorem at_T24 {w : World} {A : Option Addr} {n : Nat} {xs : List S24} (h : Kd.C k24 w A n xs) (i : Int) (h0 : 0 ≤ i) (h1 : i < n) : ∃ ad , A = some ad ∧ w.cell? (ad.add (i.toNat * 7)) = some (.string (rd_T24 xs i).f0) ∧ w.cell? ⟨(ad.add (i.toNat * 7)).block, (ad.add (i.toNat * 7)).off + 1, none⟩ = some (.string (rd_T24 xs i).f1) ∧ w.cell? ⟨(ad.add (i.toNat * 7)).block, (ad.add (i.toNat * 7)).off + 2, none⟩ = some (.string (rd_T24 xs i).f2) ∧ w.cell? ⟨(ad.add (i.toNat * 7)).block, (ad.add (i.toNat * 7)).off + 3, none⟩ = some (.bool (rd_T24 xs i).f3) ∧ w.cell? ⟨(ad.add (i.toNat * 7)).block, (ad.add (i.toNat * 7)).off + 4, none⟩ = some (.bool (rd_T24 xs i).f4) ∧ w.cell? ⟨(ad.add (i.toNat * 7)).block, (ad.add (i.toNat * 7)).off + 5, none⟩ = some (.bool (rd_T24 xs i).f5) ∧ w.cell? ⟨(ad.add (i.toNat * 7)).block, (ad.add (i.toNat * 7)).off + 6, none⟩ = some (.bool (rd_T24 xs i).f6) := by
  obtain ⟨ad, c, e, _, hK, hc0⟩ := Kd.C_get h z24 i h0 h1
  have hc : ∀ j u, c[j]? = some u → w.cell? (ad.add (i.toNat * 7 + j)) = some u := hc0
  obtain rfl := k24_open hK
  exact ⟨ad, e, hc 0 _ rfl, by rw [← add_field _ _ 1 (by omega)]; exact hc 1 _ rfl, by rw [← add_field _ _ 2 (by omega)]; exact hc 2 _ rfl, by rw [← add_field _ _ 3 (by omega)]; exact hc 3 _ rfl, by rw [← add_field _ _ 4 (by omega)]; exact hc 4 _ rfl, by rw [← add_field _ _ 5 (by omega)]; exact hc 5 _ rfl, by rw [← add_field _ _ 6 (by omega)]; exact hc 6 _ rfl⟩

/-! #### struct type 26 -/
structure S26 where
  f0 : ByteArray
  f1 : ByteArray
  f2 : ByteArray
  f3 : Bool
  f4 : Bool
  f5 : Bool
  f6 : Bool
def z26 : S26 := ⟨(⟨#[]⟩ : ByteArray), (⟨#[]⟩ : ByteArray), (⟨#[]⟩ : ByteArray), false, false, false, false⟩
def k26 : Kd S26 := Kd.iso (Kd.pair Kd.string (Kd.pair Kd.string (Kd.pair Kd.string (Kd.pair Kd.bool (Kd.pair Kd.bool (Kd.pair Kd.bool Kd.bool)))))) (fun x : S26 => (x.f0, x.f1, x.f2, x.f3, x.f4, x.f5, x.f6))
theorem k26_heap : Kd.Heap k26 := Kd.heap_iso _ (Kd.heap_pair Kd.heap_string (Kd.heap_pair Kd.heap_string (Kd.heap_pair Kd.heap_string (Kd.heap_pair Kd.heap_bool (Kd.heap_pair Kd.heap_bool (Kd.heap_pair Kd.heap_bool Kd.heap_bool))))))
theorem k26_open {w : World} {x : S26} {cs : List Value} (h : k26.K w x cs) : cs = [.string x.f0, .string x.f1, .string x.f2, .bool x.f3, .bool x.f4, .bool x.f5, .bool x.f6] := by
  obtain ⟨_, _, rfl, rfl, ⟨_, _, rfl, rfl, ⟨_, _, rfl, rfl, ⟨_, _, rfl, rfl, ⟨_, _, rfl, rfl, ⟨_, _, rfl, rfl, rfl⟩⟩⟩⟩⟩⟩ := h
  exact rfl
theorem k26_openM {w : World} {base : Nat} {ok : Nat → Prop} {x : S26} {cs : List Value} (h : k26.M w base ok x cs) : cs = [.string x.f0, .string x.f1, .string x.f2, .bool x.f3, .bool x.f4, .bool x.f5, .bool x.f6] := by
  obtain ⟨_, _, rfl, rfl, ⟨_, _, rfl, rfl, ⟨_, _, rfl, rfl, ⟨_, _, rfl, rfl, ⟨_, _, rfl, rfl, ⟨_, _, rfl, rfl, rfl⟩⟩⟩⟩⟩⟩ := h
  exact rfl
theorem k26_mk (w : World) (x : S26)  : k26.K w x [.string x.f0, .string x.f1, .string x.f2, .bool x.f3, .bool x.f4, .bool x.f5, .bool x.f6] := ⟨[.string x.f0], [.string x.f1, .string x.f2, .bool x.f3, .bool x.f4, .bool x.f5, .bool x.f6], rfl, rfl, ⟨[.string x.f1], [.string x.f2, .bool x.f3, .bool x.f4, .bool x.f5, .bool x.f6], rfl, rfl, ⟨[.string x.f2], [.bool x.f3, .bool x.f4, .bool x.f5, .bool x.f6], rfl, rfl, ⟨[.bool x.f3], [.bool x.f4, .bool x.f5, .bool x.f6], rfl, rfl, ⟨[.bool x.f4], [.bool x.f5, .bool x.f6], rfl, rfl, ⟨[.bool x.f5], [.bool x.f6], rfl, rfl, rfl⟩⟩⟩⟩⟩⟩
theorem k26_mkM (w : World) (base : Nat) (ok : Nat → Prop) (x : S26)  : k26.M w base ok x [.string x.f0, .string x.f1, .string x.f2, .bool x.f3, .bool x.f4, .bool x.f5, .bool x.f6] := ⟨[.string x.f0], [.string x.f1, .string x.f2, .bool x.f3, .bool x.f4, .bool x.f5, .bool x.f6], rfl, rfl, ⟨[.string x.f1], [.string x.f2, .bool x.f3, .bool x.f4, .bool x.f5, .bool x.f6], rfl, rfl, ⟨[.string x.f2], [.bool x.f3, .bool x.f4, .bool x.f5, .bool x.f6], rfl, rfl, ⟨[.bool x.f3], [.bool x.f4, .bool x.f5, .bool x.f6], rfl, rfl, ⟨[.bool x.f4], [.bool x.f5, .bool x.f6], rfl, rfl, ⟨[.bool x.f5], [.bool x.f6], rfl, rfl, rfl⟩⟩⟩⟩⟩⟩
theorem k26_mkF (W : World) (ok : Nat → Prop) (x : S26) : Kd.FK k26 W ok x [.string x.f0, .string x.f1, .string x.f2, .bool x.f3, .bool x.f4, .bool x.f5, .bool x.f6] := fun W2 _ => k26_mk W2 x
def rd_T26 (xs : List S26) (i : Int) : S26 := xs.getD i.toNat z26
theorem at_T26 {w : World} {A : Option Addr} {n : Nat} {xs : List S26} (h : Kd.C k26 w A n xs) (i : Int) (h0 : 0 ≤ i) (h1 : i < n) : ∃ ad , A = some ad ∧ w.cell? (ad.add (i.toNat * 7)) = some (.string (rd_T26 xs i).f0) ∧ w.cell? ⟨(ad.add (i.toNat * 7)).block, (ad.add (i.toNat * 7)).off + 1, none⟩ = some (.string (rd_T26 xs i).f1) ∧ w.cell? ⟨(ad.add (i.toNat * 7)).block, (ad.add (i.toNat * 7)).off + 2, none⟩ = some (.string (rd_T26 xs i).f2) ∧ w.cell? ⟨(ad.add (i.toNat * 7)).block, (ad.add (i.toNat * 7)).off + 3, none⟩ = some (.bool (rd_T26 xs i).f3) ∧ w.cell? ⟨(ad.add (i.toNat * 7)).block, (ad.add (i.toNat * 7)).off + 4, none⟩ = some (.bool (rd_T26 xs i).f4) ∧ w.cell? ⟨(ad.add (i.toNat * 7)).block, (ad.add (i.toNat * 7)).off + 5, none⟩ = some (.bool (rd_T26 xs i).f5) ∧ w.cell? ⟨(ad.add (i.toNat * 7)).block, (ad.add (i.toNat * 7)).off + 6, none⟩ = some (.bool (rd_T26 xs i).f6) := by
  obtain ⟨ad, c, e, _, hK, hc0⟩ := Kd.C_get h z26 i h0 h1
  have hc : ∀ j u, c[j]? = some u → w.cell? (ad.add (i.toNat * 7 + j)) = some u := hc0
  obtain rfl := k26_open hK
  exact ⟨ad, e, hc 0 _ rfl, by rw [← add_field _ _ 1 (by omega)]; exact hc 1 _ rfl, by rw [← add_field _ _ 2 (by omega)]; exact hc 2 _ rfl, by rw [← add_field _ _ 3 (by omega)]; exact hc 3 _ rfl, by rw [← add_field _ _ 4 (by omega)]; exact hc 4 _ rfl, by rw [← add_field _ _ 5 (by omega)]; exact hc 5 _ rfl, by rw [← add_field _ _ 6 (by omega)]; exact hc 6 _ rfl⟩

def rd_L12 (xs : List (List Int)) (i : Int) : (List Int) := xs.getD i.toNat ([] : List Int)
theorem at_L12 {w : World} {A : Option Addr} {n : Nat} {xs : List (List Int)} (h : Kd.C (Kd.slice 5 (Kd.int .u8)) w A n xs) (i : Int) (h0 : 0 ≤ i) (h1 : i < n) : ∃ ad A0 c0, A = some ad ∧ w.cell? (ad.add i.toNat) = some (.slice A0 (rd_L12 xs i).length c0) ∧ (rd_L12 xs i).length ≤ c0 ∧ (Kd.int .u8).C w A0 (rd_L12 xs i).length (rd_L12 xs i) := by
  obtain ⟨ad, c, e, _, hK, hc0⟩ := Kd.C_get h ([] : List Int) i h0 h1
  have hc : ∀ j u, c[j]? = some u → w.cell? (ad.add (i.toNat * 1 + j)) = some u := hc0
  obtain ⟨A0, c0, rfl, l0, g0⟩ := hK
  exact ⟨ad, A0, c0, e, by have hq := hc 0 _ rfl; rwa [Nat.mul_one, Nat.add_zero] at hq, l0, g0⟩

/-! #### struct type 176 -/
structure S176 where
  f0 : ByteArray
  f1 : ByteArray
def z176 : S176 := ⟨(⟨#[]⟩ : ByteArray), (⟨#[]⟩ : ByteArray)⟩
def k176 : Kd S176 := Kd.iso (Kd.pair Kd.string Kd.string) (fun x : S176 => (x.f0, x.f1))
theorem k176_heap : Kd.Heap k176 := Kd.heap_iso _ (Kd.heap_pair Kd.heap_string Kd.heap_string)
theorem k176_open {w : World} {x : S176} {cs : List Value} (h : k176.K w x cs) : cs = [.string x.f0, .string x.f1] := by
  obtain ⟨_, _, rfl, rfl, rfl⟩ := h
  exact rfl
theorem k176_openM {w : World} {base : Nat} {ok : Nat → Prop} {x : S176} {cs : List Value} (h : k176.M w base ok x cs) : cs = [.string x.f0, .string x.f1] := by
  obtain ⟨_, _, rfl, rfl, rfl⟩ := h
  exact rfl
theorem k176_mk (w : World) (x : S176)  : k176.K w x [.string x.f0, .string x.f1] := ⟨[.string x.f0], [.string x.f1], rfl, rfl, rfl⟩
theorem k176_mkM (w : World) (base : Nat) (ok : Nat → Prop) (x : S176)  : k176.M w base ok x [.string x.f0, .string x.f1] := ⟨[.string x.f0], [.string x.f1], rfl, rfl, rfl⟩
theorem k176_mkF (W : World) (ok : Nat → Prop) (x : S176) : Kd.FK k176 W ok x [.string x.f0, .string x.f1] := fun W2 _ => k176_mk W2 x
def rd_T176 (xs : List S176) (i : Int) : S176 := xs.getD i.toNat z176
theorem at_T176 {w : World} {A : Option Addr} {n : Nat} {xs : List S176} (h : Kd.C k176 w A n xs) (i : Int) (h0 : 0 ≤ i) (h1 : i < n) : ∃ ad , A = some ad ∧ w.cell? (ad.add (i.toNat * 2)) = some (.string (rd_T176 xs i).f0) ∧ w.cell? ⟨(ad.add (i.toNat * 2)).block, (ad.add (i.toNat * 2)).off + 1, none⟩ = some (.string (rd_T176 xs i).f1) := by
  obtain ⟨ad, c, e, _, hK, hc0⟩ := Kd.C_get h z176 i h0 h1
  have hc : ∀ j u, c[j]? = some u → w.cell? (ad.add (i.toNat * 2 + j)) = some u := hc0
  obtain rfl := k176_open hK
  exact ⟨ad, e, hc 0 _ rfl, by rw [← add_field _ _ 1 (by omega)]; exact hc 1 _ rfl⟩

def rd_L14 (xs : List (List S176)) (i : Int) : (List S176) := xs.getD i.toNat ([] : List S176)
theorem at_L14 {w : World} {A : Option Addr} {n : Nat} {xs : List (List S176)} (h : Kd.C (Kd.slice 176 k176) w A n xs) (i : Int) (h0 : 0 ≤ i) (h1 : i < n) : ∃ ad A0 c0, A = some ad ∧ w.cell? (ad.add i.toNat) = some (.slice A0 (rd_L14 xs i).length c0) ∧ (rd_L14 xs i).length ≤ c0 ∧ k176.C w A0 (rd_L14 xs i).length (rd_L14 xs i) := by
  obtain ⟨ad, c, e, _, hK, hc0⟩ := Kd.C_get h ([] : List S176) i h0 h1
  have hc : ∀ j u, c[j]? = some u → w.cell? (ad.add (i.toNat * 1 + j)) = some u := hc0
  obtain ⟨A0, c0, rfl, l0, g0⟩ := hK
  exact ⟨ad, A0, c0, e, by have hq := hc 0 _ rfl; rwa [Nat.mul_one, Nat.add_zero] at hq, l0, g0⟩

/-! #### struct type 36 -/
structure S36 where
  f0 : Int
  f1 : ByteArray
  f2 : ByteArray
  f3 : (List S176)
  f4 : Bool
def z36 : S36 := ⟨(0 : Int), (⟨#[]⟩ : ByteArray), (⟨#[]⟩ : ByteArray), ([] : List S176), false⟩
def k36 : Kd S36 := Kd.iso (Kd.pair (Kd.int .i64) (Kd.pair Kd.string (Kd.pair Kd.string (Kd.pair (Kd.slice 176 k176) Kd.bool)))) (fun x : S36 => (x.f0, x.f1, x.f2, x.f3, x.f4))
theorem k36_heap : Kd.Heap k36 := Kd.heap_iso _ (Kd.heap_pair (Kd.heap_int .i64) (Kd.heap_pair Kd.heap_string (Kd.heap_pair Kd.heap_string (Kd.heap_pair (Kd.heap_slice 176 k176_heap) Kd.heap_bool))))
theorem k36_open {w : World} {x : S36} {cs : List Value} (h : k36.K w x cs) : ∃ A3 c3, cs = [.int .i64 x.f0, .string x.f1, .string x.f2, .slice A3 x.f3.length c3, .bool x.f4] ∧ x.f3.length ≤ c3 ∧ k176.C w A3 x.f3.length x.f3 := by
  obtain ⟨_, _, rfl, rfl, ⟨_, _, rfl, rfl, ⟨_, _, rfl, rfl, ⟨_, _, rfl, ⟨A3, c3, rfl, l3, g3⟩, rfl⟩⟩⟩⟩ := h
  exact ⟨A3, c3, rfl, l3, g3⟩
theorem k36_openM {w : World} {base : Nat} {ok : Nat → Prop} {x : S36} {cs : List Value} (h : k36.M w base ok x cs) : ∃ v3, cs = [.int .i64 x.f0, .string x.f1, .string x.f2, v3, .bool x.f4] ∧ k176.R 176 w base ok v3 x.f3 := by
  obtain ⟨_, _, rfl, rfl, ⟨_, _, rfl, rfl, ⟨_, _, rfl, rfl, ⟨_, _, rfl, ⟨v3, rfl, g3⟩, rfl⟩⟩⟩⟩ := h
  exact ⟨v3, rfl, g3⟩
theorem k36_mk (w : World) (x : S36) {A3 : Option Addr} {c3 : Nat} (l3 : x.f3.length ≤ c3) (g3 : k176.C w A3 x.f3.length x.f3) : k36.K w x [.int .i64 x.f0, .string x.f1, .string x.f2, .slice A3 x.f3.length c3, .bool x.f4] := ⟨[.int .i64 x.f0], [.string x.f1, .string x.f2, .slice A3 x.f3.length c3, .bool x.f4], rfl, rfl, ⟨[.string x.f1], [.string x.f2, .slice A3 x.f3.length c3, .bool x.f4], rfl, rfl, ⟨[.string x.f2], [.slice A3 x.f3.length c3, .bool x.f4], rfl, rfl, ⟨[.slice A3 x.f3.length c3], [.bool x.f4], rfl, ⟨A3, c3, rfl, l3, g3⟩, rfl⟩⟩⟩⟩
theorem k36_mkM (w : World) (base : Nat) (ok : Nat → Prop) (x : S36) {v3 : Value} (g3 : k176.R 176 w base ok v3 x.f3) : k36.M w base ok x [.int .i64 x.f0, .string x.f1, .string x.f2, v3, .bool x.f4] := ⟨[.int .i64 x.f0], [.string x.f1, .string x.f2, v3, .bool x.f4], rfl, rfl, ⟨[.string x.f1], [.string x.f2, v3, .bool x.f4], rfl, rfl, ⟨[.string x.f2], [v3, .bool x.f4], rfl, rfl, ⟨[v3], [.bool x.f4], rfl, ⟨v3, rfl, g3⟩, rfl⟩⟩⟩⟩
theorem k36_openF {W : World} {ok : Nat → Prop} {x : S36} {cs : List Value} (h : Kd.FK k36 W ok x cs) : ∃ A3 c3, cs = [.int .i64 x.f0, .string x.f1, .string x.f2, .slice A3 x.f3.length c3, .bool x.f4] ∧ x.f3.length ≤ c3 ∧ Kd.F k176 W ok A3 x.f3.length x.f3 := by
  obtain ⟨A3, c3, rfl, l3, _⟩ := k36_open (Kd.FK_now h)
  exact ⟨A3, c3, rfl, l3, (fun W' hW => by obtain ⟨A3_, c3_, he, l3_, g3_⟩ := k36_open (h W' hW); injection (Option.some.inj (show some (Value.slice A3 x.f3.length c3) = some (Value.slice A3_ x.f3.length c3_) from congrArg (fun l => l[3]?) he)) with ha_ _ _; rw [ha_]; exact g3_)⟩
theorem k36_mkF (W : World) (ok : Nat → Prop) (x : S36) {A3 : Option Addr} {c3 : Nat} (l3 : x.f3.length ≤ c3) (g3 : Kd.F k176 W ok A3 x.f3.length x.f3) : Kd.FK k36 W ok x [.int .i64 x.f0, .string x.f1, .string x.f2, .slice A3 x.f3.length c3, .bool x.f4] := fun W2 hW => k36_mk W2 x l3 (g3 W2 hW)
def rd_T36 (xs : List S36) (i : Int) : S36 := xs.getD i.toNat z36
theorem at_T36 {w : World} {A : Option Addr} {n : Nat} {xs : List S36} (h : Kd.C k36 w A n xs) (i : Int) (h0 : 0 ≤ i) (h1 : i < n) : ∃ ad A3 c3, A = some ad ∧ w.cell? (ad.add (i.toNat * 5)) = some (.int .i64 (rd_T36 xs i).f0) ∧ w.cell? ⟨(ad.add (i.toNat * 5)).block, (ad.add (i.toNat * 5)).off + 1, none⟩ = some (.string (rd_T36 xs i).f1) ∧ w.cell? ⟨(ad.add (i.toNat * 5)).block, (ad.add (i.toNat * 5)).off + 2, none⟩ = some (.string (rd_T36 xs i).f2) ∧ w.cell? ⟨(ad.add (i.toNat * 5)).block, (ad.add (i.toNat * 5)).off + 3, none⟩ = some (.slice A3 (rd_T36 xs i).f3.length c3) ∧ w.cell? ⟨(ad.add (i.toNat * 5)).block, (ad.add (i.toNat * 5)).off + 4, none⟩ = some (.bool (rd_T36 xs i).f4) ∧ (rd_T36 xs i).f3.length ≤ c3 ∧ k176.C w A3 (rd_T36 xs i).f3.length (rd_T36 xs i).f3 := by
  obtain ⟨ad, c, e, _, hK, hc0⟩ := Kd.C_get h z36 i h0 h1
  have hc : ∀ j u, c[j]? = some u → w.cell? (ad.add (i.toNat * 5 + j)) = some u := hc0
  obtain ⟨A3, c3, rfl, l3, g3⟩ := k36_open hK
  exact ⟨ad, A3, c3, e, hc 0 _ rfl, by rw [← add_field _ _ 1 (by omega)]; exact hc 1 _ rfl, by rw [← add_field _ _ 2 (by omega)]; exact hc 2 _ rfl, by rw [← add_field _ _ 3 (by omega)]; exact hc 3 _ rfl, by rw [← add_field _ _ 4 (by omega)]; exact hc 4 _ rfl, l3, g3⟩

/-! #### struct type 37 -/
structure S37 where
  f0 : Int
  f1 : ByteArray
  f2 : ByteArray
  f3 : (List S176)
  f4 : Bool
def z37 : S37 := ⟨(0 : Int), (⟨#[]⟩ : ByteArray), (⟨#[]⟩ : ByteArray), ([] : List S176), false⟩
def k37 : Kd S37 := Kd.iso (Kd.pair (Kd.int .i64) (Kd.pair Kd.string (Kd.pair Kd.string (Kd.pair (Kd.slice 176 k176) Kd.bool)))) (fun x : S37 => (x.f0, x.f1, x.f2, x.f3, x.f4))
theorem k37_heap : Kd.Heap k37 := Kd.heap_iso _ (Kd.heap_pair (Kd.heap_int .i64) (Kd.heap_pair Kd.heap_string (Kd.heap_pair Kd.heap_string (Kd.heap_pair (Kd.heap_slice 176 k176_heap) Kd.heap_bool))))
theorem k37_open {w : World} {x : S37} {cs : List Value} (h : k37.K w x cs) : ∃ A3 c3, cs = [.int .i64 x.f0, .string x.f1, .string x.f2, .slice A3 x.f3.length c3, .bool x.f4] ∧ x.f3.length ≤ c3 ∧ k176.C w A3 x.f3.length x.f3 := by
  obtain ⟨_, _, rfl, rfl, ⟨_, _, rfl, rfl, ⟨_, _, rfl, rfl, ⟨_, _, rfl, ⟨A3, c3, rfl, l3, g3⟩, rfl⟩⟩⟩⟩ := h
  exact ⟨A3, c3, rfl, l3, g3⟩
theorem k37_openM {w : World} {base : Nat} {ok : Nat → Prop} {x : S37} {cs : List Value} (h : k37.M w base ok x cs) : ∃ v3, cs = [.int .i64 x.f0, .string x.f1, .string x.f2, v3, .bool x.f4] ∧ k176.R 176 w base ok v3 x.f3 := by
  obtain ⟨_, _, rfl, rfl, ⟨_, _, rfl, rfl, ⟨_, _, rfl, rfl, ⟨_, _, rfl, ⟨v3, rfl, g3⟩, rfl⟩⟩⟩⟩ := h
  exact ⟨v3, rfl, g3⟩
theorem k37_mk (w : World) (x : S37) {A3 : Option Addr} {c3 : Nat} (l3 : x.f3.length ≤ c3) (g3 : k176.C w A3 x.f3.length x.f3) : k37.K w x [.int .i64 x.f0, .string x.f1, .string x.f2, .slice A3 x.f3.length c3, .bool x.f4] := ⟨[.int .i64 x.f0], [.string x.f1, .string x.f2, .slice A3 x.f3.length c3, .bool x.f4], rfl, rfl, ⟨[.string x.f1], [.string x.f2, .slice A3 x.f3.length c3, .bool x.f4], rfl, rfl, ⟨[.string x.f2], [.slice A3 x.f3.length c3, .bool x.f4], rfl, rfl, ⟨[.slice A3 x.f3.length c3], [.bool x.f4], rfl, ⟨A3, c3, rfl, l3, g3⟩, rfl⟩⟩⟩⟩
theorem k37_mkM (w : World) (base : Nat) (ok : Nat → Prop) (x : S37) {v3 : Value} (g3 : k176.R 176 w base ok v3 x.f3) : k37.M w base ok x [.int .i64 x.f0, .string x.f1, .string x.f2, v3, .bool x.f4] := ⟨[.int .i64 x.f0], [.string x.f1, .string x.f2, v3, .bool x.f4], rfl, rfl, ⟨[.string x.f1], [.string x.f2, v3, .bool x.f4], rfl, rfl, ⟨[.string x.f2], [v3, .bool x.f4], rfl, rfl, ⟨[v3], [.bool x.f4], rfl, ⟨v3, rfl, g3⟩, rfl⟩⟩⟩⟩
theorem k37_openF {W : World} {ok : Nat → Prop} {x : S37} {cs : List Value} (h : Kd.FK k37 W ok x cs) : ∃ A3 c3, cs = [.int .i64 x.f0, .string x.f1, .string x.f2, .slice A3 x.f3.length c3, .bool x.f4] ∧ x.f3.length ≤ c3 ∧ Kd.F k176 W ok A3 x.f3.length x.f3 := by
  obtain ⟨A3, c3, rfl, l3, _⟩ := k37_open (Kd.FK_now h)
  exact ⟨A3, c3, rfl, l3, (fun W' hW => by obtain ⟨A3_, c3_, he, l3_, g3_⟩ := k37_open (h W' hW); injection (Option.some.inj (show some (Value.slice A3 x.f3.length c3) = some (Value.slice A3_ x.f3.length c3_) from congrArg (fun l => l[3]?) he)) with ha_ _ _; rw [ha_]; exact g3_)⟩
theorem k37_mkF (W : World) (ok : Nat → Prop) (x : S37) {A3 : Option Addr} {c3 : Nat} (l3 : x.f3.length ≤ c3) (g3 : Kd.F k176 W ok A3 x.f3.length x.f3) : Kd.FK k37 W ok x [.int .i64 x.f0, .string x.f1, .string x.f2, .slice A3 x.f3.length c3, .bool x.f4] := fun W2 hW => k37_mk W2 x l3 (g3 W2 hW)
def rd_T37 (xs : List S37) (i : Int) : S37 := xs.getD i.toNat z37
theorem at_T37 {w : World} {A : Option Addr} {n : Nat} {xs : List S37} (h : Kd.C k37 w A n xs) (i : Int) (h0 : 0 ≤ i) (h1 : i < n) : ∃ ad A3 c3, A = some ad ∧ w.cell? (ad.add (i.toNat * 5)) = some (.int .i64 (rd_T37 xs i).f0) ∧ w.cell? ⟨(ad.add (i.toNat * 5)).block, (ad.add (i.toNat * 5)).off + 1, none⟩ = some (.string (rd_T37 xs i).f1) ∧ w.cell? ⟨(ad.add (i.toNat * 5)).block, (ad.add (i.toNat * 5)).off + 2, none⟩ = some (.string (rd_T37 xs i).f2) ∧ w.cell? ⟨(ad.add (i.toNat * 5)).block, (ad.add (i.toNat * 5)).off + 3, none⟩ = some (.slice A3 (rd_T37 xs i).f3.length c3) ∧ w.cell? ⟨(ad.add (i.toNat * 5)).block, (ad.add (i.toNat * 5)).off + 4, none⟩ = some (.bool (rd_T37 xs i).f4) ∧ (rd_T37 xs i).f3.length ≤ c3 ∧ k176.C w A3 (rd_T37 xs i).f3.length (rd_T37 xs i).f3 := by
  obtain ⟨ad, c, e, _, hK, hc0⟩ := Kd.C_get h z37 i h0 h1
  have hc : ∀ j u, c[j]? = some u → w.cell? (ad.add (i.toNat * 5 + j)) = some u := hc0
  obtain ⟨A3, c3, rfl, l3, g3⟩ := k37_open hK
  exact ⟨ad, A3, c3, e, hc 0 _ rfl, by rw [← add_field _ _ 1 (by omega)]; exact hc 1 _ rfl, by rw [← add_field _ _ 2 (by omega)]; exact hc 2 _ rfl, by rw [← add_field _ _ 3 (by omega)]; exact hc 3 _ rfl, by rw [← add_field _ _ 4 (by omega)]; exact hc 4 _ rfl, l3, g3⟩

/-! #### struct type 72 -/
structure S72 where
  f0 : Int
  f1 : Int
def z72 : S72 := ⟨(0 : Int), (0 : Int)⟩
def k72 : Kd S72 := Kd.iso (Kd.pair (Kd.int .u8) (Kd.int .u8)) (fun x : S72 => (x.f0, x.f1))
theorem k72_heap : Kd.Heap k72 := Kd.heap_iso _ (Kd.heap_pair (Kd.heap_int .u8) (Kd.heap_int .u8))
theorem k72_open {w : World} {x : S72} {cs : List Value} (h : k72.K w x cs) : cs = [.int .u8 x.f0, .int .u8 x.f1] := by
  obtain ⟨_, _, rfl, rfl, rfl⟩ := h
  exact rfl
theorem k72_openM {w : World} {base : Nat} {ok : Nat → Prop} {x : S72} {cs : List Value} (h : k72.M w base ok x cs) : cs = [.int .u8 x.f0, .int .u8 x.f1] := by
  obtain ⟨_, _, rfl, rfl, rfl⟩ := h
  exact rfl
theorem k72_mk (w : World) (x : S72)  : k72.K w x [.int .u8 x.f0, .int .u8 x.f1] := ⟨[.int .u8 x.f0], [.int .u8 x.f1], rfl, rfl, rfl⟩
theorem k72_mkM (w : World) (base : Nat) (ok : Nat → Prop) (x : S72)  : k72.M w base ok x [.int .u8 x.f0, .int .u8 x.f1] := ⟨[.int .u8 x.f0], [.int .u8 x.f1], rfl, rfl, rfl⟩
theorem k72_mkF (W : World) (ok : Nat → Prop) (x : S72) : Kd.FK k72 W ok x [.int .u8 x.f0, .int .u8 x.f1] := fun W2 _ => k72_mk W2 x
def rd_T72 (xs : List S72) (i : Int) : S72 := xs.getD i.toNat z72
theorem at_T72 {w : World} {A : Option Addr} {n : Nat} {xs : List S72} (h : Kd.C k72 w A n xs) (i : Int) (h0 : 0 ≤ i) (h1 : i < n) : ∃ ad , A = some ad ∧ w.cell? (ad.add (i.toNat * 2)) = some (.int .u8 (rd_T72 xs i).f0) ∧ w.cell? ⟨(ad.add (i.toNat * 2)).block, (ad.add (i.toNat * 2)).off + 1, none⟩ = some (.int .u8 (rd_T72 xs i).f1) := by
  obtain ⟨ad, c, e, _, hK, hc0⟩ := Kd.C_get h z72 i h0 h1
  have hc : ∀ j u, c[j]? = some u → w.cell? (ad.add (i.toNat * 2 + j)) = some u := hc0
  obtain rfl := k72_open hK
  exact ⟨ad, e, hc 0 _ rfl, by rw [← add_field _ _ 1 (by omega)]; exact hc 1 _ rfl⟩

/-! #### struct type 73 -/
structure S73 where
  f0 : Int
  f1 : Int
def z73 : S73 := ⟨(0 : Int), (0 : Int)⟩
def k73 : Kd S73 := Kd.iso (Kd.pair (Kd.int .u8) (Kd.int .u8)) (fun x : S73 => (x.f0, x.f1))
theorem k73_heap : Kd.Heap k73 := Kd.heap_iso _ (Kd.heap_pair (Kd.heap_int .u8) (Kd.heap_int .u8))
theorem k73_open {w : World} {x : S73} {cs : List Value} (h : k73.K w x cs) : cs = [.int .u8 x.f0, .int .u8 x.f1] := by
  obtain ⟨_, _, rfl, rfl, rfl⟩ := h
  exact rfl
theorem k73_openM {w : World} {base : Nat} {ok : Nat → Prop} {x : S73} {cs : List Value} (h : k73.M w base ok x cs) : cs = [.int .u8 x.f0, .int .u8 x.f1] := by
  obtain ⟨_, _, rfl, rfl, rfl⟩ := h
  exact rfl
theorem k73_mk (w : World) (x : S73)  : k73.K w x [.int .u8 x.f0, .int .u8 x.f1] := ⟨[.int .u8 x.f0], [.int .u8 x.f1], rfl, rfl, rfl⟩
theorem k73_mkM (w : World) (base : Nat) (ok : Nat → Prop) (x : S73)  : k73.M w base ok x [.int .u8 x.f0, .int .u8 x.f1] := ⟨[.int .u8 x.f0], [.int .u8 x.f1], rfl, rfl, rfl⟩
theorem k73_mkF (W : World) (ok : Nat → Prop) (x : S73) : Kd.FK k73 W ok x [.int .u8 x.f0, .int .u8 x.f1] := fun W2 _ => k73_mk W2 x
def rd_T73 (xs : List S73) (i : Int) : S73 := xs.getD i.toNat z73
theorem at_T73 {w : World} {A : Option Addr} {n : Nat} {xs : List S73} (h : Kd.C k73 w A n xs) (i : Int) (h0 : 0 ≤ i) (h1 : i < n) : ∃ ad , A = some ad ∧ w.cell? (ad.add (i.toNat * 2)) = some (.int .u8 (rd_T73 xs i).f0) ∧ w.cell? ⟨(ad.add (i.toNat * 2)).block, (ad.add (i.toNat * 2)).off + 1, none⟩ = some (.int .u8 (rd_T73 xs i).f1) := by
  obtain ⟨ad, c, e, _, hK, hc0⟩ := Kd.C_get h z73 i h0 h1
  have hc : ∀ j u, c[j]? = some u → w.cell? (ad.add (i.toNat * 2 + j)) = some u := hc0
  obtain rfl := k73_open hK
  exact ⟨ad, e, hc 0 _ rfl, by rw [← add_field _ _ 1 (by omega)]; exact hc 1 _ rfl⟩

def rd_L19 (xs : List (List ByteArray)) (i : Int) : (List ByteArray) := xs.getD i.toNat ([] : List ByteArray)
theorem at_L19 {w : World} {A : Option Addr} {n : Nat} {xs : List (List ByteArray)} (h : Kd.C (Kd.slice 9 Kd.string) w A n xs) (i : Int) (h0 : 0 ≤ i) (h1 : i < n) : ∃ ad A0 c0, A = some ad ∧ w.cell? (ad.add i.toNat) = some (.slice A0 (rd_L19 xs i).length c0) ∧ (rd_L19 xs i).length ≤ c0 ∧ Kd.string.C w A0 (rd_L19 xs i).length (rd_L19 xs i) := by
  obtain ⟨ad, c, e, _, hK, hc0⟩ := Kd.C_get h ([] : List ByteArray) i h0 h1
  have hc : ∀ j u, c[j]? = some u → w.cell? (ad.add (i.toNat * 1 + j)) = some u := hc0
  obtain ⟨A0, c0, rfl, l0, g0⟩ := hK
  exact ⟨ad, A0, c0, e, by have hq := hc 0 _ rfl; rwa [Nat.mul_one, Nat.add_zero] at hq, l0, g0⟩

/-! #### struct type 100 -/
structure S100 where
  f0 : Int
  f1 : Int
def z100 : S100 := ⟨(0 : Int), (0 : Int)⟩
def k100 : Kd S100 := Kd.iso (Kd.pair (Kd.int .i32) (Kd.int .u32)) (fun x : S100 => (x.f0, x.f1))
theorem k100_heap : Kd.Heap k100 := Kd.heap_iso _ (Kd.heap_pair (Kd.heap_int .i32) (Kd.heap_int .u32))
theorem k100_open {w : World} {x : S100} {cs : List Value} (h : k100.K w x cs) : cs = [.int .i32 x.f0, .int .u32 x.f1] := by
  obtain ⟨_, _, rfl, rfl, rfl⟩ := h
  exact rfl
theorem k100_openM {w : World} {base : Nat} {ok : Nat → Prop} {x : S100} {cs : List Value} (h : k100.M w base ok x cs) : cs = [.int .i32 x.f0, .int .u32 x.f1] := by
  obtain ⟨_, _, rfl, rfl, rfl⟩ := h
  exact rfl
theorem k100_mk (w : World) (x : S100)  : k100.K w x [.int .i32 x.f0, .int .u32 x.f1] := ⟨[.int .i32 x.f0], [.int .u32 x.f1], rfl, rfl, rfl⟩
theorem k100_mkM (w : World) (base : Nat) (ok : Nat → Prop) (x : S100)  : k100.M w base ok x [.int .i32 x.f0, .int .u32 x.f1] := ⟨[.int .i32 x.f0], [.int .u32 x.f1], rfl, rfl, rfl⟩
theorem k100_mkF (W : World) (ok : Nat → Prop) (x : S100) : Kd.FK k100 W ok x [.int .i32 x.f0, .int .u32 x.f1] := fun W2 _ => k100_mk W2 x
def rd_T100 (xs : List S100) (i : Int) : S100 := xs.getD i.toNat z100
theorem at_T100 {w : World} {A : Option Addr} {n : Nat} {xs : List S100} (h : Kd.C k100 w A n xs) (i : Int) (h0 : 0 ≤ i) (h1 : i < n) : ∃ ad , A = some ad ∧ w.cell? (ad.add (i.toNat * 2)) = some (.int .i32 (rd_T100 xs i).f0) ∧ w.cell? ⟨(ad.add (i.toNat * 2)).block, (ad.add (i.toNat * 2)).off + 1, none⟩ = some (.int .u32 (rd_T100 xs i).f1) := by
  obtain ⟨ad, c, e, _, hK, hc0⟩ := Kd.C_get h z100 i h0 h1
  have hc : ∀ j u, c[j]? = some u → w.cell? (ad.add (i.toNat * 2 + j)) = some u := hc0
  obtain rfl := k100_open hK
  exact ⟨ad, e, hc 0 _ rfl, by rw [← add_field _ _ 1 (by omega)]; exact hc 1 _ rfl⟩

/-! #### struct type 101 -/
structure S101 where
  f0 : Int
  f1 : Int
def z101 : S101 := ⟨(0 : Int), (0 : Int)⟩
def k101 : Kd S101 := Kd.iso (Kd.pair (Kd.int .i32) (Kd.int .u32)) (fun x : S101 => (x.f0, x.f1))
theorem k101_heap : Kd.Heap k101 := Kd.heap_iso _ (Kd.heap_pair (Kd.heap_int .i32) (Kd.heap_int .u32))
theorem k101_open {w : World} {x : S101} {cs : List Value} (h : k101.K w x cs) : cs = [.int .i32 x.f0, .int .u32 x.f1] := by
  obtain ⟨_, _, rfl, rfl, rfl⟩ := h
  exact rfl
theorem k101_openM {w : World} {base : Nat} {ok : Nat → Prop} {x : S101} {cs : List Value} (h : k101.M w base ok x cs) : cs = [.int .i32 x.f0, .int .u32 x.f1] := by
  obtain ⟨_, _, rfl, rfl, rfl⟩ := h
  exact rfl
theorem k101_mk (w : World) (x : S101)  : k101.K w x [.int .i32 x.f0, .int .u32 x.f1] := ⟨[.int .i32 x.f0], [.int .u32 x.f1], rfl, rfl, rfl⟩
theorem k101_mkM (w : World) (base : Nat) (ok : Nat → Prop) (x : S101)  : k101.M w base ok x [.int .i32 x.f0, .int .u32 x.f1] := ⟨[.int .i32 x.f0], [.int .u32 x.f1], rfl, rfl, rfl⟩
theorem k101_mkF (W : World) (ok : Nat → Prop) (x : S101) : Kd.FK k101 W ok x [.int .i32 x.f0, .int .u32 x.f1] := fun W2 _ => k101_mk W2 x
def rd_T101 (xs : List S101) (i : Int) : S101 := xs.getD i.toNat z101
theorem at_T101 {w : World} {A : Option Addr} {n : Nat} {xs : List S101} (h : Kd.C k101 w A n xs) (i : Int) (h0 : 0 ≤ i) (h1 : i < n) : ∃ ad , A = some ad ∧ w.cell? (ad.add (i.toNat * 2)) = some (.int .i32 (rd_T101 xs i).f0) ∧ w.cell? ⟨(ad.add (i.toNat * 2)).block, (ad.add (i.toNat * 2)).off + 1, none⟩ = some (.int .u32 (rd_T101 xs i).f1) := by
  obtain ⟨ad, c, e, _, hK, hc0⟩ := Kd.C_get h z101 i h0 h1
  have hc : ∀ j u, c[j]? = some u → w.cell? (ad.add (i.toNat * 2 + j)) = some u := hc0
  obtain rfl := k101_open hK
  exact ⟨ad, e, hc 0 _ rfl, by rw [← add_field _ _ 1 (by omega)]; exact hc 1 _ rfl⟩

/-! #### struct type 116 -/
structure S116 where
  f0 : Int
  f1 : Int
def z116 : S116 := ⟨(0 : Int), (0 : Int)⟩
def k116 : Kd S116 := Kd.iso (Kd.pair (Kd.int .u8) (Kd.int .u8)) (fun x : S116 => (x.f0, x.f1))
theorem k116_heap : Kd.Heap k116 := Kd.heap_iso _ (Kd.heap_pair (Kd.heap_int .u8) (Kd.heap_int .u8))
theorem k116_open {w : World} {x : S116} {cs : List Value} (h : k116.K w x cs) : cs = [.int .u8 x.f0, .int .u8 x.f1] := by
  obtain ⟨_, _, rfl, rfl, rfl⟩ := h
  exact rfl
theorem k116_openM {w : World} {base : Nat} {ok : Nat → Prop} {x : S116} {cs : List Value} (h : k116.M w base ok x cs) : cs = [.int .u8 x.f0, .int .u8 x.f1] := by
  obtain ⟨_, _, rfl, rfl, rfl⟩ := h
  exact rfl
theorem k116_mk (w : World) (x : S116)  : k116.K w x [.int .u8 x.f0, .int .u8 x.f1] := ⟨[.int .u8 x.f0], [.int .u8 x.f1], rfl, rfl, rfl⟩
theorem k116_mkM (w : World) (base : Nat) (ok : Nat → Prop) (x : S116)  : k116.M w base ok x [.int .u8 x.f0, .int .u8 x.f1] := ⟨[.int .u8 x.f0], [.int .u8 x.f1], rfl, rfl, rfl⟩
theorem k116_mkF (W : World) (ok : Nat → Prop) (x : S116) : Kd.FK k116 W ok x [.int .u8 x.f0, .int .u8 x.f1] := fun W2 _ => k116_mk W2 x
def rd_T116 (xs : List S116) (i : Int) : S116 := xs.getD i.toNat z116
theorem at_T116 {w : World} {A : Option Addr} {n : Nat} {xs : List S116} (h : Kd.C k116 w A n xs) (i : Int) (h0 : 0 ≤ i) (h1 : i < n) : ∃ ad , A = some ad ∧ w.cell? (ad.add (i.toNat * 2)) = some (.int .u8 (rd_T116 xs i).f0) ∧ w.cell? ⟨(ad.add (i.toNat * 2)).block, (ad.add (i.toNat * 2)).off + 1, none⟩ = some (.int .u8 (rd_T116 xs i).f1) := by
  obtain ⟨ad, c, e, _, hK, hc0⟩ := Kd.C_get h z116 i h0 h1
  have hc : ∀ j u, c[j]? = some u → w.cell? (ad.add (i.toNat * 2 + j)) = some u := hc0
  obtain rfl := k116_open hK
  exact ⟨ad, e, hc 0 _ rfl, by rw [← add_field _ _ 1 (by omega)]; exact hc 1 _ rfl⟩

/-! #### struct type 117 -/
structure S117 where
  f0 : Int
  f1 : Int
def z117 : S117 := ⟨(0 : Int), (0 : Int)⟩
def k117 : Kd S117 := Kd.iso (Kd.pair (Kd.int .u8) (Kd.int .u8)) (fun x : S117 => (x.f0, x.f1))
theorem k117_heap : Kd.Heap k117 := Kd.heap_iso _ (Kd.heap_pair (Kd.heap_int .u8) (Kd.heap_int .u8))
theorem k117_open {w : World} {x : S117} {cs : List Value} (h : k117.K w x cs) : cs = [.int .u8 x.f0, .int .u8 x.f1] := by
  obtain ⟨_, _, rfl, rfl, rfl⟩ := h
  exact rfl
theorem k117_openM {w : World} {base : Nat} {ok : Nat → Prop} {x : S117} {cs : List Value} (h : k117.M w base ok x cs) : cs = [.int .u8 x.f0, .int .u8 x.f1] := by
  obtain ⟨_, _, rfl, rfl, rfl⟩ := h
  exact rfl
theorem k117_mk (w : World) (x : S117)  : k117.K w x [.int .u8 x.f0, .int .u8 x.f1] := ⟨[.int .u8 x.f0], [.int .u8 x.f1], rfl, rfl, rfl⟩
theorem k117_mkM (w : World) (base : Nat) (ok : Nat → Prop) (x : S117)  : k117.M w base ok x [.int .u8 x.f0, .int .u8 x.f1] := ⟨[.int .u8 x.f0], [.int .u8 x.f1], rfl, rfl, rfl⟩
theorem k117_mkF (W : World) (ok : Nat → Prop) (x : S117) : Kd.FK k117 W ok x [.int .u8 x.f0, .int .u8 x.f1] := fun W2 _ => k117_mk W2 x
def rd_T117 (xs : List S117) (i : Int) : S117 := xs.getD i.toNat z117
theorem at_T117 {w : World} {A : Option Addr} {n : Nat} {xs : List S117} (h : Kd.C k117 w A n xs) (i : Int) (h0 : 0 ≤ i) (h1 : i < n) : ∃ ad , A = some ad ∧ w.cell? (ad.add (i.toNat * 2)) = some (.int .u8 (rd_T117 xs i).f0) ∧ w.cell? ⟨(ad.add (i.toNat * 2)).block, (ad.add (i.toNat * 2)).off + 1, none⟩ = some (.int .u8 (rd_T117 xs i).f1) := by
  obtain ⟨ad, c, e, _, hK, hc0⟩ := Kd.C_get h z117 i h0 h1
  have hc : ∀ j u, c[j]? = some u → w.cell? (ad.add (i.toNat * 2 + j)) = some u := hc0
  obtain rfl := k117_open hK
  exact ⟨ad, e, hc 0 _ rfl, by rw [← add_field _ _ 1 (by omega)]; exact hc 1 _ rfl⟩

def rd_L26 (xs : List (List Int)) (i : Int) : (List Int) := xs.getD i.toNat ([] : List Int)
theorem at_L26 {w : World} {A : Option Addr} {n : Nat} {xs : List (List Int)} (h : Kd.C (Kd.slice 3 (Kd.int .i64)) w A n xs) (i : Int) (h0 : 0 ≤ i) (h1 : i < n) : ∃ ad A0 c0, A = some ad ∧ w.cell? (ad.add i.toNat) = some (.slice A0 (rd_L26 xs i).length c0) ∧ (rd_L26 xs i).length ≤ c0 ∧ (Kd.int .i64).C w A0 (rd_L26 xs i).length (rd_L26 xs i) := by
  obtain ⟨ad, c, e, _, hK, hc0⟩ := Kd.C_get h ([] : List Int) i h0 h1
  have hc : ∀ j u, c[j]? = some u → w.cell? (ad.add (i.toNat * 1 + j)) = some u := hc0
  obtain ⟨A0, c0, rfl, l0, g0⟩ := hK
  exact ⟨ad, A0, c0, e, by have hq := hc 0 _ rfl; rwa [Nat.mul_one, Nat.add_zero] at hq, l0, g0⟩

/-! #### struct type 175 -/
structure S175 where
  f0 : ByteArray
  f1 : ByteArray
def z175 : S175 := ⟨(⟨#[]⟩ : ByteArray), (⟨#[]⟩ : ByteArray)⟩
def k175 : Kd S175 := Kd.iso (Kd.pair Kd.string Kd.string) (fun x : S175 => (x.f0, x.f1))
theorem k175_heap : Kd.Heap k175 := Kd.heap_iso _ (Kd.heap_pair Kd.heap_string Kd.heap_string)
theorem k175_open {w : World} {x : S175} {cs : List Value} (h : k175.K w x cs) : cs = [.string x.f0, .string x.f1] := by
  obtain ⟨_, _, rfl, rfl, rfl⟩ := h
  exact rfl
theorem k175_openM {w : World} {base : Nat} {ok : Nat → Prop} {x : S175} {cs : List Value} (h : k175.M w base ok x cs) : cs = [.string x.f0, .string x.f1] := by
  obtain ⟨_, _, rfl, rfl, rfl⟩ := h
  exact rfl
theorem k175_mk (w : World) (x : S175)  : k175.K w x [.string x.f0, .string x.f1] := ⟨[.string x.f0], [.string x.f1], rfl, rfl, rfl⟩
theorem k175_mkM (w : World) (base : Nat) (ok : Nat → Prop) (x : S175)  : k175.M w base ok x [.string x.f0, .string x.f1] := ⟨[.string x.f0], [.string x.f1], rfl, rfl, rfl⟩
theorem k175_mkF (W : World) (ok : Nat → Prop) (x : S175) : Kd.FK k175 W ok x [.string x.f0, .string x.f1] := fun W2 _ => k175_mk W2 x
def rd_T175 (xs : List S175) (i : Int) : S175 := xs.getD i.toNat z175
theorem at_T175 {w : World} {A : Option Addr} {n : Nat} {xs : List S175} (h : Kd.C k175 w A n xs) (i : Int) (h0 : 0 ≤ i) (h1 : i < n) : ∃ ad , A = some ad ∧ w.cell? (ad.add (i.toNat * 2)) = some (.string (rd_T175 xs i).f0) ∧ w.cell? ⟨(ad.add (i.toNat * 2)).block, (ad.add (i.toNat * 2)).off + 1, none⟩ = some (.string (rd_T175 xs i).f1) := by
  obtain ⟨ad, c, e, _, hK, hc0⟩ := Kd.C_get h z175 i h0 h1
  have hc : ∀ j u, c[j]? = some u → w.cell? (ad.add (i.toNat * 2 + j)) = some u := hc0
  obtain rfl := k175_open hK
  exact ⟨ad, e, hc 0 _ rfl, by rw [← add_field _ _ 1 (by omega)]; exact hc 1 _ rfl⟩

end Go.Proofs.YtajfpegacbohdaaDoor.K0
