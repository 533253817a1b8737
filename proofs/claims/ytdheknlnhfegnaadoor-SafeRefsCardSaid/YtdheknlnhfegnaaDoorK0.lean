-- Written by a program of this session over the kit's printer: not by hand.
import Derived.Test.YtdheknlnhfegnaaDoorProg
import Derived.Below
import Derived.Deep.Draws
import Derived.Deep.AppendLies
import Derived.Maps.AppendAt
import Derived.OwnWalk
import Derived.Laws.BytesArg
import Derived.Laws.MakeOwn
import Derived.Laws.OwnMore
import Derived.Deep.OwnRows
import Derived.Tactics
import Derived.Lib.ConvBytes
import Derived.Laws.Slices
import Derived.WalkKit
import Derived.KernelRfl
import Derived.RowKit3
import Derived.Deep.LoopGhost
import Derived.Deep.QuietTactic
import Derived.BigQuiet
import Derived.WideLaws
import Derived.Deep.DeepCutAuto
import Derived.Deep.CutBlock
import Derived.Deep.RegionHeld3
import Derived.Laws.Rows
import Derived.Lib.AppendStr
import Derived.ArgAppend
import Derived.Laws.IdiomCopy
import Derived.OrdersHeld
import Derived.Laws.BitsLemmas
import Derived.RowKit
import Derived.Test.YtdheknlnhfegnaaDoorWWords
import Derived.Test.YtdheknlnhfegnaaDoorWLast
import Derived.Test.YtdheknlnhfegnaaDoorWTab
import Derived.Test.YtdheknlnhfegnaaDoorWFour
import Derived.Test.YtdheknlnhfegnaaDoorWQPut
import Derived.Test.YtdheknlnhfegnaaDoorWApart
import Derived.Test.YtdheknlnhfegnaaDoorWArr
import Derived.Test.YtdheknlnhfegnaaDoorWZeros
import Derived.Test.YtdheknlnhfegnaaDoorWFoot
import Derived.Test.YtdheknlnhfegnaaDoorWKept
import Derived.Test.YtdheknlnhfegnaaDoorWShare
import Derived.Test.YtdheknlnhfegnaaDoorWN
import Derived.Test.YtdheknlnhfegnaaDoorWFootNe
import Derived.Test.YtdheknlnhfegnaaDoorWAt
import Derived.Test.YtdheknlnhfegnaaDoorWEqStruct
import Derived.Test.YtdheknlnhfegnaaDoorWRepsOne
import Derived.Test.YtdheknlnhfegnaaDoorWInv
import Derived.Test.YtdheknlnhfegnaaDoorWInvWords
import Derived.Test.YtdheknlnhfegnaaDoorWGuard
import Derived.Test.YtdheknlnhfegnaaDoorWNEv
import Derived.Test.YtdheknlnhfegnaaDoorWMore
namespace Go.Proofs.YtdheknlnhfegnaaDoor.K0
open Go.RowKit Go.Proofs.YtdheknlnhfegnaaDoorW.PrintWords Go.Proofs.YtdheknlnhfegnaaDoorW.PrintLast Go.Proofs.YtdheknlnhfegnaaDoorW.PrintMore
attribute [local go_sem] max2_int min2_int max_two min_two max_three min_three max_four min_four   -- for this text's walks alone
set_option linter.unusedVariables false
set_option linter.unusedSimpArgs false

/-! #### struct type 7 -/
structure S7 where
  f0 : Int
  f1 : Int
  f2 : Bool
  f3 : Int
def z7 : S7 := ⟨(0 : Int), (0 : Int), false, (0 : Int)⟩
def k7 : Kd S7 := Kd.iso (Kd.pair (Kd.int .i64) (Kd.pair (Kd.int .i64) (Kd.pair Kd.bool (Kd.int .u8)))) (fun x : S7 => (x.f0, x.f1, x.f2, x.f3))
theorem k7_heap : Kd.Heap k7 := Kd.heap_iso _ (Kd.heap_pair (Kd.heap_int .i64) (Kd.heap_pair (Kd.heap_int .i64) (Kd.heap_pair Kd.heap_bool (Kd.heap_int .u8))))
theorem k7_open {w : World} {x : S7} {cs : List Value} (h : k7.K w x cs) : cs = [.int .i64 x.f0, .int .i64 x.f1, .bool x.f2, .int .u8 x.f3] := by
  obtain ⟨_, _, rfl, rfl, ⟨_, _, rfl, rfl, ⟨_, _, rfl, rfl, rfl⟩⟩⟩ := h
  exact rfl
theorem k7_openM {w : World} {base : Nat} {ok : Nat → Prop} {x : S7} {cs : List Value} (h : k7.M w base ok x cs) : cs = [.int .i64 x.f0, .int .i64 x.f1, .bool x.f2, .int .u8 x.f3] := by
  obtain ⟨_, _, rfl, rfl, ⟨_, _, rfl, rfl, ⟨_, _, rfl, rfl, rfl⟩⟩⟩ := h
  exact rfl
theorem k7_mk (w : World) (x : S7)  : k7.K w x [.int .i64 x.f0, .int .i64 x.f1, .bool x.f2, .int .u8 x.f3] := ⟨[.int .i64 x.f0], [.int .i64 x.f1, .bool x.f2, .int .u8 x.f3], rfl, rfl, ⟨[.int .i64 x.f1], [.bool x.f2, .int .u8 x.f3], rfl, rfl, ⟨[.bool x.f2], [.int .u8 x.f3], rfl, rfl, rfl⟩⟩⟩
theorem k7_mkM (w : World) (base : Nat) (ok : Nat → Prop) (x : S7)  : k7.M w base ok x [.int .i64 x.f0, .int .i64 x.f1, .bool x.f2, .int .u8 x.f3] := ⟨[.int .i64 x.f0], [.int .i64 x.f1, .bool x.f2, .int .u8 x.f3], rfl, rfl, ⟨[.int .i64 x.f1], [.bool x.f2, .int .u8 x.f3], rfl, rfl, ⟨[.bool x.f2], [.int .u8 x.f3], rfl, rfl, rfl⟩⟩⟩
theorem k7_mkF (W : World) (ok : Nat → Prop) (x : S7) : Kd.FK k7 W ok x [.int .i64 x.f0, .int .i64 x.f1, .bool x.f2, .int .u8 x.f3] := fun W2 _ => k7_mk W2 x
def rd_T7 (xs : List S7) (i : Int) : S7 := xs.getD i.toNat z7
theorem at_T7 {w : World} {A : Option Addr} {n : Nat} {xs : List S7} (h : Kd.C k7 w A n xs) (i : Int) (h0 : 0 ≤ i) (h1 : i < n) : ∃ ad , A = some ad ∧ w.cell? (ad.add (i.toNat * 4)) = some (.int .i64 (rd_T7 xs i).f0) ∧ w.cell? ⟨(ad.add (i.toNat * 4)).block, (ad.add (i.toNat * 4)).off + 1, none⟩ = some (.int .i64 (rd_T7 xs i).f1) ∧ w.cell? ⟨(ad.add (i.toNat * 4)).block, (ad.add (i.toNat * 4)).off + 2, none⟩ = some (.bool (rd_T7 xs i).f2) ∧ w.cell? ⟨(ad.add (i.toNat * 4)).block, (ad.add (i.toNat * 4)).off + 3, none⟩ = some (.int .u8 (rd_T7 xs i).f3) := by
  obtain ⟨ad, c, e, _, hK, hc0⟩ := Kd.C_get h z7 i h0 h1
  have hc : ∀ j u, c[j]? = some u → w.cell? (ad.add (i.toNat * 4 + j)) = some u := hc0
  obtain rfl := k7_open hK
  exact ⟨ad, e, hc 0 _ rfl, by rw [← add_field _ _ 1 (by omega)]; exact hc 1 _ rfl, by rw [← add_field _ _ 2 (by omega)]; exact hc 2 _ rfl, by rw [← add_field _ _ 3 (by omega)]; exact hc 3 _ rfl⟩

/-! #### struct type 8 -/
structure S8 where
  f0 : Int
  f1 : Int
  f2 : Bool
  f3 : Int
def z8 : S8 := ⟨(0 : Int), (0 : Int), false, (0 : Int)⟩
def k8 : Kd S8 := Kd.iso (Kd.pair (Kd.int .i64) (Kd.pair (Kd.int .i64) (Kd.pair Kd.bool (Kd.int .u8)))) (fun x : S8 => (x.f0, x.f1, x.f2, x.f3))
theorem k8_heap : Kd.Heap k8 := Kd.heap_iso _ (Kd.heap_pair (Kd.heap_int .i64) (Kd.heap_pair (Kd.heap_int .i64) (Kd.heap_pair Kd.heap_bool (Kd.heap_int .u8))))
theorem k8_open {w : World} {x : S8} {cs : List Value} (h : k8.K w x cs) : cs = [.int .i64 x.f0, .int .i64 x.f1, .bool x.f2, .int .u8 x.f3] := by
  obtain ⟨_, _, rfl, rfl, ⟨_, _, rfl, rfl, ⟨_, _, rfl, rfl, rfl⟩⟩⟩ := h
  exact rfl
theorem k8_openM {w : World} {base : Nat} {ok : Nat → Prop} {x : S8} {cs : List Value} (h : k8.M w base ok x cs) : cs = [.int .i64 x.f0, .int .i64 x.f1, .bool x.f2, .int .u8 x.f3] := by
  obtain ⟨_, _, rfl, rfl, ⟨_, _, rfl, rfl, ⟨_, _, rfl, rfl, rfl⟩⟩⟩ := h
  exact rfl
theorem k8_mk (w : World) (x : S8)  : k8.K w x [.int .i64 x.f0, .int .i64 x.f1, .bool x.f2, .int .u8 x.f3] := ⟨[.int .i64 x.f0], [.int .i64 x.f1, .bool x.f2, .int .u8 x.f3], rfl, rfl, ⟨[.int .i64 x.f1], [.bool x.f2, .int .u8 x.f3], rfl, rfl, ⟨[.bool x.f2], [.int .u8 x.f3], rfl, rfl, rfl⟩⟩⟩
theorem k8_mkM (w : World) (base : Nat) (ok : Nat → Prop) (x : S8)  : k8.M w base ok x [.int .i64 x.f0, .int .i64 x.f1, .bool x.f2, .int .u8 x.f3] := ⟨[.int .i64 x.f0], [.int .i64 x.f1, .bool x.f2, .int .u8 x.f3], rfl, rfl, ⟨[.int .i64 x.f1], [.bool x.f2, .int .u8 x.f3], rfl, rfl, ⟨[.bool x.f2], [.int .u8 x.f3], rfl, rfl, rfl⟩⟩⟩
theorem k8_mkF (W : World) (ok : Nat → Prop) (x : S8) : Kd.FK k8 W ok x [.int .i64 x.f0, .int .i64 x.f1, .bool x.f2, .int .u8 x.f3] := fun W2 _ => k8_mk W2 x
def rd_T8 (xs : List S8) (i : Int) : S8 := xs.getD i.toNat z8
theorem at_T8 {w : World} {A : Option Addr} {n : Nat} {xs : List S8} (h : Kd.C k8 w A n xs) (i : Int) (h0 : 0 ≤ i) (h1 : i < n) : ∃ ad , A = some ad ∧ w.cell? (ad.add (i.toNat * 4)) = some (.int .i64 (rd_T8 xs i).f0) ∧ w.cell? ⟨(ad.add (i.toNat * 4)).block, (ad.add (i.toNat * 4)).off + 1, none⟩ = some (.int .i64 (rd_T8 xs i).f1) ∧ w.cell? ⟨(ad.add (i.toNat * 4)).block, (ad.add (i.toNat * 4)).off + 2, none⟩ = some (.bool (rd_T8 xs i).f2) ∧ w.cell? ⟨(ad.add (i.toNat * 4)).block, (ad.add (i.toNat * 4)).off + 3, none⟩ = some (.int .u8 (rd_T8 xs i).f3) := by
  obtain ⟨ad, c, e, _, hK, hc0⟩ := Kd.C_get h z8 i h0 h1
  have hc : ∀ j u, c[j]? = some u → w.cell? (ad.add (i.toNat * 4 + j)) = some u := hc0
  obtain rfl := k8_open hK
  exact ⟨ad, e, hc 0 _ rfl, by rw [← add_field _ _ 1 (by omega)]; exact hc 1 _ rfl, by rw [← add_field _ _ 2 (by omega)]; exact hc 2 _ rfl, by rw [← add_field _ _ 3 (by omega)]; exact hc 3 _ rfl⟩

/-! #### struct type 13 -/
structure S13 where
  f0 : ByteArray
  f1 : Int
def z13 : S13 := ⟨(⟨#[]⟩ : ByteArray), (0 : Int)⟩
def k13 : Kd S13 := Kd.iso (Kd.pair Kd.string (Kd.int .u64)) (fun x : S13 => (x.f0, x.f1))
theorem k13_heap : Kd.Heap k13 := Kd.heap_iso _ (Kd.heap_pair Kd.heap_string (Kd.heap_int .u64))
theorem k13_open {w : World} {x : S13} {cs : List Value} (h : k13.K w x cs) : cs = [.string x.f0, .int .u64 x.f1] := by
  obtain ⟨_, _, rfl, rfl, rfl⟩ := h
  exact rfl
theorem k13_openM {w : World} {base : Nat} {ok : Nat → Prop} {x : S13} {cs : List Value} (h : k13.M w base ok x cs) : cs = [.string x.f0, .int .u64 x.f1] := by
  obtain ⟨_, _, rfl, rfl, rfl⟩ := h
  exact rfl
theorem k13_mk (w : World) (x : S13)  : k13.K w x [.string x.f0, .int .u64 x.f1] := ⟨[.string x.f0], [.int .u64 x.f1], rfl, rfl, rfl⟩
theorem k13_mkM (w : World) (base : Nat) (ok : Nat → Prop) (x : S13)  : k13.M w base ok x [.string x.f0, .int .u64 x.f1] := ⟨[.string x.f0], [.int .u64 x.f1], rfl, rfl, rfl⟩
theorem k13_mkF (W : World) (ok : Nat → Prop) (x : S13) : Kd.FK k13 W ok x [.string x.f0, .int .u64 x.f1] := fun W2 _ => k13_mk W2 x
def rd_T13 (xs : List S13) (i : Int) : S13 := xs.getD i.toNat z13
theorem at_T13 {w : World} {A : Option Addr} {n : Nat} {xs : List S13} (h : Kd.C k13 w A n xs) (i : Int) (h0 : 0 ≤ i) (h1 : i < n) : ∃ ad , A = some ad ∧ w.cell? (ad.add (i.toNat * 2)) = some (.string (rd_T13 xs i).f0) ∧ w.cell? ⟨(ad.add (i.toNat * 2)).block, (ad.add (i.toNat * 2)).off + 1, none⟩ = some (.int .u64 (rd_T13 xs i).f1) := by
  obtain ⟨ad, c, e, _, hK, hc0⟩ := Kd.C_get h z13 i h0 h1
  have hc : ∀ j u, c[j]? = some u → w.cell? (ad.add (i.toNat * 2 + j)) = some u := hc0
  obtain rfl := k13_open hK
  exact ⟨ad, e, hc 0 _ rfl, by rw [← add_field _ _ 1 (by omega)]; exact hc 1 _ rfl⟩

/-! #### struct type 14 -/
structure S14 where
  f0 : ByteArray
  f1 : Int
def z14 : S14 := ⟨(⟨#[]⟩ : ByteArray), (0 : Int)⟩
def k14 : Kd S14 := Kd.iso (Kd.pair Kd.string (Kd.int .u64)) (fun x : S14 => (x.f0, x.f1))
theorem k14_heap : Kd.Heap k14 := Kd.heap_iso _ (Kd.heap_pair Kd.heap_string (Kd.heap_int .u64))
theorem k14_open {w : World} {x : S14} {cs : List Value} (h : k14.K w x cs) : cs = [.string x.f0, .int .u64 x.f1] := by
  obtain ⟨_, _, rfl, rfl, rfl⟩ := h
  exact rfl
theorem k14_openM {w : World} {base : Nat} {ok : Nat → Prop} {x : S14} {cs : List Value} (h : k14.M w base ok x cs) : cs = [.string x.f0, .int .u64 x.f1] := by
  obtain ⟨_, _, rfl, rfl, rfl⟩ := h
  exact rfl
theorem k14_mk (w : World) (x : S14)  : k14.K w x [.string x.f0, .int .u64 x.f1] := ⟨[.string x.f0], [.int .u64 x.f1], rfl, rfl, rfl⟩
theorem k14_mkM (w : World) (base : Nat) (ok : Nat → Prop) (x : S14)  : k14.M w base ok x [.string x.f0, .int .u64 x.f1] := ⟨[.string x.f0], [.int .u64 x.f1], rfl, rfl, rfl⟩
theorem k14_mkF (W : World) (ok : Nat → Prop) (x : S14) : Kd.FK k14 W ok x [.string x.f0, .int .u64 x.f1] := fun W2 _ => k14_mk W2 x
def rd_T14 (xs : List S14) (i : Int) : S14 := xs.getD i.toNat z14
theorem at_T14 {w : World} {A : Option Addr} {n : Nat} {xs : List S14} (h : Kd.C k14 w A n xs) (i : Int) (h0 : 0 ≤ i) (h1 : i < n) : ∃ ad , A = some ad ∧ w.cell? (ad.add (i.toNat * 2)) = some (.string (rd_T14 xs i).f0) ∧ w.cell? ⟨(ad.add (i.toNat * 2)).block, (ad.add (i.toNat * 2)).off + 1, none⟩ = some (.int .u64 (rd_T14 xs i).f1) := by
  obtain ⟨ad, c, e, _, hK, hc0⟩ := Kd.C_get h z14 i h0 h1
  have hc : ∀ j u, c[j]? = some u → w.cell? (ad.add (i.toNat * 2 + j)) = some u := hc0
  obtain rfl := k14_open hK
  exact ⟨ad, e, hc 0 _ rfl, by rw [← add_field _ _ 1 (by omega)]; exact hc 1 _ rfl⟩

def rd_L9 (xs : List (List Int)) (i : Int) : (List Int) := xs.getD i.toNat ([] : List Int)
theorem at_L9 {w : World} {A : Option Addr} {n : Nat} {xs : List (List Int)} (h : Kd.C (Kd.slice 5 (Kd.int .u8)) w A n xs) (i : Int) (h0 : 0 ≤ i) (h1 : i < n) : ∃ ad A0 c0, A = some ad ∧ w.cell? (ad.add i.toNat) = some (.slice A0 (rd_L9 xs i).length c0) ∧ (rd_L9 xs i).length ≤ c0 ∧ (Kd.int .u8).C w A0 (rd_L9 xs i).length (rd_L9 xs i) := by
  obtain ⟨ad, c, e, _, hK, hc0⟩ := Kd.C_get h ([] : List Int) i h0 h1
  have hc : ∀ j u, c[j]? = some u → w.cell? (ad.add (i.toNat * 1 + j)) = some u := hc0
  obtain ⟨A0, c0, rfl, l0, g0⟩ := hK
  exact ⟨ad, A0, c0, e, by have hq := hc 0 _ rfl; rwa [Nat.mul_one, Nat.add_zero] at hq, l0, g0⟩

def rd_L10 (xs : List (List Int)) (i : Int) : (List Int) := xs.getD i.toNat ([] : List Int)
theorem at_L10 {w : World} {A : Option Addr} {n : Nat} {xs : List (List Int)} (h : Kd.C (Kd.slice 3 (Kd.int .i64)) w A n xs) (i : Int) (h0 : 0 ≤ i) (h1 : i < n) : ∃ ad A0 c0, A = some ad ∧ w.cell? (ad.add i.toNat) = some (.slice A0 (rd_L10 xs i).length c0) ∧ (rd_L10 xs i).length ≤ c0 ∧ (Kd.int .i64).C w A0 (rd_L10 xs i).length (rd_L10 xs i) := by
  obtain ⟨ad, c, e, _, hK, hc0⟩ := Kd.C_get h ([] : List Int) i h0 h1
  have hc : ∀ j u, c[j]? = some u → w.cell? (ad.add (i.toNat * 1 + j)) = some u := hc0
  obtain ⟨A0, c0, rfl, l0, g0⟩ := hK
  exact ⟨ad, A0, c0, e, by have hq := hc 0 _ rfl; rwa [Nat.mul_one, Nat.add_zero] at hq, l0, g0⟩

/-! #### struct type 95 -/
structure S95 where
  f0 : ByteArray
def z95 : S95 := ⟨(⟨#[]⟩ : ByteArray)⟩
def k95 : Kd S95 := Kd.iso Kd.string (fun x : S95 => x.f0)
theorem k95_heap : Kd.Heap k95 := Kd.heap_iso _ Kd.heap_string
theorem k95_open {w : World} {x : S95} {cs : List Value} (h : k95.K w x cs) : cs = [.string x.f0] := by
  obtain rfl := h
  exact rfl
theorem k95_openM {w : World} {base : Nat} {ok : Nat → Prop} {x : S95} {cs : List Value} (h : k95.M w base ok x cs) : cs = [.string x.f0] := by
  obtain rfl := h
  exact rfl
theorem k95_mk (w : World) (x : S95)  : k95.K w x [.string x.f0] := rfl
theorem k95_mkM (w : World) (base : Nat) (ok : Nat → Prop) (x : S95)  : k95.M w base ok x [.string x.f0] := rfl
theorem k95_mkF (W : World) (ok : Nat → Prop) (x : S95) : Kd.FK k95 W ok x [.string x.f0] := fun W2 _ => k95_mk W2 x
def rd_T95 (xs : List S95) (i : Int) : S95 := xs.getD i.toNat z95
theorem at_T95 {w : World} {A : Option Addr} {n : Nat} {xs : List S95} (h : Kd.C k95 w A n xs) (i : Int) (h0 : 0 ≤ i) (h1 : i < n) : ∃ ad , A = some ad ∧ w.cell? (ad.add i.toNat) = some (.string (rd_T95 xs i).f0) := by
  obtain ⟨ad, c, e, _, hK, hc0⟩ := Kd.C_get h z95 i h0 h1
  have hc : ∀ j u, c[j]? = some u → w.cell? (ad.add (i.toNat * 1 + j)) = some u := hc0
  obtain rfl := k95_open hK
  exact ⟨ad, e, by have hq := hc 0 _ rfl; rwa [Nat.mul_one, Nat.add_zero] at hq⟩

/-! #### struct type 96 -/
structure S96 where
  f0 : ByteArray
def z96 : S96 := ⟨(⟨#[]⟩ : ByteArray)⟩
def k96 : Kd S96 := Kd.iso Kd.string (fun x : S96 => x.f0)
theorem k96_heap : Kd.Heap k96 := Kd.heap_iso _ Kd.heap_string
theorem k96_open {w : World} {x : S96} {cs : List Value} (h : k96.K w x cs) : cs = [.string x.f0] := by
  obtain rfl := h
  exact rfl
theorem k96_openM {w : World} {base : Nat} {ok : Nat → Prop} {x : S96} {cs : List Value} (h : k96.M w base ok x cs) : cs = [.string x.f0] := by
  obtain rfl := h
  exact rfl
theorem k96_mk (w : World) (x : S96)  : k96.K w x [.string x.f0] := rfl
theorem k96_mkM (w : World) (base : Nat) (ok : Nat → Prop) (x : S96)  : k96.M w base ok x [.string x.f0] := rfl
theorem k96_mkF (W : World) (ok : Nat → Prop) (x : S96) : Kd.FK k96 W ok x [.string x.f0] := fun W2 _ => k96_mk W2 x
def rd_T96 (xs : List S96) (i : Int) : S96 := xs.getD i.toNat z96
theorem at_T96 {w : World} {A : Option Addr} {n : Nat} {xs : List S96} (h : Kd.C k96 w A n xs) (i : Int) (h0 : 0 ≤ i) (h1 : i < n) : ∃ ad , A = some ad ∧ w.cell? (ad.add i.toNat) = some (.string (rd_T96 xs i).f0) := by
  obtain ⟨ad, c, e, _, hK, hc0⟩ := Kd.C_get h z96 i h0 h1
  have hc : ∀ j u, c[j]? = some u → w.cell? (ad.add (i.toNat * 1 + j)) = some u := hc0
  obtain rfl := k96_open hK
  exact ⟨ad, e, by have hq := hc 0 _ rfl; rwa [Nat.mul_one, Nat.add_zero] at hq⟩

end Go.Proofs.YtdheknlnhfegnaaDoor.K0
