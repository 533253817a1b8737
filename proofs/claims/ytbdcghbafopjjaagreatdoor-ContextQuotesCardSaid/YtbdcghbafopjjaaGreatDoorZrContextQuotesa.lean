/-
  Texts of the claim ContextQuotes, merged by a program of this session (1).
-/
import Derived.Test.YtbdcghbafopjjaaGreatDoorZqf
import Derived.Below
import Derived.Deep.Draws
import Derived.Deep.AppendLies
import Derived.Maps.AppendAt
import Derived.OwnWalk
import Derived.Laws.BytesArg
import Derived.Laws.MakeOwn
import Derived.Laws.OwnMore
import Derived.Deep.OwnRows
import Derived.Tactics
import Derived.Lib.ConvBytes
import Derived.Laws.Slices
import Derived.WalkKit
import Derived.KernelRfl
import Derived.RowKit3
import Derived.Deep.LoopGhost
import Derived.Deep.QuietTactic
import Derived.BigQuiet
import Derived.WideLaws
import Derived.Deep.DeepCutAuto
import Derived.Deep.CutBlock
import Derived.Deep.RegionHeld3
import Derived.Laws.Rows
import Derived.Lib.AppendStr
import Derived.ArgAppend
import Derived.Laws.IdiomCopy
import Derived.RowKit
import Derived.Shelf.Strings.Builder1
import Derived.Shelf.Strings.Builder2
import Derived.Shelf.Small.Strs
import Derived.Shelf.Small.Wraps
import Derived.Shelf.Strings.BuilderF
import Derived.Shelf.Strings.BuilderK
import Derived.Shelf.Utf8.RuneCount
import Derived.Shelf.LaysM
import Derived.Shelf.Strconv.Clone
import Derived.Shelf.Strconv.SyntaxError
import Derived.Shelf.LaysC
import Derived.Shelf.Strconv.ToError
import Derived.Shelf.Strconv.Lower
import Derived.Shelf.Strconv.ParseUintEmpty
import Derived.Shelf.Strings.Search1
import Derived.Shelf.Strings.Search2
import Derived.Shelf.Strings.Search3
import Derived.Shelf.Strings.Cut
import Derived.Shelf.Strings.Count
import Derived.Shelf.Strings.Shaped
import Derived.Shelf.Strings.LastIndex
import Derived.Shelf.Strings.Prefix
import Derived.Shelf.Strings.Split
import Derived.Shelf.Strings.Replace
import Derived.Shelf.Strings.SplitShaped
import Derived.Shelf.Unicode.Decode
import Derived.Shelf.Strings.RuneCount
import Derived.Shelf.Unicode.DecodeSlow
import Derived.Shelf.Unicode.DecodeAny
import Derived.Test.YtbdcghbafopjjaaGreatDoorProg
import Derived.Lib.Replace
import Derived.Lib.CountLaws
import Derived.Lib.IndexLaws
import Derived.WalkSpells
import Derived.WalkLawsBesides
import Derived.WalkMore
import Derived.ScopeJumps
import Derived.Lib.Hide
import Derived.Tactics2
import Derived.Defers
import Derived.Laws.Pointers
import Derived.Laws.LoneSync
import Derived.RegionTactic
import Derived.RegionCalls
import Derived.ChangeAlike
import Derived.Laws.NewBlocks
import Derived.StillTailTactics
import Derived.IntWalk
section
set_option linter.unusedVariables false
set_option linter.unusedSimpArgs false
namespace Go.Proofs.YtbdcghbafopjjaaGreatDoorW.PrintWords
open Go.RowKit
section
variable {P : Program} {ops : Array Oper} {rest : List Oper} {o : Oper} {a : Act} {Q : Exit → Act → World → Prop}
end
section
variable {P : Program}
end
section
variable {P : Program} {ops : Array Oper} {rest : List Oper} {o : Oper} {a : Act} {Q : Exit → Act → World → Prop}
end
theorem more_rounds {α : Type} {g : Nat → Option α} (h : ∀ k, LeO (g k) (g (k + 1))) (k : Nat) : ∀ j, LeO (g k) (g (k + j))
  | 0 => LeO.refl _
  | j + 1 => (more_rounds h k j).trans (h (k + j))
theorem at_rounds {α : Type} {g : Nat → Option α} (h : ∀ k, LeO (g k) (g (k + 1))) {k k' : Nat} (hk : k ≤ k') {r : α} (hr : g k = some r) : g k' = some r := by
  have := more_rounds h k (k' - k) r hr
  rwa [Nat.add_sub_cancel' hk] at this
section
variable {P : Program} {ops : Array Oper} {rest : List Oper} {o : Oper} {a : Act} {Q : Exit → Act → World → Prop}
end
theorem Ev.of {α : Type} {g : Nat → Option α} {r : α} (hg : ∀ k, LeO (g k) (g (k + 1))) {k : Nat} (h : g k = some r) : Ev g r := ⟨k, fun _ hk => at_rounds hg hk h⟩
section
variable {P : Program} {ops : Array Oper} {o : Oper} {a : Act} {Q : Exit → Act → World → Prop} {K : Act → World → Prop}
end
section
variable {α : Type} {enc : α → Value} {d : α}
end
section
variable {α : Type} {P : Program} {ops : Array Oper} {rest : List Oper} {o : Oper} {a : Act} {Q : Exit → Act → World → Prop}
end
section
variable {P : Program}
end
section
variable {α : Type} {R R' : α → List Value → Prop} {e : TypeId} {size : Nat} {w w1 : World} {base : Nat} {v : Value} {ps : List α}
end
section
variable {P : Program} {ops : Array Oper} {rest : List Oper} {o : Oper} {a : Act} {Q : Exit → Act → World → Prop} {α : Type} {R : α → List Value → Prop}
end
section
variable {P : Program} {ops : Array Oper} {o : Oper} {a : Act} {Q : Exit → Act → World → Prop} {K : Act → World → Prop} {α : Type} {R : α → List Value → Prop}
end
section
variable {α : Type} {P : Program}
end
section
variable {P : Program} {ops : Array Oper} {rest : List Oper} {o : Oper} {a : Act} {Q : Exit → Act → World → Prop}
end
namespace Kd
section
variable {α : Type} {d : Kd α} {e : Nat} {w w1 : World} {base : Nat} {ok ok' : Nat → Prop} {v : Value} {xs : List α}
end
section
variable {P : Program} {ops : Array Oper} {rest : List Oper} {o : Oper} {a : Act} {Q : Exit → Act → World → Prop} {α : Type}
end
section
variable {P : Program} {ops : Array Oper} {o : Oper} {a : Act} {Q : Exit → Act → World → Prop} {Kc : Act → World → Prop} {α : Type}
end
end Kd
namespace Kd
section
variable {α : Type} {F : Kd α → Kd α} {sz : Nat} {E : List Nat} {hs : ∀ n, (upto F sz E n).sz = sz} {hE : ∀ n q, q ∈ (upto F sz E n).E → q ∈ E}
end
end Kd
namespace Kd
end Kd
namespace Kd
section
variable {α β : Type} {d : Kd α} {d' : Kd β} {e e' : Nat} {w w1 W : World} {base b b' : Nat} {ok ok' okv oku : Nat → Prop} {v u : Value} {xs : List α} {ys : List β}
theorem C_alloc {A : Option Addr} {n : Nat} (h : d.C w A n xs) (o : Obj) : d.C (w.alloc o) A n xs := C_below h (below_alloc (Below.refl _ _) o)
theorem C_drew {A : Option Addr} {n : Nat} (h : d.C w A n xs) : d.C w.drew A n xs := C_below h (below_drew (Below.refl _ _))
theorem C_drewN {A : Option Addr} {n : Nat} (h : d.C w A n xs) (m : Nat) : d.C (w.drewN m) A n xs := C_below h (pw_below_drewN (Below.refl _ _) m)
end
section
variable {w W : World} {A : Option Addr} {n : Nat}
variable {α : Type} {enc : α → Value} {h1 : ∀ x, (enc x).oneCell' = true} {e base g cap : Nat} {ok : Nat → Prop} {xs : List α}
end
section
variable {P : Program} {ops : Array Oper} {rest : List Oper} {o : Oper} {a : Act} {Q : Exit → Act → World → Prop}
variable {α : Type}
end
end Kd
section
variable {P : Program}
end
section
variable {w w1 : World} {base n size : Nat} {e : TypeId} {v : Value} {xs : List Value}
end
section
variable {P : Program}
end
namespace Kd
section
variable {α : Type} {d : Kd α} {e : Nat} {w w1 W : World} {base : Nat} {ok ok' : Nat → Prop} {v : Value} {xs : List α}
end
section
variable {P : Program} {ops : Array Oper} {rest : List Oper} {o : Oper} {a : Act} {Q' : Exit → Act → World → Prop} {Kc : Act → World → Prop} {α : Type}
end
end Kd
namespace Kd
section
variable {α : Type} {d : Kd α} {e e' : Nat} {w w1 W : World} {base : Nat} {ok : Nat → Prop} {u v : Value} {xs : List α}
end
end Kd
namespace Kd
section
variable {α : Type} {d : Kd α} {e base g n cap : Nat} {ok okp : Nat → Prop} {W : World} {xs : List α}
end
end Kd
namespace Kd
section
variable {α : Type} {F : Kd α → Kd α} {sz : Nat} {E : List Nat} {hs : ∀ n, (upto F sz E n).sz = sz} {hE : ∀ n q, q ∈ (upto F sz E n).E → q ∈ E}
end
end Kd
namespace Kd
section
variable {P : Program} {ops : Array Oper} {rest : List Oper} {o : Oper} {a : Act} {Q : Exit → Act → World → Prop} {α : Type}
end
end Kd
namespace Kd
section
variable {P : Program} {ops : Array Oper} {rest : List Oper} {o : Oper} {a : Act} {Q : Exit → Act → World → Prop} {α : Type}
end
end Kd
theorem add_add (a : Addr) (i j : Nat) : (a.add i).add j = a.add (i + j) := by
  unfold Addr.add
  by_cases h1 : i = 0 <;> by_cases h2 : j = 0 <;> simp [h1, h2, Nat.add_assoc]
namespace Kd
section
variable {α : Type} {k : Kd α} {w : World} {A : Option Addr} {xs : List α} {m c : Nat}
theorem C_take (h : k.C w A xs.length xs) (hm : m ≤ xs.length) : k.C w A (xs.take m).length (xs.take m) := by
  have hl : (xs.take m).length = m := by rw [List.length_take]; omega
  refine ⟨rfl, by rw [hl]; have := h.2.1; omega, fun hp => ?_⟩
  obtain ⟨ad, e, hc⟩ := h.2.2 (by omega)
  refine ⟨ad, e, fun j p hj => hc j p ?_⟩
  rw [List.getElem?_take] at hj
  split at hj
  · exact hj
  · cases hj
theorem C_drop (h : k.C w A xs.length xs) (hm : m ≤ xs.length) (hc : xs.length ≤ c) : k.C w (if c = m then A else A.map (·.add (m * k.sz))) (xs.drop m).length (xs.drop m) := by
  have hl : (xs.drop m).length = xs.length - m := List.length_drop
  refine ⟨rfl, by rw [hl]; have := h.2.1; omega, fun hp => ?_⟩
  rw [hl] at hp
  obtain ⟨ad, rfl, hcell⟩ := h.2.2 (by omega)
  rw [if_neg (by omega)]
  refine ⟨ad.add (m * k.sz), rfl, fun j p hj => ?_⟩
  rw [List.getElem?_drop] at hj
  obtain ⟨cs, h1, h2, h3⟩ := hcell (m + j) p hj
  refine ⟨cs, h1, h2, fun i u hu => ?_⟩
  rw [add_add, show m * k.sz + (j * k.sz + i) = (m + j) * k.sz + i by rw [Nat.add_mul]; omega]
  exact h3 i u hu
theorem C_mid {lo hi : Nat} (h : k.C w A xs.length xs) (h1 : lo ≤ hi) (h2 : hi ≤ xs.length) (hc : xs.length ≤ c) : k.C w (if c = lo then A else A.map (·.add (lo * k.sz))) ((xs.take hi).drop lo).length ((xs.take hi).drop lo) := by
  have hl : (xs.take hi).length = hi := by rw [List.length_take]; omega
  exact C_drop (C_take h h2) (by omega) (by omega)
end
end Kd
section
variable {P : Program}
theorem cut_mid (t e : TypeId) (kl kh : IntKind) {i : TypeInfo} (ht : P.underlying t = some (.slice e)) (hi : P.info? e = some i) (size : Nat) (hsz : i.size = size) (A : Option Addr) (n c : Nat) (lo hi' : Int) (h0 : 0 ≤ lo) (h1 : lo ≤ hi') (h2 : hi' ≤ n) (hc : n ≤ c) :
    ∀ W : World, (Instr.slice t (.slice A n c) (some (.int kl lo)) (some (.int kh hi')) none).run P W = .ok (.slice (if c = lo.toNat then A else A.map (·.add (lo.toNat * size))) (hi'.toNat - lo.toNat) (c - lo.toNat)) W := by
  intro W
  have hel : P.elem t = e := by simp [Program.elem, ht]
  have hu : P.underlying t = some (.slice (P.elem t)) := by rw [hel]; exact ht
  rw [run_slice_lh W t A n c hu kl kh lo hi' h0 h1 (by omega), hel]
  simp [sizeOf, typeInfo, hi, hsz, sliced, Result.andThen]
end
namespace Kd
section
variable {α β : Type} {d : Kd α} {d' : Kd β} {e e' base base' n : Nat} {ok ok' : Nat → Prop} {w W w1 W1 : World} {v u : Value} {xs : List α} {ys : List β} {A : Option Addr} {c : Nat}
end
section
variable {α : Type} {enc : α → Value} {h1 : ∀ x, (enc x).oneCell' = true} {w W : World} {A : Option Addr} {n g : Nat} {xs : List α}
end
end Kd
namespace Kd
section
variable {α : Type} {d : Kd α} {e base g : Nat} {ok : Nat → Prop} {w w1 : World} {v : Value} {xs : List α} {o : Obj}
end
end Kd
section
variable {P : Program} {ops : Array Oper} {rest : List Oper} {o : Oper} {a : Act} {Q : Exit → Act → World → Prop}
end
namespace Kd
section
variable {α : Type} {enc : α → Value} {h1 : ∀ x, (enc x).oneCell' = true} {e base g n cap : Nat} {ok : Nat → Prop} {W : World} {xs : List α}
end
end Kd
section
variable {P : Program} {ops : Array Oper} {rest : List Oper} {o : Oper} {a : Act} {Q : Exit → Act → World → Prop}
end
namespace Kd
section
variable {α : Type} {enc : α → Value} {h1 : ∀ x, (enc x).oneCell' = true} {e base g n cap : Nat} {ok : Nat → Prop} {W : World} {xs : List α}
end
end Kd
section
variable {P : Program} {ops : Array Oper} {rest : List Oper} {o : Oper} {a : Act} {Q : Exit → Act → World → Prop} {W : World}
end
section
variable {P : Program} {ops : Array Oper} {o : Oper} {a : Act} {Q : Exit → Act → World → Prop} {Kc : Act → World → Prop}
namespace Kd
variable {α : Type}
end Kd
end
section
variable {P : Program} {tmps : Array Value} {w : World}
end
namespace Kd
section
variable {P : Program} {α : Type}
end
section
variable {P : Program} {ops : Array Oper} {rest : List Oper} {o : Oper} {a : Act} {Q : Exit → Act → World → Prop} {Kc : Act → World → Prop} {α : Type}
end
end Kd
end Go.Proofs.YtbdcghbafopjjaaGreatDoorW.PrintWords
end

section
namespace Go.Proofs.YtbdcghbafopjjaaGreatDoorW.PrintWords
open Go.RowKit
section
variable {P : Program} {ops : Array Oper} {rest : List Oper} {o : Oper} {a : Act} {Q : Exit → Act → World → Prop} {W : World}
theorem gate_guard (hw : Region.wanted o (yielded ops a.tmps) = true) (h : wpList P ops Q ({ o with guard := none } :: rest) a W) : wpList P ops Q (o :: rest) a W := by
  have h1 : Region.wanted { o with guard := none } (yielded ops a.tmps) = true := rfl
  unfold wpList at h ⊢
  rw [if_pos h1] at h
  rw [if_pos hw]
  exact h
end
end Go.Proofs.YtbdcghbafopjjaaGreatDoorW.PrintWords
end

section
namespace Go.Proofs
open Go.Shelf
def Tryz.lays167_ren : Go.Shelf.Ren := ⟨fun | 99 => 47 | 100 => 95 | 101 => 48 | 104 => 144 | 129 => 234 | 137 => 30 | 138 => 119 | 143 => 50 | 144 => 29 | 145 => 93 | 149 => 163 | 154 => 76 | 155 => 44 | 165 => 120 | 166 => 31 | 167 => 45 | 169 => 32 | 171 => 198 | 195 => 156 | 197 => 121 | 205 => 197 | 206 => 79 | 207 => 132 | 208 => 80 | 211 => 169 | 217 => 51 | 218 => 157 | 219 => 83 | 220 => 130 | 222 => 179 | 224 => 125 | 225 => 124 | 240 => 52 | 241 => 158 | 243 => 210 | 245 => 165 | 246 => 221 | 260 => 159 | 266 => 84 | 267 => 126 | 276 => 85 | 277 => 175 | 279 => 182 | 280 => 183 | 281 => 184 | 282 => 185 | 283 => 229 | 284 => 230 | 285 => 231 | 286 => 232 | 287 => 164 | 314 => 162 | 316 => 196 | 317 => 233 | 318 => 235 | 319 => 236 | 320 => 237 | 321 => 180 | 322 => 181 | 337 => 238 | 338 => 239 | n => n, fun | 21 => 21 | 24 => 34 | 37 => 43 | 46 => 122 | 51 => 146 | 53 => 126 | 59 => 101 | 70 => 45 | 72 => 47 | 75 => 50 | 76 => 51 | 80 => 53 | 105 => 116 | 119 => 169 | 127 => 72 | 138 => 171 | 139 => 172 | 143 => 213 | 145 => 215 | 146 => 160 | 164 => 95 | 167 => 175 | 168 => 177 | 171 => 230 | 173 => 233 | 210 => 195 | 212 => 236 | 213 => 237 | 232 => 240 | 233 => 241 | n => n, fun | n => n⟩
theorem Tryz.lays167 : Go.Proofs.Lays.n167 Tryz.prog Tryz.lays167_ren := {
  mixed := by kernel_rfl
  f167 := Tryz.func45.trans (congrArg some (by kernel_rfl))
  f240 := Tryz.func52.trans (congrArg some (by kernel_rfl))
  f276 := Tryz.func85.trans (congrArg some (by kernel_rfl))
  t0 := Tryz.underlying0
  a0 := Tryz.isAgg0
  z0 := Tryz.sizeOf0
  v0 := Tryz.zeroValue0
  t4 := Tryz.underlying4
  a4 := Tryz.isAgg4
  z4 := Tryz.sizeOf4
  v4 := Tryz.zeroValue4
  t5 := Tryz.underlying5
  a5 := Tryz.isAgg5
  z5 := Tryz.sizeOf5
  v5 := Tryz.zeroValue5
  t9 := Tryz.underlying9
  a9 := Tryz.isAgg9
  z9 := Tryz.sizeOf9
  v9 := Tryz.zeroValue9
  t20 := Tryz.underlying20
  a20 := Tryz.isAgg20
  z20 := Tryz.sizeOf20
  v20 := Tryz.zeroValue20
  t37 := Tryz.underlying43
  a37 := Tryz.isAgg43
  z37 := Tryz.sizeOf43
  v37 := Tryz.zeroValue43
  t70 := Tryz.underlying45
  a70 := Tryz.isAgg45
  z70 := Tryz.sizeOf45
  v70 := Tryz.zeroValue45
  t72 := Tryz.underlying47
  a72 := Tryz.isAgg47
  z72 := Tryz.sizeOf47
  v72 := Tryz.zeroValue47
  t75 := Tryz.underlying50
  a75 := Tryz.isAgg50
  z75 := Tryz.sizeOf50
  v75 := Tryz.zeroValue50
  t164 := Tryz.underlying95
  a164 := Tryz.isAgg95
  z164 := Tryz.sizeOf95
  v164 := Tryz.zeroValue95 }
theorem Tryz.Builder_Extra_167 : Builder.Extra Tryz.prog Tryz.lays167_ren := {
  sizeBuilder := by kernel_rfl
  liesBuilder := by kernel_rfl
  t5 := Tryz.underlying5
  a5 := Tryz.isAgg5
  z5 := Tryz.sizeOf5
  v5 := Tryz.zeroValue5
  infoByte := by kernel_rfl
  cellsByte := by kernel_rfl
  sizeByte := by kernel_rfl
  neB5 := by decide }
open Go.RowKit in
theorem Tryz.Builder_WriteByte (B b : Nat) (bs : List Value) (c : Int) (w : World) (h : Lib.IsBuilder 47 5 B b bs w) (hlen : bs.length + 1 ≤ 140737488355328) (hBw : B ≤ w.heap.size) :
    Calls Tryz.prog 45 #[.pointer (some ⟨b, 0, none⟩), .int .u8 c] w fun e w' => e = .returned .nilIface ∧ (Lib.BuilderAt 47 5 B b (.pointer (some ⟨b, 0, none⟩)) (bs ++ [.int .u8 c]) w' ∧ Below B w w') := Any.Builder_WriteByte Tryz.lays167 Tryz.Builder_Extra_167 B b bs c w h hlen hBw
def Tryz.lays206_ren : Go.Shelf.Ren := ⟨fun | 206 => 79 | n => n, fun | 9 => 9 | 4 => 4 | 3 => 3 | n => n, fun | n => n⟩
theorem Tryz.lays206 : Go.Proofs.Lays.n206 Tryz.prog Tryz.lays206_ren := {
  mixed := by kernel_rfl
  f206 := Tryz.func79.trans (congrArg some (by kernel_rfl))
  t3 := Tryz.underlying3
  a3 := Tryz.isAgg3
  z3 := Tryz.sizeOf3
  v3 := Tryz.zeroValue3
  t4 := Tryz.underlying4
  a4 := Tryz.isAgg4
  z4 := Tryz.sizeOf4
  v4 := Tryz.zeroValue4
  t9 := Tryz.underlying9
  a9 := Tryz.isAgg9
  z9 := Tryz.sizeOf9
  v9 := Tryz.zeroValue9 }
open Go.RowKit Go.Lib in
theorem Tryz.stringslite_HasPrefix (s p : ByteArray) (w : World) :
    Calls Tryz.prog 79 #[.string s, .string p] w fun e w' => e = .returned (.bool (Lib.hasPrefix s.data.toList p.data.toList)) ∧ w' = w := Any.stringslite_HasPrefix Tryz.lays206 s p w
def Tryz.lays208_ren : Go.Shelf.Ren := ⟨fun | 208 => 80 | 206 => 79 | n => n, fun | 9 => 9 | 4 => 4 | 3 => 3 | n => n, fun | n => n⟩
theorem Tryz.lays208 : Go.Proofs.Lays.n208 Tryz.prog Tryz.lays208_ren := {
  mixed := by kernel_rfl
  f206 := Tryz.func79.trans (congrArg some (by kernel_rfl))
  f208 := Tryz.func80.trans (congrArg some (by kernel_rfl))
  t3 := Tryz.underlying3
  a3 := Tryz.isAgg3
  z3 := Tryz.sizeOf3
  v3 := Tryz.zeroValue3
  t4 := Tryz.underlying4
  a4 := Tryz.isAgg4
  z4 := Tryz.sizeOf4
  v4 := Tryz.zeroValue4
  t9 := Tryz.underlying9
  a9 := Tryz.isAgg9
  z9 := Tryz.sizeOf9
  v9 := Tryz.zeroValue9 }
open Go.RowKit Go.Lib in
theorem Tryz.stringslite_TrimPrefix (s p : ByteArray) (w : World) :
    Calls Tryz.prog 80 #[.string s, .string p] w fun e w' => e = .returned (.string ⟨(Lib.trimPrefix s.data.toList p.data.toList).toArray⟩) ∧ w' = w := Any.stringslite_TrimPrefix Tryz.lays208 s p w
def Tryz.lays101_ren : Go.Shelf.Ren := ⟨fun | 101 => 48 | 208 => 80 | 206 => 79 | n => n, fun | 9 => 9 | 4 => 4 | 3 => 3 | n => n, fun | n => n⟩
theorem Tryz.lays101 : Go.Proofs.Lays.n101 Tryz.prog Tryz.lays101_ren := {
  mixed := by kernel_rfl
  f101 := Tryz.func48.trans (congrArg some (by kernel_rfl))
  f206 := Tryz.func79.trans (congrArg some (by kernel_rfl))
  f208 := Tryz.func80.trans (congrArg some (by kernel_rfl))
  t3 := Tryz.underlying3
  a3 := Tryz.isAgg3
  z3 := Tryz.sizeOf3
  v3 := Tryz.zeroValue3
  t4 := Tryz.underlying4
  a4 := Tryz.isAgg4
  z4 := Tryz.sizeOf4
  v4 := Tryz.zeroValue4
  t9 := Tryz.underlying9
  a9 := Tryz.isAgg9
  z9 := Tryz.sizeOf9
  v9 := Tryz.zeroValue9 }
open Go.RowKit Go.Lib in
theorem Tryz.strings_TrimPrefix (s p : ByteArray) (w : World) :
    Calls Tryz.prog 48 #[.string s, .string p] w fun e w' => e = .returned (.string ⟨(Lib.trimPrefix s.data.toList p.data.toList).toArray⟩) ∧ w' = w := Any.strings_TrimPrefix Tryz.lays101 s p w
end Go.Proofs
end

section
namespace Go.Proofs.YtbdcghbafopjjaaGreatDoor.Pl
open Go
def normF : Bool → List UInt8 → List UInt8
  | _, [] => []
  | b, c :: r => if b = true ∧ c = 10 then normF false r else if c = 13 then 10 :: normF true r else c :: normF false r
def normL (l : List UInt8) : List UInt8 := normF false l
theorem normL_nil : normL [] = [] := rfl
theorem normL_ne {c : UInt8} {r : List UInt8} (h : c ≠ 13) : normL (c :: r) = c :: normL r := by simp [normL, normF, h]
theorem normL_13_10 {r : List UInt8} : normL (13 :: 10 :: r) = 10 :: normL r := by simp [normL, normF]
theorem normL_13_ne {d : UInt8} {r : List UInt8} (h : d ≠ 10) : normL (13 :: d :: r) = 10 :: normL (d :: r) := by simp [normL, normF, h]
theorem normL_13_end : normL [13] = [10] := rfl
theorem normF_length (l : List UInt8) : ∀ b, (normF b l).length ≤ l.length := by
  induction l with
  | nil => intro b; simp [normF]
  | cons c r ih =>
    intro b
    have h0 := ih false
    have h1 := ih true
    simp only [normF, List.length_cons]
    split
    · omega
    · split <;> simp only [List.length_cons] <;> omega
theorem normL_length (l : List UInt8) : (normL l).length ≤ l.length := normF_length l false
theorem cleanB_no0 (c : UInt8) : (0 : UInt8) ∉ cleanB c := by
  unfold cleanB; split
  · decide
  · rename_i h; simp; exact fun e => h e.symm
theorem cleanL_no0 (l : List UInt8) : (0 : UInt8) ∉ cleanL l := by
  simp only [cleanL, List.mem_flatMap, not_exists, not_and]
  exact fun c _ => cleanB_no0 c
theorem cleanL_of_no0 : ∀ {l : List UInt8}, (0 : UInt8) ∉ l → cleanL l = l
  | [], _ => rfl
  | c :: r, h => by
    have h1 : c ≠ 0 := fun e => h (by simp [e])
    rw [cleanL_cons, cleanL_of_no0 (fun e => h (by simp [e]))]; simp [cleanB, h1]
theorem normL_of_no13 : ∀ {l : List UInt8}, (13 : UInt8) ∉ l → normL l = l
  | [], _ => rfl
  | c :: r, h => by
    have h1 : c ≠ 13 := fun e => h (by simp [e])
    rw [normL_ne h1, normL_of_no13 (fun e => h (by simp [e]))]
end Go.Proofs.YtbdcghbafopjjaaGreatDoor.Pl
end

section
namespace Go.Proofs.YtbdcghbafopjjaaGreatDoor.Hand
open Go.RowKit Go.Proofs.YtbdcghbafopjjaaGreatDoor.Pl
section
variable {P : Program} {a : Act} {w : World} {Q : Exit → Act → World → Prop}
end
theorem byteCells_snoc (acc : List UInt8) (c : UInt8) : Lib.byteCells acc ++ [.int .u8 (c.toNat : Int)] = Lib.byteCells (acc ++ [c]) := by
  simp [Lib.byteCells]
def NormJ (s : ByteArray) (w : World) (a' : Act) (wr : World) : Prop :=
  ∃ (pos : Nat) (acc : List UInt8) (u1 u5 u6 u7 u8 u9 u10 u11 u12 u13 u14 u15 u16 u17 u18 u19 u20 u21 u22 u23 u24 u25 u26 u27 u28 u29 u30 u31 u32 u33 u34 : Value),
    a' = { tmps := #[.string s, u1, .string ⟨#[]⟩, .pointer (some ⟨w.heap.size, 0, none⟩), .int .i64 pos, u5, u6, u7, u8, u9, u10, u11, u12, u13, u14, u15, u16, u17, u18, u19, u20, u21, u22, u23, u24, u25, u26, u27, u28, u29, u30, u31, u32, u33, u34], defers := [] } ∧
    Lib.IsBuilder 47 5 w.heap.size w.heap.size (Lib.byteCells acc) wr ∧ Below w.heap.size w wr ∧ pos ≤ s.size ∧ acc.length ≤ pos ∧ acc ++ normL (s.data.toList.drop pos) = normL s.data.toList
set_option maxHeartbeats 400000 in
theorem norm_any (s : ByteArray) (w : World) (hs : s.size ≤ 35184372088832) :
    Calls Tryz.prog 23 #[.string s] w fun e w' => e = .returned (.string ⟨(normL s.data.toList).toArray⟩) ∧ Below w.heap.size w w' := by
  go_enter Tryz.func23, Tryz.ntmps23
  go_wp2
  refine wp_scope_at 0 (NormJ s w) (fun a' _ => s.size - (intOf (a'.tmps.getD 4 undef)).toNat) rfl ?_ ?_
  · intro hB
    have HB := Lib.hid hB
    clear hB
    go_wp2
    refine wp_label_k (by assumption) (HB.out _ _ ?_)
    refine ⟨0, [], undef, undef, undef, undef, undef, undef, undef, undef, undef, undef, undef, undef, undef, undef, undef, undef, undef, undef, undef, undef, undef, undef, undef, undef, undef, undef, undef, undef, undef, undef, undef, rfl, Lib.fresh_isBuilder 47 5 w, (Below.refl _ w).alloc (Nat.le_refl _) _, by omega, by simp, by simp⟩
  · rintro a' wr ⟨pos, acc, u1, u5, u6, u7, u8, u9, u10, u11, u12, u13, u14, u15, u16, u17, u18, u19, u20, u21, u22, u23, u24, u25, u26, u27, u28, u29, u30, u31, u32, u33, u34, rfl, hI, hb, hp, hl, hacc⟩
    have hbs := hb.size
    by_cases hlt : pos < s.size
    · by_cases h13 : s[pos] = 13
      · have h13' : (((s[pos].toNat : Int)) != 13) = false := by rw [h13]; rfl
        have hd := drop_cons s pos hlt
        rw [h13] at hd
        have HD := Lib.hid hd
        have HA := Lib.hid hacc
        clear hd hacc h13
        go_wp2_with (go_at_call 45; refine (Tryz.Builder_WriteByte w.heap.size w.heap.size _ 10 wr hI (by rw [Lib.byteCells_length]; omega) hbs).mono ?_)
        rintro e w1 ⟨rfl, h1, b1⟩
        have HW := Lib.hid (hb.trans b1)
        have H1 := Lib.hid h1
        clear h1 b1 hb hI hbs
        go_wp2
        · rename_i hq1 hq2 hq3
          have hlt1 : pos + 1 < s.size := by omega
          have h10 : s[pos + 1] = 10 := by
            have := beq_iff_eq.1 hq3; apply UInt8.toNat_inj.1; exact Int.ofNat_inj.1 this
          have hd1 := drop_cons s (pos + 1) hlt1
          go_step3
          refine ⟨rfl, ⟨pos + 2, acc ++ [10], _, _, _, _, _, _, _, _, _, _, _, _, _, _, _, _, _, _, _, _, _, _, _, _, _, _, _, _, _, _, _, rfl, ?_, HW.out, by omega, by simp; omega, ?_⟩, ?_⟩
          · exact Or.inr (by rw [← byteCells_snoc]; exact H1.out)
          · rw [← HA.out, HD.out, hd1, h10, normL_13_10]; simp
          · simp [intOf]; omega
        · rename_i hq1 hq2 hq3
          have hlt1 : pos + 1 < s.size := by omega
          have h10 : s[pos + 1] ≠ 10 := by
            intro h; rw [h] at hq3; simp at hq3
          have hd1 := drop_cons s (pos + 1) hlt1
          go_step3
          refine ⟨rfl, ⟨pos + 1, acc ++ [10], _, _, _, _, _, _, _, _, _, _, _, _, _, _, _, _, _, _, _, _, _, _, _, _, _, _, _, _, _, _, _, rfl, ?_, HW.out, by omega, by simp; omega, ?_⟩, ?_⟩
          · exact Or.inr (by rw [← byteCells_snoc]; exact H1.out)
          · rw [← HA.out, HD.out, hd1, normL_13_ne h10]; simp
          · simp [intOf]; omega
        · have hd1 : s.data.toList.drop (pos + 1) = [] := List.drop_eq_nil_of_le (by simp; omega)
          go_step3
          refine ⟨rfl, ⟨pos + 1, acc ++ [10], _, _, _, _, _, _, _, _, _, _, _, _, _, _, _, _, _, _, _, _, _, _, _, _, _, _, _, _, _, _, _, rfl, ?_, HW.out, by omega, by simp; omega, ?_⟩, ?_⟩
          · exact Or.inr (by rw [← byteCells_snoc]; exact H1.out)
          · rw [← HA.out, HD.out, hd1, normL_13_end, normL_nil]; simp
          · simp [intOf]; omega
      · have h13' : (((s[pos].toNat : Int)) != 13) = true := by
          rw [bne_iff_ne]; intro h; apply h13; apply UInt8.toNat_inj.1; exact Int.ofNat_inj.1 h
        have hd := drop_cons s pos hlt
        have HD := Lib.hid hd
        have HA := Lib.hid hacc
        clear hd hacc
        go_wp2_with (go_at_call 45; refine (Tryz.Builder_WriteByte w.heap.size w.heap.size _ _ wr hI (by rw [Lib.byteCells_length]; omega) hbs).mono ?_)
        rintro e w1 ⟨rfl, h1, b1⟩
        have HW := Lib.hid (hb.trans b1)
        have H1 := Lib.hid h1
        clear h1 b1 hb hI hbs
        go_wp2
        go_step3
        refine ⟨rfl, ⟨pos + 1, acc ++ [s[pos]], _, _, _, _, _, _, _, _, _, _, _, _, _, _, _, _, _, _, _, _, _, _, _, _, _, _, _, _, _, _, _, rfl, ?_, HW.out, by omega, by simp; omega, ?_⟩, ?_⟩
        · exact Or.inr (by rw [← byteCells_snoc]; exact H1.out)
        · rw [← HA.out, HD.out, normL_ne h13]; simp
        · simp [intOf]; omega
    · obtain rfl : pos = s.size := by omega
      have HA := Lib.hid hacc
      clear hacc
      go_wp2_with (go_at_call 32; refine (Tryz.Builder_String_any w.heap.size w.heap.size acc wr hI hbs).mono ?_)
      rintro e w1 ⟨rfl, b1⟩
      go_wp2
      simp only [Exit.jump]
      go_ret
      have he : acc = normL s.data.toList := by rw [← HA.out, List.drop_eq_nil_of_le (by simp), normL_nil, List.append_nil]
      rw [he]
      exact ⟨rfl, hb.trans b1⟩
end Go.Proofs.YtbdcghbafopjjaaGreatDoor.Hand
end

section
namespace Go.Proofs.YtbdcghbafopjjaaGreatDoor.Pb
open Go Go.RowKit Go.Proofs.YtbdcghbafopjjaaGreatDoorW.PrintWords
theorem wrap_id (n : Int) (h0 : -9223372036854775808 ≤ n) (h : n < 9223372036854775808) : wrap64 n = n := by unfold wrap64; omega
end Go.Proofs.YtbdcghbafopjjaaGreatDoor.Pb
end

section
namespace Go.Proofs.YtbdcghbafopjjaaGreatDoor.Pl
theorem low_47 : lowB 47 = 47 := by decide
def closeT : List UInt8 := [60, 47, 115, 99, 114, 105, 112, 116, 62]
theorem step_end (st ct : Nat) (h : st ≠ 2) (r : List UInt8) : stepF st ct (closeT ++ r) = none := by
  have : endsL (closeT ++ r) scriptL = true := by simp [closeT, endsL, begR, scriptL, stopAt, low_33, low_45, low_47, low_60, low_62, low_99, low_105, low_112, low_114, low_115, low_116, stops_62]
  simp only [closeT, List.cons_append] at this ⊢
  simp only [stepF, this, if_pos (And.intro h (trivial))]
end Go.Proofs.YtbdcghbafopjjaaGreatDoor.Pl
end

section
namespace Go.Proofs.YtbdcghbafopjjaaGreatDoor.Hand
open Go Go.RowKit Go.Proofs.YtbdcghbafopjjaaGreatDoor.Pl Go.Proofs.YtbdcghbafopjjaaGreatDoor.Pb
def kyC (c : UInt8) : Bool := (decide (65 ≤ c.toNat) && decide (c.toNat ≤ 90)) || (decide (97 ≤ c.toNat) && decide (c.toNat ≤ 122)) || (decide (48 ≤ c.toNat) && decide (c.toNat ≤ 57))
def hdC : List UInt8 → Bool
  | [] => false
  | c :: _ => (decide (65 ≤ c.toNat) && decide (c.toNat ≤ 90)) || (decide (97 ≤ c.toNat) && decide (c.toNat ≤ 122))
def keyOk (l : List UInt8) : Bool := decide ((kyL l).length ≤ 32) && ((kyL l).dropLast.all kyC && (hdC (kyL l) && (match (kyL l).getLast? with | some c => kyC c || c == 59 | none => false)))
def keysOk (T : List UInt8) : Bool := keyOk (linesOf T).1 && (linesOf T).2.all keyOk
set_option maxRecDepth 1000000 in
theorem names_keys : keysOk namesL = true := by kernel_rfl
theorem keys_all {T : List UInt8} (h : keysOk T = true) (p : Nat) (hp : St T p) : keyOk (lnT T p) = true := by
  unfold keysOk at h
  rw [Bool.and_eq_true, List.all_eq_true] at h
  rcases hp with rfl | ⟨q, rfl, hq⟩
  · rw [lines_head]; exact h.1
  · exact h.2 _ (lines_mem T q hq)
structure KeyP (k : List UInt8) : Prop where
  le : k.length ≤ 32
  pos : k ≠ []
  inner : ∀ c ∈ k.dropLast, kyC c = true
  head : hdC k = true
  last : ∃ c, k.getLast? = some c ∧ (kyC c = true ∨ c = 59)
theorem key_facts {k : List UInt8} (h : isKey namesL k) : KeyP k := by
  obtain ⟨p, h1, rfl⟩ := h
  have := keys_all names_keys p h1
  unfold keyOk at this
  rw [Bool.and_eq_true, Bool.and_eq_true, Bool.and_eq_true, decide_eq_true_eq, List.all_eq_true] at this
  obtain ⟨g1, g2, g3, g4⟩ := this
  change (kyT namesL p).length ≤ 32 at g1
  change hdC (kyT namesL p) = true at g3
  refine ⟨g1, ?_, g2, g3, ?_⟩
  · intro e; rw [e] at g3; cases g3
  · change (match (kyT namesL p).getLast? with | some c => kyC c || c == 59 | none => false) = true at g4
    split at g4
    · rename_i c hc
      refine ⟨c, hc, ?_⟩
      simpa using g4
    · cases g4
end Go.Proofs.YtbdcghbafopjjaaGreatDoor.Hand
end

section
namespace Go.Proofs.YtbdcghbafopjjaaGreatDoor.St
open Go.RowKit Go.Proofs.YtbdcghbafopjjaaGreatDoor.K0 Go.Proofs.YtbdcghbafopjjaaGreatDoor.Hand Go.Proofs.YtbdcghbafopjjaaGreatDoor.Sa Go.Proofs.YtbdcghbafopjjaaGreatDoor.Si Go.Proofs.YtbdcghbafopjjaaGreatDoorW.PrintWords Go.Proofs.YtbdcghbafopjjaaGreatDoorW.PrintLast Go.Proofs.YtbdcghbafopjjaaGreatDoorW.PrintMore
attribute [local go_sem] max2_int min2_int max_two min_two max_three min_three max_four min_four  
set_option linter.unusedVariables false
set_option linter.unusedSimpArgs false
noncomputable def context_only.f (l0 : List (S28)) : Option (ByteArray × Bool) := if (l0.length : Int) = 0 then (some ((⟨#[]⟩ : ByteArray), true)) else (if (l0.length : Int) = 1 then (if 0 < (l0.length : Int) then (if ((rd_T28 l0 0).f0) = 0 then (some ((rd_T28 l0 0).f2, true)) else (some ((⟨#[]⟩ : ByteArray), false))) else (none)) else (some ((⟨#[]⟩ : ByteArray), false)))
set_option maxHeartbeats 8000000 in
set_option maxRecDepth 100000 in
theorem context_only.calls (A0 : Option Addr) (c0 : Nat) (l0 : List (S28)) (r1 : ByteArray) (r2 : Bool) (w : World) (hr0 : Kd.C k28 w A0 l0.length l0) (hc0 : l0.length ≤ c0) (h : context_only.f l0 = some (r1, r2)) :
    Calls Tryz.prog 37 #[.slice A0 l0.length c0] w fun e w' => e = .returned (.tuple #[.string r1, .bool r2]) ∧ Drawn0 w w' := by
  have HR0 := Aside0.mk hr0
  have HC0 := Aside0.mk hc0
  clear hr0 hc0
  have H : (if (l0.length : Int) = 0 then (some ((⟨#[]⟩ : ByteArray), true)) else (if (l0.length : Int) = 1 then (if 0 < (l0.length : Int) then (if ((rd_T28 l0 0).f0) = 0 then (some ((rd_T28 l0 0).f2, true)) else (some ((⟨#[]⟩ : ByteArray), false))) else (none)) else (some ((⟨#[]⟩ : ByteArray), false)))) = some (r1, r2) := h
  clear h
  by_cases c2 : (l0.length : Int) = 0
  · rw [if_pos c2] at H
    have c2b0 : ((l0.length : Int) == 0) = true := beq_iff_eq.mpr c2
    have c2b1 : ((l0.length : Int) != 0) = false := bne_eq_false_iff_eq.mpr c2
    clear c2
    simp only [Option.some.injEq, Prod.mk.injEq] at H
    obtain ⟨rfl, rfl⟩ := H
    go_enter Tryz.func37, Tryz.ntmps37
    go_wp2
    go_ret2
    exact ⟨by first | rfl | (simp; done) | (simp [*]; done), by repeat (first | exact Drawn0.refl _ | apply Drawn0.step)⟩
  · rw [if_neg c2] at H
    have c2b0 : ((l0.length : Int) == 0) = false := beq_eq_false_iff_ne.mpr c2
    have c2b1 : ((l0.length : Int) != 0) = true := bne_iff_ne.mpr c2
    have c2b2 : ¬ (l0 = []) := fun h_ => c2 (by rw [h_]; rfl)
    by_cases c3 : (l0.length : Int) = 1
    · rw [if_pos c3] at H
      have c3b0 : ((l0.length : Int) == 1) = true := beq_iff_eq.mpr c3
      have c3b1 : ((l0.length : Int) != 1) = false := bne_eq_false_iff_eq.mpr c3
      clear c3
      by_cases c4 : 0 < (l0.length : Int)
      · rw [if_pos c4] at H
        have c4b0 : decide (0 < (l0.length : Int)) = true := decide_eq_true c4
        have c4b1 : decide (0 < l0.length) = true := decide_eq_true (by omega)
        clear c4
        by_cases c5 : ((rd_T28 l0 0).f0) = 0
        · rw [if_pos c5] at H
          have c5b0 : (((rd_T28 l0 0).f0) == 0) = true := beq_iff_eq.mpr c5
          have c5b1 : (((rd_T28 l0 0).f0) != 0) = false := bne_eq_false_iff_eq.mpr c5
          clear c5
          simp only [Option.some.injEq, Prod.mk.injEq] at H
          obtain ⟨rfl, rfl⟩ := H
          have p165 : 0 ≤ (0 : Int) := (by omega)
          have q165 : 0 < (l0.length : Int) := of_decide_eq_true (by first | (with_reducible assumption) | assumption)
          obtain ⟨ad165, A165_3, c165_3, e165, hx165_0, hx165_1, hx165_2, hx165_3, hx165_4, hl165_3, hi165_3⟩ := at_T28 HR0.out 0 p165 q165
          cases e165
          have qi165 : (0 < l0.length) = True := eq_true (by omega)
          (try rw [show ((0 : Int)).toNat = 0 from rfl] at hx165_0)
          (try rw [show 0 * 5 = 0 from rfl] at hx165_0)
          (try rw [Addr.add_zero'] at hx165_0)
          (try rw [show ((0 : Int)).toNat = 0 from rfl] at hx165_1)
          (try rw [show 0 * 5 = 0 from rfl] at hx165_1)
          (try rw [Addr.add_zero'] at hx165_1)
          (try rw [show ((0 : Int)).toNat = 0 from rfl] at hx165_2)
          (try rw [show 0 * 5 = 0 from rfl] at hx165_2)
          (try rw [Addr.add_zero'] at hx165_2)
          (try rw [show ((0 : Int)).toNat = 0 from rfl] at hx165_3)
          (try rw [show 0 * 5 = 0 from rfl] at hx165_3)
          (try rw [Addr.add_zero'] at hx165_3)
          (try rw [show ((0 : Int)).toNat = 0 from rfl] at hx165_4)
          (try rw [show 0 * 5 = 0 from rfl] at hx165_4)
          (try rw [Addr.add_zero'] at hx165_4)
          have HR165_3 := Aside0.mk hi165_3
          have HC165_3 := Aside0.mk hl165_3
          clear hi165_3 hl165_3
          replace p165 := eq_true p165
          replace q165 := eq_true q165
          have p166 : 0 ≤ (0 : Int) := (by omega)
          have q166 : 0 < (l0.length : Int) := of_decide_eq_true (by first | (with_reducible assumption) | assumption)
          obtain ⟨ad166, A166_3, c166_3, e166, hx166_0, hx166_1, hx166_2, hx166_3, hx166_4, hl166_3, hi166_3⟩ := at_T28 HR0.out 0 p166 q166
          obtain rfl : ad165 = ad166 := (by injection e166)
          have qi166 : (0 < l0.length) = True := eq_true (by omega)
          (try rw [show ((0 : Int)).toNat = 0 from rfl] at hx166_0)
          (try rw [show 0 * 5 = 0 from rfl] at hx166_0)
          (try rw [Addr.add_zero'] at hx166_0)
          (try rw [show ((0 : Int)).toNat = 0 from rfl] at hx166_1)
          (try rw [show 0 * 5 = 0 from rfl] at hx166_1)
          (try rw [Addr.add_zero'] at hx166_1)
          (try rw [show ((0 : Int)).toNat = 0 from rfl] at hx166_2)
          (try rw [show 0 * 5 = 0 from rfl] at hx166_2)
          (try rw [Addr.add_zero'] at hx166_2)
          (try rw [show ((0 : Int)).toNat = 0 from rfl] at hx166_3)
          (try rw [show 0 * 5 = 0 from rfl] at hx166_3)
          (try rw [Addr.add_zero'] at hx166_3)
          (try rw [show ((0 : Int)).toNat = 0 from rfl] at hx166_4)
          (try rw [show 0 * 5 = 0 from rfl] at hx166_4)
          (try rw [Addr.add_zero'] at hx166_4)
          have HR166_3 := Aside0.mk hi166_3
          have HC166_3 := Aside0.mk hl166_3
          clear hi166_3 hl166_3
          replace p166 := eq_true p166
          replace q166 := eq_true q166
          have ea_ := Option.some.inj (hx165_3.symm.trans hx166_3)
          injection ea_ with ea_ en_ ec_
          subst ea_
          subst ec_
          clear en_
          go_enter Tryz.func37, Tryz.ntmps37
          go_wp2
          go_ret2
          exact ⟨by first | rfl | (simp; done) | (simp [*]; done), by repeat (first | exact Drawn0.refl _ | apply Drawn0.step)⟩
        · rw [if_neg c5] at H
          have c5b0 : (((rd_T28 l0 0).f0) == 0) = false := beq_eq_false_iff_ne.mpr c5
          have c5b1 : (((rd_T28 l0 0).f0) != 0) = true := bne_iff_ne.mpr c5
          simp only [Option.some.injEq, Prod.mk.injEq] at H
          obtain ⟨rfl, rfl⟩ := H
          have p165 : 0 ≤ (0 : Int) := (by omega)
          have q165 : 0 < (l0.length : Int) := of_decide_eq_true (by first | (with_reducible assumption) | assumption)
          obtain ⟨ad165, A165_3, c165_3, e165, hx165_0, hx165_1, hx165_2, hx165_3, hx165_4, hl165_3, hi165_3⟩ := at_T28 HR0.out 0 p165 q165
          cases e165
          have qi165 : (0 < l0.length) = True := eq_true (by omega)
          (try rw [show ((0 : Int)).toNat = 0 from rfl] at hx165_0)
          (try rw [show 0 * 5 = 0 from rfl] at hx165_0)
          (try rw [Addr.add_zero'] at hx165_0)
          (try rw [show ((0 : Int)).toNat = 0 from rfl] at hx165_1)
          (try rw [show 0 * 5 = 0 from rfl] at hx165_1)
          (try rw [Addr.add_zero'] at hx165_1)
          (try rw [show ((0 : Int)).toNat = 0 from rfl] at hx165_2)
          (try rw [show 0 * 5 = 0 from rfl] at hx165_2)
          (try rw [Addr.add_zero'] at hx165_2)
          (try rw [show ((0 : Int)).toNat = 0 from rfl] at hx165_3)
          (try rw [show 0 * 5 = 0 from rfl] at hx165_3)
          (try rw [Addr.add_zero'] at hx165_3)
          (try rw [show ((0 : Int)).toNat = 0 from rfl] at hx165_4)
          (try rw [show 0 * 5 = 0 from rfl] at hx165_4)
          (try rw [Addr.add_zero'] at hx165_4)
          have HR165_3 := Aside0.mk hi165_3
          have HC165_3 := Aside0.mk hl165_3
          clear hi165_3 hl165_3
          replace p165 := eq_true p165
          replace q165 := eq_true q165
          go_enter Tryz.func37, Tryz.ntmps37
          go_wp2
          go_ret2
          exact ⟨by first | rfl | (simp; done) | (simp [*]; done), by repeat (first | exact Drawn0.refl _ | apply Drawn0.step)⟩
      · rw [if_neg c4] at H
        exact absurd H (by simp)
    · rw [if_neg c3] at H
      have c3b0 : ((l0.length : Int) == 1) = false := beq_eq_false_iff_ne.mpr c3
      have c3b1 : ((l0.length : Int) != 1) = true := bne_iff_ne.mpr c3
      simp only [Option.some.injEq, Prod.mk.injEq] at H
      obtain ⟨rfl, rfl⟩ := H
      go_enter Tryz.func37, Tryz.ntmps37
      go_wp2
      go_ret2
      exact ⟨by first | rfl | (simp; done) | (simp [*]; done), by repeat (first | exact Drawn0.refl _ | apply Drawn0.step)⟩
noncomputable def context_plain.f (a0_0 : Int) (a0_1 : ByteArray) (a0_2 : ByteArray) (l0_3 : List (S65)) (a0_4 : Bool) (a1 : Int) (a2 : ByteArray) (a3 : Int) : Option (Bool) := if a0_0 = a1 then (if a0_1.toList = a2.toList then (if (l0_3.length : Int) = a3 then (some (!a0_4)) else (some false)) else (some false)) else (some false)
set_option maxHeartbeats 8000000 in
set_option maxRecDepth 100000 in
theorem context_plain.calls (a0_0 : Int) (a0_1 : ByteArray) (a0_2 : ByteArray) (A0_3 : Option Addr) (c0_3 : Nat) (l0_3 : List (S65)) (a0_4 : Bool) (a1 : Int) (a2 : ByteArray) (a3 : Int) (r : Bool) (w : World) (hr0_3 : Kd.C k65 w A0_3 l0_3.length l0_3) (hc0_3 : l0_3.length ≤ c0_3) (h : context_plain.f a0_0 a0_1 a0_2 l0_3 a0_4 a1 a2 a3 = some r) :
    Calls Tryz.prog 70 #[.agg #[.int .i64 a0_0, .string a0_1, .string a0_2, .slice A0_3 l0_3.length c0_3, .bool a0_4], .int .i64 a1, .string a2, .int .i64 a3] w fun e w' => e = .returned (.bool r) ∧ Below w.heap.size w w' := by
  have hu28 := Tryz.underlying28
  have HR0_3 := Aside0.mk hr0_3
  have HC0_3 := Aside0.mk hc0_3
  clear hr0_3 hc0_3
  have HB := Aside0.mk (Below.refl w.heap.size w)
  have H : (if a0_0 = a1 then (if a0_1.toList = a2.toList then (if (l0_3.length : Int) = a3 then (some (!a0_4)) else (some false)) else (some false)) else (some false)) = some r := h
  clear h
  by_cases c5 : a0_0 = a1
  · rw [if_pos c5] at H
    have c5b0 : (a0_0 == a1) = true := beq_iff_eq.mpr c5
    have c5b1 : (a0_0 != a1) = false := bne_eq_false_iff_eq.mpr c5
    clear c5
    by_cases c6 : a0_1.toList = a2.toList
    · rw [if_pos c6] at H
      have c6b0 : (a0_1.toList == a2.toList) = true := beq_iff_eq.mpr c6
      have c6b1 : (a0_1.toList != a2.toList) = false := bne_eq_false_iff_eq.mpr c6
      clear c6
      by_cases c7 : (l0_3.length : Int) = a3
      · rw [if_pos c7] at H
        have c7b0 : ((l0_3.length : Int) == a3) = true := beq_iff_eq.mpr c7
        have c7b1 : ((l0_3.length : Int) != a3) = false := bne_eq_false_iff_eq.mpr c7
        clear c7
        obtain rfl := Option.some.inj H
        go_enter Tryz.func70, Tryz.ntmps70
        go_wp2_with (first | ((with_reducible refine gate_dst (N := 4) rfl ?_); (try (refine gate_guard (by rfl) ?_; dsimp only)); refine box_event ?hg (N := 4) ?hd (cs := #[.int .i64 a0_0, .string a0_1, .string a0_2, .slice A0_3 l0_3.length c0_3, .bool a0_4]) (t := 28) ?hr ?_; (case hd => rfl); (case hg => rfl); (case hr => first | (go_simp; done) | (go_simp; rfl)); intro gb167 hg w8 hbox hb; have n0_ := Aside0.mk (below_step (by repeat (first | (with_reducible first | exact HB.out | apply below_alloc | apply pw_below_drewN | apply below_drew1) | exact HB.out)) hb); have n1_ := Aside0.mk (hbox); have n2_ := Aside0.mk ((by rw [hg]; exact (below_size (by repeat (first | (with_reducible first | exact HB.out | apply below_alloc | apply pw_below_drewN | apply below_drew1) | exact HB.out))) : w.heap.size ≤ gb167)); have n3_ := Aside0.mk ((by rw [hg]; exact (below_size (by repeat (first | (with_reducible first | exact HB.out | apply below_alloc | apply pw_below_drewN | apply below_drew1) | exact HB.out))) : w.heap.size ≤ gb167)); clear HB; have HB := n0_; have BK167 := n1_; have GW167 := n2_; have GE167 := n3_; clear n0_ n1_ n2_ n3_; clear hb hbox hg; have hcz9_0 : w8.cell? ⟨gb167, 0, none⟩ = some (.int .i64 a0_0) := (blk_cell BK167.out 0).trans rfl; have hcz9_1 : w8.cell? ⟨gb167, 1, none⟩ = some (.string a0_1) := (blk_cell BK167.out 1).trans rfl; have hcz9_2 : w8.cell? ⟨gb167, 2, none⟩ = some (.string a0_2) := (blk_cell BK167.out 2).trans rfl; have hcz9_3 : w8.cell? ⟨gb167, 3, none⟩ = some (.slice A0_3 l0_3.length c0_3) := (blk_cell BK167.out 3).trans rfl; have hcz9_4 : w8.cell? ⟨gb167, 4, none⟩ = some (.bool a0_4) := (blk_cell BK167.out 4).trans rfl; have hfz9_0 := blk_frozen BK167.out 0; have hfz9_1 := blk_frozen BK167.out 1; have hfz9_2 := blk_frozen BK167.out 2; have hfz9_3 := blk_frozen BK167.out 3; have hfz9_4 := blk_frozen BK167.out 4))
        go_ret
        exact ⟨by first | rfl | (simp [errW_none, errW_some] <;> rfl) | (simp [*, errW_none, errW_some] <;> rfl), by repeat (first | (with_reducible first | exact HB.out | apply below_alloc | apply pw_below_drewN | apply below_drew1 | refine below_set ?_ GE167.out) | exact HB.out)⟩
      · rw [if_neg c7] at H
        have c7b0 : ((l0_3.length : Int) == a3) = false := beq_eq_false_iff_ne.mpr c7
        have c7b1 : ((l0_3.length : Int) != a3) = true := bne_iff_ne.mpr c7
        obtain rfl := Option.some.inj H
        go_enter Tryz.func70, Tryz.ntmps70
        go_wp2_with (first | ((with_reducible refine gate_dst (N := 4) rfl ?_); (try (refine gate_guard (by rfl) ?_; dsimp only)); refine box_event ?hg (N := 4) ?hd (cs := #[.int .i64 a0_0, .string a0_1, .string a0_2, .slice A0_3 l0_3.length c0_3, .bool a0_4]) (t := 28) ?hr ?_; (case hd => rfl); (case hg => rfl); (case hr => first | (go_simp; done) | (go_simp; rfl)); intro gb167 hg w10 hbox hb; have n0_ := Aside0.mk (below_step (by repeat (first | (with_reducible first | exact HB.out | apply below_alloc | apply pw_below_drewN | apply below_drew1) | exact HB.out)) hb); have n1_ := Aside0.mk (hbox); have n2_ := Aside0.mk ((by rw [hg]; exact (below_size (by repeat (first | (with_reducible first | exact HB.out | apply below_alloc | apply pw_below_drewN | apply below_drew1) | exact HB.out))) : w.heap.size ≤ gb167)); have n3_ := Aside0.mk ((by rw [hg]; exact (below_size (by repeat (first | (with_reducible first | exact HB.out | apply below_alloc | apply pw_below_drewN | apply below_drew1) | exact HB.out))) : w.heap.size ≤ gb167)); clear HB; have HB := n0_; have BK167 := n1_; have GW167 := n2_; have GE167 := n3_; clear n0_ n1_ n2_ n3_; clear hb hbox hg; have hcz11_0 : w10.cell? ⟨gb167, 0, none⟩ = some (.int .i64 a0_0) := (blk_cell BK167.out 0).trans rfl; have hcz11_1 : w10.cell? ⟨gb167, 1, none⟩ = some (.string a0_1) := (blk_cell BK167.out 1).trans rfl; have hcz11_2 : w10.cell? ⟨gb167, 2, none⟩ = some (.string a0_2) := (blk_cell BK167.out 2).trans rfl; have hcz11_3 : w10.cell? ⟨gb167, 3, none⟩ = some (.slice A0_3 l0_3.length c0_3) := (blk_cell BK167.out 3).trans rfl; have hcz11_4 : w10.cell? ⟨gb167, 4, none⟩ = some (.bool a0_4) := (blk_cell BK167.out 4).trans rfl; have hfz11_0 := blk_frozen BK167.out 0; have hfz11_1 := blk_frozen BK167.out 1; have hfz11_2 := blk_frozen BK167.out 2; have hfz11_3 := blk_frozen BK167.out 3; have hfz11_4 := blk_frozen BK167.out 4))
        go_ret
        exact ⟨by first | rfl | (simp [errW_none, errW_some] <;> rfl) | (simp [*, errW_none, errW_some] <;> rfl), by repeat (first | (with_reducible first | exact HB.out | apply below_alloc | apply pw_below_drewN | apply below_drew1 | refine below_set ?_ GE167.out) | exact HB.out)⟩
    · rw [if_neg c6] at H
      have c6b0 : (a0_1.toList == a2.toList) = false := beq_eq_false_iff_ne.mpr c6
      have c6b1 : (a0_1.toList != a2.toList) = true := bne_iff_ne.mpr c6
      obtain rfl := Option.some.inj H
      go_enter Tryz.func70, Tryz.ntmps70
      go_wp2_with (first | ((with_reducible refine gate_dst (N := 4) rfl ?_); (try (refine gate_guard (by rfl) ?_; dsimp only)); refine box_event ?hg (N := 4) ?hd (cs := #[.int .i64 a0_0, .string a0_1, .string a0_2, .slice A0_3 l0_3.length c0_3, .bool a0_4]) (t := 28) ?hr ?_; (case hd => rfl); (case hg => rfl); (case hr => first | (go_simp; done) | (go_simp; rfl)); intro gb167 hg w12 hbox hb; have n0_ := Aside0.mk (below_step (by repeat (first | (with_reducible first | exact HB.out | apply below_alloc | apply pw_below_drewN | apply below_drew1) | exact HB.out)) hb); have n1_ := Aside0.mk (hbox); have n2_ := Aside0.mk ((by rw [hg]; exact (below_size (by repeat (first | (with_reducible first | exact HB.out | apply below_alloc | apply pw_below_drewN | apply below_drew1) | exact HB.out))) : w.heap.size ≤ gb167)); have n3_ := Aside0.mk ((by rw [hg]; exact (below_size (by repeat (first | (with_reducible first | exact HB.out | apply below_alloc | apply pw_below_drewN | apply below_drew1) | exact HB.out))) : w.heap.size ≤ gb167)); clear HB; have HB := n0_; have BK167 := n1_; have GW167 := n2_; have GE167 := n3_; clear n0_ n1_ n2_ n3_; clear hb hbox hg; have hcz13_0 : w12.cell? ⟨gb167, 0, none⟩ = some (.int .i64 a0_0) := (blk_cell BK167.out 0).trans rfl; have hcz13_1 : w12.cell? ⟨gb167, 1, none⟩ = some (.string a0_1) := (blk_cell BK167.out 1).trans rfl; have hcz13_2 : w12.cell? ⟨gb167, 2, none⟩ = some (.string a0_2) := (blk_cell BK167.out 2).trans rfl; have hcz13_3 : w12.cell? ⟨gb167, 3, none⟩ = some (.slice A0_3 l0_3.length c0_3) := (blk_cell BK167.out 3).trans rfl; have hcz13_4 : w12.cell? ⟨gb167, 4, none⟩ = some (.bool a0_4) := (blk_cell BK167.out 4).trans rfl; have hfz13_0 := blk_frozen BK167.out 0; have hfz13_1 := blk_frozen BK167.out 1; have hfz13_2 := blk_frozen BK167.out 2; have hfz13_3 := blk_frozen BK167.out 3; have hfz13_4 := blk_frozen BK167.out 4))
      go_ret
      exact ⟨by first | rfl | (simp [errW_none, errW_some] <;> rfl) | (simp [*, errW_none, errW_some] <;> rfl), by repeat (first | (with_reducible first | exact HB.out | apply below_alloc | apply pw_below_drewN | apply below_drew1 | refine below_set ?_ GE167.out) | exact HB.out)⟩
  · rw [if_neg c5] at H
    have c5b0 : (a0_0 == a1) = false := beq_eq_false_iff_ne.mpr c5
    have c5b1 : (a0_0 != a1) = true := bne_iff_ne.mpr c5
    obtain rfl := Option.some.inj H
    go_enter Tryz.func70, Tryz.ntmps70
    go_wp2_with (first | ((with_reducible refine gate_dst (N := 4) rfl ?_); (try (refine gate_guard (by rfl) ?_; dsimp only)); refine box_event ?hg (N := 4) ?hd (cs := #[.int .i64 a0_0, .string a0_1, .string a0_2, .slice A0_3 l0_3.length c0_3, .bool a0_4]) (t := 28) ?hr ?_; (case hd => rfl); (case hg => rfl); (case hr => first | (go_simp; done) | (go_simp; rfl)); intro gb167 hg w14 hbox hb; have n0_ := Aside0.mk (below_step (by repeat (first | (with_reducible first | exact HB.out | apply below_alloc | apply pw_below_drewN | apply below_drew1) | exact HB.out)) hb); have n1_ := Aside0.mk (hbox); have n2_ := Aside0.mk ((by rw [hg]; exact (below_size (by repeat (first | (with_reducible first | exact HB.out | apply below_alloc | apply pw_below_drewN | apply below_drew1) | exact HB.out))) : w.heap.size ≤ gb167)); have n3_ := Aside0.mk ((by rw [hg]; exact (below_size (by repeat (first | (with_reducible first | exact HB.out | apply below_alloc | apply pw_below_drewN | apply below_drew1) | exact HB.out))) : w.heap.size ≤ gb167)); clear HB; have HB := n0_; have BK167 := n1_; have GW167 := n2_; have GE167 := n3_; clear n0_ n1_ n2_ n3_; clear hb hbox hg; have hcz15_0 : w14.cell? ⟨gb167, 0, none⟩ = some (.int .i64 a0_0) := (blk_cell BK167.out 0).trans rfl; have hcz15_1 : w14.cell? ⟨gb167, 1, none⟩ = some (.string a0_1) := (blk_cell BK167.out 1).trans rfl; have hcz15_2 : w14.cell? ⟨gb167, 2, none⟩ = some (.string a0_2) := (blk_cell BK167.out 2).trans rfl; have hcz15_3 : w14.cell? ⟨gb167, 3, none⟩ = some (.slice A0_3 l0_3.length c0_3) := (blk_cell BK167.out 3).trans rfl; have hcz15_4 : w14.cell? ⟨gb167, 4, none⟩ = some (.bool a0_4) := (blk_cell BK167.out 4).trans rfl; have hfz15_0 := blk_frozen BK167.out 0; have hfz15_1 := blk_frozen BK167.out 1; have hfz15_2 := blk_frozen BK167.out 2; have hfz15_3 := blk_frozen BK167.out 3; have hfz15_4 := blk_frozen BK167.out 4))
    go_ret
    exact ⟨by first | rfl | (simp [errW_none, errW_some] <;> rfl) | (simp [*, errW_none, errW_some] <;> rfl), by repeat (first | (with_reducible first | exact HB.out | apply below_alloc | apply pw_below_drewN | apply below_drew1 | refine below_set ?_ GE167.out) | exact HB.out)⟩
end Go.Proofs.YtbdcghbafopjjaaGreatDoor.St
end

section
namespace Go.Proofs.YtbdcghbafopjjaaGreatDoor.St
open Go.RowKit Go.Proofs.YtbdcghbafopjjaaGreatDoor.K0 Go.Proofs.YtbdcghbafopjjaaGreatDoor.Hand Go.Proofs.YtbdcghbafopjjaaGreatDoor.Sa Go.Proofs.YtbdcghbafopjjaaGreatDoor.Si Go.Proofs.YtbdcghbafopjjaaGreatDoorW.PrintWords Go.Proofs.YtbdcghbafopjjaaGreatDoorW.PrintLast Go.Proofs.YtbdcghbafopjjaaGreatDoorW.PrintMore
attribute [local go_sem] max2_int min2_int max_two min_two max_three min_three max_four min_four  
set_option linter.unusedVariables false
set_option linter.unusedSimpArgs false
noncomputable def context_value.f (l0 : List (S28)) : Option (ByteArray × Bool) := if (l0.length : Int) = 1 then (if 0 < (l0.length : Int) then ((context_plain.f ((rd_T28 l0 0).f0) ((rd_T28 l0 0).f1) ((rd_T28 l0 0).f2) ((rd_T28 l0 0).f3) ((rd_T28 l0 0).f4) 1 (⟨#[97]⟩ : ByteArray) 1).bind fun t169 => (if t169 = true then (if 0 < (((rd_T28 l0 0).f3).length : Int) then (if ((rd_T65 ((rd_T28 l0 0).f3) 0).f0).toList = ([120] : List UInt8) then (some ((rd_T65 ((rd_T28 l0 0).f3) 0).f1, true)) else (some ((⟨#[]⟩ : ByteArray), false))) else (none)) else (some ((⟨#[]⟩ : ByteArray), false)))) else (none)) else (some ((⟨#[]⟩ : ByteArray), false))
set_option maxHeartbeats 8000000 in
set_option maxRecDepth 100000 in
theorem context_value.calls (A0 : Option Addr) (c0 : Nat) (l0 : List (S28)) (r1 : ByteArray) (r2 : Bool) (w : World) (hr0 : Kd.C k28 w A0 l0.length l0) (hc0 : l0.length ≤ c0) (h : context_value.f l0 = some (r1, r2)) :
    Calls Tryz.prog 38 #[.slice A0 l0.length c0] w fun e w' => e = .returned (.tuple #[.string r1, .bool r2]) ∧ Below w.heap.size w w' := by
  have hu28 := Tryz.underlying28
  have HR0 := Aside0.mk hr0
  have HC0 := Aside0.mk hc0
  clear hr0 hc0
  have HB := Aside0.mk (Below.refl w.heap.size w)
  have H : (if (l0.length : Int) = 1 then (if 0 < (l0.length : Int) then ((context_plain.f ((rd_T28 l0 0).f0) ((rd_T28 l0 0).f1) ((rd_T28 l0 0).f2) ((rd_T28 l0 0).f3) ((rd_T28 l0 0).f4) 1 (⟨#[97]⟩ : ByteArray) 1).bind fun t169 => (if t169 = true then (if 0 < (((rd_T28 l0 0).f3).length : Int) then (if ((rd_T65 ((rd_T28 l0 0).f3) 0).f0).toList = ([120] : List UInt8) then (some ((rd_T65 ((rd_T28 l0 0).f3) 0).f1, true)) else (some ((⟨#[]⟩ : ByteArray), false))) else (none)) else (some ((⟨#[]⟩ : ByteArray), false)))) else (none)) else (some ((⟨#[]⟩ : ByteArray), false))) = some (r1, r2) := h
  clear h
  by_cases c2 : (l0.length : Int) = 1
  · rw [if_pos c2] at H
    have c2b0 : ((l0.length : Int) == 1) = true := beq_iff_eq.mpr c2
    have c2b1 : ((l0.length : Int) != 1) = false := bne_eq_false_iff_eq.mpr c2
    clear c2
    by_cases c3 : 0 < (l0.length : Int)
    · rw [if_pos c3] at H
      have c3b0 : decide (0 < (l0.length : Int)) = true := decide_eq_true c3
      have c3b1 : decide (0 < l0.length) = true := decide_eq_true (by omega)
      clear c3
      replace H := Option.bind_eq_some_iff.mp H
      obtain ⟨t169, A40, H⟩ := H
      replace H : (if t169 = true then (if 0 < (((rd_T28 l0 0).f3).length : Int) then (if ((rd_T65 ((rd_T28 l0 0).f3) 0).f0).toList = ([120] : List UInt8) then (some ((rd_T65 ((rd_T28 l0 0).f3) 0).f1, true)) else (some ((⟨#[]⟩ : ByteArray), false))) else (none)) else (some ((⟨#[]⟩ : ByteArray), false))) = some (r1, r2) := H
      have A4 := Aside0.mk A40
      clear A40
      by_cases c5 : t169 = true
      · subst c5
        have H1 : (if 0 < (((rd_T28 l0 0).f3).length : Int) then (if ((rd_T65 ((rd_T28 l0 0).f3) 0).f0).toList = ([120] : List UInt8) then (some ((rd_T65 ((rd_T28 l0 0).f3) 0).f1, true)) else (some ((⟨#[]⟩ : ByteArray), false))) else (none)) = some (r1, r2) := by rw [if_pos rfl] at H; exact H
        clear H
        have H := H1
        clear H1
        by_cases c6 : 0 < (((rd_T28 l0 0).f3).length : Int)
        · rw [if_pos c6] at H
          have c6b0 : decide (0 < (((rd_T28 l0 0).f3).length : Int)) = true := decide_eq_true c6
          have c6b1 : decide (0 < ((rd_T28 l0 0).f3).length) = true := decide_eq_true (by omega)
          clear c6
          by_cases c7 : ((rd_T65 ((rd_T28 l0 0).f3) 0).f0).toList = ([120] : List UInt8)
          · rw [if_pos c7] at H
            have c7b0 : (((rd_T65 ((rd_T28 l0 0).f3) 0).f0).toList == ([120] : List UInt8)) = true := beq_iff_eq.mpr c7
            have c7b1 : (((rd_T65 ((rd_T28 l0 0).f3) 0).f0).toList != ([120] : List UInt8)) = false := bne_eq_false_iff_eq.mpr c7
            clear c7
            simp only [Option.some.injEq, Prod.mk.injEq] at H
            obtain ⟨rfl, rfl⟩ := H
            have p168 : 0 ≤ (0 : Int) := (by omega)
            have q168 : 0 < (l0.length : Int) := of_decide_eq_true (by first | (with_reducible assumption) | assumption)
            obtain ⟨ad168, A168_3, c168_3, e168, hx168_0, hx168_1, hx168_2, hx168_3, hx168_4, hl168_3, hi168_3⟩ := at_T28 HR0.out 0 p168 q168
            cases e168
            have qi168 : (0 < l0.length) = True := eq_true (by omega)
            (try rw [show ((0 : Int)).toNat = 0 from rfl] at hx168_0)
            (try rw [show 0 * 5 = 0 from rfl] at hx168_0)
            (try rw [Addr.add_zero'] at hx168_0)
            (try rw [show ((0 : Int)).toNat = 0 from rfl] at hx168_1)
            (try rw [show 0 * 5 = 0 from rfl] at hx168_1)
            (try rw [Addr.add_zero'] at hx168_1)
            (try rw [show ((0 : Int)).toNat = 0 from rfl] at hx168_2)
            (try rw [show 0 * 5 = 0 from rfl] at hx168_2)
            (try rw [Addr.add_zero'] at hx168_2)
            (try rw [show ((0 : Int)).toNat = 0 from rfl] at hx168_3)
            (try rw [show 0 * 5 = 0 from rfl] at hx168_3)
            (try rw [Addr.add_zero'] at hx168_3)
            (try rw [show ((0 : Int)).toNat = 0 from rfl] at hx168_4)
            (try rw [show 0 * 5 = 0 from rfl] at hx168_4)
            (try rw [Addr.add_zero'] at hx168_4)
            have HR168_3 := Aside0.mk hi168_3
            have HC168_3 := Aside0.mk hl168_3
            clear hi168_3 hl168_3
            replace p168 := eq_true p168
            replace q168 := eq_true q168
            go_enter Tryz.func38, Tryz.ntmps38
            go_wp2_with (first | (go_at_call 70; (with_reducible refine (context_plain.calls ((rd_T28 l0 0).f0) ((rd_T28 l0 0).f1) ((rd_T28 l0 0).f2) _ _ ((rd_T28 l0 0).f3) ((rd_T28 l0 0).f4) 1 (⟨#[97]⟩ : ByteArray) 1 true _ ?side1 ?side2 A4.out).mono ?_); (case side1 => repeat (first | exact HR168_3.out | (with_reducible refine Kd.C_alloc ?_ _) | (with_reducible refine Kd.C_drewN ?_ _) | (with_reducible refine Kd.C_drew ?_))); (case side2 => exact HC168_3.out); rintro e w8 ⟨rfl, hb⟩; have n0_ := Aside0.mk (below_step (by repeat (first | (with_reducible first | exact HB.out | apply below_alloc | apply pw_below_drewN | apply below_drew1) | exact HB.out)) hb); clear HB; have HB := n0_; clear n0_; (try clear hb); (try clear hb2); (try clear hk); (try clear hi); have p170 : 0 ≤ (0 : Int) := (by omega); have q170 : 0 < (l0.length : Int) := of_decide_eq_true (by first | (with_reducible assumption) | assumption); obtain ⟨ad170, A170_3, c170_3, e170, hx170_0, hx170_1, hx170_2, hx170_3, hx170_4, hl170_3, hi170_3⟩ := at_T28 HR0.out 0 p170 q170; obtain rfl : ad168 = ad170 := (by injection e170); have qi170 : (0 < l0.length) = True := eq_true (by omega); (try rw [show ((0 : Int)).toNat = 0 from rfl] at hx170_0); (try rw [show 0 * 5 = 0 from rfl] at hx170_0); (try rw [Addr.add_zero'] at hx170_0); (try rw [show ((0 : Int)).toNat = 0 from rfl] at hx170_1); (try rw [show 0 * 5 = 0 from rfl] at hx170_1); (try rw [Addr.add_zero'] at hx170_1); (try rw [show ((0 : Int)).toNat = 0 from rfl] at hx170_2); (try rw [show 0 * 5 = 0 from rfl] at hx170_2); (try rw [Addr.add_zero'] at hx170_2); (try rw [show ((0 : Int)).toNat = 0 from rfl] at hx170_3); (try rw [show 0 * 5 = 0 from rfl] at hx170_3); (try rw [Addr.add_zero'] at hx170_3); (try rw [show ((0 : Int)).toNat = 0 from rfl] at hx170_4); (try rw [show 0 * 5 = 0 from rfl] at hx170_4); (try rw [Addr.add_zero'] at hx170_4); replace hx170_0 := (HB.out.cell (World.block_lt_of_cell? w _ hx170_0)).trans hx170_0; replace hx170_1 := (HB.out.cell (World.block_lt_of_cell? w _ hx170_1)).trans hx170_1; replace hx170_2 := (HB.out.cell (World.block_lt_of_cell? w _ hx170_2)).trans hx170_2; replace hx170_3 := (HB.out.cell (World.block_lt_of_cell? w _ hx170_3)).trans hx170_3; replace hx170_4 := (HB.out.cell (World.block_lt_of_cell? w _ hx170_4)).trans hx170_4; have HR170_3 := Aside0.mk hi170_3; have HC170_3 := Aside0.mk hl170_3; clear hi170_3 hl170_3; replace p170 := eq_true p170; replace q170 := eq_true q170; have p171 : 0 ≤ (0 : Int) := (by omega); have q171 : 0 < (((rd_T28 l0 0).f3).length : Int) := of_decide_eq_true (by first | (with_reducible assumption) | assumption); obtain ⟨ad171, e171, hx171_0, hx171_1⟩ := at_T65 HR170_3.out 0 p171 q171; cases e171; have qi171 : (0 < ((rd_T28 l0 0).f3).length) = True := eq_true (by omega); (try rw [show ((0 : Int)).toNat = 0 from rfl] at hx171_0); (try rw [show 0 * 2 = 0 from rfl] at hx171_0); (try rw [Addr.add_zero'] at hx171_0); (try rw [show ((0 : Int)).toNat = 0 from rfl] at hx171_1); (try rw [show 0 * 2 = 0 from rfl] at hx171_1); (try rw [Addr.add_zero'] at hx171_1); replace hx171_0 := (HB.out.cell (World.block_lt_of_cell? w _ hx171_0)).trans hx171_0; replace hx171_1 := (HB.out.cell (World.block_lt_of_cell? w _ hx171_1)).trans hx171_1; replace p171 := eq_true p171; replace q171 := eq_true q171; have p172 : 0 ≤ (0 : Int) := (by omega); have q172 : 0 < (l0.length : Int) := of_decide_eq_true (by first | (with_reducible assumption) | assumption); obtain ⟨ad172, A172_3, c172_3, e172, hx172_0, hx172_1, hx172_2, hx172_3, hx172_4, hl172_3, hi172_3⟩ := at_T28 HR0.out 0 p172 q172; obtain rfl : ad168 = ad172 := (by injection e172); have qi172 : (0 < l0.length) = True := eq_true (by omega); (try rw [show ((0 : Int)).toNat = 0 from rfl] at hx172_0); (try rw [show 0 * 5 = 0 from rfl] at hx172_0); (try rw [Addr.add_zero'] at hx172_0); (try rw [show ((0 : Int)).toNat = 0 from rfl] at hx172_1); (try rw [show 0 * 5 = 0 from rfl] at hx172_1); (try rw [Addr.add_zero'] at hx172_1); (try rw [show ((0 : Int)).toNat = 0 from rfl] at hx172_2); (try rw [show 0 * 5 = 0 from rfl] at hx172_2); (try rw [Addr.add_zero'] at hx172_2); (try rw [show ((0 : Int)).toNat = 0 from rfl] at hx172_3); (try rw [show 0 * 5 = 0 from rfl] at hx172_3); (try rw [Addr.add_zero'] at hx172_3); (try rw [show ((0 : Int)).toNat = 0 from rfl] at hx172_4); (try rw [show 0 * 5 = 0 from rfl] at hx172_4); (try rw [Addr.add_zero'] at hx172_4); replace hx172_0 := (HB.out.cell (World.block_lt_of_cell? w _ hx172_0)).trans hx172_0; replace hx172_1 := (HB.out.cell (World.block_lt_of_cell? w _ hx172_1)).trans hx172_1; replace hx172_2 := (HB.out.cell (World.block_lt_of_cell? w _ hx172_2)).trans hx172_2; replace hx172_3 := (HB.out.cell (World.block_lt_of_cell? w _ hx172_3)).trans hx172_3; replace hx172_4 := (HB.out.cell (World.block_lt_of_cell? w _ hx172_4)).trans hx172_4; have HR172_3 := Aside0.mk hi172_3; have HC172_3 := Aside0.mk hl172_3; clear hi172_3 hl172_3; replace p172 := eq_true p172; replace q172 := eq_true q172; have ea_ := Option.some.inj (hx170_3.symm.trans hx172_3); injection ea_ with ea_ en_ ec_; subst ea_; subst ec_; clear en_; have p173 : 0 ≤ (0 : Int) := (by omega); have q173 : 0 < (((rd_T28 l0 0).f3).length : Int) := of_decide_eq_true (by first | (with_reducible assumption) | assumption); obtain ⟨ad173, e173, hx173_0, hx173_1⟩ := at_T65 HR172_3.out 0 p173 q173; cases e173; have qi173 : (0 < ((rd_T28 l0 0).f3).length) = True := eq_true (by omega); (try rw [show ((0 : Int)).toNat = 0 from rfl] at hx173_0); (try rw [show 0 * 2 = 0 from rfl] at hx173_0); (try rw [Addr.add_zero'] at hx173_0); (try rw [show ((0 : Int)).toNat = 0 from rfl] at hx173_1); (try rw [show 0 * 2 = 0 from rfl] at hx173_1); (try rw [Addr.add_zero'] at hx173_1); replace hx173_0 := (HB.out.cell (World.block_lt_of_cell? w _ hx173_0)).trans hx173_0; replace hx173_1 := (HB.out.cell (World.block_lt_of_cell? w _ hx173_1)).trans hx173_1; replace p173 := eq_true p173; replace q173 := eq_true q173))
            go_ret2
            exact ⟨by first | rfl | (simp [errW_none, errW_some] <;> rfl) | (simp [*, errW_none, errW_some] <;> rfl), by repeat (first | (with_reducible first | exact HB.out | apply below_alloc | apply pw_below_drewN | apply below_drew1) | exact HB.out)⟩
          · rw [if_neg c7] at H
            have c7b0 : (((rd_T65 ((rd_T28 l0 0).f3) 0).f0).toList == ([120] : List UInt8)) = false := beq_eq_false_iff_ne.mpr c7
            have c7b1 : (((rd_T65 ((rd_T28 l0 0).f3) 0).f0).toList != ([120] : List UInt8)) = true := bne_iff_ne.mpr c7
            simp only [Option.some.injEq, Prod.mk.injEq] at H
            obtain ⟨rfl, rfl⟩ := H
            have p168 : 0 ≤ (0 : Int) := (by omega)
            have q168 : 0 < (l0.length : Int) := of_decide_eq_true (by first | (with_reducible assumption) | assumption)
            obtain ⟨ad168, A168_3, c168_3, e168, hx168_0, hx168_1, hx168_2, hx168_3, hx168_4, hl168_3, hi168_3⟩ := at_T28 HR0.out 0 p168 q168
            cases e168
            have qi168 : (0 < l0.length) = True := eq_true (by omega)
            (try rw [show ((0 : Int)).toNat = 0 from rfl] at hx168_0)
            (try rw [show 0 * 5 = 0 from rfl] at hx168_0)
            (try rw [Addr.add_zero'] at hx168_0)
            (try rw [show ((0 : Int)).toNat = 0 from rfl] at hx168_1)
            (try rw [show 0 * 5 = 0 from rfl] at hx168_1)
            (try rw [Addr.add_zero'] at hx168_1)
            (try rw [show ((0 : Int)).toNat = 0 from rfl] at hx168_2)
            (try rw [show 0 * 5 = 0 from rfl] at hx168_2)
            (try rw [Addr.add_zero'] at hx168_2)
            (try rw [show ((0 : Int)).toNat = 0 from rfl] at hx168_3)
            (try rw [show 0 * 5 = 0 from rfl] at hx168_3)
            (try rw [Addr.add_zero'] at hx168_3)
            (try rw [show ((0 : Int)).toNat = 0 from rfl] at hx168_4)
            (try rw [show 0 * 5 = 0 from rfl] at hx168_4)
            (try rw [Addr.add_zero'] at hx168_4)
            have HR168_3 := Aside0.mk hi168_3
            have HC168_3 := Aside0.mk hl168_3
            clear hi168_3 hl168_3
            replace p168 := eq_true p168
            replace q168 := eq_true q168
            go_enter Tryz.func38, Tryz.ntmps38
            go_wp2_with (first | (go_at_call 70; (with_reducible refine (context_plain.calls ((rd_T28 l0 0).f0) ((rd_T28 l0 0).f1) ((rd_T28 l0 0).f2) _ _ ((rd_T28 l0 0).f3) ((rd_T28 l0 0).f4) 1 (⟨#[97]⟩ : ByteArray) 1 true _ ?side1 ?side2 A4.out).mono ?_); (case side1 => repeat (first | exact HR168_3.out | (with_reducible refine Kd.C_alloc ?_ _) | (with_reducible refine Kd.C_drewN ?_ _) | (with_reducible refine Kd.C_drew ?_))); (case side2 => exact HC168_3.out); rintro e w9 ⟨rfl, hb⟩; have n0_ := Aside0.mk (below_step (by repeat (first | (with_reducible first | exact HB.out | apply below_alloc | apply pw_below_drewN | apply below_drew1) | exact HB.out)) hb); clear HB; have HB := n0_; clear n0_; (try clear hb); (try clear hb2); (try clear hk); (try clear hi); have p170 : 0 ≤ (0 : Int) := (by omega); have q170 : 0 < (l0.length : Int) := of_decide_eq_true (by first | (with_reducible assumption) | assumption); obtain ⟨ad170, A170_3, c170_3, e170, hx170_0, hx170_1, hx170_2, hx170_3, hx170_4, hl170_3, hi170_3⟩ := at_T28 HR0.out 0 p170 q170; obtain rfl : ad168 = ad170 := (by injection e170); have qi170 : (0 < l0.length) = True := eq_true (by omega); (try rw [show ((0 : Int)).toNat = 0 from rfl] at hx170_0); (try rw [show 0 * 5 = 0 from rfl] at hx170_0); (try rw [Addr.add_zero'] at hx170_0); (try rw [show ((0 : Int)).toNat = 0 from rfl] at hx170_1); (try rw [show 0 * 5 = 0 from rfl] at hx170_1); (try rw [Addr.add_zero'] at hx170_1); (try rw [show ((0 : Int)).toNat = 0 from rfl] at hx170_2); (try rw [show 0 * 5 = 0 from rfl] at hx170_2); (try rw [Addr.add_zero'] at hx170_2); (try rw [show ((0 : Int)).toNat = 0 from rfl] at hx170_3); (try rw [show 0 * 5 = 0 from rfl] at hx170_3); (try rw [Addr.add_zero'] at hx170_3); (try rw [show ((0 : Int)).toNat = 0 from rfl] at hx170_4); (try rw [show 0 * 5 = 0 from rfl] at hx170_4); (try rw [Addr.add_zero'] at hx170_4); replace hx170_0 := (HB.out.cell (World.block_lt_of_cell? w _ hx170_0)).trans hx170_0; replace hx170_1 := (HB.out.cell (World.block_lt_of_cell? w _ hx170_1)).trans hx170_1; replace hx170_2 := (HB.out.cell (World.block_lt_of_cell? w _ hx170_2)).trans hx170_2; replace hx170_3 := (HB.out.cell (World.block_lt_of_cell? w _ hx170_3)).trans hx170_3; replace hx170_4 := (HB.out.cell (World.block_lt_of_cell? w _ hx170_4)).trans hx170_4; have HR170_3 := Aside0.mk hi170_3; have HC170_3 := Aside0.mk hl170_3; clear hi170_3 hl170_3; replace p170 := eq_true p170; replace q170 := eq_true q170; have p171 : 0 ≤ (0 : Int) := (by omega); have q171 : 0 < (((rd_T28 l0 0).f3).length : Int) := of_decide_eq_true (by first | (with_reducible assumption) | assumption); obtain ⟨ad171, e171, hx171_0, hx171_1⟩ := at_T65 HR170_3.out 0 p171 q171; cases e171; have qi171 : (0 < ((rd_T28 l0 0).f3).length) = True := eq_true (by omega); (try rw [show ((0 : Int)).toNat = 0 from rfl] at hx171_0); (try rw [show 0 * 2 = 0 from rfl] at hx171_0); (try rw [Addr.add_zero'] at hx171_0); (try rw [show ((0 : Int)).toNat = 0 from rfl] at hx171_1); (try rw [show 0 * 2 = 0 from rfl] at hx171_1); (try rw [Addr.add_zero'] at hx171_1); replace hx171_0 := (HB.out.cell (World.block_lt_of_cell? w _ hx171_0)).trans hx171_0; replace hx171_1 := (HB.out.cell (World.block_lt_of_cell? w _ hx171_1)).trans hx171_1; replace p171 := eq_true p171; replace q171 := eq_true q171))
            go_ret2
            exact ⟨by first | rfl | (simp [errW_none, errW_some] <;> rfl) | (simp [*, errW_none, errW_some] <;> rfl), by repeat (first | (with_reducible first | exact HB.out | apply below_alloc | apply pw_below_drewN | apply below_drew1) | exact HB.out)⟩
        · rw [if_neg c6] at H
          exact absurd H (by simp)
      · replace c5 := Bool.eq_false_iff.mpr c5
        subst c5
        have H1 : (some ((⟨#[]⟩ : ByteArray), false)) = some (r1, r2) := by rw [if_neg (show ¬ (false = true) by decide)] at H; exact H
        clear H
        have H := H1
        clear H1
        simp only [Option.some.injEq, Prod.mk.injEq] at H
        obtain ⟨rfl, rfl⟩ := H
        have p168 : 0 ≤ (0 : Int) := (by omega)
        have q168 : 0 < (l0.length : Int) := of_decide_eq_true (by first | (with_reducible assumption) | assumption)
        obtain ⟨ad168, A168_3, c168_3, e168, hx168_0, hx168_1, hx168_2, hx168_3, hx168_4, hl168_3, hi168_3⟩ := at_T28 HR0.out 0 p168 q168
        cases e168
        have qi168 : (0 < l0.length) = True := eq_true (by omega)
        (try rw [show ((0 : Int)).toNat = 0 from rfl] at hx168_0)
        (try rw [show 0 * 5 = 0 from rfl] at hx168_0)
        (try rw [Addr.add_zero'] at hx168_0)
        (try rw [show ((0 : Int)).toNat = 0 from rfl] at hx168_1)
        (try rw [show 0 * 5 = 0 from rfl] at hx168_1)
        (try rw [Addr.add_zero'] at hx168_1)
        (try rw [show ((0 : Int)).toNat = 0 from rfl] at hx168_2)
        (try rw [show 0 * 5 = 0 from rfl] at hx168_2)
        (try rw [Addr.add_zero'] at hx168_2)
        (try rw [show ((0 : Int)).toNat = 0 from rfl] at hx168_3)
        (try rw [show 0 * 5 = 0 from rfl] at hx168_3)
        (try rw [Addr.add_zero'] at hx168_3)
        (try rw [show ((0 : Int)).toNat = 0 from rfl] at hx168_4)
        (try rw [show 0 * 5 = 0 from rfl] at hx168_4)
        (try rw [Addr.add_zero'] at hx168_4)
        have HR168_3 := Aside0.mk hi168_3
        have HC168_3 := Aside0.mk hl168_3
        clear hi168_3 hl168_3
        replace p168 := eq_true p168
        replace q168 := eq_true q168
        go_enter Tryz.func38, Tryz.ntmps38
        go_wp2_with (first | (go_at_call 70; (with_reducible refine (context_plain.calls ((rd_T28 l0 0).f0) ((rd_T28 l0 0).f1) ((rd_T28 l0 0).f2) _ _ ((rd_T28 l0 0).f3) ((rd_T28 l0 0).f4) 1 (⟨#[97]⟩ : ByteArray) 1 false _ ?side1 ?side2 A4.out).mono ?_); (case side1 => repeat (first | exact HR168_3.out | (with_reducible refine Kd.C_alloc ?_ _) | (with_reducible refine Kd.C_drewN ?_ _) | (with_reducible refine Kd.C_drew ?_))); (case side2 => exact HC168_3.out); rintro e w10 ⟨rfl, hb⟩; have n0_ := Aside0.mk (below_step (by repeat (first | (with_reducible first | exact HB.out | apply below_alloc | apply pw_below_drewN | apply below_drew1) | exact HB.out)) hb); clear HB; have HB := n0_; clear n0_; (try clear hb); (try clear hb2); (try clear hk); (try clear hi)))
        go_ret2
        exact ⟨by first | rfl | (simp [errW_none, errW_some] <;> rfl) | (simp [*, errW_none, errW_some] <;> rfl), by repeat (first | (with_reducible first | exact HB.out | apply below_alloc | apply pw_below_drewN | apply below_drew1) | exact HB.out)⟩
    · rw [if_neg c3] at H
      exact absurd H (by simp)
  · rw [if_neg c2] at H
    have c2b0 : ((l0.length : Int) == 1) = false := beq_eq_false_iff_ne.mpr c2
    have c2b1 : ((l0.length : Int) != 1) = true := bne_iff_ne.mpr c2
    simp only [Option.some.injEq, Prod.mk.injEq] at H
    obtain ⟨rfl, rfl⟩ := H
    go_enter Tryz.func38, Tryz.ntmps38
    go_wp2
    go_ret2
    exact ⟨by first | rfl | (simp [errW_none, errW_some] <;> rfl) | (simp [*, errW_none, errW_some] <;> rfl), by repeat (first | (with_reducible first | exact HB.out | apply below_alloc | apply pw_below_drewN | apply below_drew1) | exact HB.out)⟩
noncomputable def stringslite_HasPrefix.f (a0 : ByteArray) (a1 : ByteArray) : Option (Bool) := if (a0.size : Int) ≥ (a1.size : Int) then (if 0 ≤ (a1.size : Int) then (if (a1.size : Int) ≤ (a0.size : Int) then (some ((a0.extract 0 ((a1.size : Int) : Int).toNat).toList == a1.toList)) else (none)) else (none)) else (some false)
set_option maxHeartbeats 8000000 in
set_option maxRecDepth 100000 in
theorem stringslite_HasPrefix.calls (a0 : ByteArray) (a1 : ByteArray) (r : Bool) (w : World) (h : stringslite_HasPrefix.f a0 a1 = some r) :
    Calls Tryz.prog 79 #[.string a0, .string a1] w fun e w' => e = .returned (.bool r) ∧ Drawn0 w w' := by
  have H : (if (a0.size : Int) ≥ (a1.size : Int) then (if 0 ≤ (a1.size : Int) then (if (a1.size : Int) ≤ (a0.size : Int) then (some ((a0.extract 0 ((a1.size : Int) : Int).toNat).toList == a1.toList)) else (none)) else (none)) else (some false)) = some r := h
  clear h
  by_cases c3 : (a0.size : Int) ≥ (a1.size : Int)
  · rw [if_pos c3] at H
    have c3b0 : decide ((a1.size : Int) ≤ (a0.size : Int)) = true := decide_eq_true c3
    have c3b1 : decide (a1.size ≤ a0.size) = true := decide_eq_true (Int.ofNat_le.mp c3)
    clear c3
    by_cases c4 : 0 ≤ (a1.size : Int)
    · rw [if_pos c4] at H
      have c4b0 := eq_true c4
      have c4b1 : decide (0 ≤ (a1.size : Int)) = true := decide_eq_true c4
      clear c4
      by_cases c5 : (a1.size : Int) ≤ (a0.size : Int)
      · rw [if_pos c5] at H
        have c5b0 := eq_true c5
        have c5b1 : decide ((a1.size : Int) ≤ (a0.size : Int)) = true := decide_eq_true c5
        clear c5
        obtain rfl := Option.some.inj H
        go_enter Tryz.func79, Tryz.ntmps79
        go_wp2
        go_ret
        exact ⟨by first | rfl | (simp; done) | (simp [*]; done), by repeat (first | exact Drawn0.refl _ | apply Drawn0.step)⟩
      · rw [if_neg c5] at H
        exact absurd H (by simp)
    · rw [if_neg c4] at H
      exact absurd H (by simp)
  · rw [if_neg c3] at H
    have c3b0 : decide ((a1.size : Int) ≤ (a0.size : Int)) = false := decide_eq_false c3
    have c3b1 : decide (a1.size ≤ a0.size) = false := decide_eq_false (fun h => c3 (Int.ofNat_le.mpr h))
    clear c3
    obtain rfl := Option.some.inj H
    go_enter Tryz.func79, Tryz.ntmps79
    go_wp2
    go_ret
    exact ⟨by first | rfl | (simp; done) | (simp [*]; done), by repeat (first | exact Drawn0.refl _ | apply Drawn0.step)⟩
noncomputable def stringslite_TrimPrefix.f (a0 : ByteArray) (a1 : ByteArray) : Option (ByteArray) := (stringslite_HasPrefix.f a0 a1).bind fun t174 => (if t174 = true then (if 0 ≤ (a1.size : Int) then (if (a1.size : Int) ≤ (a0.size : Int) then (some (a0.extract ((a1.size : Int) : Int).toNat a0.size)) else (none)) else (none)) else (some a0))
set_option maxHeartbeats 8000000 in
set_option maxRecDepth 100000 in
theorem stringslite_TrimPrefix.calls (a0 : ByteArray) (a1 : ByteArray) (r : ByteArray) (w : World) (h : stringslite_TrimPrefix.f a0 a1 = some r) :
    Calls Tryz.prog 80 #[.string a0, .string a1] w fun e w' => e = .returned (.string r) ∧ Drawn0 w w' := by
  have H : ((stringslite_HasPrefix.f a0 a1).bind fun t174 => (if t174 = true then (if 0 ≤ (a1.size : Int) then (if (a1.size : Int) ≤ (a0.size : Int) then (some (a0.extract ((a1.size : Int) : Int).toNat a0.size)) else (none)) else (none)) else (some a0))) = some r := h
  clear h
  replace H := Option.bind_eq_some_iff.mp H
  obtain ⟨t174, A30, H⟩ := H
  replace H : (if t174 = true then (if 0 ≤ (a1.size : Int) then (if (a1.size : Int) ≤ (a0.size : Int) then (some (a0.extract ((a1.size : Int) : Int).toNat a0.size)) else (none)) else (none)) else (some a0)) = some r := H
  have A3 := Aside0.mk A30
  clear A30
  by_cases c4 : t174 = true
  · subst c4
    have H1 : (if 0 ≤ (a1.size : Int) then (if (a1.size : Int) ≤ (a0.size : Int) then (some (a0.extract ((a1.size : Int) : Int).toNat a0.size)) else (none)) else (none)) = some r := by rw [if_pos rfl] at H; exact H
    clear H
    have H := H1
    clear H1
    by_cases c5 : 0 ≤ (a1.size : Int)
    · rw [if_pos c5] at H
      have c5b0 := eq_true c5
      have c5b1 : decide (0 ≤ (a1.size : Int)) = true := decide_eq_true c5
      clear c5
      by_cases c6 : (a1.size : Int) ≤ (a0.size : Int)
      · rw [if_pos c6] at H
        have c6b0 := eq_true c6
        have c6b1 : decide ((a1.size : Int) ≤ (a0.size : Int)) = true := decide_eq_true c6
        clear c6
        obtain rfl := Option.some.inj H
        go_enter Tryz.func80, Tryz.ntmps80
        go_wp2_with (first | ((with_reducible refine gate_callee (f := 79) rfl ?_); refine goesL_ (some 7) rfl rfl Tryz.func79 (by kernel_rfl) rfl #[.string a0, .string a1] rfl (by (try simp only [List.map_toArray, List.map_cons, List.map_nil]); first | done | rfl | (simp only [List.length_drop, List.length_take]; rfl)) ?_; (with_reducible refine (stringslite_HasPrefix.calls a0 a1 true _ A3.out).mono ?_); rintro e w' ⟨rfl, ⟨nd, rfl⟩⟩; refine ⟨_, rfl, ?_⟩))
        go_ret
        exact ⟨by first | rfl | (simp; done) | (simp [*]; done), by repeat (first | exact Drawn0.refl _ | apply Drawn0.step)⟩
      · rw [if_neg c6] at H
        exact absurd H (by simp)
    · rw [if_neg c5] at H
      exact absurd H (by simp)
  · replace c4 := Bool.eq_false_iff.mpr c4
    subst c4
    have H1 : (some a0) = some r := by rw [if_neg (show ¬ (false = true) by decide)] at H; exact H
    clear H
    have H := H1
    clear H1
    obtain rfl := Option.some.inj H
    go_enter Tryz.func80, Tryz.ntmps80
    go_wp2_with (first | ((with_reducible refine gate_callee (f := 79) rfl ?_); refine goesL_ (some 7) rfl rfl Tryz.func79 (by kernel_rfl) rfl #[.string a0, .string a1] rfl (by (try simp only [List.map_toArray, List.map_cons, List.map_nil]); first | done | rfl | (simp only [List.length_drop, List.length_take]; rfl)) ?_; (with_reducible refine (stringslite_HasPrefix.calls a0 a1 false _ A3.out).mono ?_); rintro e w' ⟨rfl, ⟨nd, rfl⟩⟩; refine ⟨_, rfl, ?_⟩))
    go_ret
    exact ⟨by first | rfl | (simp; done) | (simp [*]; done), by repeat (first | exact Drawn0.refl _ | apply Drawn0.step)⟩
noncomputable def strings_TrimPrefix.f (a0 : ByteArray) (a1 : ByteArray) : Option (ByteArray) := (stringslite_TrimPrefix.f a0 a1).bind fun t175 => (some t175)
set_option maxHeartbeats 8000000 in
set_option maxRecDepth 100000 in
theorem strings_TrimPrefix.calls (a0 : ByteArray) (a1 : ByteArray) (r : ByteArray) (w : World) (h : strings_TrimPrefix.f a0 a1 = some r) :
    Calls Tryz.prog 48 #[.string a0, .string a1] w fun e w' => e = .returned (.string r) ∧ Drawn0 w w' := by
  have H : ((stringslite_TrimPrefix.f a0 a1).bind fun t175 => (some t175)) = some r := h
  clear h
  replace H := Option.bind_eq_some_iff.mp H
  obtain ⟨t175, A30, H⟩ := H
  replace H : (some t175) = some r := H
  have A3 := Aside0.mk A30
  clear A30
  obtain rfl := Option.some.inj H
  go_enter Tryz.func48, Tryz.ntmps48
  go_wp2_with (first | ((with_reducible refine gate_callee (f := 80) rfl ?_); refine goesL_ (some 7) rfl rfl Tryz.func80 (by kernel_rfl) rfl #[.string a0, .string a1] rfl (by (try simp only [List.map_toArray, List.map_cons, List.map_nil]); first | done | rfl | (simp only [List.length_drop, List.length_take]; rfl)) ?_; (with_reducible refine (stringslite_TrimPrefix.calls a0 a1 t175 _ A3.out).mono ?_); rintro e w' ⟨rfl, ⟨nd, rfl⟩⟩; refine ⟨_, rfl, ?_⟩))
  go_ret
  exact ⟨by first | rfl | (simp; done) | (simp [*]; done), by repeat (first | exact Drawn0.refl _ | apply Drawn0.step)⟩
noncomputable def context_within.j0 : Nat → List (S28) → Int → Bool → Option (ByteArray × Bool)
  | 0, _, _, _ => none
  | k + 1, x0, x4, x24 => if x24 = true then (some ((⟨#[]⟩ : ByteArray), false)) else (if 1 ≤ x4 then (if x4 ≤ (x0.length : Int) then ((context_only.f ((x0.take (x4 : Int).toNat).drop 1)).bind fun bt184 => ((strings_TrimPrefix.f bt184.1 (⟨#[10]⟩ : ByteArray)).bind fun t186 => (some (t186, bt184.2)))) else (none)) else (none))
noncomputable def context_within.f (k : Nat) (l0 : List (S28)) : Option (ByteArray × Bool) := if (wrap64 ((l0.length : Int) - 1)) < 1 then (context_within.j0 k l0 (wrap64 ((l0.length : Int) - 1)) true) else (if 0 < (l0.length : Int) then ((context_plain.f ((rd_T28 l0 0).f0) ((rd_T28 l0 0).f1) ((rd_T28 l0 0).f2) ((rd_T28 l0 0).f3) ((rd_T28 l0 0).f4) 1 (⟨#[116, 101, 120, 116, 97, 114, 101, 97]⟩ : ByteArray) 0).bind fun t177 => (if t177 = true then (if 0 ≤ (wrap64 ((l0.length : Int) - 1)) then (if (wrap64 ((l0.length : Int) - 1)) < (l0.length : Int) then ((context_plain.f ((rd_T28 l0 (wrap64 ((l0.length : Int) - 1))).f0) ((rd_T28 l0 (wrap64 ((l0.length : Int) - 1))).f1) ((rd_T28 l0 (wrap64 ((l0.length : Int) - 1))).f2) ((rd_T28 l0 (wrap64 ((l0.length : Int) - 1))).f3) ((rd_T28 l0 (wrap64 ((l0.length : Int) - 1))).f4) 2 (⟨#[116, 101, 120, 116, 97, 114, 101, 97]⟩ : ByteArray) 0).bind fun t179 => (context_within.j0 k l0 (wrap64 ((l0.length : Int) - 1)) (!t179))) else (none)) else (none)) else (context_within.j0 k l0 (wrap64 ((l0.length : Int) - 1)) true))) else (none))
set_option maxHeartbeats 8000000 in
set_option maxRecDepth 100000 in
theorem context_within.calls (k : Nat) (A0 : Option Addr) (c0 : Nat) (l0 : List (S28)) (r1 : ByteArray) (r2 : Bool) (w : World) (hr0 : Kd.C k28 w A0 l0.length l0) (hc0 : l0.length ≤ c0) (h : context_within.f k l0 = some (r1, r2)) :
    Calls Tryz.prog 39 #[.slice A0 l0.length c0] w fun e w' => e = .returned (.tuple #[.string r1, .bool r2]) ∧ Below w.heap.size w w' := by
  have hu28 := Tryz.underlying28
  have HR0 := Aside0.mk hr0
  have HC0 := Aside0.mk hc0
  clear hr0 hc0
  have HB := Aside0.mk (Below.refl w.heap.size w)
  have H : (if (wrap64 ((l0.length : Int) - 1)) < 1 then (context_within.j0 k l0 (wrap64 ((l0.length : Int) - 1)) true) else (if 0 < (l0.length : Int) then ((context_plain.f ((rd_T28 l0 0).f0) ((rd_T28 l0 0).f1) ((rd_T28 l0 0).f2) ((rd_T28 l0 0).f3) ((rd_T28 l0 0).f4) 1 (⟨#[116, 101, 120, 116, 97, 114, 101, 97]⟩ : ByteArray) 0).bind fun t177 => (if t177 = true then (if 0 ≤ (wrap64 ((l0.length : Int) - 1)) then (if (wrap64 ((l0.length : Int) - 1)) < (l0.length : Int) then ((context_plain.f ((rd_T28 l0 (wrap64 ((l0.length : Int) - 1))).f0) ((rd_T28 l0 (wrap64 ((l0.length : Int) - 1))).f1) ((rd_T28 l0 (wrap64 ((l0.length : Int) - 1))).f2) ((rd_T28 l0 (wrap64 ((l0.length : Int) - 1))).f3) ((rd_T28 l0 (wrap64 ((l0.length : Int) - 1))).f4) 2 (⟨#[116, 101, 120, 116, 97, 114, 101, 97]⟩ : ByteArray) 0).bind fun t179 => (context_within.j0 k l0 (wrap64 ((l0.length : Int) - 1)) (!t179))) else (none)) else (none)) else (context_within.j0 k l0 (wrap64 ((l0.length : Int) - 1)) true))) else (none))) = some (r1, r2) := h
  clear h
  have HC2 := Aside0.mk H
  clear H
  go_enter Tryz.func39, Tryz.ntmps39
  go_upto_region 2 with (fail)
  go_cut [24] (fun v24 wc => ∃ (kq : Nat) (x24_1 : Bool), v24 = .bool x24_1 ∧ Aside0 (context_within.j0 kq l0 (wrap64 ((l0.length : Int) - 1)) x24_1 = some (r1, r2)) ∧ Aside0 (kq ≤ k) ∧ Aside0 (Below w.heap.size w wc))
  case first =>
    have H := HC2.out
    clear HC2
    by_cases c3 : (wrap64 ((l0.length : Int) - 1)) < 1
    · rw [if_pos c3] at H
      have c3b0 : decide ((wrap64 ((l0.length : Int) - 1)) < 1) = true := decide_eq_true c3
      clear c3
      (first | rw [c3b0] | (simp only [i64_w, i32_w]; rw [c3b0]) | skip)
      have H' := Aside0.mk H
      clear H
      go_wp2
      go_meet
      case rel => exact ⟨_, (true), (by first | rfl | (simp; done) | (simp [*]; done)), H', ⟨by first | omega | exact Nat.le_refl _⟩, ⟨by repeat (first | (with_reducible first | exact HB.out | apply below_alloc | apply pw_below_drewN | apply below_drew1) | exact HB.out)⟩⟩
    · rw [if_neg c3] at H
      have c3b0 : decide ((wrap64 ((l0.length : Int) - 1)) < 1) = false := decide_eq_false c3
      clear c3
      (first | rw [c3b0] | (simp only [i64_w, i32_w]; rw [c3b0]) | skip)
      by_cases c4 : 0 < (l0.length : Int)
      · rw [if_pos c4] at H
        have c4b0 : decide (0 < (l0.length : Int)) = true := decide_eq_true c4
        have c4b1 : decide (0 < l0.length) = true := decide_eq_true (by omega)
        clear c4
        replace H := Option.bind_eq_some_iff.mp H
        obtain ⟨t177, A50, H⟩ := H
        replace H : (if t177 = true then (if 0 ≤ (wrap64 ((l0.length : Int) - 1)) then (if (wrap64 ((l0.length : Int) - 1)) < (l0.length : Int) then ((context_plain.f ((rd_T28 l0 (wrap64 ((l0.length : Int) - 1))).f0) ((rd_T28 l0 (wrap64 ((l0.length : Int) - 1))).f1) ((rd_T28 l0 (wrap64 ((l0.length : Int) - 1))).f2) ((rd_T28 l0 (wrap64 ((l0.length : Int) - 1))).f3) ((rd_T28 l0 (wrap64 ((l0.length : Int) - 1))).f4) 2 (⟨#[116, 101, 120, 116, 97, 114, 101, 97]⟩ : ByteArray) 0).bind fun t179 => (context_within.j0 k l0 (wrap64 ((l0.length : Int) - 1)) (!t179))) else (none)) else (none)) else (context_within.j0 k l0 (wrap64 ((l0.length : Int) - 1)) true)) = some (r1, r2) := H
        have A5 := Aside0.mk A50
        clear A50
        by_cases c6 : t177 = true
        · subst c6
          have H1 : (if 0 ≤ (wrap64 ((l0.length : Int) - 1)) then (if (wrap64 ((l0.length : Int) - 1)) < (l0.length : Int) then ((context_plain.f ((rd_T28 l0 (wrap64 ((l0.length : Int) - 1))).f0) ((rd_T28 l0 (wrap64 ((l0.length : Int) - 1))).f1) ((rd_T28 l0 (wrap64 ((l0.length : Int) - 1))).f2) ((rd_T28 l0 (wrap64 ((l0.length : Int) - 1))).f3) ((rd_T28 l0 (wrap64 ((l0.length : Int) - 1))).f4) 2 (⟨#[116, 101, 120, 116, 97, 114, 101, 97]⟩ : ByteArray) 0).bind fun t179 => (context_within.j0 k l0 (wrap64 ((l0.length : Int) - 1)) (!t179))) else (none)) else (none)) = some (r1, r2) := by rw [if_pos rfl] at H; exact H
          clear H
          have H := H1
          clear H1
          obtain ⟨ji7, hji7⟩ : ∃ j_ : Int, (wrap64 ((l0.length : Int) - 1)) = j_ := ⟨_, rfl⟩
          replace H : (if 0 ≤ (ji7) then (if (ji7) < (l0.length : Int) then ((context_plain.f ((rd_T28 l0 (ji7)).f0) ((rd_T28 l0 (ji7)).f1) ((rd_T28 l0 (ji7)).f2) ((rd_T28 l0 (ji7)).f3) ((rd_T28 l0 (ji7)).f4) 2 (⟨#[116, 101, 120, 116, 97, 114, 101, 97]⟩ : ByteArray) 0).bind fun t179 => (context_within.j0 k l0 ji7 (!t179))) else (none)) else (none)) = some (r1, r2) := by first | (rw [hji7] at H; exact H) | (simp only [hji7] at H ⊢; exact H)
          (try rw [hji7] at c3b0)
          (try rw [hji7] at A5)
          have hji7w : (IntKind.i64.wrap ((l0.length : Int) - 1)) = ji7 := (i64_w _).trans hji7
          by_cases c8 : 0 ≤ (ji7)
          · rw [if_pos c8] at H
            have c8b0 : decide (0 ≤ (ji7)) = true := decide_eq_true c8
            clear c8
            by_cases c9 : (ji7) < (l0.length : Int)
            · rw [if_pos c9] at H
              have c9b0 : decide ((ji7) < (l0.length : Int)) = true := decide_eq_true c9
              clear c9
              replace H := Option.bind_eq_some_iff.mp H
              obtain ⟨t179, A100, H⟩ := H
              replace H : (context_within.j0 k l0 ji7 (!t179)) = some (r1, r2) := H
              have A10 := Aside0.mk A100
              clear A100
              have H' := Aside0.mk H
              clear H
              have p176 : 0 ≤ (0 : Int) := (by omega)
              have q176 : 0 < (l0.length : Int) := of_decide_eq_true (by first | (with_reducible assumption) | assumption)
              obtain ⟨ad176, A176_3, c176_3, e176, hx176_0, hx176_1, hx176_2, hx176_3, hx176_4, hl176_3, hi176_3⟩ := at_T28 HR0.out 0 p176 q176
              cases e176
              have qi176 : (0 < l0.length) = True := eq_true (by omega)
              (try rw [show ((0 : Int)).toNat = 0 from rfl] at hx176_0)
              (try rw [show 0 * 5 = 0 from rfl] at hx176_0)
              (try rw [Addr.add_zero'] at hx176_0)
              (try rw [show ((0 : Int)).toNat = 0 from rfl] at hx176_1)
              (try rw [show 0 * 5 = 0 from rfl] at hx176_1)
              (try rw [Addr.add_zero'] at hx176_1)
              (try rw [show ((0 : Int)).toNat = 0 from rfl] at hx176_2)
              (try rw [show 0 * 5 = 0 from rfl] at hx176_2)
              (try rw [Addr.add_zero'] at hx176_2)
              (try rw [show ((0 : Int)).toNat = 0 from rfl] at hx176_3)
              (try rw [show 0 * 5 = 0 from rfl] at hx176_3)
              (try rw [Addr.add_zero'] at hx176_3)
              (try rw [show ((0 : Int)).toNat = 0 from rfl] at hx176_4)
              (try rw [show 0 * 5 = 0 from rfl] at hx176_4)
              (try rw [Addr.add_zero'] at hx176_4)
              replace hx176_0 := (HB.out.cell (World.block_lt_of_cell? w _ hx176_0)).trans hx176_0
              replace hx176_1 := (HB.out.cell (World.block_lt_of_cell? w _ hx176_1)).trans hx176_1
              replace hx176_2 := (HB.out.cell (World.block_lt_of_cell? w _ hx176_2)).trans hx176_2
              replace hx176_3 := (HB.out.cell (World.block_lt_of_cell? w _ hx176_3)).trans hx176_3
              replace hx176_4 := (HB.out.cell (World.block_lt_of_cell? w _ hx176_4)).trans hx176_4
              have HR176_3 := Aside0.mk hi176_3
              have HC176_3 := Aside0.mk hl176_3
              clear hi176_3 hl176_3
              replace p176 := eq_true p176
              replace q176 := eq_true q176
              go_wp2_with (first | (go_at_call 70; (with_reducible refine (context_plain.calls ((rd_T28 l0 0).f0) ((rd_T28 l0 0).f1) ((rd_T28 l0 0).f2) _ _ ((rd_T28 l0 0).f3) ((rd_T28 l0 0).f4) 1 (⟨#[116, 101, 120, 116, 97, 114, 101, 97]⟩ : ByteArray) 0 true _ ?side1 ?side2 A5.out).mono ?_); (case side1 => repeat (first | exact (Kd.C_below HR176_3.out HB.out) | (with_reducible refine Kd.C_alloc ?_ _) | (with_reducible refine Kd.C_drewN ?_ _) | (with_reducible refine Kd.C_drew ?_))); (case side2 => exact HC176_3.out); rintro e w11 ⟨rfl, hb⟩; have n0_ := Aside0.mk (below_step (by repeat (first | (with_reducible first | exact HB.out | apply below_alloc | apply pw_below_drewN | apply below_drew1) | exact HB.out)) hb); clear HB; have HB := n0_; clear n0_; (try clear hb); (try clear hb2); (try clear hk); (try clear hi); have p178 : 0 ≤ ((ji7) : Int) := of_decide_eq_true (by first | (with_reducible assumption) | assumption); have q178 : (ji7) < (l0.length : Int) := of_decide_eq_true (by first | (with_reducible assumption) | assumption); obtain ⟨ad178, A178_3, c178_3, e178, hx178_0, hx178_1, hx178_2, hx178_3, hx178_4, hl178_3, hi178_3⟩ := at_T28 HR0.out (ji7) p178 q178; obtain rfl : ad176 = ad178 := (by injection e178); replace hx178_0 := (HB.out.cell (World.block_lt_of_cell? w _ hx178_0)).trans hx178_0; replace hx178_1 := (HB.out.cell (World.block_lt_of_cell? w _ hx178_1)).trans hx178_1; replace hx178_2 := (HB.out.cell (World.block_lt_of_cell? w _ hx178_2)).trans hx178_2; replace hx178_3 := (HB.out.cell (World.block_lt_of_cell? w _ hx178_3)).trans hx178_3; replace hx178_4 := (HB.out.cell (World.block_lt_of_cell? w _ hx178_4)).trans hx178_4; have HR178_3 := Aside0.mk hi178_3; have HC178_3 := Aside0.mk hl178_3; clear hi178_3 hl178_3; replace p178 := eq_true p178; replace q178 := eq_true q178) | (go_at_call 70; (with_reducible refine (context_plain.calls ((rd_T28 l0 (ji7)).f0) ((rd_T28 l0 (ji7)).f1) ((rd_T28 l0 (ji7)).f2) _ _ ((rd_T28 l0 (ji7)).f3) ((rd_T28 l0 (ji7)).f4) 2 (⟨#[116, 101, 120, 116, 97, 114, 101, 97]⟩ : ByteArray) 0 t179 _ ?side1 ?side2 A10.out).mono ?_); (case side1 => repeat (first | exact (Kd.C_below HR178_3.out HB.out) | (with_reducible refine Kd.C_alloc ?_ _) | (with_reducible refine Kd.C_drewN ?_ _) | (with_reducible refine Kd.C_drew ?_))); (case side2 => exact HC178_3.out); rintro e w12 ⟨rfl, hb⟩; have n0_ := Aside0.mk (below_step (by repeat (first | (with_reducible first | exact HB.out | apply below_alloc | apply pw_below_drewN | apply below_drew1) | exact HB.out)) hb); clear HB; have HB := n0_; clear n0_; (try clear hb); (try clear hb2); (try clear hk); (try clear hi)))
              subst hji7
              go_meet
              case rel => exact ⟨_, (!t179), (by first | rfl | (simp; done) | (simp [*]; done)), H', ⟨by first | omega | exact Nat.le_refl _⟩, ⟨by repeat (first | (with_reducible first | exact HB.out | apply below_alloc | apply pw_below_drewN | apply below_drew1) | exact HB.out)⟩⟩
            · rw [if_neg c9] at H
              exact absurd H (by simp)
          · rw [if_neg c8] at H
            exact absurd H (by simp)
        · replace c6 := Bool.eq_false_iff.mpr c6
          subst c6
          have H1 : (context_within.j0 k l0 (wrap64 ((l0.length : Int) - 1)) true) = some (r1, r2) := by rw [if_neg (show ¬ (false = true) by decide)] at H; exact H
          clear H
          have H := H1
          clear H1
          have H' := Aside0.mk H
          clear H
          have p176 : 0 ≤ (0 : Int) := (by omega)
          have q176 : 0 < (l0.length : Int) := of_decide_eq_true (by first | (with_reducible assumption) | assumption)
          obtain ⟨ad176, A176_3, c176_3, e176, hx176_0, hx176_1, hx176_2, hx176_3, hx176_4, hl176_3, hi176_3⟩ := at_T28 HR0.out 0 p176 q176
          cases e176
          have qi176 : (0 < l0.length) = True := eq_true (by omega)
          (try rw [show ((0 : Int)).toNat = 0 from rfl] at hx176_0)
          (try rw [show 0 * 5 = 0 from rfl] at hx176_0)
          (try rw [Addr.add_zero'] at hx176_0)
          (try rw [show ((0 : Int)).toNat = 0 from rfl] at hx176_1)
          (try rw [show 0 * 5 = 0 from rfl] at hx176_1)
          (try rw [Addr.add_zero'] at hx176_1)
          (try rw [show ((0 : Int)).toNat = 0 from rfl] at hx176_2)
          (try rw [show 0 * 5 = 0 from rfl] at hx176_2)
          (try rw [Addr.add_zero'] at hx176_2)
          (try rw [show ((0 : Int)).toNat = 0 from rfl] at hx176_3)
          (try rw [show 0 * 5 = 0 from rfl] at hx176_3)
          (try rw [Addr.add_zero'] at hx176_3)
          (try rw [show ((0 : Int)).toNat = 0 from rfl] at hx176_4)
          (try rw [show 0 * 5 = 0 from rfl] at hx176_4)
          (try rw [Addr.add_zero'] at hx176_4)
          replace hx176_0 := (HB.out.cell (World.block_lt_of_cell? w _ hx176_0)).trans hx176_0
          replace hx176_1 := (HB.out.cell (World.block_lt_of_cell? w _ hx176_1)).trans hx176_1
          replace hx176_2 := (HB.out.cell (World.block_lt_of_cell? w _ hx176_2)).trans hx176_2
          replace hx176_3 := (HB.out.cell (World.block_lt_of_cell? w _ hx176_3)).trans hx176_3
          replace hx176_4 := (HB.out.cell (World.block_lt_of_cell? w _ hx176_4)).trans hx176_4
          have HR176_3 := Aside0.mk hi176_3
          have HC176_3 := Aside0.mk hl176_3
          clear hi176_3 hl176_3
          replace p176 := eq_true p176
          replace q176 := eq_true q176
          go_wp2_with (first | (go_at_call 70; (with_reducible refine (context_plain.calls ((rd_T28 l0 0).f0) ((rd_T28 l0 0).f1) ((rd_T28 l0 0).f2) _ _ ((rd_T28 l0 0).f3) ((rd_T28 l0 0).f4) 1 (⟨#[116, 101, 120, 116, 97, 114, 101, 97]⟩ : ByteArray) 0 false _ ?side1 ?side2 A5.out).mono ?_); (case side1 => repeat (first | exact (Kd.C_below HR176_3.out HB.out) | (with_reducible refine Kd.C_alloc ?_ _) | (with_reducible refine Kd.C_drewN ?_ _) | (with_reducible refine Kd.C_drew ?_))); (case side2 => exact HC176_3.out); rintro e w13 ⟨rfl, hb⟩; have n0_ := Aside0.mk (below_step (by repeat (first | (with_reducible first | exact HB.out | apply below_alloc | apply pw_below_drewN | apply below_drew1) | exact HB.out)) hb); clear HB; have HB := n0_; clear n0_; (try clear hb); (try clear hb2); (try clear hk); (try clear hi)))
          go_meet
          case rel => exact ⟨_, (true), (by first | rfl | (simp; done) | (simp [*]; done)), H', ⟨by first | omega | exact Nat.le_refl _⟩, ⟨by repeat (first | (with_reducible first | exact HB.out | apply below_alloc | apply pw_below_drewN | apply below_drew1) | exact HB.out)⟩⟩
      · rw [if_neg c4] at H
        exact absurd H (by simp)
  case rest =>
    clear HC2
    try clear c1
    try clear p1
    try clear q1
    try clear hx1
    try clear qi1
    try clear p2
    try clear c3
    try clear c3b0
    try clear c4
    try clear c4b0
    try clear c4b1
    try clear c6
    try clear p6
    try clear c8
    try clear c8b0
    try clear c9
    try clear c9b0
    try clear hx176_0
    try clear hx176_1
    try clear hx176_2
    try clear hx176_3
    try clear hx176_4
    try clear hx178_0
    try clear hx178_1
    try clear hx178_2
    try clear hx178_3
    try clear hx178_4
    try clear p176
    try clear p178
    try clear q176
    try clear q178
    obtain ⟨kq, x24_1, rfl, HA, HJ1, HB⟩ := hcut
    cases kq with
    | zero => exact absurd HA.out (by simp [context_within.j0])
    | succ kj1 =>
      have H := HA.out
      clear HA
      simp only [context_within.j0] at H
      by_cases c14 : x24_1 = true
      · subst c14
        have H1 : (some ((⟨#[]⟩ : ByteArray), false)) = some (r1, r2) := by rw [if_pos rfl] at H; exact H
        clear H
        have H := H1
        clear H1
        simp only [Option.some.injEq, Prod.mk.injEq] at H
        obtain ⟨rfl, rfl⟩ := H
        go_wp2
        go_ret2
        exact ⟨by first | rfl | (simp [errW_none, errW_some] <;> rfl) | (simp [*, errW_none, errW_some] <;> rfl), by repeat (first | (with_reducible first | exact HB.out | apply below_alloc | apply pw_below_drewN | apply below_drew1) | exact HB.out)⟩
      · replace c14 := Bool.eq_false_iff.mpr c14
        subst c14
        have H1 : (if 1 ≤ (wrap64 ((l0.length : Int) - 1)) then (if (wrap64 ((l0.length : Int) - 1)) ≤ (l0.length : Int) then ((context_only.f ((l0.take ((wrap64 ((l0.length : Int) - 1)) : Int).toNat).drop 1)).bind fun bt184 => ((strings_TrimPrefix.f bt184.1 (⟨#[10]⟩ : ByteArray)).bind fun t186 => (some (t186, bt184.2)))) else (none)) else (none)) = some (r1, r2) := by rw [if_neg (show ¬ (false = true) by decide)] at H; exact H
        clear H
        have H := H1
        clear H1
        by_cases c15 : 1 ≤ (wrap64 ((l0.length : Int) - 1))
        · rw [if_pos c15] at H
          have c15b0 := eq_true c15
          have c15b1 : decide (1 ≤ (wrap64 ((l0.length : Int) - 1))) = true := decide_eq_true c15
          clear c15
          by_cases c16 : (wrap64 ((l0.length : Int) - 1)) ≤ (l0.length : Int)
          · rw [if_pos c16] at H
            have c16b0 := eq_true c16
            have c16b1 : decide ((wrap64 ((l0.length : Int) - 1)) ≤ (l0.length : Int)) = true := decide_eq_true c16
            clear c16
            obtain ⟨y180, hy180⟩ : ∃ y_ : List (S28), y_ = ((l0.take ((wrap64 ((l0.length : Int) - 1)) : Int).toNat).drop 1) := ⟨_, rfl⟩
            replace H : ((context_only.f y180).bind fun bt184 => ((strings_TrimPrefix.f bt184.1 (⟨#[10]⟩ : ByteArray)).bind fun t186 => (some (t186, bt184.2)))) = some (r1, r2) := by first | (rw [hy180]; with_reducible exact H) | (have H2_ := (Option.bind_some _ _).symm.trans H; rw [hy180]; with_reducible exact H2_) | (have H2_ := (Option.bind_some _ _).symm.trans H; with_reducible exact H2_) | with_reducible exact H | (rw [hy180]; exact H) | exact H
            have Ny180 := Aside0.mk hy180
            clear hy180
            replace H := Option.bind_eq_some_iff.mp H
            obtain ⟨⟨t184, t185⟩, A170, H⟩ := H
            replace H : ((strings_TrimPrefix.f t184 (⟨#[10]⟩ : ByteArray)).bind fun t186 => (some (t186, t185))) = some (r1, r2) := H
            have A17 := Aside0.mk A170
            clear A170
            replace H := Option.bind_eq_some_iff.mp H
            obtain ⟨t186, A180, H⟩ := H
            replace H : (some (t186, t185)) = some (r1, r2) := H
            have A18 := Aside0.mk A180
            clear A180
            simp only [Option.some.injEq, Prod.mk.injEq] at H
            obtain ⟨rfl, rfl⟩ := H
            have q19 : ((wrap64 ((l0.length : Int) - 1)) : Int) ≤ ((l0.length : Int) : Int) := of_decide_eq_true (by first | (with_reducible assumption) | assumption)
            obtain ⟨i019, hi019, _, hsz19, _⟩ := info_parts info28
            have hroom19 : l0.length ≤ c0 := HC0.out
            have hC19 : Kd.C k28 _ A0 l0.length l0 := HR0.out
            have ql19 : (1 : Int) ≤ ((wrap64 ((l0.length : Int) - 1)) : Int) := of_decide_eq_true (by first | (with_reducible assumption) | assumption)
            have hcut19 := cut_mid (P := Tryz.prog) 24 28 .i64 .i64 Tryz.underlying24 hi019 5 hsz19 A0 l0.length c0 1 (wrap64 ((l0.length : Int) - 1)) (by omega) ql19 q19 hroom19
            have hr19 := Kd.C_mid (lo := (1 : Int).toNat) (hi := ((wrap64 ((l0.length : Int) - 1)) : Int).toNat) (c := c0) hC19 (by omega) (by omega) hroom19
            obtain ⟨A19, hA19⟩ : ∃ A1, A1 = (if c0 = (1 : Int).toNat then A0 else (A0 : Option Addr).map (·.add ((1 : Int).toNat * 5))) := ⟨_, rfl⟩
            obtain ⟨c19, hc19⟩ : ∃ c1, c1 = c0 - (1 : Int).toNat := ⟨_, rfl⟩
            have hy19 : y180.length = ((wrap64 ((l0.length : Int) - 1)) : Int).toNat - (1 : Int).toNat := (by rw [Ny180.out, List.length_drop, List.length_take] <;> omega)
            rw [show ((l0).take ((wrap64 ((l0.length : Int) - 1)) : Int).toNat).drop (1 : Int).toNat = y180 from Ny180.out.symm] at hr19
            replace hr19 : Kd.C k28 _ A19 y180.length y180 := (by rw [hA19]; exact hr19)
            rw [← hy19, ← hA19, ← hc19] at hcut19
            have HR183 := Aside0.mk hr19
            have HC183 := Aside0.mk (show y180.length ≤ c19 from by rw [hy19, hc19]; exact Nat.sub_le_sub_right (Nat.le_trans (by omega) hroom19) _)
            clear hr19 hC19 hroom19 hi019 hsz19 hc19
            have KY19 := Aside0.mk hy19
            have KA19 := Aside0.mk hA19
            clear hy19 hA19
            replace q19 := eq_true q19
            go_wp2_with (first | ((with_reducible refine gate_callee (f := 37) rfl ?_); refine goesL_ (some 29) rfl rfl Tryz.func37 (by kernel_rfl) rfl #[.slice A19 y180.length c19] rfl (by (try simp only [List.map_toArray, List.map_cons, List.map_nil]); first | done | rfl | (simp only [List.length_drop, List.length_take]; rfl)) ?_; (with_reducible refine (context_only.calls _ _ y180 t184 t185 _ ?side1 ?side2 A17.out).mono ?_); (case side1 => repeat (first | exact (Kd.C_below HR183.out HB.out) | (with_reducible refine Kd.C_alloc ?_ _) | (with_reducible refine Kd.C_drewN ?_ _) | (with_reducible refine Kd.C_drew ?_))); (case side2 => exact HC183.out); rintro e w' ⟨rfl, ⟨nd, rfl⟩⟩; refine ⟨_, rfl, ?_⟩) | ((with_reducible refine gate_callee (f := 48) rfl ?_); refine goesL_ (some 33) rfl rfl Tryz.func48 (by kernel_rfl) rfl #[.string t184, .string (⟨#[10]⟩ : ByteArray)] rfl (by (try simp only [List.map_toArray, List.map_cons, List.map_nil]); first | done | rfl | (simp only [List.length_drop, List.length_take]; rfl)) ?_; (with_reducible refine (strings_TrimPrefix.calls t184 (⟨#[10]⟩ : ByteArray) t186 _ A18.out).mono ?_); rintro e w' ⟨rfl, ⟨nd, rfl⟩⟩; refine ⟨_, rfl, ?_⟩))
            go_ret2
            exact ⟨by first | rfl | (simp [errW_none, errW_some] <;> rfl) | (simp [*, errW_none, errW_some] <;> rfl), by repeat (first | (with_reducible first | exact HB.out | apply below_alloc | apply pw_below_drewN | apply below_drew1) | exact HB.out)⟩
          · rw [if_neg c16] at H
            exact absurd H (by simp)
        · rw [if_neg c15] at H
          exact absurd H (by simp)
end Go.Proofs.YtbdcghbafopjjaaGreatDoor.St
end

section
namespace Go.Proofs.YtbdcghbafopjjaaGreatDoor.Hand
open Go Go.RowKit Go.Proofs.YtbdcghbafopjjaaGreatDoor.Pl Go.Proofs.YtbdcghbafopjjaaGreatDoor.Pb
theorem upto_stop {c : UInt8} {s r : List UInt8} (h : c ∉ s) : upto c (s ++ c :: r) = s := by
  induction s with
  | nil => rw [List.nil_append, upto_cons, if_pos rfl]
  | cons d t ih =>
    rw [List.mem_cons, not_or] at h
    rw [List.cons_append, upto_cons, if_neg (fun e => h.1 e.symm), ih h.2]
theorem quoted_L {q : UInt8} (hq : q = 34 ∨ q = 39) {s r : List UInt8} (hs : q ∉ s) : attrL [] (120 :: 61 :: q :: (s ++ q :: r)) = attrL [([120], cleanL (rdL true s))] r := by
  have hq2 : isSp q = false := by rcases hq with rfl | rfl <;> rfl
  have e1 : spL (120 :: 61 :: q :: (s ++ q :: r)) = 120 :: 61 :: q :: (s ++ q :: r) := rfl
  have e2 : (61 :: q :: (s ++ q :: r)).dropWhile nmC = 61 :: q :: (s ++ q :: r) := rfl
  have e2' : (61 :: q :: (s ++ q :: r)).takeWhile nmC = [] := rfl
  have e3 : spL (q :: (s ++ q :: r)) = q :: (s ++ q :: r) := by unfold spL; rw [List.dropWhile_cons, hq2]; rfl
  have e4 : valA (61 :: q :: (s ++ q :: r)) = some (s, r) := by
    unfold valA
    rw [show spL (61 :: q :: (s ++ q :: r)) = 61 :: q :: (s ++ q :: r) from rfl]
    simp only [e3]
    rw [if_pos hq, if_pos (by simp), upto_stop hs]
    unfold past
    rw [upto_stop hs]
    congr 2
    rw [show s ++ q :: r = (s ++ [q]) ++ r by simp, show s.length + 1 = (s ++ [q]).length by simp]
    exact List.drop_left
  rw [attrL_eq, e1]
  simp only [e2, e2', e4]
  rw [if_neg (by decide), if_neg (by decide)]
  congr 1
end Go.Proofs.YtbdcghbafopjjaaGreatDoor.Hand
end

section
namespace Go.Proofs.YtbdcghbafopjjaaGreatDoor.Hand
open Go Go.RowKit Go.Proofs.YtbdcghbafopjjaaGreatDoor.Pl Go.Proofs.YtbdcghbafopjjaaGreatDoor.Pb Go.Proofs.YtbdcghbafopjjaaGreatDoor.Pure
def qB (single : Bool) : UInt8 := if single = true then 39 else 34
def areaO : List UInt8 := [60, 116, 101, 120, 116, 97, 114, 101, 97, 62]
def areaC : List UInt8 := [60, 47, 116, 101, 120, 116, 97, 114, 101, 97, 62]
def attrO (single : Bool) : List UInt8 := [60, 97, 32, 120, 61, qB single]
def wrapL (dest : Int) (single : Bool) (s : List UInt8) : List UInt8 :=
  if dest = 0 then s else if dest = 1 then attrO single ++ (s ++ [qB single, 62]) else if dest = 2 then areaO ++ (s ++ areaC) else []
def onlyL : List Tk → List UInt8 × Bool
  | [] => ([], true)
  | [.text s] => (s, true)
  | _ => ([], false)
def valueL : List Tk → List UInt8 × Bool
  | [.start n [a] false] => if n = [97] ∧ a.1 = [120] then (a.2, true) else ([], false)
  | _ => ([], false)
def trimN : List UInt8 → List UInt8
  | [] => []
  | c :: r => if c = 10 then r else c :: r
def isAreaO : Option Tk → Bool
  | some (.start n [] false) => n == areaW
  | _ => false
def isAreaC : Option Tk → Bool
  | some (.fin n) => n == areaW
  | _ => false
def withinL (l : List Tk) : List UInt8 × Bool :=
  if 2 ≤ l.length ∧ isAreaO l.head? = true ∧ isAreaC l.getLast? = true then (trimN (onlyL l.tail.dropLast).1, (onlyL l.tail.dropLast).2) else ([], false)
noncomputable def parseL (dest : Int) (single : Bool) (s : List UInt8) : List UInt8 × Bool :=
  if dest = 0 then onlyL (driveL (normL (wrapL dest single s)))
  else if dest = 1 then valueL (driveL (normL (wrapL dest single s)))
  else if dest = 2 then withinL (driveL (normL (wrapL dest single s))) else ([], false)
theorem normL_pre {p : List UInt8} (r : List UInt8) (h : (13 : UInt8) ∉ p) : normL (p ++ r) = p ++ normL r := by
  induction p with
  | nil => rfl
  | cons c p ih =>
    rw [List.mem_cons, not_or] at h
    rw [List.cons_append, normL_ne (fun e => h.1 e.symm), ih h.2, List.cons_append]
theorem normL_suf {q : List UInt8} (h10 : q.head? ≠ some 10) (h13 : (13 : UInt8) ∉ q) : ∀ n (s : List UInt8), s.length ≤ n → normL (s ++ q) = normL s ++ q := by
  intro n
  induction n with
  | zero => intro s h; obtain rfl := List.eq_nil_of_length_eq_zero (Nat.le_zero.1 h); exact normL_of_no13 h13
  | succ n ih =>
    intro s h
    cases s with
    | nil => exact normL_of_no13 h13
    | cons c r =>
      simp only [List.length_cons] at h
      by_cases hc : c = 13
      · subst hc
        cases r with
        | nil =>
          rw [normL_13_end]
          cases q with
          | nil => rfl
          | cons d q' =>
            have hd : d ≠ 10 := by rintro rfl; exact h10 rfl
            show normL (13 :: d :: q') = _
            rw [normL_13_ne hd, normL_of_no13 h13]; rfl
        | cons d r' =>
          simp only [List.length_cons] at h
          by_cases hd : d = 10
          · subst hd
            show normL (13 :: 10 :: (r' ++ q)) = _
            rw [normL_13_10, normL_13_10, ih r' (by omega)]; rfl
          · show normL (13 :: d :: (r' ++ q)) = _
            rw [normL_13_ne hd, normL_13_ne hd]
            have := ih (d :: r') (by simp; omega)
            rw [List.cons_append] at this
            rw [this]; rfl
      · rw [List.cons_append, normL_ne hc, normL_ne hc, ih r (by omega)]; rfl
theorem norm_wrap (dest : Int) (single : Bool) (s : List UInt8) : normL (wrapL dest single s) = wrapL dest single (normL s) := by
  unfold wrapL
  split
  · rfl
  · split
    · rw [normL_pre _ (by cases single <;> decide), normL_suf (by cases single <;> decide) (by cases single <;> decide) _ _ (Nat.le_refl _)]
    · split
      · rw [normL_pre _ (by decide), normL_suf (by decide) (by decide) _ _ (Nat.le_refl _)]
      · rfl
theorem txN_app {s : List UInt8} (r : List UInt8) (h : (60 : UInt8) ∉ s) : txN (s ++ r) = s.length + txN r := by
  have := txN_skip s.length (s ++ r) (by simp) (fun j hj => by
    rw [List.getElem?_append_left hj]; intro e; exact h (List.mem_of_getElem? e))
  rwa [List.drop_left] at this
theorem tokL_txt {s r : List UInt8} (hs : s ≠ []) (h : (60 : UInt8) ∉ s) : tokL (s ++ r) = (some (.text (rdL false (s ++ r.take (txN r)))), r.drop (txN r)) := by
  obtain ⟨c, t, rfl⟩ : ∃ c t, s = c :: t := by cases s with | nil => exact absurd rfl hs | cons c t => exact ⟨c, t, rfl⟩
  have hc : c ≠ 60 := fun e => h (by simp [e])
  have hb : begM (c :: t ++ r) = false := begM_no _ hc
  have hn : txN (c :: t ++ r) = (c :: t).length + txN r := txN_app r h
  unfold begM at hb
  simp only [Bool.or_eq_false_iff] at hb
  obtain ⟨⟨⟨h1, h2⟩, h3⟩, h4⟩ := hb
  unfold tokL
  rw [if_neg (by simpa using h1), if_neg (by rw [h2]; decide), if_neg (by rw [h3]; decide), if_neg (by rw [h4]; decide), if_neg (by rw [hn]; simp), hn]
  rw [List.take_length_add_append, List.drop_length_add_append]
theorem tokL_text {s r : List UInt8} (hs : s ≠ []) (h : (60 : UInt8) ∉ s) (hr : txN r = 0) : tokL (s ++ r) = (some (.text (rdL false s)), r) := by
  rw [tokL_txt hs h, hr]; simp
theorem drvL_text {s r : List UInt8} (hs : s ≠ []) (h : (60 : UInt8) ∉ s) (hr : txN r = 0) : drvL (s ++ r) = .text (rdL false s) :: drvL r := by
  rw [drvL_eq (by simp [hs]), tokL_text hs h hr]; rfl
end Go.Proofs.YtbdcghbafopjjaaGreatDoor.Hand
end

section
namespace Go.Proofs.YtbdcghbafopjjaaGreatDoor.Pure
open Go Go.RowKit Go.Proofs.YtbdcghbafopjjaaGreatDoor.K0 Go.Proofs.YtbdcghbafopjjaaGreatDoor.Hand Go.Proofs.YtbdcghbafopjjaaGreatDoor.Sa Go.Proofs.YtbdcghbafopjjaaGreatDoor.Si Go.Proofs.YtbdcghbafopjjaaGreatDoor.St Go.Proofs.YtbdcghbafopjjaaGreatDoorW.PrintWords Go.Proofs.YtbdcghbafopjjaaGreatDoorW.PrintMore Go.Proofs.YtbdcghbafopjjaaGreatDoor.Pl Go.Proofs.YtbdcghbafopjjaaGreatDoor.Pb
theorem only_f (l : List Tk) : context_only.f (l.map ofK) = some (B (onlyL l).1, (onlyL l).2) := by
  match l with
  | [] => rfl
  | [t] =>
    unfold context_only.f
    rw [if_neg (by simp), if_pos (by simp), if_pos (by simp), show rd_T28 ([t].map ofK) 0 = ofK t from rd_map (l := [t]) (i := 0) (by simp)]
    cases t <;> rfl
  | t :: u :: r =>
    unfold context_only.f
    rw [if_neg (by simp; omega), if_neg (by simp; omega)]
    cases t <;> rfl
theorem B_eq_iff (x y : List UInt8) : (B x).toList = (B y).toList ↔ x = y := by rw [toList_data, toList_data, B_data, B_data]
theorem plain_start (k : Int) (n x : List UInt8) (al : List AttrT) (self : Bool) (k2 : Int) (n2 : List UInt8) (m : Int) :
    context_plain.f k (B n) (B x) (al.map ofT) self k2 (B n2) m = some (decide (k = k2) && decide (n = n2) && decide ((al.length : Int) = m) && !self) := by
  unfold context_plain.f
  by_cases h1 : k = k2
  · rw [if_pos h1, decide_eq_true h1]
    by_cases h2 : n = n2
    · rw [if_pos ((B_eq_iff n n2).2 h2), decide_eq_true h2, List.length_map]
      by_cases h3 : (al.length : Int) = m
      · rw [if_pos h3, decide_eq_true h3]; rfl
      · rw [if_neg h3, decide_eq_false h3]; rfl
    · rw [if_neg (fun e => h2 ((B_eq_iff n n2).1 e)), decide_eq_false h2]; rfl
  · rw [if_neg h1, decide_eq_false h1]; rfl
theorem plain_tk (t : Tk) (k2 : Int) (n2 : List UInt8) (m : Int) : context_plain.f (ofK t).f0 (ofK t).f1 (ofK t).f2 (ofK t).f3 (ofK t).f4 k2 (B n2) m =
    some (decide ((tkC t).1 = k2) && decide ((tkC t).2.1 = n2) && decide (((tkC t).2.2.2.1.length : Int) = m) && !(tkC t).2.2.2.2) := plain_start _ _ _ _ _ _ _ _
theorem value_f (l : List Tk) : context_value.f (l.map ofK) = some (B (valueL l).1, (valueL l).2) := by
  have bad : ∀ l : List Tk, valueL l = ([], false) → some ((⟨#[]⟩ : ByteArray), false) = some (B (valueL l).1, (valueL l).2) := fun l h => by rw [h]; rfl
  by_cases h1 : l.length = 1
  · obtain ⟨t, rfl⟩ := List.length_eq_one_iff.1 h1
    unfold context_value.f
    rw [if_pos (by simp), if_pos (by simp), show rd_T28 ([t].map ofK) 0 = ofK t from rd_map (l := [t]) (i := 0) (by simp)]
    rw [show (⟨#[97]⟩ : ByteArray) = B [97] from rfl, plain_tk, Option.bind_some]
    cases t with
    | start n al self =>
      match al with
      | [] => rw [if_neg (by simp [tkC])]; exact bad _ rfl
      | a :: b :: r => rw [if_neg (by show ¬ ((decide ((1 : Int) = 1) && decide (n = [97]) && decide ((((a :: b :: r).length : Nat) : Int) = 1) && !self) = true); rw [decide_eq_false (show ¬ ((((a :: b :: r).length : Nat) : Int) = 1) by simp only [List.length_cons]; omega)]; simp)]; exact bad _ rfl
      | [a] =>
        obtain ⟨an, av⟩ := a
        cases self with
        | true => rw [if_neg (by simp [tkC])]; exact bad _ rfl
        | false =>
          by_cases hn : n = [97]
          · subst hn
            rw [if_pos (by simp [tkC]), if_pos (by simp [ofK, tkC])]
            have hT : (rd_T65 (ofK (Tk.start [97] [(an, av)] false)).f3 0).f0.toList = an := by show (B an).toList = an; rw [toList_data, B_data]
            rw [hT]
            by_cases ha : an = [120]
            · subst ha
              rw [if_pos rfl]; rfl
            · rw [if_neg ha]
              refine bad _ ?_
              simp only [valueL, if_neg (fun e : _ ∧ an = [120] => ha e.2)]
          · rw [if_neg (by simp [tkC, hn])]
            refine bad _ ?_
            simp only [valueL, if_neg (fun e : n = [97] ∧ _ => hn e.1)]
    | text s => rw [if_neg (by simp [tkC])]; exact bad _ rfl
    | fin n => rw [if_neg (by simp [tkC])]; exact bad _ rfl
    | comment s => rw [if_neg (by simp [tkC])]; exact bad _ rfl
    | doctype s => rw [if_neg (by simp [tkC])]; exact bad _ rfl
  · unfold context_value.f
    rw [if_neg (by rw [List.length_map]; omega)]
    refine bad _ ?_
    match l, h1 with
    | [], _ => rfl
    | [t], h1 => exact absurd rfl h1
    | t :: u :: r, _ =>
      cases t with
      | start n al self =>
        unfold valueL
        split
        · rename_i h; simp at h
        · rfl
      | _ => rfl
theorem trim_f (x : List UInt8) : strings_TrimPrefix.f (B x) ⟨#[10]⟩ = some (B (trimN x)) := by
  unfold strings_TrimPrefix.f stringslite_TrimPrefix.f stringslite_HasPrefix.f
  have h1 : ((⟨#[10]⟩ : ByteArray).size : Int) = 1 := rfl
  rw [h1, size_B]
  cases x with
  | nil => rfl
  | cons c r =>
    have e : (B (c :: r)).extract 0 (1 : Int).toNat = B [c] := by show (B (c :: r)).extract 0 1 = _; rw [B_extract]; simp
    have e2 : (B (c :: r)).extract (1 : Int).toNat (c :: r).length = B r := by show (B (c :: r)).extract 1 _ = _; rw [B_extract]; simp
    rw [if_pos (by simp only [List.length_cons]; omega), if_pos (by decide), if_pos (by simp only [List.length_cons]; omega), Option.bind_some, e, e2, show (⟨#[10]⟩ : ByteArray) = B [10] from rfl]
    have hb : ((B [c]).toList == (B [10]).toList) = (c == 10) := by
      rw [Bool.eq_iff_iff, beq_iff_eq, beq_iff_eq, B_eq_iff]; simp
    rw [hb]
    by_cases hc : c = 10
    · subst hc; rw [if_pos (by decide), if_pos (by decide), if_pos (by simp only [List.length_cons]; omega)]; rfl
    · rw [if_neg (by simpa using hc), Option.bind_some]
      simp only [trimN, if_neg hc]
theorem isAreaO_eq (t : Tk) : (decide ((tkC t).1 = 1) && decide ((tkC t).2.1 = areaW) && decide (((tkC t).2.2.2.1.length : Int) = 0) && !(tkC t).2.2.2.2) = isAreaO (some t) := by
  cases t with
  | start n al self =>
    cases al with
    | nil =>
      cases self with
      | true => simp [tkC, isAreaO]
      | false => show (decide ((1 : Int) = 1) && decide (n = areaW) && decide (((([] : List AttrT).length : Nat) : Int) = 0) && !false) = (n == areaW); rw [Bool.eq_iff_iff]; simp
    | cons a r =>
      show (decide ((1 : Int) = 1) && decide (n = areaW) && decide ((((a :: r).length : Nat) : Int) = 0) && !self) = false
      rw [decide_eq_false (show ¬ ((((a :: r).length : Nat) : Int) = 0) by simp only [List.length_cons]; omega)]; simp
  | _ => simp [tkC, isAreaO]
theorem isAreaC_eq (t : Tk) : (decide ((tkC t).1 = 2) && decide ((tkC t).2.1 = areaW) && decide (((tkC t).2.2.2.1.length : Int) = 0) && !(tkC t).2.2.2.2) = isAreaC (some t) := by
  cases t with
  | fin n => show (decide ((2 : Int) = 2) && decide (n = areaW) && decide (((([] : List AttrT).length : Nat) : Int) = 0) && !false) = (n == areaW); rw [Bool.eq_iff_iff]; simp
  | _ => simp [tkC, isAreaC]
theorem mid_eq (l : List Tk) (n : Nat) (h : l.length = n + 1) : (l.take n).drop 1 = l.tail.dropLast := by
  cases l with
  | nil => simp at h
  | cons t r =>
    rw [List.length_cons, Nat.add_right_cancel_iff] at h
    cases n with
    | zero => rw [List.length_eq_zero_iff] at h; subst h; rfl
    | succ m =>
      show r.take m = r.dropLast
      rw [List.dropLast_eq_take, h]; rfl
theorem within_ev (l : List Tk) (hl : l.length ≤ 1000000) : Ev (fun k => context_within.f k (l.map ofK)) (B (withinL l).1, (withinL l).2) := by
  have hw : wrap64 (((l.map ofK).length : Int) - 1) = (l.length : Int) - 1 := by rw [List.length_map]; unfold wrap64; omega
  have bad : ∀ j : Int, withinL l = ([], false) → Ev (fun k => context_within.j0 k (l.map ofK) j true) (B (withinL l).1, (withinL l).2) := fun j h => by
    rw [h]
    exact Ev.step (f := fun _ => some (⟨#[]⟩, false)) (fun k => by rw [context_within.j0, if_pos rfl]) (Ev.now _)
  unfold context_within.f
  simp only [hw]
  by_cases h2 : 2 ≤ l.length
  · obtain ⟨n, hn⟩ : ∃ n, l.length = n + 1 := ⟨l.length - 1, by omega⟩
    have e1 : (l.length : Int) - 1 = (n : Int) := by omega
    have hlen : ((l.map ofK).length : Int) = (l.length : Int) := by rw [List.length_map]
    have hh : l.head? = some l[0] := by rw [List.head?_eq_getElem?, List.getElem?_eq_getElem (by omega)]
    have ht : l.getLast? = some l[n] := by rw [List.getLast?_eq_getElem?, show l.length - 1 = n by omega, List.getElem?_eq_getElem (by omega)]
    have n1 : ¬ (n : Int) < 1 := by omega
    have q0 : (0 : Int) < ((l.map ofK).length : Int) := by rw [hlen]; omega
    have q1 : (0 : Int) ≤ (n : Int) := by omega
    have q2 : (n : Int) < ((l.map ofK).length : Int) := by rw [hlen]; omega
    have r0 : rd_T28 (l.map ofK) 0 = ofK l[0] := rd_map (i := 0) (by omega)
    have rn : rd_T28 (l.map ofK) (n : Int) = ofK l[n] := rd_map (by omega)
    simp only [e1, if_neg n1, if_pos q0, if_pos q1, if_pos q2, r0, rn, show (⟨#[116, 101, 120, 116, 97, 114, 101, 97]⟩ : ByteArray) = B areaW from rfl, plain_tk, Option.bind_some, isAreaO_eq, isAreaC_eq]
    cases ho : isAreaO (some l[0]) with
    | false =>
      simp only [Bool.false_eq_true, if_false]
      refine bad _ ?_
      unfold withinL
      rw [hh, ho, if_neg (by simp)]
    | true =>
      simp only [if_true]
      cases hc : isAreaC (some l[n]) with
      | false =>
        refine bad _ ?_
        unfold withinL
        rw [ht, hc, if_neg (by simp)]
      | true =>
        have hwl : withinL l = (trimN (onlyL l.tail.dropLast).1, (onlyL l.tail.dropLast).2) := by
          unfold withinL
          rw [hh, ho, ht, hc, if_pos ⟨h2, rfl, rfl⟩]
        rw [hwl]
        refine Ev.step (f := fun _ => some (B (trimN (onlyL l.tail.dropLast).1), (onlyL l.tail.dropLast).2)) (fun k => ?_) (Ev.now _)
        have hsl : (List.take ((n : Int)).toNat (l.map ofK)).drop 1 = (l.tail.dropLast).map ofK := by
          rw [Int.toNat_natCast, ← List.map_take, ← List.map_drop]
          rw [mid_eq l n hn]
        rw [context_within.j0, if_neg (by decide), if_pos (by omega), if_pos (by rw [hlen]; omega), hsl, only_f, Option.bind_some, trim_f, Option.bind_some]
  · have n1 : (l.length : Int) - 1 < 1 := by omega
    simp only [if_pos n1]
    refine bad _ ?_
    unfold withinL
    rw [if_neg (fun e => h2 e.1)]
end Go.Proofs.YtbdcghbafopjjaaGreatDoor.Pure
end

section
namespace Go.Proofs.YtbdcghbafopjjaaGreatDoor.Hand
open Go Go.RowKit Go.Proofs.YtbdcghbafopjjaaGreatDoor.K0 Go.Proofs.YtbdcghbafopjjaaGreatDoor.Pl Go.Proofs.YtbdcghbafopjjaaGreatDoor.Pb Go.Proofs.YtbdcghbafopjjaaGreatDoor.Sa Go.Proofs.YtbdcghbafopjjaaGreatDoor.St Go.Proofs.YtbdcghbafopjjaaGreatDoor.Pure Go.Proofs.YtbdcghbafopjjaaGreatDoorW.PrintWords Go.Proofs.YtbdcghbafopjjaaGreatDoorW.PrintLast Go.Proofs.YtbdcghbafopjjaaGreatDoorW.PrintMore
theorem big_no {n k : Nat} (h : n ≤ 1000000) (hk : k ≤ 1000) : (9223372036854775807 < k + n) = False := eq_false (by omega)
theorem big_no2 {n k j : Nat} (h : n ≤ 1000000) (hk : k ≤ 1000) (hj : j ≤ 1000) : (9223372036854775807 < k + n + j) = False := eq_false (by omega)
set_option maxRecDepth 100000 in
set_option maxHeartbeats 4000000 in
theorem wrapB_c (d : Int) (single : Bool) (a : ByteArray) (ha : a.size ≤ 1000000) (w : World) :
    Calls Tryz.prog 20 #[.int .i64 d, .bool single, .string a] w fun e w' => e = .returned (.string (if d = 0 then a else if d = 1 then ⟨#[60, 97, 32, 120, 61]⟩ ++ B [qB single] ++ a ++ B [qB single] ++ ⟨#[62]⟩ else if d = 2 then ⟨#[60, 116, 101, 120, 116, 97, 114, 101, 97, 62]⟩ ++ a ++ ⟨#[60, 47]⟩ ++ ⟨#[116, 101, 120, 116, 97, 114, 101, 97]⟩ ++ ⟨#[62]⟩ else ⟨#[]⟩)) ∧ Below w.heap.size w w' := by
  have f6 := big_no ha (show 6 ≤ 1000 by decide)
  have f61 := big_no2 ha (show 6 ≤ 1000 by decide) (show 1 ≤ 1000 by decide)
  have f611 := big_no2 ha (show 6 ≤ 1000 by decide) (show 1 + 1 ≤ 1000 by decide)
  have f612 := big_no2 ha (show 6 ≤ 1000 by decide) (show 2 ≤ 1000 by decide)
  have f10 := big_no ha (show 10 ≤ 1000 by decide)
  have f102 := big_no2 ha (show 10 ≤ 1000 by decide) (show 2 ≤ 1000 by decide)
  have fA : (9223372036854775807 < 6 + a.size + 1 + 1) = False := eq_false (by omega)
  have fB : (9223372036854775807 < 10 + a.size + 2 + 8) = False := eq_false (by omega)
  have fC : (9223372036854775807 < 10 + a.size + 2 + 8 + 1) = False := eq_false (by omega)
  clear ha
  by_cases h0 : d = 0
  · rw [if_pos h0]
    subst h0
    cases single <;> (
      go_enter Tryz.func20, Tryz.ntmps20
      go_wp2_with fail
      go_ret
      exact ⟨rfl, Below.refl _ _⟩)
  · have n0 : (d == 0) = false := beq_eq_false_iff_ne.2 h0
    rw [if_neg h0]
    by_cases h1 : d = 1
    · rw [if_pos h1]
      subst h1
      cases single <;> (
        go_enter Tryz.func20, Tryz.ntmps20
        go_wp2_with fail
        go_ret
        exact ⟨rfl, Below.refl _ _⟩)
    · have n1 : (d == 1) = false := beq_eq_false_iff_ne.2 h1
      rw [if_neg h1]
      by_cases h2 : d = 2
      · rw [if_pos h2]
        subst h2
        cases single <;> (
          go_enter Tryz.func20, Tryz.ntmps20
          go_wp2_with fail
          go_ret
          exact ⟨rfl, Below.refl _ _⟩)
      · have n2 : (d == 2) = false := beq_eq_false_iff_ne.2 h2
        rw [if_neg h2]
        cases single <;> (
          go_enter Tryz.func20, Tryz.ntmps20
          go_wp2_with fail
          go_ret
          exact ⟨rfl, Below.refl _ _⟩)
theorem wrap_c (d : Int) (single : Bool) (s : List UInt8) (hs : s.length ≤ 1000000) (w : World) :
    Calls Tryz.prog 20 #[.int .i64 d, .bool single, .string (B s)] w fun e w' => e = .returned (.string (B (wrapL d single s))) ∧ Below w.heap.size w w' := by
  have h := wrapB_c d single (B s) (by rw [size_B]; exact hs) w
  have e : (if d = 0 then B s else if d = 1 then (⟨#[60, 97, 32, 120, 61]⟩ : ByteArray) ++ B [qB single] ++ B s ++ B [qB single] ++ ⟨#[62]⟩ else if d = 2 then ⟨#[60, 116, 101, 120, 116, 97, 114, 101, 97, 62]⟩ ++ B s ++ ⟨#[60, 47]⟩ ++ ⟨#[116, 101, 120, 116, 97, 114, 101, 97]⟩ ++ ⟨#[62]⟩ else ⟨#[]⟩) = B (wrapL d single s) := by
    unfold wrapL
    split
    · rfl
    · split
      · show B [60, 97, 32, 120, 61] ++ B [qB single] ++ B s ++ B [qB single] ++ B [62] = _
        simp only [B_append]
        congr 1
        simp [attrO]
      · split
        · show B [60, 116, 101, 120, 116, 97, 114, 101, 97, 62] ++ B s ++ B [60, 47] ++ B [116, 101, 120, 116, 97, 114, 101, 97] ++ B [62] = _
          simp only [B_append]
          congr 1
          simp [areaO, areaC]
        · rfl
  rw [e] at h
  exact h
theorem wrapL_length (d : Int) (single : Bool) (s : List UInt8) : (wrapL d single s).length ≤ s.length + 30 := by
  unfold wrapL
  repeat' split
  all_goals simp [attrO, areaO, areaC]
def pkL (d : Nat) (l : List Tk) : List UInt8 × Bool := if d = 0 then onlyL l else if d = 1 then valueL l else withinL l
def pkF (d : Nat) : Nat := if d = 0 then 37 else if d = 1 then 38 else 39
theorem pk_c (d : Nat) (l : List Tk) (hl : l.length ≤ 1000000) (W : World) (v : Value) (b : Nat) (ok : Nat → Prop) (hV : Kd.V tkK 28 W b ok v (l.map ofK)) :
    Calls Tryz.prog (pkF d) #[v] W fun e w' => e = .returned (.tuple #[.string (B (pkL d l).1), .bool (pkL d l).2]) ∧ Below W.heap.size W w' := by
  obtain ⟨A, c, rfl⟩ := Kd.V_slice hV
  obtain ⟨_, h1, h2⟩ := Kd.V_reads' hV
  unfold pkF pkL
  by_cases h0 : d = 0
  · rw [if_pos h0, if_pos h0]
    exact (context_only.calls A c (l.map ofK) _ _ W h2 h1 (only_f l)).mono fun e w' h => ⟨h.1, h.2.below⟩
  · rw [if_neg h0, if_neg h0]
    by_cases h3 : d = 1
    · rw [if_pos h3, if_pos h3]
      exact context_value.calls A c (l.map ofK) _ _ W h2 h1 (value_f l)
    · rw [if_neg h3, if_neg h3]
      obtain ⟨k, hk⟩ := (within_ev l hl).rounds
      exact context_within.calls k A c (l.map ofK) _ _ W h2 h1 hk
set_option maxRecDepth 100000 in
set_option maxHeartbeats 16000000 in
theorem parse_in (d : Nat) (hd : d < 3) (single : Bool) (s : List UInt8) (hs : s.length ≤ 20000) (w : World) (hGl : Glob w) :
    Calls Tryz.prog 18 #[.int .i64 (d : Int), .bool single, .string (B s)] w fun e w' => e = .returned (.tuple #[.string (B (pkL d (driveL (normL (wrapL d single s)))).1), .bool (pkL d (driveL (normL (wrapL d single s)))).2]) ∧ Below w.heap.size w w' := by
  have hwl := wrapL_length (d : Int) single s
  have hnl := normL_length (wrapL (d : Int) single s)
  have WR := Lib.hid (fun W => wrap_c (d : Int) single s (by omega) W)
  have NR : Hid (∀ W, Calls Tryz.prog 23 #[.string (B (wrapL (d : Int) single s))] W fun e w' => e = .returned (.string (B (normL (wrapL (d : Int) single s)))) ∧ Below W.heap.size W w') := Lib.hid (fun W => by
    have := norm_any (B (wrapL (d : Int) single s)) W (by rw [size_B]; omega)
    rw [B_data] at this
    exact this)
  have DR := Lib.hid (fun W hG => drive_c (normL (wrapL (d : Int) single s)) (by omega) W hG)
  have hdl : (driveL (normL (wrapL (d : Int) single s))).length ≤ 1000000 := by
    have h1 := (drv_bd _ (normL (wrapL (d : Int) single s)) (Nat.le_refl _)).2
    have h2 := jn_len (drvL (normL (wrapL (d : Int) single s))) (drvL (normL (wrapL (d : Int) single s))).length
    have h3 : jn (drvL (normL (wrapL (d : Int) single s))) (drvL (normL (wrapL (d : Int) single s))).length = driveL (normL (wrapL (d : Int) single s)) := by unfold jn driveL; rw [List.take_length, join_eq]
    rw [h3] at h2
    omega
  have PK := Lib.hid (fun W v b ok hV => pk_c d (driveL (normL (wrapL (d : Int) single s))) hdl W v b ok hV)
  generalize driveL (normL (wrapL (d : Int) single s)) = L at DR PK ⊢
  generalize normL (wrapL (d : Int) single s) = S2 at NR DR
  obtain ⟨a1, h1⟩ : ∃ a, B (wrapL (d : Int) single s) = a := ⟨_, rfl⟩
  obtain ⟨a2, h2⟩ : ∃ a, B S2 = a := ⟨_, rfl⟩
  obtain ⟨a0, h0⟩ : ∃ a, B s = a := ⟨_, rfl⟩
  rw [h1] at WR NR
  rw [h2] at NR DR
  rw [h0] at WR ⊢
  obtain ⟨⟨r1, r2⟩, hr⟩ : ∃ r, pkL d L = r := ⟨_, rfl⟩
  rw [hr] at PK ⊢
  dsimp only at PK ⊢
  obtain ⟨r1, hr1⟩ : ∃ r, B r1 = r := ⟨_, rfl⟩
  rw [hr1] at PK ⊢
  clear hr1 hr h0 h1 h2 hwl hnl hdl
  have HS0 : ∀ (j : Nat) F, j = d → (#[Value.func (.func 37) #[] #[], .func (.func 38) #[] #[], .func (.func 39) #[] #[]] : Array Value)[j]? = some F → PxC w w.heap.size d F (((w.alloc (.cells #[.nilFunc, .nilFunc, .nilFunc] 62)).setRow w.heap.size #[Value.func (.func 37) #[] #[], .func (.func 38) #[] #[], .func (.func 39) #[] #[]]).drew) := fun j F hj hF => by
    subst hj
    have hb : Below w.heap.size w ((w.alloc (.cells #[.nilFunc, .nilFunc, .nilFunc] 62)).setRow w.heap.size #[Value.func (.func 37) #[] #[], .func (.func 38) #[] #[], .func (.func 39) #[] #[]]) := by rw [World.setRow_alloc_new]; exact below_alloc (Below.refl _ _) _
    exact ⟨⟨hGl.step (below_drew hb), below_drew hb⟩, (cell_setRow_same _ _ _ _ _ _ _ (heap_alloc_last w _)).trans hF⟩
  have HG := Lib.hid hGl
  clear hs hGl
  have hd3 : d = 0 ∨ d = 1 ∨ d = 2 := by omega
  clear hd
  rcases hd3 with rfl | rfl | rfl
  · have HS1 : PxC w w.heap.size 0 (.func (.func 37) #[] #[]) (((w.alloc (.cells #[.nilFunc, .nilFunc, .nilFunc] 62)).setRow w.heap.size #[Value.func (.func 37) #[] #[], .func (.func 38) #[] #[], .func (.func 39) #[] #[]]).drew) := HS0 0 _ rfl rfl
    have e0 : ((0 : Nat) : Int) = 0 := rfl
    rw [e0] at WR ⊢
    have HS2 := Lib.hid HS1
    clear HS0 HS1 e0
    go_enter Tryz.func18, Tryz.ntmps18
    go_wp2_with (first | (refine wpList_store_row rfl 62 (.tmp 8) (.tmp 9) rfl w.heap.size #[Value.func (.func 37) #[] #[], .func (.func 38) #[] #[], .func (.func 39) #[] #[]] rfl rfl 62 #[.nilFunc, .nilFunc, .nilFunc] (heap_alloc_last w _) (by kernel_rfl) rfl (by simp [Value.oneCell']) ?_))
    have HS := HS2.out
    go_region_held3 (fun W => (Glob W ∧ Below w.heap.size w W) ∧ W.cell? ⟨w.heap.size, 0, none⟩ = some (.func (.func 37) #[] #[])) (first | with_reducible assumption | with_reducible exact HS | exact PxC.call hb (by with_reducible assumption)) (first | (go_at_call 20; with_reducible refine (WR.out _).mono ?_; rintro e w' ⟨rfl, hb⟩) | (go_at_call 23; with_reducible refine (NR.out _).mono ?_; rintro e w' ⟨rfl, hb⟩) | (go_at_call 40; with_reducible refine (DR.out _ (And.left (And.left (by with_reducible assumption : PxC w w.heap.size 0 (.func (.func 37) #[] #[]) _)))).mono ?_; rintro e w' ⟨⟨v, rfl, hV⟩, hb⟩) | (go_at_call 37; refine (PK.out _ v _ _ (by assumption)).mono ?_; rintro e w' ⟨rfl, hb⟩))
    have HB := And.right (And.left (by with_reducible assumption : PxC w w.heap.size 0 (.func (.func 37) #[] #[]) w'))
    go_wp2_with fail
    go_ret2
    exact ⟨rfl, HB⟩
  · have HS1 : PxC w w.heap.size 1 (.func (.func 38) #[] #[]) (((w.alloc (.cells #[.nilFunc, .nilFunc, .nilFunc] 62)).setRow w.heap.size #[Value.func (.func 37) #[] #[], .func (.func 38) #[] #[], .func (.func 39) #[] #[]]).drew) := HS0 1 _ rfl rfl
    have e0 : ((1 : Nat) : Int) = 1 := rfl
    rw [e0] at WR ⊢
    have HS2 := Lib.hid HS1
    clear HS0 HS1 e0
    go_enter Tryz.func18, Tryz.ntmps18
    go_wp2_with (first | (refine wpList_store_row rfl 62 (.tmp 8) (.tmp 9) rfl w.heap.size #[Value.func (.func 37) #[] #[], .func (.func 38) #[] #[], .func (.func 39) #[] #[]] rfl rfl 62 #[.nilFunc, .nilFunc, .nilFunc] (heap_alloc_last w _) (by kernel_rfl) rfl (by simp [Value.oneCell']) ?_))
    have HS := HS2.out
    go_region_held3 (fun W => (Glob W ∧ Below w.heap.size w W) ∧ W.cell? ⟨w.heap.size, 1, none⟩ = some (.func (.func 38) #[] #[])) (first | with_reducible assumption | with_reducible exact HS | exact PxC.call hb (by with_reducible assumption)) (first | (go_at_call 20; with_reducible refine (WR.out _).mono ?_; rintro e w' ⟨rfl, hb⟩) | (go_at_call 23; with_reducible refine (NR.out _).mono ?_; rintro e w' ⟨rfl, hb⟩) | (go_at_call 40; with_reducible refine (DR.out _ (And.left (And.left (by with_reducible assumption : PxC w w.heap.size 1 (.func (.func 38) #[] #[]) _)))).mono ?_; rintro e w' ⟨⟨v, rfl, hV⟩, hb⟩) | (go_at_call 38; refine (PK.out _ v _ _ (by assumption)).mono ?_; rintro e w' ⟨rfl, hb⟩))
    have HB := And.right (And.left (by with_reducible assumption : PxC w w.heap.size 1 (.func (.func 38) #[] #[]) w'))
    go_wp2_with fail
    go_ret2
    exact ⟨rfl, HB⟩
  · have HS1 : PxC w w.heap.size 2 (.func (.func 39) #[] #[]) (((w.alloc (.cells #[.nilFunc, .nilFunc, .nilFunc] 62)).setRow w.heap.size #[Value.func (.func 37) #[] #[], .func (.func 38) #[] #[], .func (.func 39) #[] #[]]).drew) := HS0 2 _ rfl rfl
    have e0 : ((2 : Nat) : Int) = 2 := rfl
    rw [e0] at WR ⊢
    have HS2 := Lib.hid HS1
    clear HS0 HS1 e0
    go_enter Tryz.func18, Tryz.ntmps18
    go_wp2_with (first | (refine wpList_store_row rfl 62 (.tmp 8) (.tmp 9) rfl w.heap.size #[Value.func (.func 37) #[] #[], .func (.func 38) #[] #[], .func (.func 39) #[] #[]] rfl rfl 62 #[.nilFunc, .nilFunc, .nilFunc] (heap_alloc_last w _) (by kernel_rfl) rfl (by simp [Value.oneCell']) ?_))
    have HS := HS2.out
    go_region_held3 (fun W => (Glob W ∧ Below w.heap.size w W) ∧ W.cell? ⟨w.heap.size, 2, none⟩ = some (.func (.func 39) #[] #[])) (first | with_reducible assumption | with_reducible exact HS | exact PxC.call hb (by with_reducible assumption)) (first | (go_at_call 20; with_reducible refine (WR.out _).mono ?_; rintro e w' ⟨rfl, hb⟩) | (go_at_call 23; with_reducible refine (NR.out _).mono ?_; rintro e w' ⟨rfl, hb⟩) | (go_at_call 40; with_reducible refine (DR.out _ (And.left (And.left (by with_reducible assumption : PxC w w.heap.size 2 (.func (.func 39) #[] #[]) _)))).mono ?_; rintro e w' ⟨⟨v, rfl, hV⟩, hb⟩) | (go_at_call 39; refine (PK.out _ v _ _ (by assumption)).mono ?_; rintro e w' ⟨rfl, hb⟩))
    have HB := And.right (And.left (by with_reducible assumption : PxC w w.heap.size 2 (.func (.func 39) #[] #[]) w'))
    go_wp2_with fail
    go_ret2
    exact ⟨rfl, HB⟩
set_option maxRecDepth 100000 in
theorem parse_out (d : Int) (hd : d < 0 ∨ 2 < d) (single : Bool) (a : ByteArray) (w : World) :
    Calls Tryz.prog 18 #[.int .i64 d, .bool single, .string a] w fun e w' => e = .returned (.tuple #[.string ⟨#[]⟩, .bool false]) ∧ Below w.heap.size w w' := by
  have hb : Below w.heap.size w ((w.alloc (.cells #[.nilFunc, .nilFunc, .nilFunc] 62)).setRow w.heap.size #[Value.func (.func 37) #[] #[], .func (.func 38) #[] #[], .func (.func 39) #[] #[]]) := by rw [World.setRow_alloc_new]; exact below_alloc (Below.refl _ _) _
  have HB := Lib.hid hb
  clear hb
  by_cases h : d < 0
  · have q : decide (d < 0) = true := decide_eq_true h
    clear hd h
    go_enter Tryz.func18, Tryz.ntmps18
    go_wp2_with (first | (refine wpList_store_row rfl 62 (.tmp 8) (.tmp 9) rfl w.heap.size #[Value.func (.func 37) #[] #[], .func (.func 38) #[] #[], .func (.func 39) #[] #[]] rfl rfl 62 #[.nilFunc, .nilFunc, .nilFunc] (heap_alloc_last w _) (by kernel_rfl) rfl (by simp [Value.oneCell']) ?_))
    go_ret2
    exact ⟨rfl, HB.out⟩
  · have q : decide (d < 0) = false := decide_eq_false h
    have q2 : decide (d ≥ 3) = true := decide_eq_true (by omega)
    have q3 : decide (3 ≤ d) = true := decide_eq_true (by omega)
    clear hd h
    go_enter Tryz.func18, Tryz.ntmps18
    go_wp2_with (first | (refine wpList_store_row rfl 62 (.tmp 8) (.tmp 9) rfl w.heap.size #[Value.func (.func 37) #[] #[], .func (.func 38) #[] #[], .func (.func 39) #[] #[]] rfl rfl 62 #[.nilFunc, .nilFunc, .nilFunc] (heap_alloc_last w _) (by kernel_rfl) rfl (by simp [Value.oneCell']) ?_))
    go_ret2
    exact ⟨rfl, HB.out⟩
theorem parse_c (d : Int) (single : Bool) (s : List UInt8) (hs : s.length ≤ 20000) (w : World) (hGl : Glob w) :
    Calls Tryz.prog 18 #[.int .i64 d, .bool single, .string (B s)] w fun e w' => e = .returned (.tuple #[.string (B (parseL d single s).1), .bool (parseL d single s).2]) ∧ Below w.heap.size w w' := by
  by_cases h : d < 0 ∨ 2 < d
  · have e : parseL d single s = ([], false) := by unfold parseL; rw [if_neg (by omega), if_neg (by omega), if_neg (by omega)]
    rw [e]
    exact parse_out d h single _ w
  · obtain ⟨n, rfl⟩ := Int.eq_ofNat_of_zero_le (show 0 ≤ d by omega)
    have hn : n < 3 := by omega
    have e : parseL (n : Int) single s = pkL n (driveL (normL (wrapL n single s))) := by
      unfold parseL pkL
      by_cases h0 : n = 0
      · rw [if_pos (by omega), if_pos h0]
      · rw [if_neg (by omega), if_neg h0]
        by_cases h1 : n = 1
        · rw [if_pos (by omega), if_pos h1]
        · rw [if_neg (by omega), if_neg h1, if_pos (by omega)]
    rw [e]
    exact parse_in n hn single s hs w hGl
def context_Wrap.f (a0 : Int) (a1 : Bool) (a2 : ByteArray) : Option ByteArray := if a2.size ≤ 1000000 then some (B (wrapL a0 a1 a2.data.toList)) else none
theorem context_Wrap.calls (a0 : Int) (a1 : Bool) (a2 : ByteArray) (r : ByteArray) (w : World) (h : context_Wrap.f a0 a1 a2 = some r) :
    Calls Tryz.prog 20 #[.int .i64 a0, .bool a1, .string a2] w fun e w' => e = .returned (.string r) ∧ Below w.heap.size w w' := by
  obtain ⟨hc, h⟩ := hg_split h
  obtain rfl := Option.some.inj h
  have := wrap_c a0 a1 a2.data.toList (by rw [Array.length_toList]; exact hc) w
  rwa [← B_of] at this
noncomputable def context_Parse.f (a0 : Int) (a1 : Bool) (a2 : ByteArray) : Option (ByteArray × Bool) := if a2.size ≤ 20000 then some (B (parseL a0 a1 a2.data.toList).1, (parseL a0 a1 a2.data.toList).2) else none
theorem context_Parse.calls (a0 : Int) (a1 : Bool) (a2 : ByteArray) (r1 : ByteArray) (r2 : Bool) (w : World) (hGl : Glob w) (h : context_Parse.f a0 a1 a2 = some (r1, r2)) :
    Calls Tryz.prog 18 #[.int .i64 a0, .bool a1, .string a2] w fun e w' => e = .returned (.tuple #[.string r1, .bool r2]) ∧ Below w.heap.size w w' := by
  obtain ⟨hc, h⟩ := hg_split h
  have h := Option.some.inj h
  simp only [Prod.mk.injEq] at h
  obtain ⟨rfl, rfl⟩ := h
  have := parse_c a0 a1 a2.data.toList (by rw [Array.length_toList]; exact hc) w hGl
  rwa [← B_of] at this
end Go.Proofs.YtbdcghbafopjjaaGreatDoor.Hand
end

section
namespace Go.Proofs.YtbdcghbafopjjaaGreatDoor.Hand
open Go.RowKit
theorem once_disable (w : World) : (callFunc 212 #[]).run Tryz.prog w = .ok (.value (.tuple #[])) w := run_call_mark0 Tryz.func212 (by kernel_rfl) (by kernel_rfl) (by kernel_rfl) .disable (by kernel_rfl) w
theorem once_enable (w : World) : (callFunc 214 #[]).run Tryz.prog w = .ok (.value (.tuple #[])) w := run_call_mark0 Tryz.func214 (by kernel_rfl) (by kernel_rfl) (by kernel_rfl) .enable (by kernel_rfl) w
theorem once_acquire (a : Addr) (w : World) : (callFunc 215 #[.pointer (some a)]).run Tryz.prog w = .ok (.value (.tuple #[])) w := run_call_marked Tryz.func215 (by kernel_rfl) (by kernel_rfl) (by kernel_rfl) .acquire (by kernel_rfl) a w
theorem once_releaseMerge (a : Addr) (w : World) : (callFunc 217 #[.pointer (some a)]).run Tryz.prog w = .ok (.value (.tuple #[])) w := run_call_marked Tryz.func217 (by kernel_rfl) (by kernel_rfl) (by kernel_rfl) .releaseMerge (by kernel_rfl) a w
theorem once_store_deferred (a : Addr) (x : Value) (u : FrameMode) (w : World) (hc : w.cell? a = some x) (hz : w.frozen? a = false) :
    CallsD Tryz.prog 193 #[.pointer (some a), .bool true] u w fun e u' w' => u' = u ∧ (e = .returned (.tuple #[]) ∧ w' = w.drew.setCell a (.int .u32 1)) := by
  have hc' : w.drew.cell? a = some x := by go_simp
  have hz' : w.drew.frozen? a = false := by go_simp
  have hst := run_call_store (P := Tryz.prog) Tryz.func206 (by kernel_rfl) (by kernel_rfl) (by kernel_rfl) (by kernel_rfl) (k := .u32) (y := 1) hc' hz'
  go_enter_d Tryz.func193, Tryz.ntmps193
  go_wp2
  go_region_calls
  all_goals (go_end0; exact ⟨rfl, rfl⟩)
set_option maxRecDepth 100000 in
set_option maxHeartbeats 800000 in
theorem once_unlock_deferred (a : Addr) (u : FrameMode) (w : World) (hc : w.cell? a = some (.int .i32 1)) (hz : w.frozen? a = false) :
    CallsD Tryz.prog 192 #[.pointer (some a)] u w fun e u' w' => u' = u ∧ (e = .returned (.tuple #[]) ∧ w' = w.setCell a (.int .i32 0)) := by
  have hd := once_disable
  have he := once_enable
  have hr := once_releaseMerge
  have hadd := run_call_add (P := Tryz.prog) Tryz.func218 (by kernel_rfl) (by kernel_rfl) (by kernel_rfl) .i32 (by kernel_rfl) (y := -1) (s := 0) hc hz (by simp [go_sem]; rfl)
  have hcv := run_convert_to_unsafe (P := Tryz.prog) (src := 217) (dst := 95) Tryz.underlying217 Tryz.underlying95 (by kernel_rfl) hc
  go_enter_d Tryz.func192, Tryz.ntmps192
  go_wp2
  go_end0
  go_wp2
  go_end0
  exact ⟨rfl, rfl⟩
set_option maxRecDepth 100000 in
set_option maxHeartbeats 800000 in
theorem once_lock_free (a : Addr) (w : World) (hc : w.cell? a = some (.int .i32 0)) (hz : w.frozen? a = false) :
    Calls Tryz.prog 191 #[.pointer (some a)] w fun e w' => e = .returned (.tuple #[]) ∧ w' = w.setCell a (.int .i32 1) := by
  have hd := once_disable
  have he := once_enable
  have ha := once_acquire
  have hcas := run_call_cas_hit (P := Tryz.prog) Tryz.func213 (by kernel_rfl) (by kernel_rfl) (by kernel_rfl) .i32 (by kernel_rfl) (y := 1) hc hz
  have hc' : (w.setCell a (.int .i32 1)).cell? a = some (.int .i32 1) := World.cell?_setCell_same w a _ hc
  have hcv := run_convert_to_unsafe (P := Tryz.prog) (src := 217) (dst := 95) Tryz.underlying217 Tryz.underlying95 (by kernel_rfl) hc'
  go_enter Tryz.func191, Tryz.ntmps191
  go_wp2
  first | go_end0 | (simp only [Exit.inBlock, Exit.then]; refine bodyPost_ret (results_none rfl _ _ _) rfl ?_) | refine bodyPost_ret (results_none rfl _ _ _) rfl ?_
  go_wp2
  go_end0
  exact ⟨rfl, rfl⟩
structure OnceRun (b : Nat) (w : World) (Post : World → Prop) : Prop where
  run : Calls Tryz.prog 161 #[.pointer (some ⟨b, 0, none⟩)] w fun e w' => e = .returned (.tuple #[]) ∧ (w'.cell? ⟨b, 0, none⟩ = some (.int .u32 0) ∧ w'.cell? ⟨b, 1, none⟩ = some (.int .i32 1) ∧ w'.frozen? ⟨b, 0, none⟩ = false ∧ w'.frozen? ⟨b, 1, none⟩ = false ∧ Post w')
set_option maxRecDepth 100000 in
set_option maxHeartbeats 1600000 in
theorem once_slow (b : Nat) (Post : World → Prop) (w : World)
    (h0 : w.cell? ⟨b, 0, none⟩ = some (.int .u32 0)) (h1 : w.cell? ⟨b, 1, none⟩ = some (.int .i32 0))
    (f0 : w.frozen? ⟨b, 0, none⟩ = false) (f1 : w.frozen? ⟨b, 1, none⟩ = false)
    (hrun : OnceRun b (w.setCell ⟨b, 1, none⟩ (.int .i32 1)) Post) :
    Calls Tryz.prog 177 #[.pointer (some ⟨b, 0, none⟩), .func (.func 161) #[.pointer (some ⟨b, 0, none⟩)] #[]] w fun e w' => e = .returned (.tuple #[]) ∧
      ∃ w2, Post w2 ∧ w' = (w2.drew.setCell ⟨b, 0, none⟩ (.int .u32 1)).setCell ⟨b, 1, none⟩ (.int .i32 0) := by
  have hl := run_call_load (P := Tryz.prog) Tryz.func190 (by kernel_rfl) (by kernel_rfl) (by kernel_rfl) .u32 (by kernel_rfl) (w := w.setCell ⟨b, 1, none⟩ (.int .i32 1)) (a := ⟨b, 0, none⟩) (x := 0) ((World.cell?_setCell_other _ ⟨b, 1, none⟩ ⟨b, 0, none⟩ _ (by simp)).trans h0)
  have hnot : ∀ (x : Bool) (w : World), (Op.unary .not (.bool x)).run Tryz.prog w = .ok (.bool (!x)) w := fun _ _ => rfl
  go_enter_defers Tryz.func177, Tryz.ntmps177
  go_wp2_with (first | (go_at_call 191; refine (once_lock_free ⟨b, 1, none⟩ _ (by go_simp) (by go_simp)).mono ?_; rintro e w' ⟨rfl, rfl⟩) | (go_at_call 176; go_in))
  refine hrun.run.mono ?_
  rintro e w2 ⟨rfl, g0, g1, z0, z1, hp⟩
  have HP := Lib.hid hp
  clear hp h0 h1 f0 f1 hrun hl
  go_wp2_with fail
  refine leaves_cons (f := 193) (args := #[.pointer (some ⟨b, 0, none⟩), .bool true]) (by simp) (by simp [go_sem]) ?_
  refine (once_store_deferred ⟨b, 0, none⟩ (.int .u32 0) .returning _ g0 z0).mono ?_
  rintro e u' w'' ⟨rfl, rfl, rfl⟩
  refine leaves_cons (f := 192) (args := #[.pointer (some ⟨b, 1, none⟩)]) (by simp [settle]) (by simp [go_sem]) ?_
  refine (once_unlock_deferred ⟨b, 1, none⟩ _ _ ?_ (by simp [z1])).mono ?_
  · refine (World.cell?_setCell_other _ ⟨b, 0, none⟩ ⟨b, 1, none⟩ _ (by simp)).trans ?_
    rw [World.cell?_drew]
    exact g1
  rintro e u' w'' ⟨rfl, rfl, rfl⟩
  exact ⟨.tuple #[], results_none rfl _ _ _, rfl, w2, HP.out, rfl⟩
set_option maxRecDepth 100000 in
set_option maxHeartbeats 1600000 in
theorem once_do (b : Nat) (Post : World → Prop) (w : World)
    (h0 : w.cell? ⟨b, 0, none⟩ = some (.int .u32 0)) (h1 : w.cell? ⟨b, 1, none⟩ = some (.int .i32 0))
    (f0 : w.frozen? ⟨b, 0, none⟩ = false) (f1 : w.frozen? ⟨b, 1, none⟩ = false)
    (hrun : OnceRun b (w.setCell ⟨b, 1, none⟩ (.int .i32 1)) Post) :
    Calls Tryz.prog 160 #[.pointer (some ⟨b, 0, none⟩), .func (.func 161) #[.pointer (some ⟨b, 0, none⟩)] #[]] w fun e w' => e = .returned (.tuple #[]) ∧
      ∃ w2, Post w2 ∧ w' = (w2.drew.setCell ⟨b, 0, none⟩ (.int .u32 1)).setCell ⟨b, 1, none⟩ (.int .i32 0) := by
  have hl := run_call_load (P := Tryz.prog) Tryz.func190 (by kernel_rfl) (by kernel_rfl) (by kernel_rfl) .u32 (by kernel_rfl) h0
  have hnot : ∀ (x : Bool) (w : World), (Op.unary .not (.bool x)).run Tryz.prog w = .ok (.bool (!x)) w := fun _ _ => rfl
  have C := Lib.hid (once_slow b Post w h0 h1 f0 f1 hrun)
  clear h0 h1 f0 f1 hrun
  go_enter Tryz.func160, Tryz.ntmps160
  go_wp2_with (go_at_call 176; go_in)
  refine C.out.mono ?_
  rintro e w' ⟨rfl, hw⟩
  have HW := Lib.hid hw
  clear hw C
  go_wp2_with fail
  go_end0
  exact ⟨rfl, HW.out⟩
end Go.Proofs.YtbdcghbafopjjaaGreatDoor.Hand
end

section
namespace Go.Proofs.YtbdcghbafopjjaaGreatDoor.Hand
open Go.RowKit
def nodeZ : Array Value := #[.string ⟨#[]⟩, .int .i64 0, .string ⟨#[]⟩, .pointer none, .slice none 0 0]
def nodeV (v : ByteArray) (p : Int) : Array Value := #[.string v, .int .i64 p, .string ⟨#[]⟩, .pointer none, .slice none 0 0]
def nodeP (t : ByteArray) (b : Nat) : Array Value := #[.string ⟨#[]⟩, .int .i64 0, .string t, .pointer (some ⟨b, 0, none⟩), .slice none 0 0]
set_option maxRecDepth 100000 in
set_option maxHeartbeats 2000000 in
theorem add_leaf (b : Nat) (v : ByteArray) (p : Int) (r : Value) (w : World) (hb : Blk b nodeZ w) :
    Calls Tryz.prog 209 #[.pointer (some ⟨b, 0, none⟩), .string ⟨#[]⟩, .string v, .int .i64 p, r] w fun e w' => e = .returned (.tuple #[]) ∧
      w' = (w.setCell ⟨b, 0, none⟩ (.string v)).setCell ⟨b, 1, none⟩ (.int .i64 p) := by
  have c0 := hb.cell 0 (by decide)
  have c1 := hb.cell 1 (by decide)
  have hz := hb.open_
  have c1' : ∀ x, (w.setCell ⟨b, 0, none⟩ x).cell? ⟨b, 1, none⟩ = some (.int .i64 0) := fun x => by
    rw [World.cell?_setCell_other _ _ _ _ (by simp)]; exact c1
  simp only [nodeZ, List.getElem?_toArray, List.getElem?_cons_succ, List.getElem?_cons_zero] at c0 c1
  clear hb
  go_enter Tryz.func209, Tryz.ntmps209
  go_wp2_with fail
  refine bodyPost_ret (results_none rfl _ _ _) rfl ?_
  exact ⟨rfl, rfl⟩
set_option maxRecDepth 100000 in
set_option maxHeartbeats 2000000 in
theorem add_tail (b : Nat) (t v : ByteArray) (p : Int) (r : Value) (w : World) (ht : ¬ t.toList = []) (hb : Blk b nodeZ w) (hlt : b < w.heap.size) :
    Calls Tryz.prog 209 #[.pointer (some ⟨b, 0, none⟩), .string t, .string v, .int .i64 p, r] w fun e w' => e = .returned (.tuple #[]) ∧
      w' = ((((w.setCell ⟨b, 2, none⟩ (.string t)).alloc (.cells nodeZ 209)).setCell ⟨b, 3, none⟩ (.pointer (some ⟨w.heap.size, 0, none⟩))).setCell ⟨w.heap.size, 0, none⟩ (.string v)).setCell ⟨w.heap.size, 1, none⟩ (.int .i64 p) := by
  have ht' : t.toList.isEmpty = false := by simpa using ht
  have c1 := hb.cell 1 (by decide)
  have c2 := hb.cell 2 (by decide)
  have c4 := hb.cell 4 (by decide)
  have hz := hb.open_
  simp only [nodeZ, List.getElem?_toArray, List.getElem?_cons_succ, List.getElem?_cons_zero] at c1 c2 c4
  have hlt' : b < (w.setCell ⟨b, 2, none⟩ (.string t)).heap.size := by simpa using hlt
  have d3 : ((w.setCell ⟨b, 2, none⟩ (.string t)).alloc (.cells nodeZ 209)).cell? ⟨b, 3, none⟩ = some (.pointer none) := by
    rw [World.cell?_alloc_past _ _ _ hlt', World.cell?_setCell_other _ _ _ _ (by simp)]
    exact hb.cell 3 (by decide)
  have f3 : ∀ j, ((w.setCell ⟨b, 2, none⟩ (.string t)).alloc (.cells nodeZ 209)).frozen? ⟨b, j, none⟩ = false := fun j => by
    rw [World.frozen?_alloc_past _ _ _ hlt', World.frozen?_setCell]
    exact hz j
  have d3' : ∀ x, (((w.setCell ⟨b, 2, none⟩ (.string t)).alloc (.cells nodeZ 209)).setCell ⟨b, 3, none⟩ x).cell? ⟨b, 3, none⟩ = some x := fun x => World.cell?_setCell_same _ _ _ d3
  have HN : Hid (∀ x, Blk w.heap.size nodeZ (((w.setCell ⟨b, 2, none⟩ (.string t)).alloc (.cells nodeZ 209)).setCell ⟨b, 3, none⟩ x)) := Lib.hid (fun x => by
    have h := (Blk.of_alloc nodeZ 209 (w.setCell ⟨b, 2, none⟩ (.string t))).other (b' := b) 3 x (by simp; omega)
    rwa [World.size_setCell] at h)
  clear hlt hlt' hb
  unfold nodeZ at d3 f3 d3'
  go_enter Tryz.func209, Tryz.ntmps209
  go_wp2_with fail
  refine (add_leaf w.heap.size v p r _ (HN.out _)).mono ?_
  rintro e w' ⟨rfl, rfl⟩
  go_wp2_with fail
  go_end0
  exact ⟨rfl, rfl⟩
end Go.Proofs.YtbdcghbafopjjaaGreatDoor.Hand
end

section
namespace Go.Proofs.YtbdcghbafopjjaaGreatDoor.Hand
open Go.RowKit Go.Proofs.YtbdcghbafopjjaaGreatDoor.Pb
theorem wp_world {P : Program} {s : Code} {Q : Exit → Act → World → Prop} {a : Act} {w W : World} (h : w = W) (hw : s.wp P Q a W) : s.wp P Q a w := h ▸ hw
structure BlkF (b n : Nat) (f : Nat → Value) (W : World) : Prop where
  cell : ∀ j, j < n → W.cell? ⟨b, j, none⟩ = some (f j)
  open_ : ∀ j, W.frozen? ⟨b, j, none⟩ = false
def upd (f : Nat → Value) (k : Nat) (x : Value) : Nat → Value := fun j => if j = k then x else f j
theorem upd_same (f : Nat → Value) (k : Nat) (x : Value) : upd f k x k = x := if_pos rfl
theorem upd_ne (f : Nat → Value) {k j : Nat} (x : Value) (h : j ≠ k) : upd f k x j = f j := if_neg h
theorem BlkF.set {b n : Nat} {f : Nat → Value} {W : World} (h : BlkF b n f W) (k : Nat) (x : Value) (hk : k < n) : BlkF b n (upd f k x) (W.setCell ⟨b, k, none⟩ x) := by
  refine ⟨fun j hj => ?_, fun j => by rw [World.frozen?_setCell]; exact h.open_ j⟩
  by_cases e : j = k
  · subst e
    rw [World.cell?_setCell_same _ _ _ (h.cell j hj), upd_same]
  · rw [World.cell?_setCell_other _ _ _ _ (ne_off (Ne.symm e)), h.cell j hj, upd_ne _ _ e]
theorem BlkF.other {b b' n : Nat} {f : Nat → Value} {W : World} (h : BlkF b n f W) (k : Nat) (x : Value) (hb : b' ≠ b) : BlkF b n f (W.setCell ⟨b', k, none⟩ x) :=
  ⟨fun j hj => by rw [World.cell?_setCell_other _ _ _ _ (by intro e; injection e with e; exact hb e)]; exact h.cell j hj, fun j => by rw [World.frozen?_setCell]; exact h.open_ j⟩
theorem BlkF.below {b n : Nat} {f : Nat → Value} {W W' : World} (h : BlkF b n f W) {B : Nat} (hb : Below B W W') (hn : b < B) : BlkF b n f W' :=
  ⟨fun j hj => (hb.cell (p := ⟨b, j, none⟩) hn).trans (h.cell j hj), fun j => (hb.frozen (p := ⟨b, j, none⟩) hn).trans (h.open_ j)⟩
theorem BlkF.congr {b n : Nat} {f g : Nat → Value} {W : World} (h : BlkF b n f W) (e : ∀ j, j < n → f j = g j) : BlkF b n g W := ⟨fun j hj => by rw [h.cell j hj, e j hj], h.open_⟩
structure But (n bt : Nat) (w W : World) : Prop where
  below : Below n w W
  same : ∀ b, b < w.heap.size → b ≠ bt → (∀ j, W.cell? ⟨b, j, none⟩ = w.cell? ⟨b, j, none⟩) ∧ (∀ j, W.frozen? ⟨b, j, none⟩ = w.frozen? ⟨b, j, none⟩)
theorem But.refl (n bt : Nat) (w : World) : But n bt w w := ⟨Below.refl _ _, fun _ _ _ => ⟨fun _ => rfl, fun _ => rfl⟩⟩
theorem But.set {n bt : Nat} {w W : World} (h : But n bt w W) (b k : Nat) (x : Value) (hn : n ≤ b) (hb : b = bt ∨ w.heap.size ≤ b) : But n bt w (W.setCell ⟨b, k, none⟩ x) := by
  refine ⟨h.below.setCell hn _, fun c hc hne => ?_⟩
  have hcb : b ≠ c := by rintro rfl; rcases hb with h | h <;> omega
  refine ⟨fun j => ?_, fun j => by rw [World.frozen?_setCell]; exact (h.same c hc hne).2 j⟩
  rw [World.cell?_setCell_other _ _ _ _ (by intro e; injection e with e; exact hcb e)]
  exact (h.same c hc hne).1 j
theorem But.below' {n bt : Nat} {w W W' : World} (h : But n bt w W) (hb : Below W.heap.size W W') (hn : n ≤ w.heap.size) : But n bt w W' :=
  ⟨h.below.trans (hb.mono (Nat.le_trans hn h.below.size)), fun c hc hne => ⟨fun j => (hb.cell (p := ⟨c, j, none⟩) (Nat.lt_of_lt_of_le hc h.below.size)).trans ((h.same c hc hne).1 j), fun j => (hb.frozen (p := ⟨c, j, none⟩) (Nat.lt_of_lt_of_le hc h.below.size)).trans ((h.same c hc hne).2 j)⟩⟩
theorem But.alloc {n bt : Nat} {w W : World} (h : But n bt w W) (hn : n ≤ w.heap.size) (o : Obj) : But n bt w (W.alloc o) := h.below' (Below.alloc (Below.refl _ _) (Nat.le_refl _) _) hn
theorem But.drewN {n bt : Nat} {w W : World} (h : But n bt w W) (hn : n ≤ w.heap.size) (k : Nat) : But n bt w (W.drewN k) := h.below' ⟨rfl, rfl, rfl, Nat.le_refl _, fun _ _ => rfl⟩ hn
theorem But.drew {n bt : Nat} {w W : World} (h : But n bt w W) (hn : n ≤ w.heap.size) : But n bt w W.drew := h.below' (Below.drew (Below.refl _ _)) hn
theorem But.blkF {n bt b m : Nat} {f : Nat → Value} {w W : World} (h : But n bt w W) (hb : BlkF b m f w) (hs : b < w.heap.size) (hne : b ≠ bt) : BlkF b m f W :=
  ⟨fun j hj => ((h.same b hs hne).1 j).trans (hb.cell j hj), fun j => ((h.same b hs hne).2 j).trans (hb.open_ j)⟩
theorem But.blk {n bt b : Nat} {v : Array Value} {w W : World} (h : But n bt w W) (hb : Blk b v w) (hs : b < w.heap.size) (hne : b ≠ bt) : Blk b v W :=
  ⟨fun j hj => ((h.same b hs hne).1 j).trans (hb.cell j hj), fun j => ((h.same b hs hne).2 j).trans (hb.open_ j)⟩
def NodeAt (lo b : Nat) (t : List UInt8) (v : ByteArray) (p : Int) (W : World) : Prop :=
  lo ≤ b ∧ b < W.heap.size ∧ ((t = [] ∧ Blk b (nodeV v p) W) ∨ (t ≠ [] ∧ ∃ b2, lo ≤ b2 ∧ b2 < W.heap.size ∧ Blk b (nodeP (B t) b2) W ∧ Blk b2 (nodeV v p) W))
theorem NodeAt.but {lo n bt b : Nat} {t : List UInt8} {v : ByteArray} {p : Int} {w W : World} (h : NodeAt lo b t v p w) (hb : But n bt w W) (hl : bt < lo) : NodeAt lo b t v p W := by
  obtain ⟨h1, h2, h3⟩ := h
  refine ⟨h1, Nat.lt_of_lt_of_le h2 hb.below.size, ?_⟩
  rcases h3 with ⟨ht, h3⟩ | ⟨ht, b2, h4, h5, h6, h7⟩
  · exact .inl ⟨ht, hb.blk h3 h2 (by omega)⟩
  · exact .inr ⟨ht, b2, h4, Nat.lt_of_lt_of_le h5 hb.below.size, hb.blk h6 h2 (by omega), hb.blk h7 h5 (by omega)⟩
abbrev tailW (W : World) (b : Nat) (t v : ByteArray) (p : Int) : World :=
  ((((W.setCell ⟨b, 2, none⟩ (.string t)).alloc (.cells nodeZ 209)).setCell ⟨b, 3, none⟩ (.pointer (some ⟨W.heap.size, 0, none⟩))).setCell ⟨W.heap.size, 0, none⟩ (.string v)).setCell ⟨W.heap.size, 1, none⟩ (.int .i64 p)
theorem tail_facts {b : Nat} {t v : ByteArray} {p : Int} {W : World} (h : Blk b nodeZ W) (hlt : b < W.heap.size) : Blk b (nodeP t W.heap.size) (tailW W b t v p) ∧ Blk W.heap.size (nodeV v p) (tailW W b t v p) := by
  have hs : (W.setCell ⟨b, 2, none⟩ (.string t)).heap.size = W.heap.size := World.size_setCell ..
  have h2 := (h.set 2 (.string t) (by decide)).below (Below.alloc (Below.refl (W.setCell ⟨b, 2, none⟩ (.string t)).heap.size (W.setCell ⟨b, 2, none⟩ (.string t))) (Nat.le_refl _) (.cells nodeZ 209)) (by omega)
  have h3 := ((h2.set 3 (.pointer (some ⟨W.heap.size, 0, none⟩)) (by simp [nodeZ])).other (b' := W.heap.size) 0 (.string v) (by omega)).other (b' := W.heap.size) 1 (.int .i64 p) (by omega)
  have g := Blk.of_alloc nodeZ 209 (W.setCell ⟨b, 2, none⟩ (.string t))
  rw [hs] at g
  have g3 := ((g.other (b' := b) 3 (.pointer (some ⟨W.heap.size, 0, none⟩)) (by omega)).set 0 (.string v) (by decide)).set 1 (.int .i64 p) (by simp [nodeZ])
  refine ⟨?_, ?_⟩
  · have e : (nodeZ.setIfInBounds 2 (.string t)).setIfInBounds 3 (.pointer (some ⟨W.heap.size, 0, none⟩)) = nodeP t W.heap.size := by simp [nodeZ, nodeP]
    rw [e] at h3; exact h3
  · have e : (nodeZ.setIfInBounds 0 (.string v)).setIfInBounds 1 (.int .i64 p) = nodeV v p := by simp [nodeZ, nodeV]
    rw [e] at g3; exact g3
theorem tail_other {b bt ts : Nat} {f : Nat → Value} {t v : ByteArray} {p : Int} {W : World} (h : BlkF bt ts f W) (hlt : b < W.heap.size) (hb : b ≠ bt) (hbt : bt < W.heap.size) : BlkF bt ts f (tailW W b t v p) := by
  have hs : (W.setCell ⟨b, 2, none⟩ (.string t)).heap.size = W.heap.size := World.size_setCell ..
  have h2 := (h.other (b' := b) 2 (.string t) hb).below (Below.alloc (Below.refl (W.setCell ⟨b, 2, none⟩ (.string t)).heap.size (W.setCell ⟨b, 2, none⟩ (.string t))) (Nat.le_refl _) (.cells nodeZ 209)) (by omega)
  exact ((h2.other (b' := b) 3 (.pointer (some ⟨W.heap.size, 0, none⟩)) hb).other (b' := W.heap.size) 0 (.string v) (by omega)).other (b' := W.heap.size) 1 (.int .i64 p) (by omega)
theorem tail_but {n bt b : Nat} {t v : ByteArray} {p : Int} {w W : World} (h : But n bt w W) (hn : n ≤ w.heap.size) (hb : w.heap.size ≤ b) (hW : w.heap.size ≤ W.heap.size) : But n bt w (tailW W b t v p) :=
  ((((h.set b 2 _ (by omega) (.inr hb)).alloc hn _).set b 3 _ (by omega) (.inr hb)).set W.heap.size 0 _ (by omega) (.inr hW)).set W.heap.size 1 _ (by omega) (.inr hW)
set_option maxRecDepth 100000 in
set_option maxHeartbeats 4000000 in
theorem add_root (br bt ts n : Nat) (R T : Nat → Value) (c : UInt8) (t : List UInt8) (v : ByteArray) (p : Int) (m : Nat) (w : World)
    (ht : t.length ≤ 1000) (hts : ts ≤ 1000) (hR : BlkF br 262 R w) (hT : BlkF bt ts T w) (hm : m < ts) (hne : br ≠ bt) (hbr : br < w.heap.size) (hbt : bt < w.heap.size) (hn : n ≤ bt)
    (r2 : R 2 = .string ⟨#[]⟩) (r4 : R 4 = .slice (some ⟨bt, 0, none⟩) ts ts) (rm : R (6 + c.toNat) = .int .u8 (m : Int)) (tm : T m = .pointer none) :
    Calls Tryz.prog 209 #[.pointer (some ⟨br, 0, none⟩), .string (B (c :: t)), .string v, .int .i64 p, .pointer (some ⟨br, 0, none⟩)] w fun e w' => e = .returned (.tuple #[]) ∧
      ∃ b, w.heap.size ≤ b ∧ b < w'.heap.size ∧ BlkF bt ts (upd T m (.pointer (some ⟨b, 0, none⟩))) w' ∧ NodeAt w.heap.size b t v p w' ∧ But n bt w w' := by
  have hk : (B (c :: t)).toList.isEmpty = false := by simp
  have hk' : ¬ (B (c :: t)).toList = [] := by simp
  have c2 := hR.cell 2 (by omega)
  have c4 := hR.cell 4 (by omega)
  have cm := hR.cell (6 + c.toNat) (by have := c.toNat_lt; omega)
  rw [r2] at c2
  rw [r4] at c4
  rw [rm] at cm
  have tc := hT.cell m hm
  rw [tm] at tc
  have zr := hR.open_
  have zt := hT.open_
  obtain ⟨a, ha⟩ : ∃ a, B (c :: t) = a := ⟨_, rfl⟩
  have hsz : 0 < a.size := by rw [← ha]; simp
  have hsz' : a.size ≤ 1001 := by rw [← ha]; simp; omega
  have hc : a[0] = c := by subst ha; rfl
  have hx : a.extract 1 a.size = B t := by rw [← ha, B_extract]; simp
  rw [ha] at hk hk' ⊢
  rw [← hc] at cm
  have hb0 : (0 : Int) ≤ (a[0].toNat : Int) := by omega
  have hb1 : (a[0].toNat : Int) < 256 := by have := a[0].toNat_lt; omega
  have hb2 : a[0].toNat < 256 := by have := a[0].toNat_lt; omega
  have d1 : ∀ q, ((w.drewN q).alloc (.cells nodeZ 209)).cell? ⟨bt, m, none⟩ = some (.pointer none) := fun q => by
    rw [World.cell?_alloc_past _ _ _ (by simpa using hbt)]; exact tc
  have d3 : ∀ q x, (((w.drewN q).alloc (.cells nodeZ 209)).setCell ⟨bt, m, none⟩ x).cell? ⟨br, 4, none⟩ = some (.slice (some ⟨bt, 0, none⟩) ts ts) := fun q x => by
    rw [World.cell?_setCell_other _ _ _ _ (by intro e; injection e with e; exact hne e.symm), World.cell?_alloc_past _ _ _ (by simpa using hbr)]; exact c4
  have d2 : ∀ q x, (((w.drewN q).alloc (.cells nodeZ 209)).setCell ⟨bt, m, none⟩ x).cell? ⟨bt, m, none⟩ = some x := fun q x => World.cell?_setCell_same _ _ _ (d1 q)
  have f1 : ∀ q, ((w.drewN q).alloc (.cells nodeZ 209)).frozen? ⟨bt, m, none⟩ = false := fun q => by
    rw [World.frozen?_alloc_past _ _ _ (by simpa using hbt)]; exact zt m
  have HBT := Lib.hid hbt
  have HBR := Lib.hid hbr
  have HNE := Lib.hid hne
  have HNT := Lib.hid hn
  have HX := Lib.hid hx
  have HR := Lib.hid hR
  have HT := Lib.hid hT
  clear hx hR hT ha hc r2 r4 rm tm hbt hbr hne hn
  unfold nodeZ at d1 d2 d3 f1
  go_enter Tryz.func209, Tryz.ntmps209
  go_wp2_with fail
  go_quiet (fail)
  go_wp2_with fail
  have hW : ∃ W, (((w.drewN nq).alloc (.cells nodeZ 209)).setCell ⟨bt, m, none⟩ (.pointer (some ⟨w.heap.size, 0, none⟩))) = W := ⟨_, rfl⟩
  obtain ⟨W, hW⟩ := hW
  have e4 := d3 nq (.pointer (some ⟨w.heap.size, 0, none⟩))
  have em := d2 nq (.pointer (some ⟨w.heap.size, 0, none⟩))
  have eB : Blk w.heap.size nodeZ W := by
    rw [← hW]
    exact (Blk.of_alloc nodeZ 209 (w.drewN nq)).other (b' := bt) m (.pointer (some ⟨w.heap.size, 0, none⟩)) (Nat.ne_of_lt HBT.out)
  have eT : BlkF bt ts (upd T m (.pointer (some ⟨w.heap.size, 0, none⟩))) W := by
    rw [← hW]
    refine BlkF.set ?_ m _ hm
    exact HT.out.below (B := w.heap.size) (Below.alloc (⟨rfl, rfl, rfl, Nat.le_refl _, fun _ _ => rfl⟩ : Below w.heap.size w (w.drewN nq)) (Nat.le_refl _) _) HBT.out
  have eU : But n bt w W := by
    rw [← hW]
    have hn' : n ≤ w.heap.size := Nat.le_of_lt (Nat.lt_of_le_of_lt HNT.out HBT.out)
    exact ((((But.refl n bt w).drewN hn' nq).alloc hn' _).set bt m _ HNT.out (.inl rfl))
  have eS : W.heap.size = w.heap.size + 1 := by rw [← hW]; simp
  unfold nodeZ at hW
  rw [hW] at e4 em
  refine wp_world hW ?_
  clear d1 d2 d3 f1 c2 c4 tc cm
  have HW := Lib.hid hW
  have HB := Lib.hid eB
  have HT' := Lib.hid eT
  have HU := Lib.hid eU
  clear hW eB eT eU HT HR zr zt
  have hb3 : 1 ≤ a.size := by omega
  have hb4 : (1 : Int) ≤ (a.size : Int) := by omega
  go_still_tail 12, (by kernel_rfl)
  change wpList _ _ _ _ _ W.drew
  have hb' : Below W.heap.size W W.drew := Below.drew (Below.refl _ _)
  have HB2 := Lib.hid (HB.out.below hb' (by omega))
  have HT2 := Lib.hid (HT'.out.below hb' (by have := HBT.out; omega))
  have HU2 := Lib.hid (HU.out.drew (Nat.le_of_lt (Nat.lt_of_le_of_lt HNT.out HBT.out)))
  have eS2 : W.drew.heap.size = w.heap.size + 1 := eS
  generalize W.drew = W2 at HB2 HT2 HU2 eS2 ⊢
  clear hb' HB HT' HU HW e4 em eS
  have hn' : n ≤ w.heap.size := Nat.le_of_lt (Nat.lt_of_le_of_lt HNT.out HBT.out)
  by_cases htl : t = []
  · subst htl
    have hx2 : a.extract 1 a.size = ⟨#[]⟩ := HX.out
    have C := Lib.hid (add_leaf w.heap.size v p (.pointer (some ⟨br, 0, none⟩)) W2 HB2.out)
    go_wp2_with fail
    rw [hx2]
    refine C.out.mono ?_
    rintro e w' ⟨rfl, hw⟩
    have hS3 : w'.heap.size = w.heap.size + 1 := by rw [hw]; simpa using eS2
    have hN : Blk w.heap.size (nodeV v p) ((W2.setCell ⟨w.heap.size, 0, none⟩ (.string v)).setCell ⟨w.heap.size, 1, none⟩ (.int .i64 p)) := by
      have h := (HB2.out.set 0 (.string v) (by decide)).set 1 (.int .i64 p) (by simp [nodeZ])
      simpa only [nodeZ, nodeV, List.setIfInBounds_toArray, List.set_cons_succ, List.set_cons_zero] using h
    have hT3 := (HT2.out.other (b' := w.heap.size) 0 (.string v) (by have := HBT.out; omega)).other (b' := w.heap.size) 1 (.int .i64 p) (by have := HBT.out; omega)
    have hU3 := (HU2.out.set w.heap.size 0 (.string v) hn' (.inr (Nat.le_refl _))).set w.heap.size 1 (.int .i64 p) hn' (.inr (Nat.le_refl _))
    rw [← hw] at hN hT3 hU3
    have HF := Lib.hid (And.intro hN (And.intro hT3 hU3))
    clear hN hT3 hU3 hw
    have HS3 := Lib.hid hS3
    clear hS3 eS2
    go_wp2_with fail
    go_end0
    exact ⟨rfl, w.heap.size, Nat.le_refl _, by have := HS3.out; omega, HF.out.2.1, ⟨Nat.le_refl _, by have := HS3.out; omega, .inl ⟨rfl, HF.out.1⟩⟩, HF.out.2.2⟩
  · have htl' : ¬ (B t).toList = [] := by simpa using htl
    have C := Lib.hid (add_tail w.heap.size (B t) v p (.pointer (some ⟨br, 0, none⟩)) W2 htl' HB2.out (by omega))
    have hx2 := HX.out
    go_wp2_with fail
    rw [hx2]
    refine C.out.mono ?_
    rintro e w' ⟨rfl, hw⟩
    have hlt : w.heap.size < W2.heap.size := by omega
    have hS3 : w'.heap.size = w.heap.size + 2 := by rw [hw]; simp; omega
    have hN := tail_facts (t := B t) (v := v) (p := p) HB2.out hlt
    have hT3 := tail_other (t := B t) (v := v) (p := p) HT2.out hlt (by have := HBT.out; omega) (by have := HBT.out; omega)
    have hU3 : But n bt w _ := tail_but (t := B t) (v := v) (p := p) HU2.out hn' (Nat.le_refl _) (by omega)
    have hw2 : w' = tailW W2 w.heap.size (B t) v p := hw
    rw [← hw2] at hN hT3 hU3
    have HF := Lib.hid (And.intro hN (And.intro hT3 hU3))
    clear hN hT3 hU3 hw hw2
    have HS3 := Lib.hid hS3
    have HS2 := Lib.hid eS2
    clear hS3 eS2 hlt
    go_wp2_with fail
    go_end0
    exact ⟨rfl, w.heap.size, Nat.le_refl _, by have := HS3.out; omega, HF.out.2.1, ⟨Nat.le_refl _, by have := HS3.out; omega, .inr ⟨htl, W2.heap.size, by have := HS2.out; omega, by have := HS2.out; have := HS3.out; omega, HF.out.1.1, HF.out.1.2⟩⟩, HF.out.2.2⟩
end Go.Proofs.YtbdcghbafopjjaaGreatDoor.Hand
end

section
namespace Go.Proofs.YtbdcghbafopjjaaGreatDoor.Hand
open Go.RowKit Go.Proofs.YtbdcghbafopjjaaGreatDoor.Pb
def usedB (l : List UInt8) (x : Nat) : Bool := l.any fun c => c.toNat == x
def cntU (l : List UInt8) : Nat → Nat
  | 0 => 0
  | x + 1 => cntU l x + if usedB l x = true then 1 else 0
theorem cnt_le (l : List UInt8) : ∀ x, cntU l x ≤ x := by
  intro x
  induction x with
  | zero => exact Nat.le_refl _
  | succ x ih => simp only [cntU]; split <;> omega
theorem cnt_mono (l : List UInt8) {x y : Nat} (h : x ≤ y) : cntU l x ≤ cntU l y := by
  induction h with
  | refl => exact Nat.le_refl _
  | step h ih => exact Nat.le_trans ih (by simp only [cntU]; omega)
theorem cnt_lt (l : List UInt8) {x y : Nat} (hu : usedB l x = true) (h : x < y) : cntU l x < cntU l y := by
  have := cnt_mono l (show x + 1 ≤ y from h)
  simp only [cntU, hu, if_true] at this
  omega
theorem used_append (l : List UInt8) (c : UInt8) (x : Nat) : usedB (l ++ [c]) x = (usedB l x || c.toNat == x) := by simp [usedB]
def u8v (b : Bool) : Value := .int .u8 (if b = true then 1 else 0)
def rootF (l : List UInt8) (ts : Int) (j : Nat) : Value :=
  if j = 0 then .string ⟨#[]⟩ else if j = 1 then .int .i64 0 else if j = 2 then .string ⟨#[]⟩ else if j = 3 then .pointer none else if j = 4 then .slice none 0 0 else if j = 5 then .int .i64 ts
  else u8v (usedB l (j - 6))
def zero82 : Array Value := #[.string ⟨#[]⟩, .int .i64 0, .string ⟨#[]⟩, .pointer none, .slice none 0 0, .int .i64 0] ++ Array.replicate 256 (.int .u8 0)
theorem zero82_at (j : Nat) (h : j < 262) : zero82[j]? = some (rootF [] 0 j) := by
  by_cases h6 : j < 6
  · have : j = 0 ∨ j = 1 ∨ j = 2 ∨ j = 3 ∨ j = 4 ∨ j = 5 := by omega
    unfold zero82
    rw [Array.getElem?_append_left (by simpa using h6)]
    rcases this with rfl | rfl | rfl | rfl | rfl | rfl <;> rfl
  · unfold zero82
    rw [Array.getElem?_append_right (by simp; omega)]
    have : rootF [] 0 j = .int .u8 0 := by
      unfold rootF
      rw [if_neg (by omega), if_neg (by omega), if_neg (by omega), if_neg (by omega), if_neg (by omega), if_neg (by omega)]
      rfl
    rw [this, Array.getElem?_replicate, if_pos (by simp; omega)]
theorem zero82_is : ∀ w, (zeroValue 211).run Tryz.prog w = .ok (.agg zero82) w := fun _ => by kernel_rfl
def flatKV (kv : List (List UInt8 × ByteArray)) : List ByteArray := kv.flatMap fun x => [B x.1, x.2]
theorem flatKV_length (kv : List (List UInt8 × ByteArray)) : (flatKV kv).length = 2 * kv.length := by
  induction kv with
  | nil => rfl
  | cons x r ih =>
    have : flatKV (x :: r) = B x.1 :: x.2 :: flatKV r := rfl
    rw [this]; simp; omega
theorem flatKV_key (kv : List (List UInt8 × ByteArray)) : ∀ q (h : q < kv.length), (flatKV kv)[2 * q]? = some (B kv[q].1) := by
  induction kv with
  | nil => intro q h; simp at h
  | cons x r ih =>
    intro q h
    have : flatKV (x :: r) = B x.1 :: x.2 :: flatKV r := rfl
    rw [this]
    cases q with
    | zero => rfl
    | succ q => rw [show 2 * (q + 1) = 2 * q + 1 + 1 by omega, List.getElem?_cons_succ, List.getElem?_cons_succ]; exact ih q (by simpa using h)
theorem flatKV_val (kv : List (List UInt8 × ByteArray)) : ∀ q (h : q < kv.length), (flatKV kv)[2 * q + 1]? = some kv[q].2 := by
  induction kv with
  | nil => intro q h; simp at h
  | cons x r ih =>
    intro q h
    have : flatKV (x :: r) = B x.1 :: x.2 :: flatKV r := rfl
    rw [this]
    cases q with
    | zero => rfl
    | succ q => rw [show 2 * (q + 1) + 1 = 2 * q + 1 + 1 + 1 by omega, List.getElem?_cons_succ, List.getElem?_cons_succ]; exact ih q (by simpa using h)
def strV (l : List ByteArray) (j : Nat) : Value := .string (l.getD j ⟨#[]⟩)
theorem strV_at {l : List ByteArray} {j : Nat} {s : ByteArray} (h : l[j]? = some s) : strV l j = .string s := by
  unfold strV; rw [List.getD_eq_getElem?_getD, h]; rfl
def keysU (kv : List (List UInt8 × ByteArray)) (q : Nat) : List UInt8 := (kv.take q).flatMap fun x => x.1
theorem keysU_succ (kv : List (List UInt8 × ByteArray)) (q : Nat) (h : q < kv.length) : keysU kv (q + 1) = keysU kv q ++ kv[q].1 := by
  unfold keysU
  rw [List.take_succ_eq_append_getElem h, List.flatMap_append]
  simp
theorem rootF_mark (l : List UInt8) (c : UInt8) (ts : Int) (j : Nat) : upd (rootF l ts) (6 + c.toNat) (.int .u8 1) j = rootF (l ++ [c]) ts j := by
  by_cases h : j = 6 + c.toNat
  · subst h
    rw [upd_same]
    unfold rootF
    rw [if_neg (by omega), if_neg (by omega), if_neg (by omega), if_neg (by omega), if_neg (by omega), if_neg (by omega), used_append]
    simp [u8v]
  · rw [upd_ne _ _ h]
    unfold rootF
    by_cases h6 : j < 6
    · have : j = 0 ∨ j = 1 ∨ j = 2 ∨ j = 3 ∨ j = 4 ∨ j = 5 := by omega
      rcases this with rfl | rfl | rfl | rfl | rfl | rfl <;> rfl
    · have e : (c.toNat == j - 6) = false := by rw [beq_eq_false_iff_ne]; omega
      rw [used_append, e, Bool.or_false]
theorem rootF_map (l : List UInt8) (ts : Int) (k : Nat) : rootF l ts (6 + k) = u8v (usedB l k) := by
  unfold rootF
  rw [if_neg (by omega), if_neg (by omega), if_neg (by omega), if_neg (by omega), if_neg (by omega), if_neg (by omega), Nat.add_sub_cancel_left]
theorem rootF_5 (l : List UInt8) (ts : Int) : rootF l ts 5 = .int .i64 ts := rfl
theorem rootF_sz (l : List UInt8) (ts ts' : Int) (j : Nat) : upd (rootF l ts) 5 (.int .i64 ts') j = rootF l ts' j := by
  unfold upd
  by_cases h : j = 5
  · subst h; rw [if_pos rfl]; rfl
  · rw [if_neg h]; unfold rootF; rw [if_neg h, if_neg h]
def mapV (l : List UInt8) (ts x : Nat) : Value := .int .u8 ((if usedB l x = true then cntU l x else ts : Nat) : Int)
def mapF (l : List UInt8) (ts k j : Nat) : Value := if j < 6 then rootF l ts j else if j - 6 < k then mapV l ts (j - 6) else u8v (usedB l (j - 6))
theorem mapF_5 (l : List UInt8) (ts k : Nat) : mapF l ts k 5 = .int .i64 (ts : Int) := rfl
theorem mapF_4 (l : List UInt8) (ts k : Nat) : mapF l ts k 4 = .slice none 0 0 := rfl
theorem info_node : (Tryz.prog.info? 206).map (fun i => (i.zero, i.size, i.bytes)) = some (some (.pointer none), 1, 8) := by kernel_rfl
def replF (l : List UInt8) (ts bt : Nat) : Nat → Value := upd (mapF l ts 256) 4 (.slice (some ⟨bt, 0, none⟩) ts ts)
theorem replF_1 (l : List UInt8) (ts bt : Nat) : replF l ts bt 1 = .int .i64 0 := rfl
theorem replF_4 (l : List UInt8) (ts bt : Nat) : replF l ts bt 4 = .slice (some ⟨bt, 0, none⟩) ts ts := rfl
theorem replF_5 (l : List UInt8) (ts bt : Nat) : replF l ts bt 5 = .int .i64 (ts : Int) := rfl
theorem replF_map (l : List UInt8) (ts bt x : Nat) (h : x < 256) : replF l ts bt (6 + x) = mapV l ts x := by
  unfold replF
  rw [upd_ne _ _ (by omega)]
  unfold mapF
  rw [if_neg (by omega), if_pos (by omega), Nat.add_sub_cancel_left]
structure TrieSt (n br bt lo ts : Nat) (U : List UInt8) (kv : List (List UInt8 × ByteArray)) (q : Nat) (w W : World) : Prop where
  root : BlkF br 262 (replF U ts bt) W
  tab : ∃ T, BlkF bt ts T W ∧ (∀ j (h : j < kv.length), j < q → ∀ c t, kv[j].1 = c :: t → ∃ (b : Nat) (p : Int), 0 < p ∧ T (cntU U c.toNat) = .pointer (some ⟨b, 0, none⟩) ∧ NodeAt lo b t kv[j].2 p W) ∧
    (∀ x, x < ts → (∀ j (h : j < kv.length), j < q → ∀ c t, kv[j].1 = c :: t → cntU U c.toNat ≠ x) → T x = .pointer none)
  below : Below n w W
  size : lo ≤ W.heap.size
theorem NodeAt.mono {lo lo' b : Nat} {t : List UInt8} {v : ByteArray} {p : Int} {W : World} (h : NodeAt lo b t v p W) (hl : lo' ≤ lo) : NodeAt lo' b t v p W := by
  obtain ⟨h1, h2, h3⟩ := h
  refine ⟨by omega, h2, ?_⟩
  rcases h3 with h3 | ⟨ht, b2, h4, h5⟩
  · exact .inl h3
  · exact .inr ⟨ht, b2, by omega, h5⟩
theorem used_of {kv : List (List UInt8 × ByteArray)} {j : Nat} {c : UInt8} {t : List UInt8} (h : j < kv.length) (e : kv[j].1 = c :: t) : usedB (keysU kv kv.length) c.toNat = true := by
  unfold usedB keysU
  rw [List.take_length, List.any_eq_true]
  exact ⟨c, List.mem_flatMap.2 ⟨kv[j], List.getElem_mem h, by rw [e]; simp⟩, by simp⟩
theorem cnt_inj {l : List UInt8} {x y : Nat} (hx : usedB l x = true) (hy : usedB l y = true) (h : x ≠ y) : cntU l x ≠ cntU l y := by
  rcases Nat.lt_or_gt_of_ne h with h | h
  · have := cnt_lt l hx h; omega
  · have := cnt_lt l hy h; omega
def Heads (kv : List (List UInt8 × ByteArray)) : Prop := (∀ x ∈ kv, x.1 ≠ []) ∧ ∀ i j (hi : i < kv.length) (hj : j < kv.length), i ≠ j → kv[i].1.head? ≠ kv[j].1.head?
theorem Heads.ne {kv : List (List UInt8 × ByteArray)} (h : Heads kv) {i j : Nat} (hi : i < kv.length) (hj : j < kv.length) (hne : i ≠ j) {c d : UInt8} {t u : List UInt8} (e : kv[i].1 = c :: t) (f : kv[j].1 = d :: u) : c.toNat ≠ d.toNat := by
  intro he
  have := h.2 i j hi hj hne
  rw [e, f] at this
  exact this (by rw [UInt8.toNat_inj.1 he]; rfl)
theorem TrieSt.fresh {n br bt lo ts q : Nat} {kv : List (List UInt8 × ByteArray)} {w W : World} (h : TrieSt n br bt lo ts (keysU kv kv.length) kv q w W) (hh : Heads kv) (hq : q < kv.length) {c : UInt8} {t : List UInt8} (e : kv[q].1 = c :: t)
    {T : Nat → Value} (hE : ∀ x, x < ts → (∀ j (h : j < kv.length), j < q → ∀ c t, kv[j].1 = c :: t → cntU (keysU kv kv.length) c.toNat ≠ x) → T x = .pointer none) (hm : cntU (keysU kv kv.length) c.toNat < ts) : T (cntU (keysU kv kv.length) c.toNat) = .pointer none :=
  hE _ hm fun j hj hjq d u f => cnt_inj (used_of hj f) (used_of hq e) (hh.ne hj hq (by omega) f e)
theorem TrieSt.next {n br bt lo ts q b : Nat} {kv : List (List UInt8 × ByteArray)} {w W W' : World} {p : Int} (h : TrieSt n br bt lo ts (keysU kv kv.length) kv q w W) (hh : Heads kv) (hq : q < kv.length) {c : UInt8} {t : List UInt8} (e : kv[q].1 = c :: t)
    {T : Nat → Value} (hN : ∀ j (h : j < kv.length), j < q → ∀ c t, kv[j].1 = c :: t → ∃ (b : Nat) (p : Int), 0 < p ∧ T (cntU (keysU kv kv.length) c.toNat) = .pointer (some ⟨b, 0, none⟩) ∧ NodeAt lo b t kv[j].2 p W)
    (hE : ∀ x, x < ts → (∀ j (h : j < kv.length), j < q → ∀ c t, kv[j].1 = c :: t → cntU (keysU kv kv.length) c.toNat ≠ x) → T x = .pointer none) (hp : 0 < p) (hbt : bt < lo) (hbr : br < W.heap.size) (hne : br ≠ bt)
    (hT' : BlkF bt ts (upd T (cntU (keysU kv kv.length) c.toNat) (.pointer (some ⟨b, 0, none⟩))) W') (hB : NodeAt W.heap.size b t kv[q].2 p W') (hU : But n bt W W') : TrieSt n br bt lo ts (keysU kv kv.length) kv (q + 1) w W' := by
  refine ⟨hU.blkF h.root hbr hne, ⟨_, hT', ?_, ?_⟩, h.below.trans hU.below, Nat.le_trans h.size hU.below.size⟩
  · intro j hj hjq d u f
    by_cases hjq' : j = q
    · subst hjq'
      rw [e] at f
      obtain ⟨rfl, rfl⟩ := List.cons.inj f
      exact ⟨b, p, hp, upd_same _ _ _, hB.mono h.size⟩
    · obtain ⟨b', p', h1, h2, h3⟩ := hN j hj (by omega) d u f
      exact ⟨b', p', h1, by rw [upd_ne _ _ (cnt_inj (used_of hj f) (used_of hq e) (hh.ne hj hq hjq' f e))]; exact h2, h3.but hU hbt⟩
  · intro x hx hxe
    have hxm : x ≠ cntU (keysU kv kv.length) c.toNat := fun e' => hxe q hq (by omega) c t e e'.symm
    rw [upd_ne _ _ hxm]
    exact hE x hx fun j hj hjq => hxe j hj (by omega)
theorem made_at (n j : Nat) (h : j < n) : (madeCells #[Value.pointer none] n)[j]? = some (.pointer none) := by
  unfold madeCells
  rw [Array.getElem?_map, Array.getElem?_range, if_pos h]
  simp [Nat.mod_one]
theorem mapF_zero (l : List UInt8) (ts j : Nat) : rootF l ts j = mapF l ts 0 j := by
  unfold mapF
  by_cases h : j < 6
  · rw [if_pos h]
  · rw [if_neg h, if_neg (by omega)]
    obtain ⟨k, rfl⟩ : ∃ k, j = 6 + k := ⟨j - 6, by omega⟩
    rw [rootF_map, Nat.add_sub_cancel_left]
theorem mapF_step (l : List UInt8) (ts k j : Nat) : upd (mapF l ts k) (6 + k) (mapV l ts k) j = mapF l ts (k + 1) j := by
  by_cases h : j = 6 + k
  · subst h
    rw [upd_same]
    unfold mapF
    rw [if_neg (by omega), if_pos (by omega), Nat.add_sub_cancel_left]
  · rw [upd_ne _ _ h]
    unfold mapF
    by_cases h6 : j < 6
    · rw [if_pos h6, if_pos h6]
    · rw [if_neg h6, if_neg h6]
      by_cases hk : j - 6 < k
      · rw [if_pos hk, if_pos (by omega)]
      · rw [if_neg hk, if_neg (by omega)]
section
variable {P : Program}
theorem wpList_load_by {ops : Array Oper} {rest : List Oper} {o : Oper} {a : Act} {w : World} {Q : Exit → Act → World → Prop} (hgd : o.guard = none) (ty : TypeId) (x : Operand) (ho : o.op = .load ty x)
    (adr : Addr) (v : Value) (hx : a.eval x = .pointer (some adr)) (hrun : (loadVar ty adr).run P w = .ok v w) (h : wpList P ops Q rest (a.put o.dst v) w) : wpList P ops Q (o :: rest) a w :=
  wpList_plain hgd fun _ hK => by
    unfold Oper.wp execOp
    simp only [ho, hx, Instr.loadAt, Instr.sureAddr, Sem.run_bind, Sem.run_pure, Result.andThen_ok, hrun]
    exact hK _ _ h
end
def arrF (f : Nat → Value) (o : Nat) : Array Value := Array.ofFn (n := 256) fun i => f (o + i.val)
theorem arrF_at (f : Nat → Value) (o j : Nat) (h : j < 256) : (arrF f o)[j]? = some (f (o + j)) := by
  unfold arrF; rw [Array.getElem?_ofFn, dif_pos h]
theorem load256 {b n o : Nat} {f : Nat → Value} {W : World} (h : BlkF b n f W) (ho : o + 256 ≤ n) : (loadVar 169 ⟨b, o, none⟩).run Tryz.prog W = .ok (.agg (arrF f o)) W := by
  have hl : (loadCells ⟨b, o, none⟩ (arrF f o).toList.length).run Tryz.prog W = .ok (arrF f o).toList.toArray W :=
    run_loadCells_list (P := Tryz.prog) W ⟨b, o, none⟩ (arrF f o).toList (fun j v hv => by
      have hadd : (⟨b, o, none⟩ : Addr).add j = ⟨b, o + j, none⟩ := by unfold Addr.add; split <;> simp_all
      have hj : j < 256 := by
        rcases Nat.lt_or_ge j 256 with h' | h'
        · exact h'
        · rw [List.getElem?_eq_none (by unfold arrF; rw [Array.length_toList, Array.size_ofFn]; exact h')] at hv; cases hv
      rw [Array.getElem?_toList, arrF_at f o j hj] at hv
      rw [hadd, h.cell (o + j) (by omega), ← hv])
  have hagg : (isAgg 169).run Tryz.prog W = .ok true W := by
    unfold isAgg
    rw [Sem.run_bind, run_underlying Tryz.underlying169 W]
    rfl
  obtain ⟨i, hi⟩ := info_of_underlying (P := Tryz.prog) Tryz.underlying169
  have hc : Tryz.prog.cellsOf 169 = 256 := by kernel_rfl
  have hsz := run_sizeOf (P := Tryz.prog) W hi
  rw [hc] at hsz
  have hlen : (arrF f o).toList.length = 256 := by unfold arrF; rw [Array.length_toList, Array.size_ofFn]
  rw [hlen] at hl
  unfold loadVar
  rw [Sem.run_bind, hagg]
  simp only [Result.andThen_ok, if_true, Sem.run_bind, hsz, hl, Sem.run_pure, Array.toArray_toList]
theorem index256 {f : Nat → Value} {o j : Nat} (h : j < 256) (W : World) : (Instr.index 169 (.agg (arrF f o)) (.int .i64 (j : Int))).run Tryz.prog W = .ok (f (o + j)) W := by
  obtain ⟨i, hi⟩ := info_of_underlying (P := Tryz.prog) Tryz.underlying5
  exact run_index_agg (j := j) Tryz.underlying169 hi (by kernel_rfl) (by kernel_rfl) h (arrF_at f o j h)
def Made (kv : List (List UInt8 × ByteArray)) (w w' : World) : Prop := ∃ bt ts, ts = cntU (keysU kv kv.length) 256 ∧ ts ≤ 200 ∧ w.heap.size < bt ∧ TrieSt w.heap.size w.heap.size bt (bt + 1) ts (keysU kv kv.length) kv kv.length w w'
set_option maxRecDepth 100000 in
set_option maxHeartbeats 16000000 in
theorem make_gen (bo cap : Nat) (kv : List (List UInt8 × ByteArray)) (w : World) (hn : kv.length ≤ 100) (hts200 : cntU (keysU kv kv.length) 256 ≤ 200) (hk : ∀ x ∈ kv, x.1.length ≤ 1000) (hh : Heads kv)
    (ho : BlkF bo (2 * kv.length) (strV (flatKV kv)) w) (hbo : bo < w.heap.size) :
    Calls Tryz.prog 195 #[.slice (some ⟨bo, 0, none⟩) (2 * kv.length) cap] w fun e w' => e = .returned (.pointer (some ⟨w.heap.size, 0, none⟩)) ∧ Made kv w w' := by
  have hz := zero82_is
  have HO := Lib.hid ho
  have HBO := Lib.hid hbo
  have hR0 : BlkF w.heap.size 262 (rootF [] 0) (w.alloc (.cells zero82 211)) :=
    ⟨fun j hj => (World.cell?_alloc_at _ _ _ j rfl).trans (zero82_at j hj), fun j => World.frozen?_alloc_at _ _ _ j rfl⟩
  have HR0 := Lib.hid hR0
  have HB0 := Lib.hid (Below.alloc (Below.refl w.heap.size w) (Nat.le_refl _) (.cells zero82 211))
  clear ho hbo hR0
  go_enter Tryz.func195, Tryz.ntmps195
  go_upto_block 0 with fail
  clear hz
  go_cut [] (fun wx => Hid (BlkF w.heap.size 262 (rootF (keysU kv kv.length) 0) wx) ∧ Hid (Below w.heap.size w wx))
  case first =>
    go_wp2_with fail
    go_loopw [4] (fun i wr => ∃ q : Nat, q ≤ kv.length ∧ i = .int .i64 (2 * (q : Int)) ∧ Hid (BlkF w.heap.size 262 (rootF (keysU kv q) 0) wr) ∧ Hid (Below w.heap.size w wr)) (fun i _ => 2 * kv.length - (intOf i).toNat)
    case atStart => exact ⟨0, Nat.zero_le _, rfl, HR0, HB0⟩
    case round =>
      obtain ⟨q, hq, rfl, HR, HB⟩ := hrel
      by_cases hlt : q < kv.length
      · have hks := hk _ (List.getElem_mem hlt)
        have hkey := (HO.out.below HB.out HBO.out).cell (2 * q) (by omega)
        rw [strV_at (flatKV_key kv q hlt)] at hkey
        have hsucc := keysU_succ kv q hlt
        obtain ⟨key, hkey'⟩ : ∃ k, kv[q].1 = k := ⟨_, rfl⟩
        rw [hkey'] at hks hkey hsucc
        obtain ⟨K, hK⟩ : ∃ K, B key = K := ⟨_, rfl⟩
        rw [hK] at hkey
        have hKs : K.size = key.length := by rw [← hK]; simp
        have hKz : K.size ≤ 1000 := by omega
        have HK := Lib.hid hK
        have HKS := Lib.hid hKs
        have HS := Lib.hid hsucc
        clear hkey' hK hKs hsucc hks
        go_wp2_with fail
        clear hkey
        go_loopw [6] (fun i wr => ∃ k : Nat, k ≤ K.size ∧ i = .int .i64 (k : Int) ∧ Hid (BlkF w.heap.size 262 (rootF (keysU kv q ++ key.take k) 0) wr) ∧ Hid (Below w.heap.size w wr)) (fun i _ => K.size - (intOf i).toNat)
        case atStart => exact ⟨0, Nat.zero_le _, rfl, Lib.hid (by rw [List.take_zero, List.append_nil]; exact HR.out), HB⟩
        case round =>
          clear HR HB
          obtain ⟨k, hk', rfl, HR, HB⟩ := hrel
          by_cases hlk : k < K.size
          · have hb0 : (0 : Int) ≤ (K[k].toNat : Int) := by omega
            have hb1 : (K[k].toNat : Int) < 256 := by have := K[k].toNat_lt; omega
            have hb2 : K[k].toNat < 256 := by have := K[k].toNat_lt; omega
            have hc := HR.out.cell (6 + K[k].toNat) (by omega)
            have hf := HR.out.open_
            have htk : key.take (k + 1) = key.take k ++ [K[k]] := by
              have hk2 : k < key.length := by rw [← HKS.out]; exact hlk
              have e : K[k] = key[k] := by
                have h := HK.out
                subst h
                rfl
              rw [List.take_succ_eq_append_getElem hk2, e]
            have hstep : ∀ W, BlkF w.heap.size 262 (rootF (keysU kv q ++ key.take k) 0) W → Below w.heap.size w W → BlkF w.heap.size 262 (rootF (keysU kv q ++ key.take (k + 1)) 0) (W.setCell ⟨w.heap.size, 6 + K[k].toNat, none⟩ (.int .u8 1)) ∧ Below w.heap.size w (W.setCell ⟨w.heap.size, 6 + K[k].toNat, none⟩ (.int .u8 1)) := by
              intro W h hb
              rw [htk, ← List.append_assoc]
              exact ⟨(h.set _ _ (by omega)).congr fun j _ => rootF_mark _ _ _ j, hb.setCell (Nat.le_refl _) _⟩
            have HST := Lib.hid hstep
            clear hstep htk
            go_wp2_with fail
            go_still_tail 7, (by kernel_rfl)
            change wpList _ _ _ _ _ wr.drew
            have hd : Below (w.heap.size + 1) wr wr.drew := Below.drew (Below.refl _ _)
            have HR2 := Lib.hid (HR.out.below hd (by omega))
            have HB2 := Lib.hid (HB.out.drew)
            have hc2 := HR2.out.cell (6 + K[k].toNat) (by omega)
            have hf2 := HR2.out.open_
            clear hd hc hf
            generalize wr.drew = W2 at HR2 HB2 hc2 hf2 ⊢
            go_wp2_with fail
            go_roundw
            case rel => exact ⟨k + 1, by omega, by go_num, Lib.hid (HST.out _ HR2.out HB2.out).1, Lib.hid (HST.out _ HR2.out HB2.out).2⟩
            case measure => simp [intOf]; omega
          · obtain rfl : k = K.size := by omega
            have HR3 : Hid (BlkF w.heap.size 262 (rootF (keysU kv (q + 1)) 0) wr) := Lib.hid (by
              have h := HR.out
              rw [HKS.out, List.take_length] at h
              rw [HS.out]; exact h)
            clear HR
            go_wp2_with fail
            go_roundw
            case rel => exact ⟨q + 1, by omega, by go_num, HR3, HB⟩
            case measure => simp [intOf]; omega
      · obtain rfl : q = kv.length := by omega
        go_wp2_with fail
        go_meet
        case rel => exact ⟨HR, HB⟩
  case rest =>
    clear HR0 HB0
    obtain ⟨HR, HB⟩ := hcut
    obtain ⟨U, hU⟩ : ∃ U, keysU kv kv.length = U := ⟨_, rfl⟩
    rw [hU] at HR
    have HL := Lib.hid (load256 (o := 6) HR.out (by omega))
    have HU := Lib.hid hU
    clear hU
    go_upto_block 4 with (with_reducible refine wpList_load_by rfl 169 (.tmp 39) rfl ⟨w.heap.size, 6, none⟩ _ rfl HL.out ?_)
    clear HL
    go_cut [] (fun wx => Hid (BlkF w.heap.size 262 (rootF U (cntU U 256)) wx) ∧ Hid (Below w.heap.size w wx))
    case first =>
      go_wp2_with fail
      go_loopw [41] (fun i wr => ∃ k : Nat, k ≤ 256 ∧ i = .int .i64 (k : Int) ∧ Hid (BlkF w.heap.size 262 (rootF U (cntU U k)) wr) ∧ Hid (Below w.heap.size w wr)) (fun i _ => 256 - (intOf i).toNat)
      case atStart => exact ⟨0, Nat.zero_le _, rfl, HR, HB⟩
      case round =>
        clear HR HB
        obtain ⟨k, hk', rfl, HR, HB⟩ := hrel
        by_cases hlk : k < 256
        · have hix := index256 (f := rootF U 0) (o := 6) hlk
          rw [rootF_map U 0 k] at hix
          have hcl := cnt_le U k
          have h5 := HR.out.cell 5 (by omega)
          rw [rootF_5] at h5
          have hf := HR.out.open_
          have hstep : ∀ x : Nat, x = cntU U (k + 1) → Hid (BlkF w.heap.size 262 (rootF U (cntU U (k + 1))) (wr.setCell ⟨w.heap.size, 5, none⟩ (.int .i64 (x : Int)))) ∧ Hid (Below w.heap.size w (wr.setCell ⟨w.heap.size, 5, none⟩ (.int .i64 (x : Int)))) := by
            rintro x rfl
            exact ⟨Lib.hid ((HR.out.set 5 _ (by omega)).congr fun j _ => rootF_sz U _ _ j), Lib.hid (HB.out.setCell (Nat.le_refl _) _)⟩
          have HST := Lib.hid hstep
          clear hstep
          cases hu : usedB U k with
          | true =>
            rw [hu] at hix
            have hx : cntU U k + 1 = cntU U (k + 1) := by simp [cntU, hu]
            obtain ⟨q, hq⟩ : ∃ q, cntU U k = q := ⟨_, rfl⟩
            rw [hq] at hcl h5 hx
            have HX := Lib.hid hx
            unfold u8v at hix
            clear hu hx hq HR
            go_wp2_with fail
            go_roundw
            case rel => exact ⟨k + 1, by omega, by go_num, by exact (HST.out (q + 1) HX.out).1, (HST.out (q + 1) HX.out).2⟩
            case measure => simp [intOf]; omega
          | false =>
            rw [hu] at hix
            have hx : cntU U k = cntU U (k + 1) := by simp [cntU, hu]
            obtain ⟨q, hq⟩ : ∃ q, cntU U k = q := ⟨_, rfl⟩
            rw [hq] at hcl h5 hx
            have HX := Lib.hid hx
            unfold u8v at hix
            clear hu hx hq HR
            go_wp2_with fail
            go_roundw
            case rel => exact ⟨k + 1, by omega, by go_num, by exact (HST.out q HX.out).1, (HST.out q HX.out).2⟩
            case measure => simp [intOf]; omega
        · obtain rfl : k = 256 := by omega
          go_wp2_with fail
          go_meet
          case rel => exact ⟨HR, HB⟩
    case rest =>
      clear HR HB
      obtain ⟨HR, HB⟩ := hcut
      obtain ⟨ts, hts⟩ : ∃ ts, cntU U 256 = ts := ⟨_, rfl⟩
      have hsm := hts200
      rw [HU.out, hts] at hsm
      rw [hts] at HR
      have HTS := Lib.hid hts
      clear hts
      have HL := Lib.hid (load256 (o := 6) HR.out (by omega))
      go_upto_block 6 with (with_reducible refine wpList_load_by rfl 169 (.tmp 56) rfl ⟨w.heap.size, 6, none⟩ _ rfl HL.out ?_)
      clear HL
      go_cut [] (fun wx => Hid (BlkF w.heap.size 262 (mapF U ts 256) wx) ∧ Hid (Below w.heap.size w wx))
      case first =>
        go_wp2_with fail
        go_loopw [9, 58] (fun x i wr => ∃ k : Nat, k ≤ 256 ∧ x = .int .u8 (cntU U k : Int) ∧ i = .int .i64 (k : Int) ∧ Hid (BlkF w.heap.size 262 (mapF U ts k) wr) ∧ Hid (Below w.heap.size w wr)) (fun _ i _ => 256 - (intOf i).toNat)
        case atStart => exact ⟨0, Nat.zero_le _, rfl, rfl, Lib.hid (HR.out.congr fun j _ => mapF_zero U ts j), HB⟩
        case round =>
          clear HR HB
          obtain ⟨k, hk', rfl, rfl, HR, HB⟩ := hrel
          by_cases hlk : k < 256
          · have hix := index256 (f := rootF U ts) (o := 6) hlk
            rw [rootF_map U ts k] at hix
            have hcl : cntU U k ≤ 200 := by
              have := cnt_mono U (show k ≤ 256 from hk')
              rw [HTS.out] at this
              omega
            have hstep : ∀ W, Hid (BlkF w.heap.size 262 (mapF U ts k) W) → Hid (Below w.heap.size w W) → Hid (BlkF w.heap.size 262 (mapF U ts (k + 1)) (W.setCell ⟨w.heap.size, 6 + k, none⟩ (mapV U ts k))) ∧ Hid (Below w.heap.size w (W.setCell ⟨w.heap.size, 6 + k, none⟩ (mapV U ts k))) :=
              fun W h hb => ⟨Lib.hid ((h.out.set _ _ (by omega)).congr fun j _ => mapF_step U ts k j), Lib.hid (hb.out.setCell (Nat.le_refl _) _)⟩
            have hk0 : (0 : Int) ≤ (k : Int) := by omega
            have hk1 : (k : Int) < 256 := by omega
            have ht1 : (ts : Int) < 256 := by omega
            cases hu : usedB U k with
            | false =>
              rw [hu] at hix
              have hx : cntU U k = cntU U (k + 1) := by simp [cntU, hu]
              have hm : mapV U ts k = .int .u8 (ts : Int) := by simp [mapV, hu]
              rw [hm] at hstep
              have HST := Lib.hid hstep
              obtain ⟨q, hq⟩ : ∃ q, cntU U k = q := ⟨_, rfl⟩
              rw [hq] at hcl hx ⊢
              have HX := Lib.hid hx
              unfold u8v at hix
              clear hu hx hq hm hstep
              have h5 := HR.out.cell 5 (by omega)
              rw [mapF_5] at h5
              go_wp2_with fail
              go_still_tail 10, (by kernel_rfl)
              change wpList _ _ _ _ _ wr.drew
              have hd : Below (w.heap.size + 1) wr wr.drew := Below.drew (Below.refl _ _)
              have HR2 := Lib.hid (HR.out.below hd (by omega))
              have HB2 := Lib.hid (HB.out.drew)
              have hc2 := HR2.out.cell (6 + k) (by omega)
              have hf2 := HR2.out.open_
              clear hd h5
              generalize wr.drew = W2 at HR2 HB2 hc2 hf2 ⊢
              go_wp2_with fail
              go_roundw
              case rel => exact ⟨k + 1, by omega, by rw [HX.out], by go_num, (HST.out _ HR2 HB2).1, (HST.out _ HR2 HB2).2⟩
              case measure => simp [intOf]; omega
            | true =>
              rw [hu] at hix
              have hx : cntU U k + 1 = cntU U (k + 1) := by simp [cntU, hu]
              have hm : mapV U ts k = .int .u8 (cntU U k : Int) := by simp [mapV, hu]
              rw [hm] at hstep
              have HST := Lib.hid hstep
              have hc := HR.out.cell (6 + k) (by omega)
              have hf := HR.out.open_
              obtain ⟨q, hq⟩ : ∃ q, cntU U k = q := ⟨_, rfl⟩
              rw [hq] at hcl hx HST ⊢
              have HX := Lib.hid hx
              unfold u8v at hix
              clear hu hx hq hm hstep
              go_wp2_with fail
              go_roundw
              case rel => exact ⟨k + 1, by omega, by rw [← HX.out]; go_num, by go_num, (HST.out _ HR HB).1, (HST.out _ HR HB).2⟩
              case measure => simp [intOf]; omega
          · obtain rfl : k = 256 := by omega
            go_wp2_with fail
            go_meet
            case rel => exact ⟨HR, HB⟩
      case rest =>
        clear HR HB
        obtain ⟨HR, HB⟩ := hcut
        have h5 := HR.out.cell 5 (by omega)
        rw [mapF_5] at h5
        have h4 := HR.out.cell 4 (by omega)
        rw [mapF_4] at h4
        have hf := HR.out.open_
        have ht0 : (0 : Int) ≤ (ts : Int) := by omega
        have hmk := run_make_row' (P := Tryz.prog) 207 206 (.pointer none) 8 Tryz.underlying207 info_node rfl .i64 .i64 ts (by omega) (by omega) wc
        have hbr := World.block_lt_of_cell? wc _ h4
        have h4' : (wc.alloc (.cells (madeCells #[.pointer none] ts) 206)).cell? ⟨w.heap.size, 4, none⟩ = some (.slice none 0 0) := by
          rw [World.cell?_alloc_past _ _ _ hbr]; exact h4
        have hf' : ∀ j, (wc.alloc (.cells (madeCells #[.pointer none] ts) 206)).frozen? ⟨w.heap.size, j, none⟩ = false := fun j => by
          rw [World.frozen?_alloc_past _ _ _ hbr]; exact hf j
        have hS : TrieSt w.heap.size w.heap.size wc.heap.size (wc.heap.size + 1) ts (keysU kv kv.length) kv 0 w ((wc.alloc (.cells (madeCells #[.pointer none] ts) 206)).setCell ⟨w.heap.size, 4, none⟩ (.slice (some ⟨wc.heap.size, 0, none⟩) ts ts)) := by
          have hba : Below wc.heap.size wc (wc.alloc (.cells (madeCells #[.pointer none] ts) 206)) := Below.alloc (Below.refl _ _) (Nat.le_refl _) _
          refine ⟨?_, ⟨fun _ => .pointer none, ?_, fun j _ h => absurd h (Nat.not_lt_zero _), fun _ _ _ => rfl⟩, ?_, by simp⟩
          · rw [HU.out]
            exact (HR.out.below hba hbr).set 4 _ (by omega)
          · refine BlkF.other ?_ 4 _ (Nat.ne_of_lt hbr)
            exact ⟨fun j hj => (World.cell?_alloc_at _ _ _ j rfl).trans (made_at ts j hj), fun j => World.frozen?_alloc_at _ _ _ j rfl⟩
          · exact (HB.out.trans (hba.mono HB.out.size)).setCell (Nat.le_refl _) _
        have HS := Lib.hid hS
        have HBR := Lib.hid hbr
        clear hS HR hf hbr
        obtain ⟨bt, hbt⟩ : ∃ b, wc.heap.size = b := ⟨_, rfl⟩
        rw [hbt] at HS HBR hmk
        clear hbt
        go_upto_block 8 with fail
        clear hmk h4' hf' h5 h4
        have hbo2 : bo < bt := Nat.lt_trans HBO.out HBR.out
        have HBO2 := Lib.hid hbo2
        clear hbo2
        go_cut [] (fun wx => Hid (TrieSt w.heap.size w.heap.size bt (bt + 1) ts (keysU kv kv.length) kv kv.length w wx))
        case first =>
          go_wp2_with fail
          go_loopw [12] (fun i wr => ∃ q : Nat, q ≤ kv.length ∧ i = .int .i64 (2 * (q : Int)) ∧ Hid (TrieSt w.heap.size w.heap.size bt (bt + 1) ts (keysU kv kv.length) kv q w wr)) (fun i _ => 2 * kv.length - (intOf i).toNat)
          case atStart => exact ⟨0, Nat.zero_le _, rfl, HS⟩
          case round =>
            clear HS
            obtain ⟨q, hq, rfl, HS⟩ := hrel
            by_cases hlt : q < kv.length
            · have hks := hk _ (List.getElem_mem hlt)
              have hbl := HO.out.below HS.out.below HBO.out
              have hkey := hbl.cell (2 * q) (by omega)
              have hval := hbl.cell (2 * q + 1) (by omega)
              rw [strV_at (flatKV_key kv q hlt)] at hkey
              rw [strV_at (flatKV_val kv q hlt)] at hval
              obtain ⟨c, t, hct⟩ := List.exists_cons_of_ne_nil (hh.1 _ (List.getElem_mem hlt))
              rw [hct] at hks hkey
              obtain ⟨T, hT, hN, hE⟩ := HS.out.tab
              have hm : cntU (keysU kv kv.length) c.toNat < ts := by
                have h1 := cnt_lt (keysU kv kv.length) (used_of hlt hct) (show c.toNat < 256 from c.toNat_lt)
                have h2 := HTS.out
                rw [← HU.out] at h2
                omega
              have hrm : replF (keysU kv kv.length) ts bt (6 + c.toNat) = .int .u8 ((cntU (keysU kv kv.length) c.toNat : Nat) : Int) := by
                rw [replF_map _ _ _ _ c.toNat_lt]
                simp only [mapV, used_of hlt hct, if_true]
              have hsz := HS.out.size
              have CA := fun W (h1 : BlkF w.heap.size 262 (replF (keysU kv kv.length) ts bt) W) (h2 : BlkF bt ts T W) (h3 : bt < W.heap.size) =>
                add_root w.heap.size bt ts w.heap.size (replF (keysU kv kv.length) ts bt) T c t kv[q].2 (2 * (kv.length : Int) - 2 * (q : Int)) (cntU (keysU kv kv.length) c.toNat) W (by simp at hks; omega) (by omega) h1 h2 hm (Nat.ne_of_lt HBR.out) (Nat.lt_trans HBR.out h3) h3 (Nat.le_of_lt HBR.out) rfl rfl hrm (HS.out.fresh hh hlt hct hE hm)
              have HCA := Lib.hid CA
              have HT := Lib.hid hT
              have HN := Lib.hid hN
              have HE := Lib.hid hE
              have HCT := Lib.hid hct
              obtain ⟨K, hK⟩ : ∃ K, B (c :: t) = K := ⟨_, rfl⟩
              obtain ⟨V, hV⟩ : ∃ V, kv[q].2 = V := ⟨_, rfl⟩
              rw [hK] at hkey HCA
              rw [hV] at hval HCA
              have HV := Lib.hid hV
              clear CA hT hN hE hct hK hV hm hrm hks hbl
              have hi0 : (0 : Int) ≤ 2 * (q : Int) := by omega
              have hi1 : 2 * (q : Int) + 1 < 2 * (kv.length : Int) := by omega
              have hi3 : 2 * (q : Int) < 2 * (kv.length : Int) := by omega
              have hi4 : (0 : Int) ≤ 2 * (q : Int) + 1 := by omega
              have hw1 : IntKind.i64.wrap (2 * (q : Int) + 1) = 2 * (q : Int) + 1 := by simp [IntKind.wrap_i64, wrap64]; omega
              have hw2 : IntKind.i64.wrap (2 * (kv.length : Int) - 2 * (q : Int)) = 2 * (kv.length : Int) - 2 * (q : Int) := by simp [IntKind.wrap_i64, wrap64]; omega
              have ht1 : (2 * (q : Int)).toNat = 2 * q := by omega
              have ht2 : (2 * (q : Int) + 1).toNat = 2 * q + 1 := by omega
              go_wp2_with fail
              go_still_tail 17, (by kernel_rfl)
              change wpList _ _ _ _ _ wr.drew
              have hd : Below (bt + 1) wr wr.drew := Below.drew (Below.refl _ _)
              have hrt := HS.out.root.below hd (Nat.lt_succ_of_lt HBR.out)
              have HT2 := Lib.hid (HT.out.below hd (Nat.lt_succ_self _))
              have HR2 := Lib.hid hrt
              have hdz : bt < wr.drew.heap.size := hsz
              have HDZ := Lib.hid hdz
              have HUD := Lib.hid ((But.refl w.heap.size bt wr).drew HS.out.below.size)
              clear hd hrt hdz hkey hval ht1 ht2 hw1 hw2
              obtain ⟨W2, hW2⟩ : ∃ W, wr.drew = W := ⟨_, rfl⟩
              have hW2s : W2.heap.size = wr.heap.size := by rw [← hW2]; rfl
              have HW2S := Lib.hid hW2s
              change wpList _ _ _ _ _ wr.drew
              rw [hW2] at HT2 HR2 HDZ HUD ⊢
              clear hW2 hW2s
              go_wp2_with fail
              refine (HCA.out W2 HR2.out HT2.out HDZ.out).mono ?_
              rintro e w' ⟨rfl, b, hb1, hb2, hb3, hb4, hb5⟩
              have HNX : Hid (TrieSt w.heap.size w.heap.size bt (bt + 1) ts (keysU kv kv.length) kv (q + 1) w w') := Lib.hid (by
                have hU : But w.heap.size bt wr w' := ⟨HUD.out.below.trans hb5.below, fun b' h1 h2 => by
                  have h3 := hb5.same b' (by rw [HW2S.out]; exact h1) h2
                  have h4 := HUD.out.same b' h1 h2
                  exact ⟨fun j => (h3.1 j).trans (h4.1 j), fun j => (h3.2 j).trans (h4.2 j)⟩⟩
                rw [← HV.out] at hb4
                refine TrieSt.next HS.out hh hlt HCT.out HN.out HE.out (p := 2 * (kv.length : Int) - 2 * (q : Int)) (by omega) (Nat.lt_succ_self _) (Nat.lt_trans HBR.out hsz) (Nat.ne_of_lt HBR.out) hb3 ?_ hU
                exact hb4.mono (Nat.le_of_eq HW2S.out.symm))
              clear hb1 hb2 hb3 hb4 hb5
              go_wp2_with fail
              go_roundw
              case rel => exact ⟨q + 1, by omega, by go_num, HNX⟩
              case measure => simp [intOf]; omega
            · obtain rfl : q = kv.length := by omega
              go_wp2_with fail
              go_meet
              case rel => exact HS
        case rest =>
          go_wp2_with fail
          go_ret
          exact ⟨rfl, bt, ts, by rw [HU.out]; exact HTS.out.symm, hsm, HBR.out, hcut.out⟩
end Go.Proofs.YtbdcghbafopjjaaGreatDoor.Hand
end
