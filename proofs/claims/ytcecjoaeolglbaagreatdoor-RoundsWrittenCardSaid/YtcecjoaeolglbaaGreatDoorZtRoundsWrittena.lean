/-
  Texts of the claim RoundsWritten, merged by a program of this session (1).
-/
import Derived.Test.YtcecjoaeolglbaaGreatDoorZse
import Derived.Below
import Derived.Deep.Draws
import Derived.Deep.AppendLies
import Derived.Maps.AppendAt
import Derived.OwnWalk
import Derived.Laws.BytesArg
import Derived.Laws.MakeOwn
import Derived.Laws.OwnMore
import Derived.Deep.OwnRows
import Derived.Tactics
import Derived.Lib.ConvBytes
import Derived.Laws.Slices
import Derived.WalkKit
import Derived.KernelRfl
import Derived.RowKit3
import Derived.Deep.LoopGhost
import Derived.Deep.QuietTactic
import Derived.BigQuiet
import Derived.WideLaws
import Derived.Deep.DeepCutAuto
import Derived.Deep.CutBlock
import Derived.Deep.RegionHeld3
import Derived.Laws.Rows
import Derived.Lib.AppendStr
import Derived.ArgAppend
import Derived.Laws.IdiomCopy
import Derived.RowKit
import Derived.Test.YtcecjoaeolglbaaGreatDoorProg
import Derived.OrdersHeld
import Derived.Laws.BitsLemmas
import Derived.Shelf.Strings.Builder1
import Derived.Shelf.Strings.Builder2
import Derived.Shelf.Small.Strs
import Derived.Shelf.Small.Wraps
import Derived.Shelf.Strings.BuilderF
import Derived.Shelf.Strings.BuilderK
import Derived.Shelf.Utf8.RuneCount
import Derived.Shelf.Strconv.Itoa0
import Derived.Shelf.LaysM
import Derived.Shelf.Strconv.Clone
import Derived.Shelf.Strconv.SyntaxError
import Derived.Shelf.LaysC
import Derived.Shelf.Strconv.ToError
import Derived.Shelf.Strconv.Lower
import Derived.Shelf.Strconv.ParseUintEmpty
import Derived.Shelf.Strings.Search1
import Derived.Shelf.Strings.Search2
import Derived.Shelf.Strings.Search3
import Derived.Shelf.Strings.Cut
import Derived.Shelf.Strings.Count
import Derived.Shelf.Strings.Shaped
import Derived.Shelf.Strings.LastIndex
import Derived.Shelf.Strings.Prefix
import Derived.Shelf.Strings.Split
import Derived.Shelf.Strings.Replace
import Derived.Shelf.Strings.SplitShaped
import Derived.Shelf.Unicode.Decode
import Derived.Shelf.Strings.RuneCount
import Derived.Shelf.Bits.Mul64
import Derived.Shelf.Strings.Repeat
import Derived.Shelf.Unicode.DecodeSlow
import Derived.Shelf.Unicode.DecodeAny
import Derived.Ground.SlgfProg
import Derived.Shelf.SlicesE.IndexFunc
import Derived.Shelf.SlicesE.DeleteFunc
import Derived.Lib.Replace
import Derived.Lib.CountLaws
import Derived.Lib.IndexLaws
import Derived.WalkSpells
import Derived.WalkLawsBesides
import Derived.WalkMore
import Derived.ScopeJumps
import Derived.Lib.Hide
import Derived.Tactics2
import Derived.Defers
import Derived.Laws.Pointers
import Derived.Laws.LoneSync
import Derived.RegionTactic
import Derived.RegionCalls
import Derived.ChangeAlike
import Derived.Laws.NewBlocks
import Derived.LoopN
import Derived.ChangeKeysEq
import Derived.StillTailTactics
import Derived.IntWalk
import Derived.OneCell
import Derived.Deep.RegionWith
set_option linter.unusedVariables false
set_option linter.unusedSimpArgs false
namespace Foot
end Foot
namespace Go.Proofs
end Go.Proofs
namespace Go.Proofs.YtcecjoaeolglbaaGreatDoor.Hand
end Go.Proofs.YtcecjoaeolglbaaGreatDoor.Hand
namespace Go.Proofs.YtcecjoaeolglbaaGreatDoor.K0
end Go.Proofs.YtcecjoaeolglbaaGreatDoor.K0
namespace Go.Proofs.YtcecjoaeolglbaaGreatDoor.Pb
end Go.Proofs.YtcecjoaeolglbaaGreatDoor.Pb
namespace Go.Proofs.YtcecjoaeolglbaaGreatDoor.Pcb
end Go.Proofs.YtcecjoaeolglbaaGreatDoor.Pcb
namespace Go.Proofs.YtcecjoaeolglbaaGreatDoor.Pcm
end Go.Proofs.YtcecjoaeolglbaaGreatDoor.Pcm
namespace Go.Proofs.YtcecjoaeolglbaaGreatDoor.Pl
end Go.Proofs.YtcecjoaeolglbaaGreatDoor.Pl
namespace Go.Proofs.YtcecjoaeolglbaaGreatDoor.Pro
end Go.Proofs.YtcecjoaeolglbaaGreatDoor.Pro
namespace Go.Proofs.YtcecjoaeolglbaaGreatDoor.Pure
end Go.Proofs.YtcecjoaeolglbaaGreatDoor.Pure
namespace Go.Proofs.YtcecjoaeolglbaaGreatDoor.RowKit
end Go.Proofs.YtcecjoaeolglbaaGreatDoor.RowKit
namespace Go.Proofs.YtcecjoaeolglbaaGreatDoor.Sa
end Go.Proofs.YtcecjoaeolglbaaGreatDoor.Sa
namespace Go.Proofs.YtcecjoaeolglbaaGreatDoor.Si
end Go.Proofs.YtcecjoaeolglbaaGreatDoor.Si
namespace Go.Proofs.YtcecjoaeolglbaaGreatDoor.So
end Go.Proofs.YtcecjoaeolglbaaGreatDoor.So
namespace Go.Proofs.YtcecjoaeolglbaaGreatDoor.St
end Go.Proofs.YtcecjoaeolglbaaGreatDoor.St
namespace Go.Proofs.YtcecjoaeolglbaaGreatDoor.Sw
end Go.Proofs.YtcecjoaeolglbaaGreatDoor.Sw
namespace Go.Proofs.YtcecjoaeolglbaaGreatDoor.Sx
end Go.Proofs.YtcecjoaeolglbaaGreatDoor.Sx
namespace Go.Proofs.YtcecjoaeolglbaaGreatDoorW.PrintLast
end Go.Proofs.YtcecjoaeolglbaaGreatDoorW.PrintLast
namespace Go.Proofs.YtcecjoaeolglbaaGreatDoorW.PrintMore
end Go.Proofs.YtcecjoaeolglbaaGreatDoorW.PrintMore
namespace Go.Proofs.YtcecjoaeolglbaaGreatDoorW.PrintWords
end Go.Proofs.YtcecjoaeolglbaaGreatDoorW.PrintWords
namespace Kd
end Kd

section
set_option linter.unusedVariables false
set_option linter.unusedSimpArgs false
namespace Go.Proofs.YtcecjoaeolglbaaGreatDoorW.PrintWords
open Go.RowKit
section
variable {P : Program} {ops : Array Oper} {rest : List Oper} {o : Oper} {a : Act} {Q : Exit → Act → World → Prop}
end
section
variable {P : Program}
end
section
variable {P : Program} {ops : Array Oper} {rest : List Oper} {o : Oper} {a : Act} {Q : Exit → Act → World → Prop}
end
def LeO {α:Type} (a b:Option α):Prop := ∀ r,a=some r→b=some r
theorem LeO.refl {α:Type} (a:Option α):LeO a a:=fun _ h=>h
theorem LeO.none {α:Type} (b:Option α):LeO Option.none b:=fun _ h=>by cases h
theorem LeO.trans {α:Type} {a b c:Option α} (h:LeO a b) (k:LeO b c):LeO a c:=fun r hr=>k r (h r hr)
theorem more_rounds {α:Type} {g:Nat→Option α} (h:∀ k,LeO (g k) (g (k+1))) (k:Nat):∀ j,LeO (g k) (g (k+j))
 | 0=>LeO.refl _
 | j+1=>(more_rounds h k j).trans (h (k+j))
theorem at_rounds {α:Type} {g:Nat→Option α} (h:∀ k,LeO (g k) (g (k+1))) {k k':Nat} (hk:k≤k') {r:α} (hr:g k=some r):g k'=some r:=by
 have:=more_rounds h k (k' - k) r hr
 rwa [Nat.add_sub_cancel' hk] at this
section
variable {P : Program} {ops : Array Oper} {rest : List Oper} {o : Oper} {a : Act} {Q : Exit → Act → World → Prop}
end
theorem KeepBut.blk {w w1:World} {g g':Nat} {row:Option Nat} {o:Obj} (h:KeepBut w w1 g row) (hb:w.heap[g']? = some o) (hg:g'≠g) (hr:some g'≠row):w1.heap[g']? = some o:=(h.2 g' (blk_lt hb) hg hr).trans hb
theorem KeepBut.own {w w1:World} {g:Nat} {row:Option Nat} {base:Nat} {e:TypeId} {size n:Nat} {v:Value} {xs:List Value} (h:KeepBut w w1 g row) (ho:w.ownsRow base e size v n xs) (hg:v.ownBlock≠some g) (hr:v.ownBlock=none∨v.ownBlock≠row):w1.ownsRow base e size v n xs:=by
 obtain ⟨h1,h2⟩:=ho
 refine ⟨h1,?_⟩
 rcases h2 with h2|⟨b,cap,cur,rfl,hb,hh,r⟩
 · exact .inl h2
 · refine .inr ⟨b,cap,cur,rfl,hb,h.blk hh ?_ ?_,r⟩
   · intro e
     exact hg (by rw [← e];rfl)
   · rcases hr with hr|hr
     · simp [Value.ownBlock] at hr
     · exact hr
theorem Ev.of {α:Type} {g:Nat→Option α} {r:α} (hg:∀ k,LeO (g k) (g (k+1))) {k:Nat} (h:g k=some r):Ev g r:=⟨k,fun _ hk=>at_rounds hg hk h⟩
section
variable {P : Program} {ops : Array Oper} {o : Oper} {a : Act} {Q : Exit → Act → World → Prop} {K : Act → World → Prop}
end
section
variable {α : Type} {enc : α → Value} {d : α}
end
section
variable {α : Type} {P : Program} {ops : Array Oper} {rest : List Oper} {o : Oper} {a : Act} {Q : Exit → Act → World → Prop}
end
section
variable {P : Program}
end
section
variable {α : Type} {R R' : α → List Value → Prop} {e : TypeId} {size : Nat} {w w1 : World} {base : Nat} {v : Value} {ps : List α}
end
section
variable {P : Program} {ops : Array Oper} {rest : List Oper} {o : Oper} {a : Act} {Q : Exit → Act → World → Prop} {α : Type} {R : α → List Value → Prop}
end
section
variable {P : Program} {ops : Array Oper} {o : Oper} {a : Act} {Q : Exit → Act → World → Prop} {K : Act → World → Prop} {α : Type} {R : α → List Value → Prop}
end
section
variable {α : Type} {P : Program}
end
section
variable {P : Program} {ops : Array Oper} {rest : List Oper} {o : Oper} {a : Act} {Q : Exit → Act → World → Prop}
end
namespace Kd
section
variable {α : Type} {d : Kd α} {e : Nat} {w w1 : World} {base : Nat} {ok ok' : Nat → Prop} {v : Value} {xs : List α}
end
section
variable {P : Program} {ops : Array Oper} {rest : List Oper} {o : Oper} {a : Act} {Q : Exit → Act → World → Prop} {α : Type}
end
section
variable {P : Program} {ops : Array Oper} {o : Oper} {a : Act} {Q : Exit → Act → World → Prop} {Kc : Act → World → Prop} {α : Type}
end
end Kd
namespace Kd
section
variable {α : Type} {F : Kd α → Kd α} {sz : Nat} {E : List Nat} {hs : ∀ n, (upto F sz E n).sz = sz} {hE : ∀ n q, q ∈ (upto F sz E n).E → q ∈ E}
end
end Kd
namespace Kd
end Kd
namespace Kd
section
variable {α β : Type} {d : Kd α} {d' : Kd β} {e e' : Nat} {w w1 W : World} {base b b' : Nat} {ok ok' okv oku : Nat → Prop} {v u : Value} {xs : List α} {ys : List β}
end
section
variable {w W : World} {A : Option Addr} {n : Nat}
variable {α : Type} {enc : α → Value} {h1 : ∀ x, (enc x).oneCell' = true} {e base g cap : Nat} {ok : Nat → Prop} {xs : List α}
end
section
variable {P : Program} {ops : Array Oper} {rest : List Oper} {o : Oper} {a : Act} {Q : Exit → Act → World → Prop}
variable {α : Type}
end
end Kd
section
variable {P : Program}
end
section
variable {w w1 : World} {base n size : Nat} {e : TypeId} {v : Value} {xs : List Value}
end
section
variable {P : Program}
end
namespace Kd
section
variable {α : Type} {d : Kd α} {e : Nat} {w w1 W : World} {base : Nat} {ok ok' : Nat → Prop} {v : Value} {xs : List α}
end
section
variable {P : Program} {ops : Array Oper} {rest : List Oper} {o : Oper} {a : Act} {Q' : Exit → Act → World → Prop} {Kc : Act → World → Prop} {α : Type}
end
end Kd
namespace Kd
section
variable {α : Type} {d : Kd α} {e e' : Nat} {w w1 W : World} {base : Nat} {ok : Nat → Prop} {u v : Value} {xs : List α}
end
end Kd
namespace Kd
section
variable {α : Type} {d : Kd α} {e base g n cap : Nat} {ok okp : Nat → Prop} {W : World} {xs : List α}
end
end Kd
namespace Kd
section
variable {α : Type} {F : Kd α → Kd α} {sz : Nat} {E : List Nat} {hs : ∀ n, (upto F sz E n).sz = sz} {hE : ∀ n q, q ∈ (upto F sz E n).E → q ∈ E}
end
end Kd
namespace Kd
section
variable {P : Program} {ops : Array Oper} {rest : List Oper} {o : Oper} {a : Act} {Q : Exit → Act → World → Prop} {α : Type}
end
end Kd
namespace Kd
section
variable {P : Program} {ops : Array Oper} {rest : List Oper} {o : Oper} {a : Act} {Q : Exit → Act → World → Prop} {α : Type}
end
end Kd
theorem add_add (a:Addr) (i j:Nat):(a.add i).add j=a.add (i+j):=by
 unfold Addr.add
 by_cases h1:i=0<;>by_cases h2:j=0<;>simp [h1,h2,Nat.add_assoc]
namespace Kd
section
variable {α : Type} {k : Kd α} {w : World} {A : Option Addr} {xs : List α} {m c : Nat}
theorem C_take (h:k.C w A xs.length xs) (hm:m≤xs.length):k.C w A (xs.take m).length (xs.take m):=by
 have hl:(xs.take m).length=m:=by rw [List.length_take];omega
 refine ⟨rfl,by rw [hl];have:=h.2.1;omega,fun hp => ?_⟩
 obtain ⟨ad,e,hc⟩:=h.2.2 (by omega)
 refine ⟨ad,e,fun j p hj=>hc j p ?_⟩
 rw [List.getElem?_take] at hj
 split at hj
 · exact hj
 · cases hj
theorem C_drop (h:k.C w A xs.length xs) (hm:m≤xs.length) (hc:xs.length≤c):k.C w (if c=m then A else A.map (·.add (m*k.sz))) (xs.drop m).length (xs.drop m):=by
 have hl:(xs.drop m).length=xs.length - m:=List.length_drop
 refine ⟨rfl,by rw [hl];have:=h.2.1;omega,fun hp => ?_⟩
 rw [hl] at hp
 obtain ⟨ad,rfl,hcell⟩:=h.2.2 (by omega)
 rw [if_neg (by omega)]
 refine ⟨ad.add (m*k.sz),rfl,fun j p hj => ?_⟩
 rw [List.getElem?_drop] at hj
 obtain ⟨cs,h1,h2,h3⟩:=hcell (m+j) p hj
 refine ⟨cs,h1,h2,fun i u hu => ?_⟩
 rw [add_add,show m*k.sz+(j*k.sz+i)=(m+j)*k.sz+i by rw [Nat.add_mul];omega]
 exact h3 i u hu
theorem C_mid {lo hi:Nat} (h:k.C w A xs.length xs) (h1:lo≤hi) (h2:hi≤xs.length) (hc:xs.length≤c):k.C w (if c=lo then A else A.map (·.add (lo*k.sz))) ((xs.take hi).drop lo).length ((xs.take hi).drop lo):=by
 have hl:(xs.take hi).length=hi:=by rw [List.length_take];omega
 exact C_drop (C_take h h2) (by omega) (by omega)
end
end Kd
section
variable {P : Program}
theorem cut_mid (t e:TypeId) (kl kh:IntKind) {i:TypeInfo} (ht:P.underlying t=some (.slice e)) (hi:P.info? e=some i) (size:Nat) (hsz:i.size=size) (A:Option Addr) (n c:Nat) (lo hi':Int) (h0:0≤lo) (h1:lo≤hi') (h2:hi'≤n) (hc:n≤c) :
  ∀ W:World,(Instr.slice t (.slice A n c) (some (.int kl lo)) (some (.int kh hi')) none).run P W = .ok (.slice (if c=lo.toNat then A else A.map (·.add (lo.toNat*size))) (hi'.toNat - lo.toNat) (c - lo.toNat)) W:=by
 intro W
 have hel:P.elem t=e:=by simp [Program.elem,ht]
 have hu:P.underlying t=some (.slice (P.elem t)):=by rw [hel];exact ht
 rw [run_slice_lh W t A n c hu kl kh lo hi' h0 h1 (by omega),hel]
 simp [sizeOf,typeInfo,hi,hsz,sliced,Result.andThen]
end
namespace Kd
section
variable {α β : Type} {d : Kd α} {d' : Kd β} {e e' base base' n : Nat} {ok ok' : Nat → Prop} {w W w1 W1 : World} {v u : Value} {xs : List α} {ys : List β} {A : Option Addr} {c : Nat}
end
section
variable {α : Type} {enc : α → Value} {h1 : ∀ x, (enc x).oneCell' = true} {w W : World} {A : Option Addr} {n g : Nat} {xs : List α}
end
end Kd
namespace Kd
section
variable {α : Type} {d : Kd α} {e base g : Nat} {ok : Nat → Prop} {w w1 : World} {v : Value} {xs : List α} {o : Obj}
end
end Kd
section
variable {P : Program} {ops : Array Oper} {rest : List Oper} {o : Oper} {a : Act} {Q : Exit → Act → World → Prop}
end
namespace Kd
section
variable {α : Type} {enc : α → Value} {h1 : ∀ x, (enc x).oneCell' = true} {e base g n cap : Nat} {ok : Nat → Prop} {W : World} {xs : List α}
end
end Kd
section
variable {P : Program} {ops : Array Oper} {rest : List Oper} {o : Oper} {a : Act} {Q : Exit → Act → World → Prop}
end
namespace Kd
section
variable {α : Type} {enc : α → Value} {h1 : ∀ x, (enc x).oneCell' = true} {e base g n cap : Nat} {ok : Nat → Prop} {W : World} {xs : List α}
end
end Kd
section
variable {P : Program} {ops : Array Oper} {rest : List Oper} {o : Oper} {a : Act} {Q : Exit → Act → World → Prop} {W : World}
end
section
variable {P : Program} {ops : Array Oper} {o : Oper} {a : Act} {Q : Exit → Act → World → Prop} {Kc : Act → World → Prop}
namespace Kd
variable {α : Type}
end Kd
end
section
variable {P : Program} {tmps : Array Value} {w : World}
end
namespace Kd
section
variable {P : Program} {α : Type}
end
section
variable {P : Program} {ops : Array Oper} {rest : List Oper} {o : Oper} {a : Act} {Q : Exit → Act → World → Prop} {Kc : Act → World → Prop} {α : Type}
end
end Kd
end Go.Proofs.YtcecjoaeolglbaaGreatDoorW.PrintWords
end

section
namespace Go.Proofs.YtcecjoaeolglbaaGreatDoorW.PrintWords
open Go.RowKit
namespace Kd
section
variable {α β : Type} {d : Kd α} {d' : Kd β} {e e' : Nat} {w w1 W : World} {base b : Nat} {ok ok' okv oku : Nat → Prop} {u v : Value} {xs : List α} {ys : List β}
end
section
variable {α β : Type} {d : Kd α} {d' : Kd β} {e e' g : Nat} {w w1 W : World} {base b : Nat} {ok ok' okv oku : Nat → Prop} {u v : Value} {xs : List α} {ys : List β}
end
section
variable {P : Program} {ops : Array Oper} {rest : List Oper} {o : Oper} {a : Act} {Q : Exit → Act → World → Prop} {Kc : Act → World → Prop} {α : Type}
end
def gap {α:Type} (f:Nat→Nat) (d:Kd α) (i:Nat) (c:List Value):Kd (α×Nat) where
 sz:=d.sz
 E:=d.E
 K:=fun w x cs=>(x.2=i→cs=c∧cs.length=d.sz∧∀ u∈cs,u.oneCell'=true)∧(x.2≠i→d.K w x.1 cs)
 M:=fun w base ok x cs=>(x.2=i→cs=c∧cs.length=d.sz∧∀ u∈cs,u.oneCell'=true)∧(x.2≠i→d.M w base (fun k=>ok k∧f k=x.2) x.1 cs)
 K_len:=fun {w x cs} h=>by
  by_cases hx:x.2=i
  · exact (h.1 hx).2.1
  · exact d.K_len (h.2 hx)
 K_one:=fun {w x cs} h=>by
  by_cases hx:x.2=i
  · exact (h.1 hx).2.2
  · exact d.K_one (h.2 hx)
 K_below:=fun hb h=>⟨h.1,fun hx=>d.K_below hb (h.2 hx)⟩
 K_of_M:=fun h=>⟨h.1,fun hx=>d.K_of_M (h.2 hx)⟩
 M_mono:=fun hok h=>⟨h.1,fun hx=>d.M_mono (fun k hk=>⟨hok k hk.1,hk.2⟩) (h.2 hx)⟩
 M_bound:=fun h=>⟨h.1,fun hx=>d.M_mono (fun _ hk=>⟨⟨hk.1.1,hk.2⟩,hk.1.2⟩) (d.M_bound (h.2 hx))⟩
 M_move:=fun hm h=>⟨h.1,fun hx=>d.M_move (fun k hk=>hm k hk.1) (h.2 hx)⟩
 M_lower:=fun hb h=>⟨h.1,fun hx=>d.M_lower hb (h.2 hx)⟩
def H {α:Type} (d:Kd α) (e:Nat) (w:World) (base:Nat) (ok:Nat→Prop) (v:Value) (xs:List α) (i:Int) (oki:Nat→Prop) (c:List Value):Prop :=
 (∀ k,oki k→ok k)∧∃ f,(gap f d i.toNat c).R e w base (fun k=>ok k∧¬ oki k) v xs.zipIdx
section
variable {α β : Type} {d : Kd α} {e e' g n cap : Nat} {w w1 W : World} {base : Nat} {ok ok' oki okp : Nat → Prop} {u v : Value} {xs : List α} {i : Int} {c : List Value}
end
section
variable {P : Program} {ops : Array Oper} {rest : List Oper} {o : Oper} {a : Act} {Q : Exit → Act → World → Prop} {α : Type}
end
end Kd
end Go.Proofs.YtcecjoaeolglbaaGreatDoorW.PrintWords
end

section
namespace Go.Proofs.YtcecjoaeolglbaaGreatDoorW.PrintWords
open Go.RowKit
namespace Kd
structure Heap {α:Type} (d:Kd α):Prop where
 K:∀ {w w1:World} {x:α} {cs:List Value},(∀ k,k<w.heap.size→w1.heap[k]? = w.heap[k]?)→d.K w x cs→d.K w1 x cs
theorem cell_heap {w w1:World} (hb:∀ k,k<w.heap.size→w1.heap[k]? = w.heap[k]?) {a:Addr} {v:Value} (h:w.cell? a=some v):w1.cell? a=some v:=by
 have:=hb a.block (World.block_lt_of_cell? w a h)
 simpa [World.cell?,this] using h
theorem Heap.C {α:Type} {d:Kd α} (hd:Heap d) {w w1:World} {A:Option Addr} {n:Nat} {xs:List α} (hb:∀ k,k<w.heap.size→w1.heap[k]? = w.heap[k]?) (h:d.C w A n xs):d.C w1 A n xs :=
 ⟨h.1,h.2.1,fun hn=>by
   obtain ⟨ad,e,hc⟩:=h.2.2 hn
   refine ⟨ad,e,fun j p hj => ?_⟩
   obtain ⟨c,hs,hr,hcell⟩:=hc j p hj
   exact ⟨c,hs,hd.K hb hr,fun i u hu=>cell_heap hb (hcell i u hu)⟩⟩
section
variable {α : Type} {d : Kd α} {e base g n c : Nat} {ok : Nat → Prop} {w w0 W : World} {A : Option Addr} {xs : List α}
end
end Kd
end Go.Proofs.YtcecjoaeolglbaaGreatDoorW.PrintWords
end

section
namespace Go.Proofs.YtcecjoaeolglbaaGreatDoorW.PrintWords
open Go.RowKit
def Kept (w W:World) (S:Nat→Prop):Prop:=w.heap.size≤W.heap.size∧∀ i,i<w.heap.size→¬ S i→W.heap[i]? = w.heap[i]?
section
variable {w W W2 : World} {S S2 S' : Nat → Prop}
theorem Kept.mono (h:Kept w W S) (hs:∀ k,S k→S' k):Kept w W S':=⟨h.1,fun i hi hn=>h.2 i hi (fun hk=>hn (hs i hk))⟩
end
namespace Kd
section
variable {α : Type} {d : Kd α} {e base n c : Nat} {ok oki S S2 : Nat → Prop} {w w0 W W1 W2 : World} {v : Value} {A : Option Addr} {xs : List α} {i : Int} {cs : List Value}
end
end Kd
end Go.Proofs.YtcecjoaeolglbaaGreatDoorW.PrintWords
end

section
namespace Go.Proofs.YtcecjoaeolglbaaGreatDoorW.PrintWords
open Go.RowKit
section
variable {P : Program} {ops : Array Oper} {rest : List Oper} {o : Oper} {a : Act} {Q : Exit → Act → World → Prop} {W : World}
theorem gate_guard (hw:Region.wanted o (yielded ops a.tmps)=true) (h:wpList P ops Q ({ o with guard:=none }::rest) a W):wpList P ops Q (o::rest) a W:=by
 have h1:Region.wanted { o with guard:=none } (yielded ops a.tmps)=true:=rfl
 unfold wpList at h ⊢
 rw [if_pos h1] at h
 rw [if_pos hw]
 exact h
end
end Go.Proofs.YtcecjoaeolglbaaGreatDoorW.PrintWords
end

section
namespace Go.Proofs.YtcecjoaeolglbaaGreatDoor.K0
open Go.RowKit Go.Proofs.YtcecjoaeolglbaaGreatDoorW.PrintWords Go.Proofs.YtcecjoaeolglbaaGreatDoorW.PrintLast Go.Proofs.YtcecjoaeolglbaaGreatDoorW.PrintMore
attribute [local go_sem] max2_int min2_int max_two min_two max_three min_three max_four min_four  
set_option linter.unusedVariables false
set_option linter.unusedSimpArgs false
structure S7 where
 f0:Int
 f1:Int
 f2:Bool
 f3:Int
structure S8 where
 f0:Int
 f1:Int
 f2:Bool
 f3:Int
def k8:Kd S8:=Kd.iso (Kd.pair (Kd.int .i64) (Kd.pair (Kd.int .i64) (Kd.pair Kd.bool (Kd.int .u8)))) (fun x:S8=>(x.f0,x.f1,x.f2,x.f3))
structure S13 where
 f0:ByteArray
 f1:Int
def k13:Kd S13:=Kd.iso (Kd.pair Kd.string (Kd.int .u64)) (fun x:S13=>(x.f0,x.f1))
structure S14 where
 f0:ByteArray
 f1:Int
def k14:Kd S14:=Kd.iso (Kd.pair Kd.string (Kd.int .u64)) (fun x:S14=>(x.f0,x.f1))
structure S45 where
 f0:Int
 f1:ByteArray
 f2:ByteArray
 f3:(List S87)
 f4:Bool
structure S86 where
 f0:ByteArray
 f1:ByteArray
structure S88 where
 f0:Int
 f1:Int
structure S89 where
 f0:Int
 f1:Int
structure S102 where
 f0:Int
 f1:Int
structure S103 where
 f0:Int
 f1:Int
structure S154 where
 f0:ByteArray
 f1:Int
structure S155 where
 f0:ByteArray
 f1:Int
structure S194 where
 f0:ByteArray
 f1:Int
structure S195 where
 f0:ByteArray
 f1:Int
structure S209 where
 f0:Int
 f1:Int
structure S210 where
 f0:Int
 f1:Int
structure S266 where
 f0:ByteArray
structure S267 where
 f0:ByteArray
end Go.Proofs.YtcecjoaeolglbaaGreatDoor.K0
end

section
namespace Go.Proofs
open Go.Shelf
def Tryz.lays167_ren:Go.Shelf.Ren:=⟨fun|6=>148|10=>106|99=>38|100=>165|101=>42|104=>176|105=>155|129=>243|137=>86|138=>99|143=>101|144=>85|145=>130|149=>216|154=>72|155=>47|165=>100|166=>44|167=>48|169=>45|170=>154|171=>235|195=>137|197=>102|205=>234|206=>65|207=>197|208=>67|211=>200|212=>193|217=>116|218=>138|219=>140|220=>177|222=>226|224=>184|225=>183|240=>70|241=>139|243=>236|245=>218|246=>237|260=>141|263=>214|264=>215|266=>157|267=>185|276=>98|277=>182|279=>229|280=>230|281=>231|282=>232|283=>238|284=>239|285=>240|286=>241|287=>217|314=>203|316=>233|317=>242|318=>244|319=>245|320=>246|321=>227|322=>228|337=>247|338=>248|n=>n,fun|21=>21|22=>67|23=>9|24=>24|25=>23|37=>27|46=>208|51=>99|53=>231|59=>160|70=>52|72=>54|75=>59|76=>60|80=>62|105=>136|109=>227|119=>174|127=>93|138=>210|139=>211|143=>265|145=>267|146=>238|148=>252|164=>132|167=>257|168=>259|171=>269|173=>272|210=>263|212=>275|213=>276|232=>279|233=>280|n=>n,fun|n=>n⟩
theorem Tryz.lays167:Go.Proofs.Lays.n167 Tryz.prog Tryz.lays167_ren:={
 mixed:=by kernel_rfl
 f167:=Tryz.func48.trans (congrArg some (by kernel_rfl))
 f240:=Tryz.func70.trans (congrArg some (by kernel_rfl))
 f276:=Tryz.func98.trans (congrArg some (by kernel_rfl))
 t0:=Tryz.underlying0
 a0:=Tryz.isAgg0
 z0:=Tryz.sizeOf0
 v0:=Tryz.zeroValue0
 t4:=Tryz.underlying4
 a4:=Tryz.isAgg4
 z4:=Tryz.sizeOf4
 v4:=Tryz.zeroValue4
 t5:=Tryz.underlying5
 a5:=Tryz.isAgg5
 z5:=Tryz.sizeOf5
 v5:=Tryz.zeroValue5
 t9:=Tryz.underlying9
 a9:=Tryz.isAgg9
 z9:=Tryz.sizeOf9
 v9:=Tryz.zeroValue9
 t20:=Tryz.underlying20
 a20:=Tryz.isAgg20
 z20:=Tryz.sizeOf20
 v20:=Tryz.zeroValue20
 t37:=Tryz.underlying27
 a37:=Tryz.isAgg27
 z37:=Tryz.sizeOf27
 v37:=Tryz.zeroValue27
 t70:=Tryz.underlying52
 a70:=Tryz.isAgg52
 z70:=Tryz.sizeOf52
 v70:=Tryz.zeroValue52
 t72:=Tryz.underlying54
 a72:=Tryz.isAgg54
 z72:=Tryz.sizeOf54
 v72:=Tryz.zeroValue54
 t75:=Tryz.underlying59
 a75:=Tryz.isAgg59
 z75:=Tryz.sizeOf59
 v75:=Tryz.zeroValue59
 t164:=Tryz.underlying132
 a164:=Tryz.isAgg132
 z164:=Tryz.sizeOf132
 v164:=Tryz.zeroValue132 }
theorem Tryz.Builder_Extra_167:Builder.Extra Tryz.prog Tryz.lays167_ren:={
 sizeBuilder:=by kernel_rfl
 liesBuilder:=by kernel_rfl
 t5:=Tryz.underlying5
 a5:=Tryz.isAgg5
 z5:=Tryz.sizeOf5
 v5:=Tryz.zeroValue5
 infoByte:=by kernel_rfl
 cellsByte:=by kernel_rfl
 sizeByte:=by kernel_rfl
 neB5:=by decide }
open Go.RowKit in
theorem Tryz.Builder_WriteByte (B b:Nat) (bs:List Value) (c:Int) (w:World) (h:Lib.IsBuilder 54 5 B b bs w) (hlen:bs.length+1≤140737488355328) (hBw:B≤w.heap.size) :
 Calls Tryz.prog 48 #[.pointer (some ⟨b,0,none⟩),.int .u8 c] w fun e w'=>e = .returned .nilIface∧(Lib.BuilderAt 54 5 B b (.pointer (some ⟨b,0,none⟩)) (bs++[.int .u8 c]) w'∧Below B w w'):=Any.Builder_WriteByte Tryz.lays167 Tryz.Builder_Extra_167 B b bs c w h hlen hBw
end Go.Proofs
end

section
namespace Go.Proofs.YtcecjoaeolglbaaGreatDoor.Pl
open Go
def normF:Bool→List UInt8→List UInt8
 | _,[]=>[]
 | b,c::r=>if b=true∧c=10 then normF false r else if c=13 then 10::normF true r else c::normF false r
def normL (l:List UInt8):List UInt8:=normF false l
theorem normL_nil:normL []=[]:=rfl
theorem normL_ne {c:UInt8} {r:List UInt8} (h:c≠13):normL (c::r)=c::normL r:=by simp [normL,normF,h]
theorem normL_13_10 {r:List UInt8}:normL (13::10::r)=10::normL r:=by simp [normL,normF]
theorem normL_13_ne {d:UInt8} {r:List UInt8} (h:d≠10):normL (13::d::r)=10::normL (d::r):=by simp [normL,normF,h]
theorem normL_13_end:normL [13]=[10]:=rfl
theorem normF_length (l:List UInt8):∀ b,(normF b l).length≤l.length:=by
 induction l with
 | nil=>intro b;simp [normF]
 | cons c r ih =>
   intro b
   have h0:=ih false
   have h1:=ih true
   simp only [normF,List.length_cons]
   split
   · omega
   · split<;>simp only [List.length_cons]<;>omega
theorem normL_length (l:List UInt8):(normL l).length≤l.length:=normF_length l false
theorem cleanL_length (l:List UInt8):l.length≤(cleanL l).length∧(cleanL l).length≤3*l.length:=by
 induction l with
 | nil=>simp [cleanL]
 | cons c r ih =>
   have e:cleanL (c::r)=cleanB c++cleanL r:=rfl
   rw [e,List.length_append,List.length_cons]
   have h1:1≤(cleanB c).length∧(cleanB c).length≤3:=by unfold cleanB;split<;>simp
   omega
theorem cleanB_no0 (c:UInt8):(0:UInt8)∉cleanB c:=by
 unfold cleanB;split
 · decide
 · rename_i h;simp;exact fun e=>h e.symm
theorem cleanL_no0 (l:List UInt8):(0:UInt8)∉cleanL l:=by
 simp only [cleanL,List.mem_flatMap,not_exists,not_and]
 exact fun c _=>cleanB_no0 c
theorem cleanL_of_no0:∀ {l:List UInt8},(0:UInt8)∉l→cleanL l=l
 | [],_=>rfl
 | c::r,h=>by
   have h1:c≠0:=fun e=>h (by simp [e])
   rw [cleanL_cons,cleanL_of_no0 (fun e=>h (by simp [e]))];simp [cleanB,h1]
theorem normF_no13 (l:List UInt8):∀ b,(13:UInt8)∉normF b l:=by
 induction l with
 | nil=>intro b;simp [normF]
 | cons c r ih =>
   intro b
   simp only [normF]
   split
   · exact ih _
   · split
     · simp [ih]
     · rename_i h;simp only [List.mem_cons,not_or];exact ⟨fun e=>h e.symm,ih _⟩
theorem normL_no13 (l:List UInt8):(13:UInt8)∉normL l:=normF_no13 l false
theorem normL_of_no13:∀ {l:List UInt8},(13:UInt8)∉l→normL l=l
 | [],_=>rfl
 | c::r,h=>by
   have h1:c≠13:=fun e=>h (by simp [e])
   rw [normL_ne h1,normL_of_no13 (fun e=>h (by simp [e]))]
end Go.Proofs.YtcecjoaeolglbaaGreatDoor.Pl
end

section
namespace Go.Proofs.YtcecjoaeolglbaaGreatDoor.Hand
open Go.RowKit Go.Proofs.YtcecjoaeolglbaaGreatDoor.Pl
section
variable {P : Program} {a : Act} {w : World} {Q : Exit → Act → World → Prop}
end
theorem byteCells_snoc (acc:List UInt8) (c:UInt8):Lib.byteCells acc++[.int .u8 (c.toNat:Int)]=Lib.byteCells (acc++[c]):=by
 simp [Lib.byteCells]
def NormJ (s:ByteArray) (w:World) (a':Act) (wr:World):Prop :=
 ∃ (pos:Nat) (acc:List UInt8) (u1 u5 u6 u7 u8 u9 u10 u11 u12 u13 u14 u15 u16 u17 u18 u19 u20 u21 u22 u23 u24 u25 u26 u27 u28 u29 u30 u31 u32 u33 u34:Value),
   a'={ tmps := #[.string s,u1,.string ⟨#[]⟩,.pointer (some ⟨w.heap.size,0,none⟩),.int .i64 pos,u5,u6,u7,u8,u9,u10,u11,u12,u13,u14,u15,u16,u17,u18,u19,u20,u21,u22,u23,u24,u25,u26,u27,u28,u29,u30,u31,u32,u33,u34],defers:=[] } ∧
   Lib.IsBuilder 54 5 w.heap.size w.heap.size (Lib.byteCells acc) wr∧Below w.heap.size w wr∧pos≤s.size∧acc.length≤pos∧acc++normL (s.data.toList.drop pos)=normL s.data.toList
set_option maxHeartbeats 400000 in
theorem norm_any (s:ByteArray) (w:World) (hs:s.size≤35184372088832) :
  Calls Tryz.prog 24 #[.string s] w fun e w'=>e = .returned (.string ⟨(normL s.data.toList).toArray⟩)∧Below w.heap.size w w':=by
 go_enter Tryz.func24,Tryz.ntmps24
 go_wp2
 refine wp_scope_at 0 (NormJ s w) (fun a' _=>s.size - (intOf (a'.tmps.getD 4 undef)).toNat) rfl ?_ ?_
 · intro hB
   have HB:=Lib.hid hB
   clear hB
   go_wp2
   refine wp_label_k (by assumption) (HB.out _ _ ?_)
   refine ⟨0,[],undef,undef,undef,undef,undef,undef,undef,undef,undef,undef,undef,undef,undef,undef,undef,undef,undef,undef,undef,undef,undef,undef,undef,undef,undef,undef,undef,undef,undef,undef,undef,rfl,Lib.fresh_isBuilder 54 5 w,(Below.refl _ w).alloc (Nat.le_refl _) _,by omega,by simp,by simp⟩
 · rintro a' wr ⟨pos,acc,u1,u5,u6,u7,u8,u9,u10,u11,u12,u13,u14,u15,u16,u17,u18,u19,u20,u21,u22,u23,u24,u25,u26,u27,u28,u29,u30,u31,u32,u33,u34,rfl,hI,hb,hp,hl,hacc⟩
   have hbs:=hb.size
   by_cases hlt:pos<s.size
   · by_cases h13:s[pos]=13
     · have h13':(((s[pos].toNat:Int)) != 13)=false:=by rw [h13];rfl
       have hd:=drop_cons s pos hlt
       rw [h13] at hd
       have HD:=Lib.hid hd
       have HA:=Lib.hid hacc
       clear hd hacc h13
       go_wp2_with (go_at_call 48;refine (Tryz.Builder_WriteByte w.heap.size w.heap.size _ 10 wr hI (by rw [Lib.byteCells_length];omega) hbs).mono ?_)
       rintro e w1 ⟨rfl,h1,b1⟩
       have HW:=Lib.hid (hb.trans b1)
       have H1:=Lib.hid h1
       clear h1 b1 hb hI hbs
       go_wp2
       · rename_i hq1 hq2 hq3
         have hlt1:pos+1<s.size:=by omega
         have h10:s[pos+1]=10:=by
          have:=beq_iff_eq.1 hq3;apply UInt8.toNat_inj.1;exact Int.ofNat_inj.1 this
         have hd1:=drop_cons s (pos+1) hlt1
         go_step3
         refine ⟨rfl,⟨pos+2,acc++[10],_,_,_,_,_,_,_,_,_,_,_,_,_,_,_,_,_,_,_,_,_,_,_,_,_,_,_,_,_,_,_,rfl,?_,HW.out,by omega,by simp;omega,?_⟩,?_⟩
         · exact Or.inr (by rw [← byteCells_snoc];exact H1.out)
         · rw [← HA.out,HD.out,hd1,h10,normL_13_10];simp
         · simp [intOf];omega
       · rename_i hq1 hq2 hq3
         have hlt1:pos+1<s.size:=by omega
         have h10:s[pos+1]≠10:=by
          intro h;rw [h] at hq3;simp at hq3
         have hd1:=drop_cons s (pos+1) hlt1
         go_step3
         refine ⟨rfl,⟨pos+1,acc++[10],_,_,_,_,_,_,_,_,_,_,_,_,_,_,_,_,_,_,_,_,_,_,_,_,_,_,_,_,_,_,_,rfl,?_,HW.out,by omega,by simp;omega,?_⟩,?_⟩
         · exact Or.inr (by rw [← byteCells_snoc];exact H1.out)
         · rw [← HA.out,HD.out,hd1,normL_13_ne h10];simp
         · simp [intOf];omega
       · have hd1:s.data.toList.drop (pos+1)=[]:=List.drop_eq_nil_of_le (by simp;omega)
         go_step3
         refine ⟨rfl,⟨pos+1,acc++[10],_,_,_,_,_,_,_,_,_,_,_,_,_,_,_,_,_,_,_,_,_,_,_,_,_,_,_,_,_,_,_,rfl,?_,HW.out,by omega,by simp;omega,?_⟩,?_⟩
         · exact Or.inr (by rw [← byteCells_snoc];exact H1.out)
         · rw [← HA.out,HD.out,hd1,normL_13_end,normL_nil];simp
         · simp [intOf];omega
     · have h13':(((s[pos].toNat:Int)) != 13)=true:=by
        rw [bne_iff_ne];intro h;apply h13;apply UInt8.toNat_inj.1;exact Int.ofNat_inj.1 h
       have hd:=drop_cons s pos hlt
       have HD:=Lib.hid hd
       have HA:=Lib.hid hacc
       clear hd hacc
       go_wp2_with (go_at_call 48;refine (Tryz.Builder_WriteByte w.heap.size w.heap.size _ _ wr hI (by rw [Lib.byteCells_length];omega) hbs).mono ?_)
       rintro e w1 ⟨rfl,h1,b1⟩
       have HW:=Lib.hid (hb.trans b1)
       have H1:=Lib.hid h1
       clear h1 b1 hb hI hbs
       go_wp2
       go_step3
       refine ⟨rfl,⟨pos+1,acc++[s[pos]],_,_,_,_,_,_,_,_,_,_,_,_,_,_,_,_,_,_,_,_,_,_,_,_,_,_,_,_,_,_,_,rfl,?_,HW.out,by omega,by simp;omega,?_⟩,?_⟩
       · exact Or.inr (by rw [← byteCells_snoc];exact H1.out)
       · rw [← HA.out,HD.out,normL_ne h13];simp
       · simp [intOf];omega
   · obtain rfl:pos=s.size:=by omega
     have HA:=Lib.hid hacc
     clear hacc
     go_wp2_with (go_at_call 45;refine (Tryz.Builder_String_any w.heap.size w.heap.size acc wr hI hbs).mono ?_)
     rintro e w1 ⟨rfl,b1⟩
     go_wp2
     simp only [Exit.jump]
     go_ret
     have he:acc=normL s.data.toList:=by rw [← HA.out,List.drop_eq_nil_of_le (by simp),normL_nil,List.append_nil]
     rw [he]
     exact ⟨rfl,hb.trans b1⟩
end Go.Proofs.YtcecjoaeolglbaaGreatDoor.Hand
end

section
namespace Go.Proofs.YtcecjoaeolglbaaGreatDoor.Hand
open Go.RowKit
theorem once_disable (w:World):(callFunc 204 #[]).run Tryz.prog w = .ok (.value (.tuple #[])) w:=run_call_mark0 Tryz.func204 (by kernel_rfl) (by kernel_rfl) (by kernel_rfl) .disable (by kernel_rfl) w
theorem once_enable (w:World):(callFunc 206 #[]).run Tryz.prog w = .ok (.value (.tuple #[])) w:=run_call_mark0 Tryz.func206 (by kernel_rfl) (by kernel_rfl) (by kernel_rfl) .enable (by kernel_rfl) w
theorem once_acquire (a:Addr) (w:World):(callFunc 207 #[.pointer (some a)]).run Tryz.prog w = .ok (.value (.tuple #[])) w:=run_call_marked Tryz.func207 (by kernel_rfl) (by kernel_rfl) (by kernel_rfl) .acquire (by kernel_rfl) a w
theorem once_releaseMerge (a:Addr) (w:World):(callFunc 209 #[.pointer (some a)]).run Tryz.prog w = .ok (.value (.tuple #[])) w:=run_call_marked Tryz.func209 (by kernel_rfl) (by kernel_rfl) (by kernel_rfl) .releaseMerge (by kernel_rfl) a w
theorem once_store_deferred (a:Addr) (x:Value) (u:FrameMode) (w:World) (hc:w.cell? a=some x) (hz:w.frozen? a=false) :
  CallsD Tryz.prog 145 #[.pointer (some a),.bool true] u w fun e u' w'=>u'=u∧(e = .returned (.tuple #[])∧w'=w.drew.setCell a (.int .u32 1)):=by
 have hc':w.drew.cell? a=some x:=by go_simp
 have hz':w.drew.frozen? a=false:=by go_simp
 have hst:=run_call_store (P:=Tryz.prog) Tryz.func188 (by kernel_rfl) (by kernel_rfl) (by kernel_rfl) (by kernel_rfl) (k:=.u32) (y:=1) hc' hz'
 go_enter_d Tryz.func145,Tryz.ntmps145
 go_wp2
 go_region_calls
 all_goals (go_end0;exact ⟨rfl,rfl⟩)
set_option maxRecDepth 100000 in
set_option maxHeartbeats 800000 in
theorem once_unlock_deferred (a:Addr) (u:FrameMode) (w:World) (hc:w.cell? a=some (.int .i32 1)) (hz:w.frozen? a=false) :
  CallsD Tryz.prog 144 #[.pointer (some a)] u w fun e u' w'=>u'=u∧(e = .returned (.tuple #[])∧w'=w.setCell a (.int .i32 0)):=by
 have hd:=once_disable
 have he:=once_enable
 have hr:=once_releaseMerge
 have hadd:=run_call_add (P:=Tryz.prog) Tryz.func210 (by kernel_rfl) (by kernel_rfl) (by kernel_rfl) .i32 (by kernel_rfl) (y := -1) (s:=0) hc hz (by simp [go_sem];rfl)
 have hcv:=run_convert_to_unsafe (P:=Tryz.prog) (src:=240) (dst:=132) Tryz.underlying240 Tryz.underlying132 (by kernel_rfl) hc
 go_enter_d Tryz.func144,Tryz.ntmps144
 go_wp2
 go_end0
 go_wp2
 go_end0
 exact ⟨rfl,rfl⟩
set_option maxRecDepth 100000 in
set_option maxHeartbeats 800000 in
theorem once_lock_free (a:Addr) (w:World) (hc:w.cell? a=some (.int .i32 0)) (hz:w.frozen? a=false) :
  Calls Tryz.prog 143 #[.pointer (some a)] w fun e w'=>e = .returned (.tuple #[])∧w'=w.setCell a (.int .i32 1):=by
 have hd:=once_disable
 have he:=once_enable
 have ha:=once_acquire
 have hcas:=run_call_cas_hit (P:=Tryz.prog) Tryz.func205 (by kernel_rfl) (by kernel_rfl) (by kernel_rfl) .i32 (by kernel_rfl) (y:=1) hc hz
 have hc':(w.setCell a (.int .i32 1)).cell? a=some (.int .i32 1):=World.cell?_setCell_same w a _ hc
 have hcv:=run_convert_to_unsafe (P:=Tryz.prog) (src:=240) (dst:=132) Tryz.underlying240 Tryz.underlying132 (by kernel_rfl) hc'
 go_enter Tryz.func143,Tryz.ntmps143
 go_wp2
 first|go_end0 | (simp only [Exit.inBlock,Exit.then];refine bodyPost_ret (results_none rfl _ _ _) rfl ?_)|refine bodyPost_ret (results_none rfl _ _ _) rfl ?_
 go_wp2
 go_end0
 exact ⟨rfl,rfl⟩
structure OnceRun (b:Nat) (w:World) (Post:World→Prop):Prop where
 run:Calls Tryz.prog 74 #[.pointer (some ⟨b,0,none⟩)] w fun e w'=>e = .returned (.tuple #[])∧(w'.cell? ⟨b,0,none⟩=some (.int .u32 0)∧w'.cell? ⟨b,1,none⟩=some (.int .i32 1)∧w'.frozen? ⟨b,0,none⟩=false∧w'.frozen? ⟨b,1,none⟩=false∧Post w')
set_option maxRecDepth 100000 in
set_option maxHeartbeats 1600000 in
theorem once_slow (b:Nat) (Post:World→Prop) (w:World)
  (h0:w.cell? ⟨b,0,none⟩=some (.int .u32 0)) (h1:w.cell? ⟨b,1,none⟩=some (.int .i32 0))
  (f0:w.frozen? ⟨b,0,none⟩=false) (f1:w.frozen? ⟨b,1,none⟩=false)
  (hrun:OnceRun b (w.setCell ⟨b,1,none⟩ (.int .i32 1)) Post) :
  Calls Tryz.prog 104 #[.pointer (some ⟨b,0,none⟩),.func (.func 74) #[.pointer (some ⟨b,0,none⟩)] #[]] w fun e w'=>e = .returned (.tuple #[]) ∧
   ∃ w2,Post w2∧w'=(w2.drew.setCell ⟨b,0,none⟩ (.int .u32 1)).setCell ⟨b,1,none⟩ (.int .i32 0):=by
 have hl:=run_call_load (P:=Tryz.prog) Tryz.func142 (by kernel_rfl) (by kernel_rfl) (by kernel_rfl) .u32 (by kernel_rfl) (w:=w.setCell ⟨b,1,none⟩ (.int .i32 1)) (a:=⟨b,0,none⟩) (x:=0) ((World.cell?_setCell_other _ ⟨b,1,none⟩ ⟨b,0,none⟩ _ (by simp)).trans h0)
 have hnot:∀ (x:Bool) (w:World),(Op.unary .not (.bool x)).run Tryz.prog w = .ok (.bool (!x)) w:=fun _ _=>rfl
 go_enter_defers Tryz.func104,Tryz.ntmps104
 go_wp2_with (first | (go_at_call 143;refine (once_lock_free ⟨b,1,none⟩ _ (by go_simp) (by go_simp)).mono ?_;rintro e w' ⟨rfl,rfl⟩) | (go_at_call 103;go_in))
 refine hrun.run.mono ?_
 rintro e w2 ⟨rfl,g0,g1,z0,z1,hp⟩
 have HP:=Lib.hid hp
 clear hp h0 h1 f0 f1 hrun hl
 go_wp2_with fail
 refine leaves_cons (f:=145) (args := #[.pointer (some ⟨b,0,none⟩),.bool true]) (by simp) (by simp [go_sem]) ?_
 refine (once_store_deferred ⟨b,0,none⟩ (.int .u32 0) .returning _ g0 z0).mono ?_
 rintro e u' w'' ⟨rfl,rfl,rfl⟩
 refine leaves_cons (f:=144) (args := #[.pointer (some ⟨b,1,none⟩)]) (by simp [settle]) (by simp [go_sem]) ?_
 refine (once_unlock_deferred ⟨b,1,none⟩ _ _ ?_ (by simp [z1])).mono ?_
 · refine (World.cell?_setCell_other _ ⟨b,0,none⟩ ⟨b,1,none⟩ _ (by simp)).trans ?_
   rw [World.cell?_drew]
   exact g1
 rintro e u' w'' ⟨rfl,rfl,rfl⟩
 exact ⟨.tuple #[],results_none rfl _ _ _,rfl,w2,HP.out,rfl⟩
set_option maxRecDepth 100000 in
set_option maxHeartbeats 1600000 in
theorem once_do (b:Nat) (Post:World→Prop) (w:World)
  (h0:w.cell? ⟨b,0,none⟩=some (.int .u32 0)) (h1:w.cell? ⟨b,1,none⟩=some (.int .i32 0))
  (f0:w.frozen? ⟨b,0,none⟩=false) (f1:w.frozen? ⟨b,1,none⟩=false)
  (hrun:OnceRun b (w.setCell ⟨b,1,none⟩ (.int .i32 1)) Post) :
  Calls Tryz.prog 73 #[.pointer (some ⟨b,0,none⟩),.func (.func 74) #[.pointer (some ⟨b,0,none⟩)] #[]] w fun e w'=>e = .returned (.tuple #[]) ∧
   ∃ w2,Post w2∧w'=(w2.drew.setCell ⟨b,0,none⟩ (.int .u32 1)).setCell ⟨b,1,none⟩ (.int .i32 0):=by
 have hl:=run_call_load (P:=Tryz.prog) Tryz.func142 (by kernel_rfl) (by kernel_rfl) (by kernel_rfl) .u32 (by kernel_rfl) h0
 have hnot:∀ (x:Bool) (w:World),(Op.unary .not (.bool x)).run Tryz.prog w = .ok (.bool (!x)) w:=fun _ _=>rfl
 have C:=Lib.hid (once_slow b Post w h0 h1 f0 f1 hrun)
 clear h0 h1 f0 f1 hrun
 go_enter Tryz.func73,Tryz.ntmps73
 go_wp2_with (go_at_call 103;go_in)
 refine C.out.mono ?_
 rintro e w' ⟨rfl,hw⟩
 have HW:=Lib.hid hw
 clear hw C
 go_wp2_with fail
 go_end0
 exact ⟨rfl,HW.out⟩
end Go.Proofs.YtcecjoaeolglbaaGreatDoor.Hand
end

section
namespace Go.Proofs.YtcecjoaeolglbaaGreatDoor.Hand
open Go.RowKit
theorem Blk.of_alloc (v:Array Value) (t:TypeId) (w:World):Blk w.heap.size v (w.alloc (.cells v t)) :=
 ⟨fun j _=>World.cell?_alloc_at v t _ j rfl,fun j=>World.frozen?_alloc_at v t _ j rfl⟩
theorem Blk.below {b:Nat} {v:Array Value} {W W':World} (h:Blk b v W) {n:Nat} (hb:Below n W W') (hn:b<n):Blk b v W' :=
 ⟨fun j hj=>(hb.cell (p:=⟨b,j,none⟩) hn).trans (h.cell j hj),fun j=>(hb.frozen (p:=⟨b,j,none⟩) hn).trans (h.open_ j)⟩
structure Live (w W:World) (L:List (Nat×Array Value)):Prop where
 glob:Glob W
 below:Below w.heap.size w W
 blk:∀ x∈L,x.1<W.heap.size∧Blk x.1 x.2 W
theorem Live.call {w W W':World} {L:List (Nat×Array Value)} (h:Live w W L) (hb:Below W.heap.size W W'):Live w W' L :=
 ⟨h.glob.step hb,h.below.trans (hb.mono h.below.size),fun x hx=>⟨Nat.lt_of_lt_of_le (h.blk x hx).1 hb.size,(h.blk x hx).2.below hb (h.blk x hx).1⟩⟩
end Go.Proofs.YtcecjoaeolglbaaGreatDoor.Hand
end

section
namespace Go.Proofs.YtcecjoaeolglbaaGreatDoor.Hand
open Go.RowKit
theorem Blk.set {b:Nat} {v:Array Value} {W:World} (h:Blk b v W) (k:Nat) (x:Value) (hk:k<v.size):Blk b (v.setIfInBounds k x) (W.setCell ⟨b,k,none⟩ x):=by
 refine ⟨fun j hj => ?_,fun j=>by rw [World.frozen?_setCell];exact h.open_ j⟩
 rw [Array.size_setIfInBounds] at hj
 by_cases e:j=k
 · subst e
   rw [World.cell?_setCell_same' _ _ _ (by rw [h.cell j hj];simp [hj]),Array.getElem?_setIfInBounds_self_of_lt hk]
 · rw [World.cell?_setCell_other _ _ _ _ (ne_off (Ne.symm e)),h.cell j hj,Array.getElem?_setIfInBounds_ne (Ne.symm e)]
theorem Blk.other {b b':Nat} {v:Array Value} {W:World} (h:Blk b v W) (k:Nat) (x:Value) (hb:b'≠b):Blk b v (W.setCell ⟨b',k,none⟩ x) :=
 ⟨fun j hj=>by rw [World.cell?_setCell_other _ _ _ _ (by intro e;injection e with e;exact hb e)];exact h.cell j hj,fun j=>by rw [World.frozen?_setCell];exact h.open_ j⟩
end Go.Proofs.YtcecjoaeolglbaaGreatDoor.Hand
end

section
namespace Go.Proofs.YtcecjoaeolglbaaGreatDoor.Hand
open Go.RowKit
def nodeZ:Array Value := #[.string ⟨#[]⟩,.int .i64 0,.string ⟨#[]⟩,.pointer none,.slice none 0 0]
def nodeV (v:ByteArray) (p:Int):Array Value := #[.string v,.int .i64 p,.string ⟨#[]⟩,.pointer none,.slice none 0 0]
def nodeP (t:ByteArray) (b:Nat):Array Value := #[.string ⟨#[]⟩,.int .i64 0,.string t,.pointer (some ⟨b,0,none⟩),.slice none 0 0]
set_option maxRecDepth 100000 in
set_option maxHeartbeats 2000000 in
theorem add_leaf (b:Nat) (v:ByteArray) (p:Int) (r:Value) (w:World) (hb:Blk b nodeZ w) :
  Calls Tryz.prog 191 #[.pointer (some ⟨b,0,none⟩),.string ⟨#[]⟩,.string v,.int .i64 p,r] w fun e w'=>e = .returned (.tuple #[]) ∧
   w'=(w.setCell ⟨b,0,none⟩ (.string v)).setCell ⟨b,1,none⟩ (.int .i64 p):=by
 have c0:=hb.cell 0 (by decide)
 have c1:=hb.cell 1 (by decide)
 have hz:=hb.open_
 have c1':∀ x,(w.setCell ⟨b,0,none⟩ x).cell? ⟨b,1,none⟩=some (.int .i64 0):=fun x=>by
  rw [World.cell?_setCell_other _ _ _ _ (by simp)];exact c1
 simp only [nodeZ,List.getElem?_toArray,List.getElem?_cons_succ,List.getElem?_cons_zero] at c0 c1
 clear hb
 go_enter Tryz.func191,Tryz.ntmps191
 go_wp2_with fail
 refine bodyPost_ret (results_none rfl _ _ _) rfl ?_
 exact ⟨rfl,rfl⟩
set_option maxRecDepth 100000 in
set_option maxHeartbeats 2000000 in
theorem add_tail (b:Nat) (t v:ByteArray) (p:Int) (r:Value) (w:World) (ht:¬ t.toList=[]) (hb:Blk b nodeZ w) (hlt:b<w.heap.size) :
  Calls Tryz.prog 191 #[.pointer (some ⟨b,0,none⟩),.string t,.string v,.int .i64 p,r] w fun e w'=>e = .returned (.tuple #[]) ∧
   w'=((((w.setCell ⟨b,2,none⟩ (.string t)).alloc (.cells nodeZ 222)).setCell ⟨b,3,none⟩ (.pointer (some ⟨w.heap.size,0,none⟩))).setCell ⟨w.heap.size,0,none⟩ (.string v)).setCell ⟨w.heap.size,1,none⟩ (.int .i64 p):=by
 have ht':t.toList.isEmpty=false:=by simpa using ht
 have c1:=hb.cell 1 (by decide)
 have c2:=hb.cell 2 (by decide)
 have c4:=hb.cell 4 (by decide)
 have hz:=hb.open_
 simp only [nodeZ,List.getElem?_toArray,List.getElem?_cons_succ,List.getElem?_cons_zero] at c1 c2 c4
 have hlt':b<(w.setCell ⟨b,2,none⟩ (.string t)).heap.size:=by simpa using hlt
 have d3:((w.setCell ⟨b,2,none⟩ (.string t)).alloc (.cells nodeZ 222)).cell? ⟨b,3,none⟩=some (.pointer none):=by
  rw [World.cell?_alloc_past _ _ _ hlt',World.cell?_setCell_other _ _ _ _ (by simp)]
  exact hb.cell 3 (by decide)
 have f3:∀ j,((w.setCell ⟨b,2,none⟩ (.string t)).alloc (.cells nodeZ 222)).frozen? ⟨b,j,none⟩=false:=fun j=>by
  rw [World.frozen?_alloc_past _ _ _ hlt',World.frozen?_setCell]
  exact hz j
 have d3':∀ x,(((w.setCell ⟨b,2,none⟩ (.string t)).alloc (.cells nodeZ 222)).setCell ⟨b,3,none⟩ x).cell? ⟨b,3,none⟩=some x:=fun x=>World.cell?_setCell_same _ _ _ d3
 have HN:Hid (∀ x,Blk w.heap.size nodeZ (((w.setCell ⟨b,2,none⟩ (.string t)).alloc (.cells nodeZ 222)).setCell ⟨b,3,none⟩ x)):=Lib.hid (fun x=>by
  have h:=(Blk.of_alloc nodeZ 222 (w.setCell ⟨b,2,none⟩ (.string t))).other (b':=b) 3 x (by simp;omega)
  rwa [World.size_setCell] at h)
 clear hlt hlt' hb
 unfold nodeZ at d3 f3 d3'
 go_enter Tryz.func191,Tryz.ntmps191
 go_wp2_with fail
 refine (add_leaf w.heap.size v p r _ (HN.out _)).mono ?_
 rintro e w' ⟨rfl,rfl⟩
 go_wp2_with fail
 go_end0
 exact ⟨rfl,rfl⟩
end Go.Proofs.YtcecjoaeolglbaaGreatDoor.Hand
end

section
namespace Go.Proofs.YtcecjoaeolglbaaGreatDoor.Pb
open Go Go.RowKit Go.Proofs.YtcecjoaeolglbaaGreatDoorW.PrintWords
theorem wrap_id (n:Int) (h0 : -9223372036854775808≤n) (h:n<9223372036854775808):wrap64 n=n:=by unfold wrap64;omega
end Go.Proofs.YtcecjoaeolglbaaGreatDoor.Pb
end

section
namespace Go.Proofs.YtcecjoaeolglbaaGreatDoor.Hand
open Go.RowKit Go.Proofs.YtcecjoaeolglbaaGreatDoor.Pb
theorem wp_world {P:Program} {s:Code} {Q:Exit→Act→World→Prop} {a:Act} {w W:World} (h:w=W) (hw:s.wp P Q a W):s.wp P Q a w:=h ▸ hw
structure BlkF (b n:Nat) (f:Nat→Value) (W:World):Prop where
 cell:∀ j,j<n→W.cell? ⟨b,j,none⟩=some (f j)
 open_:∀ j,W.frozen? ⟨b,j,none⟩=false
def upd (f:Nat→Value) (k:Nat) (x:Value):Nat→Value:=fun j=>if j=k then x else f j
theorem upd_same (f:Nat→Value) (k:Nat) (x:Value):upd f k x k=x:=if_pos rfl
theorem upd_ne (f:Nat→Value) {k j:Nat} (x:Value) (h:j≠k):upd f k x j=f j:=if_neg h
theorem BlkF.set {b n:Nat} {f:Nat→Value} {W:World} (h:BlkF b n f W) (k:Nat) (x:Value) (hk:k<n):BlkF b n (upd f k x) (W.setCell ⟨b,k,none⟩ x):=by
 refine ⟨fun j hj => ?_,fun j=>by rw [World.frozen?_setCell];exact h.open_ j⟩
 by_cases e:j=k
 · subst e
   rw [World.cell?_setCell_same _ _ _ (h.cell j hj),upd_same]
 · rw [World.cell?_setCell_other _ _ _ _ (ne_off (Ne.symm e)),h.cell j hj,upd_ne _ _ e]
theorem BlkF.other {b b' n:Nat} {f:Nat→Value} {W:World} (h:BlkF b n f W) (k:Nat) (x:Value) (hb:b'≠b):BlkF b n f (W.setCell ⟨b',k,none⟩ x) :=
 ⟨fun j hj=>by rw [World.cell?_setCell_other _ _ _ _ (by intro e;injection e with e;exact hb e)];exact h.cell j hj,fun j=>by rw [World.frozen?_setCell];exact h.open_ j⟩
theorem BlkF.below {b n:Nat} {f:Nat→Value} {W W':World} (h:BlkF b n f W) {B:Nat} (hb:Below B W W') (hn:b<B):BlkF b n f W' :=
 ⟨fun j hj=>(hb.cell (p:=⟨b,j,none⟩) hn).trans (h.cell j hj),fun j=>(hb.frozen (p:=⟨b,j,none⟩) hn).trans (h.open_ j)⟩
theorem BlkF.congr {b n:Nat} {f g:Nat→Value} {W:World} (h:BlkF b n f W) (e:∀ j,j<n→f j=g j):BlkF b n g W:=⟨fun j hj=>by rw [h.cell j hj,e j hj],h.open_⟩
structure But (n bt:Nat) (w W:World):Prop where
 below:Below n w W
 same:∀ b,b<w.heap.size→b≠bt→(∀ j,W.cell? ⟨b,j,none⟩=w.cell? ⟨b,j,none⟩)∧(∀ j,W.frozen? ⟨b,j,none⟩=w.frozen? ⟨b,j,none⟩)
theorem But.refl (n bt:Nat) (w:World):But n bt w w:=⟨Below.refl _ _,fun _ _ _=>⟨fun _=>rfl,fun _=>rfl⟩⟩
theorem But.set {n bt:Nat} {w W:World} (h:But n bt w W) (b k:Nat) (x:Value) (hn:n≤b) (hb:b=bt∨w.heap.size≤b):But n bt w (W.setCell ⟨b,k,none⟩ x):=by
 refine ⟨h.below.setCell hn _,fun c hc hne => ?_⟩
 have hcb:b≠c:=by rintro rfl;rcases hb with h|h<;>omega
 refine ⟨fun j => ?_,fun j=>by rw [World.frozen?_setCell];exact (h.same c hc hne).2 j⟩
 rw [World.cell?_setCell_other _ _ _ _ (by intro e;injection e with e;exact hcb e)]
 exact (h.same c hc hne).1 j
theorem But.below' {n bt:Nat} {w W W':World} (h:But n bt w W) (hb:Below W.heap.size W W') (hn:n≤w.heap.size):But n bt w W' :=
 ⟨h.below.trans (hb.mono (Nat.le_trans hn h.below.size)),fun c hc hne=>⟨fun j=>(hb.cell (p:=⟨c,j,none⟩) (Nat.lt_of_lt_of_le hc h.below.size)).trans ((h.same c hc hne).1 j),fun j=>(hb.frozen (p:=⟨c,j,none⟩) (Nat.lt_of_lt_of_le hc h.below.size)).trans ((h.same c hc hne).2 j)⟩⟩
theorem But.alloc {n bt:Nat} {w W:World} (h:But n bt w W) (hn:n≤w.heap.size) (o:Obj):But n bt w (W.alloc o):=h.below' (Below.alloc (Below.refl _ _) (Nat.le_refl _) _) hn
theorem But.drewN {n bt:Nat} {w W:World} (h:But n bt w W) (hn:n≤w.heap.size) (k:Nat):But n bt w (W.drewN k):=h.below' ⟨rfl,rfl,rfl,Nat.le_refl _,fun _ _=>rfl⟩ hn
theorem But.drew {n bt:Nat} {w W:World} (h:But n bt w W) (hn:n≤w.heap.size):But n bt w W.drew:=h.below' (Below.drew (Below.refl _ _)) hn
theorem But.blkF {n bt b m:Nat} {f:Nat→Value} {w W:World} (h:But n bt w W) (hb:BlkF b m f w) (hs:b<w.heap.size) (hne:b≠bt):BlkF b m f W :=
 ⟨fun j hj=>((h.same b hs hne).1 j).trans (hb.cell j hj),fun j=>((h.same b hs hne).2 j).trans (hb.open_ j)⟩
theorem But.blk {n bt b:Nat} {v:Array Value} {w W:World} (h:But n bt w W) (hb:Blk b v w) (hs:b<w.heap.size) (hne:b≠bt):Blk b v W :=
 ⟨fun j hj=>((h.same b hs hne).1 j).trans (hb.cell j hj),fun j=>((h.same b hs hne).2 j).trans (hb.open_ j)⟩
def NodeAt (lo b:Nat) (t:List UInt8) (v:ByteArray) (p:Int) (W:World):Prop :=
 lo≤b∧b<W.heap.size∧((t=[]∧Blk b (nodeV v p) W)∨(t≠[]∧∃ b2,lo≤b2∧b2<W.heap.size∧Blk b (nodeP (B t) b2) W∧Blk b2 (nodeV v p) W))
theorem NodeAt.but {lo n bt b:Nat} {t:List UInt8} {v:ByteArray} {p:Int} {w W:World} (h:NodeAt lo b t v p w) (hb:But n bt w W) (hl:bt<lo):NodeAt lo b t v p W:=by
 obtain ⟨h1,h2,h3⟩:=h
 refine ⟨h1,Nat.lt_of_lt_of_le h2 hb.below.size,?_⟩
 rcases h3 with ⟨ht,h3⟩|⟨ht,b2,h4,h5,h6,h7⟩
 · exact .inl ⟨ht,hb.blk h3 h2 (by omega)⟩
 · exact .inr ⟨ht,b2,h4,Nat.lt_of_lt_of_le h5 hb.below.size,hb.blk h6 h2 (by omega),hb.blk h7 h5 (by omega)⟩
abbrev tailW (W:World) (b:Nat) (t v:ByteArray) (p:Int):World :=
 ((((W.setCell ⟨b,2,none⟩ (.string t)).alloc (.cells nodeZ 222)).setCell ⟨b,3,none⟩ (.pointer (some ⟨W.heap.size,0,none⟩))).setCell ⟨W.heap.size,0,none⟩ (.string v)).setCell ⟨W.heap.size,1,none⟩ (.int .i64 p)
theorem tail_facts {b:Nat} {t v:ByteArray} {p:Int} {W:World} (h:Blk b nodeZ W) (hlt:b<W.heap.size):Blk b (nodeP t W.heap.size) (tailW W b t v p)∧Blk W.heap.size (nodeV v p) (tailW W b t v p):=by
 have hs:(W.setCell ⟨b,2,none⟩ (.string t)).heap.size=W.heap.size:=World.size_setCell ..
 have h2:=(h.set 2 (.string t) (by decide)).below (Below.alloc (Below.refl (W.setCell ⟨b,2,none⟩ (.string t)).heap.size (W.setCell ⟨b,2,none⟩ (.string t))) (Nat.le_refl _) (.cells nodeZ 222)) (by omega)
 have h3:=((h2.set 3 (.pointer (some ⟨W.heap.size,0,none⟩)) (by simp [nodeZ])).other (b':=W.heap.size) 0 (.string v) (by omega)).other (b':=W.heap.size) 1 (.int .i64 p) (by omega)
 have g:=Blk.of_alloc nodeZ 222 (W.setCell ⟨b,2,none⟩ (.string t))
 rw [hs] at g
 have g3:=((g.other (b':=b) 3 (.pointer (some ⟨W.heap.size,0,none⟩)) (by omega)).set 0 (.string v) (by decide)).set 1 (.int .i64 p) (by simp [nodeZ])
 refine ⟨?_,?_⟩
 · have e:(nodeZ.setIfInBounds 2 (.string t)).setIfInBounds 3 (.pointer (some ⟨W.heap.size,0,none⟩))=nodeP t W.heap.size:=by simp [nodeZ,nodeP]
   rw [e] at h3;exact h3
 · have e:(nodeZ.setIfInBounds 0 (.string v)).setIfInBounds 1 (.int .i64 p)=nodeV v p:=by simp [nodeZ,nodeV]
   rw [e] at g3;exact g3
theorem tail_other {b bt ts:Nat} {f:Nat→Value} {t v:ByteArray} {p:Int} {W:World} (h:BlkF bt ts f W) (hlt:b<W.heap.size) (hb:b≠bt) (hbt:bt<W.heap.size):BlkF bt ts f (tailW W b t v p):=by
 have hs:(W.setCell ⟨b,2,none⟩ (.string t)).heap.size=W.heap.size:=World.size_setCell ..
 have h2:=(h.other (b':=b) 2 (.string t) hb).below (Below.alloc (Below.refl (W.setCell ⟨b,2,none⟩ (.string t)).heap.size (W.setCell ⟨b,2,none⟩ (.string t))) (Nat.le_refl _) (.cells nodeZ 222)) (by omega)
 exact ((h2.other (b':=b) 3 (.pointer (some ⟨W.heap.size,0,none⟩)) hb).other (b':=W.heap.size) 0 (.string v) (by omega)).other (b':=W.heap.size) 1 (.int .i64 p) (by omega)
theorem tail_but {n bt b:Nat} {t v:ByteArray} {p:Int} {w W:World} (h:But n bt w W) (hn:n≤w.heap.size) (hb:w.heap.size≤b) (hW:w.heap.size≤W.heap.size):But n bt w (tailW W b t v p) :=
 ((((h.set b 2 _ (by omega) (.inr hb)).alloc hn _).set b 3 _ (by omega) (.inr hb)).set W.heap.size 0 _ (by omega) (.inr hW)).set W.heap.size 1 _ (by omega) (.inr hW)
set_option maxRecDepth 100000 in
set_option maxHeartbeats 4000000 in
theorem add_root (br bt ts n:Nat) (R T:Nat→Value) (c:UInt8) (t:List UInt8) (v:ByteArray) (p:Int) (m:Nat) (w:World)
  (ht:t.length≤1000) (hts:ts≤1000) (hR:BlkF br 262 R w) (hT:BlkF bt ts T w) (hm:m<ts) (hne:br≠bt) (hbr:br<w.heap.size) (hbt:bt<w.heap.size) (hn:n≤bt)
  (r2:R 2 = .string ⟨#[]⟩) (r4:R 4 = .slice (some ⟨bt,0,none⟩) ts ts) (rm:R (6+c.toNat) = .int .u8 (m:Int)) (tm:T m = .pointer none) :
  Calls Tryz.prog 191 #[.pointer (some ⟨br,0,none⟩),.string (B (c::t)),.string v,.int .i64 p,.pointer (some ⟨br,0,none⟩)] w fun e w'=>e = .returned (.tuple #[]) ∧
   ∃ b,w.heap.size≤b∧b<w'.heap.size∧BlkF bt ts (upd T m (.pointer (some ⟨b,0,none⟩))) w'∧NodeAt w.heap.size b t v p w'∧But n bt w w':=by
 have hk:(B (c::t)).toList.isEmpty=false:=by simp
 have hk':¬ (B (c::t)).toList=[]:=by simp
 have c2:=hR.cell 2 (by omega)
 have c4:=hR.cell 4 (by omega)
 have cm:=hR.cell (6+c.toNat) (by have:=c.toNat_lt;omega)
 rw [r2] at c2
 rw [r4] at c4
 rw [rm] at cm
 have tc:=hT.cell m hm
 rw [tm] at tc
 have zr:=hR.open_
 have zt:=hT.open_
 obtain ⟨a,ha⟩:∃ a,B (c::t)=a:=⟨_,rfl⟩
 have hsz:0<a.size:=by rw [← ha];simp
 have hsz':a.size≤1001:=by rw [← ha];simp;omega
 have hc:a[0]=c:=by subst ha;rfl
 have hx:a.extract 1 a.size=B t:=by rw [← ha,B_extract];simp
 rw [ha] at hk hk' ⊢
 rw [← hc] at cm
 have hb0:(0:Int)≤(a[0].toNat:Int):=by omega
 have hb1:(a[0].toNat:Int)<256:=by have:=a[0].toNat_lt;omega
 have hb2:a[0].toNat<256:=by have:=a[0].toNat_lt;omega
 have d1:∀ q,((w.drewN q).alloc (.cells nodeZ 222)).cell? ⟨bt,m,none⟩=some (.pointer none):=fun q=>by
  rw [World.cell?_alloc_past _ _ _ (by simpa using hbt)];exact tc
 have d3:∀ q x,(((w.drewN q).alloc (.cells nodeZ 222)).setCell ⟨bt,m,none⟩ x).cell? ⟨br,4,none⟩=some (.slice (some ⟨bt,0,none⟩) ts ts):=fun q x=>by
  rw [World.cell?_setCell_other _ _ _ _ (by intro e;injection e with e;exact hne e.symm),World.cell?_alloc_past _ _ _ (by simpa using hbr)];exact c4
 have d2:∀ q x,(((w.drewN q).alloc (.cells nodeZ 222)).setCell ⟨bt,m,none⟩ x).cell? ⟨bt,m,none⟩=some x:=fun q x=>World.cell?_setCell_same _ _ _ (d1 q)
 have f1:∀ q,((w.drewN q).alloc (.cells nodeZ 222)).frozen? ⟨bt,m,none⟩=false:=fun q=>by
  rw [World.frozen?_alloc_past _ _ _ (by simpa using hbt)];exact zt m
 have HBT:=Lib.hid hbt
 have HBR:=Lib.hid hbr
 have HNE:=Lib.hid hne
 have HNT:=Lib.hid hn
 have HX:=Lib.hid hx
 have HR:=Lib.hid hR
 have HT:=Lib.hid hT
 clear hx hR hT ha hc r2 r4 rm tm hbt hbr hne hn
 unfold nodeZ at d1 d2 d3 f1
 go_enter Tryz.func191,Tryz.ntmps191
 go_wp2_with fail
 go_quiet (fail)
 go_wp2_with fail
 have hW:∃ W,(((w.drewN nq).alloc (.cells nodeZ 222)).setCell ⟨bt,m,none⟩ (.pointer (some ⟨w.heap.size,0,none⟩)))=W:=⟨_,rfl⟩
 obtain ⟨W,hW⟩:=hW
 have e4:=d3 nq (.pointer (some ⟨w.heap.size,0,none⟩))
 have em:=d2 nq (.pointer (some ⟨w.heap.size,0,none⟩))
 have eB:Blk w.heap.size nodeZ W:=by
  rw [← hW]
  exact (Blk.of_alloc nodeZ 222 (w.drewN nq)).other (b':=bt) m (.pointer (some ⟨w.heap.size,0,none⟩)) (Nat.ne_of_lt HBT.out)
 have eT:BlkF bt ts (upd T m (.pointer (some ⟨w.heap.size,0,none⟩))) W:=by
  rw [← hW]
  refine BlkF.set ?_ m _ hm
  exact HT.out.below (B:=w.heap.size) (Below.alloc (⟨rfl,rfl,rfl,Nat.le_refl _,fun _ _=>rfl⟩:Below w.heap.size w (w.drewN nq)) (Nat.le_refl _) _) HBT.out
 have eU:But n bt w W:=by
  rw [← hW]
  have hn':n≤w.heap.size:=Nat.le_of_lt (Nat.lt_of_le_of_lt HNT.out HBT.out)
  exact ((((But.refl n bt w).drewN hn' nq).alloc hn' _).set bt m _ HNT.out (.inl rfl))
 have eS:W.heap.size=w.heap.size+1:=by rw [← hW];simp
 unfold nodeZ at hW
 rw [hW] at e4 em
 refine wp_world hW ?_
 clear d1 d2 d3 f1 c2 c4 tc cm
 have HW:=Lib.hid hW
 have HB:=Lib.hid eB
 have HT':=Lib.hid eT
 have HU:=Lib.hid eU
 clear hW eB eT eU HT HR zr zt
 have hb3:1≤a.size:=by omega
 have hb4:(1:Int)≤(a.size:Int):=by omega
 go_still_tail 12,(by kernel_rfl)
 change wpList _ _ _ _ _ W.drew
 have hb':Below W.heap.size W W.drew:=Below.drew (Below.refl _ _)
 have HB2:=Lib.hid (HB.out.below hb' (by omega))
 have HT2:=Lib.hid (HT'.out.below hb' (by have:=HBT.out;omega))
 have HU2:=Lib.hid (HU.out.drew (Nat.le_of_lt (Nat.lt_of_le_of_lt HNT.out HBT.out)))
 have eS2:W.drew.heap.size=w.heap.size+1:=eS
 generalize W.drew=W2 at HB2 HT2 HU2 eS2 ⊢
 clear hb' HB HT' HU HW e4 em eS
 have hn':n≤w.heap.size:=Nat.le_of_lt (Nat.lt_of_le_of_lt HNT.out HBT.out)
 by_cases htl:t=[]
 · subst htl
   have hx2:a.extract 1 a.size=⟨#[]⟩:=HX.out
   have C:=Lib.hid (add_leaf w.heap.size v p (.pointer (some ⟨br,0,none⟩)) W2 HB2.out)
   go_wp2_with fail
   rw [hx2]
   refine C.out.mono ?_
   rintro e w' ⟨rfl,hw⟩
   have hS3:w'.heap.size=w.heap.size+1:=by rw [hw];simpa using eS2
   have hN:Blk w.heap.size (nodeV v p) ((W2.setCell ⟨w.heap.size,0,none⟩ (.string v)).setCell ⟨w.heap.size,1,none⟩ (.int .i64 p)):=by
    have h:=(HB2.out.set 0 (.string v) (by decide)).set 1 (.int .i64 p) (by simp [nodeZ])
    simpa only [nodeZ,nodeV,List.setIfInBounds_toArray,List.set_cons_succ,List.set_cons_zero] using h
   have hT3:=(HT2.out.other (b':=w.heap.size) 0 (.string v) (by have:=HBT.out;omega)).other (b':=w.heap.size) 1 (.int .i64 p) (by have:=HBT.out;omega)
   have hU3:=(HU2.out.set w.heap.size 0 (.string v) hn' (.inr (Nat.le_refl _))).set w.heap.size 1 (.int .i64 p) hn' (.inr (Nat.le_refl _))
   rw [← hw] at hN hT3 hU3
   have HF:=Lib.hid (And.intro hN (And.intro hT3 hU3))
   clear hN hT3 hU3 hw
   have HS3:=Lib.hid hS3
   clear hS3 eS2
   go_wp2_with fail
   go_end0
   exact ⟨rfl,w.heap.size,Nat.le_refl _,by have:=HS3.out;omega,HF.out.2.1,⟨Nat.le_refl _,by have:=HS3.out;omega,.inl ⟨rfl,HF.out.1⟩⟩,HF.out.2.2⟩
 · have htl':¬ (B t).toList=[]:=by simpa using htl
   have C:=Lib.hid (add_tail w.heap.size (B t) v p (.pointer (some ⟨br,0,none⟩)) W2 htl' HB2.out (by omega))
   have hx2:=HX.out
   go_wp2_with fail
   rw [hx2]
   refine C.out.mono ?_
   rintro e w' ⟨rfl,hw⟩
   have hlt:w.heap.size<W2.heap.size:=by omega
   have hS3:w'.heap.size=w.heap.size+2:=by rw [hw];simp;omega
   have hN:=tail_facts (t:=B t) (v:=v) (p:=p) HB2.out hlt
   have hT3:=tail_other (t:=B t) (v:=v) (p:=p) HT2.out hlt (by have:=HBT.out;omega) (by have:=HBT.out;omega)
   have hU3:But n bt w _:=tail_but (t:=B t) (v:=v) (p:=p) HU2.out hn' (Nat.le_refl _) (by omega)
   have hw2:w'=tailW W2 w.heap.size (B t) v p:=hw
   rw [← hw2] at hN hT3 hU3
   have HF:=Lib.hid (And.intro hN (And.intro hT3 hU3))
   clear hN hT3 hU3 hw hw2
   have HS3:=Lib.hid hS3
   have HS2:=Lib.hid eS2
   clear hS3 eS2 hlt
   go_wp2_with fail
   go_end0
   exact ⟨rfl,w.heap.size,Nat.le_refl _,by have:=HS3.out;omega,HF.out.2.1,⟨Nat.le_refl _,by have:=HS3.out;omega,.inr ⟨htl,W2.heap.size,by have:=HS2.out;omega,by have:=HS2.out;have:=HS3.out;omega,HF.out.1.1,HF.out.1.2⟩⟩,HF.out.2.2⟩
end Go.Proofs.YtcecjoaeolglbaaGreatDoor.Hand
end

section
namespace Go.Proofs.YtcecjoaeolglbaaGreatDoor.Hand
open Go.RowKit Go.Proofs.YtcecjoaeolglbaaGreatDoor.Pb
def usedB (l:List UInt8) (x:Nat):Bool:=l.any fun c=>c.toNat == x
def cntU (l:List UInt8):Nat→Nat
 | 0=>0
 | x+1=>cntU l x+if usedB l x=true then 1 else 0
theorem cnt_le (l:List UInt8):∀ x,cntU l x≤x:=by
 intro x
 induction x with
 | zero=>exact Nat.le_refl _
 | succ x ih=>simp only [cntU];split<;>omega
theorem cnt_mono (l:List UInt8) {x y:Nat} (h:x≤y):cntU l x≤cntU l y:=by
 induction h with
 | refl=>exact Nat.le_refl _
 | step h ih=>exact Nat.le_trans ih (by simp only [cntU];omega)
theorem cnt_lt (l:List UInt8) {x y:Nat} (hu:usedB l x=true) (h:x<y):cntU l x<cntU l y:=by
 have:=cnt_mono l (show x+1≤y from h)
 simp only [cntU,hu,if_true] at this
 omega
theorem used_append (l:List UInt8) (c:UInt8) (x:Nat):usedB (l++[c]) x=(usedB l x || c.toNat == x):=by simp [usedB]
def u8v (b:Bool):Value:=.int .u8 (if b=true then 1 else 0)
def rootF (l:List UInt8) (ts:Int) (j:Nat):Value :=
 if j=0 then .string ⟨#[]⟩ else if j=1 then .int .i64 0 else if j=2 then .string ⟨#[]⟩ else if j=3 then .pointer none else if j=4 then .slice none 0 0 else if j=5 then .int .i64 ts
 else u8v (usedB l (j - 6))
def zero82:Array Value := #[.string ⟨#[]⟩,.int .i64 0,.string ⟨#[]⟩,.pointer none,.slice none 0 0,.int .i64 0]++Array.replicate 256 (.int .u8 0)
theorem zero82_at (j:Nat) (h:j<262):zero82[j]? = some (rootF [] 0 j):=by
 by_cases h6:j<6
 · have:j=0∨j=1∨j=2∨j=3∨j=4∨j=5:=by omega
   unfold zero82
   rw [Array.getElem?_append_left (by simpa using h6)]
   rcases this with rfl|rfl|rfl|rfl|rfl|rfl<;>rfl
 · unfold zero82
   rw [Array.getElem?_append_right (by simp;omega)]
   have:rootF [] 0 j = .int .u8 0:=by
    unfold rootF
    rw [if_neg (by omega),if_neg (by omega),if_neg (by omega),if_neg (by omega),if_neg (by omega),if_neg (by omega)]
    rfl
   rw [this,Array.getElem?_replicate,if_pos (by simp;omega)]
theorem zero82_is:∀ w,(zeroValue 224).run Tryz.prog w = .ok (.agg zero82) w:=fun _=>by kernel_rfl
def flatKV (kv:List (List UInt8×ByteArray)):List ByteArray:=kv.flatMap fun x=>[B x.1,x.2]
theorem flatKV_length (kv:List (List UInt8×ByteArray)):(flatKV kv).length=2*kv.length:=by
 induction kv with
 | nil=>rfl
 | cons x r ih =>
   have:flatKV (x::r)=B x.1::x.2::flatKV r:=rfl
   rw [this];simp;omega
theorem flatKV_key (kv:List (List UInt8×ByteArray)):∀ q (h:q<kv.length),(flatKV kv)[2*q]? = some (B kv[q].1):=by
 induction kv with
 | nil=>intro q h;simp at h
 | cons x r ih =>
   intro q h
   have:flatKV (x::r)=B x.1::x.2::flatKV r:=rfl
   rw [this]
   cases q with
   | zero=>rfl
   | succ q=>rw [show 2*(q+1)=2*q+1+1 by omega,List.getElem?_cons_succ,List.getElem?_cons_succ];exact ih q (by simpa using h)
theorem flatKV_val (kv:List (List UInt8×ByteArray)):∀ q (h:q<kv.length),(flatKV kv)[2*q+1]? = some kv[q].2:=by
 induction kv with
 | nil=>intro q h;simp at h
 | cons x r ih =>
   intro q h
   have:flatKV (x::r)=B x.1::x.2::flatKV r:=rfl
   rw [this]
   cases q with
   | zero=>rfl
   | succ q=>rw [show 2*(q+1)+1=2*q+1+1+1 by omega,List.getElem?_cons_succ,List.getElem?_cons_succ];exact ih q (by simpa using h)
def strV (l:List ByteArray) (j:Nat):Value:=.string (l.getD j ⟨#[]⟩)
theorem strV_at {l:List ByteArray} {j:Nat} {s:ByteArray} (h:l[j]? = some s):strV l j = .string s:=by
 unfold strV;rw [List.getD_eq_getElem?_getD,h];rfl
def keysU (kv:List (List UInt8×ByteArray)) (q:Nat):List UInt8:=(kv.take q).flatMap fun x=>x.1
theorem keysU_succ (kv:List (List UInt8×ByteArray)) (q:Nat) (h:q<kv.length):keysU kv (q+1)=keysU kv q++kv[q].1:=by
 unfold keysU
 rw [List.take_succ_eq_append_getElem h,List.flatMap_append]
 simp
theorem rootF_mark (l:List UInt8) (c:UInt8) (ts:Int) (j:Nat):upd (rootF l ts) (6+c.toNat) (.int .u8 1) j=rootF (l++[c]) ts j:=by
 by_cases h:j=6+c.toNat
 · subst h
   rw [upd_same]
   unfold rootF
   rw [if_neg (by omega),if_neg (by omega),if_neg (by omega),if_neg (by omega),if_neg (by omega),if_neg (by omega),used_append]
   simp [u8v]
 · rw [upd_ne _ _ h]
   unfold rootF
   by_cases h6:j<6
   · have:j=0∨j=1∨j=2∨j=3∨j=4∨j=5:=by omega
     rcases this with rfl|rfl|rfl|rfl|rfl|rfl<;>rfl
   · have e:(c.toNat == j - 6)=false:=by rw [beq_eq_false_iff_ne];omega
     rw [used_append,e,Bool.or_false]
theorem rootF_map (l:List UInt8) (ts:Int) (k:Nat):rootF l ts (6+k)=u8v (usedB l k):=by
 unfold rootF
 rw [if_neg (by omega),if_neg (by omega),if_neg (by omega),if_neg (by omega),if_neg (by omega),if_neg (by omega),Nat.add_sub_cancel_left]
theorem rootF_5 (l:List UInt8) (ts:Int):rootF l ts 5 = .int .i64 ts:=rfl
theorem rootF_sz (l:List UInt8) (ts ts':Int) (j:Nat):upd (rootF l ts) 5 (.int .i64 ts') j=rootF l ts' j:=by
 unfold upd
 by_cases h:j=5
 · subst h;rw [if_pos rfl];rfl
 · rw [if_neg h];unfold rootF;rw [if_neg h,if_neg h]
def mapV (l:List UInt8) (ts x:Nat):Value:=.int .u8 ((if usedB l x=true then cntU l x else ts:Nat):Int)
def mapF (l:List UInt8) (ts k j:Nat):Value:=if j<6 then rootF l ts j else if j - 6<k then mapV l ts (j - 6) else u8v (usedB l (j - 6))
theorem mapF_5 (l:List UInt8) (ts k:Nat):mapF l ts k 5 = .int .i64 (ts:Int):=rfl
theorem mapF_4 (l:List UInt8) (ts k:Nat):mapF l ts k 4 = .slice none 0 0:=rfl
theorem info_node:(Tryz.prog.info? 219).map (fun i=>(i.zero,i.size,i.bytes))=some (some (.pointer none),1,8):=by kernel_rfl
def replF (l:List UInt8) (ts bt:Nat):Nat→Value:=upd (mapF l ts 256) 4 (.slice (some ⟨bt,0,none⟩) ts ts)
theorem replF_1 (l:List UInt8) (ts bt:Nat):replF l ts bt 1 = .int .i64 0:=rfl
theorem replF_4 (l:List UInt8) (ts bt:Nat):replF l ts bt 4 = .slice (some ⟨bt,0,none⟩) ts ts:=rfl
theorem replF_5 (l:List UInt8) (ts bt:Nat):replF l ts bt 5 = .int .i64 (ts:Int):=rfl
theorem replF_map (l:List UInt8) (ts bt x:Nat) (h:x<256):replF l ts bt (6+x)=mapV l ts x:=by
 unfold replF
 rw [upd_ne _ _ (by omega)]
 unfold mapF
 rw [if_neg (by omega),if_pos (by omega),Nat.add_sub_cancel_left]
structure TrieSt (n br bt lo ts:Nat) (U:List UInt8) (kv:List (List UInt8×ByteArray)) (q:Nat) (w W:World):Prop where
 root:BlkF br 262 (replF U ts bt) W
 tab:∃ T,BlkF bt ts T W∧(∀ j (h:j<kv.length),j<q→∀ c t,kv[j].1=c::t→∃ (b:Nat) (p:Int),0<p∧T (cntU U c.toNat) = .pointer (some ⟨b,0,none⟩)∧NodeAt lo b t kv[j].2 p W) ∧
  (∀ x,x<ts→(∀ j (h:j<kv.length),j<q→∀ c t,kv[j].1=c::t→cntU U c.toNat≠x)→T x = .pointer none)
 below:Below n w W
 size:lo≤W.heap.size
theorem NodeAt.mono {lo lo' b:Nat} {t:List UInt8} {v:ByteArray} {p:Int} {W:World} (h:NodeAt lo b t v p W) (hl:lo'≤lo):NodeAt lo' b t v p W:=by
 obtain ⟨h1,h2,h3⟩:=h
 refine ⟨by omega,h2,?_⟩
 rcases h3 with h3|⟨ht,b2,h4,h5⟩
 · exact .inl h3
 · exact .inr ⟨ht,b2,by omega,h5⟩
theorem used_of {kv:List (List UInt8×ByteArray)} {j:Nat} {c:UInt8} {t:List UInt8} (h:j<kv.length) (e:kv[j].1=c::t):usedB (keysU kv kv.length) c.toNat=true:=by
 unfold usedB keysU
 rw [List.take_length,List.any_eq_true]
 exact ⟨c,List.mem_flatMap.2 ⟨kv[j],List.getElem_mem h,by rw [e];simp⟩,by simp⟩
theorem cnt_inj {l:List UInt8} {x y:Nat} (hx:usedB l x=true) (hy:usedB l y=true) (h:x≠y):cntU l x≠cntU l y:=by
 rcases Nat.lt_or_gt_of_ne h with h|h
 · have:=cnt_lt l hx h;omega
 · have:=cnt_lt l hy h;omega
def Heads (kv:List (List UInt8×ByteArray)):Prop:=(∀ x∈kv,x.1≠[])∧∀ i j (hi:i<kv.length) (hj:j<kv.length),i≠j→kv[i].1.head? ≠ kv[j].1.head?
theorem Heads.ne {kv:List (List UInt8×ByteArray)} (h:Heads kv) {i j:Nat} (hi:i<kv.length) (hj:j<kv.length) (hne:i≠j) {c d:UInt8} {t u:List UInt8} (e:kv[i].1=c::t) (f:kv[j].1=d::u):c.toNat≠d.toNat:=by
 intro he
 have:=h.2 i j hi hj hne
 rw [e,f] at this
 exact this (by rw [UInt8.toNat_inj.1 he];rfl)
theorem TrieSt.fresh {n br bt lo ts q:Nat} {kv:List (List UInt8×ByteArray)} {w W:World} (h:TrieSt n br bt lo ts (keysU kv kv.length) kv q w W) (hh:Heads kv) (hq:q<kv.length) {c:UInt8} {t:List UInt8} (e:kv[q].1=c::t)
  {T:Nat→Value} (hE:∀ x,x<ts→(∀ j (h:j<kv.length),j<q→∀ c t,kv[j].1=c::t→cntU (keysU kv kv.length) c.toNat≠x)→T x = .pointer none) (hm:cntU (keysU kv kv.length) c.toNat<ts):T (cntU (keysU kv kv.length) c.toNat) = .pointer none :=
 hE _ hm fun j hj hjq d u f=>cnt_inj (used_of hj f) (used_of hq e) (hh.ne hj hq (by omega) f e)
theorem TrieSt.next {n br bt lo ts q b:Nat} {kv:List (List UInt8×ByteArray)} {w W W':World} {p:Int} (h:TrieSt n br bt lo ts (keysU kv kv.length) kv q w W) (hh:Heads kv) (hq:q<kv.length) {c:UInt8} {t:List UInt8} (e:kv[q].1=c::t)
  {T:Nat→Value} (hN:∀ j (h:j<kv.length),j<q→∀ c t,kv[j].1=c::t→∃ (b:Nat) (p:Int),0<p∧T (cntU (keysU kv kv.length) c.toNat) = .pointer (some ⟨b,0,none⟩)∧NodeAt lo b t kv[j].2 p W)
  (hE:∀ x,x<ts→(∀ j (h:j<kv.length),j<q→∀ c t,kv[j].1=c::t→cntU (keysU kv kv.length) c.toNat≠x)→T x = .pointer none) (hp:0<p) (hbt:bt<lo) (hbr:br<W.heap.size) (hne:br≠bt)
  (hT':BlkF bt ts (upd T (cntU (keysU kv kv.length) c.toNat) (.pointer (some ⟨b,0,none⟩))) W') (hB:NodeAt W.heap.size b t kv[q].2 p W') (hU:But n bt W W'):TrieSt n br bt lo ts (keysU kv kv.length) kv (q+1) w W':=by
 refine ⟨hU.blkF h.root hbr hne,⟨_,hT',?_,?_⟩,h.below.trans hU.below,Nat.le_trans h.size hU.below.size⟩
 · intro j hj hjq d u f
   by_cases hjq':j=q
   · subst hjq'
     rw [e] at f
     obtain ⟨rfl,rfl⟩:=List.cons.inj f
     exact ⟨b,p,hp,upd_same _ _ _,hB.mono h.size⟩
   · obtain ⟨b',p',h1,h2,h3⟩:=hN j hj (by omega) d u f
     exact ⟨b',p',h1,by rw [upd_ne _ _ (cnt_inj (used_of hj f) (used_of hq e) (hh.ne hj hq hjq' f e))];exact h2,h3.but hU hbt⟩
 · intro x hx hxe
   have hxm:x≠cntU (keysU kv kv.length) c.toNat:=fun e'=>hxe q hq (by omega) c t e e'.symm
   rw [upd_ne _ _ hxm]
   exact hE x hx fun j hj hjq=>hxe j hj (by omega)
theorem made_at (n j:Nat) (h:j<n):(madeCells #[Value.pointer none] n)[j]? = some (.pointer none):=by
 unfold madeCells
 rw [Array.getElem?_map,Array.getElem?_range,if_pos h]
 simp [Nat.mod_one]
theorem mapF_zero (l:List UInt8) (ts j:Nat):rootF l ts j=mapF l ts 0 j:=by
 unfold mapF
 by_cases h:j<6
 · rw [if_pos h]
 · rw [if_neg h,if_neg (by omega)]
   obtain ⟨k,rfl⟩:∃ k,j=6+k:=⟨j - 6,by omega⟩
   rw [rootF_map,Nat.add_sub_cancel_left]
theorem mapF_step (l:List UInt8) (ts k j:Nat):upd (mapF l ts k) (6+k) (mapV l ts k) j=mapF l ts (k+1) j:=by
 by_cases h:j=6+k
 · subst h
   rw [upd_same]
   unfold mapF
   rw [if_neg (by omega),if_pos (by omega),Nat.add_sub_cancel_left]
 · rw [upd_ne _ _ h]
   unfold mapF
   by_cases h6:j<6
   · rw [if_pos h6,if_pos h6]
   · rw [if_neg h6,if_neg h6]
     by_cases hk:j - 6<k
     · rw [if_pos hk,if_pos (by omega)]
     · rw [if_neg hk,if_neg (by omega)]
section
variable {P : Program}
theorem wpList_load_by {ops:Array Oper} {rest:List Oper} {o:Oper} {a:Act} {w:World} {Q:Exit→Act→World→Prop} (hgd:o.guard=none) (ty:TypeId) (x:Operand) (ho:o.op = .load ty x)
  (adr:Addr) (v:Value) (hx:a.eval x = .pointer (some adr)) (hrun:(loadVar ty adr).run P w = .ok v w) (h:wpList P ops Q rest (a.put o.dst v) w):wpList P ops Q (o::rest) a w :=
 wpList_plain hgd fun _ hK=>by
  unfold Oper.wp execOp
  simp only [ho,hx,Instr.loadAt,Instr.sureAddr,Sem.run_bind,Sem.run_pure,Result.andThen_ok,hrun]
  exact hK _ _ h
end
def arrF (f:Nat→Value) (o:Nat):Array Value:=Array.ofFn (n:=256) fun i=>f (o+i.val)
theorem arrF_at (f:Nat→Value) (o j:Nat) (h:j<256):(arrF f o)[j]? = some (f (o+j)):=by
 unfold arrF;rw [Array.getElem?_ofFn,dif_pos h]
theorem load256 {b n o:Nat} {f:Nat→Value} {W:World} (h:BlkF b n f W) (ho:o+256≤n):(loadVar 174 ⟨b,o,none⟩).run Tryz.prog W = .ok (.agg (arrF f o)) W:=by
 have hl:(loadCells ⟨b,o,none⟩ (arrF f o).toList.length).run Tryz.prog W = .ok (arrF f o).toList.toArray W :=
  run_loadCells_list (P:=Tryz.prog) W ⟨b,o,none⟩ (arrF f o).toList (fun j v hv=>by
   have hadd:(⟨b,o,none⟩:Addr).add j=⟨b,o+j,none⟩:=by unfold Addr.add;split<;>simp_all
   have hj:j<256:=by
    rcases Nat.lt_or_ge j 256 with h'|h'
    · exact h'
    · rw [List.getElem?_eq_none (by unfold arrF;rw [Array.length_toList,Array.size_ofFn];exact h')] at hv;cases hv
   rw [Array.getElem?_toList,arrF_at f o j hj] at hv
   rw [hadd,h.cell (o+j) (by omega),← hv])
 have hagg:(isAgg 174).run Tryz.prog W = .ok true W:=by
  unfold isAgg
  rw [Sem.run_bind,run_underlying Tryz.underlying174 W]
  rfl
 obtain ⟨i,hi⟩:=info_of_underlying (P:=Tryz.prog) Tryz.underlying174
 have hc:Tryz.prog.cellsOf 174=256:=by kernel_rfl
 have hsz:=run_sizeOf (P:=Tryz.prog) W hi
 rw [hc] at hsz
 have hlen:(arrF f o).toList.length=256:=by unfold arrF;rw [Array.length_toList,Array.size_ofFn]
 rw [hlen] at hl
 unfold loadVar
 rw [Sem.run_bind,hagg]
 simp only [Result.andThen_ok,if_true,Sem.run_bind,hsz,hl,Sem.run_pure,Array.toArray_toList]
theorem index256 {f:Nat→Value} {o j:Nat} (h:j<256) (W:World):(Instr.index 174 (.agg (arrF f o)) (.int .i64 (j:Int))).run Tryz.prog W = .ok (f (o+j)) W:=by
 obtain ⟨i,hi⟩:=info_of_underlying (P:=Tryz.prog) Tryz.underlying5
 exact run_index_agg (j:=j) Tryz.underlying174 hi (by kernel_rfl) (by kernel_rfl) h (arrF_at f o j h)
def Made (kv:List (List UInt8×ByteArray)) (w w':World):Prop := ∃ bt ts,ts=cntU (keysU kv kv.length) 256∧ts≤200∧w.heap.size<bt∧TrieSt w.heap.size w.heap.size bt (bt+1) ts (keysU kv kv.length) kv kv.length w w'
set_option maxRecDepth 100000 in
set_option maxHeartbeats 16000000 in
theorem make_gen (bo cap:Nat) (kv:List (List UInt8×ByteArray)) (w:World) (hn:kv.length≤100) (hts200:cntU (keysU kv kv.length) 256≤200) (hk:∀ x∈kv,x.1.length≤1000) (hh:Heads kv)
  (ho:BlkF bo (2*kv.length) (strV (flatKV kv)) w) (hbo:bo<w.heap.size) :
  Calls Tryz.prog 147 #[.slice (some ⟨bo,0,none⟩) (2*kv.length) cap] w fun e w'=>e = .returned (.pointer (some ⟨w.heap.size,0,none⟩))∧Made kv w w':=by
 have hz:=zero82_is
 have HO:=Lib.hid ho
 have HBO:=Lib.hid hbo
 have hR0:BlkF w.heap.size 262 (rootF [] 0) (w.alloc (.cells zero82 224)) :=
  ⟨fun j hj=>(World.cell?_alloc_at _ _ _ j rfl).trans (zero82_at j hj),fun j=>World.frozen?_alloc_at _ _ _ j rfl⟩
 have HR0:=Lib.hid hR0
 have HB0:=Lib.hid (Below.alloc (Below.refl w.heap.size w) (Nat.le_refl _) (.cells zero82 224))
 clear ho hbo hR0
 go_enter Tryz.func147,Tryz.ntmps147
 go_upto_block 0 with fail
 clear hz
 go_cut [] (fun wx=>Hid (BlkF w.heap.size 262 (rootF (keysU kv kv.length) 0) wx)∧Hid (Below w.heap.size w wx))
 case first =>
  go_wp2_with fail
  go_loopw [4] (fun i wr => ∃ q:Nat,q≤kv.length∧i = .int .i64 (2*(q:Int))∧Hid (BlkF w.heap.size 262 (rootF (keysU kv q) 0) wr)∧Hid (Below w.heap.size w wr)) (fun i _=>2*kv.length - (intOf i).toNat)
  case atStart=>exact ⟨0,Nat.zero_le _,rfl,HR0,HB0⟩
  case round =>
   obtain ⟨q,hq,rfl,HR,HB⟩:=hrel
   by_cases hlt:q<kv.length
   · have hks:=hk _ (List.getElem_mem hlt)
     have hkey:=(HO.out.below HB.out HBO.out).cell (2*q) (by omega)
     rw [strV_at (flatKV_key kv q hlt)] at hkey
     have hsucc:=keysU_succ kv q hlt
     obtain ⟨key,hkey'⟩:∃ k,kv[q].1=k:=⟨_,rfl⟩
     rw [hkey'] at hks hkey hsucc
     obtain ⟨K,hK⟩:∃ K,B key=K:=⟨_,rfl⟩
     rw [hK] at hkey
     have hKs:K.size=key.length:=by rw [← hK];simp
     have hKz:K.size≤1000:=by omega
     have HK:=Lib.hid hK
     have HKS:=Lib.hid hKs
     have HS:=Lib.hid hsucc
     clear hkey' hK hKs hsucc hks
     go_wp2_with fail
     clear hkey
     go_loopw [6] (fun i wr => ∃ k:Nat,k≤K.size∧i = .int .i64 (k:Int)∧Hid (BlkF w.heap.size 262 (rootF (keysU kv q++key.take k) 0) wr)∧Hid (Below w.heap.size w wr)) (fun i _=>K.size - (intOf i).toNat)
     case atStart=>exact ⟨0,Nat.zero_le _,rfl,Lib.hid (by rw [List.take_zero,List.append_nil];exact HR.out),HB⟩
     case round =>
      clear HR HB
      obtain ⟨k,hk',rfl,HR,HB⟩:=hrel
      by_cases hlk:k<K.size
      · have hb0:(0:Int)≤(K[k].toNat:Int):=by omega
        have hb1:(K[k].toNat:Int)<256:=by have:=K[k].toNat_lt;omega
        have hb2:K[k].toNat<256:=by have:=K[k].toNat_lt;omega
        have hc:=HR.out.cell (6+K[k].toNat) (by omega)
        have hf:=HR.out.open_
        have htk:key.take (k+1)=key.take k++[K[k]]:=by
         have hk2:k<key.length:=by rw [← HKS.out];exact hlk
         have e:K[k]=key[k]:=by
          have h:=HK.out
          subst h
          rfl
         rw [List.take_succ_eq_append_getElem hk2,e]
        have hstep:∀ W,BlkF w.heap.size 262 (rootF (keysU kv q++key.take k) 0) W→Below w.heap.size w W→BlkF w.heap.size 262 (rootF (keysU kv q++key.take (k+1)) 0) (W.setCell ⟨w.heap.size,6+K[k].toNat,none⟩ (.int .u8 1))∧Below w.heap.size w (W.setCell ⟨w.heap.size,6+K[k].toNat,none⟩ (.int .u8 1)):=by
         intro W h hb
         rw [htk,← List.append_assoc]
         exact ⟨(h.set _ _ (by omega)).congr fun j _=>rootF_mark _ _ _ j,hb.setCell (Nat.le_refl _) _⟩
        have HST:=Lib.hid hstep
        clear hstep htk
        go_wp2_with fail
        go_still_tail 7,(by kernel_rfl)
        change wpList _ _ _ _ _ wr.drew
        have hd:Below (w.heap.size+1) wr wr.drew:=Below.drew (Below.refl _ _)
        have HR2:=Lib.hid (HR.out.below hd (by omega))
        have HB2:=Lib.hid (HB.out.drew)
        have hc2:=HR2.out.cell (6+K[k].toNat) (by omega)
        have hf2:=HR2.out.open_
        clear hd hc hf
        generalize wr.drew=W2 at HR2 HB2 hc2 hf2 ⊢
        go_wp2_with fail
        go_roundw
        case rel=>exact ⟨k+1,by omega,by go_num,Lib.hid (HST.out _ HR2.out HB2.out).1,Lib.hid (HST.out _ HR2.out HB2.out).2⟩
        case measure=>simp [intOf];omega
      · obtain rfl:k=K.size:=by omega
        have HR3:Hid (BlkF w.heap.size 262 (rootF (keysU kv (q+1)) 0) wr):=Lib.hid (by
         have h:=HR.out
         rw [HKS.out,List.take_length] at h
         rw [HS.out];exact h)
        clear HR
        go_wp2_with fail
        go_roundw
        case rel=>exact ⟨q+1,by omega,by go_num,HR3,HB⟩
        case measure=>simp [intOf];omega
   · obtain rfl:q=kv.length:=by omega
     go_wp2_with fail
     go_meet
     case rel=>exact ⟨HR,HB⟩
 case rest =>
  clear HR0 HB0
  obtain ⟨HR,HB⟩:=hcut
  obtain ⟨U,hU⟩:∃ U,keysU kv kv.length=U:=⟨_,rfl⟩
  rw [hU] at HR
  have HL:=Lib.hid (load256 (o:=6) HR.out (by omega))
  have HU:=Lib.hid hU
  clear hU
  go_upto_block 4 with (with_reducible refine wpList_load_by rfl 174 (.tmp 39) rfl ⟨w.heap.size,6,none⟩ _ rfl HL.out ?_)
  clear HL
  go_cut [] (fun wx=>Hid (BlkF w.heap.size 262 (rootF U (cntU U 256)) wx)∧Hid (Below w.heap.size w wx))
  case first =>
   go_wp2_with fail
   go_loopw [41] (fun i wr => ∃ k:Nat,k≤256∧i = .int .i64 (k:Int)∧Hid (BlkF w.heap.size 262 (rootF U (cntU U k)) wr)∧Hid (Below w.heap.size w wr)) (fun i _=>256 - (intOf i).toNat)
   case atStart=>exact ⟨0,Nat.zero_le _,rfl,HR,HB⟩
   case round =>
    clear HR HB
    obtain ⟨k,hk',rfl,HR,HB⟩:=hrel
    by_cases hlk:k<256
    · have hix:=index256 (f:=rootF U 0) (o:=6) hlk
      rw [rootF_map U 0 k] at hix
      have hcl:=cnt_le U k
      have h5:=HR.out.cell 5 (by omega)
      rw [rootF_5] at h5
      have hf:=HR.out.open_
      have hstep:∀ x:Nat,x=cntU U (k+1)→Hid (BlkF w.heap.size 262 (rootF U (cntU U (k+1))) (wr.setCell ⟨w.heap.size,5,none⟩ (.int .i64 (x:Int))))∧Hid (Below w.heap.size w (wr.setCell ⟨w.heap.size,5,none⟩ (.int .i64 (x:Int)))):=by
       rintro x rfl
       exact ⟨Lib.hid ((HR.out.set 5 _ (by omega)).congr fun j _=>rootF_sz U _ _ j),Lib.hid (HB.out.setCell (Nat.le_refl _) _)⟩
      have HST:=Lib.hid hstep
      clear hstep
      cases hu:usedB U k with
      | true =>
        rw [hu] at hix
        have hx:cntU U k+1=cntU U (k+1):=by simp [cntU,hu]
        obtain ⟨q,hq⟩:∃ q,cntU U k=q:=⟨_,rfl⟩
        rw [hq] at hcl h5 hx
        have HX:=Lib.hid hx
        unfold u8v at hix
        clear hu hx hq HR
        go_wp2_with fail
        go_roundw
        case rel=>exact ⟨k+1,by omega,by go_num,by exact (HST.out (q+1) HX.out).1,(HST.out (q+1) HX.out).2⟩
        case measure=>simp [intOf];omega
      | false =>
        rw [hu] at hix
        have hx:cntU U k=cntU U (k+1):=by simp [cntU,hu]
        obtain ⟨q,hq⟩:∃ q,cntU U k=q:=⟨_,rfl⟩
        rw [hq] at hcl h5 hx
        have HX:=Lib.hid hx
        unfold u8v at hix
        clear hu hx hq HR
        go_wp2_with fail
        go_roundw
        case rel=>exact ⟨k+1,by omega,by go_num,by exact (HST.out q HX.out).1,(HST.out q HX.out).2⟩
        case measure=>simp [intOf];omega
    · obtain rfl:k=256:=by omega
      go_wp2_with fail
      go_meet
      case rel=>exact ⟨HR,HB⟩
  case rest =>
   clear HR HB
   obtain ⟨HR,HB⟩:=hcut
   obtain ⟨ts,hts⟩:∃ ts,cntU U 256=ts:=⟨_,rfl⟩
   have hsm:=hts200
   rw [HU.out,hts] at hsm
   rw [hts] at HR
   have HTS:=Lib.hid hts
   clear hts
   have HL:=Lib.hid (load256 (o:=6) HR.out (by omega))
   go_upto_block 6 with (with_reducible refine wpList_load_by rfl 174 (.tmp 56) rfl ⟨w.heap.size,6,none⟩ _ rfl HL.out ?_)
   clear HL
   go_cut [] (fun wx=>Hid (BlkF w.heap.size 262 (mapF U ts 256) wx)∧Hid (Below w.heap.size w wx))
   case first =>
    go_wp2_with fail
    go_loopw [9,58] (fun x i wr => ∃ k:Nat,k≤256∧x = .int .u8 (cntU U k:Int)∧i = .int .i64 (k:Int)∧Hid (BlkF w.heap.size 262 (mapF U ts k) wr)∧Hid (Below w.heap.size w wr)) (fun _ i _=>256 - (intOf i).toNat)
    case atStart=>exact ⟨0,Nat.zero_le _,rfl,rfl,Lib.hid (HR.out.congr fun j _=>mapF_zero U ts j),HB⟩
    case round =>
     clear HR HB
     obtain ⟨k,hk',rfl,rfl,HR,HB⟩:=hrel
     by_cases hlk:k<256
     · have hix:=index256 (f:=rootF U ts) (o:=6) hlk
       rw [rootF_map U ts k] at hix
       have hcl:cntU U k≤200:=by
        have:=cnt_mono U (show k≤256 from hk')
        rw [HTS.out] at this
        omega
       have hstep:∀ W,Hid (BlkF w.heap.size 262 (mapF U ts k) W)→Hid (Below w.heap.size w W)→Hid (BlkF w.heap.size 262 (mapF U ts (k+1)) (W.setCell ⟨w.heap.size,6+k,none⟩ (mapV U ts k)))∧Hid (Below w.heap.size w (W.setCell ⟨w.heap.size,6+k,none⟩ (mapV U ts k))) :=
        fun W h hb=>⟨Lib.hid ((h.out.set _ _ (by omega)).congr fun j _=>mapF_step U ts k j),Lib.hid (hb.out.setCell (Nat.le_refl _) _)⟩
       have hk0:(0:Int)≤(k:Int):=by omega
       have hk1:(k:Int)<256:=by omega
       have ht1:(ts:Int)<256:=by omega
       cases hu:usedB U k with
       | false =>
         rw [hu] at hix
         have hx:cntU U k=cntU U (k+1):=by simp [cntU,hu]
         have hm:mapV U ts k = .int .u8 (ts:Int):=by simp [mapV,hu]
         rw [hm] at hstep
         have HST:=Lib.hid hstep
         obtain ⟨q,hq⟩:∃ q,cntU U k=q:=⟨_,rfl⟩
         rw [hq] at hcl hx ⊢
         have HX:=Lib.hid hx
         unfold u8v at hix
         clear hu hx hq hm hstep
         have h5:=HR.out.cell 5 (by omega)
         rw [mapF_5] at h5
         go_wp2_with fail
         go_still_tail 10,(by kernel_rfl)
         change wpList _ _ _ _ _ wr.drew
         have hd:Below (w.heap.size+1) wr wr.drew:=Below.drew (Below.refl _ _)
         have HR2:=Lib.hid (HR.out.below hd (by omega))
         have HB2:=Lib.hid (HB.out.drew)
         have hc2:=HR2.out.cell (6+k) (by omega)
         have hf2:=HR2.out.open_
         clear hd h5
         generalize wr.drew=W2 at HR2 HB2 hc2 hf2 ⊢
         go_wp2_with fail
         go_roundw
         case rel=>exact ⟨k+1,by omega,by rw [HX.out],by go_num,(HST.out _ HR2 HB2).1,(HST.out _ HR2 HB2).2⟩
         case measure=>simp [intOf];omega
       | true =>
         rw [hu] at hix
         have hx:cntU U k+1=cntU U (k+1):=by simp [cntU,hu]
         have hm:mapV U ts k = .int .u8 (cntU U k:Int):=by simp [mapV,hu]
         rw [hm] at hstep
         have HST:=Lib.hid hstep
         have hc:=HR.out.cell (6+k) (by omega)
         have hf:=HR.out.open_
         obtain ⟨q,hq⟩:∃ q,cntU U k=q:=⟨_,rfl⟩
         rw [hq] at hcl hx HST ⊢
         have HX:=Lib.hid hx
         unfold u8v at hix
         clear hu hx hq hm hstep
         go_wp2_with fail
         go_roundw
         case rel=>exact ⟨k+1,by omega,by rw [← HX.out];go_num,by go_num,(HST.out _ HR HB).1,(HST.out _ HR HB).2⟩
         case measure=>simp [intOf];omega
     · obtain rfl:k=256:=by omega
       go_wp2_with fail
       go_meet
       case rel=>exact ⟨HR,HB⟩
   case rest =>
    clear HR HB
    obtain ⟨HR,HB⟩:=hcut
    have h5:=HR.out.cell 5 (by omega)
    rw [mapF_5] at h5
    have h4:=HR.out.cell 4 (by omega)
    rw [mapF_4] at h4
    have hf:=HR.out.open_
    have ht0:(0:Int)≤(ts:Int):=by omega
    have hmk:=run_make_row' (P:=Tryz.prog) 220 219 (.pointer none) 8 Tryz.underlying220 info_node rfl .i64 .i64 ts (by omega) (by omega) wc
    have hbr:=World.block_lt_of_cell? wc _ h4
    have h4':(wc.alloc (.cells (madeCells #[.pointer none] ts) 219)).cell? ⟨w.heap.size,4,none⟩=some (.slice none 0 0):=by
     rw [World.cell?_alloc_past _ _ _ hbr];exact h4
    have hf':∀ j,(wc.alloc (.cells (madeCells #[.pointer none] ts) 219)).frozen? ⟨w.heap.size,j,none⟩=false:=fun j=>by
     rw [World.frozen?_alloc_past _ _ _ hbr];exact hf j
    have hS:TrieSt w.heap.size w.heap.size wc.heap.size (wc.heap.size+1) ts (keysU kv kv.length) kv 0 w ((wc.alloc (.cells (madeCells #[.pointer none] ts) 219)).setCell ⟨w.heap.size,4,none⟩ (.slice (some ⟨wc.heap.size,0,none⟩) ts ts)):=by
     have hba:Below wc.heap.size wc (wc.alloc (.cells (madeCells #[.pointer none] ts) 219)):=Below.alloc (Below.refl _ _) (Nat.le_refl _) _
     refine ⟨?_,⟨fun _ => .pointer none,?_,fun j _ h=>absurd h (Nat.not_lt_zero _),fun _ _ _=>rfl⟩,?_,by simp⟩
     · rw [HU.out]
       exact (HR.out.below hba hbr).set 4 _ (by omega)
     · refine BlkF.other ?_ 4 _ (Nat.ne_of_lt hbr)
       exact ⟨fun j hj=>(World.cell?_alloc_at _ _ _ j rfl).trans (made_at ts j hj),fun j=>World.frozen?_alloc_at _ _ _ j rfl⟩
     · exact (HB.out.trans (hba.mono HB.out.size)).setCell (Nat.le_refl _) _
    have HS:=Lib.hid hS
    have HBR:=Lib.hid hbr
    clear hS HR hf hbr
    obtain ⟨bt,hbt⟩:∃ b,wc.heap.size=b:=⟨_,rfl⟩
    rw [hbt] at HS HBR hmk
    clear hbt
    go_upto_block 8 with fail
    clear hmk h4' hf' h5 h4
    have hbo2:bo<bt:=Nat.lt_trans HBO.out HBR.out
    have HBO2:=Lib.hid hbo2
    clear hbo2
    go_cut [] (fun wx=>Hid (TrieSt w.heap.size w.heap.size bt (bt+1) ts (keysU kv kv.length) kv kv.length w wx))
    case first =>
     go_wp2_with fail
     go_loopw [12] (fun i wr => ∃ q:Nat,q≤kv.length∧i = .int .i64 (2*(q:Int))∧Hid (TrieSt w.heap.size w.heap.size bt (bt+1) ts (keysU kv kv.length) kv q w wr)) (fun i _=>2*kv.length - (intOf i).toNat)
     case atStart=>exact ⟨0,Nat.zero_le _,rfl,HS⟩
     case round =>
      clear HS
      obtain ⟨q,hq,rfl,HS⟩:=hrel
      by_cases hlt:q<kv.length
      · have hks:=hk _ (List.getElem_mem hlt)
        have hbl:=HO.out.below HS.out.below HBO.out
        have hkey:=hbl.cell (2*q) (by omega)
        have hval:=hbl.cell (2*q+1) (by omega)
        rw [strV_at (flatKV_key kv q hlt)] at hkey
        rw [strV_at (flatKV_val kv q hlt)] at hval
        obtain ⟨c,t,hct⟩:=List.exists_cons_of_ne_nil (hh.1 _ (List.getElem_mem hlt))
        rw [hct] at hks hkey
        obtain ⟨T,hT,hN,hE⟩:=HS.out.tab
        have hm:cntU (keysU kv kv.length) c.toNat<ts:=by
         have h1:=cnt_lt (keysU kv kv.length) (used_of hlt hct) (show c.toNat<256 from c.toNat_lt)
         have h2:=HTS.out
         rw [← HU.out] at h2
         omega
        have hrm:replF (keysU kv kv.length) ts bt (6+c.toNat) = .int .u8 ((cntU (keysU kv kv.length) c.toNat:Nat):Int):=by
         rw [replF_map _ _ _ _ c.toNat_lt]
         simp only [mapV,used_of hlt hct,if_true]
        have hsz:=HS.out.size
        have CA:=fun W (h1:BlkF w.heap.size 262 (replF (keysU kv kv.length) ts bt) W) (h2:BlkF bt ts T W) (h3:bt<W.heap.size) =>
         add_root w.heap.size bt ts w.heap.size (replF (keysU kv kv.length) ts bt) T c t kv[q].2 (2*(kv.length:Int) - 2*(q:Int)) (cntU (keysU kv kv.length) c.toNat) W (by simp at hks;omega) (by omega) h1 h2 hm (Nat.ne_of_lt HBR.out) (Nat.lt_trans HBR.out h3) h3 (Nat.le_of_lt HBR.out) rfl rfl hrm (HS.out.fresh hh hlt hct hE hm)
        have HCA:=Lib.hid CA
        have HT:=Lib.hid hT
        have HN:=Lib.hid hN
        have HE:=Lib.hid hE
        have HCT:=Lib.hid hct
        obtain ⟨K,hK⟩:∃ K,B (c::t)=K:=⟨_,rfl⟩
        obtain ⟨V,hV⟩:∃ V,kv[q].2=V:=⟨_,rfl⟩
        rw [hK] at hkey HCA
        rw [hV] at hval HCA
        have HV:=Lib.hid hV
        clear CA hT hN hE hct hK hV hm hrm hks hbl
        have hi0:(0:Int)≤2*(q:Int):=by omega
        have hi1:2*(q:Int)+1<2*(kv.length:Int):=by omega
        have hi3:2*(q:Int)<2*(kv.length:Int):=by omega
        have hi4:(0:Int)≤2*(q:Int)+1:=by omega
        have hw1:IntKind.i64.wrap (2*(q:Int)+1)=2*(q:Int)+1:=by simp [IntKind.wrap_i64,wrap64];omega
        have hw2:IntKind.i64.wrap (2*(kv.length:Int) - 2*(q:Int))=2*(kv.length:Int) - 2*(q:Int):=by simp [IntKind.wrap_i64,wrap64];omega
        have ht1:(2*(q:Int)).toNat=2*q:=by omega
        have ht2:(2*(q:Int)+1).toNat=2*q+1:=by omega
        go_wp2_with fail
        go_still_tail 17,(by kernel_rfl)
        change wpList _ _ _ _ _ wr.drew
        have hd:Below (bt+1) wr wr.drew:=Below.drew (Below.refl _ _)
        have hrt:=HS.out.root.below hd (Nat.lt_succ_of_lt HBR.out)
        have HT2:=Lib.hid (HT.out.below hd (Nat.lt_succ_self _))
        have HR2:=Lib.hid hrt
        have hdz:bt<wr.drew.heap.size:=hsz
        have HDZ:=Lib.hid hdz
        have HUD:=Lib.hid ((But.refl w.heap.size bt wr).drew HS.out.below.size)
        clear hd hrt hdz hkey hval ht1 ht2 hw1 hw2
        obtain ⟨W2,hW2⟩:∃ W,wr.drew=W:=⟨_,rfl⟩
        have hW2s:W2.heap.size=wr.heap.size:=by rw [← hW2];rfl
        have HW2S:=Lib.hid hW2s
        change wpList _ _ _ _ _ wr.drew
        rw [hW2] at HT2 HR2 HDZ HUD ⊢
        clear hW2 hW2s
        go_wp2_with fail
        refine (HCA.out W2 HR2.out HT2.out HDZ.out).mono ?_
        rintro e w' ⟨rfl,b,hb1,hb2,hb3,hb4,hb5⟩
        have HNX:Hid (TrieSt w.heap.size w.heap.size bt (bt+1) ts (keysU kv kv.length) kv (q+1) w w'):=Lib.hid (by
         have hU:But w.heap.size bt wr w':=⟨HUD.out.below.trans hb5.below,fun b' h1 h2=>by
          have h3:=hb5.same b' (by rw [HW2S.out];exact h1) h2
          have h4:=HUD.out.same b' h1 h2
          exact ⟨fun j=>(h3.1 j).trans (h4.1 j),fun j=>(h3.2 j).trans (h4.2 j)⟩⟩
         rw [← HV.out] at hb4
         refine TrieSt.next HS.out hh hlt HCT.out HN.out HE.out (p:=2*(kv.length:Int) - 2*(q:Int)) (by omega) (Nat.lt_succ_self _) (Nat.lt_trans HBR.out hsz) (Nat.ne_of_lt HBR.out) hb3 ?_ hU
         exact hb4.mono (Nat.le_of_eq HW2S.out.symm))
        clear hb1 hb2 hb3 hb4 hb5
        go_wp2_with fail
        go_roundw
        case rel=>exact ⟨q+1,by omega,by go_num,HNX⟩
        case measure=>simp [intOf];omega
      · obtain rfl:q=kv.length:=by omega
        go_wp2_with fail
        go_meet
        case rel=>exact HS
    case rest =>
     go_wp2_with fail
     go_ret
     exact ⟨rfl,bt,ts,by rw [HU.out];exact HTS.out.symm,hsm,HBR.out,hcut.out⟩
end Go.Proofs.YtcecjoaeolglbaaGreatDoor.Hand
end

section
namespace Go.Proofs.YtcecjoaeolglbaaGreatDoor.Hand
open Go.RowKit Go.Proofs.YtcecjoaeolglbaaGreatDoor.Pb
theorem hasPrefix_t (s p:ByteArray) (w:World):Calls Tryz.prog 38 #[.string s,.string p] w fun e w'=>e = .returned (.bool (Lib.hasPrefix s.data.toList p.data.toList))∧w=w':=by
 refine (Tryz.strings_HasPrefix s p w).mono ?_
 rintro e w' h
 exact ⟨h.1,h.2.symm⟩
set_option maxRecDepth 100000 in
set_option maxHeartbeats 4000000 in
theorem lookup_leaf (br bt ts m b:Nat) (R T:Nat→Value) (a:ByteArray) (v:ByteArray) (p:Int) (w:World) (h0:0<a.size) (hz:a.size≤1000000)
  (hR:BlkF br 262 R w) (hT:BlkF bt ts T w) (hts:ts≤1000) (hm:m<ts) (hp:0<p)
  (r1:R 1 = .int .i64 0) (r4:R 4 = .slice (some ⟨bt,0,none⟩) ts ts) (r5:R 5 = .int .i64 (ts:Int)) (rm:R (6+a[0].toNat) = .int .u8 (m:Int)) (tm:T m = .pointer (some ⟨b,0,none⟩)) (hB:Blk b (nodeV v p) w) :
  Calls Tryz.prog 271 #[.pointer (some ⟨br,0,none⟩),.string a,.bool false] w fun e w'=>e = .returned (.tuple #[.string v,.int .i64 1,.bool true])∧∃ k,w'=w.drewN k:=by
 have c1:=hR.cell 1 (by omega)
 have c4:=hR.cell 4 (by omega)
 have c5:=hR.cell 5 (by omega)
 have cm:=hR.cell (6+a[0].toNat) (by have:=a[0].toNat_lt;omega)
 have tc:=hT.cell m hm
 rw [r1] at c1
 rw [r4] at c4
 rw [r5] at c5
 rw [rm] at cm
 rw [tm] at tc
 have n0:=hB.cell 0 (by simp [nodeV])
 have n1:=hB.cell 1 (by simp [nodeV])
 have n2:=hB.cell 2 (by simp [nodeV])
 have n4:=hB.cell 4 (by simp [nodeV])
 simp only [nodeV,List.getElem?_toArray,List.getElem?_cons_succ,List.getElem?_cons_zero] at n0 n1 n2 n4
 have hk:a.toList.isEmpty=false:=by
  rw [toList_data]
  cases h:a.data.toList with
  | nil=>have:=congrArg List.length h;rw [Array.length_toList] at this;have:a.size=0:=this;omega
  | cons c r=>rfl
 have hk':¬ a.toList=[]:=by simpa using hk
 have hb0:(0:Int)≤(a[0].toNat:Int):=by omega
 have hb1:(a[0].toNat:Int)<256:=by have:=a[0].toNat_lt;omega
 have hb2:a[0].toNat<256:=by have:=a[0].toNat_lt;omega
 have hb4:(1:Int)≤(a.size:Int):=by omega
 have hne:((m:Int) == (ts:Int))=false:=by rw [beq_eq_false_iff_ne];omega
 have hp1:decide ((0:Int)<p)=true:=by simp;omega
 have hm0:(0:Int)≤(m:Int):=by omega
 have hm1:(m:Int)<(ts:Int):=by omega
 obtain ⟨a2,ha2⟩:∃ x,a.extract 1 a.size=x:=⟨_,rfl⟩
 clear r1 r4 r5 rm tm hR hT hB
 go_enter Tryz.func271,Tryz.ntmps271
 go_wp2_with fail
 refine wp_loop_rounds 2 ?_
 rw [rounds_succ]
 go_wp2_with fail
 go_quiet (fail)
 go_wp2_with fail
 rw [rounds_succ]
 go_wp2_with fail
 all_goals
  go_ret3
  exact ⟨rfl,nq,rfl⟩
set_option maxRecDepth 100000 in
set_option maxHeartbeats 4000000 in
theorem lookup_tail (br bt ts m b:Nat) (R T:Nat→Value) (a:ByteArray) (v tl:ByteArray) (p:Int) (w:World) (h0:0<a.size) (hz:a.size≤1000000)
  (hR:BlkF br 262 R w) (hT:BlkF bt ts T w) (hts:ts≤1000) (hm:m<ts) (hp:0<p)
  (r1:R 1 = .int .i64 0) (r4:R 4 = .slice (some ⟨bt,0,none⟩) ts ts) (r5:R 5 = .int .i64 (ts:Int)) (rm:R (6+a[0].toNat) = .int .u8 (m:Int)) (tm:T m = .pointer (some ⟨b,0,none⟩)) (b2:Nat) (htl:¬ tl.toList=[]) (htz:tl.size≤1000) (hB:Blk b (nodeP tl b2) w) (hB2:Blk b2 (nodeV v p) w) (hpre:Lib.hasPrefix (a.extract 1 a.size).data.toList tl.data.toList=true) (hsz:tl.size≤(a.extract 1 a.size).size) :
  Calls Tryz.prog 271 #[.pointer (some ⟨br,0,none⟩),.string a,.bool false] w fun e w'=>e = .returned (.tuple #[.string v,.int .i64 (1+(tl.size:Int)),.bool true])∧∃ k,w'=w.drewN k:=by
 have c1:=hR.cell 1 (by omega)
 have c4:=hR.cell 4 (by omega)
 have c5:=hR.cell 5 (by omega)
 have cm:=hR.cell (6+a[0].toNat) (by have:=a[0].toNat_lt;omega)
 have tc:=hT.cell m hm
 rw [r1] at c1
 rw [r4] at c4
 rw [r5] at c5
 rw [rm] at cm
 rw [tm] at tc
 have n1:=hB.cell 1 (by simp [nodeP])
 have n2:=hB.cell 2 (by simp [nodeP])
 have n3:=hB.cell 3 (by simp [nodeP])
 have n4:=hB.cell 4 (by simp [nodeP])
 simp only [nodeP,List.getElem?_toArray,List.getElem?_cons_succ,List.getElem?_cons_zero] at n1 n2 n3 n4
 have ht1:tl.toList.isEmpty=false:=by simpa using htl
 have g0:=hB2.cell 0 (by simp [nodeV])
 have g1:=hB2.cell 1 (by simp [nodeV])
 have g2:=hB2.cell 2 (by simp [nodeV])
 have g4:=hB2.cell 4 (by simp [nodeV])
 simp only [nodeV,List.getElem?_toArray,List.getElem?_cons_succ,List.getElem?_cons_zero] at g0 g1 g2 g4
 clear hB2
 have hk:a.toList.isEmpty=false:=by
  rw [toList_data]
  cases h:a.data.toList with
  | nil=>have:=congrArg List.length h;rw [Array.length_toList] at this;have:a.size=0:=this;omega
  | cons c r=>rfl
 have hk':¬ a.toList=[]:=by simpa using hk
 have hb0:(0:Int)≤(a[0].toNat:Int):=by omega
 have hb1:(a[0].toNat:Int)<256:=by have:=a[0].toNat_lt;omega
 have hb2:a[0].toNat<256:=by have:=a[0].toNat_lt;omega
 have hb4:(1:Int)≤(a.size:Int):=by omega
 have hne:((m:Int) == (ts:Int))=false:=by rw [beq_eq_false_iff_ne];omega
 have hp1:decide ((0:Int)<p)=true:=by simp;omega
 have hm0:(0:Int)≤(m:Int):=by omega
 have hm1:(m:Int)<(ts:Int):=by omega
 obtain ⟨a2,ha2⟩:∃ x,a.extract 1 a.size=x:=⟨_,rfl⟩
 clear r1 r4 r5 rm tm hR hT hB
 go_enter Tryz.func271,Tryz.ntmps271
 go_wp2_with fail
 rw [ha2] at hpre hsz
 have HP:=Lib.hid (hasPrefix_t a2 tl)
 have ht3:0<tl.size:=by
  rw [toList_data] at htl
  rcases Nat.eq_zero_or_pos tl.size with h|h
  · exact absurd (List.eq_nil_of_length_eq_zero (by rw [Array.length_toList];exact h)) htl
  · exact h
 have ha3:a2.toList.isEmpty=false:=by
  rw [toList_data]
  cases h:a2.data.toList with
  | nil=>have:=congrArg List.length h;rw [Array.length_toList] at this;have:a2.size=0:=this;omega
  | cons c r=>rfl
 have ha4:¬ a2.toList=[]:=by simpa using ha3
 have hsz1:(tl.size:Int)≤(a2.size:Int):=by omega
 have ha2z:a2.size≤1000000:=by rw [← ha2,ByteArray.size_extract];omega
 rw [hpre] at HP
 clear hpre ht3
 refine wp_loop_rounds 3 ?_
 rw [rounds_succ]
 go_wp2_with fail
 go_quiet (fail)
 go_wp2_with fail
 rw [rounds_succ]
 go_wp2_with fail
 refine (HP.out _).mono ?_
 rintro e w' ⟨rfl,rfl⟩
 go_wp2_with fail
 rw [rounds_succ]
 go_wp2_with fail
 all_goals
  go_ret3
  exact ⟨rfl,nq,rfl⟩
set_option maxRecDepth 100000 in
set_option maxHeartbeats 4000000 in
theorem lookup_miss (br bt ts m b:Nat) (R T:Nat→Value) (a:ByteArray) (v tl:ByteArray) (p:Int) (w:World) (h0:0<a.size) (hz:a.size≤1000000)
  (hR:BlkF br 262 R w) (hT:BlkF bt ts T w) (hts:ts≤1000) (hm:m<ts) (hp:0<p)
  (r1:R 1 = .int .i64 0) (r4:R 4 = .slice (some ⟨bt,0,none⟩) ts ts) (r5:R 5 = .int .i64 (ts:Int)) (rm:R (6+a[0].toNat) = .int .u8 (m:Int)) (tm:T m = .pointer (some ⟨b,0,none⟩)) (b2:Nat) (htl:¬ tl.toList=[]) (htz:tl.size≤1000) (hB:Blk b (nodeP tl b2) w) (hpre:Lib.hasPrefix (a.extract 1 a.size).data.toList tl.data.toList=false) :
  Calls Tryz.prog 271 #[.pointer (some ⟨br,0,none⟩),.string a,.bool false] w fun e w'=>e = .returned (.tuple #[.string ⟨#[]⟩,.int .i64 0,.bool false])∧∃ k,w'=w.drewN k:=by
 have c1:=hR.cell 1 (by omega)
 have c4:=hR.cell 4 (by omega)
 have c5:=hR.cell 5 (by omega)
 have cm:=hR.cell (6+a[0].toNat) (by have:=a[0].toNat_lt;omega)
 have tc:=hT.cell m hm
 rw [r1] at c1
 rw [r4] at c4
 rw [r5] at c5
 rw [rm] at cm
 rw [tm] at tc
 have n1:=hB.cell 1 (by simp [nodeP])
 have n2:=hB.cell 2 (by simp [nodeP])
 have n3:=hB.cell 3 (by simp [nodeP])
 have n4:=hB.cell 4 (by simp [nodeP])
 simp only [nodeP,List.getElem?_toArray,List.getElem?_cons_succ,List.getElem?_cons_zero] at n1 n2 n3 n4
 have ht1:tl.toList.isEmpty=false:=by simpa using htl
 have hk:a.toList.isEmpty=false:=by
  rw [toList_data]
  cases h:a.data.toList with
  | nil=>have:=congrArg List.length h;rw [Array.length_toList] at this;have:a.size=0:=this;omega
  | cons c r=>rfl
 have hk':¬ a.toList=[]:=by simpa using hk
 have hb0:(0:Int)≤(a[0].toNat:Int):=by omega
 have hb1:(a[0].toNat:Int)<256:=by have:=a[0].toNat_lt;omega
 have hb2:a[0].toNat<256:=by have:=a[0].toNat_lt;omega
 have hb4:(1:Int)≤(a.size:Int):=by omega
 have hne:((m:Int) == (ts:Int))=false:=by rw [beq_eq_false_iff_ne];omega
 have hp1:decide ((0:Int)<p)=true:=by simp;omega
 have hm0:(0:Int)≤(m:Int):=by omega
 have hm1:(m:Int)<(ts:Int):=by omega
 obtain ⟨a2,ha2⟩:∃ x,a.extract 1 a.size=x:=⟨_,rfl⟩
 clear r1 r4 r5 rm tm hR hT hB
 go_enter Tryz.func271,Tryz.ntmps271
 go_wp2_with fail
 rw [ha2] at hpre
 have HP:=Lib.hid (hasPrefix_t a2 tl)
 rw [hpre] at HP
 clear hpre
 by_cases ha3:a2.toList=[]
 · have ha4:a2.toList.isEmpty=true:=by simpa using ha3
   refine wp_loop_rounds 2 ?_
   rw [rounds_succ]
   go_wp2_with fail
   go_quiet (fail)
   go_wp2_with fail
   rw [rounds_succ]
   go_wp2_with fail
   go_ret3
   exact ⟨rfl,nq,rfl⟩
 · have ha4:a2.toList.isEmpty=false:=by simpa using ha3
   refine wp_loop_rounds 2 ?_
   rw [rounds_succ]
   go_wp2_with fail
   go_quiet (fail)
   go_wp2_with fail
   rw [rounds_succ]
   go_wp2_with fail
   refine (HP.out _).mono ?_
   rintro e w' ⟨rfl,rfl⟩
   go_wp2_with fail
   go_ret3
   exact ⟨rfl,nq,rfl⟩
set_option maxRecDepth 100000 in
set_option maxHeartbeats 4000000 in
theorem lookup_end (br:Nat) (R:Nat→Value) (w:World) (hR:BlkF br 262 R w) (r1:R 1 = .int .i64 0) :
  Calls Tryz.prog 271 #[.pointer (some ⟨br,0,none⟩),.string ⟨#[]⟩,.bool false] w fun e w'=>e = .returned (.tuple #[.string ⟨#[]⟩,.int .i64 0,.bool false])∧∃ k,w'=w.drewN k:=by
 have c1:=hR.cell 1 (by omega)
 rw [r1] at c1
 clear r1 hR
 go_enter Tryz.func271,Tryz.ntmps271
 go_wp2_with fail
 refine wp_loop_rounds 1 ?_
 rw [rounds_succ]
 go_wp2_with fail
 go_ret3
 exact ⟨rfl,0,rfl⟩
end Go.Proofs.YtcecjoaeolglbaaGreatDoor.Hand
end

section
namespace Go.Proofs.YtcecjoaeolglbaaGreatDoor.Hand
open Go.RowKit Go.Proofs.YtcecjoaeolglbaaGreatDoor.Pb
structure Buf (bb lo:Nat) (acc:List UInt8) (W:World):Prop where
 val:∃ v,W.heap[bb]? = some (.cells #[v] 294 (0,0))∧W.ownsRow lo 5 1 v acc.length (Lib.byteCells acc)
 le:lo≤bb
theorem heap_lt {W:World} {b:Nat} {o:Obj} (h:W.heap[b]? = some o):b<W.heap.size:=by
 rcases Nat.lt_or_ge b W.heap.size with h'|h'
 · exact h'
 · rw [Array.getElem?_eq_none h'] at h;cases h
theorem own_ne {W:World} {bb lo n:Nat} {u v:Value} {xs:List Value} (hb:W.heap[bb]? = some (.cells #[u] 294 (0,0))) (h:W.ownsRow lo 5 1 v n xs):some bb≠v.ownBlock:=by
 rcases h.2 with ⟨rfl,_⟩|⟨g,cap,cur,rfl,_,hg,_⟩
 · simp [Value.ownBlock]
 · intro e
   have e2:bb=g:=by simpa [Value.ownBlock] using e
   subst e2
   rw [hb] at hg
   simp at hg
theorem own_set {W:World} {bb lo n:Nat} {u v:Value} {xs:List Value} (h:W.ownsRow lo 5 1 v n xs) (hne:some bb≠v.ownBlock) (x:Value):(W.setCell ⟨bb,0,none⟩ x).ownsRow lo 5 1 v n xs:=by
 obtain ⟨h1,h2⟩:=h
 refine ⟨h1,?_⟩
 rcases h2 with h2|⟨g,cap,cur,hv,hg,hh,r⟩
 · exact .inl h2
 · refine .inr ⟨g,cap,cur,hv,hg,?_,r⟩
   rw [Below.heap_setCell _ _ _ _ (by subst hv;intro e;exact hne (by simp [Value.ownBlock,e]))]
   exact hh
theorem owns_shape {W:World} {lo e size n:Nat} {v:Value} {xs:List Value} (h:W.ownsRow lo e size v n xs):∃ a c,v = .slice a n c:=by
 rcases h.2 with ⟨rfl,rfl⟩|⟨g,cap,cur,rfl,_⟩
 · exact ⟨_,_,rfl⟩
 · exact ⟨_,_,rfl⟩
theorem strCells_B (s:List UInt8):Lib.strCells (B s)=Lib.byteCells s:=by
 unfold Lib.strCells Lib.byteCells;rw [B_data]
theorem info_u8:(Tryz.prog.info? 5).map (fun i=>(i.zero,i.size,i.bytes))=some (some (.int .u8 0),1,1):=by kernel_rfl
set_option maxRecDepth 100000 in
set_option maxHeartbeats 4000000 in
theorem aw_write (bb lo:Nat) (acc s:List UInt8) (w:World) (h:Buf bb lo acc w) (hz:acc.length+s.length≤100000000) :
  Calls Tryz.prog 281 #[.pointer (some ⟨bb,0,none⟩),.string (B s)] w fun e w'=>e = .returned (.tuple #[.int .i64 (s.length:Int),.nilIface])∧Buf bb lo (acc++s) w'∧Below lo w w':=by
 obtain ⟨v,hh,hown⟩:=h.val
 have hv:=cell_of_one hh
 have hf:=free_of_one hh
 have hne:=own_ne hh hown
 have hlt:=heap_lt hh
 have hle:=h.le
 have hls:lo≤w.heap.size:=by omega
 obtain ⟨i,hi,hzz⟩:=Option.map_eq_some_iff.1 info_u8
 simp only [Prod.mk.injEq] at hzz
 obtain ⟨hz0,hs1,hb1⟩:=hzz
 have HHH:=Lib.hid hh
 have HNE:=Lib.hid hne
 clear hh hne
 have hsz:(B s).size=s.length:=by simp
 obtain ⟨S,hS⟩:∃ S,B s=S:=⟨_,rfl⟩
 rw [hS] at hsz ⊢
 have HS:=Lib.hid hS
 have HSZ:=Lib.hid hsz
 clear hS
 rw [← hsz] at hz
 have HOWN:=Lib.hid hown
 have HI:=Lib.hid hi
 have HZ:=Lib.hid hz0
 have HS1:=Lib.hid hs1
 have HB1:=Lib.hid hb1
 have HH:=Lib.hid h
 clear hsz hi hz0 hs1 hb1 hown h
 go_enter Tryz.func281,Tryz.ntmps281
 go_wp2_with (with_reducible refine Lib.wpList_append_own_string _ rfl (.tmp 9) (.tmp 10) 294 9 rfl lo 5 i Tryz.underlying294 Tryz.underlying9 HI.out HZ.out HS1.out HB1.out v acc.length (Lib.byteCells acc) rfl HOWN.out S rfl (by unfold maxLen;omega) (by omega) hls ?_)
 intro v' w1 hown' hgrow hnil
 have hrow:∀ k,v.ownBlock=some k→lo≤k:=fun k hk=>(HOWN.out.lt k hk).1
 have hh1:w1.heap[bb]? = some (.cells #[v] 294 (0,0)):=by rw [hgrow.block bb hlt HNE.out];exact HHH.out
 have hv1:=cell_of_one hh1
 have hfr:=free_of_one hh1
 have hbel:Below lo w w1:=(Below.refl lo w).grown hgrow hls hrow
 have hne1:=own_ne hh1 hown'
 obtain ⟨a',c',rfl⟩:=owns_shape hown'
 have HO:=Lib.hid hown'
 have HBL:=Lib.hid hbel
 have HH1:=Lib.hid hh1
 have HN1:=Lib.hid hne1
 clear hown' hgrow hnil hrow hbel hv hf hh1 hne1
 go_wp2_with fail
 go_ret2
 refine ⟨by rw [HSZ.out];rfl,⟨⟨_,one_setCell HH1.out,?_⟩,hle⟩,HBL.out.setCell hle _⟩
 have:=own_set (u:=v) HO.out HN1.out (.slice a' (acc.length+S.size) c')
 rw [List.length_append,← HSZ.out]
 rw [← HS.out,strCells_B] at this
 have e:Lib.byteCells acc++Lib.byteCells s=Lib.byteCells (acc++s):=by simp [Lib.byteCells]
 rw [e] at this
 rw [HSZ.out]
 simpa using this
set_option maxRecDepth 100000 in
set_option maxHeartbeats 4000000 in
theorem getSW (a:Addr) (w:World) :
  Calls Tryz.prog 270 #[.iface 295 (.pointer (some a))] w fun e w'=>e = .returned (.iface 295 (.pointer (some a)))∧w'=w:=by
 have hta:∀ w,(Instr.typeAssert (.iface 295 (.pointer (some a))) 297 299 true).run Tryz.prog w = .ok (.tuple #[.iface 295 (.pointer (some a)),.bool true]) w:=fun _=>by kernel_rfl
 go_enter Tryz.func270,Tryz.ntmps270
 go_wp2_with fail
 go_ret
 exact ⟨rfl,rfl⟩
end Go.Proofs.YtcecjoaeolglbaaGreatDoor.Hand
end

section
namespace Go.Proofs.YtcecjoaeolglbaaGreatDoor.Pl
def replS (f:UInt8→Option (List UInt8×List UInt8)):Nat→List UInt8→List UInt8
 | _,[]=>[]
 | k+1,_::r=>replS f k r
 | 0,c::r=>match f c with
   | some (t,v)=>if t.isPrefixOf r=true then v++replS f t.length r else c::replS f 0 r
   | none=>c::replS f 0 r
theorem replS_nil (f:UInt8→Option (List UInt8×List UInt8)) (k:Nat):replS f k []=[]:=by cases k<;>rfl
theorem replS_skip (f:UInt8→Option (List UInt8×List UInt8)):∀ (k:Nat) (s:List UInt8),replS f k s=replS f 0 (s.drop k):=by
 intro k
 induction k with
 | zero=>intro s;rfl
 | succ k ih =>
   intro s
   cases s with
   | nil=>rfl
   | cons c r=>exact ih r
theorem replS_none {f:UInt8→Option (List UInt8×List UInt8)} {c:UInt8} (h:f c=none) (r:List UInt8):replS f 0 (c::r)=c::replS f 0 r:=by
 rw [replS,h]
theorem replS_hit {f:UInt8→Option (List UInt8×List UInt8)} {c:UInt8} {t v r:List UInt8} (h:f c=some (t,v)) (hp:t.isPrefixOf r=true):replS f 0 (c::r)=v++replS f 0 (r.drop t.length):=by
 rw [replS,h]
 simp only [hp,if_true]
 rw [replS_skip]
theorem replS_miss {f:UInt8→Option (List UInt8×List UInt8)} {c:UInt8} {t v r:List UInt8} (h:f c=some (t,v)) (hp:¬ t.isPrefixOf r=true):replS f 0 (c::r)=c::replS f 0 r:=by
 rw [replS,h]
 simp only [hp]
 rfl
def wAmp:List UInt8:=[38,97,109,112,59]
def wLt:List UInt8:=[38,108,116,59]
def wGt:List UInt8:=[38,103,116,59]
def wQuot:List UInt8:=[38,113,117,111,116,59]
end Go.Proofs.YtcecjoaeolglbaaGreatDoor.Pl
end

section
namespace Go.Proofs.YtcecjoaeolglbaaGreatDoor.Hand
open Go.RowKit Go.Proofs.YtcecjoaeolglbaaGreatDoor.Pb Go.Proofs.YtcecjoaeolglbaaGreatDoor.Pl
theorem Below.of_drewN (B:Nat) (w:World) (k:Nat):Below B w (w.drewN k):=⟨rfl,rfl,rfl,Nat.le_refl _,fun _ _=>rfl⟩
def pairF (kv:List (List UInt8×ByteArray)) (c:UInt8):Option (List UInt8×List UInt8):=(kv.find? fun x=>x.1.head? == some c).map fun x=>(x.1.tail,x.2.data.toList)
theorem pairF_some {kv:List (List UInt8×ByteArray)} {c:UInt8} {t v:List UInt8} (h:pairF kv c=some (t,v)):∃ j,∃ hj:j<kv.length,kv[j].1=c::t∧kv[j].2=B v:=by
 unfold pairF at h
 obtain ⟨x,hx,e⟩:=Option.map_eq_some_iff.1 h
 have hm:=List.mem_of_find?_eq_some hx
 have hp:=List.find?_some hx
 obtain ⟨j,hj,ej⟩:=List.mem_iff_getElem.1 hm
 refine ⟨j,hj,?_,?_⟩
 · rw [ej]
   simp only [beq_iff_eq] at hp
   have e1:x.1.tail=t:=(Prod.mk.inj e).1
   cases hxl:x.1 with
   | nil=>rw [hxl] at hp;cases hp
   | cons d r=>rw [hxl] at hp e1;simp at hp e1;rw [hp,e1]
 · rw [ej]
   have e2:x.2.data.toList=v:=(Prod.mk.inj e).2
   rw [← e2];exact B_of _
theorem pairF_none {kv:List (List UInt8×ByteArray)} {c:UInt8} (h:pairF kv c=none):∀ j (hj:j<kv.length) d t,kv[j].1=d::t→d≠c:=by
 unfold pairF at h
 simp only [Option.map_eq_none_iff,List.find?_eq_none] at h
 intro j hj d t e hd
 have:=h _ (List.getElem_mem hj)
 rw [e,hd] at this
 simp at this
structure TrieAt (kv:List (List UInt8×ByteArray)) (br bt ts:Nat) (W:World):Prop where
 root:BlkF br 262 (replF (keysU kv kv.length) ts bt) W
 tab:∃ T,BlkF bt ts T W∧(∀ j (h:j<kv.length),∀ c t,kv[j].1=c::t→∃ (b:Nat) (p:Int),0<p∧T (cntU (keysU kv kv.length) c.toNat) = .pointer (some ⟨b,0,none⟩)∧NodeAt (bt+1) b t kv[j].2 p W) ∧
  (∀ x,x<ts→(∀ j (h:j<kv.length),∀ c t,kv[j].1=c::t→cntU (keysU kv kv.length) c.toNat≠x)→T x = .pointer none)
 heads:Heads kv
 lens:∀ x∈kv,x.1.length≤1000
 lt:br<bt∧bt<W.heap.size
 many:ts=cntU (keysU kv kv.length) 256∧ts≤200
theorem NodeAt.below {lo b:Nat} {t:List UInt8} {v:ByteArray} {p:Int} {w W:World} (h:NodeAt lo b t v p w) (hb:Below w.heap.size w W):NodeAt lo b t v p W:=by
 obtain ⟨h1,h2,h3⟩:=h
 refine ⟨h1,Nat.lt_of_lt_of_le h2 hb.size,?_⟩
 rcases h3 with ⟨ht,h3⟩|⟨ht,b2,h4,h5,h6,h7⟩
 · exact .inl ⟨ht,h3.below hb h2⟩
 · exact .inr ⟨ht,b2,h4,Nat.lt_of_lt_of_le h5 hb.size,h6.below hb h2,h7.below hb h5⟩
theorem TrieAt.below {kv:List (List UInt8×ByteArray)} {br bt ts:Nat} {w W:World} (h:TrieAt kv br bt ts w) (hb:Below w.heap.size w W):TrieAt kv br bt ts W:=by
 obtain ⟨T,h1,h2,h3⟩:=h.tab
 refine ⟨h.root.below hb (Nat.lt_trans h.lt.1 h.lt.2),⟨T,h1.below hb h.lt.2,fun j hj c t e => ?_,h3⟩,h.heads,h.lens,⟨h.lt.1,Nat.lt_of_lt_of_le h.lt.2 hb.size⟩,h.many⟩
 obtain ⟨b,p,g1,g2,g3⟩:=h2 j hj c t e
 exact ⟨b,p,g1,g2,g3.below hb⟩
def LookR (kv:List (List UInt8×ByteArray)) (c:UInt8) (r:List UInt8):ByteArray×Nat×Bool :=
 match pairF kv c with
 | some (t,v)=>if t.isPrefixOf r=true then (B v,1+t.length,true) else (⟨#[]⟩,0,false)
 | none=>(⟨#[]⟩,0,false)
theorem look_c {kv:List (List UInt8×ByteArray)} {br bt ts:Nat} {W:World} (h:TrieAt kv br bt ts W) (c:UInt8) (r:List UInt8) (hr:r.length≤100000) (hp:(pairF kv c).isSome=true) :
  Calls Tryz.prog 271 #[.pointer (some ⟨br,0,none⟩),.string (B (c::r)),.bool false] W fun e w'=>e = .returned (.tuple #[.string (LookR kv c r).1,.int .i64 ((LookR kv c r).2.1:Int),.bool (LookR kv c r).2.2])∧∃ k,w'=W.drewN k:=by
 obtain ⟨tv,htv⟩:=Option.isSome_iff_exists.1 hp
 obtain ⟨t,v⟩:=tv
 obtain ⟨j,hj,e1,e2⟩:=pairF_some htv
 obtain ⟨T,h1,h2,h3⟩:=h.tab
 obtain ⟨b,p,g1,g2,g3⟩:=h2 j hj c t e1
 have hu:=used_of hj e1
 have hm:cntU (keysU kv kv.length) c.toNat<ts:=by
  rw [h.many.1];exact cnt_lt _ hu c.toNat_lt
 have hrm:replF (keysU kv kv.length) ts bt (6+c.toNat) = .int .u8 ((cntU (keysU kv kv.length) c.toNat:Nat):Int):=by
  rw [replF_map _ _ _ _ c.toNat_lt]
  simp only [mapV,hu,if_true]
 have hc0:∀ h,(B (c::r))[0]'h=c:=fun _=>rfl
 have hx:(B (c::r)).extract 1 (B (c::r)).size=B r:=by rw [B_extract];simp
 have htl:t.length≤1000:=by
  have:=h.lens _ (List.getElem_mem hj)
  rw [e1] at this;simp at this;omega
 have hts:=h.many.2
 rw [e2] at g3
 obtain ⟨_,_,g3⟩:=g3
 unfold LookR
 rw [htv]
 simp only
 rcases g3 with ⟨rfl,g3⟩|⟨hne,b2,_,_,g3,g4⟩
 · have:=lookup_leaf br bt ts _ b _ T (B (c::r)) (B v) p W (by simp) (by simp;omega) h.root h1 (by omega) hm g1 rfl rfl rfl (by rw [hc0];exact hrm) g2 g3
   simpa using this
 · have hne':¬ (B t).toList=[]:=by simpa using hne
   cases hpre:t.isPrefixOf r with
   | true =>
     have hle:t.length≤r.length:=(List.isPrefixOf_iff_prefix.1 hpre).length_le
     have:=lookup_tail br bt ts _ b _ T (B (c::r)) (B v) (B t) p W (by simp) (by simp;omega) h.root h1 (by omega) hm g1 rfl rfl rfl (by rw [hc0];exact hrm) g2 b2 hne' (by simpa using htl) g3 g4 (by rw [hx,B_data,B_data];exact hpre) (by rw [hx];simpa using hle)
     simpa using this
   | false =>
     have:=lookup_miss br bt ts _ b _ T (B (c::r)) (B v) (B t) p W (by simp) (by simp;omega) h.root h1 (by omega) hm g1 rfl rfl rfl (by rw [hc0];exact hrm) g2 b2 hne' (by simpa using htl) g3 (by rw [hx,B_data,B_data];exact hpre)
     simpa using this
theorem none_c {kv:List (List UInt8×ByteArray)} {br bt ts:Nat} {W:World} (h:TrieAt kv br bt ts W) (c:UInt8) (hp:pairF kv c=none) :
  ∃ m:Nat,W.cell? ⟨br,6+c.toNat,none⟩=some (.int .u8 (m:Int))∧(m=ts∨(m<ts∧W.cell? ⟨bt,m,none⟩=some (.pointer none))):=by
 obtain ⟨T,h1,h2,h3⟩:=h.tab
 have hc:=h.root.cell (6+c.toNat) (by have:=c.toNat_lt;omega)
 rw [replF_map _ _ _ _ c.toNat_lt] at hc
 unfold mapV at hc
 refine ⟨_,hc,?_⟩
 cases hu:usedB (keysU kv kv.length) c.toNat with
 | false=>exact .inl (by simp)
 | true =>
   refine .inr ?_
   simp only [if_true]
   have hm:cntU (keysU kv kv.length) c.toNat<ts:=by
    rw [h.many.1];exact cnt_lt _ hu c.toNat_lt
   refine ⟨hm,?_⟩
   rw [h1.cell _ hm,h3 _ hm]
   intro j hj d t e
   exact cnt_inj (used_of hj e) hu fun e'=>pairF_none hp j hj d t e (UInt8.toNat_inj.1 e')
theorem some_c {kv:List (List UInt8×ByteArray)} {br bt ts:Nat} {W:World} (h:TrieAt kv br bt ts W) (c:UInt8) (hp:(pairF kv c).isSome=true) :
  ∃ m b:Nat,W.cell? ⟨br,6+c.toNat,none⟩=some (.int .u8 (m:Int))∧m<ts∧W.cell? ⟨bt,m,none⟩=some (.pointer (some ⟨b,0,none⟩)):=by
 obtain ⟨tv,htv⟩:=Option.isSome_iff_exists.1 hp
 obtain ⟨t,v⟩:=tv
 obtain ⟨j,hj,e1,e2⟩:=pairF_some htv
 obtain ⟨T,h1,h2,h3⟩:=h.tab
 obtain ⟨b,p,g1,g2,g3⟩:=h2 j hj c t e1
 have hu:=used_of hj e1
 have hm:cntU (keysU kv kv.length) c.toNat<ts:=by
  rw [h.many.1];exact cnt_lt _ hu c.toNat_lt
 have hc:=h.root.cell (6+c.toNat) (by have:=c.toNat_lt;omega)
 rw [replF_map _ _ _ _ c.toNat_lt] at hc
 simp only [mapV,hu,if_true] at hc
 exact ⟨_,b,hc,hm,by rw [h1.cell _ hm,g2]⟩
end Go.Proofs.YtcecjoaeolglbaaGreatDoor.Hand
end

section
namespace Go.Proofs.YtcecjoaeolglbaaGreatDoor.Hand
open Go.RowKit Go.Proofs.YtcecjoaeolglbaaGreatDoor.Pb Go.Proofs.YtcecjoaeolglbaaGreatDoor.Pl
def TwoRes (e:Ending):Prop := ∃ n:Int,e = .returned (.tuple #[.int .i64 n,.nilIface])
theorem Buf.drewN {bb lo:Nat} {acc:List UInt8} {W:World} (h:Buf bb lo acc W) (k:Nat):Buf bb lo acc (W.drewN k) :=
 ⟨by obtain ⟨v,h1,h2⟩:=h.val;exact ⟨v,h1,h2⟩,h.le⟩
theorem Buf.drew {bb lo:Nat} {acc:List UInt8} {W:World} (h:Buf bb lo acc W):Buf bb lo acc W.drew :=
 ⟨by obtain ⟨v,h1,h2⟩:=h.val;exact ⟨v,h1,h2⟩,h.le⟩
theorem nil_ahead (n:Nat) (a:Addr) (w:World):(nilAhead (n+1) 295 (.pointer (some a)) "WriteString").run Tryz.prog w = .ok (some false) w:=by kernel_rfl
theorem meth_ws (n:Nat) (a:Addr) (w:World):(method (n+1) 295 (.pointer (some a)) "WriteString").run Tryz.prog w = .ok (281,.pointer (some a)) w:=by kernel_rfl
section
variable {f : UInt8 → Option (List UInt8 × List UInt8)} {acc s R : List UInt8} {l k : Nat}
theorem take_grow (hl:l≤k) (hk:k<s.length):(s.drop l).take (k+1 - l)=(s.drop l).take (k - l)++[s[k]]:=by
 rw [show k+1 - l=(k - l)+1 by omega,List.take_succ_eq_append_getElem (by simp;omega)]
 congr 2
 rw [List.getElem_drop]
 congr 1
 omega
theorem step_skip (hl:l≤k) (hk:k<s.length) (hs:replS f 0 (s.drop k)=s[k]::replS f 0 (s.drop (k+1))) (h:acc++(s.drop l).take (k - l)++replS f 0 (s.drop k)=R) :
  acc++(s.drop l).take (k+1 - l)++replS f 0 (s.drop (k+1))=R:=by
 rw [← h,hs,take_grow hl hk];simp
theorem step_hit (v:List UInt8) (n:Nat) (hs:replS f 0 (s.drop k)=v++replS f 0 (s.drop (k+n))) (h:acc++(s.drop l).take (k - l)++replS f 0 (s.drop k)=R) :
  (acc++(s.drop l).take (k - l)++v)++(s.drop (k+n)).take (k+n - (k+n))++replS f 0 (s.drop (k+n))=R:=by
 rw [← h,hs];simp
theorem step_end (hl:l≤s.length) (h:acc++(s.drop l).take (s.length - l)++replS f 0 (s.drop s.length)=R) :
  acc++(s.drop l).take (s.length+1 - l)++replS f 0 (s.drop (s.length+1))=R:=by
 rw [← h,List.drop_length,List.drop_eq_nil_of_le (show s.length≤s.length+1 by omega),List.take_of_length_le (by rw [List.length_drop];omega),List.take_of_length_le (by rw [List.length_drop];omega)]
theorem step_out (hl:l≤s.length) (h:acc++(s.drop l).take (s.length+1 - l)++replS f 0 (s.drop (s.length+1))=R):acc++s.drop l=R:=by
 rw [← h,List.drop_eq_nil_of_le (show s.length≤s.length+1 by omega),List.take_of_length_le (by rw [List.length_drop];omega),replS_nil,List.append_nil]
end
set_option maxRecDepth 100000 in
set_option maxHeartbeats 8000000 in
theorem gen_write (kv:List (List UInt8×ByteArray)) (br bt ts bb lo:Nat) (s:List UInt8) (W0 w:World) (hT:TrieAt kv br bt ts W0) (hw:Below W0.heap.size W0 w) (hs:s.length≤100000) (hbb:W0.heap.size≤lo) (hB:Buf bb lo [] w)
  (hv:∀ x∈kv,x.2.size≤100) :
  Calls Tryz.prog 269 #[.pointer (some ⟨br,0,none⟩),.iface 295 (.pointer (some ⟨bb,0,none⟩)),.string (B s)] w fun e w'=>TwoRes e∧Buf bb lo (replS (pairF kv) 0 s) w'∧Below W0.heap.size W0 w':=by
 have HT:=Lib.hid hT
 have HW:=Lib.hid hw
 have HB:=Lib.hid hB
 obtain ⟨R,hR⟩:∃ R,replS (pairF kv) 0 s=R:=⟨_,rfl⟩
 rw [hR]
 have HR:=Lib.hid hR
 obtain ⟨a,ha⟩:∃ a,B s=a:=⟨_,rfl⟩
 have hza:a.size=s.length:=by rw [← ha];simp
 have had:a.data.toList=s:=by rw [← ha,B_data]
 have hz:a.size≤100000:=by omega
 rw [ha]
 have HA:=Lib.hid ha
 have HZ:=Lib.hid hza
 have HV:=Lib.hid hv
 clear hT hw hB hR ha hza had hs hv
 go_enter Tryz.func269,Tryz.ntmps269
 go_wp2_with fail
 refine (getSW _ _).mono ?_
 rintro e w1 ⟨rfl,rfl⟩
 go_wp2_with fail
 go_loopw [6,7,9,11,12] (fun n er la pm i wr => ∃ (z:Int) (l k:Nat) (acc:List UInt8),n = .int .i64 z∧er = .nilIface∧la = .int .i64 (l:Int)∧pm = .bool false∧i = .int .i64 (k:Int)∧l≤k∧k≤a.size+1∧l≤a.size ∧
  Hid (acc++(s.drop l).take (k - l)++replS (pairF kv) 0 (s.drop k)=R)∧Hid (Buf bb lo acc wr)∧Hid (Below W0.heap.size W0 wr)∧Hid (acc.length≤100*l)) (fun _ _ _ _ i _=>a.size+1 - (intOf i).toNat)
 case atStart=>exact ⟨0,0,0,[],rfl,rfl,rfl,rfl,rfl,Nat.le_refl _,by omega,by omega,Lib.hid (by rw [Nat.sub_self,List.take_zero,List.drop_zero,List.nil_append];exact HR.out),HB,HW,Lib.hid (by simp)⟩
 case round =>
  clear HB HW
  obtain ⟨z,l,k,acc,rfl,rfl,rfl,rfl,rfl,hlk,hk,hl,HQ,HB,HW,HAL⟩:=hrel
  by_cases hlt:k<a.size
  · have hks:k<s.length:=by rw [← HZ.out];exact hlt
    have hca:a[k]=s[k]:=by
     have h:=HA.out
     subst h
     rfl
    have hdr:s.drop k=a[k]::s.drop (k+1):=by rw [List.drop_eq_getElem_cons hks,hca]
    have hTr:=HT.out.below HW.out
    have c1:=hTr.root.cell 1 (by omega)
    have c4:=hTr.root.cell 4 (by omega)
    have c5:=hTr.root.cell 5 (by omega)
    rw [replF_1] at c1
    rw [replF_4] at c4
    rw [replF_5] at c5
    have hts:=hTr.many.2
    have hb0:(0:Int)≤(a[k].toNat:Int):=by omega
    have hb1:(a[k].toNat:Int)<256:=by have:=a[k].toNat_lt;omega
    have hb2:a[k].toNat<256:=by have:=a[k].toNat_lt;omega
    have hk0:(0:Int)≤(k:Int):=by omega
    have hk1:(k:Int)<(a.size:Int):=by omega
    have hk2:(k:Int)≤(a.size:Int):=by omega
    have e0:((k:Int) != (a.size:Int))=true:=by rw [bne_iff_ne];omega
    cases hp:pairF kv (a[k]) with
    | none =>
      obtain ⟨m,hm,hor⟩:=none_c hTr (a[k]) hp
      have HQ2:Hid (acc++(s.drop l).take (k+1 - l)++replS (pairF kv) 0 (s.drop (k+1))=R):=Lib.hid (step_skip hlk hks (by rw [hdr,replS_none hp,hca]) HQ.out)
      clear hTr hdr hca hks HQ hp
      have hm0:(0:Int)≤(m:Int):=by omega
      have hml:m≤200:=by rcases hor with h|h<;>omega
      have HWM:=Lib.hid (show wrap64 (m:Int)=(m:Int) from wrap_id _ (by omega) (by omega))
      rcases hor with hor|⟨hmt,hor⟩
      · have e1:((m:Int) == (ts:Int))=true:=by rw [hor];simp
        clear hor
        have hwm:=HWM.out
        go_wp2_with fail
        go_quiet (fail)
        go_wp2_with fail
        clear hwm
        go_roundw
        case rel=>exact ⟨z,l,k+1,acc,rfl,rfl,rfl,rfl,by go_num,by omega,by omega,hl,HQ2,Lib.hid (HB.out.drewN _),Lib.hid (HW.out.trans (Below.of_drewN _ _ _)),HAL⟩
        case measure=>simp [intOf];omega
      · have e1:((m:Int) == (ts:Int))=false:=by rw [beq_eq_false_iff_ne];omega
        have hm1:(m:Int)<(ts:Int):=by omega
        have hwm:=HWM.out
        go_wp2_with fail
        go_quiet (fail)
        go_wp2_with fail
        clear hwm
        go_roundw
        case rel=>exact ⟨z,l,k+1,acc,rfl,rfl,rfl,rfl,by go_num,by omega,by omega,hl,HQ2,Lib.hid (HB.out.drewN _),Lib.hid (HW.out.trans (Below.of_drewN _ _ _)),HAL⟩
        case measure=>simp [intOf];omega
    | some tv =>
      obtain ⟨t,v⟩:=tv
      obtain ⟨m,b,hm,hmt,hmb⟩:=some_c hTr (a[k]) (by rw [hp];rfl)
      have hr:(s.drop (k+1)).length≤100000:=by have:=HZ.out;simp;omega
      have C:=fun W (hb:Below wr.heap.size wr W)=>look_c (hTr.below hb) (a[k]) (s.drop (k+1)) hr (by rw [hp];rfl)
      have hx:a.extract k a.size=B (a[k]::s.drop (k+1)):=by
       rw [← hdr,← HA.out,B_extract,size_B,List.take_length]
      rw [← hx] at C
      have hvz:v.length≤100:=by
       obtain ⟨j,hj,_,e2⟩:=pairF_some hp
       have:=HV.out _ (List.getElem_mem hj)
       rw [e2] at this;simpa using this
      have hm0:(0:Int)≤(m:Int):=by omega
      have hm1:(m:Int)<(ts:Int):=by omega
      have HWM:=Lib.hid (show wrap64 (m:Int)=(m:Int) from wrap_id _ (by omega) (by omega))
      have e1:((m:Int) == (ts:Int))=false:=by rw [beq_eq_false_iff_ne];omega
      unfold LookR at C
      rw [hp] at C
      simp only at C
      cases hpre:t.isPrefixOf (s.drop (k+1)) with
      | false =>
        rw [hpre] at C
        simp only [Bool.false_eq_true,if_false] at C
        have HQ2:Hid (acc++(s.drop l).take (k+1 - l)++replS (pairF kv) 0 (s.drop (k+1))=R):=Lib.hid (step_skip hlk hks (by rw [hdr,replS_miss hp (by rw [hpre];simp),hca]) HQ.out)
        have HC:=Lib.hid C
        clear hTr hdr hca hks HQ hp C hx hr hpre
        have hwm:=HWM.out
        go_wp2_with fail
        go_quiet (fail)
        go_wp2_with fail
        clear hwm
        refine (HC.out _ (Below.of_drewN _ _ _)).mono ?_
        rintro e w2 ⟨rfl,q,rfl⟩
        go_wp2_with fail
        go_roundw
        case rel=>exact ⟨z,l,k+1,acc,rfl,rfl,rfl,rfl,by go_num,by omega,by omega,hl,HQ2,Lib.hid (HB.out.drewN _),Lib.hid (HW.out.trans (Below.of_drewN _ _ _)),HAL⟩
        case measure=>simp [intOf];omega
      | true =>
        rw [hpre] at C
        simp only [if_true] at C
        have hle:t.length≤(s.drop (k+1)).length:=(List.isPrefixOf_iff_prefix.1 hpre).length_le
        rw [List.length_drop] at hle
        obtain ⟨n,hn⟩:∃ n,1+t.length=n:=⟨_,rfl⟩
        have hn1:1≤n:=by omega
        have hkn:k+n≤a.size:=by have:=HZ.out;omega
        have HQ2:Hid ((acc++(s.drop l).take (k - l)++v)++(s.drop (k+n)).take (k+n - (k+n))++replS (pairF kv) 0 (s.drop (k+n))=R) :=
         Lib.hid (step_hit v n (by rw [hdr,replS_hit hp hpre,List.drop_drop,← hn];congr 3;omega) HQ.out)
        rw [hn] at C
        have HC:=Lib.hid C
        have hx1:a.extract l k=B ((s.drop l).take (k - l)):=by
         rw [← HA.out,B_extract,List.drop_take]
        have HX1:=Lib.hid hx1
        have hsl:((s.drop l).take (k - l)).length≤k - l:=List.length_take_le _ _
        have HAL2:Hid ((acc++(s.drop l).take (k - l)++v).length≤100*(k+n)):=Lib.hid (by have:=HAL.out;simp only [List.length_append];omega)
        have hz1:acc.length+((s.drop l).take (k - l)).length≤100000000:=by have:=HAL.out;omega
        have hz2:(acc++(s.drop l).take (k - l)).length+v.length≤100000000:=by have:=HAL.out;rw [List.length_append];omega
        have D1:=Lib.hid (fun W (h:Buf bb lo acc W)=>aw_write bb lo acc ((s.drop l).take (k - l)) W h hz1)
        have D2:=Lib.hid (fun W (h:Buf bb lo (acc++(s.drop l).take (k - l)) W)=>aw_write bb lo (acc++(s.drop l).take (k - l)) v W h hz2)
        obtain ⟨vb,hvb⟩:∃ x,B v=x:=⟨_,rfl⟩
        rw [hvb] at HC D2
        have e2:((n:Int) == 0)=false:=by rw [beq_eq_false_iff_ne];omega
        have hl0:(0:Int)≤(l:Int):=by omega
        have hl1:(l:Int)≤(k:Int):=by omega
        clear hTr hdr hca hks HQ hp C hx hr hpre hn hx1 hsl hz1 hz2 hvb hle
        have HKN:=Lib.hid hkn
        have HN1:=Lib.hid hn1
        clear hkn hn1
        have hwm:=HWM.out
        go_wp2_with fail
        go_quiet (fail)
        go_wp2_with fail
        clear hwm
        refine (HC.out _ (Below.of_drewN _ _ _)).mono ?_
        rintro e w2 ⟨rfl,q,hw2⟩
        have HB2:Hid (Buf bb lo acc w2):=Lib.hid (by rw [hw2];exact (HB.out.drewN _).drewN _)
        have HW2:Hid (Below W0.heap.size W0 w2):=Lib.hid (by rw [hw2];exact (HW.out.trans (Below.of_drewN _ _ _)).trans (Below.of_drewN _ _ _))
        clear HC HB HW hw2 hm hmb c1 c4 c5 HWM
        have hmf:∀ (fn:Fn) (first cap:Array Value) (w:World),(Instr.makeFunc fn first cap).run Tryz.prog w = .ok (.func fn first cap) w:=fun _ _ _ _=>rfl
        have hna:=nil_ahead
        have hme:=meth_ws
        have HBd:=Lib.hid (HB2.out.drew)
        have HWd:=Lib.hid (HW2.out.drew)
        clear HB2 HW2
        go_wp2_with fail
        go_region_held3 (fun _=>True) (exact trivial) ((go_at_call 281;rw [HX1.out];refine (D1.out _ HBd.out).mono ?_;rintro e w3 ⟨rfl,hb1,hb2⟩))
        have HB3:=Lib.hid (by assumption:Buf bb lo (acc++(s.drop l).take (k - l)) _)
        have HW3:=Lib.hid (HWd.out.trans (Below.mono (by assumption:Below lo _ _) hbb))
        clear HBd HWd D1
        go_wp2_with fail
        refine (D2.out _ HB3.out).mono ?_
        rintro e w4 ⟨rfl,hb3,hb4⟩
        have HB4:=Lib.hid hb3
        have HW4:=Lib.hid (HW3.out.trans (hb4.mono hbb))
        clear hb3 hb4 HB3 HW3 D2
        have hkn2:k+n≤a.size:=HKN.out
        have hn2:1≤n:=HN1.out
        have hle2:k+n≤a.size+1:=by omega
        go_wp2_with fail
        go_roundw
        case rel=>exact ⟨_,k+n,k+n,acc++(s.drop l).take (k - l)++v,rfl,rfl,by go_num,rfl,by go_num,Nat.le_refl _,hle2,hkn2,HQ2,HB4,HW4,HAL2⟩
        case measure=>simp [intOf];omega
  · by_cases hke:k=a.size
    · subst hke
      have C:=Lib.hid (fun W (hW:Below W0.heap.size W0 W)=>lookup_end br _ W (HT.out.below hW).root rfl)
      have HQ2:Hid (acc++(s.drop l).take (a.size+1 - l)++replS (pairF kv) 0 (s.drop (a.size+1))=R):=Lib.hid (by
       have h:=HQ.out
       have h2:=HZ.out
       rw [h2] at h ⊢
       exact step_end (by omega) h)
      have hx:a.extract a.size a.size=⟨#[]⟩:=by
       have h:=HA.out
       subst h
       rw [B_extract,size_B,List.take_length,List.drop_length]
       rfl
      have e1:((a.size:Int) != (a.size:Int))=false:=by simp
      clear HQ
      go_wp2_with fail
      refine (C.out _ HW.out).mono ?_
      rintro e w2 ⟨rfl,q,rfl⟩
      replace HB:Hid (Buf bb lo acc (wr.drewN q)):=Lib.hid (HB.out.drewN q)
      replace HW:Hid (Below W0.heap.size W0 (wr.drewN q)):=Lib.hid (HW.out.trans (Below.of_drewN _ _ _))
      clear C
      go_wp2_with fail
      go_roundw
      case rel=>exact ⟨z,l,a.size+1,acc,rfl,rfl,rfl,rfl,by go_num,by omega,by omega,hl,HQ2,HB,HW,HAL⟩
      case measure=>simp [intOf]
    · obtain rfl:k=a.size+1:=by omega
      have hq:=HQ.out
      have h2:=HZ.out
      rw [h2] at hq
      have HO:Hid (acc++s.drop l=R):=Lib.hid (step_out (by omega) hq)
      clear hq h2 HQ
      by_cases hle:l=a.size
      · subst hle
        have HO2:Hid (acc=R):=Lib.hid (by have h:=HO.out;rw [List.drop_eq_nil_of_le (by have:=HZ.out;omega),List.append_nil] at h;exact h)
        have e1:((a.size:Int) != (a.size:Int))=false:=by simp
        clear HO
        go_wp2_with fail
        go_ret2
        exact ⟨⟨_,rfl⟩,by rw [← HO2.out];exact HB.out,HW.out⟩
      · have e1:((l:Int) != (a.size:Int))=true:=by rw [bne_iff_ne];omega
        have hx:a.extract l a.size=B (s.drop l):=by
         rw [← HA.out,B_extract,size_B,List.take_length]
        have HX:=Lib.hid hx
        clear hx
        have hmf:∀ (fn:Fn) (first cap:Array Value) (w:World),(Instr.makeFunc fn first cap).run Tryz.prog w = .ok (.func fn first cap) w:=fun _ _ _ _=>rfl
        have hl0:(0:Int)≤(l:Int):=by omega
        have hl1:(l:Int)≤(a.size:Int):=by omega
        go_wp2_with fail
        have hna:=nil_ahead
        have hme:=meth_ws
        have C:=Lib.hid (fun W (h:Buf bb lo acc W)=>aw_write bb lo acc (s.drop l) W h (by have:=HAL.out;have:=HZ.out;simp;omega))
        have HBd:=Lib.hid (HB.out.drew)
        have HWd:=Lib.hid (HW.out.drew)
        clear HB HW
        go_region_with (go_at_call 281;rw [HX.out];refine (C.out _ HBd.out).mono ?_;rintro e w2 ⟨rfl,hb1,hb2⟩)
        all_goals
         have HB:=Lib.hid (by assumption:Buf bb lo (acc++s.drop l) _)
         have HW:=Lib.hid (HWd.out.trans (Below.mono (by assumption:Below lo _ _) hbb))
         go_wp2_with fail
         go_ret2
         exact ⟨⟨_,rfl⟩,by rw [← HO.out];exact HB.out,HW.out⟩
end Go.Proofs.YtcecjoaeolglbaaGreatDoor.Hand
end

section
namespace Go.Proofs.YtcecjoaeolglbaaGreatDoor.Hand
open Go.RowKit Go.Proofs.YtcecjoaeolglbaaGreatDoor.Pb Go.Proofs.YtcecjoaeolglbaaGreatDoor.Pl
theorem owns_string {W:World} {lo:Nat} {v:Value} {l:List UInt8} (h:W.ownsRow lo 5 1 v l.length (Lib.byteCells l)):(convert 294 9 v).run Tryz.prog W = .ok (.string (B l)) W:=by
 rcases h.2 with ⟨rfl,hn⟩|⟨g,cap,cur,rfl,_⟩
 · obtain rfl:=List.eq_nil_of_length_eq_zero hn
   exact run_convert_bytes_nil W 294 5 Tryz.underlying294 Tryz.underlying5 0 0 9 Tryz.underlying9
 · have hc:=h.cells (g:=g) rfl
   exact run_convert_bytes_back (P:=Tryz.prog) W 294 9 5 ⟨g,0,none⟩ cap l Tryz.underlying294 Tryz.underlying5 Tryz.underlying9 (fun j hj=>hc j _ (by simp [Lib.byteCells,List.getElem?_eq_getElem hj]))
set_option maxRecDepth 100000 in
set_option maxHeartbeats 4000000 in
theorem gen_replace (kv:List (List UInt8×ByteArray)) (br bt ts:Nat) (s:List UInt8) (W0:World) (hT:TrieAt kv br bt ts W0) (hs:s.length≤100000)
  (hv:∀ x∈kv,x.2.size≤100) (hr:(replS (pairF kv) 0 s).length≤100000000) :
  Calls Tryz.prog 268 #[.pointer (some ⟨br,0,none⟩),.string (B s)] W0 fun e w'=>e = .returned (.string (B (replS (pairF kv) 0 s)))∧Below W0.heap.size W0 w':=by
 obtain ⟨i,hi,hzz⟩:=Option.map_eq_some_iff.1 info_u8
 simp only [Prod.mk.injEq] at hzz
 obtain ⟨hz0,hs1,hb1⟩:=hzz
 obtain ⟨w1,hmk,hown,hgr⟩:=run_makeSlice_owned (P:=Tryz.prog) W0 W0.heap.size 294 5 i (.int .u8 0) 1 Tryz.underlying294 hi hz0 hs1 .i64 .i64 s.length (by omega) (by rw [hb1];omega) (by unfold maxLen;omega) (Nat.le_refl _)
 have hb1:Below W0.heap.size W0 w1:=(Below.refl _ _).grown hgr (Nat.le_refl _) (fun k h=>by cases h)
 have hlt1:W0.heap.size<w1.heap.size:=(hown.lt W0.heap.size rfl).2
 have hB0:Buf w1.heap.size W0.heap.size [] (w1.alloc (.cells #[.slice (some ⟨W0.heap.size,0,none⟩) 0 s.length] 294)) :=
  ⟨⟨_,heap_alloc_new _ _,hown.alloc _⟩,Nat.le_of_lt hlt1⟩
 have C:=Lib.hid (gen_write kv br bt ts w1.heap.size W0.heap.size s W0 _ hT (hb1.alloc (Nat.le_of_lt hlt1) (.cells #[.slice (some ⟨W0.heap.size,0,none⟩) 0 s.length] 294)) hs (Nat.le_refl _) hB0 hv)
 obtain ⟨R,hR⟩:∃ R,replS (pairF kv) 0 s=R:=⟨_,rfl⟩
 rw [hR] at C hr ⊢
 have hsz:(B s).size=s.length:=by simp
 clear hR hB0 hb1 hlt1 hown hgr hi hz0 hs1
 go_enter Tryz.func268,Tryz.ntmps268
 go_wp2_with fail
 refine C.out.mono ?_
 rintro e w2 ⟨⟨n,rfl⟩,hB,hW⟩
 obtain ⟨v,hh,hown2⟩:=hB.val
 have hv1:=cell_of_one hh
 have hcv:=owns_string hown2
 have HW:=Lib.hid hW
 clear hmk hB hW hh hown2 C hT hv
 go_wp2_with fail
 go_ret
 exact ⟨rfl,HW.out⟩
end Go.Proofs.YtcecjoaeolglbaaGreatDoor.Hand
end

section
namespace Go.Proofs.YtcecjoaeolglbaaGreatDoor.Hand
open Go.RowKit Go.Proofs.YtcecjoaeolglbaaGreatDoor.Pb Go.Proofs.YtcecjoaeolglbaaGreatDoor.Pl
structure NewR (strs:List ByteArray) (rb b2 c:Nat) (w W:World):Prop where
 blk:Blk rb #[.int .u32 0,.int .i32 0,.int .u32 0,.nilIface,.slice (some ⟨b2,0,none⟩) strs.length c] W
 old:BlkF b2 strs.length (strV strs) W
 below:Below w.heap.size w W
 le:w.heap.size≤b2∧b2<rb∧rb<W.heap.size
theorem info_str:(Tryz.prog.info? 9).map (fun i=>(i.zero,i.size,i.bytes))=some (some (.string ByteArray.empty),1,16):=by kernel_rfl
theorem strV_get (l:List ByteArray) (j:Nat) (h:j<l.length):(l.map Value.string)[j]? = some (strV l j):=by
 rw [List.getElem?_map,List.getElem?_eq_getElem h]
 unfold strV
 rw [List.getD_eq_getElem?_getD,List.getElem?_eq_getElem h];rfl
theorem owns_blkF {W:World} {lo e g c:Nat} {l:List ByteArray} (h:W.ownsRow lo e 1 (.slice (some ⟨g,0,none⟩) l.length c) l.length (l.map .string)):BlkF g l.length (strV l) W:=by
 refine ⟨fun j hj => ?_,fun j => ?_⟩
 · have:=h.cells (g:=g) rfl j _ (strV_get l j hj)
   have hadd:(⟨g,0,none⟩:Addr).add j=⟨g,j,none⟩:=by unfold Addr.add;split<;>simp_all
   rw [hadd] at this;exact this
 · rcases h.2 with ⟨h1,_⟩|⟨g',cap,cur,h1,_,hh,_⟩
   · cases h1
   · have:g=g':=by simp at h1;exact h1.1
     subst this
     simp [World.frozen?,hh]
set_option maxRecDepth 100000 in
set_option maxHeartbeats 4000000 in
theorem new_replacer (bo cap:Nat) (strs:List ByteArray) (w:World) (ho:BlkF bo strs.length (strV strs) w) (hbo:bo<w.heap.size) (hn:0<strs.length) (h2:strs.length % 2=0) (hm:strs.length≤1000) :
  Calls Tryz.prog 51 #[.slice (some ⟨bo,0,none⟩) strs.length cap] w fun e w' => ∃ rb b2 c,e = .returned (.pointer (some ⟨rb,0,none⟩))∧NewR strs rb b2 c w w':=by
 obtain ⟨i,hi,hzz⟩:=Option.map_eq_some_iff.1 info_str
 simp only [Prod.mk.injEq] at hzz
 obtain ⟨hz0,hs1,hb1⟩:=hzz
 obtain ⟨N,hN⟩:∃ N,strs.length=N:=⟨_,rfl⟩
 have hnews:∀ j u,(strs.map Value.string)[j]? = some u→w.cell? ((⟨bo,0,none⟩:Addr).add j)=some u:=by
  intro j u hu
  have hj:j<strs.length:=by
   rcases Nat.lt_or_ge j strs.length with h|h
   · exact h
   · rw [List.getElem?_eq_none (by simpa using h)] at hu;cases hu
  have hadd:(⟨bo,0,none⟩:Addr).add j=⟨bo,j,none⟩:=by unfold Addr.add;split<;>simp_all
  rw [hadd,ho.cell j hj,← hu,strV_get strs j hj]
 have h1:∀ u∈strs.map Value.string,u.oneCell'=true:=by
  intro u hu
  obtain ⟨_,_,rfl⟩:=List.mem_map.1 hu
  rfl
 have hlen:(strs.map Value.string).length=strs.length*1:=by simp
 rw [hN] at hn h2 hm hlen ⊢
 have hrem:((N:Int).tmod 2 == 1)=false:=by
  rw [beq_eq_false_iff_ne,Int.tmod_eq_emod_of_nonneg (by omega)];omega
 have hrem2:((N:Int) % 2 == 1)=false:=by rw [beq_eq_false_iff_ne];omega
 have HI:=Lib.hid hi
 have HZ:=Lib.hid hz0
 have HS1:=Lib.hid hs1
 have HB1:=Lib.hid hb1
 have HNEWS:=Lib.hid hnews
 have H1:=Lib.hid h1
 have HL:=Lib.hid hlen
 have HN:=Lib.hid hN
 clear hi hz0 hs1 hb1 hnews h1 hlen ho hN
 go_enter Tryz.func51,Tryz.ntmps51
 go_wp2_with (with_reducible refine wpList_append_own _ rfl (.const (.slice none 0 0)) (.tmp 8) 67 rfl w.heap.size 9 i (.string ByteArray.empty) 1 16 Tryz.underlying67 HI.out HZ.out HS1.out HB1.out rfl (by decide) (.slice none 0 0) 0 [] rfl (World.ownsRow_nil _ _ _ _) ⟨bo,0,none⟩ N cap (strs.map Value.string) rfl HL.out HNEWS.out H1.out (by unfold maxLen;omega) (by omega) (Nat.le_refl _) ?_)
 intro v' w1 hown hgr hnil
 have hbel:Below w.heap.size w w1:=(Below.refl _ _).grown hgr (Nat.le_refl _) (fun k h=>by cases h)
 replace hown:w1.ownsRow w.heap.size 9 1 v' N (strs.map Value.string):=by simpa only [Nat.zero_add,List.nil_append] using hown
 rcases hown.2 with ⟨hv,h0⟩|⟨g,c,cur,rfl,hg1,hg2,_⟩
 · omega
 · have hlt:=(hown.lt g rfl).2
   have hF:BlkF g strs.length (strV strs) w1:=by
    have:=hown
    rw [← HN.out] at this
    exact owns_blkF this
   have HF:=Lib.hid hF
   have HB:=Lib.hid hbel
   clear hown hgr hnil hF hbel hg2
   have HA:=Lib.hid (Below.alloc (Below.refl w1.heap.size w1) (Nat.le_refl _) (.cells #[.int .u32 0,.int .i32 0,.int .u32 0,.nilIface,.slice (some ⟨g,0,none⟩) N c] 111))
   go_wp2_with fail
   go_ret
   refine ⟨w1.heap.size,g,c,rfl,⟨?_,HF.out.below HA.out hlt,HB.out.trans (HA.out.mono HB.out.size),hg1,hlt,by simp⟩⟩
   rw [HN.out]
   exact Blk.of_alloc _ _ _
end Go.Proofs.YtcecjoaeolglbaaGreatDoor.Hand
end

section
namespace Go.Proofs.YtcecjoaeolglbaaGreatDoor.Hand
open Go.RowKit Go.Proofs.YtcecjoaeolglbaaGreatDoor.Pb Go.Proofs.YtcecjoaeolglbaaGreatDoor.Pl
structure Words (kv:List (List UInt8×ByteArray)):Prop where
 heads:Heads kv
 lens:∀ x∈kv,x.1.length≤1000
 vals:∀ x∈kv,x.2.size≤100
 many:kv.length≤100
 cnt:cntU (keysU kv kv.length) 256≤200
 long:∃ j,∃ h:j<kv.length,kv[j].1.length≠1
 two:2≤kv.length
theorem trie_of {kv:List (List UInt8×ByteArray)} {n br bt ts:Nat} {w W:World} (hk:Words kv) (h:TrieSt n br bt (bt+1) ts (keysU kv kv.length) kv kv.length w W) (h1:br<bt) (h2:ts≤200) (h3:ts=cntU (keysU kv kv.length) 256):TrieAt kv br bt ts W:=by
 obtain ⟨T,g1,g2,g3⟩:=h.tab
 exact ⟨h.root,⟨T,g1,fun j hj c t e=>g2 j hj hj c t e,fun x hx hxe=>g3 x hx fun j hj _=>hxe j hj⟩,hk.heads,hk.lens,⟨h1,h.size⟩,h3,h2⟩
theorem NodeAt.put {lo b b0 k:Nat} {t:List UInt8} {v:ByteArray} {p:Int} {W:World} (h:NodeAt lo b t v p W) (x:Value) (hb:b0<lo):NodeAt lo b t v p (W.setCell ⟨b0,k,none⟩ x):=by
 obtain ⟨h1,h2,h3⟩:=h
 refine ⟨h1,by simpa using h2,?_⟩
 rcases h3 with ⟨ht,h3⟩|⟨ht,b2,h4,h5,h6,h7⟩
 · exact .inl ⟨ht,h3.other k x (by omega)⟩
 · exact .inr ⟨ht,b2,h4,by simpa using h5,h6.other k x (by omega),h7.other k x (by omega)⟩
theorem TrieAt.put {kv:List (List UInt8×ByteArray)} {br bt ts b0 k:Nat} {W:World} (h:TrieAt kv br bt ts W) (x:Value) (hb:b0<br):TrieAt kv br bt ts (W.setCell ⟨b0,k,none⟩ x):=by
 obtain ⟨T,h1,h2,h3⟩:=h.tab
 have hl:=h.lt
 refine ⟨h.root.other k x (by omega),⟨T,h1.other k x (by omega),fun j hj c t e => ?_,h3⟩,h.heads,h.lens,⟨hl.1,by simpa using hl.2⟩,h.many⟩
 obtain ⟨b,p,g1,g2,g3⟩:=h2 j hj c t e
 exact ⟨b,p,g1,g2,g3.put x (by omega)⟩
def Built (kv:List (List UInt8×ByteArray)) (w:World) (e:Ending) (w':World):Prop :=
 e = .returned (.iface 172 (.pointer (some ⟨w.heap.size,0,none⟩)))∧∃ bt ts,TrieAt kv w.heap.size bt ts w'∧Below w.heap.size w w'
set_option maxRecDepth 100000 in
set_option maxHeartbeats 8000000 in
theorem build_gen (kv:List (List UInt8×ByteArray)) (rb b2 c:Nat) (w:World) (hk:Words kv) (hc:w.cell? ⟨rb,4,none⟩=some (.slice (some ⟨b2,0,none⟩) (2*kv.length) c)) (hb:BlkF b2 (2*kv.length) (strV (flatKV kv)) w) (hb2:b2<w.heap.size) :
  Calls Tryz.prog 105 #[.pointer (some ⟨rb,0,none⟩)] w (Built kv w):=by
 have CM:Hid (Calls Tryz.prog 147 #[.slice (some ⟨b2,0,none⟩) (2*kv.length) c] w (fun e w'=>e = .returned (.pointer (some ⟨w.heap.size,0,none⟩))∧∃ bt ts,TrieAt kv w.heap.size bt ts w'∧Below w.heap.size w w')):=Lib.hid (by
  refine (make_gen b2 c kv w hk.many hk.cnt hk.lens hk.heads hb hb2).mono ?_
  rintro e w' ⟨rfl,bt,ts,h0,h1,h2,h4⟩
  exact ⟨rfl,bt,ts,trie_of hk h4 h2 h1 h0,h4.below⟩)
 obtain ⟨jl,hjl,hjn⟩:=hk.long
 have hmany:=hk.many
 have htwo:=hk.two
 have e2:(2*(kv.length:Int) == 2)=false:=by rw [beq_eq_false_iff_ne];omega
 have HB:=Lib.hid hb
 have HJ:=Lib.hid hjn
 clear hb hb2 hk hjn
 go_enter Tryz.func105,Tryz.ntmps105
 go_wp2_with fail
 go_loop [4,5] (fun x i => ∃ (b:Bool) (q:Nat),x = .bool b∧i = .int .i64 (2*(q:Int))∧q≤jl) (fun _ i=>2*kv.length - (intOf i).toNat)
 case atStart=>exact ⟨true,0,rfl,rfl,Nat.zero_le _⟩
 case round =>
  obtain ⟨b,q,rfl,rfl,hq⟩:=hrel
  have hlt:q<kv.length:=by omega
  have hkey:=HB.out.cell (2*q) (by omega)
  have hval:=HB.out.cell (2*q+1) (by omega)
  rw [strV_at (flatKV_key kv q hlt)] at hkey
  rw [strV_at (flatKV_val kv q hlt)] at hval
  obtain ⟨K,hK⟩:∃ K,B kv[q].1=K:=⟨_,rfl⟩
  obtain ⟨V,hV⟩:∃ V,kv[q].2=V:=⟨_,rfl⟩
  have hKs:K.size=kv[q].1.length:=by rw [← hK];simp
  rw [hK] at hkey
  rw [hV] at hval
  clear hK hV
  by_cases h1:K.size=1
  · have hqj:q<jl:=by
     rcases Nat.lt_or_ge q jl with h|h
     · exact h
     · obtain rfl:q=jl:=by omega
       exact absurd (hKs.symm.trans h1) HJ.out
    have e1:((K.size:Int) != 1)=false:=by rw [h1];rfl
    clear hKs h1
    by_cases h3:V.size=1
    · have e3:((V.size:Int) != 1)=false:=by rw [h3];rfl
      clear h3
      go_wp2_with fail
      go_round
      case rel=>exact ⟨b,q+1,rfl,by go_num,by omega⟩
      case measure=>simp [intOf];omega
    · have e3:((V.size:Int) != 1)=true:=by rw [bne_iff_ne];omega
      clear h3
      go_wp2_with fail
      go_round
      case rel=>exact ⟨false,q+1,rfl,by go_num,by omega⟩
      case measure=>simp [intOf];omega
  · have e1:((K.size:Int) != 1)=true:=by rw [bne_iff_ne];omega
    clear hKs h1
    go_wp2_with fail
    refine CM.out.mono ?_
    rintro e w' ⟨rfl,hw⟩
    have HW:=Lib.hid hw
    clear hw
    go_wp2_with fail
    go_ret
    exact ⟨rfl,HW.out⟩
structure Ready (kv:List (List UInt8×ByteArray)) (rb:Nat) (W:World):Prop where
 ex:∃ br bt ts,W.cell? ⟨rb,3,none⟩=some (.iface 172 (.pointer (some ⟨br,0,none⟩)))∧TrieAt kv br bt ts W∧rb<br
set_option maxRecDepth 100000 in
set_option maxHeartbeats 8000000 in
theorem build_once (kv:List (List UInt8×ByteArray)) (rb b2 c n:Nat) (w:World) (hk:Words kv) (hr:Blk rb #[.int .u32 0,.int .i32 1,.int .u32 0,.nilIface,.slice (some ⟨b2,0,none⟩) (2*kv.length) c] w) (hb:BlkF b2 (2*kv.length) (strV (flatKV kv)) w)
  (hb2:b2<w.heap.size) (hrb:rb<w.heap.size) (hn:n≤rb):OnceRun rb w (fun w'=>Ready kv rb w'∧Below n w w'):=by
 refine ⟨?_⟩
 have hc4:=hr.cell 4 (by simp)
 simp only [List.getElem?_toArray,List.getElem?_cons_succ,List.getElem?_cons_zero] at hc4
 have C:=Lib.hid (build_gen kv rb b2 c w hk hc4 hb hb2)
 have HR:=Lib.hid hr
 clear hr hc4 hb hb2 hk
 go_enter Tryz.func74,Tryz.ntmps74
 go_wp2_with fail
 refine C.out.mono ?_
 rintro e w1 ⟨rfl,bt,ts,hT,hB⟩
 have hr1:=HR.out.below hB hrb
 have c3:=hr1.cell 3 (by simp)
 simp only [List.getElem?_toArray,List.getElem?_cons_succ,List.getElem?_cons_zero] at c3
 have c4:=fun x=>(hr1.set 3 x (by simp)).cell 4 (by simp)
 simp only [List.setIfInBounds_toArray,List.set_cons_succ,List.set_cons_zero,List.getElem?_toArray,List.getElem?_cons_succ,List.getElem?_cons_zero] at c4
 have hf:=hr1.open_
 have hfin:=fun x y=>(hr1.set 3 x (by simp)).set 4 y (by simp)
 simp only [List.setIfInBounds_toArray,List.set_cons_succ,List.set_cons_zero] at hfin
 have HF:=Lib.hid hfin
 have HT:=Lib.hid (fun x y=>(hT.put (b0:=rb) (k:=3) x hrb).put (b0:=rb) (k:=4) y hrb)
 have HB:=Lib.hid (fun x y=>((hB.mono (show n≤w.heap.size by omega)).setCell (p:=⟨rb,3,none⟩) hn x).setCell (p:=⟨rb,4,none⟩) hn y)
 clear hr1 hfin hT hB C HR
 go_wp2_with fail
 go_end0
 refine ⟨rfl,?_,?_,?_,?_,⟨⟨w.heap.size,bt,ts,?_,HT.out _ _,hrb⟩⟩,HB.out _ _⟩
 · exact (HF.out _ _).cell 0 (by simp)
 · exact (HF.out _ _).cell 1 (by simp)
 · exact (HF.out _ _).open_ 0
 · exact (HF.out _ _).open_ 1
 · exact (HF.out _ _).cell 3 (by simp)
theorem meth_rep (n:Nat) (a:Addr) (w:World):(method (n+1) 172 (.pointer (some a)) "Replace").run Tryz.prog w = .ok (268,.pointer (some a)) w:=by kernel_rfl
set_option maxRecDepth 100000 in
set_option maxHeartbeats 8000000 in
theorem repl_replace (kv:List (List UInt8×ByteArray)) (rb b2 c n:Nat) (s:List UInt8) (w0 w:World) (hk:Words kv) (hN:NewR (flatKV kv) rb b2 c w0 w) (hn:n≤w0.heap.size) (hs:s.length≤100000) (hr:(replS (pairF kv) 0 s).length≤100000000) :
  Calls Tryz.prog 52 #[.pointer (some ⟨rb,0,none⟩),.string (B s)] w fun e w'=>e = .returned (.string (B (replS (pairF kv) 0 s)))∧Below n w w':=by
 have hlen:=flatKV_length kv
 obtain ⟨hblk,hold,hbel,hle⟩:=hN
 rw [hlen] at hblk hold
 have h1:=hblk.set 1 (.int .i32 1) (by simp)
 simp only [List.setIfInBounds_toArray,List.set_cons_succ,List.set_cons_zero] at h1
 have hon:=build_once kv rb b2 c n (w.setCell ⟨rb,1,none⟩ (.int .i32 1)) hk h1 (hold.other 1 _ (by omega)) (by simp;omega) (by simp;omega) (by omega)
 have g0:=hblk.cell 0 (by simp)
 have g1:=hblk.cell 1 (by simp)
 have C:=Lib.hid (once_do rb _ w g0 g1 (hblk.open_ 0) (hblk.open_ 1) hon)
 have hrn:n≤rb:=by omega
 have hnw:n≤w.heap.size:=by omega
 have hmf:∀ (fn:Fn) (first cap:Array Value) (w:World),(Instr.makeFunc fn first cap).run Tryz.prog w = .ok (.func fn first cap) w:=fun _ _ _ _=>rfl
 clear hblk hold hbel h1 hon g0 g1 hlen hle
 go_enter Tryz.func52,Tryz.ntmps52
 go_wp2_with fail
 refine C.out.mono ?_
 rintro e w1 ⟨rfl,w2,⟨⟨br,bt,ts,hc3,hT,hlt⟩,hB⟩,rfl⟩
 have hd:Below w2.heap.size w2 w2.drew:=Below.drew (Below.refl _ _)
 have hT2:=((hT.below hd).put (b0:=rb) (k:=0) (.int .u32 1) hlt).put (b0:=rb) (k:=1) (.int .i32 0) hlt
 have c3:((w2.drew.setCell ⟨rb,0,none⟩ (.int .u32 1)).setCell ⟨rb,1,none⟩ (.int .i32 0)).cell? ⟨rb,3,none⟩=some (.iface 172 (.pointer (some ⟨br,0,none⟩))):=by
  rw [World.cell?_setCell_other _ _ _ _ (ne_off (by decide)),World.cell?_setCell_other _ _ _ _ (ne_off (by decide))]
  exact hc3
 have hbl:Below n w ((w2.drew.setCell ⟨rb,0,none⟩ (.int .u32 1)).setCell ⟨rb,1,none⟩ (.int .i32 0)):=by
  refine ((Below.drew ?_).setCell hrn _).setCell hrn _
  exact ((Below.refl n w).setCell (p:=⟨rb,1,none⟩) hrn _).trans hB
 generalize (w2.drew.setCell ⟨rb,0,none⟩ (.int .u32 1)).setCell ⟨rb,1,none⟩ (.int .i32 0)=W3 at hT2 c3 hbl ⊢
 have D:=Lib.hid (gen_replace kv br bt ts s W3 hT2 hs hk.vals hr)
 have HBL:=Lib.hid hbl
 have hme:=meth_rep
 clear hT hT2 hd hB hc3 hbl C hk
 go_wp2_with fail
 refine D.out.mono ?_
 rintro e w4 ⟨rfl,hb4⟩
 have HB4:=Lib.hid (HBL.out.trans (hb4.mono (Nat.le_trans hnw HBL.out.size)))
 clear hb4 D
 go_wp2_with fail
 go_ret
 exact ⟨rfl,HB4.out⟩
end Go.Proofs.YtcecjoaeolglbaaGreatDoor.Hand
end

section
namespace Go.Proofs.YtcecjoaeolglbaaGreatDoor.Hand
open Go.RowKit Go.Proofs.YtcecjoaeolglbaaGreatDoor.Pb Go.Proofs.YtcecjoaeolglbaaGreatDoor.Pl
theorem replS_length {f:UInt8→Option (List UInt8×List UInt8)} (hf:∀ c t v,f c=some (t,v)→v.length≤100):∀ (s:List UInt8) (k:Nat),(replS f k s).length≤100*s.length:=by
 intro s
 induction s with
 | nil=>intro k;rw [replS_nil];simp
 | cons c r ih =>
   intro k
   cases k with
   | succ k=>have:=ih k;simp only [replS,List.length_cons];omega
   | zero =>
     simp only [replS]
     split
     · rename_i t v h
       have h1:=hf c t v h
       split
       · have:=ih t.length;simp only [List.length_append,List.length_cons];omega
       · have:=ih 0;simp only [List.length_cons];omega
     · have:=ih 0;simp only [List.length_cons];omega
theorem pairF_val {kv:List (List UInt8×ByteArray)} (hv:∀ x∈kv,x.2.size≤100) (c:UInt8) (t v:List UInt8) (h:pairF kv c=some (t,v)):v.length≤100:=by
 obtain ⟨j,hj,_,e⟩:=pairF_some h
 have:=hv _ (List.getElem_mem hj)
 rw [e] at this
 simpa using this
theorem heads_of {kv:List (List UInt8×ByteArray)} (h:(∀ x∈kv,x.1≠[])∧∀ i j:Fin kv.length,i≠j→kv[i].1.head? ≠ kv[j].1.head?):Heads kv :=
 ⟨h.1,fun i j hi hj hne=>h.2 ⟨i,hi⟩ ⟨j,hj⟩ (by simpa using hne)⟩
theorem cells_strs {l:List ByteArray} {cs:Array Value} (h:cs.toList=l.map .string) (t:TypeId) (w:World):BlkF w.heap.size l.length (strV l) (w.alloc (.cells cs t)):=by
 refine ⟨fun j hj=>(World.cell?_alloc_at _ _ _ j rfl).trans ?_,fun j=>World.frozen?_alloc_at _ _ _ j rfl⟩
 rw [← strV_get l j hj,← h,Array.getElem?_toList]
end Go.Proofs.YtcecjoaeolglbaaGreatDoor.Hand
end

section
namespace Go.Proofs.YtcecjoaeolglbaaGreatDoor.Hand
open Go Go.RowKit Go.Proofs.YtcecjoaeolglbaaGreatDoor.Pl Go.Proofs.YtcecjoaeolglbaaGreatDoor.Pb
def kyC (c:UInt8):Bool:=(decide (65≤c.toNat)&&decide (c.toNat≤90)) || (decide (97≤c.toNat)&&decide (c.toNat≤122)) || (decide (48≤c.toNat)&&decide (c.toNat≤57))
def hdC:List UInt8→Bool
 | []=>false
 | c::_=>(decide (65≤c.toNat)&&decide (c.toNat≤90)) || (decide (97≤c.toNat)&&decide (c.toNat≤122))
def keyOk (l:List UInt8):Bool:=decide ((kyL l).length≤32)&&((kyL l).dropLast.all kyC&&(hdC (kyL l)&&(match (kyL l).getLast? with|some c=>kyC c || c == 59|none=>false)))
def keysOk (T:List UInt8):Bool:=keyOk (linesOf T).1&&(linesOf T).2.all keyOk
set_option maxRecDepth 1000000 in
theorem names_keys:keysOk namesL=true:=by kernel_rfl
theorem keys_all {T:List UInt8} (h:keysOk T=true) (p:Nat) (hp:St T p):keyOk (lnT T p)=true:=by
 unfold keysOk at h
 rw [Bool.and_eq_true,List.all_eq_true] at h
 rcases hp with rfl|⟨q,rfl,hq⟩
 · rw [lines_head];exact h.1
 · exact h.2 _ (lines_mem T q hq)
structure KeyP (k:List UInt8):Prop where
 le:k.length≤32
 pos:k≠[]
 inner:∀ c∈k.dropLast,kyC c=true
 head:hdC k=true
 last:∃ c,k.getLast? = some c∧(kyC c=true∨c=59)
theorem key_facts {k:List UInt8} (h:isKey namesL k):KeyP k:=by
 obtain ⟨p,h1,rfl⟩:=h
 have:=keys_all names_keys p h1
 unfold keyOk at this
 rw [Bool.and_eq_true,Bool.and_eq_true,Bool.and_eq_true,decide_eq_true_eq,List.all_eq_true] at this
 obtain ⟨g1,g2,g3,g4⟩:=this
 change (kyT namesL p).length≤32 at g1
 change hdC (kyT namesL p)=true at g3
 refine ⟨g1,?_,g2,g3,?_⟩
 · intro e;rw [e] at g3;cases g3
 · change (match (kyT namesL p).getLast? with|some c=>kyC c || c == 59|none=>false)=true at g4
   split at g4
   · rename_i c hc
     refine ⟨c,hc,?_⟩
     simpa using g4
   · cases g4
end Go.Proofs.YtcecjoaeolglbaaGreatDoor.Hand
end

section
namespace Go.Proofs.YtcecjoaeolglbaaGreatDoor.Hand
open Go Go.RowKit Go.Proofs.YtcecjoaeolglbaaGreatDoor.Pl Go.Proofs.YtcecjoaeolglbaaGreatDoor.Pb
def rowAt (T:List UInt8) (p:Nat) (key rest:List UInt8):Bool:=(T[p]? == some 10)&&(lnT T (p+1) == key++32::rest)
def wordAmp:List UInt8:=[97,109,112]
def wordLt:List UInt8:=[108,116]
def wordGt:List UInt8:=[103,116]
def wordQuot:List UInt8:=[113,117,111,116]
def wordNbsp:List UInt8:=[110,98,115,112]
set_option maxRecDepth 1000000 in
theorem rows_are:(rowAt namesL 9820 (wordAmp++[59]) [50,54]&&(rowAt namesL 9813 wordAmp [50,54]&&(rowAt namesL 19023 (wordLt++[59]) [51,67]&&(rowAt namesL 15791 (wordGt++[59]) [51,69]&&(rowAt namesL 23656 (wordQuot++[59]) [50,50]&&rowAt namesL 20038 (wordNbsp++[59]) [65,48])))))=true:=by kernel_rfl
theorem row_fnd {p:Nat} {key rest:List UInt8} (h:rowAt namesL p key rest=true) (hk:∀ c∈key,c≠10∧c≠32):Fnd namesL key (some rest):=by
 unfold rowAt at h
 rw [Bool.and_eq_true,beq_iff_eq,beq_iff_eq] at h
 obtain ⟨h1,h2⟩:=h
 refine .inl ⟨p+1,.inr ⟨p,rfl,h1⟩,?_,?_⟩
 · unfold kyT;rw [h2,ky_row hk]
 · rw [h2];unfold rsL;rw [ky_row hk,List.drop_append,List.drop_eq_nil_of_le (by omega),List.nil_append,show key.length+1 - key.length=1 by omega];rfl
theorem fnd_amp:Fnd namesL (wordAmp++[59]) (some [50,54]):=row_fnd (Bool.and_eq_true_iff.1 rows_are).1 (by decide)
theorem fnd_lt:Fnd namesL (wordLt++[59]) (some [51,67]):=row_fnd (Bool.and_eq_true_iff.1 (Bool.and_eq_true_iff.1 (Bool.and_eq_true_iff.1 rows_are).2).2).1 (by decide)
theorem fnd_gt:Fnd namesL (wordGt++[59]) (some [51,69]):=row_fnd (Bool.and_eq_true_iff.1 (Bool.and_eq_true_iff.1 (Bool.and_eq_true_iff.1 (Bool.and_eq_true_iff.1 rows_are).2).2).2).1 (by decide)
theorem fnd_quot:Fnd namesL (wordQuot++[59]) (some [50,50]):=row_fnd (Bool.and_eq_true_iff.1 (Bool.and_eq_true_iff.1 (Bool.and_eq_true_iff.1 (Bool.and_eq_true_iff.1 (Bool.and_eq_true_iff.1 rows_are).2).2).2).2).1 (by decide)
theorem fnd_nbsp:Fnd namesL (wordNbsp++[59]) (some [65,48]):=row_fnd (Bool.and_eq_true_iff.1 (Bool.and_eq_true_iff.1 (Bool.and_eq_true_iff.1 (Bool.and_eq_true_iff.1 (Bool.and_eq_true_iff.1 rows_are).2).2).2).2).2 (by decide)
theorem fnd_key {key rest:List UInt8} (h:Fnd namesL key (some rest)):isKey namesL key:=(fnd_rest h).2.2
theorem nameT_of {key rest:List UInt8} (h:Fnd namesL key (some rest)):nameT key=(textB (num1 rest) (num2 rest)).data.toList:=by unfold nameT;rw [rowN_eq h]
theorem nameT_amp:nameT (wordAmp++[59])=[38]:=by rw [nameT_of fnd_amp];decide +kernel
theorem nameT_lt:nameT (wordLt++[59])=[60]:=by rw [nameT_of fnd_lt];decide +kernel
theorem nameT_gt:nameT (wordGt++[59])=[62]:=by rw [nameT_of fnd_gt];decide +kernel
theorem nameT_quot:nameT (wordQuot++[59])=[34]:=by rw [nameT_of fnd_quot];decide +kernel
theorem nameT_nbsp:nameT (wordNbsp++[59])=[194,160]:=by rw [nameT_of fnd_nbsp];decide +kernel
theorem lng_stop {k r:List UInt8} {c:UInt8} (hk:isKey namesL k) (hc:kyC c=false∧c≠59∨k.getLast? = some 59):lngN (k++c::r)=k.length:=by
 have hf:=key_facts hk
 refine lngN_eq ⟨?_,.inr (by rw [List.take_left];exact hk),fun m h1 h2 hm => ?_⟩
 · have:=hf.le;simp;omega
 · have hg:=key_facts hm
   have h2':m≤(k++c::r).length:=by omega
   obtain ⟨d,rfl⟩:∃ d,m=k.length+1+d:=⟨m - (k.length+1),by omega⟩
   have e:(k++c::r).take (k.length+1+d)=k++c::r.take d:=by
    rw [List.take_append,List.take_of_length_le (by omega),show k.length+1+d - k.length=d+1 by omega,List.take_succ_cons]
   rw [e] at hg
   rcases hc with ⟨h3,h4⟩|h3
   ·
    cases hd:r.take d with
    | nil =>
      rw [hd] at hg
      obtain ⟨x,hx,hx2⟩:=hg.last
      simp at hx
      subst hx
      rcases hx2 with h|h
      · rw [h3] at h;cases h
      · exact h4 h
    | cons y t =>
      rw [hd] at hg
      have hmem:c∈(k++c::y::t).dropLast:=by
       rw [List.dropLast_append_of_ne_nil (by simp)]
       simp
      have:=hg.inner c hmem
      rw [h3] at this;cases this
   · have hmem:(59:UInt8)∈(k++c::r.take d).dropLast:=by
      rw [List.dropLast_append_of_ne_nil (by simp)]
      exact List.mem_append_left _ (List.mem_of_getLast? h3)
     have:=hg.inner 59 hmem
     exact absurd this (by decide)
theorem num_letter {k r:List UInt8} (hk:isKey namesL k):numL (k++r)=none:=by
 have hf:=key_facts hk
 cases k with
 | nil=>exact absurd rfl hf.pos
 | cons c k =>
   have hh:=hf.head
   have h35:c≠35:=by rintro rfl;exact absurd hh (by simp [hdC])
   unfold numL
   rw [if_neg]
   simp [begR,h35]
   have:∀ n:Fin 256,lowB (UInt8.ofNat n.val)=35→UInt8.ofNat n.val=35:=by decide +kernel
   have h:=this ⟨c.toNat,c.toNat_lt⟩
   simp only [UInt8.ofNat_toNat] at h
   exact fun e=>h35 (h e)
theorem refN_semi {attr:Bool} {w:List UInt8} (r:List UInt8) (hk:isKey namesL (w++[59])):refN attr (38::(w++59::r))=(nameT (w++[59]),w.length+2):=by
 have hl:lngN (w++59::r)=w.length+1:=by
  cases r with
  | nil =>
    refine lngN_eq ⟨?_,.inr ?_,fun m h1 h2 _ => ?_⟩
    · have:=(key_facts hk).le;simp at this ⊢;omega
    · rw [List.take_of_length_le (by simp)];exact hk
    · simp at h2;omega
  | cons c r =>
    have:=lng_stop (c:=c) (r:=r) hk (.inr (by simp))
    rw [List.append_assoc] at this
    simpa using this
 have hn:numL (w++59::r)=none:=by
  have:=num_letter (r:=r) hk
  rwa [List.append_assoc] at this
 have ht:(w++59::r).take (w.length+1)=w++[59]:=by
  rw [List.take_append,List.take_of_length_le (by omega),show w.length+1 - w.length=1 by omega];rfl
 unfold refN
 rw [List.drop_succ_cons,List.drop_zero,hn,hl,ht]
 simp only
 rw [if_neg,show 1+(w.length+1)=w.length+2 by omega]
 rintro (e|e)
 · omega
 · unfold leftL at e
   rw [show Lib.hasSuffix (w++[59]) [59]=true by unfold Lib.hasSuffix;simp] at e
   simp at e
theorem rdL_semi {attr:Bool} {w:List UInt8} (r:List UInt8) (hk:isKey namesL (w++[59])):rdL attr (38::(w++59::r))=nameT (w++[59])++rdL attr r:=by
 rw [rdL_amp,refN_semi r hk]
 simp only
 congr 2
 rw [List.drop_succ_cons,List.drop_append,List.drop_eq_nil_of_le (by omega),show w.length+1 - w.length=1 by omega];rfl
end Go.Proofs.YtcecjoaeolglbaaGreatDoor.Hand
end

section
namespace Go.Proofs.YtcecjoaeolglbaaGreatDoor.Hand
open Go Go.RowKit Go.Proofs.YtcecjoaeolglbaaGreatDoor.Pl Go.Proofs.YtcecjoaeolglbaaGreatDoor.Pb
theorem dec_amp (attr:Bool) (r:List UInt8):rdL attr (wAmp++r)=38::rdL attr r:=by
 have:=rdL_semi (attr:=attr) (w:=wordAmp) r (fnd_key fnd_amp)
 exact this.trans (by rw [nameT_amp];rfl)
theorem dec_lt (attr:Bool) (r:List UInt8):rdL attr (wLt++r)=60::rdL attr r:=by
 have:=rdL_semi (attr:=attr) (w:=wordLt) r (fnd_key fnd_lt)
 exact this.trans (by rw [nameT_lt];rfl)
theorem dec_gt (attr:Bool) (r:List UInt8):rdL attr (wGt++r)=62::rdL attr r:=by
 have:=rdL_semi (attr:=attr) (w:=wordGt) r (fnd_key fnd_gt)
 exact this.trans (by rw [nameT_gt];rfl)
theorem dec_quot (attr:Bool) (r:List UInt8):rdL attr (wQuot++r)=34::rdL attr r:=by
 have:=rdL_semi (attr:=attr) (w:=wordQuot) r (fnd_key fnd_quot)
 exact this.trans (by rw [nameT_quot];rfl)
end Go.Proofs.YtcecjoaeolglbaaGreatDoor.Hand
end

section
namespace Go.Proofs.YtcecjoaeolglbaaGreatDoor.Hand
open Go Go.RowKit Go.Proofs.YtcecjoaeolglbaaGreatDoor.Pl Go.Proofs.YtcecjoaeolglbaaGreatDoor.Pb
theorem upto_stop {c:UInt8} {s r:List UInt8} (h:c∉s):upto c (s++c::r)=s:=by
 induction s with
 | nil=>rw [List.nil_append,upto_cons,if_pos rfl]
 | cons d t ih =>
   rw [List.mem_cons,not_or] at h
   rw [List.cons_append,upto_cons,if_neg (fun e=>h.1 e.symm),ih h.2]
theorem quoted_L {q:UInt8} (hq:q=34∨q=39) {s r:List UInt8} (hs:q∉s):attrL [] (120::61::q::(s++q::r))=attrL [([120],cleanL (rdL true s))] r:=by
 have hq2:isSp q=false:=by rcases hq with rfl|rfl<;>rfl
 have e1:spL (120::61::q::(s++q::r))=120::61::q::(s++q::r):=rfl
 have e2:(61::q::(s++q::r)).dropWhile nmC=61::q::(s++q::r):=rfl
 have e2':(61::q::(s++q::r)).takeWhile nmC=[]:=rfl
 have e3:spL (q::(s++q::r))=q::(s++q::r):=by unfold spL;rw [List.dropWhile_cons,hq2];rfl
 have e4:valA (61::q::(s++q::r))=some (s,r):=by
  unfold valA
  rw [show spL (61::q::(s++q::r))=61::q::(s++q::r) from rfl]
  simp only [e3]
  rw [if_pos hq,if_pos (by simp),upto_stop hs]
  unfold past
  rw [upto_stop hs]
  congr 2
  rw [show s++q::r=(s++[q])++r by simp,show s.length+1=(s++[q]).length by simp]
  exact List.drop_left
 rw [attrL_eq,e1]
 simp only [e2,e2',e4]
 rw [if_neg (by decide),if_neg (by decide)]
 congr 1
end Go.Proofs.YtcecjoaeolglbaaGreatDoor.Hand
end

section
namespace Go.Proofs.YtcecjoaeolglbaaGreatDoor.Hand
open Go Go.RowKit Go.Proofs.YtcecjoaeolglbaaGreatDoor.Pl Go.Proofs.YtcecjoaeolglbaaGreatDoor.Pb Go.Proofs.YtcecjoaeolglbaaGreatDoor.Pure
def qB (single:Bool):UInt8:=if single=true then 39 else 34
def areaO:List UInt8:=[60,116,101,120,116,97,114,101,97,62]
def areaC:List UInt8:=[60,47,116,101,120,116,97,114,101,97,62]
def attrO (single:Bool):List UInt8:=[60,97,32,120,61,qB single]
def wrapL (dest:Int) (single:Bool) (s:List UInt8):List UInt8 :=
 if dest=0 then s else if dest=1 then attrO single++(s++[qB single,62]) else if dest=2 then areaO++(s++areaC) else []
def onlyL:List Tk→List UInt8×Bool
 | []=>([],true)
 | [.text s]=>(s,true)
 | _=>([],false)
def valueL:List Tk→List UInt8×Bool
 | [.start n [a] false]=>if n=[97]∧a.1=[120] then (a.2,true) else ([],false)
 | _=>([],false)
def trimN:List UInt8→List UInt8
 | []=>[]
 | c::r=>if c=10 then r else c::r
def isAreaO:Option Tk→Bool
 | some (.start n [] false)=>n == areaW
 | _=>false
def isAreaC:Option Tk→Bool
 | some (.fin n)=>n == areaW
 | _=>false
def withinL (l:List Tk):List UInt8×Bool :=
 if 2≤l.length∧isAreaO l.head? = true∧isAreaC l.getLast? = true then (trimN (onlyL l.tail.dropLast).1,(onlyL l.tail.dropLast).2) else ([],false)
noncomputable def parseL (dest:Int) (single:Bool) (s:List UInt8):List UInt8×Bool :=
 if dest=0 then onlyL (driveL (normL (wrapL dest single s)))
 else if dest=1 then valueL (driveL (normL (wrapL dest single s)))
 else if dest=2 then withinL (driveL (normL (wrapL dest single s))) else ([],false)
theorem normL_pre {p:List UInt8} (r:List UInt8) (h:(13:UInt8)∉p):normL (p++r)=p++normL r:=by
 induction p with
 | nil=>rfl
 | cons c p ih =>
   rw [List.mem_cons,not_or] at h
   rw [List.cons_append,normL_ne (fun e=>h.1 e.symm),ih h.2,List.cons_append]
theorem normL_suf {q:List UInt8} (h10:q.head? ≠ some 10) (h13:(13:UInt8)∉q):∀ n (s:List UInt8),s.length≤n→normL (s++q)=normL s++q:=by
 intro n
 induction n with
 | zero=>intro s h;obtain rfl:=List.eq_nil_of_length_eq_zero (Nat.le_zero.1 h);exact normL_of_no13 h13
 | succ n ih =>
   intro s h
   cases s with
   | nil=>exact normL_of_no13 h13
   | cons c r =>
     simp only [List.length_cons] at h
     by_cases hc:c=13
     · subst hc
       cases r with
       | nil =>
         rw [normL_13_end]
         cases q with
         | nil=>rfl
         | cons d q' =>
           have hd:d≠10:=by rintro rfl;exact h10 rfl
           show normL (13::d::q')=_
           rw [normL_13_ne hd,normL_of_no13 h13];rfl
       | cons d r' =>
         simp only [List.length_cons] at h
         by_cases hd:d=10
         · subst hd
           show normL (13::10::(r'++q))=_
           rw [normL_13_10,normL_13_10,ih r' (by omega)];rfl
         · show normL (13::d::(r'++q))=_
           rw [normL_13_ne hd,normL_13_ne hd]
           have:=ih (d::r') (by simp;omega)
           rw [List.cons_append] at this
           rw [this];rfl
     · rw [List.cons_append,normL_ne hc,normL_ne hc,ih r (by omega)];rfl
theorem norm_wrap (dest:Int) (single:Bool) (s:List UInt8):normL (wrapL dest single s)=wrapL dest single (normL s):=by
 unfold wrapL
 split
 · rfl
 · split
   · rw [normL_pre _ (by cases single<;>decide),normL_suf (by cases single<;>decide) (by cases single<;>decide) _ _ (Nat.le_refl _)]
   · split
     · rw [normL_pre _ (by decide),normL_suf (by decide) (by decide) _ _ (Nat.le_refl _)]
     · rfl
theorem txN_app {s:List UInt8} (r:List UInt8) (h:(60:UInt8)∉s):txN (s++r)=s.length+txN r:=by
 have:=txN_skip s.length (s++r) (by simp) (fun j hj=>by
  rw [List.getElem?_append_left hj];intro e;exact h (List.mem_of_getElem? e))
 rwa [List.drop_left] at this
theorem tokL_txt {s r:List UInt8} (hs:s≠[]) (h:(60:UInt8)∉s):tokL (s++r)=(some (.text (rdL false (s++r.take (txN r)))),r.drop (txN r)):=by
 obtain ⟨c,t,rfl⟩:∃ c t,s=c::t:=by cases s with|nil=>exact absurd rfl hs|cons c t=>exact ⟨c,t,rfl⟩
 have hc:c≠60:=fun e=>h (by simp [e])
 have hb:begM (c::t++r)=false:=begM_no _ hc
 have hn:txN (c::t++r)=(c::t).length+txN r:=txN_app r h
 unfold begM at hb
 simp only [Bool.or_eq_false_iff] at hb
 obtain ⟨⟨⟨h1,h2⟩,h3⟩,h4⟩:=hb
 unfold tokL
 rw [if_neg (by simpa using h1),if_neg (by rw [h2];decide),if_neg (by rw [h3];decide),if_neg (by rw [h4];decide),if_neg (by rw [hn];simp),hn]
 rw [List.take_length_add_append,List.drop_length_add_append]
theorem tokL_text {s r:List UInt8} (hs:s≠[]) (h:(60:UInt8)∉s) (hr:txN r=0):tokL (s++r)=(some (.text (rdL false s)),r):=by
 rw [tokL_txt hs h,hr];simp
theorem drvL_text {s r:List UInt8} (hs:s≠[]) (h:(60:UInt8)∉s) (hr:txN r=0):drvL (s++r) = .text (rdL false s)::drvL r:=by
 rw [drvL_eq (by simp [hs]),tokL_text hs h hr];rfl
end Go.Proofs.YtcecjoaeolglbaaGreatDoor.Hand
end

section
namespace Go.Proofs.YtcecjoaeolglbaaGreatDoor.Hand
open Go Go.RowKit Go.Proofs.YtcecjoaeolglbaaGreatDoor.Pl Go.Proofs.YtcecjoaeolglbaaGreatDoor.Pb Go.Proofs.YtcecjoaeolglbaaGreatDoor.Pure
theorem drive_txt {t:List UInt8} (h:(60:UInt8)∉t):driveL t=txtT (rdL false t):=by
 cases ht:t with
 | nil=>rfl
 | cons c r =>
   have hn:t≠[]:=by rw [ht];simp
   rw [← ht]
   have:=drvL_text (r:=[]) hn h rfl
   rw [List.append_nil,drvL_nil] at this
   unfold driveL
   rw [this]
   simp [joinL]
theorem only_txt {t:List UInt8} (h:(60:UInt8)∉t):onlyL (driveL t)=(rdL false t,true):=by
 rw [drive_txt h]
 unfold txtT
 split
 · rename_i e;rw [e];rfl
 · rfl
theorem attrL_62 (L:List AttrT) (x:List UInt8):attrL L (62::x)=some (L,false,x):=by
 rw [attrL_eq,show spL (62::x)=62::x from rfl]
 simp only [if_true]
theorem spL_sp (r:List UInt8):spL (32::r)=spL r:=rfl
theorem attrL_sp (L:List AttrT) (r:List UInt8):attrL L (32::r)=attrL L r:=by rw [attrL_eq,attrL_eq L r,spL_sp]
theorem tokL_a {x r:List UInt8} {al:List AttrT} {self:Bool} (h:attrL [] x=some (al,self,r)):tokL (60::97::32::x)=(some (.start [97] al self),r):=by
 have ht:tagN (60::97::32::x)=1:=rfl
 unfold tokL
 rw [if_pos (by rw [ht];decide)]
 unfold tagL
 rw [ht,show (((60:UInt8)::97::32::x).drop 1).dropWhile stC=32::x from rfl,attrL_sp,h]
 rfl
theorem drive_a {x:List UInt8} {al:List AttrT} {self:Bool} (h:attrL [] x=some (al,self,[])):driveL (60::97::32::x)=[.start [97] al self]:=by
 unfold driveL
 rw [drvL_eq (by simp),tokL_a h]
 rfl
theorem qB_or (single:Bool):qB single=34∨qB single=39:=by cases single<;>decide
theorem wrap1 (single:Bool) (t:List UInt8):wrapL 1 single t=60::97::32::120::61::qB single::(t++qB single::[62]):=by
 unfold wrapL attrO
 rw [if_neg (by decide),if_pos rfl]
 rfl
theorem value_txt (single:Bool) {t:List UInt8} (h:qB single∉t):valueL (driveL (wrapL 1 single t))=(cleanL (rdL true t),true):=by
 rw [wrap1,drive_a (al:=[([120],cleanL (rdL true t))]) (self:=false) (by rw [quoted_L (qB_or single) h,attrL_62])]
 rfl
theorem ends_ne {c:UInt8} (r name:List UInt8) (h:c≠60):endsL (c::r) name=false:=by
 cases he:endsL (c::r) name with
 | false=>rfl
 | true =>
   have:=ends_pref he
   simp [List.isPrefixOf] at this
   exact absurd this.1.symm h
theorem firstE_app (name:List UInt8) {s:List UInt8} (r:List UInt8) (h:(60:UInt8)∉s):firstE name (s++r)=s.length+firstE name r:=by
 induction s with
 | nil=>rw [List.nil_append];exact (Nat.zero_add _).symm
 | cons c s ih =>
   rw [List.mem_cons,not_or] at h
   rw [List.cons_append,firstE,if_neg (by rw [ends_ne _ _ (fun e=>h.1 e.symm)];decide),ih h.2,List.length_cons]
   omega
theorem firstE_areaC (y:List UInt8):firstE areaW (areaC++y)=0:=by
 show firstE areaW (60::_)=0
 rw [firstE,if_pos (by rfl)]
theorem tagR_areaC (y:List UInt8):tagR (areaC++y)=(some (.fin areaW),y):=by
 have ht:tagN (areaC++y)=2:=rfl
 unfold tagR
 rw [if_neg (by rw [ht];decide)]
 unfold tagL
 rw [ht,show ((areaC++y).drop 2).dropWhile stC=62::y from rfl,attrL_62]
 rfl
theorem restL_area {x y:List UInt8} {n:Nat} (hn:firstE areaW x=n) (hd:x.drop n=areaC++y):restL 1 areaW x=(txtT (rawT true (x.take n))++[.fin areaW],y):=by
 have he:endN 1 areaW x=n:=by unfold endN;rw [if_pos (.inl rfl),hn]
 unfold restL
 rw [if_neg (by decide),he,hd,if_neg (by simp [areaC]),tagR_areaC]
 rfl
theorem drvL_area (x:List UInt8):drvL (areaO++x) = .start areaW [] false::((restL 1 areaW x).1++drvL (restL 1 areaW x).2):=by
 have ht:tagN (areaO++x)=1:=rfl
 have hk:tokL (areaO++x)=(some (.start areaW [] false),x):=by
  unfold tokL
  rw [if_pos (by rw [ht];decide)]
  unfold tagL
  rw [ht,show ((areaO++x).drop 1).dropWhile stC=62::x from rfl,attrL_62]
  rfl
 rw [drvL_eq (by simp [areaO]),hk]
 rfl
theorem join_area (u:List UInt8) (r:List Tk):joinL (.start areaW [] false::(txtT u++(.fin areaW::r))) = .start areaW [] false::(txtT u++(.fin areaW::joinL r)):=by
 rw [joinL_no _ rfl]
 congr 1
 unfold txtT
 split
 · exact joinL_no _ rfl
 · rename_i hu
   show joinL (.text u :: .fin areaW::r)=_
   rw [joinL_txno _ _ rfl]
   unfold txtT;rw [if_neg hu]
theorem within_txt {x:List UInt8} {n:Nat} (single:Bool) (hn:firstE areaW (x++areaC)=n) (hl:n=x.length):withinL (driveL (wrapL 2 single x))=(trimN (cleanL (rdL false x)),true):=by
 have hr:=restL_area (x:=x++areaC) (y:=[]) (hn.trans hl) (by rw [List.drop_left,List.append_nil])
 rw [List.take_left] at hr
 have hw:wrapL 2 single x=areaO++(x++areaC):=by unfold wrapL;rw [if_neg (by decide),if_neg (by decide),if_pos rfl]
 unfold driveL
 rw [hw,drvL_area,hr]
 simp only [drvL_nil,List.append_nil]
 rw [join_area,show rawT true x=cleanL (rdL false x) from rfl]
 generalize cleanL (rdL false x)=u
 unfold txtT
 split
 · rename_i e;subst e;rfl
 · rfl
theorem area_plain {x:List UInt8} (h:(60:UInt8)∉x):firstE areaW (x++areaC)=x.length:=by
 have:=firstE_areaC []
 rw [List.append_nil] at this
 rw [firstE_app _ _ h,this,Nat.add_zero]
end Go.Proofs.YtcecjoaeolglbaaGreatDoor.Hand
end

section
namespace Go.Proofs.YtcecjoaeolglbaaGreatDoor.Hand
open Go Go.RowKit Go.Proofs.YtcecjoaeolglbaaGreatDoor.Pl Go.Proofs.YtcecjoaeolglbaaGreatDoor.Pb Go.Proofs.YtcecjoaeolglbaaGreatDoor.Pure
theorem parse0 (single:Bool) (s:List UInt8):parseL 0 single s=onlyL (driveL (normL s)):=by unfold parseL;rw [if_pos rfl,norm_wrap];rfl
theorem parse1 (single:Bool) (s:List UInt8):parseL 1 single s=valueL (driveL (wrapL 1 single (normL s))):=by unfold parseL;rw [if_neg (by decide),if_pos rfl,norm_wrap]
theorem parse2 (single:Bool) (s:List UInt8):parseL 2 single s=withinL (driveL (wrapL 2 single (normL s))):=by unfold parseL;rw [if_neg (by decide),if_neg (by decide),if_pos rfl,norm_wrap]
end Go.Proofs.YtcecjoaeolglbaaGreatDoor.Hand
end

section
namespace Go.Proofs.YtcecjoaeolglbaaGreatDoor.Hand
open Go Go.RowKit Go.Proofs.YtcecjoaeolglbaaGreatDoor.Pl Go.Proofs.YtcecjoaeolglbaaGreatDoor.Pb
def wNbsp:List UInt8:=[38,110,98,115,112,59]
def serF (q:Bool) (c:UInt8):Option (List UInt8×List UInt8) :=
 if c=38 then some ([],wAmp) else if c=194 then some ([160],wNbsp) else if c=60 then some ([],wLt) else if c=62 then some ([],wGt) else if c=34∧q=true then some ([],wQuot) else none
def serQ (q:Bool) (s:List UInt8):List UInt8:=replS (serF q) 0 s
def serL (d:Int) (s:List UInt8):List UInt8:=if d<0∨d>2 then [] else serQ (decide (d=1)) s
theorem ser_nil (q:Bool):serQ q []=[]:=rfl
theorem ser_cases (q:Bool) (c:UInt8) (r:List UInt8) (P:List UInt8→Prop)
  (h38:c=38→P (wAmp++serQ q r)) (h60:c=60→P (wLt++serQ q r)) (h62:c=62→P (wGt++serQ q r)) (h34:c=34→q=true→P (wQuot++serQ q r))
  (hm:∀ t,c=194→r=160::t→P (wNbsp++serQ q t))
  (hc:c≠38→c≠60→c≠62→(c=34→q=false)→(c=194→r.head? ≠ some 160)→P (c::serQ q r)):P (serQ q (c::r)):=by
 unfold serQ at *
 have hit:∀ {v:List UInt8},serF q c=some ([],v)→P (v++replS (serF q) 0 r)→P (replS (serF q) 0 (c::r)):=by
  intro v h hp
  rw [replS_hit h rfl];exact hp
 by_cases e1:c=38
 · exact hit (by simp [serF,e1]) (h38 e1)
 by_cases e2:c=60
 · exact hit (by simp [serF,e2]) (h60 e2)
 by_cases e3:c=62
 · exact hit (by simp [serF,e3]) (h62 e3)
 by_cases e4:c=34∧q=true
 · exact hit (by simp [serF,e4.1,e4.2]) (h34 e4.1 e4.2)
 by_cases e8:c=194
 · have hf:serF q c=some ([160],wNbsp):=by simp [serF,e8]
   by_cases hp:[160].isPrefixOf r=true
   · rw [replS_hit hf hp]
     obtain ⟨t,rfl⟩:=List.isPrefixOf_iff_prefix.1 hp
     exact hm t e8 rfl
   · rw [replS_miss hf hp]
     refine hc e1 e2 e3 (fun e=>by cases q<;>simp_all) fun _ hh=>hp ?_
     cases r with
     | nil=>cases hh
     | cons d t=>simp at hh;subst hh;rfl
 · rw [replS_none (by simp only [serF,if_neg e1,if_neg e2,if_neg e3,if_neg e4,if_neg e8])]
   exact hc e1 e2 e3 (fun e=>by cases q<;>simp_all) fun e=>absurd e e8
theorem dec_nbsp (attr:Bool) (r:List UInt8):rdL attr (wNbsp++r)=194::160::rdL attr r:=by
 have:=rdL_semi (attr:=attr) (w:=wordNbsp) r (fnd_key fnd_nbsp)
 exact this.trans (by rw [nameT_nbsp];rfl)
theorem read_ser (attr q:Bool):∀ n (s:List UInt8),s.length≤n→rdL attr (serQ q s)=s:=by
 intro n
 induction n with
 | zero=>intro s h;obtain rfl:=List.eq_nil_of_length_eq_zero (Nat.le_zero.1 h);rfl
 | succ n ih =>
   intro s h
   cases s with
   | nil=>rfl
   | cons c r =>
     simp only [List.length_cons] at h
     have hr:=ih r (by omega)
     refine ser_cases q c r (fun l=>rdL attr l=c::r) ?_ ?_ ?_ ?_ ?_ ?_
     · rintro rfl;rw [dec_amp,hr]
     · rintro rfl;rw [dec_lt,hr]
     · rintro rfl;rw [dec_gt,hr]
     · rintro rfl _;rw [dec_quot,hr]
     · rintro t rfl rfl
       simp only [List.length_cons] at h
       rw [dec_nbsp,ih t (by omega)]
     · intro h38 _ _ _ _
       rw [rdL_ne attr _ h38,hr]
theorem ser_no (q:Bool):∀ n (s:List UInt8),s.length≤n→(60:UInt8)∉serQ q s∧(62:UInt8)∉serQ q s∧(q=true→(34:UInt8)∉serQ q s):=by
 intro n
 induction n with
 | zero=>intro s h;obtain rfl:=List.eq_nil_of_length_eq_zero (Nat.le_zero.1 h);rw [ser_nil];simp
 | succ n ih =>
   intro s h
   cases s with
   | nil=>rw [ser_nil];simp
   | cons c r =>
     simp only [List.length_cons] at h
     obtain ⟨r1,r2,r3⟩:=ih r (by omega)
     refine ser_cases q c r (fun l=>(60:UInt8)∉l∧(62:UInt8)∉l∧(q=true→(34:UInt8)∉l)) ?_ ?_ ?_ ?_ ?_ ?_
     all_goals try (intro _;exact ⟨by simp [wAmp,wLt,wGt,r1],by simp [wAmp,wLt,wGt,r2],fun hq=>by simp [wAmp,wLt,wGt,r3 hq]⟩)
     · intro _ _;exact ⟨by simp [wQuot,r1],by simp [wQuot,r2],fun hq=>by simp [wQuot,r3 hq]⟩
     · rintro t rfl rfl
       simp only [List.length_cons] at h
       obtain ⟨t1,t2,t3⟩:=ih t (by omega)
       exact ⟨by simp [wNbsp,t1],by simp [wNbsp,t2],fun hq=>by simp [wNbsp,t3 hq]⟩
     · intro h38 h60 h62 h34 _
       exact ⟨by simp [r1,Ne.symm h60],by simp [r2,Ne.symm h62],fun hq=>by
        have h34':c≠34:=fun e=>by have:=h34 e;rw [hq] at this;cases this
        simp [r3 hq,Ne.symm h34']⟩
theorem norm_ser (q:Bool):∀ n (s:List UInt8),s.length≤n→∀ b,normF b (serQ q s)=serQ q (normF b s):=by
 intro n
 induction n with
 | zero=>intro s h b;obtain rfl:=List.eq_nil_of_length_eq_zero (Nat.le_zero.1 h);rfl
 | succ n ih =>
   intro s h b
   cases s with
   | nil=>rfl
   | cons c r =>
     simp only [List.length_cons] at h
     have hr:=ih r (by omega)
     have hit:∀ {v:List UInt8},serF q c=some ([],v)→serQ q (c::normF false r)=v++serQ q (normF false r):=fun hv=>replS_hit hv rfl
     refine ser_cases q c r (fun l=>normF b l=serQ q (normF b (c::r))) ?_ ?_ ?_ ?_ ?_ ?_
     · rintro rfl
       rw [show normF b (38::r)=38::normF false r by simp [normF],hit (v:=wAmp) (by simp [serF]),← hr];simp [wAmp,normF]
     · rintro rfl
       rw [show normF b (60::r)=60::normF false r by simp [normF],hit (v:=wLt) (by simp [serF]),← hr];simp [wLt,normF]
     · rintro rfl
       rw [show normF b (62::r)=62::normF false r by simp [normF],hit (v:=wGt) (by simp [serF]),← hr];simp [wGt,normF]
     · rintro rfl rfl
       rw [show normF b (34::r)=34::normF false r by simp [normF],hit (v:=wQuot) (by simp [serF]),← hr];simp [wQuot,normF]
     · rintro t rfl rfl
       simp only [List.length_cons] at h
       have ht:=ih t (by omega) false
       have e:serQ q (194::160::normF false t)=wNbsp++serQ q (normF false t):=(replS_hit (f:=serF q) (c:=194) (t:=[160]) (v:=wNbsp) (by simp [serF]) (by simp)).trans rfl
       rw [show normF b (194::160::t)=194::160::normF false t by simp [normF],e,← ht];simp [wNbsp,normF]
     · intro h38 h60 h62 h34 hm
       by_cases hb:b=true∧c=10
       · rw [show normF b (c::serQ q r)=normF false (serQ q r) by simp [normF,hb.1,hb.2],show normF b (c::r)=normF false r by simp [normF,hb.1,hb.2],hr]
       · by_cases h13:c=13
         · subst h13
           rw [show normF b (13::serQ q r)=10::normF true (serQ q r) by simp [normF],show normF b (13::r)=10::normF true r by simp [normF],hr true]
           exact (replS_none (by simp [serF]) _).symm
         · rw [show normF b (c::serQ q r)=c::normF false (serQ q r) by simp only [normF,if_neg hb,if_neg h13],show normF b (c::r)=c::normF false r by simp only [normF,if_neg hb,if_neg h13],hr false]
           have e4:¬ (c=34∧q=true):=fun e=>by have:=h34 e.1;rw [e.2] at this;cases this
           by_cases h194:c=194
           · have hh:=hm h194
             have hf:serF q c=some ([160],wNbsp):=by simp [serF,h194]
             refine (replS_miss hf ?_:serQ q (c::normF false r)=_).symm
             cases r with
             | nil=>simp [normF]
             | cons d t =>
               simp only [List.head?_cons,ne_eq,Option.some.injEq] at hh
               by_cases hd:d=13
               · subst hd;simp [normF]
               · rw [show normF false (d::t)=d::normF false t by simp [normF,hd]]
                 simp [Ne.symm hh]
           · exact (replS_none (by simp only [serF,if_neg h38,if_neg h60,if_neg h62,if_neg e4,if_neg h194]) _).symm
theorem norm_serL (q:Bool) (s:List UInt8):normL (serQ q s)=serQ q (normL s):=norm_ser q _ s (Nat.le_refl _) false
def roundL (d:Int) (s:List UInt8):List UInt8:=if d=0 then normL s else if d=1 then cleanL (normL s) else trimN (cleanL (normL s))
theorem parse_ser (d:Int) (hd:d=0∨d=1∨d=2) (s:List UInt8):parseL d false (serL d s)=(roundL d s,true):=by
 have hno:=fun q=>ser_no q _ (normL s) (Nat.le_refl _)
 rcases hd with rfl|rfl|rfl
 · rw [parse0,show serL 0 s=serQ false s from rfl,norm_serL,only_txt (hno false).1,read_ser _ _ _ _ (Nat.le_refl _)];rfl
 · rw [parse1,show serL 1 s=serQ true s from rfl,norm_serL,value_txt false ((hno true).2.2 rfl),read_ser _ _ _ _ (Nat.le_refl _)];rfl
 · rw [parse2,show serL 2 s=serQ false s from rfl,norm_serL,within_txt false (area_plain (hno false).1) rfl,read_ser _ _ _ _ (Nat.le_refl _)];rfl
theorem ser_length (q:Bool):∀ n (s:List UInt8),s.length≤n→s.length≤(serQ q s).length∧(serQ q s).length≤6*s.length:=by
 intro n
 induction n with
 | zero=>intro s h;obtain rfl:=List.eq_nil_of_length_eq_zero (Nat.le_zero.1 h);rw [ser_nil];simp
 | succ n ih =>
   intro s h
   cases s with
   | nil=>rw [ser_nil];simp
   | cons c r =>
     simp only [List.length_cons] at h
     have hr:=ih r (by omega)
     refine ser_cases q c r (fun l=>(c::r).length≤l.length∧l.length≤6*(c::r).length) ?_ ?_ ?_ ?_ ?_ ?_
     all_goals try (intro _;simp [wAmp,wLt,wGt];omega)
     · intro _ _;simp [wQuot];omega
     · rintro t _ rfl
       simp only [List.length_cons] at h
       have ht:=ih t (by omega)
       simp [wNbsp];omega
theorem ser_app (q:Bool) (b:List UInt8) (hb:b.head? ≠ some 160):∀ n (s:List UInt8),s.length≤n→serQ q (s++b)=serQ q s++serQ q b:=by
 intro n
 induction n with
 | zero=>intro s h;obtain rfl:=List.eq_nil_of_length_eq_zero (Nat.le_zero.1 h);rfl
 | succ n ih =>
   intro s h
   cases s with
   | nil=>rfl
   | cons c r =>
     simp only [List.length_cons] at h
     have hr:=ih r (by omega)
     have hit:∀ {v:List UInt8},serF q c=some ([],v)→serQ q (c::(r++b))=v++serQ q (r++b):=fun hv=>replS_hit hv rfl
     refine ser_cases q c r (fun l=>serQ q (c::(r++b))=l++serQ q b) ?_ ?_ ?_ ?_ ?_ ?_
     · rintro rfl;rw [hit (v:=wAmp) (by simp [serF]),hr,List.append_assoc]
     · rintro rfl;rw [hit (v:=wLt) (by simp [serF]),hr,List.append_assoc]
     · rintro rfl;rw [hit (v:=wGt) (by simp [serF]),hr,List.append_assoc]
     · rintro rfl rfl;rw [hit (v:=wQuot) (by simp [serF]),hr,List.append_assoc]
     · rintro t rfl rfl
       simp only [List.length_cons] at h
       have e:serQ q (194::(160::t++b))=wNbsp++serQ q (t++b):=(replS_hit (f:=serF q) (c:=194) (t:=[160]) (v:=wNbsp) (by simp [serF]) (by simp)).trans rfl
       rw [e,ih t (by omega),List.append_assoc]
     · intro h38 h60 h62 h34 hm
       have e4:¬ (c=34∧q=true):=fun e=>by have:=h34 e.1;rw [e.2] at this;cases this
       rw [List.cons_append,← hr]
       by_cases h194:c=194
       · have hh:=hm h194
         have hf:serF q c=some ([160],wNbsp):=by simp [serF,h194]
         refine (replS_miss hf ?_:serQ q (c::(r++b))=_)
         cases r with
         | nil =>
           cases b with
           | nil=>simp
           | cons d t=>simp only [List.head?_cons,ne_eq,Option.some.injEq] at hb;simp [Ne.symm hb]
         | cons d t=>simp only [List.head?_cons,ne_eq,Option.some.injEq] at hh;simp [Ne.symm hh]
       · exact replS_none (by simp only [serF,if_neg h38,if_neg h60,if_neg h62,if_neg e4,if_neg h194]) _
def scanR (q:Bool):Bool→List UInt8→Bool
 | o,[] => !o
 | o,c::r=>if c=60∨c=62 then false else if c=34 then !q&&scanR q o r else if c=38 then !o&&scanR q true r else if c=59 then scanR q false r else scanR q o r
theorem scan_ser (q:Bool):∀ n (s:List UInt8),s.length≤n→scanR q false (serQ q s)=true:=by
 intro n
 induction n with
 | zero=>intro s h;obtain rfl:=List.eq_nil_of_length_eq_zero (Nat.le_zero.1 h);rfl
 | succ n ih =>
   intro s h
   cases s with
   | nil=>rfl
   | cons c r =>
     simp only [List.length_cons] at h
     have hr:=ih r (by omega)
     refine ser_cases q c r (fun l=>scanR q false l=true) ?_ ?_ ?_ ?_ ?_ ?_
     all_goals try (intro _;simp [wAmp,wLt,wGt,scanR,hr];done)
     · intro _ _;simp [wQuot,scanR,hr]
     · rintro t _ rfl
       simp only [List.length_cons] at h
       have ht:=ih t (by omega)
       simp [wNbsp,scanR,ht]
     · intro h38 h60 h62 h34 _
       rw [scanR,if_neg (by simp [h60,h62])]
       by_cases e:c=34
       · rw [if_pos e,hr,h34 e];rfl
       · rw [if_neg e,if_neg h38,hr,ite_self]
end Go.Proofs.YtcecjoaeolglbaaGreatDoor.Hand
end

section
namespace Go.Proofs.YtcecjoaeolglbaaGreatDoor.Hand
open Go Go.RowKit Go.Proofs.YtcecjoaeolglbaaGreatDoor.Pb Go.Proofs.YtcecjoaeolglbaaGreatDoor.Pl
def serP:List (List UInt8×ByteArray):=[([38],B wAmp),([194,160],B wNbsp),([60],B wLt),([62],B wGt)]
def serPq:List (List UInt8×ByteArray):=[([38],B wAmp),([194,160],B wNbsp),([60],B wLt),([62],B wGt),([34],B wQuot)]
theorem serP_pair:pairF serP=serF false:=by
 funext c
 have:∀ n:Fin 256,pairF serP (UInt8.ofNat n.val)=serF false (UInt8.ofNat n.val):=by decide +kernel
 have h':=this ⟨c.toNat,c.toNat_lt⟩
 simpa using h'
theorem serPq_pair:pairF serPq=serF true:=by
 funext c
 have:∀ n:Fin 256,pairF serPq (UInt8.ofNat n.val)=serF true (UInt8.ofNat n.val):=by decide +kernel
 have h':=this ⟨c.toNat,c.toNat_lt⟩
 simpa using h'
theorem serP_words:Words serP where
 heads:=heads_of (by decide +kernel)
 lens:=by decide +kernel
 vals:=by decide +kernel
 many:=by decide
 cnt:=by decide +kernel
 long:=⟨1,by decide,by decide⟩
 two:=by decide
theorem serPq_words:Words serPq where
 heads:=heads_of (by decide +kernel)
 lens:=by decide +kernel
 vals:=by decide +kernel
 many:=by decide
 cnt:=by decide +kernel
 long:=⟨1,by decide,by decide⟩
 two:=by decide
def serCells:Array Value := #[.string ⟨#[38]⟩,.string ⟨#[38,97,109,112,59]⟩,.string ⟨#[194,160]⟩,.string ⟨#[38,110,98,115,112,59]⟩,.string ⟨#[60]⟩,.string ⟨#[38,108,116,59]⟩,.string ⟨#[62]⟩,.string ⟨#[38,103,116,59]⟩]
theorem sign_nbsp:signB 160=⟨#[194,160]⟩:=by rfl
theorem ser_made (kv:List (List UInt8×ByteArray)) (hk:Words kv) (bo cap:Nat) (s:List UInt8) (w W:World) (hw:Below w.heap.size w W) (ho:BlkF bo (2*kv.length) (strV (flatKV kv)) W) (hbo:bo<W.heap.size) (hs:s.length≤100000) :
  Calls Tryz.prog 51 #[.slice (some ⟨bo,0,none⟩) (2*kv.length) cap] W fun e w' => ∃ rb,e = .returned (.pointer (some ⟨rb,0,none⟩)) ∧
   Calls Tryz.prog 52 #[.pointer (some ⟨rb,0,none⟩),.string (B s)] w' fun e w2=>e = .returned (.string (B (replS (pairF kv) 0 s)))∧Below w.heap.size w w2:=by
 have hl:=flatKV_length kv
 have hr:(replS (pairF kv) 0 s).length≤100000000:=by
  have:=replS_length (pairF_val hk.vals) s 0
  omega
 have h2:=hk.two
 have hm:=hk.many
 have C1:=new_replacer bo cap (flatKV kv) W (by rw [hl];exact ho) hbo (by omega) (by omega) (by omega)
 rw [hl] at C1
 refine C1.mono ?_
 rintro e w1 ⟨rb,b2,c,rfl,hN⟩
 refine ⟨rb,rfl,(repl_replace kv rb b2 c w.heap.size s W w1 hk hN hw.size hs hr).mono ?_⟩
 rintro e w2 ⟨h1,h2⟩
 exact ⟨h1,(hw.trans (hN.below.mono hw.size)).trans h2⟩
set_option maxRecDepth 100000 in
set_option maxHeartbeats 4000000 in
theorem ser0_c (k:Int) (hk:k=0∨k=2) (s:List UInt8) (w:World) (hs:s.length≤100000) :
  Calls Tryz.prog 27 #[.int .i64 k,.string (B s)] w fun e w'=>e = .returned (.string (B (serQ false s)))∧Below w.heap.size w w':=by
 have C1:=sign_c 160 w (by omega)
 rw [sign_nbsp] at C1
 replace C1:=Lib.hid C1
 have hF:BlkF w.heap.size (2*serP.length) (strV (flatKV serP)) (w.alloc (.cells serCells 9)):=cells_strs (l:=flatKV serP) rfl 9 w
 have C2:=Lib.hid (ser_made serP serP_words w.heap.size 8 s w _ (Below.alloc (Below.refl _ _) (Nat.le_refl _) (.cells serCells 9)) hF (by simp) hs)
 rw [serP_pair,show replS (serF false) 0 s=serQ false s from rfl,show 2*serP.length=8 from rfl] at C2
 clear hF
 unfold serCells at C2
 rcases hk with rfl|rfl <;>
 · go_enter Tryz.func27,Tryz.ntmps27
   go_wp2_with fail
   refine C1.out.mono ?_
   rintro e w1 ⟨rfl,rfl⟩
   go_wp2_with fail
   refine C2.out.mono ?_
   rintro e w2 ⟨rb,rfl,hC⟩
   have C3:=Lib.hid hC
   clear hC C2 C1
   go_wp2_with fail
   refine C3.out.mono ?_
   rintro e w3 ⟨rfl,hb⟩
   go_wp2_with fail
   go_ret
   exact ⟨rfl,hb⟩
set_option maxRecDepth 100000 in
set_option maxHeartbeats 4000000 in
theorem ser1_c (s:List UInt8) (w:World) (hs:s.length≤100000) :
  Calls Tryz.prog 27 #[.int .i64 1,.string (B s)] w fun e w'=>e = .returned (.string (B (serQ true s)))∧Below w.heap.size w w':=by
 obtain ⟨i,hi,hzz⟩:=Option.map_eq_some_iff.1 info_str
 simp only [Prod.mk.injEq] at hzz
 obtain ⟨hz0,hs1,hb1⟩:=hzz
 have C1:=sign_c 160 w (by omega)
 rw [sign_nbsp] at C1
 replace C1:=Lib.hid C1
 have hown:((w.alloc (.cells serCells 9)).alloc (.cells #[.string ⟨#[34]⟩,.string ⟨#[38,113,117,111,116,59]⟩] 9)).ownsRow w.heap.size 9 1 (.slice (some ⟨w.heap.size,0,none⟩) 8 8) 8 serCells.toList :=
  (World.ownsRow_lit (base:=w.heap.size) (e:=9) (size:=1) w serCells 8 (Nat.le_refl _) (by unfold maxLen;omega) rfl).alloc _
 have hnews:∀ j u,([.string ⟨#[34]⟩,.string ⟨#[38,113,117,111,116,59]⟩]:List Value)[j]? = some u→((w.alloc (.cells serCells 9)).alloc (.cells #[.string ⟨#[34]⟩,.string ⟨#[38,113,117,111,116,59]⟩] 9)).cell? ((⟨w.heap.size+1,0,none⟩:Addr).add j)=some u:=by
  intro j u hu
  have hadd:(⟨w.heap.size+1,0,none⟩:Addr).add j=⟨w.heap.size+1,j,none⟩:=by unfold Addr.add;split<;>simp_all
  rw [hadd]
  refine (World.cell?_alloc_at _ _ _ j (by simp)).trans ?_
  rw [← Array.getElem?_toList];exact hu
 have h1:∀ u∈([.string ⟨#[34]⟩,.string ⟨#[38,113,117,111,116,59]⟩]:List Value),u.oneCell'=true:=by
  intro u hu
  simp only [List.mem_cons,List.not_mem_nil,or_false] at hu
  rcases hu with rfl|rfl<;>rfl
 have hbel:Below w.heap.size w ((w.alloc (.cells serCells 9)).alloc (.cells #[.string ⟨#[34]⟩,.string ⟨#[38,113,117,111,116,59]⟩] 9)):=(Below.alloc (Below.refl _ _) (Nat.le_refl _) _).alloc (by simp) _
 have HI:=Lib.hid hi
 have HZ:=Lib.hid hz0
 have HS1:=Lib.hid hs1
 have HB1:=Lib.hid hb1
 have HOWN:=Lib.hid hown
 have HNEWS:=Lib.hid hnews
 have H1:=Lib.hid h1
 have HBEL:=Lib.hid hbel
 clear hi hz0 hs1 hb1 hown hnews h1 hbel
 unfold serCells at HOWN HNEWS HBEL
 go_enter Tryz.func27,Tryz.ntmps27
 go_wp2_with fail
 refine C1.out.mono ?_
 rintro e w1 ⟨rfl,rfl⟩
 go_wp2_with (at_builtin;refine wpList_append_own _ rfl _ _ 67 rfl w1.heap.size 9 i (.string ByteArray.empty) 1 16 Tryz.underlying67 HI.out HZ.out HS1.out HB1.out rfl (by decide) _ 8 _ rfl HOWN.out ⟨w1.heap.size+1,0,none⟩ 2 2 _ rfl rfl HNEWS.out H1.out (by unfold maxLen;omega) (by omega) (by simp;omega) ?_)
 intro v' w2 hown2 hgr _
 have hb2:=HBEL.out.grown hgr (by simp;omega) (fun k hk=>(HOWN.out.lt k hk).1)
 rcases hown2.2 with ⟨hv,h0⟩|⟨g,c,cur,rfl,hg1,hg2,_⟩
 · omega
 · have hlt:=(hown2.lt g rfl).2
   have hF:BlkF g (2*serPq.length) (strV (flatKV serPq)) w2:=owns_blkF (l:=flatKV serPq) (c:=c) hown2
   have C2:=Lib.hid (ser_made serPq serPq_words g c s w1 w2 hb2 hF hlt hs)
   rw [serPq_pair,show replS (serF true) 0 s=serQ true s from rfl,show 2*serPq.length=10 from rfl] at C2
   clear hF hown2 hgr hg2 hb2 HOWN HNEWS H1 HBEL C1
   go_wp2_with fail
   refine C2.out.mono ?_
   rintro e w3 ⟨rb,rfl,hC⟩
   have C3:=Lib.hid hC
   clear hC C2
   go_wp2_with fail
   refine C3.out.mono ?_
   rintro e w4 ⟨rfl,hb⟩
   go_wp2_with fail
   go_ret
   exact ⟨rfl,hb⟩
theorem serial_c (k:Int) (hk:0≤k∧k≤2) (s:List UInt8) (w:World) (hs:s.length≤100000) :
  Calls Tryz.prog 27 #[.int .i64 k,.string (B s)] w fun e w'=>e = .returned (.string (B (serL k s)))∧Below w.heap.size w w':=by
 unfold serL
 rw [if_neg (by omega)]
 by_cases h1:k=1
 · subst h1;exact ser1_c s w hs
 · rw [decide_eq_false h1];exact ser0_c k (by omega) s w hs
end Go.Proofs.YtcecjoaeolglbaaGreatDoor.Hand
end

section
namespace Go.Proofs.YtcecjoaeolglbaaGreatDoor.St
open Go.RowKit Go.Proofs.YtcecjoaeolglbaaGreatDoor.K0 Go.Proofs.YtcecjoaeolglbaaGreatDoor.Hand Go.Proofs.YtcecjoaeolglbaaGreatDoor.Sa Go.Proofs.YtcecjoaeolglbaaGreatDoor.Si Go.Proofs.YtcecjoaeolglbaaGreatDoorW.PrintWords Go.Proofs.YtcecjoaeolglbaaGreatDoorW.PrintLast Go.Proofs.YtcecjoaeolglbaaGreatDoorW.PrintMore
attribute [local go_sem] max2_int min2_int max_two min_two max_three min_three max_four min_four  
set_option linter.unusedVariables false
set_option linter.unusedSimpArgs false
noncomputable def context_only.f (l0:List (S46)):Option (ByteArray×Bool):=if (l0.length:Int)=0 then (some ((⟨#[]⟩:ByteArray),true)) else (if (l0.length:Int)=1 then (if 0<(l0.length:Int) then (if ((rd_T46 l0 0).f0)=0 then (some ((rd_T46 l0 0).f2,true)) else (some ((⟨#[]⟩:ByteArray),false))) else (none)) else (some ((⟨#[]⟩:ByteArray),false)))
set_option maxHeartbeats 8000000 in
set_option maxRecDepth 100000 in
theorem context_only.calls (A0:Option Addr) (c0:Nat) (l0:List (S46)) (r1:ByteArray) (r2:Bool) (w:World) (hr0:Kd.C k46 w A0 l0.length l0) (hc0:l0.length≤c0) (h:context_only.f l0=some (r1,r2)) :
  Calls Tryz.prog 39 #[.slice A0 l0.length c0] w fun e w'=>e = .returned (.tuple #[.string r1,.bool r2])∧Drawn0 w w':=by
 have HR0:=Aside0.mk hr0
 have HC0:=Aside0.mk hc0
 clear hr0 hc0
 have H:(if (l0.length:Int)=0 then (some ((⟨#[]⟩:ByteArray),true)) else (if (l0.length:Int)=1 then (if 0<(l0.length:Int) then (if ((rd_T46 l0 0).f0)=0 then (some ((rd_T46 l0 0).f2,true)) else (some ((⟨#[]⟩:ByteArray),false))) else (none)) else (some ((⟨#[]⟩:ByteArray),false))))=some (r1,r2):=h
 clear h
 by_cases c2:(l0.length:Int)=0
 · rw [if_pos c2] at H
   have c2b0:((l0.length:Int) == 0)=true:=beq_iff_eq.mpr c2
   have c2b1:((l0.length:Int) != 0)=false:=bne_eq_false_iff_eq.mpr c2
   clear c2
   simp only [Option.some.injEq,Prod.mk.injEq] at H
   obtain ⟨rfl,rfl⟩:=H
   go_enter Tryz.func39,Tryz.ntmps39
   go_wp2
   go_ret2
   exact ⟨by first|rfl | (simp;done) | (simp [*];done),by repeat (first|exact Drawn0.refl _|apply Drawn0.step)⟩
 · rw [if_neg c2] at H
   have c2b0:((l0.length:Int) == 0)=false:=beq_eq_false_iff_ne.mpr c2
   have c2b1:((l0.length:Int) != 0)=true:=bne_iff_ne.mpr c2
   have c2b2:¬ (l0=[]):=fun h_=>c2 (by rw [h_];rfl)
   by_cases c3:(l0.length:Int)=1
   · rw [if_pos c3] at H
     have c3b0:((l0.length:Int) == 1)=true:=beq_iff_eq.mpr c3
     have c3b1:((l0.length:Int) != 1)=false:=bne_eq_false_iff_eq.mpr c3
     clear c3
     by_cases c4:0<(l0.length:Int)
     · rw [if_pos c4] at H
       have c4b0:decide (0<(l0.length:Int))=true:=decide_eq_true c4
       have c4b1:decide (0<l0.length)=true:=decide_eq_true (by omega)
       clear c4
       by_cases c5:((rd_T46 l0 0).f0)=0
       · rw [if_pos c5] at H
         have c5b0:(((rd_T46 l0 0).f0) == 0)=true:=beq_iff_eq.mpr c5
         have c5b1:(((rd_T46 l0 0).f0) != 0)=false:=bne_eq_false_iff_eq.mpr c5
         clear c5
         simp only [Option.some.injEq,Prod.mk.injEq] at H
         obtain ⟨rfl,rfl⟩:=H
         have p165:0≤(0:Int):=(by omega)
         have q165:0<(l0.length:Int):=of_decide_eq_true (by first | (with_reducible assumption)|assumption)
         obtain ⟨ad165,A165_3,c165_3,e165,hx165_0,hx165_1,hx165_2,hx165_3,hx165_4,hl165_3,hi165_3⟩:=at_T46 HR0.out 0 p165 q165
         cases e165
         have qi165:(0<l0.length)=True:=eq_true (by omega)
         (try rw [show ((0:Int)).toNat=0 from rfl] at hx165_0)
         (try rw [show 0*5=0 from rfl] at hx165_0)
         (try rw [Addr.add_zero'] at hx165_0)
         (try rw [show ((0:Int)).toNat=0 from rfl] at hx165_1)
         (try rw [show 0*5=0 from rfl] at hx165_1)
         (try rw [Addr.add_zero'] at hx165_1)
         (try rw [show ((0:Int)).toNat=0 from rfl] at hx165_2)
         (try rw [show 0*5=0 from rfl] at hx165_2)
         (try rw [Addr.add_zero'] at hx165_2)
         (try rw [show ((0:Int)).toNat=0 from rfl] at hx165_3)
         (try rw [show 0*5=0 from rfl] at hx165_3)
         (try rw [Addr.add_zero'] at hx165_3)
         (try rw [show ((0:Int)).toNat=0 from rfl] at hx165_4)
         (try rw [show 0*5=0 from rfl] at hx165_4)
         (try rw [Addr.add_zero'] at hx165_4)
         have HR165_3:=Aside0.mk hi165_3
         have HC165_3:=Aside0.mk hl165_3
         clear hi165_3 hl165_3
         replace p165:=eq_true p165
         replace q165:=eq_true q165
         have p166:0≤(0:Int):=(by omega)
         have q166:0<(l0.length:Int):=of_decide_eq_true (by first | (with_reducible assumption)|assumption)
         obtain ⟨ad166,A166_3,c166_3,e166,hx166_0,hx166_1,hx166_2,hx166_3,hx166_4,hl166_3,hi166_3⟩:=at_T46 HR0.out 0 p166 q166
         obtain rfl:ad165=ad166:=(by injection e166)
         have qi166:(0<l0.length)=True:=eq_true (by omega)
         (try rw [show ((0:Int)).toNat=0 from rfl] at hx166_0)
         (try rw [show 0*5=0 from rfl] at hx166_0)
         (try rw [Addr.add_zero'] at hx166_0)
         (try rw [show ((0:Int)).toNat=0 from rfl] at hx166_1)
         (try rw [show 0*5=0 from rfl] at hx166_1)
         (try rw [Addr.add_zero'] at hx166_1)
         (try rw [show ((0:Int)).toNat=0 from rfl] at hx166_2)
         (try rw [show 0*5=0 from rfl] at hx166_2)
         (try rw [Addr.add_zero'] at hx166_2)
         (try rw [show ((0:Int)).toNat=0 from rfl] at hx166_3)
         (try rw [show 0*5=0 from rfl] at hx166_3)
         (try rw [Addr.add_zero'] at hx166_3)
         (try rw [show ((0:Int)).toNat=0 from rfl] at hx166_4)
         (try rw [show 0*5=0 from rfl] at hx166_4)
         (try rw [Addr.add_zero'] at hx166_4)
         have HR166_3:=Aside0.mk hi166_3
         have HC166_3:=Aside0.mk hl166_3
         clear hi166_3 hl166_3
         replace p166:=eq_true p166
         replace q166:=eq_true q166
         have ea_:=Option.some.inj (hx165_3.symm.trans hx166_3)
         injection ea_ with ea_ en_ ec_
         subst ea_
         subst ec_
         clear en_
         go_enter Tryz.func39,Tryz.ntmps39
         go_wp2
         go_ret2
         exact ⟨by first|rfl | (simp;done) | (simp [*];done),by repeat (first|exact Drawn0.refl _|apply Drawn0.step)⟩
       · rw [if_neg c5] at H
         have c5b0:(((rd_T46 l0 0).f0) == 0)=false:=beq_eq_false_iff_ne.mpr c5
         have c5b1:(((rd_T46 l0 0).f0) != 0)=true:=bne_iff_ne.mpr c5
         simp only [Option.some.injEq,Prod.mk.injEq] at H
         obtain ⟨rfl,rfl⟩:=H
         have p165:0≤(0:Int):=(by omega)
         have q165:0<(l0.length:Int):=of_decide_eq_true (by first | (with_reducible assumption)|assumption)
         obtain ⟨ad165,A165_3,c165_3,e165,hx165_0,hx165_1,hx165_2,hx165_3,hx165_4,hl165_3,hi165_3⟩:=at_T46 HR0.out 0 p165 q165
         cases e165
         have qi165:(0<l0.length)=True:=eq_true (by omega)
         (try rw [show ((0:Int)).toNat=0 from rfl] at hx165_0)
         (try rw [show 0*5=0 from rfl] at hx165_0)
         (try rw [Addr.add_zero'] at hx165_0)
         (try rw [show ((0:Int)).toNat=0 from rfl] at hx165_1)
         (try rw [show 0*5=0 from rfl] at hx165_1)
         (try rw [Addr.add_zero'] at hx165_1)
         (try rw [show ((0:Int)).toNat=0 from rfl] at hx165_2)
         (try rw [show 0*5=0 from rfl] at hx165_2)
         (try rw [Addr.add_zero'] at hx165_2)
         (try rw [show ((0:Int)).toNat=0 from rfl] at hx165_3)
         (try rw [show 0*5=0 from rfl] at hx165_3)
         (try rw [Addr.add_zero'] at hx165_3)
         (try rw [show ((0:Int)).toNat=0 from rfl] at hx165_4)
         (try rw [show 0*5=0 from rfl] at hx165_4)
         (try rw [Addr.add_zero'] at hx165_4)
         have HR165_3:=Aside0.mk hi165_3
         have HC165_3:=Aside0.mk hl165_3
         clear hi165_3 hl165_3
         replace p165:=eq_true p165
         replace q165:=eq_true q165
         go_enter Tryz.func39,Tryz.ntmps39
         go_wp2
         go_ret2
         exact ⟨by first|rfl | (simp;done) | (simp [*];done),by repeat (first|exact Drawn0.refl _|apply Drawn0.step)⟩
     · rw [if_neg c4] at H
       exact absurd H (by simp)
   · rw [if_neg c3] at H
     have c3b0:((l0.length:Int) == 1)=false:=beq_eq_false_iff_ne.mpr c3
     have c3b1:((l0.length:Int) != 1)=true:=bne_iff_ne.mpr c3
     simp only [Option.some.injEq,Prod.mk.injEq] at H
     obtain ⟨rfl,rfl⟩:=H
     go_enter Tryz.func39,Tryz.ntmps39
     go_wp2
     go_ret2
     exact ⟨by first|rfl | (simp;done) | (simp [*];done),by repeat (first|exact Drawn0.refl _|apply Drawn0.step)⟩
noncomputable def context_plain.f (a0_0:Int) (a0_1:ByteArray) (a0_2:ByteArray) (l0_3:List (S87)) (a0_4:Bool) (a1:Int) (a2:ByteArray) (a3:Int):Option (Bool):=if a0_0=a1 then (if a0_1.toList=a2.toList then (if (l0_3.length:Int)=a3 then (some (!a0_4)) else (some false)) else (some false)) else (some false)
set_option maxHeartbeats 8000000 in
set_option maxRecDepth 100000 in
theorem context_plain.calls (a0_0:Int) (a0_1:ByteArray) (a0_2:ByteArray) (A0_3:Option Addr) (c0_3:Nat) (l0_3:List (S87)) (a0_4:Bool) (a1:Int) (a2:ByteArray) (a3:Int) (r:Bool) (w:World) (hr0_3:Kd.C k87 w A0_3 l0_3.length l0_3) (hc0_3:l0_3.length≤c0_3) (h:context_plain.f a0_0 a0_1 a0_2 l0_3 a0_4 a1 a2 a3=some r) :
  Calls Tryz.prog 66 #[.agg #[.int .i64 a0_0,.string a0_1,.string a0_2,.slice A0_3 l0_3.length c0_3,.bool a0_4],.int .i64 a1,.string a2,.int .i64 a3] w fun e w'=>e = .returned (.bool r)∧Below w.heap.size w w':=by
 have hu46:=Tryz.underlying46
 have HR0_3:=Aside0.mk hr0_3
 have HC0_3:=Aside0.mk hc0_3
 clear hr0_3 hc0_3
 have HB:=Aside0.mk (Below.refl w.heap.size w)
 have H:(if a0_0=a1 then (if a0_1.toList=a2.toList then (if (l0_3.length:Int)=a3 then (some (!a0_4)) else (some false)) else (some false)) else (some false))=some r:=h
 clear h
 by_cases c5:a0_0=a1
 · rw [if_pos c5] at H
   have c5b0:(a0_0 == a1)=true:=beq_iff_eq.mpr c5
   have c5b1:(a0_0 != a1)=false:=bne_eq_false_iff_eq.mpr c5
   clear c5
   by_cases c6:a0_1.toList=a2.toList
   · rw [if_pos c6] at H
     have c6b0:(a0_1.toList == a2.toList)=true:=beq_iff_eq.mpr c6
     have c6b1:(a0_1.toList != a2.toList)=false:=bne_eq_false_iff_eq.mpr c6
     clear c6
     by_cases c7:(l0_3.length:Int)=a3
     · rw [if_pos c7] at H
       have c7b0:((l0_3.length:Int) == a3)=true:=beq_iff_eq.mpr c7
       have c7b1:((l0_3.length:Int) != a3)=false:=bne_eq_false_iff_eq.mpr c7
       clear c7
       obtain rfl:=Option.some.inj H
       go_enter Tryz.func66,Tryz.ntmps66
       go_wp2_with (first | ((with_reducible refine gate_dst (N:=4) rfl ?_);(try (refine gate_guard (by rfl) ?_;dsimp only));refine box_event ?hg (N:=4) ?hd (cs := #[.int .i64 a0_0,.string a0_1,.string a0_2,.slice A0_3 l0_3.length c0_3,.bool a0_4]) (t:=46) ?hr ?_;(case hd=>rfl);(case hg=>rfl);(case hr=>first | (go_simp;done) | (go_simp;rfl));intro gb167 hg w8 hbox hb;have n0_:=Aside0.mk (below_step (by repeat (first | (with_reducible first|exact HB.out|apply below_alloc|apply pw_below_drewN|apply below_drew1)|exact HB.out)) hb);have n1_:=Aside0.mk (hbox);have n2_:=Aside0.mk ((by rw [hg];exact (below_size (by repeat (first | (with_reducible first|exact HB.out|apply below_alloc|apply pw_below_drewN|apply below_drew1)|exact HB.out))):w.heap.size≤gb167));have n3_:=Aside0.mk ((by rw [hg];exact (below_size (by repeat (first | (with_reducible first|exact HB.out|apply below_alloc|apply pw_below_drewN|apply below_drew1)|exact HB.out))):w.heap.size≤gb167));clear HB;have HB:=n0_;have BK167:=n1_;have GW167:=n2_;have GE167:=n3_;clear n0_ n1_ n2_ n3_;clear hb hbox hg;have hcz9_0:w8.cell? ⟨gb167,0,none⟩=some (.int .i64 a0_0):=(blk_cell BK167.out 0).trans rfl;have hcz9_1:w8.cell? ⟨gb167,1,none⟩=some (.string a0_1):=(blk_cell BK167.out 1).trans rfl;have hcz9_2:w8.cell? ⟨gb167,2,none⟩=some (.string a0_2):=(blk_cell BK167.out 2).trans rfl;have hcz9_3:w8.cell? ⟨gb167,3,none⟩=some (.slice A0_3 l0_3.length c0_3):=(blk_cell BK167.out 3).trans rfl;have hcz9_4:w8.cell? ⟨gb167,4,none⟩=some (.bool a0_4):=(blk_cell BK167.out 4).trans rfl;have hfz9_0:=blk_frozen BK167.out 0;have hfz9_1:=blk_frozen BK167.out 1;have hfz9_2:=blk_frozen BK167.out 2;have hfz9_3:=blk_frozen BK167.out 3;have hfz9_4:=blk_frozen BK167.out 4))
       go_ret
       exact ⟨by first|rfl | (simp [errW_none,errW_some]<;>rfl) | (simp [*,errW_none,errW_some]<;>rfl),by repeat (first | (with_reducible first|exact HB.out|apply below_alloc|apply pw_below_drewN|apply below_drew1|refine below_set ?_ GE167.out)|exact HB.out)⟩
     · rw [if_neg c7] at H
       have c7b0:((l0_3.length:Int) == a3)=false:=beq_eq_false_iff_ne.mpr c7
       have c7b1:((l0_3.length:Int) != a3)=true:=bne_iff_ne.mpr c7
       obtain rfl:=Option.some.inj H
       go_enter Tryz.func66,Tryz.ntmps66
       go_wp2_with (first | ((with_reducible refine gate_dst (N:=4) rfl ?_);(try (refine gate_guard (by rfl) ?_;dsimp only));refine box_event ?hg (N:=4) ?hd (cs := #[.int .i64 a0_0,.string a0_1,.string a0_2,.slice A0_3 l0_3.length c0_3,.bool a0_4]) (t:=46) ?hr ?_;(case hd=>rfl);(case hg=>rfl);(case hr=>first | (go_simp;done) | (go_simp;rfl));intro gb167 hg w10 hbox hb;have n0_:=Aside0.mk (below_step (by repeat (first | (with_reducible first|exact HB.out|apply below_alloc|apply pw_below_drewN|apply below_drew1)|exact HB.out)) hb);have n1_:=Aside0.mk (hbox);have n2_:=Aside0.mk ((by rw [hg];exact (below_size (by repeat (first | (with_reducible first|exact HB.out|apply below_alloc|apply pw_below_drewN|apply below_drew1)|exact HB.out))):w.heap.size≤gb167));have n3_:=Aside0.mk ((by rw [hg];exact (below_size (by repeat (first | (with_reducible first|exact HB.out|apply below_alloc|apply pw_below_drewN|apply below_drew1)|exact HB.out))):w.heap.size≤gb167));clear HB;have HB:=n0_;have BK167:=n1_;have GW167:=n2_;have GE167:=n3_;clear n0_ n1_ n2_ n3_;clear hb hbox hg;have hcz11_0:w10.cell? ⟨gb167,0,none⟩=some (.int .i64 a0_0):=(blk_cell BK167.out 0).trans rfl;have hcz11_1:w10.cell? ⟨gb167,1,none⟩=some (.string a0_1):=(blk_cell BK167.out 1).trans rfl;have hcz11_2:w10.cell? ⟨gb167,2,none⟩=some (.string a0_2):=(blk_cell BK167.out 2).trans rfl;have hcz11_3:w10.cell? ⟨gb167,3,none⟩=some (.slice A0_3 l0_3.length c0_3):=(blk_cell BK167.out 3).trans rfl;have hcz11_4:w10.cell? ⟨gb167,4,none⟩=some (.bool a0_4):=(blk_cell BK167.out 4).trans rfl;have hfz11_0:=blk_frozen BK167.out 0;have hfz11_1:=blk_frozen BK167.out 1;have hfz11_2:=blk_frozen BK167.out 2;have hfz11_3:=blk_frozen BK167.out 3;have hfz11_4:=blk_frozen BK167.out 4))
       go_ret
       exact ⟨by first|rfl | (simp [errW_none,errW_some]<;>rfl) | (simp [*,errW_none,errW_some]<;>rfl),by repeat (first | (with_reducible first|exact HB.out|apply below_alloc|apply pw_below_drewN|apply below_drew1|refine below_set ?_ GE167.out)|exact HB.out)⟩
   · rw [if_neg c6] at H
     have c6b0:(a0_1.toList == a2.toList)=false:=beq_eq_false_iff_ne.mpr c6
     have c6b1:(a0_1.toList != a2.toList)=true:=bne_iff_ne.mpr c6
     obtain rfl:=Option.some.inj H
     go_enter Tryz.func66,Tryz.ntmps66
     go_wp2_with (first | ((with_reducible refine gate_dst (N:=4) rfl ?_);(try (refine gate_guard (by rfl) ?_;dsimp only));refine box_event ?hg (N:=4) ?hd (cs := #[.int .i64 a0_0,.string a0_1,.string a0_2,.slice A0_3 l0_3.length c0_3,.bool a0_4]) (t:=46) ?hr ?_;(case hd=>rfl);(case hg=>rfl);(case hr=>first | (go_simp;done) | (go_simp;rfl));intro gb167 hg w12 hbox hb;have n0_:=Aside0.mk (below_step (by repeat (first | (with_reducible first|exact HB.out|apply below_alloc|apply pw_below_drewN|apply below_drew1)|exact HB.out)) hb);have n1_:=Aside0.mk (hbox);have n2_:=Aside0.mk ((by rw [hg];exact (below_size (by repeat (first | (with_reducible first|exact HB.out|apply below_alloc|apply pw_below_drewN|apply below_drew1)|exact HB.out))):w.heap.size≤gb167));have n3_:=Aside0.mk ((by rw [hg];exact (below_size (by repeat (first | (with_reducible first|exact HB.out|apply below_alloc|apply pw_below_drewN|apply below_drew1)|exact HB.out))):w.heap.size≤gb167));clear HB;have HB:=n0_;have BK167:=n1_;have GW167:=n2_;have GE167:=n3_;clear n0_ n1_ n2_ n3_;clear hb hbox hg;have hcz13_0:w12.cell? ⟨gb167,0,none⟩=some (.int .i64 a0_0):=(blk_cell BK167.out 0).trans rfl;have hcz13_1:w12.cell? ⟨gb167,1,none⟩=some (.string a0_1):=(blk_cell BK167.out 1).trans rfl;have hcz13_2:w12.cell? ⟨gb167,2,none⟩=some (.string a0_2):=(blk_cell BK167.out 2).trans rfl;have hcz13_3:w12.cell? ⟨gb167,3,none⟩=some (.slice A0_3 l0_3.length c0_3):=(blk_cell BK167.out 3).trans rfl;have hcz13_4:w12.cell? ⟨gb167,4,none⟩=some (.bool a0_4):=(blk_cell BK167.out 4).trans rfl;have hfz13_0:=blk_frozen BK167.out 0;have hfz13_1:=blk_frozen BK167.out 1;have hfz13_2:=blk_frozen BK167.out 2;have hfz13_3:=blk_frozen BK167.out 3;have hfz13_4:=blk_frozen BK167.out 4))
     go_ret
     exact ⟨by first|rfl | (simp [errW_none,errW_some]<;>rfl) | (simp [*,errW_none,errW_some]<;>rfl),by repeat (first | (with_reducible first|exact HB.out|apply below_alloc|apply pw_below_drewN|apply below_drew1|refine below_set ?_ GE167.out)|exact HB.out)⟩
 · rw [if_neg c5] at H
   have c5b0:(a0_0 == a1)=false:=beq_eq_false_iff_ne.mpr c5
   have c5b1:(a0_0 != a1)=true:=bne_iff_ne.mpr c5
   obtain rfl:=Option.some.inj H
   go_enter Tryz.func66,Tryz.ntmps66
   go_wp2_with (first | ((with_reducible refine gate_dst (N:=4) rfl ?_);(try (refine gate_guard (by rfl) ?_;dsimp only));refine box_event ?hg (N:=4) ?hd (cs := #[.int .i64 a0_0,.string a0_1,.string a0_2,.slice A0_3 l0_3.length c0_3,.bool a0_4]) (t:=46) ?hr ?_;(case hd=>rfl);(case hg=>rfl);(case hr=>first | (go_simp;done) | (go_simp;rfl));intro gb167 hg w14 hbox hb;have n0_:=Aside0.mk (below_step (by repeat (first | (with_reducible first|exact HB.out|apply below_alloc|apply pw_below_drewN|apply below_drew1)|exact HB.out)) hb);have n1_:=Aside0.mk (hbox);have n2_:=Aside0.mk ((by rw [hg];exact (below_size (by repeat (first | (with_reducible first|exact HB.out|apply below_alloc|apply pw_below_drewN|apply below_drew1)|exact HB.out))):w.heap.size≤gb167));have n3_:=Aside0.mk ((by rw [hg];exact (below_size (by repeat (first | (with_reducible first|exact HB.out|apply below_alloc|apply pw_below_drewN|apply below_drew1)|exact HB.out))):w.heap.size≤gb167));clear HB;have HB:=n0_;have BK167:=n1_;have GW167:=n2_;have GE167:=n3_;clear n0_ n1_ n2_ n3_;clear hb hbox hg;have hcz15_0:w14.cell? ⟨gb167,0,none⟩=some (.int .i64 a0_0):=(blk_cell BK167.out 0).trans rfl;have hcz15_1:w14.cell? ⟨gb167,1,none⟩=some (.string a0_1):=(blk_cell BK167.out 1).trans rfl;have hcz15_2:w14.cell? ⟨gb167,2,none⟩=some (.string a0_2):=(blk_cell BK167.out 2).trans rfl;have hcz15_3:w14.cell? ⟨gb167,3,none⟩=some (.slice A0_3 l0_3.length c0_3):=(blk_cell BK167.out 3).trans rfl;have hcz15_4:w14.cell? ⟨gb167,4,none⟩=some (.bool a0_4):=(blk_cell BK167.out 4).trans rfl;have hfz15_0:=blk_frozen BK167.out 0;have hfz15_1:=blk_frozen BK167.out 1;have hfz15_2:=blk_frozen BK167.out 2;have hfz15_3:=blk_frozen BK167.out 3;have hfz15_4:=blk_frozen BK167.out 4))
   go_ret
   exact ⟨by first|rfl | (simp [errW_none,errW_some]<;>rfl) | (simp [*,errW_none,errW_some]<;>rfl),by repeat (first | (with_reducible first|exact HB.out|apply below_alloc|apply pw_below_drewN|apply below_drew1|refine below_set ?_ GE167.out)|exact HB.out)⟩
end Go.Proofs.YtcecjoaeolglbaaGreatDoor.St
end
