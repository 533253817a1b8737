/-
  Texts of the claim ExtractBlocks, merged by a program of this session (1).
-/
import Derived.Test.YtclkdmmgibgamaaGreatDoorZug
import Derived.Lib.Replace
import Derived.Lib.CountLaws
import Derived.Lib.IndexLaws
import Derived.Below
import Derived.Deep.Draws
import Derived.Deep.AppendLies
import Derived.Maps.AppendAt
import Derived.OwnWalk
import Derived.Laws.BytesArg
import Derived.Laws.MakeOwn
import Derived.Laws.OwnMore
import Derived.Deep.OwnRows
import Derived.Tactics
import Derived.Lib.ConvBytes
import Derived.Laws.Slices
import Derived.WalkKit
import Derived.KernelRfl
import Derived.RowKit3
import Derived.Deep.LoopGhost
import Derived.Deep.QuietTactic
import Derived.BigQuiet
import Derived.WideLaws
import Derived.Deep.DeepCutAuto
import Derived.Deep.CutBlock
import Derived.Deep.RegionHeld3
import Derived.Laws.Rows
import Derived.Lib.AppendStr
import Derived.ArgAppend
import Derived.Laws.IdiomCopy
import Derived.RowKit
import Derived.Test.YtclkdmmgibgamaaGreatDoorProg
import Derived.OrdersHeld
import Derived.Laws.BitsLemmas
import Derived.Laws.Runes
import Derived.Lib.SlBytesConst
import Derived.SizedLaws
import Derived.ChangeSlices
set_option linter.unusedVariables false
set_option linter.unusedSimpArgs false
namespace Go.Proofs.YtclkdmmgibgamaaGreatDoor
theorem zv1{p:Prop}(h:p:=by rw [← B_append,← B_append,hXe,hYe];rfl):p:=h
end Go.Proofs.YtclkdmmgibgamaaGreatDoor
set_option maxRecDepth 100000
set_option maxHeartbeats 16000000
namespace Foot
end Foot
namespace Go.Proofs
end Go.Proofs
namespace Go.Proofs.YtclkdmmgibgamaaGreatDoor.Hand
end Go.Proofs.YtclkdmmgibgamaaGreatDoor.Hand
namespace Go.Proofs.YtclkdmmgibgamaaGreatDoor.K0
end Go.Proofs.YtclkdmmgibgamaaGreatDoor.K0
namespace Go.Proofs.YtclkdmmgibgamaaGreatDoor.Pb
end Go.Proofs.YtclkdmmgibgamaaGreatDoor.Pb
namespace Go.Proofs.YtclkdmmgibgamaaGreatDoor.Pcb
end Go.Proofs.YtclkdmmgibgamaaGreatDoor.Pcb
namespace Go.Proofs.YtclkdmmgibgamaaGreatDoor.Pcm
end Go.Proofs.YtclkdmmgibgamaaGreatDoor.Pcm
namespace Go.Proofs.YtclkdmmgibgamaaGreatDoor.Pcq
end Go.Proofs.YtclkdmmgibgamaaGreatDoor.Pcq
namespace Go.Proofs.YtclkdmmgibgamaaGreatDoor.Pl
end Go.Proofs.YtclkdmmgibgamaaGreatDoor.Pl
namespace Go.Proofs.YtclkdmmgibgamaaGreatDoor.Pro
end Go.Proofs.YtclkdmmgibgamaaGreatDoor.Pro
namespace Go.Proofs.YtclkdmmgibgamaaGreatDoor.Pure
end Go.Proofs.YtclkdmmgibgamaaGreatDoor.Pure
namespace Go.Proofs.YtclkdmmgibgamaaGreatDoor.RowKit
end Go.Proofs.YtclkdmmgibgamaaGreatDoor.RowKit
namespace Go.Proofs.YtclkdmmgibgamaaGreatDoor.Sa
end Go.Proofs.YtclkdmmgibgamaaGreatDoor.Sa
namespace Go.Proofs.YtclkdmmgibgamaaGreatDoor.Sf
end Go.Proofs.YtclkdmmgibgamaaGreatDoor.Sf
namespace Go.Proofs.YtclkdmmgibgamaaGreatDoor.Si
end Go.Proofs.YtclkdmmgibgamaaGreatDoor.Si
namespace Go.Proofs.YtclkdmmgibgamaaGreatDoor.Sk
end Go.Proofs.YtclkdmmgibgamaaGreatDoor.Sk
namespace Go.Proofs.YtclkdmmgibgamaaGreatDoor.So
end Go.Proofs.YtclkdmmgibgamaaGreatDoor.So
namespace Go.Proofs.YtclkdmmgibgamaaGreatDoor.Sp
end Go.Proofs.YtclkdmmgibgamaaGreatDoor.Sp
namespace Go.Proofs.YtclkdmmgibgamaaGreatDoor.St
end Go.Proofs.YtclkdmmgibgamaaGreatDoor.St
namespace Go.Proofs.YtclkdmmgibgamaaGreatDoor.Sx
end Go.Proofs.YtclkdmmgibgamaaGreatDoor.Sx
namespace Go.Proofs.YtclkdmmgibgamaaGreatDoorW.PrintLast
end Go.Proofs.YtclkdmmgibgamaaGreatDoorW.PrintLast
namespace Go.Proofs.YtclkdmmgibgamaaGreatDoorW.PrintMore
end Go.Proofs.YtclkdmmgibgamaaGreatDoorW.PrintMore
namespace Go.Proofs.YtclkdmmgibgamaaGreatDoorW.PrintWords
end Go.Proofs.YtclkdmmgibgamaaGreatDoorW.PrintWords
namespace Kd
end Kd

namespace Go.Proofs.YtclkdmmgibgamaaGreatDoor
section
namespace Pl
open Go
theorem normL_of_no13:∀ {l:List UInt8},(13:UInt8)∉l→normL l=l
 | [],_=>rfl
 | c::r,h=>by
   have h1:c≠13:=fun e=>h (by simp [e])
   rw [normL_ne h1,normL_of_no13 (fun e=>h (by simp [e]))]
end Pl
end

section
namespace Hand
open Go.RowKit
structure Live (w W:World) (L:List (Nat×Array Value)):Prop where
 glob:Glob W
 below:Below w.heap.size w W
 blk:∀ x∈L,x.1<W.heap.size∧Blk x.1 x.2 W
theorem Live.call {w W W':World} {L:List (Nat×Array Value)} (h:Live w W L) (hb:Below W.heap.size W W'):Live w W' L :=
 ⟨h.glob.step hb,h.below.trans (hb.mono h.below.size),fun x hx=>⟨Nat.lt_of_lt_of_le (h.blk x hx).1 hb.size,(h.blk x hx).2.below hb (h.blk x hx).1⟩⟩
end Hand
end

end Go.Proofs.YtclkdmmgibgamaaGreatDoor
section
set_option linter.unusedVariables false
set_option linter.unusedSimpArgs false
namespace Go.Proofs.YtclkdmmgibgamaaGreatDoorW.PrintWords
open Go.RowKit
section
variable {P : Program} {ops : Array Oper} {rest : List Oper} {o : Oper} {a : Act} {Q : Exit → Act → World → Prop}
end
section
variable {P : Program}
end
section
variable {P : Program} {ops : Array Oper} {rest : List Oper} {o : Oper} {a : Act} {Q : Exit → Act → World → Prop}
end
def LeO {α:Type} (a b:Option α):Prop := ∀ r,a=some r→b=some r
theorem LeO.refl {α:Type} (a:Option α):LeO a a:=fun _ h=>h
theorem LeO.none {α:Type} (b:Option α):LeO Option.none b:=fun _ h=>by cases h
theorem LeO.trans {α:Type} {a b c:Option α} (h:LeO a b) (k:LeO b c):LeO a c:=fun r hr=>k r (h r hr)
theorem more_rounds {α:Type} {g:Nat→Option α} (h:∀ k,LeO (g k) (g (k+1))) (k:Nat):∀ j,LeO (g k) (g (k+j))
 | 0=>LeO.refl _
 | j+1=>(more_rounds h k j).trans (h (k+j))
theorem at_rounds {α:Type} {g:Nat→Option α} (h:∀ k,LeO (g k) (g (k+1))) {k k':Nat} (hk:k≤k') {r:α} (hr:g k=some r):g k'=some r:=by
 have:=more_rounds h k (k' - k) r hr
 rwa [Nat.add_sub_cancel' hk] at this
section
variable {P : Program} {ops : Array Oper} {rest : List Oper} {o : Oper} {a : Act} {Q : Exit → Act → World → Prop}
end
theorem KeepBut.blk {w w1:World} {g g':Nat} {row:Option Nat} {o:Obj} (h:KeepBut w w1 g row) (hb:w.heap[g']? = some o) (hg:g'≠g) (hr:some g'≠row):w1.heap[g']? = some o:=(h.2 g' (blk_lt hb) hg hr).trans hb
theorem KeepBut.own {w w1:World} {g:Nat} {row:Option Nat} {base:Nat} {e:TypeId} {size n:Nat} {v:Value} {xs:List Value} (h:KeepBut w w1 g row) (ho:w.ownsRow base e size v n xs) (hg:v.ownBlock≠some g) (hr:v.ownBlock=none∨v.ownBlock≠row):w1.ownsRow base e size v n xs:=by
 obtain ⟨h1,h2⟩:=ho
 refine ⟨h1,?_⟩
 rcases h2 with h2|⟨b,cap,cur,rfl,hb,hh,r⟩
 ·exact .inl h2
 ·refine .inr ⟨b,cap,cur,rfl,hb,h.blk hh ?_ ?_,r⟩
  ·intro e
   exact hg (by rw [← e];rfl)
  ·rcases hr with hr|hr
   ·simp [Value.ownBlock] at hr
   ·exact hr
theorem Ev.of {α:Type} {g:Nat→Option α} {r:α} (hg:∀ k,LeO (g k) (g (k+1))) {k:Nat} (h:g k=some r):Ev g r:=⟨k,fun _ hk=>at_rounds hg hk h⟩
section
variable {P : Program} {ops : Array Oper} {o : Oper} {a : Act} {Q : Exit → Act → World → Prop} {K : Act → World → Prop}
end
section
variable {α : Type} {enc : α → Value} {d : α}
end
section
variable {α : Type} {P : Program} {ops : Array Oper} {rest : List Oper} {o : Oper} {a : Act} {Q : Exit → Act → World → Prop}
end
section
variable {P : Program}
end
section
variable {α : Type} {R R' : α → List Value → Prop} {e : TypeId} {size : Nat} {w w1 : World} {base : Nat} {v : Value} {ps : List α}
end
section
variable {P : Program} {ops : Array Oper} {rest : List Oper} {o : Oper} {a : Act} {Q : Exit → Act → World → Prop} {α : Type} {R : α → List Value → Prop}
end
section
variable {P : Program} {ops : Array Oper} {o : Oper} {a : Act} {Q : Exit → Act → World → Prop} {K : Act → World → Prop} {α : Type} {R : α → List Value → Prop}
end
section
variable {α : Type} {P : Program}
end
section
variable {P : Program} {ops : Array Oper} {rest : List Oper} {o : Oper} {a : Act} {Q : Exit → Act → World → Prop}
end
namespace Kd
section
variable {α : Type} {d : Kd α} {e : Nat} {w w1 : World} {base : Nat} {ok ok' : Nat → Prop} {v : Value} {xs : List α}
end
section
variable {P : Program} {ops : Array Oper} {rest : List Oper} {o : Oper} {a : Act} {Q : Exit → Act → World → Prop} {α : Type}
end
section
variable {P : Program} {ops : Array Oper} {o : Oper} {a : Act} {Q : Exit → Act → World → Prop} {Kc : Act → World → Prop} {α : Type}
end
end Kd
namespace Kd
section
variable {α : Type} {F : Kd α → Kd α} {sz : Nat} {E : List Nat} {hs : ∀ n, (upto F sz E n).sz = sz} {hE : ∀ n q, q ∈ (upto F sz E n).E → q ∈ E}
end
end Kd
namespace Kd
end Kd
namespace Kd
section
variable {α β : Type} {d : Kd α} {d' : Kd β} {e e' : Nat} {w w1 W : World} {base b b' : Nat} {ok ok' okv oku : Nat → Prop} {v u : Value} {xs : List α} {ys : List β}
end
section
variable {w W : World} {A : Option Addr} {n : Nat}
variable {α : Type} {enc : α → Value} {h1 : ∀ x, (enc x).oneCell' = true} {e base g cap : Nat} {ok : Nat → Prop} {xs : List α}
end
section
variable {P : Program} {ops : Array Oper} {rest : List Oper} {o : Oper} {a : Act} {Q : Exit → Act → World → Prop}
variable {α : Type}
end
end Kd
section
variable {P : Program}
end
section
variable {w w1 : World} {base n size : Nat} {e : TypeId} {v : Value} {xs : List Value}
end
section
variable {P : Program}
end
namespace Kd
section
variable {α : Type} {d : Kd α} {e : Nat} {w w1 W : World} {base : Nat} {ok ok' : Nat → Prop} {v : Value} {xs : List α}
end
section
variable {P : Program} {ops : Array Oper} {rest : List Oper} {o : Oper} {a : Act} {Q' : Exit → Act → World → Prop} {Kc : Act → World → Prop} {α : Type}
end
end Kd
namespace Kd
section
variable {α : Type} {d : Kd α} {e e' : Nat} {w w1 W : World} {base : Nat} {ok : Nat → Prop} {u v : Value} {xs : List α}
end
end Kd
namespace Kd
section
variable {α : Type} {d : Kd α} {e base g n cap : Nat} {ok okp : Nat → Prop} {W : World} {xs : List α}
end
end Kd
namespace Kd
section
variable {α : Type} {F : Kd α → Kd α} {sz : Nat} {E : List Nat} {hs : ∀ n, (upto F sz E n).sz = sz} {hE : ∀ n q, q ∈ (upto F sz E n).E → q ∈ E}
end
end Kd
namespace Kd
section
variable {P : Program} {ops : Array Oper} {rest : List Oper} {o : Oper} {a : Act} {Q : Exit → Act → World → Prop} {α : Type}
end
end Kd
namespace Kd
section
variable {P : Program} {ops : Array Oper} {rest : List Oper} {o : Oper} {a : Act} {Q : Exit → Act → World → Prop} {α : Type}
end
end Kd
namespace Kd
section
variable {α : Type} {k : Kd α} {w : World} {A : Option Addr} {xs : List α} {m c : Nat}
end
end Kd
section
variable {P : Program}
end
namespace Kd
section
variable {α β : Type} {d : Kd α} {d' : Kd β} {e e' base base' n : Nat} {ok ok' : Nat → Prop} {w W w1 W1 : World} {v u : Value} {xs : List α} {ys : List β} {A : Option Addr} {c : Nat}
end
section
variable {α : Type} {enc : α → Value} {h1 : ∀ x, (enc x).oneCell' = true} {w W : World} {A : Option Addr} {n g : Nat} {xs : List α}
end
end Kd
namespace Kd
section
variable {α : Type} {d : Kd α} {e base g : Nat} {ok : Nat → Prop} {w w1 : World} {v : Value} {xs : List α} {o : Obj}
end
end Kd
section
variable {P : Program} {ops : Array Oper} {rest : List Oper} {o : Oper} {a : Act} {Q : Exit → Act → World → Prop}
end
namespace Kd
section
variable {α : Type} {enc : α → Value} {h1 : ∀ x, (enc x).oneCell' = true} {e base g n cap : Nat} {ok : Nat → Prop} {W : World} {xs : List α}
end
end Kd
section
variable {P : Program} {ops : Array Oper} {rest : List Oper} {o : Oper} {a : Act} {Q : Exit → Act → World → Prop}
end
namespace Kd
section
variable {α : Type} {enc : α → Value} {h1 : ∀ x, (enc x).oneCell' = true} {e base g n cap : Nat} {ok : Nat → Prop} {W : World} {xs : List α}
end
end Kd
section
variable {P : Program} {ops : Array Oper} {rest : List Oper} {o : Oper} {a : Act} {Q : Exit → Act → World → Prop} {W : World}
end
section
variable {P : Program} {ops : Array Oper} {o : Oper} {a : Act} {Q : Exit → Act → World → Prop} {Kc : Act → World → Prop}
namespace Kd
variable {α : Type}
end Kd
end
section
variable {P : Program} {tmps : Array Value} {w : World}
end
namespace Kd
section
variable {P : Program} {α : Type}
end
section
variable {P : Program} {ops : Array Oper} {rest : List Oper} {o : Oper} {a : Act} {Q : Exit → Act → World → Prop} {Kc : Act → World → Prop} {α : Type}
end
end Kd
end Go.Proofs.YtclkdmmgibgamaaGreatDoorW.PrintWords
end

section
namespace Go.Proofs.YtclkdmmgibgamaaGreatDoorW.PrintWords
open Go.RowKit
namespace Kd
section
variable {α β : Type} {d : Kd α} {d' : Kd β} {e e' : Nat} {w w1 W : World} {base b : Nat} {ok ok' okv oku : Nat → Prop} {u v : Value} {xs : List α} {ys : List β}
end
section
variable {α β : Type} {d : Kd α} {d' : Kd β} {e e' g : Nat} {w w1 W : World} {base b : Nat} {ok ok' okv oku : Nat → Prop} {u v : Value} {xs : List α} {ys : List β}
end
section
variable {P : Program} {ops : Array Oper} {rest : List Oper} {o : Oper} {a : Act} {Q : Exit → Act → World → Prop} {Kc : Act → World → Prop} {α : Type}
end
def gap {α:Type} (f:Nat→Nat) (d:Kd α) (i:Nat) (c:List Value):Kd (α×Nat) where
 sz:=d.sz
 E:=d.E
 K:=fun w x cs=>(x.2=i→cs=c∧cs.length=d.sz∧∀ u∈cs,u.oneCell'=true)∧(x.2≠i→d.K w x.1 cs)
 M:=fun w base ok x cs=>(x.2=i→cs=c∧cs.length=d.sz∧∀ u∈cs,u.oneCell'=true)∧(x.2≠i→d.M w base (fun k=>ok k∧f k=x.2) x.1 cs)
 K_len:=fun {w x cs} h=>by
  by_cases hx:x.2=i
  ·exact (h.1 hx).2.1
  ·exact d.K_len (h.2 hx)
 K_one:=fun {w x cs} h=>by
  by_cases hx:x.2=i
  ·exact (h.1 hx).2.2
  ·exact d.K_one (h.2 hx)
 K_below:=fun hb h=>⟨h.1,fun hx=>d.K_below hb (h.2 hx)⟩
 K_of_M:=fun h=>⟨h.1,fun hx=>d.K_of_M (h.2 hx)⟩
 M_mono:=fun hok h=>⟨h.1,fun hx=>d.M_mono (fun k hk=>⟨hok k hk.1,hk.2⟩) (h.2 hx)⟩
 M_bound:=fun h=>⟨h.1,fun hx=>d.M_mono (fun _ hk=>⟨⟨hk.1.1,hk.2⟩,hk.1.2⟩) (d.M_bound (h.2 hx))⟩
 M_move:=fun hm h=>⟨h.1,fun hx=>d.M_move (fun k hk=>hm k hk.1) (h.2 hx)⟩
 M_lower:=fun hb h=>⟨h.1,fun hx=>d.M_lower hb (h.2 hx)⟩
def H {α:Type} (d:Kd α) (e:Nat) (w:World) (base:Nat) (ok:Nat→Prop) (v:Value) (xs:List α) (i:Int) (oki:Nat→Prop) (c:List Value):Prop :=
 (∀ k,oki k→ok k)∧∃ f,(gap f d i.toNat c).R e w base (fun k=>ok k∧¬ oki k) v xs.zipIdx
section
variable {α β : Type} {d : Kd α} {e e' g n cap : Nat} {w w1 W : World} {base : Nat} {ok ok' oki okp : Nat → Prop} {u v : Value} {xs : List α} {i : Int} {c : List Value}
end
section
variable {P : Program} {ops : Array Oper} {rest : List Oper} {o : Oper} {a : Act} {Q : Exit → Act → World → Prop} {α : Type}
end
end Kd
end Go.Proofs.YtclkdmmgibgamaaGreatDoorW.PrintWords
end

section
namespace Go.Proofs.YtclkdmmgibgamaaGreatDoorW.PrintWords
open Go.RowKit
namespace Kd
structure Heap {α:Type} (d:Kd α):Prop where
 K:∀ {w w1:World} {x:α} {cs:List Value},(∀ k,k<w.heap.size→w1.heap[k]? = w.heap[k]?)→d.K w x cs→d.K w1 x cs
theorem cell_heap {w w1:World} (hb:∀ k,k<w.heap.size→w1.heap[k]? = w.heap[k]?) {a:Addr} {v:Value} (h:w.cell? a=some v):w1.cell? a=some v:=by
 have:=hb a.block (World.block_lt_of_cell? w a h)
 simpa [World.cell?,this] using h
theorem Heap.C {α:Type} {d:Kd α} (hd:Heap d) {w w1:World} {A:Option Addr} {n:Nat} {xs:List α} (hb:∀ k,k<w.heap.size→w1.heap[k]? = w.heap[k]?) (h:d.C w A n xs):d.C w1 A n xs :=
 ⟨h.1,h.2.1,fun hn=>by
   obtain ⟨ad,e,hc⟩:=h.2.2 hn
   refine ⟨ad,e,fun j p hj => ?_⟩
   obtain ⟨c,hs,hr,hcell⟩:=hc j p hj
   exact ⟨c,hs,hd.K hb hr,fun i u hu=>cell_heap hb (hcell i u hu)⟩⟩
section
variable {α : Type} {d : Kd α} {e base g n c : Nat} {ok : Nat → Prop} {w w0 W : World} {A : Option Addr} {xs : List α}
end
end Kd
end Go.Proofs.YtclkdmmgibgamaaGreatDoorW.PrintWords
end

section
namespace Go.Proofs.YtclkdmmgibgamaaGreatDoorW.PrintWords
open Go.RowKit
def Kept (w W:World) (S:Nat→Prop):Prop:=w.heap.size≤W.heap.size∧∀ i,i<w.heap.size→¬ S i→W.heap[i]? = w.heap[i]?
section
variable {w W W2 : World} {S S2 S' : Nat → Prop}
theorem Kept.mono (h:Kept w W S) (hs:∀ k,S k→S' k):Kept w W S':=⟨h.1,fun i hi hn=>h.2 i hi (fun hk=>hn (hs i hk))⟩
end
namespace Kd
section
variable {α : Type} {d : Kd α} {e base n c : Nat} {ok oki S S2 : Nat → Prop} {w w0 W W1 W2 : World} {v : Value} {A : Option Addr} {xs : List α} {i : Int} {cs : List Value}
end
end Kd
end Go.Proofs.YtclkdmmgibgamaaGreatDoorW.PrintWords
end

namespace Go.Proofs.YtclkdmmgibgamaaGreatDoor
section
namespace K0
open Go.RowKit YtclkdmmgibgamaaGreatDoorW.PrintWords YtclkdmmgibgamaaGreatDoorW.PrintLast YtclkdmmgibgamaaGreatDoorW.PrintMore
attribute [local go_sem] max2_int min2_int max_two min_two max_three min_three max_four min_four  
set_option linter.unusedVariables false
set_option linter.unusedSimpArgs false
structure S7 where
 f0:Int
 f1:Int
 f2:Bool
 f3:Int
structure S8 where
 f0:Int
 f1:Int
 f2:Bool
 f3:Int
def k8:Kd S8:=Kd.iso (Kd.pair (Kd.int .i64) (Kd.pair (Kd.int .i64) (Kd.pair Kd.bool (Kd.int .u8)))) (fun x:S8=>(x.f0,x.f1,x.f2,x.f3))
structure S13 where
 f0:ByteArray
 f1:Int
def k13:Kd S13:=Kd.iso (Kd.pair Kd.string (Kd.int .u64)) (fun x:S13=>(x.f0,x.f1))
structure S14 where
 f0:ByteArray
 f1:Int
def k14:Kd S14:=Kd.iso (Kd.pair Kd.string (Kd.int .u64)) (fun x:S14=>(x.f0,x.f1))
structure S29 where
 f0:Int
 f1:ByteArray
 f2:ByteArray
 f3:(List S105)
 f4:Bool
structure S97 where
 f0:Int
 f1:Int
structure S98 where
 f0:Int
 f1:Int
structure S104 where
 f0:ByteArray
 f1:ByteArray
structure S122 where
 f0:ByteArray
 f1:Int
structure S123 where
 f0:ByteArray
 f1:Int
structure S148 where
 f0:Int
 f1:Int
structure S149 where
 f0:Int
 f1:Int
structure S169 where
 f0:ByteArray
 f1:Int
structure S170 where
 f0:ByteArray
 f1:Int
structure S224 where
 f0:Int
 f1:Int
structure S225 where
 f0:Int
 f1:Int
structure S264 where
 f0:ByteArray
structure S265 where
 f0:ByteArray
end K0
end

section
namespace Hand
open Go Go.RowKit Pl Pb
def kyC (c:UInt8):Bool:=(decide (65≤c.toNat)&&decide (c.toNat≤90)) || (decide (97≤c.toNat)&&decide (c.toNat≤122)) || (decide (48≤c.toNat)&&decide (c.toNat≤57))
def hdC:List UInt8→Bool
 | []=>false
 | c::_=>(decide (65≤c.toNat)&&decide (c.toNat≤90)) || (decide (97≤c.toNat)&&decide (c.toNat≤122))
def keyOk (l:List UInt8):Bool:=decide ((kyL l).length≤32)&&((kyL l).dropLast.all kyC&&(hdC (kyL l)&&(match (kyL l).getLast? with|some c=>kyC c || c == 59|none=>false)))
def keysOk (T:List UInt8):Bool:=keyOk (linesOf T).1&&(linesOf T).2.all keyOk
theorem names_keys:keysOk namesL=true:=by kernel_rfl
theorem keys_all {T:List UInt8} (h:keysOk T=true) (p:Nat) (hp:St T p):keyOk (lnT T p)=true:=by
 unfold keysOk at h
 rw [Bool.and_eq_true,List.all_eq_true] at h
 rcases hp with rfl|⟨q,rfl,hq⟩
 ·rw [lines_head];exact h.1
 ·exact h.2 _ (lines_mem T q hq)
structure KeyP (k:List UInt8):Prop where
 le:k.length≤32
 pos:k≠[]
 inner:∀ c∈k.dropLast,kyC c=true
 head:hdC k=true
 last:∃ c,k.getLast? = some c∧(kyC c=true∨c=59)
theorem key_facts {k:List UInt8} (h:isKey namesL k):KeyP k:=by
 obtain ⟨p,h1,rfl⟩:=h
 have:=keys_all names_keys p h1
 unfold keyOk at this
 rw [Bool.and_eq_true,Bool.and_eq_true,Bool.and_eq_true,decide_eq_true_eq,List.all_eq_true] at this
 obtain ⟨g1,g2,g3,g4⟩:=this
 change (kyT namesL p).length≤32 at g1
 change hdC (kyT namesL p)=true at g3
 refine ⟨g1,?_,g2,g3,?_⟩
 ·intro e;rw [e] at g3;cases g3
 ·change (match (kyT namesL p).getLast? with|some c=>kyC c || c == 59|none=>false)=true at g4
  split at g4
  ·rename_i c hc
   refine ⟨c,hc,?_⟩
   simpa using g4
  ·cases g4
end Hand
end

section
namespace Hand
open Go Go.RowKit Pl Pb Go.Proofs.YtclkdmmgibgamaaGreatDoor.Pure
theorem txN_app {s:List UInt8} (r:List UInt8) (h:(60:UInt8)∉s):txN (s++r)=s.length+txN r:=by
 have:=txN_skip s.length (s++r) zu19 (fun j hj=>by
  rw [List.getElem?_append_left hj];intro e;exact h (List.mem_of_getElem? e))
 rwa [List.drop_left] at this
theorem tokL_txt {s r:List UInt8} (hs:s≠[]) (h:(60:UInt8)∉s):tokL (s++r)=(some (.text (rdL false (s++r.take (txN r)))),r.drop (txN r)):=by
 obtain ⟨c,t,rfl⟩:∃ c t,s=c::t:=by cases s with|nil=>exact absurd rfl hs|cons c t=>exact ⟨c,t,rfl⟩
 have hc:c≠60:=fun e=>h (by simp [e])
 have hb:begM (c::t++r)=false:=begM_no _ hc
 have hn:txN (c::t++r)=(c::t).length+txN r:=txN_app r h
 unfold begM at hb
 simp only [Bool.or_eq_false_iff] at hb
 obtain ⟨⟨⟨h1,h2⟩,h3⟩,h4⟩:=hb
 unfold tokL
 rw [if_neg (by simpa using h1),if_neg (by rw [h2];decide),if_neg (by rw [h3];decide),if_neg (by rw [h4];decide),if_neg (by rw [hn];simp),hn]
 rw [List.take_length_add_append,List.drop_length_add_append]
theorem tokL_text {s r:List UInt8} (hs:s≠[]) (h:(60:UInt8)∉s) (hr:txN r=0):tokL (s++r)=(some (.text (rdL false s)),r):=by
 rw [tokL_txt hs h,hr];simp
theorem drvL_text {s r:List UInt8} (hs:s≠[]) (h:(60:UInt8)∉s) (hr:txN r=0):drvL (s++r) = .text (rdL false s)::drvL r:=by
 rw [drvL_eq (by simp [hs]),tokL_text hs h hr];rfl
end Hand
end

section
namespace Pl
open Go
def rightK:Nat→List UInt8→Bool
 | _,[]=>true
 | k+1,_::r=>rightK k r
 | 0,c::r=>(firstU (c::r)).2&&rightK ((firstU (c::r)).1 - 1) r
def rightL (s:List UInt8):Bool:=rightK 0 s
theorem rightK_skip:∀ (k:Nat) (s:List UInt8),rightK k s=rightL (s.drop k):=by
 intro k
 induction k with
 | zero=>intro s;rfl
 | succ k ih =>
   intro s
   cases s with
   | nil=>rfl
   | cons c r=>exact ih r
theorem rightL_cons (c:UInt8) (r:List UInt8):rightL (c::r)=((firstU (c::r)).2&&rightL ((c::r).drop (firstU (c::r)).1)):=by
 unfold rightL
 rw [rightK,rightK_skip]
 have h:=(firstU_pos c r).1
 obtain ⟨n,hn⟩:∃ n,(firstU (c::r)).1=n+1:=⟨(firstU (c::r)).1 - 1,zu4⟩
 rw [hn]
 rfl
end Pl
end

section
namespace Pl
open Go
def Sig (a:List UInt8):Prop:=a≠[]∧∀ Y,firstU (a++Y)=(a.length,true)
theorem right_app {a:List UInt8} (h:Sig a) (Y:List UInt8):rightL (a++Y)=rightL Y:=by
 obtain ⟨hne,h⟩:=h
 cases a with
 | nil=>exact absurd rfl hne
 | cons c r =>
   have:=h Y
   rw [List.cons_append] at this ⊢
   rw [rightL_cons,this]
   simp
theorem sig_ascii {c:UInt8} (h:c.toNat<128):Sig [c] :=
 ⟨zu19,fun Y=>by show firstN c.toNat _ _ _=_;unfold firstN;rw [if_pos h];rfl⟩
theorem right_ascii:∀ (w:List UInt8) (_:∀ c∈w,c.toNat<128) (Y:List UInt8),rightL (w++Y)=rightL Y:=by
 intro w
 induction w with
 | nil=>intro _ _;rfl
 | cons c w ih =>
   intro h Y
   rw [List.cons_append,← ih (fun x hx=>h x (by simp [hx])) Y]
   exact right_app (sig_ascii (h c zu19)) (w++Y)
theorem decL_right:∀ n (s:List UInt8),s.length≤n→rightL s=true→decL s=s:=by
 intro n
 induction n with
 | zero=>intro s h _;obtain rfl:=List.eq_nil_of_length_eq_zero (Nat.le_zero.1 h);rfl
 | succ n ih =>
   intro s h hr
   cases s with
   | nil=>rfl
   | cons c r =>
     rw [rightL_cons,Bool.and_eq_true] at hr
     have hp:=(firstU_pos c r).1
     rw [decL_cons,if_pos hr.1,ih _ zu47 hr.2,List.take_append_drop]
end Pl
end

section
namespace Hand
open Go Go.RowKit Pl Pb
def rowAt (T:List UInt8) (p:Nat) (key rest:List UInt8):Bool:=(T[p]? == some 10)&&(lnT T (p+1) == key++32::rest)
def wordAmp:List UInt8:=[97,109,112]
def wordLt:List UInt8:=[108,116]
def wordGt:List UInt8:=[103,116]
def wordQuot:List UInt8:=[113,117,111,116]
def wordNbsp:List UInt8:=[110,98,115,112]
theorem rows_are:(rowAt namesL 9820 (wordAmp++[59]) [50,54]&&(rowAt namesL 9813 wordAmp [50,54]&&(rowAt namesL 19023 (wordLt++[59]) [51,67]&&(rowAt namesL 15791 (wordGt++[59]) [51,69]&&(rowAt namesL 23656 (wordQuot++[59]) [50,50]&&rowAt namesL 20038 (wordNbsp++[59]) [65,48])))))=true:=by kernel_rfl
theorem row_fnd {p:Nat} {key rest:List UInt8} (h:rowAt namesL p key rest=true) (hk:∀ c∈key,c≠10∧c≠32):Fnd namesL key (some rest):=by
 unfold rowAt at h
 rw [Bool.and_eq_true,beq_iff_eq,beq_iff_eq] at h
 obtain ⟨h1,h2⟩:=h
 refine .inl ⟨p+1,.inr ⟨p,rfl,h1⟩,?_,?_⟩
 ·unfold kyT;rw [h2,ky_row hk]
 ·rw [h2];unfold rsL;rw [ky_row hk,List.drop_append,List.drop_eq_nil_of_le zu4,List.nil_append,show key.length+1 - key.length=1 by omega];rfl
theorem fnd_amp:Fnd namesL (wordAmp++[59]) (some [50,54]):=row_fnd (Bool.and_eq_true_iff.1 rows_are).1 zu15
theorem fnd_key {key rest:List UInt8} (h:Fnd namesL key (some rest)):isKey namesL key:=(fnd_rest h).2.2
theorem nameT_of {key rest:List UInt8} (h:Fnd namesL key (some rest)):nameT key=(textB (num1 rest) (num2 rest)).data.toList:=by unfold nameT;rw [rowN_eq h]
theorem nameT_amp:nameT (wordAmp++[59])=[38]:=by rw [nameT_of fnd_amp];decide +kernel
theorem lng_stop {k r:List UInt8} {c:UInt8} (hk:isKey namesL k) (hc:kyC c=false∧c≠59∨k.getLast? = some 59):lngN (k++c::r)=k.length:=by
 have hf:=key_facts hk
 refine lngN_eq ⟨?_,.inr (by rw [List.take_left];exact hk),fun m h1 h2 hm => ?_⟩
 ·have:=hf.le;simp;omega
 ·have hg:=key_facts hm
  have h2':m≤(k++c::r).length:=by omega
  obtain ⟨d,rfl⟩:∃ d,m=k.length+1+d:=⟨m - (k.length+1),zu4⟩
  have e:(k++c::r).take (k.length+1+d)=k++c::r.take d:=by
   rw [List.take_append,List.take_of_length_le zu4,show k.length+1+d - k.length=d+1 by omega,List.take_succ_cons]
  rw [e] at hg
  rcases hc with ⟨h3,h4⟩|h3
  ·
   cases hd:r.take d with
   | nil =>
     rw [hd] at hg
     obtain ⟨x,hx,hx2⟩:=hg.last
     simp at hx
     subst hx
     rcases hx2 with h|h
     ·rw [h3] at h;cases h
     ·exact h4 h
   | cons y t =>
     rw [hd] at hg
     have hmem:c∈(k++c::y::t).dropLast:=by
      rw [List.dropLast_append_of_ne_nil zu19]
      simp
     have:=hg.inner c hmem
     rw [h3] at this;cases this
  ·have hmem:(59:UInt8)∈(k++c::r.take d).dropLast:=by
    rw [List.dropLast_append_of_ne_nil zu19]
    exact List.mem_append_left _ (List.mem_of_getLast? h3)
   have:=hg.inner 59 hmem
   exact absurd this zu15
theorem num_letter {k r:List UInt8} (hk:isKey namesL k):numL (k++r)=none:=by
 have hf:=key_facts hk
 cases k with
 | nil=>exact absurd rfl hf.pos
 | cons c k =>
   have hh:=hf.head
   have h35:c≠35:=by rintro rfl;exact absurd hh (by simp [hdC])
   unfold numL
   rw [if_neg]
   simp [begR,h35]
   have:∀ n:Fin 256,lowB (UInt8.ofNat n.val)=35→UInt8.ofNat n.val=35:=by decide +kernel
   have h:=this ⟨c.toNat,c.toNat_lt⟩
   simp only [UInt8.ofNat_toNat] at h
   exact fun e=>h35 (h e)
theorem refN_semi {attr:Bool} {w:List UInt8} (r:List UInt8) (hk:isKey namesL (w++[59])):refN attr (38::(w++59::r))=(nameT (w++[59]),w.length+2):=by
 have hl:lngN (w++59::r)=w.length+1:=by
  cases r with
  | nil =>
    refine lngN_eq ⟨?_,.inr ?_,fun m h1 h2 _ => ?_⟩
    ·have:=(key_facts hk).le;simp at this ⊢;omega
    ·rw [List.take_of_length_le zu19];exact hk
    ·simp at h2;omega
  | cons c r =>
    have:=lng_stop (c:=c) (r:=r) hk (.inr zu19)
    rw [List.append_assoc] at this
    simpa using this
 have hn:numL (w++59::r)=none:=by
  have:=num_letter (r:=r) hk
  rwa [List.append_assoc] at this
 have ht:(w++59::r).take (w.length+1)=w++[59]:=by
  rw [List.take_append,List.take_of_length_le zu4,show w.length+1 - w.length=1 by omega];rfl
 unfold refN
 rw [List.drop_succ_cons,List.drop_zero,hn,hl,ht]
 simp only
 rw [if_neg,show 1+(w.length+1)=w.length+2 by omega]
 rintro (e|e)
 ·omega
 ·unfold leftL at e
  rw [show Lib.hasSuffix (w++[59]) [59]=true by unfold Lib.hasSuffix;simp] at e
  simp at e
theorem rdL_semi {attr:Bool} {w:List UInt8} (r:List UInt8) (hk:isKey namesL (w++[59])):rdL attr (38::(w++59::r))=nameT (w++[59])++rdL attr r:=by
 rw [rdL_amp,refN_semi r hk]
 simp only
 congr 2
 rw [List.drop_succ_cons,List.drop_append,List.drop_eq_nil_of_le zu4,show w.length+1 - w.length=1 by omega];rfl
end Hand
end

section
namespace Hand
open Go Go.RowKit Pl Pb
theorem dec_amp (attr:Bool) (r:List UInt8):rdL attr (wAmp++r)=38::rdL attr r:=by
 have:=rdL_semi (attr:=attr) (w:=wordAmp) r (fnd_key fnd_amp)
 exact this.trans (by rw [nameT_amp];rfl)
end Hand
end

section
namespace Hand
open Go Go.RowKit Pl Pb
theorem right_asc {x:List UInt8} (h:Asc x):rightL x=true:=by
 have:=right_ascii x h []
 rw [List.append_nil] at this
 exact this
end Hand
end

section
namespace Hand
open Go Go.RowKit Pl Pb Go.Proofs.YtclkdmmgibgamaaGreatDoor.Pure
theorem attrL_62 (L:List AttrT) (x:List UInt8):attrL L (62::x)=some (L,false,x):=by
 rw [attrL_eq,show spL (62::x)=62::x from rfl]
 simp only [if_true]
end Hand
end

section
namespace Hand
open Go Go.RowKit Pl Pb Go.Proofs.YtclkdmmgibgamaaGreatDoor.Pure
structure FlOk (f:Fl):Prop where
 bl:∀ c∈f.bl,c=9∨c=12∨c=32
 no:∀ c∈f.told,c≠0∧c≠13
 hd:∀ c,f.told.head? = some c→isBl c=false
 lst:∀ c,f.told.getLast? = some c→isBl c=false
 right:rightL f.told=true
theorem FlOk.add {f:Fl} (h:FlOk f):∀ c∈flAdd f,c=9∨c=10∨c=12∨c=32:=by
 intro c hc
 unfold flAdd at hc
 split at hc
 ·cases hc
 ·rcases List.mem_append.1 hc with hc|hc
  ·exact .inr (.inl (List.eq_of_mem_replicate hc))
  ·rcases h.bl c hc with e|e|e
   ·exact .inl e
   ·exact .inr (.inr (.inl e))
   ·exact .inr (.inr (.inr e))
end Hand
end

section
namespace Hand
open Go Go.RowKit Pl Pb Go.Proofs.YtclkdmmgibgamaaGreatDoor.Pure
theorem put_app (k:Bool) (f:Fl) (a b:List UInt8):flPut k f (a++b)=flPut k (flPut k f a) b:=List.foldl_append ..
end Hand
end

section
namespace Hand
open Go Go.RowKit K0 Pl Pb Sa St Go.Proofs.YtclkdmmgibgamaaGreatDoor.Pure YtclkdmmgibgamaaGreatDoorW.PrintWords YtclkdmmgibgamaaGreatDoorW.PrintLast YtclkdmmgibgamaaGreatDoorW.PrintMore
theorem byt_conv (t:List UInt8) (W:World):∃ v W',(convert 9 22 (.string (B t))).run Tryz.prog W = .ok v W'∧Below W.heap.size W W'∧Byt t v W':=by
 have hconv:=Lib.run_convert_string_bytes (P:=Tryz.prog) W 9 22 5 (B t) Tryz.underlying9 Tryz.underlying22 Tryz.underlying5
 refine ⟨_,_,hconv,below_bytesWorld W 5 (B t),fun W' hb => ?_⟩
 rw [size_B]
 refine run_convert_bytes_back (P:=Tryz.prog) W' 22 9 5 ⟨W.heap.size,0,none⟩ _ t Tryz.underlying22 Tryz.underlying5 Tryz.underlying9 (fun j hj => ?_)
 have ha:(⟨W.heap.size,0,none⟩:Addr).add j=⟨W.heap.size,j,none⟩:=by unfold Addr.add;split<;>simp_all
 have hc:(Lib.bytesWorld W 5 (B t)).cell? ⟨W.heap.size,j,none⟩=some (.int .u8 (t[j].toNat:Int)):=by
  rw [Lib.bytesWorld_cell W 5 (B t) j (by rw [size_B];exact hj),B_data,List.getD_eq_getElem?_getD,List.getElem?_eq_getElem hj];rfl
 rw [ha]
 exact (hb.cell (World.block_lt_of_cell? _ _ hc)).trans hc
end Hand
end

section
namespace Hand
open Go Go.RowKit K0 Pl Pb Sa St Go.Proofs.YtclkdmmgibgamaaGreatDoor.Pure YtclkdmmgibgamaaGreatDoorW.PrintWords YtclkdmmgibgamaaGreatDoorW.PrintLast YtclkdmmgibgamaaGreatDoorW.PrintMore
abbrev RowU8 (w:World) (a:Option Addr) (len cap:Nat) (z:List Int):Prop :=
 (a=none∧len=0∧cap=0∧z=[])∨∃ x,a=some x∧len≤cap∧cap≤maxLen∧z.length=cap∧(∀ i,i<z.length→w.cell? (x.add i)=some (.int .u8 (z.getD i 0)))∧∀ n∈z,(Lit.int .u8 n).wf=true
end Hand
end

section
namespace Hand
open Go Go.RowKit Pl Pb Go.Proofs.YtclkdmmgibgamaaGreatDoor.Pure
def awA:List UInt8:=[60,112,62,97,32,38,97,109,112,59,32,98,60,47,112,62,60,115,99,114,105,112,116,62,120,60,47,115,99,114,105,112,116,62,99]
theorem awA_norm:normL (decL (trimL awA))=awA:=by decide +kernel
theorem awA_drv:drvL awA=[.start [112] [] false,.text (rdL false [97,32,38,97,109,112,59,32,98]),.fin [112],.start scriptL [] false,.text [120],.fin scriptL,.text (rdL false [99])]:=by kernel_rfl
theorem awA_rd:rdL false [97,32,38,97,109,112,59,32,98]=[97,32,38,32,98]:=by
 rw [rdL_ne _ _ zu15,rdL_ne _ _ zu15]
 have:=dec_amp false [32,98]
 rw [rdL_no false (p:=[32,98]) zu15] at this
 exact congrArg (fun x=>97::32::x) this
theorem awA_ext:extL awA=[97,32,38,32,98,10,10,99]:=by
 unfold extL driveL
 rw [awA_norm,awA_drv,awA_rd,rdL_no false (p:=[99]) zu15]
 decide +kernel
theorem aw0_ext:extL []=[]:=by
 unfold extL
 rw [show normL (decL (trimL []))=[] by decide +kernel]
 unfold driveL
 rw [drvL_nil]
 decide +kernel
end Hand
end

section
namespace Hand
open Go Go.RowKit K0 Pl Pb Sa St Go.Proofs.YtclkdmmgibgamaaGreatDoor.Pure YtclkdmmgibgamaaGreatDoorW.PrintWords YtclkdmmgibgamaaGreatDoorW.PrintLast YtclkdmmgibgamaaGreatDoorW.PrintMore
theorem byt_lit (s:List UInt8) (w:World) (C:Array Value) (hC:C=(s.map fun b=>Value.int .u8 (b.toNat:Int)).toArray) (f:Nat×Nat) (c:Nat) :
  Byt s (.slice (some ⟨w.heap.size,0,none⟩) s.length c) (w.alloc (.cells C 5 f)):=fun W hb=>by
 refine run_convert_bytes_back (P:=Tryz.prog) W 22 9 5 ⟨w.heap.size,0,none⟩ _ s Tryz.underlying22 Tryz.underlying5 Tryz.underlying9 (fun j hj => ?_)
 have ha:(⟨w.heap.size,0,none⟩:Addr).add j=⟨w.heap.size,j,none⟩:=by unfold Addr.add;split<;>simp_all
 have hc:(w.alloc (.cells C 5 f)).cell? ⟨w.heap.size,j,none⟩=some (.int .u8 (s[j].toNat:Int)):=by
  subst hC
  have h1:(w.heap.push (.cells (s.map fun b=>Value.int .u8 (b.toNat:Int)).toArray 5 f))[w.heap.size]? = some (.cells (s.map fun b=>Value.int .u8 (b.toNat:Int)).toArray 5 f):=by simp
  have h2:(w.alloc (.cells (s.map fun b=>Value.int .u8 (b.toNat:Int)).toArray 5 f)).heap[w.heap.size]? = some (.cells (s.map fun b=>Value.int .u8 (b.toNat:Int)).toArray 5 f):=h1
  unfold World.cell?
  simp only [h2,Option.bind_some]
  simp [hj]
 rw [ha]
 exact (hb.cell (World.block_lt_of_cell? _ _ hc)).trans hc
theorem byt_nil (w:World):Byt [] (.slice none 0 0) w:=fun W _=>run_convert_bytes_nil (P:=Tryz.prog) W 22 5 Tryz.underlying22 Tryz.underlying5 0 0 9 Tryz.underlying9
theorem awake20_c (w:World) (hG:Glob w):Calls Tryz.prog 29 #[] w fun e w'=>e = .returned (.bool true)∧Below w.heap.size w w':=by
 have kc:=fun (w:World) (C:Array Value) (n c:Nat)=>Lib.run_convert_bytes_const (P:=Tryz.prog) w 22 5 C n c Tryz.underlying22 Tryz.underlying5
 have C1:Hid (∀ W v,Glob W→Byt awA v W→Calls Tryz.prog 15 #[v] W fun e w'=>e = .returned (.string ⟨#[97,32,38,32,98,10,10,99]⟩)∧Below W.heap.size W w'):=Lib.hid (fun W v hG hv=>by
  have:=extract_c awA v zu15 W hG hv
  rwa [awA_ext] at this)
 have C2:Hid (∀ W,Glob W→Calls Tryz.prog 15 #[.slice none 0 0] W fun e w'=>e = .returned (.string ⟨#[]⟩)∧Below W.heap.size W w'):=Lib.hid (fun W hG=>by
  have:=extract_c [] _ zu15 W hG (byt_nil W)
  rwa [aw0_ext] at this)
 have HG:=Lib.hid hG
 clear hG
 go_enter Tryz.func29,Tryz.ntmps29
 go_wp2_with fail
 have hb0:=below_alloc (Below.refl w.heap.size w) (.cells (awA.map fun b=>Value.int .u8 (b.toNat:Int)).toArray 5 (35,36))
 refine (C1.out _ _ (HG.out.step hb0) (byt_lit awA w _ rfl _ _)).mono ?_
 rintro e w1 ⟨rfl,hb⟩
 have HB:=Lib.hid (hb0.trans (hb.mono hb0.size))
 clear hb hb0
 go_wp2_with fail
 refine (C2.out _ (HG.out.step HB.out)).mono ?_
 rintro e w2 ⟨rfl,hb⟩
 replace HB:=Lib.hid (HB.out.trans (hb.mono HB.out.size))
 clear hb
 go_wp2_with fail
 go_ret
 exact ⟨rfl,HB.out⟩
end Hand
end

section
namespace Hand
open Go Go.RowKit Pl Pb Go.Proofs.YtclkdmmgibgamaaGreatDoor.Pure
theorem pgText_nil (p:Pg):pgText p []=p:=by
 unfold pgText
 split
 ·rename_i h;cases p;rfl
 ·rfl
theorem pgText_app (p:Pg) (a b:List UInt8):pgText (pgText p a) b=pgText p (a++b):=by
 unfold pgText
 by_cases h:p.op=[]
 ·rw [if_pos h,if_pos h,if_pos h,put_app]
 ·rw [if_neg h,if_neg h,if_neg h]
theorem render_cons (p:Pg) (t:Tk) (l:List Tk):renderP p (t::l)=renderP (pgTok p t) l:=rfl
theorem render_app (p:Pg) (a b:List Tk):renderP p (a++b)=renderP (renderP p a) b:=List.foldl_append ..
theorem render_txt (p:Pg) (s:List UInt8):renderP p (txtT s)=pgText p s:=by
 unfold txtT
 split
 ·rename_i h;rw [h,pgText_nil];rfl
 ·rfl
theorem render_join:∀ (l:List Tk) (p:Pg),renderP p (joinL l)=renderP p l:=by
 intro l
 induction l with
 | nil=>intro p;rfl
 | cons t r ih =>
   intro p
   cases ht:isTx t with
   | false=>rw [joinL_no r ht,render_cons,render_cons,ih]
   | true =>
     obtain ⟨s,rfl⟩:∃ s,t = .text s:=by cases t<;>first|exact ⟨_,rfl⟩|cases ht
     have h:=ih (pgText p s)
     rw [joinL,render_cons]
     show _=renderP (pgText p s) r
     rw [← h]
     split
     ·rename_i v r2 he
      rw [he,render_cons,render_cons]
      show renderP (pgText p (s++v)) r2=renderP (pgText (pgText p s) v) r2
      rw [pgText_app]
     ·rw [render_app,render_txt]
noncomputable def rnP (p:Pg) (l:List UInt8):Pg:=renderP p (drvL l)
theorem ext_rn (s:List UInt8):extL s=(rnP pg0 (normL (decL (trimL s)))).fl.told:=by
 unfold extL rnP renderL driveL
 rw [render_join]
theorem rn_nil (p:Pg):rnP p []=p:=rfl
theorem rn_text (p:Pg) {s r:List UInt8} (h:(60:UInt8)∉s) (hr:txN r=0):rnP p (s++r)=rnP (pgText p (rdL false s)) r:=by
 by_cases hs:s=[]
 ·subst hs;rw [rdL_nil,pgText_nil];rfl
 ·unfold rnP;rw [drvL_text hs h hr];rfl
theorem txN_beg {l:List UInt8} (h:begM l=true):txN l=0:=by
 cases l with
 | nil=>rfl
 | cons c r=>rw [txN,if_pos h]
theorem rn_end (p:Pg) {s:List UInt8} (h:(60:UInt8)∉s):rnP p s=pgText p (rdL false s):=by
 have:=rn_text p (r:=[]) h rfl
 rwa [List.append_nil] at this
theorem dw_name {n x:List UInt8} (hn:n.all stC=true) (hx:∀ d y,x=d::y→stC d=false):(n++x).dropWhile stC=x∧(n++x).takeWhile stC=n:=by
 induction n with
 | nil =>
   cases x with
   | nil=>exact ⟨rfl,rfl⟩
   | cons d y =>
     have:=hx d y rfl
     exact ⟨by rw [List.nil_append,List.dropWhile_cons,this];rfl,by rw [List.nil_append,List.takeWhile_cons,this];rfl⟩
 | cons c q ih =>
   rw [List.all_cons,Bool.and_eq_true] at hn
   obtain ⟨h1,h2⟩:=ih hn.2
   exact ⟨by rw [List.cons_append,List.dropWhile_cons,hn.1];exact h1,by rw [List.cons_append,List.takeWhile_cons,hn.1];exact congrArg _ h2⟩
structure Nm (n:List UInt8):Prop where
 let1:∃ c q,n=c::q∧isLetB c=true
 all:n.all stC=true
theorem tagN_open {n x:List UInt8} (h:Nm n):tagN (60::(n++x))=1:=by
 obtain ⟨c,q,rfl,hc⟩:=h.let1
 show tagN (60::c::(q++x))=1
 unfold tagN
 simp [hc]
theorem tagN_close {n x:List UInt8} (h:Nm n):tagN (60::47::(n++x))=2:=by
 obtain ⟨c,q,rfl,hc⟩:=h.let1
 show tagN (60::47::c::(q++x))=2
 unfold tagN
 simp [hc,show isLetB 47=false by decide]
theorem begX_open {n x:List UInt8} (h:Nm n):begM (60::(n++x))=true:=by unfold begM;rw [tagN_open h];rfl
theorem begX_close {n x:List UInt8} (h:Nm n):begM (60::47::(n++x))=true:=by unfold begM;rw [tagN_close h];rfl
def Stp (x:List UInt8):Prop := ∀ d y,x=d::y→stC d=false
theorem tokL_open {n x:List UInt8} (h:Nm n) (hx:Stp x) {al:List AttrT} {self:Bool} {r:List UInt8} (ha:attrL [] x=some (al,self,r)):tokL (60::(n++x))=(some (.start (cleanL (lowL n)) al self),r):=by
 obtain ⟨d1,d2⟩:=dw_name h.all hx
 unfold tokL
 rw [if_pos (by rw [tagN_open h];decide)]
 unfold tagL
 rw [tagN_open h,show (60::(n++x)).drop 1=n++x from rfl,d1,ha]
 simp only
 rw [if_neg zu15]
 unfold nameL
 rw [d2]
theorem tagR_close {n x:List UInt8} (h:Nm n) (hx:Stp x) {al:List AttrT} {self:Bool} {r:List UInt8} (ha:attrL [] x=some (al,self,r)):tagR (60::47::(n++x))=(some (.fin (cleanL (lowL n))),r)∧tokL (60::47::(n++x))=(some (.fin (cleanL (lowL n))),r):=by
 obtain ⟨d1,d2⟩:=dw_name h.all hx
 have e:tagL (60::47::(n++x))=(some (.fin (cleanL (lowL n))),r):=by
  unfold tagL
  rw [tagN_close h,show (60::47::(n++x)).drop 2=n++x from rfl,d1,ha]
  simp only
  rw [if_pos True.intro]
  unfold nameL
  rw [d2]
 refine ⟨?_,?_⟩
 ·unfold tagR;rw [if_neg (by rw [tagN_close h];decide),e]
 ·unfold tokL;rw [if_pos (by rw [tagN_close h];decide),e]
theorem rn_open (p:Pg) {n x:List UInt8} (h:Nm n) (hx:Stp x) {al:List AttrT} {self:Bool} {r:List UInt8} (ha:attrL [] x=some (al,self,r)) (hs:stateN (cleanL (lowL n))=0):rnP p (60::(n++x))=rnP (pgStart p (cleanL (lowL n))) r:=by
 unfold rnP
 rw [drvL_eq zu19,tokL_open h hx ha]
 unfold drv1
 simp only
 rw [hs]
 rfl
theorem rn_close (p:Pg) {n x:List UInt8} (h:Nm n) (hx:Stp x) {al:List AttrT} {self:Bool} {r:List UInt8} (ha:attrL [] x=some (al,self,r)):rnP p (60::47::(n++x))=rnP (pgEnd p (cleanL (lowL n))) r:=by
 unfold rnP
 rw [drvL_eq zu19,(tagR_close h hx ha).2]
 rfl
theorem attr_end (x:List UInt8):attrL [] (62::x)=some ([],false,x):=attrL_62 [] x
theorem stp_end (x:List UInt8):Stp (62::x):=fun d y e=>by rw [← (List.cons.inj e).1];decide
theorem attr_self (x:List UInt8):attrL [] (47::62::x)=some ([],true,x):=by
 rw [attrL_eq,show spL (47::62::x)=47::62::x from rfl]
 simp
theorem stp_self (x:List UInt8):Stp (47::x):=fun d y e=>by rw [← (List.cons.inj e).1];decide
theorem put_word:∀ (x:List UInt8) (f:Fl),x≠[]→(∀ c∈x,c≠0∧isBl c=false)→flPut false f x=⟨f.told++flAdd f++x,0,[]⟩:=by
 intro x
 induction x with
 | nil=>intro f h;exact absurd rfl h
 | cons c r ih =>
   intro f _ hc
   obtain ⟨h0,hb⟩:=hc c zu19
   have e:flPut false f (c::r)=flPut false (flWord f c) r:=by
    show flPut false (flByte false f c) r=_
    unfold flByte
    rw [if_neg h0,if_neg (by rw [hb];decide)]
   rw [e]
   by_cases hr:r=[]
   ·subst hr;unfold flWord;rfl
   ·rw [ih _ hr (fun d hd=>hc d (List.mem_cons_of_mem _ hd))]
    have hne:flAdd (flWord f c)=[]:=by unfold flAdd;split<;>rfl
    rw [hne]
    unfold flWord
    simp
theorem asc_mark {s:List UInt8} (h:Asc s):trimL s=s∧decL s=s:=by
 refine ⟨?_,decL_right _ _ (Nat.le_refl _) (right_asc h)⟩
 unfold trimL
 rw [if_neg]
 intro e
 cases s with
 | nil=>cases e
 | cons c r =>
   have h1:=h c zu19
   have h2:c=239:=by
    rw [List.isPrefixOf_iff_prefix] at e
    obtain ⟨t,ht⟩:=e
    exact (List.cons.inj ht).1.symm
   rw [h2] at h1
   exact absurd h1 zu15
end Hand
end

section
namespace Hand
open Go Go.RowKit Pl Pb Go.Proofs.YtclkdmmgibgamaaGreatDoor.Pure
theorem pgLines_told (f:Fl) (n:List UInt8):(pgLines f n).told=f.told:=by
 unfold pgLines
 dsimp only
 split<;>split<;>rfl
theorem pgEnd_told (p:Pg) (n:List UInt8):(pgEnd p n).fl.told=p.fl.told:=by
 unfold pgEnd
 split
 ·rfl
 ·split
  ·exact pgLines_told _ _
  ·rfl
def nmP:List UInt8:=[112]
def nmDiv:List UInt8:=[100,105,118]
def nmBo:List UInt8:=[98]
theorem low_p:cleanL (lowL nmP)=nmP:=by decide
theorem low_div:cleanL (lowL nmDiv)=nmDiv:=by decide
theorem low_b:cleanL (lowL nmBo)=nmBo:=by decide
theorem low_br:cleanL (lowL nmBr)=nmBr:=by decide
theorem nm_p:Nm nmP:=⟨⟨112,[],rfl,zu15⟩,zu15⟩
theorem nm_div:Nm nmDiv:=⟨⟨100,[105,118],rfl,zu15⟩,zu15⟩
theorem nm_b:Nm nmBo:=⟨⟨98,[],rfl,zu15⟩,zu15⟩
theorem nm_br:Nm nmBr:=⟨⟨98,[114],rfl,zu15⟩,zu15⟩
theorem rn_tag (p:Pg) {n:List UInt8} (h:Nm n) (hl:cleanL (lowL n)=n) (hs:stateN n=0) (r:List UInt8):rnP p (60::(n++62::r))=rnP (pgStart p n) r:=by
 have:=rn_open p h (stp_end r) (attr_end r) (by rw [hl];exact hs)
 rwa [hl] at this
theorem rn_fin (p:Pg) {n:List UInt8} (h:Nm n) (hl:cleanL (lowL n)=n) (r:List UInt8):rnP p (60::47::(n++62::r))=rnP (pgEnd p n) r:=by
 have:=rn_close p h (stp_end r) (attr_end r)
 rwa [hl] at this
theorem start_line (f:Fl) {n:List UInt8} (h1:n≠nmBody) (h2:hidesB n=false) (h3:keepsB n=false):pgStart ⟨f,[],0⟩ n=⟨pgLines f n,[],0⟩:=by
 unfold pgStart
 simp only [if_neg h1,h2,h3]
 rfl
theorem end_line (f:Fl) {n:List UInt8} (h3:keepsB n=false):pgEnd ⟨f,[],0⟩ n=⟨pgLines f n,[],0⟩:=by
 unfold pgEnd
 simp only [lastIx,h3]
 rfl
theorem text_word (f:Fl) {x:List UInt8} (hx:x≠[]) (h:∀ c∈x,c≠0∧isBl c=false):pgText ⟨f,[],0⟩ x=⟨⟨f.told++flAdd f++x,0,[]⟩,[],0⟩:=by
 unfold pgText
 rw [if_pos rfl]
 show (⟨flPut (decide (0<0)) f x,[],0⟩:Pg)=_
 rw [show decide (0<0)=false from rfl,put_word x f hx h]
def Low (x:List UInt8):Prop := ∀ c∈x,97≤c.toNat∧c.toNat≤122
theorem Low.ne {x:List UInt8} (h:Low x) {d:UInt8} (hd:d.toNat<97):d∉x:=fun m=>by have:=(h d m).1;omega
theorem Low.word {x:List UInt8} (h:Low x):∀ c∈x,c≠0∧isBl c=false:=fun c hc=>by
 have h1:=(h c hc).1
 refine ⟨fun e=>by rw [e] at h1;exact absurd h1 zu15,?_⟩
 unfold isBl
 have n:∀ d:UInt8,d.toNat<97→(c == d)=false:=fun d hd=>beq_eq_false_iff_ne.2 fun e=>by rw [e] at h1;omega
 rw [n 9 zu15,n 10 zu15,n 12 zu15,n 13 zu15,n 32 zu15]
 rfl
theorem Low.asc {x:List UInt8} (h:Low x):Asc x:=fun c hc=>by have:=(h c hc).2;omega
theorem Low.rd {x:List UInt8} (h:Low x):rdL false x=x:=rdL_no false (h.ne zu15)
theorem asc_cons {c:UInt8} {x:List UInt8} (hc:c.toNat<128) (h:Asc x):Asc (c::x):=fun d hd=>by
 rcases List.mem_cons.1 hd with e|e
 ·rw [e];exact hc
 ·exact h d e
theorem asc_app {a b:List UInt8} (ha:Asc a) (hb:Asc b):Asc (a++b):=fun d hd=>by
 rcases List.mem_append.1 hd with e|e
 ·exact ha d e
 ·exact hb d e
theorem asc_of {l:List UInt8} (h:l.all (fun c=>decide (c.toNat<128))=true):Asc l:=fun c hc=>of_decide_eq_true (List.all_eq_true.1 h c hc)
theorem ext_asc {s:List UInt8} (ha:Asc s) (h:(13:UInt8)∉s):extL s=(rnP pg0 s).fl.told:=by
 obtain ⟨h1,h2⟩:=asc_mark ha
 rw [ext_rn,h1,h2,normL_of_no13 h]
theorem br_lines (f:Fl):pgLines f nmBr=flLine f:=by
 unfold pgLines
 rw [if_pos rfl,if_pos zu15]
theorem lines_of (f:Fl) {n:List UInt8} (h:n≠nmBr) (k:Nat) (hk:linesN n=k) (h0:k≠0):pgLines f n=flBreak f k:=by
 unfold pgLines
 rw [if_neg h,hk,if_neg h0]
theorem lines_no (f:Fl) {n:List UInt8} (h:n≠nmBr) (hk:linesN n=0):pgLines f n=f:=by
 unfold pgLines
 rw [if_neg h,hk,if_pos rfl]
theorem add_of (t:List UInt8) (ht:t≠[]) (e:Nat):flAdd ⟨t,e,[]⟩=List.replicate e 10:=by
 unfold flAdd;rw [if_neg ht];simp
theorem add_nil (e:Nat) (b:List UInt8):flAdd ⟨[],e,b⟩=[]:=by unfold flAdd;rw [if_pos rfl]
theorem blk_p {x y:List UInt8} (hx:Low x) (hy:Low y) (nx:x≠[]) (ny:y≠[]):extL (60::(nmP++62::(x++60::(nmP++62::(y++60::47::(nmP++62::[]))))))=x++[10,10]++y:=by
 have h2:linesN nmP=2:=by decide
 have l2:=fun f=>lines_of f (n:=nmP) zu15 2 h2 zu15
 have st:=fun f=>start_line f (n:=nmP) zu15 zu15 zu15
 rw [ext_asc,rn_tag _ nm_p low_p zu15,rn_text _ (hx.ne zu15) (txN_beg (begX_open nm_p)),hx.rd,rn_tag _ nm_p low_p zu15,rn_text _ (hy.ne zu15) (txN_beg (begX_close nm_p)),hy.rd,rn_fin _ nm_p low_p,rn_nil,pgEnd_told]
 ·unfold pg0
  rw [st,l2,text_word _ nx hx.word,st,l2,text_word _ ny hy.word]
  show ([]++flAdd ⟨[],_,[]⟩++x)++flAdd ⟨[]++flAdd ⟨[],_,[]⟩++x,_,[]⟩++y=_
  rw [add_nil,List.nil_append,List.nil_append,add_of _ nx]
  rfl
 ·exact asc_cons zu15 (asc_app (asc_of zu15) (asc_cons zu15 (asc_app hx.asc (asc_cons zu15 (asc_app (asc_of zu15) (asc_cons zu15 (asc_app hy.asc (asc_of zu15))))))))
 ·have a:=hx.ne (d:=13) zu15
  have b:=hy.ne (d:=13) zu15
  simp [nmP,a,b]
theorem blk_d {x y:List UInt8} (hx:Low x) (hy:Low y) (nx:x≠[]) (ny:y≠[]):extL (60::(nmDiv++62::(x++60::47::(nmDiv++62::([10]++60::(nmDiv++62::y))))))=x++[10]++y:=by
 have h2:linesN nmDiv=1:=by decide
 have l2:=fun f=>lines_of f (n:=nmDiv) zu15 1 h2 zu15
 have st:=fun f=>start_line f (n:=nmDiv) zu15 zu15 zu15
 have en:=fun f=>end_line f (n:=nmDiv) zu15
 rw [ext_asc,rn_tag _ nm_div low_div zu15,rn_text _ (hx.ne zu15) (txN_beg (begX_close nm_div)),hx.rd,rn_fin _ nm_div low_div,rn_text _ zu15 (txN_beg (begX_open nm_div)),rn_tag _ nm_div low_div zu15,rn_end _ (hy.ne zu15),hy.rd]
 ·unfold pg0
  rw [st,l2,text_word _ nx hx.word,en,l2,show rdL false [10]=[10] from rdL_no false zu15]
  have e:pgText ⟨flBreak ⟨(flBreak ⟨[],0,[]⟩ 1).told++flAdd (flBreak ⟨[],0,[]⟩ 1)++x,0,[]⟩ 1,[],0⟩ [10]=⟨⟨x,1,[]⟩,[],0⟩:=by
   show (⟨flPut false _ [10],[],0⟩:Pg)=_
   show (⟨⟨([]++flAdd ⟨[],1,[]⟩++x),1,[]⟩,[],0⟩:Pg)=_
   rw [add_nil,List.nil_append,List.nil_append]
  rw [e,st,l2,text_word _ ny hy.word]
  show x++flAdd ⟨x,1,[]⟩++y=_
  rw [add_of _ nx]
  rfl
 ·exact asc_cons zu15 (asc_app (asc_of zu15) (asc_cons zu15 (asc_app hx.asc (asc_cons zu15 (asc_cons zu15 (asc_app (asc_of zu15) (asc_cons zu15 (asc_app (asc_of zu15) (asc_cons zu15 (asc_app (asc_of zu15) (asc_cons zu15 hy.asc)))))))))))
 ·have a:=hx.ne (d:=13) zu15
  have b:=hy.ne (d:=13) zu15
  simp [nmDiv,a,b]
theorem blk_i {x y:List UInt8} (hx:Low x) (hy:Low y) (nx:x≠[]) (ny:y≠[]):extL (60::(nmBo++62::(x++60::47::(nmBo++62::y))))=x++y:=by
 have h2:linesN nmBo=0:=by decide
 have l2:=fun f=>lines_no f (n:=nmBo) zu15 h2
 have st:=fun f=>start_line f (n:=nmBo) zu15 zu15 zu15
 have en:=fun f=>end_line f (n:=nmBo) zu15
 rw [ext_asc,rn_tag _ nm_b low_b zu15,rn_text _ (hx.ne zu15) (txN_beg (begX_close nm_b)),hx.rd,rn_fin _ nm_b low_b,rn_end _ (hy.ne zu15),hy.rd]
 ·unfold pg0
  rw [st,l2,text_word _ nx hx.word,en,l2,text_word _ ny hy.word]
  show ([]++flAdd ⟨[],_,[]⟩++x)++flAdd ⟨[]++flAdd ⟨[],_,[]⟩++x,0,[]⟩++y=_
  rw [add_nil,List.nil_append,List.nil_append,add_of _ nx]
  simp
 ·exact asc_cons zu15 (asc_app (asc_of zu15) (asc_cons zu15 (asc_app hx.asc (asc_cons zu15 (asc_cons zu15 (asc_app (asc_of zu15) (asc_cons zu15 hy.asc)))))))
 ·have a:=hx.ne (d:=13) zu15
  have b:=hy.ne (d:=13) zu15
  simp [nmBo,a,b]
theorem rn_self (p:Pg) {n:List UInt8} (h:Nm n) (hl:cleanL (lowL n)=n) (hs:stateN n=0) (r:List UInt8):rnP p (60::(n++47::62::r))=rnP (pgStart p n) r:=by
 have:=rn_open p h (stp_self (62::r)) (attr_self r) (by rw [hl];exact hs)
 rwa [hl] at this
theorem blk_r {x y:List UInt8} (hx:Low x) (hy:Low y) (nx:x≠[]) (ny:y≠[]):extL (x++60::(nmBr++62::(60::(nmBr++47::62::y))))=x++[10,10]++y:=by
 have st:=fun f=>start_line f (n:=nmBr) zu15 zu15 zu15
 rw [ext_asc,rn_text _ (hx.ne zu15) (txN_beg (begX_open nm_br)),hx.rd,rn_tag _ nm_br low_br zu15,rn_self _ nm_br low_br zu15,rn_end _ (hy.ne zu15),hy.rd]
 ·unfold pg0
  rw [text_word _ nx hx.word,st,br_lines,st,br_lines,text_word _ ny hy.word]
  show ([]++flAdd ⟨[],0,[]⟩++x)++flAdd ⟨[]++flAdd ⟨[],0,[]⟩++x,0+1+1,[]⟩++y=_
  rw [add_nil,List.nil_append,List.nil_append,add_of _ nx]
  rfl
 ·exact asc_app hx.asc (asc_cons zu15 (asc_app (asc_of zu15) (asc_cons zu15 (asc_cons zu15 (asc_app (asc_of zu15) (asc_cons zu15 (asc_cons zu15 hy.asc)))))))
 ·have a:=hx.ne (d:=13) zu15
  have b:=hy.ne (d:=13) zu15
  simp [nmBr,a,b]
end Hand
end

section
namespace Hand
open Go Go.RowKit K0 Pl Pb Sa St Go.Proofs.YtclkdmmgibgamaaGreatDoor.Pure YtclkdmmgibgamaaGreatDoorW.PrintWords YtclkdmmgibgamaaGreatDoorW.PrintLast YtclkdmmgibgamaaGreatDoorW.PrintMore
def lowU (d:Int):UInt8:=UInt8.ofNat (97+(d % 26).toNat)
def lowB (l:List Int):List UInt8:=l.map lowU
theorem lowU_val (d:Int):((lowU d).toNat:Int)=97+d % 26:=by
 unfold lowU
 rw [UInt8.toNat_ofNat']
 omega
theorem lowB_low (l:List Int):Low (lowB l):=fun c hc=>by
 obtain ⟨d,_,rfl⟩:=List.mem_map.1 hc
 have:=lowU_val d
 omega
theorem lowB_len (l:List Int):(lowB l).length=l.length:=List.length_map ..
theorem lowB_take (l:List Int) (i:Nat) (h:i<l.length):lowB (l.take (i+1))=lowB (l.take i)++[lowU l[i]]:=by
 unfold lowB
 rw [List.take_succ_eq_append_getElem h,List.map_append];rfl
theorem u8_wrap {r:Int} (h0:0≤r) (h1:r<256):IntKind.u8.wrap r=r:=by
 unfold IntKind.wrap
 simp [IntKind.signed,IntKind.bits]
 omega
theorem low_num {d:Int} (h:0≤d):∃ q v,d.tmod 26=q∧IntKind.u8.wrap q=q∧(97+q)=v∧IntKind.u8.wrap v=v∧97+d % 26=v:=by
 have h1:(0:Int)≤d % 26:=Int.emod_nonneg _ zu15
 have h2:d % 26<26:=Int.emod_lt_of_pos _ zu15
 refine ⟨d % 26,_,Int.tmod_eq_emod_of_nonneg h,u8_wrap h1 zu4,rfl,u8_wrap zu4 zu4,rfl⟩
theorem one_byt (c:UInt8) (v:Int) (hv:v=(c.toNat:Int)) (W:World):(convert 22 9 (.slice (some ⟨W.heap.size,0,none⟩) 1 1)).run Tryz.prog (W.alloc (.cells #[.int .u8 v] 5)) = .ok (.string (B [c])) (W.alloc (.cells #[.int .u8 v] 5)):=by
 subst hv
 exact byt_lit [c] W #[.int .u8 (c.toNat:Int)] rfl (0,0) 1 _ (Below.refl _ _)
theorem blk_big (a0:Option Addr) (n0 cap0:Nat) (a1:Option Addr) (n1 cap1:Nat) (w:World) (hGl:Glob w) (h:100<n0∨100<n1∨n0=0∨n1=0) :
  Calls Tryz.prog 11 #[.slice a0 n0 cap0,.slice a1 n1 cap1] w fun e w'=>e = .returned (.bool true)∧Below w.heap.size w w':=by
 have AW:=Lib.hid (fun W hG=>awake20_c W hG)
 have HG:=Lib.hid hGl
 clear hGl
 by_cases c1:100<n0
 ·have q1:decide (100<n0)=true:=decide_eq_true c1
  have q1':decide ((100:Int)<(n0:Int))=true:=decide_eq_true zu4
  clear c1 h
  go_enter Tryz.func11,Tryz.ntmps11
  go_wp2_with fail
  refine (AW.out _ HG.out).mono ?_
  rintro e w1 ⟨rfl,hb⟩
  go_wp2_with fail
  go_ret
  exact ⟨rfl,hb⟩
 have q1:decide (100<n0)=false:=decide_eq_false c1
 have q1':decide ((100:Int)<(n0:Int))=false:=decide_eq_false zu4
 by_cases c2:100<n1
 ·have q2:decide (100<n1)=true:=decide_eq_true c2
  have q2':decide ((100:Int)<(n1:Int))=true:=decide_eq_true zu4
  clear c1 c2 h
  go_enter Tryz.func11,Tryz.ntmps11
  go_wp2_with fail
  refine (AW.out _ HG.out).mono ?_
  rintro e w1 ⟨rfl,hb⟩
  go_wp2_with fail
  go_ret
  exact ⟨rfl,hb⟩
 have q2:decide (100<n1)=false:=decide_eq_false c2
 have q2':decide ((100:Int)<(n1:Int))=false:=decide_eq_false zu4
 by_cases c3:n0=0
 ·subst c3
  clear c1 c2 h
  go_enter Tryz.func11,Tryz.ntmps11
  go_wp2_with fail
  refine (AW.out _ HG.out).mono ?_
  rintro e w1 ⟨rfl,hb⟩
  go_wp2_with fail
  go_ret
  exact ⟨rfl,hb⟩
 obtain rfl:n1=0:=by omega
 have q3:((n0:Int) == 0)=false:=beq_eq_false_iff_ne.mpr zu4
 have q3':(n0 == 0)=false:=beq_eq_false_iff_ne.mpr zu4
 clear c1 c2 h
 go_enter Tryz.func11,Tryz.ntmps11
 go_wp2_with fail
 refine (AW.out _ HG.out).mono ?_
 rintro e w1 ⟨rfl,hb⟩
 go_wp2_with fail
 go_ret
 exact ⟨rfl,hb⟩
def bkP (x y:List UInt8):List UInt8:=60::(nmP++62::(x++60::(nmP++62::(y++60::47::(nmP++62::[])))))
def bkD (x y:List UInt8):List UInt8:=60::(nmDiv++62::(x++60::47::(nmDiv++62::([10]++60::(nmDiv++62::y)))))
def bkI (x y:List UInt8):List UInt8:=60::(nmBo++62::(x++60::47::(nmBo++62::y)))
def bkR (x y:List UInt8):List UInt8:=x++60::(nmBr++62::(60::(nmBr++47::62::y)))
theorem bkP_B (x y:List UInt8):B (bkP x y)=⟨#[60,112,62]⟩++B x++⟨#[60,112,62]⟩++B y++⟨#[60,47,112,62]⟩:=by
 rw [show bkP x y=((([60,112,62]++x)++[60,112,62])++y)++[60,47,112,62] by simp [bkP,nmP],← B_append,← B_append,← B_append,← B_append];rfl
theorem bkD_B (x y:List UInt8):B (bkD x y)=⟨#[60,100,105,118,62]⟩++B x++⟨#[60,47,100,105,118,62,10,60,100,105,118,62]⟩++B y:=by
 rw [show bkD x y=(([60,100,105,118,62]++x)++[60,47,100,105,118,62,10,60,100,105,118,62])++y by simp [bkD,nmDiv],← B_append,← B_append,← B_append];rfl
theorem bkI_B (x y:List UInt8):B (bkI x y)=⟨#[60,98,62]⟩++B x++⟨#[60,47,98,62]⟩++B y:=by
 rw [show bkI x y=(([60,98,62]++x)++[60,47,98,62])++y by simp [bkI,nmBo],← B_append,← B_append,← B_append];rfl
theorem bkR_B (x y:List UInt8):B (bkR x y)=B x++⟨#[60,98,114,62,60,98,114,47,62]⟩++B y:=by
 rw [show bkR x y=(x++[60,98,114,62,60,98,114,47,62])++y by simp [bkR,nmBr],← B_append,← B_append];rfl
theorem blk_ext {t r:List UInt8} {T R:ByteArray} (hl:t.length≤1000) (hT:B t=T) (hR:B r=R) (he:extL t=r) :
  (∀ W,∃ v W',(convert 9 22 (.string T)).run Tryz.prog W = .ok v W'∧Below W.heap.size W W'∧Byt t v W') ∧
  ∀ W v,Glob W→Byt t v W→Calls Tryz.prog 15 #[v] W fun e w'=>e = .returned (.string R)∧Below W.heap.size W w':=by
 subst hT hR he
 exact ⟨fun W=>byt_conv t W,fun W v hG hv=>extract_c t v zu4 W hG hv⟩
theorem row_at {w:World} {a:Option Addr} {len cap:Nat} {z:List Int} (h:RowU8 w a len cap z) (i:Nat) (hi:i<len):i<z.length∧∃ x,a=some x∧w.cell? (x.add i)=some (.int .u8 (z.getD i 0))∧0≤z.getD i 0∧z.getD i 0≤255:=by
 rcases h with ⟨_,h0,_⟩|⟨x,hx,h1,_,h2,h3,h4⟩
 ·omega
 ·have hz:i<z.length:=by omega
  have hw:=h4 (z.getD i 0) (by rw [List.getD_eq_getElem?_getD,List.getElem?_eq_getElem hz];exact List.getElem_mem hz)
  have hw':IntKind.u8.min≤z.getD i 0∧z.getD i 0≤IntKind.u8.max:=by simpa [Lit.wf] using hw
  exact ⟨hz,x,hx,h3 i hz,Int.le_trans zu15 hw'.1,Int.le_trans hw'.2 zu15⟩
theorem row_len {w:World} {a:Option Addr} {len cap:Nat} {z:List Int} (h:RowU8 w a len cap z):len≤z.length:=by
 rcases h with ⟨_,h0,_⟩|⟨x,hx,h1,_,h2,h3,h4⟩<;>omega
theorem ExtractBlocks_law (a0:Option Addr) (len0 cap0:Nat) (z0:List Int) (a1:Option Addr) (len1 cap1:Nat) (z1:List Int) (w:World) (w0:RowU8 w a0 len0 cap0 z0) (_:len0*1≤140737488351232) (w1:RowU8 w a1 len1 cap1 z1) (_:len1*1≤140737488351232) (hGl:Glob w) :
  Calls Tryz.prog 11 #[.slice a0 len0 cap0,.slice a1 len1 cap1] w fun e w'=>e = .returned (.bool true)∧Below w.heap.size w w':=by
 by_cases hbig:100<len0∨100<len1∨len0=0∨len1=0
 ·exact blk_big a0 len0 cap0 a1 len1 cap1 w hGl hbig
 have q1:decide (100<len0)=false:=decide_eq_false zu4
 have q1':decide ((100:Int)<(len0:Int))=false:=decide_eq_false zu4
 have q2:decide (100<len1)=false:=decide_eq_false zu4
 have q2':decide ((100:Int)<(len1:Int))=false:=decide_eq_false zu4
 have q3:((len0:Int) == 0)=false:=beq_eq_false_iff_ne.mpr zu4
 have q3':(len0 == 0)=false:=beq_eq_false_iff_ne.mpr zu4
 have q4:((len1:Int) == 0)=false:=beq_eq_false_iff_ne.mpr zu4
 have q4':(len1 == 0)=false:=beq_eq_false_iff_ne.mpr zu4
 have AW:=Lib.hid (fun W hG=>awake20_c W hG)
 have HG:=Lib.hid hGl
 have R0:=Lib.hid (fun i hi=>row_at w0 i hi)
 have R1:=Lib.hid (fun i hi=>row_at w1 i hi)
 have L0:=Lib.hid (row_len w0)
 have L1:=Lib.hid (row_len w1)
 have N0:len0≤100∧0<len0:=by omega
 have N1:len1≤100∧0<len1:=by omega
 clear hGl w0 w1 hbig
 go_enter Tryz.func11,Tryz.ntmps11
 go_wp2_with fail
 refine (AW.out _ HG.out).mono ?_
 rintro e w1 ⟨rfl,hb⟩
 have HB:=Lib.hid hb
 clear hb
 go_wp2_with fail
 go_loopw [6,8] (fun v i wr => ∃ (k:Nat) (X:ByteArray),v = .string X∧i = .int .i64 (k:Int)∧k≤len0∧X.size=k∧Hid (X=B (lowB (z0.take k)))∧Hid (Below w.heap.size w wr)) (fun _ i _=>len0 - (intOf i).toNat)
 case atStart=>exact ⟨0,⟨#[]⟩,rfl,rfl,Nat.zero_le _,rfl,Lib.hid rfl,HB⟩
 case round =>
  clear HB
  obtain ⟨k,X,rfl,rfl,hk,hX,HX,HB⟩:=hrel
  by_cases hlt:k<len0
  ·have c0:decide ((k:Int)<(len0:Int))=true:=decide_eq_true zu4
   obtain ⟨hz,ad,rfl,hx,hd0,hd1⟩:=R0.out k hlt
   replace hx:=(HB.out.cell (World.block_lt_of_cell? w _ hx)).trans hx
   have hnx:=lowB_take z0 k hz
   have hgd:z0.getD k 0=z0[k]:=by rw [List.getD_eq_getElem?_getD,List.getElem?_eq_getElem hz];rfl
   rw [← hgd] at hnx
   have hu:=lowU_val (z0.getD k 0)
   obtain ⟨d,hd⟩:∃ d,z0.getD k 0=d:=⟨_,rfl⟩
   rw [hd] at hx hnx hu hd0 hd1
   obtain ⟨q,v,m0,m1,m2,m3,hv⟩:=low_num hd0
   have K1:=one_byt (lowU d) v (by rw [hu,hv])
   obtain ⟨c,hc⟩:∃ c,lowU d=c:=⟨_,rfl⟩
   rw [hc] at K1 hnx
   have HX':Hid (X++B [c]=B (lowB (z0.take (k+1)))):=Lib.hid (by rw [HX.out,B_append,← hnx])
   have zX:(X++B [c]).size=k+1:=by rw [ByteArray.size_append,hX];rfl
   have ZX:=Lib.hid zX
   have f1:(9223372036854775807<X.size+1)=False:=eq_false zu4
   clear hd hu hd0 hd1 hc hnx HX zX hgd hz hv
   go_wp2_with fail
   go_roundw
   case rel=>exact ⟨k+1,X++B [c],rfl,by go_num,zu4,ZX.out,HX',Lib.hid (below_alloc HB.out _)⟩
   case measure=>simp [intOf];omega
  ·have hkl:k=len0:=by omega
   subst hkl
   have c0:decide ((k:Int)<(k:Int))=false:=decide_eq_false zu4
   clear R0
   go_wp2_with fail
   go_loopw [7,9] (fun v i wr => ∃ (j:Nat) (Y:ByteArray),v = .string Y∧i = .int .i64 (j:Int)∧j≤len1∧Y.size=j∧Hid (Y=B (lowB (z1.take j)))∧Hid (Below w.heap.size w wr)) (fun _ i _=>len1 - (intOf i).toNat)
   case atStart=>exact ⟨0,⟨#[]⟩,rfl,rfl,Nat.zero_le _,rfl,Lib.hid rfl,HB⟩
   case round =>
    clear HB
    obtain ⟨j,Y,rfl,rfl,hj,hY,HY,HB⟩:=hrel
    by_cases hlt:j<len1
    ·have c0:decide ((j:Int)<(len1:Int))=true:=decide_eq_true zu4
     obtain ⟨hz,ad,rfl,hx,hd0,hd1⟩:=R1.out j hlt
     replace hx:=(HB.out.cell (World.block_lt_of_cell? w _ hx)).trans hx
     have hnx:=lowB_take z1 j hz
     have hgd:z1.getD j 0=z1[j]:=by rw [List.getD_eq_getElem?_getD,List.getElem?_eq_getElem hz];rfl
     rw [← hgd] at hnx
     have hu:=lowU_val (z1.getD j 0)
     obtain ⟨d,hd⟩:∃ d,z1.getD j 0=d:=⟨_,rfl⟩
     rw [hd] at hx hnx hu hd0 hd1
     obtain ⟨q,v,m0,m1,m2,m3,hv⟩:=low_num hd0
     have K1:=one_byt (lowU d) v (by rw [hu,hv])
     obtain ⟨c,hc⟩:∃ c,lowU d=c:=⟨_,rfl⟩
     rw [hc] at K1 hnx
     have HX':Hid (Y++B [c]=B (lowB (z1.take (j+1)))):=Lib.hid (by rw [HY.out,B_append,← hnx])
     have zX:(Y++B [c]).size=j+1:=by rw [ByteArray.size_append,hY];rfl
     have ZX:=Lib.hid zX
     have f1:(9223372036854775807<Y.size+1)=False:=eq_false zu4
     clear hd hu hd0 hd1 hc hnx HY zX hgd hz hv
     go_wp2_with fail
     go_roundw
     case rel=>exact ⟨j+1,Y++B [c],rfl,by go_num,zu4,ZX.out,HX',Lib.hid (below_alloc HB.out _)⟩
     case measure=>simp [intOf];omega
    ·have hjl:j=len1:=by omega
     subst hjl
     have c1:decide ((j:Int)<(j:Int))=false:=decide_eq_false zu4
     have lx:=lowB_low (z0.take k)
     have ly:=lowB_low (z1.take j)
     have nx:lowB (z0.take k)≠[]:=fun e=>by
      have:=congrArg List.length e
      rw [lowB_len,List.length_take,List.length_nil] at this
      have:=L0.out;omega
     have ny:lowB (z1.take j)≠[]:=fun e=>by
      have:=congrArg List.length e
      rw [lowB_len,List.length_take,List.length_nil] at this
      have:=L1.out;omega
     have zx:(lowB (z0.take k)).length≤100:=by rw [lowB_len,List.length_take];omega
     have zy:(lowB (z1.take j)).length≤100:=by rw [lowB_len,List.length_take];omega
     have hXe:=HX.out
     have hYe:=HY.out
     obtain ⟨x,hxx⟩:∃ x,lowB (z0.take k)=x:=⟨_,rfl⟩
     obtain ⟨y,hyy⟩:∃ x,lowB (z1.take j)=x:=⟨_,rfl⟩
     rw [hxx] at lx nx zx hXe
     rw [hyy] at ly ny zy hYe
     obtain ⟨V1,E1⟩:=blk_ext (t:=bkP x y) (T:=⟨#[60,112,62]⟩++X++⟨#[60,112,62]⟩++Y++⟨#[60,47,112,62]⟩) (R:=X++⟨#[10,10]⟩++Y) (by simp [bkP,nmP];omega) (by rw [bkP_B,hXe,hYe]) zv1 (blk_p lx ly nx ny)
     obtain ⟨V2,E2⟩:=blk_ext (t:=bkD x y) (T:=⟨#[60,100,105,118,62]⟩++X++⟨#[60,47,100,105,118,62,10,60,100,105,118,62]⟩++Y) (R:=X++⟨#[10]⟩++Y) (by simp [bkD,nmDiv];omega) (by rw [bkD_B,hXe,hYe]) zv1 (blk_d lx ly nx ny)
     obtain ⟨V3,E3⟩:=blk_ext (t:=bkI x y) (T:=⟨#[60,98,62]⟩++X++⟨#[60,47,98,62]⟩++Y) (R:=X++Y) (by simp [bkI,nmBo];omega) (by rw [bkI_B,hXe,hYe]) (by rw [← B_append,hXe,hYe]) (blk_i lx ly nx ny)
     obtain ⟨V4,E4⟩:=blk_ext (t:=bkR x y) (T:=X++⟨#[60,98,114,62,60,98,114,47,62]⟩++Y) (R:=X++⟨#[10,10]⟩++Y) (by simp [bkR,nmBr];omega) (by rw [bkR_B,hXe,hYe]) zv1 (blk_r lx ly nx ny)
     have HV1:=Lib.hid V1
     have HV2:=Lib.hid V2
     have HV3:=Lib.hid V3
     have HV4:=Lib.hid V4
     have HE1:=Lib.hid E1
     have HE2:=Lib.hid E2
     have HE3:=Lib.hid E3
     have HE4:=Lib.hid E4
     have f1:(9223372036854775807<3+X.size)=False:=eq_false zu4
     have f2:(9223372036854775807<3+X.size+3)=False:=eq_false zu4
     have f3:(9223372036854775807<3+X.size+3+Y.size)=False:=eq_false zu4
     have f4:(9223372036854775807<3+X.size+3+Y.size+4)=False:=eq_false zu4
     have f5:(9223372036854775807<5+X.size)=False:=eq_false zu4
     have f6:(9223372036854775807<5+X.size+12)=False:=eq_false zu4
     have f7:(9223372036854775807<5+X.size+12+Y.size)=False:=eq_false zu4
     have f8:(9223372036854775807<3+X.size+4)=False:=eq_false zu4
     have f9:(9223372036854775807<3+X.size+4+Y.size)=False:=eq_false zu4
     have g1:(9223372036854775807<X.size+9)=False:=eq_false zu4
     have g2:(9223372036854775807<X.size+9+Y.size)=False:=eq_false zu4
     have g3:(9223372036854775807<X.size+2)=False:=eq_false zu4
     have g4:(9223372036854775807<X.size+2+Y.size)=False:=eq_false zu4
     have g5:(9223372036854775807<X.size+1)=False:=eq_false zu4
     have g6:(9223372036854775807<X.size+1+Y.size)=False:=eq_false zu4
     have g7:(9223372036854775807<X.size+Y.size)=False:=eq_false zu4
     clear V1 V2 V3 V4 E1 E2 E3 E4 hXe hYe hxx hyy lx ly nx ny zx zy R1 L0 L1 HX HY hX hY
     obtain ⟨v,w4,hv,hb,D⟩:=HV1.out wr
     have HB4:=Lib.hid (HB.out.trans (hb.mono HB.out.size))
     have HD:=Lib.hid D
     clear hb D HV1 HB
     go_wp2_with fail
     refine (HE1.out _ _ (HG.out.step HB4.out) HD.out).mono ?_
     rintro e w5 ⟨rfl,hb⟩
     have HB:=Lib.hid (HB4.out.trans (hb.mono HB4.out.size))
     clear hb hv HD HB4 HE1
     obtain ⟨v,w4,hv,hb,D⟩:=HV2.out w5
     have HB4:=Lib.hid (HB.out.trans (hb.mono HB.out.size))
     have HD:=Lib.hid D
     clear hb D HV2 HB
     go_wp2_with fail
     refine (HE2.out _ _ (HG.out.step HB4.out) HD.out).mono ?_
     rintro e w6 ⟨rfl,hb⟩
     have HB:=Lib.hid (HB4.out.trans (hb.mono HB4.out.size))
     clear hb hv HD HB4 HE2
     obtain ⟨v,w4,hv,hb,D⟩:=HV3.out w6
     have HB4:=Lib.hid (HB.out.trans (hb.mono HB.out.size))
     have HD:=Lib.hid D
     clear hb D HV3 HB
     go_wp2_with fail
     refine (HE3.out _ _ (HG.out.step HB4.out) HD.out).mono ?_
     rintro e w7 ⟨rfl,hb⟩
     have HB:=Lib.hid (HB4.out.trans (hb.mono HB4.out.size))
     clear hb hv HD HB4 HE3
     obtain ⟨v,w4,hv,hb,D⟩:=HV4.out w7
     have HB4:=Lib.hid (HB.out.trans (hb.mono HB.out.size))
     have HD:=Lib.hid D
     clear hb D HV4 HB
     go_wp2_with fail
     refine (HE4.out _ _ (HG.out.step HB4.out) HD.out).mono ?_
     rintro e w8 ⟨rfl,hb⟩
     have HB:=Lib.hid (HB4.out.trans (hb.mono HB4.out.size))
     clear hb hv HD HB4 HE4
     go_wp2_with fail
     go_ret
     exact ⟨zu19,HB.out⟩
end Hand
end

end Go.Proofs.YtclkdmmgibgamaaGreatDoor
section
namespace Go.Proofs.YtclkdmmgibgamaaGreatDoorW.PrintWords
open Go.ChangeShapes Go.WideShapes
theorem sized_ints {H:Type} {enc:TypeId×Value→H} {P:Program} {W:World} {base:Nat} {spare:Nat→Bool} {held:Bool} {t e:TypeId} {k:IntKind} {a:Option Addr} {len cap:Nat} {d:DataW H} {ps:List MemPlace} {ts:List TypeId} {ds:List (DataW H)} {j:Nat}
  (hsz:(DataW.weightsEach P ts ds).all (· ≤ reachBytes)=true) (ht:ts[j]? = some t) (hd:ds[j]? = some d) (hu:P.underlying t=some (.slice e)) (he:P.underlying e=some (.int k)) (hc:P.cellsOf e=1) {B:Nat} (hB:P.bytesOf e=B)
  (h:DataW.Trod enc P W base spare held t (.slice a len cap) d ps):len*B≤140737488351232:=by
 obtain ⟨fuel,hf⟩:=h
 rcases open_ints hu he hc hf with ⟨hcs,_⟩|⟨x,l,c,zs,hcs,_,hl,_,hz,hx,_,_⟩
 ·simp [Value.cells] at hcs
  obtain ⟨rfl,rfl,rfl⟩:=hcs
  simp
 ·simp [Value.cells] at hcs
  obtain ⟨rfl,rfl,rfl⟩:=hcs
  obtain ⟨hx,_⟩:=Prod.mk.inj hx
  subst hx
  have z:=sized_slice hsz ht hd hu
  rw [hB] at z
  have hl2:len≤zs.length:=by
   rw [hz]
   split
   ·exact hl
   ·exact Nat.le_refl _
  have h1:(lits (H:=H) k (zs.take len)).length+(lits (H:=H) k (zs.drop len)).length=zs.length:=by
   simp [lits]
   omega
  rw [h1] at z
  exact Nat.le_trans (Nat.mul_le_mul_right _ hl2) z
end Go.Proofs.YtclkdmmgibgamaaGreatDoorW.PrintWords
end
