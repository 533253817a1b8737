/-
  Texts of the claim ExtractTags, merged by a program of this session (1).
-/
import Derived.Test.YtclkdmmgibgamaaGreatDoorZug
import Derived.Lib.Replace
import Derived.Lib.CountLaws
import Derived.Lib.IndexLaws
import Derived.Below
import Derived.Deep.Draws
import Derived.Deep.AppendLies
import Derived.Maps.AppendAt
import Derived.OwnWalk
import Derived.Laws.BytesArg
import Derived.Laws.MakeOwn
import Derived.Laws.OwnMore
import Derived.Deep.OwnRows
import Derived.Tactics
import Derived.Lib.ConvBytes
import Derived.Laws.Slices
import Derived.WalkKit
import Derived.KernelRfl
import Derived.RowKit3
import Derived.Deep.LoopGhost
import Derived.Deep.QuietTactic
import Derived.BigQuiet
import Derived.WideLaws
import Derived.Deep.DeepCutAuto
import Derived.Deep.CutBlock
import Derived.Deep.RegionHeld3
import Derived.Laws.Rows
import Derived.Lib.AppendStr
import Derived.ArgAppend
import Derived.Laws.IdiomCopy
import Derived.RowKit
import Derived.Test.YtclkdmmgibgamaaGreatDoorProg
import Derived.OrdersHeld
import Derived.Laws.BitsLemmas
import Derived.Laws.Runes
import Derived.Lib.SlBytesConst
set_option linter.unusedVariables false
set_option linter.unusedSimpArgs false
set_option maxRecDepth 100000
set_option maxHeartbeats 16000000
namespace Foot
end Foot
namespace Go.Proofs
end Go.Proofs
namespace Go.Proofs.YtclkdmmgibgamaaGreatDoor.Hand
end Go.Proofs.YtclkdmmgibgamaaGreatDoor.Hand
namespace Go.Proofs.YtclkdmmgibgamaaGreatDoor.K0
end Go.Proofs.YtclkdmmgibgamaaGreatDoor.K0
namespace Go.Proofs.YtclkdmmgibgamaaGreatDoor.Pb
end Go.Proofs.YtclkdmmgibgamaaGreatDoor.Pb
namespace Go.Proofs.YtclkdmmgibgamaaGreatDoor.Pcb
end Go.Proofs.YtclkdmmgibgamaaGreatDoor.Pcb
namespace Go.Proofs.YtclkdmmgibgamaaGreatDoor.Pcm
end Go.Proofs.YtclkdmmgibgamaaGreatDoor.Pcm
namespace Go.Proofs.YtclkdmmgibgamaaGreatDoor.Pcq
end Go.Proofs.YtclkdmmgibgamaaGreatDoor.Pcq
namespace Go.Proofs.YtclkdmmgibgamaaGreatDoor.Pl
end Go.Proofs.YtclkdmmgibgamaaGreatDoor.Pl
namespace Go.Proofs.YtclkdmmgibgamaaGreatDoor.Pro
end Go.Proofs.YtclkdmmgibgamaaGreatDoor.Pro
namespace Go.Proofs.YtclkdmmgibgamaaGreatDoor.Pure
end Go.Proofs.YtclkdmmgibgamaaGreatDoor.Pure
namespace Go.Proofs.YtclkdmmgibgamaaGreatDoor.RowKit
end Go.Proofs.YtclkdmmgibgamaaGreatDoor.RowKit
namespace Go.Proofs.YtclkdmmgibgamaaGreatDoor.Sa
end Go.Proofs.YtclkdmmgibgamaaGreatDoor.Sa
namespace Go.Proofs.YtclkdmmgibgamaaGreatDoor.Sf
end Go.Proofs.YtclkdmmgibgamaaGreatDoor.Sf
namespace Go.Proofs.YtclkdmmgibgamaaGreatDoor.Si
end Go.Proofs.YtclkdmmgibgamaaGreatDoor.Si
namespace Go.Proofs.YtclkdmmgibgamaaGreatDoor.Sk
end Go.Proofs.YtclkdmmgibgamaaGreatDoor.Sk
namespace Go.Proofs.YtclkdmmgibgamaaGreatDoor.So
end Go.Proofs.YtclkdmmgibgamaaGreatDoor.So
namespace Go.Proofs.YtclkdmmgibgamaaGreatDoor.Sp
end Go.Proofs.YtclkdmmgibgamaaGreatDoor.Sp
namespace Go.Proofs.YtclkdmmgibgamaaGreatDoor.St
end Go.Proofs.YtclkdmmgibgamaaGreatDoor.St
namespace Go.Proofs.YtclkdmmgibgamaaGreatDoor.Sx
end Go.Proofs.YtclkdmmgibgamaaGreatDoor.Sx
namespace Go.Proofs.YtclkdmmgibgamaaGreatDoorW.PrintLast
end Go.Proofs.YtclkdmmgibgamaaGreatDoorW.PrintLast
namespace Go.Proofs.YtclkdmmgibgamaaGreatDoorW.PrintMore
end Go.Proofs.YtclkdmmgibgamaaGreatDoorW.PrintMore
namespace Go.Proofs.YtclkdmmgibgamaaGreatDoorW.PrintWords
end Go.Proofs.YtclkdmmgibgamaaGreatDoorW.PrintWords
namespace Kd
end Kd

namespace Go.Proofs.YtclkdmmgibgamaaGreatDoor
section
namespace Pl
open Go
theorem normF_true_ne {d:UInt8} {r:List UInt8} (h:d≠10):normF true (d::r)=normF false (d::r):=by simp [normF,h]
end Pl
end

section
namespace Hand
open Go.RowKit
structure Live (w W:World) (L:List (Nat×Array Value)):Prop where
 glob:Glob W
 below:Below w.heap.size w W
 blk:∀ x∈L,x.1<W.heap.size∧Blk x.1 x.2 W
theorem Live.call {w W W':World} {L:List (Nat×Array Value)} (h:Live w W L) (hb:Below W.heap.size W W'):Live w W' L :=
 ⟨h.glob.step hb,h.below.trans (hb.mono h.below.size),fun x hx=>⟨Nat.lt_of_lt_of_le (h.blk x hx).1 hb.size,(h.blk x hx).2.below hb (h.blk x hx).1⟩⟩
end Hand
end

end Go.Proofs.YtclkdmmgibgamaaGreatDoor
section
set_option linter.unusedVariables false
set_option linter.unusedSimpArgs false
namespace Go.Proofs.YtclkdmmgibgamaaGreatDoorW.PrintWords
open Go.RowKit
section
variable {P : Program} {ops : Array Oper} {rest : List Oper} {o : Oper} {a : Act} {Q : Exit → Act → World → Prop}
end
section
variable {P : Program}
end
section
variable {P : Program} {ops : Array Oper} {rest : List Oper} {o : Oper} {a : Act} {Q : Exit → Act → World → Prop}
end
def LeO {α:Type} (a b:Option α):Prop := ∀ r,a=some r→b=some r
theorem LeO.refl {α:Type} (a:Option α):LeO a a:=fun _ h=>h
theorem LeO.none {α:Type} (b:Option α):LeO Option.none b:=fun _ h=>by cases h
theorem LeO.trans {α:Type} {a b c:Option α} (h:LeO a b) (k:LeO b c):LeO a c:=fun r hr=>k r (h r hr)
theorem more_rounds {α:Type} {g:Nat→Option α} (h:∀ k,LeO (g k) (g (k+1))) (k:Nat):∀ j,LeO (g k) (g (k+j))
 | 0=>LeO.refl _
 | j+1=>(more_rounds h k j).trans (h (k+j))
theorem at_rounds {α:Type} {g:Nat→Option α} (h:∀ k,LeO (g k) (g (k+1))) {k k':Nat} (hk:k≤k') {r:α} (hr:g k=some r):g k'=some r:=by
 have:=more_rounds h k (k' - k) r hr
 rwa [Nat.add_sub_cancel' hk] at this
section
variable {P : Program} {ops : Array Oper} {rest : List Oper} {o : Oper} {a : Act} {Q : Exit → Act → World → Prop}
end
theorem KeepBut.blk {w w1:World} {g g':Nat} {row:Option Nat} {o:Obj} (h:KeepBut w w1 g row) (hb:w.heap[g']? = some o) (hg:g'≠g) (hr:some g'≠row):w1.heap[g']? = some o:=(h.2 g' (blk_lt hb) hg hr).trans hb
theorem KeepBut.own {w w1:World} {g:Nat} {row:Option Nat} {base:Nat} {e:TypeId} {size n:Nat} {v:Value} {xs:List Value} (h:KeepBut w w1 g row) (ho:w.ownsRow base e size v n xs) (hg:v.ownBlock≠some g) (hr:v.ownBlock=none∨v.ownBlock≠row):w1.ownsRow base e size v n xs:=by
 obtain ⟨h1,h2⟩:=ho
 refine ⟨h1,?_⟩
 rcases h2 with h2|⟨b,cap,cur,rfl,hb,hh,r⟩
 ·exact .inl h2
 ·refine .inr ⟨b,cap,cur,rfl,hb,h.blk hh ?_ ?_,r⟩
  ·intro e
   exact hg (by rw [← e];rfl)
  ·rcases hr with hr|hr
   ·simp [Value.ownBlock] at hr
   ·exact hr
theorem Ev.of {α:Type} {g:Nat→Option α} {r:α} (hg:∀ k,LeO (g k) (g (k+1))) {k:Nat} (h:g k=some r):Ev g r:=⟨k,fun _ hk=>at_rounds hg hk h⟩
section
variable {P : Program} {ops : Array Oper} {o : Oper} {a : Act} {Q : Exit → Act → World → Prop} {K : Act → World → Prop}
end
section
variable {α : Type} {enc : α → Value} {d : α}
end
section
variable {α : Type} {P : Program} {ops : Array Oper} {rest : List Oper} {o : Oper} {a : Act} {Q : Exit → Act → World → Prop}
end
section
variable {P : Program}
end
section
variable {α : Type} {R R' : α → List Value → Prop} {e : TypeId} {size : Nat} {w w1 : World} {base : Nat} {v : Value} {ps : List α}
end
section
variable {P : Program} {ops : Array Oper} {rest : List Oper} {o : Oper} {a : Act} {Q : Exit → Act → World → Prop} {α : Type} {R : α → List Value → Prop}
end
section
variable {P : Program} {ops : Array Oper} {o : Oper} {a : Act} {Q : Exit → Act → World → Prop} {K : Act → World → Prop} {α : Type} {R : α → List Value → Prop}
end
section
variable {α : Type} {P : Program}
end
section
variable {P : Program} {ops : Array Oper} {rest : List Oper} {o : Oper} {a : Act} {Q : Exit → Act → World → Prop}
end
namespace Kd
section
variable {α : Type} {d : Kd α} {e : Nat} {w w1 : World} {base : Nat} {ok ok' : Nat → Prop} {v : Value} {xs : List α}
end
section
variable {P : Program} {ops : Array Oper} {rest : List Oper} {o : Oper} {a : Act} {Q : Exit → Act → World → Prop} {α : Type}
end
section
variable {P : Program} {ops : Array Oper} {o : Oper} {a : Act} {Q : Exit → Act → World → Prop} {Kc : Act → World → Prop} {α : Type}
end
end Kd
namespace Kd
section
variable {α : Type} {F : Kd α → Kd α} {sz : Nat} {E : List Nat} {hs : ∀ n, (upto F sz E n).sz = sz} {hE : ∀ n q, q ∈ (upto F sz E n).E → q ∈ E}
end
end Kd
namespace Kd
end Kd
namespace Kd
section
variable {α β : Type} {d : Kd α} {d' : Kd β} {e e' : Nat} {w w1 W : World} {base b b' : Nat} {ok ok' okv oku : Nat → Prop} {v u : Value} {xs : List α} {ys : List β}
end
section
variable {w W : World} {A : Option Addr} {n : Nat}
variable {α : Type} {enc : α → Value} {h1 : ∀ x, (enc x).oneCell' = true} {e base g cap : Nat} {ok : Nat → Prop} {xs : List α}
end
section
variable {P : Program} {ops : Array Oper} {rest : List Oper} {o : Oper} {a : Act} {Q : Exit → Act → World → Prop}
variable {α : Type}
end
end Kd
section
variable {P : Program}
end
section
variable {w w1 : World} {base n size : Nat} {e : TypeId} {v : Value} {xs : List Value}
end
section
variable {P : Program}
end
namespace Kd
section
variable {α : Type} {d : Kd α} {e : Nat} {w w1 W : World} {base : Nat} {ok ok' : Nat → Prop} {v : Value} {xs : List α}
end
section
variable {P : Program} {ops : Array Oper} {rest : List Oper} {o : Oper} {a : Act} {Q' : Exit → Act → World → Prop} {Kc : Act → World → Prop} {α : Type}
end
end Kd
namespace Kd
section
variable {α : Type} {d : Kd α} {e e' : Nat} {w w1 W : World} {base : Nat} {ok : Nat → Prop} {u v : Value} {xs : List α}
end
end Kd
namespace Kd
section
variable {α : Type} {d : Kd α} {e base g n cap : Nat} {ok okp : Nat → Prop} {W : World} {xs : List α}
end
end Kd
namespace Kd
section
variable {α : Type} {F : Kd α → Kd α} {sz : Nat} {E : List Nat} {hs : ∀ n, (upto F sz E n).sz = sz} {hE : ∀ n q, q ∈ (upto F sz E n).E → q ∈ E}
end
end Kd
namespace Kd
section
variable {P : Program} {ops : Array Oper} {rest : List Oper} {o : Oper} {a : Act} {Q : Exit → Act → World → Prop} {α : Type}
end
end Kd
namespace Kd
section
variable {P : Program} {ops : Array Oper} {rest : List Oper} {o : Oper} {a : Act} {Q : Exit → Act → World → Prop} {α : Type}
end
end Kd
namespace Kd
section
variable {α : Type} {k : Kd α} {w : World} {A : Option Addr} {xs : List α} {m c : Nat}
end
end Kd
section
variable {P : Program}
end
namespace Kd
section
variable {α β : Type} {d : Kd α} {d' : Kd β} {e e' base base' n : Nat} {ok ok' : Nat → Prop} {w W w1 W1 : World} {v u : Value} {xs : List α} {ys : List β} {A : Option Addr} {c : Nat}
end
section
variable {α : Type} {enc : α → Value} {h1 : ∀ x, (enc x).oneCell' = true} {w W : World} {A : Option Addr} {n g : Nat} {xs : List α}
end
end Kd
namespace Kd
section
variable {α : Type} {d : Kd α} {e base g : Nat} {ok : Nat → Prop} {w w1 : World} {v : Value} {xs : List α} {o : Obj}
end
end Kd
section
variable {P : Program} {ops : Array Oper} {rest : List Oper} {o : Oper} {a : Act} {Q : Exit → Act → World → Prop}
end
namespace Kd
section
variable {α : Type} {enc : α → Value} {h1 : ∀ x, (enc x).oneCell' = true} {e base g n cap : Nat} {ok : Nat → Prop} {W : World} {xs : List α}
end
end Kd
section
variable {P : Program} {ops : Array Oper} {rest : List Oper} {o : Oper} {a : Act} {Q : Exit → Act → World → Prop}
end
namespace Kd
section
variable {α : Type} {enc : α → Value} {h1 : ∀ x, (enc x).oneCell' = true} {e base g n cap : Nat} {ok : Nat → Prop} {W : World} {xs : List α}
end
end Kd
section
variable {P : Program} {ops : Array Oper} {rest : List Oper} {o : Oper} {a : Act} {Q : Exit → Act → World → Prop} {W : World}
end
section
variable {P : Program} {ops : Array Oper} {o : Oper} {a : Act} {Q : Exit → Act → World → Prop} {Kc : Act → World → Prop}
namespace Kd
variable {α : Type}
end Kd
end
section
variable {P : Program} {tmps : Array Value} {w : World}
end
namespace Kd
section
variable {P : Program} {α : Type}
end
section
variable {P : Program} {ops : Array Oper} {rest : List Oper} {o : Oper} {a : Act} {Q : Exit → Act → World → Prop} {Kc : Act → World → Prop} {α : Type}
end
end Kd
end Go.Proofs.YtclkdmmgibgamaaGreatDoorW.PrintWords
end

section
namespace Go.Proofs.YtclkdmmgibgamaaGreatDoorW.PrintWords
open Go.RowKit
namespace Kd
section
variable {α β : Type} {d : Kd α} {d' : Kd β} {e e' : Nat} {w w1 W : World} {base b : Nat} {ok ok' okv oku : Nat → Prop} {u v : Value} {xs : List α} {ys : List β}
end
section
variable {α β : Type} {d : Kd α} {d' : Kd β} {e e' g : Nat} {w w1 W : World} {base b : Nat} {ok ok' okv oku : Nat → Prop} {u v : Value} {xs : List α} {ys : List β}
end
section
variable {P : Program} {ops : Array Oper} {rest : List Oper} {o : Oper} {a : Act} {Q : Exit → Act → World → Prop} {Kc : Act → World → Prop} {α : Type}
end
def gap {α:Type} (f:Nat→Nat) (d:Kd α) (i:Nat) (c:List Value):Kd (α×Nat) where
 sz:=d.sz
 E:=d.E
 K:=fun w x cs=>(x.2=i→cs=c∧cs.length=d.sz∧∀ u∈cs,u.oneCell'=true)∧(x.2≠i→d.K w x.1 cs)
 M:=fun w base ok x cs=>(x.2=i→cs=c∧cs.length=d.sz∧∀ u∈cs,u.oneCell'=true)∧(x.2≠i→d.M w base (fun k=>ok k∧f k=x.2) x.1 cs)
 K_len:=fun {w x cs} h=>by
  by_cases hx:x.2=i
  ·exact (h.1 hx).2.1
  ·exact d.K_len (h.2 hx)
 K_one:=fun {w x cs} h=>by
  by_cases hx:x.2=i
  ·exact (h.1 hx).2.2
  ·exact d.K_one (h.2 hx)
 K_below:=fun hb h=>⟨h.1,fun hx=>d.K_below hb (h.2 hx)⟩
 K_of_M:=fun h=>⟨h.1,fun hx=>d.K_of_M (h.2 hx)⟩
 M_mono:=fun hok h=>⟨h.1,fun hx=>d.M_mono (fun k hk=>⟨hok k hk.1,hk.2⟩) (h.2 hx)⟩
 M_bound:=fun h=>⟨h.1,fun hx=>d.M_mono (fun _ hk=>⟨⟨hk.1.1,hk.2⟩,hk.1.2⟩) (d.M_bound (h.2 hx))⟩
 M_move:=fun hm h=>⟨h.1,fun hx=>d.M_move (fun k hk=>hm k hk.1) (h.2 hx)⟩
 M_lower:=fun hb h=>⟨h.1,fun hx=>d.M_lower hb (h.2 hx)⟩
def H {α:Type} (d:Kd α) (e:Nat) (w:World) (base:Nat) (ok:Nat→Prop) (v:Value) (xs:List α) (i:Int) (oki:Nat→Prop) (c:List Value):Prop :=
 (∀ k,oki k→ok k)∧∃ f,(gap f d i.toNat c).R e w base (fun k=>ok k∧¬ oki k) v xs.zipIdx
section
variable {α β : Type} {d : Kd α} {e e' g n cap : Nat} {w w1 W : World} {base : Nat} {ok ok' oki okp : Nat → Prop} {u v : Value} {xs : List α} {i : Int} {c : List Value}
end
section
variable {P : Program} {ops : Array Oper} {rest : List Oper} {o : Oper} {a : Act} {Q : Exit → Act → World → Prop} {α : Type}
end
end Kd
end Go.Proofs.YtclkdmmgibgamaaGreatDoorW.PrintWords
end

section
namespace Go.Proofs.YtclkdmmgibgamaaGreatDoorW.PrintWords
open Go.RowKit
namespace Kd
structure Heap {α:Type} (d:Kd α):Prop where
 K:∀ {w w1:World} {x:α} {cs:List Value},(∀ k,k<w.heap.size→w1.heap[k]? = w.heap[k]?)→d.K w x cs→d.K w1 x cs
theorem cell_heap {w w1:World} (hb:∀ k,k<w.heap.size→w1.heap[k]? = w.heap[k]?) {a:Addr} {v:Value} (h:w.cell? a=some v):w1.cell? a=some v:=by
 have:=hb a.block (World.block_lt_of_cell? w a h)
 simpa [World.cell?,this] using h
theorem Heap.C {α:Type} {d:Kd α} (hd:Heap d) {w w1:World} {A:Option Addr} {n:Nat} {xs:List α} (hb:∀ k,k<w.heap.size→w1.heap[k]? = w.heap[k]?) (h:d.C w A n xs):d.C w1 A n xs :=
 ⟨h.1,h.2.1,fun hn=>by
   obtain ⟨ad,e,hc⟩:=h.2.2 hn
   refine ⟨ad,e,fun j p hj => ?_⟩
   obtain ⟨c,hs,hr,hcell⟩:=hc j p hj
   exact ⟨c,hs,hd.K hb hr,fun i u hu=>cell_heap hb (hcell i u hu)⟩⟩
section
variable {α : Type} {d : Kd α} {e base g n c : Nat} {ok : Nat → Prop} {w w0 W : World} {A : Option Addr} {xs : List α}
end
end Kd
end Go.Proofs.YtclkdmmgibgamaaGreatDoorW.PrintWords
end

section
namespace Go.Proofs.YtclkdmmgibgamaaGreatDoorW.PrintWords
open Go.RowKit
def Kept (w W:World) (S:Nat→Prop):Prop:=w.heap.size≤W.heap.size∧∀ i,i<w.heap.size→¬ S i→W.heap[i]? = w.heap[i]?
section
variable {w W W2 : World} {S S2 S' : Nat → Prop}
theorem Kept.mono (h:Kept w W S) (hs:∀ k,S k→S' k):Kept w W S':=⟨h.1,fun i hi hn=>h.2 i hi (fun hk=>hn (hs i hk))⟩
end
namespace Kd
section
variable {α : Type} {d : Kd α} {e base n c : Nat} {ok oki S S2 : Nat → Prop} {w w0 W W1 W2 : World} {v : Value} {A : Option Addr} {xs : List α} {i : Int} {cs : List Value}
end
end Kd
end Go.Proofs.YtclkdmmgibgamaaGreatDoorW.PrintWords
end

namespace Go.Proofs.YtclkdmmgibgamaaGreatDoor
section
namespace K0
open Go.RowKit YtclkdmmgibgamaaGreatDoorW.PrintWords YtclkdmmgibgamaaGreatDoorW.PrintLast YtclkdmmgibgamaaGreatDoorW.PrintMore
attribute [local go_sem] max2_int min2_int max_two min_two max_three min_three max_four min_four  
set_option linter.unusedVariables false
set_option linter.unusedSimpArgs false
structure S7 where
 f0:Int
 f1:Int
 f2:Bool
 f3:Int
structure S8 where
 f0:Int
 f1:Int
 f2:Bool
 f3:Int
def k8:Kd S8:=Kd.iso (Kd.pair (Kd.int .i64) (Kd.pair (Kd.int .i64) (Kd.pair Kd.bool (Kd.int .u8)))) (fun x:S8=>(x.f0,x.f1,x.f2,x.f3))
structure S13 where
 f0:ByteArray
 f1:Int
def k13:Kd S13:=Kd.iso (Kd.pair Kd.string (Kd.int .u64)) (fun x:S13=>(x.f0,x.f1))
structure S14 where
 f0:ByteArray
 f1:Int
def k14:Kd S14:=Kd.iso (Kd.pair Kd.string (Kd.int .u64)) (fun x:S14=>(x.f0,x.f1))
structure S29 where
 f0:Int
 f1:ByteArray
 f2:ByteArray
 f3:(List S105)
 f4:Bool
structure S97 where
 f0:Int
 f1:Int
structure S98 where
 f0:Int
 f1:Int
structure S104 where
 f0:ByteArray
 f1:ByteArray
structure S122 where
 f0:ByteArray
 f1:Int
structure S123 where
 f0:ByteArray
 f1:Int
structure S148 where
 f0:Int
 f1:Int
structure S149 where
 f0:Int
 f1:Int
structure S169 where
 f0:ByteArray
 f1:Int
structure S170 where
 f0:ByteArray
 f1:Int
structure S224 where
 f0:Int
 f1:Int
structure S225 where
 f0:Int
 f1:Int
structure S264 where
 f0:ByteArray
structure S265 where
 f0:ByteArray
end K0
end

section
namespace Hand
open Go Go.RowKit Pl Pb
def kyC (c:UInt8):Bool:=(decide (65≤c.toNat)&&decide (c.toNat≤90)) || (decide (97≤c.toNat)&&decide (c.toNat≤122)) || (decide (48≤c.toNat)&&decide (c.toNat≤57))
def hdC:List UInt8→Bool
 | []=>false
 | c::_=>(decide (65≤c.toNat)&&decide (c.toNat≤90)) || (decide (97≤c.toNat)&&decide (c.toNat≤122))
def keyOk (l:List UInt8):Bool:=decide ((kyL l).length≤32)&&((kyL l).dropLast.all kyC&&(hdC (kyL l)&&(match (kyL l).getLast? with|some c=>kyC c || c == 59|none=>false)))
def keysOk (T:List UInt8):Bool:=keyOk (linesOf T).1&&(linesOf T).2.all keyOk
theorem names_keys:keysOk namesL=true:=by kernel_rfl
theorem keys_all {T:List UInt8} (h:keysOk T=true) (p:Nat) (hp:St T p):keyOk (lnT T p)=true:=by
 unfold keysOk at h
 rw [Bool.and_eq_true,List.all_eq_true] at h
 rcases hp with rfl|⟨q,rfl,hq⟩
 ·rw [lines_head];exact h.1
 ·exact h.2 _ (lines_mem T q hq)
structure KeyP (k:List UInt8):Prop where
 le:k.length≤32
 pos:k≠[]
 inner:∀ c∈k.dropLast,kyC c=true
 head:hdC k=true
 last:∃ c,k.getLast? = some c∧(kyC c=true∨c=59)
theorem key_facts {k:List UInt8} (h:isKey namesL k):KeyP k:=by
 obtain ⟨p,h1,rfl⟩:=h
 have:=keys_all names_keys p h1
 unfold keyOk at this
 rw [Bool.and_eq_true,Bool.and_eq_true,Bool.and_eq_true,decide_eq_true_eq,List.all_eq_true] at this
 obtain ⟨g1,g2,g3,g4⟩:=this
 change (kyT namesL p).length≤32 at g1
 change hdC (kyT namesL p)=true at g3
 refine ⟨g1,?_,g2,g3,?_⟩
 ·intro e;rw [e] at g3;cases g3
 ·change (match (kyT namesL p).getLast? with|some c=>kyC c || c == 59|none=>false)=true at g4
  split at g4
  ·rename_i c hc
   refine ⟨c,hc,?_⟩
   simpa using g4
  ·cases g4
end Hand
end

section
namespace Hand
open Go Go.RowKit Pl Pb Go.Proofs.YtclkdmmgibgamaaGreatDoor.Pure
theorem normL_pre {p:List UInt8} (r:List UInt8) (h:(13:UInt8)∉p):normL (p++r)=p++normL r:=by
 induction p with
 | nil=>rfl
 | cons c p ih =>
   rw [List.mem_cons,not_or] at h
   rw [List.cons_append,normL_ne (fun e=>h.1 e.symm),ih h.2,List.cons_append]
theorem txN_app {s:List UInt8} (r:List UInt8) (h:(60:UInt8)∉s):txN (s++r)=s.length+txN r:=by
 have:=txN_skip s.length (s++r) zu19 (fun j hj=>by
  rw [List.getElem?_append_left hj];intro e;exact h (List.mem_of_getElem? e))
 rwa [List.drop_left] at this
theorem tokL_txt {s r:List UInt8} (hs:s≠[]) (h:(60:UInt8)∉s):tokL (s++r)=(some (.text (rdL false (s++r.take (txN r)))),r.drop (txN r)):=by
 obtain ⟨c,t,rfl⟩:∃ c t,s=c::t:=by cases s with|nil=>exact absurd rfl hs|cons c t=>exact ⟨c,t,rfl⟩
 have hc:c≠60:=fun e=>h (by simp [e])
 have hb:begM (c::t++r)=false:=begM_no _ hc
 have hn:txN (c::t++r)=(c::t).length+txN r:=txN_app r h
 unfold begM at hb
 simp only [Bool.or_eq_false_iff] at hb
 obtain ⟨⟨⟨h1,h2⟩,h3⟩,h4⟩:=hb
 unfold tokL
 rw [if_neg (by simpa using h1),if_neg (by rw [h2];decide),if_neg (by rw [h3];decide),if_neg (by rw [h4];decide),if_neg (by rw [hn];simp),hn]
 rw [List.take_length_add_append,List.drop_length_add_append]
theorem tokL_text {s r:List UInt8} (hs:s≠[]) (h:(60:UInt8)∉s) (hr:txN r=0):tokL (s++r)=(some (.text (rdL false s)),r):=by
 rw [tokL_txt hs h,hr];simp
theorem drvL_text {s r:List UInt8} (hs:s≠[]) (h:(60:UInt8)∉s) (hr:txN r=0):drvL (s++r) = .text (rdL false s)::drvL r:=by
 rw [drvL_eq (by simp [hs]),tokL_text hs h hr];rfl
end Hand
end

section
namespace Pl
open Go
def rightK:Nat→List UInt8→Bool
 | _,[]=>true
 | k+1,_::r=>rightK k r
 | 0,c::r=>(firstU (c::r)).2&&rightK ((firstU (c::r)).1 - 1) r
def rightL (s:List UInt8):Bool:=rightK 0 s
theorem rightK_skip:∀ (k:Nat) (s:List UInt8),rightK k s=rightL (s.drop k):=by
 intro k
 induction k with
 | zero=>intro s;rfl
 | succ k ih =>
   intro s
   cases s with
   | nil=>rfl
   | cons c r=>exact ih r
theorem rightL_cons (c:UInt8) (r:List UInt8):rightL (c::r)=((firstU (c::r)).2&&rightL ((c::r).drop (firstU (c::r)).1)):=by
 unfold rightL
 rw [rightK,rightK_skip]
 have h:=(firstU_pos c r).1
 obtain ⟨n,hn⟩:∃ n,(firstU (c::r)).1=n+1:=⟨(firstU (c::r)).1 - 1,zu4⟩
 rw [hn]
 rfl
end Pl
end

section
namespace Pl
open Go
def Sig (a:List UInt8):Prop:=a≠[]∧∀ Y,firstU (a++Y)=(a.length,true)
theorem right_app {a:List UInt8} (h:Sig a) (Y:List UInt8):rightL (a++Y)=rightL Y:=by
 obtain ⟨hne,h⟩:=h
 cases a with
 | nil=>exact absurd rfl hne
 | cons c r =>
   have:=h Y
   rw [List.cons_append] at this ⊢
   rw [rightL_cons,this]
   simp
theorem sig_ascii {c:UInt8} (h:c.toNat<128):Sig [c] :=
 ⟨zu19,fun Y=>by show firstN c.toNat _ _ _=_;unfold firstN;rw [if_pos h];rfl⟩
theorem right_ascii:∀ (w:List UInt8) (_:∀ c∈w,c.toNat<128) (Y:List UInt8),rightL (w++Y)=rightL Y:=by
 intro w
 induction w with
 | nil=>intro _ _;rfl
 | cons c w ih =>
   intro h Y
   rw [List.cons_append,← ih (fun x hx=>h x (by simp [hx])) Y]
   exact right_app (sig_ascii (h c zu19)) (w++Y)
theorem decL_right:∀ n (s:List UInt8),s.length≤n→rightL s=true→decL s=s:=by
 intro n
 induction n with
 | zero=>intro s h _;obtain rfl:=List.eq_nil_of_length_eq_zero (Nat.le_zero.1 h);rfl
 | succ n ih =>
   intro s h hr
   cases s with
   | nil=>rfl
   | cons c r =>
     rw [rightL_cons,Bool.and_eq_true] at hr
     have hp:=(firstU_pos c r).1
     rw [decL_cons,if_pos hr.1,ih _ zu47 hr.2,List.take_append_drop]
end Pl
end

section
namespace Hand
open Go Go.RowKit Pl Pb
def rowAt (T:List UInt8) (p:Nat) (key rest:List UInt8):Bool:=(T[p]? == some 10)&&(lnT T (p+1) == key++32::rest)
def wordAmp:List UInt8:=[97,109,112]
def wordLt:List UInt8:=[108,116]
def wordGt:List UInt8:=[103,116]
def wordQuot:List UInt8:=[113,117,111,116]
def wordNbsp:List UInt8:=[110,98,115,112]
theorem rows_are:(rowAt namesL 9820 (wordAmp++[59]) [50,54]&&(rowAt namesL 9813 wordAmp [50,54]&&(rowAt namesL 19023 (wordLt++[59]) [51,67]&&(rowAt namesL 15791 (wordGt++[59]) [51,69]&&(rowAt namesL 23656 (wordQuot++[59]) [50,50]&&rowAt namesL 20038 (wordNbsp++[59]) [65,48])))))=true:=by kernel_rfl
theorem row_fnd {p:Nat} {key rest:List UInt8} (h:rowAt namesL p key rest=true) (hk:∀ c∈key,c≠10∧c≠32):Fnd namesL key (some rest):=by
 unfold rowAt at h
 rw [Bool.and_eq_true,beq_iff_eq,beq_iff_eq] at h
 obtain ⟨h1,h2⟩:=h
 refine .inl ⟨p+1,.inr ⟨p,rfl,h1⟩,?_,?_⟩
 ·unfold kyT;rw [h2,ky_row hk]
 ·rw [h2];unfold rsL;rw [ky_row hk,List.drop_append,List.drop_eq_nil_of_le zu4,List.nil_append,show key.length+1 - key.length=1 by omega];rfl
theorem fnd_amp:Fnd namesL (wordAmp++[59]) (some [50,54]):=row_fnd (Bool.and_eq_true_iff.1 rows_are).1 zu15
theorem fnd_key {key rest:List UInt8} (h:Fnd namesL key (some rest)):isKey namesL key:=(fnd_rest h).2.2
theorem nameT_of {key rest:List UInt8} (h:Fnd namesL key (some rest)):nameT key=(textB (num1 rest) (num2 rest)).data.toList:=by unfold nameT;rw [rowN_eq h]
theorem nameT_amp:nameT (wordAmp++[59])=[38]:=by rw [nameT_of fnd_amp];decide +kernel
theorem lng_stop {k r:List UInt8} {c:UInt8} (hk:isKey namesL k) (hc:kyC c=false∧c≠59∨k.getLast? = some 59):lngN (k++c::r)=k.length:=by
 have hf:=key_facts hk
 refine lngN_eq ⟨?_,.inr (by rw [List.take_left];exact hk),fun m h1 h2 hm => ?_⟩
 ·have:=hf.le;simp;omega
 ·have hg:=key_facts hm
  have h2':m≤(k++c::r).length:=by omega
  obtain ⟨d,rfl⟩:∃ d,m=k.length+1+d:=⟨m - (k.length+1),zu4⟩
  have e:(k++c::r).take (k.length+1+d)=k++c::r.take d:=by
   rw [List.take_append,List.take_of_length_le zu4,show k.length+1+d - k.length=d+1 by omega,List.take_succ_cons]
  rw [e] at hg
  rcases hc with ⟨h3,h4⟩|h3
  ·
   cases hd:r.take d with
   | nil =>
     rw [hd] at hg
     obtain ⟨x,hx,hx2⟩:=hg.last
     simp at hx
     subst hx
     rcases hx2 with h|h
     ·rw [h3] at h;cases h
     ·exact h4 h
   | cons y t =>
     rw [hd] at hg
     have hmem:c∈(k++c::y::t).dropLast:=by
      rw [List.dropLast_append_of_ne_nil zu19]
      simp
     have:=hg.inner c hmem
     rw [h3] at this;cases this
  ·have hmem:(59:UInt8)∈(k++c::r.take d).dropLast:=by
    rw [List.dropLast_append_of_ne_nil zu19]
    exact List.mem_append_left _ (List.mem_of_getLast? h3)
   have:=hg.inner 59 hmem
   exact absurd this zu15
theorem num_letter {k r:List UInt8} (hk:isKey namesL k):numL (k++r)=none:=by
 have hf:=key_facts hk
 cases k with
 | nil=>exact absurd rfl hf.pos
 | cons c k =>
   have hh:=hf.head
   have h35:c≠35:=by rintro rfl;exact absurd hh (by simp [hdC])
   unfold numL
   rw [if_neg]
   simp [begR,h35]
   have:∀ n:Fin 256,lowB (UInt8.ofNat n.val)=35→UInt8.ofNat n.val=35:=by decide +kernel
   have h:=this ⟨c.toNat,c.toNat_lt⟩
   simp only [UInt8.ofNat_toNat] at h
   exact fun e=>h35 (h e)
theorem refN_semi {attr:Bool} {w:List UInt8} (r:List UInt8) (hk:isKey namesL (w++[59])):refN attr (38::(w++59::r))=(nameT (w++[59]),w.length+2):=by
 have hl:lngN (w++59::r)=w.length+1:=by
  cases r with
  | nil =>
    refine lngN_eq ⟨?_,.inr ?_,fun m h1 h2 _ => ?_⟩
    ·have:=(key_facts hk).le;simp at this ⊢;omega
    ·rw [List.take_of_length_le zu19];exact hk
    ·simp at h2;omega
  | cons c r =>
    have:=lng_stop (c:=c) (r:=r) hk (.inr zu19)
    rw [List.append_assoc] at this
    simpa using this
 have hn:numL (w++59::r)=none:=by
  have:=num_letter (r:=r) hk
  rwa [List.append_assoc] at this
 have ht:(w++59::r).take (w.length+1)=w++[59]:=by
  rw [List.take_append,List.take_of_length_le zu4,show w.length+1 - w.length=1 by omega];rfl
 unfold refN
 rw [List.drop_succ_cons,List.drop_zero,hn,hl,ht]
 simp only
 rw [if_neg,show 1+(w.length+1)=w.length+2 by omega]
 rintro (e|e)
 ·omega
 ·unfold leftL at e
  rw [show Lib.hasSuffix (w++[59]) [59]=true by unfold Lib.hasSuffix;simp] at e
  simp at e
theorem rdL_semi {attr:Bool} {w:List UInt8} (r:List UInt8) (hk:isKey namesL (w++[59])):rdL attr (38::(w++59::r))=nameT (w++[59])++rdL attr r:=by
 rw [rdL_amp,refN_semi r hk]
 simp only
 congr 2
 rw [List.drop_succ_cons,List.drop_append,List.drop_eq_nil_of_le zu4,show w.length+1 - w.length=1 by omega];rfl
end Hand
end

section
namespace Hand
open Go Go.RowKit Pl Pb
theorem dec_amp (attr:Bool) (r:List UInt8):rdL attr (wAmp++r)=38::rdL attr r:=by
 have:=rdL_semi (attr:=attr) (w:=wordAmp) r (fnd_key fnd_amp)
 exact this.trans (by rw [nameT_amp];rfl)
end Hand
end

section
namespace Hand
open Go Go.RowKit Pl Pb
theorem right_asc {x:List UInt8} (h:Asc x):rightL x=true:=by
 have:=right_ascii x h []
 rw [List.append_nil] at this
 exact this
end Hand
end

section
namespace Hand
open Go Go.RowKit Pl Pb Go.Proofs.YtclkdmmgibgamaaGreatDoor.Pure
theorem attrL_62 (L:List AttrT) (x:List UInt8):attrL L (62::x)=some (L,false,x):=by
 rw [attrL_eq,show spL (62::x)=62::x from rfl]
 simp only [if_true]
theorem spL_sp (r:List UInt8):spL (32::r)=spL r:=rfl
theorem attrL_sp (L:List AttrT) (r:List UInt8):attrL L (32::r)=attrL L r:=by rw [attrL_eq,attrL_eq L r,spL_sp]
theorem ends_ne {c:UInt8} (r name:List UInt8) (h:c≠60):endsL (c::r) name=false:=by
 cases he:endsL (c::r) name with
 | false=>rfl
 | true =>
   have:=ends_pref he
   simp [List.isPrefixOf] at this
   exact absurd this.1.symm h
theorem firstE_app (name:List UInt8) {s:List UInt8} (r:List UInt8) (h:(60:UInt8)∉s):firstE name (s++r)=s.length+firstE name r:=by
 induction s with
 | nil=>rw [List.nil_append];exact (Nat.zero_add _).symm
 | cons c s ih =>
   rw [List.mem_cons,not_or] at h
   rw [List.cons_append,firstE,if_neg (by rw [ends_ne _ _ (fun e=>h.1 e.symm)];decide),ih h.2,List.length_cons]
   omega
end Hand
end

section
namespace Hand
open Go Go.RowKit Pl Pb Go.Proofs.YtclkdmmgibgamaaGreatDoor.Pure
theorem mem_norm {c:UInt8} (hc:c≠10):∀ n (s:List UInt8),s.length≤n→c∈normL s→c∈s:=by
 intro n
 induction n with
 | zero=>intro s h hm;obtain rfl:=List.eq_nil_of_length_eq_zero (Nat.le_zero.1 h);exact hm
 | succ n ih =>
   intro s h hm
   cases s with
   | nil=>exact hm
   | cons d r =>
     simp only [List.length_cons] at h
     by_cases hd:d=13
     ·subst hd
      cases r with
      | nil=>rw [normL_13_end] at hm;exact absurd (List.mem_singleton.1 hm) hc
      | cons e r =>
        simp only [List.length_cons] at h
        by_cases he:e=10
        ·subst he
         rw [normL_13_10] at hm
         rcases List.mem_cons.1 hm with hm|hm
         ·exact absurd hm hc
         ·exact List.mem_cons_of_mem _ (List.mem_cons_of_mem _ (ih r zu4 hm))
        ·rw [normL_13_ne he] at hm
         rcases List.mem_cons.1 hm with hm|hm
         ·exact absurd hm hc
         ·exact List.mem_cons_of_mem _ (ih (e::r) zu25 hm)
     ·rw [normL_ne hd] at hm
      rcases List.mem_cons.1 hm with hm|hm
      ·rw [hm];exact List.mem_cons_self
      ·exact List.mem_cons_of_mem _ (ih r zu4 hm)
theorem no_norm {c:UInt8} (hc:c≠10) {s:List UInt8} (h:c∉s):c∉normL s:=fun hm=>h (mem_norm hc _ s (Nat.le_refl _) hm)
end Hand
end

section
namespace Hand
open Go Go.RowKit Pl Pb Go.Proofs.YtclkdmmgibgamaaGreatDoor.Pure
theorem put_app (k:Bool) (f:Fl) (a b:List UInt8):flPut k f (a++b)=flPut k (flPut k f a) b:=List.foldl_append ..
end Hand
end

section
namespace Hand
open Go Go.RowKit K0 Pl Pb Sa St Go.Proofs.YtclkdmmgibgamaaGreatDoor.Pure YtclkdmmgibgamaaGreatDoorW.PrintWords YtclkdmmgibgamaaGreatDoorW.PrintLast YtclkdmmgibgamaaGreatDoorW.PrintMore
theorem byt_conv (t:List UInt8) (W:World):∃ v W',(convert 9 22 (.string (B t))).run Tryz.prog W = .ok v W'∧Below W.heap.size W W'∧Byt t v W':=by
 have hconv:=Lib.run_convert_string_bytes (P:=Tryz.prog) W 9 22 5 (B t) Tryz.underlying9 Tryz.underlying22 Tryz.underlying5
 refine ⟨_,_,hconv,below_bytesWorld W 5 (B t),fun W' hb => ?_⟩
 rw [size_B]
 refine run_convert_bytes_back (P:=Tryz.prog) W' 22 9 5 ⟨W.heap.size,0,none⟩ _ t Tryz.underlying22 Tryz.underlying5 Tryz.underlying9 (fun j hj => ?_)
 have ha:(⟨W.heap.size,0,none⟩:Addr).add j=⟨W.heap.size,j,none⟩:=by unfold Addr.add;split<;>simp_all
 have hc:(Lib.bytesWorld W 5 (B t)).cell? ⟨W.heap.size,j,none⟩=some (.int .u8 (t[j].toNat:Int)):=by
  rw [Lib.bytesWorld_cell W 5 (B t) j (by rw [size_B];exact hj),B_data,List.getD_eq_getElem?_getD,List.getElem?_eq_getElem hj];rfl
 rw [ha]
 exact (hb.cell (World.block_lt_of_cell? _ _ hc)).trans hc
end Hand
end

section
namespace Hand
open Go Go.RowKit Pl Pb Go.Proofs.YtclkdmmgibgamaaGreatDoor.Pure
def awA:List UInt8:=[60,112,62,97,32,38,97,109,112,59,32,98,60,47,112,62,60,115,99,114,105,112,116,62,120,60,47,115,99,114,105,112,116,62,99]
theorem awA_norm:normL (decL (trimL awA))=awA:=by decide +kernel
theorem awA_drv:drvL awA=[.start [112] [] false,.text (rdL false [97,32,38,97,109,112,59,32,98]),.fin [112],.start scriptL [] false,.text [120],.fin scriptL,.text (rdL false [99])]:=by kernel_rfl
theorem awA_rd:rdL false [97,32,38,97,109,112,59,32,98]=[97,32,38,32,98]:=by
 rw [rdL_ne _ _ zu15,rdL_ne _ _ zu15]
 have:=dec_amp false [32,98]
 rw [rdL_no false (p:=[32,98]) zu15] at this
 exact congrArg (fun x=>97::32::x) this
theorem awA_ext:extL awA=[97,32,38,32,98,10,10,99]:=by
 unfold extL driveL
 rw [awA_norm,awA_drv,awA_rd,rdL_no false (p:=[99]) zu15]
 decide +kernel
theorem aw0_ext:extL []=[]:=by
 unfold extL
 rw [show normL (decL (trimL []))=[] by decide +kernel]
 unfold driveL
 rw [drvL_nil]
 decide +kernel
end Hand
end

section
namespace Hand
open Go Go.RowKit K0 Pl Pb Sa St Go.Proofs.YtclkdmmgibgamaaGreatDoor.Pure YtclkdmmgibgamaaGreatDoorW.PrintWords YtclkdmmgibgamaaGreatDoorW.PrintLast YtclkdmmgibgamaaGreatDoorW.PrintMore
theorem byt_lit (s:List UInt8) (w:World) (C:Array Value) (hC:C=(s.map fun b=>Value.int .u8 (b.toNat:Int)).toArray) (f:Nat×Nat) (c:Nat) :
  Byt s (.slice (some ⟨w.heap.size,0,none⟩) s.length c) (w.alloc (.cells C 5 f)):=fun W hb=>by
 refine run_convert_bytes_back (P:=Tryz.prog) W 22 9 5 ⟨w.heap.size,0,none⟩ _ s Tryz.underlying22 Tryz.underlying5 Tryz.underlying9 (fun j hj => ?_)
 have ha:(⟨w.heap.size,0,none⟩:Addr).add j=⟨w.heap.size,j,none⟩:=by unfold Addr.add;split<;>simp_all
 have hc:(w.alloc (.cells C 5 f)).cell? ⟨w.heap.size,j,none⟩=some (.int .u8 (s[j].toNat:Int)):=by
  subst hC
  have h1:(w.heap.push (.cells (s.map fun b=>Value.int .u8 (b.toNat:Int)).toArray 5 f))[w.heap.size]? = some (.cells (s.map fun b=>Value.int .u8 (b.toNat:Int)).toArray 5 f):=by simp
  have h2:(w.alloc (.cells (s.map fun b=>Value.int .u8 (b.toNat:Int)).toArray 5 f)).heap[w.heap.size]? = some (.cells (s.map fun b=>Value.int .u8 (b.toNat:Int)).toArray 5 f):=h1
  unfold World.cell?
  simp only [h2,Option.bind_some]
  simp [hj]
 rw [ha]
 exact (hb.cell (World.block_lt_of_cell? _ _ hc)).trans hc
theorem byt_nil (w:World):Byt [] (.slice none 0 0) w:=fun W _=>run_convert_bytes_nil (P:=Tryz.prog) W 22 5 Tryz.underlying22 Tryz.underlying5 0 0 9 Tryz.underlying9
theorem awake20_c (w:World) (hG:Glob w):Calls Tryz.prog 29 #[] w fun e w'=>e = .returned (.bool true)∧Below w.heap.size w w':=by
 have kc:=fun (w:World) (C:Array Value) (n c:Nat)=>Lib.run_convert_bytes_const (P:=Tryz.prog) w 22 5 C n c Tryz.underlying22 Tryz.underlying5
 have C1:Hid (∀ W v,Glob W→Byt awA v W→Calls Tryz.prog 15 #[v] W fun e w'=>e = .returned (.string ⟨#[97,32,38,32,98,10,10,99]⟩)∧Below W.heap.size W w'):=Lib.hid (fun W v hG hv=>by
  have:=extract_c awA v zu15 W hG hv
  rwa [awA_ext] at this)
 have C2:Hid (∀ W,Glob W→Calls Tryz.prog 15 #[.slice none 0 0] W fun e w'=>e = .returned (.string ⟨#[]⟩)∧Below W.heap.size W w'):=Lib.hid (fun W hG=>by
  have:=extract_c [] _ zu15 W hG (byt_nil W)
  rwa [aw0_ext] at this)
 have HG:=Lib.hid hG
 clear hG
 go_enter Tryz.func29,Tryz.ntmps29
 go_wp2_with fail
 have hb0:=below_alloc (Below.refl w.heap.size w) (.cells (awA.map fun b=>Value.int .u8 (b.toNat:Int)).toArray 5 (35,36))
 refine (C1.out _ _ (HG.out.step hb0) (byt_lit awA w _ rfl _ _)).mono ?_
 rintro e w1 ⟨rfl,hb⟩
 have HB:=Lib.hid (hb0.trans (hb.mono hb0.size))
 clear hb hb0
 go_wp2_with fail
 refine (C2.out _ (HG.out.step HB.out)).mono ?_
 rintro e w2 ⟨rfl,hb⟩
 replace HB:=Lib.hid (HB.out.trans (hb.mono HB.out.size))
 clear hb
 go_wp2_with fail
 go_ret
 exact ⟨rfl,HB.out⟩
end Hand
end

section
namespace Hand
open Go Go.RowKit Pl Pb Go.Proofs.YtclkdmmgibgamaaGreatDoor.Pure
theorem pgText_nil (p:Pg):pgText p []=p:=by
 unfold pgText
 split
 ·rename_i h;cases p;rfl
 ·rfl
theorem pgText_app (p:Pg) (a b:List UInt8):pgText (pgText p a) b=pgText p (a++b):=by
 unfold pgText
 by_cases h:p.op=[]
 ·rw [if_pos h,if_pos h,if_pos h,put_app]
 ·rw [if_neg h,if_neg h,if_neg h]
theorem render_cons (p:Pg) (t:Tk) (l:List Tk):renderP p (t::l)=renderP (pgTok p t) l:=rfl
theorem render_app (p:Pg) (a b:List Tk):renderP p (a++b)=renderP (renderP p a) b:=List.foldl_append ..
theorem render_txt (p:Pg) (s:List UInt8):renderP p (txtT s)=pgText p s:=by
 unfold txtT
 split
 ·rename_i h;rw [h,pgText_nil];rfl
 ·rfl
theorem render_join:∀ (l:List Tk) (p:Pg),renderP p (joinL l)=renderP p l:=by
 intro l
 induction l with
 | nil=>intro p;rfl
 | cons t r ih =>
   intro p
   cases ht:isTx t with
   | false=>rw [joinL_no r ht,render_cons,render_cons,ih]
   | true =>
     obtain ⟨s,rfl⟩:∃ s,t = .text s:=by cases t<;>first|exact ⟨_,rfl⟩|cases ht
     have h:=ih (pgText p s)
     rw [joinL,render_cons]
     show _=renderP (pgText p s) r
     rw [← h]
     split
     ·rename_i v r2 he
      rw [he,render_cons,render_cons]
      show renderP (pgText p (s++v)) r2=renderP (pgText (pgText p s) v) r2
      rw [pgText_app]
     ·rw [render_app,render_txt]
noncomputable def rnP (p:Pg) (l:List UInt8):Pg:=renderP p (drvL l)
theorem ext_rn (s:List UInt8):extL s=(rnP pg0 (normL (decL (trimL s)))).fl.told:=by
 unfold extL rnP renderL driveL
 rw [render_join]
theorem rn_text (p:Pg) {s r:List UInt8} (h:(60:UInt8)∉s) (hr:txN r=0):rnP p (s++r)=rnP (pgText p (rdL false s)) r:=by
 by_cases hs:s=[]
 ·subst hs;rw [rdL_nil,pgText_nil];rfl
 ·unfold rnP;rw [drvL_text hs h hr];rfl
theorem txN_beg {l:List UInt8} (h:begM l=true):txN l=0:=by
 cases l with
 | nil=>rfl
 | cons c r=>rw [txN,if_pos h]
theorem rn_end (p:Pg) {s:List UInt8} (h:(60:UInt8)∉s):rnP p s=pgText p (rdL false s):=by
 have:=rn_text p (r:=[]) h rfl
 rwa [List.append_nil] at this
theorem dw_name {n x:List UInt8} (hn:n.all stC=true) (hx:∀ d y,x=d::y→stC d=false):(n++x).dropWhile stC=x∧(n++x).takeWhile stC=n:=by
 induction n with
 | nil =>
   cases x with
   | nil=>exact ⟨rfl,rfl⟩
   | cons d y =>
     have:=hx d y rfl
     exact ⟨by rw [List.nil_append,List.dropWhile_cons,this];rfl,by rw [List.nil_append,List.takeWhile_cons,this];rfl⟩
 | cons c q ih =>
   rw [List.all_cons,Bool.and_eq_true] at hn
   obtain ⟨h1,h2⟩:=ih hn.2
   exact ⟨by rw [List.cons_append,List.dropWhile_cons,hn.1];exact h1,by rw [List.cons_append,List.takeWhile_cons,hn.1];exact congrArg _ h2⟩
structure Nm (n:List UInt8):Prop where
 let1:∃ c q,n=c::q∧isLetB c=true
 all:n.all stC=true
theorem tagN_open {n x:List UInt8} (h:Nm n):tagN (60::(n++x))=1:=by
 obtain ⟨c,q,rfl,hc⟩:=h.let1
 show tagN (60::c::(q++x))=1
 unfold tagN
 simp [hc]
theorem tagN_close {n x:List UInt8} (h:Nm n):tagN (60::47::(n++x))=2:=by
 obtain ⟨c,q,rfl,hc⟩:=h.let1
 show tagN (60::47::c::(q++x))=2
 unfold tagN
 simp [hc,show isLetB 47=false by decide]
theorem begX_open {n x:List UInt8} (h:Nm n):begM (60::(n++x))=true:=by unfold begM;rw [tagN_open h];rfl
theorem begX_close {n x:List UInt8} (h:Nm n):begM (60::47::(n++x))=true:=by unfold begM;rw [tagN_close h];rfl
def Stp (x:List UInt8):Prop := ∀ d y,x=d::y→stC d=false
theorem tokL_open {n x:List UInt8} (h:Nm n) (hx:Stp x) {al:List AttrT} {self:Bool} {r:List UInt8} (ha:attrL [] x=some (al,self,r)):tokL (60::(n++x))=(some (.start (cleanL (lowL n)) al self),r):=by
 obtain ⟨d1,d2⟩:=dw_name h.all hx
 unfold tokL
 rw [if_pos (by rw [tagN_open h];decide)]
 unfold tagL
 rw [tagN_open h,show (60::(n++x)).drop 1=n++x from rfl,d1,ha]
 simp only
 rw [if_neg zu15]
 unfold nameL
 rw [d2]
theorem tagR_close {n x:List UInt8} (h:Nm n) (hx:Stp x) {al:List AttrT} {self:Bool} {r:List UInt8} (ha:attrL [] x=some (al,self,r)):tagR (60::47::(n++x))=(some (.fin (cleanL (lowL n))),r)∧tokL (60::47::(n++x))=(some (.fin (cleanL (lowL n))),r):=by
 obtain ⟨d1,d2⟩:=dw_name h.all hx
 have e:tagL (60::47::(n++x))=(some (.fin (cleanL (lowL n))),r):=by
  unfold tagL
  rw [tagN_close h,show (60::47::(n++x)).drop 2=n++x from rfl,d1,ha]
  simp only
  rw [if_pos True.intro]
  unfold nameL
  rw [d2]
 refine ⟨?_,?_⟩
 ·unfold tagR;rw [if_neg (by rw [tagN_close h];decide),e]
 ·unfold tokL;rw [if_pos (by rw [tagN_close h];decide),e]
theorem rn_open (p:Pg) {n x:List UInt8} (h:Nm n) (hx:Stp x) {al:List AttrT} {self:Bool} {r:List UInt8} (ha:attrL [] x=some (al,self,r)) (hs:stateN (cleanL (lowL n))=0):rnP p (60::(n++x))=rnP (pgStart p (cleanL (lowL n))) r:=by
 unfold rnP
 rw [drvL_eq zu19,tokL_open h hx ha]
 unfold drv1
 simp only
 rw [hs]
 rfl
theorem rn_close (p:Pg) {n x:List UInt8} (h:Nm n) (hx:Stp x) {al:List AttrT} {self:Bool} {r:List UInt8} (ha:attrL [] x=some (al,self,r)):rnP p (60::47::(n++x))=rnP (pgEnd p (cleanL (lowL n))) r:=by
 unfold rnP
 rw [drvL_eq zu19,(tagR_close h hx ha).2]
 rfl
theorem rn_raw (p:Pg) {n x:List UInt8} (h:Nm n) (hx:Stp x) {al:List AttrT} {self:Bool} {r:List UInt8} (ha:attrL [] x=some (al,self,r)) {st:Nat} (hs:stateN (cleanL (lowL n))=st) (h1:1≤st) (h4:st≤3)
  {s m y:List UInt8} (hm:Nm m) (hy:Stp y) {al2:List AttrT} {self2:Bool} {r2:List UInt8} (ha2:attrL [] y=some (al2,self2,r2)) (hr:r=s++60::47::(m++y)) (hn:endN st (cleanL (lowL n)) r=s.length) :
  rnP p (60::(n++x))=rnP (pgEnd (pgText (pgStart p (cleanL (lowL n))) (rawT (st == 1) s)) (cleanL (lowL m))) r2:=by
 have hrest:restL st (cleanL (lowL n)) r=(txtT (rawT (st == 1) s)++[.fin (cleanL (lowL m))],r2):=by
  unfold restL
  rw [if_neg zu4,hn,hr,List.drop_left,List.take_left,if_neg zu19,(tagR_close hm hy ha2).1]
  rfl
 unfold rnP
 rw [drvL_eq zu19,tokL_open h hx ha]
 unfold drv1
 simp only
 rw [hs,hrest,render_app,render_cons,render_app,render_txt]
 rfl
theorem attr_end (x:List UInt8):attrL [] (62::x)=some ([],false,x):=attrL_62 [] x
theorem stp_end (x:List UInt8):Stp (62::x):=fun d y e=>by rw [← (List.cons.inj e).1];decide
theorem stp_sp (x:List UInt8):Stp (32::x):=fun d y e=>by rw [← (List.cons.inj e).1];decide
theorem asc_mark {s:List UInt8} (h:Asc s):trimL s=s∧decL s=s:=by
 refine ⟨?_,decL_right _ _ (Nat.le_refl _) (right_asc h)⟩
 unfold trimL
 rw [if_neg]
 intro e
 cases s with
 | nil=>cases e
 | cons c r =>
   have h1:=h c zu19
   have h2:c=239:=by
    rw [List.isPrefixOf_iff_prefix] at e
    obtain ⟨t,ht⟩:=e
    exact (List.cons.inj ht).1.symm
   rw [h2] at h1
   exact absurd h1 zu15
end Hand
end

section
namespace Hand
open Go Go.RowKit Pl Pb Go.Proofs.YtclkdmmgibgamaaGreatDoor.Pure
def nmP:List UInt8:=[112]
theorem low_p:cleanL (lowL nmP)=nmP:=by decide
theorem nm_p:Nm nmP:=⟨⟨112,[],rfl,zu15⟩,zu15⟩
theorem rn_tag (p:Pg) {n:List UInt8} (h:Nm n) (hl:cleanL (lowL n)=n) (hs:stateN n=0) (r:List UInt8):rnP p (60::(n++62::r))=rnP (pgStart p n) r:=by
 have:=rn_open p h (stp_end r) (attr_end r) (by rw [hl];exact hs)
 rwa [hl] at this
theorem rn_fin (p:Pg) {n:List UInt8} (h:Nm n) (hl:cleanL (lowL n)=n) (r:List UInt8):rnP p (60::47::(n++62::r))=rnP (pgEnd p n) r:=by
 have:=rn_close p h (stp_end r) (attr_end r)
 rwa [hl] at this
theorem start_line (f:Fl) {n:List UInt8} (h1:n≠nmBody) (h2:hidesB n=false) (h3:keepsB n=false):pgStart ⟨f,[],0⟩ n=⟨pgLines f n,[],0⟩:=by
 unfold pgStart
 simp only [if_neg h1,h2,h3]
 rfl
theorem end_line (f:Fl) {n:List UInt8} (h3:keepsB n=false):pgEnd ⟨f,[],0⟩ n=⟨pgLines f n,[],0⟩:=by
 unfold pgEnd
 simp only [lastIx,h3]
 rfl
theorem asc_app {a b:List UInt8} (ha:Asc a) (hb:Asc b):Asc (a++b):=fun d hd=>by
 rcases List.mem_append.1 hd with e|e
 ·exact ha d e
 ·exact hb d e
theorem asc_of {l:List UInt8} (h:l.all (fun c=>decide (c.toNat<128))=true):Asc l:=fun c hc=>of_decide_eq_true (List.all_eq_true.1 h c hc)
theorem lines_no (f:Fl) {n:List UInt8} (h:n≠nmBr) (hk:linesN n=0):pgLines f n=f:=by
 unfold pgLines
 rw [if_neg h,hk,if_pos rfl]
end Hand
end

section
namespace Hand
open Go Go.RowKit Pl Pb Go.Proofs.YtclkdmmgibgamaaGreatDoor.Pure
theorem find_plain:∀ (s:List UInt8) (r:List UInt8),(60:UInt8)∉s→(findL 0 0 (s++r)).1=s.length+(findL 0 0 r).1:=by
 intro s
 induction s with
 | nil=>intro r _;simp
 | cons c s ih =>
   intro r h
   rw [List.mem_cons,not_or] at h
   have hc:c≠60:=fun e=>h.1 e.symm
   have hs:stepF 0 0 (c::(s++r))=some (1,0,0):=by
    have hb:begR (c::(s++r)) [60,33,45,45]=false:=by
     cases hl:begR (c::(s++r)) [60,33,45,45] with
     | false=>rfl
     | true =>
       simp only [begR,Bool.and_eq_true,beq_iff_eq] at hl
       exact absurd (lowB_60' c hl.1) hc
    unfold stepF
    simp only
    rw [if_neg (by rw [ends_ne _ _ hc];simp),if_pos True.intro,hb]
    rfl
   rw [List.cons_append,findL_some hs]
   show 1+(findL 0 0 (s++r)).1=_
   rw [ih r h.2,List.length_cons]
   omega
theorem end_app {st:Nat} (h1:1≤st) (h3:st≤3) (n:List UInt8) {s:List UInt8} (r:List UInt8) (h:(60:UInt8)∉s) (h0:endN st n r=0):endN st n (s++r)=s.length:=by
 unfold endN at h0 ⊢
 by_cases c:st=1∨st=2
 ·rw [if_pos c] at h0 ⊢
  rw [firstE_app n r h,h0]
  rfl
 ·rw [if_neg c,if_pos zu4] at h0 ⊢
  rw [find_plain s r h,h0]
  rfl
end Hand
end

section
namespace Hand
open Go Go.RowKit Pl Pb Go.Proofs.YtclkdmmgibgamaaGreatDoor.Pure
theorem norm_cut {c:UInt8} (h:c≠10) (r:List UInt8):∀ (a:List UInt8) (b:Bool),normF b (a++c::r)=normF b a++normF false (c::r):=by
 intro a
 induction a with
 | nil =>
   intro b
   rw [List.nil_append]
   cases b with
   | false=>rfl
   | true=>rw [normF_true_ne h];rfl
 | cons d a ih =>
   intro b
   rw [List.cons_append]
   simp only [normF]
   split
   ·exact ih false
   ·split
    ·rw [ih true];rfl
    ·rw [ih false];rfl
theorem norm_mid {m:List UInt8} {c:UInt8} {q:List UInt8} (hm:m=c::q) (hc:c≠10) (h13:(13:UInt8)∉m) (a b:List UInt8):normL (a++(m++b))=normL a++(m++normL b):=by
 have h1:=norm_cut hc (q++b) a false
 have h2:=normL_pre (p:=m) b h13
 rw [hm] at h2 ⊢
 rw [List.cons_append] at h2 ⊢
 unfold normL at h2 ⊢
 rw [h1,h2]
theorem ext_mid {m a b:List UInt8} {c:UInt8} {q:List UInt8} (hm:m=c::q) (hc:c≠10) (h13:(13:UInt8)∉m) (ma:Asc m) (ha:Asc a) (hb:Asc b):extL (a++(m++b))=(rnP pg0 (normL a++(m++normL b))).fl.told:=by
 obtain ⟨h1,h2⟩:=asc_mark (asc_app ha (asc_app ma hb))
 rw [ext_rn,h1,h2,norm_mid hm hc h13]
def Idle (m:List UInt8):Prop:=(∀ r,txN (m++r)=0)∧∀ (f:Fl) (r:List UInt8),rnP ⟨f,[],0⟩ (m++r)=rnP ⟨f,[],0⟩ r
theorem text_kept (f:Fl) (s:List UInt8):pgText ⟨f,[],0⟩ s=⟨flPut false f s,[],0⟩:=by unfold pgText;rw [if_pos rfl];rfl
theorem idle_ext {m a b:List UInt8} (h:Idle m) {c:UInt8} {q:List UInt8} (hm:m=c::q) (hc:c≠10) (h13:(13:UInt8)∉m) (ma:Asc m) (ha:Asc a) (hb:Asc b) (a60:(60:UInt8)∉a) (b60:(60:UInt8)∉b) :
  extL (a++(m++b))=(flPut false (flPut false ⟨[],0,[]⟩ (rdL false (normL a))) (rdL false (normL b))).told:=by
 rw [ext_mid hm hc h13 ma ha hb,rn_text _ (no_norm zu15 a60) (h.1 _)]
 unfold pg0
 rw [text_kept,h.2,rn_end _ (no_norm zu15 b60),text_kept]
theorem idle_tag {n:List UInt8} (h:Nm n) (hl:cleanL (lowL n)=n) (hs:stateN n=0) (h1:n≠nmBody) (h2:hidesB n=false) (h3:keepsB n=false) (h4:n≠nmBr) (h5:linesN n=0):Idle (60::(n++[62])):=by
 have e:∀ r,60::(n++[62])++r=60::(n++62::r):=fun r=>by simp
 refine ⟨fun r=>by rw [e];exact txN_beg (begX_open h),fun f r => ?_⟩
 rw [e,rn_tag _ h hl hs,start_line f h1 h2 h3,lines_no f h4 h5]
theorem idle_fin {n:List UInt8} (h:Nm n) (hl:cleanL (lowL n)=n) (h3:keepsB n=false) (h4:n≠nmBr) (h5:linesN n=0):Idle (60::47::(n++[62])):=by
 have e:∀ r,60::47::(n++[62])++r=60::47::(n++62::r):=fun r=>by simp
 refine ⟨fun r=>by rw [e];exact txN_beg (begX_close h),fun f r => ?_⟩
 rw [e,rn_fin _ h hl,end_line f h3,lines_no f h4 h5]
def mkQ:List UInt8:=60::([113]++[62])
def mk0:List UInt8:=60::([98]++[62])
def mk1:List UInt8:=60::47::([105]++[62])
theorem idle_q:Idle mkQ:=idle_tag ⟨⟨113,[],rfl,zu15⟩,zu15⟩ zu15 zu15 zu15 zu15 zu15 zu15 zu15
theorem idle_0:Idle mk0:=idle_tag ⟨⟨98,[],rfl,zu15⟩,zu15⟩ zu15 zu15 zu15 zu15 zu15 zu15 zu15
theorem idle_1:Idle mk1:=idle_fin ⟨⟨105,[],rfl,zu15⟩,zu15⟩ zu15 zu15 zu15 zu15
def mk2:List UInt8:=[60,97,32,104,114,101,102,61,39,120,62,121,39,62]
theorem attr_2 (r:List UInt8):∃ al,attrL [] (32::104::114::101::102::61::39::120::62::121::39::62::r)=some (al,false,r):=by
 rw [attrL_sp,attrL_eq]
 have h1:(104::114::101::102::61::39::120::62::121::39::62::r:List UInt8)=104::([114,101,102]++61::39::120::62::121::39::62::r):=rfl
 rw [show spL (104::114::101::102::61::39::120::62::121::39::62::r)=104::114::101::102::61::39::120::62::121::39::62::r from rfl]
 simp only
 have hv:valA ((114::101::102::61::39::120::62::121::39::62::r:List UInt8).dropWhile nmC)=some ([120,62,121],62::r):=by
  rw [show (114::101::102::61::39::120::62::121::39::62::r:List UInt8).dropWhile nmC=61::39::120::62::121::39::62::r from rfl]
  unfold valA
  rw [show spL (61::39::120::62::121::39::62::r)=61::39::120::62::121::39::62::r from rfl]
  simp only
  rw [show spL (39::120::62::121::39::62::r)=39::120::62::121::39::62::r from rfl]
  simp only
  rw [if_pos zu15,if_pos zu19]
  rfl
 rw [if_neg zu15,if_neg zu15,hv]
 exact ⟨_,attrL_62 _ r⟩
theorem idle_2:Idle mk2:=by
 have hn:Nm [97]:=⟨⟨97,[],rfl,zu15⟩,zu15⟩
 refine ⟨fun r=>txN_beg (begX_open (n:=[97]) (x:=32::104::114::101::102::61::39::120::62::121::39::62::r) hn),fun f r => ?_⟩
 obtain ⟨al,ha⟩:=attr_2 r
 have h:=rn_open ⟨f,[],0⟩ hn (stp_sp _) ha zu15
 have e:mk2++r=60::([97]++32::104::114::101::102::61::39::120::62::121::39::62::r):=rfl
 rw [e,h,show cleanL (lowL [97])=[97] by decide,start_line f zu15 zu15 zu15,lines_no f zu15 zu15]
theorem idle_tok {m:List UInt8} {o:Option Tk} (ho:∀ p t,o=some t→pgTok p t=p) (hns:∀ n al s,o≠some (.start n al s)) (hb:∀ r,begM (m++r)=true) (hk:∀ r,tokL (m++r)=(o,r)) (hne:m≠[]):Idle m:=by
 refine ⟨fun r=>txN_beg (hb r),fun f r => ?_⟩
 unfold rnP
 rw [drvL_eq (by simp [hne]),hk]
 cases o with
 | none=>rfl
 | some t =>
   cases t with
   | start n al s=>exact absurd rfl (hns n al s)
   | fin n=>show renderP (pgTok _ _) (drvL r)=_;rw [ho _ _ rfl]
   | text s=>show renderP (pgTok _ _) (drvL r)=_;rw [ho _ _ rfl]
   | comment s=>rfl
   | doctype s=>rfl
def mk3:List UInt8:=[60,33,45,45,32,60,112,62,32,45,45,62]
def mk4:List UInt8:=[60,63,112,62]
def mk5:List UInt8:=[60,33,68,79,67,84,89,80,69,32,112,62]
def mk6:List UInt8:=[60,47,62]
theorem tok_cmt {l:List UInt8} (h0:tagN l=0) (hc:begC l=true):tokL l=(some (.comment (cleanL (readC l).1)),l.drop (readC l).2):=by
 unfold tokL;rw [if_neg (by rw [h0];simp),if_pos hc]
theorem idle_3:Idle mk3:=by
 have hr:∀ r,readC (mk3++r)=([32,60,112,62,32],12):=fun r=>by
  have e:endG [45,45,62] [45,45,33,62] (32::60::112::62::32::45::45::62::r)=some ([32,60,112,62,32],8):=by simp [endG,List.isPrefixOf]
  have hp:plainL (32::60::112::62::32::45::45::62::r)=([32,60,112,62,32],8):=by
   unfold plainL
   rw [if_neg (by simp [List.isPrefixOf]),if_neg (by simp [List.isPrefixOf]),e]
  unfold readC
  rw [if_pos (show begR (mk3++r) [60,33,45,45]=true by simp [mk3,begR,lowB]),show (mk3++r).drop 4=32::60::112::62::32::45::45::62::r from rfl,hp]
  rfl
 refine idle_tok (o:=some (.comment (cleanL [32,60,112,62,32]))) (fun p t e=>by cases e;rfl) (fun n al s e=>by cases e) (fun r=>rfl) (fun r => ?_) zu15
 rw [tok_cmt rfl rfl,hr]
 rfl
theorem idle_4:Idle mk4:=by
 have hr:∀ r,readC (mk4++r)=([63,112],4):=fun r=>by
  have e:otherL (63::112::62::r)=([63,112],3):=by simp [otherL,endG,List.isPrefixOf]
  unfold readC
  rw [if_neg (by simp [mk4,begR,lowB]),if_pos (show begR (mk4++r) [60,63]=true by simp [mk4,begR,lowB]),show (mk4++r).drop 1=63::112::62::r from rfl,e]
  rfl
 refine idle_tok (o:=some (.comment (cleanL [63,112]))) (fun p t e=>by cases e;rfl) (fun n al s e=>by cases e) (fun r=>rfl) (fun r => ?_) zu15
 rw [tok_cmt rfl rfl,hr]
 rfl
theorem idle_5:Idle mk5:=by
 refine idle_tok (o:=some (.doctype (cleanL [32,112]))) (fun p t e=>by cases e;rfl) (fun n al s e=>by cases e) (fun r=>rfl) (fun r => ?_) zu15
 unfold tokL
 rw [if_neg (by show ¬ (0≠0);simp),if_neg (by show ¬ (false=true);decide),if_pos (show begR (mk5++r) docL=true by simp [mk5,docL,begR,lowB])]
 have e:List.takeWhile (isNe 62) (32::112::62::r)=[32,112]:=rfl
 simp [mk5,upto,past,e]
theorem idle_6:Idle mk6:=by
 refine idle_tok (o:=none) (fun p t e=>by cases e) (fun n al s e=>by cases e) (fun r => ?_) (fun r => ?_) zu15
 ·have h:begR (mk6++r) voidL=true:=by simp [mk6,voidL,begR,lowB]
  unfold begM;rw [h];simp
 unfold tokL
 have h1:begR (mk6++r) docL=false:=by simp [mk6,docL,begR,lowB]
 have h2:begR (mk6++r) voidL=true:=by simp [mk6,voidL,begR,lowB]
 rw [if_neg (by show ¬ (0≠0);simp),if_neg (by show ¬ (false=true);decide),if_neg (by rw [h1];decide),if_pos h2]
 rfl
theorem hide_start (f:Fl) {n:List UInt8} (h1:n≠nmBody) (h2:hidesB n=true):pgStart ⟨f,[],0⟩ n=⟨f,[n],0⟩:=by
 unfold pgStart
 simp only [if_neg h1,h2,if_true]
 rfl
theorem hide_text (f:Fl) (n s:List UInt8):pgText ⟨f,[n],0⟩ s=⟨f,[n],0⟩:=by unfold pgText;rw [if_neg zu19]
theorem hide_end (f:Fl) (n:List UInt8):pgEnd ⟨f,[n],0⟩ n=⟨f,[],0⟩:=by
 unfold pgEnd
 simp [lastIx]
theorem hide_in (f:Fl) (n:List UInt8) {m:List UInt8} (h1:m≠nmBody) (h2:hidesB m=false):pgStart ⟨f,[n],0⟩ m=⟨f,[n],0⟩:=by
 unfold pgStart
 simp [h1,h2]
def nmTpl:List UInt8:=[116,101,109,112,108,97,116,101]
theorem nm_tpl:Nm nmTpl:=⟨⟨116,[101,109,112,108,97,116,101],rfl,zu15⟩,zu15⟩
theorem low_tpl:cleanL (lowL nmTpl)=nmTpl:=by decide
def mk9:List UInt8:=60::(nmTpl++62::60::(nmP++62::([120]++60::47::(nmTpl++[62]))))
theorem idle_9:Idle mk9:=by
 have e:∀ r,mk9++r=60::(nmTpl++62::(60::(nmP++62::([120]++60::47::(nmTpl++62::r))))):=fun r=>by simp [mk9]
 refine ⟨fun r=>by rw [e];exact txN_beg (begX_open nm_tpl),fun f r => ?_⟩
 rw [e,rn_tag _ nm_tpl low_tpl zu15,hide_start f zu15 zu15,rn_tag _ nm_p low_p zu15,hide_in f _ zu15 zu15,rn_text _ zu15 (txN_beg (begX_close nm_tpl)),hide_text,rn_fin _ nm_tpl low_tpl,hide_end]
theorem nm_scr:Nm scriptL:=⟨⟨115,[99,114,105,112,116],rfl,zu15⟩,zu15⟩
theorem low_scr:cleanL (lowL scriptL)=scriptL:=by decide
def mk7:List UInt8:=60::(scriptL++62::([60,112,62]++60::47::(scriptL++[62])))
theorem find_scr (r:List UInt8):(findL 0 0 ([60,112,62]++60::47::(scriptL++62::r))).1=3:=by
 have s1:stepF 0 0 (60::112::62::60::47::(scriptL++62::r))=some (1,0,0):=by simp [stepF,endsL,begR,lowB,scriptL]
 have s2:stepF 0 0 (112::62::60::47::(scriptL++62::r))=some (1,0,0):=by simp [stepF,endsL,begR,lowB,scriptL]
 have s3:stepF 0 0 (62::60::47::(scriptL++62::r))=some (1,0,0):=by simp [stepF,endsL,begR,lowB,scriptL]
 have s4:stepF 0 0 (60::47::(scriptL++62::r))=none:=by simp [stepF,endsL,begR,lowB,scriptL,stopAt,stops]
 show (findL 0 0 (60::112::62::60::47::(scriptL++62::r))).1=3
 rw [findL_some s1]
 show 1+(findL 0 0 (112::62::60::47::(scriptL++62::r))).1=3
 rw [findL_some s2]
 show 1+(1+(findL 0 0 (62::60::47::(scriptL++62::r))).1)=3
 rw [findL_some s3]
 show 1+(1+(1+(findL 0 0 (60::47::(scriptL++62::r))).1))=3
 rw [findL_none s4]
 rfl
theorem idle_7:Idle mk7:=by
 have e:∀ r,mk7++r=60::(scriptL++62::([60,112,62]++60::47::(scriptL++62::r))):=fun r=>by simp [mk7]
 refine ⟨fun r=>by rw [e];exact txN_beg (begX_open nm_scr),fun f r => ?_⟩
 have hs:stateN scriptL=3:=by decide
 rw [e,rn_raw _ nm_scr (stp_end _) (attr_end _) (st:=3) (by rw [low_scr];exact hs) zu15 zu15 nm_scr (stp_end r) (attr_end r) rfl (by
  unfold endN;rw [if_neg zu15,if_pos rfl];exact find_scr r),low_scr,hide_start f zu15 zu15,hide_text,hide_end]
theorem nm_sty:Nm styleW:=⟨⟨115,[116,121,108,101],rfl,zu15⟩,zu15⟩
theorem low_sty:cleanL (lowL styleW)=styleW:=by decide
def mk8:List UInt8:=60::(styleW++62::([112]++60::47::(styleW++[62])))
theorem idle_8:Idle mk8:=by
 have e:∀ r,mk8++r=60::(styleW++62::([112]++60::47::(styleW++62::r))):=fun r=>by simp [mk8]
 refine ⟨fun r=>by rw [e];exact txN_beg (begX_open nm_sty),fun f r => ?_⟩
 have hs:stateN styleW=2:=by decide
 have h0:endN 2 styleW (60::47::(styleW++62::r))=0:=by
  unfold endN;rw [if_pos (.inr rfl),firstE,if_pos (by simp [endsL,begR,lowB,styleW,stopAt,stops])]
 rw [e,rn_raw _ nm_sty (stp_end _) (attr_end _) (st:=2) (by rw [low_sty];exact hs) zu15 zu15 nm_sty (stp_end r) (attr_end r) rfl (by
  rw [low_sty];exact end_app zu15 zu15 styleW _ zu15 h0),low_sty,hide_start f zu15 zu15,hide_text,hide_end]
def marksL:List (List UInt8):=[mk0,mk1,mk2,mk3,mk4,mk5,mk6,mk7,mk8,mk9]
structure Mk (m:List UInt8):Prop where
 idle:Idle m
 hd:∃ q,m=60::q
 no13:(13:UInt8)∉m
 asc:Asc m
theorem mk_of {m:List UInt8} (h:Idle m) (h2:m.head? = some 60∧m.contains 13=false∧m.all (fun c=>decide (c.toNat<128))=true):Mk m:=by
 obtain ⟨h3,h4,h5⟩:=h2
 refine ⟨h,?_,fun e=>(by rw [List.contains_iff_mem.2 e] at h4;cases h4),asc_of h5⟩
 cases m with
 | nil=>cases h3
 | cons c q=>exact ⟨q,by rw [Option.some.inj h3]⟩
theorem mk_q:Mk mkQ:=mk_of idle_q zu15
theorem mk_at:∀ k,k<10→Mk (marksL.getD k []):=by
 intro k hk
 match k,hk with
 | 0,_=>exact mk_of idle_0 zu15
 | 1,_=>exact mk_of idle_1 zu15
 | 2,_=>exact mk_of idle_2 zu15
 | 3,_=>exact mk_of idle_3 zu15
 | 4,_=>exact mk_of idle_4 zu15
 | 5,_=>exact mk_of idle_5 zu15
 | 6,_=>exact mk_of idle_6 zu15
 | 7,_=>exact mk_of idle_7 zu15
 | 8,_=>exact mk_of idle_8 zu15
 | 9,_=>exact mk_of idle_9 zu15
theorem tags_same {m m':List UInt8} (h:Mk m) (h':Mk m') {a b:List UInt8} (ha:Asc a) (hb:Asc b) (a60:(60:UInt8)∉a) (b60:(60:UInt8)∉b):extL (a++(m++b))=extL (a++(m'++b)):=by
 obtain ⟨q,hq⟩:=h.hd
 obtain ⟨q',hq'⟩:=h'.hd
 rw [idle_ext h.idle hq zu15 h.no13 h.asc ha hb a60 b60,idle_ext h'.idle hq' zu15 h'.no13 h'.asc ha hb a60 b60]
end Hand
end

section
namespace Hand
open Go Go.RowKit K0 Pl Pb Sa St Go.Proofs.YtclkdmmgibgamaaGreatDoor.Pure YtclkdmmgibgamaaGreatDoorW.PrintWords YtclkdmmgibgamaaGreatDoorW.PrintLast YtclkdmmgibgamaaGreatDoorW.PrintMore
def PlnB (a:ByteArray) (n:Nat):Prop := ∀ i (h:i<a.size),i<n→a[i]≠60∧a[i]≠38∧a[i].toNat<128
theorem PlnB.succ {a:ByteArray} {k:Nat} (h:PlnB a k) (hk:k<a.size) (h1:a[k]≠60) (h2:a[k]≠38) (h3:a[k].toNat<128):PlnB a (k+1):=by
 intro i hi hik
 by_cases e:i=k
 ·subst e;exact ⟨h1,h2,h3⟩
 ·exact h i hi zu4
theorem PlnB.list {s:List UInt8} (h:PlnB (B s) (B s).size):(60:UInt8)∉s∧Asc s:=by
 have g:∀ i (h:i<s.length),s[i]≠60∧s[i].toNat<128:=fun i hi=>by
  have:=h i (by simpa using hi) (by simpa using hi)
  exact ⟨this.1,this.2.2⟩
 refine ⟨fun hm => ?_,fun c hc => ?_⟩
 ·obtain ⟨i,hi,e⟩:=List.mem_iff_getElem.1 hm
  exact (g i hi).1 e
 ·obtain ⟨i,hi,e⟩:=List.mem_iff_getElem.1 hc
  rw [← e];exact (g i hi).2
theorem PlnB.both {s t:List UInt8} (h:PlnB (B s++B t) (B s++B t).size):((60:UInt8)∉s∧Asc s)∧(60:UInt8)∉t∧Asc t:=by
 rw [B_append] at h
 have g:=PlnB.list h
 exact ⟨⟨fun m=>g.1 (List.mem_append_left _ m),fun c hc=>g.2 c (List.mem_append_left _ hc)⟩,fun m=>g.1 (List.mem_append_right _ m),fun c hc=>g.2 c (List.mem_append_right _ hc)⟩
theorem mark_len:∀ k,k<10→(marksL.getD k []).length≤30:=by decide
theorem tag_big (a b:ByteArray) (d:Int) (w:World) (h0:a.size≤140737488351232) (h1:b.size≤140737488351232) (hGl:Glob w) (h:100<a.size∨100<b.size) :
  Calls Tryz.prog 10 #[.string a,.string b,.int .u8 d] w fun e w'=>e = .returned (.bool true)∧Below w.heap.size w w':=by
 have AW:=Lib.hid (fun W hG=>awake20_c W hG)
 have HG:=Lib.hid hGl
 clear hGl
 have f1:(9223372036854775807<a.size+b.size)=False:=eq_false zu4
 clear h0 h1
 by_cases c1:100<a.size
 ·have q1:decide (100<a.size)=true:=decide_eq_true c1
  have q1':decide ((100:Int)<(a.size:Int))=true:=decide_eq_true zu4
  clear c1 h
  go_enter Tryz.func10,Tryz.ntmps10
  go_wp2_with fail
  refine (AW.out _ HG.out).mono ?_
  rintro e w1 ⟨rfl,hb⟩
  go_wp2_with fail
  go_ret
  exact ⟨rfl,hb⟩
 have q1:decide (100<a.size)=false:=decide_eq_false c1
 have q1':decide ((100:Int)<(a.size:Int))=false:=decide_eq_false zu4
 have c2:100<b.size:=by omega
 have q2:decide (100<b.size)=true:=decide_eq_true c2
 have q2':decide ((100:Int)<(b.size:Int))=true:=decide_eq_true zu4
 clear c1 c2 h
 go_enter Tryz.func10,Tryz.ntmps10
 go_wp2_with fail
 refine (AW.out _ HG.out).mono ?_
 rintro e w1 ⟨rfl,hb⟩
 go_wp2_with fail
 go_ret
 exact ⟨rfl,hb⟩
theorem modk {d:Int} (h:(Lit.int .u8 d).wf=true) (m:Nat) (hm:0<m) (hm2:m≤300):∃ k:Nat,d.tmod (m:Int)=(k:Int)∧k<m:=by
 have hw:IntKind.u8.min≤d∧d≤IntKind.u8.max:=by simpa [Lit.wf] using h
 have hd0:0≤d:=Int.le_trans zu15 hw.1
 have h1:(0:Int)≤d % (m:Int):=Int.emod_nonneg _ zu4
 have h2:d % (m:Int)<(m:Int):=Int.emod_lt_of_pos _ zu4
 refine ⟨(d % (m:Int)).toNat,?_,?_⟩
 ·rw [Int.tmod_eq_emod_of_nonneg hd0];omega
 ·omega
theorem u8_64 {d:Int} (h:(Lit.int .u8 d).wf=true):wrap64 d=d:=by
 have hw:IntKind.u8.min≤d∧d≤IntKind.u8.max:=by simpa [Lit.wf] using h
 have hd0:0≤d:=Int.le_trans zu15 hw.1
 have hd1:d≤255:=Int.le_trans hw.2 zu15
 unfold wrap64;omega
theorem lit_cell (W:World) (C:Array Value) (t:TypeId) (k:Nat) (x:Value) (h:C[k]? = some x):(W.alloc (.cells C t)).cell? ⟨W.heap.size,k,none⟩=some x:=by
 have h1:(W.heap.push (.cells C t))[W.heap.size]? = some (.cells C t):=by simp
 have h2:(W.alloc (.cells C t)).heap[W.heap.size]? = some (.cells C t):=h1
 unfold World.cell?
 simp only [h2]
 simpa using h
def marksV:Array Value := #[.string ⟨#[60,98,62]⟩,.string ⟨#[60,47,105,62]⟩,.string ⟨#[60,97,32,104,114,101,102,61,39,120,62,121,39,62]⟩,.string ⟨#[60,33,45,45,32,60,112,62,32,45,45,62]⟩,.string ⟨#[60,63,112,62]⟩,.string ⟨#[60,33,68,79,67,84,89,80,69,32,112,62]⟩,.string ⟨#[60,47,62]⟩,.string ⟨#[60,115,99,114,105,112,116,62,60,112,62,60,47,115,99,114,105,112,116,62]⟩,.string ⟨#[60,115,116,121,108,101,62,112,60,47,115,116,121,108,101,62]⟩,.string ⟨#[60,116,101,109,112,108,97,116,101,62,60,112,62,120,60,47,116,101,109,112,108,97,116,101,62]⟩]
theorem marksV_at:∀ k,k<10→marksV[k]? = some (.string (B (marksL.getD k [])))
 | 0,_=>rfl|1,_=>rfl|2,_=>rfl|3,_=>rfl|4,_=>rfl|5,_=>rfl|6,_=>rfl|7,_=>rfl|8,_=>rfl|9,_=>rfl
 | k+10,h=>by omega
theorem ExtractTags_law (a0 a1:ByteArray) (d:Int) (w:World) (h0:a0.size≤140737488351232) (h1:a1.size≤140737488351232) (w2:(Lit.int .u8 d).wf=true) (hGl:Glob w) :
  Calls Tryz.prog 10 #[.string a0,.string a1,.int .u8 d] w fun e w'=>e = .returned (.bool true)∧Below w.heap.size w w':=by
 by_cases hbig:100<a0.size∨100<a1.size
 ·exact tag_big a0 a1 d w h0 h1 hGl hbig
 obtain ⟨k,m1,hk⟩:=modk w2 10 zu15 zu15
 replace m1:d.tmod 10=(k:Int):=m1
 have m0:=u8_64 w2
 obtain ⟨s,rfl⟩:=exists_B a0
 obtain ⟨t,rfl⟩:=exists_B a1
 have hs:s.length≤100:=by rw [size_B] at hbig;omega
 have ht:t.length≤100:=by rw [size_B,size_B] at hbig;omega
 have q1:decide (100<(B s).size)=false:=decide_eq_false zu36
 have q1':decide ((100:Int)<((B s).size:Int))=false:=decide_eq_false zu36
 have q2:decide (100<(B t).size)=false:=decide_eq_false zu36
 have q2':decide ((100:Int)<((B t).size:Int))=false:=decide_eq_false zu36
 have hml:=mark_len k hk
 have hva:=marksV_at k hk
 have hmk:=mk_at k hk
 obtain ⟨m,hm⟩:∃ m,marksL.getD k []=m:=⟨_,rfl⟩
 rw [hm] at hml hva hmk
 have e1:B (s++(m++t))=B s++B m++B t:=by rw [← List.append_assoc,← B_append,← B_append]
 have e2:B (s++(mkQ++t))=B s++⟨#[60,113,62]⟩++B t:=by rw [← List.append_assoc,← B_append,← B_append];rfl
 have X1:Hid (PlnB (B s++B t) (B s++B t).size→∀ W v,Glob W→Byt (s++(m++t)) v W→Calls Tryz.prog 15 #[v] W fun e w'=>e = .returned (.string (B (extL (s++(mkQ++t)))))∧Below W.heap.size W w'):=Lib.hid (fun hp W v hG hv=>by
  have hh:=PlnB.both hp
  have:=extract_c _ v zu25 W hG hv
  rwa [tags_same hmk mk_q hh.1.2 hh.2.2 hh.1.1 hh.2.1] at this)
 have X2:Hid (∀ W v,Glob W→Byt (s++(mkQ++t)) v W→Calls Tryz.prog 15 #[v] W fun e w'=>e = .returned (.string (B (extL (s++(mkQ++t)))))∧Below W.heap.size W w'):=Lib.hid (fun W v hG hv=>extract_c _ v (by simp [mkQ];omega) W hG hv)
 have V1:=fun W=>byt_conv (s++(m++t)) W
 have V2:=fun W=>byt_conv (s++(mkQ++t)) W
 rw [e1] at V1
 rw [e2] at V2
 have AW:=Lib.hid (fun W hG=>awake20_c W hG)
 have HG:=Lib.hid hGl
 have zs:(B s).size≤100:=by rw [size_B];exact hs
 have zt:(B t).size≤100:=by rw [size_B];exact ht
 have zm:(B m).size≤30:=by rw [size_B];exact hml
 obtain ⟨R,hR⟩:∃ a,B (extL (s++(mkQ++t)))=a:=⟨_,rfl⟩
 obtain ⟨T1,hT1⟩:∃ l,s++(m++t)=l:=⟨_,rfl⟩
 obtain ⟨T2,hT2⟩:∃ l,s++(mkQ++t)=l:=⟨_,rfl⟩
 rw [hR] at X1 X2
 rw [hT1] at V1 X1
 rw [hT2] at V2 X2
 obtain ⟨a,ha⟩:∃ a,B s=a:=⟨_,rfl⟩
 obtain ⟨b,hb⟩:∃ a,B t=a:=⟨_,rfl⟩
 obtain ⟨M,hM⟩:∃ a,B m=a:=⟨_,rfl⟩
 rw [ha] at q1 q1' X1 V1 V2 zs ⊢
 rw [hb] at q2 q2' X1 V1 V2 zt ⊢
 rw [hM] at V1 zm hva
 have HV1:=Lib.hid V1
 have HV2:=Lib.hid V2
 have LC:=fun (W:World)=>lit_cell W marksV 9 k _ hva
 unfold marksV at LC
 have k0:(0:Int)≤(k:Int):=by omega
 have k1:(k:Int)<10:=by omega
 have f0:(9223372036854775807<a.size+b.size)=False:=eq_false zu4
 have f1:(9223372036854775807<a.size+M.size)=False:=eq_false zu4
 have f2:(9223372036854775807<a.size+M.size+b.size)=False:=eq_false zu4
 have f3:(9223372036854775807<a.size+3)=False:=eq_false zu4
 have f4:(9223372036854775807<a.size+3+b.size)=False:=eq_false zu4
 obtain ⟨c,hc⟩:∃ c,a++b=c:=⟨_,rfl⟩
 rw [hc] at X1
 have zc:c.size≤200:=by rw [← hc,ByteArray.size_append];omega
 clear ha hb hM hm hml hva hmk e1 e2 hs ht hR hT1 hT2 V1 V2 hGl w2 h0 h1 hbig
 go_enter Tryz.func10,Tryz.ntmps10
 go_wp2_with fail
 refine (AW.out _ HG.out).mono ?_
 rintro e w1 ⟨rfl,hb⟩
 have HB:=Lib.hid hb
 clear hb
 go_wp2_with fail
 go_loop [9] (fun i => ∃ j:Nat,j≤c.size∧i = .int .i64 j∧Hid (PlnB c j)) (fun i=>c.size - (intOf i).toNat)
 clear hc
 case atStart=>exact ⟨0,Nat.zero_le _,rfl,Lib.hid (fun i _ h=>by omega)⟩
 case round =>
  obtain ⟨j,hj,rfl,ho⟩:=hrel
  by_cases hlt:j<c.size
  ·have c0:decide ((j:Int)<((c.size:Nat):Int))=true:=decide_eq_true zu4
   by_cases h60:c[j]=60
   ·have e1:=byte_eq 60 h60
    clear h60 ho
    go_wp2_with fail
    go_ret
    exact ⟨rfl,HB.out⟩
   ·have e1:=byte_ne 60 h60
    by_cases h38:c[j]=38
    ·have e2:=byte_eq 38 h38
     clear h60 h38 ho
     go_wp2_with fail
     go_ret
     exact ⟨rfl,HB.out⟩
    ·have e2:=byte_ne 38 h38
     by_cases h128:c[j].toNat<128
     ·have e3:decide ((128:Int)≤((c[j].toNat:Nat):Int))=false:=decide_eq_false zu4
      have e3':decide (128≤c[j].toNat)=false:=decide_eq_false zu4
      have ho':=Lib.hid (ho.out.succ hlt h60 h38 h128)
      clear h60 h38 h128 ho
      go_wp2_with fail
      go_round
      case rel=>exact ⟨j+1,zu4,by go_num,ho'⟩
      case measure=>simp [intOf];omega
     ·have e3:decide ((128:Int)≤((c[j].toNat:Nat):Int))=true:=decide_eq_true zu4
      have e3':decide (128≤c[j].toNat)=true:=decide_eq_true zu4
      clear h60 h38 h128 ho
      go_wp2_with fail
      go_ret
      exact ⟨rfl,HB.out⟩
  ·obtain rfl:j=c.size:=by omega
   have c0:decide (((c.size:Nat):Int)<((c.size:Nat):Int))=false:=decide_eq_false zu4
   have XX:=Lib.hid (X1.out ho.out)
   clear X1 ho
   have HBa:=Lib.hid (below_alloc HB.out (.cells marksV 9))
   have hc1:=LC w1
   obtain ⟨v,w4,hv,hb,D⟩:=HV1.out (w1.alloc (.cells marksV 9))
   unfold marksV at hv
   have HB4:=Lib.hid (HBa.out.trans (hb.mono HBa.out.size))
   have HD:=Lib.hid D
   clear hb D HV1 HB HBa LC
   go_wp2_with fail
   refine (XX.out _ _ (HG.out.step HB4.out) HD.out).mono ?_
   rintro e w5 ⟨rfl,hb⟩
   have HB:=Lib.hid (HB4.out.trans (hb.mono HB4.out.size))
   clear hb hv HD HB4 XX hc1
   obtain ⟨v,w6,hv,hb,D⟩:=HV2.out w5
   have HB4:=Lib.hid (HB.out.trans (hb.mono HB.out.size))
   have HD:=Lib.hid D
   clear hb D HV2 HB
   go_wp2_with fail
   refine (X2.out _ _ (HG.out.step HB4.out) HD.out).mono ?_
   rintro e w7 ⟨rfl,hb⟩
   have HB:=Lib.hid (HB4.out.trans (hb.mono HB4.out.size))
   clear hb hv HD HB4 X2
   go_wp2_with fail
   go_ret
   exact ⟨zu19,HB.out⟩
end Hand
end

end Go.Proofs.YtclkdmmgibgamaaGreatDoor