/-
  Texts of the claim EscapeSigns, merged by a program of this session (1).
-/
import Derived.Test.YtclkdmmgibgamaaGreatDoorZug
import Derived.Lib.Replace
import Derived.Lib.CountLaws
import Derived.Lib.IndexLaws
import Derived.Below
import Derived.Deep.Draws
import Derived.Deep.AppendLies
import Derived.Maps.AppendAt
import Derived.OwnWalk
import Derived.Laws.BytesArg
import Derived.Laws.MakeOwn
import Derived.Laws.OwnMore
import Derived.Deep.OwnRows
import Derived.Tactics
import Derived.Lib.ConvBytes
import Derived.Laws.Slices
import Derived.WalkKit
import Derived.KernelRfl
import Derived.RowKit3
import Derived.Deep.LoopGhost
import Derived.Deep.QuietTactic
import Derived.BigQuiet
import Derived.WideLaws
import Derived.Deep.DeepCutAuto
import Derived.Deep.CutBlock
import Derived.Deep.RegionHeld3
import Derived.Laws.Rows
import Derived.Lib.AppendStr
import Derived.ArgAppend
import Derived.Laws.IdiomCopy
import Derived.RowKit
import Derived.Test.YtclkdmmgibgamaaGreatDoorProg
import Derived.OrdersHeld
import Derived.Laws.BitsLemmas
import Derived.Laws.Runes
import Derived.RangeFuncOwn
import Derived.RangeFuncKeeps
import Derived.Laws.RangeString
import Derived.LoopN
set_option linter.unusedVariables false
set_option linter.unusedSimpArgs false
namespace Go.Proofs.YtclkdmmgibgamaaGreatDoor
theorem zv1{p:Prop}(h:p:=by rw [ht.one];omega):p:=h
theorem zv2{p:Prop}(h:p:=by rw [ht.lo_,ht.hi_];exact not_not_intro hd):p:=h
end Go.Proofs.YtclkdmmgibgamaaGreatDoor
set_option maxRecDepth 100000
set_option maxHeartbeats 16000000
namespace Foot
end Foot
namespace Go.Proofs
end Go.Proofs
namespace Go.Proofs.YtclkdmmgibgamaaGreatDoor.Hand
end Go.Proofs.YtclkdmmgibgamaaGreatDoor.Hand
namespace Go.Proofs.YtclkdmmgibgamaaGreatDoor.K0
end Go.Proofs.YtclkdmmgibgamaaGreatDoor.K0
namespace Go.Proofs.YtclkdmmgibgamaaGreatDoor.Pb
end Go.Proofs.YtclkdmmgibgamaaGreatDoor.Pb
namespace Go.Proofs.YtclkdmmgibgamaaGreatDoor.Pcb
end Go.Proofs.YtclkdmmgibgamaaGreatDoor.Pcb
namespace Go.Proofs.YtclkdmmgibgamaaGreatDoor.Pcm
end Go.Proofs.YtclkdmmgibgamaaGreatDoor.Pcm
namespace Go.Proofs.YtclkdmmgibgamaaGreatDoor.Pl
end Go.Proofs.YtclkdmmgibgamaaGreatDoor.Pl
namespace Go.Proofs.YtclkdmmgibgamaaGreatDoor.Pure
end Go.Proofs.YtclkdmmgibgamaaGreatDoor.Pure
namespace Go.Proofs.YtclkdmmgibgamaaGreatDoor.RowKit
end Go.Proofs.YtclkdmmgibgamaaGreatDoor.RowKit
namespace Go.Proofs.YtclkdmmgibgamaaGreatDoor.Sa
end Go.Proofs.YtclkdmmgibgamaaGreatDoor.Sa
namespace Go.Proofs.YtclkdmmgibgamaaGreatDoor.Sf
end Go.Proofs.YtclkdmmgibgamaaGreatDoor.Sf
namespace Go.Proofs.YtclkdmmgibgamaaGreatDoor.Si
end Go.Proofs.YtclkdmmgibgamaaGreatDoor.Si
namespace Go.Proofs.YtclkdmmgibgamaaGreatDoor.Sk
end Go.Proofs.YtclkdmmgibgamaaGreatDoor.Sk
namespace Go.Proofs.YtclkdmmgibgamaaGreatDoor.St
end Go.Proofs.YtclkdmmgibgamaaGreatDoor.St
namespace Go.Proofs.YtclkdmmgibgamaaGreatDoor.Sx
end Go.Proofs.YtclkdmmgibgamaaGreatDoor.Sx
namespace Go.Proofs.YtclkdmmgibgamaaGreatDoorW.PrintLast
end Go.Proofs.YtclkdmmgibgamaaGreatDoorW.PrintLast
namespace Go.Proofs.YtclkdmmgibgamaaGreatDoorW.PrintMore
end Go.Proofs.YtclkdmmgibgamaaGreatDoorW.PrintMore
namespace Go.Proofs.YtclkdmmgibgamaaGreatDoorW.PrintWords
end Go.Proofs.YtclkdmmgibgamaaGreatDoorW.PrintWords
namespace Kd
end Kd

namespace Go.Proofs.YtclkdmmgibgamaaGreatDoor
section
namespace Pl
open Go
theorem cleanL_length (l:List UInt8):l.length≤(cleanL l).length∧(cleanL l).length≤3*l.length:=by
 induction l with
 | nil=>simp [cleanL]
 | cons c r ih =>
   have e:cleanL (c::r)=cleanB c++cleanL r:=rfl
   rw [e,List.length_append,List.length_cons]
   have h1:1≤(cleanB c).length∧(cleanB c).length≤3:=by unfold cleanB;split<;>simp
   omega
theorem normL_of_no13:∀ {l:List UInt8},(13:UInt8)∉l→normL l=l
 | [],_=>rfl
 | c::r,h=>by
   have h1:c≠13:=fun e=>h (by simp [e])
   rw [normL_ne h1,normL_of_no13 (fun e=>h (by simp [e]))]
end Pl
end

section
namespace Hand
open Go.RowKit
structure Live (w W:World) (L:List (Nat×Array Value)):Prop where
 glob:Glob W
 below:Below w.heap.size w W
 blk:∀ x∈L,x.1<W.heap.size∧Blk x.1 x.2 W
theorem Live.call {w W W':World} {L:List (Nat×Array Value)} (h:Live w W L) (hb:Below W.heap.size W W'):Live w W' L :=
 ⟨h.glob.step hb,h.below.trans (hb.mono h.below.size),fun x hx=>⟨Nat.lt_of_lt_of_le (h.blk x hx).1 hb.size,(h.blk x hx).2.below hb (h.blk x hx).1⟩⟩
end Hand
end

end Go.Proofs.YtclkdmmgibgamaaGreatDoor
section
set_option linter.unusedVariables false
set_option linter.unusedSimpArgs false
namespace Go.Proofs.YtclkdmmgibgamaaGreatDoorW.PrintWords
open Go.RowKit
section
variable {P : Program} {ops : Array Oper} {rest : List Oper} {o : Oper} {a : Act} {Q : Exit → Act → World → Prop}
end
section
variable {P : Program}
end
section
variable {P : Program} {ops : Array Oper} {rest : List Oper} {o : Oper} {a : Act} {Q : Exit → Act → World → Prop}
end
def LeO {α:Type} (a b:Option α):Prop := ∀ r,a=some r→b=some r
theorem LeO.refl {α:Type} (a:Option α):LeO a a:=fun _ h=>h
theorem LeO.none {α:Type} (b:Option α):LeO Option.none b:=fun _ h=>by cases h
theorem LeO.trans {α:Type} {a b c:Option α} (h:LeO a b) (k:LeO b c):LeO a c:=fun r hr=>k r (h r hr)
theorem more_rounds {α:Type} {g:Nat→Option α} (h:∀ k,LeO (g k) (g (k+1))) (k:Nat):∀ j,LeO (g k) (g (k+j))
 | 0=>LeO.refl _
 | j+1=>(more_rounds h k j).trans (h (k+j))
theorem at_rounds {α:Type} {g:Nat→Option α} (h:∀ k,LeO (g k) (g (k+1))) {k k':Nat} (hk:k≤k') {r:α} (hr:g k=some r):g k'=some r:=by
 have:=more_rounds h k (k' - k) r hr
 rwa [Nat.add_sub_cancel' hk] at this
section
variable {P : Program} {ops : Array Oper} {rest : List Oper} {o : Oper} {a : Act} {Q : Exit → Act → World → Prop}
end
theorem KeepBut.blk {w w1:World} {g g':Nat} {row:Option Nat} {o:Obj} (h:KeepBut w w1 g row) (hb:w.heap[g']? = some o) (hg:g'≠g) (hr:some g'≠row):w1.heap[g']? = some o:=(h.2 g' (blk_lt hb) hg hr).trans hb
theorem KeepBut.own {w w1:World} {g:Nat} {row:Option Nat} {base:Nat} {e:TypeId} {size n:Nat} {v:Value} {xs:List Value} (h:KeepBut w w1 g row) (ho:w.ownsRow base e size v n xs) (hg:v.ownBlock≠some g) (hr:v.ownBlock=none∨v.ownBlock≠row):w1.ownsRow base e size v n xs:=by
 obtain ⟨h1,h2⟩:=ho
 refine ⟨h1,?_⟩
 rcases h2 with h2|⟨b,cap,cur,rfl,hb,hh,r⟩
 ·exact .inl h2
 ·refine .inr ⟨b,cap,cur,rfl,hb,h.blk hh ?_ ?_,r⟩
  ·intro e
   exact hg (by rw [← e];rfl)
  ·rcases hr with hr|hr
   ·simp [Value.ownBlock] at hr
   ·exact hr
theorem Ev.of {α:Type} {g:Nat→Option α} {r:α} (hg:∀ k,LeO (g k) (g (k+1))) {k:Nat} (h:g k=some r):Ev g r:=⟨k,fun _ hk=>at_rounds hg hk h⟩
section
variable {P : Program} {ops : Array Oper} {o : Oper} {a : Act} {Q : Exit → Act → World → Prop} {K : Act → World → Prop}
end
section
variable {α : Type} {enc : α → Value} {d : α}
end
section
variable {α : Type} {P : Program} {ops : Array Oper} {rest : List Oper} {o : Oper} {a : Act} {Q : Exit → Act → World → Prop}
end
section
variable {P : Program}
end
section
variable {α : Type} {R R' : α → List Value → Prop} {e : TypeId} {size : Nat} {w w1 : World} {base : Nat} {v : Value} {ps : List α}
end
section
variable {P : Program} {ops : Array Oper} {rest : List Oper} {o : Oper} {a : Act} {Q : Exit → Act → World → Prop} {α : Type} {R : α → List Value → Prop}
end
section
variable {P : Program} {ops : Array Oper} {o : Oper} {a : Act} {Q : Exit → Act → World → Prop} {K : Act → World → Prop} {α : Type} {R : α → List Value → Prop}
end
section
variable {α : Type} {P : Program}
end
section
variable {P : Program} {ops : Array Oper} {rest : List Oper} {o : Oper} {a : Act} {Q : Exit → Act → World → Prop}
end
namespace Kd
section
variable {α : Type} {d : Kd α} {e : Nat} {w w1 : World} {base : Nat} {ok ok' : Nat → Prop} {v : Value} {xs : List α}
end
section
variable {P : Program} {ops : Array Oper} {rest : List Oper} {o : Oper} {a : Act} {Q : Exit → Act → World → Prop} {α : Type}
end
section
variable {P : Program} {ops : Array Oper} {o : Oper} {a : Act} {Q : Exit → Act → World → Prop} {Kc : Act → World → Prop} {α : Type}
end
end Kd
namespace Kd
section
variable {α : Type} {F : Kd α → Kd α} {sz : Nat} {E : List Nat} {hs : ∀ n, (upto F sz E n).sz = sz} {hE : ∀ n q, q ∈ (upto F sz E n).E → q ∈ E}
end
end Kd
namespace Kd
end Kd
namespace Kd
section
variable {α β : Type} {d : Kd α} {d' : Kd β} {e e' : Nat} {w w1 W : World} {base b b' : Nat} {ok ok' okv oku : Nat → Prop} {v u : Value} {xs : List α} {ys : List β}
end
section
variable {w W : World} {A : Option Addr} {n : Nat}
variable {α : Type} {enc : α → Value} {h1 : ∀ x, (enc x).oneCell' = true} {e base g cap : Nat} {ok : Nat → Prop} {xs : List α}
end
section
variable {P : Program} {ops : Array Oper} {rest : List Oper} {o : Oper} {a : Act} {Q : Exit → Act → World → Prop}
variable {α : Type}
end
end Kd
section
variable {P : Program}
end
section
variable {w w1 : World} {base n size : Nat} {e : TypeId} {v : Value} {xs : List Value}
end
section
variable {P : Program}
end
namespace Kd
section
variable {α : Type} {d : Kd α} {e : Nat} {w w1 W : World} {base : Nat} {ok ok' : Nat → Prop} {v : Value} {xs : List α}
end
section
variable {P : Program} {ops : Array Oper} {rest : List Oper} {o : Oper} {a : Act} {Q' : Exit → Act → World → Prop} {Kc : Act → World → Prop} {α : Type}
end
end Kd
namespace Kd
section
variable {α : Type} {d : Kd α} {e e' : Nat} {w w1 W : World} {base : Nat} {ok : Nat → Prop} {u v : Value} {xs : List α}
end
end Kd
namespace Kd
section
variable {α : Type} {d : Kd α} {e base g n cap : Nat} {ok okp : Nat → Prop} {W : World} {xs : List α}
end
end Kd
namespace Kd
section
variable {α : Type} {F : Kd α → Kd α} {sz : Nat} {E : List Nat} {hs : ∀ n, (upto F sz E n).sz = sz} {hE : ∀ n q, q ∈ (upto F sz E n).E → q ∈ E}
end
end Kd
namespace Kd
section
variable {P : Program} {ops : Array Oper} {rest : List Oper} {o : Oper} {a : Act} {Q : Exit → Act → World → Prop} {α : Type}
end
end Kd
namespace Kd
section
variable {P : Program} {ops : Array Oper} {rest : List Oper} {o : Oper} {a : Act} {Q : Exit → Act → World → Prop} {α : Type}
end
end Kd
namespace Kd
section
variable {α : Type} {k : Kd α} {w : World} {A : Option Addr} {xs : List α} {m c : Nat}
end
end Kd
section
variable {P : Program}
end
namespace Kd
section
variable {α β : Type} {d : Kd α} {d' : Kd β} {e e' base base' n : Nat} {ok ok' : Nat → Prop} {w W w1 W1 : World} {v u : Value} {xs : List α} {ys : List β} {A : Option Addr} {c : Nat}
end
section
variable {α : Type} {enc : α → Value} {h1 : ∀ x, (enc x).oneCell' = true} {w W : World} {A : Option Addr} {n g : Nat} {xs : List α}
end
end Kd
namespace Kd
section
variable {α : Type} {d : Kd α} {e base g : Nat} {ok : Nat → Prop} {w w1 : World} {v : Value} {xs : List α} {o : Obj}
end
end Kd
section
variable {P : Program} {ops : Array Oper} {rest : List Oper} {o : Oper} {a : Act} {Q : Exit → Act → World → Prop}
end
namespace Kd
section
variable {α : Type} {enc : α → Value} {h1 : ∀ x, (enc x).oneCell' = true} {e base g n cap : Nat} {ok : Nat → Prop} {W : World} {xs : List α}
end
end Kd
section
variable {P : Program} {ops : Array Oper} {rest : List Oper} {o : Oper} {a : Act} {Q : Exit → Act → World → Prop}
end
namespace Kd
section
variable {α : Type} {enc : α → Value} {h1 : ∀ x, (enc x).oneCell' = true} {e base g n cap : Nat} {ok : Nat → Prop} {W : World} {xs : List α}
end
end Kd
section
variable {P : Program} {ops : Array Oper} {rest : List Oper} {o : Oper} {a : Act} {Q : Exit → Act → World → Prop} {W : World}
end
section
variable {P : Program} {ops : Array Oper} {o : Oper} {a : Act} {Q : Exit → Act → World → Prop} {Kc : Act → World → Prop}
namespace Kd
variable {α : Type}
end Kd
end
section
variable {P : Program} {tmps : Array Value} {w : World}
end
namespace Kd
section
variable {P : Program} {α : Type}
end
section
variable {P : Program} {ops : Array Oper} {rest : List Oper} {o : Oper} {a : Act} {Q : Exit → Act → World → Prop} {Kc : Act → World → Prop} {α : Type}
end
end Kd
end Go.Proofs.YtclkdmmgibgamaaGreatDoorW.PrintWords
end

section
namespace Go.Proofs.YtclkdmmgibgamaaGreatDoorW.PrintWords
open Go.RowKit
namespace Kd
section
variable {α β : Type} {d : Kd α} {d' : Kd β} {e e' : Nat} {w w1 W : World} {base b : Nat} {ok ok' okv oku : Nat → Prop} {u v : Value} {xs : List α} {ys : List β}
end
section
variable {α β : Type} {d : Kd α} {d' : Kd β} {e e' g : Nat} {w w1 W : World} {base b : Nat} {ok ok' okv oku : Nat → Prop} {u v : Value} {xs : List α} {ys : List β}
end
section
variable {P : Program} {ops : Array Oper} {rest : List Oper} {o : Oper} {a : Act} {Q : Exit → Act → World → Prop} {Kc : Act → World → Prop} {α : Type}
end
def gap {α:Type} (f:Nat→Nat) (d:Kd α) (i:Nat) (c:List Value):Kd (α×Nat) where
 sz:=d.sz
 E:=d.E
 K:=fun w x cs=>(x.2=i→cs=c∧cs.length=d.sz∧∀ u∈cs,u.oneCell'=true)∧(x.2≠i→d.K w x.1 cs)
 M:=fun w base ok x cs=>(x.2=i→cs=c∧cs.length=d.sz∧∀ u∈cs,u.oneCell'=true)∧(x.2≠i→d.M w base (fun k=>ok k∧f k=x.2) x.1 cs)
 K_len:=fun {w x cs} h=>by
  by_cases hx:x.2=i
  ·exact (h.1 hx).2.1
  ·exact d.K_len (h.2 hx)
 K_one:=fun {w x cs} h=>by
  by_cases hx:x.2=i
  ·exact (h.1 hx).2.2
  ·exact d.K_one (h.2 hx)
 K_below:=fun hb h=>⟨h.1,fun hx=>d.K_below hb (h.2 hx)⟩
 K_of_M:=fun h=>⟨h.1,fun hx=>d.K_of_M (h.2 hx)⟩
 M_mono:=fun hok h=>⟨h.1,fun hx=>d.M_mono (fun k hk=>⟨hok k hk.1,hk.2⟩) (h.2 hx)⟩
 M_bound:=fun h=>⟨h.1,fun hx=>d.M_mono (fun _ hk=>⟨⟨hk.1.1,hk.2⟩,hk.1.2⟩) (d.M_bound (h.2 hx))⟩
 M_move:=fun hm h=>⟨h.1,fun hx=>d.M_move (fun k hk=>hm k hk.1) (h.2 hx)⟩
 M_lower:=fun hb h=>⟨h.1,fun hx=>d.M_lower hb (h.2 hx)⟩
def H {α:Type} (d:Kd α) (e:Nat) (w:World) (base:Nat) (ok:Nat→Prop) (v:Value) (xs:List α) (i:Int) (oki:Nat→Prop) (c:List Value):Prop :=
 (∀ k,oki k→ok k)∧∃ f,(gap f d i.toNat c).R e w base (fun k=>ok k∧¬ oki k) v xs.zipIdx
section
variable {α β : Type} {d : Kd α} {e e' g n cap : Nat} {w w1 W : World} {base : Nat} {ok ok' oki okp : Nat → Prop} {u v : Value} {xs : List α} {i : Int} {c : List Value}
end
section
variable {P : Program} {ops : Array Oper} {rest : List Oper} {o : Oper} {a : Act} {Q : Exit → Act → World → Prop} {α : Type}
end
end Kd
end Go.Proofs.YtclkdmmgibgamaaGreatDoorW.PrintWords
end

section
namespace Go.Proofs.YtclkdmmgibgamaaGreatDoorW.PrintWords
open Go.RowKit
namespace Kd
structure Heap {α:Type} (d:Kd α):Prop where
 K:∀ {w w1:World} {x:α} {cs:List Value},(∀ k,k<w.heap.size→w1.heap[k]? = w.heap[k]?)→d.K w x cs→d.K w1 x cs
theorem cell_heap {w w1:World} (hb:∀ k,k<w.heap.size→w1.heap[k]? = w.heap[k]?) {a:Addr} {v:Value} (h:w.cell? a=some v):w1.cell? a=some v:=by
 have:=hb a.block (World.block_lt_of_cell? w a h)
 simpa [World.cell?,this] using h
theorem Heap.C {α:Type} {d:Kd α} (hd:Heap d) {w w1:World} {A:Option Addr} {n:Nat} {xs:List α} (hb:∀ k,k<w.heap.size→w1.heap[k]? = w.heap[k]?) (h:d.C w A n xs):d.C w1 A n xs :=
 ⟨h.1,h.2.1,fun hn=>by
   obtain ⟨ad,e,hc⟩:=h.2.2 hn
   refine ⟨ad,e,fun j p hj => ?_⟩
   obtain ⟨c,hs,hr,hcell⟩:=hc j p hj
   exact ⟨c,hs,hd.K hb hr,fun i u hu=>cell_heap hb (hcell i u hu)⟩⟩
section
variable {α : Type} {d : Kd α} {e base g n c : Nat} {ok : Nat → Prop} {w w0 W : World} {A : Option Addr} {xs : List α}
end
end Kd
end Go.Proofs.YtclkdmmgibgamaaGreatDoorW.PrintWords
end

section
namespace Go.Proofs.YtclkdmmgibgamaaGreatDoorW.PrintWords
open Go.RowKit
def Kept (w W:World) (S:Nat→Prop):Prop:=w.heap.size≤W.heap.size∧∀ i,i<w.heap.size→¬ S i→W.heap[i]? = w.heap[i]?
section
variable {w W W2 : World} {S S2 S' : Nat → Prop}
theorem Kept.mono (h:Kept w W S) (hs:∀ k,S k→S' k):Kept w W S':=⟨h.1,fun i hi hn=>h.2 i hi (fun hk=>hn (hs i hk))⟩
end
namespace Kd
section
variable {α : Type} {d : Kd α} {e base n c : Nat} {ok oki S S2 : Nat → Prop} {w w0 W W1 W2 : World} {v : Value} {A : Option Addr} {xs : List α} {i : Int} {cs : List Value}
end
end Kd
end Go.Proofs.YtclkdmmgibgamaaGreatDoorW.PrintWords
end

section
namespace Go.Proofs.YtclkdmmgibgamaaGreatDoorW.PrintWords
theorem Reps.front {α:Type} {R:α→List Value→Prop} {size:Nat} {ps:List α} {cs c all:List Value} {p:α} (hp:R p c) (hc:c.length=size) (h:Reps R size ps cs) (ha:c++cs=all):Reps R size (p::ps) all:=by
 subst ha
 refine ⟨by rw [List.length_append,hc,h.1,List.length_cons,Nat.succ_mul,Nat.add_comm],fun j q hq => ?_⟩
 cases j with
 | zero =>
   simp only [List.getElem?_cons_zero,Option.some.injEq] at hq
   subst hq
   rw [Nat.zero_mul,List.drop_zero,List.take_append_of_le_length (by omega),List.take_of_length_le (by omega)]
   exact hp
 | succ j =>
   simp only [List.getElem?_cons_succ] at hq
   have h1:=h.2 j q hq
   rw [Nat.succ_mul,List.drop_append,List.drop_of_length_le (by rw [hc];exact Nat.le_add_left _ _),List.nil_append,hc,Nat.add_sub_cancel]
   exact h1
theorem Reps.c5 {α:Type} {R:α→List Value→Prop} {ps:List α} {cs:List Value} {p:α} {va vb vc vd ve:Value} (hp:R p [va,vb,vc,vd,ve]) (h:Reps R 5 ps cs):Reps R 5 (p::ps) (va::vb::vc::vd::ve::cs):=Reps.front hp rfl h rfl
end Go.Proofs.YtclkdmmgibgamaaGreatDoorW.PrintWords
end

namespace Go.Proofs.YtclkdmmgibgamaaGreatDoor
section
namespace K0
open Go.RowKit YtclkdmmgibgamaaGreatDoorW.PrintWords YtclkdmmgibgamaaGreatDoorW.PrintLast YtclkdmmgibgamaaGreatDoorW.PrintMore
attribute [local go_sem] max2_int min2_int max_two min_two max_three min_three max_four min_four  
set_option linter.unusedVariables false
set_option linter.unusedSimpArgs false
structure S7 where
 f0:Int
 f1:Int
 f2:Bool
 f3:Int
structure S8 where
 f0:Int
 f1:Int
 f2:Bool
 f3:Int
def k8:Kd S8:=Kd.iso (Kd.pair (Kd.int .i64) (Kd.pair (Kd.int .i64) (Kd.pair Kd.bool (Kd.int .u8)))) (fun x:S8=>(x.f0,x.f1,x.f2,x.f3))
structure S13 where
 f0:ByteArray
 f1:Int
def k13:Kd S13:=Kd.iso (Kd.pair Kd.string (Kd.int .u64)) (fun x:S13=>(x.f0,x.f1))
structure S14 where
 f0:ByteArray
 f1:Int
def k14:Kd S14:=Kd.iso (Kd.pair Kd.string (Kd.int .u64)) (fun x:S14=>(x.f0,x.f1))
structure S29 where
 f0:Int
 f1:ByteArray
 f2:ByteArray
 f3:(List S105)
 f4:Bool
structure S97 where
 f0:Int
 f1:Int
structure S98 where
 f0:Int
 f1:Int
structure S104 where
 f0:ByteArray
 f1:ByteArray
structure S122 where
 f0:ByteArray
 f1:Int
structure S123 where
 f0:ByteArray
 f1:Int
structure S148 where
 f0:Int
 f1:Int
structure S149 where
 f0:Int
 f1:Int
structure S169 where
 f0:ByteArray
 f1:Int
structure S170 where
 f0:ByteArray
 f1:Int
structure S224 where
 f0:Int
 f1:Int
structure S225 where
 f0:Int
 f1:Int
structure S264 where
 f0:ByteArray
structure S265 where
 f0:ByteArray
end K0
end

section
namespace Hand
open Go Go.RowKit Pl Pb
def kyC (c:UInt8):Bool:=(decide (65≤c.toNat)&&decide (c.toNat≤90)) || (decide (97≤c.toNat)&&decide (c.toNat≤122)) || (decide (48≤c.toNat)&&decide (c.toNat≤57))
def hdC:List UInt8→Bool
 | []=>false
 | c::_=>(decide (65≤c.toNat)&&decide (c.toNat≤90)) || (decide (97≤c.toNat)&&decide (c.toNat≤122))
def keyOk (l:List UInt8):Bool:=decide ((kyL l).length≤32)&&((kyL l).dropLast.all kyC&&(hdC (kyL l)&&(match (kyL l).getLast? with|some c=>kyC c || c == 59|none=>false)))
def keysOk (T:List UInt8):Bool:=keyOk (linesOf T).1&&(linesOf T).2.all keyOk
theorem names_keys:keysOk namesL=true:=by kernel_rfl
theorem keys_all {T:List UInt8} (h:keysOk T=true) (p:Nat) (hp:St T p):keyOk (lnT T p)=true:=by
 unfold keysOk at h
 rw [Bool.and_eq_true,List.all_eq_true] at h
 rcases hp with rfl|⟨q,rfl,hq⟩
 ·rw [lines_head];exact h.1
 ·exact h.2 _ (lines_mem T q hq)
structure KeyP (k:List UInt8):Prop where
 le:k.length≤32
 pos:k≠[]
 inner:∀ c∈k.dropLast,kyC c=true
 head:hdC k=true
 last:∃ c,k.getLast? = some c∧(kyC c=true∨c=59)
theorem key_facts {k:List UInt8} (h:isKey namesL k):KeyP k:=by
 obtain ⟨p,h1,rfl⟩:=h
 have:=keys_all names_keys p h1
 unfold keyOk at this
 rw [Bool.and_eq_true,Bool.and_eq_true,Bool.and_eq_true,decide_eq_true_eq,List.all_eq_true] at this
 obtain ⟨g1,g2,g3,g4⟩:=this
 change (kyT namesL p).length≤32 at g1
 change hdC (kyT namesL p)=true at g3
 refine ⟨g1,?_,g2,g3,?_⟩
 ·intro e;rw [e] at g3;cases g3
 ·change (match (kyT namesL p).getLast? with|some c=>kyC c || c == 59|none=>false)=true at g4
  split at g4
  ·rename_i c hc
   refine ⟨c,hc,?_⟩
   simpa using g4
  ·cases g4
end Hand
end

section
namespace Hand
open Go Go.RowKit Pl Pb Go.Proofs.YtclkdmmgibgamaaGreatDoor.Pure
theorem txN_app {s:List UInt8} (r:List UInt8) (h:(60:UInt8)∉s):txN (s++r)=s.length+txN r:=by
 have:=txN_skip s.length (s++r) zu19 (fun j hj=>by
  rw [List.getElem?_append_left hj];intro e;exact h (List.mem_of_getElem? e))
 rwa [List.drop_left] at this
theorem tokL_txt {s r:List UInt8} (hs:s≠[]) (h:(60:UInt8)∉s):tokL (s++r)=(some (.text (rdL false (s++r.take (txN r)))),r.drop (txN r)):=by
 obtain ⟨c,t,rfl⟩:∃ c t,s=c::t:=by cases s with|nil=>exact absurd rfl hs|cons c t=>exact ⟨c,t,rfl⟩
 have hc:c≠60:=fun e=>h (by simp [e])
 have hb:begM (c::t++r)=false:=begM_no _ hc
 have hn:txN (c::t++r)=(c::t).length+txN r:=txN_app r h
 unfold begM at hb
 simp only [Bool.or_eq_false_iff] at hb
 obtain ⟨⟨⟨h1,h2⟩,h3⟩,h4⟩:=hb
 unfold tokL
 rw [if_neg (by simpa using h1),if_neg (by rw [h2];decide),if_neg (by rw [h3];decide),if_neg (by rw [h4];decide),if_neg (by rw [hn];simp),hn]
 rw [List.take_length_add_append,List.drop_length_add_append]
theorem tokL_text {s r:List UInt8} (hs:s≠[]) (h:(60:UInt8)∉s) (hr:txN r=0):tokL (s++r)=(some (.text (rdL false s)),r):=by
 rw [tokL_txt hs h,hr];simp
theorem drvL_text {s r:List UInt8} (hs:s≠[]) (h:(60:UInt8)∉s) (hr:txN r=0):drvL (s++r) = .text (rdL false s)::drvL r:=by
 rw [drvL_eq (by simp [hs]),tokL_text hs h hr];rfl
end Hand
end

section
namespace Pl
def scanE:Bool→List UInt8→Bool
 | o,[] => !o
 | o,c::r=>if c=60∨c=62∨c=34∨c=39∨c=0∨c=13 then false else if c=38 then !o&&scanE true r else if c=59 then scanE false r else scanE o r
theorem scan_plain {o:Bool} {c:UInt8} {r:List UInt8} (h1:c≠60) (h2:c≠62) (h3:c≠34) (h4:c≠39) (h5:c≠0) (h6:c≠13) (h7:c≠38):scanE o (c::r)=scanE (if c=59 then false else o) r:=by
 rw [scanE,if_neg (by simp [h1,h2,h3,h4,h5,h6]),if_neg h7]
 by_cases h:c=59<;>simp [h]
theorem scan_esc:∀ n (s:List UInt8),s.length≤n→scanE false (escL s)=true:=by
 intro n
 induction n with
 | zero=>intro s h;obtain rfl:=List.eq_nil_of_length_eq_zero (Nat.le_zero.1 h);rfl
 | succ n ih =>
   intro s h
   cases s with
   | nil=>rfl
   | cons c r =>
     have hr:=ih r (by simp at h;omega)
     refine esc_cases c r (fun l=>scanE false l=true) ?_ ?_ ?_ ?_ ?_ ?_ ?_ ?_ ?_
     all_goals try (intro _;simp [wAmp,wLt,wGt,wQuot,wApos,wCr,wBad,scanE,hr];done)
     ·intro q _ e
      have hq:=ih q (by subst e;simp at h;omega)
      simp [wMark,scanE,hq]
     ·intro h38 h60 h62 h34 h39 h13 h0 _
      rw [scan_plain h60 h62 h34 h39 h0 h13 h38]
      simp [hr]
theorem enc_length (k:Int) (s:List UInt8):(encL k s).length≤6*s.length:=by
 have h:=esc_length s.length s (Nat.le_refl _)
 unfold encL
 split
 ·exact h.1
 ·split
  ·split
   ·rename_i h10;have:=h.2 h10;simp;omega
   ·exact h.1
  ·simp
end Pl
end

section
namespace Pl
open Go
def lowO:Option Nat→Nat
 | none=>0
 | some x=>x % 64
def decN (c:Nat) (d e f:Option Nat):Nat×Nat :=
 if c<128 then (c,1)
 else if c / 32=6∧contO d then (if 128≤c % 32*64+lowO d then (c % 32*64+lowO d,2) else (65533,1))
 else if c / 16=14∧contO d∧contO e then (if 2048≤c % 16*4096+lowO d*64+lowO e∧okV (c % 16*4096+lowO d*64+lowO e) then (c % 16*4096+lowO d*64+lowO e,3) else (65533,1))
 else if c / 8=30∧contO d∧contO e∧contO f then (if 65536≤c % 8*262144+lowO d*4096+lowO e*64+lowO f∧okV (c % 8*262144+lowO d*4096+lowO e*64+lowO f) then (c % 8*262144+lowO d*4096+lowO e*64+lowO f,4) else (65533,1))
 else (65533,1)
def rightK:Nat→List UInt8→Bool
 | _,[]=>true
 | k+1,_::r=>rightK k r
 | 0,c::r=>(firstU (c::r)).2&&rightK ((firstU (c::r)).1 - 1) r
def rightL (s:List UInt8):Bool:=rightK 0 s
theorem rightK_skip:∀ (k:Nat) (s:List UInt8),rightK k s=rightL (s.drop k):=by
 intro k
 induction k with
 | zero=>intro s;rfl
 | succ k ih =>
   intro s
   cases s with
   | nil=>rfl
   | cons c r=>exact ih r
theorem rightL_cons (c:UInt8) (r:List UInt8):rightL (c::r)=((firstU (c::r)).2&&rightL ((c::r).drop (firstU (c::r)).1)):=by
 unfold rightL
 rw [rightK,rightK_skip]
 have h:=(firstU_pos c r).1
 obtain ⟨n,hn⟩:∃ n,(firstU (c::r)).1=n+1:=⟨(firstU (c::r)).1 - 1,zu4⟩
 rw [hn]
 rfl
def isBadO (c:Nat) (d e:Option Nat):Prop:=c=239∧d=some 191∧e=some 189
structure Kd (c lo hi n:Nat):Prop where
 one:(tailN c).2.2=n
 lo_:(tailN c).1=lo
 hi_:(tailN c).2.1=hi
theorem kd_of {c lo hi n:Nat} (h:tailN c=(lo,hi,n)):Kd c lo hi n:=⟨by rw [h],by rw [h],by rw [h]⟩
theorem tail_1 {c:Nat} (h:c<194∨244<c):Kd c 128 191 1:=kd_of (by unfold tailN;rw [if_neg zu4,if_neg zu4,if_neg zu4,if_neg zu4,if_neg zu4,if_neg zu4,if_neg zu4])
theorem tail_2 {c:Nat} (h:194≤c∧c≤223):Kd c 128 191 2:=kd_of (by unfold tailN;rw [if_pos h])
theorem tail_3 {c:Nat} (h:224≤c∧c≤239):∃ lo hi,Kd c lo hi 3∧128≤lo∧hi≤191∧(c=224→lo=160)∧(c=237→hi=159)∧(c≠224→lo=128)∧(c≠237→hi=191):=by
 by_cases h1:c=224
 ·exact ⟨160,191,kd_of (by subst h1;rfl),zu4⟩
 ·by_cases h2:c=237
  ·exact ⟨128,159,kd_of (by subst h2;rfl),zu4⟩
  ·exact ⟨128,191,kd_of (by unfold tailN;rw [if_neg zu4,if_neg h1,if_neg h2,if_pos zu4]),zu4⟩
theorem tail_4 {c:Nat} (h:240≤c∧c≤244):∃ lo hi,Kd c lo hi 4∧128≤lo∧hi≤191∧(c=240→lo=144)∧(c=244→hi=143)∧(c≠240→lo=128)∧(c≠244→hi=191):=by
 by_cases h1:c=240
 ·exact ⟨144,191,kd_of (by subst h1;rfl),zu4⟩
 ·by_cases h2:c=244
  ·exact ⟨128,143,kd_of (by subst h2;rfl),zu4⟩
  ·exact ⟨128,191,kd_of (by unfold tailN;rw [if_neg zu4,if_neg zu4,if_neg zu4,if_neg zu4,if_neg h1,if_neg h2,if_pos zu4]),zu4⟩
def DecSame (c:Nat) (d e f:Option Nat):Prop :=
 ((firstN c d e f).2=true→(decN c d e f).2=(firstN c d e f).1∧((decN c d e f).1=65533→isBadO c d e))∧((firstN c d e f).2=false→(decN c d e f).1=65533∧¬ isBadO c d e)
theorem same_bad {c:Nat} {d e f:Option Nat} {n:Nat} (hf:firstN c d e f=(n,false)) (hd:(decN c d e f).1=65533) (hb:¬ isBadO c d e):DecSame c d e f:=by
 unfold DecSame;rw [hf];exact ⟨fun h=>(by cases h),fun _=>⟨hd,hb⟩⟩
theorem same_ok {c:Nat} {d e f:Option Nat} {n x:Nat} (hf:firstN c d e f=(n,true)) (hd:decN c d e f=(x,n)) (hb:x=65533→isBadO c d e):DecSame c d e f:=by
 unfold DecSame;rw [hf,hd];exact ⟨fun _=>⟨rfl,hb⟩,fun h=>(by cases h)⟩
theorem first_bad1 {c:Nat} {d e f:Option Nat} (h:¬ c<128) (ht:(tailN c).2.2=1):firstN c d e f=(1,false):=by
 unfold firstN;rw [if_neg h,if_pos ht]
theorem contO_iff (o:Option Nat):contO o↔∃ x,o=some x∧128≤x∧x≤191:=by
 cases o with
 | none=>simp [contO]
 | some x=>simp [contO]
theorem inO_iff (lo hi:Nat) (o:Option Nat):inO lo hi o↔∃ x,o=some x∧lo≤x∧x≤hi:=by
 cases o with
 | none=>simp [inO]
 | some x=>simp [inO]
theorem dec_same (c:Nat) (d e f:Option Nat) (hc:c<256):DecSame c d e f:=by
 by_cases h:c<128
 ·refine same_ok (n:=1) (x:=c) ?_ ?_ zu4
  ·unfold firstN;rw [if_pos h]
  ·unfold decN;rw [if_pos h]
 have h':128≤c:=by omega
 by_cases r1:c<194∨244<c
 ·have ht:=tail_1 r1
  refine same_bad (n:=1) (first_bad1 h ht.one) ?_ (by unfold isBadO;omega)
  unfold decN
  rw [if_neg h]
  split
  ·rename_i hh
   rw [if_neg]
   obtain ⟨x,rfl,h1,h2⟩:=(contO_iff d).1 hh.2
   simp only [lowO];omega
  ·split
   ·rename_i _ hh;omega
   ·split
    ·rename_i _ _ hh
     rw [if_neg]
     rintro ⟨_,h3⟩
     unfold okV at h3
     omega
    ·rfl
 by_cases r2:c≤223
 ·have ht:=tail_2 (c:=c) zu4
  by_cases hd:contO d
  ·obtain ⟨x,rfl,h1,h2⟩:=(contO_iff d).1 hd
   refine same_ok (n:=2) (x:=c % 32*64+x % 64) ?_ ?_ zu4
   ·unfold firstN;rw [if_neg h,if_neg zv1,if_neg zv2,if_pos ht.one]
   ·unfold decN;rw [if_neg h,if_pos ⟨zu4,h1,h2⟩,if_pos (by simp only [lowO];omega)];rfl
  ·refine same_bad (n:=1) ?_ ?_ (by unfold isBadO;omega)
   ·unfold firstN;rw [if_neg h,if_neg zv1,if_pos (by rw [ht.lo_,ht.hi_];exact hd)]
   ·unfold decN;rw [if_neg h,if_neg (fun hh=>hd hh.2),if_neg (fun hh=>hd hh.2.1),if_neg (fun hh=>hd hh.2.1)]
 by_cases r3:c≤239
 ·obtain ⟨lo,hi,ht,g1,g2,g3,g4,g5,g6⟩:=tail_3 (c:=c) zu4
  have n6:¬ (c / 32=6∧contO d):=by omega
  have n8:¬ (c / 8=30∧contO d∧contO e∧contO f):=by omega
  by_cases hd:inO lo hi d
  ·obtain ⟨x,rfl,h1,h2⟩:=(inO_iff _ _ d).1 hd
   by_cases he:contO e
   ·obtain ⟨y,rfl,h3,h4⟩:=(contO_iff e).1 he
    refine same_ok (n:=3) (x:=c % 16*4096+x % 64*64+y % 64) ?_ ?_ ?_
    ·unfold firstN;rw [if_neg h,if_neg zv1,if_neg zv2,if_neg zv1,if_neg (not_not_intro he),if_pos ht.one]
    ·unfold decN
     rw [if_neg h,if_neg n6,if_pos ⟨zu4,⟨zu4,zu4⟩,he⟩,if_pos]
     ·rfl
     ·refine ⟨by simp only [lowO];omega,?_⟩
      simp only [okV,lowO];omega
    ·intro hx
     have:c=239∧x=191∧y=189:=by omega
     obtain ⟨rfl,rfl,rfl⟩:=this
     exact ⟨rfl,rfl,rfl⟩
   ·refine same_bad (n:=2) ?_ ?_ (by rintro ⟨_,_,rfl⟩;exact he (by simp [contO]))
    ·unfold firstN;rw [if_neg h,if_neg zv1,if_neg zv2,if_neg zv1,if_pos he]
    ·unfold decN;rw [if_neg h,if_neg n6,if_neg (fun hh=>he hh.2.2),if_neg n8]
  ·refine same_bad (n:=1) ?_ ?_ ?_
   ·unfold firstN;rw [if_neg h,if_neg zv1,if_pos (by rw [ht.lo_,ht.hi_];exact hd)]
   ·unfold decN
    rw [if_neg h,if_neg n6]
    split
    ·rename_i hh
     obtain ⟨x,rfl,h1,h2⟩:=(contO_iff d).1 hh.2.1
     obtain ⟨y,rfl,h3,h4⟩:=(contO_iff e).1 hh.2.2
     rw [if_neg]
     rintro ⟨h5,h6⟩
     simp only [okV,lowO] at h5 h6
     exact hd ⟨zu4,zu4⟩
    ·rfl
   ·rintro ⟨rfl,rfl,_⟩
    exact hd ⟨zu4,zu4⟩
 ·obtain ⟨lo,hi,ht,g1,g2,g3,g4,g5,g6⟩:=tail_4 (c:=c) zu4
  have n6:¬ (c / 32=6∧contO d):=by omega
  have n7:¬ (c / 16=14∧contO d∧contO e):=by omega
  have nb:¬ isBadO c d e:=by unfold isBadO;omega
  by_cases hd:inO lo hi d
  ·obtain ⟨x,rfl,h1,h2⟩:=(inO_iff _ _ d).1 hd
   by_cases he:contO e
   ·obtain ⟨y,rfl,h3,h4⟩:=(contO_iff e).1 he
    by_cases hf:contO f
    ·obtain ⟨z,rfl,h5,h6⟩:=(contO_iff f).1 hf
     refine same_ok (n:=4) (x:=c % 8*262144+x % 64*4096+y % 64*64+z % 64) ?_ ?_ zu4
     ·unfold firstN;rw [if_neg h,if_neg zv1,if_neg zv2,if_neg zv1,if_neg (not_not_intro he),if_neg zv1,if_pos hf]
     ·unfold decN
      rw [if_neg h,if_neg n6,if_neg n7,if_pos ⟨zu4,⟨zu4,zu4⟩,he,hf⟩,if_pos]
      ·rfl
      ·refine ⟨by simp only [lowO];omega,?_⟩
       simp only [okV,lowO];omega
    ·refine same_bad (n:=3) ?_ ?_ nb
     ·unfold firstN;rw [if_neg h,if_neg zv1,if_neg zv2,if_neg zv1,if_neg (not_not_intro he),if_neg zv1,if_neg hf]
     ·unfold decN;rw [if_neg h,if_neg n6,if_neg n7,if_neg (fun hh=>hf hh.2.2.2)]
   ·refine same_bad (n:=2) ?_ ?_ nb
    ·unfold firstN;rw [if_neg h,if_neg zv1,if_neg zv2,if_neg zv1,if_pos he]
    ·unfold decN;rw [if_neg h,if_neg n6,if_neg n7,if_neg (fun hh=>he hh.2.2.1)]
  ·refine same_bad (n:=1) ?_ ?_ nb
   ·unfold firstN;rw [if_neg h,if_neg zv1,if_pos (by rw [ht.lo_,ht.hi_];exact hd)]
   ·unfold decN
    rw [if_neg h,if_neg n6,if_neg n7]
    split
    ·rename_i hh
     obtain ⟨x,rfl,h1,h2⟩:=(contO_iff d).1 hh.2.1
     obtain ⟨y,rfl,h3,h4⟩:=(contO_iff e).1 hh.2.2.1
     obtain ⟨z,rfl,h5,h6⟩:=(contO_iff f).1 hh.2.2.2
     rw [if_neg]
     rintro ⟨h7,h8⟩
     simp only [okV,lowO] at h7 h8
     exact hd ⟨zu4,zu4⟩
    ·rfl
theorem bad_list (c:UInt8) (r:List UInt8):badP.isPrefixOf (c::r)=true↔isBadO c.toNat (byteO r 0) (byteO r 1):=by
 rcases r with _|⟨d,_|⟨e,r⟩⟩
 ·simp [badP,List.isPrefixOf,isBadO,byteO]
 ·simp [badP,List.isPrefixOf,isBadO,byteO]
 ·simp only [badP,List.isPrefixOf,Bool.and_eq_true,beq_iff_eq,Bool.and_true,isBadO,byteO,List.getElem?_cons_zero,List.getElem?_cons_succ,Option.map_some,Option.some.injEq]
  constructor
  ·rintro ⟨rfl,rfl,rfl⟩;exact ⟨rfl,rfl,rfl⟩
  ·rintro ⟨h1,h2,h3⟩
   exact ⟨(UInt8.toNat_inj.1 h1).symm,(UInt8.toNat_inj.1 h2).symm,(UInt8.toNat_inj.1 h3).symm⟩
theorem getb_list (s:ByteArray) (j:Nat):s.get! j=s.data.toList.getD j 0:=by
 rw [List.getD_eq_getElem?_getD,Array.getElem?_toList]
 cases s with
 | mk d =>
   show d[j]! = _
   rw [getElem!_def]
   cases d[j]? <;> rfl
theorem valid_iff (n:Nat):Utf8.valid (n:Int)=true↔okV n:=by
 simp only [Utf8.valid,Bool.or_eq_true,Bool.and_eq_true,decide_eq_true_eq,okV]
 omega
theorem decode_list (s:ByteArray) (i:Nat) (c:UInt8) (r:List UInt8) (h:s.data.toList.drop i=c::r):Utf8.decode s i=decN c.toNat (byteO r 0) (byteO r 1) (byteO r 2):=by
 have e0:(s.get! (i+0)).toNat=c.toNat:=by
  rw [getb_list,List.getD_eq_getElem?_getD,← List.getElem?_drop,h];rfl
 have ek:∀ k,(s.get! (i+(k+1))).toNat % 64=lowO (byteO r k):=fun k=>by
  rw [getb_list,List.getD_eq_getElem?_getD,← List.getElem?_drop,h,List.getElem?_cons_succ]
  unfold byteO
  cases r[k]? <;> rfl
 have ck:∀ k,(decide (i+(k+1)<s.size)&&(s.get! (i+(k+1))).toNat / 64 == 2)=decide (contO (byteO r k)):=fun k=>by
  have hl:s.size=i+(r.length+1):=by
   have:=congrArg List.length h
   rw [List.length_drop,Array.length_toList,List.length_cons] at this
   have e:s.data.size=s.size:=rfl
   omega
  rw [getb_list,List.getD_eq_getElem?_getD,← List.getElem?_drop,h,List.getElem?_cons_succ]
  unfold byteO
  rcases Nat.lt_or_ge k r.length with hk|hk
  ·rw [List.getElem?_eq_getElem hk]
   have:=(r[k]).toNat_lt
   rw [decide_eq_true (show i+(k+1)<s.size by omega),Bool.true_and,Bool.eq_iff_iff,beq_iff_eq,decide_eq_true_eq]
   show (r[k]).toNat / 64=2↔(128≤(r[k]).toNat∧(r[k]).toNat≤191)
   omega
  ·rw [List.getElem?_eq_none hk,decide_eq_false zu4,Bool.false_and]
   rfl
 have c1:=ck 0
 have c2:=ck 1
 have c3:=ck 2
 have l1:=ek 0
 have l2:=ek 1
 have l3:=ek 2
 unfold Utf8.decode decN
 simp only [Nat.zero_add,Nat.reduceAdd,Nat.add_zero] at c1 c2 c3 l1 l2 l3 e0
 simp only [Nat.add_zero,e0,c1,c2,c3,l1,l2,l3,Bool.and_eq_true,beq_iff_eq,decide_eq_true_eq,valid_iff,ge_iff_le,Utf8.runeError,and_assoc]
theorem decode_right {s:ByteArray} {i:Nat} {c:UInt8} {r:List UInt8} (h:s.data.toList.drop i=c::r) :
  ((firstU (c::r)).2=true→(Utf8.decode s i).2=(firstU (c::r)).1∧((Utf8.decode s i).1=65533→badP.isPrefixOf (c::r)=true)) ∧
  ((firstU (c::r)).2=false→(Utf8.decode s i).1=65533∧¬ badP.isPrefixOf (c::r)=true):=by
 have hs:=dec_same c.toNat (byteO r 0) (byteO r 1) (byteO r 2) c.toNat_lt
 rw [decode_list s i c r h,bad_list]
 exact hs
end Pl
end

section
namespace Pl
open Go
theorem firstN_in (c:Nat) (d e f:Option Nat) (h:(firstN c d e f).2=true) :
  (2≤(firstN c d e f).1→∃ x,d=some x∧x≤191)∧(3≤(firstN c d e f).1→∃ x,e=some x∧x≤191)∧(4≤(firstN c d e f).1→∃ x,f=some x∧x≤191):=by
 have ht:(tailN c).2.1≤191:=by
  by_cases h1:c<194∨244<c
  ·rw [(tail_1 h1).hi_];omega
  ·by_cases h2:c≤223
   ·rw [(tail_2 zu4).hi_];omega
   ·by_cases h3:c≤239
    ·obtain ⟨lo,hi,t,_,g,_⟩:=tail_3 (c:=c) zu4
     rw [t.hi_];exact g
    ·obtain ⟨lo,hi,t,_,g,_⟩:=tail_4 (c:=c) zu4
     rw [t.hi_];exact g
 have hd:inO (tailN c).1 (tailN c).2.1 d→∃ x,d=some x∧x≤191:=fun h=>by
  obtain ⟨x,h1,h2,h3⟩:=(inO_iff _ _ d).1 h
  exact ⟨x,h1,zu4⟩
 have hc:∀ o,contO o→∃ x,o=some x∧x≤191:=fun o h=>by
  obtain ⟨x,h1,h2,h3⟩:=(contO_iff o).1 h
  exact ⟨x,h1,zu4⟩
 revert h
 unfold firstN
 split
 ·simp
 ·split
  ·simp
  ·split
   ·simp
   ·rename_i h1
    have h1':=hd (Decidable.not_not.1 h1)
    split
    ·intro _;exact ⟨fun _=>h1',zu19,zu19⟩
    ·split
     ·simp
     ·rename_i h2
      have h2':=hc _ (Decidable.not_not.1 h2)
      split
      ·intro _;exact ⟨fun _=>h1',fun _=>h2',zu19⟩
      ·split
       ·rename_i h3
        intro _;exact ⟨fun _=>h1',fun _=>h2',fun _=>hc _ h3⟩
       ·simp
theorem firstU_in {c:UInt8} {r:List UInt8} (h:(firstU (c::r)).2=true) (j:Nat) (h1:1≤j) (h2:j<(firstU (c::r)).1):∃ x,(c::r)[j]? = some x∧x.toNat≤191:=by
 obtain ⟨g1,g2,g3⟩:=firstN_in _ _ _ _ h
 have h4:=(firstU_pos c r).2.2
 have key:∀ k,(∃ x,byteO r k=some x∧x≤191)→∃ x,(c::r)[k+1]? = some x∧x.toNat≤191:=by
  rintro k ⟨x,hx,hl⟩
  unfold byteO at hx
  rw [List.getElem?_cons_succ]
  cases hq:r[k]? with
  | none=>rw [hq] at hx;cases hx
  | some y=>rw [hq] at hx;cases hx;exact ⟨y,rfl,hl⟩
 have h2':j<(firstN c.toNat (byteO r 0) (byteO r 1) (byteO r 2)).1:=h2
 rcases (show j=1∨j=2∨j=3 by omega) with rfl|rfl|rfl
 ·exact key 0 (g1 zu4)
 ·exact key 1 (g2 zu4)
 ·exact key 2 (g3 zu4)
end Pl
end

section
namespace Pl
open Go
theorem firstN_cut {c:Nat} {d e f d' e' f':Option Nat} (h:(firstN c d e f).2=true) (hd:2≤(firstN c d e f).1→d'=d) (he:3≤(firstN c d e f).1→e'=e) (hf:4≤(firstN c d e f).1→f'=f):firstN c d' e' f'=firstN c d e f:=by
 revert h hd he hf
 unfold firstN
 by_cases h1:c<128
 ·rw [if_pos h1,if_pos h1];intros;rfl
 rw [if_neg h1,if_neg h1]
 by_cases h2:(tailN c).2.2=1
 ·rw [if_pos h2,if_pos h2];intros;rfl
 rw [if_neg h2,if_neg h2]
 by_cases h3:¬ inO (tailN c).1 (tailN c).2.1 d
 ·rw [if_pos h3];intro h;cases h
 rw [if_neg h3]
 by_cases h4:(tailN c).2.2=2
 ·rw [if_pos h4]
  intro _ hd _ _
  rw [hd zu19,if_neg h3,if_pos h4]
 rw [if_neg h4]
 by_cases h5:¬ contO e
 ·rw [if_pos h5];intro h;cases h
 rw [if_neg h5]
 by_cases h6:(tailN c).2.2=3
 ·rw [if_pos h6]
  intro _ hd he _
  rw [hd zu19,if_neg h3,if_neg h4,he zu19,if_neg h5,if_pos h6]
 rw [if_neg h6]
 by_cases h7:contO f
 ·rw [if_pos h7]
  intro _ hd he hf
  rw [hd zu19,if_neg h3,if_neg h4,he zu19,if_neg h5,if_neg h6,hf zu19,if_pos h7]
 ·rw [if_neg h7];intro h;cases h
def Sig (a:List UInt8):Prop:=a≠[]∧∀ Y,firstU (a++Y)=(a.length,true)
theorem byteO_take (r Y:List UInt8) (n k:Nat) (hk:k<n) (hn:n≤r.length):byteO (r.take n++Y) k=byteO r k:=by
 unfold byteO
 rw [List.getElem?_append_left (by rw [List.length_take];omega),List.getElem?_take_of_lt hk]
theorem sig_split {s:List UInt8} (h:rightL s=true) (hne:s≠[]):∃ a q,s=a++q∧Sig a∧rightL q=true:=by
 cases s with
 | nil=>exact absurd rfl hne
 | cons c r =>
   rw [rightL_cons,Bool.and_eq_true] at h
   obtain ⟨h1,h2⟩:=h
   obtain ⟨p1,p2,p3⟩:=firstU_pos c r
   obtain ⟨n,hn⟩:∃ n,(firstU (c::r)).1=n+1:=⟨(firstU (c::r)).1 - 1,zu4⟩
   rw [hn] at h2 p2 p3
   simp only [List.length_cons] at p2
   refine ⟨(c::r).take (n+1),(c::r).drop (n+1),(List.take_append_drop _ _).symm,⟨zu19,fun Y => ?_⟩,h2⟩
   rw [List.take_succ_cons,List.cons_append]
   show firstN c.toNat (byteO (r.take n++Y) 0) (byteO (r.take n++Y) 1) (byteO (r.take n++Y) 2)=_
   have hf:(firstN c.toNat (byteO r 0) (byteO r 1) (byteO r 2)).1=n+1:=hn
   rw [firstN_cut (d:=byteO r 0) (e:=byteO r 1) (f:=byteO r 2) h1 (fun h=>byteO_take _ _ _ _ zu4 zu4) (fun h=>byteO_take _ _ _ _ zu4 zu4) (fun h=>byteO_take _ _ _ _ zu4 zu4)]
   rw [List.length_cons,List.length_take,Nat.min_eq_left zu4,← hf]
   exact Prod.ext rfl h1
theorem right_app {a:List UInt8} (h:Sig a) (Y:List UInt8):rightL (a++Y)=rightL Y:=by
 obtain ⟨hne,h⟩:=h
 cases a with
 | nil=>exact absurd rfl hne
 | cons c r =>
   have:=h Y
   rw [List.cons_append] at this ⊢
   rw [rightL_cons,this]
   simp
theorem sig_ascii {c:UInt8} (h:c.toNat<128):Sig [c] :=
 ⟨zu19,fun Y=>by show firstN c.toNat _ _ _=_;unfold firstN;rw [if_pos h];rfl⟩
theorem right_ascii:∀ (w:List UInt8) (_:∀ c∈w,c.toNat<128) (Y:List UInt8),rightL (w++Y)=rightL Y:=by
 intro w
 induction w with
 | nil=>intro _ _;rfl
 | cons c w ih =>
   intro h Y
   rw [List.cons_append,← ih (fun x hx=>h x (by simp [hx])) Y]
   exact right_app (sig_ascii (h c zu19)) (w++Y)
theorem sig_bytes {a:List UInt8} (h:Sig a):(∃ c,a=[c]∧c.toNat<128)∨(∃ c q,a=c::q∧194≤c.toNat∧q≠[]∧q.length≤3∧∀ x∈q,128≤x.toNat∧x.toNat≤191):=by
 obtain ⟨hne,h⟩:=h
 cases a with
 | nil=>exact absurd rfl hne
 | cons c q =>
   have h1:=h []
   rw [List.append_nil] at h1
   by_cases hc:c.toNat<128
   ·left
    have:firstU (c::q)=(1,true):=by show firstN c.toNat _ _ _=_;unfold firstN;rw [if_pos hc]
    rw [this] at h1
    have:=(Prod.mk.inj h1).1
    simp only [List.length_cons] at this
    obtain rfl:=List.eq_nil_of_length_eq_zero (l:=q) zu4
    exact ⟨c,rfl,hc⟩
   ·right
    have h2:(firstU (c::q)).2=true:=by rw [h1]
    have h3:(firstU (c::q)).1=q.length+1:=by rw [h1];rfl
    have h4:=(firstU_pos c q).2.2
    have hc2:194≤c.toNat:=by
     rcases Nat.lt_or_ge c.toNat 194 with hlt|hge
     ·exfalso
      have:firstU (c::q)=(1,false):=first_bad1 (d:=byteO q 0) (e:=byteO q 1) (f:=byteO q 2) hc (tail_1 (.inl hlt)).one
      rw [this] at h2;cases h2
     ·exact hge
    have hge:∀ k,k<q.length→128≤((q[k]?).getD 0).toNat:=by
     intro k hk
     have key:∀ (d e f:Option Nat),(firstN c.toNat d e f).2=true→(2≤(firstN c.toNat d e f).1→∃ x,d=some x∧128≤x)∧(3≤(firstN c.toNat d e f).1→∃ x,e=some x∧128≤x)∧(4≤(firstN c.toNat d e f).1→∃ x,f=some x∧128≤x):=by
      intro d e f
      have ht:128≤(tailN c.toNat).1:=by
       by_cases g1:c.toNat<194∨244<c.toNat
       ·rw [(tail_1 g1).lo_];omega
       ·by_cases g2:c.toNat≤223
        ·rw [(tail_2 zu4).lo_];omega
        ·by_cases g3:c.toNat≤239
         ·obtain ⟨lo,hi,t,g,_⟩:=tail_3 (c:=c.toNat) zu4
          rw [t.lo_];exact g
         ·obtain ⟨lo,hi,t,g,_⟩:=tail_4 (c:=c.toNat) zu4
          rw [t.lo_];exact g
      have hd:inO (tailN c.toNat).1 (tailN c.toNat).2.1 d→∃ x,d=some x∧128≤x:=fun h=>by
       obtain ⟨x,h1,h2,h3⟩:=(inO_iff _ _ d).1 h
       exact ⟨x,h1,zu4⟩
      have hcc:∀ o,contO o→∃ x,o=some x∧128≤x:=fun o h=>by
       obtain ⟨x,h1,h2,h3⟩:=(contO_iff o).1 h
       exact ⟨x,h1,zu4⟩
      unfold firstN
      rw [if_neg hc]
      split
      ·simp
      ·split
       ·simp
       ·rename_i h1
        have h1':=hd (Decidable.not_not.1 h1)
        split
        ·intro _;exact ⟨fun _=>h1',zu19,zu19⟩
        ·split
         ·simp
         ·rename_i h2
          have h2':=hcc _ (Decidable.not_not.1 h2)
          split
          ·intro _;exact ⟨fun _=>h1',fun _=>h2',zu19⟩
          ·split
           ·rename_i h3
            intro _;exact ⟨fun _=>h1',fun _=>h2',fun _=>hcc _ h3⟩
           ·simp
     obtain ⟨k1,k2,k3⟩:=key _ _ _ h2
     have h3':(firstN c.toNat (byteO q 0) (byteO q 1) (byteO q 2)).1=q.length+1:=h3
     have use:∀ j,(∃ x,byteO q j=some x∧128≤x)→128≤((q[j]?).getD 0).toNat:=by
      rintro j ⟨x,hx,hl⟩
      unfold byteO at hx
      cases hq:q[j]? with
      | none=>rw [hq] at hx;cases hx
      | some y=>rw [hq] at hx;cases hx;exact hl
     rcases (show k=0∨k=1∨k=2 by omega) with rfl|rfl|rfl
     ·exact use 0 (k1 zu4)
     ·exact use 1 (k2 zu4)
     ·exact use 2 (k3 zu4)
    refine ⟨c,q,rfl,hc2,?_,zu4,?_⟩
    ·rintro rfl
     have:(firstU [c])=(1,true):=h1
     have g:=firstN_pos c.toNat (byteO [] 0) (byteO [] 1) (byteO [] 2)
     have:firstN c.toNat none none none=(1,true):=h1
     unfold firstN at this
     rw [if_neg hc] at this
     split at this
     ·cases this
     ·rw [if_pos (by simp [inO])] at this;cases this
    ·intro x hx
     obtain ⟨k,hk,rfl⟩:=List.getElem_of_mem hx
     obtain ⟨y,hy,hy2⟩:=firstU_in h2 (k+1) zu4 zu4
     rw [List.getElem?_cons_succ,List.getElem?_eq_getElem hk] at hy
     cases hy
     have:=hge k hk
     rw [List.getElem?_eq_getElem hk] at this
     exact ⟨this,hy2⟩
theorem esc_high {c:UInt8} {r:List UInt8} (h:128≤c.toNat) (hm:c=239→¬ [187,191].isPrefixOf r=true):escL (c::r)=c::escL r:=by
 have ne:∀ d:UInt8,d.toNat<128→c≠d:=by rintro d hd rfl;omega
 unfold escL
 by_cases h8:c=239
 ·have hf:escF c=some ([187,191],wMark):=by subst h8;rfl
  rw [replS_miss hf (hm h8)]
 ·rw [replS_none (by simp [escF,ne 38 zu15,ne 60 zu15,ne 62 zu15,ne 34 zu15,ne 39 zu15,ne 13 zu15,ne 0 zu15,h8])]
theorem esc_cont:∀ (q:List UInt8),(∀ x∈q,128≤x.toNat∧x.toNat≤191)→∀ Y,escL (q++Y)=q++escL Y:=by
 intro q
 induction q with
 | nil=>intro _ _;rfl
 | cons x q ih =>
   intro h Y
   have hx:=h x zu19
   rw [List.cons_append,esc_high hx.1 (by rintro rfl;exact absurd hx.2 zu15),ih (fun y hy=>h y (by simp [hy])),List.cons_append]
theorem esc_sig {a:List UInt8} (h:Sig a) (Y:List UInt8):escL (a++Y)=a++escL Y∨∃ w:List UInt8,escL (a++Y)=w++escL Y∧((∀ c∈w,c.toNat<128)∨w=wBad):=by
 rcases sig_bytes h with ⟨c,rfl,hc⟩|⟨c,q,rfl,h1,h2,h3,h4⟩
 ·right
  refine esc_cases c Y (fun l => ∃ w:List UInt8,l=w++escL Y∧((∀ c∈w,c.toNat<128)∨w=wBad)) ?_ ?_ ?_ ?_ ?_ ?_ ?_ ?_ ?_
  ·intro _;exact ⟨wAmp,rfl,.inl zu15⟩
  ·intro _;exact ⟨wLt,rfl,.inl zu15⟩
  ·intro _;exact ⟨wGt,rfl,.inl zu15⟩
  ·intro _;exact ⟨wQuot,rfl,.inl zu15⟩
  ·intro _;exact ⟨wApos,rfl,.inl zu15⟩
  ·intro _;exact ⟨wCr,rfl,.inl zu15⟩
  ·intro _;exact ⟨wBad,rfl,.inr rfl⟩
  ·rintro q rfl _;exact absurd hc zu15
  ·intros;exact ⟨[c],rfl,.inl (by simpa using hc)⟩
 ·by_cases hm:c=239∧[187,191].isPrefixOf (q++Y)=true
  ·right
   obtain ⟨rfl,hm⟩:=hm
   obtain ⟨Z,hZ⟩:=List.isPrefixOf_iff_prefix.1 hm
   have hq:q=[187,191]:=by
    have hlen:q.length=2:=by
     have hs:=h.2 []
     rw [List.append_nil] at hs
     have ht:=tail_3 (c:=239) zu4
     obtain ⟨lo,hi,t,_⟩:=ht
     have hn:(firstU (239::q)).1=q.length+1:=by rw [hs];rfl
     have h2':(firstU (239::q)).2=true:=by rw [hs]
     have:(firstN 239 (byteO q 0) (byteO q 1) (byteO q 2)).1=3:=by
      have hh:(firstN 239 (byteO q 0) (byteO q 1) (byteO q 2)).2=true:=h2'
      revert hh
      unfold firstN
      rw [if_neg zu4,if_neg (by rw [t.one];omega)]
      split
      ·intro hh;cases hh
      ·rw [if_neg (by rw [t.one];omega)]
       split
       ·intro hh;cases hh
       ·rw [if_pos t.one];intro _;rfl
     have e2:(firstU (239::q)).1=3:=this
     omega
    match q,hlen,hZ with
    | [x,y],_,hZ =>
      simp only [List.cons_append,List.nil_append,List.cons.injEq] at hZ
      rw [hZ.1,hZ.2.1]
   subst hq
   refine ⟨wMark,?_,.inl zu15⟩
   unfold escL
   rw [List.cons_append,replS_hit (show escF 239=some ([187,191],wMark) from rfl) zu19]
   rfl
  ·left
   rw [List.cons_append,esc_high zu4 (fun e h=>hm ⟨e,h⟩),esc_cont q h4,List.cons_append]
theorem right_esc:∀ n (s:List UInt8),s.length≤n→rightL s=true→rightL (escL s)=true:=by
 intro n
 induction n with
 | zero=>intro s h _;obtain rfl:=List.eq_nil_of_length_eq_zero (Nat.le_zero.1 h);rfl
 | succ n ih =>
   intro s h hr
   by_cases hne:s=[]
   ·subst hne;rfl
   ·obtain ⟨a,q,rfl,hs,hq⟩:=sig_split hr hne
    have hlen:1≤a.length:=by
     rcases Nat.eq_zero_or_pos a.length with h0|h0
     ·exact absurd (List.eq_nil_of_length_eq_zero h0) hs.1
     ·exact h0
    have hi:=ih q (by rw [List.length_append] at h;omega) hq
    rcases esc_sig hs q with e|⟨w,e,hw|rfl⟩
    ·rw [e,right_app hs];exact hi
    ·rw [e,right_ascii w hw];exact hi
    ·rw [e]
     have:Sig wBad:=⟨zu15,fun Y=>rfl⟩
     rw [right_app this];exact hi
theorem decL_right:∀ n (s:List UInt8),s.length≤n→rightL s=true→decL s=s:=by
 intro n
 induction n with
 | zero=>intro s h _;obtain rfl:=List.eq_nil_of_length_eq_zero (Nat.le_zero.1 h);rfl
 | succ n ih =>
   intro s h hr
   cases s with
   | nil=>rfl
   | cons c r =>
     rw [rightL_cons,Bool.and_eq_true] at hr
     have hp:=(firstU_pos c r).1
     rw [decL_cons,if_pos hr.1,ih _ zu47 hr.2,List.take_append_drop]
end Pl
end

section
namespace Hand
open Go Go.RowKit Pl Pb
def rowAt (T:List UInt8) (p:Nat) (key rest:List UInt8):Bool:=(T[p]? == some 10)&&(lnT T (p+1) == key++32::rest)
def wordAmp:List UInt8:=[97,109,112]
def wordLt:List UInt8:=[108,116]
def wordGt:List UInt8:=[103,116]
def wordQuot:List UInt8:=[113,117,111,116]
def wordNbsp:List UInt8:=[110,98,115,112]
theorem rows_are:(rowAt namesL 9820 (wordAmp++[59]) [50,54]&&(rowAt namesL 9813 wordAmp [50,54]&&(rowAt namesL 19023 (wordLt++[59]) [51,67]&&(rowAt namesL 15791 (wordGt++[59]) [51,69]&&(rowAt namesL 23656 (wordQuot++[59]) [50,50]&&rowAt namesL 20038 (wordNbsp++[59]) [65,48])))))=true:=by kernel_rfl
theorem row_fnd {p:Nat} {key rest:List UInt8} (h:rowAt namesL p key rest=true) (hk:∀ c∈key,c≠10∧c≠32):Fnd namesL key (some rest):=by
 unfold rowAt at h
 rw [Bool.and_eq_true,beq_iff_eq,beq_iff_eq] at h
 obtain ⟨h1,h2⟩:=h
 refine .inl ⟨p+1,.inr ⟨p,rfl,h1⟩,?_,?_⟩
 ·unfold kyT;rw [h2,ky_row hk]
 ·rw [h2];unfold rsL;rw [ky_row hk,List.drop_append,List.drop_eq_nil_of_le zu4,List.nil_append,show key.length+1 - key.length=1 by omega];rfl
theorem fnd_amp:Fnd namesL (wordAmp++[59]) (some [50,54]):=row_fnd (Bool.and_eq_true_iff.1 rows_are).1 zu15
theorem fnd_lt:Fnd namesL (wordLt++[59]) (some [51,67]):=row_fnd (Bool.and_eq_true_iff.1 (Bool.and_eq_true_iff.1 (Bool.and_eq_true_iff.1 rows_are).2).2).1 zu15
theorem fnd_gt:Fnd namesL (wordGt++[59]) (some [51,69]):=row_fnd (Bool.and_eq_true_iff.1 (Bool.and_eq_true_iff.1 (Bool.and_eq_true_iff.1 (Bool.and_eq_true_iff.1 rows_are).2).2).2).1 zu15
theorem fnd_quot:Fnd namesL (wordQuot++[59]) (some [50,50]):=row_fnd (Bool.and_eq_true_iff.1 (Bool.and_eq_true_iff.1 (Bool.and_eq_true_iff.1 (Bool.and_eq_true_iff.1 (Bool.and_eq_true_iff.1 rows_are).2).2).2).2).1 zu15
theorem fnd_key {key rest:List UInt8} (h:Fnd namesL key (some rest)):isKey namesL key:=(fnd_rest h).2.2
theorem nameT_of {key rest:List UInt8} (h:Fnd namesL key (some rest)):nameT key=(textB (num1 rest) (num2 rest)).data.toList:=by unfold nameT;rw [rowN_eq h]
theorem nameT_amp:nameT (wordAmp++[59])=[38]:=by rw [nameT_of fnd_amp];decide +kernel
theorem nameT_lt:nameT (wordLt++[59])=[60]:=by rw [nameT_of fnd_lt];decide +kernel
theorem nameT_gt:nameT (wordGt++[59])=[62]:=by rw [nameT_of fnd_gt];decide +kernel
theorem nameT_quot:nameT (wordQuot++[59])=[34]:=by rw [nameT_of fnd_quot];decide +kernel
theorem lng_stop {k r:List UInt8} {c:UInt8} (hk:isKey namesL k) (hc:kyC c=false∧c≠59∨k.getLast? = some 59):lngN (k++c::r)=k.length:=by
 have hf:=key_facts hk
 refine lngN_eq ⟨?_,.inr (by rw [List.take_left];exact hk),fun m h1 h2 hm => ?_⟩
 ·have:=hf.le;simp;omega
 ·have hg:=key_facts hm
  have h2':m≤(k++c::r).length:=by omega
  obtain ⟨d,rfl⟩:∃ d,m=k.length+1+d:=⟨m - (k.length+1),zu4⟩
  have e:(k++c::r).take (k.length+1+d)=k++c::r.take d:=by
   rw [List.take_append,List.take_of_length_le zu4,show k.length+1+d - k.length=d+1 by omega,List.take_succ_cons]
  rw [e] at hg
  rcases hc with ⟨h3,h4⟩|h3
  ·
   cases hd:r.take d with
   | nil =>
     rw [hd] at hg
     obtain ⟨x,hx,hx2⟩:=hg.last
     simp at hx
     subst hx
     rcases hx2 with h|h
     ·rw [h3] at h;cases h
     ·exact h4 h
   | cons y t =>
     rw [hd] at hg
     have hmem:c∈(k++c::y::t).dropLast:=by
      rw [List.dropLast_append_of_ne_nil zu19]
      simp
     have:=hg.inner c hmem
     rw [h3] at this;cases this
  ·have hmem:(59:UInt8)∈(k++c::r.take d).dropLast:=by
    rw [List.dropLast_append_of_ne_nil zu19]
    exact List.mem_append_left _ (List.mem_of_getLast? h3)
   have:=hg.inner 59 hmem
   exact absurd this zu15
theorem num_letter {k r:List UInt8} (hk:isKey namesL k):numL (k++r)=none:=by
 have hf:=key_facts hk
 cases k with
 | nil=>exact absurd rfl hf.pos
 | cons c k =>
   have hh:=hf.head
   have h35:c≠35:=by rintro rfl;exact absurd hh (by simp [hdC])
   unfold numL
   rw [if_neg]
   simp [begR,h35]
   have:∀ n:Fin 256,lowB (UInt8.ofNat n.val)=35→UInt8.ofNat n.val=35:=by decide +kernel
   have h:=this ⟨c.toNat,c.toNat_lt⟩
   simp only [UInt8.ofNat_toNat] at h
   exact fun e=>h35 (h e)
theorem refN_semi {attr:Bool} {w:List UInt8} (r:List UInt8) (hk:isKey namesL (w++[59])):refN attr (38::(w++59::r))=(nameT (w++[59]),w.length+2):=by
 have hl:lngN (w++59::r)=w.length+1:=by
  cases r with
  | nil =>
    refine lngN_eq ⟨?_,.inr ?_,fun m h1 h2 _ => ?_⟩
    ·have:=(key_facts hk).le;simp at this ⊢;omega
    ·rw [List.take_of_length_le zu19];exact hk
    ·simp at h2;omega
  | cons c r =>
    have:=lng_stop (c:=c) (r:=r) hk (.inr zu19)
    rw [List.append_assoc] at this
    simpa using this
 have hn:numL (w++59::r)=none:=by
  have:=num_letter (r:=r) hk
  rwa [List.append_assoc] at this
 have ht:(w++59::r).take (w.length+1)=w++[59]:=by
  rw [List.take_append,List.take_of_length_le zu4,show w.length+1 - w.length=1 by omega];rfl
 unfold refN
 rw [List.drop_succ_cons,List.drop_zero,hn,hl,ht]
 simp only
 rw [if_neg,show 1+(w.length+1)=w.length+2 by omega]
 rintro (e|e)
 ·omega
 ·unfold leftL at e
  rw [show Lib.hasSuffix (w++[59]) [59]=true by unfold Lib.hasSuffix;simp] at e
  simp at e
theorem rdL_semi {attr:Bool} {w:List UInt8} (r:List UInt8) (hk:isKey namesL (w++[59])):rdL attr (38::(w++59::r))=nameT (w++[59])++rdL attr r:=by
 rw [rdL_amp,refN_semi r hk]
 simp only
 congr 2
 rw [List.drop_succ_cons,List.drop_append,List.drop_eq_nil_of_le zu4,show w.length+1 - w.length=1 by omega];rfl
theorem numL_dec (ds r:List UInt8) (h:∀ c∈ds,isDg false c=true) (h0:ds≠[]) {m:Nat} (hv:valL 10 ds=m):numL (35::(ds++59::r))=some (m,ds.length+2):=by
 have hx:begR (ds++59::r) [120]=false:=by
  cases ds with
  | nil=>exact absurd rfl h0
  | cons c ds =>
    have hc:=h c zu19
    have:∀ n:Fin 256,isDg false (UInt8.ofNat n.val)=true→(lowB (UInt8.ofNat n.val) == 120)=false:=by decide +kernel
    have g:=this ⟨c.toNat,c.toNat_lt⟩
    simp only [UInt8.ofNat_toNat] at g
    simp [begR,g hc]
 have hd:digs false (ds++59::r)=ds:=by
  unfold digs
  rw [tw_app _ _ _ h,List.takeWhile_cons,if_neg zu15,List.append_nil]
 unfold numL
 rw [show begR (35::(ds++59::r)) [35]=true by simp [begR,lowB],if_pos rfl,List.drop_succ_cons,List.drop_zero,hx,if_neg zu15]
 unfold numQ
 simp only [hd]
 rw [show baseN false=10 from rfl,hv,if_neg zu4,List.drop_left,show begR (59::r) [59]=true by simp [begR,lowB],if_pos rfl]
 simp only [Option.map_some,Int.toNat_natCast]
theorem refN_dec {attr:Bool} (ds r:List UInt8) (h:∀ c∈ds,isDg false c=true) (h0:ds≠[]) {m:Nat} (hv:valL 10 ds=m):refN attr (38::35::(ds++59::r))=((fixB m).data.toList,ds.length+3):=by
 unfold refN
 rw [List.drop_succ_cons,List.drop_zero,numL_dec ds r h h0 hv]
 simp only
 rw [show 1+(ds.length+2)=ds.length+3 by omega]
theorem rdL_dec {attr:Bool} (ds r:List UInt8) (h:∀ c∈ds,isDg false c=true) (h0:ds≠[]) {m:Nat} (hv:valL 10 ds=m):rdL attr (38::35::(ds++59::r))=(fixB m).data.toList++rdL attr r:=by
 rw [rdL_amp,refN_dec ds r h h0 hv]
 simp only
 congr 2
 rw [show ds.length+3=(ds.length+1)+2 by omega,List.drop_succ_cons,List.drop_succ_cons,List.drop_append,List.drop_eq_nil_of_le zu4,show ds.length+1 - ds.length=1 by omega];rfl
end Hand
end

section
namespace Hand
open Go Go.RowKit Pl Pb
theorem dec_apos (attr:Bool) (r:List UInt8):rdL attr (wApos++r)=39::rdL attr r:=by
 have:=rdL_dec (attr:=attr) [51,57] r zu15 zu15 (m:=39) zu15
 exact this.trans (by rw [show (fixB 39).data.toList=[39] by decide +kernel];rfl)
theorem dec_cr (attr:Bool) (r:List UInt8):rdL attr (wCr++r)=13::rdL attr r:=by
 have:=rdL_dec (attr:=attr) [49,51] r zu15 zu15 (m:=13) zu15
 exact this.trans (by rw [show (fixB 13).data.toList=[13] by decide +kernel];rfl)
theorem dec_mark (attr:Bool) (r:List UInt8):rdL attr (wMark++r)=239::187::191::rdL attr r:=by
 have:=rdL_dec (attr:=attr) [54,53,50,55,57] r zu15 zu15 (m:=65279) zu15
 exact this.trans (by rw [show (fixB 65279).data.toList=[239,187,191] by decide +kernel];rfl)
theorem dec_amp (attr:Bool) (r:List UInt8):rdL attr (wAmp++r)=38::rdL attr r:=by
 have:=rdL_semi (attr:=attr) (w:=wordAmp) r (fnd_key fnd_amp)
 exact this.trans (by rw [nameT_amp];rfl)
theorem dec_lt (attr:Bool) (r:List UInt8):rdL attr (wLt++r)=60::rdL attr r:=by
 have:=rdL_semi (attr:=attr) (w:=wordLt) r (fnd_key fnd_lt)
 exact this.trans (by rw [nameT_lt];rfl)
theorem dec_gt (attr:Bool) (r:List UInt8):rdL attr (wGt++r)=62::rdL attr r:=by
 have:=rdL_semi (attr:=attr) (w:=wordGt) r (fnd_key fnd_gt)
 exact this.trans (by rw [nameT_gt];rfl)
theorem dec_quot (attr:Bool) (r:List UInt8):rdL attr (wQuot++r)=34::rdL attr r:=by
 have:=rdL_semi (attr:=attr) (w:=wordQuot) r (fnd_key fnd_quot)
 exact this.trans (by rw [nameT_quot];rfl)
theorem clean_ne {c:UInt8} (r:List UInt8) (h:c≠0):cleanL (c::r)=c::cleanL r:=by rw [cleanL_cons];simp [cleanB,h]
theorem read_esc (attr:Bool):∀ n (s:List UInt8),s.length≤n→rdL attr (escL s)=cleanL s:=by
 intro n
 induction n with
 | zero=>intro s h;obtain rfl:=List.eq_nil_of_length_eq_zero (Nat.le_zero.1 h);rfl
 | succ n ih =>
   intro s h
   cases s with
   | nil=>rfl
   | cons c r =>
     simp only [List.length_cons] at h
     have hr:=ih r zu4
     refine esc_cases c r (fun l=>rdL attr l=cleanL (c::r)) ?_ ?_ ?_ ?_ ?_ ?_ ?_ ?_ ?_
     ·rintro rfl;rw [dec_amp,hr,clean_ne r zu15]
     ·rintro rfl;rw [dec_lt,hr,clean_ne r zu15]
     ·rintro rfl;rw [dec_gt,hr,clean_ne r zu15]
     ·rintro rfl;rw [dec_quot,hr,clean_ne r zu15]
     ·rintro rfl;rw [dec_apos,hr,clean_ne r zu15]
     ·rintro rfl;rw [dec_cr,hr,clean_ne r zu15]
     ·rintro rfl
      rw [rdL_app attr _ (show (38:UInt8)∉wBad by decide),hr,cleanL_cons];rfl
     ·rintro q rfl rfl
      simp only [List.length_cons] at h
      rw [dec_mark,ih q zu4,clean_ne _ zu15,clean_ne _ zu15,clean_ne _ zu15]
     ·intro h38 _ _ _ _ _ h0 _
      rw [rdL_ne attr _ h38,hr,clean_ne r h0]
end Hand
end

section
namespace Hand
open Go Go.RowKit Pl Pb
theorem right_append {y:List UInt8}:∀ n (x:List UInt8),x.length≤n→rightL x=true→rightL (x++y)=rightL y:=by
 intro n
 induction n with
 | zero=>intro x h _;obtain rfl:=List.eq_nil_of_length_eq_zero (Nat.le_zero.1 h);rfl
 | succ n ih =>
   intro x h hx
   by_cases hne:x=[]
   ·subst hne;rfl
   ·obtain ⟨a,q,rfl,ha,hq⟩:=sig_split hx hne
    have h0:=List.length_pos_iff.2 ha.1
    rw [List.length_append] at h
    rw [List.append_assoc,right_app ha,ih q zu4 hq]
theorem right_cat {x y:List UInt8} (hx:rightL x=true) (hy:rightL y=true):rightL (x++y)=true:=by rw [right_append _ x (Nat.le_refl _) hx,hy]
end Hand
end

section
namespace Hand
open Go Go.RowKit Pl Pb Go.Proofs.YtclkdmmgibgamaaGreatDoor.Pure
theorem attrL_62 (L:List AttrT) (x:List UInt8):attrL L (62::x)=some (L,false,x):=by
 rw [attrL_eq,show spL (62::x)=62::x from rfl]
 simp only [if_true]
end Hand
end

section
namespace Hand
open Go.RowKit Pl Pb
theorem run_next_gen {P:Program} (W:World) (b:Nat) (s:ByteArray) (pos:Nat) (ty:TypeId) (hb:W.heap[b]? = some (.stringIter s pos)) (h:pos<s.size) :
  (Instr.next (.pointer (some ⟨b,0,none⟩)) true ty).run P W =
    .ok (.tuple #[.bool true,.int .i64 pos,.int .i32 ((Utf8.decode s pos).1:Nat)]) (W.putObj b (.stringIter s (pos+(Utf8.decode s pos).2))):=by
 simp [Instr.next,getObj,setObj,Sem.run,hb,h,World.putObj,goInt]
theorem run_next_stop {P:Program} (W:World) (b:Nat) (s:ByteArray) (pos:Nat) (ty:TypeId) (hb:W.heap[b]? = some (.stringIter s pos)) (h:¬ pos<s.size) :
  (Instr.next (.pointer (some ⟨b,0,none⟩)) true ty).run P W = .ok (.tuple #[.bool false]) W:=by
 simp [Instr.next,getObj,Sem.run,hb,h]
theorem below_putObj {w W:World} {b:Nat} {o:Obj} (h:Below w.heap.size w W) (hb:w.heap.size≤b):Below w.heap.size w (W.putObj b o) :=
 h.grown (grownBy_putObj' W b o) h.size (fun k e=>by cases e;exact hb)
theorem drop_cut (s:List UInt8) (i:Nat):((B s).extract i (B s).size).data.toList=s.drop i:=by
 rw [show (B s).extract i (B s).size=B (s.drop i) from by
  rw [B_extract,size_B,List.take_length]]
 exact B_data _
theorem right_c (s:List UInt8) (w:World):Calls Tryz.prog 19 #[.string (B s)] w fun e w'=>e = .returned (.bool (rightL s))∧Below w.heap.size w w':=by
 obtain ⟨a,ha⟩:∃ a,B s=a:=⟨_,rfl⟩
 have hsz:a.size=s.length:=by rw [← ha];simp
 have hD:∀ i,a.data.toList.drop i=s.drop i:=fun i=>by rw [← ha,B_data]
 have hC:∀ i,(a.extract i a.size).data.toList=s.drop i:=fun i=>by rw [← ha];exact drop_cut s i
 rw [ha]
 have HP:Hid (∀ (i:Nat) (W:World),Calls Tryz.prog 47 #[.string (a.extract i a.size),.string ⟨#[239,191,189]⟩] W fun e w'=>e = .returned (.bool (badP.isPrefixOf (s.drop i)))∧w'=W):=Lib.hid (fun i W=>by
  have:=Tryz.strings_HasPrefix (a.extract i a.size) ⟨#[239,191,189]⟩ W
  rw [hC] at this
  exact this)
 have HD:=Lib.hid hD
 have HS:=Lib.hid hsz
 have HX:Hid (rightL s=rightL (s.drop 0)):=Lib.hid rfl
 clear hD hC ha hsz
 go_enter Tryz.func19,Tryz.ntmps19
 go_wp2_with fail
 go_loopg [9,10] a.size (fun g _ _ wx => ∃ i:Nat,i+g=a.size∧wx.heap[w.heap.size]? = some (.stringIter a i)∧Hid (rightL s=rightL (s.drop i))∧Hid (Below w.heap.size w wx))
 case atStart=>exact ⟨0,zu4,World.iter_heap _ _ _,HX,Lib.hid ((Below.refl _ _).alloc (Nat.le_refl _) _)⟩
 case round =>
  obtain ⟨i,hig,hit,hno,hbl⟩:=hrel
  cases gk with
  | zero =>
    obtain rfl:i=a.size:=by omega
    have hnx:=fun ty=>run_next_stop (P:=Tryz.prog) _ w.heap.size a a.size ty hit zu4
    have hr:true=rightL s:=by
     rw [hno.out,List.drop_of_length_le (by have:=HS.out;omega)];rfl
    have HR:=Lib.hid hr
    clear hit hr
    go_wp2_with fail
    go_ret
    exact ⟨by rw [← HR.out];rfl,hbl.out⟩
  | succ g =>
    have hi:i<a.size:=by omega
    have hil:i<s.length:=by have:=HS.out;omega
    obtain ⟨c0,r0,hr⟩:∃ c r,s.drop i=c::r:=⟨s[i],s.drop (i+1),List.drop_eq_getElem_cons hil⟩
    have hd:=decode_right (s:=a) (i:=i) ((HD.out i).trans hr)
    have hnx:=fun ty=>run_next_gen (P:=Tryz.prog) _ w.heap.size a i ty hit hi
    obtain ⟨⟨c,k⟩,hck⟩:∃ d,Utf8.decode a i=d:=⟨_,rfl⟩
    rw [hck] at hd hnx
    simp only at hnx hd
    have hlt2:=(Array.getElem?_eq_some_iff.1 hit).1
    have hbl2:=Lib.hid (below_putObj (b:=w.heap.size) (o:=.stringIter a (i+k)) hbl.out (Nat.le_refl _))
    have hput:=Lib.hid (World.putObj_heap_same (o:=.stringIter a (i+k)) hlt2)
    have hpos:=firstU_pos c0 r0
    have hrc:=rightL_cons c0 r0
    have HPi:=HP.out i
    rw [hr] at HPi
    have hlen:=congrArg List.length hr
    rw [List.length_drop] at hlen
    cases hF:(firstU (c0::r0)).2 with
    | true =>
      obtain ⟨hk,hb⟩:=hd.1 hF
      rw [← hk] at hpos hrc
      rw [hF,Bool.true_and,← hr,List.drop_drop] at hrc
      have HNX:Hid (rightL s=rightL (s.drop (i+k))):=Lib.hid (hno.out.trans hrc)
      have hk1:1≤k:=hpos.1
      have hk2:i+k≤a.size:=by have:=HS.out;have:=hpos.2.1;omega
      by_cases e:c=65533
      ·subst e
       rw [hb rfl] at HPi
       have HPJ:=Lib.hid HPi
       clear hd hit hck hbl hno hpos hrc HPi hlen hF hk hb hr
       go_wp2_with fail
       refine (HPJ.out _).mono ?_
       rintro e w2 ⟨rfl,rfl⟩
       go_wp2_with fail
       go_roundg (g+1 - k)
       case measure=>omega
       case rel=>exact ⟨i+k,zu4,hput.out,HNX,hbl2⟩
      ·have hne:(((c:Nat):Int) == 65533)=false:=by rw [beq_eq_false_iff_ne];omega
       clear hd hit hck hbl hno hpos hrc HPi hlen hF hk hb hr e
       go_wp2_with fail
       go_roundg (g+1 - k)
       case measure=>omega
       case rel=>exact ⟨i+k,zu4,hput.out,HNX,hbl2⟩
    | false =>
      obtain ⟨hk,hb⟩:=hd.2 hF
      subst hk
      rw [hF,Bool.false_and,← hr] at hrc
      rw [Bool.eq_false_iff.2 hb] at HPi
      have HNX:Hid (false=rightL s):=Lib.hid (hno.out.trans hrc).symm
      have HPJ:=Lib.hid HPi
      clear hd hit hck hbl hno hpos hrc HPi hlen hF hb hr
      go_wp2_with fail
      refine (HPJ.out _).mono ?_
      rintro e w2 ⟨rfl,rfl⟩
      go_wp2_with fail
      go_ret
      exact ⟨by rw [← HNX.out];rfl,hbl2.out⟩
end Hand
end

section
namespace Hand
open Go Go.RowKit Pl Pb Go.Proofs.YtclkdmmgibgamaaGreatDoor.Pure
theorem esc_no (s:List UInt8):∀ c∈escL s,c≠60∧c≠62∧c≠34∧c≠39∧c≠0∧c≠13:=by
 have gen:∀ (t:List UInt8) (o:Bool),scanE o t=true→∀ c∈t,c≠60∧c≠62∧c≠34∧c≠39∧c≠0∧c≠13:=by
  intro t
  induction t with
  | nil=>intro _ _ _ h;cases h
  | cons d r ih =>
    intro o h c hc
    rw [scanE] at h
    split at h
    ·cases h
    ·rename_i hd
     simp only [not_or] at hd
     rcases List.mem_cons.1 hc with rfl|hc
     ·exact hd
     ·split at h
      ·rw [Bool.and_eq_true] at h;exact ih true h.2 c hc
      ·split at h
       ·exact ih false h c hc
       ·exact ih o h c hc
 exact gen _ false (scan_esc _ s (Nat.le_refl _))
theorem put_app (k:Bool) (f:Fl) (a b:List UInt8):flPut k f (a++b)=flPut k (flPut k f a) b:=List.foldl_append ..
end Hand
end

section
namespace Hand
open Go Go.RowKit K0 Pl Pb Sa St Go.Proofs.YtclkdmmgibgamaaGreatDoor.Pure YtclkdmmgibgamaaGreatDoorW.PrintWords YtclkdmmgibgamaaGreatDoorW.PrintLast YtclkdmmgibgamaaGreatDoorW.PrintMore
theorem byt_conv (t:List UInt8) (W:World):∃ v W',(convert 9 22 (.string (B t))).run Tryz.prog W = .ok v W'∧Below W.heap.size W W'∧Byt t v W':=by
 have hconv:=Lib.run_convert_string_bytes (P:=Tryz.prog) W 9 22 5 (B t) Tryz.underlying9 Tryz.underlying22 Tryz.underlying5
 refine ⟨_,_,hconv,below_bytesWorld W 5 (B t),fun W' hb => ?_⟩
 rw [size_B]
 refine run_convert_bytes_back (P:=Tryz.prog) W' 22 9 5 ⟨W.heap.size,0,none⟩ _ t Tryz.underlying22 Tryz.underlying5 Tryz.underlying9 (fun j hj => ?_)
 have ha:(⟨W.heap.size,0,none⟩:Addr).add j=⟨W.heap.size,j,none⟩:=by unfold Addr.add;split<;>simp_all
 have hc:(Lib.bytesWorld W 5 (B t)).cell? ⟨W.heap.size,j,none⟩=some (.int .u8 (t[j].toNat:Int)):=by
  rw [Lib.bytesWorld_cell W 5 (B t) j (by rw [size_B];exact hj),B_data,List.getD_eq_getElem?_getD,List.getElem?_eq_getElem hj];rfl
 rw [ha]
 exact (hb.cell (World.block_lt_of_cell? _ _ hc)).trans hc
end Hand
end

section
namespace Hand
open Go Go.RowKit Pl Pb Go.Proofs.YtclkdmmgibgamaaGreatDoor.Pure
theorem pgText_nil (p:Pg):pgText p []=p:=by
 unfold pgText
 split
 ·rename_i h;cases p;rfl
 ·rfl
theorem pgText_app (p:Pg) (a b:List UInt8):pgText (pgText p a) b=pgText p (a++b):=by
 unfold pgText
 by_cases h:p.op=[]
 ·rw [if_pos h,if_pos h,if_pos h,put_app]
 ·rw [if_neg h,if_neg h,if_neg h]
theorem render_cons (p:Pg) (t:Tk) (l:List Tk):renderP p (t::l)=renderP (pgTok p t) l:=rfl
theorem render_app (p:Pg) (a b:List Tk):renderP p (a++b)=renderP (renderP p a) b:=List.foldl_append ..
theorem render_txt (p:Pg) (s:List UInt8):renderP p (txtT s)=pgText p s:=by
 unfold txtT
 split
 ·rename_i h;rw [h,pgText_nil];rfl
 ·rfl
theorem render_join:∀ (l:List Tk) (p:Pg),renderP p (joinL l)=renderP p l:=by
 intro l
 induction l with
 | nil=>intro p;rfl
 | cons t r ih =>
   intro p
   cases ht:isTx t with
   | false=>rw [joinL_no r ht,render_cons,render_cons,ih]
   | true =>
     obtain ⟨s,rfl⟩:∃ s,t = .text s:=by cases t<;>first|exact ⟨_,rfl⟩|cases ht
     have h:=ih (pgText p s)
     rw [joinL,render_cons]
     show _=renderP (pgText p s) r
     rw [← h]
     split
     ·rename_i v r2 he
      rw [he,render_cons,render_cons]
      show renderP (pgText p (s++v)) r2=renderP (pgText (pgText p s) v) r2
      rw [pgText_app]
     ·rw [render_app,render_txt]
noncomputable def rnP (p:Pg) (l:List UInt8):Pg:=renderP p (drvL l)
theorem ext_rn (s:List UInt8):extL s=(rnP pg0 (normL (decL (trimL s)))).fl.told:=by
 unfold extL rnP renderL driveL
 rw [render_join]
theorem rn_nil (p:Pg):rnP p []=p:=rfl
theorem rn_text (p:Pg) {s r:List UInt8} (h:(60:UInt8)∉s) (hr:txN r=0):rnP p (s++r)=rnP (pgText p (rdL false s)) r:=by
 by_cases hs:s=[]
 ·subst hs;rw [rdL_nil,pgText_nil];rfl
 ·unfold rnP;rw [drvL_text hs h hr];rfl
theorem txN_beg {l:List UInt8} (h:begM l=true):txN l=0:=by
 cases l with
 | nil=>rfl
 | cons c r=>rw [txN,if_pos h]
theorem dw_name {n x:List UInt8} (hn:n.all stC=true) (hx:∀ d y,x=d::y→stC d=false):(n++x).dropWhile stC=x∧(n++x).takeWhile stC=n:=by
 induction n with
 | nil =>
   cases x with
   | nil=>exact ⟨rfl,rfl⟩
   | cons d y =>
     have:=hx d y rfl
     exact ⟨by rw [List.nil_append,List.dropWhile_cons,this];rfl,by rw [List.nil_append,List.takeWhile_cons,this];rfl⟩
 | cons c q ih =>
   rw [List.all_cons,Bool.and_eq_true] at hn
   obtain ⟨h1,h2⟩:=ih hn.2
   exact ⟨by rw [List.cons_append,List.dropWhile_cons,hn.1];exact h1,by rw [List.cons_append,List.takeWhile_cons,hn.1];exact congrArg _ h2⟩
structure Nm (n:List UInt8):Prop where
 let1:∃ c q,n=c::q∧isLetB c=true
 all:n.all stC=true
theorem tagN_open {n x:List UInt8} (h:Nm n):tagN (60::(n++x))=1:=by
 obtain ⟨c,q,rfl,hc⟩:=h.let1
 show tagN (60::c::(q++x))=1
 unfold tagN
 simp [hc]
theorem tagN_close {n x:List UInt8} (h:Nm n):tagN (60::47::(n++x))=2:=by
 obtain ⟨c,q,rfl,hc⟩:=h.let1
 show tagN (60::47::c::(q++x))=2
 unfold tagN
 simp [hc,show isLetB 47=false by decide]
theorem begX_close {n x:List UInt8} (h:Nm n):begM (60::47::(n++x))=true:=by unfold begM;rw [tagN_close h];rfl
def Stp (x:List UInt8):Prop := ∀ d y,x=d::y→stC d=false
theorem tokL_open {n x:List UInt8} (h:Nm n) (hx:Stp x) {al:List AttrT} {self:Bool} {r:List UInt8} (ha:attrL [] x=some (al,self,r)):tokL (60::(n++x))=(some (.start (cleanL (lowL n)) al self),r):=by
 obtain ⟨d1,d2⟩:=dw_name h.all hx
 unfold tokL
 rw [if_pos (by rw [tagN_open h];decide)]
 unfold tagL
 rw [tagN_open h,show (60::(n++x)).drop 1=n++x from rfl,d1,ha]
 simp only
 rw [if_neg zu15]
 unfold nameL
 rw [d2]
theorem tagR_close {n x:List UInt8} (h:Nm n) (hx:Stp x) {al:List AttrT} {self:Bool} {r:List UInt8} (ha:attrL [] x=some (al,self,r)):tagR (60::47::(n++x))=(some (.fin (cleanL (lowL n))),r)∧tokL (60::47::(n++x))=(some (.fin (cleanL (lowL n))),r):=by
 obtain ⟨d1,d2⟩:=dw_name h.all hx
 have e:tagL (60::47::(n++x))=(some (.fin (cleanL (lowL n))),r):=by
  unfold tagL
  rw [tagN_close h,show (60::47::(n++x)).drop 2=n++x from rfl,d1,ha]
  simp only
  rw [if_pos True.intro]
  unfold nameL
  rw [d2]
 refine ⟨?_,?_⟩
 ·unfold tagR;rw [if_neg (by rw [tagN_close h];decide),e]
 ·unfold tokL;rw [if_pos (by rw [tagN_close h];decide),e]
theorem rn_open (p:Pg) {n x:List UInt8} (h:Nm n) (hx:Stp x) {al:List AttrT} {self:Bool} {r:List UInt8} (ha:attrL [] x=some (al,self,r)) (hs:stateN (cleanL (lowL n))=0):rnP p (60::(n++x))=rnP (pgStart p (cleanL (lowL n))) r:=by
 unfold rnP
 rw [drvL_eq zu19,tokL_open h hx ha]
 unfold drv1
 simp only
 rw [hs]
 rfl
theorem rn_close (p:Pg) {n x:List UInt8} (h:Nm n) (hx:Stp x) {al:List AttrT} {self:Bool} {r:List UInt8} (ha:attrL [] x=some (al,self,r)):rnP p (60::47::(n++x))=rnP (pgEnd p (cleanL (lowL n))) r:=by
 unfold rnP
 rw [drvL_eq zu19,(tagR_close h hx ha).2]
 rfl
theorem attr_end (x:List UInt8):attrL [] (62::x)=some ([],false,x):=attrL_62 [] x
theorem stp_end (x:List UInt8):Stp (62::x):=fun d y e=>by rw [← (List.cons.inj e).1];decide
end Hand
end

section
namespace Hand
open Go Go.RowKit Pl Pb Go.Proofs.YtclkdmmgibgamaaGreatDoor.Pure
theorem pgLines_told (f:Fl) (n:List UInt8):(pgLines f n).told=f.told:=by
 unfold pgLines
 dsimp only
 split<;>split<;>rfl
theorem pgEnd_told (p:Pg) (n:List UInt8):(pgEnd p n).fl.told=p.fl.told:=by
 unfold pgEnd
 split
 ·rfl
 ·split
  ·exact pgLines_told _ _
  ·rfl
theorem put_told:∀ (t:List UInt8) (f g:Fl),(f=g∨(f.told=[]∧g.told=[]))→(flPut false f t).told=(flPut false g t).told:=by
 intro t
 induction t with
 | nil =>
   intro f g h
   rcases h with h|h
   ·rw [h]
   ·exact h.1.trans h.2.symm
 | cons c r ih =>
   intro f g h
   refine ih _ _ ?_
   rcases h with h|h
   ·exact .inl (by rw [h])
   ·unfold flByte
    split
    ·exact .inr h
    ·split
     ·refine .inr ?_
      have lt:∀ x:Fl,(flLose x).told=x.told:=fun x=>by unfold flLose;split<;>rfl
      exact ⟨(lt f).trans h.1,(lt g).trans h.2⟩
     ·refine .inl ?_
      unfold flWord flAdd
      rw [if_pos h.1,if_pos h.2,h.1,h.2]
def nmP:List UInt8:=[112]
theorem low_p:cleanL (lowL nmP)=nmP:=by decide
theorem nm_p:Nm nmP:=⟨⟨112,[],rfl,zu15⟩,zu15⟩
theorem rn_tag (p:Pg) {n:List UInt8} (h:Nm n) (hl:cleanL (lowL n)=n) (hs:stateN n=0) (r:List UInt8):rnP p (60::(n++62::r))=rnP (pgStart p n) r:=by
 have:=rn_open p h (stp_end r) (attr_end r) (by rw [hl];exact hs)
 rwa [hl] at this
theorem rn_fin (p:Pg) {n:List UInt8} (h:Nm n) (hl:cleanL (lowL n)=n) (r:List UInt8):rnP p (60::47::(n++62::r))=rnP (pgEnd p n) r:=by
 have:=rn_close p h (stp_end r) (attr_end r)
 rwa [hl] at this
theorem start_line (f:Fl) {n:List UInt8} (h1:n≠nmBody) (h2:hidesB n=false) (h3:keepsB n=false):pgStart ⟨f,[],0⟩ n=⟨pgLines f n,[],0⟩:=by
 unfold pgStart
 simp only [if_neg h1,h2,h3]
 rfl
theorem signs_plain {s:List UInt8} (hr:rightL s=true):extL (60::(nmP++62::(escL s++60::47::(nmP++62::[]))))=renderL [.text (cleanL s)]:=by
 have hno:=esc_no s
 have h60:(60:UInt8)∉escL s:=fun h=>(hno _ h).1 rfl
 have h13:(13:UInt8)∉escL s:=fun h=>(hno _ h).2.2.2.2.2 rfl
 have st:=fun f=>start_line f (n:=nmP) zu15 zu15 zu15
 have hd:decL (60::(nmP++62::(escL s++60::47::(nmP++62::[]))))=60::(nmP++62::(escL s++60::47::(nmP++62::[]))):=by
  refine decL_right _ _ (Nat.le_refl _) ?_
  exact right_cat (x:=[60,112,62]) zu15 (right_cat (right_esc _ s (Nat.le_refl _) hr) zu15)
 rw [ext_rn,show trimL (60::(nmP++62::(escL s++60::47::(nmP++62::[]))))=60::(nmP++62::(escL s++60::47::(nmP++62::[]))) from rfl,hd,normL_of_no13 (by simp [nmP,h13]),
  rn_tag _ nm_p low_p zu15,rn_text _ h60 (txN_beg (begX_close nm_p)),read_esc false _ s (Nat.le_refl _),rn_fin _ nm_p low_p,rn_nil,pgEnd_told]
 unfold pg0
 rw [st]
 exact put_told _ _ _ (.inr ⟨pgLines_told _ _,rfl⟩)
end Hand
end

section
namespace Hand
open Go.RowKit Pb Pl
theorem enc_at (k:Int) (s t:List UInt8) (h:encL k s=t) (hs:s.length≤100000) (w:World) :
 Calls Tryz.prog 26 #[.int .i64 k,.string (B s)] w fun e w'=>e = .returned (.string (B t))∧Below w.heap.size w w':=by rw [← h];exact enc_c k s w hs
theorem awake21_any (w:World):Calls Tryz.prog 30 #[] w fun e w'=>e = .returned (.bool true)∧Below w.heap.size w w':=by
 have F1:∀ W,Calls Tryz.prog 26 #[.int .i64 0,.string ⟨#[97,60,98]⟩] W fun e w'=>e = .returned (.string ⟨#[97,38,108,116,59,98]⟩)∧Below W.heap.size W w':=fun W=>enc_at 0 [97,60,98] [97,38,108,116,59,98] zu15 zu15 W
 have F2:∀ W,Calls Tryz.prog 26 #[.int .i64 2,.string ⟨#[10,97]⟩] W fun e w'=>e = .returned (.string ⟨#[10,10,97]⟩)∧Below W.heap.size W w':=fun W=>enc_at 2 [10,97] [10,10,97] zu15 zu15 W
 have F3:∀ W,Calls Tryz.prog 26 #[.int .i64 1,.string ⟨#[10,97]⟩] W fun e w'=>e = .returned (.string ⟨#[10,97]⟩)∧Below W.heap.size W w':=fun W=>enc_at 1 [10,97] [10,97] zu15 zu15 W
 have G1:=Lib.hid F1
 have G2:=Lib.hid F2
 have G3:=Lib.hid F3
 clear F1 F2 F3
 go_enter Tryz.func30,Tryz.ntmps30
 go_wp2_with fail
 refine (G1.out _).mono ?_
 rintro e w1 ⟨rfl,hb1⟩
 have HB1:=Lib.hid hb1
 clear hb1
 go_wp2_with fail
 refine (G2.out _).mono ?_
 rintro e w2 ⟨rfl,hb2⟩
 have HB2:=Lib.hid (HB1.out.trans (hb2.mono HB1.out.size))
 clear hb2 HB1
 go_wp2_with fail
 refine (G3.out _).mono ?_
 rintro e w3 ⟨rfl,hb3⟩
 have HB3:=Lib.hid (HB2.out.trans (hb3.mono HB2.out.size))
 clear hb3 HB2
 go_wp2_with fail
 go_ret
 exact ⟨rfl,HB3.out⟩
end Hand
end

section
namespace Hand
open Go Go.RowKit K0 Pl Pb Sa St Go.Proofs.YtclkdmmgibgamaaGreatDoor.Pure YtclkdmmgibgamaaGreatDoorW.PrintWords YtclkdmmgibgamaaGreatDoorW.PrintLast YtclkdmmgibgamaaGreatDoorW.PrintMore
theorem right_z {s:List UInt8} {b:Bool} (h:rightL s=b) (w:World) :
 Calls Tryz.prog 19 #[.string (B s)] w fun e w'=>e = .returned (.bool b)∧Below w.heap.size w w':=by rw [← h];exact right_c s w
theorem lit_one (W:World) (base:Nat) (hbase:base≤W.heap.size) (d:ByteArray):Kd.N tkK 30 (W.alloc (.cells #[.int .i64 0,.string ⟨#[]⟩,.string d,.slice none 0 0,.bool false] 30)) base (fun k=>base≤k) (.slice (some ⟨W.heap.size,0,none⟩) 1 1) [⟨0,⟨#[]⟩,d,[],false⟩]:=by
 refine Kd.R_N ⟨fun k hk => ?_,[.int .i64 0,.string ⟨#[]⟩,.string d,.slice none 0 0,.bool false],?_,?_⟩
 ·have:W.heap.size=k:=by simpa [Value.ownBlock] using hk
  omega
 ·have h2:=World.ownsRow_lit (base:=base) (e:=30) (size:=tkK.sz) W #[.int .i64 0,.string ⟨#[]⟩,.string d,.slice none 0 0,.bool false] 1 hbase zu15 rfl
  simpa using h2
 ·exact Reps.c5 (k30_mkM _ _ _ (⟨0,⟨#[]⟩,d,[],false⟩:TkS) (Kd.R_nil _ _ _ _ _)) ⟨rfl,fun j p h=>by simp at h⟩
theorem render_one (t:List UInt8) (ht:t.length≤90000) (W:World) :
  Calls Tryz.prog 31 #[.slice (some ⟨W.heap.size,0,none⟩) 1 1] (W.alloc (.cells #[.int .i64 0,.string ⟨#[]⟩,.string (B t),.slice none 0 0,.bool false] 30)) fun e w'=>e = .returned (.string (B (renderL [.text t])))∧Below (W.heap.size+1) (W.alloc (.cells #[.int .i64 0,.string ⟨#[]⟩,.string (B t),.slice none 0 0,.bool false] 30)) w':=by
 have h:=render_c [.text t] (by show tkT (.text t)+0≤90000;have:tkT (.text t)=t.length:=rfl;omega) zu19 _ _ _ _ (Kd.V_bound (Kd.N_V (base':=0) (lit_one W W.heap.size (Nat.le_refl _) (B t))))
 have e:(W.alloc (.cells #[.int .i64 0,.string ⟨#[]⟩,.string (B t),.slice none 0 0,.bool false] 30)).heap.size=W.heap.size+1:=World.size_alloc ..
 rw [e] at h
 exact h
def sgT (s:List UInt8):List UInt8:=60::(nmP++62::(escL s++60::47::(nmP++62::[])))
theorem sgT_B (s:List UInt8):B (sgT s)=⟨#[60,112,62]⟩++B (escL s)++⟨#[60,47,112,62]⟩:=by
 rw [show sgT s=([60,112,62]++escL s)++[60,47,112,62] by simp [sgT,nmP],← B_append,← B_append];rfl
theorem sgT_len (s:List UInt8):(sgT s).length=(escL s).length+7:=by simp [sgT,nmP]
theorem EscapeSigns_law (a0:ByteArray) (w:World) (_:a0.size≤140737488351232) (hGl:Glob w) :
  Calls Tryz.prog 13 #[.string a0] w fun e w'=>e = .returned (.bool true)∧Below w.heap.size w w':=by
 have AW:=Lib.hid (fun W=>awake21_any W)
 have HG:=Lib.hid hGl
 clear hGl
 by_cases c1:300<a0.size
 ·have q1:decide (300<a0.size)=true:=decide_eq_true c1
  have q1':decide ((300:Int)<(a0.size:Int))=true:=decide_eq_true zu4
  clear c1
  go_enter Tryz.func13,Tryz.ntmps13
  go_wp2_with fail
  refine (AW.out _).mono ?_
  rintro e w1 ⟨rfl,hb⟩
  go_wp2_with fail
  go_ret
  exact ⟨rfl,hb⟩
 have q1:decide (300<a0.size)=false:=decide_eq_false c1
 have q1':decide ((300:Int)<(a0.size:Int))=false:=decide_eq_false zu4
 obtain ⟨s,rfl⟩:=exists_B a0
 have hs:s.length≤300:=by rw [size_B] at c1;omega
 clear c1
 cases r1:rightL s with
 | false =>
   have R1:=Lib.hid (fun W=>right_z r1 W)
   obtain ⟨a,ha⟩:∃ a,B s=a:=⟨_,rfl⟩
   rw [ha] at q1 q1' R1 ⊢
   clear ha r1
   go_enter Tryz.func13,Tryz.ntmps13
   go_wp2_with fail
   refine (AW.out _).mono ?_
   rintro e w1 ⟨rfl,hb⟩
   have HB:=Lib.hid hb
   clear hb
   go_wp2_with fail
   refine (R1.out _).mono ?_
   rintro e w2 ⟨rfl,hb⟩
   replace HB:=Lib.hid (HB.out.trans (hb.mono HB.out.size))
   clear hb
   go_wp2_with fail
   go_ret
   exact ⟨rfl,HB.out⟩
 | true =>
   have R1:=Lib.hid (fun W=>right_z r1 W)
   have hen:encL 0 s=escL s:=by unfold encL;rw [if_pos (Or.inl rfl)]
   have E0:=fun W=>enc_c 0 s W zu4
   have zl:=enc_length 0 s
   rw [hen] at E0 zl
   have E1:=Lib.hid E0
   have zt:=sgT_len s
   have V0:=fun W=>byt_conv (sgT s) W
   rw [sgT_B] at V0
   have V:=Lib.hid V0
   have EX:Hid (∀ W v,Glob W→Byt (sgT s) v W→Calls Tryz.prog 15 #[v] W fun e w'=>e = .returned (.string (B (renderL [.text (cleanL s)])))∧Below W.heap.size W w'):=Lib.hid (fun W v hG hv=>by
    have:=extract_c (sgT s) v zu4 W hG hv
    rwa [show extL (sgT s)=renderL [.text (cleanL s)] from signs_plain r1] at this)
   have CR:Hid (∀ W,Glob W→Calls Tryz.prog 32 #[.string (B s)] W fun e w'=>e = .returned (.string (B (cleanL s)))∧Below W.heap.size W w'):=Lib.hid (fun W hG=>by
    have:=clean_any (B s) W zu36 hG
    unfold cleanBA at this
    rw [B_data] at this
    exact this)
   have zc:(cleanL s).length≤900:=by have:=cleanL_length s;omega
   have RN:=Lib.hid (fun W=>render_one (cleanL s) zu4 W)
   obtain ⟨r,hr⟩:∃ a,B (escL s)=a:=⟨_,rfl⟩
   obtain ⟨a,ha⟩:∃ a,B s=a:=⟨_,rfl⟩
   obtain ⟨c,hc⟩:∃ a,B (cleanL s)=a:=⟨_,rfl⟩
   obtain ⟨x,hx⟩:∃ a,B (renderL [.text (cleanL s)])=a:=⟨_,rfl⟩
   have zr:r.size≤1800:=by rw [← hr,size_B];omega
   rw [hr] at E1 V
   rw [hc,hx] at RN
   rw [hc] at CR
   rw [hx] at EX
   rw [ha] at q1 q1' R1 E1 CR ⊢
   have f1:(9223372036854775807<3+r.size)=False:=eq_false zu4
   have f2:(9223372036854775807<3+r.size+4)=False:=eq_false zu4
   clear ha hr hc hx r1 V0 E0 zl zt zc zr hs hen
   go_enter Tryz.func13,Tryz.ntmps13
   go_wp2_with fail
   refine (AW.out _).mono ?_
   rintro e w1 ⟨rfl,hb⟩
   have HB:=Lib.hid hb
   clear hb
   go_wp2_with fail
   refine (R1.out _).mono ?_
   rintro e w2 ⟨rfl,hb⟩
   replace HB:=Lib.hid (HB.out.trans (hb.mono HB.out.size))
   clear hb
   go_wp2_with fail
   refine (E1.out _).mono ?_
   rintro e w3 ⟨rfl,hb⟩
   replace HB:=Lib.hid (HB.out.trans (hb.mono HB.out.size))
   clear hb
   obtain ⟨v,w4,hv,hb,D⟩:=V.out w3
   have HB4:=Lib.hid (HB.out.trans (hb.mono HB.out.size))
   have HD:=Lib.hid D
   clear hb D
   go_wp2_with fail
   refine (EX.out _ _ (HG.out.step HB4.out) HD.out).mono ?_
   rintro e w5 ⟨rfl,hb⟩
   replace HB:=Lib.hid (HB4.out.trans (hb.mono HB4.out.size))
   clear hb hv HD HB4
   go_wp2_with fail
   refine (CR.out _ (HG.out.step HB.out)).mono ?_
   rintro e w6 ⟨rfl,hb⟩
   replace HB:=Lib.hid (HB.out.trans (hb.mono HB.out.size))
   clear hb
   go_wp2_with fail
   refine (RN.out w6).mono ?_
   rintro e w7 ⟨rfl,hb⟩
   have HB7:=Lib.hid ((below_alloc HB.out _).trans (hb.mono (Nat.le_succ_of_le HB.out.size)))
   clear hb
   go_wp2_with fail
   go_ret
   exact ⟨zu19,HB7.out⟩
end Hand
end

end Go.Proofs.YtclkdmmgibgamaaGreatDoor