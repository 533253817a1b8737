/-
  Texts of the claim ContextReads, merged by a program of this session (1).
-/
import Derived.Test.YtcecjoaeolglbaaGreatDoorZse
import Derived.Below
import Derived.Deep.Draws
import Derived.Deep.AppendLies
import Derived.Maps.AppendAt
import Derived.OwnWalk
import Derived.Laws.BytesArg
import Derived.Laws.MakeOwn
import Derived.Laws.OwnMore
import Derived.Deep.OwnRows
import Derived.Tactics
import Derived.Lib.ConvBytes
import Derived.Laws.Slices
import Derived.WalkKit
import Derived.KernelRfl
import Derived.RowKit3
import Derived.Deep.LoopGhost
import Derived.Deep.QuietTactic
import Derived.BigQuiet
import Derived.WideLaws
import Derived.Deep.DeepCutAuto
import Derived.Deep.CutBlock
import Derived.Deep.RegionHeld3
import Derived.Laws.Rows
import Derived.Lib.AppendStr
import Derived.ArgAppend
import Derived.Laws.IdiomCopy
import Derived.RowKit
import Derived.Test.YtcecjoaeolglbaaGreatDoorProg
import Derived.OrdersHeld
import Derived.Laws.BitsLemmas
import Derived.Shelf.Strings.Builder1
import Derived.Shelf.Strings.Builder2
import Derived.Shelf.Small.Strs
import Derived.Shelf.Small.Wraps
import Derived.Shelf.Strings.BuilderF
import Derived.Shelf.Strings.BuilderK
import Derived.Shelf.Utf8.RuneCount
import Derived.Shelf.Strconv.Itoa0
import Derived.Shelf.LaysM
import Derived.Shelf.Strconv.Clone
import Derived.Shelf.Strconv.SyntaxError
import Derived.Shelf.LaysC
import Derived.Shelf.Strconv.ToError
import Derived.Shelf.Strconv.Lower
import Derived.Shelf.Strconv.ParseUintEmpty
import Derived.Shelf.Strings.Search1
import Derived.Shelf.Strings.Search2
import Derived.Shelf.Strings.Search3
import Derived.Shelf.Strings.Cut
import Derived.Shelf.Strings.Count
import Derived.Shelf.Strings.Shaped
import Derived.Shelf.Strings.LastIndex
import Derived.Shelf.Strings.Prefix
import Derived.Shelf.Strings.Split
import Derived.Shelf.Strings.Replace
import Derived.Shelf.Strings.SplitShaped
import Derived.Shelf.Unicode.Decode
import Derived.Shelf.Strings.RuneCount
import Derived.Shelf.Bits.Mul64
import Derived.Shelf.Strings.Repeat
import Derived.Shelf.Unicode.DecodeSlow
import Derived.Shelf.Unicode.DecodeAny
import Derived.Ground.SlgfProg
import Derived.Shelf.SlicesE.IndexFunc
import Derived.Shelf.SlicesE.DeleteFunc
import Derived.Lib.Replace
import Derived.Lib.CountLaws
import Derived.Lib.IndexLaws
import Derived.WalkSpells
import Derived.WalkLawsBesides
import Derived.WalkMore
import Derived.ScopeJumps
import Derived.Lib.Hide
import Derived.LoopN
import Derived.ChangeKeysEq
import Derived.Laws.Runes
set_option linter.unusedVariables false
set_option linter.unusedSimpArgs false
namespace Foot
end Foot
namespace Go.Proofs
end Go.Proofs
namespace Go.Proofs.YtcecjoaeolglbaaGreatDoor.Hand
end Go.Proofs.YtcecjoaeolglbaaGreatDoor.Hand
namespace Go.Proofs.YtcecjoaeolglbaaGreatDoor.K0
end Go.Proofs.YtcecjoaeolglbaaGreatDoor.K0
namespace Go.Proofs.YtcecjoaeolglbaaGreatDoor.Pb
end Go.Proofs.YtcecjoaeolglbaaGreatDoor.Pb
namespace Go.Proofs.YtcecjoaeolglbaaGreatDoor.Pcb
end Go.Proofs.YtcecjoaeolglbaaGreatDoor.Pcb
namespace Go.Proofs.YtcecjoaeolglbaaGreatDoor.Pcm
end Go.Proofs.YtcecjoaeolglbaaGreatDoor.Pcm
namespace Go.Proofs.YtcecjoaeolglbaaGreatDoor.Pcq
end Go.Proofs.YtcecjoaeolglbaaGreatDoor.Pcq
namespace Go.Proofs.YtcecjoaeolglbaaGreatDoor.Pl
end Go.Proofs.YtcecjoaeolglbaaGreatDoor.Pl
namespace Go.Proofs.YtcecjoaeolglbaaGreatDoor.Pure
end Go.Proofs.YtcecjoaeolglbaaGreatDoor.Pure
namespace Go.Proofs.YtcecjoaeolglbaaGreatDoor.RowKit
end Go.Proofs.YtcecjoaeolglbaaGreatDoor.RowKit
namespace Go.Proofs.YtcecjoaeolglbaaGreatDoor.Sa
end Go.Proofs.YtcecjoaeolglbaaGreatDoor.Sa
namespace Go.Proofs.YtcecjoaeolglbaaGreatDoor.Si
end Go.Proofs.YtcecjoaeolglbaaGreatDoor.Si
namespace Go.Proofs.YtcecjoaeolglbaaGreatDoor.Sp
end Go.Proofs.YtcecjoaeolglbaaGreatDoor.Sp
namespace Go.Proofs.YtcecjoaeolglbaaGreatDoor.St
end Go.Proofs.YtcecjoaeolglbaaGreatDoor.St
namespace Go.Proofs.YtcecjoaeolglbaaGreatDoor.Sx
end Go.Proofs.YtcecjoaeolglbaaGreatDoor.Sx
namespace Go.Proofs.YtcecjoaeolglbaaGreatDoorW.PrintLast
end Go.Proofs.YtcecjoaeolglbaaGreatDoorW.PrintLast
namespace Go.Proofs.YtcecjoaeolglbaaGreatDoorW.PrintMore
end Go.Proofs.YtcecjoaeolglbaaGreatDoorW.PrintMore
namespace Go.Proofs.YtcecjoaeolglbaaGreatDoorW.PrintWords
end Go.Proofs.YtcecjoaeolglbaaGreatDoorW.PrintWords
namespace Kd
end Kd

section
set_option linter.unusedVariables false
set_option linter.unusedSimpArgs false
namespace Go.Proofs.YtcecjoaeolglbaaGreatDoorW.PrintWords
open Go.RowKit
section
variable {P : Program} {ops : Array Oper} {rest : List Oper} {o : Oper} {a : Act} {Q : Exit → Act → World → Prop}
end
section
variable {P : Program}
end
section
variable {P : Program} {ops : Array Oper} {rest : List Oper} {o : Oper} {a : Act} {Q : Exit → Act → World → Prop}
end
def LeO {α:Type} (a b:Option α):Prop := ∀ r,a=some r→b=some r
theorem LeO.refl {α:Type} (a:Option α):LeO a a:=fun _ h=>h
theorem LeO.none {α:Type} (b:Option α):LeO Option.none b:=fun _ h=>by cases h
theorem LeO.trans {α:Type} {a b c:Option α} (h:LeO a b) (k:LeO b c):LeO a c:=fun r hr=>k r (h r hr)
theorem more_rounds {α:Type} {g:Nat→Option α} (h:∀ k,LeO (g k) (g (k+1))) (k:Nat):∀ j,LeO (g k) (g (k+j))
 | 0=>LeO.refl _
 | j+1=>(more_rounds h k j).trans (h (k+j))
theorem at_rounds {α:Type} {g:Nat→Option α} (h:∀ k,LeO (g k) (g (k+1))) {k k':Nat} (hk:k≤k') {r:α} (hr:g k=some r):g k'=some r:=by
 have:=more_rounds h k (k' - k) r hr
 rwa [Nat.add_sub_cancel' hk] at this
section
variable {P : Program} {ops : Array Oper} {rest : List Oper} {o : Oper} {a : Act} {Q : Exit → Act → World → Prop}
end
theorem KeepBut.blk {w w1:World} {g g':Nat} {row:Option Nat} {o:Obj} (h:KeepBut w w1 g row) (hb:w.heap[g']? = some o) (hg:g'≠g) (hr:some g'≠row):w1.heap[g']? = some o:=(h.2 g' (blk_lt hb) hg hr).trans hb
theorem KeepBut.own {w w1:World} {g:Nat} {row:Option Nat} {base:Nat} {e:TypeId} {size n:Nat} {v:Value} {xs:List Value} (h:KeepBut w w1 g row) (ho:w.ownsRow base e size v n xs) (hg:v.ownBlock≠some g) (hr:v.ownBlock=none∨v.ownBlock≠row):w1.ownsRow base e size v n xs:=by
 obtain ⟨h1,h2⟩:=ho
 refine ⟨h1,?_⟩
 rcases h2 with h2|⟨b,cap,cur,rfl,hb,hh,r⟩
 · exact .inl h2
 · refine .inr ⟨b,cap,cur,rfl,hb,h.blk hh ?_ ?_,r⟩
   · intro e
     exact hg (by rw [← e];rfl)
   · rcases hr with hr|hr
     · simp [Value.ownBlock] at hr
     · exact hr
theorem Ev.of {α:Type} {g:Nat→Option α} {r:α} (hg:∀ k,LeO (g k) (g (k+1))) {k:Nat} (h:g k=some r):Ev g r:=⟨k,fun _ hk=>at_rounds hg hk h⟩
section
variable {P : Program} {ops : Array Oper} {o : Oper} {a : Act} {Q : Exit → Act → World → Prop} {K : Act → World → Prop}
end
section
variable {α : Type} {enc : α → Value} {d : α}
end
section
variable {α : Type} {P : Program} {ops : Array Oper} {rest : List Oper} {o : Oper} {a : Act} {Q : Exit → Act → World → Prop}
end
section
variable {P : Program}
end
section
variable {α : Type} {R R' : α → List Value → Prop} {e : TypeId} {size : Nat} {w w1 : World} {base : Nat} {v : Value} {ps : List α}
end
section
variable {P : Program} {ops : Array Oper} {rest : List Oper} {o : Oper} {a : Act} {Q : Exit → Act → World → Prop} {α : Type} {R : α → List Value → Prop}
end
section
variable {P : Program} {ops : Array Oper} {o : Oper} {a : Act} {Q : Exit → Act → World → Prop} {K : Act → World → Prop} {α : Type} {R : α → List Value → Prop}
end
section
variable {α : Type} {P : Program}
end
section
variable {P : Program} {ops : Array Oper} {rest : List Oper} {o : Oper} {a : Act} {Q : Exit → Act → World → Prop}
end
namespace Kd
section
variable {α : Type} {d : Kd α} {e : Nat} {w w1 : World} {base : Nat} {ok ok' : Nat → Prop} {v : Value} {xs : List α}
end
section
variable {P : Program} {ops : Array Oper} {rest : List Oper} {o : Oper} {a : Act} {Q : Exit → Act → World → Prop} {α : Type}
end
section
variable {P : Program} {ops : Array Oper} {o : Oper} {a : Act} {Q : Exit → Act → World → Prop} {Kc : Act → World → Prop} {α : Type}
end
end Kd
namespace Kd
section
variable {α : Type} {F : Kd α → Kd α} {sz : Nat} {E : List Nat} {hs : ∀ n, (upto F sz E n).sz = sz} {hE : ∀ n q, q ∈ (upto F sz E n).E → q ∈ E}
end
end Kd
namespace Kd
end Kd
namespace Kd
section
variable {α β : Type} {d : Kd α} {d' : Kd β} {e e' : Nat} {w w1 W : World} {base b b' : Nat} {ok ok' okv oku : Nat → Prop} {v u : Value} {xs : List α} {ys : List β}
end
section
variable {w W : World} {A : Option Addr} {n : Nat}
variable {α : Type} {enc : α → Value} {h1 : ∀ x, (enc x).oneCell' = true} {e base g cap : Nat} {ok : Nat → Prop} {xs : List α}
end
section
variable {P : Program} {ops : Array Oper} {rest : List Oper} {o : Oper} {a : Act} {Q : Exit → Act → World → Prop}
variable {α : Type}
end
end Kd
section
variable {P : Program}
end
section
variable {w w1 : World} {base n size : Nat} {e : TypeId} {v : Value} {xs : List Value}
end
section
variable {P : Program}
end
namespace Kd
section
variable {α : Type} {d : Kd α} {e : Nat} {w w1 W : World} {base : Nat} {ok ok' : Nat → Prop} {v : Value} {xs : List α}
end
section
variable {P : Program} {ops : Array Oper} {rest : List Oper} {o : Oper} {a : Act} {Q' : Exit → Act → World → Prop} {Kc : Act → World → Prop} {α : Type}
end
end Kd
namespace Kd
section
variable {α : Type} {d : Kd α} {e e' : Nat} {w w1 W : World} {base : Nat} {ok : Nat → Prop} {u v : Value} {xs : List α}
end
end Kd
namespace Kd
section
variable {α : Type} {d : Kd α} {e base g n cap : Nat} {ok okp : Nat → Prop} {W : World} {xs : List α}
end
end Kd
namespace Kd
section
variable {α : Type} {F : Kd α → Kd α} {sz : Nat} {E : List Nat} {hs : ∀ n, (upto F sz E n).sz = sz} {hE : ∀ n q, q ∈ (upto F sz E n).E → q ∈ E}
end
end Kd
namespace Kd
section
variable {P : Program} {ops : Array Oper} {rest : List Oper} {o : Oper} {a : Act} {Q : Exit → Act → World → Prop} {α : Type}
end
end Kd
namespace Kd
section
variable {P : Program} {ops : Array Oper} {rest : List Oper} {o : Oper} {a : Act} {Q : Exit → Act → World → Prop} {α : Type}
end
end Kd
theorem add_add (a:Addr) (i j:Nat):(a.add i).add j=a.add (i+j):=by
 unfold Addr.add
 by_cases h1:i=0<;>by_cases h2:j=0<;>simp [h1,h2,Nat.add_assoc]
namespace Kd
section
variable {α : Type} {k : Kd α} {w : World} {A : Option Addr} {xs : List α} {m c : Nat}
theorem C_take (h:k.C w A xs.length xs) (hm:m≤xs.length):k.C w A (xs.take m).length (xs.take m):=by
 have hl:(xs.take m).length=m:=by rw [List.length_take];omega
 refine ⟨rfl,by rw [hl];have:=h.2.1;omega,fun hp => ?_⟩
 obtain ⟨ad,e,hc⟩:=h.2.2 (by omega)
 refine ⟨ad,e,fun j p hj=>hc j p ?_⟩
 rw [List.getElem?_take] at hj
 split at hj
 · exact hj
 · cases hj
theorem C_drop (h:k.C w A xs.length xs) (hm:m≤xs.length) (hc:xs.length≤c):k.C w (if c=m then A else A.map (·.add (m*k.sz))) (xs.drop m).length (xs.drop m):=by
 have hl:(xs.drop m).length=xs.length - m:=List.length_drop
 refine ⟨rfl,by rw [hl];have:=h.2.1;omega,fun hp => ?_⟩
 rw [hl] at hp
 obtain ⟨ad,rfl,hcell⟩:=h.2.2 (by omega)
 rw [if_neg (by omega)]
 refine ⟨ad.add (m*k.sz),rfl,fun j p hj => ?_⟩
 rw [List.getElem?_drop] at hj
 obtain ⟨cs,h1,h2,h3⟩:=hcell (m+j) p hj
 refine ⟨cs,h1,h2,fun i u hu => ?_⟩
 rw [add_add,show m*k.sz+(j*k.sz+i)=(m+j)*k.sz+i by rw [Nat.add_mul];omega]
 exact h3 i u hu
theorem C_mid {lo hi:Nat} (h:k.C w A xs.length xs) (h1:lo≤hi) (h2:hi≤xs.length) (hc:xs.length≤c):k.C w (if c=lo then A else A.map (·.add (lo*k.sz))) ((xs.take hi).drop lo).length ((xs.take hi).drop lo):=by
 have hl:(xs.take hi).length=hi:=by rw [List.length_take];omega
 exact C_drop (C_take h h2) (by omega) (by omega)
end
end Kd
section
variable {P : Program}
theorem cut_mid (t e:TypeId) (kl kh:IntKind) {i:TypeInfo} (ht:P.underlying t=some (.slice e)) (hi:P.info? e=some i) (size:Nat) (hsz:i.size=size) (A:Option Addr) (n c:Nat) (lo hi':Int) (h0:0≤lo) (h1:lo≤hi') (h2:hi'≤n) (hc:n≤c) :
  ∀ W:World,(Instr.slice t (.slice A n c) (some (.int kl lo)) (some (.int kh hi')) none).run P W = .ok (.slice (if c=lo.toNat then A else A.map (·.add (lo.toNat*size))) (hi'.toNat - lo.toNat) (c - lo.toNat)) W:=by
 intro W
 have hel:P.elem t=e:=by simp [Program.elem,ht]
 have hu:P.underlying t=some (.slice (P.elem t)):=by rw [hel];exact ht
 rw [run_slice_lh W t A n c hu kl kh lo hi' h0 h1 (by omega),hel]
 simp [sizeOf,typeInfo,hi,hsz,sliced,Result.andThen]
end
namespace Kd
section
variable {α β : Type} {d : Kd α} {d' : Kd β} {e e' base base' n : Nat} {ok ok' : Nat → Prop} {w W w1 W1 : World} {v u : Value} {xs : List α} {ys : List β} {A : Option Addr} {c : Nat}
end
section
variable {α : Type} {enc : α → Value} {h1 : ∀ x, (enc x).oneCell' = true} {w W : World} {A : Option Addr} {n g : Nat} {xs : List α}
end
end Kd
namespace Kd
section
variable {α : Type} {d : Kd α} {e base g : Nat} {ok : Nat → Prop} {w w1 : World} {v : Value} {xs : List α} {o : Obj}
end
end Kd
section
variable {P : Program} {ops : Array Oper} {rest : List Oper} {o : Oper} {a : Act} {Q : Exit → Act → World → Prop}
end
namespace Kd
section
variable {α : Type} {enc : α → Value} {h1 : ∀ x, (enc x).oneCell' = true} {e base g n cap : Nat} {ok : Nat → Prop} {W : World} {xs : List α}
end
end Kd
section
variable {P : Program} {ops : Array Oper} {rest : List Oper} {o : Oper} {a : Act} {Q : Exit → Act → World → Prop}
end
namespace Kd
section
variable {α : Type} {enc : α → Value} {h1 : ∀ x, (enc x).oneCell' = true} {e base g n cap : Nat} {ok : Nat → Prop} {W : World} {xs : List α}
end
end Kd
section
variable {P : Program} {ops : Array Oper} {rest : List Oper} {o : Oper} {a : Act} {Q : Exit → Act → World → Prop} {W : World}
end
section
variable {P : Program} {ops : Array Oper} {o : Oper} {a : Act} {Q : Exit → Act → World → Prop} {Kc : Act → World → Prop}
namespace Kd
variable {α : Type}
end Kd
end
section
variable {P : Program} {tmps : Array Value} {w : World}
end
namespace Kd
section
variable {P : Program} {α : Type}
end
section
variable {P : Program} {ops : Array Oper} {rest : List Oper} {o : Oper} {a : Act} {Q : Exit → Act → World → Prop} {Kc : Act → World → Prop} {α : Type}
end
end Kd
end Go.Proofs.YtcecjoaeolglbaaGreatDoorW.PrintWords
end

section
namespace Go.Proofs.YtcecjoaeolglbaaGreatDoorW.PrintWords
open Go.RowKit
namespace Kd
section
variable {α β : Type} {d : Kd α} {d' : Kd β} {e e' : Nat} {w w1 W : World} {base b : Nat} {ok ok' okv oku : Nat → Prop} {u v : Value} {xs : List α} {ys : List β}
end
section
variable {α β : Type} {d : Kd α} {d' : Kd β} {e e' g : Nat} {w w1 W : World} {base b : Nat} {ok ok' okv oku : Nat → Prop} {u v : Value} {xs : List α} {ys : List β}
end
section
variable {P : Program} {ops : Array Oper} {rest : List Oper} {o : Oper} {a : Act} {Q : Exit → Act → World → Prop} {Kc : Act → World → Prop} {α : Type}
end
def gap {α:Type} (f:Nat→Nat) (d:Kd α) (i:Nat) (c:List Value):Kd (α×Nat) where
 sz:=d.sz
 E:=d.E
 K:=fun w x cs=>(x.2=i→cs=c∧cs.length=d.sz∧∀ u∈cs,u.oneCell'=true)∧(x.2≠i→d.K w x.1 cs)
 M:=fun w base ok x cs=>(x.2=i→cs=c∧cs.length=d.sz∧∀ u∈cs,u.oneCell'=true)∧(x.2≠i→d.M w base (fun k=>ok k∧f k=x.2) x.1 cs)
 K_len:=fun {w x cs} h=>by
  by_cases hx:x.2=i
  · exact (h.1 hx).2.1
  · exact d.K_len (h.2 hx)
 K_one:=fun {w x cs} h=>by
  by_cases hx:x.2=i
  · exact (h.1 hx).2.2
  · exact d.K_one (h.2 hx)
 K_below:=fun hb h=>⟨h.1,fun hx=>d.K_below hb (h.2 hx)⟩
 K_of_M:=fun h=>⟨h.1,fun hx=>d.K_of_M (h.2 hx)⟩
 M_mono:=fun hok h=>⟨h.1,fun hx=>d.M_mono (fun k hk=>⟨hok k hk.1,hk.2⟩) (h.2 hx)⟩
 M_bound:=fun h=>⟨h.1,fun hx=>d.M_mono (fun _ hk=>⟨⟨hk.1.1,hk.2⟩,hk.1.2⟩) (d.M_bound (h.2 hx))⟩
 M_move:=fun hm h=>⟨h.1,fun hx=>d.M_move (fun k hk=>hm k hk.1) (h.2 hx)⟩
 M_lower:=fun hb h=>⟨h.1,fun hx=>d.M_lower hb (h.2 hx)⟩
def H {α:Type} (d:Kd α) (e:Nat) (w:World) (base:Nat) (ok:Nat→Prop) (v:Value) (xs:List α) (i:Int) (oki:Nat→Prop) (c:List Value):Prop :=
 (∀ k,oki k→ok k)∧∃ f,(gap f d i.toNat c).R e w base (fun k=>ok k∧¬ oki k) v xs.zipIdx
section
variable {α β : Type} {d : Kd α} {e e' g n cap : Nat} {w w1 W : World} {base : Nat} {ok ok' oki okp : Nat → Prop} {u v : Value} {xs : List α} {i : Int} {c : List Value}
end
section
variable {P : Program} {ops : Array Oper} {rest : List Oper} {o : Oper} {a : Act} {Q : Exit → Act → World → Prop} {α : Type}
end
end Kd
end Go.Proofs.YtcecjoaeolglbaaGreatDoorW.PrintWords
end

section
namespace Go.Proofs.YtcecjoaeolglbaaGreatDoorW.PrintWords
open Go.RowKit
namespace Kd
structure Heap {α:Type} (d:Kd α):Prop where
 K:∀ {w w1:World} {x:α} {cs:List Value},(∀ k,k<w.heap.size→w1.heap[k]? = w.heap[k]?)→d.K w x cs→d.K w1 x cs
theorem cell_heap {w w1:World} (hb:∀ k,k<w.heap.size→w1.heap[k]? = w.heap[k]?) {a:Addr} {v:Value} (h:w.cell? a=some v):w1.cell? a=some v:=by
 have:=hb a.block (World.block_lt_of_cell? w a h)
 simpa [World.cell?,this] using h
theorem Heap.C {α:Type} {d:Kd α} (hd:Heap d) {w w1:World} {A:Option Addr} {n:Nat} {xs:List α} (hb:∀ k,k<w.heap.size→w1.heap[k]? = w.heap[k]?) (h:d.C w A n xs):d.C w1 A n xs :=
 ⟨h.1,h.2.1,fun hn=>by
   obtain ⟨ad,e,hc⟩:=h.2.2 hn
   refine ⟨ad,e,fun j p hj => ?_⟩
   obtain ⟨c,hs,hr,hcell⟩:=hc j p hj
   exact ⟨c,hs,hd.K hb hr,fun i u hu=>cell_heap hb (hcell i u hu)⟩⟩
section
variable {α : Type} {d : Kd α} {e base g n c : Nat} {ok : Nat → Prop} {w w0 W : World} {A : Option Addr} {xs : List α}
end
end Kd
end Go.Proofs.YtcecjoaeolglbaaGreatDoorW.PrintWords
end

section
namespace Go.Proofs.YtcecjoaeolglbaaGreatDoorW.PrintWords
open Go.RowKit
def Kept (w W:World) (S:Nat→Prop):Prop:=w.heap.size≤W.heap.size∧∀ i,i<w.heap.size→¬ S i→W.heap[i]? = w.heap[i]?
section
variable {w W W2 : World} {S S2 S' : Nat → Prop}
theorem Kept.mono (h:Kept w W S) (hs:∀ k,S k→S' k):Kept w W S':=⟨h.1,fun i hi hn=>h.2 i hi (fun hk=>hn (hs i hk))⟩
end
namespace Kd
section
variable {α : Type} {d : Kd α} {e base n c : Nat} {ok oki S S2 : Nat → Prop} {w w0 W W1 W2 : World} {v : Value} {A : Option Addr} {xs : List α} {i : Int} {cs : List Value}
end
end Kd
end Go.Proofs.YtcecjoaeolglbaaGreatDoorW.PrintWords
end

section
namespace Go.Proofs.YtcecjoaeolglbaaGreatDoorW.PrintWords
open Go.RowKit
section
variable {P : Program} {ops : Array Oper} {rest : List Oper} {o : Oper} {a : Act} {Q : Exit → Act → World → Prop} {W : World}
theorem gate_guard (hw:Region.wanted o (yielded ops a.tmps)=true) (h:wpList P ops Q ({ o with guard:=none }::rest) a W):wpList P ops Q (o::rest) a W:=by
 have h1:Region.wanted { o with guard:=none } (yielded ops a.tmps)=true:=rfl
 unfold wpList at h ⊢
 rw [if_pos h1] at h
 rw [if_pos hw]
 exact h
end
end Go.Proofs.YtcecjoaeolglbaaGreatDoorW.PrintWords
end

section
namespace Go.Proofs.YtcecjoaeolglbaaGreatDoor.K0
open Go.RowKit Go.Proofs.YtcecjoaeolglbaaGreatDoorW.PrintWords Go.Proofs.YtcecjoaeolglbaaGreatDoorW.PrintLast Go.Proofs.YtcecjoaeolglbaaGreatDoorW.PrintMore
attribute [local go_sem] max2_int min2_int max_two min_two max_three min_three max_four min_four  
set_option linter.unusedVariables false
set_option linter.unusedSimpArgs false
structure S7 where
 f0:Int
 f1:Int
 f2:Bool
 f3:Int
structure S8 where
 f0:Int
 f1:Int
 f2:Bool
 f3:Int
def k8:Kd S8:=Kd.iso (Kd.pair (Kd.int .i64) (Kd.pair (Kd.int .i64) (Kd.pair Kd.bool (Kd.int .u8)))) (fun x:S8=>(x.f0,x.f1,x.f2,x.f3))
structure S13 where
 f0:ByteArray
 f1:Int
def k13:Kd S13:=Kd.iso (Kd.pair Kd.string (Kd.int .u64)) (fun x:S13=>(x.f0,x.f1))
structure S14 where
 f0:ByteArray
 f1:Int
def k14:Kd S14:=Kd.iso (Kd.pair Kd.string (Kd.int .u64)) (fun x:S14=>(x.f0,x.f1))
structure S45 where
 f0:Int
 f1:ByteArray
 f2:ByteArray
 f3:(List S87)
 f4:Bool
structure S86 where
 f0:ByteArray
 f1:ByteArray
structure S88 where
 f0:Int
 f1:Int
structure S89 where
 f0:Int
 f1:Int
structure S102 where
 f0:Int
 f1:Int
structure S103 where
 f0:Int
 f1:Int
structure S154 where
 f0:ByteArray
 f1:Int
structure S155 where
 f0:ByteArray
 f1:Int
structure S194 where
 f0:ByteArray
 f1:Int
structure S195 where
 f0:ByteArray
 f1:Int
structure S209 where
 f0:Int
 f1:Int
structure S210 where
 f0:Int
 f1:Int
structure S266 where
 f0:ByteArray
structure S267 where
 f0:ByteArray
end Go.Proofs.YtcecjoaeolglbaaGreatDoor.K0
end

section
namespace Go.Proofs
open Go.Shelf
def Tryz.lays167_ren:Go.Shelf.Ren:=⟨fun|6=>148|10=>106|99=>38|100=>165|101=>42|104=>176|105=>155|129=>243|137=>86|138=>99|143=>101|144=>85|145=>130|149=>216|154=>72|155=>47|165=>100|166=>44|167=>48|169=>45|170=>154|171=>235|195=>137|197=>102|205=>234|206=>65|207=>197|208=>67|211=>200|212=>193|217=>116|218=>138|219=>140|220=>177|222=>226|224=>184|225=>183|240=>70|241=>139|243=>236|245=>218|246=>237|260=>141|263=>214|264=>215|266=>157|267=>185|276=>98|277=>182|279=>229|280=>230|281=>231|282=>232|283=>238|284=>239|285=>240|286=>241|287=>217|314=>203|316=>233|317=>242|318=>244|319=>245|320=>246|321=>227|322=>228|337=>247|338=>248|n=>n,fun|21=>21|22=>67|23=>9|24=>24|25=>23|37=>27|46=>208|51=>99|53=>231|59=>160|70=>52|72=>54|75=>59|76=>60|80=>62|105=>136|109=>227|119=>174|127=>93|138=>210|139=>211|143=>265|145=>267|146=>238|148=>252|164=>132|167=>257|168=>259|171=>269|173=>272|210=>263|212=>275|213=>276|232=>279|233=>280|n=>n,fun|n=>n⟩
theorem Tryz.lays167:Go.Proofs.Lays.n167 Tryz.prog Tryz.lays167_ren:={
 mixed:=by kernel_rfl
 f167:=Tryz.func48.trans (congrArg some (by kernel_rfl))
 f240:=Tryz.func70.trans (congrArg some (by kernel_rfl))
 f276:=Tryz.func98.trans (congrArg some (by kernel_rfl))
 t0:=Tryz.underlying0
 a0:=Tryz.isAgg0
 z0:=Tryz.sizeOf0
 v0:=Tryz.zeroValue0
 t4:=Tryz.underlying4
 a4:=Tryz.isAgg4
 z4:=Tryz.sizeOf4
 v4:=Tryz.zeroValue4
 t5:=Tryz.underlying5
 a5:=Tryz.isAgg5
 z5:=Tryz.sizeOf5
 v5:=Tryz.zeroValue5
 t9:=Tryz.underlying9
 a9:=Tryz.isAgg9
 z9:=Tryz.sizeOf9
 v9:=Tryz.zeroValue9
 t20:=Tryz.underlying20
 a20:=Tryz.isAgg20
 z20:=Tryz.sizeOf20
 v20:=Tryz.zeroValue20
 t37:=Tryz.underlying27
 a37:=Tryz.isAgg27
 z37:=Tryz.sizeOf27
 v37:=Tryz.zeroValue27
 t70:=Tryz.underlying52
 a70:=Tryz.isAgg52
 z70:=Tryz.sizeOf52
 v70:=Tryz.zeroValue52
 t72:=Tryz.underlying54
 a72:=Tryz.isAgg54
 z72:=Tryz.sizeOf54
 v72:=Tryz.zeroValue54
 t75:=Tryz.underlying59
 a75:=Tryz.isAgg59
 z75:=Tryz.sizeOf59
 v75:=Tryz.zeroValue59
 t164:=Tryz.underlying132
 a164:=Tryz.isAgg132
 z164:=Tryz.sizeOf132
 v164:=Tryz.zeroValue132 }
theorem Tryz.Builder_Extra_167:Builder.Extra Tryz.prog Tryz.lays167_ren:={
 sizeBuilder:=by kernel_rfl
 liesBuilder:=by kernel_rfl
 t5:=Tryz.underlying5
 a5:=Tryz.isAgg5
 z5:=Tryz.sizeOf5
 v5:=Tryz.zeroValue5
 infoByte:=by kernel_rfl
 cellsByte:=by kernel_rfl
 sizeByte:=by kernel_rfl
 neB5:=by decide }
open Go.RowKit in
theorem Tryz.Builder_WriteByte (B b:Nat) (bs:List Value) (c:Int) (w:World) (h:Lib.IsBuilder 54 5 B b bs w) (hlen:bs.length+1≤140737488355328) (hBw:B≤w.heap.size) :
 Calls Tryz.prog 48 #[.pointer (some ⟨b,0,none⟩),.int .u8 c] w fun e w'=>e = .returned .nilIface∧(Lib.BuilderAt 54 5 B b (.pointer (some ⟨b,0,none⟩)) (bs++[.int .u8 c]) w'∧Below B w w'):=Any.Builder_WriteByte Tryz.lays167 Tryz.Builder_Extra_167 B b bs c w h hlen hBw
def Tryz.lays101_ren:Go.Shelf.Ren:=⟨fun|101=>42|208=>67|206=>65|n=>n,fun|9=>9|4=>4|3=>3|n=>n,fun|n=>n⟩
theorem Tryz.lays101:Go.Proofs.Lays.n101 Tryz.prog Tryz.lays101_ren:={
 mixed:=by kernel_rfl
 f101:=Tryz.func42.trans (congrArg some (by kernel_rfl))
 f206:=Tryz.func65.trans (congrArg some (by kernel_rfl))
 f208:=Tryz.func67.trans (congrArg some (by kernel_rfl))
 t3:=Tryz.underlying3
 a3:=Tryz.isAgg3
 z3:=Tryz.sizeOf3
 v3:=Tryz.zeroValue3
 t4:=Tryz.underlying4
 a4:=Tryz.isAgg4
 z4:=Tryz.sizeOf4
 v4:=Tryz.zeroValue4
 t9:=Tryz.underlying9
 a9:=Tryz.isAgg9
 z9:=Tryz.sizeOf9
 v9:=Tryz.zeroValue9 }
open Go.RowKit Go.Lib in
theorem Tryz.strings_TrimPrefix (s p:ByteArray) (w:World) :
 Calls Tryz.prog 42 #[.string s,.string p] w fun e w'=>e = .returned (.string ⟨(Lib.trimPrefix s.data.toList p.data.toList).toArray⟩)∧w'=w:=Any.strings_TrimPrefix Tryz.lays101 s p w
end Go.Proofs
end

section
namespace Go.Proofs.YtcecjoaeolglbaaGreatDoor.Pl
open Go
def normF:Bool→List UInt8→List UInt8
 | _,[]=>[]
 | b,c::r=>if b=true∧c=10 then normF false r else if c=13 then 10::normF true r else c::normF false r
def normL (l:List UInt8):List UInt8:=normF false l
theorem normL_nil:normL []=[]:=rfl
theorem normL_ne {c:UInt8} {r:List UInt8} (h:c≠13):normL (c::r)=c::normL r:=by simp [normL,normF,h]
theorem normL_13_10 {r:List UInt8}:normL (13::10::r)=10::normL r:=by simp [normL,normF]
theorem normL_13_ne {d:UInt8} {r:List UInt8} (h:d≠10):normL (13::d::r)=10::normL (d::r):=by simp [normL,normF,h]
theorem normL_13_end:normL [13]=[10]:=rfl
theorem normF_length (l:List UInt8):∀ b,(normF b l).length≤l.length:=by
 induction l with
 | nil=>intro b;simp [normF]
 | cons c r ih =>
   intro b
   have h0:=ih false
   have h1:=ih true
   simp only [normF,List.length_cons]
   split
   · omega
   · split<;>simp only [List.length_cons]<;>omega
theorem normL_length (l:List UInt8):(normL l).length≤l.length:=normF_length l false
theorem cleanB_no0 (c:UInt8):(0:UInt8)∉cleanB c:=by
 unfold cleanB;split
 · decide
 · rename_i h;simp;exact fun e=>h e.symm
theorem cleanL_no0 (l:List UInt8):(0:UInt8)∉cleanL l:=by
 simp only [cleanL,List.mem_flatMap,not_exists,not_and]
 exact fun c _=>cleanB_no0 c
theorem cleanL_of_no0:∀ {l:List UInt8},(0:UInt8)∉l→cleanL l=l
 | [],_=>rfl
 | c::r,h=>by
   have h1:c≠0:=fun e=>h (by simp [e])
   rw [cleanL_cons,cleanL_of_no0 (fun e=>h (by simp [e]))];simp [cleanB,h1]
theorem normL_of_no13:∀ {l:List UInt8},(13:UInt8)∉l→normL l=l
 | [],_=>rfl
 | c::r,h=>by
   have h1:c≠13:=fun e=>h (by simp [e])
   rw [normL_ne h1,normL_of_no13 (fun e=>h (by simp [e]))]
end Go.Proofs.YtcecjoaeolglbaaGreatDoor.Pl
end

section
namespace Go.Proofs.YtcecjoaeolglbaaGreatDoor.Hand
open Go.RowKit Go.Proofs.YtcecjoaeolglbaaGreatDoor.Pl
section
variable {P : Program} {a : Act} {w : World} {Q : Exit → Act → World → Prop}
end
theorem byteCells_snoc (acc:List UInt8) (c:UInt8):Lib.byteCells acc++[.int .u8 (c.toNat:Int)]=Lib.byteCells (acc++[c]):=by
 simp [Lib.byteCells]
def NormJ (s:ByteArray) (w:World) (a':Act) (wr:World):Prop :=
 ∃ (pos:Nat) (acc:List UInt8) (u1 u5 u6 u7 u8 u9 u10 u11 u12 u13 u14 u15 u16 u17 u18 u19 u20 u21 u22 u23 u24 u25 u26 u27 u28 u29 u30 u31 u32 u33 u34:Value),
   a'={ tmps := #[.string s,u1,.string ⟨#[]⟩,.pointer (some ⟨w.heap.size,0,none⟩),.int .i64 pos,u5,u6,u7,u8,u9,u10,u11,u12,u13,u14,u15,u16,u17,u18,u19,u20,u21,u22,u23,u24,u25,u26,u27,u28,u29,u30,u31,u32,u33,u34],defers:=[] } ∧
   Lib.IsBuilder 54 5 w.heap.size w.heap.size (Lib.byteCells acc) wr∧Below w.heap.size w wr∧pos≤s.size∧acc.length≤pos∧acc++normL (s.data.toList.drop pos)=normL s.data.toList
set_option maxHeartbeats 400000 in
theorem norm_any (s:ByteArray) (w:World) (hs:s.size≤35184372088832) :
  Calls Tryz.prog 24 #[.string s] w fun e w'=>e = .returned (.string ⟨(normL s.data.toList).toArray⟩)∧Below w.heap.size w w':=by
 go_enter Tryz.func24,Tryz.ntmps24
 go_wp2
 refine wp_scope_at 0 (NormJ s w) (fun a' _=>s.size - (intOf (a'.tmps.getD 4 undef)).toNat) rfl ?_ ?_
 · intro hB
   have HB:=Lib.hid hB
   clear hB
   go_wp2
   refine wp_label_k (by assumption) (HB.out _ _ ?_)
   refine ⟨0,[],undef,undef,undef,undef,undef,undef,undef,undef,undef,undef,undef,undef,undef,undef,undef,undef,undef,undef,undef,undef,undef,undef,undef,undef,undef,undef,undef,undef,undef,undef,undef,rfl,Lib.fresh_isBuilder 54 5 w,(Below.refl _ w).alloc (Nat.le_refl _) _,by omega,by simp,by simp⟩
 · rintro a' wr ⟨pos,acc,u1,u5,u6,u7,u8,u9,u10,u11,u12,u13,u14,u15,u16,u17,u18,u19,u20,u21,u22,u23,u24,u25,u26,u27,u28,u29,u30,u31,u32,u33,u34,rfl,hI,hb,hp,hl,hacc⟩
   have hbs:=hb.size
   by_cases hlt:pos<s.size
   · by_cases h13:s[pos]=13
     · have h13':(((s[pos].toNat:Int)) != 13)=false:=by rw [h13];rfl
       have hd:=drop_cons s pos hlt
       rw [h13] at hd
       have HD:=Lib.hid hd
       have HA:=Lib.hid hacc
       clear hd hacc h13
       go_wp2_with (go_at_call 48;refine (Tryz.Builder_WriteByte w.heap.size w.heap.size _ 10 wr hI (by rw [Lib.byteCells_length];omega) hbs).mono ?_)
       rintro e w1 ⟨rfl,h1,b1⟩
       have HW:=Lib.hid (hb.trans b1)
       have H1:=Lib.hid h1
       clear h1 b1 hb hI hbs
       go_wp2
       · rename_i hq1 hq2 hq3
         have hlt1:pos+1<s.size:=by omega
         have h10:s[pos+1]=10:=by
          have:=beq_iff_eq.1 hq3;apply UInt8.toNat_inj.1;exact Int.ofNat_inj.1 this
         have hd1:=drop_cons s (pos+1) hlt1
         go_step3
         refine ⟨rfl,⟨pos+2,acc++[10],_,_,_,_,_,_,_,_,_,_,_,_,_,_,_,_,_,_,_,_,_,_,_,_,_,_,_,_,_,_,_,rfl,?_,HW.out,by omega,by simp;omega,?_⟩,?_⟩
         · exact Or.inr (by rw [← byteCells_snoc];exact H1.out)
         · rw [← HA.out,HD.out,hd1,h10,normL_13_10];simp
         · simp [intOf];omega
       · rename_i hq1 hq2 hq3
         have hlt1:pos+1<s.size:=by omega
         have h10:s[pos+1]≠10:=by
          intro h;rw [h] at hq3;simp at hq3
         have hd1:=drop_cons s (pos+1) hlt1
         go_step3
         refine ⟨rfl,⟨pos+1,acc++[10],_,_,_,_,_,_,_,_,_,_,_,_,_,_,_,_,_,_,_,_,_,_,_,_,_,_,_,_,_,_,_,rfl,?_,HW.out,by omega,by simp;omega,?_⟩,?_⟩
         · exact Or.inr (by rw [← byteCells_snoc];exact H1.out)
         · rw [← HA.out,HD.out,hd1,normL_13_ne h10];simp
         · simp [intOf];omega
       · have hd1:s.data.toList.drop (pos+1)=[]:=List.drop_eq_nil_of_le (by simp;omega)
         go_step3
         refine ⟨rfl,⟨pos+1,acc++[10],_,_,_,_,_,_,_,_,_,_,_,_,_,_,_,_,_,_,_,_,_,_,_,_,_,_,_,_,_,_,_,rfl,?_,HW.out,by omega,by simp;omega,?_⟩,?_⟩
         · exact Or.inr (by rw [← byteCells_snoc];exact H1.out)
         · rw [← HA.out,HD.out,hd1,normL_13_end,normL_nil];simp
         · simp [intOf];omega
     · have h13':(((s[pos].toNat:Int)) != 13)=true:=by
        rw [bne_iff_ne];intro h;apply h13;apply UInt8.toNat_inj.1;exact Int.ofNat_inj.1 h
       have hd:=drop_cons s pos hlt
       have HD:=Lib.hid hd
       have HA:=Lib.hid hacc
       clear hd hacc
       go_wp2_with (go_at_call 48;refine (Tryz.Builder_WriteByte w.heap.size w.heap.size _ _ wr hI (by rw [Lib.byteCells_length];omega) hbs).mono ?_)
       rintro e w1 ⟨rfl,h1,b1⟩
       have HW:=Lib.hid (hb.trans b1)
       have H1:=Lib.hid h1
       clear h1 b1 hb hI hbs
       go_wp2
       go_step3
       refine ⟨rfl,⟨pos+1,acc++[s[pos]],_,_,_,_,_,_,_,_,_,_,_,_,_,_,_,_,_,_,_,_,_,_,_,_,_,_,_,_,_,_,_,rfl,?_,HW.out,by omega,by simp;omega,?_⟩,?_⟩
       · exact Or.inr (by rw [← byteCells_snoc];exact H1.out)
       · rw [← HA.out,HD.out,normL_ne h13];simp
       · simp [intOf];omega
   · obtain rfl:pos=s.size:=by omega
     have HA:=Lib.hid hacc
     clear hacc
     go_wp2_with (go_at_call 45;refine (Tryz.Builder_String_any w.heap.size w.heap.size acc wr hI hbs).mono ?_)
     rintro e w1 ⟨rfl,b1⟩
     go_wp2
     simp only [Exit.jump]
     go_ret
     have he:acc=normL s.data.toList:=by rw [← HA.out,List.drop_eq_nil_of_le (by simp),normL_nil,List.append_nil]
     rw [he]
     exact ⟨rfl,hb.trans b1⟩
end Go.Proofs.YtcecjoaeolglbaaGreatDoor.Hand
end

section
namespace Go.Proofs.YtcecjoaeolglbaaGreatDoor.Hand
open Go.RowKit
theorem Blk.of_alloc (v:Array Value) (t:TypeId) (w:World):Blk w.heap.size v (w.alloc (.cells v t)) :=
 ⟨fun j _=>World.cell?_alloc_at v t _ j rfl,fun j=>World.frozen?_alloc_at v t _ j rfl⟩
theorem Blk.below {b:Nat} {v:Array Value} {W W':World} (h:Blk b v W) {n:Nat} (hb:Below n W W') (hn:b<n):Blk b v W' :=
 ⟨fun j hj=>(hb.cell (p:=⟨b,j,none⟩) hn).trans (h.cell j hj),fun j=>(hb.frozen (p:=⟨b,j,none⟩) hn).trans (h.open_ j)⟩
structure Live (w W:World) (L:List (Nat×Array Value)):Prop where
 glob:Glob W
 below:Below w.heap.size w W
 blk:∀ x∈L,x.1<W.heap.size∧Blk x.1 x.2 W
theorem Live.call {w W W':World} {L:List (Nat×Array Value)} (h:Live w W L) (hb:Below W.heap.size W W'):Live w W' L :=
 ⟨h.glob.step hb,h.below.trans (hb.mono h.below.size),fun x hx=>⟨Nat.lt_of_lt_of_le (h.blk x hx).1 hb.size,(h.blk x hx).2.below hb (h.blk x hx).1⟩⟩
end Go.Proofs.YtcecjoaeolglbaaGreatDoor.Hand
end

section
namespace Go.Proofs.YtcecjoaeolglbaaGreatDoor.Pb
open Go Go.RowKit Go.Proofs.YtcecjoaeolglbaaGreatDoorW.PrintWords
theorem wrap_id (n:Int) (h0 : -9223372036854775808≤n) (h:n<9223372036854775808):wrap64 n=n:=by unfold wrap64;omega
end Go.Proofs.YtcecjoaeolglbaaGreatDoor.Pb
end

section
namespace Go.Proofs.YtcecjoaeolglbaaGreatDoor.Hand
open Go.RowKit
theorem Blk.set {b:Nat} {v:Array Value} {W:World} (h:Blk b v W) (k:Nat) (x:Value) (hk:k<v.size):Blk b (v.setIfInBounds k x) (W.setCell ⟨b,k,none⟩ x):=by
 refine ⟨fun j hj => ?_,fun j=>by rw [World.frozen?_setCell];exact h.open_ j⟩
 rw [Array.size_setIfInBounds] at hj
 by_cases e:j=k
 · subst e
   rw [World.cell?_setCell_same' _ _ _ (by rw [h.cell j hj];simp [hj]),Array.getElem?_setIfInBounds_self_of_lt hk]
 · rw [World.cell?_setCell_other _ _ _ _ (ne_off (Ne.symm e)),h.cell j hj,Array.getElem?_setIfInBounds_ne (Ne.symm e)]
theorem Blk.other {b b':Nat} {v:Array Value} {W:World} (h:Blk b v W) (k:Nat) (x:Value) (hb:b'≠b):Blk b v (W.setCell ⟨b',k,none⟩ x) :=
 ⟨fun j hj=>by rw [World.cell?_setCell_other _ _ _ _ (by intro e;injection e with e;exact hb e)];exact h.cell j hj,fun j=>by rw [World.frozen?_setCell];exact h.open_ j⟩
end Go.Proofs.YtcecjoaeolglbaaGreatDoor.Hand
end

section
namespace Go.Proofs.YtcecjoaeolglbaaGreatDoor.Hand
open Go Go.RowKit Go.Proofs.YtcecjoaeolglbaaGreatDoor.Pl Go.Proofs.YtcecjoaeolglbaaGreatDoor.Pb
def kyC (c:UInt8):Bool:=(decide (65≤c.toNat)&&decide (c.toNat≤90)) || (decide (97≤c.toNat)&&decide (c.toNat≤122)) || (decide (48≤c.toNat)&&decide (c.toNat≤57))
def hdC:List UInt8→Bool
 | []=>false
 | c::_=>(decide (65≤c.toNat)&&decide (c.toNat≤90)) || (decide (97≤c.toNat)&&decide (c.toNat≤122))
def keyOk (l:List UInt8):Bool:=decide ((kyL l).length≤32)&&((kyL l).dropLast.all kyC&&(hdC (kyL l)&&(match (kyL l).getLast? with|some c=>kyC c || c == 59|none=>false)))
def keysOk (T:List UInt8):Bool:=keyOk (linesOf T).1&&(linesOf T).2.all keyOk
set_option maxRecDepth 1000000 in
theorem names_keys:keysOk namesL=true:=by kernel_rfl
theorem keys_all {T:List UInt8} (h:keysOk T=true) (p:Nat) (hp:St T p):keyOk (lnT T p)=true:=by
 unfold keysOk at h
 rw [Bool.and_eq_true,List.all_eq_true] at h
 rcases hp with rfl|⟨q,rfl,hq⟩
 · rw [lines_head];exact h.1
 · exact h.2 _ (lines_mem T q hq)
structure KeyP (k:List UInt8):Prop where
 le:k.length≤32
 pos:k≠[]
 inner:∀ c∈k.dropLast,kyC c=true
 head:hdC k=true
 last:∃ c,k.getLast? = some c∧(kyC c=true∨c=59)
theorem key_facts {k:List UInt8} (h:isKey namesL k):KeyP k:=by
 obtain ⟨p,h1,rfl⟩:=h
 have:=keys_all names_keys p h1
 unfold keyOk at this
 rw [Bool.and_eq_true,Bool.and_eq_true,Bool.and_eq_true,decide_eq_true_eq,List.all_eq_true] at this
 obtain ⟨g1,g2,g3,g4⟩:=this
 change (kyT namesL p).length≤32 at g1
 change hdC (kyT namesL p)=true at g3
 refine ⟨g1,?_,g2,g3,?_⟩
 · intro e;rw [e] at g3;cases g3
 · change (match (kyT namesL p).getLast? with|some c=>kyC c || c == 59|none=>false)=true at g4
   split at g4
   · rename_i c hc
     refine ⟨c,hc,?_⟩
     simpa using g4
   · cases g4
end Go.Proofs.YtcecjoaeolglbaaGreatDoor.Hand
end

section
namespace Go.Proofs.YtcecjoaeolglbaaGreatDoor.St
open Go.RowKit Go.Proofs.YtcecjoaeolglbaaGreatDoor.K0 Go.Proofs.YtcecjoaeolglbaaGreatDoor.Hand Go.Proofs.YtcecjoaeolglbaaGreatDoor.Sa Go.Proofs.YtcecjoaeolglbaaGreatDoor.Si Go.Proofs.YtcecjoaeolglbaaGreatDoorW.PrintWords Go.Proofs.YtcecjoaeolglbaaGreatDoorW.PrintLast Go.Proofs.YtcecjoaeolglbaaGreatDoorW.PrintMore
attribute [local go_sem] max2_int min2_int max_two min_two max_three min_three max_four min_four  
set_option linter.unusedVariables false
set_option linter.unusedSimpArgs false
noncomputable def context_only.f (l0:List (S46)):Option (ByteArray×Bool):=if (l0.length:Int)=0 then (some ((⟨#[]⟩:ByteArray),true)) else (if (l0.length:Int)=1 then (if 0<(l0.length:Int) then (if ((rd_T46 l0 0).f0)=0 then (some ((rd_T46 l0 0).f2,true)) else (some ((⟨#[]⟩:ByteArray),false))) else (none)) else (some ((⟨#[]⟩:ByteArray),false)))
set_option maxHeartbeats 8000000 in
set_option maxRecDepth 100000 in
theorem context_only.calls (A0:Option Addr) (c0:Nat) (l0:List (S46)) (r1:ByteArray) (r2:Bool) (w:World) (hr0:Kd.C k46 w A0 l0.length l0) (hc0:l0.length≤c0) (h:context_only.f l0=some (r1,r2)) :
  Calls Tryz.prog 39 #[.slice A0 l0.length c0] w fun e w'=>e = .returned (.tuple #[.string r1,.bool r2])∧Drawn0 w w':=by
 have HR0:=Aside0.mk hr0
 have HC0:=Aside0.mk hc0
 clear hr0 hc0
 have H:(if (l0.length:Int)=0 then (some ((⟨#[]⟩:ByteArray),true)) else (if (l0.length:Int)=1 then (if 0<(l0.length:Int) then (if ((rd_T46 l0 0).f0)=0 then (some ((rd_T46 l0 0).f2,true)) else (some ((⟨#[]⟩:ByteArray),false))) else (none)) else (some ((⟨#[]⟩:ByteArray),false))))=some (r1,r2):=h
 clear h
 by_cases c2:(l0.length:Int)=0
 · rw [if_pos c2] at H
   have c2b0:((l0.length:Int) == 0)=true:=beq_iff_eq.mpr c2
   have c2b1:((l0.length:Int) != 0)=false:=bne_eq_false_iff_eq.mpr c2
   clear c2
   simp only [Option.some.injEq,Prod.mk.injEq] at H
   obtain ⟨rfl,rfl⟩:=H
   go_enter Tryz.func39,Tryz.ntmps39
   go_wp2
   go_ret2
   exact ⟨by first|rfl | (simp;done) | (simp [*];done),by repeat (first|exact Drawn0.refl _|apply Drawn0.step)⟩
 · rw [if_neg c2] at H
   have c2b0:((l0.length:Int) == 0)=false:=beq_eq_false_iff_ne.mpr c2
   have c2b1:((l0.length:Int) != 0)=true:=bne_iff_ne.mpr c2
   have c2b2:¬ (l0=[]):=fun h_=>c2 (by rw [h_];rfl)
   by_cases c3:(l0.length:Int)=1
   · rw [if_pos c3] at H
     have c3b0:((l0.length:Int) == 1)=true:=beq_iff_eq.mpr c3
     have c3b1:((l0.length:Int) != 1)=false:=bne_eq_false_iff_eq.mpr c3
     clear c3
     by_cases c4:0<(l0.length:Int)
     · rw [if_pos c4] at H
       have c4b0:decide (0<(l0.length:Int))=true:=decide_eq_true c4
       have c4b1:decide (0<l0.length)=true:=decide_eq_true (by omega)
       clear c4
       by_cases c5:((rd_T46 l0 0).f0)=0
       · rw [if_pos c5] at H
         have c5b0:(((rd_T46 l0 0).f0) == 0)=true:=beq_iff_eq.mpr c5
         have c5b1:(((rd_T46 l0 0).f0) != 0)=false:=bne_eq_false_iff_eq.mpr c5
         clear c5
         simp only [Option.some.injEq,Prod.mk.injEq] at H
         obtain ⟨rfl,rfl⟩:=H
         have p165:0≤(0:Int):=(by omega)
         have q165:0<(l0.length:Int):=of_decide_eq_true (by first | (with_reducible assumption)|assumption)
         obtain ⟨ad165,A165_3,c165_3,e165,hx165_0,hx165_1,hx165_2,hx165_3,hx165_4,hl165_3,hi165_3⟩:=at_T46 HR0.out 0 p165 q165
         cases e165
         have qi165:(0<l0.length)=True:=eq_true (by omega)
         (try rw [show ((0:Int)).toNat=0 from rfl] at hx165_0)
         (try rw [show 0*5=0 from rfl] at hx165_0)
         (try rw [Addr.add_zero'] at hx165_0)
         (try rw [show ((0:Int)).toNat=0 from rfl] at hx165_1)
         (try rw [show 0*5=0 from rfl] at hx165_1)
         (try rw [Addr.add_zero'] at hx165_1)
         (try rw [show ((0:Int)).toNat=0 from rfl] at hx165_2)
         (try rw [show 0*5=0 from rfl] at hx165_2)
         (try rw [Addr.add_zero'] at hx165_2)
         (try rw [show ((0:Int)).toNat=0 from rfl] at hx165_3)
         (try rw [show 0*5=0 from rfl] at hx165_3)
         (try rw [Addr.add_zero'] at hx165_3)
         (try rw [show ((0:Int)).toNat=0 from rfl] at hx165_4)
         (try rw [show 0*5=0 from rfl] at hx165_4)
         (try rw [Addr.add_zero'] at hx165_4)
         have HR165_3:=Aside0.mk hi165_3
         have HC165_3:=Aside0.mk hl165_3
         clear hi165_3 hl165_3
         replace p165:=eq_true p165
         replace q165:=eq_true q165
         have p166:0≤(0:Int):=(by omega)
         have q166:0<(l0.length:Int):=of_decide_eq_true (by first | (with_reducible assumption)|assumption)
         obtain ⟨ad166,A166_3,c166_3,e166,hx166_0,hx166_1,hx166_2,hx166_3,hx166_4,hl166_3,hi166_3⟩:=at_T46 HR0.out 0 p166 q166
         obtain rfl:ad165=ad166:=(by injection e166)
         have qi166:(0<l0.length)=True:=eq_true (by omega)
         (try rw [show ((0:Int)).toNat=0 from rfl] at hx166_0)
         (try rw [show 0*5=0 from rfl] at hx166_0)
         (try rw [Addr.add_zero'] at hx166_0)
         (try rw [show ((0:Int)).toNat=0 from rfl] at hx166_1)
         (try rw [show 0*5=0 from rfl] at hx166_1)
         (try rw [Addr.add_zero'] at hx166_1)
         (try rw [show ((0:Int)).toNat=0 from rfl] at hx166_2)
         (try rw [show 0*5=0 from rfl] at hx166_2)
         (try rw [Addr.add_zero'] at hx166_2)
         (try rw [show ((0:Int)).toNat=0 from rfl] at hx166_3)
         (try rw [show 0*5=0 from rfl] at hx166_3)
         (try rw [Addr.add_zero'] at hx166_3)
         (try rw [show ((0:Int)).toNat=0 from rfl] at hx166_4)
         (try rw [show 0*5=0 from rfl] at hx166_4)
         (try rw [Addr.add_zero'] at hx166_4)
         have HR166_3:=Aside0.mk hi166_3
         have HC166_3:=Aside0.mk hl166_3
         clear hi166_3 hl166_3
         replace p166:=eq_true p166
         replace q166:=eq_true q166
         have ea_:=Option.some.inj (hx165_3.symm.trans hx166_3)
         injection ea_ with ea_ en_ ec_
         subst ea_
         subst ec_
         clear en_
         go_enter Tryz.func39,Tryz.ntmps39
         go_wp2
         go_ret2
         exact ⟨by first|rfl | (simp;done) | (simp [*];done),by repeat (first|exact Drawn0.refl _|apply Drawn0.step)⟩
       · rw [if_neg c5] at H
         have c5b0:(((rd_T46 l0 0).f0) == 0)=false:=beq_eq_false_iff_ne.mpr c5
         have c5b1:(((rd_T46 l0 0).f0) != 0)=true:=bne_iff_ne.mpr c5
         simp only [Option.some.injEq,Prod.mk.injEq] at H
         obtain ⟨rfl,rfl⟩:=H
         have p165:0≤(0:Int):=(by omega)
         have q165:0<(l0.length:Int):=of_decide_eq_true (by first | (with_reducible assumption)|assumption)
         obtain ⟨ad165,A165_3,c165_3,e165,hx165_0,hx165_1,hx165_2,hx165_3,hx165_4,hl165_3,hi165_3⟩:=at_T46 HR0.out 0 p165 q165
         cases e165
         have qi165:(0<l0.length)=True:=eq_true (by omega)
         (try rw [show ((0:Int)).toNat=0 from rfl] at hx165_0)
         (try rw [show 0*5=0 from rfl] at hx165_0)
         (try rw [Addr.add_zero'] at hx165_0)
         (try rw [show ((0:Int)).toNat=0 from rfl] at hx165_1)
         (try rw [show 0*5=0 from rfl] at hx165_1)
         (try rw [Addr.add_zero'] at hx165_1)
         (try rw [show ((0:Int)).toNat=0 from rfl] at hx165_2)
         (try rw [show 0*5=0 from rfl] at hx165_2)
         (try rw [Addr.add_zero'] at hx165_2)
         (try rw [show ((0:Int)).toNat=0 from rfl] at hx165_3)
         (try rw [show 0*5=0 from rfl] at hx165_3)
         (try rw [Addr.add_zero'] at hx165_3)
         (try rw [show ((0:Int)).toNat=0 from rfl] at hx165_4)
         (try rw [show 0*5=0 from rfl] at hx165_4)
         (try rw [Addr.add_zero'] at hx165_4)
         have HR165_3:=Aside0.mk hi165_3
         have HC165_3:=Aside0.mk hl165_3
         clear hi165_3 hl165_3
         replace p165:=eq_true p165
         replace q165:=eq_true q165
         go_enter Tryz.func39,Tryz.ntmps39
         go_wp2
         go_ret2
         exact ⟨by first|rfl | (simp;done) | (simp [*];done),by repeat (first|exact Drawn0.refl _|apply Drawn0.step)⟩
     · rw [if_neg c4] at H
       exact absurd H (by simp)
   · rw [if_neg c3] at H
     have c3b0:((l0.length:Int) == 1)=false:=beq_eq_false_iff_ne.mpr c3
     have c3b1:((l0.length:Int) != 1)=true:=bne_iff_ne.mpr c3
     simp only [Option.some.injEq,Prod.mk.injEq] at H
     obtain ⟨rfl,rfl⟩:=H
     go_enter Tryz.func39,Tryz.ntmps39
     go_wp2
     go_ret2
     exact ⟨by first|rfl | (simp;done) | (simp [*];done),by repeat (first|exact Drawn0.refl _|apply Drawn0.step)⟩
noncomputable def context_plain.f (a0_0:Int) (a0_1:ByteArray) (a0_2:ByteArray) (l0_3:List (S87)) (a0_4:Bool) (a1:Int) (a2:ByteArray) (a3:Int):Option (Bool):=if a0_0=a1 then (if a0_1.toList=a2.toList then (if (l0_3.length:Int)=a3 then (some (!a0_4)) else (some false)) else (some false)) else (some false)
set_option maxHeartbeats 8000000 in
set_option maxRecDepth 100000 in
theorem context_plain.calls (a0_0:Int) (a0_1:ByteArray) (a0_2:ByteArray) (A0_3:Option Addr) (c0_3:Nat) (l0_3:List (S87)) (a0_4:Bool) (a1:Int) (a2:ByteArray) (a3:Int) (r:Bool) (w:World) (hr0_3:Kd.C k87 w A0_3 l0_3.length l0_3) (hc0_3:l0_3.length≤c0_3) (h:context_plain.f a0_0 a0_1 a0_2 l0_3 a0_4 a1 a2 a3=some r) :
  Calls Tryz.prog 66 #[.agg #[.int .i64 a0_0,.string a0_1,.string a0_2,.slice A0_3 l0_3.length c0_3,.bool a0_4],.int .i64 a1,.string a2,.int .i64 a3] w fun e w'=>e = .returned (.bool r)∧Below w.heap.size w w':=by
 have hu46:=Tryz.underlying46
 have HR0_3:=Aside0.mk hr0_3
 have HC0_3:=Aside0.mk hc0_3
 clear hr0_3 hc0_3
 have HB:=Aside0.mk (Below.refl w.heap.size w)
 have H:(if a0_0=a1 then (if a0_1.toList=a2.toList then (if (l0_3.length:Int)=a3 then (some (!a0_4)) else (some false)) else (some false)) else (some false))=some r:=h
 clear h
 by_cases c5:a0_0=a1
 · rw [if_pos c5] at H
   have c5b0:(a0_0 == a1)=true:=beq_iff_eq.mpr c5
   have c5b1:(a0_0 != a1)=false:=bne_eq_false_iff_eq.mpr c5
   clear c5
   by_cases c6:a0_1.toList=a2.toList
   · rw [if_pos c6] at H
     have c6b0:(a0_1.toList == a2.toList)=true:=beq_iff_eq.mpr c6
     have c6b1:(a0_1.toList != a2.toList)=false:=bne_eq_false_iff_eq.mpr c6
     clear c6
     by_cases c7:(l0_3.length:Int)=a3
     · rw [if_pos c7] at H
       have c7b0:((l0_3.length:Int) == a3)=true:=beq_iff_eq.mpr c7
       have c7b1:((l0_3.length:Int) != a3)=false:=bne_eq_false_iff_eq.mpr c7
       clear c7
       obtain rfl:=Option.some.inj H
       go_enter Tryz.func66,Tryz.ntmps66
       go_wp2_with (first | ((with_reducible refine gate_dst (N:=4) rfl ?_);(try (refine gate_guard (by rfl) ?_;dsimp only));refine box_event ?hg (N:=4) ?hd (cs := #[.int .i64 a0_0,.string a0_1,.string a0_2,.slice A0_3 l0_3.length c0_3,.bool a0_4]) (t:=46) ?hr ?_;(case hd=>rfl);(case hg=>rfl);(case hr=>first | (go_simp;done) | (go_simp;rfl));intro gb167 hg w8 hbox hb;have n0_:=Aside0.mk (below_step (by repeat (first | (with_reducible first|exact HB.out|apply below_alloc|apply pw_below_drewN|apply below_drew1)|exact HB.out)) hb);have n1_:=Aside0.mk (hbox);have n2_:=Aside0.mk ((by rw [hg];exact (below_size (by repeat (first | (with_reducible first|exact HB.out|apply below_alloc|apply pw_below_drewN|apply below_drew1)|exact HB.out))):w.heap.size≤gb167));have n3_:=Aside0.mk ((by rw [hg];exact (below_size (by repeat (first | (with_reducible first|exact HB.out|apply below_alloc|apply pw_below_drewN|apply below_drew1)|exact HB.out))):w.heap.size≤gb167));clear HB;have HB:=n0_;have BK167:=n1_;have GW167:=n2_;have GE167:=n3_;clear n0_ n1_ n2_ n3_;clear hb hbox hg;have hcz9_0:w8.cell? ⟨gb167,0,none⟩=some (.int .i64 a0_0):=(blk_cell BK167.out 0).trans rfl;have hcz9_1:w8.cell? ⟨gb167,1,none⟩=some (.string a0_1):=(blk_cell BK167.out 1).trans rfl;have hcz9_2:w8.cell? ⟨gb167,2,none⟩=some (.string a0_2):=(blk_cell BK167.out 2).trans rfl;have hcz9_3:w8.cell? ⟨gb167,3,none⟩=some (.slice A0_3 l0_3.length c0_3):=(blk_cell BK167.out 3).trans rfl;have hcz9_4:w8.cell? ⟨gb167,4,none⟩=some (.bool a0_4):=(blk_cell BK167.out 4).trans rfl;have hfz9_0:=blk_frozen BK167.out 0;have hfz9_1:=blk_frozen BK167.out 1;have hfz9_2:=blk_frozen BK167.out 2;have hfz9_3:=blk_frozen BK167.out 3;have hfz9_4:=blk_frozen BK167.out 4))
       go_ret
       exact ⟨by first|rfl | (simp [errW_none,errW_some]<;>rfl) | (simp [*,errW_none,errW_some]<;>rfl),by repeat (first | (with_reducible first|exact HB.out|apply below_alloc|apply pw_below_drewN|apply below_drew1|refine below_set ?_ GE167.out)|exact HB.out)⟩
     · rw [if_neg c7] at H
       have c7b0:((l0_3.length:Int) == a3)=false:=beq_eq_false_iff_ne.mpr c7
       have c7b1:((l0_3.length:Int) != a3)=true:=bne_iff_ne.mpr c7
       obtain rfl:=Option.some.inj H
       go_enter Tryz.func66,Tryz.ntmps66
       go_wp2_with (first | ((with_reducible refine gate_dst (N:=4) rfl ?_);(try (refine gate_guard (by rfl) ?_;dsimp only));refine box_event ?hg (N:=4) ?hd (cs := #[.int .i64 a0_0,.string a0_1,.string a0_2,.slice A0_3 l0_3.length c0_3,.bool a0_4]) (t:=46) ?hr ?_;(case hd=>rfl);(case hg=>rfl);(case hr=>first | (go_simp;done) | (go_simp;rfl));intro gb167 hg w10 hbox hb;have n0_:=Aside0.mk (below_step (by repeat (first | (with_reducible first|exact HB.out|apply below_alloc|apply pw_below_drewN|apply below_drew1)|exact HB.out)) hb);have n1_:=Aside0.mk (hbox);have n2_:=Aside0.mk ((by rw [hg];exact (below_size (by repeat (first | (with_reducible first|exact HB.out|apply below_alloc|apply pw_below_drewN|apply below_drew1)|exact HB.out))):w.heap.size≤gb167));have n3_:=Aside0.mk ((by rw [hg];exact (below_size (by repeat (first | (with_reducible first|exact HB.out|apply below_alloc|apply pw_below_drewN|apply below_drew1)|exact HB.out))):w.heap.size≤gb167));clear HB;have HB:=n0_;have BK167:=n1_;have GW167:=n2_;have GE167:=n3_;clear n0_ n1_ n2_ n3_;clear hb hbox hg;have hcz11_0:w10.cell? ⟨gb167,0,none⟩=some (.int .i64 a0_0):=(blk_cell BK167.out 0).trans rfl;have hcz11_1:w10.cell? ⟨gb167,1,none⟩=some (.string a0_1):=(blk_cell BK167.out 1).trans rfl;have hcz11_2:w10.cell? ⟨gb167,2,none⟩=some (.string a0_2):=(blk_cell BK167.out 2).trans rfl;have hcz11_3:w10.cell? ⟨gb167,3,none⟩=some (.slice A0_3 l0_3.length c0_3):=(blk_cell BK167.out 3).trans rfl;have hcz11_4:w10.cell? ⟨gb167,4,none⟩=some (.bool a0_4):=(blk_cell BK167.out 4).trans rfl;have hfz11_0:=blk_frozen BK167.out 0;have hfz11_1:=blk_frozen BK167.out 1;have hfz11_2:=blk_frozen BK167.out 2;have hfz11_3:=blk_frozen BK167.out 3;have hfz11_4:=blk_frozen BK167.out 4))
       go_ret
       exact ⟨by first|rfl | (simp [errW_none,errW_some]<;>rfl) | (simp [*,errW_none,errW_some]<;>rfl),by repeat (first | (with_reducible first|exact HB.out|apply below_alloc|apply pw_below_drewN|apply below_drew1|refine below_set ?_ GE167.out)|exact HB.out)⟩
   · rw [if_neg c6] at H
     have c6b0:(a0_1.toList == a2.toList)=false:=beq_eq_false_iff_ne.mpr c6
     have c6b1:(a0_1.toList != a2.toList)=true:=bne_iff_ne.mpr c6
     obtain rfl:=Option.some.inj H
     go_enter Tryz.func66,Tryz.ntmps66
     go_wp2_with (first | ((with_reducible refine gate_dst (N:=4) rfl ?_);(try (refine gate_guard (by rfl) ?_;dsimp only));refine box_event ?hg (N:=4) ?hd (cs := #[.int .i64 a0_0,.string a0_1,.string a0_2,.slice A0_3 l0_3.length c0_3,.bool a0_4]) (t:=46) ?hr ?_;(case hd=>rfl);(case hg=>rfl);(case hr=>first | (go_simp;done) | (go_simp;rfl));intro gb167 hg w12 hbox hb;have n0_:=Aside0.mk (below_step (by repeat (first | (with_reducible first|exact HB.out|apply below_alloc|apply pw_below_drewN|apply below_drew1)|exact HB.out)) hb);have n1_:=Aside0.mk (hbox);have n2_:=Aside0.mk ((by rw [hg];exact (below_size (by repeat (first | (with_reducible first|exact HB.out|apply below_alloc|apply pw_below_drewN|apply below_drew1)|exact HB.out))):w.heap.size≤gb167));have n3_:=Aside0.mk ((by rw [hg];exact (below_size (by repeat (first | (with_reducible first|exact HB.out|apply below_alloc|apply pw_below_drewN|apply below_drew1)|exact HB.out))):w.heap.size≤gb167));clear HB;have HB:=n0_;have BK167:=n1_;have GW167:=n2_;have GE167:=n3_;clear n0_ n1_ n2_ n3_;clear hb hbox hg;have hcz13_0:w12.cell? ⟨gb167,0,none⟩=some (.int .i64 a0_0):=(blk_cell BK167.out 0).trans rfl;have hcz13_1:w12.cell? ⟨gb167,1,none⟩=some (.string a0_1):=(blk_cell BK167.out 1).trans rfl;have hcz13_2:w12.cell? ⟨gb167,2,none⟩=some (.string a0_2):=(blk_cell BK167.out 2).trans rfl;have hcz13_3:w12.cell? ⟨gb167,3,none⟩=some (.slice A0_3 l0_3.length c0_3):=(blk_cell BK167.out 3).trans rfl;have hcz13_4:w12.cell? ⟨gb167,4,none⟩=some (.bool a0_4):=(blk_cell BK167.out 4).trans rfl;have hfz13_0:=blk_frozen BK167.out 0;have hfz13_1:=blk_frozen BK167.out 1;have hfz13_2:=blk_frozen BK167.out 2;have hfz13_3:=blk_frozen BK167.out 3;have hfz13_4:=blk_frozen BK167.out 4))
     go_ret
     exact ⟨by first|rfl | (simp [errW_none,errW_some]<;>rfl) | (simp [*,errW_none,errW_some]<;>rfl),by repeat (first | (with_reducible first|exact HB.out|apply below_alloc|apply pw_below_drewN|apply below_drew1|refine below_set ?_ GE167.out)|exact HB.out)⟩
 · rw [if_neg c5] at H
   have c5b0:(a0_0 == a1)=false:=beq_eq_false_iff_ne.mpr c5
   have c5b1:(a0_0 != a1)=true:=bne_iff_ne.mpr c5
   obtain rfl:=Option.some.inj H
   go_enter Tryz.func66,Tryz.ntmps66
   go_wp2_with (first | ((with_reducible refine gate_dst (N:=4) rfl ?_);(try (refine gate_guard (by rfl) ?_;dsimp only));refine box_event ?hg (N:=4) ?hd (cs := #[.int .i64 a0_0,.string a0_1,.string a0_2,.slice A0_3 l0_3.length c0_3,.bool a0_4]) (t:=46) ?hr ?_;(case hd=>rfl);(case hg=>rfl);(case hr=>first | (go_simp;done) | (go_simp;rfl));intro gb167 hg w14 hbox hb;have n0_:=Aside0.mk (below_step (by repeat (first | (with_reducible first|exact HB.out|apply below_alloc|apply pw_below_drewN|apply below_drew1)|exact HB.out)) hb);have n1_:=Aside0.mk (hbox);have n2_:=Aside0.mk ((by rw [hg];exact (below_size (by repeat (first | (with_reducible first|exact HB.out|apply below_alloc|apply pw_below_drewN|apply below_drew1)|exact HB.out))):w.heap.size≤gb167));have n3_:=Aside0.mk ((by rw [hg];exact (below_size (by repeat (first | (with_reducible first|exact HB.out|apply below_alloc|apply pw_below_drewN|apply below_drew1)|exact HB.out))):w.heap.size≤gb167));clear HB;have HB:=n0_;have BK167:=n1_;have GW167:=n2_;have GE167:=n3_;clear n0_ n1_ n2_ n3_;clear hb hbox hg;have hcz15_0:w14.cell? ⟨gb167,0,none⟩=some (.int .i64 a0_0):=(blk_cell BK167.out 0).trans rfl;have hcz15_1:w14.cell? ⟨gb167,1,none⟩=some (.string a0_1):=(blk_cell BK167.out 1).trans rfl;have hcz15_2:w14.cell? ⟨gb167,2,none⟩=some (.string a0_2):=(blk_cell BK167.out 2).trans rfl;have hcz15_3:w14.cell? ⟨gb167,3,none⟩=some (.slice A0_3 l0_3.length c0_3):=(blk_cell BK167.out 3).trans rfl;have hcz15_4:w14.cell? ⟨gb167,4,none⟩=some (.bool a0_4):=(blk_cell BK167.out 4).trans rfl;have hfz15_0:=blk_frozen BK167.out 0;have hfz15_1:=blk_frozen BK167.out 1;have hfz15_2:=blk_frozen BK167.out 2;have hfz15_3:=blk_frozen BK167.out 3;have hfz15_4:=blk_frozen BK167.out 4))
   go_ret
   exact ⟨by first|rfl | (simp [errW_none,errW_some]<;>rfl) | (simp [*,errW_none,errW_some]<;>rfl),by repeat (first | (with_reducible first|exact HB.out|apply below_alloc|apply pw_below_drewN|apply below_drew1|refine below_set ?_ GE167.out)|exact HB.out)⟩
end Go.Proofs.YtcecjoaeolglbaaGreatDoor.St
end

section
namespace Go.Proofs.YtcecjoaeolglbaaGreatDoor.St
open Go.RowKit Go.Proofs.YtcecjoaeolglbaaGreatDoor.K0 Go.Proofs.YtcecjoaeolglbaaGreatDoor.Hand Go.Proofs.YtcecjoaeolglbaaGreatDoor.Sa Go.Proofs.YtcecjoaeolglbaaGreatDoor.Si Go.Proofs.YtcecjoaeolglbaaGreatDoorW.PrintWords Go.Proofs.YtcecjoaeolglbaaGreatDoorW.PrintLast Go.Proofs.YtcecjoaeolglbaaGreatDoorW.PrintMore
attribute [local go_sem] max2_int min2_int max_two min_two max_three min_three max_four min_four  
set_option linter.unusedVariables false
set_option linter.unusedSimpArgs false
noncomputable def context_value.f (l0:List (S46)):Option (ByteArray×Bool):=if (l0.length:Int)=1 then (if 0<(l0.length:Int) then ((context_plain.f ((rd_T46 l0 0).f0) ((rd_T46 l0 0).f1) ((rd_T46 l0 0).f2) ((rd_T46 l0 0).f3) ((rd_T46 l0 0).f4) 1 (⟨#[97]⟩:ByteArray) 1).bind fun t169=>(if t169=true then (if 0<(((rd_T46 l0 0).f3).length:Int) then (if ((rd_T87 ((rd_T46 l0 0).f3) 0).f0).toList=([120]:List UInt8) then (some ((rd_T87 ((rd_T46 l0 0).f3) 0).f1,true)) else (some ((⟨#[]⟩:ByteArray),false))) else (none)) else (some ((⟨#[]⟩:ByteArray),false)))) else (none)) else (some ((⟨#[]⟩:ByteArray),false))
set_option maxHeartbeats 8000000 in
set_option maxRecDepth 100000 in
theorem context_value.calls (A0:Option Addr) (c0:Nat) (l0:List (S46)) (r1:ByteArray) (r2:Bool) (w:World) (hr0:Kd.C k46 w A0 l0.length l0) (hc0:l0.length≤c0) (h:context_value.f l0=some (r1,r2)) :
  Calls Tryz.prog 40 #[.slice A0 l0.length c0] w fun e w'=>e = .returned (.tuple #[.string r1,.bool r2])∧Below w.heap.size w w':=by
 have hu46:=Tryz.underlying46
 have HR0:=Aside0.mk hr0
 have HC0:=Aside0.mk hc0
 clear hr0 hc0
 have HB:=Aside0.mk (Below.refl w.heap.size w)
 have H:(if (l0.length:Int)=1 then (if 0<(l0.length:Int) then ((context_plain.f ((rd_T46 l0 0).f0) ((rd_T46 l0 0).f1) ((rd_T46 l0 0).f2) ((rd_T46 l0 0).f3) ((rd_T46 l0 0).f4) 1 (⟨#[97]⟩:ByteArray) 1).bind fun t169=>(if t169=true then (if 0<(((rd_T46 l0 0).f3).length:Int) then (if ((rd_T87 ((rd_T46 l0 0).f3) 0).f0).toList=([120]:List UInt8) then (some ((rd_T87 ((rd_T46 l0 0).f3) 0).f1,true)) else (some ((⟨#[]⟩:ByteArray),false))) else (none)) else (some ((⟨#[]⟩:ByteArray),false)))) else (none)) else (some ((⟨#[]⟩:ByteArray),false)))=some (r1,r2):=h
 clear h
 by_cases c2:(l0.length:Int)=1
 · rw [if_pos c2] at H
   have c2b0:((l0.length:Int) == 1)=true:=beq_iff_eq.mpr c2
   have c2b1:((l0.length:Int) != 1)=false:=bne_eq_false_iff_eq.mpr c2
   clear c2
   by_cases c3:0<(l0.length:Int)
   · rw [if_pos c3] at H
     have c3b0:decide (0<(l0.length:Int))=true:=decide_eq_true c3
     have c3b1:decide (0<l0.length)=true:=decide_eq_true (by omega)
     clear c3
     replace H:=Option.bind_eq_some_iff.mp H
     obtain ⟨t169,A40,H⟩:=H
     replace H:(if t169=true then (if 0<(((rd_T46 l0 0).f3).length:Int) then (if ((rd_T87 ((rd_T46 l0 0).f3) 0).f0).toList=([120]:List UInt8) then (some ((rd_T87 ((rd_T46 l0 0).f3) 0).f1,true)) else (some ((⟨#[]⟩:ByteArray),false))) else (none)) else (some ((⟨#[]⟩:ByteArray),false)))=some (r1,r2):=H
     have A4:=Aside0.mk A40
     clear A40
     by_cases c5:t169=true
     · subst c5
       have H1:(if 0<(((rd_T46 l0 0).f3).length:Int) then (if ((rd_T87 ((rd_T46 l0 0).f3) 0).f0).toList=([120]:List UInt8) then (some ((rd_T87 ((rd_T46 l0 0).f3) 0).f1,true)) else (some ((⟨#[]⟩:ByteArray),false))) else (none))=some (r1,r2):=by rw [if_pos rfl] at H;exact H
       clear H
       have H:=H1
       clear H1
       by_cases c6:0<(((rd_T46 l0 0).f3).length:Int)
       · rw [if_pos c6] at H
         have c6b0:decide (0<(((rd_T46 l0 0).f3).length:Int))=true:=decide_eq_true c6
         have c6b1:decide (0<((rd_T46 l0 0).f3).length)=true:=decide_eq_true (by omega)
         clear c6
         by_cases c7:((rd_T87 ((rd_T46 l0 0).f3) 0).f0).toList=([120]:List UInt8)
         · rw [if_pos c7] at H
           have c7b0:(((rd_T87 ((rd_T46 l0 0).f3) 0).f0).toList == ([120]:List UInt8))=true:=beq_iff_eq.mpr c7
           have c7b1:(((rd_T87 ((rd_T46 l0 0).f3) 0).f0).toList != ([120]:List UInt8))=false:=bne_eq_false_iff_eq.mpr c7
           clear c7
           simp only [Option.some.injEq,Prod.mk.injEq] at H
           obtain ⟨rfl,rfl⟩:=H
           have p168:0≤(0:Int):=(by omega)
           have q168:0<(l0.length:Int):=of_decide_eq_true (by first | (with_reducible assumption)|assumption)
           obtain ⟨ad168,A168_3,c168_3,e168,hx168_0,hx168_1,hx168_2,hx168_3,hx168_4,hl168_3,hi168_3⟩:=at_T46 HR0.out 0 p168 q168
           cases e168
           have qi168:(0<l0.length)=True:=eq_true (by omega)
           (try rw [show ((0:Int)).toNat=0 from rfl] at hx168_0)
           (try rw [show 0*5=0 from rfl] at hx168_0)
           (try rw [Addr.add_zero'] at hx168_0)
           (try rw [show ((0:Int)).toNat=0 from rfl] at hx168_1)
           (try rw [show 0*5=0 from rfl] at hx168_1)
           (try rw [Addr.add_zero'] at hx168_1)
           (try rw [show ((0:Int)).toNat=0 from rfl] at hx168_2)
           (try rw [show 0*5=0 from rfl] at hx168_2)
           (try rw [Addr.add_zero'] at hx168_2)
           (try rw [show ((0:Int)).toNat=0 from rfl] at hx168_3)
           (try rw [show 0*5=0 from rfl] at hx168_3)
           (try rw [Addr.add_zero'] at hx168_3)
           (try rw [show ((0:Int)).toNat=0 from rfl] at hx168_4)
           (try rw [show 0*5=0 from rfl] at hx168_4)
           (try rw [Addr.add_zero'] at hx168_4)
           have HR168_3:=Aside0.mk hi168_3
           have HC168_3:=Aside0.mk hl168_3
           clear hi168_3 hl168_3
           replace p168:=eq_true p168
           replace q168:=eq_true q168
           go_enter Tryz.func40,Tryz.ntmps40
           go_wp2_with (first | (go_at_call 66;(with_reducible refine (context_plain.calls ((rd_T46 l0 0).f0) ((rd_T46 l0 0).f1) ((rd_T46 l0 0).f2) _ _ ((rd_T46 l0 0).f3) ((rd_T46 l0 0).f4) 1 (⟨#[97]⟩:ByteArray) 1 true _ ?side1 ?side2 A4.out).mono ?_);(case side1=>repeat (first|exact HR168_3.out | (with_reducible refine Kd.C_alloc ?_ _) | (with_reducible refine Kd.C_drewN ?_ _) | (with_reducible refine Kd.C_drew ?_)));(case side2=>exact HC168_3.out);rintro e w8 ⟨rfl,hb⟩;have n0_:=Aside0.mk (below_step (by repeat (first | (with_reducible first|exact HB.out|apply below_alloc|apply pw_below_drewN|apply below_drew1)|exact HB.out)) hb);clear HB;have HB:=n0_;clear n0_;(try clear hb);(try clear hb2);(try clear hk);(try clear hi);have p170:0≤(0:Int):=(by omega);have q170:0<(l0.length:Int):=of_decide_eq_true (by first | (with_reducible assumption)|assumption);obtain ⟨ad170,A170_3,c170_3,e170,hx170_0,hx170_1,hx170_2,hx170_3,hx170_4,hl170_3,hi170_3⟩:=at_T46 HR0.out 0 p170 q170;obtain rfl:ad168=ad170:=(by injection e170);have qi170:(0<l0.length)=True:=eq_true (by omega);(try rw [show ((0:Int)).toNat=0 from rfl] at hx170_0);(try rw [show 0*5=0 from rfl] at hx170_0);(try rw [Addr.add_zero'] at hx170_0);(try rw [show ((0:Int)).toNat=0 from rfl] at hx170_1);(try rw [show 0*5=0 from rfl] at hx170_1);(try rw [Addr.add_zero'] at hx170_1);(try rw [show ((0:Int)).toNat=0 from rfl] at hx170_2);(try rw [show 0*5=0 from rfl] at hx170_2);(try rw [Addr.add_zero'] at hx170_2);(try rw [show ((0:Int)).toNat=0 from rfl] at hx170_3);(try rw [show 0*5=0 from rfl] at hx170_3);(try rw [Addr.add_zero'] at hx170_3);(try rw [show ((0:Int)).toNat=0 from rfl] at hx170_4);(try rw [show 0*5=0 from rfl] at hx170_4);(try rw [Addr.add_zero'] at hx170_4);replace hx170_0:=(HB.out.cell (World.block_lt_of_cell? w _ hx170_0)).trans hx170_0;replace hx170_1:=(HB.out.cell (World.block_lt_of_cell? w _ hx170_1)).trans hx170_1;replace hx170_2:=(HB.out.cell (World.block_lt_of_cell? w _ hx170_2)).trans hx170_2;replace hx170_3:=(HB.out.cell (World.block_lt_of_cell? w _ hx170_3)).trans hx170_3;replace hx170_4:=(HB.out.cell (World.block_lt_of_cell? w _ hx170_4)).trans hx170_4;have HR170_3:=Aside0.mk hi170_3;have HC170_3:=Aside0.mk hl170_3;clear hi170_3 hl170_3;replace p170:=eq_true p170;replace q170:=eq_true q170;have p171:0≤(0:Int):=(by omega);have q171:0<(((rd_T46 l0 0).f3).length:Int):=of_decide_eq_true (by first | (with_reducible assumption)|assumption);obtain ⟨ad171,e171,hx171_0,hx171_1⟩:=at_T87 HR170_3.out 0 p171 q171;cases e171;have qi171:(0<((rd_T46 l0 0).f3).length)=True:=eq_true (by omega);(try rw [show ((0:Int)).toNat=0 from rfl] at hx171_0);(try rw [show 0*2=0 from rfl] at hx171_0);(try rw [Addr.add_zero'] at hx171_0);(try rw [show ((0:Int)).toNat=0 from rfl] at hx171_1);(try rw [show 0*2=0 from rfl] at hx171_1);(try rw [Addr.add_zero'] at hx171_1);replace hx171_0:=(HB.out.cell (World.block_lt_of_cell? w _ hx171_0)).trans hx171_0;replace hx171_1:=(HB.out.cell (World.block_lt_of_cell? w _ hx171_1)).trans hx171_1;replace p171:=eq_true p171;replace q171:=eq_true q171;have p172:0≤(0:Int):=(by omega);have q172:0<(l0.length:Int):=of_decide_eq_true (by first | (with_reducible assumption)|assumption);obtain ⟨ad172,A172_3,c172_3,e172,hx172_0,hx172_1,hx172_2,hx172_3,hx172_4,hl172_3,hi172_3⟩:=at_T46 HR0.out 0 p172 q172;obtain rfl:ad168=ad172:=(by injection e172);have qi172:(0<l0.length)=True:=eq_true (by omega);(try rw [show ((0:Int)).toNat=0 from rfl] at hx172_0);(try rw [show 0*5=0 from rfl] at hx172_0);(try rw [Addr.add_zero'] at hx172_0);(try rw [show ((0:Int)).toNat=0 from rfl] at hx172_1);(try rw [show 0*5=0 from rfl] at hx172_1);(try rw [Addr.add_zero'] at hx172_1);(try rw [show ((0:Int)).toNat=0 from rfl] at hx172_2);(try rw [show 0*5=0 from rfl] at hx172_2);(try rw [Addr.add_zero'] at hx172_2);(try rw [show ((0:Int)).toNat=0 from rfl] at hx172_3);(try rw [show 0*5=0 from rfl] at hx172_3);(try rw [Addr.add_zero'] at hx172_3);(try rw [show ((0:Int)).toNat=0 from rfl] at hx172_4);(try rw [show 0*5=0 from rfl] at hx172_4);(try rw [Addr.add_zero'] at hx172_4);replace hx172_0:=(HB.out.cell (World.block_lt_of_cell? w _ hx172_0)).trans hx172_0;replace hx172_1:=(HB.out.cell (World.block_lt_of_cell? w _ hx172_1)).trans hx172_1;replace hx172_2:=(HB.out.cell (World.block_lt_of_cell? w _ hx172_2)).trans hx172_2;replace hx172_3:=(HB.out.cell (World.block_lt_of_cell? w _ hx172_3)).trans hx172_3;replace hx172_4:=(HB.out.cell (World.block_lt_of_cell? w _ hx172_4)).trans hx172_4;have HR172_3:=Aside0.mk hi172_3;have HC172_3:=Aside0.mk hl172_3;clear hi172_3 hl172_3;replace p172:=eq_true p172;replace q172:=eq_true q172;have ea_:=Option.some.inj (hx170_3.symm.trans hx172_3);injection ea_ with ea_ en_ ec_;subst ea_;subst ec_;clear en_;have p173:0≤(0:Int):=(by omega);have q173:0<(((rd_T46 l0 0).f3).length:Int):=of_decide_eq_true (by first | (with_reducible assumption)|assumption);obtain ⟨ad173,e173,hx173_0,hx173_1⟩:=at_T87 HR172_3.out 0 p173 q173;cases e173;have qi173:(0<((rd_T46 l0 0).f3).length)=True:=eq_true (by omega);(try rw [show ((0:Int)).toNat=0 from rfl] at hx173_0);(try rw [show 0*2=0 from rfl] at hx173_0);(try rw [Addr.add_zero'] at hx173_0);(try rw [show ((0:Int)).toNat=0 from rfl] at hx173_1);(try rw [show 0*2=0 from rfl] at hx173_1);(try rw [Addr.add_zero'] at hx173_1);replace hx173_0:=(HB.out.cell (World.block_lt_of_cell? w _ hx173_0)).trans hx173_0;replace hx173_1:=(HB.out.cell (World.block_lt_of_cell? w _ hx173_1)).trans hx173_1;replace p173:=eq_true p173;replace q173:=eq_true q173))
           go_ret2
           exact ⟨by first|rfl | (simp [errW_none,errW_some]<;>rfl) | (simp [*,errW_none,errW_some]<;>rfl),by repeat (first | (with_reducible first|exact HB.out|apply below_alloc|apply pw_below_drewN|apply below_drew1)|exact HB.out)⟩
         · rw [if_neg c7] at H
           have c7b0:(((rd_T87 ((rd_T46 l0 0).f3) 0).f0).toList == ([120]:List UInt8))=false:=beq_eq_false_iff_ne.mpr c7
           have c7b1:(((rd_T87 ((rd_T46 l0 0).f3) 0).f0).toList != ([120]:List UInt8))=true:=bne_iff_ne.mpr c7
           simp only [Option.some.injEq,Prod.mk.injEq] at H
           obtain ⟨rfl,rfl⟩:=H
           have p168:0≤(0:Int):=(by omega)
           have q168:0<(l0.length:Int):=of_decide_eq_true (by first | (with_reducible assumption)|assumption)
           obtain ⟨ad168,A168_3,c168_3,e168,hx168_0,hx168_1,hx168_2,hx168_3,hx168_4,hl168_3,hi168_3⟩:=at_T46 HR0.out 0 p168 q168
           cases e168
           have qi168:(0<l0.length)=True:=eq_true (by omega)
           (try rw [show ((0:Int)).toNat=0 from rfl] at hx168_0)
           (try rw [show 0*5=0 from rfl] at hx168_0)
           (try rw [Addr.add_zero'] at hx168_0)
           (try rw [show ((0:Int)).toNat=0 from rfl] at hx168_1)
           (try rw [show 0*5=0 from rfl] at hx168_1)
           (try rw [Addr.add_zero'] at hx168_1)
           (try rw [show ((0:Int)).toNat=0 from rfl] at hx168_2)
           (try rw [show 0*5=0 from rfl] at hx168_2)
           (try rw [Addr.add_zero'] at hx168_2)
           (try rw [show ((0:Int)).toNat=0 from rfl] at hx168_3)
           (try rw [show 0*5=0 from rfl] at hx168_3)
           (try rw [Addr.add_zero'] at hx168_3)
           (try rw [show ((0:Int)).toNat=0 from rfl] at hx168_4)
           (try rw [show 0*5=0 from rfl] at hx168_4)
           (try rw [Addr.add_zero'] at hx168_4)
           have HR168_3:=Aside0.mk hi168_3
           have HC168_3:=Aside0.mk hl168_3
           clear hi168_3 hl168_3
           replace p168:=eq_true p168
           replace q168:=eq_true q168
           go_enter Tryz.func40,Tryz.ntmps40
           go_wp2_with (first | (go_at_call 66;(with_reducible refine (context_plain.calls ((rd_T46 l0 0).f0) ((rd_T46 l0 0).f1) ((rd_T46 l0 0).f2) _ _ ((rd_T46 l0 0).f3) ((rd_T46 l0 0).f4) 1 (⟨#[97]⟩:ByteArray) 1 true _ ?side1 ?side2 A4.out).mono ?_);(case side1=>repeat (first|exact HR168_3.out | (with_reducible refine Kd.C_alloc ?_ _) | (with_reducible refine Kd.C_drewN ?_ _) | (with_reducible refine Kd.C_drew ?_)));(case side2=>exact HC168_3.out);rintro e w9 ⟨rfl,hb⟩;have n0_:=Aside0.mk (below_step (by repeat (first | (with_reducible first|exact HB.out|apply below_alloc|apply pw_below_drewN|apply below_drew1)|exact HB.out)) hb);clear HB;have HB:=n0_;clear n0_;(try clear hb);(try clear hb2);(try clear hk);(try clear hi);have p170:0≤(0:Int):=(by omega);have q170:0<(l0.length:Int):=of_decide_eq_true (by first | (with_reducible assumption)|assumption);obtain ⟨ad170,A170_3,c170_3,e170,hx170_0,hx170_1,hx170_2,hx170_3,hx170_4,hl170_3,hi170_3⟩:=at_T46 HR0.out 0 p170 q170;obtain rfl:ad168=ad170:=(by injection e170);have qi170:(0<l0.length)=True:=eq_true (by omega);(try rw [show ((0:Int)).toNat=0 from rfl] at hx170_0);(try rw [show 0*5=0 from rfl] at hx170_0);(try rw [Addr.add_zero'] at hx170_0);(try rw [show ((0:Int)).toNat=0 from rfl] at hx170_1);(try rw [show 0*5=0 from rfl] at hx170_1);(try rw [Addr.add_zero'] at hx170_1);(try rw [show ((0:Int)).toNat=0 from rfl] at hx170_2);(try rw [show 0*5=0 from rfl] at hx170_2);(try rw [Addr.add_zero'] at hx170_2);(try rw [show ((0:Int)).toNat=0 from rfl] at hx170_3);(try rw [show 0*5=0 from rfl] at hx170_3);(try rw [Addr.add_zero'] at hx170_3);(try rw [show ((0:Int)).toNat=0 from rfl] at hx170_4);(try rw [show 0*5=0 from rfl] at hx170_4);(try rw [Addr.add_zero'] at hx170_4);replace hx170_0:=(HB.out.cell (World.block_lt_of_cell? w _ hx170_0)).trans hx170_0;replace hx170_1:=(HB.out.cell (World.block_lt_of_cell? w _ hx170_1)).trans hx170_1;replace hx170_2:=(HB.out.cell (World.block_lt_of_cell? w _ hx170_2)).trans hx170_2;replace hx170_3:=(HB.out.cell (World.block_lt_of_cell? w _ hx170_3)).trans hx170_3;replace hx170_4:=(HB.out.cell (World.block_lt_of_cell? w _ hx170_4)).trans hx170_4;have HR170_3:=Aside0.mk hi170_3;have HC170_3:=Aside0.mk hl170_3;clear hi170_3 hl170_3;replace p170:=eq_true p170;replace q170:=eq_true q170;have p171:0≤(0:Int):=(by omega);have q171:0<(((rd_T46 l0 0).f3).length:Int):=of_decide_eq_true (by first | (with_reducible assumption)|assumption);obtain ⟨ad171,e171,hx171_0,hx171_1⟩:=at_T87 HR170_3.out 0 p171 q171;cases e171;have qi171:(0<((rd_T46 l0 0).f3).length)=True:=eq_true (by omega);(try rw [show ((0:Int)).toNat=0 from rfl] at hx171_0);(try rw [show 0*2=0 from rfl] at hx171_0);(try rw [Addr.add_zero'] at hx171_0);(try rw [show ((0:Int)).toNat=0 from rfl] at hx171_1);(try rw [show 0*2=0 from rfl] at hx171_1);(try rw [Addr.add_zero'] at hx171_1);replace hx171_0:=(HB.out.cell (World.block_lt_of_cell? w _ hx171_0)).trans hx171_0;replace hx171_1:=(HB.out.cell (World.block_lt_of_cell? w _ hx171_1)).trans hx171_1;replace p171:=eq_true p171;replace q171:=eq_true q171))
           go_ret2
           exact ⟨by first|rfl | (simp [errW_none,errW_some]<;>rfl) | (simp [*,errW_none,errW_some]<;>rfl),by repeat (first | (with_reducible first|exact HB.out|apply below_alloc|apply pw_below_drewN|apply below_drew1)|exact HB.out)⟩
       · rw [if_neg c6] at H
         exact absurd H (by simp)
     · replace c5:=Bool.eq_false_iff.mpr c5
       subst c5
       have H1:(some ((⟨#[]⟩:ByteArray),false))=some (r1,r2):=by rw [if_neg (show ¬ (false=true) by decide)] at H;exact H
       clear H
       have H:=H1
       clear H1
       simp only [Option.some.injEq,Prod.mk.injEq] at H
       obtain ⟨rfl,rfl⟩:=H
       have p168:0≤(0:Int):=(by omega)
       have q168:0<(l0.length:Int):=of_decide_eq_true (by first | (with_reducible assumption)|assumption)
       obtain ⟨ad168,A168_3,c168_3,e168,hx168_0,hx168_1,hx168_2,hx168_3,hx168_4,hl168_3,hi168_3⟩:=at_T46 HR0.out 0 p168 q168
       cases e168
       have qi168:(0<l0.length)=True:=eq_true (by omega)
       (try rw [show ((0:Int)).toNat=0 from rfl] at hx168_0)
       (try rw [show 0*5=0 from rfl] at hx168_0)
       (try rw [Addr.add_zero'] at hx168_0)
       (try rw [show ((0:Int)).toNat=0 from rfl] at hx168_1)
       (try rw [show 0*5=0 from rfl] at hx168_1)
       (try rw [Addr.add_zero'] at hx168_1)
       (try rw [show ((0:Int)).toNat=0 from rfl] at hx168_2)
       (try rw [show 0*5=0 from rfl] at hx168_2)
       (try rw [Addr.add_zero'] at hx168_2)
       (try rw [show ((0:Int)).toNat=0 from rfl] at hx168_3)
       (try rw [show 0*5=0 from rfl] at hx168_3)
       (try rw [Addr.add_zero'] at hx168_3)
       (try rw [show ((0:Int)).toNat=0 from rfl] at hx168_4)
       (try rw [show 0*5=0 from rfl] at hx168_4)
       (try rw [Addr.add_zero'] at hx168_4)
       have HR168_3:=Aside0.mk hi168_3
       have HC168_3:=Aside0.mk hl168_3
       clear hi168_3 hl168_3
       replace p168:=eq_true p168
       replace q168:=eq_true q168
       go_enter Tryz.func40,Tryz.ntmps40
       go_wp2_with (first | (go_at_call 66;(with_reducible refine (context_plain.calls ((rd_T46 l0 0).f0) ((rd_T46 l0 0).f1) ((rd_T46 l0 0).f2) _ _ ((rd_T46 l0 0).f3) ((rd_T46 l0 0).f4) 1 (⟨#[97]⟩:ByteArray) 1 false _ ?side1 ?side2 A4.out).mono ?_);(case side1=>repeat (first|exact HR168_3.out | (with_reducible refine Kd.C_alloc ?_ _) | (with_reducible refine Kd.C_drewN ?_ _) | (with_reducible refine Kd.C_drew ?_)));(case side2=>exact HC168_3.out);rintro e w10 ⟨rfl,hb⟩;have n0_:=Aside0.mk (below_step (by repeat (first | (with_reducible first|exact HB.out|apply below_alloc|apply pw_below_drewN|apply below_drew1)|exact HB.out)) hb);clear HB;have HB:=n0_;clear n0_;(try clear hb);(try clear hb2);(try clear hk);(try clear hi)))
       go_ret2
       exact ⟨by first|rfl | (simp [errW_none,errW_some]<;>rfl) | (simp [*,errW_none,errW_some]<;>rfl),by repeat (first | (with_reducible first|exact HB.out|apply below_alloc|apply pw_below_drewN|apply below_drew1)|exact HB.out)⟩
   · rw [if_neg c3] at H
     exact absurd H (by simp)
 · rw [if_neg c2] at H
   have c2b0:((l0.length:Int) == 1)=false:=beq_eq_false_iff_ne.mpr c2
   have c2b1:((l0.length:Int) != 1)=true:=bne_iff_ne.mpr c2
   simp only [Option.some.injEq,Prod.mk.injEq] at H
   obtain ⟨rfl,rfl⟩:=H
   go_enter Tryz.func40,Tryz.ntmps40
   go_wp2
   go_ret2
   exact ⟨by first|rfl | (simp [errW_none,errW_some]<;>rfl) | (simp [*,errW_none,errW_some]<;>rfl),by repeat (first | (with_reducible first|exact HB.out|apply below_alloc|apply pw_below_drewN|apply below_drew1)|exact HB.out)⟩
noncomputable def stringslite_HasPrefix.f (a0:ByteArray) (a1:ByteArray):Option (Bool):=if (a0.size:Int)≥(a1.size:Int) then (if 0≤(a1.size:Int) then (if (a1.size:Int)≤(a0.size:Int) then (some ((a0.extract 0 ((a1.size:Int):Int).toNat).toList == a1.toList)) else (none)) else (none)) else (some false)
set_option maxHeartbeats 8000000 in
set_option maxRecDepth 100000 in
theorem stringslite_HasPrefix.calls (a0:ByteArray) (a1:ByteArray) (r:Bool) (w:World) (h:stringslite_HasPrefix.f a0 a1=some r) :
  Calls Tryz.prog 65 #[.string a0,.string a1] w fun e w'=>e = .returned (.bool r)∧Drawn0 w w':=by
 have H:(if (a0.size:Int)≥(a1.size:Int) then (if 0≤(a1.size:Int) then (if (a1.size:Int)≤(a0.size:Int) then (some ((a0.extract 0 ((a1.size:Int):Int).toNat).toList == a1.toList)) else (none)) else (none)) else (some false))=some r:=h
 clear h
 by_cases c3:(a0.size:Int)≥(a1.size:Int)
 · rw [if_pos c3] at H
   have c3b0:decide ((a1.size:Int)≤(a0.size:Int))=true:=decide_eq_true c3
   have c3b1:decide (a1.size≤a0.size)=true:=decide_eq_true (Int.ofNat_le.mp c3)
   clear c3
   by_cases c4:0≤(a1.size:Int)
   · rw [if_pos c4] at H
     have c4b0:=eq_true c4
     have c4b1:decide (0≤(a1.size:Int))=true:=decide_eq_true c4
     clear c4
     by_cases c5:(a1.size:Int)≤(a0.size:Int)
     · rw [if_pos c5] at H
       have c5b0:=eq_true c5
       have c5b1:decide ((a1.size:Int)≤(a0.size:Int))=true:=decide_eq_true c5
       clear c5
       obtain rfl:=Option.some.inj H
       go_enter Tryz.func65,Tryz.ntmps65
       go_wp2
       go_ret
       exact ⟨by first|rfl | (simp;done) | (simp [*];done),by repeat (first|exact Drawn0.refl _|apply Drawn0.step)⟩
     · rw [if_neg c5] at H
       exact absurd H (by simp)
   · rw [if_neg c4] at H
     exact absurd H (by simp)
 · rw [if_neg c3] at H
   have c3b0:decide ((a1.size:Int)≤(a0.size:Int))=false:=decide_eq_false c3
   have c3b1:decide (a1.size≤a0.size)=false:=decide_eq_false (fun h=>c3 (Int.ofNat_le.mpr h))
   clear c3
   obtain rfl:=Option.some.inj H
   go_enter Tryz.func65,Tryz.ntmps65
   go_wp2
   go_ret
   exact ⟨by first|rfl | (simp;done) | (simp [*];done),by repeat (first|exact Drawn0.refl _|apply Drawn0.step)⟩
noncomputable def stringslite_TrimPrefix.f (a0:ByteArray) (a1:ByteArray):Option (ByteArray):=(stringslite_HasPrefix.f a0 a1).bind fun t174=>(if t174=true then (if 0≤(a1.size:Int) then (if (a1.size:Int)≤(a0.size:Int) then (some (a0.extract ((a1.size:Int):Int).toNat a0.size)) else (none)) else (none)) else (some a0))
set_option maxHeartbeats 8000000 in
set_option maxRecDepth 100000 in
theorem stringslite_TrimPrefix.calls (a0:ByteArray) (a1:ByteArray) (r:ByteArray) (w:World) (h:stringslite_TrimPrefix.f a0 a1=some r) :
  Calls Tryz.prog 67 #[.string a0,.string a1] w fun e w'=>e = .returned (.string r)∧Drawn0 w w':=by
 have H:((stringslite_HasPrefix.f a0 a1).bind fun t174=>(if t174=true then (if 0≤(a1.size:Int) then (if (a1.size:Int)≤(a0.size:Int) then (some (a0.extract ((a1.size:Int):Int).toNat a0.size)) else (none)) else (none)) else (some a0)))=some r:=h
 clear h
 replace H:=Option.bind_eq_some_iff.mp H
 obtain ⟨t174,A30,H⟩:=H
 replace H:(if t174=true then (if 0≤(a1.size:Int) then (if (a1.size:Int)≤(a0.size:Int) then (some (a0.extract ((a1.size:Int):Int).toNat a0.size)) else (none)) else (none)) else (some a0))=some r:=H
 have A3:=Aside0.mk A30
 clear A30
 by_cases c4:t174=true
 · subst c4
   have H1:(if 0≤(a1.size:Int) then (if (a1.size:Int)≤(a0.size:Int) then (some (a0.extract ((a1.size:Int):Int).toNat a0.size)) else (none)) else (none))=some r:=by rw [if_pos rfl] at H;exact H
   clear H
   have H:=H1
   clear H1
   by_cases c5:0≤(a1.size:Int)
   · rw [if_pos c5] at H
     have c5b0:=eq_true c5
     have c5b1:decide (0≤(a1.size:Int))=true:=decide_eq_true c5
     clear c5
     by_cases c6:(a1.size:Int)≤(a0.size:Int)
     · rw [if_pos c6] at H
       have c6b0:=eq_true c6
       have c6b1:decide ((a1.size:Int)≤(a0.size:Int))=true:=decide_eq_true c6
       clear c6
       obtain rfl:=Option.some.inj H
       go_enter Tryz.func67,Tryz.ntmps67
       go_wp2_with (first | ((with_reducible refine gate_callee (f:=65) rfl ?_);refine goesL_ (some 7) rfl rfl Tryz.func65 (by kernel_rfl) rfl #[.string a0,.string a1] rfl (by (try simp only [List.map_toArray,List.map_cons,List.map_nil]);first|done|rfl | (simp only [List.length_drop,List.length_take];rfl)) ?_;(with_reducible refine (stringslite_HasPrefix.calls a0 a1 true _ A3.out).mono ?_);rintro e w' ⟨rfl,⟨nd,rfl⟩⟩;refine ⟨_,rfl,?_⟩))
       go_ret
       exact ⟨by first|rfl | (simp;done) | (simp [*];done),by repeat (first|exact Drawn0.refl _|apply Drawn0.step)⟩
     · rw [if_neg c6] at H
       exact absurd H (by simp)
   · rw [if_neg c5] at H
     exact absurd H (by simp)
 · replace c4:=Bool.eq_false_iff.mpr c4
   subst c4
   have H1:(some a0)=some r:=by rw [if_neg (show ¬ (false=true) by decide)] at H;exact H
   clear H
   have H:=H1
   clear H1
   obtain rfl:=Option.some.inj H
   go_enter Tryz.func67,Tryz.ntmps67
   go_wp2_with (first | ((with_reducible refine gate_callee (f:=65) rfl ?_);refine goesL_ (some 7) rfl rfl Tryz.func65 (by kernel_rfl) rfl #[.string a0,.string a1] rfl (by (try simp only [List.map_toArray,List.map_cons,List.map_nil]);first|done|rfl | (simp only [List.length_drop,List.length_take];rfl)) ?_;(with_reducible refine (stringslite_HasPrefix.calls a0 a1 false _ A3.out).mono ?_);rintro e w' ⟨rfl,⟨nd,rfl⟩⟩;refine ⟨_,rfl,?_⟩))
   go_ret
   exact ⟨by first|rfl | (simp;done) | (simp [*];done),by repeat (first|exact Drawn0.refl _|apply Drawn0.step)⟩
noncomputable def strings_TrimPrefix.f (a0:ByteArray) (a1:ByteArray):Option (ByteArray):=(stringslite_TrimPrefix.f a0 a1).bind fun t175=>(some t175)
set_option maxHeartbeats 8000000 in
set_option maxRecDepth 100000 in
theorem strings_TrimPrefix.calls (a0:ByteArray) (a1:ByteArray) (r:ByteArray) (w:World) (h:strings_TrimPrefix.f a0 a1=some r) :
  Calls Tryz.prog 42 #[.string a0,.string a1] w fun e w'=>e = .returned (.string r)∧Drawn0 w w':=by
 have H:((stringslite_TrimPrefix.f a0 a1).bind fun t175=>(some t175))=some r:=h
 clear h
 replace H:=Option.bind_eq_some_iff.mp H
 obtain ⟨t175,A30,H⟩:=H
 replace H:(some t175)=some r:=H
 have A3:=Aside0.mk A30
 clear A30
 obtain rfl:=Option.some.inj H
 go_enter Tryz.func42,Tryz.ntmps42
 go_wp2_with (first | ((with_reducible refine gate_callee (f:=67) rfl ?_);refine goesL_ (some 7) rfl rfl Tryz.func67 (by kernel_rfl) rfl #[.string a0,.string a1] rfl (by (try simp only [List.map_toArray,List.map_cons,List.map_nil]);first|done|rfl | (simp only [List.length_drop,List.length_take];rfl)) ?_;(with_reducible refine (stringslite_TrimPrefix.calls a0 a1 t175 _ A3.out).mono ?_);rintro e w' ⟨rfl,⟨nd,rfl⟩⟩;refine ⟨_,rfl,?_⟩))
 go_ret
 exact ⟨by first|rfl | (simp;done) | (simp [*];done),by repeat (first|exact Drawn0.refl _|apply Drawn0.step)⟩
noncomputable def context_within.j0:Nat→List (S46)→Int→Bool→Option (ByteArray×Bool)
 | 0,_,_,_=>none
 | k+1,x0,x4,x24=>if x24=true then (some ((⟨#[]⟩:ByteArray),false)) else (if 1≤x4 then (if x4≤(x0.length:Int) then ((context_only.f ((x0.take (x4:Int).toNat).drop 1)).bind fun bt184=>((strings_TrimPrefix.f bt184.1 (⟨#[10]⟩:ByteArray)).bind fun t186=>(some (t186,bt184.2)))) else (none)) else (none))
noncomputable def context_within.f (k:Nat) (l0:List (S46)):Option (ByteArray×Bool):=if (wrap64 ((l0.length:Int) - 1))<1 then (context_within.j0 k l0 (wrap64 ((l0.length:Int) - 1)) true) else (if 0<(l0.length:Int) then ((context_plain.f ((rd_T46 l0 0).f0) ((rd_T46 l0 0).f1) ((rd_T46 l0 0).f2) ((rd_T46 l0 0).f3) ((rd_T46 l0 0).f4) 1 (⟨#[116,101,120,116,97,114,101,97]⟩:ByteArray) 0).bind fun t177=>(if t177=true then (if 0≤(wrap64 ((l0.length:Int) - 1)) then (if (wrap64 ((l0.length:Int) - 1))<(l0.length:Int) then ((context_plain.f ((rd_T46 l0 (wrap64 ((l0.length:Int) - 1))).f0) ((rd_T46 l0 (wrap64 ((l0.length:Int) - 1))).f1) ((rd_T46 l0 (wrap64 ((l0.length:Int) - 1))).f2) ((rd_T46 l0 (wrap64 ((l0.length:Int) - 1))).f3) ((rd_T46 l0 (wrap64 ((l0.length:Int) - 1))).f4) 2 (⟨#[116,101,120,116,97,114,101,97]⟩:ByteArray) 0).bind fun t179=>(context_within.j0 k l0 (wrap64 ((l0.length:Int) - 1)) (!t179))) else (none)) else (none)) else (context_within.j0 k l0 (wrap64 ((l0.length:Int) - 1)) true))) else (none))
set_option maxHeartbeats 8000000 in
set_option maxRecDepth 100000 in
theorem context_within.calls (k:Nat) (A0:Option Addr) (c0:Nat) (l0:List (S46)) (r1:ByteArray) (r2:Bool) (w:World) (hr0:Kd.C k46 w A0 l0.length l0) (hc0:l0.length≤c0) (h:context_within.f k l0=some (r1,r2)) :
  Calls Tryz.prog 41 #[.slice A0 l0.length c0] w fun e w'=>e = .returned (.tuple #[.string r1,.bool r2])∧Below w.heap.size w w':=by
 have hu46:=Tryz.underlying46
 have HR0:=Aside0.mk hr0
 have HC0:=Aside0.mk hc0
 clear hr0 hc0
 have HB:=Aside0.mk (Below.refl w.heap.size w)
 have H:(if (wrap64 ((l0.length:Int) - 1))<1 then (context_within.j0 k l0 (wrap64 ((l0.length:Int) - 1)) true) else (if 0<(l0.length:Int) then ((context_plain.f ((rd_T46 l0 0).f0) ((rd_T46 l0 0).f1) ((rd_T46 l0 0).f2) ((rd_T46 l0 0).f3) ((rd_T46 l0 0).f4) 1 (⟨#[116,101,120,116,97,114,101,97]⟩:ByteArray) 0).bind fun t177=>(if t177=true then (if 0≤(wrap64 ((l0.length:Int) - 1)) then (if (wrap64 ((l0.length:Int) - 1))<(l0.length:Int) then ((context_plain.f ((rd_T46 l0 (wrap64 ((l0.length:Int) - 1))).f0) ((rd_T46 l0 (wrap64 ((l0.length:Int) - 1))).f1) ((rd_T46 l0 (wrap64 ((l0.length:Int) - 1))).f2) ((rd_T46 l0 (wrap64 ((l0.length:Int) - 1))).f3) ((rd_T46 l0 (wrap64 ((l0.length:Int) - 1))).f4) 2 (⟨#[116,101,120,116,97,114,101,97]⟩:ByteArray) 0).bind fun t179=>(context_within.j0 k l0 (wrap64 ((l0.length:Int) - 1)) (!t179))) else (none)) else (none)) else (context_within.j0 k l0 (wrap64 ((l0.length:Int) - 1)) true))) else (none)))=some (r1,r2):=h
 clear h
 have HC2:=Aside0.mk H
 clear H
 go_enter Tryz.func41,Tryz.ntmps41
 go_upto_region 2 with (fail)
 go_cut [24] (fun v24 wc => ∃ (kq:Nat) (x24_1:Bool),v24 = .bool x24_1∧Aside0 (context_within.j0 kq l0 (wrap64 ((l0.length:Int) - 1)) x24_1=some (r1,r2))∧Aside0 (kq≤k)∧Aside0 (Below w.heap.size w wc))
 case first =>
  have H:=HC2.out
  clear HC2
  by_cases c3:(wrap64 ((l0.length:Int) - 1))<1
  · rw [if_pos c3] at H
    have c3b0:decide ((wrap64 ((l0.length:Int) - 1))<1)=true:=decide_eq_true c3
    clear c3
    (first|rw [c3b0] | (simp only [i64_w,i32_w];rw [c3b0])|skip)
    have H':=Aside0.mk H
    clear H
    go_wp2
    go_meet
    case rel=>exact ⟨_,(true),(by first|rfl | (simp;done) | (simp [*];done)),H',⟨by first|omega|exact Nat.le_refl _⟩,⟨by repeat (first | (with_reducible first|exact HB.out|apply below_alloc|apply pw_below_drewN|apply below_drew1)|exact HB.out)⟩⟩
  · rw [if_neg c3] at H
    have c3b0:decide ((wrap64 ((l0.length:Int) - 1))<1)=false:=decide_eq_false c3
    clear c3
    (first|rw [c3b0] | (simp only [i64_w,i32_w];rw [c3b0])|skip)
    by_cases c4:0<(l0.length:Int)
    · rw [if_pos c4] at H
      have c4b0:decide (0<(l0.length:Int))=true:=decide_eq_true c4
      have c4b1:decide (0<l0.length)=true:=decide_eq_true (by omega)
      clear c4
      replace H:=Option.bind_eq_some_iff.mp H
      obtain ⟨t177,A50,H⟩:=H
      replace H:(if t177=true then (if 0≤(wrap64 ((l0.length:Int) - 1)) then (if (wrap64 ((l0.length:Int) - 1))<(l0.length:Int) then ((context_plain.f ((rd_T46 l0 (wrap64 ((l0.length:Int) - 1))).f0) ((rd_T46 l0 (wrap64 ((l0.length:Int) - 1))).f1) ((rd_T46 l0 (wrap64 ((l0.length:Int) - 1))).f2) ((rd_T46 l0 (wrap64 ((l0.length:Int) - 1))).f3) ((rd_T46 l0 (wrap64 ((l0.length:Int) - 1))).f4) 2 (⟨#[116,101,120,116,97,114,101,97]⟩:ByteArray) 0).bind fun t179=>(context_within.j0 k l0 (wrap64 ((l0.length:Int) - 1)) (!t179))) else (none)) else (none)) else (context_within.j0 k l0 (wrap64 ((l0.length:Int) - 1)) true))=some (r1,r2):=H
      have A5:=Aside0.mk A50
      clear A50
      by_cases c6:t177=true
      · subst c6
        have H1:(if 0≤(wrap64 ((l0.length:Int) - 1)) then (if (wrap64 ((l0.length:Int) - 1))<(l0.length:Int) then ((context_plain.f ((rd_T46 l0 (wrap64 ((l0.length:Int) - 1))).f0) ((rd_T46 l0 (wrap64 ((l0.length:Int) - 1))).f1) ((rd_T46 l0 (wrap64 ((l0.length:Int) - 1))).f2) ((rd_T46 l0 (wrap64 ((l0.length:Int) - 1))).f3) ((rd_T46 l0 (wrap64 ((l0.length:Int) - 1))).f4) 2 (⟨#[116,101,120,116,97,114,101,97]⟩:ByteArray) 0).bind fun t179=>(context_within.j0 k l0 (wrap64 ((l0.length:Int) - 1)) (!t179))) else (none)) else (none))=some (r1,r2):=by rw [if_pos rfl] at H;exact H
        clear H
        have H:=H1
        clear H1
        obtain ⟨ji7,hji7⟩:∃ j_:Int,(wrap64 ((l0.length:Int) - 1))=j_:=⟨_,rfl⟩
        replace H:(if 0≤(ji7) then (if (ji7)<(l0.length:Int) then ((context_plain.f ((rd_T46 l0 (ji7)).f0) ((rd_T46 l0 (ji7)).f1) ((rd_T46 l0 (ji7)).f2) ((rd_T46 l0 (ji7)).f3) ((rd_T46 l0 (ji7)).f4) 2 (⟨#[116,101,120,116,97,114,101,97]⟩:ByteArray) 0).bind fun t179=>(context_within.j0 k l0 ji7 (!t179))) else (none)) else (none))=some (r1,r2):=by first | (rw [hji7] at H;exact H) | (simp only [hji7] at H ⊢;exact H)
        (try rw [hji7] at c3b0)
        (try rw [hji7] at A5)
        have hji7w:(IntKind.i64.wrap ((l0.length:Int) - 1))=ji7:=(i64_w _).trans hji7
        by_cases c8:0≤(ji7)
        · rw [if_pos c8] at H
          have c8b0:decide (0≤(ji7))=true:=decide_eq_true c8
          clear c8
          by_cases c9:(ji7)<(l0.length:Int)
          · rw [if_pos c9] at H
            have c9b0:decide ((ji7)<(l0.length:Int))=true:=decide_eq_true c9
            clear c9
            replace H:=Option.bind_eq_some_iff.mp H
            obtain ⟨t179,A100,H⟩:=H
            replace H:(context_within.j0 k l0 ji7 (!t179))=some (r1,r2):=H
            have A10:=Aside0.mk A100
            clear A100
            have H':=Aside0.mk H
            clear H
            have p176:0≤(0:Int):=(by omega)
            have q176:0<(l0.length:Int):=of_decide_eq_true (by first | (with_reducible assumption)|assumption)
            obtain ⟨ad176,A176_3,c176_3,e176,hx176_0,hx176_1,hx176_2,hx176_3,hx176_4,hl176_3,hi176_3⟩:=at_T46 HR0.out 0 p176 q176
            cases e176
            have qi176:(0<l0.length)=True:=eq_true (by omega)
            (try rw [show ((0:Int)).toNat=0 from rfl] at hx176_0)
            (try rw [show 0*5=0 from rfl] at hx176_0)
            (try rw [Addr.add_zero'] at hx176_0)
            (try rw [show ((0:Int)).toNat=0 from rfl] at hx176_1)
            (try rw [show 0*5=0 from rfl] at hx176_1)
            (try rw [Addr.add_zero'] at hx176_1)
            (try rw [show ((0:Int)).toNat=0 from rfl] at hx176_2)
            (try rw [show 0*5=0 from rfl] at hx176_2)
            (try rw [Addr.add_zero'] at hx176_2)
            (try rw [show ((0:Int)).toNat=0 from rfl] at hx176_3)
            (try rw [show 0*5=0 from rfl] at hx176_3)
            (try rw [Addr.add_zero'] at hx176_3)
            (try rw [show ((0:Int)).toNat=0 from rfl] at hx176_4)
            (try rw [show 0*5=0 from rfl] at hx176_4)
            (try rw [Addr.add_zero'] at hx176_4)
            replace hx176_0:=(HB.out.cell (World.block_lt_of_cell? w _ hx176_0)).trans hx176_0
            replace hx176_1:=(HB.out.cell (World.block_lt_of_cell? w _ hx176_1)).trans hx176_1
            replace hx176_2:=(HB.out.cell (World.block_lt_of_cell? w _ hx176_2)).trans hx176_2
            replace hx176_3:=(HB.out.cell (World.block_lt_of_cell? w _ hx176_3)).trans hx176_3
            replace hx176_4:=(HB.out.cell (World.block_lt_of_cell? w _ hx176_4)).trans hx176_4
            have HR176_3:=Aside0.mk hi176_3
            have HC176_3:=Aside0.mk hl176_3
            clear hi176_3 hl176_3
            replace p176:=eq_true p176
            replace q176:=eq_true q176
            go_wp2_with (first | (go_at_call 66;(with_reducible refine (context_plain.calls ((rd_T46 l0 0).f0) ((rd_T46 l0 0).f1) ((rd_T46 l0 0).f2) _ _ ((rd_T46 l0 0).f3) ((rd_T46 l0 0).f4) 1 (⟨#[116,101,120,116,97,114,101,97]⟩:ByteArray) 0 true _ ?side1 ?side2 A5.out).mono ?_);(case side1=>repeat (first|exact (Kd.C_below HR176_3.out HB.out) | (with_reducible refine Kd.C_alloc ?_ _) | (with_reducible refine Kd.C_drewN ?_ _) | (with_reducible refine Kd.C_drew ?_)));(case side2=>exact HC176_3.out);rintro e w11 ⟨rfl,hb⟩;have n0_:=Aside0.mk (below_step (by repeat (first | (with_reducible first|exact HB.out|apply below_alloc|apply pw_below_drewN|apply below_drew1)|exact HB.out)) hb);clear HB;have HB:=n0_;clear n0_;(try clear hb);(try clear hb2);(try clear hk);(try clear hi);have p178:0≤((ji7):Int):=of_decide_eq_true (by first | (with_reducible assumption)|assumption);have q178:(ji7)<(l0.length:Int):=of_decide_eq_true (by first | (with_reducible assumption)|assumption);obtain ⟨ad178,A178_3,c178_3,e178,hx178_0,hx178_1,hx178_2,hx178_3,hx178_4,hl178_3,hi178_3⟩:=at_T46 HR0.out (ji7) p178 q178;obtain rfl:ad176=ad178:=(by injection e178);replace hx178_0:=(HB.out.cell (World.block_lt_of_cell? w _ hx178_0)).trans hx178_0;replace hx178_1:=(HB.out.cell (World.block_lt_of_cell? w _ hx178_1)).trans hx178_1;replace hx178_2:=(HB.out.cell (World.block_lt_of_cell? w _ hx178_2)).trans hx178_2;replace hx178_3:=(HB.out.cell (World.block_lt_of_cell? w _ hx178_3)).trans hx178_3;replace hx178_4:=(HB.out.cell (World.block_lt_of_cell? w _ hx178_4)).trans hx178_4;have HR178_3:=Aside0.mk hi178_3;have HC178_3:=Aside0.mk hl178_3;clear hi178_3 hl178_3;replace p178:=eq_true p178;replace q178:=eq_true q178) | (go_at_call 66;(with_reducible refine (context_plain.calls ((rd_T46 l0 (ji7)).f0) ((rd_T46 l0 (ji7)).f1) ((rd_T46 l0 (ji7)).f2) _ _ ((rd_T46 l0 (ji7)).f3) ((rd_T46 l0 (ji7)).f4) 2 (⟨#[116,101,120,116,97,114,101,97]⟩:ByteArray) 0 t179 _ ?side1 ?side2 A10.out).mono ?_);(case side1=>repeat (first|exact (Kd.C_below HR178_3.out HB.out) | (with_reducible refine Kd.C_alloc ?_ _) | (with_reducible refine Kd.C_drewN ?_ _) | (with_reducible refine Kd.C_drew ?_)));(case side2=>exact HC178_3.out);rintro e w12 ⟨rfl,hb⟩;have n0_:=Aside0.mk (below_step (by repeat (first | (with_reducible first|exact HB.out|apply below_alloc|apply pw_below_drewN|apply below_drew1)|exact HB.out)) hb);clear HB;have HB:=n0_;clear n0_;(try clear hb);(try clear hb2);(try clear hk);(try clear hi)))
            subst hji7
            go_meet
            case rel=>exact ⟨_,(!t179),(by first|rfl | (simp;done) | (simp [*];done)),H',⟨by first|omega|exact Nat.le_refl _⟩,⟨by repeat (first | (with_reducible first|exact HB.out|apply below_alloc|apply pw_below_drewN|apply below_drew1)|exact HB.out)⟩⟩
          · rw [if_neg c9] at H
            exact absurd H (by simp)
        · rw [if_neg c8] at H
          exact absurd H (by simp)
      · replace c6:=Bool.eq_false_iff.mpr c6
        subst c6
        have H1:(context_within.j0 k l0 (wrap64 ((l0.length:Int) - 1)) true)=some (r1,r2):=by rw [if_neg (show ¬ (false=true) by decide)] at H;exact H
        clear H
        have H:=H1
        clear H1
        have H':=Aside0.mk H
        clear H
        have p176:0≤(0:Int):=(by omega)
        have q176:0<(l0.length:Int):=of_decide_eq_true (by first | (with_reducible assumption)|assumption)
        obtain ⟨ad176,A176_3,c176_3,e176,hx176_0,hx176_1,hx176_2,hx176_3,hx176_4,hl176_3,hi176_3⟩:=at_T46 HR0.out 0 p176 q176
        cases e176
        have qi176:(0<l0.length)=True:=eq_true (by omega)
        (try rw [show ((0:Int)).toNat=0 from rfl] at hx176_0)
        (try rw [show 0*5=0 from rfl] at hx176_0)
        (try rw [Addr.add_zero'] at hx176_0)
        (try rw [show ((0:Int)).toNat=0 from rfl] at hx176_1)
        (try rw [show 0*5=0 from rfl] at hx176_1)
        (try rw [Addr.add_zero'] at hx176_1)
        (try rw [show ((0:Int)).toNat=0 from rfl] at hx176_2)
        (try rw [show 0*5=0 from rfl] at hx176_2)
        (try rw [Addr.add_zero'] at hx176_2)
        (try rw [show ((0:Int)).toNat=0 from rfl] at hx176_3)
        (try rw [show 0*5=0 from rfl] at hx176_3)
        (try rw [Addr.add_zero'] at hx176_3)
        (try rw [show ((0:Int)).toNat=0 from rfl] at hx176_4)
        (try rw [show 0*5=0 from rfl] at hx176_4)
        (try rw [Addr.add_zero'] at hx176_4)
        replace hx176_0:=(HB.out.cell (World.block_lt_of_cell? w _ hx176_0)).trans hx176_0
        replace hx176_1:=(HB.out.cell (World.block_lt_of_cell? w _ hx176_1)).trans hx176_1
        replace hx176_2:=(HB.out.cell (World.block_lt_of_cell? w _ hx176_2)).trans hx176_2
        replace hx176_3:=(HB.out.cell (World.block_lt_of_cell? w _ hx176_3)).trans hx176_3
        replace hx176_4:=(HB.out.cell (World.block_lt_of_cell? w _ hx176_4)).trans hx176_4
        have HR176_3:=Aside0.mk hi176_3
        have HC176_3:=Aside0.mk hl176_3
        clear hi176_3 hl176_3
        replace p176:=eq_true p176
        replace q176:=eq_true q176
        go_wp2_with (first | (go_at_call 66;(with_reducible refine (context_plain.calls ((rd_T46 l0 0).f0) ((rd_T46 l0 0).f1) ((rd_T46 l0 0).f2) _ _ ((rd_T46 l0 0).f3) ((rd_T46 l0 0).f4) 1 (⟨#[116,101,120,116,97,114,101,97]⟩:ByteArray) 0 false _ ?side1 ?side2 A5.out).mono ?_);(case side1=>repeat (first|exact (Kd.C_below HR176_3.out HB.out) | (with_reducible refine Kd.C_alloc ?_ _) | (with_reducible refine Kd.C_drewN ?_ _) | (with_reducible refine Kd.C_drew ?_)));(case side2=>exact HC176_3.out);rintro e w13 ⟨rfl,hb⟩;have n0_:=Aside0.mk (below_step (by repeat (first | (with_reducible first|exact HB.out|apply below_alloc|apply pw_below_drewN|apply below_drew1)|exact HB.out)) hb);clear HB;have HB:=n0_;clear n0_;(try clear hb);(try clear hb2);(try clear hk);(try clear hi)))
        go_meet
        case rel=>exact ⟨_,(true),(by first|rfl | (simp;done) | (simp [*];done)),H',⟨by first|omega|exact Nat.le_refl _⟩,⟨by repeat (first | (with_reducible first|exact HB.out|apply below_alloc|apply pw_below_drewN|apply below_drew1)|exact HB.out)⟩⟩
    · rw [if_neg c4] at H
      exact absurd H (by simp)
 case rest =>
  clear HC2
  try clear c1
  try clear p1
  try clear q1
  try clear hx1
  try clear qi1
  try clear p2
  try clear c3
  try clear c3b0
  try clear c4
  try clear c4b0
  try clear c4b1
  try clear c6
  try clear p6
  try clear c8
  try clear c8b0
  try clear c9
  try clear c9b0
  try clear hx176_0
  try clear hx176_1
  try clear hx176_2
  try clear hx176_3
  try clear hx176_4
  try clear hx178_0
  try clear hx178_1
  try clear hx178_2
  try clear hx178_3
  try clear hx178_4
  try clear p176
  try clear p178
  try clear q176
  try clear q178
  obtain ⟨kq,x24_1,rfl,HA,HJ1,HB⟩:=hcut
  cases kq with
  | zero=>exact absurd HA.out (by simp [context_within.j0])
  | succ kj1 =>
    have H:=HA.out
    clear HA
    simp only [context_within.j0] at H
    by_cases c14:x24_1=true
    · subst c14
      have H1:(some ((⟨#[]⟩:ByteArray),false))=some (r1,r2):=by rw [if_pos rfl] at H;exact H
      clear H
      have H:=H1
      clear H1
      simp only [Option.some.injEq,Prod.mk.injEq] at H
      obtain ⟨rfl,rfl⟩:=H
      go_wp2
      go_ret2
      exact ⟨by first|rfl | (simp [errW_none,errW_some]<;>rfl) | (simp [*,errW_none,errW_some]<;>rfl),by repeat (first | (with_reducible first|exact HB.out|apply below_alloc|apply pw_below_drewN|apply below_drew1)|exact HB.out)⟩
    · replace c14:=Bool.eq_false_iff.mpr c14
      subst c14
      have H1:(if 1≤(wrap64 ((l0.length:Int) - 1)) then (if (wrap64 ((l0.length:Int) - 1))≤(l0.length:Int) then ((context_only.f ((l0.take ((wrap64 ((l0.length:Int) - 1)):Int).toNat).drop 1)).bind fun bt184=>((strings_TrimPrefix.f bt184.1 (⟨#[10]⟩:ByteArray)).bind fun t186=>(some (t186,bt184.2)))) else (none)) else (none))=some (r1,r2):=by rw [if_neg (show ¬ (false=true) by decide)] at H;exact H
      clear H
      have H:=H1
      clear H1
      by_cases c15:1≤(wrap64 ((l0.length:Int) - 1))
      · rw [if_pos c15] at H
        have c15b0:=eq_true c15
        have c15b1:decide (1≤(wrap64 ((l0.length:Int) - 1)))=true:=decide_eq_true c15
        clear c15
        by_cases c16:(wrap64 ((l0.length:Int) - 1))≤(l0.length:Int)
        · rw [if_pos c16] at H
          have c16b0:=eq_true c16
          have c16b1:decide ((wrap64 ((l0.length:Int) - 1))≤(l0.length:Int))=true:=decide_eq_true c16
          clear c16
          obtain ⟨y180,hy180⟩:∃ y_:List (S46),y_=((l0.take ((wrap64 ((l0.length:Int) - 1)):Int).toNat).drop 1):=⟨_,rfl⟩
          replace H:((context_only.f y180).bind fun bt184=>((strings_TrimPrefix.f bt184.1 (⟨#[10]⟩:ByteArray)).bind fun t186=>(some (t186,bt184.2))))=some (r1,r2):=by first | (rw [hy180];with_reducible exact H) | (have H2_:=(Option.bind_some _ _).symm.trans H;rw [hy180];with_reducible exact H2_) | (have H2_:=(Option.bind_some _ _).symm.trans H;with_reducible exact H2_)|with_reducible exact H | (rw [hy180];exact H)|exact H
          have Ny180:=Aside0.mk hy180
          clear hy180
          replace H:=Option.bind_eq_some_iff.mp H
          obtain ⟨⟨t184,t185⟩,A170,H⟩:=H
          replace H:((strings_TrimPrefix.f t184 (⟨#[10]⟩:ByteArray)).bind fun t186=>(some (t186,t185)))=some (r1,r2):=H
          have A17:=Aside0.mk A170
          clear A170
          replace H:=Option.bind_eq_some_iff.mp H
          obtain ⟨t186,A180,H⟩:=H
          replace H:(some (t186,t185))=some (r1,r2):=H
          have A18:=Aside0.mk A180
          clear A180
          simp only [Option.some.injEq,Prod.mk.injEq] at H
          obtain ⟨rfl,rfl⟩:=H
          have q19:((wrap64 ((l0.length:Int) - 1)):Int)≤((l0.length:Int):Int):=of_decide_eq_true (by first | (with_reducible assumption)|assumption)
          obtain ⟨i019,hi019,_,hsz19,_⟩:=info_parts info46
          have hroom19:l0.length≤c0:=HC0.out
          have hC19:Kd.C k46 _ A0 l0.length l0:=HR0.out
          have ql19:(1:Int)≤((wrap64 ((l0.length:Int) - 1)):Int):=of_decide_eq_true (by first | (with_reducible assumption)|assumption)
          have hcut19:=cut_mid (P:=Tryz.prog) 42 46 .i64 .i64 Tryz.underlying42 hi019 5 hsz19 A0 l0.length c0 1 (wrap64 ((l0.length:Int) - 1)) (by omega) ql19 q19 hroom19
          have hr19:=Kd.C_mid (lo:=(1:Int).toNat) (hi:=((wrap64 ((l0.length:Int) - 1)):Int).toNat) (c:=c0) hC19 (by omega) (by omega) hroom19
          obtain ⟨A19,hA19⟩:∃ A1,A1=(if c0=(1:Int).toNat then A0 else (A0:Option Addr).map (·.add ((1:Int).toNat*5))):=⟨_,rfl⟩
          obtain ⟨c19,hc19⟩:∃ c1,c1=c0 - (1:Int).toNat:=⟨_,rfl⟩
          have hy19:y180.length=((wrap64 ((l0.length:Int) - 1)):Int).toNat - (1:Int).toNat:=(by rw [Ny180.out,List.length_drop,List.length_take]<;>omega)
          rw [show ((l0).take ((wrap64 ((l0.length:Int) - 1)):Int).toNat).drop (1:Int).toNat=y180 from Ny180.out.symm] at hr19
          replace hr19:Kd.C k46 _ A19 y180.length y180:=(by rw [hA19];exact hr19)
          rw [← hy19,← hA19,← hc19] at hcut19
          have HR183:=Aside0.mk hr19
          have HC183:=Aside0.mk (show y180.length≤c19 from by rw [hy19,hc19];exact Nat.sub_le_sub_right (Nat.le_trans (by omega) hroom19) _)
          clear hr19 hC19 hroom19 hi019 hsz19 hc19
          have KY19:=Aside0.mk hy19
          have KA19:=Aside0.mk hA19
          clear hy19 hA19
          replace q19:=eq_true q19
          go_wp2_with (first | ((with_reducible refine gate_callee (f:=39) rfl ?_);refine goesL_ (some 29) rfl rfl Tryz.func39 (by kernel_rfl) rfl #[.slice A19 y180.length c19] rfl (by (try simp only [List.map_toArray,List.map_cons,List.map_nil]);first|done|rfl | (simp only [List.length_drop,List.length_take];rfl)) ?_;(with_reducible refine (context_only.calls _ _ y180 t184 t185 _ ?side1 ?side2 A17.out).mono ?_);(case side1=>repeat (first|exact (Kd.C_below HR183.out HB.out) | (with_reducible refine Kd.C_alloc ?_ _) | (with_reducible refine Kd.C_drewN ?_ _) | (with_reducible refine Kd.C_drew ?_)));(case side2=>exact HC183.out);rintro e w' ⟨rfl,⟨nd,rfl⟩⟩;refine ⟨_,rfl,?_⟩) | ((with_reducible refine gate_callee (f:=42) rfl ?_);refine goesL_ (some 33) rfl rfl Tryz.func42 (by kernel_rfl) rfl #[.string t184,.string (⟨#[10]⟩:ByteArray)] rfl (by (try simp only [List.map_toArray,List.map_cons,List.map_nil]);first|done|rfl | (simp only [List.length_drop,List.length_take];rfl)) ?_;(with_reducible refine (strings_TrimPrefix.calls t184 (⟨#[10]⟩:ByteArray) t186 _ A18.out).mono ?_);rintro e w' ⟨rfl,⟨nd,rfl⟩⟩;refine ⟨_,rfl,?_⟩))
          go_ret2
          exact ⟨by first|rfl | (simp [errW_none,errW_some]<;>rfl) | (simp [*,errW_none,errW_some]<;>rfl),by repeat (first | (with_reducible first|exact HB.out|apply below_alloc|apply pw_below_drewN|apply below_drew1)|exact HB.out)⟩
        · rw [if_neg c16] at H
          exact absurd H (by simp)
      · rw [if_neg c15] at H
        exact absurd H (by simp)
end Go.Proofs.YtcecjoaeolglbaaGreatDoor.St
end

section
namespace Go.Proofs.YtcecjoaeolglbaaGreatDoor.Hand
open Go Go.RowKit Go.Proofs.YtcecjoaeolglbaaGreatDoor.Pl Go.Proofs.YtcecjoaeolglbaaGreatDoor.Pb
theorem upto_stop {c:UInt8} {s r:List UInt8} (h:c∉s):upto c (s++c::r)=s:=by
 induction s with
 | nil=>rw [List.nil_append,upto_cons,if_pos rfl]
 | cons d t ih =>
   rw [List.mem_cons,not_or] at h
   rw [List.cons_append,upto_cons,if_neg (fun e=>h.1 e.symm),ih h.2]
theorem quoted_L {q:UInt8} (hq:q=34∨q=39) {s r:List UInt8} (hs:q∉s):attrL [] (120::61::q::(s++q::r))=attrL [([120],cleanL (rdL true s))] r:=by
 have hq2:isSp q=false:=by rcases hq with rfl|rfl<;>rfl
 have e1:spL (120::61::q::(s++q::r))=120::61::q::(s++q::r):=rfl
 have e2:(61::q::(s++q::r)).dropWhile nmC=61::q::(s++q::r):=rfl
 have e2':(61::q::(s++q::r)).takeWhile nmC=[]:=rfl
 have e3:spL (q::(s++q::r))=q::(s++q::r):=by unfold spL;rw [List.dropWhile_cons,hq2];rfl
 have e4:valA (61::q::(s++q::r))=some (s,r):=by
  unfold valA
  rw [show spL (61::q::(s++q::r))=61::q::(s++q::r) from rfl]
  simp only [e3]
  rw [if_pos hq,if_pos (by simp),upto_stop hs]
  unfold past
  rw [upto_stop hs]
  congr 2
  rw [show s++q::r=(s++[q])++r by simp,show s.length+1=(s++[q]).length by simp]
  exact List.drop_left
 rw [attrL_eq,e1]
 simp only [e2,e2',e4]
 rw [if_neg (by decide),if_neg (by decide)]
 congr 1
end Go.Proofs.YtcecjoaeolglbaaGreatDoor.Hand
end

section
namespace Go.Proofs.YtcecjoaeolglbaaGreatDoor.Hand
open Go Go.RowKit Go.Proofs.YtcecjoaeolglbaaGreatDoor.Pl Go.Proofs.YtcecjoaeolglbaaGreatDoor.Pb Go.Proofs.YtcecjoaeolglbaaGreatDoor.Pure
def qB (single:Bool):UInt8:=if single=true then 39 else 34
def areaO:List UInt8:=[60,116,101,120,116,97,114,101,97,62]
def areaC:List UInt8:=[60,47,116,101,120,116,97,114,101,97,62]
def attrO (single:Bool):List UInt8:=[60,97,32,120,61,qB single]
def wrapL (dest:Int) (single:Bool) (s:List UInt8):List UInt8 :=
 if dest=0 then s else if dest=1 then attrO single++(s++[qB single,62]) else if dest=2 then areaO++(s++areaC) else []
def onlyL:List Tk→List UInt8×Bool
 | []=>([],true)
 | [.text s]=>(s,true)
 | _=>([],false)
def valueL:List Tk→List UInt8×Bool
 | [.start n [a] false]=>if n=[97]∧a.1=[120] then (a.2,true) else ([],false)
 | _=>([],false)
def trimN:List UInt8→List UInt8
 | []=>[]
 | c::r=>if c=10 then r else c::r
def isAreaO:Option Tk→Bool
 | some (.start n [] false)=>n == areaW
 | _=>false
def isAreaC:Option Tk→Bool
 | some (.fin n)=>n == areaW
 | _=>false
def withinL (l:List Tk):List UInt8×Bool :=
 if 2≤l.length∧isAreaO l.head? = true∧isAreaC l.getLast? = true then (trimN (onlyL l.tail.dropLast).1,(onlyL l.tail.dropLast).2) else ([],false)
noncomputable def parseL (dest:Int) (single:Bool) (s:List UInt8):List UInt8×Bool :=
 if dest=0 then onlyL (driveL (normL (wrapL dest single s)))
 else if dest=1 then valueL (driveL (normL (wrapL dest single s)))
 else if dest=2 then withinL (driveL (normL (wrapL dest single s))) else ([],false)
theorem normL_pre {p:List UInt8} (r:List UInt8) (h:(13:UInt8)∉p):normL (p++r)=p++normL r:=by
 induction p with
 | nil=>rfl
 | cons c p ih =>
   rw [List.mem_cons,not_or] at h
   rw [List.cons_append,normL_ne (fun e=>h.1 e.symm),ih h.2,List.cons_append]
theorem normL_suf {q:List UInt8} (h10:q.head? ≠ some 10) (h13:(13:UInt8)∉q):∀ n (s:List UInt8),s.length≤n→normL (s++q)=normL s++q:=by
 intro n
 induction n with
 | zero=>intro s h;obtain rfl:=List.eq_nil_of_length_eq_zero (Nat.le_zero.1 h);exact normL_of_no13 h13
 | succ n ih =>
   intro s h
   cases s with
   | nil=>exact normL_of_no13 h13
   | cons c r =>
     simp only [List.length_cons] at h
     by_cases hc:c=13
     · subst hc
       cases r with
       | nil =>
         rw [normL_13_end]
         cases q with
         | nil=>rfl
         | cons d q' =>
           have hd:d≠10:=by rintro rfl;exact h10 rfl
           show normL (13::d::q')=_
           rw [normL_13_ne hd,normL_of_no13 h13];rfl
       | cons d r' =>
         simp only [List.length_cons] at h
         by_cases hd:d=10
         · subst hd
           show normL (13::10::(r'++q))=_
           rw [normL_13_10,normL_13_10,ih r' (by omega)];rfl
         · show normL (13::d::(r'++q))=_
           rw [normL_13_ne hd,normL_13_ne hd]
           have:=ih (d::r') (by simp;omega)
           rw [List.cons_append] at this
           rw [this];rfl
     · rw [List.cons_append,normL_ne hc,normL_ne hc,ih r (by omega)];rfl
theorem norm_wrap (dest:Int) (single:Bool) (s:List UInt8):normL (wrapL dest single s)=wrapL dest single (normL s):=by
 unfold wrapL
 split
 · rfl
 · split
   · rw [normL_pre _ (by cases single<;>decide),normL_suf (by cases single<;>decide) (by cases single<;>decide) _ _ (Nat.le_refl _)]
   · split
     · rw [normL_pre _ (by decide),normL_suf (by decide) (by decide) _ _ (Nat.le_refl _)]
     · rfl
theorem txN_app {s:List UInt8} (r:List UInt8) (h:(60:UInt8)∉s):txN (s++r)=s.length+txN r:=by
 have:=txN_skip s.length (s++r) (by simp) (fun j hj=>by
  rw [List.getElem?_append_left hj];intro e;exact h (List.mem_of_getElem? e))
 rwa [List.drop_left] at this
theorem tokL_txt {s r:List UInt8} (hs:s≠[]) (h:(60:UInt8)∉s):tokL (s++r)=(some (.text (rdL false (s++r.take (txN r)))),r.drop (txN r)):=by
 obtain ⟨c,t,rfl⟩:∃ c t,s=c::t:=by cases s with|nil=>exact absurd rfl hs|cons c t=>exact ⟨c,t,rfl⟩
 have hc:c≠60:=fun e=>h (by simp [e])
 have hb:begM (c::t++r)=false:=begM_no _ hc
 have hn:txN (c::t++r)=(c::t).length+txN r:=txN_app r h
 unfold begM at hb
 simp only [Bool.or_eq_false_iff] at hb
 obtain ⟨⟨⟨h1,h2⟩,h3⟩,h4⟩:=hb
 unfold tokL
 rw [if_neg (by simpa using h1),if_neg (by rw [h2];decide),if_neg (by rw [h3];decide),if_neg (by rw [h4];decide),if_neg (by rw [hn];simp),hn]
 rw [List.take_length_add_append,List.drop_length_add_append]
theorem tokL_text {s r:List UInt8} (hs:s≠[]) (h:(60:UInt8)∉s) (hr:txN r=0):tokL (s++r)=(some (.text (rdL false s)),r):=by
 rw [tokL_txt hs h,hr];simp
theorem drvL_text {s r:List UInt8} (hs:s≠[]) (h:(60:UInt8)∉s) (hr:txN r=0):drvL (s++r) = .text (rdL false s)::drvL r:=by
 rw [drvL_eq (by simp [hs]),tokL_text hs h hr];rfl
end Go.Proofs.YtcecjoaeolglbaaGreatDoor.Hand
end

section
namespace Go.Proofs.YtcecjoaeolglbaaGreatDoor.Pure
open Go Go.RowKit Go.Proofs.YtcecjoaeolglbaaGreatDoor.K0 Go.Proofs.YtcecjoaeolglbaaGreatDoor.Hand Go.Proofs.YtcecjoaeolglbaaGreatDoor.Sa Go.Proofs.YtcecjoaeolglbaaGreatDoor.Si Go.Proofs.YtcecjoaeolglbaaGreatDoor.St Go.Proofs.YtcecjoaeolglbaaGreatDoorW.PrintWords Go.Proofs.YtcecjoaeolglbaaGreatDoorW.PrintMore Go.Proofs.YtcecjoaeolglbaaGreatDoor.Pl Go.Proofs.YtcecjoaeolglbaaGreatDoor.Pb
theorem only_f (l:List Tk):context_only.f (l.map ofK)=some (B (onlyL l).1,(onlyL l).2):=by
 match l with
 | []=>rfl
 | [t] =>
   unfold context_only.f
   rw [if_neg (by simp),if_pos (by simp),if_pos (by simp),show rd_T46 ([t].map ofK) 0=ofK t from rd_map (l:=[t]) (i:=0) (by simp)]
   cases t<;>rfl
 | t::u::r =>
   unfold context_only.f
   rw [if_neg (by simp;omega),if_neg (by simp;omega)]
   cases t<;>rfl
theorem B_eq_iff (x y:List UInt8):(B x).toList=(B y).toList↔x=y:=by rw [toList_data,toList_data,B_data,B_data]
theorem plain_start (k:Int) (n x:List UInt8) (al:List AttrT) (self:Bool) (k2:Int) (n2:List UInt8) (m:Int) :
  context_plain.f k (B n) (B x) (al.map ofT) self k2 (B n2) m=some (decide (k=k2)&&decide (n=n2)&&decide ((al.length:Int)=m) && !self):=by
 unfold context_plain.f
 by_cases h1:k=k2
 · rw [if_pos h1,decide_eq_true h1]
   by_cases h2:n=n2
   · rw [if_pos ((B_eq_iff n n2).2 h2),decide_eq_true h2,List.length_map]
     by_cases h3:(al.length:Int)=m
     · rw [if_pos h3,decide_eq_true h3];rfl
     · rw [if_neg h3,decide_eq_false h3];rfl
   · rw [if_neg (fun e=>h2 ((B_eq_iff n n2).1 e)),decide_eq_false h2];rfl
 · rw [if_neg h1,decide_eq_false h1];rfl
theorem plain_tk (t:Tk) (k2:Int) (n2:List UInt8) (m:Int):context_plain.f (ofK t).f0 (ofK t).f1 (ofK t).f2 (ofK t).f3 (ofK t).f4 k2 (B n2) m =
 some (decide ((tkC t).1=k2)&&decide ((tkC t).2.1=n2)&&decide (((tkC t).2.2.2.1.length:Int)=m) && !(tkC t).2.2.2.2):=plain_start _ _ _ _ _ _ _ _
theorem value_f (l:List Tk):context_value.f (l.map ofK)=some (B (valueL l).1,(valueL l).2):=by
 have bad:∀ l:List Tk,valueL l=([],false)→some ((⟨#[]⟩:ByteArray),false)=some (B (valueL l).1,(valueL l).2):=fun l h=>by rw [h];rfl
 by_cases h1:l.length=1
 · obtain ⟨t,rfl⟩:=List.length_eq_one_iff.1 h1
   unfold context_value.f
   rw [if_pos (by simp),if_pos (by simp),show rd_T46 ([t].map ofK) 0=ofK t from rd_map (l:=[t]) (i:=0) (by simp)]
   rw [show (⟨#[97]⟩:ByteArray)=B [97] from rfl,plain_tk,Option.bind_some]
   cases t with
   | start n al self =>
     match al with
     | []=>rw [if_neg (by simp [tkC])];exact bad _ rfl
     | a::b::r=>rw [if_neg (by show ¬ ((decide ((1:Int)=1)&&decide (n=[97])&&decide ((((a::b::r).length:Nat):Int)=1) && !self)=true);rw [decide_eq_false (show ¬ ((((a::b::r).length:Nat):Int)=1) by simp only [List.length_cons];omega)];simp)];exact bad _ rfl
     | [a] =>
       obtain ⟨an,av⟩:=a
       cases self with
       | true=>rw [if_neg (by simp [tkC])];exact bad _ rfl
       | false =>
         by_cases hn:n=[97]
         · subst hn
           rw [if_pos (by simp [tkC]),if_pos (by simp [ofK,tkC])]
           have hT:(rd_T87 (ofK (Tk.start [97] [(an,av)] false)).f3 0).f0.toList=an:=by show (B an).toList=an;rw [toList_data,B_data]
           rw [hT]
           by_cases ha:an=[120]
           · subst ha
             rw [if_pos rfl];rfl
           · rw [if_neg ha]
             refine bad _ ?_
             simp only [valueL,if_neg (fun e:_∧an=[120]=>ha e.2)]
         · rw [if_neg (by simp [tkC,hn])]
           refine bad _ ?_
           simp only [valueL,if_neg (fun e:n=[97]∧_=>hn e.1)]
   | text s=>rw [if_neg (by simp [tkC])];exact bad _ rfl
   | fin n=>rw [if_neg (by simp [tkC])];exact bad _ rfl
   | comment s=>rw [if_neg (by simp [tkC])];exact bad _ rfl
   | doctype s=>rw [if_neg (by simp [tkC])];exact bad _ rfl
 · unfold context_value.f
   rw [if_neg (by rw [List.length_map];omega)]
   refine bad _ ?_
   match l,h1 with
   | [],_=>rfl
   | [t],h1=>exact absurd rfl h1
   | t::u::r,_ =>
     cases t with
     | start n al self =>
       unfold valueL
       split
       · rename_i h;simp at h
       · rfl
     | _=>rfl
theorem trim_f (x:List UInt8):strings_TrimPrefix.f (B x) ⟨#[10]⟩=some (B (trimN x)):=by
 unfold strings_TrimPrefix.f stringslite_TrimPrefix.f stringslite_HasPrefix.f
 have h1:((⟨#[10]⟩:ByteArray).size:Int)=1:=rfl
 rw [h1,size_B]
 cases x with
 | nil=>rfl
 | cons c r =>
   have e:(B (c::r)).extract 0 (1:Int).toNat=B [c]:=by show (B (c::r)).extract 0 1=_;rw [B_extract];simp
   have e2:(B (c::r)).extract (1:Int).toNat (c::r).length=B r:=by show (B (c::r)).extract 1 _=_;rw [B_extract];simp
   rw [if_pos (by simp only [List.length_cons];omega),if_pos (by decide),if_pos (by simp only [List.length_cons];omega),Option.bind_some,e,e2,show (⟨#[10]⟩:ByteArray)=B [10] from rfl]
   have hb:((B [c]).toList == (B [10]).toList)=(c == 10):=by
    rw [Bool.eq_iff_iff,beq_iff_eq,beq_iff_eq,B_eq_iff];simp
   rw [hb]
   by_cases hc:c=10
   · subst hc;rw [if_pos (by decide),if_pos (by decide),if_pos (by simp only [List.length_cons];omega)];rfl
   · rw [if_neg (by simpa using hc),Option.bind_some]
     simp only [trimN,if_neg hc]
theorem isAreaO_eq (t:Tk):(decide ((tkC t).1=1)&&decide ((tkC t).2.1=areaW)&&decide (((tkC t).2.2.2.1.length:Int)=0) && !(tkC t).2.2.2.2)=isAreaO (some t):=by
 cases t with
 | start n al self =>
   cases al with
   | nil =>
     cases self with
     | true=>simp [tkC,isAreaO]
     | false=>show (decide ((1:Int)=1)&&decide (n=areaW)&&decide (((([]:List AttrT).length:Nat):Int)=0) && !false)=(n == areaW);rw [Bool.eq_iff_iff];simp
   | cons a r =>
     show (decide ((1:Int)=1)&&decide (n=areaW)&&decide ((((a::r).length:Nat):Int)=0) && !self)=false
     rw [decide_eq_false (show ¬ ((((a::r).length:Nat):Int)=0) by simp only [List.length_cons];omega)];simp
 | _=>simp [tkC,isAreaO]
theorem isAreaC_eq (t:Tk):(decide ((tkC t).1=2)&&decide ((tkC t).2.1=areaW)&&decide (((tkC t).2.2.2.1.length:Int)=0) && !(tkC t).2.2.2.2)=isAreaC (some t):=by
 cases t with
 | fin n=>show (decide ((2:Int)=2)&&decide (n=areaW)&&decide (((([]:List AttrT).length:Nat):Int)=0) && !false)=(n == areaW);rw [Bool.eq_iff_iff];simp
 | _=>simp [tkC,isAreaC]
theorem mid_eq (l:List Tk) (n:Nat) (h:l.length=n+1):(l.take n).drop 1=l.tail.dropLast:=by
 cases l with
 | nil=>simp at h
 | cons t r =>
   rw [List.length_cons,Nat.add_right_cancel_iff] at h
   cases n with
   | zero=>rw [List.length_eq_zero_iff] at h;subst h;rfl
   | succ m =>
     show r.take m=r.dropLast
     rw [List.dropLast_eq_take,h];rfl
theorem within_ev (l:List Tk) (hl:l.length≤1000000):Ev (fun k=>context_within.f k (l.map ofK)) (B (withinL l).1,(withinL l).2):=by
 have hw:wrap64 (((l.map ofK).length:Int) - 1)=(l.length:Int) - 1:=by rw [List.length_map];unfold wrap64;omega
 have bad:∀ j:Int,withinL l=([],false)→Ev (fun k=>context_within.j0 k (l.map ofK) j true) (B (withinL l).1,(withinL l).2):=fun j h=>by
  rw [h]
  exact Ev.step (f:=fun _=>some (⟨#[]⟩,false)) (fun k=>by rw [context_within.j0,if_pos rfl]) (Ev.now _)
 unfold context_within.f
 simp only [hw]
 by_cases h2:2≤l.length
 · obtain ⟨n,hn⟩:∃ n,l.length=n+1:=⟨l.length - 1,by omega⟩
   have e1:(l.length:Int) - 1=(n:Int):=by omega
   have hlen:((l.map ofK).length:Int)=(l.length:Int):=by rw [List.length_map]
   have hh:l.head? = some l[0]:=by rw [List.head?_eq_getElem?,List.getElem?_eq_getElem (by omega)]
   have ht:l.getLast? = some l[n]:=by rw [List.getLast?_eq_getElem?,show l.length - 1=n by omega,List.getElem?_eq_getElem (by omega)]
   have n1:¬ (n:Int)<1:=by omega
   have q0:(0:Int)<((l.map ofK).length:Int):=by rw [hlen];omega
   have q1:(0:Int)≤(n:Int):=by omega
   have q2:(n:Int)<((l.map ofK).length:Int):=by rw [hlen];omega
   have r0:rd_T46 (l.map ofK) 0=ofK l[0]:=rd_map (i:=0) (by omega)
   have rn:rd_T46 (l.map ofK) (n:Int)=ofK l[n]:=rd_map (by omega)
   simp only [e1,if_neg n1,if_pos q0,if_pos q1,if_pos q2,r0,rn,show (⟨#[116,101,120,116,97,114,101,97]⟩:ByteArray)=B areaW from rfl,plain_tk,Option.bind_some,isAreaO_eq,isAreaC_eq]
   cases ho:isAreaO (some l[0]) with
   | false =>
     simp only [Bool.false_eq_true,if_false]
     refine bad _ ?_
     unfold withinL
     rw [hh,ho,if_neg (by simp)]
   | true =>
     simp only [if_true]
     cases hc:isAreaC (some l[n]) with
     | false =>
       refine bad _ ?_
       unfold withinL
       rw [ht,hc,if_neg (by simp)]
     | true =>
       have hwl:withinL l=(trimN (onlyL l.tail.dropLast).1,(onlyL l.tail.dropLast).2):=by
        unfold withinL
        rw [hh,ho,ht,hc,if_pos ⟨h2,rfl,rfl⟩]
       rw [hwl]
       refine Ev.step (f:=fun _=>some (B (trimN (onlyL l.tail.dropLast).1),(onlyL l.tail.dropLast).2)) (fun k => ?_) (Ev.now _)
       have hsl:(List.take ((n:Int)).toNat (l.map ofK)).drop 1=(l.tail.dropLast).map ofK:=by
        rw [Int.toNat_natCast,← List.map_take,← List.map_drop]
        rw [mid_eq l n hn]
       rw [context_within.j0,if_neg (by decide),if_pos (by omega),if_pos (by rw [hlen];omega),hsl,only_f,Option.bind_some,trim_f,Option.bind_some]
 · have n1:(l.length:Int) - 1<1:=by omega
   simp only [if_pos n1]
   refine bad _ ?_
   unfold withinL
   rw [if_neg (fun e=>h2 e.1)]
end Go.Proofs.YtcecjoaeolglbaaGreatDoor.Pure
end

section
namespace Go.Proofs.YtcecjoaeolglbaaGreatDoor.Hand
open Go Go.RowKit Go.Proofs.YtcecjoaeolglbaaGreatDoor.K0 Go.Proofs.YtcecjoaeolglbaaGreatDoor.Pl Go.Proofs.YtcecjoaeolglbaaGreatDoor.Pb Go.Proofs.YtcecjoaeolglbaaGreatDoor.Sa Go.Proofs.YtcecjoaeolglbaaGreatDoor.St Go.Proofs.YtcecjoaeolglbaaGreatDoor.Pure Go.Proofs.YtcecjoaeolglbaaGreatDoorW.PrintWords Go.Proofs.YtcecjoaeolglbaaGreatDoorW.PrintLast Go.Proofs.YtcecjoaeolglbaaGreatDoorW.PrintMore
theorem big_no {n k:Nat} (h:n≤1000000) (hk:k≤1000):(9223372036854775807<k+n)=False:=eq_false (by omega)
theorem big_no2 {n k j:Nat} (h:n≤1000000) (hk:k≤1000) (hj:j≤1000):(9223372036854775807<k+n+j)=False:=eq_false (by omega)
set_option maxRecDepth 100000 in
set_option maxHeartbeats 4000000 in
theorem wrapB_c (d:Int) (single:Bool) (a:ByteArray) (ha:a.size≤1000000) (w:World) :
  Calls Tryz.prog 37 #[.int .i64 d,.bool single,.string a] w fun e w'=>e = .returned (.string (if d=0 then a else if d=1 then ⟨#[60,97,32,120,61]⟩++B [qB single]++a++B [qB single]++⟨#[62]⟩ else if d=2 then ⟨#[60,116,101,120,116,97,114,101,97,62]⟩++a++⟨#[60,47]⟩++⟨#[116,101,120,116,97,114,101,97]⟩++⟨#[62]⟩ else ⟨#[]⟩))∧Below w.heap.size w w':=by
 have f6:=big_no ha (show 6≤1000 by decide)
 have f61:=big_no2 ha (show 6≤1000 by decide) (show 1≤1000 by decide)
 have f611:=big_no2 ha (show 6≤1000 by decide) (show 1+1≤1000 by decide)
 have f612:=big_no2 ha (show 6≤1000 by decide) (show 2≤1000 by decide)
 have f10:=big_no ha (show 10≤1000 by decide)
 have f102:=big_no2 ha (show 10≤1000 by decide) (show 2≤1000 by decide)
 have fA:(9223372036854775807<6+a.size+1+1)=False:=eq_false (by omega)
 have fB:(9223372036854775807<10+a.size+2+8)=False:=eq_false (by omega)
 have fC:(9223372036854775807<10+a.size+2+8+1)=False:=eq_false (by omega)
 clear ha
 by_cases h0:d=0
 · rw [if_pos h0]
   subst h0
   cases single<;>(
    go_enter Tryz.func37,Tryz.ntmps37
    go_wp2_with fail
    go_ret
    exact ⟨rfl,Below.refl _ _⟩)
 · have n0:(d == 0)=false:=beq_eq_false_iff_ne.2 h0
   rw [if_neg h0]
   by_cases h1:d=1
   · rw [if_pos h1]
     subst h1
     cases single<;>(
      go_enter Tryz.func37,Tryz.ntmps37
      go_wp2_with fail
      go_ret
      exact ⟨rfl,Below.refl _ _⟩)
   · have n1:(d == 1)=false:=beq_eq_false_iff_ne.2 h1
     rw [if_neg h1]
     by_cases h2:d=2
     · rw [if_pos h2]
       subst h2
       cases single<;>(
        go_enter Tryz.func37,Tryz.ntmps37
        go_wp2_with fail
        go_ret
        exact ⟨rfl,Below.refl _ _⟩)
     · have n2:(d == 2)=false:=beq_eq_false_iff_ne.2 h2
       rw [if_neg h2]
       cases single<;>(
        go_enter Tryz.func37,Tryz.ntmps37
        go_wp2_with fail
        go_ret
        exact ⟨rfl,Below.refl _ _⟩)
theorem wrap_c (d:Int) (single:Bool) (s:List UInt8) (hs:s.length≤1000000) (w:World) :
  Calls Tryz.prog 37 #[.int .i64 d,.bool single,.string (B s)] w fun e w'=>e = .returned (.string (B (wrapL d single s)))∧Below w.heap.size w w':=by
 have h:=wrapB_c d single (B s) (by rw [size_B];exact hs) w
 have e:(if d=0 then B s else if d=1 then (⟨#[60,97,32,120,61]⟩:ByteArray)++B [qB single]++B s++B [qB single]++⟨#[62]⟩ else if d=2 then ⟨#[60,116,101,120,116,97,114,101,97,62]⟩++B s++⟨#[60,47]⟩++⟨#[116,101,120,116,97,114,101,97]⟩++⟨#[62]⟩ else ⟨#[]⟩)=B (wrapL d single s):=by
  unfold wrapL
  split
  · rfl
  · split
    · show B [60,97,32,120,61]++B [qB single]++B s++B [qB single]++B [62]=_
      simp only [B_append]
      congr 1
      simp [attrO]
    · split
      · show B [60,116,101,120,116,97,114,101,97,62]++B s++B [60,47]++B [116,101,120,116,97,114,101,97]++B [62]=_
        simp only [B_append]
        congr 1
        simp [areaO,areaC]
      · rfl
 rw [e] at h
 exact h
theorem wrapL_length (d:Int) (single:Bool) (s:List UInt8):(wrapL d single s).length≤s.length+30:=by
 unfold wrapL
 repeat' split
 all_goals simp [attrO,areaO,areaC]
abbrev PxC (w:World) (ab d:Nat) (F:Value) (W:World):Prop:=(Glob W∧Below w.heap.size w W)∧W.cell? ⟨ab,d,none⟩=some F
theorem PxC.call {w:World} {ab d:Nat} {F:Value} {W W':World} (hb:Below W.heap.size W W') (h:PxC w ab d F W):PxC w ab d F W' :=
 ⟨⟨h.1.1.step hb,h.1.2.trans (hb.mono h.1.2.size)⟩,(hb.cell (World.block_lt_of_cell? W _ h.2)).trans h.2⟩
def pkL (d:Nat) (l:List Tk):List UInt8×Bool:=if d=0 then onlyL l else if d=1 then valueL l else withinL l
def pkF (d:Nat):Nat:=if d=0 then 39 else if d=1 then 40 else 41
theorem pk_c (d:Nat) (l:List Tk) (hl:l.length≤1000000) (W:World) (v:Value) (b:Nat) (ok:Nat→Prop) (hV:Kd.V tkK 46 W b ok v (l.map ofK)) :
  Calls Tryz.prog (pkF d) #[v] W fun e w'=>e = .returned (.tuple #[.string (B (pkL d l).1),.bool (pkL d l).2])∧Below W.heap.size W w':=by
 obtain ⟨A,c,rfl⟩:=Kd.V_slice hV
 obtain ⟨_,h1,h2⟩:=Kd.V_reads' hV
 unfold pkF pkL
 by_cases h0:d=0
 · rw [if_pos h0,if_pos h0]
   exact (context_only.calls A c (l.map ofK) _ _ W h2 h1 (only_f l)).mono fun e w' h=>⟨h.1,h.2.below⟩
 · rw [if_neg h0,if_neg h0]
   by_cases h3:d=1
   · rw [if_pos h3,if_pos h3]
     exact context_value.calls A c (l.map ofK) _ _ W h2 h1 (value_f l)
   · rw [if_neg h3,if_neg h3]
     obtain ⟨k,hk⟩:=(within_ev l hl).rounds
     exact context_within.calls k A c (l.map ofK) _ _ W h2 h1 hk
set_option maxRecDepth 100000 in
set_option maxHeartbeats 16000000 in
theorem parse_in (d:Nat) (hd:d<3) (single:Bool) (s:List UInt8) (hs:s.length≤20000) (w:World) (hGl:Glob w) :
  Calls Tryz.prog 18 #[.int .i64 (d:Int),.bool single,.string (B s)] w fun e w'=>e = .returned (.tuple #[.string (B (pkL d (driveL (normL (wrapL d single s)))).1),.bool (pkL d (driveL (normL (wrapL d single s)))).2])∧Below w.heap.size w w':=by
 have hwl:=wrapL_length (d:Int) single s
 have hnl:=normL_length (wrapL (d:Int) single s)
 have WR:=Lib.hid (fun W=>wrap_c (d:Int) single s (by omega) W)
 have NR:Hid (∀ W,Calls Tryz.prog 24 #[.string (B (wrapL (d:Int) single s))] W fun e w'=>e = .returned (.string (B (normL (wrapL (d:Int) single s))))∧Below W.heap.size W w'):=Lib.hid (fun W=>by
  have:=norm_any (B (wrapL (d:Int) single s)) W (by rw [size_B];omega)
  rw [B_data] at this
  exact this)
 have DR:=Lib.hid (fun W hG=>drive_c (normL (wrapL (d:Int) single s)) (by omega) W hG)
 have hdl:(driveL (normL (wrapL (d:Int) single s))).length≤1000000:=by
  have h1:=(drv_bd _ (normL (wrapL (d:Int) single s)) (Nat.le_refl _)).2
  have h2:=jn_len (drvL (normL (wrapL (d:Int) single s))) (drvL (normL (wrapL (d:Int) single s))).length
  have h3:jn (drvL (normL (wrapL (d:Int) single s))) (drvL (normL (wrapL (d:Int) single s))).length=driveL (normL (wrapL (d:Int) single s)):=by unfold jn driveL;rw [List.take_length,join_eq]
  rw [h3] at h2
  omega
 have PK:=Lib.hid (fun W v b ok hV=>pk_c d (driveL (normL (wrapL (d:Int) single s))) hdl W v b ok hV)
 generalize driveL (normL (wrapL (d:Int) single s))=L at DR PK ⊢
 generalize normL (wrapL (d:Int) single s)=S2 at NR DR
 obtain ⟨a1,h1⟩:∃ a,B (wrapL (d:Int) single s)=a:=⟨_,rfl⟩
 obtain ⟨a2,h2⟩:∃ a,B S2=a:=⟨_,rfl⟩
 obtain ⟨a0,h0⟩:∃ a,B s=a:=⟨_,rfl⟩
 rw [h1] at WR NR
 rw [h2] at NR DR
 rw [h0] at WR ⊢
 obtain ⟨⟨r1,r2⟩,hr⟩:∃ r,pkL d L=r:=⟨_,rfl⟩
 rw [hr] at PK ⊢
 dsimp only at PK ⊢
 obtain ⟨r1,hr1⟩:∃ r,B r1=r:=⟨_,rfl⟩
 rw [hr1] at PK ⊢
 clear hr1 hr h0 h1 h2 hwl hnl hdl
 have HS0:∀ (j:Nat) F,j=d→(#[Value.func (.func 39) #[] #[],.func (.func 40) #[] #[],.func (.func 41) #[] #[]]:Array Value)[j]? = some F→PxC w w.heap.size d F (((w.alloc (.cells #[.nilFunc,.nilFunc,.nilFunc] 51)).setRow w.heap.size #[Value.func (.func 39) #[] #[],.func (.func 40) #[] #[],.func (.func 41) #[] #[]]).drew):=fun j F hj hF=>by
  subst hj
  have hb:Below w.heap.size w ((w.alloc (.cells #[.nilFunc,.nilFunc,.nilFunc] 51)).setRow w.heap.size #[Value.func (.func 39) #[] #[],.func (.func 40) #[] #[],.func (.func 41) #[] #[]]):=by rw [World.setRow_alloc_new];exact below_alloc (Below.refl _ _) _
  exact ⟨⟨hGl.step (below_drew hb),below_drew hb⟩,(cell_setRow_same _ _ _ _ _ _ _ (heap_alloc_last w _)).trans hF⟩
 have HG:=Lib.hid hGl
 clear hs hGl
 have hd3:d=0∨d=1∨d=2:=by omega
 clear hd
 rcases hd3 with rfl|rfl|rfl
 · have HS1:PxC w w.heap.size 0 (.func (.func 39) #[] #[]) (((w.alloc (.cells #[.nilFunc,.nilFunc,.nilFunc] 51)).setRow w.heap.size #[Value.func (.func 39) #[] #[],.func (.func 40) #[] #[],.func (.func 41) #[] #[]]).drew):=HS0 0 _ rfl rfl
   have e0:((0:Nat):Int)=0:=rfl
   rw [e0] at WR ⊢
   have HS2:=Lib.hid HS1
   clear HS0 HS1 e0
   go_enter Tryz.func18,Tryz.ntmps18
   go_wp2_with (first | (refine wpList_store_row rfl 51 (.tmp 8) (.tmp 9) rfl w.heap.size #[Value.func (.func 39) #[] #[],.func (.func 40) #[] #[],.func (.func 41) #[] #[]] rfl rfl 51 #[.nilFunc,.nilFunc,.nilFunc] (heap_alloc_last w _) (by kernel_rfl) rfl (by simp [Value.oneCell']) ?_))
   have HS:=HS2.out
   go_region_held3 (fun W=>(Glob W∧Below w.heap.size w W)∧W.cell? ⟨w.heap.size,0,none⟩=some (.func (.func 39) #[] #[])) (first|with_reducible assumption|with_reducible exact HS|exact PxC.call hb (by with_reducible assumption)) (first | (go_at_call 37;with_reducible refine (WR.out _).mono ?_;rintro e w' ⟨rfl,hb⟩) | (go_at_call 24;with_reducible refine (NR.out _).mono ?_;rintro e w' ⟨rfl,hb⟩) | (go_at_call 33;with_reducible refine (DR.out _ (And.left (And.left (by with_reducible assumption:PxC w w.heap.size 0 (.func (.func 39) #[] #[]) _)))).mono ?_;rintro e w' ⟨⟨v,rfl,hV⟩,hb⟩) | (go_at_call 39;refine (PK.out _ v _ _ (by assumption)).mono ?_;rintro e w' ⟨rfl,hb⟩))
   have HB:=And.right (And.left (by with_reducible assumption:PxC w w.heap.size 0 (.func (.func 39) #[] #[]) w'))
   go_wp2_with fail
   go_ret2
   exact ⟨rfl,HB⟩
 · have HS1:PxC w w.heap.size 1 (.func (.func 40) #[] #[]) (((w.alloc (.cells #[.nilFunc,.nilFunc,.nilFunc] 51)).setRow w.heap.size #[Value.func (.func 39) #[] #[],.func (.func 40) #[] #[],.func (.func 41) #[] #[]]).drew):=HS0 1 _ rfl rfl
   have e0:((1:Nat):Int)=1:=rfl
   rw [e0] at WR ⊢
   have HS2:=Lib.hid HS1
   clear HS0 HS1 e0
   go_enter Tryz.func18,Tryz.ntmps18
   go_wp2_with (first | (refine wpList_store_row rfl 51 (.tmp 8) (.tmp 9) rfl w.heap.size #[Value.func (.func 39) #[] #[],.func (.func 40) #[] #[],.func (.func 41) #[] #[]] rfl rfl 51 #[.nilFunc,.nilFunc,.nilFunc] (heap_alloc_last w _) (by kernel_rfl) rfl (by simp [Value.oneCell']) ?_))
   have HS:=HS2.out
   go_region_held3 (fun W=>(Glob W∧Below w.heap.size w W)∧W.cell? ⟨w.heap.size,1,none⟩=some (.func (.func 40) #[] #[])) (first|with_reducible assumption|with_reducible exact HS|exact PxC.call hb (by with_reducible assumption)) (first | (go_at_call 37;with_reducible refine (WR.out _).mono ?_;rintro e w' ⟨rfl,hb⟩) | (go_at_call 24;with_reducible refine (NR.out _).mono ?_;rintro e w' ⟨rfl,hb⟩) | (go_at_call 33;with_reducible refine (DR.out _ (And.left (And.left (by with_reducible assumption:PxC w w.heap.size 1 (.func (.func 40) #[] #[]) _)))).mono ?_;rintro e w' ⟨⟨v,rfl,hV⟩,hb⟩) | (go_at_call 40;refine (PK.out _ v _ _ (by assumption)).mono ?_;rintro e w' ⟨rfl,hb⟩))
   have HB:=And.right (And.left (by with_reducible assumption:PxC w w.heap.size 1 (.func (.func 40) #[] #[]) w'))
   go_wp2_with fail
   go_ret2
   exact ⟨rfl,HB⟩
 · have HS1:PxC w w.heap.size 2 (.func (.func 41) #[] #[]) (((w.alloc (.cells #[.nilFunc,.nilFunc,.nilFunc] 51)).setRow w.heap.size #[Value.func (.func 39) #[] #[],.func (.func 40) #[] #[],.func (.func 41) #[] #[]]).drew):=HS0 2 _ rfl rfl
   have e0:((2:Nat):Int)=2:=rfl
   rw [e0] at WR ⊢
   have HS2:=Lib.hid HS1
   clear HS0 HS1 e0
   go_enter Tryz.func18,Tryz.ntmps18
   go_wp2_with (first | (refine wpList_store_row rfl 51 (.tmp 8) (.tmp 9) rfl w.heap.size #[Value.func (.func 39) #[] #[],.func (.func 40) #[] #[],.func (.func 41) #[] #[]] rfl rfl 51 #[.nilFunc,.nilFunc,.nilFunc] (heap_alloc_last w _) (by kernel_rfl) rfl (by simp [Value.oneCell']) ?_))
   have HS:=HS2.out
   go_region_held3 (fun W=>(Glob W∧Below w.heap.size w W)∧W.cell? ⟨w.heap.size,2,none⟩=some (.func (.func 41) #[] #[])) (first|with_reducible assumption|with_reducible exact HS|exact PxC.call hb (by with_reducible assumption)) (first | (go_at_call 37;with_reducible refine (WR.out _).mono ?_;rintro e w' ⟨rfl,hb⟩) | (go_at_call 24;with_reducible refine (NR.out _).mono ?_;rintro e w' ⟨rfl,hb⟩) | (go_at_call 33;with_reducible refine (DR.out _ (And.left (And.left (by with_reducible assumption:PxC w w.heap.size 2 (.func (.func 41) #[] #[]) _)))).mono ?_;rintro e w' ⟨⟨v,rfl,hV⟩,hb⟩) | (go_at_call 41;refine (PK.out _ v _ _ (by assumption)).mono ?_;rintro e w' ⟨rfl,hb⟩))
   have HB:=And.right (And.left (by with_reducible assumption:PxC w w.heap.size 2 (.func (.func 41) #[] #[]) w'))
   go_wp2_with fail
   go_ret2
   exact ⟨rfl,HB⟩
set_option maxRecDepth 100000 in
theorem parse_out (d:Int) (hd:d<0∨2<d) (single:Bool) (a:ByteArray) (w:World) :
  Calls Tryz.prog 18 #[.int .i64 d,.bool single,.string a] w fun e w'=>e = .returned (.tuple #[.string ⟨#[]⟩,.bool false])∧Below w.heap.size w w':=by
 have hb:Below w.heap.size w ((w.alloc (.cells #[.nilFunc,.nilFunc,.nilFunc] 51)).setRow w.heap.size #[Value.func (.func 39) #[] #[],.func (.func 40) #[] #[],.func (.func 41) #[] #[]]):=by rw [World.setRow_alloc_new];exact below_alloc (Below.refl _ _) _
 have HB:=Lib.hid hb
 clear hb
 by_cases h:d<0
 · have q:decide (d<0)=true:=decide_eq_true h
   clear hd h
   go_enter Tryz.func18,Tryz.ntmps18
   go_wp2_with (first | (refine wpList_store_row rfl 51 (.tmp 8) (.tmp 9) rfl w.heap.size #[Value.func (.func 39) #[] #[],.func (.func 40) #[] #[],.func (.func 41) #[] #[]] rfl rfl 51 #[.nilFunc,.nilFunc,.nilFunc] (heap_alloc_last w _) (by kernel_rfl) rfl (by simp [Value.oneCell']) ?_))
   go_ret2
   exact ⟨rfl,HB.out⟩
 · have q:decide (d<0)=false:=decide_eq_false h
   have q2:decide (d≥3)=true:=decide_eq_true (by omega)
   have q3:decide (3≤d)=true:=decide_eq_true (by omega)
   clear hd h
   go_enter Tryz.func18,Tryz.ntmps18
   go_wp2_with (first | (refine wpList_store_row rfl 51 (.tmp 8) (.tmp 9) rfl w.heap.size #[Value.func (.func 39) #[] #[],.func (.func 40) #[] #[],.func (.func 41) #[] #[]] rfl rfl 51 #[.nilFunc,.nilFunc,.nilFunc] (heap_alloc_last w _) (by kernel_rfl) rfl (by simp [Value.oneCell']) ?_))
   go_ret2
   exact ⟨rfl,HB.out⟩
theorem parse_c (d:Int) (single:Bool) (s:List UInt8) (hs:s.length≤20000) (w:World) (hGl:Glob w) :
  Calls Tryz.prog 18 #[.int .i64 d,.bool single,.string (B s)] w fun e w'=>e = .returned (.tuple #[.string (B (parseL d single s).1),.bool (parseL d single s).2])∧Below w.heap.size w w':=by
 by_cases h:d<0∨2<d
 · have e:parseL d single s=([],false):=by unfold parseL;rw [if_neg (by omega),if_neg (by omega),if_neg (by omega)]
   rw [e]
   exact parse_out d h single _ w
 · obtain ⟨n,rfl⟩:=Int.eq_ofNat_of_zero_le (show 0≤d by omega)
   have hn:n<3:=by omega
   have e:parseL (n:Int) single s=pkL n (driveL (normL (wrapL n single s))):=by
    unfold parseL pkL
    by_cases h0:n=0
    · rw [if_pos (by omega),if_pos h0]
    · rw [if_neg (by omega),if_neg h0]
      by_cases h1:n=1
      · rw [if_pos (by omega),if_pos h1]
      · rw [if_neg (by omega),if_neg h1,if_pos (by omega)]
   rw [e]
   exact parse_in n hn single s hs w hGl
def context_Wrap.f (a0:Int) (a1:Bool) (a2:ByteArray):Option ByteArray:=if a2.size≤1000000 then some (B (wrapL a0 a1 a2.data.toList)) else none
theorem context_Wrap.calls (a0:Int) (a1:Bool) (a2:ByteArray) (r:ByteArray) (w:World) (h:context_Wrap.f a0 a1 a2=some r) :
  Calls Tryz.prog 37 #[.int .i64 a0,.bool a1,.string a2] w fun e w'=>e = .returned (.string r)∧Below w.heap.size w w':=by
 obtain ⟨hc,h⟩:=hg_split h
 obtain rfl:=Option.some.inj h
 have:=wrap_c a0 a1 a2.data.toList (by rw [Array.length_toList];exact hc) w
 rwa [← B_of] at this
noncomputable def context_Parse.f (a0:Int) (a1:Bool) (a2:ByteArray):Option (ByteArray×Bool):=if a2.size≤20000 then some (B (parseL a0 a1 a2.data.toList).1,(parseL a0 a1 a2.data.toList).2) else none
theorem context_Parse.calls (a0:Int) (a1:Bool) (a2:ByteArray) (r1:ByteArray) (r2:Bool) (w:World) (hGl:Glob w) (h:context_Parse.f a0 a1 a2=some (r1,r2)) :
  Calls Tryz.prog 18 #[.int .i64 a0,.bool a1,.string a2] w fun e w'=>e = .returned (.tuple #[.string r1,.bool r2])∧Below w.heap.size w w':=by
 obtain ⟨hc,h⟩:=hg_split h
 have h:=Option.some.inj h
 simp only [Prod.mk.injEq] at h
 obtain ⟨rfl,rfl⟩:=h
 have:=parse_c a0 a1 a2.data.toList (by rw [Array.length_toList];exact hc) w hGl
 rwa [← B_of] at this
end Go.Proofs.YtcecjoaeolglbaaGreatDoor.Hand
end

section
namespace Go.Proofs.YtcecjoaeolglbaaGreatDoor.Sp
open Go.RowKit Go.Proofs.YtcecjoaeolglbaaGreatDoor.K0 Go.Proofs.YtcecjoaeolglbaaGreatDoor.Hand Go.Proofs.YtcecjoaeolglbaaGreatDoor.Sa Go.Proofs.YtcecjoaeolglbaaGreatDoorW.PrintWords Go.Proofs.YtcecjoaeolglbaaGreatDoorW.PrintLast Go.Proofs.YtcecjoaeolglbaaGreatDoorW.PrintMore
attribute [local go_sem] max2_int min2_int max_two min_two max_three min_three max_four min_four  
set_option linter.unusedVariables false
set_option linter.unusedSimpArgs false
noncomputable def flaillaw23_awake.f  : Option (Bool):=(context_Parse.f 0 false (⟨#[97,60,98,62]⟩:ByteArray)).bind fun bt101=>((context_Parse.f 1 false (⟨#[97,62,98]⟩:ByteArray)).bind fun bt103=>((context_Parse.f 2 false (⟨#[10,97]⟩:ByteArray)).bind fun bt105=>(if bt101.2=true then (some false) else (if bt103.2=true then (if bt105.2=true then (if bt103.1.toList=([97,62,98]:List UInt8) then (if bt105.1.toList=([97]:List UInt8) then ((context_Wrap.f 1 true (⟨#[122]⟩:ByteArray)).bind fun t107=>(some (t107.toList == ([60,97,32,120,61,39,122,39,62]:List UInt8)))) else (some false)) else (some false)) else (some false)) else (some false)))))
set_option maxHeartbeats 8000000 in
set_option maxRecDepth 100000 in
theorem flaillaw23_awake.calls  (r:Bool) (w:World) (hGl:Glob w) (h:flaillaw23_awake.f  = some r) :
  Calls Tryz.prog 16 #[] w fun e w'=>e = .returned (.bool r)∧Below w.heap.size w w':=by
 have HB:=Aside0.mk (Below.refl w.heap.size w)
 have H:((context_Parse.f 0 false (⟨#[97,60,98,62]⟩:ByteArray)).bind fun bt101=>((context_Parse.f 1 false (⟨#[97,62,98]⟩:ByteArray)).bind fun bt103=>((context_Parse.f 2 false (⟨#[10,97]⟩:ByteArray)).bind fun bt105=>(if bt101.2=true then (some false) else (if bt103.2=true then (if bt105.2=true then (if bt103.1.toList=([97,62,98]:List UInt8) then (if bt105.1.toList=([97]:List UInt8) then ((context_Wrap.f 1 true (⟨#[122]⟩:ByteArray)).bind fun t107=>(some (t107.toList == ([60,97,32,120,61,39,122,39,62]:List UInt8)))) else (some false)) else (some false)) else (some false)) else (some false))))))=some r:=h
 clear h
 replace H:=Option.bind_eq_some_iff.mp H
 obtain ⟨⟨t101,t102⟩,A10,H⟩:=H
 replace H:((context_Parse.f 1 false (⟨#[97,62,98]⟩:ByteArray)).bind fun bt103=>((context_Parse.f 2 false (⟨#[10,97]⟩:ByteArray)).bind fun bt105=>(if t102=true then (some false) else (if bt103.2=true then (if bt105.2=true then (if bt103.1.toList=([97,62,98]:List UInt8) then (if bt105.1.toList=([97]:List UInt8) then ((context_Wrap.f 1 true (⟨#[122]⟩:ByteArray)).bind fun t107=>(some (t107.toList == ([60,97,32,120,61,39,122,39,62]:List UInt8)))) else (some false)) else (some false)) else (some false)) else (some false)))))=some r:=H
 have A1:=Aside0.mk A10
 clear A10
 replace H:=Option.bind_eq_some_iff.mp H
 obtain ⟨⟨t103,t104⟩,A20,H⟩:=H
 replace H:((context_Parse.f 2 false (⟨#[10,97]⟩:ByteArray)).bind fun bt105=>(if t102=true then (some false) else (if t104=true then (if bt105.2=true then (if t103.toList=([97,62,98]:List UInt8) then (if bt105.1.toList=([97]:List UInt8) then ((context_Wrap.f 1 true (⟨#[122]⟩:ByteArray)).bind fun t107=>(some (t107.toList == ([60,97,32,120,61,39,122,39,62]:List UInt8)))) else (some false)) else (some false)) else (some false)) else (some false))))=some r:=H
 have A2:=Aside0.mk A20
 clear A20
 replace H:=Option.bind_eq_some_iff.mp H
 obtain ⟨⟨t105,t106⟩,A30,H⟩:=H
 replace H:(if t102=true then (some false) else (if t104=true then (if t106=true then (if t103.toList=([97,62,98]:List UInt8) then (if t105.toList=([97]:List UInt8) then ((context_Wrap.f 1 true (⟨#[122]⟩:ByteArray)).bind fun t107=>(some (t107.toList == ([60,97,32,120,61,39,122,39,62]:List UInt8)))) else (some false)) else (some false)) else (some false)) else (some false)))=some r:=H
 have A3:=Aside0.mk A30
 clear A30
 by_cases c4:t102=true
 · subst c4
   have H1:(some false)=some r:=by rw [if_pos rfl] at H;exact H
   clear H
   have H:=H1
   clear H1
   obtain rfl:=Option.some.inj H
   go_enter Tryz.func16,Tryz.ntmps16
   go_wp2_with (first | ((with_reducible refine gate_callee (f:=18) rfl ?_);refine goesL_ (some 8) rfl rfl Tryz.func18 (by kernel_rfl) rfl #[.int .i64 0,.bool false,.string (⟨#[97,60,98,62]⟩:ByteArray)] rfl (by (try simp only [List.map_toArray,List.map_cons,List.map_nil]);first|done|rfl | (simp only [List.length_drop,List.length_take];rfl)) ?_;(with_reducible refine (context_Parse.calls 0 false (⟨#[97,60,98,62]⟩:ByteArray) t101 true _ ?side1 A1.out).mono ?_);(case side1=>exact Glob.step hGl (by repeat (first | (with_reducible first|exact HB.out|apply below_alloc|apply pw_below_drewN|apply below_drew1)|exact HB.out)));rintro e w5 ⟨rfl,hb⟩;refine ⟨_,rfl,?_⟩;have n0_:=Aside0.mk (below_step (by repeat (first | (with_reducible first|exact HB.out|apply below_alloc|apply pw_below_drewN|apply below_drew1)|exact HB.out)) hb);clear HB;have HB:=n0_;clear n0_;(try clear hb);(try clear hb2);(try clear hk);(try clear hi)) | ((with_reducible refine gate_callee (f:=18) rfl ?_);refine goesL_ (some 12) rfl rfl Tryz.func18 (by kernel_rfl) rfl #[.int .i64 1,.bool false,.string (⟨#[97,62,98]⟩:ByteArray)] rfl (by (try simp only [List.map_toArray,List.map_cons,List.map_nil]);first|done|rfl | (simp only [List.length_drop,List.length_take];rfl)) ?_;(with_reducible refine (context_Parse.calls 1 false (⟨#[97,62,98]⟩:ByteArray) t103 t104 _ ?side1 A2.out).mono ?_);(case side1=>exact Glob.step hGl (by repeat (first | (with_reducible first|exact HB.out|apply below_alloc|apply pw_below_drewN|apply below_drew1)|exact HB.out)));rintro e w6 ⟨rfl,hb⟩;refine ⟨_,rfl,?_⟩;have n0_:=Aside0.mk (below_step (by repeat (first | (with_reducible first|exact HB.out|apply below_alloc|apply pw_below_drewN|apply below_drew1)|exact HB.out)) hb);clear HB;have HB:=n0_;clear n0_;(try clear hb);(try clear hb2);(try clear hk);(try clear hi)) | ((with_reducible refine gate_callee (f:=18) rfl ?_);refine goesL_ (some 16) rfl rfl Tryz.func18 (by kernel_rfl) rfl #[.int .i64 2,.bool false,.string (⟨#[10,97]⟩:ByteArray)] rfl (by (try simp only [List.map_toArray,List.map_cons,List.map_nil]);first|done|rfl | (simp only [List.length_drop,List.length_take];rfl)) ?_;(with_reducible refine (context_Parse.calls 2 false (⟨#[10,97]⟩:ByteArray) t105 t106 _ ?side1 A3.out).mono ?_);(case side1=>exact Glob.step hGl (by repeat (first | (with_reducible first|exact HB.out|apply below_alloc|apply pw_below_drewN|apply below_drew1)|exact HB.out)));rintro e w7 ⟨rfl,hb⟩;refine ⟨_,rfl,?_⟩;have n0_:=Aside0.mk (below_step (by repeat (first | (with_reducible first|exact HB.out|apply below_alloc|apply pw_below_drewN|apply below_drew1)|exact HB.out)) hb);clear HB;have HB:=n0_;clear n0_;(try clear hb);(try clear hb2);(try clear hk);(try clear hi)))
   go_ret
   exact ⟨by first|rfl | (simp [errW_none,errW_some]<;>rfl) | (simp [*,errW_none,errW_some]<;>rfl),by repeat (first | (with_reducible first|exact HB.out|apply below_alloc|apply pw_below_drewN|apply below_drew1)|exact HB.out)⟩
 · replace c4:=Bool.eq_false_iff.mpr c4
   subst c4
   have H1:(if t104=true then (if t106=true then (if t103.toList=([97,62,98]:List UInt8) then (if t105.toList=([97]:List UInt8) then ((context_Wrap.f 1 true (⟨#[122]⟩:ByteArray)).bind fun t107=>(some (t107.toList == ([60,97,32,120,61,39,122,39,62]:List UInt8)))) else (some false)) else (some false)) else (some false)) else (some false))=some r:=by rw [if_neg (show ¬ (false=true) by decide)] at H;exact H
   clear H
   have H:=H1
   clear H1
   by_cases c8:t104=true
   · subst c8
     have H1:(if t106=true then (if t103.toList=([97,62,98]:List UInt8) then (if t105.toList=([97]:List UInt8) then ((context_Wrap.f 1 true (⟨#[122]⟩:ByteArray)).bind fun t107=>(some (t107.toList == ([60,97,32,120,61,39,122,39,62]:List UInt8)))) else (some false)) else (some false)) else (some false))=some r:=by rw [if_pos rfl] at H;exact H
     clear H
     have H:=H1
     clear H1
     by_cases c9:t106=true
     · subst c9
       have H1:(if t103.toList=([97,62,98]:List UInt8) then (if t105.toList=([97]:List UInt8) then ((context_Wrap.f 1 true (⟨#[122]⟩:ByteArray)).bind fun t107=>(some (t107.toList == ([60,97,32,120,61,39,122,39,62]:List UInt8)))) else (some false)) else (some false))=some r:=by rw [if_pos rfl] at H;exact H
       clear H
       have H:=H1
       clear H1
       by_cases c10:t103.toList=([97,62,98]:List UInt8)
       · rw [if_pos c10] at H
         have c10b0:(t103.toList == ([97,62,98]:List UInt8))=true:=beq_iff_eq.mpr c10
         have c10b1:(t103.toList != ([97,62,98]:List UInt8))=false:=bne_eq_false_iff_eq.mpr c10
         clear c10
         by_cases c11:t105.toList=([97]:List UInt8)
         · rw [if_pos c11] at H
           have c11b0:(t105.toList == ([97]:List UInt8))=true:=beq_iff_eq.mpr c11
           have c11b1:(t105.toList != ([97]:List UInt8))=false:=bne_eq_false_iff_eq.mpr c11
           clear c11
           replace H:=Option.bind_eq_some_iff.mp H
           obtain ⟨t107,A120,H⟩:=H
           replace H:(some (t107.toList == ([60,97,32,120,61,39,122,39,62]:List UInt8)))=some r:=H
           have A12:=Aside0.mk A120
           clear A120
           obtain rfl:=Option.some.inj H
           go_enter Tryz.func16,Tryz.ntmps16
           go_wp2_with (first | ((with_reducible refine gate_callee (f:=18) rfl ?_);refine goesL_ (some 8) rfl rfl Tryz.func18 (by kernel_rfl) rfl #[.int .i64 0,.bool false,.string (⟨#[97,60,98,62]⟩:ByteArray)] rfl (by (try simp only [List.map_toArray,List.map_cons,List.map_nil]);first|done|rfl | (simp only [List.length_drop,List.length_take];rfl)) ?_;(with_reducible refine (context_Parse.calls 0 false (⟨#[97,60,98,62]⟩:ByteArray) t101 false _ ?side1 A1.out).mono ?_);(case side1=>exact Glob.step hGl (by repeat (first | (with_reducible first|exact HB.out|apply below_alloc|apply pw_below_drewN|apply below_drew1)|exact HB.out)));rintro e w13 ⟨rfl,hb⟩;refine ⟨_,rfl,?_⟩;have n0_:=Aside0.mk (below_step (by repeat (first | (with_reducible first|exact HB.out|apply below_alloc|apply pw_below_drewN|apply below_drew1)|exact HB.out)) hb);clear HB;have HB:=n0_;clear n0_;(try clear hb);(try clear hb2);(try clear hk);(try clear hi)) | ((with_reducible refine gate_callee (f:=18) rfl ?_);refine goesL_ (some 12) rfl rfl Tryz.func18 (by kernel_rfl) rfl #[.int .i64 1,.bool false,.string (⟨#[97,62,98]⟩:ByteArray)] rfl (by (try simp only [List.map_toArray,List.map_cons,List.map_nil]);first|done|rfl | (simp only [List.length_drop,List.length_take];rfl)) ?_;(with_reducible refine (context_Parse.calls 1 false (⟨#[97,62,98]⟩:ByteArray) t103 true _ ?side1 A2.out).mono ?_);(case side1=>exact Glob.step hGl (by repeat (first | (with_reducible first|exact HB.out|apply below_alloc|apply pw_below_drewN|apply below_drew1)|exact HB.out)));rintro e w14 ⟨rfl,hb⟩;refine ⟨_,rfl,?_⟩;have n0_:=Aside0.mk (below_step (by repeat (first | (with_reducible first|exact HB.out|apply below_alloc|apply pw_below_drewN|apply below_drew1)|exact HB.out)) hb);clear HB;have HB:=n0_;clear n0_;(try clear hb);(try clear hb2);(try clear hk);(try clear hi)) | ((with_reducible refine gate_callee (f:=18) rfl ?_);refine goesL_ (some 16) rfl rfl Tryz.func18 (by kernel_rfl) rfl #[.int .i64 2,.bool false,.string (⟨#[10,97]⟩:ByteArray)] rfl (by (try simp only [List.map_toArray,List.map_cons,List.map_nil]);first|done|rfl | (simp only [List.length_drop,List.length_take];rfl)) ?_;(with_reducible refine (context_Parse.calls 2 false (⟨#[10,97]⟩:ByteArray) t105 true _ ?side1 A3.out).mono ?_);(case side1=>exact Glob.step hGl (by repeat (first | (with_reducible first|exact HB.out|apply below_alloc|apply pw_below_drewN|apply below_drew1)|exact HB.out)));rintro e w15 ⟨rfl,hb⟩;refine ⟨_,rfl,?_⟩;have n0_:=Aside0.mk (below_step (by repeat (first | (with_reducible first|exact HB.out|apply below_alloc|apply pw_below_drewN|apply below_drew1)|exact HB.out)) hb);clear HB;have HB:=n0_;clear n0_;(try clear hb);(try clear hb2);(try clear hk);(try clear hi)) | (go_at_call 37;(with_reducible refine (context_Wrap.calls 1 true (⟨#[122]⟩:ByteArray) t107 _ A12.out).mono ?_);rintro e w16 ⟨rfl,hb⟩;have n0_:=Aside0.mk (below_step (by repeat (first | (with_reducible first|exact HB.out|apply below_alloc|apply pw_below_drewN|apply below_drew1)|exact HB.out)) hb);clear HB;have HB:=n0_;clear n0_;(try clear hb);(try clear hb2);(try clear hk);(try clear hi)))
           go_ret
           exact ⟨by first|rfl | (simp [errW_none,errW_some]<;>rfl) | (simp [*,errW_none,errW_some]<;>rfl),by repeat (first | (with_reducible first|exact HB.out|apply below_alloc|apply pw_below_drewN|apply below_drew1)|exact HB.out)⟩
         · rw [if_neg c11] at H
           have c11b0:(t105.toList == ([97]:List UInt8))=false:=beq_eq_false_iff_ne.mpr c11
           have c11b1:(t105.toList != ([97]:List UInt8))=true:=bne_iff_ne.mpr c11
           obtain rfl:=Option.some.inj H
           go_enter Tryz.func16,Tryz.ntmps16
           go_wp2_with (first | ((with_reducible refine gate_callee (f:=18) rfl ?_);refine goesL_ (some 8) rfl rfl Tryz.func18 (by kernel_rfl) rfl #[.int .i64 0,.bool false,.string (⟨#[97,60,98,62]⟩:ByteArray)] rfl (by (try simp only [List.map_toArray,List.map_cons,List.map_nil]);first|done|rfl | (simp only [List.length_drop,List.length_take];rfl)) ?_;(with_reducible refine (context_Parse.calls 0 false (⟨#[97,60,98,62]⟩:ByteArray) t101 false _ ?side1 A1.out).mono ?_);(case side1=>exact Glob.step hGl (by repeat (first | (with_reducible first|exact HB.out|apply below_alloc|apply pw_below_drewN|apply below_drew1)|exact HB.out)));rintro e w17 ⟨rfl,hb⟩;refine ⟨_,rfl,?_⟩;have n0_:=Aside0.mk (below_step (by repeat (first | (with_reducible first|exact HB.out|apply below_alloc|apply pw_below_drewN|apply below_drew1)|exact HB.out)) hb);clear HB;have HB:=n0_;clear n0_;(try clear hb);(try clear hb2);(try clear hk);(try clear hi)) | ((with_reducible refine gate_callee (f:=18) rfl ?_);refine goesL_ (some 12) rfl rfl Tryz.func18 (by kernel_rfl) rfl #[.int .i64 1,.bool false,.string (⟨#[97,62,98]⟩:ByteArray)] rfl (by (try simp only [List.map_toArray,List.map_cons,List.map_nil]);first|done|rfl | (simp only [List.length_drop,List.length_take];rfl)) ?_;(with_reducible refine (context_Parse.calls 1 false (⟨#[97,62,98]⟩:ByteArray) t103 true _ ?side1 A2.out).mono ?_);(case side1=>exact Glob.step hGl (by repeat (first | (with_reducible first|exact HB.out|apply below_alloc|apply pw_below_drewN|apply below_drew1)|exact HB.out)));rintro e w18 ⟨rfl,hb⟩;refine ⟨_,rfl,?_⟩;have n0_:=Aside0.mk (below_step (by repeat (first | (with_reducible first|exact HB.out|apply below_alloc|apply pw_below_drewN|apply below_drew1)|exact HB.out)) hb);clear HB;have HB:=n0_;clear n0_;(try clear hb);(try clear hb2);(try clear hk);(try clear hi)) | ((with_reducible refine gate_callee (f:=18) rfl ?_);refine goesL_ (some 16) rfl rfl Tryz.func18 (by kernel_rfl) rfl #[.int .i64 2,.bool false,.string (⟨#[10,97]⟩:ByteArray)] rfl (by (try simp only [List.map_toArray,List.map_cons,List.map_nil]);first|done|rfl | (simp only [List.length_drop,List.length_take];rfl)) ?_;(with_reducible refine (context_Parse.calls 2 false (⟨#[10,97]⟩:ByteArray) t105 true _ ?side1 A3.out).mono ?_);(case side1=>exact Glob.step hGl (by repeat (first | (with_reducible first|exact HB.out|apply below_alloc|apply pw_below_drewN|apply below_drew1)|exact HB.out)));rintro e w19 ⟨rfl,hb⟩;refine ⟨_,rfl,?_⟩;have n0_:=Aside0.mk (below_step (by repeat (first | (with_reducible first|exact HB.out|apply below_alloc|apply pw_below_drewN|apply below_drew1)|exact HB.out)) hb);clear HB;have HB:=n0_;clear n0_;(try clear hb);(try clear hb2);(try clear hk);(try clear hi)))
           go_ret
           exact ⟨by first|rfl | (simp [errW_none,errW_some]<;>rfl) | (simp [*,errW_none,errW_some]<;>rfl),by repeat (first | (with_reducible first|exact HB.out|apply below_alloc|apply pw_below_drewN|apply below_drew1)|exact HB.out)⟩
       · rw [if_neg c10] at H
         have c10b0:(t103.toList == ([97,62,98]:List UInt8))=false:=beq_eq_false_iff_ne.mpr c10
         have c10b1:(t103.toList != ([97,62,98]:List UInt8))=true:=bne_iff_ne.mpr c10
         obtain rfl:=Option.some.inj H
         go_enter Tryz.func16,Tryz.ntmps16
         go_wp2_with (first | ((with_reducible refine gate_callee (f:=18) rfl ?_);refine goesL_ (some 8) rfl rfl Tryz.func18 (by kernel_rfl) rfl #[.int .i64 0,.bool false,.string (⟨#[97,60,98,62]⟩:ByteArray)] rfl (by (try simp only [List.map_toArray,List.map_cons,List.map_nil]);first|done|rfl | (simp only [List.length_drop,List.length_take];rfl)) ?_;(with_reducible refine (context_Parse.calls 0 false (⟨#[97,60,98,62]⟩:ByteArray) t101 false _ ?side1 A1.out).mono ?_);(case side1=>exact Glob.step hGl (by repeat (first | (with_reducible first|exact HB.out|apply below_alloc|apply pw_below_drewN|apply below_drew1)|exact HB.out)));rintro e w20 ⟨rfl,hb⟩;refine ⟨_,rfl,?_⟩;have n0_:=Aside0.mk (below_step (by repeat (first | (with_reducible first|exact HB.out|apply below_alloc|apply pw_below_drewN|apply below_drew1)|exact HB.out)) hb);clear HB;have HB:=n0_;clear n0_;(try clear hb);(try clear hb2);(try clear hk);(try clear hi)) | ((with_reducible refine gate_callee (f:=18) rfl ?_);refine goesL_ (some 12) rfl rfl Tryz.func18 (by kernel_rfl) rfl #[.int .i64 1,.bool false,.string (⟨#[97,62,98]⟩:ByteArray)] rfl (by (try simp only [List.map_toArray,List.map_cons,List.map_nil]);first|done|rfl | (simp only [List.length_drop,List.length_take];rfl)) ?_;(with_reducible refine (context_Parse.calls 1 false (⟨#[97,62,98]⟩:ByteArray) t103 true _ ?side1 A2.out).mono ?_);(case side1=>exact Glob.step hGl (by repeat (first | (with_reducible first|exact HB.out|apply below_alloc|apply pw_below_drewN|apply below_drew1)|exact HB.out)));rintro e w21 ⟨rfl,hb⟩;refine ⟨_,rfl,?_⟩;have n0_:=Aside0.mk (below_step (by repeat (first | (with_reducible first|exact HB.out|apply below_alloc|apply pw_below_drewN|apply below_drew1)|exact HB.out)) hb);clear HB;have HB:=n0_;clear n0_;(try clear hb);(try clear hb2);(try clear hk);(try clear hi)) | ((with_reducible refine gate_callee (f:=18) rfl ?_);refine goesL_ (some 16) rfl rfl Tryz.func18 (by kernel_rfl) rfl #[.int .i64 2,.bool false,.string (⟨#[10,97]⟩:ByteArray)] rfl (by (try simp only [List.map_toArray,List.map_cons,List.map_nil]);first|done|rfl | (simp only [List.length_drop,List.length_take];rfl)) ?_;(with_reducible refine (context_Parse.calls 2 false (⟨#[10,97]⟩:ByteArray) t105 true _ ?side1 A3.out).mono ?_);(case side1=>exact Glob.step hGl (by repeat (first | (with_reducible first|exact HB.out|apply below_alloc|apply pw_below_drewN|apply below_drew1)|exact HB.out)));rintro e w22 ⟨rfl,hb⟩;refine ⟨_,rfl,?_⟩;have n0_:=Aside0.mk (below_step (by repeat (first | (with_reducible first|exact HB.out|apply below_alloc|apply pw_below_drewN|apply below_drew1)|exact HB.out)) hb);clear HB;have HB:=n0_;clear n0_;(try clear hb);(try clear hb2);(try clear hk);(try clear hi)))
         go_ret
         exact ⟨by first|rfl | (simp [errW_none,errW_some]<;>rfl) | (simp [*,errW_none,errW_some]<;>rfl),by repeat (first | (with_reducible first|exact HB.out|apply below_alloc|apply pw_below_drewN|apply below_drew1)|exact HB.out)⟩
     · replace c9:=Bool.eq_false_iff.mpr c9
       subst c9
       have H1:(some false)=some r:=by rw [if_neg (show ¬ (false=true) by decide)] at H;exact H
       clear H
       have H:=H1
       clear H1
       obtain rfl:=Option.some.inj H
       go_enter Tryz.func16,Tryz.ntmps16
       go_wp2_with (first | ((with_reducible refine gate_callee (f:=18) rfl ?_);refine goesL_ (some 8) rfl rfl Tryz.func18 (by kernel_rfl) rfl #[.int .i64 0,.bool false,.string (⟨#[97,60,98,62]⟩:ByteArray)] rfl (by (try simp only [List.map_toArray,List.map_cons,List.map_nil]);first|done|rfl | (simp only [List.length_drop,List.length_take];rfl)) ?_;(with_reducible refine (context_Parse.calls 0 false (⟨#[97,60,98,62]⟩:ByteArray) t101 false _ ?side1 A1.out).mono ?_);(case side1=>exact Glob.step hGl (by repeat (first | (with_reducible first|exact HB.out|apply below_alloc|apply pw_below_drewN|apply below_drew1)|exact HB.out)));rintro e w23 ⟨rfl,hb⟩;refine ⟨_,rfl,?_⟩;have n0_:=Aside0.mk (below_step (by repeat (first | (with_reducible first|exact HB.out|apply below_alloc|apply pw_below_drewN|apply below_drew1)|exact HB.out)) hb);clear HB;have HB:=n0_;clear n0_;(try clear hb);(try clear hb2);(try clear hk);(try clear hi)) | ((with_reducible refine gate_callee (f:=18) rfl ?_);refine goesL_ (some 12) rfl rfl Tryz.func18 (by kernel_rfl) rfl #[.int .i64 1,.bool false,.string (⟨#[97,62,98]⟩:ByteArray)] rfl (by (try simp only [List.map_toArray,List.map_cons,List.map_nil]);first|done|rfl | (simp only [List.length_drop,List.length_take];rfl)) ?_;(with_reducible refine (context_Parse.calls 1 false (⟨#[97,62,98]⟩:ByteArray) t103 true _ ?side1 A2.out).mono ?_);(case side1=>exact Glob.step hGl (by repeat (first | (with_reducible first|exact HB.out|apply below_alloc|apply pw_below_drewN|apply below_drew1)|exact HB.out)));rintro e w24 ⟨rfl,hb⟩;refine ⟨_,rfl,?_⟩;have n0_:=Aside0.mk (below_step (by repeat (first | (with_reducible first|exact HB.out|apply below_alloc|apply pw_below_drewN|apply below_drew1)|exact HB.out)) hb);clear HB;have HB:=n0_;clear n0_;(try clear hb);(try clear hb2);(try clear hk);(try clear hi)) | ((with_reducible refine gate_callee (f:=18) rfl ?_);refine goesL_ (some 16) rfl rfl Tryz.func18 (by kernel_rfl) rfl #[.int .i64 2,.bool false,.string (⟨#[10,97]⟩:ByteArray)] rfl (by (try simp only [List.map_toArray,List.map_cons,List.map_nil]);first|done|rfl | (simp only [List.length_drop,List.length_take];rfl)) ?_;(with_reducible refine (context_Parse.calls 2 false (⟨#[10,97]⟩:ByteArray) t105 false _ ?side1 A3.out).mono ?_);(case side1=>exact Glob.step hGl (by repeat (first | (with_reducible first|exact HB.out|apply below_alloc|apply pw_below_drewN|apply below_drew1)|exact HB.out)));rintro e w25 ⟨rfl,hb⟩;refine ⟨_,rfl,?_⟩;have n0_:=Aside0.mk (below_step (by repeat (first | (with_reducible first|exact HB.out|apply below_alloc|apply pw_below_drewN|apply below_drew1)|exact HB.out)) hb);clear HB;have HB:=n0_;clear n0_;(try clear hb);(try clear hb2);(try clear hk);(try clear hi)))
       go_ret
       exact ⟨by first|rfl | (simp [errW_none,errW_some]<;>rfl) | (simp [*,errW_none,errW_some]<;>rfl),by repeat (first | (with_reducible first|exact HB.out|apply below_alloc|apply pw_below_drewN|apply below_drew1)|exact HB.out)⟩
   · replace c8:=Bool.eq_false_iff.mpr c8
     subst c8
     have H1:(some false)=some r:=by rw [if_neg (show ¬ (false=true) by decide)] at H;exact H
     clear H
     have H:=H1
     clear H1
     obtain rfl:=Option.some.inj H
     go_enter Tryz.func16,Tryz.ntmps16
     go_wp2_with (first | ((with_reducible refine gate_callee (f:=18) rfl ?_);refine goesL_ (some 8) rfl rfl Tryz.func18 (by kernel_rfl) rfl #[.int .i64 0,.bool false,.string (⟨#[97,60,98,62]⟩:ByteArray)] rfl (by (try simp only [List.map_toArray,List.map_cons,List.map_nil]);first|done|rfl | (simp only [List.length_drop,List.length_take];rfl)) ?_;(with_reducible refine (context_Parse.calls 0 false (⟨#[97,60,98,62]⟩:ByteArray) t101 false _ ?side1 A1.out).mono ?_);(case side1=>exact Glob.step hGl (by repeat (first | (with_reducible first|exact HB.out|apply below_alloc|apply pw_below_drewN|apply below_drew1)|exact HB.out)));rintro e w26 ⟨rfl,hb⟩;refine ⟨_,rfl,?_⟩;have n0_:=Aside0.mk (below_step (by repeat (first | (with_reducible first|exact HB.out|apply below_alloc|apply pw_below_drewN|apply below_drew1)|exact HB.out)) hb);clear HB;have HB:=n0_;clear n0_;(try clear hb);(try clear hb2);(try clear hk);(try clear hi)) | ((with_reducible refine gate_callee (f:=18) rfl ?_);refine goesL_ (some 12) rfl rfl Tryz.func18 (by kernel_rfl) rfl #[.int .i64 1,.bool false,.string (⟨#[97,62,98]⟩:ByteArray)] rfl (by (try simp only [List.map_toArray,List.map_cons,List.map_nil]);first|done|rfl | (simp only [List.length_drop,List.length_take];rfl)) ?_;(with_reducible refine (context_Parse.calls 1 false (⟨#[97,62,98]⟩:ByteArray) t103 false _ ?side1 A2.out).mono ?_);(case side1=>exact Glob.step hGl (by repeat (first | (with_reducible first|exact HB.out|apply below_alloc|apply pw_below_drewN|apply below_drew1)|exact HB.out)));rintro e w27 ⟨rfl,hb⟩;refine ⟨_,rfl,?_⟩;have n0_:=Aside0.mk (below_step (by repeat (first | (with_reducible first|exact HB.out|apply below_alloc|apply pw_below_drewN|apply below_drew1)|exact HB.out)) hb);clear HB;have HB:=n0_;clear n0_;(try clear hb);(try clear hb2);(try clear hk);(try clear hi)) | ((with_reducible refine gate_callee (f:=18) rfl ?_);refine goesL_ (some 16) rfl rfl Tryz.func18 (by kernel_rfl) rfl #[.int .i64 2,.bool false,.string (⟨#[10,97]⟩:ByteArray)] rfl (by (try simp only [List.map_toArray,List.map_cons,List.map_nil]);first|done|rfl | (simp only [List.length_drop,List.length_take];rfl)) ?_;(with_reducible refine (context_Parse.calls 2 false (⟨#[10,97]⟩:ByteArray) t105 t106 _ ?side1 A3.out).mono ?_);(case side1=>exact Glob.step hGl (by repeat (first | (with_reducible first|exact HB.out|apply below_alloc|apply pw_below_drewN|apply below_drew1)|exact HB.out)));rintro e w28 ⟨rfl,hb⟩;refine ⟨_,rfl,?_⟩;have n0_:=Aside0.mk (below_step (by repeat (first | (with_reducible first|exact HB.out|apply below_alloc|apply pw_below_drewN|apply below_drew1)|exact HB.out)) hb);clear HB;have HB:=n0_;clear n0_;(try clear hb);(try clear hb2);(try clear hk);(try clear hi)))
     go_ret
     exact ⟨by first|rfl | (simp [errW_none,errW_some]<;>rfl) | (simp [*,errW_none,errW_some]<;>rfl),by repeat (first | (with_reducible first|exact HB.out|apply below_alloc|apply pw_below_drewN|apply below_drew1)|exact HB.out)⟩
end Go.Proofs.YtcecjoaeolglbaaGreatDoor.Sp
end

section
namespace Go.Proofs.YtcecjoaeolglbaaGreatDoor.Hand
open Go Go.RowKit Go.Proofs.YtcecjoaeolglbaaGreatDoor.Pl Go.Proofs.YtcecjoaeolglbaaGreatDoor.Pb Go.Proofs.YtcecjoaeolglbaaGreatDoor.Pure
theorem drive_txt {t:List UInt8} (h:(60:UInt8)∉t):driveL t=txtT (rdL false t):=by
 cases ht:t with
 | nil=>rfl
 | cons c r =>
   have hn:t≠[]:=by rw [ht];simp
   rw [← ht]
   have:=drvL_text (r:=[]) hn h rfl
   rw [List.append_nil,drvL_nil] at this
   unfold driveL
   rw [this]
   simp [joinL]
theorem only_txt {t:List UInt8} (h:(60:UInt8)∉t):onlyL (driveL t)=(rdL false t,true):=by
 rw [drive_txt h]
 unfold txtT
 split
 · rename_i e;rw [e];rfl
 · rfl
theorem tagN_b (x:List UInt8):tagN (60::98::x)=1:=rfl
theorem attrL_62 (L:List AttrT) (x:List UInt8):attrL L (62::x)=some (L,false,x):=by
 rw [attrL_eq,show spL (62::x)=62::x from rfl]
 simp only [if_true]
theorem tokL_b (x:List UInt8):tokL (60::98::62::x)=(some (.start [98] [] false),x):=by
 unfold tokL
 rw [if_pos (by rw [tagN_b];decide)]
 unfold tagL
 rw [tagN_b,show (((60:UInt8)::98::62::x).drop 1).dropWhile stC=62::x from rfl,attrL_62]
 rfl
theorem drvL_b (x:List UInt8):drvL (60::98::62::x) = .start [98] [] false::drvL x:=by
 rw [drvL_eq (by simp),tokL_b]
 rfl
theorem only_b {t:List UInt8} (h:(60:UInt8)∉t):(onlyL (driveL (t++[60,98,62]))).2=false:=by
 have hd:drvL (t++[60,98,62])=(if t=[] then [] else [.text (rdL false t)])++[.start [98] [] false]:=by
  by_cases ht:t=[]
  · subst ht;rw [if_pos rfl,List.nil_append,drvL_b,drvL_nil];rfl
  · rw [if_neg ht,drvL_text ht h rfl,drvL_b,drvL_nil];rfl
 have hj:∃ u,driveL (t++[60,98,62])=txtT u++[.start [98] [] false]:=by
  unfold driveL
  rw [hd]
  split
  · exact ⟨[],rfl⟩
  · exact ⟨rdL false t,joinL_txno _ [] rfl⟩
 obtain ⟨u,hu⟩:=hj
 rw [hu]
 unfold txtT
 split<;>rfl
theorem spL_sp (r:List UInt8):spL (32::r)=spL r:=rfl
theorem attrL_sp (L:List AttrT) (r:List UInt8):attrL L (32::r)=attrL L r:=by rw [attrL_eq,attrL_eq L r,spL_sp]
theorem tokL_a {x r:List UInt8} {al:List AttrT} {self:Bool} (h:attrL [] x=some (al,self,r)):tokL (60::97::32::x)=(some (.start [97] al self),r):=by
 have ht:tagN (60::97::32::x)=1:=rfl
 unfold tokL
 rw [if_pos (by rw [ht];decide)]
 unfold tagL
 rw [ht,show (((60:UInt8)::97::32::x).drop 1).dropWhile stC=32::x from rfl,attrL_sp,h]
 rfl
theorem drive_a {x:List UInt8} {al:List AttrT} {self:Bool} (h:attrL [] x=some (al,self,[])):driveL (60::97::32::x)=[.start [97] al self]:=by
 unfold driveL
 rw [drvL_eq (by simp),tokL_a h]
 rfl
theorem qB_or (single:Bool):qB single=34∨qB single=39:=by cases single<;>decide
theorem wrap1 (single:Bool) (t:List UInt8):wrapL 1 single t=60::97::32::120::61::qB single::(t++qB single::[62]):=by
 unfold wrapL attrO
 rw [if_neg (by decide),if_pos rfl]
 rfl
theorem value_txt (single:Bool) {t:List UInt8} (h:qB single∉t):valueL (driveL (wrapL 1 single t))=(cleanL (rdL true t),true):=by
 rw [wrap1,drive_a (al:=[([120],cleanL (rdL true t))]) (self:=false) (by rw [quoted_L (qB_or single) h,attrL_62])]
 rfl
theorem ends_ne {c:UInt8} (r name:List UInt8) (h:c≠60):endsL (c::r) name=false:=by
 cases he:endsL (c::r) name with
 | false=>rfl
 | true =>
   have:=ends_pref he
   simp [List.isPrefixOf] at this
   exact absurd this.1.symm h
theorem firstE_app (name:List UInt8) {s:List UInt8} (r:List UInt8) (h:(60:UInt8)∉s):firstE name (s++r)=s.length+firstE name r:=by
 induction s with
 | nil=>rw [List.nil_append];exact (Nat.zero_add _).symm
 | cons c s ih =>
   rw [List.mem_cons,not_or] at h
   rw [List.cons_append,firstE,if_neg (by rw [ends_ne _ _ (fun e=>h.1 e.symm)];decide),ih h.2,List.length_cons]
   omega
theorem firstE_areaC (y:List UInt8):firstE areaW (areaC++y)=0:=by
 show firstE areaW (60::_)=0
 rw [firstE,if_pos (by rfl)]
theorem tagR_areaC (y:List UInt8):tagR (areaC++y)=(some (.fin areaW),y):=by
 have ht:tagN (areaC++y)=2:=rfl
 unfold tagR
 rw [if_neg (by rw [ht];decide)]
 unfold tagL
 rw [ht,show ((areaC++y).drop 2).dropWhile stC=62::y from rfl,attrL_62]
 rfl
theorem restL_area {x y:List UInt8} {n:Nat} (hn:firstE areaW x=n) (hd:x.drop n=areaC++y):restL 1 areaW x=(txtT (rawT true (x.take n))++[.fin areaW],y):=by
 have he:endN 1 areaW x=n:=by unfold endN;rw [if_pos (.inl rfl),hn]
 unfold restL
 rw [if_neg (by decide),he,hd,if_neg (by simp [areaC]),tagR_areaC]
 rfl
theorem drvL_area (x:List UInt8):drvL (areaO++x) = .start areaW [] false::((restL 1 areaW x).1++drvL (restL 1 areaW x).2):=by
 have ht:tagN (areaO++x)=1:=rfl
 have hk:tokL (areaO++x)=(some (.start areaW [] false),x):=by
  unfold tokL
  rw [if_pos (by rw [ht];decide)]
  unfold tagL
  rw [ht,show ((areaO++x).drop 1).dropWhile stC=62::x from rfl,attrL_62]
  rfl
 rw [drvL_eq (by simp [areaO]),hk]
 rfl
theorem join_area (u:List UInt8) (r:List Tk):joinL (.start areaW [] false::(txtT u++(.fin areaW::r))) = .start areaW [] false::(txtT u++(.fin areaW::joinL r)):=by
 rw [joinL_no _ rfl]
 congr 1
 unfold txtT
 split
 · exact joinL_no _ rfl
 · rename_i hu
   show joinL (.text u :: .fin areaW::r)=_
   rw [joinL_txno _ _ rfl]
   unfold txtT;rw [if_neg hu]
theorem within_txt {x:List UInt8} {n:Nat} (single:Bool) (hn:firstE areaW (x++areaC)=n) (hl:n=x.length):withinL (driveL (wrapL 2 single x))=(trimN (cleanL (rdL false x)),true):=by
 have hr:=restL_area (x:=x++areaC) (y:=[]) (hn.trans hl) (by rw [List.drop_left,List.append_nil])
 rw [List.take_left] at hr
 have hw:wrapL 2 single x=areaO++(x++areaC):=by unfold wrapL;rw [if_neg (by decide),if_neg (by decide),if_pos rfl]
 unfold driveL
 rw [hw,drvL_area,hr]
 simp only [drvL_nil,List.append_nil]
 rw [join_area,show rawT true x=cleanL (rdL false x) from rfl]
 generalize cleanL (rdL false x)=u
 unfold txtT
 split
 · rename_i e;subst e;rfl
 · rfl
theorem area_plain {x:List UInt8} (h:(60:UInt8)∉x):firstE areaW (x++areaC)=x.length:=by
 have:=firstE_areaC []
 rw [List.append_nil] at this
 rw [firstE_app _ _ h,this,Nat.add_zero]
end Go.Proofs.YtcecjoaeolglbaaGreatDoor.Hand
end

section
namespace Go.Proofs.YtcecjoaeolglbaaGreatDoor.Hand
open Go Go.RowKit Go.Proofs.YtcecjoaeolglbaaGreatDoor.Pl Go.Proofs.YtcecjoaeolglbaaGreatDoor.Pb Go.Proofs.YtcecjoaeolglbaaGreatDoor.Pure
theorem parse0 (single:Bool) (s:List UInt8):parseL 0 single s=onlyL (driveL (normL s)):=by unfold parseL;rw [if_pos rfl,norm_wrap];rfl
theorem parse1 (single:Bool) (s:List UInt8):parseL 1 single s=valueL (driveL (wrapL 1 single (normL s))):=by unfold parseL;rw [if_neg (by decide),if_pos rfl,norm_wrap]
theorem parse2 (single:Bool) (s:List UInt8):parseL 2 single s=withinL (driveL (wrapL 2 single (normL s))):=by unfold parseL;rw [if_neg (by decide),if_neg (by decide),if_pos rfl,norm_wrap]
theorem aw_1:(parseL 0 false [97,60,98,62]).2=false:=by
 rw [parse0,normL_of_no13 (by decide)]
 exact only_b (t:=[97]) (by decide)
theorem aw_2:parseL 1 false [97,62,98]=([97,62,98],true):=by
 rw [parse1,normL_of_no13 (by decide),value_txt false (by decide),rdL_no true (by decide)];rfl
theorem aw_3:parseL 2 false [10,97]=([97],true):=by
 rw [parse2,normL_of_no13 (by decide),within_txt false (area_plain (by decide)) rfl,rdL_no false (by decide)];rfl
end Go.Proofs.YtcecjoaeolglbaaGreatDoor.Hand
end

section
namespace Go.Proofs.YtcecjoaeolglbaaGreatDoor.Hand
open Go Go.RowKit Go.Proofs.YtcecjoaeolglbaaGreatDoor.Pl Go.Proofs.YtcecjoaeolglbaaGreatDoor.Pb
def rowAt (T:List UInt8) (p:Nat) (key rest:List UInt8):Bool:=(T[p]? == some 10)&&(lnT T (p+1) == key++32::rest)
def wordAmp:List UInt8:=[97,109,112]
def wordLt:List UInt8:=[108,116]
def wordGt:List UInt8:=[103,116]
def wordQuot:List UInt8:=[113,117,111,116]
def wordNbsp:List UInt8:=[110,98,115,112]
set_option maxRecDepth 1000000 in
theorem rows_are:(rowAt namesL 9820 (wordAmp++[59]) [50,54]&&(rowAt namesL 9813 wordAmp [50,54]&&(rowAt namesL 19023 (wordLt++[59]) [51,67]&&(rowAt namesL 15791 (wordGt++[59]) [51,69]&&(rowAt namesL 23656 (wordQuot++[59]) [50,50]&&rowAt namesL 20038 (wordNbsp++[59]) [65,48])))))=true:=by kernel_rfl
theorem row_fnd {p:Nat} {key rest:List UInt8} (h:rowAt namesL p key rest=true) (hk:∀ c∈key,c≠10∧c≠32):Fnd namesL key (some rest):=by
 unfold rowAt at h
 rw [Bool.and_eq_true,beq_iff_eq,beq_iff_eq] at h
 obtain ⟨h1,h2⟩:=h
 refine .inl ⟨p+1,.inr ⟨p,rfl,h1⟩,?_,?_⟩
 · unfold kyT;rw [h2,ky_row hk]
 · rw [h2];unfold rsL;rw [ky_row hk,List.drop_append,List.drop_eq_nil_of_le (by omega),List.nil_append,show key.length+1 - key.length=1 by omega];rfl
theorem fnd_amp:Fnd namesL (wordAmp++[59]) (some [50,54]):=row_fnd (Bool.and_eq_true_iff.1 rows_are).1 (by decide)
theorem fnd_lt:Fnd namesL (wordLt++[59]) (some [51,67]):=row_fnd (Bool.and_eq_true_iff.1 (Bool.and_eq_true_iff.1 (Bool.and_eq_true_iff.1 rows_are).2).2).1 (by decide)
theorem fnd_gt:Fnd namesL (wordGt++[59]) (some [51,69]):=row_fnd (Bool.and_eq_true_iff.1 (Bool.and_eq_true_iff.1 (Bool.and_eq_true_iff.1 (Bool.and_eq_true_iff.1 rows_are).2).2).2).1 (by decide)
theorem fnd_quot:Fnd namesL (wordQuot++[59]) (some [50,50]):=row_fnd (Bool.and_eq_true_iff.1 (Bool.and_eq_true_iff.1 (Bool.and_eq_true_iff.1 (Bool.and_eq_true_iff.1 (Bool.and_eq_true_iff.1 rows_are).2).2).2).2).1 (by decide)
theorem fnd_key {key rest:List UInt8} (h:Fnd namesL key (some rest)):isKey namesL key:=(fnd_rest h).2.2
theorem nameT_of {key rest:List UInt8} (h:Fnd namesL key (some rest)):nameT key=(textB (num1 rest) (num2 rest)).data.toList:=by unfold nameT;rw [rowN_eq h]
theorem nameT_amp:nameT (wordAmp++[59])=[38]:=by rw [nameT_of fnd_amp];decide +kernel
theorem nameT_lt:nameT (wordLt++[59])=[60]:=by rw [nameT_of fnd_lt];decide +kernel
theorem nameT_gt:nameT (wordGt++[59])=[62]:=by rw [nameT_of fnd_gt];decide +kernel
theorem nameT_quot:nameT (wordQuot++[59])=[34]:=by rw [nameT_of fnd_quot];decide +kernel
theorem lng_stop {k r:List UInt8} {c:UInt8} (hk:isKey namesL k) (hc:kyC c=false∧c≠59∨k.getLast? = some 59):lngN (k++c::r)=k.length:=by
 have hf:=key_facts hk
 refine lngN_eq ⟨?_,.inr (by rw [List.take_left];exact hk),fun m h1 h2 hm => ?_⟩
 · have:=hf.le;simp;omega
 · have hg:=key_facts hm
   have h2':m≤(k++c::r).length:=by omega
   obtain ⟨d,rfl⟩:∃ d,m=k.length+1+d:=⟨m - (k.length+1),by omega⟩
   have e:(k++c::r).take (k.length+1+d)=k++c::r.take d:=by
    rw [List.take_append,List.take_of_length_le (by omega),show k.length+1+d - k.length=d+1 by omega,List.take_succ_cons]
   rw [e] at hg
   rcases hc with ⟨h3,h4⟩|h3
   ·
    cases hd:r.take d with
    | nil =>
      rw [hd] at hg
      obtain ⟨x,hx,hx2⟩:=hg.last
      simp at hx
      subst hx
      rcases hx2 with h|h
      · rw [h3] at h;cases h
      · exact h4 h
    | cons y t =>
      rw [hd] at hg
      have hmem:c∈(k++c::y::t).dropLast:=by
       rw [List.dropLast_append_of_ne_nil (by simp)]
       simp
      have:=hg.inner c hmem
      rw [h3] at this;cases this
   · have hmem:(59:UInt8)∈(k++c::r.take d).dropLast:=by
      rw [List.dropLast_append_of_ne_nil (by simp)]
      exact List.mem_append_left _ (List.mem_of_getLast? h3)
     have:=hg.inner 59 hmem
     exact absurd this (by decide)
theorem num_letter {k r:List UInt8} (hk:isKey namesL k):numL (k++r)=none:=by
 have hf:=key_facts hk
 cases k with
 | nil=>exact absurd rfl hf.pos
 | cons c k =>
   have hh:=hf.head
   have h35:c≠35:=by rintro rfl;exact absurd hh (by simp [hdC])
   unfold numL
   rw [if_neg]
   simp [begR,h35]
   have:∀ n:Fin 256,lowB (UInt8.ofNat n.val)=35→UInt8.ofNat n.val=35:=by decide +kernel
   have h:=this ⟨c.toNat,c.toNat_lt⟩
   simp only [UInt8.ofNat_toNat] at h
   exact fun e=>h35 (h e)
theorem refN_semi {attr:Bool} {w:List UInt8} (r:List UInt8) (hk:isKey namesL (w++[59])):refN attr (38::(w++59::r))=(nameT (w++[59]),w.length+2):=by
 have hl:lngN (w++59::r)=w.length+1:=by
  cases r with
  | nil =>
    refine lngN_eq ⟨?_,.inr ?_,fun m h1 h2 _ => ?_⟩
    · have:=(key_facts hk).le;simp at this ⊢;omega
    · rw [List.take_of_length_le (by simp)];exact hk
    · simp at h2;omega
  | cons c r =>
    have:=lng_stop (c:=c) (r:=r) hk (.inr (by simp))
    rw [List.append_assoc] at this
    simpa using this
 have hn:numL (w++59::r)=none:=by
  have:=num_letter (r:=r) hk
  rwa [List.append_assoc] at this
 have ht:(w++59::r).take (w.length+1)=w++[59]:=by
  rw [List.take_append,List.take_of_length_le (by omega),show w.length+1 - w.length=1 by omega];rfl
 unfold refN
 rw [List.drop_succ_cons,List.drop_zero,hn,hl,ht]
 simp only
 rw [if_neg,show 1+(w.length+1)=w.length+2 by omega]
 rintro (e|e)
 · omega
 · unfold leftL at e
   rw [show Lib.hasSuffix (w++[59]) [59]=true by unfold Lib.hasSuffix;simp] at e
   simp at e
theorem rdL_semi {attr:Bool} {w:List UInt8} (r:List UInt8) (hk:isKey namesL (w++[59])):rdL attr (38::(w++59::r))=nameT (w++[59])++rdL attr r:=by
 rw [rdL_amp,refN_semi r hk]
 simp only
 congr 2
 rw [List.drop_succ_cons,List.drop_append,List.drop_eq_nil_of_le (by omega),show w.length+1 - w.length=1 by omega];rfl
theorem numL_dec (ds r:List UInt8) (h:∀ c∈ds,isDg false c=true) (h0:ds≠[]) {m:Nat} (hv:valL 10 ds=m):numL (35::(ds++59::r))=some (m,ds.length+2):=by
 have hx:begR (ds++59::r) [120]=false:=by
  cases ds with
  | nil=>exact absurd rfl h0
  | cons c ds =>
    have hc:=h c (by simp)
    have:∀ n:Fin 256,isDg false (UInt8.ofNat n.val)=true→(lowB (UInt8.ofNat n.val) == 120)=false:=by decide +kernel
    have g:=this ⟨c.toNat,c.toNat_lt⟩
    simp only [UInt8.ofNat_toNat] at g
    simp [begR,g hc]
 have hd:digs false (ds++59::r)=ds:=by
  unfold digs
  rw [tw_app _ _ _ h,List.takeWhile_cons,if_neg (by decide),List.append_nil]
 unfold numL
 rw [show begR (35::(ds++59::r)) [35]=true by simp [begR,lowB],if_pos rfl,List.drop_succ_cons,List.drop_zero,hx,if_neg (by decide)]
 unfold numQ
 simp only [hd]
 rw [show baseN false=10 from rfl,hv,if_neg (by omega),List.drop_left,show begR (59::r) [59]=true by simp [begR,lowB],if_pos rfl]
 simp only [Option.map_some,Int.toNat_natCast]
theorem refN_dec {attr:Bool} (ds r:List UInt8) (h:∀ c∈ds,isDg false c=true) (h0:ds≠[]) {m:Nat} (hv:valL 10 ds=m):refN attr (38::35::(ds++59::r))=((fixB m).data.toList,ds.length+3):=by
 unfold refN
 rw [List.drop_succ_cons,List.drop_zero,numL_dec ds r h h0 hv]
 simp only
 rw [show 1+(ds.length+2)=ds.length+3 by omega]
theorem rdL_dec {attr:Bool} (ds r:List UInt8) (h:∀ c∈ds,isDg false c=true) (h0:ds≠[]) {m:Nat} (hv:valL 10 ds=m):rdL attr (38::35::(ds++59::r))=(fixB m).data.toList++rdL attr r:=by
 rw [rdL_amp,refN_dec ds r h h0 hv]
 simp only
 congr 2
 rw [show ds.length+3=(ds.length+1)+2 by omega,List.drop_succ_cons,List.drop_succ_cons,List.drop_append,List.drop_eq_nil_of_le (by omega),show ds.length+1 - ds.length=1 by omega];rfl
end Go.Proofs.YtcecjoaeolglbaaGreatDoor.Hand
end

section
namespace Go.Proofs.YtcecjoaeolglbaaGreatDoor.Pl
def replS (f:UInt8→Option (List UInt8×List UInt8)):Nat→List UInt8→List UInt8
 | _,[]=>[]
 | k+1,_::r=>replS f k r
 | 0,c::r=>match f c with
   | some (t,v)=>if t.isPrefixOf r=true then v++replS f t.length r else c::replS f 0 r
   | none=>c::replS f 0 r
theorem replS_nil (f:UInt8→Option (List UInt8×List UInt8)) (k:Nat):replS f k []=[]:=by cases k<;>rfl
theorem replS_skip (f:UInt8→Option (List UInt8×List UInt8)):∀ (k:Nat) (s:List UInt8),replS f k s=replS f 0 (s.drop k):=by
 intro k
 induction k with
 | zero=>intro s;rfl
 | succ k ih =>
   intro s
   cases s with
   | nil=>rfl
   | cons c r=>exact ih r
theorem replS_none {f:UInt8→Option (List UInt8×List UInt8)} {c:UInt8} (h:f c=none) (r:List UInt8):replS f 0 (c::r)=c::replS f 0 r:=by
 rw [replS,h]
theorem replS_hit {f:UInt8→Option (List UInt8×List UInt8)} {c:UInt8} {t v r:List UInt8} (h:f c=some (t,v)) (hp:t.isPrefixOf r=true):replS f 0 (c::r)=v++replS f 0 (r.drop t.length):=by
 rw [replS,h]
 simp only [hp,if_true]
 rw [replS_skip]
theorem replS_miss {f:UInt8→Option (List UInt8×List UInt8)} {c:UInt8} {t v r:List UInt8} (h:f c=some (t,v)) (hp:¬ t.isPrefixOf r=true):replS f 0 (c::r)=c::replS f 0 r:=by
 rw [replS,h]
 simp only [hp]
 rfl
def wAmp:List UInt8:=[38,97,109,112,59]
def wLt:List UInt8:=[38,108,116,59]
def wGt:List UInt8:=[38,103,116,59]
def wQuot:List UInt8:=[38,113,117,111,116,59]
def wApos:List UInt8:=[38,35,51,57,59]
def wCr:List UInt8:=[38,35,49,51,59]
def wBad:List UInt8:=[239,191,189]
def wMark:List UInt8:=[38,35,54,53,50,55,57,59]
def escF (c:UInt8):Option (List UInt8×List UInt8) :=
 if c=38 then some ([],wAmp) else if c=60 then some ([],wLt) else if c=62 then some ([],wGt) else if c=34 then some ([],wQuot)
 else if c=39 then some ([],wApos) else if c=13 then some ([],wCr) else if c=0 then some ([],wBad) else if c=239 then some ([187,191],wMark) else none
def escL (s:List UInt8):List UInt8:=replS escF 0 s
def encL (dest:Int) (s:List UInt8):List UInt8 :=
 if dest=0∨dest=1 then escL s else if dest=2 then (if s.head? = some 10 then 10::escL s else escL s) else []
theorem esc_cases (c:UInt8) (r:List UInt8) (P:List UInt8→Prop)
  (h38:c=38→P (wAmp++escL r)) (h60:c=60→P (wLt++escL r)) (h62:c=62→P (wGt++escL r)) (h34:c=34→P (wQuot++escL r)) (h39:c=39→P (wApos++escL r))
  (h13:c=13→P (wCr++escL r)) (h0:c=0→P (wBad++escL r)) (hm:∀ q,c=239→r=187::191::q→P (wMark++escL q))
  (hc:c≠38→c≠60→c≠62→c≠34→c≠39→c≠13→c≠0→(c=239→¬ [187,191].isPrefixOf r=true)→P (c::escL r)):P (escL (c::r)):=by
 unfold escL at *
 have hit:∀ {v:List UInt8},escF c=some ([],v)→P (v++replS escF 0 r)→P (replS escF 0 (c::r)):=by
  intro v h hp
  rw [replS_hit h rfl];exact hp
 by_cases e1:c=38
 · exact hit (by simp [escF,e1]) (h38 e1)
 by_cases e2:c=60
 · exact hit (by simp [escF,e2]) (h60 e2)
 by_cases e3:c=62
 · exact hit (by simp [escF,e3]) (h62 e3)
 by_cases e4:c=34
 · exact hit (by simp [escF,e4]) (h34 e4)
 by_cases e5:c=39
 · exact hit (by simp [escF,e5]) (h39 e5)
 by_cases e6:c=13
 · exact hit (by simp [escF,e6]) (h13 e6)
 by_cases e7:c=0
 · exact hit (by simp [escF,e7]) (h0 e7)
 by_cases e8:c=239
 · have hf:escF c=some ([187,191],wMark):=by simp [escF,e8]
   by_cases hp:[187,191].isPrefixOf r=true
   · rw [replS_hit hf hp]
     obtain ⟨q,rfl⟩:=List.isPrefixOf_iff_prefix.1 hp
     exact hm q e8 rfl
   · rw [replS_miss hf hp]
     exact hc e1 e2 e3 e4 e5 e6 e7 fun _=>hp
 · rw [replS_none (by simp [escF,e1,e2,e3,e4,e5,e6,e7,e8])]
   exact hc e1 e2 e3 e4 e5 e6 e7 fun e=>absurd e e8
def scanE:Bool→List UInt8→Bool
 | o,[] => !o
 | o,c::r=>if c=60∨c=62∨c=34∨c=39∨c=0∨c=13 then false else if c=38 then !o&&scanE true r else if c=59 then scanE false r else scanE o r
theorem scan_plain {o:Bool} {c:UInt8} {r:List UInt8} (h1:c≠60) (h2:c≠62) (h3:c≠34) (h4:c≠39) (h5:c≠0) (h6:c≠13) (h7:c≠38):scanE o (c::r)=scanE (if c=59 then false else o) r:=by
 rw [scanE,if_neg (by simp [h1,h2,h3,h4,h5,h6]),if_neg h7]
 by_cases h:c=59<;>simp [h]
theorem scan_esc:∀ n (s:List UInt8),s.length≤n→scanE false (escL s)=true:=by
 intro n
 induction n with
 | zero=>intro s h;obtain rfl:=List.eq_nil_of_length_eq_zero (Nat.le_zero.1 h);rfl
 | succ n ih =>
   intro s h
   cases s with
   | nil=>rfl
   | cons c r =>
     have hr:=ih r (by simp at h;omega)
     refine esc_cases c r (fun l=>scanE false l=true) ?_ ?_ ?_ ?_ ?_ ?_ ?_ ?_ ?_
     all_goals try (intro _;simp [wAmp,wLt,wGt,wQuot,wApos,wCr,wBad,scanE,hr];done)
     · intro q _ e
       have hq:=ih q (by subst e;simp at h;omega)
       simp [wMark,scanE,hq]
     · intro h38 h60 h62 h34 h39 h13 h0 _
       rw [scan_plain h60 h62 h34 h39 h0 h13 h38]
       simp [hr]
theorem scan_enc (k:Int) (s:List UInt8):scanE false (encL k s)=true:=by
 have h:=scan_esc s.length s (Nat.le_refl _)
 unfold encL
 split
 · exact h
 · split
   · split
     · rw [scan_plain (by decide) (by decide) (by decide) (by decide) (by decide) (by decide) (by decide)]
       exact h
     · exact h
   · rfl
theorem esc_length:∀ n (s:List UInt8),s.length≤n→(escL s).length≤6*s.length∧(s.head? = some 10→(escL s).length+5≤6*s.length):=by
 intro n
 induction n with
 | zero=>intro s h;obtain rfl:=List.eq_nil_of_length_eq_zero (Nat.le_zero.1 h);simp [escL,replS]
 | succ n ih =>
   intro s h
   cases s with
   | nil=>simp [escL,replS]
   | cons c r =>
     have hr:=(ih r (by simp at h;omega)).1
     refine esc_cases c r (fun l=>l.length≤6*(c::r).length∧((c::r).head? = some 10→l.length+5≤6*(c::r).length)) ?_ ?_ ?_ ?_ ?_ ?_ ?_ ?_ ?_
     · intro e;subst e;simp [wAmp];omega
     · intro e;subst e;simp [wLt];omega
     · intro e;subst e;simp [wGt];omega
     · intro e;subst e;simp [wQuot];omega
     · intro e;subst e;simp [wApos];omega
     · intro e;subst e;simp [wCr];omega
     · intro e;subst e;simp [wBad];omega
     · intro q e1 e
       have hq:=(ih q (by subst e;simp at h;omega)).1
       subst e1;subst e
       simp [wMark];omega
     · intros;simp;omega
theorem enc_length (k:Int) (s:List UInt8):(encL k s).length≤6*s.length:=by
 have h:=esc_length s.length s (Nat.le_refl _)
 unfold encL
 split
 · exact h.1
 · split
   · split
     · rename_i h10;have:=h.2 h10;simp;omega
     · exact h.1
   · simp
end Go.Proofs.YtcecjoaeolglbaaGreatDoor.Pl
end

section
namespace Go.Proofs.YtcecjoaeolglbaaGreatDoor.Hand
open Go Go.RowKit Go.Proofs.YtcecjoaeolglbaaGreatDoor.Pl Go.Proofs.YtcecjoaeolglbaaGreatDoor.Pb
theorem dec_apos (attr:Bool) (r:List UInt8):rdL attr (wApos++r)=39::rdL attr r:=by
 have:=rdL_dec (attr:=attr) [51,57] r (by decide) (by decide) (m:=39) (by decide)
 exact this.trans (by rw [show (fixB 39).data.toList=[39] by decide +kernel];rfl)
theorem dec_cr (attr:Bool) (r:List UInt8):rdL attr (wCr++r)=13::rdL attr r:=by
 have:=rdL_dec (attr:=attr) [49,51] r (by decide) (by decide) (m:=13) (by decide)
 exact this.trans (by rw [show (fixB 13).data.toList=[13] by decide +kernel];rfl)
theorem dec_mark (attr:Bool) (r:List UInt8):rdL attr (wMark++r)=239::187::191::rdL attr r:=by
 have:=rdL_dec (attr:=attr) [54,53,50,55,57] r (by decide) (by decide) (m:=65279) (by decide)
 exact this.trans (by rw [show (fixB 65279).data.toList=[239,187,191] by decide +kernel];rfl)
theorem dec_amp (attr:Bool) (r:List UInt8):rdL attr (wAmp++r)=38::rdL attr r:=by
 have:=rdL_semi (attr:=attr) (w:=wordAmp) r (fnd_key fnd_amp)
 exact this.trans (by rw [nameT_amp];rfl)
theorem dec_lt (attr:Bool) (r:List UInt8):rdL attr (wLt++r)=60::rdL attr r:=by
 have:=rdL_semi (attr:=attr) (w:=wordLt) r (fnd_key fnd_lt)
 exact this.trans (by rw [nameT_lt];rfl)
theorem dec_gt (attr:Bool) (r:List UInt8):rdL attr (wGt++r)=62::rdL attr r:=by
 have:=rdL_semi (attr:=attr) (w:=wordGt) r (fnd_key fnd_gt)
 exact this.trans (by rw [nameT_gt];rfl)
theorem dec_quot (attr:Bool) (r:List UInt8):rdL attr (wQuot++r)=34::rdL attr r:=by
 have:=rdL_semi (attr:=attr) (w:=wordQuot) r (fnd_key fnd_quot)
 exact this.trans (by rw [nameT_quot];rfl)
theorem clean_ne {c:UInt8} (r:List UInt8) (h:c≠0):cleanL (c::r)=c::cleanL r:=by rw [cleanL_cons];simp [cleanB,h]
theorem read_esc (attr:Bool):∀ n (s:List UInt8),s.length≤n→rdL attr (escL s)=cleanL s:=by
 intro n
 induction n with
 | zero=>intro s h;obtain rfl:=List.eq_nil_of_length_eq_zero (Nat.le_zero.1 h);rfl
 | succ n ih =>
   intro s h
   cases s with
   | nil=>rfl
   | cons c r =>
     simp only [List.length_cons] at h
     have hr:=ih r (by omega)
     refine esc_cases c r (fun l=>rdL attr l=cleanL (c::r)) ?_ ?_ ?_ ?_ ?_ ?_ ?_ ?_ ?_
     · rintro rfl;rw [dec_amp,hr,clean_ne r (by decide)]
     · rintro rfl;rw [dec_lt,hr,clean_ne r (by decide)]
     · rintro rfl;rw [dec_gt,hr,clean_ne r (by decide)]
     · rintro rfl;rw [dec_quot,hr,clean_ne r (by decide)]
     · rintro rfl;rw [dec_apos,hr,clean_ne r (by decide)]
     · rintro rfl;rw [dec_cr,hr,clean_ne r (by decide)]
     · rintro rfl
       rw [rdL_app attr _ (show (38:UInt8)∉wBad by decide),hr,cleanL_cons];rfl
     · rintro q rfl rfl
       simp only [List.length_cons] at h
       rw [dec_mark,ih q (by omega),clean_ne _ (by decide),clean_ne _ (by decide),clean_ne _ (by decide)]
     · intro h38 _ _ _ _ _ h0 _
       rw [rdL_ne attr _ h38,hr,clean_ne r h0]
theorem read_enc (attr:Bool) (k:Int) (hk:0≤k∧k≤2) (s:List UInt8):rdL attr (encL k s)=(if k=2∧s.head? = some 10 then 10::cleanL s else cleanL s):=by
 have hr:=read_esc attr _ s (Nat.le_refl _)
 unfold encL
 split
 · rw [hr,if_neg (by omega)]
 · rw [if_pos (by omega)]
   split
   · rename_i h;rw [if_pos ⟨by omega,h⟩,rdL_ne attr _ (by decide),hr]
   · rename_i h;rw [if_neg (by rintro ⟨_,e⟩;exact h e),hr]
end Go.Proofs.YtcecjoaeolglbaaGreatDoor.Hand
end

section
namespace Go.Proofs.YtcecjoaeolglbaaGreatDoor.Pure
open Go Go.RowKit Go.Proofs.YtcecjoaeolglbaaGreatDoor.K0 Go.Proofs.YtcecjoaeolglbaaGreatDoor.Hand Go.Proofs.YtcecjoaeolglbaaGreatDoor.Sa Go.Proofs.YtcecjoaeolglbaaGreatDoor.Sp Go.Proofs.YtcecjoaeolglbaaGreatDoorW.PrintWords Go.Proofs.YtcecjoaeolglbaaGreatDoorW.PrintMore Go.Proofs.YtcecjoaeolglbaaGreatDoor.Pl Go.Proofs.YtcecjoaeolglbaaGreatDoor.Pb
theorem int_wfc {k:IntKind} {d:Int} (h:(Lit.int k d).wf=true):k.min≤d∧d≤k.max:=by simpa [Lit.wf] using h
theorem parse_f (d:Int) (single:Bool) (s:List UInt8) (hs:s.length≤20000):context_Parse.f d single (B s)=some (B (parseL d single s).1,(parseL d single s).2):=by
 unfold context_Parse.f
 rw [if_pos (by rw [size_B];exact hs),B_data]
theorem wrap_f (d:Int) (single:Bool) (s:List UInt8) (hs:s.length≤20000):context_Wrap.f d single (B s)=some (B (wrapL d single s)):=by
 unfold context_Wrap.f
 rw [if_pos (by rw [size_B];omega),B_data]
theorem B_list (x:List UInt8):(B x).toList=x:=by rw [toList_data,B_data]
theorem awake23:flaillaw23_awake.f=some true:=by
 unfold flaillaw23_awake.f
 rw [show (⟨#[97,60,98,62]⟩:ByteArray)=B [97,60,98,62] from rfl,show (⟨#[97,62,98]⟩:ByteArray)=B [97,62,98] from rfl,show (⟨#[10,97]⟩:ByteArray)=B [10,97] from rfl,show (⟨#[122]⟩:ByteArray)=B [122] from rfl,
  parse_f _ _ _ (by decide),parse_f _ _ _ (by decide),parse_f _ _ _ (by decide),wrap_f _ _ _ (by decide),aw_2,aw_3,Option.bind_some,Option.bind_some,Option.bind_some,aw_1,if_neg (by decide),if_pos rfl,if_pos rfl,
  if_pos (B_list _),if_pos (B_list _),Option.bind_some,B_list]
 rfl
end Go.Proofs.YtcecjoaeolglbaaGreatDoor.Pure
namespace Go.Proofs.YtcecjoaeolglbaaGreatDoor.Pcq
open Go Go.RowKit Go.Proofs.YtcecjoaeolglbaaGreatDoor.K0 Go.Proofs.YtcecjoaeolglbaaGreatDoor.Hand Go.Proofs.YtcecjoaeolglbaaGreatDoorW.PrintWords Go.Proofs.YtcecjoaeolglbaaGreatDoorW.PrintMore Go.Proofs.YtcecjoaeolglbaaGreatDoor.Pl Go.Proofs.YtcecjoaeolglbaaGreatDoor.Pb Go.Proofs.YtcecjoaeolglbaaGreatDoor.Pure
theorem scan_all:∀ (t:List UInt8) (o:Bool),scanE o t=true→∀ c∈t,c≠60∧c≠62∧c≠34∧c≠39∧c≠0∧c≠13:=by
 intro t
 induction t with
 | nil=>intro _ _ _ h;cases h
 | cons d r ih =>
   intro o h c hc
   rw [scanE] at h
   split at h
   · cases h
   · rename_i hd
     simp only [not_or] at hd
     rcases List.mem_cons.1 hc with rfl|hc
     · exact hd
     · split at h
       · rw [Bool.and_eq_true] at h;exact ih true h.2 c hc
       · split at h
         · exact ih false h c hc
         · exact ih o h c hc
theorem enc_no (s:List UInt8):(34:UInt8)∉encL 1 s∧(39:UInt8)∉encL 1 s∧(13:UInt8)∉encL 1 s:=by
 have h:=scan_all _ _ (scan_enc 1 s)
 exact ⟨fun m=>(h _ m).2.2.1 rfl,fun m=>(h _ m).2.2.2.1 rfl,fun m=>(h _ m).2.2.2.2.2 rfl⟩
theorem clean_twice (s:List UInt8):cleanL (cleanL s)=cleanL s:=cleanL_of_no0 (cleanL_no0 s)
theorem parse_enc (single:Bool) (s:List UInt8):parseL 1 single (encL 1 s)=(cleanL s,true):=by
 obtain ⟨h1,h2,h3⟩:=enc_no s
 rw [parse1,normL_of_no13 h3,value_txt single (by cases single<;>assumption),read_enc true 1 (by decide),if_neg (by omega),clean_twice]
end Go.Proofs.YtcecjoaeolglbaaGreatDoor.Pcq
end

section
namespace Go.Proofs.YtcecjoaeolglbaaGreatDoor.Pl
open Go
def tailN (c:Nat):Nat×Nat×Nat :=
 if 194≤c∧c≤223 then (128,191,2) else if c=224 then (160,191,3) else if c=237 then (128,159,3) else if 225≤c∧c≤239 then (128,191,3)
 else if c=240 then (144,191,4) else if c=244 then (128,143,4) else if 241≤c∧c≤243 then (128,191,4) else (128,191,1)
def lowO:Option Nat→Nat
 | none=>0
 | some x=>x % 64
def decN (c:Nat) (d e f:Option Nat):Nat×Nat :=
 if c<128 then (c,1)
 else if c / 32=6∧contO d then (if 128≤c % 32*64+lowO d then (c % 32*64+lowO d,2) else (65533,1))
 else if c / 16=14∧contO d∧contO e then (if 2048≤c % 16*4096+lowO d*64+lowO e∧okV (c % 16*4096+lowO d*64+lowO e) then (c % 16*4096+lowO d*64+lowO e,3) else (65533,1))
 else if c / 8=30∧contO d∧contO e∧contO f then (if 65536≤c % 8*262144+lowO d*4096+lowO e*64+lowO f∧okV (c % 8*262144+lowO d*4096+lowO e*64+lowO f) then (c % 8*262144+lowO d*4096+lowO e*64+lowO f,4) else (65533,1))
 else (65533,1)
def firstN (c:Nat) (d e f:Option Nat):Nat×Bool :=
 if c<128 then (1,true)
 else if (tailN c).2.2=1 then (1,false)
 else if ¬ inO (tailN c).1 (tailN c).2.1 d then (1,false)
 else if (tailN c).2.2=2 then (2,true)
 else if ¬ contO e then (2,false)
 else if (tailN c).2.2=3 then (3,true)
 else if contO f then (4,true) else (3,false)
def byteO (L:List UInt8) (k:Nat):Option Nat:=L[k]?.map UInt8.toNat
def firstU:List UInt8→Nat×Bool
 | []=>(0,false)
 | c::r=>firstN c.toNat (byteO r 0) (byteO r 1) (byteO r 2)
theorem firstN_pos (c:Nat) (d e f:Option Nat):1≤(firstN c d e f).1∧(firstN c d e f).1≤4∧(2≤(firstN c d e f).1→d≠none)∧(3≤(firstN c d e f).1→e≠none)∧(4≤(firstN c d e f).1→f≠none):=by
 have hd:∀ lo hi,inO lo hi d→d≠none:=by rintro lo hi h rfl;exact h
 have he:contO e→e≠none:=by rintro h rfl;exact h
 have hf:contO f→f≠none:=by rintro h rfl;exact h
 unfold firstN
 split
 · simp
 · split
   · simp
   · split
     · simp
     · rename_i h1
       have h1':=hd _ _ (Decidable.not_not.1 h1)
       split
       · simp [h1']
       · split
         · simp [h1']
         · rename_i h2
           have h2':=he (Decidable.not_not.1 h2)
           split
           · simp [h1',h2']
           · split
             · rename_i h3;simp [h1',h2',hf h3]
             · simp [h1',h2']
theorem byteO_lt {L:List UInt8} {k:Nat} (h:byteO L k≠none):k<L.length:=by
 rcases Nat.lt_or_ge k L.length with h'|h'
 · exact h'
 · exact absurd (by unfold byteO;rw [List.getElem?_eq_none h'];rfl) h
theorem firstU_pos (c:UInt8) (r:List UInt8):1≤(firstU (c::r)).1∧(firstU (c::r)).1≤(c::r).length∧(firstU (c::r)).1≤4:=by
 obtain ⟨h1,h2,h3,h4,h5⟩:=firstN_pos c.toNat (byteO r 0) (byteO r 1) (byteO r 2)
 unfold firstU
 refine ⟨h1,?_,h2⟩
 have g3:=fun h=>byteO_lt (h3 h)
 have g4:=fun h=>byteO_lt (h4 h)
 have g5:=fun h=>byteO_lt (h5 h)
 simp only [List.length_cons]
 omega
def rightK:Nat→List UInt8→Bool
 | _,[]=>true
 | k+1,_::r=>rightK k r
 | 0,c::r=>(firstU (c::r)).2&&rightK ((firstU (c::r)).1 - 1) r
def rightL (s:List UInt8):Bool:=rightK 0 s
theorem rightK_skip:∀ (k:Nat) (s:List UInt8),rightK k s=rightL (s.drop k):=by
 intro k
 induction k with
 | zero=>intro s;rfl
 | succ k ih =>
   intro s
   cases s with
   | nil=>rfl
   | cons c r=>exact ih r
theorem rightL_cons (c:UInt8) (r:List UInt8):rightL (c::r)=((firstU (c::r)).2&&rightL ((c::r).drop (firstU (c::r)).1)):=by
 unfold rightL
 rw [rightK,rightK_skip]
 have h:=(firstU_pos c r).1
 obtain ⟨n,hn⟩:∃ n,(firstU (c::r)).1=n+1:=⟨(firstU (c::r)).1 - 1,by omega⟩
 rw [hn]
 rfl
def isBadO (c:Nat) (d e:Option Nat):Prop:=c=239∧d=some 191∧e=some 189
structure Kd (c lo hi n:Nat):Prop where
 one:(tailN c).2.2=n
 lo_:(tailN c).1=lo
 hi_:(tailN c).2.1=hi
theorem kd_of {c lo hi n:Nat} (h:tailN c=(lo,hi,n)):Kd c lo hi n:=⟨by rw [h],by rw [h],by rw [h]⟩
theorem tail_1 {c:Nat} (h:c<194∨244<c):Kd c 128 191 1:=kd_of (by unfold tailN;rw [if_neg (by omega),if_neg (by omega),if_neg (by omega),if_neg (by omega),if_neg (by omega),if_neg (by omega),if_neg (by omega)])
theorem tail_2 {c:Nat} (h:194≤c∧c≤223):Kd c 128 191 2:=kd_of (by unfold tailN;rw [if_pos h])
theorem tail_3 {c:Nat} (h:224≤c∧c≤239):∃ lo hi,Kd c lo hi 3∧128≤lo∧hi≤191∧(c=224→lo=160)∧(c=237→hi=159)∧(c≠224→lo=128)∧(c≠237→hi=191):=by
 by_cases h1:c=224
 · exact ⟨160,191,kd_of (by subst h1;rfl),by omega⟩
 · by_cases h2:c=237
   · exact ⟨128,159,kd_of (by subst h2;rfl),by omega⟩
   · exact ⟨128,191,kd_of (by unfold tailN;rw [if_neg (by omega),if_neg h1,if_neg h2,if_pos (by omega)]),by omega⟩
theorem tail_4 {c:Nat} (h:240≤c∧c≤244):∃ lo hi,Kd c lo hi 4∧128≤lo∧hi≤191∧(c=240→lo=144)∧(c=244→hi=143)∧(c≠240→lo=128)∧(c≠244→hi=191):=by
 by_cases h1:c=240
 · exact ⟨144,191,kd_of (by subst h1;rfl),by omega⟩
 · by_cases h2:c=244
   · exact ⟨128,143,kd_of (by subst h2;rfl),by omega⟩
   · exact ⟨128,191,kd_of (by unfold tailN;rw [if_neg (by omega),if_neg (by omega),if_neg (by omega),if_neg (by omega),if_neg h1,if_neg h2,if_pos (by omega)]),by omega⟩
def DecSame (c:Nat) (d e f:Option Nat):Prop :=
 ((firstN c d e f).2=true→(decN c d e f).2=(firstN c d e f).1∧((decN c d e f).1=65533→isBadO c d e))∧((firstN c d e f).2=false→(decN c d e f).1=65533∧¬ isBadO c d e)
theorem same_bad {c:Nat} {d e f:Option Nat} {n:Nat} (hf:firstN c d e f=(n,false)) (hd:(decN c d e f).1=65533) (hb:¬ isBadO c d e):DecSame c d e f:=by
 unfold DecSame;rw [hf];exact ⟨fun h=>(by cases h),fun _=>⟨hd,hb⟩⟩
theorem same_ok {c:Nat} {d e f:Option Nat} {n x:Nat} (hf:firstN c d e f=(n,true)) (hd:decN c d e f=(x,n)) (hb:x=65533→isBadO c d e):DecSame c d e f:=by
 unfold DecSame;rw [hf,hd];exact ⟨fun _=>⟨rfl,hb⟩,fun h=>(by cases h)⟩
theorem first_bad1 {c:Nat} {d e f:Option Nat} (h:¬ c<128) (ht:(tailN c).2.2=1):firstN c d e f=(1,false):=by
 unfold firstN;rw [if_neg h,if_pos ht]
theorem contO_iff (o:Option Nat):contO o↔∃ x,o=some x∧128≤x∧x≤191:=by
 cases o with
 | none=>simp [contO]
 | some x=>simp [contO]
theorem inO_iff (lo hi:Nat) (o:Option Nat):inO lo hi o↔∃ x,o=some x∧lo≤x∧x≤hi:=by
 cases o with
 | none=>simp [inO]
 | some x=>simp [inO]
theorem dec_same (c:Nat) (d e f:Option Nat) (hc:c<256):DecSame c d e f:=by
 by_cases h:c<128
 · refine same_ok (n:=1) (x:=c) ?_ ?_ (by omega)
   · unfold firstN;rw [if_pos h]
   · unfold decN;rw [if_pos h]
 have h':128≤c:=by omega
 by_cases r1:c<194∨244<c
 · have ht:=tail_1 r1
   refine same_bad (n:=1) (first_bad1 h ht.one) ?_ (by unfold isBadO;omega)
   unfold decN
   rw [if_neg h]
   split
   · rename_i hh
     rw [if_neg]
     obtain ⟨x,rfl,h1,h2⟩:=(contO_iff d).1 hh.2
     simp only [lowO];omega
   · split
     · rename_i _ hh;omega
     · split
       · rename_i _ _ hh
         rw [if_neg]
         rintro ⟨_,h3⟩
         unfold okV at h3
         omega
       · rfl
 by_cases r2:c≤223
 · have ht:=tail_2 (c:=c) (by omega)
   by_cases hd:contO d
   · obtain ⟨x,rfl,h1,h2⟩:=(contO_iff d).1 hd
     refine same_ok (n:=2) (x:=c % 32*64+x % 64) ?_ ?_ (by omega)
     · unfold firstN;rw [if_neg h,if_neg (by rw [ht.one];omega),if_neg (by rw [ht.lo_,ht.hi_];exact not_not_intro hd),if_pos ht.one]
     · unfold decN;rw [if_neg h,if_pos ⟨by omega,h1,h2⟩,if_pos (by simp only [lowO];omega)];rfl
   · refine same_bad (n:=1) ?_ ?_ (by unfold isBadO;omega)
     · unfold firstN;rw [if_neg h,if_neg (by rw [ht.one];omega),if_pos (by rw [ht.lo_,ht.hi_];exact hd)]
     · unfold decN;rw [if_neg h,if_neg (fun hh=>hd hh.2),if_neg (fun hh=>hd hh.2.1),if_neg (fun hh=>hd hh.2.1)]
 by_cases r3:c≤239
 · obtain ⟨lo,hi,ht,g1,g2,g3,g4,g5,g6⟩:=tail_3 (c:=c) (by omega)
   have n6:¬ (c / 32=6∧contO d):=by omega
   have n8:¬ (c / 8=30∧contO d∧contO e∧contO f):=by omega
   by_cases hd:inO lo hi d
   · obtain ⟨x,rfl,h1,h2⟩:=(inO_iff _ _ d).1 hd
     by_cases he:contO e
     · obtain ⟨y,rfl,h3,h4⟩:=(contO_iff e).1 he
       refine same_ok (n:=3) (x:=c % 16*4096+x % 64*64+y % 64) ?_ ?_ ?_
       · unfold firstN;rw [if_neg h,if_neg (by rw [ht.one];omega),if_neg (by rw [ht.lo_,ht.hi_];exact not_not_intro hd),if_neg (by rw [ht.one];omega),if_neg (not_not_intro he),if_pos ht.one]
       · unfold decN
         rw [if_neg h,if_neg n6,if_pos ⟨by omega,⟨by omega,by omega⟩,he⟩,if_pos]
         · rfl
         · refine ⟨by simp only [lowO];omega,?_⟩
           simp only [okV,lowO];omega
       · intro hx
         have:c=239∧x=191∧y=189:=by omega
         obtain ⟨rfl,rfl,rfl⟩:=this
         exact ⟨rfl,rfl,rfl⟩
     · refine same_bad (n:=2) ?_ ?_ (by rintro ⟨_,_,rfl⟩;exact he (by simp [contO]))
       · unfold firstN;rw [if_neg h,if_neg (by rw [ht.one];omega),if_neg (by rw [ht.lo_,ht.hi_];exact not_not_intro hd),if_neg (by rw [ht.one];omega),if_pos he]
       · unfold decN;rw [if_neg h,if_neg n6,if_neg (fun hh=>he hh.2.2),if_neg n8]
   · refine same_bad (n:=1) ?_ ?_ ?_
     · unfold firstN;rw [if_neg h,if_neg (by rw [ht.one];omega),if_pos (by rw [ht.lo_,ht.hi_];exact hd)]
     · unfold decN
       rw [if_neg h,if_neg n6]
       split
       · rename_i hh
         obtain ⟨x,rfl,h1,h2⟩:=(contO_iff d).1 hh.2.1
         obtain ⟨y,rfl,h3,h4⟩:=(contO_iff e).1 hh.2.2
         rw [if_neg]
         rintro ⟨h5,h6⟩
         simp only [okV,lowO] at h5 h6
         exact hd ⟨by omega,by omega⟩
       · rfl
     · rintro ⟨rfl,rfl,_⟩
       exact hd ⟨by omega,by omega⟩
 · obtain ⟨lo,hi,ht,g1,g2,g3,g4,g5,g6⟩:=tail_4 (c:=c) (by omega)
   have n6:¬ (c / 32=6∧contO d):=by omega
   have n7:¬ (c / 16=14∧contO d∧contO e):=by omega
   have nb:¬ isBadO c d e:=by unfold isBadO;omega
   by_cases hd:inO lo hi d
   · obtain ⟨x,rfl,h1,h2⟩:=(inO_iff _ _ d).1 hd
     by_cases he:contO e
     · obtain ⟨y,rfl,h3,h4⟩:=(contO_iff e).1 he
       by_cases hf:contO f
       · obtain ⟨z,rfl,h5,h6⟩:=(contO_iff f).1 hf
         refine same_ok (n:=4) (x:=c % 8*262144+x % 64*4096+y % 64*64+z % 64) ?_ ?_ (by omega)
         · unfold firstN;rw [if_neg h,if_neg (by rw [ht.one];omega),if_neg (by rw [ht.lo_,ht.hi_];exact not_not_intro hd),if_neg (by rw [ht.one];omega),if_neg (not_not_intro he),if_neg (by rw [ht.one];omega),if_pos hf]
         · unfold decN
           rw [if_neg h,if_neg n6,if_neg n7,if_pos ⟨by omega,⟨by omega,by omega⟩,he,hf⟩,if_pos]
           · rfl
           · refine ⟨by simp only [lowO];omega,?_⟩
             simp only [okV,lowO];omega
       · refine same_bad (n:=3) ?_ ?_ nb
         · unfold firstN;rw [if_neg h,if_neg (by rw [ht.one];omega),if_neg (by rw [ht.lo_,ht.hi_];exact not_not_intro hd),if_neg (by rw [ht.one];omega),if_neg (not_not_intro he),if_neg (by rw [ht.one];omega),if_neg hf]
         · unfold decN;rw [if_neg h,if_neg n6,if_neg n7,if_neg (fun hh=>hf hh.2.2.2)]
     · refine same_bad (n:=2) ?_ ?_ nb
       · unfold firstN;rw [if_neg h,if_neg (by rw [ht.one];omega),if_neg (by rw [ht.lo_,ht.hi_];exact not_not_intro hd),if_neg (by rw [ht.one];omega),if_pos he]
       · unfold decN;rw [if_neg h,if_neg n6,if_neg n7,if_neg (fun hh=>he hh.2.2.1)]
   · refine same_bad (n:=1) ?_ ?_ nb
     · unfold firstN;rw [if_neg h,if_neg (by rw [ht.one];omega),if_pos (by rw [ht.lo_,ht.hi_];exact hd)]
     · unfold decN
       rw [if_neg h,if_neg n6,if_neg n7]
       split
       · rename_i hh
         obtain ⟨x,rfl,h1,h2⟩:=(contO_iff d).1 hh.2.1
         obtain ⟨y,rfl,h3,h4⟩:=(contO_iff e).1 hh.2.2.1
         obtain ⟨z,rfl,h5,h6⟩:=(contO_iff f).1 hh.2.2.2
         rw [if_neg]
         rintro ⟨h7,h8⟩
         simp only [okV,lowO] at h7 h8
         exact hd ⟨by omega,by omega⟩
       · rfl
def badP:List UInt8:=[239,191,189]
theorem bad_list (c:UInt8) (r:List UInt8):badP.isPrefixOf (c::r)=true↔isBadO c.toNat (byteO r 0) (byteO r 1):=by
 rcases r with _|⟨d,_|⟨e,r⟩⟩
 · simp [badP,List.isPrefixOf,isBadO,byteO]
 · simp [badP,List.isPrefixOf,isBadO,byteO]
 · simp only [badP,List.isPrefixOf,Bool.and_eq_true,beq_iff_eq,Bool.and_true,isBadO,byteO,List.getElem?_cons_zero,List.getElem?_cons_succ,Option.map_some,Option.some.injEq]
   constructor
   · rintro ⟨rfl,rfl,rfl⟩;exact ⟨rfl,rfl,rfl⟩
   · rintro ⟨h1,h2,h3⟩
     exact ⟨(UInt8.toNat_inj.1 h1).symm,(UInt8.toNat_inj.1 h2).symm,(UInt8.toNat_inj.1 h3).symm⟩
theorem getb_list (s:ByteArray) (j:Nat):s.get! j=s.data.toList.getD j 0:=by
 rw [List.getD_eq_getElem?_getD,Array.getElem?_toList]
 cases s with
 | mk d =>
   show d[j]! = _
   rw [getElem!_def]
   cases d[j]? <;> rfl
theorem valid_iff (n:Nat):Utf8.valid (n:Int)=true↔okV n:=by
 simp only [Utf8.valid,Bool.or_eq_true,Bool.and_eq_true,decide_eq_true_eq,okV]
 omega
theorem decode_list (s:ByteArray) (i:Nat) (c:UInt8) (r:List UInt8) (h:s.data.toList.drop i=c::r):Utf8.decode s i=decN c.toNat (byteO r 0) (byteO r 1) (byteO r 2):=by
 have e0:(s.get! (i+0)).toNat=c.toNat:=by
  rw [getb_list,List.getD_eq_getElem?_getD,← List.getElem?_drop,h];rfl
 have ek:∀ k,(s.get! (i+(k+1))).toNat % 64=lowO (byteO r k):=fun k=>by
  rw [getb_list,List.getD_eq_getElem?_getD,← List.getElem?_drop,h,List.getElem?_cons_succ]
  unfold byteO
  cases r[k]? <;> rfl
 have ck:∀ k,(decide (i+(k+1)<s.size)&&(s.get! (i+(k+1))).toNat / 64 == 2)=decide (contO (byteO r k)):=fun k=>by
  have hl:s.size=i+(r.length+1):=by
   have:=congrArg List.length h
   rw [List.length_drop,Array.length_toList,List.length_cons] at this
   have e:s.data.size=s.size:=rfl
   omega
  rw [getb_list,List.getD_eq_getElem?_getD,← List.getElem?_drop,h,List.getElem?_cons_succ]
  unfold byteO
  rcases Nat.lt_or_ge k r.length with hk|hk
  · rw [List.getElem?_eq_getElem hk]
    have:=(r[k]).toNat_lt
    rw [decide_eq_true (show i+(k+1)<s.size by omega),Bool.true_and,Bool.eq_iff_iff,beq_iff_eq,decide_eq_true_eq]
    show (r[k]).toNat / 64=2↔(128≤(r[k]).toNat∧(r[k]).toNat≤191)
    omega
  · rw [List.getElem?_eq_none hk,decide_eq_false (by omega),Bool.false_and]
    rfl
 have c1:=ck 0
 have c2:=ck 1
 have c3:=ck 2
 have l1:=ek 0
 have l2:=ek 1
 have l3:=ek 2
 unfold Utf8.decode decN
 simp only [Nat.zero_add,Nat.reduceAdd,Nat.add_zero] at c1 c2 c3 l1 l2 l3 e0
 simp only [Nat.add_zero,e0,c1,c2,c3,l1,l2,l3,Bool.and_eq_true,beq_iff_eq,decide_eq_true_eq,valid_iff,ge_iff_le,Utf8.runeError,and_assoc]
theorem decode_right {s:ByteArray} {i:Nat} {c:UInt8} {r:List UInt8} (h:s.data.toList.drop i=c::r) :
  ((firstU (c::r)).2=true→(Utf8.decode s i).2=(firstU (c::r)).1∧((Utf8.decode s i).1=65533→badP.isPrefixOf (c::r)=true)) ∧
  ((firstU (c::r)).2=false→(Utf8.decode s i).1=65533∧¬ badP.isPrefixOf (c::r)=true):=by
 have hs:=dec_same c.toNat (byteO r 0) (byteO r 1) (byteO r 2) c.toNat_lt
 rw [decode_list s i c r h,bad_list]
 exact hs
end Go.Proofs.YtcecjoaeolglbaaGreatDoor.Pl
end
