/-
  Texts of the claim SanitizeWords, merged by a program of this session (1).
-/
import Derived.Test.YtclkdmmgibgamaaGreatDoorZug
import Derived.Lib.Replace
import Derived.Lib.CountLaws
import Derived.Lib.IndexLaws
import Derived.Below
import Derived.Deep.Draws
import Derived.Deep.AppendLies
import Derived.Maps.AppendAt
import Derived.OwnWalk
import Derived.Laws.BytesArg
import Derived.Laws.MakeOwn
import Derived.Laws.OwnMore
import Derived.Deep.OwnRows
import Derived.Tactics
import Derived.Lib.ConvBytes
import Derived.Laws.Slices
import Derived.WalkKit
import Derived.KernelRfl
import Derived.RowKit3
import Derived.Deep.LoopGhost
import Derived.Deep.QuietTactic
import Derived.BigQuiet
import Derived.WideLaws
import Derived.Deep.DeepCutAuto
import Derived.Deep.CutBlock
import Derived.Deep.RegionHeld3
import Derived.Laws.Rows
import Derived.Lib.AppendStr
import Derived.ArgAppend
import Derived.Laws.IdiomCopy
import Derived.RowKit
import Derived.Test.YtclkdmmgibgamaaGreatDoorProg
import Derived.OrdersHeld
import Derived.Laws.BitsLemmas
import Derived.Laws.Runes
import Derived.Lib.SlBytesConst
import Derived.SizedLaws
import Derived.ChangeSlices
set_option linter.unusedVariables false
set_option linter.unusedSimpArgs false
namespace Go.Proofs.YtclkdmmgibgamaaGreatDoor
theorem zv1{p:Prop}(h:p:=by rw [Decidable.not_not,contO_iff];exact ⟨_,rfl,by omega,by omega⟩):p:=h
theorem zv2{p:Prop}(h:p:=by have:=HK1.out;omega):p:=h
end Go.Proofs.YtclkdmmgibgamaaGreatDoor
set_option maxRecDepth 100000
set_option maxHeartbeats 16000000
namespace Foot
end Foot
namespace Go.Proofs
end Go.Proofs
namespace Go.Proofs.YtclkdmmgibgamaaGreatDoor.Hand
end Go.Proofs.YtclkdmmgibgamaaGreatDoor.Hand
namespace Go.Proofs.YtclkdmmgibgamaaGreatDoor.K0
end Go.Proofs.YtclkdmmgibgamaaGreatDoor.K0
namespace Go.Proofs.YtclkdmmgibgamaaGreatDoor.Pb
end Go.Proofs.YtclkdmmgibgamaaGreatDoor.Pb
namespace Go.Proofs.YtclkdmmgibgamaaGreatDoor.Pcb
end Go.Proofs.YtclkdmmgibgamaaGreatDoor.Pcb
namespace Go.Proofs.YtclkdmmgibgamaaGreatDoor.Pcm
end Go.Proofs.YtclkdmmgibgamaaGreatDoor.Pcm
namespace Go.Proofs.YtclkdmmgibgamaaGreatDoor.Pcq
end Go.Proofs.YtclkdmmgibgamaaGreatDoor.Pcq
namespace Go.Proofs.YtclkdmmgibgamaaGreatDoor.Pl
end Go.Proofs.YtclkdmmgibgamaaGreatDoor.Pl
namespace Go.Proofs.YtclkdmmgibgamaaGreatDoor.Pro
end Go.Proofs.YtclkdmmgibgamaaGreatDoor.Pro
namespace Go.Proofs.YtclkdmmgibgamaaGreatDoor.Psw
end Go.Proofs.YtclkdmmgibgamaaGreatDoor.Psw
namespace Go.Proofs.YtclkdmmgibgamaaGreatDoor.Pure
end Go.Proofs.YtclkdmmgibgamaaGreatDoor.Pure
namespace Go.Proofs.YtclkdmmgibgamaaGreatDoor.RowKit
end Go.Proofs.YtclkdmmgibgamaaGreatDoor.RowKit
namespace Go.Proofs.YtclkdmmgibgamaaGreatDoor.Sa
end Go.Proofs.YtclkdmmgibgamaaGreatDoor.Sa
namespace Go.Proofs.YtclkdmmgibgamaaGreatDoor.Sf
end Go.Proofs.YtclkdmmgibgamaaGreatDoor.Sf
namespace Go.Proofs.YtclkdmmgibgamaaGreatDoor.Si
end Go.Proofs.YtclkdmmgibgamaaGreatDoor.Si
namespace Go.Proofs.YtclkdmmgibgamaaGreatDoor.Sk
end Go.Proofs.YtclkdmmgibgamaaGreatDoor.Sk
namespace Go.Proofs.YtclkdmmgibgamaaGreatDoor.So
end Go.Proofs.YtclkdmmgibgamaaGreatDoor.So
namespace Go.Proofs.YtclkdmmgibgamaaGreatDoor.Sp
end Go.Proofs.YtclkdmmgibgamaaGreatDoor.Sp
namespace Go.Proofs.YtclkdmmgibgamaaGreatDoor.St
end Go.Proofs.YtclkdmmgibgamaaGreatDoor.St
namespace Go.Proofs.YtclkdmmgibgamaaGreatDoor.Sx
end Go.Proofs.YtclkdmmgibgamaaGreatDoor.Sx
namespace Go.Proofs.YtclkdmmgibgamaaGreatDoor.Sy
end Go.Proofs.YtclkdmmgibgamaaGreatDoor.Sy
namespace Go.Proofs.YtclkdmmgibgamaaGreatDoorW.PrintLast
end Go.Proofs.YtclkdmmgibgamaaGreatDoorW.PrintLast
namespace Go.Proofs.YtclkdmmgibgamaaGreatDoorW.PrintMore
end Go.Proofs.YtclkdmmgibgamaaGreatDoorW.PrintMore
namespace Go.Proofs.YtclkdmmgibgamaaGreatDoorW.PrintWords
end Go.Proofs.YtclkdmmgibgamaaGreatDoorW.PrintWords
namespace Kd
end Kd

namespace Go.Proofs.YtclkdmmgibgamaaGreatDoor
section
namespace Pl
open Go
theorem normF_true_ne {d:UInt8} {r:List UInt8} (h:d≠10):normF true (d::r)=normF false (d::r):=by simp [normF,h]
theorem cleanL_of_no0:∀ {l:List UInt8},(0:UInt8)∉l→cleanL l=l
 | [],_=>rfl
 | c::r,h=>by
   have h1:c≠0:=fun e=>h (by simp [e])
   rw [cleanL_cons,cleanL_of_no0 (fun e=>h (by simp [e]))];simp [cleanB,h1]
theorem normL_of_no13:∀ {l:List UInt8},(13:UInt8)∉l→normL l=l
 | [],_=>rfl
 | c::r,h=>by
   have h1:c≠13:=fun e=>h (by simp [e])
   rw [normL_ne h1,normL_of_no13 (fun e=>h (by simp [e]))]
def flag13 (b:Bool) (l:List UInt8):Bool:=match l.getLast? with|some c=>c == 13|none=>b
theorem flag13_cons (b:Bool) (c:UInt8) (r:List UInt8):flag13 b (c::r)=flag13 (c == 13) r:=by
 cases r with
 | nil=>rfl
 | cons d r=>simp [flag13,List.getLast?_eq_some_getLast]
theorem normF_append (l m:List UInt8):∀ b,normF b (l++m)=normF b l++normF (flag13 b l) m:=by
 induction l with
 | nil=>intro b;rfl
 | cons c r ih =>
   intro b
   rw [flag13_cons,List.cons_append]
   simp only [normF]
   split
   ·rename_i h
    rw [ih,h.2];rfl
   ·split
    ·rename_i h;subst h;rw [ih];rfl
    ·rename_i h
     rw [ih,show (c == 13)=false by simpa using h];rfl
theorem normF_true_eq {m:List UInt8} (h:∀ r,m≠10::r):normF true m=normF false m:=by
 cases m with
 | nil=>rfl
 | cons d r=>exact normF_true_ne fun e=>h r (by rw [e])
end Pl
end

section
namespace Hand
open Go.RowKit
structure Live (w W:World) (L:List (Nat×Array Value)):Prop where
 glob:Glob W
 below:Below w.heap.size w W
 blk:∀ x∈L,x.1<W.heap.size∧Blk x.1 x.2 W
theorem Live.call {w W W':World} {L:List (Nat×Array Value)} (h:Live w W L) (hb:Below W.heap.size W W'):Live w W' L :=
 ⟨h.glob.step hb,h.below.trans (hb.mono h.below.size),fun x hx=>⟨Nat.lt_of_lt_of_le (h.blk x hx).1 hb.size,(h.blk x hx).2.below hb (h.blk x hx).1⟩⟩
end Hand
end

end Go.Proofs.YtclkdmmgibgamaaGreatDoor
section
set_option linter.unusedVariables false
set_option linter.unusedSimpArgs false
namespace Go.Proofs.YtclkdmmgibgamaaGreatDoorW.PrintWords
open Go.RowKit
theorem own_string {P:Program} {w:World} {base n:Nat} {e' src dst e:TypeId} {v:Value} {xs:List Int} (hs:P.underlying src=some (.slice e)) (he:P.underlying e=some (.int .u8)) (hd:P.underlying dst=some .string)
  (h:w.ownsRow base e' 1 v n (nums .u8 xs)):(convert src dst v).run P w = .ok (.string (strOfNums xs)) w:=by
 have hl:xs.length=n:=by have:=h.1;simp [nums] at this;exact this
 rcases h.2 with ⟨rfl,rfl⟩|⟨g,cap,cur,rfl,_⟩
 ·obtain rfl:xs=[]:=List.eq_nil_of_length_eq_zero hl
  exact run_convert_bytes_nil w src e hs he 0 0 dst hd
 ·refine run_convert_bytes_arg w src e hs he g 0 n cap xs hl (fun i hi => ?_) dst hd
  have hc:=h.cells (g:=g) rfl i (.int .u8 (xs.getD i 0)) (by simp [nums,List.getElem?_eq_getElem (show i<xs.length by omega),List.getD_eq_getElem?_getD])
  have ha:(⟨g,0,none⟩:Addr).add i=⟨g,0+i,none⟩:=by unfold Addr.add;split<;>simp_all
  rwa [ha] at hc
section
variable {P : Program} {ops : Array Oper} {rest : List Oper} {o : Oper} {a : Act} {Q : Exit → Act → World → Prop}
end
section
variable {P : Program}
end
section
variable {P : Program} {ops : Array Oper} {rest : List Oper} {o : Oper} {a : Act} {Q : Exit → Act → World → Prop}
end
def LeO {α:Type} (a b:Option α):Prop := ∀ r,a=some r→b=some r
theorem LeO.refl {α:Type} (a:Option α):LeO a a:=fun _ h=>h
theorem LeO.none {α:Type} (b:Option α):LeO Option.none b:=fun _ h=>by cases h
theorem LeO.trans {α:Type} {a b c:Option α} (h:LeO a b) (k:LeO b c):LeO a c:=fun r hr=>k r (h r hr)
theorem more_rounds {α:Type} {g:Nat→Option α} (h:∀ k,LeO (g k) (g (k+1))) (k:Nat):∀ j,LeO (g k) (g (k+j))
 | 0=>LeO.refl _
 | j+1=>(more_rounds h k j).trans (h (k+j))
theorem at_rounds {α:Type} {g:Nat→Option α} (h:∀ k,LeO (g k) (g (k+1))) {k k':Nat} (hk:k≤k') {r:α} (hr:g k=some r):g k'=some r:=by
 have:=more_rounds h k (k' - k) r hr
 rwa [Nat.add_sub_cancel' hk] at this
section
variable {P : Program} {ops : Array Oper} {rest : List Oper} {o : Oper} {a : Act} {Q : Exit → Act → World → Prop}
end
theorem KeepBut.blk {w w1:World} {g g':Nat} {row:Option Nat} {o:Obj} (h:KeepBut w w1 g row) (hb:w.heap[g']? = some o) (hg:g'≠g) (hr:some g'≠row):w1.heap[g']? = some o:=(h.2 g' (blk_lt hb) hg hr).trans hb
theorem KeepBut.own {w w1:World} {g:Nat} {row:Option Nat} {base:Nat} {e:TypeId} {size n:Nat} {v:Value} {xs:List Value} (h:KeepBut w w1 g row) (ho:w.ownsRow base e size v n xs) (hg:v.ownBlock≠some g) (hr:v.ownBlock=none∨v.ownBlock≠row):w1.ownsRow base e size v n xs:=by
 obtain ⟨h1,h2⟩:=ho
 refine ⟨h1,?_⟩
 rcases h2 with h2|⟨b,cap,cur,rfl,hb,hh,r⟩
 ·exact .inl h2
 ·refine .inr ⟨b,cap,cur,rfl,hb,h.blk hh ?_ ?_,r⟩
  ·intro e
   exact hg (by rw [← e];rfl)
  ·rcases hr with hr|hr
   ·simp [Value.ownBlock] at hr
   ·exact hr
theorem Ev.of {α:Type} {g:Nat→Option α} {r:α} (hg:∀ k,LeO (g k) (g (k+1))) {k:Nat} (h:g k=some r):Ev g r:=⟨k,fun _ hk=>at_rounds hg hk h⟩
section
variable {P : Program} {ops : Array Oper} {o : Oper} {a : Act} {Q : Exit → Act → World → Prop} {K : Act → World → Prop}
end
section
variable {α : Type} {enc : α → Value} {d : α}
def encs (enc:α→Value) (xs:List α):List Value:=xs.map enc
theorem encs_length (xs:List α):(encs enc xs).length=xs.length:=by simp [encs]
end
section
variable {α : Type} {P : Program} {ops : Array Oper} {rest : List Oper} {o : Oper} {a : Act} {Q : Exit → Act → World → Prop}
end
section
variable {P : Program}
end
section
variable {α : Type} {R R' : α → List Value → Prop} {e : TypeId} {size : Nat} {w w1 : World} {base : Nat} {v : Value} {ps : List α}
end
section
variable {P : Program} {ops : Array Oper} {rest : List Oper} {o : Oper} {a : Act} {Q : Exit → Act → World → Prop} {α : Type} {R : α → List Value → Prop}
end
section
variable {P : Program} {ops : Array Oper} {o : Oper} {a : Act} {Q : Exit → Act → World → Prop} {K : Act → World → Prop} {α : Type} {R : α → List Value → Prop}
end
section
variable {α : Type} {P : Program}
end
section
variable {P : Program} {ops : Array Oper} {rest : List Oper} {o : Oper} {a : Act} {Q : Exit → Act → World → Prop}
end
namespace Kd
section
variable {α : Type} {d : Kd α} {e : Nat} {w w1 : World} {base : Nat} {ok ok' : Nat → Prop} {v : Value} {xs : List α}
end
section
variable {P : Program} {ops : Array Oper} {rest : List Oper} {o : Oper} {a : Act} {Q : Exit → Act → World → Prop} {α : Type}
end
section
variable {P : Program} {ops : Array Oper} {o : Oper} {a : Act} {Q : Exit → Act → World → Prop} {Kc : Act → World → Prop} {α : Type}
end
theorem own_of_R {α:Type} {enc:α→Value} {h1:∀ x,(enc x).oneCell'=true} {e:Nat} {w:World} {base:Nat} {ok:Nat→Prop} {v:Value} {xs:List α} (h:(scalar enc h1).R e w base ok v xs):w.ownsRow base e 1 v xs.length (encs enc xs):=by
 obtain ⟨_,inner,ho,hr⟩:=h
 have:inner=encs enc xs:=by
  apply List.ext_getElem?
  intro j
  rcases Nat.lt_or_ge j xs.length with hj|hj
  ·have h2:=hr.2 j _ (List.getElem?_eq_getElem hj)
   have hl:j<inner.length:=by have:=hr.1;simp [scalar] at this;omega
   have h3:(inner.drop (j*1)).take 1=[enc xs[j]]:=h2
   rw [Nat.mul_one,List.drop_eq_getElem_cons hl] at h3
   have h4:inner[j]=enc xs[j]:=by
    have h5:=congrArg List.head? h3
    rw [List.take_succ_cons] at h5
    exact Option.some.inj h5
   rw [List.getElem?_eq_getElem hl,h4]
   simp [encs,List.getElem?_eq_getElem hj]
  ·have h3:inner.length=xs.length:=by have:=hr.1;simp [scalar] at this;omega
   rw [List.getElem?_eq_none (by omega),List.getElem?_eq_none (by rw [encs_length];omega)]
 rw [← this]
 exact ho
theorem C_of_reads {α:Type} {enc:α→Value} {d:α} {h1:∀ x,(enc x).oneCell'=true} {w:World} {A:Option Addr} {n:Nat} {xs:List α} (h:ReadsOf enc d w A n xs):(scalar enc h1).C w A n xs:=by
 refine ⟨h.1,h.2.1,fun hn => ?_⟩
 obtain ⟨ad,e,hc⟩:=h.2.2 hn
 refine ⟨ad,e,fun j p hj=>⟨[enc p],rfl,rfl,fun i u hu => ?_⟩⟩
 obtain ⟨hl,hp⟩:=List.getElem?_eq_some_iff.1 hj
 have h2:=hc j (by have:=h.1;omega)
 rw [List.getD_eq_getElem?_getD,hj] at h2
 cases i with
 | zero =>
   have:enc p=u:=by simpa using hu
   subst this
   simpa [scalar] using h2
 | succ i=>simp at hu
end Kd
namespace Kd
section
variable {α : Type} {F : Kd α → Kd α} {sz : Nat} {E : List Nat} {hs : ∀ n, (upto F sz E n).sz = sz} {hE : ∀ n q, q ∈ (upto F sz E n).E → q ∈ E}
end
end Kd
namespace Kd
end Kd
namespace Kd
section
variable {α β : Type} {d : Kd α} {d' : Kd β} {e e' : Nat} {w w1 W : World} {base b b' : Nat} {ok ok' okv oku : Nat → Prop} {v u : Value} {xs : List α} {ys : List β}
end
section
variable {w W : World} {A : Option Addr} {n : Nat}
variable {α : Type} {enc : α → Value} {h1 : ∀ x, (enc x).oneCell' = true} {e base g cap : Nat} {ok : Nat → Prop} {xs : List α}
end
section
variable {P : Program} {ops : Array Oper} {rest : List Oper} {o : Oper} {a : Act} {Q : Exit → Act → World → Prop}
variable {α : Type}
end
end Kd
section
variable {P : Program}
end
section
variable {w w1 : World} {base n size : Nat} {e : TypeId} {v : Value} {xs : List Value}
end
section
variable {P : Program}
end
namespace Kd
section
variable {α : Type} {d : Kd α} {e : Nat} {w w1 W : World} {base : Nat} {ok ok' : Nat → Prop} {v : Value} {xs : List α}
end
section
variable {P : Program} {ops : Array Oper} {rest : List Oper} {o : Oper} {a : Act} {Q' : Exit → Act → World → Prop} {Kc : Act → World → Prop} {α : Type}
end
end Kd
namespace Kd
section
variable {α : Type} {d : Kd α} {e e' : Nat} {w w1 W : World} {base : Nat} {ok : Nat → Prop} {u v : Value} {xs : List α}
end
end Kd
namespace Kd
section
variable {α : Type} {d : Kd α} {e base g n cap : Nat} {ok okp : Nat → Prop} {W : World} {xs : List α}
end
end Kd
namespace Kd
section
variable {α : Type} {F : Kd α → Kd α} {sz : Nat} {E : List Nat} {hs : ∀ n, (upto F sz E n).sz = sz} {hE : ∀ n q, q ∈ (upto F sz E n).E → q ∈ E}
end
end Kd
namespace Kd
section
variable {P : Program} {ops : Array Oper} {rest : List Oper} {o : Oper} {a : Act} {Q : Exit → Act → World → Prop} {α : Type}
end
end Kd
namespace Kd
section
variable {P : Program} {ops : Array Oper} {rest : List Oper} {o : Oper} {a : Act} {Q : Exit → Act → World → Prop} {α : Type}
end
end Kd
namespace Kd
section
variable {α : Type} {k : Kd α} {w : World} {A : Option Addr} {xs : List α} {m c : Nat}
end
end Kd
section
variable {P : Program}
end
theorem string_of_reads {P:Program} {w:World} {src dst e:TypeId} {A:Option Addr} {n c:Nat} {xs:List Int} (hs:P.underlying src=some (.slice e)) (he:P.underlying e=some (.int .u8)) (hd:P.underlying dst=some .string)
  (h:ReadsInt w .u8 A n xs):(convert src dst (.slice A n c)).run P w = .ok (.string (strOfNums xs)) w:=by
 have hn:xs.length=n:=h.1
 rcases A with _|ad
 ·have h0:n=0:=by
   rcases Nat.eq_zero_or_pos n with h0|h0
   ·exact h0
   ·obtain ⟨ad,h',_⟩:=h.2.2 h0
    cases h'
  subst h0
  obtain rfl:xs=[]:=List.eq_nil_of_length_eq_zero hn
  exact run_convert_bytes_nil w src e hs he 0 c dst hd
 ·have hl:(loadCells ad n).run P w = .ok (xs.map (Value.int .u8)).toArray w:=by
   have:=run_loadCells_list (P:=P) w ad (xs.map (Value.int .u8)) (fun j v hj=>by
    have hjl:j<xs.length:=by
     rcases Nat.lt_or_ge j xs.length with h'|h'
     ·exact h'
     ·rw [List.getElem?_eq_none (by rw [List.length_map];exact h')] at hj
      cases hj
    obtain ⟨ad',he',hc⟩:=h.2.2 (by omega)
    injection he' with he'
    subst he'
    rw [hc j (by omega)]
    rw [List.getElem?_map,List.getElem?_eq_getElem hjl] at hj
    simp at hj
    subst hj
    simp [List.getD_eq_getElem?_getD,List.getElem?_eq_getElem hjl])
   simpa [hn] using this
  rw [run_convert_bytes_string w src dst e _ n c hs he hd,run_bytesToString w ad n c xs hl,foldl_push_bytes]
  simp [strOfNums,ByteArray.empty,ByteArray.emptyWithCapacity]
  rfl
theorem Kd.C_string {P:Program} {w:World} {src dst e:TypeId} {A:Option Addr} {n c:Nat} {xs:List Int} (hs:P.underlying src=some (.slice e)) (he:P.underlying e=some (.int .u8)) (hd:P.underlying dst=some .string)
  (h:(Kd.int .u8).C w A n xs):(convert src dst (.slice A n c)).run P w = .ok (.string (strOfNums xs)) w :=
 string_of_reads hs he hd (Kd.reads_of_C (enc:=Value.int .u8) (d:=(0:Int)) (h1:=fun _=>rfl) h)
theorem ReadsInt.nil (W:World) (k:IntKind):ReadsInt W k none ([]:List Int).length []:=⟨rfl,by simp,fun h=>absurd h (Nat.lt_irrefl 0)⟩
theorem ReadsInt.ofRow {k:IntKind} {w:World} {a:Option Addr} {len cap:Nat} {zs:List Int} (h:(a=none∧len=0∧cap=0∧zs=[])∨∃ x,a=some x∧len≤cap∧cap≤maxLen∧zs.length=cap∧(∀ i,i<zs.length→w.cell? (x.add i)=some (.int k (zs.getD i 0)))∧∀ n∈zs,(Lit.int k n).wf=true) :
  ∃ l:List Int,len=l.length∧ReadsInt w k a l.length l∧l.length≤maxLen∧∀ x∈l,(Lit.int k x).wf=true:=by
 rcases h with ⟨rfl,rfl,rfl,rfl⟩|⟨x,rfl,hl,hm,hz,hc,hw⟩
 ·exact ⟨[],rfl,ReadsInt.nil _ _,Nat.zero_le _,fun x hx=>by simp at hx⟩
 ·have e:(zs.take len).length=len:=by simp;omega
  have hm':len≤maxLen:=Nat.le_trans hl hm
  refine ⟨zs.take len,e.symm,⟨rfl,by rw [e];simpa [maxLen] using hm',fun _=>⟨x,rfl,fun j hj => ?_⟩⟩,by rw [e];exact hm',fun y hy=>hw y (List.mem_of_mem_take hy)⟩
  rw [e] at hj
  rw [hc j (by omega)]
  simp [List.getD,List.getElem?_take,hj]
theorem ReadsInt.ofRowC {k:IntKind} {w:World} {a:Option Addr} {len cap:Nat} {zs:List Int} (h:(a=none∧len=0∧cap=0∧zs=[])∨∃ x,a=some x∧len≤cap∧cap≤maxLen∧zs.length=cap∧(∀ i,i<zs.length→w.cell? (x.add i)=some (.int k (zs.getD i 0)))∧∀ n∈zs,(Lit.int k n).wf=true) :
  ∃ l:List Int,len=l.length∧ReadsInt w k a l.length l∧l.length≤maxLen∧(∀ x∈l,(Lit.int k x).wf=true)∧l.length≤cap:=by
 have hl:len≤cap:=by
  rcases h with ⟨_,rfl,rfl,_⟩|⟨_,_,h,_⟩
  ·exact Nat.le_refl _
  ·exact h
 obtain ⟨l,e,h1,h2,h3⟩:=ReadsInt.ofRow h
 exact ⟨l,e,h1,h2,h3,e ▸ hl⟩
namespace Kd
section
variable {α β : Type} {d : Kd α} {d' : Kd β} {e e' base base' n : Nat} {ok ok' : Nat → Prop} {w W w1 W1 : World} {v u : Value} {xs : List α} {ys : List β} {A : Option Addr} {c : Nat}
end
section
variable {α : Type} {enc : α → Value} {h1 : ∀ x, (enc x).oneCell' = true} {w W : World} {A : Option Addr} {n g : Nat} {xs : List α}
end
end Kd
namespace Kd
section
variable {α : Type} {d : Kd α} {e base g : Nat} {ok : Nat → Prop} {w w1 : World} {v : Value} {xs : List α} {o : Obj}
end
end Kd
section
variable {P : Program} {ops : Array Oper} {rest : List Oper} {o : Oper} {a : Act} {Q : Exit → Act → World → Prop}
end
namespace Kd
section
variable {α : Type} {enc : α → Value} {h1 : ∀ x, (enc x).oneCell' = true} {e base g n cap : Nat} {ok : Nat → Prop} {W : World} {xs : List α}
end
end Kd
section
variable {P : Program} {ops : Array Oper} {rest : List Oper} {o : Oper} {a : Act} {Q : Exit → Act → World → Prop}
end
namespace Kd
section
variable {α : Type} {enc : α → Value} {h1 : ∀ x, (enc x).oneCell' = true} {e base g n cap : Nat} {ok : Nat → Prop} {W : World} {xs : List α}
end
end Kd
section
variable {P : Program} {ops : Array Oper} {rest : List Oper} {o : Oper} {a : Act} {Q : Exit → Act → World → Prop} {W : World}
end
section
variable {P : Program} {ops : Array Oper} {o : Oper} {a : Act} {Q : Exit → Act → World → Prop} {Kc : Act → World → Prop}
namespace Kd
variable {α : Type}
end Kd
end
section
variable {P : Program} {tmps : Array Value} {w : World}
end
namespace Kd
section
variable {P : Program} {α : Type}
end
section
variable {P : Program} {ops : Array Oper} {rest : List Oper} {o : Oper} {a : Act} {Q : Exit → Act → World → Prop} {Kc : Act → World → Prop} {α : Type}
end
end Kd
end Go.Proofs.YtclkdmmgibgamaaGreatDoorW.PrintWords
end

section
namespace Go.Proofs.YtclkdmmgibgamaaGreatDoorW.PrintWords
open Go.RowKit
namespace Kd
section
variable {α β : Type} {d : Kd α} {d' : Kd β} {e e' : Nat} {w w1 W : World} {base b : Nat} {ok ok' okv oku : Nat → Prop} {u v : Value} {xs : List α} {ys : List β}
end
section
variable {α β : Type} {d : Kd α} {d' : Kd β} {e e' g : Nat} {w w1 W : World} {base b : Nat} {ok ok' okv oku : Nat → Prop} {u v : Value} {xs : List α} {ys : List β}
end
section
variable {P : Program} {ops : Array Oper} {rest : List Oper} {o : Oper} {a : Act} {Q : Exit → Act → World → Prop} {Kc : Act → World → Prop} {α : Type}
end
def gap {α:Type} (f:Nat→Nat) (d:Kd α) (i:Nat) (c:List Value):Kd (α×Nat) where
 sz:=d.sz
 E:=d.E
 K:=fun w x cs=>(x.2=i→cs=c∧cs.length=d.sz∧∀ u∈cs,u.oneCell'=true)∧(x.2≠i→d.K w x.1 cs)
 M:=fun w base ok x cs=>(x.2=i→cs=c∧cs.length=d.sz∧∀ u∈cs,u.oneCell'=true)∧(x.2≠i→d.M w base (fun k=>ok k∧f k=x.2) x.1 cs)
 K_len:=fun {w x cs} h=>by
  by_cases hx:x.2=i
  ·exact (h.1 hx).2.1
  ·exact d.K_len (h.2 hx)
 K_one:=fun {w x cs} h=>by
  by_cases hx:x.2=i
  ·exact (h.1 hx).2.2
  ·exact d.K_one (h.2 hx)
 K_below:=fun hb h=>⟨h.1,fun hx=>d.K_below hb (h.2 hx)⟩
 K_of_M:=fun h=>⟨h.1,fun hx=>d.K_of_M (h.2 hx)⟩
 M_mono:=fun hok h=>⟨h.1,fun hx=>d.M_mono (fun k hk=>⟨hok k hk.1,hk.2⟩) (h.2 hx)⟩
 M_bound:=fun h=>⟨h.1,fun hx=>d.M_mono (fun _ hk=>⟨⟨hk.1.1,hk.2⟩,hk.1.2⟩) (d.M_bound (h.2 hx))⟩
 M_move:=fun hm h=>⟨h.1,fun hx=>d.M_move (fun k hk=>hm k hk.1) (h.2 hx)⟩
 M_lower:=fun hb h=>⟨h.1,fun hx=>d.M_lower hb (h.2 hx)⟩
def H {α:Type} (d:Kd α) (e:Nat) (w:World) (base:Nat) (ok:Nat→Prop) (v:Value) (xs:List α) (i:Int) (oki:Nat→Prop) (c:List Value):Prop :=
 (∀ k,oki k→ok k)∧∃ f,(gap f d i.toNat c).R e w base (fun k=>ok k∧¬ oki k) v xs.zipIdx
section
variable {α β : Type} {d : Kd α} {e e' g n cap : Nat} {w w1 W : World} {base : Nat} {ok ok' oki okp : Nat → Prop} {u v : Value} {xs : List α} {i : Int} {c : List Value}
end
section
variable {P : Program} {ops : Array Oper} {rest : List Oper} {o : Oper} {a : Act} {Q : Exit → Act → World → Prop} {α : Type}
end
end Kd
end Go.Proofs.YtclkdmmgibgamaaGreatDoorW.PrintWords
end

section
namespace Go.Proofs.YtclkdmmgibgamaaGreatDoorW.PrintWords
open Go.RowKit
namespace Kd
structure Heap {α:Type} (d:Kd α):Prop where
 K:∀ {w w1:World} {x:α} {cs:List Value},(∀ k,k<w.heap.size→w1.heap[k]? = w.heap[k]?)→d.K w x cs→d.K w1 x cs
theorem cell_heap {w w1:World} (hb:∀ k,k<w.heap.size→w1.heap[k]? = w.heap[k]?) {a:Addr} {v:Value} (h:w.cell? a=some v):w1.cell? a=some v:=by
 have:=hb a.block (World.block_lt_of_cell? w a h)
 simpa [World.cell?,this] using h
theorem Heap.C {α:Type} {d:Kd α} (hd:Heap d) {w w1:World} {A:Option Addr} {n:Nat} {xs:List α} (hb:∀ k,k<w.heap.size→w1.heap[k]? = w.heap[k]?) (h:d.C w A n xs):d.C w1 A n xs :=
 ⟨h.1,h.2.1,fun hn=>by
   obtain ⟨ad,e,hc⟩:=h.2.2 hn
   refine ⟨ad,e,fun j p hj => ?_⟩
   obtain ⟨c,hs,hr,hcell⟩:=hc j p hj
   exact ⟨c,hs,hd.K hb hr,fun i u hu=>cell_heap hb (hcell i u hu)⟩⟩
section
variable {α : Type} {d : Kd α} {e base g n c : Nat} {ok : Nat → Prop} {w w0 W : World} {A : Option Addr} {xs : List α}
end
end Kd
end Go.Proofs.YtclkdmmgibgamaaGreatDoorW.PrintWords
end

section
namespace Go.Proofs.YtclkdmmgibgamaaGreatDoorW.PrintWords
open Go.RowKit
def Kept (w W:World) (S:Nat→Prop):Prop:=w.heap.size≤W.heap.size∧∀ i,i<w.heap.size→¬ S i→W.heap[i]? = w.heap[i]?
section
variable {w W W2 : World} {S S2 S' : Nat → Prop}
theorem Kept.mono (h:Kept w W S) (hs:∀ k,S k→S' k):Kept w W S':=⟨h.1,fun i hi hn=>h.2 i hi (fun hk=>hn (hs i hk))⟩
end
namespace Kd
section
variable {α : Type} {d : Kd α} {e base n c : Nat} {ok oki S S2 : Nat → Prop} {w w0 W W1 W2 : World} {v : Value} {A : Option Addr} {xs : List α} {i : Int} {cs : List Value}
end
end Kd
end Go.Proofs.YtclkdmmgibgamaaGreatDoorW.PrintWords
end

namespace Go.Proofs.YtclkdmmgibgamaaGreatDoor
section
namespace K0
open Go.RowKit YtclkdmmgibgamaaGreatDoorW.PrintWords YtclkdmmgibgamaaGreatDoorW.PrintLast YtclkdmmgibgamaaGreatDoorW.PrintMore
attribute [local go_sem] max2_int min2_int max_two min_two max_three min_three max_four min_four  
set_option linter.unusedVariables false
set_option linter.unusedSimpArgs false
structure S7 where
 f0:Int
 f1:Int
 f2:Bool
 f3:Int
structure S8 where
 f0:Int
 f1:Int
 f2:Bool
 f3:Int
def k8:Kd S8:=Kd.iso (Kd.pair (Kd.int .i64) (Kd.pair (Kd.int .i64) (Kd.pair Kd.bool (Kd.int .u8)))) (fun x:S8=>(x.f0,x.f1,x.f2,x.f3))
structure S13 where
 f0:ByteArray
 f1:Int
def k13:Kd S13:=Kd.iso (Kd.pair Kd.string (Kd.int .u64)) (fun x:S13=>(x.f0,x.f1))
structure S14 where
 f0:ByteArray
 f1:Int
def k14:Kd S14:=Kd.iso (Kd.pair Kd.string (Kd.int .u64)) (fun x:S14=>(x.f0,x.f1))
structure S29 where
 f0:Int
 f1:ByteArray
 f2:ByteArray
 f3:(List S105)
 f4:Bool
structure S97 where
 f0:Int
 f1:Int
structure S98 where
 f0:Int
 f1:Int
structure S104 where
 f0:ByteArray
 f1:ByteArray
structure S122 where
 f0:ByteArray
 f1:Int
structure S123 where
 f0:ByteArray
 f1:Int
structure S148 where
 f0:Int
 f1:Int
structure S149 where
 f0:Int
 f1:Int
structure S169 where
 f0:ByteArray
 f1:Int
structure S170 where
 f0:ByteArray
 f1:Int
structure S224 where
 f0:Int
 f1:Int
structure S225 where
 f0:Int
 f1:Int
structure S264 where
 f0:ByteArray
structure S265 where
 f0:ByteArray
end K0
end

section
namespace Pl
theorem begR_append (a b:List UInt8):∀ r,begR r (a++b)=(begR r a&&begR (r.drop a.length) b):=by
 induction a with
 | nil=>intro r;simp [begR]
 | cons d a ih =>
   intro r
   cases r with
   | nil=>simp [begR]
   | cons c r=>simp [begR,ih,Bool.and_assoc]
end Pl
end

section
namespace Hand
open Go Go.RowKit Pl Pb
def kyC (c:UInt8):Bool:=(decide (65≤c.toNat)&&decide (c.toNat≤90)) || (decide (97≤c.toNat)&&decide (c.toNat≤122)) || (decide (48≤c.toNat)&&decide (c.toNat≤57))
def hdC:List UInt8→Bool
 | []=>false
 | c::_=>(decide (65≤c.toNat)&&decide (c.toNat≤90)) || (decide (97≤c.toNat)&&decide (c.toNat≤122))
def keyOk (l:List UInt8):Bool:=decide ((kyL l).length≤32)&&((kyL l).dropLast.all kyC&&(hdC (kyL l)&&(match (kyL l).getLast? with|some c=>kyC c || c == 59|none=>false)))
def keysOk (T:List UInt8):Bool:=keyOk (linesOf T).1&&(linesOf T).2.all keyOk
theorem names_keys:keysOk namesL=true:=by kernel_rfl
theorem keys_all {T:List UInt8} (h:keysOk T=true) (p:Nat) (hp:St T p):keyOk (lnT T p)=true:=by
 unfold keysOk at h
 rw [Bool.and_eq_true,List.all_eq_true] at h
 rcases hp with rfl|⟨q,rfl,hq⟩
 ·rw [lines_head];exact h.1
 ·exact h.2 _ (lines_mem T q hq)
structure KeyP (k:List UInt8):Prop where
 le:k.length≤32
 pos:k≠[]
 inner:∀ c∈k.dropLast,kyC c=true
 head:hdC k=true
 last:∃ c,k.getLast? = some c∧(kyC c=true∨c=59)
theorem key_facts {k:List UInt8} (h:isKey namesL k):KeyP k:=by
 obtain ⟨p,h1,rfl⟩:=h
 have:=keys_all names_keys p h1
 unfold keyOk at this
 rw [Bool.and_eq_true,Bool.and_eq_true,Bool.and_eq_true,decide_eq_true_eq,List.all_eq_true] at this
 obtain ⟨g1,g2,g3,g4⟩:=this
 change (kyT namesL p).length≤32 at g1
 change hdC (kyT namesL p)=true at g3
 refine ⟨g1,?_,g2,g3,?_⟩
 ·intro e;rw [e] at g3;cases g3
 ·change (match (kyT namesL p).getLast? with|some c=>kyC c || c == 59|none=>false)=true at g4
  split at g4
  ·rename_i c hc
   refine ⟨c,hc,?_⟩
   simpa using g4
  ·cases g4
end Hand
end

section
namespace Hand
open Go Go.RowKit Pl Pb Go.Proofs.YtclkdmmgibgamaaGreatDoor.Pure
theorem txN_app {s:List UInt8} (r:List UInt8) (h:(60:UInt8)∉s):txN (s++r)=s.length+txN r:=by
 have:=txN_skip s.length (s++r) zu19 (fun j hj=>by
  rw [List.getElem?_append_left hj];intro e;exact h (List.mem_of_getElem? e))
 rwa [List.drop_left] at this
theorem tokL_txt {s r:List UInt8} (hs:s≠[]) (h:(60:UInt8)∉s):tokL (s++r)=(some (.text (rdL false (s++r.take (txN r)))),r.drop (txN r)):=by
 obtain ⟨c,t,rfl⟩:∃ c t,s=c::t:=by cases s with|nil=>exact absurd rfl hs|cons c t=>exact ⟨c,t,rfl⟩
 have hc:c≠60:=fun e=>h (by simp [e])
 have hb:begM (c::t++r)=false:=begM_no _ hc
 have hn:txN (c::t++r)=(c::t).length+txN r:=txN_app r h
 unfold begM at hb
 simp only [Bool.or_eq_false_iff] at hb
 obtain ⟨⟨⟨h1,h2⟩,h3⟩,h4⟩:=hb
 unfold tokL
 rw [if_neg (by simpa using h1),if_neg (by rw [h2];decide),if_neg (by rw [h3];decide),if_neg (by rw [h4];decide),if_neg (by rw [hn];simp),hn]
 rw [List.take_length_add_append,List.drop_length_add_append]
theorem tokL_text {s r:List UInt8} (hs:s≠[]) (h:(60:UInt8)∉s) (hr:txN r=0):tokL (s++r)=(some (.text (rdL false s)),r):=by
 rw [tokL_txt hs h,hr];simp
theorem drvL_text {s r:List UInt8} (hs:s≠[]) (h:(60:UInt8)∉s) (hr:txN r=0):drvL (s++r) = .text (rdL false s)::drvL r:=by
 rw [drvL_eq (by simp [hs]),tokL_text hs h hr];rfl
end Hand
end

section
namespace Pl
theorem escL_nil:escL []=[]:=rfl
def scanE:Bool→List UInt8→Bool
 | o,[] => !o
 | o,c::r=>if c=60∨c=62∨c=34∨c=39∨c=0∨c=13 then false else if c=38 then !o&&scanE true r else if c=59 then scanE false r else scanE o r
theorem scan_plain {o:Bool} {c:UInt8} {r:List UInt8} (h1:c≠60) (h2:c≠62) (h3:c≠34) (h4:c≠39) (h5:c≠0) (h6:c≠13) (h7:c≠38):scanE o (c::r)=scanE (if c=59 then false else o) r:=by
 rw [scanE,if_neg (by simp [h1,h2,h3,h4,h5,h6]),if_neg h7]
 by_cases h:c=59<;>simp [h]
theorem scan_esc:∀ n (s:List UInt8),s.length≤n→scanE false (escL s)=true:=by
 intro n
 induction n with
 | zero=>intro s h;obtain rfl:=List.eq_nil_of_length_eq_zero (Nat.le_zero.1 h);rfl
 | succ n ih =>
   intro s h
   cases s with
   | nil=>rfl
   | cons c r =>
     have hr:=ih r (by simp at h;omega)
     refine esc_cases c r (fun l=>scanE false l=true) ?_ ?_ ?_ ?_ ?_ ?_ ?_ ?_ ?_
     all_goals try (intro _;simp [wAmp,wLt,wGt,wQuot,wApos,wCr,wBad,scanE,hr];done)
     ·intro q _ e
      have hq:=ih q (by subst e;simp at h;omega)
      simp [wMark,scanE,hq]
     ·intro h38 h60 h62 h34 h39 h13 h0 _
      rw [scan_plain h60 h62 h34 h39 h0 h13 h38]
      simp [hr]
def noTail (a:List UInt8):Prop:=a.getLast? ≠ some 239∧(∀ p,a≠p++[239,187])
theorem noTail_cons {c d:UInt8} {r:List UInt8} (h:noTail (c::d::r)):noTail (d::r) :=
 ⟨by simpa using h.1,fun p e=>h.2 (c::p) (by rw [e];rfl)⟩
theorem esc_append:∀ n (a b:List UInt8),a.length≤n→noTail a→escL (a++b)=escL a++escL b:=by
 intro n
 induction n with
 | zero=>intro a b h _;obtain rfl:=List.eq_nil_of_length_eq_zero (Nat.le_zero.1 h);rfl
 | succ n ih =>
   intro a b h ht
   cases a with
   | nil=>rfl
   | cons c r =>
     have hr:escL (r++b)=escL r++escL b:=by
      cases r with
      | nil=>rfl
      | cons d r=>exact ih _ b (by simp at h ⊢;omega) (noTail_cons ht)
     have key:∀ v,escF c=some ([],v)→escL (c::r++b)=escL (c::r)++escL b:=by
      intro v hv
      unfold escL at *
      rw [List.cons_append,replS_hit hv rfl,replS_hit hv rfl]
      simp only [List.length_nil,List.drop_zero,hr,List.append_assoc]
     by_cases e8:c=239
     ·have hf:escF c=some ([187,191],wMark):=by subst e8;rfl
      by_cases hp:[187,191].isPrefixOf r=true
      ·obtain ⟨q,rfl⟩:=List.isPrefixOf_iff_prefix.1 hp
       have hq:escL (q++b)=escL q++escL b:=by
        cases q with
        | nil=>rfl
        | cons d q=>exact ih _ b (by simp at h ⊢;omega) (noTail_cons (noTail_cons (noTail_cons ht)))
       unfold escL at *
       rw [List.cons_append,replS_hit hf zu19,replS_hit hf zu19]
       simpa using hq
      ·have hp':¬ [187,191].isPrefixOf (r++b)=true:=by
        subst e8
        intro e
        match r,hp,ht,e with
        | [],_,ht,_=>exact ht.1 rfl
        | [d],_,ht,e =>
          have:d=187:=by
           simp only [List.cons_append,List.isPrefixOf,Bool.and_eq_true,beq_iff_eq] at e
           exact e.1.symm
          subst this
          exact ht.2 [] rfl
        | d::d'::r,hp,_,e =>
          apply hp
          simp only [List.cons_append,List.isPrefixOf,Bool.and_eq_true,beq_iff_eq] at e ⊢
          exact e
       unfold escL at *
       rw [List.cons_append,replS_miss hf hp',replS_miss hf hp,hr];rfl
     ·cases hf:escF c with
      | none =>
        unfold escL at *
        rw [List.cons_append,replS_none hf,replS_none hf,hr];rfl
      | some tv =>
        obtain ⟨t,v⟩:=tv
        have:t=[]:=by
         unfold escF at hf
         repeat' split at hf
         all_goals first | (simp at hf;exact hf.1.symm) | (simp at hf;exact hf.1)|contradiction|skip
        subst this
        exact key v hf
end Pl
end

section
namespace Pl
open Go
def rightK:Nat→List UInt8→Bool
 | _,[]=>true
 | k+1,_::r=>rightK k r
 | 0,c::r=>(firstU (c::r)).2&&rightK ((firstU (c::r)).1 - 1) r
def rightL (s:List UInt8):Bool:=rightK 0 s
theorem rightK_skip:∀ (k:Nat) (s:List UInt8),rightK k s=rightL (s.drop k):=by
 intro k
 induction k with
 | zero=>intro s;rfl
 | succ k ih =>
   intro s
   cases s with
   | nil=>rfl
   | cons c r=>exact ih r
theorem rightL_cons (c:UInt8) (r:List UInt8):rightL (c::r)=((firstU (c::r)).2&&rightL ((c::r).drop (firstU (c::r)).1)):=by
 unfold rightL
 rw [rightK,rightK_skip]
 have h:=(firstU_pos c r).1
 obtain ⟨n,hn⟩:∃ n,(firstU (c::r)).1=n+1:=⟨(firstU (c::r)).1 - 1,zu4⟩
 rw [hn]
 rfl
structure Kd (c lo hi n:Nat):Prop where
 one:(tailN c).2.2=n
 lo_:(tailN c).1=lo
 hi_:(tailN c).2.1=hi
theorem kd_of {c lo hi n:Nat} (h:tailN c=(lo,hi,n)):Kd c lo hi n:=⟨by rw [h],by rw [h],by rw [h]⟩
theorem tail_1 {c:Nat} (h:c<194∨244<c):Kd c 128 191 1:=kd_of (by unfold tailN;rw [if_neg zu4,if_neg zu4,if_neg zu4,if_neg zu4,if_neg zu4,if_neg zu4,if_neg zu4])
theorem tail_2 {c:Nat} (h:194≤c∧c≤223):Kd c 128 191 2:=kd_of (by unfold tailN;rw [if_pos h])
theorem tail_3 {c:Nat} (h:224≤c∧c≤239):∃ lo hi,Kd c lo hi 3∧128≤lo∧hi≤191∧(c=224→lo=160)∧(c=237→hi=159)∧(c≠224→lo=128)∧(c≠237→hi=191):=by
 by_cases h1:c=224
 ·exact ⟨160,191,kd_of (by subst h1;rfl),zu4⟩
 ·by_cases h2:c=237
  ·exact ⟨128,159,kd_of (by subst h2;rfl),zu4⟩
  ·exact ⟨128,191,kd_of (by unfold tailN;rw [if_neg zu4,if_neg h1,if_neg h2,if_pos zu4]),zu4⟩
theorem tail_4 {c:Nat} (h:240≤c∧c≤244):∃ lo hi,Kd c lo hi 4∧128≤lo∧hi≤191∧(c=240→lo=144)∧(c=244→hi=143)∧(c≠240→lo=128)∧(c≠244→hi=191):=by
 by_cases h1:c=240
 ·exact ⟨144,191,kd_of (by subst h1;rfl),zu4⟩
 ·by_cases h2:c=244
  ·exact ⟨128,143,kd_of (by subst h2;rfl),zu4⟩
  ·exact ⟨128,191,kd_of (by unfold tailN;rw [if_neg zu4,if_neg zu4,if_neg zu4,if_neg zu4,if_neg h1,if_neg h2,if_pos zu4]),zu4⟩
theorem first_bad1 {c:Nat} {d e f:Option Nat} (h:¬ c<128) (ht:(tailN c).2.2=1):firstN c d e f=(1,false):=by
 unfold firstN;rw [if_neg h,if_pos ht]
theorem contO_iff (o:Option Nat):contO o↔∃ x,o=some x∧128≤x∧x≤191:=by
 cases o with
 | none=>simp [contO]
 | some x=>simp [contO]
theorem inO_iff (lo hi:Nat) (o:Option Nat):inO lo hi o↔∃ x,o=some x∧lo≤x∧x≤hi:=by
 cases o with
 | none=>simp [inO]
 | some x=>simp [inO]
end Pl
end

section
namespace Pl
open Go
theorem firstN_in (c:Nat) (d e f:Option Nat) (h:(firstN c d e f).2=true) :
  (2≤(firstN c d e f).1→∃ x,d=some x∧x≤191)∧(3≤(firstN c d e f).1→∃ x,e=some x∧x≤191)∧(4≤(firstN c d e f).1→∃ x,f=some x∧x≤191):=by
 have ht:(tailN c).2.1≤191:=by
  by_cases h1:c<194∨244<c
  ·rw [(tail_1 h1).hi_];omega
  ·by_cases h2:c≤223
   ·rw [(tail_2 zu4).hi_];omega
   ·by_cases h3:c≤239
    ·obtain ⟨lo,hi,t,_,g,_⟩:=tail_3 (c:=c) zu4
     rw [t.hi_];exact g
    ·obtain ⟨lo,hi,t,_,g,_⟩:=tail_4 (c:=c) zu4
     rw [t.hi_];exact g
 have hd:inO (tailN c).1 (tailN c).2.1 d→∃ x,d=some x∧x≤191:=fun h=>by
  obtain ⟨x,h1,h2,h3⟩:=(inO_iff _ _ d).1 h
  exact ⟨x,h1,zu4⟩
 have hc:∀ o,contO o→∃ x,o=some x∧x≤191:=fun o h=>by
  obtain ⟨x,h1,h2,h3⟩:=(contO_iff o).1 h
  exact ⟨x,h1,zu4⟩
 revert h
 unfold firstN
 split
 ·simp
 ·split
  ·simp
  ·split
   ·simp
   ·rename_i h1
    have h1':=hd (Decidable.not_not.1 h1)
    split
    ·intro _;exact ⟨fun _=>h1',zu19,zu19⟩
    ·split
     ·simp
     ·rename_i h2
      have h2':=hc _ (Decidable.not_not.1 h2)
      split
      ·intro _;exact ⟨fun _=>h1',fun _=>h2',zu19⟩
      ·split
       ·rename_i h3
        intro _;exact ⟨fun _=>h1',fun _=>h2',fun _=>hc _ h3⟩
       ·simp
theorem firstU_in {c:UInt8} {r:List UInt8} (h:(firstU (c::r)).2=true) (j:Nat) (h1:1≤j) (h2:j<(firstU (c::r)).1):∃ x,(c::r)[j]? = some x∧x.toNat≤191:=by
 obtain ⟨g1,g2,g3⟩:=firstN_in _ _ _ _ h
 have h4:=(firstU_pos c r).2.2
 have key:∀ k,(∃ x,byteO r k=some x∧x≤191)→∃ x,(c::r)[k+1]? = some x∧x.toNat≤191:=by
  rintro k ⟨x,hx,hl⟩
  unfold byteO at hx
  rw [List.getElem?_cons_succ]
  cases hq:r[k]? with
  | none=>rw [hq] at hx;cases hx
  | some y=>rw [hq] at hx;cases hx;exact ⟨y,rfl,hl⟩
 have h2':j<(firstN c.toNat (byteO r 0) (byteO r 1) (byteO r 2)).1:=h2
 rcases (show j=1∨j=2∨j=3 by omega) with rfl|rfl|rfl
 ·exact key 0 (g1 zu4)
 ·exact key 1 (g2 zu4)
 ·exact key 2 (g3 zu4)
theorem right_tail (t:List UInt8) (ht:∃ q,t=239::q) (hr:rightL t=false):∀ n (p:List UInt8),p.length≤n→rightL (p++t)=false:=by
 intro n
 induction n with
 | zero=>intro p h;obtain rfl:=List.eq_nil_of_length_eq_zero (Nat.le_zero.1 h);exact hr
 | succ n ih =>
   intro p h
   cases p with
   | nil=>exact hr
   | cons c p =>
     rw [List.cons_append,rightL_cons]
     cases hF:(firstU (c::(p++t))).2 with
     | false=>rfl
     | true =>
       rw [Bool.true_and]
       by_cases hn:(firstU (c::(p++t))).1≤(c::p).length
       ·rw [← List.cons_append,List.drop_append_of_le_length (by rw [List.cons_append];exact hn)]
        apply ih
        have:=(firstU_pos c (p++t)).1
        rw [List.length_drop]
        simp only [List.length_cons] at h hn ⊢
        rw [List.cons_append]
        omega
       ·obtain ⟨x,hx,hl⟩:=firstU_in hF (p.length+1) zu4 (by simp only [List.length_cons] at hn;omega)
        obtain ⟨q,rfl⟩:=ht
        rw [List.getElem?_cons_succ,List.getElem?_append_right (Nat.le_refl _),Nat.sub_self] at hx
        cases hx
        exact absurd hl zu15
theorem right_noTail {a:List UInt8} (h:rightL a=true):noTail a:=by
 constructor
 ·intro e
  have:∃ p,a=p++[239]:=by
   refine ⟨a.dropLast,?_⟩
   have hne:a≠[]:=by rintro rfl;cases e
   rw [List.getLast?_eq_some_getLast hne] at e
   have:=List.dropLast_concat_getLast hne
   rw [Option.some.inj e] at this
   exact this.symm
  obtain ⟨p,rfl⟩:=this
  rw [right_tail [239] ⟨_,rfl⟩ zu15 _ p (Nat.le_refl _)] at h
  cases h
 ·rintro p rfl
  rw [right_tail [239,187] ⟨_,rfl⟩ zu15 _ p (Nat.le_refl _)] at h
  cases h
end Pl
end

section
namespace Pl
open Go
theorem firstN_cut {c:Nat} {d e f d' e' f':Option Nat} (h:(firstN c d e f).2=true) (hd:2≤(firstN c d e f).1→d'=d) (he:3≤(firstN c d e f).1→e'=e) (hf:4≤(firstN c d e f).1→f'=f):firstN c d' e' f'=firstN c d e f:=by
 revert h hd he hf
 unfold firstN
 by_cases h1:c<128
 ·rw [if_pos h1,if_pos h1];intros;rfl
 rw [if_neg h1,if_neg h1]
 by_cases h2:(tailN c).2.2=1
 ·rw [if_pos h2,if_pos h2];intros;rfl
 rw [if_neg h2,if_neg h2]
 by_cases h3:¬ inO (tailN c).1 (tailN c).2.1 d
 ·rw [if_pos h3];intro h;cases h
 rw [if_neg h3]
 by_cases h4:(tailN c).2.2=2
 ·rw [if_pos h4]
  intro _ hd _ _
  rw [hd zu19,if_neg h3,if_pos h4]
 rw [if_neg h4]
 by_cases h5:¬ contO e
 ·rw [if_pos h5];intro h;cases h
 rw [if_neg h5]
 by_cases h6:(tailN c).2.2=3
 ·rw [if_pos h6]
  intro _ hd he _
  rw [hd zu19,if_neg h3,if_neg h4,he zu19,if_neg h5,if_pos h6]
 rw [if_neg h6]
 by_cases h7:contO f
 ·rw [if_pos h7]
  intro _ hd he hf
  rw [hd zu19,if_neg h3,if_neg h4,he zu19,if_neg h5,if_neg h6,hf zu19,if_pos h7]
 ·rw [if_neg h7];intro h;cases h
def Sig (a:List UInt8):Prop:=a≠[]∧∀ Y,firstU (a++Y)=(a.length,true)
theorem byteO_take (r Y:List UInt8) (n k:Nat) (hk:k<n) (hn:n≤r.length):byteO (r.take n++Y) k=byteO r k:=by
 unfold byteO
 rw [List.getElem?_append_left (by rw [List.length_take];omega),List.getElem?_take_of_lt hk]
theorem sig_split {s:List UInt8} (h:rightL s=true) (hne:s≠[]):∃ a q,s=a++q∧Sig a∧rightL q=true:=by
 cases s with
 | nil=>exact absurd rfl hne
 | cons c r =>
   rw [rightL_cons,Bool.and_eq_true] at h
   obtain ⟨h1,h2⟩:=h
   obtain ⟨p1,p2,p3⟩:=firstU_pos c r
   obtain ⟨n,hn⟩:∃ n,(firstU (c::r)).1=n+1:=⟨(firstU (c::r)).1 - 1,zu4⟩
   rw [hn] at h2 p2 p3
   simp only [List.length_cons] at p2
   refine ⟨(c::r).take (n+1),(c::r).drop (n+1),(List.take_append_drop _ _).symm,⟨zu19,fun Y => ?_⟩,h2⟩
   rw [List.take_succ_cons,List.cons_append]
   show firstN c.toNat (byteO (r.take n++Y) 0) (byteO (r.take n++Y) 1) (byteO (r.take n++Y) 2)=_
   have hf:(firstN c.toNat (byteO r 0) (byteO r 1) (byteO r 2)).1=n+1:=hn
   rw [firstN_cut (d:=byteO r 0) (e:=byteO r 1) (f:=byteO r 2) h1 (fun h=>byteO_take _ _ _ _ zu4 zu4) (fun h=>byteO_take _ _ _ _ zu4 zu4) (fun h=>byteO_take _ _ _ _ zu4 zu4)]
   rw [List.length_cons,List.length_take,Nat.min_eq_left zu4,← hf]
   exact Prod.ext rfl h1
theorem right_app {a:List UInt8} (h:Sig a) (Y:List UInt8):rightL (a++Y)=rightL Y:=by
 obtain ⟨hne,h⟩:=h
 cases a with
 | nil=>exact absurd rfl hne
 | cons c r =>
   have:=h Y
   rw [List.cons_append] at this ⊢
   rw [rightL_cons,this]
   simp
theorem sig_ascii {c:UInt8} (h:c.toNat<128):Sig [c] :=
 ⟨zu19,fun Y=>by show firstN c.toNat _ _ _=_;unfold firstN;rw [if_pos h];rfl⟩
theorem right_ascii:∀ (w:List UInt8) (_:∀ c∈w,c.toNat<128) (Y:List UInt8),rightL (w++Y)=rightL Y:=by
 intro w
 induction w with
 | nil=>intro _ _;rfl
 | cons c w ih =>
   intro h Y
   rw [List.cons_append,← ih (fun x hx=>h x (by simp [hx])) Y]
   exact right_app (sig_ascii (h c zu19)) (w++Y)
theorem sig_bytes {a:List UInt8} (h:Sig a):(∃ c,a=[c]∧c.toNat<128)∨(∃ c q,a=c::q∧194≤c.toNat∧q≠[]∧q.length≤3∧∀ x∈q,128≤x.toNat∧x.toNat≤191):=by
 obtain ⟨hne,h⟩:=h
 cases a with
 | nil=>exact absurd rfl hne
 | cons c q =>
   have h1:=h []
   rw [List.append_nil] at h1
   by_cases hc:c.toNat<128
   ·left
    have:firstU (c::q)=(1,true):=by show firstN c.toNat _ _ _=_;unfold firstN;rw [if_pos hc]
    rw [this] at h1
    have:=(Prod.mk.inj h1).1
    simp only [List.length_cons] at this
    obtain rfl:=List.eq_nil_of_length_eq_zero (l:=q) zu4
    exact ⟨c,rfl,hc⟩
   ·right
    have h2:(firstU (c::q)).2=true:=by rw [h1]
    have h3:(firstU (c::q)).1=q.length+1:=by rw [h1];rfl
    have h4:=(firstU_pos c q).2.2
    have hc2:194≤c.toNat:=by
     rcases Nat.lt_or_ge c.toNat 194 with hlt|hge
     ·exfalso
      have:firstU (c::q)=(1,false):=first_bad1 (d:=byteO q 0) (e:=byteO q 1) (f:=byteO q 2) hc (tail_1 (.inl hlt)).one
      rw [this] at h2;cases h2
     ·exact hge
    have hge:∀ k,k<q.length→128≤((q[k]?).getD 0).toNat:=by
     intro k hk
     have key:∀ (d e f:Option Nat),(firstN c.toNat d e f).2=true→(2≤(firstN c.toNat d e f).1→∃ x,d=some x∧128≤x)∧(3≤(firstN c.toNat d e f).1→∃ x,e=some x∧128≤x)∧(4≤(firstN c.toNat d e f).1→∃ x,f=some x∧128≤x):=by
      intro d e f
      have ht:128≤(tailN c.toNat).1:=by
       by_cases g1:c.toNat<194∨244<c.toNat
       ·rw [(tail_1 g1).lo_];omega
       ·by_cases g2:c.toNat≤223
        ·rw [(tail_2 zu4).lo_];omega
        ·by_cases g3:c.toNat≤239
         ·obtain ⟨lo,hi,t,g,_⟩:=tail_3 (c:=c.toNat) zu4
          rw [t.lo_];exact g
         ·obtain ⟨lo,hi,t,g,_⟩:=tail_4 (c:=c.toNat) zu4
          rw [t.lo_];exact g
      have hd:inO (tailN c.toNat).1 (tailN c.toNat).2.1 d→∃ x,d=some x∧128≤x:=fun h=>by
       obtain ⟨x,h1,h2,h3⟩:=(inO_iff _ _ d).1 h
       exact ⟨x,h1,zu4⟩
      have hcc:∀ o,contO o→∃ x,o=some x∧128≤x:=fun o h=>by
       obtain ⟨x,h1,h2,h3⟩:=(contO_iff o).1 h
       exact ⟨x,h1,zu4⟩
      unfold firstN
      rw [if_neg hc]
      split
      ·simp
      ·split
       ·simp
       ·rename_i h1
        have h1':=hd (Decidable.not_not.1 h1)
        split
        ·intro _;exact ⟨fun _=>h1',zu19,zu19⟩
        ·split
         ·simp
         ·rename_i h2
          have h2':=hcc _ (Decidable.not_not.1 h2)
          split
          ·intro _;exact ⟨fun _=>h1',fun _=>h2',zu19⟩
          ·split
           ·rename_i h3
            intro _;exact ⟨fun _=>h1',fun _=>h2',fun _=>hcc _ h3⟩
           ·simp
     obtain ⟨k1,k2,k3⟩:=key _ _ _ h2
     have h3':(firstN c.toNat (byteO q 0) (byteO q 1) (byteO q 2)).1=q.length+1:=h3
     have use:∀ j,(∃ x,byteO q j=some x∧128≤x)→128≤((q[j]?).getD 0).toNat:=by
      rintro j ⟨x,hx,hl⟩
      unfold byteO at hx
      cases hq:q[j]? with
      | none=>rw [hq] at hx;cases hx
      | some y=>rw [hq] at hx;cases hx;exact hl
     rcases (show k=0∨k=1∨k=2 by omega) with rfl|rfl|rfl
     ·exact use 0 (k1 zu4)
     ·exact use 1 (k2 zu4)
     ·exact use 2 (k3 zu4)
    refine ⟨c,q,rfl,hc2,?_,zu4,?_⟩
    ·rintro rfl
     have:(firstU [c])=(1,true):=h1
     have g:=firstN_pos c.toNat (byteO [] 0) (byteO [] 1) (byteO [] 2)
     have:firstN c.toNat none none none=(1,true):=h1
     unfold firstN at this
     rw [if_neg hc] at this
     split at this
     ·cases this
     ·rw [if_pos (by simp [inO])] at this;cases this
    ·intro x hx
     obtain ⟨k,hk,rfl⟩:=List.getElem_of_mem hx
     obtain ⟨y,hy,hy2⟩:=firstU_in h2 (k+1) zu4 zu4
     rw [List.getElem?_cons_succ,List.getElem?_eq_getElem hk] at hy
     cases hy
     have:=hge k hk
     rw [List.getElem?_eq_getElem hk] at this
     exact ⟨this,hy2⟩
theorem esc_high {c:UInt8} {r:List UInt8} (h:128≤c.toNat) (hm:c=239→¬ [187,191].isPrefixOf r=true):escL (c::r)=c::escL r:=by
 have ne:∀ d:UInt8,d.toNat<128→c≠d:=by rintro d hd rfl;omega
 unfold escL
 by_cases h8:c=239
 ·have hf:escF c=some ([187,191],wMark):=by subst h8;rfl
  rw [replS_miss hf (hm h8)]
 ·rw [replS_none (by simp [escF,ne 38 zu15,ne 60 zu15,ne 62 zu15,ne 34 zu15,ne 39 zu15,ne 13 zu15,ne 0 zu15,h8])]
theorem esc_cont:∀ (q:List UInt8),(∀ x∈q,128≤x.toNat∧x.toNat≤191)→∀ Y,escL (q++Y)=q++escL Y:=by
 intro q
 induction q with
 | nil=>intro _ _;rfl
 | cons x q ih =>
   intro h Y
   have hx:=h x zu19
   rw [List.cons_append,esc_high hx.1 (by rintro rfl;exact absurd hx.2 zu15),ih (fun y hy=>h y (by simp [hy])),List.cons_append]
theorem esc_sig {a:List UInt8} (h:Sig a) (Y:List UInt8):escL (a++Y)=a++escL Y∨∃ w:List UInt8,escL (a++Y)=w++escL Y∧((∀ c∈w,c.toNat<128)∨w=wBad):=by
 rcases sig_bytes h with ⟨c,rfl,hc⟩|⟨c,q,rfl,h1,h2,h3,h4⟩
 ·right
  refine esc_cases c Y (fun l => ∃ w:List UInt8,l=w++escL Y∧((∀ c∈w,c.toNat<128)∨w=wBad)) ?_ ?_ ?_ ?_ ?_ ?_ ?_ ?_ ?_
  ·intro _;exact ⟨wAmp,rfl,.inl zu15⟩
  ·intro _;exact ⟨wLt,rfl,.inl zu15⟩
  ·intro _;exact ⟨wGt,rfl,.inl zu15⟩
  ·intro _;exact ⟨wQuot,rfl,.inl zu15⟩
  ·intro _;exact ⟨wApos,rfl,.inl zu15⟩
  ·intro _;exact ⟨wCr,rfl,.inl zu15⟩
  ·intro _;exact ⟨wBad,rfl,.inr rfl⟩
  ·rintro q rfl _;exact absurd hc zu15
  ·intros;exact ⟨[c],rfl,.inl (by simpa using hc)⟩
 ·by_cases hm:c=239∧[187,191].isPrefixOf (q++Y)=true
  ·right
   obtain ⟨rfl,hm⟩:=hm
   obtain ⟨Z,hZ⟩:=List.isPrefixOf_iff_prefix.1 hm
   have hq:q=[187,191]:=by
    have hlen:q.length=2:=by
     have hs:=h.2 []
     rw [List.append_nil] at hs
     have ht:=tail_3 (c:=239) zu4
     obtain ⟨lo,hi,t,_⟩:=ht
     have hn:(firstU (239::q)).1=q.length+1:=by rw [hs];rfl
     have h2':(firstU (239::q)).2=true:=by rw [hs]
     have:(firstN 239 (byteO q 0) (byteO q 1) (byteO q 2)).1=3:=by
      have hh:(firstN 239 (byteO q 0) (byteO q 1) (byteO q 2)).2=true:=h2'
      revert hh
      unfold firstN
      rw [if_neg zu4,if_neg (by rw [t.one];omega)]
      split
      ·intro hh;cases hh
      ·rw [if_neg (by rw [t.one];omega)]
       split
       ·intro hh;cases hh
       ·rw [if_pos t.one];intro _;rfl
     have e2:(firstU (239::q)).1=3:=this
     omega
    match q,hlen,hZ with
    | [x,y],_,hZ =>
      simp only [List.cons_append,List.nil_append,List.cons.injEq] at hZ
      rw [hZ.1,hZ.2.1]
   subst hq
   refine ⟨wMark,?_,.inl zu15⟩
   unfold escL
   rw [List.cons_append,replS_hit (show escF 239=some ([187,191],wMark) from rfl) zu19]
   rfl
  ·left
   rw [List.cons_append,esc_high zu4 (fun e h=>hm ⟨e,h⟩),esc_cont q h4,List.cons_append]
theorem right_esc:∀ n (s:List UInt8),s.length≤n→rightL s=true→rightL (escL s)=true:=by
 intro n
 induction n with
 | zero=>intro s h _;obtain rfl:=List.eq_nil_of_length_eq_zero (Nat.le_zero.1 h);rfl
 | succ n ih =>
   intro s h hr
   by_cases hne:s=[]
   ·subst hne;rfl
   ·obtain ⟨a,q,rfl,hs,hq⟩:=sig_split hr hne
    have hlen:1≤a.length:=by
     rcases Nat.eq_zero_or_pos a.length with h0|h0
     ·exact absurd (List.eq_nil_of_length_eq_zero h0) hs.1
     ·exact h0
    have hi:=ih q (by rw [List.length_append] at h;omega) hq
    rcases esc_sig hs q with e|⟨w,e,hw|rfl⟩
    ·rw [e,right_app hs];exact hi
    ·rw [e,right_ascii w hw];exact hi
    ·rw [e]
     have:Sig wBad:=⟨zu15,fun Y=>rfl⟩
     rw [right_app this];exact hi
theorem right_enc (k:Int) {s:List UInt8} (h:rightL s=true):rightL (encL k s)=true:=by
 have he:=right_esc _ s (Nat.le_refl _) h
 unfold encL
 split
 ·exact he
 ·split
  ·split
   ·exact (right_ascii [10] zu15 (escL s)).trans he
   ·exact he
  ·rfl
theorem esc_head {x:UInt8} {s Z:List UInt8} (h:escL s=x::Z) (h1:128≤x.toNat) (h2:x≠239):∃ r,s=x::r∧escL r=Z:=by
 cases s with
 | nil=>cases h
 | cons c r =>
   revert h
   have no:∀ (w:List UInt8) (l:List UInt8),(w.head? = some 38∨w.head? = some 239)→w++l=x::Z→∃ q,c::r=x::q∧escL q=Z:=by
    intro w l hw e
    cases w with
    | nil=>rcases hw with h|h<;>cases h
    | cons y w =>
      rw [List.cons_append] at e
      have:=(List.cons.inj e).1
      subst this
      rcases hw with h|h
      ·cases h;exact absurd h1 zu15
      ·cases h;exact absurd rfl h2
   refine esc_cases c r (fun l=>l=x::Z→∃ q,c::r=x::q∧escL q=Z) ?_ ?_ ?_ ?_ ?_ ?_ ?_ ?_ ?_
   ·intro _;exact no _ _ (.inl rfl)
   ·intro _;exact no _ _ (.inl rfl)
   ·intro _;exact no _ _ (.inl rfl)
   ·intro _;exact no _ _ (.inl rfl)
   ·intro _;exact no _ _ (.inl rfl)
   ·intro _;exact no _ _ (.inl rfl)
   ·intro _;exact no _ _ (.inr rfl)
   ·intro q _ _;exact no _ _ (.inl rfl)
   ·intro _ _ _ _ _ _ _ _ e
    injection e with e1 e2
    subst e1
    exact ⟨r,rfl,e2⟩
theorem esc_no_mark (s Z:List UInt8):escL s≠239::187::191::Z:=by
 cases s with
 | nil=>simp [escL,replS]
 | cons c r =>
   refine esc_cases c r (fun l=>l≠239::187::191::Z) ?_ ?_ ?_ ?_ ?_ ?_ ?_ ?_ ?_
   all_goals try (intros;simp [wAmp,wLt,wGt,wQuot,wApos,wCr,wBad,wMark];done)
   intro _ _ _ _ _ _ _ hc e
   injection e with e1 e2
   obtain ⟨r1,rfl,e3⟩:=esc_head e2 zu15 zu15
   obtain ⟨r2,rfl,e4⟩:=esc_head e3 zu15 zu15
   exact hc e1 zu19
theorem enc_no_mark (k:Int) (s:List UInt8):markP.isPrefixOf (encL k s)=false:=by
 rw [Bool.eq_false_iff]
 intro h
 obtain ⟨Z,hZ⟩:=List.isPrefixOf_iff_prefix.1 h
 have he:=esc_no_mark s Z
 unfold encL at hZ
 split at hZ
 ·exact he hZ.symm
 ·split at hZ
  ·split at hZ
   ·simp [markP] at hZ
   ·exact he hZ.symm
  ·cases hZ
theorem decL_right:∀ n (s:List UInt8),s.length≤n→rightL s=true→decL s=s:=by
 intro n
 induction n with
 | zero=>intro s h _;obtain rfl:=List.eq_nil_of_length_eq_zero (Nat.le_zero.1 h);rfl
 | succ n ih =>
   intro s h hr
   cases s with
   | nil=>rfl
   | cons c r =>
     rw [rightL_cons,Bool.and_eq_true] at hr
     have hp:=(firstU_pos c r).1
     rw [decL_cons,if_pos hr.1,ih _ zu47 hr.2,List.take_append_drop]
theorem dec_enc (k:Int) {s:List UInt8} (h:rightL s=true):decL (trimL (encL k s))=encL k s:=by
 unfold trimL
 rw [enc_no_mark,if_neg zu15]
 exact decL_right _ _ (Nat.le_refl _) (right_enc k h)
end Pl
end

section
namespace Hand
open Go Go.RowKit Pl Pb
def rowAt (T:List UInt8) (p:Nat) (key rest:List UInt8):Bool:=(T[p]? == some 10)&&(lnT T (p+1) == key++32::rest)
def wordAmp:List UInt8:=[97,109,112]
def wordLt:List UInt8:=[108,116]
def wordGt:List UInt8:=[103,116]
def wordQuot:List UInt8:=[113,117,111,116]
def wordNbsp:List UInt8:=[110,98,115,112]
theorem rows_are:(rowAt namesL 9820 (wordAmp++[59]) [50,54]&&(rowAt namesL 9813 wordAmp [50,54]&&(rowAt namesL 19023 (wordLt++[59]) [51,67]&&(rowAt namesL 15791 (wordGt++[59]) [51,69]&&(rowAt namesL 23656 (wordQuot++[59]) [50,50]&&rowAt namesL 20038 (wordNbsp++[59]) [65,48])))))=true:=by kernel_rfl
theorem row_fnd {p:Nat} {key rest:List UInt8} (h:rowAt namesL p key rest=true) (hk:∀ c∈key,c≠10∧c≠32):Fnd namesL key (some rest):=by
 unfold rowAt at h
 rw [Bool.and_eq_true,beq_iff_eq,beq_iff_eq] at h
 obtain ⟨h1,h2⟩:=h
 refine .inl ⟨p+1,.inr ⟨p,rfl,h1⟩,?_,?_⟩
 ·unfold kyT;rw [h2,ky_row hk]
 ·rw [h2];unfold rsL;rw [ky_row hk,List.drop_append,List.drop_eq_nil_of_le zu4,List.nil_append,show key.length+1 - key.length=1 by omega];rfl
theorem fnd_amp:Fnd namesL (wordAmp++[59]) (some [50,54]):=row_fnd (Bool.and_eq_true_iff.1 rows_are).1 zu15
theorem fnd_lt:Fnd namesL (wordLt++[59]) (some [51,67]):=row_fnd (Bool.and_eq_true_iff.1 (Bool.and_eq_true_iff.1 (Bool.and_eq_true_iff.1 rows_are).2).2).1 zu15
theorem fnd_gt:Fnd namesL (wordGt++[59]) (some [51,69]):=row_fnd (Bool.and_eq_true_iff.1 (Bool.and_eq_true_iff.1 (Bool.and_eq_true_iff.1 (Bool.and_eq_true_iff.1 rows_are).2).2).2).1 zu15
theorem fnd_quot:Fnd namesL (wordQuot++[59]) (some [50,50]):=row_fnd (Bool.and_eq_true_iff.1 (Bool.and_eq_true_iff.1 (Bool.and_eq_true_iff.1 (Bool.and_eq_true_iff.1 (Bool.and_eq_true_iff.1 rows_are).2).2).2).2).1 zu15
theorem fnd_key {key rest:List UInt8} (h:Fnd namesL key (some rest)):isKey namesL key:=(fnd_rest h).2.2
theorem nameT_of {key rest:List UInt8} (h:Fnd namesL key (some rest)):nameT key=(textB (num1 rest) (num2 rest)).data.toList:=by unfold nameT;rw [rowN_eq h]
theorem nameT_amp:nameT (wordAmp++[59])=[38]:=by rw [nameT_of fnd_amp];decide +kernel
theorem nameT_lt:nameT (wordLt++[59])=[60]:=by rw [nameT_of fnd_lt];decide +kernel
theorem nameT_gt:nameT (wordGt++[59])=[62]:=by rw [nameT_of fnd_gt];decide +kernel
theorem nameT_quot:nameT (wordQuot++[59])=[34]:=by rw [nameT_of fnd_quot];decide +kernel
theorem lng_stop {k r:List UInt8} {c:UInt8} (hk:isKey namesL k) (hc:kyC c=false∧c≠59∨k.getLast? = some 59):lngN (k++c::r)=k.length:=by
 have hf:=key_facts hk
 refine lngN_eq ⟨?_,.inr (by rw [List.take_left];exact hk),fun m h1 h2 hm => ?_⟩
 ·have:=hf.le;simp;omega
 ·have hg:=key_facts hm
  have h2':m≤(k++c::r).length:=by omega
  obtain ⟨d,rfl⟩:∃ d,m=k.length+1+d:=⟨m - (k.length+1),zu4⟩
  have e:(k++c::r).take (k.length+1+d)=k++c::r.take d:=by
   rw [List.take_append,List.take_of_length_le zu4,show k.length+1+d - k.length=d+1 by omega,List.take_succ_cons]
  rw [e] at hg
  rcases hc with ⟨h3,h4⟩|h3
  ·
   cases hd:r.take d with
   | nil =>
     rw [hd] at hg
     obtain ⟨x,hx,hx2⟩:=hg.last
     simp at hx
     subst hx
     rcases hx2 with h|h
     ·rw [h3] at h;cases h
     ·exact h4 h
   | cons y t =>
     rw [hd] at hg
     have hmem:c∈(k++c::y::t).dropLast:=by
      rw [List.dropLast_append_of_ne_nil zu19]
      simp
     have:=hg.inner c hmem
     rw [h3] at this;cases this
  ·have hmem:(59:UInt8)∈(k++c::r.take d).dropLast:=by
    rw [List.dropLast_append_of_ne_nil zu19]
    exact List.mem_append_left _ (List.mem_of_getLast? h3)
   have:=hg.inner 59 hmem
   exact absurd this zu15
theorem num_letter {k r:List UInt8} (hk:isKey namesL k):numL (k++r)=none:=by
 have hf:=key_facts hk
 cases k with
 | nil=>exact absurd rfl hf.pos
 | cons c k =>
   have hh:=hf.head
   have h35:c≠35:=by rintro rfl;exact absurd hh (by simp [hdC])
   unfold numL
   rw [if_neg]
   simp [begR,h35]
   have:∀ n:Fin 256,lowB (UInt8.ofNat n.val)=35→UInt8.ofNat n.val=35:=by decide +kernel
   have h:=this ⟨c.toNat,c.toNat_lt⟩
   simp only [UInt8.ofNat_toNat] at h
   exact fun e=>h35 (h e)
theorem refN_semi {attr:Bool} {w:List UInt8} (r:List UInt8) (hk:isKey namesL (w++[59])):refN attr (38::(w++59::r))=(nameT (w++[59]),w.length+2):=by
 have hl:lngN (w++59::r)=w.length+1:=by
  cases r with
  | nil =>
    refine lngN_eq ⟨?_,.inr ?_,fun m h1 h2 _ => ?_⟩
    ·have:=(key_facts hk).le;simp at this ⊢;omega
    ·rw [List.take_of_length_le zu19];exact hk
    ·simp at h2;omega
  | cons c r =>
    have:=lng_stop (c:=c) (r:=r) hk (.inr zu19)
    rw [List.append_assoc] at this
    simpa using this
 have hn:numL (w++59::r)=none:=by
  have:=num_letter (r:=r) hk
  rwa [List.append_assoc] at this
 have ht:(w++59::r).take (w.length+1)=w++[59]:=by
  rw [List.take_append,List.take_of_length_le zu4,show w.length+1 - w.length=1 by omega];rfl
 unfold refN
 rw [List.drop_succ_cons,List.drop_zero,hn,hl,ht]
 simp only
 rw [if_neg,show 1+(w.length+1)=w.length+2 by omega]
 rintro (e|e)
 ·omega
 ·unfold leftL at e
  rw [show Lib.hasSuffix (w++[59]) [59]=true by unfold Lib.hasSuffix;simp] at e
  simp at e
theorem rdL_semi {attr:Bool} {w:List UInt8} (r:List UInt8) (hk:isKey namesL (w++[59])):rdL attr (38::(w++59::r))=nameT (w++[59])++rdL attr r:=by
 rw [rdL_amp,refN_semi r hk]
 simp only
 congr 2
 rw [List.drop_succ_cons,List.drop_append,List.drop_eq_nil_of_le zu4,show w.length+1 - w.length=1 by omega];rfl
theorem numL_dec (ds r:List UInt8) (h:∀ c∈ds,isDg false c=true) (h0:ds≠[]) {m:Nat} (hv:valL 10 ds=m):numL (35::(ds++59::r))=some (m,ds.length+2):=by
 have hx:begR (ds++59::r) [120]=false:=by
  cases ds with
  | nil=>exact absurd rfl h0
  | cons c ds =>
    have hc:=h c zu19
    have:∀ n:Fin 256,isDg false (UInt8.ofNat n.val)=true→(lowB (UInt8.ofNat n.val) == 120)=false:=by decide +kernel
    have g:=this ⟨c.toNat,c.toNat_lt⟩
    simp only [UInt8.ofNat_toNat] at g
    simp [begR,g hc]
 have hd:digs false (ds++59::r)=ds:=by
  unfold digs
  rw [tw_app _ _ _ h,List.takeWhile_cons,if_neg zu15,List.append_nil]
 unfold numL
 rw [show begR (35::(ds++59::r)) [35]=true by simp [begR,lowB],if_pos rfl,List.drop_succ_cons,List.drop_zero,hx,if_neg zu15]
 unfold numQ
 simp only [hd]
 rw [show baseN false=10 from rfl,hv,if_neg zu4,List.drop_left,show begR (59::r) [59]=true by simp [begR,lowB],if_pos rfl]
 simp only [Option.map_some,Int.toNat_natCast]
theorem refN_dec {attr:Bool} (ds r:List UInt8) (h:∀ c∈ds,isDg false c=true) (h0:ds≠[]) {m:Nat} (hv:valL 10 ds=m):refN attr (38::35::(ds++59::r))=((fixB m).data.toList,ds.length+3):=by
 unfold refN
 rw [List.drop_succ_cons,List.drop_zero,numL_dec ds r h h0 hv]
 simp only
 rw [show 1+(ds.length+2)=ds.length+3 by omega]
theorem rdL_dec {attr:Bool} (ds r:List UInt8) (h:∀ c∈ds,isDg false c=true) (h0:ds≠[]) {m:Nat} (hv:valL 10 ds=m):rdL attr (38::35::(ds++59::r))=(fixB m).data.toList++rdL attr r:=by
 rw [rdL_amp,refN_dec ds r h h0 hv]
 simp only
 congr 2
 rw [show ds.length+3=(ds.length+1)+2 by omega,List.drop_succ_cons,List.drop_succ_cons,List.drop_append,List.drop_eq_nil_of_le zu4,show ds.length+1 - ds.length=1 by omega];rfl
end Hand
end

section
namespace Hand
open Go Go.RowKit Pl Pb
theorem dec_apos (attr:Bool) (r:List UInt8):rdL attr (wApos++r)=39::rdL attr r:=by
 have:=rdL_dec (attr:=attr) [51,57] r zu15 zu15 (m:=39) zu15
 exact this.trans (by rw [show (fixB 39).data.toList=[39] by decide +kernel];rfl)
theorem dec_cr (attr:Bool) (r:List UInt8):rdL attr (wCr++r)=13::rdL attr r:=by
 have:=rdL_dec (attr:=attr) [49,51] r zu15 zu15 (m:=13) zu15
 exact this.trans (by rw [show (fixB 13).data.toList=[13] by decide +kernel];rfl)
theorem dec_mark (attr:Bool) (r:List UInt8):rdL attr (wMark++r)=239::187::191::rdL attr r:=by
 have:=rdL_dec (attr:=attr) [54,53,50,55,57] r zu15 zu15 (m:=65279) zu15
 exact this.trans (by rw [show (fixB 65279).data.toList=[239,187,191] by decide +kernel];rfl)
theorem dec_amp (attr:Bool) (r:List UInt8):rdL attr (wAmp++r)=38::rdL attr r:=by
 have:=rdL_semi (attr:=attr) (w:=wordAmp) r (fnd_key fnd_amp)
 exact this.trans (by rw [nameT_amp];rfl)
theorem dec_lt (attr:Bool) (r:List UInt8):rdL attr (wLt++r)=60::rdL attr r:=by
 have:=rdL_semi (attr:=attr) (w:=wordLt) r (fnd_key fnd_lt)
 exact this.trans (by rw [nameT_lt];rfl)
theorem dec_gt (attr:Bool) (r:List UInt8):rdL attr (wGt++r)=62::rdL attr r:=by
 have:=rdL_semi (attr:=attr) (w:=wordGt) r (fnd_key fnd_gt)
 exact this.trans (by rw [nameT_gt];rfl)
theorem dec_quot (attr:Bool) (r:List UInt8):rdL attr (wQuot++r)=34::rdL attr r:=by
 have:=rdL_semi (attr:=attr) (w:=wordQuot) r (fnd_key fnd_quot)
 exact this.trans (by rw [nameT_quot];rfl)
theorem clean_ne {c:UInt8} (r:List UInt8) (h:c≠0):cleanL (c::r)=c::cleanL r:=by rw [cleanL_cons];simp [cleanB,h]
theorem read_esc (attr:Bool):∀ n (s:List UInt8),s.length≤n→rdL attr (escL s)=cleanL s:=by
 intro n
 induction n with
 | zero=>intro s h;obtain rfl:=List.eq_nil_of_length_eq_zero (Nat.le_zero.1 h);rfl
 | succ n ih =>
   intro s h
   cases s with
   | nil=>rfl
   | cons c r =>
     simp only [List.length_cons] at h
     have hr:=ih r zu4
     refine esc_cases c r (fun l=>rdL attr l=cleanL (c::r)) ?_ ?_ ?_ ?_ ?_ ?_ ?_ ?_ ?_
     ·rintro rfl;rw [dec_amp,hr,clean_ne r zu15]
     ·rintro rfl;rw [dec_lt,hr,clean_ne r zu15]
     ·rintro rfl;rw [dec_gt,hr,clean_ne r zu15]
     ·rintro rfl;rw [dec_quot,hr,clean_ne r zu15]
     ·rintro rfl;rw [dec_apos,hr,clean_ne r zu15]
     ·rintro rfl;rw [dec_cr,hr,clean_ne r zu15]
     ·rintro rfl
      rw [rdL_app attr _ (show (38:UInt8)∉wBad by decide),hr,cleanL_cons];rfl
     ·rintro q rfl rfl
      simp only [List.length_cons] at h
      rw [dec_mark,ih q zu4,clean_ne _ zu15,clean_ne _ zu15,clean_ne _ zu15]
     ·intro h38 _ _ _ _ _ h0 _
      rw [rdL_ne attr _ h38,hr,clean_ne r h0]
end Hand
end

section
namespace Hand
open Go Go.RowKit Pl Pb
theorem right_append {y:List UInt8}:∀ n (x:List UInt8),x.length≤n→rightL x=true→rightL (x++y)=rightL y:=by
 intro n
 induction n with
 | zero=>intro x h _;obtain rfl:=List.eq_nil_of_length_eq_zero (Nat.le_zero.1 h);rfl
 | succ n ih =>
   intro x h hx
   by_cases hne:x=[]
   ·subst hne;rfl
   ·obtain ⟨a,q,rfl,ha,hq⟩:=sig_split hx hne
    have h0:=List.length_pos_iff.2 ha.1
    rw [List.length_append] at h
    rw [List.append_assoc,right_app ha,ih q zu4 hq]
theorem right_cat {x y:List UInt8} (hx:rightL x=true) (hy:rightL y=true):rightL (x++y)=true:=by rw [right_append _ x (Nat.le_refl _) hx,hy]
theorem right_asc {x:List UInt8} (h:Asc x):rightL x=true:=by
 have:=right_ascii x h []
 rw [List.append_nil] at this
 exact this
def Edge (x r:List UInt8):Prop:=r=[]∨(∃ c q,r=c::q∧c.toNat<128)∨∃ p c,x=p++[c]∧c.toNat<128
theorem cut_right:∀ n (x r:List UInt8),x.length≤n→rightL (x++r)=true→Edge x r→rightL x=true∧rightL r=true:=by
 intro n
 induction n with
 | zero=>intro x r h hr _;obtain rfl:=List.eq_nil_of_length_eq_zero (Nat.le_zero.1 h);exact ⟨rfl,hr⟩
 | succ n ih =>
   intro x r h hr he
   by_cases hx:x=[]
   ·subst hx;exact ⟨rfl,hr⟩
   ·have hne:x++r≠[]:=by simp [hx]
    obtain ⟨a,q,e,ha,hq⟩:=sig_split hr hne
    have h0:=List.length_pos_iff.2 ha.1
    rcases List.append_eq_append_iff.1 e with ⟨l,h1,h2⟩|⟨l,h1,h2⟩
    ·
     cases l with
     | nil =>
       rw [List.append_nil] at h1
       subst h1
       rw [List.nil_append] at h2
       subst h2
       have:=right_app ha []
       rw [List.append_nil] at this
       exact ⟨this,hq⟩
     | cons d l =>
       exfalso
       rcases sig_bytes ha with ⟨c,e1,_⟩|⟨c,q0,e1,hc,_,_,hall⟩
       ·rw [e1] at h1
        have:=congrArg List.length h1
        have h3:=List.length_pos_iff.2 hx
        simp only [List.length_append,List.length_cons,List.length_nil] at this
        omega
       ·rw [e1] at h1
        obtain ⟨x0,xr,rfl⟩:∃ y z,x=y::z:=by cases x with|nil=>exact absurd rfl hx|cons y z=>exact ⟨y,z,rfl⟩
        rw [List.cons_append] at h1
        obtain ⟨h3,h4⟩:=List.cons.inj h1
        have hd:128≤d.toNat:=(hall d (by rw [h4];simp)).1
        rcases he with he|⟨c',q',he,hc'⟩|⟨p,c',he,hc'⟩
        ·rw [he] at h2;cases h2
        ·rw [he] at h2
         obtain ⟨h5,_⟩:=List.cons.inj h2
         rw [h5] at hc';omega
        ·have hm:c'∈x0::xr:=by rw [he];simp
         rcases List.mem_cons.1 hm with rfl|hm
         ·rw [← h3] at hc';omega
         ·have:=(hall c' (by rw [h4];simp [hm])).1;omega
    ·
     subst h1
     rw [List.length_append] at h
     have hr2:rightL (l++r)=true:=by rw [← h2];exact hq
     by_cases hl:l=[]
     ·subst hl
      have:=right_app ha []
      rw [List.append_nil] at this ⊢
      exact ⟨this,hr2⟩
     ·have he2:Edge l r:=by
       rcases he with he|he|⟨p,c,he,hc⟩
       ·exact .inl he
       ·exact .inr (.inl he)
       ·refine .inr (.inr ⟨l.dropLast,c,?_,hc⟩)
        have hlast:l.getLast hl=c:=by
         have h5:(a++l).getLast (by simp [hl])=c:=by simp [he]
         rw [List.getLast_append_of_ne_nil (by simp [hl]) hl] at h5
         exact h5
        rw [← hlast,List.dropLast_concat_getLast]
      obtain ⟨h3,h4⟩:=ih l r zu4 hr2 he2
      exact ⟨right_cat (by have:=right_app ha [];rw [List.append_nil] at this;exact this) h3,h4⟩
theorem cut_at {l:List UInt8} {n:Nat} (h:rightL l=true) (he:Edge (l.take n) (l.drop n)):rightL (l.take n)=true∧rightL (l.drop n)=true :=
 cut_right _ _ _ (Nat.le_refl _) (by rw [List.take_append_drop];exact h) he
theorem right_behind {c:UInt8} {r l:List UInt8} (h:rightL l=true) (hs:c::r <:+ l) (hc:c.toNat<128):rightL r=true:=by
 obtain ⟨p,rfl⟩:=hs
 have e:p++c::r=(p++[c])++r:=by simp
 rw [e] at h
 exact (cut_right _ _ _ (Nat.le_refl _) h (.inr (.inr ⟨p,c,rfl,hc⟩))).2
theorem right_dropAsc {l:List UInt8} {n:Nat} (h:rightL l=true) (ha:Asc (l.take n)):rightL (l.drop n)=true:=by
 have:=right_ascii (l.take n) ha (l.drop n)
 rw [List.take_append_drop,h] at this
 exact this.symm
theorem enc_right (n:Int):rightL (Utf8.encode n).data.toList=true:=by
 obtain ⟨c,hc⟩:∃ c,(if Utf8.valid n=true then n.toNat else Utf8.runeError)=c:=⟨_,rfl⟩
 have hv:c<55296∨57344≤c∧c≤1114111:=by
  rw [← hc]
  split
  ·rename_i h
   simp only [Utf8.valid,Bool.and_eq_true,Bool.or_eq_true,decide_eq_true_eq] at h
   omega
  ·exact .inr zu15
 have hone:∀ a:List UInt8,a≠[]→firstU a=(a.length,true)→rightL a=true:=by
  intro a ha hf
  cases a with
  | nil=>exact absurd rfl ha
  | cons x r=>rw [rightL_cons,hf];simp [rightL,rightK]
 have e:Utf8.encode n=(if c<128 then ⟨#[UInt8.ofNat c]⟩ else if c<2048 then ⟨#[UInt8.ofNat (192+c / 64),UInt8.ofNat (128+c % 64)]⟩
  else if c<65536 then ⟨#[UInt8.ofNat (224+c / 4096),UInt8.ofNat (128+c / 64 % 64),UInt8.ofNat (128+c % 64)]⟩
  else ⟨#[UInt8.ofNat (240+c / 262144),UInt8.ofNat (128+c / 4096 % 64),UInt8.ofNat (128+c / 64 % 64),UInt8.ofNat (128+c % 64)]⟩):=by rw [← hc];rfl
 rw [e]
 refine hone _ ?_ ?_
 ·repeat' split
  all_goals simp
 ·split
  ·rename_i h
   simp only [firstU,u8_of c zu4]
   unfold firstN
   rw [if_pos zu4];rfl
  ·split
   ·rename_i h1 h2
    simp only [firstU,byteO,u8_of (192+c / 64) zu4,List.getElem?_cons_zero,List.getElem?_cons_succ,List.getElem?_nil,Option.map_some,Option.map_none,u8_of (128+c % 64) zu4]
    unfold firstN
    have ht:=tail_2 (c:=192+c / 64) zu4
    rw [if_neg zu4,ht.one,if_neg zu15,ht.lo_,ht.hi_,if_neg (by rw [Decidable.not_not,inO_iff];exact ⟨_,rfl,zu4,zu4⟩),if_pos rfl];rfl
   ·split
    ·rename_i h1 h2 h3
     simp only [firstU,byteO,u8_of (224+c / 4096) zu4,List.getElem?_cons_zero,List.getElem?_cons_succ,List.getElem?_nil,Option.map_some,Option.map_none,u8_of (128+c / 64 % 64) zu4,u8_of (128+c % 64) zu4]
     unfold firstN
     obtain ⟨lo,hi,ht,_,_,f1,f2,f3,f4⟩:=tail_3 (c:=224+c / 4096) zu4
     rw [if_neg zu4,ht.one,if_neg zu15,ht.lo_,ht.hi_,if_neg (by
      rw [Decidable.not_not,inO_iff]
      refine ⟨_,rfl,?_,?_⟩
      ·by_cases hq:224+c / 4096=224
       ·rw [f1 hq];omega
       ·rw [f3 hq];omega
      ·by_cases hq:224+c / 4096=237
       ·rw [f2 hq];omega
       ·rw [f4 hq];omega),if_neg zu15,if_neg zv1,if_pos rfl];rfl
    ·rename_i h1 h2 h3
     simp only [firstU,byteO,u8_of (240+c / 262144) zu4,List.getElem?_cons_zero,List.getElem?_cons_succ,List.getElem?_nil,Option.map_some,Option.map_none,u8_of (128+c / 4096 % 64) zu4,u8_of (128+c / 64 % 64) zu4,u8_of (128+c % 64) zu4]
     unfold firstN
     obtain ⟨lo,hi,ht,_,_,f1,f2,f3,f4⟩:=tail_4 (c:=240+c / 262144) zu4
     rw [if_neg zu4,ht.one,if_neg zu15,ht.lo_,ht.hi_,if_neg (by
      rw [Decidable.not_not,inO_iff]
      refine ⟨_,rfl,?_,?_⟩
      ·by_cases hq:240+c / 262144=240
       ·rw [f1 hq];omega
       ·rw [f3 hq];omega
      ·by_cases hq:240+c / 262144=244
       ·rw [f2 hq];omega
       ·rw [f4 hq];omega),if_neg zu15,if_neg zv1,if_neg zu15,if_pos (by rw [contO_iff];exact ⟨_,rfl,zu4,zu4⟩)];rfl
theorem sign_right (n:Int):rightL (signB n).data.toList=true:=by
 unfold signB
 split
 ·decide
 ·exact enc_right n
theorem fix_right (n:Nat):rightL (fixB n).data.toList=true:=by
 unfold fixB
 split
 ·decide
 ·split<;>exact sign_right _
theorem text_right (a b:Nat):rightL (textB a b).data.toList=true:=by
 unfold textB
 split
 ·exact sign_right _
 ·rw [show (signB (a:Int)++signB (b:Int)).data.toList=(signB (a:Int)).data.toList++(signB (b:Int)).data.toList by simp]
  exact right_cat (sign_right _) (sign_right _)
theorem nameT_right (k:List UInt8):rightL (nameT k)=true:=by
 unfold nameT
 split
 ·exact text_right _ _
 ·rfl
theorem ref_right (attr:Bool) (r:List UInt8):rightL (refN attr (38::r)).1=true:=by
 have h:=ref_asc attr r
 unfold refN at h ⊢
 split
 ·exact fix_right _
 ·rename_i h0
  rw [h0] at h
  simp only at h
  split
  ·rename_i h1
   rw [if_pos h1] at h
   exact right_asc h
  ·exact nameT_right _
theorem rd_right (attr:Bool):∀ n (l:List UInt8),l.length≤n→rightL l=true→rightL (rdL attr l)=true:=by
 intro n
 induction n with
 | zero=>intro l h _;obtain rfl:=List.eq_nil_of_length_eq_zero (Nat.le_zero.1 h);rfl
 | succ n ih =>
   intro l h hr
   cases l with
   | nil=>rfl
   | cons c r =>
     by_cases hc:c=38
     ·subst hc
      have hb:=refN_bd attr 38 r
      rw [rdL_amp]
      simp only [List.length_cons] at h hb
      exact right_cat (ref_right attr r) (ih _ zu48 (right_dropAsc hr (ref_asc attr r)))
     ·obtain ⟨a,q,e,ha,hq⟩:=sig_split hr (List.cons_ne_nil _ _)
      have hno:(38:UInt8)∉a:=by
       rcases sig_bytes ha with ⟨c',rfl,_⟩|⟨c',q0,rfl,h1,_,_,h2⟩
       ·obtain ⟨h3,_⟩:=List.cons.inj e
        rw [List.mem_singleton];rw [← h3];exact fun e=>hc e.symm
       ·rw [List.mem_cons,not_or]
        refine ⟨fun e => ?_,fun hm => ?_⟩
        ·rw [← e] at h1;exact absurd h1 zu15
        ·have:=(h2 _ hm).1;exact absurd this zu15
      have h0:=List.length_pos_iff.2 ha.1
      rw [e,List.length_append] at h
      rw [e,rdL_app attr q hno,right_app ha]
      exact ih q zu4 hq
theorem clean_right:∀ n (l:List UInt8),l.length≤n→rightL l=true→rightL (cleanL l)=true:=by
 intro n
 induction n with
 | zero=>intro l h _;obtain rfl:=List.eq_nil_of_length_eq_zero (Nat.le_zero.1 h);rfl
 | succ n ih =>
   intro l h hr
   by_cases hl:l=[]
   ·subst hl;rfl
   ·obtain ⟨a,q,rfl,ha,hq⟩:=sig_split hr hl
    have h0:=List.length_pos_iff.2 ha.1
    rw [List.length_append] at h
    have e:cleanL (a++q)=cleanL a++cleanL q:=by simp [cleanL]
    rw [e]
    refine right_cat ?_ (ih q zu4 hq)
    by_cases h00:(0:UInt8)∈a
    ·rcases sig_bytes ha with ⟨c',rfl,_⟩|⟨c',q0,rfl,h1,_,_,h2⟩
     ·rw [List.mem_singleton] at h00;rw [← h00];decide
     ·rcases List.mem_cons.1 h00 with e|hm
      ·rw [← e] at h1;exact absurd h1 zu15
      ·have:=(h2 _ hm).1;exact absurd this zu15
    ·rw [cleanL_of_no0 h00]
     have:=right_app ha []
     rw [List.append_nil] at this
     exact this
end Hand
end

section
namespace Hand
open Go Go.RowKit Pl Pb Go.Proofs.YtclkdmmgibgamaaGreatDoor.Pure
theorem drive_txt {t:List UInt8} (h:(60:UInt8)∉t):driveL t=txtT (rdL false t):=by
 cases ht:t with
 | nil=>rfl
 | cons c r =>
   have hn:t≠[]:=by rw [ht];simp
   rw [← ht]
   have:=drvL_text (r:=[]) hn h rfl
   rw [List.append_nil,drvL_nil] at this
   unfold driveL
   rw [this]
   simp [joinL]
theorem ends_ne {c:UInt8} (r name:List UInt8) (h:c≠60):endsL (c::r) name=false:=by
 cases he:endsL (c::r) name with
 | false=>rfl
 | true =>
   have:=ends_pref he
   simp [List.isPrefixOf] at this
   exact absurd this.1.symm h
end Hand
end

section
namespace Hand
open Go Go.RowKit Pl Pb Go.Proofs.YtclkdmmgibgamaaGreatDoor.Pure
def Aft (l r:List UInt8):Prop:=r=[]∨62::r <:+ l
theorem aft_right {l r:List UInt8} (h:rightL l=true) (ha:Aft l r):rightL r=true:=by
 rcases ha with rfl|ha
 ·rfl
 ·exact right_behind h ha zu15
theorem aft_trans {l m r:List UInt8} (hs:m <:+ l) (h:Aft m r):Aft l r:=by
 rcases h with h|h
 ·exact .inl h
 ·exact .inr (h.trans hs)
theorem attrF_aft (f:Nat):∀ l s l' b r,attrF f l s=some (l',b,r)→62::r <:+ s:=by
 induction f with
 | zero=>intro l s l' b r h;cases h
 | succ f ih =>
   intro l s l' b r h
   have h1:spL s <:+ s:=List.dropWhile_suffix _
   simp only [attrF] at h
   split at h
   ·cases h
   ·rename_i c r0 he
    have h0:c::r0 <:+ s:=he ▸ h1
    have h2:r0 <:+ s:=(List.suffix_cons c r0).trans h0
    split at h
    ·rename_i hc;cases h;rw [← hc];exact h0
    ·split at h
     ·split at h
      ·exact (ih _ _ _ _ _ h).trans List.nil_suffix
      ·rename_i d r' _
       split at h
       ·rename_i hd;cases h;rw [← hd];exact h2
       ·exact (ih _ _ _ _ _ h).trans h2
     ·split at h
      ·cases h
      ·rename_i v r' hv
       exact (ih _ _ _ _ _ h).trans ((valA_suf hv).trans ((List.dropWhile_suffix _).trans h2))
theorem tagL_aft (l:List UInt8):Aft l (tagL l).2:=by
 unfold tagL
 split
 ·exact .inl rfl
 ·rename_i al self r he
  exact .inr ((attrF_aft _ _ _ _ _ _ he).trans ((List.dropWhile_suffix _).trans (List.drop_suffix _ _)))
theorem past_aft (l:List UInt8):Aft l (past 62 l):=by
 induction l with
 | nil=>exact .inl rfl
 | cons c r ih =>
   have e:past 62 (c::r)=if c=62 then r else past 62 r:=by
    unfold past
    rw [upto_cons]
    split
    ·rfl
    ·rfl
   rw [e]
   split
   ·rename_i hc;subst hc;exact .inr (List.suffix_refl _)
   ·exact aft_trans (List.suffix_cons _ _) ih
theorem endG_aft {p q:List UInt8} (hp:∃ p0,p=p0++[62]) (hq:∃ q0,q=q0++[62]):∀ (s t:List UInt8) (n:Nat),endG p q s=some (t,n)→62::s.drop n <:+ s:=by
 have one:∀ {w s:List UInt8},(∃ w0,w=w0++[62])→w.isPrefixOf s=true→62::s.drop w.length <:+ s:=by
  rintro w s ⟨w0,rfl⟩ h
  obtain ⟨y,rfl⟩:=List.isPrefixOf_iff_prefix.1 h
  rw [List.drop_left]
  exact ⟨w0,zu19⟩
 intro s
 induction s with
 | nil=>intro t n h;cases h
 | cons c r ih =>
   intro t n h
   rw [endG] at h
   split at h
   ·rename_i h1;cases h;exact one hp h1
   ·split at h
    ·rename_i h1;cases h;exact one hq h1
    ·split at h
     ·cases h
     ·rename_i t' n' he
      cases h
      rw [List.drop_succ_cons]
      exact (ih _ _ he).trans (List.suffix_cons _ _)
theorem otherL_aft (s:List UInt8):Aft s (s.drop (otherL s).2):=by
 unfold otherL
 split
 ·exact .inl zu19
 ·rename_i x he
  obtain ⟨t,n⟩:=x
  exact .inr (endG_aft ⟨[],rfl⟩ ⟨[],rfl⟩ s t n he)
theorem plainL_aft (s:List UInt8):Aft s (s.drop (plainL s).2):=by
 unfold plainL
 split
 ·rename_i h
  obtain ⟨y,rfl⟩:=List.isPrefixOf_iff_prefix.1 h
  exact .inr (List.suffix_refl _)
 ·split
  ·rename_i h
   obtain ⟨y,rfl⟩:=List.isPrefixOf_iff_prefix.1 h
   exact .inr ⟨[45],rfl⟩
  ·split
   ·rename_i x he
    obtain ⟨t,n⟩:=x
    exact .inr (endG_aft ⟨[45,45],rfl⟩ ⟨[45,45,33],rfl⟩ s t n he)
   ·refine .inl ?_
    unfold plainEnd
    repeat' split
    all_goals exact List.drop_length
theorem readC_aft (l:List UInt8):Aft l (l.drop (readC l).2):=by
 unfold readC
 split
 ·rw [show (l.drop (4+(plainL (l.drop 4)).2))=(l.drop 4).drop (plainL (l.drop 4)).2 by rw [List.drop_drop]]
  exact aft_trans (List.drop_suffix _ _) (plainL_aft _)
 ·split
  ·rw [show (l.drop (1+(otherL (l.drop 1)).2))=(l.drop 1).drop (otherL (l.drop 1)).2 by rw [List.drop_drop]]
   exact aft_trans (List.drop_suffix _ _) (otherL_aft _)
  ·rw [show (l.drop (2+(otherL (l.drop 2)).2))=(l.drop 2).drop (otherL (l.drop 2)).2 by rw [List.drop_drop]]
   exact aft_trans (List.drop_suffix _ _) (otherL_aft _)
def Cut60 (l:List UInt8) (n:Nat):Prop:=l.drop n=[]∨∃ q,l.drop n=60::q
theorem cut60 {l:List UInt8} {n:Nat} (h:rightL l=true) (hc:Cut60 l n):rightL (l.take n)=true∧rightL (l.drop n)=true:=by
 refine cut_at h ?_
 rcases hc with hc|⟨q,hc⟩
 ·exact .inl hc
 ·exact .inr (.inl ⟨60,q,hc,zu15⟩)
theorem txN_cut (l:List UInt8):Cut60 l (txN l):=by
 induction l with
 | nil=>exact .inl rfl
 | cons c r ih =>
   rw [txN]
   split
   ·rename_i h;exact .inr ⟨r,by rw [beg_60 h];rfl⟩
   ·rw [Nat.add_comm];exact ih
theorem firstE_cut (name l:List UInt8):Cut60 l (firstE name l):=by
 induction l with
 | nil=>exact .inl rfl
 | cons c r ih =>
   rw [firstE]
   split
   ·rename_i h
    by_cases hc:c=60
    ·exact .inr ⟨r,by rw [hc];rfl⟩
    ·rw [ends_ne r name hc] at h;cases h
   ·rw [Nat.add_comm];exact ih
theorem step_none {st ct:Nat} {c:UInt8} {r:List UInt8} (h:stepF st ct (c::r)=none):c=60:=by
 refine Classical.byContradiction fun hc => ?_
 unfold stepF at h
 simp only [ends_ne r scriptL hc] at h
 repeat' split at h
 all_goals first | (simp at h;done)|simp_all
theorem find_cut:∀ n (l:List UInt8) (st ct:Nat),l.length≤n→Cut60 l (findL st ct l).1:=by
 intro n
 induction n with
 | zero=>intro l st ct h;obtain rfl:=List.eq_nil_of_length_eq_zero (Nat.le_zero.1 h);exact .inl zu19
 | succ n ih =>
   intro l st ct h
   cases hs:stepF st ct l with
   | none =>
     rw [findL_none hs]
     cases l with
     | nil=>exact .inl rfl
     | cons c r=>exact .inr ⟨r,by rw [step_none hs];rfl⟩
   | some x =>
     obtain ⟨m,st',ct'⟩:=x
     have ha:=stepF_adv hs
     rw [findL_some hs]
     have:=ih (l.drop m) st' ct' zu47
     unfold Cut60 at this ⊢
     rw [List.drop_drop] at this
     exact this
theorem endN_cut (st:Nat) (name l:List UInt8):Cut60 l (endN st name l):=by
 unfold endN
 split
 ·exact firstE_cut name l
 ·split
  ·exact find_cut _ l 0 0 (Nat.le_refl _)
  ·exact .inl List.drop_length
def TkR:Tk→Prop
 | .text s=>rightL s=true
 | _=>True
theorem tagL_txt (l:List UInt8):∀ t∈(tagL l).1,TkR t:=by
 unfold tagL
 split
 ·intro t h;cases h
 ·intro t h
  simp only [Option.mem_def,Option.some.injEq] at h
  subst h
  split<;>trivial
theorem tagR_txt (l:List UInt8):∀ t∈(tagR l).1,TkR t:=by
 unfold tagR
 split
 ·intro t h;cases h
 ·exact tagL_txt l
theorem tagR_right {l:List UInt8} (h:rightL l=true):rightL (tagR l).2=true:=by
 unfold tagR
 split
 ·exact h
 ·exact aft_right h (tagL_aft l)
theorem void_aft {l:List UInt8} (h:begR l voidL=true):Aft l (l.drop 3):=by
 have h1:begR l ([60,47]++[62])=true:=h
 rw [begR_append,Bool.and_eq_true] at h1
 have h2:=h1.2
 have e:l.drop 3=(l.drop 2).drop 1:=by rw [List.drop_drop]
 rw [e]
 refine aft_trans (List.drop_suffix 2 l) ?_
 cases hd:l.drop 2 with
 | nil=>exact .inl rfl
 | cons c r =>
   have h3:begR (c::r) [62]=true:=by rw [← hd];exact h2
   rw [begR,Bool.and_eq_true,beq_iff_eq] at h3
   have hall:∀ n:Fin 256,lowB (UInt8.ofNat n.val)=62→UInt8.ofNat n.val=62:=by decide +kernel
   have h':=hall ⟨c.toNat,c.toNat_lt⟩
   have hc:c=62:=by simpa using h' (by simpa using h3.1)
   subst hc
   exact .inr (List.suffix_refl _)
theorem tokL_right {l:List UInt8} (h:rightL l=true):(∀ t∈(tokL l).1,TkR t)∧rightL (tokL l).2=true:=by
 unfold tokL
 split
 ·exact ⟨tagL_txt l,aft_right h (tagL_aft l)⟩
 ·split
  ·exact ⟨fun t ht=>by simp only [Option.mem_def,Option.some.injEq] at ht;subst ht;trivial,aft_right h (readC_aft l)⟩
  ·split
   ·exact ⟨fun t ht=>by simp only [Option.mem_def,Option.some.injEq] at ht;subst ht;trivial,aft_right h (aft_trans (List.drop_suffix 9 l) (past_aft _))⟩
   ·split
    ·rename_i hv
     exact ⟨fun t ht=>(by cases ht),aft_right h (void_aft hv)⟩
    ·split
     ·exact ⟨fun t ht=>(by cases ht),h⟩
     ·have hc:=cut60 h (txN_cut l)
      exact ⟨fun t ht=>by simp only [Option.mem_def,Option.some.injEq] at ht;subst ht;exact rd_right false _ _ (Nat.le_refl _) hc.1,hc.2⟩
theorem rawT_right (b:Bool) {s:List UInt8} (h:rightL s=true):rightL (rawT b s)=true:=by
 unfold rawT
 split
 ·exact clean_right _ _ (Nat.le_refl _) (rd_right false _ _ (Nat.le_refl _) h)
 ·exact clean_right _ _ (Nat.le_refl _) h
theorem txtT_right {s:List UInt8} (h:rightL s=true):∀ t∈txtT s,TkR t:=by
 unfold txtT
 split
 ·intro t ht;cases ht
 ·intro t ht;rw [List.mem_singleton.1 ht];exact h
theorem restL_right (st:Nat) (name:List UInt8) {l:List UInt8} (h:rightL l=true):(∀ t∈(restL st name l).1,TkR t)∧rightL (restL st name l).2=true:=by
 have hc:=cut60 h (endN_cut st name l)
 unfold restL
 split
 ·exact ⟨fun t ht=>(by cases ht),h⟩
 ·split
  ·exact ⟨txtT_right (rawT_right _ hc.1),rfl⟩
  ·refine ⟨fun t ht => ?_,tagR_right hc.2⟩
   rcases List.mem_append.1 ht with ht|ht
   ·exact txtT_right (rawT_right _ hc.1) t ht
   ·exact tagR_txt _ t (by simpa using ht)
theorem drv1_right {x:Option Tk×List UInt8} (h1:∀ t∈x.1,TkR t) (h2:rightL x.2=true):(∀ t∈(drv1 x).1,TkR t)∧rightL (drv1 x).2=true:=by
 unfold drv1
 split
 ·rename_i n al self r
  have h3:=restL_right (stateN n) n (l:=r) h2
  refine ⟨fun t ht => ?_,h3.2⟩
  rcases List.mem_cons.1 ht with rfl|ht
  ·trivial
  ·exact h3.1 t ht
 ·rename_i t r _
  exact ⟨fun u hu=>by rw [List.mem_singleton.1 hu];exact h1 t rfl,h2⟩
 ·exact ⟨fun t ht=>(by cases ht),h2⟩
theorem drvL_right:∀ n (l:List UInt8),l.length≤n→rightL l=true→∀ t∈drvL l,TkR t:=by
 intro n
 induction n with
 | zero=>intro l h _;obtain rfl:=List.eq_nil_of_length_eq_zero (Nat.le_zero.1 h);intro t ht;cases ht
 | succ n ih =>
   intro l h hr
   by_cases hl:l=[]
   ·subst hl;intro t ht;cases ht
   ·have h1:=tokL_right hr
    have h2:=drv1_right h1.1 h1.2
    have h3:=tokL_lt hl
    have h4:=drv1_le (tokL l)
    rw [drvL_eq hl]
    intro t ht
    rcases List.mem_append.1 ht with ht|ht
    ·exact h2.1 t ht
    ·exact ih _ zu4 h2.2 t ht
theorem join_right {l:List Tk} (h:∀ t∈l,TkR t):∀ t∈joinL l,TkR t:=by
 induction l with
 | nil=>intro t ht;cases ht
 | cons u r ih =>
   have ihr:=ih (fun t ht=>h t (List.mem_cons_of_mem _ ht))
   cases hx:isTx u with
   | false =>
     rw [joinL_no r hx]
     intro t ht
     rcases List.mem_cons.1 ht with rfl|ht
     ·exact h _ List.mem_cons_self
     ·exact ihr t ht
   | true =>
     obtain ⟨s,rfl⟩:∃ s,u = .text s:=by cases u<;>first|exact ⟨_,rfl⟩|cases hx
     have hs:rightL s=true:=h (.text s) List.mem_cons_self
     rw [joinL]
     split
     ·rename_i v r2 he
      intro t ht
      rcases List.mem_cons.1 ht with rfl|ht
      ·exact right_cat hs (ihr (.text v) (by rw [he];exact List.mem_cons_self))
      ·exact ihr t (by rw [he];exact List.mem_cons_of_mem _ ht)
     ·intro t ht
      rcases List.mem_append.1 ht with ht|ht
      ·exact txtT_right hs t ht
      ·exact ihr t ht
theorem drive_right {l:List UInt8} (h:rightL l=true):∀ t∈driveL l,TkR t:=join_right (drvL_right _ l (Nat.le_refl _) h)
end Hand
end

section
namespace Hand
open Go Go.RowKit Pl Pb Go.Proofs.YtclkdmmgibgamaaGreatDoor.Pure
structure FlOk (f:Fl):Prop where
 bl:∀ c∈f.bl,c=9∨c=12∨c=32
 no:∀ c∈f.told,c≠0∧c≠13
 hd:∀ c,f.told.head? = some c→isBl c=false
 lst:∀ c,f.told.getLast? = some c→isBl c=false
 right:rightL f.told=true
theorem FlOk.nil:FlOk ⟨[],0,[]⟩:=by
 constructor
 ·intro c hc;cases hc
 ·intro c hc;cases hc
 ·intro c hc;cases hc
 ·intro c hc;cases hc
 ·rfl
theorem FlOk.line {f:Fl} (h:FlOk f):FlOk (flLine f):=⟨fun c hc=>(by cases hc),h.no,h.hd,h.lst,h.right⟩
theorem FlOk.brk {f:Fl} (h:FlOk f) (n:Nat):FlOk (flBreak f n):=⟨fun c hc=>(by cases hc),h.no,h.hd,h.lst,h.right⟩
theorem FlOk.lose {f:Fl} (h:FlOk f):FlOk (flLose f):=by
 unfold flLose
 split
 ·exact ⟨fun c hc=>by rw [List.mem_singleton.1 hc];exact .inr (.inr rfl),h.no,h.hd,h.lst,h.right⟩
 ·exact h
theorem isBl_iff (c:UInt8):isBl c=true↔c=9∨c=10∨c=12∨c=13∨c=32:=by simp [isBl,or_assoc]
theorem FlOk.keep {f:Fl} (h:FlOk f) {c:UInt8} (hc:isBl c=true):FlOk (flKeep f c):=by
 unfold flKeep
 split
 ·exact h.line
 ·rename_i hn
  refine ⟨fun x hx => ?_,h.no,h.hd,h.lst,h.right⟩
  rcases List.mem_append.1 hx with hx|hx
  ·exact h.bl x hx
  ·rw [List.mem_singleton.1 hx]
   rcases (isBl_iff c).1 hc with e|e|e|e|e
   ·exact .inl e
   ·exact absurd (.inl e) hn
   ·exact .inr (.inl e)
   ·exact absurd (.inr e) hn
   ·exact .inr (.inr e)
theorem FlOk.add {f:Fl} (h:FlOk f):∀ c∈flAdd f,c=9∨c=10∨c=12∨c=32:=by
 intro c hc
 unfold flAdd at hc
 split at hc
 ·cases hc
 ·rcases List.mem_append.1 hc with hc|hc
  ·exact .inr (.inl (List.eq_of_mem_replicate hc))
  ·rcases h.bl c hc with e|e|e
   ·exact .inl e
   ·exact .inr (.inr (.inl e))
   ·exact .inr (.inr (.inr e))
theorem FlOk.addAsc {f:Fl} (h:FlOk f):Asc (flAdd f):=by
 intro c hc
 rcases h.add c hc with rfl|rfl|rfl|rfl<;>decide
theorem put_high (k:Bool):∀ (q:List UInt8) (f:Fl),(∀ x∈q,128≤x.toNat)→f.told≠[]→f.ends=0→f.bl=[]→flPut k f q=⟨f.told++q,0,[]⟩:=by
 intro q
 induction q with
 | nil=>rintro ⟨t,e,b⟩ _ _ rfl rfl;rw [List.append_nil];rfl
 | cons c q ih =>
   rintro ⟨t,e,b⟩ h h0 rfl rfl
   have hc:=h c zu19
   have hz:c≠0:=fun e=>by rw [e] at hc;exact absurd hc zu15
   have hb:¬ isBl c=true:=fun e=>by
    rcases (isBl_iff c).1 e with e|e|e|e|e<;>(rw [e] at hc;exact absurd hc zu15)
   have e1:flByte k ⟨t,0,[]⟩ c=⟨t++[c],0,[]⟩:=by
    unfold flByte
    rw [if_neg hz,if_neg hb]
    unfold flWord flAdd
    simp
   rw [show flPut k ⟨t,0,[]⟩ (c::q)=flPut k (flByte k ⟨t,0,[]⟩ c) q from rfl,e1,ih _ (fun x hx=>h x (by simp [hx])) zu19 rfl rfl]
   simp
theorem FlOk.word {f:Fl} (h:FlOk f) {c:UInt8} {q:List UInt8} (h0:c≠0) (hb:isBl c=false) (hq:∀ x∈q,128≤x.toNat) (hr:rightL (c::q)=true):FlOk ⟨f.told++flAdd f++c::q,0,[]⟩:=by
 have hnb:∀ x∈c::q,isBl x=false∧x≠0∧x≠13:=by
  intro x hx
  rcases List.mem_cons.1 hx with rfl|hx
  ·refine ⟨hb,h0,fun e => ?_⟩
   rw [e] at hb;exact absurd hb zu15
  ·have hc:=hq x hx
   refine ⟨?_,fun e=>by rw [e] at hc;exact absurd hc zu15,fun e=>by rw [e] at hc;exact absurd hc zu15⟩
   cases hx2:isBl x with
   | false=>rfl
   | true=>rcases (isBl_iff x).1 hx2 with e|e|e|e|e<;>(rw [e] at hc;exact absurd hc zu15)
 refine ⟨fun x hx=>(by cases hx),fun x hx => ?_,fun x hx => ?_,fun x hx => ?_,?_⟩
 ·rcases List.mem_append.1 hx with hx|hx
  ·rcases List.mem_append.1 hx with hx|hx
   ·exact h.no x hx
   ·rcases h.add x hx with rfl|rfl|rfl|rfl<;>exact ⟨zu15,zu15⟩
  ·exact (hnb x hx).2
 ·cases ht:f.told with
  | nil =>
    have e:flAdd f=[]:=by unfold flAdd;rw [if_pos ht]
    rw [ht,e] at hx
    simp only [List.nil_append,List.head?_cons,Option.some.injEq] at hx
    rw [← hx];exact hb
  | cons d t =>
    rw [ht] at hx
    exact h.hd x (by rw [ht];simpa using hx)
 ·rw [List.getLast?_append] at hx
  have:(c::q).getLast? = some x:=by
   cases hg:(c::q).getLast? with
   | none=>simp at hg
   | some y=>rw [hg] at hx;simpa using hx
  exact (hnb x (List.mem_of_getLast? this)).1
 ·exact right_cat (right_cat h.right (right_asc h.addAsc)) hr
theorem FlOk.put {k:Bool}:∀ n (s:List UInt8) (f:Fl),s.length≤n→FlOk f→rightL s=true→FlOk (flPut k f s):=by
 intro n
 induction n with
 | zero=>intro s f h hf _;obtain rfl:=List.eq_nil_of_length_eq_zero (Nat.le_zero.1 h);exact hf
 | succ n ih =>
   intro s f h hf hr
   by_cases hs:s=[]
   ·subst hs;exact hf
   ·obtain ⟨a,q,rfl,ha,hq⟩:=sig_split hr hs
    have h0:=List.length_pos_iff.2 ha.1
    rw [List.length_append] at h
    have e:flPut k f (a++q)=flPut k (flPut k f a) q:=List.foldl_append ..
    rw [e]
    refine ih q _ zu4 ?_ hq
    have hra:rightL a=true:=by have:=right_app ha [];rw [List.append_nil] at this;exact this
    rcases sig_bytes ha with ⟨c,rfl,hc⟩|⟨c,q0,rfl,h1,_,_,h2⟩
    ·show FlOk (flByte k f c)
     unfold flByte
     split
     ·exact hf
     ·rename_i hz
      split
      ·rename_i hb
       split
       ·exact hf.keep hb
       ·exact hf.lose
      ·rename_i hb
       exact hf.word (q:=[]) hz (by simpa using hb) (fun x hx=>by cases hx) hra
    ·have hz:c≠0:=fun e=>by rw [e] at h1;exact absurd h1 zu15
     have hb:isBl c=false:=by
      cases hx2:isBl c with
      | false=>rfl
      | true=>rcases (isBl_iff c).1 hx2 with e|e|e|e|e<;>(rw [e] at h1;exact absurd h1 zu15)
     have e1:flPut k f (c::q0)=⟨f.told++flAdd f++c::q0,0,[]⟩:=by
      rw [show flPut k f (c::q0)=flPut k (flByte k f c) q0 from rfl]
      unfold flByte
      rw [if_neg hz,if_neg (by rw [hb];decide)]
      rw [put_high k q0 _ (fun x hx=>(h2 x hx).1) (by unfold flWord;simp) rfl rfl]
      unfold flWord
      simp
     rw [e1]
     exact hf.word hz hb (fun x hx=>(h2 x hx).1) hra
theorem FlOk.lines {f:Fl} (h:FlOk f) (n:List UInt8):FlOk (pgLines f n):=by
 unfold pgLines
 dsimp only
 split
 ·split
  ·exact h.line
  ·exact h
 ·split
  ·exact h.line.brk _
  ·exact h.brk _
theorem FlOk.tok {p:Pg} (h:FlOk p.fl) {t:Tk} (ht:TkR t):FlOk (pgTok p t).fl:=by
 cases t with
 | text s =>
   show FlOk (pgText p s).fl
   unfold pgText
   split
   ·exact FlOk.put _ s _ (Nat.le_refl _) h ht
   ·exact h
 | start n l b =>
   show FlOk (pgStart p n).fl
   unfold pgStart
   dsimp only
   repeat' split
   all_goals first|exact h|exact h.lines n
 | fin n =>
   show FlOk (pgEnd p n).fl
   unfold pgEnd
   split
   ·exact h
   ·split
    ·exact h.lines n
    ·exact h
 | comment s=>exact h
 | doctype s=>exact h
theorem FlOk.render:∀ (l:List Tk) (p:Pg),FlOk p.fl→(∀ t∈l,TkR t)→FlOk (renderP p l).fl:=by
 intro l
 induction l with
 | nil=>intro p h _;exact h
 | cons t r ih =>
   intro p h ht
   exact ih (pgTok p t) (h.tok (ht t List.mem_cons_self)) fun u hu=>ht u (List.mem_cons_of_mem _ hu)
theorem norm_right:∀ n (s:List UInt8),s.length≤n→rightL s=true→∀ b,rightL (normF b s)=true:=by
 intro n
 induction n with
 | zero=>intro s h _ b;obtain rfl:=List.eq_nil_of_length_eq_zero (Nat.le_zero.1 h);rfl
 | succ n ih =>
   intro s h hr b
   by_cases hs:s=[]
   ·subst hs;rfl
   ·obtain ⟨a,q,rfl,ha,hq⟩:=sig_split hr hs
    have h0:=List.length_pos_iff.2 ha.1
    rw [List.length_append] at h
    have hra:rightL a=true:=by have:=right_app ha [];rw [List.append_nil] at this;exact this
    have hi:=ih q zu4 hq
    rw [normF_append]
    refine right_cat ?_ (hi _)
    rcases sig_bytes ha with ⟨c,rfl,hc⟩|⟨c,q0,rfl,h1,_,_,h2⟩
    ·refine right_asc fun x hx => ?_
     simp only [normF] at hx
     split at hx
     ·cases hx
     ·split at hx
      ·rw [List.mem_singleton.1 hx];decide
      ·rw [List.mem_singleton.1 hx];exact hc
    ·have h13:(13:UInt8)∉c::q0:=by
      intro hm
      rcases List.mem_cons.1 hm with e|hm
      ·rw [← e] at h1;exact absurd h1 zu15
      ·have:=(h2 _ hm).1;exact absurd this zu15
     have h10:∀ r,c::q0≠10::r:=fun r e=>by
      obtain ⟨e,_⟩:=List.cons.inj e
      rw [e] at h1;exact absurd h1 zu15
     have e:normF b (c::q0)=c::q0:=by
      have e1:normF b (c::q0)=normF false (c::q0):=by
       cases b
       ·rfl
       ·exact normF_true_eq h10
      rw [e1]
      exact normL_of_no13 h13
     rw [e]
     exact hra
theorem sig_take {c:UInt8} {r:List UInt8} (h1:(firstU (c::r)).2=true):Sig ((c::r).take (firstU (c::r)).1):=by
 obtain ⟨p1,p2,p3⟩:=firstU_pos c r
 obtain ⟨n,hn⟩:∃ n,(firstU (c::r)).1=n+1:=⟨(firstU (c::r)).1 - 1,zu4⟩
 rw [hn] at p2 p3 ⊢
 simp only [List.length_cons] at p2
 refine ⟨zu19,fun Y => ?_⟩
 rw [List.take_succ_cons,List.cons_append]
 show firstN c.toNat (byteO (r.take n++Y) 0) (byteO (r.take n++Y) 1) (byteO (r.take n++Y) 2)=_
 have hf:(firstN c.toNat (byteO r 0) (byteO r 1) (byteO r 2)).1=n+1:=hn
 rw [firstN_cut (d:=byteO r 0) (e:=byteO r 1) (f:=byteO r 2) h1 (fun h=>byteO_take _ _ _ _ zu4 zu4) (fun h=>byteO_take _ _ _ _ zu4 zu4) (fun h=>byteO_take _ _ _ _ zu4 zu4)]
 rw [List.length_cons,List.length_take,Nat.min_eq_left zu4,← hf]
 exact Prod.ext rfl h1
theorem dec_right:∀ n (s:List UInt8),s.length≤n→rightL (decL s)=true:=by
 intro n
 induction n with
 | zero=>intro s h;obtain rfl:=List.eq_nil_of_length_eq_zero (Nat.le_zero.1 h);rfl
 | succ n ih =>
   intro s h
   cases s with
   | nil=>rfl
   | cons c r =>
     have hp:=firstU_pos c r
     rw [decL_cons]
     refine right_cat ?_ (ih _ (by rw [List.length_drop];simp only [List.length_cons] at h ⊢;omega))
     split
     ·rename_i hf
      have hs:∃ a q,c::r=a++q∧Sig a∧a.length=(firstU (c::r)).1:=by
       have h1:Sig ((c::r).take (firstU (c::r)).1):=sig_take hf
       exact ⟨_,_,(List.take_append_drop _ _).symm,h1,by rw [List.length_take];omega⟩
      obtain ⟨a,q,e,ha,hl⟩:=hs
      rw [← hl,e,List.take_left]
      have:=right_app ha []
      rw [List.append_nil] at this
      exact this
     ·decide
theorem ext_ok (b:List UInt8):FlOk (renderP pg0 (driveL (normL (decL (trimL b))))).fl:=FlOk.render _ _ FlOk.nil (drive_right (norm_right _ _ (Nat.le_refl _) (dec_right _ _ (Nat.le_refl _)) false))
theorem ext_right (b:List UInt8):rightL (extL b)=true:=(ext_ok b).right
theorem ext_no (b:List UInt8):(0:UInt8)∉extL b∧(13:UInt8)∉extL b:=⟨fun h=>((ext_ok b).no _ h).1 rfl,fun h=>((ext_ok b).no _ h).2 rfl⟩
theorem ext_hd (b:List UInt8) {c:UInt8} (h:(extL b).head? = some c):isBl c=false:=(ext_ok b).hd c h
end Hand
end

section
namespace Hand
open Go Go.RowKit Pl Pb Go.Proofs.YtclkdmmgibgamaaGreatDoor.Pure
theorem ext_ne10 (b:List UInt8):(extL b).head? ≠ some 10:=fun h=>by have:=ext_hd b h;exact absurd this zu15
theorem enc_same {s:List UInt8} (h:s.head? ≠ some 10) (k:Int) (hk:0≤k∧k≤2):encL k s=escL s:=by
 have hk2:k=0∨k=1∨k=2:=by omega
 rcases hk2 with rfl|rfl|rfl<;>simp [encL,h]
theorem san_same (k:Int) (hk:0≤k∧k≤2) (b:List UInt8):sanL k b=escL (extL b):=enc_same (ext_ne10 b) k hk
theorem esc_no (s:List UInt8):∀ c∈escL s,c≠60∧c≠62∧c≠34∧c≠39∧c≠0∧c≠13:=by
 have gen:∀ (t:List UInt8) (o:Bool),scanE o t=true→∀ c∈t,c≠60∧c≠62∧c≠34∧c≠39∧c≠0∧c≠13:=by
  intro t
  induction t with
  | nil=>intro _ _ _ h;cases h
  | cons d r ih =>
    intro o h c hc
    rw [scanE] at h
    split at h
    ·cases h
    ·rename_i hd
     simp only [not_or] at hd
     rcases List.mem_cons.1 hc with rfl|hc
     ·exact hd
     ·split at h
      ·rw [Bool.and_eq_true] at h;exact ih true h.2 c hc
      ·split at h
       ·exact ih false h c hc
       ·exact ih o h c hc
 exact gen _ false (scan_esc _ s (Nat.le_refl _))
theorem clean_of {s:List UInt8} (h:(0:UInt8)∉s):cleanL s=s:=cleanL_of_no0 h
theorem norm_esc (s:List UInt8):normL (escL s)=escL s:=normL_of_no13 fun h=>(esc_no s _ h).2.2.2.2.2 rfl
theorem drive_esc {s:List UInt8} (h0:(0:UInt8)∉s):driveL (escL s)=txtT s:=by
 rw [drive_txt (fun h=>(esc_no s _ h).1 rfl),read_esc false _ s (Nat.le_refl _),clean_of h0]
theorem ext_esc {s:List UInt8} (h0:(0:UInt8)∉s) (hr:rightL s=true) (h10:s.head? ≠ some 10):extL (escL s)=(flPut false ⟨[],0,[]⟩ s).told:=by
 have h:=dec_enc 0 hr
 rw [enc_same h10 0 zu4] at h
 unfold extL
 rw [h,norm_esc,drive_esc h0]
 unfold txtT
 split
 ·rename_i e;subst e;rfl
 ·rfl
def wordsL (s:List UInt8):List UInt8:=s.filter fun c => !(c == 9 || c == 10 || c == 12 || c == 32)
theorem words_app (a b:List UInt8):wordsL (a++b)=wordsL a++wordsL b:=List.filter_append ..
structure ColI (f:Fl):Prop where
 again:flPut false ⟨[],0,[]⟩ f.told=⟨f.told,0,[]⟩
 ends:f.ends=0
 bl:f.bl=[]∨f.bl=[32]
 right:rightL f.told=true
theorem ColI.nil:ColI ⟨[],0,[]⟩:=⟨rfl,rfl,.inl rfl,rfl⟩
theorem put_app (k:Bool) (f:Fl) (a b:List UInt8):flPut k f (a++b)=flPut k (flPut k f a) b:=List.foldl_append ..
theorem col_sign {a:List UInt8} (ha:Sig a) {f:Fl} (h:ColI f) (h0:(0:UInt8)∉a) (h13:(13:UInt8)∉a) :
  ColI (flPut false f a)∧wordsL (escL (flPut false f a).told)=wordsL (escL f.told)++wordsL (escL a):=by
 have hra:rightL a=true:=by have:=right_app ha [];rw [List.append_nil] at this;exact this
 have hes:∀ {x:List UInt8} (y:List UInt8),rightL x=true→escL (x++y)=escL x++escL y:=fun y hx=>esc_append _ _ y (Nat.le_refl _) (right_noTail hx)
 have hadd:flAdd f=[]∨(flAdd f=[32]∧f.told≠[]):=by
  unfold flAdd
  by_cases ht:f.told=[]
  ·exact .inl (if_pos ht)
  ·rw [if_neg ht,h.ends]
   rcases h.bl with hb|hb
   ·exact .inl (by rw [hb];rfl)
   ·exact .inr ⟨by rw [hb];rfl,ht⟩
 have word:∀ (q:List UInt8) (c:UInt8),a=c::q→isBl c=false→(∀ x∈q,128≤x.toNat) →
   ColI (flPut false f a)∧wordsL (escL (flPut false f a).told)=wordsL (escL f.told)++wordsL (escL a):=by
  intro q c he hb hq
  have hz:c≠0:=fun e=>h0 (by rw [he,e];simp)
  have put1:∀ g:Fl,flPut false g a=⟨g.told++flAdd g++a,0,[]⟩:=by
   intro g
   rw [he,show flPut false g (c::q)=flPut false (flByte false g c) q from rfl]
   unfold flByte
   rw [if_neg hz,if_neg (by rw [hb];decide),put_high false q _ hq (by unfold flWord;simp) rfl rfl]
   unfold flWord
   simp
  rw [put1 f]
  refine ⟨⟨?_,rfl,.inl rfl,?_⟩,?_⟩
  ·rw [put_app,put_app,h.again]
   rcases hadd with ha'|⟨ha',ht⟩
   ·rw [ha',show flPut false ⟨f.told,0,[]⟩ []=⟨f.told,0,[]⟩ from rfl,put1]
    have:flAdd ⟨f.told,0,[]⟩=[]:=by unfold flAdd;split<;>rfl
    rw [this]
   ·rw [ha',show flPut false ⟨f.told,0,[]⟩ [32]=⟨f.told,0,[32]⟩ from rfl,put1]
    have:flAdd ⟨f.told,0,[32]⟩=[32]:=by unfold flAdd;rw [if_neg ht];rfl
    rw [this]
  ·refine right_cat (right_cat h.right ?_) hra
   rcases hadd with ha'|⟨ha',_⟩<;>(rw [ha'];decide)
  ·show wordsL (escL (f.told++flAdd f++a))=_
   rcases hadd with ha'|⟨ha',_⟩
   ·rw [ha',List.append_nil,hes a h.right,words_app]
   ·rw [ha',hes a (right_cat h.right zu15),hes [32] h.right,words_app,words_app]
    rw [show wordsL (escL [32])=[] by decide,List.append_nil]
 rcases sig_bytes ha with ⟨c,rfl,hc⟩|⟨c,q0,rfl,h1,_,_,h2⟩
 ·cases hb:isBl c with
  | false=>exact word [] c rfl hb (fun x hx=>by cases hx)
  | true =>
    have hz:c≠0:=fun e=>h0 (by rw [e];simp)
    have e:flPut false f [c]=flLose f:=by
     show flByte false f c=_
     unfold flByte
     rw [if_neg hz,if_pos hb,if_neg zu15]
    rw [e]
    have hw:wordsL (escL [c])=[]:=by
     rcases (isBl_iff c).1 hb with rfl|rfl|rfl|rfl|rfl
     ·decide
     ·decide
     ·decide
     ·exact absurd zu19 h13
     ·decide
    rw [hw,List.append_nil]
    unfold flLose
    split
    ·exact ⟨⟨h.again,h.ends,.inr rfl,h.right⟩,rfl⟩
    ·exact ⟨h,rfl⟩
 ·refine word q0 c rfl ?_ (fun x hx=>(h2 x hx).1)
  cases hx2:isBl c with
  | false=>rfl
  | true=>rcases (isBl_iff c).1 hx2 with e|e|e|e|e<;>(rw [e] at h1;exact absurd h1 zu15)
theorem col_put:∀ n (s:List UInt8) (f:Fl),s.length≤n→rightL s=true→(0:UInt8)∉s→(13:UInt8)∉s→ColI f →
  ColI (flPut false f s)∧wordsL (escL (flPut false f s).told)=wordsL (escL f.told)++wordsL (escL s):=by
 intro n
 induction n with
 | zero=>intro s f h _ _ _ hf;obtain rfl:=List.eq_nil_of_length_eq_zero (Nat.le_zero.1 h);exact ⟨hf,by rw [escL_nil];simp [wordsL,flPut]⟩
 | succ n ih =>
   intro s f h hr h0 h13 hf
   by_cases hs:s=[]
   ·subst hs;exact ⟨hf,by rw [escL_nil];simp [wordsL,flPut]⟩
   ·obtain ⟨a,q,rfl,ha,hq⟩:=sig_split hr hs
    have h3:=List.length_pos_iff.2 ha.1
    rw [List.length_append] at h
    rw [List.mem_append,not_or] at h0 h13
    obtain ⟨c1,c2⟩:=col_sign ha hf h0.1 h13.1
    obtain ⟨d1,d2⟩:=ih q _ zu4 hq h0.2 h13.2 c1
    have hra:rightL a=true:=by have:=right_app ha [];rw [List.append_nil] at this;exact this
    rw [put_app]
    refine ⟨d1,?_⟩
    rw [d2,c2,esc_append _ a q (Nat.le_refl _) (right_noTail hra),words_app,List.append_assoc]
theorem twice_words (b:List UInt8):wordsL (escL (extL b))=wordsL (escL (extL (escL (extL b))))∧extL (escL (extL (escL (extL b))))=extL (escL (extL b)):=by
 have hno:=ext_no b
 have hr:=ext_right b
 obtain ⟨h1,h2⟩:=col_put _ (extL b) ⟨[],0,[]⟩ (Nat.le_refl _) hr hno.1 hno.2 ColI.nil
 have e1:=ext_esc hno.1 hr (ext_ne10 b)
 have hno2:=ext_no (escL (extL b))
 have hr2:=ext_right (escL (extL b))
 have e2:=ext_esc hno2.1 hr2 (ext_ne10 _)
 refine ⟨?_,?_⟩
 ·rw [e1,h2,escL_nil];rfl
 ·rw [e2]
  rw [e1]
  rw [h1.again]
end Hand
end

section
namespace Hand
open Go Go.RowKit K0 Pl Pb Sa St Go.Proofs.YtclkdmmgibgamaaGreatDoor.Pure YtclkdmmgibgamaaGreatDoorW.PrintWords YtclkdmmgibgamaaGreatDoorW.PrintLast YtclkdmmgibgamaaGreatDoorW.PrintMore
theorem byt_conv (t:List UInt8) (W:World):∃ v W',(convert 9 22 (.string (B t))).run Tryz.prog W = .ok v W'∧Below W.heap.size W W'∧Byt t v W':=by
 have hconv:=Lib.run_convert_string_bytes (P:=Tryz.prog) W 9 22 5 (B t) Tryz.underlying9 Tryz.underlying22 Tryz.underlying5
 refine ⟨_,_,hconv,below_bytesWorld W 5 (B t),fun W' hb => ?_⟩
 rw [size_B]
 refine run_convert_bytes_back (P:=Tryz.prog) W' 22 9 5 ⟨W.heap.size,0,none⟩ _ t Tryz.underlying22 Tryz.underlying5 Tryz.underlying9 (fun j hj => ?_)
 have ha:(⟨W.heap.size,0,none⟩:Addr).add j=⟨W.heap.size,j,none⟩:=by unfold Addr.add;split<;>simp_all
 have hc:(Lib.bytesWorld W 5 (B t)).cell? ⟨W.heap.size,j,none⟩=some (.int .u8 (t[j].toNat:Int)):=by
  rw [Lib.bytesWorld_cell W 5 (B t) j (by rw [size_B];exact hj),B_data,List.getD_eq_getElem?_getD,List.getElem?_eq_getElem hj];rfl
 rw [ha]
 exact (hb.cell (World.block_lt_of_cell? _ _ hc)).trans hc
theorem san_len (k:Int) (s:List UInt8) (hk:0≤k∧k≤2):(sanL k s).length≤18*s.length:=by
 rw [san_same k hk]
 have h1:=(esc_length _ (extL s) (Nat.le_refl _)).1
 have h2:=ext_length s
 omega
end Hand
end

section
namespace Hand
open Go Go.RowKit K0 Pl Pb Sa St Go.Proofs.YtclkdmmgibgamaaGreatDoor.Pure YtclkdmmgibgamaaGreatDoorW.PrintWords YtclkdmmgibgamaaGreatDoorW.PrintLast YtclkdmmgibgamaaGreatDoorW.PrintMore
abbrev RowU8 (w:World) (a:Option Addr) (len cap:Nat) (z:List Int):Prop :=
 (a=none∧len=0∧cap=0∧z=[])∨∃ x,a=some x∧len≤cap∧cap≤maxLen∧z.length=cap∧(∀ i,i<z.length→w.cell? (x.add i)=some (.int .u8 (z.getD i 0)))∧∀ n∈z,(Lit.int .u8 n).wf=true
def numsB (l:List Int):List UInt8:=l.map fun n=>UInt8.ofNat n.toNat
theorem numsB_len (l:List Int):(numsB l).length=l.length:=List.length_map ..
theorem byt_of {l:List Int} {A:Option Addr} {w:World} (h:Kd.C (Kd.int .u8) w A l.length l) (c:Nat):Byt (numsB l) (.slice A l.length c) w:=fun _ hb =>
 Kd.C_string (P:=Tryz.prog) (c:=c) (src:=22) (dst:=9) Tryz.underlying22 Tryz.underlying5 Tryz.underlying9 (Kd.C_below h hb)
theorem times2_c (k:Int) (s:List UInt8) (v:Value) (hs:s.length≤6000) (hs2:(sanL k s).length≤6000) (p:Nat) (w:World) (hG:Glob w) (hp:w.cell? ⟨p,0,none⟩=some (.int .i64 k)) (hv:Byt s v w) :
  Calls Tryz.prog 45 #[.int .i64 2,v,sfV p] w fun e w'=>e = .returned (.string (B (sanL k (sanL k s))))∧Below w.heap.size w w':=by
 have C1:=Lib.hid (safe1_c k s v hs p w hG hp hv)
 have C2:Hid (∀ W v,Below w.heap.size w W→Byt (sanL k s) v W→Calls Tryz.prog 83 #[v,.pointer (some ⟨p,0,none⟩)] W fun e w'=>e = .returned (.string (B (sanL k (sanL k s))))∧Below W.heap.size W w'):=Lib.hid (fun W v hb hv =>
  safe1_c k (sanL k s) v hs2 p W (hG.step hb) ((hb.cell (World.block_lt_of_cell? w _ hp)).trans hp) hv)
 have V:=Lib.hid (byt_conv (sanL k s))
 obtain ⟨t,ht⟩:∃ t,sanL k s=t:=⟨_,rfl⟩
 rw [ht] at C1 C2 V ⊢
 obtain ⟨a,ha⟩:∃ a,B t=a:=⟨_,rfl⟩
 obtain ⟨a2,ha2⟩:∃ a,B (sanL k t)=a:=⟨_,rfl⟩
 rw [ha] at C1 V
 rw [ha2] at C2 ⊢
 clear ha ha2 ht hs hs2 hG hp hv
 unfold sfV
 go_enter Tryz.func45,Tryz.ntmps45
 go_wp2_with fail
 go_loopw [0,1] (fun x y wr=>(x = .int .i64 2∧y=v∧wr=w)∨(x = .int .i64 1∧Hid (Below w.heap.size w wr∧Byt t y wr))) (fun x _ _=>(intOf x).toNat)
 case atStart=>exact .inl ⟨rfl,rfl,rfl⟩
 case round =>
  obtain ⟨rfl,rfl,rfl⟩|⟨rfl,HI⟩:=hrel
  ·go_wp2_with fail
   refine C1.out.mono ?_
   rintro e w1 ⟨rfl,hb⟩
   obtain ⟨v2,w2,hv2,hb2,D⟩:=V.out w1
   have HI:Hid (Below wr.heap.size wr w2∧Byt t v2 w2):=Lib.hid ⟨hb.trans (hb2.mono hb.size),D⟩
   clear hb hb2 D C1 C2 V
   go_wp2_with fail
   go_roundw
   case rel=>exact .inr ⟨by go_num,HI⟩
   case measure=>simp [intOf]
  ·have HC:=Lib.hid (C2.out wr _ HI.out.1 HI.out.2)
   go_wp2_with fail
   refine HC.out.mono ?_
   rintro e w1 ⟨rfl,hb⟩
   have HB:=Lib.hid (HI.out.1.trans (hb.mono HI.out.1.size))
   go_wp2_with fail
   go_ret
   exact ⟨rfl,HB.out⟩
theorem twice_c (k:Int) (s:List UInt8) (v:Value) (hs:s.length≤6000) (hs2:(sanL k s).length≤6000) (w:World) (hG:Glob w) (hv:Byt s v w) :
  Calls Tryz.prog 20 #[.int .i64 k,v] w fun e w'=>e = .returned (.string (B (sanL k (sanL k s))))∧Below w.heap.size w w':=by
 have hb0:Below w.heap.size w (w.alloc (.cells #[.int .i64 k] 3)):=below_alloc (Below.refl _ _) _
 have C1:=Lib.hid (safe_c' k w)
 have C2:=times2_c k s v hs hs2 w.heap.size (w.alloc (.cells #[.int .i64 k] 3)) (hG.step hb0) (World.cell?_alloc_at _ _ _ 0 rfl) (hv.step hb0)
 obtain ⟨a,ha⟩:∃ a,B (sanL k (sanL k s))=a:=⟨_,rfl⟩
 rw [ha] at C2 ⊢
 replace C2:=Lib.hid C2
 clear ha hs hs2 hG hv
 go_enter Tryz.func20,Tryz.ntmps20
 go_wp2_with fail
 refine C1.out.mono ?_
 rintro e w1 ⟨rfl,rfl⟩
 go_wp2_with fail
 refine C2.out.mono ?_
 rintro e w2 ⟨rfl,hb⟩
 go_wp2_with fail
 go_ret
 exact ⟨rfl,hb0.trans (hb.mono hb0.size)⟩
end Hand
end

section
namespace Hand
open Go Go.RowKit Pl Pb Go.Proofs.YtclkdmmgibgamaaGreatDoor.Pure
def awB:List UInt8:=[60,98,62,97,60,47,98,62,32,38,108,116,59,105,62]
theorem awB_norm:normL (decL (trimL awB))=awB:=by decide +kernel
theorem awB_drv:drvL awB=[.start [98] [] false,.text (rdL false [97]),.fin [98],.text (rdL false [32,38,108,116,59,105,62])]:=by kernel_rfl
theorem awB_rd:rdL false [32,38,108,116,59,105,62]=[32,60,105,62]:=by
 rw [rdL_ne _ _ zu15]
 have:=dec_lt false [105,62]
 rw [rdL_no false (p:=[105,62]) zu15] at this
 exact congrArg (fun x=>32::x) this
theorem awB_ext:extL awB=[97,32,60,105,62]:=by
 unfold extL driveL
 rw [awB_norm,awB_drv,awB_rd,rdL_no false (p:=[97]) zu15]
 decide +kernel
theorem aw0_ext:extL []=[]:=by
 unfold extL
 rw [show normL (decL (trimL []))=[] by decide +kernel]
 unfold driveL
 rw [drvL_nil]
 decide +kernel
theorem awB_san:sanL 0 awB=[97,32,38,108,116,59,105,38,103,116,59]:=by
 unfold sanL
 rw [awB_ext]
 decide +kernel
theorem aw0_san:sanL 1 []=[]:=by
 unfold sanL
 rw [aw0_ext]
 decide +kernel
end Hand
end

section
namespace Hand
open Go Go.RowKit K0 Pl Pb Sa St Go.Proofs.YtclkdmmgibgamaaGreatDoor.Pure YtclkdmmgibgamaaGreatDoorW.PrintWords YtclkdmmgibgamaaGreatDoorW.PrintLast YtclkdmmgibgamaaGreatDoorW.PrintMore
theorem byt_lit (s:List UInt8) (w:World) (C:Array Value) (hC:C=(s.map fun b=>Value.int .u8 (b.toNat:Int)).toArray) (f:Nat×Nat) (c:Nat) :
  Byt s (.slice (some ⟨w.heap.size,0,none⟩) s.length c) (w.alloc (.cells C 5 f)):=fun W hb=>by
 refine run_convert_bytes_back (P:=Tryz.prog) W 22 9 5 ⟨w.heap.size,0,none⟩ _ s Tryz.underlying22 Tryz.underlying5 Tryz.underlying9 (fun j hj => ?_)
 have ha:(⟨w.heap.size,0,none⟩:Addr).add j=⟨w.heap.size,j,none⟩:=by unfold Addr.add;split<;>simp_all
 have hc:(w.alloc (.cells C 5 f)).cell? ⟨w.heap.size,j,none⟩=some (.int .u8 (s[j].toNat:Int)):=by
  subst hC
  have h1:(w.heap.push (.cells (s.map fun b=>Value.int .u8 (b.toNat:Int)).toArray 5 f))[w.heap.size]? = some (.cells (s.map fun b=>Value.int .u8 (b.toNat:Int)).toArray 5 f):=by simp
  have h2:(w.alloc (.cells (s.map fun b=>Value.int .u8 (b.toNat:Int)).toArray 5 f)).heap[w.heap.size]? = some (.cells (s.map fun b=>Value.int .u8 (b.toNat:Int)).toArray 5 f):=h1
  unfold World.cell?
  simp only [h2,Option.bind_some]
  simp [hj]
 rw [ha]
 exact (hb.cell (World.block_lt_of_cell? _ _ hc)).trans hc
theorem byt_nil (w:World):Byt [] (.slice none 0 0) w:=fun W _=>run_convert_bytes_nil (P:=Tryz.prog) W 22 5 Tryz.underlying22 Tryz.underlying5 0 0 9 Tryz.underlying9
theorem awake22_c (w:World) (hG:Glob w):Calls Tryz.prog 14 #[] w fun e w'=>e = .returned (.bool true)∧Below w.heap.size w w':=by
 have kc:=fun (w:World) (C:Array Value) (n c:Nat)=>Lib.run_convert_bytes_const (P:=Tryz.prog) w 22 5 C n c Tryz.underlying22 Tryz.underlying5
 have C1:Hid (∀ W v,Glob W→Byt awB v W→Calls Tryz.prog 18 #[.int .i64 0,v] W fun e w'=>e = .returned (.string ⟨#[97,32,38,108,116,59,105,38,103,116,59]⟩)∧Below W.heap.size W w'):=Lib.hid (fun W v hG hv=>by
  have:=sanitize_c 0 awB v zu15 W hG hv
  rwa [awB_san] at this)
 have C2:Hid (∀ W,Glob W→Calls Tryz.prog 18 #[.int .i64 1,.slice none 0 0] W fun e w'=>e = .returned (.string ⟨#[]⟩)∧Below W.heap.size W w'):=Lib.hid (fun W hG=>by
  have:=sanitize_c 1 [] _ zu15 W hG (byt_nil W)
  rwa [aw0_san] at this)
 have HG:=Lib.hid hG
 clear hG
 go_enter Tryz.func14,Tryz.ntmps14
 go_wp2_with fail
 have hb0:=below_alloc (Below.refl w.heap.size w) (.cells (awB.map fun b=>Value.int .u8 (b.toNat:Int)).toArray 5 (15,16))
 refine (C1.out _ _ (HG.out.step hb0) (byt_lit awB w _ rfl _ _)).mono ?_
 rintro e w1 ⟨rfl,hb⟩
 have HB:=Lib.hid (hb0.trans (hb.mono hb0.size))
 clear hb hb0
 go_wp2_with fail
 refine (C2.out _ (HG.out.step HB.out)).mono ?_
 rintro e w2 ⟨rfl,hb⟩
 replace HB:=Lib.hid (HB.out.trans (hb.mono HB.out.size))
 clear hb
 go_wp2_with fail
 go_ret
 exact ⟨rfl,HB.out⟩
end Hand
end

section
namespace Hand
open Go Go.RowKit K0 Pl Pb Sa St Go.Proofs.YtclkdmmgibgamaaGreatDoor.Pure YtclkdmmgibgamaaGreatDoorW.PrintWords YtclkdmmgibgamaaGreatDoorW.PrintLast YtclkdmmgibgamaaGreatDoorW.PrintMore
theorem mod_three {d:Int} (h:(Lit.int .u8 d).wf=true):∃ k,d.tmod 3=k∧(k=0∨k=1∨k=2):=by
 have hw:IntKind.u8.min≤d∧d≤IntKind.u8.max:=by simpa [Lit.wf] using h
 have hd0:0≤d:=Int.le_trans zu15 hw.1
 exact ⟨_,rfl,by rw [Int.tmod_eq_emod_of_nonneg hd0];omega⟩
theorem sann_len {k:Int} (hk:k=0∨k=1∨k=2) (s:List UInt8) (hs:s.length≤300):(sanL k s).length≤5400:=by
 have:=san_len k s zu4
 omega
end Hand
end

section
namespace Sy
open Go.RowKit K0 Hand Sa YtclkdmmgibgamaaGreatDoorW.PrintWords YtclkdmmgibgamaaGreatDoorW.PrintLast YtclkdmmgibgamaaGreatDoorW.PrintMore
attribute [local go_sem] max2_int min2_int max_two min_two max_three min_three max_four min_four  
set_option linter.unusedVariables false
set_option linter.unusedSimpArgs false
def flaillaw22_words.l0:Nat→ByteArray→ByteArray→Int→Option (ByteArray)
 | 0,_,_,_=>none
 | k+1,x0,x3,x4=>if x4<(x0.size:Int) then (if 0≤x4 then (if (bt x0 x4)=9 then (flaillaw22_words.l0 k x0 x3 (wrap64 (x4+1))) else (if (bt x0 x4)=10 then (flaillaw22_words.l0 k x0 x3 (wrap64 (x4+1))) else (if (bt x0 x4)=12 then (flaillaw22_words.l0 k x0 x3 (wrap64 (x4+1))) else (if (bt x0 x4)=32 then (flaillaw22_words.l0 k x0 x3 (wrap64 (x4+1))) else ((some (([bt x0 x4]:List Int):List Int)).bind fun y101=>(if x3.size+(strOfNums y101).size≤9223372036854775807 then (flaillaw22_words.l0 k x0 (x3++(strOfNums y101)) (wrap64 (x4+1))) else (none))))))) else (none)) else (some x3)
def flaillaw22_words.f (k:Nat) (a0:ByteArray):Option (ByteArray):=flaillaw22_words.l0 k a0 (⟨#[]⟩:ByteArray) 0
theorem flaillaw22_words.calls (k:Nat) (a0:ByteArray) (r:ByteArray) (w:World) (h:flaillaw22_words.f k a0=some r) :
  Calls Tryz.prog 21 #[.string a0] w fun e w'=>e = .returned (.string r)∧Below w.heap.size w w':=by
 have HB:=Aside0.mk (Below.refl w.heap.size w)
 have H:(flaillaw22_words.l0 k a0 (⟨#[]⟩:ByteArray) 0)=some r:=h
 clear h
 have H':=Aside0.mk H
 clear H
 go_enter Tryz.func21,Tryz.ntmps21
 go_wp2
 go_loopg [3,4] k (fun kq v3 v4 w' => ∃ (x3_1:ByteArray) (x4_1:Int),v3 = .string x3_1∧v4 = .int .i64 x4_1∧Aside0 (flaillaw22_words.l0 kq a0 x3_1 x4_1=some r)∧Aside0 (kq≤k)∧Aside0 (Below w.heap.size w w'))
 case atStart=>exact ⟨((⟨#[]⟩:ByteArray)),(0),zu18,zu18,H',⟨Nat.le_refl _⟩,⟨zu1⟩⟩
 case round =>
  clear H'
  obtain ⟨x3_1,x4_1,rfl,rfl,HA,HK1,HB⟩:=hrel
  cases gk with
  | zero=>exact absurd HA.out (by simp [flaillaw22_words.l0])
  | succ k1 =>
    have H:=HA.out
    clear HA
    simp only [flaillaw22_words.l0] at H
    by_cases c2:x4_1<(a0.size:Int)
    ·rw [if_pos c2] at H
     have c2b0:decide (x4_1<(a0.size:Int))=true:=decide_eq_true c2
     clear c2
     by_cases c3:0≤x4_1
     ·rw [if_pos c3] at H
      have c3b0:decide (0≤x4_1)=true:=decide_eq_true c3
      clear c3
      by_cases c5:(bt a0 x4_1)=9
      ·rw [if_pos c5] at H
       have c5b0:((bt a0 x4_1) == 9)=true:=beq_iff_eq.mpr c5
       have c5b1:((bt a0 x4_1) != 9)=false:=bne_eq_false_iff_eq.mpr c5
       clear c5
       have H':=Aside0.mk H
       clear H
       have p4:0≤(x4_1:Int):=of_decide_eq_true zu17
       have q4:x4_1<(a0.size:Int):=of_decide_eq_true zu17
       have hx4:=bt_at a0 x4_1
       replace p4:=eq_true p4
       replace q4:=eq_true q4
       go_wp2
       go_roundg k1
       case measure=>have:=HK1.out;omega
       case rel=>exact ⟨(x3_1),(wrap64 (x4_1+1)),zu18,zu18,H',⟨zv2⟩,⟨zu1⟩⟩
      ·rw [if_neg c5] at H
       have c5b0:((bt a0 x4_1) == 9)=false:=beq_eq_false_iff_ne.mpr c5
       have c5b1:((bt a0 x4_1) != 9)=true:=bne_iff_ne.mpr c5
       by_cases c6:(bt a0 x4_1)=10
       ·rw [if_pos c6] at H
        have c6b0:((bt a0 x4_1) == 10)=true:=beq_iff_eq.mpr c6
        have c6b1:((bt a0 x4_1) != 10)=false:=bne_eq_false_iff_eq.mpr c6
        clear c6
        have H':=Aside0.mk H
        clear H
        have p4:0≤(x4_1:Int):=of_decide_eq_true zu17
        have q4:x4_1<(a0.size:Int):=of_decide_eq_true zu17
        have hx4:=bt_at a0 x4_1
        replace p4:=eq_true p4
        replace q4:=eq_true q4
        go_wp2
        go_roundg k1
        case measure=>have:=HK1.out;omega
        case rel=>exact ⟨(x3_1),(wrap64 (x4_1+1)),zu18,zu18,H',⟨zv2⟩,⟨zu1⟩⟩
       ·rw [if_neg c6] at H
        have c6b0:((bt a0 x4_1) == 10)=false:=beq_eq_false_iff_ne.mpr c6
        have c6b1:((bt a0 x4_1) != 10)=true:=bne_iff_ne.mpr c6
        by_cases c7:(bt a0 x4_1)=12
        ·rw [if_pos c7] at H
         have c7b0:((bt a0 x4_1) == 12)=true:=beq_iff_eq.mpr c7
         have c7b1:((bt a0 x4_1) != 12)=false:=bne_eq_false_iff_eq.mpr c7
         clear c7
         have H':=Aside0.mk H
         clear H
         have p4:0≤(x4_1:Int):=of_decide_eq_true zu17
         have q4:x4_1<(a0.size:Int):=of_decide_eq_true zu17
         have hx4:=bt_at a0 x4_1
         replace p4:=eq_true p4
         replace q4:=eq_true q4
         go_wp2
         go_roundg k1
         case measure=>have:=HK1.out;omega
         case rel=>exact ⟨(x3_1),(wrap64 (x4_1+1)),zu18,zu18,H',⟨zv2⟩,⟨zu1⟩⟩
        ·rw [if_neg c7] at H
         have c7b0:((bt a0 x4_1) == 12)=false:=beq_eq_false_iff_ne.mpr c7
         have c7b1:((bt a0 x4_1) != 12)=true:=bne_iff_ne.mpr c7
         by_cases c8:(bt a0 x4_1)=32
         ·rw [if_pos c8] at H
          have c8b0:((bt a0 x4_1) == 32)=true:=beq_iff_eq.mpr c8
          have c8b1:((bt a0 x4_1) != 32)=false:=bne_eq_false_iff_eq.mpr c8
          clear c8
          have H':=Aside0.mk H
          clear H
          have p4:0≤(x4_1:Int):=of_decide_eq_true zu17
          have q4:x4_1<(a0.size:Int):=of_decide_eq_true zu17
          have hx4:=bt_at a0 x4_1
          replace p4:=eq_true p4
          replace q4:=eq_true q4
          go_wp2
          go_roundg k1
          case measure=>have:=HK1.out;omega
          case rel=>exact ⟨(x3_1),(wrap64 (x4_1+1)),zu18,zu18,H',⟨zv2⟩,⟨zu1⟩⟩
         ·rw [if_neg c8] at H
          have c8b0:((bt a0 x4_1) == 32)=false:=beq_eq_false_iff_ne.mpr c8
          have c8b1:((bt a0 x4_1) != 32)=true:=bne_iff_ne.mpr c8
          obtain ⟨y101,hy101⟩:∃ y_:List Int,y_=(([bt a0 x4_1]:List Int)):=⟨_,rfl⟩
          replace H:(if x3_1.size+(strOfNums y101).size≤9223372036854775807 then (flaillaw22_words.l0 k1 a0 (x3_1++(strOfNums y101)) (wrap64 (x4_1+1))) else (none))=some r:=by first | (rw [hy101];with_reducible exact H) | (have H2_:=(Option.bind_some _ _).symm.trans H;rw [hy101];with_reducible exact H2_) | (have H2_:=(Option.bind_some _ _).symm.trans H;with_reducible exact H2_)|with_reducible exact H | (rw [hy101];exact H)|exact H
          have Ny101:=Aside0.mk hy101
          clear hy101
          by_cases c9:x3_1.size+(strOfNums y101).size≤9223372036854775807
          ·rw [if_pos c9] at H
           have c9b0:=eq_true c9
           have c9b1:decide (x3_1.size+(strOfNums y101).size≤9223372036854775807)=true:=decide_eq_true c9
           try have c9b2:(9223372036854775807<x3_1.size+(strOfNums y101).size)=False:=eq_false (Nat.not_lt.2 c9)
           have H':=Aside0.mk H
           clear H
           have p4:0≤(x4_1:Int):=of_decide_eq_true zu17
           have q4:x4_1<(a0.size:Int):=of_decide_eq_true zu17
           have hx4:=bt_at a0 x4_1
           replace p4:=eq_true p4
           replace q4:=eq_true q4
           go_wp2_with (first | ((with_reducible refine gate_dst (N:=31) rfl ?_);refine Kd.R_lit (Kd.int .u8) _ 5 ?hg (N:=31) ?hd (xs:=([bt a0 x4_1]:List Int)) (inner:=[.int .u8 (bt a0 x4_1)]) (ok:=fun _=>True) (okp:=fun _=>True) ?hr ?hp (fun _ hk=>hk) trivial (Below.refl _ _) (Nat.le_refl _) zu19 ?_;(case hd=>rfl);(case hg=>rfl);(case hr=>first | (go_simp;done) | (go_simp;rfl));(case hp=>exact (Reps.one (show Kd.M (Kd.int .u8) _ _ _ (bt a0 x4_1) [.int .u8 (bt a0 x4_1)] from rfl) (Reps.none _ _)));intro v102 w10 ho11 hb hg_ hnew_;clear hg_ hnew_;(first|rw [← Ny101.out] at ho11 | (simp only [Int.reduceToNat] at ho11;rw [← Ny101.out] at ho11));have n0_:=Aside0.mk (Kd.R_lower ho11 (below_size zu1));have n1_:=Aside0.mk (below_step zu1 hb);clear HB;have HO103:=n0_;have HB:=n1_;clear n0_ n1_;clear hb ho11;have hcv12:=own_string (P:=Tryz.prog) Tryz.underlying22 Tryz.underlying5 Tryz.underlying9 (Kd.own_of_R HO103.out)))
           go_roundg k1
           case measure=>have:=HK1.out;omega
           case rel=>exact ⟨(x3_1++(strOfNums y101)),(wrap64 (x4_1+1)),zu18,zu18,H',⟨zv2⟩,⟨zu1⟩⟩
          ·rw [if_neg c9] at H
           exact absurd H zu19
     ·rw [if_neg c3] at H
      exact absurd H zu19
    ·rw [if_neg c2] at H
     have c2b0:decide (x4_1<(a0.size:Int))=false:=decide_eq_false c2
     clear c2
     obtain rfl:=Option.some.inj H
     go_wp2
     go_ret
     exact zu5
end Sy
end

section
namespace Psw
open Go Go.RowKit K0 Hand Sa Sy YtclkdmmgibgamaaGreatDoorW.PrintWords YtclkdmmgibgamaaGreatDoorW.PrintMore Pl Pb Go.Proofs.YtclkdmmgibgamaaGreatDoor.Pure
theorem tnw {c:UInt8} (d:UInt8) (n:Int) (h:c≠d) (hd:((d.toNat:Nat):Int)=n:=by rfl):((c.toNat:Nat):Int)≠n:=fun e=>h (UInt8.toNat_inj.1 (Int.ofNat_inj.1 (e.trans hd.symm)))
theorem one_B (c:UInt8):strOfNums [((c.toNat:Nat):Int)]=B [c]:=by
 show (⟨([((c.toNat:Nat):Int)].map fun n=>UInt8.ofNat n.toNat).toArray⟩:ByteArray)=⟨[c].toArray⟩
 simp
theorem words_l0 (s:List UInt8) (hs:s.length≤100000):∀ d i:Nat,s.length - i=d→i≤s.length →
  Ev (fun k=>flaillaw22_words.l0 k (B s) (B (wordsL (s.take i))) (i:Int)) (B (wordsL s)):=by
 intro d
 induction d with
 | zero =>
   intro i hd hi
   obtain rfl:i=s.length:=by omega
   refine Ev.step (f:=fun _=>some (B (wordsL s))) (fun k => ?_) (Ev.now _)
   rw [flaillaw22_words.l0,size_B,if_neg zu4,List.take_length]
 | succ d ih =>
   intro i hd hi
   have hlt:i<s.length:=by omega
   have w:wrap64 ((i:Int)+1)=((i+1:Nat):Int):=by unfold wrap64;omega
   have ht:wordsL (s.take (i+1))=wordsL (s.take i)++wordsL [s[i]]:=by
    rw [← words_app,List.take_append_getElem hlt]
   have hl:(wordsL (s.take i)).length≤i:=Nat.le_trans (List.length_filter_le _ _) (by rw [List.length_take];omega)
   have go:=ih (i+1) zu4 zu4
   refine Ev.step (fun k => ?_) go
   rw [flaillaw22_words.l0,size_B,if_pos zu4,if_pos zu4,bt_B s i hlt,w,ht]
   by_cases h9:s[i]=9
   ·rw [h9,if_pos (show (((9:UInt8).toNat:Nat):Int)=9 from rfl)];simp [wordsL]
   by_cases h10:s[i]=10
   ·rw [if_neg (tnw 9 9 h9),h10,if_pos (show (((10:UInt8).toNat:Nat):Int)=10 from rfl)];simp [wordsL]
   by_cases h12:s[i]=12
   ·rw [if_neg (tnw 9 9 h9),if_neg (tnw 10 10 h10),h12,if_pos (show (((12:UInt8).toNat:Nat):Int)=12 from rfl)];simp [wordsL]
   by_cases h32:s[i]=32
   ·rw [if_neg (tnw 9 9 h9),if_neg (tnw 10 10 h10),if_neg (tnw 12 12 h12),h32,if_pos (show (((32:UInt8).toNat:Nat):Int)=32 from rfl)];simp [wordsL]
   have hf:wordsL [s[i]]=[s[i]]:=by
    unfold wordsL
    rw [List.filter_cons,if_pos (by simp [h9,h10,h12,h32])]
    rfl
   rw [if_neg (tnw 9 9 h9),if_neg (tnw 10 10 h10),if_neg (tnw 12 12 h12),if_neg (tnw 32 32 h32),Option.bind_some,one_B,size_B,size_B,if_pos (by rw [List.length_singleton];omega),B_append,hf]
theorem words_f (s:List UInt8) (hs:s.length≤100000):∃ k,flaillaw22_words.f k (B s)=some (B (wordsL s)):=by
 obtain ⟨k,h⟩:=(words_l0 s hs _ 0 rfl (Nat.zero_le _)).rounds
 exact ⟨k,h⟩
end Psw
namespace Hand
open Go Go.RowKit Pl Pb YtclkdmmgibgamaaGreatDoorW.PrintWords
theorem words_c (s:List UInt8) (hs:s.length≤100000) (w:World):Calls Tryz.prog 21 #[.string (B s)] w fun e w'=>e = .returned (.string (B (wordsL s)))∧Below w.heap.size w w':=by
 obtain ⟨k,h⟩:=Psw.words_f s hs
 exact Sy.flaillaw22_words.calls k _ _ w h
end Hand
end

section
namespace Hand
open Go Go.RowKit K0 Pl Pb Sa St Go.Proofs.YtclkdmmgibgamaaGreatDoor.Pure YtclkdmmgibgamaaGreatDoorW.PrintWords YtclkdmmgibgamaaGreatDoorW.PrintLast YtclkdmmgibgamaaGreatDoorW.PrintMore
theorem san_twice {k:Int} (hk:k=0∨k=1∨k=2) (s:List UInt8) (hs:s.length≤300) :
  (sanL k (sanL k s)).length≤5400∧wordsL (sanL k s)=wordsL (sanL k (sanL k s))∧sanL k (sanL k (sanL k s))=sanL k (sanL k s):=by
 have e:=fun b=>san_same k zu4 b
 have hno:=ext_no s
 have h1:=ext_esc hno.1 (ext_right s) (ext_ne10 s)
 have h2:=flPut_z false (extL s) ⟨[],0,[]⟩
 have h3:=ext_length s
 have h4:=(esc_length _ (extL (escL (extL s))) (Nat.le_refl _)).1
 have h5:(extL (escL (extL s))).length≤flZ (flPut false ⟨[],0,[]⟩ (extL s)):=by rw [h1];unfold flZ;omega
 have h6:flZ ⟨[],0,[]⟩=0:=rfl
 obtain ⟨t1,t2⟩:=twice_words s
 rw [e s,e (escL (extL s)),e (escL (extL (escL (extL s))))]
 exact ⟨zu4,t1,by rw [t2]⟩
theorem SanitizeWords_law (a0:Int) (a1:Option Addr) (len1 cap1:Nat) (z1:List Int) (w:World) (w0:(Lit.int .u8 a0).wf=true) (w1:RowU8 w a1 len1 cap1 z1) (_:len1*1≤140737488351232) (hGl:Glob w) :
  Calls Tryz.prog 6 #[.int .u8 a0,.slice a1 len1 cap1] w fun e w'=>e = .returned (.bool true)∧Below w.heap.size w w':=by
 obtain ⟨l,rfl,hr,hm,hw,hc⟩:=ReadsInt.ofRowC w1
 have hv:=byt_of (Kd.C_of_reads (d:=(0:Int)) (h1:=fun _=>rfl) hr) cap1
 have hn:=numsB_len l
 obtain ⟨s,hs⟩:∃ s,numsB l=s:=⟨_,rfl⟩
 rw [hs] at hv hn
 have AW:=Lib.hid (fun W hG=>awake22_c W hG)
 have HG:=Lib.hid hGl
 clear hr hm hw hc w1 hs
 obtain ⟨n,hnn⟩:∃ n,l.length=n:=⟨_,rfl⟩
 rw [hnn] at hv hn ⊢
 clear hnn
 by_cases c1:300<n
 ·have q1:decide (300<n)=true:=decide_eq_true c1
  have q1':decide ((300:Int)<(n:Int))=true:=decide_eq_true zu4
  clear c1 hv hn
  go_enter Tryz.func6,Tryz.ntmps6
  go_wp2_with fail
  refine (AW.out _ HG.out).mono ?_
  rintro e w1 ⟨rfl,hb⟩
  go_wp2_with fail
  go_ret
  exact ⟨rfl,hb⟩
 have q1:decide (300<n)=false:=decide_eq_false c1
 have q1':decide ((300:Int)<(n:Int))=false:=decide_eq_false zu4
 obtain ⟨k,m1,hk3⟩:=mod_three w0
 have m3:wrap64 k=k:=by unfold wrap64;omega
 have zl:=sann_len hk3 s zu4
 obtain ⟨zl2,tw,ts⟩:=san_twice hk3 s zu4
 have SA:Hid (∀ W,Glob W→Below w.heap.size w W→Calls Tryz.prog 18 #[.int .i64 k,.slice a1 n cap1] W fun e w'=>e = .returned (.string (B (sanL k s)))∧Below W.heap.size W w'):=Lib.hid (fun W hG hb=>sanitize_c k s _ zu4 W hG (hv.step hb))
 have TW:Hid (∀ W,Glob W→Below w.heap.size w W→Calls Tryz.prog 20 #[.int .i64 k,.slice a1 n cap1] W fun e w'=>e = .returned (.string (B (sanL k (sanL k s))))∧Below W.heap.size W w'):=Lib.hid (fun W hG hb=>twice_c k s _ zu4 zu4 W hG (hv.step hb))
 have V:=Lib.hid (byt_conv (sanL k (sanL k s)))
 have SB:Hid (∀ W v,Glob W→Byt (sanL k (sanL k s)) v W→Calls Tryz.prog 18 #[.int .i64 k,v] W fun e w'=>e = .returned (.string (B (sanL k (sanL k s))))∧Below W.heap.size W w'):=Lib.hid (fun W v hG hv=>by
  have:=sanitize_c k (sanL k (sanL k s)) v zu4 W hG hv
  rwa [ts] at this)
 have W1:Hid (∀ W,Calls Tryz.prog 21 #[.string (B (sanL k s))] W fun e w'=>e = .returned (.string (B (wordsL (sanL k s))))∧Below W.heap.size W w'):=Lib.hid (fun W=>words_c _ zu4 W)
 have W2:Hid (∀ W,Calls Tryz.prog 21 #[.string (B (sanL k (sanL k s)))] W fun e w'=>e = .returned (.string (B (wordsL (sanL k s))))∧Below W.heap.size W w'):=Lib.hid (fun W=>by rw [tw];exact words_c _ zu4 W)
 obtain ⟨t,ht⟩:∃ t,sanL k (sanL k s)=t:=⟨_,rfl⟩
 obtain ⟨a,ha⟩:∃ a,B (sanL k s)=a:=⟨_,rfl⟩
 obtain ⟨x,hx⟩:∃ a,B (wordsL (sanL k s))=a:=⟨_,rfl⟩
 rw [ht] at TW V SB W2
 obtain ⟨b,hb'⟩:∃ a,B t=a:=⟨_,rfl⟩
 rw [ha] at SA W1
 rw [hb'] at TW V SB W2
 rw [hx] at W1 W2
 clear ha ht hx hb' zl zl2 tw ts hv hk3 hn c1 w0 hGl
 go_enter Tryz.func6,Tryz.ntmps6
 go_wp2_with fail
 refine (AW.out _ HG.out).mono ?_
 rintro e w1 ⟨rfl,hb⟩
 have HB:=Lib.hid hb
 clear hb
 go_wp2_with fail
 refine (SA.out _ (HG.out.step HB.out) HB.out).mono ?_
 rintro e w2 ⟨rfl,hb⟩
 replace HB:=Lib.hid (HB.out.trans (hb.mono HB.out.size))
 clear hb
 go_wp2_with fail
 refine (TW.out _ (HG.out.step HB.out) HB.out).mono ?_
 rintro e w3 ⟨rfl,hb⟩
 replace HB:=Lib.hid (HB.out.trans (hb.mono HB.out.size))
 clear hb
 go_wp2_with fail
 refine (W1.out _).mono ?_
 rintro e w4 ⟨rfl,hb⟩
 replace HB:=Lib.hid (HB.out.trans (hb.mono HB.out.size))
 clear hb
 go_wp2_with fail
 refine (W2.out _).mono ?_
 rintro e w5 ⟨rfl,hb⟩
 replace HB:=Lib.hid (HB.out.trans (hb.mono HB.out.size))
 clear hb
 obtain ⟨v,w6,hv6,hb,D⟩:=V.out w5
 have HB6:=Lib.hid (HB.out.trans (hb.mono HB.out.size))
 have HD:=Lib.hid (SB.out _ _ (HG.out.step HB6.out) D)
 clear hb D V SB
 go_wp2_with fail
 refine HD.out.mono ?_
 rintro e w7 ⟨rfl,hb⟩
 replace HB:=Lib.hid (HB6.out.trans (hb.mono HB6.out.size))
 clear hb
 go_wp2_with fail
 go_ret
 exact ⟨zu19,HB.out⟩
end Hand
end

end Go.Proofs.YtclkdmmgibgamaaGreatDoor
section
namespace Go.Proofs.YtclkdmmgibgamaaGreatDoorW.PrintWords
open Go.ChangeShapes Go.WideShapes
theorem sized_ints {H:Type} {enc:TypeId×Value→H} {P:Program} {W:World} {base:Nat} {spare:Nat→Bool} {held:Bool} {t e:TypeId} {k:IntKind} {a:Option Addr} {len cap:Nat} {d:DataW H} {ps:List MemPlace} {ts:List TypeId} {ds:List (DataW H)} {j:Nat}
  (hsz:(DataW.weightsEach P ts ds).all (· ≤ reachBytes)=true) (ht:ts[j]? = some t) (hd:ds[j]? = some d) (hu:P.underlying t=some (.slice e)) (he:P.underlying e=some (.int k)) (hc:P.cellsOf e=1) {B:Nat} (hB:P.bytesOf e=B)
  (h:DataW.Trod enc P W base spare held t (.slice a len cap) d ps):len*B≤140737488351232:=by
 obtain ⟨fuel,hf⟩:=h
 rcases open_ints hu he hc hf with ⟨hcs,_⟩|⟨x,l,c,zs,hcs,_,hl,_,hz,hx,_,_⟩
 ·simp [Value.cells] at hcs
  obtain ⟨rfl,rfl,rfl⟩:=hcs
  simp
 ·simp [Value.cells] at hcs
  obtain ⟨rfl,rfl,rfl⟩:=hcs
  obtain ⟨hx,_⟩:=Prod.mk.inj hx
  subst hx
  have z:=sized_slice hsz ht hd hu
  rw [hB] at z
  have hl2:len≤zs.length:=by
   rw [hz]
   split
   ·exact hl
   ·exact Nat.le_refl _
  have h1:(lits (H:=H) k (zs.take len)).length+(lits (H:=H) k (zs.drop len)).length=zs.length:=by
   simp [lits]
   omega
  rw [h1] at z
  exact Nat.le_trans (Nat.mul_le_mul_right _ hl2) z
end Go.Proofs.YtclkdmmgibgamaaGreatDoorW.PrintWords
end
