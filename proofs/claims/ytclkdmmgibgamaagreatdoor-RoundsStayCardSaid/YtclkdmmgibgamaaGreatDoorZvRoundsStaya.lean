/-
  Texts of the claim RoundsStay, merged by a program of this session (1).
-/
import Derived.Test.YtclkdmmgibgamaaGreatDoorZug
import Derived.Lib.Replace
import Derived.Lib.CountLaws
import Derived.Lib.IndexLaws
import Derived.Below
import Derived.Deep.Draws
import Derived.Deep.AppendLies
import Derived.Maps.AppendAt
import Derived.OwnWalk
import Derived.Laws.BytesArg
import Derived.Laws.MakeOwn
import Derived.Laws.OwnMore
import Derived.Deep.OwnRows
import Derived.Tactics
import Derived.Lib.ConvBytes
import Derived.Laws.Slices
import Derived.WalkKit
import Derived.KernelRfl
import Derived.RowKit3
import Derived.Deep.LoopGhost
import Derived.Deep.QuietTactic
import Derived.BigQuiet
import Derived.WideLaws
import Derived.Deep.DeepCutAuto
import Derived.Deep.CutBlock
import Derived.Deep.RegionHeld3
import Derived.Laws.Rows
import Derived.Lib.AppendStr
import Derived.ArgAppend
import Derived.Laws.IdiomCopy
import Derived.RowKit
import Derived.Test.YtclkdmmgibgamaaGreatDoorProg
import Derived.OrdersHeld
import Derived.Laws.BitsLemmas
import Derived.Laws.Runes
set_option linter.unusedVariables false
set_option linter.unusedSimpArgs false
namespace Go.Proofs.YtclkdmmgibgamaaGreatDoor
theorem zv1{p:Prop}(h:p:=by exact ⟨by first|rfl | (simp [errW_none,errW_some]<;>rfl) | (simp [*,errW_none,errW_some]<;>rfl),by repeat (first | (with_reducible first|exact HB.out|apply below_alloc|apply pw_below_drewN|apply below_drew1|refine below_set ?_ GE167.out)|exact HB.out)⟩):p:=h
theorem zv2{p:Prop}(h:p:=by repeat (first | (with_reducible first|exact HB.out|apply below_alloc|apply pw_below_drewN|apply below_drew1|refine below_set ?_ GE167.out)|exact HB.out)):p:=h
theorem zv3{p:Prop}(h:p:=by rw [Decidable.not_not,contO_iff];exact ⟨_,rfl,by omega,by omega⟩):p:=h
theorem zv4{p:Prop}(h:p:=by simp only [List.length_cons];omega):p:=h
end Go.Proofs.YtclkdmmgibgamaaGreatDoor
set_option maxRecDepth 100000
set_option maxHeartbeats 16000000
namespace Foot
end Foot
namespace Go.Proofs
end Go.Proofs
namespace Go.Proofs.YtclkdmmgibgamaaGreatDoor.Hand
end Go.Proofs.YtclkdmmgibgamaaGreatDoor.Hand
namespace Go.Proofs.YtclkdmmgibgamaaGreatDoor.K0
end Go.Proofs.YtclkdmmgibgamaaGreatDoor.K0
namespace Go.Proofs.YtclkdmmgibgamaaGreatDoor.Pb
end Go.Proofs.YtclkdmmgibgamaaGreatDoor.Pb
namespace Go.Proofs.YtclkdmmgibgamaaGreatDoor.Pcb
end Go.Proofs.YtclkdmmgibgamaaGreatDoor.Pcb
namespace Go.Proofs.YtclkdmmgibgamaaGreatDoor.Pcm
end Go.Proofs.YtclkdmmgibgamaaGreatDoor.Pcm
namespace Go.Proofs.YtclkdmmgibgamaaGreatDoor.Pcq
end Go.Proofs.YtclkdmmgibgamaaGreatDoor.Pcq
namespace Go.Proofs.YtclkdmmgibgamaaGreatDoor.Pl
end Go.Proofs.YtclkdmmgibgamaaGreatDoor.Pl
namespace Go.Proofs.YtclkdmmgibgamaaGreatDoor.Pro
end Go.Proofs.YtclkdmmgibgamaaGreatDoor.Pro
namespace Go.Proofs.YtclkdmmgibgamaaGreatDoor.Pure
end Go.Proofs.YtclkdmmgibgamaaGreatDoor.Pure
namespace Go.Proofs.YtclkdmmgibgamaaGreatDoor.RowKit
end Go.Proofs.YtclkdmmgibgamaaGreatDoor.RowKit
namespace Go.Proofs.YtclkdmmgibgamaaGreatDoor.Sa
end Go.Proofs.YtclkdmmgibgamaaGreatDoor.Sa
namespace Go.Proofs.YtclkdmmgibgamaaGreatDoor.Sf
end Go.Proofs.YtclkdmmgibgamaaGreatDoor.Sf
namespace Go.Proofs.YtclkdmmgibgamaaGreatDoor.Si
end Go.Proofs.YtclkdmmgibgamaaGreatDoor.Si
namespace Go.Proofs.YtclkdmmgibgamaaGreatDoor.Sk
end Go.Proofs.YtclkdmmgibgamaaGreatDoor.Sk
namespace Go.Proofs.YtclkdmmgibgamaaGreatDoor.So
end Go.Proofs.YtclkdmmgibgamaaGreatDoor.So
namespace Go.Proofs.YtclkdmmgibgamaaGreatDoor.Sp
end Go.Proofs.YtclkdmmgibgamaaGreatDoor.Sp
namespace Go.Proofs.YtclkdmmgibgamaaGreatDoor.St
end Go.Proofs.YtclkdmmgibgamaaGreatDoor.St
namespace Go.Proofs.YtclkdmmgibgamaaGreatDoor.Sx
end Go.Proofs.YtclkdmmgibgamaaGreatDoor.Sx
namespace Go.Proofs.YtclkdmmgibgamaaGreatDoorW.PrintLast
end Go.Proofs.YtclkdmmgibgamaaGreatDoorW.PrintLast
namespace Go.Proofs.YtclkdmmgibgamaaGreatDoorW.PrintMore
end Go.Proofs.YtclkdmmgibgamaaGreatDoorW.PrintMore
namespace Go.Proofs.YtclkdmmgibgamaaGreatDoorW.PrintWords
end Go.Proofs.YtclkdmmgibgamaaGreatDoorW.PrintWords
namespace Kd
end Kd

namespace Go.Proofs.YtclkdmmgibgamaaGreatDoor
section
namespace Pl
open Go
theorem normF_true_ne {d:UInt8} {r:List UInt8} (h:d≠10):normF true (d::r)=normF false (d::r):=by simp [normF,h]
theorem cleanL_length (l:List UInt8):l.length≤(cleanL l).length∧(cleanL l).length≤3*l.length:=by
 induction l with
 | nil=>simp [cleanL]
 | cons c r ih =>
   have e:cleanL (c::r)=cleanB c++cleanL r:=rfl
   rw [e,List.length_append,List.length_cons]
   have h1:1≤(cleanB c).length∧(cleanB c).length≤3:=by unfold cleanB;split<;>simp
   omega
theorem cleanB_no0 (c:UInt8):(0:UInt8)∉cleanB c:=by
 unfold cleanB;split
 ·decide
 ·rename_i h;simp;exact fun e=>h e.symm
theorem cleanL_no0 (l:List UInt8):(0:UInt8)∉cleanL l:=by
 simp only [cleanL,List.mem_flatMap,not_exists,not_and]
 exact fun c _=>cleanB_no0 c
theorem cleanL_of_no0:∀ {l:List UInt8},(0:UInt8)∉l→cleanL l=l
 | [],_=>rfl
 | c::r,h=>by
   have h1:c≠0:=fun e=>h (by simp [e])
   rw [cleanL_cons,cleanL_of_no0 (fun e=>h (by simp [e]))];simp [cleanB,h1]
theorem normF_no13 (l:List UInt8):∀ b,(13:UInt8)∉normF b l:=by
 induction l with
 | nil=>intro b;simp [normF]
 | cons c r ih =>
   intro b
   simp only [normF]
   split
   ·exact ih _
   ·split
    ·simp [ih]
    ·rename_i h;simp only [List.mem_cons,not_or];exact ⟨fun e=>h e.symm,ih _⟩
theorem normL_no13 (l:List UInt8):(13:UInt8)∉normL l:=normF_no13 l false
theorem normL_of_no13:∀ {l:List UInt8},(13:UInt8)∉l→normL l=l
 | [],_=>rfl
 | c::r,h=>by
   have h1:c≠13:=fun e=>h (by simp [e])
   rw [normL_ne h1,normL_of_no13 (fun e=>h (by simp [e]))]
def flag13 (b:Bool) (l:List UInt8):Bool:=match l.getLast? with|some c=>c == 13|none=>b
theorem flag13_cons (b:Bool) (c:UInt8) (r:List UInt8):flag13 b (c::r)=flag13 (c == 13) r:=by
 cases r with
 | nil=>rfl
 | cons d r=>simp [flag13,List.getLast?_eq_some_getLast]
theorem normF_append (l m:List UInt8):∀ b,normF b (l++m)=normF b l++normF (flag13 b l) m:=by
 induction l with
 | nil=>intro b;rfl
 | cons c r ih =>
   intro b
   rw [flag13_cons,List.cons_append]
   simp only [normF]
   split
   ·rename_i h
    rw [ih,h.2];rfl
   ·split
    ·rename_i h;subst h;rw [ih];rfl
    ·rename_i h
     rw [ih,show (c == 13)=false by simpa using h];rfl
theorem normF_true_eq {m:List UInt8} (h:∀ r,m≠10::r):normF true m=normF false m:=by
 cases m with
 | nil=>rfl
 | cons d r=>exact normF_true_ne fun e=>h r (by rw [e])
end Pl
end

section
namespace Hand
open Go.RowKit
structure Live (w W:World) (L:List (Nat×Array Value)):Prop where
 glob:Glob W
 below:Below w.heap.size w W
 blk:∀ x∈L,x.1<W.heap.size∧Blk x.1 x.2 W
theorem Live.call {w W W':World} {L:List (Nat×Array Value)} (h:Live w W L) (hb:Below W.heap.size W W'):Live w W' L :=
 ⟨h.glob.step hb,h.below.trans (hb.mono h.below.size),fun x hx=>⟨Nat.lt_of_lt_of_le (h.blk x hx).1 hb.size,(h.blk x hx).2.below hb (h.blk x hx).1⟩⟩
end Hand
end

end Go.Proofs.YtclkdmmgibgamaaGreatDoor
section
set_option linter.unusedVariables false
set_option linter.unusedSimpArgs false
namespace Go.Proofs.YtclkdmmgibgamaaGreatDoorW.PrintWords
open Go.RowKit
section
variable {P : Program} {ops : Array Oper} {rest : List Oper} {o : Oper} {a : Act} {Q : Exit → Act → World → Prop}
end
section
variable {P : Program}
end
section
variable {P : Program} {ops : Array Oper} {rest : List Oper} {o : Oper} {a : Act} {Q : Exit → Act → World → Prop}
end
def LeO {α:Type} (a b:Option α):Prop := ∀ r,a=some r→b=some r
theorem LeO.refl {α:Type} (a:Option α):LeO a a:=fun _ h=>h
theorem LeO.none {α:Type} (b:Option α):LeO Option.none b:=fun _ h=>by cases h
theorem LeO.trans {α:Type} {a b c:Option α} (h:LeO a b) (k:LeO b c):LeO a c:=fun r hr=>k r (h r hr)
theorem more_rounds {α:Type} {g:Nat→Option α} (h:∀ k,LeO (g k) (g (k+1))) (k:Nat):∀ j,LeO (g k) (g (k+j))
 | 0=>LeO.refl _
 | j+1=>(more_rounds h k j).trans (h (k+j))
theorem at_rounds {α:Type} {g:Nat→Option α} (h:∀ k,LeO (g k) (g (k+1))) {k k':Nat} (hk:k≤k') {r:α} (hr:g k=some r):g k'=some r:=by
 have:=more_rounds h k (k' - k) r hr
 rwa [Nat.add_sub_cancel' hk] at this
section
variable {P : Program} {ops : Array Oper} {rest : List Oper} {o : Oper} {a : Act} {Q : Exit → Act → World → Prop}
end
theorem KeepBut.blk {w w1:World} {g g':Nat} {row:Option Nat} {o:Obj} (h:KeepBut w w1 g row) (hb:w.heap[g']? = some o) (hg:g'≠g) (hr:some g'≠row):w1.heap[g']? = some o:=(h.2 g' (blk_lt hb) hg hr).trans hb
theorem KeepBut.own {w w1:World} {g:Nat} {row:Option Nat} {base:Nat} {e:TypeId} {size n:Nat} {v:Value} {xs:List Value} (h:KeepBut w w1 g row) (ho:w.ownsRow base e size v n xs) (hg:v.ownBlock≠some g) (hr:v.ownBlock=none∨v.ownBlock≠row):w1.ownsRow base e size v n xs:=by
 obtain ⟨h1,h2⟩:=ho
 refine ⟨h1,?_⟩
 rcases h2 with h2|⟨b,cap,cur,rfl,hb,hh,r⟩
 ·exact .inl h2
 ·refine .inr ⟨b,cap,cur,rfl,hb,h.blk hh ?_ ?_,r⟩
  ·intro e
   exact hg (by rw [← e];rfl)
  ·rcases hr with hr|hr
   ·simp [Value.ownBlock] at hr
   ·exact hr
theorem Ev.of {α:Type} {g:Nat→Option α} {r:α} (hg:∀ k,LeO (g k) (g (k+1))) {k:Nat} (h:g k=some r):Ev g r:=⟨k,fun _ hk=>at_rounds hg hk h⟩
section
variable {P : Program} {ops : Array Oper} {o : Oper} {a : Act} {Q : Exit → Act → World → Prop} {K : Act → World → Prop}
end
section
variable {α : Type} {enc : α → Value} {d : α}
end
section
variable {α : Type} {P : Program} {ops : Array Oper} {rest : List Oper} {o : Oper} {a : Act} {Q : Exit → Act → World → Prop}
end
section
variable {P : Program}
end
section
variable {α : Type} {R R' : α → List Value → Prop} {e : TypeId} {size : Nat} {w w1 : World} {base : Nat} {v : Value} {ps : List α}
end
section
variable {P : Program} {ops : Array Oper} {rest : List Oper} {o : Oper} {a : Act} {Q : Exit → Act → World → Prop} {α : Type} {R : α → List Value → Prop}
end
section
variable {P : Program} {ops : Array Oper} {o : Oper} {a : Act} {Q : Exit → Act → World → Prop} {K : Act → World → Prop} {α : Type} {R : α → List Value → Prop}
end
section
variable {α : Type} {P : Program}
end
section
variable {P : Program} {ops : Array Oper} {rest : List Oper} {o : Oper} {a : Act} {Q : Exit → Act → World → Prop}
end
namespace Kd
section
variable {α : Type} {d : Kd α} {e : Nat} {w w1 : World} {base : Nat} {ok ok' : Nat → Prop} {v : Value} {xs : List α}
end
section
variable {P : Program} {ops : Array Oper} {rest : List Oper} {o : Oper} {a : Act} {Q : Exit → Act → World → Prop} {α : Type}
end
section
variable {P : Program} {ops : Array Oper} {o : Oper} {a : Act} {Q : Exit → Act → World → Prop} {Kc : Act → World → Prop} {α : Type}
end
theorem C_of_reads {α:Type} {enc:α→Value} {d:α} {h1:∀ x,(enc x).oneCell'=true} {w:World} {A:Option Addr} {n:Nat} {xs:List α} (h:ReadsOf enc d w A n xs):(scalar enc h1).C w A n xs:=by
 refine ⟨h.1,h.2.1,fun hn => ?_⟩
 obtain ⟨ad,e,hc⟩:=h.2.2 hn
 refine ⟨ad,e,fun j p hj=>⟨[enc p],rfl,rfl,fun i u hu => ?_⟩⟩
 obtain ⟨hl,hp⟩:=List.getElem?_eq_some_iff.1 hj
 have h2:=hc j (by have:=h.1;omega)
 rw [List.getD_eq_getElem?_getD,hj] at h2
 cases i with
 | zero =>
   have:enc p=u:=by simpa using hu
   subst this
   simpa [scalar] using h2
 | succ i=>simp at hu
end Kd
namespace Kd
section
variable {α : Type} {F : Kd α → Kd α} {sz : Nat} {E : List Nat} {hs : ∀ n, (upto F sz E n).sz = sz} {hE : ∀ n q, q ∈ (upto F sz E n).E → q ∈ E}
end
end Kd
namespace Kd
end Kd
namespace Kd
section
variable {α β : Type} {d : Kd α} {d' : Kd β} {e e' : Nat} {w w1 W : World} {base b b' : Nat} {ok ok' okv oku : Nat → Prop} {v u : Value} {xs : List α} {ys : List β}
end
section
variable {w W : World} {A : Option Addr} {n : Nat}
variable {α : Type} {enc : α → Value} {h1 : ∀ x, (enc x).oneCell' = true} {e base g cap : Nat} {ok : Nat → Prop} {xs : List α}
end
section
variable {P : Program} {ops : Array Oper} {rest : List Oper} {o : Oper} {a : Act} {Q : Exit → Act → World → Prop}
variable {α : Type}
end
end Kd
section
variable {P : Program}
end
section
variable {w w1 : World} {base n size : Nat} {e : TypeId} {v : Value} {xs : List Value}
end
section
variable {P : Program}
end
namespace Kd
section
variable {α : Type} {d : Kd α} {e : Nat} {w w1 W : World} {base : Nat} {ok ok' : Nat → Prop} {v : Value} {xs : List α}
end
section
variable {P : Program} {ops : Array Oper} {rest : List Oper} {o : Oper} {a : Act} {Q' : Exit → Act → World → Prop} {Kc : Act → World → Prop} {α : Type}
end
end Kd
namespace Kd
section
variable {α : Type} {d : Kd α} {e e' : Nat} {w w1 W : World} {base : Nat} {ok : Nat → Prop} {u v : Value} {xs : List α}
end
end Kd
namespace Kd
section
variable {α : Type} {d : Kd α} {e base g n cap : Nat} {ok okp : Nat → Prop} {W : World} {xs : List α}
end
end Kd
namespace Kd
section
variable {α : Type} {F : Kd α → Kd α} {sz : Nat} {E : List Nat} {hs : ∀ n, (upto F sz E n).sz = sz} {hE : ∀ n q, q ∈ (upto F sz E n).E → q ∈ E}
end
end Kd
namespace Kd
section
variable {P : Program} {ops : Array Oper} {rest : List Oper} {o : Oper} {a : Act} {Q : Exit → Act → World → Prop} {α : Type}
end
end Kd
namespace Kd
section
variable {P : Program} {ops : Array Oper} {rest : List Oper} {o : Oper} {a : Act} {Q : Exit → Act → World → Prop} {α : Type}
end
end Kd
theorem add_add (a:Addr) (i j:Nat):(a.add i).add j=a.add (i+j):=by
 unfold Addr.add
 by_cases h1:i=0<;>by_cases h2:j=0<;>simp [h1,h2,Nat.add_assoc]
namespace Kd
section
variable {α : Type} {k : Kd α} {w : World} {A : Option Addr} {xs : List α} {m c : Nat}
theorem C_take (h:k.C w A xs.length xs) (hm:m≤xs.length):k.C w A (xs.take m).length (xs.take m):=by
 have hl:(xs.take m).length=m:=by rw [List.length_take];omega
 refine ⟨rfl,by rw [hl];have:=h.2.1;omega,fun hp => ?_⟩
 obtain ⟨ad,e,hc⟩:=h.2.2 (by omega)
 refine ⟨ad,e,fun j p hj=>hc j p ?_⟩
 rw [List.getElem?_take] at hj
 split at hj
 ·exact hj
 ·cases hj
theorem C_drop (h:k.C w A xs.length xs) (hm:m≤xs.length) (hc:xs.length≤c):k.C w (if c=m then A else A.map (·.add (m*k.sz))) (xs.drop m).length (xs.drop m):=by
 have hl:(xs.drop m).length=xs.length - m:=List.length_drop
 refine ⟨rfl,by rw [hl];have:=h.2.1;omega,fun hp => ?_⟩
 rw [hl] at hp
 obtain ⟨ad,rfl,hcell⟩:=h.2.2 (by omega)
 rw [if_neg (by omega)]
 refine ⟨ad.add (m*k.sz),rfl,fun j p hj => ?_⟩
 rw [List.getElem?_drop] at hj
 obtain ⟨cs,h1,h2,h3⟩:=hcell (m+j) p hj
 refine ⟨cs,h1,h2,fun i u hu => ?_⟩
 rw [add_add,show m*k.sz+(j*k.sz+i)=(m+j)*k.sz+i by rw [Nat.add_mul];omega]
 exact h3 i u hu
theorem C_mid {lo hi:Nat} (h:k.C w A xs.length xs) (h1:lo≤hi) (h2:hi≤xs.length) (hc:xs.length≤c):k.C w (if c=lo then A else A.map (·.add (lo*k.sz))) ((xs.take hi).drop lo).length ((xs.take hi).drop lo):=by
 have hl:(xs.take hi).length=hi:=by rw [List.length_take];omega
 exact C_drop (C_take h h2) (by omega) (by omega)
end
end Kd
section
variable {P : Program}
theorem cut_mid (t e:TypeId) (kl kh:IntKind) {i:TypeInfo} (ht:P.underlying t=some (.slice e)) (hi:P.info? e=some i) (size:Nat) (hsz:i.size=size) (A:Option Addr) (n c:Nat) (lo hi':Int) (h0:0≤lo) (h1:lo≤hi') (h2:hi'≤n) (hc:n≤c) :
  ∀ W:World,(Instr.slice t (.slice A n c) (some (.int kl lo)) (some (.int kh hi')) none).run P W = .ok (.slice (if c=lo.toNat then A else A.map (·.add (lo.toNat*size))) (hi'.toNat - lo.toNat) (c - lo.toNat)) W:=by
 intro W
 have hel:P.elem t=e:=by simp [Program.elem,ht]
 have hu:P.underlying t=some (.slice (P.elem t)):=by rw [hel];exact ht
 rw [run_slice_lh W t A n c hu kl kh lo hi' h0 h1 (by omega),hel]
 simp [sizeOf,typeInfo,hi,hsz,sliced,Result.andThen]
end
theorem string_of_reads {P:Program} {w:World} {src dst e:TypeId} {A:Option Addr} {n c:Nat} {xs:List Int} (hs:P.underlying src=some (.slice e)) (he:P.underlying e=some (.int .u8)) (hd:P.underlying dst=some .string)
  (h:ReadsInt w .u8 A n xs):(convert src dst (.slice A n c)).run P w = .ok (.string (strOfNums xs)) w:=by
 have hn:xs.length=n:=h.1
 rcases A with _|ad
 ·have h0:n=0:=by
   rcases Nat.eq_zero_or_pos n with h0|h0
   ·exact h0
   ·obtain ⟨ad,h',_⟩:=h.2.2 h0
    cases h'
  subst h0
  obtain rfl:xs=[]:=List.eq_nil_of_length_eq_zero hn
  exact run_convert_bytes_nil w src e hs he 0 c dst hd
 ·have hl:(loadCells ad n).run P w = .ok (xs.map (Value.int .u8)).toArray w:=by
   have:=run_loadCells_list (P:=P) w ad (xs.map (Value.int .u8)) (fun j v hj=>by
    have hjl:j<xs.length:=by
     rcases Nat.lt_or_ge j xs.length with h'|h'
     ·exact h'
     ·rw [List.getElem?_eq_none (by rw [List.length_map];exact h')] at hj
      cases hj
    obtain ⟨ad',he',hc⟩:=h.2.2 (by omega)
    injection he' with he'
    subst he'
    rw [hc j (by omega)]
    rw [List.getElem?_map,List.getElem?_eq_getElem hjl] at hj
    simp at hj
    subst hj
    simp [List.getD_eq_getElem?_getD,List.getElem?_eq_getElem hjl])
   simpa [hn] using this
  rw [run_convert_bytes_string w src dst e _ n c hs he hd,run_bytesToString w ad n c xs hl,foldl_push_bytes]
  simp [strOfNums,ByteArray.empty,ByteArray.emptyWithCapacity]
  rfl
theorem Kd.C_string {P:Program} {w:World} {src dst e:TypeId} {A:Option Addr} {n c:Nat} {xs:List Int} (hs:P.underlying src=some (.slice e)) (he:P.underlying e=some (.int .u8)) (hd:P.underlying dst=some .string)
  (h:(Kd.int .u8).C w A n xs):(convert src dst (.slice A n c)).run P w = .ok (.string (strOfNums xs)) w :=
 string_of_reads hs he hd (Kd.reads_of_C (enc:=Value.int .u8) (d:=(0:Int)) (h1:=fun _=>rfl) h)
theorem ReadsInt.nil (W:World) (k:IntKind):ReadsInt W k none ([]:List Int).length []:=⟨rfl,by simp,fun h=>absurd h (Nat.lt_irrefl 0)⟩
theorem ReadsInt.ofRow {k:IntKind} {w:World} {a:Option Addr} {len cap:Nat} {zs:List Int} (h:(a=none∧len=0∧cap=0∧zs=[])∨∃ x,a=some x∧len≤cap∧cap≤maxLen∧zs.length=cap∧(∀ i,i<zs.length→w.cell? (x.add i)=some (.int k (zs.getD i 0)))∧∀ n∈zs,(Lit.int k n).wf=true) :
  ∃ l:List Int,len=l.length∧ReadsInt w k a l.length l∧l.length≤maxLen∧∀ x∈l,(Lit.int k x).wf=true:=by
 rcases h with ⟨rfl,rfl,rfl,rfl⟩|⟨x,rfl,hl,hm,hz,hc,hw⟩
 ·exact ⟨[],rfl,ReadsInt.nil _ _,Nat.zero_le _,fun x hx=>by simp at hx⟩
 ·have e:(zs.take len).length=len:=by simp;omega
  have hm':len≤maxLen:=Nat.le_trans hl hm
  refine ⟨zs.take len,e.symm,⟨rfl,by rw [e];simpa [maxLen] using hm',fun _=>⟨x,rfl,fun j hj => ?_⟩⟩,by rw [e];exact hm',fun y hy=>hw y (List.mem_of_mem_take hy)⟩
  rw [e] at hj
  rw [hc j (by omega)]
  simp [List.getD,List.getElem?_take,hj]
theorem ReadsInt.ofRowC {k:IntKind} {w:World} {a:Option Addr} {len cap:Nat} {zs:List Int} (h:(a=none∧len=0∧cap=0∧zs=[])∨∃ x,a=some x∧len≤cap∧cap≤maxLen∧zs.length=cap∧(∀ i,i<zs.length→w.cell? (x.add i)=some (.int k (zs.getD i 0)))∧∀ n∈zs,(Lit.int k n).wf=true) :
  ∃ l:List Int,len=l.length∧ReadsInt w k a l.length l∧l.length≤maxLen∧(∀ x∈l,(Lit.int k x).wf=true)∧l.length≤cap:=by
 have hl:len≤cap:=by
  rcases h with ⟨_,rfl,rfl,_⟩|⟨_,_,h,_⟩
  ·exact Nat.le_refl _
  ·exact h
 obtain ⟨l,e,h1,h2,h3⟩:=ReadsInt.ofRow h
 exact ⟨l,e,h1,h2,h3,e ▸ hl⟩
namespace Kd
section
variable {α β : Type} {d : Kd α} {d' : Kd β} {e e' base base' n : Nat} {ok ok' : Nat → Prop} {w W w1 W1 : World} {v u : Value} {xs : List α} {ys : List β} {A : Option Addr} {c : Nat}
end
section
variable {α : Type} {enc : α → Value} {h1 : ∀ x, (enc x).oneCell' = true} {w W : World} {A : Option Addr} {n g : Nat} {xs : List α}
end
end Kd
namespace Kd
section
variable {α : Type} {d : Kd α} {e base g : Nat} {ok : Nat → Prop} {w w1 : World} {v : Value} {xs : List α} {o : Obj}
end
end Kd
section
variable {P : Program} {ops : Array Oper} {rest : List Oper} {o : Oper} {a : Act} {Q : Exit → Act → World → Prop}
end
namespace Kd
section
variable {α : Type} {enc : α → Value} {h1 : ∀ x, (enc x).oneCell' = true} {e base g n cap : Nat} {ok : Nat → Prop} {W : World} {xs : List α}
end
end Kd
section
variable {P : Program} {ops : Array Oper} {rest : List Oper} {o : Oper} {a : Act} {Q : Exit → Act → World → Prop}
end
namespace Kd
section
variable {α : Type} {enc : α → Value} {h1 : ∀ x, (enc x).oneCell' = true} {e base g n cap : Nat} {ok : Nat → Prop} {W : World} {xs : List α}
end
end Kd
section
variable {P : Program} {ops : Array Oper} {rest : List Oper} {o : Oper} {a : Act} {Q : Exit → Act → World → Prop} {W : World}
end
section
variable {P : Program} {ops : Array Oper} {o : Oper} {a : Act} {Q : Exit → Act → World → Prop} {Kc : Act → World → Prop}
namespace Kd
variable {α : Type}
end Kd
end
section
variable {P : Program} {tmps : Array Value} {w : World}
end
namespace Kd
section
variable {P : Program} {α : Type}
end
section
variable {P : Program} {ops : Array Oper} {rest : List Oper} {o : Oper} {a : Act} {Q : Exit → Act → World → Prop} {Kc : Act → World → Prop} {α : Type}
end
end Kd
end Go.Proofs.YtclkdmmgibgamaaGreatDoorW.PrintWords
end

section
namespace Go.Proofs.YtclkdmmgibgamaaGreatDoorW.PrintWords
open Go.RowKit
namespace Kd
section
variable {α β : Type} {d : Kd α} {d' : Kd β} {e e' : Nat} {w w1 W : World} {base b : Nat} {ok ok' okv oku : Nat → Prop} {u v : Value} {xs : List α} {ys : List β}
end
section
variable {α β : Type} {d : Kd α} {d' : Kd β} {e e' g : Nat} {w w1 W : World} {base b : Nat} {ok ok' okv oku : Nat → Prop} {u v : Value} {xs : List α} {ys : List β}
end
section
variable {P : Program} {ops : Array Oper} {rest : List Oper} {o : Oper} {a : Act} {Q : Exit → Act → World → Prop} {Kc : Act → World → Prop} {α : Type}
end
def gap {α:Type} (f:Nat→Nat) (d:Kd α) (i:Nat) (c:List Value):Kd (α×Nat) where
 sz:=d.sz
 E:=d.E
 K:=fun w x cs=>(x.2=i→cs=c∧cs.length=d.sz∧∀ u∈cs,u.oneCell'=true)∧(x.2≠i→d.K w x.1 cs)
 M:=fun w base ok x cs=>(x.2=i→cs=c∧cs.length=d.sz∧∀ u∈cs,u.oneCell'=true)∧(x.2≠i→d.M w base (fun k=>ok k∧f k=x.2) x.1 cs)
 K_len:=fun {w x cs} h=>by
  by_cases hx:x.2=i
  ·exact (h.1 hx).2.1
  ·exact d.K_len (h.2 hx)
 K_one:=fun {w x cs} h=>by
  by_cases hx:x.2=i
  ·exact (h.1 hx).2.2
  ·exact d.K_one (h.2 hx)
 K_below:=fun hb h=>⟨h.1,fun hx=>d.K_below hb (h.2 hx)⟩
 K_of_M:=fun h=>⟨h.1,fun hx=>d.K_of_M (h.2 hx)⟩
 M_mono:=fun hok h=>⟨h.1,fun hx=>d.M_mono (fun k hk=>⟨hok k hk.1,hk.2⟩) (h.2 hx)⟩
 M_bound:=fun h=>⟨h.1,fun hx=>d.M_mono (fun _ hk=>⟨⟨hk.1.1,hk.2⟩,hk.1.2⟩) (d.M_bound (h.2 hx))⟩
 M_move:=fun hm h=>⟨h.1,fun hx=>d.M_move (fun k hk=>hm k hk.1) (h.2 hx)⟩
 M_lower:=fun hb h=>⟨h.1,fun hx=>d.M_lower hb (h.2 hx)⟩
def H {α:Type} (d:Kd α) (e:Nat) (w:World) (base:Nat) (ok:Nat→Prop) (v:Value) (xs:List α) (i:Int) (oki:Nat→Prop) (c:List Value):Prop :=
 (∀ k,oki k→ok k)∧∃ f,(gap f d i.toNat c).R e w base (fun k=>ok k∧¬ oki k) v xs.zipIdx
section
variable {α β : Type} {d : Kd α} {e e' g n cap : Nat} {w w1 W : World} {base : Nat} {ok ok' oki okp : Nat → Prop} {u v : Value} {xs : List α} {i : Int} {c : List Value}
end
section
variable {P : Program} {ops : Array Oper} {rest : List Oper} {o : Oper} {a : Act} {Q : Exit → Act → World → Prop} {α : Type}
end
end Kd
end Go.Proofs.YtclkdmmgibgamaaGreatDoorW.PrintWords
end

section
namespace Go.Proofs.YtclkdmmgibgamaaGreatDoorW.PrintWords
open Go.RowKit
namespace Kd
structure Heap {α:Type} (d:Kd α):Prop where
 K:∀ {w w1:World} {x:α} {cs:List Value},(∀ k,k<w.heap.size→w1.heap[k]? = w.heap[k]?)→d.K w x cs→d.K w1 x cs
theorem cell_heap {w w1:World} (hb:∀ k,k<w.heap.size→w1.heap[k]? = w.heap[k]?) {a:Addr} {v:Value} (h:w.cell? a=some v):w1.cell? a=some v:=by
 have:=hb a.block (World.block_lt_of_cell? w a h)
 simpa [World.cell?,this] using h
theorem Heap.C {α:Type} {d:Kd α} (hd:Heap d) {w w1:World} {A:Option Addr} {n:Nat} {xs:List α} (hb:∀ k,k<w.heap.size→w1.heap[k]? = w.heap[k]?) (h:d.C w A n xs):d.C w1 A n xs :=
 ⟨h.1,h.2.1,fun hn=>by
   obtain ⟨ad,e,hc⟩:=h.2.2 hn
   refine ⟨ad,e,fun j p hj => ?_⟩
   obtain ⟨c,hs,hr,hcell⟩:=hc j p hj
   exact ⟨c,hs,hd.K hb hr,fun i u hu=>cell_heap hb (hcell i u hu)⟩⟩
section
variable {α : Type} {d : Kd α} {e base g n c : Nat} {ok : Nat → Prop} {w w0 W : World} {A : Option Addr} {xs : List α}
end
end Kd
end Go.Proofs.YtclkdmmgibgamaaGreatDoorW.PrintWords
end

section
namespace Go.Proofs.YtclkdmmgibgamaaGreatDoorW.PrintWords
open Go.RowKit
def Kept (w W:World) (S:Nat→Prop):Prop:=w.heap.size≤W.heap.size∧∀ i,i<w.heap.size→¬ S i→W.heap[i]? = w.heap[i]?
section
variable {w W W2 : World} {S S2 S' : Nat → Prop}
theorem Kept.mono (h:Kept w W S) (hs:∀ k,S k→S' k):Kept w W S':=⟨h.1,fun i hi hn=>h.2 i hi (fun hk=>hn (hs i hk))⟩
end
namespace Kd
section
variable {α : Type} {d : Kd α} {e base n c : Nat} {ok oki S S2 : Nat → Prop} {w w0 W W1 W2 : World} {v : Value} {A : Option Addr} {xs : List α} {i : Int} {cs : List Value}
end
end Kd
end Go.Proofs.YtclkdmmgibgamaaGreatDoorW.PrintWords
end

section
namespace Go.Proofs.YtclkdmmgibgamaaGreatDoorW.PrintWords
open Go.RowKit
section
variable {P : Program} {ops : Array Oper} {rest : List Oper} {o : Oper} {a : Act} {Q : Exit → Act → World → Prop} {W : World}
theorem gate_guard (hw:Region.wanted o (yielded ops a.tmps)=true) (h:wpList P ops Q ({ o with guard:=none }::rest) a W):wpList P ops Q (o::rest) a W:=by
 have h1:Region.wanted { o with guard:=none } (yielded ops a.tmps)=true:=rfl
 unfold wpList at h ⊢
 rw [if_pos h1] at h
 rw [if_pos hw]
 exact h
end
end Go.Proofs.YtclkdmmgibgamaaGreatDoorW.PrintWords
end

namespace Go.Proofs.YtclkdmmgibgamaaGreatDoor
section
namespace K0
open Go.RowKit YtclkdmmgibgamaaGreatDoorW.PrintWords YtclkdmmgibgamaaGreatDoorW.PrintLast YtclkdmmgibgamaaGreatDoorW.PrintMore
attribute [local go_sem] max2_int min2_int max_two min_two max_three min_three max_four min_four  
set_option linter.unusedVariables false
set_option linter.unusedSimpArgs false
structure S7 where
 f0:Int
 f1:Int
 f2:Bool
 f3:Int
structure S8 where
 f0:Int
 f1:Int
 f2:Bool
 f3:Int
def k8:Kd S8:=Kd.iso (Kd.pair (Kd.int .i64) (Kd.pair (Kd.int .i64) (Kd.pair Kd.bool (Kd.int .u8)))) (fun x:S8=>(x.f0,x.f1,x.f2,x.f3))
structure S13 where
 f0:ByteArray
 f1:Int
def k13:Kd S13:=Kd.iso (Kd.pair Kd.string (Kd.int .u64)) (fun x:S13=>(x.f0,x.f1))
structure S14 where
 f0:ByteArray
 f1:Int
def k14:Kd S14:=Kd.iso (Kd.pair Kd.string (Kd.int .u64)) (fun x:S14=>(x.f0,x.f1))
structure S29 where
 f0:Int
 f1:ByteArray
 f2:ByteArray
 f3:(List S105)
 f4:Bool
structure S97 where
 f0:Int
 f1:Int
structure S98 where
 f0:Int
 f1:Int
structure S104 where
 f0:ByteArray
 f1:ByteArray
structure S122 where
 f0:ByteArray
 f1:Int
structure S123 where
 f0:ByteArray
 f1:Int
structure S148 where
 f0:Int
 f1:Int
structure S149 where
 f0:Int
 f1:Int
structure S169 where
 f0:ByteArray
 f1:Int
structure S170 where
 f0:ByteArray
 f1:Int
structure S224 where
 f0:Int
 f1:Int
structure S225 where
 f0:Int
 f1:Int
structure S264 where
 f0:ByteArray
structure S265 where
 f0:ByteArray
end K0
end

section
namespace Pl
theorem begR_append (a b:List UInt8):∀ r,begR r (a++b)=(begR r a&&begR (r.drop a.length) b):=by
 induction a with
 | nil=>intro r;simp [begR]
 | cons d a ih =>
   intro r
   cases r with
   | nil=>simp [begR]
   | cons c r=>simp [begR,ih,Bool.and_assoc]
end Pl
end

section
namespace Hand
open Go Go.RowKit Pl Pb
def kyC (c:UInt8):Bool:=(decide (65≤c.toNat)&&decide (c.toNat≤90)) || (decide (97≤c.toNat)&&decide (c.toNat≤122)) || (decide (48≤c.toNat)&&decide (c.toNat≤57))
def hdC:List UInt8→Bool
 | []=>false
 | c::_=>(decide (65≤c.toNat)&&decide (c.toNat≤90)) || (decide (97≤c.toNat)&&decide (c.toNat≤122))
def keyOk (l:List UInt8):Bool:=decide ((kyL l).length≤32)&&((kyL l).dropLast.all kyC&&(hdC (kyL l)&&(match (kyL l).getLast? with|some c=>kyC c || c == 59|none=>false)))
def keysOk (T:List UInt8):Bool:=keyOk (linesOf T).1&&(linesOf T).2.all keyOk
theorem names_keys:keysOk namesL=true:=by kernel_rfl
theorem keys_all {T:List UInt8} (h:keysOk T=true) (p:Nat) (hp:St T p):keyOk (lnT T p)=true:=by
 unfold keysOk at h
 rw [Bool.and_eq_true,List.all_eq_true] at h
 rcases hp with rfl|⟨q,rfl,hq⟩
 ·rw [lines_head];exact h.1
 ·exact h.2 _ (lines_mem T q hq)
structure KeyP (k:List UInt8):Prop where
 le:k.length≤32
 pos:k≠[]
 inner:∀ c∈k.dropLast,kyC c=true
 head:hdC k=true
 last:∃ c,k.getLast? = some c∧(kyC c=true∨c=59)
theorem key_facts {k:List UInt8} (h:isKey namesL k):KeyP k:=by
 obtain ⟨p,h1,rfl⟩:=h
 have:=keys_all names_keys p h1
 unfold keyOk at this
 rw [Bool.and_eq_true,Bool.and_eq_true,Bool.and_eq_true,decide_eq_true_eq,List.all_eq_true] at this
 obtain ⟨g1,g2,g3,g4⟩:=this
 change (kyT namesL p).length≤32 at g1
 change hdC (kyT namesL p)=true at g3
 refine ⟨g1,?_,g2,g3,?_⟩
 ·intro e;rw [e] at g3;cases g3
 ·change (match (kyT namesL p).getLast? with|some c=>kyC c || c == 59|none=>false)=true at g4
  split at g4
  ·rename_i c hc
   refine ⟨c,hc,?_⟩
   simpa using g4
  ·cases g4
end Hand
end

section
namespace St
open Go.RowKit K0 Hand Sa Si YtclkdmmgibgamaaGreatDoorW.PrintWords YtclkdmmgibgamaaGreatDoorW.PrintLast YtclkdmmgibgamaaGreatDoorW.PrintMore
attribute [local go_sem] max2_int min2_int max_two min_two max_three min_three max_four min_four  
set_option linter.unusedVariables false
set_option linter.unusedSimpArgs false
noncomputable def context_only.f (l0:List (S30)):Option (ByteArray×Bool):=if (l0.length:Int)=0 then (some ((⟨#[]⟩:ByteArray),true)) else (if (l0.length:Int)=1 then (if 0<(l0.length:Int) then (if ((rd_T30 l0 0).f0)=0 then (some ((rd_T30 l0 0).f2,true)) else (some ((⟨#[]⟩:ByteArray),false))) else (none)) else (some ((⟨#[]⟩:ByteArray),false)))
theorem context_only.calls (A0:Option Addr) (c0:Nat) (l0:List (S30)) (r1:ByteArray) (r2:Bool) (w:World) (hr0:Kd.C k30 w A0 l0.length l0) (hc0:l0.length≤c0) (h:context_only.f l0=some (r1,r2)) :
  Calls Tryz.prog 49 #[.slice A0 l0.length c0] w fun e w'=>e = .returned (.tuple #[.string r1,.bool r2])∧Drawn0 w w':=by
 have HR0:=Aside0.mk hr0
 have HC0:=Aside0.mk hc0
 clear hr0 hc0
 have H:(if (l0.length:Int)=0 then (some ((⟨#[]⟩:ByteArray),true)) else (if (l0.length:Int)=1 then (if 0<(l0.length:Int) then (if ((rd_T30 l0 0).f0)=0 then (some ((rd_T30 l0 0).f2,true)) else (some ((⟨#[]⟩:ByteArray),false))) else (none)) else (some ((⟨#[]⟩:ByteArray),false))))=some (r1,r2):=h
 clear h
 by_cases c2:(l0.length:Int)=0
 ·rw [if_pos c2] at H
  have c2b0:((l0.length:Int) == 0)=true:=beq_iff_eq.mpr c2
  have c2b1:((l0.length:Int) != 0)=false:=bne_eq_false_iff_eq.mpr c2
  clear c2
  simp only [Option.some.injEq,Prod.mk.injEq] at H
  obtain ⟨rfl,rfl⟩:=H
  go_enter Tryz.func49,Tryz.ntmps49
  go_wp2
  go_ret2
  exact zu14
 ·rw [if_neg c2] at H
  have c2b0:((l0.length:Int) == 0)=false:=beq_eq_false_iff_ne.mpr c2
  have c2b1:((l0.length:Int) != 0)=true:=bne_iff_ne.mpr c2
  have c2b2:¬ (l0=[]):=fun h_=>c2 (by rw [h_];rfl)
  by_cases c3:(l0.length:Int)=1
  ·rw [if_pos c3] at H
   have c3b0:((l0.length:Int) == 1)=true:=beq_iff_eq.mpr c3
   have c3b1:((l0.length:Int) != 1)=false:=bne_eq_false_iff_eq.mpr c3
   clear c3
   by_cases c4:0<(l0.length:Int)
   ·rw [if_pos c4] at H
    have c4b0:decide (0<(l0.length:Int))=true:=decide_eq_true c4
    have c4b1:decide (0<l0.length)=true:=decide_eq_true zu4
    clear c4
    by_cases c5:((rd_T30 l0 0).f0)=0
    ·rw [if_pos c5] at H
     have c5b0:(((rd_T30 l0 0).f0) == 0)=true:=beq_iff_eq.mpr c5
     have c5b1:(((rd_T30 l0 0).f0) != 0)=false:=bne_eq_false_iff_eq.mpr c5
     clear c5
     simp only [Option.some.injEq,Prod.mk.injEq] at H
     obtain ⟨rfl,rfl⟩:=H
     have p165:0≤(0:Int):=zu4
     have q165:0<(l0.length:Int):=of_decide_eq_true zu17
     obtain ⟨ad165,A165_3,c165_3,e165,hx165_0,hx165_1,hx165_2,hx165_3,hx165_4,hl165_3,hi165_3⟩:=at_T30 HR0.out 0 p165 q165
     cases e165
     have qi165:(0<l0.length)=True:=eq_true zu4
     (try rw [show ((0:Int)).toNat=0 from rfl] at hx165_0)
     (try rw [show 0*5=0 from rfl] at hx165_0)
     (try rw [Addr.add_zero'] at hx165_0)
     (try rw [show ((0:Int)).toNat=0 from rfl] at hx165_1)
     (try rw [show 0*5=0 from rfl] at hx165_1)
     (try rw [Addr.add_zero'] at hx165_1)
     (try rw [show ((0:Int)).toNat=0 from rfl] at hx165_2)
     (try rw [show 0*5=0 from rfl] at hx165_2)
     (try rw [Addr.add_zero'] at hx165_2)
     (try rw [show ((0:Int)).toNat=0 from rfl] at hx165_3)
     (try rw [show 0*5=0 from rfl] at hx165_3)
     (try rw [Addr.add_zero'] at hx165_3)
     (try rw [show ((0:Int)).toNat=0 from rfl] at hx165_4)
     (try rw [show 0*5=0 from rfl] at hx165_4)
     (try rw [Addr.add_zero'] at hx165_4)
     have HR165_3:=Aside0.mk hi165_3
     have HC165_3:=Aside0.mk hl165_3
     clear hi165_3 hl165_3
     replace p165:=eq_true p165
     replace q165:=eq_true q165
     have p166:0≤(0:Int):=zu4
     have q166:0<(l0.length:Int):=of_decide_eq_true zu17
     obtain ⟨ad166,A166_3,c166_3,e166,hx166_0,hx166_1,hx166_2,hx166_3,hx166_4,hl166_3,hi166_3⟩:=at_T30 HR0.out 0 p166 q166
     obtain rfl:ad165=ad166:=(by injection e166)
     have qi166:(0<l0.length)=True:=eq_true zu4
     (try rw [show ((0:Int)).toNat=0 from rfl] at hx166_0)
     (try rw [show 0*5=0 from rfl] at hx166_0)
     (try rw [Addr.add_zero'] at hx166_0)
     (try rw [show ((0:Int)).toNat=0 from rfl] at hx166_1)
     (try rw [show 0*5=0 from rfl] at hx166_1)
     (try rw [Addr.add_zero'] at hx166_1)
     (try rw [show ((0:Int)).toNat=0 from rfl] at hx166_2)
     (try rw [show 0*5=0 from rfl] at hx166_2)
     (try rw [Addr.add_zero'] at hx166_2)
     (try rw [show ((0:Int)).toNat=0 from rfl] at hx166_3)
     (try rw [show 0*5=0 from rfl] at hx166_3)
     (try rw [Addr.add_zero'] at hx166_3)
     (try rw [show ((0:Int)).toNat=0 from rfl] at hx166_4)
     (try rw [show 0*5=0 from rfl] at hx166_4)
     (try rw [Addr.add_zero'] at hx166_4)
     have HR166_3:=Aside0.mk hi166_3
     have HC166_3:=Aside0.mk hl166_3
     clear hi166_3 hl166_3
     replace p166:=eq_true p166
     replace q166:=eq_true q166
     have ea_:=Option.some.inj (hx165_3.symm.trans hx166_3)
     injection ea_ with ea_ en_ ec_
     subst ea_
     subst ec_
     clear en_
     go_enter Tryz.func49,Tryz.ntmps49
     go_wp2
     go_ret2
     exact zu14
    ·rw [if_neg c5] at H
     have c5b0:(((rd_T30 l0 0).f0) == 0)=false:=beq_eq_false_iff_ne.mpr c5
     have c5b1:(((rd_T30 l0 0).f0) != 0)=true:=bne_iff_ne.mpr c5
     simp only [Option.some.injEq,Prod.mk.injEq] at H
     obtain ⟨rfl,rfl⟩:=H
     have p165:0≤(0:Int):=zu4
     have q165:0<(l0.length:Int):=of_decide_eq_true zu17
     obtain ⟨ad165,A165_3,c165_3,e165,hx165_0,hx165_1,hx165_2,hx165_3,hx165_4,hl165_3,hi165_3⟩:=at_T30 HR0.out 0 p165 q165
     cases e165
     have qi165:(0<l0.length)=True:=eq_true zu4
     (try rw [show ((0:Int)).toNat=0 from rfl] at hx165_0)
     (try rw [show 0*5=0 from rfl] at hx165_0)
     (try rw [Addr.add_zero'] at hx165_0)
     (try rw [show ((0:Int)).toNat=0 from rfl] at hx165_1)
     (try rw [show 0*5=0 from rfl] at hx165_1)
     (try rw [Addr.add_zero'] at hx165_1)
     (try rw [show ((0:Int)).toNat=0 from rfl] at hx165_2)
     (try rw [show 0*5=0 from rfl] at hx165_2)
     (try rw [Addr.add_zero'] at hx165_2)
     (try rw [show ((0:Int)).toNat=0 from rfl] at hx165_3)
     (try rw [show 0*5=0 from rfl] at hx165_3)
     (try rw [Addr.add_zero'] at hx165_3)
     (try rw [show ((0:Int)).toNat=0 from rfl] at hx165_4)
     (try rw [show 0*5=0 from rfl] at hx165_4)
     (try rw [Addr.add_zero'] at hx165_4)
     have HR165_3:=Aside0.mk hi165_3
     have HC165_3:=Aside0.mk hl165_3
     clear hi165_3 hl165_3
     replace p165:=eq_true p165
     replace q165:=eq_true q165
     go_enter Tryz.func49,Tryz.ntmps49
     go_wp2
     go_ret2
     exact zu14
   ·rw [if_neg c4] at H
    exact absurd H zu19
  ·rw [if_neg c3] at H
   have c3b0:((l0.length:Int) == 1)=false:=beq_eq_false_iff_ne.mpr c3
   have c3b1:((l0.length:Int) != 1)=true:=bne_iff_ne.mpr c3
   simp only [Option.some.injEq,Prod.mk.injEq] at H
   obtain ⟨rfl,rfl⟩:=H
   go_enter Tryz.func49,Tryz.ntmps49
   go_wp2
   go_ret2
   exact zu14
noncomputable def context_plain.f (a0_0:Int) (a0_1:ByteArray) (a0_2:ByteArray) (l0_3:List (S105)) (a0_4:Bool) (a1:Int) (a2:ByteArray) (a3:Int):Option (Bool):=if a0_0=a1 then (if a0_1.toList=a2.toList then (if (l0_3.length:Int)=a3 then (some (!a0_4)) else (some false)) else (some false)) else (some false)
theorem context_plain.calls (a0_0:Int) (a0_1:ByteArray) (a0_2:ByteArray) (A0_3:Option Addr) (c0_3:Nat) (l0_3:List (S105)) (a0_4:Bool) (a1:Int) (a2:ByteArray) (a3:Int) (r:Bool) (w:World) (hr0_3:Kd.C k105 w A0_3 l0_3.length l0_3) (hc0_3:l0_3.length≤c0_3) (h:context_plain.f a0_0 a0_1 a0_2 l0_3 a0_4 a1 a2 a3=some r) :
  Calls Tryz.prog 85 #[.agg #[.int .i64 a0_0,.string a0_1,.string a0_2,.slice A0_3 l0_3.length c0_3,.bool a0_4],.int .i64 a1,.string a2,.int .i64 a3] w fun e w'=>e = .returned (.bool r)∧Below w.heap.size w w':=by
 have hu30:=Tryz.underlying30
 have HR0_3:=Aside0.mk hr0_3
 have HC0_3:=Aside0.mk hc0_3
 clear hr0_3 hc0_3
 have HB:=Aside0.mk (Below.refl w.heap.size w)
 have H:(if a0_0=a1 then (if a0_1.toList=a2.toList then (if (l0_3.length:Int)=a3 then (some (!a0_4)) else (some false)) else (some false)) else (some false))=some r:=h
 clear h
 by_cases c5:a0_0=a1
 ·rw [if_pos c5] at H
  have c5b0:(a0_0 == a1)=true:=beq_iff_eq.mpr c5
  have c5b1:(a0_0 != a1)=false:=bne_eq_false_iff_eq.mpr c5
  clear c5
  by_cases c6:a0_1.toList=a2.toList
  ·rw [if_pos c6] at H
   have c6b0:(a0_1.toList == a2.toList)=true:=beq_iff_eq.mpr c6
   have c6b1:(a0_1.toList != a2.toList)=false:=bne_eq_false_iff_eq.mpr c6
   clear c6
   by_cases c7:(l0_3.length:Int)=a3
   ·rw [if_pos c7] at H
    have c7b0:((l0_3.length:Int) == a3)=true:=beq_iff_eq.mpr c7
    have c7b1:((l0_3.length:Int) != a3)=false:=bne_eq_false_iff_eq.mpr c7
    clear c7
    obtain rfl:=Option.some.inj H
    go_enter Tryz.func85,Tryz.ntmps85
    go_wp2_with (first | ((with_reducible refine gate_dst (N:=4) rfl ?_);(try (refine gate_guard (by rfl) ?_;dsimp only));refine box_event ?hg (N:=4) ?hd (cs := #[.int .i64 a0_0,.string a0_1,.string a0_2,.slice A0_3 l0_3.length c0_3,.bool a0_4]) (t:=30) ?hr ?_;(case hd=>rfl);(case hg=>rfl);(case hr=>first | (go_simp;done) | (go_simp;rfl));intro gb167 hg w8 hbox hb;have n0_:=Aside0.mk (below_step zu1 hb);have n1_:=Aside0.mk (hbox);have n2_:=Aside0.mk ((by rw [hg];exact (below_size zu1):w.heap.size≤gb167));have n3_:=Aside0.mk ((by rw [hg];exact (below_size zu1):w.heap.size≤gb167));clear HB;have HB:=n0_;have BK167:=n1_;have GW167:=n2_;have GE167:=n3_;clear n0_ n1_ n2_ n3_;clear hb hbox hg;have hcz9_0:w8.cell? ⟨gb167,0,none⟩=some (.int .i64 a0_0):=(blk_cell BK167.out 0).trans rfl;have hcz9_1:w8.cell? ⟨gb167,1,none⟩=some (.string a0_1):=(blk_cell BK167.out 1).trans rfl;have hcz9_2:w8.cell? ⟨gb167,2,none⟩=some (.string a0_2):=(blk_cell BK167.out 2).trans rfl;have hcz9_3:w8.cell? ⟨gb167,3,none⟩=some (.slice A0_3 l0_3.length c0_3):=(blk_cell BK167.out 3).trans rfl;have hcz9_4:w8.cell? ⟨gb167,4,none⟩=some (.bool a0_4):=(blk_cell BK167.out 4).trans rfl;have hfz9_0:=blk_frozen BK167.out 0;have hfz9_1:=blk_frozen BK167.out 1;have hfz9_2:=blk_frozen BK167.out 2;have hfz9_3:=blk_frozen BK167.out 3;have hfz9_4:=blk_frozen BK167.out 4))
    go_ret
    exact zv1
   ·rw [if_neg c7] at H
    have c7b0:((l0_3.length:Int) == a3)=false:=beq_eq_false_iff_ne.mpr c7
    have c7b1:((l0_3.length:Int) != a3)=true:=bne_iff_ne.mpr c7
    obtain rfl:=Option.some.inj H
    go_enter Tryz.func85,Tryz.ntmps85
    go_wp2_with (first | ((with_reducible refine gate_dst (N:=4) rfl ?_);(try (refine gate_guard (by rfl) ?_;dsimp only));refine box_event ?hg (N:=4) ?hd (cs := #[.int .i64 a0_0,.string a0_1,.string a0_2,.slice A0_3 l0_3.length c0_3,.bool a0_4]) (t:=30) ?hr ?_;(case hd=>rfl);(case hg=>rfl);(case hr=>first | (go_simp;done) | (go_simp;rfl));intro gb167 hg w10 hbox hb;have n0_:=Aside0.mk (below_step zu1 hb);have n1_:=Aside0.mk (hbox);have n2_:=Aside0.mk ((by rw [hg];exact (below_size zu1):w.heap.size≤gb167));have n3_:=Aside0.mk ((by rw [hg];exact (below_size zu1):w.heap.size≤gb167));clear HB;have HB:=n0_;have BK167:=n1_;have GW167:=n2_;have GE167:=n3_;clear n0_ n1_ n2_ n3_;clear hb hbox hg;have hcz11_0:w10.cell? ⟨gb167,0,none⟩=some (.int .i64 a0_0):=(blk_cell BK167.out 0).trans rfl;have hcz11_1:w10.cell? ⟨gb167,1,none⟩=some (.string a0_1):=(blk_cell BK167.out 1).trans rfl;have hcz11_2:w10.cell? ⟨gb167,2,none⟩=some (.string a0_2):=(blk_cell BK167.out 2).trans rfl;have hcz11_3:w10.cell? ⟨gb167,3,none⟩=some (.slice A0_3 l0_3.length c0_3):=(blk_cell BK167.out 3).trans rfl;have hcz11_4:w10.cell? ⟨gb167,4,none⟩=some (.bool a0_4):=(blk_cell BK167.out 4).trans rfl;have hfz11_0:=blk_frozen BK167.out 0;have hfz11_1:=blk_frozen BK167.out 1;have hfz11_2:=blk_frozen BK167.out 2;have hfz11_3:=blk_frozen BK167.out 3;have hfz11_4:=blk_frozen BK167.out 4))
    go_ret
    exact zv1
  ·rw [if_neg c6] at H
   have c6b0:(a0_1.toList == a2.toList)=false:=beq_eq_false_iff_ne.mpr c6
   have c6b1:(a0_1.toList != a2.toList)=true:=bne_iff_ne.mpr c6
   obtain rfl:=Option.some.inj H
   go_enter Tryz.func85,Tryz.ntmps85
   go_wp2_with (first | ((with_reducible refine gate_dst (N:=4) rfl ?_);(try (refine gate_guard (by rfl) ?_;dsimp only));refine box_event ?hg (N:=4) ?hd (cs := #[.int .i64 a0_0,.string a0_1,.string a0_2,.slice A0_3 l0_3.length c0_3,.bool a0_4]) (t:=30) ?hr ?_;(case hd=>rfl);(case hg=>rfl);(case hr=>first | (go_simp;done) | (go_simp;rfl));intro gb167 hg w12 hbox hb;have n0_:=Aside0.mk (below_step zu1 hb);have n1_:=Aside0.mk (hbox);have n2_:=Aside0.mk ((by rw [hg];exact (below_size zu1):w.heap.size≤gb167));have n3_:=Aside0.mk ((by rw [hg];exact (below_size zu1):w.heap.size≤gb167));clear HB;have HB:=n0_;have BK167:=n1_;have GW167:=n2_;have GE167:=n3_;clear n0_ n1_ n2_ n3_;clear hb hbox hg;have hcz13_0:w12.cell? ⟨gb167,0,none⟩=some (.int .i64 a0_0):=(blk_cell BK167.out 0).trans rfl;have hcz13_1:w12.cell? ⟨gb167,1,none⟩=some (.string a0_1):=(blk_cell BK167.out 1).trans rfl;have hcz13_2:w12.cell? ⟨gb167,2,none⟩=some (.string a0_2):=(blk_cell BK167.out 2).trans rfl;have hcz13_3:w12.cell? ⟨gb167,3,none⟩=some (.slice A0_3 l0_3.length c0_3):=(blk_cell BK167.out 3).trans rfl;have hcz13_4:w12.cell? ⟨gb167,4,none⟩=some (.bool a0_4):=(blk_cell BK167.out 4).trans rfl;have hfz13_0:=blk_frozen BK167.out 0;have hfz13_1:=blk_frozen BK167.out 1;have hfz13_2:=blk_frozen BK167.out 2;have hfz13_3:=blk_frozen BK167.out 3;have hfz13_4:=blk_frozen BK167.out 4))
   go_ret
   exact zv1
 ·rw [if_neg c5] at H
  have c5b0:(a0_0 == a1)=false:=beq_eq_false_iff_ne.mpr c5
  have c5b1:(a0_0 != a1)=true:=bne_iff_ne.mpr c5
  obtain rfl:=Option.some.inj H
  go_enter Tryz.func85,Tryz.ntmps85
  go_wp2_with (first | ((with_reducible refine gate_dst (N:=4) rfl ?_);(try (refine gate_guard (by rfl) ?_;dsimp only));refine box_event ?hg (N:=4) ?hd (cs := #[.int .i64 a0_0,.string a0_1,.string a0_2,.slice A0_3 l0_3.length c0_3,.bool a0_4]) (t:=30) ?hr ?_;(case hd=>rfl);(case hg=>rfl);(case hr=>first | (go_simp;done) | (go_simp;rfl));intro gb167 hg w14 hbox hb;have n0_:=Aside0.mk (below_step zu1 hb);have n1_:=Aside0.mk (hbox);have n2_:=Aside0.mk ((by rw [hg];exact (below_size zu1):w.heap.size≤gb167));have n3_:=Aside0.mk ((by rw [hg];exact (below_size zu1):w.heap.size≤gb167));clear HB;have HB:=n0_;have BK167:=n1_;have GW167:=n2_;have GE167:=n3_;clear n0_ n1_ n2_ n3_;clear hb hbox hg;have hcz15_0:w14.cell? ⟨gb167,0,none⟩=some (.int .i64 a0_0):=(blk_cell BK167.out 0).trans rfl;have hcz15_1:w14.cell? ⟨gb167,1,none⟩=some (.string a0_1):=(blk_cell BK167.out 1).trans rfl;have hcz15_2:w14.cell? ⟨gb167,2,none⟩=some (.string a0_2):=(blk_cell BK167.out 2).trans rfl;have hcz15_3:w14.cell? ⟨gb167,3,none⟩=some (.slice A0_3 l0_3.length c0_3):=(blk_cell BK167.out 3).trans rfl;have hcz15_4:w14.cell? ⟨gb167,4,none⟩=some (.bool a0_4):=(blk_cell BK167.out 4).trans rfl;have hfz15_0:=blk_frozen BK167.out 0;have hfz15_1:=blk_frozen BK167.out 1;have hfz15_2:=blk_frozen BK167.out 2;have hfz15_3:=blk_frozen BK167.out 3;have hfz15_4:=blk_frozen BK167.out 4))
  go_ret
  exact zv1
end St
end

section
namespace St
open Go.RowKit K0 Hand Sa Si YtclkdmmgibgamaaGreatDoorW.PrintWords YtclkdmmgibgamaaGreatDoorW.PrintLast YtclkdmmgibgamaaGreatDoorW.PrintMore
attribute [local go_sem] max2_int min2_int max_two min_two max_three min_three max_four min_four  
set_option linter.unusedVariables false
set_option linter.unusedSimpArgs false
noncomputable def context_value.f (l0:List (S30)):Option (ByteArray×Bool):=if (l0.length:Int)=1 then (if 0<(l0.length:Int) then ((context_plain.f ((rd_T30 l0 0).f0) ((rd_T30 l0 0).f1) ((rd_T30 l0 0).f2) ((rd_T30 l0 0).f3) ((rd_T30 l0 0).f4) 1 (⟨#[97]⟩:ByteArray) 1).bind fun t169=>(if t169=true then (if 0<(((rd_T30 l0 0).f3).length:Int) then (if ((rd_T105 ((rd_T30 l0 0).f3) 0).f0).toList=([120]:List UInt8) then (some ((rd_T105 ((rd_T30 l0 0).f3) 0).f1,true)) else (some ((⟨#[]⟩:ByteArray),false))) else (none)) else (some ((⟨#[]⟩:ByteArray),false)))) else (none)) else (some ((⟨#[]⟩:ByteArray),false))
theorem context_value.calls (A0:Option Addr) (c0:Nat) (l0:List (S30)) (r1:ByteArray) (r2:Bool) (w:World) (hr0:Kd.C k30 w A0 l0.length l0) (hc0:l0.length≤c0) (h:context_value.f l0=some (r1,r2)) :
  Calls Tryz.prog 50 #[.slice A0 l0.length c0] w fun e w'=>e = .returned (.tuple #[.string r1,.bool r2])∧Below w.heap.size w w':=by
 have hu30:=Tryz.underlying30
 have HR0:=Aside0.mk hr0
 have HC0:=Aside0.mk hc0
 clear hr0 hc0
 have HB:=Aside0.mk (Below.refl w.heap.size w)
 have H:(if (l0.length:Int)=1 then (if 0<(l0.length:Int) then ((context_plain.f ((rd_T30 l0 0).f0) ((rd_T30 l0 0).f1) ((rd_T30 l0 0).f2) ((rd_T30 l0 0).f3) ((rd_T30 l0 0).f4) 1 (⟨#[97]⟩:ByteArray) 1).bind fun t169=>(if t169=true then (if 0<(((rd_T30 l0 0).f3).length:Int) then (if ((rd_T105 ((rd_T30 l0 0).f3) 0).f0).toList=([120]:List UInt8) then (some ((rd_T105 ((rd_T30 l0 0).f3) 0).f1,true)) else (some ((⟨#[]⟩:ByteArray),false))) else (none)) else (some ((⟨#[]⟩:ByteArray),false)))) else (none)) else (some ((⟨#[]⟩:ByteArray),false)))=some (r1,r2):=h
 clear h
 by_cases c2:(l0.length:Int)=1
 ·rw [if_pos c2] at H
  have c2b0:((l0.length:Int) == 1)=true:=beq_iff_eq.mpr c2
  have c2b1:((l0.length:Int) != 1)=false:=bne_eq_false_iff_eq.mpr c2
  clear c2
  by_cases c3:0<(l0.length:Int)
  ·rw [if_pos c3] at H
   have c3b0:decide (0<(l0.length:Int))=true:=decide_eq_true c3
   have c3b1:decide (0<l0.length)=true:=decide_eq_true zu4
   clear c3
   replace H:=Option.bind_eq_some_iff.mp H
   obtain ⟨t169,A40,H⟩:=H
   try dsimp only at H
   have A4:=Aside0.mk A40
   clear A40
   by_cases c5:t169=true
   ·subst c5
    rw [if_pos rfl] at H
    by_cases c6:0<(((rd_T30 l0 0).f3).length:Int)
    ·rw [if_pos c6] at H
     have c6b0:decide (0<(((rd_T30 l0 0).f3).length:Int))=true:=decide_eq_true c6
     have c6b1:decide (0<((rd_T30 l0 0).f3).length)=true:=decide_eq_true zu4
     clear c6
     by_cases c7:((rd_T105 ((rd_T30 l0 0).f3) 0).f0).toList=([120]:List UInt8)
     ·rw [if_pos c7] at H
      have c7b0:(((rd_T105 ((rd_T30 l0 0).f3) 0).f0).toList == ([120]:List UInt8))=true:=beq_iff_eq.mpr c7
      have c7b1:(((rd_T105 ((rd_T30 l0 0).f3) 0).f0).toList != ([120]:List UInt8))=false:=bne_eq_false_iff_eq.mpr c7
      clear c7
      simp only [Option.some.injEq,Prod.mk.injEq] at H
      obtain ⟨rfl,rfl⟩:=H
      have p168:0≤(0:Int):=zu4
      have q168:0<(l0.length:Int):=of_decide_eq_true zu17
      obtain ⟨ad168,A168_3,c168_3,e168,hx168_0,hx168_1,hx168_2,hx168_3,hx168_4,hl168_3,hi168_3⟩:=at_T30 HR0.out 0 p168 q168
      cases e168
      have qi168:(0<l0.length)=True:=eq_true zu4
      (try rw [show ((0:Int)).toNat=0 from rfl] at hx168_0)
      (try rw [show 0*5=0 from rfl] at hx168_0)
      (try rw [Addr.add_zero'] at hx168_0)
      (try rw [show ((0:Int)).toNat=0 from rfl] at hx168_1)
      (try rw [show 0*5=0 from rfl] at hx168_1)
      (try rw [Addr.add_zero'] at hx168_1)
      (try rw [show ((0:Int)).toNat=0 from rfl] at hx168_2)
      (try rw [show 0*5=0 from rfl] at hx168_2)
      (try rw [Addr.add_zero'] at hx168_2)
      (try rw [show ((0:Int)).toNat=0 from rfl] at hx168_3)
      (try rw [show 0*5=0 from rfl] at hx168_3)
      (try rw [Addr.add_zero'] at hx168_3)
      (try rw [show ((0:Int)).toNat=0 from rfl] at hx168_4)
      (try rw [show 0*5=0 from rfl] at hx168_4)
      (try rw [Addr.add_zero'] at hx168_4)
      have HR168_3:=Aside0.mk hi168_3
      have HC168_3:=Aside0.mk hl168_3
      clear hi168_3 hl168_3
      replace p168:=eq_true p168
      replace q168:=eq_true q168
      go_enter Tryz.func50,Tryz.ntmps50
      go_wp2_with (first | (go_at_call 85;(with_reducible refine (context_plain.calls ((rd_T30 l0 0).f0) ((rd_T30 l0 0).f1) ((rd_T30 l0 0).f2) _ _ ((rd_T30 l0 0).f3) ((rd_T30 l0 0).f4) 1 (⟨#[97]⟩:ByteArray) 1 true _ ?side1 ?side2 A4.out).mono ?_);(case side1=>repeat (first|exact HR168_3.out | (with_reducible refine Kd.C_alloc ?_ _) | (with_reducible refine Kd.C_drewN ?_ _) | (with_reducible refine Kd.C_drew ?_)));(case side2=>exact HC168_3.out);rintro e w8 ⟨rfl,hb⟩;have n0_:=Aside0.mk (below_step zu1 hb);clear HB;have HB:=n0_;clear n0_;(try clear hb);(try clear hb2);(try clear hk);(try clear hi);have p170:0≤(0:Int):=zu4;have q170:0<(l0.length:Int):=of_decide_eq_true zu17;obtain ⟨ad170,A170_3,c170_3,e170,hx170_0,hx170_1,hx170_2,hx170_3,hx170_4,hl170_3,hi170_3⟩:=at_T30 HR0.out 0 p170 q170;obtain rfl:ad168=ad170:=(by injection e170);have qi170:(0<l0.length)=True:=eq_true zu4;(try rw [show ((0:Int)).toNat=0 from rfl] at hx170_0);(try rw [show 0*5=0 from rfl] at hx170_0);(try rw [Addr.add_zero'] at hx170_0);(try rw [show ((0:Int)).toNat=0 from rfl] at hx170_1);(try rw [show 0*5=0 from rfl] at hx170_1);(try rw [Addr.add_zero'] at hx170_1);(try rw [show ((0:Int)).toNat=0 from rfl] at hx170_2);(try rw [show 0*5=0 from rfl] at hx170_2);(try rw [Addr.add_zero'] at hx170_2);(try rw [show ((0:Int)).toNat=0 from rfl] at hx170_3);(try rw [show 0*5=0 from rfl] at hx170_3);(try rw [Addr.add_zero'] at hx170_3);(try rw [show ((0:Int)).toNat=0 from rfl] at hx170_4);(try rw [show 0*5=0 from rfl] at hx170_4);(try rw [Addr.add_zero'] at hx170_4);replace hx170_0:=(HB.out.cell (World.block_lt_of_cell? w _ hx170_0)).trans hx170_0;replace hx170_1:=(HB.out.cell (World.block_lt_of_cell? w _ hx170_1)).trans hx170_1;replace hx170_2:=(HB.out.cell (World.block_lt_of_cell? w _ hx170_2)).trans hx170_2;replace hx170_3:=(HB.out.cell (World.block_lt_of_cell? w _ hx170_3)).trans hx170_3;replace hx170_4:=(HB.out.cell (World.block_lt_of_cell? w _ hx170_4)).trans hx170_4;have HR170_3:=Aside0.mk hi170_3;have HC170_3:=Aside0.mk hl170_3;clear hi170_3 hl170_3;replace p170:=eq_true p170;replace q170:=eq_true q170;have p171:0≤(0:Int):=zu4;have q171:0<(((rd_T30 l0 0).f3).length:Int):=of_decide_eq_true zu17;obtain ⟨ad171,e171,hx171_0,hx171_1⟩:=at_T105 HR170_3.out 0 p171 q171;cases e171;have qi171:(0<((rd_T30 l0 0).f3).length)=True:=eq_true zu4;(try rw [show ((0:Int)).toNat=0 from rfl] at hx171_0);(try rw [show 0*2=0 from rfl] at hx171_0);(try rw [Addr.add_zero'] at hx171_0);(try rw [show ((0:Int)).toNat=0 from rfl] at hx171_1);(try rw [show 0*2=0 from rfl] at hx171_1);(try rw [Addr.add_zero'] at hx171_1);replace hx171_0:=(HB.out.cell (World.block_lt_of_cell? w _ hx171_0)).trans hx171_0;replace hx171_1:=(HB.out.cell (World.block_lt_of_cell? w _ hx171_1)).trans hx171_1;replace p171:=eq_true p171;replace q171:=eq_true q171;have p172:0≤(0:Int):=zu4;have q172:0<(l0.length:Int):=of_decide_eq_true zu17;obtain ⟨ad172,A172_3,c172_3,e172,hx172_0,hx172_1,hx172_2,hx172_3,hx172_4,hl172_3,hi172_3⟩:=at_T30 HR0.out 0 p172 q172;obtain rfl:ad168=ad172:=(by injection e172);have qi172:(0<l0.length)=True:=eq_true zu4;(try rw [show ((0:Int)).toNat=0 from rfl] at hx172_0);(try rw [show 0*5=0 from rfl] at hx172_0);(try rw [Addr.add_zero'] at hx172_0);(try rw [show ((0:Int)).toNat=0 from rfl] at hx172_1);(try rw [show 0*5=0 from rfl] at hx172_1);(try rw [Addr.add_zero'] at hx172_1);(try rw [show ((0:Int)).toNat=0 from rfl] at hx172_2);(try rw [show 0*5=0 from rfl] at hx172_2);(try rw [Addr.add_zero'] at hx172_2);(try rw [show ((0:Int)).toNat=0 from rfl] at hx172_3);(try rw [show 0*5=0 from rfl] at hx172_3);(try rw [Addr.add_zero'] at hx172_3);(try rw [show ((0:Int)).toNat=0 from rfl] at hx172_4);(try rw [show 0*5=0 from rfl] at hx172_4);(try rw [Addr.add_zero'] at hx172_4);replace hx172_0:=(HB.out.cell (World.block_lt_of_cell? w _ hx172_0)).trans hx172_0;replace hx172_1:=(HB.out.cell (World.block_lt_of_cell? w _ hx172_1)).trans hx172_1;replace hx172_2:=(HB.out.cell (World.block_lt_of_cell? w _ hx172_2)).trans hx172_2;replace hx172_3:=(HB.out.cell (World.block_lt_of_cell? w _ hx172_3)).trans hx172_3;replace hx172_4:=(HB.out.cell (World.block_lt_of_cell? w _ hx172_4)).trans hx172_4;have HR172_3:=Aside0.mk hi172_3;have HC172_3:=Aside0.mk hl172_3;clear hi172_3 hl172_3;replace p172:=eq_true p172;replace q172:=eq_true q172;have ea_:=Option.some.inj (hx170_3.symm.trans hx172_3);injection ea_ with ea_ en_ ec_;subst ea_;subst ec_;clear en_;have p173:0≤(0:Int):=zu4;have q173:0<(((rd_T30 l0 0).f3).length:Int):=of_decide_eq_true zu17;obtain ⟨ad173,e173,hx173_0,hx173_1⟩:=at_T105 HR172_3.out 0 p173 q173;cases e173;have qi173:(0<((rd_T30 l0 0).f3).length)=True:=eq_true zu4;(try rw [show ((0:Int)).toNat=0 from rfl] at hx173_0);(try rw [show 0*2=0 from rfl] at hx173_0);(try rw [Addr.add_zero'] at hx173_0);(try rw [show ((0:Int)).toNat=0 from rfl] at hx173_1);(try rw [show 0*2=0 from rfl] at hx173_1);(try rw [Addr.add_zero'] at hx173_1);replace hx173_0:=(HB.out.cell (World.block_lt_of_cell? w _ hx173_0)).trans hx173_0;replace hx173_1:=(HB.out.cell (World.block_lt_of_cell? w _ hx173_1)).trans hx173_1;replace p173:=eq_true p173;replace q173:=eq_true q173))
      go_ret2
      exact zu5
     ·rw [if_neg c7] at H
      have c7b0:(((rd_T105 ((rd_T30 l0 0).f3) 0).f0).toList == ([120]:List UInt8))=false:=beq_eq_false_iff_ne.mpr c7
      have c7b1:(((rd_T105 ((rd_T30 l0 0).f3) 0).f0).toList != ([120]:List UInt8))=true:=bne_iff_ne.mpr c7
      simp only [Option.some.injEq,Prod.mk.injEq] at H
      obtain ⟨rfl,rfl⟩:=H
      have p168:0≤(0:Int):=zu4
      have q168:0<(l0.length:Int):=of_decide_eq_true zu17
      obtain ⟨ad168,A168_3,c168_3,e168,hx168_0,hx168_1,hx168_2,hx168_3,hx168_4,hl168_3,hi168_3⟩:=at_T30 HR0.out 0 p168 q168
      cases e168
      have qi168:(0<l0.length)=True:=eq_true zu4
      (try rw [show ((0:Int)).toNat=0 from rfl] at hx168_0)
      (try rw [show 0*5=0 from rfl] at hx168_0)
      (try rw [Addr.add_zero'] at hx168_0)
      (try rw [show ((0:Int)).toNat=0 from rfl] at hx168_1)
      (try rw [show 0*5=0 from rfl] at hx168_1)
      (try rw [Addr.add_zero'] at hx168_1)
      (try rw [show ((0:Int)).toNat=0 from rfl] at hx168_2)
      (try rw [show 0*5=0 from rfl] at hx168_2)
      (try rw [Addr.add_zero'] at hx168_2)
      (try rw [show ((0:Int)).toNat=0 from rfl] at hx168_3)
      (try rw [show 0*5=0 from rfl] at hx168_3)
      (try rw [Addr.add_zero'] at hx168_3)
      (try rw [show ((0:Int)).toNat=0 from rfl] at hx168_4)
      (try rw [show 0*5=0 from rfl] at hx168_4)
      (try rw [Addr.add_zero'] at hx168_4)
      have HR168_3:=Aside0.mk hi168_3
      have HC168_3:=Aside0.mk hl168_3
      clear hi168_3 hl168_3
      replace p168:=eq_true p168
      replace q168:=eq_true q168
      go_enter Tryz.func50,Tryz.ntmps50
      go_wp2_with (first | (go_at_call 85;(with_reducible refine (context_plain.calls ((rd_T30 l0 0).f0) ((rd_T30 l0 0).f1) ((rd_T30 l0 0).f2) _ _ ((rd_T30 l0 0).f3) ((rd_T30 l0 0).f4) 1 (⟨#[97]⟩:ByteArray) 1 true _ ?side1 ?side2 A4.out).mono ?_);(case side1=>repeat (first|exact HR168_3.out | (with_reducible refine Kd.C_alloc ?_ _) | (with_reducible refine Kd.C_drewN ?_ _) | (with_reducible refine Kd.C_drew ?_)));(case side2=>exact HC168_3.out);rintro e w9 ⟨rfl,hb⟩;have n0_:=Aside0.mk (below_step zu1 hb);clear HB;have HB:=n0_;clear n0_;(try clear hb);(try clear hb2);(try clear hk);(try clear hi);have p170:0≤(0:Int):=zu4;have q170:0<(l0.length:Int):=of_decide_eq_true zu17;obtain ⟨ad170,A170_3,c170_3,e170,hx170_0,hx170_1,hx170_2,hx170_3,hx170_4,hl170_3,hi170_3⟩:=at_T30 HR0.out 0 p170 q170;obtain rfl:ad168=ad170:=(by injection e170);have qi170:(0<l0.length)=True:=eq_true zu4;(try rw [show ((0:Int)).toNat=0 from rfl] at hx170_0);(try rw [show 0*5=0 from rfl] at hx170_0);(try rw [Addr.add_zero'] at hx170_0);(try rw [show ((0:Int)).toNat=0 from rfl] at hx170_1);(try rw [show 0*5=0 from rfl] at hx170_1);(try rw [Addr.add_zero'] at hx170_1);(try rw [show ((0:Int)).toNat=0 from rfl] at hx170_2);(try rw [show 0*5=0 from rfl] at hx170_2);(try rw [Addr.add_zero'] at hx170_2);(try rw [show ((0:Int)).toNat=0 from rfl] at hx170_3);(try rw [show 0*5=0 from rfl] at hx170_3);(try rw [Addr.add_zero'] at hx170_3);(try rw [show ((0:Int)).toNat=0 from rfl] at hx170_4);(try rw [show 0*5=0 from rfl] at hx170_4);(try rw [Addr.add_zero'] at hx170_4);replace hx170_0:=(HB.out.cell (World.block_lt_of_cell? w _ hx170_0)).trans hx170_0;replace hx170_1:=(HB.out.cell (World.block_lt_of_cell? w _ hx170_1)).trans hx170_1;replace hx170_2:=(HB.out.cell (World.block_lt_of_cell? w _ hx170_2)).trans hx170_2;replace hx170_3:=(HB.out.cell (World.block_lt_of_cell? w _ hx170_3)).trans hx170_3;replace hx170_4:=(HB.out.cell (World.block_lt_of_cell? w _ hx170_4)).trans hx170_4;have HR170_3:=Aside0.mk hi170_3;have HC170_3:=Aside0.mk hl170_3;clear hi170_3 hl170_3;replace p170:=eq_true p170;replace q170:=eq_true q170;have p171:0≤(0:Int):=zu4;have q171:0<(((rd_T30 l0 0).f3).length:Int):=of_decide_eq_true zu17;obtain ⟨ad171,e171,hx171_0,hx171_1⟩:=at_T105 HR170_3.out 0 p171 q171;cases e171;have qi171:(0<((rd_T30 l0 0).f3).length)=True:=eq_true zu4;(try rw [show ((0:Int)).toNat=0 from rfl] at hx171_0);(try rw [show 0*2=0 from rfl] at hx171_0);(try rw [Addr.add_zero'] at hx171_0);(try rw [show ((0:Int)).toNat=0 from rfl] at hx171_1);(try rw [show 0*2=0 from rfl] at hx171_1);(try rw [Addr.add_zero'] at hx171_1);replace hx171_0:=(HB.out.cell (World.block_lt_of_cell? w _ hx171_0)).trans hx171_0;replace hx171_1:=(HB.out.cell (World.block_lt_of_cell? w _ hx171_1)).trans hx171_1;replace p171:=eq_true p171;replace q171:=eq_true q171))
      go_ret2
      exact zu5
    ·rw [if_neg c6] at H
     exact absurd H zu19
   ·replace c5:=Bool.eq_false_iff.mpr c5
    subst c5
    rw [if_neg (show ¬ (false=true) by decide)] at H
    simp only [Option.some.injEq,Prod.mk.injEq] at H
    obtain ⟨rfl,rfl⟩:=H
    have p168:0≤(0:Int):=zu4
    have q168:0<(l0.length:Int):=of_decide_eq_true zu17
    obtain ⟨ad168,A168_3,c168_3,e168,hx168_0,hx168_1,hx168_2,hx168_3,hx168_4,hl168_3,hi168_3⟩:=at_T30 HR0.out 0 p168 q168
    cases e168
    have qi168:(0<l0.length)=True:=eq_true zu4
    (try rw [show ((0:Int)).toNat=0 from rfl] at hx168_0)
    (try rw [show 0*5=0 from rfl] at hx168_0)
    (try rw [Addr.add_zero'] at hx168_0)
    (try rw [show ((0:Int)).toNat=0 from rfl] at hx168_1)
    (try rw [show 0*5=0 from rfl] at hx168_1)
    (try rw [Addr.add_zero'] at hx168_1)
    (try rw [show ((0:Int)).toNat=0 from rfl] at hx168_2)
    (try rw [show 0*5=0 from rfl] at hx168_2)
    (try rw [Addr.add_zero'] at hx168_2)
    (try rw [show ((0:Int)).toNat=0 from rfl] at hx168_3)
    (try rw [show 0*5=0 from rfl] at hx168_3)
    (try rw [Addr.add_zero'] at hx168_3)
    (try rw [show ((0:Int)).toNat=0 from rfl] at hx168_4)
    (try rw [show 0*5=0 from rfl] at hx168_4)
    (try rw [Addr.add_zero'] at hx168_4)
    have HR168_3:=Aside0.mk hi168_3
    have HC168_3:=Aside0.mk hl168_3
    clear hi168_3 hl168_3
    replace p168:=eq_true p168
    replace q168:=eq_true q168
    go_enter Tryz.func50,Tryz.ntmps50
    go_wp2_with (first | (go_at_call 85;(with_reducible refine (context_plain.calls ((rd_T30 l0 0).f0) ((rd_T30 l0 0).f1) ((rd_T30 l0 0).f2) _ _ ((rd_T30 l0 0).f3) ((rd_T30 l0 0).f4) 1 (⟨#[97]⟩:ByteArray) 1 false _ ?side1 ?side2 A4.out).mono ?_);(case side1=>repeat (first|exact HR168_3.out | (with_reducible refine Kd.C_alloc ?_ _) | (with_reducible refine Kd.C_drewN ?_ _) | (with_reducible refine Kd.C_drew ?_)));(case side2=>exact HC168_3.out);rintro e w10 ⟨rfl,hb⟩;have n0_:=Aside0.mk (below_step zu1 hb);clear HB;have HB:=n0_;clear n0_;(try clear hb);(try clear hb2);(try clear hk);(try clear hi)))
    go_ret2
    exact zu5
  ·rw [if_neg c3] at H
   exact absurd H zu19
 ·rw [if_neg c2] at H
  have c2b0:((l0.length:Int) == 1)=false:=beq_eq_false_iff_ne.mpr c2
  have c2b1:((l0.length:Int) != 1)=true:=bne_iff_ne.mpr c2
  simp only [Option.some.injEq,Prod.mk.injEq] at H
  obtain ⟨rfl,rfl⟩:=H
  go_enter Tryz.func50,Tryz.ntmps50
  go_wp2
  go_ret2
  exact zu5
noncomputable def stringslite_HasPrefix.f (a0:ByteArray) (a1:ByteArray):Option (Bool):=if (a0.size:Int)≥(a1.size:Int) then (if 0≤(a1.size:Int) then (if (a1.size:Int)≤(a0.size:Int) then (some ((a0.extract 0 ((a1.size:Int):Int).toNat).toList == a1.toList)) else (none)) else (none)) else (some false)
theorem stringslite_HasPrefix.calls (a0:ByteArray) (a1:ByteArray) (r:Bool) (w:World) (h:stringslite_HasPrefix.f a0 a1=some r) :
  Calls Tryz.prog 84 #[.string a0,.string a1] w fun e w'=>e = .returned (.bool r)∧Drawn0 w w':=by
 have H:(if (a0.size:Int)≥(a1.size:Int) then (if 0≤(a1.size:Int) then (if (a1.size:Int)≤(a0.size:Int) then (some ((a0.extract 0 ((a1.size:Int):Int).toNat).toList == a1.toList)) else (none)) else (none)) else (some false))=some r:=h
 clear h
 by_cases c3:(a0.size:Int)≥(a1.size:Int)
 ·rw [if_pos c3] at H
  have c3b0:decide ((a1.size:Int)≤(a0.size:Int))=true:=decide_eq_true c3
  have c3b1:decide (a1.size≤a0.size)=true:=decide_eq_true (Int.ofNat_le.mp c3)
  clear c3
  by_cases c4:0≤(a1.size:Int)
  ·rw [if_pos c4] at H
   have c4b0:=eq_true c4
   have c4b1:decide (0≤(a1.size:Int))=true:=decide_eq_true c4
   clear c4
   by_cases c5:(a1.size:Int)≤(a0.size:Int)
   ·rw [if_pos c5] at H
    have c5b0:=eq_true c5
    have c5b1:decide ((a1.size:Int)≤(a0.size:Int))=true:=decide_eq_true c5
    clear c5
    obtain rfl:=Option.some.inj H
    go_enter Tryz.func84,Tryz.ntmps84
    go_wp2
    go_ret
    exact zu14
   ·rw [if_neg c5] at H
    exact absurd H zu19
  ·rw [if_neg c4] at H
   exact absurd H zu19
 ·rw [if_neg c3] at H
  have c3b0:decide ((a1.size:Int)≤(a0.size:Int))=false:=decide_eq_false c3
  have c3b1:decide (a1.size≤a0.size)=false:=decide_eq_false (fun h=>c3 (Int.ofNat_le.mpr h))
  clear c3
  obtain rfl:=Option.some.inj H
  go_enter Tryz.func84,Tryz.ntmps84
  go_wp2
  go_ret
  exact zu14
noncomputable def stringslite_TrimPrefix.f (a0:ByteArray) (a1:ByteArray):Option (ByteArray):=(stringslite_HasPrefix.f a0 a1).bind fun t174=>(if t174=true then (if 0≤(a1.size:Int) then (if (a1.size:Int)≤(a0.size:Int) then (some (a0.extract ((a1.size:Int):Int).toNat a0.size)) else (none)) else (none)) else (some a0))
theorem stringslite_TrimPrefix.calls (a0:ByteArray) (a1:ByteArray) (r:ByteArray) (w:World) (h:stringslite_TrimPrefix.f a0 a1=some r) :
  Calls Tryz.prog 79 #[.string a0,.string a1] w fun e w'=>e = .returned (.string r)∧Drawn0 w w':=by
 have H:((stringslite_HasPrefix.f a0 a1).bind fun t174=>(if t174=true then (if 0≤(a1.size:Int) then (if (a1.size:Int)≤(a0.size:Int) then (some (a0.extract ((a1.size:Int):Int).toNat a0.size)) else (none)) else (none)) else (some a0)))=some r:=h
 clear h
 replace H:=Option.bind_eq_some_iff.mp H
 obtain ⟨t174,A30,H⟩:=H
 try dsimp only at H
 have A3:=Aside0.mk A30
 clear A30
 by_cases c4:t174=true
 ·subst c4
  rw [if_pos rfl] at H
  by_cases c5:0≤(a1.size:Int)
  ·rw [if_pos c5] at H
   have c5b0:=eq_true c5
   have c5b1:decide (0≤(a1.size:Int))=true:=decide_eq_true c5
   clear c5
   by_cases c6:(a1.size:Int)≤(a0.size:Int)
   ·rw [if_pos c6] at H
    have c6b0:=eq_true c6
    have c6b1:decide ((a1.size:Int)≤(a0.size:Int))=true:=decide_eq_true c6
    clear c6
    obtain rfl:=Option.some.inj H
    go_enter Tryz.func79,Tryz.ntmps79
    go_wp2_with (first | ((with_reducible refine gate_callee (f:=84) rfl ?_);refine goesL_ (some 7) rfl rfl Tryz.func84 zu13 rfl #[.string a0,.string a1] rfl zu2 ?_;(with_reducible refine (stringslite_HasPrefix.calls a0 a1 true _ A3.out).mono ?_);rintro e w' ⟨rfl,⟨nd,rfl⟩⟩;refine ⟨_,rfl,?_⟩))
    go_ret
    exact zu14
   ·rw [if_neg c6] at H
    exact absurd H zu19
  ·rw [if_neg c5] at H
   exact absurd H zu19
 ·replace c4:=Bool.eq_false_iff.mpr c4
  subst c4
  rw [if_neg (show ¬ (false=true) by decide)] at H
  obtain rfl:=Option.some.inj H
  go_enter Tryz.func79,Tryz.ntmps79
  go_wp2_with (first | ((with_reducible refine gate_callee (f:=84) rfl ?_);refine goesL_ (some 7) rfl rfl Tryz.func84 zu13 rfl #[.string a0,.string a1] rfl zu2 ?_;(with_reducible refine (stringslite_HasPrefix.calls a0 a1 false _ A3.out).mono ?_);rintro e w' ⟨rfl,⟨nd,rfl⟩⟩;refine ⟨_,rfl,?_⟩))
  go_ret
  exact zu14
noncomputable def strings_TrimPrefix.f (a0:ByteArray) (a1:ByteArray):Option (ByteArray):=(stringslite_TrimPrefix.f a0 a1).bind fun t175=>(some t175)
theorem strings_TrimPrefix.calls (a0:ByteArray) (a1:ByteArray) (r:ByteArray) (w:World) (h:strings_TrimPrefix.f a0 a1=some r) :
  Calls Tryz.prog 41 #[.string a0,.string a1] w fun e w'=>e = .returned (.string r)∧Drawn0 w w':=by
 have H:((stringslite_TrimPrefix.f a0 a1).bind fun t175=>(some t175))=some r:=h
 clear h
 replace H:=Option.bind_eq_some_iff.mp H
 obtain ⟨t175,A30,H⟩:=H
 replace H:(some t175)=some r:=H
 have A3:=Aside0.mk A30
 clear A30
 obtain rfl:=Option.some.inj H
 go_enter Tryz.func41,Tryz.ntmps41
 go_wp2_with (first | ((with_reducible refine gate_callee (f:=79) rfl ?_);refine goesL_ (some 7) rfl rfl Tryz.func79 zu13 rfl #[.string a0,.string a1] rfl zu2 ?_;(with_reducible refine (stringslite_TrimPrefix.calls a0 a1 t175 _ A3.out).mono ?_);rintro e w' ⟨rfl,⟨nd,rfl⟩⟩;refine ⟨_,rfl,?_⟩))
 go_ret
 exact zu14
noncomputable def context_within.j0:Nat→List (S30)→Int→Bool→Option (ByteArray×Bool)
 | 0,_,_,_=>none
 | k+1,x0,x4,x24=>if x24=true then (some ((⟨#[]⟩:ByteArray),false)) else (if 1≤x4 then (if x4≤(x0.length:Int) then ((context_only.f ((x0.take (x4:Int).toNat).drop 1)).bind fun bt184=>((strings_TrimPrefix.f bt184.1 (⟨#[10]⟩:ByteArray)).bind fun t186=>(some (t186,bt184.2)))) else (none)) else (none))
noncomputable def context_within.f (k:Nat) (l0:List (S30)):Option (ByteArray×Bool):=if (wrap64 ((l0.length:Int) - 1))<1 then (context_within.j0 k l0 (wrap64 ((l0.length:Int) - 1)) true) else (if 0<(l0.length:Int) then ((context_plain.f ((rd_T30 l0 0).f0) ((rd_T30 l0 0).f1) ((rd_T30 l0 0).f2) ((rd_T30 l0 0).f3) ((rd_T30 l0 0).f4) 1 (⟨#[116,101,120,116,97,114,101,97]⟩:ByteArray) 0).bind fun t177=>(if t177=true then (if 0≤(wrap64 ((l0.length:Int) - 1)) then (if (wrap64 ((l0.length:Int) - 1))<(l0.length:Int) then ((context_plain.f ((rd_T30 l0 (wrap64 ((l0.length:Int) - 1))).f0) ((rd_T30 l0 (wrap64 ((l0.length:Int) - 1))).f1) ((rd_T30 l0 (wrap64 ((l0.length:Int) - 1))).f2) ((rd_T30 l0 (wrap64 ((l0.length:Int) - 1))).f3) ((rd_T30 l0 (wrap64 ((l0.length:Int) - 1))).f4) 2 (⟨#[116,101,120,116,97,114,101,97]⟩:ByteArray) 0).bind fun t179=>(context_within.j0 k l0 (wrap64 ((l0.length:Int) - 1)) (!t179))) else (none)) else (none)) else (context_within.j0 k l0 (wrap64 ((l0.length:Int) - 1)) true))) else (none))
theorem context_within.calls (k:Nat) (A0:Option Addr) (c0:Nat) (l0:List (S30)) (r1:ByteArray) (r2:Bool) (w:World) (hr0:Kd.C k30 w A0 l0.length l0) (hc0:l0.length≤c0) (h:context_within.f k l0=some (r1,r2)) :
  Calls Tryz.prog 51 #[.slice A0 l0.length c0] w fun e w'=>e = .returned (.tuple #[.string r1,.bool r2])∧Below w.heap.size w w':=by
 have hu30:=Tryz.underlying30
 have HR0:=Aside0.mk hr0
 have HC0:=Aside0.mk hc0
 clear hr0 hc0
 have HB:=Aside0.mk (Below.refl w.heap.size w)
 have H:(if (wrap64 ((l0.length:Int) - 1))<1 then (context_within.j0 k l0 (wrap64 ((l0.length:Int) - 1)) true) else (if 0<(l0.length:Int) then ((context_plain.f ((rd_T30 l0 0).f0) ((rd_T30 l0 0).f1) ((rd_T30 l0 0).f2) ((rd_T30 l0 0).f3) ((rd_T30 l0 0).f4) 1 (⟨#[116,101,120,116,97,114,101,97]⟩:ByteArray) 0).bind fun t177=>(if t177=true then (if 0≤(wrap64 ((l0.length:Int) - 1)) then (if (wrap64 ((l0.length:Int) - 1))<(l0.length:Int) then ((context_plain.f ((rd_T30 l0 (wrap64 ((l0.length:Int) - 1))).f0) ((rd_T30 l0 (wrap64 ((l0.length:Int) - 1))).f1) ((rd_T30 l0 (wrap64 ((l0.length:Int) - 1))).f2) ((rd_T30 l0 (wrap64 ((l0.length:Int) - 1))).f3) ((rd_T30 l0 (wrap64 ((l0.length:Int) - 1))).f4) 2 (⟨#[116,101,120,116,97,114,101,97]⟩:ByteArray) 0).bind fun t179=>(context_within.j0 k l0 (wrap64 ((l0.length:Int) - 1)) (!t179))) else (none)) else (none)) else (context_within.j0 k l0 (wrap64 ((l0.length:Int) - 1)) true))) else (none)))=some (r1,r2):=h
 clear h
 have HC2:=Aside0.mk H
 clear H
 go_enter Tryz.func51,Tryz.ntmps51
 go_upto_region 2 with (fail)
 go_cut [24] (fun v24 wc => ∃ (kq:Nat) (x24_1:Bool),v24 = .bool x24_1∧Aside0 (context_within.j0 kq l0 (wrap64 ((l0.length:Int) - 1)) x24_1=some (r1,r2))∧Aside0 (kq≤k)∧Aside0 (Below w.heap.size w wc))
 case first =>
  have H:=HC2.out
  clear HC2
  by_cases c3:(wrap64 ((l0.length:Int) - 1))<1
  ·rw [if_pos c3] at H
   have c3b0:decide ((wrap64 ((l0.length:Int) - 1))<1)=true:=decide_eq_true c3
   clear c3
   (first|rw [c3b0] | (simp only [i64_w,i32_w];rw [c3b0])|skip)
   have H':=Aside0.mk H
   clear H
   go_wp2
   go_meet
   case rel=>exact ⟨_,(true),zu18,H',⟨zu41⟩,⟨zu1⟩⟩
  ·rw [if_neg c3] at H
   have c3b0:decide ((wrap64 ((l0.length:Int) - 1))<1)=false:=decide_eq_false c3
   clear c3
   (first|rw [c3b0] | (simp only [i64_w,i32_w];rw [c3b0])|skip)
   by_cases c4:0<(l0.length:Int)
   ·rw [if_pos c4] at H
    have c4b0:decide (0<(l0.length:Int))=true:=decide_eq_true c4
    have c4b1:decide (0<l0.length)=true:=decide_eq_true zu4
    clear c4
    replace H:=Option.bind_eq_some_iff.mp H
    obtain ⟨t177,A50,H⟩:=H
    try dsimp only at H
    have A5:=Aside0.mk A50
    clear A50
    by_cases c6:t177=true
    ·subst c6
     rw [if_pos rfl] at H
     obtain ⟨ji7,hji7⟩:∃ j_:Int,(wrap64 ((l0.length:Int) - 1))=j_:=⟨_,rfl⟩
     replace H:(if 0≤(ji7) then (if (ji7)<(l0.length:Int) then ((context_plain.f ((rd_T30 l0 (ji7)).f0) ((rd_T30 l0 (ji7)).f1) ((rd_T30 l0 (ji7)).f2) ((rd_T30 l0 (ji7)).f3) ((rd_T30 l0 (ji7)).f4) 2 (⟨#[116,101,120,116,97,114,101,97]⟩:ByteArray) 0).bind fun t179=>(context_within.j0 k l0 ji7 (!t179))) else (none)) else (none))=some (r1,r2):=by first | (rw [hji7] at H;exact H) | (simp only [hji7] at H ⊢;exact H)
     (try rw [hji7] at c3b0)
     (try rw [hji7] at A5)
     have hji7w:(IntKind.i64.wrap ((l0.length:Int) - 1))=ji7:=(i64_w _).trans hji7
     by_cases c8:0≤(ji7)
     ·rw [if_pos c8] at H
      have c8b0:decide (0≤(ji7))=true:=decide_eq_true c8
      clear c8
      by_cases c9:(ji7)<(l0.length:Int)
      ·rw [if_pos c9] at H
       have c9b0:decide ((ji7)<(l0.length:Int))=true:=decide_eq_true c9
       clear c9
       replace H:=Option.bind_eq_some_iff.mp H
       obtain ⟨t179,A100,H⟩:=H
       try dsimp only at H
       have A10:=Aside0.mk A100
       clear A100
       have H':=Aside0.mk H
       clear H
       have p176:0≤(0:Int):=zu4
       have q176:0<(l0.length:Int):=of_decide_eq_true zu17
       obtain ⟨ad176,A176_3,c176_3,e176,hx176_0,hx176_1,hx176_2,hx176_3,hx176_4,hl176_3,hi176_3⟩:=at_T30 HR0.out 0 p176 q176
       cases e176
       have qi176:(0<l0.length)=True:=eq_true zu4
       (try rw [show ((0:Int)).toNat=0 from rfl] at hx176_0)
       (try rw [show 0*5=0 from rfl] at hx176_0)
       (try rw [Addr.add_zero'] at hx176_0)
       (try rw [show ((0:Int)).toNat=0 from rfl] at hx176_1)
       (try rw [show 0*5=0 from rfl] at hx176_1)
       (try rw [Addr.add_zero'] at hx176_1)
       (try rw [show ((0:Int)).toNat=0 from rfl] at hx176_2)
       (try rw [show 0*5=0 from rfl] at hx176_2)
       (try rw [Addr.add_zero'] at hx176_2)
       (try rw [show ((0:Int)).toNat=0 from rfl] at hx176_3)
       (try rw [show 0*5=0 from rfl] at hx176_3)
       (try rw [Addr.add_zero'] at hx176_3)
       (try rw [show ((0:Int)).toNat=0 from rfl] at hx176_4)
       (try rw [show 0*5=0 from rfl] at hx176_4)
       (try rw [Addr.add_zero'] at hx176_4)
       replace hx176_0:=(HB.out.cell (World.block_lt_of_cell? w _ hx176_0)).trans hx176_0
       replace hx176_1:=(HB.out.cell (World.block_lt_of_cell? w _ hx176_1)).trans hx176_1
       replace hx176_2:=(HB.out.cell (World.block_lt_of_cell? w _ hx176_2)).trans hx176_2
       replace hx176_3:=(HB.out.cell (World.block_lt_of_cell? w _ hx176_3)).trans hx176_3
       replace hx176_4:=(HB.out.cell (World.block_lt_of_cell? w _ hx176_4)).trans hx176_4
       have HR176_3:=Aside0.mk hi176_3
       have HC176_3:=Aside0.mk hl176_3
       clear hi176_3 hl176_3
       replace p176:=eq_true p176
       replace q176:=eq_true q176
       go_wp2_with (first | (go_at_call 85;(with_reducible refine (context_plain.calls ((rd_T30 l0 0).f0) ((rd_T30 l0 0).f1) ((rd_T30 l0 0).f2) _ _ ((rd_T30 l0 0).f3) ((rd_T30 l0 0).f4) 1 (⟨#[116,101,120,116,97,114,101,97]⟩:ByteArray) 0 true _ ?side1 ?side2 A5.out).mono ?_);(case side1=>repeat (first|exact (Kd.C_below HR176_3.out HB.out) | (with_reducible refine Kd.C_alloc ?_ _) | (with_reducible refine Kd.C_drewN ?_ _) | (with_reducible refine Kd.C_drew ?_)));(case side2=>exact HC176_3.out);rintro e w11 ⟨rfl,hb⟩;have n0_:=Aside0.mk (below_step zu1 hb);clear HB;have HB:=n0_;clear n0_;(try clear hb);(try clear hb2);(try clear hk);(try clear hi);have p178:0≤((ji7):Int):=of_decide_eq_true zu17;have q178:(ji7)<(l0.length:Int):=of_decide_eq_true zu17;obtain ⟨ad178,A178_3,c178_3,e178,hx178_0,hx178_1,hx178_2,hx178_3,hx178_4,hl178_3,hi178_3⟩:=at_T30 HR0.out (ji7) p178 q178;obtain rfl:ad176=ad178:=(by injection e178);replace hx178_0:=(HB.out.cell (World.block_lt_of_cell? w _ hx178_0)).trans hx178_0;replace hx178_1:=(HB.out.cell (World.block_lt_of_cell? w _ hx178_1)).trans hx178_1;replace hx178_2:=(HB.out.cell (World.block_lt_of_cell? w _ hx178_2)).trans hx178_2;replace hx178_3:=(HB.out.cell (World.block_lt_of_cell? w _ hx178_3)).trans hx178_3;replace hx178_4:=(HB.out.cell (World.block_lt_of_cell? w _ hx178_4)).trans hx178_4;have HR178_3:=Aside0.mk hi178_3;have HC178_3:=Aside0.mk hl178_3;clear hi178_3 hl178_3;replace p178:=eq_true p178;replace q178:=eq_true q178) | (go_at_call 85;(with_reducible refine (context_plain.calls ((rd_T30 l0 (ji7)).f0) ((rd_T30 l0 (ji7)).f1) ((rd_T30 l0 (ji7)).f2) _ _ ((rd_T30 l0 (ji7)).f3) ((rd_T30 l0 (ji7)).f4) 2 (⟨#[116,101,120,116,97,114,101,97]⟩:ByteArray) 0 t179 _ ?side1 ?side2 A10.out).mono ?_);(case side1=>repeat (first|exact (Kd.C_below HR178_3.out HB.out) | (with_reducible refine Kd.C_alloc ?_ _) | (with_reducible refine Kd.C_drewN ?_ _) | (with_reducible refine Kd.C_drew ?_)));(case side2=>exact HC178_3.out);rintro e w12 ⟨rfl,hb⟩;have n0_:=Aside0.mk (below_step zu1 hb);clear HB;have HB:=n0_;clear n0_;(try clear hb);(try clear hb2);(try clear hk);(try clear hi)))
       subst hji7
       go_meet
       case rel=>exact ⟨_,(!t179),zu18,H',⟨zu41⟩,⟨zu1⟩⟩
      ·rw [if_neg c9] at H
       exact absurd H zu19
     ·rw [if_neg c8] at H
      exact absurd H zu19
    ·replace c6:=Bool.eq_false_iff.mpr c6
     subst c6
     rw [if_neg (show ¬ (false=true) by decide)] at H
     have H':=Aside0.mk H
     clear H
     have p176:0≤(0:Int):=zu4
     have q176:0<(l0.length:Int):=of_decide_eq_true zu17
     obtain ⟨ad176,A176_3,c176_3,e176,hx176_0,hx176_1,hx176_2,hx176_3,hx176_4,hl176_3,hi176_3⟩:=at_T30 HR0.out 0 p176 q176
     cases e176
     have qi176:(0<l0.length)=True:=eq_true zu4
     (try rw [show ((0:Int)).toNat=0 from rfl] at hx176_0)
     (try rw [show 0*5=0 from rfl] at hx176_0)
     (try rw [Addr.add_zero'] at hx176_0)
     (try rw [show ((0:Int)).toNat=0 from rfl] at hx176_1)
     (try rw [show 0*5=0 from rfl] at hx176_1)
     (try rw [Addr.add_zero'] at hx176_1)
     (try rw [show ((0:Int)).toNat=0 from rfl] at hx176_2)
     (try rw [show 0*5=0 from rfl] at hx176_2)
     (try rw [Addr.add_zero'] at hx176_2)
     (try rw [show ((0:Int)).toNat=0 from rfl] at hx176_3)
     (try rw [show 0*5=0 from rfl] at hx176_3)
     (try rw [Addr.add_zero'] at hx176_3)
     (try rw [show ((0:Int)).toNat=0 from rfl] at hx176_4)
     (try rw [show 0*5=0 from rfl] at hx176_4)
     (try rw [Addr.add_zero'] at hx176_4)
     replace hx176_0:=(HB.out.cell (World.block_lt_of_cell? w _ hx176_0)).trans hx176_0
     replace hx176_1:=(HB.out.cell (World.block_lt_of_cell? w _ hx176_1)).trans hx176_1
     replace hx176_2:=(HB.out.cell (World.block_lt_of_cell? w _ hx176_2)).trans hx176_2
     replace hx176_3:=(HB.out.cell (World.block_lt_of_cell? w _ hx176_3)).trans hx176_3
     replace hx176_4:=(HB.out.cell (World.block_lt_of_cell? w _ hx176_4)).trans hx176_4
     have HR176_3:=Aside0.mk hi176_3
     have HC176_3:=Aside0.mk hl176_3
     clear hi176_3 hl176_3
     replace p176:=eq_true p176
     replace q176:=eq_true q176
     go_wp2_with (first | (go_at_call 85;(with_reducible refine (context_plain.calls ((rd_T30 l0 0).f0) ((rd_T30 l0 0).f1) ((rd_T30 l0 0).f2) _ _ ((rd_T30 l0 0).f3) ((rd_T30 l0 0).f4) 1 (⟨#[116,101,120,116,97,114,101,97]⟩:ByteArray) 0 false _ ?side1 ?side2 A5.out).mono ?_);(case side1=>repeat (first|exact (Kd.C_below HR176_3.out HB.out) | (with_reducible refine Kd.C_alloc ?_ _) | (with_reducible refine Kd.C_drewN ?_ _) | (with_reducible refine Kd.C_drew ?_)));(case side2=>exact HC176_3.out);rintro e w13 ⟨rfl,hb⟩;have n0_:=Aside0.mk (below_step zu1 hb);clear HB;have HB:=n0_;clear n0_;(try clear hb);(try clear hb2);(try clear hk);(try clear hi)))
     go_meet
     case rel=>exact ⟨_,(true),zu18,H',⟨zu41⟩,⟨zu1⟩⟩
   ·rw [if_neg c4] at H
    exact absurd H zu19
 case rest =>
  clear HC2
  try clear c1
  try clear p1
  try clear q1
  try clear hx1
  try clear qi1
  try clear p2
  try clear c3
  try clear c3b0
  try clear c4
  try clear c4b0
  try clear c4b1
  try clear c5
  try clear c6
  try clear p6
  try clear c8
  try clear c8b0
  try clear c9
  try clear c9b0
  try clear hx176_0
  try clear hx176_1
  try clear hx176_2
  try clear hx176_3
  try clear hx176_4
  try clear hx178_0
  try clear hx178_1
  try clear hx178_2
  try clear hx178_3
  try clear hx178_4
  try clear p176
  try clear p178
  try clear q176
  try clear q178
  obtain ⟨kq,x24_1,rfl,HA,HJ1,HB⟩:=hcut
  cases kq with
  | zero=>exact absurd HA.out (by simp [context_within.j0])
  | succ kj1 =>
    have H:=HA.out
    clear HA
    simp only [context_within.j0] at H
    by_cases c14:x24_1=true
    ·subst c14
     rw [if_pos rfl] at H
     simp only [Option.some.injEq,Prod.mk.injEq] at H
     obtain ⟨rfl,rfl⟩:=H
     go_wp2
     go_ret2
     exact zu5
    ·replace c14:=Bool.eq_false_iff.mpr c14
     subst c14
     rw [if_neg (show ¬ (false=true) by decide)] at H
     by_cases c15:1≤(wrap64 ((l0.length:Int) - 1))
     ·rw [if_pos c15] at H
      have c15b0:=eq_true c15
      have c15b1:decide (1≤(wrap64 ((l0.length:Int) - 1)))=true:=decide_eq_true c15
      clear c15
      by_cases c16:(wrap64 ((l0.length:Int) - 1))≤(l0.length:Int)
      ·rw [if_pos c16] at H
       have c16b0:=eq_true c16
       have c16b1:decide ((wrap64 ((l0.length:Int) - 1))≤(l0.length:Int))=true:=decide_eq_true c16
       clear c16
       obtain ⟨y180,hy180⟩:∃ y_:List (S30),y_=((l0.take ((wrap64 ((l0.length:Int) - 1)):Int).toNat).drop 1):=⟨_,rfl⟩
       replace H:((context_only.f y180).bind fun bt184=>((strings_TrimPrefix.f bt184.1 (⟨#[10]⟩:ByteArray)).bind fun t186=>(some (t186,bt184.2))))=some (r1,r2):=by first | (rw [hy180];with_reducible exact H) | (have H2_:=(Option.bind_some _ _).symm.trans H;rw [hy180];with_reducible exact H2_) | (have H2_:=(Option.bind_some _ _).symm.trans H;with_reducible exact H2_)|with_reducible exact H | (rw [hy180];exact H)|exact H
       have Ny180:=Aside0.mk hy180
       clear hy180
       replace H:=Option.bind_eq_some_iff.mp H
       obtain ⟨⟨t184,t185⟩,A170,H⟩:=H
       try dsimp only at H
       have A17:=Aside0.mk A170
       clear A170
       replace H:=Option.bind_eq_some_iff.mp H
       obtain ⟨t186,A180,H⟩:=H
       try dsimp only at H
       have A18:=Aside0.mk A180
       clear A180
       simp only [Option.some.injEq,Prod.mk.injEq] at H
       obtain ⟨rfl,rfl⟩:=H
       have q19:((wrap64 ((l0.length:Int) - 1)):Int)≤((l0.length:Int):Int):=of_decide_eq_true zu17
       obtain ⟨i019,hi019,_,hsz19,_⟩:=info_parts info30
       have hroom19:l0.length≤c0:=HC0.out
       have hC19:Kd.C k30 _ A0 l0.length l0:=HR0.out
       have ql19:(1:Int)≤((wrap64 ((l0.length:Int) - 1)):Int):=of_decide_eq_true zu17
       have hcut19:=cut_mid (P:=Tryz.prog) 25 30 .i64 .i64 Tryz.underlying25 hi019 5 hsz19 A0 l0.length c0 1 (wrap64 ((l0.length:Int) - 1)) zu4 ql19 q19 hroom19
       have hr19:=Kd.C_mid (lo:=(1:Int).toNat) (hi:=((wrap64 ((l0.length:Int) - 1)):Int).toNat) (c:=c0) hC19 zu4 zu4 hroom19
       obtain ⟨A19,hA19⟩:∃ A1,A1=(if c0=(1:Int).toNat then A0 else (A0:Option Addr).map (·.add ((1:Int).toNat*5))):=⟨_,rfl⟩
       obtain ⟨c19,hc19⟩:∃ c1,c1=c0 - (1:Int).toNat:=⟨_,rfl⟩
       have hy19:y180.length=((wrap64 ((l0.length:Int) - 1)):Int).toNat - (1:Int).toNat:=(by rw [Ny180.out,List.length_drop,List.length_take]<;>omega)
       rw [show ((l0).take ((wrap64 ((l0.length:Int) - 1)):Int).toNat).drop (1:Int).toNat=y180 from Ny180.out.symm] at hr19
       replace hr19:Kd.C k30 _ A19 y180.length y180:=(by rw [hA19];exact hr19)
       rw [← hy19,← hA19,← hc19] at hcut19
       have HR183:=Aside0.mk hr19
       have HC183:=Aside0.mk (show y180.length≤c19 from by rw [hy19,hc19];exact Nat.sub_le_sub_right (Nat.le_trans zu4 hroom19) _)
       clear hr19 hC19 hroom19 hi019 hsz19 hc19
       have KY19:=Aside0.mk hy19
       have KA19:=Aside0.mk hA19
       clear hy19 hA19
       replace q19:=eq_true q19
       go_wp2_with (first | ((with_reducible refine gate_callee (f:=49) rfl ?_);refine goesL_ (some 29) rfl rfl Tryz.func49 zu13 rfl #[.slice A19 y180.length c19] rfl zu2 ?_;(with_reducible refine (context_only.calls _ _ y180 t184 t185 _ ?side1 ?side2 A17.out).mono ?_);(case side1=>repeat (first|exact (Kd.C_below HR183.out HB.out) | (with_reducible refine Kd.C_alloc ?_ _) | (with_reducible refine Kd.C_drewN ?_ _) | (with_reducible refine Kd.C_drew ?_)));(case side2=>exact HC183.out);rintro e w' ⟨rfl,⟨nd,rfl⟩⟩;refine ⟨_,rfl,?_⟩) | ((with_reducible refine gate_callee (f:=41) rfl ?_);refine goesL_ (some 33) rfl rfl Tryz.func41 zu13 rfl #[.string t184,.string (⟨#[10]⟩:ByteArray)] rfl zu2 ?_;(with_reducible refine (strings_TrimPrefix.calls t184 (⟨#[10]⟩:ByteArray) t186 _ A18.out).mono ?_);rintro e w' ⟨rfl,⟨nd,rfl⟩⟩;refine ⟨_,rfl,?_⟩))
       go_ret2
       exact zu5
      ·rw [if_neg c16] at H
       exact absurd H zu19
     ·rw [if_neg c15] at H
      exact absurd H zu19
end St
end

section
namespace Hand
open Go Go.RowKit Pl Pb
theorem upto_stop {c:UInt8} {s r:List UInt8} (h:c∉s):upto c (s++c::r)=s:=by
 induction s with
 | nil=>rw [List.nil_append,upto_cons,if_pos rfl]
 | cons d t ih =>
   rw [List.mem_cons,not_or] at h
   rw [List.cons_append,upto_cons,if_neg (fun e=>h.1 e.symm),ih h.2]
theorem quoted_L {q:UInt8} (hq:q=34∨q=39) {s r:List UInt8} (hs:q∉s):attrL [] (120::61::q::(s++q::r))=attrL [([120],cleanL (rdL true s))] r:=by
 have hq2:isSp q=false:=by rcases hq with rfl|rfl<;>rfl
 have e1:spL (120::61::q::(s++q::r))=120::61::q::(s++q::r):=rfl
 have e2:(61::q::(s++q::r)).dropWhile nmC=61::q::(s++q::r):=rfl
 have e2':(61::q::(s++q::r)).takeWhile nmC=[]:=rfl
 have e3:spL (q::(s++q::r))=q::(s++q::r):=by unfold spL;rw [List.dropWhile_cons,hq2];rfl
 have e4:valA (61::q::(s++q::r))=some (s,r):=by
  unfold valA
  rw [show spL (61::q::(s++q::r))=61::q::(s++q::r) from rfl]
  simp only [e3]
  rw [if_pos hq,if_pos zu19,upto_stop hs]
  unfold past
  rw [upto_stop hs]
  congr 2
  rw [show s++q::r=(s++[q])++r by simp,show s.length+1=(s++[q]).length by simp]
  exact List.drop_left
 rw [attrL_eq,e1]
 simp only [e2,e2',e4]
 rw [if_neg zu15,if_neg zu15]
 congr 1
end Hand
end

section
namespace Hand
open Go Go.RowKit Pl Pb Go.Proofs.YtclkdmmgibgamaaGreatDoor.Pure
def qB (single:Bool):UInt8:=if single=true then 39 else 34
def areaO:List UInt8:=[60,116,101,120,116,97,114,101,97,62]
def areaC:List UInt8:=[60,47,116,101,120,116,97,114,101,97,62]
def attrO (single:Bool):List UInt8:=[60,97,32,120,61,qB single]
def wrapL (dest:Int) (single:Bool) (s:List UInt8):List UInt8 :=
 if dest=0 then s else if dest=1 then attrO single++(s++[qB single,62]) else if dest=2 then areaO++(s++areaC) else []
def onlyL:List Tk→List UInt8×Bool
 | []=>([],true)
 | [.text s]=>(s,true)
 | _=>([],false)
def valueL:List Tk→List UInt8×Bool
 | [.start n [a] false]=>if n=[97]∧a.1=[120] then (a.2,true) else ([],false)
 | _=>([],false)
def trimN:List UInt8→List UInt8
 | []=>[]
 | c::r=>if c=10 then r else c::r
def isAreaO:Option Tk→Bool
 | some (.start n [] false)=>n == areaW
 | _=>false
def isAreaC:Option Tk→Bool
 | some (.fin n)=>n == areaW
 | _=>false
def withinL (l:List Tk):List UInt8×Bool :=
 if 2≤l.length∧isAreaO l.head? = true∧isAreaC l.getLast? = true then (trimN (onlyL l.tail.dropLast).1,(onlyL l.tail.dropLast).2) else ([],false)
noncomputable def parseL (dest:Int) (single:Bool) (s:List UInt8):List UInt8×Bool :=
 if dest=0 then onlyL (driveL (normL (wrapL dest single s)))
 else if dest=1 then valueL (driveL (normL (wrapL dest single s)))
 else if dest=2 then withinL (driveL (normL (wrapL dest single s))) else ([],false)
theorem normL_pre {p:List UInt8} (r:List UInt8) (h:(13:UInt8)∉p):normL (p++r)=p++normL r:=by
 induction p with
 | nil=>rfl
 | cons c p ih =>
   rw [List.mem_cons,not_or] at h
   rw [List.cons_append,normL_ne (fun e=>h.1 e.symm),ih h.2,List.cons_append]
theorem normL_suf {q:List UInt8} (h10:q.head? ≠ some 10) (h13:(13:UInt8)∉q):∀ n (s:List UInt8),s.length≤n→normL (s++q)=normL s++q:=by
 intro n
 induction n with
 | zero=>intro s h;obtain rfl:=List.eq_nil_of_length_eq_zero (Nat.le_zero.1 h);exact normL_of_no13 h13
 | succ n ih =>
   intro s h
   cases s with
   | nil=>exact normL_of_no13 h13
   | cons c r =>
     simp only [List.length_cons] at h
     by_cases hc:c=13
     ·subst hc
      cases r with
      | nil =>
        rw [normL_13_end]
        cases q with
        | nil=>rfl
        | cons d q' =>
          have hd:d≠10:=by rintro rfl;exact h10 rfl
          show normL (13::d::q')=_
          rw [normL_13_ne hd,normL_of_no13 h13];rfl
      | cons d r' =>
        simp only [List.length_cons] at h
        by_cases hd:d=10
        ·subst hd
         show normL (13::10::(r'++q))=_
         rw [normL_13_10,normL_13_10,ih r' zu4];rfl
        ·show normL (13::d::(r'++q))=_
         rw [normL_13_ne hd,normL_13_ne hd]
         have:=ih (d::r') zu25
         rw [List.cons_append] at this
         rw [this];rfl
     ·rw [List.cons_append,normL_ne hc,normL_ne hc,ih r zu4];rfl
theorem norm_wrap (dest:Int) (single:Bool) (s:List UInt8):normL (wrapL dest single s)=wrapL dest single (normL s):=by
 unfold wrapL
 split
 ·rfl
 ·split
  ·rw [normL_pre _ (by cases single<;>decide),normL_suf (by cases single<;>decide) (by cases single<;>decide) _ _ (Nat.le_refl _)]
  ·split
   ·rw [normL_pre _ zu15,normL_suf zu15 zu15 _ _ (Nat.le_refl _)]
   ·rfl
theorem txN_app {s:List UInt8} (r:List UInt8) (h:(60:UInt8)∉s):txN (s++r)=s.length+txN r:=by
 have:=txN_skip s.length (s++r) zu19 (fun j hj=>by
  rw [List.getElem?_append_left hj];intro e;exact h (List.mem_of_getElem? e))
 rwa [List.drop_left] at this
theorem tokL_txt {s r:List UInt8} (hs:s≠[]) (h:(60:UInt8)∉s):tokL (s++r)=(some (.text (rdL false (s++r.take (txN r)))),r.drop (txN r)):=by
 obtain ⟨c,t,rfl⟩:∃ c t,s=c::t:=by cases s with|nil=>exact absurd rfl hs|cons c t=>exact ⟨c,t,rfl⟩
 have hc:c≠60:=fun e=>h (by simp [e])
 have hb:begM (c::t++r)=false:=begM_no _ hc
 have hn:txN (c::t++r)=(c::t).length+txN r:=txN_app r h
 unfold begM at hb
 simp only [Bool.or_eq_false_iff] at hb
 obtain ⟨⟨⟨h1,h2⟩,h3⟩,h4⟩:=hb
 unfold tokL
 rw [if_neg (by simpa using h1),if_neg (by rw [h2];decide),if_neg (by rw [h3];decide),if_neg (by rw [h4];decide),if_neg (by rw [hn];simp),hn]
 rw [List.take_length_add_append,List.drop_length_add_append]
theorem tokL_text {s r:List UInt8} (hs:s≠[]) (h:(60:UInt8)∉s) (hr:txN r=0):tokL (s++r)=(some (.text (rdL false s)),r):=by
 rw [tokL_txt hs h,hr];simp
theorem drvL_text {s r:List UInt8} (hs:s≠[]) (h:(60:UInt8)∉s) (hr:txN r=0):drvL (s++r) = .text (rdL false s)::drvL r:=by
 rw [drvL_eq (by simp [hs]),tokL_text hs h hr];rfl
end Hand
end

section
namespace Pure
open Go Go.RowKit K0 Hand Sa Si St YtclkdmmgibgamaaGreatDoorW.PrintWords YtclkdmmgibgamaaGreatDoorW.PrintMore Pl Pb
theorem only_f (l:List Tk):context_only.f (l.map ofK)=some (B (onlyL l).1,(onlyL l).2):=by
 match l with
 | []=>rfl
 | [t] =>
   unfold context_only.f
   rw [if_neg zu19,if_pos zu19,if_pos zu19,show rd_T30 ([t].map ofK) 0=ofK t from rd_map (l:=[t]) (i:=0) zu19]
   cases t<;>rfl
 | t::u::r =>
   unfold context_only.f
   rw [if_neg zu25,if_neg zu25]
   cases t<;>rfl
theorem B_eq_iff (x y:List UInt8):(B x).toList=(B y).toList↔x=y:=by rw [toList_data,toList_data,B_data,B_data]
theorem plain_start (k:Int) (n x:List UInt8) (al:List AttrT) (self:Bool) (k2:Int) (n2:List UInt8) (m:Int) :
  context_plain.f k (B n) (B x) (al.map ofT) self k2 (B n2) m=some (decide (k=k2)&&decide (n=n2)&&decide ((al.length:Int)=m) && !self):=by
 unfold context_plain.f
 by_cases h1:k=k2
 ·rw [if_pos h1,decide_eq_true h1]
  by_cases h2:n=n2
  ·rw [if_pos ((B_eq_iff n n2).2 h2),decide_eq_true h2,List.length_map]
   by_cases h3:(al.length:Int)=m
   ·rw [if_pos h3,decide_eq_true h3];rfl
   ·rw [if_neg h3,decide_eq_false h3];rfl
  ·rw [if_neg (fun e=>h2 ((B_eq_iff n n2).1 e)),decide_eq_false h2];rfl
 ·rw [if_neg h1,decide_eq_false h1];rfl
theorem plain_tk (t:Tk) (k2:Int) (n2:List UInt8) (m:Int):context_plain.f (ofK t).f0 (ofK t).f1 (ofK t).f2 (ofK t).f3 (ofK t).f4 k2 (B n2) m =
 some (decide ((tkC t).1=k2)&&decide ((tkC t).2.1=n2)&&decide (((tkC t).2.2.2.1.length:Int)=m) && !(tkC t).2.2.2.2):=plain_start _ _ _ _ _ _ _ _
theorem value_f (l:List Tk):context_value.f (l.map ofK)=some (B (valueL l).1,(valueL l).2):=by
 have bad:∀ l:List Tk,valueL l=([],false)→some ((⟨#[]⟩:ByteArray),false)=some (B (valueL l).1,(valueL l).2):=fun l h=>by rw [h];rfl
 by_cases h1:l.length=1
 ·obtain ⟨t,rfl⟩:=List.length_eq_one_iff.1 h1
  unfold context_value.f
  rw [if_pos zu19,if_pos zu19,show rd_T30 ([t].map ofK) 0=ofK t from rd_map (l:=[t]) (i:=0) zu19]
  rw [show (⟨#[97]⟩:ByteArray)=B [97] from rfl,plain_tk,Option.bind_some]
  cases t with
  | start n al self =>
    match al with
    | []=>rw [if_neg (by simp [tkC])];exact bad _ rfl
    | a::b::r=>rw [if_neg (by show ¬ ((decide ((1:Int)=1)&&decide (n=[97])&&decide ((((a::b::r).length:Nat):Int)=1) && !self)=true);rw [decide_eq_false (show ¬ ((((a::b::r).length:Nat):Int)=1) by simp only [List.length_cons];omega)];simp)];exact bad _ rfl
    | [a] =>
      obtain ⟨an,av⟩:=a
      cases self with
      | true=>rw [if_neg (by simp [tkC])];exact bad _ rfl
      | false =>
        by_cases hn:n=[97]
        ·subst hn
         rw [if_pos (by simp [tkC]),if_pos (by simp [ofK,tkC])]
         have hT:(rd_T105 (ofK (Tk.start [97] [(an,av)] false)).f3 0).f0.toList=an:=by show (B an).toList=an;rw [toList_data,B_data]
         rw [hT]
         by_cases ha:an=[120]
         ·subst ha
          rw [if_pos rfl];rfl
         ·rw [if_neg ha]
          refine bad _ ?_
          simp only [valueL,if_neg (fun e:_∧an=[120]=>ha e.2)]
        ·rw [if_neg (by simp [tkC,hn])]
         refine bad _ ?_
         simp only [valueL,if_neg (fun e:n=[97]∧_=>hn e.1)]
  | text s=>rw [if_neg (by simp [tkC])];exact bad _ rfl
  | fin n=>rw [if_neg (by simp [tkC])];exact bad _ rfl
  | comment s=>rw [if_neg (by simp [tkC])];exact bad _ rfl
  | doctype s=>rw [if_neg (by simp [tkC])];exact bad _ rfl
 ·unfold context_value.f
  rw [if_neg zu45]
  refine bad _ ?_
  match l,h1 with
  | [],_=>rfl
  | [t],h1=>exact absurd rfl h1
  | t::u::r,_ =>
    cases t with
    | start n al self =>
      unfold valueL
      split
      ·rename_i h;simp at h
      ·rfl
    | _=>rfl
theorem trim_f (x:List UInt8):strings_TrimPrefix.f (B x) ⟨#[10]⟩=some (B (trimN x)):=by
 unfold strings_TrimPrefix.f stringslite_TrimPrefix.f stringslite_HasPrefix.f
 have h1:((⟨#[10]⟩:ByteArray).size:Int)=1:=rfl
 rw [h1,size_B]
 cases x with
 | nil=>rfl
 | cons c r =>
   have e:(B (c::r)).extract 0 (1:Int).toNat=B [c]:=by show (B (c::r)).extract 0 1=_;rw [B_extract];simp
   have e2:(B (c::r)).extract (1:Int).toNat (c::r).length=B r:=by show (B (c::r)).extract 1 _=_;rw [B_extract];simp
   rw [if_pos zv4,if_pos zu15,if_pos zv4,Option.bind_some,e,e2,show (⟨#[10]⟩:ByteArray)=B [10] from rfl]
   have hb:((B [c]).toList == (B [10]).toList)=(c == 10):=by
    rw [Bool.eq_iff_iff,beq_iff_eq,beq_iff_eq,B_eq_iff];simp
   rw [hb]
   by_cases hc:c=10
   ·subst hc;rw [if_pos zu15,if_pos zu15,if_pos zv4];rfl
   ·rw [if_neg (by simpa using hc),Option.bind_some]
    simp only [trimN,if_neg hc]
theorem isAreaO_eq (t:Tk):(decide ((tkC t).1=1)&&decide ((tkC t).2.1=areaW)&&decide (((tkC t).2.2.2.1.length:Int)=0) && !(tkC t).2.2.2.2)=isAreaO (some t):=by
 cases t with
 | start n al self =>
   cases al with
   | nil =>
     cases self with
     | true=>simp [tkC,isAreaO]
     | false=>show (decide ((1:Int)=1)&&decide (n=areaW)&&decide (((([]:List AttrT).length:Nat):Int)=0) && !false)=(n == areaW);rw [Bool.eq_iff_iff];simp
   | cons a r =>
     show (decide ((1:Int)=1)&&decide (n=areaW)&&decide ((((a::r).length:Nat):Int)=0) && !self)=false
     rw [decide_eq_false (show ¬ ((((a::r).length:Nat):Int)=0) by simp only [List.length_cons];omega)];simp
 | _=>simp [tkC,isAreaO]
theorem isAreaC_eq (t:Tk):(decide ((tkC t).1=2)&&decide ((tkC t).2.1=areaW)&&decide (((tkC t).2.2.2.1.length:Int)=0) && !(tkC t).2.2.2.2)=isAreaC (some t):=by
 cases t with
 | fin n=>show (decide ((2:Int)=2)&&decide (n=areaW)&&decide (((([]:List AttrT).length:Nat):Int)=0) && !false)=(n == areaW);rw [Bool.eq_iff_iff];simp
 | _=>simp [tkC,isAreaC]
theorem mid_eq (l:List Tk) (n:Nat) (h:l.length=n+1):(l.take n).drop 1=l.tail.dropLast:=by
 cases l with
 | nil=>simp at h
 | cons t r =>
   rw [List.length_cons,Nat.add_right_cancel_iff] at h
   cases n with
   | zero=>rw [List.length_eq_zero_iff] at h;subst h;rfl
   | succ m =>
     show r.take m=r.dropLast
     rw [List.dropLast_eq_take,h];rfl
theorem within_ev (l:List Tk) (hl:l.length≤1000000):Ev (fun k=>context_within.f k (l.map ofK)) (B (withinL l).1,(withinL l).2):=by
 have hw:wrap64 (((l.map ofK).length:Int) - 1)=(l.length:Int) - 1:=by rw [List.length_map];unfold wrap64;omega
 have bad:∀ j:Int,withinL l=([],false)→Ev (fun k=>context_within.j0 k (l.map ofK) j true) (B (withinL l).1,(withinL l).2):=fun j h=>by
  rw [h]
  exact Ev.step (f:=fun _=>some (⟨#[]⟩,false)) (fun k=>by rw [context_within.j0,if_pos rfl]) (Ev.now _)
 unfold context_within.f
 simp only [hw]
 by_cases h2:2≤l.length
 ·obtain ⟨n,hn⟩:∃ n,l.length=n+1:=⟨l.length - 1,zu4⟩
  have e1:(l.length:Int) - 1=(n:Int):=by omega
  have hlen:((l.map ofK).length:Int)=(l.length:Int):=by rw [List.length_map]
  have hh:l.head? = some l[0]:=by rw [List.head?_eq_getElem?,List.getElem?_eq_getElem zu4]
  have ht:l.getLast? = some l[n]:=by rw [List.getLast?_eq_getElem?,show l.length - 1=n by omega,List.getElem?_eq_getElem zu4]
  have n1:¬ (n:Int)<1:=by omega
  have q0:(0:Int)<((l.map ofK).length:Int):=by rw [hlen];omega
  have q1:(0:Int)≤(n:Int):=by omega
  have q2:(n:Int)<((l.map ofK).length:Int):=by rw [hlen];omega
  have r0:rd_T30 (l.map ofK) 0=ofK l[0]:=rd_map (i:=0) zu4
  have rn:rd_T30 (l.map ofK) (n:Int)=ofK l[n]:=rd_map zu4
  simp only [e1,if_neg n1,if_pos q0,if_pos q1,if_pos q2,r0,rn,show (⟨#[116,101,120,116,97,114,101,97]⟩:ByteArray)=B areaW from rfl,plain_tk,Option.bind_some,isAreaO_eq,isAreaC_eq]
  cases ho:isAreaO (some l[0]) with
  | false =>
    simp only [Bool.false_eq_true,if_false]
    refine bad _ ?_
    unfold withinL
    rw [hh,ho,if_neg zu19]
  | true =>
    simp only [if_true]
    cases hc:isAreaC (some l[n]) with
    | false =>
      refine bad _ ?_
      unfold withinL
      rw [ht,hc,if_neg zu19]
    | true =>
      have hwl:withinL l=(trimN (onlyL l.tail.dropLast).1,(onlyL l.tail.dropLast).2):=by
       unfold withinL
       rw [hh,ho,ht,hc,if_pos ⟨h2,rfl,rfl⟩]
      rw [hwl]
      refine Ev.step (f:=fun _=>some (B (trimN (onlyL l.tail.dropLast).1),(onlyL l.tail.dropLast).2)) (fun k => ?_) (Ev.now _)
      have hsl:(List.take ((n:Int)).toNat (l.map ofK)).drop 1=(l.tail.dropLast).map ofK:=by
       rw [Int.toNat_natCast,← List.map_take,← List.map_drop]
       rw [mid_eq l n hn]
      rw [context_within.j0,if_neg zu15,if_pos zu4,if_pos (by rw [hlen];omega),hsl,only_f,Option.bind_some,trim_f,Option.bind_some]
 ·have n1:(l.length:Int) - 1<1:=by omega
  simp only [if_pos n1]
  refine bad _ ?_
  unfold withinL
  rw [if_neg (fun e=>h2 e.1)]
end Pure
end

section
namespace Pl
def scanE:Bool→List UInt8→Bool
 | o,[] => !o
 | o,c::r=>if c=60∨c=62∨c=34∨c=39∨c=0∨c=13 then false else if c=38 then !o&&scanE true r else if c=59 then scanE false r else scanE o r
theorem scan_plain {o:Bool} {c:UInt8} {r:List UInt8} (h1:c≠60) (h2:c≠62) (h3:c≠34) (h4:c≠39) (h5:c≠0) (h6:c≠13) (h7:c≠38):scanE o (c::r)=scanE (if c=59 then false else o) r:=by
 rw [scanE,if_neg (by simp [h1,h2,h3,h4,h5,h6]),if_neg h7]
 by_cases h:c=59<;>simp [h]
theorem scan_esc:∀ n (s:List UInt8),s.length≤n→scanE false (escL s)=true:=by
 intro n
 induction n with
 | zero=>intro s h;obtain rfl:=List.eq_nil_of_length_eq_zero (Nat.le_zero.1 h);rfl
 | succ n ih =>
   intro s h
   cases s with
   | nil=>rfl
   | cons c r =>
     have hr:=ih r (by simp at h;omega)
     refine esc_cases c r (fun l=>scanE false l=true) ?_ ?_ ?_ ?_ ?_ ?_ ?_ ?_ ?_
     all_goals try (intro _;simp [wAmp,wLt,wGt,wQuot,wApos,wCr,wBad,scanE,hr];done)
     ·intro q _ e
      have hq:=ih q (by subst e;simp at h;omega)
      simp [wMark,scanE,hq]
     ·intro h38 h60 h62 h34 h39 h13 h0 _
      rw [scan_plain h60 h62 h34 h39 h0 h13 h38]
      simp [hr]
end Pl
end

section
namespace Pl
open Go
def rightK:Nat→List UInt8→Bool
 | _,[]=>true
 | k+1,_::r=>rightK k r
 | 0,c::r=>(firstU (c::r)).2&&rightK ((firstU (c::r)).1 - 1) r
def rightL (s:List UInt8):Bool:=rightK 0 s
theorem rightK_skip:∀ (k:Nat) (s:List UInt8),rightK k s=rightL (s.drop k):=by
 intro k
 induction k with
 | zero=>intro s;rfl
 | succ k ih =>
   intro s
   cases s with
   | nil=>rfl
   | cons c r=>exact ih r
theorem rightL_cons (c:UInt8) (r:List UInt8):rightL (c::r)=((firstU (c::r)).2&&rightL ((c::r).drop (firstU (c::r)).1)):=by
 unfold rightL
 rw [rightK,rightK_skip]
 have h:=(firstU_pos c r).1
 obtain ⟨n,hn⟩:∃ n,(firstU (c::r)).1=n+1:=⟨(firstU (c::r)).1 - 1,zu4⟩
 rw [hn]
 rfl
structure Kd (c lo hi n:Nat):Prop where
 one:(tailN c).2.2=n
 lo_:(tailN c).1=lo
 hi_:(tailN c).2.1=hi
theorem kd_of {c lo hi n:Nat} (h:tailN c=(lo,hi,n)):Kd c lo hi n:=⟨by rw [h],by rw [h],by rw [h]⟩
theorem tail_1 {c:Nat} (h:c<194∨244<c):Kd c 128 191 1:=kd_of (by unfold tailN;rw [if_neg zu4,if_neg zu4,if_neg zu4,if_neg zu4,if_neg zu4,if_neg zu4,if_neg zu4])
theorem tail_2 {c:Nat} (h:194≤c∧c≤223):Kd c 128 191 2:=kd_of (by unfold tailN;rw [if_pos h])
theorem tail_3 {c:Nat} (h:224≤c∧c≤239):∃ lo hi,Kd c lo hi 3∧128≤lo∧hi≤191∧(c=224→lo=160)∧(c=237→hi=159)∧(c≠224→lo=128)∧(c≠237→hi=191):=by
 by_cases h1:c=224
 ·exact ⟨160,191,kd_of (by subst h1;rfl),zu4⟩
 ·by_cases h2:c=237
  ·exact ⟨128,159,kd_of (by subst h2;rfl),zu4⟩
  ·exact ⟨128,191,kd_of (by unfold tailN;rw [if_neg zu4,if_neg h1,if_neg h2,if_pos zu4]),zu4⟩
theorem tail_4 {c:Nat} (h:240≤c∧c≤244):∃ lo hi,Kd c lo hi 4∧128≤lo∧hi≤191∧(c=240→lo=144)∧(c=244→hi=143)∧(c≠240→lo=128)∧(c≠244→hi=191):=by
 by_cases h1:c=240
 ·exact ⟨144,191,kd_of (by subst h1;rfl),zu4⟩
 ·by_cases h2:c=244
  ·exact ⟨128,143,kd_of (by subst h2;rfl),zu4⟩
  ·exact ⟨128,191,kd_of (by unfold tailN;rw [if_neg zu4,if_neg zu4,if_neg zu4,if_neg zu4,if_neg h1,if_neg h2,if_pos zu4]),zu4⟩
theorem first_bad1 {c:Nat} {d e f:Option Nat} (h:¬ c<128) (ht:(tailN c).2.2=1):firstN c d e f=(1,false):=by
 unfold firstN;rw [if_neg h,if_pos ht]
theorem contO_iff (o:Option Nat):contO o↔∃ x,o=some x∧128≤x∧x≤191:=by
 cases o with
 | none=>simp [contO]
 | some x=>simp [contO]
theorem inO_iff (lo hi:Nat) (o:Option Nat):inO lo hi o↔∃ x,o=some x∧lo≤x∧x≤hi:=by
 cases o with
 | none=>simp [inO]
 | some x=>simp [inO]
end Pl
end

section
namespace Pl
open Go
theorem firstN_in (c:Nat) (d e f:Option Nat) (h:(firstN c d e f).2=true) :
  (2≤(firstN c d e f).1→∃ x,d=some x∧x≤191)∧(3≤(firstN c d e f).1→∃ x,e=some x∧x≤191)∧(4≤(firstN c d e f).1→∃ x,f=some x∧x≤191):=by
 have ht:(tailN c).2.1≤191:=by
  by_cases h1:c<194∨244<c
  ·rw [(tail_1 h1).hi_];omega
  ·by_cases h2:c≤223
   ·rw [(tail_2 zu4).hi_];omega
   ·by_cases h3:c≤239
    ·obtain ⟨lo,hi,t,_,g,_⟩:=tail_3 (c:=c) zu4
     rw [t.hi_];exact g
    ·obtain ⟨lo,hi,t,_,g,_⟩:=tail_4 (c:=c) zu4
     rw [t.hi_];exact g
 have hd:inO (tailN c).1 (tailN c).2.1 d→∃ x,d=some x∧x≤191:=fun h=>by
  obtain ⟨x,h1,h2,h3⟩:=(inO_iff _ _ d).1 h
  exact ⟨x,h1,zu4⟩
 have hc:∀ o,contO o→∃ x,o=some x∧x≤191:=fun o h=>by
  obtain ⟨x,h1,h2,h3⟩:=(contO_iff o).1 h
  exact ⟨x,h1,zu4⟩
 revert h
 unfold firstN
 split
 ·simp
 ·split
  ·simp
  ·split
   ·simp
   ·rename_i h1
    have h1':=hd (Decidable.not_not.1 h1)
    split
    ·intro _;exact ⟨fun _=>h1',zu19,zu19⟩
    ·split
     ·simp
     ·rename_i h2
      have h2':=hc _ (Decidable.not_not.1 h2)
      split
      ·intro _;exact ⟨fun _=>h1',fun _=>h2',zu19⟩
      ·split
       ·rename_i h3
        intro _;exact ⟨fun _=>h1',fun _=>h2',fun _=>hc _ h3⟩
       ·simp
theorem firstU_in {c:UInt8} {r:List UInt8} (h:(firstU (c::r)).2=true) (j:Nat) (h1:1≤j) (h2:j<(firstU (c::r)).1):∃ x,(c::r)[j]? = some x∧x.toNat≤191:=by
 obtain ⟨g1,g2,g3⟩:=firstN_in _ _ _ _ h
 have h4:=(firstU_pos c r).2.2
 have key:∀ k,(∃ x,byteO r k=some x∧x≤191)→∃ x,(c::r)[k+1]? = some x∧x.toNat≤191:=by
  rintro k ⟨x,hx,hl⟩
  unfold byteO at hx
  rw [List.getElem?_cons_succ]
  cases hq:r[k]? with
  | none=>rw [hq] at hx;cases hx
  | some y=>rw [hq] at hx;cases hx;exact ⟨y,rfl,hl⟩
 have h2':j<(firstN c.toNat (byteO r 0) (byteO r 1) (byteO r 2)).1:=h2
 rcases (show j=1∨j=2∨j=3 by omega) with rfl|rfl|rfl
 ·exact key 0 (g1 zu4)
 ·exact key 1 (g2 zu4)
 ·exact key 2 (g3 zu4)
end Pl
end

section
namespace Pl
open Go
theorem firstN_cut {c:Nat} {d e f d' e' f':Option Nat} (h:(firstN c d e f).2=true) (hd:2≤(firstN c d e f).1→d'=d) (he:3≤(firstN c d e f).1→e'=e) (hf:4≤(firstN c d e f).1→f'=f):firstN c d' e' f'=firstN c d e f:=by
 revert h hd he hf
 unfold firstN
 by_cases h1:c<128
 ·rw [if_pos h1,if_pos h1];intros;rfl
 rw [if_neg h1,if_neg h1]
 by_cases h2:(tailN c).2.2=1
 ·rw [if_pos h2,if_pos h2];intros;rfl
 rw [if_neg h2,if_neg h2]
 by_cases h3:¬ inO (tailN c).1 (tailN c).2.1 d
 ·rw [if_pos h3];intro h;cases h
 rw [if_neg h3]
 by_cases h4:(tailN c).2.2=2
 ·rw [if_pos h4]
  intro _ hd _ _
  rw [hd zu19,if_neg h3,if_pos h4]
 rw [if_neg h4]
 by_cases h5:¬ contO e
 ·rw [if_pos h5];intro h;cases h
 rw [if_neg h5]
 by_cases h6:(tailN c).2.2=3
 ·rw [if_pos h6]
  intro _ hd he _
  rw [hd zu19,if_neg h3,if_neg h4,he zu19,if_neg h5,if_pos h6]
 rw [if_neg h6]
 by_cases h7:contO f
 ·rw [if_pos h7]
  intro _ hd he hf
  rw [hd zu19,if_neg h3,if_neg h4,he zu19,if_neg h5,if_neg h6,hf zu19,if_pos h7]
 ·rw [if_neg h7];intro h;cases h
def Sig (a:List UInt8):Prop:=a≠[]∧∀ Y,firstU (a++Y)=(a.length,true)
theorem byteO_take (r Y:List UInt8) (n k:Nat) (hk:k<n) (hn:n≤r.length):byteO (r.take n++Y) k=byteO r k:=by
 unfold byteO
 rw [List.getElem?_append_left (by rw [List.length_take];omega),List.getElem?_take_of_lt hk]
theorem sig_split {s:List UInt8} (h:rightL s=true) (hne:s≠[]):∃ a q,s=a++q∧Sig a∧rightL q=true:=by
 cases s with
 | nil=>exact absurd rfl hne
 | cons c r =>
   rw [rightL_cons,Bool.and_eq_true] at h
   obtain ⟨h1,h2⟩:=h
   obtain ⟨p1,p2,p3⟩:=firstU_pos c r
   obtain ⟨n,hn⟩:∃ n,(firstU (c::r)).1=n+1:=⟨(firstU (c::r)).1 - 1,zu4⟩
   rw [hn] at h2 p2 p3
   simp only [List.length_cons] at p2
   refine ⟨(c::r).take (n+1),(c::r).drop (n+1),(List.take_append_drop _ _).symm,⟨zu19,fun Y => ?_⟩,h2⟩
   rw [List.take_succ_cons,List.cons_append]
   show firstN c.toNat (byteO (r.take n++Y) 0) (byteO (r.take n++Y) 1) (byteO (r.take n++Y) 2)=_
   have hf:(firstN c.toNat (byteO r 0) (byteO r 1) (byteO r 2)).1=n+1:=hn
   rw [firstN_cut (d:=byteO r 0) (e:=byteO r 1) (f:=byteO r 2) h1 (fun h=>byteO_take _ _ _ _ zu4 zu4) (fun h=>byteO_take _ _ _ _ zu4 zu4) (fun h=>byteO_take _ _ _ _ zu4 zu4)]
   rw [List.length_cons,List.length_take,Nat.min_eq_left zu4,← hf]
   exact Prod.ext rfl h1
theorem right_app {a:List UInt8} (h:Sig a) (Y:List UInt8):rightL (a++Y)=rightL Y:=by
 obtain ⟨hne,h⟩:=h
 cases a with
 | nil=>exact absurd rfl hne
 | cons c r =>
   have:=h Y
   rw [List.cons_append] at this ⊢
   rw [rightL_cons,this]
   simp
theorem sig_ascii {c:UInt8} (h:c.toNat<128):Sig [c] :=
 ⟨zu19,fun Y=>by show firstN c.toNat _ _ _=_;unfold firstN;rw [if_pos h];rfl⟩
theorem right_ascii:∀ (w:List UInt8) (_:∀ c∈w,c.toNat<128) (Y:List UInt8),rightL (w++Y)=rightL Y:=by
 intro w
 induction w with
 | nil=>intro _ _;rfl
 | cons c w ih =>
   intro h Y
   rw [List.cons_append,← ih (fun x hx=>h x (by simp [hx])) Y]
   exact right_app (sig_ascii (h c zu19)) (w++Y)
theorem sig_bytes {a:List UInt8} (h:Sig a):(∃ c,a=[c]∧c.toNat<128)∨(∃ c q,a=c::q∧194≤c.toNat∧q≠[]∧q.length≤3∧∀ x∈q,128≤x.toNat∧x.toNat≤191):=by
 obtain ⟨hne,h⟩:=h
 cases a with
 | nil=>exact absurd rfl hne
 | cons c q =>
   have h1:=h []
   rw [List.append_nil] at h1
   by_cases hc:c.toNat<128
   ·left
    have:firstU (c::q)=(1,true):=by show firstN c.toNat _ _ _=_;unfold firstN;rw [if_pos hc]
    rw [this] at h1
    have:=(Prod.mk.inj h1).1
    simp only [List.length_cons] at this
    obtain rfl:=List.eq_nil_of_length_eq_zero (l:=q) zu4
    exact ⟨c,rfl,hc⟩
   ·right
    have h2:(firstU (c::q)).2=true:=by rw [h1]
    have h3:(firstU (c::q)).1=q.length+1:=by rw [h1];rfl
    have h4:=(firstU_pos c q).2.2
    have hc2:194≤c.toNat:=by
     rcases Nat.lt_or_ge c.toNat 194 with hlt|hge
     ·exfalso
      have:firstU (c::q)=(1,false):=first_bad1 (d:=byteO q 0) (e:=byteO q 1) (f:=byteO q 2) hc (tail_1 (.inl hlt)).one
      rw [this] at h2;cases h2
     ·exact hge
    have hge:∀ k,k<q.length→128≤((q[k]?).getD 0).toNat:=by
     intro k hk
     have key:∀ (d e f:Option Nat),(firstN c.toNat d e f).2=true→(2≤(firstN c.toNat d e f).1→∃ x,d=some x∧128≤x)∧(3≤(firstN c.toNat d e f).1→∃ x,e=some x∧128≤x)∧(4≤(firstN c.toNat d e f).1→∃ x,f=some x∧128≤x):=by
      intro d e f
      have ht:128≤(tailN c.toNat).1:=by
       by_cases g1:c.toNat<194∨244<c.toNat
       ·rw [(tail_1 g1).lo_];omega
       ·by_cases g2:c.toNat≤223
        ·rw [(tail_2 zu4).lo_];omega
        ·by_cases g3:c.toNat≤239
         ·obtain ⟨lo,hi,t,g,_⟩:=tail_3 (c:=c.toNat) zu4
          rw [t.lo_];exact g
         ·obtain ⟨lo,hi,t,g,_⟩:=tail_4 (c:=c.toNat) zu4
          rw [t.lo_];exact g
      have hd:inO (tailN c.toNat).1 (tailN c.toNat).2.1 d→∃ x,d=some x∧128≤x:=fun h=>by
       obtain ⟨x,h1,h2,h3⟩:=(inO_iff _ _ d).1 h
       exact ⟨x,h1,zu4⟩
      have hcc:∀ o,contO o→∃ x,o=some x∧128≤x:=fun o h=>by
       obtain ⟨x,h1,h2,h3⟩:=(contO_iff o).1 h
       exact ⟨x,h1,zu4⟩
      unfold firstN
      rw [if_neg hc]
      split
      ·simp
      ·split
       ·simp
       ·rename_i h1
        have h1':=hd (Decidable.not_not.1 h1)
        split
        ·intro _;exact ⟨fun _=>h1',zu19,zu19⟩
        ·split
         ·simp
         ·rename_i h2
          have h2':=hcc _ (Decidable.not_not.1 h2)
          split
          ·intro _;exact ⟨fun _=>h1',fun _=>h2',zu19⟩
          ·split
           ·rename_i h3
            intro _;exact ⟨fun _=>h1',fun _=>h2',fun _=>hcc _ h3⟩
           ·simp
     obtain ⟨k1,k2,k3⟩:=key _ _ _ h2
     have h3':(firstN c.toNat (byteO q 0) (byteO q 1) (byteO q 2)).1=q.length+1:=h3
     have use:∀ j,(∃ x,byteO q j=some x∧128≤x)→128≤((q[j]?).getD 0).toNat:=by
      rintro j ⟨x,hx,hl⟩
      unfold byteO at hx
      cases hq:q[j]? with
      | none=>rw [hq] at hx;cases hx
      | some y=>rw [hq] at hx;cases hx;exact hl
     rcases (show k=0∨k=1∨k=2 by omega) with rfl|rfl|rfl
     ·exact use 0 (k1 zu4)
     ·exact use 1 (k2 zu4)
     ·exact use 2 (k3 zu4)
    refine ⟨c,q,rfl,hc2,?_,zu4,?_⟩
    ·rintro rfl
     have:(firstU [c])=(1,true):=h1
     have g:=firstN_pos c.toNat (byteO [] 0) (byteO [] 1) (byteO [] 2)
     have:firstN c.toNat none none none=(1,true):=h1
     unfold firstN at this
     rw [if_neg hc] at this
     split at this
     ·cases this
     ·rw [if_pos (by simp [inO])] at this;cases this
    ·intro x hx
     obtain ⟨k,hk,rfl⟩:=List.getElem_of_mem hx
     obtain ⟨y,hy,hy2⟩:=firstU_in h2 (k+1) zu4 zu4
     rw [List.getElem?_cons_succ,List.getElem?_eq_getElem hk] at hy
     cases hy
     have:=hge k hk
     rw [List.getElem?_eq_getElem hk] at this
     exact ⟨this,hy2⟩
theorem esc_high {c:UInt8} {r:List UInt8} (h:128≤c.toNat) (hm:c=239→¬ [187,191].isPrefixOf r=true):escL (c::r)=c::escL r:=by
 have ne:∀ d:UInt8,d.toNat<128→c≠d:=by rintro d hd rfl;omega
 unfold escL
 by_cases h8:c=239
 ·have hf:escF c=some ([187,191],wMark):=by subst h8;rfl
  rw [replS_miss hf (hm h8)]
 ·rw [replS_none (by simp [escF,ne 38 zu15,ne 60 zu15,ne 62 zu15,ne 34 zu15,ne 39 zu15,ne 13 zu15,ne 0 zu15,h8])]
theorem esc_cont:∀ (q:List UInt8),(∀ x∈q,128≤x.toNat∧x.toNat≤191)→∀ Y,escL (q++Y)=q++escL Y:=by
 intro q
 induction q with
 | nil=>intro _ _;rfl
 | cons x q ih =>
   intro h Y
   have hx:=h x zu19
   rw [List.cons_append,esc_high hx.1 (by rintro rfl;exact absurd hx.2 zu15),ih (fun y hy=>h y (by simp [hy])),List.cons_append]
theorem esc_sig {a:List UInt8} (h:Sig a) (Y:List UInt8):escL (a++Y)=a++escL Y∨∃ w:List UInt8,escL (a++Y)=w++escL Y∧((∀ c∈w,c.toNat<128)∨w=wBad):=by
 rcases sig_bytes h with ⟨c,rfl,hc⟩|⟨c,q,rfl,h1,h2,h3,h4⟩
 ·right
  refine esc_cases c Y (fun l => ∃ w:List UInt8,l=w++escL Y∧((∀ c∈w,c.toNat<128)∨w=wBad)) ?_ ?_ ?_ ?_ ?_ ?_ ?_ ?_ ?_
  ·intro _;exact ⟨wAmp,rfl,.inl zu15⟩
  ·intro _;exact ⟨wLt,rfl,.inl zu15⟩
  ·intro _;exact ⟨wGt,rfl,.inl zu15⟩
  ·intro _;exact ⟨wQuot,rfl,.inl zu15⟩
  ·intro _;exact ⟨wApos,rfl,.inl zu15⟩
  ·intro _;exact ⟨wCr,rfl,.inl zu15⟩
  ·intro _;exact ⟨wBad,rfl,.inr rfl⟩
  ·rintro q rfl _;exact absurd hc zu15
  ·intros;exact ⟨[c],rfl,.inl (by simpa using hc)⟩
 ·by_cases hm:c=239∧[187,191].isPrefixOf (q++Y)=true
  ·right
   obtain ⟨rfl,hm⟩:=hm
   obtain ⟨Z,hZ⟩:=List.isPrefixOf_iff_prefix.1 hm
   have hq:q=[187,191]:=by
    have hlen:q.length=2:=by
     have hs:=h.2 []
     rw [List.append_nil] at hs
     have ht:=tail_3 (c:=239) zu4
     obtain ⟨lo,hi,t,_⟩:=ht
     have hn:(firstU (239::q)).1=q.length+1:=by rw [hs];rfl
     have h2':(firstU (239::q)).2=true:=by rw [hs]
     have:(firstN 239 (byteO q 0) (byteO q 1) (byteO q 2)).1=3:=by
      have hh:(firstN 239 (byteO q 0) (byteO q 1) (byteO q 2)).2=true:=h2'
      revert hh
      unfold firstN
      rw [if_neg zu4,if_neg (by rw [t.one];omega)]
      split
      ·intro hh;cases hh
      ·rw [if_neg (by rw [t.one];omega)]
       split
       ·intro hh;cases hh
       ·rw [if_pos t.one];intro _;rfl
     have e2:(firstU (239::q)).1=3:=this
     omega
    match q,hlen,hZ with
    | [x,y],_,hZ =>
      simp only [List.cons_append,List.nil_append,List.cons.injEq] at hZ
      rw [hZ.1,hZ.2.1]
   subst hq
   refine ⟨wMark,?_,.inl zu15⟩
   unfold escL
   rw [List.cons_append,replS_hit (show escF 239=some ([187,191],wMark) from rfl) zu19]
   rfl
  ·left
   rw [List.cons_append,esc_high zu4 (fun e h=>hm ⟨e,h⟩),esc_cont q h4,List.cons_append]
theorem right_esc:∀ n (s:List UInt8),s.length≤n→rightL s=true→rightL (escL s)=true:=by
 intro n
 induction n with
 | zero=>intro s h _;obtain rfl:=List.eq_nil_of_length_eq_zero (Nat.le_zero.1 h);rfl
 | succ n ih =>
   intro s h hr
   by_cases hne:s=[]
   ·subst hne;rfl
   ·obtain ⟨a,q,rfl,hs,hq⟩:=sig_split hr hne
    have hlen:1≤a.length:=by
     rcases Nat.eq_zero_or_pos a.length with h0|h0
     ·exact absurd (List.eq_nil_of_length_eq_zero h0) hs.1
     ·exact h0
    have hi:=ih q (by rw [List.length_append] at h;omega) hq
    rcases esc_sig hs q with e|⟨w,e,hw|rfl⟩
    ·rw [e,right_app hs];exact hi
    ·rw [e,right_ascii w hw];exact hi
    ·rw [e]
     have:Sig wBad:=⟨zu15,fun Y=>rfl⟩
     rw [right_app this];exact hi
theorem right_enc (k:Int) {s:List UInt8} (h:rightL s=true):rightL (encL k s)=true:=by
 have he:=right_esc _ s (Nat.le_refl _) h
 unfold encL
 split
 ·exact he
 ·split
  ·split
   ·exact (right_ascii [10] zu15 (escL s)).trans he
   ·exact he
  ·rfl
theorem esc_head {x:UInt8} {s Z:List UInt8} (h:escL s=x::Z) (h1:128≤x.toNat) (h2:x≠239):∃ r,s=x::r∧escL r=Z:=by
 cases s with
 | nil=>cases h
 | cons c r =>
   revert h
   have no:∀ (w:List UInt8) (l:List UInt8),(w.head? = some 38∨w.head? = some 239)→w++l=x::Z→∃ q,c::r=x::q∧escL q=Z:=by
    intro w l hw e
    cases w with
    | nil=>rcases hw with h|h<;>cases h
    | cons y w =>
      rw [List.cons_append] at e
      have:=(List.cons.inj e).1
      subst this
      rcases hw with h|h
      ·cases h;exact absurd h1 zu15
      ·cases h;exact absurd rfl h2
   refine esc_cases c r (fun l=>l=x::Z→∃ q,c::r=x::q∧escL q=Z) ?_ ?_ ?_ ?_ ?_ ?_ ?_ ?_ ?_
   ·intro _;exact no _ _ (.inl rfl)
   ·intro _;exact no _ _ (.inl rfl)
   ·intro _;exact no _ _ (.inl rfl)
   ·intro _;exact no _ _ (.inl rfl)
   ·intro _;exact no _ _ (.inl rfl)
   ·intro _;exact no _ _ (.inl rfl)
   ·intro _;exact no _ _ (.inr rfl)
   ·intro q _ _;exact no _ _ (.inl rfl)
   ·intro _ _ _ _ _ _ _ _ e
    injection e with e1 e2
    subst e1
    exact ⟨r,rfl,e2⟩
theorem esc_no_mark (s Z:List UInt8):escL s≠239::187::191::Z:=by
 cases s with
 | nil=>simp [escL,replS]
 | cons c r =>
   refine esc_cases c r (fun l=>l≠239::187::191::Z) ?_ ?_ ?_ ?_ ?_ ?_ ?_ ?_ ?_
   all_goals try (intros;simp [wAmp,wLt,wGt,wQuot,wApos,wCr,wBad,wMark];done)
   intro _ _ _ _ _ _ _ hc e
   injection e with e1 e2
   obtain ⟨r1,rfl,e3⟩:=esc_head e2 zu15 zu15
   obtain ⟨r2,rfl,e4⟩:=esc_head e3 zu15 zu15
   exact hc e1 zu19
theorem enc_no_mark (k:Int) (s:List UInt8):markP.isPrefixOf (encL k s)=false:=by
 rw [Bool.eq_false_iff]
 intro h
 obtain ⟨Z,hZ⟩:=List.isPrefixOf_iff_prefix.1 h
 have he:=esc_no_mark s Z
 unfold encL at hZ
 split at hZ
 ·exact he hZ.symm
 ·split at hZ
  ·split at hZ
   ·simp [markP] at hZ
   ·exact he hZ.symm
  ·cases hZ
theorem decL_right:∀ n (s:List UInt8),s.length≤n→rightL s=true→decL s=s:=by
 intro n
 induction n with
 | zero=>intro s h _;obtain rfl:=List.eq_nil_of_length_eq_zero (Nat.le_zero.1 h);rfl
 | succ n ih =>
   intro s h hr
   cases s with
   | nil=>rfl
   | cons c r =>
     rw [rightL_cons,Bool.and_eq_true] at hr
     have hp:=(firstU_pos c r).1
     rw [decL_cons,if_pos hr.1,ih _ zu47 hr.2,List.take_append_drop]
theorem dec_enc (k:Int) {s:List UInt8} (h:rightL s=true):decL (trimL (encL k s))=encL k s:=by
 unfold trimL
 rw [enc_no_mark,if_neg zu15]
 exact decL_right _ _ (Nat.le_refl _) (right_enc k h)
end Pl
end

section
namespace Hand
open Go Go.RowKit Pl Pb
def rowAt (T:List UInt8) (p:Nat) (key rest:List UInt8):Bool:=(T[p]? == some 10)&&(lnT T (p+1) == key++32::rest)
def wordAmp:List UInt8:=[97,109,112]
def wordLt:List UInt8:=[108,116]
def wordGt:List UInt8:=[103,116]
def wordQuot:List UInt8:=[113,117,111,116]
def wordNbsp:List UInt8:=[110,98,115,112]
theorem rows_are:(rowAt namesL 9820 (wordAmp++[59]) [50,54]&&(rowAt namesL 9813 wordAmp [50,54]&&(rowAt namesL 19023 (wordLt++[59]) [51,67]&&(rowAt namesL 15791 (wordGt++[59]) [51,69]&&(rowAt namesL 23656 (wordQuot++[59]) [50,50]&&rowAt namesL 20038 (wordNbsp++[59]) [65,48])))))=true:=by kernel_rfl
theorem row_fnd {p:Nat} {key rest:List UInt8} (h:rowAt namesL p key rest=true) (hk:∀ c∈key,c≠10∧c≠32):Fnd namesL key (some rest):=by
 unfold rowAt at h
 rw [Bool.and_eq_true,beq_iff_eq,beq_iff_eq] at h
 obtain ⟨h1,h2⟩:=h
 refine .inl ⟨p+1,.inr ⟨p,rfl,h1⟩,?_,?_⟩
 ·unfold kyT;rw [h2,ky_row hk]
 ·rw [h2];unfold rsL;rw [ky_row hk,List.drop_append,List.drop_eq_nil_of_le zu4,List.nil_append,show key.length+1 - key.length=1 by omega];rfl
theorem fnd_amp:Fnd namesL (wordAmp++[59]) (some [50,54]):=row_fnd (Bool.and_eq_true_iff.1 rows_are).1 zu15
theorem fnd_lt:Fnd namesL (wordLt++[59]) (some [51,67]):=row_fnd (Bool.and_eq_true_iff.1 (Bool.and_eq_true_iff.1 (Bool.and_eq_true_iff.1 rows_are).2).2).1 zu15
theorem fnd_gt:Fnd namesL (wordGt++[59]) (some [51,69]):=row_fnd (Bool.and_eq_true_iff.1 (Bool.and_eq_true_iff.1 (Bool.and_eq_true_iff.1 (Bool.and_eq_true_iff.1 rows_are).2).2).2).1 zu15
theorem fnd_quot:Fnd namesL (wordQuot++[59]) (some [50,50]):=row_fnd (Bool.and_eq_true_iff.1 (Bool.and_eq_true_iff.1 (Bool.and_eq_true_iff.1 (Bool.and_eq_true_iff.1 (Bool.and_eq_true_iff.1 rows_are).2).2).2).2).1 zu15
theorem fnd_nbsp:Fnd namesL (wordNbsp++[59]) (some [65,48]):=row_fnd (Bool.and_eq_true_iff.1 (Bool.and_eq_true_iff.1 (Bool.and_eq_true_iff.1 (Bool.and_eq_true_iff.1 (Bool.and_eq_true_iff.1 rows_are).2).2).2).2).2 zu15
theorem fnd_key {key rest:List UInt8} (h:Fnd namesL key (some rest)):isKey namesL key:=(fnd_rest h).2.2
theorem nameT_of {key rest:List UInt8} (h:Fnd namesL key (some rest)):nameT key=(textB (num1 rest) (num2 rest)).data.toList:=by unfold nameT;rw [rowN_eq h]
theorem nameT_amp:nameT (wordAmp++[59])=[38]:=by rw [nameT_of fnd_amp];decide +kernel
theorem nameT_lt:nameT (wordLt++[59])=[60]:=by rw [nameT_of fnd_lt];decide +kernel
theorem nameT_gt:nameT (wordGt++[59])=[62]:=by rw [nameT_of fnd_gt];decide +kernel
theorem nameT_quot:nameT (wordQuot++[59])=[34]:=by rw [nameT_of fnd_quot];decide +kernel
theorem nameT_nbsp:nameT (wordNbsp++[59])=[194,160]:=by rw [nameT_of fnd_nbsp];decide +kernel
theorem lng_stop {k r:List UInt8} {c:UInt8} (hk:isKey namesL k) (hc:kyC c=false∧c≠59∨k.getLast? = some 59):lngN (k++c::r)=k.length:=by
 have hf:=key_facts hk
 refine lngN_eq ⟨?_,.inr (by rw [List.take_left];exact hk),fun m h1 h2 hm => ?_⟩
 ·have:=hf.le;simp;omega
 ·have hg:=key_facts hm
  have h2':m≤(k++c::r).length:=by omega
  obtain ⟨d,rfl⟩:∃ d,m=k.length+1+d:=⟨m - (k.length+1),zu4⟩
  have e:(k++c::r).take (k.length+1+d)=k++c::r.take d:=by
   rw [List.take_append,List.take_of_length_le zu4,show k.length+1+d - k.length=d+1 by omega,List.take_succ_cons]
  rw [e] at hg
  rcases hc with ⟨h3,h4⟩|h3
  ·
   cases hd:r.take d with
   | nil =>
     rw [hd] at hg
     obtain ⟨x,hx,hx2⟩:=hg.last
     simp at hx
     subst hx
     rcases hx2 with h|h
     ·rw [h3] at h;cases h
     ·exact h4 h
   | cons y t =>
     rw [hd] at hg
     have hmem:c∈(k++c::y::t).dropLast:=by
      rw [List.dropLast_append_of_ne_nil zu19]
      simp
     have:=hg.inner c hmem
     rw [h3] at this;cases this
  ·have hmem:(59:UInt8)∈(k++c::r.take d).dropLast:=by
    rw [List.dropLast_append_of_ne_nil zu19]
    exact List.mem_append_left _ (List.mem_of_getLast? h3)
   have:=hg.inner 59 hmem
   exact absurd this zu15
theorem num_letter {k r:List UInt8} (hk:isKey namesL k):numL (k++r)=none:=by
 have hf:=key_facts hk
 cases k with
 | nil=>exact absurd rfl hf.pos
 | cons c k =>
   have hh:=hf.head
   have h35:c≠35:=by rintro rfl;exact absurd hh (by simp [hdC])
   unfold numL
   rw [if_neg]
   simp [begR,h35]
   have:∀ n:Fin 256,lowB (UInt8.ofNat n.val)=35→UInt8.ofNat n.val=35:=by decide +kernel
   have h:=this ⟨c.toNat,c.toNat_lt⟩
   simp only [UInt8.ofNat_toNat] at h
   exact fun e=>h35 (h e)
theorem refN_semi {attr:Bool} {w:List UInt8} (r:List UInt8) (hk:isKey namesL (w++[59])):refN attr (38::(w++59::r))=(nameT (w++[59]),w.length+2):=by
 have hl:lngN (w++59::r)=w.length+1:=by
  cases r with
  | nil =>
    refine lngN_eq ⟨?_,.inr ?_,fun m h1 h2 _ => ?_⟩
    ·have:=(key_facts hk).le;simp at this ⊢;omega
    ·rw [List.take_of_length_le zu19];exact hk
    ·simp at h2;omega
  | cons c r =>
    have:=lng_stop (c:=c) (r:=r) hk (.inr zu19)
    rw [List.append_assoc] at this
    simpa using this
 have hn:numL (w++59::r)=none:=by
  have:=num_letter (r:=r) hk
  rwa [List.append_assoc] at this
 have ht:(w++59::r).take (w.length+1)=w++[59]:=by
  rw [List.take_append,List.take_of_length_le zu4,show w.length+1 - w.length=1 by omega];rfl
 unfold refN
 rw [List.drop_succ_cons,List.drop_zero,hn,hl,ht]
 simp only
 rw [if_neg,show 1+(w.length+1)=w.length+2 by omega]
 rintro (e|e)
 ·omega
 ·unfold leftL at e
  rw [show Lib.hasSuffix (w++[59]) [59]=true by unfold Lib.hasSuffix;simp] at e
  simp at e
theorem rdL_semi {attr:Bool} {w:List UInt8} (r:List UInt8) (hk:isKey namesL (w++[59])):rdL attr (38::(w++59::r))=nameT (w++[59])++rdL attr r:=by
 rw [rdL_amp,refN_semi r hk]
 simp only
 congr 2
 rw [List.drop_succ_cons,List.drop_append,List.drop_eq_nil_of_le zu4,show w.length+1 - w.length=1 by omega];rfl
theorem numL_dec (ds r:List UInt8) (h:∀ c∈ds,isDg false c=true) (h0:ds≠[]) {m:Nat} (hv:valL 10 ds=m):numL (35::(ds++59::r))=some (m,ds.length+2):=by
 have hx:begR (ds++59::r) [120]=false:=by
  cases ds with
  | nil=>exact absurd rfl h0
  | cons c ds =>
    have hc:=h c zu19
    have:∀ n:Fin 256,isDg false (UInt8.ofNat n.val)=true→(lowB (UInt8.ofNat n.val) == 120)=false:=by decide +kernel
    have g:=this ⟨c.toNat,c.toNat_lt⟩
    simp only [UInt8.ofNat_toNat] at g
    simp [begR,g hc]
 have hd:digs false (ds++59::r)=ds:=by
  unfold digs
  rw [tw_app _ _ _ h,List.takeWhile_cons,if_neg zu15,List.append_nil]
 unfold numL
 rw [show begR (35::(ds++59::r)) [35]=true by simp [begR,lowB],if_pos rfl,List.drop_succ_cons,List.drop_zero,hx,if_neg zu15]
 unfold numQ
 simp only [hd]
 rw [show baseN false=10 from rfl,hv,if_neg zu4,List.drop_left,show begR (59::r) [59]=true by simp [begR,lowB],if_pos rfl]
 simp only [Option.map_some,Int.toNat_natCast]
theorem refN_dec {attr:Bool} (ds r:List UInt8) (h:∀ c∈ds,isDg false c=true) (h0:ds≠[]) {m:Nat} (hv:valL 10 ds=m):refN attr (38::35::(ds++59::r))=((fixB m).data.toList,ds.length+3):=by
 unfold refN
 rw [List.drop_succ_cons,List.drop_zero,numL_dec ds r h h0 hv]
 simp only
 rw [show 1+(ds.length+2)=ds.length+3 by omega]
theorem rdL_dec {attr:Bool} (ds r:List UInt8) (h:∀ c∈ds,isDg false c=true) (h0:ds≠[]) {m:Nat} (hv:valL 10 ds=m):rdL attr (38::35::(ds++59::r))=(fixB m).data.toList++rdL attr r:=by
 rw [rdL_amp,refN_dec ds r h h0 hv]
 simp only
 congr 2
 rw [show ds.length+3=(ds.length+1)+2 by omega,List.drop_succ_cons,List.drop_succ_cons,List.drop_append,List.drop_eq_nil_of_le zu4,show ds.length+1 - ds.length=1 by omega];rfl
end Hand
end

section
namespace Hand
open Go Go.RowKit Pl Pb
theorem dec_apos (attr:Bool) (r:List UInt8):rdL attr (wApos++r)=39::rdL attr r:=by
 have:=rdL_dec (attr:=attr) [51,57] r zu15 zu15 (m:=39) zu15
 exact this.trans (by rw [show (fixB 39).data.toList=[39] by decide +kernel];rfl)
theorem dec_cr (attr:Bool) (r:List UInt8):rdL attr (wCr++r)=13::rdL attr r:=by
 have:=rdL_dec (attr:=attr) [49,51] r zu15 zu15 (m:=13) zu15
 exact this.trans (by rw [show (fixB 13).data.toList=[13] by decide +kernel];rfl)
theorem dec_mark (attr:Bool) (r:List UInt8):rdL attr (wMark++r)=239::187::191::rdL attr r:=by
 have:=rdL_dec (attr:=attr) [54,53,50,55,57] r zu15 zu15 (m:=65279) zu15
 exact this.trans (by rw [show (fixB 65279).data.toList=[239,187,191] by decide +kernel];rfl)
theorem dec_amp (attr:Bool) (r:List UInt8):rdL attr (wAmp++r)=38::rdL attr r:=by
 have:=rdL_semi (attr:=attr) (w:=wordAmp) r (fnd_key fnd_amp)
 exact this.trans (by rw [nameT_amp];rfl)
theorem dec_lt (attr:Bool) (r:List UInt8):rdL attr (wLt++r)=60::rdL attr r:=by
 have:=rdL_semi (attr:=attr) (w:=wordLt) r (fnd_key fnd_lt)
 exact this.trans (by rw [nameT_lt];rfl)
theorem dec_gt (attr:Bool) (r:List UInt8):rdL attr (wGt++r)=62::rdL attr r:=by
 have:=rdL_semi (attr:=attr) (w:=wordGt) r (fnd_key fnd_gt)
 exact this.trans (by rw [nameT_gt];rfl)
theorem dec_quot (attr:Bool) (r:List UInt8):rdL attr (wQuot++r)=34::rdL attr r:=by
 have:=rdL_semi (attr:=attr) (w:=wordQuot) r (fnd_key fnd_quot)
 exact this.trans (by rw [nameT_quot];rfl)
theorem clean_ne {c:UInt8} (r:List UInt8) (h:c≠0):cleanL (c::r)=c::cleanL r:=by rw [cleanL_cons];simp [cleanB,h]
theorem read_esc (attr:Bool):∀ n (s:List UInt8),s.length≤n→rdL attr (escL s)=cleanL s:=by
 intro n
 induction n with
 | zero=>intro s h;obtain rfl:=List.eq_nil_of_length_eq_zero (Nat.le_zero.1 h);rfl
 | succ n ih =>
   intro s h
   cases s with
   | nil=>rfl
   | cons c r =>
     simp only [List.length_cons] at h
     have hr:=ih r zu4
     refine esc_cases c r (fun l=>rdL attr l=cleanL (c::r)) ?_ ?_ ?_ ?_ ?_ ?_ ?_ ?_ ?_
     ·rintro rfl;rw [dec_amp,hr,clean_ne r zu15]
     ·rintro rfl;rw [dec_lt,hr,clean_ne r zu15]
     ·rintro rfl;rw [dec_gt,hr,clean_ne r zu15]
     ·rintro rfl;rw [dec_quot,hr,clean_ne r zu15]
     ·rintro rfl;rw [dec_apos,hr,clean_ne r zu15]
     ·rintro rfl;rw [dec_cr,hr,clean_ne r zu15]
     ·rintro rfl
      rw [rdL_app attr _ (show (38:UInt8)∉wBad by decide),hr,cleanL_cons];rfl
     ·rintro q rfl rfl
      simp only [List.length_cons] at h
      rw [dec_mark,ih q zu4,clean_ne _ zu15,clean_ne _ zu15,clean_ne _ zu15]
     ·intro h38 _ _ _ _ _ h0 _
      rw [rdL_ne attr _ h38,hr,clean_ne r h0]
end Hand
end

section
namespace Hand
open Go Go.RowKit Pl Pb
theorem right_append {y:List UInt8}:∀ n (x:List UInt8),x.length≤n→rightL x=true→rightL (x++y)=rightL y:=by
 intro n
 induction n with
 | zero=>intro x h _;obtain rfl:=List.eq_nil_of_length_eq_zero (Nat.le_zero.1 h);rfl
 | succ n ih =>
   intro x h hx
   by_cases hne:x=[]
   ·subst hne;rfl
   ·obtain ⟨a,q,rfl,ha,hq⟩:=sig_split hx hne
    have h0:=List.length_pos_iff.2 ha.1
    rw [List.length_append] at h
    rw [List.append_assoc,right_app ha,ih q zu4 hq]
theorem right_cat {x y:List UInt8} (hx:rightL x=true) (hy:rightL y=true):rightL (x++y)=true:=by rw [right_append _ x (Nat.le_refl _) hx,hy]
theorem right_asc {x:List UInt8} (h:Asc x):rightL x=true:=by
 have:=right_ascii x h []
 rw [List.append_nil] at this
 exact this
def Edge (x r:List UInt8):Prop:=r=[]∨(∃ c q,r=c::q∧c.toNat<128)∨∃ p c,x=p++[c]∧c.toNat<128
theorem cut_right:∀ n (x r:List UInt8),x.length≤n→rightL (x++r)=true→Edge x r→rightL x=true∧rightL r=true:=by
 intro n
 induction n with
 | zero=>intro x r h hr _;obtain rfl:=List.eq_nil_of_length_eq_zero (Nat.le_zero.1 h);exact ⟨rfl,hr⟩
 | succ n ih =>
   intro x r h hr he
   by_cases hx:x=[]
   ·subst hx;exact ⟨rfl,hr⟩
   ·have hne:x++r≠[]:=by simp [hx]
    obtain ⟨a,q,e,ha,hq⟩:=sig_split hr hne
    have h0:=List.length_pos_iff.2 ha.1
    rcases List.append_eq_append_iff.1 e with ⟨l,h1,h2⟩|⟨l,h1,h2⟩
    ·
     cases l with
     | nil =>
       rw [List.append_nil] at h1
       subst h1
       rw [List.nil_append] at h2
       subst h2
       have:=right_app ha []
       rw [List.append_nil] at this
       exact ⟨this,hq⟩
     | cons d l =>
       exfalso
       rcases sig_bytes ha with ⟨c,e1,_⟩|⟨c,q0,e1,hc,_,_,hall⟩
       ·rw [e1] at h1
        have:=congrArg List.length h1
        have h3:=List.length_pos_iff.2 hx
        simp only [List.length_append,List.length_cons,List.length_nil] at this
        omega
       ·rw [e1] at h1
        obtain ⟨x0,xr,rfl⟩:∃ y z,x=y::z:=by cases x with|nil=>exact absurd rfl hx|cons y z=>exact ⟨y,z,rfl⟩
        rw [List.cons_append] at h1
        obtain ⟨h3,h4⟩:=List.cons.inj h1
        have hd:128≤d.toNat:=(hall d (by rw [h4];simp)).1
        rcases he with he|⟨c',q',he,hc'⟩|⟨p,c',he,hc'⟩
        ·rw [he] at h2;cases h2
        ·rw [he] at h2
         obtain ⟨h5,_⟩:=List.cons.inj h2
         rw [h5] at hc';omega
        ·have hm:c'∈x0::xr:=by rw [he];simp
         rcases List.mem_cons.1 hm with rfl|hm
         ·rw [← h3] at hc';omega
         ·have:=(hall c' (by rw [h4];simp [hm])).1;omega
    ·
     subst h1
     rw [List.length_append] at h
     have hr2:rightL (l++r)=true:=by rw [← h2];exact hq
     by_cases hl:l=[]
     ·subst hl
      have:=right_app ha []
      rw [List.append_nil] at this ⊢
      exact ⟨this,hr2⟩
     ·have he2:Edge l r:=by
       rcases he with he|he|⟨p,c,he,hc⟩
       ·exact .inl he
       ·exact .inr (.inl he)
       ·refine .inr (.inr ⟨l.dropLast,c,?_,hc⟩)
        have hlast:l.getLast hl=c:=by
         have h5:(a++l).getLast (by simp [hl])=c:=by simp [he]
         rw [List.getLast_append_of_ne_nil (by simp [hl]) hl] at h5
         exact h5
        rw [← hlast,List.dropLast_concat_getLast]
      obtain ⟨h3,h4⟩:=ih l r zu4 hr2 he2
      exact ⟨right_cat (by have:=right_app ha [];rw [List.append_nil] at this;exact this) h3,h4⟩
theorem cut_at {l:List UInt8} {n:Nat} (h:rightL l=true) (he:Edge (l.take n) (l.drop n)):rightL (l.take n)=true∧rightL (l.drop n)=true :=
 cut_right _ _ _ (Nat.le_refl _) (by rw [List.take_append_drop];exact h) he
theorem right_behind {c:UInt8} {r l:List UInt8} (h:rightL l=true) (hs:c::r <:+ l) (hc:c.toNat<128):rightL r=true:=by
 obtain ⟨p,rfl⟩:=hs
 have e:p++c::r=(p++[c])++r:=by simp
 rw [e] at h
 exact (cut_right _ _ _ (Nat.le_refl _) h (.inr (.inr ⟨p,c,rfl,hc⟩))).2
theorem right_dropAsc {l:List UInt8} {n:Nat} (h:rightL l=true) (ha:Asc (l.take n)):rightL (l.drop n)=true:=by
 have:=right_ascii (l.take n) ha (l.drop n)
 rw [List.take_append_drop,h] at this
 exact this.symm
theorem enc_right (n:Int):rightL (Utf8.encode n).data.toList=true:=by
 obtain ⟨c,hc⟩:∃ c,(if Utf8.valid n=true then n.toNat else Utf8.runeError)=c:=⟨_,rfl⟩
 have hv:c<55296∨57344≤c∧c≤1114111:=by
  rw [← hc]
  split
  ·rename_i h
   simp only [Utf8.valid,Bool.and_eq_true,Bool.or_eq_true,decide_eq_true_eq] at h
   omega
  ·exact .inr zu15
 have hone:∀ a:List UInt8,a≠[]→firstU a=(a.length,true)→rightL a=true:=by
  intro a ha hf
  cases a with
  | nil=>exact absurd rfl ha
  | cons x r=>rw [rightL_cons,hf];simp [rightL,rightK]
 have e:Utf8.encode n=(if c<128 then ⟨#[UInt8.ofNat c]⟩ else if c<2048 then ⟨#[UInt8.ofNat (192+c / 64),UInt8.ofNat (128+c % 64)]⟩
  else if c<65536 then ⟨#[UInt8.ofNat (224+c / 4096),UInt8.ofNat (128+c / 64 % 64),UInt8.ofNat (128+c % 64)]⟩
  else ⟨#[UInt8.ofNat (240+c / 262144),UInt8.ofNat (128+c / 4096 % 64),UInt8.ofNat (128+c / 64 % 64),UInt8.ofNat (128+c % 64)]⟩):=by rw [← hc];rfl
 rw [e]
 refine hone _ ?_ ?_
 ·repeat' split
  all_goals simp
 ·split
  ·rename_i h
   simp only [firstU,u8_of c zu4]
   unfold firstN
   rw [if_pos zu4];rfl
  ·split
   ·rename_i h1 h2
    simp only [firstU,byteO,u8_of (192+c / 64) zu4,List.getElem?_cons_zero,List.getElem?_cons_succ,List.getElem?_nil,Option.map_some,Option.map_none,u8_of (128+c % 64) zu4]
    unfold firstN
    have ht:=tail_2 (c:=192+c / 64) zu4
    rw [if_neg zu4,ht.one,if_neg zu15,ht.lo_,ht.hi_,if_neg (by rw [Decidable.not_not,inO_iff];exact ⟨_,rfl,zu4,zu4⟩),if_pos rfl];rfl
   ·split
    ·rename_i h1 h2 h3
     simp only [firstU,byteO,u8_of (224+c / 4096) zu4,List.getElem?_cons_zero,List.getElem?_cons_succ,List.getElem?_nil,Option.map_some,Option.map_none,u8_of (128+c / 64 % 64) zu4,u8_of (128+c % 64) zu4]
     unfold firstN
     obtain ⟨lo,hi,ht,_,_,f1,f2,f3,f4⟩:=tail_3 (c:=224+c / 4096) zu4
     rw [if_neg zu4,ht.one,if_neg zu15,ht.lo_,ht.hi_,if_neg (by
      rw [Decidable.not_not,inO_iff]
      refine ⟨_,rfl,?_,?_⟩
      ·by_cases hq:224+c / 4096=224
       ·rw [f1 hq];omega
       ·rw [f3 hq];omega
      ·by_cases hq:224+c / 4096=237
       ·rw [f2 hq];omega
       ·rw [f4 hq];omega),if_neg zu15,if_neg zv3,if_pos rfl];rfl
    ·rename_i h1 h2 h3
     simp only [firstU,byteO,u8_of (240+c / 262144) zu4,List.getElem?_cons_zero,List.getElem?_cons_succ,List.getElem?_nil,Option.map_some,Option.map_none,u8_of (128+c / 4096 % 64) zu4,u8_of (128+c / 64 % 64) zu4,u8_of (128+c % 64) zu4]
     unfold firstN
     obtain ⟨lo,hi,ht,_,_,f1,f2,f3,f4⟩:=tail_4 (c:=240+c / 262144) zu4
     rw [if_neg zu4,ht.one,if_neg zu15,ht.lo_,ht.hi_,if_neg (by
      rw [Decidable.not_not,inO_iff]
      refine ⟨_,rfl,?_,?_⟩
      ·by_cases hq:240+c / 262144=240
       ·rw [f1 hq];omega
       ·rw [f3 hq];omega
      ·by_cases hq:240+c / 262144=244
       ·rw [f2 hq];omega
       ·rw [f4 hq];omega),if_neg zu15,if_neg zv3,if_neg zu15,if_pos (by rw [contO_iff];exact ⟨_,rfl,zu4,zu4⟩)];rfl
theorem sign_right (n:Int):rightL (signB n).data.toList=true:=by
 unfold signB
 split
 ·decide
 ·exact enc_right n
theorem fix_right (n:Nat):rightL (fixB n).data.toList=true:=by
 unfold fixB
 split
 ·decide
 ·split<;>exact sign_right _
theorem text_right (a b:Nat):rightL (textB a b).data.toList=true:=by
 unfold textB
 split
 ·exact sign_right _
 ·rw [show (signB (a:Int)++signB (b:Int)).data.toList=(signB (a:Int)).data.toList++(signB (b:Int)).data.toList by simp]
  exact right_cat (sign_right _) (sign_right _)
theorem nameT_right (k:List UInt8):rightL (nameT k)=true:=by
 unfold nameT
 split
 ·exact text_right _ _
 ·rfl
theorem ref_right (attr:Bool) (r:List UInt8):rightL (refN attr (38::r)).1=true:=by
 have h:=ref_asc attr r
 unfold refN at h ⊢
 split
 ·exact fix_right _
 ·rename_i h0
  rw [h0] at h
  simp only at h
  split
  ·rename_i h1
   rw [if_pos h1] at h
   exact right_asc h
  ·exact nameT_right _
theorem rd_right (attr:Bool):∀ n (l:List UInt8),l.length≤n→rightL l=true→rightL (rdL attr l)=true:=by
 intro n
 induction n with
 | zero=>intro l h _;obtain rfl:=List.eq_nil_of_length_eq_zero (Nat.le_zero.1 h);rfl
 | succ n ih =>
   intro l h hr
   cases l with
   | nil=>rfl
   | cons c r =>
     by_cases hc:c=38
     ·subst hc
      have hb:=refN_bd attr 38 r
      rw [rdL_amp]
      simp only [List.length_cons] at h hb
      exact right_cat (ref_right attr r) (ih _ zu48 (right_dropAsc hr (ref_asc attr r)))
     ·obtain ⟨a,q,e,ha,hq⟩:=sig_split hr (List.cons_ne_nil _ _)
      have hno:(38:UInt8)∉a:=by
       rcases sig_bytes ha with ⟨c',rfl,_⟩|⟨c',q0,rfl,h1,_,_,h2⟩
       ·obtain ⟨h3,_⟩:=List.cons.inj e
        rw [List.mem_singleton];rw [← h3];exact fun e=>hc e.symm
       ·rw [List.mem_cons,not_or]
        refine ⟨fun e => ?_,fun hm => ?_⟩
        ·rw [← e] at h1;exact absurd h1 zu15
        ·have:=(h2 _ hm).1;exact absurd this zu15
      have h0:=List.length_pos_iff.2 ha.1
      rw [e,List.length_append] at h
      rw [e,rdL_app attr q hno,right_app ha]
      exact ih q zu4 hq
theorem clean_right:∀ n (l:List UInt8),l.length≤n→rightL l=true→rightL (cleanL l)=true:=by
 intro n
 induction n with
 | zero=>intro l h _;obtain rfl:=List.eq_nil_of_length_eq_zero (Nat.le_zero.1 h);rfl
 | succ n ih =>
   intro l h hr
   by_cases hl:l=[]
   ·subst hl;rfl
   ·obtain ⟨a,q,rfl,ha,hq⟩:=sig_split hr hl
    have h0:=List.length_pos_iff.2 ha.1
    rw [List.length_append] at h
    have e:cleanL (a++q)=cleanL a++cleanL q:=by simp [cleanL]
    rw [e]
    refine right_cat ?_ (ih q zu4 hq)
    by_cases h00:(0:UInt8)∈a
    ·rcases sig_bytes ha with ⟨c',rfl,_⟩|⟨c',q0,rfl,h1,_,_,h2⟩
     ·rw [List.mem_singleton] at h00;rw [← h00];decide
     ·rcases List.mem_cons.1 h00 with e|hm
      ·rw [← e] at h1;exact absurd h1 zu15
      ·have:=(h2 _ hm).1;exact absurd this zu15
    ·rw [cleanL_of_no0 h00]
     have:=right_app ha []
     rw [List.append_nil] at this
     exact this
end Hand
end

section
namespace Hand
open Go Go.RowKit Pl Pb Go.Proofs.YtclkdmmgibgamaaGreatDoor.Pure
theorem drive_txt {t:List UInt8} (h:(60:UInt8)∉t):driveL t=txtT (rdL false t):=by
 cases ht:t with
 | nil=>rfl
 | cons c r =>
   have hn:t≠[]:=by rw [ht];simp
   rw [← ht]
   have:=drvL_text (r:=[]) hn h rfl
   rw [List.append_nil,drvL_nil] at this
   unfold driveL
   rw [this]
   simp [joinL]
theorem only_txt {t:List UInt8} (h:(60:UInt8)∉t):onlyL (driveL t)=(rdL false t,true):=by
 rw [drive_txt h]
 unfold txtT
 split
 ·rename_i e;rw [e];rfl
 ·rfl
theorem attrL_62 (L:List AttrT) (x:List UInt8):attrL L (62::x)=some (L,false,x):=by
 rw [attrL_eq,show spL (62::x)=62::x from rfl]
 simp only [if_true]
theorem spL_sp (r:List UInt8):spL (32::r)=spL r:=rfl
theorem attrL_sp (L:List AttrT) (r:List UInt8):attrL L (32::r)=attrL L r:=by rw [attrL_eq,attrL_eq L r,spL_sp]
theorem tokL_a {x r:List UInt8} {al:List AttrT} {self:Bool} (h:attrL [] x=some (al,self,r)):tokL (60::97::32::x)=(some (.start [97] al self),r):=by
 have ht:tagN (60::97::32::x)=1:=rfl
 unfold tokL
 rw [if_pos (by rw [ht];decide)]
 unfold tagL
 rw [ht,show (((60:UInt8)::97::32::x).drop 1).dropWhile stC=32::x from rfl,attrL_sp,h]
 rfl
theorem drive_a {x:List UInt8} {al:List AttrT} {self:Bool} (h:attrL [] x=some (al,self,[])):driveL (60::97::32::x)=[.start [97] al self]:=by
 unfold driveL
 rw [drvL_eq zu19,tokL_a h]
 rfl
theorem qB_or (single:Bool):qB single=34∨qB single=39:=by cases single<;>decide
theorem wrap1 (single:Bool) (t:List UInt8):wrapL 1 single t=60::97::32::120::61::qB single::(t++qB single::[62]):=by
 unfold wrapL attrO
 rw [if_neg zu15,if_pos rfl]
 rfl
theorem value_txt (single:Bool) {t:List UInt8} (h:qB single∉t):valueL (driveL (wrapL 1 single t))=(cleanL (rdL true t),true):=by
 rw [wrap1,drive_a (al:=[([120],cleanL (rdL true t))]) (self:=false) (by rw [quoted_L (qB_or single) h,attrL_62])]
 rfl
theorem ends_ne {c:UInt8} (r name:List UInt8) (h:c≠60):endsL (c::r) name=false:=by
 cases he:endsL (c::r) name with
 | false=>rfl
 | true =>
   have:=ends_pref he
   simp [List.isPrefixOf] at this
   exact absurd this.1.symm h
theorem firstE_app (name:List UInt8) {s:List UInt8} (r:List UInt8) (h:(60:UInt8)∉s):firstE name (s++r)=s.length+firstE name r:=by
 induction s with
 | nil=>rw [List.nil_append];exact (Nat.zero_add _).symm
 | cons c s ih =>
   rw [List.mem_cons,not_or] at h
   rw [List.cons_append,firstE,if_neg (by rw [ends_ne _ _ (fun e=>h.1 e.symm)];decide),ih h.2,List.length_cons]
   omega
theorem firstE_areaC (y:List UInt8):firstE areaW (areaC++y)=0:=by
 show firstE areaW (60::_)=0
 rw [firstE,if_pos (by rfl)]
theorem tagR_areaC (y:List UInt8):tagR (areaC++y)=(some (.fin areaW),y):=by
 have ht:tagN (areaC++y)=2:=rfl
 unfold tagR
 rw [if_neg (by rw [ht];decide)]
 unfold tagL
 rw [ht,show ((areaC++y).drop 2).dropWhile stC=62::y from rfl,attrL_62]
 rfl
theorem restL_area {x y:List UInt8} {n:Nat} (hn:firstE areaW x=n) (hd:x.drop n=areaC++y):restL 1 areaW x=(txtT (rawT true (x.take n))++[.fin areaW],y):=by
 have he:endN 1 areaW x=n:=by unfold endN;rw [if_pos (.inl rfl),hn]
 unfold restL
 rw [if_neg zu15,he,hd,if_neg (by simp [areaC]),tagR_areaC]
 rfl
theorem drvL_area (x:List UInt8):drvL (areaO++x) = .start areaW [] false::((restL 1 areaW x).1++drvL (restL 1 areaW x).2):=by
 have ht:tagN (areaO++x)=1:=rfl
 have hk:tokL (areaO++x)=(some (.start areaW [] false),x):=by
  unfold tokL
  rw [if_pos (by rw [ht];decide)]
  unfold tagL
  rw [ht,show ((areaO++x).drop 1).dropWhile stC=62::x from rfl,attrL_62]
  rfl
 rw [drvL_eq (by simp [areaO]),hk]
 rfl
theorem join_area (u:List UInt8) (r:List Tk):joinL (.start areaW [] false::(txtT u++(.fin areaW::r))) = .start areaW [] false::(txtT u++(.fin areaW::joinL r)):=by
 rw [joinL_no _ rfl]
 congr 1
 unfold txtT
 split
 ·exact joinL_no _ rfl
 ·rename_i hu
  show joinL (.text u :: .fin areaW::r)=_
  rw [joinL_txno _ _ rfl]
  unfold txtT;rw [if_neg hu]
theorem within_txt {x:List UInt8} {n:Nat} (single:Bool) (hn:firstE areaW (x++areaC)=n) (hl:n=x.length):withinL (driveL (wrapL 2 single x))=(trimN (cleanL (rdL false x)),true):=by
 have hr:=restL_area (x:=x++areaC) (y:=[]) (hn.trans hl) (by rw [List.drop_left,List.append_nil])
 rw [List.take_left] at hr
 have hw:wrapL 2 single x=areaO++(x++areaC):=by unfold wrapL;rw [if_neg zu15,if_neg zu15,if_pos rfl]
 unfold driveL
 rw [hw,drvL_area,hr]
 simp only [drvL_nil,List.append_nil]
 rw [join_area,show rawT true x=cleanL (rdL false x) from rfl]
 generalize cleanL (rdL false x)=u
 unfold txtT
 split
 ·rename_i e;subst e;rfl
 ·rfl
theorem area_plain {x:List UInt8} (h:(60:UInt8)∉x):firstE areaW (x++areaC)=x.length:=by
 have:=firstE_areaC []
 rw [List.append_nil] at this
 rw [firstE_app _ _ h,this,Nat.add_zero]
end Hand
end

section
namespace Hand
open Go Go.RowKit Pl Pb Go.Proofs.YtclkdmmgibgamaaGreatDoor.Pure
theorem parse0 (single:Bool) (s:List UInt8):parseL 0 single s=onlyL (driveL (normL s)):=by unfold parseL;rw [if_pos rfl,norm_wrap];rfl
theorem parse1 (single:Bool) (s:List UInt8):parseL 1 single s=valueL (driveL (wrapL 1 single (normL s))):=by unfold parseL;rw [if_neg zu15,if_pos rfl,norm_wrap]
theorem parse2 (single:Bool) (s:List UInt8):parseL 2 single s=withinL (driveL (wrapL 2 single (normL s))):=by unfold parseL;rw [if_neg zu15,if_neg zu15,if_pos rfl,norm_wrap]
end Hand
end

section
namespace Hand
open Go Go.RowKit Pl Pb Go.Proofs.YtclkdmmgibgamaaGreatDoor.Pure
def Aft (l r:List UInt8):Prop:=r=[]∨62::r <:+ l
theorem aft_right {l r:List UInt8} (h:rightL l=true) (ha:Aft l r):rightL r=true:=by
 rcases ha with rfl|ha
 ·rfl
 ·exact right_behind h ha zu15
theorem aft_trans {l m r:List UInt8} (hs:m <:+ l) (h:Aft m r):Aft l r:=by
 rcases h with h|h
 ·exact .inl h
 ·exact .inr (h.trans hs)
theorem attrF_aft (f:Nat):∀ l s l' b r,attrF f l s=some (l',b,r)→62::r <:+ s:=by
 induction f with
 | zero=>intro l s l' b r h;cases h
 | succ f ih =>
   intro l s l' b r h
   have h1:spL s <:+ s:=List.dropWhile_suffix _
   simp only [attrF] at h
   split at h
   ·cases h
   ·rename_i c r0 he
    have h0:c::r0 <:+ s:=he ▸ h1
    have h2:r0 <:+ s:=(List.suffix_cons c r0).trans h0
    split at h
    ·rename_i hc;cases h;rw [← hc];exact h0
    ·split at h
     ·split at h
      ·exact (ih _ _ _ _ _ h).trans List.nil_suffix
      ·rename_i d r' _
       split at h
       ·rename_i hd;cases h;rw [← hd];exact h2
       ·exact (ih _ _ _ _ _ h).trans h2
     ·split at h
      ·cases h
      ·rename_i v r' hv
       exact (ih _ _ _ _ _ h).trans ((valA_suf hv).trans ((List.dropWhile_suffix _).trans h2))
theorem tagL_aft (l:List UInt8):Aft l (tagL l).2:=by
 unfold tagL
 split
 ·exact .inl rfl
 ·rename_i al self r he
  exact .inr ((attrF_aft _ _ _ _ _ _ he).trans ((List.dropWhile_suffix _).trans (List.drop_suffix _ _)))
theorem past_aft (l:List UInt8):Aft l (past 62 l):=by
 induction l with
 | nil=>exact .inl rfl
 | cons c r ih =>
   have e:past 62 (c::r)=if c=62 then r else past 62 r:=by
    unfold past
    rw [upto_cons]
    split
    ·rfl
    ·rfl
   rw [e]
   split
   ·rename_i hc;subst hc;exact .inr (List.suffix_refl _)
   ·exact aft_trans (List.suffix_cons _ _) ih
theorem endG_aft {p q:List UInt8} (hp:∃ p0,p=p0++[62]) (hq:∃ q0,q=q0++[62]):∀ (s t:List UInt8) (n:Nat),endG p q s=some (t,n)→62::s.drop n <:+ s:=by
 have one:∀ {w s:List UInt8},(∃ w0,w=w0++[62])→w.isPrefixOf s=true→62::s.drop w.length <:+ s:=by
  rintro w s ⟨w0,rfl⟩ h
  obtain ⟨y,rfl⟩:=List.isPrefixOf_iff_prefix.1 h
  rw [List.drop_left]
  exact ⟨w0,zu19⟩
 intro s
 induction s with
 | nil=>intro t n h;cases h
 | cons c r ih =>
   intro t n h
   rw [endG] at h
   split at h
   ·rename_i h1;cases h;exact one hp h1
   ·split at h
    ·rename_i h1;cases h;exact one hq h1
    ·split at h
     ·cases h
     ·rename_i t' n' he
      cases h
      rw [List.drop_succ_cons]
      exact (ih _ _ he).trans (List.suffix_cons _ _)
theorem otherL_aft (s:List UInt8):Aft s (s.drop (otherL s).2):=by
 unfold otherL
 split
 ·exact .inl zu19
 ·rename_i x he
  obtain ⟨t,n⟩:=x
  exact .inr (endG_aft ⟨[],rfl⟩ ⟨[],rfl⟩ s t n he)
theorem plainL_aft (s:List UInt8):Aft s (s.drop (plainL s).2):=by
 unfold plainL
 split
 ·rename_i h
  obtain ⟨y,rfl⟩:=List.isPrefixOf_iff_prefix.1 h
  exact .inr (List.suffix_refl _)
 ·split
  ·rename_i h
   obtain ⟨y,rfl⟩:=List.isPrefixOf_iff_prefix.1 h
   exact .inr ⟨[45],rfl⟩
  ·split
   ·rename_i x he
    obtain ⟨t,n⟩:=x
    exact .inr (endG_aft ⟨[45,45],rfl⟩ ⟨[45,45,33],rfl⟩ s t n he)
   ·refine .inl ?_
    unfold plainEnd
    repeat' split
    all_goals exact List.drop_length
theorem readC_aft (l:List UInt8):Aft l (l.drop (readC l).2):=by
 unfold readC
 split
 ·rw [show (l.drop (4+(plainL (l.drop 4)).2))=(l.drop 4).drop (plainL (l.drop 4)).2 by rw [List.drop_drop]]
  exact aft_trans (List.drop_suffix _ _) (plainL_aft _)
 ·split
  ·rw [show (l.drop (1+(otherL (l.drop 1)).2))=(l.drop 1).drop (otherL (l.drop 1)).2 by rw [List.drop_drop]]
   exact aft_trans (List.drop_suffix _ _) (otherL_aft _)
  ·rw [show (l.drop (2+(otherL (l.drop 2)).2))=(l.drop 2).drop (otherL (l.drop 2)).2 by rw [List.drop_drop]]
   exact aft_trans (List.drop_suffix _ _) (otherL_aft _)
def Cut60 (l:List UInt8) (n:Nat):Prop:=l.drop n=[]∨∃ q,l.drop n=60::q
theorem cut60 {l:List UInt8} {n:Nat} (h:rightL l=true) (hc:Cut60 l n):rightL (l.take n)=true∧rightL (l.drop n)=true:=by
 refine cut_at h ?_
 rcases hc with hc|⟨q,hc⟩
 ·exact .inl hc
 ·exact .inr (.inl ⟨60,q,hc,zu15⟩)
theorem txN_cut (l:List UInt8):Cut60 l (txN l):=by
 induction l with
 | nil=>exact .inl rfl
 | cons c r ih =>
   rw [txN]
   split
   ·rename_i h;exact .inr ⟨r,by rw [beg_60 h];rfl⟩
   ·rw [Nat.add_comm];exact ih
theorem firstE_cut (name l:List UInt8):Cut60 l (firstE name l):=by
 induction l with
 | nil=>exact .inl rfl
 | cons c r ih =>
   rw [firstE]
   split
   ·rename_i h
    by_cases hc:c=60
    ·exact .inr ⟨r,by rw [hc];rfl⟩
    ·rw [ends_ne r name hc] at h;cases h
   ·rw [Nat.add_comm];exact ih
theorem step_none {st ct:Nat} {c:UInt8} {r:List UInt8} (h:stepF st ct (c::r)=none):c=60:=by
 refine Classical.byContradiction fun hc => ?_
 unfold stepF at h
 simp only [ends_ne r scriptL hc] at h
 repeat' split at h
 all_goals first | (simp at h;done)|simp_all
theorem find_cut:∀ n (l:List UInt8) (st ct:Nat),l.length≤n→Cut60 l (findL st ct l).1:=by
 intro n
 induction n with
 | zero=>intro l st ct h;obtain rfl:=List.eq_nil_of_length_eq_zero (Nat.le_zero.1 h);exact .inl zu19
 | succ n ih =>
   intro l st ct h
   cases hs:stepF st ct l with
   | none =>
     rw [findL_none hs]
     cases l with
     | nil=>exact .inl rfl
     | cons c r=>exact .inr ⟨r,by rw [step_none hs];rfl⟩
   | some x =>
     obtain ⟨m,st',ct'⟩:=x
     have ha:=stepF_adv hs
     rw [findL_some hs]
     have:=ih (l.drop m) st' ct' zu47
     unfold Cut60 at this ⊢
     rw [List.drop_drop] at this
     exact this
theorem endN_cut (st:Nat) (name l:List UInt8):Cut60 l (endN st name l):=by
 unfold endN
 split
 ·exact firstE_cut name l
 ·split
  ·exact find_cut _ l 0 0 (Nat.le_refl _)
  ·exact .inl List.drop_length
def TkR:Tk→Prop
 | .text s=>rightL s=true
 | _=>True
theorem tagL_txt (l:List UInt8):∀ t∈(tagL l).1,TkR t:=by
 unfold tagL
 split
 ·intro t h;cases h
 ·intro t h
  simp only [Option.mem_def,Option.some.injEq] at h
  subst h
  split<;>trivial
theorem tagR_txt (l:List UInt8):∀ t∈(tagR l).1,TkR t:=by
 unfold tagR
 split
 ·intro t h;cases h
 ·exact tagL_txt l
theorem tagR_right {l:List UInt8} (h:rightL l=true):rightL (tagR l).2=true:=by
 unfold tagR
 split
 ·exact h
 ·exact aft_right h (tagL_aft l)
theorem void_aft {l:List UInt8} (h:begR l voidL=true):Aft l (l.drop 3):=by
 have h1:begR l ([60,47]++[62])=true:=h
 rw [begR_append,Bool.and_eq_true] at h1
 have h2:=h1.2
 have e:l.drop 3=(l.drop 2).drop 1:=by rw [List.drop_drop]
 rw [e]
 refine aft_trans (List.drop_suffix 2 l) ?_
 cases hd:l.drop 2 with
 | nil=>exact .inl rfl
 | cons c r =>
   have h3:begR (c::r) [62]=true:=by rw [← hd];exact h2
   rw [begR,Bool.and_eq_true,beq_iff_eq] at h3
   have hall:∀ n:Fin 256,lowB (UInt8.ofNat n.val)=62→UInt8.ofNat n.val=62:=by decide +kernel
   have h':=hall ⟨c.toNat,c.toNat_lt⟩
   have hc:c=62:=by simpa using h' (by simpa using h3.1)
   subst hc
   exact .inr (List.suffix_refl _)
theorem tokL_right {l:List UInt8} (h:rightL l=true):(∀ t∈(tokL l).1,TkR t)∧rightL (tokL l).2=true:=by
 unfold tokL
 split
 ·exact ⟨tagL_txt l,aft_right h (tagL_aft l)⟩
 ·split
  ·exact ⟨fun t ht=>by simp only [Option.mem_def,Option.some.injEq] at ht;subst ht;trivial,aft_right h (readC_aft l)⟩
  ·split
   ·exact ⟨fun t ht=>by simp only [Option.mem_def,Option.some.injEq] at ht;subst ht;trivial,aft_right h (aft_trans (List.drop_suffix 9 l) (past_aft _))⟩
   ·split
    ·rename_i hv
     exact ⟨fun t ht=>(by cases ht),aft_right h (void_aft hv)⟩
    ·split
     ·exact ⟨fun t ht=>(by cases ht),h⟩
     ·have hc:=cut60 h (txN_cut l)
      exact ⟨fun t ht=>by simp only [Option.mem_def,Option.some.injEq] at ht;subst ht;exact rd_right false _ _ (Nat.le_refl _) hc.1,hc.2⟩
theorem rawT_right (b:Bool) {s:List UInt8} (h:rightL s=true):rightL (rawT b s)=true:=by
 unfold rawT
 split
 ·exact clean_right _ _ (Nat.le_refl _) (rd_right false _ _ (Nat.le_refl _) h)
 ·exact clean_right _ _ (Nat.le_refl _) h
theorem txtT_right {s:List UInt8} (h:rightL s=true):∀ t∈txtT s,TkR t:=by
 unfold txtT
 split
 ·intro t ht;cases ht
 ·intro t ht;rw [List.mem_singleton.1 ht];exact h
theorem restL_right (st:Nat) (name:List UInt8) {l:List UInt8} (h:rightL l=true):(∀ t∈(restL st name l).1,TkR t)∧rightL (restL st name l).2=true:=by
 have hc:=cut60 h (endN_cut st name l)
 unfold restL
 split
 ·exact ⟨fun t ht=>(by cases ht),h⟩
 ·split
  ·exact ⟨txtT_right (rawT_right _ hc.1),rfl⟩
  ·refine ⟨fun t ht => ?_,tagR_right hc.2⟩
   rcases List.mem_append.1 ht with ht|ht
   ·exact txtT_right (rawT_right _ hc.1) t ht
   ·exact tagR_txt _ t (by simpa using ht)
theorem drv1_right {x:Option Tk×List UInt8} (h1:∀ t∈x.1,TkR t) (h2:rightL x.2=true):(∀ t∈(drv1 x).1,TkR t)∧rightL (drv1 x).2=true:=by
 unfold drv1
 split
 ·rename_i n al self r
  have h3:=restL_right (stateN n) n (l:=r) h2
  refine ⟨fun t ht => ?_,h3.2⟩
  rcases List.mem_cons.1 ht with rfl|ht
  ·trivial
  ·exact h3.1 t ht
 ·rename_i t r _
  exact ⟨fun u hu=>by rw [List.mem_singleton.1 hu];exact h1 t rfl,h2⟩
 ·exact ⟨fun t ht=>(by cases ht),h2⟩
theorem drvL_right:∀ n (l:List UInt8),l.length≤n→rightL l=true→∀ t∈drvL l,TkR t:=by
 intro n
 induction n with
 | zero=>intro l h _;obtain rfl:=List.eq_nil_of_length_eq_zero (Nat.le_zero.1 h);intro t ht;cases ht
 | succ n ih =>
   intro l h hr
   by_cases hl:l=[]
   ·subst hl;intro t ht;cases ht
   ·have h1:=tokL_right hr
    have h2:=drv1_right h1.1 h1.2
    have h3:=tokL_lt hl
    have h4:=drv1_le (tokL l)
    rw [drvL_eq hl]
    intro t ht
    rcases List.mem_append.1 ht with ht|ht
    ·exact h2.1 t ht
    ·exact ih _ zu4 h2.2 t ht
theorem join_right {l:List Tk} (h:∀ t∈l,TkR t):∀ t∈joinL l,TkR t:=by
 induction l with
 | nil=>intro t ht;cases ht
 | cons u r ih =>
   have ihr:=ih (fun t ht=>h t (List.mem_cons_of_mem _ ht))
   cases hx:isTx u with
   | false =>
     rw [joinL_no r hx]
     intro t ht
     rcases List.mem_cons.1 ht with rfl|ht
     ·exact h _ List.mem_cons_self
     ·exact ihr t ht
   | true =>
     obtain ⟨s,rfl⟩:∃ s,u = .text s:=by cases u<;>first|exact ⟨_,rfl⟩|cases hx
     have hs:rightL s=true:=h (.text s) List.mem_cons_self
     rw [joinL]
     split
     ·rename_i v r2 he
      intro t ht
      rcases List.mem_cons.1 ht with rfl|ht
      ·exact right_cat hs (ihr (.text v) (by rw [he];exact List.mem_cons_self))
      ·exact ihr t (by rw [he];exact List.mem_cons_of_mem _ ht)
     ·intro t ht
      rcases List.mem_append.1 ht with ht|ht
      ·exact txtT_right hs t ht
      ·exact ihr t ht
theorem drive_right {l:List UInt8} (h:rightL l=true):∀ t∈driveL l,TkR t:=join_right (drvL_right _ l (Nat.le_refl _) h)
end Hand
end

section
namespace Hand
open Go Go.RowKit Pl Pb Go.Proofs.YtclkdmmgibgamaaGreatDoor.Pure
structure FlOk (f:Fl):Prop where
 bl:∀ c∈f.bl,c=9∨c=12∨c=32
 no:∀ c∈f.told,c≠0∧c≠13
 hd:∀ c,f.told.head? = some c→isBl c=false
 lst:∀ c,f.told.getLast? = some c→isBl c=false
 right:rightL f.told=true
theorem FlOk.nil:FlOk ⟨[],0,[]⟩:=by
 constructor
 ·intro c hc;cases hc
 ·intro c hc;cases hc
 ·intro c hc;cases hc
 ·intro c hc;cases hc
 ·rfl
theorem FlOk.line {f:Fl} (h:FlOk f):FlOk (flLine f):=⟨fun c hc=>(by cases hc),h.no,h.hd,h.lst,h.right⟩
theorem FlOk.brk {f:Fl} (h:FlOk f) (n:Nat):FlOk (flBreak f n):=⟨fun c hc=>(by cases hc),h.no,h.hd,h.lst,h.right⟩
theorem FlOk.lose {f:Fl} (h:FlOk f):FlOk (flLose f):=by
 unfold flLose
 split
 ·exact ⟨fun c hc=>by rw [List.mem_singleton.1 hc];exact .inr (.inr rfl),h.no,h.hd,h.lst,h.right⟩
 ·exact h
theorem isBl_iff (c:UInt8):isBl c=true↔c=9∨c=10∨c=12∨c=13∨c=32:=by simp [isBl,or_assoc]
theorem FlOk.keep {f:Fl} (h:FlOk f) {c:UInt8} (hc:isBl c=true):FlOk (flKeep f c):=by
 unfold flKeep
 split
 ·exact h.line
 ·rename_i hn
  refine ⟨fun x hx => ?_,h.no,h.hd,h.lst,h.right⟩
  rcases List.mem_append.1 hx with hx|hx
  ·exact h.bl x hx
  ·rw [List.mem_singleton.1 hx]
   rcases (isBl_iff c).1 hc with e|e|e|e|e
   ·exact .inl e
   ·exact absurd (.inl e) hn
   ·exact .inr (.inl e)
   ·exact absurd (.inr e) hn
   ·exact .inr (.inr e)
theorem FlOk.add {f:Fl} (h:FlOk f):∀ c∈flAdd f,c=9∨c=10∨c=12∨c=32:=by
 intro c hc
 unfold flAdd at hc
 split at hc
 ·cases hc
 ·rcases List.mem_append.1 hc with hc|hc
  ·exact .inr (.inl (List.eq_of_mem_replicate hc))
  ·rcases h.bl c hc with e|e|e
   ·exact .inl e
   ·exact .inr (.inr (.inl e))
   ·exact .inr (.inr (.inr e))
theorem FlOk.addAsc {f:Fl} (h:FlOk f):Asc (flAdd f):=by
 intro c hc
 rcases h.add c hc with rfl|rfl|rfl|rfl<;>decide
theorem put_high (k:Bool):∀ (q:List UInt8) (f:Fl),(∀ x∈q,128≤x.toNat)→f.told≠[]→f.ends=0→f.bl=[]→flPut k f q=⟨f.told++q,0,[]⟩:=by
 intro q
 induction q with
 | nil=>rintro ⟨t,e,b⟩ _ _ rfl rfl;rw [List.append_nil];rfl
 | cons c q ih =>
   rintro ⟨t,e,b⟩ h h0 rfl rfl
   have hc:=h c zu19
   have hz:c≠0:=fun e=>by rw [e] at hc;exact absurd hc zu15
   have hb:¬ isBl c=true:=fun e=>by
    rcases (isBl_iff c).1 e with e|e|e|e|e<;>(rw [e] at hc;exact absurd hc zu15)
   have e1:flByte k ⟨t,0,[]⟩ c=⟨t++[c],0,[]⟩:=by
    unfold flByte
    rw [if_neg hz,if_neg hb]
    unfold flWord flAdd
    simp
   rw [show flPut k ⟨t,0,[]⟩ (c::q)=flPut k (flByte k ⟨t,0,[]⟩ c) q from rfl,e1,ih _ (fun x hx=>h x (by simp [hx])) zu19 rfl rfl]
   simp
theorem FlOk.word {f:Fl} (h:FlOk f) {c:UInt8} {q:List UInt8} (h0:c≠0) (hb:isBl c=false) (hq:∀ x∈q,128≤x.toNat) (hr:rightL (c::q)=true):FlOk ⟨f.told++flAdd f++c::q,0,[]⟩:=by
 have hnb:∀ x∈c::q,isBl x=false∧x≠0∧x≠13:=by
  intro x hx
  rcases List.mem_cons.1 hx with rfl|hx
  ·refine ⟨hb,h0,fun e => ?_⟩
   rw [e] at hb;exact absurd hb zu15
  ·have hc:=hq x hx
   refine ⟨?_,fun e=>by rw [e] at hc;exact absurd hc zu15,fun e=>by rw [e] at hc;exact absurd hc zu15⟩
   cases hx2:isBl x with
   | false=>rfl
   | true=>rcases (isBl_iff x).1 hx2 with e|e|e|e|e<;>(rw [e] at hc;exact absurd hc zu15)
 refine ⟨fun x hx=>(by cases hx),fun x hx => ?_,fun x hx => ?_,fun x hx => ?_,?_⟩
 ·rcases List.mem_append.1 hx with hx|hx
  ·rcases List.mem_append.1 hx with hx|hx
   ·exact h.no x hx
   ·rcases h.add x hx with rfl|rfl|rfl|rfl<;>exact ⟨zu15,zu15⟩
  ·exact (hnb x hx).2
 ·cases ht:f.told with
  | nil =>
    have e:flAdd f=[]:=by unfold flAdd;rw [if_pos ht]
    rw [ht,e] at hx
    simp only [List.nil_append,List.head?_cons,Option.some.injEq] at hx
    rw [← hx];exact hb
  | cons d t =>
    rw [ht] at hx
    exact h.hd x (by rw [ht];simpa using hx)
 ·rw [List.getLast?_append] at hx
  have:(c::q).getLast? = some x:=by
   cases hg:(c::q).getLast? with
   | none=>simp at hg
   | some y=>rw [hg] at hx;simpa using hx
  exact (hnb x (List.mem_of_getLast? this)).1
 ·exact right_cat (right_cat h.right (right_asc h.addAsc)) hr
theorem FlOk.put {k:Bool}:∀ n (s:List UInt8) (f:Fl),s.length≤n→FlOk f→rightL s=true→FlOk (flPut k f s):=by
 intro n
 induction n with
 | zero=>intro s f h hf _;obtain rfl:=List.eq_nil_of_length_eq_zero (Nat.le_zero.1 h);exact hf
 | succ n ih =>
   intro s f h hf hr
   by_cases hs:s=[]
   ·subst hs;exact hf
   ·obtain ⟨a,q,rfl,ha,hq⟩:=sig_split hr hs
    have h0:=List.length_pos_iff.2 ha.1
    rw [List.length_append] at h
    have e:flPut k f (a++q)=flPut k (flPut k f a) q:=List.foldl_append ..
    rw [e]
    refine ih q _ zu4 ?_ hq
    have hra:rightL a=true:=by have:=right_app ha [];rw [List.append_nil] at this;exact this
    rcases sig_bytes ha with ⟨c,rfl,hc⟩|⟨c,q0,rfl,h1,_,_,h2⟩
    ·show FlOk (flByte k f c)
     unfold flByte
     split
     ·exact hf
     ·rename_i hz
      split
      ·rename_i hb
       split
       ·exact hf.keep hb
       ·exact hf.lose
      ·rename_i hb
       exact hf.word (q:=[]) hz (by simpa using hb) (fun x hx=>by cases hx) hra
    ·have hz:c≠0:=fun e=>by rw [e] at h1;exact absurd h1 zu15
     have hb:isBl c=false:=by
      cases hx2:isBl c with
      | false=>rfl
      | true=>rcases (isBl_iff c).1 hx2 with e|e|e|e|e<;>(rw [e] at h1;exact absurd h1 zu15)
     have e1:flPut k f (c::q0)=⟨f.told++flAdd f++c::q0,0,[]⟩:=by
      rw [show flPut k f (c::q0)=flPut k (flByte k f c) q0 from rfl]
      unfold flByte
      rw [if_neg hz,if_neg (by rw [hb];decide)]
      rw [put_high k q0 _ (fun x hx=>(h2 x hx).1) (by unfold flWord;simp) rfl rfl]
      unfold flWord
      simp
     rw [e1]
     exact hf.word hz hb (fun x hx=>(h2 x hx).1) hra
theorem FlOk.lines {f:Fl} (h:FlOk f) (n:List UInt8):FlOk (pgLines f n):=by
 unfold pgLines
 dsimp only
 split
 ·split
  ·exact h.line
  ·exact h
 ·split
  ·exact h.line.brk _
  ·exact h.brk _
theorem FlOk.tok {p:Pg} (h:FlOk p.fl) {t:Tk} (ht:TkR t):FlOk (pgTok p t).fl:=by
 cases t with
 | text s =>
   show FlOk (pgText p s).fl
   unfold pgText
   split
   ·exact FlOk.put _ s _ (Nat.le_refl _) h ht
   ·exact h
 | start n l b =>
   show FlOk (pgStart p n).fl
   unfold pgStart
   dsimp only
   repeat' split
   all_goals first|exact h|exact h.lines n
 | fin n =>
   show FlOk (pgEnd p n).fl
   unfold pgEnd
   split
   ·exact h
   ·split
    ·exact h.lines n
    ·exact h
 | comment s=>exact h
 | doctype s=>exact h
theorem FlOk.render:∀ (l:List Tk) (p:Pg),FlOk p.fl→(∀ t∈l,TkR t)→FlOk (renderP p l).fl:=by
 intro l
 induction l with
 | nil=>intro p h _;exact h
 | cons t r ih =>
   intro p h ht
   exact ih (pgTok p t) (h.tok (ht t List.mem_cons_self)) fun u hu=>ht u (List.mem_cons_of_mem _ hu)
theorem norm_right:∀ n (s:List UInt8),s.length≤n→rightL s=true→∀ b,rightL (normF b s)=true:=by
 intro n
 induction n with
 | zero=>intro s h _ b;obtain rfl:=List.eq_nil_of_length_eq_zero (Nat.le_zero.1 h);rfl
 | succ n ih =>
   intro s h hr b
   by_cases hs:s=[]
   ·subst hs;rfl
   ·obtain ⟨a,q,rfl,ha,hq⟩:=sig_split hr hs
    have h0:=List.length_pos_iff.2 ha.1
    rw [List.length_append] at h
    have hra:rightL a=true:=by have:=right_app ha [];rw [List.append_nil] at this;exact this
    have hi:=ih q zu4 hq
    rw [normF_append]
    refine right_cat ?_ (hi _)
    rcases sig_bytes ha with ⟨c,rfl,hc⟩|⟨c,q0,rfl,h1,_,_,h2⟩
    ·refine right_asc fun x hx => ?_
     simp only [normF] at hx
     split at hx
     ·cases hx
     ·split at hx
      ·rw [List.mem_singleton.1 hx];decide
      ·rw [List.mem_singleton.1 hx];exact hc
    ·have h13:(13:UInt8)∉c::q0:=by
      intro hm
      rcases List.mem_cons.1 hm with e|hm
      ·rw [← e] at h1;exact absurd h1 zu15
      ·have:=(h2 _ hm).1;exact absurd this zu15
     have h10:∀ r,c::q0≠10::r:=fun r e=>by
      obtain ⟨e,_⟩:=List.cons.inj e
      rw [e] at h1;exact absurd h1 zu15
     have e:normF b (c::q0)=c::q0:=by
      have e1:normF b (c::q0)=normF false (c::q0):=by
       cases b
       ·rfl
       ·exact normF_true_eq h10
      rw [e1]
      exact normL_of_no13 h13
     rw [e]
     exact hra
theorem sig_take {c:UInt8} {r:List UInt8} (h1:(firstU (c::r)).2=true):Sig ((c::r).take (firstU (c::r)).1):=by
 obtain ⟨p1,p2,p3⟩:=firstU_pos c r
 obtain ⟨n,hn⟩:∃ n,(firstU (c::r)).1=n+1:=⟨(firstU (c::r)).1 - 1,zu4⟩
 rw [hn] at p2 p3 ⊢
 simp only [List.length_cons] at p2
 refine ⟨zu19,fun Y => ?_⟩
 rw [List.take_succ_cons,List.cons_append]
 show firstN c.toNat (byteO (r.take n++Y) 0) (byteO (r.take n++Y) 1) (byteO (r.take n++Y) 2)=_
 have hf:(firstN c.toNat (byteO r 0) (byteO r 1) (byteO r 2)).1=n+1:=hn
 rw [firstN_cut (d:=byteO r 0) (e:=byteO r 1) (f:=byteO r 2) h1 (fun h=>byteO_take _ _ _ _ zu4 zu4) (fun h=>byteO_take _ _ _ _ zu4 zu4) (fun h=>byteO_take _ _ _ _ zu4 zu4)]
 rw [List.length_cons,List.length_take,Nat.min_eq_left zu4,← hf]
 exact Prod.ext rfl h1
theorem dec_right:∀ n (s:List UInt8),s.length≤n→rightL (decL s)=true:=by
 intro n
 induction n with
 | zero=>intro s h;obtain rfl:=List.eq_nil_of_length_eq_zero (Nat.le_zero.1 h);rfl
 | succ n ih =>
   intro s h
   cases s with
   | nil=>rfl
   | cons c r =>
     have hp:=firstU_pos c r
     rw [decL_cons]
     refine right_cat ?_ (ih _ (by rw [List.length_drop];simp only [List.length_cons] at h ⊢;omega))
     split
     ·rename_i hf
      have hs:∃ a q,c::r=a++q∧Sig a∧a.length=(firstU (c::r)).1:=by
       have h1:Sig ((c::r).take (firstU (c::r)).1):=sig_take hf
       exact ⟨_,_,(List.take_append_drop _ _).symm,h1,by rw [List.length_take];omega⟩
      obtain ⟨a,q,e,ha,hl⟩:=hs
      rw [← hl,e,List.take_left]
      have:=right_app ha []
      rw [List.append_nil] at this
      exact this
     ·decide
theorem ext_ok (b:List UInt8):FlOk (renderP pg0 (driveL (normL (decL (trimL b))))).fl:=FlOk.render _ _ FlOk.nil (drive_right (norm_right _ _ (Nat.le_refl _) (dec_right _ _ (Nat.le_refl _)) false))
theorem ext_right (b:List UInt8):rightL (extL b)=true:=(ext_ok b).right
theorem ext_no (b:List UInt8):(0:UInt8)∉extL b∧(13:UInt8)∉extL b:=⟨fun h=>((ext_ok b).no _ h).1 rfl,fun h=>((ext_ok b).no _ h).2 rfl⟩
theorem ext_hd (b:List UInt8) {c:UInt8} (h:(extL b).head? = some c):isBl c=false:=(ext_ok b).hd c h
end Hand
end

section
namespace Hand
open Go Go.RowKit K0 Pl Pb Sa St Go.Proofs.YtclkdmmgibgamaaGreatDoor.Pure YtclkdmmgibgamaaGreatDoorW.PrintWords YtclkdmmgibgamaaGreatDoorW.PrintLast YtclkdmmgibgamaaGreatDoorW.PrintMore
theorem big_no {n k:Nat} (h:n≤1000000) (hk:k≤1000):(9223372036854775807<k+n)=False:=eq_false zu4
theorem big_no2 {n k j:Nat} (h:n≤1000000) (hk:k≤1000) (hj:j≤1000):(9223372036854775807<k+n+j)=False:=eq_false zu4
theorem wrapB_c (d:Int) (single:Bool) (a:ByteArray) (ha:a.size≤1000000) (w:World) :
  Calls Tryz.prog 48 #[.int .i64 d,.bool single,.string a] w fun e w'=>e = .returned (.string (if d=0 then a else if d=1 then ⟨#[60,97,32,120,61]⟩++B [qB single]++a++B [qB single]++⟨#[62]⟩ else if d=2 then ⟨#[60,116,101,120,116,97,114,101,97,62]⟩++a++⟨#[60,47]⟩++⟨#[116,101,120,116,97,114,101,97]⟩++⟨#[62]⟩ else ⟨#[]⟩))∧Below w.heap.size w w':=by
 have f6:=big_no ha (show 6≤1000 by decide)
 have f61:=big_no2 ha (show 6≤1000 by decide) (show 1≤1000 by decide)
 have f611:=big_no2 ha (show 6≤1000 by decide) (show 1+1≤1000 by decide)
 have f612:=big_no2 ha (show 6≤1000 by decide) (show 2≤1000 by decide)
 have f10:=big_no ha (show 10≤1000 by decide)
 have f102:=big_no2 ha (show 10≤1000 by decide) (show 2≤1000 by decide)
 have fA:(9223372036854775807<6+a.size+1+1)=False:=eq_false zu4
 have fB:(9223372036854775807<10+a.size+2+8)=False:=eq_false zu4
 have fC:(9223372036854775807<10+a.size+2+8+1)=False:=eq_false zu4
 clear ha
 by_cases h0:d=0
 ·rw [if_pos h0]
  subst h0
  cases single<;>(
   go_enter Tryz.func48,Tryz.ntmps48
   go_wp2_with fail
   go_ret
   exact ⟨rfl,Below.refl _ _⟩)
 ·have n0:(d == 0)=false:=beq_eq_false_iff_ne.2 h0
  rw [if_neg h0]
  by_cases h1:d=1
  ·rw [if_pos h1]
   subst h1
   cases single<;>(
    go_enter Tryz.func48,Tryz.ntmps48
    go_wp2_with fail
    go_ret
    exact ⟨rfl,Below.refl _ _⟩)
  ·have n1:(d == 1)=false:=beq_eq_false_iff_ne.2 h1
   rw [if_neg h1]
   by_cases h2:d=2
   ·rw [if_pos h2]
    subst h2
    cases single<;>(
     go_enter Tryz.func48,Tryz.ntmps48
     go_wp2_with fail
     go_ret
     exact ⟨rfl,Below.refl _ _⟩)
   ·have n2:(d == 2)=false:=beq_eq_false_iff_ne.2 h2
    rw [if_neg h2]
    cases single<;>(
     go_enter Tryz.func48,Tryz.ntmps48
     go_wp2_with fail
     go_ret
     exact ⟨rfl,Below.refl _ _⟩)
theorem wrap_c (d:Int) (single:Bool) (s:List UInt8) (hs:s.length≤1000000) (w:World) :
  Calls Tryz.prog 48 #[.int .i64 d,.bool single,.string (B s)] w fun e w'=>e = .returned (.string (B (wrapL d single s)))∧Below w.heap.size w w':=by
 have h:=wrapB_c d single (B s) (by rw [size_B];exact hs) w
 have e:(if d=0 then B s else if d=1 then (⟨#[60,97,32,120,61]⟩:ByteArray)++B [qB single]++B s++B [qB single]++⟨#[62]⟩ else if d=2 then ⟨#[60,116,101,120,116,97,114,101,97,62]⟩++B s++⟨#[60,47]⟩++⟨#[116,101,120,116,97,114,101,97]⟩++⟨#[62]⟩ else ⟨#[]⟩)=B (wrapL d single s):=by
  unfold wrapL
  split
  ·rfl
  ·split
   ·show B [60,97,32,120,61]++B [qB single]++B s++B [qB single]++B [62]=_
    simp only [B_append]
    congr 1
    simp [attrO]
   ·split
    ·show B [60,116,101,120,116,97,114,101,97,62]++B s++B [60,47]++B [116,101,120,116,97,114,101,97]++B [62]=_
     simp only [B_append]
     congr 1
     simp [areaO,areaC]
    ·rfl
 rw [e] at h
 exact h
theorem wrapL_length (d:Int) (single:Bool) (s:List UInt8):(wrapL d single s).length≤s.length+30:=by
 unfold wrapL
 repeat' split
 all_goals simp [attrO,areaO,areaC]
def pkL (d:Nat) (l:List Tk):List UInt8×Bool:=if d=0 then onlyL l else if d=1 then valueL l else withinL l
def pkF (d:Nat):Nat:=if d=0 then 49 else if d=1 then 50 else 51
theorem pk_c (d:Nat) (l:List Tk) (hl:l.length≤1000000) (W:World) (v:Value) (b:Nat) (ok:Nat→Prop) (hV:Kd.V tkK 30 W b ok v (l.map ofK)) :
  Calls Tryz.prog (pkF d) #[v] W fun e w'=>e = .returned (.tuple #[.string (B (pkL d l).1),.bool (pkL d l).2])∧Below W.heap.size W w':=by
 obtain ⟨A,c,rfl⟩:=Kd.V_slice hV
 obtain ⟨_,h1,h2⟩:=Kd.V_reads' hV
 unfold pkF pkL
 by_cases h0:d=0
 ·rw [if_pos h0,if_pos h0]
  exact (context_only.calls A c (l.map ofK) _ _ W h2 h1 (only_f l)).mono fun e w' h=>⟨h.1,h.2.below⟩
 ·rw [if_neg h0,if_neg h0]
  by_cases h3:d=1
  ·rw [if_pos h3,if_pos h3]
   exact context_value.calls A c (l.map ofK) _ _ W h2 h1 (value_f l)
  ·rw [if_neg h3,if_neg h3]
   obtain ⟨k,hk⟩:=(within_ev l hl).rounds
   exact context_within.calls k A c (l.map ofK) _ _ W h2 h1 hk
theorem parse_in (d:Nat) (hd:d<3) (single:Bool) (s:List UInt8) (hs:s.length≤20000) (w:World) (hGl:Glob w) :
  Calls Tryz.prog 23 #[.int .i64 (d:Int),.bool single,.string (B s)] w fun e w'=>e = .returned (.tuple #[.string (B (pkL d (driveL (normL (wrapL d single s)))).1),.bool (pkL d (driveL (normL (wrapL d single s)))).2])∧Below w.heap.size w w':=by
 have hwl:=wrapL_length (d:Int) single s
 have hnl:=normL_length (wrapL (d:Int) single s)
 have WR:=Lib.hid (fun W=>wrap_c (d:Int) single s zu4 W)
 have NR:Hid (∀ W,Calls Tryz.prog 34 #[.string (B (wrapL (d:Int) single s))] W fun e w'=>e = .returned (.string (B (normL (wrapL (d:Int) single s))))∧Below W.heap.size W w'):=Lib.hid (fun W=>by
  have:=norm_any (B (wrapL (d:Int) single s)) W zu36
  rw [B_data] at this
  exact this)
 have DR:=Lib.hid (fun W hG=>drive_c (normL (wrapL (d:Int) single s)) zu4 W hG)
 have hdl:(driveL (normL (wrapL (d:Int) single s))).length≤1000000:=by
  have h1:=(drv_bd _ (normL (wrapL (d:Int) single s)) (Nat.le_refl _)).2
  have h2:=jn_len (drvL (normL (wrapL (d:Int) single s))) (drvL (normL (wrapL (d:Int) single s))).length
  have h3:jn (drvL (normL (wrapL (d:Int) single s))) (drvL (normL (wrapL (d:Int) single s))).length=driveL (normL (wrapL (d:Int) single s)):=by unfold jn driveL;rw [List.take_length,join_eq]
  rw [h3] at h2
  omega
 have PK:=Lib.hid (fun W v b ok hV=>pk_c d (driveL (normL (wrapL (d:Int) single s))) hdl W v b ok hV)
 generalize driveL (normL (wrapL (d:Int) single s))=L at DR PK ⊢
 generalize normL (wrapL (d:Int) single s)=S2 at NR DR
 obtain ⟨a1,h1⟩:∃ a,B (wrapL (d:Int) single s)=a:=⟨_,rfl⟩
 obtain ⟨a2,h2⟩:∃ a,B S2=a:=⟨_,rfl⟩
 obtain ⟨a0,h0⟩:∃ a,B s=a:=⟨_,rfl⟩
 rw [h1] at WR NR
 rw [h2] at NR DR
 rw [h0] at WR ⊢
 obtain ⟨⟨r1,r2⟩,hr⟩:∃ r,pkL d L=r:=⟨_,rfl⟩
 rw [hr] at PK ⊢
 dsimp only at PK ⊢
 obtain ⟨r1,hr1⟩:∃ r,B r1=r:=⟨_,rfl⟩
 rw [hr1] at PK ⊢
 clear hr1 hr h0 h1 h2 hwl hnl hdl
 have HS0:∀ (j:Nat) F,j=d→(#[Value.func (.func 49) #[] #[],.func (.func 50) #[] #[],.func (.func 51) #[] #[]]:Array Value)[j]? = some F→PxC w w.heap.size d F (((w.alloc (.cells #[.nilFunc,.nilFunc,.nilFunc] 73)).setRow w.heap.size #[Value.func (.func 49) #[] #[],.func (.func 50) #[] #[],.func (.func 51) #[] #[]]).drew):=fun j F hj hF=>by
  subst hj
  have hb:Below w.heap.size w ((w.alloc (.cells #[.nilFunc,.nilFunc,.nilFunc] 73)).setRow w.heap.size #[Value.func (.func 49) #[] #[],.func (.func 50) #[] #[],.func (.func 51) #[] #[]]):=by rw [World.setRow_alloc_new];exact below_alloc (Below.refl _ _) _
  exact ⟨⟨hGl.step (below_drew hb),below_drew hb⟩,(cell_setRow_same _ _ _ _ _ _ _ (heap_alloc_last w _)).trans hF⟩
 have HG:=Lib.hid hGl
 clear hs hGl
 have hd3:d=0∨d=1∨d=2:=by omega
 clear hd
 rcases hd3 with rfl|rfl|rfl
 ·have HS1:PxC w w.heap.size 0 (.func (.func 49) #[] #[]) (((w.alloc (.cells #[.nilFunc,.nilFunc,.nilFunc] 73)).setRow w.heap.size #[Value.func (.func 49) #[] #[],.func (.func 50) #[] #[],.func (.func 51) #[] #[]]).drew):=HS0 0 _ rfl rfl
  have e0:((0:Nat):Int)=0:=rfl
  rw [e0] at WR ⊢
  have HS2:=Lib.hid HS1
  clear HS0 HS1 e0
  go_enter Tryz.func23,Tryz.ntmps23
  go_wp2_with (first | (refine wpList_store_row rfl 73 (.tmp 8) (.tmp 9) rfl w.heap.size #[Value.func (.func 49) #[] #[],.func (.func 50) #[] #[],.func (.func 51) #[] #[]] rfl rfl 73 #[.nilFunc,.nilFunc,.nilFunc] (heap_alloc_last w _) zu13 rfl zu70 ?_))
  have HS:=HS2.out
  go_region_held3 (fun W=>(Glob W∧Below w.heap.size w W)∧W.cell? ⟨w.heap.size,0,none⟩=some (.func (.func 49) #[] #[])) (first|with_reducible assumption|with_reducible exact HS|exact PxC.call hb zu42) (first | (go_at_call 48;with_reducible refine (WR.out _).mono ?_;rintro e w' ⟨rfl,hb⟩) | (go_at_call 34;with_reducible refine (NR.out _).mono ?_;rintro e w' ⟨rfl,hb⟩) | (go_at_call 16;with_reducible refine (DR.out _ (And.left (And.left (by with_reducible assumption:PxC w w.heap.size 0 (.func (.func 49) #[] #[]) _)))).mono ?_;rintro e w' ⟨⟨v,rfl,hV⟩,hb⟩) | (go_at_call 49;refine (PK.out _ v _ _ zu57).mono ?_;rintro e w' ⟨rfl,hb⟩))
  have HB:=And.right (And.left (by with_reducible assumption:PxC w w.heap.size 0 (.func (.func 49) #[] #[]) w'))
  go_wp2_with fail
  go_ret2
  exact ⟨rfl,HB⟩
 ·have HS1:PxC w w.heap.size 1 (.func (.func 50) #[] #[]) (((w.alloc (.cells #[.nilFunc,.nilFunc,.nilFunc] 73)).setRow w.heap.size #[Value.func (.func 49) #[] #[],.func (.func 50) #[] #[],.func (.func 51) #[] #[]]).drew):=HS0 1 _ rfl rfl
  have e0:((1:Nat):Int)=1:=rfl
  rw [e0] at WR ⊢
  have HS2:=Lib.hid HS1
  clear HS0 HS1 e0
  go_enter Tryz.func23,Tryz.ntmps23
  go_wp2_with (first | (refine wpList_store_row rfl 73 (.tmp 8) (.tmp 9) rfl w.heap.size #[Value.func (.func 49) #[] #[],.func (.func 50) #[] #[],.func (.func 51) #[] #[]] rfl rfl 73 #[.nilFunc,.nilFunc,.nilFunc] (heap_alloc_last w _) zu13 rfl zu70 ?_))
  have HS:=HS2.out
  go_region_held3 (fun W=>(Glob W∧Below w.heap.size w W)∧W.cell? ⟨w.heap.size,1,none⟩=some (.func (.func 50) #[] #[])) (first|with_reducible assumption|with_reducible exact HS|exact PxC.call hb zu42) (first | (go_at_call 48;with_reducible refine (WR.out _).mono ?_;rintro e w' ⟨rfl,hb⟩) | (go_at_call 34;with_reducible refine (NR.out _).mono ?_;rintro e w' ⟨rfl,hb⟩) | (go_at_call 16;with_reducible refine (DR.out _ (And.left (And.left (by with_reducible assumption:PxC w w.heap.size 1 (.func (.func 50) #[] #[]) _)))).mono ?_;rintro e w' ⟨⟨v,rfl,hV⟩,hb⟩) | (go_at_call 50;refine (PK.out _ v _ _ zu57).mono ?_;rintro e w' ⟨rfl,hb⟩))
  have HB:=And.right (And.left (by with_reducible assumption:PxC w w.heap.size 1 (.func (.func 50) #[] #[]) w'))
  go_wp2_with fail
  go_ret2
  exact ⟨rfl,HB⟩
 ·have HS1:PxC w w.heap.size 2 (.func (.func 51) #[] #[]) (((w.alloc (.cells #[.nilFunc,.nilFunc,.nilFunc] 73)).setRow w.heap.size #[Value.func (.func 49) #[] #[],.func (.func 50) #[] #[],.func (.func 51) #[] #[]]).drew):=HS0 2 _ rfl rfl
  have e0:((2:Nat):Int)=2:=rfl
  rw [e0] at WR ⊢
  have HS2:=Lib.hid HS1
  clear HS0 HS1 e0
  go_enter Tryz.func23,Tryz.ntmps23
  go_wp2_with (first | (refine wpList_store_row rfl 73 (.tmp 8) (.tmp 9) rfl w.heap.size #[Value.func (.func 49) #[] #[],.func (.func 50) #[] #[],.func (.func 51) #[] #[]] rfl rfl 73 #[.nilFunc,.nilFunc,.nilFunc] (heap_alloc_last w _) zu13 rfl zu70 ?_))
  have HS:=HS2.out
  go_region_held3 (fun W=>(Glob W∧Below w.heap.size w W)∧W.cell? ⟨w.heap.size,2,none⟩=some (.func (.func 51) #[] #[])) (first|with_reducible assumption|with_reducible exact HS|exact PxC.call hb zu42) (first | (go_at_call 48;with_reducible refine (WR.out _).mono ?_;rintro e w' ⟨rfl,hb⟩) | (go_at_call 34;with_reducible refine (NR.out _).mono ?_;rintro e w' ⟨rfl,hb⟩) | (go_at_call 16;with_reducible refine (DR.out _ (And.left (And.left (by with_reducible assumption:PxC w w.heap.size 2 (.func (.func 51) #[] #[]) _)))).mono ?_;rintro e w' ⟨⟨v,rfl,hV⟩,hb⟩) | (go_at_call 51;refine (PK.out _ v _ _ zu57).mono ?_;rintro e w' ⟨rfl,hb⟩))
  have HB:=And.right (And.left (by with_reducible assumption:PxC w w.heap.size 2 (.func (.func 51) #[] #[]) w'))
  go_wp2_with fail
  go_ret2
  exact ⟨rfl,HB⟩
theorem parse_out (d:Int) (hd:d<0∨2<d) (single:Bool) (a:ByteArray) (w:World) :
  Calls Tryz.prog 23 #[.int .i64 d,.bool single,.string a] w fun e w'=>e = .returned (.tuple #[.string ⟨#[]⟩,.bool false])∧Below w.heap.size w w':=by
 have hb:Below w.heap.size w ((w.alloc (.cells #[.nilFunc,.nilFunc,.nilFunc] 73)).setRow w.heap.size #[Value.func (.func 49) #[] #[],.func (.func 50) #[] #[],.func (.func 51) #[] #[]]):=by rw [World.setRow_alloc_new];exact below_alloc (Below.refl _ _) _
 have HB:=Lib.hid hb
 clear hb
 by_cases h:d<0
 ·have q:decide (d<0)=true:=decide_eq_true h
  clear hd h
  go_enter Tryz.func23,Tryz.ntmps23
  go_wp2_with (first | (refine wpList_store_row rfl 73 (.tmp 8) (.tmp 9) rfl w.heap.size #[Value.func (.func 49) #[] #[],.func (.func 50) #[] #[],.func (.func 51) #[] #[]] rfl rfl 73 #[.nilFunc,.nilFunc,.nilFunc] (heap_alloc_last w _) zu13 rfl zu70 ?_))
  go_ret2
  exact ⟨rfl,HB.out⟩
 ·have q:decide (d<0)=false:=decide_eq_false h
  have q2:decide (d≥3)=true:=decide_eq_true zu4
  have q3:decide (3≤d)=true:=decide_eq_true zu4
  clear hd h
  go_enter Tryz.func23,Tryz.ntmps23
  go_wp2_with (first | (refine wpList_store_row rfl 73 (.tmp 8) (.tmp 9) rfl w.heap.size #[Value.func (.func 49) #[] #[],.func (.func 50) #[] #[],.func (.func 51) #[] #[]] rfl rfl 73 #[.nilFunc,.nilFunc,.nilFunc] (heap_alloc_last w _) zu13 rfl zu70 ?_))
  go_ret2
  exact ⟨rfl,HB.out⟩
theorem parse_c (d:Int) (single:Bool) (s:List UInt8) (hs:s.length≤20000) (w:World) (hGl:Glob w) :
  Calls Tryz.prog 23 #[.int .i64 d,.bool single,.string (B s)] w fun e w'=>e = .returned (.tuple #[.string (B (parseL d single s).1),.bool (parseL d single s).2])∧Below w.heap.size w w':=by
 by_cases h:d<0∨2<d
 ·have e:parseL d single s=([],false):=by unfold parseL;rw [if_neg zu4,if_neg zu4,if_neg zu4]
  rw [e]
  exact parse_out d h single _ w
 ·obtain ⟨n,rfl⟩:=Int.eq_ofNat_of_zero_le (show 0≤d by omega)
  have hn:n<3:=by omega
  have e:parseL (n:Int) single s=pkL n (driveL (normL (wrapL n single s))):=by
   unfold parseL pkL
   by_cases h0:n=0
   ·rw [if_pos zu4,if_pos h0]
   ·rw [if_neg zu4,if_neg h0]
    by_cases h1:n=1
    ·rw [if_pos zu4,if_pos h1]
    ·rw [if_neg zu4,if_neg h1,if_pos zu4]
  rw [e]
  exact parse_in n hn single s hs w hGl
end Hand
end

end Go.Proofs.YtclkdmmgibgamaaGreatDoor