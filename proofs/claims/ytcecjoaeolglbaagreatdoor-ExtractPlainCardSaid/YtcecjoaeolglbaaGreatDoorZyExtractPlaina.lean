/-
  Texts of the claim ExtractPlain, merged by a program of this session (1).
-/
import Derived.Test.YtcecjoaeolglbaaGreatDoorZxg
import Derived.Below
import Derived.Deep.Draws
import Derived.Deep.AppendLies
import Derived.Maps.AppendAt
import Derived.OwnWalk
import Derived.Laws.BytesArg
import Derived.Laws.MakeOwn
import Derived.Laws.OwnMore
import Derived.Deep.OwnRows
import Derived.Tactics
import Derived.Lib.ConvBytes
import Derived.Laws.Slices
import Derived.WalkKit
import Derived.KernelRfl
import Derived.RowKit3
import Derived.Deep.LoopGhost
import Derived.Deep.QuietTactic
import Derived.BigQuiet
import Derived.WideLaws
import Derived.Deep.DeepCutAuto
import Derived.Deep.CutBlock
import Derived.Deep.RegionHeld3
import Derived.Laws.Rows
import Derived.Lib.AppendStr
import Derived.ArgAppend
import Derived.Laws.IdiomCopy
import Derived.RowKit
import Derived.Test.YtcecjoaeolglbaaGreatDoorProg
import Derived.OrdersHeld
import Derived.Laws.BitsLemmas
import Derived.Laws.Runes
import Derived.RangeFuncOwn
import Derived.RangeFuncKeeps
import Derived.Laws.RangeString
import Derived.LoopN
import Derived.StillTailTactics
import Derived.IntWalk
import Derived.Lib.SlBytesConst
import Derived.SizedLaws
import Derived.ChangeSlices
set_option linter.unusedVariables false
set_option linter.unusedSimpArgs false
namespace Foot
end Foot
namespace Go.Proofs
end Go.Proofs
namespace Go.Proofs.YtcecjoaeolglbaaGreatDoor.Hand
end Go.Proofs.YtcecjoaeolglbaaGreatDoor.Hand
namespace Go.Proofs.YtcecjoaeolglbaaGreatDoor.K0
end Go.Proofs.YtcecjoaeolglbaaGreatDoor.K0
namespace Go.Proofs.YtcecjoaeolglbaaGreatDoor.Pb
end Go.Proofs.YtcecjoaeolglbaaGreatDoor.Pb
namespace Go.Proofs.YtcecjoaeolglbaaGreatDoor.Pcb
end Go.Proofs.YtcecjoaeolglbaaGreatDoor.Pcb
namespace Go.Proofs.YtcecjoaeolglbaaGreatDoor.Pcm
end Go.Proofs.YtcecjoaeolglbaaGreatDoor.Pcm
namespace Go.Proofs.YtcecjoaeolglbaaGreatDoor.Pl
end Go.Proofs.YtcecjoaeolglbaaGreatDoor.Pl
namespace Go.Proofs.YtcecjoaeolglbaaGreatDoor.Psx
end Go.Proofs.YtcecjoaeolglbaaGreatDoor.Psx
namespace Go.Proofs.YtcecjoaeolglbaaGreatDoor.Pure
end Go.Proofs.YtcecjoaeolglbaaGreatDoor.Pure
namespace Go.Proofs.YtcecjoaeolglbaaGreatDoor.RowKit
end Go.Proofs.YtcecjoaeolglbaaGreatDoor.RowKit
namespace Go.Proofs.YtcecjoaeolglbaaGreatDoor.Sa
end Go.Proofs.YtcecjoaeolglbaaGreatDoor.Sa
namespace Go.Proofs.YtcecjoaeolglbaaGreatDoor.Sf
end Go.Proofs.YtcecjoaeolglbaaGreatDoor.Sf
namespace Go.Proofs.YtcecjoaeolglbaaGreatDoor.Si
end Go.Proofs.YtcecjoaeolglbaaGreatDoor.Si
namespace Go.Proofs.YtcecjoaeolglbaaGreatDoor.Sk
end Go.Proofs.YtcecjoaeolglbaaGreatDoor.Sk
namespace Go.Proofs.YtcecjoaeolglbaaGreatDoor.St
end Go.Proofs.YtcecjoaeolglbaaGreatDoor.St
namespace Go.Proofs.YtcecjoaeolglbaaGreatDoor.Sx
end Go.Proofs.YtcecjoaeolglbaaGreatDoor.Sx
namespace Go.Proofs.YtcecjoaeolglbaaGreatDoor.Sz
end Go.Proofs.YtcecjoaeolglbaaGreatDoor.Sz
namespace Go.Proofs.YtcecjoaeolglbaaGreatDoorW.PrintLast
end Go.Proofs.YtcecjoaeolglbaaGreatDoorW.PrintLast
namespace Go.Proofs.YtcecjoaeolglbaaGreatDoorW.PrintMore
end Go.Proofs.YtcecjoaeolglbaaGreatDoorW.PrintMore
namespace Go.Proofs.YtcecjoaeolglbaaGreatDoorW.PrintWords
end Go.Proofs.YtcecjoaeolglbaaGreatDoorW.PrintWords
namespace Kd
end Kd

section
set_option linter.unusedVariables false
set_option linter.unusedSimpArgs false
namespace Go.Proofs.YtcecjoaeolglbaaGreatDoorW.PrintWords
open Go.RowKit
def rd (xs:List Int) (i:Int):Int:=xs.getD i.toNat 0
theorem own_string {P:Program} {w:World} {base n:Nat} {e' src dst e:TypeId} {v:Value} {xs:List Int} (hs:P.underlying src=some (.slice e)) (he:P.underlying e=some (.int .u8)) (hd:P.underlying dst=some .string)
  (h:w.ownsRow base e' 1 v n (nums .u8 xs)):(convert src dst v).run P w = .ok (.string (strOfNums xs)) w:=by
 have hl:xs.length=n:=by have:=h.1;simp [nums] at this;exact this
 rcases h.2 with ⟨rfl,rfl⟩|⟨g,cap,cur,rfl,_⟩
 · obtain rfl:xs=[]:=List.eq_nil_of_length_eq_zero hl
   exact run_convert_bytes_nil w src e hs he 0 0 dst hd
 · refine run_convert_bytes_arg w src e hs he g 0 n cap xs hl (fun i hi => ?_) dst hd
   have hc:=h.cells (g:=g) rfl i (.int .u8 (xs.getD i 0)) (by simp [nums,List.getElem?_eq_getElem (show i<xs.length by omega),List.getD_eq_getElem?_getD])
   have ha:(⟨g,0,none⟩:Addr).add i=⟨g,0+i,none⟩:=by unfold Addr.add;split<;>simp_all
   rwa [ha] at hc
section
variable {P : Program} {ops : Array Oper} {rest : List Oper} {o : Oper} {a : Act} {Q : Exit → Act → World → Prop}
end
section
variable {P : Program}
end
section
variable {P : Program} {ops : Array Oper} {rest : List Oper} {o : Oper} {a : Act} {Q : Exit → Act → World → Prop}
end
def LeO {α:Type} (a b:Option α):Prop := ∀ r,a=some r→b=some r
theorem LeO.refl {α:Type} (a:Option α):LeO a a:=fun _ h=>h
theorem LeO.none {α:Type} (b:Option α):LeO Option.none b:=fun _ h=>by cases h
theorem LeO.trans {α:Type} {a b c:Option α} (h:LeO a b) (k:LeO b c):LeO a c:=fun r hr=>k r (h r hr)
theorem more_rounds {α:Type} {g:Nat→Option α} (h:∀ k,LeO (g k) (g (k+1))) (k:Nat):∀ j,LeO (g k) (g (k+j))
 | 0=>LeO.refl _
 | j+1=>(more_rounds h k j).trans (h (k+j))
theorem at_rounds {α:Type} {g:Nat→Option α} (h:∀ k,LeO (g k) (g (k+1))) {k k':Nat} (hk:k≤k') {r:α} (hr:g k=some r):g k'=some r:=by
 have:=more_rounds h k (k' - k) r hr
 rwa [Nat.add_sub_cancel' hk] at this
section
variable {P : Program} {ops : Array Oper} {rest : List Oper} {o : Oper} {a : Act} {Q : Exit → Act → World → Prop}
end
theorem KeepBut.blk {w w1:World} {g g':Nat} {row:Option Nat} {o:Obj} (h:KeepBut w w1 g row) (hb:w.heap[g']? = some o) (hg:g'≠g) (hr:some g'≠row):w1.heap[g']? = some o:=(h.2 g' (blk_lt hb) hg hr).trans hb
theorem KeepBut.own {w w1:World} {g:Nat} {row:Option Nat} {base:Nat} {e:TypeId} {size n:Nat} {v:Value} {xs:List Value} (h:KeepBut w w1 g row) (ho:w.ownsRow base e size v n xs) (hg:v.ownBlock≠some g) (hr:v.ownBlock=none∨v.ownBlock≠row):w1.ownsRow base e size v n xs:=by
 obtain ⟨h1,h2⟩:=ho
 refine ⟨h1,?_⟩
 rcases h2 with h2|⟨b,cap,cur,rfl,hb,hh,r⟩
 · exact .inl h2
 · refine .inr ⟨b,cap,cur,rfl,hb,h.blk hh ?_ ?_,r⟩
   · intro e
     exact hg (by rw [← e];rfl)
   · rcases hr with hr|hr
     · simp [Value.ownBlock] at hr
     · exact hr
theorem Ev.of {α:Type} {g:Nat→Option α} {r:α} (hg:∀ k,LeO (g k) (g (k+1))) {k:Nat} (h:g k=some r):Ev g r:=⟨k,fun _ hk=>at_rounds hg hk h⟩
section
variable {P : Program} {ops : Array Oper} {o : Oper} {a : Act} {Q : Exit → Act → World → Prop} {K : Act → World → Prop}
end
section
variable {α : Type} {enc : α → Value} {d : α}
def encs (enc:α→Value) (xs:List α):List Value:=xs.map enc
theorem encs_length (xs:List α):(encs enc xs).length=xs.length:=by simp [encs]
end
section
variable {α : Type} {P : Program} {ops : Array Oper} {rest : List Oper} {o : Oper} {a : Act} {Q : Exit → Act → World → Prop}
end
section
variable {P : Program}
end
section
variable {α : Type} {R R' : α → List Value → Prop} {e : TypeId} {size : Nat} {w w1 : World} {base : Nat} {v : Value} {ps : List α}
end
section
variable {P : Program} {ops : Array Oper} {rest : List Oper} {o : Oper} {a : Act} {Q : Exit → Act → World → Prop} {α : Type} {R : α → List Value → Prop}
end
section
variable {P : Program} {ops : Array Oper} {o : Oper} {a : Act} {Q : Exit → Act → World → Prop} {K : Act → World → Prop} {α : Type} {R : α → List Value → Prop}
end
section
variable {α : Type} {P : Program}
end
section
variable {P : Program} {ops : Array Oper} {rest : List Oper} {o : Oper} {a : Act} {Q : Exit → Act → World → Prop}
end
namespace Kd
section
variable {α : Type} {d : Kd α} {e : Nat} {w w1 : World} {base : Nat} {ok ok' : Nat → Prop} {v : Value} {xs : List α}
end
section
variable {P : Program} {ops : Array Oper} {rest : List Oper} {o : Oper} {a : Act} {Q : Exit → Act → World → Prop} {α : Type}
end
section
variable {P : Program} {ops : Array Oper} {o : Oper} {a : Act} {Q : Exit → Act → World → Prop} {Kc : Act → World → Prop} {α : Type}
end
theorem own_of_R {α:Type} {enc:α→Value} {h1:∀ x,(enc x).oneCell'=true} {e:Nat} {w:World} {base:Nat} {ok:Nat→Prop} {v:Value} {xs:List α} (h:(scalar enc h1).R e w base ok v xs):w.ownsRow base e 1 v xs.length (encs enc xs):=by
 obtain ⟨_,inner,ho,hr⟩:=h
 have:inner=encs enc xs:=by
  apply List.ext_getElem?
  intro j
  rcases Nat.lt_or_ge j xs.length with hj|hj
  · have h2:=hr.2 j _ (List.getElem?_eq_getElem hj)
    have hl:j<inner.length:=by have:=hr.1;simp [scalar] at this;omega
    have h3:(inner.drop (j*1)).take 1=[enc xs[j]]:=h2
    rw [Nat.mul_one,List.drop_eq_getElem_cons hl] at h3
    have h4:inner[j]=enc xs[j]:=by
     have h5:=congrArg List.head? h3
     rw [List.take_succ_cons] at h5
     exact Option.some.inj h5
    rw [List.getElem?_eq_getElem hl,h4]
    simp [encs,List.getElem?_eq_getElem hj]
  · have h3:inner.length=xs.length:=by have:=hr.1;simp [scalar] at this;omega
    rw [List.getElem?_eq_none (by omega),List.getElem?_eq_none (by rw [encs_length];omega)]
 rw [← this]
 exact ho
theorem C_of_reads {α:Type} {enc:α→Value} {d:α} {h1:∀ x,(enc x).oneCell'=true} {w:World} {A:Option Addr} {n:Nat} {xs:List α} (h:ReadsOf enc d w A n xs):(scalar enc h1).C w A n xs:=by
 refine ⟨h.1,h.2.1,fun hn => ?_⟩
 obtain ⟨ad,e,hc⟩:=h.2.2 hn
 refine ⟨ad,e,fun j p hj=>⟨[enc p],rfl,rfl,fun i u hu => ?_⟩⟩
 obtain ⟨hl,hp⟩:=List.getElem?_eq_some_iff.1 hj
 have h2:=hc j (by have:=h.1;omega)
 rw [List.getD_eq_getElem?_getD,hj] at h2
 cases i with
 | zero =>
   have:enc p=u:=by simpa using hu
   subst this
   simpa [scalar] using h2
 | succ i=>simp at hu
end Kd
namespace Kd
section
variable {α : Type} {F : Kd α → Kd α} {sz : Nat} {E : List Nat} {hs : ∀ n, (upto F sz E n).sz = sz} {hE : ∀ n q, q ∈ (upto F sz E n).E → q ∈ E}
end
end Kd
namespace Kd
end Kd
namespace Kd
section
variable {α β : Type} {d : Kd α} {d' : Kd β} {e e' : Nat} {w w1 W : World} {base b b' : Nat} {ok ok' okv oku : Nat → Prop} {v u : Value} {xs : List α} {ys : List β}
end
section
variable {w W : World} {A : Option Addr} {n : Nat}
theorem at_int {k:IntKind} {xs:List Int} (h:(Kd.int k).C w A n xs) (i:Int) (h0:0≤i) (h1:i<n):∃ ad,A=some ad∧w.cell? (ad.add i.toNat)=some (.int k (rd xs i)) :=
 ReadsOf.at_ (reads_of_C (enc:=Value.int k) (d:=(0:Int)) (h1:=fun _=>rfl) h) i h0 h1
variable {α : Type} {enc : α → Value} {h1 : ∀ x, (enc x).oneCell' = true} {e base g cap : Nat} {ok : Nat → Prop} {xs : List α}
end
section
variable {P : Program} {ops : Array Oper} {rest : List Oper} {o : Oper} {a : Act} {Q : Exit → Act → World → Prop}
variable {α : Type}
end
end Kd
section
variable {P : Program}
end
section
variable {w w1 : World} {base n size : Nat} {e : TypeId} {v : Value} {xs : List Value}
end
section
variable {P : Program}
end
namespace Kd
section
variable {α : Type} {d : Kd α} {e : Nat} {w w1 W : World} {base : Nat} {ok ok' : Nat → Prop} {v : Value} {xs : List α}
end
section
variable {P : Program} {ops : Array Oper} {rest : List Oper} {o : Oper} {a : Act} {Q' : Exit → Act → World → Prop} {Kc : Act → World → Prop} {α : Type}
end
end Kd
namespace Kd
section
variable {α : Type} {d : Kd α} {e e' : Nat} {w w1 W : World} {base : Nat} {ok : Nat → Prop} {u v : Value} {xs : List α}
end
end Kd
namespace Kd
section
variable {α : Type} {d : Kd α} {e base g n cap : Nat} {ok okp : Nat → Prop} {W : World} {xs : List α}
end
end Kd
namespace Kd
section
variable {α : Type} {F : Kd α → Kd α} {sz : Nat} {E : List Nat} {hs : ∀ n, (upto F sz E n).sz = sz} {hE : ∀ n q, q ∈ (upto F sz E n).E → q ∈ E}
end
end Kd
namespace Kd
section
variable {P : Program} {ops : Array Oper} {rest : List Oper} {o : Oper} {a : Act} {Q : Exit → Act → World → Prop} {α : Type}
end
end Kd
namespace Kd
section
variable {P : Program} {ops : Array Oper} {rest : List Oper} {o : Oper} {a : Act} {Q : Exit → Act → World → Prop} {α : Type}
end
end Kd
namespace Kd
section
variable {α : Type} {k : Kd α} {w : World} {A : Option Addr} {xs : List α} {m c : Nat}
end
end Kd
section
variable {P : Program}
end
theorem string_of_reads {P:Program} {w:World} {src dst e:TypeId} {A:Option Addr} {n c:Nat} {xs:List Int} (hs:P.underlying src=some (.slice e)) (he:P.underlying e=some (.int .u8)) (hd:P.underlying dst=some .string)
  (h:ReadsInt w .u8 A n xs):(convert src dst (.slice A n c)).run P w = .ok (.string (strOfNums xs)) w:=by
 have hn:xs.length=n:=h.1
 rcases A with _|ad
 · have h0:n=0:=by
    rcases Nat.eq_zero_or_pos n with h0|h0
    · exact h0
    · obtain ⟨ad,h',_⟩:=h.2.2 h0
      cases h'
   subst h0
   obtain rfl:xs=[]:=List.eq_nil_of_length_eq_zero hn
   exact run_convert_bytes_nil w src e hs he 0 c dst hd
 · have hl:(loadCells ad n).run P w = .ok (xs.map (Value.int .u8)).toArray w:=by
    have:=run_loadCells_list (P:=P) w ad (xs.map (Value.int .u8)) (fun j v hj=>by
     have hjl:j<xs.length:=by
      rcases Nat.lt_or_ge j xs.length with h'|h'
      · exact h'
      · rw [List.getElem?_eq_none (by rw [List.length_map];exact h')] at hj
        cases hj
     obtain ⟨ad',he',hc⟩:=h.2.2 (by omega)
     injection he' with he'
     subst he'
     rw [hc j (by omega)]
     rw [List.getElem?_map,List.getElem?_eq_getElem hjl] at hj
     simp at hj
     subst hj
     simp [List.getD_eq_getElem?_getD,List.getElem?_eq_getElem hjl])
    simpa [hn] using this
   rw [run_convert_bytes_string w src dst e _ n c hs he hd,run_bytesToString w ad n c xs hl,foldl_push_bytes]
   simp [strOfNums,ByteArray.empty,ByteArray.emptyWithCapacity]
   rfl
theorem Kd.C_string {P:Program} {w:World} {src dst e:TypeId} {A:Option Addr} {n c:Nat} {xs:List Int} (hs:P.underlying src=some (.slice e)) (he:P.underlying e=some (.int .u8)) (hd:P.underlying dst=some .string)
  (h:(Kd.int .u8).C w A n xs):(convert src dst (.slice A n c)).run P w = .ok (.string (strOfNums xs)) w :=
 string_of_reads hs he hd (Kd.reads_of_C (enc:=Value.int .u8) (d:=(0:Int)) (h1:=fun _=>rfl) h)
theorem ReadsInt.nil (W:World) (k:IntKind):ReadsInt W k none ([]:List Int).length []:=⟨rfl,by simp,fun h=>absurd h (Nat.lt_irrefl 0)⟩
theorem ReadsInt.ofRow {k:IntKind} {w:World} {a:Option Addr} {len cap:Nat} {zs:List Int} (h:(a=none∧len=0∧cap=0∧zs=[])∨∃ x,a=some x∧len≤cap∧cap≤maxLen∧zs.length=cap∧(∀ i,i<zs.length→w.cell? (x.add i)=some (.int k (zs.getD i 0)))∧∀ n∈zs,(Lit.int k n).wf=true) :
  ∃ l:List Int,len=l.length∧ReadsInt w k a l.length l∧l.length≤maxLen∧∀ x∈l,(Lit.int k x).wf=true:=by
 rcases h with ⟨rfl,rfl,rfl,rfl⟩|⟨x,rfl,hl,hm,hz,hc,hw⟩
 · exact ⟨[],rfl,ReadsInt.nil _ _,Nat.zero_le _,fun x hx=>by simp at hx⟩
 · have e:(zs.take len).length=len:=by simp;omega
   have hm':len≤maxLen:=Nat.le_trans hl hm
   refine ⟨zs.take len,e.symm,⟨rfl,by rw [e];simpa [maxLen] using hm',fun _=>⟨x,rfl,fun j hj => ?_⟩⟩,by rw [e];exact hm',fun y hy=>hw y (List.mem_of_mem_take hy)⟩
   rw [e] at hj
   rw [hc j (by omega)]
   simp [List.getD,List.getElem?_take,hj]
theorem ReadsInt.ofRowC {k:IntKind} {w:World} {a:Option Addr} {len cap:Nat} {zs:List Int} (h:(a=none∧len=0∧cap=0∧zs=[])∨∃ x,a=some x∧len≤cap∧cap≤maxLen∧zs.length=cap∧(∀ i,i<zs.length→w.cell? (x.add i)=some (.int k (zs.getD i 0)))∧∀ n∈zs,(Lit.int k n).wf=true) :
  ∃ l:List Int,len=l.length∧ReadsInt w k a l.length l∧l.length≤maxLen∧(∀ x∈l,(Lit.int k x).wf=true)∧l.length≤cap:=by
 have hl:len≤cap:=by
  rcases h with ⟨_,rfl,rfl,_⟩|⟨_,_,h,_⟩
  · exact Nat.le_refl _
  · exact h
 obtain ⟨l,e,h1,h2,h3⟩:=ReadsInt.ofRow h
 exact ⟨l,e,h1,h2,h3,e ▸ hl⟩
namespace Kd
section
variable {α β : Type} {d : Kd α} {d' : Kd β} {e e' base base' n : Nat} {ok ok' : Nat → Prop} {w W w1 W1 : World} {v u : Value} {xs : List α} {ys : List β} {A : Option Addr} {c : Nat}
end
section
variable {α : Type} {enc : α → Value} {h1 : ∀ x, (enc x).oneCell' = true} {w W : World} {A : Option Addr} {n g : Nat} {xs : List α}
end
end Kd
namespace Kd
section
variable {α : Type} {d : Kd α} {e base g : Nat} {ok : Nat → Prop} {w w1 : World} {v : Value} {xs : List α} {o : Obj}
end
end Kd
section
variable {P : Program} {ops : Array Oper} {rest : List Oper} {o : Oper} {a : Act} {Q : Exit → Act → World → Prop}
end
namespace Kd
section
variable {α : Type} {enc : α → Value} {h1 : ∀ x, (enc x).oneCell' = true} {e base g n cap : Nat} {ok : Nat → Prop} {W : World} {xs : List α}
end
end Kd
section
variable {P : Program} {ops : Array Oper} {rest : List Oper} {o : Oper} {a : Act} {Q : Exit → Act → World → Prop}
end
namespace Kd
section
variable {α : Type} {enc : α → Value} {h1 : ∀ x, (enc x).oneCell' = true} {e base g n cap : Nat} {ok : Nat → Prop} {W : World} {xs : List α}
end
end Kd
section
variable {P : Program} {ops : Array Oper} {rest : List Oper} {o : Oper} {a : Act} {Q : Exit → Act → World → Prop} {W : World}
end
section
variable {P : Program} {ops : Array Oper} {o : Oper} {a : Act} {Q : Exit → Act → World → Prop} {Kc : Act → World → Prop}
namespace Kd
variable {α : Type}
end Kd
end
section
variable {P : Program} {tmps : Array Value} {w : World}
end
namespace Kd
section
variable {P : Program} {α : Type}
end
section
variable {P : Program} {ops : Array Oper} {rest : List Oper} {o : Oper} {a : Act} {Q : Exit → Act → World → Prop} {Kc : Act → World → Prop} {α : Type}
end
end Kd
end Go.Proofs.YtcecjoaeolglbaaGreatDoorW.PrintWords
end

section
namespace Go.Proofs.YtcecjoaeolglbaaGreatDoorW.PrintWords
open Go.RowKit
namespace Kd
section
variable {α β : Type} {d : Kd α} {d' : Kd β} {e e' : Nat} {w w1 W : World} {base b : Nat} {ok ok' okv oku : Nat → Prop} {u v : Value} {xs : List α} {ys : List β}
end
section
variable {α β : Type} {d : Kd α} {d' : Kd β} {e e' g : Nat} {w w1 W : World} {base b : Nat} {ok ok' okv oku : Nat → Prop} {u v : Value} {xs : List α} {ys : List β}
end
section
variable {P : Program} {ops : Array Oper} {rest : List Oper} {o : Oper} {a : Act} {Q : Exit → Act → World → Prop} {Kc : Act → World → Prop} {α : Type}
end
def gap {α:Type} (f:Nat→Nat) (d:Kd α) (i:Nat) (c:List Value):Kd (α×Nat) where
 sz:=d.sz
 E:=d.E
 K:=fun w x cs=>(x.2=i→cs=c∧cs.length=d.sz∧∀ u∈cs,u.oneCell'=true)∧(x.2≠i→d.K w x.1 cs)
 M:=fun w base ok x cs=>(x.2=i→cs=c∧cs.length=d.sz∧∀ u∈cs,u.oneCell'=true)∧(x.2≠i→d.M w base (fun k=>ok k∧f k=x.2) x.1 cs)
 K_len:=fun {w x cs} h=>by
  by_cases hx:x.2=i
  · exact (h.1 hx).2.1
  · exact d.K_len (h.2 hx)
 K_one:=fun {w x cs} h=>by
  by_cases hx:x.2=i
  · exact (h.1 hx).2.2
  · exact d.K_one (h.2 hx)
 K_below:=fun hb h=>⟨h.1,fun hx=>d.K_below hb (h.2 hx)⟩
 K_of_M:=fun h=>⟨h.1,fun hx=>d.K_of_M (h.2 hx)⟩
 M_mono:=fun hok h=>⟨h.1,fun hx=>d.M_mono (fun k hk=>⟨hok k hk.1,hk.2⟩) (h.2 hx)⟩
 M_bound:=fun h=>⟨h.1,fun hx=>d.M_mono (fun _ hk=>⟨⟨hk.1.1,hk.2⟩,hk.1.2⟩) (d.M_bound (h.2 hx))⟩
 M_move:=fun hm h=>⟨h.1,fun hx=>d.M_move (fun k hk=>hm k hk.1) (h.2 hx)⟩
 M_lower:=fun hb h=>⟨h.1,fun hx=>d.M_lower hb (h.2 hx)⟩
def H {α:Type} (d:Kd α) (e:Nat) (w:World) (base:Nat) (ok:Nat→Prop) (v:Value) (xs:List α) (i:Int) (oki:Nat→Prop) (c:List Value):Prop :=
 (∀ k,oki k→ok k)∧∃ f,(gap f d i.toNat c).R e w base (fun k=>ok k∧¬ oki k) v xs.zipIdx
section
variable {α β : Type} {d : Kd α} {e e' g n cap : Nat} {w w1 W : World} {base : Nat} {ok ok' oki okp : Nat → Prop} {u v : Value} {xs : List α} {i : Int} {c : List Value}
end
section
variable {P : Program} {ops : Array Oper} {rest : List Oper} {o : Oper} {a : Act} {Q : Exit → Act → World → Prop} {α : Type}
end
end Kd
end Go.Proofs.YtcecjoaeolglbaaGreatDoorW.PrintWords
end

section
namespace Go.Proofs.YtcecjoaeolglbaaGreatDoorW.PrintWords
open Go.RowKit
namespace Kd
structure Heap {α:Type} (d:Kd α):Prop where
 K:∀ {w w1:World} {x:α} {cs:List Value},(∀ k,k<w.heap.size→w1.heap[k]? = w.heap[k]?)→d.K w x cs→d.K w1 x cs
theorem cell_heap {w w1:World} (hb:∀ k,k<w.heap.size→w1.heap[k]? = w.heap[k]?) {a:Addr} {v:Value} (h:w.cell? a=some v):w1.cell? a=some v:=by
 have:=hb a.block (World.block_lt_of_cell? w a h)
 simpa [World.cell?,this] using h
theorem Heap.C {α:Type} {d:Kd α} (hd:Heap d) {w w1:World} {A:Option Addr} {n:Nat} {xs:List α} (hb:∀ k,k<w.heap.size→w1.heap[k]? = w.heap[k]?) (h:d.C w A n xs):d.C w1 A n xs :=
 ⟨h.1,h.2.1,fun hn=>by
   obtain ⟨ad,e,hc⟩:=h.2.2 hn
   refine ⟨ad,e,fun j p hj => ?_⟩
   obtain ⟨c,hs,hr,hcell⟩:=hc j p hj
   exact ⟨c,hs,hd.K hb hr,fun i u hu=>cell_heap hb (hcell i u hu)⟩⟩
section
variable {α : Type} {d : Kd α} {e base g n c : Nat} {ok : Nat → Prop} {w w0 W : World} {A : Option Addr} {xs : List α}
end
end Kd
end Go.Proofs.YtcecjoaeolglbaaGreatDoorW.PrintWords
end

section
namespace Go.Proofs.YtcecjoaeolglbaaGreatDoorW.PrintWords
open Go.RowKit
def Kept (w W:World) (S:Nat→Prop):Prop:=w.heap.size≤W.heap.size∧∀ i,i<w.heap.size→¬ S i→W.heap[i]? = w.heap[i]?
section
variable {w W W2 : World} {S S2 S' : Nat → Prop}
theorem Kept.mono (h:Kept w W S) (hs:∀ k,S k→S' k):Kept w W S':=⟨h.1,fun i hi hn=>h.2 i hi (fun hk=>hn (hs i hk))⟩
end
namespace Kd
section
variable {α : Type} {d : Kd α} {e base n c : Nat} {ok oki S S2 : Nat → Prop} {w w0 W W1 W2 : World} {v : Value} {A : Option Addr} {xs : List α} {i : Int} {cs : List Value}
end
end Kd
end Go.Proofs.YtcecjoaeolglbaaGreatDoorW.PrintWords
end

section
namespace Go.Proofs.YtcecjoaeolglbaaGreatDoor.K0
open Go.RowKit Go.Proofs.YtcecjoaeolglbaaGreatDoorW.PrintWords Go.Proofs.YtcecjoaeolglbaaGreatDoorW.PrintLast Go.Proofs.YtcecjoaeolglbaaGreatDoorW.PrintMore
attribute [local go_sem] max2_int min2_int max_two min_two max_three min_three max_four min_four  
set_option linter.unusedVariables false
set_option linter.unusedSimpArgs false
structure S7 where
 f0:Int
 f1:Int
 f2:Bool
 f3:Int
structure S8 where
 f0:Int
 f1:Int
 f2:Bool
 f3:Int
def k8:Kd S8:=Kd.iso (Kd.pair (Kd.int .i64) (Kd.pair (Kd.int .i64) (Kd.pair Kd.bool (Kd.int .u8)))) (fun x:S8=>(x.f0,x.f1,x.f2,x.f3))
structure S13 where
 f0:ByteArray
 f1:Int
def k13:Kd S13:=Kd.iso (Kd.pair Kd.string (Kd.int .u64)) (fun x:S13=>(x.f0,x.f1))
structure S14 where
 f0:ByteArray
 f1:Int
def k14:Kd S14:=Kd.iso (Kd.pair Kd.string (Kd.int .u64)) (fun x:S14=>(x.f0,x.f1))
structure S45 where
 f0:Int
 f1:ByteArray
 f2:ByteArray
 f3:(List S87)
 f4:Bool
structure S86 where
 f0:ByteArray
 f1:ByteArray
structure S88 where
 f0:Int
 f1:Int
structure S89 where
 f0:Int
 f1:Int
structure S102 where
 f0:Int
 f1:Int
structure S103 where
 f0:Int
 f1:Int
structure S154 where
 f0:ByteArray
 f1:Int
structure S155 where
 f0:ByteArray
 f1:Int
structure S194 where
 f0:ByteArray
 f1:Int
structure S195 where
 f0:ByteArray
 f1:Int
structure S209 where
 f0:Int
 f1:Int
structure S210 where
 f0:Int
 f1:Int
structure S266 where
 f0:ByteArray
structure S267 where
 f0:ByteArray
end Go.Proofs.YtcecjoaeolglbaaGreatDoor.K0
end

section
namespace Go.Proofs.YtcecjoaeolglbaaGreatDoor.Hand
open Go.RowKit
structure Live (w W:World) (L:List (Nat×Array Value)):Prop where
 glob:Glob W
 below:Below w.heap.size w W
 blk:∀ x∈L,x.1<W.heap.size∧Blk x.1 x.2 W
theorem Live.call {w W W':World} {L:List (Nat×Array Value)} (h:Live w W L) (hb:Below W.heap.size W W'):Live w W' L :=
 ⟨h.glob.step hb,h.below.trans (hb.mono h.below.size),fun x hx=>⟨Nat.lt_of_lt_of_le (h.blk x hx).1 hb.size,(h.blk x hx).2.below hb (h.blk x hx).1⟩⟩
end Go.Proofs.YtcecjoaeolglbaaGreatDoor.Hand
end

section
namespace Go.Proofs.YtcecjoaeolglbaaGreatDoor.Sk
end Go.Proofs.YtcecjoaeolglbaaGreatDoor.Sk
end

section
namespace Go.Proofs.YtcecjoaeolglbaaGreatDoor.Hand
open Go Go.RowKit Go.Proofs.YtcecjoaeolglbaaGreatDoor.Pl Go.Proofs.YtcecjoaeolglbaaGreatDoor.Pb
def kyC (c:UInt8):Bool:=(decide (65≤c.toNat)&&decide (c.toNat≤90)) || (decide (97≤c.toNat)&&decide (c.toNat≤122)) || (decide (48≤c.toNat)&&decide (c.toNat≤57))
def hdC:List UInt8→Bool
 | []=>false
 | c::_=>(decide (65≤c.toNat)&&decide (c.toNat≤90)) || (decide (97≤c.toNat)&&decide (c.toNat≤122))
def keyOk (l:List UInt8):Bool:=decide ((kyL l).length≤32)&&((kyL l).dropLast.all kyC&&(hdC (kyL l)&&(match (kyL l).getLast? with|some c=>kyC c || c == 59|none=>false)))
def keysOk (T:List UInt8):Bool:=keyOk (linesOf T).1&&(linesOf T).2.all keyOk
set_option maxRecDepth 1000000 in
theorem names_keys:keysOk namesL=true:=by kernel_rfl
theorem keys_all {T:List UInt8} (h:keysOk T=true) (p:Nat) (hp:St T p):keyOk (lnT T p)=true:=by
 unfold keysOk at h
 rw [Bool.and_eq_true,List.all_eq_true] at h
 rcases hp with rfl|⟨q,rfl,hq⟩
 · rw [lines_head];exact h.1
 · exact h.2 _ (lines_mem T q hq)
structure KeyP (k:List UInt8):Prop where
 le:k.length≤32
 pos:k≠[]
 inner:∀ c∈k.dropLast,kyC c=true
 head:hdC k=true
 last:∃ c,k.getLast? = some c∧(kyC c=true∨c=59)
theorem key_facts {k:List UInt8} (h:isKey namesL k):KeyP k:=by
 obtain ⟨p,h1,rfl⟩:=h
 have:=keys_all names_keys p h1
 unfold keyOk at this
 rw [Bool.and_eq_true,Bool.and_eq_true,Bool.and_eq_true,decide_eq_true_eq,List.all_eq_true] at this
 obtain ⟨g1,g2,g3,g4⟩:=this
 change (kyT namesL p).length≤32 at g1
 change hdC (kyT namesL p)=true at g3
 refine ⟨g1,?_,g2,g3,?_⟩
 · intro e;rw [e] at g3;cases g3
 · change (match (kyT namesL p).getLast? with|some c=>kyC c || c == 59|none=>false)=true at g4
   split at g4
   · rename_i c hc
     refine ⟨c,hc,?_⟩
     simpa using g4
   · cases g4
end Go.Proofs.YtcecjoaeolglbaaGreatDoor.Hand
end

section
namespace Go.Proofs.YtcecjoaeolglbaaGreatDoor.Hand
open Go Go.RowKit Go.Proofs.YtcecjoaeolglbaaGreatDoor.Pl Go.Proofs.YtcecjoaeolglbaaGreatDoor.Pb Go.Proofs.YtcecjoaeolglbaaGreatDoor.Pure
theorem txN_app {s:List UInt8} (r:List UInt8) (h:(60:UInt8)∉s):txN (s++r)=s.length+txN r:=by
 have:=txN_skip s.length (s++r) (by simp) (fun j hj=>by
  rw [List.getElem?_append_left hj];intro e;exact h (List.mem_of_getElem? e))
 rwa [List.drop_left] at this
theorem tokL_txt {s r:List UInt8} (hs:s≠[]) (h:(60:UInt8)∉s):tokL (s++r)=(some (.text (rdL false (s++r.take (txN r)))),r.drop (txN r)):=by
 obtain ⟨c,t,rfl⟩:∃ c t,s=c::t:=by cases s with|nil=>exact absurd rfl hs|cons c t=>exact ⟨c,t,rfl⟩
 have hc:c≠60:=fun e=>h (by simp [e])
 have hb:begM (c::t++r)=false:=begM_no _ hc
 have hn:txN (c::t++r)=(c::t).length+txN r:=txN_app r h
 unfold begM at hb
 simp only [Bool.or_eq_false_iff] at hb
 obtain ⟨⟨⟨h1,h2⟩,h3⟩,h4⟩:=hb
 unfold tokL
 rw [if_neg (by simpa using h1),if_neg (by rw [h2];decide),if_neg (by rw [h3];decide),if_neg (by rw [h4];decide),if_neg (by rw [hn];simp),hn]
 rw [List.take_length_add_append,List.drop_length_add_append]
theorem tokL_text {s r:List UInt8} (hs:s≠[]) (h:(60:UInt8)∉s) (hr:txN r=0):tokL (s++r)=(some (.text (rdL false s)),r):=by
 rw [tokL_txt hs h,hr];simp
theorem drvL_text {s r:List UInt8} (hs:s≠[]) (h:(60:UInt8)∉s) (hr:txN r=0):drvL (s++r) = .text (rdL false s)::drvL r:=by
 rw [drvL_eq (by simp [hs]),tokL_text hs h hr];rfl
end Go.Proofs.YtcecjoaeolglbaaGreatDoor.Hand
end

section
namespace Go.Proofs.YtcecjoaeolglbaaGreatDoor.Pl
def wAmp:List UInt8:=[38,97,109,112,59]
end Go.Proofs.YtcecjoaeolglbaaGreatDoor.Pl
end

section
namespace Go.Proofs.YtcecjoaeolglbaaGreatDoor.Pl
open Go
def lowO:Option Nat→Nat
 | none=>0
 | some x=>x % 64
def decN (c:Nat) (d e f:Option Nat):Nat×Nat :=
 if c<128 then (c,1)
 else if c / 32=6∧contO d then (if 128≤c % 32*64+lowO d then (c % 32*64+lowO d,2) else (65533,1))
 else if c / 16=14∧contO d∧contO e then (if 2048≤c % 16*4096+lowO d*64+lowO e∧okV (c % 16*4096+lowO d*64+lowO e) then (c % 16*4096+lowO d*64+lowO e,3) else (65533,1))
 else if c / 8=30∧contO d∧contO e∧contO f then (if 65536≤c % 8*262144+lowO d*4096+lowO e*64+lowO f∧okV (c % 8*262144+lowO d*4096+lowO e*64+lowO f) then (c % 8*262144+lowO d*4096+lowO e*64+lowO f,4) else (65533,1))
 else (65533,1)
def rightK:Nat→List UInt8→Bool
 | _,[]=>true
 | k+1,_::r=>rightK k r
 | 0,c::r=>(firstU (c::r)).2&&rightK ((firstU (c::r)).1 - 1) r
def rightL (s:List UInt8):Bool:=rightK 0 s
theorem rightK_skip:∀ (k:Nat) (s:List UInt8),rightK k s=rightL (s.drop k):=by
 intro k
 induction k with
 | zero=>intro s;rfl
 | succ k ih =>
   intro s
   cases s with
   | nil=>rfl
   | cons c r=>exact ih r
theorem rightL_cons (c:UInt8) (r:List UInt8):rightL (c::r)=((firstU (c::r)).2&&rightL ((c::r).drop (firstU (c::r)).1)):=by
 unfold rightL
 rw [rightK,rightK_skip]
 have h:=(firstU_pos c r).1
 obtain ⟨n,hn⟩:∃ n,(firstU (c::r)).1=n+1:=⟨(firstU (c::r)).1 - 1,by omega⟩
 rw [hn]
 rfl
def isBadO (c:Nat) (d e:Option Nat):Prop:=c=239∧d=some 191∧e=some 189
structure Kd (c lo hi n:Nat):Prop where
 one:(tailN c).2.2=n
 lo_:(tailN c).1=lo
 hi_:(tailN c).2.1=hi
theorem kd_of {c lo hi n:Nat} (h:tailN c=(lo,hi,n)):Kd c lo hi n:=⟨by rw [h],by rw [h],by rw [h]⟩
theorem tail_1 {c:Nat} (h:c<194∨244<c):Kd c 128 191 1:=kd_of (by unfold tailN;rw [if_neg (by omega),if_neg (by omega),if_neg (by omega),if_neg (by omega),if_neg (by omega),if_neg (by omega),if_neg (by omega)])
theorem tail_2 {c:Nat} (h:194≤c∧c≤223):Kd c 128 191 2:=kd_of (by unfold tailN;rw [if_pos h])
theorem tail_3 {c:Nat} (h:224≤c∧c≤239):∃ lo hi,Kd c lo hi 3∧128≤lo∧hi≤191∧(c=224→lo=160)∧(c=237→hi=159)∧(c≠224→lo=128)∧(c≠237→hi=191):=by
 by_cases h1:c=224
 · exact ⟨160,191,kd_of (by subst h1;rfl),by omega⟩
 · by_cases h2:c=237
   · exact ⟨128,159,kd_of (by subst h2;rfl),by omega⟩
   · exact ⟨128,191,kd_of (by unfold tailN;rw [if_neg (by omega),if_neg h1,if_neg h2,if_pos (by omega)]),by omega⟩
theorem tail_4 {c:Nat} (h:240≤c∧c≤244):∃ lo hi,Kd c lo hi 4∧128≤lo∧hi≤191∧(c=240→lo=144)∧(c=244→hi=143)∧(c≠240→lo=128)∧(c≠244→hi=191):=by
 by_cases h1:c=240
 · exact ⟨144,191,kd_of (by subst h1;rfl),by omega⟩
 · by_cases h2:c=244
   · exact ⟨128,143,kd_of (by subst h2;rfl),by omega⟩
   · exact ⟨128,191,kd_of (by unfold tailN;rw [if_neg (by omega),if_neg (by omega),if_neg (by omega),if_neg (by omega),if_neg h1,if_neg h2,if_pos (by omega)]),by omega⟩
def DecSame (c:Nat) (d e f:Option Nat):Prop :=
 ((firstN c d e f).2=true→(decN c d e f).2=(firstN c d e f).1∧((decN c d e f).1=65533→isBadO c d e))∧((firstN c d e f).2=false→(decN c d e f).1=65533∧¬ isBadO c d e)
theorem same_bad {c:Nat} {d e f:Option Nat} {n:Nat} (hf:firstN c d e f=(n,false)) (hd:(decN c d e f).1=65533) (hb:¬ isBadO c d e):DecSame c d e f:=by
 unfold DecSame;rw [hf];exact ⟨fun h=>(by cases h),fun _=>⟨hd,hb⟩⟩
theorem same_ok {c:Nat} {d e f:Option Nat} {n x:Nat} (hf:firstN c d e f=(n,true)) (hd:decN c d e f=(x,n)) (hb:x=65533→isBadO c d e):DecSame c d e f:=by
 unfold DecSame;rw [hf,hd];exact ⟨fun _=>⟨rfl,hb⟩,fun h=>(by cases h)⟩
theorem first_bad1 {c:Nat} {d e f:Option Nat} (h:¬ c<128) (ht:(tailN c).2.2=1):firstN c d e f=(1,false):=by
 unfold firstN;rw [if_neg h,if_pos ht]
theorem contO_iff (o:Option Nat):contO o↔∃ x,o=some x∧128≤x∧x≤191:=by
 cases o with
 | none=>simp [contO]
 | some x=>simp [contO]
theorem inO_iff (lo hi:Nat) (o:Option Nat):inO lo hi o↔∃ x,o=some x∧lo≤x∧x≤hi:=by
 cases o with
 | none=>simp [inO]
 | some x=>simp [inO]
theorem dec_same (c:Nat) (d e f:Option Nat) (hc:c<256):DecSame c d e f:=by
 by_cases h:c<128
 · refine same_ok (n:=1) (x:=c) ?_ ?_ (by omega)
   · unfold firstN;rw [if_pos h]
   · unfold decN;rw [if_pos h]
 have h':128≤c:=by omega
 by_cases r1:c<194∨244<c
 · have ht:=tail_1 r1
   refine same_bad (n:=1) (first_bad1 h ht.one) ?_ (by unfold isBadO;omega)
   unfold decN
   rw [if_neg h]
   split
   · rename_i hh
     rw [if_neg]
     obtain ⟨x,rfl,h1,h2⟩:=(contO_iff d).1 hh.2
     simp only [lowO];omega
   · split
     · rename_i _ hh;omega
     · split
       · rename_i _ _ hh
         rw [if_neg]
         rintro ⟨_,h3⟩
         unfold okV at h3
         omega
       · rfl
 by_cases r2:c≤223
 · have ht:=tail_2 (c:=c) (by omega)
   by_cases hd:contO d
   · obtain ⟨x,rfl,h1,h2⟩:=(contO_iff d).1 hd
     refine same_ok (n:=2) (x:=c % 32*64+x % 64) ?_ ?_ (by omega)
     · unfold firstN;rw [if_neg h,if_neg (by rw [ht.one];omega),if_neg (by rw [ht.lo_,ht.hi_];exact not_not_intro hd),if_pos ht.one]
     · unfold decN;rw [if_neg h,if_pos ⟨by omega,h1,h2⟩,if_pos (by simp only [lowO];omega)];rfl
   · refine same_bad (n:=1) ?_ ?_ (by unfold isBadO;omega)
     · unfold firstN;rw [if_neg h,if_neg (by rw [ht.one];omega),if_pos (by rw [ht.lo_,ht.hi_];exact hd)]
     · unfold decN;rw [if_neg h,if_neg (fun hh=>hd hh.2),if_neg (fun hh=>hd hh.2.1),if_neg (fun hh=>hd hh.2.1)]
 by_cases r3:c≤239
 · obtain ⟨lo,hi,ht,g1,g2,g3,g4,g5,g6⟩:=tail_3 (c:=c) (by omega)
   have n6:¬ (c / 32=6∧contO d):=by omega
   have n8:¬ (c / 8=30∧contO d∧contO e∧contO f):=by omega
   by_cases hd:inO lo hi d
   · obtain ⟨x,rfl,h1,h2⟩:=(inO_iff _ _ d).1 hd
     by_cases he:contO e
     · obtain ⟨y,rfl,h3,h4⟩:=(contO_iff e).1 he
       refine same_ok (n:=3) (x:=c % 16*4096+x % 64*64+y % 64) ?_ ?_ ?_
       · unfold firstN;rw [if_neg h,if_neg (by rw [ht.one];omega),if_neg (by rw [ht.lo_,ht.hi_];exact not_not_intro hd),if_neg (by rw [ht.one];omega),if_neg (not_not_intro he),if_pos ht.one]
       · unfold decN
         rw [if_neg h,if_neg n6,if_pos ⟨by omega,⟨by omega,by omega⟩,he⟩,if_pos]
         · rfl
         · refine ⟨by simp only [lowO];omega,?_⟩
           simp only [okV,lowO];omega
       · intro hx
         have:c=239∧x=191∧y=189:=by omega
         obtain ⟨rfl,rfl,rfl⟩:=this
         exact ⟨rfl,rfl,rfl⟩
     · refine same_bad (n:=2) ?_ ?_ (by rintro ⟨_,_,rfl⟩;exact he (by simp [contO]))
       · unfold firstN;rw [if_neg h,if_neg (by rw [ht.one];omega),if_neg (by rw [ht.lo_,ht.hi_];exact not_not_intro hd),if_neg (by rw [ht.one];omega),if_pos he]
       · unfold decN;rw [if_neg h,if_neg n6,if_neg (fun hh=>he hh.2.2),if_neg n8]
   · refine same_bad (n:=1) ?_ ?_ ?_
     · unfold firstN;rw [if_neg h,if_neg (by rw [ht.one];omega),if_pos (by rw [ht.lo_,ht.hi_];exact hd)]
     · unfold decN
       rw [if_neg h,if_neg n6]
       split
       · rename_i hh
         obtain ⟨x,rfl,h1,h2⟩:=(contO_iff d).1 hh.2.1
         obtain ⟨y,rfl,h3,h4⟩:=(contO_iff e).1 hh.2.2
         rw [if_neg]
         rintro ⟨h5,h6⟩
         simp only [okV,lowO] at h5 h6
         exact hd ⟨by omega,by omega⟩
       · rfl
     · rintro ⟨rfl,rfl,_⟩
       exact hd ⟨by omega,by omega⟩
 · obtain ⟨lo,hi,ht,g1,g2,g3,g4,g5,g6⟩:=tail_4 (c:=c) (by omega)
   have n6:¬ (c / 32=6∧contO d):=by omega
   have n7:¬ (c / 16=14∧contO d∧contO e):=by omega
   have nb:¬ isBadO c d e:=by unfold isBadO;omega
   by_cases hd:inO lo hi d
   · obtain ⟨x,rfl,h1,h2⟩:=(inO_iff _ _ d).1 hd
     by_cases he:contO e
     · obtain ⟨y,rfl,h3,h4⟩:=(contO_iff e).1 he
       by_cases hf:contO f
       · obtain ⟨z,rfl,h5,h6⟩:=(contO_iff f).1 hf
         refine same_ok (n:=4) (x:=c % 8*262144+x % 64*4096+y % 64*64+z % 64) ?_ ?_ (by omega)
         · unfold firstN;rw [if_neg h,if_neg (by rw [ht.one];omega),if_neg (by rw [ht.lo_,ht.hi_];exact not_not_intro hd),if_neg (by rw [ht.one];omega),if_neg (not_not_intro he),if_neg (by rw [ht.one];omega),if_pos hf]
         · unfold decN
           rw [if_neg h,if_neg n6,if_neg n7,if_pos ⟨by omega,⟨by omega,by omega⟩,he,hf⟩,if_pos]
           · rfl
           · refine ⟨by simp only [lowO];omega,?_⟩
             simp only [okV,lowO];omega
       · refine same_bad (n:=3) ?_ ?_ nb
         · unfold firstN;rw [if_neg h,if_neg (by rw [ht.one];omega),if_neg (by rw [ht.lo_,ht.hi_];exact not_not_intro hd),if_neg (by rw [ht.one];omega),if_neg (not_not_intro he),if_neg (by rw [ht.one];omega),if_neg hf]
         · unfold decN;rw [if_neg h,if_neg n6,if_neg n7,if_neg (fun hh=>hf hh.2.2.2)]
     · refine same_bad (n:=2) ?_ ?_ nb
       · unfold firstN;rw [if_neg h,if_neg (by rw [ht.one];omega),if_neg (by rw [ht.lo_,ht.hi_];exact not_not_intro hd),if_neg (by rw [ht.one];omega),if_pos he]
       · unfold decN;rw [if_neg h,if_neg n6,if_neg n7,if_neg (fun hh=>he hh.2.2.1)]
   · refine same_bad (n:=1) ?_ ?_ nb
     · unfold firstN;rw [if_neg h,if_neg (by rw [ht.one];omega),if_pos (by rw [ht.lo_,ht.hi_];exact hd)]
     · unfold decN
       rw [if_neg h,if_neg n6,if_neg n7]
       split
       · rename_i hh
         obtain ⟨x,rfl,h1,h2⟩:=(contO_iff d).1 hh.2.1
         obtain ⟨y,rfl,h3,h4⟩:=(contO_iff e).1 hh.2.2.1
         obtain ⟨z,rfl,h5,h6⟩:=(contO_iff f).1 hh.2.2.2
         rw [if_neg]
         rintro ⟨h7,h8⟩
         simp only [okV,lowO] at h7 h8
         exact hd ⟨by omega,by omega⟩
       · rfl
theorem bad_list (c:UInt8) (r:List UInt8):badP.isPrefixOf (c::r)=true↔isBadO c.toNat (byteO r 0) (byteO r 1):=by
 rcases r with _|⟨d,_|⟨e,r⟩⟩
 · simp [badP,List.isPrefixOf,isBadO,byteO]
 · simp [badP,List.isPrefixOf,isBadO,byteO]
 · simp only [badP,List.isPrefixOf,Bool.and_eq_true,beq_iff_eq,Bool.and_true,isBadO,byteO,List.getElem?_cons_zero,List.getElem?_cons_succ,Option.map_some,Option.some.injEq]
   constructor
   · rintro ⟨rfl,rfl,rfl⟩;exact ⟨rfl,rfl,rfl⟩
   · rintro ⟨h1,h2,h3⟩
     exact ⟨(UInt8.toNat_inj.1 h1).symm,(UInt8.toNat_inj.1 h2).symm,(UInt8.toNat_inj.1 h3).symm⟩
theorem getb_list (s:ByteArray) (j:Nat):s.get! j=s.data.toList.getD j 0:=by
 rw [List.getD_eq_getElem?_getD,Array.getElem?_toList]
 cases s with
 | mk d =>
   show d[j]! = _
   rw [getElem!_def]
   cases d[j]? <;> rfl
theorem valid_iff (n:Nat):Utf8.valid (n:Int)=true↔okV n:=by
 simp only [Utf8.valid,Bool.or_eq_true,Bool.and_eq_true,decide_eq_true_eq,okV]
 omega
theorem decode_list (s:ByteArray) (i:Nat) (c:UInt8) (r:List UInt8) (h:s.data.toList.drop i=c::r):Utf8.decode s i=decN c.toNat (byteO r 0) (byteO r 1) (byteO r 2):=by
 have e0:(s.get! (i+0)).toNat=c.toNat:=by
  rw [getb_list,List.getD_eq_getElem?_getD,← List.getElem?_drop,h];rfl
 have ek:∀ k,(s.get! (i+(k+1))).toNat % 64=lowO (byteO r k):=fun k=>by
  rw [getb_list,List.getD_eq_getElem?_getD,← List.getElem?_drop,h,List.getElem?_cons_succ]
  unfold byteO
  cases r[k]? <;> rfl
 have ck:∀ k,(decide (i+(k+1)<s.size)&&(s.get! (i+(k+1))).toNat / 64 == 2)=decide (contO (byteO r k)):=fun k=>by
  have hl:s.size=i+(r.length+1):=by
   have:=congrArg List.length h
   rw [List.length_drop,Array.length_toList,List.length_cons] at this
   have e:s.data.size=s.size:=rfl
   omega
  rw [getb_list,List.getD_eq_getElem?_getD,← List.getElem?_drop,h,List.getElem?_cons_succ]
  unfold byteO
  rcases Nat.lt_or_ge k r.length with hk|hk
  · rw [List.getElem?_eq_getElem hk]
    have:=(r[k]).toNat_lt
    rw [decide_eq_true (show i+(k+1)<s.size by omega),Bool.true_and,Bool.eq_iff_iff,beq_iff_eq,decide_eq_true_eq]
    show (r[k]).toNat / 64=2↔(128≤(r[k]).toNat∧(r[k]).toNat≤191)
    omega
  · rw [List.getElem?_eq_none hk,decide_eq_false (by omega),Bool.false_and]
    rfl
 have c1:=ck 0
 have c2:=ck 1
 have c3:=ck 2
 have l1:=ek 0
 have l2:=ek 1
 have l3:=ek 2
 unfold Utf8.decode decN
 simp only [Nat.zero_add,Nat.reduceAdd,Nat.add_zero] at c1 c2 c3 l1 l2 l3 e0
 simp only [Nat.add_zero,e0,c1,c2,c3,l1,l2,l3,Bool.and_eq_true,beq_iff_eq,decide_eq_true_eq,valid_iff,ge_iff_le,Utf8.runeError,and_assoc]
theorem decode_right {s:ByteArray} {i:Nat} {c:UInt8} {r:List UInt8} (h:s.data.toList.drop i=c::r) :
  ((firstU (c::r)).2=true→(Utf8.decode s i).2=(firstU (c::r)).1∧((Utf8.decode s i).1=65533→badP.isPrefixOf (c::r)=true)) ∧
  ((firstU (c::r)).2=false→(Utf8.decode s i).1=65533∧¬ badP.isPrefixOf (c::r)=true):=by
 have hs:=dec_same c.toNat (byteO r 0) (byteO r 1) (byteO r 2) c.toNat_lt
 rw [decode_list s i c r h,bad_list]
 exact hs
end Go.Proofs.YtcecjoaeolglbaaGreatDoor.Pl
end

section
namespace Go.Proofs.YtcecjoaeolglbaaGreatDoor.Pl
open Go
theorem decL_right:∀ n (s:List UInt8),s.length≤n→rightL s=true→decL s=s:=by
 intro n
 induction n with
 | zero=>intro s h _;obtain rfl:=List.eq_nil_of_length_eq_zero (Nat.le_zero.1 h);rfl
 | succ n ih =>
   intro s h hr
   cases s with
   | nil=>rfl
   | cons c r =>
     rw [rightL_cons,Bool.and_eq_true] at hr
     have hp:=(firstU_pos c r).1
     rw [decL_cons,if_pos hr.1,ih _ (by rw [List.length_drop];omega) hr.2,List.take_append_drop]
end Go.Proofs.YtcecjoaeolglbaaGreatDoor.Pl
end

section
namespace Go.Proofs.YtcecjoaeolglbaaGreatDoor.Hand
open Go Go.RowKit Go.Proofs.YtcecjoaeolglbaaGreatDoor.Pl Go.Proofs.YtcecjoaeolglbaaGreatDoor.Pb
def rowAt (T:List UInt8) (p:Nat) (key rest:List UInt8):Bool:=(T[p]? == some 10)&&(lnT T (p+1) == key++32::rest)
def wordAmp:List UInt8:=[97,109,112]
def wordLt:List UInt8:=[108,116]
def wordGt:List UInt8:=[103,116]
def wordQuot:List UInt8:=[113,117,111,116]
def wordNbsp:List UInt8:=[110,98,115,112]
set_option maxRecDepth 1000000 in
theorem rows_are:(rowAt namesL 9820 (wordAmp++[59]) [50,54]&&(rowAt namesL 9813 wordAmp [50,54]&&(rowAt namesL 19023 (wordLt++[59]) [51,67]&&(rowAt namesL 15791 (wordGt++[59]) [51,69]&&(rowAt namesL 23656 (wordQuot++[59]) [50,50]&&rowAt namesL 20038 (wordNbsp++[59]) [65,48])))))=true:=by kernel_rfl
theorem row_fnd {p:Nat} {key rest:List UInt8} (h:rowAt namesL p key rest=true) (hk:∀ c∈key,c≠10∧c≠32):Fnd namesL key (some rest):=by
 unfold rowAt at h
 rw [Bool.and_eq_true,beq_iff_eq,beq_iff_eq] at h
 obtain ⟨h1,h2⟩:=h
 refine .inl ⟨p+1,.inr ⟨p,rfl,h1⟩,?_,?_⟩
 · unfold kyT;rw [h2,ky_row hk]
 · rw [h2];unfold rsL;rw [ky_row hk,List.drop_append,List.drop_eq_nil_of_le (by omega),List.nil_append,show key.length+1 - key.length=1 by omega];rfl
theorem fnd_amp:Fnd namesL (wordAmp++[59]) (some [50,54]):=row_fnd (Bool.and_eq_true_iff.1 rows_are).1 (by decide)
theorem fnd_key {key rest:List UInt8} (h:Fnd namesL key (some rest)):isKey namesL key:=(fnd_rest h).2.2
theorem nameT_of {key rest:List UInt8} (h:Fnd namesL key (some rest)):nameT key=(textB (num1 rest) (num2 rest)).data.toList:=by unfold nameT;rw [rowN_eq h]
theorem nameT_amp:nameT (wordAmp++[59])=[38]:=by rw [nameT_of fnd_amp];decide +kernel
theorem lng_stop {k r:List UInt8} {c:UInt8} (hk:isKey namesL k) (hc:kyC c=false∧c≠59∨k.getLast? = some 59):lngN (k++c::r)=k.length:=by
 have hf:=key_facts hk
 refine lngN_eq ⟨?_,.inr (by rw [List.take_left];exact hk),fun m h1 h2 hm => ?_⟩
 · have:=hf.le;simp;omega
 · have hg:=key_facts hm
   have h2':m≤(k++c::r).length:=by omega
   obtain ⟨d,rfl⟩:∃ d,m=k.length+1+d:=⟨m - (k.length+1),by omega⟩
   have e:(k++c::r).take (k.length+1+d)=k++c::r.take d:=by
    rw [List.take_append,List.take_of_length_le (by omega),show k.length+1+d - k.length=d+1 by omega,List.take_succ_cons]
   rw [e] at hg
   rcases hc with ⟨h3,h4⟩|h3
   ·
    cases hd:r.take d with
    | nil =>
      rw [hd] at hg
      obtain ⟨x,hx,hx2⟩:=hg.last
      simp at hx
      subst hx
      rcases hx2 with h|h
      · rw [h3] at h;cases h
      · exact h4 h
    | cons y t =>
      rw [hd] at hg
      have hmem:c∈(k++c::y::t).dropLast:=by
       rw [List.dropLast_append_of_ne_nil (by simp)]
       simp
      have:=hg.inner c hmem
      rw [h3] at this;cases this
   · have hmem:(59:UInt8)∈(k++c::r.take d).dropLast:=by
      rw [List.dropLast_append_of_ne_nil (by simp)]
      exact List.mem_append_left _ (List.mem_of_getLast? h3)
     have:=hg.inner 59 hmem
     exact absurd this (by decide)
theorem num_letter {k r:List UInt8} (hk:isKey namesL k):numL (k++r)=none:=by
 have hf:=key_facts hk
 cases k with
 | nil=>exact absurd rfl hf.pos
 | cons c k =>
   have hh:=hf.head
   have h35:c≠35:=by rintro rfl;exact absurd hh (by simp [hdC])
   unfold numL
   rw [if_neg]
   simp [begR,h35]
   have:∀ n:Fin 256,lowB (UInt8.ofNat n.val)=35→UInt8.ofNat n.val=35:=by decide +kernel
   have h:=this ⟨c.toNat,c.toNat_lt⟩
   simp only [UInt8.ofNat_toNat] at h
   exact fun e=>h35 (h e)
theorem refN_semi {attr:Bool} {w:List UInt8} (r:List UInt8) (hk:isKey namesL (w++[59])):refN attr (38::(w++59::r))=(nameT (w++[59]),w.length+2):=by
 have hl:lngN (w++59::r)=w.length+1:=by
  cases r with
  | nil =>
    refine lngN_eq ⟨?_,.inr ?_,fun m h1 h2 _ => ?_⟩
    · have:=(key_facts hk).le;simp at this ⊢;omega
    · rw [List.take_of_length_le (by simp)];exact hk
    · simp at h2;omega
  | cons c r =>
    have:=lng_stop (c:=c) (r:=r) hk (.inr (by simp))
    rw [List.append_assoc] at this
    simpa using this
 have hn:numL (w++59::r)=none:=by
  have:=num_letter (r:=r) hk
  rwa [List.append_assoc] at this
 have ht:(w++59::r).take (w.length+1)=w++[59]:=by
  rw [List.take_append,List.take_of_length_le (by omega),show w.length+1 - w.length=1 by omega];rfl
 unfold refN
 rw [List.drop_succ_cons,List.drop_zero,hn,hl,ht]
 simp only
 rw [if_neg,show 1+(w.length+1)=w.length+2 by omega]
 rintro (e|e)
 · omega
 · unfold leftL at e
   rw [show Lib.hasSuffix (w++[59]) [59]=true by unfold Lib.hasSuffix;simp] at e
   simp at e
theorem rdL_semi {attr:Bool} {w:List UInt8} (r:List UInt8) (hk:isKey namesL (w++[59])):rdL attr (38::(w++59::r))=nameT (w++[59])++rdL attr r:=by
 rw [rdL_amp,refN_semi r hk]
 simp only
 congr 2
 rw [List.drop_succ_cons,List.drop_append,List.drop_eq_nil_of_le (by omega),show w.length+1 - w.length=1 by omega];rfl
end Go.Proofs.YtcecjoaeolglbaaGreatDoor.Hand
end

section
namespace Go.Proofs.YtcecjoaeolglbaaGreatDoor.Hand
open Go Go.RowKit Go.Proofs.YtcecjoaeolglbaaGreatDoor.Pl Go.Proofs.YtcecjoaeolglbaaGreatDoor.Pb
theorem dec_amp (attr:Bool) (r:List UInt8):rdL attr (wAmp++r)=38::rdL attr r:=by
 have:=rdL_semi (attr:=attr) (w:=wordAmp) r (fnd_key fnd_amp)
 exact this.trans (by rw [nameT_amp];rfl)
end Go.Proofs.YtcecjoaeolglbaaGreatDoor.Hand
end

section
namespace Go.Proofs.YtcecjoaeolglbaaGreatDoor.Hand
open Go Go.RowKit Go.Proofs.YtcecjoaeolglbaaGreatDoor.Pl Go.Proofs.YtcecjoaeolglbaaGreatDoor.Pb Go.Proofs.YtcecjoaeolglbaaGreatDoor.Pure
theorem drive_txt {t:List UInt8} (h:(60:UInt8)∉t):driveL t=txtT (rdL false t):=by
 cases ht:t with
 | nil=>rfl
 | cons c r =>
   have hn:t≠[]:=by rw [ht];simp
   rw [← ht]
   have:=drvL_text (r:=[]) hn h rfl
   rw [List.append_nil,drvL_nil] at this
   unfold driveL
   rw [this]
   simp [joinL]
end Go.Proofs.YtcecjoaeolglbaaGreatDoor.Hand
end

section
namespace Go.Proofs.YtcecjoaeolglbaaGreatDoor.Hand
open Go Go.RowKit Go.Proofs.YtcecjoaeolglbaaGreatDoor.Pl Go.Proofs.YtcecjoaeolglbaaGreatDoor.Pb Go.Proofs.YtcecjoaeolglbaaGreatDoor.Pure
structure FlOk (f:Fl):Prop where
 bl:∀ c∈f.bl,c=9∨c=12∨c=32
 no:∀ c∈f.told,c≠0∧c≠13
 hd:∀ c,f.told.head? = some c→isBl c=false
 lst:∀ c,f.told.getLast? = some c→isBl c=false
 right:rightL f.told=true
theorem FlOk.add {f:Fl} (h:FlOk f):∀ c∈flAdd f,c=9∨c=10∨c=12∨c=32:=by
 intro c hc
 unfold flAdd at hc
 split at hc
 · cases hc
 · rcases List.mem_append.1 hc with hc|hc
   · exact .inr (.inl (List.eq_of_mem_replicate hc))
   · rcases h.bl c hc with e|e|e
     · exact .inl e
     · exact .inr (.inr (.inl e))
     · exact .inr (.inr (.inr e))
end Go.Proofs.YtcecjoaeolglbaaGreatDoor.Hand
end

section
namespace Go.Proofs.YtcecjoaeolglbaaGreatDoor.Hand
open Go.RowKit Go.Proofs.YtcecjoaeolglbaaGreatDoor.Pl Go.Proofs.YtcecjoaeolglbaaGreatDoor.Pb
theorem run_next_gen {P:Program} (W:World) (b:Nat) (s:ByteArray) (pos:Nat) (ty:TypeId) (hb:W.heap[b]? = some (.stringIter s pos)) (h:pos<s.size) :
  (Instr.next (.pointer (some ⟨b,0,none⟩)) true ty).run P W =
    .ok (.tuple #[.bool true,.int .i64 pos,.int .i32 ((Utf8.decode s pos).1:Nat)]) (W.putObj b (.stringIter s (pos+(Utf8.decode s pos).2))):=by
 simp [Instr.next,getObj,setObj,Sem.run,hb,h,World.putObj,goInt]
theorem run_next_stop {P:Program} (W:World) (b:Nat) (s:ByteArray) (pos:Nat) (ty:TypeId) (hb:W.heap[b]? = some (.stringIter s pos)) (h:¬ pos<s.size) :
  (Instr.next (.pointer (some ⟨b,0,none⟩)) true ty).run P W = .ok (.tuple #[.bool false]) W:=by
 simp [Instr.next,getObj,Sem.run,hb,h]
theorem below_putObj {w W:World} {b:Nat} {o:Obj} (h:Below w.heap.size w W) (hb:w.heap.size≤b):Below w.heap.size w (W.putObj b o) :=
 h.grown (grownBy_putObj' W b o) h.size (fun k e=>by cases e;exact hb)
theorem drop_cut (s:List UInt8) (i:Nat):((B s).extract i (B s).size).data.toList=s.drop i:=by
 rw [show (B s).extract i (B s).size=B (s.drop i) from by
  rw [B_extract,size_B,List.take_length]]
 exact B_data _
set_option maxRecDepth 100000 in
set_option maxHeartbeats 8000000 in
theorem right_c (s:List UInt8) (w:World):Calls Tryz.prog 17 #[.string (B s)] w fun e w'=>e = .returned (.bool (rightL s))∧Below w.heap.size w w':=by
 obtain ⟨a,ha⟩:∃ a,B s=a:=⟨_,rfl⟩
 have hsz:a.size=s.length:=by rw [← ha];simp
 have hD:∀ i,a.data.toList.drop i=s.drop i:=fun i=>by rw [← ha,B_data]
 have hC:∀ i,(a.extract i a.size).data.toList=s.drop i:=fun i=>by rw [← ha];exact drop_cut s i
 rw [ha]
 have HP:Hid (∀ (i:Nat) (W:World),Calls Tryz.prog 38 #[.string (a.extract i a.size),.string ⟨#[239,191,189]⟩] W fun e w'=>e = .returned (.bool (badP.isPrefixOf (s.drop i)))∧w'=W):=Lib.hid (fun i W=>by
  have:=Tryz.strings_HasPrefix (a.extract i a.size) ⟨#[239,191,189]⟩ W
  rw [hC] at this
  exact this)
 have HD:=Lib.hid hD
 have HS:=Lib.hid hsz
 have HX:Hid (rightL s=rightL (s.drop 0)):=Lib.hid rfl
 clear hD hC ha hsz
 go_enter Tryz.func17,Tryz.ntmps17
 go_wp2_with fail
 go_loopg [9,10] a.size (fun g _ _ wx => ∃ i:Nat,i+g=a.size∧wx.heap[w.heap.size]? = some (.stringIter a i)∧Hid (rightL s=rightL (s.drop i))∧Hid (Below w.heap.size w wx))
 case atStart=>exact ⟨0,by omega,World.iter_heap _ _ _,HX,Lib.hid ((Below.refl _ _).alloc (Nat.le_refl _) _)⟩
 case round =>
  obtain ⟨i,hig,hit,hno,hbl⟩:=hrel
  cases gk with
  | zero =>
    obtain rfl:i=a.size:=by omega
    have hnx:=fun ty=>run_next_stop (P:=Tryz.prog) _ w.heap.size a a.size ty hit (by omega)
    have hr:true=rightL s:=by
     rw [hno.out,List.drop_of_length_le (by have:=HS.out;omega)];rfl
    have HR:=Lib.hid hr
    clear hit hr
    go_wp2_with fail
    go_ret
    exact ⟨by rw [← HR.out];rfl,hbl.out⟩
  | succ g =>
    have hi:i<a.size:=by omega
    have hil:i<s.length:=by have:=HS.out;omega
    obtain ⟨c0,r0,hr⟩:∃ c r,s.drop i=c::r:=⟨s[i],s.drop (i+1),List.drop_eq_getElem_cons hil⟩
    have hd:=decode_right (s:=a) (i:=i) ((HD.out i).trans hr)
    have hnx:=fun ty=>run_next_gen (P:=Tryz.prog) _ w.heap.size a i ty hit hi
    obtain ⟨⟨c,k⟩,hck⟩:∃ d,Utf8.decode a i=d:=⟨_,rfl⟩
    rw [hck] at hd hnx
    simp only at hnx hd
    have hlt2:=(Array.getElem?_eq_some_iff.1 hit).1
    have hbl2:=Lib.hid (below_putObj (b:=w.heap.size) (o:=.stringIter a (i+k)) hbl.out (Nat.le_refl _))
    have hput:=Lib.hid (World.putObj_heap_same (o:=.stringIter a (i+k)) hlt2)
    have hpos:=firstU_pos c0 r0
    have hrc:=rightL_cons c0 r0
    have HPi:=HP.out i
    rw [hr] at HPi
    have hlen:=congrArg List.length hr
    rw [List.length_drop] at hlen
    cases hF:(firstU (c0::r0)).2 with
    | true =>
      obtain ⟨hk,hb⟩:=hd.1 hF
      rw [← hk] at hpos hrc
      rw [hF,Bool.true_and,← hr,List.drop_drop] at hrc
      have HNX:Hid (rightL s=rightL (s.drop (i+k))):=Lib.hid (hno.out.trans hrc)
      have hk1:1≤k:=hpos.1
      have hk2:i+k≤a.size:=by have:=HS.out;have:=hpos.2.1;omega
      by_cases e:c=65533
      · subst e
        rw [hb rfl] at HPi
        have HPJ:=Lib.hid HPi
        clear hd hit hck hbl hno hpos hrc HPi hlen hF hk hb hr
        go_wp2_with fail
        refine (HPJ.out _).mono ?_
        rintro e w2 ⟨rfl,rfl⟩
        go_wp2_with fail
        go_roundg (g+1 - k)
        case measure=>omega
        case rel=>exact ⟨i+k,by omega,hput.out,HNX,hbl2⟩
      · have hne:(((c:Nat):Int) == 65533)=false:=by rw [beq_eq_false_iff_ne];omega
        clear hd hit hck hbl hno hpos hrc HPi hlen hF hk hb hr e
        go_wp2_with fail
        go_roundg (g+1 - k)
        case measure=>omega
        case rel=>exact ⟨i+k,by omega,hput.out,HNX,hbl2⟩
    | false =>
      obtain ⟨hk,hb⟩:=hd.2 hF
      subst hk
      rw [hF,Bool.false_and,← hr] at hrc
      rw [Bool.eq_false_iff.2 hb] at HPi
      have HNX:Hid (false=rightL s):=Lib.hid (hno.out.trans hrc).symm
      have HPJ:=Lib.hid HPi
      clear hd hit hck hbl hno hpos hrc HPi hlen hF hb hr
      go_wp2_with fail
      refine (HPJ.out _).mono ?_
      rintro e w2 ⟨rfl,rfl⟩
      go_wp2_with fail
      go_ret
      exact ⟨by rw [← HNX.out];rfl,hbl2.out⟩
end Go.Proofs.YtcecjoaeolglbaaGreatDoor.Hand
end

section
namespace Go.Proofs.YtcecjoaeolglbaaGreatDoor.Hand
open Go Go.RowKit Go.Proofs.YtcecjoaeolglbaaGreatDoor.K0 Go.Proofs.YtcecjoaeolglbaaGreatDoor.Pl Go.Proofs.YtcecjoaeolglbaaGreatDoor.Pb Go.Proofs.YtcecjoaeolglbaaGreatDoor.Sa Go.Proofs.YtcecjoaeolglbaaGreatDoor.St Go.Proofs.YtcecjoaeolglbaaGreatDoor.Pure Go.Proofs.YtcecjoaeolglbaaGreatDoorW.PrintWords Go.Proofs.YtcecjoaeolglbaaGreatDoorW.PrintLast Go.Proofs.YtcecjoaeolglbaaGreatDoorW.PrintMore
abbrev PxC (w:World) (ab d:Nat) (F:Value) (W:World):Prop:=(Glob W∧Below w.heap.size w W)∧W.cell? ⟨ab,d,none⟩=some F
theorem PxC.call {w:World} {ab d:Nat} {F:Value} {W W':World} (hb:Below W.heap.size W W') (h:PxC w ab d F W):PxC w ab d F W' :=
 ⟨⟨h.1.1.step hb,h.1.2.trans (hb.mono h.1.2.size)⟩,(hb.cell (World.block_lt_of_cell? W _ h.2)).trans h.2⟩
end Go.Proofs.YtcecjoaeolglbaaGreatDoor.Hand
end

section
namespace Go.Proofs.YtcecjoaeolglbaaGreatDoor.Hand
open Go.RowKit
def nodeV (v:ByteArray) (p:Int):Array Value := #[.string v,.int .i64 p,.string ⟨#[]⟩,.pointer none,.slice none 0 0]
def nodeP (t:ByteArray) (b:Nat):Array Value := #[.string ⟨#[]⟩,.int .i64 0,.string t,.pointer (some ⟨b,0,none⟩),.slice none 0 0]
end Go.Proofs.YtcecjoaeolglbaaGreatDoor.Hand
end

section
namespace Go.Proofs.YtcecjoaeolglbaaGreatDoor.Hand
open Go.RowKit Go.Proofs.YtcecjoaeolglbaaGreatDoor.Pb
structure BlkF (b n:Nat) (f:Nat→Value) (W:World):Prop where
 cell:∀ j,j<n→W.cell? ⟨b,j,none⟩=some (f j)
 open_:∀ j,W.frozen? ⟨b,j,none⟩=false
def upd (f:Nat→Value) (k:Nat) (x:Value):Nat→Value:=fun j=>if j=k then x else f j
def NodeAt (lo b:Nat) (t:List UInt8) (v:ByteArray) (p:Int) (W:World):Prop :=
 lo≤b∧b<W.heap.size∧((t=[]∧Blk b (nodeV v p) W)∨(t≠[]∧∃ b2,lo≤b2∧b2<W.heap.size∧Blk b (nodeP (B t) b2) W∧Blk b2 (nodeV v p) W))
end Go.Proofs.YtcecjoaeolglbaaGreatDoor.Hand
end

section
namespace Go.Proofs.YtcecjoaeolglbaaGreatDoor.Hand
open Go.RowKit Go.Proofs.YtcecjoaeolglbaaGreatDoor.Pb
def usedB (l:List UInt8) (x:Nat):Bool:=l.any fun c=>c.toNat == x
def cntU (l:List UInt8):Nat→Nat
 | 0=>0
 | x+1=>cntU l x+if usedB l x=true then 1 else 0
def u8v (b:Bool):Value:=.int .u8 (if b=true then 1 else 0)
def rootF (l:List UInt8) (ts:Int) (j:Nat):Value :=
 if j=0 then .string ⟨#[]⟩ else if j=1 then .int .i64 0 else if j=2 then .string ⟨#[]⟩ else if j=3 then .pointer none else if j=4 then .slice none 0 0 else if j=5 then .int .i64 ts
 else u8v (usedB l (j - 6))
def mapV (l:List UInt8) (ts x:Nat):Value:=.int .u8 ((if usedB l x=true then cntU l x else ts:Nat):Int)
def mapF (l:List UInt8) (ts k j:Nat):Value:=if j<6 then rootF l ts j else if j - 6<k then mapV l ts (j - 6) else u8v (usedB l (j - 6))
def replF (l:List UInt8) (ts bt:Nat):Nat→Value:=upd (mapF l ts 256) 4 (.slice (some ⟨bt,0,none⟩) ts ts)
structure TrieSt (n br bt lo ts:Nat) (U:List UInt8) (kv:List (List UInt8×ByteArray)) (q:Nat) (w W:World):Prop where
 root:BlkF br 262 (replF U ts bt) W
 tab:∃ T,BlkF bt ts T W∧(∀ j (h:j<kv.length),j<q→∀ c t,kv[j].1=c::t→∃ (b:Nat) (p:Int),0<p∧T (cntU U c.toNat) = .pointer (some ⟨b,0,none⟩)∧NodeAt lo b t kv[j].2 p W) ∧
  (∀ x,x<ts→(∀ j (h:j<kv.length),j<q→∀ c t,kv[j].1=c::t→cntU U c.toNat≠x)→T x = .pointer none)
 below:Below n w W
 size:lo≤W.heap.size
theorem NodeAt.mono {lo lo' b:Nat} {t:List UInt8} {v:ByteArray} {p:Int} {W:World} (h:NodeAt lo b t v p W) (hl:lo'≤lo):NodeAt lo' b t v p W:=by
 obtain ⟨h1,h2,h3⟩:=h
 refine ⟨by omega,h2,?_⟩
 rcases h3 with h3|⟨ht,b2,h4,h5⟩
 · exact .inl h3
 · exact .inr ⟨ht,b2,by omega,h5⟩
section
variable {P : Program}
end
end Go.Proofs.YtcecjoaeolglbaaGreatDoor.Hand
end

section
namespace Go.Proofs.YtcecjoaeolglbaaGreatDoor.Hand
open Go Go.RowKit Go.Proofs.YtcecjoaeolglbaaGreatDoor.Pl Go.Proofs.YtcecjoaeolglbaaGreatDoor.Pb Go.Proofs.YtcecjoaeolglbaaGreatDoor.Pure
theorem put_app (k:Bool) (f:Fl) (a b:List UInt8):flPut k f (a++b)=flPut k (flPut k f a) b:=List.foldl_append ..
end Go.Proofs.YtcecjoaeolglbaaGreatDoor.Hand
end

section
namespace Go.Proofs.YtcecjoaeolglbaaGreatDoor.Hand
open Go Go.RowKit Go.Proofs.YtcecjoaeolglbaaGreatDoor.K0 Go.Proofs.YtcecjoaeolglbaaGreatDoor.Pl Go.Proofs.YtcecjoaeolglbaaGreatDoor.Pb Go.Proofs.YtcecjoaeolglbaaGreatDoor.Sa Go.Proofs.YtcecjoaeolglbaaGreatDoor.St Go.Proofs.YtcecjoaeolglbaaGreatDoor.Pure Go.Proofs.YtcecjoaeolglbaaGreatDoorW.PrintWords Go.Proofs.YtcecjoaeolglbaaGreatDoorW.PrintLast Go.Proofs.YtcecjoaeolglbaaGreatDoorW.PrintMore
abbrev RowU8 (w:World) (a:Option Addr) (len cap:Nat) (z:List Int):Prop :=
 (a=none∧len=0∧cap=0∧z=[])∨∃ x,a=some x∧len≤cap∧cap≤maxLen∧z.length=cap∧(∀ i,i<z.length→w.cell? (x.add i)=some (.int .u8 (z.getD i 0)))∧∀ n∈z,(Lit.int .u8 n).wf=true
def numsB (l:List Int):List UInt8:=l.map fun n=>UInt8.ofNat n.toNat
theorem numsB_len (l:List Int):(numsB l).length=l.length:=List.length_map ..
theorem byt_of {l:List Int} {A:Option Addr} {w:World} (h:Kd.C (Kd.int .u8) w A l.length l) (c:Nat):Byt (numsB l) (.slice A l.length c) w:=fun _ hb =>
 Kd.C_string (P:=Tryz.prog) (c:=c) (src:=27) (dst:=9) Tryz.underlying27 Tryz.underlying5 Tryz.underlying9 (Kd.C_below h hb)
noncomputable def extract_Extract.f (l0:List Int):Option ByteArray:=if l0.length≤6000 then some (B (extL (numsB l0))) else none
theorem extract_Extract.calls (A0:Option Addr) (c0:Nat) (l0:List Int) (r:ByteArray) (w:World) (hr0:Kd.C (Kd.int .u8) w A0 l0.length l0) (_:l0.length≤c0) (hGl:Glob w) (h:extract_Extract.f l0=some r) :
  Calls Tryz.prog 28 #[.slice A0 l0.length c0] w fun e w'=>e = .returned (.string r)∧Below w.heap.size w w':=by
 obtain ⟨hc,h⟩:=hg_split h
 obtain rfl:=Option.some.inj h
 exact extract_c (numsB l0) _ (by rw [numsB_len];exact hc) w hGl (byt_of hr0 c0)
def utf_Right.f (a0:ByteArray):Option Bool:=some (rightL a0.data.toList)
theorem utf_Right.calls (a0:ByteArray) (r:Bool) (w:World) (h:utf_Right.f a0=some r) :
  Calls Tryz.prog 17 #[.string a0] w fun e w'=>e = .returned (.bool r)∧Below w.heap.size w w':=by
 obtain rfl:=Option.some.inj h
 have:=right_c a0.data.toList w
 rwa [← B_of] at this
end Go.Proofs.YtcecjoaeolglbaaGreatDoor.Hand
end

section
namespace Go.Proofs.YtcecjoaeolglbaaGreatDoor.Hand
open Go Go.RowKit Go.Proofs.YtcecjoaeolglbaaGreatDoor.Pl Go.Proofs.YtcecjoaeolglbaaGreatDoor.Pb Go.Proofs.YtcecjoaeolglbaaGreatDoor.Pure
def awA:List UInt8:=[60,112,62,97,32,38,97,109,112,59,32,98,60,47,112,62,60,115,99,114,105,112,116,62,120,60,47,115,99,114,105,112,116,62,99]
theorem awA_norm:normL (decL (trimL awA))=awA:=by decide +kernel
theorem awA_drv:drvL awA=[.start [112] [] false,.text (rdL false [97,32,38,97,109,112,59,32,98]),.fin [112],.start scriptL [] false,.text [120],.fin scriptL,.text (rdL false [99])]:=by kernel_rfl
theorem awA_rd:rdL false [97,32,38,97,109,112,59,32,98]=[97,32,38,32,98]:=by
 rw [rdL_ne _ _ (by decide),rdL_ne _ _ (by decide)]
 have:=dec_amp false [32,98]
 rw [rdL_no false (p:=[32,98]) (by decide)] at this
 exact congrArg (fun x=>97::32::x) this
theorem awA_ext:extL awA=[97,32,38,32,98,10,10,99]:=by
 unfold extL driveL
 rw [awA_norm,awA_drv,awA_rd,rdL_no false (p:=[99]) (by decide)]
 decide +kernel
theorem aw0_ext:extL []=[]:=by
 unfold extL
 rw [show normL (decL (trimL []))=[] by decide +kernel]
 unfold driveL
 rw [drvL_nil]
 decide +kernel
end Go.Proofs.YtcecjoaeolglbaaGreatDoor.Hand
end

section
namespace Go.Proofs.YtcecjoaeolglbaaGreatDoor.Hand
open Go Go.RowKit Go.Proofs.YtcecjoaeolglbaaGreatDoor.K0 Go.Proofs.YtcecjoaeolglbaaGreatDoor.Pl Go.Proofs.YtcecjoaeolglbaaGreatDoor.Pb Go.Proofs.YtcecjoaeolglbaaGreatDoor.Sa Go.Proofs.YtcecjoaeolglbaaGreatDoor.St Go.Proofs.YtcecjoaeolglbaaGreatDoor.Pure Go.Proofs.YtcecjoaeolglbaaGreatDoorW.PrintWords Go.Proofs.YtcecjoaeolglbaaGreatDoorW.PrintLast Go.Proofs.YtcecjoaeolglbaaGreatDoorW.PrintMore
theorem byt_lit (s:List UInt8) (w:World) (C:Array Value) (hC:C=(s.map fun b=>Value.int .u8 (b.toNat:Int)).toArray) (f:Nat×Nat) (c:Nat) :
  Byt s (.slice (some ⟨w.heap.size,0,none⟩) s.length c) (w.alloc (.cells C 5 f)):=fun W hb=>by
 refine run_convert_bytes_back (P:=Tryz.prog) W 27 9 5 ⟨w.heap.size,0,none⟩ _ s Tryz.underlying27 Tryz.underlying5 Tryz.underlying9 (fun j hj => ?_)
 have ha:(⟨w.heap.size,0,none⟩:Addr).add j=⟨w.heap.size,j,none⟩:=by unfold Addr.add;split<;>simp_all
 have hc:(w.alloc (.cells C 5 f)).cell? ⟨w.heap.size,j,none⟩=some (.int .u8 (s[j].toNat:Int)):=by
  subst hC
  have h1:(w.heap.push (.cells (s.map fun b=>Value.int .u8 (b.toNat:Int)).toArray 5 f))[w.heap.size]? = some (.cells (s.map fun b=>Value.int .u8 (b.toNat:Int)).toArray 5 f):=by simp
  have h2:(w.alloc (.cells (s.map fun b=>Value.int .u8 (b.toNat:Int)).toArray 5 f)).heap[w.heap.size]? = some (.cells (s.map fun b=>Value.int .u8 (b.toNat:Int)).toArray 5 f):=h1
  unfold World.cell?
  simp only [h2,Option.bind_some]
  simp [hj]
 rw [ha]
 exact (hb.cell (World.block_lt_of_cell? _ _ hc)).trans hc
theorem byt_nil (w:World):Byt [] (.slice none 0 0) w:=fun W _=>run_convert_bytes_nil (P:=Tryz.prog) W 27 5 Tryz.underlying27 Tryz.underlying5 0 0 9 Tryz.underlying9
set_option maxRecDepth 100000 in
set_option maxHeartbeats 4000000 in
theorem awake20_c (w:World) (hG:Glob w):Calls Tryz.prog 36 #[] w fun e w'=>e = .returned (.bool true)∧Below w.heap.size w w':=by
 have kc:=fun (w:World) (C:Array Value) (n c:Nat)=>Lib.run_convert_bytes_const (P:=Tryz.prog) w 27 5 C n c Tryz.underlying27 Tryz.underlying5
 have C1:Hid (∀ W v,Glob W→Byt awA v W→Calls Tryz.prog 28 #[v] W fun e w'=>e = .returned (.string ⟨#[97,32,38,32,98,10,10,99]⟩)∧Below W.heap.size W w'):=Lib.hid (fun W v hG hv=>by
  have:=extract_c awA v (by decide) W hG hv
  rwa [awA_ext] at this)
 have C2:Hid (∀ W,Glob W→Calls Tryz.prog 28 #[.slice none 0 0] W fun e w'=>e = .returned (.string ⟨#[]⟩)∧Below W.heap.size W w'):=Lib.hid (fun W hG=>by
  have:=extract_c [] _ (by decide) W hG (byt_nil W)
  rwa [aw0_ext] at this)
 have HG:=Lib.hid hG
 clear hG
 go_enter Tryz.func36,Tryz.ntmps36
 go_wp2_with fail
 have hb0:=below_alloc (Below.refl w.heap.size w) (.cells (awA.map fun b=>Value.int .u8 (b.toNat:Int)).toArray 5 (35,36))
 refine (C1.out _ _ (HG.out.step hb0) (byt_lit awA w _ rfl _ _)).mono ?_
 rintro e w1 ⟨rfl,hb⟩
 have HB:=Lib.hid (hb0.trans (hb.mono hb0.size))
 clear hb hb0
 go_wp2_with fail
 refine (C2.out _ (HG.out.step HB.out)).mono ?_
 rintro e w2 ⟨rfl,hb⟩
 replace HB:=Lib.hid (HB.out.trans (hb.mono HB.out.size))
 clear hb
 go_wp2_with fail
 go_ret
 exact ⟨rfl,HB.out⟩
def flaillaw20_awake.f:Option Bool:=some true
theorem flaillaw20_awake.calls (r:Bool) (w:World) (hGl:Glob w) (h:flaillaw20_awake.f=some r) :
  Calls Tryz.prog 36 #[] w fun e w'=>e = .returned (.bool r)∧Below w.heap.size w w':=by
 obtain rfl:=Option.some.inj h
 exact awake20_c w hGl
end Go.Proofs.YtcecjoaeolglbaaGreatDoor.Hand
end

section
namespace Go.Proofs.YtcecjoaeolglbaaGreatDoor.Sz
open Go.RowKit Go.Proofs.YtcecjoaeolglbaaGreatDoor.K0 Go.Proofs.YtcecjoaeolglbaaGreatDoor.Hand Go.Proofs.YtcecjoaeolglbaaGreatDoor.Sa Go.Proofs.YtcecjoaeolglbaaGreatDoorW.PrintWords Go.Proofs.YtcecjoaeolglbaaGreatDoorW.PrintLast Go.Proofs.YtcecjoaeolglbaaGreatDoorW.PrintMore
attribute [local go_sem] max2_int min2_int max_two min_two max_three min_three max_four min_four  
set_option linter.unusedVariables false
set_option linter.unusedSimpArgs false
noncomputable def flailref01_Begins.f (a0:ByteArray) (a1:ByteArray):Option (Bool):=if (a0.size:Int)<(a1.size:Int) then (some false) else (if 0≤(a1.size:Int) then (if (a1.size:Int)≤(a0.size:Int) then (some ((a0.extract 0 ((a1.size:Int):Int).toNat).toList == a1.toList)) else (none)) else (none))
set_option maxHeartbeats 8000000 in
set_option maxRecDepth 100000 in
theorem flailref01_Begins.calls (a0:ByteArray) (a1:ByteArray) (r:Bool) (w:World) (h:flailref01_Begins.f a0 a1=some r) :
  Calls Tryz.prog 25 #[.string a0,.string a1] w fun e w'=>e = .returned (.bool r)∧Drawn0 w w':=by
 have H:(if (a0.size:Int)<(a1.size:Int) then (some false) else (if 0≤(a1.size:Int) then (if (a1.size:Int)≤(a0.size:Int) then (some ((a0.extract 0 ((a1.size:Int):Int).toNat).toList == a1.toList)) else (none)) else (none)))=some r:=h
 clear h
 by_cases c3:(a0.size:Int)<(a1.size:Int)
 · rw [if_pos c3] at H
   have c3b0:decide ((a0.size:Int)<(a1.size:Int))=true:=decide_eq_true c3
   have c3b1:decide (a0.size<a1.size)=true:=decide_eq_true (Int.ofNat_lt.mp c3)
   clear c3
   obtain rfl:=Option.some.inj H
   go_enter Tryz.func25,Tryz.ntmps25
   go_wp2
   go_ret
   exact ⟨by first|rfl | (simp;done) | (simp [*];done),by repeat (first|exact Drawn0.refl _|apply Drawn0.step)⟩
 · rw [if_neg c3] at H
   have c3b0:decide ((a0.size:Int)<(a1.size:Int))=false:=decide_eq_false c3
   have c3b1:decide (a0.size<a1.size)=false:=decide_eq_false (fun h=>c3 (Int.ofNat_lt.mpr h))
   clear c3
   by_cases c4:0≤(a1.size:Int)
   · rw [if_pos c4] at H
     have c4b0:=eq_true c4
     have c4b1:decide (0≤(a1.size:Int))=true:=decide_eq_true c4
     clear c4
     by_cases c5:(a1.size:Int)≤(a0.size:Int)
     · rw [if_pos c5] at H
       have c5b0:=eq_true c5
       have c5b1:decide ((a1.size:Int)≤(a0.size:Int))=true:=decide_eq_true c5
       clear c5
       obtain rfl:=Option.some.inj H
       go_enter Tryz.func25,Tryz.ntmps25
       go_wp2
       go_ret
       exact ⟨by first|rfl | (simp;done) | (simp [*];done),by repeat (first|exact Drawn0.refl _|apply Drawn0.step)⟩
     · rw [if_neg c5] at H
       exact absurd H (by simp)
   · rw [if_neg c4] at H
     exact absurd H (by simp)
end Go.Proofs.YtcecjoaeolglbaaGreatDoor.Sz
end

section
namespace Go.Proofs.YtcecjoaeolglbaaGreatDoor.Sz
open Go.RowKit Go.Proofs.YtcecjoaeolglbaaGreatDoor.K0 Go.Proofs.YtcecjoaeolglbaaGreatDoor.Hand Go.Proofs.YtcecjoaeolglbaaGreatDoor.Sa Go.Proofs.YtcecjoaeolglbaaGreatDoorW.PrintWords Go.Proofs.YtcecjoaeolglbaaGreatDoorW.PrintLast Go.Proofs.YtcecjoaeolglbaaGreatDoorW.PrintMore
attribute [local go_sem] max2_int min2_int max_two min_two max_three min_three max_four min_four  
set_option linter.unusedVariables false
set_option linter.unusedSimpArgs false
mutual
noncomputable def flaillaw20_ExtractPlain.j0:Nat→List Int→Bool→Bool→Option (Bool)
 | 0,_,_,_=>none
 | k+1,x0,x3,x18=>if x18=true then (some x3) else ((flailref01_Begins.f (strOfNums x0) (⟨#[239,187,191]⟩:ByteArray)).bind fun t115=>(flaillaw20_ExtractPlain.l0 k x0 x3 t115 (⟨#[]⟩:ByteArray) false 0))
noncomputable def flaillaw20_ExtractPlain.l0:Nat→List Int→Bool→Bool→ByteArray→Bool→Int→Option (Bool)
 | 0,_,_,_,_,_,_=>none
 | k+1,x0,x3,x4,x5,x6,x7=>if x7<(x0.length:Int) then (if 0≤x7 then (if (rd x0 x7)=60 then (flaillaw20_ExtractPlain.j2 k x0 x3 x4 x5 x6 x7 (rd x0 x7) true) else (if (rd x0 x7)=38 then (flaillaw20_ExtractPlain.j2 k x0 x3 x4 x5 x6 x7 (rd x0 x7) true) else (if (rd x0 x7)=0 then (flaillaw20_ExtractPlain.j2 k x0 x3 x4 x5 x6 x7 (rd x0 x7) true) else (flaillaw20_ExtractPlain.j2 k x0 x3 x4 x5 x6 x7 (rd x0 x7) x4)))) else (none)) else (if x3=true then ((extract_Extract.f x0).bind fun t116=>(some (t116.toList == x5.toList))) else (some false))
noncomputable def flaillaw20_ExtractPlain.j2:Nat→List Int→Bool→Bool→ByteArray→Bool→Int→Int→Bool→Option (Bool)
 | 0,_,_,_,_,_,_,_,_=>none
 | k+1,x0,x3,x4,x5,x6,x7,x8,x45=>if x45=true then (some x3) else (if x8=9 then (flaillaw20_ExtractPlain.j3 k x0 x3 x4 x5 x6 x7 x8 true) else (if x8=10 then (flaillaw20_ExtractPlain.j3 k x0 x3 x4 x5 x6 x7 x8 true) else (if x8=12 then (flaillaw20_ExtractPlain.j3 k x0 x3 x4 x5 x6 x7 x8 true) else (if x8=13 then (flaillaw20_ExtractPlain.j3 k x0 x3 x4 x5 x6 x7 x8 true) else (flaillaw20_ExtractPlain.j3 k x0 x3 x4 x5 x6 x7 x8 (x8 == 32))))))
noncomputable def flaillaw20_ExtractPlain.j3:Nat→List Int→Bool→Bool→ByteArray→Bool→Int→Int→Bool→Option (Bool)
 | 0,_,_,_,_,_,_,_,_=>none
 | k+1,x0,x3,x4,x5,x6,x7,x8,x64=>if x64=true then (flaillaw20_ExtractPlain.l0 k x0 x3 x4 x5 (x5.toList != ([]:List UInt8)) (wrap64 (x7+1))) else (if x6=true then (if x5.size+1≤9223372036854775807 then ((some (([x8]:List Int):List Int)).bind fun y118=>(if (x5++(⟨#[32]⟩:ByteArray)).size+(strOfNums y118).size≤9223372036854775807 then (flaillaw20_ExtractPlain.l0 k x0 x3 x4 ((x5++(⟨#[32]⟩:ByteArray))++(strOfNums y118)) false (wrap64 (x7+1))) else (none))) else (none)) else ((some (([x8]:List Int):List Int)).bind fun y121=>(if x5.size+(strOfNums y121).size≤9223372036854775807 then (flaillaw20_ExtractPlain.l0 k x0 x3 x4 (x5++(strOfNums y121)) false (wrap64 (x7+1))) else (none))))
end
noncomputable def flaillaw20_ExtractPlain.f (k:Nat) (l0:List Int):Option (Bool):=(flaillaw20_awake.f).bind fun t113=>(if (l0.length:Int)>300 then (flaillaw20_ExtractPlain.j0 k l0 t113 true) else ((utf_Right.f (strOfNums l0)).bind fun t114=>(flaillaw20_ExtractPlain.j0 k l0 t113 (!t114))))
set_option maxHeartbeats 8000000 in
set_option maxRecDepth 100000 in
theorem flaillaw20_ExtractPlain.calls (k:Nat) (A0:Option Addr) (c0:Nat) (l0:List Int) (r:Bool) (w:World) (hr0:Kd.C (Kd.int .u8) w A0 l0.length l0) (hc0:l0.length≤c0) (hGl:Glob w) (h:flaillaw20_ExtractPlain.f k l0=some r) :
  Calls Tryz.prog 15 #[.slice A0 l0.length c0] w fun e w'=>e = .returned (.bool r)∧Below w.heap.size w w':=by
 have HR0:=Aside0.mk hr0
 have HC0:=Aside0.mk hc0
 clear hr0 hc0
 have HB:=Aside0.mk (Below.refl w.heap.size w)
 have H:((flaillaw20_awake.f).bind fun t113=>(if (l0.length:Int)>300 then (flaillaw20_ExtractPlain.j0 k l0 t113 true) else ((utf_Right.f (strOfNums l0)).bind fun t114=>(flaillaw20_ExtractPlain.j0 k l0 t113 (!t114)))))=some r:=h
 clear h
 replace H:=Option.bind_eq_some_iff.mp H
 obtain ⟨t113,A20,H⟩:=H
 replace H:(if (l0.length:Int)>300 then (flaillaw20_ExtractPlain.j0 k l0 t113 true) else ((utf_Right.f (strOfNums l0)).bind fun t114=>(flaillaw20_ExtractPlain.j0 k l0 t113 (!t114))))=some r:=H
 have A2:=Aside0.mk A20
 clear A20
 have HC3:=Aside0.mk H
 clear H
 go_enter Tryz.func15,Tryz.ntmps15
 go_upto_region 2 with (first | ((with_reducible refine gate_callee (f:=36) rfl ?_);refine goesL_ (some 9) rfl rfl Tryz.func36 (by kernel_rfl) rfl #[] rfl (by (try simp only [List.map_toArray,List.map_cons,List.map_nil]);first|done|rfl | (simp only [List.length_drop,List.length_take];rfl)) ?_;(with_reducible refine (flaillaw20_awake.calls  t113 _ ?side1 A2.out).mono ?_);(case side1=>exact Glob.step hGl (by repeat (first | (with_reducible first|exact HB.out|apply below_alloc|apply pw_below_drewN|apply below_drew1)|exact HB.out)));rintro e w4 ⟨rfl,hb⟩;refine ⟨_,rfl,?_⟩;have n0_:=Aside0.mk (below_step (by repeat (first | (with_reducible first|exact HB.out|apply below_alloc|apply pw_below_drewN|apply below_drew1)|exact HB.out)) hb);clear HB;have HB:=n0_;clear n0_;(try clear hb);(try clear hb2);(try clear hk);(try clear hi)))
 (try simp only [Act.put,List.setIfInBounds_toArray,List.set_cons_zero,List.set_cons_succ])
 go_cut [18] (fun v18 wc => ∃ (kq:Nat) (x18_2:Bool),v18 = .bool x18_2∧Aside0 (flaillaw20_ExtractPlain.j0 kq l0 t113 x18_2=some r)∧Aside0 (kq≤k)∧Aside0 (Below w.heap.size w wc))
 case first =>
  have H:=HC3.out
  clear HC3
  by_cases c5:(l0.length:Int)>300
  · rw [if_pos c5] at H
    have c5b0:decide (300<(l0.length:Int))=true:=decide_eq_true c5
    have c5b1:decide (300<l0.length)=true:=decide_eq_true (by omega)
    clear c5
    (first|rw [c5b0] | (simp only [i64_w,i32_w];rw [c5b0])|skip)
    have H':=Aside0.mk H
    clear H
    go_wp2
    go_meet
    case rel=>exact ⟨_,(true),(by first|rfl | (simp;done) | (simp [*];done)),H',⟨by first|omega|exact Nat.le_refl _⟩,⟨by repeat (first | (with_reducible first|exact HB.out|apply below_alloc|apply pw_below_drewN|apply below_drew1)|exact HB.out)⟩⟩
  · rw [if_neg c5] at H
    have c5b0:decide (300<(l0.length:Int))=false:=decide_eq_false c5
    have c5b1:decide (300<l0.length)=false:=decide_eq_false (by omega)
    clear c5
    (first|rw [c5b0] | (simp only [i64_w,i32_w];rw [c5b0])|skip)
    replace H:=Option.bind_eq_some_iff.mp H
    obtain ⟨t114,A60,H⟩:=H
    replace H:(flaillaw20_ExtractPlain.j0 k l0 t113 (!t114))=some r:=H
    have A6:=Aside0.mk A60
    clear A60
    have H':=Aside0.mk H
    clear H
    have hcv7:=Kd.C_string (P:=Tryz.prog) (A:=A0) (c:=c0) Tryz.underlying27 Tryz.underlying5 Tryz.underlying9 (Kd.C_below HR0.out HB.out)
    go_wp2_with (first | (go_at_call 17;(with_reducible refine (utf_Right.calls (strOfNums l0) t114 _ A6.out).mono ?_);rintro e w8 ⟨rfl,hb⟩;have n0_:=Aside0.mk (below_step (by repeat (first | (with_reducible first|exact HB.out|apply below_alloc|apply pw_below_drewN|apply below_drew1)|exact HB.out)) hb);clear HB;have HB:=n0_;clear n0_;(try clear hb);(try clear hb2);(try clear hk);(try clear hi)))
    go_meet
    case rel=>exact ⟨_,(!t114),(by first|rfl | (simp;done) | (simp [*];done)),H',⟨by first|omega|exact Nat.le_refl _⟩,⟨by repeat (first | (with_reducible first|exact HB.out|apply below_alloc|apply pw_below_drewN|apply below_drew1)|exact HB.out)⟩⟩
 case rest =>
  clear HC3
  try clear c1
  try clear p2
  try clear c3
  try clear c5
  try clear c5b0
  try clear c5b1
  try clear hcv7
  obtain ⟨kq,x18_2,rfl,HA,HJ2,HB⟩:=hcut
  cases kq with
  | zero=>exact absurd HA.out (by simp [flaillaw20_ExtractPlain.j0])
  | succ kj2 =>
    have H:=HA.out
    clear HA
    simp only [flaillaw20_ExtractPlain.j0] at H
    by_cases c9:x18_2=true
    · subst c9
      have H1:(some t113)=some r:=by rw [if_pos rfl] at H;exact H
      clear H
      have H:=H1
      clear H1
      obtain rfl:=Option.some.inj H
      go_wp2
      go_ret
      exact ⟨by first|rfl | (simp [errW_none,errW_some]<;>rfl) | (simp [*,errW_none,errW_some]<;>rfl),by repeat (first | (with_reducible first|exact HB.out|apply below_alloc|apply pw_below_drewN|apply below_drew1)|exact HB.out)⟩
    · replace c9:=Bool.eq_false_iff.mpr c9
      subst c9
      have H1:((flailref01_Begins.f (strOfNums l0) (⟨#[239,187,191]⟩:ByteArray)).bind fun t115=>(flaillaw20_ExtractPlain.l0 kj2 l0 t113 t115 (⟨#[]⟩:ByteArray) false 0))=some r:=by rw [if_neg (show ¬ (false=true) by decide)] at H;exact H
      clear H
      have H:=H1
      clear H1
      replace H:=Option.bind_eq_some_iff.mp H
      obtain ⟨t115,A100,H⟩:=H
      replace H:(flaillaw20_ExtractPlain.l0 kj2 l0 t113 t115 (⟨#[]⟩:ByteArray) false 0)=some r:=H
      have A10:=Aside0.mk A100
      clear A100
      have H':=Aside0.mk H
      clear H
      have hcv11:=Kd.C_string (P:=Tryz.prog) (A:=A0) (c:=c0) Tryz.underlying27 Tryz.underlying5 Tryz.underlying9 (Kd.C_below HR0.out HB.out)
      go_wp2_with (first | ((with_reducible refine gate_callee (f:=25) rfl ?_);refine goesL_ (some 22) rfl rfl Tryz.func25 (by kernel_rfl) rfl #[.string (strOfNums l0),.string (⟨#[239,187,191]⟩:ByteArray)] rfl (by (try simp only [List.map_toArray,List.map_cons,List.map_nil]);first|done|rfl | (simp only [List.length_drop,List.length_take];rfl)) ?_;(with_reducible refine (flailref01_Begins.calls (strOfNums l0) (⟨#[239,187,191]⟩:ByteArray) t115 _ A10.out).mono ?_);rintro e w' ⟨rfl,⟨nd,rfl⟩⟩;refine ⟨_,rfl,?_⟩))
      go_loopg [5,6,7] kj2 (fun kq v5 v6 v7 w' => ∃ (x5_2:ByteArray) (x6_2:Bool) (x7_2:Int),v5 = .string x5_2∧v6 = .bool x6_2∧v7 = .int .i64 x7_2∧Aside0 (flaillaw20_ExtractPlain.l0 kq l0 t113 t115 x5_2 x6_2 x7_2=some r)∧Aside0 (kq≤kj2)∧Aside0 (Below w.heap.size w w'))
      case atStart=>exact ⟨((⟨#[]⟩:ByteArray)),(false),(0),(by first|rfl | (simp;done) | (simp [*];done)),(by first|rfl | (simp;done) | (simp [*];done)),(by first|rfl | (simp;done) | (simp [*];done)),H',⟨Nat.le_refl _⟩,⟨by repeat (first | (with_reducible first|exact HB.out|apply below_alloc|apply pw_below_drewN|apply below_drew1)|exact HB.out)⟩⟩
      case round =>
       clear H'
       try clear c1
       try clear hcv1
       try clear c2
       try clear p2
       try clear c3
       try clear c5
       try clear c5b0
       try clear c5b1
       try clear hcv7
       try clear c9
       try clear hcv11
       try clear p2
       obtain ⟨x5_2,x6_2,x7_2,rfl,rfl,rfl,HA,HK2,HB⟩:=hrel
       cases gk with
       | zero=>exact absurd HA.out (by simp [flaillaw20_ExtractPlain.l0])
       | succ k2 =>
         have H:=HA.out
         clear HA
         simp only [flaillaw20_ExtractPlain.l0] at H
         by_cases c12:x7_2<(l0.length:Int)
         · rw [if_pos c12] at H
           have c12b0:decide (x7_2<(l0.length:Int))=true:=decide_eq_true c12
           clear c12
           by_cases c13:0≤x7_2
           · rw [if_pos c13] at H
             have c13b0:decide (0≤x7_2)=true:=decide_eq_true c13
             clear c13
             have HC14:=Aside0.mk H
             clear H
             have p117:0≤(x7_2:Int):=of_decide_eq_true (by first | (with_reducible assumption)|assumption)
             have q117:x7_2<(l0.length:Int):=of_decide_eq_true (by first | (with_reducible assumption)|assumption)
             obtain ⟨ad117,e117,hx117_0⟩:=Kd.at_int HR0.out x7_2 p117 q117
             cases e117
             replace hx117_0:=(HB.out.cell (World.block_lt_of_cell? w _ hx117_0)).trans hx117_0
             replace p117:=eq_true p117
             replace q117:=eq_true q117
             go_upto_region 11 with (fail)
             go_cut [45] (fun v45 wc => ∃ (kq:Nat) (x45_13:Bool),v45 = .bool x45_13∧Aside0 (flaillaw20_ExtractPlain.j2 kq l0 t113 t115 x5_2 x6_2 x7_2 (rd l0 x7_2) x45_13=some r)∧Aside0 (kq≤k2)∧Aside0 (Below w.heap.size w wc))
             case first =>
              have H:=HC14.out
              clear HC14
              by_cases c15:(rd l0 x7_2)=60
              · rw [if_pos c15] at H
                have c15b0:((rd l0 x7_2) == 60)=true:=beq_iff_eq.mpr c15
                have c15b1:((rd l0 x7_2) != 60)=false:=bne_eq_false_iff_eq.mpr c15
                clear c15
                (first|rw [c15b0] | (simp only [i64_w,i32_w];rw [c15b0])|skip)
                have H':=Aside0.mk H
                clear H
                go_wp2
                go_meet
                case rel=>exact ⟨_,(true),(by first|rfl | (simp;done) | (simp [*];done)),H',⟨by have:=HJ2.out;have:=HK2.out;first|omega|exact Nat.le_refl _⟩,⟨by repeat (first | (with_reducible first|exact HB.out|apply below_alloc|apply pw_below_drewN|apply below_drew1)|exact HB.out)⟩⟩
              · rw [if_neg c15] at H
                have c15b0:((rd l0 x7_2) == 60)=false:=beq_eq_false_iff_ne.mpr c15
                have c15b1:((rd l0 x7_2) != 60)=true:=bne_iff_ne.mpr c15
                (first|rw [c15b0] | (simp only [i64_w,i32_w];rw [c15b0])|skip)
                by_cases c16:(rd l0 x7_2)=38
                · rw [if_pos c16] at H
                  have c16b0:((rd l0 x7_2) == 38)=true:=beq_iff_eq.mpr c16
                  have c16b1:((rd l0 x7_2) != 38)=false:=bne_eq_false_iff_eq.mpr c16
                  clear c16
                  have H':=Aside0.mk H
                  clear H
                  go_wp2
                  go_meet
                  case rel=>exact ⟨_,(true),(by first|rfl | (simp;done) | (simp [*];done)),H',⟨by have:=HJ2.out;have:=HK2.out;first|omega|exact Nat.le_refl _⟩,⟨by repeat (first | (with_reducible first|exact HB.out|apply below_alloc|apply pw_below_drewN|apply below_drew1)|exact HB.out)⟩⟩
                · rw [if_neg c16] at H
                  have c16b0:((rd l0 x7_2) == 38)=false:=beq_eq_false_iff_ne.mpr c16
                  have c16b1:((rd l0 x7_2) != 38)=true:=bne_iff_ne.mpr c16
                  by_cases c17:(rd l0 x7_2)=0
                  · rw [if_pos c17] at H
                    have c17b0:((rd l0 x7_2) == 0)=true:=beq_iff_eq.mpr c17
                    have c17b1:((rd l0 x7_2) != 0)=false:=bne_eq_false_iff_eq.mpr c17
                    clear c17
                    have H':=Aside0.mk H
                    clear H
                    go_wp2
                    go_meet
                    case rel=>exact ⟨_,(true),(by first|rfl | (simp;done) | (simp [*];done)),H',⟨by have:=HJ2.out;have:=HK2.out;first|omega|exact Nat.le_refl _⟩,⟨by repeat (first | (with_reducible first|exact HB.out|apply below_alloc|apply pw_below_drewN|apply below_drew1)|exact HB.out)⟩⟩
                  · rw [if_neg c17] at H
                    have c17b0:((rd l0 x7_2) == 0)=false:=beq_eq_false_iff_ne.mpr c17
                    have c17b1:((rd l0 x7_2) != 0)=true:=bne_iff_ne.mpr c17
                    have H':=Aside0.mk H
                    clear H
                    go_wp2
                    go_meet
                    case rel=>exact ⟨_,(t115),(by first|rfl | (simp;done) | (simp [*];done)),H',⟨by have:=HJ2.out;have:=HK2.out;first|omega|exact Nat.le_refl _⟩,⟨by repeat (first | (with_reducible first|exact HB.out|apply below_alloc|apply pw_below_drewN|apply below_drew1)|exact HB.out)⟩⟩
             case rest =>
              clear HC14
              try clear c1
              try clear p1
              try clear q1
              try clear hx1
              try clear hcv1
              try clear c2
              try clear p2
              try clear c3
              try clear c5
              try clear c5b0
              try clear c5b1
              try clear hcv7
              try clear c9
              try clear p11
              try clear q11
              try clear hx11
              try clear hcv11
              try clear c12
              try clear c12b0
              try clear c13
              try clear c13b0
              try clear c15
              try clear c15b0
              try clear c15b1
              try clear c16
              try clear c16b0
              try clear c16b1
              try clear c17
              try clear c17b0
              try clear c17b1
              try clear hx117_0
              try clear p117
              try clear p2
              try clear q117
              obtain ⟨kq,x45_13,rfl,HA,HJ13,HB⟩:=hcut
              cases kq with
              | zero=>exact absurd HA.out (by simp [flaillaw20_ExtractPlain.j2])
              | succ kj13 =>
                have H:=HA.out
                clear HA
                simp only [flaillaw20_ExtractPlain.j2] at H
                by_cases c18:x45_13=true
                · subst c18
                  have H1:(some t113)=some r:=by rw [if_pos rfl] at H;exact H
                  clear H
                  have H:=H1
                  clear H1
                  obtain rfl:=Option.some.inj H
                  go_wp2
                  go_ret
                  exact ⟨by first|rfl | (simp [errW_none,errW_some]<;>rfl) | (simp [*,errW_none,errW_some]<;>rfl),by repeat (first | (with_reducible first|exact HB.out|apply below_alloc|apply pw_below_drewN|apply below_drew1)|exact HB.out)⟩
                · replace c18:=Bool.eq_false_iff.mpr c18
                  subst c18
                  have H1:(if (rd l0 x7_2)=9 then (flaillaw20_ExtractPlain.j3 kj13 l0 t113 t115 x5_2 x6_2 x7_2 (rd l0 x7_2) true) else (if (rd l0 x7_2)=10 then (flaillaw20_ExtractPlain.j3 kj13 l0 t113 t115 x5_2 x6_2 x7_2 (rd l0 x7_2) true) else (if (rd l0 x7_2)=12 then (flaillaw20_ExtractPlain.j3 kj13 l0 t113 t115 x5_2 x6_2 x7_2 (rd l0 x7_2) true) else (if (rd l0 x7_2)=13 then (flaillaw20_ExtractPlain.j3 kj13 l0 t113 t115 x5_2 x6_2 x7_2 (rd l0 x7_2) true) else (flaillaw20_ExtractPlain.j3 kj13 l0 t113 t115 x5_2 x6_2 x7_2 (rd l0 x7_2) ((rd l0 x7_2) == 32))))))=some r:=by rw [if_neg (show ¬ (false=true) by decide)] at H;exact H
                  clear H
                  have H:=H1
                  clear H1
                  have HC19:=Aside0.mk H
                  clear H
                  go_upto_region 13 with (fail)
                  go_cut [64] (fun v64 wc => ∃ (kq:Nat) (x64_18:Bool),v64 = .bool x64_18∧Aside0 (flaillaw20_ExtractPlain.j3 kq l0 t113 t115 x5_2 x6_2 x7_2 (rd l0 x7_2) x64_18=some r)∧Aside0 (kq≤kj13)∧Aside0 (Below w.heap.size w wc))
                  case first =>
                   have H:=HC19.out
                   clear HC19
                   by_cases c20:(rd l0 x7_2)=9
                   · rw [if_pos c20] at H
                     have c20b0:((rd l0 x7_2) == 9)=true:=beq_iff_eq.mpr c20
                     have c20b1:((rd l0 x7_2) != 9)=false:=bne_eq_false_iff_eq.mpr c20
                     clear c20
                     (first|rw [c20b0] | (simp only [i64_w,i32_w];rw [c20b0])|skip)
                     have H':=Aside0.mk H
                     clear H
                     go_wp2
                     go_meet
                     case rel=>exact ⟨_,(true),(by first|rfl | (simp;done) | (simp [*];done)),H',⟨by have:=HJ2.out;have:=HK2.out;have:=HJ13.out;first|omega|exact Nat.le_refl _⟩,⟨by repeat (first | (with_reducible first|exact HB.out|apply below_alloc|apply pw_below_drewN|apply below_drew1)|exact HB.out)⟩⟩
                   · rw [if_neg c20] at H
                     have c20b0:((rd l0 x7_2) == 9)=false:=beq_eq_false_iff_ne.mpr c20
                     have c20b1:((rd l0 x7_2) != 9)=true:=bne_iff_ne.mpr c20
                     (first|rw [c20b0] | (simp only [i64_w,i32_w];rw [c20b0])|skip)
                     by_cases c21:(rd l0 x7_2)=10
                     · rw [if_pos c21] at H
                       have c21b0:((rd l0 x7_2) == 10)=true:=beq_iff_eq.mpr c21
                       have c21b1:((rd l0 x7_2) != 10)=false:=bne_eq_false_iff_eq.mpr c21
                       clear c21
                       have H':=Aside0.mk H
                       clear H
                       go_wp2
                       go_meet
                       case rel=>exact ⟨_,(true),(by first|rfl | (simp;done) | (simp [*];done)),H',⟨by have:=HJ2.out;have:=HK2.out;have:=HJ13.out;first|omega|exact Nat.le_refl _⟩,⟨by repeat (first | (with_reducible first|exact HB.out|apply below_alloc|apply pw_below_drewN|apply below_drew1)|exact HB.out)⟩⟩
                     · rw [if_neg c21] at H
                       have c21b0:((rd l0 x7_2) == 10)=false:=beq_eq_false_iff_ne.mpr c21
                       have c21b1:((rd l0 x7_2) != 10)=true:=bne_iff_ne.mpr c21
                       by_cases c22:(rd l0 x7_2)=12
                       · rw [if_pos c22] at H
                         have c22b0:((rd l0 x7_2) == 12)=true:=beq_iff_eq.mpr c22
                         have c22b1:((rd l0 x7_2) != 12)=false:=bne_eq_false_iff_eq.mpr c22
                         clear c22
                         have H':=Aside0.mk H
                         clear H
                         go_wp2
                         go_meet
                         case rel=>exact ⟨_,(true),(by first|rfl | (simp;done) | (simp [*];done)),H',⟨by have:=HJ2.out;have:=HK2.out;have:=HJ13.out;first|omega|exact Nat.le_refl _⟩,⟨by repeat (first | (with_reducible first|exact HB.out|apply below_alloc|apply pw_below_drewN|apply below_drew1)|exact HB.out)⟩⟩
                       · rw [if_neg c22] at H
                         have c22b0:((rd l0 x7_2) == 12)=false:=beq_eq_false_iff_ne.mpr c22
                         have c22b1:((rd l0 x7_2) != 12)=true:=bne_iff_ne.mpr c22
                         by_cases c23:(rd l0 x7_2)=13
                         · rw [if_pos c23] at H
                           have c23b0:((rd l0 x7_2) == 13)=true:=beq_iff_eq.mpr c23
                           have c23b1:((rd l0 x7_2) != 13)=false:=bne_eq_false_iff_eq.mpr c23
                           clear c23
                           have H':=Aside0.mk H
                           clear H
                           go_wp2
                           go_meet
                           case rel=>exact ⟨_,(true),(by first|rfl | (simp;done) | (simp [*];done)),H',⟨by have:=HJ2.out;have:=HK2.out;have:=HJ13.out;first|omega|exact Nat.le_refl _⟩,⟨by repeat (first | (with_reducible first|exact HB.out|apply below_alloc|apply pw_below_drewN|apply below_drew1)|exact HB.out)⟩⟩
                         · rw [if_neg c23] at H
                           have c23b0:((rd l0 x7_2) == 13)=false:=beq_eq_false_iff_ne.mpr c23
                           have c23b1:((rd l0 x7_2) != 13)=true:=bne_iff_ne.mpr c23
                           have H':=Aside0.mk H
                           clear H
                           go_wp2
                           go_meet
                           case rel=>exact ⟨_,(((rd l0 x7_2) == 32)),(by first|rfl | (simp;done) | (simp [*];done)),H',⟨by have:=HJ2.out;have:=HK2.out;have:=HJ13.out;first|omega|exact Nat.le_refl _⟩,⟨by repeat (first | (with_reducible first|exact HB.out|apply below_alloc|apply pw_below_drewN|apply below_drew1)|exact HB.out)⟩⟩
                  case rest =>
                   clear HC19
                   try clear c1
                   try clear p1
                   try clear q1
                   try clear hx1
                   try clear hcv1
                   try clear c2
                   try clear p2
                   try clear c3
                   try clear c5
                   try clear c5b0
                   try clear c5b1
                   try clear hcv7
                   try clear c9
                   try clear p11
                   try clear q11
                   try clear hx11
                   try clear hcv11
                   try clear c12
                   try clear c12b0
                   try clear c13
                   try clear c13b0
                   try clear c15
                   try clear c15b0
                   try clear c15b1
                   try clear c16
                   try clear c16b0
                   try clear c16b1
                   try clear c17
                   try clear c17b0
                   try clear c17b1
                   try clear c18
                   try clear c20
                   try clear c20b0
                   try clear c20b1
                   try clear c21
                   try clear c21b0
                   try clear c21b1
                   try clear c22
                   try clear c22b0
                   try clear c22b1
                   try clear c23
                   try clear c23b0
                   try clear c23b1
                   try clear hx117_0
                   try clear p1
                   try clear p11
                   try clear p117
                   try clear p2
                   try clear q1
                   try clear q11
                   try clear q117
                   obtain ⟨kq,x64_18,rfl,HA,HJ18,HB⟩:=hcut
                   cases kq with
                   | zero=>exact absurd HA.out (by simp [flaillaw20_ExtractPlain.j3])
                   | succ kj18 =>
                     have H:=HA.out
                     clear HA
                     simp only [flaillaw20_ExtractPlain.j3] at H
                     by_cases c24:x64_18=true
                     · subst c24
                       have H1:(flaillaw20_ExtractPlain.l0 kj18 l0 t113 t115 x5_2 (x5_2.toList != ([]:List UInt8)) (wrap64 (x7_2+1)))=some r:=by rw [if_pos rfl] at H;exact H
                       clear H
                       have H:=H1
                       clear H1
                       have H':=Aside0.mk H
                       clear H
                       go_wp2
                       go_roundg kj18
                       case measure=>have:=HJ2.out;have:=HK2.out;have:=HJ13.out;have:=HJ18.out;omega
                       case rel=>exact ⟨(x5_2),((x5_2.toList != ([]:List UInt8))),(wrap64 (x7_2+1)),(by first|rfl | (simp;done) | (simp [*];done) | (simp;cases x5_2.toList<;>rfl)),(by first|rfl | (simp;done) | (simp [*];done) | (simp;cases x5_2.toList<;>rfl)),(by first|rfl | (simp;done) | (simp [*];done) | (simp;cases x5_2.toList<;>rfl)),H',⟨by have:=HJ2.out;have:=HK2.out;have:=HJ13.out;have:=HJ18.out;omega⟩,⟨by repeat (first | (with_reducible first|exact HB.out|apply below_alloc|apply pw_below_drewN|apply below_drew1)|exact HB.out)⟩⟩
                     · replace c24:=Bool.eq_false_iff.mpr c24
                       subst c24
                       have H1:(if x6_2=true then (if x5_2.size+1≤9223372036854775807 then ((some (([(rd l0 x7_2)]:List Int):List Int)).bind fun y118=>(if (x5_2++(⟨#[32]⟩:ByteArray)).size+(strOfNums y118).size≤9223372036854775807 then (flaillaw20_ExtractPlain.l0 kj18 l0 t113 t115 ((x5_2++(⟨#[32]⟩:ByteArray))++(strOfNums y118)) false (wrap64 (x7_2+1))) else (none))) else (none)) else ((some (([(rd l0 x7_2)]:List Int):List Int)).bind fun y121=>(if x5_2.size+(strOfNums y121).size≤9223372036854775807 then (flaillaw20_ExtractPlain.l0 kj18 l0 t113 t115 (x5_2++(strOfNums y121)) false (wrap64 (x7_2+1))) else (none))))=some r:=by rw [if_neg (show ¬ (false=true) by decide)] at H;exact H
                       clear H
                       have H:=H1
                       clear H1
                       by_cases c25:x6_2=true
                       · subst c25
                         have H1:(if x5_2.size+1≤9223372036854775807 then ((some (([(rd l0 x7_2)]:List Int):List Int)).bind fun y118=>(if (x5_2++(⟨#[32]⟩:ByteArray)).size+(strOfNums y118).size≤9223372036854775807 then (flaillaw20_ExtractPlain.l0 kj18 l0 t113 t115 ((x5_2++(⟨#[32]⟩:ByteArray))++(strOfNums y118)) false (wrap64 (x7_2+1))) else (none))) else (none))=some r:=by rw [if_pos rfl] at H;exact H
                         clear H
                         have H:=H1
                         clear H1
                         by_cases c26:x5_2.size+1≤9223372036854775807
                         · rw [if_pos c26] at H
                           have c26b0:=eq_true c26
                           have c26b1:decide (x5_2.size+1≤9223372036854775807)=true:=decide_eq_true c26
                           try have c26b2:(9223372036854775807<x5_2.size+1)=False:=eq_false (Nat.not_lt.2 c26)
                           obtain ⟨y118,hy118⟩:∃ y_:List Int,y_=(([(rd l0 x7_2)]:List Int)):=⟨_,rfl⟩
                           replace H:(if (x5_2++(⟨#[32]⟩:ByteArray)).size+(strOfNums y118).size≤9223372036854775807 then (flaillaw20_ExtractPlain.l0 kj18 l0 t113 t115 ((x5_2++(⟨#[32]⟩:ByteArray))++(strOfNums y118)) false (wrap64 (x7_2+1))) else (none))=some r:=by first | (rw [hy118];with_reducible exact H) | (have H2_:=(Option.bind_some _ _).symm.trans H;rw [hy118];with_reducible exact H2_) | (have H2_:=(Option.bind_some _ _).symm.trans H;with_reducible exact H2_)|with_reducible exact H | (rw [hy118];exact H)|exact H
                           have Ny118:=Aside0.mk hy118
                           clear hy118
                           by_cases c27:(x5_2++(⟨#[32]⟩:ByteArray)).size+(strOfNums y118).size≤9223372036854775807
                           · rw [if_pos c27] at H
                             have c27b0:=eq_true c27
                             have c27b1:decide ((x5_2++(⟨#[32]⟩:ByteArray)).size+(strOfNums y118).size≤9223372036854775807)=true:=decide_eq_true c27
                             try have c27b2:(9223372036854775807<(x5_2++(⟨#[32]⟩:ByteArray)).size+(strOfNums y118).size)=False:=eq_false (Nat.not_lt.2 c27)
                             have H':=Aside0.mk H
                             clear H
                             go_wp2_with (first | ((with_reducible refine gate_dst (N:=72) rfl ?_);refine Kd.R_lit (Kd.int .u8) _ 5 ?hg (N:=72) ?hd (xs:=([(rd l0 x7_2)]:List Int)) (inner:=[.int .u8 (rd l0 x7_2)]) (ok:=fun _=>True) (okp:=fun _=>True) ?hr ?hp (fun _ hk=>hk) trivial (Below.refl _ _) (Nat.le_refl _) (by simp) ?_;(case hd=>rfl);(case hg=>rfl);(case hr=>first | (go_simp;done) | (go_simp;rfl));(case hp=>exact (Reps.one (show Kd.M (Kd.int .u8) _ _ _ (rd l0 x7_2) [.int .u8 (rd l0 x7_2)] from rfl) (Reps.none _ _)));intro v119 w28 ho29 hb hg_ hnew_;clear hg_ hnew_;(first|rw [← Ny118.out] at ho29 | (simp only [Int.reduceToNat] at ho29;rw [← Ny118.out] at ho29));have n0_:=Aside0.mk (Kd.R_lower ho29 (below_size (by repeat (first | (with_reducible first|exact HB.out|apply below_alloc|apply pw_below_drewN|apply below_drew1)|exact HB.out))));have n1_:=Aside0.mk (below_step (by repeat (first | (with_reducible first|exact HB.out|apply below_alloc|apply pw_below_drewN|apply below_drew1)|exact HB.out)) hb);clear HB;have HO120:=n0_;have HB:=n1_;clear n0_ n1_;clear hb ho29;have hcv30:=own_string (P:=Tryz.prog) Tryz.underlying27 Tryz.underlying5 Tryz.underlying9 (Kd.own_of_R HO120.out)))
                             go_roundg kj18
                             case measure=>have:=HJ2.out;have:=HK2.out;have:=HJ13.out;have:=HJ18.out;omega
                             case rel=>exact ⟨((x5_2++(⟨#[32]⟩:ByteArray))++(strOfNums y118)),(false),(wrap64 (x7_2+1)),(by first|rfl | (simp;done) | (simp [*];done)),(by first|rfl | (simp;done) | (simp [*];done)),(by first|rfl | (simp;done) | (simp [*];done)),H',⟨by have:=HJ2.out;have:=HK2.out;have:=HJ13.out;have:=HJ18.out;omega⟩,⟨by repeat (first | (with_reducible first|exact HB.out|apply below_alloc|apply pw_below_drewN|apply below_drew1)|exact HB.out)⟩⟩
                           · rw [if_neg c27] at H
                             exact absurd H (by simp)
                         · rw [if_neg c26] at H
                           exact absurd H (by simp)
                       · replace c25:=Bool.eq_false_iff.mpr c25
                         subst c25
                         have H1:((some (([(rd l0 x7_2)]:List Int):List Int)).bind fun y121=>(if x5_2.size+(strOfNums y121).size≤9223372036854775807 then (flaillaw20_ExtractPlain.l0 kj18 l0 t113 t115 (x5_2++(strOfNums y121)) false (wrap64 (x7_2+1))) else (none)))=some r:=by rw [if_neg (show ¬ (false=true) by decide)] at H;exact H
                         clear H
                         have H:=H1
                         clear H1
                         obtain ⟨y121,hy121⟩:∃ y_:List Int,y_=(([(rd l0 x7_2)]:List Int)):=⟨_,rfl⟩
                         replace H:(if x5_2.size+(strOfNums y121).size≤9223372036854775807 then (flaillaw20_ExtractPlain.l0 kj18 l0 t113 t115 (x5_2++(strOfNums y121)) false (wrap64 (x7_2+1))) else (none))=some r:=by first | (rw [hy121];with_reducible exact H) | (have H2_:=(Option.bind_some _ _).symm.trans H;rw [hy121];with_reducible exact H2_) | (have H2_:=(Option.bind_some _ _).symm.trans H;with_reducible exact H2_)|with_reducible exact H | (rw [hy121];exact H)|exact H
                         have Ny121:=Aside0.mk hy121
                         clear hy121
                         by_cases c31:x5_2.size+(strOfNums y121).size≤9223372036854775807
                         · rw [if_pos c31] at H
                           have c31b0:=eq_true c31
                           have c31b1:decide (x5_2.size+(strOfNums y121).size≤9223372036854775807)=true:=decide_eq_true c31
                           try have c31b2:(9223372036854775807<x5_2.size+(strOfNums y121).size)=False:=eq_false (Nat.not_lt.2 c31)
                           have H':=Aside0.mk H
                           clear H
                           go_wp2_with (first | ((with_reducible refine gate_dst (N:=72) rfl ?_);refine Kd.R_lit (Kd.int .u8) _ 5 ?hg (N:=72) ?hd (xs:=([(rd l0 x7_2)]:List Int)) (inner:=[.int .u8 (rd l0 x7_2)]) (ok:=fun _=>True) (okp:=fun _=>True) ?hr ?hp (fun _ hk=>hk) trivial (Below.refl _ _) (Nat.le_refl _) (by simp) ?_;(case hd=>rfl);(case hg=>rfl);(case hr=>first | (go_simp;done) | (go_simp;rfl));(case hp=>exact (Reps.one (show Kd.M (Kd.int .u8) _ _ _ (rd l0 x7_2) [.int .u8 (rd l0 x7_2)] from rfl) (Reps.none _ _)));intro v122 w32 ho33 hb hg_ hnew_;clear hg_ hnew_;(first|rw [← Ny121.out] at ho33 | (simp only [Int.reduceToNat] at ho33;rw [← Ny121.out] at ho33));have n0_:=Aside0.mk (Kd.R_lower ho33 (below_size (by repeat (first | (with_reducible first|exact HB.out|apply below_alloc|apply pw_below_drewN|apply below_drew1)|exact HB.out))));have n1_:=Aside0.mk (below_step (by repeat (first | (with_reducible first|exact HB.out|apply below_alloc|apply pw_below_drewN|apply below_drew1)|exact HB.out)) hb);clear HB;have HO123:=n0_;have HB:=n1_;clear n0_ n1_;clear hb ho33;have hcv34:=own_string (P:=Tryz.prog) Tryz.underlying27 Tryz.underlying5 Tryz.underlying9 (Kd.own_of_R HO123.out)))
                           go_roundg kj18
                           case measure=>have:=HJ2.out;have:=HK2.out;have:=HJ13.out;have:=HJ18.out;omega
                           case rel=>exact ⟨(x5_2++(strOfNums y121)),(false),(wrap64 (x7_2+1)),(by first|rfl | (simp;done) | (simp [*];done)),(by first|rfl | (simp;done) | (simp [*];done)),(by first|rfl | (simp;done) | (simp [*];done)),H',⟨by have:=HJ2.out;have:=HK2.out;have:=HJ13.out;have:=HJ18.out;omega⟩,⟨by repeat (first | (with_reducible first|exact HB.out|apply below_alloc|apply pw_below_drewN|apply below_drew1)|exact HB.out)⟩⟩
                         · rw [if_neg c31] at H
                           exact absurd H (by simp)
           · rw [if_neg c13] at H
             exact absurd H (by simp)
         · rw [if_neg c12] at H
           have c12b0:decide (x7_2<(l0.length:Int))=false:=decide_eq_false c12
           clear c12
           by_cases c35:t113=true
           · subst c35
             have H1:((extract_Extract.f l0).bind fun t116=>(some (t116.toList == x5_2.toList)))=some r:=by rw [if_pos rfl] at H;exact H
             clear H
             have H:=H1
             clear H1
             replace H:=Option.bind_eq_some_iff.mp H
             obtain ⟨t116,A360,H⟩:=H
             replace H:(some (t116.toList == x5_2.toList))=some r:=H
             have A36:=Aside0.mk A360
             clear A360
             obtain rfl:=Option.some.inj H
             go_wp2_with (first | (go_at_call 28;(with_reducible refine (extract_Extract.calls _ _ l0 t116 _ ?side1 ?side2 ?side3 A36.out).mono ?_);(case side1=>repeat (first|exact (Kd.C_below HR0.out HB.out) | (with_reducible refine Kd.C_alloc ?_ _) | (with_reducible refine Kd.C_drewN ?_ _) | (with_reducible refine Kd.C_drew ?_)));(case side2=>exact HC0.out);(case side3=>exact Glob.step hGl (by repeat (first | (with_reducible first|exact HB.out|apply below_alloc|apply pw_below_drewN|apply below_drew1)|exact HB.out)));rintro e w37 ⟨rfl,hb⟩;have n0_:=Aside0.mk (below_step (by repeat (first | (with_reducible first|exact HB.out|apply below_alloc|apply pw_below_drewN|apply below_drew1)|exact HB.out)) hb);clear HB;have HB:=n0_;clear n0_;(try clear hb);(try clear hb2);(try clear hk);(try clear hi)))
             go_ret
             exact ⟨by first|rfl | (simp [errW_none,errW_some]<;>rfl) | (simp [*,errW_none,errW_some]<;>rfl),by repeat (first | (with_reducible first|exact HB.out|apply below_alloc|apply pw_below_drewN|apply below_drew1)|exact HB.out)⟩
           · replace c35:=Bool.eq_false_iff.mpr c35
             subst c35
             have H1:(some false)=some r:=by rw [if_neg (show ¬ (false=true) by decide)] at H;exact H
             clear H
             have H:=H1
             clear H1
             obtain rfl:=Option.some.inj H
             go_wp2
             go_ret
             exact ⟨by first|rfl | (simp [errW_none,errW_some]<;>rfl) | (simp [*,errW_none,errW_some]<;>rfl),by repeat (first | (with_reducible first|exact HB.out|apply below_alloc|apply pw_below_drewN|apply below_drew1)|exact HB.out)⟩
noncomputable def flaillaw20_ExtractPlain.Pure:Prop := ∀ (l0:List Int),l0.length≤maxLen→l0.length*1≤140737488351232→(∀ x∈l0,(Lit.int .u8 x).wf=true)→∃ k,flaillaw20_ExtractPlain.f k l0=some true
theorem flaillaw20_ExtractPlain.walk (P:flaillaw20_ExtractPlain.Pure) (a0:Option Addr) (len0 cap0:Nat) (z0:List Int) (w:World) (w0:(a0=none∧len0=0∧cap0=0∧z0=[])∨∃ x,a0=some x∧len0≤cap0∧cap0≤maxLen∧z0.length=cap0∧(∀ i,i<z0.length→w.cell? (x.add i)=some (.int .u8 (z0.getD i 0)))∧∀ n∈z0,(Lit.int .u8 n).wf=true) (y0:len0*1≤140737488351232) (hGl:Glob w) :
  Calls Tryz.prog 15 #[.slice a0 len0 cap0] w fun e w'=>e = .returned (.bool true)∧Below w.heap.size w w':=by
 obtain ⟨l0,rfl,hr0,hm0,hw0,hc0⟩:=ReadsInt.ofRowC w0
 obtain ⟨k,h⟩:=P l0 hm0 y0 hw0
 refine (flaillaw20_ExtractPlain.calls k _ _ l0 true w (Kd.C_of_reads (d:=(0:Int)) (h1:=fun _=>rfl) hr0) hc0 hGl h).mono ?_
 rintro e w' ⟨rfl,hd⟩
 exact ⟨rfl,hd⟩
end Go.Proofs.YtcecjoaeolglbaaGreatDoor.Sz
end

section
namespace Go.Proofs.YtcecjoaeolglbaaGreatDoor.Psx
open Go Go.RowKit Go.Proofs.YtcecjoaeolglbaaGreatDoor.K0 Go.Proofs.YtcecjoaeolglbaaGreatDoor.Hand Go.Proofs.YtcecjoaeolglbaaGreatDoor.Sa Go.Proofs.YtcecjoaeolglbaaGreatDoor.Sz Go.Proofs.YtcecjoaeolglbaaGreatDoorW.PrintWords Go.Proofs.YtcecjoaeolglbaaGreatDoorW.PrintMore Go.Proofs.YtcecjoaeolglbaaGreatDoor.Pl Go.Proofs.YtcecjoaeolglbaaGreatDoor.Pb Go.Proofs.YtcecjoaeolglbaaGreatDoor.Pure
theorem int_wfo {k:IntKind} {d:Int} (h:(Lit.int k d).wf=true):k.min≤d∧d≤k.max:=by simpa [Lit.wf] using h
theorem u8_in {d:Int} (h:(Lit.int .u8 d).wf=true):0≤d∧d≤255:=⟨Int.le_trans (by decide) (int_wfo h).1,Int.le_trans (int_wfo h).2 (by decide)⟩
theorem ext_f (l:List Int) (h:l.length≤6000):extract_Extract.f l=some (B (extL (numsB l))):=if_pos h
theorem right_f (s:List UInt8):utf_Right.f (B s)=some (rightL s):=by unfold utf_Right.f;rw [B_data]
theorem tnne {c:UInt8} (d:UInt8) (n:Int) (h:c≠d) (hd:((d.toNat:Nat):Int)=n:=by rfl):((c.toNat:Nat):Int)≠n:=fun e=>h (UInt8.toNat_inj.1 (Int.ofNat_inj.1 (e.trans hd.symm)))
theorem awake20:flaillaw20_awake.f=some true:=rfl
end Go.Proofs.YtcecjoaeolglbaaGreatDoor.Psx
namespace Go.Proofs.YtcecjoaeolglbaaGreatDoor.Hand
open Go Go.RowKit Go.Proofs.YtcecjoaeolglbaaGreatDoor.Pl Go.Proofs.YtcecjoaeolglbaaGreatDoor.Pb Go.Proofs.YtcecjoaeolglbaaGreatDoor.Psx Go.Proofs.YtcecjoaeolglbaaGreatDoor.Sz Go.Proofs.YtcecjoaeolglbaaGreatDoorW.PrintWords
end Go.Proofs.YtcecjoaeolglbaaGreatDoor.Hand
end

section
namespace Go.Proofs.YtcecjoaeolglbaaGreatDoor.Psx
open Go Go.RowKit Go.Proofs.YtcecjoaeolglbaaGreatDoor.K0 Go.Proofs.YtcecjoaeolglbaaGreatDoor.Hand Go.Proofs.YtcecjoaeolglbaaGreatDoor.Sa Go.Proofs.YtcecjoaeolglbaaGreatDoor.Sz Go.Proofs.YtcecjoaeolglbaaGreatDoorW.PrintWords Go.Proofs.YtcecjoaeolglbaaGreatDoorW.PrintMore Go.Proofs.YtcecjoaeolglbaaGreatDoor.Pl Go.Proofs.YtcecjoaeolglbaaGreatDoor.Pb Go.Proofs.YtcecjoaeolglbaaGreatDoor.Pure
theorem lose_lose (f:Fl):flLose (flLose f)=flLose f:=by
 unfold flLose
 by_cases h:f.ends=0∧f.bl=[]
 · rw [if_pos h,if_neg (by simp)]
 · rw [if_neg h,if_neg h]
theorem put_cons (f:Fl) (c:UInt8) (r:List UInt8):flPut false f (c::r)=flPut false (flByte false f c) r:=rfl
theorem byte_bl (f:Fl) {c:UInt8} (h:isBl c=true):flByte false f c=flLose f:=by
 have h0:c≠0:=fun e=>by rw [e] at h;cases h
 unfold flByte
 rw [if_neg h0,if_pos h,if_neg (by decide)]
theorem byte_wd (f:Fl) {c:UInt8} (h0:c≠0) (h:isBl c=false):flByte false f c=flWord f c:=by
 unfold flByte
 rw [if_neg h0,if_neg (by rw [h];decide)]
theorem put_norm:∀ (s:List UInt8) (b:Bool) (f:Fl),(b=true→flLose f=f)→flPut false f (normF b s)=flPut false f s:=by
 intro s
 induction s with
 | nil=>intro b f _;cases b<;>rfl
 | cons c r ih =>
   intro b f hb
   unfold normF
   by_cases h1:b=true∧c=10
   · rw [if_pos h1,put_cons,h1.2,byte_bl f (by decide),hb h1.1]
     exact ih false f (fun e=>by cases e)
   · rw [if_neg h1]
     by_cases h2:c=13
     · rw [if_pos h2,h2,put_cons,put_cons,byte_bl f (by decide),byte_bl f (by decide)]
       exact ih true _ (fun _=>lose_lose f)
     · rw [if_neg h2,put_cons,put_cons]
       exact ih false _ (fun e=>by cases e)
theorem norm_mem:∀ (s:List UInt8) (b:Bool),∀ c∈normF b s,c=10∨c∈s:=by
 intro s
 induction s with
 | nil=>intro b c h;cases b<;>cases h
 | cons d r ih =>
   intro b c h
   unfold normF at h
   split at h
   · rcases ih false c h with h|h
     · exact .inl h
     · exact .inr (List.mem_cons_of_mem _ h)
   · split at h
     · rcases List.mem_cons.1 h with h|h
       · exact .inl h
       · rcases ih true c h with h|h
         · exact .inl h
         · exact .inr (List.mem_cons_of_mem _ h)
     · rcases List.mem_cons.1 h with h|h
       · exact .inr (by rw [h];exact List.mem_cons_self)
       · rcases ih false c h with h|h
         · exact .inl h
         · exact .inr (List.mem_cons_of_mem _ h)
theorem ext_plain {s:List UInt8} (hr:rightL s=true) (hm:markP.isPrefixOf s=false) (h60:(60:UInt8)∉s) (h38:(38:UInt8)∉s):extL s=(flPut false ⟨[],0,[]⟩ s).told:=by
 have ht:trimL s=s:=by unfold trimL;rw [hm];rfl
 have hd:decL s=s:=decL_right _ _ (Nat.le_refl _) hr
 have n60:(60:UInt8)∉normL s:=fun h=>by rcases norm_mem s false _ h with h|h;· cases h
                                        · exact h60 h
 have n38:(38:UInt8)∉normL s:=fun h=>by rcases norm_mem s false _ h with h|h;· cases h
                                        · exact h38 h
 have hp:=put_norm s false ⟨[],0,[]⟩ (fun e=>by cases e)
 unfold extL
 rw [ht,hd,drive_txt n60,rdL_no false n38,← hp]
 show renderL (txtT (normF false s))=_
 unfold txtT
 split
 · rename_i e;rw [e];rfl
 · rfl
structure OneB (f:Fl):Prop where
 ends:f.ends=0
 bl:f.bl=[]∨f.bl=[32]
theorem OneB.byte {f:Fl} (h:OneB f) {c:UInt8} (h0:c≠0):OneB (flByte false f c):=by
 cases hb:isBl c with
 | true =>
   rw [byte_bl f hb]
   unfold flLose
   split
   · exact ⟨h.ends,.inr rfl⟩
   · exact h
 | false=>rw [byte_wd f h0 hb];exact ⟨rfl,.inl rfl⟩
theorem OneB.add {f:Fl} (h:OneB f):flAdd f=if (f.bl != []&&f.told != [])=true then [32] else []:=by
 unfold flAdd
 by_cases ht:f.told=[]
 · rw [if_pos ht,ht];simp
 · rw [if_neg ht,h.ends]
   rcases h.bl with hb|hb
   · rw [hb];simp
   · rw [hb,if_pos (by simp [ht])];rfl
theorem OneB.lose {f:Fl} (h:OneB f):((flLose f).bl != []&&(flLose f).told != [])=(f.told != [])∧(flLose f).told=f.told:=by
 unfold flLose
 rcases h.bl with hb|hb
 · rw [if_pos ⟨h.ends,hb⟩];simp
 · rw [if_neg (by rw [hb];simp),hb];simp
theorem rd_nums {l:List Int} (hw:∀ x∈l,(Lit.int .u8 x).wf=true) {i:Nat} (hi:i<(numsB l).length):rd l (i:Int)=(((numsB l)[i]).toNat:Int):=by
 have hl:i<l.length:=by rw [numsB_len] at hi;exact hi
 obtain ⟨r0,r1⟩:=u8_in (hw _ (List.getElem_mem hl))
 have e:(numsB l)[i]=UInt8.ofNat (l[i]).toNat:=by simp [numsB]
 have e2:rd l (i:Int)=l[i]:=by simp [rd,hl]
 rw [e,e2,UInt8.toNat_ofNat']
 omega
theorem strOf_B (l:List Int):strOfNums l=B (numsB l):=rfl
theorem begins_mark (s:List UInt8):flailref01_Begins.f (B s) ⟨#[239,187,191]⟩=some (markP.isPrefixOf s):=by
 have h1:(⟨#[239,187,191]⟩:ByteArray)=B markP:=rfl
 have h3:(B markP).size=3:=rfl
 unfold flailref01_Begins.f
 rw [h1,h3,size_B]
 by_cases hl:(s.length:Int)<(3:Nat)
 · rw [if_pos hl]
   congr 1
   symm
   rw [Bool.eq_false_iff]
   intro h
   have:=(List.isPrefixOf_iff_prefix.1 h).length_le
   have:markP.length=3:=rfl
   omega
 · rw [if_neg hl,if_pos (by decide),if_pos (by omega)]
   congr 1
   rw [show ((3:Nat):Int).toNat=3 from rfl,B_extract,toList_B,toList_B,Bool.eq_iff_iff,beq_iff_eq,List.isPrefixOf_iff_prefix]
   constructor
   · intro h;rw [← h];simp only [List.drop_zero];exact List.take_prefix _ _
   · intro h;simp only [List.drop_zero];exact (List.prefix_iff_eq_take.1 h).symm
theorem plain_e0 (l:List Int) (hw:∀ x∈l,(Lit.int .u8 x).wf=true) (hlen:l.length≤300) (hfin:(∀ c∈numsB l,c≠60∧c≠38∧c≠0)→extL (numsB l)=(flPut false ⟨[],0,[]⟩ (numsB l)).told) :
  ∀ (d i:Nat) (f:Fl) (wt:Bool),(numsB l).length - i=d→i≤(numsB l).length→(∀ c∈(numsB l).take i,c≠60∧c≠38∧c≠0)→OneB f→f=flPut false ⟨[],0,[]⟩ ((numsB l).take i)→wt=(f.bl != []&&f.told != []) →
  Ev (fun k=>flaillaw20_ExtractPlain.l0 k l true false (B f.told) wt (i:Int)) true:=by
 have hn:=numsB_len l
 obtain ⟨s,hs⟩:∃ s,numsB l=s:=⟨_,rfl⟩
 have hrd:=@rd_nums l hw
 rw [hs] at hfin hn hrd ⊢
 intro d
 induction d with
 | zero =>
   intro i f wt hd hi hg h1 hf hwt
   obtain rfl:i=s.length:=by omega
   rw [List.take_length] at hg hf
   refine Ev.step (f:=fun _=>some true) (fun k => ?_) (Ev.now _)
   rw [flaillaw20_ExtractPlain.l0,if_neg (by omega),if_pos rfl,ext_f _ (by omega),Option.bind_some,hs,toList_B,toList_B,hfin hg,← hf]
   simp
 | succ d ih =>
   intro i f wt hd hi hg h1 hf hwt
   have hlt:i<s.length:=by omega
   have w:wrap64 ((i:Int)+1)=((i+1:Nat):Int):=by unfold wrap64;omega
   have hz:flZ f≤300:=by
    have:=flPut_z false (s.take i) ⟨[],0,[]⟩
    rw [← hf,List.length_take] at this
    have h0:flZ ⟨[],0,[]⟩=0:=rfl
    omega
   have htl:f.told.length≤300:=by unfold flZ at hz;omega
   have hx:=hrd hlt
   obtain ⟨c,hc⟩:∃ c,s[i]=c:=⟨_,rfl⟩
   rw [hc] at hx
   have l0e:∀ k,flaillaw20_ExtractPlain.l0 (k+1) l true false (B f.told) wt (i:Int)=if (c.toNat:Int)=60 then flaillaw20_ExtractPlain.j2 k l true false (B f.told) wt (i:Int) (c.toNat:Int) true else if (c.toNat:Int)=38 then flaillaw20_ExtractPlain.j2 k l true false (B f.told) wt (i:Int) (c.toNat:Int) true else if (c.toNat:Int)=0 then flaillaw20_ExtractPlain.j2 k l true false (B f.told) wt (i:Int) (c.toNat:Int) true else flaillaw20_ExtractPlain.j2 k l true false (B f.told) wt (i:Int) (c.toNat:Int) false:=fun k=>by
    rw [flaillaw20_ExtractPlain.l0,if_pos (by omega),if_pos (by omega),hx]
   have bad:Ev (fun k=>flaillaw20_ExtractPlain.j2 k l true false (B f.told) wt (i:Int) (c.toNat:Int) true) true :=
    Ev.step (f:=fun _=>some true) (fun k=>by rw [flaillaw20_ExtractPlain.j2,if_pos rfl]) (Ev.now _)
   by_cases e60:c=60
   · exact Ev.step (fun k=>by rw [l0e,if_pos (by rw [e60];rfl)]) bad
   by_cases e38:c=38
   · exact Ev.step (fun k=>by rw [l0e,if_neg (tnne 60 60 e60),if_pos (by rw [e38];rfl)]) bad
   by_cases e0:c=0
   · exact Ev.step (fun k=>by rw [l0e,if_neg (tnne 60 60 e60),if_neg (tnne 38 38 e38),if_pos (by rw [e0];rfl)]) bad
   refine Ev.step (fun k=>by rw [l0e,if_neg (tnne 60 60 e60),if_neg (tnne 38 38 e38),if_neg (tnne 0 0 e0)]) ?_
   have ht:s.take (i+1)=s.take i++[c]:=by rw [← hc,List.take_append_getElem hlt]
   have hf':flByte false f c=flPut false ⟨[],0,[]⟩ (s.take (i+1)):=by rw [ht,put_app,← hf];rfl
   have hg':∀ x∈s.take (i+1),x≠60∧x≠38∧x≠0:=by
    intro x hx
    rw [ht] at hx
    rcases List.mem_append.1 hx with hx|hx
    · exact hg x hx
    · rw [List.mem_singleton.1 hx];exact ⟨e60,e38,e0⟩
   have go:=ih (i+1) (flByte false f c) _ (by omega) (by omega) hg' (h1.byte e0) hf' rfl
   have blank:isBl c=true→Ev (fun k=>flaillaw20_ExtractPlain.j3 k l true false (B f.told) wt (i:Int) (c.toNat:Int) true) true:=fun hb=>by
    rw [byte_bl f hb,h1.lose.1,h1.lose.2] at go
    exact Ev.step (fun k=>by rw [flaillaw20_ExtractPlain.j3,if_pos rfl,w,toList_B]) go
   by_cases e9:c=9
   · exact Ev.step (fun k=>by rw [flaillaw20_ExtractPlain.j2,if_neg (by decide),if_pos (by rw [e9];rfl)]) (blank (by rw [e9];decide))
   by_cases e10:c=10
   · exact Ev.step (fun k=>by rw [flaillaw20_ExtractPlain.j2,if_neg (by decide),if_neg (tnne 9 9 e9),if_pos (by rw [e10];rfl)]) (blank (by rw [e10];decide))
   by_cases e12:c=12
   · exact Ev.step (fun k=>by rw [flaillaw20_ExtractPlain.j2,if_neg (by decide),if_neg (tnne 9 9 e9),if_neg (tnne 10 10 e10),if_pos (by rw [e12];rfl)]) (blank (by rw [e12];decide))
   by_cases e13:c=13
   · exact Ev.step (fun k=>by rw [flaillaw20_ExtractPlain.j2,if_neg (by decide),if_neg (tnne 9 9 e9),if_neg (tnne 10 10 e10),if_neg (tnne 12 12 e12),if_pos (by rw [e13];rfl)]) (blank (by rw [e13];decide))
   by_cases e32:c=32
   · exact Ev.step (fun k=>by rw [flaillaw20_ExtractPlain.j2,if_neg (by decide),if_neg (tnne 9 9 e9),if_neg (tnne 10 10 e10),if_neg (tnne 12 12 e12),if_neg (tnne 13 13 e13),e32];rfl) (blank (by rw [e32];decide))
   have hb:isBl c=false:=by simp [isBl,e9,e10,e12,e13,e32]
   have h32:(((c.toNat:Nat):Int) == 32)=false:=beq_eq_false_iff_ne.mpr (tnne 32 32 e32)
   refine Ev.step (fun k=>by rw [flaillaw20_ExtractPlain.j2,if_neg (by decide),if_neg (tnne 9 9 e9),if_neg (tnne 10 10 e10),if_neg (tnne 12 12 e12),if_neg (tnne 13 13 e13),h32]) ?_
   have hone:strOfNums [((c.toNat:Nat):Int)]=B [c]:=by rw [strOf_B];congr 1;simp [numsB]
   rw [byte_wd f e0 hb] at go
   have hgo:(flWord f c).told=f.told++flAdd f++[c]:=rfl
   have hbl:((flWord f c).bl != []&&(flWord f c).told != [])=false:=rfl
   rw [hbl,hgo,h1.add,← hwt] at go
   cases wt with
   | true =>
     rw [if_pos rfl] at go
     refine Ev.step (fun k => ?_) go
     rw [flaillaw20_ExtractPlain.j3,if_neg (by decide),if_pos rfl,size_B,if_pos (by omega),Option.bind_some,hone,show (⟨#[32]⟩:ByteArray)=B [32] from rfl,B_append,size_B,size_B,if_pos (by simp;omega),B_append,w]
   | false =>
     rw [if_neg (by decide),List.append_nil] at go
     refine Ev.step (fun k => ?_) go
     rw [flaillaw20_ExtractPlain.j3,if_neg (by decide),if_neg (by decide),Option.bind_some,hone,size_B,size_B,if_pos (by simp;omega),B_append,w]
theorem eplain_f (l:List Int) (hw:∀ x∈l,(Lit.int .u8 x).wf=true):∃ k,flaillaw20_ExtractPlain.f k l=some true:=by
 by_cases hb:300<l.length
 · exact ⟨1,by unfold flaillaw20_ExtractPlain.f;rw [awake20,Option.bind_some,if_pos (by omega),flaillaw20_ExtractPlain.j0,if_pos rfl]⟩
 have hn:=numsB_len l
 have fe:∀ k,flaillaw20_ExtractPlain.f k l=flaillaw20_ExtractPlain.j0 k l true (!(rightL (numsB l))):=fun k=>by
  unfold flaillaw20_ExtractPlain.f
  rw [awake20,Option.bind_some,if_neg (by omega),strOf_B,right_f,Option.bind_some]
 cases hr:rightL (numsB l) with
 | false=>exact ⟨1,by rw [fe,hr,flaillaw20_ExtractPlain.j0];rfl⟩
 | true =>
   have he:Ev (fun k=>flaillaw20_ExtractPlain.j0 k l true false) true:=by
    cases hm:markP.isPrefixOf (numsB l) with
    | true =>
      have hl3:3≤(numsB l).length:=(List.isPrefixOf_iff_prefix.1 hm).length_le
      have hj:Ev (fun k=>flaillaw20_ExtractPlain.l0 k l true true (B []) false 0) true:=by
       have j:∀ x,Ev (fun k=>flaillaw20_ExtractPlain.j2 k l true true (B []) false 0 x true) true:=fun x =>
        Ev.step (f:=fun _=>some true) (fun k=>by rw [flaillaw20_ExtractPlain.j2,if_pos rfl]) (Ev.now _)
       refine Ev.step (fun k => ?_) (j (rd l 0))
       rw [flaillaw20_ExtractPlain.l0,if_pos (by omega),if_pos (by decide)]
       repeat' split
       all_goals rfl
      refine Ev.step (fun k => ?_) hj
      rw [flaillaw20_ExtractPlain.j0,if_neg (by decide),strOf_B,begins_mark,hm,Option.bind_some]
      rfl
    | false =>
      have:=plain_e0 l hw (by omega) (fun hg=>ext_plain hr hm (fun h=>(hg _ h).1 rfl) (fun h=>(hg _ h).2.1 rfl)) _ 0 ⟨[],0,[]⟩ false rfl (Nat.zero_le _) (by simp) ⟨rfl,.inl rfl⟩ (by simp [flPut]) rfl
      refine Ev.step (fun k => ?_) this
      rw [flaillaw20_ExtractPlain.j0,if_neg (by decide),strOf_B,begins_mark,hm,Option.bind_some]
      rfl
   obtain ⟨k,hk⟩:=he.rounds
   exact ⟨k,by rw [fe,hr];exact hk⟩
end Go.Proofs.YtcecjoaeolglbaaGreatDoor.Psx
namespace Go.Proofs.YtcecjoaeolglbaaGreatDoor.Hand
open Go Go.RowKit Go.Proofs.YtcecjoaeolglbaaGreatDoor.Pl Go.Proofs.YtcecjoaeolglbaaGreatDoor.Pb Go.Proofs.YtcecjoaeolglbaaGreatDoor.Psx Go.Proofs.YtcecjoaeolglbaaGreatDoor.Sz Go.Proofs.YtcecjoaeolglbaaGreatDoorW.PrintWords
theorem ExtractPlain_law (a0:Option Addr) (len0 cap0:Nat) (z0:List Int) (w:World) (w0:RowU8 w a0 len0 cap0 z0) (y0:len0*1≤140737488351232) (hGl:Glob w) :
  Calls Tryz.prog 15 #[.slice a0 len0 cap0] w fun e w'=>e = .returned (.bool true)∧Below w.heap.size w w' :=
 flaillaw20_ExtractPlain.walk (fun l0 _ _ hw=>eplain_f l0 hw) a0 len0 cap0 z0 w w0 y0 hGl
end Go.Proofs.YtcecjoaeolglbaaGreatDoor.Hand
end

section
namespace Go.Proofs.YtcecjoaeolglbaaGreatDoorW.PrintWords
open Go.ChangeShapes Go.WideShapes
theorem sized_ints {H:Type} {enc:TypeId×Value→H} {P:Program} {W:World} {base:Nat} {spare:Nat→Bool} {held:Bool} {t e:TypeId} {k:IntKind} {a:Option Addr} {len cap:Nat} {d:DataW H} {ps:List MemPlace} {ts:List TypeId} {ds:List (DataW H)} {j:Nat}
  (hsz:(DataW.weightsEach P ts ds).all (· ≤ reachBytes)=true) (ht:ts[j]? = some t) (hd:ds[j]? = some d) (hu:P.underlying t=some (.slice e)) (he:P.underlying e=some (.int k)) (hc:P.cellsOf e=1) {B:Nat} (hB:P.bytesOf e=B)
  (h:DataW.Trod enc P W base spare held t (.slice a len cap) d ps):len*B≤140737488351232:=by
 obtain ⟨fuel,hf⟩:=h
 rcases open_ints hu he hc hf with ⟨hcs,_⟩|⟨x,l,c,zs,hcs,_,hl,_,hz,hx,_,_⟩
 · simp [Value.cells] at hcs
   obtain ⟨rfl,rfl,rfl⟩:=hcs
   simp
 · simp [Value.cells] at hcs
   obtain ⟨rfl,rfl,rfl⟩:=hcs
   obtain ⟨hx,_⟩:=Prod.mk.inj hx
   subst hx
   have z:=sized_slice hsz ht hd hu
   rw [hB] at z
   have hl2:len≤zs.length:=by
    rw [hz]
    split
    · exact hl
    · exact Nat.le_refl _
   have h1:(lits (H:=H) k (zs.take len)).length+(lits (H:=H) k (zs.drop len)).length=zs.length:=by
    simp [lits]
    omega
   rw [h1] at z
   exact Nat.le_trans (Nat.mul_le_mul_right _ hl2) z
end Go.Proofs.YtcecjoaeolglbaaGreatDoorW.PrintWords
end
