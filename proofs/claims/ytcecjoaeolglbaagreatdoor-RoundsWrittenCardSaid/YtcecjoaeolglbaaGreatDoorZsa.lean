/-
  Texts that several claims of this seat share, merged by a program of this session (1).
-/
import Derived.Below
import Derived.Deep.Draws
import Derived.Deep.AppendLies
import Derived.Maps.AppendAt
import Derived.OwnWalk
import Derived.Laws.BytesArg
import Derived.Laws.MakeOwn
import Derived.Laws.OwnMore
import Derived.Deep.OwnRows
import Derived.Tactics
import Derived.Lib.ConvBytes
import Derived.Laws.Slices
import Derived.WalkKit
import Derived.KernelRfl
import Derived.RowKit3
import Derived.Deep.LoopGhost
import Derived.Deep.QuietTactic
import Derived.BigQuiet
import Derived.WideLaws
import Derived.Deep.DeepCutAuto
import Derived.Deep.CutBlock
import Derived.Deep.RegionHeld3
import Derived.Laws.Rows
import Derived.Lib.AppendStr
import Derived.ArgAppend
import Derived.Laws.IdiomCopy
import Derived.RowKit
import Derived.OrdersHeld
import Derived.Laws.BitsLemmas
import Derived.Test.YtcecjoaeolglbaaGreatDoorProg
import Derived.Shelf.Strings.Builder1
import Derived.Shelf.Strings.Builder2
import Derived.Shelf.Small.Strs
import Derived.Shelf.Small.Wraps
import Derived.Shelf.Strings.BuilderF
import Derived.Shelf.Strings.BuilderK
import Derived.Shelf.Utf8.RuneCount
import Derived.Shelf.Strconv.Itoa0
import Derived.Shelf.LaysM
import Derived.Shelf.Strconv.Clone
import Derived.Shelf.Strconv.SyntaxError
import Derived.Shelf.LaysC
import Derived.Shelf.Strconv.ToError
import Derived.Shelf.Strconv.Lower
import Derived.Shelf.Strconv.ParseUintEmpty
import Derived.Shelf.Strings.Search1
import Derived.Shelf.Strings.Search2
import Derived.Shelf.Strings.Search3
import Derived.Shelf.Strings.Cut
import Derived.Shelf.Strings.Count
import Derived.Shelf.Strings.Shaped
import Derived.Shelf.Strings.LastIndex
import Derived.Shelf.Strings.Prefix
import Derived.Shelf.Strings.Split
import Derived.Shelf.Strings.Replace
import Derived.Shelf.Strings.SplitShaped
import Derived.Shelf.Unicode.Decode
import Derived.Shelf.Strings.RuneCount
import Derived.Shelf.Bits.Mul64
import Derived.Shelf.Strings.Repeat
import Derived.Shelf.Unicode.DecodeSlow
import Derived.Shelf.Unicode.DecodeAny
import Derived.Ground.SlgfProg
import Derived.Shelf.SlicesE.IndexFunc
import Derived.Shelf.SlicesE.DeleteFunc
import Derived.Lib.Replace
import Derived.Lib.CountLaws
import Derived.Lib.IndexLaws
import Derived.WalkSpells
import Derived.WalkLawsBesides
import Derived.WalkMore
import Derived.ScopeJumps
import Derived.Lib.Hide
import Derived.Laws.IdiomStrings
set_option linter.unusedVariables false
set_option linter.unusedSimpArgs false
namespace Foot
end Foot
namespace Go.Proofs
end Go.Proofs
namespace Go.Proofs.YtcecjoaeolglbaaGreatDoor.Hand
end Go.Proofs.YtcecjoaeolglbaaGreatDoor.Hand
namespace Go.Proofs.YtcecjoaeolglbaaGreatDoor.K0
end Go.Proofs.YtcecjoaeolglbaaGreatDoor.K0
namespace Go.Proofs.YtcecjoaeolglbaaGreatDoor.Pb
end Go.Proofs.YtcecjoaeolglbaaGreatDoor.Pb
namespace Go.Proofs.YtcecjoaeolglbaaGreatDoor.Pcb
end Go.Proofs.YtcecjoaeolglbaaGreatDoor.Pcb
namespace Go.Proofs.YtcecjoaeolglbaaGreatDoor.Pcm
end Go.Proofs.YtcecjoaeolglbaaGreatDoor.Pcm
namespace Go.Proofs.YtcecjoaeolglbaaGreatDoor.Pcq
end Go.Proofs.YtcecjoaeolglbaaGreatDoor.Pcq
namespace Go.Proofs.YtcecjoaeolglbaaGreatDoor.Pl
end Go.Proofs.YtcecjoaeolglbaaGreatDoor.Pl
namespace Go.Proofs.YtcecjoaeolglbaaGreatDoor.Pure
end Go.Proofs.YtcecjoaeolglbaaGreatDoor.Pure
namespace Go.Proofs.YtcecjoaeolglbaaGreatDoor.RowKit
end Go.Proofs.YtcecjoaeolglbaaGreatDoor.RowKit
namespace Go.Proofs.YtcecjoaeolglbaaGreatDoor.Sa
end Go.Proofs.YtcecjoaeolglbaaGreatDoor.Sa
namespace Go.Proofs.YtcecjoaeolglbaaGreatDoor.Si
end Go.Proofs.YtcecjoaeolglbaaGreatDoor.Si
namespace Go.Proofs.YtcecjoaeolglbaaGreatDoor.Sp
end Go.Proofs.YtcecjoaeolglbaaGreatDoor.Sp
namespace Go.Proofs.YtcecjoaeolglbaaGreatDoor.St
end Go.Proofs.YtcecjoaeolglbaaGreatDoor.St
namespace Go.Proofs.YtcecjoaeolglbaaGreatDoor.Sx
end Go.Proofs.YtcecjoaeolglbaaGreatDoor.Sx
namespace Go.Proofs.YtcecjoaeolglbaaGreatDoorW.PrintLast
end Go.Proofs.YtcecjoaeolglbaaGreatDoorW.PrintLast
namespace Go.Proofs.YtcecjoaeolglbaaGreatDoorW.PrintMore
end Go.Proofs.YtcecjoaeolglbaaGreatDoorW.PrintMore
namespace Go.Proofs.YtcecjoaeolglbaaGreatDoorW.PrintWords
end Go.Proofs.YtcecjoaeolglbaaGreatDoorW.PrintWords
namespace Kd
end Kd

section
set_option linter.unusedVariables false
set_option linter.unusedSimpArgs false
namespace Go.Proofs.YtcecjoaeolglbaaGreatDoorW.PrintWords
open Go.RowKit
structure Aside0 (p:Prop):Prop where mk::(out:p)
structure Drawn0 (w w':World):Prop where mk::(out:∃ n,w'=w.drewN n)
theorem Drawn0.refl (w:World):Drawn0 w w:=⟨⟨0,rfl⟩⟩
theorem Drawn0.step {w w':World} (h:Drawn0 w w') (n:Nat):Drawn0 w (w'.drewN n):=by
 obtain ⟨m,rfl⟩:=h
 exact ⟨⟨m+n,World.drewN_drewN ..⟩⟩
theorem Drawn0.below {w w':World} (h:Drawn0 w w'):Below w.heap.size w w':=by
 obtain ⟨n,rfl⟩:=h
 induction n with
 | zero=>exact Below.refl _ _
 | succ n ih=>rw [← World.drew_drewN];exact ih.drew
def bt (s:ByteArray) (i:Int):Int:=if h:i.toNat<s.size then ((s[i.toNat]'h).toNat:Int) else 0
theorem bt_at (s:ByteArray) (i:Int):∀ h:i.toNat<s.size,((s[i.toNat]'h).toNat:Int)=bt s i:=fun h=>by simp [bt,h]
theorem below_alloc {w W:World} (h:Below w.heap.size w W) (o:Obj):Below w.heap.size w (W.alloc o):=h.alloc h.size o
theorem below_drew {B:Nat} {w W:World} (h:Below B w W):Below B w W.drew:=⟨h.os,h.tape,h.output,h.size,h.block⟩
theorem pw_below_drewN {B:Nat} {w W:World} (h:Below B w W) (n:Nat):Below B w (W.drewN n):=⟨h.os,h.tape,h.output,h.size,h.block⟩
theorem below_then {B:Nat} {w w1 w2:World} (h:Below B w w1) (hB:B≤w1.heap.size) (k:Below w1.heap.size w1 w2):Below B w w2 :=
 h.trans ⟨k.os,k.tape,k.output,k.size,fun i hi=>k.block i (Nat.lt_of_lt_of_le hi hB)⟩
theorem grown_of_below {w w1:World} (h:Below w.heap.size w w1) (row:Option Nat):w.grownBy w1 row:=⟨h.os,h.tape,h.output,h.size,fun i hi _=>h.block i hi⟩
theorem pw_cell_below {w w1:World} (h:Below w.heap.size w w1) {a:Addr} {v:Value} (hc:w.cell? a=some v):w1.cell? a=some v:=(h.cell (World.block_lt_of_cell? w a hc)).trans hc
theorem add_plain (g j:Nat):(⟨g,0,none⟩:Addr).add j=⟨g,j,none⟩:=by unfold Addr.add;split<;>simp_all
theorem own_nil (W:World) (base:Nat) (e:TypeId) (size:Nat):W.ownsRow base e size (.slice none 0 0) 0 []:=⟨by simp,.inl ⟨rfl,rfl⟩⟩
theorem own_base {w:World} {base:Nat} {e:TypeId} {size n:Nat} {v:Value} {xs:List Value} (h:w.ownsRow base e size v n xs) (k:Nat) (hk:v.ownBlock=some k):base≤k:=by
 rcases h.2 with ⟨rfl,_⟩|⟨g,cap,cur,rfl,hb,_⟩
 · simp [Value.ownBlock] at hk
 · have:g=k:=by simpa [Value.ownBlock] using hk
   omega
theorem own_lt {w:World} {base:Nat} {e:TypeId} {size n:Nat} {v:Value} {xs:List Value} (h:w.ownsRow base e size v n xs) (k:Nat) (hk:v.ownBlock=some k):k<w.heap.size:=by
 rcases h.2 with ⟨rfl,_⟩|⟨g,cap,cur,rfl,hb,hh,_⟩
 · simp [Value.ownBlock] at hk
 · have:g=k:=by simpa [Value.ownBlock] using hk
   subst this
   exact (Array.getElem?_eq_some_iff.1 hh).1
section
variable {P : Program} {ops : Array Oper} {rest : List Oper} {o : Oper} {a : Act} {Q : Exit → Act → World → Prop}
end
section
variable {P : Program}
end
section
variable {P : Program} {ops : Array Oper} {rest : List Oper} {o : Oper} {a : Act} {Q : Exit → Act → World → Prop}
end
def Reps {α:Type} (R:α→List Value→Prop) (size:Nat) (ps:List α) (cs:List Value):Prop :=
 cs.length=ps.length*size∧∀ j p,ps[j]? = some p→R p ((cs.drop (j*size)).take size)
theorem Reps.none {α:Type} (R:α→List Value→Prop) (size:Nat):Reps R size [] []:=⟨by simp,fun j p h=>by simp at h⟩
theorem Reps.snoc {α:Type} {R:α→List Value→Prop} {size:Nat} {ps:List α} {cs c:List Value} {p:α} (h:Reps R size ps cs) (hp:R p c) (hc:c.length=size):Reps R size (ps++[p]) (cs++c):=by
 refine ⟨by rw [List.length_append,h.1,hc,List.length_append,List.length_singleton,Nat.add_mul,Nat.one_mul],fun j q hq => ?_⟩
 rcases Nat.lt_or_ge j ps.length with hj|hj
 · rw [List.getElem?_append_left hj] at hq
   have h1:j*size+size≤cs.length:=by rw [h.1,← Nat.succ_mul];exact Nat.mul_le_mul_right _ hj
   have h2:=h.2 j q hq
   rw [List.drop_append_of_le_length (by omega),List.take_append_of_le_length (by rw [List.length_drop];omega)]
   exact h2
 · have hj':j=ps.length:=by
    have:=(List.getElem?_eq_some_iff.1 hq).1
    rw [List.length_append,List.length_singleton] at this
    omega
   subst hj'
   have hq':p=q:=by simpa using hq
   subst hq'
   rw [← h.1,List.drop_left,← hc,List.take_length]
   exact hp
theorem Reps.imp_ {α:Type} {R R':α→List Value→Prop} {size:Nat} {ps:List α} {cs:List Value} (h:Reps R size ps cs) (hR:∀ p c,R p c→R' p c):Reps R' size ps cs:=⟨h.1,fun j p hj=>hR _ _ (h.2 j p hj)⟩
def ReadsRow {α:Type} (R:α→List Value→Prop) (size:Nat) (w:World) (A:Option Addr) (n:Nat) (ps:List α):Prop :=
 ps.length=n∧n≤9223372036854775807∧(0<n→∃ ad,A=some ad∧∀ j p,ps[j]? = some p→∃ c,c.length=size∧R p c∧∀ i u,c[i]? = some u→w.cell? (ad.add (j*size+i))=some u)
theorem ReadsRow.get_ {α:Type} {R:α→List Value→Prop} {size:Nat} {w:World} {A:Option Addr} {n:Nat} {ps:List α} (h:ReadsRow R size w A n ps) (d:α) (i:Int) (h0:0≤i) (h1:i<n) :
  ∃ ad c,A=some ad∧c.length=size∧R (ps.getD i.toNat d) c∧∀ j u,c[j]? = some u→w.cell? (ad.add (i.toNat*size+j))=some u:=by
 obtain ⟨ad,e,hc⟩:=h.2.2 (by omega)
 have hl:i.toNat<ps.length:=by have:=h.1;omega
 obtain ⟨c,hs,hr,hcell⟩:=hc i.toNat _ (List.getElem?_eq_getElem hl)
 refine ⟨ad,c,e,hs,?_,hcell⟩
 rw [List.getD_eq_getElem?_getD,List.getElem?_eq_getElem hl]
 exact hr
theorem ReadsRow.imp_ {α:Type} {R R':α→List Value→Prop} {size:Nat} {w w1:World} {A:Option Addr} {n:Nat} {ps:List α} (h:ReadsRow R size w A n ps) (hb:Below w.heap.size w w1) (hR:∀ p c,R p c→R' p c):ReadsRow R' size w1 A n ps :=
 ⟨h.1,h.2.1,fun hn=>by
   obtain ⟨ad,e,hc⟩:=h.2.2 hn
   refine ⟨ad,e,fun j p hj => ?_⟩
   obtain ⟨c,hs,hr,hcell⟩:=hc j p hj
   exact ⟨c,hs,hR _ _ hr,fun i u hu=>pw_cell_below hb (hcell i u hu)⟩⟩
theorem own_reads_row {α:Type} {R:α→List Value→Prop} {w:World} {base n size:Nat} {e:TypeId} {v:Value} {ps:List α} {cs:List Value} (h:w.ownsRow base e size v n cs) (hR:Reps R size ps cs) (hn:ps.length=n) :
  ∃ A c,v = .slice A n c∧ReadsRow R size w A n ps:=by
 rcases Nat.eq_zero_or_pos n with h0|h0
 · rcases h.2 with ⟨rfl,rfl⟩|⟨g,cap,cur,rfl,_⟩
   · exact ⟨none,0,rfl,hn,by omega,fun hp=>absurd hp (by omega)⟩
   · exact ⟨_,cap,rfl,hn,by omega,fun hp=>absurd hp (by omega)⟩
 · obtain ⟨g,cap,rfl,_,_⟩:=h.form h0
   have hm:n≤9223372036854775807:=by
    rcases h.2 with ⟨_,h1⟩|⟨g',cap',cur,he,_,_,h1,h2,_⟩
    · omega
    · simp only [maxLen] at h2
      omega
   refine ⟨_,cap,rfl,hn,hm,fun _=>⟨_,rfl,fun j p hj=>⟨(cs.drop (j*size)).take size,?_,hR.2 j p hj,fun i u hu => ?_⟩⟩⟩
   · have hjl:=(List.getElem?_eq_some_iff.1 hj).1
     have h1:j*size+size≤cs.length:=by rw [hR.1,← Nat.succ_mul];exact Nat.mul_le_mul_right _ hjl
     rw [List.length_take,List.length_drop]
     omega
   · refine h.cells (g:=g) rfl _ u ?_
     rw [List.getElem?_take] at hu
     split at hu
     · rw [List.getElem?_drop] at hu
       exact hu
     · cases hu
theorem add_field (ad:Addr) (m j:Nat) (hj:0<j):ad.add (m+j)=⟨(ad.add m).block,(ad.add m).off+j,none⟩:=by
 unfold Addr.add
 by_cases hm:m=0
 · subst hm
   simp [Nat.ne_of_gt hj]
 · simp [hm,Nat.add_assoc]
section
variable {P : Program} {ops : Array Oper} {rest : List Oper} {o : Oper} {a : Act} {Q : Exit → Act → World → Prop}
theorem print_append_cells {w0 W:World} (base:Nat) (hgd:o.guard=none) (s x:Operand) (t e:TypeId) (z:Value) (size bytes:Nat)
  (ho:o.op = .call { callee:=.builtin .append,args := #[s,x],argTypes := #[t,t] })
  (ht:P.underlying t=some (.slice e)) (hinfo:(P.info? e).map (fun i=>(i.zero,i.size,i.bytes))=some (some z,size,bytes)) (hz:z.cells.size=size) (hs0:0<size) (hb0:0<bytes)
  (v:Value) (n:Nat) (xs ys:List Value) (hs:a.eval s=v) (hx:a.eval x = .slice (some ⟨W.heap.size,0,none⟩) 1 1) (hys:ys.length=size) (h1:∀ u∈ys,u.oneCell'=true)
  (HO:W.ownsRow base e size v n xs) (HB:Below base w0 W) (hbase:base≤W.heap.size) (hl:(n+1)*bytes≤140737488355328)
  (h:∀ v1 w1,w1.ownsRow base e size v1 (n+1) (xs++ys)→Below base w0 w1→W.grownBy w1 v.ownBlock→(v1.ownBlock=v.ownBlock∨∃ b,v1.ownBlock=some b∧W.heap.size≤b)→wpList P ops Q rest (a.put o.dst v1) w1) :
  wpList P ops Q (o::rest) a (W.alloc (.cells ys.toArray e)):=by
 obtain ⟨i0,hi,hzz⟩:=Option.map_eq_some_iff.1 hinfo
 simp only [Prod.mk.injEq] at hzz
 obtain ⟨hz0,hz1,hz2⟩:=hzz
 have hlen:n+1≤140737488355328:=Nat.le_trans (Nat.le_mul_of_pos_right _ hb0) hl
 refine wpList_append_own_at (W.alloc (.cells ys.toArray e)) hgd s x t ho base e i0 z size bytes ht hi hz0 hz1 hz2 hz hs0 v n xs hs (HO.alloc _) ⟨W.heap.size,0,none⟩ 1 1 ys hx (by rw [hys];simp)
  (by simpa using World.news_of_block (cs:=ys.toArray) (t:=e) (fr:=(0,0)) (heap_alloc_new W (.cells ys.toArray e))) h1 (by simp only [maxLen];omega) hl (by simp;omega) ?_
 intro v1 w1 hown hg _ hat
 refine h v1 w1 hown ((HB.alloc hbase _).grown hg (by simp;omega) (own_base HO)) (World.grownBy.trans (World.grownBy_alloc W _ _) hg) ?_
 rcases hat with hat|hat
 · exact .inl hat
 · exact .inr ⟨_,hat,by simp⟩
end
theorem blk_set {w:World} {g:Nat} {t:TypeId} {cs:Array Value} (h:w.heap[g]? = some (.cells cs t (0,0))) (i:Nat) (u:Value):(w.setCell ⟨g,i,none⟩ u).heap[g]? = some (.cells (cs.setIfInBounds i u) t (0,0)):=by
 simp [World.setCell,Array.getElem?_modify,h]
theorem blk_far {w:World} {g:Nat} {t:TypeId} {cs:Array Value} (h:w.heap[g]? = some (.cells cs t (0,0))) {p:Addr} (hp:g≠p.block) (u:Value):(w.setCell p u).heap[g]? = some (.cells cs t (0,0)):=(Below.heap_setCell w p u g hp).trans h
theorem blk_lt {w:World} {g:Nat} {o:Obj} (h:w.heap[g]? = some o):g<w.heap.size:=(Array.getElem?_eq_some_iff.1 h).1
theorem blk_cell {w:World} {g:Nat} {t:TypeId} {cs:Array Value} (h:w.heap[g]? = some (.cells cs t (0,0))) (i:Nat):w.cell? ⟨g,i,none⟩=cs[i]? := cell_of_row w g i cs t (0,0) h
theorem blk_frozen {w:World} {g:Nat} {t:TypeId} {cs:Array Value} (h:w.heap[g]? = some (.cells cs t (0,0))) (i:Nat):w.frozen? ⟨g,i,none⟩=false:=by simp [World.frozen?,h]
theorem blk_grown {w w1:World} {g:Nat} {o:Obj} {row:Option Nat} (h:w.heap[g]? = some o) (hg:w.grownBy w1 row) (hne:some g≠row):w1.heap[g]? = some o:=(hg.block g (blk_lt h) hne).trans h
def KeepBut (w w':World) (g:Nat) (row:Option Nat):Prop:=w.heap.size≤w'.heap.size∧∀ i,i<w.heap.size→i≠g→some i≠row→w'.heap[i]? = w.heap[i]?
theorem KeepBut.refl (w:World) (g:Nat) (row:Option Nat):KeepBut w w g row:=⟨Nat.le_refl _,fun _ _ _ _=>rfl⟩
theorem KeepBut.of_below {w w1:World} (h:Below w.heap.size w w1) (g:Nat) (row:Option Nat):KeepBut w w1 g row:=⟨h.size,fun i hi _ _=>h.block i hi⟩
theorem KeepBut.set_ {w w1:World} {g:Nat} {row:Option Nat} (h:KeepBut w w1 g row) (j:Nat) (u:Value):KeepBut w (w1.setCell ⟨g,j,none⟩ u) g row :=
 ⟨by simpa [World.setCell] using h.1,fun i hi hg hr=>(Below.heap_setCell w1 ⟨g,j,none⟩ u i hg).trans (h.2 i hi hg hr)⟩
theorem KeepBut.trans {w w1 w2:World} {g:Nat} {row row1:Option Nat} (h:KeepBut w w1 g row) (k:KeepBut w1 w2 g row1) (hr:row1=row∨∃ b,row1=some b∧w.heap.size≤b):KeepBut w w2 g row :=
 ⟨Nat.le_trans h.1 k.1,fun i hi hg hn=>by
   refine (k.2 i (Nat.lt_of_lt_of_le hi h.1) hg ?_).trans (h.2 i hi hg hn)
   rcases hr with rfl|⟨b,rfl,hb⟩
   · exact hn
   · intro e
     injection e with e
     omega⟩
def Ev {α:Type} (g:Nat→Option α) (r:α):Prop := ∃ K,∀ k,K≤k→g k=some r
theorem Ev.now {α:Type} (r:α):Ev (fun _=>some r) r:=⟨0,fun _ _=>rfl⟩
theorem Ev.rounds {α:Type} {g:Nat→Option α} {r:α} (h:Ev g r):∃ k,g k=some r:=by
 obtain ⟨K,h⟩:=h
 exact ⟨K,h K (Nat.le_refl _)⟩
theorem Ev.bind {α β:Type} {g:Nat→Option α} {f:Nat→α→Option β} {a:α} {r:β} (h:Ev g a) (k:Ev (fun n=>f n a) r):Ev (fun n=>(g n).bind (f n)) r:=by
 obtain ⟨K,h⟩:=h
 obtain ⟨K',k⟩:=k
 refine ⟨max K K',fun n hn => ?_⟩
 have h1:=h n (by omega)
 have h2:=k n (by omega)
 simp only [h1,Option.bind_some]
 exact h2
theorem Ev.step {α:Type} {g f:Nat→Option α} {r:α} (h:∀ k,g (k+1)=f k) (k:Ev f r):Ev g r:=by
 obtain ⟨K,k⟩:=k
 refine ⟨K+1,fun n hn => ?_⟩
 obtain ⟨m,rfl⟩:∃ m,n=m+1:=⟨n - 1,by omega⟩
 rw [h]
 exact k m (by omega)
section
variable {P : Program} {ops : Array Oper} {o : Oper} {a : Act} {Q : Exit → Act → World → Prop} {K : Act → World → Prop}
end
theorem own_weaken {w:World} {base base':Nat} {e:TypeId} {size n:Nat} {v:Value} {xs:List Value} (h:w.ownsRow base e size v n xs) (hb:base'≤base):w.ownsRow base' e size v n xs:=by
 obtain ⟨h1,h2⟩:=h
 refine ⟨h1,?_⟩
 rcases h2 with h2|⟨g,cap,cur,rfl,hg,r⟩
 · exact .inl h2
 · exact .inr ⟨g,cap,cur,rfl,Nat.le_trans hb hg,r⟩
section
variable {α : Type} {enc : α → Value} {d : α}
end
section
variable {α : Type} {P : Program} {ops : Array Oper} {rest : List Oper} {o : Oper} {a : Act} {Q : Exit → Act → World → Prop}
end
theorem blk_alloc {w:World} {g:Nat} {o:Obj} (h:w.heap[g]? = some o) (o':Obj):(w.alloc o').heap[g]? = some o:=(Below.heap_alloc w o' g (blk_lt h)).trans h
theorem blk_drew {w:World} {g:Nat} {o:Obj} (h:w.heap[g]? = some o):w.drew.heap[g]? = some o:=h
theorem blk_drewN {w:World} {g:Nat} {o:Obj} (h:w.heap[g]? = some o) (n:Nat):(w.drewN n).heap[g]? = some o:=h
theorem blk_below {w w1:World} {g:Nat} {o:Obj} (h:w.heap[g]? = some o) (hb:Below w.heap.size w w1):w1.heap[g]? = some o:=(hb.block g (blk_lt h)).trans h
theorem blk_new (w:World) (o:Obj):(w.alloc o).heap[w.heap.size]? = some o:=heap_alloc_new w o
section
variable {P : Program}
theorem results_ct {fn:Func} {p u:Tmp} {ty:TypeId} (h:fn.results = #[.cell p ty,.tmp u]) (tmps:Array Value) (w:World) (g:Nat) (t:TypeId) (cs:Array Value) (fr:Nat×Nat) (d:TypeDesc)
  (hp:tmps.getD p undef = .pointer (some ⟨g,0,none⟩)) (hg:w.heap[g]? = some (.cells cs t fr))
  (hu:P.underlying ty=some d) (hd:(match d with | .struct _ | .array _ _=>true|_=>false)=true) (hi:(P.info? ty).map (·.size)=some cs.size) :
  (results fn tmps).run P w = .ok (.tuple #[.agg cs,tmps.getD u undef]) w:=by
 have hp':tmps[p]?.getD undef = .pointer (some ⟨g,0,none⟩):=by simpa using hp
 simp [results,h,hp',asAddr,run_loadVar_row w g t ty cs fr d hg hu hd hi]
theorem results_ctt {fn:Func} {p u v:Tmp} {ty:TypeId} (h:fn.results = #[.cell p ty,.tmp u,.tmp v]) (tmps:Array Value) (w:World) (g:Nat) (t:TypeId) (cs:Array Value) (fr:Nat×Nat) (d:TypeDesc)
  (hp:tmps.getD p undef = .pointer (some ⟨g,0,none⟩)) (hg:w.heap[g]? = some (.cells cs t fr))
  (hu:P.underlying ty=some d) (hd:(match d with | .struct _ | .array _ _=>true|_=>false)=true) (hi:(P.info? ty).map (·.size)=some cs.size) :
  (results fn tmps).run P w = .ok (.tuple #[.agg cs,tmps.getD u undef,tmps.getD v undef]) w:=by
 have hp':tmps[p]?.getD undef = .pointer (some ⟨g,0,none⟩):=by simpa using hp
 simp [results,h,hp',asAddr,run_loadVar_row w g t ty cs fr d hg hu hd hi]
end
theorem own_le {w:World} {base n m c size:Nat} {e:TypeId} {A:Option Addr} {xs:List Value} (h:w.ownsRow base e size (.slice A m c) n xs):m≤c:=by
 rcases h.2 with ⟨he,_⟩|⟨g,cap,cur,he,_,_,hnc,_⟩
 · injection he with _ h2 h3
   omega
 · injection he with _ h2 h3
   omega
def OwnRow {α:Type} (R:α→List Value→Prop) (e:TypeId) (size:Nat) (w:World) (base:Nat) (v:Value) (ps:List α):Prop :=
 ∃ inner,w.ownsRow base e size v ps.length inner∧Reps R size ps inner
section
variable {α : Type} {R R' : α → List Value → Prop} {e : TypeId} {size : Nat} {w w1 : World} {base : Nat} {v : Value} {ps : List α}
theorem OwnRow.none_ (R:α→List Value→Prop) (e:TypeId) (size:Nat) (w:World) (base:Nat):OwnRow R e size w base (.slice none 0 0) []:=⟨[],own_nil _ _ _ _,Reps.none _ _⟩
theorem OwnRow.imp_ (h:OwnRow R e size w base v ps) (hR:∀ p c,R p c→R' p c):OwnRow R' e size w base v ps:=by
 obtain ⟨inner,ho,hr⟩:=h
 exact ⟨inner,ho,hr.imp_ hR⟩
theorem OwnRow.lower (h:OwnRow R e size w base v ps) {base':Nat} (hb:base'≤base):OwnRow R e size w base' v ps:=by
 obtain ⟨inner,ho,hr⟩:=h
 exact ⟨inner,own_weaken ho hb,hr⟩
theorem OwnRow.reads (h:OwnRow R e size w base v ps):∃ A c,v = .slice A ps.length c∧ps.length≤c∧ReadsRow R size w A ps.length ps:=by
 obtain ⟨inner,ho,hr⟩:=h
 obtain ⟨A,c,rfl,hrow⟩:=own_reads_row ho hr rfl
 exact ⟨A,c,rfl,own_le ho,hrow⟩
end
section
variable {P : Program} {ops : Array Oper} {rest : List Oper} {o : Oper} {a : Act} {Q : Exit → Act → World → Prop} {α : Type} {R : α → List Value → Prop}
end
section
variable {P : Program} {ops : Array Oper} {o : Oper} {a : Act} {Q : Exit → Act → World → Prop} {K : Act → World → Prop} {α : Type} {R : α → List Value → Prop}
end
theorem ReadsRow.inner_ {α:Type} {R:α→List Value→Prop} {size:Nat} {w:World} {ad:Addr} {n:Nat} {ps:List α} (h:ReadsRow R size w (some ad) n ps) :
  ∃ inner,Reps R size ps inner∧∀ j u,inner[j]? = some u→w.cell? (ad.add j)=some u:=by
 have key:∀ m,m≤ps.length→∃ inner,Reps R size (ps.take m) inner∧∀ j u,inner[j]? = some u→w.cell? (ad.add j)=some u:=by
  intro m
  induction m with
  | zero=>exact fun _=>⟨[],Reps.none _ _,fun j u hu=>by simp at hu⟩
  | succ m ih =>
    intro hm
    obtain ⟨inner,hr,hc⟩:=ih (by omega)
    obtain ⟨ad',he,hcell⟩:=h.2.2 (by have:=h.1;omega)
    injection he with he
    subst he
    obtain ⟨c,hcl,hp,hcc⟩:=hcell m _ (List.getElem?_eq_getElem (show m<ps.length by omega))
    refine ⟨inner++c,?_,fun j u hu => ?_⟩
    · rw [List.take_succ_eq_append_getElem (show m<ps.length by omega)]
      exact hr.snoc hp hcl
    · have hil:inner.length=m*size:=by rw [hr.1,List.length_take,Nat.min_eq_left (by omega)]
      rcases Nat.lt_or_ge j inner.length with hj|hj
      · rw [List.getElem?_append_left hj] at hu
        exact hc j u hu
      · rw [List.getElem?_append_right hj] at hu
        have:=hcc (j - inner.length) u hu
        rwa [hil,Nat.add_sub_cancel' (by omega)] at this
 obtain ⟨inner,hr,hc⟩:=key ps.length (Nat.le_refl _)
 rw [List.take_length] at hr
 exact ⟨inner,hr,hc⟩
section
variable {α : Type} {P : Program}
end
section
variable {P : Program} {ops : Array Oper} {rest : List Oper} {o : Oper} {a : Act} {Q : Exit → Act → World → Prop}
end
structure Kd (α:Type) where
 sz:Nat
 E:List Nat
 K:World→α→List Value→Prop
 M:World→Nat→(Nat→Prop)→α→List Value→Prop
 K_len:∀ {w x cs},K w x cs→cs.length=sz
 K_one:∀ {w x cs},K w x cs→∀ u∈cs,u.oneCell'=true
 K_below:∀ {w w1:World} {x cs},Below w.heap.size w w1→K w x cs→K w1 x cs
 K_of_M:∀ {w base ok x cs},M w base ok x cs→K w x cs
 M_mono:∀ {w base ok ok' x cs},(∀ k,ok k→ok' k)→M w base ok x cs→M w base ok' x cs
 M_bound:∀ {w:World} {base ok x cs},M w base ok x cs→M w base (fun k=>ok k∧base≤k∧k<w.heap.size∧∃ q,q∈E∧∃ cells,w.heap[k]? = some (.cells cells q (0,0))) x cs
 M_move:∀ {w w1:World} {base ok x cs},(∀ k,ok k→w1.heap[k]? = w.heap[k]?)→M w base ok x cs→M w1 base ok x cs
 M_lower:∀ {w base base' ok x cs},base'≤base→M w base ok x cs→M w base' ok x cs
theorem own_move {w w1:World} {base:Nat} {e:TypeId} {size n:Nat} {v:Value} {xs:List Value} (h:w.ownsRow base e size v n xs) (hm:∀ k,v.ownBlock=some k→w1.heap[k]? = w.heap[k]?):w1.ownsRow base e size v n xs:=by
 obtain ⟨h1,h2⟩:=h
 refine ⟨h1,?_⟩
 rcases h2 with h2|⟨g,cap,cur,rfl,hg,hh,r⟩
 · exact .inl h2
 · exact .inr ⟨g,cap,cur,rfl,hg,(hm g (by simp [Value.ownBlock])).trans hh,r⟩
theorem own_typed {w:World} {base:Nat} {e:TypeId} {size n:Nat} {v:Value} {xs:List Value} (h:w.ownsRow base e size v n xs) (k:Nat) (hk:v.ownBlock=some k):∃ cells,w.heap[k]? = some (.cells cells e (0,0)):=by
 rcases h.2 with ⟨rfl,_⟩|⟨g,cap,cur,rfl,hg,hh,r⟩
 · simp [Value.ownBlock] at hk
 · have:g=k:=by simpa [Value.ownBlock] using hk
   subst this
   exact ⟨cur,hh⟩
namespace Kd
def C {α:Type} (d:Kd α) (w:World) (A:Option Addr) (n:Nat) (xs:List α):Prop:=ReadsRow (d.K w) d.sz w A n xs
def R {α:Type} (d:Kd α) (e:Nat) (w:World) (base:Nat) (ok:Nat→Prop) (v:Value) (xs:List α):Prop :=
 (∀ k,v.ownBlock=some k→ok k)∧OwnRow (d.M w base (fun k=>ok k∧some k≠v.ownBlock)) e d.sz w base v xs
section
variable {α : Type} {d : Kd α} {e : Nat} {w w1 : World} {base : Nat} {ok ok' : Nat → Prop} {v : Value} {xs : List α}
theorem C_below {A:Option Addr} {n:Nat} (h:d.C w A n xs) (hb:Below w.heap.size w w1):d.C w1 A n xs:=ReadsRow.imp_ h hb (fun _ _ hp=>d.K_below hb hp)
theorem R_nil (d:Kd α) (e:Nat) (w:World) (base:Nat) (ok:Nat→Prop):d.R e w base ok (.slice none 0 0) []:=⟨fun k hk=>by simp [Value.ownBlock] at hk,OwnRow.none_ _ _ _ _ _⟩
theorem R_mono (h:d.R e w base ok v xs) (hok:∀ k,ok k→ok' k):d.R e w base ok' v xs:=⟨fun k hk=>hok k (h.1 k hk),h.2.imp_ (fun _ _ hp=>d.M_mono (fun k hk=>⟨hok k hk.1,hk.2⟩) hp)⟩
theorem R_bound (h:d.R e w base ok v xs):d.R e w base (fun k=>ok k∧base≤k∧k<w.heap.size∧∃ q,q∈e::d.E∧∃ cells,w.heap[k]? = some (.cells cells q (0,0))) v xs:=by
 obtain ⟨h0,inner,ho,hr⟩:=h
 refine ⟨fun k hk => ?_,inner,ho,hr.imp_ (fun _ _ hp=>d.M_mono (fun k hk => ?_) (d.M_bound hp))⟩
 · obtain ⟨cells,hc⟩:=own_typed ho k hk
   exact ⟨h0 k hk,own_base ho k hk,own_lt ho k hk,e,List.mem_cons_self,cells,hc⟩
 · obtain ⟨⟨h1,h2⟩,h3,h4,q,hq,hc⟩:=hk
   exact ⟨⟨h1,h3,h4,q,List.mem_cons_of_mem _ hq,hc⟩,h2⟩
theorem R_move (h:d.R e w base ok v xs) (hm:∀ k,ok k→w1.heap[k]? = w.heap[k]?):d.R e w1 base ok v xs:=by
 obtain ⟨h0,inner,ho,hr⟩:=h
 exact ⟨h0,inner,own_move ho (fun k hk=>hm k (h0 k hk)),hr.imp_ (fun _ _ hp=>d.M_move (fun k hk=>hm k hk.1) hp)⟩
theorem R_lower {base':Nat} (h:d.R e w base ok v xs) (hb:base'≤base):d.R e w base' ok v xs:=by
 obtain ⟨h0,inner,ho,hr⟩:=h
 exact ⟨h0,inner,own_weaken ho hb,hr.imp_ (fun _ _ hp=>d.M_lower hb hp)⟩
theorem R_step (h:d.R e w base ok v xs) (hm:∀ k,ok k→k<w.heap.size→w1.heap[k]? = w.heap[k]?):d.R e w1 base ok v xs :=
 R_mono (R_move (R_bound h) (fun k hk=>hm k hk.1 hk.2.2.1)) (fun _ hk=>hk.1)
theorem M_step {x:α} {cs:List Value} (h:d.M w base ok x cs) (hm:∀ k,ok k→k<w.heap.size→w1.heap[k]? = w.heap[k]?):d.M w1 base ok x cs :=
 d.M_mono (fun _ hk=>hk.1) (d.M_move (fun k hk=>hm k hk.1 hk.2.2.1) (d.M_bound h))
theorem R_below (h:d.R e w base ok v xs) (hb:Below w.heap.size w w1):d.R e w1 base ok v xs:=R_step h (fun k _ hk=>hb.block k hk)
theorem R_far (h:d.R e w base ok v xs) {p:Addr} (hok:∀ k,ok k→k≠p.block) (u:Value):d.R e (w.setCell p u) base ok v xs:=R_step h (fun k ho _=>Below.heap_setCell w p u k (hok k ho))
theorem R_keep (h:d.R e w base ok v xs) {g:Nat} (hk:KeepBut w w1 g none) (hok:∀ k,ok k→k≠g):d.R e w1 base ok v xs:=R_step h (fun k ho hlt=>hk.2 k hlt (hok k ho) (by simp))
theorem R_types (h:d.R e w base ok v xs) {g t:Nat} {cells:Array Value} (hb:w.heap[g]? = some (.cells cells t (0,0))) (ht:∀ q,q∈e::d.E→q≠t):d.R e w base (fun k=>ok k∧k≠g) v xs :=
 R_mono (R_bound h) (fun k hk=>⟨hk.1,by
  obtain ⟨_,_,_,q,hq,cells',hc⟩:=hk
  rintro rfl
  rw [hc] at hb
  injection hb with hb
  injection hb with _ hb
  exact ht q hq hb⟩)
theorem R_reads (h:d.R e w base ok v xs):∃ A c,v = .slice A xs.length c∧xs.length≤c∧d.C w A xs.length xs:=by
 obtain ⟨A,c,he,hl,hr⟩:=OwnRow.reads h.2
 exact ⟨A,c,he,hl,hr.imp_ (Below.refl _ _) (fun _ _ hp=>d.K_of_M hp)⟩
theorem R_slice (h:d.R e w base ok v xs):∃ A c,v = .slice A xs.length c:=by
 obtain ⟨A,c,he,_⟩:=R_reads h
 exact ⟨A,c,he⟩
theorem R_own (h:d.R e w base ok v xs):∃ inner,w.ownsRow base e d.sz v xs.length inner:=by
 obtain ⟨_,inner,ho,_⟩:=h
 exact ⟨inner,ho⟩
end
def scalar {α:Type} (enc:α→Value) (h1:∀ x,(enc x).oneCell'=true):Kd α where
 sz:=1
 E:=[]
 K:=fun _ x cs=>cs=[enc x]
 M:=fun _ _ _ x cs=>cs=[enc x]
 K_len:=fun h=>by rw [h];rfl
 K_one:=fun h u hu=>by
  rw [h] at hu
  rw [List.mem_singleton.1 hu]
  exact h1 _
 K_below:=fun _ h=>h
 K_of_M:=fun h=>h
 M_mono:=fun _ h=>h
 M_bound:=fun h=>h
 M_move:=fun _ h=>h
 M_lower:=fun _ h=>h
def int (k:IntKind):Kd Int:=scalar (Value.int k) (fun _=>rfl)
def bool:Kd Bool:=scalar Value.bool (fun _=>rfl)
def string:Kd ByteArray:=scalar Value.string (fun _=>rfl)
def slice {α:Type} (e:Nat) (d:Kd α):Kd (List α) where
 sz:=1
 E:=e::d.E
 K:=fun w xs cs => ∃ A c,cs=[.slice A xs.length c]∧xs.length≤c∧d.C w A xs.length xs
 M:=fun w base ok xs cs => ∃ v,cs=[v]∧d.R e w base ok v xs
 K_len:=by
  rintro w x cs ⟨A,c,rfl,_⟩
  rfl
 K_one:=by
  rintro w x cs ⟨A,c,rfl,_⟩ u hu
  rw [List.mem_singleton.1 hu]
  rfl
 K_below:=by
  rintro w w1 x cs hb ⟨A,c,rfl,hl,hr⟩
  exact ⟨A,c,rfl,hl,C_below hr hb⟩
 K_of_M:=by
  rintro w base ok x cs ⟨v,rfl,h⟩
  obtain ⟨A,c,rfl,hl,hr⟩:=R_reads h
  exact ⟨A,c,rfl,hl,hr⟩
 M_mono:=by
  rintro w base ok ok' x cs hok ⟨v,rfl,h⟩
  exact ⟨v,rfl,R_mono h hok⟩
 M_bound:=by
  rintro w base ok x cs ⟨v,rfl,h⟩
  exact ⟨v,rfl,R_bound h⟩
 M_move:=by
  rintro w w1 base ok x cs hm ⟨v,rfl,h⟩
  exact ⟨v,rfl,R_move h hm⟩
 M_lower:=by
  rintro w base base' ok x cs hb ⟨v,rfl,h⟩
  exact ⟨v,rfl,R_lower h hb⟩
def pair {α β:Type} (a:Kd α) (b:Kd β):Kd (α×β) where
 sz:=a.sz+b.sz
 E:=a.E++b.E
 K:=fun w x cs => ∃ c0 c1,cs=c0++c1∧a.K w x.1 c0∧b.K w x.2 c1
 M:=fun w base ok x cs => ∃ c0 c1,cs=c0++c1∧a.M w base ok x.1 c0∧b.M w base ok x.2 c1
 K_len:=by
  rintro w x cs ⟨c0,c1,rfl,h0,h1⟩
  rw [List.length_append,a.K_len h0,b.K_len h1]
 K_one:=by
  rintro w x cs ⟨c0,c1,rfl,h0,h1⟩ u hu
  rcases List.mem_append.1 hu with hu|hu
  · exact a.K_one h0 u hu
  · exact b.K_one h1 u hu
 K_below:=by
  rintro w w1 x cs hb ⟨c0,c1,rfl,h0,h1⟩
  exact ⟨c0,c1,rfl,a.K_below hb h0,b.K_below hb h1⟩
 K_of_M:=by
  rintro w base ok x cs ⟨c0,c1,rfl,h0,h1⟩
  exact ⟨c0,c1,rfl,a.K_of_M h0,b.K_of_M h1⟩
 M_mono:=by
  rintro w base ok ok' x cs hok ⟨c0,c1,rfl,h0,h1⟩
  exact ⟨c0,c1,rfl,a.M_mono hok h0,b.M_mono hok h1⟩
 M_bound:=by
  rintro w base ok x cs ⟨c0,c1,rfl,h0,h1⟩
  refine ⟨c0,c1,rfl,a.M_mono ?_ (a.M_bound h0),b.M_mono ?_ (b.M_bound h1)⟩
  · rintro k ⟨h2,h3,h4,q,hq,hc⟩
    exact ⟨h2,h3,h4,q,List.mem_append_left _ hq,hc⟩
  · rintro k ⟨h2,h3,h4,q,hq,hc⟩
    exact ⟨h2,h3,h4,q,List.mem_append_right _ hq,hc⟩
 M_move:=by
  rintro w w1 base ok x cs hm ⟨c0,c1,rfl,h0,h1⟩
  exact ⟨c0,c1,rfl,a.M_move hm h0,b.M_move hm h1⟩
 M_lower:=by
  rintro w base base' ok x cs hb ⟨c0,c1,rfl,h0,h1⟩
  exact ⟨c0,c1,rfl,a.M_lower hb h0,b.M_lower hb h1⟩
def iso {α β:Type} (d:Kd α) (f:β→α):Kd β where
 sz:=d.sz
 E:=d.E
 K:=fun w x cs=>d.K w (f x) cs
 M:=fun w base ok x cs=>d.M w base ok (f x) cs
 K_len:=d.K_len
 K_one:=d.K_one
 K_below:=d.K_below
 K_of_M:=d.K_of_M
 M_mono:=d.M_mono
 M_bound:=d.M_bound
 M_move:=d.M_move
 M_lower:=d.M_lower
def bot {α:Type} (sz:Nat) (E:List Nat):Kd α where
 sz:=sz
 E:=E
 K:=fun _ _ _=>False
 M:=fun _ _ _ _ _=>False
 K_len:=fun h=>h.elim
 K_one:=fun h=>h.elim
 K_below:=fun _ h=>h
 K_of_M:=fun h=>h
 M_mono:=fun _ h=>h
 M_bound:=fun h=>h
 M_move:=fun _ h=>h
 M_lower:=fun _ h=>h
def upto {α:Type} (F:Kd α→Kd α) (sz:Nat) (E:List Nat):Nat→Kd α
 | 0=>bot sz E
 | n+1=>F (upto F sz E n)
theorem C_get {α:Type} {d:Kd α} {w:World} {A:Option Addr} {n:Nat} {xs:List α} (h:d.C w A n xs) (z:α) (i:Int) (h0:0≤i) (h1:i<n) :
 ∃ ad c,A=some ad∧c.length=d.sz∧d.K w (xs.getD i.toNat z) c∧∀ j u,c[j]? = some u→w.cell? (ad.add (i.toNat*d.sz+j))=some u:=ReadsRow.get_ h z i h0 h1
theorem R_appended {α:Type} {d:Kd α} {e base:Nat} {ok okp:Nat→Prop} {W w1:World} {v v1:Value} {xs:List α} {p:α} {inner cs:List Value} (h0:∀ k,v.ownBlock=some k→ok k) (hr:Reps (d.M W base (fun k=>ok k∧some k≠v.ownBlock)) d.sz xs inner) (hp:d.M W base okp p cs) (hokp:∀ k,okp k→ok k∧some k≠v.ownBlock) (hfresh:∀ k,W.heap.size≤k→ok k)
  (hown:w1.ownsRow base e d.sz v1 (xs.length+1) (inner++cs)) (hg:W.grownBy w1 v.ownBlock) (hat:v1.ownBlock=v.ownBlock∨∃ b,v1.ownBlock=some b∧W.heap.size≤b):d.R e w1 base ok v1 (xs++[p]):=by
 have hne:∀ k,some k≠v.ownBlock→k<W.heap.size→some k≠v1.ownBlock:=by
  intro k hk hlt
  rcases hat with hat|⟨b,hb,hle⟩
  · rw [hat];exact hk
  · rw [hb]
    intro he
    injection he with he
    omega
 have step:∀ {q:α} {c:List Value} {o:Nat→Prop},d.M W base o q c→(∀ k,o k→ok k∧some k≠v.ownBlock)→d.M w1 base (fun k=>ok k∧some k≠v1.ownBlock) q c:=by
  intro q c o hq ho
  have h1:=d.M_move (w1:=w1) (fun k hk=>hg.block k hk.2.2.1 (ho k hk.1).2) (d.M_bound hq)
  exact d.M_mono (fun k hk=>⟨(ho k hk.1).1,hne k (ho k hk.1).2 hk.2.2.1⟩) h1
 refine ⟨fun k hk => ?_,inner++cs,by rw [List.length_append,List.length_singleton];exact hown,?_⟩
 · rcases hat with hat|⟨b,hb,hle⟩
   · exact h0 k (hat ▸ hk)
   · rw [hb] at hk
     injection hk with hk
     exact hfresh k (by omega)
 · exact (hr.imp_ (fun _ _ hq=>step hq (fun _ hk=>hk))).snoc (step hp hokp) (d.K_len (d.K_of_M hp))
section
variable {P : Program} {ops : Array Oper} {rest : List Oper} {o : Oper} {a : Act} {Q : Exit → Act → World → Prop} {α : Type}
theorem R_append (d:Kd α) {w0 W:World} (base:Nat) (hgd:o.guard=none) (s x:Operand) (t e:TypeId) (z:Value) (bytes:Nat)
  (ho:o.op = .call { callee:=.builtin .append,args := #[s,x],argTypes := #[t,t] })
  (ht:P.underlying t=some (.slice e)) (hinfo:(P.info? e).map (fun i=>(i.zero,i.size,i.bytes))=some (some z,d.sz,bytes)) (hz:z.cells.size=d.sz) (hs0:0<d.sz) (hb0:0<bytes)
  (v:Value) (xs:List α) (p:α) (cs:List Value) (ok okp:Nat→Prop) (hs:a.eval s=v) (hx:a.eval x = .slice (some ⟨W.heap.size,0,none⟩) 1 1) (hp:d.M W base okp p cs) (hokp:∀ k,okp k→ok k∧some k≠v.ownBlock) (hfresh:∀ k,W.heap.size≤k→ok k)
  (HO:d.R e W base ok v xs) (HB:Below base w0 W) (hbase:base≤W.heap.size) (hl:(xs.length+1)*bytes≤140737488355328)
  (h:∀ v1 w1,d.R e w1 base ok v1 (xs++[p])→Below base w0 w1→W.grownBy w1 v.ownBlock→(v1.ownBlock=v.ownBlock∨∃ b,v1.ownBlock=some b∧W.heap.size≤b)→wpList P ops Q rest (a.put o.dst v1) w1) :
  wpList P ops Q (o::rest) a (W.alloc (.cells cs.toArray e)):=by
 obtain ⟨h0,inner,hown,hr⟩:=HO
 refine print_append_cells base hgd s x t e z d.sz bytes ho ht hinfo hz hs0 hb0 v xs.length inner cs hs hx (d.K_len (d.K_of_M hp)) (d.K_one (d.K_of_M hp)) hown HB hbase hl ?_
 intro v1 w1 hown1 hb1 hg1 hat1
 exact h v1 w1 (R_appended h0 hr hp hokp hfresh hown1 hg1 hat1) hb1 hg1 hat1
end
section
variable {P : Program} {ops : Array Oper} {o : Oper} {a : Act} {Q : Exit → Act → World → Prop} {Kc : Act → World → Prop} {α : Type}
end
end Kd
namespace Kd
section
variable {α : Type} {F : Kd α → Kd α} {sz : Nat} {E : List Nat} {hs : ∀ n, (upto F sz E n).sz = sz} {hE : ∀ n q, q ∈ (upto F sz E n).E → q ∈ E}
end
end Kd
namespace Kd
end Kd
namespace Kd
section
variable {α β : Type} {d : Kd α} {d' : Kd β} {e e' : Nat} {w w1 W : World} {base b b' : Nat} {ok ok' okv oku : Nat → Prop} {v u : Value} {xs : List α} {ys : List β}
theorem R_alloc (h:d.R e w base ok v xs) (o:Obj):d.R e (w.alloc o) base ok v xs:=R_below h (below_alloc (Below.refl _ _) o)
theorem R_drew (h:d.R e w base ok v xs):d.R e w.drew base ok v xs:=R_below h (below_drew (Below.refl _ _))
theorem R_drewN (h:d.R e w base ok v xs) (m:Nat):d.R e (w.drewN m) base ok v xs:=R_below h (pw_below_drewN (Below.refl _ _) m)
theorem R_reads' {A:Option Addr} {n c:Nat} (h:d.R e w base ok (.slice A n c) xs):n=xs.length∧n≤c∧d.C w A xs.length xs:=by
 obtain ⟨A',c',he,hl,hr⟩:=R_reads h
 injection he with h1 h2 h3
 subst h1
 exact ⟨h2,by omega,hr⟩
theorem R_lt (h:d.R e w base ok v xs):∀ k,v.ownBlock=some k→k<w.heap.size:=by
 obtain ⟨inner,ho⟩:=R_own h
 exact own_lt ho
theorem R_base (h:d.R e w base ok v xs):∀ k,v.ownBlock=some k→base≤k:=by
 obtain ⟨inner,ho⟩:=R_own h
 exact own_base ho
theorem R_away (h:d.R e w base ok v xs) {g:Nat} (hok:∀ k,ok k→k≠g):some g≠v.ownBlock:=fun e=>hok g (h.1 g e.symm) rfl
theorem R_form (h:d.R e w base ok v xs) (hp:0<xs.length):∃ g cap,v = .slice (some ⟨g,0,none⟩) xs.length cap∧base≤g∧g<w.heap.size∧∃ cells,w.heap[g]? = some (.cells cells e (0,0)):=by
 obtain ⟨inner,ho⟩:=R_own h
 obtain ⟨g,cap,he,hb,hl⟩:=ho.form hp
 obtain ⟨cells,hc⟩:=own_typed ho g (by rw [he];simp [Value.ownBlock])
 exact ⟨g,cap,he,hb,hl,cells,hc⟩
end
section
variable {w W : World} {A : Option Addr} {n : Nat}
variable {α : Type} {enc : α → Value} {h1 : ∀ x, (enc x).oneCell' = true} {e base g cap : Nat} {ok : Nat → Prop} {xs : List α}
end
section
variable {P : Program} {ops : Array Oper} {rest : List Oper} {o : Oper} {a : Act} {Q : Exit → Act → World → Prop}
theorem event_run {W w1:World} {v:Value} (hgd:o.guard=none) (hrun:(execOp a.eval o).run P W = .ok (.value v) w1) (h:wpList P ops Q rest (a.put o.dst v) w1):wpList P ops Q (o::rest) a W:=by
 refine wpList_plain hgd fun K hK => ?_
 unfold Oper.wp
 rw [hrun]
 exact hK _ _ h
variable {α : Type}
end
end Kd
section
variable {P : Program}
end
section
variable {w w1 : World} {base n size : Nat} {e : TypeId} {v : Value} {xs : List Value}
theorem setCells_far {g:Nat}:∀ (vs:List Value) (o:Nat) {w:World} (k:Nat),k≠g→(w.setCells g o vs).heap[k]? = w.heap[k]?
 | [],_,_,_,_=>rfl
 | v::r,o,w,k,hk=>by
   rw [World.setCells,setCells_far r (o+1) k hk]
   exact Below.heap_setCell w ⟨g,o,none⟩ v k hk
theorem setCells_same (g:Nat):∀ (vs:List Value) (o:Nat) (w:World),(w.setCells g o vs).os=w.os∧(w.setCells g o vs).tape=w.tape∧(w.setCells g o vs).output=w.output∧(w.setCells g o vs).heap.size=w.heap.size
 | [],_,_=>⟨rfl,rfl,rfl,rfl⟩
 | v::r,o,w=>by
   obtain ⟨h1,h2,h3,h4⟩:=setCells_same g r (o+1) (w.setCell ⟨g,o,none⟩ v)
   rw [World.setCells]
   exact ⟨h1,h2,h3,by rw [h4];simp [World.setCell]⟩
theorem setCells_row {g:Nat} {e:TypeId}:∀ (vs:List Value) (o:Nat) (w:World) (cur:Array Value),w.heap[g]? = some (.cells cur e (0,0))→o+vs.length≤cur.size →
  ∃ cur',(w.setCells g o vs).heap[g]? = some (.cells cur' e (0,0))∧cur'.size=cur.size∧cur'.toList=cur.toList.take o++vs++cur.toList.drop (o+vs.length)
 | [],o,w,cur,h,_=>⟨cur,h,rfl,by simp⟩
 | v::r,o,w,cur,h,hl=>by
   have h2:=blk_set h o v
   simp only [List.length_cons] at hl
   obtain ⟨cur',h3,h4,h5⟩:=setCells_row r (o+1) (w.setCell ⟨g,o,none⟩ v) _ h2 (by simp;omega)
   refine ⟨cur',h3,by rw [h4];simp,?_⟩
   rw [h5,Array.toList_setIfInBounds]
   have ho:o<cur.toList.length:=by rw [Array.length_toList];omega
   rw [List.take_set,List.drop_set_of_lt (by omega)]
   simp only [List.length_cons]
   rw [show o+1+r.length=o+(r.length+1) by omega]
   congr 1
   rw [List.take_succ_eq_append_getElem ho,List.set_append_right _ _ (by rw [List.length_take];omega)]
   have ho':o<cur.size:=by omega
   simp [Nat.min_eq_left (Nat.le_of_lt ho')]
end
section
variable {P : Program}
end
namespace Kd
section
variable {α : Type} {d : Kd α} {e : Nat} {w w1 W : World} {base : Nat} {ok ok' : Nat → Prop} {v : Value} {xs : List α}
end
section
variable {P : Program} {ops : Array Oper} {rest : List Oper} {o : Oper} {a : Act} {Q' : Exit → Act → World → Prop} {Kc : Act → World → Prop} {α : Type}
end
end Kd
namespace Kd
section
variable {α : Type} {d : Kd α} {e e' : Nat} {w w1 W : World} {base : Nat} {ok : Nat → Prop} {u v : Value} {xs : List α}
theorem R_typed (h:d.R e w base ok v xs):∀ k,v.ownBlock=some k→∃ cells,w.heap[k]? = some (.cells cells e (0,0)):=by
 obtain ⟨inner,ho⟩:=R_own h
 exact fun k hk=>own_typed ho k hk
theorem R_apart' (h:d.R e W base ok u xs) (hty:∀ k,v.ownBlock=some k→∃ cells,W.heap[k]? = some (.cells cells e' (0,0))) (ht:∀ q,q∈e::d.E→q≠e'):d.R e W base (fun k=>ok k∧some k≠v.ownBlock) u xs:=by
 refine R_mono (R_bound h) (fun k hk=>⟨hk.1,fun he => ?_⟩)
 obtain ⟨_,_,_,q,hq,cells,hc⟩:=hk
 obtain ⟨cells',hc'⟩:=hty k he.symm
 rw [hc] at hc'
 injection hc' with hc'
 injection hc' with _ hc'
 exact ht q hq hc'
theorem R_elder' (hu:d.R e W base ok u xs) (hbase:∀ k,v.ownBlock=some k→W.heap.size≤k) (hb:Below W.heap.size W w1):d.R e w1 base (fun k=>ok k∧some k≠v.ownBlock) u xs :=
 R_mono (R_move (R_bound hu) (fun k hk=>hb.block k hk.2.2.1)) (fun k hk=>⟨hk.1,fun he=>by have:=hbase k he.symm;have:=hk.2.2.1;omega⟩)
end
end Kd
theorem seg_get {α:Type} (a seg:List α) (o:Nat) (h:o+seg.length≤a.length) (q:Nat) :
  (a.take o++seg++a.drop (o+seg.length))[q]? = if q<o then a[q]? else if q<o+seg.length then seg[q - o]? else a[q]? := by
 have hl:(a.take o).length=o:=by rw [List.length_take];omega
 rw [List.append_assoc]
 by_cases h1:q<o
 · rw [if_pos h1,List.getElem?_append_left (by omega),List.getElem?_take,if_pos h1]
 · rw [if_neg h1,List.getElem?_append_right (by omega),hl]
   by_cases h2:q<o+seg.length
   · rw [if_pos h2,List.getElem?_append_left (by omega)]
   · rw [if_neg h2,List.getElem?_append_right (by omega),List.getElem?_drop]
     congr 1
     omega
namespace Kd
section
variable {α : Type} {d : Kd α} {e base g n cap : Nat} {ok okp : Nat → Prop} {W : World} {xs : List α}
theorem R_elem (h:d.R e W base ok (.slice (some ⟨g,0,none⟩) n cap) xs) (z:α) (i:Int) (h0:0≤i) (h1:i<n) :
  ∃ c,c.length=d.sz∧d.M W base (fun k=>ok k∧k≠g) (xs.getD i.toNat z) c∧(∀ j u,c[j]? = some u→W.cell? ⟨g,i.toNat*d.sz+j,none⟩=some u)∧∀ j,W.frozen? ⟨g,i.toNat*d.sz+j,none⟩=false:=by
 obtain ⟨hn,hnc,hC⟩:=R_reads' h
 obtain ⟨_,inner,ho,hr⟩:=h
 have hil:i.toNat<xs.length:=by omega
 have hseg:i.toNat*d.sz+d.sz≤inner.length:=by rw [hr.1,← Nat.succ_mul];exact Nat.mul_le_mul_right _ hil
 have hM:=hr.2 i.toNat _ (List.getElem?_eq_getElem hil)
 refine ⟨(inner.drop (i.toNat*d.sz)).take d.sz,by rw [List.length_take,List.length_drop];omega,?_,fun j u hu => ?_,fun j => ?_⟩
 · rw [List.getD_eq_getElem?_getD,List.getElem?_eq_getElem hil]
   exact d.M_mono (fun k hk=>⟨hk.1,fun he=>hk.2 (by rw [he];simp [Value.ownBlock])⟩) hM
 · rw [List.getElem?_take] at hu
   split at hu
   · rw [List.getElem?_drop] at hu
     have:=ho.cells (g:=g) (by simp [Value.ownBlock]) _ u hu
     rwa [add_plain] at this
   · cases hu
 · obtain ⟨cells,hc⟩:=own_typed ho g (by simp [Value.ownBlock])
   exact blk_frozen hc _
theorem R_seg (h:d.R e W base ok (.slice (some ⟨g,0,none⟩) n cap) xs) (i:Int) (h0:0≤i) (h1:i<n) {c seg:List Value} {j:Nat} (hcl:c.length=d.sz) (hcc:∀ j u,c[j]? = some u→W.cell? ⟨g,i.toNat*d.sz+j,none⟩=some u)
  (hj:j+seg.length≤d.sz) {x':α} (hM:d.M W base okp x' (c.take j++seg++c.drop (j+seg.length))) (hokp:∀ k,okp k→ok k∧k≠g) :
  d.R e (W.setCells g (i.toNat*d.sz+j) seg) base ok (.slice (some ⟨g,0,none⟩) n cap) (xs.set i.toNat x')∧W.grownBy (W.setCells g (i.toNat*d.sz+j) seg) (some g):=by
 obtain ⟨hn,hnc,_⟩:=R_reads' h
 obtain ⟨hok,inner,ho,hr⟩:=h
 have hil:i.toNat<xs.length:=by omega
 have hseg:i.toNat*d.sz+d.sz≤inner.length:=by rw [hr.1,← Nat.succ_mul];exact Nat.mul_le_mul_right _ hil
 have hin:inner.length=n*d.sz:=by rw [hr.1,hn]
 obtain ⟨ho1,ho2⟩:=ho
 rcases ho2 with ⟨hv,_⟩|⟨g',cap',cur,hv,hb,hh,hnc',hcm,hcs,ht⟩
 · cases hv
 injection hv with ha _ hc
 injection ha with ha
 injection ha with hg
 subst hg;subst hc
 have hfit:i.toNat*d.sz+j+seg.length≤cur.size:=by
  have:n*d.sz≤cap*d.sz:=Nat.mul_le_mul_right _ hnc
  omega
 obtain ⟨cur',h3,h4,h5⟩:=setCells_row seg (i.toNat*d.sz+j) W cur hh hfit
 obtain ⟨s1,s2,s3,s4⟩:=setCells_same g seg (i.toNat*d.sz+j) W
 have hfar:∀ k,k≠g→(W.setCells g (i.toNat*d.sz+j) seg).heap[k]? = W.heap[k]? := fun k hk=>setCells_far seg _ k hk
 have hcin:∀ q,q<d.sz→c[q]? = inner[i.toNat*d.sz+q]? := by
  intro q hq
  have hq':q<c.length:=by omega
  have h6:=hcc q _ (List.getElem?_eq_getElem hq')
  rw [cell_of_row W g _ cur e (0,0) hh] at h6
  rw [List.getElem?_eq_getElem hq',← h6,← ht,List.getElem?_take,if_pos (by rw [← hn];omega),Array.getElem?_toList]
 refine ⟨⟨hok,inner.take (i.toNat*d.sz+j)++seg++inner.drop (i.toNat*d.sz+j+seg.length),⟨?_,.inr ⟨g,cap,cur',by rw [List.length_set,hn],hb,h3,by rw [List.length_set,← hn];exact hnc,hcm,by rw [h4,hcs],?_⟩⟩,?_⟩,
  ⟨s1,s2,s3,by rw [s4];exact Nat.le_refl _,fun k _ hk=>hfar k (fun he=>hk (by rw [he]))⟩⟩
 · rw [List.length_set]
   simp only [List.length_append,List.length_take,List.length_drop]
   rw [hr.1] at hseg ⊢
   omega
 · rw [List.length_set,← hn]
   apply List.ext_getElem?
   intro q
   rw [List.getElem?_take,h5]
   rw [seg_get cur.toList seg (i.toNat*d.sz+j) (by rw [Array.length_toList];omega) q,seg_get inner seg (i.toNat*d.sz+j) (by omega) q]
   have hcur:∀ q,q<n*d.sz→cur.toList[q]? = inner[q]? := by
    intro q hq
    rw [← ht,List.getElem?_take,if_pos (by rw [← hn];exact hq)]
   by_cases hq:q<n*d.sz
   · rw [if_pos hq,hcur q hq]
   · rw [if_neg hq,if_neg (by omega),if_neg (by omega),List.getElem?_eq_none (by omega)]
 · refine ⟨?_,fun m p hm => ?_⟩
   · rw [List.length_set]
     simp only [List.length_append,List.length_take,List.length_drop]
     rw [hr.1] at hseg ⊢
     omega
   · have hml:m<xs.length:=by
      have:=(List.getElem?_eq_some_iff.1 hm).1
      rwa [List.length_set] at this
     have hmfit:m*d.sz+d.sz≤inner.length:=by rw [hr.1,← Nat.succ_mul];exact Nat.mul_le_mul_right _ hml
     have hgo:some g=(Value.slice (some ⟨g,0,none⟩) n cap).ownBlock:=by simp [Value.ownBlock]
     by_cases hmi:m=i.toNat
     · subst hmi
       rw [List.getElem?_set_self (by omega)] at hm
       injection hm with hm
       subst hm
       have hcells:((inner.take (i.toNat*d.sz+j)++seg++inner.drop (i.toNat*d.sz+j+seg.length)).drop (i.toNat*d.sz)).take d.sz=c.take j++seg++c.drop (j+seg.length):=by
        apply List.ext_getElem?
        intro q
        rw [List.getElem?_take,List.getElem?_drop,seg_get inner seg _ (by omega),seg_get c seg j (by omega) q]
        by_cases hq:q<d.sz
        · rw [if_pos hq,hcin q hq]
          by_cases hq1:q<j
          · rw [if_pos (by omega),if_pos hq1]
          · rw [if_neg (by omega),if_neg hq1]
            by_cases hq2:q<j+seg.length
            · rw [if_pos (by omega),if_pos hq2]
              congr 1
              omega
            · rw [if_neg (by omega),if_neg hq2]
        · rw [if_neg hq,if_neg (by omega),if_neg (by omega),List.getElem?_eq_none (by omega)]
       rw [hcells]
       refine d.M_mono (fun k hk => ?_) (d.M_move (w1:=W.setCells g (i.toNat*d.sz+j) seg) (fun k hk=>hfar k (hokp k hk).2) hM)
       exact ⟨(hokp k hk).1,fun he=>(hokp k hk).2 (by rw [← hgo] at he;injection he)⟩
     · rw [List.getElem?_set_ne (by omega)] at hm
       have hold:=hr.2 m p hm
       have hcells:((inner.take (i.toNat*d.sz+j)++seg++inner.drop (i.toNat*d.sz+j+seg.length)).drop (m*d.sz)).take d.sz=(inner.drop (m*d.sz)).take d.sz:=by
        apply List.ext_getElem?
        intro q
        rw [List.getElem?_take,List.getElem?_take,List.getElem?_drop,List.getElem?_drop,seg_get inner seg _ (by omega)]
        by_cases hq:q<d.sz
        · rw [if_pos hq,if_pos hq]
          rcases Nat.lt_or_gt_of_ne hmi with hlt|hgt
          · have:m*d.sz+d.sz≤i.toNat*d.sz:=by rw [← Nat.succ_mul];exact Nat.mul_le_mul_right _ hlt
            rw [if_pos (by omega)]
          · have:i.toNat*d.sz+d.sz≤m*d.sz:=by rw [← Nat.succ_mul];exact Nat.mul_le_mul_right _ hgt
            rw [if_neg (by omega),if_neg (by omega)]
        · rw [if_neg hq,if_neg hq]
       rw [hcells]
       refine d.M_move (fun k hk=>hfar k (fun he=>hk.2 (by rw [he];exact hgo))) hold
end
end Kd
namespace Kd
section
variable {α : Type} {F : Kd α → Kd α} {sz : Nat} {E : List Nat} {hs : ∀ n, (upto F sz E n).sz = sz} {hE : ∀ n q, q ∈ (upto F sz E n).E → q ∈ E}
end
end Kd
namespace Kd
theorem reps_append {α:Type} {R:α→List Value→Prop} {size:Nat} {ps qs:List α} {cs ds:List Value} (h:Reps R size ps cs) (h':Reps R size qs ds):Reps R size (ps++qs) (cs++ds):=by
 refine ⟨by rw [List.length_append,List.length_append,h.1,h'.1,Nat.add_mul],fun j p hj => ?_⟩
 rcases Nat.lt_or_ge j ps.length with hlt|hge
 · rw [List.getElem?_append_left hlt] at hj
   have hle:j*size+size≤cs.length:=by rw [h.1,← Nat.succ_mul];exact Nat.mul_le_mul_right _ hlt
   rw [List.drop_append_of_le_length (by omega),List.take_append_of_le_length (by rw [List.length_drop];omega)]
   exact h.2 j p hj
 · rw [List.getElem?_append_right hge] at hj
   have h2:=h'.2 (j - ps.length) p hj
   have hle:ps.length*size≤j*size:=Nat.mul_le_mul_right _ hge
   rw [List.drop_append,List.drop_eq_nil_of_le (by rw [h.1];exact hle),List.nil_append,h.1,← Nat.sub_mul]
   exact h2
section
variable {P : Program} {ops : Array Oper} {rest : List Oper} {o : Oper} {a : Act} {Q : Exit → Act → World → Prop} {α : Type}
theorem R_append_rows (d:Kd α) {Rr:α→List Value→Prop} {w0 W:World} (base:Nat) (hgd:o.guard=none) (s x:Operand) (t e:TypeId) (z:Value) (bytes:Nat)
  (ho:o.op = .call { callee:=.builtin .append,args := #[s,x],argTypes := #[t,t] })
  (ht:P.underlying t=some (.slice e)) (hinfo:(P.info? e).map (fun i=>(i.zero,i.size,i.bytes))=some (some z,d.sz,bytes)) (hz:z.cells.size=d.sz) (hs0:0<d.sz) (hb0:0<bytes)
  (v:Value) (xs ys:List α) (A:Option Addr) (m c:Nat) (ok okp:Nat→Prop) (hs:a.eval s=v) (hx:a.eval x = .slice A m c)
  (HO:d.R e W base ok v xs) (HR:ReadsRow Rr d.sz W A m ys) (hKM:∀ x cs,Rr x cs→d.M W base okp x cs) (hokp:∀ k,okp k→ok k∧some k≠v.ownBlock) (hfresh:∀ k,W.heap.size≤k→ok k)
  (HB:Below base w0 W) (hbase:base≤W.heap.size) (hl:(xs.length+m)*bytes≤140737488355328)
  (h:∀ v1 w1,d.R e w1 base ok v1 (xs++ys)→Below base w0 w1→W.grownBy w1 v.ownBlock→(v1.ownBlock=v.ownBlock∨∃ b,v1.ownBlock=some b∧W.heap.size≤b)→wpList P ops Q rest (a.put o.dst v1) w1) :
  wpList P ops Q (o::rest) a W:=by
 obtain ⟨i0,hi,hzz⟩:=Option.map_eq_some_iff.1 hinfo
 simp only [Prod.mk.injEq] at hzz
 obtain ⟨hz0,hz1,hz2⟩:=hzz
 have hm:ys.length=m:=HR.1
 have hlen:xs.length+m≤140737488355328:=Nat.le_trans (Nat.le_mul_of_pos_right _ hb0) hl
 obtain ⟨hok,inner,hown,hr⟩:=HO
 have hrun:∃ v1 w1,(Builtin.append_ #[t,t] o.type #[v,.slice A m c]).run P W = .ok v1 w1∧d.R e w1 base ok v1 (xs++ys)∧W.grownBy w1 v.ownBlock∧(v1.ownBlock=v.ownBlock∨∃ b,v1.ownBlock=some b∧W.heap.size≤b):=by
  rcases A with _|ad
  · have h0:m=0:=by
     rcases Nat.eq_zero_or_pos m with h0|h0
     · exact h0
     · obtain ⟨ad,h,_⟩:=HR.2.2 h0
       cases h
    subst h0
    obtain rfl:ys=[]:=List.eq_nil_of_length_eq_zero hm
    refine ⟨v,W,?_,by rw [List.append_nil];exact ⟨hok,inner,hown,hr⟩,World.grownBy.refl W _,.inl rfl⟩
    rcases hown.2 with ⟨rfl,hn⟩|⟨g,cap,cur,rfl,_,_,hnc,_⟩
    · simp [Builtin.append_,run_underlying ht,sizeOf,typeInfo,hi,Builtin.lenOf,Builtin.firstCells]
    · simp [Builtin.append_,run_underlying ht,sizeOf,typeInfo,hi,Builtin.lenOf,Builtin.firstCells,hnc,storeCells]
  · obtain ⟨news,hnr,hnc⟩:=ReadsRow.inner_ HR
    have hnM:Reps (d.M W base okp) d.sz ys news:=hnr.imp_ (fun p c hp=>hKM p c hp)
    have hone:∀ u∈news,u.oneCell'=true:=by
     intro u hu
     obtain ⟨q,hq,rfl⟩:=List.mem_iff_getElem.1 hu
     have hql:q / d.sz<ys.length:=by
      rw [Nat.div_lt_iff_lt_mul hs0]
      rw [← hnM.1]
      exact hq
     have hc:=hnM.2 (q / d.sz) _ (List.getElem?_eq_getElem hql)
     refine d.K_one (d.K_of_M hc) _ ?_
     rw [List.mem_iff_getElem?]
     refine ⟨q % d.sz,?_⟩
     rw [List.getElem?_take,if_pos (Nat.mod_lt _ hs0),List.getElem?_drop,Nat.mul_comm,Nat.div_add_mod,List.getElem?_eq_getElem hq]
    obtain ⟨v1,w1,hrun,h2,hg,_,hat⟩:=run_append_own_at (P:=P) W base t o.type e i0 z d.sz bytes ht hi hz0 hz1 hz2 hz hs0 v xs.length inner hown ad m c news (by rw [hnM.1,hm]) hnc hone (by simp only [maxLen];omega) hl hbase
    have hat':v1.ownBlock=v.ownBlock∨∃ b,v1.ownBlock=some b∧W.heap.size≤b:=by
     rcases hat with hat|hat
     · exact .inl hat
     · exact .inr ⟨_,hat,Nat.le_refl _⟩
    have hne:∀ k,some k≠v.ownBlock→k<W.heap.size→some k≠v1.ownBlock:=by
     intro k hk hlt
     rcases hat' with hat|⟨b,hb,hle⟩
     · rw [hat];exact hk
     · rw [hb]
       intro he
       injection he with he
       omega
    have step:∀ {q:α} {c:List Value} {o:Nat→Prop},d.M W base o q c→(∀ k,o k→ok k∧some k≠v.ownBlock)→d.M w1 base (fun k=>ok k∧some k≠v1.ownBlock) q c:=by
     intro q c o hq ho
     have h1:=d.M_move (w1:=w1) (fun k hk=>hg.block k hk.2.2.1 (ho k hk.1).2) (d.M_bound hq)
     exact d.M_mono (fun k hk=>⟨(ho k hk.1).1,hne k (ho k hk.1).2 hk.2.2.1⟩) h1
    refine ⟨v1,w1,hrun,⟨fun k hk => ?_,inner++news,by rw [List.length_append,hm];exact h2,reps_append (hr.imp_ (fun _ _ hq=>step hq (fun _ hk=>hk))) (hnM.imp_ (fun _ _ hq=>step hq hokp))⟩,hg,hat'⟩
    rcases hat' with hat|⟨b,hb,hle⟩
    · exact hok k (hat ▸ hk)
    · rw [hb] at hk
      injection hk with hk
      exact hfresh k (by omega)
 obtain ⟨v1,w1,hr1,h1,hg,hat⟩:=hrun
 refine wpList_plain hgd fun K hK => ?_
 unfold Oper.wp execOp
 simp only [ho,resolve,invoke,builtin,Sem.run_bind,Sem.run_pure,Result.andThen_ok,List.map_toArray,List.map_cons,List.map_nil,hs,hx,hr1]
 exact hK _ _ (h v1 w1 h1 (HB.grown hg hbase (own_base hown)) hg hat)
end
end Kd
namespace Kd
section
variable {P : Program} {ops : Array Oper} {rest : List Oper} {o : Oper} {a : Act} {Q : Exit → Act → World → Prop} {α : Type}
end
end Kd
namespace Kd
section
variable {α : Type} {k : Kd α} {w : World} {A : Option Addr} {xs : List α} {m c : Nat}
end
end Kd
section
variable {P : Program}
end
theorem below_size {w W:World} (h:Below w.heap.size w W):w.heap.size≤W.heap.size:=h.size
theorem below_step {w W w2:World} (h:Below w.heap.size w W) (k:Below W.heap.size W w2):Below w.heap.size w w2:=below_then h h.size k
theorem below_set {w W:World} {g j:Nat} {v:Value} (h:Below w.heap.size w W) (hg:w.heap.size≤g):Below w.heap.size w (W.setCell ⟨g,j,none⟩ v):=h.setCell hg _
theorem keep_drewN {w W:World} {g:Nat} {row:Option Nat} (h:KeepBut w W g row) (m:Nat):KeepBut w (W.drewN m) g row:=h
theorem add_block (a:Addr) (i:Nat):(a.add i).block=a.block:=by unfold Addr.add;split<;>rfl
theorem blk_put {w:World} {g:Nat} {t:TypeId} {cs cs':Array Value} (h:w.heap[g]? = some (.cells cs t (0,0))) (i:Nat) (u:Value) (e:cs.setIfInBounds i u=cs'):(w.setCell ⟨g,i,none⟩ u).heap[g]? = some (.cells cs' t (0,0)):=e ▸ blk_set h i u
theorem below_drew1 {base:Nat} {w W:World} (h:Below base w W):Below base w W.drew:=h.drew
namespace Kd
section
variable {α β : Type} {d : Kd α} {d' : Kd β} {e e' base base' n : Nat} {ok ok' : Nat → Prop} {w W w1 W1 : World} {v u : Value} {xs : List α} {ys : List β} {A : Option Addr} {c : Nat}
end
section
variable {α : Type} {enc : α → Value} {h1 : ∀ x, (enc x).oneCell' = true} {w W : World} {A : Option Addr} {n g : Nat} {xs : List α}
end
end Kd
namespace Kd
section
variable {α : Type} {d : Kd α} {e base g : Nat} {ok : Nat → Prop} {w w1 : World} {v : Value} {xs : List α} {o : Obj}
theorem freshB (hb:w.heap[g]? = some o):∀ k,w.heap.size≤k→k≠g:=fun k hk=>by have:=blk_lt hb;omega
end
end Kd
section
variable {P : Program} {ops : Array Oper} {rest : List Oper} {o : Oper} {a : Act} {Q : Exit → Act → World → Prop}
theorem box_event {W:World} (hgd:o.guard=none) {N:Tmp} (_hd:o.dst=some N) {cs:Array Value} {t:TypeId}
  (hrun:(execOp a.eval o).run P W = .ok (.value (.pointer (some ⟨W.heap.size,0,none⟩))) (W.alloc (.cells cs t (0,0))))
  (h:∀ g,g=W.heap.size→∀ w1,w1.heap[g]? = some (.cells cs t (0,0))→Below W.heap.size W w1→wpList P ops Q rest (a.put o.dst (.pointer (some ⟨g,0,none⟩))) w1):wpList P ops Q (o::rest) a W :=
 Kd.event_run hgd hrun (h _ rfl _ (blk_new W _) (below_alloc (Below.refl _ _) _))
end
namespace Kd
section
variable {α : Type} {enc : α → Value} {h1 : ∀ x, (enc x).oneCell' = true} {e base g n cap : Nat} {ok : Nat → Prop} {W : World} {xs : List α}
end
end Kd
section
variable {P : Program} {ops : Array Oper} {rest : List Oper} {o : Oper} {a : Act} {Q : Exit → Act → World → Prop}
theorem store_event {W w1:World} (hgd:o.guard=none) {t:TypeId} {p:Tmp} {v:Operand} (_ho:o.op = .store t (.tmp p) v) (hN:o.dst=none)
  (hrun:(execOp a.eval o).run P W = .ok .skip w1) (h:∀ w',w'=w1→wpList P ops Q rest a w'):wpList P ops Q (o::rest) a W:=by
 refine wpList_plain hgd fun K hK => ?_
 unfold Oper.wp
 rw [hrun]
 show K (a.put o.dst undef) w1
 rw [hN]
 exact hK _ _ (h _ rfl)
end
namespace Kd
section
variable {α : Type} {enc : α → Value} {h1 : ∀ x, (enc x).oneCell' = true} {e base g n cap : Nat} {ok : Nat → Prop} {W : World} {xs : List α}
end
end Kd
section
variable {P : Program} {ops : Array Oper} {rest : List Oper} {o : Oper} {a : Act} {Q : Exit → Act → World → Prop} {W : World}
theorem gate_dst {N:Tmp} (_hN:o.dst=some N) (h:wpList P ops Q (o::rest) a W):wpList P ops Q (o::rest) a W:=h
theorem gate_store {t:TypeId} {p:Tmp} {v:Operand} (_ho:o.op = .store t (.tmp p) v) (h:wpList P ops Q (o::rest) a W):wpList P ops Q (o::rest) a W:=h
end
section
variable {P : Program} {ops : Array Oper} {o : Oper} {a : Act} {Q : Exit → Act → World → Prop} {Kc : Act → World → Prop}
namespace Kd
variable {α : Type}
end Kd
end
section
variable {P : Program} {tmps : Array Value} {w : World}
end
namespace Kd
section
variable {P : Program} {α : Type}
end
section
variable {P : Program} {ops : Array Oper} {rest : List Oper} {o : Oper} {a : Act} {Q : Exit → Act → World → Prop} {Kc : Act → World → Prop} {α : Type}
end
end Kd
end Go.Proofs.YtcecjoaeolglbaaGreatDoorW.PrintWords
end

section
namespace Go.Proofs.YtcecjoaeolglbaaGreatDoorW.PrintLast
section
variable {P : Program} {ops : Array Oper} {Q : Exit → Act → World → Prop} {md : Region.Mode} {S : World → Prop} {ds : List Nat}
end
section
variable {P : Program} {ops : Array Oper} {Q : Exit → Act → World → Prop} {md : Region.Mode} {S : World → Prop} {ds : List Nat}
theorem enters_ {f:FuncId} {fn:Func} (hf:P.funcs[f]? = some fn) (hname:(fn.name == "runtime.NumGoroutine")=false) (hb:fn.body.isSome=true) (args:Array Value) (w:World):(callFunc f args).run P w = .ok (.enter f args) w:=by
 have h1:fn.name ≠ "runtime.NumGoroutine" := by simpa using hname
 obtain ⟨c,hc⟩:=Option.isSome_iff_exists.1 hb
 simp [callFunc,hf,h1,hc]
theorem goesL_ {rest:List Oper} {oi:Oper} {a:Act} {w:World} (N:Option Tmp) (hd:oi.dst=N) (hg:oi.guard=none) {f:FuncId} {fn:Func} {as_:Array Operand} {ts:Array TypeId} (hf:P.funcs[f]? = some fn) (hname:(fn.name == "runtime.NumGoroutine")=false) (hb:fn.body.isSome=true) (args:Array Value)
  (hop:oi.op = .call { callee:=.value (.func f),args:=as_,argTypes:=ts }) (hargs:as_.map a.eval=args)
  (h:Calls P f args w fun e w' => ∃ v,e = .returned v∧wpList P ops Q rest (a.put N v) w'):wpList P ops Q (oi::rest) a w:=by
 refine wpList_plain hg fun K hK => ?_
 have he:=enters_ hf hname hb args w
 have hrun:(execOp a.eval oi).run P w = .ok (.enter f args) w:=by
  unfold execOp
  simp [hop,resolve,Deferred.ofValue,invoke,Act.eval,hargs,he]
 unfold Oper.wp
 rw [hrun,Oper.upon_enter]
 refine h.mono fun e w'' hh => ?_
 obtain ⟨v,rfl,hk⟩:=hh
 subst hd
 exact hK _ _ hk
theorem i64_w (n:Int):IntKind.i64.wrap n=Go.RowKit.wrap64 n:=by unfold Go.RowKit.wrap64;exact IntKind.wrap_i64 n
theorem i32_w (n:Int):IntKind.i32.wrap n=Go.RowKit.wrap32 n:=by unfold Go.RowKit.wrap32;exact IntKind.wrap_i32 n
end
end Go.Proofs.YtcecjoaeolglbaaGreatDoorW.PrintLast
end

section
namespace Go.Proofs.YtcecjoaeolglbaaGreatDoorW.PrintWords
open Go.RowKit
namespace Kd
def tag {α:Type} (f:Nat→Nat) (d:Kd α):Kd (α×Nat) where
 sz:=d.sz
 E:=d.E
 K:=fun w x cs=>d.K w x.1 cs
 M:=fun w base ok x cs=>d.M w base (fun k=>ok k∧f k=x.2) x.1 cs
 K_len:=fun h=>d.K_len h
 K_one:=fun h=>d.K_one h
 K_below:=fun hb h=>d.K_below hb h
 K_of_M:=fun h=>d.K_of_M h
 M_mono:=fun hok h=>d.M_mono (fun k hk=>⟨hok k hk.1,hk.2⟩) h
 M_bound:=fun h=>d.M_mono (fun _ hk=>⟨⟨hk.1.1,hk.2⟩,hk.1.2⟩) (d.M_bound h)
 M_move:=fun hm h=>d.M_move (fun k hk=>hm k hk.1) h
 M_lower:=fun hb h=>d.M_lower hb h
def raw (sz:Nat):Kd (List Value) where
 sz:=sz
 E:=[]
 K:=fun _ x cs=>cs=x∧cs.length=sz∧∀ u∈cs,u.oneCell'=true
 M:=fun _ _ _ x cs=>cs=x∧cs.length=sz∧∀ u∈cs,u.oneCell'=true
 K_len:=fun h=>h.2.1
 K_one:=fun h=>h.2.2
 K_below:=fun _ h=>h
 K_of_M:=fun h=>h
 M_mono:=fun _ h=>h
 M_bound:=fun h=>h
 M_move:=fun _ h=>h
 M_lower:=fun _ h=>h
def S {α:Type} (d:Kd α) (e:Nat) (w:World) (base:Nat) (ok:Nat→Prop) (v:Value) (xs:List α):Prop := ∃ f,(tag f d).R e w base ok v xs.zipIdx
section
variable {α β : Type} {d : Kd α} {d' : Kd β} {e e' : Nat} {w w1 W : World} {base b : Nat} {ok ok' okv oku : Nat → Prop} {u v : Value} {xs : List α} {ys : List β}
theorem zip_at {xs:List α} {j:Nat} {p:α} (h:xs[j]? = some p):xs.zipIdx[j]? = some (p,j):=by rw [List.getElem?_zipIdx,h,Nat.zero_add];rfl
theorem S_R (h:S d e w base ok v xs):d.R e w base ok v xs:=by
 obtain ⟨f,h0,inner,ho,hr⟩:=h
 rw [List.length_zipIdx] at ho
 exact ⟨h0,inner,ho,by have:=hr.1;rw [List.length_zipIdx] at this;exact this,fun j p hj=>d.M_mono (fun _ hk=>hk.1) (hr.2 j (p,j) (zip_at hj))⟩
theorem R_tight (hE:d.E=[]) (h:d.R e w base ok v xs):d.R e w base (fun k=>some k=v.ownBlock) v xs:=by
 obtain ⟨h0,inner,ho,hr⟩:=h
 refine ⟨fun k hk=>hk.symm,inner,ho,hr.imp_ (fun p c hp=>d.M_mono (fun k hk => ?_) (d.M_bound hp))⟩
 obtain ⟨_,_,_,q,hq,_⟩:=hk
 rw [hE] at hq
 cases hq
theorem S_nil (d:Kd α) (e:Nat) (w:World) (base:Nat) (ok:Nat→Prop):S d e w base ok (.slice none 0 0) []:=⟨fun _=>0,R_nil _ _ _ _ _⟩
theorem S_mono (h:S d e w base ok v xs) (hok:∀ k,ok k→ok' k):S d e w base ok' v xs:=by
 obtain ⟨f,h⟩:=h
 exact ⟨f,R_mono h hok⟩
theorem S_bound (h:S d e w base ok v xs):S d e w base (fun k=>ok k∧base≤k∧k<w.heap.size∧∃ q,q∈e::d.E∧∃ cells,w.heap[k]? = some (.cells cells q (0,0))) v xs:=by
 obtain ⟨f,h⟩:=h
 exact ⟨f,R_bound h⟩
theorem S_move (h:S d e w base ok v xs) (hm:∀ k,ok k→w1.heap[k]? = w.heap[k]?):S d e w1 base ok v xs:=by
 obtain ⟨f,h⟩:=h
 exact ⟨f,R_move h hm⟩
theorem S_step (h:S d e w base ok v xs) (hm:∀ k,ok k→k<w.heap.size→w1.heap[k]? = w.heap[k]?):S d e w1 base ok v xs :=
 S_mono (S_move (S_bound h) (fun k hk=>hm k hk.1 hk.2.2.1)) (fun _ hk=>hk.1)
theorem S_below (h:S d e w base ok v xs) (hb:Below w.heap.size w w1):S d e w1 base ok v xs:=S_step h (fun k _ hk=>hb.block k hk)
theorem S_alloc (h:S d e w base ok v xs) (o:Obj):S d e (w.alloc o) base ok v xs:=S_below h (below_alloc (Below.refl _ _) o)
theorem S_drew (h:S d e w base ok v xs):S d e w.drew base ok v xs:=S_below h (below_drew (Below.refl _ _))
theorem S_drewN (h:S d e w base ok v xs) (m:Nat):S d e (w.drewN m) base ok v xs:=S_below h (pw_below_drewN (Below.refl _ _) m)
theorem S_far (h:S d e w base ok v xs) {p:Addr} (hok:∀ k,ok k→k≠p.block) (u:Value):S d e (w.setCell p u) base ok v xs:=S_step h (fun k ho _=>Below.heap_setCell w p u k (hok k ho))
theorem S_typed (h:S d e w base ok v xs):∀ k,v.ownBlock=some k→∃ cells,w.heap[k]? = some (.cells cells e (0,0)):=R_typed (S_R h)
theorem S_elder' (h:S d e W base ok u xs) (hbase:∀ k,v.ownBlock=some k→W.heap.size≤k) (hb:Below W.heap.size W w1):S d e w1 base (fun k=>ok k∧some k≠v.ownBlock) u xs:=by
 obtain ⟨f,h⟩:=h
 exact ⟨f,R_elder' h hbase hb⟩
theorem R_tag {f f':Nat→Nat} {zs:List (α×Nat)} (h:(tag f d).R e w base ok v zs) (hf:∀ k,ok k→k<w.heap.size→f' k=f k):(tag f' d).R e w base ok v zs:=by
 obtain ⟨h0,inner,ho,hr⟩:=R_bound h
 exact ⟨fun k hk=>(h0 k hk).1,inner,ho,hr.1,fun j p hj=>d.M_mono (fun k hk=>⟨⟨hk.1.1.1,hk.1.2⟩,(hf k hk.1.1.1 hk.1.1.2.2.1).trans hk.2⟩) (hr.2 j p hj)⟩
end
section
variable {α β : Type} {d : Kd α} {d' : Kd β} {e e' g : Nat} {w w1 W : World} {base b : Nat} {ok ok' okv oku : Nat → Prop} {u v : Value} {xs : List α} {ys : List β}
theorem S_away (h:S d e w base ok v xs) (hok:∀ k,ok k→k≠g):some g≠v.ownBlock:=R_away (S_R h) hok
theorem S_elderB (h:S d e w base ok v xs) (a:Nat) (ha:w.heap.size≤a):S d e w base (fun k=>ok k∧k≠a) v xs:=S_mono (S_bound h) (fun k hk=>⟨hk.1,by have:=hk.2.2.1;omega⟩)
theorem zip_snoc (xs:List α) (p:α):(xs++[p]).zipIdx=xs.zipIdx++[(p,xs.length)]:=by rw [List.zipIdx_append];simp
end
section
open Classical in
theorem S_tag {α:Type} {d:Kd α} {e base:Nat} {okv:Nat→Prop} {w:World} {v:Value} {xs:List α} (h:S d e w base okv v xs) (m:Nat) (okp:Nat→Prop) (hap:∀ k,okp k→¬ okv k):∃ f,(∀ k,okp k→f k=m)∧(tag f d).R e w base okv v xs.zipIdx:=by
 obtain ⟨f,h⟩:=h
 exact ⟨fun k=>if okp k then m else f k,fun k hk=>if_pos hk,R_tag h (fun k hk _=>if_neg (fun h2=>hap k h2 hk))⟩
variable {P : Program} {ops : Array Oper} {rest : List Oper} {o : Oper} {a : Act} {Q : Exit → Act → World → Prop} {Kc : Act → World → Prop} {α : Type}
theorem S_append (d:Kd α) {w0 W:World} (base:Nat) (hgd:o.guard=none) (s x:Operand) (t e:TypeId) (z:Value) (bytes:Nat)
  (ho:o.op = .call { callee:=.builtin .append,args := #[s,x],argTypes := #[t,t] })
  (ht:P.underlying t=some (.slice e)) (hinfo:(P.info? e).map (fun i=>(i.zero,i.size,i.bytes))=some (some z,d.sz,bytes)) (hz:z.cells.size=d.sz) (hs0:0<d.sz) (hb0:0<bytes)
  (v:Value) (xs:List α) (p:α) (cs:List Value) (ok okp:Nat→Prop) (hs:a.eval s=v) (hx:a.eval x = .slice (some ⟨W.heap.size,0,none⟩) 1 1) (hp:d.M W base okp p cs) (hokp:∀ k,okp k→ok k∧some k≠v.ownBlock) (hfresh:∀ k,W.heap.size≤k→ok k)
  (HO:S d e W base (fun k=>ok k∧¬ okp k) v xs) (HB:Below base w0 W) (hbase:base≤W.heap.size) (hl:(xs.length+1)*bytes≤140737488355328)
  (h:∀ v1 w1,S d e w1 base ok v1 (xs++[p])→Below base w0 w1→W.grownBy w1 v.ownBlock→(v1.ownBlock=v.ownBlock∨∃ b,v1.ownBlock=some b∧W.heap.size≤b)→wpList P ops Q rest (a.put o.dst v1) w1) :
  wpList P ops Q (o::rest) a (W.alloc (.cells cs.toArray e)):=by
 obtain ⟨f,hf,hR⟩:=S_tag HO xs.length okp (fun _ hk h2=>h2.2 hk)
 refine R_append (tag f d) base hgd s x t e z bytes ho ht hinfo hz hs0 hb0 v xs.zipIdx (p,xs.length) cs ok okp hs hx (d.M_mono (fun k hk=>⟨hk,hf k hk⟩) hp) hokp hfresh (R_mono hR (fun _ hk=>hk.1)) HB hbase (by rw [List.length_zipIdx];exact hl) ?_
 intro v1 w1 hr
 rw [← zip_snoc] at hr
 exact h v1 w1 ⟨f,hr⟩
end
section
variable {α β : Type} {d : Kd α} {e e' g n cap : Nat} {w w1 W : World} {base : Nat} {ok ok' oki okp : Nat → Prop} {u v : Value} {xs : List α} {i : Int} {c : List Value}
end
section
variable {P : Program} {ops : Array Oper} {rest : List Oper} {o : Oper} {a : Act} {Q : Exit → Act → World → Prop} {α : Type}
end
end Kd
end Go.Proofs.YtcecjoaeolglbaaGreatDoorW.PrintWords
end

section
namespace Go.Proofs.YtcecjoaeolglbaaGreatDoorW.PrintWords
open Go.RowKit
def Foot (P:World→Prop) (W:World) (ok:Nat→Prop):Prop := ∀ W':World,(∀ k,ok k→k<W.heap.size→W'.heap[k]? = W.heap[k]?)→P W'
theorem heap_lt {W W1:World} {k:Nat} (h:W1.heap[k]? = W.heap[k]?) (hlt:k<W.heap.size):k<W1.heap.size:=by
 rw [Array.getElem?_eq_getElem hlt] at h
 exact (Array.getElem?_eq_some_iff.1 h).1
namespace Foot
variable {P Q : World → Prop} {W W1 : World} {ok ok' : Nat → Prop}
theorem now (h:Foot P W ok):P W:=h W (fun _ _ _=>rfl)
theorem mono (h:Foot P W ok) (hok:∀ k,ok k→ok' k):Foot P W ok':=fun W' hW=>h W' (fun k hk hlt=>hW k (hok k hk) hlt)
theorem bound (h:Foot P W ok):Foot P W (fun k=>ok k∧k<W.heap.size):=fun W' hW=>h W' (fun k hk hlt=>hW k ⟨hk,hlt⟩ hlt)
theorem step (h:Foot P W ok) (hm:∀ k,ok k→k<W.heap.size→W1.heap[k]? = W.heap[k]?):Foot P W1 ok:=fun W' hW=>h W' (fun k hk hlt=>(hW k hk (heap_lt (hm k hk hlt) hlt)).trans (hm k hk hlt))
end Foot
namespace Kd
def F {α:Type} (d:Kd α) (W:World) (ok:Nat→Prop) (A:Option Addr) (n:Nat) (xs:List α):Prop:=Foot (fun W=>d.C W A n xs) W ok
def FK {α:Type} (d:Kd α) (W:World) (ok:Nat→Prop) (x:α) (c:List Value):Prop:=Foot (fun W=>d.K W x c) W ok
section
variable {α β : Type} {d : Kd α} {e base n n' cc g N : Nat} {ok ok' okp S : Nat → Prop} {w w0 w1 W W1 : World} {A A' : Option Addr} {u v v1 : Value} {xs : List α} {xs' : List β} {d' : Kd β} {x : α} {c : List Value}
theorem F_now (h:F d W ok A n xs):d.C W A n xs:=Foot.now h
theorem F_mono (h:F d W ok A n xs) (hok:∀ k,ok k→ok' k):F d W ok' A n xs:=Foot.mono h hok
theorem F_bound (h:F d W ok A n xs):F d W (fun k=>ok k∧k<W.heap.size) A n xs:=Foot.bound h
theorem F_step (h:F d W ok A n xs) (hm:∀ k,ok k→k<W.heap.size→W1.heap[k]? = W.heap[k]?):F d W1 ok A n xs:=Foot.step h hm
theorem F_below (h:F d W ok A n xs) (hb:Below W.heap.size W W1):F d W1 ok A n xs:=F_step h (fun k _ hlt=>hb.block k hlt)
theorem F_alloc (h:F d W ok A n xs) (o:Obj):F d (W.alloc o) ok A n xs:=F_below h (below_alloc (Below.refl _ _) o)
theorem F_drew (h:F d W ok A n xs):F d W.drew ok A n xs:=F_below h (below_drew (Below.refl _ _))
theorem F_drewN (h:F d W ok A n xs) (m:Nat):F d (W.drewN m) ok A n xs:=F_below h (pw_below_drewN (Below.refl _ _) m)
theorem F_grown (h:F d W ok A n xs) {row:Option Nat} (hg:W.grownBy W1 row) (hok:∀ k,ok k→some k≠row):F d W1 ok A n xs:=F_step h (fun k hk hlt=>hg.block k hlt (hok k hk))
theorem R_F (h:d.R e W base ok (.slice A n cc) xs):F d W ok A n xs:=fun W' hW=>by
 have h2:=R_reads' (R_step h hW)
 rw [h2.1]
 exact h2.2.2
theorem FK_now (h:FK d W ok x c):d.K W x c:=Foot.now h
theorem FK_mono (h:FK d W ok x c) (hok:∀ k,ok k→ok' k):FK d W ok' x c:=Foot.mono h hok
theorem FK_bound (h:FK d W ok x c):FK d W (fun k=>ok k∧k<W.heap.size) x c:=Foot.bound h
theorem FK_step (h:FK d W ok x c) (hm:∀ k,ok k→k<W.heap.size→W1.heap[k]? = W.heap[k]?):FK d W1 ok x c:=Foot.step h hm
theorem FK_of_M (h:d.M W base ok x c):FK d W ok x c:=fun _ hW=>d.K_of_M (M_step h hW)
theorem emptied (W:World) (g:Nat):∃ W':World,(∀ k,k≠g→W'.heap[k]? = W.heap[k]?)∧∀ a:Addr,a.block=g→W'.cell? a=none:=by
 refine ⟨{ W with heap:=W.heap.setIfInBounds g (.cells #[] 0) },fun k hk=>by simp [Ne.symm hk],fun a ha => ?_⟩
 subst ha
 by_cases hlt:a.block<W.heap.size
 · simp [World.cell?,hlt]
 · simp [World.cell?,hlt]
end
end Kd
end Go.Proofs.YtcecjoaeolglbaaGreatDoorW.PrintWords
end

section
namespace Go.Proofs.YtcecjoaeolglbaaGreatDoorW.PrintWords
open Go.RowKit
namespace Kd
def chunks (sz:Nat) (n:Nat) (inner:List Value):List (List Value):=(List.range n).map fun j=>(inner.drop (j*sz)).take sz
theorem chunks_length (sz n:Nat) (inner:List Value):(chunks sz n inner).length=n:=by simp [chunks]
theorem chunks_at {sz n:Nat} {inner:List Value} {j:Nat} (hj:j<n):(chunks sz n inner)[j]? = some ((inner.drop (j*sz)).take sz):=by simp [chunks,hj]
theorem chunks_get {sz n:Nat} {inner:List Value} {j:Nat} {c:List Value} (h:(chunks sz n inner)[j]? = some c):c=(inner.drop (j*sz)).take sz:=by
 have hj:j<n:=by have:=(List.getElem?_eq_some_iff.1 h).1;rwa [chunks_length] at this
 rw [chunks_at hj] at h
 injection h with h
 exact h.symm
theorem reps_raw {α:Type} {Rr:α→List Value→Prop} {sz:Nat} {xs:List α} {inner:List Value} (h:Reps Rr sz xs inner) (hR:∀ x c,Rr x c→c.length=sz∧∀ u∈c,u.oneCell'=true):Reps (fun x cs=>cs=x∧cs.length=sz∧∀ u∈cs,u.oneCell'=true) sz (chunks sz xs.length inner) inner:=by
 refine ⟨by rw [chunks_length];exact h.1,fun j p hj => ?_⟩
 have hjl:j<xs.length:=by have:=(List.getElem?_eq_some_iff.1 hj).1;rwa [chunks_length] at this
 have hp:=chunks_get hj
 exact ⟨hp.symm,hR _ _ (h.2 j _ (List.getElem?_eq_getElem hjl))⟩
section
variable {α : Type} {d : Kd α} {e base n cc g : Nat} {ok ok' okp S : Nat → Prop} {w w1 W W1 : World} {A : Option Addr} {u v v1 : Value} {xs : List α} {x : α} {c : List Value}
theorem F_get (h:F d W ok A n xs) (z:α) (i:Int) (h0:0≤i) (h1:i<n) :
  ∃ ad c,A=some ad∧c.length=d.sz∧FK d W ok (xs.getD i.toNat z) c∧(∀ j u,c[j]? = some u→W.cell? (ad.add (i.toNat*d.sz+j))=some u)∧(0<d.sz→ok ad.block):=by
 obtain ⟨ad,c,rfl,hcl,hK,hcc⟩:=C_get (F_now h) z i h0 h1
 have hin:0<d.sz→ok ad.block:=by
  intro hs
  by_cases hk:ok ad.block
  · exact hk
  · obtain ⟨W',h2,h3⟩:=emptied W ad.block
    obtain ⟨ad',c',he,hcl',_,hcc'⟩:=C_get (h W' (fun k hk' _=>h2 k (fun e=>hk (e ▸ hk')))) z i h0 h1
    injection he with he
    subst he
    have h4:=hcc' 0 _ (List.getElem?_eq_getElem (by omega))
    rw [h3 _ (add_block _ _)] at h4
    cases h4
 refine ⟨ad,c,rfl,hcl,fun W' hW => ?_,hcc,hin⟩
 obtain ⟨ad',c',he,hcl',hK',hcc'⟩:=C_get (h W' hW) z i h0 h1
 injection he with he
 subst he
 have hc:c=c':=by
  apply List.ext_getElem?
  intro j
  by_cases hj:j<d.sz
  · have hb:W'.heap[ad.block]? = W.heap[ad.block]? := by
     have h5:=hcc j _ (List.getElem?_eq_getElem (by omega))
     have h6:=World.block_lt_of_cell? W _ h5
     rw [add_block] at h6
     exact hW _ (hin (by omega)) h6
    have h5:=hcc j _ (List.getElem?_eq_getElem (by omega))
    have h6:=hcc' j _ (List.getElem?_eq_getElem (by omega))
    have h7:W'.cell? (ad.add (i.toNat*d.sz+j))=W.cell? (ad.add (i.toNat*d.sz+j)):=by simp [World.cell?,add_block,hb]
    rw [h7,h5] at h6
    rw [List.getElem?_eq_getElem (by omega),List.getElem?_eq_getElem (by omega)]
    exact h6
  · rw [List.getElem?_eq_none (by omega),List.getElem?_eq_none (by omega)]
 rw [hc]
 exact hK'
theorem F_rows (h:F d W ok A n xs):ReadsRow (fun x c=>FK d W ok x c) d.sz W A n xs:=by
 obtain ⟨hl,hm,hn⟩:=F_now h
 refine ⟨hl,hm,fun hp => ?_⟩
 obtain ⟨ad,rfl,_⟩:=hn hp
 refine ⟨ad,rfl,fun j p hj => ?_⟩
 obtain ⟨hjl,hjp⟩:=List.getElem?_eq_some_iff.1 hj
 obtain ⟨ad',c,he,hcl,hK,hcc,_⟩:=F_get h p (j:Int) (by omega) (by omega)
 injection he with he
 subst he
 simp only [Int.toNat_natCast] at hK hcc
 rw [List.getD_eq_getElem?_getD,hj] at hK
 exact ⟨c,hcl,hK,hcc⟩
def N {α:Type} (d:Kd α) (e:Nat) (w:World) (base:Nat) (ok:Nat→Prop) (v:Value) (xs:List α):Prop :=
 (∀ k,v.ownBlock=some k→ok k)∧∃ rows:List (List Value),rows.length=xs.length∧(raw d.sz).R e w base (fun k=>some k=v.ownBlock) v rows∧∀ (j:Nat) (x:α) (c:List Value),xs[j]? = some x→rows[j]? = some c→FK d w (fun k=>ok k∧some k≠v.ownBlock) x c
theorem raw_tight {sz:Nat} {rows:List (List Value)} (h:(raw sz).R e w base ok v rows):(raw sz).R e w base (fun k=>some k=v.ownBlock) v rows:=R_tight rfl h
theorem raw_any {sz:Nat} {rows:List (List Value)} (h:(raw sz).R e w base ok v rows):(raw sz).R e w base (fun _=>True) v rows:=R_mono h (fun _ _=>trivial)
theorem R_N (h:d.R e w base ok v xs):N d e w base ok v xs:=by
 obtain ⟨h0,inner,ho,hr⟩:=h
 refine ⟨h0,chunks d.sz xs.length inner,chunks_length _ _ _,⟨fun k hk=>hk.symm,inner,by rw [chunks_length];exact ho,reps_raw hr (fun x c hp=>⟨d.K_len (d.K_of_M hp),d.K_one (d.K_of_M hp)⟩)⟩,fun j x c hx hc => ?_⟩
 rw [chunks_get hc]
 exact FK_of_M (hr.2 j x hx)
theorem N_nil (d:Kd α) (e:Nat) (w:World) (base:Nat) (ok:Nat→Prop):N d e w base ok (.slice none 0 0) []:=R_N (R_nil _ _ _ _ _)
theorem N_lt (h:N d e w base ok v xs):∀ k,v.ownBlock=some k→k<w.heap.size:=by
 obtain ⟨_,rows,_,hR,_⟩:=h
 exact R_lt hR
theorem N_base (h:N d e w base ok v xs):∀ k,v.ownBlock=some k→base≤k:=by
 obtain ⟨_,rows,_,hR,_⟩:=h
 exact R_base hR
theorem N_step (h:N d e w base ok v xs) (hm:∀ k,ok k→k<w.heap.size→w1.heap[k]? = w.heap[k]?):N d e w1 base ok v xs:=by
 obtain ⟨h0,rows,hl,hR,hf⟩:=h
 exact ⟨h0,rows,hl,R_step hR (fun k hk hlt=>hm k (h0 k hk.symm) hlt),fun j x c hx hc=>FK_step (hf j x c hx hc) (fun k hk hlt=>hm k hk.1 hlt)⟩
theorem N_below (h:N d e w base ok v xs) (hb:Below w.heap.size w w1):N d e w1 base ok v xs:=N_step h (fun k _ hk=>hb.block k hk)
theorem N_alloc (h:N d e w base ok v xs) (o:Obj):N d e (w.alloc o) base ok v xs:=N_below h (below_alloc (Below.refl _ _) o)
theorem N_drew (h:N d e w base ok v xs):N d e w.drew base ok v xs:=N_below h (below_drew (Below.refl _ _))
theorem N_slice (h:N d e w base ok v xs):∃ A c,v = .slice A xs.length c:=by
 obtain ⟨_,rows,hl,hR,_⟩:=h
 obtain ⟨A,c,he⟩:=R_slice hR
 exact ⟨A,c,by rw [he,hl]⟩
theorem N_form (h:N d e w base ok v xs) (hp:0<xs.length):∃ g cap,v = .slice (some ⟨g,0,none⟩) xs.length cap∧base≤g∧g<w.heap.size∧∃ cells,w.heap[g]? = some (.cells cells e (0,0)):=by
 obtain ⟨_,rows,hl,hR,_⟩:=h
 rw [← hl] at hp ⊢
 exact R_form hR hp
theorem N_reads' {n c:Nat} (h:N d e w base ok (.slice A n c) xs):n=xs.length∧n≤c∧d.C w A xs.length xs:=by
 obtain ⟨_,rows,hl,hR,hf⟩:=h
 obtain ⟨hn,hc,hC⟩:=R_reads' hR
 refine ⟨by omega,hc,?_⟩
 rw [hl] at hC
 refine ⟨rfl,hC.2.1,fun hp => ?_⟩
 obtain ⟨ad,he,hcell⟩:=hC.2.2 hp
 refine ⟨ad,he,fun j p hj => ?_⟩
 have hjl:j<rows.length:=by have:=(List.getElem?_eq_some_iff.1 hj).1;omega
 obtain ⟨c',hcl,hK,hcc⟩:=hcell j _ (List.getElem?_eq_getElem hjl)
 have hk:=FK_now (hf j p _ hj (List.getElem?_eq_getElem hjl))
 refine ⟨c',hcl,?_,hcc⟩
 rw [show c'=rows[j] from hK.1]
 exact hk
theorem N_F {n:Nat} (h:N d e w base ok (.slice A n cc) xs):F d w ok A n xs:=fun W' hW=>by
 have h2:=N_reads' (N_step h hW)
 rw [h2.1]
 exact h2.2.2
theorem N_elem {n cap:Nat} (h:N d e W base ok (.slice (some ⟨g,0,none⟩) n cap) xs) (z:α) (i:Int) (h0:0≤i) (h1:i<n) :
  ∃ c,c.length=d.sz∧FK d W (fun k=>ok k∧k≠g) (xs.getD i.toNat z) c∧(∀ j u,c[j]? = some u→W.cell? ⟨g,i.toNat*d.sz+j,none⟩=some u)∧∀ j,W.frozen? ⟨g,i.toNat*d.sz+j,none⟩=false:=by
 obtain ⟨_,rows,hl,hR,hf⟩:=h
 have hn:=(R_reads' hR).1
 obtain ⟨c,hcl,hM,hcc,hfr⟩:=R_elem hR [] i h0 h1
 have hil:i.toNat<rows.length:=by omega
 have hil':i.toNat<xs.length:=by omega
 have hc:c=rows[i.toNat]:=by
  have h2:=hM.1
  rwa [List.getD_eq_getElem?_getD,List.getElem?_eq_getElem hil] at h2
 refine ⟨c,hcl,?_,hcc,hfr⟩
 rw [List.getD_eq_getElem?_getD,List.getElem?_eq_getElem hil']
 exact FK_mono (hf _ _ _ (List.getElem?_eq_getElem hil') (by rw [hc];exact List.getElem?_eq_getElem hil)) (fun k hk=>⟨hk.1,fun he=>hk.2 (by rw [he];simp [Value.ownBlock])⟩)
end
end Kd
end Go.Proofs.YtcecjoaeolglbaaGreatDoorW.PrintWords
end

section
namespace Go.Proofs.YtcecjoaeolglbaaGreatDoorW.PrintWords
open Go.RowKit
namespace Kd
section
variable {α : Type} {d : Kd α} {e base n cap g : Nat} {ok ok' okp : Nat → Prop} {w w1 W : World} {v v1 : Value} {xs ys : List α}
theorem N_appended {rows news:List (List Value)} (h0:∀ k,v.ownBlock=some k→ok k) (hl:rows.length=xs.length) (hf:∀ (j:Nat) (x:α) (c:List Value),xs[j]? = some x→rows[j]? = some c→FK d W (fun k=>ok k∧some k≠v.ownBlock) x c)
  (hl2:news.length=ys.length) (hf2:∀ (j:Nat) (x:α) (c:List Value),ys[j]? = some x→news[j]? = some c→FK d W okp x c) (hokp:∀ k,okp k→ok k∧some k≠v.ownBlock) (hfresh:∀ k,W.heap.size≤k→ok k)
  (hR:(raw d.sz).R e w1 base (fun _=>True) v1 (rows++news)) (hg:W.grownBy w1 v.ownBlock) (hat:v1.ownBlock=v.ownBlock∨∃ b,v1.ownBlock=some b∧W.heap.size≤b):N d e w1 base ok v1 (xs++ys):=by
 have hne:∀ k,some k≠v.ownBlock→k<W.heap.size→some k≠v1.ownBlock:=by
  intro k hk hlt
  rcases hat with hat|⟨b,hb,hle⟩
  · rw [hat];exact hk
  · rw [hb]
    intro he
    injection he with he
    omega
 have step:∀ {x:α} {c:List Value} {o:Nat→Prop},FK d W o x c→(∀ k,o k→ok k∧some k≠v.ownBlock)→FK d w1 (fun k=>ok k∧some k≠v1.ownBlock) x c:=by
  intro x c o hq ho
  exact FK_mono (FK_step (FK_bound hq) (fun k hk hlt=>hg.block k hlt (ho k hk.1).2)) (fun k hk=>⟨(ho k hk.1).1,hne k (ho k hk.1).2 hk.2⟩)
 refine ⟨fun k hk => ?_,rows++news,by rw [List.length_append,List.length_append,hl,hl2],raw_tight hR,fun j x c hx hc => ?_⟩
 · rcases hat with hat|⟨b,hb,hle⟩
   · exact h0 k (hat ▸ hk)
   · rw [hb] at hk
     injection hk with hk
     exact hfresh k (by omega)
 · rcases Nat.lt_or_ge j xs.length with hlt|hge
   · rw [List.getElem?_append_left hlt] at hx
     rw [List.getElem?_append_left (by omega)] at hc
     exact step (hf j x c hx hc) (fun _ hk=>hk)
   · rw [List.getElem?_append_right hge] at hx
     rw [List.getElem?_append_right (by omega),hl] at hc
     exact step (hf2 _ x c hx hc) hokp
theorem FK_raw {x:α} {c:List Value} (h:FK d W ok x c):c=c∧c.length=d.sz∧∀ u∈c,u.oneCell'=true:=⟨rfl,d.K_len (FK_now h),d.K_one (FK_now h)⟩
theorem N_written {rows:List (List Value)} {i:Int} {x':α} {c':List Value} (h0:∀ k,(Value.slice (some ⟨g,0,none⟩) n cap).ownBlock=some k→ok k) (hl:rows.length=xs.length) (hf:∀ (j:Nat) (x:α) (c:List Value),xs[j]? = some x→rows[j]? = some c→FK d W (fun k=>ok k∧some k≠(Value.slice (some ⟨g,0,none⟩) n cap).ownBlock) x c)
  (hR:(raw d.sz).R e w1 base (fun _=>True) (.slice (some ⟨g,0,none⟩) n cap) (rows.set i.toNat c')) (hg:W.grownBy w1 (some g)) (hM:FK d W okp x' c') (hokp:∀ k,okp k→ok k∧k≠g):N d e w1 base ok (.slice (some ⟨g,0,none⟩) n cap) (xs.set i.toNat x'):=by
 have hgo:some g=(Value.slice (some ⟨g,0,none⟩) n cap).ownBlock:=by simp [Value.ownBlock]
 refine ⟨h0,rows.set i.toNat c',by rw [List.length_set,List.length_set,hl],raw_tight hR,fun j x c hx hc => ?_⟩
 have hjl:j<xs.length:=by have:=(List.getElem?_eq_some_iff.1 hx).1;rwa [List.length_set] at this
 by_cases hji:j=i.toNat
 · subst hji
   rw [List.getElem?_set_self hjl] at hx
   rw [List.getElem?_set_self (by omega)] at hc
   injection hx with hx
   injection hc with hc
   rw [← hx,← hc]
   exact FK_mono (FK_step hM (fun k hk hlt=>hg.block k hlt (fun he=>(hokp k hk).2 (by injection he)))) (fun k hk=>⟨(hokp k hk).1,fun he=>(hokp k hk).2 (by rw [← hgo] at he;injection he)⟩)
 · rw [List.getElem?_set_ne (Ne.symm hji)] at hx hc
   exact FK_step (hf j x c hx hc) (fun k hk hlt=>hg.block k hlt (by rw [hgo];exact hk.2))
theorem N_seg (h:N d e W base ok (.slice (some ⟨g,0,none⟩) n cap) xs) (i:Int) (h0:0≤i) (h1:i<n) {c seg:List Value} {j:Nat} (hcl:c.length=d.sz) (hcc:∀ j u,c[j]? = some u→W.cell? ⟨g,i.toNat*d.sz+j,none⟩=some u)
  (hj:j+seg.length≤d.sz) {x':α} (hM:FK d W okp x' (c.take j++seg++c.drop (j+seg.length))) (hokp:∀ k,okp k→ok k∧k≠g) :
  N d e (W.setCells g (i.toNat*d.sz+j) seg) base ok (.slice (some ⟨g,0,none⟩) n cap) (xs.set i.toNat x')∧W.grownBy (W.setCells g (i.toNat*d.sz+j) seg) (some g):=by
 obtain ⟨hown,rows,hl,hR,hf⟩:=h
 obtain ⟨h2,h3⟩:=R_seg (raw_any hR) i h0 h1 (c:=c) (seg:=seg) (j:=j) (x':=c.take j++seg++c.drop (j+seg.length)) (okp:=fun _=>False) hcl hcc hj ⟨rfl,d.K_len (FK_now hM),d.K_one (FK_now hM)⟩ (fun _ hk=>hk.elim)
 exact ⟨N_written hown hl hf h2 h3 hM hokp,h3⟩
theorem reads_raw {Rr:α→List Value→Prop} {sz m:Nat} {A:Option Addr} (h:ReadsRow Rr sz W A m ys) (hR:∀ x c,Rr x c→c.length=sz∧∀ u∈c,u.oneCell'=true) :
  ∃ news:List (List Value),news.length=ys.length∧ReadsRow (fun x cs=>cs=x∧cs.length=sz∧∀ u∈cs,u.oneCell'=true) sz W A m news∧∀ (j:Nat) (x:α) (c:List Value),ys[j]? = some x→news[j]? = some c→Rr x c:=by
 rcases Nat.eq_zero_or_pos m with h0|hp
 · have hy:ys=[]:=List.eq_nil_of_length_eq_zero (h.1.trans h0)
   subst hy
   exact ⟨[],rfl,⟨h0 ▸ rfl,h.2.1,fun hp=>by omega⟩,fun j x c hx=>by simp at hx⟩
 · obtain ⟨ad,rfl,_⟩:=h.2.2 hp
   obtain ⟨inner,hr,hc⟩:=ReadsRow.inner_ h
   refine ⟨chunks sz ys.length inner,chunks_length _ _ _,⟨by rw [chunks_length];exact h.1,h.2.1,fun _=>⟨ad,rfl,fun j p hj => ?_⟩⟩,fun j x c hx hcc => ?_⟩
   · have hjl:j<ys.length:=by have:=(List.getElem?_eq_some_iff.1 hj).1;rwa [chunks_length] at this
     have hpe:=chunks_get hj
     have hq:=hR _ _ (hr.2 j _ (List.getElem?_eq_getElem hjl))
     rw [← hpe] at hq
     refine ⟨p,hq.1,⟨rfl,hq⟩,fun i u hu => ?_⟩
     have hu2:inner[j*sz+i]? = some u:=by
      rw [hpe,List.getElem?_take] at hu
      split at hu
      · rw [List.getElem?_drop] at hu
        exact hu
      · cases hu
     exact hc _ u hu2
   · rw [chunks_get hcc]
     exact hr.2 j x hx
end
section
variable {P : Program} {ops : Array Oper} {rest : List Oper} {o : Oper} {a : Act} {Q : Exit → Act → World → Prop} {Kc : Act → World → Prop} {α : Type}
theorem N_append (d:Kd α) {w0 W:World} (base:Nat) (hgd:o.guard=none) (s x:Operand) (t e:TypeId) (z:Value) (bytes:Nat)
  (ho:o.op = .call { callee:=.builtin .append,args := #[s,x],argTypes := #[t,t] })
  (ht:P.underlying t=some (.slice e)) (hinfo:(P.info? e).map (fun i=>(i.zero,i.size,i.bytes))=some (some z,d.sz,bytes)) (hz:z.cells.size=d.sz) (hs0:0<d.sz) (hb0:0<bytes)
  (v:Value) (xs:List α) (p:α) (cs:List Value) (ok okp:Nat→Prop) (hs:a.eval s=v) (hx:a.eval x = .slice (some ⟨W.heap.size,0,none⟩) 1 1) (hp:FK d W okp p cs) (hokp:∀ k,okp k→ok k∧some k≠v.ownBlock) (hfresh:∀ k,W.heap.size≤k→ok k)
  (HO:N d e W base ok v xs) (HB:Below base w0 W) (hbase:base≤W.heap.size) (hl:(xs.length+1)*bytes≤140737488355328)
  (h:∀ v1 w1,N d e w1 base ok v1 (xs++[p])→Below base w0 w1→W.grownBy w1 v.ownBlock→(v1.ownBlock=v.ownBlock∨∃ b,v1.ownBlock=some b∧W.heap.size≤b)→wpList P ops Q rest (a.put o.dst v1) w1) :
  wpList P ops Q (o::rest) a (W.alloc (.cells cs.toArray e)):=by
 obtain ⟨h0,rows,hlr,hR,hf⟩:=HO
 refine R_append (raw d.sz) base hgd s x t e z bytes ho ht hinfo hz hs0 hb0 v rows cs cs (fun _=>True) (fun _=>False) hs hx (FK_raw hp) (fun _ hk=>hk.elim) (fun _ _=>trivial) (raw_any hR) HB hbase (by rw [hlr];exact hl) ?_
 intro v1 w1 hr hb hg hat
 exact h v1 w1 (N_appended h0 hlr hf (ys:=[p]) (news:=[cs]) rfl (fun j y c hy hc=>by
  rcases j with _|j
  · simp only [List.getElem?_cons_zero,Option.some.injEq] at hy hc
    rw [← hy,← hc];exact hp
  · simp at hy) hokp hfresh hr hg hat) hb hg hat
theorem N_append_rows (d:Kd α) {w0 W:World} (base:Nat) (hgd:o.guard=none) (s x:Operand) (t e:TypeId) (z:Value) (bytes:Nat)
  (ho:o.op = .call { callee:=.builtin .append,args := #[s,x],argTypes := #[t,t] })
  (ht:P.underlying t=some (.slice e)) (hinfo:(P.info? e).map (fun i=>(i.zero,i.size,i.bytes))=some (some z,d.sz,bytes)) (hz:z.cells.size=d.sz) (hs0:0<d.sz) (hb0:0<bytes)
  (v:Value) (xs ys:List α) (A:Option Addr) (m c:Nat) (ok okp:Nat→Prop) (hs:a.eval s=v) (hx:a.eval x = .slice A m c)
  (HO:N d e W base ok v xs) (HR:F d W okp A m ys) (hokp:∀ k,okp k→ok k∧some k≠v.ownBlock) (hfresh:∀ k,W.heap.size≤k→ok k)
  (HB:Below base w0 W) (hbase:base≤W.heap.size) (hl:(xs.length+m)*bytes≤140737488355328)
  (h:∀ v1 w1,N d e w1 base ok v1 (xs++ys)→Below base w0 w1→W.grownBy w1 v.ownBlock→(v1.ownBlock=v.ownBlock∨∃ b,v1.ownBlock=some b∧W.heap.size≤b)→wpList P ops Q rest (a.put o.dst v1) w1) :
  wpList P ops Q (o::rest) a W:=by
 obtain ⟨h0,rows,hlr,hR,hf⟩:=HO
 obtain ⟨news,hnl,hnr,hnf⟩:=reads_raw (F_rows HR) (fun y c hk=>⟨d.K_len (FK_now hk),d.K_one (FK_now hk)⟩)
 refine R_append_rows (raw d.sz) base hgd s x t e z bytes ho ht hinfo hz hs0 hb0 v rows news A m c (fun _=>True) (fun _=>False) hs hx (raw_any hR) hnr (fun _ _ hk=>hk) (fun _ hk=>hk.elim) (fun _ _=>trivial) HB hbase (by rw [hlr];exact hl) ?_
 intro v1 w1 hr hb hg hat
 exact h v1 w1 (N_appended h0 hlr hf hnl hnf hokp hfresh hr hg hat) hb hg hat
end
end Kd
end Go.Proofs.YtcecjoaeolglbaaGreatDoorW.PrintWords
end

section
namespace Go.Proofs.YtcecjoaeolglbaaGreatDoorW.PrintMore
open Go.RowKit Go.Proofs.YtcecjoaeolglbaaGreatDoorW.PrintWords
namespace Kd
open Go.Proofs.YtcecjoaeolglbaaGreatDoorW.PrintWords.Kd
end Kd
namespace Kd
open Go.Proofs.YtcecjoaeolglbaaGreatDoorW.PrintWords.Kd
section
variable {α : Type} {d : Kd α} {e base g N : Nat} {ok : Nat → Prop} {W w1 : World} {u v : Value} {xs : List α}
end
end Kd
theorem max2_int (k k':IntKind) (x y:Int):Builtin.max2 (.int k x) (.int k' y)=pure (.int k (if x<y then y else x)):=by simp only [Builtin.max2,gt_iff_lt]
theorem min2_int (k k':IntKind) (x y:Int):Builtin.min2 (.int k x) (.int k' y)=pure (.int k (if y<x then y else x)):=by simp only [Builtin.min2]
theorem max_two (ats:Array TypeId) (ty:TypeId) (a b:Value):Builtin.max_ ats ty #[a,b]=(Builtin.max2 a b >>= fun s=>pure s):=by simp only [Builtin.max_,List.foldlM_cons,List.foldlM_nil]
theorem min_two (ats:Array TypeId) (ty:TypeId) (a b:Value):Builtin.min_ ats ty #[a,b]=(Builtin.min2 a b >>= fun s=>pure s):=by simp only [Builtin.min_,List.foldlM_cons,List.foldlM_nil]
theorem max_three (ats:Array TypeId) (ty:TypeId) (a b c:Value):Builtin.max_ ats ty #[a,b,c]=(Builtin.max2 a b >>= fun s=>Builtin.max2 s c >>= fun s=>pure s):=by simp only [Builtin.max_,List.foldlM_cons,List.foldlM_nil]
theorem min_three (ats:Array TypeId) (ty:TypeId) (a b c:Value):Builtin.min_ ats ty #[a,b,c]=(Builtin.min2 a b >>= fun s=>Builtin.min2 s c >>= fun s=>pure s):=by simp only [Builtin.min_,List.foldlM_cons,List.foldlM_nil]
theorem max_four (ats:Array TypeId) (ty:TypeId) (a b c d:Value):Builtin.max_ ats ty #[a,b,c,d]=(Builtin.max2 a b >>= fun s=>Builtin.max2 s c >>= fun s=>Builtin.max2 s d >>= fun s=>pure s):=by simp only [Builtin.max_,List.foldlM_cons,List.foldlM_nil]
theorem min_four (ats:Array TypeId) (ty:TypeId) (a b c d:Value):Builtin.min_ ats ty #[a,b,c,d]=(Builtin.min2 a b >>= fun s=>Builtin.min2 s c >>= fun s=>Builtin.min2 s d >>= fun s=>pure s):=by simp only [Builtin.min_,List.foldlM_cons,List.foldlM_nil]
end Go.Proofs.YtcecjoaeolglbaaGreatDoorW.PrintMore
namespace Go.Proofs.YtcecjoaeolglbaaGreatDoorW.PrintWords
open Go.RowKit
section
variable {P : Program} {ops : Array Oper} {rest : List Oper} {o : Oper} {a : Act} {Q : Exit → Act → World → Prop} {W : World}
theorem gate_callee {f:FuncId} {as_:Array Operand} {ts:Array TypeId} (_ho:o.op = .call { callee:=.value (.func f),args:=as_,argTypes:=ts }) (h:wpList P ops Q (o::rest) a W):wpList P ops Q (o::rest) a W:=h
theorem gate_builtin {b:Builtin} {xs:Array Operand} {ts:Array TypeId} (_ho:o.op = .call { callee:=.builtin b,args:=xs,argTypes:=ts }) (h:wpList P ops Q (o::rest) a W):wpList P ops Q (o::rest) a W:=h
end
def mx (a b:Int):Int:=if a<b then b else a
def mn (a b:Int):Int:=if b<a then b else a
theorem cell_grown {W w1:World} {row:Option Nat} (hg:W.grownBy w1 row) {a:Addr} {v:Value} (h:W.cell? a=some v) (hne:some a.block≠row):w1.cell? a=some v:=by
 have:=hg.block a.block (World.block_lt_of_cell? W a h) hne
 simpa [World.cell?,this] using h
namespace Kd
section
variable {α : Type} {d : Kd α} {e base : Nat} {ok : Nat → Prop} {W w1 : World} {v : Value} {xs : List α}
theorem R_far1 (h:d.R e W base ok v xs) (hE:d.E=[]) {g:Nat} (hne:some g≠v.ownBlock):d.R e W base (fun k=>ok k∧k≠g) v xs :=
 R_mono (R_tight hE h) (fun k hk=>⟨h.1 k hk.symm,fun e_=>hne (by rw [← e_];exact hk)⟩)
end
section
variable {α : Type} {d : Kd α} {e base g n cap : Nat} {ok oki okp : Nat → Prop} {W : World} {xs : List α} {i : Int} {c : List Value}
end
section
variable {α : Type} {d : Kd α} {e base b b' g N : Nat} {ok ok1 : Nat → Prop} {W W2 w1 : World} {u v : Value} {xs ys : List α} {S : Nat → Prop}
end
end Kd
end Go.Proofs.YtcecjoaeolglbaaGreatDoorW.PrintWords
namespace Go.Proofs.YtcecjoaeolglbaaGreatDoorW.PrintWords
open Go.RowKit
namespace Kd
def V {α:Type} (d:Kd α) (_e:Nat) (W:World) (_base:Nat) (ok:Nat→Prop) (v:Value) (xs:List α):Prop := ∃ A c,v = .slice A xs.length c∧xs.length≤c∧F d W ok A xs.length xs
section
variable {α β : Type} {d : Kd α} {e base base' n m c g N' lo hi : Nat} {ok ok' S : Nat → Prop} {w W w1 : World} {A : Option Addr} {ad : Addr} {u v v1 : Value} {xs : List α}
theorem V_map (h:V d e W base ok v xs) (hF:∀ A,F d W ok A xs.length xs→F d w1 ok' A xs.length xs):V d e w1 base' ok' v xs:=by
 obtain ⟨A,c,hv,hl,hf⟩:=h
 exact ⟨A,c,hv,hl,hF A hf⟩
theorem V_slice (h:V d e W base ok v xs):∃ A c,v = .slice A xs.length c:=by
 obtain ⟨A,c,hv,_⟩:=h
 exact ⟨A,c,hv⟩
theorem V_at (h:V d e W base ok (.slice A n c) xs):n=xs.length∧n≤c∧F d W ok A xs.length xs:=by
 obtain ⟨A',c',hv,hl,hf⟩:=h
 injection hv with ha hn hc
 subst ha;subst hc
 exact ⟨hn,by rw [hn];exact hl,hf⟩
theorem V_reads' (h:V d e W base ok (.slice A n c) xs):n=xs.length∧n≤c∧d.C W A xs.length xs:=⟨(V_at h).1,(V_at h).2.1,F_now (V_at h).2.2⟩
theorem V_F (h:V d e W base ok (.slice A n c) xs):F d W ok A n xs:=by
 obtain ⟨hn,_,hf⟩:=V_at h
 rw [hn]
 exact hf
theorem R_V (h:d.R e W base ok v xs):V d e W base' ok v xs:=by
 obtain ⟨A,c,rfl⟩:=R_slice h
 exact ⟨A,c,rfl,(R_reads' h).2.1,R_F h⟩
theorem S_V (h:Kd.S d e W base ok v xs):V d e W base' ok v xs:=R_V (S_R h)
theorem N_V (h:N d e W base ok v xs):V d e W base' ok v xs:=by
 obtain ⟨A,c,rfl⟩:=N_slice h
 exact ⟨A,c,rfl,(N_reads' h).2.1,N_F h⟩
theorem V_mono (h:V d e W base ok v xs) (hok:∀ k,ok k→ok' k):V d e W base ok' v xs:=V_map h (fun _ hf=>F_mono hf hok)
theorem V_bound (h:V d e W base ok v xs):V d e W base (fun k=>ok k∧k<W.heap.size) v xs:=V_map h (fun _ hf=>F_bound hf)
theorem V_alloc (h:V d e W base ok v xs) (o:Obj):V d e (W.alloc o) base ok v xs:=V_map h (fun _ hf=>F_alloc hf o)
theorem V_drew (h:V d e W base ok v xs):V d e W.drew base ok v xs:=V_map h (fun _ hf=>F_drew hf)
theorem V_drewN (h:V d e W base ok v xs) (m:Nat):V d e (W.drewN m) base ok v xs:=V_map h (fun _ hf=>F_drewN hf m)
theorem V_grown (h:V d e W base ok v xs) {row:Option Nat} (hg:W.grownBy w1 row) (hok:∀ k,ok k→some k≠row):V d e w1 base ok v xs:=V_map h (fun _ hf=>F_grown hf hg hok)
theorem V_get (h:V d e W base ok (.slice (some ad) n c) xs) (z:α) (i:Int) (h0:0≤i) (h1:i<n) :
  ∃ cs,cs.length=d.sz∧FK d W ok (xs.getD i.toNat z) cs∧∀ j u,cs[j]? = some u→W.cell? (ad.add (i.toNat*d.sz+j))=some u:=by
 obtain ⟨ad',cs,he,hcl,hK,hcc,_⟩:=F_get (V_F h) z i h0 h1
 injection he with he
 subst he
 exact ⟨cs,hcl,hK,hcc⟩
end
end Kd
end Go.Proofs.YtcecjoaeolglbaaGreatDoorW.PrintWords
end

section
namespace Go.Proofs.YtcecjoaeolglbaaGreatDoor.K0
open Go.RowKit Go.Proofs.YtcecjoaeolglbaaGreatDoorW.PrintWords Go.Proofs.YtcecjoaeolglbaaGreatDoorW.PrintLast Go.Proofs.YtcecjoaeolglbaaGreatDoorW.PrintMore
attribute [local go_sem] max2_int min2_int max_two min_two max_three min_three max_four min_four  
set_option linter.unusedVariables false
set_option linter.unusedSimpArgs false
structure S87 where
 f0:ByteArray
 f1:ByteArray
def z87:S87:=⟨(⟨#[]⟩:ByteArray),(⟨#[]⟩:ByteArray)⟩
def k87:Kd S87:=Kd.iso (Kd.pair Kd.string Kd.string) (fun x:S87=>(x.f0,x.f1))
theorem k87_open {w:World} {x:S87} {cs:List Value} (h:k87.K w x cs):cs=[.string x.f0,.string x.f1]:=by
 obtain ⟨_,_,rfl,rfl,rfl⟩:=h
 exact rfl
theorem k87_openM {w:World} {base:Nat} {ok:Nat→Prop} {x:S87} {cs:List Value} (h:k87.M w base ok x cs):cs=[.string x.f0,.string x.f1]:=by
 obtain ⟨_,_,rfl,rfl,rfl⟩:=h
 exact rfl
theorem k87_mkM (w:World) (base:Nat) (ok:Nat→Prop) (x:S87)  : k87.M w base ok x [.string x.f0,.string x.f1]:=⟨[.string x.f0],[.string x.f1],rfl,rfl,rfl⟩
def rd_T87 (xs:List S87) (i:Int):S87:=xs.getD i.toNat z87
theorem at_T87 {w:World} {A:Option Addr} {n:Nat} {xs:List S87} (h:Kd.C k87 w A n xs) (i:Int) (h0:0≤i) (h1:i<n):∃ ad ,A=some ad∧w.cell? (ad.add (i.toNat*2))=some (.string (rd_T87 xs i).f0)∧w.cell? ⟨(ad.add (i.toNat*2)).block,(ad.add (i.toNat*2)).off+1,none⟩=some (.string (rd_T87 xs i).f1):=by
 obtain ⟨ad,c,e,_,hK,hc0⟩:=Kd.C_get h z87 i h0 h1
 have hc:∀ j u,c[j]? = some u→w.cell? (ad.add (i.toNat*2+j))=some u:=hc0
 obtain rfl:=k87_open hK
 exact ⟨ad,e,hc 0 _ rfl,by rw [← add_field _ _ 1 (by omega)];exact hc 1 _ rfl⟩
structure S46 where
 f0:Int
 f1:ByteArray
 f2:ByteArray
 f3:(List S87)
 f4:Bool
def z46:S46:=⟨(0:Int),(⟨#[]⟩:ByteArray),(⟨#[]⟩:ByteArray),([]:List S87),false⟩
def k46:Kd S46:=Kd.iso (Kd.pair (Kd.int .i64) (Kd.pair Kd.string (Kd.pair Kd.string (Kd.pair (Kd.slice 87 k87) Kd.bool)))) (fun x:S46=>(x.f0,x.f1,x.f2,x.f3,x.f4))
theorem k46_open {w:World} {x:S46} {cs:List Value} (h:k46.K w x cs):∃ A3 c3,cs=[.int .i64 x.f0,.string x.f1,.string x.f2,.slice A3 x.f3.length c3,.bool x.f4]∧x.f3.length≤c3∧k87.C w A3 x.f3.length x.f3:=by
 obtain ⟨_,_,rfl,rfl,⟨_,_,rfl,rfl,⟨_,_,rfl,rfl,⟨_,_,rfl,⟨A3,c3,rfl,l3,g3⟩,rfl⟩⟩⟩⟩:=h
 exact ⟨A3,c3,rfl,l3,g3⟩
theorem k46_mk (w:World) (x:S46) {A3:Option Addr} {c3:Nat} (l3:x.f3.length≤c3) (g3:k87.C w A3 x.f3.length x.f3):k46.K w x [.int .i64 x.f0,.string x.f1,.string x.f2,.slice A3 x.f3.length c3,.bool x.f4]:=⟨[.int .i64 x.f0],[.string x.f1,.string x.f2,.slice A3 x.f3.length c3,.bool x.f4],rfl,rfl,⟨[.string x.f1],[.string x.f2,.slice A3 x.f3.length c3,.bool x.f4],rfl,rfl,⟨[.string x.f2],[.slice A3 x.f3.length c3,.bool x.f4],rfl,rfl,⟨[.slice A3 x.f3.length c3],[.bool x.f4],rfl,⟨A3,c3,rfl,l3,g3⟩,rfl⟩⟩⟩⟩
theorem k46_mkM (w:World) (base:Nat) (ok:Nat→Prop) (x:S46) {v3:Value} (g3:k87.R 87 w base ok v3 x.f3):k46.M w base ok x [.int .i64 x.f0,.string x.f1,.string x.f2,v3,.bool x.f4]:=⟨[.int .i64 x.f0],[.string x.f1,.string x.f2,v3,.bool x.f4],rfl,rfl,⟨[.string x.f1],[.string x.f2,v3,.bool x.f4],rfl,rfl,⟨[.string x.f2],[v3,.bool x.f4],rfl,rfl,⟨[v3],[.bool x.f4],rfl,⟨v3,rfl,g3⟩,rfl⟩⟩⟩⟩
theorem k46_openF {W:World} {ok:Nat→Prop} {x:S46} {cs:List Value} (h:Kd.FK k46 W ok x cs):∃ A3 c3,cs=[.int .i64 x.f0,.string x.f1,.string x.f2,.slice A3 x.f3.length c3,.bool x.f4]∧x.f3.length≤c3∧Kd.F k87 W ok A3 x.f3.length x.f3:=by
 obtain ⟨A3,c3,rfl,l3,_⟩:=k46_open (Kd.FK_now h)
 exact ⟨A3,c3,rfl,l3,(fun W' hW=>by obtain ⟨A3_,c3_,he,l3_,g3_⟩:=k46_open (h W' hW);injection (Option.some.inj (show some (Value.slice A3 x.f3.length c3)=some (Value.slice A3_ x.f3.length c3_) from congrArg (fun l=>l[3]?) he)) with ha_ _ _;rw [ha_];exact g3_)⟩
theorem k46_mkF (W:World) (ok:Nat→Prop) (x:S46) {A3:Option Addr} {c3:Nat} (l3:x.f3.length≤c3) (g3:Kd.F k87 W ok A3 x.f3.length x.f3):Kd.FK k46 W ok x [.int .i64 x.f0,.string x.f1,.string x.f2,.slice A3 x.f3.length c3,.bool x.f4]:=fun W2 hW=>k46_mk W2 x l3 (g3 W2 hW)
def rd_T46 (xs:List S46) (i:Int):S46:=xs.getD i.toNat z46
theorem at_T46 {w:World} {A:Option Addr} {n:Nat} {xs:List S46} (h:Kd.C k46 w A n xs) (i:Int) (h0:0≤i) (h1:i<n):∃ ad A3 c3,A=some ad∧w.cell? (ad.add (i.toNat*5))=some (.int .i64 (rd_T46 xs i).f0)∧w.cell? ⟨(ad.add (i.toNat*5)).block,(ad.add (i.toNat*5)).off+1,none⟩=some (.string (rd_T46 xs i).f1)∧w.cell? ⟨(ad.add (i.toNat*5)).block,(ad.add (i.toNat*5)).off+2,none⟩=some (.string (rd_T46 xs i).f2)∧w.cell? ⟨(ad.add (i.toNat*5)).block,(ad.add (i.toNat*5)).off+3,none⟩=some (.slice A3 (rd_T46 xs i).f3.length c3)∧w.cell? ⟨(ad.add (i.toNat*5)).block,(ad.add (i.toNat*5)).off+4,none⟩=some (.bool (rd_T46 xs i).f4)∧(rd_T46 xs i).f3.length≤c3∧k87.C w A3 (rd_T46 xs i).f3.length (rd_T46 xs i).f3:=by
 obtain ⟨ad,c,e,_,hK,hc0⟩:=Kd.C_get h z46 i h0 h1
 have hc:∀ j u,c[j]? = some u→w.cell? (ad.add (i.toNat*5+j))=some u:=hc0
 obtain ⟨A3,c3,rfl,l3,g3⟩:=k46_open hK
 exact ⟨ad,A3,c3,e,hc 0 _ rfl,by rw [← add_field _ _ 1 (by omega)];exact hc 1 _ rfl,by rw [← add_field _ _ 2 (by omega)];exact hc 2 _ rfl,by rw [← add_field _ _ 3 (by omega)];exact hc 3 _ rfl,by rw [← add_field _ _ 4 (by omega)];exact hc 4 _ rfl,l3,g3⟩
end Go.Proofs.YtcecjoaeolglbaaGreatDoor.K0
end

section
namespace Go.Proofs
open Go.Shelf
def Tryz.lays240_ren:Go.Shelf.Ren:=⟨fun|6=>148|10=>106|99=>38|100=>165|101=>42|104=>176|105=>155|129=>243|137=>86|138=>99|143=>101|144=>85|145=>130|149=>216|154=>72|155=>47|165=>100|166=>44|167=>48|169=>45|170=>154|171=>235|195=>137|197=>102|205=>234|206=>65|207=>197|208=>67|211=>200|212=>193|217=>116|218=>138|219=>140|220=>177|222=>226|224=>184|225=>183|240=>70|241=>139|243=>236|245=>218|246=>237|260=>141|263=>214|264=>215|266=>157|267=>185|276=>98|277=>182|279=>229|280=>230|281=>231|282=>232|283=>238|284=>239|285=>240|286=>241|287=>217|314=>203|316=>233|317=>242|318=>244|319=>245|320=>246|321=>227|322=>228|337=>247|338=>248|n=>n,fun|21=>21|22=>67|23=>9|24=>24|25=>23|37=>27|46=>208|51=>99|53=>231|59=>160|70=>52|72=>54|75=>59|76=>60|80=>62|105=>136|109=>227|119=>174|127=>93|138=>210|139=>211|143=>265|145=>267|146=>238|148=>252|164=>132|167=>257|168=>259|171=>269|173=>272|210=>263|212=>275|213=>276|232=>279|233=>280|n=>n,fun|n=>n⟩
def Tryz.lays166_ren:Go.Shelf.Ren:=⟨fun|6=>148|10=>106|99=>38|100=>165|101=>42|104=>176|105=>155|129=>243|137=>86|138=>99|143=>101|144=>85|145=>130|149=>216|154=>72|155=>47|165=>100|166=>44|167=>48|169=>45|170=>154|171=>235|195=>137|197=>102|205=>234|206=>65|207=>197|208=>67|211=>200|212=>193|217=>116|218=>138|219=>140|220=>177|222=>226|224=>184|225=>183|240=>70|241=>139|243=>236|245=>218|246=>237|260=>141|263=>214|264=>215|266=>157|267=>185|276=>98|277=>182|279=>229|280=>230|281=>231|282=>232|283=>238|284=>239|285=>240|286=>241|287=>217|314=>203|316=>233|317=>242|318=>244|319=>245|320=>246|321=>227|322=>228|337=>247|338=>248|n=>n,fun|21=>21|22=>67|23=>9|24=>24|25=>23|37=>27|46=>208|51=>99|53=>231|59=>160|70=>52|72=>54|75=>59|76=>60|80=>62|105=>136|109=>227|119=>174|127=>93|138=>210|139=>211|143=>265|145=>267|146=>238|148=>252|164=>132|167=>257|168=>259|171=>269|173=>272|210=>263|212=>275|213=>276|232=>279|233=>280|n=>n,fun|n=>n⟩
theorem Tryz.lays166:Go.Proofs.Lays.n166 Tryz.prog Tryz.lays166_ren:={
 mixed:=by kernel_rfl
 f166:=Tryz.func44.trans (congrArg some (by kernel_rfl))
 f240:=Tryz.func70.trans (congrArg some (by kernel_rfl))
 f276:=Tryz.func98.trans (congrArg some (by kernel_rfl))
 t0:=Tryz.underlying0
 a0:=Tryz.isAgg0
 z0:=Tryz.sizeOf0
 v0:=Tryz.zeroValue0
 t3:=Tryz.underlying3
 a3:=Tryz.isAgg3
 z3:=Tryz.sizeOf3
 v3:=Tryz.zeroValue3
 t4:=Tryz.underlying4
 a4:=Tryz.isAgg4
 z4:=Tryz.sizeOf4
 v4:=Tryz.zeroValue4
 t9:=Tryz.underlying9
 a9:=Tryz.isAgg9
 z9:=Tryz.sizeOf9
 v9:=Tryz.zeroValue9
 t20:=Tryz.underlying20
 a20:=Tryz.isAgg20
 z20:=Tryz.sizeOf20
 v20:=Tryz.zeroValue20
 t37:=Tryz.underlying27
 a37:=Tryz.isAgg27
 z37:=Tryz.sizeOf27
 v37:=Tryz.zeroValue27
 t70:=Tryz.underlying52
 a70:=Tryz.isAgg52
 z70:=Tryz.sizeOf52
 v70:=Tryz.zeroValue52
 t72:=Tryz.underlying54
 a72:=Tryz.isAgg54
 z72:=Tryz.sizeOf54
 v72:=Tryz.zeroValue54
 t75:=Tryz.underlying59
 a75:=Tryz.isAgg59
 z75:=Tryz.sizeOf59
 v75:=Tryz.zeroValue59
 t164:=Tryz.underlying132
 a164:=Tryz.isAgg132
 z164:=Tryz.sizeOf132
 v164:=Tryz.zeroValue132 }
theorem Tryz.Builder_Extra_166:Builder.Extra Tryz.prog Tryz.lays166_ren:={
 sizeBuilder:=by kernel_rfl
 liesBuilder:=by kernel_rfl
 t5:=Tryz.underlying5
 a5:=Tryz.isAgg5
 z5:=Tryz.sizeOf5
 v5:=Tryz.zeroValue5
 infoByte:=by kernel_rfl
 cellsByte:=by kernel_rfl
 sizeByte:=by kernel_rfl
 neB5:=by decide }
open Go.RowKit in
theorem Tryz.Builder_WriteString (B b:Nat) (bs:List Value) (s:ByteArray) (w:World) (h:Lib.IsBuilder 54 5 B b bs w) (hlen:bs.length+s.size≤140737488355328) (hBw:B≤w.heap.size) :
 Calls Tryz.prog 44 #[.pointer (some ⟨b,0,none⟩),.string s] w fun e w'=>e = .returned (.tuple #[.int .i64 s.size,.nilIface])∧(Lib.BuilderAt 54 5 B b (.pointer (some ⟨b,0,none⟩)) (bs++Lib.strCells s) w'∧Below B w w'):=Any.Builder_WriteString Tryz.lays166 Tryz.Builder_Extra_166 B b bs s w h hlen hBw
def Tryz.lays169_ren:Go.Shelf.Ren:=⟨fun|169=>45|n=>n,fun|70=>52|9=>9|0=>0|72=>54|37=>27|127=>93|3=>3|5=>5|n=>n,fun|n=>n⟩
theorem Tryz.lays169:Go.Proofs.Lays.n169 Tryz.prog Tryz.lays169_ren:={
 mixed:=by kernel_rfl
 f169:=Tryz.func45.trans (congrArg some (by kernel_rfl))
 t0:=Tryz.underlying0
 a0:=Tryz.isAgg0
 z0:=Tryz.sizeOf0
 v0:=Tryz.zeroValue0
 t3:=Tryz.underlying3
 a3:=Tryz.isAgg3
 z3:=Tryz.sizeOf3
 v3:=Tryz.zeroValue3
 t9:=Tryz.underlying9
 a9:=Tryz.isAgg9
 z9:=Tryz.sizeOf9
 v9:=Tryz.zeroValue9
 t37:=Tryz.underlying27
 a37:=Tryz.isAgg27
 z37:=Tryz.sizeOf27
 v37:=Tryz.zeroValue27
 t70:=Tryz.underlying52
 a70:=Tryz.isAgg52
 z70:=Tryz.sizeOf52
 v70:=Tryz.zeroValue52
 t72:=Tryz.underlying54
 a72:=Tryz.isAgg54
 z72:=Tryz.sizeOf54
 v72:=Tryz.zeroValue54
 t127:=Tryz.underlying93
 a127:=Tryz.isAgg93
 z127:=Tryz.sizeOf93
 v127:=Tryz.zeroValue93 }
theorem Tryz.Builder_Extra_169:Builder.Extra Tryz.prog Tryz.lays169_ren:={
 sizeBuilder:=by kernel_rfl
 liesBuilder:=by kernel_rfl
 t5:=Tryz.underlying5
 a5:=Tryz.isAgg5
 z5:=Tryz.sizeOf5
 v5:=Tryz.zeroValue5
 infoByte:=by kernel_rfl
 cellsByte:=by kernel_rfl
 sizeByte:=by kernel_rfl
 neB5:=by decide }
open Go.RowKit in
theorem Tryz.Builder_String_any (B b:Nat) (l:List UInt8) (w:World) (h:Lib.IsBuilder 54 5 B b (Lib.byteCells l) w) (hBw:B≤w.heap.size) :
 Calls Tryz.prog 45 #[.pointer (some ⟨b,0,none⟩)] w fun e w'=>e = .returned (.string ⟨l.toArray⟩)∧Below B w w':=Any.Builder_String_any Tryz.lays169 Tryz.Builder_Extra_169 B b l w h hBw
def Tryz.lays137_ren:Go.Shelf.Ren:=⟨fun|137=>86|217=>116|266=>157|n=>n,fun|9=>9|5=>5|3=>3|n=>n,fun|n=>n⟩
theorem Tryz.lays137:Go.Proofs.Lays.n137 Tryz.prog Tryz.lays137_ren:={
 mixed:=by kernel_rfl
 f137:=Tryz.func86.trans (congrArg some (by kernel_rfl))
 f217:=Tryz.func116.trans (congrArg some (by kernel_rfl))
 f266:=Tryz.func157.trans (congrArg some (by kernel_rfl))
 t3:=Tryz.underlying3
 a3:=Tryz.isAgg3
 z3:=Tryz.sizeOf3
 v3:=Tryz.zeroValue3
 t5:=Tryz.underlying5
 a5:=Tryz.isAgg5
 z5:=Tryz.sizeOf5
 v5:=Tryz.zeroValue5
 t9:=Tryz.underlying9
 a9:=Tryz.isAgg9
 z9:=Tryz.sizeOf9
 v9:=Tryz.zeroValue9 }
open Go.RowKit in
theorem Tryz.strings_IndexByte (s:ByteArray) (c:Int) (w:World) :
 Calls Tryz.prog 86 #[.string s,.int .u8 c] w fun e w'=>e = .returned (.int .i64 (Lib.indexByte s.data.toList c.toNat.toUInt8))∧w'=w:=Any.strings_IndexByte Tryz.lays137 s c w
def Tryz.lays211_ren:Go.Shelf.Ren:=⟨fun|211=>200|207=>197|n=>n,fun|9=>9|4=>4|3=>3|n=>n,fun|n=>n⟩
def Tryz.lays104_ren:Go.Shelf.Ren:=⟨fun|104=>176|211=>200|207=>197|n=>n,fun|9=>9|4=>4|24=>24|3=>3|n=>n,fun|n=>n⟩
theorem Tryz.lays104:Go.Proofs.Lays.n104 Tryz.prog Tryz.lays104_ren:={
 mixed:=by kernel_rfl
 f104:=Tryz.func176.trans (congrArg some (by kernel_rfl))
 f207:=Tryz.func197.trans (congrArg some (by kernel_rfl))
 f211:=Tryz.func200.trans (congrArg some (by kernel_rfl))
 t3:=Tryz.underlying3
 a3:=Tryz.isAgg3
 z3:=Tryz.sizeOf3
 v3:=Tryz.zeroValue3
 t4:=Tryz.underlying4
 a4:=Tryz.isAgg4
 z4:=Tryz.sizeOf4
 v4:=Tryz.zeroValue4
 t9:=Tryz.underlying9
 a9:=Tryz.isAgg9
 z9:=Tryz.sizeOf9
 v9:=Tryz.zeroValue9
 t24:=Tryz.underlying24
 a24:=Tryz.isAgg24
 z24:=Tryz.sizeOf24
 v24:=Tryz.zeroValue24 }
open Go.RowKit in
theorem Tryz.strings_CutSuffix (s p:ByteArray) (w:World) (hs:s.size≤9223372036854775807) :
 Calls Tryz.prog 176 #[.string s,.string p] w fun e w'=>e = .returned (.tuple #[.string ⟨(Lib.trimSuffix s.data.toList p.data.toList).toArray⟩,.bool (Lib.hasSuffix s.data.toList p.data.toList)])∧w'=w:=Any.strings_CutSuffix Tryz.lays104 s p w hs
def Tryz.laysC245_ren:Go.Shelf.Ren:=⟨fun|245=>218|279=>229|280=>230|281=>231|282=>232|316=>233|171=>235|205=>234|243=>236|246=>237|283=>238|284=>239|285=>240|286=>241|129=>243|317=>242|318=>244|319=>245|320=>246|337=>247|338=>248|n=>n,fun|9=>9|3=>3|75=>59|167=>257|4=>4|168=>259|210=>263|37=>27|0=>0|127=>93|145=>267|143=>265|2=>2|171=>269|53=>231|5=>5|173=>272|212=>275|51=>99|20=>20|213=>276|46=>208|232=>279|233=>280|80=>62|n=>n,fun|15=>3|16=>4|17=>5|18=>6|19=>7|n=>n⟩
theorem Tryz.laysC245:Go.Proofs.LaysC.n245 Tryz.prog Tryz.laysC245_ren:={
 mixed:=by kernel_rfl
 f129:=Tryz.func243.trans (congrArg some (by kernel_rfl))
 f171:=Tryz.func235.trans (congrArg some (by kernel_rfl))
 f205:=Tryz.func234.trans (congrArg some (by kernel_rfl))
 f243:=Tryz.func236.trans (congrArg some (by kernel_rfl))
 f245:=Tryz.func218.trans (congrArg some (by kernel_rfl))
 f246:=Tryz.func237.trans (congrArg some (by kernel_rfl))
 f279:=Tryz.func229.trans (congrArg some (by kernel_rfl))
 f280:=Tryz.func230.trans (congrArg some (by kernel_rfl))
 f281:=Tryz.func231.trans (congrArg some (by kernel_rfl))
 f282:=Tryz.func232.trans (congrArg some (by kernel_rfl))
 f283:=Tryz.func238.trans (congrArg some (by kernel_rfl))
 f284:=Tryz.func239.trans (congrArg some (by kernel_rfl))
 f285:=Tryz.func240.trans (congrArg some (by kernel_rfl))
 f286:=Tryz.func241.trans (congrArg some (by kernel_rfl))
 f316:=Tryz.func233.trans (congrArg some (by kernel_rfl))
 f317:=Tryz.func242.trans (congrArg some (by kernel_rfl))
 f318:=Tryz.func244.trans (congrArg some (by kernel_rfl))
 f319:=Tryz.func245.trans (congrArg some (by kernel_rfl))
 f320:=Tryz.func246.trans (congrArg some (by kernel_rfl))
 f337:=Tryz.func247.trans (congrArg some (by kernel_rfl))
 f338:=Tryz.func248.trans (congrArg some (by kernel_rfl))
 t0:=Tryz.underlying0
 a0:=Tryz.isAgg0
 z0:=Tryz.sizeOf0
 v0:=Tryz.zeroValue0
 t2:=Tryz.underlying2
 a2:=Tryz.isAgg2
 z2:=Tryz.sizeOf2
 v2:=Tryz.zeroValue2
 t3:=Tryz.underlying3
 a3:=Tryz.isAgg3
 z3:=Tryz.sizeOf3
 v3:=Tryz.zeroValue3
 t4:=Tryz.underlying4
 a4:=Tryz.isAgg4
 z4:=Tryz.sizeOf4
 v4:=Tryz.zeroValue4
 t5:=Tryz.underlying5
 a5:=Tryz.isAgg5
 z5:=Tryz.sizeOf5
 v5:=Tryz.zeroValue5
 t9:=Tryz.underlying9
 a9:=Tryz.isAgg9
 z9:=Tryz.sizeOf9
 v9:=Tryz.zeroValue9
 t20:=Tryz.underlying20
 a20:=Tryz.isAgg20
 z20:=Tryz.sizeOf20
 v20:=Tryz.zeroValue20
 t37:=Tryz.underlying27
 a37:=Tryz.isAgg27
 z37:=Tryz.sizeOf27
 v37:=Tryz.zeroValue27
 t46:=Tryz.underlying208
 a46:=Tryz.isAgg208
 z46:=Tryz.sizeOf208
 v46:=Tryz.zeroValue208
 t51:=Tryz.underlying99
 a51:=Tryz.isAgg99
 z51:=Tryz.sizeOf99
 v51:=Tryz.zeroValue99
 t53:=Tryz.underlying231
 a53:=Tryz.isAgg231
 z53:=Tryz.sizeOf231
 v53:=Tryz.zeroValue231
 t75:=Tryz.underlying59
 a75:=Tryz.isAgg59
 z75:=Tryz.sizeOf59
 v75:=Tryz.zeroValue59
 t127:=Tryz.underlying93
 a127:=Tryz.isAgg93
 z127:=Tryz.sizeOf93
 v127:=Tryz.zeroValue93
 t143:=Tryz.underlying265
 a143:=Tryz.isAgg265
 z143:=Tryz.sizeOf265
 v143:=Tryz.zeroValue265
 t145:=Tryz.underlying267
 a145:=Tryz.isAgg267
 z145:=Tryz.sizeOf267
 v145:=Tryz.zeroValue267
 t167:=Tryz.underlying257
 a167:=Tryz.isAgg257
 z167:=Tryz.sizeOf257
 v167:=Tryz.zeroValue257
 t168:=Tryz.underlying259
 a168:=Tryz.isAgg259
 z168:=Tryz.sizeOf259
 v168:=Tryz.zeroValue259
 t171:=Tryz.underlying269
 a171:=Tryz.isAgg269
 z171:=Tryz.sizeOf269
 v171:=Tryz.zeroValue269
 t173:=Tryz.underlying272
 a173:=Tryz.isAgg272
 z173:=Tryz.sizeOf272
 v173:=Tryz.zeroValue272
 t210:=Tryz.underlying263
 a210:=Tryz.isAgg263
 z210:=Tryz.sizeOf263
 v210:=Tryz.zeroValue263
 t212:=Tryz.underlying275
 a212:=Tryz.isAgg275
 z212:=Tryz.sizeOf275
 v212:=Tryz.zeroValue275
 t213:=Tryz.underlying276
 a213:=Tryz.isAgg276
 z213:=Tryz.sizeOf276
 t232:=Tryz.underlying279
 a232:=Tryz.isAgg279
 z232:=Tryz.sizeOf279
 v232:=Tryz.zeroValue279
 t233:=Tryz.underlying280
 a233:=Tryz.isAgg280
 z233:=Tryz.sizeOf280
 v233:=Tryz.zeroValue280
 g15:=by kernel_rfl
 g16:=by kernel_rfl
 g17:=by kernel_rfl
 g18:=by kernel_rfl
 g19:=by kernel_rfl
 t80:=Tryz.underlying62
 a80:=Tryz.isAgg62
 z80:=Tryz.sizeOf62
 v80:=Tryz.zeroValue62
 i0:=by kernel_rfl
 i2:=by kernel_rfl
 i3:=by kernel_rfl
 i4:=by kernel_rfl
 i5:=by kernel_rfl
 i9:=by kernel_rfl
 i20:=by kernel_rfl
 i37:=by kernel_rfl
 i46:=by kernel_rfl
 i51:=by kernel_rfl
 i53:=by kernel_rfl
 i75:=by kernel_rfl
 i80:=by kernel_rfl
 i127:=by kernel_rfl
 i143:=by kernel_rfl
 i145:=by kernel_rfl
 i167:=by kernel_rfl
 i168:=by kernel_rfl
 i171:=by kernel_rfl
 i173:=by kernel_rfl
 i210:=by kernel_rfl
 i212:=by kernel_rfl
 i232:=by kernel_rfl
 i233:=by kernel_rfl
 m15:=by kernel_rfl
 m16:=by kernel_rfl
 m17:=by kernel_rfl
 m18:=by kernel_rfl
 m19:=by kernel_rfl
 c0:=by kernel_rfl
 c2:=by kernel_rfl
 c3:=by kernel_rfl
 c4:=by kernel_rfl
 c5:=by kernel_rfl
 c9:=by kernel_rfl
 c20:=by kernel_rfl
 c37:=by kernel_rfl
 c46:=by kernel_rfl
 c51:=by kernel_rfl
 c53:=by kernel_rfl
 c75:=by kernel_rfl
 c80:=by kernel_rfl
 c127:=by kernel_rfl
 c143:=by kernel_rfl
 c145:=by kernel_rfl
 c167:=by kernel_rfl
 c168:=by kernel_rfl
 c171:=by kernel_rfl
 c173:=by kernel_rfl
 c210:=by kernel_rfl
 c212:=by kernel_rfl
 c213:=by kernel_rfl
 c232:=by kernel_rfl
 c233:=by kernel_rfl }
open Go.RowKit in
theorem Tryz.strconv_toError_syntax (fn s:ByteArray) (base bits:Int) (ev:Value) (w:World) (hlim:s.size≤281474976710656) (hv:w.cell? ⟨3,0,none⟩=some ev) (hev:ev = .nilIface∨∃ te pe,ev = .iface te pe) :
 Calls Tryz.prog 218 #[.string fn,.string s,.int .i64 base,.int .i64 bits,.iface 257 (.int .i64 2)] w fun e w' => ∃ N,e = .returned (.iface 259 (.pointer (some ⟨N,0,none⟩)))∧w.heap.size≤N∧w'.heap[N]? = some (.cells #[.string fn,.string s,ev] 263 (0,0))∧Below w.heap.size w w':=Any.strconv_toError_syntax Tryz.laysC245 fn s base bits ev w hlim hv hev
def Tryz.lays321_ren:Go.Shelf.Ren:=⟨fun|321=>227|n=>n,fun|5=>5|n=>n,fun|n=>n⟩
theorem Tryz.lays321:Go.Proofs.Lays.n321 Tryz.prog Tryz.lays321_ren:={
 mixed:=by kernel_rfl
 f321:=Tryz.func227.trans (congrArg some (by kernel_rfl))
 t5:=Tryz.underlying5
 a5:=Tryz.isAgg5
 z5:=Tryz.sizeOf5
 v5:=Tryz.zeroValue5 }
open Go.RowKit in
theorem Tryz.internal_strconv_lower (c:Int) (w:World) :
 Calls Tryz.prog 227 #[.int .u8 c] w fun e w'=>e = .returned (.int .u8 (bits .or .u8 c 32))∧w'=w:=Any.internal_strconv_lower Tryz.lays321 c w
def Tryz.lays287_ren:Go.Shelf.Ren:=⟨fun|287=>217|321=>227|322=>228|n=>n,fun|9=>9|3=>3|53=>231|75=>59|4=>4|167=>257|5=>5|46=>208|37=>27|0=>0|21=>21|80=>62|n=>n,fun|n=>n⟩
theorem Tryz.lays287:Go.Proofs.Lays.n287 Tryz.prog Tryz.lays287_ren:={
 mixed:=by kernel_rfl
 f287:=Tryz.func217.trans (congrArg some (by kernel_rfl))
 f321:=Tryz.func227.trans (congrArg some (by kernel_rfl))
 f322:=Tryz.func228.trans (congrArg some (by kernel_rfl))
 t0:=Tryz.underlying0
 a0:=Tryz.isAgg0
 z0:=Tryz.sizeOf0
 v0:=Tryz.zeroValue0
 t3:=Tryz.underlying3
 a3:=Tryz.isAgg3
 z3:=Tryz.sizeOf3
 v3:=Tryz.zeroValue3
 t4:=Tryz.underlying4
 a4:=Tryz.isAgg4
 z4:=Tryz.sizeOf4
 v4:=Tryz.zeroValue4
 t5:=Tryz.underlying5
 a5:=Tryz.isAgg5
 z5:=Tryz.sizeOf5
 v5:=Tryz.zeroValue5
 t9:=Tryz.underlying9
 a9:=Tryz.isAgg9
 z9:=Tryz.sizeOf9
 v9:=Tryz.zeroValue9
 t21:=Tryz.underlying21
 a21:=Tryz.isAgg21
 z21:=Tryz.sizeOf21
 v21:=Tryz.zeroValue21
 t37:=Tryz.underlying27
 a37:=Tryz.isAgg27
 z37:=Tryz.sizeOf27
 v37:=Tryz.zeroValue27
 t46:=Tryz.underlying208
 a46:=Tryz.isAgg208
 z46:=Tryz.sizeOf208
 v46:=Tryz.zeroValue208
 t53:=Tryz.underlying231
 a53:=Tryz.isAgg231
 z53:=Tryz.sizeOf231
 v53:=Tryz.zeroValue231
 t75:=Tryz.underlying59
 a75:=Tryz.isAgg59
 z75:=Tryz.sizeOf59
 v75:=Tryz.zeroValue59
 t167:=Tryz.underlying257
 a167:=Tryz.isAgg257
 z167:=Tryz.sizeOf257
 v167:=Tryz.zeroValue257 }
open Go.RowKit in
theorem Tryz.internal_strconv_ParseUint_empty (base bits:Int) (w:World) :
 Calls Tryz.prog 217 #[.string ⟨#[]⟩,.int .i64 base,.int .i64 bits] w fun e w'=>e = .returned (.tuple #[.int .u64 0,.iface 257 (.int .i64 2)])∧w'=w:=Any.internal_strconv_ParseUint_empty Tryz.lays287 base bits w
def Tryz.lays219_ren:Go.Shelf.Ren:=⟨fun|219=>140|217=>116|225=>183|224=>184|267=>185|266=>157|314=>203|n=>n,fun|9=>9|3=>3|4=>4|5=>5|46=>208|146=>238|51=>99|n=>n,fun|1=>0|n=>n⟩
def Tryz.lays143_ren:Go.Shelf.Ren:=⟨fun|143=>101|219=>140|217=>116|225=>183|224=>184|267=>185|266=>157|314=>203|n=>n,fun|9=>9|3=>3|4=>4|5=>5|46=>208|146=>238|51=>99|n=>n,fun|1=>0|n=>n⟩
theorem Tryz.lays143:Go.Proofs.Lays.n143 Tryz.prog Tryz.lays143_ren:={
 mixed:=by kernel_rfl
 f143:=Tryz.func101.trans (congrArg some (by kernel_rfl))
 f217:=Tryz.func116.trans (congrArg some (by kernel_rfl))
 f219:=Tryz.func140.trans (congrArg some (by kernel_rfl))
 f224:=Tryz.func184.trans (congrArg some (by kernel_rfl))
 f225:=Tryz.func183.trans (congrArg some (by kernel_rfl))
 f266:=Tryz.func157.trans (congrArg some (by kernel_rfl))
 f267:=Tryz.func185.trans (congrArg some (by kernel_rfl))
 f314:=Tryz.func203.trans (congrArg some (by kernel_rfl))
 t3:=Tryz.underlying3
 a3:=Tryz.isAgg3
 z3:=Tryz.sizeOf3
 v3:=Tryz.zeroValue3
 t4:=Tryz.underlying4
 a4:=Tryz.isAgg4
 z4:=Tryz.sizeOf4
 v4:=Tryz.zeroValue4
 t5:=Tryz.underlying5
 a5:=Tryz.isAgg5
 z5:=Tryz.sizeOf5
 v5:=Tryz.zeroValue5
 t9:=Tryz.underlying9
 a9:=Tryz.isAgg9
 z9:=Tryz.sizeOf9
 v9:=Tryz.zeroValue9
 t46:=Tryz.underlying208
 a46:=Tryz.isAgg208
 z46:=Tryz.sizeOf208
 v46:=Tryz.zeroValue208
 t51:=Tryz.underlying99
 a51:=Tryz.isAgg99
 z51:=Tryz.sizeOf99
 v51:=Tryz.zeroValue99
 t146:=Tryz.underlying238
 a146:=Tryz.isAgg238
 z146:=Tryz.sizeOf238
 v146:=Tryz.zeroValue238
 g1:=by kernel_rfl }
open Go.RowKit Go.Lib in
theorem Tryz.strings_Index (s sub:ByteArray) (m:Int) (w:World) (hs:s.size<4294967281) (hm:w.cell? ⟨0,0,none⟩=some (.int .i64 m)) :
 Calls Tryz.prog 101 #[.string s,.string sub] w fun e w'=>e = .returned (.int .i64 (Lib.index s.data.toList sub.data.toList))∧w'=w:=Any.strings_Index Tryz.lays143 s sub m w hs hm
def Tryz.lays145_ren:Go.Shelf.Ren:=⟨fun|145=>130|220=>177|219=>140|217=>116|225=>183|224=>184|267=>185|266=>157|314=>203|n=>n,fun|9=>9|4=>4|59=>160|3=>3|5=>5|46=>208|146=>238|51=>99|n=>n,fun|1=>0|n=>n⟩
theorem Tryz.lays145:Go.Proofs.Lays.n145 Tryz.prog Tryz.lays145_ren:={
 mixed:=by kernel_rfl
 f145:=Tryz.func130.trans (congrArg some (by kernel_rfl))
 f217:=Tryz.func116.trans (congrArg some (by kernel_rfl))
 f219:=Tryz.func140.trans (congrArg some (by kernel_rfl))
 f220:=Tryz.func177.trans (congrArg some (by kernel_rfl))
 f224:=Tryz.func184.trans (congrArg some (by kernel_rfl))
 f225:=Tryz.func183.trans (congrArg some (by kernel_rfl))
 f266:=Tryz.func157.trans (congrArg some (by kernel_rfl))
 f267:=Tryz.func185.trans (congrArg some (by kernel_rfl))
 f314:=Tryz.func203.trans (congrArg some (by kernel_rfl))
 t3:=Tryz.underlying3
 a3:=Tryz.isAgg3
 z3:=Tryz.sizeOf3
 v3:=Tryz.zeroValue3
 t4:=Tryz.underlying4
 a4:=Tryz.isAgg4
 z4:=Tryz.sizeOf4
 v4:=Tryz.zeroValue4
 t5:=Tryz.underlying5
 a5:=Tryz.isAgg5
 z5:=Tryz.sizeOf5
 v5:=Tryz.zeroValue5
 t9:=Tryz.underlying9
 a9:=Tryz.isAgg9
 z9:=Tryz.sizeOf9
 v9:=Tryz.zeroValue9
 t46:=Tryz.underlying208
 a46:=Tryz.isAgg208
 z46:=Tryz.sizeOf208
 v46:=Tryz.zeroValue208
 t51:=Tryz.underlying99
 a51:=Tryz.isAgg99
 z51:=Tryz.sizeOf99
 v51:=Tryz.zeroValue99
 t59:=Tryz.underlying160
 a59:=Tryz.isAgg160
 z59:=Tryz.sizeOf160
 v59:=Tryz.zeroValue160
 t146:=Tryz.underlying238
 a146:=Tryz.isAgg238
 z146:=Tryz.sizeOf238
 v146:=Tryz.zeroValue238
 g1:=by kernel_rfl }
open Go.RowKit Go.Lib in
theorem Tryz.strings_Cut (s sep:ByteArray) (m:Int) (w:World) (hs:s.size<4294967281) (hm:w.cell? ⟨0,0,none⟩=some (.int .i64 m)) :
 Calls Tryz.prog 130 #[.string s,.string sep] w fun e w'=>e = .returned (.tuple #[.string ⟨(Lib.cut s.data.toList sep.data.toList).1.toArray⟩,.string ⟨(Lib.cut s.data.toList sep.data.toList).2.1.toArray⟩,.bool (Lib.cut s.data.toList sep.data.toList).2.2])∧∃ n,w'=w.drewN n:=Any.strings_Cut Tryz.lays145 s sep m w hs hm
def Tryz.lays222_ren:Go.Shelf.Ren:=⟨fun|222=>226|n=>n,fun|9=>9|5=>5|3=>3|4=>4|n=>n,fun|n=>n⟩
def Tryz.lays149_ren:Go.Shelf.Ren:=⟨fun|149=>216|222=>226|n=>n,fun|9=>9|5=>5|3=>3|4=>4|n=>n,fun|n=>n⟩
theorem Tryz.lays149:Go.Proofs.Lays.n149 Tryz.prog Tryz.lays149_ren:={
 mixed:=by kernel_rfl
 f149:=Tryz.func216.trans (congrArg some (by kernel_rfl))
 f222:=Tryz.func226.trans (congrArg some (by kernel_rfl))
 t3:=Tryz.underlying3
 a3:=Tryz.isAgg3
 z3:=Tryz.sizeOf3
 v3:=Tryz.zeroValue3
 t4:=Tryz.underlying4
 a4:=Tryz.isAgg4
 z4:=Tryz.sizeOf4
 v4:=Tryz.zeroValue4
 t5:=Tryz.underlying5
 a5:=Tryz.isAgg5
 z5:=Tryz.sizeOf5
 v5:=Tryz.zeroValue5
 t9:=Tryz.underlying9
 a9:=Tryz.isAgg9
 z9:=Tryz.sizeOf9
 v9:=Tryz.zeroValue9 }
open Go.RowKit Go.Lib in
theorem Tryz.strings_LastIndexByte (s:ByteArray) (c:Int) (hs:s.size<4611686018427387904) (w:World) :
 Calls Tryz.prog 216 #[.string s,.int .u8 c] w fun e w'=>e = .returned (.int .i64 (Lib.lastIndexByte s c))∧w'=w:=Any.strings_LastIndexByte Tryz.lays149 s c hs w
def Tryz.lays99_ren:Go.Shelf.Ren:=⟨fun|99=>38|206=>65|n=>n,fun|9=>9|4=>4|3=>3|n=>n,fun|n=>n⟩
theorem Tryz.lays99:Go.Proofs.Lays.n99 Tryz.prog Tryz.lays99_ren:={
 mixed:=by kernel_rfl
 f99:=Tryz.func38.trans (congrArg some (by kernel_rfl))
 f206:=Tryz.func65.trans (congrArg some (by kernel_rfl))
 t3:=Tryz.underlying3
 a3:=Tryz.isAgg3
 z3:=Tryz.sizeOf3
 v3:=Tryz.zeroValue3
 t4:=Tryz.underlying4
 a4:=Tryz.isAgg4
 z4:=Tryz.sizeOf4
 v4:=Tryz.zeroValue4
 t9:=Tryz.underlying9
 a9:=Tryz.isAgg9
 z9:=Tryz.sizeOf9
 v9:=Tryz.zeroValue9 }
open Go.RowKit Go.Lib in
theorem Tryz.strings_HasPrefix (s p:ByteArray) (w:World) :
 Calls Tryz.prog 38 #[.string s,.string p] w fun e w'=>e = .returned (.bool (Lib.hasPrefix s.data.toList p.data.toList))∧w'=w:=Any.strings_HasPrefix Tryz.lays99 s p w
def Tryz.lays100_ren:Go.Shelf.Ren:=⟨fun|100=>165|207=>197|n=>n,fun|9=>9|4=>4|3=>3|n=>n,fun|n=>n⟩
theorem Tryz.lays100:Go.Proofs.Lays.n100 Tryz.prog Tryz.lays100_ren:={
 mixed:=by kernel_rfl
 f100:=Tryz.func165.trans (congrArg some (by kernel_rfl))
 f207:=Tryz.func197.trans (congrArg some (by kernel_rfl))
 t3:=Tryz.underlying3
 a3:=Tryz.isAgg3
 z3:=Tryz.sizeOf3
 v3:=Tryz.zeroValue3
 t4:=Tryz.underlying4
 a4:=Tryz.isAgg4
 z4:=Tryz.sizeOf4
 v4:=Tryz.zeroValue4
 t9:=Tryz.underlying9
 a9:=Tryz.isAgg9
 z9:=Tryz.sizeOf9
 v9:=Tryz.zeroValue9 }
open Go.RowKit Go.Lib in
theorem Tryz.strings_HasSuffix (s p:ByteArray) (w:World) (hs:s.size≤9223372036854775807) :
 Calls Tryz.prog 165 #[.string s,.string p] w fun e w'=>e = .returned (.bool (Lib.hasSuffix s.data.toList p.data.toList))∧w'=w:=Any.strings_HasSuffix Tryz.lays100 s p w hs
def Tryz.lays154_ren:Go.Shelf.Ren:=⟨fun|154=>72|138=>99|165=>100|143=>101|166=>44|197=>102|169=>45|195=>137|218=>138|240=>70|241=>139|219=>140|260=>141|276=>98|277=>182|217=>116|225=>183|224=>184|267=>185|266=>157|314=>203|n=>n,fun|9=>9|3=>3|4=>4|72=>54|0=>0|76=>60|105=>136|21=>21|5=>5|70=>52|20=>20|37=>27|75=>59|127=>93|164=>132|46=>208|119=>174|139=>211|138=>210|146=>238|51=>99|80=>62|n=>n,fun|1=>0|3=>1|4=>2|n=>n⟩
def Tryz.lays155_ren:Go.Shelf.Ren:=⟨fun|155=>47|154=>72|138=>99|165=>100|143=>101|166=>44|197=>102|169=>45|195=>137|218=>138|240=>70|241=>139|219=>140|260=>141|276=>98|277=>182|217=>116|225=>183|224=>184|267=>185|266=>157|314=>203|n=>n,fun|9=>9|3=>3|4=>4|72=>54|0=>0|76=>60|105=>136|21=>21|5=>5|70=>52|20=>20|37=>27|75=>59|127=>93|164=>132|46=>208|119=>174|139=>211|138=>210|146=>238|51=>99|80=>62|n=>n,fun|1=>0|3=>1|4=>2|n=>n⟩
theorem Tryz.lays155:Go.Proofs.Lays.n155 Tryz.prog Tryz.lays155_ren:={
 mixed:=by kernel_rfl
 f138:=Tryz.func99.trans (congrArg some (by kernel_rfl))
 f143:=Tryz.func101.trans (congrArg some (by kernel_rfl))
 f154:=Tryz.func72.trans (congrArg some (by kernel_rfl))
 f155:=Tryz.func47.trans (congrArg some (by kernel_rfl))
 f165:=Tryz.func100.trans (congrArg some (by kernel_rfl))
 f166:=Tryz.func44.trans (congrArg some (by kernel_rfl))
 f169:=Tryz.func45.trans (congrArg some (by kernel_rfl))
 f195:=Tryz.func137.trans (congrArg some (by kernel_rfl))
 f197:=Tryz.func102.trans (congrArg some (by kernel_rfl))
 f217:=Tryz.func116.trans (congrArg some (by kernel_rfl))
 f218:=Tryz.func138.trans (congrArg some (by kernel_rfl))
 f219:=Tryz.func140.trans (congrArg some (by kernel_rfl))
 f224:=Tryz.func184.trans (congrArg some (by kernel_rfl))
 f225:=Tryz.func183.trans (congrArg some (by kernel_rfl))
 f240:=Tryz.func70.trans (congrArg some (by kernel_rfl))
 f241:=Tryz.func139.trans (congrArg some (by kernel_rfl))
 f260:=Tryz.func141.trans (congrArg some (by kernel_rfl))
 f266:=Tryz.func157.trans (congrArg some (by kernel_rfl))
 f267:=Tryz.func185.trans (congrArg some (by kernel_rfl))
 f276:=Tryz.func98.trans (congrArg some (by kernel_rfl))
 f277:=Tryz.func182.trans (congrArg some (by kernel_rfl))
 f314:=Tryz.func203.trans (congrArg some (by kernel_rfl))
 t0:=Tryz.underlying0
 a0:=Tryz.isAgg0
 z0:=Tryz.sizeOf0
 v0:=Tryz.zeroValue0
 t3:=Tryz.underlying3
 a3:=Tryz.isAgg3
 z3:=Tryz.sizeOf3
 v3:=Tryz.zeroValue3
 t4:=Tryz.underlying4
 a4:=Tryz.isAgg4
 z4:=Tryz.sizeOf4
 v4:=Tryz.zeroValue4
 t5:=Tryz.underlying5
 a5:=Tryz.isAgg5
 z5:=Tryz.sizeOf5
 v5:=Tryz.zeroValue5
 t9:=Tryz.underlying9
 a9:=Tryz.isAgg9
 z9:=Tryz.sizeOf9
 v9:=Tryz.zeroValue9
 t20:=Tryz.underlying20
 a20:=Tryz.isAgg20
 z20:=Tryz.sizeOf20
 v20:=Tryz.zeroValue20
 t21:=Tryz.underlying21
 a21:=Tryz.isAgg21
 z21:=Tryz.sizeOf21
 v21:=Tryz.zeroValue21
 t37:=Tryz.underlying27
 a37:=Tryz.isAgg27
 z37:=Tryz.sizeOf27
 v37:=Tryz.zeroValue27
 t46:=Tryz.underlying208
 a46:=Tryz.isAgg208
 z46:=Tryz.sizeOf208
 v46:=Tryz.zeroValue208
 t51:=Tryz.underlying99
 a51:=Tryz.isAgg99
 z51:=Tryz.sizeOf99
 v51:=Tryz.zeroValue99
 t70:=Tryz.underlying52
 a70:=Tryz.isAgg52
 z70:=Tryz.sizeOf52
 v70:=Tryz.zeroValue52
 t72:=Tryz.underlying54
 a72:=Tryz.isAgg54
 z72:=Tryz.sizeOf54
 v72:=Tryz.zeroValue54
 t75:=Tryz.underlying59
 a75:=Tryz.isAgg59
 z75:=Tryz.sizeOf59
 v75:=Tryz.zeroValue59
 t76:=Tryz.underlying60
 a76:=Tryz.isAgg60
 z76:=Tryz.sizeOf60
 v76:=Tryz.zeroValue60
 t105:=Tryz.underlying136
 a105:=Tryz.isAgg136
 z105:=Tryz.sizeOf136
 v105:=Tryz.zeroValue136
 t119:=Tryz.underlying174
 a119:=Tryz.isAgg174
 z119:=Tryz.sizeOf174
 t127:=Tryz.underlying93
 a127:=Tryz.isAgg93
 z127:=Tryz.sizeOf93
 v127:=Tryz.zeroValue93
 t138:=Tryz.underlying210
 a138:=Tryz.isAgg210
 z138:=Tryz.sizeOf210
 v138:=Tryz.zeroValue210
 t139:=Tryz.underlying211
 a139:=Tryz.isAgg211
 z139:=Tryz.sizeOf211
 v139:=Tryz.zeroValue211
 t146:=Tryz.underlying238
 a146:=Tryz.isAgg238
 z146:=Tryz.sizeOf238
 v146:=Tryz.zeroValue238
 t164:=Tryz.underlying132
 a164:=Tryz.isAgg132
 z164:=Tryz.sizeOf132
 v164:=Tryz.zeroValue132
 g1:=by kernel_rfl
 g3:=by kernel_rfl
 g4:=by kernel_rfl }
theorem Tryz.Builder_Extra_155:Builder.Extra Tryz.prog Tryz.lays155_ren:={
 sizeBuilder:=by kernel_rfl
 liesBuilder:=by kernel_rfl
 t5:=Tryz.underlying5
 a5:=Tryz.isAgg5
 z5:=Tryz.sizeOf5
 v5:=Tryz.zeroValue5
 infoByte:=by kernel_rfl
 cellsByte:=by kernel_rfl
 sizeByte:=by kernel_rfl
 neB5:=by decide }
open Go.RowKit Go.Lib in
theorem Tryz.strings_ReplaceAll (s old new:ByteArray) (m:Int) (w:World) (hs:s.size<4294967281) (hm:w.cell? ⟨0,0,none⟩=some (.int .i64 m)) (h1:1≤old.size) (hlen:s.size+Lib.countB s old*new.size≤140737488355328) :
 Calls Tryz.prog 47 #[.string s,.string old,.string new] w fun e w' =>
  e = .returned (.string ⟨(Lib.replaceAll s.data.toList old.data.toList new.data.toList).toArray⟩)∧Below w.heap.size w w':=Any.strings_ReplaceAll Tryz.lays155 Tryz.Builder_Extra_155 s old new m w hs hm h1 hlen
end Go.Proofs
end

section
namespace Go.Proofs.YtcecjoaeolglbaaGreatDoor.Pl
open Go
def cleanB (c:UInt8):List UInt8:=if c=0 then [239,191,189] else [c]
def cleanL (l:List UInt8):List UInt8:=l.flatMap cleanB
theorem cleanL_cons (c:UInt8) (r:List UInt8):cleanL (c::r)=cleanB c++cleanL r:=rfl
def lowB (c:UInt8):UInt8:=if 65≤c∧c≤90 then c+32 else c
def lowL (l:List UInt8):List UInt8:=l.map lowB
theorem index_cons (d c:UInt8) (r:List UInt8):Lib.index (d::r) [c]=if d=c then 0 else if Lib.index r [c] = -1 then -1 else Lib.index r [c]+1:=by
 conv=>lhs;unfold Lib.index
 by_cases h:d=c
 · subst h;simp [List.isPrefixOf]
 · have h':([c].isPrefixOf (d::r))=false:=by simp [List.isPrefixOf];exact fun e=>h e.symm
   rw [h',if_neg h]
   simp
theorem count_cons (d c:UInt8) (r:List UInt8):Lib.count (d::r) [c]=(if d=c then 1 else 0)+Lib.count r [c]:=by
 have hne:([c]:List UInt8)≠[]:=by simp
 by_cases h:d=c
 · subst h
   rw [Lib.count_hit (i:=0) hne (by rw [index_cons];simp)];simp
 · have hi:=index_cons d c r
   rw [if_neg h] at hi
   by_cases hm:Lib.index r [c] = -1
   · rw [if_pos hm] at hi
     rw [Lib.count_miss hi,Lib.count_miss hm];simp [h]
   · rw [if_neg hm] at hi
     obtain ⟨i,hi2⟩:∃ i:Nat,Lib.index r [c]=i:=⟨(Lib.index r [c]).toNat,by have:=Lib.index_ge r [c];omega⟩
     rw [Lib.count_hit (i:=i+1) hne (by rw [hi,hi2];push_cast;rfl),Lib.count_hit (i:=i) hne hi2]
     simp [h]
theorem replaceK_cons_eq (c:UInt8) (new:List UInt8) (k:Nat) (r:List UInt8):Lib.replaceK [c] new (k+1) (c::r)=new++Lib.replaceK [c] new k r:=by
 rw [Lib.replaceK_hit [c] new k (c::r) 0 (by rw [index_cons];simp)];simp
theorem replaceK_cons_ne {d c:UInt8} (h:d≠c) (new:List UInt8) (k:Nat) (r:List UInt8):Lib.replaceK [c] new k (d::r)=d::Lib.replaceK [c] new k r:=by
 cases k with
 | zero=>rfl
 | succ k =>
   have hi:=index_cons d c r
   rw [if_neg h] at hi
   by_cases hm:Lib.index r [c] = -1
   · rw [if_pos hm] at hi
     simp [Lib.replaceK,hi,hm]
   · rw [if_neg hm] at hi
     obtain ⟨i,hi2⟩:∃ i:Nat,Lib.index r [c]=i:=⟨(Lib.index r [c]).toNat,by have:=Lib.index_ge r [c];omega⟩
     rw [Lib.replaceK_hit _ _ _ _ (i+1) (by rw [hi,hi2];push_cast;rfl),Lib.replaceK_hit _ _ _ _ i hi2]
     simp
theorem replaceK_one (c:UInt8) (new:List UInt8):∀ (s:List UInt8) (k:Nat),Lib.count s [c]≤k→Lib.replaceK [c] new k s=s.flatMap fun d=>if d=c then new else [d]:=by
 intro s
 induction s with
 | nil=>intro k _;cases k<;>simp [Lib.replaceK,Lib.index]
 | cons d r ih =>
   intro k hk
   rw [count_cons] at hk
   by_cases h:d=c
   · subst h
     simp only [if_true] at hk
     obtain ⟨j,rfl⟩:∃ j,k=j+1:=⟨k - 1,by omega⟩
     rw [replaceK_cons_eq,ih j (by omega)];simp
   · rw [if_neg h] at hk
     rw [replaceK_cons_ne h,ih k (by omega)];simp [h]
theorem replaceAll_one (c:UInt8) (new s:List UInt8):Lib.replaceAll s [c] new=s.flatMap fun d=>if d=c then new else [d]:=by
 unfold Lib.replaceAll Lib.replace
 split
 · rename_i h
   have h:=beq_iff_eq.1 h
   subst h
   induction s with
   | nil=>rfl
   | cons d r ih =>
     rw [List.flatMap_cons,← ih]
     by_cases h:d=c
     · subst h;simp
     · simp [h]
 · exact replaceK_one c new s _ (by simp [Lib.replaceNum])
theorem replaceAll_clean (s:List UInt8):Lib.replaceAll s [0] [239,191,189]=cleanL s:=by rw [replaceAll_one];rfl
theorem count_le_length (c:UInt8) (s:List UInt8):Lib.count s [c]≤s.length:=by
 induction s with
 | nil=>simp [Lib.count,Lib.countFrom,Lib.index]
 | cons d r ih=>rw [count_cons,List.length_cons];split<;>omega
end Go.Proofs.YtcecjoaeolglbaaGreatDoor.Pl
end

section
namespace Go.Proofs.YtcecjoaeolglbaaGreatDoor.Hand
open Go.RowKit Go.Proofs.YtcecjoaeolglbaaGreatDoor.Pl
structure Glob (w:World):Prop where
 mk ::
 out:∃ m,w.cell? ⟨0,0,none⟩=some (.int .i64 m)
 err:∃ ev,w.cell? ⟨3,0,none⟩=some ev∧(ev = .nilIface∨∃ te pe,ev = .iface te pe)
theorem Glob.step {w W:World} (h:Glob w) (hb:Below w.heap.size w W):Glob W where
 out:=by
  obtain ⟨m,hm⟩:=h.out
  exact ⟨m,(hb.cell (World.block_lt_of_cell? w _ hm)).trans hm⟩
 err:=by
  obtain ⟨ev,h1,h2⟩:=h.err
  exact ⟨ev,(hb.cell (World.block_lt_of_cell? w _ h1)).trans h1,h2⟩
def intOf:Value→Int | .int _ q=>q|_=>0
section
variable {P : Program} {a : Act} {w : World} {Q : Exit → Act → World → Prop}
theorem Exit_jump_mono {l:Nat} {J J':Act→World→Prop} (h:∀ a w,J a w→J' a w):∀ e a w,Exit.jump l J Q e a w→Exit.jump l J' Q e a w:=by
 intro e a w hq
 cases e with
 | goto l'=>exact ⟨hq.1,h _ _ hq.2⟩
 | _=>exact hq
theorem wp_scope_at {c B:Code} (l:Nat) (J:Act→World→Prop) (μ:Act→World→Nat) (hf:findLabel c l=some (.seq .skip B))
  (first:(∀ a w,J a w→B.wp P (Exit.jump l J Q) a w)→c.wp P (Exit.jump l J Q) a w)
  (pass:∀ a w,J a w→B.wp P (Exit.jump l (fun a' w'=>J a' w'∧μ a' w'<μ a w) Q) a w):(Code.scope c).wp P Q a w :=
 wp_scope_jumps l J μ hf (first fun a w hJ=>wp_mono (pass a w hJ) (Exit_jump_mono fun _ _ h=>h.1)) fun a w hJ=>wp_seq (wp_skip (pass a w hJ))
theorem wp_label_k {l:Nat} {B:Code} {K:Act→World→Prop} (hK:∀ a w,B.wp P Q a w→K a w) (hB:B.wp P Q a w):(Code.label l).wp P (Exit.then K Q) a w:=wp_label (hK _ _ hB)
end
theorem ret_str {a b:ByteArray} (h:a=b):Ending.returned (.string a) = .returned (.string b):=by rw [h]
theorem drop_cons (s:ByteArray) (pos:Nat) (h:pos<s.size):s.data.toList.drop pos=s[pos]::s.data.toList.drop (pos+1):=by
 rw [List.drop_eq_getElem_cons (by simpa using h)];rfl
def cleanBA (s:ByteArray):ByteArray:=⟨(cleanL s.data.toList).toArray⟩
set_option maxHeartbeats 400000 in
theorem clean_any (s:ByteArray) (w:World) (hs:s.size≤1000000000) (hGl:Glob w) :
  Calls Tryz.prog 21 #[.string s] w fun e w'=>e = .returned (.string (cleanBA s))∧Below w.heap.size w w':=by
 obtain ⟨m,hm⟩:=hGl.out
 have hc:=count_le_length 0 s.data.toList
 rw [Array.length_toList] at hc
 have hc2:Lib.countB s ⟨#[0]⟩≤s.size:=hc
 have C:=Lib.hid (Tryz.strings_ReplaceAll s ⟨#[0]⟩ ⟨#[239,191,189]⟩ m w (by omega) hm (Nat.le_refl 1) (by
  have e:(⟨#[239,191,189]⟩:ByteArray).size=3:=rfl
  rw [e];omega))
 clear hc hc2 hm
 go_enter Tryz.func21,Tryz.ntmps21
 go_wp2_with fail
 refine C.out.mono ?_
 rintro e w1 ⟨rfl,hb⟩
 clear C
 go_wp2
 go_ret
 exact ⟨ret_str (by show (⟨(Lib.replaceAll s.data.toList [0] [239,191,189]).toArray⟩:ByteArray)=_;rw [replaceAll_clean];rfl),hb⟩
def lines_Clean.f (a0:ByteArray):Option ByteArray:=if a0.size≤1000000000 then some (cleanBA a0) else none
theorem lines_Clean.calls (a0 r:ByteArray) (w:World) (hGl:Glob w) (h:lines_Clean.f a0=some r) :
  Calls Tryz.prog 21 #[.string a0] w fun e w'=>e = .returned (.string r)∧Below w.heap.size w w':=by
 unfold lines_Clean.f at h
 split at h
 · obtain rfl:=Option.some.inj h
   exact clean_any a0 w ‹_› hGl
 · cases h
end Go.Proofs.YtcecjoaeolglbaaGreatDoor.Hand
end

section
namespace Go.Proofs.YtcecjoaeolglbaaGreatDoor.Hand
open Go.RowKit Go.Proofs.YtcecjoaeolglbaaGreatDoor.Pl
def LowAt (s:ByteArray) (b k:Nat) (W:World):Prop :=
 ∀ j (hj:j<s.size),W.cell? ⟨b,j,none⟩=some (.int .u8 (((if j<k then lowB s[j] else s[j]).toNat:Nat):Int))∧W.frozen? ⟨b,j,none⟩=false
theorem LowAt.set {s:ByteArray} {b k:Nat} {W:World} (h:LowAt s b k W) (hk:k<s.size):LowAt s b (k+1) (W.setCell ⟨b,k,none⟩ (.int .u8 ((lowB s[k]).toNat:Int))):=by
 intro j hj
 rw [World.frozen?_setCell]
 refine ⟨?_,(h j hj).2⟩
 by_cases e:j=k
 · subst e
   rw [World.cell?_setCell_same _ _ _ (h j hj).1,if_pos (by omega)]
 · rw [World.cell?_setCell_other _ _ _ _ (by intro h';injection h' with _ h2 _;exact e h2.symm),(h j hj).1]
   by_cases h1:j<k
   · rw [if_pos h1,if_pos (by omega)]
   · rw [if_neg h1,if_neg (by omega)]
theorem LowAt.next {s:ByteArray} {b k:Nat} {W:World} (h:LowAt s b k W) (hk:k<s.size) (hc:lowB s[k]=s[k]):LowAt s b (k+1) W:=by
 intro j hj
 refine ⟨?_,(h j hj).2⟩
 rw [(h j hj).1]
 by_cases e:j=k
 · subst e
   rw [if_neg (by omega),if_pos (by omega),hc]
 · by_cases h1:j<k
   · rw [if_pos h1,if_pos (by omega)]
   · rw [if_neg h1,if_neg (by omega)]
theorem lowB_or (c:UInt8) (h1:65≤c.toNat) (h2:c.toNat≤90):bits .or .u8 (c.toNat:Int) 32=((lowB c).toNat:Int):=by
 have key:∀ n:Fin 26,bits .or .u8 ((65+n.val:Nat):Int) 32=((65+n.val+32:Nat):Int):=by decide
 have hl:(lowB c).toNat=c.toNat+32:=by
  unfold lowB
  rw [if_pos ⟨by rw [UInt8.le_iff_toNat_le];exact h1,by rw [UInt8.le_iff_toNat_le];exact h2⟩,UInt8.toNat_add]
  show (c.toNat+32) % 256=_
  omega
 have:=key ⟨c.toNat - 65,by omega⟩
 rw [show 65+(c.toNat - 65)=c.toNat from by omega] at this
 rw [this,hl]
theorem lowB_id (c:UInt8) (h:c.toNat<65∨90<c.toNat):lowB c=c:=by
 unfold lowB
 rw [if_neg]
 rintro ⟨a,b⟩
 rw [UInt8.le_iff_toNat_le] at a b
 have:(65:UInt8).toNat=65:=rfl
 have:(90:UInt8).toNat=90:=rfl
 omega
def lowBA (s:ByteArray):ByteArray:=⟨(lowL s.data.toList).toArray⟩
theorem below_bytesWorld (w:World) (e:TypeId) (s:ByteArray):Below w.heap.size w (Lib.bytesWorld w e s) :=
 ⟨by simp [Lib.bytesWorld,World.freeze,World.alloc,World.drew,-World.alloc_eq,-World.drew_eq],by simp [Lib.bytesWorld,World.freeze,World.alloc,World.drew,-World.alloc_eq,-World.drew_eq],by simp [Lib.bytesWorld,World.freeze,World.alloc,World.drew,-World.alloc_eq,-World.drew_eq],by rw [Lib.bytesWorld_size];omega,fun j hj=>Lib.bytesWorld_at_old w e s j hj⟩
set_option maxHeartbeats 400000 in
theorem lower_any (s:ByteArray) (w:World) (hs:s.size≤1000000000) :
  Calls Tryz.prog 126 #[.string s] w fun e w'=>e = .returned (.string (lowBA s))∧Below w.heap.size w w':=by
 have hconv:=Lib.run_convert_string_bytes (P:=Tryz.prog) w 9 27 5 s Tryz.underlying9 Tryz.underlying27 Tryz.underlying5
 have hL:LowAt s w.heap.size 0 (Lib.bytesWorld w 5 s):=by
  intro j hj
  refine ⟨?_,?_⟩
  · rw [Lib.bytesWorld_cell w 5 s j hj,if_neg (by omega)]
    have:s.data.toList.getD j 0=s[j]:=by
     rw [List.getD_eq_getElem?_getD,List.getElem?_eq_getElem (by simpa using hj)];rfl
    rw [this]
  · have h1:=Lib.bytesWorld_at_new w 5 s
    have h2:s.size≤(Lib.bytesCells w 5 s).size:=by simp [Lib.bytesCells]
    unfold World.frozen?
    rw [h1]
    simp
    omega
 have hb0:=below_bytesWorld w 5 s
 generalize Lib.bytesWorld w 5 s=W0 at hconv hL hb0
 generalize grownCap w s.size 0 5=cap at hconv
 have HL:=Lib.hid hL
 have HB0:=Lib.hid hb0
 clear hL hb0
 go_enter Tryz.func126,Tryz.ntmps126
 go_wp2
 clear hconv
 go_loopw [10] (fun t wr => ∃ k:Nat,k≤s.size∧t = .int .i64 k∧Below w.heap.size w wr∧LowAt s w.heap.size k wr) (fun t _=>s.size - (intOf t).toNat)
 case atStart=>exact ⟨0,by omega,rfl,HB0.out,HL.out⟩
 case round =>
  obtain ⟨k,hk,rfl,hb,hL⟩:=hrel
  by_cases hlt:k<s.size
  · have hc:=(hL k hlt).1
    rw [if_neg (by omega)] at hc
    have hf:=(hL k hlt).2
    have HL2:=Lib.hid hL
    have HB:=Lib.hid hb
    clear hL hb
    by_cases h1:65≤s[k].toNat
    · by_cases h2:s[k].toNat≤90
      · have e1:decide ((65:Int)≤(s[k].toNat:Int))=true:=by simp;omega
        have e2:decide ((s[k].toNat:Int)≤90)=true:=by simp;omega
        have hor:=lowB_or s[k] h1 h2
        go_wp2
        go_roundw
        case rel=>exact ⟨k+1,by omega,by go_num,HB.out.setCell (Nat.le_refl _) _,by first|exact HL2.out.set hlt | (rw [hor];exact HL2.out.set hlt)⟩
        case measure=>simp [intOf];omega
      · have e1:decide ((65:Int)≤(s[k].toNat:Int))=true:=by simp;omega
        have e2:decide ((s[k].toNat:Int)≤90)=false:=by simp;omega
        have hn:=HL2.out.next hlt (lowB_id _ (.inr (by omega)))
        have HN:=Lib.hid hn
        clear hn
        go_wp2
        go_roundw
        case rel=>exact ⟨k+1,by omega,by go_num,HB.out,HN.out⟩
        case measure=>simp [intOf];omega
    · have e1:decide ((65:Int)≤(s[k].toNat:Int))=false:=by simp;omega
      have hn:=HL2.out.next hlt (lowB_id _ (.inl (by omega)))
      have HN:=Lib.hid hn
      clear hn
      go_wp2
      go_roundw
      case rel=>exact ⟨k+1,by omega,by go_num,HB.out,HN.out⟩
      case measure=>simp [intOf];omega
  · obtain rfl:k=s.size:=by omega
    have hlen:(lowL s.data.toList).length=s.size:=by simp [lowL]
    have hback:=run_convert_bytes_back (P:=Tryz.prog) wr 27 9 5 ⟨w.heap.size,0,none⟩ cap (lowL s.data.toList) Tryz.underlying27 Tryz.underlying5 Tryz.underlying9 (fun j hj=>by
     have hj':j<s.size:=by omega
     have:=(hL j hj').1
     rw [if_pos (by omega)] at this
     have ha:(⟨w.heap.size,0,none⟩:Addr).add j=⟨w.heap.size,j,none⟩:=by unfold Addr.add;split<;>simp_all
     rw [ha,this]
     congr 3
     simp [lowL]
     rfl)
    rw [hlen] at hback
    have HB:=Lib.hid hb
    clear hL hb
    go_wp2
    go_ret
    exact ⟨rfl,HB.out⟩
def sign_Lower.f (a0:ByteArray):Option ByteArray:=if a0.size≤1000000000 then some (lowBA a0) else none
theorem sign_Lower.calls (a0 r:ByteArray) (w:World) (h:sign_Lower.f a0=some r) :
  Calls Tryz.prog 126 #[.string a0] w fun e w'=>e = .returned (.string r)∧Below w.heap.size w w':=by
 unfold sign_Lower.f at h
 split at h
 · obtain rfl:=Option.some.inj h
   exact lower_any a0 w ‹_›
 · cases h
end Go.Proofs.YtcecjoaeolglbaaGreatDoor.Hand
end

section
namespace Go.Proofs.YtcecjoaeolglbaaGreatDoor.Hand
open Go.RowKit
def Exit.jumps (J:Nat→Act→World→Prop) (Q:Exit→Act→World→Prop):Exit→Act→World→Prop
 | .goto l,a,w=>J l a w
 | e,a,w=>Q e a w
section
variable {P : Program} {a : Act} {w : World} {Q : Exit → Act → World → Prop}
@[go_sem] theorem Exit.jumps_ret {J:Nat→Act→World→Prop}:Exit.jumps J Q .ret a w=Q .ret a w:=rfl
@[go_sem] theorem Exit.jumps_normal {J:Nat→Act→World→Prop}:Exit.jumps J Q .normal a w=Q .normal a w:=rfl
@[go_sem] theorem Exit.jumps_exit {J:Nat→Act→World→Prop} (id:Nat):Exit.jumps J Q (.exit id) a w=Q (.exit id) a w:=rfl
@[go_sem] theorem Exit.jumps_panic {J:Nat→Act→World→Prop} (ch:List PanicEntry):Exit.jumps J Q (.panic ch) a w=Q (.panic ch) a w:=rfl
theorem Exit_jumps_mono {J J':Nat→Act→World→Prop} (h:∀ l a w,J l a w→J' l a w):∀ e a w,Exit.jumps J Q e a w→Exit.jumps J' Q e a w:=by
 intro e a w hq
 cases e with
 | goto l'=>exact h _ _ _ hq
 | _=>exact hq
theorem wp_scope_gen {c:Code} (J:Nat→Nat→Act→World→Prop)
  (pass:∀ l g a w,J l g a w→∃ rest,findLabel c l=some rest∧rest.wp P (Exit.jumps (fun l' a' w' => ∃ g',g'<g∧J l' g' a' w') Q) a w)
  (first:c.wp P (Exit.jumps (fun l a w => ∃ g,J l g a w) Q) a w):(Code.scope c).wp P Q a w:=by
 intro b k cs
 have key:∀ g l a w,J l g a w→∃ rest,findLabel c l=some rest∧∃ e a' w',Q e a' w'∧Arrives P (lone (b.at a (.code rest :: .inScope c::k)) cs w) b k cs e a' w':=by
  intro g
  induction g using Nat.strongRecOn with
  | _ g ih =>
    intro l a w hJ
    obtain ⟨rest,hf,hp⟩:=pass l g a w hJ
    refine ⟨rest,hf,?_⟩
    obtain ⟨e,a₁,w₁,hq,harr⟩:=hp b (.inScope c::k) cs
    cases e with
    | normal=>exact ⟨.normal,a₁,w₁,hq,Steps.trans harr (.one step_inScope)⟩
    | exit id=>exact ⟨.exit id,a₁,w₁,hq,fun k' hk=>harr k' (by simp [exitTo,hk])⟩
    | goto l' =>
      obtain ⟨g',hlt,hJ'⟩:=hq
      obtain ⟨rest',hf',e₂,a₂,w₂,hq₂,harr₂⟩:=ih g' hlt l' a₁ w₁ hJ'
      have hg:gotoIn l' (.inScope c::k)=some (.code rest' :: .inScope c::k):=by simp [gotoIn,hf']
      exact ⟨e₂,a₂,w₂,hq₂,.of_steps (harr _ hg) harr₂⟩
    | ret=>exact ⟨_,a₁,w₁,hq,harr⟩
    | panic ch=>exact ⟨_,a₁,w₁,hq,harr⟩
    | outgrown=>exact ⟨_,a₁,w₁,hq,harr⟩
 obtain ⟨e,a₁,w₁,hq,harr⟩:=first b (.inScope c::k) cs
 cases e with
 | normal=>exact ⟨.normal,a₁,w₁,hq,.head step_scope (Steps.trans harr (.one step_inScope))⟩
 | exit id=>exact ⟨.exit id,a₁,w₁,hq,fun k' hk => .head step_scope (harr k' (by simp [exitTo,hk]))⟩
 | goto l' =>
   obtain ⟨g',hJ'⟩:=hq
   obtain ⟨rest',hf',e₂,a₂,w₂,hq₂,harr₂⟩:=key g' l' a₁ w₁ hJ'
   have hg:gotoIn l' (.inScope c::k)=some (.code rest' :: .inScope c::k):=by simp [gotoIn,hf']
   exact ⟨e₂,a₂,w₂,hq₂,.of_steps (.head step_scope (harr _ hg)) harr₂⟩
 | ret=>exact ⟨_,a₁,w₁,hq,.of_steps (.one step_scope) harr⟩
 | panic ch=>exact ⟨_,a₁,w₁,hq,.of_steps (.one step_scope) harr⟩
 | outgrown=>exact ⟨_,a₁,w₁,hq,.of_steps (.one step_scope) harr⟩
theorem wp_scope_back {c B:Code} (l:Nat) (J:Nat→Act→World→Prop) (hf:findLabel c l=some (.seq .skip B))
  (first:(∀ g a w,J g a w→B.wp P (Exit.jumps (fun l' a' w'=>l'=l∧∃ g',J g' a' w') Q) a w)→c.wp P (Exit.jumps (fun l' a' w'=>l'=l∧∃ g',J g' a' w') Q) a w)
  (pass:∀ g a w,J g a w→B.wp P (Exit.jumps (fun l' a' w'=>l'=l∧∃ g',g'<g∧J g' a' w') Q) a w):(Code.scope c).wp P Q a w:=by
 refine wp_scope_gen (fun l' g a w=>l'=l∧J g a w) ?_ ?_
 · rintro l' g a w ⟨rfl,hJ⟩
   exact ⟨_,hf,wp_seq (wp_skip (wp_mono (pass g a w hJ) (Exit_jumps_mono fun l'' a' w' ⟨e,g',hg,h⟩=>⟨g',hg,e,h⟩)))⟩
 · refine wp_mono (first fun g a w hJ=>wp_mono (pass g a w hJ) (Exit_jumps_mono fun l'' a' w' ⟨e,g',_,h⟩=>⟨e,g',h⟩)) (Exit_jumps_mono fun l'' a' w' ⟨e,g',h⟩=>⟨g',e,h⟩)
end
end Go.Proofs.YtcecjoaeolglbaaGreatDoor.Hand
end

section
namespace Go.Proofs.YtcecjoaeolglbaaGreatDoor.Sa
open Go.RowKit Go.Proofs.YtcecjoaeolglbaaGreatDoor.K0 Go.Proofs.YtcecjoaeolglbaaGreatDoor.Hand Go.Proofs.YtcecjoaeolglbaaGreatDoorW.PrintWords Go.Proofs.YtcecjoaeolglbaaGreatDoorW.PrintLast Go.Proofs.YtcecjoaeolglbaaGreatDoorW.PrintMore
attribute [local go_sem] max2_int min2_int max_two min_two max_three min_three max_four min_four  
set_option linter.unusedVariables false
set_option linter.unusedSimpArgs false
def sign_Begins.f (a0:ByteArray) (a1:Int) (a2:ByteArray):Option (Bool):=if a1<0 then (some false) else (if a1>(a0.size:Int) then (some false) else (if (wrap64 ((a0.size:Int) - a1))<(a2.size:Int) then (some false) else (if 0≤a1 then (if a1≤(wrap64 (a1+(a2.size:Int))) then (if (wrap64 (a1+(a2.size:Int)))≤(a0.size:Int) then ((sign_Lower.f (a0.extract (a1:Int).toNat ((wrap64 (a1+(a2.size:Int))):Int).toNat)).bind fun t101=>(some (t101.toList == a2.toList))) else (none)) else (none)) else (none))))
set_option maxHeartbeats 8000000 in
set_option maxRecDepth 100000 in
theorem sign_Begins.calls (a0:ByteArray) (a1:Int) (a2:ByteArray) (r:Bool) (w:World) (h:sign_Begins.f a0 a1 a2=some r) :
  Calls Tryz.prog 95 #[.string a0,.int .i64 a1,.string a2] w fun e w'=>e = .returned (.bool r)∧Below w.heap.size w w':=by
 have HB:=Aside0.mk (Below.refl w.heap.size w)
 have H:(if a1<0 then (some false) else (if a1>(a0.size:Int) then (some false) else (if (wrap64 ((a0.size:Int) - a1))<(a2.size:Int) then (some false) else (if 0≤a1 then (if a1≤(wrap64 (a1+(a2.size:Int))) then (if (wrap64 (a1+(a2.size:Int)))≤(a0.size:Int) then ((sign_Lower.f (a0.extract (a1:Int).toNat ((wrap64 (a1+(a2.size:Int))):Int).toNat)).bind fun t101=>(some (t101.toList == a2.toList))) else (none)) else (none)) else (none)))))=some r:=h
 clear h
 by_cases c4:a1<0
 · rw [if_pos c4] at H
   have c4b0:decide (a1<0)=true:=decide_eq_true c4
   clear c4
   obtain rfl:=Option.some.inj H
   go_enter Tryz.func95,Tryz.ntmps95
   go_wp2
   go_ret
   exact ⟨by first|rfl | (simp [errW_none,errW_some]<;>rfl) | (simp [*,errW_none,errW_some]<;>rfl),by repeat (first | (with_reducible first|exact HB.out|apply below_alloc|apply pw_below_drewN|apply below_drew1)|exact HB.out)⟩
 · rw [if_neg c4] at H
   have c4b0:decide (a1<0)=false:=decide_eq_false c4
   clear c4
   by_cases c5:a1>(a0.size:Int)
   · rw [if_pos c5] at H
     have c5b0:decide ((a0.size:Int)<a1)=true:=decide_eq_true c5
     clear c5
     obtain rfl:=Option.some.inj H
     go_enter Tryz.func95,Tryz.ntmps95
     go_wp2
     go_ret
     exact ⟨by first|rfl | (simp [errW_none,errW_some]<;>rfl) | (simp [*,errW_none,errW_some]<;>rfl),by repeat (first | (with_reducible first|exact HB.out|apply below_alloc|apply pw_below_drewN|apply below_drew1)|exact HB.out)⟩
   · rw [if_neg c5] at H
     have c5b0:decide ((a0.size:Int)<a1)=false:=decide_eq_false c5
     clear c5
     by_cases c6:(wrap64 ((a0.size:Int) - a1))<(a2.size:Int)
     · rw [if_pos c6] at H
       have c6b0:decide ((wrap64 ((a0.size:Int) - a1))<(a2.size:Int))=true:=decide_eq_true c6
       clear c6
       obtain rfl:=Option.some.inj H
       go_enter Tryz.func95,Tryz.ntmps95
       go_wp2
       go_ret
       exact ⟨by first|rfl | (simp [errW_none,errW_some]<;>rfl) | (simp [*,errW_none,errW_some]<;>rfl),by repeat (first | (with_reducible first|exact HB.out|apply below_alloc|apply pw_below_drewN|apply below_drew1)|exact HB.out)⟩
     · rw [if_neg c6] at H
       have c6b0:decide ((wrap64 ((a0.size:Int) - a1))<(a2.size:Int))=false:=decide_eq_false c6
       clear c6
       by_cases c7:0≤a1
       · rw [if_pos c7] at H
         have c7b0:=eq_true c7
         have c7b1:decide (0≤a1)=true:=decide_eq_true c7
         clear c7
         by_cases c8:a1≤(wrap64 (a1+(a2.size:Int)))
         · rw [if_pos c8] at H
           have c8b0:=eq_true c8
           have c8b1:decide (a1≤(wrap64 (a1+(a2.size:Int))))=true:=decide_eq_true c8
           by_cases c9:(wrap64 (a1+(a2.size:Int)))≤(a0.size:Int)
           · rw [if_pos c9] at H
             have c9b0:=eq_true c9
             have c9b1:decide ((wrap64 (a1+(a2.size:Int)))≤(a0.size:Int))=true:=decide_eq_true c9
             replace H:=Option.bind_eq_some_iff.mp H
             obtain ⟨t101,A100,H⟩:=H
             replace H:(some (t101.toList == a2.toList))=some r:=H
             have A10:=Aside0.mk A100
             clear A100
             obtain rfl:=Option.some.inj H
             go_enter Tryz.func95,Tryz.ntmps95
             go_wp2_with (first | ((with_reducible refine gate_callee (f:=126) rfl ?_);refine goesL_ (some 31) rfl rfl Tryz.func126 (by kernel_rfl) rfl #[.string (a0.extract (a1:Int).toNat ((wrap64 (a1+(a2.size:Int))):Int).toNat)] rfl (by (try simp only [List.map_toArray,List.map_cons,List.map_nil]);first|done|rfl | (simp only [List.length_drop,List.length_take];rfl)) ?_;(with_reducible refine (sign_Lower.calls (a0.extract (a1:Int).toNat ((wrap64 (a1+(a2.size:Int))):Int).toNat) t101 _ A10.out).mono ?_);rintro e w11 ⟨rfl,hb⟩;refine ⟨_,rfl,?_⟩;have n0_:=Aside0.mk (below_step (by repeat (first | (with_reducible first|exact HB.out|apply below_alloc|apply pw_below_drewN|apply below_drew1)|exact HB.out)) hb);clear HB;have HB:=n0_;clear n0_;(try clear hb);(try clear hb2);(try clear hk);(try clear hi)))
             go_ret
             exact ⟨by first|rfl | (simp [errW_none,errW_some]<;>rfl) | (simp [*,errW_none,errW_some]<;>rfl),by repeat (first | (with_reducible first|exact HB.out|apply below_alloc|apply pw_below_drewN|apply below_drew1)|exact HB.out)⟩
           · rw [if_neg c9] at H
             exact absurd H (by simp)
         · rw [if_neg c8] at H
           exact absurd H (by simp)
       · rw [if_neg c7] at H
         exact absurd H (by simp)
def sign_within.f (a0:Int) (a1:Int) (a2:Int):Option (Bool):=if a0≥a1 then (some (decide (a0≤a2))) else (some false)
set_option maxHeartbeats 8000000 in
set_option maxRecDepth 100000 in
theorem sign_within.calls (a0:Int) (a1:Int) (a2:Int) (r:Bool) (w:World) (h:sign_within.f a0 a1 a2=some r) :
  Calls Tryz.prog 174 #[.int .u8 a0,.int .u8 a1,.int .u8 a2] w fun e w'=>e = .returned (.bool r)∧Drawn0 w w':=by
 have H:(if a0≥a1 then (some (decide (a0≤a2))) else (some false))=some r:=h
 clear h
 by_cases c4:a0≥a1
 · rw [if_pos c4] at H
   have c4b0:decide (a1≤a0)=true:=decide_eq_true c4
   clear c4
   obtain rfl:=Option.some.inj H
   go_enter Tryz.func174,Tryz.ntmps174
   go_wp2
   go_ret
   exact ⟨by first|rfl | (simp;done) | (simp [*];done),by repeat (first|exact Drawn0.refl _|apply Drawn0.step)⟩
 · rw [if_neg c4] at H
   have c4b0:decide (a1≤a0)=false:=decide_eq_false c4
   clear c4
   obtain rfl:=Option.some.inj H
   go_enter Tryz.func174,Tryz.ntmps174
   go_wp2
   go_ret
   exact ⟨by first|rfl | (simp;done) | (simp [*];done),by repeat (first|exact Drawn0.refl _|apply Drawn0.step)⟩
def sign_Digit.f (a0:Int):Option (Bool):=(sign_within.f a0 48 57).bind fun t102=>(some t102)
set_option maxHeartbeats 8000000 in
set_option maxRecDepth 100000 in
theorem sign_Digit.calls (a0:Int) (r:Bool) (w:World) (h:sign_Digit.f a0=some r) :
  Calls Tryz.prog 158 #[.int .u8 a0] w fun e w'=>e = .returned (.bool r)∧Drawn0 w w':=by
 have H:((sign_within.f a0 48 57).bind fun t102=>(some t102))=some r:=h
 clear h
 replace H:=Option.bind_eq_some_iff.mp H
 obtain ⟨t102,A20,H⟩:=H
 replace H:(some t102)=some r:=H
 have A2:=Aside0.mk A20
 clear A20
 obtain rfl:=Option.some.inj H
 go_enter Tryz.func158,Tryz.ntmps158
 go_wp2_with (first | ((with_reducible refine gate_callee (f:=174) rfl ?_);refine goesL_ (some 4) rfl rfl Tryz.func174 (by kernel_rfl) rfl #[.int .u8 a0,.int .u8 48,.int .u8 57] rfl (by (try simp only [List.map_toArray,List.map_cons,List.map_nil]);first|done|rfl | (simp only [List.length_drop,List.length_take];rfl)) ?_;(with_reducible refine (sign_within.calls a0 48 57 t102 _ A2.out).mono ?_);rintro e w' ⟨rfl,⟨nd,rfl⟩⟩;refine ⟨_,rfl,?_⟩))
 go_ret
 exact ⟨by first|rfl | (simp;done) | (simp [*];done),by repeat (first|exact Drawn0.refl _|apply Drawn0.step)⟩
def sign_Hex.f (a0:Int):Option (Int):=(sign_Digit.f a0).bind fun t103=>(if t103=true then (some (wrap64 ((wrap64 (a0)) - 48))) else ((sign_within.f a0 65 70).bind fun t104=>(if t104=true then (some (wrap64 ((wrap64 ((wrap64 ((wrap64 (a0))+32)) - 97))+10))) else ((sign_within.f a0 97 102).bind fun t105=>(if t105=true then (some (wrap64 ((wrap64 ((wrap64 (a0)) - 97))+10))) else (some (-1)))))))
set_option maxHeartbeats 8000000 in
set_option maxRecDepth 100000 in
theorem sign_Hex.calls (a0:Int) (r:Int) (w:World) (h:sign_Hex.f a0=some r) :
  Calls Tryz.prog 159 #[.int .u8 a0] w fun e w'=>e = .returned (.int .i64 r)∧Drawn0 w w':=by
 have H:((sign_Digit.f a0).bind fun t103=>(if t103=true then (some (wrap64 ((wrap64 (a0)) - 48))) else ((sign_within.f a0 65 70).bind fun t104=>(if t104=true then (some (wrap64 ((wrap64 ((wrap64 ((wrap64 (a0))+32)) - 97))+10))) else ((sign_within.f a0 97 102).bind fun t105=>(if t105=true then (some (wrap64 ((wrap64 ((wrap64 (a0)) - 97))+10))) else (some (-1))))))))=some r:=h
 clear h
 replace H:=Option.bind_eq_some_iff.mp H
 obtain ⟨t103,A20,H⟩:=H
 replace H:(if t103=true then (some (wrap64 ((wrap64 (a0)) - 48))) else ((sign_within.f a0 65 70).bind fun t104=>(if t104=true then (some (wrap64 ((wrap64 ((wrap64 ((wrap64 (a0))+32)) - 97))+10))) else ((sign_within.f a0 97 102).bind fun t105=>(if t105=true then (some (wrap64 ((wrap64 ((wrap64 (a0)) - 97))+10))) else (some (-1)))))))=some r:=H
 have A2:=Aside0.mk A20
 clear A20
 by_cases c3:t103=true
 · subst c3
   have H1:(some (wrap64 ((wrap64 (a0)) - 48)))=some r:=by rw [if_pos rfl] at H;exact H
   clear H
   have H:=H1
   clear H1
   obtain rfl:=Option.some.inj H
   go_enter Tryz.func159,Tryz.ntmps159
   go_wp2_with (first | ((with_reducible refine gate_callee (f:=158) rfl ?_);refine goesL_ (some 8) rfl rfl Tryz.func158 (by kernel_rfl) rfl #[.int .u8 a0] rfl (by (try simp only [List.map_toArray,List.map_cons,List.map_nil]);first|done|rfl | (simp only [List.length_drop,List.length_take];rfl)) ?_;(with_reducible refine (sign_Digit.calls a0 true _ A2.out).mono ?_);rintro e w' ⟨rfl,⟨nd,rfl⟩⟩;refine ⟨_,rfl,?_⟩))
   go_ret
   exact ⟨by first|rfl | (simp;done) | (simp [*];done),by repeat (first|exact Drawn0.refl _|apply Drawn0.step)⟩
 · replace c3:=Bool.eq_false_iff.mpr c3
   subst c3
   have H1:((sign_within.f a0 65 70).bind fun t104=>(if t104=true then (some (wrap64 ((wrap64 ((wrap64 ((wrap64 (a0))+32)) - 97))+10))) else ((sign_within.f a0 97 102).bind fun t105=>(if t105=true then (some (wrap64 ((wrap64 ((wrap64 (a0)) - 97))+10))) else (some (-1))))))=some r:=by rw [if_neg (show ¬ (false=true) by decide)] at H;exact H
   clear H
   have H:=H1
   clear H1
   replace H:=Option.bind_eq_some_iff.mp H
   obtain ⟨t104,A40,H⟩:=H
   replace H:(if t104=true then (some (wrap64 ((wrap64 ((wrap64 ((wrap64 (a0))+32)) - 97))+10))) else ((sign_within.f a0 97 102).bind fun t105=>(if t105=true then (some (wrap64 ((wrap64 ((wrap64 (a0)) - 97))+10))) else (some (-1)))))=some r:=H
   have A4:=Aside0.mk A40
   clear A40
   by_cases c5:t104=true
   · subst c5
     have H1:(some (wrap64 ((wrap64 ((wrap64 ((wrap64 (a0))+32)) - 97))+10)))=some r:=by rw [if_pos rfl] at H;exact H
     clear H
     have H:=H1
     clear H1
     obtain rfl:=Option.some.inj H
     go_enter Tryz.func159,Tryz.ntmps159
     go_wp2_with (first | ((with_reducible refine gate_callee (f:=158) rfl ?_);refine goesL_ (some 8) rfl rfl Tryz.func158 (by kernel_rfl) rfl #[.int .u8 a0] rfl (by (try simp only [List.map_toArray,List.map_cons,List.map_nil]);first|done|rfl | (simp only [List.length_drop,List.length_take];rfl)) ?_;(with_reducible refine (sign_Digit.calls a0 false _ A2.out).mono ?_);rintro e w' ⟨rfl,⟨nd,rfl⟩⟩;refine ⟨_,rfl,?_⟩) | ((with_reducible refine gate_callee (f:=174) rfl ?_);refine goesL_ (some 11) rfl rfl Tryz.func174 (by kernel_rfl) rfl #[.int .u8 a0,.int .u8 65,.int .u8 70] rfl (by (try simp only [List.map_toArray,List.map_cons,List.map_nil]);first|done|rfl | (simp only [List.length_drop,List.length_take];rfl)) ?_;(with_reducible refine (sign_within.calls a0 65 70 true _ A4.out).mono ?_);rintro e w' ⟨rfl,⟨nd,rfl⟩⟩;refine ⟨_,rfl,?_⟩))
     go_ret
     exact ⟨by first|rfl | (simp;done) | (simp [*];done),by repeat (first|exact Drawn0.refl _|apply Drawn0.step)⟩
   · replace c5:=Bool.eq_false_iff.mpr c5
     subst c5
     have H1:((sign_within.f a0 97 102).bind fun t105=>(if t105=true then (some (wrap64 ((wrap64 ((wrap64 (a0)) - 97))+10))) else (some (-1))))=some r:=by rw [if_neg (show ¬ (false=true) by decide)] at H;exact H
     clear H
     have H:=H1
     clear H1
     replace H:=Option.bind_eq_some_iff.mp H
     obtain ⟨t105,A60,H⟩:=H
     replace H:(if t105=true then (some (wrap64 ((wrap64 ((wrap64 (a0)) - 97))+10))) else (some (-1)))=some r:=H
     have A6:=Aside0.mk A60
     clear A60
     by_cases c7:t105=true
     · subst c7
       have H1:(some (wrap64 ((wrap64 ((wrap64 (a0)) - 97))+10)))=some r:=by rw [if_pos rfl] at H;exact H
       clear H
       have H:=H1
       clear H1
       obtain rfl:=Option.some.inj H
       go_enter Tryz.func159,Tryz.ntmps159
       go_wp2_with (first | ((with_reducible refine gate_callee (f:=158) rfl ?_);refine goesL_ (some 8) rfl rfl Tryz.func158 (by kernel_rfl) rfl #[.int .u8 a0] rfl (by (try simp only [List.map_toArray,List.map_cons,List.map_nil]);first|done|rfl | (simp only [List.length_drop,List.length_take];rfl)) ?_;(with_reducible refine (sign_Digit.calls a0 false _ A2.out).mono ?_);rintro e w' ⟨rfl,⟨nd,rfl⟩⟩;refine ⟨_,rfl,?_⟩) | ((with_reducible refine gate_callee (f:=174) rfl ?_);refine goesL_ (some 11) rfl rfl Tryz.func174 (by kernel_rfl) rfl #[.int .u8 a0,.int .u8 65,.int .u8 70] rfl (by (try simp only [List.map_toArray,List.map_cons,List.map_nil]);first|done|rfl | (simp only [List.length_drop,List.length_take];rfl)) ?_;(with_reducible refine (sign_within.calls a0 65 70 false _ A4.out).mono ?_);rintro e w' ⟨rfl,⟨nd,rfl⟩⟩;refine ⟨_,rfl,?_⟩) | ((with_reducible refine gate_callee (f:=174) rfl ?_);refine goesL_ (some 14) rfl rfl Tryz.func174 (by kernel_rfl) rfl #[.int .u8 a0,.int .u8 97,.int .u8 102] rfl (by (try simp only [List.map_toArray,List.map_cons,List.map_nil]);first|done|rfl | (simp only [List.length_drop,List.length_take];rfl)) ?_;(with_reducible refine (sign_within.calls a0 97 102 true _ A6.out).mono ?_);rintro e w' ⟨rfl,⟨nd,rfl⟩⟩;refine ⟨_,rfl,?_⟩))
       go_ret
       exact ⟨by first|rfl | (simp;done) | (simp [*];done),by repeat (first|exact Drawn0.refl _|apply Drawn0.step)⟩
     · replace c7:=Bool.eq_false_iff.mpr c7
       subst c7
       have H1:(some (-1))=some r:=by rw [if_neg (show ¬ (false=true) by decide)] at H;exact H
       clear H
       have H:=H1
       clear H1
       obtain rfl:=Option.some.inj H
       go_enter Tryz.func159,Tryz.ntmps159
       go_wp2_with (first | ((with_reducible refine gate_callee (f:=158) rfl ?_);refine goesL_ (some 8) rfl rfl Tryz.func158 (by kernel_rfl) rfl #[.int .u8 a0] rfl (by (try simp only [List.map_toArray,List.map_cons,List.map_nil]);first|done|rfl | (simp only [List.length_drop,List.length_take];rfl)) ?_;(with_reducible refine (sign_Digit.calls a0 false _ A2.out).mono ?_);rintro e w' ⟨rfl,⟨nd,rfl⟩⟩;refine ⟨_,rfl,?_⟩) | ((with_reducible refine gate_callee (f:=174) rfl ?_);refine goesL_ (some 11) rfl rfl Tryz.func174 (by kernel_rfl) rfl #[.int .u8 a0,.int .u8 65,.int .u8 70] rfl (by (try simp only [List.map_toArray,List.map_cons,List.map_nil]);first|done|rfl | (simp only [List.length_drop,List.length_take];rfl)) ?_;(with_reducible refine (sign_within.calls a0 65 70 false _ A4.out).mono ?_);rintro e w' ⟨rfl,⟨nd,rfl⟩⟩;refine ⟨_,rfl,?_⟩) | ((with_reducible refine gate_callee (f:=174) rfl ?_);refine goesL_ (some 14) rfl rfl Tryz.func174 (by kernel_rfl) rfl #[.int .u8 a0,.int .u8 97,.int .u8 102] rfl (by (try simp only [List.map_toArray,List.map_cons,List.map_nil]);first|done|rfl | (simp only [List.length_drop,List.length_take];rfl)) ?_;(with_reducible refine (sign_within.calls a0 97 102 false _ A6.out).mono ?_);rintro e w' ⟨rfl,⟨nd,rfl⟩⟩;refine ⟨_,rfl,?_⟩))
       go_ret
       exact ⟨by first|rfl | (simp;done) | (simp [*];done),by repeat (first|exact Drawn0.refl _|apply Drawn0.step)⟩
def sign_Letter.f (a0:Int):Option (Bool):=(sign_within.f (Go.bits .or .u8 a0 32) 97 122).bind fun t106=>(some t106)
set_option maxHeartbeats 8000000 in
set_option maxRecDepth 100000 in
theorem sign_Letter.calls (a0:Int) (r:Bool) (w:World) (h:sign_Letter.f a0=some r) :
  Calls Tryz.prog 127 #[.int .u8 a0] w fun e w'=>e = .returned (.bool r)∧Drawn0 w w':=by
 have H:((sign_within.f (Go.bits .or .u8 a0 32) 97 122).bind fun t106=>(some t106))=some r:=h
 clear h
 replace H:=Option.bind_eq_some_iff.mp H
 obtain ⟨t106,A20,H⟩:=H
 replace H:(some t106)=some r:=H
 have A2:=Aside0.mk A20
 clear A20
 obtain rfl:=Option.some.inj H
 go_enter Tryz.func127,Tryz.ntmps127
 go_wp2_with (first | ((with_reducible refine gate_callee (f:=174) rfl ?_);refine goesL_ (some 5) rfl rfl Tryz.func174 (by kernel_rfl) rfl #[.int .u8 (Go.bits .or .u8 a0 32),.int .u8 97,.int .u8 122] rfl (by (try simp only [List.map_toArray,List.map_cons,List.map_nil]);first|done|rfl | (simp only [List.length_drop,List.length_take];rfl)) ?_;(with_reducible refine (sign_within.calls (Go.bits .or .u8 a0 32) 97 122 t106 _ A2.out).mono ?_);rintro e w' ⟨rfl,⟨nd,rfl⟩⟩;refine ⟨_,rfl,?_⟩))
 go_ret
 exact ⟨by first|rfl | (simp;done) | (simp [*];done),by repeat (first|exact Drawn0.refl _|apply Drawn0.step)⟩
def sign_Word.f (a0:Int):Option (Bool):=(sign_Letter.f a0).bind fun t107=>(if t107=true then (some true) else ((sign_Digit.f a0).bind fun t108=>(some t108)))
set_option maxHeartbeats 8000000 in
set_option maxRecDepth 100000 in
theorem sign_Word.calls (a0:Int) (r:Bool) (w:World) (h:sign_Word.f a0=some r) :
  Calls Tryz.prog 166 #[.int .u8 a0] w fun e w'=>e = .returned (.bool r)∧Drawn0 w w':=by
 have H:((sign_Letter.f a0).bind fun t107=>(if t107=true then (some true) else ((sign_Digit.f a0).bind fun t108=>(some t108))))=some r:=h
 clear h
 replace H:=Option.bind_eq_some_iff.mp H
 obtain ⟨t107,A20,H⟩:=H
 replace H:(if t107=true then (some true) else ((sign_Digit.f a0).bind fun t108=>(some t108)))=some r:=H
 have A2:=Aside0.mk A20
 clear A20
 by_cases c3:t107=true
 · subst c3
   have H1:(some true)=some r:=by rw [if_pos rfl] at H;exact H
   clear H
   have H:=H1
   clear H1
   obtain rfl:=Option.some.inj H
   go_enter Tryz.func166,Tryz.ntmps166
   go_wp2_with (first | ((with_reducible refine gate_callee (f:=127) rfl ?_);refine goesL_ (some 4) rfl rfl Tryz.func127 (by kernel_rfl) rfl #[.int .u8 a0] rfl (by (try simp only [List.map_toArray,List.map_cons,List.map_nil]);first|done|rfl | (simp only [List.length_drop,List.length_take];rfl)) ?_;(with_reducible refine (sign_Letter.calls a0 true _ A2.out).mono ?_);rintro e w' ⟨rfl,⟨nd,rfl⟩⟩;refine ⟨_,rfl,?_⟩))
   go_ret
   exact ⟨by first|rfl | (simp;done) | (simp [*];done),by repeat (first|exact Drawn0.refl _|apply Drawn0.step)⟩
 · replace c3:=Bool.eq_false_iff.mpr c3
   subst c3
   have H1:((sign_Digit.f a0).bind fun t108=>(some t108))=some r:=by rw [if_neg (show ¬ (false=true) by decide)] at H;exact H
   clear H
   have H:=H1
   clear H1
   replace H:=Option.bind_eq_some_iff.mp H
   obtain ⟨t108,A40,H⟩:=H
   replace H:(some t108)=some r:=H
   have A4:=Aside0.mk A40
   clear A40
   obtain rfl:=Option.some.inj H
   go_enter Tryz.func166,Tryz.ntmps166
   go_wp2_with (first | ((with_reducible refine gate_callee (f:=127) rfl ?_);refine goesL_ (some 4) rfl rfl Tryz.func127 (by kernel_rfl) rfl #[.int .u8 a0] rfl (by (try simp only [List.map_toArray,List.map_cons,List.map_nil]);first|done|rfl | (simp only [List.length_drop,List.length_take];rfl)) ?_;(with_reducible refine (sign_Letter.calls a0 false _ A2.out).mono ?_);rintro e w' ⟨rfl,⟨nd,rfl⟩⟩;refine ⟨_,rfl,?_⟩) | (go_at_call 158;(with_reducible refine (sign_Digit.calls a0 t108 _ A4.out).mono ?_);rintro e w' ⟨rfl,⟨nd,rfl⟩⟩))
   go_ret
   exact ⟨by first|rfl | (simp;done) | (simp [*];done),by repeat (first|exact Drawn0.refl _|apply Drawn0.step)⟩
def ref_kept.f (a0:ByteArray) (a1:Int):Option (Bool):=if a1<(a0.size:Int) then (if 0≤a1 then (if (bt a0 a1)=61 then (some true) else ((sign_Word.f (bt a0 a1)).bind fun t109=>(some t109))) else (none)) else (some false)
set_option maxHeartbeats 8000000 in
set_option maxRecDepth 100000 in
theorem ref_kept.calls (a0:ByteArray) (a1:Int) (r:Bool) (w:World) (h:ref_kept.f a0 a1=some r) :
  Calls Tryz.prog 121 #[.string a0,.int .i64 a1] w fun e w'=>e = .returned (.bool r)∧Drawn0 w w':=by
 have H:(if a1<(a0.size:Int) then (if 0≤a1 then (if (bt a0 a1)=61 then (some true) else ((sign_Word.f (bt a0 a1)).bind fun t109=>(some t109))) else (none)) else (some false))=some r:=h
 clear h
 by_cases c3:a1<(a0.size:Int)
 · rw [if_pos c3] at H
   have c3b0:decide (a1<(a0.size:Int))=true:=decide_eq_true c3
   clear c3
   by_cases c4:0≤a1
   · rw [if_pos c4] at H
     have c4b0:decide (0≤a1)=true:=decide_eq_true c4
     clear c4
     by_cases c6:(bt a0 a1)=61
     · rw [if_pos c6] at H
       have c6b0:((bt a0 a1) == 61)=true:=beq_iff_eq.mpr c6
       have c6b1:((bt a0 a1) != 61)=false:=bne_eq_false_iff_eq.mpr c6
       clear c6
       obtain rfl:=Option.some.inj H
       have p5:0≤(a1:Int):=of_decide_eq_true (by first | (with_reducible assumption)|assumption)
       have q5:a1<(a0.size:Int):=of_decide_eq_true (by first | (with_reducible assumption)|assumption)
       have hx5:=bt_at a0 a1
       replace p5:=eq_true p5
       replace q5:=eq_true q5
       go_enter Tryz.func121,Tryz.ntmps121
       go_wp2
       go_ret
       exact ⟨by first|rfl | (simp;done) | (simp [*];done),by repeat (first|exact Drawn0.refl _|apply Drawn0.step)⟩
     · rw [if_neg c6] at H
       have c6b0:((bt a0 a1) == 61)=false:=beq_eq_false_iff_ne.mpr c6
       have c6b1:((bt a0 a1) != 61)=true:=bne_iff_ne.mpr c6
       replace H:=Option.bind_eq_some_iff.mp H
       obtain ⟨t109,A80,H⟩:=H
       replace H:(some t109)=some r:=H
       have A8:=Aside0.mk A80
       clear A80
       obtain rfl:=Option.some.inj H
       have p5:0≤(a1:Int):=of_decide_eq_true (by first | (with_reducible assumption)|assumption)
       have q5:a1<(a0.size:Int):=of_decide_eq_true (by first | (with_reducible assumption)|assumption)
       have hx5:=bt_at a0 a1
       replace p5:=eq_true p5
       replace q5:=eq_true q5
       have p7:0≤(a1:Int):=of_decide_eq_true (by first | (with_reducible assumption)|assumption)
       have q7:a1<(a0.size:Int):=of_decide_eq_true (by first | (with_reducible assumption)|assumption)
       have hx7:=bt_at a0 a1
       replace p7:=eq_true p7
       replace q7:=eq_true q7
       go_enter Tryz.func121,Tryz.ntmps121
       go_wp2_with (first | (go_at_call 166;(with_reducible refine (sign_Word.calls (bt a0 a1) t109 _ A8.out).mono ?_);rintro e w' ⟨rfl,⟨nd,rfl⟩⟩))
       go_ret
       exact ⟨by first|rfl | (simp;done) | (simp [*];done),by repeat (first|exact Drawn0.refl _|apply Drawn0.step)⟩
   · rw [if_neg c4] at H
     exact absurd H (by simp)
 · rw [if_neg c3] at H
   have c3b0:decide (a1<(a0.size:Int))=false:=decide_eq_false c3
   clear c3
   obtain rfl:=Option.some.inj H
   go_enter Tryz.func121,Tryz.ntmps121
   go_wp2
   go_ret
   exact ⟨by first|rfl | (simp;done) | (simp [*];done),by repeat (first|exact Drawn0.refl _|apply Drawn0.step)⟩
def sign_Space.f (a0:Int):Option (Bool):=if a0=32 then (some true) else (if a0=9 then (some true) else (if a0=10 then (some true) else (some (a0 == 12))))
set_option maxHeartbeats 8000000 in
set_option maxRecDepth 100000 in
theorem sign_Space.calls (a0:Int) (r:Bool) (w:World) (h:sign_Space.f a0=some r) :
  Calls Tryz.prog 124 #[.int .u8 a0] w fun e w'=>e = .returned (.bool r)∧Drawn0 w w':=by
 have H:(if a0=32 then (some true) else (if a0=9 then (some true) else (if a0=10 then (some true) else (some (a0 == 12)))))=some r:=h
 clear h
 by_cases c2:a0=32
 · rw [if_pos c2] at H
   have c2b0:(a0 == 32)=true:=beq_iff_eq.mpr c2
   have c2b1:(a0 != 32)=false:=bne_eq_false_iff_eq.mpr c2
   clear c2
   obtain rfl:=Option.some.inj H
   go_enter Tryz.func124,Tryz.ntmps124
   go_wp2
   go_ret
   exact ⟨by first|rfl | (simp;done) | (simp [*];done),by repeat (first|exact Drawn0.refl _|apply Drawn0.step)⟩
 · rw [if_neg c2] at H
   have c2b0:(a0 == 32)=false:=beq_eq_false_iff_ne.mpr c2
   have c2b1:(a0 != 32)=true:=bne_iff_ne.mpr c2
   by_cases c3:a0=9
   · rw [if_pos c3] at H
     have c3b0:(a0 == 9)=true:=beq_iff_eq.mpr c3
     have c3b1:(a0 != 9)=false:=bne_eq_false_iff_eq.mpr c3
     clear c3
     obtain rfl:=Option.some.inj H
     go_enter Tryz.func124,Tryz.ntmps124
     go_wp2
     go_ret
     exact ⟨by first|rfl | (simp;done) | (simp [*];done),by repeat (first|exact Drawn0.refl _|apply Drawn0.step)⟩
   · rw [if_neg c3] at H
     have c3b0:(a0 == 9)=false:=beq_eq_false_iff_ne.mpr c3
     have c3b1:(a0 != 9)=true:=bne_iff_ne.mpr c3
     by_cases c4:a0=10
     · rw [if_pos c4] at H
       have c4b0:(a0 == 10)=true:=beq_iff_eq.mpr c4
       have c4b1:(a0 != 10)=false:=bne_eq_false_iff_eq.mpr c4
       clear c4
       obtain rfl:=Option.some.inj H
       go_enter Tryz.func124,Tryz.ntmps124
       go_wp2
       go_ret
       exact ⟨by first|rfl | (simp;done) | (simp [*];done),by repeat (first|exact Drawn0.refl _|apply Drawn0.step)⟩
     · rw [if_neg c4] at H
       have c4b0:(a0 == 10)=false:=beq_eq_false_iff_ne.mpr c4
       have c4b1:(a0 != 10)=true:=bne_iff_ne.mpr c4
       obtain rfl:=Option.some.inj H
       go_enter Tryz.func124,Tryz.ntmps124
       go_wp2
       go_ret
       exact ⟨by first|rfl | (simp;done) | (simp [*];done),by repeat (first|exact Drawn0.refl _|apply Drawn0.step)⟩
def raw_Ends.j0:Nat→ByteArray→Int→ByteArray→Bool→Option (Bool)
 | 0,_,_,_,_=>none
 | k+1,x0,x1,x2,x24=>if x24=true then (some false) else (if (wrap64 ((wrap64 (x1+2))+(x2.size:Int)))=(x0.size:Int) then (some false) else (if 0≤(wrap64 ((wrap64 (x1+2))+(x2.size:Int))) then (if (wrap64 ((wrap64 (x1+2))+(x2.size:Int)))<(x0.size:Int) then ((sign_Space.f (bt x0 (wrap64 ((wrap64 (x1+2))+(x2.size:Int))))).bind fun t112=>(if t112=true then (some true) else (if (bt x0 (wrap64 ((wrap64 (x1+2))+(x2.size:Int))))=47 then (some true) else (some ((bt x0 (wrap64 ((wrap64 (x1+2))+(x2.size:Int)))) == 62))))) else (none)) else (none)))
def raw_Ends.f (k:Nat) (a0:ByteArray) (a1:Int) (a2:ByteArray):Option (Bool):=if a2.toList=([]:List UInt8) then (raw_Ends.j0 k a0 a1 a2 true) else ((sign_Begins.f a0 a1 (⟨#[60,47]⟩:ByteArray)).bind fun t110=>(if t110=true then ((sign_Begins.f a0 (wrap64 (a1+2)) a2).bind fun t111=>(raw_Ends.j0 k a0 a1 a2 (!t111))) else (raw_Ends.j0 k a0 a1 a2 true)))
set_option maxHeartbeats 8000000 in
set_option maxRecDepth 100000 in
theorem raw_Ends.calls (k:Nat) (a0:ByteArray) (a1:Int) (a2:ByteArray) (r:Bool) (w:World) (h:raw_Ends.f k a0 a1 a2=some r) :
  Calls Tryz.prog 180 #[.string a0,.int .i64 a1,.string a2] w fun e w'=>e = .returned (.bool r)∧Below w.heap.size w w':=by
 have HB:=Aside0.mk (Below.refl w.heap.size w)
 have H:(if a2.toList=([]:List UInt8) then (raw_Ends.j0 k a0 a1 a2 true) else ((sign_Begins.f a0 a1 (⟨#[60,47]⟩:ByteArray)).bind fun t110=>(if t110=true then ((sign_Begins.f a0 (wrap64 (a1+2)) a2).bind fun t111=>(raw_Ends.j0 k a0 a1 a2 (!t111))) else (raw_Ends.j0 k a0 a1 a2 true))))=some r:=h
 clear h
 have HC4:=Aside0.mk H
 clear H
 go_enter Tryz.func180,Tryz.ntmps180
 go_upto_region 1 with (fail)
 go_cut [24] (fun v24 wc => ∃ (kq:Nat) (x24_3:Bool),v24 = .bool x24_3∧Aside0 (raw_Ends.j0 kq a0 a1 a2 x24_3=some r)∧Aside0 (kq≤k)∧Aside0 (Below w.heap.size w wc))
 case first =>
  have H:=HC4.out
  clear HC4
  by_cases c5:a2.toList=([]:List UInt8)
  · rw [if_pos c5] at H
    have c5b0:(a2.toList == ([]:List UInt8))=true:=beq_iff_eq.mpr c5
    have c5b1:(a2.toList != ([]:List UInt8))=false:=bne_eq_false_iff_eq.mpr c5
    clear c5
    (first|rw [c5b0] | (simp only [i64_w,i32_w];rw [c5b0])|skip)
    have H':=Aside0.mk H
    clear H
    go_wp2
    go_meet
    case rel=>exact ⟨_,(true),(by first|rfl | (simp;done) | (simp [*];done)),H',⟨by first|omega|exact Nat.le_refl _⟩,⟨by repeat (first | (with_reducible first|exact HB.out|apply below_alloc|apply pw_below_drewN|apply below_drew1)|exact HB.out)⟩⟩
  · rw [if_neg c5] at H
    have c5b0:(a2.toList == ([]:List UInt8))=false:=beq_eq_false_iff_ne.mpr c5
    have c5b1:(a2.toList != ([]:List UInt8))=true:=bne_iff_ne.mpr c5
    (first|rw [c5b0] | (simp only [i64_w,i32_w];rw [c5b0])|skip)
    replace H:=Option.bind_eq_some_iff.mp H
    obtain ⟨t110,A60,H⟩:=H
    replace H:(if t110=true then ((sign_Begins.f a0 (wrap64 (a1+2)) a2).bind fun t111=>(raw_Ends.j0 k a0 a1 a2 (!t111))) else (raw_Ends.j0 k a0 a1 a2 true))=some r:=H
    have A6:=Aside0.mk A60
    clear A60
    by_cases c7:t110=true
    · subst c7
      have H1:((sign_Begins.f a0 (wrap64 (a1+2)) a2).bind fun t111=>(raw_Ends.j0 k a0 a1 a2 (!t111)))=some r:=by rw [if_pos rfl] at H;exact H
      clear H
      have H:=H1
      clear H1
      replace H:=Option.bind_eq_some_iff.mp H
      obtain ⟨t111,A80,H⟩:=H
      replace H:(raw_Ends.j0 k a0 a1 a2 (!t111))=some r:=H
      have A8:=Aside0.mk A80
      clear A80
      have H':=Aside0.mk H
      clear H
      go_wp2_with (first | (go_at_call 95;(with_reducible refine (sign_Begins.calls a0 a1 (⟨#[60,47]⟩:ByteArray) true _ A6.out).mono ?_);rintro e w9 ⟨rfl,hb⟩;have n0_:=Aside0.mk (below_step (by repeat (first | (with_reducible first|exact HB.out|apply below_alloc|apply pw_below_drewN|apply below_drew1)|exact HB.out)) hb);clear HB;have HB:=n0_;clear n0_;(try clear hb);(try clear hb2);(try clear hk);(try clear hi)) | (go_at_call 95;(with_reducible refine (sign_Begins.calls a0 (wrap64 (a1+2)) a2 t111 _ A8.out).mono ?_);rintro e w10 ⟨rfl,hb⟩;have n0_:=Aside0.mk (below_step (by repeat (first | (with_reducible first|exact HB.out|apply below_alloc|apply pw_below_drewN|apply below_drew1)|exact HB.out)) hb);clear HB;have HB:=n0_;clear n0_;(try clear hb);(try clear hb2);(try clear hk);(try clear hi)))
      go_meet
      case rel=>exact ⟨_,(!t111),(by first|rfl | (simp;done) | (simp [*];done)),H',⟨by first|omega|exact Nat.le_refl _⟩,⟨by repeat (first | (with_reducible first|exact HB.out|apply below_alloc|apply pw_below_drewN|apply below_drew1)|exact HB.out)⟩⟩
    · replace c7:=Bool.eq_false_iff.mpr c7
      subst c7
      have H1:(raw_Ends.j0 k a0 a1 a2 true)=some r:=by rw [if_neg (show ¬ (false=true) by decide)] at H;exact H
      clear H
      have H:=H1
      clear H1
      have H':=Aside0.mk H
      clear H
      go_wp2_with (first | (go_at_call 95;(with_reducible refine (sign_Begins.calls a0 a1 (⟨#[60,47]⟩:ByteArray) false _ A6.out).mono ?_);rintro e w11 ⟨rfl,hb⟩;have n0_:=Aside0.mk (below_step (by repeat (first | (with_reducible first|exact HB.out|apply below_alloc|apply pw_below_drewN|apply below_drew1)|exact HB.out)) hb);clear HB;have HB:=n0_;clear n0_;(try clear hb);(try clear hb2);(try clear hk);(try clear hi)))
      go_meet
      case rel=>exact ⟨_,(true),(by first|rfl | (simp;done) | (simp [*];done)),H',⟨by first|omega|exact Nat.le_refl _⟩,⟨by repeat (first | (with_reducible first|exact HB.out|apply below_alloc|apply pw_below_drewN|apply below_drew1)|exact HB.out)⟩⟩
 case rest =>
  clear HC4
  try clear c1
  try clear p2
  try clear c5
  try clear c5b0
  try clear c5b1
  try clear p6
  try clear c7
  obtain ⟨kq,x24_3,rfl,HA,HJ3,HB⟩:=hcut
  cases kq with
  | zero=>exact absurd HA.out (by simp [raw_Ends.j0])
  | succ kj3 =>
    have H:=HA.out
    clear HA
    simp only [raw_Ends.j0] at H
    by_cases c12:x24_3=true
    · subst c12
      have H1:(some false)=some r:=by rw [if_pos rfl] at H;exact H
      clear H
      have H:=H1
      clear H1
      obtain rfl:=Option.some.inj H
      go_wp2
      go_ret
      exact ⟨by first|rfl | (simp [errW_none,errW_some]<;>rfl) | (simp [*,errW_none,errW_some]<;>rfl),by repeat (first | (with_reducible first|exact HB.out|apply below_alloc|apply pw_below_drewN|apply below_drew1)|exact HB.out)⟩
    · replace c12:=Bool.eq_false_iff.mpr c12
      subst c12
      have H1:(if (wrap64 ((wrap64 (a1+2))+(a2.size:Int)))=(a0.size:Int) then (some false) else (if 0≤(wrap64 ((wrap64 (a1+2))+(a2.size:Int))) then (if (wrap64 ((wrap64 (a1+2))+(a2.size:Int)))<(a0.size:Int) then ((sign_Space.f (bt a0 (wrap64 ((wrap64 (a1+2))+(a2.size:Int))))).bind fun t112=>(if t112=true then (some true) else (if (bt a0 (wrap64 ((wrap64 (a1+2))+(a2.size:Int))))=47 then (some true) else (some ((bt a0 (wrap64 ((wrap64 (a1+2))+(a2.size:Int)))) == 62))))) else (none)) else (none)))=some r:=by rw [if_neg (show ¬ (false=true) by decide)] at H;exact H
      clear H
      have H:=H1
      clear H1
      by_cases c13:(wrap64 ((wrap64 (a1+2))+(a2.size:Int)))=(a0.size:Int)
      · rw [if_pos c13] at H
        have c13b0:((wrap64 ((wrap64 (a1+2))+(a2.size:Int))) == (a0.size:Int))=true:=beq_iff_eq.mpr c13
        have c13b1:((wrap64 ((wrap64 (a1+2))+(a2.size:Int))) != (a0.size:Int))=false:=bne_eq_false_iff_eq.mpr c13
        clear c13
        obtain rfl:=Option.some.inj H
        go_wp2
        go_ret
        exact ⟨by first|rfl | (simp [errW_none,errW_some]<;>rfl) | (simp [*,errW_none,errW_some]<;>rfl),by repeat (first | (with_reducible first|exact HB.out|apply below_alloc|apply pw_below_drewN|apply below_drew1)|exact HB.out)⟩
      · rw [if_neg c13] at H
        have c13b0:((wrap64 ((wrap64 (a1+2))+(a2.size:Int))) == (a0.size:Int))=false:=beq_eq_false_iff_ne.mpr c13
        have c13b1:((wrap64 ((wrap64 (a1+2))+(a2.size:Int))) != (a0.size:Int))=true:=bne_iff_ne.mpr c13
        obtain ⟨ji14,hji14⟩:∃ j_:Int,(wrap64 ((wrap64 (a1+2))+(a2.size:Int)))=j_:=⟨_,rfl⟩
        replace H:(if 0≤(ji14) then (if (ji14)<(a0.size:Int) then ((sign_Space.f (bt a0 (ji14))).bind fun t112=>(if t112=true then (some true) else (if (bt a0 (ji14))=47 then (some true) else (some ((bt a0 (ji14)) == 62))))) else (none)) else (none))=some r:=by first | (rw [hji14] at H;exact H) | (simp only [hji14] at H ⊢;exact H)
        (try rw [hji14] at c13b0)
        (try rw [hji14] at c13b1)
        have hji14w:(IntKind.i64.wrap ((wrap64 (a1+2))+(a2.size:Int)))=ji14:=(i64_w _).trans hji14
        by_cases c15:0≤(ji14)
        · rw [if_pos c15] at H
          have c15b0:decide (0≤(ji14))=true:=decide_eq_true c15
          clear c15
          by_cases c16:(ji14)<(a0.size:Int)
          · rw [if_pos c16] at H
            have c16b0:decide ((ji14)<(a0.size:Int))=true:=decide_eq_true c16
            clear c16
            replace H:=Option.bind_eq_some_iff.mp H
            obtain ⟨t112,A180,H⟩:=H
            replace H:(if t112=true then (some true) else (if (bt a0 (ji14))=47 then (some true) else (some ((bt a0 (ji14)) == 62))))=some r:=H
            have A18:=Aside0.mk A180
            clear A180
            by_cases c19:t112=true
            · subst c19
              have H1:(some true)=some r:=by rw [if_pos rfl] at H;exact H
              clear H
              have H:=H1
              clear H1
              obtain rfl:=Option.some.inj H
              have p17:0≤((ji14):Int):=of_decide_eq_true (by first | (with_reducible assumption)|assumption)
              have q17:(ji14)<(a0.size:Int):=of_decide_eq_true (by first | (with_reducible assumption)|assumption)
              have hx17:=bt_at a0 (ji14)
              replace p17:=eq_true p17
              replace q17:=eq_true q17
              go_wp2_with (first | ((with_reducible refine gate_callee (f:=124) rfl ?_);refine goesL_ (some 38) rfl rfl Tryz.func124 (by kernel_rfl) rfl #[.int .u8 (bt a0 (ji14))] rfl (by (try simp only [List.map_toArray,List.map_cons,List.map_nil]);first|done | (simp only [hji14];rfl)|rfl | (simp only [List.length_drop,List.length_take];rfl)) ?_;(with_reducible refine (sign_Space.calls (bt a0 (ji14)) true _ A18.out).mono ?_);rintro e w' ⟨rfl,⟨nd,rfl⟩⟩;refine ⟨_,rfl,?_⟩))
              go_ret
              exact ⟨by first|rfl | (simp [errW_none,errW_some]<;>rfl) | (simp only [← hji14];first|rfl | (simp [errW_none,errW_some]<;>rfl)) | (simp [*,errW_none,errW_some]<;>rfl),by repeat (first | (with_reducible first|exact HB.out|apply below_alloc|apply pw_below_drewN|apply below_drew1)|exact HB.out)⟩
            · replace c19:=Bool.eq_false_iff.mpr c19
              subst c19
              have H1:(if (bt a0 (ji14))=47 then (some true) else (some ((bt a0 (ji14)) == 62)))=some r:=by rw [if_neg (show ¬ (false=true) by decide)] at H;exact H
              clear H
              have H:=H1
              clear H1
              by_cases c20:(bt a0 (ji14))=47
              · rw [if_pos c20] at H
                have c20b0:((bt a0 (ji14)) == 47)=true:=beq_iff_eq.mpr c20
                have c20b1:((bt a0 (ji14)) != 47)=false:=bne_eq_false_iff_eq.mpr c20
                clear c20
                obtain rfl:=Option.some.inj H
                have p17:0≤((ji14):Int):=of_decide_eq_true (by first | (with_reducible assumption)|assumption)
                have q17:(ji14)<(a0.size:Int):=of_decide_eq_true (by first | (with_reducible assumption)|assumption)
                have hx17:=bt_at a0 (ji14)
                replace p17:=eq_true p17
                replace q17:=eq_true q17
                go_wp2_with (first | ((with_reducible refine gate_callee (f:=124) rfl ?_);refine goesL_ (some 38) rfl rfl Tryz.func124 (by kernel_rfl) rfl #[.int .u8 (bt a0 (ji14))] rfl (by (try simp only [List.map_toArray,List.map_cons,List.map_nil]);first|done | (simp only [hji14];rfl)|rfl | (simp only [List.length_drop,List.length_take];rfl)) ?_;(with_reducible refine (sign_Space.calls (bt a0 (ji14)) false _ A18.out).mono ?_);rintro e w' ⟨rfl,⟨nd,rfl⟩⟩;refine ⟨_,rfl,?_⟩))
                go_ret
                exact ⟨by first|rfl | (simp [errW_none,errW_some]<;>rfl) | (simp only [← hji14];first|rfl | (simp [errW_none,errW_some]<;>rfl)) | (simp [*,errW_none,errW_some]<;>rfl),by repeat (first | (with_reducible first|exact HB.out|apply below_alloc|apply pw_below_drewN|apply below_drew1)|exact HB.out)⟩
              · rw [if_neg c20] at H
                have c20b0:((bt a0 (ji14)) == 47)=false:=beq_eq_false_iff_ne.mpr c20
                have c20b1:((bt a0 (ji14)) != 47)=true:=bne_iff_ne.mpr c20
                obtain rfl:=Option.some.inj H
                have p17:0≤((ji14):Int):=of_decide_eq_true (by first | (with_reducible assumption)|assumption)
                have q17:(ji14)<(a0.size:Int):=of_decide_eq_true (by first | (with_reducible assumption)|assumption)
                have hx17:=bt_at a0 (ji14)
                replace p17:=eq_true p17
                replace q17:=eq_true q17
                go_wp2_with (first | ((with_reducible refine gate_callee (f:=124) rfl ?_);refine goesL_ (some 38) rfl rfl Tryz.func124 (by kernel_rfl) rfl #[.int .u8 (bt a0 (ji14))] rfl (by (try simp only [List.map_toArray,List.map_cons,List.map_nil]);first|done | (simp only [hji14];rfl)|rfl | (simp only [List.length_drop,List.length_take];rfl)) ?_;(with_reducible refine (sign_Space.calls (bt a0 (ji14)) false _ A18.out).mono ?_);rintro e w' ⟨rfl,⟨nd,rfl⟩⟩;refine ⟨_,rfl,?_⟩))
                go_ret
                exact ⟨by first|rfl | (simp [errW_none,errW_some]<;>rfl) | (simp only [← hji14];first|rfl | (simp [errW_none,errW_some]<;>rfl)) | (simp [*,errW_none,errW_some]<;>rfl),by repeat (first | (with_reducible first|exact HB.out|apply below_alloc|apply pw_below_drewN|apply below_drew1)|exact HB.out)⟩
          · rw [if_neg c16] at H
            exact absurd H (by simp)
        · rw [if_neg c15] at H
          exact absurd H (by simp)
def script_word.j0:Nat→ByteArray→Int→Int→Bool→Option (Int)
 | 0,_,_,_,_=>none
 | k+1,x0,x1,x7,x25=>if x25=true then (some 0) else (if 0≤(wrap64 (x1+x7)) then (if (wrap64 (x1+x7))<(x0.size:Int) then ((sign_Space.f (bt x0 (wrap64 (x1+x7)))).bind fun t114=>(if t114=true then (some (wrap64 (x7+1))) else (if (bt x0 (wrap64 (x1+x7)))=47 then (some (wrap64 (x7+1))) else (if (bt x0 (wrap64 (x1+x7)))=62 then (some (wrap64 (x7+1))) else (some 0))))) else (none)) else (none))
def script_word.f (k:Nat) (a0:ByteArray) (a1:Int) (a2:ByteArray):Option (Int):=if a2.size+6≤9223372036854775807 then ((sign_Begins.f a0 a1 (a2++(⟨#[115,99,114,105,112,116]⟩:ByteArray))).bind fun t113=>(if t113=true then (script_word.j0 k a0 a1 (wrap64 ((a2.size:Int)+6)) ((wrap64 (a1+(wrap64 ((a2.size:Int)+6)))) == (a0.size:Int))) else (script_word.j0 k a0 a1 (wrap64 ((a2.size:Int)+6)) true))) else (none)
set_option maxHeartbeats 8000000 in
set_option maxRecDepth 100000 in
theorem script_word.calls (k:Nat) (a0:ByteArray) (a1:Int) (a2:ByteArray) (r:Int) (w:World) (h:script_word.f k a0 a1 a2=some r) :
  Calls Tryz.prog 181 #[.string a0,.int .i64 a1,.string a2] w fun e w'=>e = .returned (.int .i64 r)∧Below w.heap.size w w':=by
 have HB:=Aside0.mk (Below.refl w.heap.size w)
 have H:(if a2.size+6≤9223372036854775807 then ((sign_Begins.f a0 a1 (a2++(⟨#[115,99,114,105,112,116]⟩:ByteArray))).bind fun t113=>(if t113=true then (script_word.j0 k a0 a1 (wrap64 ((a2.size:Int)+6)) ((wrap64 (a1+(wrap64 ((a2.size:Int)+6)))) == (a0.size:Int))) else (script_word.j0 k a0 a1 (wrap64 ((a2.size:Int)+6)) true))) else (none))=some r:=h
 clear h
 have HC4:=Aside0.mk H
 clear H
 go_enter Tryz.func181,Tryz.ntmps181
 go_upto_region 2 with (fail)
 go_cut [25] (fun v25 wc => ∃ (kq:Nat) (x25_3:Bool),v25 = .bool x25_3∧Aside0 (script_word.j0 kq a0 a1 (wrap64 ((a2.size:Int)+6)) x25_3=some r)∧Aside0 (kq≤k)∧Aside0 (Below w.heap.size w wc))
 case first =>
  have H:=HC4.out
  clear HC4
  by_cases c5:a2.size+6≤9223372036854775807
  · rw [if_pos c5] at H
    have c5b0:=eq_true c5
    have c5b1:decide (a2.size+6≤9223372036854775807)=true:=decide_eq_true c5
    try have c5b2:(9223372036854775807<a2.size+6)=False:=eq_false (Nat.not_lt.2 c5)
    replace H:=Option.bind_eq_some_iff.mp H
    obtain ⟨t113,A60,H⟩:=H
    replace H:(if t113=true then (script_word.j0 k a0 a1 (wrap64 ((a2.size:Int)+6)) ((wrap64 (a1+(wrap64 ((a2.size:Int)+6)))) == (a0.size:Int))) else (script_word.j0 k a0 a1 (wrap64 ((a2.size:Int)+6)) true))=some r:=H
    have A6:=Aside0.mk A60
    clear A60
    by_cases c7:t113=true
    · subst c7
      have H1:(script_word.j0 k a0 a1 (wrap64 ((a2.size:Int)+6)) ((wrap64 (a1+(wrap64 ((a2.size:Int)+6)))) == (a0.size:Int)))=some r:=by rw [if_pos rfl] at H;exact H
      clear H
      have H:=H1
      clear H1
      have H':=Aside0.mk H
      clear H
      go_wp2_with (first | ((with_reducible refine gate_callee (f:=95) rfl ?_);refine goesL_ (some 16) rfl rfl Tryz.func95 (by kernel_rfl) rfl #[.string a0,.int .i64 a1,.string (a2++(⟨#[115,99,114,105,112,116]⟩:ByteArray))] rfl (by (try simp only [List.map_toArray,List.map_cons,List.map_nil]);first|done|rfl | (simp only [List.length_drop,List.length_take];rfl)) ?_;(with_reducible refine (sign_Begins.calls a0 a1 (a2++(⟨#[115,99,114,105,112,116]⟩:ByteArray)) true _ A6.out).mono ?_);rintro e w8 ⟨rfl,hb⟩;refine ⟨_,rfl,?_⟩;have n0_:=Aside0.mk (below_step (by repeat (first | (with_reducible first|exact HB.out|apply below_alloc|apply pw_below_drewN|apply below_drew1)|exact HB.out)) hb);clear HB;have HB:=n0_;clear n0_;(try clear hb);(try clear hb2);(try clear hk);(try clear hi)))
      go_meet
      case rel=>exact ⟨_,(((wrap64 (a1+(wrap64 ((a2.size:Int)+6)))) == (a0.size:Int))),(by first|rfl | (simp;done) | (simp [*];done)),H',⟨by first|omega|exact Nat.le_refl _⟩,⟨by repeat (first | (with_reducible first|exact HB.out|apply below_alloc|apply pw_below_drewN|apply below_drew1)|exact HB.out)⟩⟩
    · replace c7:=Bool.eq_false_iff.mpr c7
      subst c7
      have H1:(script_word.j0 k a0 a1 (wrap64 ((a2.size:Int)+6)) true)=some r:=by rw [if_neg (show ¬ (false=true) by decide)] at H;exact H
      clear H
      have H:=H1
      clear H1
      have H':=Aside0.mk H
      clear H
      go_wp2_with (first | ((with_reducible refine gate_callee (f:=95) rfl ?_);refine goesL_ (some 16) rfl rfl Tryz.func95 (by kernel_rfl) rfl #[.string a0,.int .i64 a1,.string (a2++(⟨#[115,99,114,105,112,116]⟩:ByteArray))] rfl (by (try simp only [List.map_toArray,List.map_cons,List.map_nil]);first|done|rfl | (simp only [List.length_drop,List.length_take];rfl)) ?_;(with_reducible refine (sign_Begins.calls a0 a1 (a2++(⟨#[115,99,114,105,112,116]⟩:ByteArray)) false _ A6.out).mono ?_);rintro e w9 ⟨rfl,hb⟩;refine ⟨_,rfl,?_⟩;have n0_:=Aside0.mk (below_step (by repeat (first | (with_reducible first|exact HB.out|apply below_alloc|apply pw_below_drewN|apply below_drew1)|exact HB.out)) hb);clear HB;have HB:=n0_;clear n0_;(try clear hb);(try clear hb2);(try clear hk);(try clear hi)))
      go_meet
      case rel=>exact ⟨_,(true),(by first|rfl | (simp;done) | (simp [*];done)),H',⟨by first|omega|exact Nat.le_refl _⟩,⟨by repeat (first | (with_reducible first|exact HB.out|apply below_alloc|apply pw_below_drewN|apply below_drew1)|exact HB.out)⟩⟩
  · rw [if_neg c5] at H
    exact absurd H (by simp)
 case rest =>
  clear HC4
  try clear c1
  try clear p2
  try clear c5
  try clear c5b0
  try clear c5b1
  try clear c5b2
  try clear p6
  try clear c7
  try clear c9
  obtain ⟨kq,x25_3,rfl,HA,HJ3,HB⟩:=hcut
  cases kq with
  | zero=>exact absurd HA.out (by simp [script_word.j0])
  | succ kj3 =>
    have H:=HA.out
    clear HA
    simp only [script_word.j0] at H
    by_cases c10:x25_3=true
    · subst c10
      have H1:(some 0)=some r:=by rw [if_pos rfl] at H;exact H
      clear H
      have H:=H1
      clear H1
      obtain rfl:=Option.some.inj H
      go_wp2
      go_ret
      exact ⟨by first|rfl | (simp [errW_none,errW_some]<;>rfl) | (simp [*,errW_none,errW_some]<;>rfl),by repeat (first | (with_reducible first|exact HB.out|apply below_alloc|apply pw_below_drewN|apply below_drew1)|exact HB.out)⟩
    · replace c10:=Bool.eq_false_iff.mpr c10
      subst c10
      have H1:(if 0≤(wrap64 (a1+(wrap64 ((a2.size:Int)+6)))) then (if (wrap64 (a1+(wrap64 ((a2.size:Int)+6))))<(a0.size:Int) then ((sign_Space.f (bt a0 (wrap64 (a1+(wrap64 ((a2.size:Int)+6)))))).bind fun t114=>(if t114=true then (some (wrap64 ((wrap64 ((a2.size:Int)+6))+1))) else (if (bt a0 (wrap64 (a1+(wrap64 ((a2.size:Int)+6)))))=47 then (some (wrap64 ((wrap64 ((a2.size:Int)+6))+1))) else (if (bt a0 (wrap64 (a1+(wrap64 ((a2.size:Int)+6)))))=62 then (some (wrap64 ((wrap64 ((a2.size:Int)+6))+1))) else (some 0))))) else (none)) else (none))=some r:=by rw [if_neg (show ¬ (false=true) by decide)] at H;exact H
      clear H
      have H:=H1
      clear H1
      obtain ⟨ji11,hji11⟩:∃ j_:Int,(wrap64 (a1+(wrap64 ((a2.size:Int)+6))))=j_:=⟨_,rfl⟩
      replace H:(if 0≤(ji11) then (if (ji11)<(a0.size:Int) then ((sign_Space.f (bt a0 (ji11))).bind fun t114=>(if t114=true then (some (wrap64 ((wrap64 ((a2.size:Int)+6))+1))) else (if (bt a0 (ji11))=47 then (some (wrap64 ((wrap64 ((a2.size:Int)+6))+1))) else (if (bt a0 (ji11))=62 then (some (wrap64 ((wrap64 ((a2.size:Int)+6))+1))) else (some 0))))) else (none)) else (none))=some r:=by first | (rw [hji11] at H;exact H) | (simp only [hji11] at H ⊢;exact H)
      have hji11w:(IntKind.i64.wrap (a1+(wrap64 ((a2.size:Int)+6))))=ji11:=(i64_w _).trans hji11
      by_cases c12:0≤(ji11)
      · rw [if_pos c12] at H
        have c12b0:decide (0≤(ji11))=true:=decide_eq_true c12
        clear c12
        by_cases c13:(ji11)<(a0.size:Int)
        · rw [if_pos c13] at H
          have c13b0:decide ((ji11)<(a0.size:Int))=true:=decide_eq_true c13
          clear c13
          replace H:=Option.bind_eq_some_iff.mp H
          obtain ⟨t114,A150,H⟩:=H
          replace H:(if t114=true then (some (wrap64 ((wrap64 ((a2.size:Int)+6))+1))) else (if (bt a0 (ji11))=47 then (some (wrap64 ((wrap64 ((a2.size:Int)+6))+1))) else (if (bt a0 (ji11))=62 then (some (wrap64 ((wrap64 ((a2.size:Int)+6))+1))) else (some 0))))=some r:=H
          have A15:=Aside0.mk A150
          clear A150
          by_cases c16:t114=true
          · subst c16
            have H1:(some (wrap64 ((wrap64 ((a2.size:Int)+6))+1)))=some r:=by rw [if_pos rfl] at H;exact H
            clear H
            have H:=H1
            clear H1
            obtain rfl:=Option.some.inj H
            have p14:0≤((ji11):Int):=of_decide_eq_true (by first | (with_reducible assumption)|assumption)
            have q14:(ji11)<(a0.size:Int):=of_decide_eq_true (by first | (with_reducible assumption)|assumption)
            have hx14:=bt_at a0 (ji11)
            replace p14:=eq_true p14
            replace q14:=eq_true q14
            go_wp2_with (first | ((with_reducible refine gate_callee (f:=124) rfl ?_);refine goesL_ (some 32) rfl rfl Tryz.func124 (by kernel_rfl) rfl #[.int .u8 (bt a0 (ji11))] rfl (by (try simp only [List.map_toArray,List.map_cons,List.map_nil]);first|done | (simp only [hji11];rfl)|rfl | (simp only [List.length_drop,List.length_take];rfl)) ?_;(with_reducible refine (sign_Space.calls (bt a0 (ji11)) true _ A15.out).mono ?_);rintro e w' ⟨rfl,⟨nd,rfl⟩⟩;refine ⟨_,rfl,?_⟩))
            go_ret
            exact ⟨by first|rfl | (simp [errW_none,errW_some]<;>rfl) | (simp only [← hji11];first|rfl | (simp [errW_none,errW_some]<;>rfl)) | (simp [*,errW_none,errW_some]<;>rfl),by repeat (first | (with_reducible first|exact HB.out|apply below_alloc|apply pw_below_drewN|apply below_drew1)|exact HB.out)⟩
          · replace c16:=Bool.eq_false_iff.mpr c16
            subst c16
            have H1:(if (bt a0 (ji11))=47 then (some (wrap64 ((wrap64 ((a2.size:Int)+6))+1))) else (if (bt a0 (ji11))=62 then (some (wrap64 ((wrap64 ((a2.size:Int)+6))+1))) else (some 0)))=some r:=by rw [if_neg (show ¬ (false=true) by decide)] at H;exact H
            clear H
            have H:=H1
            clear H1
            by_cases c17:(bt a0 (ji11))=47
            · rw [if_pos c17] at H
              have c17b0:((bt a0 (ji11)) == 47)=true:=beq_iff_eq.mpr c17
              have c17b1:((bt a0 (ji11)) != 47)=false:=bne_eq_false_iff_eq.mpr c17
              clear c17
              obtain rfl:=Option.some.inj H
              have p14:0≤((ji11):Int):=of_decide_eq_true (by first | (with_reducible assumption)|assumption)
              have q14:(ji11)<(a0.size:Int):=of_decide_eq_true (by first | (with_reducible assumption)|assumption)
              have hx14:=bt_at a0 (ji11)
              replace p14:=eq_true p14
              replace q14:=eq_true q14
              go_wp2_with (first | ((with_reducible refine gate_callee (f:=124) rfl ?_);refine goesL_ (some 32) rfl rfl Tryz.func124 (by kernel_rfl) rfl #[.int .u8 (bt a0 (ji11))] rfl (by (try simp only [List.map_toArray,List.map_cons,List.map_nil]);first|done | (simp only [hji11];rfl)|rfl | (simp only [List.length_drop,List.length_take];rfl)) ?_;(with_reducible refine (sign_Space.calls (bt a0 (ji11)) false _ A15.out).mono ?_);rintro e w' ⟨rfl,⟨nd,rfl⟩⟩;refine ⟨_,rfl,?_⟩))
              go_ret
              exact ⟨by first|rfl | (simp [errW_none,errW_some]<;>rfl) | (simp only [← hji11];first|rfl | (simp [errW_none,errW_some]<;>rfl)) | (simp [*,errW_none,errW_some]<;>rfl),by repeat (first | (with_reducible first|exact HB.out|apply below_alloc|apply pw_below_drewN|apply below_drew1)|exact HB.out)⟩
            · rw [if_neg c17] at H
              have c17b0:((bt a0 (ji11)) == 47)=false:=beq_eq_false_iff_ne.mpr c17
              have c17b1:((bt a0 (ji11)) != 47)=true:=bne_iff_ne.mpr c17
              by_cases c18:(bt a0 (ji11))=62
              · rw [if_pos c18] at H
                have c18b0:((bt a0 (ji11)) == 62)=true:=beq_iff_eq.mpr c18
                have c18b1:((bt a0 (ji11)) != 62)=false:=bne_eq_false_iff_eq.mpr c18
                clear c18
                obtain rfl:=Option.some.inj H
                have p14:0≤((ji11):Int):=of_decide_eq_true (by first | (with_reducible assumption)|assumption)
                have q14:(ji11)<(a0.size:Int):=of_decide_eq_true (by first | (with_reducible assumption)|assumption)
                have hx14:=bt_at a0 (ji11)
                replace p14:=eq_true p14
                replace q14:=eq_true q14
                go_wp2_with (first | ((with_reducible refine gate_callee (f:=124) rfl ?_);refine goesL_ (some 32) rfl rfl Tryz.func124 (by kernel_rfl) rfl #[.int .u8 (bt a0 (ji11))] rfl (by (try simp only [List.map_toArray,List.map_cons,List.map_nil]);first|done | (simp only [hji11];rfl)|rfl | (simp only [List.length_drop,List.length_take];rfl)) ?_;(with_reducible refine (sign_Space.calls (bt a0 (ji11)) false _ A15.out).mono ?_);rintro e w' ⟨rfl,⟨nd,rfl⟩⟩;refine ⟨_,rfl,?_⟩))
                go_ret
                exact ⟨by first|rfl | (simp [errW_none,errW_some]<;>rfl) | (simp only [← hji11];first|rfl | (simp [errW_none,errW_some]<;>rfl)) | (simp [*,errW_none,errW_some]<;>rfl),by repeat (first | (with_reducible first|exact HB.out|apply below_alloc|apply pw_below_drewN|apply below_drew1)|exact HB.out)⟩
              · rw [if_neg c18] at H
                have c18b0:((bt a0 (ji11)) == 62)=false:=beq_eq_false_iff_ne.mpr c18
                have c18b1:((bt a0 (ji11)) != 62)=true:=bne_iff_ne.mpr c18
                obtain rfl:=Option.some.inj H
                have p14:0≤((ji11):Int):=of_decide_eq_true (by first | (with_reducible assumption)|assumption)
                have q14:(ji11)<(a0.size:Int):=of_decide_eq_true (by first | (with_reducible assumption)|assumption)
                have hx14:=bt_at a0 (ji11)
                replace p14:=eq_true p14
                replace q14:=eq_true q14
                go_wp2_with (first | ((with_reducible refine gate_callee (f:=124) rfl ?_);refine goesL_ (some 32) rfl rfl Tryz.func124 (by kernel_rfl) rfl #[.int .u8 (bt a0 (ji11))] rfl (by (try simp only [List.map_toArray,List.map_cons,List.map_nil]);first|done | (simp only [hji11];rfl)|rfl | (simp only [List.length_drop,List.length_take];rfl)) ?_;(with_reducible refine (sign_Space.calls (bt a0 (ji11)) false _ A15.out).mono ?_);rintro e w' ⟨rfl,⟨nd,rfl⟩⟩;refine ⟨_,rfl,?_⟩))
                go_ret
                exact ⟨by first|rfl | (simp [errW_none,errW_some]<;>rfl) | (simp only [← hji11];first|rfl | (simp [errW_none,errW_some]<;>rfl)) | (simp [*,errW_none,errW_some]<;>rfl),by repeat (first | (with_reducible first|exact HB.out|apply below_alloc|apply pw_below_drewN|apply below_drew1)|exact HB.out)⟩
        · rw [if_neg c13] at H
          exact absurd H (by simp)
      · rw [if_neg c12] at H
        exact absurd H (by simp)
end Go.Proofs.YtcecjoaeolglbaaGreatDoor.Sa
end
