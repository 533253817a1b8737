/-
  Texts that several claims of this seat share, merged by a program of this session (2).
-/
import Derived.Test.YtclkdmmgibgamaaGreatDoorProg
import Derived.Below
import Derived.Deep.Draws
import Derived.Deep.AppendLies
import Derived.Maps.AppendAt
import Derived.OwnWalk
import Derived.Laws.BytesArg
import Derived.Laws.MakeOwn
import Derived.Laws.OwnMore
import Derived.Deep.OwnRows
import Derived.Tactics
import Derived.Lib.ConvBytes
import Derived.Laws.Slices
import Derived.WalkKit
import Derived.KernelRfl
import Derived.RowKit3
import Derived.Deep.LoopGhost
import Derived.Deep.QuietTactic
import Derived.BigQuiet
import Derived.WideLaws
import Derived.Deep.DeepCutAuto
import Derived.Deep.CutBlock
import Derived.Deep.RegionHeld3
import Derived.Laws.Rows
import Derived.Lib.AppendStr
import Derived.ArgAppend
import Derived.Laws.IdiomCopy
import Derived.OrdersHeld
import Derived.Laws.BitsLemmas
import Derived.RowKit
import Derived.WalkLawsBesides
import Derived.Laws.Cover3
import Derived.Laws.Cover2
import Derived.Laws.FloatArith
import Derived.Laws.ComplexArith
import Derived.LoopN
import Derived.ChangeKeysEq
import Derived.Laws.Tables
import Derived.Deep.WholeRow
import Derived.Great.Walk
import Derived.Test.YtclkdmmgibgamaaGreatDoorZua
set_option linter.unusedVariables false
set_option linter.unusedSimpArgs false
set_option maxRecDepth 100000
set_option maxHeartbeats 16000000
section
namespace Go.Proofs.YtclkdmmgibgamaaGreatDoorW.PrintWords
open Go.RowKit
namespace Kd
def chunks (sz:Nat) (n:Nat) (inner:List Value):List (List Value):=(List.range n).map fun j=>(inner.drop (j*sz)).take sz
theorem chunks_length (sz n:Nat) (inner:List Value):(chunks sz n inner).length=n:=by simp [chunks]
theorem chunks_at {sz n:Nat} {inner:List Value} {j:Nat} (hj:j<n):(chunks sz n inner)[j]? = some ((inner.drop (j*sz)).take sz):=by simp [chunks,hj]
theorem chunks_get {sz n:Nat} {inner:List Value} {j:Nat} {c:List Value} (h:(chunks sz n inner)[j]? = some c):c=(inner.drop (j*sz)).take sz:=by
 have hj:j<n:=by have:=(List.getElem?_eq_some_iff.1 h).1;rwa [chunks_length] at this
 rw [chunks_at hj] at h
 injection h with h
 exact h.symm
theorem reps_raw {α:Type} {Rr:α→List Value→Prop} {sz:Nat} {xs:List α} {inner:List Value} (h:Reps Rr sz xs inner) (hR:∀ x c,Rr x c→c.length=sz∧∀ u∈c,u.oneCell'=true):Reps (fun x cs=>cs=x∧cs.length=sz∧∀ u∈cs,u.oneCell'=true) sz (chunks sz xs.length inner) inner:=by
 refine ⟨by rw [chunks_length];exact h.1,fun j p hj => ?_⟩
 have hjl:j<xs.length:=by have:=(List.getElem?_eq_some_iff.1 hj).1;rwa [chunks_length] at this
 have hp:=chunks_get hj
 exact ⟨hp.symm,hR _ _ (h.2 j _ (List.getElem?_eq_getElem hjl))⟩
section
variable {α : Type} {d : Kd α} {e base n cc g : Nat} {ok ok' okp S : Nat → Prop} {w w1 W W1 : World} {A : Option Addr} {u v v1 : Value} {xs : List α} {x : α} {c : List Value}
theorem F_get (h:F d W ok A n xs) (z:α) (i:Int) (h0:0≤i) (h1:i<n) :
  ∃ ad c,A=some ad∧c.length=d.sz∧FK d W ok (xs.getD i.toNat z) c∧(∀ j u,c[j]? = some u→W.cell? (ad.add (i.toNat*d.sz+j))=some u)∧(0<d.sz→ok ad.block):=by
 obtain ⟨ad,c,rfl,hcl,hK,hcc⟩:=C_get (F_now h) z i h0 h1
 have hin:0<d.sz→ok ad.block:=by
  intro hs
  by_cases hk:ok ad.block
  ·exact hk
  ·obtain ⟨W',h2,h3⟩:=emptied W ad.block
   obtain ⟨ad',c',he,hcl',_,hcc'⟩:=C_get (h W' (fun k hk' _=>h2 k (fun e=>hk (e ▸ hk')))) z i h0 h1
   injection he with he
   subst he
   have h4:=hcc' 0 _ (List.getElem?_eq_getElem (by omega))
   rw [h3 _ (add_block _ _)] at h4
   cases h4
 refine ⟨ad,c,rfl,hcl,fun W' hW => ?_,hcc,hin⟩
 obtain ⟨ad',c',he,hcl',hK',hcc'⟩:=C_get (h W' hW) z i h0 h1
 injection he with he
 subst he
 have hc:c=c':=by
  apply List.ext_getElem?
  intro j
  by_cases hj:j<d.sz
  ·have hb:W'.heap[ad.block]? = W.heap[ad.block]? := by
    have h5:=hcc j _ (List.getElem?_eq_getElem (by omega))
    have h6:=World.block_lt_of_cell? W _ h5
    rw [add_block] at h6
    exact hW _ (hin (by omega)) h6
   have h5:=hcc j _ (List.getElem?_eq_getElem (by omega))
   have h6:=hcc' j _ (List.getElem?_eq_getElem (by omega))
   have h7:W'.cell? (ad.add (i.toNat*d.sz+j))=W.cell? (ad.add (i.toNat*d.sz+j)):=by simp [World.cell?,add_block,hb]
   rw [h7,h5] at h6
   rw [List.getElem?_eq_getElem (by omega),List.getElem?_eq_getElem (by omega)]
   exact h6
  ·rw [List.getElem?_eq_none (by omega),List.getElem?_eq_none (by omega)]
 rw [hc]
 exact hK'
theorem F_rows (h:F d W ok A n xs):ReadsRow (fun x c=>FK d W ok x c) d.sz W A n xs:=by
 obtain ⟨hl,hm,hn⟩:=F_now h
 refine ⟨hl,hm,fun hp => ?_⟩
 obtain ⟨ad,rfl,_⟩:=hn hp
 refine ⟨ad,rfl,fun j p hj => ?_⟩
 obtain ⟨hjl,hjp⟩:=List.getElem?_eq_some_iff.1 hj
 obtain ⟨ad',c,he,hcl,hK,hcc,_⟩:=F_get h p (j:Int) (by omega) (by omega)
 injection he with he
 subst he
 simp only [Int.toNat_natCast] at hK hcc
 rw [List.getD_eq_getElem?_getD,hj] at hK
 exact ⟨c,hcl,hK,hcc⟩
def N {α:Type} (d:Kd α) (e:Nat) (w:World) (base:Nat) (ok:Nat→Prop) (v:Value) (xs:List α):Prop :=
 (∀ k,v.ownBlock=some k→ok k)∧∃ rows:List (List Value),rows.length=xs.length∧(raw d.sz).R e w base (fun k=>some k=v.ownBlock) v rows∧∀ (j:Nat) (x:α) (c:List Value),xs[j]? = some x→rows[j]? = some c→FK d w (fun k=>ok k∧some k≠v.ownBlock) x c
theorem raw_tight {sz:Nat} {rows:List (List Value)} (h:(raw sz).R e w base ok v rows):(raw sz).R e w base (fun k=>some k=v.ownBlock) v rows:=R_tight rfl h
theorem raw_any {sz:Nat} {rows:List (List Value)} (h:(raw sz).R e w base ok v rows):(raw sz).R e w base (fun _=>True) v rows:=R_mono h (fun _ _=>trivial)
theorem R_N (h:d.R e w base ok v xs):N d e w base ok v xs:=by
 obtain ⟨h0,inner,ho,hr⟩:=h
 refine ⟨h0,chunks d.sz xs.length inner,chunks_length _ _ _,⟨fun k hk=>hk.symm,inner,by rw [chunks_length];exact ho,reps_raw hr (fun x c hp=>⟨d.K_len (d.K_of_M hp),d.K_one (d.K_of_M hp)⟩)⟩,fun j x c hx hc => ?_⟩
 rw [chunks_get hc]
 exact FK_of_M (hr.2 j x hx)
theorem N_nil (d:Kd α) (e:Nat) (w:World) (base:Nat) (ok:Nat→Prop):N d e w base ok (.slice none 0 0) []:=R_N (R_nil _ _ _ _ _)
theorem N_lt (h:N d e w base ok v xs):∀ k,v.ownBlock=some k→k<w.heap.size:=by
 obtain ⟨_,rows,_,hR,_⟩:=h
 exact R_lt hR
theorem N_base (h:N d e w base ok v xs):∀ k,v.ownBlock=some k→base≤k:=by
 obtain ⟨_,rows,_,hR,_⟩:=h
 exact R_base hR
theorem N_step (h:N d e w base ok v xs) (hm:∀ k,ok k→k<w.heap.size→w1.heap[k]? = w.heap[k]?):N d e w1 base ok v xs:=by
 obtain ⟨h0,rows,hl,hR,hf⟩:=h
 exact ⟨h0,rows,hl,R_step hR (fun k hk hlt=>hm k (h0 k hk.symm) hlt),fun j x c hx hc=>FK_step (hf j x c hx hc) (fun k hk hlt=>hm k hk.1 hlt)⟩
theorem N_below (h:N d e w base ok v xs) (hb:Below w.heap.size w w1):N d e w1 base ok v xs:=N_step h (fun k _ hk=>hb.block k hk)
theorem N_alloc (h:N d e w base ok v xs) (o:Obj):N d e (w.alloc o) base ok v xs:=N_below h (below_alloc (Below.refl _ _) o)
theorem N_drew (h:N d e w base ok v xs):N d e w.drew base ok v xs:=N_below h (below_drew (Below.refl _ _))
theorem N_slice (h:N d e w base ok v xs):∃ A c,v = .slice A xs.length c:=by
 obtain ⟨_,rows,hl,hR,_⟩:=h
 obtain ⟨A,c,he⟩:=R_slice hR
 exact ⟨A,c,by rw [he,hl]⟩
theorem N_form (h:N d e w base ok v xs) (hp:0<xs.length):∃ g cap,v = .slice (some ⟨g,0,none⟩) xs.length cap∧base≤g∧g<w.heap.size∧∃ cells,w.heap[g]? = some (.cells cells e (0,0)):=by
 obtain ⟨_,rows,hl,hR,_⟩:=h
 rw [← hl] at hp ⊢
 exact R_form hR hp
theorem N_reads' {n c:Nat} (h:N d e w base ok (.slice A n c) xs):n=xs.length∧n≤c∧d.C w A xs.length xs:=by
 obtain ⟨_,rows,hl,hR,hf⟩:=h
 obtain ⟨hn,hc,hC⟩:=R_reads' hR
 refine ⟨by omega,hc,?_⟩
 rw [hl] at hC
 refine ⟨rfl,hC.2.1,fun hp => ?_⟩
 obtain ⟨ad,he,hcell⟩:=hC.2.2 hp
 refine ⟨ad,he,fun j p hj => ?_⟩
 have hjl:j<rows.length:=by have:=(List.getElem?_eq_some_iff.1 hj).1;omega
 obtain ⟨c',hcl,hK,hcc⟩:=hcell j _ (List.getElem?_eq_getElem hjl)
 have hk:=FK_now (hf j p _ hj (List.getElem?_eq_getElem hjl))
 refine ⟨c',hcl,?_,hcc⟩
 rw [show c'=rows[j] from hK.1]
 exact hk
theorem N_F {n:Nat} (h:N d e w base ok (.slice A n cc) xs):F d w ok A n xs:=fun W' hW=>by
 have h2:=N_reads' (N_step h hW)
 rw [h2.1]
 exact h2.2.2
theorem N_elem {n cap:Nat} (h:N d e W base ok (.slice (some ⟨g,0,none⟩) n cap) xs) (z:α) (i:Int) (h0:0≤i) (h1:i<n) :
  ∃ c,c.length=d.sz∧FK d W (fun k=>ok k∧k≠g) (xs.getD i.toNat z) c∧(∀ j u,c[j]? = some u→W.cell? ⟨g,i.toNat*d.sz+j,none⟩=some u)∧∀ j,W.frozen? ⟨g,i.toNat*d.sz+j,none⟩=false:=by
 obtain ⟨_,rows,hl,hR,hf⟩:=h
 have hn:=(R_reads' hR).1
 obtain ⟨c,hcl,hM,hcc,hfr⟩:=R_elem hR [] i h0 h1
 have hil:i.toNat<rows.length:=by omega
 have hil':i.toNat<xs.length:=by omega
 have hc:c=rows[i.toNat]:=by
  have h2:=hM.1
  rwa [List.getD_eq_getElem?_getD,List.getElem?_eq_getElem hil] at h2
 refine ⟨c,hcl,?_,hcc,hfr⟩
 rw [List.getD_eq_getElem?_getD,List.getElem?_eq_getElem hil']
 exact FK_mono (hf _ _ _ (List.getElem?_eq_getElem hil') (by rw [hc];exact List.getElem?_eq_getElem hil)) (fun k hk=>⟨hk.1,fun he=>hk.2 (by rw [he];simp [Value.ownBlock])⟩)
end
end Kd
end Go.Proofs.YtclkdmmgibgamaaGreatDoorW.PrintWords
end

section
namespace Go.Proofs.YtclkdmmgibgamaaGreatDoorW.PrintWords
theorem Reps.one {α:Type} {R:α→List Value→Prop} {ps:List α} {cs:List Value} {p:α} {v:Value} (hp:R p [v]) (h:Reps R 1 ps cs):Reps R 1 (p::ps) (v::cs):=by
 refine ⟨by simp [h.1],fun j q hq => ?_⟩
 cases j with
 | zero =>
   simp only [List.getElem?_cons_zero,Option.some.injEq] at hq
   subst hq
   simpa using hp
 | succ j =>
   simp only [List.getElem?_cons_succ] at hq
   have h1:=h.2 j q hq
   simpa [Nat.mul_one] using h1
end Go.Proofs.YtclkdmmgibgamaaGreatDoorW.PrintWords
end

section
namespace Go.Proofs.YtclkdmmgibgamaaGreatDoorW.PrintWords
open Go.RowKit
namespace Kd
section
variable {α : Type} {d : Kd α} {e base n cap g : Nat} {ok ok' okp : Nat → Prop} {w w1 W : World} {v v1 : Value} {xs ys : List α}
theorem N_appended {rows news:List (List Value)} (h0:∀ k,v.ownBlock=some k→ok k) (hl:rows.length=xs.length) (hf:∀ (j:Nat) (x:α) (c:List Value),xs[j]? = some x→rows[j]? = some c→FK d W (fun k=>ok k∧some k≠v.ownBlock) x c)
  (hl2:news.length=ys.length) (hf2:∀ (j:Nat) (x:α) (c:List Value),ys[j]? = some x→news[j]? = some c→FK d W okp x c) (hokp:∀ k,okp k→ok k∧some k≠v.ownBlock) (hfresh:∀ k,W.heap.size≤k→ok k)
  (hR:(raw d.sz).R e w1 base (fun _=>True) v1 (rows++news)) (hg:W.grownBy w1 v.ownBlock) (hat:v1.ownBlock=v.ownBlock∨∃ b,v1.ownBlock=some b∧W.heap.size≤b):N d e w1 base ok v1 (xs++ys):=by
 have hne:∀ k,some k≠v.ownBlock→k<W.heap.size→some k≠v1.ownBlock:=by
  intro k hk hlt
  rcases hat with hat|⟨b,hb,hle⟩
  ·rw [hat];exact hk
  ·rw [hb]
   intro he
   injection he with he
   omega
 have step:∀ {x:α} {c:List Value} {o:Nat→Prop},FK d W o x c→(∀ k,o k→ok k∧some k≠v.ownBlock)→FK d w1 (fun k=>ok k∧some k≠v1.ownBlock) x c:=by
  intro x c o hq ho
  exact FK_mono (FK_step (FK_bound hq) (fun k hk hlt=>hg.block k hlt (ho k hk.1).2)) (fun k hk=>⟨(ho k hk.1).1,hne k (ho k hk.1).2 hk.2⟩)
 refine ⟨fun k hk => ?_,rows++news,by rw [List.length_append,List.length_append,hl,hl2],raw_tight hR,fun j x c hx hc => ?_⟩
 ·rcases hat with hat|⟨b,hb,hle⟩
  ·exact h0 k (hat ▸ hk)
  ·rw [hb] at hk
   injection hk with hk
   exact hfresh k (by omega)
 ·rcases Nat.lt_or_ge j xs.length with hlt|hge
  ·rw [List.getElem?_append_left hlt] at hx
   rw [List.getElem?_append_left (by omega)] at hc
   exact step (hf j x c hx hc) (fun _ hk=>hk)
  ·rw [List.getElem?_append_right hge] at hx
   rw [List.getElem?_append_right (by omega),hl] at hc
   exact step (hf2 _ x c hx hc) hokp
theorem FK_raw {x:α} {c:List Value} (h:FK d W ok x c):c=c∧c.length=d.sz∧∀ u∈c,u.oneCell'=true:=⟨rfl,d.K_len (FK_now h),d.K_one (FK_now h)⟩
theorem N_written {rows:List (List Value)} {i:Int} {x':α} {c':List Value} (h0:∀ k,(Value.slice (some ⟨g,0,none⟩) n cap).ownBlock=some k→ok k) (hl:rows.length=xs.length) (hf:∀ (j:Nat) (x:α) (c:List Value),xs[j]? = some x→rows[j]? = some c→FK d W (fun k=>ok k∧some k≠(Value.slice (some ⟨g,0,none⟩) n cap).ownBlock) x c)
  (hR:(raw d.sz).R e w1 base (fun _=>True) (.slice (some ⟨g,0,none⟩) n cap) (rows.set i.toNat c')) (hg:W.grownBy w1 (some g)) (hM:FK d W okp x' c') (hokp:∀ k,okp k→ok k∧k≠g):N d e w1 base ok (.slice (some ⟨g,0,none⟩) n cap) (xs.set i.toNat x'):=by
 have hgo:some g=(Value.slice (some ⟨g,0,none⟩) n cap).ownBlock:=by simp [Value.ownBlock]
 refine ⟨h0,rows.set i.toNat c',by rw [List.length_set,List.length_set,hl],raw_tight hR,fun j x c hx hc => ?_⟩
 have hjl:j<xs.length:=by have:=(List.getElem?_eq_some_iff.1 hx).1;rwa [List.length_set] at this
 by_cases hji:j=i.toNat
 ·subst hji
  rw [List.getElem?_set_self hjl] at hx
  rw [List.getElem?_set_self (by omega)] at hc
  injection hx with hx
  injection hc with hc
  rw [← hx,← hc]
  exact FK_mono (FK_step hM (fun k hk hlt=>hg.block k hlt (fun he=>(hokp k hk).2 (by injection he)))) (fun k hk=>⟨(hokp k hk).1,fun he=>(hokp k hk).2 (by rw [← hgo] at he;injection he)⟩)
 ·rw [List.getElem?_set_ne (Ne.symm hji)] at hx hc
  exact FK_step (hf j x c hx hc) (fun k hk hlt=>hg.block k hlt (by rw [hgo];exact hk.2))
theorem N_seg (h:N d e W base ok (.slice (some ⟨g,0,none⟩) n cap) xs) (i:Int) (h0:0≤i) (h1:i<n) {c seg:List Value} {j:Nat} (hcl:c.length=d.sz) (hcc:∀ j u,c[j]? = some u→W.cell? ⟨g,i.toNat*d.sz+j,none⟩=some u)
  (hj:j+seg.length≤d.sz) {x':α} (hM:FK d W okp x' (c.take j++seg++c.drop (j+seg.length))) (hokp:∀ k,okp k→ok k∧k≠g) :
  N d e (W.setCells g (i.toNat*d.sz+j) seg) base ok (.slice (some ⟨g,0,none⟩) n cap) (xs.set i.toNat x')∧W.grownBy (W.setCells g (i.toNat*d.sz+j) seg) (some g):=by
 obtain ⟨hown,rows,hl,hR,hf⟩:=h
 obtain ⟨h2,h3⟩:=R_seg (raw_any hR) i h0 h1 (c:=c) (seg:=seg) (j:=j) (x':=c.take j++seg++c.drop (j+seg.length)) (okp:=fun _=>False) hcl hcc hj ⟨rfl,d.K_len (FK_now hM),d.K_one (FK_now hM)⟩ (fun _ hk=>hk.elim)
 exact ⟨N_written hown hl hf h2 h3 hM hokp,h3⟩
theorem reads_raw {Rr:α→List Value→Prop} {sz m:Nat} {A:Option Addr} (h:ReadsRow Rr sz W A m ys) (hR:∀ x c,Rr x c→c.length=sz∧∀ u∈c,u.oneCell'=true) :
  ∃ news:List (List Value),news.length=ys.length∧ReadsRow (fun x cs=>cs=x∧cs.length=sz∧∀ u∈cs,u.oneCell'=true) sz W A m news∧∀ (j:Nat) (x:α) (c:List Value),ys[j]? = some x→news[j]? = some c→Rr x c:=by
 rcases Nat.eq_zero_or_pos m with h0|hp
 ·have hy:ys=[]:=List.eq_nil_of_length_eq_zero (h.1.trans h0)
  subst hy
  exact ⟨[],rfl,⟨h0 ▸ rfl,h.2.1,fun hp=>by omega⟩,fun j x c hx=>by simp at hx⟩
 ·obtain ⟨ad,rfl,_⟩:=h.2.2 hp
  obtain ⟨inner,hr,hc⟩:=ReadsRow.inner_ h
  refine ⟨chunks sz ys.length inner,chunks_length _ _ _,⟨by rw [chunks_length];exact h.1,h.2.1,fun _=>⟨ad,rfl,fun j p hj => ?_⟩⟩,fun j x c hx hcc => ?_⟩
  ·have hjl:j<ys.length:=by have:=(List.getElem?_eq_some_iff.1 hj).1;rwa [chunks_length] at this
   have hpe:=chunks_get hj
   have hq:=hR _ _ (hr.2 j _ (List.getElem?_eq_getElem hjl))
   rw [← hpe] at hq
   refine ⟨p,hq.1,⟨rfl,hq⟩,fun i u hu => ?_⟩
   have hu2:inner[j*sz+i]? = some u:=by
    rw [hpe,List.getElem?_take] at hu
    split at hu
    ·rw [List.getElem?_drop] at hu
     exact hu
    ·cases hu
   exact hc _ u hu2
  ·rw [chunks_get hcc]
   exact hr.2 j x hx
end
section
variable {P : Program} {ops : Array Oper} {rest : List Oper} {o : Oper} {a : Act} {Q : Exit → Act → World → Prop} {Kc : Act → World → Prop} {α : Type}
theorem N_append (d:Kd α) {w0 W:World} (base:Nat) (hgd:o.guard=none) (s x:Operand) (t e:TypeId) (z:Value) (bytes:Nat)
  (ho:o.op = .call { callee:=.builtin .append,args := #[s,x],argTypes := #[t,t] })
  (ht:P.underlying t=some (.slice e)) (hinfo:(P.info? e).map (fun i=>(i.zero,i.size,i.bytes))=some (some z,d.sz,bytes)) (hz:z.cells.size=d.sz) (hs0:0<d.sz) (hb0:0<bytes)
  (v:Value) (xs:List α) (p:α) (cs:List Value) (ok okp:Nat→Prop) (hs:a.eval s=v) (hx:a.eval x = .slice (some ⟨W.heap.size,0,none⟩) 1 1) (hp:FK d W okp p cs) (hokp:∀ k,okp k→ok k∧some k≠v.ownBlock) (hfresh:∀ k,W.heap.size≤k→ok k)
  (HO:N d e W base ok v xs) (HB:Below base w0 W) (hbase:base≤W.heap.size) (hl:(xs.length+1)*bytes≤140737488355328)
  (h:∀ v1 w1,N d e w1 base ok v1 (xs++[p])→Below base w0 w1→W.grownBy w1 v.ownBlock→(v1.ownBlock=v.ownBlock∨∃ b,v1.ownBlock=some b∧W.heap.size≤b)→wpList P ops Q rest (a.put o.dst v1) w1) :
  wpList P ops Q (o::rest) a (W.alloc (.cells cs.toArray e)):=by
 obtain ⟨h0,rows,hlr,hR,hf⟩:=HO
 refine R_append (raw d.sz) base hgd s x t e z bytes ho ht hinfo hz hs0 hb0 v rows cs cs (fun _=>True) (fun _=>False) hs hx (FK_raw hp) (fun _ hk=>hk.elim) (fun _ _=>trivial) (raw_any hR) HB hbase (by rw [hlr];exact hl) ?_
 intro v1 w1 hr hb hg hat
 exact h v1 w1 (N_appended h0 hlr hf (ys:=[p]) (news:=[cs]) rfl (fun j y c hy hc=>by
  rcases j with _|j
  ·simp only [List.getElem?_cons_zero,Option.some.injEq] at hy hc
   rw [← hy,← hc];exact hp
  ·simp at hy) hokp hfresh hr hg hat) hb hg hat
theorem N_append_rows (d:Kd α) {w0 W:World} (base:Nat) (hgd:o.guard=none) (s x:Operand) (t e:TypeId) (z:Value) (bytes:Nat)
  (ho:o.op = .call { callee:=.builtin .append,args := #[s,x],argTypes := #[t,t] })
  (ht:P.underlying t=some (.slice e)) (hinfo:(P.info? e).map (fun i=>(i.zero,i.size,i.bytes))=some (some z,d.sz,bytes)) (hz:z.cells.size=d.sz) (hs0:0<d.sz) (hb0:0<bytes)
  (v:Value) (xs ys:List α) (A:Option Addr) (m c:Nat) (ok okp:Nat→Prop) (hs:a.eval s=v) (hx:a.eval x = .slice A m c)
  (HO:N d e W base ok v xs) (HR:F d W okp A m ys) (hokp:∀ k,okp k→ok k∧some k≠v.ownBlock) (hfresh:∀ k,W.heap.size≤k→ok k)
  (HB:Below base w0 W) (hbase:base≤W.heap.size) (hl:(xs.length+m)*bytes≤140737488355328)
  (h:∀ v1 w1,N d e w1 base ok v1 (xs++ys)→Below base w0 w1→W.grownBy w1 v.ownBlock→(v1.ownBlock=v.ownBlock∨∃ b,v1.ownBlock=some b∧W.heap.size≤b)→wpList P ops Q rest (a.put o.dst v1) w1) :
  wpList P ops Q (o::rest) a W:=by
 obtain ⟨h0,rows,hlr,hR,hf⟩:=HO
 obtain ⟨news,hnl,hnr,hnf⟩:=reads_raw (F_rows HR) (fun y c hk=>⟨d.K_len (FK_now hk),d.K_one (FK_now hk)⟩)
 refine R_append_rows (raw d.sz) base hgd s x t e z bytes ho ht hinfo hz hs0 hb0 v rows news A m c (fun _=>True) (fun _=>False) hs hx (raw_any hR) hnr (fun _ _ hk=>hk) (fun _ hk=>hk.elim) (fun _ _=>trivial) HB hbase (by rw [hlr];exact hl) ?_
 intro v1 w1 hr hb hg hat
 exact h v1 w1 (N_appended h0 hlr hf hnl hnf hokp hfresh hr hg hat) hb hg hat
end
end Kd
end Go.Proofs.YtclkdmmgibgamaaGreatDoorW.PrintWords
end

section
namespace Go.Proofs.YtclkdmmgibgamaaGreatDoorW.PrintMore
open Go.RowKit Go.Proofs.YtclkdmmgibgamaaGreatDoorW.PrintWords
namespace Kd
open Go.Proofs.YtclkdmmgibgamaaGreatDoorW.PrintWords.Kd
end Kd
namespace Kd
open Go.Proofs.YtclkdmmgibgamaaGreatDoorW.PrintWords.Kd
section
variable {α : Type} {d : Kd α} {e base g N : Nat} {ok : Nat → Prop} {W w1 : World} {u v : Value} {xs : List α}
end
end Kd
theorem max2_int (k k':IntKind) (x y:Int):Builtin.max2 (.int k x) (.int k' y)=pure (.int k (if x<y then y else x)):=by simp only [Builtin.max2,gt_iff_lt]
theorem min2_int (k k':IntKind) (x y:Int):Builtin.min2 (.int k x) (.int k' y)=pure (.int k (if y<x then y else x)):=by simp only [Builtin.min2]
theorem max_two (ats:Array TypeId) (ty:TypeId) (a b:Value):Builtin.max_ ats ty #[a,b]=(Builtin.max2 a b >>= fun s=>pure s):=by simp only [Builtin.max_,List.foldlM_cons,List.foldlM_nil]
theorem min_two (ats:Array TypeId) (ty:TypeId) (a b:Value):Builtin.min_ ats ty #[a,b]=(Builtin.min2 a b >>= fun s=>pure s):=by simp only [Builtin.min_,List.foldlM_cons,List.foldlM_nil]
theorem max_three (ats:Array TypeId) (ty:TypeId) (a b c:Value):Builtin.max_ ats ty #[a,b,c]=(Builtin.max2 a b >>= fun s=>Builtin.max2 s c >>= fun s=>pure s):=by simp only [Builtin.max_,List.foldlM_cons,List.foldlM_nil]
theorem min_three (ats:Array TypeId) (ty:TypeId) (a b c:Value):Builtin.min_ ats ty #[a,b,c]=(Builtin.min2 a b >>= fun s=>Builtin.min2 s c >>= fun s=>pure s):=by simp only [Builtin.min_,List.foldlM_cons,List.foldlM_nil]
theorem max_four (ats:Array TypeId) (ty:TypeId) (a b c d:Value):Builtin.max_ ats ty #[a,b,c,d]=(Builtin.max2 a b >>= fun s=>Builtin.max2 s c >>= fun s=>Builtin.max2 s d >>= fun s=>pure s):=by simp only [Builtin.max_,List.foldlM_cons,List.foldlM_nil]
theorem min_four (ats:Array TypeId) (ty:TypeId) (a b c d:Value):Builtin.min_ ats ty #[a,b,c,d]=(Builtin.min2 a b >>= fun s=>Builtin.min2 s c >>= fun s=>Builtin.min2 s d >>= fun s=>pure s):=by simp only [Builtin.min_,List.foldlM_cons,List.foldlM_nil]
end Go.Proofs.YtclkdmmgibgamaaGreatDoorW.PrintMore
namespace Go.Proofs.YtclkdmmgibgamaaGreatDoorW.PrintWords
open Go.RowKit
section
variable {P : Program} {ops : Array Oper} {rest : List Oper} {o : Oper} {a : Act} {Q : Exit → Act → World → Prop} {W : World}
theorem gate_callee {f:FuncId} {as_:Array Operand} {ts:Array TypeId} (_ho:o.op = .call { callee:=.value (.func f),args:=as_,argTypes:=ts }) (h:wpList P ops Q (o::rest) a W):wpList P ops Q (o::rest) a W:=h
theorem gate_builtin {b:Builtin} {xs:Array Operand} {ts:Array TypeId} (_ho:o.op = .call { callee:=.builtin b,args:=xs,argTypes:=ts }) (h:wpList P ops Q (o::rest) a W):wpList P ops Q (o::rest) a W:=h
end
def mx (a b:Int):Int:=if a<b then b else a
def mn (a b:Int):Int:=if b<a then b else a
theorem cell_grown {W w1:World} {row:Option Nat} (hg:W.grownBy w1 row) {a:Addr} {v:Value} (h:W.cell? a=some v) (hne:some a.block≠row):w1.cell? a=some v:=by
 have:=hg.block a.block (World.block_lt_of_cell? W a h) hne
 simpa [World.cell?,this] using h
namespace Kd
section
variable {α : Type} {d : Kd α} {e base : Nat} {ok : Nat → Prop} {W w1 : World} {v : Value} {xs : List α}
theorem R_far1 (h:d.R e W base ok v xs) (hE:d.E=[]) {g:Nat} (hne:some g≠v.ownBlock):d.R e W base (fun k=>ok k∧k≠g) v xs :=
 R_mono (R_tight hE h) (fun k hk=>⟨h.1 k hk.symm,fun e_=>hne (by rw [← e_];exact hk)⟩)
end
section
variable {α : Type} {d : Kd α} {e base g n cap : Nat} {ok oki okp : Nat → Prop} {W : World} {xs : List α} {i : Int} {c : List Value}
end
section
variable {α : Type} {d : Kd α} {e base b b' g N : Nat} {ok ok1 : Nat → Prop} {W W2 w1 : World} {u v : Value} {xs ys : List α} {S : Nat → Prop}
end
end Kd
end Go.Proofs.YtclkdmmgibgamaaGreatDoorW.PrintWords
namespace Go.Proofs.YtclkdmmgibgamaaGreatDoorW.PrintWords
open Go.RowKit
namespace Kd
def V {α:Type} (d:Kd α) (_e:Nat) (W:World) (_base:Nat) (ok:Nat→Prop) (v:Value) (xs:List α):Prop := ∃ A c,v = .slice A xs.length c∧xs.length≤c∧F d W ok A xs.length xs
section
variable {α β : Type} {d : Kd α} {e base base' n m c g N' lo hi : Nat} {ok ok' S : Nat → Prop} {w W w1 : World} {A : Option Addr} {ad : Addr} {u v v1 : Value} {xs : List α}
theorem V_map (h:V d e W base ok v xs) (hF:∀ A,F d W ok A xs.length xs→F d w1 ok' A xs.length xs):V d e w1 base' ok' v xs:=by
 obtain ⟨A,c,hv,hl,hf⟩:=h
 exact ⟨A,c,hv,hl,hF A hf⟩
theorem V_slice (h:V d e W base ok v xs):∃ A c,v = .slice A xs.length c:=by
 obtain ⟨A,c,hv,_⟩:=h
 exact ⟨A,c,hv⟩
theorem V_at (h:V d e W base ok (.slice A n c) xs):n=xs.length∧n≤c∧F d W ok A xs.length xs:=by
 obtain ⟨A',c',hv,hl,hf⟩:=h
 injection hv with ha hn hc
 subst ha;subst hc
 exact ⟨hn,by rw [hn];exact hl,hf⟩
theorem V_reads' (h:V d e W base ok (.slice A n c) xs):n=xs.length∧n≤c∧d.C W A xs.length xs:=⟨(V_at h).1,(V_at h).2.1,F_now (V_at h).2.2⟩
theorem V_F (h:V d e W base ok (.slice A n c) xs):F d W ok A n xs:=by
 obtain ⟨hn,_,hf⟩:=V_at h
 rw [hn]
 exact hf
theorem R_V (h:d.R e W base ok v xs):V d e W base' ok v xs:=by
 obtain ⟨A,c,rfl⟩:=R_slice h
 exact ⟨A,c,rfl,(R_reads' h).2.1,R_F h⟩
theorem S_V (h:Kd.S d e W base ok v xs):V d e W base' ok v xs:=R_V (S_R h)
theorem N_V (h:N d e W base ok v xs):V d e W base' ok v xs:=by
 obtain ⟨A,c,rfl⟩:=N_slice h
 exact ⟨A,c,rfl,(N_reads' h).2.1,N_F h⟩
theorem V_mono (h:V d e W base ok v xs) (hok:∀ k,ok k→ok' k):V d e W base ok' v xs:=V_map h (fun _ hf=>F_mono hf hok)
theorem V_bound (h:V d e W base ok v xs):V d e W base (fun k=>ok k∧k<W.heap.size) v xs:=V_map h (fun _ hf=>F_bound hf)
theorem V_alloc (h:V d e W base ok v xs) (o:Obj):V d e (W.alloc o) base ok v xs:=V_map h (fun _ hf=>F_alloc hf o)
theorem V_drew (h:V d e W base ok v xs):V d e W.drew base ok v xs:=V_map h (fun _ hf=>F_drew hf)
theorem V_drewN (h:V d e W base ok v xs) (m:Nat):V d e (W.drewN m) base ok v xs:=V_map h (fun _ hf=>F_drewN hf m)
theorem V_grown (h:V d e W base ok v xs) {row:Option Nat} (hg:W.grownBy w1 row) (hok:∀ k,ok k→some k≠row):V d e w1 base ok v xs:=V_map h (fun _ hf=>F_grown hf hg hok)
theorem V_get (h:V d e W base ok (.slice (some ad) n c) xs) (z:α) (i:Int) (h0:0≤i) (h1:i<n) :
  ∃ cs,cs.length=d.sz∧FK d W ok (xs.getD i.toNat z) cs∧∀ j u,cs[j]? = some u→W.cell? (ad.add (i.toNat*d.sz+j))=some u:=by
 obtain ⟨ad',cs,he,hcl,hK,hcc,_⟩:=F_get (V_F h) z i h0 h1
 injection he with he
 subst he
 exact ⟨cs,hcl,hK,hcc⟩
end
end Kd
end Go.Proofs.YtclkdmmgibgamaaGreatDoorW.PrintWords
end

namespace Go.Proofs.YtclkdmmgibgamaaGreatDoor
section
namespace K0
open Go.RowKit YtclkdmmgibgamaaGreatDoorW.PrintWords YtclkdmmgibgamaaGreatDoorW.PrintLast YtclkdmmgibgamaaGreatDoorW.PrintMore
attribute [local go_sem] max2_int min2_int max_two min_two max_three min_three max_four min_four  
set_option linter.unusedVariables false
set_option linter.unusedSimpArgs false
structure S105 where
 f0:ByteArray
 f1:ByteArray
def z105:S105:=⟨(⟨#[]⟩:ByteArray),(⟨#[]⟩:ByteArray)⟩
def k105:Kd S105:=Kd.iso (Kd.pair Kd.string Kd.string) (fun x:S105=>(x.f0,x.f1))
theorem k105_open {w:World} {x:S105} {cs:List Value} (h:k105.K w x cs):cs=[.string x.f0,.string x.f1]:=by
 obtain ⟨_,_,rfl,rfl,rfl⟩:=h
 exact rfl
theorem k105_openM {w:World} {base:Nat} {ok:Nat→Prop} {x:S105} {cs:List Value} (h:k105.M w base ok x cs):cs=[.string x.f0,.string x.f1]:=by
 obtain ⟨_,_,rfl,rfl,rfl⟩:=h
 exact rfl
theorem k105_mkM (w:World) (base:Nat) (ok:Nat→Prop) (x:S105)  : k105.M w base ok x [.string x.f0,.string x.f1]:=⟨[.string x.f0],[.string x.f1],rfl,rfl,rfl⟩
def rd_T105 (xs:List S105) (i:Int):S105:=xs.getD i.toNat z105
theorem at_T105 {w:World} {A:Option Addr} {n:Nat} {xs:List S105} (h:Kd.C k105 w A n xs) (i:Int) (h0:0≤i) (h1:i<n):∃ ad ,A=some ad∧w.cell? (ad.add (i.toNat*2))=some (.string (rd_T105 xs i).f0)∧w.cell? ⟨(ad.add (i.toNat*2)).block,(ad.add (i.toNat*2)).off+1,none⟩=some (.string (rd_T105 xs i).f1):=by
 obtain ⟨ad,c,e,_,hK,hc0⟩:=Kd.C_get h z105 i h0 h1
 have hc:∀ j u,c[j]? = some u→w.cell? (ad.add (i.toNat*2+j))=some u:=hc0
 obtain rfl:=k105_open hK
 exact ⟨ad,e,hc 0 _ rfl,by rw [← add_field _ _ 1 zu4];exact hc 1 _ rfl⟩
structure S30 where
 f0:Int
 f1:ByteArray
 f2:ByteArray
 f3:(List S105)
 f4:Bool
def z30:S30:=⟨(0:Int),(⟨#[]⟩:ByteArray),(⟨#[]⟩:ByteArray),([]:List S105),false⟩
def k30:Kd S30:=Kd.iso (Kd.pair (Kd.int .i64) (Kd.pair Kd.string (Kd.pair Kd.string (Kd.pair (Kd.slice 105 k105) Kd.bool)))) (fun x:S30=>(x.f0,x.f1,x.f2,x.f3,x.f4))
theorem k30_open {w:World} {x:S30} {cs:List Value} (h:k30.K w x cs):∃ A3 c3,cs=[.int .i64 x.f0,.string x.f1,.string x.f2,.slice A3 x.f3.length c3,.bool x.f4]∧x.f3.length≤c3∧k105.C w A3 x.f3.length x.f3:=by
 obtain ⟨_,_,rfl,rfl,⟨_,_,rfl,rfl,⟨_,_,rfl,rfl,⟨_,_,rfl,⟨A3,c3,rfl,l3,g3⟩,rfl⟩⟩⟩⟩:=h
 exact ⟨A3,c3,rfl,l3,g3⟩
theorem k30_mk (w:World) (x:S30) {A3:Option Addr} {c3:Nat} (l3:x.f3.length≤c3) (g3:k105.C w A3 x.f3.length x.f3):k30.K w x [.int .i64 x.f0,.string x.f1,.string x.f2,.slice A3 x.f3.length c3,.bool x.f4]:=⟨[.int .i64 x.f0],[.string x.f1,.string x.f2,.slice A3 x.f3.length c3,.bool x.f4],rfl,rfl,⟨[.string x.f1],[.string x.f2,.slice A3 x.f3.length c3,.bool x.f4],rfl,rfl,⟨[.string x.f2],[.slice A3 x.f3.length c3,.bool x.f4],rfl,rfl,⟨[.slice A3 x.f3.length c3],[.bool x.f4],rfl,⟨A3,c3,rfl,l3,g3⟩,rfl⟩⟩⟩⟩
theorem k30_mkM (w:World) (base:Nat) (ok:Nat→Prop) (x:S30) {v3:Value} (g3:k105.R 105 w base ok v3 x.f3):k30.M w base ok x [.int .i64 x.f0,.string x.f1,.string x.f2,v3,.bool x.f4]:=⟨[.int .i64 x.f0],[.string x.f1,.string x.f2,v3,.bool x.f4],rfl,rfl,⟨[.string x.f1],[.string x.f2,v3,.bool x.f4],rfl,rfl,⟨[.string x.f2],[v3,.bool x.f4],rfl,rfl,⟨[v3],[.bool x.f4],rfl,⟨v3,rfl,g3⟩,rfl⟩⟩⟩⟩
theorem k30_openF {W:World} {ok:Nat→Prop} {x:S30} {cs:List Value} (h:Kd.FK k30 W ok x cs):∃ A3 c3,cs=[.int .i64 x.f0,.string x.f1,.string x.f2,.slice A3 x.f3.length c3,.bool x.f4]∧x.f3.length≤c3∧Kd.F k105 W ok A3 x.f3.length x.f3:=by
 obtain ⟨A3,c3,rfl,l3,_⟩:=k30_open (Kd.FK_now h)
 exact ⟨A3,c3,rfl,l3,(fun W' hW=>by obtain ⟨A3_,c3_,he,l3_,g3_⟩:=k30_open (h W' hW);injection (Option.some.inj (show some (Value.slice A3 x.f3.length c3)=some (Value.slice A3_ x.f3.length c3_) from congrArg (fun l=>l[3]?) he)) with ha_ _ _;rw [ha_];exact g3_)⟩
theorem k30_mkF (W:World) (ok:Nat→Prop) (x:S30) {A3:Option Addr} {c3:Nat} (l3:x.f3.length≤c3) (g3:Kd.F k105 W ok A3 x.f3.length x.f3):Kd.FK k30 W ok x [.int .i64 x.f0,.string x.f1,.string x.f2,.slice A3 x.f3.length c3,.bool x.f4]:=fun W2 hW=>k30_mk W2 x l3 (g3 W2 hW)
def rd_T30 (xs:List S30) (i:Int):S30:=xs.getD i.toNat z30
theorem at_T30 {w:World} {A:Option Addr} {n:Nat} {xs:List S30} (h:Kd.C k30 w A n xs) (i:Int) (h0:0≤i) (h1:i<n):∃ ad A3 c3,A=some ad∧w.cell? (ad.add (i.toNat*5))=some (.int .i64 (rd_T30 xs i).f0)∧w.cell? ⟨(ad.add (i.toNat*5)).block,(ad.add (i.toNat*5)).off+1,none⟩=some (.string (rd_T30 xs i).f1)∧w.cell? ⟨(ad.add (i.toNat*5)).block,(ad.add (i.toNat*5)).off+2,none⟩=some (.string (rd_T30 xs i).f2)∧w.cell? ⟨(ad.add (i.toNat*5)).block,(ad.add (i.toNat*5)).off+3,none⟩=some (.slice A3 (rd_T30 xs i).f3.length c3)∧w.cell? ⟨(ad.add (i.toNat*5)).block,(ad.add (i.toNat*5)).off+4,none⟩=some (.bool (rd_T30 xs i).f4)∧(rd_T30 xs i).f3.length≤c3∧k105.C w A3 (rd_T30 xs i).f3.length (rd_T30 xs i).f3:=by
 obtain ⟨ad,c,e,_,hK,hc0⟩:=Kd.C_get h z30 i h0 h1
 have hc:∀ j u,c[j]? = some u→w.cell? (ad.add (i.toNat*5+j))=some u:=hc0
 obtain ⟨A3,c3,rfl,l3,g3⟩:=k30_open hK
 exact ⟨ad,A3,c3,e,hc 0 _ rfl,by rw [← add_field _ _ 1 zu4];exact hc 1 _ rfl,by rw [← add_field _ _ 2 zu4];exact hc 2 _ rfl,by rw [← add_field _ _ 3 zu4];exact hc 3 _ rfl,by rw [← add_field _ _ 4 zu4];exact hc 4 _ rfl,l3,g3⟩
end K0
end

section
namespace Sa
open Go.RowKit K0 Hand YtclkdmmgibgamaaGreatDoorW.PrintWords YtclkdmmgibgamaaGreatDoorW.PrintLast YtclkdmmgibgamaaGreatDoorW.PrintMore
attribute [local go_sem] max2_int min2_int max_two min_two max_three min_three max_four min_four  
set_option linter.unusedVariables false
set_option linter.unusedSimpArgs false
def sign_Begins.f (a0:ByteArray) (a1:Int) (a2:ByteArray):Option (Bool):=if a1<0 then (some false) else (if a1>(a0.size:Int) then (some false) else (if (wrap64 ((a0.size:Int) - a1))<(a2.size:Int) then (some false) else (if 0≤a1 then (if a1≤(wrap64 (a1+(a2.size:Int))) then (if (wrap64 (a1+(a2.size:Int)))≤(a0.size:Int) then ((sign_Lower.f (a0.extract (a1:Int).toNat ((wrap64 (a1+(a2.size:Int))):Int).toNat)).bind fun t101=>(some (t101.toList == a2.toList))) else (none)) else (none)) else (none))))
theorem sign_Begins.calls (a0:ByteArray) (a1:Int) (a2:ByteArray) (r:Bool) (w:World) (h:sign_Begins.f a0 a1 a2=some r) :
  Calls Tryz.prog 76 #[.string a0,.int .i64 a1,.string a2] w fun e w'=>e = .returned (.bool r)∧Below w.heap.size w w':=by
 have HB:=Aside0.mk (Below.refl w.heap.size w)
 have H:(if a1<0 then (some false) else (if a1>(a0.size:Int) then (some false) else (if (wrap64 ((a0.size:Int) - a1))<(a2.size:Int) then (some false) else (if 0≤a1 then (if a1≤(wrap64 (a1+(a2.size:Int))) then (if (wrap64 (a1+(a2.size:Int)))≤(a0.size:Int) then ((sign_Lower.f (a0.extract (a1:Int).toNat ((wrap64 (a1+(a2.size:Int))):Int).toNat)).bind fun t101=>(some (t101.toList == a2.toList))) else (none)) else (none)) else (none)))))=some r:=h
 clear h
 by_cases c4:a1<0
 ·rw [if_pos c4] at H
  have c4b0:decide (a1<0)=true:=decide_eq_true c4
  clear c4
  obtain rfl:=Option.some.inj H
  go_enter Tryz.func76,Tryz.ntmps76
  go_wp2
  go_ret
  exact zu5
 ·rw [if_neg c4] at H
  have c4b0:decide (a1<0)=false:=decide_eq_false c4
  clear c4
  by_cases c5:a1>(a0.size:Int)
  ·rw [if_pos c5] at H
   have c5b0:decide ((a0.size:Int)<a1)=true:=decide_eq_true c5
   clear c5
   obtain rfl:=Option.some.inj H
   go_enter Tryz.func76,Tryz.ntmps76
   go_wp2
   go_ret
   exact zu5
  ·rw [if_neg c5] at H
   have c5b0:decide ((a0.size:Int)<a1)=false:=decide_eq_false c5
   clear c5
   by_cases c6:(wrap64 ((a0.size:Int) - a1))<(a2.size:Int)
   ·rw [if_pos c6] at H
    have c6b0:decide ((wrap64 ((a0.size:Int) - a1))<(a2.size:Int))=true:=decide_eq_true c6
    clear c6
    obtain rfl:=Option.some.inj H
    go_enter Tryz.func76,Tryz.ntmps76
    go_wp2
    go_ret
    exact zu5
   ·rw [if_neg c6] at H
    have c6b0:decide ((wrap64 ((a0.size:Int) - a1))<(a2.size:Int))=false:=decide_eq_false c6
    clear c6
    by_cases c7:0≤a1
    ·rw [if_pos c7] at H
     have c7b0:=eq_true c7
     have c7b1:decide (0≤a1)=true:=decide_eq_true c7
     clear c7
     by_cases c8:a1≤(wrap64 (a1+(a2.size:Int)))
     ·rw [if_pos c8] at H
      have c8b0:=eq_true c8
      have c8b1:decide (a1≤(wrap64 (a1+(a2.size:Int))))=true:=decide_eq_true c8
      by_cases c9:(wrap64 (a1+(a2.size:Int)))≤(a0.size:Int)
      ·rw [if_pos c9] at H
       have c9b0:=eq_true c9
       have c9b1:decide ((wrap64 (a1+(a2.size:Int)))≤(a0.size:Int))=true:=decide_eq_true c9
       replace H:=Option.bind_eq_some_iff.mp H
       obtain ⟨t101,A100,H⟩:=H
       try dsimp only at H
       have A10:=Aside0.mk A100
       clear A100
       obtain rfl:=Option.some.inj H
       go_enter Tryz.func76,Tryz.ntmps76
       go_wp2_with (first | ((with_reducible refine gate_callee (f:=107) rfl ?_);refine goesL_ (some 31) rfl rfl Tryz.func107 zu13 rfl #[.string (a0.extract (a1:Int).toNat ((wrap64 (a1+(a2.size:Int))):Int).toNat)] rfl zu2 ?_;(with_reducible refine (sign_Lower.calls (a0.extract (a1:Int).toNat ((wrap64 (a1+(a2.size:Int))):Int).toNat) t101 _ A10.out).mono ?_);rintro e w11 ⟨rfl,hb⟩;refine ⟨_,rfl,?_⟩;have n0_:=Aside0.mk (below_step zu1 hb);clear HB;have HB:=n0_;clear n0_;(try clear hb);(try clear hb2);(try clear hk);(try clear hi)))
       go_ret
       exact zu5
      ·rw [if_neg c9] at H
       exact absurd H zu19
     ·rw [if_neg c8] at H
      exact absurd H zu19
    ·rw [if_neg c7] at H
     exact absurd H zu19
def sign_within.f (a0:Int) (a1:Int) (a2:Int):Option (Bool):=if a0≥a1 then (some (decide (a0≤a2))) else (some false)
theorem sign_within.calls (a0:Int) (a1:Int) (a2:Int) (r:Bool) (w:World) (h:sign_within.f a0 a1 a2=some r) :
  Calls Tryz.prog 148 #[.int .u8 a0,.int .u8 a1,.int .u8 a2] w fun e w'=>e = .returned (.bool r)∧Drawn0 w w':=by
 have H:(if a0≥a1 then (some (decide (a0≤a2))) else (some false))=some r:=h
 clear h
 by_cases c4:a0≥a1
 ·rw [if_pos c4] at H
  have c4b0:decide (a1≤a0)=true:=decide_eq_true c4
  clear c4
  obtain rfl:=Option.some.inj H
  go_enter Tryz.func148,Tryz.ntmps148
  go_wp2
  go_ret
  exact zu14
 ·rw [if_neg c4] at H
  have c4b0:decide (a1≤a0)=false:=decide_eq_false c4
  clear c4
  obtain rfl:=Option.some.inj H
  go_enter Tryz.func148,Tryz.ntmps148
  go_wp2
  go_ret
  exact zu14
def sign_Digit.f (a0:Int):Option (Bool):=(sign_within.f a0 48 57).bind fun t102=>(some t102)
theorem sign_Digit.calls (a0:Int) (r:Bool) (w:World) (h:sign_Digit.f a0=some r) :
  Calls Tryz.prog 158 #[.int .u8 a0] w fun e w'=>e = .returned (.bool r)∧Drawn0 w w':=by
 have H:((sign_within.f a0 48 57).bind fun t102=>(some t102))=some r:=h
 clear h
 replace H:=Option.bind_eq_some_iff.mp H
 obtain ⟨t102,A20,H⟩:=H
 replace H:(some t102)=some r:=H
 have A2:=Aside0.mk A20
 clear A20
 obtain rfl:=Option.some.inj H
 go_enter Tryz.func158,Tryz.ntmps158
 go_wp2_with (first | ((with_reducible refine gate_callee (f:=148) rfl ?_);refine goesL_ (some 4) rfl rfl Tryz.func148 zu13 rfl #[.int .u8 a0,.int .u8 48,.int .u8 57] rfl zu2 ?_;(with_reducible refine (sign_within.calls a0 48 57 t102 _ A2.out).mono ?_);rintro e w' ⟨rfl,⟨nd,rfl⟩⟩;refine ⟨_,rfl,?_⟩))
 go_ret
 exact zu14
def sign_Hex.f (a0:Int):Option (Int):=(sign_Digit.f a0).bind fun t103=>(if t103=true then (some (wrap64 ((wrap64 (a0)) - 48))) else ((sign_within.f a0 65 70).bind fun t104=>(if t104=true then (some (wrap64 ((wrap64 ((wrap64 ((wrap64 (a0))+32)) - 97))+10))) else ((sign_within.f a0 97 102).bind fun t105=>(if t105=true then (some (wrap64 ((wrap64 ((wrap64 (a0)) - 97))+10))) else (some (-1)))))))
theorem sign_Hex.calls (a0:Int) (r:Int) (w:World) (h:sign_Hex.f a0=some r) :
  Calls Tryz.prog 159 #[.int .u8 a0] w fun e w'=>e = .returned (.int .i64 r)∧Drawn0 w w':=by
 have H:((sign_Digit.f a0).bind fun t103=>(if t103=true then (some (wrap64 ((wrap64 (a0)) - 48))) else ((sign_within.f a0 65 70).bind fun t104=>(if t104=true then (some (wrap64 ((wrap64 ((wrap64 ((wrap64 (a0))+32)) - 97))+10))) else ((sign_within.f a0 97 102).bind fun t105=>(if t105=true then (some (wrap64 ((wrap64 ((wrap64 (a0)) - 97))+10))) else (some (-1))))))))=some r:=h
 clear h
 replace H:=Option.bind_eq_some_iff.mp H
 obtain ⟨t103,A20,H⟩:=H
 try dsimp only at H
 have A2:=Aside0.mk A20
 clear A20
 by_cases c3:t103=true
 ·subst c3
  rw [if_pos rfl] at H
  obtain rfl:=Option.some.inj H
  go_enter Tryz.func159,Tryz.ntmps159
  go_wp2_with (first | ((with_reducible refine gate_callee (f:=158) rfl ?_);refine goesL_ (some 8) rfl rfl Tryz.func158 zu13 rfl #[.int .u8 a0] rfl zu2 ?_;(with_reducible refine (sign_Digit.calls a0 true _ A2.out).mono ?_);rintro e w' ⟨rfl,⟨nd,rfl⟩⟩;refine ⟨_,rfl,?_⟩))
  go_ret
  exact zu14
 ·replace c3:=Bool.eq_false_iff.mpr c3
  subst c3
  rw [if_neg (show ¬ (false=true) by decide)] at H
  replace H:=Option.bind_eq_some_iff.mp H
  obtain ⟨t104,A40,H⟩:=H
  try dsimp only at H
  have A4:=Aside0.mk A40
  clear A40
  by_cases c5:t104=true
  ·subst c5
   rw [if_pos rfl] at H
   obtain rfl:=Option.some.inj H
   go_enter Tryz.func159,Tryz.ntmps159
   go_wp2_with (first | ((with_reducible refine gate_callee (f:=158) rfl ?_);refine goesL_ (some 8) rfl rfl Tryz.func158 zu13 rfl #[.int .u8 a0] rfl zu2 ?_;(with_reducible refine (sign_Digit.calls a0 false _ A2.out).mono ?_);rintro e w' ⟨rfl,⟨nd,rfl⟩⟩;refine ⟨_,rfl,?_⟩) | ((with_reducible refine gate_callee (f:=148) rfl ?_);refine goesL_ (some 11) rfl rfl Tryz.func148 zu13 rfl #[.int .u8 a0,.int .u8 65,.int .u8 70] rfl zu2 ?_;(with_reducible refine (sign_within.calls a0 65 70 true _ A4.out).mono ?_);rintro e w' ⟨rfl,⟨nd,rfl⟩⟩;refine ⟨_,rfl,?_⟩))
   go_ret
   exact zu14
  ·replace c5:=Bool.eq_false_iff.mpr c5
   subst c5
   rw [if_neg (show ¬ (false=true) by decide)] at H
   replace H:=Option.bind_eq_some_iff.mp H
   obtain ⟨t105,A60,H⟩:=H
   try dsimp only at H
   have A6:=Aside0.mk A60
   clear A60
   by_cases c7:t105=true
   ·subst c7
    rw [if_pos rfl] at H
    obtain rfl:=Option.some.inj H
    go_enter Tryz.func159,Tryz.ntmps159
    go_wp2_with (first | ((with_reducible refine gate_callee (f:=158) rfl ?_);refine goesL_ (some 8) rfl rfl Tryz.func158 zu13 rfl #[.int .u8 a0] rfl zu2 ?_;(with_reducible refine (sign_Digit.calls a0 false _ A2.out).mono ?_);rintro e w' ⟨rfl,⟨nd,rfl⟩⟩;refine ⟨_,rfl,?_⟩) | ((with_reducible refine gate_callee (f:=148) rfl ?_);refine goesL_ (some 11) rfl rfl Tryz.func148 zu13 rfl #[.int .u8 a0,.int .u8 65,.int .u8 70] rfl zu2 ?_;(with_reducible refine (sign_within.calls a0 65 70 false _ A4.out).mono ?_);rintro e w' ⟨rfl,⟨nd,rfl⟩⟩;refine ⟨_,rfl,?_⟩) | ((with_reducible refine gate_callee (f:=148) rfl ?_);refine goesL_ (some 14) rfl rfl Tryz.func148 zu13 rfl #[.int .u8 a0,.int .u8 97,.int .u8 102] rfl zu2 ?_;(with_reducible refine (sign_within.calls a0 97 102 true _ A6.out).mono ?_);rintro e w' ⟨rfl,⟨nd,rfl⟩⟩;refine ⟨_,rfl,?_⟩))
    go_ret
    exact zu14
   ·replace c7:=Bool.eq_false_iff.mpr c7
    subst c7
    rw [if_neg (show ¬ (false=true) by decide)] at H
    obtain rfl:=Option.some.inj H
    go_enter Tryz.func159,Tryz.ntmps159
    go_wp2_with (first | ((with_reducible refine gate_callee (f:=158) rfl ?_);refine goesL_ (some 8) rfl rfl Tryz.func158 zu13 rfl #[.int .u8 a0] rfl zu2 ?_;(with_reducible refine (sign_Digit.calls a0 false _ A2.out).mono ?_);rintro e w' ⟨rfl,⟨nd,rfl⟩⟩;refine ⟨_,rfl,?_⟩) | ((with_reducible refine gate_callee (f:=148) rfl ?_);refine goesL_ (some 11) rfl rfl Tryz.func148 zu13 rfl #[.int .u8 a0,.int .u8 65,.int .u8 70] rfl zu2 ?_;(with_reducible refine (sign_within.calls a0 65 70 false _ A4.out).mono ?_);rintro e w' ⟨rfl,⟨nd,rfl⟩⟩;refine ⟨_,rfl,?_⟩) | ((with_reducible refine gate_callee (f:=148) rfl ?_);refine goesL_ (some 14) rfl rfl Tryz.func148 zu13 rfl #[.int .u8 a0,.int .u8 97,.int .u8 102] rfl zu2 ?_;(with_reducible refine (sign_within.calls a0 97 102 false _ A6.out).mono ?_);rintro e w' ⟨rfl,⟨nd,rfl⟩⟩;refine ⟨_,rfl,?_⟩))
    go_ret
    exact zu14
def sign_Letter.f (a0:Int):Option (Bool):=(sign_within.f (Go.bits .or .u8 a0 32) 97 122).bind fun t106=>(some t106)
theorem sign_Letter.calls (a0:Int) (r:Bool) (w:World) (h:sign_Letter.f a0=some r) :
  Calls Tryz.prog 108 #[.int .u8 a0] w fun e w'=>e = .returned (.bool r)∧Drawn0 w w':=by
 have H:((sign_within.f (Go.bits .or .u8 a0 32) 97 122).bind fun t106=>(some t106))=some r:=h
 clear h
 replace H:=Option.bind_eq_some_iff.mp H
 obtain ⟨t106,A20,H⟩:=H
 replace H:(some t106)=some r:=H
 have A2:=Aside0.mk A20
 clear A20
 obtain rfl:=Option.some.inj H
 go_enter Tryz.func108,Tryz.ntmps108
 go_wp2_with (first | ((with_reducible refine gate_callee (f:=148) rfl ?_);refine goesL_ (some 5) rfl rfl Tryz.func148 zu13 rfl #[.int .u8 (Go.bits .or .u8 a0 32),.int .u8 97,.int .u8 122] rfl zu2 ?_;(with_reducible refine (sign_within.calls (Go.bits .or .u8 a0 32) 97 122 t106 _ A2.out).mono ?_);rintro e w' ⟨rfl,⟨nd,rfl⟩⟩;refine ⟨_,rfl,?_⟩))
 go_ret
 exact zu14
def sign_Word.f (a0:Int):Option (Bool):=(sign_Letter.f a0).bind fun t107=>(if t107=true then (some true) else ((sign_Digit.f a0).bind fun t108=>(some t108)))
theorem sign_Word.calls (a0:Int) (r:Bool) (w:World) (h:sign_Word.f a0=some r) :
  Calls Tryz.prog 166 #[.int .u8 a0] w fun e w'=>e = .returned (.bool r)∧Drawn0 w w':=by
 have H:((sign_Letter.f a0).bind fun t107=>(if t107=true then (some true) else ((sign_Digit.f a0).bind fun t108=>(some t108))))=some r:=h
 clear h
 replace H:=Option.bind_eq_some_iff.mp H
 obtain ⟨t107,A20,H⟩:=H
 try dsimp only at H
 have A2:=Aside0.mk A20
 clear A20
 by_cases c3:t107=true
 ·subst c3
  rw [if_pos rfl] at H
  obtain rfl:=Option.some.inj H
  go_enter Tryz.func166,Tryz.ntmps166
  go_wp2_with (first | ((with_reducible refine gate_callee (f:=108) rfl ?_);refine goesL_ (some 4) rfl rfl Tryz.func108 zu13 rfl #[.int .u8 a0] rfl zu2 ?_;(with_reducible refine (sign_Letter.calls a0 true _ A2.out).mono ?_);rintro e w' ⟨rfl,⟨nd,rfl⟩⟩;refine ⟨_,rfl,?_⟩))
  go_ret
  exact zu14
 ·replace c3:=Bool.eq_false_iff.mpr c3
  subst c3
  rw [if_neg (show ¬ (false=true) by decide)] at H
  replace H:=Option.bind_eq_some_iff.mp H
  obtain ⟨t108,A40,H⟩:=H
  replace H:(some t108)=some r:=H
  have A4:=Aside0.mk A40
  clear A40
  obtain rfl:=Option.some.inj H
  go_enter Tryz.func166,Tryz.ntmps166
  go_wp2_with (first | ((with_reducible refine gate_callee (f:=108) rfl ?_);refine goesL_ (some 4) rfl rfl Tryz.func108 zu13 rfl #[.int .u8 a0] rfl zu2 ?_;(with_reducible refine (sign_Letter.calls a0 false _ A2.out).mono ?_);rintro e w' ⟨rfl,⟨nd,rfl⟩⟩;refine ⟨_,rfl,?_⟩) | (go_at_call 158;(with_reducible refine (sign_Digit.calls a0 t108 _ A4.out).mono ?_);rintro e w' ⟨rfl,⟨nd,rfl⟩⟩))
  go_ret
  exact zu14
def ref_kept.f (a0:ByteArray) (a1:Int):Option (Bool):=if a1<(a0.size:Int) then (if 0≤a1 then (if (bt a0 a1)=61 then (some true) else ((sign_Word.f (bt a0 a1)).bind fun t109=>(some t109))) else (none)) else (some false)
theorem ref_kept.calls (a0:ByteArray) (a1:Int) (r:Bool) (w:World) (h:ref_kept.f a0 a1=some r) :
  Calls Tryz.prog 125 #[.string a0,.int .i64 a1] w fun e w'=>e = .returned (.bool r)∧Drawn0 w w':=by
 have H:(if a1<(a0.size:Int) then (if 0≤a1 then (if (bt a0 a1)=61 then (some true) else ((sign_Word.f (bt a0 a1)).bind fun t109=>(some t109))) else (none)) else (some false))=some r:=h
 clear h
 by_cases c3:a1<(a0.size:Int)
 ·rw [if_pos c3] at H
  have c3b0:decide (a1<(a0.size:Int))=true:=decide_eq_true c3
  clear c3
  by_cases c4:0≤a1
  ·rw [if_pos c4] at H
   have c4b0:decide (0≤a1)=true:=decide_eq_true c4
   clear c4
   by_cases c6:(bt a0 a1)=61
   ·rw [if_pos c6] at H
    have c6b0:((bt a0 a1) == 61)=true:=beq_iff_eq.mpr c6
    have c6b1:((bt a0 a1) != 61)=false:=bne_eq_false_iff_eq.mpr c6
    clear c6
    obtain rfl:=Option.some.inj H
    have p5:0≤(a1:Int):=of_decide_eq_true zu17
    have q5:a1<(a0.size:Int):=of_decide_eq_true zu17
    have hx5:=bt_at a0 a1
    replace p5:=eq_true p5
    replace q5:=eq_true q5
    go_enter Tryz.func125,Tryz.ntmps125
    go_wp2
    go_ret
    exact zu14
   ·rw [if_neg c6] at H
    have c6b0:((bt a0 a1) == 61)=false:=beq_eq_false_iff_ne.mpr c6
    have c6b1:((bt a0 a1) != 61)=true:=bne_iff_ne.mpr c6
    replace H:=Option.bind_eq_some_iff.mp H
    obtain ⟨t109,A80,H⟩:=H
    replace H:(some t109)=some r:=H
    have A8:=Aside0.mk A80
    clear A80
    obtain rfl:=Option.some.inj H
    have p5:0≤(a1:Int):=of_decide_eq_true zu17
    have q5:a1<(a0.size:Int):=of_decide_eq_true zu17
    have hx5:=bt_at a0 a1
    replace p5:=eq_true p5
    replace q5:=eq_true q5
    have p7:0≤(a1:Int):=of_decide_eq_true zu17
    have q7:a1<(a0.size:Int):=of_decide_eq_true zu17
    have hx7:=bt_at a0 a1
    replace p7:=eq_true p7
    replace q7:=eq_true q7
    go_enter Tryz.func125,Tryz.ntmps125
    go_wp2_with (first | (go_at_call 166;(with_reducible refine (sign_Word.calls (bt a0 a1) t109 _ A8.out).mono ?_);rintro e w' ⟨rfl,⟨nd,rfl⟩⟩))
    go_ret
    exact zu14
  ·rw [if_neg c4] at H
   exact absurd H zu19
 ·rw [if_neg c3] at H
  have c3b0:decide (a1<(a0.size:Int))=false:=decide_eq_false c3
  clear c3
  obtain rfl:=Option.some.inj H
  go_enter Tryz.func125,Tryz.ntmps125
  go_wp2
  go_ret
  exact zu14
def sign_Space.f (a0:Int):Option (Bool):=if a0=32 then (some true) else (if a0=9 then (some true) else (if a0=10 then (some true) else (some (a0 == 12))))
theorem sign_Space.calls (a0:Int) (r:Bool) (w:World) (h:sign_Space.f a0=some r) :
  Calls Tryz.prog 105 #[.int .u8 a0] w fun e w'=>e = .returned (.bool r)∧Drawn0 w w':=by
 have H:(if a0=32 then (some true) else (if a0=9 then (some true) else (if a0=10 then (some true) else (some (a0 == 12)))))=some r:=h
 clear h
 by_cases c2:a0=32
 ·rw [if_pos c2] at H
  have c2b0:(a0 == 32)=true:=beq_iff_eq.mpr c2
  have c2b1:(a0 != 32)=false:=bne_eq_false_iff_eq.mpr c2
  clear c2
  obtain rfl:=Option.some.inj H
  go_enter Tryz.func105,Tryz.ntmps105
  go_wp2
  go_ret
  exact zu14
 ·rw [if_neg c2] at H
  have c2b0:(a0 == 32)=false:=beq_eq_false_iff_ne.mpr c2
  have c2b1:(a0 != 32)=true:=bne_iff_ne.mpr c2
  by_cases c3:a0=9
  ·rw [if_pos c3] at H
   have c3b0:(a0 == 9)=true:=beq_iff_eq.mpr c3
   have c3b1:(a0 != 9)=false:=bne_eq_false_iff_eq.mpr c3
   clear c3
   obtain rfl:=Option.some.inj H
   go_enter Tryz.func105,Tryz.ntmps105
   go_wp2
   go_ret
   exact zu14
  ·rw [if_neg c3] at H
   have c3b0:(a0 == 9)=false:=beq_eq_false_iff_ne.mpr c3
   have c3b1:(a0 != 9)=true:=bne_iff_ne.mpr c3
   by_cases c4:a0=10
   ·rw [if_pos c4] at H
    have c4b0:(a0 == 10)=true:=beq_iff_eq.mpr c4
    have c4b1:(a0 != 10)=false:=bne_eq_false_iff_eq.mpr c4
    clear c4
    obtain rfl:=Option.some.inj H
    go_enter Tryz.func105,Tryz.ntmps105
    go_wp2
    go_ret
    exact zu14
   ·rw [if_neg c4] at H
    have c4b0:(a0 == 10)=false:=beq_eq_false_iff_ne.mpr c4
    have c4b1:(a0 != 10)=true:=bne_iff_ne.mpr c4
    obtain rfl:=Option.some.inj H
    go_enter Tryz.func105,Tryz.ntmps105
    go_wp2
    go_ret
    exact zu14
def raw_Ends.j0:Nat→ByteArray→Int→ByteArray→Bool→Option (Bool)
 | 0,_,_,_,_=>none
 | k+1,x0,x1,x2,x24=>if x24=true then (some false) else (if (wrap64 ((wrap64 (x1+2))+(x2.size:Int)))=(x0.size:Int) then (some false) else (if 0≤(wrap64 ((wrap64 (x1+2))+(x2.size:Int))) then (if (wrap64 ((wrap64 (x1+2))+(x2.size:Int)))<(x0.size:Int) then ((sign_Space.f (bt x0 (wrap64 ((wrap64 (x1+2))+(x2.size:Int))))).bind fun t112=>(if t112=true then (some true) else (if (bt x0 (wrap64 ((wrap64 (x1+2))+(x2.size:Int))))=47 then (some true) else (some ((bt x0 (wrap64 ((wrap64 (x1+2))+(x2.size:Int)))) == 62))))) else (none)) else (none)))
def raw_Ends.f (k:Nat) (a0:ByteArray) (a1:Int) (a2:ByteArray):Option (Bool):=if a2.toList=([]:List UInt8) then (raw_Ends.j0 k a0 a1 a2 true) else ((sign_Begins.f a0 a1 (⟨#[60,47]⟩:ByteArray)).bind fun t110=>(if t110=true then ((sign_Begins.f a0 (wrap64 (a1+2)) a2).bind fun t111=>(raw_Ends.j0 k a0 a1 a2 (!t111))) else (raw_Ends.j0 k a0 a1 a2 true)))
theorem raw_Ends.calls (k:Nat) (a0:ByteArray) (a1:Int) (a2:ByteArray) (r:Bool) (w:World) (h:raw_Ends.f k a0 a1 a2=some r) :
  Calls Tryz.prog 154 #[.string a0,.int .i64 a1,.string a2] w fun e w'=>e = .returned (.bool r)∧Below w.heap.size w w':=by
 have HB:=Aside0.mk (Below.refl w.heap.size w)
 have H:(if a2.toList=([]:List UInt8) then (raw_Ends.j0 k a0 a1 a2 true) else ((sign_Begins.f a0 a1 (⟨#[60,47]⟩:ByteArray)).bind fun t110=>(if t110=true then ((sign_Begins.f a0 (wrap64 (a1+2)) a2).bind fun t111=>(raw_Ends.j0 k a0 a1 a2 (!t111))) else (raw_Ends.j0 k a0 a1 a2 true))))=some r:=h
 clear h
 have HC4:=Aside0.mk H
 clear H
 go_enter Tryz.func154,Tryz.ntmps154
 go_upto_region 1 with (fail)
 go_cut [24] (fun v24 wc => ∃ (kq:Nat) (x24_3:Bool),v24 = .bool x24_3∧Aside0 (raw_Ends.j0 kq a0 a1 a2 x24_3=some r)∧Aside0 (kq≤k)∧Aside0 (Below w.heap.size w wc))
 case first =>
  have H:=HC4.out
  clear HC4
  by_cases c5:a2.toList=([]:List UInt8)
  ·rw [if_pos c5] at H
   have c5b0:(a2.toList == ([]:List UInt8))=true:=beq_iff_eq.mpr c5
   have c5b1:(a2.toList != ([]:List UInt8))=false:=bne_eq_false_iff_eq.mpr c5
   clear c5
   (first|rw [c5b0] | (simp only [i64_w,i32_w];rw [c5b0])|skip)
   have H':=Aside0.mk H
   clear H
   go_wp2
   go_meet
   case rel=>exact ⟨_,(true),zu18,H',⟨zu41⟩,⟨zu1⟩⟩
  ·rw [if_neg c5] at H
   have c5b0:(a2.toList == ([]:List UInt8))=false:=beq_eq_false_iff_ne.mpr c5
   have c5b1:(a2.toList != ([]:List UInt8))=true:=bne_iff_ne.mpr c5
   (first|rw [c5b0] | (simp only [i64_w,i32_w];rw [c5b0])|skip)
   replace H:=Option.bind_eq_some_iff.mp H
   obtain ⟨t110,A60,H⟩:=H
   try dsimp only at H
   have A6:=Aside0.mk A60
   clear A60
   by_cases c7:t110=true
   ·subst c7
    rw [if_pos rfl] at H
    replace H:=Option.bind_eq_some_iff.mp H
    obtain ⟨t111,A80,H⟩:=H
    try dsimp only at H
    have A8:=Aside0.mk A80
    clear A80
    have H':=Aside0.mk H
    clear H
    go_wp2_with (first | (go_at_call 76;(with_reducible refine (sign_Begins.calls a0 a1 (⟨#[60,47]⟩:ByteArray) true _ A6.out).mono ?_);rintro e w9 ⟨rfl,hb⟩;have n0_:=Aside0.mk (below_step zu1 hb);clear HB;have HB:=n0_;clear n0_;(try clear hb);(try clear hb2);(try clear hk);(try clear hi)) | (go_at_call 76;(with_reducible refine (sign_Begins.calls a0 (wrap64 (a1+2)) a2 t111 _ A8.out).mono ?_);rintro e w10 ⟨rfl,hb⟩;have n0_:=Aside0.mk (below_step zu1 hb);clear HB;have HB:=n0_;clear n0_;(try clear hb);(try clear hb2);(try clear hk);(try clear hi)))
    go_meet
    case rel=>exact ⟨_,(!t111),zu18,H',⟨zu41⟩,⟨zu1⟩⟩
   ·replace c7:=Bool.eq_false_iff.mpr c7
    subst c7
    rw [if_neg (show ¬ (false=true) by decide)] at H
    have H':=Aside0.mk H
    clear H
    go_wp2_with (first | (go_at_call 76;(with_reducible refine (sign_Begins.calls a0 a1 (⟨#[60,47]⟩:ByteArray) false _ A6.out).mono ?_);rintro e w11 ⟨rfl,hb⟩;have n0_:=Aside0.mk (below_step zu1 hb);clear HB;have HB:=n0_;clear n0_;(try clear hb);(try clear hb2);(try clear hk);(try clear hi)))
    go_meet
    case rel=>exact ⟨_,(true),zu18,H',⟨zu41⟩,⟨zu1⟩⟩
 case rest =>
  clear HC4
  try clear c1
  try clear p2
  try clear c5
  try clear c5b0
  try clear c5b1
  try clear p6
  try clear c7
  obtain ⟨kq,x24_3,rfl,HA,HJ3,HB⟩:=hcut
  cases kq with
  | zero=>exact absurd HA.out (by simp [raw_Ends.j0])
  | succ kj3 =>
    have H:=HA.out
    clear HA
    simp only [raw_Ends.j0] at H
    by_cases c12:x24_3=true
    ·subst c12
     rw [if_pos rfl] at H
     obtain rfl:=Option.some.inj H
     go_wp2
     go_ret
     exact zu5
    ·replace c12:=Bool.eq_false_iff.mpr c12
     subst c12
     rw [if_neg (show ¬ (false=true) by decide)] at H
     by_cases c13:(wrap64 ((wrap64 (a1+2))+(a2.size:Int)))=(a0.size:Int)
     ·rw [if_pos c13] at H
      have c13b0:((wrap64 ((wrap64 (a1+2))+(a2.size:Int))) == (a0.size:Int))=true:=beq_iff_eq.mpr c13
      have c13b1:((wrap64 ((wrap64 (a1+2))+(a2.size:Int))) != (a0.size:Int))=false:=bne_eq_false_iff_eq.mpr c13
      clear c13
      obtain rfl:=Option.some.inj H
      go_wp2
      go_ret
      exact zu5
     ·rw [if_neg c13] at H
      have c13b0:((wrap64 ((wrap64 (a1+2))+(a2.size:Int))) == (a0.size:Int))=false:=beq_eq_false_iff_ne.mpr c13
      have c13b1:((wrap64 ((wrap64 (a1+2))+(a2.size:Int))) != (a0.size:Int))=true:=bne_iff_ne.mpr c13
      obtain ⟨ji14,hji14⟩:∃ j_:Int,(wrap64 ((wrap64 (a1+2))+(a2.size:Int)))=j_:=⟨_,rfl⟩
      replace H:(if 0≤(ji14) then (if (ji14)<(a0.size:Int) then ((sign_Space.f (bt a0 (ji14))).bind fun t112=>(if t112=true then (some true) else (if (bt a0 (ji14))=47 then (some true) else (some ((bt a0 (ji14)) == 62))))) else (none)) else (none))=some r:=by first | (rw [hji14] at H;exact H) | (simp only [hji14] at H ⊢;exact H)
      (try rw [hji14] at c13b0)
      (try rw [hji14] at c13b1)
      have hji14w:(IntKind.i64.wrap ((wrap64 (a1+2))+(a2.size:Int)))=ji14:=(i64_w _).trans hji14
      by_cases c15:0≤(ji14)
      ·rw [if_pos c15] at H
       have c15b0:decide (0≤(ji14))=true:=decide_eq_true c15
       clear c15
       by_cases c16:(ji14)<(a0.size:Int)
       ·rw [if_pos c16] at H
        have c16b0:decide ((ji14)<(a0.size:Int))=true:=decide_eq_true c16
        clear c16
        replace H:=Option.bind_eq_some_iff.mp H
        obtain ⟨t112,A180,H⟩:=H
        try dsimp only at H
        have A18:=Aside0.mk A180
        clear A180
        by_cases c19:t112=true
        ·subst c19
         rw [if_pos rfl] at H
         obtain rfl:=Option.some.inj H
         have p17:0≤((ji14):Int):=of_decide_eq_true zu17
         have q17:(ji14)<(a0.size:Int):=of_decide_eq_true zu17
         have hx17:=bt_at a0 (ji14)
         replace p17:=eq_true p17
         replace q17:=eq_true q17
         go_wp2_with (first | ((with_reducible refine gate_callee (f:=105) rfl ?_);refine goesL_ (some 38) rfl rfl Tryz.func105 zu13 rfl #[.int .u8 (bt a0 (ji14))] rfl zu33 ?_;(with_reducible refine (sign_Space.calls (bt a0 (ji14)) true _ A18.out).mono ?_);rintro e w' ⟨rfl,⟨nd,rfl⟩⟩;refine ⟨_,rfl,?_⟩))
         go_ret
         exact zu24
        ·replace c19:=Bool.eq_false_iff.mpr c19
         subst c19
         rw [if_neg (show ¬ (false=true) by decide)] at H
         by_cases c20:(bt a0 (ji14))=47
         ·rw [if_pos c20] at H
          have c20b0:((bt a0 (ji14)) == 47)=true:=beq_iff_eq.mpr c20
          have c20b1:((bt a0 (ji14)) != 47)=false:=bne_eq_false_iff_eq.mpr c20
          clear c20
          obtain rfl:=Option.some.inj H
          have p17:0≤((ji14):Int):=of_decide_eq_true zu17
          have q17:(ji14)<(a0.size:Int):=of_decide_eq_true zu17
          have hx17:=bt_at a0 (ji14)
          replace p17:=eq_true p17
          replace q17:=eq_true q17
          go_wp2_with (first | ((with_reducible refine gate_callee (f:=105) rfl ?_);refine goesL_ (some 38) rfl rfl Tryz.func105 zu13 rfl #[.int .u8 (bt a0 (ji14))] rfl zu33 ?_;(with_reducible refine (sign_Space.calls (bt a0 (ji14)) false _ A18.out).mono ?_);rintro e w' ⟨rfl,⟨nd,rfl⟩⟩;refine ⟨_,rfl,?_⟩))
          go_ret
          exact zu24
         ·rw [if_neg c20] at H
          have c20b0:((bt a0 (ji14)) == 47)=false:=beq_eq_false_iff_ne.mpr c20
          have c20b1:((bt a0 (ji14)) != 47)=true:=bne_iff_ne.mpr c20
          obtain rfl:=Option.some.inj H
          have p17:0≤((ji14):Int):=of_decide_eq_true zu17
          have q17:(ji14)<(a0.size:Int):=of_decide_eq_true zu17
          have hx17:=bt_at a0 (ji14)
          replace p17:=eq_true p17
          replace q17:=eq_true q17
          go_wp2_with (first | ((with_reducible refine gate_callee (f:=105) rfl ?_);refine goesL_ (some 38) rfl rfl Tryz.func105 zu13 rfl #[.int .u8 (bt a0 (ji14))] rfl zu33 ?_;(with_reducible refine (sign_Space.calls (bt a0 (ji14)) false _ A18.out).mono ?_);rintro e w' ⟨rfl,⟨nd,rfl⟩⟩;refine ⟨_,rfl,?_⟩))
          go_ret
          exact zu24
       ·rw [if_neg c16] at H
        exact absurd H zu19
      ·rw [if_neg c15] at H
       exact absurd H zu19
def script_word.j0:Nat→ByteArray→Int→Int→Bool→Option (Int)
 | 0,_,_,_,_=>none
 | k+1,x0,x1,x7,x25=>if x25=true then (some 0) else (if 0≤(wrap64 (x1+x7)) then (if (wrap64 (x1+x7))<(x0.size:Int) then ((sign_Space.f (bt x0 (wrap64 (x1+x7)))).bind fun t114=>(if t114=true then (some (wrap64 (x7+1))) else (if (bt x0 (wrap64 (x1+x7)))=47 then (some (wrap64 (x7+1))) else (if (bt x0 (wrap64 (x1+x7)))=62 then (some (wrap64 (x7+1))) else (some 0))))) else (none)) else (none))
def script_word.f (k:Nat) (a0:ByteArray) (a1:Int) (a2:ByteArray):Option (Int):=if a2.size+6≤9223372036854775807 then ((sign_Begins.f a0 a1 (a2++(⟨#[115,99,114,105,112,116]⟩:ByteArray))).bind fun t113=>(if t113=true then (script_word.j0 k a0 a1 (wrap64 ((a2.size:Int)+6)) ((wrap64 (a1+(wrap64 ((a2.size:Int)+6)))) == (a0.size:Int))) else (script_word.j0 k a0 a1 (wrap64 ((a2.size:Int)+6)) true))) else (none)
theorem script_word.calls (k:Nat) (a0:ByteArray) (a1:Int) (a2:ByteArray) (r:Int) (w:World) (h:script_word.f k a0 a1 a2=some r) :
  Calls Tryz.prog 155 #[.string a0,.int .i64 a1,.string a2] w fun e w'=>e = .returned (.int .i64 r)∧Below w.heap.size w w':=by
 have HB:=Aside0.mk (Below.refl w.heap.size w)
 have H:(if a2.size+6≤9223372036854775807 then ((sign_Begins.f a0 a1 (a2++(⟨#[115,99,114,105,112,116]⟩:ByteArray))).bind fun t113=>(if t113=true then (script_word.j0 k a0 a1 (wrap64 ((a2.size:Int)+6)) ((wrap64 (a1+(wrap64 ((a2.size:Int)+6)))) == (a0.size:Int))) else (script_word.j0 k a0 a1 (wrap64 ((a2.size:Int)+6)) true))) else (none))=some r:=h
 clear h
 have HC4:=Aside0.mk H
 clear H
 go_enter Tryz.func155,Tryz.ntmps155
 go_upto_region 2 with (fail)
 go_cut [25] (fun v25 wc => ∃ (kq:Nat) (x25_3:Bool),v25 = .bool x25_3∧Aside0 (script_word.j0 kq a0 a1 (wrap64 ((a2.size:Int)+6)) x25_3=some r)∧Aside0 (kq≤k)∧Aside0 (Below w.heap.size w wc))
 case first =>
  have H:=HC4.out
  clear HC4
  by_cases c5:a2.size+6≤9223372036854775807
  ·rw [if_pos c5] at H
   have c5b0:=eq_true c5
   have c5b1:decide (a2.size+6≤9223372036854775807)=true:=decide_eq_true c5
   try have c5b2:(9223372036854775807<a2.size+6)=False:=eq_false (Nat.not_lt.2 c5)
   replace H:=Option.bind_eq_some_iff.mp H
   obtain ⟨t113,A60,H⟩:=H
   try dsimp only at H
   have A6:=Aside0.mk A60
   clear A60
   by_cases c7:t113=true
   ·subst c7
    rw [if_pos rfl] at H
    have H':=Aside0.mk H
    clear H
    go_wp2_with (first | ((with_reducible refine gate_callee (f:=76) rfl ?_);refine goesL_ (some 16) rfl rfl Tryz.func76 zu13 rfl #[.string a0,.int .i64 a1,.string (a2++(⟨#[115,99,114,105,112,116]⟩:ByteArray))] rfl zu2 ?_;(with_reducible refine (sign_Begins.calls a0 a1 (a2++(⟨#[115,99,114,105,112,116]⟩:ByteArray)) true _ A6.out).mono ?_);rintro e w8 ⟨rfl,hb⟩;refine ⟨_,rfl,?_⟩;have n0_:=Aside0.mk (below_step zu1 hb);clear HB;have HB:=n0_;clear n0_;(try clear hb);(try clear hb2);(try clear hk);(try clear hi)))
    go_meet
    case rel=>exact ⟨_,(((wrap64 (a1+(wrap64 ((a2.size:Int)+6)))) == (a0.size:Int))),zu18,H',⟨zu41⟩,⟨zu1⟩⟩
   ·replace c7:=Bool.eq_false_iff.mpr c7
    subst c7
    rw [if_neg (show ¬ (false=true) by decide)] at H
    have H':=Aside0.mk H
    clear H
    go_wp2_with (first | ((with_reducible refine gate_callee (f:=76) rfl ?_);refine goesL_ (some 16) rfl rfl Tryz.func76 zu13 rfl #[.string a0,.int .i64 a1,.string (a2++(⟨#[115,99,114,105,112,116]⟩:ByteArray))] rfl zu2 ?_;(with_reducible refine (sign_Begins.calls a0 a1 (a2++(⟨#[115,99,114,105,112,116]⟩:ByteArray)) false _ A6.out).mono ?_);rintro e w9 ⟨rfl,hb⟩;refine ⟨_,rfl,?_⟩;have n0_:=Aside0.mk (below_step zu1 hb);clear HB;have HB:=n0_;clear n0_;(try clear hb);(try clear hb2);(try clear hk);(try clear hi)))
    go_meet
    case rel=>exact ⟨_,(true),zu18,H',⟨zu41⟩,⟨zu1⟩⟩
  ·rw [if_neg c5] at H
   exact absurd H zu19
 case rest =>
  clear HC4
  try clear c1
  try clear p2
  try clear c5
  try clear c5b0
  try clear c5b1
  try clear c5b2
  try clear p6
  try clear c7
  obtain ⟨kq,x25_3,rfl,HA,HJ3,HB⟩:=hcut
  cases kq with
  | zero=>exact absurd HA.out (by simp [script_word.j0])
  | succ kj3 =>
    have H:=HA.out
    clear HA
    simp only [script_word.j0] at H
    by_cases c10:x25_3=true
    ·subst c10
     rw [if_pos rfl] at H
     obtain rfl:=Option.some.inj H
     go_wp2
     go_ret
     exact zu5
    ·replace c10:=Bool.eq_false_iff.mpr c10
     subst c10
     rw [if_neg (show ¬ (false=true) by decide)] at H
     obtain ⟨ji11,hji11⟩:∃ j_:Int,(wrap64 (a1+(wrap64 ((a2.size:Int)+6))))=j_:=⟨_,rfl⟩
     replace H:(if 0≤(ji11) then (if (ji11)<(a0.size:Int) then ((sign_Space.f (bt a0 (ji11))).bind fun t114=>(if t114=true then (some (wrap64 ((wrap64 ((a2.size:Int)+6))+1))) else (if (bt a0 (ji11))=47 then (some (wrap64 ((wrap64 ((a2.size:Int)+6))+1))) else (if (bt a0 (ji11))=62 then (some (wrap64 ((wrap64 ((a2.size:Int)+6))+1))) else (some 0))))) else (none)) else (none))=some r:=by first | (rw [hji11] at H;exact H) | (simp only [hji11] at H ⊢;exact H)
     have hji11w:(IntKind.i64.wrap (a1+(wrap64 ((a2.size:Int)+6))))=ji11:=(i64_w _).trans hji11
     by_cases c12:0≤(ji11)
     ·rw [if_pos c12] at H
      have c12b0:decide (0≤(ji11))=true:=decide_eq_true c12
      clear c12
      by_cases c13:(ji11)<(a0.size:Int)
      ·rw [if_pos c13] at H
       have c13b0:decide ((ji11)<(a0.size:Int))=true:=decide_eq_true c13
       clear c13
       replace H:=Option.bind_eq_some_iff.mp H
       obtain ⟨t114,A150,H⟩:=H
       try dsimp only at H
       have A15:=Aside0.mk A150
       clear A150
       by_cases c16:t114=true
       ·subst c16
        rw [if_pos rfl] at H
        obtain rfl:=Option.some.inj H
        have p14:0≤((ji11):Int):=of_decide_eq_true zu17
        have q14:(ji11)<(a0.size:Int):=of_decide_eq_true zu17
        have hx14:=bt_at a0 (ji11)
        replace p14:=eq_true p14
        replace q14:=eq_true q14
        go_wp2_with (first | ((with_reducible refine gate_callee (f:=105) rfl ?_);refine goesL_ (some 32) rfl rfl Tryz.func105 zu13 rfl #[.int .u8 (bt a0 (ji11))] rfl zu28 ?_;(with_reducible refine (sign_Space.calls (bt a0 (ji11)) true _ A15.out).mono ?_);rintro e w' ⟨rfl,⟨nd,rfl⟩⟩;refine ⟨_,rfl,?_⟩))
        go_ret
        exact zu21
       ·replace c16:=Bool.eq_false_iff.mpr c16
        subst c16
        rw [if_neg (show ¬ (false=true) by decide)] at H
        by_cases c17:(bt a0 (ji11))=47
        ·rw [if_pos c17] at H
         have c17b0:((bt a0 (ji11)) == 47)=true:=beq_iff_eq.mpr c17
         have c17b1:((bt a0 (ji11)) != 47)=false:=bne_eq_false_iff_eq.mpr c17
         clear c17
         obtain rfl:=Option.some.inj H
         have p14:0≤((ji11):Int):=of_decide_eq_true zu17
         have q14:(ji11)<(a0.size:Int):=of_decide_eq_true zu17
         have hx14:=bt_at a0 (ji11)
         replace p14:=eq_true p14
         replace q14:=eq_true q14
         go_wp2_with (first | ((with_reducible refine gate_callee (f:=105) rfl ?_);refine goesL_ (some 32) rfl rfl Tryz.func105 zu13 rfl #[.int .u8 (bt a0 (ji11))] rfl zu28 ?_;(with_reducible refine (sign_Space.calls (bt a0 (ji11)) false _ A15.out).mono ?_);rintro e w' ⟨rfl,⟨nd,rfl⟩⟩;refine ⟨_,rfl,?_⟩))
         go_ret
         exact zu21
        ·rw [if_neg c17] at H
         have c17b0:((bt a0 (ji11)) == 47)=false:=beq_eq_false_iff_ne.mpr c17
         have c17b1:((bt a0 (ji11)) != 47)=true:=bne_iff_ne.mpr c17
         by_cases c18:(bt a0 (ji11))=62
         ·rw [if_pos c18] at H
          have c18b0:((bt a0 (ji11)) == 62)=true:=beq_iff_eq.mpr c18
          have c18b1:((bt a0 (ji11)) != 62)=false:=bne_eq_false_iff_eq.mpr c18
          clear c18
          obtain rfl:=Option.some.inj H
          have p14:0≤((ji11):Int):=of_decide_eq_true zu17
          have q14:(ji11)<(a0.size:Int):=of_decide_eq_true zu17
          have hx14:=bt_at a0 (ji11)
          replace p14:=eq_true p14
          replace q14:=eq_true q14
          go_wp2_with (first | ((with_reducible refine gate_callee (f:=105) rfl ?_);refine goesL_ (some 32) rfl rfl Tryz.func105 zu13 rfl #[.int .u8 (bt a0 (ji11))] rfl zu28 ?_;(with_reducible refine (sign_Space.calls (bt a0 (ji11)) false _ A15.out).mono ?_);rintro e w' ⟨rfl,⟨nd,rfl⟩⟩;refine ⟨_,rfl,?_⟩))
          go_ret
          exact zu21
         ·rw [if_neg c18] at H
          have c18b0:((bt a0 (ji11)) == 62)=false:=beq_eq_false_iff_ne.mpr c18
          have c18b1:((bt a0 (ji11)) != 62)=true:=bne_iff_ne.mpr c18
          obtain rfl:=Option.some.inj H
          have p14:0≤((ji11):Int):=of_decide_eq_true zu17
          have q14:(ji11)<(a0.size:Int):=of_decide_eq_true zu17
          have hx14:=bt_at a0 (ji11)
          replace p14:=eq_true p14
          replace q14:=eq_true q14
          go_wp2_with (first | ((with_reducible refine gate_callee (f:=105) rfl ?_);refine goesL_ (some 32) rfl rfl Tryz.func105 zu13 rfl #[.int .u8 (bt a0 (ji11))] rfl zu28 ?_;(with_reducible refine (sign_Space.calls (bt a0 (ji11)) false _ A15.out).mono ?_);rintro e w' ⟨rfl,⟨nd,rfl⟩⟩;refine ⟨_,rfl,?_⟩))
          go_ret
          exact zu21
      ·rw [if_neg c13] at H
       exact absurd H zu19
     ·rw [if_neg c12] at H
      exact absurd H zu19
end Sa
end

section
namespace Sa
open Go.RowKit K0 Hand YtclkdmmgibgamaaGreatDoorW.PrintWords YtclkdmmgibgamaaGreatDoorW.PrintLast YtclkdmmgibgamaaGreatDoorW.PrintMore
attribute [local go_sem] max2_int min2_int max_two min_two max_three min_three max_four min_four  
set_option linter.unusedVariables false
set_option linter.unusedSimpArgs false
def comment_Begins.f (a0:ByteArray) (a1:Int):Option (Bool):=(sign_Begins.f a0 a1 (⟨#[60,33]⟩:ByteArray)).bind fun t115=>(if t115=true then ((sign_Begins.f a0 a1 (⟨#[60,33,100,111,99,116,121,112,101]⟩:ByteArray)).bind fun t116=>(some (!t116))) else ((sign_Begins.f a0 a1 (⟨#[60,63]⟩:ByteArray)).bind fun t117=>(if t117=true then (some true) else ((sign_Begins.f a0 a1 (⟨#[60,47]⟩:ByteArray)).bind fun t118=>(if t118=true then (if (wrap64 (a1+2))=(a0.size:Int) then (some false) else (if 0≤(wrap64 (a1+2)) then (if (wrap64 (a1+2))<(a0.size:Int) then (if (bt a0 (wrap64 (a1+2)))=62 then (some false) else ((sign_Letter.f (bt a0 (wrap64 (a1+2)))).bind fun t119=>(some (!t119)))) else (none)) else (none))) else (some false))))))
theorem comment_Begins.calls (a0:ByteArray) (a1:Int) (r:Bool) (w:World) (h:comment_Begins.f a0 a1=some r) :
  Calls Tryz.prog 72 #[.string a0,.int .i64 a1] w fun e w'=>e = .returned (.bool r)∧Below w.heap.size w w':=by
 have HB:=Aside0.mk (Below.refl w.heap.size w)
 have H:((sign_Begins.f a0 a1 (⟨#[60,33]⟩:ByteArray)).bind fun t115=>(if t115=true then ((sign_Begins.f a0 a1 (⟨#[60,33,100,111,99,116,121,112,101]⟩:ByteArray)).bind fun t116=>(some (!t116))) else ((sign_Begins.f a0 a1 (⟨#[60,63]⟩:ByteArray)).bind fun t117=>(if t117=true then (some true) else ((sign_Begins.f a0 a1 (⟨#[60,47]⟩:ByteArray)).bind fun t118=>(if t118=true then (if (wrap64 (a1+2))=(a0.size:Int) then (some false) else (if 0≤(wrap64 (a1+2)) then (if (wrap64 (a1+2))<(a0.size:Int) then (if (bt a0 (wrap64 (a1+2)))=62 then (some false) else ((sign_Letter.f (bt a0 (wrap64 (a1+2)))).bind fun t119=>(some (!t119)))) else (none)) else (none))) else (some false)))))))=some r:=h
 clear h
 replace H:=Option.bind_eq_some_iff.mp H
 obtain ⟨t115,A30,H⟩:=H
 try dsimp only at H
 have A3:=Aside0.mk A30
 clear A30
 by_cases c4:t115=true
 ·subst c4
  rw [if_pos rfl] at H
  replace H:=Option.bind_eq_some_iff.mp H
  obtain ⟨t116,A50,H⟩:=H
  replace H:(some (!t116))=some r:=H
  have A5:=Aside0.mk A50
  clear A50
  obtain rfl:=Option.some.inj H
  go_enter Tryz.func72,Tryz.ntmps72
  go_wp2_with (first | ((with_reducible refine gate_callee (f:=76) rfl ?_);refine goesL_ (some 9) rfl rfl Tryz.func76 zu13 rfl #[.string a0,.int .i64 a1,.string (⟨#[60,33]⟩:ByteArray)] rfl zu2 ?_;(with_reducible refine (sign_Begins.calls a0 a1 (⟨#[60,33]⟩:ByteArray) true _ A3.out).mono ?_);rintro e w6 ⟨rfl,hb⟩;refine ⟨_,rfl,?_⟩;have n0_:=Aside0.mk (below_step zu1 hb);clear HB;have HB:=n0_;clear n0_;(try clear hb);(try clear hb2);(try clear hk);(try clear hi)) | ((with_reducible refine gate_callee (f:=76) rfl ?_);refine goesL_ (some 12) rfl rfl Tryz.func76 zu13 rfl #[.string a0,.int .i64 a1,.string (⟨#[60,33,100,111,99,116,121,112,101]⟩:ByteArray)] rfl zu2 ?_;(with_reducible refine (sign_Begins.calls a0 a1 (⟨#[60,33,100,111,99,116,121,112,101]⟩:ByteArray) t116 _ A5.out).mono ?_);rintro e w7 ⟨rfl,hb⟩;refine ⟨_,rfl,?_⟩;have n0_:=Aside0.mk (below_step zu1 hb);clear HB;have HB:=n0_;clear n0_;(try clear hb);(try clear hb2);(try clear hk);(try clear hi)))
  go_ret
  exact zu5
 ·replace c4:=Bool.eq_false_iff.mpr c4
  subst c4
  rw [if_neg (show ¬ (false=true) by decide)] at H
  replace H:=Option.bind_eq_some_iff.mp H
  obtain ⟨t117,A80,H⟩:=H
  try dsimp only at H
  have A8:=Aside0.mk A80
  clear A80
  by_cases c9:t117=true
  ·subst c9
   rw [if_pos rfl] at H
   obtain rfl:=Option.some.inj H
   go_enter Tryz.func72,Tryz.ntmps72
   go_wp2_with (first | ((with_reducible refine gate_callee (f:=76) rfl ?_);refine goesL_ (some 9) rfl rfl Tryz.func76 zu13 rfl #[.string a0,.int .i64 a1,.string (⟨#[60,33]⟩:ByteArray)] rfl zu2 ?_;(with_reducible refine (sign_Begins.calls a0 a1 (⟨#[60,33]⟩:ByteArray) false _ A3.out).mono ?_);rintro e w10 ⟨rfl,hb⟩;refine ⟨_,rfl,?_⟩;have n0_:=Aside0.mk (below_step zu1 hb);clear HB;have HB:=n0_;clear n0_;(try clear hb);(try clear hb2);(try clear hk);(try clear hi)) | ((with_reducible refine gate_callee (f:=76) rfl ?_);refine goesL_ (some 17) rfl rfl Tryz.func76 zu13 rfl #[.string a0,.int .i64 a1,.string (⟨#[60,63]⟩:ByteArray)] rfl zu2 ?_;(with_reducible refine (sign_Begins.calls a0 a1 (⟨#[60,63]⟩:ByteArray) true _ A8.out).mono ?_);rintro e w11 ⟨rfl,hb⟩;refine ⟨_,rfl,?_⟩;have n0_:=Aside0.mk (below_step zu1 hb);clear HB;have HB:=n0_;clear n0_;(try clear hb);(try clear hb2);(try clear hk);(try clear hi)))
   go_ret
   exact zu5
  ·replace c9:=Bool.eq_false_iff.mpr c9
   subst c9
   rw [if_neg (show ¬ (false=true) by decide)] at H
   replace H:=Option.bind_eq_some_iff.mp H
   obtain ⟨t118,A120,H⟩:=H
   try dsimp only at H
   have A12:=Aside0.mk A120
   clear A120
   by_cases c13:t118=true
   ·subst c13
    rw [if_pos rfl] at H
    by_cases c14:(wrap64 (a1+2))=(a0.size:Int)
    ·rw [if_pos c14] at H
     have c14b0:((wrap64 (a1+2)) == (a0.size:Int))=true:=beq_iff_eq.mpr c14
     have c14b1:((wrap64 (a1+2)) != (a0.size:Int))=false:=bne_eq_false_iff_eq.mpr c14
     clear c14
     obtain rfl:=Option.some.inj H
     go_enter Tryz.func72,Tryz.ntmps72
     go_wp2_with (first | ((with_reducible refine gate_callee (f:=76) rfl ?_);refine goesL_ (some 9) rfl rfl Tryz.func76 zu13 rfl #[.string a0,.int .i64 a1,.string (⟨#[60,33]⟩:ByteArray)] rfl zu2 ?_;(with_reducible refine (sign_Begins.calls a0 a1 (⟨#[60,33]⟩:ByteArray) false _ A3.out).mono ?_);rintro e w15 ⟨rfl,hb⟩;refine ⟨_,rfl,?_⟩;have n0_:=Aside0.mk (below_step zu1 hb);clear HB;have HB:=n0_;clear n0_;(try clear hb);(try clear hb2);(try clear hk);(try clear hi)) | ((with_reducible refine gate_callee (f:=76) rfl ?_);refine goesL_ (some 17) rfl rfl Tryz.func76 zu13 rfl #[.string a0,.int .i64 a1,.string (⟨#[60,63]⟩:ByteArray)] rfl zu2 ?_;(with_reducible refine (sign_Begins.calls a0 a1 (⟨#[60,63]⟩:ByteArray) false _ A8.out).mono ?_);rintro e w16 ⟨rfl,hb⟩;refine ⟨_,rfl,?_⟩;have n0_:=Aside0.mk (below_step zu1 hb);clear HB;have HB:=n0_;clear n0_;(try clear hb);(try clear hb2);(try clear hk);(try clear hi)) | ((with_reducible refine gate_callee (f:=76) rfl ?_);refine goesL_ (some 21) rfl rfl Tryz.func76 zu13 rfl #[.string a0,.int .i64 a1,.string (⟨#[60,47]⟩:ByteArray)] rfl zu2 ?_;(with_reducible refine (sign_Begins.calls a0 a1 (⟨#[60,47]⟩:ByteArray) true _ A12.out).mono ?_);rintro e w17 ⟨rfl,hb⟩;refine ⟨_,rfl,?_⟩;have n0_:=Aside0.mk (below_step zu1 hb);clear HB;have HB:=n0_;clear n0_;(try clear hb);(try clear hb2);(try clear hk);(try clear hi)))
     go_ret
     exact zu5
    ·rw [if_neg c14] at H
     have c14b0:((wrap64 (a1+2)) == (a0.size:Int))=false:=beq_eq_false_iff_ne.mpr c14
     have c14b1:((wrap64 (a1+2)) != (a0.size:Int))=true:=bne_iff_ne.mpr c14
     obtain ⟨ji18,hji18⟩:∃ j_:Int,(wrap64 (a1+2))=j_:=⟨_,rfl⟩
     replace H:(if 0≤(ji18) then (if (ji18)<(a0.size:Int) then (if (bt a0 (ji18))=62 then (some false) else ((sign_Letter.f (bt a0 (ji18))).bind fun t119=>(some (!t119)))) else (none)) else (none))=some r:=by first | (rw [hji18] at H;exact H) | (simp only [hji18] at H ⊢;exact H)
     (try rw [hji18] at c14b0)
     (try rw [hji18] at c14b1)
     (try rw [hji18] at A3)
     (try rw [hji18] at A8)
     (try rw [hji18] at A12)
     have hji18w:(IntKind.i64.wrap (a1+2))=ji18:=(i64_w _).trans hji18
     by_cases c19:0≤(ji18)
     ·rw [if_pos c19] at H
      have c19b0:decide (0≤(ji18))=true:=decide_eq_true c19
      clear c19
      by_cases c20:(ji18)<(a0.size:Int)
      ·rw [if_pos c20] at H
       have c20b0:decide ((ji18)<(a0.size:Int))=true:=decide_eq_true c20
       clear c20
       by_cases c22:(bt a0 (ji18))=62
       ·rw [if_pos c22] at H
        have c22b0:((bt a0 (ji18)) == 62)=true:=beq_iff_eq.mpr c22
        have c22b1:((bt a0 (ji18)) != 62)=false:=bne_eq_false_iff_eq.mpr c22
        clear c22
        obtain rfl:=Option.some.inj H
        go_enter Tryz.func72,Tryz.ntmps72
        go_wp2_with (first | ((with_reducible refine gate_callee (f:=76) rfl ?_);refine goesL_ (some 9) rfl rfl Tryz.func76 zu13 rfl #[.string a0,.int .i64 a1,.string (⟨#[60,33]⟩:ByteArray)] rfl zu2 ?_;(with_reducible refine (sign_Begins.calls a0 a1 (⟨#[60,33]⟩:ByteArray) false _ A3.out).mono ?_);rintro e w23 ⟨rfl,hb⟩;refine ⟨_,rfl,?_⟩;have n0_:=Aside0.mk (below_step zu1 hb);clear HB;have HB:=n0_;clear n0_;(try clear hb);(try clear hb2);(try clear hk);(try clear hi)) | ((with_reducible refine gate_callee (f:=76) rfl ?_);refine goesL_ (some 17) rfl rfl Tryz.func76 zu13 rfl #[.string a0,.int .i64 a1,.string (⟨#[60,63]⟩:ByteArray)] rfl zu2 ?_;(with_reducible refine (sign_Begins.calls a0 a1 (⟨#[60,63]⟩:ByteArray) false _ A8.out).mono ?_);rintro e w24 ⟨rfl,hb⟩;refine ⟨_,rfl,?_⟩;have n0_:=Aside0.mk (below_step zu1 hb);clear HB;have HB:=n0_;clear n0_;(try clear hb);(try clear hb2);(try clear hk);(try clear hi)) | ((with_reducible refine gate_callee (f:=76) rfl ?_);refine goesL_ (some 21) rfl rfl Tryz.func76 zu13 rfl #[.string a0,.int .i64 a1,.string (⟨#[60,47]⟩:ByteArray)] rfl zu2 ?_;(with_reducible refine (sign_Begins.calls a0 a1 (⟨#[60,47]⟩:ByteArray) true _ A12.out).mono ?_);rintro e w25 ⟨rfl,hb⟩;refine ⟨_,rfl,?_⟩;have n0_:=Aside0.mk (below_step zu1 hb);clear HB;have HB:=n0_;clear n0_;(try clear hb);(try clear hb2);(try clear hk);(try clear hi);have p21:0≤((ji18):Int):=of_decide_eq_true zu17;have q21:(ji18)<(a0.size:Int):=of_decide_eq_true zu17;have hx21:=bt_at a0 (ji18);replace p21:=eq_true p21;replace q21:=eq_true q21))
        go_ret
        exact zu30
       ·rw [if_neg c22] at H
        have c22b0:((bt a0 (ji18)) == 62)=false:=beq_eq_false_iff_ne.mpr c22
        have c22b1:((bt a0 (ji18)) != 62)=true:=bne_iff_ne.mpr c22
        replace H:=Option.bind_eq_some_iff.mp H
        obtain ⟨t119,A260,H⟩:=H
        replace H:(some (!t119))=some r:=H
        have A26:=Aside0.mk A260
        clear A260
        obtain rfl:=Option.some.inj H
        go_enter Tryz.func72,Tryz.ntmps72
        go_wp2_with (first | ((with_reducible refine gate_callee (f:=76) rfl ?_);refine goesL_ (some 9) rfl rfl Tryz.func76 zu13 rfl #[.string a0,.int .i64 a1,.string (⟨#[60,33]⟩:ByteArray)] rfl zu2 ?_;(with_reducible refine (sign_Begins.calls a0 a1 (⟨#[60,33]⟩:ByteArray) false _ A3.out).mono ?_);rintro e w27 ⟨rfl,hb⟩;refine ⟨_,rfl,?_⟩;have n0_:=Aside0.mk (below_step zu1 hb);clear HB;have HB:=n0_;clear n0_;(try clear hb);(try clear hb2);(try clear hk);(try clear hi)) | ((with_reducible refine gate_callee (f:=76) rfl ?_);refine goesL_ (some 17) rfl rfl Tryz.func76 zu13 rfl #[.string a0,.int .i64 a1,.string (⟨#[60,63]⟩:ByteArray)] rfl zu2 ?_;(with_reducible refine (sign_Begins.calls a0 a1 (⟨#[60,63]⟩:ByteArray) false _ A8.out).mono ?_);rintro e w28 ⟨rfl,hb⟩;refine ⟨_,rfl,?_⟩;have n0_:=Aside0.mk (below_step zu1 hb);clear HB;have HB:=n0_;clear n0_;(try clear hb);(try clear hb2);(try clear hk);(try clear hi)) | ((with_reducible refine gate_callee (f:=76) rfl ?_);refine goesL_ (some 21) rfl rfl Tryz.func76 zu13 rfl #[.string a0,.int .i64 a1,.string (⟨#[60,47]⟩:ByteArray)] rfl zu2 ?_;(with_reducible refine (sign_Begins.calls a0 a1 (⟨#[60,47]⟩:ByteArray) true _ A12.out).mono ?_);rintro e w29 ⟨rfl,hb⟩;refine ⟨_,rfl,?_⟩;have n0_:=Aside0.mk (below_step zu1 hb);clear HB;have HB:=n0_;clear n0_;(try clear hb);(try clear hb2);(try clear hk);(try clear hi);have p21:0≤((ji18):Int):=of_decide_eq_true zu17;have q21:(ji18)<(a0.size:Int):=of_decide_eq_true zu17;have hx21:=bt_at a0 (ji18);replace p21:=eq_true p21;replace q21:=eq_true q21) | (go_at_call 108;(with_reducible refine (sign_Letter.calls (bt a0 (ji18)) t119 _ A26.out).mono ?_);rintro e w' ⟨rfl,⟨nd,rfl⟩⟩))
        go_ret
        exact zu30
      ·rw [if_neg c20] at H
       exact absurd H zu19
     ·rw [if_neg c19] at H
      exact absurd H zu19
   ·replace c13:=Bool.eq_false_iff.mpr c13
    subst c13
    rw [if_neg (show ¬ (false=true) by decide)] at H
    obtain rfl:=Option.some.inj H
    go_enter Tryz.func72,Tryz.ntmps72
    go_wp2_with (first | ((with_reducible refine gate_callee (f:=76) rfl ?_);refine goesL_ (some 9) rfl rfl Tryz.func76 zu13 rfl #[.string a0,.int .i64 a1,.string (⟨#[60,33]⟩:ByteArray)] rfl zu2 ?_;(with_reducible refine (sign_Begins.calls a0 a1 (⟨#[60,33]⟩:ByteArray) false _ A3.out).mono ?_);rintro e w30 ⟨rfl,hb⟩;refine ⟨_,rfl,?_⟩;have n0_:=Aside0.mk (below_step zu1 hb);clear HB;have HB:=n0_;clear n0_;(try clear hb);(try clear hb2);(try clear hk);(try clear hi)) | ((with_reducible refine gate_callee (f:=76) rfl ?_);refine goesL_ (some 17) rfl rfl Tryz.func76 zu13 rfl #[.string a0,.int .i64 a1,.string (⟨#[60,63]⟩:ByteArray)] rfl zu2 ?_;(with_reducible refine (sign_Begins.calls a0 a1 (⟨#[60,63]⟩:ByteArray) false _ A8.out).mono ?_);rintro e w31 ⟨rfl,hb⟩;refine ⟨_,rfl,?_⟩;have n0_:=Aside0.mk (below_step zu1 hb);clear HB;have HB:=n0_;clear n0_;(try clear hb);(try clear hb2);(try clear hk);(try clear hi)) | ((with_reducible refine gate_callee (f:=76) rfl ?_);refine goesL_ (some 21) rfl rfl Tryz.func76 zu13 rfl #[.string a0,.int .i64 a1,.string (⟨#[60,47]⟩:ByteArray)] rfl zu2 ?_;(with_reducible refine (sign_Begins.calls a0 a1 (⟨#[60,47]⟩:ByteArray) false _ A12.out).mono ?_);rintro e w32 ⟨rfl,hb⟩;refine ⟨_,rfl,?_⟩;have n0_:=Aside0.mk (below_step zu1 hb);clear HB;have HB:=n0_;clear n0_;(try clear hb);(try clear hb2);(try clear hk);(try clear hi)))
    go_ret
    exact zu5
end Sa
end

section
namespace Hand
open Go.RowKit Pb Pl Sa YtclkdmmgibgamaaGreatDoorW.PrintWords
theorem hex_f (c:UInt8):sign_Hex.f (c.toNat:Int)=some (hexV c):=by
 have hc:=c.toNat_lt
 have ww:wrap64 (c.toNat:Int)=c.toNat:=by unfold wrap64;omega
 unfold sign_Hex.f sign_Digit.f sign_within.f hexV
 rw [ww]
 by_cases h1:48≤c.toNat∧c.toNat≤57
 ·rw [if_pos zu4,if_pos h1]
  simp only [Option.bind_some]
  rw [if_pos zu25,show wrap64 ((c.toNat:Int) - 48)=(c.toNat:Int) - 48 by unfold wrap64;omega]
 ·rw [if_neg h1]
  have hd:((if (c.toNat:Int)≥48 then some (decide ((c.toNat:Int)≤57)) else some false).bind fun t102=>some t102)=some false:=by
   split
   ·rw [decide_eq_false zu4];rfl
   ·rfl
  rw [hd]
  simp only [Option.bind_some,Bool.false_eq_true,if_false]
  by_cases h2:65≤c.toNat∧c.toNat≤70
  ·rw [if_pos zu4,if_pos h2,decide_eq_true zu4]
   simp only [Option.bind_some,if_true]
   congr 1
   unfold wrap64;omega
  ·rw [if_neg h2]
   have hd:(if (c.toNat:Int)≥65 then some (decide ((c.toNat:Int)≤70)) else some false)=some false:=by
    split
    ·rw [decide_eq_false zu4]
    ·rfl
   rw [hd]
   simp only [Option.bind_some,Bool.false_eq_true,if_false]
   by_cases h3:97≤c.toNat∧c.toNat≤102
   ·rw [if_pos zu4,if_pos h3,decide_eq_true zu4]
    simp only [Option.bind_some,if_true]
    congr 1
    unfold wrap64;omega
   ·rw [if_neg h3]
    have hd:(if (c.toNat:Int)≥97 then some (decide ((c.toNat:Int)≤102)) else some false)=some false:=by
     split
     ·rw [decide_eq_false zu4]
     ·rfl
    rw [hd]
    rfl
theorem hex_c (c:UInt8) (w:World):Calls Tryz.prog 159 #[.int .u8 (c.toNat:Int)] w fun e w'=>e = .returned (.int .i64 (hexV c))∧Below w.heap.size w w' :=
 (sign_Hex.calls _ _ w (hex_f c)).mono fun _ _ h=>⟨h.1,h.2.below⟩
theorem value_at (base:Nat) (six:Bool) (hb:base=if six=true then 16 else 10) (s:List UInt8) (hs:s.length≤1000000) (w:World) :
  Calls Tryz.prog 160 #[.string (B s),.bool six] w fun e w'=>e = .returned (.int .i64 (valL base s))∧Below w.heap.size w w':=by
 have hb2:base=10∨base=16:=by rw [hb];split<;>simp
 have hbw:(if six=true then 4625196817309499392 else 4621819117588971520)=fW base:=by rw [hb];cases six<;>decide
 obtain ⟨a,ha⟩:∃ a,B s=a:=⟨_,rfl⟩
 have hz:a.size=s.length:=by rw [← ha];simp
 have hD:a.data.toList=s:=by rw [← ha,B_data]
 rw [ha]
 have HZ:=Lib.hid hz
 have HS:a.size≤1000000:=by omega
 have HX:=Lib.hid hD
 have HB:=Lib.hid hb2
 have HH:=Lib.hid (fun c W=>hex_c c W)
 have hm0:=fW_0
 clear ha hz hD hb2 hs hm0
 obtain ⟨R,hR⟩:∃ R,valM (valR base 0 (a.data.toList.drop 0))=R:=⟨_,rfl⟩
 obtain ⟨E,hE⟩:∃ E,valL base s=E:=⟨_,rfl⟩
 have HEmpty:Hid (a.size=0→E = -1):=Lib.hid (fun h=>by
  rw [← hE]
  obtain rfl:=List.eq_nil_of_length_eq_zero (l:=s) (by have:=HZ.out;omega)
  rfl)
 have HFul:Hid (a.size≠0→E=R):=Lib.hid (fun h=>by
  rw [← hE,← hR,List.drop_zero,HX.out]
  unfold valL
  rw [if_neg (by rintro rfl;exact h (by rw [HZ.out];rfl))])
 have HR:=Lib.hid hR
 rw [hE]
 clear hR hE HX HZ HB
 have HE:Hid (a.size≠0→E=R):=HFul
 go_enter Tryz.func160,Tryz.ntmps160
 cases six with
 | true =>
   simp only [if_true] at hb
   subst hb
   clear hbw
   go_wp2_with fail
   go_loopw [6,12] (fun v i wx => ∃ (k x:Nat),i = .int .i64 (k:Int)∧v = .complex .f64 (fW x) (fW k)∧k≤a.size∧x≤1114112∧Below w.heap.size w wx∧Hid (valM (valR 16 x (a.data.toList.drop k))=R)∧Hid (k=0→x=0)) (fun _ i _=>a.size - (intOf i).toNat)
   case atStart=>exact ⟨0,0,rfl,by rw [fW_0],Nat.zero_le _,Nat.zero_le _,Below.refl _ _,HR,Lib.hid (fun _=>rfl)⟩
   case round =>
    obtain ⟨k,x,rfl,rfl,hk,hx,hB,hV,hX0⟩:=hrel
    have HW:=Lib.hid hB
    clear hB
    by_cases hlt:k<a.size
    ·have hd:=drop_cons a k hlt
     have hbd:=hexV_bound a[k]
     obtain ⟨v,hv⟩:∃ v,hexV a[k]=v:=⟨_,rfl⟩
     have F:Hid (∀ W,Calls Tryz.prog 159 #[.int .u8 ((a[k].toNat:Nat):Int)] W fun e w'=>e = .returned (.int .i64 v)∧Below W.heap.size W w'):=Lib.hid (fun W=>by rw [← hv];exact HH.out a[k] W)
     have hV2:=hV.out
     rw [hd,valR,hv] at hV2
     rw [hv] at hbd
     by_cases hneg:v<0
     ·obtain rfl:v = -1:=by omega
      rw [if_pos (.inl zu4)] at hV2
      have HR2:=Lib.hid hV2
      have c1:floatOfInt .f64 (-1)=13830554455654793216:=fneg
      have c2:(FloatKind.f64.format.order 13830554455654793216 0 == some Ordering.lt)=true:=by decide
      clear hd hv hV2 hV hbd hneg hX0
      go_wp2_with fail
      refine (F.out _).mono ?_
      rintro e w1 ⟨rfl,b1⟩
      have HW2:=Lib.hid (HW.out.trans (b1.mono HW.out.size))
      clear b1 HW
      go_wp2_with fail
      go_ret
      exact ⟨zu54,HW2.out⟩
     ·obtain ⟨d,rfl⟩:∃ d:Nat,v=d:=⟨v.toNat,zu4⟩
      have hd15:d≤15:=by omega
      have c1:floatOfInt .f64 (d:Int)=fW d:=fW_ofInt d zu4
      have c2:(FloatKind.f64.format.order (fW d) 0 == some Ordering.lt)=false:=by
       rw [← fW_0,ord_lt zu4 zu4];exact decide_eq_false zu4
      by_cases hbig:16≤d
      ·have c3:(FloatKind.f64.format.order (fW d) 4625196817309499392 == some Ordering.gt || FloatKind.f64.format.order (fW d) 4625196817309499392 == some Ordering.eq)=true:=by
        rw [← fW_16,ord_gt zu4 zu4,ord_eq zu4 zu4,Bool.or_eq_true,decide_eq_true_eq,decide_eq_true_eq];omega
       rw [if_pos (.inr zu4)] at hV2
       have HR2:=Lib.hid hV2
       clear hd hv hV2 hV hbd hneg hbig hd15 hX0
       go_wp2_with fail
       refine (F.out _).mono ?_
       rintro e w1 ⟨rfl,b1⟩
       have HW2:=Lib.hid (HW.out.trans (b1.mono HW.out.size))
       clear b1 HW
       go_wp2_with fail
       go_ret
       exact ⟨zu54,HW2.out⟩
      ·have c3:(FloatKind.f64.format.order (fW d) 4625196817309499392 == some Ordering.gt || FloatKind.f64.format.order (fW d) 4625196817309499392 == some Ordering.eq)=false:=by
        rw [← fW_16,ord_gt zu4 zu4,ord_eq zu4 zu4,Bool.or_eq_false_iff,decide_eq_false_iff_not,decide_eq_false_iff_not];omega
       rw [if_neg zu4,Int.toNat_natCast] at hV2
       have HR2:=Lib.hid hV2
       have c4:∀ W,(binOp .mul 185 (.float .f64 (fW x)) (.float .f64 4625196817309499392)).run Tryz.prog W = .ok (.float .f64 (fW (x*16))) W:=fun W=>by
        rw [← fW_16];exact run_float_arith (h:=fW_mul _ _ zu4 zu4 zu4) ..
       have c5:∀ W,(binOp .add 185 (.float .f64 (fW (x*16))) (.float .f64 (fW d))).run Tryz.prog W = .ok (.float .f64 (fW (x*16+d))) W:=fun W=>run_float_arith (h:=fW_add _ _ zu4) ..
       have c6:∀ ts t W,(Builtin.min_ ts t #[.float .f64 (fW (x*16+d)),.float .f64 4697535886324137984]).run Tryz.prog W = .ok (.float .f64 (fW (min (x*16+d) 1114112))) W:=fun ts t W=>by
        rw [← fW_beyond];exact run_min_float ts t _ _ zu4 zu4 W
       have c7:∀ W,(binOp .add 185 (.float .f64 (fW k)) (.float .f64 4607182418800017408)).run Tryz.prog W = .ok (.float .f64 (fW (k+1))) W:=fun W=>by
        rw [← fW_1];exact run_float_arith (h:=fW_add _ _ zu4) ..
       clear hd hv hV2 hV hbd hneg hbig hd15 hX0
       go_wp2_with fail
       refine (F.out _).mono ?_
       rintro e w1 ⟨rfl,b1⟩
       have HW2:=Lib.hid (HW.out.trans (b1.mono HW.out.size))
       clear b1 HW
       go_wp2_with fail
       go_roundw
       case rel=>exact ⟨k+1,min (x*16+d) 1114112,by go_num,rfl,zu4,Nat.min_le_right _ _,HW2.out,HR2,Lib.hid (fun h=>absurd h zu4)⟩
       case measure=>simp [intOf];omega
    ·obtain rfl:k=a.size:=by omega
     have hV2:=hV.out
     rw [List.drop_eq_nil_of_le zu56,valR] at hV2
     by_cases h0:a.size=0
     ·have c1:(FloatKind.f64.format.order (fW a.size) 0 == some Ordering.eq)=true:=by
       rw [← fW_0,ord_eq zu4 zu4];exact decide_eq_true h0
      have HE0:=Lib.hid (HEmpty.out h0)
      clear hV2 hV h0 hX0
      go_wp2_with fail
      go_ret
      exact ⟨by rw [HE0.out];rfl,HW.out⟩
     ·have c1:(FloatKind.f64.format.order (fW a.size) 0 == some Ordering.eq)=false:=by
       rw [← fW_0,ord_eq zu4 zu4];exact decide_eq_false h0
      have c2:∀ W,(convert 185 3 (.float .f64 (fW x))).run Tryz.prog W = .ok (.int .i64 (x:Int)) W:=fun W =>
       run_convert_float_int W 185 3 .f64 .i64 (fW x) (x:Int) zu69 Tryz.underlying3 (fW_toInt x zu4)
      have HR2:=Lib.hid hV2
      have HFull:=Lib.hid (HFul.out h0)
      clear hV2 hV h0 hX0
      go_wp2_with fail
      go_ret
      exact ⟨by rw [HFull.out,← HR2.out];rfl,HW.out⟩
 | false =>
   simp only [Bool.false_eq_true,if_false] at hb
   subst hb
   clear hbw
   go_wp2_with fail
   go_loopw [6,12] (fun v i wx => ∃ (k x:Nat),i = .int .i64 (k:Int)∧v = .complex .f64 (fW x) (fW k)∧k≤a.size∧x≤1114112∧Below w.heap.size w wx∧Hid (valM (valR 10 x (a.data.toList.drop k))=R)∧Hid (k=0→x=0)) (fun _ i _=>a.size - (intOf i).toNat)
   case atStart=>exact ⟨0,0,rfl,by rw [fW_0],Nat.zero_le _,Nat.zero_le _,Below.refl _ _,HR,Lib.hid (fun _=>rfl)⟩
   case round =>
    obtain ⟨k,x,rfl,rfl,hk,hx,hB,hV,hX0⟩:=hrel
    have HW:=Lib.hid hB
    clear hB
    by_cases hlt:k<a.size
    ·have hd:=drop_cons a k hlt
     have hbd:=hexV_bound a[k]
     obtain ⟨v,hv⟩:∃ v,hexV a[k]=v:=⟨_,rfl⟩
     have F:Hid (∀ W,Calls Tryz.prog 159 #[.int .u8 ((a[k].toNat:Nat):Int)] W fun e w'=>e = .returned (.int .i64 v)∧Below W.heap.size W w'):=Lib.hid (fun W=>by rw [← hv];exact HH.out a[k] W)
     have hV2:=hV.out
     rw [hd,valR,hv] at hV2
     rw [hv] at hbd
     by_cases hneg:v<0
     ·obtain rfl:v = -1:=by omega
      rw [if_pos (.inl zu4)] at hV2
      have HR2:=Lib.hid hV2
      have c1:floatOfInt .f64 (-1)=13830554455654793216:=fneg
      have c2:(FloatKind.f64.format.order 13830554455654793216 0 == some Ordering.lt)=true:=by decide
      clear hd hv hV2 hV hbd hneg hX0
      go_wp2_with fail
      refine (F.out _).mono ?_
      rintro e w1 ⟨rfl,b1⟩
      have HW2:=Lib.hid (HW.out.trans (b1.mono HW.out.size))
      clear b1 HW
      go_wp2_with fail
      go_ret
      exact ⟨zu54,HW2.out⟩
     ·obtain ⟨d,rfl⟩:∃ d:Nat,v=d:=⟨v.toNat,zu4⟩
      have hd15:d≤15:=by omega
      have c1:floatOfInt .f64 (d:Int)=fW d:=fW_ofInt d zu4
      have c2:(FloatKind.f64.format.order (fW d) 0 == some Ordering.lt)=false:=by
       rw [← fW_0,ord_lt zu4 zu4];exact decide_eq_false zu4
      by_cases hbig:10≤d
      ·have c3:(FloatKind.f64.format.order (fW d) 4621819117588971520 == some Ordering.gt || FloatKind.f64.format.order (fW d) 4621819117588971520 == some Ordering.eq)=true:=by
        rw [← fW_10,ord_gt zu4 zu4,ord_eq zu4 zu4,Bool.or_eq_true,decide_eq_true_eq,decide_eq_true_eq];omega
       rw [if_pos (.inr zu4)] at hV2
       have HR2:=Lib.hid hV2
       clear hd hv hV2 hV hbd hneg hbig hd15 hX0
       go_wp2_with fail
       refine (F.out _).mono ?_
       rintro e w1 ⟨rfl,b1⟩
       have HW2:=Lib.hid (HW.out.trans (b1.mono HW.out.size))
       clear b1 HW
       go_wp2_with fail
       go_ret
       exact ⟨zu54,HW2.out⟩
      ·have c3:(FloatKind.f64.format.order (fW d) 4621819117588971520 == some Ordering.gt || FloatKind.f64.format.order (fW d) 4621819117588971520 == some Ordering.eq)=false:=by
        rw [← fW_10,ord_gt zu4 zu4,ord_eq zu4 zu4,Bool.or_eq_false_iff,decide_eq_false_iff_not,decide_eq_false_iff_not];omega
       rw [if_neg zu4,Int.toNat_natCast] at hV2
       have HR2:=Lib.hid hV2
       have c4:∀ W,(binOp .mul 185 (.float .f64 (fW x)) (.float .f64 4621819117588971520)).run Tryz.prog W = .ok (.float .f64 (fW (x*10))) W:=fun W=>by
        rw [← fW_10];exact run_float_arith (h:=fW_mul _ _ zu4 zu4 zu4) ..
       have c5:∀ W,(binOp .add 185 (.float .f64 (fW (x*10))) (.float .f64 (fW d))).run Tryz.prog W = .ok (.float .f64 (fW (x*10+d))) W:=fun W=>run_float_arith (h:=fW_add _ _ zu4) ..
       have c6:∀ ts t W,(Builtin.min_ ts t #[.float .f64 (fW (x*10+d)),.float .f64 4697535886324137984]).run Tryz.prog W = .ok (.float .f64 (fW (min (x*10+d) 1114112))) W:=fun ts t W=>by
        rw [← fW_beyond];exact run_min_float ts t _ _ zu4 zu4 W
       have c7:∀ W,(binOp .add 185 (.float .f64 (fW k)) (.float .f64 4607182418800017408)).run Tryz.prog W = .ok (.float .f64 (fW (k+1))) W:=fun W=>by
        rw [← fW_1];exact run_float_arith (h:=fW_add _ _ zu4) ..
       clear hd hv hV2 hV hbd hneg hbig hd15 hX0
       go_wp2_with fail
       refine (F.out _).mono ?_
       rintro e w1 ⟨rfl,b1⟩
       have HW2:=Lib.hid (HW.out.trans (b1.mono HW.out.size))
       clear b1 HW
       go_wp2_with fail
       go_roundw
       case rel=>exact ⟨k+1,min (x*10+d) 1114112,by go_num,rfl,zu4,Nat.min_le_right _ _,HW2.out,HR2,Lib.hid (fun h=>absurd h zu4)⟩
       case measure=>simp [intOf];omega
    ·obtain rfl:k=a.size:=by omega
     have hV2:=hV.out
     rw [List.drop_eq_nil_of_le zu56,valR] at hV2
     by_cases h0:a.size=0
     ·have c1:(FloatKind.f64.format.order (fW a.size) 0 == some Ordering.eq)=true:=by
       rw [← fW_0,ord_eq zu4 zu4];exact decide_eq_true h0
      have HE0:=Lib.hid (HEmpty.out h0)
      clear hV2 hV h0 hX0
      go_wp2_with fail
      go_ret
      exact ⟨by rw [HE0.out];rfl,HW.out⟩
     ·have c1:(FloatKind.f64.format.order (fW a.size) 0 == some Ordering.eq)=false:=by
       rw [← fW_0,ord_eq zu4 zu4];exact decide_eq_false h0
      have c2:∀ W,(convert 185 3 (.float .f64 (fW x))).run Tryz.prog W = .ok (.int .i64 (x:Int)) W:=fun W =>
       run_convert_float_int W 185 3 .f64 .i64 (fW x) (x:Int) zu69 Tryz.underlying3 (fW_toInt x zu4)
      have HR2:=Lib.hid hV2
      have HFull:=Lib.hid (HFul.out h0)
      clear hV2 hV h0 hX0
      go_wp2_with fail
      go_ret
      exact ⟨by rw [HFull.out,← HR2.out];rfl,HW.out⟩
end Hand
end

section
namespace Hand
open Go Go.RowKit Pl Pb
structure GlobE (w:World):Prop where mk::(out:∃ ev,w.cell? ⟨3,0,none⟩=some ev∧(ev = .nilIface∨∃ te pe,ev = .iface te pe))
theorem Glob.toE {w:World} (h:Glob w):GlobE w:=⟨h.err⟩
theorem GlobE.step {w W:World} (h:GlobE w) (hb:Below w.heap.size w W):GlobE W:=by
 obtain ⟨ev,h1,h2⟩:=h
 exact zu66
theorem parse_ok (s:ByteArray) (hx:∀ c∈s.data.toList,isHexU c=true) (h1:1≤s.size) (h8:s.size≤8) (w:World) :
  Calls Tryz.prog 186 #[.string s,.int .i64 16,.int .i64 32] w fun e w'=>e = .returned (.tuple #[.int .u64 (hexN 0 s.data.toList:Nat),.nilIface])∧Below w.heap.size w w':=by
 have I:=Lib.hid (fun W=>iparse_c s hx h1 h8 W)
 obtain ⟨R,hR⟩:∃ R,hexN 0 s.data.toList=R:=⟨_,rfl⟩
 rw [hR] at I ⊢
 clear hx h1 h8 hR
 go_enter Tryz.func186,Tryz.ntmps186
 go_wp2_with fail
 refine (I.out _).mono ?_
 rintro e w1 ⟨rfl,hb⟩
 go_wp2_with fail
 go_ret2
 exact ⟨rfl,hb⟩
theorem parse_empty (w:World) (hG:GlobE w) :
  Calls Tryz.prog 186 #[.string ⟨#[]⟩,.int .i64 16,.int .i64 32] w fun e w'=>(∃ t x,e = .returned (.tuple #[.int .u64 0,.iface t x]))∧Below w.heap.size w w':=by
 obtain ⟨ev,hv,hev⟩:=hG
 have I:=Lib.hid (Tryz.internal_strconv_ParseUint_empty 16 32 w)
 have E:=Lib.hid (fun fn=>Tryz.strconv_toError_syntax fn ⟨#[]⟩ 16 32 ev w zu15 hv hev)
 clear hv hev
 go_enter Tryz.func186,Tryz.ntmps186
 go_wp2_with fail
 refine I.out.mono ?_
 rintro e w1 ⟨rfl,rfl⟩
 go_wp2_with fail
 refine (E.out _).mono ?_
 rintro e w2 ⟨N,rfl,_,_,hb⟩
 go_wp2_with fail
 go_ret2
 exact ⟨⟨_,_,rfl⟩,hb⟩
theorem hexN_lt:∀ (l:List UInt8) (n k:Nat),n<16 ^ k→hexN n l<16 ^ (k+l.length):=by
 intro l
 induction l with
 | nil=>intro n k h;exact h
 | cons c r ih =>
   intro n k h
   have hb:=hexV_bound c
   rw [hexN,List.length_cons,show k+(r.length+1)=(k+1)+r.length by omega]
   apply ih
   rw [Nat.pow_succ];omega
theorem nnum_ok (s:ByteArray) (hx:∀ c∈s.data.toList,isHexU c=true) (h1:1≤s.size) (h8:s.size≤8) (w:World) :
  Calls Tryz.prog 164 #[.string s] w fun e w'=>e = .returned (.float .f64 (fW (hexN 0 s.data.toList)))∧Below w.heap.size w w':=by
 have I:=Lib.hid (fun W=>parse_ok s hx h1 h8 W)
 have hlt:hexN 0 s.data.toList<2 ^ 53:=by
  have:=hexN_lt s.data.toList 0 0 zu15
  have h2:16 ^ (0+s.data.toList.length)≤16 ^ 8:=Nat.pow_le_pow_right zu15 (by rw [Array.length_toList];show 0+s.size≤8;omega)
  have h3:(16:Nat) ^ 8≤2 ^ 53:=by decide
  omega
 obtain ⟨R,hR⟩:∃ R,hexN 0 s.data.toList=R:=⟨_,rfl⟩
 rw [hR] at I hlt ⊢
 have hf:floatOfInt .f64 (R:Int)=fW R:=fW_ofInt R hlt
 clear hx h1 h8 hR hlt
 go_enter Tryz.func164,Tryz.ntmps164
 go_wp2_with fail
 refine (I.out _).mono ?_
 rintro e w1 ⟨rfl,hb⟩
 go_wp2_with fail
 go_ret
 exact ⟨rfl,hb⟩
theorem nnum_empty (w:World) (hG:GlobE w) :
  Calls Tryz.prog 164 #[.string ⟨#[]⟩] w fun e w'=>e = .returned (.float .f64 (fW 0))∧Below w.heap.size w w':=by
 have I:=Lib.hid (parse_empty w hG)
 rw [fW_0]
 clear hG
 go_enter Tryz.func164,Tryz.ntmps164
 go_wp2_with fail
 refine I.out.mono ?_
 rintro e w1 ⟨⟨t,x,rfl⟩,hb⟩
 go_wp2_with fail
 go_ret
 exact ⟨rfl,hb⟩
end Hand
end

section
namespace Pl
def linesOf:List UInt8→List UInt8×List (List UInt8)
 | []=>([],[])
 | c::r=>if c.toNat=10 then ([],(linesOf r).1::(linesOf r).2) else (c::(linesOf r).1,(linesOf r).2)
theorem lines_head:∀ T:List UInt8,lnT T 0=(linesOf T).1:=by
 intro T
 induction T with
 | nil=>rfl
 | cons c r ih =>
   unfold lnT at ih ⊢
   rw [List.drop_zero] at ih ⊢
   rw [List.takeWhile_cons,linesOf]
   by_cases h:c.toNat=10
   ·obtain rfl:c=10:=UInt8.toNat_inj.1 h
    rfl
   ·rw [if_neg h,show (c != 10)=true by rw [bne_iff_ne];rintro rfl;exact h rfl,if_pos rfl,ih]
theorem lines_mem:∀ (T:List UInt8) (q:Nat),T[q]? = some 10→lnT T (q+1)∈(linesOf T).2:=by
 intro T
 induction T with
 | nil=>intro q h;cases h
 | cons c r ih =>
   intro q h
   rw [linesOf]
   cases q with
   | zero =>
     obtain rfl:c=10:=by simpa using h
     rw [if_pos (show (10:UInt8).toNat=10 by decide)]
     have:lnT (10::r) (0+1)=lnT r 0:=rfl
     rw [this,lines_head]
     exact List.mem_cons_self
   | succ q =>
     have hm:=ih q zu46
     have:lnT (c::r) (q+1+1)=lnT r (q+1):=rfl
     rw [this]
     split
     ·exact List.mem_cons_of_mem _ hm
     ·exact hm
def hexW (w:List UInt8):Bool:=w.all isHexU&&(decide (1≤w.length)&&decide (w.length≤8))
def restOk (q:List UInt8):Bool:=hexW (q.takeWhile (fun c=>c != 32))&&(let b:=q.drop ((q.takeWhile (fun c=>c != 32)).length+1);b.isEmpty || hexW b)
def rowOk (l:List UInt8):Bool:=restOk (rsL l)&&decide (1≤(kyL l).length)
def linesOk (T:List UInt8):Bool:=rowOk (linesOf T).1&&(linesOf T).2.all rowOk
theorem lines_all {T:List UInt8} (h:linesOk T=true) (p:Nat) (hp:St T p):rowOk (lnT T p)=true:=by
 unfold linesOk at h
 rw [Bool.and_eq_true,List.all_eq_true] at h
 rcases hp with rfl|⟨q,rfl,hq⟩
 ·rw [lines_head];exact h.1
 ·exact h.2 _ (lines_mem T q hq)
theorem hexW_spec {w:List UInt8} (h:hexW w=true):(∀ c∈w,isHexU c=true)∧1≤w.length∧w.length≤8:=by
 unfold hexW at h
 rw [Bool.and_eq_true,Bool.and_eq_true,List.all_eq_true,decide_eq_true_eq,decide_eq_true_eq] at h
 exact h
end Pl
end

section
namespace Hand
open Go Go.RowKit Pl Pb
theorem names_lines:linesOk namesL=true:=by kernel_rfl
theorem names_size:decide (namesB.size≤1000000)=true:=by kernel_rfl
def num1 (rest:List UInt8):Nat:=hexN 0 (upto 32 rest)
def num2 (rest:List UInt8):Nat:=hexN 0 (past 32 rest)
theorem nnum_w (l:List UInt8) (h:l=[]∨hexW l=true) (w:World) (hG:GlobE w) :
  Calls Tryz.prog 164 #[.string (B l)] w fun e w'=>e = .returned (.float .f64 (fW (hexN 0 l)))∧Below w.heap.size w w':=by
 rcases h with rfl|h
 ·exact nnum_empty w hG
 ·obtain ⟨h1,h2,h3⟩:=hexW_spec h
  have:=nnum_ok (B l) (by rw [B_data];exact h1) (by rw [size_B];exact h2) (by rw [size_B];exact h3) w
  rw [B_data] at this
  exact this
def nvalV (key:List UInt8):Option (List UInt8)→Value
 | none => .tuple #[.complex .f64 0 0,.bool false]
 | some r=>if key=[] then .tuple #[.complex .f64 0 0,.bool false] else .tuple #[.complex .f64 (fW (num1 r)) (fW (num2 r)),.bool true]
theorem nvalue_c (key:List UInt8) (w:World) (hGl:Glob w) (hGE:GlobE w) :
  Calls Tryz.prog 123 #[.string (B key)] w fun e w'=>(∃ r,Fnd namesL key r∧e = .returned (nvalV key r))∧Below w.heap.size w w':=by
 have hz:namesB.size≤1000000:=of_decide_eq_true names_size
 have SL:=sline_c namesB (B key) [] names_tab hz w hGl
 rw [B_data,show namesB.data.toList=namesL from rfl] at SL
 have HSL:=Lib.hid SL
 have HG:=Lib.hid hGl
 have HE:=Lib.hid hGE
 have hke:(B key).toList.isEmpty=key.isEmpty:=by rw [toList_B]
 have HKE:=Lib.hid hke
 obtain ⟨a,ha⟩:∃ a,B key=a:=⟨_,rfl⟩
 rw [ha] at HSL HKE ⊢
 clear ha hke SL hGl hGE
 refine calls_of_wp Tryz.func123 rfl ?_
 generalize hN:ByteArray.mk _=N
 have hN2:N=namesB:=hN.symm.trans rfl
 clear hN
 subst hN2
 simp only [Tryz.ntmps123,List.size_toArray,List.length_cons,List.length_nil,Nat.reduceAdd,Nat.reduceSub,Array.replicate_succ,Array.replicate_zero,List.push_toArray,List.append_toArray,List.nil_append,List.cons_append]
 go_wp2_with fail
 refine HSL.out.mono ?_
 rintro e w1 ⟨⟨r,hf,rfl⟩,hb⟩
 have HF:=Lib.hid hf
 have HW:=Lib.hid hb
 clear hf hb HSL
 cases r with
 | none =>
   dsimp only [fndV]
   go_wp2_with fail
   go_ret2
   exact ⟨⟨none,HF.out,rfl⟩,HW.out⟩
 | some rest =>
   dsimp only [fndV]
   cases hk:key with
   | nil =>
     have hke:=HKE.out
     rw [hk] at hke
     rw [hke]
     clear hke
     go_wp2_with fail
     go_ret2
     exact ⟨⟨some rest,HF.out,by rw [hk];rfl⟩,HW.out⟩
   | cons k0 kr =>
     have hke:=HKE.out
     rw [hk] at hke
     rw [hke]
     clear hke
     have hro:restOk rest=true:=by
      rcases HF.out with ⟨p,h1,_,h3⟩|⟨_,e⟩
      ·have:=lines_all names_lines p h1
       unfold rowOk at this
       rw [Bool.and_eq_true] at this
       cases h3
       exact this.1
      ·cases e
     unfold restOk at hro
     rw [Bool.and_eq_true] at hro
     obtain ⟨h1,h2⟩:=hro
     have u1:hexW (upto 32 rest)=true:=h1
     have u2:past 32 rest=[]∨hexW (past 32 rest)=true:=by
      simp only [Bool.or_eq_true,List.isEmpty_iff] at h2
      exact h2
     have hl:rest.length≤1000000:=by
      rcases HF.out with ⟨p,h3,_,h4⟩|⟨_,e⟩
      ·cases h4
       have hi:=(names_tab.inside p h3)
       have:=ln_le namesL p zu4
       have e:namesL.length=namesB.size:=Array.length_toList
       unfold rsL
       rw [List.length_drop];omega
      ·cases e
     have C:=Lib.hid (scut_c 32 rest w1 zu4 (HG.out.step HW.out))
     have N1:=Lib.hid (fun W hG=>nnum_w (upto 32 rest) (.inr u1) W hG)
     have N2:=Lib.hid (fun W hG=>nnum_w (past 32 rest) u2 W hG)
     have hk0:key≠[]:=by rw [hk];simp
     have HK0:=Lib.hid hk0
     obtain ⟨x1,hx1⟩:∃ x,B (upto 32 rest)=x:=⟨_,rfl⟩
     obtain ⟨x2,hx2⟩:∃ x,B (past 32 rest)=x:=⟨_,rfl⟩
     obtain ⟨x3,hx3⟩:∃ x,decide ((32:UInt8)∈rest)=x:=⟨_,rfl⟩
     obtain ⟨x4,hx4⟩:∃ x,B rest=x:=⟨_,rfl⟩
     rw [hx1,hx2,hx3,hx4] at C
     rw [hx1] at N1
     rw [hx2] at N2
     rw [hx4]
     clear h1 h2 u1 u2 hl hk0 hx1 hx2 hx3 hx4
     go_wp2_with fail
     refine C.out.mono ?_
     rintro e w2 ⟨rfl,hb⟩
     have HW2:=Lib.hid (HW.out.trans (hb.mono HW.out.size))
     clear hb C
     go_wp2_with fail
     refine (N1.out _ (HE.out.step HW2.out)).mono ?_
     rintro e w3 ⟨rfl,hb⟩
     have HW3:=Lib.hid (HW2.out.trans (hb.mono HW2.out.size))
     clear hb
     go_wp2_with fail
     refine (N2.out _ (HE.out.step HW3.out)).mono ?_
     rintro e w4 ⟨rfl,hb⟩
     have HW4:=Lib.hid (HW3.out.trans (hb.mono HW3.out.size))
     clear hb
     go_wp2_with fail
     go_ret2
     exact ⟨⟨some rest,HF.out,by unfold nvalV;simp only [HK0.out,if_false];rfl⟩,HW4.out⟩
end Hand
end

section
namespace Hand
open Go.RowKit Pb Pl
def signB (n:Int):ByteArray:=if n<0∨1114111<n then ⟨#[239,191,189]⟩ else Utf8.encode n
theorem sign_c (n:Int) (w:World) (h : -9223372036854775808≤n∧n≤9223372036854775807) :
  Calls Tryz.prog 90 #[.int .i64 n] w fun e w'=>e = .returned (.string (signB n))∧w'=w:=by
 obtain ⟨S,hS⟩:∃ S,signB n=S:=⟨_,rfl⟩
 rw [hS]
 unfold signB at hS
 by_cases h0:n<0
 ·rw [if_pos (.inl h0)] at hS
  have e0:decide (n<0)=true:=by simpa using h0
  have HS:=Lib.hid hS
  clear hS
  go_enter Tryz.func90,Tryz.ntmps90
  go_wp2_with fail
  go_ret
  exact ⟨by rw [← HS.out];rfl,rfl⟩
 ·have e0:decide (n<0)=false:=by simpa using h0
  by_cases h1:1114111<n
  ·rw [if_pos (.inr h1)] at hS
   have e1:decide (1114111<n)=true:=by simpa using h1
   have HS:=Lib.hid hS
   clear hS
   go_enter Tryz.func90,Tryz.ntmps90
   go_wp2_with fail
   go_ret
   exact ⟨by rw [← HS.out];rfl,rfl⟩
  ·rw [if_neg zu4] at hS
   have e1:decide (1114111<n)=false:=by simpa using h1
   have h2:0≤n:=by omega
   have h3:n≤1114111:=by omega
   have HS:=Lib.hid hS
   clear hS
   go_enter Tryz.func90,Tryz.ntmps90
   go_wp2_with fail
   go_ret
   exact ⟨by rw [← HS.out];rfl,rfl⟩
end Hand
end

section
namespace Hand
open Go Go.RowKit Pl Pb
theorem fnd_rest {key rest:List UInt8} (h:Fnd namesL key (some rest)):restOk rest=true∧key≠[]∧isKey namesL key:=by
 rcases h with ⟨p,h1,h2,h3⟩|⟨_,e⟩
 ·have:=lines_all names_lines p h1
  unfold rowOk at this
  rw [Bool.and_eq_true,decide_eq_true_eq] at this
  cases h3
  refine ⟨this.1,?_,p,h1,h2⟩
  rintro rfl
  have h2':kyL (lnT namesL p)=[]:=h2
  rw [h2'] at this
  simp at this
 ·cases e
theorem hexW_lt {w:List UInt8} (h:w=[]∨hexW w=true):hexN 0 w<4294967296:=by
 rcases h with rfl|h
 ·decide
 ·obtain ⟨_,_,h3⟩:=hexW_spec h
  have:=hexN_lt w 0 0 zu15
  have h2:16 ^ (0+w.length)≤16 ^ 8:=Nat.pow_le_pow_right zu15 zu4
  have h4:(16:Nat) ^ 8=4294967296:=by decide
  omega
theorem num_lt {rest:List UInt8} (h:restOk rest=true):num1 rest<4294967296∧num2 rest<4294967296:=by
 unfold restOk at h
 rw [Bool.and_eq_true] at h
 obtain ⟨h1,h2⟩:=h
 simp only [Bool.or_eq_true,List.isEmpty_iff] at h2
 exact ⟨hexW_lt (.inr h1),hexW_lt h2⟩
def textB (a b:Nat):ByteArray:=if b=0 then signB (a:Int) else signB (a:Int)++signB (b:Int)
theorem enc_size (n:Int):(Utf8.encode n).size≤4:=by
 have k1:(1:Nat)≤4:=by decide
 have k2:(2:Nat)≤4:=by decide
 have k3:(3:Nat)≤4:=by decide
 unfold Utf8.encode
 simp only
 repeat' split
 all_goals first|exact k1|exact k2|exact k3|exact Nat.le_refl 4
theorem signB_size (n:Int):(signB n).size≤4:=by
 unfold signB
 split
 ·decide
 ·exact enc_size n
theorem ntext_c (a b:Nat) (ha:a<4294967296) (hb:b<4294967296) (w:World) :
  Calls Tryz.prog 126 #[.complex .f64 (fW a) (fW b)] w fun e w'=>e = .returned (.string (textB a b))∧w'=w:=by
 have c1:∀ W,(convert 185 3 (.float .f64 (fW a))).run Tryz.prog W = .ok (.int .i64 (a:Int)) W:=fun W =>
  run_convert_float_int W 185 3 .f64 .i64 (fW a) (a:Int) zu69 Tryz.underlying3 (fW_toInt a zu4)
 have c2:∀ W,(convert 185 3 (.float .f64 (fW b))).run Tryz.prog W = .ok (.int .i64 (b:Int)) W:=fun W =>
  run_convert_float_int W 185 3 .f64 .i64 (fW b) (b:Int) zu69 Tryz.underlying3 (fW_toInt b zu4)
 have SA:=fun W=>sign_c (a:Int) W zu4
 have SB:=fun W=>sign_c (b:Int) W zu4
 have za:=signB_size (a:Int)
 have zb:=signB_size (b:Int)
 unfold textB
 obtain ⟨X,hX⟩:∃ X,signB (a:Int)=X:=⟨_,rfl⟩
 obtain ⟨Y,hY⟩:∃ Y,signB (b:Int)=Y:=⟨_,rfl⟩
 rw [hX] at SA za
 rw [hY] at SB zb
 rw [hX,hY]
 have HA:=Lib.hid SA
 have HB:=Lib.hid SB
 clear SA SB hX hY
 by_cases h0:b=0
 ·have c3:(FloatKind.f64.format.order (fW b) 0 != some Ordering.eq)=false:=by
   rw [bne,← fW_0,ord_eq zu4 zu4,decide_eq_true h0];rfl
  rw [if_pos h0]
  clear c2 h0 ha hb
  go_enter Tryz.func126,Tryz.ntmps126
  go_wp2_with fail
  refine (HA.out _).mono ?_
  rintro e w1 ⟨rfl,rfl⟩
  go_wp2_with fail
  go_ret
  exact ⟨rfl,rfl⟩
 ·have c3:(FloatKind.f64.format.order (fW b) 0 != some Ordering.eq)=true:=by
   rw [bne,← fW_0,ord_eq zu4 zu4,decide_eq_false h0];rfl
  rw [if_neg h0]
  clear h0 ha hb
  go_enter Tryz.func126,Tryz.ntmps126
  go_wp2_with fail
  refine (HA.out _).mono ?_
  rintro e w1 ⟨rfl,rfl⟩
  go_wp2_with fail
  refine (HB.out _).mono ?_
  rintro e w2 ⟨rfl,rfl⟩
  go_wp2_with fail
  go_ret
  exact ⟨rfl,rfl⟩
theorem nshort_c (key:List UInt8) (hk:isKey namesL key) (hs:key.length≤1000000) (w:World) (hGl:Glob w) (hGE:GlobE w) :
  Calls Tryz.prog 124 #[.string (B key)] w fun e w'=>e = .returned (.bool (!Lib.hasSuffix key [59]))∧Below w.heap.size w w':=by
 have V:=Lib.hid (nvalue_c key w hGl hGE)
 have H:=fun W=>Tryz.strings_HasSuffix (B key) ⟨#[59]⟩ W zu36
 rw [B_data] at H
 obtain ⟨bs,hbs⟩:∃ b,Lib.hasSuffix key [59]=b:=⟨_,rfl⟩
 have H2:∀ W,Calls Tryz.prog 165 #[.string (B key),.string ⟨#[59]⟩] W fun e w'=>e = .returned (.bool bs)∧w'=W:=fun W=>by rw [← hbs];exact H W
 have HH:=Lib.hid H2
 have HK:=Lib.hid hk
 rw [hbs]
 obtain ⟨a,ha⟩:∃ a,B key=a:=⟨_,rfl⟩
 rw [ha] at V HH ⊢
 clear ha H H2 hbs hs hGl hGE hk
 go_enter Tryz.func124,Tryz.ntmps124
 go_wp2_with fail
 refine V.out.mono ?_
 rintro e w1 ⟨⟨r,hf,rfl⟩,hb⟩
 have HW:=Lib.hid hb
 clear hb V
 cases r with
 | none =>
   obtain ⟨p,h1,h2⟩:=HK.out
   rcases hf with ⟨_,_,_,e⟩|⟨e,_⟩
   ·cases e
   ·exact absurd h2 (e p h1)
 | some rest =>
   have hne:=(fnd_rest hf).2.1
   have hv:nvalV key (some rest) = .tuple #[.complex .f64 (fW (num1 rest)) (fW (num2 rest)),.bool true]:=by unfold nvalV;simp only [hne,if_false]
   rw [hv]
   clear hf hne hv
   go_wp2_with fail
   refine (HH.out _).mono ?_
   rintro e w2 ⟨rfl,rfl⟩
   go_wp2_with fail
   go_ret
   exact ⟨rfl,HW.out⟩
end Hand
end

section
namespace Hand
open Go.RowKit
theorem ne_off {b i j:Nat} (h:i≠j):(⟨b,i,none⟩:Addr)≠⟨b,j,none⟩:=by intro e;injection e with _ e _;exact h e
theorem run_index_agg {P:Program} {t e:TypeId} {n:Nat} {i:TypeInfo} {cs:Array Value} {j:Nat} {v:Value} {W:World} (hu:P.underlying t=some (.array n e)) (hi:P.info? e=some i) (h1:P.cellsOf e=1)
  (hk:P.plainKey e=true) (hj:j<n) (hv:cs[j]? = some v):(Instr.index t (.agg cs) (.int .i64 (j:Int))).run P W = .ok v W:=by
 have hn:(0:Int)≤(j:Int)∧(j:Int)<(n:Int):=⟨zu4,zu4⟩
 unfold Program.plainKey at hk
 cases hue:P.underlying e with
 | none=>simp [hue] at hk
 | some d=>cases d<;>simp [hue] at hk<;>simp [Instr.index,run_underlying hu,asIntOf,hn,run_sizeOf W hi,h1,part,isAgg,run_underlying hue,hv,hj,go_sem]
theorem Blk.set {b:Nat} {v:Array Value} {W:World} (h:Blk b v W) (k:Nat) (x:Value) (hk:k<v.size):Blk b (v.setIfInBounds k x) (W.setCell ⟨b,k,none⟩ x):=by
 refine ⟨fun j hj => ?_,fun j=>by rw [World.frozen?_setCell];exact h.open_ j⟩
 rw [Array.size_setIfInBounds] at hj
 by_cases e:j=k
 ·subst e
  rw [World.cell?_setCell_same' _ _ _ (by rw [h.cell j hj];simp [hj]),Array.getElem?_setIfInBounds_self_of_lt hk]
 ·rw [World.cell?_setCell_other _ _ _ _ (ne_off (Ne.symm e)),h.cell j hj,Array.getElem?_setIfInBounds_ne (Ne.symm e)]
theorem Blk.other {b b':Nat} {v:Array Value} {W:World} (h:Blk b v W) (k:Nat) (x:Value) (hb:b'≠b):Blk b v (W.setCell ⟨b',k,none⟩ x) :=
 ⟨fun j hj=>by rw [World.cell?_setCell_other _ _ _ _ (by intro e;injection e with e;exact hb e)];exact h.cell j hj,fun j=>by rw [World.frozen?_setCell];exact h.open_ j⟩
end Hand
end

section
namespace Hand
open Go.RowKit Pb Pl
def otherN:List Nat:=[0x20AC,0x81,0x201A,0x192,0x201E,0x2026,0x2020,0x2021,0x2C6,0x2030,0x160,0x2039,0x152,0x8D,0x17D,0x8F,0x90,0x2018,0x2019,0x201C,0x201D,0x2022,0x2013,0x2014,0x2DC,0x2122,0x161,0x203A,0x153,0x9D,0x17E,0x178]
def i64V (n:Nat):Value:=.int .i64 (n:Int)
def otherV:Array Value:=(otherN.map i64V).toArray
def zeroV:Array Value:=(List.replicate 32 (Value.int .i64 0)).toArray
theorem other_c (w:World):Calls Tryz.prog 184 #[] w fun e w'=>e = .returned (.agg otherV)∧w'=w.alloc (.cells otherV 198):=by
 go_enter Tryz.func184,Tryz.ntmps184
 apply wp_seq
 apply wp_region_lit
 refine Go.Great.wpList_allocTo rfl (some 0) rfl (.pointer (some ⟨w.heap.size,0,none⟩)) (.cells zeroV 198) zu13 ?_
 refine wpList_nil ?_
 show Code.wp _ _ _ _ _
 apply wp_seq
 apply wp_region_lit
 refine wpList_build rfl 198 _ rfl zu13 ?_
 refine wpList_store_row rfl 198 _ _ rfl w.heap.size otherV zu13 zu13 198 zeroV (heap_alloc_last w _) zu13 zu13 zu13 ?_
 refine wpList_nil ?_
 show Code.wp _ _ _ _ _
 refine wp_ret (bodyPost_ret (v:=.agg otherV) (results_cell_row rfl _ _ w.heap.size 198 otherV (0,0) _ zu13 ?_ Tryz.underlying198 rfl zu13) rfl ⟨rfl,World.setRow_alloc_new ..⟩)
 exact setRow_heap _ _ _ _ _ _ (heap_alloc_last w _)
def fixB (n:Nat):ByteArray:=if n=0 then ⟨#[239,191,189]⟩ else if 128≤n∧n<160 then signB ((otherN.getD (n - 128) 0:Nat):Int) else signB (n:Int)
theorem otherV_at (j:Nat) (h:j<32):otherV[j]? = some (.int .i64 ((otherN.getD j 0:Nat):Int)):=by
 unfold otherV
 rw [List.getElem?_toArray,List.getElem?_map,List.getD_eq_getElem?_getD,List.getElem?_eq_getElem (show j<otherN.length from h)]
 rfl
theorem otherN_le:∀ j,otherN.getD j 0≤1114111:=by
 intro j
 rcases Nat.lt_or_ge j 32 with h|h
 ·revert j;decide
 ·rw [List.getD_eq_getElem?_getD,List.getElem?_eq_none (by exact h)];decide
def ZV:Array Value := #[.int .i64 0,.int .i64 0,.int .i64 0,.int .i64 0,.int .i64 0,.int .i64 0,.int .i64 0,.int .i64 0,.int .i64 0,.int .i64 0,.int .i64 0,.int .i64 0,.int .i64 0,.int .i64 0,.int .i64 0,.int .i64 0,.int .i64 0,.int .i64 0,.int .i64 0,.int .i64 0,.int .i64 0,.int .i64 0,.int .i64 0,.int .i64 0,.int .i64 0,.int .i64 0,.int .i64 0,.int .i64 0,.int .i64 0,.int .i64 0,.int .i64 0,.int .i64 0]
theorem fix_c (n:Nat) (hn:n≤1114112) (w:World):Calls Tryz.prog 161 #[.int .i64 (n:Int)] w fun e w'=>e = .returned (.string (fixB n))∧Below w.heap.size w w':=by
 have O:=Lib.hid (other_c w)
 have hsc:(storeCells ⟨w.heap.size+1,0,none⟩ otherV.toList 0).run Tryz.prog ((w.alloc (.cells otherV 198)).alloc (.cells #[.int .i64 0,.int .i64 0,.int .i64 0,.int .i64 0,.int .i64 0,.int .i64 0,.int .i64 0,.int .i64 0,.int .i64 0,.int .i64 0,.int .i64 0,.int .i64 0,.int .i64 0,.int .i64 0,.int .i64 0,.int .i64 0,.int .i64 0,.int .i64 0,.int .i64 0,.int .i64 0,.int .i64 0,.int .i64 0,.int .i64 0,.int .i64 0,.int .i64 0,.int .i64 0,.int .i64 0,.int .i64 0,.int .i64 0,.int .i64 0,.int .i64 0,.int .i64 0] 198)) = .ok () ((w.alloc (.cells otherV 198)).alloc (.cells otherV 198)):=by
  have:=run_storeCells_new (P:=Tryz.prog) (w.alloc (.cells otherV 198)) 198 ZV otherV zu13 zu13 zu13
  rw [World.size_alloc] at this
  exact this
 have hcs:otherV.size=32:=rfl
 have hb:Below w.heap.size w ((w.alloc (.cells otherV 198)).alloc (.cells otherV 198)):=((Below.refl _ w).alloc (Nat.le_refl _) _).alloc zu19 _
 have hcell:∀ j,j<32→((w.alloc (.cells otherV 198)).alloc (.cells otherV 198)).cell? ⟨w.heap.size+1,j,none⟩=some (.int .i64 ((otherN.getD j 0:Nat):Int)):=fun j hj=>by
  rw [World.cell?_alloc_at _ _ _ _ zu19,otherV_at j hj]
 have HC:=Lib.hid hcell
 have HB:=Lib.hid hb
 obtain ⟨S,hS⟩:∃ S,fixB n=S:=⟨_,rfl⟩
 rw [hS]
 unfold fixB at hS
 obtain ⟨OV,hOV⟩:∃ OV,otherV=OV:=⟨_,rfl⟩
 rw [hOV] at O HC hsc hcs HB
 clear hcell hb hOV
 by_cases h0:n=0
 ·subst h0
  rw [if_pos rfl] at hS
  subst hS
  go_enter Tryz.func161,Tryz.ntmps161
  go_wp2_with fail
  refine O.out.mono ?_
  rintro e w1 ⟨rfl,rfl⟩
  go_wp2_with fail
  go_ret
  exact ⟨rfl,HB.out⟩
 ·have q0:((n:Int) == 0)=false:=by rw [beq_eq_false_iff_ne];omega
  rw [if_neg h0] at hS
  by_cases h1:128≤n
  ·have q1:decide ((128:Int)≤(n:Int))=true:=by simp;omega
   by_cases h2:n<160
   ·have q2:decide ((n:Int)<160)=true:=by simp;omega
    rw [if_pos ⟨h1,h2⟩] at hS
    obtain ⟨j,rfl⟩:∃ j,n=128+j:=⟨n - 128,zu4⟩
    rw [show 128+j - 128=j by omega] at hS
    have hj:j<32:=by omega
    have hcj:=HC.out j hj
    have hm:=otherN_le j
    obtain ⟨v,hv⟩:∃ v,otherN.getD j 0=v:=⟨_,rfl⟩
    rw [hv] at hcj hS hm
    have SG:Hid (∀ W,Calls Tryz.prog 90 #[.int .i64 (v:Int)] W fun e w'=>e = .returned (.string S)∧w'=W):=Lib.hid (fun W=>by rw [← hS];exact sign_c _ W zu4)
    clear hS hv HC
    go_enter Tryz.func161,Tryz.ntmps161
    go_wp2_with fail
    refine O.out.mono ?_
    rintro e w1 ⟨rfl,rfl⟩
    go_wp2_with fail
    refine (SG.out _).mono ?_
    rintro e w2 ⟨rfl,rfl⟩
    go_wp2_with fail
    go_ret
    exact ⟨rfl,HB.out⟩
   ·have q2:decide ((n:Int)<160)=false:=by simp;omega
    rw [if_neg zu4] at hS
    have SG:Hid (∀ W,Calls Tryz.prog 90 #[.int .i64 (n:Int)] W fun e w'=>e = .returned (.string S)∧w'=W):=Lib.hid (fun W=>by rw [← hS];exact sign_c _ W zu4)
    clear hS HC
    go_enter Tryz.func161,Tryz.ntmps161
    go_wp2_with fail
    refine O.out.mono ?_
    rintro e w1 ⟨rfl,rfl⟩
    go_wp2_with fail
    refine (SG.out _).mono ?_
    rintro e w2 ⟨rfl,rfl⟩
    go_wp2_with fail
    go_ret
    exact ⟨rfl,HB.out⟩
  ·have q1:decide ((128:Int)≤(n:Int))=false:=by simp;omega
   rw [if_neg zu4] at hS
   have SG:Hid (∀ W,Calls Tryz.prog 90 #[.int .i64 (n:Int)] W fun e w'=>e = .returned (.string S)∧w'=W):=Lib.hid (fun W=>by rw [← hS];exact sign_c _ W zu4)
   clear hS HC
   go_enter Tryz.func161,Tryz.ntmps161
   go_wp2_with fail
   refine O.out.mono ?_
   rintro e w1 ⟨rfl,rfl⟩
   go_wp2_with fail
   refine (SG.out _).mono ?_
   rintro e w2 ⟨rfl,rfl⟩
   go_wp2_with fail
   go_ret
   exact ⟨rfl,HB.out⟩
end Hand
end

section
namespace Pl
def isSp (c:UInt8):Bool:=c == 32 || c == 9 || c == 10 || c == 12
def stops (c:UInt8):Bool:=isSp c || c == 47 || c == 62
def begR:List UInt8→List UInt8→Bool
 | _,[]=>true
 | [],_::_=>false
 | c::r,d::low=>lowB c == d&&begR r low
theorem begR_eq (low:List UInt8):∀ r,(lowL (r.take low.length) == low)=begR r low:=by
 induction low with
 | nil=>intro r;cases r<;>rfl
 | cons d low ih =>
   intro r
   cases r with
   | nil=>rfl
   | cons c r =>
     have:=ih r
     simp only [List.length_cons,List.take_succ_cons,begR,lowL,List.map_cons] at this ⊢
     rw [← this];rfl
theorem begR_length (low:List UInt8):∀ r,begR r low=true→low.length≤r.length:=by
 induction low with
 | nil=>intro r _;simp
 | cons d low ih =>
   intro r h
   cases r with
   | nil=>simp [begR] at h
   | cons c r =>
     simp only [begR,Bool.and_eq_true] at h
     have:=ih r h.2
     simp;omega
def stopAt (r:List UInt8):Bool:=match r with | []=>false|c::_=>stops c
def endsL (r name:List UInt8):Bool := !name.isEmpty&&begR r [60,47]&&begR (r.drop 2) name&&stopAt (r.drop (2+name.length))
def scriptL:List UInt8:=[115,99,114,105,112,116]
def wordL (r opens:List UInt8):Bool:=begR r (opens++scriptL)&&stopAt (r.drop (opens.length+6))
def stepF (st ct:Nat) (r:List UInt8):Option (Nat×Nat×Nat) :=
 match r with
 | []=>none
 | c::_ =>
   if st≠2∧endsL r scriptL=true then none
   else if st=0 then (if begR r [60,33,45,45]=true then some (4,1,2) else some (1,0,ct))
   else if c=45 then some (1,st,ct+1)
   else if c=62∧2≤ct then some (1,0,0)
   else if st=1 then (if wordL r [60]=true then some (8,2,0) else some (1,1,0))
   else (if wordL r [60,47]=true then some (9,1,0) else some (1,2,0))
theorem stepF_adv {st ct:Nat} {r:List UInt8} {n st' ct':Nat} (h:stepF st ct r=some (n,st',ct')):1≤n∧n≤r.length:=by
 have hb:∀ low,begR r low=true→low.length≤r.length:=fun low=>begR_length low r
 have hw:∀ o,wordL r o=true→o.length+7≤r.length:=by
  intro o hw
  simp only [wordL,Bool.and_eq_true] at hw
  have h2:=hw.2
  have:r.drop (o.length+6)≠[]:=by intro e;rw [e] at h2;simp [stopAt] at h2
  have:=List.length_pos_iff.2 this
  simp at this;omega
 cases r with
 | nil=>simp [stepF] at h
 | cons c r =>
   simp only [stepF] at h
   have h4:=hb [60,33,45,45]
   have h8:=hw [60]
   have h9:=hw [60,47]
   simp only [List.length_cons,List.length_nil] at h4 h8 h9 ⊢
   repeat' split at h
   all_goals first
    | (cases h;done)
    | (simp only [Option.some.injEq,Prod.mk.injEq] at h;obtain ⟨rfl,_⟩:=h;simp_all;done)
    | (simp only [Option.some.injEq,Prod.mk.injEq] at h;obtain ⟨rfl,_⟩:=h;simp_all;omega)
def runF:Nat→Nat→Nat→List UInt8→Nat×Nat
 | 0,st,_,_=>(0,st)
 | f+1,st,ct,r=>match stepF st ct r with
   | none=>(0,st)
   | some (n,st',ct')=>((n+(runF f st' ct' (r.drop n)).1),(runF f st' ct' (r.drop n)).2)
theorem runF_more (f:Nat):∀ st ct r f',r.length≤f→r.length≤f'→runF f st ct r=runF f' st ct r:=by
 induction f with
 | zero =>
   intro st ct r f' h h'
   obtain rfl:r=[]:=List.eq_nil_of_length_eq_zero zu4
   cases f'<;>simp [runF,stepF]
 | succ f ih =>
   intro st ct r f' h h'
   cases f' with
   | zero =>
     obtain rfl:r=[]:=List.eq_nil_of_length_eq_zero zu4
     simp [runF,stepF]
   | succ f' =>
     simp only [runF]
     cases hs:stepF st ct r with
     | none=>rfl
     | some x =>
       obtain ⟨n,st',ct'⟩:=x
       have ha:=stepF_adv hs
       simp only
       rw [ih st' ct' (r.drop n) f' zu25 zu25]
def findL (st ct:Nat) (r:List UInt8):Nat×Nat:=runF r.length st ct r
theorem findL_none {st ct:Nat} {r:List UInt8} (h:stepF st ct r=none):findL st ct r=(0,st):=by
 unfold findL
 cases hr:r.length with
 | zero=>rfl
 | succ n=>simp [runF,h]
theorem findL_some {st ct:Nat} {r:List UInt8} {n st' ct':Nat} (h:stepF st ct r=some (n,st',ct')):findL st ct r=(n+(findL st' ct' (r.drop n)).1,(findL st' ct' (r.drop n)).2):=by
 have ha:=stepF_adv h
 have e1:runF r.length st ct r=runF (r.length+1) st ct r:=runF_more _ _ _ _ _ (Nat.le_refl _) zu4
 unfold findL
 rw [e1]
 simp only [runF,h]
 rw [runF_more r.length st' ct' (r.drop n) (r.drop n).length zu19 (Nat.le_refl _)]
end Pl
end

section
namespace Pure
open Go Go.RowKit Hand Sa YtclkdmmgibgamaaGreatDoorW.PrintWords Pl Pb
attribute [local simp] B_nil
theorem clean_f (l:List UInt8) (h:l.length≤1000000000):lines_Clean.f (B l)=some (B (cleanL l)):=by
 unfold lines_Clean.f;rw [if_pos zu46];simp [cleanBA,B]
theorem lower_f (l:List UInt8) (h:l.length≤1000000000):sign_Lower.f (B l)=some (B (lowL l)):=by
 unfold sign_Lower.f;rw [if_pos zu46];simp [lowBA,B]
theorem u8c (c:UInt8) (n:Nat) (m:Int) (d:UInt8) (h:n<256) (e:(n:Int)=m) (ed:UInt8.ofNat n=d):(((c.toNat:Int))=m)=(c=d):=by
 rw [← e,← ed];exact u8_eq c n h
theorem u32 (c:UInt8):((c.toNat:Int)=32)=(c=32):=u8c c 32 _ _ zu4 rfl rfl
theorem u9 (c:UInt8):((c.toNat:Int)=9)=(c=9):=u8c c 9 _ _ zu4 rfl rfl
theorem u10 (c:UInt8):((c.toNat:Int)=10)=(c=10):=u8c c 10 _ _ zu4 rfl rfl
theorem u12 (c:UInt8):((c.toNat:Int)=12)=(c=12):=u8c c 12 _ _ zu4 rfl rfl
theorem u45 (c:UInt8):((c.toNat:Int)=45)=(c=45):=u8c c 45 _ _ zu4 rfl rfl
theorem u47 (c:UInt8):((c.toNat:Int)=47)=(c=47):=u8c c 47 _ _ zu4 rfl rfl
theorem u62 (c:UInt8):((c.toNat:Int)=62)=(c=62):=u8c c 62 _ _ zu4 rfl rfl
theorem ub (c:UInt8) {m:Int} {d:UInt8} (h:((c.toNat:Int)=m)=(c=d)):(((c.toNat:Int)) == m)=(c == d):=by
 rw [Bool.eq_iff_iff,beq_iff_eq,beq_iff_eq,h]
theorem space_f (c:UInt8):sign_Space.f (c.toNat:Int)=some (isSp c):=by
 unfold sign_Space.f isSp
 simp only [u32,u9,u10,ub c (u12 c)]
 by_cases h1:c=32
 ·simp [h1]
 ·by_cases h2:c=9
  ·simp [h2]
  ·by_cases h3:c=10
   ·simp [h3]
   ·simp [h1,h2,h3]
theorem bt_drop (s:List UInt8) (n:Nat) (c:UInt8) (r:List UInt8) (h:s.drop n=c::r):bt (B s) (n:Int)=(c.toNat:Int):=by
 have hlt:n<s.length:=by
  rcases Nat.lt_or_ge n s.length with h'|h'
  ·exact h'
  ·rw [List.drop_eq_nil_of_le h'] at h;cases h
 rw [bt_B s n hlt]
 rw [List.drop_eq_getElem_cons hlt] at h
 rw [(List.cons.inj h).1]
theorem drop_lt {s:List UInt8} {n:Nat} {c:UInt8} {r:List UInt8} (h:s.drop n=c::r):n<s.length:=by
 rcases Nat.lt_or_ge n s.length with h'|h'
 ·exact h'
 ·rw [List.drop_eq_nil_of_le h'] at h;cases h
theorem drop_nil {s:List UInt8} {n:Nat} (h:s.drop n=[]):s.length≤n:=by
 rcases Nat.lt_or_ge n s.length with h'|h'
 ·rw [List.drop_eq_getElem_cons h'] at h;cases h
 ·exact h'
theorem begins_f (s low:List UInt8) (n:Nat) (hs:s.length≤1000000) (hl:low.length≤1000000) (hn:n≤s.length) :
  sign_Begins.f (B s) (n:Int) (B low)=some (begR (s.drop n) low):=by
 unfold sign_Begins.f
 have w1:wrap64 (((B s).size:Int) - (n:Int))=((s.length - n:Nat):Int):=by rw [size_B];unfold wrap64;omega
 have w2:wrap64 ((n:Int)+((B low).size:Int))=((n+low.length:Nat):Int):=by rw [size_B];unfold wrap64;omega
 rw [if_neg zu4,if_neg zu25,w1,w2]
 by_cases h:s.length - n<low.length
 ·rw [if_pos zu25]
  have:begR (s.drop n) low=false:=by
   rw [Bool.eq_false_iff];intro e
   have:=begR_length low _ e
   simp at this;omega
  rw [this]
 ·rw [if_neg zu25,if_pos zu4,if_pos zu4,if_pos zu25]
  have hx:(B s).extract ((n:Int)).toNat (((n+low.length:Nat):Int)).toNat=B ((s.drop n).take low.length):=by
   rw [B_extract];congr 1
   simp only [Int.toNat_natCast,List.drop_take]
   congr 1;omega
  rw [hx,lower_f _ zu25,Option.bind_some,toList_B,toList_B,begR_eq]
theorem begins_past (s low:List UInt8) (n:Int) (h:n<0∨(s.length:Int)<n):sign_Begins.f (B s) n (B low)=some false:=by
 unfold sign_Begins.f
 rcases h with h|h
 ·rw [if_pos h]
 ·by_cases h0:n<0
  ·rw [if_pos h0]
  ·rw [if_neg h0,if_pos zu46]
theorem stop_bt (c:UInt8):((sign_Space.f (c.toNat:Int)).bind fun t=>if t=true then some true else if (c.toNat:Int)=47 then some true else some (((c.toNat:Int)) == 62))=some (stops c):=by
 simp only [space_f,Option.bind_some,u47,ub c (u62 c)]
 unfold stops
 cases isSp c
 ·by_cases h:c=47<;>simp [h]
 ·simp
theorem ends_f (k:Nat) (s name:List UInt8) (n:Nat) (hs:s.length≤1000000) (hl:name.length≤1000000) (hn:n≤s.length) :
  raw_Ends.f (k+1) (B s) (n:Int) (B name)=some (endsL (s.drop n) name):=by
 unfold raw_Ends.f
 have j_true:raw_Ends.j0 (k+1) (B s) (n:Int) (B name) true=some false:=by rw [raw_Ends.j0,if_pos rfl]
 by_cases he:name=[]
 ·subst he
  rw [if_pos zu19,j_true];rfl
 ·rw [if_neg (by simpa using he),show (⟨#[60,47]⟩:ByteArray)=B [60,47] from rfl,begins_f s [60,47] n hs zu19 hn,Option.bind_some]
  have hne:name.isEmpty=false:=by simpa using he
  unfold endsL
  rw [hne]
  cases h1:begR (s.drop n) [60,47] with
  | false=>simp [j_true]
  | true =>
    have l1:=begR_length _ _ h1
    simp only [List.length_drop,List.length_cons,List.length_nil] at l1
    have w2:wrap64 ((n:Int)+2)=((n+2:Nat):Int):=by unfold wrap64;omega
    rw [if_pos rfl,w2,begins_f s name (n+2) hs hl zu4,Option.bind_some,List.drop_drop]
    cases h2:begR (s.drop (n+2)) name with
    | false=>simp [j_true]
    | true =>
      have l2:=begR_length _ _ h2
      simp only [List.length_drop] at l2
      have w3:wrap64 (wrap64 ((n:Int)+2)+((B name).size:Int))=((n+2+name.length:Nat):Int):=by rw [w2,size_B];unfold wrap64;omega
      rw [Bool.not_true,raw_Ends.j0,if_neg zu19,w3,List.drop_drop]
      have hd:n+(2+name.length)=n+2+name.length:=by omega
      rw [hd]
      cases hr:s.drop (n+2+name.length) with
      | nil =>
        have:=drop_nil hr
        rw [if_pos zu25];rfl
      | cons c r =>
        have hlt:=drop_lt hr
        rw [if_neg zu25,if_pos zu4,if_pos zu25,bt_drop s _ c r hr,stop_bt]
        rfl
theorem word_f (k:Nat) (s opens:List UInt8) (n:Nat) (hs:s.length≤1000000) (hl:opens.length≤1000) (hn:n≤s.length) :
  script_word.f (k+1) (B s) (n:Int) (B opens)=some (if wordL (s.drop n) opens=true then ((opens.length+7:Nat):Int) else 0):=by
 unfold script_word.f
 rw [if_pos zu25,show (⟨#[115,99,114,105,112,116]⟩:ByteArray)=B scriptL from rfl,B_append,begins_f s (opens++scriptL) n hs (by simp [scriptL];omega) hn,Option.bind_some]
 have w1:wrap64 (((B opens).size:Int)+6)=((opens.length+6:Nat):Int):=by rw [size_B];unfold wrap64;omega
 have w2:wrap64 ((n:Int)+((opens.length+6:Nat):Int))=((n+(opens.length+6):Nat):Int):=by unfold wrap64;omega
 have w3:wrap64 (((opens.length+6:Nat):Int)+1)=((opens.length+7:Nat):Int):=by unfold wrap64;omega
 rw [w1,w2]
 have j_true:script_word.j0 (k+1) (B s) (n:Int) ((opens.length+6:Nat):Int) true=some 0:=by rw [script_word.j0,if_pos rfl]
 unfold wordL
 cases h1:begR (s.drop n) (opens++scriptL) with
 | false=>rw [if_neg zu19,j_true,if_neg zu19]
 | true =>
   rw [if_pos rfl,List.drop_drop]
   cases hr:s.drop (n+(opens.length+6)) with
   | nil =>
     have h2:=drop_nil hr
     have l1:=begR_length _ _ h1
     simp [scriptL] at l1
     rw [show (((n+(opens.length+6):Nat):Int) == ((B s).size:Int))=true by simp;omega,j_true]
     simp [stopAt]
   | cons c r =>
     have hlt:=drop_lt hr
     rw [show (((n+(opens.length+6):Nat):Int) == ((B s).size:Int))=false by simp;omega,script_word.j0,if_neg zu19,w2,if_pos zu4,if_pos zu25,bt_drop s _ c r hr,space_f,Option.bind_some,w3]
     simp only [u47,u62]
     simp only [stopAt,stops,Bool.true_and]
     cases isSp c
     ·by_cases h47:c=47
      ·simp [h47]
      ·by_cases h62:c=62<;>simp [h47,h62]
     ·simp
end Pure
end

section
namespace Pl
open Go
def isDigB (c:UInt8):Bool:=decide (48≤c.toNat)&&decide (c.toNat≤57)
def isDg (six:Bool) (c:UInt8):Bool:=isDigB c || (six&&decide (0≤hexV c))
def baseN:Bool→Nat
 | true=>16
 | false=>10
def digs (six:Bool) (q:List UInt8):List UInt8:=q.takeWhile (isDg six)
def numQ (six:Bool) (q:List UInt8):Option (Nat×Nat) :=
 let v:=valL (baseN six) (digs six q)
 if v<0 then none else some (v.toNat,(digs six q).length+if begR (q.drop (digs six q).length) [59]=true then 1 else 0)
def numL (r:List UInt8):Option (Nat×Nat) :=
 if begR r [35]=true then
  (if begR (r.drop 1) [120]=true then (numQ true (r.drop 2)).map fun x=>(x.1,x.2+2) else (numQ false (r.drop 1)).map fun x=>(x.1,x.2+1))
 else none
theorem takeWhile_le {α:Type} (p:α→Bool) (l:List α):(l.takeWhile p).length≤l.length:=by
 induction l with
 | nil=>simp
 | cons a l ih=>rw [List.takeWhile_cons];split<;>simp<;>omega
theorem digs_le (six:Bool) (q:List UInt8):(digs six q).length≤q.length:=takeWhile_le _ q
theorem begR_one {q:List UInt8} {d:UInt8} (h:begR q [d]=true):1≤q.length:=by
 cases q with
 | nil=>simp [begR] at h
 | cons c r=>simp
theorem numQ_le {six:Bool} {q:List UInt8} {n k:Nat} (h:numQ six q=some (n,k)):n≤1114112∧k≤q.length∧1≤k:=by
 unfold numQ at h
 simp only at h
 have hb:=valL_bound (baseN six) (digs six q)
 have hd:=digs_le six q
 split at h
 ·cases h
 ·rename_i hv
  obtain ⟨h1,h2⟩:=Prod.mk.inj (Option.some.inj h)
  subst h1;subst h2
  refine ⟨zu4,?_,?_⟩
  ·split
   ·rename_i hb
    have:=begR_one hb
    rw [List.length_drop] at this
    omega
   ·omega
  ·have:digs six q≠[]:=by
    intro e
    apply hv
    rw [e];exact (show (-1:Int)<0 by decide)
   have:=List.length_pos_iff.2 this
   omega
theorem numL_le {r:List UInt8} {n k:Nat} (h:numL r=some (n,k)):n≤1114112∧k≤r.length∧2≤k:=by
 unfold numL at h
 split at h
 ·rename_i h1
  have l1:=begR_one h1
  split at h
  ·rename_i h2
   have l2:=begR_one h2
   rw [List.length_drop] at l2
   obtain ⟨⟨a,b⟩,hx,e⟩:=Option.map_eq_some_iff.1 h
   obtain ⟨h3,h4⟩:=Prod.mk.inj e
   obtain ⟨g1,g2,g3⟩:=numQ_le hx
   rw [List.length_drop] at g2
   simp only at h3 h4
   omega
  ·obtain ⟨⟨a,b⟩,hx,e⟩:=Option.map_eq_some_iff.1 h
   obtain ⟨h3,h4⟩:=Prod.mk.inj e
   obtain ⟨g1,g2,g3⟩:=numQ_le hx
   rw [List.length_drop] at g2
   simp only at h3 h4
   omega
 ·cases h
end Pl
end

section
namespace Hand
open Go.RowKit Pb Pl Sa Go.Proofs.YtclkdmmgibgamaaGreatDoor.Pure YtclkdmmgibgamaaGreatDoorW.PrintWords
theorem nbegins_c (s low:List UInt8) (n:Nat) (hs:s.length≤1000000) (hl:low.length≤1000000) (hn:n≤s.length) (w:World) :
  Calls Tryz.prog 76 #[.string (B s),.int .i64 (n:Int),.string (B low)] w fun e w'=>e = .returned (.bool (begR (s.drop n) low))∧Below w.heap.size w w' :=
 sign_Begins.calls _ _ _ _ w (begins_f s low n hs hl hn)
theorem digit_f (c:UInt8):sign_Digit.f (c.toNat:Int)=some (isDigB c):=by
 unfold sign_Digit.f sign_within.f isDigB
 by_cases h:48≤c.toNat
 ·rw [if_pos zu4,Option.bind_some,decide_eq_true h,Bool.true_and]
  congr 1
  rw [Bool.eq_iff_iff,decide_eq_true_eq,decide_eq_true_eq];omega
 ·rw [if_neg zu4,Option.bind_some,decide_eq_false h,Bool.false_and]
theorem digit_c (c:UInt8) (w:World):Calls Tryz.prog 158 #[.int .u8 (c.toNat:Int)] w fun e w'=>e = .returned (.bool (isDigB c))∧Below w.heap.size w w' :=
 (sign_Digit.calls _ _ w (digit_f c)).mono fun _ _ h=>⟨h.1,h.2.below⟩
def numT (s:List UInt8) (at_:Nat):Value:=match numL (s.drop at_) with
 | some (n,k) => .tuple #[.string (fixB n),.int .i64 ((at_+k:Nat):Int),.bool true]
 | none => .tuple #[.string ⟨#[]⟩,.int .i64 (at_:Int),.bool false]
def numU (s:List UInt8) (at_ i:Nat) (six:Bool):Value:=match numQ six (s.drop i) with
 | some (n,k) => .tuple #[.string (fixB n),.int .i64 ((i+k:Nat):Int),.bool true]
 | none => .tuple #[.string ⟨#[]⟩,.int .i64 (at_:Int),.bool false]
theorem digs_at {six:Bool} {q:List UInt8} {k:Nat} (h1:∀ j,(h:j<q.length)→j<k→isDg six q[j]=true) (h2:k=q.length∨∃ h:k<q.length,isDg six q[k]=false):digs six q=q.take k:=by
 unfold digs
 induction q generalizing k with
 | nil=>simp
 | cons c r ih =>
   cases k with
   | zero =>
     rcases h2 with h|⟨h,e⟩
     ·cases h
     ·rw [List.takeWhile_cons];simp only [List.getElem_cons_zero] at e;rw [e];rfl
   | succ k =>
     have e:=h1 0 zu19 zu4
     simp only [List.getElem_cons_zero] at e
     rw [List.takeWhile_cons,e,if_pos rfl,List.take_succ_cons,ih (k:=k)]
     ·intro j h hj
      have:=h1 (j+1) zu25 zu4
      simpa using this
     ·rcases h2 with h|⟨h,e⟩
      ·left;simpa using h
      ·right;exact ⟨zu46,by simpa using e⟩
theorem num_exit (s:List UInt8) (n i k:Nat) (six:Bool) (hs:s.length≤100000) (hik:i≤k) (hk:k≤s.length) (h1:∀ j (h:j<s.length),i≤j→j<k→isDg six s[j]=true) (h2:k=s.length∨∃ h:k<s.length,isDg six s[k]=false) :
  ∃ v:Int,(∀ W,Calls Tryz.prog 160 #[.string ((B s).extract i k),.bool six] W fun e w'=>e = .returned (.int .i64 v)∧Below W.heap.size W w') ∧
    ((v = -1∧numU s n i six = .tuple #[.string ⟨#[]⟩,.int .i64 (n:Int),.bool false]) ∨
     ∃ m:Nat,v=m∧m≤1114112∧∃ b3,(∀ W,Calls Tryz.prog 76 #[.string (B s),.int .i64 (k:Int),.string ⟨#[59]⟩] W fun e w'=>e = .returned (.bool b3)∧Below W.heap.size W w')∧(b3=true→k+1≤s.length) ∧
       numU s n i six = .tuple #[.string (fixB m),.int .i64 ((k+if b3=true then 1 else 0:Nat):Int),.bool true]):=by
 have hd:digs six (s.drop i)=(s.drop i).take (k - i):=by
  apply digs_at
  ·intro j h hj
   rw [List.length_drop] at h
   have:=h1 (i+j) zu4 zu4 zu4
   rw [List.getElem_drop];exact this
  ·rcases h2 with h|⟨h,e⟩
   ·left;rw [List.length_drop];omega
   ·right
    refine ⟨zu47,?_⟩
    rw [List.getElem_drop]
    have:i+(k - i)=k:=by omega
    simp only [this];exact e
 have he:(B s).extract i k=B (digs six (s.drop i)):=by rw [hd,B_extract,List.drop_take]
 have hl:(digs six (s.drop i)).length=k - i:=by rw [hd,List.length_take,List.length_drop];omega
 refine ⟨valL (baseN six) (digs six (s.drop i)),fun W=>by rw [he];exact value_at (baseN six) six (by cases six<;>rfl) _ (by rw [hl];omega) W,?_⟩
 have hb:=valL_bound (baseN six) (digs six (s.drop i))
 unfold numU numQ
 simp only
 by_cases hv:valL (baseN six) (digs six (s.drop i))<0
 ·left
  refine ⟨zu4,?_⟩
  rw [if_pos hv]
 ·right
  refine ⟨(valL (baseN six) (digs six (s.drop i))).toNat,zu4,zu4,begR (s.drop k) [59],fun W=>nbegins_c s [59] k zu4 zu15 hk W,fun h => ?_,?_⟩
  ·have:=begR_one h;rw [List.length_drop] at this;omega
  ·rw [if_neg hv,hl,List.drop_drop,show i+(k - i)=k by omega]
   simp only [← Nat.add_assoc,show i+(k - i)=k by omega]
theorem number_c (s:List UInt8) (n:Nat) (hs:s.length≤100000) (hn:n≤s.length) (w:World) :
  Calls Tryz.prog 121 #[.string (B s),.int .i64 (n:Int)] w fun e w'=>e = .returned (numT s n)∧Below w.heap.size w w':=by
 have BG:=Lib.hid (fun (low:List UInt8) (hl:low.length≤1000000) (i:Nat) (hi:i≤s.length) W=>nbegins_c s low i zu4 hl hi W)
 have DG:=Lib.hid (fun c W=>digit_c c W)
 have HX:=Lib.hid (fun c W=>hex_c c W)
 have VA:=Lib.hid (fun (six:Bool) (d:List UInt8) (hd:d.length≤1000000) W=>value_at (baseN six) six (by cases six<;>rfl) d hd W)
 have FX:=Lib.hid (fun (k:Nat) (hk:k≤1114112) W=>fix_c k hk W)
 have B1:=BG.out [35] zu15 n hn w
 obtain ⟨b1,hb1⟩:∃ b,begR (s.drop n) [35]=b:=⟨_,rfl⟩
 rw [hb1] at B1
 have HB1:=Lib.hid B1
 obtain ⟨T,hT⟩:∃ T,numT s n=T:=⟨_,rfl⟩
 rw [hT]
 obtain ⟨a,ha⟩:∃ a,B s=a:=⟨_,rfl⟩
 have hsz:a.size=s.length:=by rw [← ha];simp
 have hX:∀ i (h:i<a.size),s[i]? = some a[i]:=fun i h=>by
  subst ha
  have hl:i<s.length:=by simpa using h
  rw [List.getElem?_eq_getElem hl]
  rfl
 have hcut:∀ i j,a.extract i j=B ((s.take j).drop i):=fun i j=>by rw [← ha,B_extract]
 cases b1 with
 | false =>
   have hT2:T = .tuple #[.string ⟨#[]⟩,.int .i64 (n:Int),.bool false]:=by
    rw [← hT];unfold numT numL;rw [hb1,if_neg zu15]
   subst hT2
   rw [ha] at HB1 ⊢
   clear B1 BG hb1 hT ha hsz hX hcut DG HX VA FX
   go_enter Tryz.func121,Tryz.ntmps121
   go_wp2_with fail
   refine HB1.out.mono ?_
   rintro e w1 ⟨rfl,hb⟩
   go_wp2_with fail
   go_ret3
   exact ⟨rfl,hb⟩
 | true =>
   have hn1:n+1≤s.length:=by have:=begR_one hb1;rw [List.length_drop] at this;omega
   have B2:=fun W=>BG.out [120] zu15 (n+1) hn1 W
   obtain ⟨six,hsix⟩:∃ b,begR (s.drop (n+1)) [120]=b:=⟨_,rfl⟩
   rw [hsix] at B2
   have HB2:=Lib.hid B2
   have hT2:∃ i,i=(if six=true then n+1+1 else n+1)∧i≤s.length∧T=numU s n i six:=by
    refine ⟨_,rfl,?_,?_⟩
    ·cases six with
     | true=>have:=begR_one hsix;rw [List.length_drop] at this;rw [if_pos rfl];omega
     | false=>rw [if_neg zu15];exact hn1
    ·rw [← hT]
     unfold numT numL numU
     rw [hb1,if_pos rfl,List.drop_drop,List.drop_drop,hsix]
     cases six with
     | true =>
       rw [if_pos rfl,if_pos rfl]
       cases numQ true (s.drop (n+2)) with
       | none=>rfl
       | some x=>show Value.tuple #[_,_,_]=_;simp;omega
     | false =>
       rw [if_neg zu15,if_neg zu15]
       cases numQ false (s.drop (n+1)) with
       | none=>rfl
       | some x=>show Value.tuple #[_,_,_]=_;simp;omega
   obtain ⟨i0,hi0,hi0s,hTU⟩:=hT2
   have BG3:=Lib.hid (fun (i:Nat) (hi:i≤s.length) W=>BG.out [59] zu15 i hi W)
   have HAA:=Lib.hid ha
   rw [ha] at HB1 HB2 BG3 ⊢
   have HSZ:=Lib.hid hsz
   have HXX:=Lib.hid hX
   have HCU:=Lib.hid hcut
   have HTU:=Lib.hid hTU
   have hn1':n+1≤a.size:=by omega
   have hi0a:i0≤a.size:=by omega
   clear B1 B2 BG hb1 hT ha hX hcut hsix hsz hTU hn1 hn
   have hs2:a.size≤100000:=by have:=HSZ.out;omega
   clear hs hi0s
   have HEX:=Lib.hid (fun (k:Nat) (h1:i0≤k) (h2:k≤a.size) (h3:∀ j (h:j<s.length),i0≤j→j<k→isDg six s[j]=true) h4=>(by have:=num_exit s n i0 k six zu60 h1 zu60 h3 h4;rw [HAA.out] at this;exact this:∃ v:Int,(∀ W,Calls Tryz.prog 160 #[.string (a.extract i0 k),.bool six] W fun e w'=>e = .returned (.int .i64 v)∧Below W.heap.size W w') ∧
    ((v = -1∧numU s n i0 six = .tuple #[.string ⟨#[]⟩,.int .i64 (n:Int),.bool false]) ∨
     ∃ m:Nat,v=m∧m≤1114112∧∃ b3,(∀ W,Calls Tryz.prog 76 #[.string a,.int .i64 (k:Int),.string ⟨#[59]⟩] W fun e w'=>e = .returned (.bool b3)∧Below W.heap.size W w')∧(b3=true→k+1≤s.length) ∧
       numU s n i0 six = .tuple #[.string (fixB m),.int .i64 ((k+if b3=true then 1 else 0:Nat):Int),.bool true])))
   clear HAA
   cases six with
   | true =>
     rw [if_pos rfl] at hi0
     subst hi0
     go_enter Tryz.func121,Tryz.ntmps121
     go_wp2_with fail
     refine HB1.out.mono ?_
     rintro e w1 ⟨rfl,hb⟩
     have HW:=Lib.hid hb
     clear hb
     go_wp2_with fail
     refine (HB2.out _).mono ?_
     rintro e w2 ⟨rfl,hb⟩
     replace HW:=Lib.hid (HW.out.trans (hb.mono HW.out.size))
     clear hb
     go_wp2_with fail
     go_loopw [7] (fun v wx => ∃ k:Nat,v = .int .i64 (k:Int)∧(n+1+1)≤k∧k≤a.size∧Hid (Below w.heap.size w wx)∧Hid (∀ j (h:j<s.length),(n+1+1)≤j→j<k→isDg true s[j]=true)) (fun v _=>a.size - (intOf v).toNat)
     case atStart=>exact ⟨(n+1+1),by go_num,Nat.le_refl _,hi0a,HW,Lib.hid (fun j _ h1 h2=>by omega)⟩
     case round =>
      clear HW
      obtain ⟨k,rfl,hik,hk,HW,hD⟩:=hrel
      by_cases hlt:k<a.size
      ·have hks:k<s.length:=by have:=HSZ.out;omega
       have hcg:a[k]=s[k]:=by
        have:=HXX.out k hlt
        rw [List.getElem?_eq_getElem hks] at this
        exact (Option.some.inj this).symm
       have HDG:=Lib.hid (DG.out a[k])
       cases hdg:isDigB a[k] with
       | true =>
         have F:Hid (∀ W,Calls Tryz.prog 158 #[.int .u8 ((a[k].toNat:Nat):Int)] W fun e w'=>e = .returned (.bool true)∧Below W.heap.size W w'):=Lib.hid (fun W=>by rw [← hdg];exact HDG.out W)
         have HN:Hid (∀ j (h:j<s.length),(n+1+1)≤j→j<k+1→isDg true s[j]=true):=Lib.hid (fun j h h1 h2=>by
          by_cases e:j=k
          ·subst e;rw [← hcg];unfold isDg;rw [hdg];rfl
          ·exact hD.out j h h1 zu4)
         clear hcg HDG hdg hD
         go_wp2_with fail
         refine (F.out _).mono ?_
         rintro e w4 ⟨rfl,hb⟩
         replace HW:=Lib.hid (HW.out.trans (hb.mono HW.out.size))
         clear hb
         go_wp2_with fail
         go_roundw
         case rel=>exact ⟨k+1,by go_num,zu4,zu4,HW,HN⟩
         case measure=>simp [intOf];omega
       | false =>
         have F:Hid (∀ W,Calls Tryz.prog 158 #[.int .u8 ((a[k].toNat:Nat):Int)] W fun e w'=>e = .returned (.bool false)∧Below W.heap.size W w'):=Lib.hid (fun W=>by rw [← hdg];exact HDG.out W)
         have HHX:=Lib.hid (HX.out a[k])
         obtain ⟨x,hx⟩:∃ x,hexV a[k]=x:=⟨_,rfl⟩
         have F2:Hid (∀ W,Calls Tryz.prog 159 #[.int .u8 ((a[k].toNat:Nat):Int)] W fun e w'=>e = .returned (.int .i64 x)∧Below W.heap.size W w'):=Lib.hid (fun W=>by rw [← hx];exact HHX.out W)
         by_cases hx0:0≤x
         ·have q1:decide ((0:Int)≤x)=true:=decide_eq_true hx0
          have HN:Hid (∀ j (h:j<s.length),(n+1+1)≤j→j<k+1→isDg true s[j]=true):=Lib.hid (fun j h h1 h2=>by
           by_cases e:j=k
           ·subst e;rw [← hcg];unfold isDg;rw [hdg,hx,q1];rfl
           ·exact hD.out j h h1 zu4)
          clear hcg HDG hdg hD hx HHX hx0
          go_wp2_with fail
          refine (F.out _).mono ?_
          rintro e w4 ⟨rfl,hb⟩
          replace HW:=Lib.hid (HW.out.trans (hb.mono HW.out.size))
          clear hb
          go_wp2_with fail
          refine (F2.out _).mono ?_
          rintro e w4 ⟨rfl,hb⟩
          replace HW:=Lib.hid (HW.out.trans (hb.mono HW.out.size))
          clear hb
          go_wp2_with fail
          go_roundw
          case rel=>exact ⟨k+1,by go_num,zu4,zu4,HW,HN⟩
          case measure=>simp [intOf];omega
         ·have q1:decide ((0:Int)≤x)=false:=decide_eq_false hx0
          have hstop:k=s.length∨∃ h:k<s.length,isDg true s[k]=false:=.inr ⟨hks,by rw [← hcg];unfold isDg;rw [hdg,hx,q1];rfl⟩
          clear hcg HDG hdg hx HHX hx0
          have HST:=Lib.hid hstop
          clear hstop
          go_wp2_with fail
          refine (F.out _).mono ?_
          rintro e w4 ⟨rfl,hb⟩
          replace HW:=Lib.hid (HW.out.trans (hb.mono HW.out.size))
          clear hb
          go_wp2_with fail
          refine (F2.out _).mono ?_
          rintro e w4 ⟨rfl,hb⟩
          replace HW:=Lib.hid (HW.out.trans (hb.mono HW.out.size))
          clear hb
          have hstop:=HST.out
          clear HST F F2
          have hE:=HEX.out k hik hk (fun j h _ hj=>hD.out j h zu4 hj) hstop
          obtain ⟨v,FV,hv⟩:=hE
          have HFV:=Lib.hid FV
          clear FV hstop
          rcases hv with ⟨rfl,hv⟩|⟨m,rfl,hm,b3,FB,hb3,hv⟩
          ·have HV:=Lib.hid (HTU.out.trans hv)
           clear hv
           go_wp2_with fail
           with_reducible refine (HFV.out _).mono ?_
           rintro e w5 ⟨rfl,hb⟩
           replace HW:=Lib.hid (HW.out.trans (hb.mono HW.out.size))
           clear hb
           go_wp2_with fail
           go_ret3
           exact ⟨zu63,HW.out⟩
          ·have HV:=Lib.hid (HTU.out.trans hv)
           have HFB:=Lib.hid FB
           have HFX:=Lib.hid (FX.out m hm)
           have hb3':b3=true→k+1≤a.size:=fun h=>by have:=hb3 h;have:=HSZ.out;omega
           clear hv FB hb3
           go_wp2_with fail
           with_reducible refine (HFV.out _).mono ?_
           rintro e w5 ⟨rfl,hb⟩
           replace HW:=Lib.hid (HW.out.trans (hb.mono HW.out.size))
           clear hb
           go_wp2_with fail
           with_reducible refine (HFB.out _).mono ?_
           rintro e w6 ⟨rfl,hb⟩
           replace HW:=Lib.hid (HW.out.trans (hb.mono HW.out.size))
           clear hb
           cases b3 with
           | true =>
             have hk1:=hb3' rfl
             clear hb3'
             go_wp2_with fail
             with_reducible refine (HFX.out _).mono ?_
             rintro e w7 ⟨rfl,hb⟩
             replace HW:=Lib.hid (HW.out.trans (hb.mono HW.out.size))
             clear hb
             go_wp2_with fail
             go_ret3
             exact ⟨zu61,HW.out⟩
           | false =>
             clear hb3'
             go_wp2_with fail
             with_reducible refine (HFX.out _).mono ?_
             rintro e w7 ⟨rfl,hb⟩
             replace HW:=Lib.hid (HW.out.trans (hb.mono HW.out.size))
             clear hb
             go_wp2_with fail
             go_ret3
             exact ⟨zu63,HW.out⟩
      ·obtain rfl:k=a.size:=by omega
       have hstop:a.size=s.length∨∃ h:a.size<s.length,isDg true s[a.size]=false:=.inl zu60
       clear DG
       have hE:=HEX.out a.size hik hk (fun j h _ hj=>hD.out j h zu4 hj) hstop
       obtain ⟨v,FV,hv⟩:=hE
       have HFV:=Lib.hid FV
       clear FV hstop
       rcases hv with ⟨rfl,hv⟩|⟨m,rfl,hm,b3,FB,hb3,hv⟩
       ·have HV:=Lib.hid (HTU.out.trans hv)
        clear hv
        go_wp2_with fail
        with_reducible refine (HFV.out _).mono ?_
        rintro e w5 ⟨rfl,hb⟩
        replace HW:=Lib.hid (HW.out.trans (hb.mono HW.out.size))
        clear hb
        go_wp2_with fail
        go_ret3
        exact ⟨zu63,HW.out⟩
       ·have HV:=Lib.hid (HTU.out.trans hv)
        have HFB:=Lib.hid FB
        have HFX:=Lib.hid (FX.out m hm)
        have hb3':b3=true→a.size+1≤a.size:=fun h=>by have:=hb3 h;have:=HSZ.out;omega
        clear hv FB hb3
        go_wp2_with fail
        with_reducible refine (HFV.out _).mono ?_
        rintro e w5 ⟨rfl,hb⟩
        replace HW:=Lib.hid (HW.out.trans (hb.mono HW.out.size))
        clear hb
        go_wp2_with fail
        with_reducible refine (HFB.out _).mono ?_
        rintro e w6 ⟨rfl,hb⟩
        replace HW:=Lib.hid (HW.out.trans (hb.mono HW.out.size))
        clear hb
        cases b3 with
        | true =>
          have hk1:=hb3' rfl
          clear hb3'
          go_wp2_with fail
          with_reducible refine (HFX.out _).mono ?_
          rintro e w7 ⟨rfl,hb⟩
          replace HW:=Lib.hid (HW.out.trans (hb.mono HW.out.size))
          clear hb
          go_wp2_with fail
          go_ret3
          exact ⟨zu61,HW.out⟩
        | false =>
          clear hb3'
          go_wp2_with fail
          with_reducible refine (HFX.out _).mono ?_
          rintro e w7 ⟨rfl,hb⟩
          replace HW:=Lib.hid (HW.out.trans (hb.mono HW.out.size))
          clear hb
          go_wp2_with fail
          go_ret3
          exact ⟨zu63,HW.out⟩
   | false =>
     rw [if_neg zu15] at hi0
     subst hi0
     go_enter Tryz.func121,Tryz.ntmps121
     go_wp2_with fail
     refine HB1.out.mono ?_
     rintro e w1 ⟨rfl,hb⟩
     have HW:=Lib.hid hb
     clear hb
     go_wp2_with fail
     refine (HB2.out _).mono ?_
     rintro e w2 ⟨rfl,hb⟩
     replace HW:=Lib.hid (HW.out.trans (hb.mono HW.out.size))
     clear hb
     go_wp2_with fail
     go_loopw [7] (fun v wx => ∃ k:Nat,v = .int .i64 (k:Int)∧(n+1)≤k∧k≤a.size∧Hid (Below w.heap.size w wx)∧Hid (∀ j (h:j<s.length),(n+1)≤j→j<k→isDg false s[j]=true)) (fun v _=>a.size - (intOf v).toNat)
     case atStart=>exact ⟨(n+1),by go_num,Nat.le_refl _,hi0a,HW,Lib.hid (fun j _ h1 h2=>by omega)⟩
     case round =>
      clear HW
      obtain ⟨k,rfl,hik,hk,HW,hD⟩:=hrel
      by_cases hlt:k<a.size
      ·have hks:k<s.length:=by have:=HSZ.out;omega
       have hcg:a[k]=s[k]:=by
        have:=HXX.out k hlt
        rw [List.getElem?_eq_getElem hks] at this
        exact (Option.some.inj this).symm
       have HDG:=Lib.hid (DG.out a[k])
       cases hdg:isDigB a[k] with
       | true =>
         have F:Hid (∀ W,Calls Tryz.prog 158 #[.int .u8 ((a[k].toNat:Nat):Int)] W fun e w'=>e = .returned (.bool true)∧Below W.heap.size W w'):=Lib.hid (fun W=>by rw [← hdg];exact HDG.out W)
         have HN:Hid (∀ j (h:j<s.length),(n+1)≤j→j<k+1→isDg false s[j]=true):=Lib.hid (fun j h h1 h2=>by
          by_cases e:j=k
          ·subst e;rw [← hcg];unfold isDg;rw [hdg];rfl
          ·exact hD.out j h h1 zu4)
         clear hcg HDG hdg hD
         go_wp2_with fail
         refine (F.out _).mono ?_
         rintro e w4 ⟨rfl,hb⟩
         replace HW:=Lib.hid (HW.out.trans (hb.mono HW.out.size))
         clear hb
         go_wp2_with fail
         go_roundw
         case rel=>exact ⟨k+1,by go_num,zu4,zu4,HW,HN⟩
         case measure=>simp [intOf];omega
       | false =>
         have F:Hid (∀ W,Calls Tryz.prog 158 #[.int .u8 ((a[k].toNat:Nat):Int)] W fun e w'=>e = .returned (.bool false)∧Below W.heap.size W w'):=Lib.hid (fun W=>by rw [← hdg];exact HDG.out W)
         have hstop:k=s.length∨∃ h:k<s.length,isDg false s[k]=false:=.inr ⟨hks,by rw [← hcg];unfold isDg;rw [hdg];rfl⟩
         clear hcg HDG hdg
         have HST:=Lib.hid hstop
         clear hstop
         go_wp2_with fail
         refine (F.out _).mono ?_
         rintro e w4 ⟨rfl,hb⟩
         replace HW:=Lib.hid (HW.out.trans (hb.mono HW.out.size))
         clear hb
         have hstop:=HST.out
         clear HST F
         have hE:=HEX.out k hik hk (fun j h _ hj=>hD.out j h zu4 hj) hstop
         obtain ⟨v,FV,hv⟩:=hE
         have HFV:=Lib.hid FV
         clear FV hstop
         rcases hv with ⟨rfl,hv⟩|⟨m,rfl,hm,b3,FB,hb3,hv⟩
         ·have HV:=Lib.hid (HTU.out.trans hv)
          clear hv
          go_wp2_with fail
          with_reducible refine (HFV.out _).mono ?_
          rintro e w5 ⟨rfl,hb⟩
          replace HW:=Lib.hid (HW.out.trans (hb.mono HW.out.size))
          clear hb
          go_wp2_with fail
          go_ret3
          exact ⟨zu63,HW.out⟩
         ·have HV:=Lib.hid (HTU.out.trans hv)
          have HFB:=Lib.hid FB
          have HFX:=Lib.hid (FX.out m hm)
          have hb3':b3=true→k+1≤a.size:=fun h=>by have:=hb3 h;have:=HSZ.out;omega
          clear hv FB hb3
          go_wp2_with fail
          with_reducible refine (HFV.out _).mono ?_
          rintro e w5 ⟨rfl,hb⟩
          replace HW:=Lib.hid (HW.out.trans (hb.mono HW.out.size))
          clear hb
          go_wp2_with fail
          with_reducible refine (HFB.out _).mono ?_
          rintro e w6 ⟨rfl,hb⟩
          replace HW:=Lib.hid (HW.out.trans (hb.mono HW.out.size))
          clear hb
          cases b3 with
          | true =>
            have hk1:=hb3' rfl
            clear hb3'
            go_wp2_with fail
            with_reducible refine (HFX.out _).mono ?_
            rintro e w7 ⟨rfl,hb⟩
            replace HW:=Lib.hid (HW.out.trans (hb.mono HW.out.size))
            clear hb
            go_wp2_with fail
            go_ret3
            exact ⟨zu61,HW.out⟩
          | false =>
            clear hb3'
            go_wp2_with fail
            with_reducible refine (HFX.out _).mono ?_
            rintro e w7 ⟨rfl,hb⟩
            replace HW:=Lib.hid (HW.out.trans (hb.mono HW.out.size))
            clear hb
            go_wp2_with fail
            go_ret3
            exact ⟨zu63,HW.out⟩
      ·obtain rfl:k=a.size:=by omega
       have hstop:a.size=s.length∨∃ h:a.size<s.length,isDg false s[a.size]=false:=.inl zu60
       clear DG
       have hE:=HEX.out a.size hik hk (fun j h _ hj=>hD.out j h zu4 hj) hstop
       obtain ⟨v,FV,hv⟩:=hE
       have HFV:=Lib.hid FV
       clear FV hstop
       rcases hv with ⟨rfl,hv⟩|⟨m,rfl,hm,b3,FB,hb3,hv⟩
       ·have HV:=Lib.hid (HTU.out.trans hv)
        clear hv
        go_wp2_with fail
        with_reducible refine (HFV.out _).mono ?_
        rintro e w5 ⟨rfl,hb⟩
        replace HW:=Lib.hid (HW.out.trans (hb.mono HW.out.size))
        clear hb
        go_wp2_with fail
        go_ret3
        exact ⟨zu63,HW.out⟩
       ·have HV:=Lib.hid (HTU.out.trans hv)
        have HFB:=Lib.hid FB
        have HFX:=Lib.hid (FX.out m hm)
        have hb3':b3=true→a.size+1≤a.size:=fun h=>by have:=hb3 h;have:=HSZ.out;omega
        clear hv FB hb3
        go_wp2_with fail
        with_reducible refine (HFV.out _).mono ?_
        rintro e w5 ⟨rfl,hb⟩
        replace HW:=Lib.hid (HW.out.trans (hb.mono HW.out.size))
        clear hb
        go_wp2_with fail
        with_reducible refine (HFB.out _).mono ?_
        rintro e w6 ⟨rfl,hb⟩
        replace HW:=Lib.hid (HW.out.trans (hb.mono HW.out.size))
        clear hb
        cases b3 with
        | true =>
          have hk1:=hb3' rfl
          clear hb3'
          go_wp2_with fail
          with_reducible refine (HFX.out _).mono ?_
          rintro e w7 ⟨rfl,hb⟩
          replace HW:=Lib.hid (HW.out.trans (hb.mono HW.out.size))
          clear hb
          go_wp2_with fail
          go_ret3
          exact ⟨zu61,HW.out⟩
        | false =>
          clear hb3'
          go_wp2_with fail
          with_reducible refine (HFX.out _).mono ?_
          rintro e w7 ⟨rfl,hb⟩
          replace HW:=Lib.hid (HW.out.trans (hb.mono HW.out.size))
          clear hb
          go_wp2_with fail
          go_ret3
          exact ⟨zu63,HW.out⟩
end Hand
end

section
namespace Hand
open Go Go.RowKit Pl Pb Sa Go.Proofs.YtclkdmmgibgamaaGreatDoor.Pure YtclkdmmgibgamaaGreatDoorW.PrintWords
def isLetB (c:UInt8):Bool:=(decide (65≤c.toNat)&&decide (c.toNat≤90)) || (decide (97≤c.toNat)&&decide (c.toNat≤122))
def keptB (c:UInt8):Bool:=c == 61 || (isLetB c || isDigB c)
def keptL:List UInt8→Bool
 | []=>false
 | c::_=>keptB c
def leftL (attr:Bool) (name after:List UInt8):Bool:=attr&&(!Lib.hasSuffix name [59]&&keptL after)
inductive RefR (s:List UInt8) (n:Nat) (attr:Bool):Value→Prop
 | no (h:begR (s.drop n) [38]=false):RefR s n attr (.tuple #[.string ⟨#[]⟩,.int .i64 (n:Int)])
 | num (h:begR (s.drop n) [38]=true) (m k:Nat) (h2:numL (s.drop (n+1))=some (m,k)):RefR s n attr (.tuple #[.string (fixB m),.int .i64 ((n+1+k:Nat):Int)])
 | left (h:begR (s.drop n) [38]=true) (h2:numL (s.drop (n+1))=none) (k:Nat) (h3:Lng namesL (s.drop (n+1)) k) (h4:k=0∨leftL attr ((s.drop (n+1)).take k) (s.drop (n+1+k))=true) :
    RefR s n attr (.tuple #[.string (B ((s.drop n).take (k+1))),.int .i64 ((n+1+k:Nat):Int)])
 | name (h:begR (s.drop n) [38]=true) (h2:numL (s.drop (n+1))=none) (k:Nat) (h3:Lng namesL (s.drop (n+1)) k) (h4:k≠0) (h5:leftL attr ((s.drop (n+1)).take k) (s.drop (n+1+k))=false)
    (rest:List UInt8) (h6:Fnd namesL ((s.drop (n+1)).take k) (some rest)):RefR s n attr (.tuple #[.string (textB (num1 rest) (num2 rest)),.int .i64 ((n+1+k:Nat):Int)])
theorem or32:∀ x:Fin 256,decide (97≤Go.bits .or .u8 ((x.val:Nat):Int) 32∧Go.bits .or .u8 ((x.val:Nat):Int) 32≤122)=((decide (65≤x.val)&&decide (x.val≤90)) || (decide (97≤x.val)&&decide (x.val≤122))):=by decide
theorem letter_f (c:UInt8):sign_Letter.f (c.toNat:Int)=some (isLetB c):=by
 have h:=or32 ⟨c.toNat,c.toNat_lt⟩
 unfold sign_Letter.f sign_within.f isLetB
 rw [← h]
 by_cases h1:Go.bits .or .u8 ((c.toNat:Nat):Int) 32≥97
 ·rw [if_pos h1,Option.bind_some]
  congr 1
  rw [Bool.eq_iff_iff,decide_eq_true_eq,decide_eq_true_eq]
  exact ⟨fun h=>⟨h1,h⟩,fun h=>h.2⟩
 ·rw [if_neg h1,Option.bind_some]
  congr 1
  exact (decide_eq_false (fun h=>h1 h.1)).symm
theorem kept_f (s:List UInt8) (n:Nat) (hn:n≤s.length):ref_kept.f (B s) (n:Int)=some (keptL (s.drop n)):=by
 unfold ref_kept.f
 rcases Nat.lt_or_ge n s.length with h|h
 ·have hd:=List.drop_eq_getElem_cons h
  rw [if_pos zu36,if_pos zu4,hd,bt_drop s n _ _ hd]
  unfold keptL keptB
  by_cases h61:s[n]=61
  ·rw [h61];rfl
  ·rw [if_neg (fun e=>h61 (UInt8.toNat_inj.1 (show s[n].toNat=61 by omega)))]
   unfold sign_Word.f
   rw [letter_f,digit_f]
   simp only [Option.bind_some]
   rw [show (s[n] == 61)=false by rw [beq_eq_false_iff_ne];exact h61]
   cases isLetB s[n]<;>rfl
 ·rw [if_neg zu36,List.drop_eq_nil_of_le h];rfl
theorem kept_c (s:List UInt8) (n:Nat) (hn:n≤s.length) (w:World):Calls Tryz.prog 125 #[.string (B s),.int .i64 (n:Int)] w fun e w'=>e = .returned (.bool (keptL (s.drop n)))∧Below w.heap.size w w' :=
 (ref_kept.calls _ _ _ w (kept_f s n hn)).mono fun _ _ h=>⟨h.1,h.2.below⟩
theorem read_c (s:List UInt8) (n:Nat) (attr:Bool) (hs:s.length≤100000) (hn:n≤s.length) (w:World) (hGl:Glob w) (hGE:GlobE w) :
  Calls Tryz.prog 88 #[.string (B s),.int .i64 (n:Int),.bool attr] w fun e w'=>(∃ v,RefR s n attr v∧e = .returned v)∧Below w.heap.size w w':=by
 have BG:=Lib.hid (nbegins_c s [38] n zu4 zu15 hn w)
 have HG:=Lib.hid hGl
 have HE:=Lib.hid hGE
 obtain ⟨a,ha⟩:∃ a,B s=a:=⟨_,rfl⟩
 have HA:=Lib.hid ha
 have hsz:a.size=s.length:=by rw [← ha];simp
 obtain ⟨b1,hb1⟩:∃ b,begR (s.drop n) [38]=b:=⟨_,rfl⟩
 rw [hb1,ha] at BG
 rw [ha]
 have hB1:=Lib.hid hb1
 cases b1 with
 | false =>
   clear ha hsz hb1 hs hn hGl hGE
   go_enter Tryz.func88,Tryz.ntmps88
   go_wp2_with fail
   refine BG.out.mono ?_
   rintro e w1 ⟨rfl,hb⟩
   go_wp2_with fail
   go_ret2
   exact ⟨⟨_,RefR.no hB1.out,rfl⟩,hb⟩
 | true =>
   have hn1:n+1≤s.length:=by have:=begR_one hb1;rw [List.length_drop] at this;omega
   have NR:=Lib.hid (fun W=>number_c s (n+1) hs hn1 W)
   have LR:=Lib.hid (fun W hG=>nlongest_c s (n+1) zu4 hn1 (of_decide_eq_true names_size) W hG)
   have hHS:=Lib.hid hs
   have HSZ:=Lib.hid hsz
   have HN1:=Lib.hid hn1
   rw [ha] at NR LR
   have hn1a:n+1≤a.size:=by omega
   have hza:a.size≤100000:=by omega
   cases hnl:numL (s.drop (n+1)) with
   | some mk =>
     obtain ⟨m,k⟩:=mk
     have hT:numT s (n+1) = .tuple #[.string (fixB m),.int .i64 ((n+1+k:Nat):Int),.bool true]:=by unfold numT;rw [hnl]
     rw [hT] at NR
     have HNL:=Lib.hid hnl
     clear ha hsz hb1 hs hn hGl hGE hnl hT hn1 LR
     go_enter Tryz.func88,Tryz.ntmps88
     go_wp2_with fail
     refine BG.out.mono ?_
     rintro e w1 ⟨rfl,hb⟩
     have HW:=Lib.hid hb
     clear hb
     go_wp2_with fail
     refine (NR.out _).mono ?_
     rintro e w2 ⟨rfl,hb⟩
     replace HW:=Lib.hid (HW.out.trans (hb.mono HW.out.size))
     clear hb
     go_wp2_with fail
     go_ret2
     exact ⟨⟨_,RefR.num hB1.out m k HNL.out,rfl⟩,HW.out⟩
   | none =>
     have hT:numT s (n+1) = .tuple #[.string ⟨#[]⟩,.int .i64 ((n+1:Nat):Int),.bool false]:=by unfold numT;rw [hnl]
     rw [hT] at NR
     have hNL:=Lib.hid hnl
     clear ha hsz hb1 hs hn hGl hGE hnl hT hn1
     go_enter Tryz.func88,Tryz.ntmps88
     go_wp2_with fail
     refine BG.out.mono ?_
     rintro e w1 ⟨rfl,hb⟩
     have HW:=Lib.hid hb
     clear hb
     go_wp2_with fail
     refine (NR.out _).mono ?_
     rintro e w2 ⟨rfl,hb⟩
     replace HW:=Lib.hid (HW.out.trans (hb.mono HW.out.size))
     clear hb
     go_wp2_with fail
     refine (LR.out _ (HG.out.step HW.out)).mono ?_
     rintro e w3 ⟨⟨k,hlg,rfl⟩,hb⟩
     replace HW:=Lib.hid (HW.out.trans (hb.mono HW.out.size))
     have hLG:=Lib.hid hlg
     have hka:n+1+k≤a.size:=by
      have h1:=hlg.le
      rw [List.length_drop] at h1
      have:=HSZ.out
      omega
     have hnm:a.extract (n+1) (n+1+k)=B ((s.drop (n+1)).take k):=by rw [← HA.out,B_extract,List.drop_take,Nat.add_sub_cancel_left]
     have hct:a.extract n (n+1+k)=B ((s.drop n).take (k+1)):=by rw [← HA.out,B_extract,List.drop_take,show n+1+k - n=k+1 by omega]
     have HCUT:=Lib.hid hct
     have V:=nvalue_c ((s.drop (n+1)).take k) w3 (HG.out.step HW.out) (HE.out.step HW.out)
     rw [← hnm] at V
     have HV:=Lib.hid V
     have HNM:=Lib.hid hnm
     clear hb hlg hnm hct V NR LR BG
     go_wp2_with fail
     refine HV.out.mono ?_
     rintro e w4 ⟨⟨r,hf,rfl⟩,hb⟩
     replace HW:=Lib.hid (HW.out.trans (hb.mono HW.out.size))
     have HF:=Lib.hid hf
     clear hb hf HV
     by_cases hk0:k=0
     ·have hv:nvalV ((s.drop (n+1)).take k) r = .tuple #[.complex .f64 0 0,.bool false]:=by
       rw [hk0,List.take_zero]
       cases r<;>rfl
      rw [hv]
      clear hv
      have HK0:=Lib.hid hk0
      clear hk0
      go_wp2_with fail
      go_ret2
      refine ⟨⟨_,RefR.left hB1.out hNL.out k hLG.out (.inl HK0.out),?_⟩,HW.out⟩
      rw [← HCUT.out];rfl
     ·have hkey:isKey namesL ((s.drop (n+1)).take k):=by
       rcases hLG.out.key with h|h
       ·exact absurd h hk0
       ·exact h
      obtain ⟨rest,rfl⟩:∃ rest,r=some rest:=by
       cases r with
       | some rest=>exact ⟨rest,rfl⟩
       | none =>
         obtain ⟨p,h1,h2⟩:=hkey
         rcases HF.out with ⟨_,_,_,e⟩|⟨e,_⟩
         ·cases e
         ·exact absurd h2 (e p h1)
      obtain ⟨hro,hkn,_⟩:=fnd_rest HF.out
      have hv:nvalV ((s.drop (n+1)).take k) (some rest) = .tuple #[.complex .f64 (fW (num1 rest)) (fW (num2 rest)),.bool true]:=by unfold nvalV;simp only [hkn,if_false]
      rw [hv]
      obtain ⟨l1,l2⟩:=num_lt hro
      have HTX:=Lib.hid (fun W=>ntext_c (num1 rest) (num2 rest) l1 l2 W)
      have hkl:((s.drop (n+1)).take k).length≤1000000:=by rw [List.length_take,List.length_drop];have:=hHS.out;omega
      have SH:=fun W hG hE=>nshort_c ((s.drop (n+1)).take k) hkey hkl W hG hE
      have KP:=fun W=>kept_c s (n+1+k) zu60 W
      rw [HA.out] at KP
      rw [← HNM.out] at SH
      obtain ⟨bs,hbs⟩:∃ b,Lib.hasSuffix ((s.drop (n+1)).take k) [59]=b:=⟨_,rfl⟩
      obtain ⟨kp,hkp⟩:∃ b,keptL (s.drop (n+1+k))=b:=⟨_,rfl⟩
      rw [hbs] at SH
      rw [hkp] at KP
      have HSH:=Lib.hid SH
      have HKP:=Lib.hid KP
      have HLL:Hid (leftL attr ((s.drop (n+1)).take k) (s.drop (n+1+k))=(attr&&(!bs&&kp))):=Lib.hid (by unfold leftL;rw [hbs,hkp])
      obtain ⟨t1,ht1⟩:∃ t,textB (num1 rest) (num2 rest)=t:=⟨_,rfl⟩
      clear hv hkey hro hkn l1 l2 hkl SH KP hbs hkp ht1 t1
      cases attr with
      | false =>
        go_wp2_with fail
        refine (HTX.out _).mono ?_
        rintro e w8 ⟨rfl,rfl⟩
        go_wp2_with fail
        go_ret2
        exact zu40
      | true =>
        go_wp2_with fail
        refine (HSH.out _ (HG.out.step HW.out) (HE.out.step HW.out)).mono ?_
        rintro e w5 ⟨rfl,hb⟩
        replace HW:=Lib.hid (HW.out.trans (hb.mono HW.out.size))
        clear hb HSH
        cases bs with
        | true =>
          go_wp2_with fail
          refine (HTX.out _).mono ?_
          rintro e w8 ⟨rfl,rfl⟩
          go_wp2_with fail
          go_ret2
          exact zu40
        | false =>
          go_wp2_with fail
          refine (HKP.out _).mono ?_
          rintro e w6 ⟨rfl,hb⟩
          replace HW:=Lib.hid (HW.out.trans (hb.mono HW.out.size))
          clear hb HKP
          cases kp with
          | true =>
            go_wp2_with fail
            go_ret2
            refine ⟨⟨_,RefR.left hB1.out hNL.out k hLG.out (.inr (by rw [HLL.out];rfl)),?_⟩,HW.out⟩
            rw [← HCUT.out];rfl
          | false =>
            go_wp2_with fail
            refine (HTX.out _).mono ?_
            rintro e w8 ⟨rfl,rfl⟩
            go_wp2_with fail
            go_ret2
            exact zu40
end Hand
end

end Go.Proofs.YtclkdmmgibgamaaGreatDoor