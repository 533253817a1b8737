/-
  Texts that several claims of this seat share, merged by a program of this session (3).
-/
import Derived.Lib.Index
import Derived.Maps.StringElems
import Derived.Maps.Views
import Derived.Deep.QuietTactic
import Derived.BigQuiet
import Derived.Lib.Builder
import Derived.Test.YtcecjoaeolglbaaGreatDoorZsb
set_option linter.unusedVariables false
set_option linter.unusedSimpArgs false
section
namespace Go.Proofs.YtcecjoaeolglbaaGreatDoor.Hand
open Go Go.RowKit Go.Proofs.YtcecjoaeolglbaaGreatDoor.Pl Go.Proofs.YtcecjoaeolglbaaGreatDoor.Pb
abbrev AttrT:=List UInt8×List UInt8
inductive Tk where
 | text (s:List UInt8)
 | start (name:List UInt8) (l:List AttrT) (self:Bool)
 | fin (name:List UInt8)
 | comment (s:List UInt8)
 | doctype (s:List UInt8)
def nmC (c:UInt8):Bool := !(isSp c || c == 47 || c == 62 || c == 61)
def vlC (c:UInt8):Bool := !(isSp c || c == 62)
def spL (l:List UInt8):List UInt8:=l.dropWhile isSp
noncomputable def addA (l:List AttrT) (name value:List UInt8):List AttrT :=
 if l.any (fun a=>a.1 == cleanL (lowL name))=true then l else l++[(cleanL (lowL name),cleanL (rdL true value))]
def valA (r:List UInt8):Option (List UInt8×List UInt8) :=
 match spL r with
 | 61::r2=>match spL r2 with
   | []=>some ([],[])
   | c::r3=>if c=34∨c=39 then (if c∈r3 then some (upto c r3,past c r3) else none) else if c=62 then some ([],c::r3) else some (c::r3.takeWhile vlC,r3.dropWhile vlC)
 | r1=>some ([],r1)
noncomputable def attrF:Nat→List AttrT→List UInt8→Option (List AttrT×Bool×List UInt8)
 | 0,_,_=>none
 | f+1,l,s=>match spL s with
   | []=>none
   | c::r =>
     if c=62 then some (l,false,r)
     else if c=47 then (match r with
      | []=>attrF f l []
      | d::r'=>if d=62 then some (l,true,r') else attrF f l (d::r'))
     else match valA (r.dropWhile nmC) with
      | none=>none
      | some (v,r')=>attrF f (addA l (c::r.takeWhile nmC) v) r'
theorem dw_le {α:Type} (p:α→Bool) (l:List α):(l.dropWhile p).length≤l.length:=by
 induction l with
 | nil=>simp
 | cons c r ih=>rw [List.dropWhile_cons];split<;>simp only [List.length_cons]<;>omega
theorem past_le (c:UInt8) (l:List UInt8):(past c l).length≤l.length:=by unfold past;rw [List.length_drop];omega
theorem valA_le {r v r':List UInt8} (h:valA r=some (v,r')):r'.length≤r.length:=by
 have h1:=dw_le isSp r
 unfold valA at h
 change (spL r).length≤_ at h1
 split at h
 · rename_i r2 he
   rw [he,List.length_cons] at h1
   have h2:=dw_le isSp r2
   change (spL r2).length≤_ at h2
   split at h
   · cases h;simp
   · rename_i c r3 he2
     rw [he2,List.length_cons] at h2
     split at h
     · split at h
       · cases h;have:=past_le c r3;omega
       · cases h
     · split at h
       · cases h;simp only [List.length_cons];omega
       · cases h;have:=dw_le vlC r3;omega
 · cases h;exact h1
theorem attrF_more (f:Nat):∀ l s f',s.length<f→s.length<f'→attrF f l s=attrF f' l s:=by
 induction f with
 | zero=>intro l s f' h _;omega
 | succ f ih =>
   intro l s f' h h'
   cases f' with
   | zero=>omega
   | succ f' =>
     have h1:=dw_le isSp s
     change (spL s).length≤_ at h1
     simp only [attrF]
     split
     · rfl
     · rename_i c r he
       rw [he,List.length_cons] at h1
       split
       · rfl
       · split
         · split
           · rw [ih _ _ f' (by simp;omega) (by simp;omega)]
           · simp only [List.length_cons] at h1
             split
             · rfl
             · rw [ih _ _ f' (by simp;omega) (by simp;omega)]
         · have h2:=dw_le nmC r
           cases hv:valA (r.dropWhile nmC) with
           | none=>rfl
           | some x =>
             obtain ⟨v,r'⟩:=x
             have:=valA_le hv
             simp only
             rw [ih _ _ f' (by omega) (by omega)]
noncomputable def attrL (l:List AttrT) (s:List UInt8):Option (List AttrT×Bool×List UInt8):=attrF (s.length+1) l s
theorem attrL_eq (l:List AttrT) (s:List UInt8):attrL l s=match spL s with
  | []=>none
  | c::r =>
    if c=62 then some (l,false,r)
    else if c=47 then (match r with
     | []=>none
     | d::r'=>if d=62 then some (l,true,r') else attrL l (d::r'))
    else match valA (r.dropWhile nmC) with
     | none=>none
     | some (v,r')=>attrL (addA l (c::r.takeWhile nmC) v) r':=by
 have h1:=dw_le isSp s
 change (spL s).length≤_ at h1
 unfold attrL
 rw [attrF]
 split
 · rfl
 · rename_i c r he
   rw [he,List.length_cons] at h1
   split
   · rfl
   · split
     · split
       · cases hs:s.length with
         | zero=>omega
         | succ n=>simp [attrF,spL]
       · simp only [List.length_cons] at h1
         split
         · rfl
         · rw [attrF_more _ _ _ _ (by simp;omega) (Nat.lt_succ_self _)]
     · have h2:=dw_le nmC r
       cases hv:valA (r.dropWhile nmC) with
       | none=>rfl
       | some x =>
         obtain ⟨v,r'⟩:=x
         have:=valA_le hv
         simp only
         rw [attrF_more _ _ _ _ (by omega) (Nat.lt_succ_self _)]
theorem attrF_le (f:Nat):∀ l s l' b r,attrF f l s=some (l',b,r)→r.length<s.length:=by
 induction f with
 | zero=>intro l s l' b r h;cases h
 | succ f ih =>
   intro l s l' b r h
   have h1:=dw_le isSp s
   change (spL s).length≤_ at h1
   simp only [attrF] at h
   split at h
   · cases h
   · rename_i c r0 he
     rw [he,List.length_cons] at h1
     split at h
     · cases h;omega
     · split at h
       · split at h
         · have:=ih _ _ _ _ _ h;simp at this
         · simp only [List.length_cons] at h1
           split at h
           · cases h;omega
           · have:=ih _ _ _ _ _ h;simp at this;omega
       · have h2:=dw_le nmC r0
         split at h
         · cases h
         · rename_i v r' hv
           have h3:=valA_le hv
           have:=ih _ _ _ _ _ h
           omega
theorem attrL_lt {l l':List AttrT} {s r:List UInt8} {b:Bool} (h:attrL l s=some (l',b,r)):r.length<s.length:=attrF_le _ _ _ _ _ _ h
end Go.Proofs.YtcecjoaeolglbaaGreatDoor.Hand
end

section
namespace Go.Proofs.YtcecjoaeolglbaaGreatDoor.Pl
def endG (p q:List UInt8):List UInt8→Option (List UInt8×Nat)
 | []=>none
 | c::r=>if p.isPrefixOf (c::r)=true then some ([],p.length) else if q.isPrefixOf (c::r)=true then some ([],q.length)
   else match endG p q r with
    | none=>none
    | some (t,n)=>some (c::t,n+1)
end Go.Proofs.YtcecjoaeolglbaaGreatDoor.Pl
namespace Go.Proofs.YtcecjoaeolglbaaGreatDoor.Pure
open Go.Proofs.YtcecjoaeolglbaaGreatDoor.Pl
def letB (c:UInt8):Bool:=(decide (65≤c)&&decide (c≤90)) || (decide (97≤c)&&decide (c≤122))
def doctypeL:List UInt8:=[100,111,99,116,121,112,101]
def begC (r:List UInt8):Bool:=match r with
 | c::d::t=>(c == 60)&&(if d=33 then !begR t doctypeL else if d=63 then true else if d=47 then (match t with | []=>false|e::_ => !(e == 62) && !letB e) else false)
 | _=>false
def otherL (s:List UInt8):List UInt8×Nat:=match endG [62] [62] s with|none=>(s,s.length)|some x=>x
def plainEnd (s:List UInt8):List UInt8×Nat :=
 if [45,45,33].isSuffixOf s=true then (s.take (s.length - 3),s.length) else if [45,45].isSuffixOf s=true then (s.take (s.length - 2),s.length)
 else if [45].isSuffixOf s=true then (s.take (s.length - 1),s.length) else (s,s.length)
def plainL (s:List UInt8):List UInt8×Nat :=
 if [62].isPrefixOf s=true then ([],1) else if [45,62].isPrefixOf s=true then ([],2)
 else match endG [45,45,62] [45,45,33,62] s with|some x=>x|none=>plainEnd s
def readC (r:List UInt8):List UInt8×Nat :=
 if begR r [60,33,45,45]=true then ((plainL (r.drop 4)).1,4+(plainL (r.drop 4)).2)
 else if begR r [60,63]=true then ((otherL (r.drop 1)).1,1+(otherL (r.drop 1)).2)
 else ((otherL (r.drop 2)).1,2+(otherL (r.drop 2)).2)
end Go.Proofs.YtcecjoaeolglbaaGreatDoor.Pure
end

section
namespace Go.Proofs.YtcecjoaeolglbaaGreatDoor.Pl
open Go Go.Proofs.YtcecjoaeolglbaaGreatDoor.Pb
def plc (n:Nat):List UInt8→List Nat
 | []=>[]
 | c::r=>if [60,47].isPrefixOf (c::r)=true then n::plc (n+1) r else plc (n+1) r
theorem plc_none:∀ (r:List UInt8) (n:Nat),Lib.index r [60,47]<0→plc n r=[]:=by
 intro r
 induction r with
 | nil=>intro n _;rfl
 | cons c r ih =>
   intro n h
   have g:=Lib.index_ge r [60,47]
   simp only [Lib.index] at h
   split at h
   · omega
   · rename_i hp
     have:Lib.index r [60,47] = -1:=by
      split at h
      · rename_i hh;simpa using hh
      · omega
     rw [plc,if_neg hp,ih (n+1) (by omega)]
theorem plc_some:∀ (r:List UInt8) (n k:Nat),Lib.index r [60,47]=(k:Int)→plc n r=(n+k)::plc (n+k+1) (r.drop (k+1)):=by
 intro r
 induction r with
 | nil=>intro n k h;simp [Lib.index] at h;try omega
 | cons c r ih =>
   intro n k h
   have g:=Lib.index_ge r [60,47]
   simp only [Lib.index] at h
   split at h
   · rename_i hp
     obtain rfl:k=0:=by omega
     rw [plc,if_pos hp];simp
   · rename_i hp
     split at h
     · omega
     · rename_i hh
       have hne:Lib.index r [60,47] ≠ -1:=by simpa using hh
       obtain ⟨j,rfl⟩:∃ j,k=j+1:=⟨k - 1,by omega⟩
       rw [plc,if_neg hp,ih (n+1) j (by omega)]
       simp only [List.drop_succ_cons]
       rw [show n+1+j=n+(j+1) by omega]
theorem index_lt:∀ (r:List UInt8) (k:Nat),Lib.index r [60,47]=(k:Int)→k+1≤r.length:=by
 intro r
 induction r with
 | nil=>intro k h;simp [Lib.index] at h;try omega
 | cons c r ih =>
   intro k h
   simp only [Lib.index] at h
   split at h
   · simp;omega
   · split at h
     · omega
     · rename_i hh
       have hne:Lib.index r [60,47] ≠ -1:=by simpa using hh
       have g:=Lib.index_ge r [60,47]
       obtain ⟨j,rfl⟩:∃ j,k=j+1:=⟨k - 1,by omega⟩
       have:=ih j (by omega)
       simp;omega
theorem plc_length:∀ (r:List UInt8) (n:Nat),(plc n r).length≤r.length:=by
 intro r
 induction r with
 | nil=>intro n;simp [plc]
 | cons c r ih =>
   intro n
   have:=ih (n+1)
   rw [plc];split
   · simp;omega
   · simp;omega
theorem xdrop (s:ByteArray) (k:Nat):(s.extract k s.size).data.toList=s.data.toList.drop k:=by
 obtain ⟨l,rfl⟩:=exists_B s
 rw [B_extract,B_data,B_data,size_B,List.take_length]
def rawFind (s:List UInt8) (n:Nat) (name:List UInt8):Nat:=((plc n (s.drop n)).find? fun p=>endsL (s.drop p) name).getD s.length
theorem rawFind_none {s:List UInt8} {n:Nat} {name:List UInt8} (h:∀ p∈plc n (s.drop n),endsL (s.drop p) name=false):rawFind s n name=s.length:=by
 unfold rawFind
 rw [List.find?_eq_none.2 (fun p hp=>by simp [h p hp])];rfl
theorem rawFind_some {s:List UInt8} {n:Nat} {name:List UInt8} {pre:List Nat} {x:Nat} (hp:(pre++[x]) <+: plc n (s.drop n)) (h:∀ p∈pre,endsL (s.drop p) name=false) (hx:endsL (s.drop x) name=true):rawFind s n name=x:=by
 obtain ⟨t,ht⟩:=hp
 unfold rawFind
 rw [← ht,List.append_assoc,List.find?_append,List.find?_eq_none.2 (fun p hq=>by simp [h p hq])]
 simp [hx]
def firstE (name:List UInt8):List UInt8→Nat
 | []=>0
 | c::r=>if endsL (c::r) name=true then 0 else 1+firstE name r
theorem lowB_47' (c:UInt8) (h:lowB c=47):c=47:=by
 have:∀ n:Fin 256,lowB (UInt8.ofNat n.val)=47→UInt8.ofNat n.val=47:=by decide +kernel
 have h':=this ⟨c.toNat,c.toNat_lt⟩
 simpa using h' (by simpa using h)
theorem lowB_60' (c:UInt8) (h:lowB c=60):c=60:=by
 have:∀ n:Fin 256,lowB (UInt8.ofNat n.val)=60→UInt8.ofNat n.val=60:=by decide +kernel
 have h':=this ⟨c.toNat,c.toNat_lt⟩
 simpa using h' (by simpa using h)
theorem ends_pref {r name:List UInt8} (h:endsL r name=true):[60,47].isPrefixOf r=true:=by
 simp only [endsL,Bool.and_eq_true] at h
 have h1:=h.1.1.2
 match r,h1 with
 | [],h1=>simp [begR] at h1
 | [c],h1=>simp [begR] at h1
 | c::d::r,h1 =>
   simp only [begR,Bool.and_eq_true,beq_iff_eq] at h1
   rw [lowB_60' c h1.1,lowB_47' d h1.2.1];simp [List.isPrefixOf]
theorem rawFind_aux (s name:List UInt8):∀ (r:List UInt8) (n:Nat),s.drop n=r→n≤s.length→((plc n r).find? fun p=>endsL (s.drop p) name).getD s.length=n+firstE name r:=by
 intro r
 induction r with
 | nil =>
   intro n h hn
   have:=List.drop_eq_nil_iff.1 h
   simp [plc,firstE];omega
 | cons c r ih =>
   intro n h hn
   have hlt:n<s.length:=by
    rcases Nat.lt_or_ge n s.length with h'|h'
    · exact h'
    · rw [List.drop_eq_nil_of_le h'] at h;cases h
   have hr:s.drop (n+1)=r:=by rw [← List.drop_drop,h];rfl
   have:=ih (n+1) hr (by omega)
   by_cases he:endsL (c::r) name=true
   · rw [plc,if_pos (ends_pref he),List.find?_cons,h,he,firstE,if_pos he];rfl
   · rw [firstE,if_neg he,plc]
     split
     · rw [List.find?_cons,h,Bool.eq_false_iff.2 he]
       simp only
       rw [this];omega
     · rw [this];omega
theorem rawFind_first (s name:List UInt8) (n:Nat) (hn:n≤s.length):rawFind s n name=n+firstE name (s.drop n):=rawFind_aux s name _ n rfl hn
end Go.Proofs.YtcecjoaeolglbaaGreatDoor.Pl
end

section
namespace Go.Proofs.YtcecjoaeolglbaaGreatDoor.Hand
open Go Go.RowKit Go.Proofs.YtcecjoaeolglbaaGreatDoor.Pl Go.Proofs.YtcecjoaeolglbaaGreatDoor.Pb Go.Proofs.YtcecjoaeolglbaaGreatDoor.Pure
def tagN:List UInt8→Nat
 | a::c::r=>if a=60 then (if isLetB c=true then 1 else if c=47 then (match r with | []=>0|d::_=>if isLetB d=true then 2 else 0) else 0) else 0
 | _=>0
def stC (c:UInt8):Bool := !stops c
def nameL (l:List UInt8):List UInt8:=cleanL (lowL (l.takeWhile stC))
noncomputable def tagL (l:List UInt8):Option Tk×List UInt8 :=
 match attrL [] ((l.drop (tagN l)).dropWhile stC) with
 | none=>(none,[])
 | some (al,self,r)=>(some (if tagN l=2 then .fin (nameL (l.drop 2)) else .start (nameL (l.drop 1)) al self),r)
noncomputable def tagR (l:List UInt8):Option Tk×List UInt8:=if tagN l=0 then (none,l) else tagL l
def docL:List UInt8:=[60,33,100,111,99,116,121,112,101]
def voidL:List UInt8:=[60,47,62]
def begM (l:List UInt8):Bool:=(tagN l != 0) || begC l || begR l docL || begR l voidL
def txN:List UInt8→Nat
 | []=>0
 | c::r=>if begM (c::r)=true then 0 else 1+txN r
noncomputable def tokL (l:List UInt8):Option Tk×List UInt8 :=
 if tagN l≠0 then tagL l
 else if begC l=true then (some (.comment (cleanL (readC l).1)),l.drop (readC l).2)
 else if begR l docL=true then (some (.doctype (cleanL (upto 62 (l.drop 9)))),past 62 (l.drop 9))
 else if begR l voidL=true then (none,l.drop 3)
 else if txN l=0 then (none,l)
 else (some (.text (rdL false (l.take (txN l)))),l.drop (txN l))
noncomputable def rawT (refs:Bool) (s:List UInt8):List UInt8:=if refs=true then cleanL (rdL false s) else cleanL s
def txtT (s:List UInt8):List Tk:=if s=[] then [] else [.text s]
def endN (st:Nat) (name l:List UInt8):Nat:=if st=1∨st=2 then firstE name l else if st=3 then (findL 0 0 l).1 else l.length
noncomputable def restL (st:Nat) (name l:List UInt8):List Tk×List UInt8 :=
 if st=0∨4<st then ([],l)
 else if l.drop (endN st name l)=[] then (txtT (rawT (st == 1) (l.take (endN st name l))),[])
 else (txtT (rawT (st == 1) (l.take (endN st name l)))++(tagR (l.drop (endN st name l))).1.toList,(tagR (l.drop (endN st name l))).2)
def joinL:List Tk→List Tk
 | []=>[]
 | .text s::r=>match joinL r with
   | .text t::r2 => .text (s++t)::r2
   | r2=>txtT s++r2
 | t::r=>t::joinL r
noncomputable def tksF:Nat→List UInt8→List Tk
 | 0,_=>[]
 | f+1,l=>if l=[] then [] else (tokL l).1.toList++tksF f (tokL l).2
def titleW:List UInt8:=[116,105,116,108,101]
def areaW:List UInt8:=[116,101,120,116,97,114,101,97]
def styleW:List UInt8:=[115,116,121,108,101]
def xmpW:List UInt8:=[120,109,112]
def iframeW:List UInt8:=[105,102,114,97,109,101]
def noembedW:List UInt8:=[110,111,101,109,98,101,100]
def noframesW:List UInt8:=[110,111,102,114,97,109,101,115]
def noscriptW:List UInt8:=[110,111,115,99,114,105,112,116]
def plaintextW:List UInt8:=[112,108,97,105,110,116,101,120,116]
def stateN (n:List UInt8):Nat :=
 if n=titleW∨n=areaW then 1
 else if n=styleW∨n=xmpW∨n=iframeW∨n=noembedW∨n=noframesW∨n=noscriptW then 2
 else if n=scriptL then 3 else if n=plaintextW then 4 else 0
noncomputable def drvF:Nat→List UInt8→List Tk
 | 0,_=>[]
 | f+1,l=>if l=[] then [] else
   match tokL l with
   | (some (.start n al self),r) => .start n al self::((restL (stateN n) n r).1++drvF f (restL (stateN n) n r).2)
   | (some t,r)=>t::drvF f r
   | (none,r)=>drvF f r
theorem tagL_lt {l:List UInt8} (h:l≠[]):(tagL l).2.length<l.length:=by
 have hp:=List.length_pos_iff.2 h
 have h1:=dw_le stC (l.drop (tagN l))
 unfold tagL
 split
 · exact hp
 · rename_i al self r he
   have:=attrL_lt he
   rw [List.length_drop] at h1
   simp only
   omega
theorem tagR_le (l:List UInt8):(tagR l).2.length≤l.length:=by
 unfold tagR
 split
 · exact Nat.le_refl _
 · cases l with
   | nil=>simp [tagL,tagN,attrL_eq,spL]
   | cons c r=>exact Nat.le_of_lt (tagL_lt (List.cons_ne_nil _ _))
theorem readC_pos (l:List UInt8):1≤(readC l).2:=by unfold readC;split<;>(try split)<;>simp only<;>omega
theorem txN_le (l:List UInt8):txN l≤l.length:=by
 induction l with
 | nil=>exact Nat.le_refl _
 | cons c r ih=>rw [txN];split<;>simp only [List.length_cons]<;>omega
theorem txN_zero {l:List UInt8} (h:txN l=0) (hl:l≠[]):begM l=true:=by
 cases l with
 | nil=>exact absurd rfl hl
 | cons c r =>
   rw [txN] at h
   split at h
   · assumption
   · omega
theorem tokL_lt {l:List UInt8} (h:l≠[]):(tokL l).2.length<l.length:=by
 have hp:=List.length_pos_iff.2 h
 unfold tokL
 split
 · exact tagL_lt h
 · split
   · have:=readC_pos l
     simp only [List.length_drop];omega
   · split
     · have:=past_le 62 (l.drop 9)
       rw [List.length_drop] at this
       simp only;omega
     · split
       · simp only [List.length_drop];omega
       · split
         · rename_i h1 h2 h3 h4 h5
           have:=txN_zero h5 h
           unfold begM at this
           simp only [Bool.or_eq_true,bne_iff_ne] at this
           rcases this with ((h6|h6)|h6)|h6
           · exact absurd h6 h1
           · exact absurd h6 h2
           · exact absurd h6 h3
           · exact absurd h6 h4
         · have:=txN_le l
           simp only [List.length_drop];omega
theorem restL_le (st:Nat) (name l:List UInt8):(restL st name l).2.length≤l.length:=by
 unfold restL
 split
 · exact Nat.le_refl _
 · split
   · simp
   · rename_i h
     have:=tagR_le (l.drop (endN st name l))
     rw [List.length_drop] at this
     simp only
     omega
theorem drvF_more (f:Nat):∀ l f',l.length≤f→l.length≤f'→drvF f l=drvF f' l:=by
 induction f with
 | zero =>
   intro l f' h _
   obtain rfl:=List.eq_nil_of_length_eq_zero (Nat.le_zero.1 h)
   cases f'<;>simp [drvF]
 | succ f ih =>
   intro l f' h h'
   cases f' with
   | zero =>
     obtain rfl:=List.eq_nil_of_length_eq_zero (Nat.le_zero.1 h')
     simp [drvF]
   | succ f' =>
     simp only [drvF]
     by_cases hl:l=[]
     · simp [hl]
     · have:=tokL_lt hl
       rw [if_neg hl,if_neg hl]
       split
       · rename_i n al self r he
         rw [he] at this
         simp only at this
         have h2:=restL_le (stateN n) n r
         rw [ih _ f' (by omega) (by omega)]
       · rename_i t r _ he
         rw [he] at this
         simp only at this
         rw [ih _ f' (by omega) (by omega)]
       · rename_i r he
         rw [he] at this
         simp only at this
         rw [ih _ f' (by omega) (by omega)]
noncomputable def drvL (l:List UInt8):List Tk:=drvF l.length l
theorem drvL_nil:drvL []=[]:=rfl
noncomputable def drv1:Option Tk×List UInt8→List Tk×List UInt8
 | (some (.start n al self),r)=>(.start n al self::(restL (stateN n) n r).1,(restL (stateN n) n r).2)
 | (some t,r)=>([t],r)
 | (none,r)=>([],r)
theorem drv1_le (x:Option Tk×List UInt8):(drv1 x).2.length≤x.2.length:=by
 unfold drv1
 split
 · exact restL_le _ _ _
 · exact Nat.le_refl _
 · exact Nat.le_refl _
theorem drvL_eq {l:List UInt8} (h:l≠[]):drvL l=(drv1 (tokL l)).1++drvL (drv1 (tokL l)).2:=by
 have hp:=List.length_pos_iff.2 h
 have ht:=tokL_lt h
 have h1:=drv1_le (tokL l)
 obtain ⟨n,hn⟩:∃ n,l.length=n+1:=⟨l.length - 1,by omega⟩
 have e:drvL l=(drv1 (tokL l)).1++drvF n (drv1 (tokL l)).2:=by
  unfold drvL
  rw [hn,drvF,if_neg h]
  unfold drv1
  split<;>rfl
 rw [e]
 unfold drvL
 rw [drvF_more n _ _ (by omega) (Nat.le_refl _)]
noncomputable def driveL (l:List UInt8):List Tk:=joinL (drvL l)
end Go.Proofs.YtcecjoaeolglbaaGreatDoor.Hand
end

section
namespace Go.Proofs.YtcecjoaeolglbaaGreatDoor.Si
open Go.RowKit Go.Proofs.YtcecjoaeolglbaaGreatDoor.K0 Go.Proofs.YtcecjoaeolglbaaGreatDoor.Hand Go.Proofs.YtcecjoaeolglbaaGreatDoor.Sa Go.Proofs.YtcecjoaeolglbaaGreatDoorW.PrintWords Go.Proofs.YtcecjoaeolglbaaGreatDoorW.PrintLast Go.Proofs.YtcecjoaeolglbaaGreatDoorW.PrintMore
attribute [local go_sem] max2_int min2_int max_two min_two max_three min_three max_four min_four  
set_option linter.unusedVariables false
set_option linter.unusedSimpArgs false
def text_inside.f (a0:ByteArray) (a1:Int):Option (Int):=some (mn (mx a1 0) (a0.size:Int))
set_option maxHeartbeats 8000000 in
set_option maxRecDepth 100000 in
theorem text_inside.calls (a0:ByteArray) (a1:Int) (r:Int) (w:World) (h:text_inside.f a0 a1=some r) :
  Calls Tryz.prog 133 #[.string a0,.int .i64 a1] w fun e w'=>e = .returned (.int .i64 r)∧Below w.heap.size w w':=by
 have HB:=Aside0.mk (Below.refl w.heap.size w)
 have H:(some (mn (mx a1 0) (a0.size:Int)))=some r:=h
 clear h
 obtain ⟨ji3,hji3⟩:∃ j_:Int,(mx a1 0)=j_:=⟨_,rfl⟩
 replace H:(some (mn (ji3) (a0.size:Int)))=some r:=by first | (rw [hji3] at H;exact H) | (simp only [hji3] at H ⊢;exact H)
 (try (have hji3l:0≤ji3:=by (rw [← hji3];unfold mx;(repeat' split)<;>omega)))
 (try (have hji3m:0≤ji3:=by omega))
 have hji3_:(if a1<0 then 0 else a1)=ji3:=hji3
 obtain ⟨ji4,hji4⟩:∃ j_:Int,(mn (ji3) (a0.size:Int))=j_:=⟨_,rfl⟩
 replace H:(some ji4)=some r:=by first | (rw [hji4] at H;exact H) | (simp only [hji4] at H ⊢;exact H)
 have hji4_:(if (a0.size:Int)<(ji3) then (a0.size:Int) else (ji3))=ji4:=hji4
 obtain rfl:=Option.some.inj H
 go_enter Tryz.func133,Tryz.ntmps133
 go_wp2
 go_ret
 exact ⟨by first|rfl | (simp [errW_none,errW_some]<;>rfl) | (simp only [← hji3,← hji4];first|rfl | (simp [errW_none,errW_some]<;>rfl)) | (simp [*,errW_none,errW_some]<;>rfl),by repeat (first | (with_reducible first|exact HB.out|apply below_alloc|apply pw_below_drewN|apply below_drew1)|exact HB.out)⟩
def tok_inside.f (a0:ByteArray) (a1:Int):Option (Int):=some (mn (mx a1 0) (a0.size:Int))
set_option maxHeartbeats 8000000 in
set_option maxRecDepth 100000 in
theorem tok_inside.calls (a0:ByteArray) (a1:Int) (r:Int) (w:World) (h:tok_inside.f a0 a1=some r) :
  Calls Tryz.prog 88 #[.string a0,.int .i64 a1] w fun e w'=>e = .returned (.int .i64 r)∧Below w.heap.size w w':=by
 have HB:=Aside0.mk (Below.refl w.heap.size w)
 have H:(some (mn (mx a1 0) (a0.size:Int)))=some r:=h
 clear h
 obtain ⟨ji3,hji3⟩:∃ j_:Int,(mx a1 0)=j_:=⟨_,rfl⟩
 replace H:(some (mn (ji3) (a0.size:Int)))=some r:=by first | (rw [hji3] at H;exact H) | (simp only [hji3] at H ⊢;exact H)
 (try (have hji3l:0≤ji3:=by (rw [← hji3];unfold mx;(repeat' split)<;>omega)))
 (try (have hji3m:0≤ji3:=by omega))
 have hji3_:(if a1<0 then 0 else a1)=ji3:=hji3
 obtain ⟨ji4,hji4⟩:∃ j_:Int,(mn (ji3) (a0.size:Int))=j_:=⟨_,rfl⟩
 replace H:(some ji4)=some r:=by first | (rw [hji4] at H;exact H) | (simp only [hji4] at H ⊢;exact H)
 have hji4_:(if (a0.size:Int)<(ji3) then (a0.size:Int) else (ji3))=ji4:=hji4
 obtain rfl:=Option.some.inj H
 go_enter Tryz.func88,Tryz.ntmps88
 go_wp2
 go_ret
 exact ⟨by first|rfl | (simp [errW_none,errW_some]<;>rfl) | (simp only [← hji3,← hji4];first|rfl | (simp [errW_none,errW_some]<;>rfl)) | (simp [*,errW_none,errW_some]<;>rfl),by repeat (first | (with_reducible first|exact HB.out|apply below_alloc|apply pw_below_drewN|apply below_drew1)|exact HB.out)⟩
def tag_place_letter.f (a0_0:ByteArray) (a0_1:Int) (a1:Int):Option (Bool):=if (wrap64 (a0_1+a1))<(a0_0.size:Int) then (if 0≤(wrap64 (a0_1+a1)) then ((sign_Letter.f (bt a0_0 (wrap64 (a0_1+a1)))).bind fun t102=>(some t102)) else (none)) else (some false)
set_option maxHeartbeats 8000000 in
set_option maxRecDepth 100000 in
theorem tag_place_letter.calls (a0_0:ByteArray) (a0_1:Int) (a1:Int) (r:Bool) (w:World) (h:tag_place_letter.f a0_0 a0_1 a1=some r) :
  Calls Tryz.prog 167 #[.agg #[.string a0_0,.int .i64 a0_1],.int .i64 a1] w fun e w'=>e = .returned (.bool r)∧Below w.heap.size w w':=by
 have hu155:=Tryz.underlying155
 have HB:=Aside0.mk (Below.refl w.heap.size w)
 have H:(if (wrap64 (a0_1+a1))<(a0_0.size:Int) then (if 0≤(wrap64 (a0_1+a1)) then ((sign_Letter.f (bt a0_0 (wrap64 (a0_1+a1)))).bind fun t102=>(some t102)) else (none)) else (some false))=some r:=h
 clear h
 by_cases c3:(wrap64 (a0_1+a1))<(a0_0.size:Int)
 · rw [if_pos c3] at H
   have c3b0:decide ((wrap64 (a0_1+a1))<(a0_0.size:Int))=true:=decide_eq_true c3
   clear c3
   obtain ⟨ji4,hji4⟩:∃ j_:Int,(wrap64 (a0_1+a1))=j_:=⟨_,rfl⟩
   replace H:(if 0≤(ji4) then ((sign_Letter.f (bt a0_0 (ji4))).bind fun t102=>(some t102)) else (none))=some r:=by first | (rw [hji4] at H;exact H) | (simp only [hji4] at H ⊢;exact H)
   (try rw [hji4] at c3b0)
   have hji4w:(IntKind.i64.wrap (a0_1+a1))=ji4:=(i64_w _).trans hji4
   by_cases c5:0≤(ji4)
   · rw [if_pos c5] at H
     have c5b0:decide (0≤(ji4))=true:=decide_eq_true c5
     clear c5
     replace H:=Option.bind_eq_some_iff.mp H
     obtain ⟨t102,A70,H⟩:=H
     replace H:(some t102)=some r:=H
     have A7:=Aside0.mk A70
     clear A70
     obtain rfl:=Option.some.inj H
     go_enter Tryz.func167,Tryz.ntmps167
     go_wp2_with (first | ((with_reducible refine gate_dst (N:=2) rfl ?_);refine box_event ?hg (N:=2) ?hd (cs := #[.string a0_0,.int .i64 a0_1]) (t:=155) ?hr ?_;(case hd=>rfl);(case hg=>rfl);(case hr=>first | (go_simp;done) | (go_simp;rfl));intro gb101 hg w8 hbox hb;have n0_:=Aside0.mk (below_step (by repeat (first | (with_reducible first|exact HB.out|apply below_alloc|apply pw_below_drewN|apply below_drew1)|exact HB.out)) hb);have n1_:=Aside0.mk (hbox);have n2_:=Aside0.mk ((by rw [hg];exact (below_size (by repeat (first | (with_reducible first|exact HB.out|apply below_alloc|apply pw_below_drewN|apply below_drew1)|exact HB.out))):w.heap.size≤gb101));have n3_:=Aside0.mk ((by rw [hg];exact (below_size (by repeat (first | (with_reducible first|exact HB.out|apply below_alloc|apply pw_below_drewN|apply below_drew1)|exact HB.out))):w.heap.size≤gb101));clear HB;have HB:=n0_;have BK101:=n1_;have GW101:=n2_;have GE101:=n3_;clear n0_ n1_ n2_ n3_;clear hb hbox hg;have hcz9_0:w8.cell? ⟨gb101,0,none⟩=some (.string a0_0):=(blk_cell BK101.out 0).trans rfl;have hcz9_1:w8.cell? ⟨gb101,1,none⟩=some (.int .i64 a0_1):=(blk_cell BK101.out 1).trans rfl;have hfz9_0:=blk_frozen BK101.out 0;have hfz9_1:=blk_frozen BK101.out 1;have p6:0≤((ji4):Int):=of_decide_eq_true (by first | (with_reducible assumption)|assumption);have q6:(ji4)<(a0_0.size:Int):=of_decide_eq_true (by first | (with_reducible assumption)|assumption);have hx6:=bt_at a0_0 (ji4);replace p6:=eq_true p6;replace q6:=eq_true q6) | (go_at_call 127;(with_reducible refine (sign_Letter.calls (bt a0_0 (ji4)) t102 _ A7.out).mono ?_);rintro e w' ⟨rfl,⟨nd,rfl⟩⟩))
     go_ret
     exact ⟨by first|rfl | (simp [errW_none,errW_some]<;>rfl) | (simp only [← hji4];first|rfl | (simp [errW_none,errW_some]<;>rfl)) | (simp [*,errW_none,errW_some]<;>rfl),by repeat (first | (with_reducible first|exact HB.out|apply below_alloc|apply pw_below_drewN|apply below_drew1|refine below_set ?_ GE101.out)|exact HB.out)⟩
   · rw [if_neg c5] at H
     exact absurd H (by simp)
 · rw [if_neg c3] at H
   have c3b0:decide ((wrap64 (a0_1+a1))<(a0_0.size:Int))=false:=decide_eq_false c3
   clear c3
   obtain rfl:=Option.some.inj H
   go_enter Tryz.func167,Tryz.ntmps167
   go_wp2_with (first | ((with_reducible refine gate_dst (N:=2) rfl ?_);refine box_event ?hg (N:=2) ?hd (cs := #[.string a0_0,.int .i64 a0_1]) (t:=155) ?hr ?_;(case hd=>rfl);(case hg=>rfl);(case hr=>first | (go_simp;done) | (go_simp;rfl));intro gb101 hg w10 hbox hb;have n0_:=Aside0.mk (below_step (by repeat (first | (with_reducible first|exact HB.out|apply below_alloc|apply pw_below_drewN|apply below_drew1)|exact HB.out)) hb);have n1_:=Aside0.mk (hbox);have n2_:=Aside0.mk ((by rw [hg];exact (below_size (by repeat (first | (with_reducible first|exact HB.out|apply below_alloc|apply pw_below_drewN|apply below_drew1)|exact HB.out))):w.heap.size≤gb101));have n3_:=Aside0.mk ((by rw [hg];exact (below_size (by repeat (first | (with_reducible first|exact HB.out|apply below_alloc|apply pw_below_drewN|apply below_drew1)|exact HB.out))):w.heap.size≤gb101));clear HB;have HB:=n0_;have BK101:=n1_;have GW101:=n2_;have GE101:=n3_;clear n0_ n1_ n2_ n3_;clear hb hbox hg;have hcz11_0:w10.cell? ⟨gb101,0,none⟩=some (.string a0_0):=(blk_cell BK101.out 0).trans rfl;have hcz11_1:w10.cell? ⟨gb101,1,none⟩=some (.int .i64 a0_1):=(blk_cell BK101.out 1).trans rfl;have hfz11_0:=blk_frozen BK101.out 0;have hfz11_1:=blk_frozen BK101.out 1))
   go_ret
   exact ⟨by first|rfl | (simp [errW_none,errW_some]<;>rfl) | (simp [*,errW_none,errW_some]<;>rfl),by repeat (first | (with_reducible first|exact HB.out|apply below_alloc|apply pw_below_drewN|apply below_drew1|refine below_set ?_ GE101.out)|exact HB.out)⟩
end Go.Proofs.YtcecjoaeolglbaaGreatDoor.Si
end

section
namespace Go.Proofs.YtcecjoaeolglbaaGreatDoor.Hand
open Go Go.RowKit Go.Maps Go.Proofs.YtcecjoaeolglbaaGreatDoor.Pl Go.Proofs.YtcecjoaeolglbaaGreatDoor.Pb Go.Proofs.YtcecjoaeolglbaaGreatDoor.Sa Go.Proofs.YtcecjoaeolglbaaGreatDoor.Si Go.Proofs.YtcecjoaeolglbaaGreatDoor.Pure Go.Proofs.YtcecjoaeolglbaaGreatDoorW.PrintWords
theorem wp_insert_own {H:Type} {P:Program} (w:World) {ops:Array Oper} {rest:List Oper} {o:Oper} {a:Act} {Q:Exit→Act→World→Prop}
  (hg:o.guard=none) (m x v:Operand) (t:TypeId) (hop:o.op=Op.insert t m x v)
  (k e:TypeId) (K:Keyed P k) (ht:P.underlying t=some (.map k e)) (R:Value→Option (DataW H×List MemPlace)) (b n:Nat) (D:DataW H)
  (hm:a.eval m = .map (some b)) (hown:w.ownsMap P k R b n D) (hn:n<maxLen) (key val:Value) (kl:Lit) (hx:a.eval x=key) (hv:a.eval v=val) (hkey:keyOf P k key=some kl)
  (d:DataW H) (ps:List MemPlace) (hval:R val=some (d,ps))
  (hK:∀ w',w'.ownsMap P k R b (n+1) (D.put kl d)→w.grownBy w' (some b)→wpList P ops Q rest (a.put o.dst undef) w') :
  wpList P ops Q (o::rest) a w:=by
 refine wpList_plain hg fun K' hK' => ?_
 obtain ⟨w',hrun,r1,r2⟩:=hown.update K ht hn hkey hval
 unfold Oper.wp
 simp [execOp,hop,hm,hx,hv,hrun,Result.andThen]
 exact hK' _ _ (hK w' r1 r2)
def letAt (l:List UInt8):Bool:=match l with | []=>false|c::_=>isLetB c
theorem letter_at (s:List UInt8) (p n:Nat) (hs:s.length≤1000000) (hp:p≤s.length) (hn:n≤2) (w:World) :
  Calls Tryz.prog 167 #[.agg #[.string (B s),.int .i64 (p:Int)],.int .i64 (n:Int)] w fun e w'=>e = .returned (.bool (letAt (s.drop (p+n))))∧Below w.heap.size w w':=by
 refine tag_place_letter.calls _ _ _ _ w ?_
 have hw:wrap64 ((p:Int)+(n:Int))=((p+n:Nat):Int):=by unfold wrap64;omega
 unfold tag_place_letter.f
 rw [hw,size_B]
 by_cases h:p+n<s.length
 · rw [if_pos (by omega),if_pos (by omega)]
   have hd:=List.drop_eq_getElem_cons h
   rw [bt_drop s (p+n) _ _ hd,letter_f,hd]
   rfl
 · rw [if_neg (by omega),List.drop_eq_nil_of_le (by omega)]
   rfl
noncomputable def tgD:DataW Unit:=((DataW.map []).put (.int .i64 1) (.lit (.string [60]))).put (.int .i64 2) (.lit (.string [60,47]))
theorem tgD_at {x:Int} {c:ByteArray} (h:∀ z,tgD.atKey (.int .i64 x) z = .lit (.string c.data.toList)):(x=1∧c=⟨#[60]⟩)∨(x=2∧c=⟨#[60,47]⟩):=by
 have m0:IsMap (DataW.map []:DataW Unit):=⟨[],rfl⟩
 have hc:∀ l:List UInt8,(DataW.lit (.string l):DataW Unit) = .lit (.string c.data.toList)→c=B l:=fun l e=>by
  have e2:l=c.data.toList:=by injection e with e;injection e
  rw [e2];rfl
 unfold tgD at h
 by_cases h2:x=2
 · subst h2
   have:=h (.map [])
   rw [atKey_put_same (m0.put _ _) (show WideAt.IsKeyLit (.int _ _) from trivial)] at this
   exact .inr ⟨rfl,hc _ this⟩
 · have n2:(Lit.int .i64 x)≠.int .i64 2:=fun e=>h2 (by injection e)
   by_cases h1:x=1
   · subst h1
     have:=h (.map [])
     rw [atKey_put_other n2,atKey_put_same m0 (show WideAt.IsKeyLit (.int _ _) from trivial)] at this
     exact .inl ⟨rfl,hc _ this⟩
   · have n1:(Lit.int .i64 x)≠.int .i64 1:=fun e=>h1 (by injection e)
     have:=h (.map [])
     rw [atKey_put_other n2,atKey_put_other n1] at this
     cases this
theorem tgD_has:Maps.has tgD (.int .i64 1)=true∧Maps.has tgD (.int .i64 2)=true:=by
 have m0:IsMap (DataW.map []:DataW Unit):=⟨[],rfl⟩
 unfold tgD
 refine ⟨?_,has_put_same (m0.put _ _) (show WideAt.IsKeyLit (.int _ _) from trivial) _⟩
 rw [has_put_other (fun e=>by injection e with _ e;cases e)]
 exact has_put_same m0 (show WideAt.IsKeyLit (.int _ _) from trivial) _
def tgT (l:List UInt8) (n:Nat):Bool:=if n=1 then begR l [60]&&letAt (l.drop 1) else begR l [60,47]&&letAt (l.drop 2)
theorem low_eq (c:UInt8):(lowB c == 60)=(c == 60)∧(lowB c == 47)=(c == 47):=by
 have:∀ n:Fin 256,(lowB (UInt8.ofNat n.val) == 60)=(UInt8.ofNat n.val == 60)∧(lowB (UInt8.ofNat n.val) == 47)=(UInt8.ofNat n.val == 47):=by decide +kernel
 have h:=this ⟨c.toNat,c.toNat_lt⟩
 simpa using h
theorem tagN_cons (a c:UInt8) (r:List UInt8):tagN (a::c::r)=if a=60 then (if isLetB c=true then 1 else if c=47 then (match r with | []=>0|d::_=>if isLetB d=true then 2 else 0) else 0) else 0:=rfl
theorem tgT_1 {l:List UInt8} (h:tgT l 1=true):tagN l=1:=by
 unfold tgT at h
 rw [if_pos rfl,Bool.and_eq_true] at h
 obtain ⟨h1,h2⟩:=h
 match l,h1,h2 with
 | [],h1,_=>cases h1
 | [c],_,h2=>cases h2
 | c::d::r,h1,h2 =>
   rw [begR,(low_eq c).1,Bool.and_eq_true,beq_iff_eq] at h1
   change isLetB d=true at h2
   rw [tagN_cons,if_pos h1.1,if_pos h2]
theorem tgT_2 {l:List UInt8} (h:tgT l 2=true):tagN l=2:=by
 unfold tgT at h
 rw [if_neg (by decide),Bool.and_eq_true] at h
 obtain ⟨h1,h2⟩:=h
 match l,h1,h2 with
 | [],h1,_=>cases h1
 | [c],_,h2=>cases h2
 | [c,d],_,h2=>cases h2
 | c::d::e::r,h1,h2 =>
   rw [begR,begR,(low_eq c).1,(low_eq d).2,Bool.and_eq_true,Bool.and_eq_true,beq_iff_eq,beq_iff_eq] at h1
   change isLetB e=true at h2
   obtain ⟨rfl,rfl,_⟩:=h1
   rw [tagN_cons,if_pos rfl,if_neg (by decide),if_pos rfl]
   exact if_pos h2
theorem tgT_0 {l:List UInt8} (h:tgT l 1=false) (h2:tgT l 2=false):tagN l=0:=by
 unfold tgT at h h2
 rw [if_pos rfl] at h
 rw [if_neg (by decide)] at h2
 match l,h,h2 with
 | [],_,_=>rfl
 | [c],_,_=>rfl
 | c::d::r,h,h2 =>
   rw [begR,(low_eq c).1] at h
   rw [begR,begR,(low_eq c).1,(low_eq d).2] at h2
   change (c == 60&&begR (d::r) []&&isLetB d)=false at h
   rw [tagN_cons]
   by_cases hc:c=60
   · subst hc
     rw [if_pos rfl]
     have hd:isLetB d=false:=by simpa [begR] using h
     rw [if_neg (by rw [hd];decide)]
     by_cases h47:d=47
     · subst h47
       rw [if_pos rfl]
       cases r with
       | nil=>rfl
       | cons e r =>
         have he:isLetB e=false:=by simpa [begR,letAt] using h2
         simp only [he]
         rfl
     · rw [if_neg h47]
   · rw [if_neg hc]
set_option maxRecDepth 100000 in
set_option maxHeartbeats 4000000 in
theorem name_c (s:List UInt8) (p:Nat) (hs:s.length≤100000) (hp:p≤s.length) (w:World) :
  Calls Tryz.prog 123 #[.agg #[.string (B s),.int .i64 (p:Int)]] w fun e w'=>e = .returned (.int .i64 ((tagN (s.drop p):Nat):Int))∧Below w.heap.size w w':=by
 have BG:=Lib.hid (fun low (hl:low.length≤100) W=>nbegins_c s low p (by omega) (by omega) hp W)
 have LT:=Lib.hid (fun n (hn:n≤2) W=>letter_at s p n (by omega) hp hn W)
 have hT1:=tgT_1 (l:=s.drop p)
 have hT2:=tgT_2 (l:=s.drop p)
 have hT0:=tgT_0 (l:=s.drop p)
 have B1:=Lib.hid (BG.out [60] (by decide))
 have B2:=Lib.hid (BG.out [60,47] (by decide))
 have L1:=Lib.hid (LT.out 1 (by decide))
 have L2:=Lib.hid (LT.out 2 (by decide))
 unfold tgT at hT1 hT2 hT0
 rw [if_pos rfl,List.drop_drop] at hT1 hT0
 rw [if_neg (by decide),List.drop_drop] at hT2 hT0
 obtain ⟨x1,e1⟩:∃ x,begR (s.drop p) [60]=x:=⟨_,rfl⟩
 obtain ⟨x2,e2⟩:∃ x,begR (s.drop p) [60,47]=x:=⟨_,rfl⟩
 obtain ⟨y1,f1⟩:∃ x,letAt (s.drop (p+1))=x:=⟨_,rfl⟩
 obtain ⟨y2,f2⟩:∃ x,letAt (s.drop (p+2))=x:=⟨_,rfl⟩
 rw [e1,f1] at hT1 hT0
 rw [e2,f2] at hT2 hT0
 rw [e1] at B1
 rw [e2] at B2
 rw [f1] at L1
 rw [f2] at L2
 obtain ⟨T,hT⟩:∃ T,tagN (s.drop p)=T:=⟨_,rfl⟩
 rw [hT] at hT1 hT2 hT0 ⊢
 have HT1:=Lib.hid hT1
 have HT2:=Lib.hid hT2
 have HT0:=Lib.hid hT0
 clear hT1 hT2 hT0 BG LT
 obtain ⟨a,ha⟩:∃ a,B s=a:=⟨_,rfl⟩
 rw [ha] at B1 B2 L1 L2 ⊢
 clear ha e1 e2 f1 f2 hT
 have law3:Keyed Tryz.prog 3:=int_keyed Tryz.underlying3
 have hmm:=@run_makeMap Tryz.prog
 have hown0:((w.alloc (.cells #[.string a,.int .i64 (p:Int)] 155)).alloc (.map #[] 0)).ownsMap Tryz.prog 3 (plainElem (H:=Unit) Tryz.prog 9) (w.heap.size+1) 0 (.map []):=by
  have:=World.ownsMap_made (w.alloc (.cells #[.string a,.int .i64 (p:Int)] 155)) Tryz.prog 3 (plainElem (H:=Unit) Tryz.prog 9)
  simpa using this
 go_enter Tryz.func123,Tryz.ntmps123
 go_wp2_with (first
  | (refine wp_insert_own _ rfl (.tmp 5) (.const (.int .i64 1)) (.const (.string ⟨#[60]⟩)) 191 rfl 3 9 law3 Tryz.underlying191 (plainElem (H:=Unit) Tryz.prog 9) (w.heap.size+1) 0 _ rfl hown0 (by decide) _ _ (.int .i64 1) rfl rfl (keyOf_int_mk Tryz.underlying3 (by decide)) _ [] (plainElem_string Tryz.underlying9 (by decide)) ?_;intro w2 hown2 hg2)
  | (refine wp_insert_own _ rfl (.tmp 5) (.const (.int .i64 2)) (.const (.string ⟨#[60,47]⟩)) 191 rfl 3 9 law3 Tryz.underlying191 (plainElem (H:=Unit) Tryz.prog 9) (w.heap.size+1) 1 _ rfl hown2 (by decide) _ _ (.int .i64 2) rfl rfl (keyOf_int_mk Tryz.underlying3 (by decide)) _ [] (plainElem_string Tryz.underlying9 (by decide)) ?_;intro w3 hown3 hg3)
  | (at_range;refine wpList_range_own _ rfl _ 191 rfl 3 9 law3 Tryz.underlying191 _ (w.heap.size+1) 2 _ rfl hown3 ?_;intro w0 hrg0 hg0 hs0)
  | go_in)
 try go_frame
 have hb0:((w.alloc (.cells #[.string a,.int .i64 (p:Int)] 155)).alloc (.map #[] 0)).heap[w.heap.size]? = some (.cells #[.string a,.int .i64 (p:Int)] 155 (0,0)):=by
  have h1:(w.alloc (.cells #[.string a,.int .i64 (p:Int)] 155)).heap[w.heap.size]? = some (.cells #[.string a,.int .i64 (p:Int)] 155 (0,0)):=Array.getElem?_push_size
  exact (((Below.refl _ _).alloc (Nat.le_refl _) _).block w.heap.size (blk_lt h1)).trans h1
 have hb2:=blk_grown hb0 hg2 (by simp)
 have hb3:=blk_grown hb2 hg3 (by simp)
 have hb4:=Lib.hid (blk_grown hb3 hg0 (by simp))
 have hB1:Below w.heap.size w ((w.alloc (.cells #[.string a,.int .i64 (p:Int)] 155)).alloc (.map #[] 0)):=below_alloc (below_alloc (Below.refl _ _) _) _
 have hB2:=hB1.grown hg2 hB1.size (fun j hj=>by cases hj;exact Nat.le_succ _)
 have hB3:=hB2.grown hg3 hB2.size (fun j hj=>by cases hj;exact Nat.le_succ _)
 have hB4:=Lib.hid (hB3.grown hg0 hB3.size (fun j hj=>by cases hj))
 have HRG:=Lib.hid hrg0
 have hz:=hB3.size
 obtain ⟨r,hr⟩:∃ r,w3.heap.size=r:=⟨_,rfl⟩
 have hbr:w.heap.size+1<r:=by rw [← hr];exact hown3.lt
 rw [hr] at HRG hz ⊢
 clear hown0 hown2 hown3 hg2 hg3 hg0 hs0 hrg0 hb0 hb2 hb3 hB1 hB2 hB3 hr hmm
 go_loopw [3,4] (fun _ _ wr => ∃ (left:Lit→Bool) (cnt:Nat),Hid (wr.ranges Tryz.prog 3 (plainElem (H:=Unit) Tryz.prog 9) (w.heap.size+1) r 2 tgD left cnt)∧Hid (wr.heap[w.heap.size]? = some (.cells #[.string a,.int .i64 (p:Int)] 155 (0,0)))∧Hid (Below w.heap.size w wr)∧Hid ((left (.int .i64 1)=false→(x1&&y1)=false)∧(left (.int .i64 2)=false→(x2&&y2)=false)))
  (fun _ _ wr=>wr.rangeLeft (w.heap.size+1) r)
 case atStart =>
  exact ⟨_,_,HRG,hb4,hB4,Lib.hid ⟨fun h=>absurd (tgD_has.1.symm.trans h) (by decide),fun h=>absurd (tgD_has.2.symm.trans h) (by decide)⟩⟩
 case round =>
  obtain ⟨left,cnt,hrg,hbk,hB,hI⟩:=hrel
  go_wp2_with (first
   | (at_next;refine wpList_next_ranges_is _ rfl _ rfl 3 9 .i64 law3 Tryz.underlying3 Tryz.underlying9 (w.heap.size+1) r 2 _ _ _ rfl hrg.out ?_ ?_)
   | go_in)
  · intro hc0 hl0
    go_wp2
    go_ret
    exact ⟨by rw [HT0.out (hI.out.1 (hl0 _)) (hI.out.2 (hl0 _))];rfl,hB.out⟩
  · intro x c w1 cnt1 hwx hwc hlx hat hrg1 hlt hg1 hs1 hen
    have hbk1:=Lib.hid (blk_grown hbk.out hg1 (by simp;omega))
    have hB1:=Lib.hid (hB.out.grown hg1 hB.out.size (fun j hj=>by cases hj;omega))
    have HR1:=Lib.hid hrg1
    have hc0:w1.cell? ⟨w.heap.size,0,none⟩=some (.string a):=(blk_cell hbk1.out 0).trans rfl
    have hc1:w1.cell? ⟨w.heap.size,1,none⟩=some (.int .i64 (p:Int)):=(blk_cell hbk1.out 1).trans rfl
    have HG1:Hid (cnt1<cnt):=Lib.hid hlt
    have HLX:=Lib.hid hlx
    have hkk:(∀ y,(left (.int .i64 y) && !(Lit.int .i64 y).sameKey (.int .i64 x))=false→left (.int .i64 y)=false∨y=x):=by
     intro y hy
     rw [Bool.and_eq_false_iff,Bool.not_eq_false'] at hy
     rcases hy with hy|hy
     · exact .inl hy
     · have:=WideAt.sameKey_eq hy
       injection this with _ e
       exact .inr e
    have HKK:=Lib.hid hkk
    have hrgl:=Lib.hid hrg.out.left_eq
    rcases tgD_at (c:=c) hat with ⟨rfl,rfl⟩|⟨rfl,rfl⟩
    · clear hat hwx hwc hlx hrg1 hg1 hs1 hlt hkk hrg hbk
      have HLK:Hid (∀ y,(left (.int .i64 y) && !(Lit.int .i64 y).sameKey (.int .i64 1))=false→left (.int .i64 y)=false∨y=1):=HKK
      clear HKK
      cases x1 with
      | false =>
        go_wp2_with fail
        refine (B1.out _).mono ?_
        rintro e w2 ⟨rfl,hb⟩
        have HR2:=Lib.hid (HR1.out.kept (grown_of_below hb none) (by simp) (by simp))
        have HB2:=Lib.hid (hB1.out.trans (hb.mono hB1.out.size))
        have HK2:=Lib.hid ((hb.block _ (blk_lt hbk1.out)).trans hbk1.out)
        clear hb HR1 hbk1 hB1
        go_wp2_with fail
        refine ⟨⟨_,_,HR2,HK2,HB2,Lib.hid ⟨fun h => ?_,fun h => ?_⟩⟩,?_⟩
        · rcases HLK.out _ h with h|h
          · exact hI.out.1 h
          · first|rfl|exact absurd h (by decide)
        · rcases HLK.out _ h with h|h
          · exact hI.out.2 h
          · first|rfl|exact absurd h (by decide)
        · rw [HR2.out.left_eq,hrgl.out];exact HG1.out
      | true =>
        have hc0':=hc0
        go_wp2_with fail
        refine (B1.out _).mono ?_
        rintro e w2 ⟨rfl,hb⟩
        have HR2:=Lib.hid (HR1.out.kept (grown_of_below hb none) (by simp) (by simp))
        have HB2:=Lib.hid (hB1.out.trans (hb.mono hB1.out.size))
        have HK2:=Lib.hid ((hb.block _ (blk_lt hbk1.out)).trans hbk1.out)
        have hd0:w2.cell? ⟨w.heap.size,0,none⟩=some (.string a):=(blk_cell HK2.out 0).trans rfl
        have hd1:w2.cell? ⟨w.heap.size,1,none⟩=some (.int .i64 (p:Int)):=(blk_cell HK2.out 1).trans rfl
        clear hb HR1 hbk1 hB1 hc0 hc1
        go_wp2_with fail
        refine (L1.out _).mono ?_
        rintro e w3 ⟨rfl,hb⟩
        replace HR2:=Lib.hid (HR2.out.kept (grown_of_below hb none) (by simp) (by simp))
        replace HB2:=Lib.hid (HB2.out.trans (hb.mono HB2.out.size))
        replace HK2:=Lib.hid ((hb.block _ (blk_lt HK2.out)).trans HK2.out)
        clear hb hd0 hd1
        cases y1 with
        | true =>
          go_wp2_with fail
          go_ret
          exact ⟨by rw [HT1.out rfl];rfl,HB2.out⟩
        | false =>
          go_wp2_with fail
          refine ⟨⟨_,_,HR2,HK2,HB2,Lib.hid ⟨fun h => ?_,fun h => ?_⟩⟩,?_⟩
          · rcases HLK.out _ h with h|h
            · exact hI.out.1 h
            · first|rfl|exact absurd h (by decide)
          · rcases HLK.out _ h with h|h
            · exact hI.out.2 h
            · first|rfl|exact absurd h (by decide)
          · rw [HR2.out.left_eq,hrgl.out];exact HG1.out
    · clear hat hwx hwc hlx hrg1 hg1 hs1 hlt hkk hrg hbk
      have HLK:Hid (∀ y,(left (.int .i64 y) && !(Lit.int .i64 y).sameKey (.int .i64 2))=false→left (.int .i64 y)=false∨y=2):=HKK
      clear HKK
      cases x2 with
      | false =>
        go_wp2_with fail
        refine (B2.out _).mono ?_
        rintro e w2 ⟨rfl,hb⟩
        have HR2:=Lib.hid (HR1.out.kept (grown_of_below hb none) (by simp) (by simp))
        have HB2:=Lib.hid (hB1.out.trans (hb.mono hB1.out.size))
        have HK2:=Lib.hid ((hb.block _ (blk_lt hbk1.out)).trans hbk1.out)
        clear hb HR1 hbk1 hB1
        go_wp2_with fail
        refine ⟨⟨_,_,HR2,HK2,HB2,Lib.hid ⟨fun h => ?_,fun h => ?_⟩⟩,?_⟩
        · rcases HLK.out _ h with h|h
          · exact hI.out.1 h
          · first|rfl|exact absurd h (by decide)
        · rcases HLK.out _ h with h|h
          · exact hI.out.2 h
          · first|rfl|exact absurd h (by decide)
        · rw [HR2.out.left_eq,hrgl.out];exact HG1.out
      | true =>
        have hc0':=hc0
        go_wp2_with fail
        refine (B2.out _).mono ?_
        rintro e w2 ⟨rfl,hb⟩
        have HR2:=Lib.hid (HR1.out.kept (grown_of_below hb none) (by simp) (by simp))
        have HB2:=Lib.hid (hB1.out.trans (hb.mono hB1.out.size))
        have HK2:=Lib.hid ((hb.block _ (blk_lt hbk1.out)).trans hbk1.out)
        have hd0:w2.cell? ⟨w.heap.size,0,none⟩=some (.string a):=(blk_cell HK2.out 0).trans rfl
        have hd1:w2.cell? ⟨w.heap.size,1,none⟩=some (.int .i64 (p:Int)):=(blk_cell HK2.out 1).trans rfl
        clear hb HR1 hbk1 hB1 hc0 hc1
        go_wp2_with fail
        refine (L2.out _).mono ?_
        rintro e w3 ⟨rfl,hb⟩
        replace HR2:=Lib.hid (HR2.out.kept (grown_of_below hb none) (by simp) (by simp))
        replace HB2:=Lib.hid (HB2.out.trans (hb.mono HB2.out.size))
        replace HK2:=Lib.hid ((hb.block _ (blk_lt HK2.out)).trans HK2.out)
        clear hb hd0 hd1
        cases y2 with
        | true =>
          go_wp2_with fail
          go_ret
          exact ⟨by rw [HT2.out rfl];rfl,HB2.out⟩
        | false =>
          go_wp2_with fail
          refine ⟨⟨_,_,HR2,HK2,HB2,Lib.hid ⟨fun h => ?_,fun h => ?_⟩⟩,?_⟩
          · rcases HLK.out _ h with h|h
            · exact hI.out.1 h
            · first|rfl|exact absurd h (by decide)
          · rcases HLK.out _ h with h|h
            · exact hI.out.2 h
            · first|rfl|exact absurd h (by decide)
          · rw [HR2.out.left_eq,hrgl.out];exact HG1.out
end Go.Proofs.YtcecjoaeolglbaaGreatDoor.Hand
end

section
namespace Go.Proofs.YtcecjoaeolglbaaGreatDoor.Hand
open Go Go.RowKit
def strings_IndexByte.f (a0:ByteArray) (a1:Int):Option Int:=some (Lib.indexByte a0.data.toList a1.toNat.toUInt8)
theorem strings_IndexByte.calls (a0:ByteArray) (a1:Int) (r:Int) (w:World) (h:strings_IndexByte.f a0 a1=some r) :
  Calls Tryz.prog 86 #[.string a0,.int .u8 a1] w fun e w'=>e = .returned (.int .i64 r)∧Below w.heap.size w w':=by
 obtain rfl:=Option.some.inj h
 exact (Tryz.strings_IndexByte a0 a1 w).mono fun e w' h=>⟨h.1,by rw [h.2];exact Below.refl _ _⟩
end Go.Proofs.YtcecjoaeolglbaaGreatDoor.Hand
end

section
namespace Go.Proofs.YtcecjoaeolglbaaGreatDoor.Sx
open Go.RowKit Go.Proofs.YtcecjoaeolglbaaGreatDoor.K0 Go.Proofs.YtcecjoaeolglbaaGreatDoor.Hand Go.Proofs.YtcecjoaeolglbaaGreatDoor.Sa Go.Proofs.YtcecjoaeolglbaaGreatDoorW.PrintWords Go.Proofs.YtcecjoaeolglbaaGreatDoorW.PrintLast Go.Proofs.YtcecjoaeolglbaaGreatDoorW.PrintMore
attribute [local go_sem] max2_int min2_int max_two min_two max_three min_three max_four min_four  
set_option linter.unusedVariables false
set_option linter.unusedSimpArgs false
def IsS195 (w0 W:World) (g:Nat) (f0:ByteArray) (f1:Int):Prop:=W.heap[g]? = some (.cells #[.string f0,.int .i64 f1] 195 (0,0))∧w0.heap.size≤g
theorem IsS195.grown {w0 W:World} {g:Nat} {f0:ByteArray} {f1:Int} {W1:World} {row:Option Nat} (h:IsS195 w0 W g f0 f1) (hw:W.grownBy W1 row) (hne:some g≠row):IsS195 w0 W1 g f0 f1:=by
 obtain ⟨hb,hg⟩:=h
 exact ⟨blk_grown hb hw hne,hg⟩
theorem IsS195.below {w0 W:World} {g:Nat} {f0:ByteArray} {f1:Int} {W1:World} (h:IsS195 w0 W g f0 f1) (hw:Below W.heap.size W W1):IsS195 w0 W1 g f0 f1:=h.grown (grown_of_below hw none) (by simp)
theorem IsS195.alloc {w0 W:World} {g:Nat} {f0:ByteArray} {f1:Int} (h:IsS195 w0 W g f0 f1) (o:Obj):IsS195 w0 (W.alloc o) g f0 f1:=h.below (below_alloc (Below.refl _ _) o)
theorem IsS195.drewN {w0 W:World} {g:Nat} {f0:ByteArray} {f1:Int} (h:IsS195 w0 W g f0 f1) (m:Nat):IsS195 w0 (W.drewN m) g f0 f1:=h
theorem IsS195.drew {w0 W:World} {g:Nat} {f0:ByteArray} {f1:Int} (h:IsS195 w0 W g f0 f1):IsS195 w0 W.drew g f0 f1:=h
theorem IsS195.ge {w0 W:World} {g:Nat} {f0:ByteArray} {f1:Int} (h:IsS195 w0 W g f0 f1):w0.heap.size≤g:=by
 obtain ⟨hb,hg⟩:=h
 exact hg
theorem IsS195.far {w0 W:World} {g:Nat} {f0:ByteArray} {f1:Int} {p:Addr} (h:IsS195 w0 W g f0 f1) (hne:g≠p.block) (u:Value):IsS195 w0 (W.setCell p u) g f0 f1:=by
 obtain ⟨hb,hg⟩:=h
 exact ⟨blk_far hb hne u,hg⟩
theorem cellS195_0 {W:World} {g:Nat} {f0:ByteArray} {f1:Int} (h:W.heap[g]? = some (.cells #[.string f0,.int .i64 f1] 195 (0,0))):W.cell? ⟨g,0,none⟩=some (.string f0):=(blk_cell h 0).trans rfl
theorem IsS195.set_0 {w0 W:World} {g:Nat} {f0:ByteArray} {f1:Int} (h:IsS195 w0 W g f0 f1) (x:ByteArray):IsS195 w0 (W.setCell ⟨g,0,none⟩ (.string x)) g x f1:=by
 obtain ⟨hb,hg⟩:=h
 exact ⟨by simpa using blk_set hb 0 (.string x),hg⟩
theorem cellS195_1 {W:World} {g:Nat} {f0:ByteArray} {f1:Int} (h:W.heap[g]? = some (.cells #[.string f0,.int .i64 f1] 195 (0,0))):W.cell? ⟨g,1,none⟩=some (.int .i64 f1):=(blk_cell h 1).trans rfl
theorem IsS195.set_1 {w0 W:World} {g:Nat} {f0:ByteArray} {f1:Int} (h:IsS195 w0 W g f0 f1) (x:Int):IsS195 w0 (W.setCell ⟨g,1,none⟩ (.int .i64 x)) g f0 x:=by
 obtain ⟨hb,hg⟩:=h
 exact ⟨by simpa using blk_set hb 1 (.int .i64 x),hg⟩
theorem IsS195.new (w0 W:World) (f0:ByteArray) (f1:Int) (hB:Below w0.heap.size w0 W):IsS195 w0 (W.alloc (.cells #[.string f0,.int .i64 f1] 195)) W.heap.size f0 f1:=⟨by simpa using heap_alloc_new W _,hB.size⟩
def attrs_reader_spaces.l0:Nat→ByteArray→Int→Option (ByteArray×Int)
 | 0,_,_=>none
 | k+1,x1000,x1001=>if x1001<(x1000.size:Int) then (if 0≤x1001 then ((sign_Space.f (bt x1000 x1001)).bind fun t101=>(if t101=true then (attrs_reader_spaces.l0 k x1000 (wrap64 (x1001+1))) else (some (x1000,x1001)))) else (none)) else (some (x1000,x1001))
def attrs_reader_spaces.f (k:Nat) (s0_0:ByteArray) (s0_1:Int):Option (ByteArray×Int):=attrs_reader_spaces.l0 k s0_0 s0_1
set_option maxHeartbeats 8000000 in
set_option maxRecDepth 100000 in
theorem attrs_reader_spaces.calls (k:Nat) (g:Nat) (s0_0:ByteArray) (s0_1:Int) (r1:ByteArray) (r2:Int) (w0 w:World) (hI:IsS195 w0 w g s0_0 s0_1) (hB:Below w0.heap.size w0 w) (h:attrs_reader_spaces.f k s0_0 s0_1=some (r1,r2)) :
  Calls Tryz.prog 168 #[.pointer (some ⟨g,0,none⟩)] w fun e w'=>e = .returned (.tuple #[])∧IsS195 w0 w' g r1 r2∧Below w0.heap.size w0 w'∧KeepBut w w' g none:=by
 have HI0:=Aside0.mk hI
 have HK:=Aside0.mk (KeepBut.refl w g none)
 have HL:=Aside0.mk hB.size
 clear hI
 have HW0:=Aside0.mk hB.size
 have HB:=Aside0.mk hB
 clear hB
 have H:(attrs_reader_spaces.l0 k s0_0 s0_1)=some (r1,r2):=h
 clear h
 have H':=Aside0.mk H
 clear H
 go_enter Tryz.func168,Tryz.ntmps168
 go_wp2
 repeat (go_quiet (fail);try go_wp2)
 go_loopg [] k (fun kq w' => ∃ (x1001_1:Int),Aside0 (attrs_reader_spaces.l0 kq s0_0 x1001_1=some (r1,r2))∧Aside0 (kq≤k)∧Aside0 (IsS195 w0 w' g s0_0 x1001_1)∧Aside0 (KeepBut w w' g none)∧Aside0 (Below w0.heap.size w0 w'))
 case atStart=>exact ⟨(s0_1),H',⟨Nat.le_refl _⟩,⟨by repeat (first | (with_reducible first|exact HI0.out|apply IsS195.alloc|apply IsS195.drewN|apply IsS195.drew|apply IsS195.set_0|apply IsS195.set_1)|exact HI0.out)⟩,⟨by repeat (first | (with_reducible first|exact HK.out|apply KeepBut.set_|apply keep_drewN|apply keep_drew|apply keep_alloc)|exact HK.out)⟩,⟨by repeat (first | (with_reducible first|exact HB.out|apply below_alloc|apply pw_below_drewN|apply below_drew1|refine below_set ?_ (IsS195.ge HI0.out))|exact HB.out)⟩⟩
 case round =>
  clear H'
  try clear c1
  obtain ⟨x1001_1,HA,HK1,HI0,HK,HB⟩:=hrel
  cases gk with
  | zero=>exact absurd HA.out (by simp [attrs_reader_spaces.l0])
  | succ k1 =>
    have H:=HA.out
    clear HA
    simp only [attrs_reader_spaces.l0] at H
    by_cases c2:x1001_1<(s0_0.size:Int)
    · rw [if_pos c2] at H
      have c2b0:decide (x1001_1<(s0_0.size:Int))=true:=decide_eq_true c2
      clear c2
      by_cases c3:0≤x1001_1
      · rw [if_pos c3] at H
        have c3b0:decide (0≤x1001_1)=true:=decide_eq_true c3
        clear c3
        replace H:=Option.bind_eq_some_iff.mp H
        obtain ⟨t101,A50,H⟩:=H
        replace H:(if t101=true then (attrs_reader_spaces.l0 k1 s0_0 (wrap64 (x1001_1+1))) else (some (s0_0,x1001_1)))=some (r1,r2):=H
        have A5:=Aside0.mk A50
        clear A50
        by_cases c6:t101=true
        · subst c6
          have H1:(attrs_reader_spaces.l0 k1 s0_0 (wrap64 (x1001_1+1)))=some (r1,r2):=by rw [if_pos rfl] at H;exact H
          clear H
          have H:=H1
          clear H1
          have H':=Aside0.mk H
          clear H
          obtain ⟨HGz7,hgz7⟩:=HI0.out
          have hcz7_0:=cellS195_0 HGz7
          have hcz7_1:=cellS195_1 HGz7
          have hfz7_0:=blk_frozen HGz7 0
          have hfz7_1:=blk_frozen HGz7 1
          clear HGz7 hgz7
          have p4:0≤(x1001_1:Int):=of_decide_eq_true (by first | (with_reducible assumption)|assumption)
          have q4:x1001_1<(s0_0.size:Int):=of_decide_eq_true (by first | (with_reducible assumption)|assumption)
          have hx4:=bt_at s0_0 x1001_1
          replace p4:=eq_true p4
          replace q4:=eq_true q4
          go_wp2_with (first | (go_at_call 124;(with_reducible refine (sign_Space.calls (bt s0_0 x1001_1) true _ A5.out).mono ?_);rintro e w' ⟨rfl,⟨nd,rfl⟩⟩;(try first|exact ⟨rfl,_,World.drewN_drewN _ _ _⟩|exact ⟨rfl,_,Eq.trans (World.drewN_drewN _ _ _) (congrArg (World.drewN _) (Nat.add_assoc _ _ _))⟩)))
          repeat (go_quiet (first | (go_at_call 124;(with_reducible refine (sign_Space.calls (bt s0_0 x1001_1) true _ A5.out).mono ?_);rintro e w' ⟨rfl,⟨nd,rfl⟩⟩;(try first|exact ⟨rfl,_,World.drewN_drewN _ _ _⟩|exact ⟨rfl,_,Eq.trans (World.drewN_drewN _ _ _) (congrArg (World.drewN _) (Nat.add_assoc _ _ _))⟩)));try go_wp2_with (first | (go_at_call 124;(with_reducible refine (sign_Space.calls (bt s0_0 x1001_1) true _ A5.out).mono ?_);rintro e w' ⟨rfl,⟨nd,rfl⟩⟩;(try first|exact ⟨rfl,_,World.drewN_drewN _ _ _⟩|exact ⟨rfl,_,Eq.trans (World.drewN_drewN _ _ _) (congrArg (World.drewN _) (Nat.add_assoc _ _ _))⟩))))
          go_roundg k1
          case measure=>have:=HK1.out;omega
          case rel=>exact ⟨(wrap64 (x1001_1+1)),H',⟨by have:=HK1.out;omega⟩,⟨by repeat (first | (with_reducible first|exact HI0.out|apply IsS195.alloc|apply IsS195.drewN|apply IsS195.drew|apply IsS195.set_0|apply IsS195.set_1)|exact HI0.out)⟩,⟨by repeat (first | (with_reducible first|exact HK.out|apply KeepBut.set_|apply keep_drewN|apply keep_drew|apply keep_alloc)|exact HK.out)⟩,⟨by repeat (first | (with_reducible first|exact HB.out|apply below_alloc|apply pw_below_drewN|apply below_drew1|refine below_set ?_ (IsS195.ge HI0.out))|exact HB.out)⟩⟩
        · replace c6:=Bool.eq_false_iff.mpr c6
          subst c6
          have H1:(some (s0_0,x1001_1))=some (r1,r2):=by rw [if_neg (show ¬ (false=true) by decide)] at H;exact H
          clear H
          have H:=H1
          clear H1
          simp only [Option.some.injEq,Prod.mk.injEq] at H
          obtain ⟨rfl,rfl⟩:=H
          obtain ⟨HGz8,hgz8⟩:=HI0.out
          have hcz8_0:=cellS195_0 HGz8
          have hcz8_1:=cellS195_1 HGz8
          have hfz8_0:=blk_frozen HGz8 0
          have hfz8_1:=blk_frozen HGz8 1
          clear HGz8 hgz8
          have p4:0≤(x1001_1:Int):=of_decide_eq_true (by first | (with_reducible assumption)|assumption)
          have q4:x1001_1<(s0_0.size:Int):=of_decide_eq_true (by first | (with_reducible assumption)|assumption)
          have hx4:=bt_at s0_0 x1001_1
          replace p4:=eq_true p4
          replace q4:=eq_true q4
          go_wp2_with (first | (go_at_call 124;(with_reducible refine (sign_Space.calls (bt s0_0 x1001_1) false _ A5.out).mono ?_);rintro e w' ⟨rfl,⟨nd,rfl⟩⟩;(try first|exact ⟨rfl,_,World.drewN_drewN _ _ _⟩|exact ⟨rfl,_,Eq.trans (World.drewN_drewN _ _ _) (congrArg (World.drewN _) (Nat.add_assoc _ _ _))⟩)))
          repeat (go_quiet (first | (go_at_call 124;(with_reducible refine (sign_Space.calls (bt s0_0 x1001_1) false _ A5.out).mono ?_);rintro e w' ⟨rfl,⟨nd,rfl⟩⟩;(try first|exact ⟨rfl,_,World.drewN_drewN _ _ _⟩|exact ⟨rfl,_,Eq.trans (World.drewN_drewN _ _ _) (congrArg (World.drewN _) (Nat.add_assoc _ _ _))⟩)));try go_wp2_with (first | (go_at_call 124;(with_reducible refine (sign_Space.calls (bt s0_0 x1001_1) false _ A5.out).mono ?_);rintro e w' ⟨rfl,⟨nd,rfl⟩⟩;(try first|exact ⟨rfl,_,World.drewN_drewN _ _ _⟩|exact ⟨rfl,_,Eq.trans (World.drewN_drewN _ _ _) (congrArg (World.drewN _) (Nat.add_assoc _ _ _))⟩))))
          first|go_end0 | ((try simp only [Exit.inBlock,Exit.then]);refine bodyPost_ret (results_none rfl _ _ _) rfl ?_)
          exact ⟨by first|rfl | (simp [errW_none,errW_some]<;>rfl) | (simp [*,errW_none,errW_some]<;>rfl),by repeat (first | (with_reducible first|exact HI0.out|apply IsS195.alloc|apply IsS195.drewN|apply IsS195.drew|apply IsS195.set_0|apply IsS195.set_1)|exact HI0.out),by repeat (first | (with_reducible first|exact HB.out|apply below_alloc|apply pw_below_drewN|apply below_drew1|refine below_set ?_ (IsS195.ge HI0.out))|exact HB.out),by repeat (first | (with_reducible first|exact HK.out|apply KeepBut.set_|apply keep_drewN|apply keep_drew|apply keep_alloc)|exact HK.out)⟩
      · rw [if_neg c3] at H
        exact absurd H (by simp)
    · rw [if_neg c2] at H
      have c2b0:decide (x1001_1<(s0_0.size:Int))=false:=decide_eq_false c2
      clear c2
      simp only [Option.some.injEq,Prod.mk.injEq] at H
      obtain ⟨rfl,rfl⟩:=H
      obtain ⟨HGz9,hgz9⟩:=HI0.out
      have hcz9_0:=cellS195_0 HGz9
      have hcz9_1:=cellS195_1 HGz9
      have hfz9_0:=blk_frozen HGz9 0
      have hfz9_1:=blk_frozen HGz9 1
      clear HGz9 hgz9
      go_wp2
      repeat (go_quiet (fail);try go_wp2)
      first|go_end0 | ((try simp only [Exit.inBlock,Exit.then]);refine bodyPost_ret (results_none rfl _ _ _) rfl ?_)
      exact ⟨by first|rfl | (simp [errW_none,errW_some]<;>rfl) | (simp [*,errW_none,errW_some]<;>rfl),by repeat (first | (with_reducible first|exact HI0.out|apply IsS195.alloc|apply IsS195.drewN|apply IsS195.drew|apply IsS195.set_0|apply IsS195.set_1)|exact HI0.out),by repeat (first | (with_reducible first|exact HB.out|apply below_alloc|apply pw_below_drewN|apply below_drew1|refine below_set ?_ (IsS195.ge HI0.out))|exact HB.out),by repeat (first | (with_reducible first|exact HK.out|apply KeepBut.set_|apply keep_drewN|apply keep_drew|apply keep_alloc)|exact HK.out)⟩
def attrs_reader_is.f (s0_0:ByteArray) (s0_1:Int) (a1:Int):Option (Bool×ByteArray×Int):=if s0_1<(s0_0.size:Int) then (if 0≤s0_1 then (some (((bt s0_0 s0_1) == a1),s0_0,s0_1)) else (none)) else (some (false,s0_0,s0_1))
set_option maxHeartbeats 8000000 in
set_option maxRecDepth 100000 in
theorem attrs_reader_is.calls (g:Nat) (s0_0:ByteArray) (s0_1:Int) (a1:Int) (r1:Bool) (r2:ByteArray) (r3:Int) (w0 w:World) (hI:IsS195 w0 w g s0_0 s0_1) (hB:Below w0.heap.size w0 w) (h:attrs_reader_is.f s0_0 s0_1 a1=some (r1,r2,r3)) :
  Calls Tryz.prog 169 #[.pointer (some ⟨g,0,none⟩),.int .u8 a1] w fun e w'=>e = .returned (.bool r1)∧IsS195 w0 w' g r2 r3∧Below w0.heap.size w0 w'∧KeepBut w w' g none:=by
 have HI0:=Aside0.mk hI
 have HK:=Aside0.mk (KeepBut.refl w g none)
 have HL:=Aside0.mk hB.size
 clear hI
 have HW0:=Aside0.mk hB.size
 have HB:=Aside0.mk hB
 clear hB
 have H:(if s0_1<(s0_0.size:Int) then (if 0≤s0_1 then (some (((bt s0_0 s0_1) == a1),s0_0,s0_1)) else (none)) else (some (false,s0_0,s0_1)))=some (r1,r2,r3):=h
 clear h
 by_cases c3:s0_1<(s0_0.size:Int)
 · rw [if_pos c3] at H
   have c3b0:decide (s0_1<(s0_0.size:Int))=true:=decide_eq_true c3
   clear c3
   by_cases c4:0≤s0_1
   · rw [if_pos c4] at H
     have c4b0:decide (0≤s0_1)=true:=decide_eq_true c4
     clear c4
     simp only [Option.some.injEq,Prod.mk.injEq] at H
     obtain ⟨rfl,rfl,rfl⟩:=H
     obtain ⟨HGz6,hgz6⟩:=HI0.out
     have hcz6_0:=cellS195_0 HGz6
     have hcz6_1:=cellS195_1 HGz6
     have hfz6_0:=blk_frozen HGz6 0
     have hfz6_1:=blk_frozen HGz6 1
     clear HGz6 hgz6
     have p5:0≤(s0_1:Int):=of_decide_eq_true (by first | (with_reducible assumption)|assumption)
     have q5:s0_1<(s0_0.size:Int):=of_decide_eq_true (by first | (with_reducible assumption)|assumption)
     have hx5:=bt_at s0_0 s0_1
     replace p5:=eq_true p5
     replace q5:=eq_true q5
     go_enter Tryz.func169,Tryz.ntmps169
     go_wp2
     repeat (go_quiet (fail);try go_wp2)
     go_ret
     exact ⟨by first|rfl | (simp [errW_none,errW_some]<;>rfl) | (simp [*,errW_none,errW_some]<;>rfl),by repeat (first | (with_reducible first|exact HI0.out|apply IsS195.alloc|apply IsS195.drewN|apply IsS195.drew|apply IsS195.set_0|apply IsS195.set_1)|exact HI0.out),by repeat (first | (with_reducible first|exact HB.out|apply below_alloc|apply pw_below_drewN|apply below_drew1|refine below_set ?_ (IsS195.ge HI0.out))|exact HB.out),by repeat (first | (with_reducible first|exact HK.out|apply KeepBut.set_|apply keep_drewN|apply keep_drew|apply keep_alloc)|exact HK.out)⟩
   · rw [if_neg c4] at H
     exact absurd H (by simp)
 · rw [if_neg c3] at H
   have c3b0:decide (s0_1<(s0_0.size:Int))=false:=decide_eq_false c3
   clear c3
   simp only [Option.some.injEq,Prod.mk.injEq] at H
   obtain ⟨rfl,rfl,rfl⟩:=H
   obtain ⟨HGz7,hgz7⟩:=HI0.out
   have hcz7_0:=cellS195_0 HGz7
   have hcz7_1:=cellS195_1 HGz7
   have hfz7_0:=blk_frozen HGz7 0
   have hfz7_1:=blk_frozen HGz7 1
   clear HGz7 hgz7
   go_enter Tryz.func169,Tryz.ntmps169
   go_wp2
   repeat (go_quiet (fail);try go_wp2)
   go_ret
   exact ⟨by first|rfl | (simp [errW_none,errW_some]<;>rfl) | (simp [*,errW_none,errW_some]<;>rfl),by repeat (first | (with_reducible first|exact HI0.out|apply IsS195.alloc|apply IsS195.drewN|apply IsS195.drew|apply IsS195.set_0|apply IsS195.set_1)|exact HI0.out),by repeat (first | (with_reducible first|exact HB.out|apply below_alloc|apply pw_below_drewN|apply below_drew1|refine below_set ?_ (IsS195.ge HI0.out))|exact HB.out),by repeat (first | (with_reducible first|exact HK.out|apply KeepBut.set_|apply keep_drewN|apply keep_drew|apply keep_alloc)|exact HK.out)⟩
def attrs_reader_upTo.l0:Nat→ByteArray→Int→ByteArray→Int→Option (ByteArray×ByteArray×Int)
 | 0,_,_,_,_=>none
 | k+1,x1,x5,x1000,x1001=>if x1001<(x1000.size:Int) then (if 0≤x1001 then ((sign_Space.f (bt x1000 x1001)).bind fun t102=>(if t102=true then (if 0≤x5 then (if x5≤x1001 then (if x1001≤(x1000.size:Int) then (some (x1000.extract (x5:Int).toNat (x1001:Int).toNat,x1000,x1001)) else (none)) else (none)) else (none)) else ((strings_IndexByte.f x1 (bt x1000 x1001)).bind fun t103=>(if t103≥0 then (if 0≤x5 then (if x5≤x1001 then (if x1001≤(x1000.size:Int) then (some (x1000.extract (x5:Int).toNat (x1001:Int).toNat,x1000,x1001)) else (none)) else (none)) else (none)) else (attrs_reader_upTo.l0 k x1 x5 x1000 (wrap64 (x1001+1))))))) else (none)) else (if 0≤x5 then (if x5≤x1001 then (if x1001≤(x1000.size:Int) then (some (x1000.extract (x5:Int).toNat (x1001:Int).toNat,x1000,x1001)) else (none)) else (none)) else (none))
def attrs_reader_upTo.f (k:Nat) (s0_0:ByteArray) (s0_1:Int) (a1:ByteArray):Option (ByteArray×ByteArray×Int):=attrs_reader_upTo.l0 k a1 s0_1 s0_0 (wrap64 (s0_1+1))
set_option maxHeartbeats 8000000 in
set_option maxRecDepth 100000 in
theorem attrs_reader_upTo.calls (k:Nat) (g:Nat) (s0_0:ByteArray) (s0_1:Int) (a1:ByteArray) (r1:ByteArray) (r2:ByteArray) (r3:Int) (w0 w:World) (hI:IsS195 w0 w g s0_0 s0_1) (hB:Below w0.heap.size w0 w) (h:attrs_reader_upTo.f k s0_0 s0_1 a1=some (r1,r2,r3)) :
  Calls Tryz.prog 170 #[.pointer (some ⟨g,0,none⟩),.string a1] w fun e w'=>e = .returned (.string r1)∧IsS195 w0 w' g r2 r3∧Below w0.heap.size w0 w'∧KeepBut w w' g none:=by
 have HI0:=Aside0.mk hI
 have HK:=Aside0.mk (KeepBut.refl w g none)
 have HL:=Aside0.mk hB.size
 clear hI
 have HW0:=Aside0.mk hB.size
 have HB:=Aside0.mk hB
 clear hB
 have H:(attrs_reader_upTo.l0 k a1 s0_1 s0_0 (wrap64 (s0_1+1)))=some (r1,r2,r3):=h
 clear h
 have H':=Aside0.mk H
 clear H
 obtain ⟨HGz3,hgz3⟩:=HI0.out
 have hcz3_0:=cellS195_0 HGz3
 have hcz3_1:=cellS195_1 HGz3
 have hfz3_0:=blk_frozen HGz3 0
 have hfz3_1:=blk_frozen HGz3 1
 clear HGz3 hgz3
 go_enter Tryz.func170,Tryz.ntmps170
 go_wp2
 repeat (go_quiet (fail);try go_wp2)
 go_loopg [] k (fun kq w' => ∃ (x1001_1:Int),Aside0 (attrs_reader_upTo.l0 kq a1 s0_1 s0_0 x1001_1=some (r1,r2,r3))∧Aside0 (kq≤k)∧Aside0 (IsS195 w0 w' g s0_0 x1001_1)∧Aside0 (KeepBut w w' g none)∧Aside0 (Below w0.heap.size w0 w'))
 case atStart=>exact ⟨(wrap64 (s0_1+1)),H',⟨Nat.le_refl _⟩,⟨by repeat (first | (with_reducible first|exact HI0.out|apply IsS195.alloc|apply IsS195.drewN|apply IsS195.drew|apply IsS195.set_0|apply IsS195.set_1)|exact HI0.out)⟩,⟨by repeat (first | (with_reducible first|exact HK.out|apply KeepBut.set_|apply keep_drewN|apply keep_drew|apply keep_alloc)|exact HK.out)⟩,⟨by repeat (first | (with_reducible first|exact HB.out|apply below_alloc|apply pw_below_drewN|apply below_drew1|refine below_set ?_ (IsS195.ge HI0.out))|exact HB.out)⟩⟩
 case round =>
  clear H'
  try clear c1
  try clear p2
  try clear hcz3_0
  try clear hcz3_1
  try clear hfz3_0
  try clear hfz3_1
  obtain ⟨x1001_1,HA,HK1,HI0,HK,HB⟩:=hrel
  cases gk with
  | zero=>exact absurd HA.out (by simp [attrs_reader_upTo.l0])
  | succ k1 =>
    have H:=HA.out
    clear HA
    simp only [attrs_reader_upTo.l0] at H
    by_cases c4:x1001_1<(s0_0.size:Int)
    · rw [if_pos c4] at H
      have c4b0:decide (x1001_1<(s0_0.size:Int))=true:=decide_eq_true c4
      clear c4
      by_cases c5:0≤x1001_1
      · rw [if_pos c5] at H
        have c5b0:decide (0≤x1001_1)=true:=decide_eq_true c5
        clear c5
        replace H:=Option.bind_eq_some_iff.mp H
        obtain ⟨t102,A70,H⟩:=H
        replace H:(if t102=true then (if 0≤s0_1 then (if s0_1≤x1001_1 then (if x1001_1≤(s0_0.size:Int) then (some (s0_0.extract (s0_1:Int).toNat (x1001_1:Int).toNat,s0_0,x1001_1)) else (none)) else (none)) else (none)) else ((strings_IndexByte.f a1 (bt s0_0 x1001_1)).bind fun t103=>(if t103≥0 then (if 0≤s0_1 then (if s0_1≤x1001_1 then (if x1001_1≤(s0_0.size:Int) then (some (s0_0.extract (s0_1:Int).toNat (x1001_1:Int).toNat,s0_0,x1001_1)) else (none)) else (none)) else (none)) else (attrs_reader_upTo.l0 k1 a1 s0_1 s0_0 (wrap64 (x1001_1+1))))))=some (r1,r2,r3):=H
        have A7:=Aside0.mk A70
        clear A70
        by_cases c8:t102=true
        · subst c8
          have H1:(if 0≤s0_1 then (if s0_1≤x1001_1 then (if x1001_1≤(s0_0.size:Int) then (some (s0_0.extract (s0_1:Int).toNat (x1001_1:Int).toNat,s0_0,x1001_1)) else (none)) else (none)) else (none))=some (r1,r2,r3):=by rw [if_pos rfl] at H;exact H
          clear H
          have H:=H1
          clear H1
          by_cases c9:0≤s0_1
          · rw [if_pos c9] at H
            have c9b0:=eq_true c9
            have c9b1:decide (0≤s0_1)=true:=decide_eq_true c9
            clear c9
            by_cases c10:s0_1≤x1001_1
            · rw [if_pos c10] at H
              have c10b0:=eq_true c10
              have c10b1:decide (s0_1≤x1001_1)=true:=decide_eq_true c10
              clear c10
              by_cases c11:x1001_1≤(s0_0.size:Int)
              · rw [if_pos c11] at H
                have c11b0:=eq_true c11
                have c11b1:decide (x1001_1≤(s0_0.size:Int))=true:=decide_eq_true c11
                clear c11
                simp only [Option.some.injEq,Prod.mk.injEq] at H
                obtain ⟨rfl,rfl,rfl⟩:=H
                obtain ⟨HGz12,hgz12⟩:=HI0.out
                have hcz12_0:=cellS195_0 HGz12
                have hcz12_1:=cellS195_1 HGz12
                have hfz12_0:=blk_frozen HGz12 0
                have hfz12_1:=blk_frozen HGz12 1
                clear HGz12 hgz12
                have p6:0≤(x1001_1:Int):=of_decide_eq_true (by first | (with_reducible assumption)|assumption)
                have q6:x1001_1<(s0_0.size:Int):=of_decide_eq_true (by first | (with_reducible assumption)|assumption)
                have hx6:=bt_at s0_0 x1001_1
                replace p6:=eq_true p6
                replace q6:=eq_true q6
                go_wp2_with (first | (go_at_call 124;(with_reducible refine (sign_Space.calls (bt s0_0 x1001_1) true _ A7.out).mono ?_);rintro e w' ⟨rfl,⟨nd,rfl⟩⟩;(try first|exact ⟨rfl,_,World.drewN_drewN _ _ _⟩|exact ⟨rfl,_,Eq.trans (World.drewN_drewN _ _ _) (congrArg (World.drewN _) (Nat.add_assoc _ _ _))⟩)))
                repeat (go_quiet (first | (go_at_call 124;(with_reducible refine (sign_Space.calls (bt s0_0 x1001_1) true _ A7.out).mono ?_);rintro e w' ⟨rfl,⟨nd,rfl⟩⟩;(try first|exact ⟨rfl,_,World.drewN_drewN _ _ _⟩|exact ⟨rfl,_,Eq.trans (World.drewN_drewN _ _ _) (congrArg (World.drewN _) (Nat.add_assoc _ _ _))⟩)));try go_wp2_with (first | (go_at_call 124;(with_reducible refine (sign_Space.calls (bt s0_0 x1001_1) true _ A7.out).mono ?_);rintro e w' ⟨rfl,⟨nd,rfl⟩⟩;(try first|exact ⟨rfl,_,World.drewN_drewN _ _ _⟩|exact ⟨rfl,_,Eq.trans (World.drewN_drewN _ _ _) (congrArg (World.drewN _) (Nat.add_assoc _ _ _))⟩))))
                go_ret
                exact ⟨by first|rfl | (simp [errW_none,errW_some]<;>rfl) | (simp [*,errW_none,errW_some]<;>rfl),by repeat (first | (with_reducible first|exact HI0.out|apply IsS195.alloc|apply IsS195.drewN|apply IsS195.drew|apply IsS195.set_0|apply IsS195.set_1)|exact HI0.out),by repeat (first | (with_reducible first|exact HB.out|apply below_alloc|apply pw_below_drewN|apply below_drew1|refine below_set ?_ (IsS195.ge HI0.out))|exact HB.out),by repeat (first | (with_reducible first|exact HK.out|apply KeepBut.set_|apply keep_drewN|apply keep_drew|apply keep_alloc)|exact HK.out)⟩
              · rw [if_neg c11] at H
                exact absurd H (by simp)
            · rw [if_neg c10] at H
              exact absurd H (by simp)
          · rw [if_neg c9] at H
            exact absurd H (by simp)
        · replace c8:=Bool.eq_false_iff.mpr c8
          subst c8
          have H1:((strings_IndexByte.f a1 (bt s0_0 x1001_1)).bind fun t103=>(if t103≥0 then (if 0≤s0_1 then (if s0_1≤x1001_1 then (if x1001_1≤(s0_0.size:Int) then (some (s0_0.extract (s0_1:Int).toNat (x1001_1:Int).toNat,s0_0,x1001_1)) else (none)) else (none)) else (none)) else (attrs_reader_upTo.l0 k1 a1 s0_1 s0_0 (wrap64 (x1001_1+1)))))=some (r1,r2,r3):=by rw [if_neg (show ¬ (false=true) by decide)] at H;exact H
          clear H
          have H:=H1
          clear H1
          replace H:=Option.bind_eq_some_iff.mp H
          obtain ⟨t103,A130,H⟩:=H
          replace H:(if t103≥0 then (if 0≤s0_1 then (if s0_1≤x1001_1 then (if x1001_1≤(s0_0.size:Int) then (some (s0_0.extract (s0_1:Int).toNat (x1001_1:Int).toNat,s0_0,x1001_1)) else (none)) else (none)) else (none)) else (attrs_reader_upTo.l0 k1 a1 s0_1 s0_0 (wrap64 (x1001_1+1))))=some (r1,r2,r3):=H
          have A13:=Aside0.mk A130
          clear A130
          by_cases c14:t103≥0
          · rw [if_pos c14] at H
            have c14b0:decide (0≤t103)=true:=decide_eq_true c14
            clear c14
            by_cases c15:0≤s0_1
            · rw [if_pos c15] at H
              have c15b0:=eq_true c15
              have c15b1:decide (0≤s0_1)=true:=decide_eq_true c15
              clear c15
              by_cases c16:s0_1≤x1001_1
              · rw [if_pos c16] at H
                have c16b0:=eq_true c16
                have c16b1:decide (s0_1≤x1001_1)=true:=decide_eq_true c16
                clear c16
                by_cases c17:x1001_1≤(s0_0.size:Int)
                · rw [if_pos c17] at H
                  have c17b0:=eq_true c17
                  have c17b1:decide (x1001_1≤(s0_0.size:Int))=true:=decide_eq_true c17
                  clear c17
                  simp only [Option.some.injEq,Prod.mk.injEq] at H
                  obtain ⟨rfl,rfl,rfl⟩:=H
                  obtain ⟨HGz18,hgz18⟩:=HI0.out
                  have hcz18_0:=cellS195_0 HGz18
                  have hcz18_1:=cellS195_1 HGz18
                  have hfz18_0:=blk_frozen HGz18 0
                  have hfz18_1:=blk_frozen HGz18 1
                  clear HGz18 hgz18
                  have p6:0≤(x1001_1:Int):=of_decide_eq_true (by first | (with_reducible assumption)|assumption)
                  have q6:x1001_1<(s0_0.size:Int):=of_decide_eq_true (by first | (with_reducible assumption)|assumption)
                  have hx6:=bt_at s0_0 x1001_1
                  replace p6:=eq_true p6
                  replace q6:=eq_true q6
                  go_wp2_with (first | (go_at_call 124;(with_reducible refine (sign_Space.calls (bt s0_0 x1001_1) false _ A7.out).mono ?_);rintro e w' ⟨rfl,⟨nd,rfl⟩⟩;(try first|exact ⟨rfl,_,World.drewN_drewN _ _ _⟩|exact ⟨rfl,_,Eq.trans (World.drewN_drewN _ _ _) (congrArg (World.drewN _) (Nat.add_assoc _ _ _))⟩)) | (go_at_call 86;(with_reducible refine (strings_IndexByte.calls a1 (bt s0_0 x1001_1) t103 _ A13.out).mono ?_);rintro e w19 ⟨rfl,hb⟩;have n0_:=Aside0.mk (IsS195.below (by repeat (first | (with_reducible first|exact HI0.out|apply IsS195.alloc|apply IsS195.drewN|apply IsS195.drew|apply IsS195.set_0|apply IsS195.set_1)|exact HI0.out)) hb);have n1_:=Aside0.mk (KeepBut.trans (by repeat (first | (with_reducible first|exact HK.out|apply KeepBut.set_|apply keep_drewN|apply keep_drew|apply keep_alloc)|exact HK.out)) (KeepBut.of_below hb g none) (.inl rfl));have n2_:=Aside0.mk (below_step (by repeat (first | (with_reducible first|exact HB.out|apply below_alloc|apply pw_below_drewN|apply below_drew1|refine below_set ?_ (IsS195.ge HI0.out))|exact HB.out)) hb);clear HI0;clear HK;clear HB;have HI0:=n0_;have HK:=n1_;have HB:=n2_;clear n0_ n1_ n2_;(try clear hb);(try clear hb2);(try clear hk);(try clear hi);obtain ⟨HGz20,hgz20⟩:=HI0.out;have hcz20_0:=cellS195_0 HGz20;have hcz20_1:=cellS195_1 HGz20;have hfz20_0:=blk_frozen HGz20 0;have hfz20_1:=blk_frozen HGz20 1;clear HGz20 hgz20))
                  repeat (go_quiet (first | (go_at_call 124;(with_reducible refine (sign_Space.calls (bt s0_0 x1001_1) false _ A7.out).mono ?_);rintro e w' ⟨rfl,⟨nd,rfl⟩⟩;(try first|exact ⟨rfl,_,World.drewN_drewN _ _ _⟩|exact ⟨rfl,_,Eq.trans (World.drewN_drewN _ _ _) (congrArg (World.drewN _) (Nat.add_assoc _ _ _))⟩)) | (go_at_call 86;(with_reducible refine (strings_IndexByte.calls a1 (bt s0_0 x1001_1) t103 _ A13.out).mono ?_);rintro e w19 ⟨rfl,hb⟩;have n0_:=Aside0.mk (IsS195.below (by repeat (first | (with_reducible first|exact HI0.out|apply IsS195.alloc|apply IsS195.drewN|apply IsS195.drew|apply IsS195.set_0|apply IsS195.set_1)|exact HI0.out)) hb);have n1_:=Aside0.mk (KeepBut.trans (by repeat (first | (with_reducible first|exact HK.out|apply KeepBut.set_|apply keep_drewN|apply keep_drew|apply keep_alloc)|exact HK.out)) (KeepBut.of_below hb g none) (.inl rfl));have n2_:=Aside0.mk (below_step (by repeat (first | (with_reducible first|exact HB.out|apply below_alloc|apply pw_below_drewN|apply below_drew1|refine below_set ?_ (IsS195.ge HI0.out))|exact HB.out)) hb);clear HI0;clear HK;clear HB;have HI0:=n0_;have HK:=n1_;have HB:=n2_;clear n0_ n1_ n2_;(try clear hb);(try clear hb2);(try clear hk);(try clear hi);obtain ⟨HGz20,hgz20⟩:=HI0.out;have hcz20_0:=cellS195_0 HGz20;have hcz20_1:=cellS195_1 HGz20;have hfz20_0:=blk_frozen HGz20 0;have hfz20_1:=blk_frozen HGz20 1;clear HGz20 hgz20));try go_wp2_with (first | (go_at_call 124;(with_reducible refine (sign_Space.calls (bt s0_0 x1001_1) false _ A7.out).mono ?_);rintro e w' ⟨rfl,⟨nd,rfl⟩⟩;(try first|exact ⟨rfl,_,World.drewN_drewN _ _ _⟩|exact ⟨rfl,_,Eq.trans (World.drewN_drewN _ _ _) (congrArg (World.drewN _) (Nat.add_assoc _ _ _))⟩)) | (go_at_call 86;(with_reducible refine (strings_IndexByte.calls a1 (bt s0_0 x1001_1) t103 _ A13.out).mono ?_);rintro e w19 ⟨rfl,hb⟩;have n0_:=Aside0.mk (IsS195.below (by repeat (first | (with_reducible first|exact HI0.out|apply IsS195.alloc|apply IsS195.drewN|apply IsS195.drew|apply IsS195.set_0|apply IsS195.set_1)|exact HI0.out)) hb);have n1_:=Aside0.mk (KeepBut.trans (by repeat (first | (with_reducible first|exact HK.out|apply KeepBut.set_|apply keep_drewN|apply keep_drew|apply keep_alloc)|exact HK.out)) (KeepBut.of_below hb g none) (.inl rfl));have n2_:=Aside0.mk (below_step (by repeat (first | (with_reducible first|exact HB.out|apply below_alloc|apply pw_below_drewN|apply below_drew1|refine below_set ?_ (IsS195.ge HI0.out))|exact HB.out)) hb);clear HI0;clear HK;clear HB;have HI0:=n0_;have HK:=n1_;have HB:=n2_;clear n0_ n1_ n2_;(try clear hb);(try clear hb2);(try clear hk);(try clear hi);obtain ⟨HGz20,hgz20⟩:=HI0.out;have hcz20_0:=cellS195_0 HGz20;have hcz20_1:=cellS195_1 HGz20;have hfz20_0:=blk_frozen HGz20 0;have hfz20_1:=blk_frozen HGz20 1;clear HGz20 hgz20)))
                  go_ret
                  exact ⟨by first|rfl | (simp [errW_none,errW_some]<;>rfl) | (simp [*,errW_none,errW_some]<;>rfl),by repeat (first | (with_reducible first|exact HI0.out|apply IsS195.alloc|apply IsS195.drewN|apply IsS195.drew|apply IsS195.set_0|apply IsS195.set_1)|exact HI0.out),by repeat (first | (with_reducible first|exact HB.out|apply below_alloc|apply pw_below_drewN|apply below_drew1|refine below_set ?_ (IsS195.ge HI0.out))|exact HB.out),by repeat (first | (with_reducible first|exact HK.out|apply KeepBut.set_|apply keep_drewN|apply keep_drew|apply keep_alloc)|exact HK.out)⟩
                · rw [if_neg c17] at H
                  exact absurd H (by simp)
              · rw [if_neg c16] at H
                exact absurd H (by simp)
            · rw [if_neg c15] at H
              exact absurd H (by simp)
          · rw [if_neg c14] at H
            have c14b0:decide (0≤t103)=false:=decide_eq_false c14
            clear c14
            have H':=Aside0.mk H
            clear H
            obtain ⟨HGz21,hgz21⟩:=HI0.out
            have hcz21_0:=cellS195_0 HGz21
            have hcz21_1:=cellS195_1 HGz21
            have hfz21_0:=blk_frozen HGz21 0
            have hfz21_1:=blk_frozen HGz21 1
            clear HGz21 hgz21
            have p6:0≤(x1001_1:Int):=of_decide_eq_true (by first | (with_reducible assumption)|assumption)
            have q6:x1001_1<(s0_0.size:Int):=of_decide_eq_true (by first | (with_reducible assumption)|assumption)
            have hx6:=bt_at s0_0 x1001_1
            replace p6:=eq_true p6
            replace q6:=eq_true q6
            go_wp2_with (first | (go_at_call 124;(with_reducible refine (sign_Space.calls (bt s0_0 x1001_1) false _ A7.out).mono ?_);rintro e w' ⟨rfl,⟨nd,rfl⟩⟩;(try first|exact ⟨rfl,_,World.drewN_drewN _ _ _⟩|exact ⟨rfl,_,Eq.trans (World.drewN_drewN _ _ _) (congrArg (World.drewN _) (Nat.add_assoc _ _ _))⟩)) | (go_at_call 86;(with_reducible refine (strings_IndexByte.calls a1 (bt s0_0 x1001_1) t103 _ A13.out).mono ?_);rintro e w22 ⟨rfl,hb⟩;have n0_:=Aside0.mk (IsS195.below (by repeat (first | (with_reducible first|exact HI0.out|apply IsS195.alloc|apply IsS195.drewN|apply IsS195.drew|apply IsS195.set_0|apply IsS195.set_1)|exact HI0.out)) hb);have n1_:=Aside0.mk (KeepBut.trans (by repeat (first | (with_reducible first|exact HK.out|apply KeepBut.set_|apply keep_drewN|apply keep_drew|apply keep_alloc)|exact HK.out)) (KeepBut.of_below hb g none) (.inl rfl));have n2_:=Aside0.mk (below_step (by repeat (first | (with_reducible first|exact HB.out|apply below_alloc|apply pw_below_drewN|apply below_drew1|refine below_set ?_ (IsS195.ge HI0.out))|exact HB.out)) hb);clear HI0;clear HK;clear HB;have HI0:=n0_;have HK:=n1_;have HB:=n2_;clear n0_ n1_ n2_;(try clear hb);(try clear hb2);(try clear hk);(try clear hi);obtain ⟨HGz23,hgz23⟩:=HI0.out;have hcz23_0:=cellS195_0 HGz23;have hcz23_1:=cellS195_1 HGz23;have hfz23_0:=blk_frozen HGz23 0;have hfz23_1:=blk_frozen HGz23 1;clear HGz23 hgz23))
            repeat (go_quiet (first | (go_at_call 124;(with_reducible refine (sign_Space.calls (bt s0_0 x1001_1) false _ A7.out).mono ?_);rintro e w' ⟨rfl,⟨nd,rfl⟩⟩;(try first|exact ⟨rfl,_,World.drewN_drewN _ _ _⟩|exact ⟨rfl,_,Eq.trans (World.drewN_drewN _ _ _) (congrArg (World.drewN _) (Nat.add_assoc _ _ _))⟩)) | (go_at_call 86;(with_reducible refine (strings_IndexByte.calls a1 (bt s0_0 x1001_1) t103 _ A13.out).mono ?_);rintro e w22 ⟨rfl,hb⟩;have n0_:=Aside0.mk (IsS195.below (by repeat (first | (with_reducible first|exact HI0.out|apply IsS195.alloc|apply IsS195.drewN|apply IsS195.drew|apply IsS195.set_0|apply IsS195.set_1)|exact HI0.out)) hb);have n1_:=Aside0.mk (KeepBut.trans (by repeat (first | (with_reducible first|exact HK.out|apply KeepBut.set_|apply keep_drewN|apply keep_drew|apply keep_alloc)|exact HK.out)) (KeepBut.of_below hb g none) (.inl rfl));have n2_:=Aside0.mk (below_step (by repeat (first | (with_reducible first|exact HB.out|apply below_alloc|apply pw_below_drewN|apply below_drew1|refine below_set ?_ (IsS195.ge HI0.out))|exact HB.out)) hb);clear HI0;clear HK;clear HB;have HI0:=n0_;have HK:=n1_;have HB:=n2_;clear n0_ n1_ n2_;(try clear hb);(try clear hb2);(try clear hk);(try clear hi);obtain ⟨HGz23,hgz23⟩:=HI0.out;have hcz23_0:=cellS195_0 HGz23;have hcz23_1:=cellS195_1 HGz23;have hfz23_0:=blk_frozen HGz23 0;have hfz23_1:=blk_frozen HGz23 1;clear HGz23 hgz23));try go_wp2_with (first | (go_at_call 124;(with_reducible refine (sign_Space.calls (bt s0_0 x1001_1) false _ A7.out).mono ?_);rintro e w' ⟨rfl,⟨nd,rfl⟩⟩;(try first|exact ⟨rfl,_,World.drewN_drewN _ _ _⟩|exact ⟨rfl,_,Eq.trans (World.drewN_drewN _ _ _) (congrArg (World.drewN _) (Nat.add_assoc _ _ _))⟩)) | (go_at_call 86;(with_reducible refine (strings_IndexByte.calls a1 (bt s0_0 x1001_1) t103 _ A13.out).mono ?_);rintro e w22 ⟨rfl,hb⟩;have n0_:=Aside0.mk (IsS195.below (by repeat (first | (with_reducible first|exact HI0.out|apply IsS195.alloc|apply IsS195.drewN|apply IsS195.drew|apply IsS195.set_0|apply IsS195.set_1)|exact HI0.out)) hb);have n1_:=Aside0.mk (KeepBut.trans (by repeat (first | (with_reducible first|exact HK.out|apply KeepBut.set_|apply keep_drewN|apply keep_drew|apply keep_alloc)|exact HK.out)) (KeepBut.of_below hb g none) (.inl rfl));have n2_:=Aside0.mk (below_step (by repeat (first | (with_reducible first|exact HB.out|apply below_alloc|apply pw_below_drewN|apply below_drew1|refine below_set ?_ (IsS195.ge HI0.out))|exact HB.out)) hb);clear HI0;clear HK;clear HB;have HI0:=n0_;have HK:=n1_;have HB:=n2_;clear n0_ n1_ n2_;(try clear hb);(try clear hb2);(try clear hk);(try clear hi);obtain ⟨HGz23,hgz23⟩:=HI0.out;have hcz23_0:=cellS195_0 HGz23;have hcz23_1:=cellS195_1 HGz23;have hfz23_0:=blk_frozen HGz23 0;have hfz23_1:=blk_frozen HGz23 1;clear HGz23 hgz23)))
            go_roundg k1
            case measure=>have:=HK1.out;omega
            case rel=>exact ⟨(wrap64 (x1001_1+1)),H',⟨by have:=HK1.out;omega⟩,⟨by repeat (first | (with_reducible first|exact HI0.out|apply IsS195.alloc|apply IsS195.drewN|apply IsS195.drew|apply IsS195.set_0|apply IsS195.set_1)|exact HI0.out)⟩,⟨by repeat (first | (with_reducible first|exact HK.out|apply KeepBut.set_|apply keep_drewN|apply keep_drew|apply keep_alloc)|exact HK.out)⟩,⟨by repeat (first | (with_reducible first|exact HB.out|apply below_alloc|apply pw_below_drewN|apply below_drew1|refine below_set ?_ (IsS195.ge HI0.out))|exact HB.out)⟩⟩
      · rw [if_neg c5] at H
        exact absurd H (by simp)
    · rw [if_neg c4] at H
      have c4b0:decide (x1001_1<(s0_0.size:Int))=false:=decide_eq_false c4
      clear c4
      by_cases c24:0≤s0_1
      · rw [if_pos c24] at H
        have c24b0:=eq_true c24
        have c24b1:decide (0≤s0_1)=true:=decide_eq_true c24
        clear c24
        by_cases c25:s0_1≤x1001_1
        · rw [if_pos c25] at H
          have c25b0:=eq_true c25
          have c25b1:decide (s0_1≤x1001_1)=true:=decide_eq_true c25
          clear c25
          by_cases c26:x1001_1≤(s0_0.size:Int)
          · rw [if_pos c26] at H
            have c26b0:=eq_true c26
            have c26b1:decide (x1001_1≤(s0_0.size:Int))=true:=decide_eq_true c26
            clear c26
            simp only [Option.some.injEq,Prod.mk.injEq] at H
            obtain ⟨rfl,rfl,rfl⟩:=H
            obtain ⟨HGz27,hgz27⟩:=HI0.out
            have hcz27_0:=cellS195_0 HGz27
            have hcz27_1:=cellS195_1 HGz27
            have hfz27_0:=blk_frozen HGz27 0
            have hfz27_1:=blk_frozen HGz27 1
            clear HGz27 hgz27
            go_wp2
            repeat (go_quiet (fail);try go_wp2)
            go_ret
            exact ⟨by first|rfl | (simp [errW_none,errW_some]<;>rfl) | (simp [*,errW_none,errW_some]<;>rfl),by repeat (first | (with_reducible first|exact HI0.out|apply IsS195.alloc|apply IsS195.drewN|apply IsS195.drew|apply IsS195.set_0|apply IsS195.set_1)|exact HI0.out),by repeat (first | (with_reducible first|exact HB.out|apply below_alloc|apply pw_below_drewN|apply below_drew1|refine below_set ?_ (IsS195.ge HI0.out))|exact HB.out),by repeat (first | (with_reducible first|exact HK.out|apply KeepBut.set_|apply keep_drewN|apply keep_drew|apply keep_alloc)|exact HK.out)⟩
          · rw [if_neg c26] at H
            exact absurd H (by simp)
        · rw [if_neg c25] at H
          exact absurd H (by simp)
      · rw [if_neg c24] at H
        exact absurd H (by simp)
end Go.Proofs.YtcecjoaeolglbaaGreatDoor.Sx
end

section
namespace Go.Proofs.YtcecjoaeolglbaaGreatDoor.Hand
open Go Go.RowKit Go.Proofs.YtcecjoaeolglbaaGreatDoor.Pl Go.Proofs.YtcecjoaeolglbaaGreatDoor.Pb Go.Proofs.YtcecjoaeolglbaaGreatDoor.Sx Go.Proofs.YtcecjoaeolglbaaGreatDoor.Sa Go.Proofs.YtcecjoaeolglbaaGreatDoor.Pure Go.Proofs.YtcecjoaeolglbaaGreatDoorW.PrintWords Go.Proofs.YtcecjoaeolglbaaGreatDoorW.PrintLast Go.Proofs.YtcecjoaeolglbaaGreatDoorW.PrintMore
abbrev Rdr (w0 W:World) (g:Nat) (s:List UInt8) (pos:Nat):Prop:=IsS195 w0 W g (B s) (pos:Int)
theorem sp_f (c:UInt8):sign_Space.f (c.toNat:Int)=some (isSp c):=by
 have:∀ n:Fin 256,sign_Space.f ((n.val:Nat):Int)=some (isSp (UInt8.ofNat n.val)):=by decide +kernel
 have h:=this ⟨c.toNat,c.toNat_lt⟩
 simpa using h
def spc (l:List UInt8):Nat:=(l.takeWhile isSp).length
theorem spc_drop (l:List UInt8):l.drop (spc l)=spL l:=by
 unfold spc spL
 conv=>lhs;arg 2;rw [← List.takeWhile_append_dropWhile (p:=isSp) (l:=l)]
 rw [List.drop_left]
theorem tw_len {α:Type} (p:α→Bool) (l:List α):(l.takeWhile p).length≤l.length:=by
 induction l with
 | nil=>simp
 | cons a l ih=>rw [List.takeWhile_cons];split<;>simp<;>omega
theorem spaces_l (s:List UInt8) (hs:s.length≤1000000):∀ (r:List UInt8) (i k:Nat),s.drop i=r→i≤s.length→attrs_reader_spaces.l0 (r.length+1+k) (B s) (i:Int)=some (B s,((i+spc r:Nat):Int)):=by
 intro r
 induction r with
 | nil =>
   intro i k hd hi
   have:=List.drop_eq_nil_iff.1 hd
   rw [show ([]:List UInt8).length+1+k=k+1 by simp;omega,attrs_reader_spaces.l0,if_neg (by rw [size_B];omega)];rfl
 | cons c r ih =>
   intro i k hd hi
   have hlt:=drop_lt hd
   have hd2:s.drop (i+1)=r:=by rw [← List.drop_drop,hd];rfl
   have w1:wrap64 ((i:Int)+1)=((i+1:Nat):Int):=by unfold wrap64;omega
   rw [show (c::r).length+1+k=(r.length+1+k)+1 by simp;omega,attrs_reader_spaces.l0,if_pos (by rw [size_B];omega),if_pos (by omega),bt_drop s i c r hd,sp_f,Option.bind_some,w1]
   cases h:isSp c with
   | true =>
     rw [if_pos rfl,ih (i+1) k hd2 (by omega)]
     have:spc (c::r)=spc r+1:=by unfold spc;rw [List.takeWhile_cons,if_pos h];rfl
     rw [this];congr 3;omega
   | false =>
     rw [if_neg (by decide)]
     have:spc (c::r)=0:=by unfold spc;rw [List.takeWhile_cons,h];rfl
     rw [this];rfl
theorem spaces_c (w0 w:World) (g:Nat) (s:List UInt8) (pos:Nat) (hs:s.length≤1000000) (hp:pos≤s.length) (hI:Rdr w0 w g s pos) (hB:Below w0.heap.size w0 w) :
  Calls Tryz.prog 168 #[.pointer (some ⟨g,0,none⟩)] w fun e w'=>e = .returned (.tuple #[])∧Rdr w0 w' g s (pos+spc (s.drop pos))∧Below w0.heap.size w0 w'∧KeepBut w w' g none :=
 attrs_reader_spaces.calls _ g _ _ _ _ w0 w hI hB (spaces_l s hs (s.drop pos) pos 0 rfl hp)
def isB (c:UInt8) (l:List UInt8):Bool:=l.head? == some c
theorem is_c (c:UInt8) (w0 w:World) (g:Nat) (s:List UInt8) (pos:Nat) (hI:Rdr w0 w g s pos) (hB:Below w0.heap.size w0 w) :
  Calls Tryz.prog 169 #[.pointer (some ⟨g,0,none⟩),.int .u8 (c.toNat:Int)] w fun e w'=>e = .returned (.bool (isB c (s.drop pos)))∧Rdr w0 w' g s pos∧Below w0.heap.size w0 w'∧KeepBut w w' g none:=by
 refine attrs_reader_is.calls g _ _ _ _ _ _ w0 w hI hB ?_
 unfold attrs_reader_is.f
 cases hd:s.drop pos with
 | nil =>
   have:=List.drop_eq_nil_iff.1 hd
   rw [if_neg (by rw [size_B];omega)];rfl
 | cons d r =>
   have hlt:=drop_lt hd
   rw [if_pos (by rw [size_B];omega),if_pos (by omega),bt_drop s pos d r hd]
   congr 2
   unfold isB
   rw [List.head?_cons,Bool.eq_iff_iff,beq_iff_eq,beq_iff_eq]
   constructor
   · intro e;rw [UInt8.toNat_inj.1 (show d.toNat=c.toNat by omega)]
   · intro e;rw [Option.some.inj e]
def upC (ends:List UInt8) (c:UInt8):Bool := !(isSp c || decide (c∈ends))
theorem index_mem (ends:List UInt8) (c:UInt8):(Lib.indexByte ends c≥0)=(c∈ends):=by
 apply propext
 constructor
 · intro h
   obtain ⟨o,ho⟩:∃ o:Nat,Lib.indexByte ends c=o:=⟨_,(Int.toNat_of_nonneg h).symm⟩
   exact List.mem_of_getElem? (Lib.indexByte_some ho).1
 · intro h
   rcases Int.lt_or_le (Lib.indexByte ends c) 0 with h'|h'
   · exfalso
     have h1:Lib.indexByte ends c = -1:=by have:=Lib.indexByte_ge ends c;omega
     obtain ⟨k,hk,he⟩:=List.getElem_of_mem h
     exact Lib.indexByte_none h1 k (by rw [List.getElem?_eq_getElem hk,he])
   · exact h'
theorem upTo_l (ends s:List UInt8) (hs:s.length≤1000000) (fr:Nat):∀ (r:List UInt8) (i k:Nat),s.drop i=r→i≤s.length→fr≤i →
  attrs_reader_upTo.l0 (r.length+1+k) (B ends) (fr:Int) (B s) (i:Int)=some ((B s).extract fr (i+(r.takeWhile (upC ends)).length),B s,((i+(r.takeWhile (upC ends)).length:Nat):Int)):=by
 intro r
 induction r with
 | nil =>
   intro i k hd hi hf
   have:=List.drop_eq_nil_iff.1 hd
   rw [show ([]:List UInt8).length+1+k=k+1 by simp;omega,attrs_reader_upTo.l0,if_neg (by rw [size_B];omega),if_pos (by omega),if_pos (by omega),if_pos (by rw [size_B];omega)]
   rfl
 | cons c r ih =>
   intro i k hd hi hf
   have hlt:=drop_lt hd
   have hd2:s.drop (i+1)=r:=by rw [← List.drop_drop,hd];rfl
   have w1:wrap64 ((i:Int)+1)=((i+1:Nat):Int):=by unfold wrap64;omega
   have hc:((c.toNat:Int)).toNat.toUInt8=c:=by rw [Int.toNat_natCast];simp
   rw [show (c::r).length+1+k=(r.length+1+k)+1 by simp;omega,attrs_reader_upTo.l0,if_pos (by rw [size_B];omega),if_pos (by omega),bt_drop s i c r hd,sp_f,Option.bind_some,w1]
   cases h:isSp c with
   | true =>
     have e:(c::r).takeWhile (upC ends)=[]:=by rw [List.takeWhile_cons,if_neg];unfold upC;rw [h];simp
     rw [if_pos rfl,if_pos (by omega),if_pos (by omega),if_pos (by rw [size_B];omega),e];rfl
   | false =>
     rw [if_neg (by decide)]
     unfold strings_IndexByte.f
     rw [Option.bind_some,hc,B_data]
     by_cases hm:c∈ends
     · have e:(c::r).takeWhile (upC ends)=[]:=by rw [List.takeWhile_cons,if_neg];unfold upC;rw [h,decide_eq_true hm];simp
       rw [if_pos (by rw [index_mem];exact hm),if_pos (by omega),if_pos (by omega),if_pos (by rw [size_B];omega),e];rfl
     · have e:(c::r).takeWhile (upC ends)=c::r.takeWhile (upC ends):=by rw [List.takeWhile_cons,if_pos];unfold upC;rw [h,decide_eq_false hm];rfl
       rw [if_neg (by rw [index_mem];exact hm),ih (i+1) k hd2 (by omega) (by omega),e,List.length_cons,show i+1+(r.takeWhile (upC ends)).length=i+((r.takeWhile (upC ends)).length+1) by omega]
theorem upTo_c (ends:List UInt8) (w0 w:World) (g:Nat) (s:List UInt8) (pos:Nat) (hs:s.length≤1000000) (hp:pos<s.length) (hI:Rdr w0 w g s pos) (hB:Below w0.heap.size w0 w) :
  Calls Tryz.prog 170 #[.pointer (some ⟨g,0,none⟩),.string (B ends)] w fun e w' =>
   e = .returned (.string (B (s[pos]::(s.drop (pos+1)).takeWhile (upC ends))))∧Rdr w0 w' g s (pos+1+((s.drop (pos+1)).takeWhile (upC ends)).length)∧Below w0.heap.size w0 w'∧KeepBut w w' g none:=by
 have w1:wrap64 ((pos:Int)+1)=((pos+1:Nat):Int):=by unfold wrap64;omega
 have h:=upTo_l ends s hs pos (s.drop (pos+1)) (pos+1) 0 rfl (by omega) (by omega)
 have hx:(B s).extract pos (pos+1+((s.drop (pos+1)).takeWhile (upC ends)).length)=B (s[pos]::(s.drop (pos+1)).takeWhile (upC ends)):=by
  have hl:=tw_len (upC ends) (s.drop (pos+1))
  rw [B_extract,List.drop_take,List.drop_eq_getElem_cons hp,show pos+1+((s.drop (pos+1)).takeWhile (upC ends)).length - pos=((s.drop (pos+1)).takeWhile (upC ends)).length+1 by omega,List.take_succ_cons]
  congr 2
  conv=>lhs;arg 2;rw [← List.takeWhile_append_dropWhile (p:=upC ends) (l:=s.drop (pos+1))]
  rw [List.take_left]
 rw [hx] at h
 exact attrs_reader_upTo.calls ((s.drop (pos+1)).length+1+0) g _ _ _ _ _ _ w0 w hI hB (by unfold attrs_reader_upTo.f;rw [w1];exact h)
theorem quiet_at {P:Program} {f:FuncId} {args:Array Value} {W:World} {n:Nat} {v:Value} (h:Calls P f args (W.drewN n) fun e w'=>e = .returned v∧w'=W.drewN n) :
 Calls P f args (W.drewN n) fun e w''=>e = .returned v∧∃ m,w''=W.drewN m:=h.mono fun _ _ ⟨he,hm⟩=>⟨he,n,hm⟩
def quoP (s:List UInt8) (pos:Nat) (q:UInt8):List UInt8×Bool×Nat :=
 if q∈s.drop (pos+1) then (upto q (s.drop (pos+1)),true,pos+1+(upto q (s.drop (pos+1))).length+1) else ([],false,pos+1)
set_option maxRecDepth 100000 in
set_option maxHeartbeats 4000000 in
theorem quoted_c (w0 w:World) (g:Nat) (s:List UInt8) (pos:Nat) (q:UInt8) (hs:s.length≤1000000) (hp:pos<s.length) (hq:s[pos]=q) (hI:Rdr w0 w g s pos) (hB:Below w0.heap.size w0 w) :
  Calls Tryz.prog 198 #[.pointer (some ⟨g,0,none⟩)] w fun e w' =>
   e = .returned (.tuple #[.string (B (quoP s pos q).1),.bool (quoP s pos q).2.1])∧Rdr w0 w' g s (quoP s pos q).2.2∧Below w0.heap.size w0 w'∧KeepBut w w' g none:=by
 have I:=fun W=>Tryz.strings_IndexByte ((B s).extract (pos+1) (B s).size) (q.toNat:Int) W
 have hr:((B s).extract (pos+1) (B s).size).data.toList=s.drop (pos+1):=by rw [size_B,B_extract,List.take_length,B_data]
 rw [hr,show ((q.toNat:Int)).toNat.toUInt8=q by rw [Int.toNat_natCast];simp] at I
 have HI0:=Aside0.mk hI
 have HK:=Aside0.mk (KeepBut.refl w g none)
 have HB:=Aside0.mk hB
 obtain ⟨HG,hg⟩:=hI
 have hc0:=cellS195_0 HG
 have hc1:=cellS195_1 HG
 have hf0:=blk_frozen HG 0
 have hf1:=blk_frozen HG 1
 have hlen:(B s).size=s.length:=size_B s
 have hby:∀ (h:pos<(B s).size),(B s)[pos]=q:=fun h=>hq
 have hxt:∀ o,(B s).extract (pos+1) (pos+1+o)=B ((s.drop (pos+1)).take o):=fun o=>by rw [B_extract,List.drop_take,Nat.add_sub_cancel_left]
 obtain ⟨a,ha⟩:∃ a,B s=a:=⟨_,rfl⟩
 have HI1:Aside0 (Rdr w0 w g s pos=IsS195 w0 w g a (pos:Int)):=Aside0.mk (by rw [← ha])
 have HE:Aside0 (∀ W p,Rdr w0 W g s p=IsS195 w0 W g a (p:Int)):=Aside0.mk (fun W p=>by rw [← ha])
 rw [ha] at I hc0 hlen hxt
 replace HI0:=Aside0.mk (HI1.out ▸ HI0.out)
 have hpa:pos<a.size:=by omega
 have i1:(pos:Int)<(a.size:Int):=by omega
 have i2:(pos:Int)+1≤(a.size:Int):=by omega
 have hby2:a[pos]=q:=by subst ha;exact hby (by rw [size_B];exact hp)
 have hza:a.size≤1000000:=by omega
 have hsl:∀ W,(Instr.slice 9 (.string a) (some (.int .i64 ((pos:Int)+1))) none none).run Tryz.prog W = .ok (.string (a.extract (pos+1) a.size)) W:=fun W=>by
  rw [run_slice_string_from_if W 9 a .i64 _ Tryz.underlying9,if_pos (by omega),show ((pos:Int)+1).toNat=pos+1 by omega]
 clear HI1 hby HG hg hB ha hr hq hp
 rcases Int.lt_or_le (Lib.indexByte (s.drop (pos+1)) q) 0 with h|h
 · have h1:Lib.indexByte (s.drop (pos+1)) q = -1:=by have:=Lib.indexByte_ge (s.drop (pos+1)) q;omega
   have hno:q∉s.drop (pos+1):=by
    intro hm
    obtain ⟨k,hk,e⟩:=List.getElem_of_mem hm
    exact Lib.indexByte_none h1 k (by rw [List.getElem?_eq_getElem hk,e])
   have hqp:quoP s pos q=([],false,pos+1):=by unfold quoP;rw [if_neg hno]
   rw [hqp];simp only [HE.out]
   rw [h1] at I
   have HIX:=Lib.hid I
   clear I h h1 hno hqp hxt HE hlen hs
   go_enter Tryz.func198,Tryz.ntmps198
   go_wp2
   repeat (go_quiet (fail);try go_wp2)
   go_quiet ((go_at_call 86;exact quiet_at (HIX.out _)))
   go_wp2
   go_ret2
   exact ⟨by first|rfl | (simp;done) | (simp [*];done),by rw [show ((pos+1:Nat):Int)=(pos:Int)+1 by omega];repeat (first | (with_reducible first|exact HI0.out|apply IsS195.drewN|apply IsS195.drew|apply IsS195.set_1)|exact HI0.out),by repeat (first | (with_reducible first|exact HB.out|apply below_alloc|apply pw_below_drewN|apply below_drew1|refine below_set ?_ (IsS195.ge HI0.out))|exact HB.out),by repeat (first | (with_reducible first|exact HK.out|apply KeepBut.set_|apply keep_drewN|apply keep_drew|apply keep_alloc)|exact HK.out)⟩
 · obtain ⟨o,ho⟩:∃ o:Nat,Lib.indexByte (s.drop (pos+1)) q=o:=⟨_,(Int.toNat_of_nonneg h).symm⟩
   obtain ⟨h1,h2⟩:=Lib.indexByte_some ho
   have hup:upto q (s.drop (pos+1))=(s.drop (pos+1)).take o:=by
    obtain ⟨hl,he⟩:=List.getElem?_eq_some_iff.1 h1
    have e:s.drop (pos+1)=(s.drop (pos+1)).take o++q::(s.drop (pos+1)).drop (o+1):=by
     conv=>lhs;rw [← List.take_append_drop o (s.drop (pos+1)),List.drop_eq_getElem_cons hl,he]
    conv=>lhs;rw [e]
    unfold upto isNe
    rw [tw_app _ _ _ (fun c hc => ?_),List.takeWhile_cons,if_neg (by simp),List.append_nil]
    rw [bne_iff_ne]
    rintro rfl
    obtain ⟨k,hk,e2⟩:=List.getElem_of_mem hc
    rw [List.length_take] at hk
    rw [List.getElem_take] at e2
    exact h2 k (by omega) (by rw [List.getElem?_eq_getElem (by omega),e2])
   have hol:(s.drop (pos+1))[o]? ≠ none:=by rw [h1];simp
   have hol2:o<(s.drop (pos+1)).length:=(List.getElem?_eq_some_iff.1 h1).1
   rw [List.length_drop] at hol2
   have hqp:quoP s pos q=((s.drop (pos+1)).take o,true,pos+1+o+1):=by
    unfold quoP;rw [if_pos (List.mem_of_getElem? h1),hup,List.length_take,List.length_drop,Nat.min_eq_left (by omega)]
   rw [hqp];simp only [HE.out]
   rw [ho] at I
   have hx:=hxt o
   obtain ⟨t,ht⟩:∃ t,B ((s.drop (pos+1)).take o)=t:=⟨_,rfl⟩
   rw [ht] at hx
   simp only [ht]
   have hpo:pos+1+o≤a.size:=by omega
   have hs2:∀ W,(Instr.slice 9 (.string a) (some (.int .i64 ((pos:Int)+1))) (some (.int .i64 ((pos:Int)+1+(o:Int)))) none).run Tryz.prog W = .ok (.string t) W:=fun W=>by
    rw [run_slice_string W 9 a .i64 .i64 _ _ Tryz.underlying9 (by omega) (by omega) (by omega),show ((pos:Int)+1).toNat=pos+1 by omega,show ((pos:Int)+1+(o:Int)).toNat=pos+1+o by omega,hx]
   have HIX:=Lib.hid I
   clear I h ho h1 h2 hup hol hol2 hqp hxt HE hlen hs ht
   go_enter Tryz.func198,Tryz.ntmps198
   go_wp2
   repeat (go_quiet (fail);try go_wp2)
   go_quiet ((go_at_call 86;exact quiet_at (HIX.out _)))
   go_wp2
   repeat (go_quiet (fail);try go_wp2)
   go_ret2
   exact ⟨by first|rfl | (simp;done) | (simp [*];done),by rw [show ((pos+1+o+1:Nat):Int)=(pos:Int)+1+((o:Int)+1) by omega];repeat (first | (with_reducible first|exact HI0.out|apply IsS195.drewN|apply IsS195.drew|apply IsS195.set_1)|exact HI0.out),by repeat (first | (with_reducible first|exact HB.out|apply below_alloc|apply pw_below_drewN|apply below_drew1|refine below_set ?_ (IsS195.ge HI0.out))|exact HB.out),by repeat (first | (with_reducible first|exact HK.out|apply KeepBut.set_|apply keep_drewN|apply keep_drew|apply keep_alloc)|exact HK.out)⟩
end Go.Proofs.YtcecjoaeolglbaaGreatDoor.Hand
end

section
namespace Go.Proofs.YtcecjoaeolglbaaGreatDoor.Hand
open Go Go.RowKit Go.Proofs.YtcecjoaeolglbaaGreatDoor.Pl Go.Proofs.YtcecjoaeolglbaaGreatDoor.Pb
theorem take_up (c:UInt8) (l:List UInt8) (h:c∈l):l=upto c l++c::past c l:=by
 induction l with
 | nil=>cases h
 | cons d r ih =>
   unfold upto past isNe at *
   by_cases e:d=c
   · subst e;simp [upto,isNe]
   · have hne:(d != c)=true:=by simpa using e
     have hr:c∈r:=by
      rcases List.mem_cons.1 h with h|h
      · exact absurd h.symm e
      · exact h
     have:=ih hr
     simp only [List.takeWhile_cons,hne,if_true,List.cons_append,upto,isNe,List.length_cons,List.drop_succ_cons]
     first|simp only [upto] at this|simp only [upto,isNe] at this
     exact congrArg _ this
end Go.Proofs.YtcecjoaeolglbaaGreatDoor.Hand
end

section
namespace Go.Proofs.YtcecjoaeolglbaaGreatDoor.Hand
open Go Go.RowKit Go.Proofs.YtcecjoaeolglbaaGreatDoor.Pl Go.Proofs.YtcecjoaeolglbaaGreatDoor.Pb Go.Proofs.YtcecjoaeolglbaaGreatDoor.Sx Go.Proofs.YtcecjoaeolglbaaGreatDoorW.PrintWords Go.Proofs.YtcecjoaeolglbaaGreatDoorW.PrintLast Go.Proofs.YtcecjoaeolglbaaGreatDoorW.PrintMore
structure RdSt (w0 w W:World) (g:Nat) (s:List UInt8) (pos:Nat):Prop where
 rd:Rdr w0 W g s pos
 below:Below w0.heap.size w0 W
 keep:KeepBut w W g none
theorem RdSt.next {w0 w W W':World} {g:Nat} {s:List UInt8} {pos pos':Nat} (h:RdSt w0 w W g s pos) (h2:Rdr w0 W' g s pos'∧Below w0.heap.size w0 W'∧KeepBut W W' g none):RdSt w0 w W' g s pos' :=
 ⟨h2.1,h2.2.1,h.keep.trans h2.2.2 (.inl rfl)⟩
def ValOk (s:List UInt8) (pos:Nat) (v:List UInt8) (b:Bool) (p:Nat):Prop :=
 p≤s.length∧pos≤p∧v.length≤s.length∧((b=true∧valA (s.drop pos)=some (v,s.drop p))∨(b=false∧valA (s.drop pos)=none))
theorem spc_le (s:List UInt8) (p:Nat) (h:p≤s.length):p+spc (s.drop p)≤s.length:=by
 have:=tw_len isSp (s.drop p);rw [List.length_drop] at this;unfold spc;omega
theorem isB_true {c:UInt8} {l:List UInt8} (h:isB c l=true):∃ r,l=c::r:=by
 unfold isB at h
 rw [beq_iff_eq] at h
 cases l with
 | nil=>cases h
 | cons d r=>exact ⟨r,by rw [Option.some.inj h]⟩
theorem isB_false {c d:UInt8} {r:List UInt8} (h:isB c (d::r)=false):d≠c:=by
 unfold isB at h
 rw [beq_eq_false_iff_ne] at h
 rintro rfl;exact h rfl
theorem sp_at (s:List UInt8) (p:Nat):s.drop (p+spc (s.drop p))=spL (s.drop p):=by rw [← List.drop_drop,spc_drop]
theorem upC62 (c:UInt8):upC [62] c=vlC c:=by unfold upC vlC;simp;rfl
theorem upC_vl:upC [62]=vlC:=funext upC62
theorem dw_drop {α:Type} (p:α→Bool) (l:List α):l.dropWhile p=l.drop (l.takeWhile p).length:=by
 conv=>rhs;arg 2;rw [← List.takeWhile_append_dropWhile (p:=p) (l:=l)]
 rw [List.drop_left]
section
variable {s : List UInt8} {pos : Nat} (hp : pos ≤ s.length)
include hp
theorem val_none (h:isB 61 (s.drop (pos+spc (s.drop pos)))=false):ValOk s pos [] true (pos+spc (s.drop pos)):=by
 refine ⟨spc_le s pos hp,by omega,by simp,.inl ⟨rfl,?_⟩⟩
 rw [sp_at] at h ⊢
 unfold valA
 split
 · rename_i r2 he;rw [he] at h;cases h
 · rfl
variable (h61 : isB 61 (s.drop (pos + spc (s.drop pos))) = true)
include h61
theorem val_eq:∃ p2,p2=pos+spc (s.drop pos)+1∧p2≤s.length∧valA (s.drop pos)=(match spL (s.drop p2) with
  | []=>some ([],[])
  | c::r3=>if c=34∨c=39 then (if c∈r3 then some (upto c r3,past c r3) else none) else if c=62 then some ([],c::r3) else some (c::r3.takeWhile vlC,r3.dropWhile vlC)):=by
 have _hp:=hp
 obtain ⟨r2,he⟩:=isB_true h61
 have hl:=congrArg List.length he
 rw [List.length_drop,List.length_cons] at hl
 refine ⟨_,rfl,by omega,?_⟩
 rw [← List.drop_drop,he]
 rw [sp_at] at he
 unfold valA
 rw [he];rfl
theorem val_quo {q:UInt8} (hq:q=34∨q=39) (p3:Nat) (h3:p3=pos+spc (s.drop pos)+1+spc (s.drop (pos+spc (s.drop pos)+1))) (hb:isB q (s.drop p3)=true) :
  p3<s.length∧s[p3]? = some q∧ValOk s pos (quoP s p3 q).1 (quoP s p3 q).2.1 (quoP s p3 q).2.2:=by
 obtain ⟨p2,e2,l2,hv⟩:=val_eq hp h61
 rw [← e2] at h3
 obtain ⟨r,he⟩:=isB_true hb
 have hl:=congrArg List.length he
 rw [List.length_drop,List.length_cons] at hl
 have hr:s.drop (p3+1)=r:=by rw [← List.drop_drop,he];rfl
 refine ⟨by omega,?_,?_⟩
 · have:=congrArg List.head? he
   rw [List.head?_drop] at this
   exact this
 · rw [h3,sp_at] at he
   rw [he] at hv
   simp only at hv
   rw [if_pos hq] at hv
   unfold quoP
   rw [hr]
   by_cases hm:q∈r
   · rw [if_pos hm] at hv ⊢
     have hu:=tw_len (isNe q) r
     have ht:=take_up q r hm
     have htl:=congrArg List.length ht
     rw [List.length_append,List.length_cons] at htl
     refine ⟨by simp only;omega,by simp only;omega,by simp only;omega,.inl ⟨rfl,?_⟩⟩
     rw [hv]
     congr 2
     unfold past
     rw [← hr,List.drop_drop];congr 1
   · rw [if_neg hm] at hv ⊢
     exact ⟨by simp only;omega,by simp only;omega,by simp,.inr ⟨rfl,hv⟩⟩
theorem val_end (p3:Nat) (h3:p3=pos+spc (s.drop pos)+1+spc (s.drop (pos+spc (s.drop pos)+1))) (hb:isB 62 (s.drop p3)=true∨p3=s.length):ValOk s pos [] true p3:=by
 obtain ⟨p2,e2,l2,hv⟩:=val_eq hp h61
 rw [← e2] at h3
 have hle:=spc_le s p2 l2
 rw [← h3] at hle
 refine ⟨hle,by omega,by simp,.inl ⟨rfl,?_⟩⟩
 rw [hv,← sp_at,← h3]
 rcases hb with hb|hb
 · obtain ⟨r,he⟩:=isB_true hb
   rw [he];simp
 · rw [hb,List.drop_length]
theorem val_word (p3:Nat) (h3:p3=pos+spc (s.drop pos)+1+spc (s.drop (pos+spc (s.drop pos)+1))) (hlt:p3<s.length) (n34:isB 34 (s.drop p3)=false) (n39:isB 39 (s.drop p3)=false) (n62:isB 62 (s.drop p3)=false) :
  ValOk s pos (s[p3]::(s.drop (p3+1)).takeWhile (upC [62])) true (p3+1+((s.drop (p3+1)).takeWhile (upC [62])).length):=by
 obtain ⟨p2,e2,l2,hv⟩:=val_eq hp h61
 rw [← e2] at h3
 have hd:=List.drop_eq_getElem_cons hlt
 have hl:=tw_len (upC [62]) (s.drop (p3+1))
 rw [List.length_drop] at hl
 refine ⟨by omega,by omega,by simp only [List.length_cons];omega,.inl ⟨rfl,?_⟩⟩
 rw [hd] at n34 n39 n62
 rw [hv,← sp_at,← h3,hd]
 simp only
 rw [if_neg (by rintro (e|e);exact isB_false n34 e;exact isB_false n39 e),if_neg (isB_false n62),upC_vl,dw_drop,List.drop_drop]
end
set_option maxRecDepth 100000 in
set_option maxHeartbeats 8000000 in
theorem value_c (w0 w:World) (g:Nat) (s:List UInt8) (pos:Nat) (hs:s.length≤1000000) (hp:pos≤s.length) (hI:Rdr w0 w g s pos) (hB:Below w0.heap.size w0 w) :
  Calls Tryz.prog 171 #[.pointer (some ⟨g,0,none⟩)] w fun e w' =>
   (∃ v b p,ValOk s pos v b p∧e = .returned (.tuple #[.string (B v),.bool b])∧Rdr w0 w' g s p)∧Below w0.heap.size w0 w'∧KeepBut w w' g none:=by
 have HS:=Lib.hid (RdSt.mk hI hB (KeepBut.refl w g none))
 have SP:=Lib.hid (fun W p (hp:p≤s.length) hI hB=>spaces_c w0 W g s p hs hp hI hB)
 have IS:=Lib.hid (fun c W p hI hB=>is_c c w0 W g s p hI hB)
 have QU:=Lib.hid (fun W p q (hp:p<s.length) hq hI hB=>quoted_c w0 W g s p q hs hp hq hI hB)
 have UP:=Lib.hid (fun W p (hp:p<s.length) hI hB=>upTo_c [62] w0 W g s p hs hp hI hB)
 have HP:=Lib.hid hp
 have hle1:=Lib.hid (spc_le s pos hp)
 have hlenB:Hid ((B s).size=s.length):=Lib.hid (size_B s)
 have hsz:s.length≤1000000:=hs
 clear hI hB hs hp
 go_enter Tryz.func171,Tryz.ntmps171
 go_wp2_with fail
 refine (SP.out _ pos HP.out HS.out.rd HS.out.below).mono ?_
 rintro e w1 ⟨rfl,h2⟩
 replace HS:=Lib.hid (HS.out.next h2)
 clear h2
 obtain ⟨b61,e61⟩:∃ b,isB 61 (s.drop (pos+spc (s.drop pos)))=b:=⟨_,rfl⟩
 have I1:=IS.out 61 _ _ HS.out.rd HS.out.below
 rw [e61] at I1
 have HI1:=Lib.hid I1
 have E61:=Lib.hid e61
 clear I1 e61
 go_wp2_with fail
 refine HI1.out.mono ?_
 rintro e w2 ⟨rfl,h2⟩
 replace HS:=Lib.hid (HS.out.next h2)
 clear h2 HI1
 cases b61 with
 | false =>
   have hv:=Lib.hid (val_none HP.out E61.out)
   go_wp2_with fail
   go_ret2
   exact ⟨⟨_,_,_,hv.out,rfl,HS.out.rd⟩,HS.out.below,HS.out.keep⟩
 | true =>
   obtain ⟨p2,e2,l2,_⟩:=val_eq HP.out E61.out
   have hc0:=cellS195_0 HS.out.rd.1
   have hc1:=cellS195_1 HS.out.rd.1
   have hf1:=blk_frozen HS.out.rd.1 1
   have hpb:pos+spc (s.drop pos)≤1000000:=by omega
   obtain ⟨p1,hp1⟩:∃ p1,pos+spc (s.drop pos)=p1:=⟨_,rfl⟩
   have HP1:=Lib.hid hp1
   rw [hp1] at hc1 hpb
   rw [hp1] at e2
   subst e2
   have HL2:=Lib.hid l2
   have HST:Hid (RdSt w0 w (w2.setCell ⟨g,1,none⟩ (.int .i64 ((p1:Int)+1))) g s (p1+1)):=Lib.hid (by
    have h:=HS.out
    rw [hp1] at h
    refine ⟨?_,h.below.setCell h.rd.2 _,h.keep.set_ 1 _⟩
    have:=h.rd.set_1 ((p1:Int)+1)
    exact this)
   clear hp1 l2
   go_wp2_with fail
   refine (SP.out _ (p1+1) HL2.out HST.out.rd HST.out.below).mono ?_
   rintro e w3 ⟨rfl,h2⟩
   replace HS:=Lib.hid (HST.out.next h2)
   clear h2 hc0 hc1 hf1 HST
   have hle3:=Lib.hid (spc_le s (p1+1) HL2.out)
   obtain ⟨p3,hp3⟩:∃ p3,p1+1+spc (s.drop (p1+1))=p3:=⟨_,rfl⟩
   rw [hp3] at HS hle3
   have HP3:Hid (p3=pos+spc (s.drop pos)+1+spc (s.drop (pos+spc (s.drop pos)+1))):=Lib.hid (by rw [HP1.out];exact hp3.symm)
   clear hp3
   obtain ⟨b34,e34⟩:∃ b,isB 34 (s.drop p3)=b:=⟨_,rfl⟩
   have I1:=IS.out 34 _ _ HS.out.rd HS.out.below
   rw [e34] at I1
   have HI1:=Lib.hid I1
   have E34:=Lib.hid e34
   clear I1 e34
   go_wp2_with fail
   refine HI1.out.mono ?_
   rintro e w4 ⟨rfl,h2⟩
   replace HS:=Lib.hid (HS.out.next h2)
   clear h2 HI1
   cases b34 with
   | true =>
     obtain ⟨q1,q2,q3⟩:=val_quo HP.out E61.out (.inl rfl) p3 HP3.out E34.out
     have Q:=Lib.hid (QU.out _ p3 34 q1 (by rw [List.getElem?_eq_getElem q1] at q2;exact Option.some.inj q2) HS.out.rd HS.out.below)
     have HV:=Lib.hid q3
     clear q1 q2 q3
     go_wp2_with fail
     refine Q.out.mono ?_
     rintro e w5 ⟨rfl,h2⟩
     replace HS:=Lib.hid (HS.out.next h2)
     clear h2
     go_wp2_with fail
     go_ret2
     exact ⟨⟨_,_,_,HV.out,rfl,HS.out.rd⟩,HS.out.below,HS.out.keep⟩
   | false =>
     obtain ⟨b39,e39⟩:∃ b,isB 39 (s.drop p3)=b:=⟨_,rfl⟩
     have I1:=IS.out 39 _ _ HS.out.rd HS.out.below
     rw [e39] at I1
     have HI1:=Lib.hid I1
     have E39:=Lib.hid e39
     clear I1 e39
     go_wp2_with fail
     refine HI1.out.mono ?_
     rintro e w5 ⟨rfl,h2⟩
     replace HS:=Lib.hid (HS.out.next h2)
     clear h2 HI1
     cases b39 with
     | true =>
       obtain ⟨q1,q2,q3⟩:=val_quo HP.out E61.out (.inr rfl) p3 HP3.out E39.out
       have Q:=Lib.hid (QU.out _ p3 39 q1 (by rw [List.getElem?_eq_getElem q1] at q2;exact Option.some.inj q2) HS.out.rd HS.out.below)
       have HV:=Lib.hid q3
       clear q1 q2 q3
       go_wp2_with fail
       refine Q.out.mono ?_
       rintro e w6 ⟨rfl,h2⟩
       replace HS:=Lib.hid (HS.out.next h2)
       clear h2
       go_wp2_with fail
       go_ret2
       exact ⟨⟨_,_,_,HV.out,rfl,HS.out.rd⟩,HS.out.below,HS.out.keep⟩
     | false =>
       obtain ⟨b62,e62⟩:∃ b,isB 62 (s.drop p3)=b:=⟨_,rfl⟩
       have I1:=IS.out 62 _ _ HS.out.rd HS.out.below
       rw [e62] at I1
       have HI1:=Lib.hid I1
       have E62:=Lib.hid e62
       clear I1 e62
       go_wp2_with fail
       refine HI1.out.mono ?_
       rintro e w6 ⟨rfl,h2⟩
       replace HS:=Lib.hid (HS.out.next h2)
       clear h2 HI1
       cases b62 with
       | true =>
         have HV:=Lib.hid (val_end HP.out E61.out p3 HP3.out (.inl E62.out))
         go_wp2_with fail
         go_ret2
         exact ⟨⟨_,_,_,HV.out,rfl,HS.out.rd⟩,HS.out.below,HS.out.keep⟩
       | false =>
         have hc0:=cellS195_0 HS.out.rd.1
         have hc1:=cellS195_1 HS.out.rd.1
         obtain ⟨z,hz⟩:∃ z,(B s).size=z:=⟨_,rfl⟩
         have hzl:z=s.length:=by rw [← hz];exact hlenB.out
         obtain ⟨a,ha⟩:∃ a,B s=a:=⟨_,rfl⟩
         rw [ha] at hc0 hz
         have HZ:=Lib.hid hz
         have HZL:=Lib.hid hzl
         by_cases hend:p3=s.length
         · have q1:((p3:Int) == (a.size:Int))=true:=by rw [beq_iff_eq];omega
           have q1n:(p3 == a.size)=true:=by rw [beq_iff_eq];omega
           have HV:=Lib.hid (val_end HP.out E61.out p3 HP3.out (.inr hend))
           clear hend hz hzl ha
           go_wp2_with fail
           go_quiet (fail)
           go_wp2_with fail
           go_ret2
           exact ⟨⟨_,_,_,HV.out,rfl,HS.out.rd⟩,pw_below_drewN HS.out.below _,keep_drewN HS.out.keep _⟩
         · have q1:((p3:Int) == (a.size:Int))=false:=by rw [beq_eq_false_iff_ne];omega
           have q1n:(p3 == a.size)=false:=by rw [beq_eq_false_iff_ne];omega
           have hlt:p3<s.length:=by have:=hle3.out;omega
           have HV:=Lib.hid (val_word HP.out E61.out p3 HP3.out hlt E34.out E39.out E62.out)
           have U:=Lib.hid (fun n=>UP.out (w6.drewN n) p3 hlt HS.out.rd (pw_below_drewN HS.out.below n))
           have HK:=Lib.hid (fun n=>keep_drewN HS.out.keep n)
           clear hend hz hzl ha
           go_wp2_with fail
           go_quiet (fail)
           go_wp2_with fail
           refine (U.out _).mono ?_
           rintro e w7 ⟨rfl,h2,h3,h4⟩
           go_wp2_with fail
           go_ret2
           exact ⟨⟨_,_,_,HV.out,rfl,h2⟩,h3,(HK.out _).trans h4 (.inl rfl)⟩
end Go.Proofs.YtcecjoaeolglbaaGreatDoor.Hand
end

section
namespace Go.Proofs.YtcecjoaeolglbaaGreatDoor.Hand
open Go Go.RowKit Go.Proofs.YtcecjoaeolglbaaGreatDoor.K0 Go.Proofs.YtcecjoaeolglbaaGreatDoor.Pl Go.Proofs.YtcecjoaeolglbaaGreatDoor.Pb Go.Proofs.YtcecjoaeolglbaaGreatDoorW.PrintWords Go.Proofs.YtcecjoaeolglbaaGreatDoorW.PrintLast Go.Proofs.YtcecjoaeolglbaaGreatDoorW.PrintMore
abbrev AtS:=S87
abbrev atK:=k87
set_option maxRecDepth 100000 in
set_option maxHeartbeats 2000000 in
theorem same_c (x y nm:ByteArray) (ga:Nat) (w:World) (hc:w.cell? ⟨ga,0,none⟩=some (.string nm)) :
  Calls Tryz.prog 173 #[.agg #[.string x,.string y],.pointer (some ⟨ga,0,none⟩)] w fun e w'=>e = .returned (.bool (x.toList == nm.toList))∧Below w.heap.size w w':=by
 have hc2:(w.alloc (.cells #[.string x,.string y] 87)).cell? ⟨ga,0,none⟩=some (.string nm):=by
  rw [World.cell?_alloc_past _ _ _ (World.block_lt_of_cell? w _ hc)];exact hc
 have hc3:(w.alloc (.cells #[.string x,.string y] 87)).cell? ⟨w.heap.size,0,none⟩=some (.string x):=(World.cell?_alloc_at _ _ _ 0 rfl).trans rfl
 clear hc
 go_enter Tryz.func173,Tryz.ntmps173
 go_wp2_with fail
 go_ret
 exact ⟨rfl,(Below.refl _ w).alloc (Nat.le_refl _) _⟩
def hasN (nm:ByteArray) (l:List AtS):Bool:=l.any fun a=>a.f0.toList == nm.toList
set_option maxRecDepth 100000 in
set_option maxHeartbeats 4000000 in
theorem indexF_c (A:Option Addr) (c:Nat) (l:List AtS) (nm:ByteArray) (ga:Nat) (w:World) (hr:Kd.C atK w A l.length l) (hl:l.length≤c) (hm:l.length≤1000000) (hc:w.cell? ⟨ga,0,none⟩=some (.string nm)) :
  Calls Tryz.prog 199 #[.slice A l.length c,.func (.func 173) #[] #[.pointer (some ⟨ga,0,none⟩)]] w fun e w' =>
   (∃ r:Int,e = .returned (.int .i64 r)∧decide (0≤r)=hasN nm l)∧Below w.heap.size w w':=by
 have HR:=Lib.hid hr
 have HC:=Lib.hid hc
 have CL:=Lib.hid (fun x y W (h:W.cell? ⟨ga,0,none⟩=some (.string nm))=>same_c x y nm ga W h)
 obtain ⟨n,hn⟩:∃ n,l.length=n:=⟨_,rfl⟩
 rw [hn] at hl hm HR ⊢
 have HN:=Lib.hid hn
 clear hr hc hn
 go_enter Tryz.func199,Tryz.ntmps199
 go_wp2_with fail
 go_loopw [8] (fun v wx => ∃ i:Nat,v = .int .i64 (i:Int)∧i≤n∧Hid (Below w.heap.size w wx)∧Hid (hasN nm (l.take i)=false)) (fun v _=>n - (intOf v).toNat)
 case atStart=>exact ⟨0,rfl,Nat.zero_le _,Lib.hid (Below.refl _ _),Lib.hid rfl⟩
 case round =>
  obtain ⟨i,rfl,hi,HW,HD⟩:=hrel
  by_cases hlt:i<n
  · have q1:decide ((i:Int)<(n:Int))=true:=decide_eq_true (by omega)
    have i0:(0:Int)≤(i:Int):=by omega
    have i1:(i:Int)<(n:Int):=by omega
    have hll:i<l.length:=by rw [HN.out];exact hlt
    obtain ⟨ad,rfl,hx0,hx1⟩:=at_T87 (Kd.C_below HR.out HW.out) (i:Int) i0 i1
    have hrd:rd_T87 l (i:Int)=l[i]:=by unfold rd_T87;rw [Int.toNat_natCast,List.getD_eq_getElem?_getD,List.getElem?_eq_getElem hll];rfl
    rw [hrd,Int.toNat_natCast] at hx0 hx1
    obtain ⟨x,hx⟩:∃ x,l[i].f0=x:=⟨_,rfl⟩
    obtain ⟨y,hy⟩:∃ y,l[i].f1=y:=⟨_,rfl⟩
    rw [hx] at hx0
    rw [hy] at hx1
    have C1:=Lib.hid (CL.out x y _ ((HW.out.cell (World.block_lt_of_cell? w _ HC.out)).trans HC.out))
    have htk:l.take (i+1)=l.take i++[l[i]]:=List.take_succ_eq_append_getElem hll
    have hsplit:hasN nm (l.take (i+1))=(x.toList == nm.toList):=by
     unfold hasN
     rw [htk,List.any_append]
     have:=HD.out
     unfold hasN at this
     rw [this];simp [hx]
    have hall:(x.toList == nm.toList)=true→hasN nm l=true:=fun h=>by
     unfold hasN
     rw [List.any_eq_true]
     exact ⟨l[i],List.getElem_mem hll,by rw [hx];exact h⟩
    obtain ⟨b,hb⟩:∃ b,(x.toList == nm.toList)=b:=⟨_,rfl⟩
    rw [hb] at C1 hsplit hall
    have HSP:=Lib.hid hsplit
    have HALL:=Lib.hid hall
    clear hrd hx hy htk hsplit hall hb
    cases b with
    | true =>
      have HX:=Lib.hid (HALL.out rfl)
      go_wp2_with fail
      refine C1.out.mono ?_
      rintro e w1 ⟨rfl,hb⟩
      have HW2:=Lib.hid (HW.out.trans (hb.mono HW.out.size))
      clear hb
      go_wp2_with fail
      go_ret
      exact ⟨⟨(i:Int),rfl,by rw [HX.out,decide_eq_true (by omega)]⟩,HW2.out⟩
    | false =>
      go_wp2_with fail
      refine C1.out.mono ?_
      rintro e w1 ⟨rfl,hb⟩
      have HW2:=Lib.hid (HW.out.trans (hb.mono HW.out.size))
      clear hb
      go_wp2_with fail
      go_roundw
      case rel=>exact ⟨i+1,by go_num,by omega,HW2,HSP⟩
      case measure=>simp [intOf];omega
  · obtain rfl:i=n:=by omega
    have HX:Hid (hasN nm l=false):=Lib.hid (by have:=HD.out;rwa [← HN.out,List.take_length] at this)
    go_wp2_with fail
    go_ret
    exact ⟨⟨-1,rfl,by rw [HX.out];rfl⟩,HW.out⟩
set_option maxRecDepth 100000 in
set_option maxHeartbeats 2000000 in
theorem contains_c (A:Option Addr) (c:Nat) (l:List AtS) (nm:ByteArray) (ga:Nat) (w:World) (hr:Kd.C atK w A l.length l) (hl:l.length≤c) (hm:l.length≤1000000) (hc:w.cell? ⟨ga,0,none⟩=some (.string nm)) :
  Calls Tryz.prog 172 #[.slice A l.length c,.func (.func 173) #[] #[.pointer (some ⟨ga,0,none⟩)]] w fun e w' =>
   e = .returned (.bool (hasN nm l))∧Below w.heap.size w w':=by
 have I:=Lib.hid (indexF_c A c l nm ga w hr hl hm hc)
 obtain ⟨n,hn⟩:∃ n,l.length=n:=⟨_,rfl⟩
 obtain ⟨R,hR⟩:∃ R,hasN nm l=R:=⟨_,rfl⟩
 rw [hn,hR] at I
 rw [hn,hR]
 clear hr hl hm hc hn hR
 go_enter Tryz.func172,Tryz.ntmps172
 go_wp2_with fail
 refine I.out.mono ?_
 rintro e w1 ⟨⟨r,rfl,hr⟩,hb⟩
 go_wp2_with fail
 go_ret
 exact ⟨by rw [← hr];rfl,hb⟩
end Go.Proofs.YtcecjoaeolglbaaGreatDoor.Hand
end

section
namespace Go.Proofs.YtcecjoaeolglbaaGreatDoor.Hand
open Go Go.RowKit Go.Proofs.YtcecjoaeolglbaaGreatDoor.Pl Go.Proofs.YtcecjoaeolglbaaGreatDoor.Pb
theorem no38 {l:List UInt8} {o:Nat} (h:∀ k,k<o→l[k]? ≠ some 38):(38:UInt8)∉l.take o:=by
 intro hm
 obtain ⟨k,hk,e⟩:=List.getElem_of_mem hm
 rw [List.length_take] at hk
 rw [List.getElem_take] at e
 exact h k (by omega) (by rw [List.getElem?_eq_getElem (by omega),e])
theorem rdL_step {s:List UInt8} {i o:Nat} (attr:Bool) (h1:(s.drop i)[o]? = some 38) (h2:∀ k,k<o→(s.drop i)[k]? ≠ some 38) :
  rdL attr (s.drop i)=(s.drop i).take o++((refN attr (s.drop (i+o))).1++rdL attr (s.drop (i+o+(refN attr (s.drop (i+o))).2)))∧begR (s.drop (i+o)) [38]=true ∧
   1≤(refN attr (s.drop (i+o))).2∧i+o+(refN attr (s.drop (i+o))).2≤s.length∧(refN attr (s.drop (i+o))).1.length≤8*(refN attr (s.drop (i+o))).2:=by
 rw [List.getElem?_drop] at h1
 obtain ⟨hl,he⟩:=List.getElem?_eq_some_iff.1 h1
 have hd:s.drop (i+o)=38::s.drop (i+o+1):=by rw [List.drop_eq_getElem_cons hl,he]
 have hs:s.drop i=(s.drop i).take o++38::s.drop (i+o+1):=by rw [← hd,← List.drop_drop,List.take_append_drop]
 have hb:=refN_bd attr 38 (s.drop (i+o+1))
 refine ⟨?_,?_,?_⟩
 · conv=>lhs;rw [hs]
   rw [rdL_app attr _ (no38 h2),rdL_amp,← hd,List.drop_drop]
 · rw [hd];simp [begR,show lowB 38=38 by decide]
 · rw [← hd,List.length_drop] at hb
   exact ⟨hb.1,by omega,hb.2.2⟩
theorem isB_below' {T e:TypeId} {B0 b:Nat} {bs:List Value} {W W':World} (h:Lib.IsBuilder T e B0 b bs W) (hb:Below W.heap.size W W'):Lib.IsBuilder T e B0 b bs W':=by
 have at_:∀ {p:Value},Lib.BuilderAt T e B0 b p bs W→Lib.BuilderAt T e B0 b p bs W':=fun h=>by
  have lt:∀ {k:Nat} {o:Obj},W.heap[k]? = some o→k<W.heap.size:=fun h=>(Array.getElem?_eq_some_iff.1 h).1
  obtain ⟨hB,v,hv,hown,hne⟩:=h
  refine ⟨hB,v,(hb.block b (lt hv)).trans hv,⟨hown.1,?_⟩,hne⟩
  rcases hown.2 with h|⟨g,cap,cur,h1,h2,h3,h4⟩
  · exact .inl h
  · exact .inr ⟨g,cap,cur,h1,h2,(hb.block g (lt h3)).trans h3,h4⟩
 exact h.elim (fun x => .inl (at_ x)) (fun x => .inr (at_ x))
def DecJ (a:ByteArray) (s:List UInt8) (attr:Bool) (w:World) (R:List UInt8) (a':Act) (wr:World):Prop :=
 ∃ (pos:Nat) (acc:List UInt8) (u2 u3 u7 u8 u9 u10 u11 u12 u13 u14 u15 u16 u17 u18 u19 u20 u21 u22 u23 u24 u25 u26 u27 u28 u29 u30 u31 u32 u33 u34 u35 u36 u37:Value),
   a'={ tmps := #[.string a,.bool attr,u2,u3,.string ⟨#[]⟩,.pointer (some ⟨w.heap.size,0,none⟩),.int .i64 pos,u7,u8,u9,u10,u11,u12,u13,u14,u15,u16,u17,u18,u19,u20,u21,u22,u23,u24,u25,u26,u27,u28,u29,u30,u31,u32,u33,u34,u35,u36,u37],defers:=[] } ∧
   Hid (Lib.IsBuilder 54 5 w.heap.size w.heap.size (Lib.byteCells acc) wr)∧Hid (Below w.heap.size w wr)∧pos≤a.size∧acc.length≤8*pos∧Hid (acc++rdL attr (s.drop pos)=R)
set_option maxRecDepth 100000 in
set_option maxHeartbeats 8000000 in
theorem rdecode_c (s:List UInt8) (attr:Bool) (hs:s.length≤100000) (w:World) (hGl:Glob w) (hGE:GlobE w) :
  Calls Tryz.prog 132 #[.string (B s),.bool attr] w fun e w'=>e = .returned (.string (B (rdL attr s)))∧Below w.heap.size w w':=by
 have HG:=Lib.hid hGl
 have HE:=Lib.hid hGE
 have RD:=Lib.hid (fun n (hn:n≤s.length) (h:begR (s.drop n) [38]=true) W hG hE=>readN_c s n attr hs hn h W hG hE)
 have ST:=Lib.hid (fun (i o:Nat) (h1:(s.drop i)[o]? = some 38) (h2:∀ k,k<o→(s.drop i)[k]? ≠ some 38)=>rdL_step attr h1 h2)
 obtain ⟨R,hR⟩:∃ R,rdL attr s=R:=⟨_,rfl⟩
 have HR:Hid (rdL attr (s.drop 0)=R):=Lib.hid hR
 rw [hR]
 obtain ⟨a,ha⟩:∃ a,B s=a:=⟨_,rfl⟩
 have hsz:a.size=s.length:=by rw [← ha];simp
 have hx:∀ i,(a.extract i a.size).data.toList=s.drop i:=fun i=>by rw [← ha,size_B,B_extract,List.take_length,B_data]
 have hy:∀ i o,(a.extract i (i+o)).data.toList=(s.drop i).take o:=fun i o=>by rw [← ha,B_extract,B_data,List.drop_take,Nat.add_sub_cancel_left]
 rw [ha] at RD ⊢
 have HX:=Lib.hid hx
 have HY:=Lib.hid hy
 have HSZ:=Lib.hid hsz
 have hza:a.size≤100000:=by omega
 clear hs hGl hGE ha hsz hx hy hR
 go_enter Tryz.func132,Tryz.ntmps132
 go_wp2_with fail
 refine wp_scope_at 0 (DecJ a s attr w R) (fun a' _=>a.size - (intOf (a'.tmps.getD 6 undef)).toNat) rfl ?_ ?_
 · intro hB
   have HB:=Lib.hid hB
   clear hB
   go_wp2_with fail
   refine wp_label_k (by assumption) (HB.out _ _ ?_)
   exact ⟨0,[],_,_,_,_,_,_,_,_,_,_,_,_,_,_,_,_,_,_,_,_,_,_,_,_,_,_,_,_,_,_,_,_,_,rfl,Lib.hid (Lib.fresh_isBuilder 54 5 w),Lib.hid ((Below.refl _ w).alloc (Nat.le_refl _) _),by omega,by simp,HR⟩
 · rintro a' wr ⟨pos,acc,u2,u3,u7,u8,u9,u10,u11,u12,u13,u14,u15,u16,u17,u18,u19,u20,u21,u22,u23,u24,u25,u26,u27,u28,u29,u30,u31,u32,u33,u34,u35,u36,u37,rfl,HI,HW,hp,hl,HA⟩
   have I:=fun W=>Tryz.strings_IndexByte (a.extract pos a.size) 38 W
   rw [HX.out pos] at I
   rcases Int.lt_or_le (Lib.indexByte (s.drop pos) 38) 0 with h|h
   · have h1:Lib.indexByte (s.drop pos) 38 = -1:=by have:=Lib.indexByte_ge (s.drop pos) 38;omega
     have I2:Hid (∀ W,Calls Tryz.prog 86 #[.string (a.extract pos a.size),.int .u8 38] W fun e w'=>e = .returned (.int .i64 (-1))∧w'=W):=Lib.hid (fun W=>by rw [← h1];exact I W)
     have hno:(38:UInt8)∉s.drop pos:=by
      intro hm
      obtain ⟨k,hk,e⟩:=List.getElem_of_mem hm
      exact Lib.indexByte_none h1 k (by rw [List.getElem?_eq_getElem hk,e])
     have HN:Hid (acc++(a.extract pos a.size).data.toList=R):=Lib.hid (by rw [HX.out,← HA.out,rdL_no attr hno])
     have zx:(a.extract pos a.size).size=a.size - pos:=by rw [ByteArray.size_extract];omega
     have WS:=Lib.hid (fun W (hI:Lib.IsBuilder 54 5 w.heap.size w.heap.size (Lib.byteCells acc) W) hb=>Tryz.Builder_WriteString w.heap.size w.heap.size (Lib.byteCells acc) (a.extract pos a.size) W hI (by rw [Lib.byteCells_length,zx];omega) hb)
     clear I h h1 hno zx HA
     go_wp2_with fail
     refine (I2.out _).mono ?_
     rintro e w1 ⟨rfl,rfl⟩
     go_wp2_with fail
     refine (WS.out _ HI.out HW.out.size).mono ?_
     rintro e w2 ⟨rfl,h1,b2⟩
     have HW2:=Lib.hid (HW.out.trans b2)
     have HI2:Hid (Lib.IsBuilder 54 5 w.heap.size w.heap.size (Lib.byteCells (acc++(a.extract pos a.size).data.toList)) w2):=Lib.hid (Or.inr (by rw [show Lib.byteCells (acc++(a.extract pos a.size).data.toList)=Lib.byteCells acc++Lib.strCells (a.extract pos a.size) by simp [Lib.byteCells,Lib.strCells]];exact h1))
     rw [HN.out] at HI2
     have WT:=Lib.hid (Tryz.Builder_String_any w.heap.size w.heap.size R w2 HI2.out HW2.out.size)
     clear h1 b2 WS I2
     go_wp2_with fail
     refine WT.out.mono ?_
     rintro e w3 ⟨rfl,b3⟩
     have HW3:=Lib.hid (HW2.out.trans b3)
     clear b3
     go_wp2_with fail
     simp only [Exit.jump]
     go_ret
     exact ⟨rfl,HW3.out⟩
   · obtain ⟨o,ho⟩:∃ o:Nat,Lib.indexByte (s.drop pos) 38=o:=⟨_,(Int.toNat_of_nonneg h).symm⟩
     have I2:Hid (∀ W,Calls Tryz.prog 86 #[.string (a.extract pos a.size),.int .u8 38] W fun e w'=>e = .returned (.int .i64 (o:Int))∧w'=W):=Lib.hid (fun W=>by rw [← ho];exact I W)
     obtain ⟨h1,h2⟩:=Lib.indexByte_some ho
     obtain ⟨s1,s2,s3,s4,s5⟩:=ST.out pos o h1 h2
     have RI:=fun W hG hE=>RD.out (pos+o) (by omega) s2 W hG hE
     rw [s1] at HA
     obtain ⟨t,ht⟩:∃ t,(refN attr (s.drop (pos+o))).1=t:=⟨_,rfl⟩
     obtain ⟨k,hk⟩:∃ t,(refN attr (s.drop (pos+o))).2=t:=⟨_,rfl⟩
     rw [ht,hk] at HA RI
     rw [hk] at s3 s4
     rw [ht,hk] at s5
     rw [← HSZ.out] at s4
     have HRI:=Lib.hid RI
     have zx:(a.extract pos (pos+o)).size=o:=by rw [ByteArray.size_extract];omega
     have zt:(B t).size=t.length:=size_B t
     have HN:Hid ((acc++(a.extract pos (pos+o)).data.toList)++(B t).data.toList++rdL attr (s.drop (pos+o+k))=R):=Lib.hid (by rw [HY.out,B_data,← HA.out];simp only [List.append_assoc])
     have WS:=Lib.hid (fun W (hI:Lib.IsBuilder 54 5 w.heap.size w.heap.size (Lib.byteCells acc) W) hb=>Tryz.Builder_WriteString w.heap.size w.heap.size (Lib.byteCells acc) (a.extract pos (pos+o)) W hI (by rw [Lib.byteCells_length,zx];omega) hb)
     have ze:(acc++(a.extract pos (pos+o)).data.toList).length=acc.length+o:=by rw [List.length_append,Array.length_toList];exact congrArg _ zx
     have WS2:=Lib.hid (fun W (hI:Lib.IsBuilder 54 5 w.heap.size w.heap.size (Lib.byteCells (acc++(a.extract pos (pos+o)).data.toList)) W) hb=>Tryz.Builder_WriteString w.heap.size w.heap.size (Lib.byteCells (acc++(a.extract pos (pos+o)).data.toList)) (B t) W hI (by rw [Lib.byteCells_length,ze,zt];omega) hb)
     have zf:((acc++(a.extract pos (pos+o)).data.toList)++(B t).data.toList).length≤8*(pos+o+k):=by rw [List.length_append,ze,B_data];omega
     obtain ⟨tb,htb⟩:∃ tb,B t=tb:=⟨_,rfl⟩
     rw [htb] at HRI HN WS2 zf
     have HZF:=Lib.hid zf
     have hpo:pos+o≤a.size:=by omega
     clear I h ho h1 h2 s1 s2 RI ht hk zx zt ze zf htb s5 HA
     go_wp2_with fail
     refine (I2.out _).mono ?_
     rintro e w1 ⟨rfl,rfl⟩
     clear I2
     go_wp2_with fail
     refine (WS.out _ HI.out HW.out.size).mono ?_
     rintro e w2 ⟨rfl,h1,b2⟩
     have HW2:=Lib.hid (HW.out.trans b2)
     have HI2:Hid (Lib.IsBuilder 54 5 w.heap.size w.heap.size (Lib.byteCells (acc++(a.extract pos (pos+o)).data.toList)) w2):=Lib.hid (Or.inr (by rw [show Lib.byteCells (acc++(a.extract pos (pos+o)).data.toList)=Lib.byteCells acc++Lib.strCells (a.extract pos (pos+o)) by simp [Lib.byteCells,Lib.strCells]];exact h1))
     clear h1 b2 WS HI HW
     go_wp2_with fail
     refine (HRI.out _ (HG.out.step HW2.out) (HE.out.step HW2.out)).mono ?_
     rintro e w3 ⟨rfl,b3⟩
     have HW3:=Lib.hid (HW2.out.trans (b3.mono HW2.out.size))
     have HI3:=Lib.hid (isB_below' HI2.out b3)
     clear b3 HRI HI2 HW2
     go_wp2_with fail
     refine (WS2.out _ HI3.out HW3.out.size).mono ?_
     rintro e w4 ⟨rfl,h1,b4⟩
     have HW4:=Lib.hid (HW3.out.trans b4)
     have HI4:Hid (Lib.IsBuilder 54 5 w.heap.size w.heap.size (Lib.byteCells ((acc++(a.extract pos (pos+o)).data.toList)++tb.data.toList)) w4):=Lib.hid (Or.inr (by rw [show Lib.byteCells ((acc++(a.extract pos (pos+o)).data.toList)++tb.data.toList)=Lib.byteCells (acc++(a.extract pos (pos+o)).data.toList)++Lib.strCells tb by simp [Lib.byteCells,Lib.strCells]];exact h1))
     clear h1 b4 WS2 HI3 HW3
     go_wp2_with fail
     go_step3
     refine ⟨rfl,⟨pos+o+k,_,_,_,_,_,_,_,_,_,_,_,_,_,_,_,_,_,_,_,_,_,_,_,_,_,_,_,_,_,_,_,_,_,_,rfl,HI4,HW4,s4,HZF.out,HN⟩,?_⟩
     simp [intOf];omega
end Go.Proofs.YtcecjoaeolglbaaGreatDoor.Hand
end

section
namespace Go.Proofs.YtcecjoaeolglbaaGreatDoor.Hand
open Go Go.RowKit Go.Proofs.YtcecjoaeolglbaaGreatDoor.K0 Go.Proofs.YtcecjoaeolglbaaGreatDoor.Pl Go.Proofs.YtcecjoaeolglbaaGreatDoor.Pb Go.Proofs.YtcecjoaeolglbaaGreatDoor.Sx Go.Proofs.YtcecjoaeolglbaaGreatDoorW.PrintWords Go.Proofs.YtcecjoaeolglbaaGreatDoorW.PrintLast Go.Proofs.YtcecjoaeolglbaaGreatDoorW.PrintMore
def ofT (x:AttrT):AtS:=⟨B x.1,B x.2⟩
theorem has_of (nm:List UInt8) (L:List AttrT):hasN (B nm) (L.map ofT)=L.any (fun a=>a.1 == nm):=by
 unfold hasN
 rw [List.any_map]
 congr 1
 funext a
 show ((B a.1).toList == (B nm).toList)=_
 rw [toList_B,toList_B]
def slotA (a:Act) (i:Nat):Value:=a.tmps.getD i undef
def AtF (a:ByteArray) (at_:Int) (g:Nat) (v:Value) (wh:Bool) (u:Nat→Value):Act :=
 { tmps := #[.string a,.int .i64 at_,u 2,u 3,v,.bool false,.int .i64 0,.bool false,.pointer (some ⟨g,0,none⟩),.pointer (some ⟨g+1,0,none⟩),.bool wh,u 11,u 12,u 13,u 14,u 15,u 16,u 17,u 18,u 19,u 20,u 21,u 22,u 23,u 24,u 25,u 26,u 27,u 28,u 29,u 30,u 31,u 32,u 33,u 34,u 35,u 36,u 37,u 38,u 39,u 40,u 41,u 42,u 43,u 44,u 45,u 46,u 47,u 48,u 49,u 50,u 51,u 52,u 53,u 54,u 55,u 56,u 57,u 58,u 59,u 60,u 61,u 62,u 63,u 64,u 65,u 66,u 67,u 68,u 69,u 70,u 71,u 72,u 73,u 74,u 75,u 76,u 77,u 78,u 79,u 80,u 81,u 82,u 83,u 84,u 85,u 86,u 87,u 88,u 89,u 90,u 91,u 92,u 93,u 94,u 95],defers:=[] }
def okA (g:Nat) (k:Nat):Prop:=k≠g∧k≠g+1
structure ASt (w W:World) (s:List UInt8) (pos:Nat) (x y:ByteArray) (v:Value) (l:List AtS):Prop where
 rd:Rdr w W w.heap.size s pos
 blk:W.heap[w.heap.size+1]? = some (.cells #[.string x,.string y] 87 (0,0))
 row:Kd.R atK 87 W w.heap.size (okA w.heap.size) v l
 below:Below w.heap.size w W
section
variable {w W W' : World} {s : List UInt8} {pos pos' : Nat} {x y : ByteArray} {v : Value} {l : List AtS} (h : ASt w W s pos x y v l)
include h
theorem ASt.lt:w.heap.size+1<W.heap.size:=blk_lt h.blk
theorem ASt.step (h2:Rdr w W' w.heap.size s pos'∧Below w.heap.size w W'∧KeepBut W W' w.heap.size none):ASt w W' s pos' x y v l :=
 ⟨h2.1,(h2.2.2.2 _ h.lt (by omega) (by simp)).trans h.blk,Kd.R_keep h.row h2.2.2 (fun _ hk=>hk.1),h2.2.1⟩
theorem ASt.call (hb:Below W.heap.size W W'):ASt w W' s pos x y v l :=
 ⟨h.rd.below hb,(hb.block _ h.lt).trans h.blk,Kd.R_below h.row hb,h.below.trans (hb.mono h.below.size)⟩
theorem ASt.drewN (n:Nat):ASt w (W.drewN n) s pos x y v l:=h.call (below_drewN _ _)
theorem ASt.setx (z:ByteArray):ASt w (W.setCell ⟨w.heap.size+1,0,none⟩ (.string z)) s pos z y v l :=
 ⟨h.rd.far (by simp) _,by simpa using blk_set h.blk 0 (.string z),Kd.R_far (p:=⟨w.heap.size+1,0,none⟩) h.row (fun _ hk=>hk.2) _,h.below.setCell (by simp) _⟩
theorem ASt.sety (z:ByteArray):ASt w (W.setCell ⟨w.heap.size+1,1,none⟩ (.string z)) s pos x z v l :=
 ⟨h.rd.far (by simp) _,by simpa using blk_set h.blk 1 (.string z),Kd.R_far (p:=⟨w.heap.size+1,1,none⟩) h.row (fun _ hk=>hk.2) _,h.below.setCell (by simp) _⟩
theorem ASt.setp (z:Nat):ASt w (W.setCell ⟨w.heap.size,1,none⟩ (.int .i64 (z:Int))) s z x y v l :=
 ⟨h.rd.set_1 _,(blk_far h.blk (by simp) _),Kd.R_far (p:=⟨w.heap.size,1,none⟩) h.row (fun _ hk=>hk.1) _,h.below.setCell (Nat.le_refl _) _⟩
theorem ASt.grown {v1:Value} {l1:List AtS} (hr:Kd.R atK 87 W' w.heap.size (okA w.heap.size) v1 l1) (hb:Below w.heap.size w W') (hg:W.grownBy W' v.ownBlock):ASt w W' s pos x y v1 l1 :=
 ⟨h.rd.grown hg (fun e=>(h.row.1 _ e.symm).1 rfl),(hg.block _ h.lt (fun e=>(h.row.1 _ e.symm).2 rfl)).trans h.blk,hr,hb⟩
theorem ASt.c0:W.cell? ⟨w.heap.size,0,none⟩=some (.string (B s)):=cellS195_0 h.rd.1
theorem ASt.c1:W.cell? ⟨w.heap.size,1,none⟩=some (.int .i64 (pos:Int)):=cellS195_1 h.rd.1
theorem ASt.f1:W.frozen? ⟨w.heap.size,1,none⟩=false:=blk_frozen h.rd.1 1
theorem ASt.d0:W.cell? ⟨w.heap.size+1,0,none⟩=some (.string x):=(blk_cell h.blk 0).trans rfl
theorem ASt.d1:W.cell? ⟨w.heap.size+1,1,none⟩=some (.string y):=(blk_cell h.blk 1).trans rfl
theorem ASt.g0:W.frozen? ⟨w.heap.size+1,0,none⟩=false:=blk_frozen h.blk 0
theorem ASt.g1:W.frozen? ⟨w.heap.size+1,1,none⟩=false:=blk_frozen h.blk 1
end
theorem infoA:(Tryz.prog.info? 87).map (fun i=>(i.zero,i.size,i.bytes))=some (some (.agg #[.string ⟨#[]⟩,.string ⟨#[]⟩]),2,32):=by kernel_rfl
noncomputable def atRes (s:List UInt8) (R:Option (List AttrT×Bool×List UInt8)):List AtS×Bool×Int×Bool :=
 match R with
 | none=>([],false,(s.length:Int),false)
 | some (L,self,r)=>(L.map ofT,self,((s.length - r.length:Nat):Int),true)
def AtJ (a:ByteArray) (at_:Int) (s:List UInt8) (w:World) (R:Option (List AttrT×Bool×List UInt8)) (n:Nat) (a':Act) (W:World):Prop :=
 ∃ (pos:Nat) (x y:ByteArray) (v:Value) (wh:Bool) (L:List AttrT),a'=AtF a at_ w.heap.size v wh (slotA a')∧Hid (ASt w W s pos x y v (L.map ofT))∧pos≤s.length∧s.length - pos<n∧L.length≤pos∧Hid (attrL L (s.drop pos)=R)
theorem nm_upC:upC [47,62,61]=nmC:=by
 funext c
 have:∀ n:Fin 256,upC [47,62,61] (UInt8.ofNat n.val)=nmC (UInt8.ofNat n.val):=by decide +kernel
 have h:=this ⟨c.toNat,c.toNat_lt⟩
 simpa using h
theorem attrL_end {L:List AttrT} {s:List UInt8} {pos:Nat} (h:pos+spc (s.drop pos)=s.length):attrL L (s.drop pos)=none:=by
 rw [attrL_eq,← sp_at,h,List.drop_length]
theorem attrL_at {L:List AttrT} {s:List UInt8} {pos p:Nat} (hp:pos+spc (s.drop pos)=p) (h:p<s.length):attrL L (s.drop pos) =
  (if s[p]=62 then some (L,false,s.drop (p+1))
  else if s[p]=47 then (match s.drop (p+1) with
   | []=>none
   | d::r'=>if d=62 then some (L,true,r') else attrL L (d::r'))
  else match valA ((s.drop (p+1)).dropWhile nmC) with
   | none=>none
   | some (v,r')=>attrL (addA L (s[p]::(s.drop (p+1)).takeWhile nmC) v) r'):=by
 conv=>lhs;rw [attrL_eq,← sp_at,hp,List.drop_eq_getElem_cons h]
 all_goals rfl
theorem isB_at {s:List UInt8} {p:Nat} (h:p<s.length) (c:UInt8):isB c (s.drop p)=(s[p] == c):=by
 unfold isB
 rw [List.head?_drop,List.getElem?_eq_getElem h,Bool.eq_iff_iff,beq_iff_eq,beq_iff_eq]
 exact ⟨Option.some.inj,congrArg some⟩
theorem beg_close {s:List UInt8} {p:Nat} (h:p<s.length):begR (s.drop p) [47,62]=(s[p] == 47&&s[p+1]? == some 62):=by
 have l47:∀ n:Fin 256,(lowB (UInt8.ofNat n.val) == 47)=(UInt8.ofNat n.val == 47):=by decide +kernel
 have l62:∀ n:Fin 256,(lowB (UInt8.ofNat n.val) == 62)=(UInt8.ofNat n.val == 62):=by decide +kernel
 have e1:=l47 ⟨s[p].toNat,s[p].toNat_lt⟩
 simp only [UInt8.ofNat_toNat] at e1
 rw [List.drop_eq_getElem_cons h,begR,e1]
 congr 1
 cases hd:s.drop (p+1) with
 | nil =>
   have:=List.drop_eq_nil_iff.1 hd
   rw [List.getElem?_eq_none (by omega)];rfl
 | cons d r =>
   have hg:s[p+1]? = some d:=by have:=congrArg List.head? hd;rwa [List.head?_drop] at this
   have e2:=l62 ⟨d.toNat,d.toNat_lt⟩
   simp only [UInt8.ofNat_toNat] at e2
   rw [hg,begR,e2]
   simp [begR]
set_option maxRecDepth 100000 in
set_option maxHeartbeats 16000000 in
theorem attrs_c (s:List UInt8) (at_:Nat) (hs:s.length≤100000) (hat:at_≤s.length) (w:World) (hGl:Glob w) :
  Calls Tryz.prog 125 #[.string (B s),.int .i64 (at_:Int)] w fun e w'=>(∃ v,e = .returned (.tuple #[v,.bool (atRes s (attrL [] (s.drop at_))).2.1,.int .i64 (atRes s (attrL [] (s.drop at_))).2.2.1,.bool (atRes s (attrL [] (s.drop at_))).2.2.2]) ∧
   Kd.R atK 87 w' w.heap.size (fun _=>True) v (atRes s (attrL [] (s.drop at_))).1)∧Below w.heap.size w w':=by
 have HG:=Lib.hid hGl
 have SP:=Lib.hid (fun W p (hp:p≤s.length) hI hB=>spaces_c w W w.heap.size s p (by omega) hp hI hB)
 have IS:=Lib.hid (fun c W p hI hB=>is_c c w W w.heap.size s p hI hB)
 have UP:=Lib.hid (fun W p (hp:p<s.length) hI hB=>upTo_c [47,62,61] w W w.heap.size s p (by omega) hp hI hB)
 have VA:=Lib.hid (fun W p (hp:p≤s.length) hI hB=>value_c w W w.heap.size s p (by omega) hp hI hB)
 have BG:=Lib.hid (fun p (hp:p≤s.length) W=>nbegins_c s [47,62] p (by omega) (by decide) hp W)
 have LW:Hid (∀ l:List UInt8,l.length≤1000000→∀ W,Calls Tryz.prog 126 #[.string (B l)] W fun e w'=>e = .returned (.string (B (lowL l)))∧Below W.heap.size W w'):=Lib.hid (fun l hl W=>by
  have:=lower_any (B l) W (by rw [size_B];omega)
  unfold lowBA at this
  rw [B_data] at this
  exact this)
 have CLN:Hid (∀ l:List UInt8,l.length≤10000000→∀ W,Glob W→Calls Tryz.prog 21 #[.string (B l)] W fun e w'=>e = .returned (.string (B (cleanL l)))∧Below W.heap.size W w'):=Lib.hid (fun l hl W hG=>by
  have:=clean_any (B l) W (by rw [size_B];omega) hG
  unfold cleanBA at this
  rw [B_data] at this
  exact this)
 have RD:=Lib.hid (fun (l:List UInt8) (hl:l.length≤100000) W hG=>rdecode_c l true hl W hG hG.toE)
 have CT:=Lib.hid (fun A c l nm W hr hl hm hc=>contains_c A c l nm (w.heap.size+1) W hr hl hm hc)
 have HSL:=Lib.hid hs
 obtain ⟨R,hR⟩:∃ R,attrL [] (s.drop at_)=R:=⟨_,rfl⟩
 have HR:=Lib.hid hR
 rw [hR]
 obtain ⟨a,ha⟩:∃ a,B s=a:=⟨_,rfl⟩
 have hsz:a.size=s.length:=by rw [← ha];simp
 have HA:=Lib.hid ha
 have HSZ:=Lib.hid hsz
 rw [ha] at BG
 have hz:a.size≤100000:=by omega
 have q1:decide ((at_:Int)<0)=false:=decide_eq_false (by omega)
 have q2:decide (a.size<at_)=false:=decide_eq_false (by omega)
 have HAT:=Lib.hid hat
 have hS0:Hid (ASt w ((w.alloc (.cells #[.string a,.int .i64 (at_:Int)] 195)).alloc (.cells #[.string ⟨#[]⟩,.string ⟨#[]⟩] 87)) s at_ ⟨#[]⟩ ⟨#[]⟩ (.slice none 0 0) []):=Lib.hid (by
  have h1:=IsS195.new w w a (at_:Int) (Below.refl _ _)
  have e:Rdr w (w.alloc (.cells #[.string a,.int .i64 (at_:Int)] 195)) w.heap.size s at_:=by show IsS195 _ _ _ (B s) _;rw [ha];exact h1
  refine ⟨e.alloc _,?_,Kd.R_nil _ _ _ _ _,below_alloc (below_alloc (Below.refl _ _) _) _⟩
  have:=heap_alloc_new (w.alloc (.cells #[.string a,.int .i64 (at_:Int)] 195)) (.cells #[.string ⟨#[]⟩,.string ⟨#[]⟩] 87)
  simpa using this)
 rw [ha]
 clear hGl hs hR ha hsz hat
 go_enter Tryz.func125,Tryz.ntmps125
 go_wp2_with fail
 refine wp_scope_back 0 (AtJ a (at_:Int) s w R) rfl ?_ ?_
 · intro hB
   have HB:=Lib.hid hB
   clear hB
   go_wp2_with fail
   refine wp_label_k (by assumption) (HB.out (s.length - at_+1) _ _ ?_)
   exact ⟨at_,⟨#[]⟩,⟨#[]⟩,.slice none 0 0,false,[],rfl,hS0,HAT.out,Nat.lt_succ_self _,Nat.zero_le _,HR⟩
 · rintro n a' W ⟨pos,x,y,v,wh,L,hu,HS,hp,hn,hL,HQ⟩
   obtain ⟨u,rfl⟩:∃ u,a'=AtF a (at_:Int) w.heap.size v wh u:=⟨_,hu⟩
   clear hu
   clear hS0
   unfold AtF
   go_wp2_with fail
   refine (SP.out _ pos hp HS.out.rd HS.out.below).mono ?_
   rintro e w1 ⟨rfl,h2⟩
   replace HS:=Lib.hid (HS.out.step h2)
   clear h2
   have hp1:=spc_le s pos hp
   obtain ⟨p,hpe⟩:∃ p,pos+spc (s.drop pos)=p:=⟨_,rfl⟩
   rw [hpe] at HS hp1
   have HPE:=Lib.hid hpe
   have hpp:pos≤p:=by omega
   have hpb:p≤100000:=by have:=HSL.out;omega
   have c0:=HS.out.c0
   have c1:=HS.out.c1
   rw [HA.out] at c0
   clear hpe
   by_cases hend:p=s.length
   · have qe:((p:Int) == (a.size:Int))=true:=by rw [beq_iff_eq];have:=HSZ.out;omega
     have qe2:(p == a.size)=true:=by rw [beq_iff_eq];have:=HSZ.out;omega
     have hRn:R=none:=by rw [← HQ.out];exact attrL_end (by rw [HPE.out];exact hend)
     have HRn:=Lib.hid hRn
     clear hend hRn
     go_wp2_with fail
     simp only [Exit.jumps]
     refine bodyPost_ret (v:=.tuple #[.slice none 0 0,.bool false,.int .i64 (a.size:Int),.bool false]) (by simp [results,Tryz.results125,go_sem]) rfl ?_
     rw [HRn.out]
     exact ⟨⟨_,by rw [HSZ.out];rfl,Kd.R_nil _ _ _ _ _⟩,HS.out.below⟩
   have hlt:p<s.length:=by omega
   have qe:((p:Int) == (a.size:Int))=false:=by rw [beq_eq_false_iff_ne];have:=HSZ.out;omega
   have qe2:(p == a.size)=false:=by rw [beq_eq_false_iff_ne];have:=HSZ.out;omega
   have hQ:=attrL_at (L:=L) HPE.out hlt
   rw [HQ.out] at hQ
   obtain ⟨c,hc⟩:∃ c,s[p]=c:=⟨_,rfl⟩
   rw [hc] at hQ
   have I62:=IS.out 62 _ p HS.out.rd HS.out.below
   rw [isB_at hlt,hc] at I62
   have HI62:=Lib.hid I62
   have HQ2:=Lib.hid hQ
   have HC:=Lib.hid hc
   clear I62 hQ hc HQ hend
   by_cases h62:c=62
   · have e62:(c == 62)=true:=by rw [h62];rfl
     have hRn:R=some (L,false,s.drop (p+1)):=by rw [HQ2.out,if_pos h62]
     have HRn:=Lib.hid hRn
     rw [e62] at HI62
     clear h62 e62 hRn
     go_wp2_with fail
     refine HI62.out.mono ?_
     rintro e w2 ⟨rfl,h2⟩
     replace HS:=Lib.hid (HS.out.step h2)
     clear h2 c0 c1
     have c1:=HS.out.c1
     go_wp2_with fail
     go_quiet (fail)
     go_wp2_with fail
     simp only [Exit.jumps]
     refine bodyPost_ret (v:=.tuple #[v,.bool false,.int .i64 ((p:Int)+1),.bool true]) (by simp [results,Tryz.results125,go_sem]) rfl ?_
     rw [HRn.out]
     have hS2:=HS.out.drewN (w2.drewN 0 |> fun _=>0)
     refine ⟨⟨v,?_,Kd.R_mono (HS.out.drewN _).row (fun _ _=>trivial)⟩,(HS.out.drewN _).below⟩
     have:s.length - (s.drop (p+1)).length=p+1:=by rw [List.length_drop];omega
     simp only [atRes,this];rfl
   have e62:(c == 62)=false:=by rw [beq_eq_false_iff_ne];exact h62
   rw [e62] at HI62
   have hQ3:=HQ2.out
   rw [if_neg h62] at hQ3
   have HQ3:=Lib.hid hQ3
   have B1:=fun W=>BG.out p hp1 W
   rw [beg_close hlt,HC.out] at B1
   obtain ⟨bc,hbc⟩:∃ b,(c == 47&&s[p+1]? == some 62)=b:=⟨_,rfl⟩
   rw [hbc] at B1
   have HB1:=Lib.hid B1
   have HBC:=Lib.hid hbc
   clear hQ3 B1 hbc e62 HQ2
   have h62':=Lib.hid h62
   clear h62
   go_wp2_with fail
   refine HI62.out.mono ?_
   rintro e w2 ⟨rfl,h2⟩
   replace HS:=Lib.hid (HS.out.step h2)
   clear h2 c0 c1 HI62
   have c1:=HS.out.c1
   go_wp2_with fail
   refine (HB1.out _).mono ?_
   rintro e w3 ⟨rfl,hb⟩
   replace HS:=Lib.hid (HS.out.call hb)
   clear hb c1 HB1
   have c1:=HS.out.c1
   cases bc with
   | true =>
     have hcc:=HBC.out
     rw [Bool.and_eq_true,beq_iff_eq,beq_iff_eq] at hcc
     obtain ⟨h47,hg⟩:=hcc
     have hlt2:p+1<s.length:=(List.getElem?_eq_some_iff.1 hg).1
     have hd1:s.drop (p+1)=62::s.drop (p+2):=by rw [List.drop_eq_getElem_cons hlt2,(List.getElem?_eq_some_iff.1 hg).2]
     have hRn:R=some (L,true,s.drop (p+2)):=by rw [HQ3.out,if_pos h47,hd1];simp
     have HRn:=Lib.hid hRn
     clear h47 hg hd1 hRn
     go_wp2_with fail
     go_quiet (fail)
     go_wp2_with fail
     simp only [Exit.jumps]
     refine bodyPost_ret (v:=.tuple #[v,.bool true,.int .i64 ((p:Int)+2),.bool true]) (by simp [results,Tryz.results125,go_sem]) rfl ?_
     rw [HRn.out]
     refine ⟨⟨v,?_,Kd.R_mono (HS.out.drewN _).row (fun _ _=>trivial)⟩,(HS.out.drewN _).below⟩
     have:s.length - (s.drop (p+2)).length=p+2:=by rw [List.length_drop];omega
     simp only [atRes,this];rfl
   | false =>
     have I47:=IS.out 47 _ p HS.out.rd HS.out.below
     rw [isB_at hlt,HC.out] at I47
     by_cases h47:c=47
     · have e47:(c == 47)=true:=by rw [h47];rfl
       rw [e47] at I47
       have HI47:=Lib.hid I47
       have hn62:s[p+1]? ≠ some 62:=by
        intro e
        have:=HBC.out
        rw [e47,e] at this
        cases this
       have hQ4:attrL L (s.drop (p+1))=R:=by
        rw [HQ3.out,if_pos h47]
        cases hd:s.drop (p+1) with
        | nil =>
          have e:attrL L ([]:List UInt8)=none:=by rw [attrL_eq];rfl
          rw [e]
        | cons d r =>
          have hg:s[p+1]? = some d:=by have:=congrArg List.head? hd;rwa [List.head?_drop] at this
          simp only
          rw [if_neg (by rintro rfl;exact hn62 hg)]
       have HQ4:=Lib.hid hQ4
       clear I47 e47 hn62 hQ4 h47 HQ3
       go_wp2_with fail
       refine HI47.out.mono ?_
       rintro e w4 ⟨rfl,h2⟩
       replace HS:=Lib.hid (HS.out.step h2)
       clear h2 c1 HI47
       have c1:=HS.out.c1
       have f1:=HS.out.f1
       have HSP:=HS.out.setp (p+1)
       rw [show ((p+1:Nat):Int)=(p:Int)+1 by omega] at HSP
       have HSP2:=Lib.hid HSP
       clear HSP
       go_wp2_with fail
       go_step3
       exact ⟨rfl,s.length - (p+1)+1,by omega,p+1,x,y,v,wh,L,rfl,HSP2,by omega,Nat.lt_succ_self _,by omega,HQ4⟩
     · have e47:(c == 47)=false:=by rw [beq_eq_false_iff_ne];exact h47
       rw [e47] at I47
       have HI47:=Lib.hid I47
       have hQ4:=HQ3.out
       rw [if_neg h47] at hQ4
       obtain ⟨nm,hnm⟩:∃ nm,c::(s.drop (p+1)).takeWhile nmC=nm:=⟨_,rfl⟩
       have hnl:nm.length≤100000:=by
        have h1:=tw_len nmC (s.drop (p+1))
        rw [List.length_drop] at h1
        have h2:=HSL.out
        rw [← hnm,List.length_cons];omega
       obtain ⟨p2,hp2⟩:∃ p2,p+1+((s.drop (p+1)).takeWhile nmC).length=p2:=⟨_,rfl⟩
       have hp2l:p2≤s.length:=by
        have h1:=tw_len nmC (s.drop (p+1))
        rw [List.length_drop] at h1
        omega
       have hp2g:p+1≤p2:=by omega
       rw [dw_drop,List.drop_drop,hp2,hnm] at hQ4
       have HQ4:=Lib.hid hQ4
       have UPc:=fun W hI hB=>UP.out W p hlt hI hB
       rw [nm_upC,hp2,HC.out,hnm] at UPc
       have HUP:=Lib.hid UPc
       have LWn:=Lib.hid (LW.out nm (by omega))
       have hll:(lowL nm).length≤100000:=by unfold lowL;rw [List.length_map];exact hnl
       have CLn:=Lib.hid (CLN.out (lowL nm) (by omega))
       obtain ⟨ln,hln⟩:∃ ln,lowL nm=ln:=⟨_,rfl⟩
       obtain ⟨cn,hcn⟩:∃ cn,cleanL ln=cn:=⟨_,rfl⟩
       rw [hln] at LWn CLn
       rw [hcn] at CLn
       have HCN:Hid (cleanL (lowL nm)=cn):=Lib.hid (by rw [hln,hcn])
       have HP2:=Lib.hid hp2l
       clear I47 e47 hQ4 h47 HQ3 hnm hp2 UPc hll hln hcn hnl
       go_wp2_with fail
       refine HI47.out.mono ?_
       rintro e w4 ⟨rfl,h2⟩
       replace HS:=Lib.hid (HS.out.step h2)
       clear h2 c1 HI47
       go_wp2_with fail
       refine (HUP.out _ HS.out.rd HS.out.below).mono ?_
       rintro e w5 ⟨rfl,h2⟩
       replace HS:=Lib.hid (HS.out.step h2)
       clear h2 HUP
       go_wp2_with fail
       refine (LWn.out _).mono ?_
       rintro e w6 ⟨rfl,hb⟩
       replace HS:=Lib.hid (HS.out.call hb)
       clear hb LWn
       go_wp2_with fail
       refine (CLn.out _ (HG.out.step HS.out.below)).mono ?_
       rintro e w7 ⟨rfl,hb⟩
       replace HS:=Lib.hid (HS.out.call hb)
       clear hb CLn
       have d0:=HS.out.d0
       have g0:=HS.out.g0
       have HSX:=Lib.hid (HS.out.setx (B cn))
       have V1:=Lib.hid (VA.out _ p2 HP2.out HSX.out.rd HSX.out.below)
       go_wp2_with fail
       refine V1.out.mono ?_
       rintro e w8 ⟨⟨vv,b,p4,hvo,rfl,hrd⟩,hbw,hkp⟩
       replace HS:=Lib.hid (HSX.out.step ⟨hrd,hbw,hkp⟩)
       clear hrd hbw hkp V1 HSX d0 g0
       have HVO:=Lib.hid hvo
       clear hvo
       have d1:=HS.out.d1
       have g1:=HS.out.g1
       cases b with
       | false =>
         have hRn:R=none:=by
          rw [HQ4.out]
          rcases HVO.out.2.2.2 with ⟨h,_⟩|⟨_,h⟩
          · cases h
          · rw [h]
         have HRn:=Lib.hid hRn
         have HSY:=Lib.hid (HS.out.sety (B vv))
         clear hRn
         go_wp2_with fail
         simp only [Exit.jumps]
         refine bodyPost_ret (v:=.tuple #[.slice none 0 0,.bool false,.int .i64 (a.size:Int),.bool false]) (by simp [results,Tryz.results125,go_sem]) rfl ?_
         rw [HRn.out]
         exact ⟨⟨_,by rw [HSZ.out];rfl,Kd.R_nil _ _ _ _ _⟩,HSY.out.below⟩
       | true =>
         obtain ⟨v1,v2,v3,v4⟩:=HVO.out
         have hv:valA (s.drop p2)=some (vv,s.drop p4):=by
          rcases v4 with ⟨_,h⟩|⟨h,_⟩
          · exact h
          · cases h
         have hR4:attrL (addA L nm vv) (s.drop p4)=R:=by rw [HQ4.out,hv]
         have RDn:=Lib.hid (RD.out vv (by have:=HSL.out;omega))
         have hrl:=rdL_le true vv
         obtain ⟨dv,hdv⟩:∃ dv,rdL true vv=dv:=⟨_,rfl⟩
         rw [hdv] at hrl RDn
         have CLv:=Lib.hid (CLN.out dv (by have:=HSL.out;omega))
         obtain ⟨cv,hcv⟩:∃ cv,cleanL dv=cv:=⟨_,rfl⟩
         rw [hcv] at CLv
         have hadd:addA L nm vv=if L.any (fun a=>a.1 == cn)=true then L else L++[(cn,cv)]:=by
          unfold addA;rw [HCN.out,hdv,hcv]
         rw [hadd] at hR4
         have HR4:=Lib.hid hR4
         have hany:=has_of cn L
         have HANY:=Lib.hid hany
         have HSY:=Lib.hid (HS.out.sety (B vv))
         have e1:=HSY.out.d1
         have h1:=HSY.out.g1
         have hp4:p+1≤p4:=by omega
         have HP4:=Lib.hid v1
         clear v1 v2 v3 v4 hv hR4 hrl hdv hcv hadd hany HVO
         go_wp2_with fail
         refine (RDn.out _ (HG.out.step HSY.out.below)).mono ?_
         rintro e w9 ⟨rfl,hb⟩
         replace HS:=Lib.hid (HSY.out.call hb)
         clear hb RDn e1 h1 d1 g1 HSY
         go_wp2_with fail
         refine (CLv.out _ (HG.out.step HS.out.below)).mono ?_
         rintro e w10 ⟨rfl,hb⟩
         replace HS:=Lib.hid (HS.out.call hb)
         clear hb CLv
         have d1:=HS.out.d1
         have g1:=HS.out.g1
         have HSY:=Lib.hid (HS.out.sety (B cv))
         obtain ⟨A0,c00,hv0,hlc,hrC⟩:=Kd.R_reads HSY.out.row
         have CTn:=Lib.hid (CT.out A0 c00 (L.map ofT) (B cn) _ hrC hlc (by rw [List.length_map];omega) HSY.out.d0)
         rw [HANY.out] at CTn
         rw [← hv0] at CTn
         have HV0:=Lib.hid hv0
         clear hrC hv0 hlc
         obtain ⟨bn,hbn⟩:∃ b,(L.any (fun a=>a.1 == cn))=b:=⟨_,rfl⟩
         have hR5:=HR4.out
         rw [hbn] at hR5 CTn
         have HR5:=Lib.hid hR5
         clear hR5 HR4 HANY hbn
         have hnotc:c=c:=rfl
         go_wp2_with fail
         refine CTn.out.mono ?_
         rintro e w11 ⟨rfl,hb⟩
         replace HS:=Lib.hid (HSY.out.call hb)
         clear hb CTn HSY d1 g1
         cases bn with
         | true =>
           go_wp2_with fail
           go_step3
           exact ⟨rfl,s.length - p4+1,by omega,p4,_,_,v,_,L,rfl,HS,HP4.out,Nat.lt_succ_self _,by omega,HR5.out⟩
         | false =>
           have d0:=HS.out.d0
           have d1:=HS.out.d1
           have HLL:=Lib.hid hL
           rw [if_neg (by decide)] at HR5
           go_wp2_with (first | ((with_reducible refine gate_builtin (b:=.append) (xs := #[.tmp 92,.tmp 94]) rfl ?_);at_builtin;refine Kd.R_append atK (w0:=w) w.heap.size rfl (.tmp 92) (.tmp 94) 44 87 (.agg #[.string ⟨#[]⟩,.string ⟨#[]⟩]) 32 rfl Tryz.underlying44 infoA rfl (by decide) (by decide) v (L.map ofT) (ofT (cn,cv)) [.string (B cn),.string (B cv)] (okA w.heap.size) (fun _=>False) rfl rfl (k87_mkM _ _ _ _) (fun _ h=>h.elim) ?aF ?aO ?aB ?aS ?aL ?_;(case aF=>exact (fun k hk=>⟨by have:=HS.out.lt;omega,by have:=HS.out.lt;omega⟩));(case aO=>exact HS.out.row);(case aB=>exact HS.out.below);(case aS=>exact HS.out.below.size);(case aL=>(rw [List.length_map];have:=HSL.out;have:=HLL.out;omega));intro v1 w12 ho hb hg hat))
           have hSF:=HS.out.grown (v1:=v1) (l1:=(L++[(cn,cv)]).map ofT) (by rw [List.map_append];exact ho) hb hg
           have HSF:=Lib.hid hSF
           clear ho hb hg hat hSF d0 d1
           go_wp2_with fail
           go_step3
           exact ⟨rfl,s.length - p4+1,by omega,p4,_,_,v1,_,L++[(cn,cv)],rfl,HSF,HP4.out,Nat.lt_succ_self _,by rw [List.length_append];simp;omega,HR5.out⟩
end Go.Proofs.YtcecjoaeolglbaaGreatDoor.Hand
end

section
namespace Go.Proofs.YtcecjoaeolglbaaGreatDoor.Hand
open Go Go.RowKit Go.Proofs.YtcecjoaeolglbaaGreatDoor.K0 Go.Proofs.YtcecjoaeolglbaaGreatDoor.Pl Go.Proofs.YtcecjoaeolglbaaGreatDoor.Pb Go.Proofs.YtcecjoaeolglbaaGreatDoor.Sa Go.Proofs.YtcecjoaeolglbaaGreatDoor.Pure Go.Proofs.YtcecjoaeolglbaaGreatDoorW.PrintWords
set_option maxRecDepth 100000 in
set_option maxHeartbeats 4000000 in
theorem tagBegins_c (s:List UInt8) (p:Nat) (hs:s.length≤100000) (hp:p≤s.length) (w:World) :
  Calls Tryz.prog 89 #[.string (B s),.int .i64 (p:Int)] w fun e w'=>e = .returned (.bool (tagN (s.drop p) != 0))∧Below w.heap.size w w':=by
 have NM:=Lib.hid (name_c s p hs hp)
 obtain ⟨T,hT⟩:∃ T,tagN (s.drop p)=T:=⟨_,rfl⟩
 rw [hT] at NM ⊢
 obtain ⟨a,ha⟩:∃ a,B s=a:=⟨_,rfl⟩
 rw [ha] at NM ⊢
 have q:decide ((0:Int)<(T:Int))=(T != 0):=by
  rw [Bool.eq_iff_iff,decide_eq_true_iff,bne_iff_ne];omega
 clear hT ha
 go_enter Tryz.func89,Tryz.ntmps89
 go_wp2_with fail
 refine (NM.out _).mono ?_
 rintro e w1 ⟨rfl,hb⟩
 go_wp2_with fail
 go_ret
 exact ⟨by rw [← q];simp,hb⟩
def tkC:Tk→Int×List UInt8×List UInt8×List AttrT×Bool
 | .text s=>(0,[],s,[],false)
 | .start n l b=>(1,n,[],l,b)
 | .fin n=>(2,n,[],[],false)
 | .comment s=>(3,[],s,[],false)
 | .doctype s=>(4,[],s,[],false)
def TkRet (s:List UInt8) (R:Option Tk×List UInt8) (w:World) (e:Ending) (w':World):Prop :=
 match R.1 with
 | none=>e = .returned (.tuple #[.agg #[.int .i64 0,.string ⟨#[]⟩,.string ⟨#[]⟩,.slice none 0 0,.bool false],.int .i64 ((s.length - R.2.length:Nat):Int),.bool false])
 | some t => ∃ v,e = .returned (.tuple #[.agg #[.int .i64 (tkC t).1,.string (B (tkC t).2.1),.string (B (tkC t).2.2.1),v,.bool (tkC t).2.2.2.2],.int .i64 ((s.length - R.2.length:Nat):Int),.bool true]) ∧
    Kd.R atK 87 w' w.heap.size (fun _=>True) v ((tkC t).2.2.2.1.map ofT)
theorem dw_tw (f:UInt8→Bool) (l:List UInt8):l.dropWhile f=l.drop (l.takeWhile f).length∧l.takeWhile f=l.take (l.takeWhile f).length:=by
 induction l with
 | nil=>exact ⟨rfl,rfl⟩
 | cons c r ih =>
   rw [List.dropWhile_cons,List.takeWhile_cons]
   split
   · exact ⟨ih.1,by rw [List.length_cons,List.take_succ_cons,← ih.2]⟩
   · exact ⟨rfl,rfl⟩
theorem tw_in (f:UInt8→Bool) (l:List UInt8):∀ j (h:j<l.length),j<(l.takeWhile f).length→f l[j]=true:=by
 intro j h hj
 have h1:=(List.takeWhile_prefix f (l:=l)).getElem hj
 rw [← h1]
 exact List.all_eq_true.1 (List.all_takeWhile (p:=f) (l:=l)) _ (List.getElem_mem hj)
theorem tw_out (f:UInt8→Bool) (l:List UInt8):∀ (h:(l.takeWhile f).length<l.length),f l[(l.takeWhile f).length]=false:=by
 induction l with
 | nil=>intro h;exact absurd h (by simp)
 | cons c r ih =>
   intro h
   by_cases hc:f c=true
   · have e:(c::r).takeWhile f=c::r.takeWhile f:=by rw [List.takeWhile_cons,if_pos hc]
     simp only [e,List.length_cons,List.getElem_cons_succ] at h ⊢
     exact ih (by omega)
   · have e:(c::r).takeWhile f=[]:=by rw [List.takeWhile_cons,if_neg hc]
     simp only [e,List.length_nil,List.getElem_cons_zero]
     exact Bool.eq_false_iff.2 hc
theorem tagN_le (l:List UInt8):tagN l≤2∧tagN l≤l.length:=by
 match l with
 | []=>exact ⟨Nat.zero_le _,Nat.zero_le _⟩
 | [c]=>exact ⟨Nat.zero_le _,Nat.zero_le _⟩
 | a::c::r =>
   rw [tagN_cons]
   refine ⟨?_,?_⟩
   · repeat' split
     all_goals omega
   · simp only [List.length_cons]
     repeat' split
     all_goals omega
theorem byte_ne (n:Int) {c m:UInt8} (h:c≠m) (hm:(m.toNat:Int)=n:=by rfl):(((c.toNat:Int)) == n)=false:=by
 rw [beq_eq_false_iff_ne,← hm]
 intro e
 exact h (UInt8.toNat_inj.1 (by omega))
theorem byte_eq (n:Int) {c m:UInt8} (h:c=m) (hm:(m.toNat:Int)=n:=by rfl):(((c.toNat:Int)) == n)=true:=by
 rw [beq_iff_eq,h,hm]
set_option maxRecDepth 100000 in
theorem wrap_add {x y z:Nat} (h:x+y=z) (hz:z≤200000):wrap64 ((x:Int)+(y:Int))=(z:Int):=by unfold wrap64;omega
set_option maxRecDepth 100000 in
theorem wrap_add2 {x y z:Nat} (h:x+y=z) (hz:z≤200000):IntKind.i64.wrap ((x:Int)+(y:Int))=(z:Int):=by simp [IntKind.wrap_i64];omega
structure TkB (w W:World) (cs:Array Value):Prop where
 glob:Glob W
 below:Below w.heap.size w W
 lt:w.heap.size<W.heap.size
 row:W.heap[w.heap.size]? = some (.cells cs 46 (0,0))
theorem TkB.call {w W W':World} {cs:Array Value} (h:TkB w W cs) (hb:Below W.heap.size W W'):TkB w W' cs :=
 ⟨h.glob.step hb,h.below.trans (hb.mono h.below.size),Nat.lt_of_lt_of_le h.lt hb.size,(hb.block _ h.lt).trans h.row⟩
theorem TkB.start {w:World} (h:Glob w) (cs:Array Value):TkB w (w.alloc (.cells cs 46)) cs:=by
 have hb:Below w.heap.size w (w.alloc (.cells cs 46)):=Below.alloc (Below.refl _ _) (Nat.le_refl _) _
 exact ⟨h.step hb,hb,by simp,Array.getElem?_push_size⟩
theorem TkB.set {w W:World} {cs:Array Value} (h:TkB w W cs) (cs':Array Value):Below w.heap.size w (W.setRow w.heap.size cs')∧(∀ j,(W.setRow w.heap.size cs').cell? ⟨w.heap.size,j,none⟩=cs'[j]?)∧KeepBut W (W.setRow w.heap.size cs') w.heap.size none :=
 ⟨⟨by rw [setRow_os];exact h.below.os,by rw [setRow_tape];exact h.below.tape,by rw [setRow_output];exact h.below.output,by rw [setRow_size];exact h.below.size,fun i hi=>by
    rw [setRow_other _ _ _ _ (by omega)];exact h.below.block i hi⟩,
   fun j=>cell_setRow_same _ _ _ _ _ _ _ h.row,by rw [setRow_size];exact Nat.le_refl _,fun i hi hne _=>setRow_other _ _ _ _ hne⟩
theorem at_lower {w:World} {base base':Nat} {ok:Nat→Prop} {v:Value} {l:List AtS} (h:Kd.R atK 87 w base ok v l) (hb:base'≤base):Kd.R atK 87 w base' ok v l :=
 ⟨h.1,(h.2.lower hb).imp_ (fun p c hp=>by rw [k87_openM hp];exact k87_mkM _ _ _ _)⟩
abbrev tkV (k:Int) (n t:ByteArray) (v:Value) (b:Bool):Array Value := #[.int .i64 k,.string n,.string t,v,.bool b]
theorem tkV_one (k:Int) (n t:ByteArray) (A:Option Addr) (m c:Nat) (b:Bool):(tkV k n t (.slice A m c) b).all (·.oneCell')=true:=by simp [tkV,Value.oneCell']
abbrev tkZ:Array Value:=tkV 0 ⟨#[]⟩ ⟨#[]⟩ (.slice none 0 0) false
set_option maxRecDepth 100000 in
set_option maxHeartbeats 16000000 in
theorem tagRead_c (s:List UInt8) (p:Nat) (hs:s.length≤100000) (hp:p≤s.length) (w:World) (hGl:Glob w) :
  Calls Tryz.prog 90 #[.string (B s),.int .i64 (p:Int)] w fun e w'=>TkRet s (tagR (s.drop p)) w e w'∧Below w.heap.size w w':=by
 have HG:=Lib.hid hGl
 have NM:=Lib.hid (name_c s p hs hp)
 have AT:=Lib.hid (fun q (hq:q≤s.length) W hG=>attrs_c s q hs hq W hG)
 obtain ⟨T,hT⟩:∃ T,tagN (s.drop p)=T:=⟨_,rfl⟩
 have hR:tagR (s.drop p)=if T=0 then (none,s.drop p) else tagL (s.drop p):=by unfold tagR;rw [hT]
 rw [hT] at NM
 rw [hR]
 obtain ⟨a,ha⟩:∃ a,B s=a:=⟨_,rfl⟩
 rw [ha] at NM ⊢
 by_cases h0:T=0
 · subst h0
   rw [if_pos rfl]
   have HS:Hid (s.length - (s.drop p).length=p):=Lib.hid (by rw [List.length_drop];omega)
   have HB:=Lib.hid (TkB.start hGl tkZ)
   clear hR hGl ha AT
   go_enter Tryz.func90,Tryz.ntmps90
   go_wp2_with fail
   refine (NM.out _).mono ?_
   rintro e w1 ⟨rfl,hb⟩
   replace HB:=Lib.hid (HB.out.call hb)
   clear hb
   go_wp2_with (first | (refine wpList_store_row rfl 46 (.tmp 4) (.tmp 22) rfl w.heap.size tkZ rfl rfl 46 tkZ HB.out.row (by kernel_rfl) rfl (tkV_one _ _ _ _ _ _ _) ?_)|go_in)
   refine bodyPost_ret (results_ctt (p:=4) (u:=5) (v:=6) rfl _ _ w.heap.size 46 tkZ (0,0) _ rfl (setRow_heap _ _ _ _ _ _ HB.out.row) Tryz.underlying46 rfl (by kernel_rfl)) rfl ?_
   exact ⟨by unfold TkRet;rw [HS.out];rfl,(HB.out.set tkZ).1⟩
 rw [if_neg h0]
 have hl:=tagN_le (s.drop p)
 rw [hT,List.length_drop] at hl
 obtain ⟨fr,hfr⟩:∃ fr,p+T=fr:=⟨_,rfl⟩
 have hfl:fr≤s.length:=by omega
 have hf2:fr≤200000:=by omega
 obtain ⟨d1,d2⟩:=dw_tw stC (s.drop fr)
 have t1:=tw_in stC (s.drop fr)
 have t2:=tw_out stC (s.drop fr)
 obtain ⟨k,hk⟩:∃ k,((s.drop fr).takeWhile stC).length=k:=⟨_,rfl⟩
 have hkl:k≤s.length - fr:=by
  have:=(List.takeWhile_prefix stC (l:=s.drop fr)).length_le
  rw [hk,List.length_drop] at this;exact this
 obtain ⟨en,hen⟩:∃ e,fr+k=e:=⟨_,rfl⟩
 have hfe:fr≤en:=hen ▸ Nat.le_add_right fr k
 have hel:en≤s.length:=by omega
 have IN:Hid (∀ j (h:j<s.length),fr≤j→j<en→stC s[j]=true):=Lib.hid (fun j h h1 h2=>by
  have:=t1 (j - fr) (by rw [List.length_drop];omega) (by rw [hk];omega)
  rw [List.getElem_drop] at this
  have e:fr+(j - fr)=j:=by omega
  simp only [e] at this
  exact this)
 have OUT:Hid (∀ (h:en<s.length),stC s[en]=false):=Lib.hid (fun h=>by
  have:=t2 (by rw [hk,List.length_drop];omega)
  rw [List.getElem_drop] at this
  have e:fr+((s.drop fr).takeWhile stC).length=en:=by rw [hk];exact hen
  simp only [e] at this
  exact this)
 rw [hk,List.drop_drop,hen] at d1
 rw [hk] at d2
 have hNM:∀ X,nameL ((s.drop p).drop T)=cleanL (lowL X)↔cleanL (lowL ((s.drop fr).take k))=cleanL (lowL X):=by
  intro X;unfold nameL;rw [List.drop_drop,hfr,d2]
 have htag:tagL (s.drop p)=match attrL [] (s.drop en) with
   | none=>(none,[])
   | some (al,self,r)=>(some (if T=2 then .fin (cleanL (lowL ((s.drop fr).take k))) else .start (cleanL (lowL ((s.drop fr).take k))) al self),r):=by
  unfold tagL
  rw [hT,List.drop_drop,hfr,d1]
  cases attrL [] (s.drop en) with
  | none=>rfl
  | some x =>
    obtain ⟨al,self,r⟩:=x
    simp only
    by_cases h2:T=2
    · rw [if_pos h2,if_pos h2,← h2,List.drop_drop,hfr];unfold nameL;rw [d2]
    · have h1:T=1:=by omega
      rw [if_neg h2,if_neg h2,← h1,List.drop_drop,hfr];unfold nameL;rw [d2]
 rw [htag]
 have A1:=Lib.hid (fun W hG=>AT.out en hel W hG)
 have hsz:a.size=s.length:=by rw [← ha,size_B]
 have HX:Hid (∀ j (h:j<a.size) (h':j<s.length),a[j]=s[j]):=Lib.hid (fun j h h'=>by subst ha;rfl)
 have SP:=Lib.hid (fun (c:UInt8) W=>((sign_Space.calls _ _ W (sp_f c)).mono fun _ _ h=>⟨h.1,h.2.below⟩:Calls Tryz.prog 124 #[.int .u8 (c.toNat:Int)] W fun e w'=>e = .returned (.bool (isSp c))∧Below W.heap.size W w'))
 have HB:=Lib.hid (TkB.start hGl tkZ)
 have HSZ:=Lib.hid hsz
 have q0:((T:Int) == 0)=false:=by rw [beq_eq_false_iff_ne];omega
 have HFE:Hid (fr≤en∧en≤s.length∧s.length≤100000):=Lib.hid ⟨hfe,hel,hs⟩
 clear hR htag hNM t1 t2 d1 hGl AT hkl
 have hex:a.extract fr en=B ((s.drop fr).take k):=by rw [← ha,B_extract,← hen,List.drop_take,Nat.add_sub_cancel_left]
 have LW:Hid (∀ W,Calls Tryz.prog 126 #[.string (a.extract fr en)] W fun e w'=>e = .returned (.string (B (lowL ((s.drop fr).take k))))∧Below W.heap.size W w'):=Lib.hid (fun W=>by
  rw [hex]
  have:=lower_any (B ((s.drop fr).take k)) W (by rw [size_B,List.length_take,List.length_drop];omega)
  unfold lowBA at this
  rw [B_data] at this
  exact this)
 have CLN:Hid (∀ W,Glob W→Calls Tryz.prog 21 #[.string (B (lowL ((s.drop fr).take k)))] W fun e w'=>e = .returned (.string (B (cleanL (lowL ((s.drop fr).take k)))))∧Below W.heap.size W w'):=Lib.hid (fun W hG=>by
  have:=clean_any (B (lowL ((s.drop fr).take k))) W (by rw [size_B];unfold lowL;rw [List.length_map,List.length_take,List.length_drop];omega) hG
  unfold cleanBA at this
  rw [B_data] at this
  exact this)
 obtain ⟨NM0,hNM0⟩:∃ X,cleanL (lowL ((s.drop fr).take k))=X:=⟨_,rfl⟩
 rw [hNM0] at CLN ⊢
 obtain ⟨LO,hLO⟩:∃ X,B (lowL ((s.drop fr).take k))=X:=⟨_,rfl⟩
 rw [hLO] at LW CLN
 obtain ⟨X,hX⟩:∃ X,attrL [] (s.drop en)=X:=⟨_,rfl⟩
 rw [hX] at A1 ⊢
 have g1:(0:Int)≤(fr:Int):=by clear d2;omega
 have g2:(fr:Int)≤(en:Int):=Int.ofNat_le.2 hfe
 have g3:(en:Int)≤(a.size:Int):=by rw [hsz];exact Int.ofNat_le.2 hel
 have T12:T=1∨T=2:=by clear d2;omega
 clear hX hex hNM0 hLO d2 hk hen hel hfl hl hfe
 have w1:wrap64 ((p:Int)+(T:Int))=(fr:Int):=wrap_add hfr hf2
 have w2:IntKind.i64.wrap ((p:Int)+(T:Int))=(fr:Int):=wrap_add2 hfr hf2
 clear hf2
 rw [ha] at A1
 go_enter Tryz.func90,Tryz.ntmps90
 go_wp2_with fail
 refine (NM.out _).mono ?_
 rintro e w1 ⟨rfl,hb⟩
 replace HB:=Lib.hid (HB.out.call hb)
 clear hb
 go_upto_block 0 with fail
 go_cut [10] from 28 to 52 (fun v10 wc=>v10 = .int .i64 (en:Int)∧Hid (TkB w wc tkZ))
 case first =>
  go_wp2_with fail
  go_loopw [10] (fun v wx => ∃ i:Nat,v = .int .i64 (i:Int)∧fr≤i∧i≤en∧Hid (TkB w wx tkZ)) (fun v _=>en - (intOf v).toNat)
  case atStart=>exact ⟨fr,rfl,Nat.le_refl _,HFE.out.1,HB⟩
  case round =>
   clear HB
   obtain ⟨i,rfl,hi1,hi2,HB⟩:=hrel
   by_cases hlt:i<a.size
   · have hls:i<s.length:=by have:=HSZ.out;omega
     have hcg:=HX.out i hlt hls
     have S1:=Lib.hid (SP.out a[i])
     have i1:(0:Int)≤(i:Int):=by omega
     have i2:(i:Int)<(a.size:Int):=by omega
     have w3:IntKind.i64.wrap ((i:Int)+1)=((i+1:Nat):Int):=wrap_add2 (x:=i) (y:=1) rfl (by have:=HFE.out;omega)
     by_cases hin:i<en
     · have hst:stops a[i]=false:=by have:=IN.out i hls hi1 hin;rw [← hcg] at this;unfold stC at this;simpa using this
       unfold stops at hst
       rw [Bool.or_eq_false_iff,Bool.or_eq_false_iff] at hst
       obtain ⟨⟨b1,b2⟩,b3⟩:=hst
       have e1:(((a[i].toNat:Nat):Int) == 47)=false:=byte_ne 47 (by simpa using b2)
       have e2:(((a[i].toNat:Nat):Int) == 62)=false:=byte_ne 62 (by simpa using b3)
       have e1':(((a[i].toNat:Nat):Int) != 47)=true:=by rw [bne,e1];rfl
       have e2':(((a[i].toNat:Nat):Int) != 62)=true:=by rw [bne,e2];rfl
       have F:Hid (∀ W,Calls Tryz.prog 124 #[.int .u8 ((a[i].toNat:Nat):Int)] W fun e w'=>e = .returned (.bool false)∧Below W.heap.size W w'):=Lib.hid (fun W=>by rw [← b1];exact S1.out W)
       clear hcg S1 b1 b2 b3
       go_wp2_with fail
       refine (F.out _).mono ?_
       rintro e w4 ⟨rfl,hb⟩
       replace HB:=Lib.hid (HB.out.call hb)
       clear hb
       go_wp2_with fail
       refine ⟨⟨i+1,by go_num,by omega,by omega,HB⟩,?_⟩
       simp [intOf];omega
     · have hie:i=en:=by omega
       subst hie
       have hst:stops a[i]=true:=by have:=OUT.out hls;rw [← hcg] at this;unfold stC at this;simpa using this
       unfold stops at hst
       cases b1:isSp a[i] with
       | true =>
         have F:Hid (∀ W,Calls Tryz.prog 124 #[.int .u8 ((a[i].toNat:Nat):Int)] W fun e w'=>e = .returned (.bool true)∧Below W.heap.size W w'):=Lib.hid (fun W=>by rw [← b1];exact S1.out W)
         clear hcg S1 b1 hst
         go_wp2_with fail
         refine (F.out _).mono ?_
         rintro e w4 ⟨rfl,hb⟩
         replace HB:=Lib.hid (HB.out.call hb)
         clear hb
         go_wp2_with fail
         go_meet
         exact ⟨rfl,HB⟩
       | false =>
         have F:Hid (∀ W,Calls Tryz.prog 124 #[.int .u8 ((a[i].toNat:Nat):Int)] W fun e w'=>e = .returned (.bool false)∧Below W.heap.size W w'):=Lib.hid (fun W=>by rw [← b1];exact S1.out W)
         rw [b1,Bool.false_or] at hst
         by_cases b2:a[i]=47
         · have e1:(((a[i].toNat:Nat):Int) == 47)=true:=byte_eq 47 b2
           have e1':(((a[i].toNat:Nat):Int) != 47)=false:=by rw [bne,e1];rfl
           clear hcg S1 b1 hst b2
           go_wp2_with fail
           refine (F.out _).mono ?_
           rintro e w4 ⟨rfl,hb⟩
           replace HB:=Lib.hid (HB.out.call hb)
           clear hb
           go_wp2_with fail
           go_meet
           exact ⟨rfl,HB⟩
         · have b3:a[i]=62:=by
            rw [Bool.or_eq_true,beq_iff_eq,beq_iff_eq] at hst
            exact hst.resolve_left b2
           have e1:(((a[i].toNat:Nat):Int) == 47)=false:=byte_ne 47 b2
           have e2:(((a[i].toNat:Nat):Int) == 62)=true:=byte_eq 62 b3
           have e1':(((a[i].toNat:Nat):Int) != 47)=true:=by rw [bne,e1];rfl
           have e2':(((a[i].toNat:Nat):Int) != 62)=false:=by rw [bne,e2];rfl
           clear hcg S1 b1 hst b2 b3
           go_wp2_with fail
           refine (F.out _).mono ?_
           rintro e w4 ⟨rfl,hb⟩
           replace HB:=Lib.hid (HB.out.call hb)
           clear hb
           go_wp2_with fail
           go_meet
           exact ⟨rfl,HB⟩
   · have hie:i=en:=by have:=HSZ.out;have:=HFE.out;omega
     subst hie
     have q9:decide ((i:Int)<(a.size:Int))=false:=decide_eq_false (by omega)
     go_wp2_with fail
     go_meet
     exact ⟨rfl,HB⟩
 case rest =>
  obtain ⟨rfl,HB⟩:=hcut
  cases X with
  | none =>
    have A2:Hid (∀ W,Glob W→Calls Tryz.prog 125 #[.string a,.int .i64 (en:Int)] W fun e w'=>(∃ v,e = .returned (.tuple #[v,.bool false,.int .i64 (s.length:Int),.bool false]))∧Below W.heap.size W w'):=Lib.hid (fun W hG=>(A1.out W hG).mono fun e w' h=>by
     obtain ⟨⟨v,he,_⟩,hb⟩:=h;exact ⟨⟨v,he⟩,hb⟩)
    clear A1
    go_wp2_with fail
    refine (A2.out _ HB.out.glob).mono ?_
    rintro e w4 ⟨⟨v,rfl⟩,hb⟩
    replace HB:=Lib.hid (HB.out.call hb)
    clear hb A2
    go_wp2_with (first | (refine wpList_store_row rfl 46 (.tmp 4) (.tmp 63) rfl w.heap.size tkZ rfl rfl 46 tkZ HB.out.row (by kernel_rfl) rfl (tkV_one _ _ _ _ _ _ _) ?_)|go_in)
    refine bodyPost_ret (results_ctt (p:=4) (u:=5) (v:=6) rfl _ _ w.heap.size 46 tkZ (0,0) _ rfl (setRow_heap _ _ _ _ _ _ HB.out.row) Tryz.underlying46 rfl (by kernel_rfl)) rfl ?_
    refine ⟨?_,(HB.out.set tkZ).1⟩
    unfold TkRet
    show _=Ending.returned (.tuple #[_,.int .i64 ((s.length - 0:Nat):Int),_])
    rw [Nat.sub_zero,← HSZ.out];rfl
  | some x =>
    obtain ⟨al,self,r⟩:=x
    have A2:Hid (∀ W,Glob W→Calls Tryz.prog 125 #[.string a,.int .i64 (en:Int)] W fun e w'=>(∃ A c,e = .returned (.tuple #[.slice A al.length c,.bool self,.int .i64 ((s.length - r.length:Nat):Int),.bool true])∧Kd.R atK 87 w' W.heap.size (fun _=>True) (.slice A al.length c) (al.map ofT))∧Below W.heap.size W w'):=Lib.hid (fun W hG=>(A1.out W hG).mono fun e w' h=>by
     obtain ⟨⟨v,he,hR⟩,hb⟩:=h
     obtain ⟨A,c,hv,_,_⟩:=Kd.R_reads hR
     change Kd.R atK _ w' W.heap.size (fun _=>True) v (al.map ofT) at hR
     have hv2:v = .slice A al.length c:=by rw [hv];congr 1;exact List.length_map ..
     subst hv2
     exact ⟨⟨A,c,he,hR⟩,hb⟩)
    clear A1
    obtain ⟨nx,hnx⟩:∃ n:Nat,s.length - r.length=n:=⟨_,rfl⟩
    rw [hnx] at A2
    have HNX:=Lib.hid hnx
    clear hnx
    rcases T12 with rfl|rfl
    · have q2:decide ((1:Int)<((1:Nat):Int))=false:=by decide
      go_wp2_with fail
      refine (A2.out _ HB.out.glob).mono ?_
      rintro e w4 ⟨⟨A,c,rfl,hR⟩,hb⟩
      have HR:=Lib.hid (at_lower hR HB.out.below.size)
      have HNE:Hid (some w.heap.size≠(Value.slice A al.length c).ownBlock):=Lib.hid (fun e=>by have:=Kd.R_base hR _ e.symm;have:=HB.out.lt;omega)
      replace HB:=Lib.hid (HB.out.call hb)
      clear hb A2 hR
      go_wp2_with fail
      refine (LW.out _).mono ?_
      rintro e w5 ⟨rfl,hb⟩
      replace HB:=Lib.hid (HB.out.call hb)
      replace HR:=Lib.hid (Kd.R_below HR.out hb)
      clear hb
      go_wp2_with fail
      refine (CLN.out _ HB.out.glob).mono ?_
      rintro e w6 ⟨rfl,hb⟩
      replace HB:=Lib.hid (HB.out.call hb)
      replace HR:=Lib.hid (Kd.R_below HR.out hb)
      clear hb
      go_wp2_with (first | (refine wpList_store_row rfl 46 (.tmp 4) (.tmp 80) rfl w.heap.size (tkV 1 (B NM0) ⟨#[]⟩ (.slice A al.length c) self) rfl rfl 46 tkZ HB.out.row (by kernel_rfl) rfl (tkV_one _ _ _ _ _ _ _) ?_)|go_in)
      refine bodyPost_ret (results_ctt (p:=4) (u:=5) (v:=6) rfl _ _ w.heap.size 46 (tkV 1 (B NM0) ⟨#[]⟩ (.slice A al.length c) self) (0,0) _ rfl (setRow_heap _ _ _ _ _ _ HB.out.row) Tryz.underlying46 rfl (by kernel_rfl)) rfl ?_
      refine ⟨?_,(HB.out.set _).1⟩
      unfold TkRet
      refine ⟨.slice A al.length c,by simp only;rw [HNX.out];rfl,?_⟩
      exact Kd.R_mono (Kd.R_keep (Kd.R_far1 HR.out rfl HNE.out) (HB.out.set _).2.2 (fun _ h=>h.2)) (fun _ _=>trivial)
    · have q2:decide ((1:Int)<((2:Nat):Int))=true:=by decide
      go_wp2_with fail
      refine (A2.out _ HB.out.glob).mono ?_
      rintro e w4 ⟨⟨A,c,rfl,hR⟩,hb⟩
      replace HB:=Lib.hid (HB.out.call hb)
      clear hb A2 hR
      go_wp2_with fail
      refine (LW.out _).mono ?_
      rintro e w5 ⟨rfl,hb⟩
      replace HB:=Lib.hid (HB.out.call hb)
      clear hb
      go_wp2_with fail
      refine (CLN.out _ HB.out.glob).mono ?_
      rintro e w6 ⟨rfl,hb⟩
      replace HB:=Lib.hid (HB.out.call hb)
      clear hb
      go_wp2_with (first | (refine wpList_store_row rfl 46 (.tmp 4) (.tmp 75) rfl w.heap.size (tkV 2 (B NM0) ⟨#[]⟩ (.slice none 0 0) false) rfl rfl 46 tkZ HB.out.row (by kernel_rfl) rfl (tkV_one _ _ _ _ _ _ _) ?_)|go_in)
      refine bodyPost_ret (results_ctt (p:=4) (u:=5) (v:=6) rfl _ _ w.heap.size 46 (tkV 2 (B NM0) ⟨#[]⟩ (.slice none 0 0) false) (0,0) _ rfl (setRow_heap _ _ _ _ _ _ HB.out.row) Tryz.underlying46 rfl (by kernel_rfl)) rfl ?_
      refine ⟨?_,(HB.out.set _).1⟩
      unfold TkRet
      exact ⟨.slice none 0 0,by simp only;rw [HNX.out];rfl,Kd.R_nil _ _ _ _ _⟩
end Go.Proofs.YtcecjoaeolglbaaGreatDoor.Hand
end

section
namespace Go.Proofs.YtcecjoaeolglbaaGreatDoor.Pcb
open Go Go.RowKit Go.Proofs.YtcecjoaeolglbaaGreatDoor.K0 Go.Proofs.YtcecjoaeolglbaaGreatDoor.Hand Go.Proofs.YtcecjoaeolglbaaGreatDoor.Sa Go.Proofs.YtcecjoaeolglbaaGreatDoor.Pure Go.Proofs.YtcecjoaeolglbaaGreatDoorW.PrintWords Go.Proofs.YtcecjoaeolglbaaGreatDoor.Pl Go.Proofs.YtcecjoaeolglbaaGreatDoor.Pb
attribute [local simp] B_nil
theorem letter_f (c:UInt8):sign_Letter.f (c.toNat:Int)=some (letB c):=by
 have:∀ n:Fin 256,sign_Letter.f ((n.val:Nat):Int)=some (letB (UInt8.ofNat n.val)):=by decide +kernel
 have h:=this ⟨c.toNat,c.toNat_lt⟩
 simpa using h
theorem lowB_sign (c:UInt8) (m:Fin 65):(lowB c == UInt8.ofNat m.val)=(c == UInt8.ofNat m.val):=by
 have:∀ n:Fin 256,∀ m:Fin 65,(lowB (UInt8.ofNat n.val) == UInt8.ofNat m.val)=(UInt8.ofNat n.val == UInt8.ofNat m.val):=by decide +kernel
 have h:=this ⟨c.toNat,c.toNat_lt⟩ m
 simpa using h
theorem lw60 (c:UInt8):(lowB c == 60)=(c == 60):=lowB_sign c 60
theorem lw33 (c:UInt8):(lowB c == 33)=(c == 33):=lowB_sign c 33
theorem lw63 (c:UInt8):(lowB c == 63)=(c == 63):=lowB_sign c 63
theorem lw47 (c:UInt8):(lowB c == 47)=(c == 47):=lowB_sign c 47
theorem begC_f (s:List UInt8) (n:Nat) (hs:s.length≤1000000) (hn:n≤s.length):comment_Begins.f (B s) (n:Int)=some (begC (s.drop n)):=by
 unfold comment_Begins.f
 simp only [show (⟨#[60,33]⟩:ByteArray)=B [60,33] from rfl,show (⟨#[60,63]⟩:ByteArray)=B [60,63] from rfl,show (⟨#[60,47]⟩:ByteArray)=B [60,47] from rfl,
  show (⟨#[60,33,100,111,99,116,121,112,101]⟩:ByteArray)=B (60::33::doctypeL) from rfl,
  begins_f s _ n hs (show ([60,33]:List UInt8).length≤1000000 by simp) hn,begins_f s _ n hs (show ([60,63]:List UInt8).length≤1000000 by simp) hn,begins_f s _ n hs (show ([60,47]:List UInt8).length≤1000000 by simp) hn,
  begins_f s _ n hs (show (60::33::doctypeL:List UInt8).length≤1000000 by simp [doctypeL]) hn,Option.bind_some]
 have w:wrap64 ((n:Int)+2)=((n+2:Nat):Int):=by unfold wrap64;omega
 rw [w]
 match hr:s.drop n with
 | []=>simp [begR,begC]
 | [c]=>simp [begR,begC]
 | c::d::t =>
   simp only [begR,lw60,lw33,lw63,lw47,begC,Bool.and_true]
   by_cases hc:c=60
   · subst hc
     simp only [BEq.rfl,Bool.true_and]
     by_cases h33:d=33
     · subst h33;simp
     · by_cases h63:d=63
       · subst h63;simp
       · by_cases h47:d=47
         · subst h47
           have ht:s.drop (n+2)=t:=by rw [← List.drop_drop,hr];rfl
           cases t with
           | nil =>
             have h1:=drop_nil ht
             have h2:(s.drop n).length=2:=by rw [hr];rfl
             simp only [List.length_drop] at h2
             simp only [show ((47:UInt8) == 33)=false by decide,show ((47:UInt8) == 63)=false by decide,Bool.false_eq_true,if_false,BEq.rfl,if_true,if_pos (show ((n+2:Nat):Int)=((B s).size:Int) by simp;omega)]
             simp
           | cons e t =>
             have h1:=drop_lt ht
             simp only [show ((47:UInt8) == 33)=false by decide,show ((47:UInt8) == 63)=false by decide,Bool.false_eq_true,if_false,BEq.rfl,if_true,if_neg (show ¬ ((n+2:Nat):Int)=((B s).size:Int) by simp;omega),
              if_pos (show (0:Int)≤((n+2:Nat):Int) by omega),if_pos (show ((n+2:Nat):Int)<((B s).size:Int) by simp;omega),bt_drop s (n+2) e t ht,u62,letter_f,Option.bind_some]
             by_cases he:e=62
             · simp [he]
             · simp [he]
         · simp [h33,h63,h47]
   · simp [hc]
end Go.Proofs.YtcecjoaeolglbaaGreatDoor.Pcb
end

section
namespace Go.Proofs.YtcecjoaeolglbaaGreatDoor.Hand
open Go Go.RowKit Go.Proofs.YtcecjoaeolglbaaGreatDoor.Pl Go.Proofs.YtcecjoaeolglbaaGreatDoor.Pb Go.Proofs.YtcecjoaeolglbaaGreatDoor.Sa Go.Proofs.YtcecjoaeolglbaaGreatDoor.Pure Go.Proofs.YtcecjoaeolglbaaGreatDoorW.PrintWords
theorem cmtBegins_c (s:List UInt8) (p:Nat) (hs:s.length≤100000) (hp:p≤s.length) (w:World) :
  Calls Tryz.prog 91 #[.string (B s),.int .i64 (p:Int)] w fun e w'=>e = .returned (.bool (begC (s.drop p)))∧Below w.heap.size w w' :=
 comment_Begins.calls _ _ _ w (Pcb.begC_f s p (by omega) hp)
theorem txVoid_c (s:List UInt8) (p:Nat) (hs:s.length≤100000) (hp:p≤s.length) (w:World) :
  Calls Tryz.prog 201 #[.string (B s),.int .i64 (p:Int)] w fun e w'=>e = .returned (.bool (begR (s.drop p) voidL))∧Below w.heap.size w w':=by
 have BG:=Lib.hid (fun W=>nbegins_c s voidL p (by omega) (by decide) hp W)
 obtain ⟨x,hx⟩:∃ x,begR (s.drop p) voidL=x:=⟨_,rfl⟩
 rw [hx] at BG ⊢
 unfold voidL B at BG
 obtain ⟨a,ha⟩:∃ a,B s=a:=⟨_,rfl⟩
 have ha':(⟨s.toArray⟩:ByteArray)=a:=ha
 rw [ha'] at BG
 rw [ha]
 clear hx
 go_enter Tryz.func201,Tryz.ntmps201
 go_wp2_with fail
 refine (BG.out _).mono ?_
 rintro e w1 ⟨rfl,hb⟩
 go_wp2_with fail
 go_ret
 exact ⟨rfl,hb⟩
theorem docBegins_c (s:List UInt8) (p:Nat) (hs:s.length≤100000) (hp:p≤s.length) (w:World) :
  Calls Tryz.prog 93 #[.string (B s),.int .i64 (p:Int)] w fun e w'=>e = .returned (.bool (begR (s.drop p) docL))∧Below w.heap.size w w':=by
 have BG:=Lib.hid (fun W=>nbegins_c s docL p (by omega) (by decide) hp W)
 obtain ⟨x,hx⟩:∃ x,begR (s.drop p) docL=x:=⟨_,rfl⟩
 rw [hx] at BG ⊢
 unfold docL B at BG
 obtain ⟨a,ha⟩:∃ a,B s=a:=⟨_,rfl⟩
 have ha':(⟨s.toArray⟩:ByteArray)=a:=ha
 rw [ha'] at BG
 rw [ha]
 clear hx
 go_enter Tryz.func93,Tryz.ntmps93
 go_wp2_with fail
 refine (BG.out _).mono ?_
 rintro e w1 ⟨rfl,hb⟩
 go_wp2_with fail
 go_ret
 exact ⟨rfl,hb⟩
def TxI (i:Nat) (x1 x2 x3 x4:Bool):Prop:=(1≤i→x1=false)∧(2≤i→x2=false)∧(3≤i→x3=false)∧(4≤i→x4=false)
set_option maxRecDepth 100000 in
set_option maxHeartbeats 4000000 in
theorem txBegins_c (s:List UInt8) (p:Nat) (hs:s.length≤100000) (hp:p≤s.length) (w:World) :
  Calls Tryz.prog 178 #[.string (B s),.int .i64 (p:Int)] w fun e w'=>e = .returned (.bool (begM (s.drop p)))∧Below w.heap.size w w':=by
 have C1:=Lib.hid (fun W=>tagBegins_c s p hs hp W)
 have C2:=Lib.hid (fun W=>cmtBegins_c s p hs hp W)
 have C3:=Lib.hid (fun W=>docBegins_c s p hs hp W)
 have C4:=Lib.hid (fun W=>txVoid_c s p hs hp W)
 have hM:begM (s.drop p)=((tagN (s.drop p) != 0) || begC (s.drop p) || begR (s.drop p) docL || begR (s.drop p) voidL):=rfl
 obtain ⟨x1,h1⟩:∃ x,(tagN (s.drop p) != 0)=x:=⟨_,rfl⟩
 obtain ⟨x2,h2⟩:∃ x,begC (s.drop p)=x:=⟨_,rfl⟩
 obtain ⟨x3,h3⟩:∃ x,begR (s.drop p) docL=x:=⟨_,rfl⟩
 obtain ⟨x4,h4⟩:∃ x,begR (s.drop p) voidL=x:=⟨_,rfl⟩
 rw [h1,h2,h3,h4] at hM
 rw [h1] at C1
 rw [h2] at C2
 rw [h3] at C3
 rw [h4] at C4
 rw [hM]
 obtain ⟨a,ha⟩:∃ a,B s=a:=⟨_,rfl⟩
 rw [ha] at C1 C2 C3 C4 ⊢
 clear h1 h2 h3 h4 hM ha
 have r0:∀ W:World,Sem.run Tryz.prog (Instr.index 237 (.agg #[.func (.func 89) #[] #[],.func (.func 91) #[] #[],.func (.func 93) #[] #[],.func (.func 201) #[] #[]]) (.int .i64 0)) W=Result.ok (.agg #[.func (.func 89) #[] #[]]) W:=fun W=>by rfl
 have r1:∀ W:World,Sem.run Tryz.prog (Instr.index 237 (.agg #[.func (.func 89) #[] #[],.func (.func 91) #[] #[],.func (.func 93) #[] #[],.func (.func 201) #[] #[]]) (.int .i64 1)) W=Result.ok (.agg #[.func (.func 91) #[] #[]]) W:=fun W=>by rfl
 have r2:∀ W:World,Sem.run Tryz.prog (Instr.index 237 (.agg #[.func (.func 89) #[] #[],.func (.func 91) #[] #[],.func (.func 93) #[] #[],.func (.func 201) #[] #[]]) (.int .i64 2)) W=Result.ok (.agg #[.func (.func 93) #[] #[]]) W:=fun W=>by rfl
 have r3:∀ W:World,Sem.run Tryz.prog (Instr.index 237 (.agg #[.func (.func 89) #[] #[],.func (.func 91) #[] #[],.func (.func 93) #[] #[],.func (.func 201) #[] #[]]) (.int .i64 3)) W=Result.ok (.agg #[.func (.func 201) #[] #[]]) W:=fun W=>by rfl
 go_enter Tryz.func178,Tryz.ntmps178
 go_wp2_with fail
 go_loopw [12] (fun v wx => ∃ i:Nat,v = .int .i64 (i:Int)∧i≤4∧Hid (Below w.heap.size w wx)∧TxI i x1 x2 x3 x4) (fun v _=>4 - (intOf v).toNat)
 case atStart=>exact ⟨0,rfl,Nat.zero_le _,Lib.hid (Below.refl _ _),⟨by omega,by omega,by omega,by omega⟩⟩
 case round =>
  obtain ⟨i,rfl,hi,HB,HI⟩:=hrel
  have hh:i=0∨i=1∨i=2∨i=3∨i=4:=by omega
  rcases hh with rfl|rfl|rfl|rfl|rfl
  · have hc0:((wr.alloc (.cells #[.nilFunc] 236)).setRow wr.heap.size #[.func (.func 89) #[] #[]]).cell? ⟨wr.heap.size,0,none⟩=some (.func (.func 89) #[] #[]):=(cell_setRow_same _ _ 0 _ _ _ _ (heap_alloc_last wr _)).trans rfl
    have hb0:Below w.heap.size w ((wr.alloc (.cells #[.nilFunc] 236)).setRow wr.heap.size #[.func (.func 89) #[] #[]]):=by
     rw [World.setRow_alloc_new];exact HB.out.alloc HB.out.size _
    have HB0:=Lib.hid hb0
    clear hb0
    go_wp2_with (first | (refine wpList_store_row rfl 236 (.tmp 6) (.tmp 14) rfl wr.heap.size #[.func (.func 89) #[] #[]] rfl rfl 236 #[.nilFunc] (heap_alloc_last wr _) (by kernel_rfl) rfl (by simp [Value.oneCell']) ?_))
    refine (C1.out _).mono ?_
    rintro e w4 ⟨rfl,hb⟩
    have HB1:=Lib.hid (HB0.out.trans (hb.mono HB0.out.size))
    clear hb hc0 HB0
    cases x1 with
    | true =>
      go_wp2_with fail
      go_ret
      exact ⟨by simp,HB1.out⟩
    | false =>
      go_wp2_with fail
      refine ⟨⟨1,rfl,by omega,HB1,⟨fun _=>rfl,fun h=>absurd h (by decide),fun h=>absurd h (by decide),fun h=>absurd h (by decide)⟩⟩,?_⟩
      simp [intOf]
  · have hc0:((wr.alloc (.cells #[.nilFunc] 236)).setRow wr.heap.size #[.func (.func 91) #[] #[]]).cell? ⟨wr.heap.size,0,none⟩=some (.func (.func 91) #[] #[]):=(cell_setRow_same _ _ 0 _ _ _ _ (heap_alloc_last wr _)).trans rfl
    have hb0:Below w.heap.size w ((wr.alloc (.cells #[.nilFunc] 236)).setRow wr.heap.size #[.func (.func 91) #[] #[]]):=by
     rw [World.setRow_alloc_new];exact HB.out.alloc HB.out.size _
    have HB0:=Lib.hid hb0
    clear hb0
    go_wp2_with (first | (refine wpList_store_row rfl 236 (.tmp 6) (.tmp 14) rfl wr.heap.size #[.func (.func 91) #[] #[]] rfl rfl 236 #[.nilFunc] (heap_alloc_last wr _) (by kernel_rfl) rfl (by simp [Value.oneCell']) ?_))
    refine (C2.out _).mono ?_
    rintro e w4 ⟨rfl,hb⟩
    have HB1:=Lib.hid (HB0.out.trans (hb.mono HB0.out.size))
    clear hb hc0 HB0
    cases x2 with
    | true =>
      go_wp2_with fail
      go_ret
      exact ⟨by simp,HB1.out⟩
    | false =>
      go_wp2_with fail
      refine ⟨⟨2,rfl,by omega,HB1,⟨fun _=>HI.1 (by omega),fun _=>rfl,fun h=>absurd h (by decide),fun h=>absurd h (by decide)⟩⟩,?_⟩
      simp [intOf]
  · have hc0:((wr.alloc (.cells #[.nilFunc] 236)).setRow wr.heap.size #[.func (.func 93) #[] #[]]).cell? ⟨wr.heap.size,0,none⟩=some (.func (.func 93) #[] #[]):=(cell_setRow_same _ _ 0 _ _ _ _ (heap_alloc_last wr _)).trans rfl
    have hb0:Below w.heap.size w ((wr.alloc (.cells #[.nilFunc] 236)).setRow wr.heap.size #[.func (.func 93) #[] #[]]):=by
     rw [World.setRow_alloc_new];exact HB.out.alloc HB.out.size _
    have HB0:=Lib.hid hb0
    clear hb0
    go_wp2_with (first | (refine wpList_store_row rfl 236 (.tmp 6) (.tmp 14) rfl wr.heap.size #[.func (.func 93) #[] #[]] rfl rfl 236 #[.nilFunc] (heap_alloc_last wr _) (by kernel_rfl) rfl (by simp [Value.oneCell']) ?_))
    refine (C3.out _).mono ?_
    rintro e w4 ⟨rfl,hb⟩
    have HB1:=Lib.hid (HB0.out.trans (hb.mono HB0.out.size))
    clear hb hc0 HB0
    cases x3 with
    | true =>
      go_wp2_with fail
      go_ret
      exact ⟨by simp,HB1.out⟩
    | false =>
      go_wp2_with fail
      refine ⟨⟨3,rfl,by omega,HB1,⟨fun _=>HI.1 (by omega),fun _=>HI.2.1 (by omega),fun _=>rfl,fun h=>absurd h (by decide)⟩⟩,?_⟩
      simp [intOf]
  · have hc0:((wr.alloc (.cells #[.nilFunc] 236)).setRow wr.heap.size #[.func (.func 201) #[] #[]]).cell? ⟨wr.heap.size,0,none⟩=some (.func (.func 201) #[] #[]):=(cell_setRow_same _ _ 0 _ _ _ _ (heap_alloc_last wr _)).trans rfl
    have hb0:Below w.heap.size w ((wr.alloc (.cells #[.nilFunc] 236)).setRow wr.heap.size #[.func (.func 201) #[] #[]]):=by
     rw [World.setRow_alloc_new];exact HB.out.alloc HB.out.size _
    have HB0:=Lib.hid hb0
    clear hb0
    go_wp2_with (first | (refine wpList_store_row rfl 236 (.tmp 6) (.tmp 14) rfl wr.heap.size #[.func (.func 201) #[] #[]] rfl rfl 236 #[.nilFunc] (heap_alloc_last wr _) (by kernel_rfl) rfl (by simp [Value.oneCell']) ?_))
    refine (C4.out _).mono ?_
    rintro e w4 ⟨rfl,hb⟩
    have HB1:=Lib.hid (HB0.out.trans (hb.mono HB0.out.size))
    clear hb hc0 HB0
    cases x4 with
    | true =>
      go_wp2_with fail
      go_ret
      exact ⟨by simp,HB1.out⟩
    | false =>
      go_wp2_with fail
      refine ⟨⟨4,rfl,by omega,HB1,⟨fun _=>HI.1 (by omega),fun _=>HI.2.1 (by omega),fun _=>HI.2.2.1 (by omega),fun _=>rfl⟩⟩,?_⟩
      simp [intOf]
  · obtain rfl:=HI.1 (by omega)
    obtain rfl:=HI.2.1 (by omega)
    obtain rfl:=HI.2.2.1 (by omega)
    obtain rfl:=HI.2.2.2 (by omega)
    go_wp2_with fail
    go_ret
    exact ⟨rfl,HB.out⟩
end Go.Proofs.YtcecjoaeolglbaaGreatDoor.Hand
end

section
namespace Go.Proofs.YtcecjoaeolglbaaGreatDoor.Hand
open Go Go.RowKit Go.Proofs.YtcecjoaeolglbaaGreatDoor.Pl Go.Proofs.YtcecjoaeolglbaaGreatDoor.Pb Go.Proofs.YtcecjoaeolglbaaGreatDoor.Pure
theorem begM_no {c:UInt8} (r:List UInt8) (h:c≠60):begM (c::r)=false:=by
 have hl:∀ n:Fin 256,(lowB (UInt8.ofNat n.val) == 60)=(UInt8.ofNat n.val == 60):=by decide +kernel
 have e:(lowB c == 60)=false:=by
  have:=hl ⟨c.toNat,c.toNat_lt⟩
  simp only [UInt8.ofNat_toNat] at this
  rw [this,beq_eq_false_iff_ne];exact h
 have t:tagN (c::r)=0:=by
  cases r with
  | nil=>rfl
  | cons d q=>show (if c=60 then _ else 0)=0;rw [if_neg h]
 have b:begC (c::r)=false:=by
  have hc:(c == 60)=false:=beq_eq_false_iff_ne.2 h
  cases r with
  | nil=>rfl
  | cons d q=>unfold begC;simp only [hc,Bool.false_and]
 unfold begM
 rw [t,b,docL,voidL,begR,begR,e]
 rfl
theorem txN_skip (o:Nat):∀ (l:List UInt8),o≤l.length→(∀ j,j<o→l[j]? ≠ some 60)→txN l=o+txN (l.drop o):=by
 induction o with
 | zero=>intro l _ _;rw [List.drop_zero,Nat.zero_add]
 | succ o ih =>
   intro l hl h
   cases l with
   | nil=>simp at hl
   | cons c r =>
     have hc:c≠60:=fun e=>h 0 (by omega) (by rw [e];rfl)
     rw [txN,if_neg (by rw [begM_no r hc];decide),ih r (by simpa using hl) (fun j hj=>by have:=h (j+1) (by omega);simpa using this),List.drop_succ_cons]
     omega
end Go.Proofs.YtcecjoaeolglbaaGreatDoor.Hand
end

section
namespace Go.Proofs.YtcecjoaeolglbaaGreatDoor.Hand
open Go Go.RowKit Go.Proofs.YtcecjoaeolglbaaGreatDoor.Pl Go.Proofs.YtcecjoaeolglbaaGreatDoor.Pb Go.Proofs.YtcecjoaeolglbaaGreatDoor.Sa Go.Proofs.YtcecjoaeolglbaaGreatDoor.Si Go.Proofs.YtcecjoaeolglbaaGreatDoor.Pure Go.Proofs.YtcecjoaeolglbaaGreatDoorW.PrintWords
theorem inside_c (s:List UInt8) (p:Nat) (_:s.length≤100000) (hp:p≤s.length) (w:World) :
  Calls Tryz.prog 133 #[.string (B s),.int .i64 (p:Int)] w fun e w'=>e = .returned (.int .i64 (p:Int))∧Below w.heap.size w w':=by
 refine text_inside.calls _ _ (p:Int) w ?_
 unfold text_inside.f
 rw [size_B]
 congr 1
 unfold mn mx
 repeat' split
 all_goals omega
theorem txN_cons0 {l:List UInt8} (h:begM l=true):txN l=0:=by
 cases l with
 | nil=>rfl
 | cons c r=>rw [txN,if_pos h]
theorem txN_cons1 {c:UInt8} {r:List UInt8} (h:begM (c::r)=false):txN (c::r)=1+txN r:=by
 rw [txN,if_neg (by rw [h];decide)]
set_option maxRecDepth 100000 in
set_option maxHeartbeats 4000000 in
theorem txNext_c (s:List UInt8) (p:Nat) (hs:s.length≤100000) (hp:p≤s.length) (w:World) :
  Calls Tryz.prog 131 #[.string (B s),.int .i64 (p:Int)] w fun e w'=>e = .returned (.int .i64 ((p+txN (s.drop p):Nat):Int))∧Below w.heap.size w w':=by
 have IN:=Lib.hid (fun W=>inside_c s p hs hp W)
 have BG:=Lib.hid (fun q (hq:q≤s.length) W=>txBegins_c s q hs hq W)
 have IX:Hid (∀ i,i≤s.length→∀ W,Calls Tryz.prog 86 #[.string ((B s).extract i (B s).size),.int .u8 60] W fun e w'=>e = .returned (.int .i64 (Lib.indexByte (s.drop i) 60))∧Below W.heap.size W w'):=Lib.hid (fun i hi W=>by
  have I:=Tryz.strings_IndexByte ((B s).extract i (B s).size) 60 W
  rw [size_B,B_extract,List.take_length,B_data] at I
  rw [size_B,B_extract,List.take_length]
  exact I.mono fun _ _ h=>⟨h.1,by rw [h.2];exact Below.refl _ _⟩)
 obtain ⟨a,ha⟩:∃ a,B s=a:=⟨_,rfl⟩
 have HSZ:Hid (a.size=s.length):=Lib.hid (by rw [← ha,size_B])
 rw [ha] at IN BG IX ⊢
 have HP:Hid (p≤s.length∧s.length≤100000):=Lib.hid ⟨hp,hs⟩
 clear ha
 go_enter Tryz.func131,Tryz.ntmps131
 go_wp2_with fail
 refine (IN.out _).mono ?_
 rintro e w1 ⟨rfl,hb⟩
 have HB:=Lib.hid hb
 clear hb
 go_wp2_with fail
 go_loopw [5] (fun v wx => ∃ i:Nat,v = .int .i64 (i:Int)∧p≤i∧i≤a.size∧Hid (Below w.heap.size w wx)∧Hid (p+txN (s.drop p)=i+txN (s.drop i))) (fun v _=>a.size - (intOf v).toNat)
 case atStart=>exact ⟨p,rfl,Nat.le_refl _,by have:=HP.out;have:=HSZ.out;omega,HB,Lib.hid rfl⟩
 case round =>
  clear HB
  obtain ⟨i,rfl,hi1,hi2,HB,HT⟩:=hrel
  have his:i≤s.length:=by have:=HSZ.out;omega
  by_cases hlt:i<a.size
  · have I:=Lib.hid (IX.out i his)
    have i1:(0:Int)≤(i:Int):=by omega
    have i2:(i:Int)≤(a.size:Int):=by omega
    rcases Int.lt_or_le (Lib.indexByte (s.drop i) 60) 0 with h|h
    · have h1:Lib.indexByte (s.drop i) 60 = -1:=by have:=Lib.indexByte_ge (s.drop i) 60;omega
      have hN:=txN_skip (s.drop i).length (s.drop i) (Nat.le_refl _) (fun j _=>Lib.indexByte_none h1 j)
      rw [h1] at I
      have HE:Hid (p+txN (s.drop p)=a.size):=Lib.hid (by
       rw [HT.out,hN,List.drop_length,HSZ.out];simp [txN];omega)
      clear h h1 hN
      go_wp2_with fail
      refine (I.out _).mono ?_
      rintro e w2 ⟨rfl,hb⟩
      replace HB:=Lib.hid (HB.out.trans (hb.mono HB.out.size))
      clear hb
      go_wp2_with fail
      go_ret
      exact ⟨by rw [HE.out];rfl,HB.out⟩
    · obtain ⟨o,ho⟩:∃ o:Nat,Lib.indexByte (s.drop i) 60=o:=⟨_,(Int.toNat_of_nonneg h).symm⟩
      rw [ho] at I
      obtain ⟨x1,x2⟩:=Lib.indexByte_some ho
      obtain ⟨hol,_⟩:=List.getElem?_eq_some_iff.1 x1
      rw [List.length_drop] at hol
      have hk:=txN_skip o (s.drop i) (by rw [List.length_drop];omega) x2
      rw [List.drop_drop] at hk
      obtain ⟨q,hq⟩:∃ q,i+o=q:=⟨_,rfl⟩
      rw [hq] at hk
      have hql:q<s.length:=by omega
      have hqa:q<a.size:=by have:=HSZ.out;omega
      have hiq:i≤q:=by omega
      have hT2:p+txN (s.drop p)=q+txN (s.drop q):=by rw [HT.out,hk];omega
      have G:=Lib.hid (BG.out q (by omega))
      have hz:q≤100000:=by have:=HP.out;omega
      have o1:decide ((o:Int)<0)=false:=by simp
      cases hbm:begM (s.drop q) with
      | true =>
        have HE:Hid (p+txN (s.drop p)=q):=Lib.hid (by rw [hT2,txN_cons0 hbm];rfl)
        rw [hbm] at G
        have ww:IntKind.i64.wrap ((i:Int)+(o:Int))=(q:Int):=wrap_add2 hq (by omega)
        clear h ho x1 x2 hk hT2 hol hbm
        go_wp2_with fail
        refine (I.out _).mono ?_
        rintro e w2 ⟨rfl,hb⟩
        replace HB:=Lib.hid (HB.out.trans (hb.mono HB.out.size))
        clear hb
        go_wp2_with fail
        refine (G.out _).mono ?_
        rintro e w3 ⟨rfl,hb⟩
        replace HB:=Lib.hid (HB.out.trans (hb.mono HB.out.size))
        clear hb
        go_wp2_with fail
        go_ret
        exact ⟨by rw [HE.out];rfl,HB.out⟩
      | false =>
        have hd:=List.drop_eq_getElem_cons hql
        have HE:Hid (p+txN (s.drop p)=(q+1)+txN (s.drop (q+1))):=Lib.hid (by
         rw [hT2,hd,txN_cons1 (by rw [← hd];exact hbm)];omega)
        rw [hbm] at G
        have ww:IntKind.i64.wrap ((i:Int)+(o:Int))=(q:Int):=wrap_add2 hq (by omega)
        have ww2:IntKind.i64.wrap ((q:Int)+1)=((q+1:Nat):Int):=wrap_add2 (x:=q) (y:=1) rfl (by omega)
        clear h ho x1 x2 hk hT2 hol hbm hd
        go_wp2_with fail
        refine (I.out _).mono ?_
        rintro e w2 ⟨rfl,hb⟩
        replace HB:=Lib.hid (HB.out.trans (hb.mono HB.out.size))
        clear hb
        go_wp2_with fail
        refine (G.out _).mono ?_
        rintro e w3 ⟨rfl,hb⟩
        replace HB:=Lib.hid (HB.out.trans (hb.mono HB.out.size))
        clear hb
        go_wp2_with fail
        go_roundw
        case rel=>exact ⟨q+1,by go_num,by omega,by omega,HB,HE⟩
        case measure=>simp [intOf];omega
  · have hie:i=a.size:=by omega
    have q9:decide ((i:Int)<(a.size:Int))=false:=decide_eq_false (by omega)
    have HE:Hid (p+txN (s.drop p)=a.size):=Lib.hid (by
     rw [HT.out,hie,HSZ.out,List.drop_length];rfl)
    go_wp2_with fail
    go_ret
    exact ⟨by rw [HE.out];rfl,HB.out⟩
end Go.Proofs.YtcecjoaeolglbaaGreatDoor.Hand
end

section
namespace Go.Proofs.YtcecjoaeolglbaaGreatDoor.Hand
open Go Go.RowKit Go.Proofs.YtcecjoaeolglbaaGreatDoor.Pl Go.Proofs.YtcecjoaeolglbaaGreatDoor.Pb Go.Proofs.YtcecjoaeolglbaaGreatDoor.Sa Go.Proofs.YtcecjoaeolglbaaGreatDoor.Si Go.Proofs.YtcecjoaeolglbaaGreatDoor.Pure Go.Proofs.YtcecjoaeolglbaaGreatDoorW.PrintWords
set_option maxRecDepth 100000 in
set_option maxHeartbeats 4000000 in
theorem txRead_c (s:List UInt8) (p:Nat) (hs:s.length≤100000) (hp:p≤s.length) (w:World) (hGl:Glob w) :
  Calls Tryz.prog 96 #[.string (B s),.int .i64 (p:Int)] w fun e w'=>e = .returned (.tuple #[.string (B (rdL false ((s.drop p).take (txN (s.drop p))))),.int .i64 ((p+txN (s.drop p):Nat):Int)])∧Below w.heap.size w w':=by
 have NX:=Lib.hid (fun W=>txNext_c s p hs hp W)
 have IN:=Lib.hid (fun W=>inside_c s p hs hp W)
 have hl:=txN_le (s.drop p)
 rw [List.length_drop] at hl
 obtain ⟨n,hn⟩:∃ n,p+txN (s.drop p)=n:=⟨_,rfl⟩
 have RD:Hid (∀ W,Glob W→Calls Tryz.prog 132 #[.string ((B s).extract p n),.bool false] W fun e w'=>e = .returned (.string (B (rdL false ((s.drop p).take (txN (s.drop p))))))∧Below W.heap.size W w'):=Lib.hid (fun W hG=>by
  rw [B_extract,← hn,List.drop_take,Nat.add_sub_cancel_left]
  exact rdecode_c _ false (by rw [List.length_take,List.length_drop];omega) W hG hG.toE)
 obtain ⟨R,hR⟩:∃ R,B (rdL false ((s.drop p).take (txN (s.drop p))))=R:=⟨_,rfl⟩
 rw [hR] at RD ⊢
 rw [hn] at NX ⊢
 have hz:(B s).size=s.length:=size_B s
 obtain ⟨a,ha⟩:∃ a,B s=a:=⟨_,rfl⟩
 rw [ha] at NX IN RD hz ⊢
 have i1:(0:Int)≤(p:Int):=by omega
 have i2:(p:Int)≤(n:Int):=by omega
 have i3:(n:Int)≤(a.size:Int):=by omega
 have HG:=Lib.hid hGl
 clear hR hn ha hl hz hGl
 go_enter Tryz.func96,Tryz.ntmps96
 go_wp2_with fail
 refine (NX.out _).mono ?_
 rintro e w1 ⟨rfl,hb⟩
 have HB:=Lib.hid hb
 clear hb
 go_wp2_with fail
 refine (IN.out _).mono ?_
 rintro e w2 ⟨rfl,hb⟩
 replace HB:=Lib.hid (HB.out.trans (hb.mono HB.out.size))
 clear hb
 go_wp2_with fail
 refine (RD.out _ (HG.out.step HB.out)).mono ?_
 rintro e w3 ⟨rfl,hb⟩
 replace HB:=Lib.hid (HB.out.trans (hb.mono HB.out.size))
 clear hb
 go_wp2_with fail
 go_ret2
 exact ⟨rfl,HB.out⟩
end Go.Proofs.YtcecjoaeolglbaaGreatDoor.Hand
end
