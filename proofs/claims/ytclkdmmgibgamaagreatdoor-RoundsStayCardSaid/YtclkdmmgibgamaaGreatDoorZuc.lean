/-
  Texts that several claims of this seat share, merged by a program of this session (3).
-/
import Derived.Lib.Index
import Derived.Lib.AppendStr
import Derived.Lib.OthersKept
import Derived.Lib.Builder
import Derived.Lib.UnsafeStr
import Derived.Shelf.SlicesE.DeleteFunc
import Derived.Shelf.SlLaysH
import Derived.Deep.RegionLaw
import Derived.Deep.AppendLies
import Derived.WalkKit
import Derived.WalkMore
import Derived.ScopeJumps
import Derived.Lib.Hide
import Derived.Test.YtclkdmmgibgamaaGreatDoorZub
set_option linter.unusedVariables false
set_option linter.unusedSimpArgs false
set_option maxRecDepth 100000
set_option maxHeartbeats 16000000
namespace Go.Proofs.YtclkdmmgibgamaaGreatDoor
section
namespace Hand
open Go Go.RowKit Pl Pb
theorem fnd_uniq {T last key:List UInt8} (h:Tab T last) {r r':Option (List UInt8)} (h1:Fnd T key r) (h2:Fnd T key r'):r=r':=by
 rcases h1 with ⟨p,a1,a2,a3⟩|⟨a1,a2⟩
 ·rcases h2 with ⟨q,b1,b2,b3⟩|⟨b1,b2⟩
  ·rcases Nat.lt_trichotomy p q with hl|he|hg
   ·have:=h.rise p q a1 b1 hl
    rw [a2,b2,ltB_irrefl] at this;cases this
   ·rw [a3,b3,he]
   ·have:=h.rise q p b1 a1 hg
    rw [a2,b2,ltB_irrefl] at this;cases this
  ·exact absurd a2 (b1 p a1)
 ·rcases h2 with ⟨q,b1,b2,b3⟩|⟨b1,b2⟩
  ·exact absurd b2 (a1 q b1)
  ·rw [a2,b2]
theorem lng_ex (T r:List UInt8):∃ k,Lng T r k:=by
 have h:∀ d:Nat,∃ k,k≤d∧(k=0∨isKey T (r.take k))∧∀ m,k<m→m≤d→¬ isKey T (r.take m):=by
  intro d
  induction d with
  | zero=>exact ⟨0,Nat.le_refl _,.inl rfl,fun m h1 h2=>by omega⟩
  | succ d ih =>
    by_cases hk:isKey T (r.take (d+1))
    ·exact ⟨d+1,Nat.le_refl _,.inr hk,fun m h1 h2=>by omega⟩
    ·obtain ⟨k,h1,h2,h3⟩:=ih
     refine ⟨k,zu4,h2,fun m g1 g2 => ?_⟩
     by_cases e:m=d+1
     ·subst e;exact hk
     ·exact h3 m g1 zu4
 obtain ⟨k,h1,h2,h3⟩:=h (min 32 r.length)
 exact ⟨k,h1,h2,h3⟩
noncomputable def lngN (r:List UInt8):Nat:=Classical.choose (lng_ex namesL r)
theorem lngN_spec (r:List UInt8):Lng namesL r (lngN r):=Classical.choose_spec (lng_ex namesL r)
theorem lngN_eq {r:List UInt8} {k:Nat} (h:Lng namesL r k):lngN r=k:=(lngN_spec r).uniq h
theorem fnd_ex (T key:List UInt8):∃ r,Fnd T key r:=by
 by_cases h:∃ p,St T p∧kyT T p=key
 ·obtain ⟨p,h1,h2⟩:=h;exact ⟨_,.inl ⟨p,h1,h2,rfl⟩⟩
 ·exact ⟨none,.inr ⟨fun p h1 h2=>h ⟨p,h1,h2⟩,rfl⟩⟩
noncomputable def rowN (key:List UInt8):Option (List UInt8):=Classical.choose (fnd_ex namesL key)
theorem rowN_spec (key:List UInt8):Fnd namesL key (rowN key):=Classical.choose_spec (fnd_ex namesL key)
theorem rowN_eq {key:List UInt8} {r:Option (List UInt8)} (h:Fnd namesL key r):rowN key=r:=fnd_uniq names_tab (rowN_spec key) h
noncomputable def nameT (key:List UInt8):List UInt8:=match rowN key with|some rest=>(textB (num1 rest) (num2 rest)).data.toList|none=>[]
noncomputable def refN (attr:Bool) (l:List UInt8):List UInt8×Nat :=
 match numL (l.drop 1) with
 | some (m,k)=>((fixB m).data.toList,1+k)
 | none =>
   if lngN (l.drop 1)=0∨leftL attr ((l.drop 1).take (lngN (l.drop 1))) ((l.drop 1).drop (lngN (l.drop 1)))=true then (l.take (1+lngN (l.drop 1)),1+lngN (l.drop 1))
   else (nameT ((l.drop 1).take (lngN (l.drop 1))),1+lngN (l.drop 1))
theorem refR_refN {s:List UInt8} {n:Nat} {attr:Bool} {v:Value} (h:RefR s n attr v) (hb:begR (s.drop n) [38]=true) :
  v = .tuple #[.string (B (refN attr (s.drop n)).1),.int .i64 ((n+(refN attr (s.drop n)).2:Nat):Int)]:=by
 have ed:∀ k,(s.drop n).drop k=s.drop (n+k):=fun k=>by rw [List.drop_drop]
 cases h with
 | no h=>rw [h] at hb;cases hb
 | num h m k h2 =>
   have:refN attr (s.drop n)=((fixB m).data.toList,1+k):=by unfold refN;rw [ed,h2]
   rw [this,← B_of,show n+(1+k)=n+1+k by omega]
 | left h h2 k h3 h4 =>
   have hk:=lngN_eq h3
   have:refN attr (s.drop n)=((s.drop n).take (1+k),1+k):=by
    unfold refN
    rw [ed,h2]
    simp only [hk]
    rw [if_pos]
    rcases h4 with h4|h4
    ·exact .inl h4
    ·exact .inr (by rw [List.drop_drop];exact h4)
   rw [this,show n+(1+k)=n+1+k by omega,show 1+k=k+1 by omega]
 | name h h2 k h3 h4 h5 rest h6 =>
   have hk:=lngN_eq h3
   have:refN attr (s.drop n)=((textB (num1 rest) (num2 rest)).data.toList,1+k):=by
    unfold refN
    rw [ed,h2]
    simp only [hk]
    rw [if_neg]
    ·unfold nameT;rw [rowN_eq h6]
    ·rintro (e|e)
     ·exact h4 e
     ·rw [List.drop_drop,h5] at e;cases e
   rw [this,← B_of,show n+(1+k)=n+1+k by omega]
theorem textB_size (a b:Nat):(textB a b).size≤8:=by
 unfold textB
 have h1:=signB_size (a:Int)
 have h2:=signB_size (b:Int)
 split
 ·omega
 ·rw [ByteArray.size_append];omega
theorem fixB_size (n:Nat):(fixB n).size≤4:=by
 unfold fixB
 split
 ·decide
 ·split<;>exact signB_size _
theorem refN_bd (attr:Bool) (c:UInt8) (r:List UInt8):1≤(refN attr (c::r)).2∧(refN attr (c::r)).2≤(c::r).length∧(refN attr (c::r)).1.length≤8*(refN attr (c::r)).2:=by
 have hl:=(lngN_spec r).le
 have e:(c::r).drop 1=r:=rfl
 unfold refN
 rw [e]
 split
 ·rename_i m k hn
  have:=numL_le hn
  have h4:=fixB_size m
  simp only [List.length_cons,Array.length_toList]
  have:(fixB m).data.size≤4:=h4
  omega
 ·split
  ·simp only [List.length_cons,List.length_take];omega
  ·rename_i hne
   simp only [List.length_cons]
   refine ⟨zu4,zu4,?_⟩
   unfold nameT
   split
   ·rename_i rest _
    have h8:=textB_size (num1 rest) (num2 rest)
    rw [Array.length_toList]
    have:(textB (num1 rest) (num2 rest)).data.size≤8:=h8
    omega
   ·simp
noncomputable def rdF (attr:Bool):Nat→List UInt8→List UInt8
 | 0,_=>[]
 | _+1,[]=>[]
 | f+1,c::r=>if c=38 then (refN attr (c::r)).1++rdF attr f ((c::r).drop (refN attr (c::r)).2) else c::rdF attr f r
theorem rdF_more (attr:Bool) (f:Nat):∀ l f',l.length≤f→l.length≤f'→rdF attr f l=rdF attr f' l:=by
 induction f with
 | zero =>
   intro l f' h h'
   obtain rfl:=List.eq_nil_of_length_eq_zero (Nat.le_zero.1 h)
   cases f'<;>rfl
 | succ f ih =>
   intro l f' h h'
   cases l with
   | nil=>cases f'<;>rfl
   | cons c r =>
     cases f' with
     | zero=>simp at h'
     | succ f' =>
       have hb:=refN_bd attr c r
       simp only [List.length_cons] at h h' hb
       simp only [rdF]
       split
       ·rw [ih _ f' zu48 zu48]
       ·rw [ih r f' zu4 zu4]
noncomputable def rdL (attr:Bool) (l:List UInt8):List UInt8:=rdF attr l.length l
theorem rdL_nil (attr:Bool):rdL attr []=[]:=rfl
theorem rdL_ne {c:UInt8} (attr:Bool) (r:List UInt8) (h:c≠38):rdL attr (c::r)=c::rdL attr r:=by
 unfold rdL;simp only [List.length_cons,rdF,if_neg h]
theorem rdL_amp (attr:Bool) (r:List UInt8):rdL attr (38::r)=(refN attr (38::r)).1++rdL attr ((38::r).drop (refN attr (38::r)).2):=by
 have hb:=refN_bd attr 38 r
 simp only [List.length_cons] at hb
 unfold rdL
 rw [List.length_cons,rdF,if_pos rfl,rdF_more attr r.length _ _ zu48 (Nat.le_refl _)]
theorem rdL_app {p:List UInt8} (attr:Bool) (r:List UInt8) (h:(38:UInt8)∉p):rdL attr (p++r)=p++rdL attr r:=by
 induction p with
 | nil=>rfl
 | cons c p ih =>
   rw [List.cons_append,rdL_ne attr _ (fun e=>h (by rw [e];simp)),ih (fun e=>h (by simp [e]))];rfl
theorem rdL_no {p:List UInt8} (attr:Bool) (h:(38:UInt8)∉p):rdL attr p=p:=by
 have:=rdL_app attr [] h
 rw [List.append_nil,rdL_nil,List.append_nil] at this
 exact this
theorem rdL_length (attr:Bool):∀ n (l:List UInt8),l.length≤n→(rdL attr l).length≤8*l.length:=by
 intro n
 induction n with
 | zero=>intro l h;obtain rfl:=List.eq_nil_of_length_eq_zero (Nat.le_zero.1 h);simp [rdL_nil]
 | succ n ih =>
   intro l h
   cases l with
   | nil=>simp [rdL_nil]
   | cons c r =>
     simp only [List.length_cons] at h ⊢
     by_cases hc:c=38
     ·subst hc
      have hb:=refN_bd attr 38 r
      have:=ih ((38::r).drop (refN attr (38::r)).2) zu48
      rw [rdL_amp,List.length_append]
      rw [List.length_drop,List.length_cons] at this
      simp only [List.length_cons] at hb
      omega
     ·have:=ih r zu4
      rw [rdL_ne attr r hc,List.length_cons];omega
theorem rdL_le (attr:Bool) (l:List UInt8):(rdL attr l).length≤8*l.length:=rdL_length attr _ l (Nat.le_refl _)
theorem readN_c (s:List UInt8) (n:Nat) (attr:Bool) (hs:s.length≤100000) (hn:n≤s.length) (hb:begR (s.drop n) [38]=true) (w:World) (hGl:Glob w) (hGE:GlobE w) :
  Calls Tryz.prog 88 #[.string (B s),.int .i64 (n:Int),.bool attr] w fun e w'=>e = .returned (.tuple #[.string (B (refN attr (s.drop n)).1),.int .i64 ((n+(refN attr (s.drop n)).2:Nat):Int)])∧Below w.heap.size w w' :=
 (read_c s n attr hs hn w hGl hGE).mono fun e w' h=>by
   obtain ⟨⟨v,hv,he⟩,hb2⟩:=h
   exact ⟨by rw [he,refR_refN hv hb],hb2⟩
end Hand
end

section
namespace Hand
open Go Go.RowKit Pl Pb
abbrev AttrT:=List UInt8×List UInt8
inductive Tk where
 | text (s:List UInt8)
 | start (name:List UInt8) (l:List AttrT) (self:Bool)
 | fin (name:List UInt8)
 | comment (s:List UInt8)
 | doctype (s:List UInt8)
def nmC (c:UInt8):Bool := !(isSp c || c == 47 || c == 62 || c == 61)
def vlC (c:UInt8):Bool := !(isSp c || c == 62)
def spL (l:List UInt8):List UInt8:=l.dropWhile isSp
noncomputable def addA (l:List AttrT) (name value:List UInt8):List AttrT :=
 if l.any (fun a=>a.1 == cleanL (lowL name))=true then l else l++[(cleanL (lowL name),cleanL (rdL true value))]
def valA (r:List UInt8):Option (List UInt8×List UInt8) :=
 match spL r with
 | 61::r2=>match spL r2 with
   | []=>some ([],[])
   | c::r3=>if c=34∨c=39 then (if c∈r3 then some (upto c r3,past c r3) else none) else if c=62 then some ([],c::r3) else some (c::r3.takeWhile vlC,r3.dropWhile vlC)
 | r1=>some ([],r1)
noncomputable def attrF:Nat→List AttrT→List UInt8→Option (List AttrT×Bool×List UInt8)
 | 0,_,_=>none
 | f+1,l,s=>match spL s with
   | []=>none
   | c::r =>
     if c=62 then some (l,false,r)
     else if c=47 then (match r with
      | []=>attrF f l []
      | d::r'=>if d=62 then some (l,true,r') else attrF f l (d::r'))
     else match valA (r.dropWhile nmC) with
      | none=>none
      | some (v,r')=>attrF f (addA l (c::r.takeWhile nmC) v) r'
theorem dw_le {α:Type} (p:α→Bool) (l:List α):(l.dropWhile p).length≤l.length:=by
 induction l with
 | nil=>simp
 | cons c r ih=>rw [List.dropWhile_cons];split<;>simp only [List.length_cons]<;>omega
theorem past_le (c:UInt8) (l:List UInt8):(past c l).length≤l.length:=by unfold past;rw [List.length_drop];omega
theorem valA_le {r v r':List UInt8} (h:valA r=some (v,r')):r'.length≤r.length:=by
 have h1:=dw_le isSp r
 unfold valA at h
 change (spL r).length≤_ at h1
 split at h
 ·rename_i r2 he
  rw [he,List.length_cons] at h1
  have h2:=dw_le isSp r2
  change (spL r2).length≤_ at h2
  split at h
  ·cases h;simp
  ·rename_i c r3 he2
   rw [he2,List.length_cons] at h2
   split at h
   ·split at h
    ·cases h;have:=past_le c r3;omega
    ·cases h
   ·split at h
    ·cases h;simp only [List.length_cons];omega
    ·cases h;have:=dw_le vlC r3;omega
 ·cases h;exact h1
theorem attrF_more (f:Nat):∀ l s f',s.length<f→s.length<f'→attrF f l s=attrF f' l s:=by
 induction f with
 | zero=>intro l s f' h _;omega
 | succ f ih =>
   intro l s f' h h'
   cases f' with
   | zero=>omega
   | succ f' =>
     have h1:=dw_le isSp s
     change (spL s).length≤_ at h1
     simp only [attrF]
     split
     ·rfl
     ·rename_i c r he
      rw [he,List.length_cons] at h1
      split
      ·rfl
      ·split
       ·split
        ·rw [ih _ _ f' zu25 zu25]
        ·simp only [List.length_cons] at h1
         split
         ·rfl
         ·rw [ih _ _ f' zu25 zu25]
       ·have h2:=dw_le nmC r
        cases hv:valA (r.dropWhile nmC) with
        | none=>rfl
        | some x =>
          obtain ⟨v,r'⟩:=x
          have:=valA_le hv
          simp only
          rw [ih _ _ f' zu4 zu4]
noncomputable def attrL (l:List AttrT) (s:List UInt8):Option (List AttrT×Bool×List UInt8):=attrF (s.length+1) l s
theorem attrL_eq (l:List AttrT) (s:List UInt8):attrL l s=match spL s with
  | []=>none
  | c::r =>
    if c=62 then some (l,false,r)
    else if c=47 then (match r with
     | []=>none
     | d::r'=>if d=62 then some (l,true,r') else attrL l (d::r'))
    else match valA (r.dropWhile nmC) with
     | none=>none
     | some (v,r')=>attrL (addA l (c::r.takeWhile nmC) v) r':=by
 have h1:=dw_le isSp s
 change (spL s).length≤_ at h1
 unfold attrL
 rw [attrF]
 split
 ·rfl
 ·rename_i c r he
  rw [he,List.length_cons] at h1
  split
  ·rfl
  ·split
   ·split
    ·cases hs:s.length with
     | zero=>omega
     | succ n=>simp [attrF,spL]
    ·simp only [List.length_cons] at h1
     split
     ·rfl
     ·rw [attrF_more _ _ _ _ zu25 (Nat.lt_succ_self _)]
   ·have h2:=dw_le nmC r
    cases hv:valA (r.dropWhile nmC) with
    | none=>rfl
    | some x =>
      obtain ⟨v,r'⟩:=x
      have:=valA_le hv
      simp only
      rw [attrF_more _ _ _ _ zu4 (Nat.lt_succ_self _)]
theorem attrF_le (f:Nat):∀ l s l' b r,attrF f l s=some (l',b,r)→r.length<s.length:=by
 induction f with
 | zero=>intro l s l' b r h;cases h
 | succ f ih =>
   intro l s l' b r h
   have h1:=dw_le isSp s
   change (spL s).length≤_ at h1
   simp only [attrF] at h
   split at h
   ·cases h
   ·rename_i c r0 he
    rw [he,List.length_cons] at h1
    split at h
    ·cases h;omega
    ·split at h
     ·split at h
      ·have:=ih _ _ _ _ _ h;simp at this
      ·simp only [List.length_cons] at h1
       split at h
       ·cases h;omega
       ·have:=ih _ _ _ _ _ h;simp at this;omega
     ·have h2:=dw_le nmC r0
      split at h
      ·cases h
      ·rename_i v r' hv
       have h3:=valA_le hv
       have:=ih _ _ _ _ _ h
       omega
theorem attrL_lt {l l':List AttrT} {s r:List UInt8} {b:Bool} (h:attrL l s=some (l',b,r)):r.length<s.length:=attrF_le _ _ _ _ _ _ h
end Hand
end

section
namespace Pl
def endG (p q:List UInt8):List UInt8→Option (List UInt8×Nat)
 | []=>none
 | c::r=>if p.isPrefixOf (c::r)=true then some ([],p.length) else if q.isPrefixOf (c::r)=true then some ([],q.length)
   else match endG p q r with
    | none=>none
    | some (t,n)=>some (c::t,n+1)
end Pl
namespace Pure
open Pl
def letB (c:UInt8):Bool:=(decide (65≤c)&&decide (c≤90)) || (decide (97≤c)&&decide (c≤122))
def doctypeL:List UInt8:=[100,111,99,116,121,112,101]
def begC (r:List UInt8):Bool:=match r with
 | c::d::t=>(c == 60)&&(if d=33 then !begR t doctypeL else if d=63 then true else if d=47 then (match t with | []=>false|e::_ => !(e == 62) && !letB e) else false)
 | _=>false
def otherL (s:List UInt8):List UInt8×Nat:=match endG [62] [62] s with|none=>(s,s.length)|some x=>x
def plainEnd (s:List UInt8):List UInt8×Nat :=
 if [45,45,33].isSuffixOf s=true then (s.take (s.length - 3),s.length) else if [45,45].isSuffixOf s=true then (s.take (s.length - 2),s.length)
 else if [45].isSuffixOf s=true then (s.take (s.length - 1),s.length) else (s,s.length)
def plainL (s:List UInt8):List UInt8×Nat :=
 if [62].isPrefixOf s=true then ([],1) else if [45,62].isPrefixOf s=true then ([],2)
 else match endG [45,45,62] [45,45,33,62] s with|some x=>x|none=>plainEnd s
def readC (r:List UInt8):List UInt8×Nat :=
 if begR r [60,33,45,45]=true then ((plainL (r.drop 4)).1,4+(plainL (r.drop 4)).2)
 else if begR r [60,63]=true then ((otherL (r.drop 1)).1,1+(otherL (r.drop 1)).2)
 else ((otherL (r.drop 2)).1,2+(otherL (r.drop 2)).2)
end Pure
end

section
namespace Pl
open Go Pb
def plc (n:Nat):List UInt8→List Nat
 | []=>[]
 | c::r=>if [60,47].isPrefixOf (c::r)=true then n::plc (n+1) r else plc (n+1) r
theorem plc_none:∀ (r:List UInt8) (n:Nat),Lib.index r [60,47]<0→plc n r=[]:=by
 intro r
 induction r with
 | nil=>intro n _;rfl
 | cons c r ih =>
   intro n h
   have g:=Lib.index_ge r [60,47]
   simp only [Lib.index] at h
   split at h
   ·omega
   ·rename_i hp
    have:Lib.index r [60,47] = -1:=by
     split at h
     ·rename_i hh;simpa using hh
     ·omega
    rw [plc,if_neg hp,ih (n+1) zu4]
theorem plc_some:∀ (r:List UInt8) (n k:Nat),Lib.index r [60,47]=(k:Int)→plc n r=(n+k)::plc (n+k+1) (r.drop (k+1)):=by
 intro r
 induction r with
 | nil=>intro n k h;simp [Lib.index] at h;try omega
 | cons c r ih =>
   intro n k h
   have g:=Lib.index_ge r [60,47]
   simp only [Lib.index] at h
   split at h
   ·rename_i hp
    obtain rfl:k=0:=by omega
    rw [plc,if_pos hp];simp
   ·rename_i hp
    split at h
    ·omega
    ·rename_i hh
     have hne:Lib.index r [60,47] ≠ -1:=by simpa using hh
     obtain ⟨j,rfl⟩:∃ j,k=j+1:=⟨k - 1,zu4⟩
     rw [plc,if_neg hp,ih (n+1) j zu4]
     simp only [List.drop_succ_cons]
     rw [show n+1+j=n+(j+1) by omega]
theorem index_lt:∀ (r:List UInt8) (k:Nat),Lib.index r [60,47]=(k:Int)→k+1≤r.length:=by
 intro r
 induction r with
 | nil=>intro k h;simp [Lib.index] at h;try omega
 | cons c r ih =>
   intro k h
   simp only [Lib.index] at h
   split at h
   ·simp;omega
   ·split at h
    ·omega
    ·rename_i hh
     have hne:Lib.index r [60,47] ≠ -1:=by simpa using hh
     have g:=Lib.index_ge r [60,47]
     obtain ⟨j,rfl⟩:∃ j,k=j+1:=⟨k - 1,zu4⟩
     have:=ih j zu4
     simp;omega
theorem plc_length:∀ (r:List UInt8) (n:Nat),(plc n r).length≤r.length:=by
 intro r
 induction r with
 | nil=>intro n;simp [plc]
 | cons c r ih =>
   intro n
   have:=ih (n+1)
   rw [plc];split
   ·simp;omega
   ·simp;omega
theorem xdrop (s:ByteArray) (k:Nat):(s.extract k s.size).data.toList=s.data.toList.drop k:=by
 obtain ⟨l,rfl⟩:=exists_B s
 rw [B_extract,B_data,B_data,size_B,List.take_length]
def rawFind (s:List UInt8) (n:Nat) (name:List UInt8):Nat:=((plc n (s.drop n)).find? fun p=>endsL (s.drop p) name).getD s.length
theorem rawFind_none {s:List UInt8} {n:Nat} {name:List UInt8} (h:∀ p∈plc n (s.drop n),endsL (s.drop p) name=false):rawFind s n name=s.length:=by
 unfold rawFind
 rw [List.find?_eq_none.2 (fun p hp=>by simp [h p hp])];rfl
theorem rawFind_some {s:List UInt8} {n:Nat} {name:List UInt8} {pre:List Nat} {x:Nat} (hp:(pre++[x]) <+: plc n (s.drop n)) (h:∀ p∈pre,endsL (s.drop p) name=false) (hx:endsL (s.drop x) name=true):rawFind s n name=x:=by
 obtain ⟨t,ht⟩:=hp
 unfold rawFind
 rw [← ht,List.append_assoc,List.find?_append,List.find?_eq_none.2 (fun p hq=>by simp [h p hq])]
 simp [hx]
def firstE (name:List UInt8):List UInt8→Nat
 | []=>0
 | c::r=>if endsL (c::r) name=true then 0 else 1+firstE name r
theorem lowB_47' (c:UInt8) (h:lowB c=47):c=47:=by
 have:∀ n:Fin 256,lowB (UInt8.ofNat n.val)=47→UInt8.ofNat n.val=47:=by decide +kernel
 have h':=this ⟨c.toNat,c.toNat_lt⟩
 simpa using h' zu46
theorem lowB_60' (c:UInt8) (h:lowB c=60):c=60:=by
 have:∀ n:Fin 256,lowB (UInt8.ofNat n.val)=60→UInt8.ofNat n.val=60:=by decide +kernel
 have h':=this ⟨c.toNat,c.toNat_lt⟩
 simpa using h' zu46
theorem ends_pref {r name:List UInt8} (h:endsL r name=true):[60,47].isPrefixOf r=true:=by
 simp only [endsL,Bool.and_eq_true] at h
 have h1:=h.1.1.2
 match r,h1 with
 | [],h1=>simp [begR] at h1
 | [c],h1=>simp [begR] at h1
 | c::d::r,h1 =>
   simp only [begR,Bool.and_eq_true,beq_iff_eq] at h1
   rw [lowB_60' c h1.1,lowB_47' d h1.2.1];simp [List.isPrefixOf]
theorem rawFind_aux (s name:List UInt8):∀ (r:List UInt8) (n:Nat),s.drop n=r→n≤s.length→((plc n r).find? fun p=>endsL (s.drop p) name).getD s.length=n+firstE name r:=by
 intro r
 induction r with
 | nil =>
   intro n h hn
   have:=List.drop_eq_nil_iff.1 h
   simp [plc,firstE];omega
 | cons c r ih =>
   intro n h hn
   have hlt:n<s.length:=by
    rcases Nat.lt_or_ge n s.length with h'|h'
    ·exact h'
    ·rw [List.drop_eq_nil_of_le h'] at h;cases h
   have hr:s.drop (n+1)=r:=by rw [← List.drop_drop,h];rfl
   have:=ih (n+1) hr zu4
   by_cases he:endsL (c::r) name=true
   ·rw [plc,if_pos (ends_pref he),List.find?_cons,h,he,firstE,if_pos he];rfl
   ·rw [firstE,if_neg he,plc]
    split
    ·rw [List.find?_cons,h,Bool.eq_false_iff.2 he]
     simp only
     rw [this];omega
    ·rw [this];omega
theorem rawFind_first (s name:List UInt8) (n:Nat) (hn:n≤s.length):rawFind s n name=n+firstE name (s.drop n):=rawFind_aux s name _ n rfl hn
end Pl
end

section
namespace Hand
open Go Go.RowKit Pl Pb Go.Proofs.YtclkdmmgibgamaaGreatDoor.Pure
def tagN:List UInt8→Nat
 | a::c::r=>if a=60 then (if isLetB c=true then 1 else if c=47 then (match r with | []=>0|d::_=>if isLetB d=true then 2 else 0) else 0) else 0
 | _=>0
def stC (c:UInt8):Bool := !stops c
def nameL (l:List UInt8):List UInt8:=cleanL (lowL (l.takeWhile stC))
noncomputable def tagL (l:List UInt8):Option Tk×List UInt8 :=
 match attrL [] ((l.drop (tagN l)).dropWhile stC) with
 | none=>(none,[])
 | some (al,self,r)=>(some (if tagN l=2 then .fin (nameL (l.drop 2)) else .start (nameL (l.drop 1)) al self),r)
noncomputable def tagR (l:List UInt8):Option Tk×List UInt8:=if tagN l=0 then (none,l) else tagL l
def docL:List UInt8:=[60,33,100,111,99,116,121,112,101]
def voidL:List UInt8:=[60,47,62]
def begM (l:List UInt8):Bool:=(tagN l != 0) || begC l || begR l docL || begR l voidL
def txN:List UInt8→Nat
 | []=>0
 | c::r=>if begM (c::r)=true then 0 else 1+txN r
noncomputable def tokL (l:List UInt8):Option Tk×List UInt8 :=
 if tagN l≠0 then tagL l
 else if begC l=true then (some (.comment (cleanL (readC l).1)),l.drop (readC l).2)
 else if begR l docL=true then (some (.doctype (cleanL (upto 62 (l.drop 9)))),past 62 (l.drop 9))
 else if begR l voidL=true then (none,l.drop 3)
 else if txN l=0 then (none,l)
 else (some (.text (rdL false (l.take (txN l)))),l.drop (txN l))
noncomputable def rawT (refs:Bool) (s:List UInt8):List UInt8:=if refs=true then cleanL (rdL false s) else cleanL s
def txtT (s:List UInt8):List Tk:=if s=[] then [] else [.text s]
def endN (st:Nat) (name l:List UInt8):Nat:=if st=1∨st=2 then firstE name l else if st=3 then (findL 0 0 l).1 else l.length
noncomputable def restL (st:Nat) (name l:List UInt8):List Tk×List UInt8 :=
 if st=0∨4<st then ([],l)
 else if l.drop (endN st name l)=[] then (txtT (rawT (st == 1) (l.take (endN st name l))),[])
 else (txtT (rawT (st == 1) (l.take (endN st name l)))++(tagR (l.drop (endN st name l))).1.toList,(tagR (l.drop (endN st name l))).2)
def joinL:List Tk→List Tk
 | []=>[]
 | .text s::r=>match joinL r with
   | .text t::r2 => .text (s++t)::r2
   | r2=>txtT s++r2
 | t::r=>t::joinL r
noncomputable def tksF:Nat→List UInt8→List Tk
 | 0,_=>[]
 | f+1,l=>if l=[] then [] else (tokL l).1.toList++tksF f (tokL l).2
def titleW:List UInt8:=[116,105,116,108,101]
def areaW:List UInt8:=[116,101,120,116,97,114,101,97]
def styleW:List UInt8:=[115,116,121,108,101]
def xmpW:List UInt8:=[120,109,112]
def iframeW:List UInt8:=[105,102,114,97,109,101]
def noembedW:List UInt8:=[110,111,101,109,98,101,100]
def noframesW:List UInt8:=[110,111,102,114,97,109,101,115]
def noscriptW:List UInt8:=[110,111,115,99,114,105,112,116]
def plaintextW:List UInt8:=[112,108,97,105,110,116,101,120,116]
def stateN (n:List UInt8):Nat :=
 if n=titleW∨n=areaW then 1
 else if n=styleW∨n=xmpW∨n=iframeW∨n=noembedW∨n=noframesW∨n=noscriptW then 2
 else if n=scriptL then 3 else if n=plaintextW then 4 else 0
noncomputable def drvF:Nat→List UInt8→List Tk
 | 0,_=>[]
 | f+1,l=>if l=[] then [] else
   match tokL l with
   | (some (.start n al self),r) => .start n al self::((restL (stateN n) n r).1++drvF f (restL (stateN n) n r).2)
   | (some t,r)=>t::drvF f r
   | (none,r)=>drvF f r
theorem tagL_lt {l:List UInt8} (h:l≠[]):(tagL l).2.length<l.length:=by
 have hp:=List.length_pos_iff.2 h
 have h1:=dw_le stC (l.drop (tagN l))
 unfold tagL
 split
 ·exact hp
 ·rename_i al self r he
  have:=attrL_lt he
  rw [List.length_drop] at h1
  simp only
  omega
theorem tagR_le (l:List UInt8):(tagR l).2.length≤l.length:=by
 unfold tagR
 split
 ·exact Nat.le_refl _
 ·cases l with
  | nil=>simp [tagL,tagN,attrL_eq,spL]
  | cons c r=>exact Nat.le_of_lt (tagL_lt (List.cons_ne_nil _ _))
theorem readC_pos (l:List UInt8):1≤(readC l).2:=by unfold readC;split<;>(try split)<;>simp only<;>omega
theorem txN_le (l:List UInt8):txN l≤l.length:=by
 induction l with
 | nil=>exact Nat.le_refl _
 | cons c r ih=>rw [txN];split<;>simp only [List.length_cons]<;>omega
theorem txN_zero {l:List UInt8} (h:txN l=0) (hl:l≠[]):begM l=true:=by
 cases l with
 | nil=>exact absurd rfl hl
 | cons c r =>
   rw [txN] at h
   split at h
   ·assumption
   ·omega
theorem tokL_lt {l:List UInt8} (h:l≠[]):(tokL l).2.length<l.length:=by
 have hp:=List.length_pos_iff.2 h
 unfold tokL
 split
 ·exact tagL_lt h
 ·split
  ·have:=readC_pos l
   simp only [List.length_drop];omega
  ·split
   ·have:=past_le 62 (l.drop 9)
    rw [List.length_drop] at this
    simp only;omega
   ·split
    ·simp only [List.length_drop];omega
    ·split
     ·rename_i h1 h2 h3 h4 h5
      have:=txN_zero h5 h
      unfold begM at this
      simp only [Bool.or_eq_true,bne_iff_ne] at this
      rcases this with ((h6|h6)|h6)|h6
      ·exact absurd h6 h1
      ·exact absurd h6 h2
      ·exact absurd h6 h3
      ·exact absurd h6 h4
     ·have:=txN_le l
      simp only [List.length_drop];omega
theorem restL_le (st:Nat) (name l:List UInt8):(restL st name l).2.length≤l.length:=by
 unfold restL
 split
 ·exact Nat.le_refl _
 ·split
  ·simp
  ·rename_i h
   have:=tagR_le (l.drop (endN st name l))
   rw [List.length_drop] at this
   simp only
   omega
theorem drvF_more (f:Nat):∀ l f',l.length≤f→l.length≤f'→drvF f l=drvF f' l:=by
 induction f with
 | zero =>
   intro l f' h _
   obtain rfl:=List.eq_nil_of_length_eq_zero (Nat.le_zero.1 h)
   cases f'<;>simp [drvF]
 | succ f ih =>
   intro l f' h h'
   cases f' with
   | zero =>
     obtain rfl:=List.eq_nil_of_length_eq_zero (Nat.le_zero.1 h')
     simp [drvF]
   | succ f' =>
     simp only [drvF]
     by_cases hl:l=[]
     ·simp [hl]
     ·have:=tokL_lt hl
      rw [if_neg hl,if_neg hl]
      split
      ·rename_i n al self r he
       rw [he] at this
       simp only at this
       have h2:=restL_le (stateN n) n r
       rw [ih _ f' zu4 zu4]
      ·rename_i t r _ he
       rw [he] at this
       simp only at this
       rw [ih _ f' zu4 zu4]
      ·rename_i r he
       rw [he] at this
       simp only at this
       rw [ih _ f' zu4 zu4]
noncomputable def drvL (l:List UInt8):List Tk:=drvF l.length l
theorem drvL_nil:drvL []=[]:=rfl
noncomputable def drv1:Option Tk×List UInt8→List Tk×List UInt8
 | (some (.start n al self),r)=>(.start n al self::(restL (stateN n) n r).1,(restL (stateN n) n r).2)
 | (some t,r)=>([t],r)
 | (none,r)=>([],r)
theorem drv1_le (x:Option Tk×List UInt8):(drv1 x).2.length≤x.2.length:=by
 unfold drv1
 split
 ·exact restL_le _ _ _
 ·exact Nat.le_refl _
 ·exact Nat.le_refl _
theorem drvL_eq {l:List UInt8} (h:l≠[]):drvL l=(drv1 (tokL l)).1++drvL (drv1 (tokL l)).2:=by
 have hp:=List.length_pos_iff.2 h
 have ht:=tokL_lt h
 have h1:=drv1_le (tokL l)
 obtain ⟨n,hn⟩:∃ n,l.length=n+1:=⟨l.length - 1,zu4⟩
 have e:drvL l=(drv1 (tokL l)).1++drvF n (drv1 (tokL l)).2:=by
  unfold drvL
  rw [hn,drvF,if_neg h]
  unfold drv1
  split<;>rfl
 rw [e]
 unfold drvL
 rw [drvF_more n _ _ zu4 (Nat.le_refl _)]
noncomputable def driveL (l:List UInt8):List Tk:=joinL (drvL l)
end Hand
end

section
namespace Pl
open Go Hand
structure Fl where
 told:List UInt8
 ends:Nat
 bl:List UInt8
def isBl (c:UInt8):Bool:=c == 9 || c == 10 || c == 12 || c == 13 || c == 32
def flBreak (f:Fl) (n:Nat):Fl:=⟨f.told,max f.ends (min n 100),[]⟩
def flLine (f:Fl):Fl:=⟨f.told,f.ends+1,[]⟩
def flAdd (f:Fl):List UInt8:=if f.told=[] then [] else List.replicate f.ends 10++f.bl
def flWord (f:Fl) (c:UInt8):Fl:=⟨f.told++flAdd f++[c],0,[]⟩
def flLose (f:Fl):Fl:=if f.ends=0∧f.bl=[] then ⟨f.told,f.ends,[32]⟩ else f
def flKeep (f:Fl) (c:UInt8):Fl:=if c=10∨c=13 then flLine f else ⟨f.told,f.ends,f.bl++[c]⟩
def flByte (keep:Bool) (f:Fl) (c:UInt8):Fl:=if c=0 then f else if isBl c=true then (if keep=true then flKeep f c else flLose f) else flWord f c
def flPut (keep:Bool) (f:Fl) (s:List UInt8):Fl:=s.foldl (flByte keep) f
def flZ (f:Fl):Nat:=f.told.length+f.ends+f.bl.length
theorem flBreak_z (f:Fl) (n:Nat) (h:n≤2):flZ (flBreak f n)≤flZ f+2:=by
 simp only [flZ,flBreak,List.length_nil];omega
theorem flLine_z (f:Fl):flZ (flLine f)≤flZ f+1:=by simp only [flZ,flLine,List.length_nil];omega
theorem flAdd_length (f:Fl):(flAdd f).length≤f.ends+f.bl.length:=by
 unfold flAdd
 split
 ·simp
 ·simp
theorem flWord_z (f:Fl) (c:UInt8):flZ (flWord f c)≤flZ f+1:=by
 have:=flAdd_length f
 simp only [flZ,flWord,List.length_append,List.length_nil,List.length_singleton];omega
theorem flLose_z (f:Fl):flZ (flLose f)≤flZ f+1:=by
 unfold flLose
 split
 ·rename_i h;simp only [flZ,h.1,h.2,List.length_nil,List.length_singleton];omega
 ·omega
theorem flKeep_z (f:Fl) (c:UInt8):flZ (flKeep f c)≤flZ f+1:=by
 unfold flKeep
 split
 ·exact flLine_z f
 ·simp only [flZ,List.length_append,List.length_singleton];omega
theorem flByte_z (k:Bool) (f:Fl) (c:UInt8):flZ (flByte k f c)≤flZ f+1:=by
 unfold flByte
 split
 ·omega
 ·split
  ·split
   ·exact flKeep_z f c
   ·exact flLose_z f
  ·exact flWord_z f c
theorem flPut_z (k:Bool) (s:List UInt8):∀ f:Fl,flZ (flPut k f s)≤flZ f+s.length:=by
 induction s with
 | nil=>intro f;exact Nat.le_refl _
 | cons c r ih =>
   intro f
   have h1:=ih (flByte k f c)
   have h2:=flByte_z k f c
   rw [show flPut k f (c::r)=flPut k (flByte k f c) r from rfl,List.length_cons]
   omega
def nmBody:List UInt8:=[98,111,100,121]
def nmHead:List UInt8:=[104,101,97,100]
def nmBr:List UInt8:=[98,114]
def hideL:List (List UInt8):=[[104,101,97,100],[105,102,114,97,109,101],[110,111,101,109,98,101,100],[110,111,102,114,97,109,101,115],[110,111,115,99,114,105,112,116],[115,99,114,105,112,116],[115,116,121,108,101],[116,101,109,112,108,97,116,101],[116,105,116,108,101]]
def keepsL:List (List UInt8):=[[108,105,115,116,105,110,103],[112,108,97,105,110,116,101,120,116],[112,114,101],[116,101,120,116,97,114,101,97],[120,109,112]]
def lin2L:List (List UInt8):=[[98,108,111,99,107,113,117,111,116,101],[104,49],[104,50],[104,51],[104,52],[104,53],[104,54],[108,105,115,116,105,110,103],[111,108],[112],[112,108,97,105,110,116,101,120,116],[112,114,101],[116,97,98,108,101],[117,108],[120,109,112]]
def lin1aL:List (List UInt8):=[[97,100,100,114,101,115,115],[97,114,116,105,99,108,101],[97,115,105,100,101],[98,111,100,121],[99,101,110,116,101,114],[100,100],[100,101,116,97,105,108,115],[100,105,97,108,111,103],[100,105,114],[100,105,118],[100,108],[100,116],[102,105,101,108,100,115,101,116],[102,105,103,99,97,112,116,105,111,110],[102,105,103,117,114,101],[102,111,111,116,101,114],[102,111,114,109]]
def lin1bL:List (List UInt8):=[[104,101,97,100,101,114],[104,103,114,111,117,112],[104,114],[104,116,109,108],[108,101,103,101,110,100],[108,105],[109,97,105,110],[109,101,110,117],[110,97,118],[111,112,116,105,111,110],[115,101,97,114,99,104],[115,101,99,116,105,111,110],[115,117,109,109,97,114,121],[116,114]]
def hidesB (n:List UInt8):Bool:=hideL.contains n
def keepsB (n:List UInt8):Bool:=keepsL.contains n
def linesN (n:List UInt8):Nat:=if lin2L.contains n=true then 2 else if lin1aL.contains n=true then 1 else if lin1bL.contains n=true then 1 else 0
theorem linesN_le (n:List UInt8):linesN n≤2:=by
 unfold linesN
 repeat' split
 all_goals decide
structure Pg where
 fl:Fl
 op:List (List UInt8)
 kept:Nat
def pgLines (f:Fl) (n:List UInt8):Fl :=
 let g:=if n=nmBr then flLine f else f
 if linesN n=0 then g else flBreak g (linesN n)
def lastIx (n:List UInt8):List (List UInt8)→Option Nat
 | []=>none
 | x::r=>match lastIx n r with
   | some i=>some (i+1)
   | none=>if x=n then some 0 else none
def pgStart (p:Pg) (n:List UInt8):Pg :=
 let o:=if n=nmBody then p.op.filter (fun x => !(x == nmHead)) else p.op
 if hidesB n=true then ⟨p.fl,o++[n],p.kept⟩
 else if o=[] then ⟨pgLines p.fl n,o,if keepsB n=true then p.kept+1 else p.kept⟩ else ⟨p.fl,o,p.kept⟩
def pgEnd (p:Pg) (n:List UInt8):Pg:=match lastIx n p.op with
 | some i=>⟨p.fl,p.op.take i,p.kept⟩
 | none=>if p.op=[] then ⟨pgLines p.fl n,p.op,if keepsB n=true then p.kept - 1 else p.kept⟩ else p
def pgText (p:Pg) (s:List UInt8):Pg:=if p.op=[] then ⟨flPut (decide (0<p.kept)) p.fl s,p.op,p.kept⟩ else p
def pgTok (p:Pg):Tk→Pg
 | .start n _ _=>pgStart p n
 | .fin n=>pgEnd p n
 | .text s=>pgText p s
 | _=>p
def pg0:Pg:=⟨⟨[],0,[]⟩,[],0⟩
def renderP (p:Pg) (l:List Tk):Pg:=l.foldl pgTok p
def renderL (l:List Tk):List UInt8:=(renderP pg0 l).fl.told
theorem pgLines_z (f:Fl) (n:List UInt8):flZ (pgLines f n)≤flZ f+3:=by
 have h1:=flLine_z f
 have h2:=linesN_le n
 unfold pgLines
 dsimp only
 split
 ·split<;>omega
 ·split
  ·have:=flBreak_z (flLine f) _ h2;omega
  ·have:=flBreak_z f _ h2;omega
def tkT:Tk→Nat
 | .text s=>s.length
 | _=>3
theorem pgTok_z (p:Pg) (t:Tk):flZ (pgTok p t).fl≤flZ p.fl+tkT t:=by
 cases t with
 | text s =>
   show flZ (pgText p s).fl≤_
   unfold pgText
   split
   ·exact flPut_z _ _ _
   ·exact Nat.le_add_right _ _
 | start n l b =>
   show flZ (pgStart p n).fl≤_+3
   have:=pgLines_z p.fl n
   unfold pgStart
   dsimp only
   repeat' split
   all_goals try dsimp only
   all_goals omega
 | fin n =>
   show flZ (pgEnd p n).fl≤_+3
   have:=pgLines_z p.fl n
   unfold pgEnd
   repeat' split
   all_goals try dsimp only
   all_goals omega
 | comment s=>exact Nat.le_add_right _ _
 | doctype s=>exact Nat.le_add_right _ _
theorem pgTok_op (p:Pg) (t:Tk):(pgTok p t).op.length≤p.op.length+1:=by
 cases t with
 | text s =>
   show (pgText p s).op.length≤_
   unfold pgText
   split<;>(try dsimp only)<;>omega
 | start n l b =>
   show (pgStart p n).op.length≤_
   have h:(if n=nmBody then p.op.filter (fun x => !(x == nmHead)) else p.op).length≤p.op.length:=by
    split
    ·exact List.length_filter_le _ _
    ·exact Nat.le_refl _
   unfold pgStart
   dsimp only
   obtain ⟨o,ho⟩:∃ o,(if n=nmBody then p.op.filter (fun x => !(x == nmHead)) else p.op)=o:=⟨_,rfl⟩
   rw [ho] at h ⊢
   repeat' split
   all_goals try dsimp only
   all_goals try rw [List.length_append]
   all_goals try rw [List.length_singleton]
   all_goals omega
 | fin n =>
   show (pgEnd p n).op.length≤_
   unfold pgEnd
   repeat' split
   all_goals try dsimp only
   ·rw [List.length_take];omega
   all_goals omega
 | comment s=>exact Nat.le_succ _
 | doctype s=>exact Nat.le_succ _
theorem pgTok_kept (p:Pg) (t:Tk):(pgTok p t).kept≤p.kept+1:=by
 cases t with
 | text s =>
   show (pgText p s).kept≤_
   unfold pgText
   split<;>(try dsimp only)<;>omega
 | start n l b =>
   show (pgStart p n).kept≤_
   unfold pgStart
   dsimp only
   repeat' split
   all_goals try dsimp only
   all_goals omega
 | fin n =>
   show (pgEnd p n).kept≤_
   unfold pgEnd
   repeat' split
   all_goals try dsimp only
   all_goals omega
 | comment s=>exact Nat.le_succ _
 | doctype s=>exact Nat.le_succ _
end Pl
end

section
namespace Hand
open Go Go.RowKit Pl Pb YtclkdmmgibgamaaGreatDoorW.PrintWords YtclkdmmgibgamaaGreatDoorW.PrintLast YtclkdmmgibgamaaGreatDoorW.PrintMore
def bz (l:List UInt8):List Int:=l.map fun c=>(c.toNat:Int)
theorem bz_length (l:List UInt8):(bz l).length=l.length:=by simp [bz]
theorem bz_append (a b:List UInt8):bz (a++b)=bz a++bz b:=by simp [bz]
theorem bz_cells (l:List UInt8):nums .u8 (bz l)=Lib.byteCells l:=by simp [nums,bz,Lib.byteCells]
theorem own_kind {w:World} {lo:Nat} {e:TypeId} {s n:Nat} {v:Value} {xs:List Value} (h:w.ownsRow lo e s v n xs):∀ g,v.ownBlock=some g→∃ c fz,w.heap[g]? = some (.cells c e fz):=by
 intro g hg
 rcases h.2 with ⟨rfl,_⟩|⟨g',cap,cur,rfl,_,hgg,_⟩
 ·simp [Value.ownBlock] at hg
 ·simp [Value.ownBlock] at hg
  subst hg
  exact ⟨cur,(0,0),hgg⟩
theorem own_lay {w:World} {lo:Nat} {e:TypeId} {s n:Nat} {v:Value} {xs:List Value} (h:w.ownsRow lo e s v n xs) {b:Nat} (hne:v.ownBlock≠some b) (k:Nat) (x:Value):(w.setCell ⟨b,k,none⟩ x).ownsRow lo e s v n xs :=
 h.kept (row:=some b) ⟨rfl,rfl,rfl,by simp [World.setCell],fun j _ hj=>Below.heap_setCell _ _ _ _ (fun e=>hj (by simp [e]))⟩ (Or.inr hne)
theorem app_str_at {P:Program} (w:World) (base:Nat) (t u ty e:TypeId) (i:TypeInfo) (ht:P.underlying t=some (.slice e)) (hu:P.underlying u=some .string) (hi:P.info? e=some i) (hz:i.zero=some (.int .u8 0))
  (hsize:i.size=1) (hby:i.bytes=1) (v:Value) (n:Nat) (xs:List Value) (hown:w.ownsRow base e 1 v n xs) (s:ByteArray)
  (h63:n+s.size≤maxLen) (hbytes:n+s.size≤140737488355328) (hbase:base≤w.heap.size) :
  ∃ v' w',(Builtin.append_ #[t,u] ty #[v,.string s]).run P w = .ok v' w'∧w'.ownsRow base e 1 v' (n+s.size) (xs++Lib.strCells s)∧w.grownBy w' v.ownBlock ∧
    (v'.ownBlock=v.ownBlock∨∃ b,v'.ownBlock=some b∧w.heap.size≤b):=by
 obtain ⟨v',w',hr,h2,h3,_⟩:=Lib.run_append_own_string (P:=P) w base t u ty e i ht hu hi hz hsize hby v n xs hown s h63 hbytes hbase
 refine ⟨v',w',hr,h2,h3,?_⟩
 have hsmall:n+s.size≤9223372036854775807:=by simp only [maxLen] at h63;omega
 have hxl:xs.length=n:=by simpa using hown.1
 rcases hown.2 with ⟨rfl,rfl⟩|⟨g,cap,cur,rfl,hbg,hg,hnc,hcm,hcs,htake⟩
 ·obtain ⟨v2,w2,hr2,h22,_,_⟩:=Lib.run_append_own_string (P:=P) w w.heap.size t u ty e i ht hu hi hz hsize hby (.slice none 0 0) 0 xs ⟨hown.1,.inl ⟨rfl,rfl⟩⟩ s h63 hbytes (Nat.le_refl _)
  rw [hr] at hr2
  injection hr2 with e1 e2
  subst e1
  cases ho:v'.ownBlock with
  | none=>exact .inl rfl
  | some b=>exact .inr ⟨b,rfl,(h22.lt b ho).1⟩
 ·by_cases hroom:n+s.size≤cap
  ·have hr2:=Lib.run_append_room_string (P:=P) w t u ty e i ht hu hi hsize g n cap cur hg s hroom (by simp only [Nat.mul_one] at hcs;omega)
   rw [hr] at hr2
   injection hr2 with e1 _
   subst e1
   exact .inl rfl
  ·have holds:∀ j u,xs[j]? = some u→w.cell? ((⟨g,0,none⟩:Addr).add j)=some u:=hown.cells (g:=g) rfl
   have hr2:=Lib.run_append_grow_string (P:=P) w t u ty e i (.int .u8 0) ht hu hi hz ⟨g,0,none⟩ n cap xs (by rw [hsize];simpa using hxl) holds s zu4 zu4 (by rw [hby];exact growslice_fits zu4 zu4)
   rw [hr] at hr2
   injection hr2 with e1 _
   subst e1
   exact .inr ⟨w.heap.size,rfl,Nat.le_refl _⟩
theorem wpList_app_str_at {P:Program} (w:World) {ops:Array Oper} {rest:List Oper} {o:Oper} {a:Act} {Q:Exit→Act→World→Prop} (hgd:o.guard=none) (sl x:Operand) (t u:TypeId)
  (ho:o.op = .call { callee:=.builtin .append,args := #[sl,x],argTypes := #[t,u] })
  (base:Nat) (e:TypeId) (i:TypeInfo) (ht:P.underlying t=some (.slice e)) (hu:P.underlying u=some .string) (hi:P.info? e=some i) (hz:i.zero=some (.int .u8 0))
  (hsize:i.size=1) (hby:i.bytes=1) (v:Value) (n:Nat) (xs:List Value) (hs:a.eval sl=v) (hown:w.ownsRow base e 1 v n xs) (s:ByteArray) (hx:a.eval x = .string s)
  (h63:n+s.size≤maxLen) (hbytes:n+s.size≤140737488355328) (hbase:base≤w.heap.size)
  (h:∀ v' w',w'.ownsRow base e 1 v' (n+s.size) (xs++Lib.strCells s)→w.grownBy w' v.ownBlock→(v'.ownBlock=v.ownBlock∨∃ b,v'.ownBlock=some b∧w.heap.size≤b)→wpList P ops Q rest (a.put o.dst v') w'):wpList P ops Q (o::rest) a w:=by
 refine wpList_plain hgd fun K hK => ?_
 obtain ⟨v',w',hr,h2,h3,h4⟩:=app_str_at (P:=P) w base t u o.type e i ht hu hi hz hsize hby v n xs hown s h63 hbytes hbase
 unfold Oper.wp execOp
 simp only [ho,resolve,invoke,builtin,Sem.run_bind,Sem.run_pure,Result.andThen_ok,List.map_toArray,List.map_cons,List.map_nil,hs,hx,hr]
 exact hK _ _ (h v' w' h2 h3 h4)
structure FlAt (lo b:Nat) (p v y:Value) (f:Fl) (w:World):Prop where
 le:lo≤b
 blk:w.heap[b]? = some (.cells #[p,v,.int .i64 (f.ends:Int),y] 113 (0,0))
 told:w.ownsRow lo 5 1 v (bz f.told).length (nums .u8 (bz f.told))
 bl:w.ownsRow lo 5 1 y (bz f.bl).length (nums .u8 (bz f.bl))
 ne:NeRow v y
def IsFl (lo b:Nat) (f:Fl) (w:World):Prop := ∃ p v y,(p = .pointer none∨p = .pointer (some ⟨b,0,none⟩))∧FlAt lo b p v y f w
abbrev Fk (b:Nat) (w w':World):Prop:=Lib.OthersKept 5 (some b) w w'
theorem flT:(113:TypeId)≠5:=by decide
section
variable {lo b : Nat} {p v y : Value} {f : Fl} {w : World}
theorem FlAt.lt (h:FlAt lo b p v y f w):b<w.heap.size:=blk_lt h.blk
theorem FlAt.base (h:FlAt lo b p v y f w):lo≤w.heap.size:=by have:=h.lt;have:=h.le;omega
theorem FlAt.nv (h:FlAt lo b p v y f w):v.ownBlock≠some b:=Lib.ownBlock_ne h.told h.blk flT
theorem FlAt.ny (h:FlAt lo b p v y f w):y.ownBlock≠some b:=Lib.ownBlock_ne h.bl h.blk flT
theorem FlAt.c0 (h:FlAt lo b p v y f w):w.cell? ⟨b,0,none⟩=some p:=(blk_cell h.blk 0).trans rfl
theorem FlAt.c1 (h:FlAt lo b p v y f w):w.cell? ⟨b,1,none⟩=some v:=(blk_cell h.blk 1).trans rfl
theorem FlAt.c2 (h:FlAt lo b p v y f w):w.cell? ⟨b,2,none⟩=some (.int .i64 (f.ends:Int)):=(blk_cell h.blk 2).trans rfl
theorem FlAt.c3 (h:FlAt lo b p v y f w):w.cell? ⟨b,3,none⟩=some y:=(blk_cell h.blk 3).trans rfl
theorem FlAt.fz (h:FlAt lo b p v y f w) (k:Nat):w.frozen? ⟨b,k,none⟩=false:=blk_frozen h.blk k
theorem IsFl.lt (h:IsFl lo b f w):b<w.heap.size:=by obtain ⟨_,_,_,_,h⟩:=h;exact h.lt
theorem IsFl.base (h:IsFl lo b f w):lo≤w.heap.size:=by obtain ⟨_,_,_,_,h⟩:=h;exact h.base
theorem FlAt.drew (h:FlAt lo b p v y f w):FlAt lo b p v y f w.drew:=⟨h.le,h.blk,h.told,h.bl,h.ne⟩
theorem FlAt.call {w':World} (h:FlAt lo b p v y f w) (hb:Below w.heap.size w w'):FlAt lo b p v y f w' :=
 ⟨h.le,blk_below h.blk hb,pw_own_below h.told hb,pw_own_below h.bl hb,h.ne⟩
theorem IsFl.call {w':World} (h:IsFl lo b f w) (hb:Below w.heap.size w w'):IsFl lo b f w':=by
 obtain ⟨p,v,y,hp,h⟩:=h;exact ⟨p,v,y,hp,h.call hb⟩
theorem fk_call {w':World} (hb:Below w.heap.size w w'):Fk b w w':=fun k o hk _ _=>(hb.block k (blk_lt hk)).trans hk
theorem FlAt.put {p' v' y':Value} {f':Fl} {cs:Array Value} {k:Nat} {x:Value} (hle:lo≤b) (hblk:w.heap[b]? = some (.cells cs 113 (0,0))) (hcs:cs.setIfInBounds k x = #[p',v',.int .i64 (f'.ends:Int),y'])
  (ht:w.ownsRow lo 5 1 v' (bz f'.told).length (nums .u8 (bz f'.told))) (hb:w.ownsRow lo 5 1 y' (bz f'.bl).length (nums .u8 (bz f'.bl))) (hne:NeRow v' y'):FlAt lo b p' v' y' f' (w.setCell ⟨b,k,none⟩ x) :=
 ⟨hle,blk_put hblk k x hcs,own_lay ht (Lib.ownBlock_ne ht hblk flT) k x,own_lay hb (Lib.ownBlock_ne hb hblk flT) k x,hne⟩
theorem FlAt.setp (h:FlAt lo b p v y f w) (x:Value):FlAt lo b x v y f (w.setCell ⟨b,0,none⟩ x):=FlAt.put h.le h.blk rfl h.told h.bl h.ne
theorem FlAt.sete (h:FlAt lo b p v y f w) (n:Nat):FlAt lo b p v y ⟨f.told,n,f.bl⟩ (w.setCell ⟨b,2,none⟩ (.int .i64 (n:Int))):=FlAt.put h.le h.blk rfl h.told h.bl h.ne
theorem FlAt.sety0 (h:FlAt lo b p v y f w):FlAt lo b p v (.slice none 0 0) ⟨f.told,f.ends,[]⟩ (w.setCell ⟨b,3,none⟩ (.slice none 0 0)):=FlAt.put h.le h.blk rfl h.told (own_nil _ _ _ _) (ne_nil' _)
theorem fk_set {a:World} (h:Fk b a w) (k:Nat) (x:Value):Fk b a (w.setCell ⟨b,k,none⟩ x):=h.setCell ⟨b,k,none⟩ rfl x
theorem FlAt.grow1 {w2:World} {v1:Value} {t':List UInt8} (h:FlAt lo b p v y f w) (ho:w2.ownsRow lo 5 1 v1 (bz t').length (nums .u8 (bz t'))) (hg:w.grownBy w2 v.ownBlock) (hat:v1.ownBlock=v.ownBlock∨∃ b,v1.ownBlock=some b∧w.heap.size≤b) :
  w2.heap[b]? = some (.cells #[p,v,.int .i64 (f.ends:Int),y] 113 (0,0))∧FlAt lo b p v1 y ⟨t',f.ends,f.bl⟩ (w2.setCell ⟨b,1,none⟩ v1):=by
 have hb:=blk_grown h.blk hg (fun e=>h.nv e.symm)
 exact ⟨hb,FlAt.put h.le hb rfl ho (own_other h.bl hg (ne_other h.ne)) (ne_append h.ne hat h.bl)⟩
theorem FlAt.grow3 {w2:World} {y1:Value} {t':List UInt8} (h:FlAt lo b p v y f w) (ho:w2.ownsRow lo 5 1 y1 (bz t').length (nums .u8 (bz t'))) (hg:w.grownBy w2 y.ownBlock) (hat:y1.ownBlock=y.ownBlock∨∃ b,y1.ownBlock=some b∧w.heap.size≤b) :
  w2.heap[b]? = some (.cells #[p,v,.int .i64 (f.ends:Int),y] 113 (0,0))∧FlAt lo b p v y1 ⟨f.told,f.ends,t'⟩ (w2.setCell ⟨b,3,none⟩ y1):=by
 have hb:=blk_grown h.blk hg (fun e=>h.ny e.symm)
 exact ⟨hb,FlAt.put h.le hb rfl (own_other h.told hg (ne_other (ne_symm h.ne))) ho (ne_append' h.ne hat h.told)⟩
theorem fk_grow {a w2:World} {lo s n:Nat} {r:Value} {xs:List Value} (h:Fk b a w) (hg:w.grownBy w2 r.ownBlock) (ho:w.ownsRow lo 5 s r n xs):Fk b a w2:=h.grown hg (own_kind ho)
end
theorem info_b:(Tryz.prog.info? 5).map (fun i=>(i.zero,i.size,i.bytes))=some (some (.int .u8 0),1,1):=by kernel_rfl
theorem fw_copy (lo b:Nat) (p v y:Value) (f:Fl) (w:World) (hp:p = .pointer none∨p = .pointer (some ⟨b,0,none⟩)) (h:FlAt lo b p v y f w) :
  Calls Tryz.prog 82 #[.pointer (some ⟨b,0,none⟩)] w fun e w'=>e = .returned (.tuple #[])∧FlAt lo b (.pointer (some ⟨b,0,none⟩)) v y f w'∧Below lo w w'∧Fk b w w':=by
 obtain ⟨j,hj,hjs⟩:=Option.map_eq_some_iff.1 (show (Tryz.prog.info? 59).map (·.size)=some 2 by kernel_rfl)
 rcases hp with rfl|rfl
 ·have h0:=h.c0
  have hfz:=h.fz 0
  have hsh:w.shape? b=some (113,4):=by simp [World.shape?,h.blk]
  have H:=Lib.hid h
  clear h
  go_enter Tryz.func82,Tryz.ntmps82
  go_wp2
  rw [Lib.run_to_unsafe w ⟨b,0,none⟩ Tryz.underlying57 Tryz.underlying134 hj (by rw [hjs];decide) hsh (show (0:Nat)<4 by decide)]
  simp only [Result.andThen]
  rw [Oper.upon_value]
  go_wp2
  rw [run_callFunc_extern Tryz.func118 zu13 zu13 zu13 (e:=Extern.AbiNoEscape.same) zu13]
  rw [Lib.run_noEscape]
  simp only [Result.andThen]
  rw [Oper.upon_value]
  go_wp2
  rw [Lib.run_from_unsafe w ⟨b,0,none⟩ Tryz.underlying134 Tryz.underlying57 hj hsh zu13]
  simp only [Result.andThen]
  rw [Oper.upon_value]
  go_wp2
  go_end0
  exact ⟨rfl,H.out.setp _,(Below.refl lo w).setCell (p:=⟨b,0,none⟩) H.out.le _,fk_set (Lib.OthersKept.refl _ _ w) 0 _⟩
 ·have h0:=h.c0
  have H:=Lib.hid h
  clear h
  go_enter Tryz.func82,Tryz.ntmps82
  go_wp2
  rw [Lib.run_neq_ptr_same w _ Tryz.underlying57 hj]
  go_wp2
  go_end0
  exact ⟨rfl,H.out,Below.refl lo _,Lib.OthersKept.refl _ _ _⟩
theorem fw_len (lo b:Nat) (f:Fl) (w:World) (h:IsFl lo b f w) :
  Calls Tryz.prog 135 #[.pointer (some ⟨b,0,none⟩)] w fun e w'=>e = .returned (.int .i64 (f.told.length:Int))∧w'=w:=by
 obtain ⟨p,v,y,hp,h⟩:=h
 obtain ⟨A,c,hv⟩:=own_slice h.told
 have c1:=h.c1
 rw [hv,bz_length] at c1
 clear h hp hv
 go_enter Tryz.func135,Tryz.ntmps135
 go_wp2_with fail
 go_ret
 exact ⟨rfl,rfl⟩
theorem fw_byte (lo b:Nat) (f:Fl) (c:UInt8) (w:World) (h:IsFl lo b f w) (hlen:f.told.length≤1000000) :
  Calls Tryz.prog 66 #[.pointer (some ⟨b,0,none⟩),.int .u8 (c.toNat:Int)] w fun e w'=>e = .returned .nilIface∧IsFl lo b ⟨f.told++[c],f.ends,f.bl⟩ w'∧Below lo w w'∧Fk b w w':=by
 obtain ⟨p,v,y,hp,h⟩:=h
 have C:=Lib.hid (fw_copy lo b p v y f w hp h)
 have hl:((bz f.told).length+1)*1≤140737488355328:=by rw [bz_length];omega
 clear h hlen hp
 go_enter Tryz.func66,Tryz.ntmps66
 go_wp2_with fail
 refine C.out.mono ?_
 rintro e w1 ⟨rfl,h1,hb1,hk1⟩
 have c0:=h1.c0
 have c1:=h1.c1
 have H1:=Lib.hid h1
 have HB1:=Lib.hid hb1
 have HK1:=Lib.hid hk1
 clear h1 hb1 hk1 C
 go_wp2_with (at_builtin;refine print_append_num lo rfl _ _ 22 5 .u8 1 rfl Tryz.underlying22 info_b zu15 v (bz f.told) (c.toNat:Int) rfl rfl H1.out.told HB1.out H1.out.base hl ?_)
 intro v1 w2 ho hB hg hat
 have ho':w2.ownsRow lo 5 1 v1 (bz (f.told++[c])).length (nums .u8 (bz (f.told++[c]))):=by rw [bz_append,List.length_append];exact ho
 obtain ⟨hb2,h3⟩:=H1.out.grow1 ho' hg hat
 have d0:w2.cell? ⟨b,0,none⟩=some (.pointer (some ⟨b,0,none⟩)):=(blk_cell hb2 0).trans rfl
 have d1:w2.cell? ⟨b,1,none⟩=some v:=(blk_cell hb2 1).trans rfl
 have f1:=blk_frozen hb2 1
 have HF:=Lib.hid (fk_set (fk_grow HK1.out hg H1.out.told) 1 v1)
 have H3:=Lib.hid h3
 have HB:=Lib.hid (hB.setCell (p:=⟨b,1,none⟩) H1.out.le v1)
 obtain ⟨A1,cc,hv1⟩:=own_slice ho'
 clear ho ho' hB hg hat hb2 h3
 subst hv1
 go_wp2_with fail
 go_ret
 exact ⟨rfl,⟨_,_,y,.inr rfl,H3.out⟩,HB.out,HF.out⟩
theorem fw_str (lo b:Nat) (p v y:Value) (f:Fl) (s:List UInt8) (w:World) (hp:p = .pointer none∨p = .pointer (some ⟨b,0,none⟩)) (h:FlAt lo b p v y f w) (hlen:f.told.length+s.length≤1000000) :
  Calls Tryz.prog 43 #[.pointer (some ⟨b,0,none⟩),.string (B s)] w fun e w'=>(∃ x,e = .returned (.tuple #[x,.nilIface]))∧(∃ v',FlAt lo b (.pointer (some ⟨b,0,none⟩)) v' y ⟨f.told++s,f.ends,f.bl⟩ w')∧Below lo w w'∧Fk b w w':=by
 obtain ⟨i0,hi,hzz⟩:=Option.map_eq_some_iff.1 info_b
 simp only [Prod.mk.injEq] at hzz
 obtain ⟨hz0,hz1,hz2⟩:=hzz
 have C:=Lib.hid (fw_copy lo b p v y f w hp h)
 have hsz:(B s).size=s.length:=size_B s
 have hsc:Lib.strCells (B s)=nums .u8 (bz s):=by rw [bz_cells,Lib.strCells_eq,B_data]
 obtain ⟨a,ha⟩:∃ a,B s=a:=⟨_,rfl⟩
 rw [ha] at hsz hsc ⊢
 have hl:(bz f.told).length+a.size≤140737488355328:=by rw [bz_length];omega
 have HI:=Lib.hid hi
 have HZ0:=Lib.hid hz0
 have HZ1:=Lib.hid hz1
 have HZ2:=Lib.hid hz2
 have HSC:=Lib.hid hsc
 have HSZ:=Lib.hid hsz
 clear h hlen hi hz0 hz1 hz2 hsc hsz ha hp
 go_enter Tryz.func43,Tryz.ntmps43
 go_wp2_with fail
 refine C.out.mono ?_
 rintro e w1 ⟨rfl,h1,hb1,hk1⟩
 have c0:=h1.c0
 have c1:=h1.c1
 have H1:=Lib.hid h1
 have HB1:=Lib.hid hb1
 have HK1:=Lib.hid hk1
 clear h1 hb1 hk1 C
 go_wp2_with (at_builtin;refine wpList_app_str_at _ rfl _ _ 22 9 rfl lo 5 i0 Tryz.underlying22 Tryz.underlying9 HI.out HZ0.out HZ1.out HZ2.out v _ _ rfl H1.out.told a rfl zu73 hl H1.out.base ?_)
 intro v1 w2 ho hg hat
 have ho':w2.ownsRow lo 5 1 v1 (bz (f.told++s)).length (nums .u8 (bz (f.told++s))):=by
  rw [bz_append,nums_append,← HSC.out,List.length_append,bz_length s,← HSZ.out];exact ho
 obtain ⟨hb2,h3⟩:=H1.out.grow1 ho' hg hat
 have d0:w2.cell? ⟨b,0,none⟩=some (.pointer (some ⟨b,0,none⟩)):=(blk_cell hb2 0).trans rfl
 have d1:w2.cell? ⟨b,1,none⟩=some v:=(blk_cell hb2 1).trans rfl
 have f1:=blk_frozen hb2 1
 have HF:=Lib.hid (fk_set (fk_grow HK1.out hg H1.out.told) 1 v1)
 have H3:=Lib.hid h3
 have hbB:Below lo w w2:=HB1.out.grown hg H1.out.base (fun k hk=>(H1.out.told.lt k hk).1)
 have HB:=Lib.hid (hbB.setCell (p:=⟨b,1,none⟩) H1.out.le v1)
 obtain ⟨A1,cc,hv1⟩:=own_slice ho'
 clear ho ho' hbB hg hat hb2 h3 HSC HSZ
 subst hv1
 go_wp2_with fail
 go_ret2
 exact ⟨⟨_,rfl⟩,⟨_,H3.out⟩,HB.out,HF.out⟩
theorem fw_write (lo b:Nat) (p v y:Value) (f:Fl) (w:World) (hp:p = .pointer none∨p = .pointer (some ⟨b,0,none⟩)) (h:FlAt lo b p v y f w) (hlen:f.told.length+f.bl.length≤1000000) :
  Calls Tryz.prog 137 #[.pointer (some ⟨b,0,none⟩),y] w fun e w'=>(∃ x,e = .returned (.tuple #[x,.nilIface]))∧(∃ v',FlAt lo b (.pointer (some ⟨b,0,none⟩)) v' y ⟨f.told++f.bl,f.ends,f.bl⟩ w')∧Below lo w w'∧Fk b w w':=by
 have C:=Lib.hid (fw_copy lo b p v y f w hp h)
 obtain ⟨A,c,hy⟩:=own_slice h.bl
 have hl:((bz f.told).length+(bz f.bl).length)*1≤140737488355328:=by rw [bz_length,bz_length];omega
 have HY:=Lib.hid hy
 clear h hlen hp
 subst hy
 obtain ⟨n,hn⟩:∃ n,(bz f.bl).length=n:=⟨_,rfl⟩
 have HN:=Lib.hid hn
 rw [hn] at C hl ⊢
 clear hn HY
 go_enter Tryz.func137,Tryz.ntmps137
 go_wp2_with fail
 refine C.out.mono ?_
 rintro e w1 ⟨rfl,h1,hb1,hk1⟩
 have c0:=h1.c0
 have c1:=h1.c1
 have H1:=Lib.hid h1
 have HB1:=Lib.hid hb1
 have HK1:=Lib.hid hk1
 have HR:Hid (ReadsInt w1 .u8 A n (bz f.bl)):=Lib.hid (by
  obtain ⟨A2,c2,e2,hr⟩:=own_reads h1.bl
  rw [HN.out] at e2 hr
  injection e2 with e3 _ _
  rw [e3];exact hr)
 clear h1 hb1 hk1 C
 go_wp2_with (at_builtin;refine print_append_row lo rfl _ _ 22 5 .u8 1 rfl Tryz.underlying22 info_b zu15 v (bz f.told) (bz f.bl) A n c rfl rfl H1.out.told HR.out HB1.out H1.out.base hl ?_)
 intro v1 w2 ho hB hg hat
 have ho':w2.ownsRow lo 5 1 v1 (bz (f.told++f.bl)).length (nums .u8 (bz (f.told++f.bl))):=by rw [bz_append,List.length_append];exact ho
 obtain ⟨hb2,h3⟩:=H1.out.grow1 ho' hg hat
 have d0:w2.cell? ⟨b,0,none⟩=some (.pointer (some ⟨b,0,none⟩)):=(blk_cell hb2 0).trans rfl
 have d1:w2.cell? ⟨b,1,none⟩=some v:=(blk_cell hb2 1).trans rfl
 have f1:=blk_frozen hb2 1
 have HF:=Lib.hid (fk_set (fk_grow HK1.out hg H1.out.told) 1 v1)
 have H3:=Lib.hid h3
 have HB:=Lib.hid (hB.setCell (p:=⟨b,1,none⟩) H1.out.le v1)
 obtain ⟨A1,cc,hv1⟩:=own_slice ho'
 clear ho ho' hB hg hat hb2 h3
 subst hv1
 go_wp2_with fail
 go_ret2
 exact ⟨⟨_,rfl⟩,⟨_,H3.out⟩,HB.out,HF.out⟩
theorem us_none (W:World) (q:Option Addr):(Builtin.unsafeString_ #[102,3] 9 #[.pointer q,.int .i64 0]).run Tryz.prog W = .ok (.string .empty) W:=Lib.run_unsafeString_none W _ _ _ q
theorem fw_string (lo b:Nat) (f:Fl) (w:World) (h:IsFl lo b f w) :
  Calls Tryz.prog 44 #[.pointer (some ⟨b,0,none⟩)] w fun e w'=>e = .returned (.string (B f.told))∧Below lo w w':=by
 obtain ⟨p,v,y,hp,h⟩:=h
 have hbase:=h.base
 have hlt:=h.lt
 have hc:=h.c1
 obtain ⟨t,ht⟩:∃ t,f.told=t:=⟨_,rfl⟩
 have hown:=h.told
 rw [bz_length,bz_cells,ht] at hown
 rw [ht]
 clear h hp ht
 by_cases h0:t=[]
 ·subst h0
  have hUS:=us_none
  rcases hown.2 with ⟨rfl,_⟩|⟨g,cap,cur,rfl,hbg,hg,_,_,_,_⟩
  ·have c1:w.drew.cell? ⟨b,1,none⟩=some (.slice none 0 0):=hc
   have hSD:(Builtin.unsafeSliceData_ #[22] 102 #[.slice none 0 0]).run Tryz.prog w.drew = .ok (.pointer none) w.drew:=rfl
   go_enter Tryz.func44,Tryz.ntmps44
   go_wp2
   go_region
   all_goals (go_wp2;go_ret;exact ⟨rfl,Below.drew (Below.refl lo w)⟩)
  ·by_cases hc0:cap=0
   ·subst hc0
    have c1:w.drew.cell? ⟨b,1,none⟩=some (.slice (some ⟨g,0,none⟩) 0 0):=hc
    have hSD:(Builtin.unsafeSliceData_ #[22] 102 #[.slice (some ⟨g,0,none⟩) 0 0]).run Tryz.prog w.drew = .ok (.pointer (some ⟨w.drew.heap.size,0,none⟩)) (w.drew.alloc (.view ⟨g,0,none⟩ 5)) :=
     Lib.run_unsafeSliceData_zero w.drew _ _ 5 Tryz.underlying102 ⟨g,0,none⟩ 0 (5,cur.size) (by have hg':w.drew.heap[g]? = some (.cells cur 5 (0,0)):=hg;simp [World.shape?,hg'])
    have c2:(w.drew.alloc (.view ⟨g,0,none⟩ 5)).cell? ⟨b,1,none⟩=some (.slice (some ⟨g,0,none⟩) 0 0):=by
     rw [show (w.drew.alloc (.view ⟨g,0,none⟩ 5)).cell? ⟨b,1,none⟩=w.drew.cell? ⟨b,1,none⟩ from World.cell?_of_block (Lib.alloc_old w.drew _ b hlt)];exact c1
    have c3:(w.alloc (.view ⟨g,0,none⟩ 5)).drew.cell? ⟨b,1,none⟩=some (.slice (some ⟨g,0,none⟩) 0 0):=c2
    have c0:w.cell? ⟨b,1,none⟩=some (.slice (some ⟨g,0,none⟩) 0 0):=c1
    go_enter Tryz.func44,Tryz.ntmps44
    go_wp2
    go_region
    all_goals (go_wp2;go_ret;exact ⟨rfl,(Below.drew (Below.refl lo w)).alloc hbase _⟩)
   ·have c1:w.drew.cell? ⟨b,1,none⟩=some (.slice (some ⟨g,0,none⟩) 0 cap):=hc
    have hSD:(Builtin.unsafeSliceData_ #[22] 102 #[.slice (some ⟨g,0,none⟩) 0 cap]).run Tryz.prog w.drew = .ok (.pointer (some ⟨g,0,none⟩)) w.drew :=
     Lib.run_unsafeSliceData_row _ _ _ _ _ _ hc0
    clear hc0
    go_enter Tryz.func44,Tryz.ntmps44
    go_wp2
    go_region
    all_goals (go_wp2;go_ret;exact ⟨rfl,Below.drew (Below.refl lo w)⟩)
 ·have hl0:t.length≠0:=by simpa using h0
  obtain ⟨g,cap,cur,rfl,hbg,hg,hnc,hcm,hcs,htake⟩:∃ g cap cur,v = .slice (some ⟨g,0,none⟩) t.length cap∧lo≤g∧w.heap[g]? = some (.cells cur 5 (0,0))∧t.length≤cap∧cap≤maxLen∧cur.size=cap*1∧cur.toList.take (t.length*1)=Lib.byteCells t:=by
   rcases hown.2 with ⟨_,hz⟩|⟨g,cap,cur,hv,r⟩
   ·exact absurd hz hl0
   ·exact ⟨g,cap,cur,hv,r⟩
  have c1:w.drew.cell? ⟨b,1,none⟩=some (.slice (some ⟨g,0,none⟩) t.length cap):=hc
  have hSD:(Builtin.unsafeSliceData_ #[22] 102 #[.slice (some ⟨g,0,none⟩) t.length cap]).run Tryz.prog w.drew = .ok (.pointer (some ⟨g,0,none⟩)) w.drew :=
   Lib.run_unsafeSliceData_row _ _ _ _ _ _ zu4
  have hUS:(Builtin.unsafeString_ #[102,3] 9 #[.pointer (some ⟨g,0,none⟩),.int .i64 t.length]).run Tryz.prog w.drew = .ok (.string (B t)) (w.drew.freeze ⟨g,0,none⟩ t.length):=by
   refine Lib.run_unsafeString_row w.drew 102 3 9 5 Tryz.underlying102 zu13 g cur.size (by have hg':w.drew.heap[g]? = some (.cells cur 5 (0,0)):=hg;simp [World.shape?,hg']) t h0 zu4 (by unfold maxLen at hcm;omega) ?_
   intro j x hx
   exact hown.cells (g:=g) rfl j (.int .u8 x.toNat) (by simp [Lib.byteCells,hx])
  clear hown hg hnc hcm hcs htake hl0 h0
  go_enter Tryz.func44,Tryz.ntmps44
  go_wp2
  go_region
  all_goals (go_wp2;go_ret;exact ⟨rfl,Lib.below_freeze (Below.drew (Below.refl lo w)) (p:=⟨g,0,none⟩) hbg _⟩)
end Hand
end

section
namespace Hand
open Go Go.RowKit
def strings_IndexByte.f (a0:ByteArray) (a1:Int):Option Int:=some (Lib.indexByte a0.data.toList a1.toNat.toUInt8)
theorem strings_IndexByte.calls (a0:ByteArray) (a1:Int) (r:Int) (w:World) (h:strings_IndexByte.f a0 a1=some r) :
  Calls Tryz.prog 87 #[.string a0,.int .u8 a1] w fun e w'=>e = .returned (.int .i64 r)∧Below w.heap.size w w':=by
 obtain rfl:=Option.some.inj h
 exact (Tryz.strings_IndexByte a0 a1 w).mono fun e w' h=>⟨h.1,by rw [h.2];exact Below.refl _ _⟩
end Hand
end

section
namespace Sf
open Go.RowKit K0 Hand Sa YtclkdmmgibgamaaGreatDoorW.PrintWords YtclkdmmgibgamaaGreatDoorW.PrintLast YtclkdmmgibgamaaGreatDoorW.PrintMore
attribute [local go_sem] max2_int min2_int max_two min_two max_three min_three max_four min_four  
set_option linter.unusedVariables false
set_option linter.unusedSimpArgs false
def flow_blank.f (a0:Int):Option (Bool):=(strings_IndexByte.f (⟨#[9,10,12,13,32]⟩:ByteArray) a0).bind fun t101=>(some (decide (t101≥0)))
theorem flow_blank.calls (a0:Int) (r:Bool) (w:World) (h:flow_blank.f a0=some r) :
  Calls Tryz.prog 101 #[.int .u8 a0] w fun e w'=>e = .returned (.bool r)∧Below w.heap.size w w':=by
 have HB:=Aside0.mk (Below.refl w.heap.size w)
 have H:((strings_IndexByte.f (⟨#[9,10,12,13,32]⟩:ByteArray) a0).bind fun t101=>(some (decide (t101≥0))))=some r:=h
 clear h
 replace H:=Option.bind_eq_some_iff.mp H
 obtain ⟨t101,A20,H⟩:=H
 try dsimp only at H
 have A2:=Aside0.mk A20
 clear A20
 obtain rfl:=Option.some.inj H
 go_enter Tryz.func101,Tryz.ntmps101
 go_wp2_with (first | ((with_reducible refine gate_callee (f:=87) rfl ?_);refine goesL_ (some 4) rfl rfl Tryz.func87 zu13 rfl #[.string (⟨#[9,10,12,13,32]⟩:ByteArray),.int .u8 a0] rfl zu2 ?_;(with_reducible refine (strings_IndexByte.calls (⟨#[9,10,12,13,32]⟩:ByteArray) a0 t101 _ A2.out).mono ?_);rintro e w3 ⟨rfl,hb⟩;refine ⟨_,rfl,?_⟩;have n0_:=Aside0.mk (below_step zu1 hb);clear HB;have HB:=n0_;clear n0_;(try clear hb);(try clear hb2);(try clear hk);(try clear hi)))
 go_ret
 exact zu5
end Sf
end

section
namespace Hand
open Go Go.RowKit Pl Pb Sf YtclkdmmgibgamaaGreatDoorW.PrintWords YtclkdmmgibgamaaGreatDoorW.PrintLast YtclkdmmgibgamaaGreatDoorW.PrintMore
section
variable {lo b : Nat} {p v y : Value} {f : Fl} {w : World}
theorem FlAt.two (h:FlAt lo b p v y f w) {X:Int} {n:Nat} (hX:X=n):FlAt lo b p v (.slice none 0 0) ⟨f.told,n,[]⟩ ((w.setCell ⟨b,2,none⟩ (.int .i64 X)).setCell ⟨b,3,none⟩ (.slice none 0 0)):=by
 subst hX;exact (h.sete n).sety0
theorem fk_two {a:World} (h:Fk b a w) (X Y:Value):Fk b a ((w.setCell ⟨b,2,none⟩ X).setCell ⟨b,3,none⟩ Y):=fk_set (fk_set h 2 X) 3 Y
theorem be_two {a:World} (h:Below lo a w) (hb:lo≤b) (X Y:Value):Below lo a ((w.setCell ⟨b,2,none⟩ X).setCell ⟨b,3,none⟩ Y):=(h.setCell (p:=⟨b,2,none⟩) hb X).setCell (p:=⟨b,3,none⟩) hb Y
end
def FlTo (lo b:Nat) (f':Fl) (w:World) (e:Ending) (w':World):Prop:=e = .returned (.tuple #[])∧IsFl lo b f' w'∧Below lo w w'∧Fk b w w'
theorem flLine_c (lo b:Nat) (f:Fl) (w:World) (h:IsFl lo b f w) (hz:flZ f≤1000000) :
  Calls Tryz.prog 131 #[.pointer (some ⟨b,0,none⟩)] w (FlTo lo b (flLine f) w):=by
 obtain ⟨p,v,y,hp,h⟩:=h
 have c2:=h.c2
 have c3:=h.c3
 have f2:=h.fz 2
 have f3:=h.fz 3
 have hb:f.ends≤1000000:=by unfold flZ at hz;omega
 have H:=Lib.hid h
 have HP:=Lib.hid hp
 clear h hp hz
 go_enter Tryz.func131,Tryz.ntmps131
 go_wp2_with fail
 go_end0
 exact ⟨rfl,⟨p,v,_,HP.out,H.out.two (by first|rfl | (go_num;done))⟩,be_two (Below.refl _ _) H.out.le _ _,fk_two (Lib.OthersKept.refl _ _ w) _ _⟩
theorem break_c (lo b n:Nat) (hn:n=1∨n=2) (f:Fl) (w:World) (h:IsFl lo b f w) (hz:flZ f≤1000000) :
  Calls Tryz.prog 133 #[.pointer (some ⟨b,0,none⟩),.int .i64 (n:Int)] w (FlTo lo b (flBreak f n) w):=by
 obtain ⟨p,v,y,hp,h⟩:=h
 have c2:=h.c2
 have c3:=h.c3
 have f2:=h.fz 2
 have f3:=h.fz 3
 have hm:∀ (ts:Array TypeId) (t:TypeId) (W:World),(Builtin.min_ ts t #[.int .i64 (n:Int),.int .i64 100]).run Tryz.prog W = .ok (.int .i64 (n:Int)) W:=fun ts t W=>by
  rcases hn with rfl|rfl<;>rfl
 have hx:∀ (ts:Array TypeId) (t:TypeId) (W:World),(Builtin.max_ ts t #[.int .i64 (f.ends:Int),.int .i64 (n:Int)]).run Tryz.prog W = .ok (.int .i64 ((max f.ends n:Nat):Int)) W:=fun ts t W=>by
  rw [max_two,max2_int,show (if (f.ends:Int)<(n:Int) then (n:Int) else (f.ends:Int))=((max f.ends n:Nat):Int) by split<;>omega]
  rfl
 have hmx:max f.ends (min n 100)=max f.ends n:=by rcases hn with rfl|rfl<;>rfl
 have hr:flBreak f n=⟨f.told,max f.ends n,[]⟩:=by unfold flBreak;rw [hmx]
 rw [hr]
 have H:=Lib.hid h
 have HP:=Lib.hid hp
 clear h hp hz hr hmx hn
 go_enter Tryz.func133,Tryz.ntmps133
 go_wp2_with fail
 go_end0
 exact ⟨rfl,⟨p,v,_,HP.out,H.out.two rfl⟩,be_two (Below.refl _ _) H.out.le _ _,fk_two (Lib.OthersKept.refl _ _ w) _ _⟩
theorem bl_of {w:World} {lo:Nat} {l:List UInt8} {y:Value} (h:w.ownsRow lo 5 1 y (bz l).length (nums .u8 (bz l))):∃ A c,y = .slice A l.length c:=by
 obtain ⟨A,c,rfl⟩:=own_slice h
 exact ⟨A,c,by rw [bz_length]⟩
theorem lose_c (lo b:Nat) (f:Fl) (c:UInt8) (w:World) (h:IsFl lo b f w) :
  Calls Tryz.prog 99 #[.pointer (some ⟨b,0,none⟩),.int .u8 (c.toNat:Int)] w (FlTo lo b (flLose f) w):=by
 obtain ⟨p,v,y,hp,h⟩:=h
 obtain ⟨A,c',hy⟩:=bl_of h.bl
 have c2:=h.c2
 have c3:=h.c3
 have f3:=h.fz 3
 rw [hy] at c3
 have H:=Lib.hid h
 have HP:=Lib.hid hp
 clear h hp
 by_cases h0:f.ends=0
 ·have q0:((f.ends:Int) == 0)=true:=by rw [h0];rfl
  by_cases h1:f.bl=[]
  ·have q1:((f.bl.length:Int) == 0)=true:=by rw [h1];rfl
   have hr:flLose f=⟨f.told,f.ends,[32]⟩:=by unfold flLose;rw [if_pos ⟨h0,h1⟩]
   rw [hr]
   have hB:lo≤w.heap.size:=H.out.base
   have hlit:=own_lit w lo 5 .u8 (bz [32]) hB zu15
   have hA:=(H.out.call (Below.alloc (Below.refl _ _) (Nat.le_refl _) (.cells (nums .u8 (bz [32])).toArray 5)))
   have hne:NeRow v (.slice (some ⟨w.heap.size,0,none⟩) 1 1):=ne_symm (ne_made H.out.told)
   have HN:=Lib.hid (FlAt.put (f':=⟨f.told,f.ends,[32]⟩) (p':=p) (v':=v) (k:=3) (x:=.slice (some ⟨w.heap.size,0,none⟩) 1 1) hA.le hA.blk rfl hA.told hlit hne)
   have HB:=Lib.hid ((Below.alloc (Below.refl lo w) hB (.cells (nums .u8 (bz [32])).toArray 5)).setCell (p:=⟨b,3,none⟩) H.out.le (.slice (some ⟨w.heap.size,0,none⟩) 1 1))
   have HF:=Lib.hid (fk_set (b:=b) ((Lib.OthersKept.refl 5 (some b) w).alloc (.cells (nums .u8 (bz [32])).toArray 5)) 3 (.slice (some ⟨w.heap.size,0,none⟩) 1 1))
   have hb3:b<w.heap.size:=H.out.lt
   have d3:(w.alloc (.cells #[.int .u8 32] 5)).cell? ⟨b,3,none⟩=some (.slice A f.bl.length c'):=(World.cell?_of_block (Lib.alloc_old w _ b hb3)).trans c3
   have g3:(w.alloc (.cells #[.int .u8 32] 5)).frozen? ⟨b,3,none⟩=false:=(World.frozen?_of_block (Lib.alloc_old w _ b hb3)).trans f3
   rw [show (nums .u8 (bz [32])).toArray = #[.int .u8 32] from rfl,World.setCell_alloc_past _ _ _ _ hb3] at HN HB HF
   clear hlit hA hne hr h0 h1 hy
   go_enter Tryz.func99,Tryz.ntmps99
   go_wp2_with fail
   go_end0
   exact ⟨rfl,⟨p,v,_,HP.out,HN.out⟩,HB.out,HF.out⟩
  ·have q1:((f.bl.length:Int) == 0)=false:=by rw [beq_eq_false_iff_ne];have:f.bl.length≠0:=fun e=>h1 (List.eq_nil_of_length_eq_zero e);omega
   have hr:flLose f=f:=by unfold flLose;rw [if_neg (fun e=>h1 e.2)]
   rw [hr]
   clear hr h0 h1 hy
   go_enter Tryz.func99,Tryz.ntmps99
   go_wp2_with fail
   go_end0
   exact zu62
 ·have q0:((f.ends:Int) == 0)=false:=by rw [beq_eq_false_iff_ne];omega
  have hr:flLose f=f:=by unfold flLose;rw [if_neg (fun e=>h0 e.1)]
  rw [hr]
  clear hr h0 hy
  go_enter Tryz.func99,Tryz.ntmps99
  go_wp2_with fail
  go_end0
  exact zu62
theorem keep_c (lo b:Nat) (f:Fl) (c:UInt8) (w:World) (h:IsFl lo b f w) (hz:flZ f≤1000000) :
  Calls Tryz.prog 100 #[.pointer (some ⟨b,0,none⟩),.int .u8 (c.toNat:Int)] w (FlTo lo b (flKeep f c) w):=by
 have LN:=Lib.hid (flLine_c lo b f w h hz)
 by_cases h10:c=10
 ·subst h10
  rw [show flKeep f 10=flLine f from rfl,show ((10:UInt8).toNat:Int)=10 from rfl]
  go_enter Tryz.func100,Tryz.ntmps100
  go_wp2_with fail
  refine LN.out.mono ?_
  rintro e w1 ⟨rfl,h1,hb1,hk1⟩
  go_wp2_with fail
  go_end0
  exact ⟨rfl,h1,hb1,hk1⟩
 by_cases h13:c=13
 ·subst h13
  rw [show flKeep f 13=flLine f from rfl,show ((13:UInt8).toNat:Int)=13 from rfl]
  go_enter Tryz.func100,Tryz.ntmps100
  go_wp2_with fail
  refine LN.out.mono ?_
  rintro e w1 ⟨rfl,h1,hb1,hk1⟩
  go_wp2_with fail
  go_end0
  exact ⟨rfl,h1,hb1,hk1⟩
 have hr:flKeep f c=⟨f.told,f.ends,f.bl++[c]⟩:=by unfold flKeep;rw [if_neg (by simp [h10,h13])]
 rw [hr]
 have q1:((c.toNat:Int) == 10)=false:=by rw [beq_eq_false_iff_ne];exact fun e=>h10 (UInt8.toNat_inj.1 (show c.toNat=10 by omega))
 have q2:((c.toNat:Int) == 13)=false:=by rw [beq_eq_false_iff_ne];exact fun e=>h13 (UInt8.toNat_inj.1 (show c.toNat=13 by omega))
 obtain ⟨p,v,y,hp,h⟩:=h
 have c3:=h.c3
 have hl:((bz f.bl).length+1)*1≤140737488355328:=by rw [bz_length];unfold flZ at hz;omega
 have H:=Lib.hid h
 have HP:=Lib.hid hp
 clear h hp hr h10 h13 hz LN
 obtain ⟨n,hn⟩:∃ n,(c.toNat:Int)=n:=⟨_,rfl⟩
 have HN:=Lib.hid hn
 rw [hn] at q1 q2 ⊢
 clear hn
 go_enter Tryz.func100,Tryz.ntmps100
 go_wp2_with (at_builtin;refine print_append_num lo rfl _ _ 22 5 .u8 1 rfl Tryz.underlying22 info_b zu15 y (bz f.bl) n rfl rfl H.out.bl (Below.refl lo w) H.out.base hl ?_)
 intro y1 w2 ho hB hg hat
 have ho':w2.ownsRow lo 5 1 y1 (bz (f.bl++[c])).length (nums .u8 (bz (f.bl++[c]))):=by rw [bz_append,show bz [c]=[n] from congrArg (· :: []) HN.out,List.length_append];exact ho
 obtain ⟨hb2,h3⟩:=H.out.grow3 ho' hg hat
 have f3:=blk_frozen hb2 3
 have d3:w2.cell? ⟨b,3,none⟩=some y:=(blk_cell hb2 3).trans rfl
 have HF:=Lib.hid (fk_set (fk_grow (Lib.OthersKept.refl 5 (some b) w) hg H.out.bl) 3 y1)
 have H3:=Lib.hid h3
 have HB:=Lib.hid (hB.setCell (p:=⟨b,3,none⟩) H.out.le y1)
 obtain ⟨A1,cc,hv1⟩:=own_slice ho'
 clear ho ho' hB hg hat hb2 h3
 subst hv1
 go_wp2_with fail
 go_end0
 exact ⟨rfl,⟨p,v,_,HP.out,H3.out⟩,HB.out,HF.out⟩
theorem repeatL_one10 (n:Nat):Lib.repeatL [10] n=List.replicate n 10:=by
 induction n with
 | zero=>rfl
 | succ n ih=>simp [Lib.repeatL,List.replicate_succ] at *;exact ih
theorem word_c (lo b:Nat) (f:Fl) (c:UInt8) (w:World) (h:IsFl lo b f w) (hz:flZ f≤100000) :
  Calls Tryz.prog 102 #[.pointer (some ⟨b,0,none⟩),.int .u8 (c.toNat:Int)] w (FlTo lo b (flWord f c) w):=by
 have LEN:=Lib.hid (fw_len lo b f w h)
 have hz':f.told.length+f.ends+f.bl.length≤100000:=hz
 obtain ⟨n,hn⟩:∃ n,(c.toNat:Int)=n:=⟨_,rfl⟩
 by_cases h0:f.told=[]
 ·have q:decide (0<f.told.length)=false:=by rw [h0];rfl
  have hr:flWord f c=⟨f.told++[c],0,[]⟩:=by unfold flWord flAdd;rw [if_pos h0];simp
  rw [hr]
  have WB:=fw_byte lo b f c w h zu4
  rw [hn] at WB ⊢
  replace WB:=Lib.hid WB
  clear hr hn hz hz' h h0
  go_enter Tryz.func102,Tryz.ntmps102
  go_wp2_with fail
  refine LEN.out.mono ?_
  rintro e w1 ⟨rfl,rfl⟩
  go_wp2_with fail
  refine WB.out.mono ?_
  rintro e w1 ⟨rfl,⟨p,v,y,hp,h1⟩,hb1,hk1⟩
  have c2:=h1.c2
  have c3:=h1.c3
  have f2:=h1.fz 2
  have f3:=h1.fz 3
  have H1:=Lib.hid h1
  have HP:=Lib.hid hp
  have HB:=Lib.hid hb1
  have HK:=Lib.hid hk1
  clear h1 hp hb1 hk1 WB LEN
  go_wp2_with fail
  go_end0
  exact ⟨rfl,⟨p,v,_,HP.out,H1.out.two (n:=0) rfl⟩,be_two HB.out H1.out.le _ _,fk_two HK.out _ _⟩
 ·have q:decide (0<f.told.length)=true:=by
   have:0<f.told.length:=List.length_pos_iff.2 h0
   exact decide_eq_true zu4
  have hr:flWord f c=⟨(f.told++List.replicate f.ends 10)++f.bl++[c],0,[]⟩:=by unfold flWord flAdd;rw [if_neg h0];simp
  rw [hr]
  obtain ⟨p,v,y,hp,h⟩:=h
  have c2:=h.c2
  have RP:∀ W,Below w.heap.size w W→Calls Tryz.prog 136 #[.string ⟨#[10]⟩,.int .i64 (f.ends:Int)] W fun e w'=>e = .returned (.string (B (List.replicate f.ends 10)))∧Below w.heap.size w w':=fun W hb=>by
   have:=Tryz.strings_Repeat ⟨#[10]⟩ f.ends W zu4 (by rw [show (⟨#[10]⟩:ByteArray).size=1 from rfl];omega)
   rw [show (⟨#[10]⟩:ByteArray).data.toList=[10] from rfl,repeatL_one10] at this
   exact this.mono fun e w' h=>⟨h.1,hb.trans (h.2.mono hb.size)⟩
  replace RP:=Lib.hid RP
  have WS:=Lib.hid (fun W (hb:Below w.heap.size w W)=>fw_str lo b p v y f (List.replicate f.ends 10) W hp (h.call hb) zu25)
  have WR:=Lib.hid (fun v' W (hW:FlAt lo b (.pointer (some ⟨b,0,none⟩)) v' y ⟨f.told++List.replicate f.ends 10,f.ends,f.bl⟩ W)=>fw_write lo b _ v' y ⟨f.told++List.replicate f.ends 10,f.ends,f.bl⟩ W (.inr rfl) hW zu25)
  have WB:=Lib.hid (fun W (hW:IsFl lo b ⟨(f.told++List.replicate f.ends 10)++f.bl,f.ends,f.bl⟩ W)=>fw_byte lo b ⟨(f.told++List.replicate f.ends 10)++f.bl,f.ends,f.bl⟩ c W hW zu25)
  rw [hn] at WB ⊢
  have hle:=h.le
  have hbase:=h.base
  clear hr hn hz hz' h0 h hp
  have C2:=Lib.hid c2
  go_enter Tryz.func102,Tryz.ntmps102
  go_wp2_with fail
  refine LEN.out.mono ?_
  rintro e w1 ⟨rfl,rfl⟩
  have hS0:w1.drew.cell? ⟨b,2,none⟩=some (.int .i64 (f.ends:Int)):=C2.out
  go_wp2_with fail
  go_region_held3 (fun W=>W.cell? ⟨b,2,none⟩=some (.int .i64 (f.ends:Int))) (first|with_reducible assumption|exact hS0|exact h3.c2|exact (hb2.cell (World.block_lt_of_cell? _ _ C2.out)).trans C2.out) (first | (go_at_call 136;refine (RP.out _ zu55).mono ?_;rintro e w2 ⟨rfl,hb2⟩) | (go_at_call 43;refine (WS.out _ zu42).mono ?_;rintro e w3 ⟨⟨x3,rfl⟩,⟨v3,h3⟩,hb3,hk3⟩))
  have HB3:=Lib.hid ((hb2.mono hbase).trans hb3)
  have HK3:=Lib.hid ((fk_call (b:=b) hb2).trans hk3)
  have H3:=Lib.hid h3
  have hS3:w3.drew.cell? ⟨b,3,none⟩=some y:=H3.out.c3
  clear h3 hb3 hk3 hb2 WS RP LEN hS0
  go_wp2_with fail
  go_region_held3 (fun W=>W.cell? ⟨b,3,none⟩=some y) (first|with_reducible assumption|exact hS3|exact h4.c3) ((go_at_call 137;refine (WR.out _ _ (by first|exact H3.out.drew|exact H3.out.drewN _)).mono ?_;rintro e w4 ⟨⟨x4,rfl⟩,⟨v4,h4⟩,hb4,hk4⟩))
  have HB4:=Lib.hid (HB3.out.trans ((Below.refl lo w3).drew.trans hb4))
  have HK4:=Lib.hid (HK3.out.trans ((Lib.OthersKept.refl 5 (some b) w3).drew.trans hk4))
  have B4:=Lib.hid (WB.out _ ⟨_,_,_,.inr rfl,h4⟩)
  clear h4 hb4 hk4 WR WB H3 HB3 HK3 hS3
  go_wp2_with fail
  refine B4.out.mono ?_
  rintro e w5 ⟨rfl,⟨p5,v5,y5,hp5,h5⟩,hb5,hk5⟩
  have e2:=h5.c2
  have e3:=h5.c3
  have f2:=h5.fz 2
  have f3:=h5.fz 3
  have HB5:=Lib.hid (HB4.out.trans hb5)
  have HK5:=Lib.hid (HK4.out.trans hk5)
  have H5:=Lib.hid h5
  have HP5:=Lib.hid hp5
  clear h5 hp5 hb5 hk5 B4 HB4 HK4
  go_wp2_with fail
  go_end0
  exact ⟨rfl,⟨p5,v5,_,HP5.out,H5.out.two (n:=0) rfl⟩,be_two HB5.out hle _ _,fk_two HK5.out _ _⟩
end Hand
end

section
namespace Hand
open Go Go.RowKit Pl Pb Sf YtclkdmmgibgamaaGreatDoorW.PrintWords YtclkdmmgibgamaaGreatDoorW.PrintLast YtclkdmmgibgamaaGreatDoorW.PrintMore
theorem blank_c (c:UInt8) (W:World):Calls Tryz.prog 101 #[.int .u8 (c.toNat:Int)] W fun e w'=>e = .returned (.bool (isBl c))∧Below W.heap.size W w':=by
 have:∀ n:Fin 256,flow_blank.f ((n.val:Nat):Int)=some (isBl (UInt8.ofNat n.val)):=by decide +kernel
 have h:=this ⟨c.toNat,c.toNat_lt⟩
 simp only [UInt8.ofNat_toNat] at h
 exact flow_blank.calls _ _ W h
theorem put_step (keep:Bool) (f:Fl) (s:List UInt8) (k:Nat) (h:k<s.length):flPut keep f (s.take (k+1))=flByte keep (flPut keep f (s.take k)) s[k]:=by
 rw [List.take_succ_eq_append_getElem h]
 unfold flPut
 rw [List.foldl_append]
 rfl
theorem put_z (keep:Bool) (f:Fl) (s:List UInt8) (k:Nat):flZ (flPut keep f (s.take k))≤flZ f+s.length:=by
 have:=flPut_z keep (s.take k) f
 rw [List.length_take] at this
 omega
theorem get_B {s:List UInt8} {a:ByteArray} (h:B s=a) (k:Nat) (hk:k<a.size) (hk':k<s.length):a[k]'hk=s[k]'hk':=by
 subst h
 rfl
theorem put_c (lo b:Nat) (keep:Bool) (s:List UInt8) (f0:Fl) (w:World) (h:IsFl lo b f0 w) (hz:flZ f0+s.length≤100000) :
  Calls Tryz.prog 62 #[.pointer (some ⟨b,0,none⟩),.string (B s),.bool keep] w (FlTo lo b (flPut keep f0 s) w):=by
 have KP:=Lib.hid (fun f c W hI hz=>keep_c lo b f c W hI hz)
 have LS:=Lib.hid (fun f c W hI=>lose_c lo b f c W hI)
 have WD:=Lib.hid (fun f c W hI hz=>word_c lo b f c W hI hz)
 have BL:=Lib.hid (fun c W=>blank_c c W)
 have hzk:=fun k=>put_z keep f0 s k
 have hst:=fun k hk=>put_step keep f0 s k hk
 have HZ:=Lib.hid hz
 have HI0:=Lib.hid h
 obtain ⟨a,ha⟩:∃ a,B s=a:=⟨_,rfl⟩
 have hsz:a.size=s.length:=by rw [← ha,size_B]
 have hfin:flPut keep f0 (s.take a.size)=flPut keep f0 s:=by rw [hsz,List.take_length]
 rw [← hfin]
 have HGET:=Lib.hid (fun k hk hk'=>get_B ha k hk hk')
 rw [ha]
 have HST:=Lib.hid hst
 have HZK:=Lib.hid hzk
 have HSZ:=Lib.hid hsz
 have hbig:a.size≤100000:=by omega
 clear h hz hzk hst ha hfin hsz
 cases keep with
 | true =>
   go_enter Tryz.func62,Tryz.ntmps62
   go_wp2_with fail
   go_loopw [12] (fun t wr => ∃ k:Nat,k≤a.size∧t = .int .i64 k∧Hid (IsFl lo b (flPut true f0 (s.take k)) wr)∧Hid (Below lo w wr)∧Hid (Fk b w wr)) (fun t _=>a.size - (intOf t).toNat)
   case atStart=>exact ⟨0,Nat.zero_le _,rfl,by rw [List.take_zero];exact HI0,Lib.hid (Below.refl _ _),Lib.hid (Lib.OthersKept.refl _ _ _)⟩
   case round =>
    obtain ⟨k,hk,rfl,HI,HB,HK⟩:=hrel
    by_cases hlt:k<a.size
    ·have q1:decide ((k:Int)<(a.size:Int))=true:=decide_eq_true zu4
     have hlt':k<s.length:=by have:=HSZ.out;omega
     have hgk:=HGET.out k hlt hlt'
     have hsk:=HST.out k hlt'
     obtain ⟨c,hc⟩:∃ c,s[k]=c:=⟨_,rfl⟩
     rw [hc] at hgk hsk
     have hzz:=HZK.out k
     have hZ:=HZ.out
     obtain ⟨F,hF⟩:∃ F,flPut true f0 (s.take k)=F:=⟨_,rfl⟩
     rw [hF] at hsk HI hzz
     have HSK:=Lib.hid hsk
     clear hsk hc hF hlt'
     by_cases c0:c=0
     ·subst c0
      have hr:flByte true F 0=F:=by unfold flByte;rw [if_pos rfl]
      have q2:((a[k].toNat:Int) == 0)=true:=by rw [hgk];rfl
      clear hgk
      go_wp2_with fail
      go_roundw
      case rel=>exact ⟨k+1,hlt,by go_num,by rw [HSK.out,hr];exact HI,HB,HK⟩
      case measure=>simp [intOf];omega
     ·have q2:((c.toNat:Int) == 0)=false:=by rw [beq_eq_false_iff_ne];exact fun e=>c0 (UInt8.toNat_inj.1 (show c.toNat=0 by omega))
      rw [← hgk] at q2
      cases hb:isBl c with
      | true =>
        have hr:flByte true F c=flKeep F c:=by unfold flByte;rw [if_neg c0,if_pos hb,if_pos rfl]
        have B1:=BL.out c
        rw [hb,← hgk] at B1
        have K1:=fun W hI=>KP.out F c W hI zu4
        rw [← hr,← HSK.out,← hgk] at K1
        replace B1:=Lib.hid B1
        replace K1:=Lib.hid K1
        clear hr hgk hzz
        go_wp2_with fail
        refine (B1.out _).mono ?_
        rintro e w1 ⟨rfl,hb1⟩
        have HI1:=Lib.hid (HI.out.call hb1)
        have HB1:=Lib.hid (HB.out.trans (hb1.mono HI.out.base))
        have HK1:=Lib.hid (HK.out.trans (fk_call (b:=b) hb1))
        clear hb1 B1 HI HB HK
        go_wp2_with fail
        refine (K1.out _ HI1.out).mono ?_
        rintro e w2 ⟨rfl,h2,hb2,hk2⟩
        have HB2:=Lib.hid (HB1.out.trans hb2)
        have HK2:=Lib.hid (HK1.out.trans hk2)
        have HI2:=Lib.hid h2
        clear h2 hb2 hk2 K1 HI1 HB1 HK1
        go_wp2_with fail
        go_roundw
        case rel=>exact ⟨k+1,hlt,by go_num,HI2,HB2,HK2⟩
        case measure=>simp [intOf];omega
      | false =>
        have hr:flByte true F c=flWord F c:=by unfold flByte;rw [if_neg c0,if_neg (by rw [hb];decide)]
        have B1:=BL.out c
        rw [hb,← hgk] at B1
        have K1:=fun W hI=>WD.out F c W hI zu4
        rw [← hr,← HSK.out,← hgk] at K1
        replace B1:=Lib.hid B1
        replace K1:=Lib.hid K1
        clear hr hgk hzz
        go_wp2_with fail
        refine (B1.out _).mono ?_
        rintro e w1 ⟨rfl,hb1⟩
        have HI1:=Lib.hid (HI.out.call hb1)
        have HB1:=Lib.hid (HB.out.trans (hb1.mono HI.out.base))
        have HK1:=Lib.hid (HK.out.trans (fk_call (b:=b) hb1))
        clear hb1 B1 HI HB HK
        go_wp2_with fail
        refine (K1.out _ HI1.out).mono ?_
        rintro e w2 ⟨rfl,h2,hb2,hk2⟩
        have HB2:=Lib.hid (HB1.out.trans hb2)
        have HK2:=Lib.hid (HK1.out.trans hk2)
        have HI2:=Lib.hid h2
        clear h2 hb2 hk2 K1 HI1 HB1 HK1
        go_wp2_with fail
        go_roundw
        case rel=>exact ⟨k+1,hlt,by go_num,HI2,HB2,HK2⟩
        case measure=>simp [intOf];omega
    ·obtain rfl:k=a.size:=by omega
     have q9:decide ((a.size:Int)<(a.size:Int))=false:=decide_eq_false zu4
     go_wp2_with fail
     go_end0
     exact ⟨rfl,HI.out,HB.out,HK.out⟩
 | false =>
   go_enter Tryz.func62,Tryz.ntmps62
   go_wp2_with fail
   go_loopw [12] (fun t wr => ∃ k:Nat,k≤a.size∧t = .int .i64 k∧Hid (IsFl lo b (flPut false f0 (s.take k)) wr)∧Hid (Below lo w wr)∧Hid (Fk b w wr)) (fun t _=>a.size - (intOf t).toNat)
   case atStart=>exact ⟨0,Nat.zero_le _,rfl,by rw [List.take_zero];exact HI0,Lib.hid (Below.refl _ _),Lib.hid (Lib.OthersKept.refl _ _ _)⟩
   case round =>
    obtain ⟨k,hk,rfl,HI,HB,HK⟩:=hrel
    by_cases hlt:k<a.size
    ·have q1:decide ((k:Int)<(a.size:Int))=true:=decide_eq_true zu4
     have hlt':k<s.length:=by have:=HSZ.out;omega
     have hgk:=HGET.out k hlt hlt'
     have hsk:=HST.out k hlt'
     obtain ⟨c,hc⟩:∃ c,s[k]=c:=⟨_,rfl⟩
     rw [hc] at hgk hsk
     have hzz:=HZK.out k
     have hZ:=HZ.out
     obtain ⟨F,hF⟩:∃ F,flPut false f0 (s.take k)=F:=⟨_,rfl⟩
     rw [hF] at hsk HI hzz
     have HSK:=Lib.hid hsk
     clear hsk hc hF hlt'
     by_cases c0:c=0
     ·subst c0
      have hr:flByte false F 0=F:=by unfold flByte;rw [if_pos rfl]
      have q2:((a[k].toNat:Int) == 0)=true:=by rw [hgk];rfl
      clear hgk
      go_wp2_with fail
      go_roundw
      case rel=>exact ⟨k+1,hlt,by go_num,by rw [HSK.out,hr];exact HI,HB,HK⟩
      case measure=>simp [intOf];omega
     ·have q2:((c.toNat:Int) == 0)=false:=by rw [beq_eq_false_iff_ne];exact fun e=>c0 (UInt8.toNat_inj.1 (show c.toNat=0 by omega))
      rw [← hgk] at q2
      cases hb:isBl c with
      | true =>
        have hr:flByte false F c=flLose F:=by unfold flByte;rw [if_neg c0,if_pos hb,if_neg zu15]
        have B1:=BL.out c
        rw [hb,← hgk] at B1
        have K1:=fun W hI=>LS.out F c W hI
        rw [← hr,← HSK.out,← hgk] at K1
        replace B1:=Lib.hid B1
        replace K1:=Lib.hid K1
        clear hr hgk hzz
        go_wp2_with fail
        refine (B1.out _).mono ?_
        rintro e w1 ⟨rfl,hb1⟩
        have HI1:=Lib.hid (HI.out.call hb1)
        have HB1:=Lib.hid (HB.out.trans (hb1.mono HI.out.base))
        have HK1:=Lib.hid (HK.out.trans (fk_call (b:=b) hb1))
        clear hb1 B1 HI HB HK
        go_wp2_with fail
        refine (K1.out _ HI1.out).mono ?_
        rintro e w2 ⟨rfl,h2,hb2,hk2⟩
        have HB2:=Lib.hid (HB1.out.trans hb2)
        have HK2:=Lib.hid (HK1.out.trans hk2)
        have HI2:=Lib.hid h2
        clear h2 hb2 hk2 K1 HI1 HB1 HK1
        go_wp2_with fail
        go_roundw
        case rel=>exact ⟨k+1,hlt,by go_num,HI2,HB2,HK2⟩
        case measure=>simp [intOf];omega
      | false =>
        have hr:flByte false F c=flWord F c:=by unfold flByte;rw [if_neg c0,if_neg (by rw [hb];decide)]
        have B1:=BL.out c
        rw [hb,← hgk] at B1
        have K1:=fun W hI=>WD.out F c W hI zu4
        rw [← hr,← HSK.out,← hgk] at K1
        replace B1:=Lib.hid B1
        replace K1:=Lib.hid K1
        clear hr hgk hzz
        go_wp2_with fail
        refine (B1.out _).mono ?_
        rintro e w1 ⟨rfl,hb1⟩
        have HI1:=Lib.hid (HI.out.call hb1)
        have HB1:=Lib.hid (HB.out.trans (hb1.mono HI.out.base))
        have HK1:=Lib.hid (HK.out.trans (fk_call (b:=b) hb1))
        clear hb1 B1 HI HB HK
        go_wp2_with fail
        refine (K1.out _ HI1.out).mono ?_
        rintro e w2 ⟨rfl,h2,hb2,hk2⟩
        have HB2:=Lib.hid (HB1.out.trans hb2)
        have HK2:=Lib.hid (HK1.out.trans hk2)
        have HI2:=Lib.hid h2
        clear h2 hb2 hk2 K1 HI1 HB1 HK1
        go_wp2_with fail
        go_roundw
        case rel=>exact ⟨k+1,hlt,by go_num,HI2,HB2,HK2⟩
        case measure=>simp [intOf];omega
    ·obtain rfl:k=a.size:=by omega
     have q9:decide ((a.size:Int)<(a.size:Int))=false:=decide_eq_false zu4
     go_wp2_with fail
     go_end0
     exact ⟨rfl,HI.out,HB.out,HK.out⟩
theorem text_c (lo b:Nat) (f:Fl) (w:World) (h:IsFl lo b f w) :
  Calls Tryz.prog 63 #[.pointer (some ⟨b,0,none⟩)] w fun e w'=>e = .returned (.string (B f.told))∧Below lo w w':=by
 have C:=fw_string lo b f w h
 obtain ⟨a,ha⟩:∃ a,B f.told=a:=⟨_,rfl⟩
 rw [ha] at C ⊢
 replace C:=Lib.hid C
 clear h ha
 go_enter Tryz.func63,Tryz.ntmps63
 go_wp2_with fail
 refine C.out.mono ?_
 rintro e w1 ⟨rfl,hb⟩
 go_wp2_with fail
 go_ret
 exact ⟨rfl,hb⟩
theorem new_c (w:World):Calls Tryz.prog 58 #[] w fun e w'=>e = .returned (.pointer (some ⟨w.heap.size,0,none⟩))∧w'=w.alloc (.cells #[.pointer none,.slice none 0 0,.int .i64 0,.slice none 0 0] 113):=by
 go_enter Tryz.func58,Tryz.ntmps58
 go_wp2_with fail
 go_ret
 exact ⟨rfl,rfl⟩
end Hand
end

section
namespace Sk
open Go.RowKit K0 Hand Sa YtclkdmmgibgamaaGreatDoorW.PrintWords YtclkdmmgibgamaaGreatDoorW.PrintLast YtclkdmmgibgamaaGreatDoorW.PrintMore
attribute [local go_sem] max2_int min2_int max_two min_two max_three min_three max_four min_four  
set_option linter.unusedVariables false
set_option linter.unusedSimpArgs false
def slices_Index_string_string.l0:Nat→List ByteArray→ByteArray→Int→Int→Option (Int)
 | 0,_,_,_,_=>none
 | k+1,x0,x1,x7,x8=>if x8<x7 then (if 0≤x8 then (if x8<(x0.length:Int) then (if x1.toList=(rdOf ByteArray.empty x0 x8).toList then (some x8) else (slices_Index_string_string.l0 k x0 x1 x7 (wrap64 (x8+1)))) else (none)) else (none)) else (some (-1))
def slices_Index_string_string.f (k:Nat) (l0:List ByteArray) (a1:ByteArray):Option (Int):=slices_Index_string_string.l0 k l0 a1 (l0.length:Int) 0
theorem slices_Index_string_string.calls (k:Nat) (A0:Option Addr) (c0:Nat) (l0:List ByteArray) (a1:ByteArray) (r:Int) (w:World) (hr0:Kd.C Kd.string w A0 l0.length l0) (hc0:l0.length≤c0) (h:slices_Index_string_string.f k l0 a1=some r) :
  Calls Tryz.prog 194 #[.slice A0 l0.length c0,.string a1] w fun e w'=>e = .returned (.int .i64 r)∧Drawn0 w w':=by
 have HR0:=Aside0.mk hr0
 have HC0:=Aside0.mk hc0
 clear hr0 hc0
 have H:(slices_Index_string_string.l0 k l0 a1 (l0.length:Int) 0)=some r:=h
 clear h
 have H':=Aside0.mk H
 clear H
 go_enter Tryz.func194,Tryz.ntmps194
 go_wp2
 go_loopg [8] k (fun kq v8 w' => ∃ (x8_1:Int),v8 = .int .i64 x8_1∧Aside0 (slices_Index_string_string.l0 kq l0 a1 (l0.length:Int) x8_1=some r)∧Aside0 (kq≤k)∧Drawn0 w w')
 case atStart=>exact ⟨(0),zu18,H',⟨Nat.le_refl _⟩,zu20⟩
 case round =>
  clear H'
  try clear c1
  try clear p2
  obtain ⟨x8_1,rfl,HA,HK1,⟨m1,rfl⟩⟩:=hrel
  cases gk with
  | zero=>exact absurd HA.out (by simp [slices_Index_string_string.l0])
  | succ k1 =>
    have H:=HA.out
    clear HA
    simp only [slices_Index_string_string.l0] at H
    by_cases c3:x8_1<(l0.length:Int)
    ·rw [if_pos c3] at H
     have c3b0:decide (x8_1<(l0.length:Int))=true:=decide_eq_true c3
     clear c3
     by_cases c4:0≤x8_1
     ·rw [if_pos c4] at H
      have c4b0:decide (0≤x8_1)=true:=decide_eq_true c4
      clear c4
      by_cases c5:x8_1<(l0.length:Int)
      ·rw [if_pos c5] at H
       have c5b0:decide (x8_1<(l0.length:Int))=true:=decide_eq_true c5
       clear c5
       by_cases c6:a1.toList=(rdOf ByteArray.empty l0 x8_1).toList
       ·rw [if_pos c6] at H
        have c6b0:(a1.toList == (rdOf ByteArray.empty l0 x8_1).toList)=true:=beq_iff_eq.mpr c6
        have c6b1:(a1.toList != (rdOf ByteArray.empty l0 x8_1).toList)=false:=bne_eq_false_iff_eq.mpr c6
        clear c6
        obtain rfl:=Option.some.inj H
        have p101:0≤(x8_1:Int):=of_decide_eq_true zu17
        have q101:x8_1<(l0.length:Int):=of_decide_eq_true zu17
        obtain ⟨ad101,e101,hx101_0⟩:=Kd.at_string HR0.out x8_1 p101 q101
        cases e101
        replace p101:=eq_true p101
        replace q101:=eq_true q101
        go_wp2
        go_ret
        exact zu14
       ·rw [if_neg c6] at H
        have c6b0:(a1.toList == (rdOf ByteArray.empty l0 x8_1).toList)=false:=beq_eq_false_iff_ne.mpr c6
        have c6b1:(a1.toList != (rdOf ByteArray.empty l0 x8_1).toList)=true:=bne_iff_ne.mpr c6
        have H':=Aside0.mk H
        clear H
        have p101:0≤(x8_1:Int):=of_decide_eq_true zu17
        have q101:x8_1<(l0.length:Int):=of_decide_eq_true zu17
        obtain ⟨ad101,e101,hx101_0⟩:=Kd.at_string HR0.out x8_1 p101 q101
        cases e101
        replace p101:=eq_true p101
        replace q101:=eq_true q101
        go_wp2
        go_roundg k1
        case measure=>have:=HK1.out;omega
        case rel=>exact ⟨(wrap64 (x8_1+1)),zu18,H',⟨by have:=HK1.out;omega⟩,zu20⟩
      ·rw [if_neg c5] at H
       exact absurd H zu19
     ·rw [if_neg c4] at H
      exact absurd H zu19
    ·rw [if_neg c3] at H
     have c3b0:decide (x8_1<(l0.length:Int))=false:=decide_eq_false c3
     clear c3
     obtain rfl:=Option.some.inj H
     go_wp2
     go_ret
     exact zu14
def slices_Contains_string_string.f (k:Nat) (l0:List ByteArray) (a1:ByteArray):Option (Bool):=(slices_Index_string_string.f k l0 a1).bind fun t102=>(some (decide (t102≥0)))
theorem slices_Contains_string_string.calls (k:Nat) (A0:Option Addr) (c0:Nat) (l0:List ByteArray) (a1:ByteArray) (r:Bool) (w:World) (hr0:Kd.C Kd.string w A0 l0.length l0) (hc0:l0.length≤c0) (h:slices_Contains_string_string.f k l0 a1=some r) :
  Calls Tryz.prog 170 #[.slice A0 l0.length c0,.string a1] w fun e w'=>e = .returned (.bool r)∧Drawn0 w w':=by
 have HR0:=Aside0.mk hr0
 have HC0:=Aside0.mk hc0
 clear hr0 hc0
 have H:((slices_Index_string_string.f k l0 a1).bind fun t102=>(some (decide (t102≥0))))=some r:=h
 clear h
 replace H:=Option.bind_eq_some_iff.mp H
 obtain ⟨t102,A30,H⟩:=H
 try dsimp only at H
 have A3:=Aside0.mk A30
 clear A30
 obtain rfl:=Option.some.inj H
 go_enter Tryz.func170,Tryz.ntmps170
 go_wp2_with (first | ((with_reducible refine gate_callee (f:=194) rfl ?_);refine goesL_ (some 7) rfl rfl Tryz.func194 zu13 rfl #[.slice A0 l0.length c0,.string a1] rfl zu2 ?_;(with_reducible refine (slices_Index_string_string.calls k _ _ l0 a1 t102 _ ?side1 ?side2 A3.out).mono ?_);(case side1=>repeat (first|exact HR0.out | (with_reducible refine Kd.C_alloc ?_ _) | (with_reducible refine Kd.C_drewN ?_ _) | (with_reducible refine Kd.C_drew ?_)));(case side2=>exact HC0.out);rintro e w' ⟨rfl,⟨nd,rfl⟩⟩;refine ⟨_,rfl,?_⟩))
 go_ret
 exact zu14
def kinds_one.f (k:Nat) (a0:ByteArray) (l1:List ByteArray):Option (Bool):=(slices_Contains_string_string.f k l1 a0).bind fun t103=>(some t103)
abbrev litL0:List ByteArray:=([(⟨#[104,101,97,100]⟩:ByteArray),(⟨#[105,102,114,97,109,101]⟩:ByteArray),(⟨#[110,111,101,109,98,101,100]⟩:ByteArray),(⟨#[110,111,102,114,97,109,101,115]⟩:ByteArray),(⟨#[110,111,115,99,114,105,112,116]⟩:ByteArray),(⟨#[115,99,114,105,112,116]⟩:ByteArray),(⟨#[115,116,121,108,101]⟩:ByteArray),(⟨#[116,101,109,112,108,97,116,101]⟩:ByteArray),(⟨#[116,105,116,108,101]⟩:ByteArray)]:List ByteArray)
theorem kinds_one.calls (k:Nat) (a0:ByteArray) (A1:Option Addr) (c1:Nat) (l1:List ByteArray) (r:Bool) (w:World) (hr1:Kd.C Kd.string w A1 l1.length l1) (hc1:l1.length≤c1) (h:kinds_one.f k a0 l1=some r) :
  Calls Tryz.prog 130 #[.string a0,.slice A1 l1.length c1] w fun e w'=>e = .returned (.bool r)∧Drawn0 w w':=by
 have HR1:=Aside0.mk hr1
 have HC1:=Aside0.mk hc1
 clear hr1 hc1
 have H:((slices_Contains_string_string.f k l1 a0).bind fun t103=>(some t103))=some r:=h
 clear h
 replace H:=Option.bind_eq_some_iff.mp H
 obtain ⟨t103,A30,H⟩:=H
 replace H:(some t103)=some r:=H
 have A3:=Aside0.mk A30
 clear A30
 obtain rfl:=Option.some.inj H
 go_enter Tryz.func130,Tryz.ntmps130
 go_wp2_with (first | ((with_reducible refine gate_callee (f:=170) rfl ?_);refine goesL_ (some 7) rfl rfl Tryz.func170 zu13 rfl #[.slice A1 l1.length c1,.string a0] rfl zu2 ?_;(with_reducible refine (slices_Contains_string_string.calls k _ _ l1 a0 t103 _ ?side1 ?side2 A3.out).mono ?_);(case side1=>repeat (first|exact HR1.out | (with_reducible refine Kd.C_alloc ?_ _) | (with_reducible refine Kd.C_drewN ?_ _) | (with_reducible refine Kd.C_drew ?_)));(case side2=>exact HC1.out);rintro e w' ⟨rfl,⟨nd,rfl⟩⟩;refine ⟨_,rfl,?_⟩))
 go_ret
 exact zu14
def kinds_Hides.f (k:Nat) (a0:ByteArray):Option (Bool):=(kinds_one.f k a0 (litL0)).bind fun t107=>(some t107)
abbrev litL1:List ByteArray:=([(⟨#[108,105,115,116,105,110,103]⟩:ByteArray),(⟨#[112,108,97,105,110,116,101,120,116]⟩:ByteArray),(⟨#[112,114,101]⟩:ByteArray),(⟨#[116,101,120,116,97,114,101,97]⟩:ByteArray),(⟨#[120,109,112]⟩:ByteArray)]:List ByteArray)
abbrev litV2:List Value:=[.string (⟨#[104,101,97,100]⟩:ByteArray),.string (⟨#[105,102,114,97,109,101]⟩:ByteArray),.string (⟨#[110,111,101,109,98,101,100]⟩:ByteArray),.string (⟨#[110,111,102,114,97,109,101,115]⟩:ByteArray),.string (⟨#[110,111,115,99,114,105,112,116]⟩:ByteArray),.string (⟨#[115,99,114,105,112,116]⟩:ByteArray),.string (⟨#[115,116,121,108,101]⟩:ByteArray),.string (⟨#[116,101,109,112,108,97,116,101]⟩:ByteArray),.string (⟨#[116,105,116,108,101]⟩:ByteArray)]
theorem kinds_Hides.calls (k:Nat) (a0:ByteArray) (r:Bool) (w:World) (h:kinds_Hides.f k a0=some r) :
  Calls Tryz.prog 95 #[.string a0] w fun e w'=>e = .returned (.bool r)∧Below w.heap.size w w':=by
 have HB:=Aside0.mk (Below.refl w.heap.size w)
 have H:((kinds_one.f k a0 (litL0)).bind fun t107=>(some t107))=some r:=h
 clear h
 obtain ⟨y104,hy104⟩:∃ y_:List ByteArray,y_=(litL0):=⟨_,rfl⟩
 replace H:((kinds_one.f k a0 y104).bind fun t107=>(some t107))=some r:=by first | (rw [hy104];with_reducible exact H) | (have H2_:=(Option.bind_some _ _).symm.trans H;rw [hy104];with_reducible exact H2_) | (have H2_:=(Option.bind_some _ _).symm.trans H;with_reducible exact H2_)|with_reducible exact H | (rw [hy104];exact H)|exact H
 have Ny104:=Aside0.mk hy104
 clear hy104
 replace H:=Option.bind_eq_some_iff.mp H
 obtain ⟨t107,A20,H⟩:=H
 replace H:(some t107)=some r:=H
 have A2:=Aside0.mk A20
 clear A20
 obtain rfl:=Option.some.inj H
 go_enter Tryz.func95,Tryz.ntmps95
 go_wp2_with (first | ((with_reducible refine gate_dst (N:=4) rfl ?_);refine Kd.R_lit Kd.string _ 9 ?hg (N:=4) ?hd (xs:=litL0) (inner:=litV2) (ok:=fun _=>True) (okp:=fun _=>True) ?hr ?hp (fun _ hk=>hk) trivial (Below.refl _ _) (Nat.le_refl _) zu19 ?_;(case hd=>rfl);(case hg=>rfl);(case hr=>first | (go_simp;done) | (go_simp;rfl));(case hp=>repeat (first|exact Reps.none _ _|refine Reps.one (show Kd.M Kd.string _ _ _ _ [_] from rfl) ?_));intro v105 w3 ho4 hb hg_ hnew_;clear hg_ hnew_;(first|rw [← Ny104.out] at ho4 | (simp only [Int.reduceToNat] at ho4;rw [← Ny104.out] at ho4));have n0_:=Aside0.mk (Kd.R_lower ho4 (below_size zu1));have n1_:=Aside0.mk (below_step zu1 hb);clear HB;have HO106:=n0_;have HB:=n1_;clear n0_ n1_;clear hb ho4;obtain ⟨Ao5,co5,eo5⟩:=Kd.R_slice HO106.out;subst eo5) | ((with_reducible refine gate_callee (f:=130) rfl ?_);refine goesL_ (some 5) rfl rfl Tryz.func130 zu13 rfl #[.string a0,.slice Ao5 y104.length co5] rfl zu2 ?_;(with_reducible refine (kinds_one.calls k a0 _ _ y104 t107 _ ?side1 ?side2 A2.out).mono ?_);(case side1=>repeat (first|exact (Kd.R_reads' HO106.out).2.2 | (with_reducible refine Kd.C_alloc ?_ _) | (with_reducible refine Kd.C_drewN ?_ _) | (with_reducible refine Kd.C_drew ?_)));(case side2=>exact (Kd.R_reads' HO106.out).2.1);rintro e w' ⟨rfl,⟨nd,rfl⟩⟩;refine ⟨_,rfl,?_⟩))
 go_ret
 exact zu5
def kinds_Keeps.f (k:Nat) (a0:ByteArray):Option (Bool):=(kinds_one.f k a0 (litL1)).bind fun t111=>(some t111)
abbrev litL3:List ByteArray:=([(⟨#[98,108,111,99,107,113,117,111,116,101]⟩:ByteArray),(⟨#[104,49]⟩:ByteArray),(⟨#[104,50]⟩:ByteArray),(⟨#[104,51]⟩:ByteArray),(⟨#[104,52]⟩:ByteArray),(⟨#[104,53]⟩:ByteArray),(⟨#[104,54]⟩:ByteArray),(⟨#[108,105,115,116,105,110,103]⟩:ByteArray),(⟨#[111,108]⟩:ByteArray),(⟨#[112]⟩:ByteArray),(⟨#[112,108,97,105,110,116,101,120,116]⟩:ByteArray),(⟨#[112,114,101]⟩:ByteArray),(⟨#[116,97,98,108,101]⟩:ByteArray),(⟨#[117,108]⟩:ByteArray),(⟨#[120,109,112]⟩:ByteArray)]:List ByteArray)
abbrev litL4:List ByteArray:=([(⟨#[97,100,100,114,101,115,115]⟩:ByteArray),(⟨#[97,114,116,105,99,108,101]⟩:ByteArray),(⟨#[97,115,105,100,101]⟩:ByteArray),(⟨#[98,111,100,121]⟩:ByteArray),(⟨#[99,101,110,116,101,114]⟩:ByteArray),(⟨#[100,100]⟩:ByteArray),(⟨#[100,101,116,97,105,108,115]⟩:ByteArray),(⟨#[100,105,97,108,111,103]⟩:ByteArray),(⟨#[100,105,114]⟩:ByteArray),(⟨#[100,105,118]⟩:ByteArray),(⟨#[100,108]⟩:ByteArray),(⟨#[100,116]⟩:ByteArray),(⟨#[102,105,101,108,100,115,101,116]⟩:ByteArray),(⟨#[102,105,103,99,97,112,116,105,111,110]⟩:ByteArray),(⟨#[102,105,103,117,114,101]⟩:ByteArray),(⟨#[102,111,111,116,101,114]⟩:ByteArray),(⟨#[102,111,114,109]⟩:ByteArray)]:List ByteArray)
abbrev litL5:List ByteArray:=([(⟨#[104,101,97,100,101,114]⟩:ByteArray),(⟨#[104,103,114,111,117,112]⟩:ByteArray),(⟨#[104,114]⟩:ByteArray),(⟨#[104,116,109,108]⟩:ByteArray),(⟨#[108,101,103,101,110,100]⟩:ByteArray),(⟨#[108,105]⟩:ByteArray),(⟨#[109,97,105,110]⟩:ByteArray),(⟨#[109,101,110,117]⟩:ByteArray),(⟨#[110,97,118]⟩:ByteArray),(⟨#[111,112,116,105,111,110]⟩:ByteArray),(⟨#[115,101,97,114,99,104]⟩:ByteArray),(⟨#[115,101,99,116,105,111,110]⟩:ByteArray),(⟨#[115,117,109,109,97,114,121]⟩:ByteArray),(⟨#[116,114]⟩:ByteArray)]:List ByteArray)
abbrev litV6:List Value:=[.string (⟨#[108,105,115,116,105,110,103]⟩:ByteArray),.string (⟨#[112,108,97,105,110,116,101,120,116]⟩:ByteArray),.string (⟨#[112,114,101]⟩:ByteArray),.string (⟨#[116,101,120,116,97,114,101,97]⟩:ByteArray),.string (⟨#[120,109,112]⟩:ByteArray)]
theorem kinds_Keeps.calls (k:Nat) (a0:ByteArray) (r:Bool) (w:World) (h:kinds_Keeps.f k a0=some r) :
  Calls Tryz.prog 97 #[.string a0] w fun e w'=>e = .returned (.bool r)∧Below w.heap.size w w':=by
 have HB:=Aside0.mk (Below.refl w.heap.size w)
 have H:((kinds_one.f k a0 (litL1)).bind fun t111=>(some t111))=some r:=h
 clear h
 obtain ⟨y108,hy108⟩:∃ y_:List ByteArray,y_=(litL1):=⟨_,rfl⟩
 replace H:((kinds_one.f k a0 y108).bind fun t111=>(some t111))=some r:=by first | (rw [hy108];with_reducible exact H) | (have H2_:=(Option.bind_some _ _).symm.trans H;rw [hy108];with_reducible exact H2_) | (have H2_:=(Option.bind_some _ _).symm.trans H;with_reducible exact H2_)|with_reducible exact H | (rw [hy108];exact H)|exact H
 have Ny108:=Aside0.mk hy108
 clear hy108
 replace H:=Option.bind_eq_some_iff.mp H
 obtain ⟨t111,A20,H⟩:=H
 replace H:(some t111)=some r:=H
 have A2:=Aside0.mk A20
 clear A20
 obtain rfl:=Option.some.inj H
 go_enter Tryz.func97,Tryz.ntmps97
 go_wp2_with (first | ((with_reducible refine gate_dst (N:=4) rfl ?_);refine Kd.R_lit Kd.string _ 9 ?hg (N:=4) ?hd (xs:=litL1) (inner:=litV6) (ok:=fun _=>True) (okp:=fun _=>True) ?hr ?hp (fun _ hk=>hk) trivial (Below.refl _ _) (Nat.le_refl _) zu19 ?_;(case hd=>rfl);(case hg=>rfl);(case hr=>first | (go_simp;done) | (go_simp;rfl));(case hp=>repeat (first|exact Reps.none _ _|refine Reps.one (show Kd.M Kd.string _ _ _ _ [_] from rfl) ?_));intro v109 w3 ho4 hb hg_ hnew_;clear hg_ hnew_;(first|rw [← Ny108.out] at ho4 | (simp only [Int.reduceToNat] at ho4;rw [← Ny108.out] at ho4));have n0_:=Aside0.mk (Kd.R_lower ho4 (below_size zu1));have n1_:=Aside0.mk (below_step zu1 hb);clear HB;have HO110:=n0_;have HB:=n1_;clear n0_ n1_;clear hb ho4;obtain ⟨Ao5,co5,eo5⟩:=Kd.R_slice HO110.out;subst eo5) | ((with_reducible refine gate_callee (f:=130) rfl ?_);refine goesL_ (some 5) rfl rfl Tryz.func130 zu13 rfl #[.string a0,.slice Ao5 y108.length co5] rfl zu2 ?_;(with_reducible refine (kinds_one.calls k a0 _ _ y108 t111 _ ?side1 ?side2 A2.out).mono ?_);(case side1=>repeat (first|exact (Kd.R_reads' HO110.out).2.2 | (with_reducible refine Kd.C_alloc ?_ _) | (with_reducible refine Kd.C_drewN ?_ _) | (with_reducible refine Kd.C_drew ?_)));(case side2=>exact (Kd.R_reads' HO110.out).2.1);rintro e w' ⟨rfl,⟨nd,rfl⟩⟩;refine ⟨_,rfl,?_⟩))
 go_ret
 exact zu5
def kinds_Lines.f (k:Nat) (a0:ByteArray):Option (Int):=(kinds_one.f k a0 (litL3)).bind fun t115=>(if t115=true then (some 2) else ((kinds_one.f k a0 (litL4)).bind fun t119=>(if t119=true then (some 1) else ((kinds_one.f k a0 (litL5)).bind fun t123=>(if t123=true then (some 1) else (some 0))))))
abbrev litV7:List Value:=[.string (⟨#[98,108,111,99,107,113,117,111,116,101]⟩:ByteArray),.string (⟨#[104,49]⟩:ByteArray),.string (⟨#[104,50]⟩:ByteArray),.string (⟨#[104,51]⟩:ByteArray),.string (⟨#[104,52]⟩:ByteArray),.string (⟨#[104,53]⟩:ByteArray),.string (⟨#[104,54]⟩:ByteArray),.string (⟨#[108,105,115,116,105,110,103]⟩:ByteArray),.string (⟨#[111,108]⟩:ByteArray),.string (⟨#[112]⟩:ByteArray),.string (⟨#[112,108,97,105,110,116,101,120,116]⟩:ByteArray),.string (⟨#[112,114,101]⟩:ByteArray),.string (⟨#[116,97,98,108,101]⟩:ByteArray),.string (⟨#[117,108]⟩:ByteArray),.string (⟨#[120,109,112]⟩:ByteArray)]
abbrev litV8:List Value:=[.string (⟨#[97,100,100,114,101,115,115]⟩:ByteArray),.string (⟨#[97,114,116,105,99,108,101]⟩:ByteArray),.string (⟨#[97,115,105,100,101]⟩:ByteArray),.string (⟨#[98,111,100,121]⟩:ByteArray),.string (⟨#[99,101,110,116,101,114]⟩:ByteArray),.string (⟨#[100,100]⟩:ByteArray),.string (⟨#[100,101,116,97,105,108,115]⟩:ByteArray),.string (⟨#[100,105,97,108,111,103]⟩:ByteArray),.string (⟨#[100,105,114]⟩:ByteArray),.string (⟨#[100,105,118]⟩:ByteArray),.string (⟨#[100,108]⟩:ByteArray),.string (⟨#[100,116]⟩:ByteArray),.string (⟨#[102,105,101,108,100,115,101,116]⟩:ByteArray),.string (⟨#[102,105,103,99,97,112,116,105,111,110]⟩:ByteArray),.string (⟨#[102,105,103,117,114,101]⟩:ByteArray),.string (⟨#[102,111,111,116,101,114]⟩:ByteArray),.string (⟨#[102,111,114,109]⟩:ByteArray)]
abbrev litV9:List Value:=[.string (⟨#[104,101,97,100,101,114]⟩:ByteArray),.string (⟨#[104,103,114,111,117,112]⟩:ByteArray),.string (⟨#[104,114]⟩:ByteArray),.string (⟨#[104,116,109,108]⟩:ByteArray),.string (⟨#[108,101,103,101,110,100]⟩:ByteArray),.string (⟨#[108,105]⟩:ByteArray),.string (⟨#[109,97,105,110]⟩:ByteArray),.string (⟨#[109,101,110,117]⟩:ByteArray),.string (⟨#[110,97,118]⟩:ByteArray),.string (⟨#[111,112,116,105,111,110]⟩:ByteArray),.string (⟨#[115,101,97,114,99,104]⟩:ByteArray),.string (⟨#[115,101,99,116,105,111,110]⟩:ByteArray),.string (⟨#[115,117,109,109,97,114,121]⟩:ByteArray),.string (⟨#[116,114]⟩:ByteArray)]
theorem kinds_Lines.calls (k:Nat) (a0:ByteArray) (r:Int) (w:World) (h:kinds_Lines.f k a0=some r) :
  Calls Tryz.prog 132 #[.string a0] w fun e w'=>e = .returned (.int .i64 r)∧Below w.heap.size w w':=by
 have HB:=Aside0.mk (Below.refl w.heap.size w)
 have H:((kinds_one.f k a0 (litL3)).bind fun t115=>(if t115=true then (some 2) else ((kinds_one.f k a0 (litL4)).bind fun t119=>(if t119=true then (some 1) else ((kinds_one.f k a0 (litL5)).bind fun t123=>(if t123=true then (some 1) else (some 0)))))))=some r:=h
 clear h
 obtain ⟨y112,hy112⟩:∃ y_:List ByteArray,y_=(litL3):=⟨_,rfl⟩
 replace H:((kinds_one.f k a0 y112).bind fun t115=>(if t115=true then (some 2) else ((kinds_one.f k a0 (litL4)).bind fun t119=>(if t119=true then (some 1) else ((kinds_one.f k a0 (litL5)).bind fun t123=>(if t123=true then (some 1) else (some 0)))))))=some r:=by first | (rw [hy112];with_reducible exact H) | (have H2_:=(Option.bind_some _ _).symm.trans H;rw [hy112];with_reducible exact H2_) | (have H2_:=(Option.bind_some _ _).symm.trans H;with_reducible exact H2_)|with_reducible exact H | (rw [hy112];exact H)|exact H
 have Ny112:=Aside0.mk hy112
 clear hy112
 replace H:=Option.bind_eq_some_iff.mp H
 obtain ⟨t115,A20,H⟩:=H
 try dsimp only at H
 have A2:=Aside0.mk A20
 clear A20
 by_cases c3:t115=true
 ·subst c3
  rw [if_pos rfl] at H
  obtain rfl:=Option.some.inj H
  go_enter Tryz.func132,Tryz.ntmps132
  go_wp2_with (first | ((with_reducible refine gate_dst (N:=5) rfl ?_);refine Kd.R_lit Kd.string _ 9 ?hg (N:=5) ?hd (xs:=litL3) (inner:=litV7) (ok:=fun _=>True) (okp:=fun _=>True) ?hr ?hp (fun _ hk=>hk) trivial (Below.refl _ _) (Nat.le_refl _) zu19 ?_;(case hd=>rfl);(case hg=>rfl);(case hr=>first | (go_simp;done) | (go_simp;rfl));(case hp=>repeat (first|exact Reps.none _ _|refine Reps.one (show Kd.M Kd.string _ _ _ _ [_] from rfl) ?_));intro v113 w4 ho5 hb hg_ hnew_;clear hg_ hnew_;(first|rw [← Ny112.out] at ho5 | (simp only [Int.reduceToNat] at ho5;rw [← Ny112.out] at ho5));have n0_:=Aside0.mk (Kd.R_lower ho5 (below_size zu1));have n1_:=Aside0.mk (below_step zu1 hb);clear HB;have HO114:=n0_;have HB:=n1_;clear n0_ n1_;clear hb ho5;obtain ⟨Ao6,co6,eo6⟩:=Kd.R_slice HO114.out;subst eo6) | ((with_reducible refine gate_callee (f:=130) rfl ?_);refine goesL_ (some 6) rfl rfl Tryz.func130 zu13 rfl #[.string a0,.slice Ao6 y112.length co6] rfl zu2 ?_;(with_reducible refine (kinds_one.calls k a0 _ _ y112 true _ ?side1 ?side2 A2.out).mono ?_);(case side1=>repeat (first|exact (Kd.R_reads' HO114.out).2.2 | (with_reducible refine Kd.C_alloc ?_ _) | (with_reducible refine Kd.C_drewN ?_ _) | (with_reducible refine Kd.C_drew ?_)));(case side2=>exact (Kd.R_reads' HO114.out).2.1);rintro e w' ⟨rfl,⟨nd,rfl⟩⟩;refine ⟨_,rfl,?_⟩))
  go_ret
  exact zu5
 ·replace c3:=Bool.eq_false_iff.mpr c3
  subst c3
  rw [if_neg (show ¬ (false=true) by decide)] at H
  obtain ⟨y116,hy116⟩:∃ y_:List ByteArray,y_=(litL4):=⟨_,rfl⟩
  replace H:((kinds_one.f k a0 y116).bind fun t119=>(if t119=true then (some 1) else ((kinds_one.f k a0 (litL5)).bind fun t123=>(if t123=true then (some 1) else (some 0)))))=some r:=by first | (rw [hy116];with_reducible exact H) | (have H2_:=(Option.bind_some _ _).symm.trans H;rw [hy116];with_reducible exact H2_) | (have H2_:=(Option.bind_some _ _).symm.trans H;with_reducible exact H2_)|with_reducible exact H | (rw [hy116];exact H)|exact H
  have Ny116:=Aside0.mk hy116
  clear hy116
  replace H:=Option.bind_eq_some_iff.mp H
  obtain ⟨t119,A70,H⟩:=H
  try dsimp only at H
  have A7:=Aside0.mk A70
  clear A70
  by_cases c8:t119=true
  ·subst c8
   rw [if_pos rfl] at H
   obtain rfl:=Option.some.inj H
   go_enter Tryz.func132,Tryz.ntmps132
   go_wp2_with (first | ((with_reducible refine gate_dst (N:=5) rfl ?_);refine Kd.R_lit Kd.string _ 9 ?hg (N:=5) ?hd (xs:=litL3) (inner:=litV7) (ok:=fun _=>True) (okp:=fun _=>True) ?hr ?hp (fun _ hk=>hk) trivial (Below.refl _ _) (Nat.le_refl _) zu19 ?_;(case hd=>rfl);(case hg=>rfl);(case hr=>first | (go_simp;done) | (go_simp;rfl));(case hp=>repeat (first|exact Reps.none _ _|refine Reps.one (show Kd.M Kd.string _ _ _ _ [_] from rfl) ?_));intro v113 w9 ho10 hb hg_ hnew_;clear hg_ hnew_;(first|rw [← Ny112.out] at ho10 | (simp only [Int.reduceToNat] at ho10;rw [← Ny112.out] at ho10));have n0_:=Aside0.mk (Kd.R_lower ho10 (below_size zu1));have n1_:=Aside0.mk (below_step zu1 hb);clear HB;have HO114:=n0_;have HB:=n1_;clear n0_ n1_;clear hb ho10;obtain ⟨Ao11,co11,eo11⟩:=Kd.R_slice HO114.out;subst eo11) | ((with_reducible refine gate_callee (f:=130) rfl ?_);refine goesL_ (some 6) rfl rfl Tryz.func130 zu13 rfl #[.string a0,.slice Ao11 y112.length co11] rfl zu2 ?_;(with_reducible refine (kinds_one.calls k a0 _ _ y112 false _ ?side1 ?side2 A2.out).mono ?_);(case side1=>repeat (first|exact (Kd.R_reads' HO114.out).2.2 | (with_reducible refine Kd.C_alloc ?_ _) | (with_reducible refine Kd.C_drewN ?_ _) | (with_reducible refine Kd.C_drew ?_)));(case side2=>exact (Kd.R_reads' HO114.out).2.1);rintro e w' ⟨rfl,⟨nd,rfl⟩⟩;refine ⟨_,rfl,?_⟩) | ((with_reducible refine gate_dst (N:=9) rfl ?_);refine Kd.R_lit Kd.string _ 9 ?hg (N:=9) ?hd (xs:=litL4) (inner:=litV8) (ok:=fun _=>True) (okp:=fun _=>True) ?hr ?hp (fun _ hk=>hk) trivial (Below.refl _ _) (Nat.le_refl _) zu19 ?_;(case hd=>rfl);(case hg=>rfl);(case hr=>first | (go_simp;done) | (go_simp;rfl));(case hp=>repeat (first|exact Reps.none _ _|refine Reps.one (show Kd.M Kd.string _ _ _ _ [_] from rfl) ?_));intro v117 w12 ho13 hb hg_ hnew_;clear hg_ hnew_;(first|rw [← Ny116.out] at ho13 | (simp only [Int.reduceToNat] at ho13;rw [← Ny116.out] at ho13));have n0_:=Aside0.mk (Kd.R_elder' zu23 (Kd.R_base ho13) hb);have n1_:=Aside0.mk (Kd.R_lower (Kd.R_new' ho13 (Kd.R_lt zu23)) (below_size zu1));have n2_:=Aside0.mk (below_step zu1 hb);clear HO114;clear HB;have HO114:=n0_;have HO118:=n1_;have HB:=n2_;clear n0_ n1_ n2_;clear hb ho13;obtain ⟨Ao14,co14,eo14⟩:=Kd.R_slice HO118.out;subst eo14) | ((with_reducible refine gate_callee (f:=130) rfl ?_);refine goesL_ (some 10) rfl rfl Tryz.func130 zu13 rfl #[.string a0,.slice Ao14 y116.length co14] rfl zu2 ?_;(with_reducible refine (kinds_one.calls k a0 _ _ y116 true _ ?side1 ?side2 A7.out).mono ?_);(case side1=>repeat (first|exact (Kd.R_reads' HO118.out).2.2 | (with_reducible refine Kd.C_alloc ?_ _) | (with_reducible refine Kd.C_drewN ?_ _) | (with_reducible refine Kd.C_drew ?_)));(case side2=>exact (Kd.R_reads' HO118.out).2.1);rintro e w' ⟨rfl,⟨nd,rfl⟩⟩;refine ⟨_,rfl,?_⟩))
   go_ret
   exact zu5
  ·replace c8:=Bool.eq_false_iff.mpr c8
   subst c8
   rw [if_neg (show ¬ (false=true) by decide)] at H
   obtain ⟨y120,hy120⟩:∃ y_:List ByteArray,y_=(litL5):=⟨_,rfl⟩
   replace H:((kinds_one.f k a0 y120).bind fun t123=>(if t123=true then (some 1) else (some 0)))=some r:=by first | (rw [hy120];with_reducible exact H) | (have H2_:=(Option.bind_some _ _).symm.trans H;rw [hy120];with_reducible exact H2_) | (have H2_:=(Option.bind_some _ _).symm.trans H;with_reducible exact H2_)|with_reducible exact H | (rw [hy120];exact H)|exact H
   have Ny120:=Aside0.mk hy120
   clear hy120
   replace H:=Option.bind_eq_some_iff.mp H
   obtain ⟨t123,A150,H⟩:=H
   try dsimp only at H
   have A15:=Aside0.mk A150
   clear A150
   by_cases c16:t123=true
   ·subst c16
    rw [if_pos rfl] at H
    obtain rfl:=Option.some.inj H
    go_enter Tryz.func132,Tryz.ntmps132
    go_wp2_with (first | ((with_reducible refine gate_dst (N:=5) rfl ?_);refine Kd.R_lit Kd.string _ 9 ?hg (N:=5) ?hd (xs:=litL3) (inner:=litV7) (ok:=fun _=>True) (okp:=fun _=>True) ?hr ?hp (fun _ hk=>hk) trivial (Below.refl _ _) (Nat.le_refl _) zu19 ?_;(case hd=>rfl);(case hg=>rfl);(case hr=>first | (go_simp;done) | (go_simp;rfl));(case hp=>repeat (first|exact Reps.none _ _|refine Reps.one (show Kd.M Kd.string _ _ _ _ [_] from rfl) ?_));intro v113 w17 ho18 hb hg_ hnew_;clear hg_ hnew_;(first|rw [← Ny112.out] at ho18 | (simp only [Int.reduceToNat] at ho18;rw [← Ny112.out] at ho18));have n0_:=Aside0.mk (Kd.R_lower ho18 (below_size zu1));have n1_:=Aside0.mk (below_step zu1 hb);clear HB;have HO114:=n0_;have HB:=n1_;clear n0_ n1_;clear hb ho18;obtain ⟨Ao19,co19,eo19⟩:=Kd.R_slice HO114.out;subst eo19) | ((with_reducible refine gate_callee (f:=130) rfl ?_);refine goesL_ (some 6) rfl rfl Tryz.func130 zu13 rfl #[.string a0,.slice Ao19 y112.length co19] rfl zu2 ?_;(with_reducible refine (kinds_one.calls k a0 _ _ y112 false _ ?side1 ?side2 A2.out).mono ?_);(case side1=>repeat (first|exact (Kd.R_reads' HO114.out).2.2 | (with_reducible refine Kd.C_alloc ?_ _) | (with_reducible refine Kd.C_drewN ?_ _) | (with_reducible refine Kd.C_drew ?_)));(case side2=>exact (Kd.R_reads' HO114.out).2.1);rintro e w' ⟨rfl,⟨nd,rfl⟩⟩;refine ⟨_,rfl,?_⟩) | ((with_reducible refine gate_dst (N:=9) rfl ?_);refine Kd.R_lit Kd.string _ 9 ?hg (N:=9) ?hd (xs:=litL4) (inner:=litV8) (ok:=fun _=>True) (okp:=fun _=>True) ?hr ?hp (fun _ hk=>hk) trivial (Below.refl _ _) (Nat.le_refl _) zu19 ?_;(case hd=>rfl);(case hg=>rfl);(case hr=>first | (go_simp;done) | (go_simp;rfl));(case hp=>repeat (first|exact Reps.none _ _|refine Reps.one (show Kd.M Kd.string _ _ _ _ [_] from rfl) ?_));intro v117 w20 ho21 hb hg_ hnew_;clear hg_ hnew_;(first|rw [← Ny116.out] at ho21 | (simp only [Int.reduceToNat] at ho21;rw [← Ny116.out] at ho21));have n0_:=Aside0.mk (Kd.R_elder' zu23 (Kd.R_base ho21) hb);have n1_:=Aside0.mk (Kd.R_lower (Kd.R_new' ho21 (Kd.R_lt zu23)) (below_size zu1));have n2_:=Aside0.mk (below_step zu1 hb);clear HO114;clear HB;have HO114:=n0_;have HO118:=n1_;have HB:=n2_;clear n0_ n1_ n2_;clear hb ho21;obtain ⟨Ao22,co22,eo22⟩:=Kd.R_slice HO118.out;subst eo22) | ((with_reducible refine gate_callee (f:=130) rfl ?_);refine goesL_ (some 10) rfl rfl Tryz.func130 zu13 rfl #[.string a0,.slice Ao22 y116.length co22] rfl zu2 ?_;(with_reducible refine (kinds_one.calls k a0 _ _ y116 false _ ?side1 ?side2 A7.out).mono ?_);(case side1=>repeat (first|exact (Kd.R_reads' HO118.out).2.2 | (with_reducible refine Kd.C_alloc ?_ _) | (with_reducible refine Kd.C_drewN ?_ _) | (with_reducible refine Kd.C_drew ?_)));(case side2=>exact (Kd.R_reads' HO118.out).2.1);rintro e w' ⟨rfl,⟨nd,rfl⟩⟩;refine ⟨_,rfl,?_⟩) | ((with_reducible refine gate_dst (N:=12) rfl ?_);refine Kd.R_lit Kd.string _ 9 ?hg (N:=12) ?hd (xs:=litL5) (inner:=litV9) (ok:=fun _=>True) (okp:=fun _=>True) ?hr ?hp (fun _ hk=>hk) trivial (Below.refl _ _) (Nat.le_refl _) zu19 ?_;(case hd=>rfl);(case hg=>rfl);(case hr=>first | (go_simp;done) | (go_simp;rfl));(case hp=>repeat (first|exact Reps.none _ _|refine Reps.one (show Kd.M Kd.string _ _ _ _ [_] from rfl) ?_));intro v121 w23 ho24 hb hg_ hnew_;clear hg_ hnew_;(first|rw [← Ny120.out] at ho24 | (simp only [Int.reduceToNat] at ho24;rw [← Ny120.out] at ho24));have n0_:=Aside0.mk (Kd.R_elder' zu23 (Kd.R_base ho24) hb);have n1_:=Aside0.mk (Kd.R_elder' zu34 (Kd.R_base ho24) hb);have n2_:=Aside0.mk (Kd.R_lower (Kd.R_new' (Kd.R_new' ho24 (Kd.R_lt zu23)) (Kd.R_lt zu34)) (below_size zu1));have n3_:=Aside0.mk (below_step zu1 hb);clear HO114;clear HO118;clear HB;have HO114:=n0_;have HO118:=n1_;have HO122:=n2_;have HB:=n3_;clear n0_ n1_ n2_ n3_;clear hb ho24;obtain ⟨Ao25,co25,eo25⟩:=Kd.R_slice HO122.out;subst eo25) | ((with_reducible refine gate_callee (f:=130) rfl ?_);refine goesL_ (some 13) rfl rfl Tryz.func130 zu13 rfl #[.string a0,.slice Ao25 y120.length co25] rfl zu2 ?_;(with_reducible refine (kinds_one.calls k a0 _ _ y120 true _ ?side1 ?side2 A15.out).mono ?_);(case side1=>repeat (first|exact (Kd.R_reads' HO122.out).2.2 | (with_reducible refine Kd.C_alloc ?_ _) | (with_reducible refine Kd.C_drewN ?_ _) | (with_reducible refine Kd.C_drew ?_)));(case side2=>exact (Kd.R_reads' HO122.out).2.1);rintro e w' ⟨rfl,⟨nd,rfl⟩⟩;refine ⟨_,rfl,?_⟩))
    go_ret
    exact zu5
   ·replace c16:=Bool.eq_false_iff.mpr c16
    subst c16
    rw [if_neg (show ¬ (false=true) by decide)] at H
    obtain rfl:=Option.some.inj H
    go_enter Tryz.func132,Tryz.ntmps132
    go_wp2_with (first | ((with_reducible refine gate_dst (N:=5) rfl ?_);refine Kd.R_lit Kd.string _ 9 ?hg (N:=5) ?hd (xs:=litL3) (inner:=litV7) (ok:=fun _=>True) (okp:=fun _=>True) ?hr ?hp (fun _ hk=>hk) trivial (Below.refl _ _) (Nat.le_refl _) zu19 ?_;(case hd=>rfl);(case hg=>rfl);(case hr=>first | (go_simp;done) | (go_simp;rfl));(case hp=>repeat (first|exact Reps.none _ _|refine Reps.one (show Kd.M Kd.string _ _ _ _ [_] from rfl) ?_));intro v113 w26 ho27 hb hg_ hnew_;clear hg_ hnew_;(first|rw [← Ny112.out] at ho27 | (simp only [Int.reduceToNat] at ho27;rw [← Ny112.out] at ho27));have n0_:=Aside0.mk (Kd.R_lower ho27 (below_size zu1));have n1_:=Aside0.mk (below_step zu1 hb);clear HB;have HO114:=n0_;have HB:=n1_;clear n0_ n1_;clear hb ho27;obtain ⟨Ao28,co28,eo28⟩:=Kd.R_slice HO114.out;subst eo28) | ((with_reducible refine gate_callee (f:=130) rfl ?_);refine goesL_ (some 6) rfl rfl Tryz.func130 zu13 rfl #[.string a0,.slice Ao28 y112.length co28] rfl zu2 ?_;(with_reducible refine (kinds_one.calls k a0 _ _ y112 false _ ?side1 ?side2 A2.out).mono ?_);(case side1=>repeat (first|exact (Kd.R_reads' HO114.out).2.2 | (with_reducible refine Kd.C_alloc ?_ _) | (with_reducible refine Kd.C_drewN ?_ _) | (with_reducible refine Kd.C_drew ?_)));(case side2=>exact (Kd.R_reads' HO114.out).2.1);rintro e w' ⟨rfl,⟨nd,rfl⟩⟩;refine ⟨_,rfl,?_⟩) | ((with_reducible refine gate_dst (N:=9) rfl ?_);refine Kd.R_lit Kd.string _ 9 ?hg (N:=9) ?hd (xs:=litL4) (inner:=litV8) (ok:=fun _=>True) (okp:=fun _=>True) ?hr ?hp (fun _ hk=>hk) trivial (Below.refl _ _) (Nat.le_refl _) zu19 ?_;(case hd=>rfl);(case hg=>rfl);(case hr=>first | (go_simp;done) | (go_simp;rfl));(case hp=>repeat (first|exact Reps.none _ _|refine Reps.one (show Kd.M Kd.string _ _ _ _ [_] from rfl) ?_));intro v117 w29 ho30 hb hg_ hnew_;clear hg_ hnew_;(first|rw [← Ny116.out] at ho30 | (simp only [Int.reduceToNat] at ho30;rw [← Ny116.out] at ho30));have n0_:=Aside0.mk (Kd.R_elder' zu23 (Kd.R_base ho30) hb);have n1_:=Aside0.mk (Kd.R_lower (Kd.R_new' ho30 (Kd.R_lt zu23)) (below_size zu1));have n2_:=Aside0.mk (below_step zu1 hb);clear HO114;clear HB;have HO114:=n0_;have HO118:=n1_;have HB:=n2_;clear n0_ n1_ n2_;clear hb ho30;obtain ⟨Ao31,co31,eo31⟩:=Kd.R_slice HO118.out;subst eo31) | ((with_reducible refine gate_callee (f:=130) rfl ?_);refine goesL_ (some 10) rfl rfl Tryz.func130 zu13 rfl #[.string a0,.slice Ao31 y116.length co31] rfl zu2 ?_;(with_reducible refine (kinds_one.calls k a0 _ _ y116 false _ ?side1 ?side2 A7.out).mono ?_);(case side1=>repeat (first|exact (Kd.R_reads' HO118.out).2.2 | (with_reducible refine Kd.C_alloc ?_ _) | (with_reducible refine Kd.C_drewN ?_ _) | (with_reducible refine Kd.C_drew ?_)));(case side2=>exact (Kd.R_reads' HO118.out).2.1);rintro e w' ⟨rfl,⟨nd,rfl⟩⟩;refine ⟨_,rfl,?_⟩) | ((with_reducible refine gate_dst (N:=12) rfl ?_);refine Kd.R_lit Kd.string _ 9 ?hg (N:=12) ?hd (xs:=litL5) (inner:=litV9) (ok:=fun _=>True) (okp:=fun _=>True) ?hr ?hp (fun _ hk=>hk) trivial (Below.refl _ _) (Nat.le_refl _) zu19 ?_;(case hd=>rfl);(case hg=>rfl);(case hr=>first | (go_simp;done) | (go_simp;rfl));(case hp=>repeat (first|exact Reps.none _ _|refine Reps.one (show Kd.M Kd.string _ _ _ _ [_] from rfl) ?_));intro v121 w32 ho33 hb hg_ hnew_;clear hg_ hnew_;(first|rw [← Ny120.out] at ho33 | (simp only [Int.reduceToNat] at ho33;rw [← Ny120.out] at ho33));have n0_:=Aside0.mk (Kd.R_elder' zu23 (Kd.R_base ho33) hb);have n1_:=Aside0.mk (Kd.R_elder' zu34 (Kd.R_base ho33) hb);have n2_:=Aside0.mk (Kd.R_lower (Kd.R_new' (Kd.R_new' ho33 (Kd.R_lt zu23)) (Kd.R_lt zu34)) (below_size zu1));have n3_:=Aside0.mk (below_step zu1 hb);clear HO114;clear HO118;clear HB;have HO114:=n0_;have HO118:=n1_;have HO122:=n2_;have HB:=n3_;clear n0_ n1_ n2_ n3_;clear hb ho33;obtain ⟨Ao34,co34,eo34⟩:=Kd.R_slice HO122.out;subst eo34) | ((with_reducible refine gate_callee (f:=130) rfl ?_);refine goesL_ (some 13) rfl rfl Tryz.func130 zu13 rfl #[.string a0,.slice Ao34 y120.length co34] rfl zu2 ?_;(with_reducible refine (kinds_one.calls k a0 _ _ y120 false _ ?side1 ?side2 A15.out).mono ?_);(case side1=>repeat (first|exact (Kd.R_reads' HO122.out).2.2 | (with_reducible refine Kd.C_alloc ?_ _) | (with_reducible refine Kd.C_drewN ?_ _) | (with_reducible refine Kd.C_drew ?_)));(case side2=>exact (Kd.R_reads' HO122.out).2.1);rintro e w' ⟨rfl,⟨nd,rfl⟩⟩;refine ⟨_,rfl,?_⟩))
    go_ret
    exact zu5
end Sk
end

section
namespace Hand
open Go Go.RowKit Pl Pb Sk YtclkdmmgibgamaaGreatDoorW.PrintWords YtclkdmmgibgamaaGreatDoorW.PrintLast YtclkdmmgibgamaaGreatDoorW.PrintMore
theorem index_in (l:List (List UInt8)) (x:List UInt8) (hl:l.length≤1000):∀ d i k:Nat,l.length - i=d→i≤l.length →
  ∃ r,slices_Index_string_string.l0 (d+1+k) (l.map B) (B x) ((l.map B).length:Int) (i:Int)=some r∧decide (r≥0)=(l.drop i).contains x:=by
 intro d
 induction d with
 | zero =>
   intro i k hd hi
   refine ⟨-1,?_,?_⟩
   ·rw [show 0+1+k=k+1 by omega,slices_Index_string_string.l0,if_neg zu45]
   ·rw [List.drop_of_length_le zu4];rfl
 | succ d ih =>
   intro i k hd hi
   have hlt:i<l.length:=by omega
   have hdr:=List.drop_eq_getElem_cons hlt
   have hrd:rdOf ByteArray.empty (l.map B) (i:Int)=B l[i]:=by
    unfold rdOf
    simp [List.getD_eq_getElem?_getD,hlt]
   by_cases he:x=l[i]
   ·refine ⟨i,?_,?_⟩
    ·rw [show d+1+1+k=(d+1+k)+1 by omega,slices_Index_string_string.l0,if_pos zu45,if_pos zu4,if_pos zu45,hrd,toList_B,toList_B,if_pos he]
    ·rw [hdr,List.contains_cons,← he]
     simp
   ·obtain ⟨r,h1,h2⟩:=ih (i+1) k zu4 zu4
    refine ⟨r,?_,?_⟩
    ·rw [show d+1+1+k=(d+1+k)+1 by omega,slices_Index_string_string.l0,if_pos zu45,if_pos zu4,if_pos zu45,hrd,toList_B,toList_B,if_neg he,show wrap64 ((i:Int)+1)=((i+1:Nat):Int) by unfold wrap64;omega]
     exact h1
    ·rw [h2,hdr,List.contains_cons]
     simp [he]
theorem one_f (x:List UInt8) (l:List (List UInt8)) (k:Nat) (hk:l.length≤k) (hl:l.length≤1000):kinds_one.f (k+1) (B x) (l.map B)=some (l.contains x):=by
 obtain ⟨r,h1,h2⟩:=index_in l x hl l.length 0 (k - l.length) zu4 (Nat.zero_le _)
 rw [show l.length+1+(k - l.length)=k+1 by omega] at h1
 unfold kinds_one.f slices_Contains_string_string.f slices_Index_string_string.f
 rw [show (0:Int)=((0:Nat):Int) from rfl,h1,Option.bind_some,Option.bind_some]
 rw [List.drop_zero] at h2
 exact congrArg some h2
theorem hides_c (n:List UInt8) (W:World):Calls Tryz.prog 95 #[.string (B n)] W fun e w'=>e = .returned (.bool (hidesB n))∧Below W.heap.size W w':=by
 refine kinds_Hides.calls 30 _ _ W ?_
 unfold kinds_Hides.f
 show (kinds_one.f 30 (B n) (hideL.map B)).bind _=_
 rw [one_f n hideL 29 zu15 zu15]
 rfl
theorem keeps_c (n:List UInt8) (W:World):Calls Tryz.prog 97 #[.string (B n)] W fun e w'=>e = .returned (.bool (keepsB n))∧Below W.heap.size W w':=by
 refine kinds_Keeps.calls 30 _ _ W ?_
 unfold kinds_Keeps.f
 show (kinds_one.f 30 (B n) (keepsL.map B)).bind _=_
 rw [one_f n keepsL 29 zu15 zu15]
 rfl
theorem kinds_c (n:List UInt8) (W:World):Calls Tryz.prog 132 #[.string (B n)] W fun e w'=>e = .returned (.int .i64 ((linesN n:Nat):Int))∧Below W.heap.size W w':=by
 refine kinds_Lines.calls 30 _ _ W ?_
 unfold kinds_Lines.f
 show (kinds_one.f 30 (B n) (lin2L.map B)).bind (fun t=>if t=true then some 2 else (kinds_one.f 30 (B n) (lin1aL.map B)).bind fun t=>if t=true then some 1 else (kinds_one.f 30 (B n) (lin1bL.map B)).bind fun t=>if t=true then some 1 else some 0)=_
 rw [one_f n lin2L 29 zu15 zu15,one_f n lin1aL 29 zu15 zu15,one_f n lin1bL 29 zu15 zu15]
 simp only [Option.bind_some]
 unfold linesN
 repeat' split
 all_goals rfl
end Hand
end

section
namespace Hand
open Go Go.RowKit Pl Pb Sk YtclkdmmgibgamaaGreatDoorW.PrintWords YtclkdmmgibgamaaGreatDoorW.PrintLast YtclkdmmgibgamaaGreatDoorW.PrintMore
def nmV (l:List (List UInt8)):List Value:=l.map fun n => .string (B n)
theorem nmV_length (l:List (List UInt8)):(nmV l).length=l.length:=by simp [nmV]
structure PgAt (lo pb fb:Nat) (z:Value) (g:Pg) (w:World):Prop where
 le:lo≤pb
 blk:w.heap[pb]? = some (.cells #[.pointer (some ⟨fb,0,none⟩),z,.int .i64 (g.kept:Int)] 82 (0,0))
 fl:IsFl lo fb g.fl w
 op:w.ownsRow lo 9 1 z g.op.length (nmV g.op)
def IsPg (lo pb fb:Nat) (g:Pg) (w:World):Prop := ∃ z,PgAt lo pb fb z g w
def Pk (pb fb:Nat) (w w':World):Prop := ∀ k o,w.heap[k]? = some o→k≠pb→k≠fb→(∀ c fz,o≠.cells c 5 fz)→(∀ c fz,o≠.cells c 9 fz)→w'.heap[k]? = some o
section
variable {lo pb fb : Nat} {z : Value} {g : Pg} {w w' : World}
theorem Pk.trans {w2:World} (h:Pk pb fb w w') (k:Pk pb fb w' w2):Pk pb fb w w2:=fun i o hi h1 h2 h3 h4=>k i o (h i o hi h1 h2 h3 h4) h1 h2 h3 h4
theorem Pk.of_fk (h:Fk fb w w'):Pk pb fb w w':=fun k o hk _ h2 h3 _=>h k o hk (fun e=>h2 (Option.some.inj e)) h3
theorem Pk.of_below (hb:Below w.heap.size w w'):Pk pb fb w w':=fun k o hk _ _ _ _=>(hb.block k (blk_lt hk)).trans hk
theorem Pk.set {k:Nat} {x:Value}:Pk pb fb w (w.setCell ⟨pb,k,none⟩ x):=fun i o hi h1 _ _ _=>(Below.heap_setCell w ⟨pb,k,none⟩ x i h1).trans hi
theorem Pk.grown {v:Value} {lo s n:Nat} {xs:List Value} (hg:w.grownBy w' v.ownBlock) (ho:w.ownsRow lo 9 s v n xs):Pk pb fb w w':=fun i o hi _ _ _ h4=>by
 refine (hg.block i (blk_lt hi) fun e => ?_).trans hi
 obtain ⟨c,fz,hc⟩:=own_kind ho i e.symm
 rw [hi] at hc
 exact h4 c fz (Option.some.inj hc)
theorem pgT:(82:TypeId)≠5∧(82:TypeId)≠9∧(82:TypeId)≠113∧(113:TypeId)≠9:=by decide
theorem own_fk {e:TypeId} {s n:Nat} {v:Value} {xs:List Value} (h:w.ownsRow lo e s v n xs) (he:e≠5) (hk:Fk fb w w') (hne:v.ownBlock≠some fb):w'.ownsRow lo e s v n xs:=by
 refine ⟨h.1,?_⟩
 rcases h.2 with hn|⟨j,cap,cur,rfl,hb,hg,rest⟩
 ·exact .inl hn
 ·refine .inr ⟨j,cap,cur,rfl,hb,hk j _ hg (fun e1=>hne (by simp [Value.ownBlock];exact Option.some.inj e1)) (fun c fz e1 => ?_),rest⟩
  injection e1 with _ e2 _
  exact he e2
theorem PgAt.flb (h:PgAt lo pb fb z g w):∃ cs,w.heap[fb]? = some (.cells cs 113 (0,0)):=by
 obtain ⟨_,_,_,_,hf⟩:=h.fl;exact ⟨_,hf.blk⟩
theorem PgAt.ne (h:PgAt lo pb fb z g w):pb≠fb:=by
 obtain ⟨cs,hf⟩:=h.flb
 exact blk_ne h.blk hf pgT.2.2.1
theorem PgAt.lt (h:PgAt lo pb fb z g w):pb<w.heap.size:=blk_lt h.blk
theorem PgAt.base (h:PgAt lo pb fb z g w):lo≤w.heap.size:=by have:=h.lt;have:=h.le;omega
theorem PgAt.nz (h:PgAt lo pb fb z g w):z.ownBlock≠some pb:=Lib.ownBlock_ne h.op h.blk pgT.2.1
theorem PgAt.nzf (h:PgAt lo pb fb z g w):z.ownBlock≠some fb:=by
 obtain ⟨cs,hf⟩:=h.flb
 exact Lib.ownBlock_ne h.op hf pgT.2.2.2
theorem PgAt.c0 (h:PgAt lo pb fb z g w):w.cell? ⟨pb,0,none⟩=some (.pointer (some ⟨fb,0,none⟩)):=(blk_cell h.blk 0).trans rfl
theorem PgAt.c1 (h:PgAt lo pb fb z g w):w.cell? ⟨pb,1,none⟩=some z:=(blk_cell h.blk 1).trans rfl
theorem PgAt.c2 (h:PgAt lo pb fb z g w):w.cell? ⟨pb,2,none⟩=some (.int .i64 (g.kept:Int)):=(blk_cell h.blk 2).trans rfl
theorem PgAt.fz (h:PgAt lo pb fb z g w) (k:Nat):w.frozen? ⟨pb,k,none⟩=false:=blk_frozen h.blk k
theorem PgAt.flow {f':Fl} (h:PgAt lo pb fb z g w) (hf:IsFl lo fb f' w') (hk:Fk fb w w'):PgAt lo pb fb z ⟨f',g.op,g.kept⟩ w' :=
 ⟨h.le,hk pb _ h.blk (fun e=>h.ne (Option.some.inj e)) (fun c fz e=>by injection e with _ e2 _;exact pgT.1 e2),hf,own_fk h.op zu15 hk h.nzf⟩
theorem PgAt.call (h:PgAt lo pb fb z g w) (hb:Below w.heap.size w w'):PgAt lo pb fb z g w':=⟨h.le,blk_below h.blk hb,h.fl.call hb,pw_own_below h.op hb⟩
theorem IsFl.set {b':Nat} {f:Fl} {b:Nat} (h:IsFl lo b f w) (hne:b≠b') (h5:∀ c fz,w.heap[b']? ≠ some (.cells c 5 fz)) (k:Nat) (x:Value):IsFl lo b f (w.setCell ⟨b',k,none⟩ x):=by
 obtain ⟨p,v,y,hp,h⟩:=h
 have nb:∀ {r:Value} {n:Nat} {xs:List Value},w.ownsRow lo 5 1 r n xs→r.ownBlock≠some b':=fun ho e=>by
  obtain ⟨c,fz,hc⟩:=own_kind ho b' e
  exact h5 c fz hc
 exact ⟨p,v,y,hp,⟨h.le,blk_far h.blk hne _,own_lay h.told (nb h.told) k x,own_lay h.bl (nb h.bl) k x,h.ne⟩⟩
theorem PgAt.nf (h:PgAt lo pb fb z g w):∀ c fz,w.heap[pb]? ≠ some (.cells c 5 fz):=fun c fz e=>by
 rw [h.blk] at e
 injection e with e
 injection e with _ e2 _
 exact pgT.1 e2
theorem PgAt.setk (h:PgAt lo pb fb z g w) {X:Int} {n:Nat} (hX:X=n):PgAt lo pb fb z ⟨g.fl,g.op,n⟩ (w.setCell ⟨pb,2,none⟩ (.int .i64 X)):=by
 subst hX
 exact ⟨h.le,blk_put h.blk 2 _ rfl,h.fl.set (Ne.symm h.ne) h.nf 2 _,own_lay h.op h.nz 2 _⟩
theorem PgAt.seto {z':Value} {o':List (List UInt8)} (h:PgAt lo pb fb z g w) (ho:w.ownsRow lo 9 1 z' o'.length (nmV o')):PgAt lo pb fb z' ⟨g.fl,o',g.kept⟩ (w.setCell ⟨pb,1,none⟩ z') :=
 ⟨h.le,blk_put h.blk 1 _ rfl,h.fl.set (Ne.symm h.ne) h.nf 1 _,own_lay ho (Lib.ownBlock_ne ho h.blk pgT.2.1) 1 _⟩
end
def PgTo (lo pb fb:Nat) (g':Pg) (w:World) (e:Ending) (w':World):Prop:=e = .returned (.tuple #[])∧IsPg lo pb fb g' w'∧Below lo w w'∧Pk pb fb w w'
theorem pgLines_c (lo pb fb:Nat) (g:Pg) (n:List UInt8) (w:World) (h:IsPg lo pb fb g w) (hz:flZ g.fl≤100000) :
  Calls Tryz.prog 96 #[.pointer (some ⟨pb,0,none⟩),.string (B n)] w (PgTo lo pb fb ⟨pgLines g.fl n,g.op,g.kept⟩ w):=by
 have KL:=Lib.hid (fun W=>kinds_c n W)
 obtain ⟨z,h⟩:=h
 have hN:linesN n=0∨linesN n=1∨linesN n=2:=by have:=linesN_le n;omega
 obtain ⟨m,hm⟩:∃ m,linesN n=m:=⟨_,rfl⟩
 have BR:∀ (f0:Fl) (W:World),PgAt lo pb fb z ⟨f0,g.op,g.kept⟩ W→flZ f0≤100001→Below lo w W→Pk pb fb w W→m≠0 →
   Calls Tryz.prog 133 #[.pointer (some ⟨fb,0,none⟩),.int .i64 (m:Int)] W (fun e w'=>e = .returned (.tuple #[])∧IsPg lo pb fb ⟨flBreak f0 m,g.op,g.kept⟩ w'∧Below lo w w'∧Pk pb fb w w'):=fun f0 W hW hz0 hb hk hm0=>by
  refine (break_c lo fb m zu4 f0 W hW.fl zu4).mono ?_
  rintro e w' ⟨he,h1,h2,h3⟩
  exact ⟨he,⟨z,hW.flow h1 h3⟩,hb.trans h2,hk.trans (Pk.of_fk h3)⟩
 have LN:Calls Tryz.prog 131 #[.pointer (some ⟨fb,0,none⟩)] w (fun e w'=>e = .returned (.tuple #[])∧PgAt lo pb fb z ⟨flLine g.fl,g.op,g.kept⟩ w'∧Below lo w w'∧Pk pb fb w w'):=by
  refine (flLine_c lo fb g.fl w h.fl zu4).mono ?_
  rintro e w' ⟨he,h1,h2,h3⟩
  exact ⟨he,h.flow h1 h3,h2,Pk.of_fk h3⟩
 have hzl:=flLine_z g.fl
 replace BR:=Lib.hid BR
 replace LN:=Lib.hid LN
 have c0:=h.c0
 have H:=Lib.hid h
 rw [hm] at KL
 by_cases hb:n=nmBr
 ·have q:((B n).toList == [98,114])=true:=by rw [toList_B,hb];rfl
  obtain ⟨a,ha⟩:∃ a,B n=a:=⟨_,rfl⟩
  rw [ha] at q KL ⊢
  by_cases hm0:m=0
  ·have q0:((m:Int) != 0)=false:=by rw [hm0];rfl
   have hr:pgLines g.fl n=flLine g.fl:=by unfold pgLines;rw [if_pos hb,hm,if_pos hm0]
   rw [hr]
   clear hr hN hm hz hzl hb ha h
   go_enter Tryz.func96,Tryz.ntmps96
   go_wp2_with fail
   refine LN.out.mono ?_
   rintro e w1 ⟨rfl,h1,hb1,hk1⟩
   go_wp2_with fail
   refine (KL.out _).mono ?_
   rintro e w2 ⟨rfl,hb2⟩
   go_wp2_with fail
   go_end0
   exact ⟨rfl,⟨z,h1.call hb2⟩,hb1.trans (hb2.mono h1.base),hk1.trans (Pk.of_below hb2)⟩
  ·have q0:((m:Int) != 0)=true:=by rw [bne_iff_ne];omega
   have hr:pgLines g.fl n=flBreak (flLine g.fl) m:=by unfold pgLines;rw [if_pos hb,hm,if_neg hm0]
   rw [hr]
   clear hr hN hm hb ha h
   go_enter Tryz.func96,Tryz.ntmps96
   go_wp2_with fail
   refine LN.out.mono ?_
   rintro e w1 ⟨rfl,h1,hb1,hk1⟩
   go_wp2_with fail
   refine (KL.out _).mono ?_
   rintro e w2 ⟨rfl,hb2⟩
   have h2:=h1.call hb2
   have c2:=h2.c0
   have B1:=Lib.hid (BR.out _ _ h2 zu4 (hb1.trans (hb2.mono h1.base)) (hk1.trans (Pk.of_below hb2)) hm0)
   clear h1 hb1 hk1 hb2 h2 hz hzl hm0
   go_wp2_with fail
   refine B1.out.mono ?_
   rintro e w3 ⟨rfl,h3⟩
   go_wp2_with fail
   go_end0
   exact ⟨rfl,h3⟩
 ·have q:((B n).toList == [98,114])=false:=by rw [toList_B,beq_eq_false_iff_ne];exact hb
  obtain ⟨a,ha⟩:∃ a,B n=a:=⟨_,rfl⟩
  rw [ha] at q KL ⊢
  by_cases hm0:m=0
  ·have q0:((m:Int) != 0)=false:=by rw [hm0];rfl
   have hr:pgLines g.fl n=g.fl:=by unfold pgLines;rw [if_neg hb,hm,if_pos hm0]
   rw [hr]
   clear hr hN hm hz hzl hb ha h
   go_enter Tryz.func96,Tryz.ntmps96
   go_wp2_with fail
   refine (KL.out _).mono ?_
   rintro e w2 ⟨rfl,hb2⟩
   go_wp2_with fail
   go_end0
   exact ⟨rfl,⟨z,H.out.call hb2⟩,hb2.mono H.out.base,Pk.of_below hb2⟩
  ·have q0:((m:Int) != 0)=true:=by rw [bne_iff_ne];omega
   have hr:pgLines g.fl n=flBreak g.fl m:=by unfold pgLines;rw [if_neg hb,hm,if_neg hm0]
   rw [hr]
   clear hr hN hm hb ha h
   go_enter Tryz.func96,Tryz.ntmps96
   go_wp2_with fail
   refine (KL.out _).mono ?_
   rintro e w2 ⟨rfl,hb2⟩
   have h2:=H.out.call hb2
   have c2:=h2.c0
   have B1:=Lib.hid (BR.out _ _ h2 zu4 (hb2.mono H.out.base) (Pk.of_below hb2) hm0)
   clear hb2 h2 hz hzl hm0
   go_wp2_with fail
   refine B1.out.mono ?_
   rintro e w3 ⟨rfl,h3⟩
   go_wp2_with fail
   go_end0
   exact ⟨rfl,h3⟩
end Hand
end

section
namespace Hand
open Go Go.RowKit Go.Shelf Pl Pb YtclkdmmgibgamaaGreatDoorW.PrintWords YtclkdmmgibgamaaGreatDoorW.PrintLast YtclkdmmgibgamaaGreatDoorW.PrintMore
def enS (n:List UInt8):Value:=.string (B n)
theorem enS_one:OneCell enS:=fun _=>rfl
theorem own_put {w:World} {lo n cap g:Nat} {o:List (List UInt8)} (h:w.ownsRow lo 9 1 (.slice (some ⟨g,0,none⟩) n cap) n (nmV o)) (q:Nat) (o':List (List UInt8)) (hl:o'.length≤n) (hn:o.length=n) :
  (Sort.putRow enS (Sort.ahead w q) g 0 (o'++List.replicate (n - o'.length) []).toArray).ownsRow lo 9 1 (.slice (some ⟨g,0,none⟩) o'.length cap) o'.length (nmV o')∧w.grownBy (Sort.putRow enS (Sort.ahead w q) g 0 (o'++List.replicate (n - o'.length) []).toArray) (some g):=by
 rcases h.2 with ⟨h1,_⟩|⟨g',cap',cur,h1,hb,hg,hnc,hcm,hcs,htake⟩
 ·cases h1
 obtain ⟨rfl,rfl⟩:g=g'∧cap=cap':=by simpa using h1
 have hd:(o'++List.replicate (n - o'.length) []).toArray.size=n:=by simp;omega
 constructor
 ·refine ⟨by rw [nmV_length];omega,.inr ⟨g,cap,Sort.putCells enS 0 (o'++List.replicate (n - o'.length) []).toArray cur,rfl,hb,?_,zu4,hcm,?_,?_⟩⟩
  ·simp [Sort.putRow,Sort.mapBlock,Sort.ahead,Sort.onCells,Array.getElem?_modify,hg]
  ·simp [Sort.putCells,hcs]
  ·apply List.ext_getElem?
   intro j
   rw [List.getElem?_take]
   split
   ·rename_i hj
    have hj:j<o'.length:=by omega
    have hjc:j<cur.size:=by rw [hcs];omega
    simp only [Sort.putCells,Array.getElem?_toList,Array.getElem?_mapIdx,Array.getElem?_eq_getElem hjc,Option.map_some]
    rw [if_pos ⟨Nat.zero_le _,zu4⟩]
    simp only [nmV,List.getElem?_map,List.getElem?_eq_getElem hj,Option.map_some,Nat.sub_zero]
    congr 1
    unfold enS
    rw [getElem!_pos _ j (by rw [hd];omega)]
    simp [List.getElem_append_left hj]
   ·rw [List.getElem?_eq_none (by rw [nmV_length];omega)]
 ·refine ⟨rfl,rfl,rfl,by simp [Sort.putRow,Sort.mapBlock,Sort.ahead],fun k _ hk => ?_⟩
  simp only [Sort.putRow,Sort.mapBlock,Sort.ahead,Array.getElem?_modify]
  rw [if_neg (fun e=>hk (by rw [e]))]
theorem own_holds {w:World} {lo n cap g:Nat} {o:List (List UInt8)} (h:w.ownsRow lo 9 1 (.slice (some ⟨g,0,none⟩) n cap) n (nmV o)):Sort.Holds enS w g 0 o.toArray:=by
 intro j hj
 have hj':j<o.length:=by simpa using hj
 rw [Nat.zero_add]
 refine ⟨?_,?_⟩
 ·have:=h.cells (g:=g) rfl j (.string (B o[j])) (by simp [nmV,hj'])
  rw [add_plain] at this
  rw [this,getElem!_pos _ j (by simpa using hj')]
  rfl
 ·rcases h.2 with ⟨h1,_⟩|⟨g',cap',cur,h1,hb,hg,_⟩
  ·cases h1
  ·obtain ⟨rfl,rfl⟩:g=g'∧cap=cap':=by simpa using h1
   simp [World.frozen?,hg]
def dlR:Go.Shelf.Ren:=⟨fun|6=>129|10=>93|n=>n,fun|22=>42|23=>9|25=>32|n=>n,fun|n=>n⟩
theorem dlL:SlLaysH.n10 Tryz.prog dlR:={
 mixed:=by kernel_rfl
 f6:=⟨Tryz.f129.name,zu15,Tryz.func129.trans (congrArg some zu13)⟩
 f10:=⟨Tryz.f93.name,zu15,Tryz.func93.trans (congrArg some zu13)⟩
 t0:=Tryz.underlying0,a0:=Tryz.isAgg0,z0:=Tryz.sizeOf0,v0:=Tryz.zeroValue0
 t3:=Tryz.underlying3,a3:=Tryz.isAgg3,z3:=Tryz.sizeOf3,v3:=Tryz.zeroValue3
 t4:=Tryz.underlying4,a4:=Tryz.isAgg4,z4:=Tryz.sizeOf4,v4:=Tryz.zeroValue4
 t22:=Tryz.underlying42,a22:=Tryz.isAgg42,z22:=Tryz.sizeOf42,v22:=Tryz.zeroValue42
 a23:=Tryz.isAgg9,z23:=Tryz.sizeOf9
 t25:=Tryz.underlying32,a25:=Tryz.isAgg32,z25:=Tryz.sizeOf32,v25:=Tryz.zeroValue32 }
theorem isHead_c (n:List UInt8) (W:World):Calls Tryz.prog 94 #[.string (B n)] W fun e w'=>e = .returned (.bool (n == nmHead))∧∃ q,w'=W.drewN q:=by
 have q:((B n).toList == [104,101,97,100])=(n == nmHead):=by rw [toList_B];rfl
 obtain ⟨a,ha⟩:∃ a,B n=a:=⟨_,rfl⟩
 rw [ha] at q ⊢
 clear ha
 go_enter Tryz.func94,Tryz.ntmps94
 go_wp2_with fail
 go_ret
 exact ⟨by rw [← q];rfl,0,rfl⟩
def noHead (o:List (List UInt8)):List (List UInt8):=o.filter fun x => !(x == nmHead)
theorem index_nil (w:World):Calls Tryz.prog 129 #[.slice none 0 0,.func (.func 94) #[] #[]] w fun e w'=>e = .returned (.int .i64 (-1))∧w'=w:=AnyE.slices_IndexFunc_empty { dlL with } none 0 _ w
theorem del_nil (w:World):Calls Tryz.prog 93 #[.slice none 0 0,.func (.func 94) #[] #[]] w fun e w'=>e = .returned (.slice none 0 0)∧w'=w:=by
 have C:=Lib.hid (index_nil w)
 go_enter Tryz.func93,Tryz.ntmps93
 go_wp2_with fail
 refine C.out.mono ?_
 rintro e w1 ⟨rfl,rfl⟩
 go_wp2_with fail
 go_ret
 exact ⟨rfl,rfl⟩
theorem del_c (lo:Nat) (z:Value) (o:List (List UInt8)) (w:World) (h:w.ownsRow lo 9 1 z o.length (nmV o)) (hl:o.length≤1000000) (hB:lo≤w.heap.size) :
  Calls Tryz.prog 93 #[z,.func (.func 94) #[] #[]] w fun e w' => ∃ z',e = .returned z'∧w'.ownsRow lo 9 1 z' (noHead o).length (nmV (noHead o))∧w.grownBy w' z.ownBlock∧Below lo w w':=by
 rcases h.2 with ⟨rfl,h0⟩|⟨g,cap,cur,rfl,hb,hg,hnc,hcm,hcs,htake⟩
 ·obtain rfl:=List.eq_nil_of_length_eq_zero h0
  refine (del_nil w).mono ?_
  rintro e w' ⟨rfl,rfl⟩
  exact ⟨_,rfl,own_nil _ _ _ _,World.grownBy.refl _ _,Below.refl _ _⟩
 ·have hfl:(noHead o).length≤o.length:=List.length_filter_le _ _
  have hF:(o.toArray.toList.filter fun x => !(x == nmHead))=noHead o:=rfl
  have C:=AnyE.slices_DeleteFunc (P:=Tryz.prog) dlL enS enS_one (fun x=>x == nmHead) 94 #[] (enters_of Tryz.func94 zu13 rfl) [] Tryz.zeroValue9 g 0 cap o.toArray w
   (fun W x _=>isHead_c x W) (fun n os dk x _=>isHead_c x _) (own_holds h) zu25 zu25
  rw [hF] at C
  refine C.mono ?_
  rintro e w' ⟨rfl,q,rfl⟩
  obtain ⟨h1,h2⟩:=own_put h q (noHead o) hfl rfl
  have hsz:o.toArray.size=o.length:=by simp
  rw [hsz]
  exact ⟨_,rfl,h1,h2,(Below.refl lo w).grown h2 hB (own_base h)⟩
end Hand
end

section
namespace Hand
open Go Go.RowKit Pl Pb YtclkdmmgibgamaaGreatDoorW.PrintWords YtclkdmmgibgamaaGreatDoorW.PrintLast YtclkdmmgibgamaaGreatDoorW.PrintMore
theorem info_9:(Tryz.prog.info? 9).map (fun i=>(i.zero,i.size,i.bytes))=some (some (.string ByteArray.empty),1,16):=by kernel_rfl
theorem cell_up {W W':World} {a:Addr} {x:Value} (hb:Below W.heap.size W W') (h:W.cell? a=some x):W'.cell? a=some x:=(hb.cell (World.block_lt_of_cell? W _ h)).trans h
def tkAgg (k0:Int) (n0 x0:ByteArray) (A:Option Addr) (m c:Nat) (s0:Bool):Array Value := #[.int .i64 k0,.string n0,.string x0,.slice A m c,.bool s0]
theorem tkT9:(30:TypeId)≠5∧(30:TypeId)≠9∧(30:TypeId)≠82∧(30:TypeId)≠113:=by decide
theorem pk_cells {pb fb b:Nat} {cs:Array Value} {W W':World} (hk:Pk pb fb W W') (h:W.heap[b]? = some (.cells cs 30 (0,0))) (h1:b≠pb) (h2:b≠fb):W'.heap[b]? = some (.cells cs 30 (0,0)) :=
 hk b _ h h1 h2 (fun c fz e=>by injection e with _ e2 _;exact tkT9.1 e2) (fun c fz e=>by injection e with _ e2 _;exact tkT9.2.1 e2)
theorem PgAt.drew {lo pb fb:Nat} {z:Value} {g:Pg} {W:World} (h:PgAt lo pb fb z g W):PgAt lo pb fb z g W.drew:=h.call (below_drew (Below.refl _ _))
theorem PgAt.dele {lo pb fb:Nat} {z z':Value} {fl:Fl} {o o':List (List UInt8)} {kept:Nat} {W V:World} (h:PgAt lo pb fb z ⟨fl,o,kept⟩ W) (ho:V.ownsRow lo 9 1 z' o'.length (nmV o')) (hg:W.grownBy V z.ownBlock):PgAt lo pb fb z' ⟨fl,o',kept⟩ (V.setCell ⟨pb,1,none⟩ z'):=by
 have hblk:=blk_grown h.blk hg (fun e=>h.nz e.symm)
 have hf:IsFl lo fb fl V:=by
  obtain ⟨p,v,y,hp,hf⟩:=h.fl
  refine ⟨p,v,y,hp,⟨hf.le,blk_grown hf.blk hg (fun e=>Lib.ownBlock_ne h.op hf.blk pgT.2.2.2 e.symm),own_other hf.told hg (own_type_ne hf.told h.op zu15),own_other hf.bl hg (own_type_ne hf.bl h.op zu15),hf.ne⟩⟩
 have hpf:fb≠pb:=Ne.symm h.ne
 have h5:∀ c fz,V.heap[pb]? ≠ some (.cells c 5 fz):=fun c fz e=>by
  rw [hblk] at e
  injection e with e
  injection e with _ e2 _
  exact pgT.1 e2
 exact ⟨h.le,blk_put hblk 1 _ rfl,hf.set hpf h5 1 _,own_lay ho (Lib.ownBlock_ne ho hblk pgT.2.1) 1 _⟩
theorem pgStart_c (lo pb fb:Nat) (g:Pg) (n:List UInt8) (k0:Int) (x0:ByteArray) (A:Option Addr) (m c:Nat) (s0:Bool) (w:World) (h:IsPg lo pb fb g w) (hz:flZ g.fl≤100000) (hk:g.kept≤1000000) (hol:g.op.length≤1000000) :
  Calls Tryz.prog 59 #[.pointer (some ⟨pb,0,none⟩),.agg (tkAgg k0 (B n) x0 A m c s0)] w (PgTo lo pb fb (pgStart g n) w):=by
 obtain ⟨z,h⟩:=h
 obtain ⟨fl,o,kept⟩:=g
 have hle:=h.le
 have hlt:=h.lt
 have hfl:fb<w.heap.size:=h.fl.lt
 have HI:=Lib.hid (fun W=>hides_c n W)
 have KP:=Lib.hid (fun W=>keeps_c n W)
 have LN:Hid (∀ (V:World) {z':Value} {o':List (List UInt8)},PgAt lo pb fb z' ⟨fl,o',kept⟩ V→Below lo w V→Pk pb fb w V→Calls Tryz.prog 96 #[.pointer (some ⟨pb,0,none⟩),.string (B n)] V fun e V'=>e = .returned (.tuple #[])∧(∃ z2,PgAt lo pb fb z2 ⟨pgLines fl n,o',kept⟩ V')∧Below lo w V'∧Pk pb fb w V'∧Pk pb fb V V'):=Lib.hid (fun V z' o' hV hb hp=>by
  refine (pgLines_c lo pb fb ⟨fl,o',kept⟩ n V ⟨z',hV⟩ hz).mono ?_
  rintro e V' ⟨he,h1,h2,h3⟩
  exact ⟨he,h1,hb.trans h2,hp.trans h3,h3⟩)
 have h00:=h.call (below_alloc (Below.refl _ _) (.cells (tkAgg k0 (B n) x0 A m c s0) 30))
 have hB00:Below lo w (w.alloc (.cells (tkAgg k0 (B n) x0 A m c s0) 30)):=(below_alloc (Below.refl _ _) _).mono h.base
 have hK00:Pk pb fb w (w.alloc (.cells (tkAgg k0 (B n) x0 A m c s0) 30)):=Pk.of_below (below_alloc (Below.refl _ _) _)
 have T00:(w.alloc (.cells (tkAgg k0 (B n) x0 A m c s0) 30)).heap[w.heap.size]? = some (.cells (tkAgg k0 (B n) x0 A m c s0) 30 (0,0)):=heap_alloc_new _ _
 unfold tkAgg at h00 hB00 hK00 T00 ⊢
 unfold pgStart
 dsimp only at hz hk hol ⊢
 have hzA:∃ A' c',z = .slice A' o.length c':=own_slice h.op
 by_cases hb:n=nmBody
 ·have hhid:hidesB n=false:=by rw [hb];decide
  have hkp:keepsB n=false:=by rw [hb];decide
  have q:((B n).toList == [98,111,100,121])=true:=by rw [toList_B,hb];rfl
  rw [if_pos hb,hhid,hkp]
  rw [hhid] at HI
  rw [hkp] at KP
  rw [show List.filter (fun x => !x == nmHead) o=noHead o from rfl]
  obtain ⟨n0,hn0⟩:∃ a,B n=a:=⟨_,rfl⟩
  rw [hn0] at HI KP LN h00 hB00 hK00 T00 q ⊢
  by_cases hoe:noHead o=[]
  ·rw [if_pos hoe]
   have qo:decide (0<(noHead o).length)=false:=by rw [hoe];rfl
   clear hn0 hhid hkp hoe hb
   have DL:=Lib.hid (del_c lo z o _ h00.op hol h00.base)
   have H00:=Lib.hid h00
   have HB00:=Lib.hid hB00
   have HK00:=Lib.hid hK00
   have p1:=h00.c1
   clear h00 hB00 hK00
   go_enter Tryz.func59,Tryz.ntmps59
   go_wp2_with fail
   refine DL.out.mono ?_
   rintro e V ⟨z',rfl,hoo,hgr,hbl⟩
   have hV:PgAt lo pb fb z ⟨fl,o,kept⟩ V∨True:=.inr trivial
   have hblk:=blk_grown H00.out.blk hgr (fun e=>H00.out.nz e.symm)
   have c1:V.cell? ⟨pb,1,none⟩=some z:=(blk_cell hblk 1).trans rfl
   have f1:=blk_frozen hblk 1
   have h0:=H00.out.dele hoo hgr
   have hB0:=(HB00.out.trans hbl).setCell (p:=⟨pb,1,none⟩) hle z'
   have hK0:=(HK00.out.trans (Pk.grown hgr H00.out.op)).trans (Pk.set (pb:=pb) (fb:=fb) (w:=V) (k:=1) (x:=z'))
   have T0:=pk_cells ((Pk.grown (pb:=pb) (fb:=fb) hgr H00.out.op).trans (Pk.set (pb:=pb) (fb:=fb) (w:=V) (k:=1) (x:=z'))) T00 zu4 zu4
   obtain ⟨A',c',hz'⟩:=own_slice hoo
   have t0:(V.setCell ⟨pb,1,none⟩ z').cell? ⟨w.heap.size,1,none⟩=some (.string n0):=(blk_cell T0 1).trans rfl
   clear DL hoo hgr hbl hV hblk
   subst hz'
   go_wp2_with fail
   refine (HI.out _).mono ?_
   rintro e V1 ⟨rfl,hb1⟩
   have h1:=h0.call hb1
   have hB1:=hB0.trans (hb1.mono h0.base)
   have hK1:=hK0.trans (Pk.of_below (pb:=pb) (fb:=fb) hb1)
   have T1:=blk_below T0 hb1
   have t1:V1.cell? ⟨w.heap.size,1,none⟩=some (.string n0):=(blk_cell T1 1).trans rfl
   clear h0 hB0 hK0 T0 hb1
   have l1:=h1.c1
   go_wp2_with fail
   refine (LN.out V1 h1 hB1 hK1).mono ?_
   rintro e V2 ⟨rfl,⟨z2,h2⟩,hB2,hK2,hT2⟩
   have T2:=pk_cells hT2 T1 zu4 zu4
   have t2:=(blk_cell T2 1).trans rfl
   go_wp2_with fail
   refine (KP.out _).mono ?_
   rintro e V3 ⟨rfl,hb3⟩
   have h3:=h2.call hb3
   have hB3:=hB2.trans (hb3.mono h2.base)
   have hK3:=hK2.trans (Pk.of_below (pb:=pb) (fb:=fb) hb3)
   have p2:=h3.c2
   have p2f:=h3.fz 2
   go_wp2_with fail
   go_end0
   exact ⟨rfl,⟨_,h3⟩,hB3,hK3⟩
  ·rw [if_neg hoe]
   have qo:decide (0<(noHead o).length)=true:=decide_eq_true (List.length_pos_iff.2 hoe)
   clear hn0 hhid hkp hoe hb
   have DL:=Lib.hid (del_c lo z o _ h00.op hol h00.base)
   have H00:=Lib.hid h00
   have HB00:=Lib.hid hB00
   have HK00:=Lib.hid hK00
   have p1:=h00.c1
   clear h00 hB00 hK00
   go_enter Tryz.func59,Tryz.ntmps59
   go_wp2_with fail
   refine DL.out.mono ?_
   rintro e V ⟨z',rfl,hoo,hgr,hbl⟩
   have hV:PgAt lo pb fb z ⟨fl,o,kept⟩ V∨True:=.inr trivial
   have hblk:=blk_grown H00.out.blk hgr (fun e=>H00.out.nz e.symm)
   have c1:V.cell? ⟨pb,1,none⟩=some z:=(blk_cell hblk 1).trans rfl
   have f1:=blk_frozen hblk 1
   have h0:=H00.out.dele hoo hgr
   have hB0:=(HB00.out.trans hbl).setCell (p:=⟨pb,1,none⟩) hle z'
   have hK0:=(HK00.out.trans (Pk.grown hgr H00.out.op)).trans (Pk.set (pb:=pb) (fb:=fb) (w:=V) (k:=1) (x:=z'))
   have T0:=pk_cells ((Pk.grown (pb:=pb) (fb:=fb) hgr H00.out.op).trans (Pk.set (pb:=pb) (fb:=fb) (w:=V) (k:=1) (x:=z'))) T00 zu4 zu4
   obtain ⟨A',c',hz'⟩:=own_slice hoo
   have t0:(V.setCell ⟨pb,1,none⟩ z').cell? ⟨w.heap.size,1,none⟩=some (.string n0):=(blk_cell T0 1).trans rfl
   clear DL hoo hgr hbl hV hblk
   subst hz'
   go_wp2_with fail
   refine (HI.out _).mono ?_
   rintro e V1 ⟨rfl,hb1⟩
   have h1:=h0.call hb1
   have hB1:=hB0.trans (hb1.mono h0.base)
   have hK1:=hK0.trans (Pk.of_below (pb:=pb) (fb:=fb) hb1)
   have T1:=blk_below T0 hb1
   have t1:V1.cell? ⟨w.heap.size,1,none⟩=some (.string n0):=(blk_cell T1 1).trans rfl
   clear h0 hB0 hK0 T0 hb1
   have l1:=h1.c1
   go_wp2_with fail
   go_end0
   exact ⟨rfl,⟨_,h1⟩,hB1,hK1⟩
 ·have q:((B n).toList == [98,111,100,121])=false:=by rw [toList_B,beq_eq_false_iff_ne];exact hb
  rw [if_neg hb]
  obtain ⟨A',c',rfl⟩:=hzA
  obtain ⟨n0,hn0⟩:∃ a,B n=a:=⟨_,rfl⟩
  have h0:=h00
  have hB0:=hB00
  have hK0:=hK00
  have T0:=T00
  rw [hn0] at HI KP LN h0 hB0 hK0 T0 q ⊢
  clear h00 hB00 hK00 T00
  cases hhid:hidesB n with
  | true =>
    rw [hhid] at HI
    have hfin:nmV (o++[n])=nmV o++[.string n0]:=by rw [← hn0];simp [nmV]
    clear hn0 h
    go_enter Tryz.func59,Tryz.ntmps59
    go_wp2_with fail
    refine (HI.out _).mono ?_
    rintro e V1 ⟨rfl,hb1⟩
    have h1:=h0.call hb1
    have hB1:=hB0.trans (hb1.mono h0.base)
    have hK1:=hK0.trans (Pk.of_below (pb:=pb) (fb:=fb) hb1)
    have T1:=blk_below T0 hb1
    have t1:V1.cell? ⟨w.heap.size,1,none⟩=some (.string n0):=(blk_cell T1 1).trans rfl
    clear h0 hB0 hK0 T0 hb1
    obtain ⟨i0,hi,hzz⟩:=Option.map_eq_some_iff.1 info_9
    simp only [Prod.mk.injEq] at hzz
    obtain ⟨hz0,hz1,hz2⟩:=hzz
    have l1:=h1.c1
    have f1:=h1.fz 1
    have H1:=Lib.hid h1
    have HB1:=Lib.hid hB1
    have HK1:=Lib.hid hK1
    have HI0:=Lib.hid hi
    have HZ0:=Lib.hid hz0
    have HZ1:=Lib.hid hz1
    have HZ2:=Lib.hid hz2
    have ltp:pb<V1.heap.size:=H1.out.lt
    have ltt:w.heap.size<V1.heap.size:=World.block_lt_of_cell? _ _ t1
    clear h1 hB1 hK1 hi hz0 hz1 hz2
    go_wp2_with fail
    go_region_law (refine step_append_lies _ rfl (.tmp 23) (.tmp 26) 42 rfl lo 9 i0 (.string ByteArray.empty) 1 16 Tryz.underlying42 HI0.out HZ0.out HZ1.out HZ2.out rfl zu15 (.slice A' o.length c') o.length (nmV o) (by simp [Act.eval,Act.put]) ((H1.out.op.alloc _)) ⟨V1.heap.size,0,none⟩ 1 1 [.string n0] (by simp [Act.eval,Act.put]) rfl (World.news_of_block (cs := #[.string n0]) (t:=9) (fr:=(0,0)) (heap_alloc_new _ _)) zu70 zu15 zu73 zu4 zu25 _ rfl ?_;intro gg cap V2 ho2 hg2 hl2 hs2;have hA:=(H1.out.call (below_alloc (Below.refl _ _) (.cells #[.string n0] 9))).drew;have hb2:=blk_grown hA.blk hg2 (fun e=>hA.nz e.symm);have d1:V2.cell? ⟨pb,1,none⟩=some (.slice A' o.length c'):=(blk_cell hb2 1).trans rfl;have g1:=blk_frozen hb2 1;clear hb2)
    all_goals
     have ho3:V2.ownsRow lo 9 1 (.slice (some ⟨gg,0,none⟩) (o.length+1) cap) (o++[n]).length (nmV (o++[n])):=by rw [hfin,List.length_append];exact ho2
     have HF:=Lib.hid (hA.dele ho3 hg2)
     have HBF:=Lib.hid (((below_drew (HB1.out.alloc H1.out.base (.cells #[.string n0] 9))).grown hg2 hA.base (own_base hA.op)).setCell (p:=⟨pb,1,none⟩) hle (.slice (some ⟨gg,0,none⟩) (o.length+1) cap))
     have HKF:=Lib.hid ((((HK1.out.trans (Pk.of_below (below_alloc (Below.refl _ _) (.cells #[.string n0] 9)))).trans (Pk.of_below (below_drew (Below.refl _ _)))).trans (Pk.grown (pb:=pb) (fb:=fb) hg2 hA.op)).trans (Pk.set (pb:=pb) (fb:=fb) (w:=V2) (k:=1) (x:=.slice (some ⟨gg,0,none⟩) (o.length+1) cap)))
     clear ho2 ho3 hg2 hA hl2
     go_wp2_with fail
     go_end0
     exact ⟨rfl,⟨_,HF.out⟩,HBF.out,HKF.out⟩
  | false =>
    rw [hhid] at HI
    by_cases hoe:o=[]
    ·rw [if_pos hoe]
     have qo:decide (0<o.length)=false:=by rw [hoe];rfl
     cases hkp:keepsB n with
     | true =>
       rw [hkp] at KP
       clear hn0 h hoe
       go_enter Tryz.func59,Tryz.ntmps59
       go_wp2_with fail
       refine (HI.out _).mono ?_
       rintro e V1 ⟨rfl,hb1⟩
       have h1:=h0.call hb1
       have hB1:=hB0.trans (hb1.mono h0.base)
       have hK1:=hK0.trans (Pk.of_below (pb:=pb) (fb:=fb) hb1)
       have T1:=blk_below T0 hb1
       have t1:V1.cell? ⟨w.heap.size,1,none⟩=some (.string n0):=(blk_cell T1 1).trans rfl
       clear h0 hB0 hK0 T0 hb1
       have l1:=h1.c1
       go_wp2_with fail
       refine (LN.out V1 h1 hB1 hK1).mono ?_
       rintro e V2 ⟨rfl,⟨z2,h2⟩,hB2,hK2,hT2⟩
       have T2:=pk_cells hT2 T1 zu4 zu4
       have t2:=(blk_cell T2 1).trans rfl
       go_wp2_with fail
       refine (KP.out _).mono ?_
       rintro e V3 ⟨rfl,hb3⟩
       have h3:=h2.call hb3
       have hB3:=hB2.trans (hb3.mono h2.base)
       have hK3:=hK2.trans (Pk.of_below (pb:=pb) (fb:=fb) hb3)
       have p2:=h3.c2
       have p2f:=h3.fz 2
       have H3:=Lib.hid h3
       have HB3:=Lib.hid hB3
       have HK3:=Lib.hid hK3
       clear h1 h2 h3 hB1 hB2 hB3 hK1 hK2 hK3 hb3 hT2 T1 T2
       go_wp2_with fail
       go_end0
       exact ⟨rfl,⟨_,PgAt.setk (X:=(kept:Int)+1) (n:=kept+1) H3.out zu4⟩,HB3.out.setCell (p:=⟨pb,2,none⟩) hle _,HK3.out.trans Pk.set⟩
     | false =>
       rw [hkp] at KP
       clear hn0 h hoe
       go_enter Tryz.func59,Tryz.ntmps59
       go_wp2_with fail
       refine (HI.out _).mono ?_
       rintro e V1 ⟨rfl,hb1⟩
       have h1:=h0.call hb1
       have hB1:=hB0.trans (hb1.mono h0.base)
       have hK1:=hK0.trans (Pk.of_below (pb:=pb) (fb:=fb) hb1)
       have T1:=blk_below T0 hb1
       have t1:V1.cell? ⟨w.heap.size,1,none⟩=some (.string n0):=(blk_cell T1 1).trans rfl
       clear h0 hB0 hK0 T0 hb1
       have l1:=h1.c1
       go_wp2_with fail
       refine (LN.out V1 h1 hB1 hK1).mono ?_
       rintro e V2 ⟨rfl,⟨z2,h2⟩,hB2,hK2,hT2⟩
       have T2:=pk_cells hT2 T1 zu4 zu4
       have t2:=(blk_cell T2 1).trans rfl
       go_wp2_with fail
       refine (KP.out _).mono ?_
       rintro e V3 ⟨rfl,hb3⟩
       have h3:=h2.call hb3
       have hB3:=hB2.trans (hb3.mono h2.base)
       have hK3:=hK2.trans (Pk.of_below (pb:=pb) (fb:=fb) hb3)
       have p2:=h3.c2
       have p2f:=h3.fz 2
       go_wp2_with fail
       go_end0
       exact ⟨rfl,⟨_,h3⟩,hB3,hK3⟩
    ·rw [if_neg hoe]
     have qo:decide (0<o.length)=true:=decide_eq_true (List.length_pos_iff.2 hoe)
     clear hn0 h hoe
     go_enter Tryz.func59,Tryz.ntmps59
     go_wp2_with fail
     refine (HI.out _).mono ?_
     rintro e V1 ⟨rfl,hb1⟩
     have h1:=h0.call hb1
     have hB1:=hB0.trans (hb1.mono h0.base)
     have hK1:=hK0.trans (Pk.of_below (pb:=pb) (fb:=fb) hb1)
     have T1:=blk_below T0 hb1
     have t1:V1.cell? ⟨w.heap.size,1,none⟩=some (.string n0):=(blk_cell T1 1).trans rfl
     clear h0 hB0 hK0 T0 hb1
     have l1:=h1.c1
     go_wp2_with fail
     go_end0
     exact ⟨rfl,⟨_,h1⟩,hB1,hK1⟩
end Hand
end

section
namespace Hand
open Go Go.RowKit Pl Pb YtclkdmmgibgamaaGreatDoorW.PrintWords YtclkdmmgibgamaaGreatDoorW.PrintLast YtclkdmmgibgamaaGreatDoorW.PrintMore
theorem pgText_c (lo pb fb pc:Nat) (g:Pg) (s:List UInt8) (k0:Int) (n0:ByteArray) (A0:Option Addr) (m0 c0:Nat) (s0:Bool) (w:World) (h:IsPg lo pb fb g w) (hpcb:w.heap[pc]? = some (.cells #[.pointer (some ⟨pb,0,none⟩)] 78 (0,0))) (hz:flZ g.fl+s.length≤100000) (hol:g.op.length≤1000000) :
  Calls Tryz.prog 61 #[.agg (tkAgg k0 n0 (B s) A0 m0 c0 s0),.pointer (some ⟨pc,0,none⟩)] w (PgTo lo pb fb (pgText g s) w):=by
 obtain ⟨z,h⟩:=h
 obtain ⟨fl,o,kept⟩:=g
 have hlt:=h.lt
 have hpc:w.cell? ⟨pc,0,none⟩=some (.pointer (some ⟨pb,0,none⟩)):=(blk_cell hpcb 0).trans rfl
 have hpl:=blk_lt hpcb
 have hfl:=h.fl.lt
 have hp1:pc≠pb:=blk_ne hpcb h.blk zu15
 have hp2:pc≠fb:=by obtain ⟨cs,hf⟩:=h.flb;exact blk_ne hpcb hf zu15
 obtain ⟨A,c,rfl⟩:=own_slice h.op
 dsimp only at hz hol
 obtain ⟨W0,hW0⟩:∃ W0,w.alloc (.cells (tkAgg k0 n0 (B s) A0 m0 c0 s0) 30)=W0:=⟨_,rfl⟩
 have hB0:Below w.heap.size w W0:=by rw [← hW0];exact below_alloc (Below.refl _ _) _
 have h0:=h.call hB0
 have kp:=cell_up hB0 hpc
 have Tt:W0.heap[w.heap.size]? = some (.cells (tkAgg k0 n0 (B s) A0 m0 c0 s0) 30 (0,0)):=by rw [← hW0];exact heap_alloc_new _ _
 have hE0:Below lo w W0∧Pk pb fb w W0:=⟨hB0.mono h.base,Pk.of_below hB0⟩
 by_cases hoe:o=[]
 ·have hr:pgText ⟨fl,o,kept⟩ s=⟨flPut (decide (0<kept)) fl s,o,kept⟩:=by unfold pgText;rw [if_pos hoe]
  rw [hr]
  have q:((o.length:Int) == 0)=true:=by rw [hoe];rfl
  have PT:Hid (∀ W,Below W0.heap.size W0 W→Calls Tryz.prog 62 #[.pointer (some ⟨fb,0,none⟩),.string (B s),.bool (decide (0<kept))] W fun e w'=>e = .returned (.tuple #[])∧(IsPg lo pb fb ⟨flPut (decide (0<kept)) fl s,o,kept⟩ w'∧Below lo w w'∧Pk pb fb w w') ∧
    (w'.cell? ⟨pc,0,none⟩=some (.pointer (some ⟨pb,0,none⟩))∧w'.cell? ⟨pb,0,none⟩=some (.pointer (some ⟨fb,0,none⟩))∧w'.cell? ⟨pb,2,none⟩=some (.int .i64 (kept:Int))∧w'.cell? ⟨w.heap.size,2,none⟩=some (.string (B s)))):=Lib.hid (fun W hb=>by
   have h1:=h0.call hb
   refine (put_c lo fb (decide (0<kept)) s fl W h1.fl hz).mono ?_
   rintro e w' ⟨he,hI,hB,hK⟩
   have h2:=h1.flow hI hK
   have hk2:Pk pb fb W w':=Pk.of_fk hK
   refine ⟨he,⟨⟨_,h2⟩,(hE0.1.trans (hb.mono h0.base)).trans hB,(hE0.2.trans (Pk.of_below hb)).trans hk2⟩,?_,h2.c0,h2.c2,(blk_cell (pk_cells hk2 (blk_below Tt hb) zu4 zu4) 2).trans rfl⟩
   exact (blk_cell (hk2 pc _ (blk_below (blk_below hpcb hB0) hb) hp1 hp2 (fun c fz e=>by injection e with _ e2 _;exact absurd e2 zu15) (fun c fz e=>by injection e with _ e2 _;exact absurd e2 zu15)) 0).trans rfl)
  obtain ⟨sb,hsb⟩:∃ b,B s=b:=⟨_,rfl⟩
  rw [hsb] at PT Tt hW0 ⊢
  have c0':=h0.c0
  have c1':=h0.c1
  have c2':=h0.c2
  have t2:W0.cell? ⟨w.heap.size,2,none⟩=some (.string sb):=(blk_cell Tt 2).trans rfl
  unfold tkAgg at hW0 ⊢
  obtain ⟨kb,hkb⟩:∃ b,decide (0<kept)=b:=⟨_,rfl⟩
  rw [hkb] at PT ⊢
  have hkb':decide ((0:Int)<(kept:Int))=kb:=by rw [← hkb];exact decide_eq_decide.2 zu4
  clear hr hoe Tt h0 h hE0 hpc hsb hz hpcb
  go_enter Tryz.func61,Tryz.ntmps61
  go_wp2_with fail
  go_region_held3 (fun W=>W.cell? ⟨pc,0,none⟩=some (.pointer (some ⟨pb,0,none⟩))∧W.cell? ⟨pb,0,none⟩=some (.pointer (some ⟨fb,0,none⟩))∧W.cell? ⟨pb,2,none⟩=some (.int .i64 (kept:Int))∧W.cell? ⟨w.heap.size,2,none⟩=some (.string sb)) (first|with_reducible assumption|exact ⟨kp,c0',c2',t2⟩|exact hS2) ((go_at_call 62;refine (PT.out _ zu55).mono ?_;rintro e w2 ⟨rfl,hF2,hS2⟩))
  go_wp2_with fail
  go_end0
  exact ⟨rfl,hF2⟩
 ·have hr:pgText ⟨fl,o,kept⟩ s=⟨fl,o,kept⟩:=by unfold pgText;rw [if_neg hoe]
  rw [hr]
  have q:((o.length:Int) == 0)=false:=by rw [beq_eq_false_iff_ne];have:o.length≠0:=fun e=>hoe (List.eq_nil_of_length_eq_zero e);omega
  have c1':=h0.c1
  unfold tkAgg at hW0 ⊢
  clear hr hoe Tt hpc hz hpcb
  go_enter Tryz.func61,Tryz.ntmps61
  go_wp2_with fail
  go_end0
  exact ⟨rfl,⟨_,h0⟩,hE0.1,hE0.2⟩
end Hand
end

section
namespace Hand
open Go.RowKit
def Exit.jumps (J:Nat→Act→World→Prop) (Q:Exit→Act→World→Prop):Exit→Act→World→Prop
 | .goto l,a,w=>J l a w
 | e,a,w=>Q e a w
section
variable {P : Program} {a : Act} {w : World} {Q : Exit → Act → World → Prop}
@[go_sem] theorem Exit.jumps_ret {J:Nat→Act→World→Prop}:Exit.jumps J Q .ret a w=Q .ret a w:=rfl
@[go_sem] theorem Exit.jumps_normal {J:Nat→Act→World→Prop}:Exit.jumps J Q .normal a w=Q .normal a w:=rfl
@[go_sem] theorem Exit.jumps_exit {J:Nat→Act→World→Prop} (id:Nat):Exit.jumps J Q (.exit id) a w=Q (.exit id) a w:=rfl
@[go_sem] theorem Exit.jumps_panic {J:Nat→Act→World→Prop} (ch:List PanicEntry):Exit.jumps J Q (.panic ch) a w=Q (.panic ch) a w:=rfl
theorem Exit_jumps_mono {J J':Nat→Act→World→Prop} (h:∀ l a w,J l a w→J' l a w):∀ e a w,Exit.jumps J Q e a w→Exit.jumps J' Q e a w:=by
 intro e a w hq
 cases e with
 | goto l'=>exact h _ _ _ hq
 | _=>exact hq
theorem wp_scope_gen {c:Code} (J:Nat→Nat→Act→World→Prop)
  (pass:∀ l g a w,J l g a w→∃ rest,findLabel c l=some rest∧rest.wp P (Exit.jumps (fun l' a' w' => ∃ g',g'<g∧J l' g' a' w') Q) a w)
  (first:c.wp P (Exit.jumps (fun l a w => ∃ g,J l g a w) Q) a w):(Code.scope c).wp P Q a w:=by
 intro b k cs
 have key:∀ g l a w,J l g a w→∃ rest,findLabel c l=some rest∧∃ e a' w',Q e a' w'∧Arrives P (lone (b.at a (.code rest :: .inScope c::k)) cs w) b k cs e a' w':=by
  intro g
  induction g using Nat.strongRecOn with
  | _ g ih =>
    intro l a w hJ
    obtain ⟨rest,hf,hp⟩:=pass l g a w hJ
    refine ⟨rest,hf,?_⟩
    obtain ⟨e,a₁,w₁,hq,harr⟩:=hp b (.inScope c::k) cs
    cases e with
    | normal=>exact ⟨.normal,a₁,w₁,hq,Steps.trans harr (.one step_inScope)⟩
    | exit id=>exact ⟨.exit id,a₁,w₁,hq,fun k' hk=>harr k' (by simp [exitTo,hk])⟩
    | goto l' =>
      obtain ⟨g',hlt,hJ'⟩:=hq
      obtain ⟨rest',hf',e₂,a₂,w₂,hq₂,harr₂⟩:=ih g' hlt l' a₁ w₁ hJ'
      have hg:gotoIn l' (.inScope c::k)=some (.code rest' :: .inScope c::k):=by simp [gotoIn,hf']
      exact ⟨e₂,a₂,w₂,hq₂,.of_steps (harr _ hg) harr₂⟩
    | ret=>exact ⟨_,a₁,w₁,hq,harr⟩
    | panic ch=>exact ⟨_,a₁,w₁,hq,harr⟩
    | outgrown=>exact ⟨_,a₁,w₁,hq,harr⟩
 obtain ⟨e,a₁,w₁,hq,harr⟩:=first b (.inScope c::k) cs
 cases e with
 | normal=>exact ⟨.normal,a₁,w₁,hq,.head step_scope (Steps.trans harr (.one step_inScope))⟩
 | exit id=>exact ⟨.exit id,a₁,w₁,hq,fun k' hk => .head step_scope (harr k' (by simp [exitTo,hk]))⟩
 | goto l' =>
   obtain ⟨g',hJ'⟩:=hq
   obtain ⟨rest',hf',e₂,a₂,w₂,hq₂,harr₂⟩:=key g' l' a₁ w₁ hJ'
   have hg:gotoIn l' (.inScope c::k)=some (.code rest' :: .inScope c::k):=by simp [gotoIn,hf']
   exact ⟨e₂,a₂,w₂,hq₂,.of_steps (.head step_scope (harr _ hg)) harr₂⟩
 | ret=>exact ⟨_,a₁,w₁,hq,.of_steps (.one step_scope) harr⟩
 | panic ch=>exact ⟨_,a₁,w₁,hq,.of_steps (.one step_scope) harr⟩
 | outgrown=>exact ⟨_,a₁,w₁,hq,.of_steps (.one step_scope) harr⟩
theorem wp_scope_back {c B:Code} (l:Nat) (J:Nat→Act→World→Prop) (hf:findLabel c l=some (.seq .skip B))
  (first:(∀ g a w,J g a w→B.wp P (Exit.jumps (fun l' a' w'=>l'=l∧∃ g',J g' a' w') Q) a w)→c.wp P (Exit.jumps (fun l' a' w'=>l'=l∧∃ g',J g' a' w') Q) a w)
  (pass:∀ g a w,J g a w→B.wp P (Exit.jumps (fun l' a' w'=>l'=l∧∃ g',g'<g∧J g' a' w') Q) a w):(Code.scope c).wp P Q a w:=by
 refine wp_scope_gen (fun l' g a w=>l'=l∧J g a w) ?_ ?_
 ·rintro l' g a w ⟨rfl,hJ⟩
  exact ⟨_,hf,wp_seq (wp_skip (wp_mono (pass g a w hJ) (Exit_jumps_mono fun l'' a' w' ⟨e,g',hg,h⟩=>⟨g',hg,e,h⟩)))⟩
 ·refine wp_mono (first fun g a w hJ=>wp_mono (pass g a w hJ) (Exit_jumps_mono fun l'' a' w' ⟨e,g',_,h⟩=>⟨e,g',h⟩)) (Exit_jumps_mono fun l'' a' w' ⟨e,g',h⟩=>⟨g',e,h⟩)
end
end Hand
end

section
namespace Hand
open Go.RowKit Pl Sa YtclkdmmgibgamaaGreatDoorW.PrintWords YtclkdmmgibgamaaGreatDoorW.PrintLast YtclkdmmgibgamaaGreatDoorW.PrintMore
attribute [local go_sem] max2_int min2_int max_two min_two max_three min_three max_four min_four
def script_Find.m (k:Nat) (L:Int→Int→Int→Option (Int×Int)) (s:ByteArray) (nx st ct:Int):Option (Int×Int) :=
 if 0≤nx then (if nx<(s.size:Int) then
  (if bt s nx=45 then L (wrap64 (nx+1)) st (wrap64 (ct+1))
  else if bt s nx=62∧2≤ct then L (wrap64 (nx+1)) 0 0
  else if st=1 then (script_word.f k s nx ⟨#[60]⟩).bind fun x=>if x>0 then L (wrap64 (nx+x)) 2 0 else L (wrap64 (nx+1)) 1 0
  else if st=2 then (script_word.f k s nx ⟨#[60,47]⟩).bind fun x=>if x>0 then L (wrap64 (nx+x)) 1 0 else L (wrap64 (nx+1)) 2 0
  else L (wrap64 (nx+1)) st 0) else none) else none
def script_Find.l:Nat→ByteArray→Int→Int→Int→Option (Int×Int)
 | 0,_,_,_,_=>none
 | k+1,s,nx,st,ct =>
   if nx=(s.size:Int) then some (nx,st)
   else if st=2 then script_Find.m k (script_Find.l k s) s nx st ct
   else (raw_Ends.f k s nx ⟨#[115,99,114,105,112,116]⟩).bind fun e =>
    if e=true then some (nx,st)
    else if st=0 then (sign_Begins.f s nx ⟨#[60,33,45,45]⟩).bind fun b=>if b=true then script_Find.l k s (wrap64 (nx+4)) 1 2 else script_Find.l k s (wrap64 (nx+1)) 0 ct
    else script_Find.m k (script_Find.l k s) s nx st ct
def script_Find.f (k:Nat) (a0:ByteArray) (a1:Int):Option (Int×Int):=script_Find.l k a0 (mn (mx a1 0) (a0.size:Int)) 0 0
def FindJ (s:ByteArray) (w:World) (r1 r2:Int) (g:Nat) (a':Act) (wr:World):Prop :=
 ∃ (nx st ct:Int) (u1 u2 u3 u7 u8 u9 u10 u11 u12 u13 u14 u15 u16 u17 u18 u19 u20 u21 u22 u23 u24 u25 u26 u27 u28 u29 u30 u31 u32 u33 u34 u35 u36 u37 u38 u39 u40 u41 u42 u43 u44 u45 u46 u47 u48 u49 u50 u51 u52 u53 u54 u55 u56 u57 u58 u59 u60 u61 u62 u63 u64 u65 u66 u67 u68 u69 u70 u71 u72 u73 u74 u75:Value),
   a'={ tmps := #[.string s,u1,u2,u3,.int .i64 nx,.int .i64 st,.int .i64 ct,u7,u8,u9,u10,u11,u12,u13,u14,u15,u16,u17,u18,u19,u20,u21,u22,u23,u24,u25,u26,u27,u28,u29,u30,u31,u32,u33,u34,u35,u36,u37,u38,u39,u40,u41,u42,u43,u44,u45,u46,u47,u48,u49,u50,u51,u52,u53,u54,u55,u56,u57,u58,u59,u60,u61,u62,u63,u64,u65,u66,u67,u68,u69,u70,u71,u72,u73,u74,u75],defers:=[] }∧Hid (script_Find.l g s nx st ct=some (r1,r2))∧Below w.heap.size w wr
theorem below_on {w W W1:World} (h:Below w.heap.size w W) (k:Below W.heap.size W W1):Below w.heap.size w W1:=h.trans (k.mono h.size)
theorem script_Find.calls (k:Nat) (a0:ByteArray) (a1:Int) (r1 r2:Int) (w:World) (h:script_Find.f k a0 a1=some (r1,r2)) :
  Calls Tryz.prog 116 #[.string a0,.int .i64 a1] w fun e w'=>e = .returned (.tuple #[.int .i64 r1,.int .i64 r2])∧Below w.heap.size w w':=by
 unfold script_Find.f at h
 obtain ⟨j1,hj1⟩:∃ j,mx a1 0=j:=⟨_,rfl⟩
 rw [hj1] at h
 obtain ⟨j2,hj2⟩:∃ j,mn j1 (a0.size:Int)=j:=⟨_,rfl⟩
 rw [hj2] at h
 have H0:=Lib.hid h
 clear h
 replace hj1:(if a1<0 then 0 else a1)=j1:=hj1
 replace hj2:(if (a0.size:Int)<j1 then (a0.size:Int) else j1)=j2:=hj2
 generalize hs:a0=s at *
 clear hs a0
 go_enter Tryz.func116,Tryz.ntmps116
 go_wp2
 refine wp_scope_back 0 (FindJ s w r1 r2) rfl ?_ ?_
 ·intro hB
  have HB:=Lib.hid hB
  clear hB
  go_wp2
  refine wp_label_k zu57 (HB.out k _ _ ?_)
  exact ⟨_,_,_,_,_,_,_,_,_,_,_,_,_,_,_,_,_,_,_,_,_,_,_,_,_,_,_,_,_,_,_,_,_,_,_,_,_,_,_,_,_,_,_,_,_,_,_,_,_,_,_,_,_,_,_,_,_,_,_,_,_,_,_,_,_,_,_,_,_,_,_,_,_,_,_,rfl,H0,Below.refl _ _⟩
 ·rintro g a' wr ⟨nx,st,ct,u1,u2,u3,u7,u8,u9,u10,u11,u12,u13,u14,u15,u16,u17,u18,u19,u20,u21,u22,u23,u24,u25,u26,u27,u28,u29,u30,u31,u32,u33,u34,u35,u36,u37,u38,u39,u40,u41,u42,u43,u44,u45,u46,u47,u48,u49,u50,u51,u52,u53,u54,u55,u56,u57,u58,u59,u60,u61,u62,u63,u64,u65,u66,u67,u68,u69,u70,u71,u72,u73,u74,u75,rfl,HJ,hb⟩
  clear H0 hj1 hj2
  cases g with
  | zero=>exact absurd HJ.out (by simp [script_Find.l])
  | succ g =>
    have H:=HJ.out
    clear HJ
    rw [script_Find.l] at H
    have HB:=Lib.hid hb
    clear hb
    by_cases c1:nx=(s.size:Int)
    ·rw [if_pos c1] at H
     have t1:(nx == (s.size:Int))=true:=beq_iff_eq.2 c1
     simp only [Option.some.injEq,Prod.mk.injEq] at H
     obtain ⟨rfl,rfl⟩:=H
     clear c1
     go_wp2
     simp only [Exit.jumps]
     go_ret2
     exact ⟨rfl,HB.out⟩
    rw [if_neg c1] at H
    have t1:(nx == (s.size:Int))=false:=beq_eq_false_iff_ne.2 c1
    clear c1
    by_cases c2:st=2
    ·subst c2
     rw [if_pos rfl] at H
     unfold script_Find.m at H
     have d0:0≤nx:=Decidable.byContradiction fun d0=>by rw [if_neg d0] at H;cases H
     have d1:nx<(s.size:Int):=Decidable.byContradiction fun d1=>by rw [if_pos d0,if_neg d1] at H;cases H
     rw [if_pos d0,if_pos d1] at H
     have hx:=bt_at s nx
     replace d0:=eq_true d0
     replace d1:=eq_true d1
     by_cases d2:bt s nx=45
     ·rw [if_pos d2] at H
      have d2b:(bt s nx == 45)=true:=beq_iff_eq.2 d2
      clear d2
      have H':=Lib.hid H;clear H;have H:=H';clear H'
      go_wp2
      go_step3
      exact zu16
     rw [if_neg d2] at H
     have d2b:(bt s nx == 45)=false:=beq_eq_false_iff_ne.2 d2
     clear d2
     by_cases d3:bt s nx=62∧2≤ct
     ·rw [if_pos d3] at H
      have d3b:(bt s nx == 62)=true:=beq_iff_eq.2 d3.1
      have d3c:decide (2≤ct)=true:=decide_eq_true d3.2
      clear d3
      have H':=Lib.hid H;clear H;have H:=H';clear H'
      go_wp2
      go_step3
      exact zu16
     rw [if_neg d3] at H
     have d4:(bt s nx == 62)=false∨((bt s nx == 62)=true∧decide (2≤ct)=false):=by
      by_cases e:bt s nx=62
      ·exact zu68
      ·exact .inl (beq_eq_false_iff_ne.2 e)
     clear d3
     rw [if_neg zu15,if_pos rfl] at H
     replace H:=Option.bind_eq_some_iff.1 H
     obtain ⟨x,AW0,H⟩:=H
     have AW:=Lib.hid AW0
     clear AW0
     by_cases d5:x>0
     ·rw [if_pos d5] at H
      have d5b:decide (0<x)=true:=decide_eq_true d5
      clear d5
      have H':=Lib.hid H;clear H;have H:=H';clear H'
      rcases d4 with d4|⟨d4,d4c⟩
      all_goals
       go_wp2_with (first | (go_at_call 155;(with_reducible refine (script_word.calls g s nx _ _ _ AW.out).mono ?_);rintro e' w1 ⟨rfl,b1⟩;have HC:=Lib.hid (below_on HB.out b1);clear b1 HB;have HB:=HC;clear HC))
       go_step3
       exact zu16
     ·rw [if_neg d5] at H
      have d5b:decide (0<x)=false:=decide_eq_false d5
      clear d5
      have H':=Lib.hid H;clear H;have H:=H';clear H'
      rcases d4 with d4|⟨d4,d4c⟩
      all_goals
       go_wp2_with (first | (go_at_call 155;(with_reducible refine (script_word.calls g s nx _ _ _ AW.out).mono ?_);rintro e' w1 ⟨rfl,b1⟩;have HC:=Lib.hid (below_on HB.out b1);clear b1 HB;have HB:=HC;clear HC))
       go_step3
       exact zu16
    ·rw [if_neg c2] at H
     replace H:=Option.bind_eq_some_iff.1 H
     obtain ⟨e,AE0,H⟩:=H
     have AE:=Lib.hid AE0
     clear AE0
     have t2:(st != 2)=true:=bne_iff_ne.2 c2
     by_cases c3:e=true
     ·subst c3
      rw [if_pos rfl] at H
      simp only [Option.some.injEq,Prod.mk.injEq] at H
      obtain ⟨rfl,rfl⟩:=H
      clear c2
      go_wp2_with (first | (go_at_call 154;(with_reducible refine (raw_Ends.calls g s nx _ _ _ AE.out).mono ?_);rintro e' w1 ⟨rfl,b1⟩;have HC:=Lib.hid (below_on HB.out b1);clear b1 HB;have HB:=HC;clear HC))
      simp only [Exit.jumps]
      go_ret2
      exact ⟨rfl,HB.out⟩
     rw [if_neg c3] at H
     obtain rfl:e=false:=by simpa using c3
     clear c3
     by_cases c4:st=0
     ·subst c4
      rw [if_pos rfl] at H
      clear c2
      replace H:=Option.bind_eq_some_iff.1 H
      obtain ⟨b,AB0,H⟩:=H
      have AB:=Lib.hid AB0
      clear AB0
      cases b with
      | true =>
        rw [if_pos rfl] at H
        have H':=Lib.hid H;clear H;have H:=H';clear H'
        go_wp2_with (first | (go_at_call 154;(with_reducible refine (raw_Ends.calls g s nx _ _ _ AE.out).mono ?_);rintro e' w1 ⟨rfl,b1⟩;have HC:=Lib.hid (below_on HB.out b1);clear b1 HB;have HB:=HC;clear HC) | (go_at_call 76;(with_reducible refine (sign_Begins.calls s nx _ _ _ AB.out).mono ?_);rintro e' w1 ⟨rfl,b1⟩;have HC:=Lib.hid (below_on HB.out b1);clear b1 HB;have HB:=HC;clear HC))
        go_step3
        exact zu16
      | false =>
        rw [if_neg zu19] at H
        have H':=Lib.hid H;clear H;have H:=H';clear H'
        go_wp2_with (first | (go_at_call 154;(with_reducible refine (raw_Ends.calls g s nx _ _ _ AE.out).mono ?_);rintro e' w1 ⟨rfl,b1⟩;have HC:=Lib.hid (below_on HB.out b1);clear b1 HB;have HB:=HC;clear HC) | (go_at_call 76;(with_reducible refine (sign_Begins.calls s nx _ _ _ AB.out).mono ?_);rintro e' w1 ⟨rfl,b1⟩;have HC:=Lib.hid (below_on HB.out b1);clear b1 HB;have HB:=HC;clear HC))
        go_step3
        exact zu16
     rw [if_neg c4] at H
     have t4:(st == 0)=false:=beq_eq_false_iff_ne.2 c4
     clear c4
     unfold script_Find.m at H
     have d0:0≤nx:=Decidable.byContradiction fun d0=>by rw [if_neg d0] at H;cases H
     have d1:nx<(s.size:Int):=Decidable.byContradiction fun d1=>by rw [if_pos d0,if_neg d1] at H;cases H
     rw [if_pos d0,if_pos d1] at H
     have hx:=bt_at s nx
     replace d0:=eq_true d0
     replace d1:=eq_true d1
     by_cases d2:bt s nx=45
     ·rw [if_pos d2] at H
      have d2b:(bt s nx == 45)=true:=beq_iff_eq.2 d2
      clear d2
      have H':=Lib.hid H;clear H;have H:=H';clear H'
      go_wp2_with (first | (go_at_call 154;(with_reducible refine (raw_Ends.calls g s nx _ _ _ AE.out).mono ?_);rintro e' w1 ⟨rfl,b1⟩;have HC:=Lib.hid (below_on HB.out b1);clear b1 HB;have HB:=HC;clear HC))
      go_step3
      exact zu16
     rw [if_neg d2] at H
     have d2b:(bt s nx == 45)=false:=beq_eq_false_iff_ne.2 d2
     clear d2
     by_cases d3:bt s nx=62∧2≤ct
     ·rw [if_pos d3] at H
      have d3b:(bt s nx == 62)=true:=beq_iff_eq.2 d3.1
      have d3c:decide (2≤ct)=true:=decide_eq_true d3.2
      clear d3
      have H':=Lib.hid H;clear H;have H:=H';clear H'
      go_wp2_with (first | (go_at_call 154;(with_reducible refine (raw_Ends.calls g s nx _ _ _ AE.out).mono ?_);rintro e' w1 ⟨rfl,b1⟩;have HC:=Lib.hid (below_on HB.out b1);clear b1 HB;have HB:=HC;clear HC))
      go_step3
      exact zu16
     rw [if_neg d3] at H
     have d4:(bt s nx == 62)=false∨((bt s nx == 62)=true∧decide (2≤ct)=false):=by
      by_cases e:bt s nx=62
      ·exact zu68
      ·exact .inl (beq_eq_false_iff_ne.2 e)
     clear d3
     by_cases d6:st=1
     ·subst d6
      rw [if_pos rfl] at H
      replace H:=Option.bind_eq_some_iff.1 H
      obtain ⟨x,AW0,H⟩:=H
      have AW:=Lib.hid AW0
      clear AW0
      by_cases d5:x>0
      ·rw [if_pos d5] at H
       have d5b:decide (0<x)=true:=decide_eq_true d5
       clear d5
       have H':=Lib.hid H;clear H;have H:=H';clear H'
       rcases d4 with d4|⟨d4,d4c⟩
       all_goals
        go_wp2_with (first | (go_at_call 154;(with_reducible refine (raw_Ends.calls g s nx _ _ _ AE.out).mono ?_);rintro e' w1 ⟨rfl,b1⟩;have HC:=Lib.hid (below_on HB.out b1);clear b1 HB;have HB:=HC;clear HC) | (go_at_call 155;(with_reducible refine (script_word.calls g s nx _ _ _ AW.out).mono ?_);rintro e' w1 ⟨rfl,b1⟩;have HC:=Lib.hid (below_on HB.out b1);clear b1 HB;have HB:=HC;clear HC))
        go_step3
        exact zu16
      ·rw [if_neg d5] at H
       have d5b:decide (0<x)=false:=decide_eq_false d5
       clear d5
       have H':=Lib.hid H;clear H;have H:=H';clear H'
       rcases d4 with d4|⟨d4,d4c⟩
       all_goals
        go_wp2_with (first | (go_at_call 154;(with_reducible refine (raw_Ends.calls g s nx _ _ _ AE.out).mono ?_);rintro e' w1 ⟨rfl,b1⟩;have HC:=Lib.hid (below_on HB.out b1);clear b1 HB;have HB:=HC;clear HC) | (go_at_call 155;(with_reducible refine (script_word.calls g s nx _ _ _ AW.out).mono ?_);rintro e' w1 ⟨rfl,b1⟩;have HC:=Lib.hid (below_on HB.out b1);clear b1 HB;have HB:=HC;clear HC))
        go_step3
        exact zu16
     ·rw [if_neg d6,if_neg c2] at H
      have d6b:(st == 1)=false:=beq_eq_false_iff_ne.2 d6
      have d6c:(st == 2)=false:=beq_eq_false_iff_ne.2 c2
      clear d6 c2
      have H':=Lib.hid H;clear H;have H:=H';clear H'
      rcases d4 with d4|⟨d4,d4c⟩
      all_goals
       go_wp2_with (first | (go_at_call 154;(with_reducible refine (raw_Ends.calls g s nx _ _ _ AE.out).mono ?_);rintro e' w1 ⟨rfl,b1⟩;have HC:=Lib.hid (below_on HB.out b1);clear b1 HB;have HB:=HC;clear HC))
       go_step3
       exact zu16
end Hand
end

section
namespace Si
open Go.RowKit K0 Hand Sa YtclkdmmgibgamaaGreatDoorW.PrintWords YtclkdmmgibgamaaGreatDoorW.PrintLast YtclkdmmgibgamaaGreatDoorW.PrintMore
attribute [local go_sem] max2_int min2_int max_two min_two max_three min_three max_four min_four  
set_option linter.unusedVariables false
set_option linter.unusedSimpArgs false
def text_inside.f (a0:ByteArray) (a1:Int):Option (Int):=some (mn (mx a1 0) (a0.size:Int))
theorem text_inside.calls (a0:ByteArray) (a1:Int) (r:Int) (w:World) (h:text_inside.f a0 a1=some r) :
  Calls Tryz.prog 114 #[.string a0,.int .i64 a1] w fun e w'=>e = .returned (.int .i64 r)∧Below w.heap.size w w':=by
 have HB:=Aside0.mk (Below.refl w.heap.size w)
 have H:(some (mn (mx a1 0) (a0.size:Int)))=some r:=h
 clear h
 obtain ⟨ji3,hji3⟩:∃ j_:Int,(mx a1 0)=j_:=⟨_,rfl⟩
 replace H:(some (mn (ji3) (a0.size:Int)))=some r:=by first | (rw [hji3] at H;exact H) | (simp only [hji3] at H ⊢;exact H)
 (try (have hji3l:0≤ji3:=by (rw [← hji3];unfold mx;(repeat' split)<;>omega)))
 (try (have hji3m:0≤ji3:=by omega))
 have hji3_:(if a1<0 then 0 else a1)=ji3:=hji3
 obtain ⟨ji4,hji4⟩:∃ j_:Int,(mn (ji3) (a0.size:Int))=j_:=⟨_,rfl⟩
 replace H:(some ji4)=some r:=by first | (rw [hji4] at H;exact H) | (simp only [hji4] at H ⊢;exact H)
 have hji4_:(if (a0.size:Int)<(ji3) then (a0.size:Int) else (ji3))=ji4:=hji4
 obtain rfl:=Option.some.inj H
 go_enter Tryz.func114,Tryz.ntmps114
 go_wp2
 go_ret
 exact zu29
def tok_inside.f (a0:ByteArray) (a1:Int):Option (Int):=some (mn (mx a1 0) (a0.size:Int))
theorem tok_inside.calls (a0:ByteArray) (a1:Int) (r:Int) (w:World) (h:tok_inside.f a0 a1=some r) :
  Calls Tryz.prog 69 #[.string a0,.int .i64 a1] w fun e w'=>e = .returned (.int .i64 r)∧Below w.heap.size w w':=by
 have HB:=Aside0.mk (Below.refl w.heap.size w)
 have H:(some (mn (mx a1 0) (a0.size:Int)))=some r:=h
 clear h
 obtain ⟨ji3,hji3⟩:∃ j_:Int,(mx a1 0)=j_:=⟨_,rfl⟩
 replace H:(some (mn (ji3) (a0.size:Int)))=some r:=by first | (rw [hji3] at H;exact H) | (simp only [hji3] at H ⊢;exact H)
 (try (have hji3l:0≤ji3:=by (rw [← hji3];unfold mx;(repeat' split)<;>omega)))
 (try (have hji3m:0≤ji3:=by omega))
 have hji3_:(if a1<0 then 0 else a1)=ji3:=hji3
 obtain ⟨ji4,hji4⟩:∃ j_:Int,(mn (ji3) (a0.size:Int))=j_:=⟨_,rfl⟩
 replace H:(some ji4)=some r:=by first | (rw [hji4] at H;exact H) | (simp only [hji4] at H ⊢;exact H)
 have hji4_:(if (a0.size:Int)<(ji3) then (a0.size:Int) else (ji3))=ji4:=hji4
 obtain rfl:=Option.some.inj H
 go_enter Tryz.func69,Tryz.ntmps69
 go_wp2
 go_ret
 exact zu29
def tag_place_letter.f (a0_0:ByteArray) (a0_1:Int) (a1:Int):Option (Bool):=if (wrap64 (a0_1+a1))<(a0_0.size:Int) then (if 0≤(wrap64 (a0_1+a1)) then ((sign_Letter.f (bt a0_0 (wrap64 (a0_1+a1)))).bind fun t102=>(some t102)) else (none)) else (some false)
theorem tag_place_letter.calls (a0_0:ByteArray) (a0_1:Int) (a1:Int) (r:Bool) (w:World) (h:tag_place_letter.f a0_0 a0_1 a1=some r) :
  Calls Tryz.prog 141 #[.agg #[.string a0_0,.int .i64 a0_1],.int .i64 a1] w fun e w'=>e = .returned (.bool r)∧Below w.heap.size w w':=by
 have hu123:=Tryz.underlying123
 have HB:=Aside0.mk (Below.refl w.heap.size w)
 have H:(if (wrap64 (a0_1+a1))<(a0_0.size:Int) then (if 0≤(wrap64 (a0_1+a1)) then ((sign_Letter.f (bt a0_0 (wrap64 (a0_1+a1)))).bind fun t102=>(some t102)) else (none)) else (some false))=some r:=h
 clear h
 by_cases c3:(wrap64 (a0_1+a1))<(a0_0.size:Int)
 ·rw [if_pos c3] at H
  have c3b0:decide ((wrap64 (a0_1+a1))<(a0_0.size:Int))=true:=decide_eq_true c3
  clear c3
  obtain ⟨ji4,hji4⟩:∃ j_:Int,(wrap64 (a0_1+a1))=j_:=⟨_,rfl⟩
  replace H:(if 0≤(ji4) then ((sign_Letter.f (bt a0_0 (ji4))).bind fun t102=>(some t102)) else (none))=some r:=by first | (rw [hji4] at H;exact H) | (simp only [hji4] at H ⊢;exact H)
  (try rw [hji4] at c3b0)
  have hji4w:(IntKind.i64.wrap (a0_1+a1))=ji4:=(i64_w _).trans hji4
  by_cases c5:0≤(ji4)
  ·rw [if_pos c5] at H
   have c5b0:decide (0≤(ji4))=true:=decide_eq_true c5
   clear c5
   replace H:=Option.bind_eq_some_iff.mp H
   obtain ⟨t102,A70,H⟩:=H
   replace H:(some t102)=some r:=H
   have A7:=Aside0.mk A70
   clear A70
   obtain rfl:=Option.some.inj H
   go_enter Tryz.func141,Tryz.ntmps141
   go_wp2_with (first | ((with_reducible refine gate_dst (N:=2) rfl ?_);refine box_event ?hg (N:=2) ?hd (cs := #[.string a0_0,.int .i64 a0_1]) (t:=123) ?hr ?_;(case hd=>rfl);(case hg=>rfl);(case hr=>first | (go_simp;done) | (go_simp;rfl));intro gb101 hg w8 hbox hb;have n0_:=Aside0.mk (below_step zu1 hb);have n1_:=Aside0.mk (hbox);have n2_:=Aside0.mk ((by rw [hg];exact (below_size zu1):w.heap.size≤gb101));have n3_:=Aside0.mk ((by rw [hg];exact (below_size zu1):w.heap.size≤gb101));clear HB;have HB:=n0_;have BK101:=n1_;have GW101:=n2_;have GE101:=n3_;clear n0_ n1_ n2_ n3_;clear hb hbox hg;have hcz9_0:w8.cell? ⟨gb101,0,none⟩=some (.string a0_0):=(blk_cell BK101.out 0).trans rfl;have hcz9_1:w8.cell? ⟨gb101,1,none⟩=some (.int .i64 a0_1):=(blk_cell BK101.out 1).trans rfl;have hfz9_0:=blk_frozen BK101.out 0;have hfz9_1:=blk_frozen BK101.out 1;have p6:0≤((ji4):Int):=of_decide_eq_true zu17;have q6:(ji4)<(a0_0.size:Int):=of_decide_eq_true zu17;have hx6:=bt_at a0_0 (ji4);replace p6:=eq_true p6;replace q6:=eq_true q6) | (go_at_call 108;(with_reducible refine (sign_Letter.calls (bt a0_0 (ji4)) t102 _ A7.out).mono ?_);rintro e w' ⟨rfl,⟨nd,rfl⟩⟩))
   go_ret
   exact ⟨by first|rfl | (simp [errW_none,errW_some]<;>rfl) | (simp only [← hji4];first|rfl | (simp [errW_none,errW_some]<;>rfl)) | (simp [*,errW_none,errW_some]<;>rfl),zu3⟩
  ·rw [if_neg c5] at H
   exact absurd H zu19
 ·rw [if_neg c3] at H
  have c3b0:decide ((wrap64 (a0_1+a1))<(a0_0.size:Int))=false:=decide_eq_false c3
  clear c3
  obtain rfl:=Option.some.inj H
  go_enter Tryz.func141,Tryz.ntmps141
  go_wp2_with (first | ((with_reducible refine gate_dst (N:=2) rfl ?_);refine box_event ?hg (N:=2) ?hd (cs := #[.string a0_0,.int .i64 a0_1]) (t:=123) ?hr ?_;(case hd=>rfl);(case hg=>rfl);(case hr=>first | (go_simp;done) | (go_simp;rfl));intro gb101 hg w10 hbox hb;have n0_:=Aside0.mk (below_step zu1 hb);have n1_:=Aside0.mk (hbox);have n2_:=Aside0.mk ((by rw [hg];exact (below_size zu1):w.heap.size≤gb101));have n3_:=Aside0.mk ((by rw [hg];exact (below_size zu1):w.heap.size≤gb101));clear HB;have HB:=n0_;have BK101:=n1_;have GW101:=n2_;have GE101:=n3_;clear n0_ n1_ n2_ n3_;clear hb hbox hg;have hcz11_0:w10.cell? ⟨gb101,0,none⟩=some (.string a0_0):=(blk_cell BK101.out 0).trans rfl;have hcz11_1:w10.cell? ⟨gb101,1,none⟩=some (.int .i64 a0_1):=(blk_cell BK101.out 1).trans rfl;have hfz11_0:=blk_frozen BK101.out 0;have hfz11_1:=blk_frozen BK101.out 1))
  go_ret
  exact ⟨zu7,zu3⟩
end Si
end

end Go.Proofs.YtclkdmmgibgamaaGreatDoor