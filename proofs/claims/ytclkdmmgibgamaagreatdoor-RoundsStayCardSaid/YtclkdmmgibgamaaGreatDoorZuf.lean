/-
  Texts that several claims of this seat share, merged by a program of this session (6).
-/
import Derived.RegionTactic
import Derived.ChangeAlike
import Derived.Deep.RegionHeld3
import Derived.RangeFuncNested
import Derived.RangeFuncBound
import Derived.RangeFuncCalls
import Derived.RangeFuncLeaves
import Derived.RangeFuncFrom
import Derived.Shelf.Abstract
import Derived.Shelf.RegionOpen
import Derived.OwnWalkIn
import Derived.TacticsInMore
import Derived.LoopNIn
import Derived.LoopIn
import Derived.BigRegionIn
import Derived.Laws.Runes
import Derived.BigQuiet
import Derived.Deep.QuietTactic
import Derived.Laws.ResultCell
import Derived.Laws.Rows
import Derived.Lib.Builder
import Derived.Lib.ConvBytes
import Derived.Laws.IdiomStrings
import Derived.Tactics
import Derived.Tactics2
import Derived.Defers
import Derived.Laws.Pointers
import Derived.Laws.LoneSync
import Derived.RegionCalls
import Derived.Laws.NewBlocks
import Derived.StillTailTactics
import Derived.IntWalk
import Derived.Test.YtclkdmmgibgamaaGreatDoorZue
set_option linter.unusedVariables false
set_option linter.unusedSimpArgs false
set_option maxRecDepth 100000
set_option maxHeartbeats 16000000
namespace Go.Proofs.YtclkdmmgibgamaaGreatDoor
section
namespace Pure
open Go Go.RowKit K0 Hand Sa Si St YtclkdmmgibgamaaGreatDoorW.PrintWords YtclkdmmgibgamaaGreatDoorW.PrintMore Pl Pb
theorem rd_map {l:List Tk} {i:Nat} (h:i<l.length):rd_T30 (l.map ofK) (i:Int)=ofK l[i]:=by
 unfold rd_T30
 rw [Int.toNat_natCast,List.getD_eq_getElem?_getD,List.getElem?_map,List.getElem?_eq_getElem h];rfl
end Pure
end

section
namespace Hand
open Go Go.RowKit Pl Pb Go.Proofs.YtclkdmmgibgamaaGreatDoor.Pure
theorem past_suf (c:UInt8) (l:List UInt8):past c l <:+ l:=List.drop_suffix _ _
theorem valA_suf {r v r':List UInt8} (h:valA r=some (v,r')):r' <:+ r:=by
 have h1:spL r <:+ r:=List.dropWhile_suffix _
 unfold valA at h
 split at h
 ·rename_i r2 he
  have h2:r2 <:+ r:=((List.suffix_cons 61 r2).trans (he ▸ h1))
  have h3:spL r2 <:+ r2:=List.dropWhile_suffix _
  split at h
  ·cases h;exact List.nil_suffix
  ·rename_i c r3 he2
   have h4:c::r3 <:+ r:=he2 ▸ h3.trans h2
   have h5:r3 <:+ r:=(List.suffix_cons c r3).trans h4
   split at h
   ·split at h
    ·cases h;exact (past_suf _ _).trans h5
    ·cases h
   ·split at h
    ·cases h;exact h4
    ·cases h;exact (List.dropWhile_suffix _).trans h5
 ·cases h;exact h1
theorem attrF_suf (f:Nat):∀ l s l' b r,attrF f l s=some (l',b,r)→r <:+ s:=by
 induction f with
 | zero=>intro l s l' b r h;cases h
 | succ f ih =>
   intro l s l' b r h
   have h1:spL s <:+ s:=List.dropWhile_suffix _
   simp only [attrF] at h
   split at h
   ·cases h
   ·rename_i c r0 he
    have h2:r0 <:+ s:=(List.suffix_cons c r0).trans (he ▸ h1)
    split at h
    ·cases h;exact h2
    ·split at h
     ·split at h
      ·exact (ih _ _ _ _ _ h).trans List.nil_suffix
      ·rename_i d r' _
       split at h
       ·cases h;exact (List.suffix_cons _ _).trans h2
       ·exact (ih _ _ _ _ _ h).trans h2
     ·split at h
      ·cases h
      ·rename_i v r' hv
       exact (ih _ _ _ _ _ h).trans ((valA_suf hv).trans ((List.dropWhile_suffix _).trans h2))
theorem tagL_suf (l:List UInt8):(tagL l).2 <:+ l:=by
 unfold tagL
 split
 ·exact List.nil_suffix
 ·rename_i al self r he
  exact (attrF_suf _ _ _ _ _ _ he).trans ((List.dropWhile_suffix _).trans (List.drop_suffix _ _))
theorem tagR_suf (l:List UInt8):(tagR l).2 <:+ l:=by
 unfold tagR
 split
 ·exact List.suffix_refl _
 ·exact tagL_suf l
theorem tokL_suf (l:List UInt8):(tokL l).2 <:+ l:=by
 unfold tokL
 split
 ·exact tagL_suf l
 ·split
  ·exact List.drop_suffix _ _
  ·split
   ·exact (past_suf _ _).trans (List.drop_suffix _ _)
   ·split
    ·exact List.drop_suffix _ _
    ·split
     ·exact List.suffix_refl _
     ·exact List.drop_suffix _ _
theorem restL_suf (st:Nat) (name l:List UInt8):(restL st name l).2 <:+ l:=by
 unfold restL
 split
 ·exact List.suffix_refl _
 ·split
  ·exact List.nil_suffix
  ·exact (tagR_suf _).trans (List.drop_suffix _ _)
theorem suf_drop {r s:List UInt8} (h:r <:+ s):s.drop (s.length - r.length)=r:=(List.suffix_iff_eq_drop.1 h).symm
def txB (t:Tk):Nat:=(tkC t).2.2.1.length
def nmB (t:Tk):Nat:=(tkC t).2.1.length
theorem clean_le (l:List UInt8):(cleanL l).length≤3*l.length:=by
 induction l with
 | nil=>exact Nat.le_refl _
 | cons c r ih =>
   rw [cleanL_cons,List.length_append,List.length_cons]
   have:(cleanB c).length≤3:=by unfold cleanB;split<;>simp
   omega
theorem upto_le (c:UInt8) (l:List UInt8):(upto c l).length≤l.length:=upto_length c l
theorem name_le (l:List UInt8):(nameL l).length≤3*l.length:=by
 unfold nameL
 have h1:=clean_le (lowL (l.takeWhile stC))
 have h2:=(List.takeWhile_prefix stC (l:=l)).length_le
 unfold lowL at h1
 rw [List.length_map] at h1
 unfold lowL
 omega
theorem tag_bd (l:List UInt8):∀ t∈(tagL l).1,txB t≤24*l.length∧nmB t≤3*l.length:=by
 have h1:=name_le (l.drop 1)
 have h2:=name_le (l.drop 2)
 rw [List.length_drop] at h1 h2
 unfold tagL
 split
 ·intro t h;cases h
 ·intro t h
  simp only [Option.mem_def,Option.some.injEq] at h
  subst h
  split
  ·exact ⟨Nat.zero_le _,by show (nameL (l.drop 2)).length≤_;omega⟩
  ·exact ⟨Nat.zero_le _,by show (nameL (l.drop 1)).length≤_;omega⟩
theorem tagR_bd (l:List UInt8):∀ t∈(tagR l).1,txB t≤24*l.length∧nmB t≤3*l.length:=by
 unfold tagR
 split
 ·intro t h;cases h
 ·exact tag_bd l
theorem tok_bd (l:List UInt8):∀ t∈(tokL l).1,txB t≤24*l.length∧nmB t≤3*l.length:=by
 unfold tokL
 split
 ·exact tag_bd l
 ·split
  ·intro t h
   simp only [Option.mem_def,Option.some.injEq] at h
   subst h
   refine ⟨?_,Nat.zero_le _⟩
   show (cleanL (readC l).1).length≤_
   have h1:=clean_le (readC l).1
   have h2:(readC l).1.length≤l.length:=by
    unfold readC
    split
    ·have:=(Pcm.plainL_le (l.drop 4)).1;rw [List.length_drop] at this;simp only;omega
    ·split
     ·have:=(Pcm.otherL_le (l.drop 1)).1;rw [List.length_drop] at this;simp only;omega
     ·have:=(Pcm.otherL_le (l.drop 2)).1;rw [List.length_drop] at this;simp only;omega
   omega
  ·split
   ·intro t h
    simp only [Option.mem_def,Option.some.injEq] at h
    subst h
    refine ⟨?_,Nat.zero_le _⟩
    show (cleanL (upto 62 (l.drop 9))).length≤_
    have h1:=clean_le (upto 62 (l.drop 9))
    have h2:=upto_le 62 (l.drop 9)
    rw [List.length_drop] at h2
    omega
   ·split
    ·intro t h;cases h
    ·split
     ·intro t h;cases h
     ·intro t h
      simp only [Option.mem_def,Option.some.injEq] at h
      subst h
      refine ⟨?_,Nat.zero_le _⟩
      show (rdL false (l.take (txN l))).length≤_
      have h1:=rdL_le false (l.take (txN l))
      rw [List.length_take] at h1
      omega
theorem rest_bd (st:Nat) (name l:List UInt8):(∀ t∈(restL st name l).1,txB t≤24*l.length)∧(restL st name l).1.length≤2:=by
 have hr:∀ n,(rawT (st == 1) (l.take n)).length≤24*l.length:=fun n=>by
  have h1:=rdL_le false (l.take n)
  have h2:=clean_le (rdL false (l.take n))
  have h3:=clean_le (l.take n)
  rw [List.length_take] at h1 h3
  unfold rawT
  split<;>omega
 have ht:∀ u:List UInt8,u.length≤24*l.length→(∀ t∈txtT u,txB t≤24*l.length)∧(txtT u).length≤1:=fun u hu=>by
  unfold txtT
  split
  ·exact ⟨fun t h=>(nomatch h),Nat.zero_le _⟩
  ·exact ⟨fun t h=>by rw [List.mem_singleton.1 h];exact hu,Nat.le_refl _⟩
 unfold restL
 split
 ·exact ⟨fun t h=>(nomatch h),Nat.zero_le _⟩
 ·split
  ·have:=ht _ (hr (endN st name l))
   exact ⟨this.1,Nat.le_succ_of_le this.2⟩
  ·have h1:=ht _ (hr (endN st name l))
   refine ⟨fun t h => ?_,?_⟩
   ·rcases List.mem_append.1 h with h|h
    ·exact h1.1 t h
    ·have h2:=(tagR_bd (l.drop (endN st name l)) t zu46).1
     rw [List.length_drop] at h2
     omega
   ·simp only [List.length_append]
    have:((tagR (l.drop (endN st name l))).1.toList).length≤1:=by cases (tagR (l.drop (endN st name l))).1<;>simp
    have:=h1.2
    omega
theorem drv1_bd (l:List UInt8):(∀ t∈(drv1 (tokL l)).1,txB t≤24*l.length)∧(drv1 (tokL l)).1.length≤3∧(drv1 (tokL l)).2 <:+ l:=by
 have h1:=tok_bd l
 have h2:=tokL_suf l
 have h3:=h2.length_le
 generalize tokL l=R at h1 h2 h3
 obtain ⟨o,r⟩:=R
 unfold drv1
 split
 ·rename_i n al self r' he
  cases he
  have h4:=rest_bd (stateN n) n r
  have h5:r.length≤l.length:=h3
  refine ⟨fun t h => ?_,by simp only [List.length_cons];omega,(restL_suf _ _ _).trans h2⟩
  rcases List.mem_cons.1 h with rfl|h
  ·exact Nat.zero_le _
  ·have:=h4.1 t h;omega
 ·rename_i t r' _ he
  cases he
  exact ⟨fun t' h=>by rw [List.mem_singleton.1 h];exact (h1 t rfl).1,zu19,h2⟩
 ·rename_i r' he
  cases he
  exact ⟨fun t h=>(nomatch h),Nat.zero_le _,h2⟩
theorem drv_bd:∀ n (l:List UInt8),l.length≤n→(∀ t∈drvL l,txB t≤24*n)∧(drvL l).length≤3*l.length:=by
 intro n
 induction n with
 | zero =>
   intro l h
   obtain rfl:=List.eq_nil_of_length_eq_zero (Nat.le_zero.1 h)
   exact ⟨fun t h=>(nomatch h),Nat.zero_le _⟩
 | succ n ih =>
   intro l h
   by_cases hl:l=[]
   ·subst hl;exact ⟨fun t h=>(nomatch h),Nat.zero_le _⟩
   ·have h1:=drv1_bd l
    have h2:=drv1_le (tokL l)
    have h3:=tokL_lt hl
    have h4:=ih (drv1 (tokL l)).2 zu4
    rw [drvL_eq hl]
    refine ⟨fun t ht => ?_,by rw [List.length_append];omega⟩
    rcases List.mem_append.1 ht with ht|ht
    ·have:=h1.1 t ht;omega
    ·have:=h4.1 t ht;omega
end Hand
end

section
namespace Hand
open Go Go.RowKit K0 Pl Pb Sa Go.Proofs.YtclkdmmgibgamaaGreatDoor.Pure YtclkdmmgibgamaaGreatDoorW.PrintWords YtclkdmmgibgamaaGreatDoorW.PrintLast YtclkdmmgibgamaaGreatDoorW.PrintMore
abbrev tkK:=k30
theorem infoK:(Tryz.prog.info? 30).map (fun i=>(i.zero,i.size,i.bytes))=some (some (.agg #[(.int .i64 0),(.string ⟨#[]⟩),(.string ⟨#[]⟩),(.slice none 0 0),(.bool false)]),5,72):=by kernel_rfl
def jn (l:List Tk) (i:Nat):List Tk:=(l.take i).foldl stepJ []
theorem jn_succ {l:List Tk} {i:Nat} (h:i<l.length):jn l (i+1)=stepJ (jn l i) l[i]:=by
 unfold jn;rw [List.take_succ_eq_append_getElem h,List.foldl_append];rfl
theorem stepJ_len (o:List Tk) (t:Tk):(stepJ o t).length≤o.length+1:=by
 cases ht:isTx t with
 | false=>rw [stepJ_no o ht];simp
 | true =>
   obtain ⟨s,rfl⟩:∃ s,t = .text s:=by cases t<;>first|exact ⟨_,rfl⟩|cases ht
   by_cases hs:s=[]
   ·subst hs;rw [stepJ_nil];omega
   ·by_cases hu:∃ u,o.getLast? = some (.text u)
    ·obtain ⟨u,hu⟩:=hu
     have:o=o.dropLast++[.text u]:=by
      rcases List.eq_nil_or_concat o with rfl|⟨q,b,rfl⟩
      ·cases hu
      ·simp at hu;subst hu;simp
     rw [this,stepJ_tt _ hs];simp
    ·rw [stepJ_new o hs (fun u h=>hu ⟨u,h⟩)];simp
theorem jn_len (l:List Tk) (i:Nat):(jn l i).length≤i:=by
 have:∀ (q o:List Tk),(q.foldl stepJ o).length≤o.length+q.length:=fun q=>by
  induction q with
  | nil=>intro o;exact Nat.le_refl _
  | cons t r ih=>intro o;rw [List.foldl_cons];have h1:=ih (stepJ o t);have h2:=stepJ_len o t;rw [List.length_cons];omega
 have h:=this (l.take i) []
 rw [List.length_take,List.length_nil] at h
 unfold jn;omega
theorem stepJ_bd {o:List Tk} {t:Tk} {a b:Nat} (ho:∀ x∈o,txB x≤a) (ht:txB t≤b):∀ x∈stepJ o t,txB x≤a+b:=by
 cases hx:isTx t with
 | false =>
   rw [stepJ_no o hx]
   intro x h
   rcases List.mem_append.1 h with h|h
   ·have:=ho x h;omega
   ·rw [List.mem_singleton.1 h];omega
 | true =>
   obtain ⟨s,rfl⟩:∃ s,t = .text s:=by cases t<;>first|exact ⟨_,rfl⟩|cases hx
   by_cases hs:s=[]
   ·subst hs;rw [stepJ_nil];intro x h;have:=ho x h;omega
   ·by_cases hu:∃ u,o.getLast? = some (.text u)
    ·obtain ⟨u,hu⟩:=hu
     obtain ⟨q,rfl⟩:∃ q,o=q++[.text u]:=by
      rcases List.eq_nil_or_concat o with rfl|⟨q,b,rfl⟩
      ·cases hu
      ·simp at hu;subst hu;exact ⟨q,zu19⟩
     rw [stepJ_tt _ hs]
     intro x h
     rcases List.mem_append.1 h with h|h
     ·have:=ho x (List.mem_append_left _ h);omega
     ·rw [List.mem_singleton.1 h]
      have h1:=ho (.text u) zu19
      have e1:txB (.text u)=u.length:=rfl
      have e2:txB (.text s)=s.length:=rfl
      have e3:txB (.text (u++s))=u.length+s.length:=List.length_append
      omega
    ·rw [stepJ_new o hs (fun u h=>hu ⟨u,h⟩)]
     intro x h
     rcases List.mem_append.1 h with h|h
     ·have:=ho x h;omega
     ·rw [List.mem_singleton.1 h];omega
theorem jn_bd {l:List Tk} {M:Nat} (h:∀ t∈l,txB t≤M):∀ i,i≤l.length→∀ x∈jn l i,txB x≤i*M:=by
 intro i
 induction i with
 | zero=>intro _ x hx;simp [jn] at hx
 | succ i ih =>
   intro hi
   rw [jn_succ zu4,Nat.succ_mul]
   exact stepJ_bd (ih zu4) (h _ (List.getElem_mem _))
structure JnI (lo:Nat) (w W:World) (A:Option Addr) (n c:Nat) (l:List Tk) (v:Value) (X:List Tk):Prop where
 row:Kd.N tkK 30 W w.heap.size (fun k=>lo≤k) v (X.map ofK)
 arg:Kd.V tkK 30 W w.heap.size (fun k=>lo≤k∧k<w.heap.size) (.slice A n c) (l.map ofK)
 low:lo≤w.heap.size
 below:Below w.heap.size w W
theorem JnI.alloc {lo:Nat} {w W:World} {A:Option Addr} {n c:Nat} {l:List Tk} {v:Value} {X:List Tk} (h:JnI lo w W A n c l v X) (o:Obj):JnI lo w (W.alloc o) A n c l v X :=
 ⟨Kd.N_alloc h.row o,Kd.V_alloc h.arg o,h.low,below_alloc h.below o⟩
theorem JnI.lowW {lo:Nat} {w W:World} {A:Option Addr} {n c:Nat} {l:List Tk} {v:Value} {X:List Tk} (h:JnI lo w W A n c l v X):lo≤W.heap.size:=Nat.le_trans h.low h.below.size
theorem JnI.grown {lo:Nat} {w W w1:World} {A:Option Addr} {n c:Nat} {l:List Tk} {v v1:Value} {X X1:List Tk} (h:JnI lo w W A n c l v X) (ho:Kd.N tkK 30 w1 w.heap.size (fun k=>lo≤k) v1 (X1.map ofK)) (hb:Below w.heap.size w w1) (hg:W.grownBy w1 v.ownBlock) :
  JnI lo w w1 A n c l v1 X1 :=
 ⟨ho,Kd.V_grown h.arg hg (fun k hk he=>by have:=Kd.N_base h.row k he.symm;have:=hk.2;omega),h.low,hb⟩
theorem JnI.drew {lo:Nat} {w W:World} {A:Option Addr} {n c:Nat} {l:List Tk} {v:Value} {X:List Tk} (h:JnI lo w W A n c l v X):JnI lo w W.drew A n c l v X :=
 ⟨Kd.N_drew h.row,Kd.V_drew h.arg,h.low,below_drew h.below⟩
theorem JnI.elem {lo:Nat} {w W:World} {A:Option Addr} {n c:Nat} {l:List Tk} {v:Value} {X:List Tk} (h:JnI lo w W A n c l v X) {i:Nat} (hi:i<l.length) :
  ∃ ad A3 c3,A=some ad∧W.cell? (ad.add (i*5))=some (.int .i64 (ofK l[i]).f0)∧W.cell? ⟨(ad.add (i*5)).block,(ad.add (i*5)).off+1,none⟩=some (.string (ofK l[i]).f1) ∧
    W.cell? ⟨(ad.add (i*5)).block,(ad.add (i*5)).off+2,none⟩=some (.string (ofK l[i]).f2)∧W.cell? ⟨(ad.add (i*5)).block,(ad.add (i*5)).off+3,none⟩=some (.slice A3 (ofK l[i]).f3.length c3) ∧
    W.cell? ⟨(ad.add (i*5)).block,(ad.add (i*5)).off+4,none⟩=some (.bool (ofK l[i]).f4)∧(ofK l[i]).f3.length≤c3∧Kd.F k105 W (fun k=>lo≤k∧k<w.heap.size) A3 (ofK l[i]).f3.length (ofK l[i]).f3:=by
 have hn:=(Kd.V_at h.arg).1
 rw [List.length_map] at hn
 obtain ⟨ad,_,_,e,_⟩:=at_T30 (Kd.V_reads' h.arg).2.2 (i:Int) zu4 zu45
 subst e
 obtain ⟨cs,hcl,hF,hcc⟩:=Kd.V_get h.arg z30 (i:Int) zu4 zu4
 have hr:(l.map ofK).getD (i:Int).toNat z30=ofK l[i]:=rd_map hi
 rw [hr] at hF
 obtain ⟨A3,c3,rfl,h3,h4⟩:=k30_openF hF
 exact ⟨ad,A3,c3,rfl,hcc 0 _ rfl,by rw [← add_field _ _ 1 zu4];exact hcc 1 _ rfl,by rw [← add_field _ _ 2 zu4];exact hcc 2 _ rfl,by rw [← add_field _ _ 3 zu4];exact hcc 3 _ rfl,by rw [← add_field _ _ 4 zu4];exact hcc 4 _ rfl,h3,h4⟩
theorem alloc_sz (w:World) (o:Obj):(w.alloc o).heap.size=w.heap.size+1:=by simp
theorem wrap_pred {m:Nat} (h:m≤100000):IntKind.i64.wrap ((m:Int) - 1)=(m:Int) - 1:=by simp [IntKind.wrap_i64];omega
theorem join_c (A:Option Addr) (c:Nat) (l:List Tk) (w:World) (lo:Nat) (hlo:lo≤w.heap.size) (hv:Kd.V tkK 30 w w.heap.size (fun k=>lo≤k∧k<w.heap.size) (.slice A l.length c) (l.map ofK)) (hm:l.length≤100000) (hB:∀ t∈l,txB t≤1000000) :
  Calls Tryz.prog 40 #[.slice A l.length c] w fun e w'=>(∃ v,e = .returned v∧Kd.V tkK 30 w' w.heap.size (fun k=>lo≤k∧k<w'.heap.size) v ((joinL l).map ofK))∧Below w.heap.size w w':=by
 have JS:=Lib.hid (fun i (h:i<l.length)=>jn_succ h)
 have JL:=Lib.hid (jn_len l)
 have JB:=Lib.hid (jn_bd hB)
 have HE:Hid (jn l l.length=joinL l):=Lib.hid (by unfold jn;rw [List.take_length,join_eq])
 have HBB:=Lib.hid hB
 have H0:Hid (JnI lo w w A l.length c l (.slice none 0 0) (jn l 0)):=Lib.hid ⟨Kd.N_nil _ _ _ _ _,hv,hlo,Below.refl _ _⟩
 obtain ⟨n,hn⟩:∃ n,l.length=n:=⟨_,rfl⟩
 have HN:=Lib.hid hn
 rw [hn] at H0 HE ⊢
 have HM:Hid (n≤100000):=Lib.hid zu4
 clear hv hB hm hn hlo
 go_enter Tryz.func40,Tryz.ntmps40
 go_wp2_with fail
 go_loopw [3,9] (fun v3 v9 wx => ∃ i:Nat,v9 = .int .i64 (i:Int)∧i≤n∧Hid (JnI lo w wx A n c l v3 (jn l i))) (fun _ v9 _=>n - (intOf v9).toNat)
 case atStart=>exact ⟨0,rfl,Nat.zero_le _,H0⟩
 case round =>
  clear H0
  obtain ⟨i,rfl,hi,HI⟩:=hrel
  by_cases hlt:i<n
  ·have hll:i<l.length:=by rw [HN.out];exact hlt
   have q1:decide ((i:Int)<(n:Int))=true:=decide_eq_true zu4
   have i0:(0:Int)≤(i:Int):=by omega
   have i1:(i:Int)<(n:Int):=by omega
   have w3:IntKind.i64.wrap ((i:Int)+1)=((i+1:Nat):Int):=wrap_add2 (x:=i) (y:=1) rfl (by have:=HM.out;omega)
   obtain ⟨ad,A3,c3,hA,hx0,hx1,hx2,hx3,hx4,h3,hF⟩:=HI.out.elem hll
   subst hA
   have HS:=Lib.hid (JS.out i hll)
   have HEL:Hid (∃ t,t=l[i]∧ofK t=ofK l[i]):=Lib.hid ⟨_,rfl,rfl⟩
   obtain ⟨t,ht⟩:∃ t,l[i]=t:=⟨_,rfl⟩
   have HTB:Hid (txB t≤1000000):=Lib.hid (by rw [← ht];exact HBB.out _ (List.getElem_mem _))
   rw [ht] at hx0 hx1 hx2 hx3 hx4 h3 hF HS
   obtain ⟨A1,c1,hv3⟩:=Kd.N_slice HI.out.row
   have hml:=jn_len l i
   rw [List.length_map] at hv3
   obtain ⟨m,hm⟩:∃ m,(jn l i).length=m:=⟨_,rfl⟩
   rw [hm] at hv3 hml
   subst hv3
   have HML:=Lib.hid hm
   have hm6:m≤100000:=by have:=HM.out;omega
   have HLN:Hid ((((jn l i).map ofK).length+1)*72≤140737488355328):=Lib.hid (by rw [List.length_map,hm];omega)
   have hwl:=wrap_pred hm6
   obtain ⟨⟨k0,n0,x0,a0,s0⟩,hO⟩:∃ O,ofK t=O:=⟨_,rfl⟩
   have HO:=Lib.hid hO
   rw [hO] at hx0 hx1 hx2 hx3 hx4 h3 hF
   dsimp only at hx0 hx1 hx2 hx3 hx4 h3 hF
   have HP:Hid (∀ o:Obj,Kd.FK tkK (wr.alloc o) (fun k=>lo≤k∧some k≠(Value.slice A1 m c1).ownBlock) (⟨k0,n0,x0,a0,s0⟩:TkS) [.int .i64 k0,.string n0,.string x0,.slice A3 a0.length c3,.bool s0]):=Lib.hid (fun o=>k30_mkF _ _ (⟨k0,n0,x0,a0,s0⟩:TkS) h3 (Kd.F_mono (Kd.F_alloc hF o) (fun k hk=>⟨hk.1,fun he=>by have:=Kd.N_base HI.out.row k he.symm;have:=hk.2;omega⟩)))
   obtain ⟨o,ho⟩:∃ o,Obj.cells #[.int .i64 k0,.string n0,.string x0,.slice A3 a0.length c3,.bool s0] 30=o:=⟨_,rfl⟩
   have HO2:=Lib.hid ho
   have y0:(wr.alloc (.cells #[.int .i64 k0,.string n0,.string x0,.slice A3 a0.length c3,.bool s0] 30)).cell? ⟨wr.heap.size,0,none⟩=some (.int .i64 k0):=(World.cell?_alloc_at _ _ _ 0 rfl).trans rfl
   have y2:(wr.alloc (.cells #[.int .i64 k0,.string n0,.string x0,.slice A3 a0.length c3,.bool s0] 30)).cell? ⟨wr.heap.size,2,none⟩=some (.string x0):=(World.cell?_alloc_at _ _ _ 2 rfl).trans rfl
   clear ht hm hml HEL ho hO h3 hF
   cases hx:isTx t with
   | false =>
     have e0:(k0 == 0)=false:=by
      have:(ofK t).f0=k0:=by rw [HO.out]
      rw [← this,beq_eq_false_iff_ne]
      cases t<;>first|exact (show (1:Int)≠0 by decide)|exact (show (2:Int)≠0 by decide)|exact (show (3:Int)≠0 by decide)|exact (show (4:Int)≠0 by decide)|cases hx
     have HR:Hid (jn l (i+1)=jn l i++[t]):=Lib.hid (by rw [HS.out,stepJ_no _ hx])
     clear hx
     go_wp2_with (first | ((with_reducible refine gate_builtin (b:=.append) (xs := #[.tmp 16,.tmp 18]) rfl ?_);at_builtin;refine Kd.N_append tkK (w0:=w) w.heap.size rfl (.tmp 16) (.tmp 18) 25 30 (.agg #[(.int .i64 0),(.string ⟨#[]⟩),(.string ⟨#[]⟩),(.slice none 0 0),(.bool false)]) 72 rfl Tryz.underlying25 infoK rfl zu15 zu15 (.slice A1 m c1) ((jn l i).map ofK) ⟨k0,n0,x0,a0,s0⟩ [.int .i64 k0,.string n0,.string x0,.slice A3 a0.length c3,.bool s0] (fun k=>lo≤k) (fun k=>lo≤k∧some k≠(Value.slice A1 m c1).ownBlock) rfl zu75 ?aP (fun _ hk=>hk) (fun _ hk=>Nat.le_trans (HI.out.alloc _).lowW hk) ?aO ?aB ?aS ?aL ?_;(case aP=>exact HP.out _);(case aO=>exact (HI.out.alloc _).row);(case aB=>exact (HI.out.alloc _).below);(case aS=>exact (HI.out.alloc _).below.size);(case aL=>exact HLN.out);intro v1 w1 ho hb hg hat))
     go_roundw
     case rel =>
      exact ⟨i+1,by go_num,zu4,Lib.hid zu38⟩
     case measure=>simp [intOf];omega
   | true =>
     obtain ⟨s,rfl⟩:∃ s,t = .text s:=by cases t<;>first|exact ⟨_,rfl⟩|cases hx
     have hk0:k0=0:=by
      have:(ofK (Tk.text s)).f0=k0:=by rw [HO.out]
      exact this.symm
     have hx0':x0=B s:=by
      have:(ofK (Tk.text s)).f2=x0:=by rw [HO.out]
      exact this.symm
     have e0:(k0 == 0)=true:=by rw [hk0];rfl
     have hxl:x0.toList=s:=by rw [hx0',toList_data,B_data]
     by_cases hs:s=[]
     ·have xe1:(x0.toList == ([]:List UInt8))=true:=by rw [hxl,hs];rfl
      have xe2:x0.toList.isEmpty=true:=by rw [hxl,hs];rfl
      have HR:Hid (jn l (i+1)=jn l i):=Lib.hid (by rw [HS.out,hs,stepJ_nil])
      clear hx hk0 hx0' hxl hs
      go_wp2_with fail
      go_roundw
      case rel=>exact ⟨i+1,by go_num,zu4,Lib.hid (by rw [HR.out];exact HI.out.alloc _)⟩
      case measure=>simp [intOf];omega
     ·have xe1:(x0.toList == ([]:List UInt8))=false:=by rw [hxl,beq_eq_false_iff_ne];exact hs
      have xe2:x0.toList.isEmpty=false:=by rw [hxl];exact List.isEmpty_eq_false_iff.2 hs
      rcases Nat.eq_zero_or_pos m with hm0|hmp
      ·have hw0:IntKind.i64.wrap ((m:Int) - 1) = -1:=by rw [hwl,hm0];rfl
       have HR:Hid (jn l (i+1)=jn l i++[.text s]):=Lib.hid (by
        have:jn l i=[]:=List.eq_nil_of_length_eq_zero (by rw [HML.out,hm0])
        rw [HS.out,stepJ_new _ hs (fun u=>by rw [this];simp)])
       clear hx hk0 hx0' hxl hs hwl hm0
       go_wp2_with (first | ((with_reducible refine gate_builtin (b:=.append) (xs := #[.tmp 16,.tmp 18]) rfl ?_);at_builtin;refine Kd.N_append tkK (w0:=w) w.heap.size rfl (.tmp 16) (.tmp 18) 25 30 (.agg #[(.int .i64 0),(.string ⟨#[]⟩),(.string ⟨#[]⟩),(.slice none 0 0),(.bool false)]) 72 rfl Tryz.underlying25 infoK rfl zu15 zu15 (.slice A1 m c1) ((jn l i).map ofK) ⟨k0,n0,x0,a0,s0⟩ [.int .i64 k0,.string n0,.string x0,.slice A3 a0.length c3,.bool s0] (fun k=>lo≤k) (fun k=>lo≤k∧some k≠(Value.slice A1 m c1).ownBlock) rfl zu75 ?aP (fun _ hk=>hk) (fun _ hk=>Nat.le_trans (HI.out.alloc _).lowW hk) ?aO ?aB ?aS ?aL ?_;(case aP=>exact HP.out _);(case aO=>exact (HI.out.alloc _).row);(case aB=>exact (HI.out.alloc _).below);(case aS=>exact (HI.out.alloc _).below.size);(case aL=>exact HLN.out);intro v1 w1 ho hb hg hat))
       go_roundw
       case rel =>
        exact ⟨i+1,by go_num,zu4,Lib.hid zu38⟩
       case measure=>simp [intOf];omega
      ·obtain ⟨m1,hm1⟩:∃ m1,m=m1+1:=⟨m - 1,zu4⟩
       have hw0:IntKind.i64.wrap ((m:Int) - 1)=(m1:Int):=by rw [hwl,hm1];omega
       have hml1:m1<(jn l i).length:=by rw [HML.out];omega
       obtain ⟨g,cap,hv4,hg1,hg2,_⟩:=Kd.N_form HI.out.row zu45
       obtain ⟨rfl,rfl⟩:A1=some ⟨g,0,none⟩∧c1=cap:=by injection hv4 with h1 h2 h3;exact ⟨h1,h3⟩
       have HW:=Lib.hid (HI.out.alloc (.cells #[.int .i64 k0,.string n0,.string x0,.slice A3 a0.length c3,.bool s0] 30))
       obtain ⟨cs,hcl,hcF,hcc,hcf⟩:=Kd.N_elem HW.out.row z30 (m1:Int) zu4 (by clear hw0;omega)
       obtain ⟨u,hu⟩:∃ u,(jn l i)[m1]=u:=⟨_,rfl⟩
       have hgd:((jn l i).map ofK).getD (m1:Int).toNat z30=ofK u:=by rw [← hu];exact rd_map hml1
       rw [hgd] at hcF
       obtain ⟨⟨k1,n1,x1,a1,s1⟩,hU⟩:∃ O,ofK u=O:=⟨_,rfl⟩
       rw [hU] at hcF
       obtain ⟨A5,c5,rfl,h5,hF5⟩:=k30_openF hcF
       dsimp only at h5 hF5 hcc
       have z0:(wr.alloc (.cells #[.int .i64 k0,.string n0,.string x0,.slice A3 a0.length c3,.bool s0] 30)).cell? ⟨g,m1*5,none⟩=some (.int .i64 k1):=hcc 0 _ rfl
       have z2:(wr.alloc (.cells #[.int .i64 k0,.string n0,.string x0,.slice A3 a0.length c3,.bool s0] 30)).cell? ⟨g,m1*5+2,none⟩=some (.string x1):=hcc 2 _ rfl
       have zf:(wr.alloc (.cells #[.int .i64 k0,.string n0,.string x0,.slice A3 a0.length c3,.bool s0] 30)).frozen? ⟨g,m1*5+2,none⟩=false:=hcf 2
       have j0:(0:Int)≤(m1:Int):=by omega
       have j1:(m1:Int)<(m:Int):=by omega
       have hlast:jn l i=(jn l i).take m1++[u]:=by
        rw [← hu,← List.take_succ_eq_append_getElem hml1,List.take_of_length_le (by have:=HML.out;omega)]
       cases hxu:isTx u with
       | false =>
         have e1:(k1 == 0)=false:=by
          have:(ofK u).f0=k1:=by rw [hU]
          rw [← this,beq_eq_false_iff_ne]
          cases u<;>first|exact (show (1:Int)≠0 by decide)|exact (show (2:Int)≠0 by decide)|exact (show (3:Int)≠0 by decide)|exact (show (4:Int)≠0 by decide)|cases hxu
         have HR:Hid (jn l (i+1)=jn l i++[.text s]):=Lib.hid (by
          rw [HS.out,stepJ_new _ hs (fun v hv=>by
           rw [hlast,List.getLast?_append] at hv
           simp at hv
           rw [hv] at hxu;cases hxu)])
         clear hx hk0 hx0' hxl hs hwl hm1 hml1 hv4 hg1 hg2 hcl hgd hcF hu h5 hF5 hcc hcf hlast hxu hU zf
         go_wp2_with (first | ((with_reducible refine gate_builtin (b:=.append) (xs := #[.tmp 16,.tmp 18]) rfl ?_);at_builtin;refine Kd.N_append tkK (w0:=w) w.heap.size rfl (.tmp 16) (.tmp 18) 25 30 (.agg #[(.int .i64 0),(.string ⟨#[]⟩),(.string ⟨#[]⟩),(.slice none 0 0),(.bool false)]) 72 rfl Tryz.underlying25 infoK rfl zu15 zu15 (.slice (some ⟨g,0,none⟩) m c1) ((jn l i).map ofK) ⟨k0,n0,x0,a0,s0⟩ [.int .i64 k0,.string n0,.string x0,.slice A3 a0.length c3,.bool s0] (fun k=>lo≤k) (fun k=>lo≤k∧some k≠(Value.slice (some ⟨g,0,none⟩) m c1).ownBlock) rfl zu75 ?aP (fun _ hk=>hk) (fun _ hk=>Nat.le_trans (HI.out.alloc _).lowW hk) ?aO ?aB ?aS ?aL ?_;(case aP=>exact HP.out _);(case aO=>exact (HI.out.alloc _).row);(case aB=>exact (HI.out.alloc _).below);(case aS=>exact (HI.out.alloc _).below.size);(case aL=>exact HLN.out);intro v1 w1 ho hb hg hat))
         go_roundw
         case rel =>
          exact ⟨i+1,by go_num,zu4,Lib.hid zu38⟩
         case measure=>simp [intOf];omega
       | true =>
         obtain ⟨v,rfl⟩:∃ v,u = .text v:=by cases u<;>first|exact ⟨_,rfl⟩|cases hxu
         have hk1:k1=0:=by
          have:(ofK (Tk.text v)).f0=k1:=by rw [hU]
          exact this.symm
         have hx1':x1=B v:=by
          have:(ofK (Tk.text v)).f2=x1:=by rw [hU]
          exact this.symm
         have e1:(k1 == 0)=true:=by rw [hk1];rfl
         have hvb:v.length≤100000000000:=by
          have h1:=JB.out i zu4 (.text v) (by rw [← hu];exact List.getElem_mem _)
          have h2:txB (.text v)=v.length:=rfl
          have:=HM.out
          have h3:i*1000000≤100000*1000000:=Nat.mul_le_mul_right _ zu4
          omega
         have hsb:s.length≤1000000:=HTB.out
         have g1:x1.size+x0.size≤9223372036854775807:=by rw [hx1',hx0',size_B,size_B];omega
         have g2:(9223372036854775807<x1.size+x0.size)=False:=eq_false zu4
         have HR:Hid ((jn l (i+1)).map ofK=((jn l i).map ofK).set m1 (ofK (.text (v++s)))):=Lib.hid (by
          rw [HS.out]
          have e:(jn l i).length=m1+1:=by rw [HML.out,hm1]
          have e2:((jn l i).take m1).length=m1:=by rw [List.length_take];omega
          rw [hlast,stepJ_tt _ hs,List.map_append,List.map_append,List.set_append_right _ _ (by rw [List.length_map,e2];exact Nat.le_refl _)]
          congr 1
          rw [List.length_map,e2,Nat.sub_self];rfl)
         have HXT:Hid (ofK (.text (v++s))=⟨k1,n1,x1++x0,a1,s1⟩):=Lib.hid (by
          have e:ofK (.text (v++s))=⟨(ofK (.text v)).f0,(ofK (.text v)).f1,(ofK (.text v)).f2++B s,(ofK (.text v)).f3,(ofK (.text v)).f4⟩:=by
           show (⟨0,B [],B (v++s),[],false⟩:TkS)=⟨0,B [],B v++B s,[],false⟩
           rw [B_append]
          rw [e,hU,hx0'])
         obtain ⟨cs',hcl',hcF',hcc',_⟩:=Kd.N_elem HI.out.row z30 (m1:Int) zu4 (by clear hw0;omega)
         rw [hgd,hU] at hcF'
         obtain ⟨A6,c6,rfl,h6,hF6⟩:=k30_openF hcF'
         dsimp only at h6 hF6 hcc'
         have HSG:=Lib.hid (Kd.N_seg HI.out.row (m1:Int) zu4 (by clear hw0;omega) (seg:=[.string (x1++x0)]) (j:=2) hcl' hcc' (show 2+1≤5 by decide) (x':=⟨k1,n1,x1++x0,a1,s1⟩) (okp:=fun k=>lo≤k∧k≠g) (k30_mkF _ _ (⟨k1,n1,x1++x0,a1,s1⟩:TkS) h6 hF6) (fun k hk=>hk))
         have HG1:=Lib.hid hg1
         clear hcl' hcF' hcc' h6 hF6 hx hk0 hx0' hxl hs hwl hm1 hml1 hv4 hcl hgd hcF hu h5 hF5 hcc hcf hlast hxu hU hk1 hx1' hvb hsb
         go_wp2_with fail
         go_region
         all_goals (
          go_wp2_with fail
          go_roundw
          case rel =>
           refine ⟨i+1,by go_num,zu4,Lib.hid ?_⟩
           obtain ⟨g3,g4⟩:=HSG.out
           have hJ:JnI lo w (wr.setCell ⟨g,m1*5+2,none⟩ (.string (x1++x0))) (some ad) n c l (.slice (some ⟨g,0,none⟩) m c1) (jn l (i+1)) :=
            ⟨by rw [HR.out,HXT.out];exact g3,Kd.V_grown HI.out.arg g4 (fun k hk he=>by have:=HG1.out;have:=hk.2;injection he with he;omega),HI.out.low,HI.out.below.setCell HG1.out _⟩
           exact (hJ.alloc _).drew
          case measure=>simp [intOf];omega)
  ·have hin:i=n:=by omega
   subst hin
   have q9:decide ((i:Int)<(i:Int))=false:=decide_eq_false zu4
   go_wp2_with fail
   go_ret
   refine ⟨⟨_,rfl,?_⟩,HI.out.below⟩
   rw [← HE.out]
   exact Kd.V_mono (Kd.V_bound (Kd.N_V HI.out.row)) (fun k hk=>hk)
end Hand
end

section
namespace Hand
open Go Go.RowKit K0 Pl Pb Sa St Go.Proofs.YtclkdmmgibgamaaGreatDoor.Pure YtclkdmmgibgamaaGreatDoorW.PrintWords YtclkdmmgibgamaaGreatDoorW.PrintLast YtclkdmmgibgamaaGreatDoorW.PrintMore
theorem next_none {s:List UInt8} {p:Nat} (hs:s.length≤100000) (hp:p≤s.length) {r:List UInt8} (h:tokL (s.drop p)=(none,r)) (W:World) (hG:Glob W) :
  Calls Tryz.prog 37 #[.string (B s),.int .i64 (p:Int)] W fun e w'=>(∃ A c,e = .returned (.tuple #[.agg #[.int .i64 0,.string ⟨#[]⟩,.string ⟨#[]⟩,.slice A 0 c,.bool false],.int .i64 ((s.length - r.length:Nat):Int),.bool false]))∧Below W.heap.size W w':=by
 have hf:=next_f hs hp
 rw [h] at hf
 refine (tok_Next.calls _ _ _ _ _ _ _ _ _ W hG hf).mono ?_
 rintro e w' ⟨v,he,hR,hb⟩
 obtain ⟨A,c,rfl⟩:=Kd.R_slice hR
 exact ⟨⟨A,c,he⟩,hb⟩
theorem next_some {s:List UInt8} {p:Nat} (hs:s.length≤100000) (hp:p≤s.length) {t:Tk} {r:List UInt8} (h:tokL (s.drop p)=(some t,r)) {k0:Int} {n0 x0:ByteArray} {a0:List AtS} {s0:Bool} (ht:ofK t=⟨k0,n0,x0,a0,s0⟩) (W:World) (hG:Glob W) :
  Calls Tryz.prog 37 #[.string (B s),.int .i64 (p:Int)] W fun e w'=>(∃ A c,e = .returned (.tuple #[.agg #[.int .i64 k0,.string n0,.string x0,.slice A a0.length c,.bool s0],.int .i64 ((s.length - r.length:Nat):Int),.bool true]) ∧
   a0.length≤c∧Kd.F k105 w' (fun k=>W.heap.size≤k) A a0.length a0)∧Below W.heap.size W w':=by
 have hf:=next_f hs hp
 rw [h] at hf
 have e:tkOut s.length (some t,r)=((ofK t).f0,(ofK t).f1,(ofK t).f2,(ofK t).f3,(ofK t).f4,((s.length - r.length:Nat):Int),true):=rfl
 rw [e,ht] at hf
 refine (tok_Next.calls _ _ _ _ _ _ _ _ _ W hG hf).mono ?_
 rintro e w' ⟨v,he,hR,hb⟩
 have hV:=Kd.V_mono (Kd.R_V (base':=0) (Kd.R_bound hR)) (ok':=fun k=>W.heap.size≤k) (fun k hk=>hk.2.1)
 obtain ⟨A,c,rfl⟩:=Kd.V_slice hV
 exact ⟨⟨A,c,he,(Kd.V_at hV).2.1,Kd.V_F hV⟩,hb⟩
theorem rest_c {s:List UInt8} {p:Nat} (name:List UInt8) {st:Nat} (hs:s.length≤100000) (hp:p≤s.length) (hl:name.length≤100000) (h4:st≤4) (W:World) (hG:Glob W) :
  Calls Tryz.prog 38 #[.string (B s),.int .i64 (p:Int),.int .i64 (st:Int),.string (B name)] W fun e w'=>(∃ A c,e = .returned (.tuple #[.slice A (restL st name (s.drop p)).1.length c,.int .i64 ((s.length - (restL st name (s.drop p)).2.length:Nat):Int)]) ∧
   Kd.F tkK w' (fun k=>W.heap.size≤k) A (restL st name (s.drop p)).1.length ((restL st name (s.drop p)).1.map ofK))∧Below W.heap.size W w':=by
 obtain ⟨k,hk⟩:=(rest_ev name hs hp hl h4).rounds
 refine (tok_Rest.calls k _ _ _ _ _ _ W hG hk).mono ?_
 rintro e w' ⟨v,he,hR,hb⟩
 have hV:=Kd.V_mono (Kd.S_V (base':=0) (Kd.S_bound hR)) (ok':=fun k=>W.heap.size≤k) (fun k hk=>hk.2.1)
 obtain ⟨A,c,rfl⟩:=Kd.V_slice hV
 have hF:=Kd.V_F hV
 rw [List.length_map] at he hF
 exact ⟨⟨A,c,he,hF⟩,hb⟩
theorem stateN_le (n:List UInt8):stateN n≤4:=by
 unfold stateN
 repeat' split
 all_goals decide
structure DrI (w W:World) (v:Value) (X:List Tk):Prop where
 glob:Glob W
 row:Kd.N tkK 30 W w.heap.size (fun k=>w.heap.size≤k) v (X.map ofK)
 below:Below w.heap.size w W
theorem DrI.call {w W W':World} {v:Value} {X:List Tk} (h:DrI w W v X) (hb:Below W.heap.size W W'):DrI w W' v X :=
 ⟨h.glob.step hb,Kd.N_below h.row hb,h.below.trans (hb.mono h.below.size)⟩
theorem DrI.alloc {w W:World} {v:Value} {X:List Tk} (h:DrI w W v X) (o:Obj):DrI w (W.alloc o) v X:=h.call (below_alloc (Below.refl _ _) o)
theorem DrI.grown {w W':World} {v1:Value} {X1:List Tk} (hG:Glob w) (ho:Kd.N tkK 30 W' w.heap.size (fun k=>w.heap.size≤k) v1 (X1.map ofK)) (hb:Below w.heap.size w W'):DrI w W' v1 X1 :=
 ⟨hG.step hb,ho,hb⟩
abbrev DrC (w:World) (tb:Nat) (nm:ByteArray) (v:Value) (X:List Tk) (W:World):Prop:=DrI w W v X∧W.cell? ⟨tb,1,none⟩=some (.string nm)
theorem DrC.call {w:World} {tb:Nat} {nm:ByteArray} {v:Value} {X:List Tk} {W W':World} (hb:Below W.heap.size W W') (h:DrC w tb nm v X W):DrC w tb nm v X W' :=
 ⟨h.1.call hb,(hb.cell (World.block_lt_of_cell? W _ h.2)).trans h.2⟩
theorem DrC.drew {w:World} {tb:Nat} {nm:ByteArray} {v:Value} {X:List Tk} {W:World} (h:DrC w tb nm v X W):DrC w tb nm v X W.drew:=h.call (below_drew (Below.refl _ _))
theorem drive_c (s:List UInt8) (hs:s.length≤30000) (w:World) (hGl:Glob w) :
  Calls Tryz.prog 16 #[.string (B s)] w fun e w'=>(∃ v,e = .returned v∧Kd.V tkK 30 w' w.heap.size (fun k=>w.heap.size≤k∧k<w'.heap.size) v ((driveL s).map ofK))∧Below w.heap.size w w':=by
 have HG:=Lib.hid hGl
 have HS:=Lib.hid hs
 have NN:=Lib.hid (fun p (hp:p≤s.length) r (h:tokL (s.drop p)=(none,r)) W hG=>next_none zu4 hp h W hG)
 have NS:=Lib.hid (fun p (hp:p≤s.length) t r (h:tokL (s.drop p)=(some t,r)) k0 n0 x0 a0 s0 (ht:ofK t=⟨k0,n0,x0,a0,s0⟩) W hG=>next_some zu4 hp h ht W hG)
 have RS:=Lib.hid (fun p (hp:p≤s.length) name (hl:name.length≤100000) st (h4:st≤4) W hG=>rest_c name zu4 hp hl h4 W hG)
 have JN:=Lib.hid (fun A c (hb:(∀ t∈drvL s,txB t≤1000000)∧(drvL s).length≤100000) W (hw:w.heap.size≤W.heap.size) hv=>join_c A c (drvL s) W w.heap.size hw hv hb.2 hb.1)
 have HBD:Hid ((∀ t∈drvL s,txB t≤1000000)∧(drvL s).length≤100000):=Lib.hid (by
  have:=drv_bd s.length s (Nat.le_refl _)
  exact ⟨fun t ht=>by have:=this.1 t ht;omega,zu4⟩)
 have HD:Hid (driveL s=joinL (drvL s)):=Lib.hid rfl
 obtain ⟨a,ha⟩:∃ a,B s=a:=⟨_,rfl⟩
 have HSZ:Hid (a.size=s.length):=Lib.hid (by rw [← ha,size_B])
 rw [ha] at NN NS RS ⊢
 have H0:Hid (DrI w w (.slice none 0 0) []):=Lib.hid ⟨hGl,Kd.N_nil _ _ _ _ _,Below.refl _ _⟩
 clear hs hGl ha
 go_enter Tryz.func16,Tryz.ntmps16
 go_wp2_with fail
 go_loopw [3,4] (fun v3 v4 wx => ∃ (p:Nat) (X:List Tk),v4 = .int .i64 (p:Int)∧p≤a.size∧Hid (X.length≤3*p)∧Hid (DrI w wx v3 X)∧Hid (drvL s=X++drvL (s.drop p))) (fun _ v4 _=>a.size - (intOf v4).toNat)
 case atStart=>exact ⟨0,[],rfl,Nat.zero_le _,Lib.hid (Nat.zero_le _),H0,Lib.hid rfl⟩
 case round =>
  clear H0
  obtain ⟨p,X,rfl,hp,HXL,HI,HQ⟩:=hrel
  by_cases hlt:p<a.size
  ·have q1:decide ((p:Int)<(a.size:Int))=true:=decide_eq_true zu4
   have hps:p≤s.length:=by have:=HSZ.out;omega
   have hne:s.drop p≠[]:=by rw [Ne,List.drop_eq_nil_iff];have:=HSZ.out;omega
   have hdq:=drvL_eq hne
   have hsf:=tokL_suf (s.drop p)
   have hlt2:=tokL_lt hne
   have hbd:=tok_bd (s.drop p)
   obtain ⟨⟨o,r⟩,hR⟩:∃ R,tokL (s.drop p)=R:=⟨_,rfl⟩
   rw [hR] at hdq hsf hlt2 hbd
   dsimp only at hsf hlt2 hbd
   have hrs:r <:+ s:=hsf.trans (List.drop_suffix _ _)
   have hrl:=hrs.length_le
   rw [List.length_drop] at hlt2
   obtain ⟨q,hq⟩:∃ q,s.length - r.length=q:=⟨_,rfl⟩
   have hqd:s.drop q=r:=by rw [← hq];exact suf_drop hrs
   have hq1:p<q:=by omega
   have hq2:q≤a.size:=by have:=HSZ.out;omega
   obtain ⟨A1,c1,hv3⟩:=Kd.N_slice HI.out.row
   rw [List.length_map] at hv3
   have hxl:=HXL.out
   obtain ⟨m,hm⟩:∃ m,X.length=m:=⟨_,rfl⟩
   rw [hm] at hv3 hxl
   subst hv3
   cases o with
   | none =>
     have N1:=Lib.hid (NN.out p hps r hR)
     rw [hq] at N1
     have HQ2:Hid (drvL s=X++drvL (s.drop q)):=Lib.hid (by rw [HQ.out,hdq,hqd];rfl)
     clear hdq hsf hlt2 hbd hrs hrl hq hqd hR hne hps hm hxl
     go_wp2_with fail
     refine (N1.out _ HI.out.glob).mono ?_
     rintro e w2 ⟨⟨A3,c3,rfl⟩,hb⟩
     replace HI:=Lib.hid (HI.out.call hb)
     clear hb N1
     go_wp2_with fail
     go_roundw
     case rel=>exact ⟨q,X,by go_num,hq2,Lib.hid (by have:=HXL.out;omega),Lib.hid (HI.out.alloc _),HQ2⟩
     case measure=>simp [intOf];omega
   | some t =>
     obtain ⟨⟨k0,n0,x0,a0,s0⟩,hO⟩:∃ O,ofK t=O:=⟨_,rfl⟩
     have HO:=Lib.hid hO
     have N1:=Lib.hid (NS.out p hps t r hR k0 n0 x0 a0 s0 hO)
     rw [hq] at N1
     have HLN:Hid (((X.map ofK).length+1)*72≤140737488355328):=Lib.hid (by rw [List.length_map,hm];have:=HS.out;have:=HSZ.out;omega)
     by_cases hk:k0=1
     ·have h0:(ofK t).f0=k0:=by rw [hO]
      obtain ⟨n,al,self,rfl⟩:∃ n al self,t = .start n al self:=by
       rw [hk] at h0
       cases t with
       | start n al self=>exact ⟨n,al,self,rfl⟩
       | text x=>exact absurd (show (0:Int)=1 from h0) zu15
       | fin x=>exact absurd (show (2:Int)=1 from h0) zu15
       | comment x=>exact absurd (show (3:Int)=1 from h0) zu15
       | doctype x=>exact absurd (show (4:Int)=1 from h0) zu15
      have hn0:n0=B n:=by
       have:(ofK (Tk.start n al self)).f1=n0:=by rw [hO]
       exact this.symm
      have hnl:n.length≤100000:=by
       have h1:=(hbd _ rfl).2
       have h2:nmB (Tk.start n al self)=n.length:=rfl
       rw [List.length_drop] at h1
       have:=HS.out
       omega
      have e1:(k0 != 1)=false:=by rw [hk];rfl
      have hr2:=restL_suf (stateN n) n r
      have hr3:=(rest_bd (stateN n) n r).2
      have hr4:=hr2.length_le
      have hRT:∀ (tb:Nat) (v1:Value) (X1:List Tk) W,DrC w tb n0 v1 X1 W→Calls Tryz.prog 38 #[.string a,.int .i64 (q:Int),.int .i64 ((stateN n:Nat):Int),.string n0] W fun e w'=>(∃ A c,e = .returned (.tuple #[.slice A (restL (stateN n) n r).1.length c,.int .i64 ((s.length - (restL (stateN n) n r).2.length:Nat):Int)]) ∧
        Kd.F tkK w' (fun k=>w.heap.size≤k∧some k≠v1.ownBlock) A (restL (stateN n) n r).1.length ((restL (stateN n) n r).1.map ofK))∧Below W.heap.size W w':=fun tb v1 X1 W hD=>by
       have h:=RS.out q zu60 n hnl (stateN n) (stateN_le n) W hD.1.glob
       rw [hqd,← hn0] at h
       refine h.mono ?_
       rintro e w' ⟨⟨A,c,he,hF⟩,hb⟩
       exact ⟨⟨A,c,he,Kd.F_mono hF (fun k hk=>⟨Nat.le_trans hD.1.below.size hk,fun he=>by have:=Kd.N_lt hD.1.row k he.symm;omega⟩)⟩,hb⟩
      have hST:∀ W,Calls Tryz.prog 39 #[.string n0] W fun e w'=>e = .returned (.int .i64 ((stateN n:Nat):Int))∧Below W.heap.size W w':=fun W=>by
       rw [hn0];exact state_c n zu4 W
      have hdv:drv1 (some (Tk.start n al self),r)=(.start n al self::(restL (stateN n) n r).1,(restL (stateN n) n r).2):=rfl
      have hrs2:(restL (stateN n) n r).2 <:+ s:=hr2.trans hrs
      obtain ⟨⟨R1,R2⟩,hRR⟩:∃ x,restL (stateN n) n r=x:=⟨_,rfl⟩
      rw [hRR] at hRT hdv hr3 hr4 hrs2
      dsimp only at hRT hdv hr3 hr4 hrs2
      obtain ⟨q2,hq2'⟩:∃ q,s.length - R2.length=q:=⟨_,rfl⟩
      have hqd2:s.drop q2=R2:=by rw [← hq2'];exact suf_drop hrs2
      have hq3:q≤q2:=by omega
      have hq4:q2≤a.size:=by have:=HSZ.out;omega
      obtain ⟨stn,hstn⟩:∃ x,stateN n=x:=⟨_,rfl⟩
      rw [hstn] at hRT hST
      rw [hq2'] at hRT
      obtain ⟨m2,hm2⟩:∃ x,R1.length=x:=⟨_,rfl⟩
      rw [hm2] at hRT hr3
      obtain ⟨X1,hX1⟩:∃ x,X++[Tk.start n al self]=x:=⟨_,rfl⟩
      have HX1:=Lib.hid hX1
      have HX1L:Hid (X1.length≤3*p+1):=Lib.hid (by rw [← hX1,List.length_append];simp;omega)
      have HQ2:Hid (drvL s=(X1++R1)++drvL (s.drop q2)):=Lib.hid (by rw [HQ.out,hdq,hdv,hqd2,← hX1];simp)
      have RT:=Lib.hid hRT
      have ST:=Lib.hid hST
      have HM2:=Lib.hid hm2
      have HLN2:Hid (((X1.map ofK).length+m2)*72≤140737488355328):=Lib.hid (by rw [List.length_map];have:=HX1L.out;have:=HS.out;have:=HSZ.out;omega)
      clear hdq hsf hlt2 hbd hrs hrl hq hqd hR hne hps hm hxl hk hO h0 hn0 hnl hr2 hr4 hRT hST hdv hrs2 hRR hq2' hqd2 hstn hm2 hX1
      go_wp2_with fail
      refine (N1.out _ HI.out.glob).mono ?_
      rintro e w2 ⟨⟨A3,c3,rfl,h3,hF⟩,hb⟩
      have HP:Hid (∀ o:Obj,Kd.FK tkK (w2.alloc o) (fun k=>w.heap.size≤k∧some k≠(Value.slice A1 m c1).ownBlock) (⟨k0,n0,x0,a0,s0⟩:TkS) [.int .i64 k0,.string n0,.string x0,.slice A3 a0.length c3,.bool s0]):=Lib.hid (fun o=>k30_mkF _ _ (⟨k0,n0,x0,a0,s0⟩:TkS) h3 (Kd.F_mono (Kd.F_alloc hF o) (fun k hk=>⟨Nat.le_trans HI.out.below.size hk,fun he=>by have:=Kd.N_lt HI.out.row k he.symm;omega⟩)))
      replace HI:=Lib.hid (HI.out.call hb)
      clear hb N1 h3 hF
      have HC0:Hid (∀ w3,(w2.alloc (.cells #[.int .i64 k0,.string n0,.string x0,.slice A3 a0.length c3,.bool s0] 30)).grownBy w3 (Value.slice A1 m c1).ownBlock→w3.cell? ⟨w2.heap.size,0,none⟩=some (.int .i64 k0)∧w3.cell? ⟨w2.heap.size,1,none⟩=some (.string n0)):=Lib.hid (fun w3 hg=>by
       have hne:some w2.heap.size≠(Value.slice A1 m c1).ownBlock:=fun he=>by have:=Kd.N_lt HI.out.row _ he.symm;omega
       exact ⟨cell_grown hg ((World.cell?_alloc_at _ _ _ 0 rfl).trans rfl) hne,cell_grown hg ((World.cell?_alloc_at _ _ _ 1 rfl).trans rfl) hne⟩)
      go_wp2_with (first | ((with_reducible refine gate_builtin (b:=.append) (xs := #[.tmp 23,.tmp 25]) rfl ?_);at_builtin;refine Kd.N_append tkK (w0:=w) w.heap.size rfl (.tmp 23) (.tmp 25) 25 30 (.agg #[(.int .i64 0),(.string ⟨#[]⟩),(.string ⟨#[]⟩),(.slice none 0 0),(.bool false)]) 72 rfl Tryz.underlying25 infoK rfl zu15 zu15 (.slice A1 m c1) (X.map ofK) ⟨k0,n0,x0,a0,s0⟩ [.int .i64 k0,.string n0,.string x0,.slice A3 a0.length c3,.bool s0] (fun k=>w.heap.size≤k) (fun k=>w.heap.size≤k∧some k≠(Value.slice A1 m c1).ownBlock) rfl zu75 ?aP (fun _ hk=>hk) (fun _ hk=>Nat.le_trans (HI.out.alloc _).below.size hk) ?aO ?aB ?aS ?aL ?_;(case aP=>exact HP.out _);(case aO=>exact (HI.out.alloc _).row);(case aB=>exact (HI.out.alloc _).below);(case aS=>exact (HI.out.alloc _).below.size);(case aL=>exact HLN.out);intro v1 w3 ho hb hg hat;obtain ⟨z0,z1⟩:=HC0.out _ hg;have HI3:Hid (DrI w w3 v1 X1):=Lib.hid (DrI.grown HG.out (by rw [← HX1.out,List.map_append,List.map_singleton,HO.out];exact ho) hb);clear ho hb hg hat))
      have HS0:DrC w w2.heap.size n0 v1 X1 (w3.drew):=DrC.drew ⟨HI3.out,z1⟩
      go_region_held3 (fun W=>DrI w W v1 X1∧W.cell? ⟨w2.heap.size,1,none⟩=some (.string n0)) (first|with_reducible assumption|with_reducible exact HS0|exact DrC.call hb zu42) (first | (go_at_call 39;with_reducible refine (ST.out _).mono ?_;rintro e w' ⟨rfl,hb⟩) | (go_at_call 38;with_reducible refine (RT.out _ _ _ _ (by with_reducible assumption:DrC w w2.heap.size n0 v1 X1 _)).mono ?_;rintro e w' ⟨⟨A5,c5,rfl,hF5⟩,hb⟩))
      have HI5:=Lib.hid (And.left (by with_reducible assumption:DrC w w2.heap.size n0 v1 X1 w'))
      go_wp2_with (first | ((with_reducible refine gate_builtin (b:=.append) (xs := #[.tmp 41,.tmp 42]) rfl ?_);at_builtin;refine Kd.N_append_rows tkK (w0:=w) w.heap.size rfl (.tmp 41) (.tmp 42) 25 30 (.agg #[(.int .i64 0),(.string ⟨#[]⟩),(.string ⟨#[]⟩),(.slice none 0 0),(.bool false)]) 72 rfl Tryz.underlying25 infoK rfl zu15 zu15 v1 (X1.map ofK) (R1.map ofK) A5 m2 c5 (fun k=>w.heap.size≤k) (fun k=>w.heap.size≤k∧some k≠v1.ownBlock) rfl rfl ?aO ?aR (fun _ hk=>hk) (fun _ hk=>Nat.le_trans HI5.out.below.size hk) ?aB ?aS ?aL ?_;(case aO=>exact HI5.out.row);(case aR=>exact hF5);(case aB=>exact HI5.out.below);(case aS=>exact HI5.out.below.size);(case aL=>exact HLN2.out);intro v2 w6 ho hb hg hat))
      go_roundw
      case rel=>exact ⟨q2,X1++R1,by go_num,hq4,Lib.hid (by rw [List.length_append];have:=HX1L.out;have:=HM2.out;omega),Lib.hid (DrI.grown HG.out (by rw [List.map_append];exact ho) hb),HQ2⟩
      case measure=>simp [intOf];omega
     ·have e1:(k0 != 1)=true:=by rw [bne_iff_ne];exact hk
      have HQ2:Hid (drvL s=(X++[t])++drvL (s.drop q)):=Lib.hid (by
       rw [HQ.out,hdq,hqd]
       have:drv1 (some t,r)=([t],r):=by
        have h0:(ofK t).f0=k0:=by rw [hO]
        cases t with
        | start n al self=>exact absurd (h0.symm:k0=1) hk
        | _=>rfl
       rw [this];simp)
      clear hdq hsf hlt2 hbd hrs hrl hq hqd hR hne hps hm hxl hk hO
      go_wp2_with fail
      refine (N1.out _ HI.out.glob).mono ?_
      rintro e w2 ⟨⟨A3,c3,rfl,h3,hF⟩,hb⟩
      have HP:Hid (∀ o:Obj,Kd.FK tkK (w2.alloc o) (fun k=>w.heap.size≤k∧some k≠(Value.slice A1 m c1).ownBlock) (⟨k0,n0,x0,a0,s0⟩:TkS) [.int .i64 k0,.string n0,.string x0,.slice A3 a0.length c3,.bool s0]):=Lib.hid (fun o=>k30_mkF _ _ (⟨k0,n0,x0,a0,s0⟩:TkS) h3 (Kd.F_mono (Kd.F_alloc hF o) (fun k hk=>⟨Nat.le_trans HI.out.below.size hk,fun he=>by have:=Kd.N_lt HI.out.row k he.symm;omega⟩)))
      replace HI:=Lib.hid (HI.out.call hb)
      clear hb N1 h3 hF
      have HC0:Hid (∀ w3,(w2.alloc (.cells #[.int .i64 k0,.string n0,.string x0,.slice A3 a0.length c3,.bool s0] 30)).grownBy w3 (Value.slice A1 m c1).ownBlock→w3.cell? ⟨w2.heap.size,0,none⟩=some (.int .i64 k0)∧w3.cell? ⟨w2.heap.size,1,none⟩=some (.string n0)):=Lib.hid (fun w3 hg=>by
       have hne:some w2.heap.size≠(Value.slice A1 m c1).ownBlock:=fun he=>by have:=Kd.N_lt HI.out.row _ he.symm;omega
       exact ⟨cell_grown hg ((World.cell?_alloc_at _ _ _ 0 rfl).trans rfl) hne,cell_grown hg ((World.cell?_alloc_at _ _ _ 1 rfl).trans rfl) hne⟩)
      go_wp2_with (first | ((with_reducible refine gate_builtin (b:=.append) (xs := #[.tmp 23,.tmp 25]) rfl ?_);at_builtin;refine Kd.N_append tkK (w0:=w) w.heap.size rfl (.tmp 23) (.tmp 25) 25 30 (.agg #[(.int .i64 0),(.string ⟨#[]⟩),(.string ⟨#[]⟩),(.slice none 0 0),(.bool false)]) 72 rfl Tryz.underlying25 infoK rfl zu15 zu15 (.slice A1 m c1) (X.map ofK) ⟨k0,n0,x0,a0,s0⟩ [.int .i64 k0,.string n0,.string x0,.slice A3 a0.length c3,.bool s0] (fun k=>w.heap.size≤k) (fun k=>w.heap.size≤k∧some k≠(Value.slice A1 m c1).ownBlock) rfl zu75 ?aP (fun _ hk=>hk) (fun _ hk=>Nat.le_trans (HI.out.alloc _).below.size hk) ?aO ?aB ?aS ?aL ?_;(case aP=>exact HP.out _);(case aO=>exact (HI.out.alloc _).row);(case aB=>exact (HI.out.alloc _).below);(case aS=>exact (HI.out.alloc _).below.size);(case aL=>exact HLN.out);intro v1 w3 ho hb hg hat;obtain ⟨z0,z1⟩:=HC0.out _ hg))
      go_roundw
      case rel=>exact ⟨q,X++[t],by go_num,hq2,Lib.hid (by rw [List.length_append];have:=HXL.out;simp;omega),Lib.hid (DrI.grown HG.out zu49 hb),HQ2⟩
      case measure=>simp [intOf];omega
  ·have hpa:p=a.size:=by omega
   have q9:decide ((p:Int)<(a.size:Int))=false:=decide_eq_false zu4
   have hXe:drvL s=X:=by rw [HQ.out,List.drop_of_length_le zu60,drvL_nil,List.append_nil]
   have HX:=Lib.hid hXe
   obtain ⟨A1,c1,hv3⟩:=Kd.N_slice HI.out.row
   rw [List.length_map] at hv3
   subst hv3
   have J1:Hid (∀ W,(∃ k,W=wr.drewN k)→Calls Tryz.prog 40 #[.slice A1 X.length c1] W fun e w'=>(∃ v,e = .returned v∧Kd.V tkK 30 w' W.heap.size (fun k=>w.heap.size≤k∧k<w'.heap.size) v ((joinL (drvL s)).map ofK))∧Below W.heap.size W w'):=Lib.hid (fun W hW=>by
    obtain ⟨k,rfl⟩:=hW
    have hv:Kd.V tkK 30 (wr.drewN k) (wr.drewN k).heap.size (fun j=>w.heap.size≤j∧j<(wr.drewN k).heap.size) (.slice A1 (drvL s).length c1) ((drvL s).map ofK):=by
     rw [hXe];exact Kd.V_drewN (Kd.V_mono (Kd.V_bound (Kd.N_V HI.out.row)) (fun k hk=>hk)) k
    have:=JN.out A1 c1 HBD.out (wr.drewN k) HI.out.below.size hv
    rw [hXe] at this ⊢
    exact this)
   clear hXe
   go_wp2_with fail
   refine (J1.out _ ⟨0,rfl⟩).mono ?_
   rintro e w2 ⟨⟨v,rfl,hV⟩,hb⟩
   go_wp2_with fail
   go_ret
   refine ⟨⟨_,rfl,?_⟩,HI.out.below.trans (hb.mono HI.out.below.size)⟩
   rw [HD.out]
   exact hV
end Hand
end

section
namespace Hand
open Go Go.RowKit Pl Pb K0 Sa St Go.Proofs.YtclkdmmgibgamaaGreatDoor.Pure YtclkdmmgibgamaaGreatDoorW.PrintWords YtclkdmmgibgamaaGreatDoorW.PrintLast YtclkdmmgibgamaaGreatDoorW.PrintMore
abbrev mTy:TypeId:=85
def en3 (F1 F2 F3:Value):Array MapEntry := #[⟨.int .i64 1,F1,0⟩,⟨.int .i64 2,F2,1⟩,⟨.int .i64 0,F3,2⟩]
theorem ck_run (b:Bool) (W:World) (k:Int):(Instr.checkKey b 10000 3 (.int .i64 k)).run Tryz.prog W = .ok () W:=by
 show (Instr.checkKey b (9999+1) 3 (.int .i64 k)).run Tryz.prog W=_
 rw [Instr.checkKey]
 simp [run_underlying Tryz.underlying3]
theorem getObj_run {P:Program} {W:World} {r:Nat} {es:Array MapEntry} {k:Nat} (h:W.heap[r]? = some (.map es k)):(getObj r).run P W = .ok (.map es k) W:=by simp [getObj,Sem.run,h]
theorem setObj_run {P:Program} {W:World} {r:Nat} {es:Array MapEntry} {k:Nat} (o':Obj) (h:W.heap[r]? = some (.map es k)):(setObj r o').run P W = .ok () { W with heap:=W.heap.setIfInBounds r o' }:=by simp [setObj,Sem.run,h]
theorem upd_run {W:World} {r:Nat} {es:Array MapEntry} {clock:Nat} {k:Int} {v:Value} (h:W.heap[r]? = some (.map es clock)) (hf:∀ i,Instr.findNow (.int .i64) (.int .i64 k) es.toList i=some none) :
  ∃ W',(Instr.mapUpdate mTy (.map (some r)) (.int .i64 k) v).run Tryz.prog W = .ok () W'∧W'.heap[r]? = some (.map (es.push ⟨.int .i64 k,v,clock⟩) (clock+1))∧Below r W W'∧∀ j,j≠r→W'.heap[j]? = W.heap[j]? := by
 have hlt:=blk_lt h
 refine ⟨{ W with heap:=W.heap.setIfInBounds r (.map (es.push ⟨.int .i64 k,v,clock⟩) (clock+1)) },?_,?_,?_,?_⟩
 ·simp [Instr.mapUpdate,run_underlying Tryz.underlying85,getObj_run h,setObj_run _ h,ck_run,run_underlying Tryz.underlying3,Instr.findKey,hf]
 ·simp [hlt]
 ·exact ⟨rfl,rfl,rfl,zu19,fun j hj=>by simp [Array.getElem?_setIfInBounds];omega⟩
 ·intro j hj
  simp [Array.getElem?_setIfInBounds,Ne.symm hj]
theorem look_run {W:World} {r:Nat} {es:Array MapEntry} {clock:Nat} {k:Int} {F:Value} {j:Nat} (h:W.heap[r]? = some (.map es clock)) (hf:Instr.findNow (.int .i64) (.int .i64 k) es.toList 0=some (some (j,F))) :
  (Instr.lookup mTy (.map (some r)) (.int .i64 k) true).run Tryz.prog W = .ok (.tuple #[F,.bool true]) W:=by
 simp [Instr.lookup,run_underlying Tryz.underlying85,getObj_run h,ck_run,run_underlying Tryz.underlying3,Instr.findKey,hf]
theorem look_none {W:World} {r:Nat} {es:Array MapEntry} {clock:Nat} {k:Int} (h:W.heap[r]? = some (.map es clock)) (hf:Instr.findNow (.int .i64) (.int .i64 k) es.toList 0=some none) :
  (Instr.lookup mTy (.map (some r)) (.int .i64 k) true).run Tryz.prog W = .ok (.tuple #[.nilFunc,.bool false]) W:=by
 have hz:(zeroValue 83).run Tryz.prog W = .ok .nilFunc W:=Tryz.zeroValue83 W
 simp [Instr.lookup,run_underlying Tryz.underlying85,getObj_run h,ck_run,run_underlying Tryz.underlying3,Instr.findKey,hf,hz]
theorem el_at {w:World} {A:Option Addr} {n c b:Nat} {ok:Nat→Prop} {l:List Tk} (h:Kd.V tkK 30 w b ok (.slice A n c) (l.map ofK)) {i:Nat} (hi:i<l.length) :
  ∃ ad A3 c3,A=some ad∧w.cell? (ad.add (i*5))=some (.int .i64 (ofK l[i]).f0)∧w.cell? ⟨(ad.add (i*5)).block,(ad.add (i*5)).off+1,none⟩=some (.string (ofK l[i]).f1) ∧
    w.cell? ⟨(ad.add (i*5)).block,(ad.add (i*5)).off+2,none⟩=some (.string (ofK l[i]).f2)∧w.cell? ⟨(ad.add (i*5)).block,(ad.add (i*5)).off+3,none⟩=some (.slice A3 (ofK l[i]).f3.length c3) ∧
    w.cell? ⟨(ad.add (i*5)).block,(ad.add (i*5)).off+4,none⟩=some (.bool (ofK l[i]).f4):=by
 have hn:=(Kd.V_at h).1
 rw [List.length_map] at hn
 obtain ⟨ad,_,_,e,_⟩:=at_T30 (Kd.V_reads' h).2.2 (i:Int) zu4 zu45
 subst e
 obtain ⟨cs,hcl,hF,hcc⟩:=Kd.V_get h z30 (i:Int) zu4 zu4
 have hr:(l.map ofK).getD (i:Int).toNat z30=ofK l[i]:=rd_map hi
 rw [hr] at hF
 obtain ⟨A3,c3,rfl,h3,h4⟩:=k30_openF hF
 exact ⟨ad,A3,c3,rfl,hcc 0 _ rfl,by rw [← add_field _ _ 1 zu4];exact hcc 1 _ rfl,by rw [← add_field _ _ 2 zu4];exact hcc 2 _ rfl,by rw [← add_field _ _ 3 zu4];exact hcc 3 _ rfl,by rw [← add_field _ _ 4 zu4];exact hcc 4 _ rfl⟩
end Hand
end

section
namespace Hand
open Go Go.RowKit Pl Pb YtclkdmmgibgamaaGreatDoorW.PrintWords YtclkdmmgibgamaaGreatDoorW.PrintLast YtclkdmmgibgamaaGreatDoorW.PrintMore
def bkF (o:List (List UInt8)):(k:Nat)→k≤o.length→List (Fin o.length)
 | 0,_=>[]
 | k+1,h=>⟨k,h⟩::bkF o k (Nat.le_of_succ_le h)
theorem bk_all (o:List (List UInt8)):∀ (k:Nat) (h:k≤o.length) (j:Nat) (hj:j<k),(⟨j,Nat.lt_of_lt_of_le hj h⟩:Fin o.length)∈bkF o k h:=by
 intro k
 induction k with
 | zero=>intro h j hj;omega
 | succ k ih =>
   intro h j hj
   rw [bkF]
   by_cases e:j=k
   ·subst e;exact List.mem_cons_self
   ·exact List.mem_cons_of_mem _ (ih _ j zu4)
theorem bk_pre (o:List (List UInt8)):∀ (k:Nat) (h:k≤o.length) (p:List (Fin o.length)) (x:Fin o.length),p++[x] <+: bkF o k h→x.val<k∧∀ (j:Nat) (hj:j<k),x.val<j→(⟨j,Nat.lt_of_lt_of_le hj h⟩:Fin o.length)∈p:=by
 intro k
 induction k with
 | zero =>
   intro h p x hp
   have:=hp.length_le
   simp [bkF] at this
 | succ k ih =>
   intro h p x hp
   rw [bkF] at hp
   cases p with
   | nil =>
     rw [List.nil_append,List.cons_prefix_cons] at hp
     rw [hp.1]
     exact ⟨Nat.lt_succ_self k,fun j hj hlt=>by simp at hlt;omega⟩
   | cons y p =>
     rw [List.cons_append,List.cons_prefix_cons] at hp
     obtain ⟨rfl,hp⟩:=hp
     obtain ⟨h1,h2⟩:=ih _ p x hp
     refine ⟨zu4,fun j hj hlt => ?_⟩
     by_cases e:j=k
     ·subst e;exact List.mem_cons_self
     ·exact List.mem_cons_of_mem _ (h2 j zu4 hlt)
theorem last_none (n:List UInt8):∀ (o:List (List UInt8)),(∀ x∈o,x≠n)→lastIx n o=none:=by
 intro o
 induction o with
 | nil=>intro _;rfl
 | cons x r ih =>
   intro h
   rw [lastIx,ih (fun y hy=>h y (List.mem_cons_of_mem _ hy))]
   exact if_neg (h x List.mem_cons_self)
theorem last_some (n:List UInt8):∀ (o:List (List UInt8)) (i:Nat) (hi:i<o.length),o[i]=n→(∀ j (hj:j<o.length),i<j→o[j]≠n)→lastIx n o=some i:=by
 intro o
 induction o with
 | nil=>intro i hi;exact absurd hi zu19
 | cons x r ih =>
   intro i hi he hn
   cases i with
   | zero =>
     have:lastIx n r=none:=last_none n r fun y hy=>by
      obtain ⟨j,hj,e⟩:=List.getElem_of_mem hy
      have:=hn (j+1) zu25 zu4
      rw [List.getElem_cons_succ,e] at this
      exact this
     rw [lastIx,this]
     exact if_pos he
   | succ i =>
     have:=ih i (by simp at hi;omega) (by simpa using he) (fun j hj hlt=>by
      have:=hn (j+1) zu25 zu4
      rwa [List.getElem_cons_succ] at this)
     rw [lastIx,this]
abbrev bkV (o:List (List UInt8)) (x:Fin o.length):Array Value := #[.int .i64 ((x.val:Nat):Int),.string (B o[x])]
theorem back_any (A:Option Addr) (m c:Nat) (w:World):Calls Tryz.prog 98 #[.slice A m c] w fun e w' =>
  e = .returned (.func (.func 134) #[] #[.pointer (some ⟨w.heap.size,0,none⟩)])∧w'=w.alloc (.cells #[.slice A m c] 42):=by
 go_enter Tryz.func98,Tryz.ntmps98
 go_wp2
 go_ret
 exact ⟨rfl,rfl⟩
attribute [local go_sem] Oper.semAt_some
theorem back1_in (n l Bs n₀:Nat) (A:Option Addr) (c:Nat) (o:List (List UInt8)) (hn:1≤n) (hs:o.length≤1000000) (J Jx:List (Fin o.length)→World→Prop)
  (hY:∀ pre x W,J pre W→pre.length<o.length+1→YieldAt Fence.wide (n - 1) Tryz.prog l (bkV o x) W fun e W' =>
    (e = .returned (.bool true)∧J (pre++[x]) W'∧Below n₀ W W')∨(e = .returned (.bool false)∧Jx (pre++[x]) W'))
  (W:World) (hBs:Bs<n₀) (hc:W.cell? ⟨Bs,0,none⟩=some (.slice A o.length c)) (hA:∀ j (hj:j<o.length),∃ g,A=some ⟨g,0,none⟩∧g<n₀∧W.cell? ⟨g,j,none⟩=some (.string (B o[j]))) (h0:J [] W) :
  CallsIn Fence.wide n Tryz.prog 134 #[.func (.yield l) #[] #[],.pointer (some ⟨Bs,0,none⟩)] W fun e W'=>(∃ v,e = .returned v) ∧
   ((∃ ys,ys=bkF o o.length (Nat.le_refl _)∧J ys W')∨(∃ pre,pre <+: bkF o o.length (Nat.le_refl _)∧Jx pre W')):=by
 refine callsIn_of_wp Tryz.func134 rfl trivial ?_ rfl
 simp only [Tryz.ntmps134,List.size_toArray,List.length_cons,List.length_nil,Nat.reduceAdd,Nat.reduceSub,Array.replicate_succ,Array.replicate_zero,List.push_toArray,List.append_toArray,List.nil_append,List.cons_append]
 have w0:wrap64 ((o.length:Int) - 1)=(o.length:Int) - 1:=by unfold wrap64;omega
 have HA:=Lib.hid hA
 have HC:=Lib.hid hc
 clear hA
 gi_wp2
 gi_loopw [3] (fun i wr => ∃ (k:Nat) (pre:List (Fin o.length)) (hk:k≤o.length),i = .int .i64 ((k:Int) - 1)∧J pre wr∧Hid (pre++bkF o k hk=bkF o o.length (Nat.le_refl _))∧Hid (Below n₀ W wr)) (fun i _=>(intOf i+1).toNat)
 case atStart=>exact ⟨o.length,[],Nat.le_refl _,by first|rfl | (rw [w0];done)|go_num,h0,Lib.hid rfl,Lib.hid (Below.refl _ _)⟩
 case round =>
  obtain ⟨k,pre,hk,rfl,hJs,HP,HB⟩:=hrel
  cases k with
  | zero =>
    have q:decide ((0:Int)≤((0:Nat):Int) - 1)=false:=rfl
    gi_wp2
    go_end0
    exact ⟨⟨_,rfl⟩,.inl ⟨pre,by rw [← HP.out,bkF,List.append_nil],hJs⟩⟩
  | succ k =>
    have hcc:=(HB.out.cell (p:=⟨Bs,0,none⟩) hBs).trans HC.out
    obtain ⟨g,rfl,hg,hcell⟩:=HA.out k hk
    have hcell':=(HB.out.cell (p:=⟨g,k,none⟩) hg).trans hcell
    have hlen:pre.length<o.length+1:=by
     have h1:=congrArg List.length HP.out
     have h2:∀ (m:Nat) (h:m≤o.length),(bkF o m h).length=m:=by
      intro m
      induction m with
      | zero=>intro _;rfl
      | succ m ih=>intro h;rw [bkF,List.length_cons,ih]
     rw [List.length_append,h2,h2] at h1
     omega
    obtain ⟨fn,tmps,assign,body,hy,hR⟩:=hY pre ⟨k,hk⟩ wr hJs hlen
    have HP':=Lib.hid (show (pre++[⟨k,hk⟩])++bkF o k (Nat.le_of_succ_le hk)=bkF o o.length (Nat.le_refl _) by rw [← HP.out,bkF];simp)
    have e1:(((k+1:Nat):Int) - 1)=(k:Int):=by omega
    rw [e1]
    have q:decide ((0:Int)≤(k:Int))=true:=decide_eq_true zu4
    have qk:k<o.length:=hk
    have wk:wrap64 ((k:Int) - 1)=(k:Int) - 1:=by unfold wrap64;omega
    obtain ⟨b,hb⟩:∃ b,B o[k]=b:=⟨_,rfl⟩
    simp only [bkV,Fin.getElem_fin] at hy
    rw [hb] at hy hcell'
    clear hcell hlen e1
    gi_wp2
    refine hR.mono ?_
    rintro e W3 (⟨rfl,hJ3,hk3⟩|⟨rfl,hJx3⟩)
    ·gi_wp2
     go_roundw
     case rel=>exact ⟨k,pre++[⟨k,hk⟩],Nat.le_of_succ_le hk,by first|rfl | (rw [wk];done)|go_num,hJ3,HP',Lib.hid (HB.out.trans hk3)⟩
     case measure=>simp [intOf]
    ·gi_wp2
     refine bodyPost_ret (results_none rfl _ _ _) rfl ?_
     exact ⟨⟨_,rfl⟩,.inr ⟨pre++[⟨k,hk⟩],⟨_,HP'.out⟩,hJx3⟩⟩
end Hand
end

section
namespace Hand
open Go Go.RowKit Pl Pb YtclkdmmgibgamaaGreatDoorW.PrintWords YtclkdmmgibgamaaGreatDoorW.PrintLast YtclkdmmgibgamaaGreatDoorW.PrintMore
theorem back_stops (n Bs n₀:Nat) (A:Option Addr) (c:Nat) (o:List (List UInt8)) (hn:1≤n) (hs:o.length≤1000000) (w:World) (hn₀:n₀≤w.heap.size) (hBs:Bs<n₀) (hc:w.cell? ⟨Bs,0,none⟩=some (.slice A o.length c))
  (hA:∀ j (hj:j<o.length),∃ g,A=some ⟨g,0,none⟩∧g<n₀∧w.cell? ⟨g,j,none⟩=some (.string (B o[j]))) :
  SeqStopsK Fence.wide n Tryz.prog 134 #[.pointer (some ⟨Bs,0,none⟩)] (bkV o) (Below n₀) (fun ys=>ys=bkF o o.length (Nat.le_refl _)) (fun pre=>pre <+: bkF o o.length (Nat.le_refl _)) (o.length+1) w :=
 fun l J Jx W hW _ _ hY h0=>back1_in n l Bs n₀ A c o hn hs J Jx hY W hBs ((hW.cell (p:=⟨Bs,0,none⟩) (Nat.lt_of_lt_of_le hBs hn₀)).trans hc)
  (fun j hj=>by obtain ⟨g,h1,h2,h3⟩:=hA j hj;exact ⟨g,h1,h2,(hW.cell (p:=⟨g,j,none⟩) (Nat.lt_of_lt_of_le h2 hn₀)).trans h3⟩) h0
theorem cells_ne {W:World} {row:Option Nat} (hr:∀ r,row=some r→∃ o,W.heap[r]? = some o∧o.isCells=false) {k:Nat} {cs:Array Value} {t:TypeId} {fz:Nat×Nat} (h:W.heap[k]? = some (.cells cs t fz)):some k≠row:=fun e=>by
 obtain ⟨o,ho,hc⟩:=hr k e.symm
 rw [h] at ho
 obtain rfl:=Option.some.inj ho
 cases hc
theorem own_turn {W W':World} {row:Option Nat} {lo:Nat} {e:TypeId} {s n:Nat} {v:Value} {xs:List Value} (h:W.ownsRow lo e s v n xs) (hg:W.grownBy W' row) (hr:∀ r,row=some r→∃ o,W.heap[r]? = some o∧o.isCells=false):W'.ownsRow lo e s v n xs:=by
 refine own_other h hg ?_
 cases hv:v.ownBlock with
 | none=>exact .inl rfl
 | some k =>
   obtain ⟨c,fz,hc⟩:=own_kind h k hv
   exact .inr (cells_ne hr hc)
theorem PgAt.turn {lo pb fb:Nat} {z:Value} {g:Pg} {W W':World} {row:Option Nat} (h:PgAt lo pb fb z g W) (hg:W.grownBy W' row) (hr:∀ r,row=some r→∃ o,W.heap[r]? = some o∧o.isCells=false):PgAt lo pb fb z g W':=by
 obtain ⟨p,v,y,hp,hf⟩:=h.fl
 exact ⟨h.le,blk_grown h.blk hg (cells_ne hr h.blk),⟨p,v,y,hp,⟨hf.le,blk_grown hf.blk hg (cells_ne hr hf.blk),own_turn hf.told hg hr,own_turn hf.bl hg hr,hf.ne⟩⟩,own_turn h.op hg hr⟩
structure EnS (lo pb fb:Nat) (g:Pg) (w W:World):Prop where
 pg:IsPg lo pb fb g W
 below:Below lo w W
 pk:Pk pb fb w W
theorem EnS.turn {lo pb fb:Nat} {g:Pg} {w W W':World} {row:Option Nat} (h:EnS lo pb fb g w W) (hlo:lo≤w.heap.size) (hg:W.grownBy W' row) (hr:∀ r,row=some r→w.heap.size≤r∧∃ o,W.heap[r]? = some o∧o.isCells=false):EnS lo pb fb g w W':=by
 obtain ⟨z,hz⟩:=h.pg
 refine ⟨⟨z,hz.turn hg (fun r e=>(hr r e).2)⟩,h.below.grown hg (Nat.le_trans hlo h.below.size) (fun r e=>Nat.le_trans hlo (hr r e).1),fun k o hk h1 h2 h3 h4 => ?_⟩
 exact (hg.block k (blk_lt (h.pk k o hk h1 h2 h3 h4)) (fun e=>by have:=(hr k e.symm).1;have:=blk_lt hk;omega)).trans (h.pk k o hk h1 h2 h3 h4)
theorem EnS.call {lo pb fb:Nat} {g:Pg} {w W W':World} (h:EnS lo pb fb g w W) (hlo:lo≤w.heap.size) (hb:Below W.heap.size W W'):EnS lo pb fb g w W':=by
 obtain ⟨z,hz⟩:=h.pg
 exact ⟨⟨z,hz.call hb⟩,h.below.trans (hb.mono (Nat.le_trans hlo h.below.size)),h.pk.trans (Pk.of_below hb)⟩
theorem EnS.fin {lo pb fb D:Nat} {g:Pg} {w W:World} (h:EnS lo pb fb g w W) (hlo:lo≤w.heap.size) (hD:w.heap.size≤D) (hK:W.heap[D]? = some (.deferred (some []))):EnS lo pb fb g w (W.putObj D (.deferred none)) :=
 h.turn hlo (grownBy_putObj' W D _) (fun r e=>by cases e;exact ⟨hD,_,hK,rfl⟩)
theorem EnS.dec {lo pb fb:Nat} {z:Value} {fl:Fl} {o:List (List UInt8)} {k:Nat} {w W:World} {X:Int} {n:Nat} (h:EnS lo pb fb ⟨fl,o,k⟩ w W) (hle:lo≤pb) (hz:PgAt lo pb fb z ⟨fl,o,k⟩ W) (hX:X=n):EnS lo pb fb ⟨fl,o,n⟩ w (W.setCell ⟨pb,2,none⟩ (.int .i64 X)) :=
 ⟨⟨z,hz.setk hX⟩,h.below.setCell (p:=⟨pb,2,none⟩) hle _,h.pk.trans Pk.set⟩
theorem own_take {w:World} {lo n cap g:Nat} {o:List (List UInt8)} (h:w.ownsRow lo 9 1 (.slice (some ⟨g,0,none⟩) n cap) n (nmV o)) (i:Nat) (hi:i≤n):w.ownsRow lo 9 1 (.slice (some ⟨g,0,none⟩) i cap) (o.take i).length (nmV (o.take i)):=by
 have hl:o.length=n:=by have:=h.1;rw [nmV_length] at this;omega
 have hti:(o.take i).length=i:=by rw [List.length_take];omega
 rw [hti]
 rcases h.2 with ⟨h1,_⟩|⟨g',cap',cur,h1,hb,hg,hnc,hcm,hcs,htake⟩
 ·cases h1
 obtain ⟨rfl,rfl⟩:g=g'∧cap=cap':=by simpa using h1
 refine ⟨by rw [nmV_length,hti,Nat.mul_one],.inr ⟨g,cap,cur,rfl,hb,hg,zu4,hcm,hcs,?_⟩⟩
 rw [Nat.mul_one] at htake ⊢
 rw [show nmV (o.take i)=(nmV o).take i by simp [nmV,List.map_take],← htake,List.take_take,Nat.min_eq_left hi]
theorem own_cap {w:World} {lo n cap:Nat} {A:Option Addr} {e s:Nat} {xs:List Value} (h:w.ownsRow lo e s (.slice A n cap) n xs):n≤cap:=by
 rcases h.2 with ⟨h1,rfl⟩|⟨g',cap',cur,h1,hb,hg,hnc,_⟩
 ·exact Nat.zero_le _
 ·obtain ⟨_,rfl⟩:_∧cap=cap':=by simpa using h1
  exact hnc
attribute [local go_sem] Oper.semAt_some
theorem end_in (lo pb fb:Nat) (g:Pg) (n:List UInt8) (k0:Int) (x0:ByteArray) (A0:Option Addr) (m0 c0:Nat) (s0:Bool) (w:World) (h:IsPg lo pb fb g w) (hz:flZ g.fl≤100000) (hk:g.kept≤1000000) (hol:g.op.length≤1000000) :
  CallsIn Fence.wide 8 Tryz.prog 60 #[.pointer (some ⟨pb,0,none⟩),.agg (tkAgg k0 (B n) x0 A0 m0 c0 s0)] w (PgTo lo pb fb (pgEnd g n) w):=by
 obtain ⟨z,h⟩:=h
 obtain ⟨fl,o,kept⟩:=g
 have hle:=h.le
 have hlt:=h.lt
 have hlo:=h.base
 obtain ⟨A,c,rfl⟩:=own_slice h.op
 dsimp only at hz hk hol
 obtain ⟨nb,hnb⟩:∃ b,B n=b:=⟨_,rfl⟩
 have HNB:=Lib.hid hnb
 rw [hnb]
 clear hnb
 obtain ⟨W0,hW0⟩:∃ W0,((w.alloc (.cells #[.pointer (some ⟨pb,0,none⟩)] 78)).alloc (.cells (tkAgg k0 nb x0 A0 m0 c0 s0) 30)).alloc (.cells #[.slice A o.length c] 42)=W0:=⟨_,rfl⟩
 have hz0:W0.heap.size=w.heap.size+3:=by rw [← hW0];simp
 have hB0:Below w.heap.size w W0:=by
  rw [← hW0]
  exact (((Below.refl _ w).alloc (Nat.le_refl _) _).alloc zu19 _).alloc zu25 _
 have h0:=h.call hB0
 have kp:W0.cell? ⟨w.heap.size,0,none⟩=some (.pointer (some ⟨pb,0,none⟩)):=by
  rw [← hW0]
  exact cell_alloc_l _ (cell_alloc_l _ (cell_new_l w _ _).1)
 have Tt:W0.heap[w.heap.size+1]? = some (.cells (tkAgg k0 nb x0 A0 m0 c0 s0) 30 (0,0)):=by
  rw [← hW0]
  have:=heap_alloc_new (w.alloc (.cells #[.pointer (some ⟨pb,0,none⟩)] 78)) (.cells (tkAgg k0 nb x0 A0 m0 c0 s0) 30)
  rw [World.size_alloc] at this
  exact blk_alloc this _
 have ks:W0.cell? ⟨w.heap.size+1+1,0,none⟩=some (.slice A o.length c):=by
  rw [← hW0]
  have c2:=(cell_new_l ((w.alloc (.cells #[.pointer (some ⟨pb,0,none⟩)] 78)).alloc (.cells (tkAgg k0 nb x0 A0 m0 c0 s0) 30)) (.slice A o.length c) 42).1
  simp only [World.size_alloc] at c2
  exact c2
 have hA:∀ j (hj:j<o.length),∃ g,A=some ⟨g,0,none⟩∧g<W0.heap.size∧W0.cell? ⟨g,j,none⟩=some (.string (B o[j])):=fun j hj=>by
  rcases h0.op.2 with ⟨h1,hl⟩|⟨g,cap,cur,h1,_,hg,_⟩
  ·have:o.length=0:=hl
   omega
  ·obtain ⟨rfl,_⟩:A=some ⟨g,0,none⟩∧c=cap:=by simpa using h1
   refine ⟨g,rfl,blk_lt hg,?_⟩
   have:=h0.op.cells (g:=g) rfl j (.string (B o[j])) (by simp [nmV,hj])
   rwa [add_plain] at this
 have hcap:=own_cap h0.op
 have hfb:fb<w.heap.size:=h.fl.lt
 have hpb0:W0.heap[w.heap.size]? = some (.cells #[.pointer (some ⟨pb,0,none⟩)] 78 (0,0)):=by
  rw [← hW0]
  exact blk_alloc (blk_alloc (heap_alloc_new w _) _) _
 have hW0':=hW0
 unfold tkAgg at hW0'
 have c1:=h.c1
 refine callsIn_of_wp_marks Tryz.func60 rfl trivial ?_ rfl
 simp only [Tryz.ntmps60,List.size_toArray,List.length_cons,List.length_nil,Nat.reduceAdd,Nat.reduceSub,Array.replicate_succ,Array.replicate_zero,List.push_toArray,List.append_toArray,List.nil_append,List.cons_append]
 unfold tkAgg
 gi_wp2_with (refine ⟨trivial,?_⟩;gi_at_call 98;refine (callsIn_wide.2 (back_any _ _ _ _)).mono ?_;rintro e w' ⟨rfl,rfl⟩)
 try rw [hW0']
 clear c1 hW0' hW0
 refine wpIn_rangeFunc_ownF rfl zu15 (gf:=134) (lb := #[.pointer (some ⟨w.heap.size+1+1,0,none⟩)]) rfl trivial (enters_of Tryz.func134 zu13 rfl)
  (back_stops 7 (w.heap.size+1+1) W0.heap.size A c o zu15 hol W0 (Nat.le_refl _) zu4 ks hA) belowK_t (belowK_b (Nat.le_refl _)) (Below.refl _ _) (fun _=>rfl)
  (fun pre W=>(∀ x∈pre,o[x]≠n)∧Below W0.heap.size W0 W)
  (fun cc pre W=>cc = .ret∧∃ p x,pre=p++[x]∧(∀ y∈p,o[y]≠n)∧o[x]=n∧EnS lo pb fb ⟨fl,o.take x.val,kept⟩ w W)
  (OwnFrom.and (Own.from (fun t A B' row hs' hg hr=>hs') _) (ownFrom_below (Nat.le_refl _) (Nat.le_refl _)))
  (fun cc t A B' row hs hg hr=>by
    obtain ⟨e1,p,x,e2,e3,e4,e5⟩:=hs
    exact ⟨e1,p,x,e2,e3,e4,e5.turn hlo hg (fun r e=>⟨by have:=(hr r e).1;omega,(hr r e).2⟩)⟩)
  ⟨zu19,Below.refl _ _⟩
  (fun x=>{ tmps := #[.pointer (some ⟨pb,0,none⟩),.agg #[.int .i64 k0,.string nb,.string x0,.slice A0 m0 c0,.bool s0],.pointer (some ⟨w.heap.size,0,none⟩),.pointer (some ⟨w.heap.size+1,0,none⟩),.int .i64 ((x.val:Nat):Int),.string (B o[x]),.pointer (some ⟨pb,0,none⟩),.pointer (some ⟨pb,0,none⟩),.pointer (some ⟨pb,1,none⟩),.slice A o.length c,.func (.func 134) #[] #[.pointer (some ⟨w.heap.size+1+1,0,none⟩)],.int .i64 ((x.val:Nat):Int),.string (B o[x]),undef,undef,undef,undef,undef,undef,undef,undef,undef,undef,undef,undef,undef,undef,undef,undef,undef,undef,undef,undef,undef,undef,undef,undef,undef,undef,undef,undef,undef,undef,undef,undef,undef,undef,undef,undef,undef,undef,undef,undef],defers:=[] }) ?assign ?body ?done ?stop
 case assign =>
  intro l x W K hK
  gi_wp2
  exact hK
 case body =>
  rintro l pre x W ⟨hp,hB⟩ _
  have h1:=h0.call hB
  have T1:=blk_below Tt hB
  have t1:W.cell? ⟨w.heap.size+1,1,none⟩=some (.string nb):=(blk_cell T1 1).trans rfl
  have p1:=cell_up hB kp
  have c1:=h1.c1
  have f1:=h1.fz 1
  have hxl:x.val<o.length:=x.isLt
  by_cases he:o[x]=n
  ·have q:((B o[x]).toList == nb.toList)=true:=by rw [he,HNB.out];simp
   obtain ⟨b,hb⟩:∃ b,B o[x]=b:=⟨_,rfl⟩
   dsimp only
   rw [hb] at q ⊢
   obtain ⟨g,rfl,hg,_⟩:=hA x.val hxl
   have H1:=Lib.hid h1
   have HB:=Lib.hid hB
   have hE:EnS lo pb fb ⟨fl,o.take x.val,kept⟩ w (W.setCell ⟨pb,1,none⟩ (.slice (some ⟨g,0,none⟩) x.val c)).drew :=
    ⟨⟨_,(h1.seto (own_take h1.op x.val zu4)).drew⟩,below_drew (((hB0.mono hlo).trans (hB.mono zu4)).setCell (p:=⟨pb,1,none⟩) hle _),((Pk.of_below (hB0.trans (hB.mono zu4))).trans (Pk.set (k:=1) (x:=.slice (some ⟨g,0,none⟩) x.val c))).trans (Pk.of_below (below_drew (Below.refl _ _)))⟩
   have hKe:KeepsOthers W (W.setCell ⟨pb,1,none⟩ (.slice (some ⟨g,0,none⟩) x.val c)).drew:=(KeepsOthers.setCell _ _ _).trans (keeps_below (below_drew (Below.refl _ _)))
   have HE:=Lib.hid (And.intro hKe hE)
   have HEQ:=Lib.hid he
   have HP:=Lib.hid hp
   clear h1 hB hA T1 ks Tt h0 h hB0 hE hKe he hp
   gi_wp2
   gi_region
   all_goals
    gi_wp2
    exact ⟨HE.out.1,rfl,pre,x,rfl,HP.out,HEQ.out,HE.out.2⟩
  ·have q:((B o[x]).toList == nb.toList)=false:=by rw [← HNB.out,toList_B,toList_B,beq_eq_false_iff_ne];exact he
   obtain ⟨b,hb⟩:∃ b,B o[x]=b:=⟨_,rfl⟩
   dsimp only
   rw [hb] at q ⊢
   have HB:=Lib.hid hB
   clear h1 hB hA T1 ks Tt h0 h hB0
   gi_wp2
   refine ⟨keeps_below (Below.refl _ _),Below.refl _ _,⟨fun y hy => ?_,HB.out⟩⟩
   rcases List.mem_append.1 hy with hy|hy
   ·exact hp y hy
   ·rw [List.mem_singleton.1 hy];exact he
 case done =>
  rintro D ys W hD rfl ⟨hne,hB⟩ hK
  have hlast:lastIx n o=none:=last_none n o fun y hy e=>by
   obtain ⟨j,hj,e2⟩:=List.getElem_of_mem hy
   exact hne ⟨j,hj⟩ (bk_all o o.length (Nat.le_refl _) j hj) (by show o[j]=n;rw [e2,e])
  have h1:=h0.call hB
  have T1:=blk_below Tt hB
  have t1:W.cell? ⟨w.heap.size+1,1,none⟩=some (.string nb):=(blk_cell T1 1).trans rfl
  have p1:=cell_up hB kp
  have c1:=h1.c1
  have hBw:Below w.heap.size w W:=hB0.trans (hB.mono zu4)
  have hE1:EnS lo pb fb ⟨fl,o,kept⟩ w W:=⟨⟨_,h1⟩,hBw.mono hlo,Pk.of_below hBw⟩
  have hDw:w.heap.size≤D:=by omega
  have hpe:pgEnd ⟨fl,o,kept⟩ n=if o=[] then ⟨pgLines fl n,o,if keepsB n=true then kept - 1 else kept⟩ else ⟨fl,o,kept⟩:=by
   unfold pgEnd
   dsimp only
   rw [hlast]
  by_cases hoe:o=[]
  ·rw [if_pos hoe] at hpe
   have HPE:=Lib.hid hpe
   clear hpe
   have qo:decide (0<o.length)=false:=by rw [hoe];rfl
   clear hoe
   have LN:=Lib.hid (pgLines_c lo pb fb ⟨fl,o,kept⟩ n W hE1.pg hz)
   have KP:=Lib.hid (fun V=>keeps_c n V)
   rw [HNB.out] at LN KP
   have HE1:=Lib.hid hE1
   have HT1:=Lib.hid T1
   have HK:=Lib.hid hK
   have hne1:w.heap.size+1≠pb:=by omega
   have hne2:w.heap.size+1≠fb:=by have:=hfb;omega
   have hne3:w.heap.size≠pb:=by omega
   have hne4:w.heap.size≠fb:=by have:=hfb;omega
   have hDp:D≠pb:=by omega
   have hDf:D≠fb:=by have:=hfb;omega
   have hpc:=blk_below (show W0.heap[w.heap.size]? = some (.cells #[.pointer (some ⟨pb,0,none⟩)] 78 (0,0)) from hpb0) hB
   have HPC:=Lib.hid hpc
   clear hlast h1 hB hE1 hBw T1 hA h0 ks hK hpc
   cases hkp:keepsB n with
   | false =>
     rw [hkp] at KP
     rw [hkp] at HPE
     replace HPE:Hid (pgEnd ⟨fl,o,kept⟩ n=⟨pgLines fl n,o,kept⟩):=HPE
     gi_wp2_with (first | (refine ⟨trivial,?_⟩;gi_at_call 96;refine (callsIn_wide.2 LN.out).mono ?_;rintro e V2 ⟨rfl,hp2,hb2,hk2⟩;have p2:V2.cell? ⟨w.heap.size,0,none⟩=some (.pointer (some ⟨pb,0,none⟩)):=(blk_cell (hk2 _ _ HPC.out hne3 hne4 (fun c fz e=>by injection e with _ e2 _;exact absurd e2 zu15) (fun c fz e=>by injection e with _ e2 _;exact absurd e2 zu15)) 0).trans rfl;have t2:V2.cell? ⟨w.heap.size+1,1,none⟩=some (.string nb):=(blk_cell (pk_cells hk2 HT1.out hne1 hne2) 1).trans rfl;have HE2:=Lib.hid (EnS.mk hp2 (HE1.out.below.trans hb2) (HE1.out.pk.trans hk2));have HKD:=Lib.hid (hk2 _ _ HK.out hDp hDf (fun c fz e=>by cases e) (fun c fz e=>by cases e));clear hp2 hb2 hk2) | (refine ⟨trivial,?_⟩;gi_at_call 97;refine (callsIn_wide.2 (KP.out _)).mono ?_;rintro e V3 ⟨rfl,hb3⟩;have p3:=cell_up hb3 p2;have HE3:=Lib.hid (HE2.out.call hlo hb3);have HKD3:=Lib.hid ((hb3.block D (blk_lt HKD.out)).trans HKD.out);have HKD:=HKD3;have HF:=Lib.hid (HE3.out.fin hlo hDw HKD3.out)))
     refine ⟨zu19,.inl ⟨_,_,rfl,run_takeDeferred HKD.out,?_⟩⟩
     refine ⟨.tuple #[],?_,rfl,zu59,HF.out.below,HF.out.pk⟩
     simp [results,Tryz.f60,go_sem]
   | true =>
     rw [hkp] at KP
     rw [hkp] at HPE
     replace HPE:Hid (pgEnd ⟨fl,o,kept⟩ n=⟨pgLines fl n,o,kept - 1⟩):=HPE
     by_cases hk0:kept=0
     ·have qk:decide (0<kept)=false:=by rw [hk0];rfl
      have hkm:kept - 1=kept:=by omega
      rw [hkm] at HPE
      clear hk0 hkm
      gi_wp2_with (first | (refine ⟨trivial,?_⟩;gi_at_call 96;refine (callsIn_wide.2 LN.out).mono ?_;rintro e V2 ⟨rfl,hp2,hb2,hk2⟩;have p2:V2.cell? ⟨w.heap.size,0,none⟩=some (.pointer (some ⟨pb,0,none⟩)):=(blk_cell (hk2 _ _ HPC.out hne3 hne4 (fun c fz e=>by injection e with _ e2 _;exact absurd e2 zu15) (fun c fz e=>by injection e with _ e2 _;exact absurd e2 zu15)) 0).trans rfl;have t2:V2.cell? ⟨w.heap.size+1,1,none⟩=some (.string nb):=(blk_cell (pk_cells hk2 HT1.out hne1 hne2) 1).trans rfl;have HE2:=Lib.hid (EnS.mk hp2 (HE1.out.below.trans hb2) (HE1.out.pk.trans hk2));have HKD:=Lib.hid (hk2 _ _ HK.out hDp hDf (fun c fz e=>by cases e) (fun c fz e=>by cases e));clear hp2 hb2 hk2) | (refine ⟨trivial,?_⟩;gi_at_call 97;refine (callsIn_wide.2 (KP.out _)).mono ?_;rintro e V3 ⟨rfl,hb3⟩;have p3:=cell_up hb3 p2;have HE3:=Lib.hid (HE2.out.call hlo hb3);have HKD3:=Lib.hid ((hb3.block D (blk_lt HKD.out)).trans HKD.out);have HKD:=HKD3;obtain ⟨z3,h3⟩:=HE3.out.pg;have k3:=h3.c2;dsimp only at k3;have HF:=Lib.hid (HE3.out.fin hlo hDw HKD3.out);clear h3))
      refine ⟨zu19,.inl ⟨_,_,rfl,run_takeDeferred HKD.out,?_⟩⟩
      refine ⟨.tuple #[],?_,rfl,zu59,HF.out.below,HF.out.pk⟩
      simp [results,Tryz.f60,go_sem]
     ·have qk:decide (0<kept)=true:=decide_eq_true zu4
      have wk:wrap64 ((kept:Int) - 1)=((kept - 1:Nat):Int):=by unfold wrap64;omega
      gi_wp2_with (first | (refine ⟨trivial,?_⟩;gi_at_call 96;refine (callsIn_wide.2 LN.out).mono ?_;rintro e V2 ⟨rfl,hp2,hb2,hk2⟩;have p2:V2.cell? ⟨w.heap.size,0,none⟩=some (.pointer (some ⟨pb,0,none⟩)):=(blk_cell (hk2 _ _ HPC.out hne3 hne4 (fun c fz e=>by injection e with _ e2 _;exact absurd e2 zu15) (fun c fz e=>by injection e with _ e2 _;exact absurd e2 zu15)) 0).trans rfl;have t2:V2.cell? ⟨w.heap.size+1,1,none⟩=some (.string nb):=(blk_cell (pk_cells hk2 HT1.out hne1 hne2) 1).trans rfl;have HE2:=Lib.hid (EnS.mk hp2 (HE1.out.below.trans hb2) (HE1.out.pk.trans hk2));have HKD:=Lib.hid (hk2 _ _ HK.out hDp hDf (fun c fz e=>by cases e) (fun c fz e=>by cases e));clear hp2 hb2 hk2) | (refine ⟨trivial,?_⟩;gi_at_call 97;refine (callsIn_wide.2 (KP.out _)).mono ?_;rintro e V3 ⟨rfl,hb3⟩;have p3:=cell_up hb3 p2;have HE3:=Lib.hid (HE2.out.call hlo hb3);have HKD3:=Lib.hid ((hb3.block D (blk_lt HKD.out)).trans HKD.out);have HKD:=HKD3;obtain ⟨z3,h3⟩:=HE3.out.pg;have k3:=h3.c2;have f3:=h3.fz 2;dsimp only at k3;have HF2:=Lib.hid (fun X hX=>(HE3.out.dec (X:=X) (n:=kept - 1) hle h3 hX));clear h3))
      have hKF:=(Below.heap_setCell V3 ⟨pb,2,none⟩ (.int .i64 ((kept:Int) - 1)) D hDp).trans HKD3.out
      have HF:=Lib.hid ((HF2.out ((kept:Int) - 1) zu4).fin hlo hDw hKF)
      refine ⟨zu19,.inl ⟨_,_,rfl,run_takeDeferred hKF,?_⟩⟩
      refine ⟨.tuple #[],?_,rfl,zu59,HF.out.below,HF.out.pk⟩
      simp [results,Tryz.f60,go_sem]
  ·rw [if_neg hoe] at hpe
   have HPE:=Lib.hid hpe
   clear hpe
   have qo:decide (0<o.length)=true:=decide_eq_true (List.length_pos_iff.2 hoe)
   have HF:=Lib.hid (hE1.turn (W':=W.putObj D (.deferred none)) hlo (grownBy_putObj' W D _) (fun r e=>by cases e;exact ⟨hDw,_,hK,rfl⟩))
   clear hoe hlast h1 hB hE1 hBw T1 hA h0 ks
   gi_wp2
   refine ⟨zu19,.inl ⟨_,_,rfl,run_takeDeferred hK,?_⟩⟩
   refine ⟨.tuple #[],?_,rfl,zu59,HF.out.below,HF.out.pk⟩
   simp [results,Tryz.f60,go_sem]
 case stop =>
  rintro D cc pre W hD hpre ⟨rfl,p,x,rfl,e3,e4,hE⟩ hK
  have hDw:w.heap.size≤D:=by omega
  have HF:=Lib.hid (hE.turn (W':=W.putObj D (.deferred none)) hlo (grownBy_putObj' W D _) (fun r e=>by cases e;exact ⟨hDw,_,hK,rfl⟩))
  gi_wp2
  refine ⟨zu19,.inl ⟨_,_,rfl,run_takeDeferred hK,?_⟩⟩
  have hlast:lastIx n o=some x.val:=by
   obtain ⟨_,h6⟩:=bk_pre o o.length (Nat.le_refl _) p x hpre
   exact last_some n o x.val x.isLt e4 (fun j hj hlt=>e3 _ (h6 j hj hlt))
  have HPE:=Lib.hid (show pgEnd ⟨fl,o,kept⟩ n=⟨fl,o.take x.val,kept⟩ by unfold pgEnd;dsimp only;rw [hlast])
  refine ⟨.tuple #[],?_,rfl,zu59,HF.out.below,HF.out.pk⟩
  simp [results,Tryz.f60,go_sem]
theorem pgEnd_c (lo pb fb:Nat) (g:Pg) (n:List UInt8) (k0:Int) (x0:ByteArray) (A0:Option Addr) (m0 c0:Nat) (s0:Bool) (w:World) (h:IsPg lo pb fb g w) (hz:flZ g.fl≤100000) (hk:g.kept≤1000000) (hol:g.op.length≤1000000) :
  Calls Tryz.prog 60 #[.pointer (some ⟨pb,0,none⟩),.agg (tkAgg k0 (B n) x0 A0 m0 c0 s0)] w (PgTo lo pb fb (pgEnd g n) w) :=
 callsIn_wide.1 (end_in lo pb fb g n k0 x0 A0 m0 c0 s0 w h hz hk hol)
end Hand
end

section
namespace Pl
def replS (f:UInt8→Option (List UInt8×List UInt8)):Nat→List UInt8→List UInt8
 | _,[]=>[]
 | k+1,_::r=>replS f k r
 | 0,c::r=>match f c with
   | some (t,v)=>if t.isPrefixOf r=true then v++replS f t.length r else c::replS f 0 r
   | none=>c::replS f 0 r
theorem replS_nil (f:UInt8→Option (List UInt8×List UInt8)) (k:Nat):replS f k []=[]:=by cases k<;>rfl
theorem replS_skip (f:UInt8→Option (List UInt8×List UInt8)):∀ (k:Nat) (s:List UInt8),replS f k s=replS f 0 (s.drop k):=by
 intro k
 induction k with
 | zero=>intro s;rfl
 | succ k ih =>
   intro s
   cases s with
   | nil=>rfl
   | cons c r=>exact ih r
theorem replS_none {f:UInt8→Option (List UInt8×List UInt8)} {c:UInt8} (h:f c=none) (r:List UInt8):replS f 0 (c::r)=c::replS f 0 r:=by
 rw [replS,h]
theorem replS_hit {f:UInt8→Option (List UInt8×List UInt8)} {c:UInt8} {t v r:List UInt8} (h:f c=some (t,v)) (hp:t.isPrefixOf r=true):replS f 0 (c::r)=v++replS f 0 (r.drop t.length):=by
 rw [replS,h]
 simp only [hp,if_true]
 rw [replS_skip]
theorem replS_miss {f:UInt8→Option (List UInt8×List UInt8)} {c:UInt8} {t v r:List UInt8} (h:f c=some (t,v)) (hp:¬ t.isPrefixOf r=true):replS f 0 (c::r)=c::replS f 0 r:=by
 rw [replS,h]
 simp only [hp]
 rfl
def wAmp:List UInt8:=[38,97,109,112,59]
def wLt:List UInt8:=[38,108,116,59]
def wGt:List UInt8:=[38,103,116,59]
def wQuot:List UInt8:=[38,113,117,111,116,59]
def wApos:List UInt8:=[38,35,51,57,59]
def wCr:List UInt8:=[38,35,49,51,59]
def wBad:List UInt8:=[239,191,189]
def wMark:List UInt8:=[38,35,54,53,50,55,57,59]
def escF (c:UInt8):Option (List UInt8×List UInt8) :=
 if c=38 then some ([],wAmp) else if c=60 then some ([],wLt) else if c=62 then some ([],wGt) else if c=34 then some ([],wQuot)
 else if c=39 then some ([],wApos) else if c=13 then some ([],wCr) else if c=0 then some ([],wBad) else if c=239 then some ([187,191],wMark) else none
def escL (s:List UInt8):List UInt8:=replS escF 0 s
def encL (dest:Int) (s:List UInt8):List UInt8 :=
 if dest=0∨dest=1 then escL s else if dest=2 then (if s.head? = some 10 then 10::escL s else escL s) else []
theorem esc_cases (c:UInt8) (r:List UInt8) (P:List UInt8→Prop)
  (h38:c=38→P (wAmp++escL r)) (h60:c=60→P (wLt++escL r)) (h62:c=62→P (wGt++escL r)) (h34:c=34→P (wQuot++escL r)) (h39:c=39→P (wApos++escL r))
  (h13:c=13→P (wCr++escL r)) (h0:c=0→P (wBad++escL r)) (hm:∀ q,c=239→r=187::191::q→P (wMark++escL q))
  (hc:c≠38→c≠60→c≠62→c≠34→c≠39→c≠13→c≠0→(c=239→¬ [187,191].isPrefixOf r=true)→P (c::escL r)):P (escL (c::r)):=by
 unfold escL at *
 have hit:∀ {v:List UInt8},escF c=some ([],v)→P (v++replS escF 0 r)→P (replS escF 0 (c::r)):=by
  intro v h hp
  rw [replS_hit h rfl];exact hp
 by_cases e1:c=38
 ·exact hit (by simp [escF,e1]) (h38 e1)
 by_cases e2:c=60
 ·exact hit (by simp [escF,e2]) (h60 e2)
 by_cases e3:c=62
 ·exact hit (by simp [escF,e3]) (h62 e3)
 by_cases e4:c=34
 ·exact hit (by simp [escF,e4]) (h34 e4)
 by_cases e5:c=39
 ·exact hit (by simp [escF,e5]) (h39 e5)
 by_cases e6:c=13
 ·exact hit (by simp [escF,e6]) (h13 e6)
 by_cases e7:c=0
 ·exact hit (by simp [escF,e7]) (h0 e7)
 by_cases e8:c=239
 ·have hf:escF c=some ([187,191],wMark):=by simp [escF,e8]
  by_cases hp:[187,191].isPrefixOf r=true
  ·rw [replS_hit hf hp]
   obtain ⟨q,rfl⟩:=List.isPrefixOf_iff_prefix.1 hp
   exact hm q e8 rfl
  ·rw [replS_miss hf hp]
   exact hc e1 e2 e3 e4 e5 e6 e7 fun _=>hp
 ·rw [replS_none (by simp [escF,e1,e2,e3,e4,e5,e6,e7,e8])]
  exact hc e1 e2 e3 e4 e5 e6 e7 fun e=>absurd e e8
theorem esc_length:∀ n (s:List UInt8),s.length≤n→(escL s).length≤6*s.length∧(s.head? = some 10→(escL s).length+5≤6*s.length):=by
 intro n
 induction n with
 | zero=>intro s h;obtain rfl:=List.eq_nil_of_length_eq_zero (Nat.le_zero.1 h);simp [escL,replS]
 | succ n ih =>
   intro s h
   cases s with
   | nil=>simp [escL,replS]
   | cons c r =>
     have hr:=(ih r (by simp at h;omega)).1
     refine esc_cases c r (fun l=>l.length≤6*(c::r).length∧((c::r).head? = some 10→l.length+5≤6*(c::r).length)) ?_ ?_ ?_ ?_ ?_ ?_ ?_ ?_ ?_
     ·intro e;subst e;simp [wAmp];omega
     ·intro e;subst e;simp [wLt];omega
     ·intro e;subst e;simp [wGt];omega
     ·intro e;subst e;simp [wQuot];omega
     ·intro e;subst e;simp [wApos];omega
     ·intro e;subst e;simp [wCr];omega
     ·intro e;subst e;simp [wBad];omega
     ·intro q e1 e
      have hq:=(ih q (by subst e;simp at h;omega)).1
      subst e1;subst e
      simp [wMark];omega
     ·intros;simp;omega
end Pl
end

section
namespace Pl
open Go
def tailN (c:Nat):Nat×Nat×Nat :=
 if 194≤c∧c≤223 then (128,191,2) else if c=224 then (160,191,3) else if c=237 then (128,159,3) else if 225≤c∧c≤239 then (128,191,3)
 else if c=240 then (144,191,4) else if c=244 then (128,143,4) else if 241≤c∧c≤243 then (128,191,4) else (128,191,1)
def contO:Option Nat→Prop
 | none=>False
 | some x=>128≤x∧x≤191
instance (o:Option Nat):Decidable (contO o):=by cases o<;>unfold contO<;>infer_instance
def okV (n:Nat):Prop:=n<55296∨(57344≤n∧n≤1114111)
instance (n:Nat):Decidable (okV n):=by unfold okV;infer_instance
def inO (lo hi:Nat):Option Nat→Prop
 | none=>False
 | some x=>lo≤x∧x≤hi
instance (lo hi:Nat) (o:Option Nat):Decidable (inO lo hi o):=by cases o<;>unfold inO<;>infer_instance
def firstN (c:Nat) (d e f:Option Nat):Nat×Bool :=
 if c<128 then (1,true)
 else if (tailN c).2.2=1 then (1,false)
 else if ¬ inO (tailN c).1 (tailN c).2.1 d then (1,false)
 else if (tailN c).2.2=2 then (2,true)
 else if ¬ contO e then (2,false)
 else if (tailN c).2.2=3 then (3,true)
 else if contO f then (4,true) else (3,false)
def byteO (L:List UInt8) (k:Nat):Option Nat:=L[k]?.map UInt8.toNat
def firstU:List UInt8→Nat×Bool
 | []=>(0,false)
 | c::r=>firstN c.toNat (byteO r 0) (byteO r 1) (byteO r 2)
theorem firstN_pos (c:Nat) (d e f:Option Nat):1≤(firstN c d e f).1∧(firstN c d e f).1≤4∧(2≤(firstN c d e f).1→d≠none)∧(3≤(firstN c d e f).1→e≠none)∧(4≤(firstN c d e f).1→f≠none):=by
 have hd:∀ lo hi,inO lo hi d→d≠none:=by rintro lo hi h rfl;exact h
 have he:contO e→e≠none:=by rintro h rfl;exact h
 have hf:contO f→f≠none:=by rintro h rfl;exact h
 unfold firstN
 split
 ·simp
 ·split
  ·simp
  ·split
   ·simp
   ·rename_i h1
    have h1':=hd _ _ (Decidable.not_not.1 h1)
    split
    ·simp [h1']
    ·split
     ·simp [h1']
     ·rename_i h2
      have h2':=he (Decidable.not_not.1 h2)
      split
      ·simp [h1',h2']
      ·split
       ·rename_i h3;simp [h1',h2',hf h3]
       ·simp [h1',h2']
theorem byteO_lt {L:List UInt8} {k:Nat} (h:byteO L k≠none):k<L.length:=by
 rcases Nat.lt_or_ge k L.length with h'|h'
 ·exact h'
 ·exact absurd (by unfold byteO;rw [List.getElem?_eq_none h'];rfl) h
theorem firstU_pos (c:UInt8) (r:List UInt8):1≤(firstU (c::r)).1∧(firstU (c::r)).1≤(c::r).length∧(firstU (c::r)).1≤4:=by
 obtain ⟨h1,h2,h3,h4,h5⟩:=firstN_pos c.toNat (byteO r 0) (byteO r 1) (byteO r 2)
 unfold firstU
 refine ⟨h1,?_,h2⟩
 have g3:=fun h=>byteO_lt (h3 h)
 have g4:=fun h=>byteO_lt (h4 h)
 have g5:=fun h=>byteO_lt (h5 h)
 simp only [List.length_cons]
 omega
def badP:List UInt8:=[239,191,189]
end Pl
end

section
namespace Pl
open Go
def markP:List UInt8:=[239,187,191]
def decK:Nat→List UInt8→List UInt8
 | _,[]=>[]
 | k+1,_::r=>decK k r
 | 0,c::r=>(if (firstU (c::r)).2=true then (c::r).take (firstU (c::r)).1 else badP)++decK ((firstU (c::r)).1 - 1) r
def decL (s:List UInt8):List UInt8:=decK 0 s
theorem decK_skip:∀ (k:Nat) (s:List UInt8),decK k s=decL (s.drop k):=by
 intro k
 induction k with
 | zero=>intro s;rfl
 | succ k ih =>
   intro s
   cases s with
   | nil=>rfl
   | cons c r=>exact ih r
theorem decL_cons (c:UInt8) (r:List UInt8):decL (c::r)=(if (firstU (c::r)).2=true then (c::r).take (firstU (c::r)).1 else badP)++decL ((c::r).drop (firstU (c::r)).1):=by
 unfold decL
 rw [decK,decK_skip]
 have h:=(firstU_pos c r).1
 obtain ⟨n,hn⟩:∃ n,(firstU (c::r)).1=n+1:=⟨(firstU (c::r)).1 - 1,zu4⟩
 rw [hn]
 rfl
def trimL (s:List UInt8):List UInt8:=if markP.isPrefixOf s=true then s.drop 3 else s
end Pl
end

section
namespace Hand
open Go Go.RowKit Pl Pb
def Asc (l:List UInt8):Prop := ∀ c∈l,c.toNat<128
theorem u8_of (n:Nat) (h:n<256):(UInt8.ofNat n).toNat=n:=by simp [UInt8.toNat_ofNat,Nat.mod_eq_of_lt h]
theorem names_asc:namesL.all (fun c=>decide (c.toNat<128))=true:=by decide +kernel
theorem key_asc {k:List UInt8} (h:isKey namesL k):Asc k:=by
 obtain ⟨p,_,rfl⟩:=h
 intro c hc
 have h1:c∈namesL:=by
  have h2:=(List.takeWhile_sublist _).subset hc
  have h3:=(List.takeWhile_sublist _).subset h2
  exact (List.drop_sublist p namesL).subset h3
 exact of_decide_eq_true (List.all_eq_true.1 names_asc c h1)
theorem low_asc {c d:UInt8} (h:lowB c=d) (hd:d.toNat<128):c.toNat<128:=by
 have hall:∀ n:Fin 256,128≤(UInt8.ofNat n.val).toNat→128≤(lowB (UInt8.ofNat n.val)).toNat:=by decide +kernel
 have h1:=hall ⟨c.toNat,c.toNat_lt⟩
 simp only [UInt8.ofNat_toNat] at h1
 rw [h] at h1
 omega
theorem dg_asc {six:Bool} {c:UInt8} (h:isDg six c=true):c.toNat<128:=by
 have hall:∀ n:Fin 256,isDg true (UInt8.ofNat n.val)=true→(UInt8.ofNat n.val).toNat<128:=by decide +kernel
 have h2:isDg true c=true:=by
  unfold isDg at h ⊢
  cases six
  ·simp at h;simp [h]
  ·exact h
 have h1:=hall ⟨c.toNat,c.toNat_lt⟩
 simp only [UInt8.ofNat_toNat] at h1
 exact h1 h2
theorem begR_asc:∀ (low r:List UInt8),Asc low→begR r low=true→Asc (r.take low.length):=by
 intro low
 induction low with
 | nil=>intro r _ _ c hc;simp at hc
 | cons d low ih =>
   intro r ha h
   cases r with
   | nil=>simp [begR] at h
   | cons c r =>
     rw [begR,Bool.and_eq_true,beq_iff_eq] at h
     intro x hx
     rw [List.length_cons,List.take_succ_cons] at hx
     rcases List.mem_cons.1 hx with rfl|hx
     ·exact low_asc h.1 (ha d zu19)
     ·exact ih r (fun y hy=>ha y (by simp [hy])) h.2 x hx
theorem asc_take_add {l:List UInt8} {a b:Nat} (h1:Asc (l.take a)) (h2:Asc ((l.drop a).take b)):Asc (l.take (a+b)):=by
 rw [List.take_add]
 intro c hc
 rcases List.mem_append.1 hc with hc|hc
 ·exact h1 c hc
 ·exact h2 c hc
theorem asc1 {c:UInt8} (h:c.toNat<128):Asc [c]:=fun x hx=>by rw [List.mem_singleton.1 hx];exact h
theorem tw_all (p:UInt8→Bool):∀ (l:List UInt8),∀ x∈l.takeWhile p,p x=true:=by
 intro l
 induction l with
 | nil=>intro x h;cases h
 | cons c r ih =>
   intro x h
   rw [List.takeWhile_cons] at h
   split at h
   ·rename_i hc
    rcases List.mem_cons.1 h with rfl|h
    ·exact hc
    ·exact ih x h
   ·cases h
theorem numQ_asc {six:Bool} {q:List UInt8} {n k:Nat} (h:numQ six q=some (n,k)):Asc (q.take k):=by
 unfold numQ at h
 simp only at h
 have hd:Asc (q.take (digs six q).length):=by
  have e:q.take (digs six q).length=digs six q:=by
   exact (List.prefix_iff_eq_take.1 (List.takeWhile_prefix _)).symm
  rw [e]
  intro c hc
  exact dg_asc (tw_all _ _ c hc)
 split at h
 ·cases h
 ·obtain ⟨_,h2⟩:=Prod.mk.inj (Option.some.inj h)
  subst h2
  split
  ·rename_i hb
   exact asc_take_add hd (begR_asc [59] _ (asc1 zu15) hb)
  ·exact hd
theorem numL_asc {r:List UInt8} {n k:Nat} (h:numL r=some (n,k)):Asc (r.take k):=by
 unfold numL at h
 split at h
 ·rename_i h1
  have a1:=begR_asc [35] r (asc1 zu15) h1
  split at h
  ·rename_i h2
   have a2:=begR_asc [120] _ (asc1 zu15) h2
   obtain ⟨⟨n',k'⟩,h3,h4⟩:=Option.map_eq_some_iff.1 h
   obtain ⟨_,rfl⟩:=Prod.mk.inj h4
   have a3:=numQ_asc h3
   rw [Nat.add_comm]
   exact asc_take_add (asc_take_add (a:=1) (b:=1) a1 a2) a3
  ·obtain ⟨⟨n',k'⟩,h3,h4⟩:=Option.map_eq_some_iff.1 h
   obtain ⟨_,rfl⟩:=Prod.mk.inj h4
   have a3:=numQ_asc h3
   rw [Nat.add_comm]
   exact asc_take_add a1 a3
 ·cases h
theorem lng_asc (r:List UInt8):Asc (r.take (lngN r)):=by
 rcases (lngN_spec r).key with h|h
 ·rw [h];intro c hc;simp at hc
 ·exact key_asc h
theorem ref_asc (attr:Bool) (r:List UInt8):Asc ((38::r).take (refN attr (38::r)).2):=by
 have one:∀ k,Asc (r.take k)→Asc ((38::r).take (1+k)):=fun k h=>by
  rw [Nat.add_comm,List.take_succ_cons]
  intro c hc
  rcases List.mem_cons.1 hc with rfl|hc
  ·decide
  ·exact h c hc
 unfold refN
 rw [List.drop_succ_cons,List.drop_zero]
 split
 ·rename_i m k h
  exact one k (numL_asc h)
 ·split<;>exact one _ (lng_asc r)
end Hand
end

section
namespace Hand
open Go Go.RowKit Pl Pb Go.Proofs.YtclkdmmgibgamaaGreatDoor.Pure
theorem low_60 {c:UInt8} (h:lowB c=60):c=60:=by
 have hall:∀ n:Fin 256,lowB (UInt8.ofNat n.val)=60→UInt8.ofNat n.val=60:=by decide +kernel
 have h':=hall ⟨c.toNat,c.toNat_lt⟩
 simpa using h' zu46
theorem beg_60 {c:UInt8} {r:List UInt8} (h:begM (c::r)=true):c=60:=by
 unfold begM at h
 simp only [Bool.or_eq_true,bne_iff_ne] at h
 rcases h with ((h|h)|h)|h
 ·cases r with
  | nil=>exact absurd rfl h
  | cons d r =>
    refine Classical.byContradiction fun hc=>h ?_
    simp only [tagN,if_neg hc]
 ·cases r with
  | nil=>simp [begC] at h
  | cons d r=>simp only [begC,Bool.and_eq_true,beq_iff_eq] at h;exact h.1
 ·rw [docL,begR,Bool.and_eq_true,beq_iff_eq] at h;exact low_60 h.1
 ·rw [voidL,begR,Bool.and_eq_true,beq_iff_eq] at h;exact low_60 h.1
end Hand
end

section
namespace Hand
open Go Go.RowKit Pl Pb Go.Proofs.YtclkdmmgibgamaaGreatDoor.Pure
noncomputable def extL (b:List UInt8):List UInt8:=renderL (driveL (normL (decL (trimL b))))
end Hand
end

section
namespace Hand
open Go Go.RowKit Pl Pb Go.Proofs.YtclkdmmgibgamaaGreatDoor.Pure
def wt (c:UInt8):Nat:=if c.toNat<128 then 3 else 1
def wtL (l:List UInt8):Nat:=(l.map wt).sum
theorem wt_nil:wtL []=0:=rfl
theorem wt_cons (c:UInt8) (r:List UInt8):wtL (c::r)=wt c+wtL r:=by simp [wtL]
theorem wt_app (a b:List UInt8):wtL (a++b)=wtL a+wtL b:=by simp [wtL]
theorem wt_cut (l:List UInt8) (n:Nat):wtL (l.take n)+wtL (l.drop n)=wtL l:=by rw [← wt_app,List.take_append_drop]
theorem wt_bd (c:UInt8):1≤wt c∧wt c≤3:=by unfold wt;split<;>omega
theorem wt_len (l:List UInt8):l.length≤wtL l∧wtL l≤3*l.length:=by
 induction l with
 | nil=>exact ⟨Nat.le_refl _,Nat.le_refl _⟩
 | cons c r ih =>
   have:=wt_bd c
   rw [wt_cons,List.length_cons]
   omega
theorem wt_suf {r l:List UInt8} (h:r <:+ l):wtL r≤wtL l:=by
 obtain ⟨p,rfl⟩:=h
 rw [wt_app];omega
theorem wt_asc {l:List UInt8} (h:Asc l):wtL l=3*l.length:=by
 induction l with
 | nil=>rfl
 | cons c r ih =>
   rw [wt_cons,ih (fun x hx=>h x (by simp [hx])),List.length_cons]
   unfold wt
   rw [if_pos (h c zu19)]
   omega
theorem wt_norm (l:List UInt8):∀ b,wtL (normF b l)≤wtL l:=by
 induction l with
 | nil=>intro b;exact Nat.le_refl _
 | cons c r ih =>
   intro b
   have h0:=ih false
   have h1:=ih true
   have hb:=wt_bd c
   simp only [normF]
   rw [wt_cons c r]
   split
   ·omega
   ·split
    ·rename_i hc;rw [wt_cons,hc];have e:wt 10=wt 13:=by decide
     omega
    ·rw [wt_cons];omega
theorem wt_dec:∀ n (s:List UInt8),s.length≤n→wtL (decL s)≤3*s.length:=by
 intro n
 induction n with
 | zero=>intro s h;obtain rfl:=List.eq_nil_of_length_eq_zero (Nat.le_zero.1 h);exact Nat.le_refl _
 | succ n ih =>
   intro s h
   cases s with
   | nil=>exact Nat.le_refl _
   | cons c r =>
     have hp:=firstU_pos c r
     have hi:=ih ((c::r).drop (firstU (c::r)).1) (by rw [List.length_drop];simp only [List.length_cons] at h ⊢;omega)
     rw [decL_cons,wt_app]
     have h2:wtL (if (firstU (c::r)).2=true then (c::r).take (firstU (c::r)).1 else badP)≤3*(firstU (c::r)).1:=by
      split
      ·have:=(wt_len ((c::r).take (firstU (c::r)).1)).2
       rw [List.length_take] at this
       omega
      ·have e:wtL badP=3:=by decide
       omega
     rw [List.length_drop] at hi
     omega
theorem trim_len (s:List UInt8):(trimL s).length≤s.length:=by
 unfold trimL
 split
 ·rw [List.length_drop];omega
 ·exact Nat.le_refl _
theorem clean_len (l:List UInt8):(cleanL l).length≤wtL l:=by
 induction l with
 | nil=>exact Nat.le_refl _
 | cons c r ih =>
   have e:cleanL (c::r)=cleanB c++cleanL r:=rfl
   have hb:=wt_bd c
   rw [e,List.length_append,wt_cons]
   have:(cleanB c).length≤wt c:=by
    unfold cleanB
    split
    ·rename_i h;rw [h];decide
    ·exact hb.1
   omega
theorem wt_high {l:List UInt8} (h:∀ x∈l,128≤x.toNat):wtL l=l.length:=by
 induction l with
 | nil=>rfl
 | cons c r ih =>
   rw [wt_cons,ih (fun x hx=>h x (by simp [hx])),List.length_cons]
   unfold wt
   rw [if_neg (by have:=h c zu19;omega)]
   omega
theorem wt_enc (n:Int):wtL (Utf8.encode n).data.toList≤4:=by
 obtain ⟨c,hc⟩:∃ c,(if Utf8.valid n=true then n.toNat else Utf8.runeError)=c:=⟨_,rfl⟩
 have hv:c≤1114111:=by
  rw [← hc]
  split
  ·rename_i h
   simp only [Utf8.valid,Bool.and_eq_true,Bool.or_eq_true,decide_eq_true_eq] at h
   omega
  ·decide
 have e:Utf8.encode n=(if c<128 then ⟨#[UInt8.ofNat c]⟩ else if c<2048 then ⟨#[UInt8.ofNat (192+c / 64),UInt8.ofNat (128+c % 64)]⟩
  else if c<65536 then ⟨#[UInt8.ofNat (224+c / 4096),UInt8.ofNat (128+c / 64 % 64),UInt8.ofNat (128+c % 64)]⟩
  else ⟨#[UInt8.ofNat (240+c / 262144),UInt8.ofNat (128+c / 4096 % 64),UInt8.ofNat (128+c / 64 % 64),UInt8.ofNat (128+c % 64)]⟩):=by rw [← hc];rfl
 rw [e]
 have high:∀ l:List UInt8,(∀ x∈l,128≤x.toNat)→l.length≤4→wtL l≤4:=fun l h h4=>by rw [wt_high h];exact h4
 split
 ·have:=wt_bd (UInt8.ofNat c)
  show wtL [UInt8.ofNat c]≤4
  rw [wt_cons,wt_nil];omega
 ·split
  ·refine high [UInt8.ofNat (192+c / 64),UInt8.ofNat (128+c % 64)] (fun x hx => ?_) zu19
   simp only [List.mem_cons,List.not_mem_nil,or_false] at hx
   rcases hx with rfl|rfl
   ·rw [u8_of _ zu4];omega
   ·rw [u8_of _ zu4];omega
  ·split
   ·refine high [UInt8.ofNat (224+c / 4096),UInt8.ofNat (128+c / 64 % 64),UInt8.ofNat (128+c % 64)] (fun x hx => ?_) zu19
    simp only [List.mem_cons,List.not_mem_nil,or_false] at hx
    rcases hx with rfl|rfl|rfl<;>(rw [u8_of _ zu4];omega)
   ·refine high [UInt8.ofNat (240+c / 262144),UInt8.ofNat (128+c / 4096 % 64),UInt8.ofNat (128+c / 64 % 64),UInt8.ofNat (128+c % 64)] (fun x hx => ?_) zu19
    simp only [List.mem_cons,List.not_mem_nil,or_false] at hx
    rcases hx with rfl|rfl|rfl|rfl<;>(rw [u8_of _ zu4];omega)
theorem wt_sign (n:Int):wtL (signB n).data.toList≤4:=by
 unfold signB
 split
 ·decide
 ·exact wt_enc n
theorem wt_fix (n:Nat):wtL (fixB n).data.toList≤4:=by
 unfold fixB
 split
 ·decide
 ·split<;>exact wt_sign _
theorem wt_text (a b:Nat):wtL (textB a b).data.toList≤8:=by
 unfold textB
 split
 ·have:=wt_sign (a:Int);omega
 ·rw [show (signB (a:Int)++signB (b:Int)).data.toList=(signB (a:Int)).data.toList++(signB (b:Int)).data.toList by simp,wt_app]
  have h1:=wt_sign (a:Int)
  have h2:=wt_sign (b:Int)
  omega
theorem wt_name (k:List UInt8):wtL (nameT k)≤8:=by
 unfold nameT
 split
 ·exact wt_text _ _
 ·exact Nat.zero_le _
def two32:List UInt8→Bool
 | a::b::_=>a != 32&&a != 10&&b != 32&&b != 10
 | []=>true
 | _=>false
def shortOk:Bool→List UInt8→Bool
 | st,[] => !st || true
 | st,c::r=>(!st || two32 (c::r))&&shortOk (c == 10) r
theorem short_at:∀ (p:Nat) (st:Bool) (T:List UInt8),shortOk st T=true→(p=0∧st=true)∨(∃ q,p=q+1∧T[q]? = some 10)→two32 (T.drop p)=true:=by
 intro p
 induction p with
 | zero =>
   intro st T h hp
   cases T with
   | nil=>rfl
   | cons c r =>
     rcases hp with ⟨_,rfl⟩|⟨q,hq,_⟩
     ·rw [shortOk,Bool.and_eq_true] at h;simpa using h.1
     ·cases hq
 | succ p ih =>
   intro st T h hp
   cases T with
   | nil=>rfl
   | cons c r =>
     rw [shortOk,Bool.and_eq_true] at h
     rw [List.drop_succ_cons]
     refine ih (c == 10) r h.2 ?_
     rcases hp with ⟨h0,_⟩|⟨q,hq,hT⟩
     ·cases h0
     ·obtain rfl:p=q:=by omega
      cases p with
      | zero =>
        rw [List.getElem?_cons_zero,Option.some.injEq] at hT
        exact .inl ⟨rfl,by rw [hT];rfl⟩
      | succ p=>exact .inr ⟨p,rfl,by simpa using hT⟩
theorem names_short:shortOk true namesL=true:=by decide +kernel
theorem key_two {k:List UInt8} (h:isKey namesL k):k=[]∨2≤k.length:=by
 obtain ⟨p,hp,rfl⟩:=h
 have h2:=short_at p true namesL names_short (hp.elim (fun h => .inl ⟨h,rfl⟩) .inr)
 unfold kyT kyL lnT
 generalize namesL.drop p=T at h2
 match T,h2 with
 | [],_=>exact .inl rfl
 | [_],h2=>cases h2
 | a::b::r,h2 =>
   simp only [two32,Bool.and_eq_true,bne_iff_ne] at h2
   refine .inr ?_
   simp [List.takeWhile_cons,h2.1.1.1,h2.1.1.2,h2.1.2,h2.2]
theorem wt_ref (attr:Bool) (r:List UInt8):wtL (refN attr (38::r)).1≤3*(refN attr (38::r)).2:=by
 have hb:=refN_bd attr 38 r
 have ha:=ref_asc attr r
 have hlen:((38::r).take (refN attr (38::r)).2).length=(refN attr (38::r)).2:=by rw [List.length_take];omega
 unfold refN at ha hlen ⊢
 rw [List.drop_succ_cons,List.drop_zero] at ha hlen ⊢
 split
 ·rename_i m k h
  have h1:=wt_fix m
  have h2:=(numL_le h).2.2
  show wtL (fixB m).data.toList≤3*(1+k)
  omega
 ·rename_i h0
  rw [h0] at ha hlen
  simp only at ha hlen
  split
  ·rename_i h1
   rw [if_pos h1] at ha hlen
   simp only at ha hlen ⊢
   rw [wt_asc ha,hlen]
   exact Nat.le_refl _
  ·rename_i h1
   have h2:=wt_name (r.take (lngN r))
   have h3:2≤lngN r:=by
    have hs:=lngN_spec r
    rcases hs.key with h|h
    ·exact absurd (.inl h) h1
    ·have hl:=hs.le
     rcases key_two h with h|h
     ·have:=congrArg List.length h
      rw [List.length_take,List.length_nil] at this
      exact absurd (.inl zu4) h1
     ·rw [List.length_take] at h;omega
   show wtL (nameT (r.take (lngN r)))≤3*(1+lngN r)
   omega
theorem wt_rd (attr:Bool):∀ n (l:List UInt8),l.length≤n→wtL (rdL attr l)≤wtL l:=by
 intro n
 induction n with
 | zero=>intro l h;obtain rfl:=List.eq_nil_of_length_eq_zero (Nat.le_zero.1 h);exact Nat.le_refl _
 | succ n ih =>
   intro l h
   cases l with
   | nil=>exact Nat.le_refl _
   | cons c r =>
     simp only [List.length_cons] at h
     by_cases hc:c=38
     ·subst hc
      have hb:=refN_bd attr 38 r
      simp only [List.length_cons] at hb
      have h1:=wt_ref attr r
      have h2:=ih ((38::r).drop (refN attr (38::r)).2) zu48
      have h3:=wt_cut (38::r) (refN attr (38::r)).2
      have h4:=wt_asc (ref_asc attr r)
      rw [List.length_take,List.length_cons] at h4
      rw [rdL_amp,wt_app]
      omega
     ·rw [rdL_ne attr r hc,wt_cons,wt_cons]
      have:=ih r zu4
      omega
theorem rd_len (attr:Bool) (l:List UInt8):(rdL attr l).length≤wtL l:=Nat.le_trans (wt_len _).1 (wt_rd attr _ l (Nat.le_refl _))
theorem rawT_len (b:Bool) (l:List UInt8):(rawT b l).length≤wtL l:=by
 unfold rawT
 split
 ·exact Nat.le_trans (clean_len _) (wt_rd false _ l (Nat.le_refl _))
 ·exact clean_len _
def tkS (l:List Tk):Nat:=(l.map tkT).sum
theorem tkS_app (a b:List Tk):tkS (a++b)=tkS a+tkS b:=by simp [tkS]
theorem tkS_cons (t:Tk) (r:List Tk):tkS (t::r)=tkT t+tkS r:=by simp [tkS]
theorem tkS_txt (u:List UInt8):tkS (txtT u)≤u.length:=by
 unfold txtT
 split
 ·exact Nat.zero_le _
 ·rw [tkS_cons];exact Nat.le_refl _
theorem wt_brk {l r:List UInt8} (hs:r <:+ l) (hr:r.length<l.length) (hl:∃ q,l=60::q):3+wtL r≤wtL l:=by
 obtain ⟨q,rfl⟩:=hl
 have h1:r <:+ q:=by
  rcases List.suffix_cons_iff.1 hs with h|h
  ·rw [h] at hr;omega
  ·exact h
 have:=wt_suf h1
 rw [wt_cons]
 have e:wt 60=3:=by decide
 omega
theorem beg_head {l:List UInt8} (h:begM l=true):∃ q,l=60::q:=by
 cases l with
 | nil=>simp [begM,tagN,begC,begR,docL,voidL] at h
 | cons c r=>exact ⟨r,by rw [beg_60 h]⟩
theorem tagR_wt (l:List UInt8):tkS (tagR l).1.toList+wtL (tagR l).2≤wtL l:=by
 unfold tagR
 split
 ·exact Nat.le_of_eq (Nat.zero_add _)
 ·rename_i h
  have hm:begM l=true:=by unfold begM;simp [h]
  obtain ⟨q,hq⟩:=beg_head hm
  have h1:=wt_brk (tagL_suf l) (tagL_lt (by rw [hq];exact List.cons_ne_nil _ _)) ⟨q,hq⟩
  have h2:tkS (tagL l).1.toList≤3:=by
   unfold tagL
   split
   ·exact Nat.zero_le _
   ·show tkS [_]≤3
    rw [tkS_cons]
    split<;>exact Nat.le_refl _
  omega
theorem tokL_wt {l:List UInt8} (hl:l≠[]):tkS (tokL l).1.toList+wtL (tokL l).2≤wtL l:=by
 have hlt:=tokL_lt hl
 have hsf:=tokL_suf l
 have one:∀ (o:Option Tk),(∀ t∈o,tkT t≤3)→tkS o.toList≤3:=by
  intro o h
  cases o with
  | none=>exact Nat.zero_le _
  | some t=>show tkS [t]≤3;rw [tkS_cons];exact h t rfl
 by_cases hm:begM l=true
 ·have h1:=wt_brk hsf hlt (beg_head hm)
  have h2:tkS (tokL l).1.toList≤3:=by
   refine one _ fun t ht => ?_
   unfold tokL at ht
   split at ht
   ·unfold tagL at ht
    split at ht
    ·cases ht
    ·simp only [Option.mem_def,Option.some.injEq] at ht
     subst ht
     split<;>exact Nat.le_refl _
   ·split at ht
    ·simp only [Option.mem_def,Option.some.injEq] at ht;subst ht;exact Nat.le_refl _
    ·split at ht
     ·simp only [Option.mem_def,Option.some.injEq] at ht;subst ht;exact Nat.le_refl _
     ·split at ht
      ·cases ht
      ·split at ht
       ·cases ht
       ·rename_i a1 a2 a3 a4 a5
        exfalso
        cases l with
        | nil=>exact hl rfl
        | cons c r=>exact a5 (by rw [txN,if_pos hm])
  omega
 ·have hb:=hm
  unfold begM at hb
  simp only [Bool.or_eq_true,bne_iff_ne,not_or,Decidable.not_not,Bool.not_eq_true] at hb
  obtain ⟨⟨⟨b1,b2⟩,b3⟩,b4⟩:=hb
  unfold tokL
  rw [if_neg (by rw [b1];decide),if_neg (by rw [b2];decide),if_neg (by rw [b3];decide),if_neg (by rw [b4];decide)]
  split
  ·exact Nat.le_of_eq (Nat.zero_add _)
  ·show tkS [_]+wtL (l.drop (txN l))≤_
   rw [tkS_cons]
   have h1:=rd_len false (l.take (txN l))
   have h2:=wt_cut l (txN l)
   show (rdL false (l.take (txN l))).length+0+_≤_
   omega
theorem restL_wt (st:Nat) (name l:List UInt8):tkS (restL st name l).1+wtL (restL st name l).2≤wtL l:=by
 have h1:=rawT_len (st == 1) (l.take (endN st name l))
 have h2:=tkS_txt (rawT (st == 1) (l.take (endN st name l)))
 have h3:=wt_cut l (endN st name l)
 have h4:=tagR_wt (l.drop (endN st name l))
 unfold restL
 split
 ·exact Nat.le_of_eq (Nat.zero_add _)
 ·split
  ·show tkS (txtT _)+0≤_
   omega
  ·show tkS (txtT _++(tagR (l.drop (endN st name l))).1.toList)+wtL (tagR (l.drop (endN st name l))).2≤_
   rw [tkS_app]
   omega
theorem drvL_wt:∀ n (l:List UInt8),l.length≤n→tkS (drvL l)≤wtL l:=by
 intro n
 induction n with
 | zero=>intro l h;obtain rfl:=List.eq_nil_of_length_eq_zero (Nat.le_zero.1 h);exact Nat.zero_le _
 | succ n ih =>
   intro l h
   by_cases hl:l=[]
   ·subst hl;exact Nat.zero_le _
   ·have h1:=tokL_wt hl
    have h2:=tokL_lt hl
    have h3:=drv1_le (tokL l)
    have h4:=ih (drv1 (tokL l)).2 zu4
    have h5:tkS (drv1 (tokL l)).1+wtL (drv1 (tokL l)).2≤tkS (tokL l).1.toList+wtL (tokL l).2:=by
     generalize tokL l=x
     unfold drv1
     split
     ·rename_i n al self r
      have:=restL_wt (stateN n) n r
      show tkS (.start n al self::(restL (stateN n) n r).1)+wtL (restL (stateN n) n r).2≤tkS [.start n al self]+wtL r
      rw [tkS_cons,tkS_cons]
      have h0:tkS []=0:=rfl
      omega
     ·exact Nat.le_refl _
     ·exact Nat.le_refl _
    rw [drvL_eq hl,tkS_app]
    omega
theorem join_tkS (l:List Tk):tkS (joinL l)≤tkS l:=by
 induction l with
 | nil=>exact Nat.le_refl _
 | cons u r ih =>
   cases hx:isTx u with
   | false=>rw [joinL_no r hx,tkS_cons,tkS_cons];omega
   | true =>
     obtain ⟨s,rfl⟩:∃ s,u = .text s:=by cases u<;>first|exact ⟨_,rfl⟩|cases hx
     rw [joinL,tkS_cons]
     split
     ·rename_i v r2 he
      rw [he,tkS_cons] at ih
      rw [tkS_cons]
      simp only [tkT,List.length_append] at ih ⊢
      omega
     ·rw [tkS_app]
      have:=tkS_txt s
      simp only [tkT]
      omega
theorem render_z:∀ (l:List Tk) (p:Pg),flZ (renderP p l).fl≤flZ p.fl+tkS l:=by
 intro l
 induction l with
 | nil=>intro p;exact Nat.le_refl _
 | cons t r ih =>
   intro p
   have h1:=ih (pgTok p t)
   have h2:=pgTok_z p t
   rw [tkS_cons]
   show flZ (renderP (pgTok p t) r).fl≤_
   omega
theorem ext_length (b:List UInt8):(extL b).length≤3*b.length:=by
 have h1:=render_z (driveL (normL (decL (trimL b)))) pg0
 have h2:tkS (driveL (normL (decL (trimL b))))≤wtL (normL (decL (trimL b))):=Nat.le_trans (join_tkS _) (drvL_wt _ _ (Nat.le_refl _))
 have h3:=wt_norm (decL (trimL b)) false
 have h4:=wt_dec _ (trimL b) (Nat.le_refl _)
 have h5:=trim_len b
 have h6:flZ pg0.fl=0:=rfl
 have h7:(extL b).length≤flZ (renderP pg0 (driveL (normL (decL (trimL b))))).fl:=by
  show (renderP pg0 _).fl.told.length≤_
  unfold flZ;omega
 unfold normL at h1 h2 h7
 omega
end Hand
end

section
namespace Hand
open Go Go.RowKit Pl Pb K0 Sa St Go.Proofs.YtclkdmmgibgamaaGreatDoor.Pure YtclkdmmgibgamaaGreatDoorW.PrintWords YtclkdmmgibgamaaGreatDoorW.PrintLast YtclkdmmgibgamaaGreatDoorW.PrintMore
theorem rp_bd:∀ (l:List Tk) (p:Pg),(renderP p l).op.length≤p.op.length+l.length∧(renderP p l).kept≤p.kept+l.length:=by
 intro l
 induction l with
 | nil=>intro p;exact ⟨Nat.le_refl _,Nat.le_refl _⟩
 | cons t r ih =>
   intro p
   have h1:=ih (pgTok p t)
   have h2:=pgTok_op p t
   have h3:=pgTok_kept p t
   rw [List.length_cons]
   show (renderP (pgTok p t) r).op.length≤_∧(renderP (pgTok p t) r).kept≤_
   omega
theorem rp_succ (l:List Tk) (i:Nat) (h:i<l.length):renderP pg0 (l.take (i+1))=pgTok (renderP pg0 (l.take i)) l[i]:=by
 rw [List.take_succ_eq_append_getElem h]
 unfold renderP
 rw [List.foldl_append]
 rfl
theorem tkS_at (l:List Tk) (i:Nat) (h:i<l.length):tkS (l.take i)+tkT l[i]≤tkS l:=by
 have e:l=l.take i++(l[i]::l.drop (i+1)):=by rw [← List.drop_eq_getElem_cons h,List.take_append_drop]
 have h2:tkS l=tkS (l.take i)+(tkT l[i]+tkS (l.drop (i+1))):=by
  conv=>lhs;rw [e]
  rw [tkS_app,tkS_cons]
 omega
theorem tkS_take (l:List Tk) (i:Nat):tkS (l.take i)≤tkS l:=by
 have h2:tkS l=tkS (l.take i)+tkS (l.drop i):=by rw [← tkS_app,List.take_append_drop]
 omega
structure RnI (w W:World) (g:Pg):Prop where
 pg:IsPg w.heap.size (w.heap.size+1) w.heap.size g W
 below:Below w.heap.size w W
 var:W.heap[w.heap.size+1+1]? = some (.cells #[.pointer (some ⟨w.heap.size+1,0,none⟩)] 78 (0,0))
 map:W.heap[w.heap.size+1+1+1]? = some (.map (en3 (.func (.func 59) #[.pointer (some ⟨w.heap.size+1,0,none⟩)] #[]) (.func (.func 60) #[.pointer (some ⟨w.heap.size+1,0,none⟩)] #[]) (.func (.func 61) #[] #[.pointer (some ⟨w.heap.size+1+1,0,none⟩)])) 3)
theorem RnI.call {w W W':World} {g:Pg} (h:RnI w W g) (hb:Below W.heap.size W W'):RnI w W' g:=by
 obtain ⟨z,hz⟩:=h.pg
 exact ⟨⟨z,hz.call hb⟩,h.below.trans (hb.mono h.below.size),blk_below h.var hb,blk_below h.map hb⟩
theorem RnI.step {w W W':World} {g g':Pg} {e:Ending} (h:RnI w W g) (hp:PgTo w.heap.size (w.heap.size+1) w.heap.size g' W e W'):e = .returned (.tuple #[])∧RnI w W' g':=by
 obtain ⟨he,h1,h2,h3⟩:=hp
 refine ⟨he,h1,h.below.trans h2,?_,?_⟩
 ·exact h3 _ _ h.var zu4 zu4 (fun c fz e=>by injection e with _ e2 _;exact absurd e2 zu15) (fun c fz e=>by injection e with _ e2 _;exact absurd e2 zu15)
 ·exact h3 _ _ h.map zu4 zu4 (fun c fz e=>by cases e) (fun c fz e=>by cases e)
theorem render_c (l:List Tk) (hz:tkS l≤90000) (hlen:l.length≤90000) (v:Value) (b:Nat) (ok:Nat→Prop) (w:World) (hV:Kd.V tkK 30 w b ok v (l.map ofK)) :
  Calls Tryz.prog 31 #[v] w fun e w'=>e = .returned (.string (B (renderL l)))∧Below w.heap.size w w':=by
 obtain ⟨A,c,rfl⟩:=Kd.V_slice hV
 rw [List.length_map] at hV ⊢
 have EL:=Lib.hid (fun i (hi:i<l.length)=>el_at hV hi)
 clear hV
 have hmf:∀ (fn:Fn) (first cap:Array Value) (w:World),(Instr.makeFunc fn first cap).run Tryz.prog w = .ok (.func fn first cap) w:=fun _ _ _ _=>rfl
 obtain ⟨W3,hW3⟩:∃ W,(((w.alloc (.cells #[.pointer none,.slice none 0 0,.int .i64 0,.slice none 0 0] 113)).alloc (.cells #[.pointer (some ⟨w.heap.size,0,none⟩),.slice none 0 0,.int .i64 0] 82)).alloc (.cells #[.pointer (some ⟨w.heap.size+1,0,none⟩)] 78)).alloc (.map #[] 0)=W:=⟨_,rfl⟩
 have m3:W3.heap[w.heap.size+1+1+1]? = some (.map #[] 0):=by
  rw [← hW3]
  have:=heap_alloc_new (((w.alloc (.cells #[.pointer none,.slice none 0 0,.int .i64 0,.slice none 0 0] 113)).alloc (.cells #[.pointer (some ⟨w.heap.size,0,none⟩),.slice none 0 0,.int .i64 0] 82)).alloc (.cells #[.pointer (some ⟨w.heap.size+1,0,none⟩)] 78)) (.map #[] 0)
  simpa only [World.size_alloc] using this
 obtain ⟨W4,u4,m4,b4,k4⟩:=upd_run (v:=(.func (.func 59) #[.pointer (some ⟨w.heap.size+1,0,none⟩)] #[])) (k:=1) m3 (fun i=>rfl)
 obtain ⟨W5,u5,m5,b5,k5⟩:=upd_run (v:=(.func (.func 60) #[.pointer (some ⟨w.heap.size+1,0,none⟩)] #[])) (k:=2) m4 (fun i=>rfl)
 obtain ⟨W6,u6,m6,b6,k6⟩:=upd_run (v:=(.func (.func 61) #[] #[.pointer (some ⟨w.heap.size+1+1,0,none⟩)])) (k:=0) m5 (fun i=>rfl)
 have p3:W3.heap[w.heap.size+1+1]? = some (.cells #[.pointer (some ⟨w.heap.size+1,0,none⟩)] 78 (0,0)):=by
  rw [← hW3]
  refine blk_alloc ?_ _
  have:=heap_alloc_new ((w.alloc (.cells #[.pointer none,.slice none 0 0,.int .i64 0,.slice none 0 0] 113)).alloc (.cells #[.pointer (some ⟨w.heap.size,0,none⟩),.slice none 0 0,.int .i64 0] 82)) (.cells #[.pointer (some ⟨w.heap.size+1,0,none⟩)] 78)
  simpa only [World.size_alloc] using this
 have p4:=(k4 (w.heap.size+1+1) zu4).trans p3
 have p5:=(k5 (w.heap.size+1+1) zu4).trans p4
 have p6:=(k6 (w.heap.size+1+1) zu4).trans p5
 have q4:W4.cell? ⟨w.heap.size+1+1,0,none⟩=some (.pointer (some ⟨w.heap.size+1,0,none⟩)):=(blk_cell p4 0).trans rfl
 have q3:W3.cell? ⟨w.heap.size+1+1,0,none⟩=some (.pointer (some ⟨w.heap.size+1,0,none⟩)):=(blk_cell p3 0).trans rfl
 have H6:Hid (RnI w W6 pg0):=Lib.hid (by
  have g3:W3.heap[w.heap.size+1]? = some (.cells #[.pointer (some ⟨w.heap.size,0,none⟩),.slice none 0 0,.int .i64 0] 82 (0,0)):=by
   rw [← hW3]
   refine blk_alloc (blk_alloc ?_ _) _
   have:=heap_alloc_new (w.alloc (.cells #[.pointer none,.slice none 0 0,.int .i64 0,.slice none 0 0] 113)) (.cells #[.pointer (some ⟨w.heap.size,0,none⟩),.slice none 0 0,.int .i64 0] 82)
   simpa only [World.size_alloc] using this
  have f3:W3.heap[w.heap.size]? = some (.cells #[.pointer none,.slice none 0 0,.int .i64 0,.slice none 0 0] 113 (0,0)):=by
   rw [← hW3]
   exact blk_alloc (blk_alloc (blk_alloc (heap_alloc_new w _) _) _) _
  have up:∀ j,j≠w.heap.size+1+1+1→W6.heap[j]? = W3.heap[j]? := fun j hj=>((k6 j hj).trans (k5 j hj)).trans (k4 j hj)
  refine ⟨⟨.slice none 0 0,zu4,(up _ zu4).trans g3,⟨.pointer none,.slice none 0 0,.slice none 0 0,.inl rfl,⟨Nat.le_refl _,(up _ zu4).trans f3,own_nil _ _ _ _,own_nil _ _ _ _,ne_nil _⟩⟩,own_nil _ _ _ _⟩,?_,p6,?_⟩
  ·have hb3:Below w.heap.size w W3:=by
    rw [← hW3]
    exact ((((below_alloc (Below.refl _ _) _).alloc zu19 _).alloc zu25 _).alloc zu25 _)
   exact ((hb3.trans (b4.mono zu4)).trans (b5.mono zu4)).trans (b6.mono zu4)
  ·exact m6)
 have hmm:=@run_makeMap Tryz.prog
 have N1:=Lib.hid (new_c w)
 clear m3 m4 m5 m6 b4 b5 b6 k4 k5 k6 p3 p4 p5 p6
 go_enter Tryz.func31,Tryz.ntmps31
 go_wp2_with fail
 refine N1.out.mono ?_
 rintro e w1 ⟨rfl,rfl⟩
 go_wp2_with fail
 have HLEN:=Lib.hid hlen
 have HZ:=Lib.hid hz
 clear hlen hz u4 u5 u6 q3 q4 hmm hmf
 obtain ⟨n,hn⟩:∃ n,l.length=n:=⟨_,rfl⟩
 have HN:=Lib.hid hn
 have hn9:n≤90000:=by rw [← hn];exact HLEN.out
 rw [hn]
 clear hn N1 hW3
 go_loopw [21] (fun t wr => ∃ i:Nat,t = .int .i64 (i:Int)∧i≤n∧Hid (RnI w wr (renderP pg0 (l.take i)))) (fun t _=>n - (intOf t).toNat)
 case atStart=>exact ⟨0,rfl,Nat.zero_le _,H6⟩
 case round =>
  clear H6
  obtain ⟨i,rfl,hi,HI⟩:=hrel
  by_cases hlt:i<n
  ·have hll:i<l.length:=by rw [HN.out];exact hlt
   have q1:decide ((i:Int)<(n:Int))=true:=decide_eq_true zu4
   have i0:(0:Int)≤(i:Int):=by omega
   have i1:(i:Int)<(n:Int):=by omega
   obtain ⟨ad,A3,c3,hA,hx0,hx1,hx2,hx3,hx4⟩:=EL.out i hll
   subst hA
   have up:∀ {a:Addr} {x:Value},w.cell? a=some x→wr.cell? a=some x:=fun h=>(HI.out.below.cell (World.block_lt_of_cell? w _ h)).trans h
   replace hx0:=up hx0
   replace hx1:=up hx1
   replace hx2:=up hx2
   replace hx3:=up hx3
   replace hx4:=up hx4
   have hsuc:=rp_succ l i hll
   have hts:=tkS_at l i hll
   have hzt:=tkS_take l i
   have hr1:=render_z (l.take i) pg0
   have hr2:=rp_bd (l.take i) pg0
   rw [List.length_take] at hr2
   have hr0:flZ pg0.fl=0:=rfl
   have hr3:pg0.op.length=0:=rfl
   have hr4:pg0.kept=0:=rfl
   have hZ:=HZ.out
   obtain ⟨t,ht⟩:∃ t,l[i]=t:=⟨_,rfl⟩
   rw [ht] at hx0 hx1 hx2 hx3 hx4 hsuc hts
   obtain ⟨g,hg⟩:∃ g,renderP pg0 (l.take i)=g:=⟨_,rfl⟩
   rw [hg] at HI hsuc hr1 hr2
   have HSU:=Lib.hid hsuc
   have bz:flZ g.fl≤90000:=by omega
   have bzt:flZ g.fl+tkT t≤90000:=by omega
   have bk:g.kept≤1000000:=by omega
   have bo:g.op.length≤1000000:=by omega
   clear up hsuc ht hg hzt hr1 hr2 hr0 hr3 hr4
   have RA:=fun o=>HI.out.call (below_alloc (Below.refl _ _) o)
   cases t with
   | text s =>
     replace hx3:wr.cell? ⟨(ad.add (i*5)).block,(ad.add (i*5)).off+3,none⟩=some (.slice A3 0 c3):=hx3
     replace hx0:wr.cell? (ad.add (i*5))=some (.int .i64 0):=hx0
     replace hx1:wr.cell? ⟨(ad.add (i*5)).block,(ad.add (i*5)).off+1,none⟩=some (.string (⟨#[]⟩:ByteArray)):=hx1
     replace hx2:wr.cell? ⟨(ad.add (i*5)).block,(ad.add (i*5)).off+2,none⟩=some (.string (B s)):=hx2
     replace hx4:wr.cell? ⟨(ad.add (i*5)).block,(ad.add (i*5)).off+4,none⟩=some (.bool false):=hx4
     have R1:=RA (.cells #[.int .i64 0,.string (⟨#[]⟩:ByteArray),.string (B s),.slice A3 0 c3,.bool false] 30)
     have hlk:=look_run (k:=0) R1.map rfl
     have CL:Hid (Calls Tryz.prog 61 #[.agg #[.int .i64 0,.string (⟨#[]⟩:ByteArray),.string (B s),.slice A3 0 c3,.bool false],.pointer (some ⟨w.heap.size+1+1,0,none⟩)] (wr.alloc (.cells #[.int .i64 0,.string (⟨#[]⟩:ByteArray),.string (B s),.slice A3 0 c3,.bool false] 30)) fun e w'=>e = .returned (.tuple #[])∧RnI w w' (renderP pg0 (l.take (i+1)))):=Lib.hid (by
      rw [HSU.out]
      exact (pgText_c w.heap.size (w.heap.size+1) w.heap.size (w.heap.size+1+1) g s 0 _ A3 0 c3 false _ R1.pg R1.var (by have h0:tkT (.text s)=s.length:=rfl;omega) bo).mono fun e w' h=>R1.step h)
     clear R1 RA HSU hts bz bzt bk bo hZ
     go_wp2_with fail
     refine CL.out.mono ?_
     rintro e w2 ⟨rfl,h2⟩
     have H2:=Lib.hid h2
     clear h2 CL hlk
     go_wp2_with fail
     go_roundw
     case rel=>exact ⟨i+1,by go_num,zu4,H2⟩
     case measure=>simp [intOf];omega
   | start nm al self =>
     obtain ⟨m3,hm3⟩:∃ m,(ofK (.start nm al self)).f3.length=m:=⟨_,rfl⟩
     rw [hm3] at hx3
     replace hx0:wr.cell? (ad.add (i*5))=some (.int .i64 1):=hx0
     replace hx1:wr.cell? ⟨(ad.add (i*5)).block,(ad.add (i*5)).off+1,none⟩=some (.string (B nm)):=hx1
     replace hx2:wr.cell? ⟨(ad.add (i*5)).block,(ad.add (i*5)).off+2,none⟩=some (.string (⟨#[]⟩:ByteArray)):=hx2
     replace hx4:wr.cell? ⟨(ad.add (i*5)).block,(ad.add (i*5)).off+4,none⟩=some (.bool self):=hx4
     have R1:=RA (.cells #[.int .i64 1,.string (B nm),.string (⟨#[]⟩:ByteArray),.slice A3 m3 c3,.bool self] 30)
     have hlk:=look_run (k:=1) R1.map rfl
     have CL:Hid (Calls Tryz.prog 59 #[.pointer (some ⟨w.heap.size+1,0,none⟩),.agg #[.int .i64 1,.string (B nm),.string (⟨#[]⟩:ByteArray),.slice A3 m3 c3,.bool self]] (wr.alloc (.cells #[.int .i64 1,.string (B nm),.string (⟨#[]⟩:ByteArray),.slice A3 m3 c3,.bool self] 30)) fun e w'=>e = .returned (.tuple #[])∧RnI w w' (renderP pg0 (l.take (i+1)))):=Lib.hid (by
      rw [HSU.out]
      exact (pgStart_c w.heap.size (w.heap.size+1) w.heap.size g nm 1 _ A3 m3 c3 self _ R1.pg zu4 bk bo).mono fun e w' h=>R1.step h)
     clear R1 RA HSU hts bz bzt bk bo hZ
     go_wp2_with fail
     refine CL.out.mono ?_
     rintro e w2 ⟨rfl,h2⟩
     have H2:=Lib.hid h2
     clear h2 CL hlk
     go_wp2_with fail
     go_roundw
     case rel=>exact ⟨i+1,by go_num,zu4,H2⟩
     case measure=>simp [intOf];omega
   | fin nm =>
     replace hx3:wr.cell? ⟨(ad.add (i*5)).block,(ad.add (i*5)).off+3,none⟩=some (.slice A3 0 c3):=hx3
     replace hx0:wr.cell? (ad.add (i*5))=some (.int .i64 2):=hx0
     replace hx1:wr.cell? ⟨(ad.add (i*5)).block,(ad.add (i*5)).off+1,none⟩=some (.string (B nm)):=hx1
     replace hx2:wr.cell? ⟨(ad.add (i*5)).block,(ad.add (i*5)).off+2,none⟩=some (.string (⟨#[]⟩:ByteArray)):=hx2
     replace hx4:wr.cell? ⟨(ad.add (i*5)).block,(ad.add (i*5)).off+4,none⟩=some (.bool false):=hx4
     have R1:=RA (.cells #[.int .i64 2,.string (B nm),.string (⟨#[]⟩:ByteArray),.slice A3 0 c3,.bool false] 30)
     have hlk:=look_run (k:=2) R1.map rfl
     have CL:Hid (Calls Tryz.prog 60 #[.pointer (some ⟨w.heap.size+1,0,none⟩),.agg #[.int .i64 2,.string (B nm),.string (⟨#[]⟩:ByteArray),.slice A3 0 c3,.bool false]] (wr.alloc (.cells #[.int .i64 2,.string (B nm),.string (⟨#[]⟩:ByteArray),.slice A3 0 c3,.bool false] 30)) fun e w'=>e = .returned (.tuple #[])∧RnI w w' (renderP pg0 (l.take (i+1)))):=Lib.hid (by
      rw [HSU.out]
      exact (pgEnd_c w.heap.size (w.heap.size+1) w.heap.size g nm 2 _ A3 0 c3 false _ R1.pg zu4 bk bo).mono fun e w' h=>R1.step h)
     clear R1 RA HSU hts bz bzt bk bo hZ
     go_wp2_with fail
     refine CL.out.mono ?_
     rintro e w2 ⟨rfl,h2⟩
     have H2:=Lib.hid h2
     clear h2 CL hlk
     go_wp2_with fail
     go_roundw
     case rel=>exact ⟨i+1,by go_num,zu4,H2⟩
     case measure=>simp [intOf];omega
   | comment s =>
     replace hx3:wr.cell? ⟨(ad.add (i*5)).block,(ad.add (i*5)).off+3,none⟩=some (.slice A3 0 c3):=hx3
     replace hx0:wr.cell? (ad.add (i*5))=some (.int .i64 3):=hx0
     replace hx1:wr.cell? ⟨(ad.add (i*5)).block,(ad.add (i*5)).off+1,none⟩=some (.string (⟨#[]⟩:ByteArray)):=hx1
     replace hx2:wr.cell? ⟨(ad.add (i*5)).block,(ad.add (i*5)).off+2,none⟩=some (.string (B s)):=hx2
     replace hx4:wr.cell? ⟨(ad.add (i*5)).block,(ad.add (i*5)).off+4,none⟩=some (.bool false):=hx4
     have R1:=RA (.cells #[.int .i64 3,.string (⟨#[]⟩:ByteArray),.string (B s),.slice A3 0 c3,.bool false] 30)
     have hlk:=look_none (k:=3) R1.map rfl
     have H2:Hid (RnI w (wr.alloc (.cells #[.int .i64 3,.string (⟨#[]⟩:ByteArray),.string (B s),.slice A3 0 c3,.bool false] 30)) (renderP pg0 (l.take (i+1)))):=Lib.hid (by rw [HSU.out];exact R1)
     clear R1 RA HSU hts bz bzt bk bo hZ
     go_wp2_with fail
     go_roundw
     case rel=>exact ⟨i+1,by go_num,zu4,H2⟩
     case measure=>simp [intOf];omega
   | doctype s =>
     replace hx3:wr.cell? ⟨(ad.add (i*5)).block,(ad.add (i*5)).off+3,none⟩=some (.slice A3 0 c3):=hx3
     replace hx0:wr.cell? (ad.add (i*5))=some (.int .i64 4):=hx0
     replace hx1:wr.cell? ⟨(ad.add (i*5)).block,(ad.add (i*5)).off+1,none⟩=some (.string (⟨#[]⟩:ByteArray)):=hx1
     replace hx2:wr.cell? ⟨(ad.add (i*5)).block,(ad.add (i*5)).off+2,none⟩=some (.string (B s)):=hx2
     replace hx4:wr.cell? ⟨(ad.add (i*5)).block,(ad.add (i*5)).off+4,none⟩=some (.bool false):=hx4
     have R1:=RA (.cells #[.int .i64 4,.string (⟨#[]⟩:ByteArray),.string (B s),.slice A3 0 c3,.bool false] 30)
     have hlk:=look_none (k:=4) R1.map rfl
     have H2:Hid (RnI w (wr.alloc (.cells #[.int .i64 4,.string (⟨#[]⟩:ByteArray),.string (B s),.slice A3 0 c3,.bool false] 30)) (renderP pg0 (l.take (i+1)))):=Lib.hid (by rw [HSU.out];exact R1)
     clear R1 RA HSU hts bz bzt bk bo hZ
     go_wp2_with fail
     go_roundw
     case rel=>exact ⟨i+1,by go_num,zu4,H2⟩
     case measure=>simp [intOf];omega
  ·have hie:i=n:=by omega
   have q1:decide ((i:Int)<(n:Int))=false:=decide_eq_false zu4
   obtain ⟨z,hz⟩:=HI.out.pg
   have pv:wr.cell? ⟨w.heap.size+1+1,0,none⟩=some (.pointer (some ⟨w.heap.size+1,0,none⟩)):=(blk_cell HI.out.var 0).trans rfl
   have pf:=hz.c0
   have TX:=text_c _ _ _ _ hz.fl
   rw [show (renderP pg0 (l.take i)).fl.told=renderL l by rw [hie,← HN.out,List.take_length];rfl] at TX
   replace TX:=Lib.hid TX
   clear hz
   go_wp2_with fail
   refine TX.out.mono ?_
   rintro e w2 ⟨rfl,hb⟩
   go_wp2_with fail
   go_ret
   exact ⟨rfl,HI.out.below.trans hb⟩
end Hand
end

section
namespace Hand
open Go.RowKit Pl Pb
def spanV (lo hi:Int):Value:=.agg #[.int .u8 lo,.int .u8 hi]
theorem below_two (w:World) (o p:Obj):Below w.heap.size w ((w.alloc o).alloc p):=((Below.refl _ w).alloc (Nat.le_refl _) o).alloc zu19 p
theorem load_span (w:World) (a b:Value) (p:Obj):(loadVar 98 ⟨w.heap.size,0,none⟩).run Tryz.prog ((w.alloc (.cells #[a,b] 98)).alloc p) = .ok (.agg #[a,b]) ((w.alloc (.cells #[a,b] 98)).alloc p) :=
 run_loadVar_row _ _ 98 98 #[a,b] (0,0) _ (by show ((w.heap.push _).push _)[w.heap.size]? = _;simp [Array.getElem?_push]) Tryz.underlying98 rfl zu13
theorem tail_c0 (c:Nat) (w:World) (h:c<194):Calls Tryz.prog 80 #[.int .u8 (c:Int)] w fun e w'=>e = .returned (.tuple #[spanV 128 191,.int .i64 1])∧Below w.heap.size w w':=by
 have q1:decide ((194:Int)≤(c:Int))=false:=by simp;omega
 have q3:((c:Int) == 224)=false:=by simp;omega
 have q4:((c:Int) == 237)=false:=by simp;omega
 have q5:decide ((225:Int)≤(c:Int))=false:=by simp;omega
 have q7:((c:Int) == 240)=false:=by simp;omega
 have q8:((c:Int) == 244)=false:=by simp;omega
 have q9:decide ((241:Int)≤(c:Int))=false:=by simp;omega
 clear h
 go_enter Tryz.func80,Tryz.ntmps80
 go_wp2_with fail
 refine bodyPost_ret (v:=.tuple #[spanV 128 191,.int .i64 1]) ?_ rfl ⟨rfl,below_two w _ _⟩
 rw [results_cell_tmp rfl]
 simp only [Array.getD_eq_getD_getElem?,List.getElem?_toArray,List.getElem?_cons_succ,List.getElem?_cons_zero,Option.getD_some,asAddr,Sem.run_pure,Result.andThen_ok,load_span w]
 rfl
theorem tail_c1 (c:Nat) (w:World) (h:194≤c∧c≤223):Calls Tryz.prog 80 #[.int .u8 (c:Int)] w fun e w'=>e = .returned (.tuple #[spanV 128 191,.int .i64 2])∧Below w.heap.size w w':=by
 have q1:decide ((194:Int)≤(c:Int))=true:=by simp;omega
 have q2:decide ((c:Int)≤223)=true:=by simp;omega
 clear h
 go_enter Tryz.func80,Tryz.ntmps80
 go_wp2_with fail
 refine bodyPost_ret (v:=.tuple #[spanV 128 191,.int .i64 2]) ?_ rfl ⟨rfl,below_two w _ _⟩
 rw [results_cell_tmp rfl]
 simp only [Array.getD_eq_getD_getElem?,List.getElem?_toArray,List.getElem?_cons_succ,List.getElem?_cons_zero,Option.getD_some,asAddr,Sem.run_pure,Result.andThen_ok,load_span w]
 rfl
theorem tail_c2 (c:Nat) (w:World) (h:c=224):Calls Tryz.prog 80 #[.int .u8 (c:Int)] w fun e w'=>e = .returned (.tuple #[spanV 160 191,.int .i64 3])∧Below w.heap.size w w':=by
 have q1:decide ((194:Int)≤(c:Int))=true:=by simp;omega
 have q2:decide ((c:Int)≤223)=false:=by simp;omega
 have q3:((c:Int) == 224)=true:=by simp;omega
 clear h
 go_enter Tryz.func80,Tryz.ntmps80
 go_wp2_with fail
 refine bodyPost_ret (v:=.tuple #[spanV 160 191,.int .i64 3]) ?_ rfl ⟨rfl,below_two w _ _⟩
 rw [results_cell_tmp rfl]
 simp only [Array.getD_eq_getD_getElem?,List.getElem?_toArray,List.getElem?_cons_succ,List.getElem?_cons_zero,Option.getD_some,asAddr,Sem.run_pure,Result.andThen_ok,load_span w]
 rfl
theorem tail_c3 (c:Nat) (w:World) (h:c=237):Calls Tryz.prog 80 #[.int .u8 (c:Int)] w fun e w'=>e = .returned (.tuple #[spanV 128 159,.int .i64 3])∧Below w.heap.size w w':=by
 have q1:decide ((194:Int)≤(c:Int))=true:=by simp;omega
 have q2:decide ((c:Int)≤223)=false:=by simp;omega
 have q3:((c:Int) == 224)=false:=by simp;omega
 have q4:((c:Int) == 237)=true:=by simp;omega
 clear h
 go_enter Tryz.func80,Tryz.ntmps80
 go_wp2_with fail
 refine bodyPost_ret (v:=.tuple #[spanV 128 159,.int .i64 3]) ?_ rfl ⟨rfl,below_two w _ _⟩
 rw [results_cell_tmp rfl]
 simp only [Array.getD_eq_getD_getElem?,List.getElem?_toArray,List.getElem?_cons_succ,List.getElem?_cons_zero,Option.getD_some,asAddr,Sem.run_pure,Result.andThen_ok,load_span w]
 rfl
theorem tail_c4 (c:Nat) (w:World) (h:225≤c∧c≤239∧c≠237):Calls Tryz.prog 80 #[.int .u8 (c:Int)] w fun e w'=>e = .returned (.tuple #[spanV 128 191,.int .i64 3])∧Below w.heap.size w w':=by
 have q1:decide ((194:Int)≤(c:Int))=true:=by simp;omega
 have q2:decide ((c:Int)≤223)=false:=by simp;omega
 have q3:((c:Int) == 224)=false:=by simp;omega
 have q4:((c:Int) == 237)=false:=by simp;omega
 have q5:decide ((225:Int)≤(c:Int))=true:=by simp;omega
 have q6:decide ((c:Int)≤239)=true:=by simp;omega
 clear h
 go_enter Tryz.func80,Tryz.ntmps80
 go_wp2_with fail
 refine bodyPost_ret (v:=.tuple #[spanV 128 191,.int .i64 3]) ?_ rfl ⟨rfl,below_two w _ _⟩
 rw [results_cell_tmp rfl]
 simp only [Array.getD_eq_getD_getElem?,List.getElem?_toArray,List.getElem?_cons_succ,List.getElem?_cons_zero,Option.getD_some,asAddr,Sem.run_pure,Result.andThen_ok,load_span w]
 rfl
theorem tail_c5 (c:Nat) (w:World) (h:c=240):Calls Tryz.prog 80 #[.int .u8 (c:Int)] w fun e w'=>e = .returned (.tuple #[spanV 144 191,.int .i64 4])∧Below w.heap.size w w':=by
 have q1:decide ((194:Int)≤(c:Int))=true:=by simp;omega
 have q2:decide ((c:Int)≤223)=false:=by simp;omega
 have q3:((c:Int) == 224)=false:=by simp;omega
 have q4:((c:Int) == 237)=false:=by simp;omega
 have q5:decide ((225:Int)≤(c:Int))=true:=by simp;omega
 have q6:decide ((c:Int)≤239)=false:=by simp;omega
 have q7:((c:Int) == 240)=true:=by simp;omega
 clear h
 go_enter Tryz.func80,Tryz.ntmps80
 go_wp2_with fail
 refine bodyPost_ret (v:=.tuple #[spanV 144 191,.int .i64 4]) ?_ rfl ⟨rfl,below_two w _ _⟩
 rw [results_cell_tmp rfl]
 simp only [Array.getD_eq_getD_getElem?,List.getElem?_toArray,List.getElem?_cons_succ,List.getElem?_cons_zero,Option.getD_some,asAddr,Sem.run_pure,Result.andThen_ok,load_span w]
 rfl
theorem tail_c6 (c:Nat) (w:World) (h:c=244):Calls Tryz.prog 80 #[.int .u8 (c:Int)] w fun e w'=>e = .returned (.tuple #[spanV 128 143,.int .i64 4])∧Below w.heap.size w w':=by
 have q1:decide ((194:Int)≤(c:Int))=true:=by simp;omega
 have q2:decide ((c:Int)≤223)=false:=by simp;omega
 have q3:((c:Int) == 224)=false:=by simp;omega
 have q4:((c:Int) == 237)=false:=by simp;omega
 have q5:decide ((225:Int)≤(c:Int))=true:=by simp;omega
 have q6:decide ((c:Int)≤239)=false:=by simp;omega
 have q7:((c:Int) == 240)=false:=by simp;omega
 have q8:((c:Int) == 244)=true:=by simp;omega
 clear h
 go_enter Tryz.func80,Tryz.ntmps80
 go_wp2_with fail
 refine bodyPost_ret (v:=.tuple #[spanV 128 143,.int .i64 4]) ?_ rfl ⟨rfl,below_two w _ _⟩
 rw [results_cell_tmp rfl]
 simp only [Array.getD_eq_getD_getElem?,List.getElem?_toArray,List.getElem?_cons_succ,List.getElem?_cons_zero,Option.getD_some,asAddr,Sem.run_pure,Result.andThen_ok,load_span w]
 rfl
theorem tail_c7 (c:Nat) (w:World) (h:241≤c∧c≤243):Calls Tryz.prog 80 #[.int .u8 (c:Int)] w fun e w'=>e = .returned (.tuple #[spanV 128 191,.int .i64 4])∧Below w.heap.size w w':=by
 have q1:decide ((194:Int)≤(c:Int))=true:=by simp;omega
 have q2:decide ((c:Int)≤223)=false:=by simp;omega
 have q3:((c:Int) == 224)=false:=by simp;omega
 have q4:((c:Int) == 237)=false:=by simp;omega
 have q5:decide ((225:Int)≤(c:Int))=true:=by simp;omega
 have q6:decide ((c:Int)≤239)=false:=by simp;omega
 have q7:((c:Int) == 240)=false:=by simp;omega
 have q8:((c:Int) == 244)=false:=by simp;omega
 have q9:decide ((241:Int)≤(c:Int))=true:=by simp;omega
 have q10:decide ((c:Int)≤243)=true:=by simp;omega
 clear h
 go_enter Tryz.func80,Tryz.ntmps80
 go_wp2_with fail
 refine bodyPost_ret (v:=.tuple #[spanV 128 191,.int .i64 4]) ?_ rfl ⟨rfl,below_two w _ _⟩
 rw [results_cell_tmp rfl]
 simp only [Array.getD_eq_getD_getElem?,List.getElem?_toArray,List.getElem?_cons_succ,List.getElem?_cons_zero,Option.getD_some,asAddr,Sem.run_pure,Result.andThen_ok,load_span w]
 rfl
theorem tail_c8 (c:Nat) (w:World) (h:244<c):Calls Tryz.prog 80 #[.int .u8 (c:Int)] w fun e w'=>e = .returned (.tuple #[spanV 128 191,.int .i64 1])∧Below w.heap.size w w':=by
 have q1:decide ((194:Int)≤(c:Int))=true:=by simp;omega
 have q2:decide ((c:Int)≤223)=false:=by simp;omega
 have q3:((c:Int) == 224)=false:=by simp;omega
 have q4:((c:Int) == 237)=false:=by simp;omega
 have q5:decide ((225:Int)≤(c:Int))=true:=by simp;omega
 have q6:decide ((c:Int)≤239)=false:=by simp;omega
 have q7:((c:Int) == 240)=false:=by simp;omega
 have q8:((c:Int) == 244)=false:=by simp;omega
 have q9:decide ((241:Int)≤(c:Int))=true:=by simp;omega
 have q10:decide ((c:Int)≤243)=false:=by simp;omega
 clear h
 go_enter Tryz.func80,Tryz.ntmps80
 go_wp2_with fail
 refine bodyPost_ret (v:=.tuple #[spanV 128 191,.int .i64 1]) ?_ rfl ⟨rfl,below_two w _ _⟩
 rw [results_cell_tmp rfl]
 simp only [Array.getD_eq_getD_getElem?,List.getElem?_toArray,List.getElem?_cons_succ,List.getElem?_cons_zero,Option.getD_some,asAddr,Sem.run_pure,Result.andThen_ok,load_span w]
 rfl
theorem tail_any (c:Nat) (w:World):Calls Tryz.prog 80 #[.int .u8 (c:Int)] w fun e w'=>e = .returned (.tuple #[spanV (tailN c).1 (tailN c).2.1,.int .i64 (tailN c).2.2])∧Below w.heap.size w w':=by
 unfold tailN
 split
 ·exact tail_c1 c w zu57
 ·split
  ·exact tail_c2 c w zu57
  ·split
   ·exact tail_c3 c w zu57
   ·split
    ·exact tail_c4 c w zu4
    ·split
     ·exact tail_c5 c w zu57
     ·split
      ·exact tail_c6 c w zu57
      ·split
       ·exact tail_c7 c w zu57
       ·by_cases h:c<194
        ·exact tail_c0 c w h
        ·exact tail_c8 c w zu4
theorem has_c (lo hi c:Int) (w:World):Calls Tryz.prog 81 #[.agg #[.int .u8 lo,.int .u8 hi],.int .u8 c] w fun e w'=>e = .returned (.bool (decide (lo≤c∧c≤hi)))∧Below w.heap.size w w':=by
 have hB:∀ o,Below w.heap.size w (w.alloc o):=fun o=>(Below.refl _ w).alloc (Nat.le_refl _) o
 have HB:=Lib.hid hB
 clear hB
 by_cases h1:lo≤c
 ·have q1:decide (lo≤c)=true:=by simp;omega
  by_cases h2:c≤hi
  ·have q2:decide (c≤hi)=true:=by simp;omega
   have e:decide (lo≤c∧c≤hi)=true:=decide_eq_true ⟨h1,h2⟩
   rw [e]
   clear h1 h2 e
   go_enter Tryz.func81,Tryz.ntmps81
   go_wp2_with fail
   go_ret
   exact ⟨rfl,HB.out _⟩
  ·have q2:decide (c≤hi)=false:=by simp;omega
   have e:decide (lo≤c∧c≤hi)=false:=decide_eq_false zu4
   rw [e]
   clear h1 h2 e
   go_enter Tryz.func81,Tryz.ntmps81
   go_wp2_with fail
   go_ret
   exact ⟨rfl,HB.out _⟩
 ·have q1:decide (lo≤c)=false:=by simp;omega
  have e:decide (lo≤c∧c≤hi)=false:=decide_eq_false zu4
  rw [e]
  clear h1 e
  go_enter Tryz.func81,Tryz.ntmps81
  go_wp2_with fail
  go_ret
  exact ⟨rfl,HB.out _⟩
def scanF (all:Nat):Nat→Nat→Nat→List UInt8→Nat×Bool
 | k,_,_,[]=>if k<all then (k,false) else (k,decide (1<all))
 | k,lo,hi,d::r=>if k<all then (if lo≤d.toNat∧d.toNat≤hi then scanF all (k+1) 128 191 r else (k,false)) else (k,decide (1<all))
theorem scanF_end (all k lo hi:Nat) (r:List UInt8) (h:¬ k<all):scanF all k lo hi r=(k,decide (1<all)):=by
 cases r<;>rw [scanF,if_neg h]
theorem byteO_nil (k:Nat):byteO [] k=none:=rfl
theorem byteO_zero (d:UInt8) (r:List UInt8):byteO (d::r) 0=some d.toNat:=rfl
theorem byteO_succ (d:UInt8) (r:List UInt8) (k:Nat):byteO (d::r) (k+1)=byteO r k:=rfl
theorem tail_all (c:Nat):(tailN c).2.2=1∨(tailN c).2.2=2∨(tailN c).2.2=3∨(tailN c).2.2=4:=by
 unfold tailN
 repeat' split
 all_goals simp
set_option linter.unusedSimpArgs false in
theorem first_scan (c:UInt8) (r:List UInt8) (h:¬ c.toNat<128):firstU (c::r)=scanF (tailN c.toNat).2.2 1 (tailN c.toNat).1 (tailN c.toNat).2.1 r:=by
 show firstN c.toNat (byteO r 0) (byteO r 1) (byteO r 2)=_
 unfold firstN
 rw [if_neg h]
 obtain ⟨lo,hl⟩:∃ x,(tailN c.toNat).1=x:=⟨_,rfl⟩
 obtain ⟨hi,hh⟩:∃ x,(tailN c.toNat).2.1=x:=⟨_,rfl⟩
 rw [hl,hh]
 have e4:∀ q,scanF 4 4 128 191 q=(4,true):=fun q=>scanF_end _ _ _ _ _ zu4
 have e3:∀ q,scanF 3 3 128 191 q=(3,true):=fun q=>scanF_end _ _ _ _ _ zu4
 have e2:∀ q,scanF 2 2 128 191 q=(2,true):=fun q=>scanF_end _ _ _ _ _ zu4
 rcases tail_all c.toNat with h1|h1|h1|h1<;>rw [h1]
 ·rw [if_pos rfl,scanF_end _ _ _ _ _ zu4];rfl
 all_goals
  rcases r with _|⟨d,_|⟨e,_|⟨f,r⟩⟩⟩
  ·simp [scanF,byteO_nil,inO]
  ·by_cases hd:lo≤d.toNat∧d.toNat≤hi<;>simp [scanF,byteO_nil,byteO_zero,byteO_succ,inO,contO,hd,e4,e3,e2]
  ·by_cases hd:lo≤d.toNat∧d.toNat≤hi<;>by_cases he:128≤e.toNat∧e.toNat≤191<;>simp [scanF,byteO_nil,byteO_zero,byteO_succ,inO,contO,hd,he,e4,e3,e2]
  ·by_cases hd:lo≤d.toNat∧d.toNat≤hi<;>by_cases he:128≤e.toNat∧e.toNat≤191<;>by_cases hf:128≤f.toNat∧f.toNat≤191<;>simp [scanF,byteO_nil,byteO_zero,byteO_succ,inO,contO,hd,he,hf,e4,e3,e2]
structure Sp (w:World) (p:Nat) (l h:Int) (W:World):Prop where
 lt:p<W.heap.size
 own:w.heap.size≤p
 blk:Blk p #[.int .u8 l,.int .u8 h] W
 below:Below w.heap.size w W
theorem Sp.call {w W W':World} {p:Nat} {l h:Int} (hs:Sp w p l h W) (hb:Below W.heap.size W W'):Sp w p l h W' :=
 ⟨Nat.lt_of_lt_of_le hs.lt hb.size,hs.own,hs.blk.below hb hs.lt,hs.below.trans (hb.mono hs.below.size)⟩
@[reducible] def SpC (w:World) (p:Nat) (l h:Int) (W:World):Prop:=Sp w p l h W∧W.cell? ⟨p,0,none⟩=some (.int .u8 l)∧W.cell? ⟨p,1,none⟩=some (.int .u8 h)
theorem Sp.cells {w W:World} {p:Nat} {l h:Int} (hs:Sp w p l h W):SpC w p l h W:=⟨hs,hs.blk.cell 0 zu19,hs.blk.cell 1 zu19⟩
theorem SpC.call {w W W':World} {p:Nat} {l h:Int} (hb:Below W.heap.size W W') (hs:SpC w p l h W):SpC w p l h W':=(hs.1.call hb).cells
theorem Sp.drew {w W:World} {p:Nat} {l h:Int} (hs:Sp w p l h W):Sp w p l h W.drew:=hs.call (Below.drew (Below.refl _ _))
theorem Sp.put {w W:World} {p:Nat} {l h:Int} (hs:Sp w p l h W) (l' h':Int):Sp w p l' h' ((W.setCell ⟨p,0,none⟩ (.int .u8 l')).setCell ⟨p,1,none⟩ (.int .u8 h')) :=
 ⟨by simp;exact hs.lt,hs.own,by
   have:=(hs.blk.set 0 (.int .u8 l') zu19).set 1 (.int .u8 h') zu19
   simpa using this,by
   have b1:=hs.below.setCell (p:=⟨p,0,none⟩) hs.own (.int .u8 l')
   exact b1.setCell (p:=⟨p,1,none⟩) hs.own (.int .u8 h')⟩
theorem Sp.new (w w1:World) (l h:Int) (t:TypeId) (hb:Below w.heap.size w w1):Sp w w1.heap.size l h (w1.alloc (.cells #[.int .u8 l,.int .u8 h] t)) :=
 ⟨zu19,hb.size,Blk.of_alloc _ _ _,hb.alloc hb.size _⟩
theorem first_at (c:UInt8) (r:List UInt8) (n:Nat) (b:Bool) (hf:firstU (c::r)=(n,b)) (a:ByteArray) (ha:a.data.toList=c::r) (hz:a.size≤1000000000) (w:World) :
  Calls Tryz.prog 42 #[.string a] w fun e w'=>e = .returned (.tuple #[.int .i64 (n:Int),.bool b])∧Below w.heap.size w w':=by
 have h0:0<a.size:=by
  have:=congrArg List.length ha
  rw [Array.length_toList,List.length_cons] at this
  show 0<a.data.size
  omega
 have hc:a[0]=c:=by
  have:=congrArg (fun l=>l[0]?) ha
  rw [Array.getElem?_toList] at this
  rw [Array.getElem?_eq_getElem (show 0<a.data.size from h0)] at this
  exact Option.some.inj this
 by_cases h128:c.toNat<128
 ·have q1:decide (((a[0].toNat:Nat):Int)<128)=true:=by rw [hc];simp;omega
  have hn:(n,b)=(1,true):=by rw [← hf];show firstN c.toNat (byteO r 0) (byteO r 1) (byteO r 2)=_;unfold firstN;rw [if_pos h128]
  injection hn with h1 h2
  subst h1;subst h2
  clear ha hc hf h128
  go_enter Tryz.func42,Tryz.ntmps42
  go_wp2_with fail
  go_ret2
  exact ⟨rfl,Below.refl _ _⟩
 ·have q1:decide (((a[0].toNat:Nat):Int)<128)=false:=by rw [hc];simp;omega
  have hs:=first_scan c r h128
  rw [hf] at hs
  have T:=fun W=>tail_any a[0].toNat W
  rw [hc] at T
  have hall:=tail_all c.toNat
  obtain ⟨lo,hl⟩:∃ x,(tailN c.toNat).1=x:=⟨_,rfl⟩
  obtain ⟨hi,hh⟩:∃ x,(tailN c.toNat).2.1=x:=⟨_,rfl⟩
  obtain ⟨all,ht⟩:∃ x,(tailN c.toNat).2.2=x:=⟨_,rfl⟩
  rw [hl,hh,ht] at hs T
  rw [ht] at hall
  have HT:Hid (∀ W,Calls Tryz.prog 80 #[.int .u8 ((a[0].toNat:Nat):Int)] W fun e w'=>e = .returned (.tuple #[.agg #[.int .u8 (lo:Int),.int .u8 (hi:Int)],.int .i64 (all:Int)])∧Below W.heap.size W w'):=Lib.hid (fun W=>by rw [hc];exact T W)
  have HA:Hid ((n,b)=scanF all 1 lo hi (a.data.toList.drop 1)):=Lib.hid (by rw [ha];exact hs)
  have HH:=Lib.hid (fun lo hi c W=>has_c lo hi c W)
  have hall4:all≤4:=by omega
  clear ha hc hf h128 hs T hl hh ht hall
  go_enter Tryz.func42,Tryz.ntmps42
  go_wp2_with fail
  refine (HT.out _).mono ?_
  rintro e w1 ⟨rfl,hb⟩
  have HB:=Lib.hid hb
  clear hb
  go_wp2_with fail
  go_loopg [2] 4 (fun g v wx => ∃ k l h:Nat,k+g=5∧v = .int .i64 (k:Int)∧k≤a.size∧Hid (Sp w w1.heap.size l h wx)∧Hid ((n,b)=scanF all k l h (a.data.toList.drop k)))
  case atStart=>exact ⟨1,lo,hi,rfl,rfl,zu4,Lib.hid (Sp.new w w1 lo hi _ HB.out),HA⟩
  case round =>
   obtain ⟨k,l,h,hkg,rfl,hk,hB,hS⟩:=hrel
   by_cases hall:k<all
   ·have q2:decide ((k:Int)<(all:Int))=true:=by simp;omega
    by_cases hlt:k<a.size
    ·have q3:((k:Int) == (a.size:Int))=false:=by rw [beq_eq_false_iff_ne];omega
     have hd:=drop_cons a k hlt
     by_cases hin:l≤a[k].toNat∧a[k].toNat≤h
     ·have F:Hid (∀ W,Calls Tryz.prog 81 #[.agg #[.int .u8 (l:Int),.int .u8 (h:Int)],.int .u8 ((a[k].toNat:Nat):Int)] W fun e w'=>e = .returned (.bool true)∧Below W.heap.size W w'):=Lib.hid (fun W=>by
       have:=HH.out l h (a[k].toNat:Nat) W
       rw [decide_eq_true zu4] at this
       exact this)
      have HN:Hid ((n,b)=scanF all (k+1) 128 191 (a.data.toList.drop (k+1))):=Lib.hid (by
       have:=hS.out
       rw [hd,scanF,if_pos hall,if_pos hin] at this
       exact this)
      clear hd hin hS
      go_wp2_with fail
      have HSD:=(Sp.drew hB.out).cells
      go_region_held3 (fun W=>Sp w w1.heap.size l h W∧W.cell? ⟨w1.heap.size,0,none⟩=some (.int .u8 (l:Int))∧W.cell? ⟨w1.heap.size,1,none⟩=some (.int .u8 (h:Int))) (first|with_reducible assumption|with_reducible exact HSD|exact SpC.call hb zu42) (first | (go_at_call 81;refine (F.out _).mono ?_;rintro e w' ⟨rfl,hb⟩))
      have HW:Hid (Sp w w1.heap.size (l:Int) (h:Int) _):=Lib.hid (And.left zu42)
      have f0:=HW.out.blk.open_ 0
      have f1:=HW.out.blk.open_ 1
      clear HSD F
      go_wp2_with fail
      cases gk with
      | zero=>omega
      | succ g =>
        go_roundg g
        case measure=>omega
        case rel=>exact ⟨k+1,128,191,zu4,by go_num,zu4,Lib.hid (HW.out.put 128 191),HN⟩
     ·have F:Hid (∀ W,Calls Tryz.prog 81 #[.agg #[.int .u8 (l:Int),.int .u8 (h:Int)],.int .u8 ((a[k].toNat:Nat):Int)] W fun e w'=>e = .returned (.bool false)∧Below W.heap.size W w'):=Lib.hid (fun W=>by
       have:=HH.out l h (a[k].toNat:Nat) W
       rw [decide_eq_false zu4] at this
       exact this)
      have HN:Hid ((n,b)=(k,false)):=Lib.hid (by
       have:=hS.out
       rw [hd,scanF,if_pos hall,if_neg hin] at this
       exact this)
      clear hd hin hS
      go_wp2_with fail
      have HSD:=(Sp.drew hB.out).cells
      go_region_held3 (fun W=>Sp w w1.heap.size l h W∧W.cell? ⟨w1.heap.size,0,none⟩=some (.int .u8 (l:Int))∧W.cell? ⟨w1.heap.size,1,none⟩=some (.int .u8 (h:Int))) (first|with_reducible assumption|with_reducible exact HSD|exact SpC.call hb zu42) (first | (go_at_call 81;refine (F.out _).mono ?_;rintro e w' ⟨rfl,hb⟩))
      have HW:Hid (Sp w w1.heap.size (l:Int) (h:Int) _):=Lib.hid (And.left zu42)
      clear HSD F
      go_wp2_with fail
      go_ret2
      have hn:=HN.out
      injection hn with h1 h2
      subst h1;subst h2
      exact ⟨rfl,HW.out.below⟩
    ·obtain rfl:k=a.size:=by omega
     have HN:Hid ((n,b)=(a.size,false)):=Lib.hid (by
      have:=hS.out
      rw [List.drop_eq_nil_of_le zu56,scanF,if_pos hall] at this
      exact this)
     clear hS
     go_wp2_with fail
     go_quiet (fail)
     go_wp2_with fail
     go_ret2
     have hn:=HN.out
     injection hn with h1 h2
     subst h1;subst h2
     exact ⟨rfl,hB.out.below.trans ⟨rfl,rfl,rfl,Nat.le_refl _,fun _ _=>rfl⟩⟩
   ·have q2:decide ((k:Int)<(all:Int))=false:=by simp;omega
    have HN:Hid ((n,b)=(k,decide (1<all))):=Lib.hid (by
     have:=hS.out
     rw [scanF_end _ _ _ _ _ hall] at this
     exact this)
    clear hS
    have hn:=HN.out
    injection hn with h1 h2
    subst h1
    cases hb1:decide (1<all) with
    | true =>
      rw [hb1] at h2;subst h2
      have q4:decide ((1:Int)<(all:Int))=true:=by simp at hb1 ⊢;omega
      have q5:=hb1
      clear hb1 HN
      go_wp2_with fail
      go_ret2
      exact ⟨rfl,hB.out.below⟩
    | false =>
      rw [hb1] at h2;subst h2
      have q4:decide ((1:Int)<(all:Int))=false:=by simp at hb1 ⊢;omega
      have q5:=hb1
      clear hb1 HN
      go_wp2_with fail
      go_ret2
      exact ⟨rfl,hB.out.below⟩
end Hand
end

section
namespace Hand
open Go.RowKit Pl Pb
theorem trim_B (s:ByteArray):(⟨(Lib.trimPrefix s.data.toList (⟨#[239,187,191]⟩:ByteArray).data.toList).toArray⟩:ByteArray)=B (trimL s.data.toList):=rfl
theorem first_any (X:ByteArray) (h:0<X.size) (hz:X.size≤1000000000) :
  ∃ n b,1≤n∧n≤X.size∧decL X.data.toList=(if b=true then (X.extract 0 n).data.toList else badP)++decL (X.extract n X.size).data.toList ∧
    ∀ w,Calls Tryz.prog 42 #[.string X] w fun e w'=>e = .returned (.tuple #[.int .i64 (n:Int),.bool b])∧Below w.heap.size w w':=by
 obtain ⟨l,rfl⟩:=exists_B X
 cases l with
 | nil=>exact absurd h zu15
 | cons c r =>
   obtain ⟨p1,p2,_⟩:=firstU_pos c r
   refine ⟨(firstU (c::r)).1,(firstU (c::r)).2,p1,by rw [size_B];exact p2,?_,fun w=>first_at c r _ _ rfl _ (B_data _) hz w⟩
   rw [B_data,B_extract,B_extract,B_data,B_data,size_B,List.take_length,List.drop_zero,decL_cons]
theorem builderAt_below {T e:TypeId} {B0 b:Nat} {p:Value} {bs:List Value} {W W':World} (h:Lib.BuilderAt T e B0 b p bs W) (hb:Below W.heap.size W W'):Lib.BuilderAt T e B0 b p bs W':=by
 have lt:∀ {k:Nat} {o:Obj},W.heap[k]? = some o→k<W.heap.size:=fun h=>(Array.getElem?_eq_some_iff.1 h).1
 obtain ⟨hB,v,hv,hown,hne⟩:=h
 refine ⟨hB,v,(hb.block b (lt hv)).trans hv,⟨hown.1,?_⟩,hne⟩
 rcases hown.2 with h|⟨g,cap,cur,h1,h2,h3,h4⟩
 ·exact .inl h
 ·exact .inr ⟨g,cap,cur,h1,h2,(hb.block g (lt h3)).trans h3,h4⟩
theorem isB_below {T e:TypeId} {B0 b:Nat} {bs:List Value} {W W':World} (h:Lib.IsBuilder T e B0 b bs W) (hb:Below W.heap.size W W'):Lib.IsBuilder T e B0 b bs W' :=
 h.elim (fun x => .inl (builderAt_below x hb)) (fun x => .inr (builderAt_below x hb))
theorem decode_v (s:List UInt8) (v:Value) (w:World) (hz:s.length≤100000)
  (hback:∀ o,(convert 22 9 v).run Tryz.prog (w.alloc o)=Result.ok (Value.string (B s)) (w.alloc o)) :
  Calls Tryz.prog 17 #[v] w fun e w'=>e = .returned (.string (B (decL (trimL s))))∧Below w.heap.size w w':=by
 have hz2:(trimL s).length≤100000:=by unfold trimL;split<;>(try rw [List.length_drop])<;>omega
 have TP:∀ W,Calls Tryz.prog 41 #[.string (B s),.string ⟨#[239,187,191]⟩] W fun e w'=>e = .returned (.string (B (trimL s)))∧w'=W:=fun W=>by
  have:=Tryz.strings_TrimPrefix (B s) ⟨#[239,187,191]⟩ W
  rw [trim_B,B_data] at this
  exact this
 have HTP:=Lib.hid TP
 have DT:Hid (decL (B (trimL s)).data.toList=decL (trimL s)):=Lib.hid (by rw [B_data])
 have zT:(B (trimL s)).size≤100000:=by rw [size_B];exact hz2
 obtain ⟨T,hT⟩:∃ T,B (trimL s)=T:=⟨_,rfl⟩
 obtain ⟨D,hD⟩:∃ D,decL (trimL s)=D:=⟨_,rfl⟩
 obtain ⟨S,hS⟩:∃ S,B s=S:=⟨_,rfl⟩
 rw [hT,hS] at HTP
 rw [hT,hD] at DT
 rw [hT] at zT
 rw [hS] at hback
 rw [hD]
 clear hT hD hS TP hz2 hz
 go_enter Tryz.func17,Tryz.ntmps17
 go_wp2_with fail
 refine (HTP.out _).mono ?_
 rintro e w' ⟨rfl,rfl⟩
 clear hback HTP
 go_wp2_with fail
 go_loopg [4] T.size (fun g v wx => ∃ (X:ByteArray) (acc:List UInt8),X.size=g∧v = .string X∧X.size≤100000∧acc.length+3*X.size≤300000∧Hid (acc++decL X.data.toList=D)∧Hid (Lib.IsBuilder 59 5 w.heap.size w.heap.size (Lib.byteCells acc) wx)∧Hid (Below w.heap.size w wx))
 case atStart=>exact ⟨T,[],rfl,rfl,zT,zu25,DT,Lib.hid (Lib.fresh_isBuilder 59 5 w),Lib.hid ((Below.refl _ w).alloc (Nat.le_refl _) _)⟩
 case round =>
  obtain ⟨X,acc,hg,rfl,hX,hacc,hD,hI,hB⟩:=hrel
  cases gk with
  | zero =>
    have q1:(X.toList == [])=true:=by
     obtain ⟨l,rfl⟩:=exists_B X
     rw [size_B] at hg
     obtain rfl:=List.eq_nil_of_length_eq_zero hg
     rw [toList_B];rfl
    have q2:(X.toList != [])=false:=by rw [bne,q1];rfl
    have e:acc=D:=by
     rw [← hD.out]
     obtain ⟨l,rfl⟩:=exists_B X
     rw [size_B] at hg
     obtain rfl:=List.eq_nil_of_length_eq_zero hg
     rw [B_data];exact (List.append_nil _).symm
    subst e
    have W:=Lib.hid (Tryz.Builder_String_any w.heap.size w.heap.size acc wr hI.out hB.out.size)
    clear hg hD
    go_wp2_with fail
    refine W.out.mono ?_
    rintro e w1 ⟨rfl,b1⟩
    have HB2:=Lib.hid (hB.out.trans b1)
    clear b1 W
    go_wp2_with fail
    go_ret
    exact ⟨rfl,HB2.out⟩
  | succ g =>
    have q1:(X.toList == [])=false:=by
     obtain ⟨l,rfl⟩:=exists_B X
     rw [toList_B,beq_eq_false_iff_ne]
     rintro rfl
     cases hg
    have q2:(X.toList != [])=true:=by rw [bne,q1];rfl
    obtain ⟨n,wh,hn1,hn2,hdec,F⟩:=first_any X zu4 zu4
    have HG:=Lib.hid hg
    clear hg
    have HF:=Lib.hid F
    have zs:(X.extract n X.size).size=X.size - n:=by rw [ByteArray.size_extract];omega
    have ze:(X.extract 0 n).size=n:=by rw [ByteArray.size_extract];omega
    have HZ:=Lib.hid zs
    have HE:=Lib.hid ze
    have HD2:=Lib.hid hdec
    clear F zs ze hdec
    cases wh with
    | true =>
      have HD3:Hid ((acc++(X.extract 0 n).data.toList)++decL (X.extract n X.size).data.toList=D):=Lib.hid (by rw [← hD.out,HD2.out,if_pos rfl,List.append_assoc])
      have W:=Lib.hid (fun W (h:Lib.IsBuilder 59 5 w.heap.size w.heap.size (Lib.byteCells acc) W) hb=>Tryz.Builder_WriteString w.heap.size w.heap.size _ (X.extract 0 n) W h (by rw [Lib.byteCells_length,ByteArray.size_extract];omega) hb)
      clear HD2 hD
      go_wp2_with fail
      refine (HF.out _).mono ?_
      rintro e w1 ⟨rfl,b1⟩
      have HB2:=Lib.hid (hB.out.trans (b1.mono hB.out.size))
      have HI2:Hid (Lib.IsBuilder 59 5 w.heap.size w.heap.size (Lib.byteCells acc) w1):=Lib.hid (isB_below hI.out b1)
      clear b1 hB hI
      go_wp2_with fail
      refine (W.out _ HI2.out HB2.out.size).mono ?_
      rintro e w2 ⟨rfl,h1,b2⟩
      have HB3:=Lib.hid (HB2.out.trans b2)
      have HI3:Hid (Lib.IsBuilder 59 5 w.heap.size w.heap.size (Lib.byteCells (acc++(X.extract 0 n).data.toList)) w2):=Lib.hid (Or.inr (by rw [show Lib.byteCells (acc++(X.extract 0 n).data.toList)=Lib.byteCells acc++Lib.strCells (X.extract 0 n) by simp [Lib.byteCells,Lib.strCells]];exact h1))
      clear h1 b2 HB2 HI2 W
      go_wp2_with fail
      go_roundg (X.size - n)
      case measure=>have:=HG.out;omega
      case rel=>exact ⟨X.extract n X.size,_,HZ.out,rfl,by rw [HZ.out];omega,by rw [HZ.out,List.length_append,show (X.extract 0 n).data.toList.length=n from by rw [Array.length_toList];exact HE.out];omega,HD3,HI3,HB3⟩
    | false =>
      have HD3:Hid ((acc++badP)++decL (X.extract n X.size).data.toList=D):=Lib.hid (by rw [← hD.out,HD2.out,if_neg zu15,List.append_assoc])
      have W:=Lib.hid (fun W (h:Lib.IsBuilder 59 5 w.heap.size w.heap.size (Lib.byteCells acc) W) hb=>Tryz.Builder_WriteString w.heap.size w.heap.size _ ⟨#[239,191,189]⟩ W h (by rw [Lib.byteCells_length,show (⟨#[239,191,189]⟩:ByteArray).size=3 from rfl];omega) hb)
      clear HD2 hD
      go_wp2_with fail
      refine (HF.out _).mono ?_
      rintro e w1 ⟨rfl,b1⟩
      have HB2:=Lib.hid (hB.out.trans (b1.mono hB.out.size))
      have HI2:Hid (Lib.IsBuilder 59 5 w.heap.size w.heap.size (Lib.byteCells acc) w1):=Lib.hid (isB_below hI.out b1)
      clear b1 hB hI
      go_wp2_with fail
      refine (W.out _ HI2.out HB2.out.size).mono ?_
      rintro e w2 ⟨rfl,h1,b2⟩
      have HB3:=Lib.hid (HB2.out.trans b2)
      have HI3:Hid (Lib.IsBuilder 59 5 w.heap.size w.heap.size (Lib.byteCells (acc++badP)) w2):=Lib.hid (Or.inr (by rw [show Lib.byteCells (acc++badP)=Lib.byteCells acc++Lib.strCells ⟨#[239,191,189]⟩ by simp [Lib.byteCells,Lib.strCells,badP]];exact h1))
      clear h1 b2 HB2 HI2 W
      go_wp2_with fail
      go_roundg (X.size - n)
      case measure=>have:=HG.out;omega
      case rel=>exact ⟨X.extract n X.size,_,HZ.out,rfl,by rw [HZ.out];omega,by rw [HZ.out,List.length_append,show badP.length=3 from rfl];omega,HD3,HI3,HB3⟩
end Hand
end

section
namespace Hand
open Go Go.RowKit K0 Pl Pb Sa St Go.Proofs.YtclkdmmgibgamaaGreatDoor.Pure YtclkdmmgibgamaaGreatDoorW.PrintWords YtclkdmmgibgamaaGreatDoorW.PrintLast YtclkdmmgibgamaaGreatDoorW.PrintMore
abbrev PxC (w:World) (ab d:Nat) (F:Value) (W:World):Prop:=(Glob W∧Below w.heap.size w W)∧W.cell? ⟨ab,d,none⟩=some F
theorem PxC.call {w:World} {ab d:Nat} {F:Value} {W W':World} (hb:Below W.heap.size W W') (h:PxC w ab d F W):PxC w ab d F W' :=
 ⟨⟨h.1.1.step hb,h.1.2.trans (hb.mono h.1.2.size)⟩,(hb.cell (World.block_lt_of_cell? W _ h.2)).trans h.2⟩
end Hand
end

section
namespace Hand
open Go.RowKit
theorem once_disable (w:World):(callFunc 215 #[]).run Tryz.prog w = .ok (.value (.tuple #[])) w:=run_call_mark0 Tryz.func215 zu13 zu13 zu13 .disable zu13 w
theorem once_enable (w:World):(callFunc 217 #[]).run Tryz.prog w = .ok (.value (.tuple #[])) w:=run_call_mark0 Tryz.func217 zu13 zu13 zu13 .enable zu13 w
theorem once_acquire (a:Addr) (w:World):(callFunc 218 #[.pointer (some a)]).run Tryz.prog w = .ok (.value (.tuple #[])) w:=run_call_marked Tryz.func218 zu13 zu13 zu13 .acquire zu13 a w
theorem once_releaseMerge (a:Addr) (w:World):(callFunc 220 #[.pointer (some a)]).run Tryz.prog w = .ok (.value (.tuple #[])) w:=run_call_marked Tryz.func220 zu13 zu13 zu13 .releaseMerge zu13 a w
theorem once_store_deferred (a:Addr) (x:Value) (u:FrameMode) (w:World) (hc:w.cell? a=some x) (hz:w.frozen? a=false) :
  CallsD Tryz.prog 191 #[.pointer (some a),.bool true] u w fun e u' w'=>u'=u∧(e = .returned (.tuple #[])∧w'=w.drew.setCell a (.int .u32 1)):=by
 have hc':w.drew.cell? a=some x:=by go_simp
 have hz':w.drew.frozen? a=false:=by go_simp
 have hst:=run_call_store (P:=Tryz.prog) Tryz.func204 zu13 zu13 zu13 zu13 (k:=.u32) (y:=1) hc' hz'
 go_enter_d Tryz.func191,Tryz.ntmps191
 go_wp2
 go_region_calls
 all_goals (go_end0;exact ⟨rfl,rfl⟩)
theorem once_unlock_deferred (a:Addr) (u:FrameMode) (w:World) (hc:w.cell? a=some (.int .i32 1)) (hz:w.frozen? a=false) :
  CallsD Tryz.prog 190 #[.pointer (some a)] u w fun e u' w'=>u'=u∧(e = .returned (.tuple #[])∧w'=w.setCell a (.int .i32 0)):=by
 have hd:=once_disable
 have he:=once_enable
 have hr:=once_releaseMerge
 have hadd:=run_call_add (P:=Tryz.prog) Tryz.func221 zu13 zu13 zu13 .i32 zu13 (y := -1) (s:=0) hc hz (by simp [go_sem];rfl)
 have hcv:=run_convert_to_unsafe (P:=Tryz.prog) (src:=248) (dst:=134) Tryz.underlying248 Tryz.underlying134 zu13 hc
 go_enter_d Tryz.func190,Tryz.ntmps190
 go_wp2
 go_end0
 go_wp2
 go_end0
 exact ⟨rfl,rfl⟩
theorem once_lock_free (a:Addr) (w:World) (hc:w.cell? a=some (.int .i32 0)) (hz:w.frozen? a=false) :
  Calls Tryz.prog 189 #[.pointer (some a)] w fun e w'=>e = .returned (.tuple #[])∧w'=w.setCell a (.int .i32 1):=by
 have hd:=once_disable
 have he:=once_enable
 have ha:=once_acquire
 have hcas:=run_call_cas_hit (P:=Tryz.prog) Tryz.func216 zu13 zu13 zu13 .i32 zu13 (y:=1) hc hz
 have hc':(w.setCell a (.int .i32 1)).cell? a=some (.int .i32 1):=World.cell?_setCell_same w a _ hc
 have hcv:=run_convert_to_unsafe (P:=Tryz.prog) (src:=248) (dst:=134) Tryz.underlying248 Tryz.underlying134 zu13 hc'
 go_enter Tryz.func189,Tryz.ntmps189
 go_wp2
 first|go_end0 | (simp only [Exit.inBlock,Exit.then];refine bodyPost_ret (results_none rfl _ _ _) rfl ?_)|refine bodyPost_ret (results_none rfl _ _ _) rfl ?_
 go_wp2
 go_end0
 exact ⟨rfl,rfl⟩
structure OnceRun (b:Nat) (w:World) (Post:World→Prop):Prop where
 run:Calls Tryz.prog 128 #[.pointer (some ⟨b,0,none⟩)] w fun e w'=>e = .returned (.tuple #[])∧(w'.cell? ⟨b,0,none⟩=some (.int .u32 0)∧w'.cell? ⟨b,1,none⟩=some (.int .i32 1)∧w'.frozen? ⟨b,0,none⟩=false∧w'.frozen? ⟨b,1,none⟩=false∧Post w')
theorem once_slow (b:Nat) (Post:World→Prop) (w:World)
  (h0:w.cell? ⟨b,0,none⟩=some (.int .u32 0)) (h1:w.cell? ⟨b,1,none⟩=some (.int .i32 0))
  (f0:w.frozen? ⟨b,0,none⟩=false) (f1:w.frozen? ⟨b,1,none⟩=false)
  (hrun:OnceRun b (w.setCell ⟨b,1,none⟩ (.int .i32 1)) Post) :
  Calls Tryz.prog 168 #[.pointer (some ⟨b,0,none⟩),.func (.func 128) #[.pointer (some ⟨b,0,none⟩)] #[]] w fun e w'=>e = .returned (.tuple #[]) ∧
   ∃ w2,Post w2∧w'=(w2.drew.setCell ⟨b,0,none⟩ (.int .u32 1)).setCell ⟨b,1,none⟩ (.int .i32 0):=by
 have hl:=run_call_load (P:=Tryz.prog) Tryz.func188 zu13 zu13 zu13 .u32 zu13 (w:=w.setCell ⟨b,1,none⟩ (.int .i32 1)) (a:=⟨b,0,none⟩) (x:=0) ((World.cell?_setCell_other _ ⟨b,1,none⟩ ⟨b,0,none⟩ _ zu19).trans h0)
 have hnot:∀ (x:Bool) (w:World),(Op.unary .not (.bool x)).run Tryz.prog w = .ok (.bool (!x)) w:=fun _ _=>rfl
 go_enter_defers Tryz.func168,Tryz.ntmps168
 go_wp2_with (first | (go_at_call 189;refine (once_lock_free ⟨b,1,none⟩ _ (by go_simp) (by go_simp)).mono ?_;rintro e w' ⟨rfl,rfl⟩) | (go_at_call 167;go_in))
 refine hrun.run.mono ?_
 rintro e w2 ⟨rfl,g0,g1,z0,z1,hp⟩
 have HP:=Lib.hid hp
 clear hp h0 h1 f0 f1 hrun hl
 go_wp2_with fail
 refine leaves_cons (f:=191) (args := #[.pointer (some ⟨b,0,none⟩),.bool true]) zu19 (by simp [go_sem]) ?_
 refine (once_store_deferred ⟨b,0,none⟩ (.int .u32 0) .returning _ g0 z0).mono ?_
 rintro e u' w'' ⟨rfl,rfl,rfl⟩
 refine leaves_cons (f:=190) (args := #[.pointer (some ⟨b,1,none⟩)]) (by simp [settle]) (by simp [go_sem]) ?_
 refine (once_unlock_deferred ⟨b,1,none⟩ _ _ ?_ (by simp [z1])).mono ?_
 ·refine (World.cell?_setCell_other _ ⟨b,0,none⟩ ⟨b,1,none⟩ _ zu19).trans ?_
  rw [World.cell?_drew]
  exact g1
 rintro e u' w'' ⟨rfl,rfl,rfl⟩
 exact ⟨.tuple #[],results_none rfl _ _ _,rfl,w2,HP.out,rfl⟩
theorem once_do (b:Nat) (Post:World→Prop) (w:World)
  (h0:w.cell? ⟨b,0,none⟩=some (.int .u32 0)) (h1:w.cell? ⟨b,1,none⟩=some (.int .i32 0))
  (f0:w.frozen? ⟨b,0,none⟩=false) (f1:w.frozen? ⟨b,1,none⟩=false)
  (hrun:OnceRun b (w.setCell ⟨b,1,none⟩ (.int .i32 1)) Post) :
  Calls Tryz.prog 127 #[.pointer (some ⟨b,0,none⟩),.func (.func 128) #[.pointer (some ⟨b,0,none⟩)] #[]] w fun e w'=>e = .returned (.tuple #[]) ∧
   ∃ w2,Post w2∧w'=(w2.drew.setCell ⟨b,0,none⟩ (.int .u32 1)).setCell ⟨b,1,none⟩ (.int .i32 0):=by
 have hl:=run_call_load (P:=Tryz.prog) Tryz.func188 zu13 zu13 zu13 .u32 zu13 h0
 have hnot:∀ (x:Bool) (w:World),(Op.unary .not (.bool x)).run Tryz.prog w = .ok (.bool (!x)) w:=fun _ _=>rfl
 have C:=Lib.hid (once_slow b Post w h0 h1 f0 f1 hrun)
 clear h0 h1 f0 f1 hrun
 go_enter Tryz.func127,Tryz.ntmps127
 go_wp2_with (go_at_call 167;go_in)
 refine C.out.mono ?_
 rintro e w' ⟨rfl,hw⟩
 have HW:=Lib.hid hw
 clear hw C
 go_wp2_with fail
 go_end0
 exact ⟨rfl,HW.out⟩
end Hand
end

section
namespace Hand
open Go.RowKit
def nodeZ:Array Value := #[.string ⟨#[]⟩,.int .i64 0,.string ⟨#[]⟩,.pointer none,.slice none 0 0]
def nodeV (v:ByteArray) (p:Int):Array Value := #[.string v,.int .i64 p,.string ⟨#[]⟩,.pointer none,.slice none 0 0]
def nodeP (t:ByteArray) (b:Nat):Array Value := #[.string ⟨#[]⟩,.int .i64 0,.string t,.pointer (some ⟨b,0,none⟩),.slice none 0 0]
theorem add_leaf (b:Nat) (v:ByteArray) (p:Int) (r:Value) (w:World) (hb:Blk b nodeZ w) :
  Calls Tryz.prog 207 #[.pointer (some ⟨b,0,none⟩),.string ⟨#[]⟩,.string v,.int .i64 p,r] w fun e w'=>e = .returned (.tuple #[]) ∧
   w'=(w.setCell ⟨b,0,none⟩ (.string v)).setCell ⟨b,1,none⟩ (.int .i64 p):=by
 have c0:=hb.cell 0 zu15
 have c1:=hb.cell 1 zu15
 have hz:=hb.open_
 have c1':∀ x,(w.setCell ⟨b,0,none⟩ x).cell? ⟨b,1,none⟩=some (.int .i64 0):=fun x=>by
  rw [World.cell?_setCell_other _ _ _ _ zu19];exact c1
 simp only [nodeZ,List.getElem?_toArray,List.getElem?_cons_succ,List.getElem?_cons_zero] at c0 c1
 clear hb
 go_enter Tryz.func207,Tryz.ntmps207
 go_wp2_with fail
 refine bodyPost_ret (results_none rfl _ _ _) rfl ?_
 exact ⟨rfl,rfl⟩
theorem add_tail (b:Nat) (t v:ByteArray) (p:Int) (r:Value) (w:World) (ht:¬ t.toList=[]) (hb:Blk b nodeZ w) (hlt:b<w.heap.size) :
  Calls Tryz.prog 207 #[.pointer (some ⟨b,0,none⟩),.string t,.string v,.int .i64 p,r] w fun e w'=>e = .returned (.tuple #[]) ∧
   w'=((((w.setCell ⟨b,2,none⟩ (.string t)).alloc (.cells nodeZ 239)).setCell ⟨b,3,none⟩ (.pointer (some ⟨w.heap.size,0,none⟩))).setCell ⟨w.heap.size,0,none⟩ (.string v)).setCell ⟨w.heap.size,1,none⟩ (.int .i64 p):=by
 have ht':t.toList.isEmpty=false:=by simpa using ht
 have c1:=hb.cell 1 zu15
 have c2:=hb.cell 2 zu15
 have c4:=hb.cell 4 zu15
 have hz:=hb.open_
 simp only [nodeZ,List.getElem?_toArray,List.getElem?_cons_succ,List.getElem?_cons_zero] at c1 c2 c4
 have hlt':b<(w.setCell ⟨b,2,none⟩ (.string t)).heap.size:=by simpa using hlt
 have d3:((w.setCell ⟨b,2,none⟩ (.string t)).alloc (.cells nodeZ 239)).cell? ⟨b,3,none⟩=some (.pointer none):=by
  rw [World.cell?_alloc_past _ _ _ hlt',World.cell?_setCell_other _ _ _ _ zu19]
  exact hb.cell 3 zu15
 have f3:∀ j,((w.setCell ⟨b,2,none⟩ (.string t)).alloc (.cells nodeZ 239)).frozen? ⟨b,j,none⟩=false:=fun j=>by
  rw [World.frozen?_alloc_past _ _ _ hlt',World.frozen?_setCell]
  exact hz j
 have d3':∀ x,(((w.setCell ⟨b,2,none⟩ (.string t)).alloc (.cells nodeZ 239)).setCell ⟨b,3,none⟩ x).cell? ⟨b,3,none⟩=some x:=fun x=>World.cell?_setCell_same _ _ _ d3
 have HN:Hid (∀ x,Blk w.heap.size nodeZ (((w.setCell ⟨b,2,none⟩ (.string t)).alloc (.cells nodeZ 239)).setCell ⟨b,3,none⟩ x)):=Lib.hid (fun x=>by
  have h:=(Blk.of_alloc nodeZ 239 (w.setCell ⟨b,2,none⟩ (.string t))).other (b':=b) 3 x zu25
  rwa [World.size_setCell] at h)
 clear hlt hlt' hb
 unfold nodeZ at d3 f3 d3'
 go_enter Tryz.func207,Tryz.ntmps207
 go_wp2_with fail
 refine (add_leaf w.heap.size v p r _ (HN.out _)).mono ?_
 rintro e w' ⟨rfl,rfl⟩
 go_wp2_with fail
 go_end0
 exact ⟨rfl,rfl⟩
end Hand
end

section
namespace Hand
open Go.RowKit Pb
theorem wp_world {P:Program} {s:Code} {Q:Exit→Act→World→Prop} {a:Act} {w W:World} (h:w=W) (hw:s.wp P Q a W):s.wp P Q a w:=h ▸ hw
structure BlkF (b n:Nat) (f:Nat→Value) (W:World):Prop where
 cell:∀ j,j<n→W.cell? ⟨b,j,none⟩=some (f j)
 open_:∀ j,W.frozen? ⟨b,j,none⟩=false
def upd (f:Nat→Value) (k:Nat) (x:Value):Nat→Value:=fun j=>if j=k then x else f j
theorem upd_same (f:Nat→Value) (k:Nat) (x:Value):upd f k x k=x:=if_pos rfl
theorem upd_ne (f:Nat→Value) {k j:Nat} (x:Value) (h:j≠k):upd f k x j=f j:=if_neg h
theorem BlkF.set {b n:Nat} {f:Nat→Value} {W:World} (h:BlkF b n f W) (k:Nat) (x:Value) (hk:k<n):BlkF b n (upd f k x) (W.setCell ⟨b,k,none⟩ x):=by
 refine ⟨fun j hj => ?_,fun j=>by rw [World.frozen?_setCell];exact h.open_ j⟩
 by_cases e:j=k
 ·subst e
  rw [World.cell?_setCell_same _ _ _ (h.cell j hj),upd_same]
 ·rw [World.cell?_setCell_other _ _ _ _ (ne_off (Ne.symm e)),h.cell j hj,upd_ne _ _ e]
theorem BlkF.other {b b' n:Nat} {f:Nat→Value} {W:World} (h:BlkF b n f W) (k:Nat) (x:Value) (hb:b'≠b):BlkF b n f (W.setCell ⟨b',k,none⟩ x) :=
 ⟨fun j hj=>by rw [World.cell?_setCell_other _ _ _ _ (by intro e;injection e with e;exact hb e)];exact h.cell j hj,fun j=>by rw [World.frozen?_setCell];exact h.open_ j⟩
theorem BlkF.below {b n:Nat} {f:Nat→Value} {W W':World} (h:BlkF b n f W) {B:Nat} (hb:Below B W W') (hn:b<B):BlkF b n f W' :=
 ⟨fun j hj=>(hb.cell (p:=⟨b,j,none⟩) hn).trans (h.cell j hj),fun j=>(hb.frozen (p:=⟨b,j,none⟩) hn).trans (h.open_ j)⟩
theorem BlkF.congr {b n:Nat} {f g:Nat→Value} {W:World} (h:BlkF b n f W) (e:∀ j,j<n→f j=g j):BlkF b n g W:=⟨fun j hj=>by rw [h.cell j hj,e j hj],h.open_⟩
structure But (n bt:Nat) (w W:World):Prop where
 below:Below n w W
 same:∀ b,b<w.heap.size→b≠bt→(∀ j,W.cell? ⟨b,j,none⟩=w.cell? ⟨b,j,none⟩)∧(∀ j,W.frozen? ⟨b,j,none⟩=w.frozen? ⟨b,j,none⟩)
theorem But.refl (n bt:Nat) (w:World):But n bt w w:=⟨Below.refl _ _,fun _ _ _=>⟨fun _=>rfl,fun _=>rfl⟩⟩
theorem But.set {n bt:Nat} {w W:World} (h:But n bt w W) (b k:Nat) (x:Value) (hn:n≤b) (hb:b=bt∨w.heap.size≤b):But n bt w (W.setCell ⟨b,k,none⟩ x):=by
 refine ⟨h.below.setCell hn _,fun c hc hne => ?_⟩
 have hcb:b≠c:=by rintro rfl;rcases hb with h|h<;>omega
 refine ⟨fun j => ?_,fun j=>by rw [World.frozen?_setCell];exact (h.same c hc hne).2 j⟩
 rw [World.cell?_setCell_other _ _ _ _ (by intro e;injection e with e;exact hcb e)]
 exact (h.same c hc hne).1 j
theorem But.below' {n bt:Nat} {w W W':World} (h:But n bt w W) (hb:Below W.heap.size W W') (hn:n≤w.heap.size):But n bt w W' :=
 ⟨h.below.trans (hb.mono (Nat.le_trans hn h.below.size)),fun c hc hne=>⟨fun j=>(hb.cell (p:=⟨c,j,none⟩) (Nat.lt_of_lt_of_le hc h.below.size)).trans ((h.same c hc hne).1 j),fun j=>(hb.frozen (p:=⟨c,j,none⟩) (Nat.lt_of_lt_of_le hc h.below.size)).trans ((h.same c hc hne).2 j)⟩⟩
theorem But.alloc {n bt:Nat} {w W:World} (h:But n bt w W) (hn:n≤w.heap.size) (o:Obj):But n bt w (W.alloc o):=h.below' (Below.alloc (Below.refl _ _) (Nat.le_refl _) _) hn
theorem But.drewN {n bt:Nat} {w W:World} (h:But n bt w W) (hn:n≤w.heap.size) (k:Nat):But n bt w (W.drewN k):=h.below' ⟨rfl,rfl,rfl,Nat.le_refl _,fun _ _=>rfl⟩ hn
theorem But.drew {n bt:Nat} {w W:World} (h:But n bt w W) (hn:n≤w.heap.size):But n bt w W.drew:=h.below' (Below.drew (Below.refl _ _)) hn
theorem But.blkF {n bt b m:Nat} {f:Nat→Value} {w W:World} (h:But n bt w W) (hb:BlkF b m f w) (hs:b<w.heap.size) (hne:b≠bt):BlkF b m f W :=
 ⟨fun j hj=>((h.same b hs hne).1 j).trans (hb.cell j hj),fun j=>((h.same b hs hne).2 j).trans (hb.open_ j)⟩
theorem But.blk {n bt b:Nat} {v:Array Value} {w W:World} (h:But n bt w W) (hb:Blk b v w) (hs:b<w.heap.size) (hne:b≠bt):Blk b v W :=
 ⟨fun j hj=>((h.same b hs hne).1 j).trans (hb.cell j hj),fun j=>((h.same b hs hne).2 j).trans (hb.open_ j)⟩
def NodeAt (lo b:Nat) (t:List UInt8) (v:ByteArray) (p:Int) (W:World):Prop :=
 lo≤b∧b<W.heap.size∧((t=[]∧Blk b (nodeV v p) W)∨(t≠[]∧∃ b2,lo≤b2∧b2<W.heap.size∧Blk b (nodeP (B t) b2) W∧Blk b2 (nodeV v p) W))
theorem NodeAt.but {lo n bt b:Nat} {t:List UInt8} {v:ByteArray} {p:Int} {w W:World} (h:NodeAt lo b t v p w) (hb:But n bt w W) (hl:bt<lo):NodeAt lo b t v p W:=by
 obtain ⟨h1,h2,h3⟩:=h
 refine ⟨h1,Nat.lt_of_lt_of_le h2 hb.below.size,?_⟩
 rcases h3 with ⟨ht,h3⟩|⟨ht,b2,h4,h5,h6,h7⟩
 ·exact .inl ⟨ht,hb.blk h3 h2 zu4⟩
 ·exact .inr ⟨ht,b2,h4,Nat.lt_of_lt_of_le h5 hb.below.size,hb.blk h6 h2 zu4,hb.blk h7 h5 zu4⟩
abbrev tailW (W:World) (b:Nat) (t v:ByteArray) (p:Int):World :=
 ((((W.setCell ⟨b,2,none⟩ (.string t)).alloc (.cells nodeZ 239)).setCell ⟨b,3,none⟩ (.pointer (some ⟨W.heap.size,0,none⟩))).setCell ⟨W.heap.size,0,none⟩ (.string v)).setCell ⟨W.heap.size,1,none⟩ (.int .i64 p)
theorem tail_facts {b:Nat} {t v:ByteArray} {p:Int} {W:World} (h:Blk b nodeZ W) (hlt:b<W.heap.size):Blk b (nodeP t W.heap.size) (tailW W b t v p)∧Blk W.heap.size (nodeV v p) (tailW W b t v p):=by
 have hs:(W.setCell ⟨b,2,none⟩ (.string t)).heap.size=W.heap.size:=World.size_setCell ..
 have h2:=(h.set 2 (.string t) zu15).below (Below.alloc (Below.refl (W.setCell ⟨b,2,none⟩ (.string t)).heap.size (W.setCell ⟨b,2,none⟩ (.string t))) (Nat.le_refl _) (.cells nodeZ 239)) zu4
 have h3:=((h2.set 3 (.pointer (some ⟨W.heap.size,0,none⟩)) (by simp [nodeZ])).other (b':=W.heap.size) 0 (.string v) zu4).other (b':=W.heap.size) 1 (.int .i64 p) zu4
 have g:=Blk.of_alloc nodeZ 239 (W.setCell ⟨b,2,none⟩ (.string t))
 rw [hs] at g
 have g3:=((g.other (b':=b) 3 (.pointer (some ⟨W.heap.size,0,none⟩)) zu4).set 0 (.string v) zu15).set 1 (.int .i64 p) (by simp [nodeZ])
 refine ⟨?_,?_⟩
 ·have e:(nodeZ.setIfInBounds 2 (.string t)).setIfInBounds 3 (.pointer (some ⟨W.heap.size,0,none⟩))=nodeP t W.heap.size:=by simp [nodeZ,nodeP]
  rw [e] at h3;exact h3
 ·have e:(nodeZ.setIfInBounds 0 (.string v)).setIfInBounds 1 (.int .i64 p)=nodeV v p:=by simp [nodeZ,nodeV]
  rw [e] at g3;exact g3
theorem tail_other {b bt ts:Nat} {f:Nat→Value} {t v:ByteArray} {p:Int} {W:World} (h:BlkF bt ts f W) (hlt:b<W.heap.size) (hb:b≠bt) (hbt:bt<W.heap.size):BlkF bt ts f (tailW W b t v p):=by
 have hs:(W.setCell ⟨b,2,none⟩ (.string t)).heap.size=W.heap.size:=World.size_setCell ..
 have h2:=(h.other (b':=b) 2 (.string t) hb).below (Below.alloc (Below.refl (W.setCell ⟨b,2,none⟩ (.string t)).heap.size (W.setCell ⟨b,2,none⟩ (.string t))) (Nat.le_refl _) (.cells nodeZ 239)) zu4
 exact ((h2.other (b':=b) 3 (.pointer (some ⟨W.heap.size,0,none⟩)) hb).other (b':=W.heap.size) 0 (.string v) zu4).other (b':=W.heap.size) 1 (.int .i64 p) zu4
theorem tail_but {n bt b:Nat} {t v:ByteArray} {p:Int} {w W:World} (h:But n bt w W) (hn:n≤w.heap.size) (hb:w.heap.size≤b) (hW:w.heap.size≤W.heap.size):But n bt w (tailW W b t v p) :=
 ((((h.set b 2 _ zu4 (.inr hb)).alloc hn _).set b 3 _ zu4 (.inr hb)).set W.heap.size 0 _ zu4 (.inr hW)).set W.heap.size 1 _ zu4 (.inr hW)
theorem add_root (br bt ts n:Nat) (R T:Nat→Value) (c:UInt8) (t:List UInt8) (v:ByteArray) (p:Int) (m:Nat) (w:World)
  (ht:t.length≤1000) (hts:ts≤1000) (hR:BlkF br 262 R w) (hT:BlkF bt ts T w) (hm:m<ts) (hne:br≠bt) (hbr:br<w.heap.size) (hbt:bt<w.heap.size) (hn:n≤bt)
  (r2:R 2 = .string ⟨#[]⟩) (r4:R 4 = .slice (some ⟨bt,0,none⟩) ts ts) (rm:R (6+c.toNat) = .int .u8 (m:Int)) (tm:T m = .pointer none) :
  Calls Tryz.prog 207 #[.pointer (some ⟨br,0,none⟩),.string (B (c::t)),.string v,.int .i64 p,.pointer (some ⟨br,0,none⟩)] w fun e w'=>e = .returned (.tuple #[]) ∧
   ∃ b,w.heap.size≤b∧b<w'.heap.size∧BlkF bt ts (upd T m (.pointer (some ⟨b,0,none⟩))) w'∧NodeAt w.heap.size b t v p w'∧But n bt w w':=by
 have hk:(B (c::t)).toList.isEmpty=false:=by simp
 have hk':¬ (B (c::t)).toList=[]:=by simp
 have c2:=hR.cell 2 zu4
 have c4:=hR.cell 4 zu4
 have cm:=hR.cell (6+c.toNat) (by have:=c.toNat_lt;omega)
 rw [r2] at c2
 rw [r4] at c4
 rw [rm] at cm
 have tc:=hT.cell m hm
 rw [tm] at tc
 have zr:=hR.open_
 have zt:=hT.open_
 obtain ⟨a,ha⟩:∃ a,B (c::t)=a:=⟨_,rfl⟩
 have hsz:0<a.size:=by rw [← ha];simp
 have hsz':a.size≤1001:=by rw [← ha];simp;omega
 have hc:a[0]=c:=by subst ha;rfl
 have hx:a.extract 1 a.size=B t:=by rw [← ha,B_extract];simp
 rw [ha] at hk hk' ⊢
 rw [← hc] at cm
 have hb0:(0:Int)≤(a[0].toNat:Int):=by omega
 have hb1:(a[0].toNat:Int)<256:=by have:=a[0].toNat_lt;omega
 have hb2:a[0].toNat<256:=by have:=a[0].toNat_lt;omega
 have d1:∀ q,((w.drewN q).alloc (.cells nodeZ 239)).cell? ⟨bt,m,none⟩=some (.pointer none):=fun q=>by
  rw [World.cell?_alloc_past _ _ _ (by simpa using hbt)];exact tc
 have d3:∀ q x,(((w.drewN q).alloc (.cells nodeZ 239)).setCell ⟨bt,m,none⟩ x).cell? ⟨br,4,none⟩=some (.slice (some ⟨bt,0,none⟩) ts ts):=fun q x=>by
  rw [World.cell?_setCell_other _ _ _ _ (by intro e;injection e with e;exact hne e.symm),World.cell?_alloc_past _ _ _ (by simpa using hbr)];exact c4
 have d2:∀ q x,(((w.drewN q).alloc (.cells nodeZ 239)).setCell ⟨bt,m,none⟩ x).cell? ⟨bt,m,none⟩=some x:=fun q x=>World.cell?_setCell_same _ _ _ (d1 q)
 have f1:∀ q,((w.drewN q).alloc (.cells nodeZ 239)).frozen? ⟨bt,m,none⟩=false:=fun q=>by
  rw [World.frozen?_alloc_past _ _ _ (by simpa using hbt)];exact zt m
 have HBT:=Lib.hid hbt
 have HBR:=Lib.hid hbr
 have HNE:=Lib.hid hne
 have HNT:=Lib.hid hn
 have HX:=Lib.hid hx
 have HR:=Lib.hid hR
 have HT:=Lib.hid hT
 clear hx hR hT ha hc r2 r4 rm tm hbt hbr hne hn
 unfold nodeZ at d1 d2 d3 f1
 go_enter Tryz.func207,Tryz.ntmps207
 go_wp2_with fail
 go_quiet (fail)
 go_wp2_with fail
 have hW:∃ W,(((w.drewN nq).alloc (.cells nodeZ 239)).setCell ⟨bt,m,none⟩ (.pointer (some ⟨w.heap.size,0,none⟩)))=W:=⟨_,rfl⟩
 obtain ⟨W,hW⟩:=hW
 have e4:=d3 nq (.pointer (some ⟨w.heap.size,0,none⟩))
 have em:=d2 nq (.pointer (some ⟨w.heap.size,0,none⟩))
 have eB:Blk w.heap.size nodeZ W:=by
  rw [← hW]
  exact (Blk.of_alloc nodeZ 239 (w.drewN nq)).other (b':=bt) m (.pointer (some ⟨w.heap.size,0,none⟩)) (Nat.ne_of_lt HBT.out)
 have eT:BlkF bt ts (upd T m (.pointer (some ⟨w.heap.size,0,none⟩))) W:=by
  rw [← hW]
  refine BlkF.set ?_ m _ hm
  exact HT.out.below (B:=w.heap.size) (Below.alloc (⟨rfl,rfl,rfl,Nat.le_refl _,fun _ _=>rfl⟩:Below w.heap.size w (w.drewN nq)) (Nat.le_refl _) _) HBT.out
 have eU:But n bt w W:=by
  rw [← hW]
  have hn':n≤w.heap.size:=Nat.le_of_lt (Nat.lt_of_le_of_lt HNT.out HBT.out)
  exact ((((But.refl n bt w).drewN hn' nq).alloc hn' _).set bt m _ HNT.out (.inl rfl))
 have eS:W.heap.size=w.heap.size+1:=by rw [← hW];simp
 unfold nodeZ at hW
 rw [hW] at e4 em
 refine wp_world hW ?_
 clear d1 d2 d3 f1 c2 c4 tc cm
 have HW:=Lib.hid hW
 have HB:=Lib.hid eB
 have HT':=Lib.hid eT
 have HU:=Lib.hid eU
 clear hW eB eT eU HT HR zr zt
 have hb3:1≤a.size:=by omega
 have hb4:(1:Int)≤(a.size:Int):=by omega
 go_still_tail 12,zu13
 change wpList _ _ _ _ _ W.drew
 have hb':Below W.heap.size W W.drew:=Below.drew (Below.refl _ _)
 have HB2:=Lib.hid (HB.out.below hb' zu4)
 have HT2:=Lib.hid (HT'.out.below hb' zu74)
 have HU2:=Lib.hid (HU.out.drew (Nat.le_of_lt (Nat.lt_of_le_of_lt HNT.out HBT.out)))
 have eS2:W.drew.heap.size=w.heap.size+1:=eS
 generalize W.drew=W2 at HB2 HT2 HU2 eS2 ⊢
 clear hb' HB HT' HU HW e4 em eS
 have hn':n≤w.heap.size:=Nat.le_of_lt (Nat.lt_of_le_of_lt HNT.out HBT.out)
 by_cases htl:t=[]
 ·subst htl
  have hx2:a.extract 1 a.size=⟨#[]⟩:=HX.out
  have C:=Lib.hid (add_leaf w.heap.size v p (.pointer (some ⟨br,0,none⟩)) W2 HB2.out)
  go_wp2_with fail
  rw [hx2]
  refine C.out.mono ?_
  rintro e w' ⟨rfl,hw⟩
  have hS3:w'.heap.size=w.heap.size+1:=by rw [hw];simpa using eS2
  have hN:Blk w.heap.size (nodeV v p) ((W2.setCell ⟨w.heap.size,0,none⟩ (.string v)).setCell ⟨w.heap.size,1,none⟩ (.int .i64 p)):=by
   have h:=(HB2.out.set 0 (.string v) zu15).set 1 (.int .i64 p) (by simp [nodeZ])
   simpa only [nodeZ,nodeV,List.setIfInBounds_toArray,List.set_cons_succ,List.set_cons_zero] using h
  have hT3:=(HT2.out.other (b':=w.heap.size) 0 (.string v) zu74).other (b':=w.heap.size) 1 (.int .i64 p) zu74
  have hU3:=(HU2.out.set w.heap.size 0 (.string v) hn' (.inr (Nat.le_refl _))).set w.heap.size 1 (.int .i64 p) hn' (.inr (Nat.le_refl _))
  rw [← hw] at hN hT3 hU3
  have HF:=Lib.hid (And.intro hN (And.intro hT3 hU3))
  clear hN hT3 hU3 hw
  have HS3:=Lib.hid hS3
  clear hS3 eS2
  go_wp2_with fail
  go_end0
  exact ⟨rfl,w.heap.size,Nat.le_refl _,by have:=HS3.out;omega,HF.out.2.1,⟨Nat.le_refl _,by have:=HS3.out;omega,.inl ⟨rfl,HF.out.1⟩⟩,HF.out.2.2⟩
 ·have htl':¬ (B t).toList=[]:=by simpa using htl
  have C:=Lib.hid (add_tail w.heap.size (B t) v p (.pointer (some ⟨br,0,none⟩)) W2 htl' HB2.out zu4)
  have hx2:=HX.out
  go_wp2_with fail
  rw [hx2]
  refine C.out.mono ?_
  rintro e w' ⟨rfl,hw⟩
  have hlt:w.heap.size<W2.heap.size:=by omega
  have hS3:w'.heap.size=w.heap.size+2:=by rw [hw];simp;omega
  have hN:=tail_facts (t:=B t) (v:=v) (p:=p) HB2.out hlt
  have hT3:=tail_other (t:=B t) (v:=v) (p:=p) HT2.out hlt zu74 zu74
  have hU3:But n bt w _:=tail_but (t:=B t) (v:=v) (p:=p) HU2.out hn' (Nat.le_refl _) zu4
  have hw2:w'=tailW W2 w.heap.size (B t) v p:=hw
  rw [← hw2] at hN hT3 hU3
  have HF:=Lib.hid (And.intro hN (And.intro hT3 hU3))
  clear hN hT3 hU3 hw hw2
  have HS3:=Lib.hid hS3
  have HS2:=Lib.hid eS2
  clear hS3 eS2 hlt
  go_wp2_with fail
  go_end0
  exact ⟨rfl,w.heap.size,Nat.le_refl _,by have:=HS3.out;omega,HF.out.2.1,⟨Nat.le_refl _,by have:=HS3.out;omega,.inr ⟨htl,W2.heap.size,by have:=HS2.out;omega,by have:=HS2.out;have:=HS3.out;omega,HF.out.1.1,HF.out.1.2⟩⟩,HF.out.2.2⟩
end Hand
end

end Go.Proofs.YtclkdmmgibgamaaGreatDoor