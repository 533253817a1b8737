/-
  Texts that several claims of this seat share, merged by a program of this session (5).
-/
import Derived.Lib.Index
import Derived.RangeFuncNested
import Derived.RangeFuncBound
import Derived.RangeFuncCalls
import Derived.RangeFuncLeaves
import Derived.RangeFuncFrom
import Derived.Shelf.Abstract
import Derived.Shelf.RegionOpen
import Derived.OwnWalkIn
import Derived.TacticsInMore
import Derived.LoopNIn
import Derived.LoopIn
import Derived.StringKeys
import Derived.Maps.OwnOps
import Derived.Maps.OwnSet
import Derived.Test.YtclkdmmgibgamaaGreatDoorProg
import Derived.Below
import Derived.Deep.Draws
import Derived.Deep.AppendLies
import Derived.Maps.AppendAt
import Derived.OwnWalk
import Derived.Laws.BytesArg
import Derived.Laws.MakeOwn
import Derived.Laws.OwnMore
import Derived.Deep.OwnRows
import Derived.Tactics
import Derived.Lib.ConvBytes
import Derived.Laws.Slices
import Derived.WalkKit
import Derived.KernelRfl
import Derived.RowKit3
import Derived.Deep.LoopGhost
import Derived.Deep.QuietTactic
import Derived.BigQuiet
import Derived.WideLaws
import Derived.Deep.DeepCutAuto
import Derived.Deep.CutBlock
import Derived.Deep.RegionHeld3
import Derived.Laws.Rows
import Derived.Lib.AppendStr
import Derived.ArgAppend
import Derived.Laws.IdiomCopy
import Derived.OrdersHeld
import Derived.Laws.BitsLemmas
import Derived.RowKit
import Derived.Test.YtclkdmmgibgamaaGreatDoorZud
set_option linter.unusedVariables false
set_option linter.unusedSimpArgs false
set_option maxRecDepth 100000
set_option maxHeartbeats 16000000
namespace Go.Proofs.YtclkdmmgibgamaaGreatDoor
section
namespace Pcm
open Go Go.RowKit K0 Hand Sa YtclkdmmgibgamaaGreatDoorW.PrintWords YtclkdmmgibgamaaGreatDoorW.PrintMore Pl Pb Pcb Go.Proofs.YtclkdmmgibgamaaGreatDoor.Pure
attribute [local simp] B_nil
def EndI (p q s:List UInt8) (k0 k1:Int):Prop :=
 match endG p q s with
 | none=>k0 = -1∧k1 = -1
 | some (t,n) => ∃ i:Nat,t=s.take i∧i≤s.length∧((k0=i∧(k1 = -1∨k0≤k1)∧n=i+p.length)∨(k1=i∧(k0 = -1∨k1<k0)∧n=i+q.length))
theorem index_ge' (s p:List UInt8) : -1≤Lib.index s p:=Lib.index_ge s p
theorem endG_index (p q:List UInt8) (hp:p≠[]) (hq:q≠[]):∀ s,EndI p q s (Lib.index s p) (Lib.index s q):=by
 intro s
 induction s with
 | nil =>
   have h1:p.isEmpty=false:=by simpa using hp
   have h2:q.isEmpty=false:=by simpa using hq
   simp [EndI,endG,Lib.index,h1,h2]
 | cons c r ih =>
   have g0:=index_ge' r p
   have g1:=index_ge' r q
   unfold EndI at ih ⊢
   simp only [endG,Lib.index]
   by_cases h0:p.isPrefixOf (c::r)=true
   ·simp only [if_pos h0]
    refine ⟨0,rfl,zu19,.inl ⟨rfl,?_,zu19⟩⟩
    by_cases h1:q.isPrefixOf (c::r)=true
    ·simp only [if_pos h1];omega
    ·simp only [if_neg h1]
     split
     ·exact .inl rfl
     ·right;rename_i hh;simp at hh;omega
   ·simp only [if_neg h0]
    by_cases h1:q.isPrefixOf (c::r)=true
    ·simp only [if_pos h1]
     refine ⟨0,rfl,zu19,.inr ⟨rfl,?_,zu19⟩⟩
     split
     ·exact .inl rfl
     ·right;rename_i hh;simp at hh;omega
    ·simp only [if_neg h1]
     cases he:endG p q r with
     | none =>
       rw [he] at ih
       simp only at ih ⊢
       simp [ih.1,ih.2]
     | some x =>
       obtain ⟨t,n⟩:=x
       rw [he] at ih
       simp only at ih ⊢
       obtain ⟨i,ht,hi,hk⟩:=ih
       refine ⟨i+1,by simp [ht],zu25,?_⟩
       rcases hk with ⟨h2,h3,h4⟩|⟨h2,h3,h4⟩
       ·left
        have e0:(Lib.index r p == -1)=false:=by simp;omega
        simp only [e0,Bool.false_eq_true,if_false]
        refine ⟨zu4,?_,zu4⟩
        by_cases h5:Lib.index r q = -1
        ·left;simp [h5]
        ·right
         have e1:(Lib.index r q == -1)=false:=by simp [h5]
         simp only [e1,Bool.false_eq_true,if_false];omega
       ·right
        have e1:(Lib.index r q == -1)=false:=by simp;omega
        simp only [e1,Bool.false_eq_true,if_false]
        refine ⟨zu4,?_,zu4⟩
        by_cases h5:Lib.index r p = -1
        ·left;simp [h5]
        ·right
         have e0:(Lib.index r p == -1)=false:=by simp [h5]
         simp only [e0,Bool.false_eq_true,if_false];omega
theorem cutW_B (s p q:List UInt8) (hp:p≠[]) (hq:q≠[]) :
  cutW (B s) (B p) (B q)=match endG p q s with|none=>(B [],(s.length:Int),false)|some (t,n)=>(B t,(n:Int),true):=by
 unfold cutW idx cutV
 have h:=endG_index p q hp hq s
 simp only [B_data,size_B]
 unfold EndI at h
 have g0:=index_ge' s p
 have g1:=index_ge' s q
 cases he:endG p q s with
 | none =>
   rw [he] at h
   simp only at h ⊢
   rw [h.1,h.2]
   simp
 | some x =>
   obtain ⟨t,n⟩:=x
   rw [he] at h
   simp only at h ⊢
   obtain ⟨i,ht,hi,hk⟩:=h
   have hx:(B s).extract 0 i=B t:=by rw [B_extract,ht];simp
   rcases hk with ⟨h2,h3,h4⟩|⟨h2,h3,h4⟩
   ·rw [if_pos zu4,if_neg zu4,h2,Int.toNat_natCast,hx,h4];simp
   ·rw [h2] at g1 h3 ⊢
    by_cases h0:0≤Lib.index s p
    ·rw [if_pos h0,if_pos zu4,Int.toNat_natCast,hx,h4];simp
    ·rw [if_neg h0,if_pos zu4,Int.toNat_natCast,hx,h4];simp
theorem cotherV_B (s:List UInt8):cotherV (B s)=(B (otherL s).1,((otherL s).2:Int)):=by
 unfold cotherV otherL
 rw [show (⟨#[62]⟩:ByteArray)=B [62] from rfl,cutW_B s [62] [62] zu19 zu19]
 cases endG [62] [62] s with
 | none=>simp
 | some x=>simp
theorem pre_B (s p:List UInt8):pre (B s) (B p)=p.isPrefixOf s:=by unfold pre Lib.hasPrefix;rw [B_data,B_data]
theorem suf_B (s p:List UInt8):suf (B s) (B p)=p.isSuffixOf s:=by unfold suf Lib.hasSuffix;rw [B_data,B_data]
theorem trim_B (s p:List UInt8) (h:p.isSuffixOf s=true):trimS (B s) (B p)=B (s.take (s.length - p.length)):=by
 unfold trimS Lib.trimSuffix Lib.hasSuffix
 simp only [B_data,h,if_true];rfl
theorem plainV_B (s:List UInt8):plainV (B s)=(B (plainL s).1,((plainL s).2:Int)):=by
 unfold plainV plainL plainEnd
 simp only [show (⟨#[62]⟩:ByteArray)=B [62] from rfl,show (⟨#[45,62]⟩:ByteArray)=B [45,62] from rfl,show (⟨#[45,45,62]⟩:ByteArray)=B [45,45,62] from rfl,
  show (⟨#[45,45,33,62]⟩:ByteArray)=B [45,45,33,62] from rfl,show (⟨#[45,45,33]⟩:ByteArray)=B [45,45,33] from rfl,show (⟨#[45,45]⟩:ByteArray)=B [45,45] from rfl,show (⟨#[45]⟩:ByteArray)=B [45] from rfl,
  pre_B,suf_B,cutW_B s [45,45,62] [45,45,33,62] zu19 zu19,size_B]
 by_cases h1:[62].isPrefixOf s=true
 ·simp only [if_pos h1];rfl
 ·by_cases h2:[45,62].isPrefixOf s=true
  ·simp only [if_neg h1,if_pos h2];rfl
  ·simp only [if_neg h1,if_neg h2]
   cases he:endG [45,45,62] [45,45,33,62] s with
   | some x=>simp
   | none =>
     simp only [Bool.false_eq_true,if_false]
     by_cases h3:[45,45,33].isSuffixOf s=true
     ·simp only [if_pos h3,trim_B s _ h3];rfl
     ·by_cases h4:[45,45].isSuffixOf s=true
      ·simp only [if_neg h3,if_pos h4,trim_B s _ h4];rfl
      ·by_cases h5:[45].isSuffixOf s=true
       ·simp only [if_neg h3,if_neg h4,if_pos h5,trim_B s _ h5];rfl
       ·simp only [if_neg h3,if_neg h4,if_neg h5]
def tokC (n:Nat) (r:List UInt8):Int×ByteArray×ByteArray×List S105×Bool×Int×Bool :=
 if begC r=true then (3,B [],B (cleanL (readC r).1),[],false,((n+(readC r).2:Nat):Int),true) else (0,B [],B [],[],false,(n:Int),false)
theorem endG_le (p q:List UInt8):∀ s t n,endG p q s=some (t,n)→t.length≤s.length∧n≤s.length+p.length+q.length:=by
 intro s
 induction s with
 | nil=>intro t n h;simp [endG] at h
 | cons c r ih =>
   intro t n h
   simp only [endG] at h
   split at h
   ·simp only [Option.some.injEq,Prod.mk.injEq] at h;obtain ⟨rfl,rfl⟩:=h;simp;try omega
   ·split at h
    ·simp only [Option.some.injEq,Prod.mk.injEq] at h;obtain ⟨rfl,rfl⟩:=h;simp;try omega
    ·cases he:endG p q r with
     | none=>rw [he] at h;cases h
     | some x =>
       obtain ⟨t',n'⟩:=x
       rw [he] at h
       simp only [Option.some.injEq,Prod.mk.injEq] at h
       obtain ⟨rfl,rfl⟩:=h
       have:=ih t' n' he
       simp;omega
theorem otherL_le (s:List UInt8):(otherL s).1.length≤s.length∧(otherL s).2≤s.length+2:=by
 unfold otherL
 cases he:endG [62] [62] s with
 | none=>simp
 | some x=>obtain ⟨t,n⟩:=x;have:=endG_le _ _ _ _ _ he;simpa using this
theorem plainL_le (s:List UInt8):(plainL s).1.length≤s.length∧(plainL s).2≤s.length+7:=by
 unfold plainL plainEnd
 split
 ·simp
 ·split
  ·simp
  ·cases he:endG [45,45,62] [45,45,33,62] s with
   | some x=>obtain ⟨t,n⟩:=x;have:=endG_le _ _ _ _ _ he;simpa using this
   | none=>simp only;repeat' split
           all_goals simp;try omega
theorem extract_drop (s:List UInt8) (n:Nat) (_:n≤s.length):(B s).extract n s.length=B (s.drop n):=by
 rw [B_extract];simp
theorem read_f (s:List UInt8) (n:Nat) (hs:s.length≤1000000) (hn:n≤s.length):comment_Read.f (B s) (n:Int)=some (tokC n (s.drop n)):=by
 unfold comment_Read.f tokC
 rw [if_pos zu25,begC_f s n hs hn,Option.bind_some]
 cases hb:begC (s.drop n) with
 | false=>simp
 | true =>
   simp only [if_true,show (⟨#[60,33,45,45]⟩:ByteArray)=B [60,33,45,45] from rfl,show (⟨#[60,63]⟩:ByteArray)=B [60,63] from rfl,begins_f s _ n hs (show ([60,33,45,45]:List UInt8).length≤1000000 by simp) hn,
    begins_f s _ n hs (show ([60,63]:List UInt8).length≤1000000 by simp) hn,Option.bind_some]
   have h2:n+2≤s.length:=by
    match hr:s.drop n with
    | []=>rw [hr] at hb;simp [begC] at hb
    | [c]=>rw [hr] at hb;simp [begC] at hb
    | c::d::t =>
      have:(s.drop n).length=t.length+2:=by rw [hr];rfl
      simp only [List.length_drop] at this;omega
   have g:∀ (j:Nat) (V:ByteArray→ByteArray×Int) (VL:List UInt8→List UInt8×Nat),(∀ l,V (B l)=(B (VL l).1,((VL l).2:Int)))→(∀ l,(VL l).1.length≤l.length∧(VL l).2≤l.length+7)→n+j≤s.length →
     comment_Read.g (B s) (wrap64 ((n:Int)+(j:Int))) V=some (3,B [],B (cleanL (VL ((s.drop n).drop j)).1),[],false,((n+(j+(VL ((s.drop n).drop j)).2):Nat):Int),true):=by
    intro j V VL hV hL hj
    have w:wrap64 ((n:Int)+(j:Int))=((n+j:Nat):Int):=Pb.wrap_add n j zu4
    unfold comment_Read.g
    rw [w,if_pos zu25,size_B,Int.toNat_natCast,extract_drop s (n+j) hj,hV,List.drop_drop]
    have hl:=hL (s.drop (n+j))
    simp only [List.length_drop] at hl
    simp only
    rw [clean_f _ zu4,Option.bind_some]
    have w2:wrap64 (((n+j:Nat):Int)+((VL (s.drop (n+j))).2:Int))=((n+(j+(VL (s.drop (n+j))).2):Nat):Int):=by unfold wrap64;omega
    rw [w2];rfl
   unfold readC
   cases h1:begR (s.drop n) [60,33,45,45] with
   | true =>
     have l1:=begR_length _ _ h1
     simp only [List.length_drop,List.length_cons,List.length_nil] at l1
     simp only [if_true]
     exact g 4 plainV plainL plainV_B plainL_le zu4
   | false =>
     simp only [Bool.false_eq_true,if_false]
     cases h3:begR (s.drop n) [60,63] with
     | true =>
       simp only [if_true]
       exact g 1 cotherV otherL cotherV_B (fun l=>⟨(otherL_le l).1,by have:=(otherL_le l).2;omega⟩) zu4
     | false =>
       simp only [Bool.false_eq_true,if_false]
       exact g 2 cotherV otherL cotherV_B (fun l=>⟨(otherL_le l).1,by have:=(otherL_le l).2;omega⟩) zu4
end Pcm
end

section
namespace Hand
open Go Go.RowKit K0 Pl Pb Sa Go.Proofs.YtclkdmmgibgamaaGreatDoor.Pure YtclkdmmgibgamaaGreatDoorW.PrintWords YtclkdmmgibgamaaGreatDoorW.PrintLast YtclkdmmgibgamaaGreatDoorW.PrintMore
def readD (r:List UInt8):List UInt8×Nat:=(upto 62 (r.drop 9),9+(upto 62 (r.drop 9)).length+if (62:UInt8)∈r.drop 9 then 1 else 0)
theorem begR_len9 {s:List UInt8} {n:Nat} (h:begR (s.drop n) docL=true) (hn:n≤s.length):n+9≤s.length:=by
 have:=begR_length _ _ h
 simp only [List.length_drop,docL,List.length_cons,List.length_nil] at this
 omega
theorem dread_yes (s:List UInt8) (n:Nat) (w:World) (hG:Glob w) (hs:s.length≤100000) (hn:n≤s.length) (hb:begR (s.drop n) docL=true) :
  Calls Tryz.prog 75 #[.string (B s),.int .i64 (n:Int)] w fun e w'=>e = .returned (.tuple #[.agg #[.int .i64 4,.string ⟨#[]⟩,.string (B (cleanL (readD (s.drop n)).1)),.slice none 0 0,.bool false],.int .i64 ((n+(readD (s.drop n)).2:Nat):Int),.bool true])∧Below w.heap.size w w':=by
 have hu35:=Tryz.underlying30
 have h9:=begR_len9 hb hn
 have C:=fun W=>docBegins_c s n hs hn W
 rw [hb] at C
 obtain ⟨r,hr⟩:∃ r,s.drop (n+9)=r:=⟨_,rfl⟩
 have hrl:r.length=s.length - (n+9):=by rw [← hr];simp
 have hup:=upto_length 62 r
 have hrd:readD (s.drop n)=(upto 62 r,9+(upto 62 r).length+if (62:UInt8)∈r then 1 else 0):=by unfold readD;rw [List.drop_drop,hr]
 rw [hrd]
 have hx:(B s).extract (n+9) (B s).size=B r:=by rw [B_extract,size_B,List.take_length,hr]
 obtain ⟨a,ha⟩:∃ a,B s=a:=⟨_,rfl⟩
 have hz:a.size=s.length:=by rw [← ha];simp
 rw [ha] at C hx ⊢
 have CU:∀ W,Glob W→Calls Tryz.prog 111 #[.string (a.extract (n+9) a.size),.string ⟨#[62]⟩] W fun e w'=>e = .returned (.tuple #[.string (B (upto 62 r)),.string (B (past 62 r)),.bool (decide ((62:UInt8)∈r))])∧Below W.heap.size W w':=by
  intro W hG
  rw [hx]
  exact scut_c 62 r W zu4 hG
 have CL:=Lib.hid (fun W hG=>clean_any (B (upto 62 r)) W zu25 hG)
 obtain ⟨t1,ht1⟩:∃ t,B (upto 62 r)=t:=⟨_,rfl⟩
 have hcl:cleanBA t1=B (cleanL (upto 62 r)):=by rw [← ht1,(show ∀ l:List UInt8,cleanBA (B l)=B (cleanL l) from fun l=>by unfold cleanBA;rw [B_data];rfl)]
 have hzt:t1.size=(upto 62 r).length:=by rw [← ht1];simp
 rw [ht1] at CU CL
 rw [← hcl,← hzt]
 obtain ⟨bb,hbb⟩:∃ b,decide ((62:UInt8)∈r)=b:=⟨_,rfl⟩
 rw [hbb] at CU
 have hz3:n+9≤a.size:=by omega
 have hz4:t1.size≤1000000:=by omega
 have hz5:a.size≤1000000:=by omega
 have HC:=Lib.hid C
 have HU:=Lib.hid CU
 obtain ⟨N,hN⟩:∃ N,n+(9+t1.size+if (62:UInt8)∈r then 1 else 0)=N:=⟨_,rfl⟩
 have HN:Hid ((N:Int)=if bb=true then (n:Int)+9+t1.size+1 else (n:Int)+9+t1.size):=by
  rw [← hbb,← hN]
  by_cases hm:(62:UInt8)∈r
  ·rw [if_pos hm,if_pos (by simpa using hm)];show _=_;omega
  ·rw [if_neg hm,if_neg (by simpa using hm)];show _=_;omega
 rw [hN]
 clear C CU hb hr hrd hx ha hz hrl hup hcl hzt ht1 hbb h9 hs hn hN
 have hT:=Lib.hid (Tok.of_alloc T0 30 w)
 have hB0:=Lib.hid (Below.alloc (Below.refl w.heap.size w) (Nat.le_refl _) (.cells T0 30))
 have hsz:w.heap.size<(w.alloc (.cells T0 30)).heap.size:=by simp
 go_enter Tryz.func75,Tryz.ntmps75
 go_wp2_with fail
 refine (HC.out _).mono ?_
 rintro e w1 ⟨rfl,hb1⟩
 clear HC
 have hT1:=Lib.hid (hT.out.below hb1 hsz)
 have hB1:=Lib.hid (hB0.out.trans (hb1.mono (Nat.le_of_lt hsz)))
 have hl1:=Nat.lt_of_lt_of_le hsz hb1.size
 clear hb1 hsz hT hB0
 go_wp2_with fail
 refine (HU.out _ (hG.step hB1.out)).mono ?_
 rintro e w2 ⟨rfl,hb1⟩
 have hT2:=Lib.hid (hT1.out.below hb1 hl1)
 have hB2:=Lib.hid (hB1.out.trans (hb1.mono (Nat.le_of_lt hl1)))
 have hl2:=Nat.lt_of_lt_of_le hl1 hb1.size
 clear hb1 hl1 hT1 hB1 HU
 cases bb with
 | true =>
   go_wp2_with fail
   refine (CL.out _ (hG.step hB2.out)).mono ?_
   rintro e w3 ⟨rfl,hb1⟩
   have hT3:=Lib.hid (hT2.out.below hb1 hl2)
   have hB3:=Lib.hid (hB2.out.trans (hb1.mono (Nat.le_of_lt hl2)))
   clear hb1 hl2 hT2 hB2
   have q0:w3.cell? ⟨w.heap.size,0,none⟩=some (.int .i64 0):=hT3.out.cell 0 zu15
   have q1:=Tok.f1 hT3.out
   have q2:=Tok.f2 hT3.out
   have q3:=Tok.f3 hT3.out
   have q4:=Tok.f4 hT3.out
   have q5:∀ j,w3.frozen? ⟨w.heap.size,j,none⟩=false:=hT3.out.open_
   go_wp2_with fail
   refine bodyPost_ret (results_ctt rfl rfl (Tok.load (hT3.out.put _ _ _ _ _))) rfl ?_
   refine ⟨?_,put_below _ (Nat.le_refl _) hB3.out _ _ _ _ _⟩
   rw [HN.out];rfl
 | false =>
   go_wp2_with fail
   refine (CL.out _ (hG.step hB2.out)).mono ?_
   rintro e w3 ⟨rfl,hb1⟩
   have hT3:=Lib.hid (hT2.out.below hb1 hl2)
   have hB3:=Lib.hid (hB2.out.trans (hb1.mono (Nat.le_of_lt hl2)))
   clear hb1 hl2 hT2 hB2
   have q0:w3.cell? ⟨w.heap.size,0,none⟩=some (.int .i64 0):=hT3.out.cell 0 zu15
   have q1:=Tok.f1 hT3.out
   have q2:=Tok.f2 hT3.out
   have q3:=Tok.f3 hT3.out
   have q4:=Tok.f4 hT3.out
   have q5:∀ j,w3.frozen? ⟨w.heap.size,j,none⟩=false:=hT3.out.open_
   go_wp2_with fail
   refine bodyPost_ret (results_ctt rfl rfl (Tok.load (hT3.out.put _ _ _ _ _))) rfl ?_
   refine ⟨?_,put_below _ (Nat.le_refl _) hB3.out _ _ _ _ _⟩
   rw [HN.out];rfl
theorem past_len (c:UInt8) (l:List UInt8):l.length - (past c l).length=(upto c l).length+if c∈l then 1 else 0:=by
 by_cases h:c∈l
 ·rw [if_pos h]
  have hlt:(upto c l).length<l.length:=by
   unfold upto
   rcases Nat.lt_or_ge (l.takeWhile (isNe c)).length l.length with h1|h1
   ·exact h1
   ·have e:l.takeWhile (isNe c)=l:=(List.takeWhile_prefix _).eq_of_length (Nat.le_antisymm (List.takeWhile_prefix _).length_le h1)
    have:=List.all_eq_true.1 (List.all_takeWhile (p:=isNe c) (l:=l)) c (by rw [e];exact h)
    simp [isNe] at this
  unfold past
  rw [List.length_drop];omega
 ·rw [if_neg h,past_all c l h,upto_all c l h];simp
theorem docRead_c (s:List UInt8) (p:Nat) (hs:s.length≤100000) (hp:p≤s.length) (hb:begR (s.drop p) docL=true) (w:World) (hG:Glob w) :
  Calls Tryz.prog 75 #[.string (B s),.int .i64 (p:Int)] w fun e w'=>TkRet s (some (.doctype (cleanL (upto 62 ((s.drop p).drop 9)))),past 62 ((s.drop p).drop 9)) w e w'∧Below w.heap.size w w':=by
 refine (dread_yes s p w hG hs hp hb).mono ?_
 rintro e w' ⟨rfl,hb'⟩
 refine ⟨?_,hb'⟩
 refine ⟨.slice none 0 0,?_,Kd.R_nil _ _ _ _ _⟩
 have h9:=begR_len9 hb hp
 have h1:=past_len 62 ((s.drop p).drop 9)
 have h2:=past_le 62 ((s.drop p).drop 9)
 have e:p+(readD (s.drop p)).2=s.length - (past 62 ((s.drop p).drop 9)).length:=by
  unfold readD
  simp only
  have h3:((s.drop p).drop 9).length=s.length - p - 9:=by rw [List.length_drop,List.length_drop]
  split at h1<;>rename_i hm
  ·rw [if_pos hm];omega
  ·rw [if_neg hm];omega
 rw [e];rfl
theorem endG_in (p q:List UInt8):∀ s t n,endG p q s=some (t,n)→n≤s.length:=by
 intro s
 induction s with
 | nil=>intro t n h;simp [endG] at h
 | cons c r ih =>
   intro t n h
   simp only [endG] at h
   split at h
   ·rename_i hp
    simp only [Option.some.injEq,Prod.mk.injEq] at h;obtain ⟨rfl,rfl⟩:=h
    exact (List.isPrefixOf_iff_prefix.1 hp).length_le
   ·split at h
    ·rename_i hp
     simp only [Option.some.injEq,Prod.mk.injEq] at h;obtain ⟨rfl,rfl⟩:=h
     exact (List.isPrefixOf_iff_prefix.1 hp).length_le
    ·cases he:endG p q r with
     | none=>rw [he] at h;cases h
     | some x =>
       obtain ⟨t',n'⟩:=x
       rw [he] at h
       simp only [Option.some.injEq,Prod.mk.injEq] at h
       obtain ⟨rfl,rfl⟩:=h
       have:=ih t' n' he
       simp;omega
theorem otherL_in (s:List UInt8):(otherL s).2≤s.length:=by
 unfold otherL
 cases he:endG [62] [62] s with
 | none=>exact Nat.le_refl _
 | some x=>obtain ⟨t,n⟩:=x;exact endG_in _ _ _ _ _ he
theorem plainL_in (s:List UInt8):(plainL s).2≤s.length:=by
 unfold plainL plainEnd
 split
 ·rename_i h;exact (List.isPrefixOf_iff_prefix.1 h).length_le
 ·split
  ·rename_i h;exact (List.isPrefixOf_iff_prefix.1 h).length_le
  ·cases he:endG [45,45,62] [45,45,33,62] s with
   | some x=>obtain ⟨t,n⟩:=x;exact endG_in _ _ _ _ _ he
   | none=>simp only;repeat' split
           all_goals exact Nat.le_refl _
theorem readC_in {l:List UInt8} (h:begC l=true):(readC l).2≤l.length:=by
 have h2:2≤l.length:=by
  match l,h with
  | [],h=>simp [begC] at h
  | [c],h=>simp [begC] at h
  | c::d::t,_=>simp
 unfold readC
 split
 ·rename_i h1
  have l1:=begR_length _ _ h1
  simp only [List.length_cons,List.length_nil] at l1
  have:=plainL_in (l.drop 4)
  rw [List.length_drop] at this
  simp only;omega
 ·split
  ·have:=otherL_in (l.drop 1)
   rw [List.length_drop] at this
   simp only;omega
  ·have:=otherL_in (l.drop 2)
   rw [List.length_drop] at this
   simp only;omega
end Hand
end

section
namespace Hand
open Go.RowKit Go.Shelf K0 Pl Pb Sa Go.Proofs.YtclkdmmgibgamaaGreatDoor.Pure YtclkdmmgibgamaaGreatDoorW.PrintWords YtclkdmmgibgamaaGreatDoorW.PrintLast YtclkdmmgibgamaaGreatDoorW.PrintMore
theorem cell_new_l (W:World) (v:Value) (t:TypeId):(W.alloc (.cells #[v] t)).cell? ⟨W.heap.size,0,none⟩=some v∧(W.alloc (.cells #[v] t)).frozen? ⟨W.heap.size,0,none⟩=false :=
 ⟨World.cell?_alloc_at _ t _ 0 rfl,World.frozen?_alloc_at _ t _ 0 rfl⟩
theorem cell_alloc_l {W:World} {a:Addr} {v:Value} (o:Obj) (h:W.cell? a=some v):(W.alloc o).cell? a=some v:=cell_kept h (World.grownBy_alloc W o none) (fun r e=>by cases e)
theorem frozen_alloc_l {W:World} {a:Addr} {v:Value} (o:Obj) (h:W.cell? a=some v) (hf:W.frozen? a=false):(W.alloc o).frozen? a=false:=(frozen_kept h (World.grownBy_alloc W o none) (fun r e=>by cases e)).trans hf
theorem places_any (s:ByteArray) (i:Int) (w:World):Calls Tryz.prog 153 #[.string s,.int .i64 i] w fun e w' =>
  e = .returned (.func (.func 180) #[] #[.pointer (some ⟨w.heap.size+1,0,none⟩),.pointer (some ⟨w.heap.size,0,none⟩)])∧w'=(w.alloc (.cells #[.string s] 9)).alloc (.cells #[.int .i64 i] 3):=by
 go_enter Tryz.func153,Tryz.ntmps153
 go_wp2
 go_ret
 exact ⟨rfl,rfl⟩
attribute [local go_sem] Oper.semAt_some
theorem places1_in (n l Ba Bs n₀:Nat) (s:ByteArray) (at0:Nat) (hn:1≤n) (hs:s.size≤1000000) (hat:at0≤s.size) (J Jx:List Nat→World→Prop)
  (hY:∀ pre x W,J pre W→pre.length<s.size+1→YieldAt Fence.wide (n - 1) Tryz.prog l #[.int .i64 (x:Nat)] W fun e W' =>
    (e = .returned (.bool true)∧J (pre++[x]) W'∧Below n₀ W W')∨(e = .returned (.bool false)∧Jx (pre++[x]) W'))
  (W:World) (hG:Glob W) (h00:0<n₀) (hBa:Ba<n₀) (hBs:Bs<n₀) (ha:W.cell? ⟨Ba,0,none⟩=some (.int .i64 at0)) (hc:W.cell? ⟨Bs,0,none⟩=some (.string s)) (h0:J [] W) :
  CallsIn Fence.wide n Tryz.prog 180 #[.func (.yield l) #[] #[],.pointer (some ⟨Ba,0,none⟩),.pointer (some ⟨Bs,0,none⟩)] W fun e W'=>(∃ v,e = .returned v) ∧
   ((∃ ys,ys=plc at0 (s.data.toList.drop at0)∧J ys W')∨(∃ pre,pre <+: plc at0 (s.data.toList.drop at0)∧Jx pre W')):=by
 refine callsIn_of_wp Tryz.func180 rfl trivial ?_ rfl
 simp only [Tryz.ntmps180,List.size_toArray,List.length_cons,List.length_nil,Nat.reduceAdd,Nat.reduceSub,Array.replicate_succ,Array.replicate_zero,List.push_toArray,List.append_toArray,List.nil_append,List.cons_append]
 gi_wp2
 gi_loopw [4] (fun i wr => ∃ (k:Nat) (pre:List Nat),k≤s.size∧i = .int .i64 k∧J pre wr∧pre++plc k (s.data.toList.drop k)=plc at0 (s.data.toList.drop at0)∧Below n₀ W wr) (fun i _=>s.size - (intOf i).toNat)
 case atStart=>exact ⟨at0,[],hat,rfl,h0,rfl,Below.refl _ _⟩
 case round =>
  obtain ⟨k,pre,hk,rfl,hJs,hp,hB⟩:=hrel
  have ha':=(hB.cell (p:=⟨Ba,0,none⟩) hBa).trans ha
  have hc':=(hB.cell (p:=⟨Bs,0,none⟩) hBs).trans hc
  have HP:=Lib.hid hp
  have HB:=Lib.hid hB
  obtain ⟨m,hm⟩:=hG.out
  have hm':=(hB.cell (p:=⟨0,0,none⟩) h00).trans hm
  have hx:=xdrop s k
  by_cases hlt:k<s.size
  ·have CI:=Lib.hid (Tryz.strings_Index (s.extract k s.size) ⟨#[60,47]⟩ m wr zu25 hm')
   obtain ⟨q,hq⟩:∃ q,Lib.index (s.extract k s.size).data.toList [60,47]=q:=⟨_,rfl⟩
   have hq0:=Lib.index_ge (s.extract k s.size).data.toList [60,47]
   have hq1:=Lib.index_le (s.extract k s.size).data.toList [60,47]
   rw [hq] at hq0 hq1
   have hql:(s.extract k s.size).data.toList.length=s.size - k:=by rw [hx];simp
   rw [hql] at hq1
   replace CI:Hid (Calls Tryz.prog 119 #[.string (s.extract k s.size),.string ⟨#[60,47]⟩] wr fun e w'=>e = .returned (.int .i64 q)∧w'=wr):=by
    have:=CI.out
    rw [show (⟨#[60,47]⟩:ByteArray).data.toList=[60,47] from rfl,hq] at this
    exact this
   rw [hx] at hq
   have HQ:=Lib.hid hq
   clear hq hx hql hp hB hm
   by_cases hneg:q<0
   ·gi_wp2_with (refine ⟨trivial,?_⟩;gi_at_call 119;refine (callsIn_wide.2 CI.out).mono ?_;rintro e w' ⟨rfl,rfl⟩)
    refine bodyPost_ret (results_none rfl _ _ _) rfl ?_
    exact ⟨⟨_,rfl⟩,.inl ⟨pre,by rw [← HP.out,plc_none _ _ (by rw [HQ.out];exact hneg),List.append_nil],hJs⟩⟩
   ·obtain ⟨j,rfl⟩:∃ j:Nat,q=j:=⟨q.toNat,zu4⟩
    have hkj:k+j+1≤s.size:=by
     have h1:=index_lt _ j HQ.out
     rw [List.length_drop,Array.length_toList] at h1
     have:s.data.size=s.size:=rfl
     omega
    have hps:=plc_some (s.data.toList.drop k) k j HQ.out
    rw [List.drop_drop,show k+(j+1)=k+j+1 by omega] at hps
    have hlen:pre.length<s.size+1:=by
     have h1:=congrArg List.length HP.out
     have h2:=plc_length (s.data.toList.drop at0) at0
     simp only [List.length_append,List.length_drop,Array.length_toList] at h1 h2
     have:s.data.size=s.size:=rfl
     omega
    obtain ⟨fn,tmps,assign,body,hy,hR⟩:=hY pre (k+j) wr hJs hlen
    rw [Int.natCast_add] at hy
    have HP':=Lib.hid (show (pre++[k+j])++plc (k+j+1) (s.data.toList.drop (k+j+1))=plc at0 (s.data.toList.drop at0) by rw [← HP.out,hps];simp)
    clear hps hlen
    gi_wp2_with (refine ⟨trivial,?_⟩;gi_at_call 119;refine (callsIn_wide.2 CI.out).mono ?_;rintro e w' ⟨rfl,rfl⟩)
    refine hR.mono ?_
    rintro e W3 (⟨rfl,hJ3,hk3⟩|⟨rfl,hJx3⟩)
    ·gi_wp2
     go_roundw
     case rel=>exact ⟨k+j+1,pre++[k+j],hkj,by go_num,hJ3,HP'.out,HB.out.trans hk3⟩
     case measure=>simp [intOf];omega
    ·gi_wp2
     refine bodyPost_ret (results_none rfl _ _ _) rfl ?_
     exact ⟨⟨_,rfl⟩,.inr ⟨pre++[k+j],⟨_,HP'.out⟩,hJx3⟩⟩
  ·obtain rfl:k=s.size:=by omega
   gi_wp2
   go_end0
   exact ⟨⟨_,rfl⟩,.inl ⟨pre,by rw [← HP.out,List.drop_eq_nil_of_le zu19,plc,List.append_nil],hJs⟩⟩
theorem places_stops (n Ba Bs n₀:Nat) (s:ByteArray) (at0:Nat) (hn:1≤n) (hs:s.size≤1000000) (hat:at0≤s.size) (w:World) (hG:Glob w) (h00:0<n₀) (hBa:Ba<n₀) (hBs:Bs<n₀) (hn₀:n₀≤w.heap.size)
  (ha:w.cell? ⟨Ba,0,none⟩=some (.int .i64 at0)) (hc:w.cell? ⟨Bs,0,none⟩=some (.string s)) :
  SeqStopsK Fence.wide n Tryz.prog 180 #[.pointer (some ⟨Ba,0,none⟩),.pointer (some ⟨Bs,0,none⟩)] (fun x:Nat => #[Value.int .i64 x]) (Below n₀) (fun ys=>ys=plc at0 (s.data.toList.drop at0)) (fun pre=>pre <+: plc at0 (s.data.toList.drop at0)) (s.size+1) w :=
 fun l J Jx W hW _ _ hY h0=>places1_in n l Ba Bs n₀ s at0 hn hs hat J Jx hY W (hG.step hW) h00 hBa hBs ((hW.cell (p:=⟨Ba,0,none⟩) (Nat.lt_of_lt_of_le hBa hn₀)).trans ha) ((hW.cell (p:=⟨Bs,0,none⟩) (Nat.lt_of_lt_of_le hBs hn₀)).trans hc) h0
theorem ends_past (s name:List UInt8) (n k:Nat) (hn:s.length<n):raw_Ends.f (k+1) (B s) (n:Int) (B name)=some (endsL (s.drop n) name):=by
 have hd:s.drop n=[]:=List.drop_eq_nil_of_le zu4
 have he:endsL [] name=false:=by simp [endsL,begR]
 have j_true:raw_Ends.j0 (k+1) (B s) (n:Int) (B name) true=some false:=by rw [raw_Ends.j0,if_pos rfl]
 rw [hd,he]
 unfold raw_Ends.f
 by_cases hne:name=[]
 ·subst hne
  rw [if_pos zu19,j_true]
 ·rw [if_neg (by simpa using hne),show (⟨#[60,47]⟩:ByteArray)=B [60,47] from rfl,begins_past s _ n zu4,Option.bind_some,if_neg zu19,j_true]
theorem ends_c (s name:List UInt8) (n:Nat) (hs:s.length≤1000000) (hl:name.length≤1000000) (w:World) :
  Calls Tryz.prog 154 #[.string (B s),.int .i64 n,.string (B name)] w fun e w'=>e = .returned (.bool (endsL (s.drop n) name))∧Below w.heap.size w w':=by
 by_cases h:n≤s.length
 ·exact raw_Ends.calls 1 _ _ _ _ w (ends_f 0 s name n hs hl h)
 ·exact raw_Ends.calls 1 _ _ _ _ w (ends_past s name n 0 zu4)
theorem keeps_below {W W':World} (h:Below W.heap.size W W'):KeepsOthers W W' :=
 ⟨h.size,fun b _ hb _=>(h.block b (Array.getElem?_eq_some_iff.1 hb).1).trans hb⟩
def clN (n:Nat) (a:Int):Nat:=if a<0 then 0 else if (n:Int)<a then n else a.toNat
attribute [local go_sem] max2_int min2_int max_two min_two max_three min_three max_four min_four
def At3 (w W:World) (s name:ByteArray) (r:Int):Prop :=
 W.cell? ⟨w.heap.size,0,none⟩=some (.string s)∧W.cell? ⟨w.heap.size+1,0,none⟩=some (.string name)∧W.cell? ⟨w.heap.size+1+1,0,none⟩=some (.int .i64 r)∧W.frozen? ⟨w.heap.size+1+1,0,none⟩=false
theorem At3.kept {w A B':World} {s name:ByteArray} {r:Int} {row:Option Nat} (h:At3 w A s name r) (hg:A.grownBy B' row) (hr:∀ k,row=some k→∃ o,A.heap[k]? = some o∧o.isCells=false):At3 w B' s name r :=
 ⟨cell_kept h.1 hg hr,cell_kept h.2.1 hg hr,cell_kept h.2.2.1 hg hr,(frozen_kept h.2.2.1 hg hr).trans h.2.2.2⟩
theorem At3.below {w A B':World} {s name:ByteArray} {r:Int} {n:Nat} (h:At3 w A s name r) (hb:Below n A B') (hn:w.heap.size+1+1<n):At3 w B' s name r :=
 ⟨(hb.cell (p:=⟨_,0,none⟩) (by show w.heap.size<n;omega)).trans h.1,(hb.cell (p:=⟨_,0,none⟩) (by show w.heap.size+1<n;omega)).trans h.2.1,(hb.cell (p:=⟨_,0,none⟩) hn).trans h.2.2.1,(hb.frozen (p:=⟨_,0,none⟩) hn).trans h.2.2.2⟩
theorem At3.put {w A:World} {s name:ByteArray} {r:Int} (h:At3 w A s name r) (x:Int):At3 w (A.setCell ⟨w.heap.size+1+1,0,none⟩ (.int .i64 x)) s name x :=
 ⟨by rw [World.cell?_setCell_other _ _ _ _ (by intro e;injection e;omega)];exact h.1,by rw [World.cell?_setCell_other _ _ _ _ (by intro e;injection e;omega)];exact h.2.1,
   World.cell?_setCell_same' _ _ _ (by rw [h.2.2.1];rfl),by rw [World.frozen?_setCell];exact h.2.2.2⟩
theorem find_in (s name:List UInt8) (a:Int) (w:World) (hG:Glob w) (hs:s.length≤1000000) (hl:name.length≤1000000) :
  CallsIn Fence.wide 8 Tryz.prog 115 #[.string (B s),.int .i64 a,.string (B name)] w fun e w'=>e = .returned (.int .i64 (rawFind s (clN s.length a) name))∧Below w.heap.size w w':=by
 obtain ⟨j1,hj1⟩:∃ j,(if a<0 then 0 else a)=j:=⟨_,rfl⟩
 obtain ⟨j2,hj2⟩:∃ j,(if ((B s).size:Int)<j1 then ((B s).size:Int) else j1)=j:=⟨_,rfl⟩
 have hc:j2=(clN s.length a:Nat)∧clN s.length a≤s.length:=by
  rw [← hj2,← hj1,size_B];unfold clN
  repeat' split
  all_goals first|omega | (simp;omega)
 obtain ⟨hc1,hc2⟩:=hc
 obtain ⟨n,hn⟩:∃ n,clN s.length a=n:=⟨_,rfl⟩
 rw [hn] at hc1 hc2 ⊢
 clear hn
 subst hc1
 have E:=ends_c s name
 obtain ⟨sb,hsb⟩:∃ b,B s=b:=⟨_,rfl⟩
 obtain ⟨nb,hnb⟩:∃ b,B name=b:=⟨_,rfl⟩
 have hzs:sb.size=s.length:=by rw [← hsb];simp
 have hds:sb.data.toList=s:=by rw [← hsb,B_data]
 rw [hsb] at E hj2 ⊢
 rw [hnb] at E ⊢
 clear hsb hnb
 have EE:=Lib.hid E
 have HZ:=Lib.hid hzs
 have HD:=Lib.hid hds
 have hzb:sb.size≤1000000:=by omega
 clear E hzs hds
 refine callsIn_of_wp_marks Tryz.func115 rfl trivial ?_ rfl
 simp only [Tryz.ntmps115,List.size_toArray,List.length_cons,List.length_nil,Nat.reduceAdd,Nat.reduceSub,Array.replicate_succ,Array.replicate_zero,List.push_toArray,List.append_toArray,List.nil_append,List.cons_append]
 gi_wp2_with (refine ⟨trivial,?_⟩;gi_at_call 153;refine (callsIn_wide.2 (places_any _ _ _)).mono ?_;rintro e w' ⟨rfl,rfl⟩)
 obtain ⟨W0,hW0⟩:∃ W0,((((w.alloc (.cells #[.string sb] 9)).alloc (.cells #[.string nb] 9)).alloc (.cells #[.int .i64 0] 3)).alloc (.cells #[.string sb] 9)).alloc (.cells #[.int .i64 (n:Int)] 3)=W0:=⟨_,rfl⟩
 have hz0:W0.heap.size=w.heap.size+5:=by rw [← hW0];simp
 have hB0:Below w.heap.size w W0:=by
  rw [← hW0]
  exact (((((Below.refl _ w).alloc (Nat.le_refl _) _).alloc zu19 _).alloc zu25 _).alloc zu25 _).alloc zu25 _
 have hA0:At3 w W0 sb nb 0:=by
  rw [← hW0]
  have c0:=cell_new_l w (.string sb) 9
  have c1:=cell_new_l (w.alloc (.cells #[.string sb] 9)) (.string nb) 9
  have c2:=cell_new_l ((w.alloc (.cells #[.string sb] 9)).alloc (.cells #[.string nb] 9)) (.int .i64 0) 3
  simp only [World.size_alloc] at c1 c2
  exact ⟨cell_alloc_l _ (cell_alloc_l _ (cell_alloc_l _ (cell_alloc_l _ c0.1))),cell_alloc_l _ (cell_alloc_l _ (cell_alloc_l _ c1.1)),cell_alloc_l _ (cell_alloc_l _ c2.1),frozen_alloc_l _ (cell_alloc_l _ c2.1) (frozen_alloc_l _ c2.1 c2.2)⟩
 have hBs:W0.cell? ⟨w.heap.size+1+1+1,0,none⟩=some (.string sb):=by
  rw [← hW0]
  have c3:=cell_new_l (((w.alloc (.cells #[.string sb] 9)).alloc (.cells #[.string nb] 9)).alloc (.cells #[.int .i64 0] 3)) (.string sb) 9
  simp only [World.size_alloc] at c3
  exact cell_alloc_l _ c3.1
 have hBa:W0.cell? ⟨w.heap.size+1+1+1+1,0,none⟩=some (.int .i64 (n:Int)):=by
  rw [← hW0]
  have c4:=cell_new_l ((((w.alloc (.cells #[.string sb] 9)).alloc (.cells #[.string nb] 9)).alloc (.cells #[.int .i64 0] 3)).alloc (.cells #[.string sb] 9)) (.int .i64 (n:Int)) 3
  simp only [World.size_alloc] at c4
  exact c4.1
 rw [hW0]
 have hGW:=hG.step hB0
 clear hW0
 obtain ⟨mG,hmG⟩:=hG.out
 have h00:=World.block_lt_of_cell? w _ hmG
 refine wpIn_rangeFunc_ownF rfl zu15 (gf:=180) (lb := #[.pointer (some ⟨w.heap.size+1+1+1+1,0,none⟩),.pointer (some ⟨w.heap.size+1+1+1,0,none⟩)]) rfl trivial (enters_of Tryz.func180 zu13 rfl)
  (places_stops 7 (w.heap.size+1+1+1+1) (w.heap.size+1+1+1) W0.heap.size sb n zu15 hzb (by rw [HZ.out];exact hc2) W0 hGW zu4 zu4 zu4 (Nat.le_refl _) hBa hBs) belowK_t (belowK_b (Nat.le_refl _)) (Below.refl _ _) (fun _=>rfl)
  (fun pre W=>((∀ p∈pre,endsL (s.drop p) name=false)∧At3 w W sb nb 0∧W.cell? ⟨w.heap.size+1+1+1+1,0,none⟩=some (.int .i64 (n:Int)))∧Below w.heap.size w W)
  (fun c pre W=>(c = .ret∧∃ p x,pre=p++[x]∧(∀ q∈p,endsL (s.drop q) name=false)∧endsL (s.drop x) name=true∧At3 w W sb nb x)∧Below w.heap.size w W)
  (OwnFrom.and (Own.from (fun t A B' row hs' hg hr=>⟨hs'.1,hs'.2.1.kept hg hr,cell_kept hs'.2.2 hg hr⟩) _) (ownFrom_below (Nat.le_refl _) zu4))
  (fun c=>OwnFrom.and (Own.from (fun t A B' row ⟨e1,p,x,e2,e3,e4,e5⟩ hg hr=>⟨e1,p,x,e2,e3,e4,e5.kept hg hr⟩) _) (ownFrom_below (Nat.le_refl _) zu4))
  ⟨⟨zu19,hA0,hBa⟩,hB0⟩
  (fun x=>{ tmps := #[.string sb,.int .i64 a,.string nb,.pointer (some ⟨w.heap.size,0,none⟩),undef,.pointer (some ⟨w.heap.size+1,0,none⟩),.pointer (some ⟨w.heap.size+1+1,0,none⟩),.int .i64 (x:Nat),.string sb,.int .i64 a,.int .i64 j1,.string sb,.int .i64 (sb.size:Int),.int .i64 (n:Int),.func (.func 180) #[] #[.pointer (some ⟨w.heap.size+1+1+1+1,0,none⟩),.pointer (some ⟨w.heap.size+1+1+1,0,none⟩)],.int .i64 (x:Nat),undef,undef,undef,undef,undef,undef,undef],defers:=[] }) ?assign ?body ?done ?stop
 case assign =>
  intro l x W K hK
  gi_wp2
  exact hK
 case body =>
  rintro l pre x W ⟨⟨hp,hA,hcB⟩,hB⟩ _
  have hlt5:w.heap.size+1+1+1+1<W.heap.size:=World.block_lt_of_cell? W _ hcB
  have HCB:=Lib.hid hcB
  clear hcB
  have hcs:=hA.1
  have hcn:=hA.2.1
  have HA:=Lib.hid hA
  clear hA
  have EC:=Lib.hid (EE.out x hs hl W)
  obtain ⟨eb,heb⟩:∃ b,endsL (s.drop x) name=b:=⟨_,rfl⟩
  rw [heb] at EC
  have hsz:=hB.size
  have hlt3:w.heap.size+1+1<W.heap.size:=World.block_lt_of_cell? W _ HA.out.2.2.1
  have HHB:=Lib.hid hB
  clear hB
  cases eb with
  | true =>
    gi_wp2_with (refine ⟨trivial,?_⟩;gi_at_call 154;refine (CallsIn.inRound l (callsIn_wide.2 EC.out)).mono ?_;rintro e w' ⟨rfl,hbel⟩;have hA2:=HA.out.below hbel hlt3;have hcr:=hA2.2.2.1;have hfr:=hA2.2.2.2;have HA2:=Lib.hid hA2;clear hA2)
    refine ⟨(keeps_below hbel).trans (KeepsOthers.setCell _ _ _),⟨rfl,pre,x,rfl,hp,heb,?_⟩,(HHB.out.trans (hbel.mono hsz)).setCell (p:=⟨w.heap.size+1+1,0,none⟩) zu25 _⟩
    exact HA2.out.put x
  | false =>
    gi_wp2_with (refine ⟨trivial,?_⟩;gi_at_call 154;refine (CallsIn.inRound l (callsIn_wide.2 EC.out)).mono ?_;rintro e w' ⟨rfl,hbel⟩;have HA2:=Lib.hid (HA.out.below hbel hlt3))
    rename_i w' hbel HA2
    refine ⟨keeps_below hbel,hbel.mono zu4,⟨fun q hq => ?_,HA2.out,(hbel.cell (p:=⟨_,0,none⟩) hlt5).trans HCB.out⟩,HHB.out.trans (hbel.mono hsz)⟩
    rcases List.mem_append.1 hq with hq|hq
    ·exact hp q hq
    ·rw [List.mem_singleton.1 hq];exact heb
 case done =>
  rintro D ys W hD rfl ⟨⟨hne,hA,-⟩,hB⟩ hK
  have hcs:=hA.1
  have hcr:=hA.2.2.1
  have hfr:=hA.2.2.2
  gi_wp2
  have hK':=(KeepsOthers.setCell W ⟨w.heap.size+1+1,0,none⟩ (.int .i64 (sb.size:Int))).same D _ hK rfl
  refine ⟨zu19,.inl ⟨_,_,rfl,run_takeDeferred hK',?_⟩⟩
  have hc5:=cell_kept (World.cell?_setCell_same' W ⟨w.heap.size+1+1,0,none⟩ (.int .i64 (sb.size:Int)) (by rw [hcr];rfl)) (grownBy_putObj' _ D (.deferred none)) (fun r e=>by cases e;exact ⟨_,hK',rfl⟩)
  refine ⟨.int .i64 (sb.size:Int),?_,by rw [rawFind_none (fun p hp=>hne p (by rw [HD.out];exact hp)),HZ.out],(hB.setCell (p:=⟨w.heap.size+1+1,0,none⟩) zu25 _).trans (belowK_b (w:=w) (Nat.le_refl _) _ D _ _ zu4 hK' rfl rfl)⟩
  simp [results,Tryz.f115,go_sem,hc5]
 case stop =>
  rintro D c pre W hD hpre ⟨⟨rfl,p,x,rfl,e3,e4,hA⟩,hB⟩ hK
  gi_wp2
  refine ⟨zu19,.inl ⟨_,_,rfl,run_takeDeferred hK,?_⟩⟩
  have hc5:=cell_kept hA.2.2.1 (grownBy_putObj' _ D (.deferred none)) (fun r e=>by cases e;exact ⟨_,hK,rfl⟩)
  refine ⟨.int .i64 (x:Nat),?_,by rw [rawFind_some (by rw [HD.out] at hpre;exact hpre) e3 e4],hB.trans (belowK_b (w:=w) (Nat.le_refl _) W D _ _ zu4 hK rfl rfl)⟩
  simp [results,Tryz.f115,go_sem,hc5]
theorem rawFind_any (s name:List UInt8) (a:Int) (w:World) (hG:Glob w) (hs:s.length≤1000000) (hl:name.length≤1000000) :
  Calls Tryz.prog 115 #[.string (B s),.int .i64 a,.string (B name)] w fun e w'=>e = .returned (.int .i64 (rawFind s (clN s.length a) name))∧Below w.heap.size w w' :=
 callsIn_wide.1 (find_in s name a w hG hs hl)
end Hand
end

section
namespace Pure
open Go Go.RowKit Hand Sa YtclkdmmgibgamaaGreatDoorW.PrintWords YtclkdmmgibgamaaGreatDoorW.PrintMore Pl Pb
attribute [local simp] B_nil
theorem ends_ev (s name:List UInt8) (n:Nat) (hs:s.length≤1000000) (hl:name.length≤1000000) (hn:n≤s.length) :
  Ev (fun k=>raw_Ends.f k (B s) (n:Int) (B name)) (endsL (s.drop n) name) :=
 Ev.step (f:=fun _=>some (endsL (s.drop n) name)) (fun k=>ends_f k s name n hs hl hn) (Ev.now _)
theorem word_ev (s opens:List UInt8) (n:Nat) (hs:s.length≤1000000) (hl:opens.length≤1000) (hn:n≤s.length) :
  Ev (fun k=>script_word.f k (B s) (n:Int) (B opens)) (if wordL (s.drop n) opens=true then ((opens.length+7:Nat):Int) else 0) :=
 Ev.step (f:=fun _=>some (if wordL (s.drop n) opens=true then ((opens.length+7:Nat):Int) else 0)) (fun k=>word_f k s opens n hs hl hn) (Ev.now _)
def stepM (st ct:Nat) (r:List UInt8) (c:UInt8):Nat×Nat×Nat :=
 if c=45 then (1,st,ct+1) else if c=62∧2≤ct then (1,0,0)
 else if st=1 then (if wordL r [60]=true then (8,2,0) else (1,1,0)) else (if wordL r [60,47]=true then (9,1,0) else (1,2,0))
theorem stepF_M {st ct:Nat} {r:List UInt8} {c:UInt8} (h0:st≠0) (he:¬(st≠2∧endsL (c::r) scriptL=true)) :
  stepF st ct (c::r)=some (stepM st ct (c::r) c):=by
 simp only [stepF,stepM,if_neg he,if_neg h0]
 repeat' split
 all_goals rfl
theorem stepM_ok (st ct n:Nat) (r:List UInt8) (c:UInt8) (hct:ct≤n) (h2:st≤2):(stepM st ct r c).2.2≤n+(stepM st ct r c).1∧(stepM st ct r c).2.1≤2:=by
 unfold stepM
 repeat' split
 all_goals simp only [] ;omega
theorem m_ev {s:List UInt8} {n:Nat} {c:UInt8} {r:List UInt8} {st ct:Nat} {L:Nat→Int→Int→Int→Option (Int×Int)} {v:Int×Int}
  (hs:s.length≤1000000) (hr:s.drop n=c::r) (hst:st=1∨st=2) (hct:ct≤n)
  (h:Ev (fun k=>L k ((n+(stepM st ct (c::r) c).1:Nat):Int) ((stepM st ct (c::r) c).2.1:Int) ((stepM st ct (c::r) c).2.2:Int)) v) :
  Ev (fun k=>script_Find.m k (L k) (B s) (n:Int) (st:Int) (ct:Int)) v:=by
 have hlt:=drop_lt hr
 unfold script_Find.m
 simp only [if_pos (show (0:Int)≤(n:Int) by omega),if_pos (show (n:Int)<((B s).size:Int) by simp;omega),bt_drop s n c r hr,u45,u62]
 have w1:wrap64 ((n:Int)+1)=((n+1:Nat):Int):=wrap_nat _ zu4
 have w2:wrap64 ((ct:Int)+1)=((ct+1:Nat):Int):=wrap_nat _ zu4
 simp only [w1,w2]
 unfold stepM at h
 by_cases h45:c=45
 ·simp only [if_pos h45] at h ⊢;exact h
 ·by_cases h62:c=62∧2≤ct
  ·have h62':c=62∧(2:Int)≤(ct:Int):=⟨h62.1,zu4⟩
   simp only [if_neg h45,if_pos h62] at h
   simp only [if_neg h45,if_pos h62']
   exact h
  ·have h62':¬ (c=62∧(2:Int)≤(ct:Int)):=fun e=>h62 ⟨e.1,zu4⟩
   simp only [if_neg h45,if_neg h62] at h
   simp only [if_neg h45,if_neg h62']
   rcases hst with rfl|rfl
   ·simp only [if_true] at h
    simp only [show (((1:Nat):Int)=1)=True by simp,if_true]
    refine Ev.bind (word_ev s [60] n hs zu19 zu4) ?_
    rw [hr]
    cases hw:wordL (c::r) [60] with
    | true =>
      simp only [hw,if_true] at h
      simp only [if_true,show (((([60]:List UInt8).length+7:Nat):Int)>0) by decide]
      have w:wrap64 ((n:Int)+((([60]:List UInt8).length+7:Nat):Int))=((n+8:Nat):Int):=by simp only [List.length_cons,List.length_nil];unfold wrap64;omega
      simp only [w];exact h
    | false =>
      simp only [hw,Bool.false_eq_true,if_false] at h
      simp only [Bool.false_eq_true,if_false,show ¬ ((0:Int)>0) by omega]
      exact h
   ·simp only [show ((2:Nat)=1)=False by simp,if_false] at h
    simp only [show (((2:Nat):Int)=1)=False by simp,show (((2:Nat):Int)=2)=True by simp,if_true,if_false]
    refine Ev.bind (word_ev s [60,47] n hs zu19 zu4) ?_
    rw [hr]
    cases hw:wordL (c::r) [60,47] with
    | true =>
      simp only [hw,if_true] at h
      simp only [if_true,show (((([60,47]:List UInt8).length+7:Nat):Int)>0) by decide]
      have w:wrap64 ((n:Int)+((([60,47]:List UInt8).length+7:Nat):Int))=((n+9:Nat):Int):=by simp only [List.length_cons,List.length_nil];unfold wrap64;omega
      simp only [w];exact h
    | false =>
      simp only [hw,Bool.false_eq_true,if_false] at h
      simp only [Bool.false_eq_true,if_false,show ¬ ((0:Int)>0) by omega]
      exact h
def findV (s:List UInt8) (n st ct:Nat):Int×Int:=(((n+(findL st ct (s.drop n)).1:Nat):Int),((findL st ct (s.drop n)).2:Int))
theorem findV_none {s:List UInt8} {n st ct:Nat} (h:stepF st ct (s.drop n)=none):findV s n st ct=((n:Int),(st:Int)):=by
 unfold findV;rw [findL_none h];simp
theorem findV_some {s:List UInt8} {n st ct a st' ct':Nat} (h:stepF st ct (s.drop n)=some (a,st',ct')):findV s n st ct=findV s (n+a) st' ct':=by
 unfold findV;rw [findL_some h,List.drop_drop];simp only [Nat.add_assoc]
theorem find_l (s:List UInt8) (hs:s.length≤1000000):∀ m n st ct:Nat,s.length - n≤m→n≤s.length→ct≤n→st≤2 →
  Ev (fun k=>script_Find.l k (B s) (n:Int) (st:Int) (ct:Int)) (findV s n st ct):=by
 intro m
 induction m with
 | zero =>
   intro n st ct hm hn hct hst
   have:s.drop n=[]:=List.drop_eq_nil_of_le zu4
   rw [findV_none (by rw [this];rfl)]
   refine Ev.step (f:=fun _=>some ((n:Int),(st:Int))) (fun k => ?_) (Ev.now _)
   rw [script_Find.l,if_pos zu25]
 | succ m ih =>
   intro n st ct hm hn hct hst
   cases hr:s.drop n with
   | nil =>
     have:=drop_nil hr
     rw [findV_none (by rw [hr];rfl)]
     refine Ev.step (f:=fun _=>some ((n:Int),(st:Int))) (fun k => ?_) (Ev.now _)
     rw [script_Find.l,if_pos zu25]
   | cons c r =>
     have hlt:=drop_lt hr
     have hgo:∀ a st' ct':Nat,stepF st ct (s.drop n)=some (a,st',ct')→ct'≤n+a→st'≤2 →
       Ev (fun k=>script_Find.l k (B s) ((n+a:Nat):Int) (st':Int) (ct':Int)) (findV s n st ct):=by
      intro a st' ct' h1 h2 h3
      have ha:=stepF_adv h1
      simp only [List.length_drop] at ha
      rw [findV_some h1]
      exact ih (n+a) st' ct' zu4 zu4 h2 h3
     have hM:st≠0→¬(st≠2∧endsL (c::r) scriptL=true)→Ev (fun k=>script_Find.m k (script_Find.l k (B s)) (B s) (n:Int) (st:Int) (ct:Int)) (findV s n st ct):=by
      intro h0 he
      have hok:=stepM_ok st ct n (c::r) c hct hst
      exact m_ev (L:=fun k=>script_Find.l k (B s)) hs hr zu4 hct (hgo _ _ _ (by rw [hr];exact stepF_M h0 he) hok.1 hok.2)
     by_cases h2:st=2
     ·subst h2
      refine Ev.step (fun k => ?_) (hM zu4 zu19)
      rw [script_Find.l,if_neg zu25,if_pos (by rfl)]
     ·have hstep:∀ k,script_Find.l (k+1) (B s) (n:Int) (st:Int) (ct:Int)=(raw_Ends.f k (B s) (n:Int) (B scriptL)).bind fun e =>
        if e=true then some ((n:Int),(st:Int))
        else if (st:Int)=0 then (sign_Begins.f (B s) (n:Int) (B [60,33,45,45])).bind fun b=>if b=true then script_Find.l k (B s) (wrap64 ((n:Int)+4)) 1 2 else script_Find.l k (B s) (wrap64 ((n:Int)+1)) 0 (ct:Int)
        else script_Find.m k (script_Find.l k (B s)) (B s) (n:Int) (st:Int) (ct:Int):=by
       intro k
       rw [script_Find.l,if_neg zu25,if_neg zu4];rfl
      refine Ev.step hstep (Ev.bind (ends_ev s scriptL n hs (by simp [scriptL]) hn) ?_)
      rw [hr]
      cases he:endsL (c::r) scriptL with
      | true =>
        simp only [if_true]
        rw [findV_none (by rw [hr];simp only [stepF,if_pos (And.intro h2 he)])]
        exact Ev.now _
      | false =>
        have hne:¬ (st≠2∧endsL (c::r) scriptL=true):=by rw [he];simp
        simp only [Bool.false_eq_true,if_false]
        by_cases h0:st=0
        ·subst h0
         simp only [show (((0:Nat):Int)=0)=True by simp,if_true,begins_f s [60,33,45,45] n hs zu19 hn,Option.bind_some,hr]
         have w4:wrap64 ((n:Int)+4)=((n+4:Nat):Int):=by unfold wrap64;omega
         have w1:wrap64 ((n:Int)+1)=((n+1:Nat):Int):=by unfold wrap64;omega
         cases hb:begR (c::r) [60,33,45,45] with
         | true =>
           simp only [if_true,w4]
           exact hgo 4 1 2 (by rw [hr];simp only [stepF,if_neg hne,hb,if_true]) zu4 zu4
         | false =>
           simp only [Bool.false_eq_true,if_false,w1]
           exact hgo 1 0 ct (by rw [hr];simp only [stepF,if_neg hne,hb,Bool.false_eq_true,if_false,if_true]) zu4 zu4
        ·simp only [show ((st:Int)=0)=False by simp;omega,if_false]
         exact hM h0 hne
def clampN (n:Nat) (at_:Int):Nat:=if at_<0 then 0 else if (n:Int)<at_ then n else at_.toNat
theorem clampN_le (n:Nat) (a:Int):clampN n a≤n:=by unfold clampN;split<;>(try split)<;>omega
theorem clampN_1 (n:Nat) (a:Int):mn (mx a 0) (n:Int)=(clampN n a:Int):=by
 unfold clampN mn mx
 repeat' split
 all_goals omega
theorem find_f (s:List UInt8) (hs:s.length≤1000000) (a:Int):Ev (fun k=>script_Find.f k (B s) a) (findV s (clampN s.length a) 0 0):=by
 unfold script_Find.f
 simp only [size_B,clampN_1]
 exact find_l s hs _ _ 0 0 (Nat.le_refl _) (clampN_le _ _) zu4 zu4
end Pure
end

section
namespace Hand
open Go Go.RowKit K0 Pl Pb Sa Go.Proofs.YtclkdmmgibgamaaGreatDoor.Pure YtclkdmmgibgamaaGreatDoorW.PrintWords YtclkdmmgibgamaaGreatDoorW.PrintLast YtclkdmmgibgamaaGreatDoorW.PrintMore
abbrev inT (a0:ByteArray) (a1:Int):Prop:=a0.size≤100000∧0≤a1∧a1≤(a0.size:Int)
def atT (a0:ByteArray) (a1:Int):List UInt8:=a0.data.toList.drop a1.toNat
theorem inT_B {a0:ByteArray} {a1:Int} (h:inT a0 a1):∃ (s:List UInt8) (p:Nat),a0=B s∧a1=(p:Int)∧s.length≤100000∧p≤s.length∧atT a0 a1=s.drop p:=by
 obtain ⟨l,rfl⟩:=exists_B a0
 obtain ⟨h1,h2,h3⟩:=h
 rw [size_B] at h1 h3
 obtain ⟨p,rfl⟩:=Int.eq_ofNat_of_zero_le h2
 exact ⟨l,p,rfl,rfl,h1,zu4,by unfold atT;rw [B_data];rfl⟩
def tag_Begins.f (a0:ByteArray) (a1:Int):Option Bool:=if inT a0 a1 then some (tagN (atT a0 a1) != 0) else none
theorem tag_Begins.calls (a0:ByteArray) (a1:Int) (r:Bool) (w:World) (h:tag_Begins.f a0 a1=some r) :
  Calls Tryz.prog 70 #[.string a0,.int .i64 a1] w fun e w'=>e = .returned (.bool r)∧Below w.heap.size w w':=by
 obtain ⟨hc,h⟩:=hg_split h
 obtain ⟨s,p,rfl,rfl,hs,hp,ha⟩:=inT_B hc
 obtain rfl:=Option.some.inj h
 rw [ha]
 exact tagBegins_c s p hs hp w
def doctype_Begins.f (a0:ByteArray) (a1:Int):Option Bool:=if inT a0 a1 then some (begR (atT a0 a1) docL) else none
theorem doctype_Begins.calls (a0:ByteArray) (a1:Int) (r:Bool) (w:World) (h:doctype_Begins.f a0 a1=some r) :
  Calls Tryz.prog 74 #[.string a0,.int .i64 a1] w fun e w'=>e = .returned (.bool r)∧Below w.heap.size w w':=by
 obtain ⟨hc,h⟩:=hg_split h
 obtain ⟨s,p,rfl,rfl,hs,hp,ha⟩:=inT_B hc
 obtain rfl:=Option.some.inj h
 rw [ha]
 exact docBegins_c s p hs hp w
noncomputable def tkOut (n:Nat) (R:Option Tk×List UInt8):Int×ByteArray×ByteArray×List AtS×Bool×Int×Bool :=
 match R.1 with
 | none=>(0,⟨#[]⟩,⟨#[]⟩,[],false,((n - R.2.length:Nat):Int),false)
 | some t=>((tkC t).1,B (tkC t).2.1,B (tkC t).2.2.1,(tkC t).2.2.2.1.map ofT,(tkC t).2.2.2.2,((n - R.2.length:Nat):Int),true)
theorem tk_row {s:List UInt8} {R:Option Tk×List UInt8} {w w':World} {e:Ending} {r1:Int} {r2 r3:ByteArray} {r4:List AtS} {r5:Bool} {r6:Int} {r7:Bool} (h:TkRet s R w e w') (hR:tkOut s.length R=(r1,r2,r3,r4,r5,r6,r7)) :
  ∃ v3_:Value,e = .returned (.tuple #[.agg #[.int .i64 r1,.string r2,.string r3,v3_,.bool r5],.int .i64 r6,.bool r7])∧Kd.R atK 105 w' w.heap.size (fun _=>True) v3_ r4:=by
 obtain ⟨o,x⟩:=R
 unfold tkOut at hR
 unfold TkRet at h
 cases o with
 | none =>
   simp only [Prod.mk.injEq] at hR h
   obtain ⟨rfl,rfl,rfl,rfl,rfl,rfl,rfl⟩:=hR
   exact ⟨_,h,Kd.R_nil _ _ _ _ _⟩
 | some t =>
   simp only [Prod.mk.injEq] at hR h
   obtain ⟨rfl,rfl,rfl,rfl,rfl,rfl,rfl⟩:=hR
   obtain ⟨v,h1,h2⟩:=h
   exact ⟨v,h1,h2⟩
noncomputable def tag_Read.f (a0:ByteArray) (a1:Int):Option (Int×ByteArray×ByteArray×(List S105)×Bool×Int×Bool):=if inT a0 a1 then some (tkOut a0.size (tagR (atT a0 a1))) else none
theorem tag_Read.calls (a0:ByteArray) (a1:Int) (r1:Int) (r2:ByteArray) (r3:ByteArray) (r4:List (S105)) (r5:Bool) (r6:Int) (r7:Bool) (w:World) (hGl:Glob w) (h:tag_Read.f a0 a1=some (r1,r2,r3,r4,r5,r6,r7)) :
  Calls Tryz.prog 71 #[.string a0,.int .i64 a1] w fun e w' => ∃ v3_:Value,e = .returned (.tuple #[.agg #[.int .i64 r1,.string r2,.string r3,v3_,.bool r5],.int .i64 r6,.bool r7])∧Kd.R k105 105 w' w.heap.size (fun _=>True) v3_ r4∧Below w.heap.size w w':=by
 obtain ⟨hc,h⟩:=hg_split h
 obtain ⟨s,p,rfl,rfl,hs,hp,ha⟩:=inT_B hc
 have h:=Option.some.inj h
 rw [ha,size_B] at h
 refine (tagRead_c s p hs hp w hGl).mono fun e w' hr => ?_
 obtain ⟨v,h1,h2⟩:=tk_row hr.1 h
 exact ⟨v,h1,h2,hr.2⟩
noncomputable def doctype_Read.f (a0:ByteArray) (a1:Int):Option (Int×ByteArray×ByteArray×(List S105)×Bool×Int×Bool) :=
 if inT a0 a1 then (if begR (atT a0 a1) docL=true then some (tkOut a0.size (some (.doctype (cleanL (upto 62 ((atT a0 a1).drop 9)))),past 62 ((atT a0 a1).drop 9))) else none) else none
theorem doctype_Read.calls (a0:ByteArray) (a1:Int) (r1:Int) (r2:ByteArray) (r3:ByteArray) (r4:List (S105)) (r5:Bool) (r6:Int) (r7:Bool) (w:World) (hGl:Glob w) (h:doctype_Read.f a0 a1=some (r1,r2,r3,r4,r5,r6,r7)) :
  Calls Tryz.prog 75 #[.string a0,.int .i64 a1] w fun e w' => ∃ v3_:Value,e = .returned (.tuple #[.agg #[.int .i64 r1,.string r2,.string r3,v3_,.bool r5],.int .i64 r6,.bool r7])∧Kd.R k105 105 w' w.heap.size (fun _=>True) v3_ r4∧Below w.heap.size w w':=by
 obtain ⟨hc,h⟩:=hg_split h
 obtain ⟨s,p,rfl,rfl,hs,hp,ha⟩:=inT_B hc
 rw [ha] at h
 obtain ⟨hb,h⟩:=hg_split h
 have h:=Option.some.inj h
 rw [size_B] at h
 refine (docRead_c s p hs hp hb w hGl).mono fun e w' hr => ?_
 obtain ⟨v,h1,h2⟩:=tk_row hr.1 h
 exact ⟨v,h1,h2,hr.2⟩
theorem comment_Read.calls (a0:ByteArray) (a1:Int) (r1:Int) (r2:ByteArray) (r3:ByteArray) (r4:List (S105)) (r5:Bool) (r6:Int) (r7:Bool) (w:World) (hGl:Glob w) (h:comment_Read.f a0 a1=some (r1,r2,r3,r4,r5,r6,r7)) :
  Calls Tryz.prog 73 #[.string a0,.int .i64 a1] w fun e w' => ∃ v3_:Value,e = .returned (.tuple #[.agg #[.int .i64 r1,.string r2,.string r3,v3_,.bool r5],.int .i64 r6,.bool r7])∧Kd.R k105 105 w' w.heap.size (fun _=>True) v3_ r4∧Below w.heap.size w w':=by
 refine (comment_Read.exact a0 a1 r1 r2 r3 r4 r5 r6 r7 w hGl h).mono ?_
 rintro e w' ⟨h1,rfl,h2⟩
 exact ⟨_,h1,Kd.R_nil _ _ _ _ _,h2⟩
noncomputable def text_Read.f (a0:ByteArray) (a1:Int):Option (ByteArray×Int):=if inT a0 a1 then some (B (rdL false ((atT a0 a1).take (txN (atT a0 a1)))),((a1.toNat+txN (atT a0 a1):Nat):Int)) else none
theorem text_Read.calls (a0:ByteArray) (a1:Int) (r1:ByteArray) (r2:Int) (w:World) (hGl:Glob w) (h:text_Read.f a0 a1=some (r1,r2)) :
  Calls Tryz.prog 77 #[.string a0,.int .i64 a1] w fun e w'=>e = .returned (.tuple #[.string r1,.int .i64 r2])∧Below w.heap.size w w':=by
 obtain ⟨hc,h⟩:=hg_split h
 obtain ⟨s,p,rfl,rfl,hs,hp,ha⟩:=inT_B hc
 have h:=Option.some.inj h
 simp only [Prod.mk.injEq] at h
 obtain ⟨rfl,rfl⟩:=h
 rw [ha]
 exact txRead_c s p hs hp w hGl
noncomputable def ref_Decode.f (a0:ByteArray) (a1:Bool):Option ByteArray:=if a0.size≤100000 then some (B (rdL a1 a0.data.toList)) else none
theorem ref_Decode.calls (a0:ByteArray) (a1:Bool) (r:ByteArray) (w:World) (hGl:Glob w) (h:ref_Decode.f a0 a1=some r) :
  Calls Tryz.prog 113 #[.string a0,.bool a1] w fun e w'=>e = .returned (.string r)∧Below w.heap.size w w':=by
 obtain ⟨hc,h⟩:=hg_split h
 obtain rfl:=Option.some.inj h
 have:=rdecode_c a0.data.toList a1 (by rw [Array.length_toList];exact hc) w hGl hGl.toE
 rwa [← B_of] at this
def raw_Find.f (a0:ByteArray) (a1:Int) (a2:ByteArray):Option Int:=if a0.size≤1000000∧a2.size≤1000000 then some ((rawFind a0.data.toList (clN a0.size a1) a2.data.toList:Nat):Int) else none
theorem raw_Find.calls (a0:ByteArray) (a1:Int) (a2:ByteArray) (r:Int) (w:World) (hGl:Glob w) (h:raw_Find.f a0 a1 a2=some r) :
  Calls Tryz.prog 115 #[.string a0,.int .i64 a1,.string a2] w fun e w'=>e = .returned (.int .i64 r)∧Below w.heap.size w w':=by
 obtain ⟨⟨h1,h2⟩,h⟩:=hg_split h
 obtain rfl:=Option.some.inj h
 have:=rawFind_any a0.data.toList a2.data.toList a1 w hGl (by rw [Array.length_toList];exact h1) (by rw [Array.length_toList];exact h2)
 rw [← B_of,← B_of,Array.length_toList] at this
 exact this
end Hand
end

section
namespace Hand
open Go Go.RowKit Go.Maps Go.WideMaps K0 Pl Pb Sa Go.Proofs.YtclkdmmgibgamaaGreatDoor.Pure YtclkdmmgibgamaaGreatDoorW.PrintWords
theorem put_at {D:DataW Unit} (hD:IsMap D) (k:List UInt8) (x:List UInt8) (d z:DataW Unit):IsMap (D.put (.string k) d)∧(D.put (.string k) d).atKey (.string x) z=if x=k then d else D.atKey (.string x) z:=by
 refine ⟨by obtain ⟨es,rfl⟩:=hD;exact ⟨_,rfl⟩,?_⟩
 by_cases h:x=k
 ·subst h;rw [if_pos rfl];exact atKey_put_same hD (by trivial) d z
 ·rw [if_neg h];exact atKey_put_other (fun e=>h (by injection e)) d z
def stD:DataW Unit:=(((((((((((DataW.map []:DataW Unit).put (.string titleW) (.lit (.int .i64 1))).put (.string areaW) (.lit (.int .i64 1))).put (.string styleW) (.lit (.int .i64 2))).put (.string xmpW) (.lit (.int .i64 2))).put (.string iframeW) (.lit (.int .i64 2))).put (.string noembedW) (.lit (.int .i64 2))).put (.string noframesW) (.lit (.int .i64 2))).put (.string noscriptW) (.lit (.int .i64 2))).put (.string scriptL) (.lit (.int .i64 3))).put (.string plaintextW) (.lit (.int .i64 4)))
theorem st_look (x:List UInt8):stD.atKey (.string x) (.lit (.int .i64 0)) = .lit (.int .i64 ((stateN x:Nat):Int)):=by
 have m0:IsMap (DataW.map []:DataW Unit):=⟨_,rfl⟩
 obtain ⟨m1,e1⟩:=put_at m0 titleW x (.lit (.int .i64 1)) (.lit (.int .i64 0))
 obtain ⟨m2,e2⟩:=put_at m1 areaW x (.lit (.int .i64 1)) (.lit (.int .i64 0))
 obtain ⟨m3,e3⟩:=put_at m2 styleW x (.lit (.int .i64 2)) (.lit (.int .i64 0))
 obtain ⟨m4,e4⟩:=put_at m3 xmpW x (.lit (.int .i64 2)) (.lit (.int .i64 0))
 obtain ⟨m5,e5⟩:=put_at m4 iframeW x (.lit (.int .i64 2)) (.lit (.int .i64 0))
 obtain ⟨m6,e6⟩:=put_at m5 noembedW x (.lit (.int .i64 2)) (.lit (.int .i64 0))
 obtain ⟨m7,e7⟩:=put_at m6 noframesW x (.lit (.int .i64 2)) (.lit (.int .i64 0))
 obtain ⟨m8,e8⟩:=put_at m7 noscriptW x (.lit (.int .i64 2)) (.lit (.int .i64 0))
 obtain ⟨m9,e9⟩:=put_at m8 scriptL x (.lit (.int .i64 3)) (.lit (.int .i64 0))
 obtain ⟨m10,e10⟩:=put_at m9 plaintextW x (.lit (.int .i64 4)) (.lit (.int .i64 0))
 unfold stD
 rw [e10,e9,e8,e7,e6,e5,e4,e3,e2,e1]
 unfold stateN
 by_cases h_plaintextW:x=plaintextW
 ·subst h_plaintextW;rfl
 by_cases h_scriptL:x=scriptL
 ·subst h_scriptL;rfl
 by_cases h_noscriptW:x=noscriptW
 ·subst h_noscriptW;rfl
 by_cases h_noframesW:x=noframesW
 ·subst h_noframesW;rfl
 by_cases h_noembedW:x=noembedW
 ·subst h_noembedW;rfl
 by_cases h_iframeW:x=iframeW
 ·subst h_iframeW;rfl
 by_cases h_xmpW:x=xmpW
 ·subst h_xmpW;rfl
 by_cases h_styleW:x=styleW
 ·subst h_styleW;rfl
 by_cases h_areaW:x=areaW
 ·subst h_areaW;rfl
 by_cases h_titleW:x=titleW
 ·subst h_titleW;rfl
 simp only [h_titleW,h_areaW,h_styleW,h_xmpW,h_iframeW,h_noembedW,h_noframesW,h_noscriptW,h_scriptL,h_plaintextW,if_false,or_false]
 rfl
theorem zero3 (W:World):(zeroValue 3).run Tryz.prog W = .ok (.int .i64 0) W:=by kernel_rfl
theorem state_c (x:List UInt8) (hx:x.length≤1000000) (w:World) :
  Calls Tryz.prog 39 #[.string (B x)] w fun e w'=>e = .returned (.int .i64 ((stateN x:Nat):Int))∧Below w.heap.size w w':=by
 have law9:Keyed Tryz.prog 9:=string_keyed Tryz.underlying9
 have hmm:=@run_makeMap Tryz.prog
 have hkey:keyOf Tryz.prog 9 (.string (B x))=some (.string x):=by
  have:=keyOf_string_mk (P:=Tryz.prog) (k:=9) Tryz.underlying9 (s:=B x) (by rw [size_B];exact Nat.le_trans hx zu15)
  rwa [B_data] at this
 have hL:=Lib.hid (st_look x)
 have hB0:Below w.heap.size w (w.alloc (.map #[] 0)):=Below.alloc (Below.refl _ _) (Nat.le_refl _) _
 have hown0:(w.alloc (.map #[] 0)).ownsMap Tryz.prog 9 (plainElem (H:=Unit) Tryz.prog 3) w.heap.size 0 (.map []):=World.ownsMap_made w Tryz.prog 9 (plainElem (H:=Unit) Tryz.prog 3)
 obtain ⟨N,hN⟩:∃ N,stateN x=N:=⟨_,rfl⟩
 rw [hN] at hL ⊢
 obtain ⟨a,ha⟩:∃ a,B x=a:=⟨_,rfl⟩
 rw [ha] at hkey ⊢
 clear ha hN
 go_enter Tryz.func39,Tryz.ntmps39
 go_wp2_with (first
  | (refine wp_insert_own _ rfl (.tmp 3) (.const (.string ⟨#[116,105,116,108,101]⟩)) (.const (.int .i64 1)) 96 rfl 9 3 law9 Tryz.underlying96 (plainElem (H:=Unit) Tryz.prog 3) w.heap.size 0 _ rfl hown0 zu15 _ _ (.string titleW) rfl rfl (keyOf_string_mk Tryz.underlying9 zu15) _ [] (plainElem_int Tryz.underlying3 zu15) ?_;intro w1 hown1 hg1)
  | (refine wp_insert_own _ rfl (.tmp 3) (.const (.string ⟨#[116,101,120,116,97,114,101,97]⟩)) (.const (.int .i64 1)) 96 rfl 9 3 law9 Tryz.underlying96 (plainElem (H:=Unit) Tryz.prog 3) w.heap.size 1 _ rfl hown1 zu15 _ _ (.string areaW) rfl rfl (keyOf_string_mk Tryz.underlying9 zu15) _ [] (plainElem_int Tryz.underlying3 zu15) ?_;intro w2 hown2 hg2)
  | (refine wp_insert_own _ rfl (.tmp 3) (.const (.string ⟨#[115,116,121,108,101]⟩)) (.const (.int .i64 2)) 96 rfl 9 3 law9 Tryz.underlying96 (plainElem (H:=Unit) Tryz.prog 3) w.heap.size 2 _ rfl hown2 zu15 _ _ (.string styleW) rfl rfl (keyOf_string_mk Tryz.underlying9 zu15) _ [] (plainElem_int Tryz.underlying3 zu15) ?_;intro w3 hown3 hg3)
  | (refine wp_insert_own _ rfl (.tmp 3) (.const (.string ⟨#[120,109,112]⟩)) (.const (.int .i64 2)) 96 rfl 9 3 law9 Tryz.underlying96 (plainElem (H:=Unit) Tryz.prog 3) w.heap.size 3 _ rfl hown3 zu15 _ _ (.string xmpW) rfl rfl (keyOf_string_mk Tryz.underlying9 zu15) _ [] (plainElem_int Tryz.underlying3 zu15) ?_;intro w4 hown4 hg4)
  | (refine wp_insert_own _ rfl (.tmp 3) (.const (.string ⟨#[105,102,114,97,109,101]⟩)) (.const (.int .i64 2)) 96 rfl 9 3 law9 Tryz.underlying96 (plainElem (H:=Unit) Tryz.prog 3) w.heap.size 4 _ rfl hown4 zu15 _ _ (.string iframeW) rfl rfl (keyOf_string_mk Tryz.underlying9 zu15) _ [] (plainElem_int Tryz.underlying3 zu15) ?_;intro w5 hown5 hg5)
  | (refine wp_insert_own _ rfl (.tmp 3) (.const (.string ⟨#[110,111,101,109,98,101,100]⟩)) (.const (.int .i64 2)) 96 rfl 9 3 law9 Tryz.underlying96 (plainElem (H:=Unit) Tryz.prog 3) w.heap.size 5 _ rfl hown5 zu15 _ _ (.string noembedW) rfl rfl (keyOf_string_mk Tryz.underlying9 zu15) _ [] (plainElem_int Tryz.underlying3 zu15) ?_;intro w6 hown6 hg6)
  | (refine wp_insert_own _ rfl (.tmp 3) (.const (.string ⟨#[110,111,102,114,97,109,101,115]⟩)) (.const (.int .i64 2)) 96 rfl 9 3 law9 Tryz.underlying96 (plainElem (H:=Unit) Tryz.prog 3) w.heap.size 6 _ rfl hown6 zu15 _ _ (.string noframesW) rfl rfl (keyOf_string_mk Tryz.underlying9 zu15) _ [] (plainElem_int Tryz.underlying3 zu15) ?_;intro w7 hown7 hg7)
  | (refine wp_insert_own _ rfl (.tmp 3) (.const (.string ⟨#[110,111,115,99,114,105,112,116]⟩)) (.const (.int .i64 2)) 96 rfl 9 3 law9 Tryz.underlying96 (plainElem (H:=Unit) Tryz.prog 3) w.heap.size 7 _ rfl hown7 zu15 _ _ (.string noscriptW) rfl rfl (keyOf_string_mk Tryz.underlying9 zu15) _ [] (plainElem_int Tryz.underlying3 zu15) ?_;intro w8 hown8 hg8)
  | (refine wp_insert_own _ rfl (.tmp 3) (.const (.string ⟨#[115,99,114,105,112,116]⟩)) (.const (.int .i64 3)) 96 rfl 9 3 law9 Tryz.underlying96 (plainElem (H:=Unit) Tryz.prog 3) w.heap.size 8 _ rfl hown8 zu15 _ _ (.string scriptL) rfl rfl (keyOf_string_mk Tryz.underlying9 zu15) _ [] (plainElem_int Tryz.underlying3 zu15) ?_;intro w9 hown9 hg9)
  | (refine wp_insert_own _ rfl (.tmp 3) (.const (.string ⟨#[112,108,97,105,110,116,101,120,116]⟩)) (.const (.int .i64 4)) 96 rfl 9 3 law9 Tryz.underlying96 (plainElem (H:=Unit) Tryz.prog 3) w.heap.size 9 _ rfl hown9 zu15 _ _ (.string plaintextW) rfl rfl (keyOf_string_mk Tryz.underlying9 zu15) _ [] (plainElem_int Tryz.underlying3 zu15) ?_;intro w10 hown10 hg10)
  | (at_lookup;refine wpList_lookup_own_int _ rfl _ _ 96 rfl 9 3 .i64 law9 Tryz.underlying96 Tryz.underlying3 (zero3 _) w.heap.size 10 _ rfl hown10 _ _ rfl hkey ?_;intro c hat hwc)
  | go_in)
 have hB1:=hB0.grown hg1 hB0.size (fun j hj=>by cases hj;exact Nat.le_refl _)
 have hB2:=hB1.grown hg2 hB1.size (fun j hj=>by cases hj;exact Nat.le_refl _)
 have hB3:=hB2.grown hg3 hB2.size (fun j hj=>by cases hj;exact Nat.le_refl _)
 have hB4:=hB3.grown hg4 hB3.size (fun j hj=>by cases hj;exact Nat.le_refl _)
 have hB5:=hB4.grown hg5 hB4.size (fun j hj=>by cases hj;exact Nat.le_refl _)
 have hB6:=hB5.grown hg6 hB5.size (fun j hj=>by cases hj;exact Nat.le_refl _)
 have hB7:=hB6.grown hg7 hB6.size (fun j hj=>by cases hj;exact Nat.le_refl _)
 have hB8:=hB7.grown hg8 hB7.size (fun j hj=>by cases hj;exact Nat.le_refl _)
 have hB9:=hB8.grown hg9 hB8.size (fun j hj=>by cases hj;exact Nat.le_refl _)
 have hB10:=hB9.grown hg10 hB9.size (fun j hj=>by cases hj;exact Nat.le_refl _)
 have hc:(DataW.lit (.int .i64 (N:Int)):DataW Unit) = .lit (.int .i64 c):=hL.out.symm.trans hat
 have hc2:c=(N:Int):=by injection hc with h1;injection h1 with _ h2;exact h2.symm
 go_ret
 exact ⟨by rw [hc2];rfl,hB10⟩
end Hand
end

section
namespace St
open Go.RowKit K0 Hand Sa Si YtclkdmmgibgamaaGreatDoorW.PrintWords YtclkdmmgibgamaaGreatDoorW.PrintLast YtclkdmmgibgamaaGreatDoorW.PrintMore
attribute [local go_sem] max2_int min2_int max_two min_two max_three min_three max_four min_four  
set_option linter.unusedVariables false
set_option linter.unusedSimpArgs false
theorem info30:(Tryz.prog.info? 30).map (fun i=>(i.zero,i.size,i.bytes))=some (some (.agg #[(.int .i64 0),(.string ⟨#[]⟩),(.string ⟨#[]⟩),(.slice none 0 0),(.bool false)]),5,72):=by kernel_rfl
end St
end

section
namespace St
open Go.RowKit K0 Hand Sa Si YtclkdmmgibgamaaGreatDoorW.PrintWords YtclkdmmgibgamaaGreatDoorW.PrintLast YtclkdmmgibgamaaGreatDoorW.PrintMore
attribute [local go_sem] max2_int min2_int max_two min_two max_three min_three max_four min_four  
set_option linter.unusedVariables false
set_option linter.unusedSimpArgs false
noncomputable def tok_Next.f (a0:ByteArray) (a1:Int):Option (Int×ByteArray×ByteArray×(List (S105))×Bool×Int×Bool):=(tok_inside.f a0 a1).bind fun t102=>((tag_Begins.f a0 t102).bind fun t103=>(if t103=true then ((tag_Read.f a0 t102).bind fun bt104=>(some (bt104.1,bt104.2.1,bt104.2.2.1,bt104.2.2.2.1,bt104.2.2.2.2.1,bt104.2.2.2.2.2.1,bt104.2.2.2.2.2.2))) else ((comment_Begins.f a0 t102).bind fun t113=>(if t113=true then ((comment_Read.f a0 t102).bind fun bt114=>(some (bt114.1,bt114.2.1,bt114.2.2.1,bt114.2.2.2.1,bt114.2.2.2.2.1,bt114.2.2.2.2.2.1,bt114.2.2.2.2.2.2))) else ((doctype_Begins.f a0 t102).bind fun t123=>(if t123=true then ((doctype_Read.f a0 t102).bind fun bt124=>(some (bt124.1,bt124.2.1,bt124.2.2.1,bt124.2.2.2.1,bt124.2.2.2.2.1,bt124.2.2.2.2.2.1,bt124.2.2.2.2.2.2))) else ((sign_Begins.f a0 t102 (⟨#[60,47,62]⟩:ByteArray)).bind fun t133=>(if t133=true then (some (0,(⟨#[]⟩:ByteArray),(⟨#[]⟩:ByteArray),([]:List (S105)),false,wrap64 (t102+3),false)) else ((text_Read.f a0 t102).bind fun bt134=>(if bt134.2=t102 then (some (0,(⟨#[]⟩:ByteArray),(⟨#[]⟩:ByteArray),([]:List (S105)),false,t102,false)) else (some (0,(⟨#[]⟩:ByteArray),bt134.1,([]:List (S105)),false,bt134.2,true))))))))))))
theorem tok_Next.calls (a0:ByteArray) (a1:Int) (r1:Int) (r2:ByteArray) (r3:ByteArray) (r4:List (S105)) (r5:Bool) (r6:Int) (r7:Bool) (w:World) (hGl:Glob w) (h:tok_Next.f a0 a1=some (r1,r2,r3,r4,r5,r6,r7)) :
  Calls Tryz.prog 37 #[.string a0,.int .i64 a1] w fun e w' => ∃ v3_:Value,e = .returned (.tuple #[.agg #[.int .i64 r1,.string r2,.string r3,v3_,.bool r5],.int .i64 r6,.bool r7])∧Kd.R k105 105 w' w.heap.size (fun _=>True) v3_ r4∧Below w.heap.size w w':=by
 have hu30:=Tryz.underlying30
 have HB:=Aside0.mk (Below.refl w.heap.size w)
 have H:((tok_inside.f a0 a1).bind fun t102=>((tag_Begins.f a0 t102).bind fun t103=>(if t103=true then ((tag_Read.f a0 t102).bind fun bt104=>(some (bt104.1,bt104.2.1,bt104.2.2.1,bt104.2.2.2.1,bt104.2.2.2.2.1,bt104.2.2.2.2.2.1,bt104.2.2.2.2.2.2))) else ((comment_Begins.f a0 t102).bind fun t113=>(if t113=true then ((comment_Read.f a0 t102).bind fun bt114=>(some (bt114.1,bt114.2.1,bt114.2.2.1,bt114.2.2.2.1,bt114.2.2.2.2.1,bt114.2.2.2.2.2.1,bt114.2.2.2.2.2.2))) else ((doctype_Begins.f a0 t102).bind fun t123=>(if t123=true then ((doctype_Read.f a0 t102).bind fun bt124=>(some (bt124.1,bt124.2.1,bt124.2.2.1,bt124.2.2.2.1,bt124.2.2.2.2.1,bt124.2.2.2.2.2.1,bt124.2.2.2.2.2.2))) else ((sign_Begins.f a0 t102 (⟨#[60,47,62]⟩:ByteArray)).bind fun t133=>(if t133=true then (some (0,(⟨#[]⟩:ByteArray),(⟨#[]⟩:ByteArray),([]:List (S105)),false,wrap64 (t102+3),false)) else ((text_Read.f a0 t102).bind fun bt134=>(if bt134.2=t102 then (some (0,(⟨#[]⟩:ByteArray),(⟨#[]⟩:ByteArray),([]:List (S105)),false,t102,false)) else (some (0,(⟨#[]⟩:ByteArray),bt134.1,([]:List (S105)),false,bt134.2,true)))))))))))))=some (r1,r2,r3,r4,r5,r6,r7):=h
 clear h
 replace H:=Option.bind_eq_some_iff.mp H
 obtain ⟨t102,A30,H⟩:=H
 try dsimp only at H
 have A3:=Aside0.mk A30
 clear A30
 replace H:=Option.bind_eq_some_iff.mp H
 obtain ⟨t103,A40,H⟩:=H
 try dsimp only at H
 have A4:=Aside0.mk A40
 clear A40
 by_cases c5:t103=true
 ·subst c5
  rw [if_pos rfl] at H
  replace H:=Option.bind_eq_some_iff.mp H
  obtain ⟨⟨t104,t105,t106,t107,t110,t111,t112⟩,A60,H⟩:=H
  try dsimp only at H
  have A6:=Aside0.mk A60
  clear A60
  simp only [Option.some.injEq,Prod.mk.injEq] at H
  obtain ⟨rfl,rfl,rfl,rfl,rfl,rfl,rfl⟩:=H
  go_enter Tryz.func37,Tryz.ntmps37
  go_wp2_with (first | ((with_reducible refine gate_dst (N:=4) rfl ?_);refine box_event ?hg (N:=4) ?hd (cs := #[.int .i64 0,.string (⟨#[]⟩:ByteArray),.string (⟨#[]⟩:ByteArray),.slice none 0 0,.bool false]) (t:=30) ?hr ?_;(case hd=>rfl);(case hg=>rfl);(case hr=>first | (go_simp;done) | (go_simp;rfl));intro gb101 hg w7 hbox hb;have n0_:=Aside0.mk (below_step zu1 hb);have n1_:=Aside0.mk (hbox);have n2_:=Aside0.mk ((by rw [hg];exact (below_size zu1):w.heap.size≤gb101));have n3_:=Aside0.mk ((by rw [hg];exact (below_size zu1):w.heap.size≤gb101));clear HB;have HB:=n0_;have BK101:=n1_;have GW101:=n2_;have GE101:=n3_;clear n0_ n1_ n2_ n3_;clear hb hbox hg) | ((with_reducible refine gate_callee (f:=69) rfl ?_);refine goesL_ (some 10) rfl rfl Tryz.func69 zu13 rfl #[.string a0,.int .i64 a1] rfl zu2 ?_;(with_reducible refine (tok_inside.calls a0 a1 t102 _ A3.out).mono ?_);rintro e w8 ⟨rfl,hb⟩;refine ⟨_,rfl,?_⟩;have n0_:=Aside0.mk (blk_below (g:=gb101) (o:=.cells #[.int .i64 0,.string (⟨#[]⟩:ByteArray),.string (⟨#[]⟩:ByteArray),.slice none 0 0,.bool false] 30 (0,0)) zu8 hb);have n1_:=Aside0.mk (below_step zu3 hb);clear BK101;clear HB;have BK101:=n0_;have HB:=n1_;clear n0_ n1_;(try clear hb);(try clear hb2);(try clear hk);(try clear hi)) | ((with_reducible refine gate_callee (f:=70) rfl ?_);refine goesL_ (some 14) rfl rfl Tryz.func70 zu13 rfl #[.string a0,.int .i64 t102] rfl zu2 ?_;(with_reducible refine (tag_Begins.calls a0 t102 true _ A4.out).mono ?_);rintro e w9 ⟨rfl,hb⟩;refine ⟨_,rfl,?_⟩;have n0_:=Aside0.mk (blk_below (g:=gb101) (o:=.cells #[.int .i64 0,.string (⟨#[]⟩:ByteArray),.string (⟨#[]⟩:ByteArray),.slice none 0 0,.bool false] 30 (0,0)) zu8 hb);have n1_:=Aside0.mk (below_step zu3 hb);clear BK101;clear HB;have BK101:=n0_;have HB:=n1_;clear n0_ n1_;(try clear hb);(try clear hb2);(try clear hk);(try clear hi)) | ((with_reducible refine gate_callee (f:=71) rfl ?_);refine goesL_ (some 17) rfl rfl Tryz.func71 zu13 rfl #[.string a0,.int .i64 t102] rfl zu2 ?_;(with_reducible refine (tag_Read.calls a0 t102 t104 t105 t106 t107 t110 t111 t112 _ ?side1 A6.out).mono ?_);(case side1=>exact Glob.step hGl zu3);rintro e w10 ⟨v108,rfl,ho0,hb⟩;refine ⟨_,rfl,?_⟩;have n0_:=Aside0.mk (Kd.R_lower ho0 (below_size zu3));have n1_:=Aside0.mk (blk_below (g:=gb101) (o:=.cells #[.int .i64 0,.string (⟨#[]⟩:ByteArray),.string (⟨#[]⟩:ByteArray),.slice none 0 0,.bool false] 30 (0,0)) zu8 hb);have n2_:=Aside0.mk (below_step zu3 hb);clear BK101;clear HB;have HO109:=n0_;have BK101:=n1_;have HB:=n2_;clear n0_ n1_ n2_;(try clear hb);(try clear hb2);(try clear hk);(try clear hi);(try clear ho0);have hcz11_0:w10.cell? ⟨gb101,0,none⟩=some (.int .i64 0):=(blk_cell BK101.out 0).trans rfl;have hcz11_1:w10.cell? ⟨gb101,1,none⟩=some (.string (⟨#[]⟩:ByteArray)):=(blk_cell BK101.out 1).trans rfl;have hcz11_2:w10.cell? ⟨gb101,2,none⟩=some (.string (⟨#[]⟩:ByteArray)):=(blk_cell BK101.out 2).trans rfl;have hcz11_3:w10.cell? ⟨gb101,3,none⟩=some (.slice none 0 0):=(blk_cell BK101.out 3).trans rfl;have hcz11_4:w10.cell? ⟨gb101,4,none⟩=some (.bool false):=(blk_cell BK101.out 4).trans rfl;have hfz11_0:=blk_frozen BK101.out 0;have hfz11_1:=blk_frozen BK101.out 1;have hfz11_2:=blk_frozen BK101.out 2;have hfz11_3:=blk_frozen BK101.out 3;have hfz11_4:=blk_frozen BK101.out 4;obtain ⟨Ao12,co12,eo12⟩:=Kd.R_slice HO109.out;subst eo12))
  refine bodyPost_ret (results_ctt rfl _ _ gb101 30 #[.int .i64 t104,.string t105,.string t106,.slice Ao12 t107.length co12,.bool t110] (0,0) _ rfl (by (with_reducible repeat (first|refine blk_drewN ?_ _|refine blk_drew ?_|refine blk_alloc ?_ _));refine blk_put (cs := #[.int .i64 t104,.string t105,.string t106,.slice Ao12 t107.length co12,.bool false]) ?_ 4 _ rfl;(with_reducible repeat (first|refine blk_drewN ?_ _|refine blk_drew ?_|refine blk_alloc ?_ _));refine blk_put (cs := #[.int .i64 t104,.string t105,.string t106,.slice none 0 0,.bool false]) ?_ 3 _ rfl;(with_reducible repeat (first|refine blk_drewN ?_ _|refine blk_drew ?_|refine blk_alloc ?_ _));refine blk_put (cs := #[.int .i64 t104,.string t105,.string (⟨#[]⟩:ByteArray),.slice none 0 0,.bool false]) ?_ 2 _ rfl;(with_reducible repeat (first|refine blk_drewN ?_ _|refine blk_drew ?_|refine blk_alloc ?_ _));refine blk_put (cs := #[.int .i64 t104,.string (⟨#[]⟩:ByteArray),.string (⟨#[]⟩:ByteArray),.slice none 0 0,.bool false]) ?_ 1 _ rfl;(with_reducible repeat (first|refine blk_drewN ?_ _|refine blk_drew ?_|refine blk_alloc ?_ _));refine blk_put (cs := #[.int .i64 0,.string (⟨#[]⟩:ByteArray),.string (⟨#[]⟩:ByteArray),.slice none 0 0,.bool false]) ?_ 0 _ rfl;(with_reducible repeat (first|refine blk_drewN ?_ _|refine blk_drew ?_|refine blk_alloc ?_ _));exact BK101.out) Tryz.underlying30 rfl zu13) rfl ?_
  exact ⟨_,zu7,by (with_reducible repeat (first|apply Kd.R_alloc|apply Kd.R_drewN|apply Kd.R_drew));exact Kd.R_mono (Kd.R_far (p:=⟨gb101,4,none⟩) (Kd.R_far (p:=⟨gb101,3,none⟩) (Kd.R_far (p:=⟨gb101,2,none⟩) (Kd.R_far (p:=⟨gb101,1,none⟩) (Kd.R_far (p:=⟨gb101,0,none⟩) (Kd.R_types HO109.out BK101.out zu15) (fun _ hk=>hk.2) (.int .i64 t104)) (fun _ hk=>hk.2) (.string t105)) (fun _ hk=>hk.2) (.string t106)) (fun _ hk=>hk.2) (.slice Ao12 t107.length co12)) (fun _ hk=>hk.2) (.bool t110)) (fun _ hk=>trivial),zu3⟩
 ·replace c5:=Bool.eq_false_iff.mpr c5
  subst c5
  rw [if_neg (show ¬ (false=true) by decide)] at H
  replace H:=Option.bind_eq_some_iff.mp H
  obtain ⟨t113,A130,H⟩:=H
  try dsimp only at H
  have A13:=Aside0.mk A130
  clear A130
  by_cases c14:t113=true
  ·subst c14
   rw [if_pos rfl] at H
   replace H:=Option.bind_eq_some_iff.mp H
   obtain ⟨⟨t114,t115,t116,t117,t120,t121,t122⟩,A150,H⟩:=H
   try dsimp only at H
   have A15:=Aside0.mk A150
   clear A150
   simp only [Option.some.injEq,Prod.mk.injEq] at H
   obtain ⟨rfl,rfl,rfl,rfl,rfl,rfl,rfl⟩:=H
   go_enter Tryz.func37,Tryz.ntmps37
   go_wp2_with (first | ((with_reducible refine gate_dst (N:=4) rfl ?_);refine box_event ?hg (N:=4) ?hd (cs := #[.int .i64 0,.string (⟨#[]⟩:ByteArray),.string (⟨#[]⟩:ByteArray),.slice none 0 0,.bool false]) (t:=30) ?hr ?_;(case hd=>rfl);(case hg=>rfl);(case hr=>first | (go_simp;done) | (go_simp;rfl));intro gb101 hg w16 hbox hb;have n0_:=Aside0.mk (below_step zu1 hb);have n1_:=Aside0.mk (hbox);have n2_:=Aside0.mk ((by rw [hg];exact (below_size zu1):w.heap.size≤gb101));have n3_:=Aside0.mk ((by rw [hg];exact (below_size zu1):w.heap.size≤gb101));clear HB;have HB:=n0_;have BK101:=n1_;have GW101:=n2_;have GE101:=n3_;clear n0_ n1_ n2_ n3_;clear hb hbox hg) | ((with_reducible refine gate_callee (f:=69) rfl ?_);refine goesL_ (some 10) rfl rfl Tryz.func69 zu13 rfl #[.string a0,.int .i64 a1] rfl zu2 ?_;(with_reducible refine (tok_inside.calls a0 a1 t102 _ A3.out).mono ?_);rintro e w17 ⟨rfl,hb⟩;refine ⟨_,rfl,?_⟩;have n0_:=Aside0.mk (blk_below (g:=gb101) (o:=.cells #[.int .i64 0,.string (⟨#[]⟩:ByteArray),.string (⟨#[]⟩:ByteArray),.slice none 0 0,.bool false] 30 (0,0)) zu8 hb);have n1_:=Aside0.mk (below_step zu3 hb);clear BK101;clear HB;have BK101:=n0_;have HB:=n1_;clear n0_ n1_;(try clear hb);(try clear hb2);(try clear hk);(try clear hi)) | ((with_reducible refine gate_callee (f:=70) rfl ?_);refine goesL_ (some 14) rfl rfl Tryz.func70 zu13 rfl #[.string a0,.int .i64 t102] rfl zu2 ?_;(with_reducible refine (tag_Begins.calls a0 t102 false _ A4.out).mono ?_);rintro e w18 ⟨rfl,hb⟩;refine ⟨_,rfl,?_⟩;have n0_:=Aside0.mk (blk_below (g:=gb101) (o:=.cells #[.int .i64 0,.string (⟨#[]⟩:ByteArray),.string (⟨#[]⟩:ByteArray),.slice none 0 0,.bool false] 30 (0,0)) zu8 hb);have n1_:=Aside0.mk (below_step zu3 hb);clear BK101;clear HB;have BK101:=n0_;have HB:=n1_;clear n0_ n1_;(try clear hb);(try clear hb2);(try clear hk);(try clear hi)) | ((with_reducible refine gate_callee (f:=72) rfl ?_);refine goesL_ (some 24) rfl rfl Tryz.func72 zu13 rfl #[.string a0,.int .i64 t102] rfl zu2 ?_;(with_reducible refine (comment_Begins.calls a0 t102 true _ A13.out).mono ?_);rintro e w19 ⟨rfl,hb⟩;refine ⟨_,rfl,?_⟩;have n0_:=Aside0.mk (blk_below (g:=gb101) (o:=.cells #[.int .i64 0,.string (⟨#[]⟩:ByteArray),.string (⟨#[]⟩:ByteArray),.slice none 0 0,.bool false] 30 (0,0)) zu8 hb);have n1_:=Aside0.mk (below_step zu3 hb);clear BK101;clear HB;have BK101:=n0_;have HB:=n1_;clear n0_ n1_;(try clear hb);(try clear hb2);(try clear hk);(try clear hi)) | ((with_reducible refine gate_callee (f:=73) rfl ?_);refine goesL_ (some 27) rfl rfl Tryz.func73 zu13 rfl #[.string a0,.int .i64 t102] rfl zu2 ?_;(with_reducible refine (comment_Read.calls a0 t102 t114 t115 t116 t117 t120 t121 t122 _ ?side1 A15.out).mono ?_);(case side1=>exact Glob.step hGl zu3);rintro e w20 ⟨v118,rfl,ho0,hb⟩;refine ⟨_,rfl,?_⟩;have n0_:=Aside0.mk (Kd.R_lower ho0 (below_size zu3));have n1_:=Aside0.mk (blk_below (g:=gb101) (o:=.cells #[.int .i64 0,.string (⟨#[]⟩:ByteArray),.string (⟨#[]⟩:ByteArray),.slice none 0 0,.bool false] 30 (0,0)) zu8 hb);have n2_:=Aside0.mk (below_step zu3 hb);clear BK101;clear HB;have HO119:=n0_;have BK101:=n1_;have HB:=n2_;clear n0_ n1_ n2_;(try clear hb);(try clear hb2);(try clear hk);(try clear hi);(try clear ho0);have hcz21_0:w20.cell? ⟨gb101,0,none⟩=some (.int .i64 0):=(blk_cell BK101.out 0).trans rfl;have hcz21_1:w20.cell? ⟨gb101,1,none⟩=some (.string (⟨#[]⟩:ByteArray)):=(blk_cell BK101.out 1).trans rfl;have hcz21_2:w20.cell? ⟨gb101,2,none⟩=some (.string (⟨#[]⟩:ByteArray)):=(blk_cell BK101.out 2).trans rfl;have hcz21_3:w20.cell? ⟨gb101,3,none⟩=some (.slice none 0 0):=(blk_cell BK101.out 3).trans rfl;have hcz21_4:w20.cell? ⟨gb101,4,none⟩=some (.bool false):=(blk_cell BK101.out 4).trans rfl;have hfz21_0:=blk_frozen BK101.out 0;have hfz21_1:=blk_frozen BK101.out 1;have hfz21_2:=blk_frozen BK101.out 2;have hfz21_3:=blk_frozen BK101.out 3;have hfz21_4:=blk_frozen BK101.out 4;obtain ⟨Ao22,co22,eo22⟩:=Kd.R_slice HO119.out;subst eo22))
   refine bodyPost_ret (results_ctt rfl _ _ gb101 30 #[.int .i64 t114,.string t115,.string t116,.slice Ao22 t117.length co22,.bool t120] (0,0) _ rfl (by (with_reducible repeat (first|refine blk_drewN ?_ _|refine blk_drew ?_|refine blk_alloc ?_ _));refine blk_put (cs := #[.int .i64 t114,.string t115,.string t116,.slice Ao22 t117.length co22,.bool false]) ?_ 4 _ rfl;(with_reducible repeat (first|refine blk_drewN ?_ _|refine blk_drew ?_|refine blk_alloc ?_ _));refine blk_put (cs := #[.int .i64 t114,.string t115,.string t116,.slice none 0 0,.bool false]) ?_ 3 _ rfl;(with_reducible repeat (first|refine blk_drewN ?_ _|refine blk_drew ?_|refine blk_alloc ?_ _));refine blk_put (cs := #[.int .i64 t114,.string t115,.string (⟨#[]⟩:ByteArray),.slice none 0 0,.bool false]) ?_ 2 _ rfl;(with_reducible repeat (first|refine blk_drewN ?_ _|refine blk_drew ?_|refine blk_alloc ?_ _));refine blk_put (cs := #[.int .i64 t114,.string (⟨#[]⟩:ByteArray),.string (⟨#[]⟩:ByteArray),.slice none 0 0,.bool false]) ?_ 1 _ rfl;(with_reducible repeat (first|refine blk_drewN ?_ _|refine blk_drew ?_|refine blk_alloc ?_ _));refine blk_put (cs := #[.int .i64 0,.string (⟨#[]⟩:ByteArray),.string (⟨#[]⟩:ByteArray),.slice none 0 0,.bool false]) ?_ 0 _ rfl;(with_reducible repeat (first|refine blk_drewN ?_ _|refine blk_drew ?_|refine blk_alloc ?_ _));exact BK101.out) Tryz.underlying30 rfl zu13) rfl ?_
   exact ⟨_,zu7,by (with_reducible repeat (first|apply Kd.R_alloc|apply Kd.R_drewN|apply Kd.R_drew));exact Kd.R_mono (Kd.R_far (p:=⟨gb101,4,none⟩) (Kd.R_far (p:=⟨gb101,3,none⟩) (Kd.R_far (p:=⟨gb101,2,none⟩) (Kd.R_far (p:=⟨gb101,1,none⟩) (Kd.R_far (p:=⟨gb101,0,none⟩) (Kd.R_types HO119.out BK101.out zu15) (fun _ hk=>hk.2) (.int .i64 t114)) (fun _ hk=>hk.2) (.string t115)) (fun _ hk=>hk.2) (.string t116)) (fun _ hk=>hk.2) (.slice Ao22 t117.length co22)) (fun _ hk=>hk.2) (.bool t120)) (fun _ hk=>trivial),zu3⟩
  ·replace c14:=Bool.eq_false_iff.mpr c14
   subst c14
   rw [if_neg (show ¬ (false=true) by decide)] at H
   replace H:=Option.bind_eq_some_iff.mp H
   obtain ⟨t123,A230,H⟩:=H
   try dsimp only at H
   have A23:=Aside0.mk A230
   clear A230
   by_cases c24:t123=true
   ·subst c24
    rw [if_pos rfl] at H
    replace H:=Option.bind_eq_some_iff.mp H
    obtain ⟨⟨t124,t125,t126,t127,t130,t131,t132⟩,A250,H⟩:=H
    try dsimp only at H
    have A25:=Aside0.mk A250
    clear A250
    simp only [Option.some.injEq,Prod.mk.injEq] at H
    obtain ⟨rfl,rfl,rfl,rfl,rfl,rfl,rfl⟩:=H
    go_enter Tryz.func37,Tryz.ntmps37
    go_wp2_with (first | ((with_reducible refine gate_dst (N:=4) rfl ?_);refine box_event ?hg (N:=4) ?hd (cs := #[.int .i64 0,.string (⟨#[]⟩:ByteArray),.string (⟨#[]⟩:ByteArray),.slice none 0 0,.bool false]) (t:=30) ?hr ?_;(case hd=>rfl);(case hg=>rfl);(case hr=>first | (go_simp;done) | (go_simp;rfl));intro gb101 hg w26 hbox hb;have n0_:=Aside0.mk (below_step zu1 hb);have n1_:=Aside0.mk (hbox);have n2_:=Aside0.mk ((by rw [hg];exact (below_size zu1):w.heap.size≤gb101));have n3_:=Aside0.mk ((by rw [hg];exact (below_size zu1):w.heap.size≤gb101));clear HB;have HB:=n0_;have BK101:=n1_;have GW101:=n2_;have GE101:=n3_;clear n0_ n1_ n2_ n3_;clear hb hbox hg) | ((with_reducible refine gate_callee (f:=69) rfl ?_);refine goesL_ (some 10) rfl rfl Tryz.func69 zu13 rfl #[.string a0,.int .i64 a1] rfl zu2 ?_;(with_reducible refine (tok_inside.calls a0 a1 t102 _ A3.out).mono ?_);rintro e w27 ⟨rfl,hb⟩;refine ⟨_,rfl,?_⟩;have n0_:=Aside0.mk (blk_below (g:=gb101) (o:=.cells #[.int .i64 0,.string (⟨#[]⟩:ByteArray),.string (⟨#[]⟩:ByteArray),.slice none 0 0,.bool false] 30 (0,0)) zu8 hb);have n1_:=Aside0.mk (below_step zu3 hb);clear BK101;clear HB;have BK101:=n0_;have HB:=n1_;clear n0_ n1_;(try clear hb);(try clear hb2);(try clear hk);(try clear hi)) | ((with_reducible refine gate_callee (f:=70) rfl ?_);refine goesL_ (some 14) rfl rfl Tryz.func70 zu13 rfl #[.string a0,.int .i64 t102] rfl zu2 ?_;(with_reducible refine (tag_Begins.calls a0 t102 false _ A4.out).mono ?_);rintro e w28 ⟨rfl,hb⟩;refine ⟨_,rfl,?_⟩;have n0_:=Aside0.mk (blk_below (g:=gb101) (o:=.cells #[.int .i64 0,.string (⟨#[]⟩:ByteArray),.string (⟨#[]⟩:ByteArray),.slice none 0 0,.bool false] 30 (0,0)) zu8 hb);have n1_:=Aside0.mk (below_step zu3 hb);clear BK101;clear HB;have BK101:=n0_;have HB:=n1_;clear n0_ n1_;(try clear hb);(try clear hb2);(try clear hk);(try clear hi)) | ((with_reducible refine gate_callee (f:=72) rfl ?_);refine goesL_ (some 24) rfl rfl Tryz.func72 zu13 rfl #[.string a0,.int .i64 t102] rfl zu2 ?_;(with_reducible refine (comment_Begins.calls a0 t102 false _ A13.out).mono ?_);rintro e w29 ⟨rfl,hb⟩;refine ⟨_,rfl,?_⟩;have n0_:=Aside0.mk (blk_below (g:=gb101) (o:=.cells #[.int .i64 0,.string (⟨#[]⟩:ByteArray),.string (⟨#[]⟩:ByteArray),.slice none 0 0,.bool false] 30 (0,0)) zu8 hb);have n1_:=Aside0.mk (below_step zu3 hb);clear BK101;clear HB;have BK101:=n0_;have HB:=n1_;clear n0_ n1_;(try clear hb);(try clear hb2);(try clear hk);(try clear hi)) | ((with_reducible refine gate_callee (f:=74) rfl ?_);refine goesL_ (some 34) rfl rfl Tryz.func74 zu13 rfl #[.string a0,.int .i64 t102] rfl zu2 ?_;(with_reducible refine (doctype_Begins.calls a0 t102 true _ A23.out).mono ?_);rintro e w30 ⟨rfl,hb⟩;refine ⟨_,rfl,?_⟩;have n0_:=Aside0.mk (blk_below (g:=gb101) (o:=.cells #[.int .i64 0,.string (⟨#[]⟩:ByteArray),.string (⟨#[]⟩:ByteArray),.slice none 0 0,.bool false] 30 (0,0)) zu8 hb);have n1_:=Aside0.mk (below_step zu3 hb);clear BK101;clear HB;have BK101:=n0_;have HB:=n1_;clear n0_ n1_;(try clear hb);(try clear hb2);(try clear hk);(try clear hi)) | ((with_reducible refine gate_callee (f:=75) rfl ?_);refine goesL_ (some 37) rfl rfl Tryz.func75 zu13 rfl #[.string a0,.int .i64 t102] rfl zu2 ?_;(with_reducible refine (doctype_Read.calls a0 t102 t124 t125 t126 t127 t130 t131 t132 _ ?side1 A25.out).mono ?_);(case side1=>exact Glob.step hGl zu3);rintro e w31 ⟨v128,rfl,ho0,hb⟩;refine ⟨_,rfl,?_⟩;have n0_:=Aside0.mk (Kd.R_lower ho0 (below_size zu3));have n1_:=Aside0.mk (blk_below (g:=gb101) (o:=.cells #[.int .i64 0,.string (⟨#[]⟩:ByteArray),.string (⟨#[]⟩:ByteArray),.slice none 0 0,.bool false] 30 (0,0)) zu8 hb);have n2_:=Aside0.mk (below_step zu3 hb);clear BK101;clear HB;have HO129:=n0_;have BK101:=n1_;have HB:=n2_;clear n0_ n1_ n2_;(try clear hb);(try clear hb2);(try clear hk);(try clear hi);(try clear ho0);have hcz32_0:w31.cell? ⟨gb101,0,none⟩=some (.int .i64 0):=(blk_cell BK101.out 0).trans rfl;have hcz32_1:w31.cell? ⟨gb101,1,none⟩=some (.string (⟨#[]⟩:ByteArray)):=(blk_cell BK101.out 1).trans rfl;have hcz32_2:w31.cell? ⟨gb101,2,none⟩=some (.string (⟨#[]⟩:ByteArray)):=(blk_cell BK101.out 2).trans rfl;have hcz32_3:w31.cell? ⟨gb101,3,none⟩=some (.slice none 0 0):=(blk_cell BK101.out 3).trans rfl;have hcz32_4:w31.cell? ⟨gb101,4,none⟩=some (.bool false):=(blk_cell BK101.out 4).trans rfl;have hfz32_0:=blk_frozen BK101.out 0;have hfz32_1:=blk_frozen BK101.out 1;have hfz32_2:=blk_frozen BK101.out 2;have hfz32_3:=blk_frozen BK101.out 3;have hfz32_4:=blk_frozen BK101.out 4;obtain ⟨Ao33,co33,eo33⟩:=Kd.R_slice HO129.out;subst eo33))
    refine bodyPost_ret (results_ctt rfl _ _ gb101 30 #[.int .i64 t124,.string t125,.string t126,.slice Ao33 t127.length co33,.bool t130] (0,0) _ rfl (by (with_reducible repeat (first|refine blk_drewN ?_ _|refine blk_drew ?_|refine blk_alloc ?_ _));refine blk_put (cs := #[.int .i64 t124,.string t125,.string t126,.slice Ao33 t127.length co33,.bool false]) ?_ 4 _ rfl;(with_reducible repeat (first|refine blk_drewN ?_ _|refine blk_drew ?_|refine blk_alloc ?_ _));refine blk_put (cs := #[.int .i64 t124,.string t125,.string t126,.slice none 0 0,.bool false]) ?_ 3 _ rfl;(with_reducible repeat (first|refine blk_drewN ?_ _|refine blk_drew ?_|refine blk_alloc ?_ _));refine blk_put (cs := #[.int .i64 t124,.string t125,.string (⟨#[]⟩:ByteArray),.slice none 0 0,.bool false]) ?_ 2 _ rfl;(with_reducible repeat (first|refine blk_drewN ?_ _|refine blk_drew ?_|refine blk_alloc ?_ _));refine blk_put (cs := #[.int .i64 t124,.string (⟨#[]⟩:ByteArray),.string (⟨#[]⟩:ByteArray),.slice none 0 0,.bool false]) ?_ 1 _ rfl;(with_reducible repeat (first|refine blk_drewN ?_ _|refine blk_drew ?_|refine blk_alloc ?_ _));refine blk_put (cs := #[.int .i64 0,.string (⟨#[]⟩:ByteArray),.string (⟨#[]⟩:ByteArray),.slice none 0 0,.bool false]) ?_ 0 _ rfl;(with_reducible repeat (first|refine blk_drewN ?_ _|refine blk_drew ?_|refine blk_alloc ?_ _));exact BK101.out) Tryz.underlying30 rfl zu13) rfl ?_
    exact ⟨_,zu7,by (with_reducible repeat (first|apply Kd.R_alloc|apply Kd.R_drewN|apply Kd.R_drew));exact Kd.R_mono (Kd.R_far (p:=⟨gb101,4,none⟩) (Kd.R_far (p:=⟨gb101,3,none⟩) (Kd.R_far (p:=⟨gb101,2,none⟩) (Kd.R_far (p:=⟨gb101,1,none⟩) (Kd.R_far (p:=⟨gb101,0,none⟩) (Kd.R_types HO129.out BK101.out zu15) (fun _ hk=>hk.2) (.int .i64 t124)) (fun _ hk=>hk.2) (.string t125)) (fun _ hk=>hk.2) (.string t126)) (fun _ hk=>hk.2) (.slice Ao33 t127.length co33)) (fun _ hk=>hk.2) (.bool t130)) (fun _ hk=>trivial),zu3⟩
   ·replace c24:=Bool.eq_false_iff.mpr c24
    subst c24
    rw [if_neg (show ¬ (false=true) by decide)] at H
    replace H:=Option.bind_eq_some_iff.mp H
    obtain ⟨t133,A340,H⟩:=H
    try dsimp only at H
    have A34:=Aside0.mk A340
    clear A340
    by_cases c35:t133=true
    ·subst c35
     rw [if_pos rfl] at H
     simp only [Option.some.injEq,Prod.mk.injEq] at H
     obtain ⟨rfl,rfl,rfl,rfl,rfl,rfl,rfl⟩:=H
     go_enter Tryz.func37,Tryz.ntmps37
     go_wp2_with (first | ((with_reducible refine gate_dst (N:=4) rfl ?_);refine box_event ?hg (N:=4) ?hd (cs := #[.int .i64 0,.string (⟨#[]⟩:ByteArray),.string (⟨#[]⟩:ByteArray),.slice none 0 0,.bool false]) (t:=30) ?hr ?_;(case hd=>rfl);(case hg=>rfl);(case hr=>first | (go_simp;done) | (go_simp;rfl));intro gb101 hg w36 hbox hb;have n0_:=Aside0.mk (below_step zu1 hb);have n1_:=Aside0.mk (hbox);have n2_:=Aside0.mk ((by rw [hg];exact (below_size zu1):w.heap.size≤gb101));have n3_:=Aside0.mk ((by rw [hg];exact (below_size zu1):w.heap.size≤gb101));clear HB;have HB:=n0_;have BK101:=n1_;have GW101:=n2_;have GE101:=n3_;clear n0_ n1_ n2_ n3_;clear hb hbox hg) | ((with_reducible refine gate_callee (f:=69) rfl ?_);refine goesL_ (some 10) rfl rfl Tryz.func69 zu13 rfl #[.string a0,.int .i64 a1] rfl zu2 ?_;(with_reducible refine (tok_inside.calls a0 a1 t102 _ A3.out).mono ?_);rintro e w37 ⟨rfl,hb⟩;refine ⟨_,rfl,?_⟩;have n0_:=Aside0.mk (blk_below (g:=gb101) (o:=.cells #[.int .i64 0,.string (⟨#[]⟩:ByteArray),.string (⟨#[]⟩:ByteArray),.slice none 0 0,.bool false] 30 (0,0)) zu8 hb);have n1_:=Aside0.mk (below_step zu3 hb);clear BK101;clear HB;have BK101:=n0_;have HB:=n1_;clear n0_ n1_;(try clear hb);(try clear hb2);(try clear hk);(try clear hi)) | ((with_reducible refine gate_callee (f:=70) rfl ?_);refine goesL_ (some 14) rfl rfl Tryz.func70 zu13 rfl #[.string a0,.int .i64 t102] rfl zu2 ?_;(with_reducible refine (tag_Begins.calls a0 t102 false _ A4.out).mono ?_);rintro e w38 ⟨rfl,hb⟩;refine ⟨_,rfl,?_⟩;have n0_:=Aside0.mk (blk_below (g:=gb101) (o:=.cells #[.int .i64 0,.string (⟨#[]⟩:ByteArray),.string (⟨#[]⟩:ByteArray),.slice none 0 0,.bool false] 30 (0,0)) zu8 hb);have n1_:=Aside0.mk (below_step zu3 hb);clear BK101;clear HB;have BK101:=n0_;have HB:=n1_;clear n0_ n1_;(try clear hb);(try clear hb2);(try clear hk);(try clear hi)) | ((with_reducible refine gate_callee (f:=72) rfl ?_);refine goesL_ (some 24) rfl rfl Tryz.func72 zu13 rfl #[.string a0,.int .i64 t102] rfl zu2 ?_;(with_reducible refine (comment_Begins.calls a0 t102 false _ A13.out).mono ?_);rintro e w39 ⟨rfl,hb⟩;refine ⟨_,rfl,?_⟩;have n0_:=Aside0.mk (blk_below (g:=gb101) (o:=.cells #[.int .i64 0,.string (⟨#[]⟩:ByteArray),.string (⟨#[]⟩:ByteArray),.slice none 0 0,.bool false] 30 (0,0)) zu8 hb);have n1_:=Aside0.mk (below_step zu3 hb);clear BK101;clear HB;have BK101:=n0_;have HB:=n1_;clear n0_ n1_;(try clear hb);(try clear hb2);(try clear hk);(try clear hi)) | ((with_reducible refine gate_callee (f:=74) rfl ?_);refine goesL_ (some 34) rfl rfl Tryz.func74 zu13 rfl #[.string a0,.int .i64 t102] rfl zu2 ?_;(with_reducible refine (doctype_Begins.calls a0 t102 false _ A23.out).mono ?_);rintro e w40 ⟨rfl,hb⟩;refine ⟨_,rfl,?_⟩;have n0_:=Aside0.mk (blk_below (g:=gb101) (o:=.cells #[.int .i64 0,.string (⟨#[]⟩:ByteArray),.string (⟨#[]⟩:ByteArray),.slice none 0 0,.bool false] 30 (0,0)) zu8 hb);have n1_:=Aside0.mk (below_step zu3 hb);clear BK101;clear HB;have BK101:=n0_;have HB:=n1_;clear n0_ n1_;(try clear hb);(try clear hb2);(try clear hk);(try clear hi)) | ((with_reducible refine gate_callee (f:=76) rfl ?_);refine goesL_ (some 44) rfl rfl Tryz.func76 zu13 rfl #[.string a0,.int .i64 t102,.string (⟨#[60,47,62]⟩:ByteArray)] rfl zu2 ?_;(with_reducible refine (sign_Begins.calls a0 t102 (⟨#[60,47,62]⟩:ByteArray) true _ A34.out).mono ?_);rintro e w41 ⟨rfl,hb⟩;refine ⟨_,rfl,?_⟩;have n0_:=Aside0.mk (blk_below (g:=gb101) (o:=.cells #[.int .i64 0,.string (⟨#[]⟩:ByteArray),.string (⟨#[]⟩:ByteArray),.slice none 0 0,.bool false] 30 (0,0)) zu8 hb);have n1_:=Aside0.mk (below_step zu3 hb);clear BK101;clear HB;have BK101:=n0_;have HB:=n1_;clear n0_ n1_;(try clear hb);(try clear hb2);(try clear hk);(try clear hi);have hcz42_0:w41.cell? ⟨gb101,0,none⟩=some (.int .i64 0):=(blk_cell BK101.out 0).trans rfl;have hcz42_1:w41.cell? ⟨gb101,1,none⟩=some (.string (⟨#[]⟩:ByteArray)):=(blk_cell BK101.out 1).trans rfl;have hcz42_2:w41.cell? ⟨gb101,2,none⟩=some (.string (⟨#[]⟩:ByteArray)):=(blk_cell BK101.out 2).trans rfl;have hcz42_3:w41.cell? ⟨gb101,3,none⟩=some (.slice none 0 0):=(blk_cell BK101.out 3).trans rfl;have hcz42_4:w41.cell? ⟨gb101,4,none⟩=some (.bool false):=(blk_cell BK101.out 4).trans rfl;have hfz42_0:=blk_frozen BK101.out 0;have hfz42_1:=blk_frozen BK101.out 1;have hfz42_2:=blk_frozen BK101.out 2;have hfz42_3:=blk_frozen BK101.out 3;have hfz42_4:=blk_frozen BK101.out 4))
     refine bodyPost_ret (results_ctt rfl _ _ gb101 30 #[.int .i64 0,.string (⟨#[]⟩:ByteArray),.string (⟨#[]⟩:ByteArray),.slice none 0 0,.bool false] (0,0) _ rfl zu12 Tryz.underlying30 rfl zu13) rfl ?_
     exact zu22
    ·replace c35:=Bool.eq_false_iff.mpr c35
     subst c35
     rw [if_neg (show ¬ (false=true) by decide)] at H
     replace H:=Option.bind_eq_some_iff.mp H
     obtain ⟨⟨t134,t135⟩,A430,H⟩:=H
     try dsimp only at H
     have A43:=Aside0.mk A430
     clear A430
     by_cases c44:t135=t102
     ·rw [if_pos c44] at H
      have c44b0:(t135 == t102)=true:=beq_iff_eq.mpr c44
      have c44b1:(t135 != t102)=false:=bne_eq_false_iff_eq.mpr c44
      clear c44
      simp only [Option.some.injEq,Prod.mk.injEq] at H
      obtain ⟨rfl,rfl,rfl,rfl,rfl,rfl,rfl⟩:=H
      go_enter Tryz.func37,Tryz.ntmps37
      go_wp2_with (first | ((with_reducible refine gate_dst (N:=4) rfl ?_);refine box_event ?hg (N:=4) ?hd (cs := #[.int .i64 0,.string (⟨#[]⟩:ByteArray),.string (⟨#[]⟩:ByteArray),.slice none 0 0,.bool false]) (t:=30) ?hr ?_;(case hd=>rfl);(case hg=>rfl);(case hr=>first | (go_simp;done) | (go_simp;rfl));intro gb101 hg w45 hbox hb;have n0_:=Aside0.mk (below_step zu1 hb);have n1_:=Aside0.mk (hbox);have n2_:=Aside0.mk ((by rw [hg];exact (below_size zu1):w.heap.size≤gb101));have n3_:=Aside0.mk ((by rw [hg];exact (below_size zu1):w.heap.size≤gb101));clear HB;have HB:=n0_;have BK101:=n1_;have GW101:=n2_;have GE101:=n3_;clear n0_ n1_ n2_ n3_;clear hb hbox hg) | ((with_reducible refine gate_callee (f:=69) rfl ?_);refine goesL_ (some 10) rfl rfl Tryz.func69 zu13 rfl #[.string a0,.int .i64 a1] rfl zu2 ?_;(with_reducible refine (tok_inside.calls a0 a1 t102 _ A3.out).mono ?_);rintro e w46 ⟨rfl,hb⟩;refine ⟨_,rfl,?_⟩;have n0_:=Aside0.mk (blk_below (g:=gb101) (o:=.cells #[.int .i64 0,.string (⟨#[]⟩:ByteArray),.string (⟨#[]⟩:ByteArray),.slice none 0 0,.bool false] 30 (0,0)) zu8 hb);have n1_:=Aside0.mk (below_step zu3 hb);clear BK101;clear HB;have BK101:=n0_;have HB:=n1_;clear n0_ n1_;(try clear hb);(try clear hb2);(try clear hk);(try clear hi)) | ((with_reducible refine gate_callee (f:=70) rfl ?_);refine goesL_ (some 14) rfl rfl Tryz.func70 zu13 rfl #[.string a0,.int .i64 t102] rfl zu2 ?_;(with_reducible refine (tag_Begins.calls a0 t102 false _ A4.out).mono ?_);rintro e w47 ⟨rfl,hb⟩;refine ⟨_,rfl,?_⟩;have n0_:=Aside0.mk (blk_below (g:=gb101) (o:=.cells #[.int .i64 0,.string (⟨#[]⟩:ByteArray),.string (⟨#[]⟩:ByteArray),.slice none 0 0,.bool false] 30 (0,0)) zu8 hb);have n1_:=Aside0.mk (below_step zu3 hb);clear BK101;clear HB;have BK101:=n0_;have HB:=n1_;clear n0_ n1_;(try clear hb);(try clear hb2);(try clear hk);(try clear hi)) | ((with_reducible refine gate_callee (f:=72) rfl ?_);refine goesL_ (some 24) rfl rfl Tryz.func72 zu13 rfl #[.string a0,.int .i64 t102] rfl zu2 ?_;(with_reducible refine (comment_Begins.calls a0 t102 false _ A13.out).mono ?_);rintro e w48 ⟨rfl,hb⟩;refine ⟨_,rfl,?_⟩;have n0_:=Aside0.mk (blk_below (g:=gb101) (o:=.cells #[.int .i64 0,.string (⟨#[]⟩:ByteArray),.string (⟨#[]⟩:ByteArray),.slice none 0 0,.bool false] 30 (0,0)) zu8 hb);have n1_:=Aside0.mk (below_step zu3 hb);clear BK101;clear HB;have BK101:=n0_;have HB:=n1_;clear n0_ n1_;(try clear hb);(try clear hb2);(try clear hk);(try clear hi)) | ((with_reducible refine gate_callee (f:=74) rfl ?_);refine goesL_ (some 34) rfl rfl Tryz.func74 zu13 rfl #[.string a0,.int .i64 t102] rfl zu2 ?_;(with_reducible refine (doctype_Begins.calls a0 t102 false _ A23.out).mono ?_);rintro e w49 ⟨rfl,hb⟩;refine ⟨_,rfl,?_⟩;have n0_:=Aside0.mk (blk_below (g:=gb101) (o:=.cells #[.int .i64 0,.string (⟨#[]⟩:ByteArray),.string (⟨#[]⟩:ByteArray),.slice none 0 0,.bool false] 30 (0,0)) zu8 hb);have n1_:=Aside0.mk (below_step zu3 hb);clear BK101;clear HB;have BK101:=n0_;have HB:=n1_;clear n0_ n1_;(try clear hb);(try clear hb2);(try clear hk);(try clear hi)) | ((with_reducible refine gate_callee (f:=76) rfl ?_);refine goesL_ (some 44) rfl rfl Tryz.func76 zu13 rfl #[.string a0,.int .i64 t102,.string (⟨#[60,47,62]⟩:ByteArray)] rfl zu2 ?_;(with_reducible refine (sign_Begins.calls a0 t102 (⟨#[60,47,62]⟩:ByteArray) false _ A34.out).mono ?_);rintro e w50 ⟨rfl,hb⟩;refine ⟨_,rfl,?_⟩;have n0_:=Aside0.mk (blk_below (g:=gb101) (o:=.cells #[.int .i64 0,.string (⟨#[]⟩:ByteArray),.string (⟨#[]⟩:ByteArray),.slice none 0 0,.bool false] 30 (0,0)) zu8 hb);have n1_:=Aside0.mk (below_step zu3 hb);clear BK101;clear HB;have BK101:=n0_;have HB:=n1_;clear n0_ n1_;(try clear hb);(try clear hb2);(try clear hk);(try clear hi)) | ((with_reducible refine gate_callee (f:=77) rfl ?_);refine goesL_ (some 51) rfl rfl Tryz.func77 zu13 rfl #[.string a0,.int .i64 t102] rfl zu2 ?_;(with_reducible refine (text_Read.calls a0 t102 t134 t135 _ ?side1 A43.out).mono ?_);(case side1=>exact Glob.step hGl zu3);rintro e w51 ⟨rfl,hb⟩;refine ⟨_,rfl,?_⟩;have n0_:=Aside0.mk (blk_below (g:=gb101) (o:=.cells #[.int .i64 0,.string (⟨#[]⟩:ByteArray),.string (⟨#[]⟩:ByteArray),.slice none 0 0,.bool false] 30 (0,0)) zu8 hb);have n1_:=Aside0.mk (below_step zu3 hb);clear BK101;clear HB;have BK101:=n0_;have HB:=n1_;clear n0_ n1_;(try clear hb);(try clear hb2);(try clear hk);(try clear hi);have hcz52_0:w51.cell? ⟨gb101,0,none⟩=some (.int .i64 0):=(blk_cell BK101.out 0).trans rfl;have hcz52_1:w51.cell? ⟨gb101,1,none⟩=some (.string (⟨#[]⟩:ByteArray)):=(blk_cell BK101.out 1).trans rfl;have hcz52_2:w51.cell? ⟨gb101,2,none⟩=some (.string (⟨#[]⟩:ByteArray)):=(blk_cell BK101.out 2).trans rfl;have hcz52_3:w51.cell? ⟨gb101,3,none⟩=some (.slice none 0 0):=(blk_cell BK101.out 3).trans rfl;have hcz52_4:w51.cell? ⟨gb101,4,none⟩=some (.bool false):=(blk_cell BK101.out 4).trans rfl;have hfz52_0:=blk_frozen BK101.out 0;have hfz52_1:=blk_frozen BK101.out 1;have hfz52_2:=blk_frozen BK101.out 2;have hfz52_3:=blk_frozen BK101.out 3;have hfz52_4:=blk_frozen BK101.out 4))
      refine bodyPost_ret (results_ctt rfl _ _ gb101 30 #[.int .i64 0,.string (⟨#[]⟩:ByteArray),.string (⟨#[]⟩:ByteArray),.slice none 0 0,.bool false] (0,0) _ rfl zu12 Tryz.underlying30 rfl zu13) rfl ?_
      exact zu22
     ·rw [if_neg c44] at H
      have c44b0:(t135 == t102)=false:=beq_eq_false_iff_ne.mpr c44
      have c44b1:(t135 != t102)=true:=bne_iff_ne.mpr c44
      simp only [Option.some.injEq,Prod.mk.injEq] at H
      obtain ⟨rfl,rfl,rfl,rfl,rfl,rfl,rfl⟩:=H
      go_enter Tryz.func37,Tryz.ntmps37
      go_wp2_with (first | ((with_reducible refine gate_dst (N:=4) rfl ?_);refine box_event ?hg (N:=4) ?hd (cs := #[.int .i64 0,.string (⟨#[]⟩:ByteArray),.string (⟨#[]⟩:ByteArray),.slice none 0 0,.bool false]) (t:=30) ?hr ?_;(case hd=>rfl);(case hg=>rfl);(case hr=>first | (go_simp;done) | (go_simp;rfl));intro gb101 hg w53 hbox hb;have n0_:=Aside0.mk (below_step zu1 hb);have n1_:=Aside0.mk (hbox);have n2_:=Aside0.mk ((by rw [hg];exact (below_size zu1):w.heap.size≤gb101));have n3_:=Aside0.mk ((by rw [hg];exact (below_size zu1):w.heap.size≤gb101));clear HB;have HB:=n0_;have BK101:=n1_;have GW101:=n2_;have GE101:=n3_;clear n0_ n1_ n2_ n3_;clear hb hbox hg) | ((with_reducible refine gate_callee (f:=69) rfl ?_);refine goesL_ (some 10) rfl rfl Tryz.func69 zu13 rfl #[.string a0,.int .i64 a1] rfl zu2 ?_;(with_reducible refine (tok_inside.calls a0 a1 t102 _ A3.out).mono ?_);rintro e w54 ⟨rfl,hb⟩;refine ⟨_,rfl,?_⟩;have n0_:=Aside0.mk (blk_below (g:=gb101) (o:=.cells #[.int .i64 0,.string (⟨#[]⟩:ByteArray),.string (⟨#[]⟩:ByteArray),.slice none 0 0,.bool false] 30 (0,0)) zu8 hb);have n1_:=Aside0.mk (below_step zu3 hb);clear BK101;clear HB;have BK101:=n0_;have HB:=n1_;clear n0_ n1_;(try clear hb);(try clear hb2);(try clear hk);(try clear hi)) | ((with_reducible refine gate_callee (f:=70) rfl ?_);refine goesL_ (some 14) rfl rfl Tryz.func70 zu13 rfl #[.string a0,.int .i64 t102] rfl zu2 ?_;(with_reducible refine (tag_Begins.calls a0 t102 false _ A4.out).mono ?_);rintro e w55 ⟨rfl,hb⟩;refine ⟨_,rfl,?_⟩;have n0_:=Aside0.mk (blk_below (g:=gb101) (o:=.cells #[.int .i64 0,.string (⟨#[]⟩:ByteArray),.string (⟨#[]⟩:ByteArray),.slice none 0 0,.bool false] 30 (0,0)) zu8 hb);have n1_:=Aside0.mk (below_step zu3 hb);clear BK101;clear HB;have BK101:=n0_;have HB:=n1_;clear n0_ n1_;(try clear hb);(try clear hb2);(try clear hk);(try clear hi)) | ((with_reducible refine gate_callee (f:=72) rfl ?_);refine goesL_ (some 24) rfl rfl Tryz.func72 zu13 rfl #[.string a0,.int .i64 t102] rfl zu2 ?_;(with_reducible refine (comment_Begins.calls a0 t102 false _ A13.out).mono ?_);rintro e w56 ⟨rfl,hb⟩;refine ⟨_,rfl,?_⟩;have n0_:=Aside0.mk (blk_below (g:=gb101) (o:=.cells #[.int .i64 0,.string (⟨#[]⟩:ByteArray),.string (⟨#[]⟩:ByteArray),.slice none 0 0,.bool false] 30 (0,0)) zu8 hb);have n1_:=Aside0.mk (below_step zu3 hb);clear BK101;clear HB;have BK101:=n0_;have HB:=n1_;clear n0_ n1_;(try clear hb);(try clear hb2);(try clear hk);(try clear hi)) | ((with_reducible refine gate_callee (f:=74) rfl ?_);refine goesL_ (some 34) rfl rfl Tryz.func74 zu13 rfl #[.string a0,.int .i64 t102] rfl zu2 ?_;(with_reducible refine (doctype_Begins.calls a0 t102 false _ A23.out).mono ?_);rintro e w57 ⟨rfl,hb⟩;refine ⟨_,rfl,?_⟩;have n0_:=Aside0.mk (blk_below (g:=gb101) (o:=.cells #[.int .i64 0,.string (⟨#[]⟩:ByteArray),.string (⟨#[]⟩:ByteArray),.slice none 0 0,.bool false] 30 (0,0)) zu8 hb);have n1_:=Aside0.mk (below_step zu3 hb);clear BK101;clear HB;have BK101:=n0_;have HB:=n1_;clear n0_ n1_;(try clear hb);(try clear hb2);(try clear hk);(try clear hi)) | ((with_reducible refine gate_callee (f:=76) rfl ?_);refine goesL_ (some 44) rfl rfl Tryz.func76 zu13 rfl #[.string a0,.int .i64 t102,.string (⟨#[60,47,62]⟩:ByteArray)] rfl zu2 ?_;(with_reducible refine (sign_Begins.calls a0 t102 (⟨#[60,47,62]⟩:ByteArray) false _ A34.out).mono ?_);rintro e w58 ⟨rfl,hb⟩;refine ⟨_,rfl,?_⟩;have n0_:=Aside0.mk (blk_below (g:=gb101) (o:=.cells #[.int .i64 0,.string (⟨#[]⟩:ByteArray),.string (⟨#[]⟩:ByteArray),.slice none 0 0,.bool false] 30 (0,0)) zu8 hb);have n1_:=Aside0.mk (below_step zu3 hb);clear BK101;clear HB;have BK101:=n0_;have HB:=n1_;clear n0_ n1_;(try clear hb);(try clear hb2);(try clear hk);(try clear hi)) | ((with_reducible refine gate_callee (f:=77) rfl ?_);refine goesL_ (some 51) rfl rfl Tryz.func77 zu13 rfl #[.string a0,.int .i64 t102] rfl zu2 ?_;(with_reducible refine (text_Read.calls a0 t102 t134 t135 _ ?side1 A43.out).mono ?_);(case side1=>exact Glob.step hGl zu3);rintro e w59 ⟨rfl,hb⟩;refine ⟨_,rfl,?_⟩;have n0_:=Aside0.mk (blk_below (g:=gb101) (o:=.cells #[.int .i64 0,.string (⟨#[]⟩:ByteArray),.string (⟨#[]⟩:ByteArray),.slice none 0 0,.bool false] 30 (0,0)) zu8 hb);have n1_:=Aside0.mk (below_step zu3 hb);clear BK101;clear HB;have BK101:=n0_;have HB:=n1_;clear n0_ n1_;(try clear hb);(try clear hb2);(try clear hk);(try clear hi);have hcz60_0:w59.cell? ⟨gb101,0,none⟩=some (.int .i64 0):=(blk_cell BK101.out 0).trans rfl;have hcz60_1:w59.cell? ⟨gb101,1,none⟩=some (.string (⟨#[]⟩:ByteArray)):=(blk_cell BK101.out 1).trans rfl;have hcz60_2:w59.cell? ⟨gb101,2,none⟩=some (.string (⟨#[]⟩:ByteArray)):=(blk_cell BK101.out 2).trans rfl;have hcz60_3:w59.cell? ⟨gb101,3,none⟩=some (.slice none 0 0):=(blk_cell BK101.out 3).trans rfl;have hcz60_4:w59.cell? ⟨gb101,4,none⟩=some (.bool false):=(blk_cell BK101.out 4).trans rfl;have hfz60_0:=blk_frozen BK101.out 0;have hfz60_1:=blk_frozen BK101.out 1;have hfz60_2:=blk_frozen BK101.out 2;have hfz60_3:=blk_frozen BK101.out 3;have hfz60_4:=blk_frozen BK101.out 4))
      refine bodyPost_ret (results_ctt rfl _ _ gb101 30 #[.int .i64 0,.string (⟨#[]⟩:ByteArray),.string t134,.slice none 0 0,.bool false] (0,0) _ rfl (by (with_reducible repeat (first|refine blk_drewN ?_ _|refine blk_drew ?_|refine blk_alloc ?_ _));refine blk_put (cs := #[.int .i64 0,.string (⟨#[]⟩:ByteArray),.string t134,.slice none 0 0,.bool false]) ?_ 4 _ rfl;(with_reducible repeat (first|refine blk_drewN ?_ _|refine blk_drew ?_|refine blk_alloc ?_ _));refine blk_put (cs := #[.int .i64 0,.string (⟨#[]⟩:ByteArray),.string t134,.slice none 0 0,.bool false]) ?_ 3 _ rfl;(with_reducible repeat (first|refine blk_drewN ?_ _|refine blk_drew ?_|refine blk_alloc ?_ _));refine blk_put (cs := #[.int .i64 0,.string (⟨#[]⟩:ByteArray),.string (⟨#[]⟩:ByteArray),.slice none 0 0,.bool false]) ?_ 2 _ rfl;(with_reducible repeat (first|refine blk_drewN ?_ _|refine blk_drew ?_|refine blk_alloc ?_ _));refine blk_put (cs := #[.int .i64 0,.string (⟨#[]⟩:ByteArray),.string (⟨#[]⟩:ByteArray),.slice none 0 0,.bool false]) ?_ 1 _ rfl;(with_reducible repeat (first|refine blk_drewN ?_ _|refine blk_drew ?_|refine blk_alloc ?_ _));refine blk_put (cs := #[.int .i64 0,.string (⟨#[]⟩:ByteArray),.string (⟨#[]⟩:ByteArray),.slice none 0 0,.bool false]) ?_ 0 _ rfl;(with_reducible repeat (first|refine blk_drewN ?_ _|refine blk_drew ?_|refine blk_alloc ?_ _));exact BK101.out) Tryz.underlying30 rfl zu13) rfl ?_
      exact zu22
noncomputable def raw_Text.f (a0:ByteArray) (a1:Bool):Option (ByteArray):=if a1=true then ((ref_Decode.f a0 false).bind fun t136=>((lines_Clean.f t136).bind fun t137=>(some t137))) else ((lines_Clean.f a0).bind fun t138=>(some t138))
theorem raw_Text.calls (a0:ByteArray) (a1:Bool) (r:ByteArray) (w:World) (hGl:Glob w) (h:raw_Text.f a0 a1=some r) :
  Calls Tryz.prog 117 #[.string a0,.bool a1] w fun e w'=>e = .returned (.string r)∧Below w.heap.size w w':=by
 have HB:=Aside0.mk (Below.refl w.heap.size w)
 have H:(if a1=true then ((ref_Decode.f a0 false).bind fun t136=>((lines_Clean.f t136).bind fun t137=>(some t137))) else ((lines_Clean.f a0).bind fun t138=>(some t138)))=some r:=h
 clear h
 by_cases c3:a1=true
 ·subst c3
  rw [if_pos rfl] at H
  replace H:=Option.bind_eq_some_iff.mp H
  obtain ⟨t136,A40,H⟩:=H
  try dsimp only at H
  have A4:=Aside0.mk A40
  clear A40
  replace H:=Option.bind_eq_some_iff.mp H
  obtain ⟨t137,A50,H⟩:=H
  replace H:(some t137)=some r:=H
  have A5:=Aside0.mk A50
  clear A50
  obtain rfl:=Option.some.inj H
  go_enter Tryz.func117,Tryz.ntmps117
  go_wp2_with (first | ((with_reducible refine gate_callee (f:=113) rfl ?_);refine goesL_ (some 7) rfl rfl Tryz.func113 zu13 rfl #[.string a0,.bool false] rfl zu2 ?_;(with_reducible refine (ref_Decode.calls a0 false t136 _ ?side1 A4.out).mono ?_);(case side1=>exact Glob.step hGl zu1);rintro e w6 ⟨rfl,hb⟩;refine ⟨_,rfl,?_⟩;have n0_:=Aside0.mk (below_step zu1 hb);clear HB;have HB:=n0_;clear n0_;(try clear hb);(try clear hb2);(try clear hk);(try clear hi)) | ((with_reducible refine gate_callee (f:=32) rfl ?_);refine goesL_ (some 9) rfl rfl Tryz.func32 zu13 rfl #[.string t136] rfl zu2 ?_;(with_reducible refine (lines_Clean.calls t136 t137 _ ?side1 A5.out).mono ?_);(case side1=>exact Glob.step hGl zu1);rintro e w7 ⟨rfl,hb⟩;refine ⟨_,rfl,?_⟩;have n0_:=Aside0.mk (below_step zu1 hb);clear HB;have HB:=n0_;clear n0_;(try clear hb);(try clear hb2);(try clear hk);(try clear hi)))
  go_ret
  exact zu5
 ·replace c3:=Bool.eq_false_iff.mpr c3
  subst c3
  rw [if_neg (show ¬ (false=true) by decide)] at H
  replace H:=Option.bind_eq_some_iff.mp H
  obtain ⟨t138,A80,H⟩:=H
  replace H:(some t138)=some r:=H
  have A8:=Aside0.mk A80
  clear A80
  obtain rfl:=Option.some.inj H
  go_enter Tryz.func117,Tryz.ntmps117
  go_wp2_with (first | ((with_reducible refine gate_callee (f:=32) rfl ?_);refine goesL_ (some 9) rfl rfl Tryz.func32 zu13 rfl #[.string a0] rfl zu2 ?_;(with_reducible refine (lines_Clean.calls a0 t138 _ ?side1 A8.out).mono ?_);(case side1=>exact Glob.step hGl zu1);rintro e w9 ⟨rfl,hb⟩;refine ⟨_,rfl,?_⟩;have n0_:=Aside0.mk (below_step zu1 hb);clear HB;have HB:=n0_;clear n0_;(try clear hb);(try clear hb2);(try clear hk);(try clear hi)))
  go_ret
  exact zu5
noncomputable def tok_ends.j0:Nat→ByteArray→Int→Int→Int→Int→Bool→Option (ByteArray×Int×Bool)
 | 0,_,_,_,_,_,_=>none
 | k+1,x0,x1,x2,x9,x15,x18=>if x18=true then (if 0≤x1 then (if x1≤x9 then (if x9≤(x0.size:Int) then ((raw_Text.f (x0.extract (x1:Int).toNat (x9:Int).toNat) (x2 == 1)).bind fun t143=>(some (t143,x9,true))) else (none)) else (none)) else (none)) else (if x15=4 then (if 0≤x1 then (if x1≤(x0.size:Int) then ((lines_Clean.f (x0.extract (x1:Int).toNat x0.size)).bind fun t144=>(some (t144,(x0.size:Int),true))) else (none)) else (none)) else (some ((⟨#[]⟩:ByteArray),x1,false)))
noncomputable def tok_ends.f (k:Nat) (a0:ByteArray) (a1:Int) (a2:Int) (a3:ByteArray):Option (ByteArray×Int×Bool):=(raw_Find.f a0 a1 a3).bind fun t139=>(if a2=3 then ((script_Find.f k a0 a1).bind fun bt140=>(if 0≤a1 then (if a1≤bt140.1 then (if bt140.1≤(a0.size:Int) then ((raw_Text.f (a0.extract (a1:Int).toNat (bt140.1:Int).toNat) (a2 == 1)).bind fun t142=>(some (t142,bt140.1,true))) else (none)) else (none)) else (none))) else (if a2=1 then (tok_ends.j0 k a0 a1 a2 t139 a2 (a2 == 1)) else (tok_ends.j0 k a0 a1 a2 t139 a2 (a2 == 2))))
theorem tok_ends.calls (k:Nat) (a0:ByteArray) (a1:Int) (a2:Int) (a3:ByteArray) (r1:ByteArray) (r2:Int) (r3:Bool) (w:World) (hGl:Glob w) (h:tok_ends.f k a0 a1 a2 a3=some (r1,r2,r3)) :
  Calls Tryz.prog 78 #[.string a0,.int .i64 a1,.int .i64 a2,.string a3] w fun e w'=>e = .returned (.tuple #[.string r1,.int .i64 r2,.bool r3])∧Below w.heap.size w w':=by
 have HB:=Aside0.mk (Below.refl w.heap.size w)
 have H:((raw_Find.f a0 a1 a3).bind fun t139=>(if a2=3 then ((script_Find.f k a0 a1).bind fun bt140=>(if 0≤a1 then (if a1≤bt140.1 then (if bt140.1≤(a0.size:Int) then ((raw_Text.f (a0.extract (a1:Int).toNat (bt140.1:Int).toNat) (a2 == 1)).bind fun t142=>(some (t142,bt140.1,true))) else (none)) else (none)) else (none))) else (if a2=1 then (tok_ends.j0 k a0 a1 a2 t139 a2 (a2 == 1)) else (tok_ends.j0 k a0 a1 a2 t139 a2 (a2 == 2)))))=some (r1,r2,r3):=h
 clear h
 replace H:=Option.bind_eq_some_iff.mp H
 obtain ⟨t139,A50,H⟩:=H
 try dsimp only at H
 have A5:=Aside0.mk A50
 clear A50
 by_cases c6:a2=3
 ·rw [if_pos c6] at H
  have c6b0:(a2 == 3)=true:=beq_iff_eq.mpr c6
  have c6b1:(a2 != 3)=false:=bne_eq_false_iff_eq.mpr c6
  clear c6
  replace H:=Option.bind_eq_some_iff.mp H
  obtain ⟨⟨t140,t141⟩,A70,H⟩:=H
  try dsimp only at H
  have A7:=Aside0.mk A70
  clear A70
  by_cases c8:0≤a1
  ·rw [if_pos c8] at H
   have c8b0:=eq_true c8
   have c8b1:decide (0≤a1)=true:=decide_eq_true c8
   clear c8
   by_cases c9:a1≤t140
   ·rw [if_pos c9] at H
    have c9b0:=eq_true c9
    have c9b1:decide (a1≤t140)=true:=decide_eq_true c9
    clear c9
    by_cases c10:t140≤(a0.size:Int)
    ·rw [if_pos c10] at H
     have c10b0:=eq_true c10
     have c10b1:decide (t140≤(a0.size:Int))=true:=decide_eq_true c10
     clear c10
     replace H:=Option.bind_eq_some_iff.mp H
     obtain ⟨t142,A110,H⟩:=H
     try dsimp only at H
     have A11:=Aside0.mk A110
     clear A110
     simp only [Option.some.injEq,Prod.mk.injEq] at H
     obtain ⟨rfl,rfl,rfl⟩:=H
     go_enter Tryz.func78,Tryz.ntmps78
     go_wp2_with (first | ((with_reducible refine gate_callee (f:=115) rfl ?_);refine goesL_ (some 14) rfl rfl Tryz.func115 zu13 rfl #[.string a0,.int .i64 a1,.string a3] rfl zu2 ?_;(with_reducible refine (raw_Find.calls a0 a1 a3 t139 _ ?side1 A5.out).mono ?_);(case side1=>exact Glob.step hGl zu1);rintro e w12 ⟨rfl,hb⟩;refine ⟨_,rfl,?_⟩;have n0_:=Aside0.mk (below_step zu1 hb);clear HB;have HB:=n0_;clear n0_;(try clear hb);(try clear hb2);(try clear hk);(try clear hi)) | ((with_reducible refine gate_callee (f:=116) rfl ?_);refine goesL_ (some 26) rfl rfl Tryz.func116 zu13 rfl #[.string a0,.int .i64 a1] rfl zu2 ?_;(with_reducible refine (script_Find.calls k a0 a1 t140 t141 _ A7.out).mono ?_);rintro e w13 ⟨rfl,hb⟩;refine ⟨_,rfl,?_⟩;have n0_:=Aside0.mk (below_step zu1 hb);clear HB;have HB:=n0_;clear n0_;(try clear hb);(try clear hb2);(try clear hk);(try clear hi)) | ((with_reducible refine gate_callee (f:=117) rfl ?_);refine goesL_ (some 35) rfl rfl Tryz.func117 zu13 rfl #[.string (a0.extract (a1:Int).toNat (t140:Int).toNat),.bool (a2 == 1)] rfl zu2 ?_;(with_reducible refine (raw_Text.calls (a0.extract (a1:Int).toNat (t140:Int).toNat) (a2 == 1) t142 _ ?side1 A11.out).mono ?_);(case side1=>exact Glob.step hGl zu1);rintro e w14 ⟨rfl,hb⟩;refine ⟨_,rfl,?_⟩;have n0_:=Aside0.mk (below_step zu1 hb);clear HB;have HB:=n0_;clear n0_;(try clear hb);(try clear hb2);(try clear hk);(try clear hi)))
     go_ret3
     exact zu5
    ·rw [if_neg c10] at H
     exact absurd H zu19
   ·rw [if_neg c9] at H
    exact absurd H zu19
  ·rw [if_neg c8] at H
   exact absurd H zu19
 ·rw [if_neg c6] at H
  have c6b0:(a2 == 3)=false:=beq_eq_false_iff_ne.mpr c6
  have c6b1:(a2 != 3)=true:=bne_iff_ne.mpr c6
  have HC15:=Aside0.mk H
  clear H
  go_enter Tryz.func78,Tryz.ntmps78
  go_upto_if 18 with (first | ((with_reducible refine gate_callee (f:=115) rfl ?_);refine goesL_ (some 14) rfl rfl Tryz.func115 zu13 rfl #[.string a0,.int .i64 a1,.string a3] rfl zu2 ?_;(with_reducible refine (raw_Find.calls a0 a1 a3 t139 _ ?side1 A5.out).mono ?_);(case side1=>exact Glob.step hGl zu1);rintro e w16 ⟨rfl,hb⟩;refine ⟨_,rfl,?_⟩;have n0_:=Aside0.mk (below_step zu1 hb);clear HB;have HB:=n0_;clear n0_;(try clear hb);(try clear hb2);(try clear hk);(try clear hi)))
  (try simp only [Act.put,List.setIfInBounds_toArray,List.set_cons_zero,List.set_cons_succ])
  go_cut [18] (fun v18 wc => ∃ (kq:Nat) (x18_14:Bool),v18 = .bool x18_14∧Aside0 (tok_ends.j0 kq a0 a1 a2 t139 a2 x18_14=some (r1,r2,r3))∧Aside0 (kq≤k)∧Aside0 (Below w.heap.size w wc))
  case first =>
   have H:=HC15.out
   clear HC15
   by_cases c17:a2=1
   ·rw [if_pos c17] at H
    have c17b0:(a2 == 1)=true:=beq_iff_eq.mpr c17
    have c17b1:(a2 != 1)=false:=bne_eq_false_iff_eq.mpr c17
    clear c17
    (first|rw [c17b0] | (simp only [i64_w,i32_w];rw [c17b0])|skip)
    have H':=Aside0.mk H
    clear H
    go_wp2
    go_meet
    case rel=>exact ⟨_,((a2 == 1)),zu18,H',⟨zu41⟩,⟨zu1⟩⟩
   ·rw [if_neg c17] at H
    have c17b0:(a2 == 1)=false:=beq_eq_false_iff_ne.mpr c17
    have c17b1:(a2 != 1)=true:=bne_iff_ne.mpr c17
    (first|rw [c17b0] | (simp only [i64_w,i32_w];rw [c17b0])|skip)
    have H':=Aside0.mk H
    clear H
    go_wp2
    go_meet
    case rel=>exact ⟨_,((a2 == 2)),zu18,H',⟨zu41⟩,⟨zu1⟩⟩
  case rest =>
   clear HC15
   try clear c1
   try clear p2
   try clear c6
   try clear c6b0
   try clear c6b1
   try clear c7
   try clear c8
   try clear c8b0
   try clear c8b1
   try clear c9
   try clear c9b0
   try clear c9b1
   try clear c10
   try clear c10b0
   try clear c10b1
   try clear c11
   try clear c17
   try clear c17b0
   try clear c17b1
   obtain ⟨kq,x18_14,rfl,HA,HJ14,HB⟩:=hcut
   cases kq with
   | zero=>exact absurd HA.out (by simp [tok_ends.j0])
   | succ kj14 =>
     have H:=HA.out
     clear HA
     simp only [tok_ends.j0] at H
     by_cases c18:x18_14=true
     ·subst c18
      rw [if_pos rfl] at H
      by_cases c19:0≤a1
      ·rw [if_pos c19] at H
       have c19b0:=eq_true c19
       have c19b1:decide (0≤a1)=true:=decide_eq_true c19
       clear c19
       by_cases c20:a1≤t139
       ·rw [if_pos c20] at H
        have c20b0:=eq_true c20
        have c20b1:decide (a1≤t139)=true:=decide_eq_true c20
        clear c20
        by_cases c21:t139≤(a0.size:Int)
        ·rw [if_pos c21] at H
         have c21b0:=eq_true c21
         have c21b1:decide (t139≤(a0.size:Int))=true:=decide_eq_true c21
         clear c21
         replace H:=Option.bind_eq_some_iff.mp H
         obtain ⟨t143,A220,H⟩:=H
         try dsimp only at H
         have A22:=Aside0.mk A220
         clear A220
         simp only [Option.some.injEq,Prod.mk.injEq] at H
         obtain ⟨rfl,rfl,rfl⟩:=H
         go_wp2_with (first | ((with_reducible refine gate_callee (f:=117) rfl ?_);refine goesL_ (some 35) rfl rfl Tryz.func117 zu13 rfl #[.string (a0.extract (a1:Int).toNat (t139:Int).toNat),.bool (a2 == 1)] rfl zu2 ?_;(with_reducible refine (raw_Text.calls (a0.extract (a1:Int).toNat (t139:Int).toNat) (a2 == 1) t143 _ ?side1 A22.out).mono ?_);(case side1=>exact Glob.step hGl zu1);rintro e w23 ⟨rfl,hb⟩;refine ⟨_,rfl,?_⟩;have n0_:=Aside0.mk (below_step zu1 hb);clear HB;have HB:=n0_;clear n0_;(try clear hb);(try clear hb2);(try clear hk);(try clear hi)))
         go_ret3
         exact zu5
        ·rw [if_neg c21] at H
         exact absurd H zu19
       ·rw [if_neg c20] at H
        exact absurd H zu19
      ·rw [if_neg c19] at H
       exact absurd H zu19
     ·replace c18:=Bool.eq_false_iff.mpr c18
      subst c18
      rw [if_neg (show ¬ (false=true) by decide)] at H
      by_cases c24:a2=4
      ·rw [if_pos c24] at H
       have c24b0:(a2 == 4)=true:=beq_iff_eq.mpr c24
       have c24b1:(a2 != 4)=false:=bne_eq_false_iff_eq.mpr c24
       clear c24
       by_cases c25:0≤a1
       ·rw [if_pos c25] at H
        have c25b0:=eq_true c25
        have c25b1:decide (0≤a1)=true:=decide_eq_true c25
        clear c25
        by_cases c26:a1≤(a0.size:Int)
        ·rw [if_pos c26] at H
         have c26b0:=eq_true c26
         have c26b1:decide (a1≤(a0.size:Int))=true:=decide_eq_true c26
         clear c26
         replace H:=Option.bind_eq_some_iff.mp H
         obtain ⟨t144,A270,H⟩:=H
         try dsimp only at H
         have A27:=Aside0.mk A270
         clear A270
         simp only [Option.some.injEq,Prod.mk.injEq] at H
         obtain ⟨rfl,rfl,rfl⟩:=H
         go_wp2_with (first | ((with_reducible refine gate_callee (f:=32) rfl ?_);refine goesL_ (some 40) rfl rfl Tryz.func32 zu13 rfl #[.string (a0.extract (a1:Int).toNat a0.size)] rfl zu2 ?_;(with_reducible refine (lines_Clean.calls (a0.extract (a1:Int).toNat a0.size) t144 _ ?side1 A27.out).mono ?_);(case side1=>exact Glob.step hGl zu1);rintro e w28 ⟨rfl,hb⟩;refine ⟨_,rfl,?_⟩;have n0_:=Aside0.mk (below_step zu1 hb);clear HB;have HB:=n0_;clear n0_;(try clear hb);(try clear hb2);(try clear hk);(try clear hi)))
         go_ret3
         exact zu5
        ·rw [if_neg c26] at H
         exact absurd H zu19
       ·rw [if_neg c25] at H
        exact absurd H zu19
      ·rw [if_neg c24] at H
       have c24b0:(a2 == 4)=false:=beq_eq_false_iff_ne.mpr c24
       have c24b1:(a2 != 4)=true:=bne_iff_ne.mpr c24
       simp only [Option.some.injEq,Prod.mk.injEq] at H
       obtain ⟨rfl,rfl,rfl⟩:=H
       go_wp2
       go_ret3
       exact zu5
noncomputable def tok_Rest.j0:Nat→ByteArray→List (S30)→Int→Option ((List (S30))×Int)
 | 0,_,_,_=>none
 | k+1,x0,x8,x9=>if x9=(x0.size:Int) then (some (x8,x9)) else ((tag_Read.f x0 x9).bind fun bt152=>(if bt152.2.2.2.2.2.2=true then (if x8.length<1954687338268 then (some ((x8++[(⟨bt152.1,bt152.2.1,bt152.2.2.1,bt152.2.2.2.1,bt152.2.2.2.2.1⟩:S30)]),bt152.2.2.2.2.2.1)) else (none)) else (some (x8,bt152.2.2.2.2.2.1))))
noncomputable def tok_Rest.f (k:Nat) (a0:ByteArray) (a1:Int) (a2:Int) (a3:ByteArray):Option ((List (S30))×Int):=(tok_inside.f a0 a1).bind fun t145=>((tok_ends.f k a0 t145 a2 a3).bind fun bt146=>(if bt146.2.2=true then (if bt146.1.toList=([]:List UInt8) then (tok_Rest.j0 k a0 ([]:List (S30)) bt146.2.1) else (if ([]:List (S30)).length<1954687338268 then (tok_Rest.j0 k a0 (([]:List (S30))++[(⟨0,(⟨#[]⟩:ByteArray),bt146.1,([]:List (S105)),false⟩:S30)]) bt146.2.1) else (none))) else (some (([]:List (S30)),t145))))
theorem tok_Rest.calls (k:Nat) (a0:ByteArray) (a1:Int) (a2:Int) (a3:ByteArray) (r1:List (S30)) (r2:Int) (w:World) (hGl:Glob w) (h:tok_Rest.f k a0 a1 a2 a3=some (r1,r2)) :
  Calls Tryz.prog 38 #[.string a0,.int .i64 a1,.int .i64 a2,.string a3] w fun e w' => ∃ v0_:Value,e = .returned (.tuple #[v0_,.int .i64 r2])∧Kd.S k30 30 w' w.heap.size (fun _=>True) v0_ r1∧Below w.heap.size w w':=by
 have hu30:=Tryz.underlying30
 have HB:=Aside0.mk (Below.refl w.heap.size w)
 have H:((tok_inside.f a0 a1).bind fun t145=>((tok_ends.f k a0 t145 a2 a3).bind fun bt146=>(if bt146.2.2=true then (if bt146.1.toList=([]:List UInt8) then (tok_Rest.j0 k a0 ([]:List (S30)) bt146.2.1) else (if ([]:List (S30)).length<1954687338268 then (tok_Rest.j0 k a0 (([]:List (S30))++[(⟨0,(⟨#[]⟩:ByteArray),bt146.1,([]:List (S105)),false⟩:S30)]) bt146.2.1) else (none))) else (some (([]:List (S30)),t145)))))=some (r1,r2):=h
 clear h
 replace H:=Option.bind_eq_some_iff.mp H
 obtain ⟨t145,A50,H⟩:=H
 try dsimp only at H
 have A5:=Aside0.mk A50
 clear A50
 replace H:=Option.bind_eq_some_iff.mp H
 obtain ⟨⟨t146,t147,t148⟩,A60,H⟩:=H
 try dsimp only at H
 have A6:=Aside0.mk A60
 clear A60
 by_cases c7:t148=true
 ·subst c7
  rw [if_pos rfl] at H
  have HC8:=Aside0.mk H
  clear H
  go_enter Tryz.func38,Tryz.ntmps38
  go_upto_if 29 with (first | ((with_reducible refine gate_callee (f:=69) rfl ?_);refine goesL_ (some 15) rfl rfl Tryz.func69 zu13 rfl #[.string a0,.int .i64 a1] rfl zu2 ?_;(with_reducible refine (tok_inside.calls a0 a1 t145 _ A5.out).mono ?_);rintro e w9 ⟨rfl,hb⟩;refine ⟨_,rfl,?_⟩;have n0_:=Aside0.mk (below_step zu1 hb);clear HB;have HB:=n0_;clear n0_;(try clear hb);(try clear hb2);(try clear hk);(try clear hi)) | ((with_reducible refine gate_callee (f:=78) rfl ?_);refine goesL_ (some 21) rfl rfl Tryz.func78 zu13 rfl #[.string a0,.int .i64 t145,.int .i64 a2,.string a3] rfl zu2 ?_;(with_reducible refine (tok_ends.calls k a0 t145 a2 a3 t146 t147 true _ ?side1 A6.out).mono ?_);(case side1=>exact Glob.step hGl zu1);rintro e w10 ⟨rfl,hb⟩;refine ⟨_,rfl,?_⟩;have n0_:=Aside0.mk (below_step zu1 hb);clear HB;have HB:=n0_;clear n0_;(try clear hb);(try clear hb2);(try clear hk);(try clear hi)))
  (try simp only [Act.put,List.setIfInBounds_toArray,List.set_cons_zero,List.set_cons_succ])
  go_cut [8] (fun v8 wc => ∃ (kq:Nat) (x8_7:List (S30)),Aside0 (tok_Rest.j0 kq a0 x8_7 t147=some (r1,r2))∧Aside0 (kq≤k)∧Aside0 (Kd.S k30 30 wc w.heap.size (fun _=>True) v8 x8_7)∧Aside0 (Below w.heap.size w wc))
  case first =>
   have H:=HC8.out
   clear HC8
   by_cases c11:t146.toList=([]:List UInt8)
   ·rw [if_pos c11] at H
    have c11b0:(t146.toList == ([]:List UInt8))=true:=beq_iff_eq.mpr c11
    have c11bE:(t146.toList).isEmpty=true:=List.isEmpty_iff.2 c11
    have c11b1:(t146.toList != ([]:List UInt8))=false:=bne_eq_false_iff_eq.mpr c11
    clear c11
    (first|rw [c11b0] | (simp only [i64_w,i32_w];rw [c11b0])|skip)
    (try rw [c11bE])
    have H':=Aside0.mk H
    clear H
    go_wp2
    go_meet
    case rel=>exact ⟨_,(([]:List (S30))),H',⟨zu41⟩,⟨zu44⟩,⟨zu1⟩⟩
   ·rw [if_neg c11] at H
    have c11b0:(t146.toList == ([]:List UInt8))=false:=beq_eq_false_iff_ne.mpr c11
    have c11bE:(t146.toList).isEmpty=false:=List.isEmpty_eq_false_iff.2 c11
    have c11b1:(t146.toList != ([]:List UInt8))=true:=bne_iff_ne.mpr c11
    (first|rw [c11b0] | (simp only [i64_w,i32_w];rw [c11b0])|skip)
    (try rw [c11bE])
    by_cases c12:([]:List (S30)).length<1954687338268
    ·rw [if_pos c12] at H
     have LMc12:=Aside0.mk c12
     clear c12
     obtain ⟨y149,hy149⟩:∃ y_:List (S30),y_=(([]:List (S30))++[(⟨0,(⟨#[]⟩:ByteArray),t146,([]:List (S105)),false⟩:S30)]):=⟨_,rfl⟩
     replace H:(tok_Rest.j0 k a0 y149 t147)=some (r1,r2):=by first | (rw [hy149];with_reducible exact H) | (have H2_:=(Option.bind_some _ _).symm.trans H;rw [hy149];with_reducible exact H2_) | (have H2_:=(Option.bind_some _ _).symm.trans H;with_reducible exact H2_)|with_reducible exact H | (rw [hy149];exact H)|exact H
     have Ny149:=Aside0.mk hy149
     clear hy149
     have H':=Aside0.mk H
     clear H
     go_wp2_with (first | ((with_reducible refine gate_builtin (b:=.append) (xs := #[.tmp 30,.tmp 33]) rfl ?_);at_builtin;refine Kd.S_append k30 (w0:=w) w.heap.size rfl (.tmp 30) (.tmp 33) 25 30 (.agg #[(.int .i64 0),(.string ⟨#[]⟩),(.string ⟨#[]⟩),(.slice none 0 0),(.bool false)]) 72 rfl Tryz.underlying25 info30 rfl zu15 zu4 (.slice none 0 0) ([]:List (S30)) (⟨0,(⟨#[]⟩:ByteArray),t146,([]:List (S105)),false⟩:S30) [.int .i64 0,.string (⟨#[]⟩:ByteArray),.string t146,.slice none 0 0,.bool false] (fun _=>True) (fun _=>False) rfl rfl ?aP (fun k_ hk_=>hk_.elim) ?aF ?aO ?aB ?aS ?aL ?_;(case aP=>exact k30_mkM _ _ _ (⟨0,(⟨#[]⟩:ByteArray),t146,([]:List (S105)),false⟩:S30) (Kd.R_nil _ _ _ _ _));(case aB=>exact zu1);(case aF=>exact (fun _ _=>trivial));(case aO=>exact ((Kd.S_nil _ _ _ _ _)));(case aS=>exact (below_size zu1));(case aL=>have:=LMc12.out;omega);intro v150 w13 ho hb hg hat;rw [← Ny149.out] at ho;have n0_:=Aside0.mk (hb);have n1_:=Aside0.mk (ho);clear HB;have HB:=n0_;have HO151:=n1_;clear n0_ n1_;clear ho hb hg hat))
     go_meet
     case rel=>exact ⟨_,(y149),H',⟨zu41⟩,⟨by (with_reducible repeat (first|apply Kd.S_alloc|apply Kd.S_drewN|apply Kd.S_drew));exact HO151.out⟩,⟨zu1⟩⟩
    ·rw [if_neg c12] at H
     exact absurd H zu19
  case rest =>
   clear HC8
   try clear c1
   try clear p2
   try clear c3
   try clear c6
   try clear c7
   try clear c11
   try clear c11b0
   try clear c11b1
   try clear c12
   obtain ⟨kq,x8_7,HA,HJ7,HO_8,HB⟩:=hcut
   cases kq with
   | zero=>exact absurd HA.out (by simp [tok_Rest.j0])
   | succ kj7 =>
     have H:=HA.out
     clear HA
     simp only [tok_Rest.j0] at H
     by_cases c14:t147=(a0.size:Int)
     ·rw [if_pos c14] at H
      have c14b0:(t147 == (a0.size:Int))=true:=beq_iff_eq.mpr c14
      have c14b1:(t147 != (a0.size:Int))=false:=bne_eq_false_iff_eq.mpr c14
      clear c14
      simp only [Option.some.injEq,Prod.mk.injEq] at H
      obtain ⟨rfl,rfl⟩:=H
      go_wp2
      go_ret2
      exact ⟨_,zu7,zu31,zu1⟩
     ·rw [if_neg c14] at H
      have c14b0:(t147 == (a0.size:Int))=false:=beq_eq_false_iff_ne.mpr c14
      have c14b1:(t147 != (a0.size:Int))=true:=bne_iff_ne.mpr c14
      replace H:=Option.bind_eq_some_iff.mp H
      obtain ⟨⟨t152,t153,t154,t155,t158,t159,t160⟩,A150,H⟩:=H
      try dsimp only at H
      have A15:=Aside0.mk A150
      clear A150
      by_cases c16:t160=true
      ·subst c16
       rw [if_pos rfl] at H
       by_cases c17:x8_7.length<1954687338268
       ·rw [if_pos c17] at H
        have LMc17:=Aside0.mk c17
        clear c17
        obtain ⟨y162,hy162⟩:∃ y_:List (S30),y_=(x8_7++[(⟨t152,t153,t154,t155,t158⟩:S30)]):=⟨_,rfl⟩
        replace H:(some (y162,t159))=some (r1,r2):=by first | (rw [hy162];with_reducible exact H) | (have H2_:=(Option.bind_some _ _).symm.trans H;rw [hy162];with_reducible exact H2_) | (have H2_:=(Option.bind_some _ _).symm.trans H;with_reducible exact H2_)|with_reducible exact H | (rw [hy162];exact H)|exact H
        have Ny162:=Aside0.mk hy162
        clear hy162
        simp only [Option.some.injEq,Prod.mk.injEq] at H
        obtain ⟨rfl,rfl⟩:=H
        go_wp2_with (first | ((with_reducible refine gate_callee (f:=71) rfl ?_);refine goesL_ (some 44) rfl rfl Tryz.func71 zu13 rfl #[.string a0,.int .i64 t147] rfl zu2 ?_;(with_reducible refine (tag_Read.calls a0 t147 t152 t153 t154 t155 t158 t159 true _ ?side1 A15.out).mono ?_);(case side1=>exact Glob.step hGl zu1);rintro e w18 ⟨v156,rfl,ho0,hb⟩;refine ⟨_,rfl,?_⟩;have n0_:=Aside0.mk (Kd.S_elder' zu31 (Kd.R_base ho0) hb);have n1_:=Aside0.mk (Kd.R_lower ho0 (below_size zu1));have n2_:=Aside0.mk (below_step zu1 hb);clear HO_8;clear HB;have HO_8:=n0_;have HO157:=n1_;have HB:=n2_;clear n0_ n1_ n2_;(try clear hb);(try clear hb2);(try clear hk);(try clear hi);(try clear ho0)) | ((with_reducible refine gate_dst (N:=12) rfl ?_);refine box_event ?hg (N:=12) ?hd (cs := #[.int .i64 0,.string (⟨#[]⟩:ByteArray),.string (⟨#[]⟩:ByteArray),.slice none 0 0,.bool false]) (t:=30) ?hr ?_;(case hd=>rfl);(case hg=>rfl);(case hr=>first | (go_simp;done) | (go_simp;rfl));intro gb161 hg w19 hbox hb;have n0_:=Aside0.mk (Kd.S_below (Kd.S_elderB zu31 gb161 (Nat.le_of_eq hg.symm)) hb);have n1_:=Aside0.mk (Kd.R_below zu51 hb);have n2_:=Aside0.mk (below_step zu1 hb);have n3_:=Aside0.mk (hbox);have n4_:=Aside0.mk ((by rw [hg];exact (below_size zu1):w.heap.size≤gb161));have n5_:=Aside0.mk ((by rw [hg];exact (below_size zu1):w.heap.size≤gb161));clear HO_8;clear HO157;clear HB;have HO_8:=n0_;have HO157:=n1_;have HB:=n2_;have BK161:=n3_;have GW161:=n4_;have GE161:=n5_;clear n0_ n1_ n2_ n3_ n4_ n5_;clear hb hbox hg;have hcz20_0:w19.cell? ⟨gb161,0,none⟩=some (.int .i64 0):=(blk_cell BK161.out 0).trans rfl;have hcz20_1:w19.cell? ⟨gb161,1,none⟩=some (.string (⟨#[]⟩:ByteArray)):=(blk_cell BK161.out 1).trans rfl;have hcz20_2:w19.cell? ⟨gb161,2,none⟩=some (.string (⟨#[]⟩:ByteArray)):=(blk_cell BK161.out 2).trans rfl;have hcz20_3:w19.cell? ⟨gb161,3,none⟩=some (.slice none 0 0):=(blk_cell BK161.out 3).trans rfl;have hcz20_4:w19.cell? ⟨gb161,4,none⟩=some (.bool false):=(blk_cell BK161.out 4).trans rfl;have hfz20_0:=blk_frozen BK161.out 0;have hfz20_1:=blk_frozen BK161.out 1;have hfz20_2:=blk_frozen BK161.out 2;have hfz20_3:=blk_frozen BK161.out 3;have hfz20_4:=blk_frozen BK161.out 4;obtain ⟨Ao21,co21,eo21⟩:=Kd.R_slice HO157.out;subst eo21) | ((with_reducible refine gate_store (t:=30) (p:=12) rfl ?_);refine store_event (t:=30) (p:=12) (v := ?vo_w22) (w1:=(((((w19.setCell ⟨gb161,0,none⟩ (.int .i64 t152)).setCell ⟨gb161,1,none⟩ (.string t153)).setCell ⟨gb161,2,none⟩ (.string t154)).setCell ⟨gb161,3,none⟩ (.slice Ao21 t155.length co21)).setCell ⟨gb161,4,none⟩ (.bool t158))) ?hg ?ho ?hn ?hr ?_;(case ho=>rfl);(case hg=>rfl);(case hn=>rfl);(case hr=>first | (go_simp;done) | (go_simp;rfl));intro w22 hw;have n0_:Aside0 (Kd.S k30 30 w22 w.heap.size (fun k_=>some k_≠(.slice Ao21 t155.length co21:Value).ownBlock∧k_≠gb161) u8 x8_7):=⟨(by rw [hw];exact (by (with_reducible repeat (first|apply Kd.S_alloc|apply Kd.S_drewN|apply Kd.S_drew));exact Kd.S_mono (Kd.S_far (p:=⟨gb161,4,none⟩) (Kd.S_far (p:=⟨gb161,3,none⟩) (Kd.S_far (p:=⟨gb161,2,none⟩) (Kd.S_far (p:=⟨gb161,1,none⟩) (Kd.S_far (p:=⟨gb161,0,none⟩) (Kd.S_mono HO_8.out (fun k_ hk=>(⟨hk,hk.2⟩:_∧k_≠gb161))) (fun _ hk=>hk.2) (.int .i64 t152)) (fun _ hk=>hk.2) (.string t153)) (fun _ hk=>hk.2) (.string t154)) (fun _ hk=>hk.2) (.slice Ao21 t155.length co21)) (fun _ hk=>hk.2) (.bool t158)) (fun _ hk=>⟨hk.1.1.2,hk.1.2⟩)))⟩;have n1_:Aside0 (Kd.R k105 105 w22 w.heap.size (fun _=>True) (.slice Ao21 t155.length co21) t155):=⟨(by rw [hw];exact (by (with_reducible repeat (first|apply Kd.R_alloc|apply Kd.R_drewN|apply Kd.R_drew));exact Kd.R_mono (Kd.R_far (p:=⟨gb161,4,none⟩) (Kd.R_far (p:=⟨gb161,3,none⟩) (Kd.R_far (p:=⟨gb161,2,none⟩) (Kd.R_far (p:=⟨gb161,1,none⟩) (Kd.R_far (p:=⟨gb161,0,none⟩) (Kd.R_types HO157.out BK161.out zu15) (fun _ hk=>hk.2) (.int .i64 t152)) (fun _ hk=>hk.2) (.string t153)) (fun _ hk=>hk.2) (.string t154)) (fun _ hk=>hk.2) (.slice Ao21 t155.length co21)) (fun _ hk=>hk.2) (.bool t158)) (fun _ hk=>trivial)))⟩;have n2_:Aside0 (w22.heap[gb161]? = some (.cells #[.int .i64 t152,.string t153,.string t154,.slice Ao21 t155.length co21,.bool t158] 30 (0,0))):=⟨(by rw [hw];exact (by (with_reducible repeat (first|refine blk_drewN ?_ _|refine blk_drew ?_|refine blk_alloc ?_ _));refine blk_put (cs := #[.int .i64 t152,.string t153,.string t154,.slice Ao21 t155.length co21,.bool false]) ?_ 4 _ rfl;(with_reducible repeat (first|refine blk_drewN ?_ _|refine blk_drew ?_|refine blk_alloc ?_ _));refine blk_put (cs := #[.int .i64 t152,.string t153,.string t154,.slice none 0 0,.bool false]) ?_ 3 _ rfl;(with_reducible repeat (first|refine blk_drewN ?_ _|refine blk_drew ?_|refine blk_alloc ?_ _));refine blk_put (cs := #[.int .i64 t152,.string t153,.string (⟨#[]⟩:ByteArray),.slice none 0 0,.bool false]) ?_ 2 _ rfl;(with_reducible repeat (first|refine blk_drewN ?_ _|refine blk_drew ?_|refine blk_alloc ?_ _));refine blk_put (cs := #[.int .i64 t152,.string (⟨#[]⟩:ByteArray),.string (⟨#[]⟩:ByteArray),.slice none 0 0,.bool false]) ?_ 1 _ rfl;(with_reducible repeat (first|refine blk_drewN ?_ _|refine blk_drew ?_|refine blk_alloc ?_ _));refine blk_put (cs := #[.int .i64 0,.string (⟨#[]⟩:ByteArray),.string (⟨#[]⟩:ByteArray),.slice none 0 0,.bool false]) ?_ 0 _ rfl;(with_reducible repeat (first|refine blk_drewN ?_ _|refine blk_drew ?_|refine blk_alloc ?_ _));exact BK161.out))⟩;have n3_:Aside0 (Below w.heap.size w w22):=⟨(by rw [hw];exact zu26)⟩;clear hw;clear HO_8;clear HO157;clear BK161;clear HB;have HO_8:=n0_;have HO157:=n1_;have BK161:=n2_;have HB:=n3_;clear n0_ n1_ n2_ n3_;have hcz23_0:w22.cell? ⟨gb161,0,none⟩=some (.int .i64 t152):=(blk_cell BK161.out 0).trans rfl;have hcz23_1:w22.cell? ⟨gb161,1,none⟩=some (.string t153):=(blk_cell BK161.out 1).trans rfl;have hcz23_2:w22.cell? ⟨gb161,2,none⟩=some (.string t154):=(blk_cell BK161.out 2).trans rfl;have hcz23_3:w22.cell? ⟨gb161,3,none⟩=some (.slice Ao21 t155.length co21):=(blk_cell BK161.out 3).trans rfl;have hcz23_4:w22.cell? ⟨gb161,4,none⟩=some (.bool t158):=(blk_cell BK161.out 4).trans rfl;have hfz23_0:=blk_frozen BK161.out 0;have hfz23_1:=blk_frozen BK161.out 1;have hfz23_2:=blk_frozen BK161.out 2;have hfz23_3:=blk_frozen BK161.out 3;have hfz23_4:=blk_frozen BK161.out 4) | ((with_reducible refine gate_builtin (b:=.append) (xs := #[.tmp 49,.tmp 51]) rfl ?_);at_builtin;refine Kd.S_append k30 (w0:=w) w.heap.size rfl (.tmp 49) (.tmp 51) 25 30 (.agg #[(.int .i64 0),(.string ⟨#[]⟩),(.string ⟨#[]⟩),(.slice none 0 0),(.bool false)]) 72 rfl Tryz.underlying25 info30 rfl zu15 zu4 u8 x8_7 (⟨t152,t153,t154,t155,t158⟩:S30) [.int .i64 t152,.string t153,.string t154,.slice Ao21 t155.length co21,.bool t158] (fun k_=>k_≠gb161) (fun k_=>some k_=(.slice Ao21 t155.length co21:Value).ownBlock) rfl rfl ?aP (fun k_ hk_=>((Kd.R_mono (ok':=fun k_=>((fun k_=>k_≠gb161)) k_∧some k_≠(u8:Value).ownBlock) (Kd.R_types (Kd.R_apart' (HO157.out) (Kd.S_typed HO_8.out) zu15) BK161.out zu15) (fun k_ hk=>⟨hk.2,hk.1.2⟩))).1 k_ hk_.symm) ?aF ?aO ?aB ?aS ?aL ?_;(case aP=>exact k30_mkM _ _ _ (⟨t152,t153,t154,t155,t158⟩:S30) (Kd.R_mono (Kd.R_tight rfl (Kd.R_mono (ok':=fun k_=>((fun k_=>k_≠gb161)) k_∧some k_≠(u8:Value).ownBlock) (Kd.R_types (Kd.R_apart' (HO157.out) (Kd.S_typed HO_8.out) zu15) BK161.out zu15) (fun k_ hk=>⟨hk.2,hk.1.2⟩))) (fun _ h_=>h_)));(case aB=>exact zu26);(case aF=>exact (fun k_ hk=>Kd.freshB (g:=gb161) (o:=.cells #[.int .i64 t152,.string t153,.string t154,.slice Ao21 t155.length co21,.bool t158] 30 (0,0)) zu50 k_ hk));(case aO=>exact (by (with_reducible repeat (first|apply Kd.S_alloc|apply Kd.S_drewN|apply Kd.S_drew));exact Kd.S_mono HO_8.out (fun k_ hk=>⟨hk.2,fun e_=>hk.1 e_⟩)));(case aS=>exact (below_size zu26));(case aL=>have:=LMc17.out;omega);intro v163 w24 ho hb hg hat;rw [← Ny162.out] at ho;have n0_:=Aside0.mk (blk_grown (g:=gb161) (o:=.cells #[.int .i64 t152,.string t153,.string t154,.slice Ao21 t155.length co21,.bool t158] 30 (0,0)) zu50 hg (Kd.S_away HO_8.out (fun _ hk=>hk.2)));have n1_:=Aside0.mk (hb);have n2_:=Aside0.mk (ho);clear BK161;clear HB;clear HO_8;clear HO157;have BK161:=n0_;have HB:=n1_;have HO164:=n2_;clear n0_ n1_ n2_;clear ho hb hg hat))
        go_ret2
        exact ⟨_,zu7,by (with_reducible repeat (first|apply Kd.S_alloc|apply Kd.S_drewN|apply Kd.S_drew));exact Kd.S_mono HO164.out (fun _ hk=>trivial),zu26⟩
       ·rw [if_neg c17] at H
        exact absurd H zu19
      ·replace c16:=Bool.eq_false_iff.mpr c16
       subst c16
       rw [if_neg (show ¬ (false=true) by decide)] at H
       simp only [Option.some.injEq,Prod.mk.injEq] at H
       obtain ⟨rfl,rfl⟩:=H
       go_wp2_with (first | ((with_reducible refine gate_callee (f:=71) rfl ?_);refine goesL_ (some 44) rfl rfl Tryz.func71 zu13 rfl #[.string a0,.int .i64 t147] rfl zu2 ?_;(with_reducible refine (tag_Read.calls a0 t147 t152 t153 t154 t155 t158 t159 false _ ?side1 A15.out).mono ?_);(case side1=>exact Glob.step hGl zu1);rintro e w25 ⟨v156,rfl,ho0,hb⟩;refine ⟨_,rfl,?_⟩;have n0_:=Aside0.mk (Kd.S_elder' zu31 (Kd.R_base ho0) hb);have n1_:=Aside0.mk (Kd.R_lower ho0 (below_size zu1));have n2_:=Aside0.mk (below_step zu1 hb);clear HO_8;clear HB;have HO_8:=n0_;have HO157:=n1_;have HB:=n2_;clear n0_ n1_ n2_;(try clear hb);(try clear hb2);(try clear hk);(try clear hi);(try clear ho0)) | ((with_reducible refine gate_dst (N:=12) rfl ?_);refine box_event ?hg (N:=12) ?hd (cs := #[.int .i64 0,.string (⟨#[]⟩:ByteArray),.string (⟨#[]⟩:ByteArray),.slice none 0 0,.bool false]) (t:=30) ?hr ?_;(case hd=>rfl);(case hg=>rfl);(case hr=>first | (go_simp;done) | (go_simp;rfl));intro gb161 hg w26 hbox hb;have n0_:=Aside0.mk (Kd.S_below (Kd.S_elderB zu31 gb161 (Nat.le_of_eq hg.symm)) hb);have n1_:=Aside0.mk (Kd.R_below zu51 hb);have n2_:=Aside0.mk (below_step zu1 hb);have n3_:=Aside0.mk (hbox);have n4_:=Aside0.mk ((by rw [hg];exact (below_size zu1):w.heap.size≤gb161));have n5_:=Aside0.mk ((by rw [hg];exact (below_size zu1):w.heap.size≤gb161));clear HO_8;clear HO157;clear HB;have HO_8:=n0_;have HO157:=n1_;have HB:=n2_;have BK161:=n3_;have GW161:=n4_;have GE161:=n5_;clear n0_ n1_ n2_ n3_ n4_ n5_;clear hb hbox hg;have hcz27_0:w26.cell? ⟨gb161,0,none⟩=some (.int .i64 0):=(blk_cell BK161.out 0).trans rfl;have hcz27_1:w26.cell? ⟨gb161,1,none⟩=some (.string (⟨#[]⟩:ByteArray)):=(blk_cell BK161.out 1).trans rfl;have hcz27_2:w26.cell? ⟨gb161,2,none⟩=some (.string (⟨#[]⟩:ByteArray)):=(blk_cell BK161.out 2).trans rfl;have hcz27_3:w26.cell? ⟨gb161,3,none⟩=some (.slice none 0 0):=(blk_cell BK161.out 3).trans rfl;have hcz27_4:w26.cell? ⟨gb161,4,none⟩=some (.bool false):=(blk_cell BK161.out 4).trans rfl;have hfz27_0:=blk_frozen BK161.out 0;have hfz27_1:=blk_frozen BK161.out 1;have hfz27_2:=blk_frozen BK161.out 2;have hfz27_3:=blk_frozen BK161.out 3;have hfz27_4:=blk_frozen BK161.out 4;obtain ⟨Ao28,co28,eo28⟩:=Kd.R_slice HO157.out;subst eo28))
       go_ret2
       exact ⟨_,zu7,by (with_reducible repeat (first|apply Kd.S_alloc|apply Kd.S_drewN|apply Kd.S_drew));exact Kd.S_mono (Kd.S_far (p:=⟨gb161,4,none⟩) (Kd.S_far (p:=⟨gb161,3,none⟩) (Kd.S_far (p:=⟨gb161,2,none⟩) (Kd.S_far (p:=⟨gb161,1,none⟩) (Kd.S_far (p:=⟨gb161,0,none⟩) (Kd.S_mono HO_8.out (fun k_ hk=>(⟨hk,hk.2⟩:_∧k_≠gb161))) (fun _ hk=>hk.2) (.int .i64 t152)) (fun _ hk=>hk.2) (.string t153)) (fun _ hk=>hk.2) (.string t154)) (fun _ hk=>hk.2) (.slice Ao28 t155.length co28)) (fun _ hk=>hk.2) (.bool t158)) (fun _ hk=>trivial),zu26⟩
 ·replace c7:=Bool.eq_false_iff.mpr c7
  subst c7
  rw [if_neg (show ¬ (false=true) by decide)] at H
  simp only [Option.some.injEq,Prod.mk.injEq] at H
  obtain ⟨rfl,rfl⟩:=H
  go_enter Tryz.func38,Tryz.ntmps38
  go_wp2_with (first | ((with_reducible refine gate_callee (f:=69) rfl ?_);refine goesL_ (some 15) rfl rfl Tryz.func69 zu13 rfl #[.string a0,.int .i64 a1] rfl zu2 ?_;(with_reducible refine (tok_inside.calls a0 a1 t145 _ A5.out).mono ?_);rintro e w29 ⟨rfl,hb⟩;refine ⟨_,rfl,?_⟩;have n0_:=Aside0.mk (below_step zu1 hb);clear HB;have HB:=n0_;clear n0_;(try clear hb);(try clear hb2);(try clear hk);(try clear hi)) | ((with_reducible refine gate_callee (f:=78) rfl ?_);refine goesL_ (some 21) rfl rfl Tryz.func78 zu13 rfl #[.string a0,.int .i64 t145,.int .i64 a2,.string a3] rfl zu2 ?_;(with_reducible refine (tok_ends.calls k a0 t145 a2 a3 t146 t147 false _ ?side1 A6.out).mono ?_);(case side1=>exact Glob.step hGl zu1);rintro e w30 ⟨rfl,hb⟩;refine ⟨_,rfl,?_⟩;have n0_:=Aside0.mk (below_step zu1 hb);clear HB;have HB:=n0_;clear n0_;(try clear hb);(try clear hb2);(try clear hk);(try clear hi)))
  go_ret2
  exact ⟨_,zu7,zu44,zu1⟩
end St
end

section
namespace Hand
open Go Go.RowKit Pl Pb Go.Proofs.YtclkdmmgibgamaaGreatDoor.Pure
def stepJ (out:List Tk):Tk→List Tk
 | .text s=>if s=[] then out else match out.getLast? with
   | some (.text u)=>out.dropLast++[.text (u++s)]
   | _=>out++[.text s]
 | t=>out++[t]
def isTx:Tk→Bool
 | .text _=>true
 | _=>false
theorem joinL_nil0 (r:List Tk):joinL (.text []::r)=joinL r:=by
 rw [joinL]
 cases joinL r with
 | nil=>rfl
 | cons t q=>cases t<;>rfl
theorem joinL_no {t:Tk} (r:List Tk) (h:isTx t=false):joinL (t::r)=t::joinL r:=by
 cases t<;>first|rfl|cases h
theorem joinL_two (u s:List UInt8) (r:List Tk) (hs:s≠[]):joinL (.text u :: .text s::r)=joinL (.text (u++s)::r):=by
 rw [joinL,joinL,joinL]
 cases joinL r with
 | nil=>simp [txtT,hs]
 | cons t q=>cases t<;>simp [txtT,hs]
theorem joinL_txno {t:Tk} (u:List UInt8) (r:List Tk) (h:isTx t=false):joinL (.text u::t::r)=txtT u++t::joinL r:=by
 rw [joinL,joinL_no r h]
 cases t<;>first|rfl|cases h
theorem stepJ_no {t:Tk} (o:List Tk) (h:isTx t=false):stepJ o t=o++[t]:=by cases t<;>first|rfl|cases h
theorem stepJ_nil (o:List Tk):stepJ o (.text [])=o:=by unfold stepJ;simp
theorem stepJ_tt (o:List Tk) {u s:List UInt8} (hs:s≠[]):stepJ (o++[.text u]) (.text s)=o++[.text (u++s)]:=by unfold stepJ;simp [hs]
theorem stepJ_new (o:List Tk) {s:List UInt8} (hs:s≠[]) (h:∀ u,o.getLast? ≠ some (.text u)):stepJ o (.text s)=o++[.text s]:=by
 simp only [stepJ,if_neg hs]
theorem join_fold (l:List Tk):∀ o:List Tk,(∀ u,u≠[]→l.foldl stepJ (o++[.text u])=o++joinL (.text u::l))∧((∀ u,o.getLast? ≠ some (.text u))→l.foldl stepJ o=o++joinL l):=by
 induction l with
 | nil=>intro o;exact ⟨fun u hu=>by simp [joinL,txtT,hu],fun _=>by simp [joinL]⟩
 | cons t r ih =>
   intro o
   have other:isTx t=false→∀ o2:List Tk,(t::r).foldl stepJ o2=o2++t::joinL r:=fun ht o2=>by
    rw [List.foldl_cons,stepJ_no _ ht,(ih (o2++[t])).2 (fun u=>by
     rw [List.getLast?_append];intro e;simp at e;subst e;cases ht)]
    simp
   cases ht:isTx t with
   | false =>
     refine ⟨fun u hu => ?_,fun _ => ?_⟩
     ·rw [other ht,joinL_txno u r ht]
      simp [txtT,hu]
     ·rw [other ht,joinL_no r ht]
   | true =>
     obtain ⟨s,rfl⟩:∃ s,t = .text s:=by cases t<;>first|exact ⟨_,rfl⟩|cases ht
     by_cases hs:s=[]
     ·subst hs
      refine ⟨fun u hu => ?_,fun h => ?_⟩
      ·rw [List.foldl_cons,stepJ_nil,(ih o).1 u hu,joinL,joinL,joinL_nil0]
      ·rw [List.foldl_cons,stepJ_nil,(ih o).2 h,joinL_nil0]
     ·refine ⟨fun u hu => ?_,fun h => ?_⟩
      ·rw [List.foldl_cons,stepJ_tt o hs,(ih o).1 _ (by simp [hu]),joinL_two u s r hs]
      ·rw [List.foldl_cons,stepJ_new o hs h,(ih o).1 s hs]
theorem join_eq (l:List Tk):l.foldl stepJ []=joinL l:=by
 rw [(join_fold l []).2 (fun u=>by simp)];rfl
end Hand
end

section
namespace Pure
open Go Go.RowKit K0 Hand Sa Si St YtclkdmmgibgamaaGreatDoorW.PrintWords YtclkdmmgibgamaaGreatDoorW.PrintMore Pl Pb
abbrev TkS:=S30
def ofK (t:Tk):TkS:=⟨(tkC t).1,B (tkC t).2.1,B (tkC t).2.2.1,(tkC t).2.2.2.1.map ofT,(tkC t).2.2.2.2⟩
theorem inside_f {s:List UInt8} {p:Nat} (_:s.length≤100000) (hp:p≤s.length):tok_inside.f (B s) (p:Int)=some (p:Int):=by
 unfold tok_inside.f
 rw [size_B]
 congr 1
 unfold mn mx
 repeat' split
 all_goals omega
theorem inT_ok {s:List UInt8} {p:Nat} (hs:s.length≤100000) (hp:p≤s.length):inT (B s) (p:Int):=⟨by rw [size_B];exact hs,zu4,zu36⟩
theorem atT_B (s:List UInt8) (p:Nat):atT (B s) (p:Int)=s.drop p:=by unfold atT;rw [B_data];rfl
theorem next_f {s:List UInt8} {p:Nat} (hs:s.length≤100000) (hp:p≤s.length):tok_Next.f (B s) (p:Int)=some (tkOut s.length (tokL (s.drop p))):=by
 have hin:=inT_ok hs hp
 unfold tok_Next.f
 rw [inside_f hs hp,Option.bind_some]
 unfold tag_Begins.f tag_Read.f doctype_Begins.f doctype_Read.f text_Read.f
 rw [if_pos hin,Option.bind_some,atT_B]
 by_cases h1:tagN (s.drop p)=0
 ·rw [if_neg (by simp [h1]),Pcb.begC_f s p zu4 hp,Option.bind_some]
  have hk:tokL (s.drop p)=if begC (s.drop p)=true then (some (.comment (cleanL (readC (s.drop p)).1)),(s.drop p).drop (readC (s.drop p)).2)
    else if begR (s.drop p) docL=true then (some (.doctype (cleanL (upto 62 ((s.drop p).drop 9)))),past 62 ((s.drop p).drop 9))
    else if begR (s.drop p) voidL=true then (none,(s.drop p).drop 3)
    else if txN (s.drop p)=0 then (none,s.drop p)
    else (some (.text (rdL false ((s.drop p).take (txN (s.drop p))))),(s.drop p).drop (txN (s.drop p))):=by
   unfold tokL;rw [if_neg (by simp [h1])]
  rw [hk]
  by_cases h2:begC (s.drop p)=true
  ·rw [if_pos h2,if_pos h2,Pcm.read_f s p zu4 hp,Option.bind_some]
   unfold Pcm.tokC
   rw [if_pos h2]
   have hn:p+(readC (s.drop p)).2=s.length - ((s.drop p).drop (readC (s.drop p)).2).length:=by
    have:=readC_in h2
    rw [List.length_drop] at this
    rw [List.length_drop,List.length_drop];omega
   unfold tkOut
   simp only [hn]
   rfl
  ·rw [if_neg h2,if_neg h2,if_pos hin,Option.bind_some]
   by_cases h3:begR (s.drop p) docL=true
   ·simp only [if_pos h3,if_pos hin,Option.bind_some,size_B]
   ·rw [if_neg h3,if_neg h3,show (⟨#[60,47,62]⟩:ByteArray)=B voidL from rfl,begins_f s voidL p zu4 zu15 hp,Option.bind_some]
    by_cases h4:begR (s.drop p) voidL=true
    ·rw [if_pos h4,if_pos h4]
     have hl:=begR_length _ _ h4
     rw [List.length_drop] at hl
     simp only [voidL,List.length_cons,List.length_nil] at hl
     have w:wrap64 ((p:Int)+3)=((s.length - ((s.drop p).drop 3).length:Nat):Int):=by
      rw [List.length_drop,List.length_drop];unfold wrap64;omega
     rw [w];rfl
    ·rw [if_neg h4,if_neg h4,if_pos hin,Option.bind_some]
     have hl:=txN_le (s.drop p)
     rw [List.length_drop] at hl
     simp only [Int.toNat_natCast]
     by_cases h5:txN (s.drop p)=0
     ·rw [if_pos (by rw [h5];rfl),if_pos h5]
      have:s.length - (s.drop p).length=p:=by rw [List.length_drop];omega
      unfold tkOut
      simp only [this]
     ·rw [if_neg zu4,if_neg h5]
      have:s.length - ((s.drop p).drop (txN (s.drop p))).length=p+txN (s.drop p):=by rw [List.length_drop,List.length_drop];omega
      unfold tkOut
      simp only [this]
      rfl
 ·rw [if_pos (by simpa using h1),if_pos hin,Option.bind_some,size_B]
  have:tokL (s.drop p)=tagR (s.drop p):=by unfold tokL tagR;rw [if_pos h1,if_neg h1]
  rw [this]
theorem rawText_f {x:List UInt8} (refs:Bool) (hx:x.length≤100000):raw_Text.f (B x) refs=some (B (rawT refs x)):=by
 have hr:=rdL_le false x
 unfold raw_Text.f rawT ref_Decode.f
 cases refs with
 | true =>
   rw [if_pos rfl,if_pos (by rw [size_B];exact hx),Option.bind_some,B_data,clean_f _ zu4];rfl
 | false =>
   rw [if_neg zu15,clean_f _ zu4];rfl
theorem tok_ends_ev {s:List UInt8} {p:Nat} (name:List UInt8) {st:Nat} (hs:s.length≤100000) (hp:p≤s.length) (hl:name.length≤100000) (h4:st≤4) :
  Ev (fun k=>tok_ends.f k (B s) (p:Int) (st:Int) (B name)) (if st=0 then (⟨#[]⟩,(p:Int),false) else (B (rawT (st == 1) ((s.drop p).take (endN st name (s.drop p)))),((p+endN st name (s.drop p):Nat):Int),true)):=by
 have hf:raw_Find.f (B s) (p:Int) (B name)=some ((p+firstE name (s.drop p):Nat):Int):=by
  unfold raw_Find.f
  rw [if_pos (by rw [size_B,size_B];omega),B_data,B_data,size_B,show clN s.length (p:Int)=p by unfold clN;split<;>(try split)<;>omega,rawFind_first s name p hp]
 have hfl:firstE name (s.drop p)≤s.length - p:=by
  have:∀ l:List UInt8,firstE name l≤l.length:=fun l=>by
   induction l with
   | nil=>exact Nat.le_refl _
   | cons c r ih=>rw [firstE];split<;>simp only [List.length_cons]<;>omega
  have:=this (s.drop p)
  rwa [List.length_drop] at this
 have hx:∀ n,(B s).extract p (p+n)=B ((s.drop p).take n):=fun n=>by rw [B_extract,List.drop_take,Nat.add_sub_cancel_left]
 have hz:((B s).size:Int)=(s.length:Int):=by rw [size_B]
 have hR:∀ n,n≤s.length - p→∀ b,raw_Text.f ((B s).extract ((p:Nat):Int).toNat ((p+n:Nat):Int).toNat) b=some (B (rawT b ((s.drop p).take n))):=fun n hn b=>by
  rw [Int.toNat_natCast,Int.toNat_natCast,hx,rawText_f b (by rw [List.length_take,List.length_drop];omega)]
 unfold tok_ends.f
 simp only [hf,Option.bind_some]
 have hj:∀ (n:Nat),n≤s.length - p→∀ v,Ev (fun k=>tok_ends.j0 k (B s) (p:Int) (st:Int) ((p+n:Nat):Int) v true) (B (rawT (st == 1) ((s.drop p).take n)),((p+n:Nat):Int),true):=fun n hn v=>by
  refine Ev.step (f:=fun _=>some (B (rawT (st == 1) ((s.drop p).take n)),((p+n:Nat):Int),true)) (fun k => ?_) (Ev.now _)
  have hb:((st:Int) == 1)=(st == 1):=by rw [Bool.eq_iff_iff,beq_iff_eq,beq_iff_eq];omega
  rw [tok_ends.j0,if_pos rfl,if_pos zu4,if_pos zu4,if_pos (by rw [hz];omega),hR n hn,Option.bind_some]
  simp only [hb]
 by_cases h3:st=3
 ·subst h3
  simp only [if_pos (show (((3:Nat):Int)=3) from rfl),if_neg (show ¬ ((3:Nat)=0) by decide)]
  have hF:=find_f s zu4 (p:Int)
  rw [show clampN s.length (p:Int)=p by unfold clampN;split<;>(try split)<;>omega] at hF
  have he:endN 3 name (s.drop p)=(findL 0 0 (s.drop p)).1:=rfl
  have hfe:(findL 0 0 (s.drop p)).1≤s.length - p:=by
   have:∀ n st ct (l:List UInt8),(runF n st ct l).1≤l.length:=fun n=>by
    induction n with
    | zero=>intro st ct l;exact Nat.zero_le _
    | succ n ih =>
      intro st ct l
      rw [runF]
      split
      ·exact Nat.zero_le _
      ·rename_i m st' ct' h
       have h1:=stepF_adv h
       have h2:=ih st' ct' (l.drop m)
       rw [List.length_drop] at h2
       simp only;omega
   have:=this (s.drop p).length 0 0 (s.drop p)
   rw [List.length_drop] at this
   unfold findL;rw [List.length_drop];exact this
  rw [he]
  refine Ev.bind hF ?_
  unfold findV
  simp only
  have q1:(0:Int)≤(p:Int):=by omega
  have q2:(p:Int)≤((p+(findL 0 0 (s.drop p)).1:Nat):Int):=by omega
  have q3:((p+(findL 0 0 (s.drop p)).1:Nat):Int)≤((B s).size:Int):=by rw [hz];omega
  simp only [if_pos q1,if_pos q2,if_pos q3,hR _ hfe,Option.bind_some]
  exact Ev.now _
 ·have n3:¬ (st:Int)=3:=by omega
  simp only [if_neg n3]
  by_cases h1:st=1
  ·subst h1
   simp only [if_pos (show (((1:Nat):Int)=1) from rfl),if_neg (show ¬ ((1:Nat)=0) by decide)]
   exact hj _ hfl _
  ·have n1:¬ (st:Int)=1:=by omega
   simp only [if_neg n1]
   by_cases h2:st=2
   ·subst h2
    rw [if_neg zu15]
    exact hj _ hfl _
   ·have hb2:((st:Int) == 2)=false:=by rw [beq_eq_false_iff_ne];omega
    rw [hb2]
    by_cases h0:st=0
    ·subst h0
     rw [if_pos rfl]
     exact Ev.step (f:=fun _=>some (⟨#[]⟩,(p:Int),false)) (fun k=>by rw [tok_ends.j0,if_neg zu15,if_neg zu15]) (Ev.now _)
    ·have h4':st=4:=by omega
     subst h4'
     rw [if_neg zu15]
     have he:endN 4 name (s.drop p)=s.length - p:=by unfold endN;rw [if_neg zu15,if_neg zu15,List.length_drop]
     rw [he]
     refine Ev.step (f:=fun _=>some (B (rawT false ((s.drop p).take (s.length - p))),((p+(s.length - p):Nat):Int),true)) (fun k => ?_) (Ev.now _)
     have e1:(s.drop p).take (s.length - p)=s.drop p:=List.take_of_length_le (Nat.le_of_eq List.length_drop)
     have e2:(B s).extract ((p:Nat):Int).toNat (B s).size=B (s.drop p):=by rw [Int.toNat_natCast,size_B,B_extract,List.take_length]
     rw [tok_ends.j0,if_neg zu15,if_pos zu15,if_pos zu4,if_pos (by rw [hz];omega),e2,clean_f _ zu47,Option.bind_some,e1,hz,show p+(s.length - p)=s.length by omega]
     rfl
theorem B_nil_iff (x:List UInt8):(B x).toList=[]↔x=[]:=by rw [toList_data,B_data]
theorem tagOut {s:List UInt8} {p:Nat} (X:List TkS) (hX:X.length≤100) (hs:s.length≤100000) (hp:p≤s.length) :
  Ev (fun k=>tok_Rest.j0 k (B s) X (p:Int)) (if p=s.length then (X,(p:Int)) else (X++((tagR (s.drop p)).1.toList.map ofK),((s.length - (tagR (s.drop p)).2.length:Nat):Int))):=by
 by_cases h:p=s.length
 ·rw [if_pos h]
  exact Ev.step (f:=fun _=>some (X,(p:Int))) (fun k=>by rw [tok_Rest.j0,if_pos (by rw [size_B,h])]) (Ev.now _)
 ·rw [if_neg h]
  refine Ev.step (f:=fun _=>some (X++((tagR (s.drop p)).1.toList.map ofK),((s.length - (tagR (s.drop p)).2.length:Nat):Int))) (fun k => ?_) (Ev.now _)
  rw [tok_Rest.j0,if_neg zu36]
  unfold tag_Read.f
  rw [if_pos (inT_ok hs hp),Option.bind_some,atT_B,size_B]
  generalize tagR (s.drop p)=R
  obtain ⟨o,r⟩:=R
  cases o with
  | none=>simp [tkOut]
  | some t =>
    unfold tkOut
    simp only [if_true]
    rw [if_pos zu4]
    rfl
theorem rest_ev {s:List UInt8} {p:Nat} (name:List UInt8) {st:Nat} (hs:s.length≤100000) (hp:p≤s.length) (hl:name.length≤100000) (h4:st≤4) :
  Ev (fun k=>tok_Rest.f k (B s) (p:Int) (st:Int) (B name)) ((restL st name (s.drop p)).1.map ofK,((s.length - (restL st name (s.drop p)).2.length:Nat):Int)):=by
 have hE:=tok_ends_ev name hs hp hl h4
 unfold tok_Rest.f
 simp only [inside_f hs hp,Option.bind_some]
 refine Ev.bind hE ?_
 by_cases h0:st=0
 ·have hr:restL st name (s.drop p)=([],s.drop p):=by unfold restL;rw [if_pos (.inl h0)]
  rw [if_pos h0,hr]
  have:s.length - (s.drop p).length=p:=by rw [List.length_drop];omega
  simp only [this]
  exact Ev.now _
 ·rw [if_neg h0]
  have hno:¬ (st=0∨4<st):=by omega
  have hn:endN st name (s.drop p)≤s.length - p:=by
   have h1:∀ l:List UInt8,firstE name l≤l.length:=fun l=>by
    induction l with
    | nil=>exact Nat.le_refl _
    | cons c r ih=>rw [firstE];split<;>simp only [List.length_cons]<;>omega
   have h2:∀ n st ct (l:List UInt8),(runF n st ct l).1≤l.length:=fun n=>by
    induction n with
    | zero=>intro st ct l;exact Nat.zero_le _
    | succ n ih =>
      intro st ct l
      rw [runF]
      split
      ·exact Nat.zero_le _
      ·rename_i m st' ct' h
       have h1:=stepF_adv h
       have h2:=ih st' ct' (l.drop m)
       rw [List.length_drop] at h2
       simp only;omega
   have h3:=h1 (s.drop p)
   have h5:=h2 (s.drop p).length 0 0 (s.drop p)
   unfold endN findL
   rw [List.length_drop] at *
   split
   ·exact h3
   ·split
    ·exact h5
    ·exact Nat.le_refl _
  have hrest:restL st name (s.drop p)=if (s.drop p).drop (endN st name (s.drop p))=[] then (txtT (rawT (st == 1) ((s.drop p).take (endN st name (s.drop p)))),[])
    else (txtT (rawT (st == 1) ((s.drop p).take (endN st name (s.drop p))))++(tagR ((s.drop p).drop (endN st name (s.drop p)))).1.toList,(tagR ((s.drop p).drop (endN st name (s.drop p)))).2):=by
   unfold restL;rw [if_neg hno]
  rw [hrest]
  generalize rawT (st == 1) ((s.drop p).take (endN st name (s.drop p)))=u
  generalize endN st name (s.drop p)=n at *
  simp only [if_true]
  have key:∀ X:List TkS,X.length≤100→X=(txtT u).map ofK→Ev (fun k=>tok_Rest.j0 k (B s) X ((p+n:Nat):Int)) ((if (s.drop p).drop n=[] then (txtT u,[]) else (txtT u++(tagR ((s.drop p).drop n)).1.toList,(tagR ((s.drop p).drop n)).2)).1.map ofK,((s.length - (if (s.drop p).drop n=[] then (txtT u,([]:List UInt8)) else (txtT u++(tagR ((s.drop p).drop n)).1.toList,(tagR ((s.drop p).drop n)).2)).2.length:Nat):Int)):=by
   intro X hX hXe
   have hT:=tagOut (s:=s) (p:=p+n) X hX hs zu4
   rw [List.drop_drop]
   by_cases he:p+n=s.length
   ·rw [if_pos he] at hT
    rw [if_pos (by rw [he,List.drop_length])]
    rw [hXe,he] at hT
    rw [hXe,he]
    exact hT
   ·rw [if_neg he] at hT
    rw [if_neg (by rw [List.drop_eq_nil_iff];omega)]
    simp only [List.map_append]
    rw [← hXe]
    exact hT
  by_cases hu:u=[]
  ·simp only [if_pos ((B_nil_iff u).2 hu)]
   refine key [] zu19 ?_
   unfold txtT;rw [if_pos hu];rfl
  ·simp only [if_neg (fun e=>hu ((B_nil_iff u).1 e))]
   have q:([]:List TkS).length<1954687338268:=by decide
   simp only [if_pos q]
   refine key _ zu19 ?_
   unfold txtT;rw [if_neg hu];rfl
end Pure
end

end Go.Proofs.YtclkdmmgibgamaaGreatDoor