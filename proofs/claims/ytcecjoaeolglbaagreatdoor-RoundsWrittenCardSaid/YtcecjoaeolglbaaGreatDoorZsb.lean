/-
  Texts that several claims of this seat share, merged by a program of this session (2).
-/
import Derived.KernelRfl
import Derived.Lib.IndexLaws
import Derived.Lib.LastIndexByte
import Derived.WalkLawsBesides
import Derived.Laws.Cover1
import Derived.LoopN
import Derived.Laws.FloatArith
import Derived.Laws.Cover2
import Derived.Lib.ConvBytes
import Derived.Laws.Cover3
import Derived.Laws.ComplexArith
import Derived.ChangeKeysEq
import Derived.Laws.Rows
import Derived.Laws.Tables
import Derived.Deep.WholeRow
import Derived.Great.Walk
import Derived.Test.YtcecjoaeolglbaaGreatDoorZsa
set_option linter.unusedVariables false
set_option linter.unusedSimpArgs false
section
namespace Go.Proofs.YtcecjoaeolglbaaGreatDoor.Hand
open Go.RowKit Go.Proofs.YtcecjoaeolglbaaGreatDoor.Pl Go.Proofs.YtcecjoaeolglbaaGreatDoor.Sa Go.Proofs.YtcecjoaeolglbaaGreatDoorW.PrintWords Go.Proofs.YtcecjoaeolglbaaGreatDoorW.PrintLast Go.Proofs.YtcecjoaeolglbaaGreatDoorW.PrintMore
attribute [local go_sem] max2_int min2_int max_two min_two max_three min_three max_four min_four
def script_Find.m (k:Nat) (L:Int→Int→Int→Option (Int×Int)) (s:ByteArray) (nx st ct:Int):Option (Int×Int) :=
 if 0≤nx then (if nx<(s.size:Int) then
  (if bt s nx=45 then L (wrap64 (nx+1)) st (wrap64 (ct+1))
  else if bt s nx=62∧2≤ct then L (wrap64 (nx+1)) 0 0
  else if st=1 then (script_word.f k s nx ⟨#[60]⟩).bind fun x=>if x>0 then L (wrap64 (nx+x)) 2 0 else L (wrap64 (nx+1)) 1 0
  else if st=2 then (script_word.f k s nx ⟨#[60,47]⟩).bind fun x=>if x>0 then L (wrap64 (nx+x)) 1 0 else L (wrap64 (nx+1)) 2 0
  else L (wrap64 (nx+1)) st 0) else none) else none
def script_Find.l:Nat→ByteArray→Int→Int→Int→Option (Int×Int)
 | 0,_,_,_,_=>none
 | k+1,s,nx,st,ct =>
   if nx=(s.size:Int) then some (nx,st)
   else if st=2 then script_Find.m k (script_Find.l k s) s nx st ct
   else (raw_Ends.f k s nx ⟨#[115,99,114,105,112,116]⟩).bind fun e =>
    if e=true then some (nx,st)
    else if st=0 then (sign_Begins.f s nx ⟨#[60,33,45,45]⟩).bind fun b=>if b=true then script_Find.l k s (wrap64 (nx+4)) 1 2 else script_Find.l k s (wrap64 (nx+1)) 0 ct
    else script_Find.m k (script_Find.l k s) s nx st ct
def script_Find.f (k:Nat) (a0:ByteArray) (a1:Int):Option (Int×Int):=script_Find.l k a0 (mn (mx a1 0) (a0.size:Int)) 0 0
def FindJ (s:ByteArray) (w:World) (r1 r2:Int) (g:Nat) (a':Act) (wr:World):Prop :=
 ∃ (nx st ct:Int) (u1 u2 u3 u7 u8 u9 u10 u11 u12 u13 u14 u15 u16 u17 u18 u19 u20 u21 u22 u23 u24 u25 u26 u27 u28 u29 u30 u31 u32 u33 u34 u35 u36 u37 u38 u39 u40 u41 u42 u43 u44 u45 u46 u47 u48 u49 u50 u51 u52 u53 u54 u55 u56 u57 u58 u59 u60 u61 u62 u63 u64 u65 u66 u67 u68 u69 u70 u71 u72 u73 u74 u75:Value),
   a'={ tmps := #[.string s,u1,u2,u3,.int .i64 nx,.int .i64 st,.int .i64 ct,u7,u8,u9,u10,u11,u12,u13,u14,u15,u16,u17,u18,u19,u20,u21,u22,u23,u24,u25,u26,u27,u28,u29,u30,u31,u32,u33,u34,u35,u36,u37,u38,u39,u40,u41,u42,u43,u44,u45,u46,u47,u48,u49,u50,u51,u52,u53,u54,u55,u56,u57,u58,u59,u60,u61,u62,u63,u64,u65,u66,u67,u68,u69,u70,u71,u72,u73,u74,u75],defers:=[] }∧Hid (script_Find.l g s nx st ct=some (r1,r2))∧Below w.heap.size w wr
theorem below_on {w W W1:World} (h:Below w.heap.size w W) (k:Below W.heap.size W W1):Below w.heap.size w W1:=h.trans (k.mono h.size)
set_option maxHeartbeats 2000000 in
set_option maxRecDepth 100000 in
theorem script_Find.calls (k:Nat) (a0:ByteArray) (a1:Int) (r1 r2:Int) (w:World) (h:script_Find.f k a0 a1=some (r1,r2)) :
  Calls Tryz.prog 135 #[.string a0,.int .i64 a1] w fun e w'=>e = .returned (.tuple #[.int .i64 r1,.int .i64 r2])∧Below w.heap.size w w':=by
 unfold script_Find.f at h
 obtain ⟨j1,hj1⟩:∃ j,mx a1 0=j:=⟨_,rfl⟩
 rw [hj1] at h
 obtain ⟨j2,hj2⟩:∃ j,mn j1 (a0.size:Int)=j:=⟨_,rfl⟩
 rw [hj2] at h
 have H0:=Lib.hid h
 clear h
 replace hj1:(if a1<0 then 0 else a1)=j1:=hj1
 replace hj2:(if (a0.size:Int)<j1 then (a0.size:Int) else j1)=j2:=hj2
 generalize hs:a0=s at *
 clear hs a0
 go_enter Tryz.func135,Tryz.ntmps135
 go_wp2
 refine wp_scope_back 0 (FindJ s w r1 r2) rfl ?_ ?_
 · intro hB
   have HB:=Lib.hid hB
   clear hB
   go_wp2
   refine wp_label_k (by assumption) (HB.out k _ _ ?_)
   exact ⟨_,_,_,_,_,_,_,_,_,_,_,_,_,_,_,_,_,_,_,_,_,_,_,_,_,_,_,_,_,_,_,_,_,_,_,_,_,_,_,_,_,_,_,_,_,_,_,_,_,_,_,_,_,_,_,_,_,_,_,_,_,_,_,_,_,_,_,_,_,_,_,_,_,_,_,rfl,H0,Below.refl _ _⟩
 · rintro g a' wr ⟨nx,st,ct,u1,u2,u3,u7,u8,u9,u10,u11,u12,u13,u14,u15,u16,u17,u18,u19,u20,u21,u22,u23,u24,u25,u26,u27,u28,u29,u30,u31,u32,u33,u34,u35,u36,u37,u38,u39,u40,u41,u42,u43,u44,u45,u46,u47,u48,u49,u50,u51,u52,u53,u54,u55,u56,u57,u58,u59,u60,u61,u62,u63,u64,u65,u66,u67,u68,u69,u70,u71,u72,u73,u74,u75,rfl,HJ,hb⟩
   clear H0 hj1 hj2
   cases g with
   | zero=>exact absurd HJ.out (by simp [script_Find.l])
   | succ g =>
     have H:=HJ.out
     clear HJ
     rw [script_Find.l] at H
     have HB:=Lib.hid hb
     clear hb
     by_cases c1:nx=(s.size:Int)
     · rw [if_pos c1] at H
       have t1:(nx == (s.size:Int))=true:=beq_iff_eq.2 c1
       simp only [Option.some.injEq,Prod.mk.injEq] at H
       obtain ⟨rfl,rfl⟩:=H
       clear c1
       go_wp2
       simp only [Exit.jumps]
       go_ret2
       exact ⟨rfl,HB.out⟩
     rw [if_neg c1] at H
     have t1:(nx == (s.size:Int))=false:=beq_eq_false_iff_ne.2 c1
     clear c1
     by_cases c2:st=2
     · subst c2
       rw [if_pos rfl] at H
       unfold script_Find.m at H
       have d0:0≤nx:=Decidable.byContradiction fun d0=>by rw [if_neg d0] at H;cases H
       have d1:nx<(s.size:Int):=Decidable.byContradiction fun d1=>by rw [if_pos d0,if_neg d1] at H;cases H
       rw [if_pos d0,if_pos d1] at H
       have hx:=bt_at s nx
       replace d0:=eq_true d0
       replace d1:=eq_true d1
       by_cases d2:bt s nx=45
       · rw [if_pos d2] at H
         have d2b:(bt s nx == 45)=true:=beq_iff_eq.2 d2
         clear d2
         have H':=Lib.hid H;clear H;have H:=H';clear H'
         go_wp2
         go_step3
         exact ⟨rfl,g,Nat.lt_succ_self _,_,_,_,_,_,_,_,_,_,_,_,_,_,_,_,_,_,_,_,_,_,_,_,_,_,_,_,_,_,_,_,_,_,_,_,_,_,_,_,_,_,_,_,_,_,_,_,_,_,_,_,_,_,_,_,_,_,_,_,_,_,_,_,_,_,_,_,_,_,_,_,_,_,_,_,rfl,H.out,HB.out⟩
       rw [if_neg d2] at H
       have d2b:(bt s nx == 45)=false:=beq_eq_false_iff_ne.2 d2
       clear d2
       by_cases d3:bt s nx=62∧2≤ct
       · rw [if_pos d3] at H
         have d3b:(bt s nx == 62)=true:=beq_iff_eq.2 d3.1
         have d3c:decide (2≤ct)=true:=decide_eq_true d3.2
         clear d3
         have H':=Lib.hid H;clear H;have H:=H';clear H'
         go_wp2
         go_step3
         exact ⟨rfl,g,Nat.lt_succ_self _,_,_,_,_,_,_,_,_,_,_,_,_,_,_,_,_,_,_,_,_,_,_,_,_,_,_,_,_,_,_,_,_,_,_,_,_,_,_,_,_,_,_,_,_,_,_,_,_,_,_,_,_,_,_,_,_,_,_,_,_,_,_,_,_,_,_,_,_,_,_,_,_,_,_,_,rfl,H.out,HB.out⟩
       rw [if_neg d3] at H
       have d4:(bt s nx == 62)=false∨((bt s nx == 62)=true∧decide (2≤ct)=false):=by
        by_cases e:bt s nx=62
        · exact .inr ⟨beq_iff_eq.2 e,decide_eq_false fun h=>d3 ⟨e,h⟩⟩
        · exact .inl (beq_eq_false_iff_ne.2 e)
       clear d3
       rw [if_neg (by decide),if_pos rfl] at H
       replace H:=Option.bind_eq_some_iff.1 H
       obtain ⟨x,AW0,H⟩:=H
       have AW:=Lib.hid AW0
       clear AW0
       by_cases d5:x>0
       · rw [if_pos d5] at H
         have d5b:decide (0<x)=true:=decide_eq_true d5
         clear d5
         have H':=Lib.hid H;clear H;have H:=H';clear H'
         rcases d4 with d4|⟨d4,d4c⟩
         all_goals
          go_wp2_with (first | (go_at_call 181;(with_reducible refine (script_word.calls g s nx _ _ _ AW.out).mono ?_);rintro e' w1 ⟨rfl,b1⟩;have HC:=Lib.hid (below_on HB.out b1);clear b1 HB;have HB:=HC;clear HC))
          go_step3
          exact ⟨rfl,g,Nat.lt_succ_self _,_,_,_,_,_,_,_,_,_,_,_,_,_,_,_,_,_,_,_,_,_,_,_,_,_,_,_,_,_,_,_,_,_,_,_,_,_,_,_,_,_,_,_,_,_,_,_,_,_,_,_,_,_,_,_,_,_,_,_,_,_,_,_,_,_,_,_,_,_,_,_,_,_,_,_,rfl,H.out,HB.out⟩
       · rw [if_neg d5] at H
         have d5b:decide (0<x)=false:=decide_eq_false d5
         clear d5
         have H':=Lib.hid H;clear H;have H:=H';clear H'
         rcases d4 with d4|⟨d4,d4c⟩
         all_goals
          go_wp2_with (first | (go_at_call 181;(with_reducible refine (script_word.calls g s nx _ _ _ AW.out).mono ?_);rintro e' w1 ⟨rfl,b1⟩;have HC:=Lib.hid (below_on HB.out b1);clear b1 HB;have HB:=HC;clear HC))
          go_step3
          exact ⟨rfl,g,Nat.lt_succ_self _,_,_,_,_,_,_,_,_,_,_,_,_,_,_,_,_,_,_,_,_,_,_,_,_,_,_,_,_,_,_,_,_,_,_,_,_,_,_,_,_,_,_,_,_,_,_,_,_,_,_,_,_,_,_,_,_,_,_,_,_,_,_,_,_,_,_,_,_,_,_,_,_,_,_,_,rfl,H.out,HB.out⟩
     · rw [if_neg c2] at H
       replace H:=Option.bind_eq_some_iff.1 H
       obtain ⟨e,AE0,H⟩:=H
       have AE:=Lib.hid AE0
       clear AE0
       have t2:(st != 2)=true:=bne_iff_ne.2 c2
       by_cases c3:e=true
       · subst c3
         rw [if_pos rfl] at H
         simp only [Option.some.injEq,Prod.mk.injEq] at H
         obtain ⟨rfl,rfl⟩:=H
         clear c2
         go_wp2_with (first | (go_at_call 180;(with_reducible refine (raw_Ends.calls g s nx _ _ _ AE.out).mono ?_);rintro e' w1 ⟨rfl,b1⟩;have HC:=Lib.hid (below_on HB.out b1);clear b1 HB;have HB:=HC;clear HC))
         simp only [Exit.jumps]
         go_ret2
         exact ⟨rfl,HB.out⟩
       rw [if_neg c3] at H
       obtain rfl:e=false:=by simpa using c3
       clear c3
       by_cases c4:st=0
       · subst c4
         rw [if_pos rfl] at H
         clear c2
         replace H:=Option.bind_eq_some_iff.1 H
         obtain ⟨b,AB0,H⟩:=H
         have AB:=Lib.hid AB0
         clear AB0
         cases b with
         | true =>
           rw [if_pos rfl] at H
           have H':=Lib.hid H;clear H;have H:=H';clear H'
           go_wp2_with (first | (go_at_call 180;(with_reducible refine (raw_Ends.calls g s nx _ _ _ AE.out).mono ?_);rintro e' w1 ⟨rfl,b1⟩;have HC:=Lib.hid (below_on HB.out b1);clear b1 HB;have HB:=HC;clear HC) | (go_at_call 95;(with_reducible refine (sign_Begins.calls s nx _ _ _ AB.out).mono ?_);rintro e' w1 ⟨rfl,b1⟩;have HC:=Lib.hid (below_on HB.out b1);clear b1 HB;have HB:=HC;clear HC))
           go_step3
           exact ⟨rfl,g,Nat.lt_succ_self _,_,_,_,_,_,_,_,_,_,_,_,_,_,_,_,_,_,_,_,_,_,_,_,_,_,_,_,_,_,_,_,_,_,_,_,_,_,_,_,_,_,_,_,_,_,_,_,_,_,_,_,_,_,_,_,_,_,_,_,_,_,_,_,_,_,_,_,_,_,_,_,_,_,_,_,rfl,H.out,HB.out⟩
         | false =>
           rw [if_neg (by simp)] at H
           have H':=Lib.hid H;clear H;have H:=H';clear H'
           go_wp2_with (first | (go_at_call 180;(with_reducible refine (raw_Ends.calls g s nx _ _ _ AE.out).mono ?_);rintro e' w1 ⟨rfl,b1⟩;have HC:=Lib.hid (below_on HB.out b1);clear b1 HB;have HB:=HC;clear HC) | (go_at_call 95;(with_reducible refine (sign_Begins.calls s nx _ _ _ AB.out).mono ?_);rintro e' w1 ⟨rfl,b1⟩;have HC:=Lib.hid (below_on HB.out b1);clear b1 HB;have HB:=HC;clear HC))
           go_step3
           exact ⟨rfl,g,Nat.lt_succ_self _,_,_,_,_,_,_,_,_,_,_,_,_,_,_,_,_,_,_,_,_,_,_,_,_,_,_,_,_,_,_,_,_,_,_,_,_,_,_,_,_,_,_,_,_,_,_,_,_,_,_,_,_,_,_,_,_,_,_,_,_,_,_,_,_,_,_,_,_,_,_,_,_,_,_,_,rfl,H.out,HB.out⟩
       rw [if_neg c4] at H
       have t4:(st == 0)=false:=beq_eq_false_iff_ne.2 c4
       clear c4
       unfold script_Find.m at H
       have d0:0≤nx:=Decidable.byContradiction fun d0=>by rw [if_neg d0] at H;cases H
       have d1:nx<(s.size:Int):=Decidable.byContradiction fun d1=>by rw [if_pos d0,if_neg d1] at H;cases H
       rw [if_pos d0,if_pos d1] at H
       have hx:=bt_at s nx
       replace d0:=eq_true d0
       replace d1:=eq_true d1
       by_cases d2:bt s nx=45
       · rw [if_pos d2] at H
         have d2b:(bt s nx == 45)=true:=beq_iff_eq.2 d2
         clear d2
         have H':=Lib.hid H;clear H;have H:=H';clear H'
         go_wp2_with (first | (go_at_call 180;(with_reducible refine (raw_Ends.calls g s nx _ _ _ AE.out).mono ?_);rintro e' w1 ⟨rfl,b1⟩;have HC:=Lib.hid (below_on HB.out b1);clear b1 HB;have HB:=HC;clear HC))
         go_step3
         exact ⟨rfl,g,Nat.lt_succ_self _,_,_,_,_,_,_,_,_,_,_,_,_,_,_,_,_,_,_,_,_,_,_,_,_,_,_,_,_,_,_,_,_,_,_,_,_,_,_,_,_,_,_,_,_,_,_,_,_,_,_,_,_,_,_,_,_,_,_,_,_,_,_,_,_,_,_,_,_,_,_,_,_,_,_,_,rfl,H.out,HB.out⟩
       rw [if_neg d2] at H
       have d2b:(bt s nx == 45)=false:=beq_eq_false_iff_ne.2 d2
       clear d2
       by_cases d3:bt s nx=62∧2≤ct
       · rw [if_pos d3] at H
         have d3b:(bt s nx == 62)=true:=beq_iff_eq.2 d3.1
         have d3c:decide (2≤ct)=true:=decide_eq_true d3.2
         clear d3
         have H':=Lib.hid H;clear H;have H:=H';clear H'
         go_wp2_with (first | (go_at_call 180;(with_reducible refine (raw_Ends.calls g s nx _ _ _ AE.out).mono ?_);rintro e' w1 ⟨rfl,b1⟩;have HC:=Lib.hid (below_on HB.out b1);clear b1 HB;have HB:=HC;clear HC))
         go_step3
         exact ⟨rfl,g,Nat.lt_succ_self _,_,_,_,_,_,_,_,_,_,_,_,_,_,_,_,_,_,_,_,_,_,_,_,_,_,_,_,_,_,_,_,_,_,_,_,_,_,_,_,_,_,_,_,_,_,_,_,_,_,_,_,_,_,_,_,_,_,_,_,_,_,_,_,_,_,_,_,_,_,_,_,_,_,_,_,rfl,H.out,HB.out⟩
       rw [if_neg d3] at H
       have d4:(bt s nx == 62)=false∨((bt s nx == 62)=true∧decide (2≤ct)=false):=by
        by_cases e:bt s nx=62
        · exact .inr ⟨beq_iff_eq.2 e,decide_eq_false fun h=>d3 ⟨e,h⟩⟩
        · exact .inl (beq_eq_false_iff_ne.2 e)
       clear d3
       by_cases d6:st=1
       · subst d6
         rw [if_pos rfl] at H
         replace H:=Option.bind_eq_some_iff.1 H
         obtain ⟨x,AW0,H⟩:=H
         have AW:=Lib.hid AW0
         clear AW0
         by_cases d5:x>0
         · rw [if_pos d5] at H
           have d5b:decide (0<x)=true:=decide_eq_true d5
           clear d5
           have H':=Lib.hid H;clear H;have H:=H';clear H'
           rcases d4 with d4|⟨d4,d4c⟩
           all_goals
            go_wp2_with (first | (go_at_call 180;(with_reducible refine (raw_Ends.calls g s nx _ _ _ AE.out).mono ?_);rintro e' w1 ⟨rfl,b1⟩;have HC:=Lib.hid (below_on HB.out b1);clear b1 HB;have HB:=HC;clear HC) | (go_at_call 181;(with_reducible refine (script_word.calls g s nx _ _ _ AW.out).mono ?_);rintro e' w1 ⟨rfl,b1⟩;have HC:=Lib.hid (below_on HB.out b1);clear b1 HB;have HB:=HC;clear HC))
            go_step3
            exact ⟨rfl,g,Nat.lt_succ_self _,_,_,_,_,_,_,_,_,_,_,_,_,_,_,_,_,_,_,_,_,_,_,_,_,_,_,_,_,_,_,_,_,_,_,_,_,_,_,_,_,_,_,_,_,_,_,_,_,_,_,_,_,_,_,_,_,_,_,_,_,_,_,_,_,_,_,_,_,_,_,_,_,_,_,_,rfl,H.out,HB.out⟩
         · rw [if_neg d5] at H
           have d5b:decide (0<x)=false:=decide_eq_false d5
           clear d5
           have H':=Lib.hid H;clear H;have H:=H';clear H'
           rcases d4 with d4|⟨d4,d4c⟩
           all_goals
            go_wp2_with (first | (go_at_call 180;(with_reducible refine (raw_Ends.calls g s nx _ _ _ AE.out).mono ?_);rintro e' w1 ⟨rfl,b1⟩;have HC:=Lib.hid (below_on HB.out b1);clear b1 HB;have HB:=HC;clear HC) | (go_at_call 181;(with_reducible refine (script_word.calls g s nx _ _ _ AW.out).mono ?_);rintro e' w1 ⟨rfl,b1⟩;have HC:=Lib.hid (below_on HB.out b1);clear b1 HB;have HB:=HC;clear HC))
            go_step3
            exact ⟨rfl,g,Nat.lt_succ_self _,_,_,_,_,_,_,_,_,_,_,_,_,_,_,_,_,_,_,_,_,_,_,_,_,_,_,_,_,_,_,_,_,_,_,_,_,_,_,_,_,_,_,_,_,_,_,_,_,_,_,_,_,_,_,_,_,_,_,_,_,_,_,_,_,_,_,_,_,_,_,_,_,_,_,_,rfl,H.out,HB.out⟩
       · rw [if_neg d6,if_neg c2] at H
         have d6b:(st == 1)=false:=beq_eq_false_iff_ne.2 d6
         have d6c:(st == 2)=false:=beq_eq_false_iff_ne.2 c2
         clear d6 c2
         have H':=Lib.hid H;clear H;have H:=H';clear H'
         rcases d4 with d4|⟨d4,d4c⟩
         all_goals
          go_wp2_with (first | (go_at_call 180;(with_reducible refine (raw_Ends.calls g s nx _ _ _ AE.out).mono ?_);rintro e' w1 ⟨rfl,b1⟩;have HC:=Lib.hid (below_on HB.out b1);clear b1 HB;have HB:=HC;clear HC))
          go_step3
          exact ⟨rfl,g,Nat.lt_succ_self _,_,_,_,_,_,_,_,_,_,_,_,_,_,_,_,_,_,_,_,_,_,_,_,_,_,_,_,_,_,_,_,_,_,_,_,_,_,_,_,_,_,_,_,_,_,_,_,_,_,_,_,_,_,_,_,_,_,_,_,_,_,_,_,_,_,_,_,_,_,_,_,_,_,_,_,rfl,H.out,HB.out⟩
end Go.Proofs.YtcecjoaeolglbaaGreatDoor.Hand
end

section
namespace Go.Proofs.YtcecjoaeolglbaaGreatDoor.Pl
def ltB:List UInt8→List UInt8→Bool
 | [],[]=>false
 | [],_::_=>true
 | _::_,[]=>false
 | a::l,b::m=>if a.toNat<b.toNat then true else if b.toNat<a.toNat then false else ltB l m
theorem ltB_trans:∀ {a b c:List UInt8},ltB a b=true→ltB b c=true→ltB a c=true:=by
 intro a
 induction a with
 | nil =>
   intro b c h1 h2
   cases c with
   | nil=>cases b<;>simp [ltB] at h1 h2
   | cons=>rfl
 | cons x l ih =>
   intro b c h1 h2
   cases b with
   | nil=>simp [ltB] at h1
   | cons y m =>
     cases c with
     | nil=>simp [ltB] at h2
     | cons z n =>
       simp only [ltB] at h1 h2 ⊢
       by_cases hxy:x.toNat<y.toNat
       · by_cases hyz:y.toNat<z.toNat
         · rw [if_pos (by omega)]
         · by_cases hzy:z.toNat<y.toNat
           · rw [if_neg hyz,if_pos hzy] at h2;cases h2
           · rw [if_pos (by omega)]
       · by_cases hyx:y.toNat<x.toNat
         · rw [if_neg hxy,if_pos hyx] at h1;cases h1
         · rw [if_neg hxy,if_neg hyx] at h1
           by_cases hyz:y.toNat<z.toNat
           · rw [if_pos (by omega)]
           · by_cases hzy:z.toNat<y.toNat
             · rw [if_neg hyz,if_pos hzy] at h2;cases h2
             · rw [if_neg hyz,if_neg hzy] at h2
               rw [if_neg (by omega),if_neg (by omega)]
               exact ih h1 h2
theorem ltB_irrefl:∀ a:List UInt8,ltB a a=false:=by
 intro a
 induction a with
 | nil=>rfl
 | cons x l ih=>simp [ltB,ih]
theorem ltB_total:∀ a b:List UInt8,ltB a b=false→ltB b a=false→a=b:=by
 intro a
 induction a with
 | nil=>intro b h _;cases b with
   | nil=>rfl
   | cons=>simp [ltB] at h
 | cons x l ih =>
   intro b h1 h2
   cases b with
   | nil=>simp [ltB] at h2
   | cons y m =>
     simp only [ltB] at h1 h2
     by_cases hxy:x.toNat<y.toNat
     · rw [if_pos hxy] at h1;cases h1
     · by_cases hyx:y.toNat<x.toNat
       · rw [if_pos hyx] at h2;cases h2
       · rw [if_neg hxy,if_neg hyx] at h1
         rw [if_neg hyx,if_neg hxy] at h2
         have:x=y:=UInt8.toNat_inj.1 (by omega)
         rw [this,ih m h1 h2]
theorem ltB_ne {a b:List UInt8} (h:ltB a b=true):a≠b:=by rintro rfl;rw [ltB_irrefl] at h;cases h
def isHexU (c:UInt8):Bool:=(48≤c.toNat&&c.toNat≤57) || (65≤c.toNat&&c.toNat≤70)
def tabOk:List UInt8→List UInt8→List UInt8→Bool→Bool
 | [],_,_,inKey => !inKey
 | c::r,last,acc,true=>if c.toNat=32 then (ltB last acc.reverse&&tabOk r acc.reverse [] false) else (c.toNat≠10&&tabOk r last (c::acc) true)
 | c::r,last,acc,false=>if c.toNat=10 then tabOk r last [] true else ((isHexU c || c.toNat == 32)&&tabOk r last acc false)
theorem tab_rest:∀ (r last acc:List UInt8),tabOk r last acc false=true→∃ q t,r=q++t∧(∀ c∈q,c≠10∧(isHexU c=true∨c=32))∧(t=[]∨∃ r',t=10::r'∧tabOk r' last [] true=true):=by
 intro r
 induction r with
 | nil=>intro last acc _;exact ⟨[],[],rfl,by simp,.inl rfl⟩
 | cons c r ih =>
   intro last acc h
   rw [tabOk] at h
   by_cases h10:c.toNat=10
   · rw [if_pos h10] at h
     obtain rfl:c=10:=UInt8.toNat_inj.1 h10
     exact ⟨[],10::r,rfl,by simp,.inr ⟨r,rfl,h⟩⟩
   · rw [if_neg h10,Bool.and_eq_true,Bool.or_eq_true] at h
     obtain ⟨q,t,rfl,h1,h2⟩:=ih last acc h.2
     refine ⟨c::q,t,rfl,?_,h2⟩
     intro x hx
     rcases List.mem_cons.1 hx with rfl|hx
     · refine ⟨fun e=>h10 (by rw [e];rfl),?_⟩
       rcases h.1 with h|h
       · exact .inl h
       · right;apply UInt8.toNat_inj.1;simpa using h
     · exact h1 x hx
theorem tab_key:∀ (r last acc:List UInt8),tabOk r last acc true=true→∃ k q t,r=k++32::(q++t)∧(∀ c∈k,c≠10∧c≠32)∧(∀ c∈q,c≠10∧(isHexU c=true∨c=32))∧ltB last (acc.reverse++k)=true∧(t=[]∨∃ r',t=10::r'∧tabOk r' (acc.reverse++k) [] true=true):=by
 intro r
 induction r with
 | nil=>intro last acc h;cases h
 | cons c r ih =>
   intro last acc h
   rw [tabOk] at h
   by_cases h32:c.toNat=32
   · rw [if_pos h32,Bool.and_eq_true] at h
     obtain rfl:c=32:=UInt8.toNat_inj.1 h32
     obtain ⟨q,t,rfl,h1,h2⟩:=tab_rest _ _ _ h.2
     refine ⟨[],q,t,rfl,by simp,h1,by simpa using h.1,?_⟩
     rw [List.append_nil];exact h2
   · rw [if_neg h32,Bool.and_eq_true] at h
     obtain ⟨k,q,t,rfl,h1,h2,h3,h4⟩:=ih _ _ h.2
     refine ⟨c::k,q,t,rfl,?_,h2,by simpa using h3,by simpa using h4⟩
     intro x hx
     rcases List.mem_cons.1 hx with rfl|hx
     · exact ⟨fun e=>by have:=h.1;rw [e] at this;exact absurd this (by decide),fun e=>h32 (by rw [e];rfl)⟩
     · exact h1 x hx
def St (T:List UInt8) (p:Nat):Prop:=p=0∨∃ q,p=q+1∧T[q]? = some 10
def lnT (T:List UInt8) (p:Nat):List UInt8:=(T.drop p).takeWhile (fun c=>c != 10)
def kyL (l:List UInt8):List UInt8:=l.takeWhile (fun c=>c != 32)
def rsL (l:List UInt8):List UInt8:=l.drop ((kyL l).length+1)
def kyT (T:List UInt8) (p:Nat):List UInt8:=kyL (lnT T p)
theorem tw_app {α:Type} (f:α→Bool) (a b:List α) (h:∀ x∈a,f x=true):(a++b).takeWhile f=a++b.takeWhile f:=by
 induction a with
 | nil=>rfl
 | cons x a ih=>rw [List.cons_append,List.takeWhile_cons,h x (by simp),if_pos rfl,ih (fun y hy=>h y (by simp [hy]))];rfl
theorem ln_row {k q t:List UInt8} (hk:∀ c∈k,c≠10∧c≠32) (hq:∀ c∈q,c≠10∧(isHexU c=true∨c=32)) (ht:t=[]∨∃ r',t=10::r'):lnT (k++32::(q++t)) 0=k++32::q:=by
 unfold lnT
 rw [List.drop_zero,tw_app _ _ _ (fun x hx=>by simpa using (hk x hx).1),List.takeWhile_cons,show ((32:UInt8) != 10)=true from rfl,if_pos rfl,tw_app _ _ _ (fun x hx=>by simpa using (hq x hx).1)]
 rcases ht with rfl|⟨r',rfl⟩
 · simp
 · rw [List.takeWhile_cons,show ((10:UInt8) != 10)=false from rfl];simp
theorem ky_row {k q:List UInt8} (hk:∀ c∈k,c≠10∧c≠32):kyL (k++32::q)=k:=by
 unfold kyL
 rw [tw_app _ _ _ (fun x hx=>by simpa using (hk x hx).2),List.takeWhile_cons,show ((32:UInt8) != 32)=false from rfl];simp
structure Tab (T last:List UInt8):Prop where
 above:∀ p,St T p→ltB last (kyT T p)=true
 rise:∀ p p',St T p→St T p'→p<p'→ltB (kyT T p) (kyT T p')=true
 inside:∀ p,St T p→p<T.length
 row:∀ p,St T p→∃ q,lnT T p=kyT T p++32::q∧(∀ c∈q,isHexU c=true∨c=32)∧(∀ c∈kyT T p,c≠10∧c≠32)
theorem tab_all:∀ n (T last:List UInt8),T.length≤n→tabOk T last [] true=true→Tab T last:=by
 intro n
 induction n with
 | zero=>intro T last h h';obtain rfl:=List.eq_nil_of_length_eq_zero (Nat.le_zero.1 h);cases h'
 | succ n ih =>
   intro T last hn h
   obtain ⟨k,q,t,rfl,hk,hq,hl,ht⟩:=tab_key _ _ _ h
   rw [List.reverse_nil,List.nil_append] at hl ht
   have hln:=ln_row (t:=t) hk hq (by rcases ht with h|⟨r',h,_⟩;exact .inl h;exact .inr ⟨r',h⟩)
   have hk0:kyT (k++32::(q++t)) 0=k:=by unfold kyT;rw [hln,ky_row hk]
   have hrow0:∃ q',lnT (k++32::(q++t)) 0=kyT (k++32::(q++t)) 0++32::q'∧(∀ c∈q',isHexU c=true∨c=32)∧(∀ c∈kyT (k++32::(q++t)) 0,c≠10∧c≠32) :=
    ⟨q,by rw [hk0,hln],fun c hc=>(hq c hc).2,by rw [hk0];exact hk⟩
   have hst:∀ p,St (k++32::(q++t)) p→p=0∨∃ r' p',t=10::r'∧tabOk r' k [] true=true∧p=(k.length+1+q.length+1)+p'∧St r' p'∧kyT (k++32::(q++t)) p=kyT r' p'∧lnT (k++32::(q++t)) p=lnT r' p':=by
    intro p hp
    rcases hp with rfl|⟨j,rfl,hj⟩
    · exact .inl rfl
    · right
      have e:k++32::(q++t)=(k++32::q)++t:=by simp
      rw [e] at hj
      have hpre:∀ c∈k++32::q,c≠10:=by
       intro c hc
       rcases List.mem_append.1 hc with hc|hc
       · exact (hk c hc).1
       · rcases List.mem_cons.1 hc with rfl|hc
         · decide
         · exact (hq c hc).1
      rcases Nat.lt_or_ge j (k++32::q).length with hlt|hge
      · rw [List.getElem?_append_left hlt,List.getElem?_eq_getElem hlt] at hj
        exact absurd (Option.some.inj hj) (hpre _ (List.getElem_mem _))
      · rw [List.getElem?_append_right hge] at hj
        rcases ht with rfl|⟨r',rfl,hr'⟩
        · cases hj
        · obtain ⟨d,hd⟩:=Nat.exists_eq_add_of_le hge
          rw [hd,Nat.add_sub_cancel_left] at hj
          have hlen:(k++32::q).length=k.length+1+q.length:=by simp;omega
          have hdrop:(k++32::(q++10::r')).drop (j+1)=r'.drop d:=by
           rw [e,hd,List.drop_append,List.drop_eq_nil_of_le (by omega),List.nil_append,show (k++32::q).length+d+1 - (k++32::q).length=d+1 by omega,List.drop_succ_cons]
          refine ⟨r',d,rfl,hr',by omega,?_,?_,?_⟩
          · cases d with
            | zero=>exact .inl rfl
            | succ d=>right;exact ⟨d,rfl,by simpa using hj⟩
          · unfold kyT lnT;rw [hdrop]
          · unfold lnT;rw [hdrop]
   have hih:∀ r',t=10::r'→tabOk r' k [] true=true→Tab r' k:=fun r' e h'=>ih r' k (by subst e;simp at hn;omega) h'
   refine ⟨?_,?_,?_,?_⟩
   · intro p hp
     rcases hst p hp with rfl|⟨r',p',e,h',rfl,hs,hky,_⟩
     · rw [hk0];exact hl
     · rw [hky];exact ltB_trans hl ((hih r' e h').above p' hs)
   · intro p p' hp hp' hlt
     rcases hst p' hp' with rfl|⟨r',b,e,h',rfl,hs,hky,_⟩
     · omega
     · rw [hky]
       rcases hst p hp with rfl|⟨r2,a,e2,_,rfl,hs2,hky2,_⟩
       · rw [hk0];exact (hih r' e h').above b hs
       · rw [hky2]
         rw [e] at e2
         obtain rfl:=(List.cons.inj e2).2
         exact (hih _ e h').rise a b hs2 hs (by omega)
   · intro p hp
     rcases hst p hp with rfl|⟨r',p',e,h',rfl,hs,_,_⟩
     · simp only [List.length_append,List.length_cons];omega
     · have:=(hih r' e h').inside p' hs
       subst e
       simp
       omega
   · intro p hp
     rcases hst p hp with rfl|⟨r',p',e,h',rfl,hs,hky,hln'⟩
     · exact hrow0
     · rw [hky,hln'];exact (hih r' e h').row p' hs
end Go.Proofs.YtcecjoaeolglbaaGreatDoor.Pl
end

section
namespace Go.Proofs.YtcecjoaeolglbaaGreatDoor.Hand
open Go Go.RowKit Go.Proofs.YtcecjoaeolglbaaGreatDoor.Pl
def strOf:Operand→ByteArray
 | .const (.string s)=>s
 | _=>⟨#[]⟩
def argOf (i:Nat):Op→ByteArray
 | .call c=>match c.args[i]? with|some x=>strOf x|none=>⟨#[]⟩
 | _=>⟨#[]⟩
def operOf (k:Nat):Code→ByteArray
 | .region _ ops _=>match ops[k]? with|some o=>argOf 0 o.op|none=>⟨#[]⟩
 | _=>⟨#[]⟩
def secondOf (k:Nat):Option Code→ByteArray
 | some (.seq _ (.seq x _))=>operOf k x
 | _=>⟨#[]⟩
noncomputable def namesB:ByteArray:=secondOf 1 Tryz.f119.body
noncomputable def namesL:List UInt8:=namesB.data.toList
set_option maxRecDepth 1000000 in
theorem names_ok:tabOk namesL [] [] true=true:=by kernel_rfl
theorem names_tab:Tab namesL []:=tab_all _ _ _ (Nat.le_refl _) names_ok
end Go.Proofs.YtcecjoaeolglbaaGreatDoor.Hand
end

section
namespace Go.Proofs.YtcecjoaeolglbaaGreatDoor.Pl
open Go
theorem tw_first {l:List UInt8} {o:Nat} (h:l[o]? = some 10) (hn:∀ k,k<o→l[k]? ≠ some 10):(l.takeWhile (fun c=>c != 10)).length=o:=by
 induction l generalizing o with
 | nil=>cases h
 | cons c l ih =>
   cases o with
   | zero=>obtain rfl:c=10:=by simpa using h
           rfl
   | succ o =>
     have hc:c≠10:=fun e=>hn 0 (by omega) (by simp [e])
     rw [List.takeWhile_cons,show (c != 10)=true by simpa using hc,if_pos rfl,List.length_cons,ih (by simpa using h) (fun k hk=>by have:=hn (k+1) (by omega);simpa using this)]
theorem tw_none {l:List UInt8} (hn:∀ k:Nat,l[k]? ≠ some 10):l.takeWhile (fun c=>c != 10)=l:=by
 induction l with
 | nil=>rfl
 | cons c l ih =>
   have hc:c≠10:=fun e=>hn 0 (by simp [e])
   rw [List.takeWhile_cons,show (c != 10)=true by simpa using hc,if_pos rfl,ih (fun k=>by have:=hn (k+1);simpa using this)]
theorem tw_mem {l:List UInt8} {x:UInt8} (h:x∈l.takeWhile (fun c=>c != 10)):x≠10:=by
 induction l with
 | nil=>cases h
 | cons c l ih =>
   rw [List.takeWhile_cons] at h
   split at h
   · rename_i hc
     rcases List.mem_cons.1 h with rfl|h
     · simpa using hc
     · exact ih h
   · cases h
theorem ln_le (T:List UInt8) (p:Nat) (hp:p≤T.length):p+(lnT T p).length≤T.length:=by
 unfold lnT
 have:∀ l:List UInt8,(l.takeWhile (fun c=>c != 10)).length≤l.length:=by
  intro l
  induction l with
  | nil=>simp
  | cons a l ih=>rw [List.takeWhile_cons];split<;>simp<;>omega
 have:=this (T.drop p)
 rw [List.length_drop] at this
 omega
theorem st_within {T:List UInt8} {p q:Nat} (hq:St T q) (h1:p<q):p+(lnT T p).length<q:=by
 rcases hq with rfl|⟨j,rfl,hj⟩
 · omega
 · rcases Nat.lt_or_ge (p+(lnT T p).length) (j+1) with h|h
   · exact h
   · exfalso
     have hlt:j - p<(lnT T p).length:=by omega
     have:(lnT T p)[j - p]? = some 10:=by
      unfold lnT at hlt ⊢
      obtain ⟨m,hm⟩:=List.takeWhile_prefix (fun c:UInt8=>c != 10) (l:=T.drop p)
      have h2:=List.getElem?_append_left hlt (l₂:=m)
      rw [hm,List.getElem?_drop,show p+(j - p)=j by omega,hj] at h2
      exact h2.symm
     have hmem:=List.mem_of_getElem? this
     exact tw_mem hmem rfl
def Fnd (T key:List UInt8) (r:Option (List UInt8)):Prop :=
 (∃ p,St T p∧kyT T p=key∧r=some (rsL (lnT T p)))∨((∀ p,St T p→kyT T p≠key)∧r=none)
structure Half (T key:List UInt8) (low high:Nat):Prop where
 lows:∀ p,St T p→p<low→ltB (kyT T p) key=true
 highs:∀ p,St T p→high≤p→ltB key (kyT T p)=true
 at_:St T low∨T.length<low
 le:high≤T.length
theorem Half.start {T last:List UInt8} (h:Tab T last) (key:List UInt8):Half T key 0 T.length :=
 ⟨fun p _ hp=>by omega,fun p hp hl=>by have:=h.inside p hp;omega,.inl (.inl rfl),Nat.le_refl _⟩
theorem Half.none {T key:List UInt8} {low high:Nat} (h:Half T key low high) (hl:high≤low):∀ p,St T p→kyT T p≠key:=by
 intro p hp
 rcases Nat.lt_or_ge p low with h1|h1
 · exact ltB_ne (h.lows p hp h1)
 · exact fun e=>ltB_ne (h.highs p hp (by omega)) e.symm
theorem Half.up {T last key:List UInt8} {low high p:Nat} (t:Tab T last) (h:Half T key low high) (hp:St T p) (hk:ltB (kyT T p) key=true) (hph:p<high):Half T key (p+(lnT T p).length+1) high:=by
 refine ⟨fun q hq hl => ?_,h.highs,?_,h.le⟩
 · rcases Nat.lt_trichotomy q p with h1|h1|h1
   · exact ltB_trans (t.rise q p hq hp h1) hk
   · rw [h1];exact hk
   · have:=st_within hq h1;omega
 · have hle:=ln_le T p (by have:=h.le;omega)
   rcases Nat.lt_or_ge (p+(lnT T p).length) T.length with hlt|hge
   · left;right
     refine ⟨_,rfl,?_⟩
     rw [List.getElem?_eq_getElem hlt]
     have hsp:(T.drop p)=lnT T p++(T.drop p).dropWhile (fun c=>c != 10):=(List.takeWhile_append_dropWhile).symm
     have hlen:=congrArg List.length hsp
     rw [List.length_append,List.length_drop] at hlen
     cases hd:(T.drop p).dropWhile (fun c=>c != 10) with
     | nil=>rw [hd] at hlen;simp at hlen;omega
     | cons x m =>
       have hx:x=10:=by
        have:=List.head_dropWhile_not (fun c:UInt8=>c != 10) (l:=T.drop p) (by rw [hd];simp)
        simp only [hd,List.head_cons] at this
        simpa using this
       have:(T.drop p)[(lnT T p).length]? = some x:=by
        rw [hsp,hd,List.getElem?_append_right (Nat.le_refl _),Nat.sub_self];rfl
       rw [List.getElem?_drop,List.getElem?_eq_getElem hlt] at this
       rw [Option.some.inj this,hx]
   · right;omega
theorem Half.down {T last key:List UInt8} {low high p:Nat} (t:Tab T last) (h:Half T key low high) (hp:St T p) (hk:ltB key (kyT T p)=true) (hph:p<high):Half T key low p:=by
 refine ⟨h.lows,fun q hq hl => ?_,h.at_,by have:=h.le;omega⟩
 rcases Nat.lt_or_ge p q with h1|h1
 · exact ltB_trans hk (t.rise p q hp hq h1)
 · obtain rfl:p=q:=by omega
   exact hk
end Go.Proofs.YtcecjoaeolglbaaGreatDoor.Pl
end

section
namespace Go.Proofs.YtcecjoaeolglbaaGreatDoor.Hand
open Go.RowKit
structure Blk (b:Nat) (v:Array Value) (W:World):Prop where
 cell:∀ j,j<v.size→W.cell? ⟨b,j,none⟩=v[j]?
 open_:∀ j,W.frozen? ⟨b,j,none⟩=false
end Go.Proofs.YtcecjoaeolglbaaGreatDoor.Hand
end

section
namespace Go.Proofs.YtcecjoaeolglbaaGreatDoor.Pb
open Go Go.RowKit Go.Proofs.YtcecjoaeolglbaaGreatDoorW.PrintWords
def B (l:List UInt8):ByteArray:=⟨l.toArray⟩
theorem B_data (l:List UInt8):(B l).data.toList=l:=by simp [B]
theorem B_of (s:ByteArray):s=B s.data.toList:=by cases s;simp [B]
theorem exists_B (s:ByteArray):∃ l,s=B l:=⟨_,B_of s⟩
theorem B_nil:(⟨#[]⟩:ByteArray)=B []:=rfl
@[simp] theorem size_B (l:List UInt8):(B l).size=l.length:=by simp [B,ByteArray.size]
@[simp] theorem B_append (l m:List UInt8):B l++B m=B (l++m):=by
  apply ByteArray.ext;rw [ByteArray.data_append];simp [B]
theorem B_extract (l:List UInt8) (i j:Nat):(B l).extract i j=B ((l.take j).drop i):=by
 apply ByteArray.ext;rw [ByteArray.data_extract];simp [B,List.drop_take]
theorem toList_loop (bs:ByteArray) (n:Nat):∀ i r,bs.size - i=n→ByteArray.toList.loop bs i r=r.reverse++bs.data.toList.drop i:=by
 induction n with
 | zero =>
   intro i r h
   unfold ByteArray.toList.loop
   rw [if_neg (by omega),List.drop_eq_nil_of_le (by simp;have:bs.data.size=bs.size:=rfl;omega),List.append_nil]
 | succ n ih =>
   intro i r h
   unfold ByteArray.toList.loop
   have hi:i<bs.size:=by omega
   rw [if_pos hi,ih (i+1) _ (by omega)]
   have hd:bs.data.toList.drop i=bs.get! i::bs.data.toList.drop (i+1):=by
    rw [List.drop_eq_getElem_cons (by simpa using hi)]
    congr 1
    cases bs with
    | mk d =>
      show d.toList[i]=d[i]!
      have hd:i<d.size:=hi
      rw [getElem!_pos d i hd];simp
   rw [hd];simp
theorem toList_data (bs:ByteArray):bs.toList=bs.data.toList:=by
 unfold ByteArray.toList;rw [toList_loop bs bs.size 0 [] (by omega)];simp
@[simp] theorem toList_B (l:List UInt8):(B l).toList=l:=by rw [toList_data,B_data]
theorem bt_B (l:List UInt8) (i:Nat) (h:i<l.length):bt (B l) (i:Int)=((l[i]'h).toNat:Int):=by
 unfold bt
 have this:(i:Int).toNat<(B l).size:=by simpa using h
 rw [dif_pos this]
 have e:(B l)[(i:Int).toNat]'this=l[i]'h:=by
  show (l.toArray)[(i:Int).toNat]'(by simpa using h)=l[i]'h
  simp only [Int.toNat_natCast,List.getElem_toArray]
 exact congrArg (fun c:UInt8=>(c.toNat:Int)) e
@[simp] theorem bt_mid (p r:List UInt8) (c:UInt8):bt (B (p++c::r)) (p.length:Int)=(c.toNat:Int):=by
  rw [bt_B _ _ (by simp)];simp
theorem wrap_nat (n:Nat) (h:n<9223372036854775807):wrap64 ((n:Int)+1)=((n+1:Nat):Int):=by unfold wrap64;omega
theorem wrap_add (n k:Nat) (h:n+k<9223372036854775808):wrap64 ((n:Int)+(k:Int))=((n+k:Nat):Int):=by unfold wrap64;omega
theorem u8_eq (c:UInt8) (n:Nat) (h:n<256):(((c.toNat:Int))=((n:Nat):Int))=(c=UInt8.ofNat n):=by
 apply propext
 constructor
 · intro e;apply UInt8.toNat_inj.1;simp [UInt8.toNat_ofNat'];omega
 · intro e;subst e;simp [UInt8.toNat_ofNat'];omega
end Go.Proofs.YtcecjoaeolglbaaGreatDoor.Pb
end

section
namespace Go.Proofs.YtcecjoaeolglbaaGreatDoor.Hand
open Go Go.RowKit Go.Proofs.YtcecjoaeolglbaaGreatDoor.Pl Go.Proofs.YtcecjoaeolglbaaGreatDoor.Pb
theorem byte10 {t:ByteArray} {j:Nat} (hj:j<t.size):((t.data[j]!).toNat:Int)=10↔t.data.toList[j]? = some 10:=by
 have h1:t.data[j]! = t.data[j]'hj:=getElem!_pos t.data j hj
 have h2:t.data.toList[j]? = some (t.data[j]'hj):=by rw [Array.getElem?_toList,Array.getElem?_eq_getElem hj]
 rw [h1,h2]
 constructor
 · intro h
   have:t.data[j]'hj=10:=UInt8.toNat_inj.1 (by
    have:(t.data[j]'hj).toNat=10:=by omega
    rw [this];rfl)
   rw [this]
 · intro h
   rw [Option.some.inj h];rfl
theorem last_10 (t:ByteArray) (i:Nat) (hi:i≤t.size) :
  ∃ p:Nat,Lib.lastIndexByte (t.extract 0 i) 10+1=p ∧ -1≤Lib.lastIndexByte (t.extract 0 i) 10∧p≤i∧St t.data.toList p∧∀ j,p≤j→j<i→t.data.toList[j]? ≠ some 10:=by
 have hz:(t.extract 0 i).size=i:=by rw [ByteArray.size_extract];omega
 have same:∀ j,j<i→(t.extract 0 i).data.toList[j]? = t.data.toList[j]? := fun j h1=>by
  rw [ByteArray.data_extract,Array.toList_extract]
  simp [List.extract]
  rw [List.getElem?_take_of_lt h1,Array.getElem?_toList]
 rcases Lib.lastIndexByte_spec (t.extract 0 i) 10 with ⟨h1,hno⟩|⟨j,h1,h2,h3,hno⟩
 · exact ⟨0,by rw [h1];rfl,by rw [h1];decide,Nat.zero_le _,.inl rfl,fun j _ hj e=>hno j (by rw [hz];exact hj) ((byte10 (t:=t.extract 0 i) (by rw [hz];exact hj)).2 (by rw [same j hj];exact e))⟩
 · rw [hz] at h1
   refine ⟨j+1,by rw [h2];rfl,by rw [h2];omega,by omega,.inr ⟨j,rfl,?_⟩,fun k hk1 hk e=>hno k (by omega) (by rw [hz];exact hk) ((byte10 (t:=t.extract 0 i) (by rw [hz];exact hk)).2 (by rw [same k hk];exact e))⟩
   have h4:=(byte10 (t:=t.extract 0 i) (by rw [hz];exact h1)).1 h3
   rw [same j h1] at h4
   exact h4
theorem next_10 (t:ByteArray) (p:Nat) (hp:p≤t.size) :
  (Lib.indexByte (t.extract p t.size).data.toList 10 = -1∧p+(lnT t.data.toList p).length=t.size) ∨
  ∃ o:Nat,Lib.indexByte (t.extract p t.size).data.toList 10=o∧(lnT t.data.toList p).length=o∧p+o≤t.size:=by
 obtain ⟨l,rfl⟩:=exists_B t
 rw [size_B,B_extract,B_data,B_data,List.take_length]
 rw [size_B] at hp
 rcases Int.lt_or_le (Lib.indexByte (l.drop p) 10) 0 with h|h
 · left
   have h1:Lib.indexByte (l.drop p) 10 = -1:=by have:=Lib.indexByte_ge (l.drop p) 10;omega
   refine ⟨h1,?_⟩
   unfold lnT
   rw [tw_none (fun k=>Lib.indexByte_none h1 k),List.length_drop];omega
 · right
   obtain ⟨o,ho⟩:∃ o:Nat,Lib.indexByte (l.drop p) 10=o:=⟨_,(Int.toNat_of_nonneg h).symm⟩
   obtain ⟨h1,h2⟩:=Lib.indexByte_some ho
   have:(lnT l p).length=o:=tw_first h1 h2
   exact ⟨o,ho,this,by have:=ln_le l p hp;omega⟩
set_option maxRecDepth 100000 in
set_option maxHeartbeats 2000000 in
theorem line_c (t:ByteArray) (i:Nat) (hz:t.size≤1000000) (hi:i≤t.size) :
  ∃ p,St t.data.toList p∧(∀ j,p≤j→j<i→t.data.toList[j]? ≠ some 10)∧p≤i∧p+(lnT t.data.toList p).length≤t.size∧∀ w,Calls Tryz.prog 195 #[.string t,.int .i64 (i:Int)] w fun e w'=>e = .returned (.tuple #[.int .i64 (p:Int),.int .i64 ((p+(lnT t.data.toList p).length:Nat):Int)])∧w'=w:=by
 obtain ⟨p,h1,h1',h2,h3,hno⟩:=last_10 t i hi
 have hle:=ln_le t.data.toList p (by rw [Array.length_toList];show p≤t.size;omega)
 rw [show t.data.toList.length=t.size from Array.length_toList] at hle
 refine ⟨p,h3,hno,h2,hle,fun w => ?_⟩
 have L:=Lib.hid (fun W=>Tryz.strings_LastIndexByte (t.extract 0 i) 10 (by rw [ByteArray.size_extract];omega) W)
 have hn:=next_10 t p (by omega)
 obtain ⟨x,hx⟩:∃ x,Lib.lastIndexByte (t.extract 0 i) 10=x:=⟨_,rfl⟩
 rw [hx] at h1 h1' L
 obtain rfl:x=(p:Int) - 1:=by omega
 have I:=fun W=>Tryz.strings_IndexByte (t.extract p t.size) 10 W
 have hpz:p≤t.size:=by omega
 obtain ⟨m,hm⟩:∃ m,(lnT t.data.toList p).length=m:=⟨_,rfl⟩
 rw [hm] at hn hle ⊢
 clear hx h3 hm h1 hno
 rcases hn with ⟨g1,g2⟩|⟨o,g1,g2,g3⟩
 · have I2:Hid (∀ W,Calls Tryz.prog 86 #[.string (t.extract p t.size),.int .u8 10] W fun e w'=>e = .returned (.int .i64 (-1))∧w'=W):=Lib.hid (fun W=>by rw [← g1];exact I W)
   have G2:=Lib.hid g2
   clear I g1 g2 hle
   go_enter Tryz.func195,Tryz.ntmps195
   go_wp2_with fail
   refine (L.out _).mono ?_
   rintro e w1 ⟨rfl,rfl⟩
   have hw:wrap64 ((p:Int) - 1+1)=(p:Int):=by unfold wrap64;omega
   go_wp2_with fail
   refine (I2.out _).mono ?_
   rintro e w2 ⟨rfl,rfl⟩
   go_wp2_with fail
   go_ret2
   exact ⟨by rw [G2.out];rfl,rfl⟩
 · have I2:Hid (∀ W,Calls Tryz.prog 86 #[.string (t.extract p t.size),.int .u8 10] W fun e w'=>e = .returned (.int .i64 (o:Int))∧w'=W):=Lib.hid (fun W=>by rw [← g1];exact I W)
   subst g2
   clear I g1 hle
   go_enter Tryz.func195,Tryz.ntmps195
   go_wp2_with fail
   refine (L.out _).mono ?_
   rintro e w1 ⟨rfl,rfl⟩
   have hw:wrap64 ((p:Int) - 1+1)=(p:Int):=by unfold wrap64;omega
   go_wp2_with fail
   refine (I2.out _).mono ?_
   rintro e w2 ⟨rfl,rfl⟩
   go_wp2_with fail
   go_ret2
   exact ⟨rfl,rfl⟩
end Go.Proofs.YtcecjoaeolglbaaGreatDoor.Hand
end

section
namespace Go.Proofs.YtcecjoaeolglbaaGreatDoor.Hand
open Go.RowKit Go.Proofs.YtcecjoaeolglbaaGreatDoor.Pl Go.Proofs.YtcecjoaeolglbaaGreatDoor.Pb
def isNe (c x:UInt8):Bool:=x != c
def upto (c:UInt8) (s:List UInt8):List UInt8:=s.takeWhile (isNe c)
def past (c:UInt8) (s:List UInt8):List UInt8:=s.drop ((upto c s).length+1)
theorem upto_cons (c x:UInt8) (r:List UInt8):upto c (x::r)=if x=c then [] else x::upto c r:=by
 unfold upto isNe
 rw [List.takeWhile_cons]
 by_cases h:x=c<;>simp [h]
theorem index_byte (c:UInt8):∀ s:List UInt8,Lib.index s [c]=if c∈s then ((upto c s).length:Int) else -1:=by
 intro s
 induction s with
 | nil=>rfl
 | cons x r ih =>
   rw [index_cons,ih,upto_cons]
   by_cases h:x=c
   · simp [h]
   · rw [if_neg h,if_neg h]
     by_cases hm:c∈r
     · rw [if_pos hm,if_pos (List.mem_cons_of_mem _ hm),if_neg (by omega)];simp
     · rw [if_neg hm,if_pos rfl,if_neg (by simp [hm,Ne.symm h])]
theorem upto_length (c:UInt8):∀ s:List UInt8,(upto c s).length≤s.length:=by
 intro s
 induction s with
 | nil=>simp [upto]
 | cons x r ih=>rw [upto_cons];split<;>simp;exact ih
theorem upto_take (c:UInt8):∀ s:List UInt8,s.take (upto c s).length=upto c s:=by
 intro s
 induction s with
 | nil=>rfl
 | cons x r ih=>rw [upto_cons];split<;>simp;exact ih
theorem upto_all (c:UInt8):∀ s:List UInt8,c∉s→upto c s=s:=by
 intro s
 induction s with
 | nil=>intro _;rfl
 | cons x r ih =>
   intro h
   simp only [List.mem_cons,not_or] at h
   rw [upto_cons,if_neg (Ne.symm h.1),ih h.2]
theorem past_all (c:UInt8) (s:List UInt8) (h:c∉s):past c s=[]:=by
 unfold past;rw [upto_all c s h];simp
theorem cut_byte (c:UInt8) (s:List UInt8):Lib.cut s [c]=(upto c s,past c s,decide (c∈s)):=by
 unfold Lib.cut
 rw [index_byte]
 by_cases h:c∈s
 · simp [h,upto_take,past]
 · simp [h,upto_all c s h,past_all c s h]
theorem below_drewN {B:Nat} (w:World) (n:Nat):Below B w (w.drewN n):=⟨rfl,rfl,rfl,Nat.le_refl _,fun _ _=>rfl⟩
theorem scut_c (c:UInt8) (s:List UInt8) (w:World) (hs:s.length≤1000000000) (hG:Glob w) :
  Calls Tryz.prog 130 #[.string (B s),.string (B [c])] w fun e w'=>e = .returned (.tuple #[.string (B (upto c s)),.string (B (past c s)),.bool (decide (c∈s))])∧Below w.heap.size w w':=by
 obtain ⟨m,hm⟩:=hG.out
 refine (Tryz.strings_Cut (B s) (B [c]) m w (by simp;omega) hm).mono ?_
 rintro e w' ⟨h1,n,rfl⟩
 rw [B_data,B_data,cut_byte] at h1
 exact ⟨h1,below_drewN _ _⟩
end Go.Proofs.YtcecjoaeolglbaaGreatDoor.Hand
end

section
namespace Go.Proofs.YtcecjoaeolglbaaGreatDoor.Hand
open Go Go.RowKit Go.Proofs.YtcecjoaeolglbaaGreatDoor.Pl Go.Proofs.YtcecjoaeolglbaaGreatDoor.Pb
theorem less_ltB:∀ a b:List UInt8,Op.bytesLess a b=ltB a b:=by
 intro a
 induction a with
 | nil=>intro b;cases b<;>rfl
 | cons x l ih =>
   intro b
   cases b with
   | nil=>rfl
   | cons y m =>
     rw [Op.bytesLess,ltB,ih]
     by_cases h1:x.toNat<y.toNat
     · rw [if_pos h1,decide_eq_true (show x<y from h1)];rfl
     · rw [if_neg h1,decide_eq_false (show ¬ x<y from h1),Bool.false_or]
       by_cases h2:y.toNat<x.toNat
       · rw [if_pos h2,show (x == y)=false by rw [beq_eq_false_iff_ne];rintro rfl;omega];rfl
       · rw [if_neg h2,show (x == y)=true by rw [beq_iff_eq];exact UInt8.toNat_inj.1 (by omega)];rfl
def fndV (key:ByteArray):Option (List UInt8)→Value
 | none => .tuple #[.string ⟨#[]⟩,.bool false]
 | some r => .tuple #[.string (B r),.bool (!key.toList.isEmpty)]
def LineJ (t key:ByteArray) (w:World) (a':Act) (wr:World):Prop :=
 ∃ (low high:Nat) (u2 u3 u4 u5 u8 u9 u10 u11 u12 u13 u14 u15 u16 u17 u18 u19 u20 u21 u22 u23 u24 u25 u26 u27 u28 u29 u30 u31 u32 u33 u34 u35 u36 u37 u38 u39 u40 u41 u42 u43 u44 u45 u46 u47:Value),
   a'={ tmps := #[.string t,.string key,u2,u3,u4,u5,.int .i64 (low:Int),.int .i64 (high:Int),u8,u9,u10,u11,u12,u13,u14,u15,u16,u17,u18,u19,u20,u21,u22,u23,u24,u25,u26,u27,u28,u29,u30,u31,u32,u33,u34,u35,u36,u37,u38,u39,u40,u41,u42,u43,u44,u45,u46,u47],defers:=[] }∧Below w.heap.size w wr∧low≤t.size+1∧high≤t.size∧Half t.data.toList key.data.toList low high
theorem extract_ln (t:ByteArray) (p:Nat) (h:p+(lnT t.data.toList p).length≤t.size):t.extract p (p+(lnT t.data.toList p).length)=B (lnT t.data.toList p):=by
 obtain ⟨l,rfl⟩:=exists_B t
 rw [B_data,B_extract]
 congr 1
 unfold lnT
 rw [List.drop_take,Nat.add_sub_cancel_left]
 exact (List.prefix_iff_eq_take.1 (List.takeWhile_prefix _)).symm
set_option maxRecDepth 100000 in
set_option maxHeartbeats 4000000 in
theorem sline_c (t key:ByteArray) (last:List UInt8) (hT:Tab t.data.toList last) (hz:t.size≤1000000) (w:World) (hGl:Glob w) :
  Calls Tryz.prog 163 #[.string t,.string key] w fun e w'=>(∃ r,Fnd t.data.toList key.data.toList r∧e = .returned (fndV key r))∧Below w.heap.size w w':=by
 have HT:=Lib.hid hT
 have HG:=Lib.hid hGl
 have HL:=Lib.hid (fun i (hi:i≤t.size)=>line_c t i hz hi)
 clear hT hGl
 go_enter Tryz.func163,Tryz.ntmps163
 go_wp2
 refine wp_scope_at 0 (LineJ t key w) (fun a' _=>(intOf (a'.tmps.getD 7 undef)).toNat+(t.size+1 - (intOf (a'.tmps.getD 6 undef)).toNat)) rfl ?_ ?_
 · intro hB
   have HB:=Lib.hid hB
   clear hB
   go_wp2
   refine wp_label_k (by assumption) (HB.out _ _ ?_)
   exact ⟨0,t.size,_,_,_,_,_,_,_,_,_,_,_,_,_,_,_,_,_,_,_,_,_,_,_,_,_,_,_,_,_,_,_,_,_,_,_,_,_,_,_,_,_,_,_,_,rfl,Below.refl _ _,by omega,Nat.le_refl _,Half.start HT.out key.data.toList⟩
 · rintro a' wr ⟨low,high,u2,u3,u4,u5,u8,u9,u10,u11,u12,u13,u14,u15,u16,u17,u18,u19,u20,u21,u22,u23,u24,u25,u26,u27,u28,u29,u30,u31,u32,u33,u34,u35,u36,u37,u38,u39,u40,u41,u42,u43,u44,u45,u46,u47,rfl,hb,hlo,hhi,hH⟩
   have HH:=Lib.hid hH
   have HW:=Lib.hid hb
   clear hH hb
   by_cases hlt:low<high
   · obtain ⟨q,hq⟩:∃ q,(low+high) / 2=q:=⟨_,rfl⟩
     have hq1:low≤q:=by omega
     have hq2:q<high:=by omega
     have hqd:((low:Int)+(high:Int)).tdiv 2=(q:Int):=by rw [Int.tdiv_eq_ediv_of_nonneg (by omega)];omega
     obtain ⟨p,hp,hno,hpq,hpl,F⟩:=HL.out q (by omega)
     have hlp:low≤p:=by
      rcases HH.out.at_ with h|h
      · rcases h with rfl|⟨j,rfl,hj⟩
        · omega
        · rcases Nat.lt_or_ge j p with h'|h'
          · omega
          · exact absurd hj (hno j h' (by omega))
      · have e:t.data.toList.length=t.size:=Array.length_toList
        omega
     clear hno
     have HF:=Lib.hid F
     have hx:=extract_ln t p hpl
     have hC:=fun (W:World) (hG:Glob W)=>scut_c 32 (lnT t.data.toList p) W (by omega) hG
     rw [← hx] at hC
     obtain ⟨m,hm⟩:∃ m,(lnT t.data.toList p).length=m:=⟨_,rfl⟩
     rw [hm] at hC HF hpl
     obtain ⟨K,hK⟩:∃ K,B (upto 32 (lnT t.data.toList p))=K:=⟨_,rfl⟩
     obtain ⟨R,hR⟩:∃ R,B (past 32 (lnT t.data.toList p))=R:=⟨_,rfl⟩
     obtain ⟨bf,hbf⟩:∃ b,decide ((32:UInt8)∈lnT t.data.toList p)=b:=⟨_,rfl⟩
     rw [hK,hR,hbf] at hC
     have HC:=Lib.hid hC
     have hKl:K.toList=kyT t.data.toList p:=by rw [← hK,toList_B];rfl
     have hkl:key.toList=key.data.toList:=by
      obtain ⟨l,rfl⟩:=exists_B key
      rw [toList_B,B_data]
     have HP:=Lib.hid hp
     have HM:=Lib.hid hm
     have hRr:B (rsL (lnT t.data.toList p))=R:=by rw [← hR];rfl
     have HRR:=Lib.hid hRr
     have c0:decide ((high:Int)≤(low:Int))=false:=decide_eq_false (by omega)
     clear F hx hC hK hR hbf hp hm hRr hq
     cases hlk:ltB (kyT t.data.toList p) key.data.toList with
     | true =>
       have c1:Op.bytesLess K.toList key.toList=true:=by rw [less_ltB,hKl,hkl];exact hlk
       have HN:=Lib.hid (HH.out.up HT.out HP.out hlk (by omega))
       clear hKl hkl hlk
       go_wp2_with fail
       refine (HF.out _).mono ?_
       rintro e w1 ⟨rfl,rfl⟩
       go_wp2_with fail
       refine (HC.out _ (HG.out.step HW.out)).mono ?_
       rintro e w2 ⟨rfl,hb⟩
       have HW2:=Lib.hid (HW.out.trans (hb.mono HW.out.size))
       clear hb
       go_wp2_with fail
       go_step3
       refine ⟨rfl,⟨p+m+1,high,_,_,_,_,_,_,_,_,_,_,_,_,_,_,_,_,_,_,_,_,_,_,_,_,_,_,_,_,_,_,_,_,_,_,_,_,_,_,_,_,_,_,_,_,rfl,HW2.out,by omega,hhi,by rw [← HM.out];exact HN.out⟩,?_⟩
       simp [intOf];omega
     | false =>
       have c1:Op.bytesLess K.toList key.toList=false:=by rw [less_ltB,hKl,hkl];exact hlk
       cases hgk:ltB key.data.toList (kyT t.data.toList p) with
       | true =>
         have c2:(K.toList == key.toList)=false:=by rw [hKl,hkl,beq_eq_false_iff_ne];exact fun e=>ltB_ne hgk e.symm
         have HN:=Lib.hid (HH.out.down HT.out HP.out hgk (by omega))
         clear hKl hkl hlk hgk
         go_wp2_with fail
         refine (HF.out _).mono ?_
         rintro e w1 ⟨rfl,rfl⟩
         go_wp2_with fail
         refine (HC.out _ (HG.out.step HW.out)).mono ?_
         rintro e w2 ⟨rfl,hb⟩
         have HW2:=Lib.hid (HW.out.trans (hb.mono HW.out.size))
         clear hb
         go_wp2_with fail
         go_step3
         refine ⟨rfl,⟨low,p,_,_,_,_,_,_,_,_,_,_,_,_,_,_,_,_,_,_,_,_,_,_,_,_,_,_,_,_,_,_,_,_,_,_,_,_,_,_,_,_,_,_,_,_,rfl,HW2.out,hlo,by omega,HN.out⟩,?_⟩
         simp [intOf];omega
       | false =>
         have he:=ltB_total _ _ hlk hgk
         have c2:(K.toList == key.toList)=true:=by rw [hKl,hkl,beq_iff_eq];exact he
         have HE:=Lib.hid he
         clear hKl hkl hlk hgk he
         go_wp2_with fail
         refine (HF.out _).mono ?_
         rintro e w1 ⟨rfl,rfl⟩
         go_wp2_with fail
         refine (HC.out _ (HG.out.step HW.out)).mono ?_
         rintro e w2 ⟨rfl,hb⟩
         have HW2:=Lib.hid (HW.out.trans (hb.mono HW.out.size))
         clear hb
         go_wp2_with fail
         simp only [Exit.jump]
         go_ret2
         exact ⟨⟨_,.inl ⟨p,HP.out,HE.out,rfl⟩,by show _=Ending.returned (.tuple #[.string (B (rsL (lnT t.data.toList p))),.bool (!key.toList.isEmpty)]);rw [HRR.out];rfl⟩,HW2.out⟩
   · have c0:decide ((high:Int)≤(low:Int))=true:=decide_eq_true (by omega)
     go_wp2_with fail
     simp only [Exit.jump]
     go_ret2
     exact ⟨⟨none,.inr ⟨HH.out.none (by omega),rfl⟩,rfl⟩,HW.out⟩
end Go.Proofs.YtcecjoaeolglbaaGreatDoor.Hand
end

section
namespace Go.Proofs.YtcecjoaeolglbaaGreatDoor.Hand
open Go Go.RowKit Go.Proofs.YtcecjoaeolglbaaGreatDoor.Pl Go.Proofs.YtcecjoaeolglbaaGreatDoor.Pb
def isKey (T k:List UInt8):Prop := ∃ p,St T p∧kyT T p=k
structure Lng (T r:List UInt8) (n:Nat):Prop where
 le:n≤min 32 r.length
 key:n=0∨isKey T (r.take n)
 more:∀ m,n<m→m≤min 32 r.length→¬ isKey T (r.take m)
theorem Lng.uniq {T r:List UInt8} {n m:Nat} (h:Lng T r n) (h':Lng T r m):n=m:=by
 rcases Nat.lt_trichotomy n m with hl|he|hg
 · rcases h'.key with h0|hk
   · omega
   · exact absurd hk (h.more m hl h'.le)
 · exact he
 · rcases h.key with h0|hk
   · omega
   · exact absurd hk (h'.more n hg h.le)
set_option maxRecDepth 100000 in
set_option maxHeartbeats 4000000 in
theorem slongest_c (t:ByteArray) (s last:List UInt8) (n:Nat) (hT:Tab t.data.toList last) (hz:t.size≤1000000) (hs:s.length≤1000000) (hn:n≤s.length) (w:World) (hGl:Glob w) :
  Calls Tryz.prog 162 #[.string t,.string (B s),.int .i64 (n:Int),.int .i64 32] w fun e w'=>(∃ k:Nat,Lng t.data.toList (s.drop n) k∧e = .returned (.int .i64 (k:Int)))∧Below w.heap.size w w':=by
 obtain ⟨M,hM⟩:∃ M,min 32 (s.drop n).length=M:=⟨_,rfl⟩
 have HG:=Lib.hid hGl
 have HL:=Lib.hid (fun (key:ByteArray) W hG=>sline_c t key last hT hz W hG)
 obtain ⟨a,ha⟩:∃ a,B s=a:=⟨_,rfl⟩
 have hsz:a.size=s.length:=by rw [← ha];simp
 have hMle:M≤32∧n+M≤a.size:=by rw [← hM,List.length_drop];omega
 have hmin:min (32:Int) ((a.size:Int) - (n:Int))=(M:Int):=by
  rw [← hM,List.length_drop]
  omega
 have HMIN:=Lib.hid hmin
 have hx:∀ k,k≤M→(a.extract n (n+k)).data.toList=(s.drop n).take k:=fun k hk=>by
  rw [← ha,B_extract,B_data,List.drop_take,Nat.add_sub_cancel_left]
 have HX:=Lib.hid hx
 have HMM:=Lib.hid hM
 have HSZ:=Lib.hid hsz
 obtain ⟨hM1,hM2⟩:=hMle
 have hna:n≤a.size:=by omega
 have hz2:a.size≤1000000:=by omega
 have q0:decide ((n:Int)<0)=false:=decide_eq_false (by omega)
 have q1:decide ((a.size:Int)<(n:Int))=false:=decide_eq_false (by omega)
 rw [ha]
 clear ha hsz hM hx hT hz hs hn hGl hmin
 go_enter Tryz.func162,Tryz.ntmps162
 go_wp2_with fail
 go_loopw [9] (fun v wx => ∃ k:Nat,v = .int .i64 (k:Int)∧k≤M∧Below w.heap.size w wx∧Hid (∀ m,k<m→m≤M→¬ isKey t.data.toList ((s.drop n).take m))) (fun v _=>(intOf v).toNat)
 case atStart=>exact ⟨M,by rw [HMIN.out],Nat.le_refl _,Below.refl _ _,Lib.hid (fun m h1 h2=>by omega)⟩
 case round =>
  obtain ⟨k,rfl,hk,hB,hno⟩:=hrel
  have HW:=Lib.hid hB
  clear hB
  by_cases h0:0<k
  · have q2:decide ((0:Int)<(k:Int))=true:=decide_eq_true (by omega)
    have hkx:=HX.out k hk
    have hke:(a.extract n (n+k)).toList.isEmpty=false:=by
     obtain ⟨l,hl⟩:=exists_B (a.extract n (n+k))
     rw [hl,B_data] at hkx
     rw [hl,toList_B,hkx]
     have:((s.drop n).take k).length=k:=by
      rw [List.length_take]
      have:=HMM.out
      omega
     cases hq:(s.drop n).take k with
     | nil=>rw [hq] at this;simp at this;omega
     | cons=>rfl
    have HKX:=Lib.hid hkx
    have HKE:=Lib.hid hke
    clear hkx hke
    go_wp2_with fail
    refine (HL.out _ _ (HG.out.step HW.out)).mono ?_
    rintro e w1 ⟨⟨r,hf,rfl⟩,hb⟩
    have HW2:=Lib.hid (HW.out.trans (hb.mono HW.out.size))
    have HF:=Lib.hid hf
    clear hb hf
    cases r with
    | none =>
      dsimp only [fndV]
      have HN:Hid (∀ m,k - 1<m→m≤M→¬ isKey t.data.toList ((s.drop n).take m)):=Lib.hid (fun m h1 h2=>by
       rcases Nat.lt_or_ge k m with h|h
       · exact hno.out m h h2
       · obtain rfl:m=k:=by omega
         rintro ⟨p,hp1,hp2⟩
         rcases HF.out with ⟨_,_,_,e⟩|⟨e,_⟩
         · cases e
         · exact e p hp1 (by rw [HKX.out];exact hp2))
      go_wp2_with fail
      go_roundw
      case rel=>exact ⟨k - 1,by go_num,by omega,HW2.out,HN⟩
      case measure=>simp [intOf];omega
    | some rest =>
      dsimp only [fndV]
      have hke:=HKE.out
      rw [hke]
      clear hke
      go_wp2_with fail
      go_ret
      refine ⟨⟨k,⟨by rw [HMM.out];exact hk,.inr ?_,fun m h1 h2=>hno.out m h1 (by rw [← HMM.out];exact h2)⟩,rfl⟩,HW2.out⟩
      rcases HF.out with ⟨p,h1,h2,_⟩|⟨_,e⟩
      · exact ⟨p,h1,by rw [h2,HKX.out]⟩
      · cases e
  · obtain rfl:k=0:=by omega
    go_wp2_with fail
    go_ret
    exact ⟨⟨0,⟨Nat.zero_le _,.inl rfl,fun m h1 h2=>hno.out m h1 (by rw [← HMM.out];exact h2)⟩,rfl⟩,HW.out⟩
set_option maxRecDepth 1000000 in
theorem nlongest_c (s:List UInt8) (n:Nat) (hs:s.length≤1000000) (hn:n≤s.length) (hz:namesB.size≤1000000) (w:World) (hGl:Glob w) :
  Calls Tryz.prog 118 #[.string (B s),.int .i64 (n:Int)] w fun e w'=>(∃ k:Nat,Lng namesL (s.drop n) k∧e = .returned (.int .i64 (k:Int)))∧Below w.heap.size w w':=by
 have HL:=Lib.hid (fun W (hG:Glob W)=>slongest_c namesB s [] n names_tab hz hs hn W hG)
 have HG:=Lib.hid hGl
 obtain ⟨a,ha⟩:∃ a,B s=a:=⟨_,rfl⟩
 rw [ha] at HL ⊢
 clear ha hs hn hGl hz
 refine calls_of_wp Tryz.func118 rfl ?_
 generalize hN:ByteArray.mk _=N
 have hN2:N=namesB:=hN.symm.trans rfl
 clear hN
 subst hN2
 simp only [Tryz.ntmps118,List.size_toArray,List.length_cons,List.length_nil,Nat.reduceAdd,Nat.reduceSub,Array.replicate_succ,Array.replicate_zero,List.push_toArray,List.append_toArray,List.nil_append,List.cons_append]
 go_wp2_with fail
 refine (HL.out _ HG.out).mono ?_
 rintro e w' ⟨⟨k,hk,rfl⟩,hb⟩
 have HK:=Lib.hid hk
 clear hk
 go_wp2_with fail
 go_ret
 exact ⟨⟨k,HK.out,rfl⟩,hb⟩
end Go.Proofs.YtcecjoaeolglbaaGreatDoor.Hand
end

section
namespace Go.Proofs.YtcecjoaeolglbaaGreatDoor.Pl
open Go
def fW (n:Nat):Nat:=if n=0 then 0 else (n.log2+1022)*2 ^ 52+n*2 ^ (52 - n.log2)
def Rep (m:Nat) (p:Int) (n:Nat):Prop := ∃ K:Nat,0≤p+K∧m*2 ^ (p+K).toNat=n*2 ^ K
theorem Rep.at {m:Nat} {p:Int} {n:Nat} (h:Rep m p n) (J:Nat) (hJ:0≤p+J):m*2 ^ (p+J).toNat=n*2 ^ J:=by
 obtain ⟨K,hK,h⟩:=h
 rcases Nat.le_total K J with hl|hl
 · obtain ⟨d,rfl⟩:=Nat.exists_eq_add_of_le hl
   rw [show (p+((K+d:Nat):Int)).toNat=(p+K).toNat+d by omega,Nat.pow_add,Nat.pow_add,← Nat.mul_assoc,← Nat.mul_assoc,h]
 · obtain ⟨d,rfl⟩:=Nat.exists_eq_add_of_le hl
   rw [show (p+((J+d:Nat):Int)).toNat=(p+J).toNat+d by omega,Nat.pow_add,Nat.pow_add,← Nat.mul_assoc,← Nat.mul_assoc] at h
   exact Nat.eq_of_mul_eq_mul_right (Nat.two_pow_pos d) h
theorem Rep.zero {m:Nat} {p:Int} {n:Nat} (h:Rep m p n):m=0↔n=0:=by
 obtain ⟨K,hK,h⟩:=h
 constructor
 · rintro rfl
   rw [Nat.zero_mul] at h
   rcases Nat.mul_eq_zero.1 h.symm with h|h
   · exact h
   · exact absurd h (Nat.ne_of_gt (Nat.two_pow_pos K))
 · rintro rfl
   rw [Nat.zero_mul] at h
   rcases Nat.mul_eq_zero.1 h with h|h
   · exact h
   · exact absurd h (Nat.ne_of_gt (Nat.two_pow_pos _))
theorem log2_mul_pow (n k:Nat) (h:n≠0):(n*2 ^ k).log2=n.log2+k:=by
 have h1:n*2 ^ k≠0:=Nat.mul_ne_zero h (Nat.ne_of_gt (Nat.two_pow_pos k))
 rw [Nat.log2_eq_iff h1]
 have h2:=(Nat.log2_eq_iff h (k:=n.log2)).1 rfl
 rw [Nat.pow_add,show n.log2+k+1=(n.log2+1)+k by omega,Nat.pow_add]
 exact ⟨Nat.mul_le_mul_right _ h2.1,Nat.mul_lt_mul_of_pos_right h2.2 (Nat.two_pow_pos k)⟩
theorem Rep.log {m:Nat} {p:Int} {n:Nat} (h:Rep m p n) (hn:n≠0):(m.log2:Int)+p=n.log2:=by
 have hm:m≠0:=fun e=>hn (h.zero.1 e)
 obtain ⟨K,hK,h⟩:=h
 have:=congrArg Nat.log2 h
 rw [log2_mul_pow _ _ hm,log2_mul_pow _ _ hn] at this
 omega
theorem cut_zero (n:Nat):Ieee.Toward.even.cut false n 0=n:=by
 unfold Ieee.Toward.cut
 simp [Nat.mod_one]
theorem cut_exact (a d:Nat) (h:d≤(a*2 ^ d).log2+2):Ieee.Toward.even.cut false (a*2 ^ d) d=a:=by
 unfold Ieee.Toward.cut
 have hg:1 <<< min d ((a*2 ^ d).log2+2)=2 ^ d:=by rw [Nat.min_eq_left h,Nat.one_shiftLeft]
 have h0:(0 == 2 ^ d)=false:=by rw [beq_eq_false_iff_ne];exact Nat.ne_of_lt (Nat.two_pow_pos d)
 have hp:=Nat.two_pow_pos d
 have h1:(2 ^ d == 0)=false:=by rw [beq_eq_false_iff_ne];omega
 simp only [hg,Nat.mul_div_cancel _ hp,Nat.mul_mod_left,Nat.mul_zero,h1,Bool.false_and,Bool.or_false,show ¬ 2 ^ d<0 by omega,decide_false]
 rfl
theorem log2_lt {n k:Nat} (h:n≠0) (hk:n<2 ^ k):n.log2<k:=(Nat.log2_lt h).2 hk
theorem nearest_rep {m:Nat} {p:Int} {n:Nat} (h:Rep m p n) (hn:n<2 ^ 53):Ieee.double.nearest false m p=fW n:=by
 unfold Ieee.Format.nearest fW
 by_cases h0:n=0
 · rw [if_pos (h.zero.2 h0),if_pos h0];rfl
 rw [if_neg (fun e=>h0 (h.zero.1 e)),if_neg h0]
 have hl:=h.log h0
 have h53:=log2_lt h0 hn
 have hlast:max (p+(m.log2:Int) - (Ieee.double.fractionBits:Int)) Ieee.double.leastPlace=(n.log2:Int) - 52:=by
  have e1:(Ieee.double.fractionBits:Int)=52:=rfl
  have e2:Ieee.double.leastPlace = -1074:=by decide
  rw [e1,e2]
  omega
 simp only [hlast]
 have hkept:Ieee.Toward.even.cut false (m <<< (p - ((n.log2:Int) - 52)).toNat) (((n.log2:Int) - 52) - p).toNat=n*2 ^ (52 - n.log2):=by
  rcases Int.lt_or_le p ((n.log2:Int) - 52) with hlt|hge
  · obtain ⟨d,hd⟩:∃ d:Nat,((n.log2:Int) - 52) - p=d:=⟨_,(Int.toNat_of_nonneg (by omega)).symm⟩
    rw [hd,show (p - ((n.log2:Int) - 52)).toNat=0 by omega,Nat.shiftLeft_zero,Int.toNat_natCast]
    have hr:=h.at ((52 - n.log2)+d) (by omega)
    rw [show (p+(((52 - n.log2)+d:Nat):Int)).toNat=0 by omega,Nat.pow_zero,Nat.mul_one,Nat.pow_add,← Nat.mul_assoc] at hr
    have hml:m.log2=52+d:=by omega
    rw [hr] at hml ⊢
    exact cut_exact _ _ (by omega)
  · rw [show (((n.log2:Int) - 52) - p).toNat=0 by omega,cut_zero,Nat.shiftLeft_eq]
    have hr:=h.at (52 - n.log2) (by omega)
    rw [← hr]
    congr 2
    omega
 rw [hkept]
 have hb:Ieee.double.binade=2 ^ 52:=rfl
 have hi:Ieee.double.infRung=2047*2 ^ 52:=by decide
 have hp:n*2 ^ (52 - n.log2)<2 ^ 53:=by
  have:=(Nat.log2_eq_iff h0 (k:=n.log2)).1 rfl
  calc n*2 ^ (52 - n.log2)<2 ^ (n.log2+1)*2 ^ (52 - n.log2):=Nat.mul_lt_mul_of_pos_right this.2 (Nat.two_pow_pos _)
   _=2 ^ 53:=by rw [← Nat.pow_add];congr 1;omega
 unfold Ieee.Format.word
 rw [hb,hi,show (((n.log2:Int) - 52) - Ieee.double.leastPlace).toNat=n.log2+1022 by rw [show Ieee.double.leastPlace = -1074 by decide];omega,Nat.min_eq_left (by omega)]
 rfl
set_option exponentiation.threshold 2000 in
theorem read_fW (n:Nat) (hn:n<2 ^ 53):∃ m p,Ieee.double.read (fW n) = .number false m p∧Rep m p n:=by
 unfold fW
 by_cases h0:n=0
 · subst h0
   exact ⟨0,-1074,by decide,1074,by decide,by rw [Nat.zero_mul,Nat.zero_mul]⟩
 · rw [if_neg h0]
   have h53:=log2_lt h0 hn
   have h2:=(Nat.log2_eq_iff h0 (k:=n.log2)).1 rfl
   have hlo:2 ^ 52≤n*2 ^ (52 - n.log2):=by
    calc 2 ^ 52=2 ^ n.log2*2 ^ (52 - n.log2):=by rw [← Nat.pow_add];congr 1;omega
     _≤n*2 ^ (52 - n.log2):=Nat.mul_le_mul_right _ h2.1
   have hhi:n*2 ^ (52 - n.log2)<2 ^ 53:=by
    calc n*2 ^ (52 - n.log2)<2 ^ (n.log2+1)*2 ^ (52 - n.log2):=Nat.mul_lt_mul_of_pos_right h2.2 (Nat.two_pow_pos _)
     _=2 ^ 53:=by rw [← Nat.pow_add];congr 1;omega
   refine ⟨n*2 ^ (52 - n.log2),(n.log2:Int) - 52,?_,52 - n.log2,by omega,by rw [show ((n.log2:Int) - 52+((52 - n.log2:Nat):Int)).toNat=0 by omega,Nat.pow_zero,Nat.mul_one]⟩
   obtain ⟨M,hM⟩:∃ M,n*2 ^ (52 - n.log2)=M:=⟨_,rfl⟩
   obtain ⟨l,hl⟩:∃ l,n.log2=l:=⟨_,rfl⟩
   rw [hM] at hlo hhi ⊢
   rw [hl] at h53 ⊢
   have hb:Ieee.double.binade=4503599627370496:=by decide
   have hi:Ieee.double.infRung=9218868437227405312:=by decide
   have hs:Ieee.double.signWeight=9223372036854775808:=by decide
   have hp:Ieee.double.leastPlace = -1074:=by decide
   unfold Ieee.Format.read
   rw [hb,hi,hs,hp]
   have e1:((l+1022)*2 ^ 52+M) / 9223372036854775808=0:=by omega
   have e2:((l+1022)*2 ^ 52+M) % 9223372036854775808=(l+1022)*4503599627370496+M:=by omega
   have e3:((l+1022)*4503599627370496+M) % 4503599627370496=M - 4503599627370496:=by omega
   have e4:((l+1022)*4503599627370496+M) / 4503599627370496=l+1023:=by omega
   simp only [e1,e2]
   rw [if_neg (by omega),if_pos (by omega),e3,e4]
   have e5:4503599627370496+(M - 4503599627370496)=M:=by omega
   have e6:(-1074:Int)+((l+1023 - 1:Nat):Int)=(l:Int) - 52:=by omega
   rw [e5,e6]
   rfl
theorem write_rep {m:Nat} {p:Int} {n:Nat} (h:Rep m p n) (hn:n<2 ^ 53):Ieee.double.write (.number false m p)=fW n:=nearest_rep h hn
theorem Rep.mul {m m':Nat} {p p':Int} {n n':Nat} (h:Rep m p n) (h':Rep m' p' n'):Rep (m*m') (p+p') (n*n'):=by
 obtain ⟨K,hK,h⟩:=h
 obtain ⟨J,hJ,h'⟩:=h'
 refine ⟨K+J,by omega,?_⟩
 rw [show (p+p'+((K+J:Nat):Int)).toNat=(p+K).toNat+(p'+J).toNat by omega,Nat.pow_add,Nat.pow_add]
 calc m*m'*(2 ^ (p+K).toNat*2 ^ (p'+J).toNat)=(m*2 ^ (p+K).toNat)*(m'*2 ^ (p'+J).toNat):=by
       rw [Nat.mul_mul_mul_comm]
  _=n*n'*(2 ^ K*2 ^ J):=by rw [h,h',Nat.mul_mul_mul_comm]
theorem Rep.shift {m:Nat} {p:Int} {n:Nat} (h:Rep m p n) (b:Int) (hb:b≤p):Rep (m <<< (p - b).toNat) b n:=by
 obtain ⟨K,hK,h⟩:=h
 refine ⟨K+(p - b).toNat+(b.natAbs),by omega,?_⟩
 have:=Rep.at ⟨K,hK,h⟩ (K+(p - b).toNat+b.natAbs) (by omega)
 rw [← this,Nat.shiftLeft_eq,Nat.mul_assoc,← Nat.pow_add]
 congr 2
 omega
theorem Rep.add {m m':Nat} {p:Int} {n n':Nat} (h:Rep m p n) (h':Rep m' p n'):Rep (m+m') p (n+n'):=by
 obtain ⟨K,hK,h⟩:=h
 exact ⟨K,hK,by rw [Nat.add_mul,h,Rep.at h' K hK,Nat.add_mul]⟩
theorem fW_mul (a b:Nat) (h:a*b<2 ^ 53) (ha:a<2 ^ 53) (hb:b<2 ^ 53):floatBits .mul .f64 (fW a) (fW b)=some (fW (a*b)):=by
 obtain ⟨m,p,e,r⟩:=read_fW a ha
 obtain ⟨m',p',e',r'⟩:=read_fW b hb
 show ((Ieee.double.read (fW a)).product (Ieee.double.read (fW b))).map Ieee.double.write=_
 rw [e,e']
 show some (Ieee.double.write (.number (false ^^ false) (m*m') (p+p')))=_
 rw [show (false ^^ false)=false from rfl,write_rep (r.mul r') h]
theorem fW_add (a b:Nat) (h:a+b<2 ^ 53):floatBits .add .f64 (fW a) (fW b)=some (fW (a+b)):=by
 obtain ⟨m,p,e,r⟩:=read_fW a (by omega)
 obtain ⟨m',p',e',r'⟩:=read_fW b (by omega)
 show ((Ieee.double.read (fW a)).sum (Ieee.double.read (fW b))).map Ieee.double.write=_
 rw [e,e']
 have s1:=r.shift (min p p') (by omega)
 have s2:=r'.shift (min p p') (by omega)
 have s3:=s1.add s2
 obtain ⟨X,hX⟩:∃ X,m <<< (p - min p p').toNat=X:=⟨_,rfl⟩
 obtain ⟨Y,hY⟩:∃ Y,m' <<< (p' - min p p').toNat=Y:=⟨_,rfl⟩
 have e3:(Ieee.Datum.number false m p).sum (.number false m' p')=some (.number false (X+Y) (min p p')):=by
  unfold Ieee.Datum.sum Ieee.signed
  simp only [hX,hY,Bool.false_eq_true,if_false]
  rw [show (((X:Nat):Int)+((Y:Nat):Int)).natAbs=X+Y by omega]
  split
  · rfl
  · rw [decide_eq_false (by omega)]
 rw [hX,hY] at s3
 rw [e3]
 show some (Ieee.double.write (.number false (X+Y) (min p p')))=_
 rw [write_rep s3 h]
theorem fW_order (a b:Nat) (ha:a<2 ^ 53) (hb:b<2 ^ 53):Ieee.double.order (fW a) (fW b)=some (compare a b):=by
 obtain ⟨m,p,e,r⟩:=read_fW a ha
 obtain ⟨m',p',e',r'⟩:=read_fW b hb
 unfold Ieee.Format.order
 rw [e,e']
 have s1:=r.shift (min p p') (by omega)
 have s2:=r'.shift (min p p') (by omega)
 obtain ⟨X,hX⟩:∃ X,m <<< (p - min p p').toNat=X:=⟨_,rfl⟩
 obtain ⟨Y,hY⟩:∃ Y,m' <<< (p' - min p p').toNat=Y:=⟨_,rfl⟩
 rw [hX] at s1
 rw [hY] at s2
 have e3:(Ieee.Datum.number false m p).order (.number false m' p')=some (compare (X:Int) (Y:Int)):=by
  unfold Ieee.Datum.order Ieee.signed
  simp only [hX,hY,Bool.false_eq_true,if_false]
 rw [e3]
 congr 1
 have t1:=s1.at (min p p').natAbs (by omega)
 have t2:=s2.at (min p p').natAbs (by omega)
 have hp1:=Nat.two_pow_pos (min p p'+((min p p').natAbs:Int)).toNat
 have hp2:=Nat.two_pow_pos (min p p').natAbs
 rcases Nat.lt_trichotomy a b with hlt|heq|hgt
 · have:X<Y:=Nat.lt_of_mul_lt_mul_right (by rw [t1,t2];exact Nat.mul_lt_mul_of_pos_right hlt hp2)
   rw [Int.compare_eq_lt.2 (by omega),Nat.compare_eq_lt.2 hlt]
 · have:X=Y:=Nat.eq_of_mul_eq_mul_right hp1 (by rw [t1,t2,heq])
   rw [Int.compare_eq_eq.2 (by omega),Nat.compare_eq_eq.2 heq]
 · have:Y<X:=Nat.lt_of_mul_lt_mul_right (by rw [t1,t2];exact Nat.mul_lt_mul_of_pos_right hgt hp2)
   rw [Int.compare_eq_gt.2 (by omega),Nat.compare_eq_gt.2 hgt]
theorem fW_ofInt (n:Nat) (hn:n<2 ^ 53):floatOfInt .f64 (n:Int)=fW n:=by
 show Ieee.double.write (.number (decide ((n:Int)<0)) (n:Int).natAbs 0)=_
 rw [decide_eq_false (by omega),Int.natAbs_natCast,write_rep ⟨0,by decide,by simp⟩ hn]
theorem cut_way_exact (a d:Nat) (h:a≠0→d≤(a*2 ^ d).log2+2):Ieee.Toward.zero.cut false (a*2 ^ d) d=a:=by
 unfold Ieee.Toward.cut
 by_cases h0:a=0
 · subst h0;simp
 · have hg:1 <<< min d ((a*2 ^ d).log2+2)=2 ^ d:=by rw [Nat.min_eq_left (h h0),Nat.one_shiftLeft]
   simp only [hg,Nat.mul_div_cancel _ (Nat.two_pow_pos d)]
   rfl
theorem fW_toInt (n:Nat) (hn:n<2 ^ 53):floatToIntVal .f64 (fW n) .i64=some (n:Int):=by
 obtain ⟨m,p,e,r⟩:=read_fW n hn
 have hI:(Ieee.double.read (fW n)).toInt .zero=some (n:Int):=by
  rw [e]
  unfold Ieee.Datum.toInt Ieee.Datum.integral
  have:Ieee.Toward.zero.cut false (m <<< p.toNat) (-p).toNat=n:=by
   rcases Int.lt_or_le p 0 with hlt|hge
   · obtain ⟨d,hd⟩:∃ d:Nat,-p=d:=⟨_,(Int.toNat_of_nonneg (by omega)).symm⟩
     have hr:=r.at d (by omega)
     rw [show (p+(d:Int)).toNat=0 by omega,Nat.pow_zero,Nat.mul_one] at hr
     rw [show p.toNat=0 by omega,Nat.shiftLeft_zero,hd,Int.toNat_natCast,hr]
     refine cut_way_exact n d fun h0 => ?_
     rw [log2_mul_pow _ _ h0];omega
   · have hr:=r.at 0 (by omega)
     rw [show (p+((0:Nat):Int)).toNat=p.toNat by omega,Nat.pow_zero,Nat.mul_one] at hr
     rw [Nat.shiftLeft_eq,hr,show (-p).toNat=0 by omega]
     have:=cut_way_exact n 0 (fun _=>by omega)
     simpa using this
  simp only [this]
  show some (Ieee.signed false n 0)=_
  unfold Ieee.signed
  simp
 unfold floatToIntVal
 show (match (Ieee.double.read (fW n)).toInt .zero with|some n=>if IntKind.i64.min≤n∧n≤IntKind.i64.max then some n else none|none=>none)=_
 rw [hI]
 have e1:IntKind.i64.min = -9223372036854775808:=by decide
 have e2:IntKind.i64.max=9223372036854775807:=by decide
 simp only [e1,e2]
 rw [if_pos (by omega)]
end Go.Proofs.YtcecjoaeolglbaaGreatDoor.Pl
end

section
namespace Go.Proofs.YtcecjoaeolglbaaGreatDoor.Pl
open Go
def hexV (c:UInt8):Int:=if 48≤c.toNat∧c.toNat≤57 then c.toNat - 48 else if 65≤c.toNat∧c.toNat≤70 then c.toNat - 55 else if 97≤c.toNat∧c.toNat≤102 then c.toNat - 87 else -1
theorem hexV_bound (c:UInt8) : -1≤hexV c∧hexV c≤15:=by unfold hexV;split<;>(try split)<;>(try split)<;>omega
def valR (base:Nat):Nat→List UInt8→Option Nat
 | n,[]=>some n
 | n,c::r=>if hexV c<0∨(base:Int)≤hexV c then none else valR base (min (n*base+(hexV c).toNat) 1114112) r
def valM:Option Nat→Int
 | none => -1
 | some n=>n
def valL (base:Nat) (s:List UInt8):Int:=if s=[] then -1 else valM (valR base 0 s)
theorem valR_le (base:Nat):∀ (s:List UInt8) (n m:Nat),n≤1114112→valR base n s=some m→m≤1114112:=by
 intro s
 induction s with
 | nil=>intro n m h e;cases e;exact h
 | cons c r ih =>
   intro n m h e
   rw [valR] at e
   split at e
   · cases e
   · exact ih _ m (Nat.min_le_right _ _) e
theorem valL_bound (base:Nat) (s:List UInt8) : -1≤valL base s∧valL base s≤1114112:=by
 unfold valL
 split
 · omega
 · cases h:valR base 0 s with
   | none=>exact ⟨by decide,by decide⟩
   | some n =>
     have:=valR_le base s 0 n (by omega) h
     show -1≤(n:Int)∧(n:Int)≤1114112
     omega
theorem fW_0:fW 0=0:=by decide
theorem fW_1:fW 1=4607182418800017408:=by decide
theorem fW_10:fW 10=4621819117588971520:=by decide
theorem fW_16:fW 16=4625196817309499392:=by decide
theorem fW_beyond:fW 1114112=4697535886324137984:=by decide
theorem fneg:floatOfInt .f64 (-1)=13830554455654793216:=by decide
theorem ord_lt {a b:Nat} (ha:a<2 ^ 53) (hb:b<2 ^ 53):(FloatKind.f64.format.order (fW a) (fW b) == some Ordering.lt)=decide (a<b):=by
 rw [show FloatKind.f64.format.order (fW a) (fW b)=some (compare a b) from fW_order a b ha hb]
 rcases Nat.lt_trichotomy a b with h|h|h
 · rw [Nat.compare_eq_lt.2 h,decide_eq_true h];rfl
 · rw [Nat.compare_eq_eq.2 h,decide_eq_false (by omega)];rfl
 · rw [Nat.compare_eq_gt.2 h,decide_eq_false (by omega)];rfl
theorem ord_gt {a b:Nat} (ha:a<2 ^ 53) (hb:b<2 ^ 53):(FloatKind.f64.format.order (fW a) (fW b) == some Ordering.gt)=decide (b<a):=by
 rw [show FloatKind.f64.format.order (fW a) (fW b)=some (compare a b) from fW_order a b ha hb]
 rcases Nat.lt_trichotomy a b with h|h|h
 · rw [Nat.compare_eq_lt.2 h,decide_eq_false (by omega)];rfl
 · rw [Nat.compare_eq_eq.2 h,decide_eq_false (by omega)];rfl
 · rw [Nat.compare_eq_gt.2 h,decide_eq_true h];rfl
theorem ord_eq {a b:Nat} (ha:a<2 ^ 53) (hb:b<2 ^ 53):(FloatKind.f64.format.order (fW a) (fW b) == some Ordering.eq)=decide (a=b):=by
 rw [show FloatKind.f64.format.order (fW a) (fW b)=some (compare a b) from fW_order a b ha hb]
 rcases Nat.lt_trichotomy a b with h|h|h
 · rw [Nat.compare_eq_lt.2 h,decide_eq_false (by omega)];rfl
 · rw [Nat.compare_eq_eq.2 h,decide_eq_true h];rfl
 · rw [Nat.compare_eq_gt.2 h,decide_eq_false (by omega)];rfl
theorem run_min_float {P:Program} (ts:Array TypeId) (t:TypeId) (a b:Nat) (ha:a<2 ^ 53) (hb:b<2 ^ 53) (w:World) :
  (Builtin.min_ ts t #[.float .f64 (fW a),.float .f64 (fW b)]).run P w = .ok (.float .f64 (fW (min a b))) w:=by
 have ho:FloatKind.f64.format.order (fW a) (fW b)=some (compare a b):=fW_order a b ha hb
 have hm:Builtin.min_ ts t #[.float .f64 (fW a),.float .f64 (fW b)]=Builtin.min2 (.float .f64 (fW a)) (.float .f64 (fW b)):=by
  simp [Builtin.min_,List.foldlM]
 rw [hm]
 unfold Builtin.min2
 simp only [ho]
 rcases Nat.lt_trichotomy a b with h|h|h
 · rw [Nat.compare_eq_lt.2 h,Nat.min_eq_left (by omega)];rfl
 · subst h;rw [Nat.compare_eq_eq.2 rfl,Nat.min_self];simp
 · rw [Nat.compare_eq_gt.2 h,Nat.min_eq_right (by omega)];rfl
end Go.Proofs.YtcecjoaeolglbaaGreatDoor.Pl
end

section
namespace Go.Proofs.YtcecjoaeolglbaaGreatDoor.Hand
open Go Go.RowKit Go.Proofs.YtcecjoaeolglbaaGreatDoor.Pl Go.Proofs.YtcecjoaeolglbaaGreatDoor.Pb
def hexN (n:Nat):List UInt8→Nat
 | []=>n
 | c::r=>hexN (16*n+(hexV c).toNat) r
theorem hexU_cases {c:UInt8} (h:isHexU c=true):(48≤c.toNat∧c.toNat≤57)∨(65≤c.toNat∧c.toNat≤70):=by
 unfold isHexU at h
 simpa using h
set_option maxRecDepth 100000 in
set_option maxHeartbeats 8000000 in
theorem iparse_c (s:ByteArray) (hx:∀ c∈s.data.toList,isHexU c=true) (h1:1≤s.size) (h8:s.size≤8) (w:World) :
  Calls Tryz.prog 217 #[.string s,.int .i64 16,.int .i64 32] w fun e w'=>e = .returned (.tuple #[.int .u64 (hexN 0 s.data.toList:Nat),.nilIface])∧Below w.heap.size w w':=by
 have he:(s.toList == [])=false:=by
  obtain ⟨l,rfl⟩:=exists_B s
  rw [toList_B,beq_eq_false_iff_ne]
  rintro rfl
  exact absurd h1 (by decide)
 have hconv:=Lib.run_convert_string_bytes (P:=Tryz.prog) w 9 27 5 s Tryz.underlying9 Tryz.underlying27 Tryz.underlying5
 have hcell:∀ j (hj:j<s.size),(Lib.bytesWorld w 5 s).cell? ⟨w.heap.size,j,none⟩=some (.int .u8 ((s[j].toNat:Nat):Int)):=fun j hj=>by
  rw [Lib.bytesWorld_cell w 5 s j hj]
  have:s.data.toList.getD j 0=s[j]:=by
   rw [List.getD_eq_getElem?_getD,List.getElem?_eq_getElem (by simpa using hj)];rfl
  rw [this]
 have hb0:=below_bytesWorld w 5 s
 generalize Lib.bytesWorld w 5 s=W0 at hconv hcell hb0
 generalize grownCap w s.size 0 5=cap at hconv
 have HC:=Lib.hid hcell
 have HB0:=Lib.hid hb0
 have HX:=Lib.hid hx
 clear hcell hb0 hx
 go_enter Tryz.func217,Tryz.ntmps217
 obtain ⟨R,hR⟩:∃ R,hexN 0 s.data.toList=R:=⟨_,rfl⟩
 rw [hR]
 have HR:Hid (hexN 0 (s.data.toList.drop 0)=R):=Lib.hid hR
 clear hR
 go_wp2_with fail
 clear hconv
 go_loop [12,13,101] (fun u v i => ∃ (k:Nat) (a:Int),u = .bool false∧v = .int .u64 a∧i = .int .i64 (k:Int)∧k≤s.size∧Hid (0≤a∧a<((16 ^ k:Nat):Int)∧hexN a.toNat (s.data.toList.drop k)=R)) (fun _ _ i=>s.size - (intOf i).toNat)
 case atStart=>exact ⟨0,0,rfl,rfl,rfl,Nat.zero_le _,Lib.hid ⟨by decide,by decide,HR.out⟩⟩
 case round =>
  obtain ⟨k,a,rfl,rfl,rfl,hk,hh⟩:=hrel
  obtain ⟨a0,ha,hV⟩:=hh.out
  clear hh
  by_cases hlt:k<s.size
  · have hck:=HC.out k hlt
    have hd:=drop_cons s k hlt
    have hu:=HX.out s[k] (List.mem_of_mem_drop (i:=k) (by rw [hd];simp))
    have a1:a≤268435455:=by
     have:16 ^ k≤16 ^ 7:=Nat.pow_le_pow_right (by decide) (by omega)
     have e:(16:Nat) ^ 7=268435456:=by decide
     omega
    have HM:Hid (∀ d:Int,0≤d→d<16→a*16+d<((16 ^ (k+1):Nat):Int)):=Lib.hid (fun d h0 h1=>by rw [Nat.pow_succ];omega)
    rw [hd,hexN] at hV
    have hu2:=hexU_cases hu
    obtain ⟨v,hv⟩:∃ v,hexV s[k]=v:=⟨_,rfl⟩
    have hv2:(48≤s[k].toNat∧s[k].toNat≤57→v=s[k].toNat - 48)∧(65≤s[k].toNat∧s[k].toNat≤70→v=s[k].toNat - 55):=by
     rw [← hv];unfold hexV
     constructor
     · intro h;rw [if_pos h]
     · intro h;rw [if_neg (by omega),if_pos h]
    rw [hv] at hV
    generalize s[k]=c at hck hu2 hv2
    clear hd hu hv ha
    by_cases hdig:48≤c.toNat∧c.toNat≤57
    · obtain rfl:=hv2.1 hdig
      obtain ⟨hd0,hd1⟩:=hdig
      have HN:Hid (0≤a*16+((c.toNat:Int) - 48)∧a*16+((c.toNat:Int) - 48)<((16 ^ (k+1):Nat):Int)∧hexN (a*16+((c.toNat:Int) - 48)).toNat (s.data.toList.drop (k+1))=R):=Lib.hid ⟨by omega,HM.out _ (by omega) (by omega),by rw [← hV];congr 1;omega⟩
      have iov:a*16+((c.toNat:Int) - 48)≤4294967295:=by omega
      clear hV hu2 hv2
      go_wp2_with fail
      exact ⟨⟨k+1,_,rfl,rfl,by first|rfl | (congr 1;omega),by omega,HN⟩,by simp [intOf];omega⟩
    · have hl:65≤c.toNat∧c.toNat≤70:=by omega
      obtain rfl:=hv2.2 hl
      obtain ⟨hd0,hd1⟩:=hl
      have hor:bits .or .u8 (c.toNat:Int) 32=(c.toNat:Int)+32:=by
       rcases (show c.toNat=65∨c.toNat=66∨c.toNat=67∨c.toNat=68∨c.toNat=69∨c.toNat=70 by omega) with h|h|h|h|h|h<;>rw [h]<;>decide
      have F:Hid (∀ W,Calls Tryz.prog 227 #[.int .u8 (c.toNat:Int)] W fun e w'=>e = .returned (.int .u8 ((c.toNat:Int)+32))∧w'=W):=Lib.hid (fun W=>by
       have:=Tryz.internal_strconv_lower (c.toNat:Int) W
       rw [hor] at this
       exact this)
      have HN:Hid (0≤a*16+((c.toNat:Int) - 55)∧a*16+((c.toNat:Int) - 55)<((16 ^ (k+1):Nat):Int)∧hexN (a*16+((c.toNat:Int) - 55)).toNat (s.data.toList.drop (k+1))=R):=Lib.hid ⟨by omega,HM.out _ (by omega) (by omega),by rw [← hV];congr 1;omega⟩
      have iov:a*16+((c.toNat:Int) - 55)≤4294967295:=by omega
      clear hV hu2 hv2 hor hdig
      go_wp2_with fail
      refine (F.out _).mono ?_
      rintro e w1 ⟨rfl,rfl⟩
      go_wp2_with fail
      refine (F.out _).mono ?_
      rintro e w1 ⟨rfl,rfl⟩
      go_wp2_with fail
      refine (F.out _).mono ?_
      rintro e w1 ⟨rfl,rfl⟩
      go_wp2_with fail
      refine ⟨⟨k+1,a*16+((c.toNat:Int) - 55),rfl,?_,by first|rfl | (congr 1;omega),by omega,HN⟩,by simp [intOf];omega⟩
      first|rfl | (congr 1;omega)
  · obtain rfl:k=s.size:=by omega
    rw [List.drop_eq_nil_of_le (by rw [Array.length_toList];show s.size≤s.size;omega),hexN] at hV
    obtain rfl:a=(R:Int):=by omega
    have HE:=Lib.hid (show hexN 0 s.data.toList=R from HR.out)
    clear hV ha a0
    go_wp2_with fail
    go_ret2
    exact ⟨rfl,HB0.out⟩
end Go.Proofs.YtcecjoaeolglbaaGreatDoor.Hand
end

section
namespace Go.Proofs.YtcecjoaeolglbaaGreatDoor.Sa
open Go.RowKit Go.Proofs.YtcecjoaeolglbaaGreatDoor.K0 Go.Proofs.YtcecjoaeolglbaaGreatDoor.Hand Go.Proofs.YtcecjoaeolglbaaGreatDoorW.PrintWords Go.Proofs.YtcecjoaeolglbaaGreatDoorW.PrintLast Go.Proofs.YtcecjoaeolglbaaGreatDoorW.PrintMore
attribute [local go_sem] max2_int min2_int max_two min_two max_three min_three max_four min_four  
set_option linter.unusedVariables false
set_option linter.unusedSimpArgs false
def comment_Begins.f (a0:ByteArray) (a1:Int):Option (Bool):=(sign_Begins.f a0 a1 (⟨#[60,33]⟩:ByteArray)).bind fun t115=>(if t115=true then ((sign_Begins.f a0 a1 (⟨#[60,33,100,111,99,116,121,112,101]⟩:ByteArray)).bind fun t116=>(some (!t116))) else ((sign_Begins.f a0 a1 (⟨#[60,63]⟩:ByteArray)).bind fun t117=>(if t117=true then (some true) else ((sign_Begins.f a0 a1 (⟨#[60,47]⟩:ByteArray)).bind fun t118=>(if t118=true then (if (wrap64 (a1+2))=(a0.size:Int) then (some false) else (if 0≤(wrap64 (a1+2)) then (if (wrap64 (a1+2))<(a0.size:Int) then (if (bt a0 (wrap64 (a1+2)))=62 then (some false) else ((sign_Letter.f (bt a0 (wrap64 (a1+2)))).bind fun t119=>(some (!t119)))) else (none)) else (none))) else (some false))))))
set_option maxHeartbeats 8000000 in
set_option maxRecDepth 100000 in
theorem comment_Begins.calls (a0:ByteArray) (a1:Int) (r:Bool) (w:World) (h:comment_Begins.f a0 a1=some r) :
  Calls Tryz.prog 91 #[.string a0,.int .i64 a1] w fun e w'=>e = .returned (.bool r)∧Below w.heap.size w w':=by
 have HB:=Aside0.mk (Below.refl w.heap.size w)
 have H:((sign_Begins.f a0 a1 (⟨#[60,33]⟩:ByteArray)).bind fun t115=>(if t115=true then ((sign_Begins.f a0 a1 (⟨#[60,33,100,111,99,116,121,112,101]⟩:ByteArray)).bind fun t116=>(some (!t116))) else ((sign_Begins.f a0 a1 (⟨#[60,63]⟩:ByteArray)).bind fun t117=>(if t117=true then (some true) else ((sign_Begins.f a0 a1 (⟨#[60,47]⟩:ByteArray)).bind fun t118=>(if t118=true then (if (wrap64 (a1+2))=(a0.size:Int) then (some false) else (if 0≤(wrap64 (a1+2)) then (if (wrap64 (a1+2))<(a0.size:Int) then (if (bt a0 (wrap64 (a1+2)))=62 then (some false) else ((sign_Letter.f (bt a0 (wrap64 (a1+2)))).bind fun t119=>(some (!t119)))) else (none)) else (none))) else (some false)))))))=some r:=h
 clear h
 replace H:=Option.bind_eq_some_iff.mp H
 obtain ⟨t115,A30,H⟩:=H
 replace H:(if t115=true then ((sign_Begins.f a0 a1 (⟨#[60,33,100,111,99,116,121,112,101]⟩:ByteArray)).bind fun t116=>(some (!t116))) else ((sign_Begins.f a0 a1 (⟨#[60,63]⟩:ByteArray)).bind fun t117=>(if t117=true then (some true) else ((sign_Begins.f a0 a1 (⟨#[60,47]⟩:ByteArray)).bind fun t118=>(if t118=true then (if (wrap64 (a1+2))=(a0.size:Int) then (some false) else (if 0≤(wrap64 (a1+2)) then (if (wrap64 (a1+2))<(a0.size:Int) then (if (bt a0 (wrap64 (a1+2)))=62 then (some false) else ((sign_Letter.f (bt a0 (wrap64 (a1+2)))).bind fun t119=>(some (!t119)))) else (none)) else (none))) else (some false))))))=some r:=H
 have A3:=Aside0.mk A30
 clear A30
 by_cases c4:t115=true
 · subst c4
   have H1:((sign_Begins.f a0 a1 (⟨#[60,33,100,111,99,116,121,112,101]⟩:ByteArray)).bind fun t116=>(some (!t116)))=some r:=by rw [if_pos rfl] at H;exact H
   clear H
   have H:=H1
   clear H1
   replace H:=Option.bind_eq_some_iff.mp H
   obtain ⟨t116,A50,H⟩:=H
   replace H:(some (!t116))=some r:=H
   have A5:=Aside0.mk A50
   clear A50
   obtain rfl:=Option.some.inj H
   go_enter Tryz.func91,Tryz.ntmps91
   go_wp2_with (first | ((with_reducible refine gate_callee (f:=95) rfl ?_);refine goesL_ (some 9) rfl rfl Tryz.func95 (by kernel_rfl) rfl #[.string a0,.int .i64 a1,.string (⟨#[60,33]⟩:ByteArray)] rfl (by (try simp only [List.map_toArray,List.map_cons,List.map_nil]);first|done|rfl | (simp only [List.length_drop,List.length_take];rfl)) ?_;(with_reducible refine (sign_Begins.calls a0 a1 (⟨#[60,33]⟩:ByteArray) true _ A3.out).mono ?_);rintro e w6 ⟨rfl,hb⟩;refine ⟨_,rfl,?_⟩;have n0_:=Aside0.mk (below_step (by repeat (first | (with_reducible first|exact HB.out|apply below_alloc|apply pw_below_drewN|apply below_drew1)|exact HB.out)) hb);clear HB;have HB:=n0_;clear n0_;(try clear hb);(try clear hb2);(try clear hk);(try clear hi)) | ((with_reducible refine gate_callee (f:=95) rfl ?_);refine goesL_ (some 12) rfl rfl Tryz.func95 (by kernel_rfl) rfl #[.string a0,.int .i64 a1,.string (⟨#[60,33,100,111,99,116,121,112,101]⟩:ByteArray)] rfl (by (try simp only [List.map_toArray,List.map_cons,List.map_nil]);first|done|rfl | (simp only [List.length_drop,List.length_take];rfl)) ?_;(with_reducible refine (sign_Begins.calls a0 a1 (⟨#[60,33,100,111,99,116,121,112,101]⟩:ByteArray) t116 _ A5.out).mono ?_);rintro e w7 ⟨rfl,hb⟩;refine ⟨_,rfl,?_⟩;have n0_:=Aside0.mk (below_step (by repeat (first | (with_reducible first|exact HB.out|apply below_alloc|apply pw_below_drewN|apply below_drew1)|exact HB.out)) hb);clear HB;have HB:=n0_;clear n0_;(try clear hb);(try clear hb2);(try clear hk);(try clear hi)))
   go_ret
   exact ⟨by first|rfl | (simp [errW_none,errW_some]<;>rfl) | (simp [*,errW_none,errW_some]<;>rfl),by repeat (first | (with_reducible first|exact HB.out|apply below_alloc|apply pw_below_drewN|apply below_drew1)|exact HB.out)⟩
 · replace c4:=Bool.eq_false_iff.mpr c4
   subst c4
   have H1:((sign_Begins.f a0 a1 (⟨#[60,63]⟩:ByteArray)).bind fun t117=>(if t117=true then (some true) else ((sign_Begins.f a0 a1 (⟨#[60,47]⟩:ByteArray)).bind fun t118=>(if t118=true then (if (wrap64 (a1+2))=(a0.size:Int) then (some false) else (if 0≤(wrap64 (a1+2)) then (if (wrap64 (a1+2))<(a0.size:Int) then (if (bt a0 (wrap64 (a1+2)))=62 then (some false) else ((sign_Letter.f (bt a0 (wrap64 (a1+2)))).bind fun t119=>(some (!t119)))) else (none)) else (none))) else (some false)))))=some r:=by rw [if_neg (show ¬ (false=true) by decide)] at H;exact H
   clear H
   have H:=H1
   clear H1
   replace H:=Option.bind_eq_some_iff.mp H
   obtain ⟨t117,A80,H⟩:=H
   replace H:(if t117=true then (some true) else ((sign_Begins.f a0 a1 (⟨#[60,47]⟩:ByteArray)).bind fun t118=>(if t118=true then (if (wrap64 (a1+2))=(a0.size:Int) then (some false) else (if 0≤(wrap64 (a1+2)) then (if (wrap64 (a1+2))<(a0.size:Int) then (if (bt a0 (wrap64 (a1+2)))=62 then (some false) else ((sign_Letter.f (bt a0 (wrap64 (a1+2)))).bind fun t119=>(some (!t119)))) else (none)) else (none))) else (some false))))=some r:=H
   have A8:=Aside0.mk A80
   clear A80
   by_cases c9:t117=true
   · subst c9
     have H1:(some true)=some r:=by rw [if_pos rfl] at H;exact H
     clear H
     have H:=H1
     clear H1
     obtain rfl:=Option.some.inj H
     go_enter Tryz.func91,Tryz.ntmps91
     go_wp2_with (first | ((with_reducible refine gate_callee (f:=95) rfl ?_);refine goesL_ (some 9) rfl rfl Tryz.func95 (by kernel_rfl) rfl #[.string a0,.int .i64 a1,.string (⟨#[60,33]⟩:ByteArray)] rfl (by (try simp only [List.map_toArray,List.map_cons,List.map_nil]);first|done|rfl | (simp only [List.length_drop,List.length_take];rfl)) ?_;(with_reducible refine (sign_Begins.calls a0 a1 (⟨#[60,33]⟩:ByteArray) false _ A3.out).mono ?_);rintro e w10 ⟨rfl,hb⟩;refine ⟨_,rfl,?_⟩;have n0_:=Aside0.mk (below_step (by repeat (first | (with_reducible first|exact HB.out|apply below_alloc|apply pw_below_drewN|apply below_drew1)|exact HB.out)) hb);clear HB;have HB:=n0_;clear n0_;(try clear hb);(try clear hb2);(try clear hk);(try clear hi)) | ((with_reducible refine gate_callee (f:=95) rfl ?_);refine goesL_ (some 17) rfl rfl Tryz.func95 (by kernel_rfl) rfl #[.string a0,.int .i64 a1,.string (⟨#[60,63]⟩:ByteArray)] rfl (by (try simp only [List.map_toArray,List.map_cons,List.map_nil]);first|done|rfl | (simp only [List.length_drop,List.length_take];rfl)) ?_;(with_reducible refine (sign_Begins.calls a0 a1 (⟨#[60,63]⟩:ByteArray) true _ A8.out).mono ?_);rintro e w11 ⟨rfl,hb⟩;refine ⟨_,rfl,?_⟩;have n0_:=Aside0.mk (below_step (by repeat (first | (with_reducible first|exact HB.out|apply below_alloc|apply pw_below_drewN|apply below_drew1)|exact HB.out)) hb);clear HB;have HB:=n0_;clear n0_;(try clear hb);(try clear hb2);(try clear hk);(try clear hi)))
     go_ret
     exact ⟨by first|rfl | (simp [errW_none,errW_some]<;>rfl) | (simp [*,errW_none,errW_some]<;>rfl),by repeat (first | (with_reducible first|exact HB.out|apply below_alloc|apply pw_below_drewN|apply below_drew1)|exact HB.out)⟩
   · replace c9:=Bool.eq_false_iff.mpr c9
     subst c9
     have H1:((sign_Begins.f a0 a1 (⟨#[60,47]⟩:ByteArray)).bind fun t118=>(if t118=true then (if (wrap64 (a1+2))=(a0.size:Int) then (some false) else (if 0≤(wrap64 (a1+2)) then (if (wrap64 (a1+2))<(a0.size:Int) then (if (bt a0 (wrap64 (a1+2)))=62 then (some false) else ((sign_Letter.f (bt a0 (wrap64 (a1+2)))).bind fun t119=>(some (!t119)))) else (none)) else (none))) else (some false)))=some r:=by rw [if_neg (show ¬ (false=true) by decide)] at H;exact H
     clear H
     have H:=H1
     clear H1
     replace H:=Option.bind_eq_some_iff.mp H
     obtain ⟨t118,A120,H⟩:=H
     replace H:(if t118=true then (if (wrap64 (a1+2))=(a0.size:Int) then (some false) else (if 0≤(wrap64 (a1+2)) then (if (wrap64 (a1+2))<(a0.size:Int) then (if (bt a0 (wrap64 (a1+2)))=62 then (some false) else ((sign_Letter.f (bt a0 (wrap64 (a1+2)))).bind fun t119=>(some (!t119)))) else (none)) else (none))) else (some false))=some r:=H
     have A12:=Aside0.mk A120
     clear A120
     by_cases c13:t118=true
     · subst c13
       have H1:(if (wrap64 (a1+2))=(a0.size:Int) then (some false) else (if 0≤(wrap64 (a1+2)) then (if (wrap64 (a1+2))<(a0.size:Int) then (if (bt a0 (wrap64 (a1+2)))=62 then (some false) else ((sign_Letter.f (bt a0 (wrap64 (a1+2)))).bind fun t119=>(some (!t119)))) else (none)) else (none)))=some r:=by rw [if_pos rfl] at H;exact H
       clear H
       have H:=H1
       clear H1
       by_cases c14:(wrap64 (a1+2))=(a0.size:Int)
       · rw [if_pos c14] at H
         have c14b0:((wrap64 (a1+2)) == (a0.size:Int))=true:=beq_iff_eq.mpr c14
         have c14b1:((wrap64 (a1+2)) != (a0.size:Int))=false:=bne_eq_false_iff_eq.mpr c14
         clear c14
         obtain rfl:=Option.some.inj H
         go_enter Tryz.func91,Tryz.ntmps91
         go_wp2_with (first | ((with_reducible refine gate_callee (f:=95) rfl ?_);refine goesL_ (some 9) rfl rfl Tryz.func95 (by kernel_rfl) rfl #[.string a0,.int .i64 a1,.string (⟨#[60,33]⟩:ByteArray)] rfl (by (try simp only [List.map_toArray,List.map_cons,List.map_nil]);first|done|rfl | (simp only [List.length_drop,List.length_take];rfl)) ?_;(with_reducible refine (sign_Begins.calls a0 a1 (⟨#[60,33]⟩:ByteArray) false _ A3.out).mono ?_);rintro e w15 ⟨rfl,hb⟩;refine ⟨_,rfl,?_⟩;have n0_:=Aside0.mk (below_step (by repeat (first | (with_reducible first|exact HB.out|apply below_alloc|apply pw_below_drewN|apply below_drew1)|exact HB.out)) hb);clear HB;have HB:=n0_;clear n0_;(try clear hb);(try clear hb2);(try clear hk);(try clear hi)) | ((with_reducible refine gate_callee (f:=95) rfl ?_);refine goesL_ (some 17) rfl rfl Tryz.func95 (by kernel_rfl) rfl #[.string a0,.int .i64 a1,.string (⟨#[60,63]⟩:ByteArray)] rfl (by (try simp only [List.map_toArray,List.map_cons,List.map_nil]);first|done|rfl | (simp only [List.length_drop,List.length_take];rfl)) ?_;(with_reducible refine (sign_Begins.calls a0 a1 (⟨#[60,63]⟩:ByteArray) false _ A8.out).mono ?_);rintro e w16 ⟨rfl,hb⟩;refine ⟨_,rfl,?_⟩;have n0_:=Aside0.mk (below_step (by repeat (first | (with_reducible first|exact HB.out|apply below_alloc|apply pw_below_drewN|apply below_drew1)|exact HB.out)) hb);clear HB;have HB:=n0_;clear n0_;(try clear hb);(try clear hb2);(try clear hk);(try clear hi)) | ((with_reducible refine gate_callee (f:=95) rfl ?_);refine goesL_ (some 21) rfl rfl Tryz.func95 (by kernel_rfl) rfl #[.string a0,.int .i64 a1,.string (⟨#[60,47]⟩:ByteArray)] rfl (by (try simp only [List.map_toArray,List.map_cons,List.map_nil]);first|done|rfl | (simp only [List.length_drop,List.length_take];rfl)) ?_;(with_reducible refine (sign_Begins.calls a0 a1 (⟨#[60,47]⟩:ByteArray) true _ A12.out).mono ?_);rintro e w17 ⟨rfl,hb⟩;refine ⟨_,rfl,?_⟩;have n0_:=Aside0.mk (below_step (by repeat (first | (with_reducible first|exact HB.out|apply below_alloc|apply pw_below_drewN|apply below_drew1)|exact HB.out)) hb);clear HB;have HB:=n0_;clear n0_;(try clear hb);(try clear hb2);(try clear hk);(try clear hi)))
         go_ret
         exact ⟨by first|rfl | (simp [errW_none,errW_some]<;>rfl) | (simp [*,errW_none,errW_some]<;>rfl),by repeat (first | (with_reducible first|exact HB.out|apply below_alloc|apply pw_below_drewN|apply below_drew1)|exact HB.out)⟩
       · rw [if_neg c14] at H
         have c14b0:((wrap64 (a1+2)) == (a0.size:Int))=false:=beq_eq_false_iff_ne.mpr c14
         have c14b1:((wrap64 (a1+2)) != (a0.size:Int))=true:=bne_iff_ne.mpr c14
         obtain ⟨ji18,hji18⟩:∃ j_:Int,(wrap64 (a1+2))=j_:=⟨_,rfl⟩
         replace H:(if 0≤(ji18) then (if (ji18)<(a0.size:Int) then (if (bt a0 (ji18))=62 then (some false) else ((sign_Letter.f (bt a0 (ji18))).bind fun t119=>(some (!t119)))) else (none)) else (none))=some r:=by first | (rw [hji18] at H;exact H) | (simp only [hji18] at H ⊢;exact H)
         (try rw [hji18] at c14b0)
         (try rw [hji18] at c14b1)
         (try rw [hji18] at A3)
         (try rw [hji18] at A8)
         (try rw [hji18] at A12)
         have hji18w:(IntKind.i64.wrap (a1+2))=ji18:=(i64_w _).trans hji18
         by_cases c19:0≤(ji18)
         · rw [if_pos c19] at H
           have c19b0:decide (0≤(ji18))=true:=decide_eq_true c19
           clear c19
           by_cases c20:(ji18)<(a0.size:Int)
           · rw [if_pos c20] at H
             have c20b0:decide ((ji18)<(a0.size:Int))=true:=decide_eq_true c20
             clear c20
             by_cases c22:(bt a0 (ji18))=62
             · rw [if_pos c22] at H
               have c22b0:((bt a0 (ji18)) == 62)=true:=beq_iff_eq.mpr c22
               have c22b1:((bt a0 (ji18)) != 62)=false:=bne_eq_false_iff_eq.mpr c22
               clear c22
               obtain rfl:=Option.some.inj H
               go_enter Tryz.func91,Tryz.ntmps91
               go_wp2_with (first | ((with_reducible refine gate_callee (f:=95) rfl ?_);refine goesL_ (some 9) rfl rfl Tryz.func95 (by kernel_rfl) rfl #[.string a0,.int .i64 a1,.string (⟨#[60,33]⟩:ByteArray)] rfl (by (try simp only [List.map_toArray,List.map_cons,List.map_nil]);first|done|rfl | (simp only [List.length_drop,List.length_take];rfl)) ?_;(with_reducible refine (sign_Begins.calls a0 a1 (⟨#[60,33]⟩:ByteArray) false _ A3.out).mono ?_);rintro e w23 ⟨rfl,hb⟩;refine ⟨_,rfl,?_⟩;have n0_:=Aside0.mk (below_step (by repeat (first | (with_reducible first|exact HB.out|apply below_alloc|apply pw_below_drewN|apply below_drew1)|exact HB.out)) hb);clear HB;have HB:=n0_;clear n0_;(try clear hb);(try clear hb2);(try clear hk);(try clear hi)) | ((with_reducible refine gate_callee (f:=95) rfl ?_);refine goesL_ (some 17) rfl rfl Tryz.func95 (by kernel_rfl) rfl #[.string a0,.int .i64 a1,.string (⟨#[60,63]⟩:ByteArray)] rfl (by (try simp only [List.map_toArray,List.map_cons,List.map_nil]);first|done|rfl | (simp only [List.length_drop,List.length_take];rfl)) ?_;(with_reducible refine (sign_Begins.calls a0 a1 (⟨#[60,63]⟩:ByteArray) false _ A8.out).mono ?_);rintro e w24 ⟨rfl,hb⟩;refine ⟨_,rfl,?_⟩;have n0_:=Aside0.mk (below_step (by repeat (first | (with_reducible first|exact HB.out|apply below_alloc|apply pw_below_drewN|apply below_drew1)|exact HB.out)) hb);clear HB;have HB:=n0_;clear n0_;(try clear hb);(try clear hb2);(try clear hk);(try clear hi)) | ((with_reducible refine gate_callee (f:=95) rfl ?_);refine goesL_ (some 21) rfl rfl Tryz.func95 (by kernel_rfl) rfl #[.string a0,.int .i64 a1,.string (⟨#[60,47]⟩:ByteArray)] rfl (by (try simp only [List.map_toArray,List.map_cons,List.map_nil]);first|done|rfl | (simp only [List.length_drop,List.length_take];rfl)) ?_;(with_reducible refine (sign_Begins.calls a0 a1 (⟨#[60,47]⟩:ByteArray) true _ A12.out).mono ?_);rintro e w25 ⟨rfl,hb⟩;refine ⟨_,rfl,?_⟩;have n0_:=Aside0.mk (below_step (by repeat (first | (with_reducible first|exact HB.out|apply below_alloc|apply pw_below_drewN|apply below_drew1)|exact HB.out)) hb);clear HB;have HB:=n0_;clear n0_;(try clear hb);(try clear hb2);(try clear hk);(try clear hi);have p21:0≤((ji18):Int):=of_decide_eq_true (by first | (with_reducible assumption)|assumption);have q21:(ji18)<(a0.size:Int):=of_decide_eq_true (by first | (with_reducible assumption)|assumption);have hx21:=bt_at a0 (ji18);replace p21:=eq_true p21;replace q21:=eq_true q21))
               go_ret
               exact ⟨by first|rfl | (simp [errW_none,errW_some]<;>rfl) | (simp only [← hji18];first|rfl | (simp [errW_none,errW_some]<;>rfl)) | (simp [*,errW_none,errW_some]<;>rfl),by repeat (first | (with_reducible first|exact HB.out|apply below_alloc|apply pw_below_drewN|apply below_drew1)|exact HB.out)⟩
             · rw [if_neg c22] at H
               have c22b0:((bt a0 (ji18)) == 62)=false:=beq_eq_false_iff_ne.mpr c22
               have c22b1:((bt a0 (ji18)) != 62)=true:=bne_iff_ne.mpr c22
               replace H:=Option.bind_eq_some_iff.mp H
               obtain ⟨t119,A260,H⟩:=H
               replace H:(some (!t119))=some r:=H
               have A26:=Aside0.mk A260
               clear A260
               obtain rfl:=Option.some.inj H
               go_enter Tryz.func91,Tryz.ntmps91
               go_wp2_with (first | ((with_reducible refine gate_callee (f:=95) rfl ?_);refine goesL_ (some 9) rfl rfl Tryz.func95 (by kernel_rfl) rfl #[.string a0,.int .i64 a1,.string (⟨#[60,33]⟩:ByteArray)] rfl (by (try simp only [List.map_toArray,List.map_cons,List.map_nil]);first|done|rfl | (simp only [List.length_drop,List.length_take];rfl)) ?_;(with_reducible refine (sign_Begins.calls a0 a1 (⟨#[60,33]⟩:ByteArray) false _ A3.out).mono ?_);rintro e w27 ⟨rfl,hb⟩;refine ⟨_,rfl,?_⟩;have n0_:=Aside0.mk (below_step (by repeat (first | (with_reducible first|exact HB.out|apply below_alloc|apply pw_below_drewN|apply below_drew1)|exact HB.out)) hb);clear HB;have HB:=n0_;clear n0_;(try clear hb);(try clear hb2);(try clear hk);(try clear hi)) | ((with_reducible refine gate_callee (f:=95) rfl ?_);refine goesL_ (some 17) rfl rfl Tryz.func95 (by kernel_rfl) rfl #[.string a0,.int .i64 a1,.string (⟨#[60,63]⟩:ByteArray)] rfl (by (try simp only [List.map_toArray,List.map_cons,List.map_nil]);first|done|rfl | (simp only [List.length_drop,List.length_take];rfl)) ?_;(with_reducible refine (sign_Begins.calls a0 a1 (⟨#[60,63]⟩:ByteArray) false _ A8.out).mono ?_);rintro e w28 ⟨rfl,hb⟩;refine ⟨_,rfl,?_⟩;have n0_:=Aside0.mk (below_step (by repeat (first | (with_reducible first|exact HB.out|apply below_alloc|apply pw_below_drewN|apply below_drew1)|exact HB.out)) hb);clear HB;have HB:=n0_;clear n0_;(try clear hb);(try clear hb2);(try clear hk);(try clear hi)) | ((with_reducible refine gate_callee (f:=95) rfl ?_);refine goesL_ (some 21) rfl rfl Tryz.func95 (by kernel_rfl) rfl #[.string a0,.int .i64 a1,.string (⟨#[60,47]⟩:ByteArray)] rfl (by (try simp only [List.map_toArray,List.map_cons,List.map_nil]);first|done|rfl | (simp only [List.length_drop,List.length_take];rfl)) ?_;(with_reducible refine (sign_Begins.calls a0 a1 (⟨#[60,47]⟩:ByteArray) true _ A12.out).mono ?_);rintro e w29 ⟨rfl,hb⟩;refine ⟨_,rfl,?_⟩;have n0_:=Aside0.mk (below_step (by repeat (first | (with_reducible first|exact HB.out|apply below_alloc|apply pw_below_drewN|apply below_drew1)|exact HB.out)) hb);clear HB;have HB:=n0_;clear n0_;(try clear hb);(try clear hb2);(try clear hk);(try clear hi);have p21:0≤((ji18):Int):=of_decide_eq_true (by first | (with_reducible assumption)|assumption);have q21:(ji18)<(a0.size:Int):=of_decide_eq_true (by first | (with_reducible assumption)|assumption);have hx21:=bt_at a0 (ji18);replace p21:=eq_true p21;replace q21:=eq_true q21) | (go_at_call 127;(with_reducible refine (sign_Letter.calls (bt a0 (ji18)) t119 _ A26.out).mono ?_);rintro e w' ⟨rfl,⟨nd,rfl⟩⟩))
               go_ret
               exact ⟨by first|rfl | (simp [errW_none,errW_some]<;>rfl) | (simp only [← hji18];first|rfl | (simp [errW_none,errW_some]<;>rfl)) | (simp [*,errW_none,errW_some]<;>rfl),by repeat (first | (with_reducible first|exact HB.out|apply below_alloc|apply pw_below_drewN|apply below_drew1)|exact HB.out)⟩
           · rw [if_neg c20] at H
             exact absurd H (by simp)
         · rw [if_neg c19] at H
           exact absurd H (by simp)
     · replace c13:=Bool.eq_false_iff.mpr c13
       subst c13
       have H1:(some false)=some r:=by rw [if_neg (show ¬ (false=true) by decide)] at H;exact H
       clear H
       have H:=H1
       clear H1
       obtain rfl:=Option.some.inj H
       go_enter Tryz.func91,Tryz.ntmps91
       go_wp2_with (first | ((with_reducible refine gate_callee (f:=95) rfl ?_);refine goesL_ (some 9) rfl rfl Tryz.func95 (by kernel_rfl) rfl #[.string a0,.int .i64 a1,.string (⟨#[60,33]⟩:ByteArray)] rfl (by (try simp only [List.map_toArray,List.map_cons,List.map_nil]);first|done|rfl | (simp only [List.length_drop,List.length_take];rfl)) ?_;(with_reducible refine (sign_Begins.calls a0 a1 (⟨#[60,33]⟩:ByteArray) false _ A3.out).mono ?_);rintro e w30 ⟨rfl,hb⟩;refine ⟨_,rfl,?_⟩;have n0_:=Aside0.mk (below_step (by repeat (first | (with_reducible first|exact HB.out|apply below_alloc|apply pw_below_drewN|apply below_drew1)|exact HB.out)) hb);clear HB;have HB:=n0_;clear n0_;(try clear hb);(try clear hb2);(try clear hk);(try clear hi)) | ((with_reducible refine gate_callee (f:=95) rfl ?_);refine goesL_ (some 17) rfl rfl Tryz.func95 (by kernel_rfl) rfl #[.string a0,.int .i64 a1,.string (⟨#[60,63]⟩:ByteArray)] rfl (by (try simp only [List.map_toArray,List.map_cons,List.map_nil]);first|done|rfl | (simp only [List.length_drop,List.length_take];rfl)) ?_;(with_reducible refine (sign_Begins.calls a0 a1 (⟨#[60,63]⟩:ByteArray) false _ A8.out).mono ?_);rintro e w31 ⟨rfl,hb⟩;refine ⟨_,rfl,?_⟩;have n0_:=Aside0.mk (below_step (by repeat (first | (with_reducible first|exact HB.out|apply below_alloc|apply pw_below_drewN|apply below_drew1)|exact HB.out)) hb);clear HB;have HB:=n0_;clear n0_;(try clear hb);(try clear hb2);(try clear hk);(try clear hi)) | ((with_reducible refine gate_callee (f:=95) rfl ?_);refine goesL_ (some 21) rfl rfl Tryz.func95 (by kernel_rfl) rfl #[.string a0,.int .i64 a1,.string (⟨#[60,47]⟩:ByteArray)] rfl (by (try simp only [List.map_toArray,List.map_cons,List.map_nil]);first|done|rfl | (simp only [List.length_drop,List.length_take];rfl)) ?_;(with_reducible refine (sign_Begins.calls a0 a1 (⟨#[60,47]⟩:ByteArray) false _ A12.out).mono ?_);rintro e w32 ⟨rfl,hb⟩;refine ⟨_,rfl,?_⟩;have n0_:=Aside0.mk (below_step (by repeat (first | (with_reducible first|exact HB.out|apply below_alloc|apply pw_below_drewN|apply below_drew1)|exact HB.out)) hb);clear HB;have HB:=n0_;clear n0_;(try clear hb);(try clear hb2);(try clear hk);(try clear hi)))
       go_ret
       exact ⟨by first|rfl | (simp [errW_none,errW_some]<;>rfl) | (simp [*,errW_none,errW_some]<;>rfl),by repeat (first | (with_reducible first|exact HB.out|apply below_alloc|apply pw_below_drewN|apply below_drew1)|exact HB.out)⟩
end Go.Proofs.YtcecjoaeolglbaaGreatDoor.Sa
end

section
namespace Go.Proofs.YtcecjoaeolglbaaGreatDoor.Hand
open Go.RowKit Go.Proofs.YtcecjoaeolglbaaGreatDoor.Pb Go.Proofs.YtcecjoaeolglbaaGreatDoor.Pl Go.Proofs.YtcecjoaeolglbaaGreatDoor.Sa Go.Proofs.YtcecjoaeolglbaaGreatDoorW.PrintWords
theorem hex_f (c:UInt8):sign_Hex.f (c.toNat:Int)=some (hexV c):=by
 have hc:=c.toNat_lt
 have ww:wrap64 (c.toNat:Int)=c.toNat:=by unfold wrap64;omega
 unfold sign_Hex.f sign_Digit.f sign_within.f hexV
 rw [ww]
 by_cases h1:48≤c.toNat∧c.toNat≤57
 · rw [if_pos (by omega),if_pos h1]
   simp only [Option.bind_some]
   rw [if_pos (by simp;omega),show wrap64 ((c.toNat:Int) - 48)=(c.toNat:Int) - 48 by unfold wrap64;omega]
 · rw [if_neg h1]
   have hd:((if (c.toNat:Int)≥48 then some (decide ((c.toNat:Int)≤57)) else some false).bind fun t102=>some t102)=some false:=by
    split
    · rw [decide_eq_false (by omega)];rfl
    · rfl
   rw [hd]
   simp only [Option.bind_some,Bool.false_eq_true,if_false]
   by_cases h2:65≤c.toNat∧c.toNat≤70
   · rw [if_pos (by omega),if_pos h2,decide_eq_true (by omega)]
     simp only [Option.bind_some,if_true]
     congr 1
     unfold wrap64;omega
   · rw [if_neg h2]
     have hd:(if (c.toNat:Int)≥65 then some (decide ((c.toNat:Int)≤70)) else some false)=some false:=by
      split
      · rw [decide_eq_false (by omega)]
      · rfl
     rw [hd]
     simp only [Option.bind_some,Bool.false_eq_true,if_false]
     by_cases h3:97≤c.toNat∧c.toNat≤102
     · rw [if_pos (by omega),if_pos h3,decide_eq_true (by omega)]
       simp only [Option.bind_some,if_true]
       congr 1
       unfold wrap64;omega
     · rw [if_neg h3]
       have hd:(if (c.toNat:Int)≥97 then some (decide ((c.toNat:Int)≤102)) else some false)=some false:=by
        split
        · rw [decide_eq_false (by omega)]
        · rfl
       rw [hd]
       rfl
theorem hex_c (c:UInt8) (w:World):Calls Tryz.prog 159 #[.int .u8 (c.toNat:Int)] w fun e w'=>e = .returned (.int .i64 (hexV c))∧Below w.heap.size w w' :=
 (sign_Hex.calls _ _ w (hex_f c)).mono fun _ _ h=>⟨h.1,h.2.below⟩
set_option maxRecDepth 100000 in
set_option maxHeartbeats 8000000 in
theorem value_at (base:Nat) (six:Bool) (hb:base=if six=true then 16 else 10) (s:List UInt8) (hs:s.length≤1000000) (w:World) :
  Calls Tryz.prog 160 #[.string (B s),.bool six] w fun e w'=>e = .returned (.int .i64 (valL base s))∧Below w.heap.size w w':=by
 have hb2:base=10∨base=16:=by rw [hb];split<;>simp
 have hbw:(if six=true then 4625196817309499392 else 4621819117588971520)=fW base:=by rw [hb];cases six<;>decide
 obtain ⟨a,ha⟩:∃ a,B s=a:=⟨_,rfl⟩
 have hz:a.size=s.length:=by rw [← ha];simp
 have hD:a.data.toList=s:=by rw [← ha,B_data]
 rw [ha]
 have HZ:=Lib.hid hz
 have HS:a.size≤1000000:=by omega
 have HX:=Lib.hid hD
 have HB:=Lib.hid hb2
 have HH:=Lib.hid (fun c W=>hex_c c W)
 have hm0:=fW_0
 clear ha hz hD hb2 hs hm0
 obtain ⟨R,hR⟩:∃ R,valM (valR base 0 (a.data.toList.drop 0))=R:=⟨_,rfl⟩
 obtain ⟨E,hE⟩:∃ E,valL base s=E:=⟨_,rfl⟩
 have HEmpty:Hid (a.size=0→E = -1):=Lib.hid (fun h=>by
  rw [← hE]
  obtain rfl:=List.eq_nil_of_length_eq_zero (l:=s) (by have:=HZ.out;omega)
  rfl)
 have HFul:Hid (a.size≠0→E=R):=Lib.hid (fun h=>by
  rw [← hE,← hR,List.drop_zero,HX.out]
  unfold valL
  rw [if_neg (by rintro rfl;exact h (by rw [HZ.out];rfl))])
 have HR:=Lib.hid hR
 rw [hE]
 clear hR hE HX HZ HB
 have HE:Hid (a.size≠0→E=R):=HFul
 go_enter Tryz.func160,Tryz.ntmps160
 cases six with
 | true =>
   simp only [if_true] at hb
   subst hb
   clear hbw
   go_wp2_with fail
   go_loopw [6,12] (fun v i wx => ∃ (k x:Nat),i = .int .i64 (k:Int)∧v = .complex .f64 (fW x) (fW k)∧k≤a.size∧x≤1114112∧Below w.heap.size w wx∧Hid (valM (valR 16 x (a.data.toList.drop k))=R)∧Hid (k=0→x=0)) (fun _ i _=>a.size - (intOf i).toNat)
   case atStart=>exact ⟨0,0,rfl,by rw [fW_0],Nat.zero_le _,Nat.zero_le _,Below.refl _ _,HR,Lib.hid (fun _=>rfl)⟩
   case round =>
    obtain ⟨k,x,rfl,rfl,hk,hx,hB,hV,hX0⟩:=hrel
    have HW:=Lib.hid hB
    clear hB
    by_cases hlt:k<a.size
    · have hd:=drop_cons a k hlt
      have hbd:=hexV_bound a[k]
      obtain ⟨v,hv⟩:∃ v,hexV a[k]=v:=⟨_,rfl⟩
      have F:Hid (∀ W,Calls Tryz.prog 159 #[.int .u8 ((a[k].toNat:Nat):Int)] W fun e w'=>e = .returned (.int .i64 v)∧Below W.heap.size W w'):=Lib.hid (fun W=>by rw [← hv];exact HH.out a[k] W)
      have hV2:=hV.out
      rw [hd,valR,hv] at hV2
      rw [hv] at hbd
      by_cases hneg:v<0
      · obtain rfl:v = -1:=by omega
        rw [if_pos (.inl (by omega))] at hV2
        have HR2:=Lib.hid hV2
        have c1:floatOfInt .f64 (-1)=13830554455654793216:=fneg
        have c2:(FloatKind.f64.format.order 13830554455654793216 0 == some Ordering.lt)=true:=by decide
        clear hd hv hV2 hV hbd hneg hX0
        go_wp2_with fail
        refine (F.out _).mono ?_
        rintro e w1 ⟨rfl,b1⟩
        have HW2:=Lib.hid (HW.out.trans (b1.mono HW.out.size))
        clear b1 HW
        go_wp2_with fail
        go_ret
        exact ⟨by rw [HE.out (by omega),← HR2.out];rfl,HW2.out⟩
      · obtain ⟨d,rfl⟩:∃ d:Nat,v=d:=⟨v.toNat,by omega⟩
        have hd15:d≤15:=by omega
        have c1:floatOfInt .f64 (d:Int)=fW d:=fW_ofInt d (by omega)
        have c2:(FloatKind.f64.format.order (fW d) 0 == some Ordering.lt)=false:=by
         rw [← fW_0,ord_lt (by omega) (by omega)];exact decide_eq_false (by omega)
        by_cases hbig:16≤d
        · have c3:(FloatKind.f64.format.order (fW d) 4625196817309499392 == some Ordering.gt || FloatKind.f64.format.order (fW d) 4625196817309499392 == some Ordering.eq)=true:=by
           rw [← fW_16,ord_gt (by omega) (by omega),ord_eq (by omega) (by omega),Bool.or_eq_true,decide_eq_true_eq,decide_eq_true_eq];omega
          rw [if_pos (.inr (by omega))] at hV2
          have HR2:=Lib.hid hV2
          clear hd hv hV2 hV hbd hneg hbig hd15 hX0
          go_wp2_with fail
          refine (F.out _).mono ?_
          rintro e w1 ⟨rfl,b1⟩
          have HW2:=Lib.hid (HW.out.trans (b1.mono HW.out.size))
          clear b1 HW
          go_wp2_with fail
          go_ret
          exact ⟨by rw [HE.out (by omega),← HR2.out];rfl,HW2.out⟩
        · have c3:(FloatKind.f64.format.order (fW d) 4625196817309499392 == some Ordering.gt || FloatKind.f64.format.order (fW d) 4625196817309499392 == some Ordering.eq)=false:=by
           rw [← fW_16,ord_gt (by omega) (by omega),ord_eq (by omega) (by omega),Bool.or_eq_false_iff,decide_eq_false_iff_not,decide_eq_false_iff_not];omega
          rw [if_neg (by omega),Int.toNat_natCast] at hV2
          have HR2:=Lib.hid hV2
          have c4:∀ W,(binOp .mul 189 (.float .f64 (fW x)) (.float .f64 4625196817309499392)).run Tryz.prog W = .ok (.float .f64 (fW (x*16))) W:=fun W=>by
           rw [← fW_16];exact run_float_arith (h:=fW_mul _ _ (by omega) (by omega) (by omega)) ..
          have c5:∀ W,(binOp .add 189 (.float .f64 (fW (x*16))) (.float .f64 (fW d))).run Tryz.prog W = .ok (.float .f64 (fW (x*16+d))) W:=fun W=>run_float_arith (h:=fW_add _ _ (by omega)) ..
          have c6:∀ ts t W,(Builtin.min_ ts t #[.float .f64 (fW (x*16+d)),.float .f64 4697535886324137984]).run Tryz.prog W = .ok (.float .f64 (fW (min (x*16+d) 1114112))) W:=fun ts t W=>by
           rw [← fW_beyond];exact run_min_float ts t _ _ (by omega) (by omega) W
          have c7:∀ W,(binOp .add 189 (.float .f64 (fW k)) (.float .f64 4607182418800017408)).run Tryz.prog W = .ok (.float .f64 (fW (k+1))) W:=fun W=>by
           rw [← fW_1];exact run_float_arith (h:=fW_add _ _ (by omega)) ..
          clear hd hv hV2 hV hbd hneg hbig hd15 hX0
          go_wp2_with fail
          refine (F.out _).mono ?_
          rintro e w1 ⟨rfl,b1⟩
          have HW2:=Lib.hid (HW.out.trans (b1.mono HW.out.size))
          clear b1 HW
          go_wp2_with fail
          go_roundw
          case rel=>exact ⟨k+1,min (x*16+d) 1114112,by go_num,rfl,by omega,Nat.min_le_right _ _,HW2.out,HR2,Lib.hid (fun h=>absurd h (by omega))⟩
          case measure=>simp [intOf];omega
    · obtain rfl:k=a.size:=by omega
      have hV2:=hV.out
      rw [List.drop_eq_nil_of_le (by rw [Array.length_toList];show a.size≤a.size;omega),valR] at hV2
      by_cases h0:a.size=0
      · have c1:(FloatKind.f64.format.order (fW a.size) 0 == some Ordering.eq)=true:=by
         rw [← fW_0,ord_eq (by omega) (by omega)];exact decide_eq_true h0
        have HE0:=Lib.hid (HEmpty.out h0)
        clear hV2 hV h0 hX0
        go_wp2_with fail
        go_ret
        exact ⟨by rw [HE0.out];rfl,HW.out⟩
      · have c1:(FloatKind.f64.format.order (fW a.size) 0 == some Ordering.eq)=false:=by
         rw [← fW_0,ord_eq (by omega) (by omega)];exact decide_eq_false h0
        have c2:∀ W,(convert 189 3 (.float .f64 (fW x))).run Tryz.prog W = .ok (.int .i64 (x:Int)) W:=fun W =>
         run_convert_float_int W 189 3 .f64 .i64 (fW x) (x:Int) (by rw [Tryz.underlying189];rfl) Tryz.underlying3 (fW_toInt x (by omega))
        have HR2:=Lib.hid hV2
        have HFull:=Lib.hid (HFul.out h0)
        clear hV2 hV h0 hX0
        go_wp2_with fail
        go_ret
        exact ⟨by rw [HFull.out,← HR2.out];rfl,HW.out⟩
 | false =>
   simp only [Bool.false_eq_true,if_false] at hb
   subst hb
   clear hbw
   go_wp2_with fail
   go_loopw [6,12] (fun v i wx => ∃ (k x:Nat),i = .int .i64 (k:Int)∧v = .complex .f64 (fW x) (fW k)∧k≤a.size∧x≤1114112∧Below w.heap.size w wx∧Hid (valM (valR 10 x (a.data.toList.drop k))=R)∧Hid (k=0→x=0)) (fun _ i _=>a.size - (intOf i).toNat)
   case atStart=>exact ⟨0,0,rfl,by rw [fW_0],Nat.zero_le _,Nat.zero_le _,Below.refl _ _,HR,Lib.hid (fun _=>rfl)⟩
   case round =>
    obtain ⟨k,x,rfl,rfl,hk,hx,hB,hV,hX0⟩:=hrel
    have HW:=Lib.hid hB
    clear hB
    by_cases hlt:k<a.size
    · have hd:=drop_cons a k hlt
      have hbd:=hexV_bound a[k]
      obtain ⟨v,hv⟩:∃ v,hexV a[k]=v:=⟨_,rfl⟩
      have F:Hid (∀ W,Calls Tryz.prog 159 #[.int .u8 ((a[k].toNat:Nat):Int)] W fun e w'=>e = .returned (.int .i64 v)∧Below W.heap.size W w'):=Lib.hid (fun W=>by rw [← hv];exact HH.out a[k] W)
      have hV2:=hV.out
      rw [hd,valR,hv] at hV2
      rw [hv] at hbd
      by_cases hneg:v<0
      · obtain rfl:v = -1:=by omega
        rw [if_pos (.inl (by omega))] at hV2
        have HR2:=Lib.hid hV2
        have c1:floatOfInt .f64 (-1)=13830554455654793216:=fneg
        have c2:(FloatKind.f64.format.order 13830554455654793216 0 == some Ordering.lt)=true:=by decide
        clear hd hv hV2 hV hbd hneg hX0
        go_wp2_with fail
        refine (F.out _).mono ?_
        rintro e w1 ⟨rfl,b1⟩
        have HW2:=Lib.hid (HW.out.trans (b1.mono HW.out.size))
        clear b1 HW
        go_wp2_with fail
        go_ret
        exact ⟨by rw [HE.out (by omega),← HR2.out];rfl,HW2.out⟩
      · obtain ⟨d,rfl⟩:∃ d:Nat,v=d:=⟨v.toNat,by omega⟩
        have hd15:d≤15:=by omega
        have c1:floatOfInt .f64 (d:Int)=fW d:=fW_ofInt d (by omega)
        have c2:(FloatKind.f64.format.order (fW d) 0 == some Ordering.lt)=false:=by
         rw [← fW_0,ord_lt (by omega) (by omega)];exact decide_eq_false (by omega)
        by_cases hbig:10≤d
        · have c3:(FloatKind.f64.format.order (fW d) 4621819117588971520 == some Ordering.gt || FloatKind.f64.format.order (fW d) 4621819117588971520 == some Ordering.eq)=true:=by
           rw [← fW_10,ord_gt (by omega) (by omega),ord_eq (by omega) (by omega),Bool.or_eq_true,decide_eq_true_eq,decide_eq_true_eq];omega
          rw [if_pos (.inr (by omega))] at hV2
          have HR2:=Lib.hid hV2
          clear hd hv hV2 hV hbd hneg hbig hd15 hX0
          go_wp2_with fail
          refine (F.out _).mono ?_
          rintro e w1 ⟨rfl,b1⟩
          have HW2:=Lib.hid (HW.out.trans (b1.mono HW.out.size))
          clear b1 HW
          go_wp2_with fail
          go_ret
          exact ⟨by rw [HE.out (by omega),← HR2.out];rfl,HW2.out⟩
        · have c3:(FloatKind.f64.format.order (fW d) 4621819117588971520 == some Ordering.gt || FloatKind.f64.format.order (fW d) 4621819117588971520 == some Ordering.eq)=false:=by
           rw [← fW_10,ord_gt (by omega) (by omega),ord_eq (by omega) (by omega),Bool.or_eq_false_iff,decide_eq_false_iff_not,decide_eq_false_iff_not];omega
          rw [if_neg (by omega),Int.toNat_natCast] at hV2
          have HR2:=Lib.hid hV2
          have c4:∀ W,(binOp .mul 189 (.float .f64 (fW x)) (.float .f64 4621819117588971520)).run Tryz.prog W = .ok (.float .f64 (fW (x*10))) W:=fun W=>by
           rw [← fW_10];exact run_float_arith (h:=fW_mul _ _ (by omega) (by omega) (by omega)) ..
          have c5:∀ W,(binOp .add 189 (.float .f64 (fW (x*10))) (.float .f64 (fW d))).run Tryz.prog W = .ok (.float .f64 (fW (x*10+d))) W:=fun W=>run_float_arith (h:=fW_add _ _ (by omega)) ..
          have c6:∀ ts t W,(Builtin.min_ ts t #[.float .f64 (fW (x*10+d)),.float .f64 4697535886324137984]).run Tryz.prog W = .ok (.float .f64 (fW (min (x*10+d) 1114112))) W:=fun ts t W=>by
           rw [← fW_beyond];exact run_min_float ts t _ _ (by omega) (by omega) W
          have c7:∀ W,(binOp .add 189 (.float .f64 (fW k)) (.float .f64 4607182418800017408)).run Tryz.prog W = .ok (.float .f64 (fW (k+1))) W:=fun W=>by
           rw [← fW_1];exact run_float_arith (h:=fW_add _ _ (by omega)) ..
          clear hd hv hV2 hV hbd hneg hbig hd15 hX0
          go_wp2_with fail
          refine (F.out _).mono ?_
          rintro e w1 ⟨rfl,b1⟩
          have HW2:=Lib.hid (HW.out.trans (b1.mono HW.out.size))
          clear b1 HW
          go_wp2_with fail
          go_roundw
          case rel=>exact ⟨k+1,min (x*10+d) 1114112,by go_num,rfl,by omega,Nat.min_le_right _ _,HW2.out,HR2,Lib.hid (fun h=>absurd h (by omega))⟩
          case measure=>simp [intOf];omega
    · obtain rfl:k=a.size:=by omega
      have hV2:=hV.out
      rw [List.drop_eq_nil_of_le (by rw [Array.length_toList];show a.size≤a.size;omega),valR] at hV2
      by_cases h0:a.size=0
      · have c1:(FloatKind.f64.format.order (fW a.size) 0 == some Ordering.eq)=true:=by
         rw [← fW_0,ord_eq (by omega) (by omega)];exact decide_eq_true h0
        have HE0:=Lib.hid (HEmpty.out h0)
        clear hV2 hV h0 hX0
        go_wp2_with fail
        go_ret
        exact ⟨by rw [HE0.out];rfl,HW.out⟩
      · have c1:(FloatKind.f64.format.order (fW a.size) 0 == some Ordering.eq)=false:=by
         rw [← fW_0,ord_eq (by omega) (by omega)];exact decide_eq_false h0
        have c2:∀ W,(convert 189 3 (.float .f64 (fW x))).run Tryz.prog W = .ok (.int .i64 (x:Int)) W:=fun W =>
         run_convert_float_int W 189 3 .f64 .i64 (fW x) (x:Int) (by rw [Tryz.underlying189];rfl) Tryz.underlying3 (fW_toInt x (by omega))
        have HR2:=Lib.hid hV2
        have HFull:=Lib.hid (HFul.out h0)
        clear hV2 hV h0 hX0
        go_wp2_with fail
        go_ret
        exact ⟨by rw [HFull.out,← HR2.out];rfl,HW.out⟩
end Go.Proofs.YtcecjoaeolglbaaGreatDoor.Hand
end

section
namespace Go.Proofs.YtcecjoaeolglbaaGreatDoor.Hand
open Go Go.RowKit Go.Proofs.YtcecjoaeolglbaaGreatDoor.Pl Go.Proofs.YtcecjoaeolglbaaGreatDoor.Pb
structure GlobE (w:World):Prop where mk::(out:∃ ev,w.cell? ⟨3,0,none⟩=some ev∧(ev = .nilIface∨∃ te pe,ev = .iface te pe))
theorem Glob.toE {w:World} (h:Glob w):GlobE w:=⟨h.err⟩
theorem GlobE.step {w W:World} (h:GlobE w) (hb:Below w.heap.size w W):GlobE W:=by
 obtain ⟨ev,h1,h2⟩:=h
 exact ⟨ev,(hb.cell (World.block_lt_of_cell? w _ h1)).trans h1,h2⟩
set_option maxRecDepth 100000 in
set_option maxHeartbeats 1000000 in
theorem parse_ok (s:ByteArray) (hx:∀ c∈s.data.toList,isHexU c=true) (h1:1≤s.size) (h8:s.size≤8) (w:World) :
  Calls Tryz.prog 196 #[.string s,.int .i64 16,.int .i64 32] w fun e w'=>e = .returned (.tuple #[.int .u64 (hexN 0 s.data.toList:Nat),.nilIface])∧Below w.heap.size w w':=by
 have I:=Lib.hid (fun W=>iparse_c s hx h1 h8 W)
 obtain ⟨R,hR⟩:∃ R,hexN 0 s.data.toList=R:=⟨_,rfl⟩
 rw [hR] at I ⊢
 clear hx h1 h8 hR
 go_enter Tryz.func196,Tryz.ntmps196
 go_wp2_with fail
 refine (I.out _).mono ?_
 rintro e w1 ⟨rfl,hb⟩
 go_wp2_with fail
 go_ret2
 exact ⟨rfl,hb⟩
set_option maxRecDepth 100000 in
set_option maxHeartbeats 1000000 in
theorem parse_empty (w:World) (hG:GlobE w) :
  Calls Tryz.prog 196 #[.string ⟨#[]⟩,.int .i64 16,.int .i64 32] w fun e w'=>(∃ t x,e = .returned (.tuple #[.int .u64 0,.iface t x]))∧Below w.heap.size w w':=by
 obtain ⟨ev,hv,hev⟩:=hG
 have I:=Lib.hid (Tryz.internal_strconv_ParseUint_empty 16 32 w)
 have E:=Lib.hid (fun fn=>Tryz.strconv_toError_syntax fn ⟨#[]⟩ 16 32 ev w (by decide) hv hev)
 clear hv hev
 go_enter Tryz.func196,Tryz.ntmps196
 go_wp2_with fail
 refine I.out.mono ?_
 rintro e w1 ⟨rfl,rfl⟩
 go_wp2_with fail
 refine (E.out _).mono ?_
 rintro e w2 ⟨N,rfl,_,_,hb⟩
 go_wp2_with fail
 go_ret2
 exact ⟨⟨_,_,rfl⟩,hb⟩
theorem hexN_lt:∀ (l:List UInt8) (n k:Nat),n<16 ^ k→hexN n l<16 ^ (k+l.length):=by
 intro l
 induction l with
 | nil=>intro n k h;exact h
 | cons c r ih =>
   intro n k h
   have hb:=hexV_bound c
   rw [hexN,List.length_cons,show k+(r.length+1)=(k+1)+r.length by omega]
   apply ih
   rw [Nat.pow_succ];omega
set_option maxRecDepth 100000 in
set_option maxHeartbeats 1000000 in
theorem nnum_ok (s:ByteArray) (hx:∀ c∈s.data.toList,isHexU c=true) (h1:1≤s.size) (h8:s.size≤8) (w:World) :
  Calls Tryz.prog 164 #[.string s] w fun e w'=>e = .returned (.float .f64 (fW (hexN 0 s.data.toList)))∧Below w.heap.size w w':=by
 have I:=Lib.hid (fun W=>parse_ok s hx h1 h8 W)
 have hlt:hexN 0 s.data.toList<2 ^ 53:=by
  have:=hexN_lt s.data.toList 0 0 (by decide)
  have h2:16 ^ (0+s.data.toList.length)≤16 ^ 8:=Nat.pow_le_pow_right (by decide) (by rw [Array.length_toList];show 0+s.size≤8;omega)
  have h3:(16:Nat) ^ 8≤2 ^ 53:=by decide
  omega
 obtain ⟨R,hR⟩:∃ R,hexN 0 s.data.toList=R:=⟨_,rfl⟩
 rw [hR] at I hlt ⊢
 have hf:floatOfInt .f64 (R:Int)=fW R:=fW_ofInt R hlt
 clear hx h1 h8 hR hlt
 go_enter Tryz.func164,Tryz.ntmps164
 go_wp2_with fail
 refine (I.out _).mono ?_
 rintro e w1 ⟨rfl,hb⟩
 go_wp2_with fail
 go_ret
 exact ⟨rfl,hb⟩
set_option maxRecDepth 100000 in
set_option maxHeartbeats 1000000 in
theorem nnum_empty (w:World) (hG:GlobE w) :
  Calls Tryz.prog 164 #[.string ⟨#[]⟩] w fun e w'=>e = .returned (.float .f64 (fW 0))∧Below w.heap.size w w':=by
 have I:=Lib.hid (parse_empty w hG)
 rw [fW_0]
 clear hG
 go_enter Tryz.func164,Tryz.ntmps164
 go_wp2_with fail
 refine I.out.mono ?_
 rintro e w1 ⟨⟨t,x,rfl⟩,hb⟩
 go_wp2_with fail
 go_ret
 exact ⟨rfl,hb⟩
end Go.Proofs.YtcecjoaeolglbaaGreatDoor.Hand
end

section
namespace Go.Proofs.YtcecjoaeolglbaaGreatDoor.Pl
def linesOf:List UInt8→List UInt8×List (List UInt8)
 | []=>([],[])
 | c::r=>if c.toNat=10 then ([],(linesOf r).1::(linesOf r).2) else (c::(linesOf r).1,(linesOf r).2)
theorem lines_head:∀ T:List UInt8,lnT T 0=(linesOf T).1:=by
 intro T
 induction T with
 | nil=>rfl
 | cons c r ih =>
   unfold lnT at ih ⊢
   rw [List.drop_zero] at ih ⊢
   rw [List.takeWhile_cons,linesOf]
   by_cases h:c.toNat=10
   · obtain rfl:c=10:=UInt8.toNat_inj.1 h
     rfl
   · rw [if_neg h,show (c != 10)=true by rw [bne_iff_ne];rintro rfl;exact h rfl,if_pos rfl,ih]
theorem lines_mem:∀ (T:List UInt8) (q:Nat),T[q]? = some 10→lnT T (q+1)∈(linesOf T).2:=by
 intro T
 induction T with
 | nil=>intro q h;cases h
 | cons c r ih =>
   intro q h
   rw [linesOf]
   cases q with
   | zero =>
     obtain rfl:c=10:=by simpa using h
     rw [if_pos (show (10:UInt8).toNat=10 by decide)]
     have:lnT (10::r) (0+1)=lnT r 0:=rfl
     rw [this,lines_head]
     exact List.mem_cons_self
   | succ q =>
     have hm:=ih q (by simpa using h)
     have:lnT (c::r) (q+1+1)=lnT r (q+1):=rfl
     rw [this]
     split
     · exact List.mem_cons_of_mem _ hm
     · exact hm
def hexW (w:List UInt8):Bool:=w.all isHexU&&(decide (1≤w.length)&&decide (w.length≤8))
def restOk (q:List UInt8):Bool:=hexW (q.takeWhile (fun c=>c != 32))&&(let b:=q.drop ((q.takeWhile (fun c=>c != 32)).length+1);b.isEmpty || hexW b)
def rowOk (l:List UInt8):Bool:=restOk (rsL l)&&decide (1≤(kyL l).length)
def linesOk (T:List UInt8):Bool:=rowOk (linesOf T).1&&(linesOf T).2.all rowOk
theorem lines_all {T:List UInt8} (h:linesOk T=true) (p:Nat) (hp:St T p):rowOk (lnT T p)=true:=by
 unfold linesOk at h
 rw [Bool.and_eq_true,List.all_eq_true] at h
 rcases hp with rfl|⟨q,rfl,hq⟩
 · rw [lines_head];exact h.1
 · exact h.2 _ (lines_mem T q hq)
theorem hexW_spec {w:List UInt8} (h:hexW w=true):(∀ c∈w,isHexU c=true)∧1≤w.length∧w.length≤8:=by
 unfold hexW at h
 rw [Bool.and_eq_true,Bool.and_eq_true,List.all_eq_true,decide_eq_true_eq,decide_eq_true_eq] at h
 exact h
end Go.Proofs.YtcecjoaeolglbaaGreatDoor.Pl
end

section
namespace Go.Proofs.YtcecjoaeolglbaaGreatDoor.Hand
open Go Go.RowKit Go.Proofs.YtcecjoaeolglbaaGreatDoor.Pl Go.Proofs.YtcecjoaeolglbaaGreatDoor.Pb
set_option maxRecDepth 1000000 in
theorem names_lines:linesOk namesL=true:=by kernel_rfl
set_option maxRecDepth 1000000 in
theorem names_size:decide (namesB.size≤1000000)=true:=by kernel_rfl
def num1 (rest:List UInt8):Nat:=hexN 0 (upto 32 rest)
def num2 (rest:List UInt8):Nat:=hexN 0 (past 32 rest)
theorem nnum_w (l:List UInt8) (h:l=[]∨hexW l=true) (w:World) (hG:GlobE w) :
  Calls Tryz.prog 164 #[.string (B l)] w fun e w'=>e = .returned (.float .f64 (fW (hexN 0 l)))∧Below w.heap.size w w':=by
 rcases h with rfl|h
 · exact nnum_empty w hG
 · obtain ⟨h1,h2,h3⟩:=hexW_spec h
   have:=nnum_ok (B l) (by rw [B_data];exact h1) (by rw [size_B];exact h2) (by rw [size_B];exact h3) w
   rw [B_data] at this
   exact this
def nvalV (key:List UInt8):Option (List UInt8)→Value
 | none => .tuple #[.complex .f64 0 0,.bool false]
 | some r=>if key=[] then .tuple #[.complex .f64 0 0,.bool false] else .tuple #[.complex .f64 (fW (num1 r)) (fW (num2 r)),.bool true]
set_option maxRecDepth 1000000 in
set_option maxHeartbeats 2000000 in
theorem nvalue_c (key:List UInt8) (w:World) (hGl:Glob w) (hGE:GlobE w) :
  Calls Tryz.prog 119 #[.string (B key)] w fun e w'=>(∃ r,Fnd namesL key r∧e = .returned (nvalV key r))∧Below w.heap.size w w':=by
 have hz:namesB.size≤1000000:=of_decide_eq_true names_size
 have SL:=sline_c namesB (B key) [] names_tab hz w hGl
 rw [B_data,show namesB.data.toList=namesL from rfl] at SL
 have HSL:=Lib.hid SL
 have HG:=Lib.hid hGl
 have HE:=Lib.hid hGE
 have hke:(B key).toList.isEmpty=key.isEmpty:=by rw [toList_B]
 have HKE:=Lib.hid hke
 obtain ⟨a,ha⟩:∃ a,B key=a:=⟨_,rfl⟩
 rw [ha] at HSL HKE ⊢
 clear ha hke SL hGl hGE
 refine calls_of_wp Tryz.func119 rfl ?_
 generalize hN:ByteArray.mk _=N
 have hN2:N=namesB:=hN.symm.trans rfl
 clear hN
 subst hN2
 simp only [Tryz.ntmps119,List.size_toArray,List.length_cons,List.length_nil,Nat.reduceAdd,Nat.reduceSub,Array.replicate_succ,Array.replicate_zero,List.push_toArray,List.append_toArray,List.nil_append,List.cons_append]
 go_wp2_with fail
 refine HSL.out.mono ?_
 rintro e w1 ⟨⟨r,hf,rfl⟩,hb⟩
 have HF:=Lib.hid hf
 have HW:=Lib.hid hb
 clear hf hb HSL
 cases r with
 | none =>
   dsimp only [fndV]
   go_wp2_with fail
   go_ret2
   exact ⟨⟨none,HF.out,rfl⟩,HW.out⟩
 | some rest =>
   dsimp only [fndV]
   cases hk:key with
   | nil =>
     have hke:=HKE.out
     rw [hk] at hke
     rw [hke]
     clear hke
     go_wp2_with fail
     go_ret2
     exact ⟨⟨some rest,HF.out,by rw [hk];rfl⟩,HW.out⟩
   | cons k0 kr =>
     have hke:=HKE.out
     rw [hk] at hke
     rw [hke]
     clear hke
     have hro:restOk rest=true:=by
      rcases HF.out with ⟨p,h1,_,h3⟩|⟨_,e⟩
      · have:=lines_all names_lines p h1
        unfold rowOk at this
        rw [Bool.and_eq_true] at this
        cases h3
        exact this.1
      · cases e
     unfold restOk at hro
     rw [Bool.and_eq_true] at hro
     obtain ⟨h1,h2⟩:=hro
     have u1:hexW (upto 32 rest)=true:=h1
     have u2:past 32 rest=[]∨hexW (past 32 rest)=true:=by
      simp only [Bool.or_eq_true,List.isEmpty_iff] at h2
      exact h2
     have hl:rest.length≤1000000:=by
      rcases HF.out with ⟨p,h3,_,h4⟩|⟨_,e⟩
      · cases h4
        have hi:=(names_tab.inside p h3)
        have:=ln_le namesL p (by omega)
        have e:namesL.length=namesB.size:=Array.length_toList
        unfold rsL
        rw [List.length_drop];omega
      · cases e
     have C:=Lib.hid (scut_c 32 rest w1 (by omega) (HG.out.step HW.out))
     have N1:=Lib.hid (fun W hG=>nnum_w (upto 32 rest) (.inr u1) W hG)
     have N2:=Lib.hid (fun W hG=>nnum_w (past 32 rest) u2 W hG)
     have hk0:key≠[]:=by rw [hk];simp
     have HK0:=Lib.hid hk0
     obtain ⟨x1,hx1⟩:∃ x,B (upto 32 rest)=x:=⟨_,rfl⟩
     obtain ⟨x2,hx2⟩:∃ x,B (past 32 rest)=x:=⟨_,rfl⟩
     obtain ⟨x3,hx3⟩:∃ x,decide ((32:UInt8)∈rest)=x:=⟨_,rfl⟩
     obtain ⟨x4,hx4⟩:∃ x,B rest=x:=⟨_,rfl⟩
     rw [hx1,hx2,hx3,hx4] at C
     rw [hx1] at N1
     rw [hx2] at N2
     rw [hx4]
     clear h1 h2 u1 u2 hl hk0 hx1 hx2 hx3 hx4
     go_wp2_with fail
     refine C.out.mono ?_
     rintro e w2 ⟨rfl,hb⟩
     have HW2:=Lib.hid (HW.out.trans (hb.mono HW.out.size))
     clear hb C
     go_wp2_with fail
     refine (N1.out _ (HE.out.step HW2.out)).mono ?_
     rintro e w3 ⟨rfl,hb⟩
     have HW3:=Lib.hid (HW2.out.trans (hb.mono HW2.out.size))
     clear hb
     go_wp2_with fail
     refine (N2.out _ (HE.out.step HW3.out)).mono ?_
     rintro e w4 ⟨rfl,hb⟩
     have HW4:=Lib.hid (HW3.out.trans (hb.mono HW3.out.size))
     clear hb
     go_wp2_with fail
     go_ret2
     exact ⟨⟨some rest,HF.out,by unfold nvalV;simp only [HK0.out,if_false];rfl⟩,HW4.out⟩
end Go.Proofs.YtcecjoaeolglbaaGreatDoor.Hand
end

section
namespace Go.Proofs.YtcecjoaeolglbaaGreatDoor.Hand
open Go.RowKit Go.Proofs.YtcecjoaeolglbaaGreatDoor.Pb Go.Proofs.YtcecjoaeolglbaaGreatDoor.Pl
def signB (n:Int):ByteArray:=if n<0∨1114111<n then ⟨#[239,191,189]⟩ else Utf8.encode n
set_option maxRecDepth 100000 in
set_option maxHeartbeats 2000000 in
theorem sign_c (n:Int) (w:World) (h : -9223372036854775808≤n∧n≤9223372036854775807) :
  Calls Tryz.prog 50 #[.int .i64 n] w fun e w'=>e = .returned (.string (signB n))∧w'=w:=by
 obtain ⟨S,hS⟩:∃ S,signB n=S:=⟨_,rfl⟩
 rw [hS]
 unfold signB at hS
 by_cases h0:n<0
 · rw [if_pos (.inl h0)] at hS
   have e0:decide (n<0)=true:=by simpa using h0
   have HS:=Lib.hid hS
   clear hS
   go_enter Tryz.func50,Tryz.ntmps50
   go_wp2_with fail
   go_ret
   exact ⟨by rw [← HS.out];rfl,rfl⟩
 · have e0:decide (n<0)=false:=by simpa using h0
   by_cases h1:1114111<n
   · rw [if_pos (.inr h1)] at hS
     have e1:decide (1114111<n)=true:=by simpa using h1
     have HS:=Lib.hid hS
     clear hS
     go_enter Tryz.func50,Tryz.ntmps50
     go_wp2_with fail
     go_ret
     exact ⟨by rw [← HS.out];rfl,rfl⟩
   · rw [if_neg (by omega)] at hS
     have e1:decide (1114111<n)=false:=by simpa using h1
     have h2:0≤n:=by omega
     have h3:n≤1114111:=by omega
     have HS:=Lib.hid hS
     clear hS
     go_enter Tryz.func50,Tryz.ntmps50
     go_wp2_with fail
     go_ret
     exact ⟨by rw [← HS.out];rfl,rfl⟩
end Go.Proofs.YtcecjoaeolglbaaGreatDoor.Hand
end

section
namespace Go.Proofs.YtcecjoaeolglbaaGreatDoor.Hand
open Go Go.RowKit Go.Proofs.YtcecjoaeolglbaaGreatDoor.Pl Go.Proofs.YtcecjoaeolglbaaGreatDoor.Pb
theorem fnd_rest {key rest:List UInt8} (h:Fnd namesL key (some rest)):restOk rest=true∧key≠[]∧isKey namesL key:=by
 rcases h with ⟨p,h1,h2,h3⟩|⟨_,e⟩
 · have:=lines_all names_lines p h1
   unfold rowOk at this
   rw [Bool.and_eq_true,decide_eq_true_eq] at this
   cases h3
   refine ⟨this.1,?_,p,h1,h2⟩
   rintro rfl
   have h2':kyL (lnT namesL p)=[]:=h2
   rw [h2'] at this
   simp at this
 · cases e
theorem hexW_lt {w:List UInt8} (h:w=[]∨hexW w=true):hexN 0 w<4294967296:=by
 rcases h with rfl|h
 · decide
 · obtain ⟨_,_,h3⟩:=hexW_spec h
   have:=hexN_lt w 0 0 (by decide)
   have h2:16 ^ (0+w.length)≤16 ^ 8:=Nat.pow_le_pow_right (by decide) (by omega)
   have h4:(16:Nat) ^ 8=4294967296:=by decide
   omega
theorem num_lt {rest:List UInt8} (h:restOk rest=true):num1 rest<4294967296∧num2 rest<4294967296:=by
 unfold restOk at h
 rw [Bool.and_eq_true] at h
 obtain ⟨h1,h2⟩:=h
 simp only [Bool.or_eq_true,List.isEmpty_iff] at h2
 exact ⟨hexW_lt (.inr h1),hexW_lt h2⟩
def textB (a b:Nat):ByteArray:=if b=0 then signB (a:Int) else signB (a:Int)++signB (b:Int)
theorem enc_size (n:Int):(Utf8.encode n).size≤4:=by
 have k1:(1:Nat)≤4:=by decide
 have k2:(2:Nat)≤4:=by decide
 have k3:(3:Nat)≤4:=by decide
 unfold Utf8.encode
 simp only
 repeat' split
 all_goals first|exact k1|exact k2|exact k3|exact Nat.le_refl 4
theorem signB_size (n:Int):(signB n).size≤4:=by
 unfold signB
 split
 · decide
 · exact enc_size n
set_option maxRecDepth 100000 in
set_option maxHeartbeats 2000000 in
theorem ntext_c (a b:Nat) (ha:a<4294967296) (hb:b<4294967296) (w:World) :
  Calls Tryz.prog 122 #[.complex .f64 (fW a) (fW b)] w fun e w'=>e = .returned (.string (textB a b))∧w'=w:=by
 have c1:∀ W,(convert 189 3 (.float .f64 (fW a))).run Tryz.prog W = .ok (.int .i64 (a:Int)) W:=fun W =>
  run_convert_float_int W 189 3 .f64 .i64 (fW a) (a:Int) (by rw [Tryz.underlying189];rfl) Tryz.underlying3 (fW_toInt a (by omega))
 have c2:∀ W,(convert 189 3 (.float .f64 (fW b))).run Tryz.prog W = .ok (.int .i64 (b:Int)) W:=fun W =>
  run_convert_float_int W 189 3 .f64 .i64 (fW b) (b:Int) (by rw [Tryz.underlying189];rfl) Tryz.underlying3 (fW_toInt b (by omega))
 have SA:=fun W=>sign_c (a:Int) W (by omega)
 have SB:=fun W=>sign_c (b:Int) W (by omega)
 have za:=signB_size (a:Int)
 have zb:=signB_size (b:Int)
 unfold textB
 obtain ⟨X,hX⟩:∃ X,signB (a:Int)=X:=⟨_,rfl⟩
 obtain ⟨Y,hY⟩:∃ Y,signB (b:Int)=Y:=⟨_,rfl⟩
 rw [hX] at SA za
 rw [hY] at SB zb
 rw [hX,hY]
 have HA:=Lib.hid SA
 have HB:=Lib.hid SB
 clear SA SB hX hY
 by_cases h0:b=0
 · have c3:(FloatKind.f64.format.order (fW b) 0 != some Ordering.eq)=false:=by
    rw [bne,← fW_0,ord_eq (by omega) (by omega),decide_eq_true h0];rfl
   rw [if_pos h0]
   clear c2 h0 ha hb
   go_enter Tryz.func122,Tryz.ntmps122
   go_wp2_with fail
   refine (HA.out _).mono ?_
   rintro e w1 ⟨rfl,rfl⟩
   go_wp2_with fail
   go_ret
   exact ⟨rfl,rfl⟩
 · have c3:(FloatKind.f64.format.order (fW b) 0 != some Ordering.eq)=true:=by
    rw [bne,← fW_0,ord_eq (by omega) (by omega),decide_eq_false h0];rfl
   rw [if_neg h0]
   clear h0 ha hb
   go_enter Tryz.func122,Tryz.ntmps122
   go_wp2_with fail
   refine (HA.out _).mono ?_
   rintro e w1 ⟨rfl,rfl⟩
   go_wp2_with fail
   refine (HB.out _).mono ?_
   rintro e w2 ⟨rfl,rfl⟩
   go_wp2_with fail
   go_ret
   exact ⟨rfl,rfl⟩
theorem nshort_c (key:List UInt8) (hk:isKey namesL key) (hs:key.length≤1000000) (w:World) (hGl:Glob w) (hGE:GlobE w) :
  Calls Tryz.prog 120 #[.string (B key)] w fun e w'=>e = .returned (.bool (!Lib.hasSuffix key [59]))∧Below w.heap.size w w':=by
 have V:=Lib.hid (nvalue_c key w hGl hGE)
 have H:=fun W=>Tryz.strings_HasSuffix (B key) ⟨#[59]⟩ W (by rw [size_B];omega)
 rw [B_data] at H
 obtain ⟨bs,hbs⟩:∃ b,Lib.hasSuffix key [59]=b:=⟨_,rfl⟩
 have H2:∀ W,Calls Tryz.prog 165 #[.string (B key),.string ⟨#[59]⟩] W fun e w'=>e = .returned (.bool bs)∧w'=W:=fun W=>by rw [← hbs];exact H W
 have HH:=Lib.hid H2
 have HK:=Lib.hid hk
 rw [hbs]
 obtain ⟨a,ha⟩:∃ a,B key=a:=⟨_,rfl⟩
 rw [ha] at V HH ⊢
 clear ha H H2 hbs hs hGl hGE hk
 go_enter Tryz.func120,Tryz.ntmps120
 go_wp2_with fail
 refine V.out.mono ?_
 rintro e w1 ⟨⟨r,hf,rfl⟩,hb⟩
 have HW:=Lib.hid hb
 clear hb V
 cases r with
 | none =>
   obtain ⟨p,h1,h2⟩:=HK.out
   rcases hf with ⟨_,_,_,e⟩|⟨e,_⟩
   · cases e
   · exact absurd h2 (e p h1)
 | some rest =>
   have hne:=(fnd_rest hf).2.1
   have hv:nvalV key (some rest) = .tuple #[.complex .f64 (fW (num1 rest)) (fW (num2 rest)),.bool true]:=by unfold nvalV;simp only [hne,if_false]
   rw [hv]
   clear hf hne hv
   go_wp2_with fail
   refine (HH.out _).mono ?_
   rintro e w2 ⟨rfl,rfl⟩
   go_wp2_with fail
   go_ret
   exact ⟨rfl,HW.out⟩
end Go.Proofs.YtcecjoaeolglbaaGreatDoor.Hand
end

section
namespace Go.Proofs.YtcecjoaeolglbaaGreatDoor.Hand
open Go.RowKit
theorem ne_off {b i j:Nat} (h:i≠j):(⟨b,i,none⟩:Addr)≠⟨b,j,none⟩:=by intro e;injection e with _ e _;exact h e
theorem run_index_agg {P:Program} {t e:TypeId} {n:Nat} {i:TypeInfo} {cs:Array Value} {j:Nat} {v:Value} {W:World} (hu:P.underlying t=some (.array n e)) (hi:P.info? e=some i) (h1:P.cellsOf e=1)
  (hk:P.plainKey e=true) (hj:j<n) (hv:cs[j]? = some v):(Instr.index t (.agg cs) (.int .i64 (j:Int))).run P W = .ok v W:=by
 have hn:(0:Int)≤(j:Int)∧(j:Int)<(n:Int):=⟨by omega,by omega⟩
 unfold Program.plainKey at hk
 cases hue:P.underlying e with
 | none=>simp [hue] at hk
 | some d=>cases d<;>simp [hue] at hk<;>simp [Instr.index,run_underlying hu,asIntOf,hn,run_sizeOf W hi,h1,part,isAgg,run_underlying hue,hv,hj,go_sem]
end Go.Proofs.YtcecjoaeolglbaaGreatDoor.Hand
end

section
namespace Go.Proofs.YtcecjoaeolglbaaGreatDoor.Hand
open Go.RowKit Go.Proofs.YtcecjoaeolglbaaGreatDoor.Pb Go.Proofs.YtcecjoaeolglbaaGreatDoor.Pl
def otherN:List Nat:=[0x20AC,0x81,0x201A,0x192,0x201E,0x2026,0x2020,0x2021,0x2C6,0x2030,0x160,0x2039,0x152,0x8D,0x17D,0x8F,0x90,0x2018,0x2019,0x201C,0x201D,0x2022,0x2013,0x2014,0x2DC,0x2122,0x161,0x203A,0x153,0x9D,0x17E,0x178]
def i64V (n:Nat):Value:=.int .i64 (n:Int)
def otherV:Array Value:=(otherN.map i64V).toArray
def zeroV:Array Value:=(List.replicate 32 (Value.int .i64 0)).toArray
set_option maxRecDepth 100000 in
set_option maxHeartbeats 4000000 in
theorem other_c (w:World):Calls Tryz.prog 194 #[] w fun e w'=>e = .returned (.agg otherV)∧w'=w.alloc (.cells otherV 229):=by
 go_enter Tryz.func194,Tryz.ntmps194
 apply wp_seq
 apply wp_region_lit
 refine Go.Great.wpList_allocTo rfl (some 0) rfl (.pointer (some ⟨w.heap.size,0,none⟩)) (.cells zeroV 229) (by kernel_rfl) ?_
 refine wpList_nil ?_
 show Code.wp _ _ _ _ _
 apply wp_seq
 apply wp_region_lit
 refine wpList_build rfl 229 _ rfl (by kernel_rfl) ?_
 refine wpList_store_row rfl 229 _ _ rfl w.heap.size otherV (by kernel_rfl) (by kernel_rfl) 229 zeroV (heap_alloc_last w _) (by kernel_rfl) (by kernel_rfl) (by kernel_rfl) ?_
 refine wpList_nil ?_
 show Code.wp _ _ _ _ _
 refine wp_ret (bodyPost_ret (v:=.agg otherV) (results_cell_row rfl _ _ w.heap.size 229 otherV (0,0) _ (by kernel_rfl) ?_ Tryz.underlying229 rfl (by kernel_rfl)) rfl ⟨rfl,World.setRow_alloc_new ..⟩)
 exact setRow_heap _ _ _ _ _ _ (heap_alloc_last w _)
def fixB (n:Nat):ByteArray:=if n=0 then ⟨#[239,191,189]⟩ else if 128≤n∧n<160 then signB ((otherN.getD (n - 128) 0:Nat):Int) else signB (n:Int)
theorem otherV_at (j:Nat) (h:j<32):otherV[j]? = some (.int .i64 ((otherN.getD j 0:Nat):Int)):=by
 unfold otherV
 rw [List.getElem?_toArray,List.getElem?_map,List.getD_eq_getElem?_getD,List.getElem?_eq_getElem (show j<otherN.length from h)]
 rfl
theorem otherN_le:∀ j,otherN.getD j 0≤1114111:=by
 intro j
 rcases Nat.lt_or_ge j 32 with h|h
 · revert j;decide
 · rw [List.getD_eq_getElem?_getD,List.getElem?_eq_none (by exact h)];decide
def ZV:Array Value := #[.int .i64 0,.int .i64 0,.int .i64 0,.int .i64 0,.int .i64 0,.int .i64 0,.int .i64 0,.int .i64 0,.int .i64 0,.int .i64 0,.int .i64 0,.int .i64 0,.int .i64 0,.int .i64 0,.int .i64 0,.int .i64 0,.int .i64 0,.int .i64 0,.int .i64 0,.int .i64 0,.int .i64 0,.int .i64 0,.int .i64 0,.int .i64 0,.int .i64 0,.int .i64 0,.int .i64 0,.int .i64 0,.int .i64 0,.int .i64 0,.int .i64 0,.int .i64 0]
set_option maxRecDepth 100000 in
set_option maxHeartbeats 4000000 in
theorem fix_c (n:Nat) (hn:n≤1114112) (w:World):Calls Tryz.prog 161 #[.int .i64 (n:Int)] w fun e w'=>e = .returned (.string (fixB n))∧Below w.heap.size w w':=by
 have O:=Lib.hid (other_c w)
 have hsc:(storeCells ⟨w.heap.size+1,0,none⟩ otherV.toList 0).run Tryz.prog ((w.alloc (.cells otherV 229)).alloc (.cells #[.int .i64 0,.int .i64 0,.int .i64 0,.int .i64 0,.int .i64 0,.int .i64 0,.int .i64 0,.int .i64 0,.int .i64 0,.int .i64 0,.int .i64 0,.int .i64 0,.int .i64 0,.int .i64 0,.int .i64 0,.int .i64 0,.int .i64 0,.int .i64 0,.int .i64 0,.int .i64 0,.int .i64 0,.int .i64 0,.int .i64 0,.int .i64 0,.int .i64 0,.int .i64 0,.int .i64 0,.int .i64 0,.int .i64 0,.int .i64 0,.int .i64 0,.int .i64 0] 229)) = .ok () ((w.alloc (.cells otherV 229)).alloc (.cells otherV 229)):=by
  have:=run_storeCells_new (P:=Tryz.prog) (w.alloc (.cells otherV 229)) 229 ZV otherV (by kernel_rfl) (by kernel_rfl) (by kernel_rfl)
  rw [World.size_alloc] at this
  exact this
 have hcs:otherV.size=32:=rfl
 have hb:Below w.heap.size w ((w.alloc (.cells otherV 229)).alloc (.cells otherV 229)):=((Below.refl _ w).alloc (Nat.le_refl _) _).alloc (by simp) _
 have hcell:∀ j,j<32→((w.alloc (.cells otherV 229)).alloc (.cells otherV 229)).cell? ⟨w.heap.size+1,j,none⟩=some (.int .i64 ((otherN.getD j 0:Nat):Int)):=fun j hj=>by
  rw [World.cell?_alloc_at _ _ _ _ (by simp),otherV_at j hj]
 have HC:=Lib.hid hcell
 have HB:=Lib.hid hb
 obtain ⟨S,hS⟩:∃ S,fixB n=S:=⟨_,rfl⟩
 rw [hS]
 unfold fixB at hS
 obtain ⟨OV,hOV⟩:∃ OV,otherV=OV:=⟨_,rfl⟩
 rw [hOV] at O HC hsc hcs HB
 clear hcell hb hOV
 by_cases h0:n=0
 · subst h0
   rw [if_pos rfl] at hS
   subst hS
   go_enter Tryz.func161,Tryz.ntmps161
   go_wp2_with fail
   refine O.out.mono ?_
   rintro e w1 ⟨rfl,rfl⟩
   go_wp2_with fail
   go_ret
   exact ⟨rfl,HB.out⟩
 · have q0:((n:Int) == 0)=false:=by rw [beq_eq_false_iff_ne];omega
   rw [if_neg h0] at hS
   by_cases h1:128≤n
   · have q1:decide ((128:Int)≤(n:Int))=true:=by simp;omega
     by_cases h2:n<160
     · have q2:decide ((n:Int)<160)=true:=by simp;omega
       rw [if_pos ⟨h1,h2⟩] at hS
       obtain ⟨j,rfl⟩:∃ j,n=128+j:=⟨n - 128,by omega⟩
       rw [show 128+j - 128=j by omega] at hS
       have hj:j<32:=by omega
       have hcj:=HC.out j hj
       have hm:=otherN_le j
       obtain ⟨v,hv⟩:∃ v,otherN.getD j 0=v:=⟨_,rfl⟩
       rw [hv] at hcj hS hm
       have SG:Hid (∀ W,Calls Tryz.prog 50 #[.int .i64 (v:Int)] W fun e w'=>e = .returned (.string S)∧w'=W):=Lib.hid (fun W=>by rw [← hS];exact sign_c _ W (by omega))
       clear hS hv HC
       go_enter Tryz.func161,Tryz.ntmps161
       go_wp2_with fail
       refine O.out.mono ?_
       rintro e w1 ⟨rfl,rfl⟩
       go_wp2_with fail
       refine (SG.out _).mono ?_
       rintro e w2 ⟨rfl,rfl⟩
       go_wp2_with fail
       go_ret
       exact ⟨rfl,HB.out⟩
     · have q2:decide ((n:Int)<160)=false:=by simp;omega
       rw [if_neg (by omega)] at hS
       have SG:Hid (∀ W,Calls Tryz.prog 50 #[.int .i64 (n:Int)] W fun e w'=>e = .returned (.string S)∧w'=W):=Lib.hid (fun W=>by rw [← hS];exact sign_c _ W (by omega))
       clear hS HC
       go_enter Tryz.func161,Tryz.ntmps161
       go_wp2_with fail
       refine O.out.mono ?_
       rintro e w1 ⟨rfl,rfl⟩
       go_wp2_with fail
       refine (SG.out _).mono ?_
       rintro e w2 ⟨rfl,rfl⟩
       go_wp2_with fail
       go_ret
       exact ⟨rfl,HB.out⟩
   · have q1:decide ((128:Int)≤(n:Int))=false:=by simp;omega
     rw [if_neg (by omega)] at hS
     have SG:Hid (∀ W,Calls Tryz.prog 50 #[.int .i64 (n:Int)] W fun e w'=>e = .returned (.string S)∧w'=W):=Lib.hid (fun W=>by rw [← hS];exact sign_c _ W (by omega))
     clear hS HC
     go_enter Tryz.func161,Tryz.ntmps161
     go_wp2_with fail
     refine O.out.mono ?_
     rintro e w1 ⟨rfl,rfl⟩
     go_wp2_with fail
     refine (SG.out _).mono ?_
     rintro e w2 ⟨rfl,rfl⟩
     go_wp2_with fail
     go_ret
     exact ⟨rfl,HB.out⟩
end Go.Proofs.YtcecjoaeolglbaaGreatDoor.Hand
end

section
namespace Go.Proofs.YtcecjoaeolglbaaGreatDoor.Pl
def isSp (c:UInt8):Bool:=c == 32 || c == 9 || c == 10 || c == 12
def stops (c:UInt8):Bool:=isSp c || c == 47 || c == 62
def begR:List UInt8→List UInt8→Bool
 | _,[]=>true
 | [],_::_=>false
 | c::r,d::low=>lowB c == d&&begR r low
theorem begR_eq (low:List UInt8):∀ r,(lowL (r.take low.length) == low)=begR r low:=by
 induction low with
 | nil=>intro r;cases r<;>rfl
 | cons d low ih =>
   intro r
   cases r with
   | nil=>rfl
   | cons c r =>
     have:=ih r
     simp only [List.length_cons,List.take_succ_cons,begR,lowL,List.map_cons] at this ⊢
     rw [← this];rfl
theorem begR_length (low:List UInt8):∀ r,begR r low=true→low.length≤r.length:=by
 induction low with
 | nil=>intro r _;simp
 | cons d low ih =>
   intro r h
   cases r with
   | nil=>simp [begR] at h
   | cons c r =>
     simp only [begR,Bool.and_eq_true] at h
     have:=ih r h.2
     simp;omega
def stopAt (r:List UInt8):Bool:=match r with | []=>false|c::_=>stops c
def endsL (r name:List UInt8):Bool := !name.isEmpty&&begR r [60,47]&&begR (r.drop 2) name&&stopAt (r.drop (2+name.length))
def scriptL:List UInt8:=[115,99,114,105,112,116]
def wordL (r opens:List UInt8):Bool:=begR r (opens++scriptL)&&stopAt (r.drop (opens.length+6))
def stepF (st ct:Nat) (r:List UInt8):Option (Nat×Nat×Nat) :=
 match r with
 | []=>none
 | c::_ =>
   if st≠2∧endsL r scriptL=true then none
   else if st=0 then (if begR r [60,33,45,45]=true then some (4,1,2) else some (1,0,ct))
   else if c=45 then some (1,st,ct+1)
   else if c=62∧2≤ct then some (1,0,0)
   else if st=1 then (if wordL r [60]=true then some (8,2,0) else some (1,1,0))
   else (if wordL r [60,47]=true then some (9,1,0) else some (1,2,0))
theorem stepF_adv {st ct:Nat} {r:List UInt8} {n st' ct':Nat} (h:stepF st ct r=some (n,st',ct')):1≤n∧n≤r.length:=by
 have hb:∀ low,begR r low=true→low.length≤r.length:=fun low=>begR_length low r
 have hw:∀ o,wordL r o=true→o.length+7≤r.length:=by
  intro o hw
  simp only [wordL,Bool.and_eq_true] at hw
  have h2:=hw.2
  have:r.drop (o.length+6)≠[]:=by intro e;rw [e] at h2;simp [stopAt] at h2
  have:=List.length_pos_iff.2 this
  simp at this;omega
 cases r with
 | nil=>simp [stepF] at h
 | cons c r =>
   simp only [stepF] at h
   have h4:=hb [60,33,45,45]
   have h8:=hw [60]
   have h9:=hw [60,47]
   simp only [List.length_cons,List.length_nil] at h4 h8 h9 ⊢
   repeat' split at h
   all_goals first
    | (cases h;done)
    | (simp only [Option.some.injEq,Prod.mk.injEq] at h;obtain ⟨rfl,_⟩:=h;simp_all;done)
    | (simp only [Option.some.injEq,Prod.mk.injEq] at h;obtain ⟨rfl,_⟩:=h;simp_all;omega)
def runF:Nat→Nat→Nat→List UInt8→Nat×Nat
 | 0,st,_,_=>(0,st)
 | f+1,st,ct,r=>match stepF st ct r with
   | none=>(0,st)
   | some (n,st',ct')=>((n+(runF f st' ct' (r.drop n)).1),(runF f st' ct' (r.drop n)).2)
theorem runF_more (f:Nat):∀ st ct r f',r.length≤f→r.length≤f'→runF f st ct r=runF f' st ct r:=by
 induction f with
 | zero =>
   intro st ct r f' h h'
   obtain rfl:r=[]:=List.eq_nil_of_length_eq_zero (by omega)
   cases f'<;>simp [runF,stepF]
 | succ f ih =>
   intro st ct r f' h h'
   cases f' with
   | zero =>
     obtain rfl:r=[]:=List.eq_nil_of_length_eq_zero (by omega)
     simp [runF,stepF]
   | succ f' =>
     simp only [runF]
     cases hs:stepF st ct r with
     | none=>rfl
     | some x =>
       obtain ⟨n,st',ct'⟩:=x
       have ha:=stepF_adv hs
       simp only
       rw [ih st' ct' (r.drop n) f' (by simp;omega) (by simp;omega)]
def findL (st ct:Nat) (r:List UInt8):Nat×Nat:=runF r.length st ct r
theorem findL_none {st ct:Nat} {r:List UInt8} (h:stepF st ct r=none):findL st ct r=(0,st):=by
 unfold findL
 cases hr:r.length with
 | zero=>rfl
 | succ n=>simp [runF,h]
theorem findL_some {st ct:Nat} {r:List UInt8} {n st' ct':Nat} (h:stepF st ct r=some (n,st',ct')):findL st ct r=(n+(findL st' ct' (r.drop n)).1,(findL st' ct' (r.drop n)).2):=by
 have ha:=stepF_adv h
 have e1:runF r.length st ct r=runF (r.length+1) st ct r:=runF_more _ _ _ _ _ (Nat.le_refl _) (by omega)
 unfold findL
 rw [e1]
 simp only [runF,h]
 rw [runF_more r.length st' ct' (r.drop n) (r.drop n).length (by simp) (Nat.le_refl _)]
end Go.Proofs.YtcecjoaeolglbaaGreatDoor.Pl
end

section
namespace Go.Proofs.YtcecjoaeolglbaaGreatDoor.Pure
open Go Go.RowKit Go.Proofs.YtcecjoaeolglbaaGreatDoor.Hand Go.Proofs.YtcecjoaeolglbaaGreatDoor.Sa Go.Proofs.YtcecjoaeolglbaaGreatDoorW.PrintWords Go.Proofs.YtcecjoaeolglbaaGreatDoor.Pl Go.Proofs.YtcecjoaeolglbaaGreatDoor.Pb
attribute [local simp] B_nil
theorem clean_f (l:List UInt8) (h:l.length≤1000000000):lines_Clean.f (B l)=some (B (cleanL l)):=by
 unfold lines_Clean.f;rw [if_pos (by simpa using h)];simp [cleanBA,B]
theorem lower_f (l:List UInt8) (h:l.length≤1000000000):sign_Lower.f (B l)=some (B (lowL l)):=by
 unfold sign_Lower.f;rw [if_pos (by simpa using h)];simp [lowBA,B]
theorem u8c (c:UInt8) (n:Nat) (m:Int) (d:UInt8) (h:n<256) (e:(n:Int)=m) (ed:UInt8.ofNat n=d):(((c.toNat:Int))=m)=(c=d):=by
 rw [← e,← ed];exact u8_eq c n h
theorem u32 (c:UInt8):((c.toNat:Int)=32)=(c=32):=u8c c 32 _ _ (by omega) rfl rfl
theorem u9 (c:UInt8):((c.toNat:Int)=9)=(c=9):=u8c c 9 _ _ (by omega) rfl rfl
theorem u10 (c:UInt8):((c.toNat:Int)=10)=(c=10):=u8c c 10 _ _ (by omega) rfl rfl
theorem u12 (c:UInt8):((c.toNat:Int)=12)=(c=12):=u8c c 12 _ _ (by omega) rfl rfl
theorem u45 (c:UInt8):((c.toNat:Int)=45)=(c=45):=u8c c 45 _ _ (by omega) rfl rfl
theorem u47 (c:UInt8):((c.toNat:Int)=47)=(c=47):=u8c c 47 _ _ (by omega) rfl rfl
theorem u62 (c:UInt8):((c.toNat:Int)=62)=(c=62):=u8c c 62 _ _ (by omega) rfl rfl
theorem ub (c:UInt8) {m:Int} {d:UInt8} (h:((c.toNat:Int)=m)=(c=d)):(((c.toNat:Int)) == m)=(c == d):=by
 rw [Bool.eq_iff_iff,beq_iff_eq,beq_iff_eq,h]
theorem space_f (c:UInt8):sign_Space.f (c.toNat:Int)=some (isSp c):=by
 unfold sign_Space.f isSp
 simp only [u32,u9,u10,ub c (u12 c)]
 by_cases h1:c=32
 · simp [h1]
 · by_cases h2:c=9
   · simp [h2]
   · by_cases h3:c=10
     · simp [h3]
     · simp [h1,h2,h3]
theorem bt_drop (s:List UInt8) (n:Nat) (c:UInt8) (r:List UInt8) (h:s.drop n=c::r):bt (B s) (n:Int)=(c.toNat:Int):=by
 have hlt:n<s.length:=by
  rcases Nat.lt_or_ge n s.length with h'|h'
  · exact h'
  · rw [List.drop_eq_nil_of_le h'] at h;cases h
 rw [bt_B s n hlt]
 rw [List.drop_eq_getElem_cons hlt] at h
 rw [(List.cons.inj h).1]
theorem drop_lt {s:List UInt8} {n:Nat} {c:UInt8} {r:List UInt8} (h:s.drop n=c::r):n<s.length:=by
 rcases Nat.lt_or_ge n s.length with h'|h'
 · exact h'
 · rw [List.drop_eq_nil_of_le h'] at h;cases h
theorem drop_nil {s:List UInt8} {n:Nat} (h:s.drop n=[]):s.length≤n:=by
 rcases Nat.lt_or_ge n s.length with h'|h'
 · rw [List.drop_eq_getElem_cons h'] at h;cases h
 · exact h'
theorem begins_f (s low:List UInt8) (n:Nat) (hs:s.length≤1000000) (hl:low.length≤1000000) (hn:n≤s.length) :
  sign_Begins.f (B s) (n:Int) (B low)=some (begR (s.drop n) low):=by
 unfold sign_Begins.f
 have w1:wrap64 (((B s).size:Int) - (n:Int))=((s.length - n:Nat):Int):=by rw [size_B];unfold wrap64;omega
 have w2:wrap64 ((n:Int)+((B low).size:Int))=((n+low.length:Nat):Int):=by rw [size_B];unfold wrap64;omega
 rw [if_neg (by omega),if_neg (by simp;omega),w1,w2]
 by_cases h:s.length - n<low.length
 · rw [if_pos (by simp;omega)]
   have:begR (s.drop n) low=false:=by
    rw [Bool.eq_false_iff];intro e
    have:=begR_length low _ e
    simp at this;omega
   rw [this]
 · rw [if_neg (by simp;omega),if_pos (by omega),if_pos (by omega),if_pos (by simp;omega)]
   have hx:(B s).extract ((n:Int)).toNat (((n+low.length:Nat):Int)).toNat=B ((s.drop n).take low.length):=by
    rw [B_extract];congr 1
    simp only [Int.toNat_natCast,List.drop_take]
    congr 1;omega
   rw [hx,lower_f _ (by simp;omega),Option.bind_some,toList_B,toList_B,begR_eq]
theorem begins_past (s low:List UInt8) (n:Int) (h:n<0∨(s.length:Int)<n):sign_Begins.f (B s) n (B low)=some false:=by
 unfold sign_Begins.f
 rcases h with h|h
 · rw [if_pos h]
 · by_cases h0:n<0
   · rw [if_pos h0]
   · rw [if_neg h0,if_pos (by simpa using h)]
theorem stop_bt (c:UInt8):((sign_Space.f (c.toNat:Int)).bind fun t=>if t=true then some true else if (c.toNat:Int)=47 then some true else some (((c.toNat:Int)) == 62))=some (stops c):=by
 simp only [space_f,Option.bind_some,u47,ub c (u62 c)]
 unfold stops
 cases isSp c
 · by_cases h:c=47<;>simp [h]
 · simp
theorem ends_f (k:Nat) (s name:List UInt8) (n:Nat) (hs:s.length≤1000000) (hl:name.length≤1000000) (hn:n≤s.length) :
  raw_Ends.f (k+1) (B s) (n:Int) (B name)=some (endsL (s.drop n) name):=by
 unfold raw_Ends.f
 have j_true:raw_Ends.j0 (k+1) (B s) (n:Int) (B name) true=some false:=by rw [raw_Ends.j0,if_pos rfl]
 by_cases he:name=[]
 · subst he
   rw [if_pos (by simp),j_true];rfl
 · rw [if_neg (by simpa using he),show (⟨#[60,47]⟩:ByteArray)=B [60,47] from rfl,begins_f s [60,47] n hs (by simp) hn,Option.bind_some]
   have hne:name.isEmpty=false:=by simpa using he
   unfold endsL
   rw [hne]
   cases h1:begR (s.drop n) [60,47] with
   | false=>simp [j_true]
   | true =>
     have l1:=begR_length _ _ h1
     simp only [List.length_drop,List.length_cons,List.length_nil] at l1
     have w2:wrap64 ((n:Int)+2)=((n+2:Nat):Int):=by unfold wrap64;omega
     rw [if_pos rfl,w2,begins_f s name (n+2) hs hl (by omega),Option.bind_some,List.drop_drop]
     cases h2:begR (s.drop (n+2)) name with
     | false=>simp [j_true]
     | true =>
       have l2:=begR_length _ _ h2
       simp only [List.length_drop] at l2
       have w3:wrap64 (wrap64 ((n:Int)+2)+((B name).size:Int))=((n+2+name.length:Nat):Int):=by rw [w2,size_B];unfold wrap64;omega
       rw [Bool.not_true,raw_Ends.j0,if_neg (by simp),w3,List.drop_drop]
       have hd:n+(2+name.length)=n+2+name.length:=by omega
       rw [hd]
       cases hr:s.drop (n+2+name.length) with
       | nil =>
         have:=drop_nil hr
         rw [if_pos (by simp;omega)];rfl
       | cons c r =>
         have hlt:=drop_lt hr
         rw [if_neg (by simp;omega),if_pos (by omega),if_pos (by simp;omega),bt_drop s _ c r hr,stop_bt]
         rfl
theorem word_f (k:Nat) (s opens:List UInt8) (n:Nat) (hs:s.length≤1000000) (hl:opens.length≤1000) (hn:n≤s.length) :
  script_word.f (k+1) (B s) (n:Int) (B opens)=some (if wordL (s.drop n) opens=true then ((opens.length+7:Nat):Int) else 0):=by
 unfold script_word.f
 rw [if_pos (by simp;omega),show (⟨#[115,99,114,105,112,116]⟩:ByteArray)=B scriptL from rfl,B_append,begins_f s (opens++scriptL) n hs (by simp [scriptL];omega) hn,Option.bind_some]
 have w1:wrap64 (((B opens).size:Int)+6)=((opens.length+6:Nat):Int):=by rw [size_B];unfold wrap64;omega
 have w2:wrap64 ((n:Int)+((opens.length+6:Nat):Int))=((n+(opens.length+6):Nat):Int):=by unfold wrap64;omega
 have w3:wrap64 (((opens.length+6:Nat):Int)+1)=((opens.length+7:Nat):Int):=by unfold wrap64;omega
 rw [w1,w2]
 have j_true:script_word.j0 (k+1) (B s) (n:Int) ((opens.length+6:Nat):Int) true=some 0:=by rw [script_word.j0,if_pos rfl]
 unfold wordL
 cases h1:begR (s.drop n) (opens++scriptL) with
 | false=>rw [if_neg (by simp),j_true,if_neg (by simp)]
 | true =>
   rw [if_pos rfl,List.drop_drop]
   cases hr:s.drop (n+(opens.length+6)) with
   | nil =>
     have h2:=drop_nil hr
     have l1:=begR_length _ _ h1
     simp [scriptL] at l1
     rw [show (((n+(opens.length+6):Nat):Int) == ((B s).size:Int))=true by simp;omega,j_true]
     simp [stopAt]
   | cons c r =>
     have hlt:=drop_lt hr
     rw [show (((n+(opens.length+6):Nat):Int) == ((B s).size:Int))=false by simp;omega,script_word.j0,if_neg (by simp),w2,if_pos (by omega),if_pos (by simp;omega),bt_drop s _ c r hr,space_f,Option.bind_some,w3]
     simp only [u47,u62]
     simp only [stopAt,stops,Bool.true_and]
     cases isSp c
     · by_cases h47:c=47
       · simp [h47]
       · by_cases h62:c=62<;>simp [h47,h62]
     · simp
end Go.Proofs.YtcecjoaeolglbaaGreatDoor.Pure
end

section
namespace Go.Proofs.YtcecjoaeolglbaaGreatDoor.Pl
open Go
def isDigB (c:UInt8):Bool:=decide (48≤c.toNat)&&decide (c.toNat≤57)
def isDg (six:Bool) (c:UInt8):Bool:=isDigB c || (six&&decide (0≤hexV c))
def baseN:Bool→Nat
 | true=>16
 | false=>10
def digs (six:Bool) (q:List UInt8):List UInt8:=q.takeWhile (isDg six)
def numQ (six:Bool) (q:List UInt8):Option (Nat×Nat) :=
 let v:=valL (baseN six) (digs six q)
 if v<0 then none else some (v.toNat,(digs six q).length+if begR (q.drop (digs six q).length) [59]=true then 1 else 0)
def numL (r:List UInt8):Option (Nat×Nat) :=
 if begR r [35]=true then
  (if begR (r.drop 1) [120]=true then (numQ true (r.drop 2)).map fun x=>(x.1,x.2+2) else (numQ false (r.drop 1)).map fun x=>(x.1,x.2+1))
 else none
theorem takeWhile_le {α:Type} (p:α→Bool) (l:List α):(l.takeWhile p).length≤l.length:=by
 induction l with
 | nil=>simp
 | cons a l ih=>rw [List.takeWhile_cons];split<;>simp<;>omega
theorem digs_le (six:Bool) (q:List UInt8):(digs six q).length≤q.length:=takeWhile_le _ q
theorem begR_one {q:List UInt8} {d:UInt8} (h:begR q [d]=true):1≤q.length:=by
 cases q with
 | nil=>simp [begR] at h
 | cons c r=>simp
theorem numQ_le {six:Bool} {q:List UInt8} {n k:Nat} (h:numQ six q=some (n,k)):n≤1114112∧k≤q.length∧1≤k:=by
 unfold numQ at h
 simp only at h
 have hb:=valL_bound (baseN six) (digs six q)
 have hd:=digs_le six q
 split at h
 · cases h
 · rename_i hv
   obtain ⟨h1,h2⟩:=Prod.mk.inj (Option.some.inj h)
   subst h1;subst h2
   refine ⟨by omega,?_,?_⟩
   · split
     · rename_i hb
       have:=begR_one hb
       rw [List.length_drop] at this
       omega
     · omega
   · have:digs six q≠[]:=by
      intro e
      apply hv
      rw [e];exact (show (-1:Int)<0 by decide)
     have:=List.length_pos_iff.2 this
     omega
theorem numL_le {r:List UInt8} {n k:Nat} (h:numL r=some (n,k)):n≤1114112∧k≤r.length∧2≤k:=by
 unfold numL at h
 split at h
 · rename_i h1
   have l1:=begR_one h1
   split at h
   · rename_i h2
     have l2:=begR_one h2
     rw [List.length_drop] at l2
     obtain ⟨⟨a,b⟩,hx,e⟩:=Option.map_eq_some_iff.1 h
     obtain ⟨h3,h4⟩:=Prod.mk.inj e
     obtain ⟨g1,g2,g3⟩:=numQ_le hx
     rw [List.length_drop] at g2
     simp only at h3 h4
     omega
   · obtain ⟨⟨a,b⟩,hx,e⟩:=Option.map_eq_some_iff.1 h
     obtain ⟨h3,h4⟩:=Prod.mk.inj e
     obtain ⟨g1,g2,g3⟩:=numQ_le hx
     rw [List.length_drop] at g2
     simp only at h3 h4
     omega
 · cases h
end Go.Proofs.YtcecjoaeolglbaaGreatDoor.Pl
end

section
namespace Go.Proofs.YtcecjoaeolglbaaGreatDoor.Hand
open Go.RowKit Go.Proofs.YtcecjoaeolglbaaGreatDoor.Pb Go.Proofs.YtcecjoaeolglbaaGreatDoor.Pl Go.Proofs.YtcecjoaeolglbaaGreatDoor.Sa Go.Proofs.YtcecjoaeolglbaaGreatDoor.Pure Go.Proofs.YtcecjoaeolglbaaGreatDoorW.PrintWords
theorem nbegins_c (s low:List UInt8) (n:Nat) (hs:s.length≤1000000) (hl:low.length≤1000000) (hn:n≤s.length) (w:World) :
  Calls Tryz.prog 95 #[.string (B s),.int .i64 (n:Int),.string (B low)] w fun e w'=>e = .returned (.bool (begR (s.drop n) low))∧Below w.heap.size w w' :=
 sign_Begins.calls _ _ _ _ w (begins_f s low n hs hl hn)
theorem digit_f (c:UInt8):sign_Digit.f (c.toNat:Int)=some (isDigB c):=by
 unfold sign_Digit.f sign_within.f isDigB
 by_cases h:48≤c.toNat
 · rw [if_pos (by omega),Option.bind_some,decide_eq_true h,Bool.true_and]
   congr 1
   rw [Bool.eq_iff_iff,decide_eq_true_eq,decide_eq_true_eq];omega
 · rw [if_neg (by omega),Option.bind_some,decide_eq_false h,Bool.false_and]
theorem digit_c (c:UInt8) (w:World):Calls Tryz.prog 158 #[.int .u8 (c.toNat:Int)] w fun e w'=>e = .returned (.bool (isDigB c))∧Below w.heap.size w w' :=
 (sign_Digit.calls _ _ w (digit_f c)).mono fun _ _ h=>⟨h.1,h.2.below⟩
def numT (s:List UInt8) (at_:Nat):Value:=match numL (s.drop at_) with
 | some (n,k) => .tuple #[.string (fixB n),.int .i64 ((at_+k:Nat):Int),.bool true]
 | none => .tuple #[.string ⟨#[]⟩,.int .i64 (at_:Int),.bool false]
def numU (s:List UInt8) (at_ i:Nat) (six:Bool):Value:=match numQ six (s.drop i) with
 | some (n,k) => .tuple #[.string (fixB n),.int .i64 ((i+k:Nat):Int),.bool true]
 | none => .tuple #[.string ⟨#[]⟩,.int .i64 (at_:Int),.bool false]
theorem digs_at {six:Bool} {q:List UInt8} {k:Nat} (h1:∀ j,(h:j<q.length)→j<k→isDg six q[j]=true) (h2:k=q.length∨∃ h:k<q.length,isDg six q[k]=false):digs six q=q.take k:=by
 unfold digs
 induction q generalizing k with
 | nil=>simp
 | cons c r ih =>
   cases k with
   | zero =>
     rcases h2 with h|⟨h,e⟩
     · cases h
     · rw [List.takeWhile_cons];simp only [List.getElem_cons_zero] at e;rw [e];rfl
   | succ k =>
     have e:=h1 0 (by simp) (by omega)
     simp only [List.getElem_cons_zero] at e
     rw [List.takeWhile_cons,e,if_pos rfl,List.take_succ_cons,ih (k:=k)]
     · intro j h hj
       have:=h1 (j+1) (by simp;omega) (by omega)
       simpa using this
     · rcases h2 with h|⟨h,e⟩
       · left;simpa using h
       · right;exact ⟨by simpa using h,by simpa using e⟩
theorem num_exit (s:List UInt8) (n i k:Nat) (six:Bool) (hs:s.length≤100000) (hik:i≤k) (hk:k≤s.length) (h1:∀ j (h:j<s.length),i≤j→j<k→isDg six s[j]=true) (h2:k=s.length∨∃ h:k<s.length,isDg six s[k]=false) :
  ∃ v:Int,(∀ W,Calls Tryz.prog 160 #[.string ((B s).extract i k),.bool six] W fun e w'=>e = .returned (.int .i64 v)∧Below W.heap.size W w') ∧
    ((v = -1∧numU s n i six = .tuple #[.string ⟨#[]⟩,.int .i64 (n:Int),.bool false]) ∨
     ∃ m:Nat,v=m∧m≤1114112∧∃ b3,(∀ W,Calls Tryz.prog 95 #[.string (B s),.int .i64 (k:Int),.string ⟨#[59]⟩] W fun e w'=>e = .returned (.bool b3)∧Below W.heap.size W w')∧(b3=true→k+1≤s.length) ∧
       numU s n i six = .tuple #[.string (fixB m),.int .i64 ((k+if b3=true then 1 else 0:Nat):Int),.bool true]):=by
 have hd:digs six (s.drop i)=(s.drop i).take (k - i):=by
  apply digs_at
  · intro j h hj
    rw [List.length_drop] at h
    have:=h1 (i+j) (by omega) (by omega) (by omega)
    rw [List.getElem_drop];exact this
  · rcases h2 with h|⟨h,e⟩
    · left;rw [List.length_drop];omega
    · right
      refine ⟨by rw [List.length_drop];omega,?_⟩
      rw [List.getElem_drop]
      have:i+(k - i)=k:=by omega
      simp only [this];exact e
 have he:(B s).extract i k=B (digs six (s.drop i)):=by rw [hd,B_extract,List.drop_take]
 have hl:(digs six (s.drop i)).length=k - i:=by rw [hd,List.length_take,List.length_drop];omega
 refine ⟨valL (baseN six) (digs six (s.drop i)),fun W=>by rw [he];exact value_at (baseN six) six (by cases six<;>rfl) _ (by rw [hl];omega) W,?_⟩
 have hb:=valL_bound (baseN six) (digs six (s.drop i))
 unfold numU numQ
 simp only
 by_cases hv:valL (baseN six) (digs six (s.drop i))<0
 · left
   refine ⟨by omega,?_⟩
   rw [if_pos hv]
 · right
   refine ⟨(valL (baseN six) (digs six (s.drop i))).toNat,by omega,by omega,begR (s.drop k) [59],fun W=>nbegins_c s [59] k (by omega) (by decide) hk W,fun h => ?_,?_⟩
   · have:=begR_one h;rw [List.length_drop] at this;omega
   · rw [if_neg hv,hl,List.drop_drop,show i+(k - i)=k by omega]
     simp only [← Nat.add_assoc,show i+(k - i)=k by omega]
set_option maxRecDepth 100000 in
set_option maxHeartbeats 8000000 in
theorem number_c (s:List UInt8) (n:Nat) (hs:s.length≤100000) (hn:n≤s.length) (w:World) :
  Calls Tryz.prog 117 #[.string (B s),.int .i64 (n:Int)] w fun e w'=>e = .returned (numT s n)∧Below w.heap.size w w':=by
 have BG:=Lib.hid (fun (low:List UInt8) (hl:low.length≤1000000) (i:Nat) (hi:i≤s.length) W=>nbegins_c s low i (by omega) hl hi W)
 have DG:=Lib.hid (fun c W=>digit_c c W)
 have HX:=Lib.hid (fun c W=>hex_c c W)
 have VA:=Lib.hid (fun (six:Bool) (d:List UInt8) (hd:d.length≤1000000) W=>value_at (baseN six) six (by cases six<;>rfl) d hd W)
 have FX:=Lib.hid (fun (k:Nat) (hk:k≤1114112) W=>fix_c k hk W)
 have B1:=BG.out [35] (by decide) n hn w
 obtain ⟨b1,hb1⟩:∃ b,begR (s.drop n) [35]=b:=⟨_,rfl⟩
 rw [hb1] at B1
 have HB1:=Lib.hid B1
 obtain ⟨T,hT⟩:∃ T,numT s n=T:=⟨_,rfl⟩
 rw [hT]
 obtain ⟨a,ha⟩:∃ a,B s=a:=⟨_,rfl⟩
 have hsz:a.size=s.length:=by rw [← ha];simp
 have hX:∀ i (h:i<a.size),s[i]? = some a[i]:=fun i h=>by
  subst ha
  have hl:i<s.length:=by simpa using h
  rw [List.getElem?_eq_getElem hl]
  rfl
 have hcut:∀ i j,a.extract i j=B ((s.take j).drop i):=fun i j=>by rw [← ha,B_extract]
 cases b1 with
 | false =>
   have hT2:T = .tuple #[.string ⟨#[]⟩,.int .i64 (n:Int),.bool false]:=by
    rw [← hT];unfold numT numL;rw [hb1,if_neg (by decide)]
   subst hT2
   rw [ha] at HB1 ⊢
   clear B1 BG hb1 hT ha hsz hX hcut DG HX VA FX
   go_enter Tryz.func117,Tryz.ntmps117
   go_wp2_with fail
   refine HB1.out.mono ?_
   rintro e w1 ⟨rfl,hb⟩
   go_wp2_with fail
   go_ret3
   exact ⟨rfl,hb⟩
 | true =>
   have hn1:n+1≤s.length:=by have:=begR_one hb1;rw [List.length_drop] at this;omega
   have B2:=fun W=>BG.out [120] (by decide) (n+1) hn1 W
   obtain ⟨six,hsix⟩:∃ b,begR (s.drop (n+1)) [120]=b:=⟨_,rfl⟩
   rw [hsix] at B2
   have HB2:=Lib.hid B2
   have hT2:∃ i,i=(if six=true then n+1+1 else n+1)∧i≤s.length∧T=numU s n i six:=by
    refine ⟨_,rfl,?_,?_⟩
    · cases six with
      | true=>have:=begR_one hsix;rw [List.length_drop] at this;rw [if_pos rfl];omega
      | false=>rw [if_neg (by decide)];exact hn1
    · rw [← hT]
      unfold numT numL numU
      rw [hb1,if_pos rfl,List.drop_drop,List.drop_drop,hsix]
      cases six with
      | true =>
        rw [if_pos rfl,if_pos rfl]
        cases numQ true (s.drop (n+2)) with
        | none=>rfl
        | some x=>show Value.tuple #[_,_,_]=_;simp;omega
      | false =>
        rw [if_neg (by decide),if_neg (by decide)]
        cases numQ false (s.drop (n+1)) with
        | none=>rfl
        | some x=>show Value.tuple #[_,_,_]=_;simp;omega
   obtain ⟨i0,hi0,hi0s,hTU⟩:=hT2
   have BG3:=Lib.hid (fun (i:Nat) (hi:i≤s.length) W=>BG.out [59] (by decide) i hi W)
   have HAA:=Lib.hid ha
   rw [ha] at HB1 HB2 BG3 ⊢
   have HSZ:=Lib.hid hsz
   have HXX:=Lib.hid hX
   have HCU:=Lib.hid hcut
   have HTU:=Lib.hid hTU
   have hn1':n+1≤a.size:=by omega
   have hi0a:i0≤a.size:=by omega
   clear B1 B2 BG hb1 hT ha hX hcut hsix hsz hTU hn1 hn
   have hs2:a.size≤100000:=by have:=HSZ.out;omega
   clear hs hi0s
   have HEX:=Lib.hid (fun (k:Nat) (h1:i0≤k) (h2:k≤a.size) (h3:∀ j (h:j<s.length),i0≤j→j<k→isDg six s[j]=true) h4=>(by have:=num_exit s n i0 k six (by have:=HSZ.out;omega) h1 (by have:=HSZ.out;omega) h3 h4;rw [HAA.out] at this;exact this:∃ v:Int,(∀ W,Calls Tryz.prog 160 #[.string (a.extract i0 k),.bool six] W fun e w'=>e = .returned (.int .i64 v)∧Below W.heap.size W w') ∧
    ((v = -1∧numU s n i0 six = .tuple #[.string ⟨#[]⟩,.int .i64 (n:Int),.bool false]) ∨
     ∃ m:Nat,v=m∧m≤1114112∧∃ b3,(∀ W,Calls Tryz.prog 95 #[.string a,.int .i64 (k:Int),.string ⟨#[59]⟩] W fun e w'=>e = .returned (.bool b3)∧Below W.heap.size W w')∧(b3=true→k+1≤s.length) ∧
       numU s n i0 six = .tuple #[.string (fixB m),.int .i64 ((k+if b3=true then 1 else 0:Nat):Int),.bool true])))
   clear HAA
   cases six with
   | true =>
     rw [if_pos rfl] at hi0
     subst hi0
     go_enter Tryz.func117,Tryz.ntmps117
     go_wp2_with fail
     refine HB1.out.mono ?_
     rintro e w1 ⟨rfl,hb⟩
     have HW:=Lib.hid hb
     clear hb
     go_wp2_with fail
     refine (HB2.out _).mono ?_
     rintro e w2 ⟨rfl,hb⟩
     replace HW:=Lib.hid (HW.out.trans (hb.mono HW.out.size))
     clear hb
     go_wp2_with fail
     go_loopw [7] (fun v wx => ∃ k:Nat,v = .int .i64 (k:Int)∧(n+1+1)≤k∧k≤a.size∧Hid (Below w.heap.size w wx)∧Hid (∀ j (h:j<s.length),(n+1+1)≤j→j<k→isDg true s[j]=true)) (fun v _=>a.size - (intOf v).toNat)
     case atStart=>exact ⟨(n+1+1),by go_num,Nat.le_refl _,hi0a,HW,Lib.hid (fun j _ h1 h2=>by omega)⟩
     case round =>
      clear HW
      obtain ⟨k,rfl,hik,hk,HW,hD⟩:=hrel
      by_cases hlt:k<a.size
      · have hks:k<s.length:=by have:=HSZ.out;omega
        have hcg:a[k]=s[k]:=by
         have:=HXX.out k hlt
         rw [List.getElem?_eq_getElem hks] at this
         exact (Option.some.inj this).symm
        have HDG:=Lib.hid (DG.out a[k])
        cases hdg:isDigB a[k] with
        | true =>
          have F:Hid (∀ W,Calls Tryz.prog 158 #[.int .u8 ((a[k].toNat:Nat):Int)] W fun e w'=>e = .returned (.bool true)∧Below W.heap.size W w'):=Lib.hid (fun W=>by rw [← hdg];exact HDG.out W)
          have HN:Hid (∀ j (h:j<s.length),(n+1+1)≤j→j<k+1→isDg true s[j]=true):=Lib.hid (fun j h h1 h2=>by
           by_cases e:j=k
           · subst e;rw [← hcg];unfold isDg;rw [hdg];rfl
           · exact hD.out j h h1 (by omega))
          clear hcg HDG hdg hD
          go_wp2_with fail
          refine (F.out _).mono ?_
          rintro e w4 ⟨rfl,hb⟩
          replace HW:=Lib.hid (HW.out.trans (hb.mono HW.out.size))
          clear hb
          go_wp2_with fail
          go_roundw
          case rel=>exact ⟨k+1,by go_num,by omega,by omega,HW,HN⟩
          case measure=>simp [intOf];omega
        | false =>
          have F:Hid (∀ W,Calls Tryz.prog 158 #[.int .u8 ((a[k].toNat:Nat):Int)] W fun e w'=>e = .returned (.bool false)∧Below W.heap.size W w'):=Lib.hid (fun W=>by rw [← hdg];exact HDG.out W)
          have HHX:=Lib.hid (HX.out a[k])
          obtain ⟨x,hx⟩:∃ x,hexV a[k]=x:=⟨_,rfl⟩
          have F2:Hid (∀ W,Calls Tryz.prog 159 #[.int .u8 ((a[k].toNat:Nat):Int)] W fun e w'=>e = .returned (.int .i64 x)∧Below W.heap.size W w'):=Lib.hid (fun W=>by rw [← hx];exact HHX.out W)
          by_cases hx0:0≤x
          · have q1:decide ((0:Int)≤x)=true:=decide_eq_true hx0
            have HN:Hid (∀ j (h:j<s.length),(n+1+1)≤j→j<k+1→isDg true s[j]=true):=Lib.hid (fun j h h1 h2=>by
             by_cases e:j=k
             · subst e;rw [← hcg];unfold isDg;rw [hdg,hx,q1];rfl
             · exact hD.out j h h1 (by omega))
            clear hcg HDG hdg hD hx HHX hx0
            go_wp2_with fail
            refine (F.out _).mono ?_
            rintro e w4 ⟨rfl,hb⟩
            replace HW:=Lib.hid (HW.out.trans (hb.mono HW.out.size))
            clear hb
            go_wp2_with fail
            refine (F2.out _).mono ?_
            rintro e w4 ⟨rfl,hb⟩
            replace HW:=Lib.hid (HW.out.trans (hb.mono HW.out.size))
            clear hb
            go_wp2_with fail
            go_roundw
            case rel=>exact ⟨k+1,by go_num,by omega,by omega,HW,HN⟩
            case measure=>simp [intOf];omega
          · have q1:decide ((0:Int)≤x)=false:=decide_eq_false hx0
            have hstop:k=s.length∨∃ h:k<s.length,isDg true s[k]=false:=.inr ⟨hks,by rw [← hcg];unfold isDg;rw [hdg,hx,q1];rfl⟩
            clear hcg HDG hdg hx HHX hx0
            have HST:=Lib.hid hstop
            clear hstop
            go_wp2_with fail
            refine (F.out _).mono ?_
            rintro e w4 ⟨rfl,hb⟩
            replace HW:=Lib.hid (HW.out.trans (hb.mono HW.out.size))
            clear hb
            go_wp2_with fail
            refine (F2.out _).mono ?_
            rintro e w4 ⟨rfl,hb⟩
            replace HW:=Lib.hid (HW.out.trans (hb.mono HW.out.size))
            clear hb
            have hstop:=HST.out
            clear HST F F2
            have hE:=HEX.out k hik hk (fun j h _ hj=>hD.out j h (by omega) hj) hstop
            obtain ⟨v,FV,hv⟩:=hE
            have HFV:=Lib.hid FV
            clear FV hstop
            rcases hv with ⟨rfl,hv⟩|⟨m,rfl,hm,b3,FB,hb3,hv⟩
            · have HV:=Lib.hid (HTU.out.trans hv)
              clear hv
              go_wp2_with fail
              with_reducible refine (HFV.out _).mono ?_
              rintro e w5 ⟨rfl,hb⟩
              replace HW:=Lib.hid (HW.out.trans (hb.mono HW.out.size))
              clear hb
              go_wp2_with fail
              go_ret3
              exact ⟨by rw [HV.out];rfl,HW.out⟩
            · have HV:=Lib.hid (HTU.out.trans hv)
              have HFB:=Lib.hid FB
              have HFX:=Lib.hid (FX.out m hm)
              have hb3':b3=true→k+1≤a.size:=fun h=>by have:=hb3 h;have:=HSZ.out;omega
              clear hv FB hb3
              go_wp2_with fail
              with_reducible refine (HFV.out _).mono ?_
              rintro e w5 ⟨rfl,hb⟩
              replace HW:=Lib.hid (HW.out.trans (hb.mono HW.out.size))
              clear hb
              go_wp2_with fail
              with_reducible refine (HFB.out _).mono ?_
              rintro e w6 ⟨rfl,hb⟩
              replace HW:=Lib.hid (HW.out.trans (hb.mono HW.out.size))
              clear hb
              cases b3 with
              | true =>
                have hk1:=hb3' rfl
                clear hb3'
                go_wp2_with fail
                with_reducible refine (HFX.out _).mono ?_
                rintro e w7 ⟨rfl,hb⟩
                replace HW:=Lib.hid (HW.out.trans (hb.mono HW.out.size))
                clear hb
                go_wp2_with fail
                go_ret3
                exact ⟨by rw [HV.out];simp only [if_true];rfl,HW.out⟩
              | false =>
                clear hb3'
                go_wp2_with fail
                with_reducible refine (HFX.out _).mono ?_
                rintro e w7 ⟨rfl,hb⟩
                replace HW:=Lib.hid (HW.out.trans (hb.mono HW.out.size))
                clear hb
                go_wp2_with fail
                go_ret3
                exact ⟨by rw [HV.out];rfl,HW.out⟩
      · obtain rfl:k=a.size:=by omega
        have hstop:a.size=s.length∨∃ h:a.size<s.length,isDg true s[a.size]=false:=.inl (by have:=HSZ.out;omega)
        clear DG
        have hE:=HEX.out a.size hik hk (fun j h _ hj=>hD.out j h (by omega) hj) hstop
        obtain ⟨v,FV,hv⟩:=hE
        have HFV:=Lib.hid FV
        clear FV hstop
        rcases hv with ⟨rfl,hv⟩|⟨m,rfl,hm,b3,FB,hb3,hv⟩
        · have HV:=Lib.hid (HTU.out.trans hv)
          clear hv
          go_wp2_with fail
          with_reducible refine (HFV.out _).mono ?_
          rintro e w5 ⟨rfl,hb⟩
          replace HW:=Lib.hid (HW.out.trans (hb.mono HW.out.size))
          clear hb
          go_wp2_with fail
          go_ret3
          exact ⟨by rw [HV.out];rfl,HW.out⟩
        · have HV:=Lib.hid (HTU.out.trans hv)
          have HFB:=Lib.hid FB
          have HFX:=Lib.hid (FX.out m hm)
          have hb3':b3=true→a.size+1≤a.size:=fun h=>by have:=hb3 h;have:=HSZ.out;omega
          clear hv FB hb3
          go_wp2_with fail
          with_reducible refine (HFV.out _).mono ?_
          rintro e w5 ⟨rfl,hb⟩
          replace HW:=Lib.hid (HW.out.trans (hb.mono HW.out.size))
          clear hb
          go_wp2_with fail
          with_reducible refine (HFB.out _).mono ?_
          rintro e w6 ⟨rfl,hb⟩
          replace HW:=Lib.hid (HW.out.trans (hb.mono HW.out.size))
          clear hb
          cases b3 with
          | true =>
            have hk1:=hb3' rfl
            clear hb3'
            go_wp2_with fail
            with_reducible refine (HFX.out _).mono ?_
            rintro e w7 ⟨rfl,hb⟩
            replace HW:=Lib.hid (HW.out.trans (hb.mono HW.out.size))
            clear hb
            go_wp2_with fail
            go_ret3
            exact ⟨by rw [HV.out];simp only [if_true];rfl,HW.out⟩
          | false =>
            clear hb3'
            go_wp2_with fail
            with_reducible refine (HFX.out _).mono ?_
            rintro e w7 ⟨rfl,hb⟩
            replace HW:=Lib.hid (HW.out.trans (hb.mono HW.out.size))
            clear hb
            go_wp2_with fail
            go_ret3
            exact ⟨by rw [HV.out];rfl,HW.out⟩
   | false =>
     rw [if_neg (by decide)] at hi0
     subst hi0
     go_enter Tryz.func117,Tryz.ntmps117
     go_wp2_with fail
     refine HB1.out.mono ?_
     rintro e w1 ⟨rfl,hb⟩
     have HW:=Lib.hid hb
     clear hb
     go_wp2_with fail
     refine (HB2.out _).mono ?_
     rintro e w2 ⟨rfl,hb⟩
     replace HW:=Lib.hid (HW.out.trans (hb.mono HW.out.size))
     clear hb
     go_wp2_with fail
     go_loopw [7] (fun v wx => ∃ k:Nat,v = .int .i64 (k:Int)∧(n+1)≤k∧k≤a.size∧Hid (Below w.heap.size w wx)∧Hid (∀ j (h:j<s.length),(n+1)≤j→j<k→isDg false s[j]=true)) (fun v _=>a.size - (intOf v).toNat)
     case atStart=>exact ⟨(n+1),by go_num,Nat.le_refl _,hi0a,HW,Lib.hid (fun j _ h1 h2=>by omega)⟩
     case round =>
      clear HW
      obtain ⟨k,rfl,hik,hk,HW,hD⟩:=hrel
      by_cases hlt:k<a.size
      · have hks:k<s.length:=by have:=HSZ.out;omega
        have hcg:a[k]=s[k]:=by
         have:=HXX.out k hlt
         rw [List.getElem?_eq_getElem hks] at this
         exact (Option.some.inj this).symm
        have HDG:=Lib.hid (DG.out a[k])
        cases hdg:isDigB a[k] with
        | true =>
          have F:Hid (∀ W,Calls Tryz.prog 158 #[.int .u8 ((a[k].toNat:Nat):Int)] W fun e w'=>e = .returned (.bool true)∧Below W.heap.size W w'):=Lib.hid (fun W=>by rw [← hdg];exact HDG.out W)
          have HN:Hid (∀ j (h:j<s.length),(n+1)≤j→j<k+1→isDg false s[j]=true):=Lib.hid (fun j h h1 h2=>by
           by_cases e:j=k
           · subst e;rw [← hcg];unfold isDg;rw [hdg];rfl
           · exact hD.out j h h1 (by omega))
          clear hcg HDG hdg hD
          go_wp2_with fail
          refine (F.out _).mono ?_
          rintro e w4 ⟨rfl,hb⟩
          replace HW:=Lib.hid (HW.out.trans (hb.mono HW.out.size))
          clear hb
          go_wp2_with fail
          go_roundw
          case rel=>exact ⟨k+1,by go_num,by omega,by omega,HW,HN⟩
          case measure=>simp [intOf];omega
        | false =>
          have F:Hid (∀ W,Calls Tryz.prog 158 #[.int .u8 ((a[k].toNat:Nat):Int)] W fun e w'=>e = .returned (.bool false)∧Below W.heap.size W w'):=Lib.hid (fun W=>by rw [← hdg];exact HDG.out W)
          have hstop:k=s.length∨∃ h:k<s.length,isDg false s[k]=false:=.inr ⟨hks,by rw [← hcg];unfold isDg;rw [hdg];rfl⟩
          clear hcg HDG hdg
          have HST:=Lib.hid hstop
          clear hstop
          go_wp2_with fail
          refine (F.out _).mono ?_
          rintro e w4 ⟨rfl,hb⟩
          replace HW:=Lib.hid (HW.out.trans (hb.mono HW.out.size))
          clear hb
          have hstop:=HST.out
          clear HST F
          have hE:=HEX.out k hik hk (fun j h _ hj=>hD.out j h (by omega) hj) hstop
          obtain ⟨v,FV,hv⟩:=hE
          have HFV:=Lib.hid FV
          clear FV hstop
          rcases hv with ⟨rfl,hv⟩|⟨m,rfl,hm,b3,FB,hb3,hv⟩
          · have HV:=Lib.hid (HTU.out.trans hv)
            clear hv
            go_wp2_with fail
            with_reducible refine (HFV.out _).mono ?_
            rintro e w5 ⟨rfl,hb⟩
            replace HW:=Lib.hid (HW.out.trans (hb.mono HW.out.size))
            clear hb
            go_wp2_with fail
            go_ret3
            exact ⟨by rw [HV.out];rfl,HW.out⟩
          · have HV:=Lib.hid (HTU.out.trans hv)
            have HFB:=Lib.hid FB
            have HFX:=Lib.hid (FX.out m hm)
            have hb3':b3=true→k+1≤a.size:=fun h=>by have:=hb3 h;have:=HSZ.out;omega
            clear hv FB hb3
            go_wp2_with fail
            with_reducible refine (HFV.out _).mono ?_
            rintro e w5 ⟨rfl,hb⟩
            replace HW:=Lib.hid (HW.out.trans (hb.mono HW.out.size))
            clear hb
            go_wp2_with fail
            with_reducible refine (HFB.out _).mono ?_
            rintro e w6 ⟨rfl,hb⟩
            replace HW:=Lib.hid (HW.out.trans (hb.mono HW.out.size))
            clear hb
            cases b3 with
            | true =>
              have hk1:=hb3' rfl
              clear hb3'
              go_wp2_with fail
              with_reducible refine (HFX.out _).mono ?_
              rintro e w7 ⟨rfl,hb⟩
              replace HW:=Lib.hid (HW.out.trans (hb.mono HW.out.size))
              clear hb
              go_wp2_with fail
              go_ret3
              exact ⟨by rw [HV.out];simp only [if_true];rfl,HW.out⟩
            | false =>
              clear hb3'
              go_wp2_with fail
              with_reducible refine (HFX.out _).mono ?_
              rintro e w7 ⟨rfl,hb⟩
              replace HW:=Lib.hid (HW.out.trans (hb.mono HW.out.size))
              clear hb
              go_wp2_with fail
              go_ret3
              exact ⟨by rw [HV.out];rfl,HW.out⟩
      · obtain rfl:k=a.size:=by omega
        have hstop:a.size=s.length∨∃ h:a.size<s.length,isDg false s[a.size]=false:=.inl (by have:=HSZ.out;omega)
        clear DG
        have hE:=HEX.out a.size hik hk (fun j h _ hj=>hD.out j h (by omega) hj) hstop
        obtain ⟨v,FV,hv⟩:=hE
        have HFV:=Lib.hid FV
        clear FV hstop
        rcases hv with ⟨rfl,hv⟩|⟨m,rfl,hm,b3,FB,hb3,hv⟩
        · have HV:=Lib.hid (HTU.out.trans hv)
          clear hv
          go_wp2_with fail
          with_reducible refine (HFV.out _).mono ?_
          rintro e w5 ⟨rfl,hb⟩
          replace HW:=Lib.hid (HW.out.trans (hb.mono HW.out.size))
          clear hb
          go_wp2_with fail
          go_ret3
          exact ⟨by rw [HV.out];rfl,HW.out⟩
        · have HV:=Lib.hid (HTU.out.trans hv)
          have HFB:=Lib.hid FB
          have HFX:=Lib.hid (FX.out m hm)
          have hb3':b3=true→a.size+1≤a.size:=fun h=>by have:=hb3 h;have:=HSZ.out;omega
          clear hv FB hb3
          go_wp2_with fail
          with_reducible refine (HFV.out _).mono ?_
          rintro e w5 ⟨rfl,hb⟩
          replace HW:=Lib.hid (HW.out.trans (hb.mono HW.out.size))
          clear hb
          go_wp2_with fail
          with_reducible refine (HFB.out _).mono ?_
          rintro e w6 ⟨rfl,hb⟩
          replace HW:=Lib.hid (HW.out.trans (hb.mono HW.out.size))
          clear hb
          cases b3 with
          | true =>
            have hk1:=hb3' rfl
            clear hb3'
            go_wp2_with fail
            with_reducible refine (HFX.out _).mono ?_
            rintro e w7 ⟨rfl,hb⟩
            replace HW:=Lib.hid (HW.out.trans (hb.mono HW.out.size))
            clear hb
            go_wp2_with fail
            go_ret3
            exact ⟨by rw [HV.out];simp only [if_true];rfl,HW.out⟩
          | false =>
            clear hb3'
            go_wp2_with fail
            with_reducible refine (HFX.out _).mono ?_
            rintro e w7 ⟨rfl,hb⟩
            replace HW:=Lib.hid (HW.out.trans (hb.mono HW.out.size))
            clear hb
            go_wp2_with fail
            go_ret3
            exact ⟨by rw [HV.out];rfl,HW.out⟩
end Go.Proofs.YtcecjoaeolglbaaGreatDoor.Hand
end

section
namespace Go.Proofs.YtcecjoaeolglbaaGreatDoor.Hand
open Go Go.RowKit Go.Proofs.YtcecjoaeolglbaaGreatDoor.Pl Go.Proofs.YtcecjoaeolglbaaGreatDoor.Pb Go.Proofs.YtcecjoaeolglbaaGreatDoor.Sa Go.Proofs.YtcecjoaeolglbaaGreatDoor.Pure Go.Proofs.YtcecjoaeolglbaaGreatDoorW.PrintWords
def isLetB (c:UInt8):Bool:=(decide (65≤c.toNat)&&decide (c.toNat≤90)) || (decide (97≤c.toNat)&&decide (c.toNat≤122))
def keptB (c:UInt8):Bool:=c == 61 || (isLetB c || isDigB c)
def keptL:List UInt8→Bool
 | []=>false
 | c::_=>keptB c
def leftL (attr:Bool) (name after:List UInt8):Bool:=attr&&(!Lib.hasSuffix name [59]&&keptL after)
inductive RefR (s:List UInt8) (n:Nat) (attr:Bool):Value→Prop
 | no (h:begR (s.drop n) [38]=false):RefR s n attr (.tuple #[.string ⟨#[]⟩,.int .i64 (n:Int)])
 | num (h:begR (s.drop n) [38]=true) (m k:Nat) (h2:numL (s.drop (n+1))=some (m,k)):RefR s n attr (.tuple #[.string (fixB m),.int .i64 ((n+1+k:Nat):Int)])
 | left (h:begR (s.drop n) [38]=true) (h2:numL (s.drop (n+1))=none) (k:Nat) (h3:Lng namesL (s.drop (n+1)) k) (h4:k=0∨leftL attr ((s.drop (n+1)).take k) (s.drop (n+1+k))=true) :
    RefR s n attr (.tuple #[.string (B ((s.drop n).take (k+1))),.int .i64 ((n+1+k:Nat):Int)])
 | name (h:begR (s.drop n) [38]=true) (h2:numL (s.drop (n+1))=none) (k:Nat) (h3:Lng namesL (s.drop (n+1)) k) (h4:k≠0) (h5:leftL attr ((s.drop (n+1)).take k) (s.drop (n+1+k))=false)
    (rest:List UInt8) (h6:Fnd namesL ((s.drop (n+1)).take k) (some rest)):RefR s n attr (.tuple #[.string (textB (num1 rest) (num2 rest)),.int .i64 ((n+1+k:Nat):Int)])
set_option maxRecDepth 100000 in
theorem or32:∀ x:Fin 256,decide (97≤Go.bits .or .u8 ((x.val:Nat):Int) 32∧Go.bits .or .u8 ((x.val:Nat):Int) 32≤122)=((decide (65≤x.val)&&decide (x.val≤90)) || (decide (97≤x.val)&&decide (x.val≤122))):=by decide
theorem letter_f (c:UInt8):sign_Letter.f (c.toNat:Int)=some (isLetB c):=by
 have h:=or32 ⟨c.toNat,c.toNat_lt⟩
 unfold sign_Letter.f sign_within.f isLetB
 rw [← h]
 by_cases h1:Go.bits .or .u8 ((c.toNat:Nat):Int) 32≥97
 · rw [if_pos h1,Option.bind_some]
   congr 1
   rw [Bool.eq_iff_iff,decide_eq_true_eq,decide_eq_true_eq]
   exact ⟨fun h=>⟨h1,h⟩,fun h=>h.2⟩
 · rw [if_neg h1,Option.bind_some]
   congr 1
   exact (decide_eq_false (fun h=>h1 h.1)).symm
theorem kept_f (s:List UInt8) (n:Nat) (hn:n≤s.length):ref_kept.f (B s) (n:Int)=some (keptL (s.drop n)):=by
 unfold ref_kept.f
 rcases Nat.lt_or_ge n s.length with h|h
 · have hd:=List.drop_eq_getElem_cons h
   rw [if_pos (by rw [size_B];omega),if_pos (by omega),hd,bt_drop s n _ _ hd]
   unfold keptL keptB
   by_cases h61:s[n]=61
   · rw [h61];rfl
   · rw [if_neg (fun e=>h61 (UInt8.toNat_inj.1 (show s[n].toNat=61 by omega)))]
     unfold sign_Word.f
     rw [letter_f,digit_f]
     simp only [Option.bind_some]
     rw [show (s[n] == 61)=false by rw [beq_eq_false_iff_ne];exact h61]
     cases isLetB s[n]<;>rfl
 · rw [if_neg (by rw [size_B];omega),List.drop_eq_nil_of_le h];rfl
theorem kept_c (s:List UInt8) (n:Nat) (hn:n≤s.length) (w:World):Calls Tryz.prog 121 #[.string (B s),.int .i64 (n:Int)] w fun e w'=>e = .returned (.bool (keptL (s.drop n)))∧Below w.heap.size w w' :=
 (ref_kept.calls _ _ _ w (kept_f s n hn)).mono fun _ _ h=>⟨h.1,h.2.below⟩
set_option maxRecDepth 100000 in
set_option maxHeartbeats 8000000 in
theorem read_c (s:List UInt8) (n:Nat) (attr:Bool) (hs:s.length≤100000) (hn:n≤s.length) (w:World) (hGl:Glob w) (hGE:GlobE w) :
  Calls Tryz.prog 87 #[.string (B s),.int .i64 (n:Int),.bool attr] w fun e w'=>(∃ v,RefR s n attr v∧e = .returned v)∧Below w.heap.size w w':=by
 have BG:=Lib.hid (nbegins_c s [38] n (by omega) (by decide) hn w)
 have HG:=Lib.hid hGl
 have HE:=Lib.hid hGE
 obtain ⟨a,ha⟩:∃ a,B s=a:=⟨_,rfl⟩
 have HA:=Lib.hid ha
 have hsz:a.size=s.length:=by rw [← ha];simp
 obtain ⟨b1,hb1⟩:∃ b,begR (s.drop n) [38]=b:=⟨_,rfl⟩
 rw [hb1,ha] at BG
 rw [ha]
 have hB1:=Lib.hid hb1
 cases b1 with
 | false =>
   clear ha hsz hb1 hs hn hGl hGE
   go_enter Tryz.func87,Tryz.ntmps87
   go_wp2_with fail
   refine BG.out.mono ?_
   rintro e w1 ⟨rfl,hb⟩
   go_wp2_with fail
   go_ret2
   exact ⟨⟨_,RefR.no hB1.out,rfl⟩,hb⟩
 | true =>
   have hn1:n+1≤s.length:=by have:=begR_one hb1;rw [List.length_drop] at this;omega
   have NR:=Lib.hid (fun W=>number_c s (n+1) hs hn1 W)
   have LR:=Lib.hid (fun W hG=>nlongest_c s (n+1) (by omega) hn1 (of_decide_eq_true names_size) W hG)
   have hHS:=Lib.hid hs
   have HSZ:=Lib.hid hsz
   have HN1:=Lib.hid hn1
   rw [ha] at NR LR
   have hn1a:n+1≤a.size:=by omega
   have hza:a.size≤100000:=by omega
   cases hnl:numL (s.drop (n+1)) with
   | some mk =>
     obtain ⟨m,k⟩:=mk
     have hT:numT s (n+1) = .tuple #[.string (fixB m),.int .i64 ((n+1+k:Nat):Int),.bool true]:=by unfold numT;rw [hnl]
     rw [hT] at NR
     have HNL:=Lib.hid hnl
     clear ha hsz hb1 hs hn hGl hGE hnl hT hn1 LR
     go_enter Tryz.func87,Tryz.ntmps87
     go_wp2_with fail
     refine BG.out.mono ?_
     rintro e w1 ⟨rfl,hb⟩
     have HW:=Lib.hid hb
     clear hb
     go_wp2_with fail
     refine (NR.out _).mono ?_
     rintro e w2 ⟨rfl,hb⟩
     replace HW:=Lib.hid (HW.out.trans (hb.mono HW.out.size))
     clear hb
     go_wp2_with fail
     go_ret2
     exact ⟨⟨_,RefR.num hB1.out m k HNL.out,rfl⟩,HW.out⟩
   | none =>
     have hT:numT s (n+1) = .tuple #[.string ⟨#[]⟩,.int .i64 ((n+1:Nat):Int),.bool false]:=by unfold numT;rw [hnl]
     rw [hT] at NR
     have hNL:=Lib.hid hnl
     clear ha hsz hb1 hs hn hGl hGE hnl hT hn1
     go_enter Tryz.func87,Tryz.ntmps87
     go_wp2_with fail
     refine BG.out.mono ?_
     rintro e w1 ⟨rfl,hb⟩
     have HW:=Lib.hid hb
     clear hb
     go_wp2_with fail
     refine (NR.out _).mono ?_
     rintro e w2 ⟨rfl,hb⟩
     replace HW:=Lib.hid (HW.out.trans (hb.mono HW.out.size))
     clear hb
     go_wp2_with fail
     refine (LR.out _ (HG.out.step HW.out)).mono ?_
     rintro e w3 ⟨⟨k,hlg,rfl⟩,hb⟩
     replace HW:=Lib.hid (HW.out.trans (hb.mono HW.out.size))
     have hLG:=Lib.hid hlg
     have hka:n+1+k≤a.size:=by
      have h1:=hlg.le
      rw [List.length_drop] at h1
      have:=HSZ.out
      omega
     have hnm:a.extract (n+1) (n+1+k)=B ((s.drop (n+1)).take k):=by rw [← HA.out,B_extract,List.drop_take,Nat.add_sub_cancel_left]
     have hct:a.extract n (n+1+k)=B ((s.drop n).take (k+1)):=by rw [← HA.out,B_extract,List.drop_take,show n+1+k - n=k+1 by omega]
     have HCUT:=Lib.hid hct
     have V:=nvalue_c ((s.drop (n+1)).take k) w3 (HG.out.step HW.out) (HE.out.step HW.out)
     rw [← hnm] at V
     have HV:=Lib.hid V
     have HNM:=Lib.hid hnm
     clear hb hlg hnm hct V NR LR BG
     go_wp2_with fail
     refine HV.out.mono ?_
     rintro e w4 ⟨⟨r,hf,rfl⟩,hb⟩
     replace HW:=Lib.hid (HW.out.trans (hb.mono HW.out.size))
     have HF:=Lib.hid hf
     clear hb hf HV
     by_cases hk0:k=0
     · have hv:nvalV ((s.drop (n+1)).take k) r = .tuple #[.complex .f64 0 0,.bool false]:=by
        rw [hk0,List.take_zero]
        cases r<;>rfl
       rw [hv]
       clear hv
       have HK0:=Lib.hid hk0
       clear hk0
       go_wp2_with fail
       go_ret2
       refine ⟨⟨_,RefR.left hB1.out hNL.out k hLG.out (.inl HK0.out),?_⟩,HW.out⟩
       rw [← HCUT.out];rfl
     · have hkey:isKey namesL ((s.drop (n+1)).take k):=by
        rcases hLG.out.key with h|h
        · exact absurd h hk0
        · exact h
       obtain ⟨rest,rfl⟩:∃ rest,r=some rest:=by
        cases r with
        | some rest=>exact ⟨rest,rfl⟩
        | none =>
          obtain ⟨p,h1,h2⟩:=hkey
          rcases HF.out with ⟨_,_,_,e⟩|⟨e,_⟩
          · cases e
          · exact absurd h2 (e p h1)
       obtain ⟨hro,hkn,_⟩:=fnd_rest HF.out
       have hv:nvalV ((s.drop (n+1)).take k) (some rest) = .tuple #[.complex .f64 (fW (num1 rest)) (fW (num2 rest)),.bool true]:=by unfold nvalV;simp only [hkn,if_false]
       rw [hv]
       obtain ⟨l1,l2⟩:=num_lt hro
       have HTX:=Lib.hid (fun W=>ntext_c (num1 rest) (num2 rest) l1 l2 W)
       have hkl:((s.drop (n+1)).take k).length≤1000000:=by rw [List.length_take,List.length_drop];have:=hHS.out;omega
       have SH:=fun W hG hE=>nshort_c ((s.drop (n+1)).take k) hkey hkl W hG hE
       have KP:=fun W=>kept_c s (n+1+k) (by have:=HSZ.out;omega) W
       rw [HA.out] at KP
       rw [← HNM.out] at SH
       obtain ⟨bs,hbs⟩:∃ b,Lib.hasSuffix ((s.drop (n+1)).take k) [59]=b:=⟨_,rfl⟩
       obtain ⟨kp,hkp⟩:∃ b,keptL (s.drop (n+1+k))=b:=⟨_,rfl⟩
       rw [hbs] at SH
       rw [hkp] at KP
       have HSH:=Lib.hid SH
       have HKP:=Lib.hid KP
       have HLL:Hid (leftL attr ((s.drop (n+1)).take k) (s.drop (n+1+k))=(attr&&(!bs&&kp))):=Lib.hid (by unfold leftL;rw [hbs,hkp])
       obtain ⟨t1,ht1⟩:∃ t,textB (num1 rest) (num2 rest)=t:=⟨_,rfl⟩
       clear hv hkey hro hkn l1 l2 hkl SH KP hbs hkp ht1 t1
       cases attr with
       | false =>
         go_wp2_with fail
         refine (HTX.out _).mono ?_
         rintro e w8 ⟨rfl,rfl⟩
         go_wp2_with fail
         go_ret2
         exact ⟨⟨_,RefR.name hB1.out hNL.out k hLG.out (by omega) (by rw [HLL.out];rfl) rest HF.out,rfl⟩,HW.out⟩
       | true =>
         go_wp2_with fail
         refine (HSH.out _ (HG.out.step HW.out) (HE.out.step HW.out)).mono ?_
         rintro e w5 ⟨rfl,hb⟩
         replace HW:=Lib.hid (HW.out.trans (hb.mono HW.out.size))
         clear hb HSH
         cases bs with
         | true =>
           go_wp2_with fail
           refine (HTX.out _).mono ?_
           rintro e w8 ⟨rfl,rfl⟩
           go_wp2_with fail
           go_ret2
           exact ⟨⟨_,RefR.name hB1.out hNL.out k hLG.out (by omega) (by rw [HLL.out];rfl) rest HF.out,rfl⟩,HW.out⟩
         | false =>
           go_wp2_with fail
           refine (HKP.out _).mono ?_
           rintro e w6 ⟨rfl,hb⟩
           replace HW:=Lib.hid (HW.out.trans (hb.mono HW.out.size))
           clear hb HKP
           cases kp with
           | true =>
             go_wp2_with fail
             go_ret2
             refine ⟨⟨_,RefR.left hB1.out hNL.out k hLG.out (.inr (by rw [HLL.out];rfl)),?_⟩,HW.out⟩
             rw [← HCUT.out];rfl
           | false =>
             go_wp2_with fail
             refine (HTX.out _).mono ?_
             rintro e w8 ⟨rfl,rfl⟩
             go_wp2_with fail
             go_ret2
             exact ⟨⟨_,RefR.name hB1.out hNL.out k hLG.out (by omega) (by rw [HLL.out];rfl) rest HF.out,rfl⟩,HW.out⟩
end Go.Proofs.YtcecjoaeolglbaaGreatDoor.Hand
end

section
namespace Go.Proofs.YtcecjoaeolglbaaGreatDoor.Hand
open Go Go.RowKit Go.Proofs.YtcecjoaeolglbaaGreatDoor.Pl Go.Proofs.YtcecjoaeolglbaaGreatDoor.Pb
theorem fnd_uniq {T last key:List UInt8} (h:Tab T last) {r r':Option (List UInt8)} (h1:Fnd T key r) (h2:Fnd T key r'):r=r':=by
 rcases h1 with ⟨p,a1,a2,a3⟩|⟨a1,a2⟩
 · rcases h2 with ⟨q,b1,b2,b3⟩|⟨b1,b2⟩
   · rcases Nat.lt_trichotomy p q with hl|he|hg
     · have:=h.rise p q a1 b1 hl
       rw [a2,b2,ltB_irrefl] at this;cases this
     · rw [a3,b3,he]
     · have:=h.rise q p b1 a1 hg
       rw [a2,b2,ltB_irrefl] at this;cases this
   · exact absurd a2 (b1 p a1)
 · rcases h2 with ⟨q,b1,b2,b3⟩|⟨b1,b2⟩
   · exact absurd b2 (a1 q b1)
   · rw [a2,b2]
theorem lng_ex (T r:List UInt8):∃ k,Lng T r k:=by
 have h:∀ d:Nat,∃ k,k≤d∧(k=0∨isKey T (r.take k))∧∀ m,k<m→m≤d→¬ isKey T (r.take m):=by
  intro d
  induction d with
  | zero=>exact ⟨0,Nat.le_refl _,.inl rfl,fun m h1 h2=>by omega⟩
  | succ d ih =>
    by_cases hk:isKey T (r.take (d+1))
    · exact ⟨d+1,Nat.le_refl _,.inr hk,fun m h1 h2=>by omega⟩
    · obtain ⟨k,h1,h2,h3⟩:=ih
      refine ⟨k,by omega,h2,fun m g1 g2 => ?_⟩
      by_cases e:m=d+1
      · subst e;exact hk
      · exact h3 m g1 (by omega)
 obtain ⟨k,h1,h2,h3⟩:=h (min 32 r.length)
 exact ⟨k,h1,h2,h3⟩
noncomputable def lngN (r:List UInt8):Nat:=Classical.choose (lng_ex namesL r)
theorem lngN_spec (r:List UInt8):Lng namesL r (lngN r):=Classical.choose_spec (lng_ex namesL r)
theorem lngN_eq {r:List UInt8} {k:Nat} (h:Lng namesL r k):lngN r=k:=(lngN_spec r).uniq h
theorem fnd_ex (T key:List UInt8):∃ r,Fnd T key r:=by
 by_cases h:∃ p,St T p∧kyT T p=key
 · obtain ⟨p,h1,h2⟩:=h;exact ⟨_,.inl ⟨p,h1,h2,rfl⟩⟩
 · exact ⟨none,.inr ⟨fun p h1 h2=>h ⟨p,h1,h2⟩,rfl⟩⟩
noncomputable def rowN (key:List UInt8):Option (List UInt8):=Classical.choose (fnd_ex namesL key)
theorem rowN_spec (key:List UInt8):Fnd namesL key (rowN key):=Classical.choose_spec (fnd_ex namesL key)
theorem rowN_eq {key:List UInt8} {r:Option (List UInt8)} (h:Fnd namesL key r):rowN key=r:=fnd_uniq names_tab (rowN_spec key) h
noncomputable def nameT (key:List UInt8):List UInt8:=match rowN key with|some rest=>(textB (num1 rest) (num2 rest)).data.toList|none=>[]
noncomputable def refN (attr:Bool) (l:List UInt8):List UInt8×Nat :=
 match numL (l.drop 1) with
 | some (m,k)=>((fixB m).data.toList,1+k)
 | none =>
   if lngN (l.drop 1)=0∨leftL attr ((l.drop 1).take (lngN (l.drop 1))) ((l.drop 1).drop (lngN (l.drop 1)))=true then (l.take (1+lngN (l.drop 1)),1+lngN (l.drop 1))
   else (nameT ((l.drop 1).take (lngN (l.drop 1))),1+lngN (l.drop 1))
theorem refR_refN {s:List UInt8} {n:Nat} {attr:Bool} {v:Value} (h:RefR s n attr v) (hb:begR (s.drop n) [38]=true) :
  v = .tuple #[.string (B (refN attr (s.drop n)).1),.int .i64 ((n+(refN attr (s.drop n)).2:Nat):Int)]:=by
 have ed:∀ k,(s.drop n).drop k=s.drop (n+k):=fun k=>by rw [List.drop_drop]
 cases h with
 | no h=>rw [h] at hb;cases hb
 | num h m k h2 =>
   have:refN attr (s.drop n)=((fixB m).data.toList,1+k):=by unfold refN;rw [ed,h2]
   rw [this,← B_of,show n+(1+k)=n+1+k by omega]
 | left h h2 k h3 h4 =>
   have hk:=lngN_eq h3
   have:refN attr (s.drop n)=((s.drop n).take (1+k),1+k):=by
    unfold refN
    rw [ed,h2]
    simp only [hk]
    rw [if_pos]
    rcases h4 with h4|h4
    · exact .inl h4
    · exact .inr (by rw [List.drop_drop];exact h4)
   rw [this,show n+(1+k)=n+1+k by omega,show 1+k=k+1 by omega]
 | name h h2 k h3 h4 h5 rest h6 =>
   have hk:=lngN_eq h3
   have:refN attr (s.drop n)=((textB (num1 rest) (num2 rest)).data.toList,1+k):=by
    unfold refN
    rw [ed,h2]
    simp only [hk]
    rw [if_neg]
    · unfold nameT;rw [rowN_eq h6]
    · rintro (e|e)
      · exact h4 e
      · rw [List.drop_drop,h5] at e;cases e
   rw [this,← B_of,show n+(1+k)=n+1+k by omega]
theorem textB_size (a b:Nat):(textB a b).size≤8:=by
 unfold textB
 have h1:=signB_size (a:Int)
 have h2:=signB_size (b:Int)
 split
 · omega
 · rw [ByteArray.size_append];omega
theorem fixB_size (n:Nat):(fixB n).size≤4:=by
 unfold fixB
 split
 · decide
 · split<;>exact signB_size _
theorem refN_bd (attr:Bool) (c:UInt8) (r:List UInt8):1≤(refN attr (c::r)).2∧(refN attr (c::r)).2≤(c::r).length∧(refN attr (c::r)).1.length≤8*(refN attr (c::r)).2:=by
 have hl:=(lngN_spec r).le
 have e:(c::r).drop 1=r:=rfl
 unfold refN
 rw [e]
 split
 · rename_i m k hn
   have:=numL_le hn
   have h4:=fixB_size m
   simp only [List.length_cons,Array.length_toList]
   have:(fixB m).data.size≤4:=h4
   omega
 · split
   · simp only [List.length_cons,List.length_take];omega
   · rename_i hne
     simp only [List.length_cons]
     refine ⟨by omega,by omega,?_⟩
     unfold nameT
     split
     · rename_i rest _
       have h8:=textB_size (num1 rest) (num2 rest)
       rw [Array.length_toList]
       have:(textB (num1 rest) (num2 rest)).data.size≤8:=h8
       omega
     · simp
noncomputable def rdF (attr:Bool):Nat→List UInt8→List UInt8
 | 0,_=>[]
 | _+1,[]=>[]
 | f+1,c::r=>if c=38 then (refN attr (c::r)).1++rdF attr f ((c::r).drop (refN attr (c::r)).2) else c::rdF attr f r
theorem rdF_more (attr:Bool) (f:Nat):∀ l f',l.length≤f→l.length≤f'→rdF attr f l=rdF attr f' l:=by
 induction f with
 | zero =>
   intro l f' h h'
   obtain rfl:=List.eq_nil_of_length_eq_zero (Nat.le_zero.1 h)
   cases f'<;>rfl
 | succ f ih =>
   intro l f' h h'
   cases l with
   | nil=>cases f'<;>rfl
   | cons c r =>
     cases f' with
     | zero=>simp at h'
     | succ f' =>
       have hb:=refN_bd attr c r
       simp only [List.length_cons] at h h' hb
       simp only [rdF]
       split
       · rw [ih _ f' (by rw [List.length_drop,List.length_cons];omega) (by rw [List.length_drop,List.length_cons];omega)]
       · rw [ih r f' (by omega) (by omega)]
noncomputable def rdL (attr:Bool) (l:List UInt8):List UInt8:=rdF attr l.length l
theorem rdL_nil (attr:Bool):rdL attr []=[]:=rfl
theorem rdL_ne {c:UInt8} (attr:Bool) (r:List UInt8) (h:c≠38):rdL attr (c::r)=c::rdL attr r:=by
 unfold rdL;simp only [List.length_cons,rdF,if_neg h]
theorem rdL_amp (attr:Bool) (r:List UInt8):rdL attr (38::r)=(refN attr (38::r)).1++rdL attr ((38::r).drop (refN attr (38::r)).2):=by
 have hb:=refN_bd attr 38 r
 simp only [List.length_cons] at hb
 unfold rdL
 rw [List.length_cons,rdF,if_pos rfl,rdF_more attr r.length _ _ (by rw [List.length_drop,List.length_cons];omega) (Nat.le_refl _)]
theorem rdL_app {p:List UInt8} (attr:Bool) (r:List UInt8) (h:(38:UInt8)∉p):rdL attr (p++r)=p++rdL attr r:=by
 induction p with
 | nil=>rfl
 | cons c p ih =>
   rw [List.cons_append,rdL_ne attr _ (fun e=>h (by rw [e];simp)),ih (fun e=>h (by simp [e]))];rfl
theorem rdL_no {p:List UInt8} (attr:Bool) (h:(38:UInt8)∉p):rdL attr p=p:=by
 have:=rdL_app attr [] h
 rw [List.append_nil,rdL_nil,List.append_nil] at this
 exact this
theorem rdL_length (attr:Bool):∀ n (l:List UInt8),l.length≤n→(rdL attr l).length≤8*l.length:=by
 intro n
 induction n with
 | zero=>intro l h;obtain rfl:=List.eq_nil_of_length_eq_zero (Nat.le_zero.1 h);simp [rdL_nil]
 | succ n ih =>
   intro l h
   cases l with
   | nil=>simp [rdL_nil]
   | cons c r =>
     simp only [List.length_cons] at h ⊢
     by_cases hc:c=38
     · subst hc
       have hb:=refN_bd attr 38 r
       have:=ih ((38::r).drop (refN attr (38::r)).2) (by rw [List.length_drop,List.length_cons];omega)
       rw [rdL_amp,List.length_append]
       rw [List.length_drop,List.length_cons] at this
       simp only [List.length_cons] at hb
       omega
     · have:=ih r (by omega)
       rw [rdL_ne attr r hc,List.length_cons];omega
theorem rdL_le (attr:Bool) (l:List UInt8):(rdL attr l).length≤8*l.length:=rdL_length attr _ l (Nat.le_refl _)
theorem readN_c (s:List UInt8) (n:Nat) (attr:Bool) (hs:s.length≤100000) (hn:n≤s.length) (hb:begR (s.drop n) [38]=true) (w:World) (hGl:Glob w) (hGE:GlobE w) :
  Calls Tryz.prog 87 #[.string (B s),.int .i64 (n:Int),.bool attr] w fun e w'=>e = .returned (.tuple #[.string (B (refN attr (s.drop n)).1),.int .i64 ((n+(refN attr (s.drop n)).2:Nat):Int)])∧Below w.heap.size w w' :=
 (read_c s n attr hs hn w hGl hGE).mono fun e w' h=>by
   obtain ⟨⟨v,hv,he⟩,hb2⟩:=h
   exact ⟨by rw [he,refR_refN hv hb],hb2⟩
end Go.Proofs.YtcecjoaeolglbaaGreatDoor.Hand
end
