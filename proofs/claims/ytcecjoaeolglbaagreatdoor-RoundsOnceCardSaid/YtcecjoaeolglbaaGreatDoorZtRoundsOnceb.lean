/-
  Texts of the claim RoundsOnce, merged by a program of this session (2).
-/
import Derived.Test.YtcecjoaeolglbaaGreatDoorZtRoundsOncea
set_option linter.unusedVariables false
set_option linter.unusedSimpArgs false
section
namespace Go.Proofs.YtcecjoaeolglbaaGreatDoor.St
open Go.RowKit Go.Proofs.YtcecjoaeolglbaaGreatDoor.K0 Go.Proofs.YtcecjoaeolglbaaGreatDoor.Hand Go.Proofs.YtcecjoaeolglbaaGreatDoor.Sa Go.Proofs.YtcecjoaeolglbaaGreatDoor.Si Go.Proofs.YtcecjoaeolglbaaGreatDoorW.PrintWords Go.Proofs.YtcecjoaeolglbaaGreatDoorW.PrintLast Go.Proofs.YtcecjoaeolglbaaGreatDoorW.PrintMore
attribute [local go_sem] max2_int min2_int max_two min_two max_three min_three max_four min_four  
set_option linter.unusedVariables false
set_option linter.unusedSimpArgs false
noncomputable def context_value.f (l0:List (S46)):Option (ByteArray×Bool):=if (l0.length:Int)=1 then (if 0<(l0.length:Int) then ((context_plain.f ((rd_T46 l0 0).f0) ((rd_T46 l0 0).f1) ((rd_T46 l0 0).f2) ((rd_T46 l0 0).f3) ((rd_T46 l0 0).f4) 1 (⟨#[97]⟩:ByteArray) 1).bind fun t169=>(if t169=true then (if 0<(((rd_T46 l0 0).f3).length:Int) then (if ((rd_T87 ((rd_T46 l0 0).f3) 0).f0).toList=([120]:List UInt8) then (some ((rd_T87 ((rd_T46 l0 0).f3) 0).f1,true)) else (some ((⟨#[]⟩:ByteArray),false))) else (none)) else (some ((⟨#[]⟩:ByteArray),false)))) else (none)) else (some ((⟨#[]⟩:ByteArray),false))
set_option maxHeartbeats 8000000 in
set_option maxRecDepth 100000 in
theorem context_value.calls (A0:Option Addr) (c0:Nat) (l0:List (S46)) (r1:ByteArray) (r2:Bool) (w:World) (hr0:Kd.C k46 w A0 l0.length l0) (hc0:l0.length≤c0) (h:context_value.f l0=some (r1,r2)) :
  Calls Tryz.prog 40 #[.slice A0 l0.length c0] w fun e w'=>e = .returned (.tuple #[.string r1,.bool r2])∧Below w.heap.size w w':=by
 have hu46:=Tryz.underlying46
 have HR0:=Aside0.mk hr0
 have HC0:=Aside0.mk hc0
 clear hr0 hc0
 have HB:=Aside0.mk (Below.refl w.heap.size w)
 have H:(if (l0.length:Int)=1 then (if 0<(l0.length:Int) then ((context_plain.f ((rd_T46 l0 0).f0) ((rd_T46 l0 0).f1) ((rd_T46 l0 0).f2) ((rd_T46 l0 0).f3) ((rd_T46 l0 0).f4) 1 (⟨#[97]⟩:ByteArray) 1).bind fun t169=>(if t169=true then (if 0<(((rd_T46 l0 0).f3).length:Int) then (if ((rd_T87 ((rd_T46 l0 0).f3) 0).f0).toList=([120]:List UInt8) then (some ((rd_T87 ((rd_T46 l0 0).f3) 0).f1,true)) else (some ((⟨#[]⟩:ByteArray),false))) else (none)) else (some ((⟨#[]⟩:ByteArray),false)))) else (none)) else (some ((⟨#[]⟩:ByteArray),false)))=some (r1,r2):=h
 clear h
 by_cases c2:(l0.length:Int)=1
 · rw [if_pos c2] at H
   have c2b0:((l0.length:Int) == 1)=true:=beq_iff_eq.mpr c2
   have c2b1:((l0.length:Int) != 1)=false:=bne_eq_false_iff_eq.mpr c2
   clear c2
   by_cases c3:0<(l0.length:Int)
   · rw [if_pos c3] at H
     have c3b0:decide (0<(l0.length:Int))=true:=decide_eq_true c3
     have c3b1:decide (0<l0.length)=true:=decide_eq_true (by omega)
     clear c3
     replace H:=Option.bind_eq_some_iff.mp H
     obtain ⟨t169,A40,H⟩:=H
     replace H:(if t169=true then (if 0<(((rd_T46 l0 0).f3).length:Int) then (if ((rd_T87 ((rd_T46 l0 0).f3) 0).f0).toList=([120]:List UInt8) then (some ((rd_T87 ((rd_T46 l0 0).f3) 0).f1,true)) else (some ((⟨#[]⟩:ByteArray),false))) else (none)) else (some ((⟨#[]⟩:ByteArray),false)))=some (r1,r2):=H
     have A4:=Aside0.mk A40
     clear A40
     by_cases c5:t169=true
     · subst c5
       have H1:(if 0<(((rd_T46 l0 0).f3).length:Int) then (if ((rd_T87 ((rd_T46 l0 0).f3) 0).f0).toList=([120]:List UInt8) then (some ((rd_T87 ((rd_T46 l0 0).f3) 0).f1,true)) else (some ((⟨#[]⟩:ByteArray),false))) else (none))=some (r1,r2):=by rw [if_pos rfl] at H;exact H
       clear H
       have H:=H1
       clear H1
       by_cases c6:0<(((rd_T46 l0 0).f3).length:Int)
       · rw [if_pos c6] at H
         have c6b0:decide (0<(((rd_T46 l0 0).f3).length:Int))=true:=decide_eq_true c6
         have c6b1:decide (0<((rd_T46 l0 0).f3).length)=true:=decide_eq_true (by omega)
         clear c6
         by_cases c7:((rd_T87 ((rd_T46 l0 0).f3) 0).f0).toList=([120]:List UInt8)
         · rw [if_pos c7] at H
           have c7b0:(((rd_T87 ((rd_T46 l0 0).f3) 0).f0).toList == ([120]:List UInt8))=true:=beq_iff_eq.mpr c7
           have c7b1:(((rd_T87 ((rd_T46 l0 0).f3) 0).f0).toList != ([120]:List UInt8))=false:=bne_eq_false_iff_eq.mpr c7
           clear c7
           simp only [Option.some.injEq,Prod.mk.injEq] at H
           obtain ⟨rfl,rfl⟩:=H
           have p168:0≤(0:Int):=(by omega)
           have q168:0<(l0.length:Int):=of_decide_eq_true (by first | (with_reducible assumption)|assumption)
           obtain ⟨ad168,A168_3,c168_3,e168,hx168_0,hx168_1,hx168_2,hx168_3,hx168_4,hl168_3,hi168_3⟩:=at_T46 HR0.out 0 p168 q168
           cases e168
           have qi168:(0<l0.length)=True:=eq_true (by omega)
           (try rw [show ((0:Int)).toNat=0 from rfl] at hx168_0)
           (try rw [show 0*5=0 from rfl] at hx168_0)
           (try rw [Addr.add_zero'] at hx168_0)
           (try rw [show ((0:Int)).toNat=0 from rfl] at hx168_1)
           (try rw [show 0*5=0 from rfl] at hx168_1)
           (try rw [Addr.add_zero'] at hx168_1)
           (try rw [show ((0:Int)).toNat=0 from rfl] at hx168_2)
           (try rw [show 0*5=0 from rfl] at hx168_2)
           (try rw [Addr.add_zero'] at hx168_2)
           (try rw [show ((0:Int)).toNat=0 from rfl] at hx168_3)
           (try rw [show 0*5=0 from rfl] at hx168_3)
           (try rw [Addr.add_zero'] at hx168_3)
           (try rw [show ((0:Int)).toNat=0 from rfl] at hx168_4)
           (try rw [show 0*5=0 from rfl] at hx168_4)
           (try rw [Addr.add_zero'] at hx168_4)
           have HR168_3:=Aside0.mk hi168_3
           have HC168_3:=Aside0.mk hl168_3
           clear hi168_3 hl168_3
           replace p168:=eq_true p168
           replace q168:=eq_true q168
           go_enter Tryz.func40,Tryz.ntmps40
           go_wp2_with (first | (go_at_call 66;(with_reducible refine (context_plain.calls ((rd_T46 l0 0).f0) ((rd_T46 l0 0).f1) ((rd_T46 l0 0).f2) _ _ ((rd_T46 l0 0).f3) ((rd_T46 l0 0).f4) 1 (⟨#[97]⟩:ByteArray) 1 true _ ?side1 ?side2 A4.out).mono ?_);(case side1=>repeat (first|exact HR168_3.out | (with_reducible refine Kd.C_alloc ?_ _) | (with_reducible refine Kd.C_drewN ?_ _) | (with_reducible refine Kd.C_drew ?_)));(case side2=>exact HC168_3.out);rintro e w8 ⟨rfl,hb⟩;have n0_:=Aside0.mk (below_step (by repeat (first | (with_reducible first|exact HB.out|apply below_alloc|apply pw_below_drewN|apply below_drew1)|exact HB.out)) hb);clear HB;have HB:=n0_;clear n0_;(try clear hb);(try clear hb2);(try clear hk);(try clear hi);have p170:0≤(0:Int):=(by omega);have q170:0<(l0.length:Int):=of_decide_eq_true (by first | (with_reducible assumption)|assumption);obtain ⟨ad170,A170_3,c170_3,e170,hx170_0,hx170_1,hx170_2,hx170_3,hx170_4,hl170_3,hi170_3⟩:=at_T46 HR0.out 0 p170 q170;obtain rfl:ad168=ad170:=(by injection e170);have qi170:(0<l0.length)=True:=eq_true (by omega);(try rw [show ((0:Int)).toNat=0 from rfl] at hx170_0);(try rw [show 0*5=0 from rfl] at hx170_0);(try rw [Addr.add_zero'] at hx170_0);(try rw [show ((0:Int)).toNat=0 from rfl] at hx170_1);(try rw [show 0*5=0 from rfl] at hx170_1);(try rw [Addr.add_zero'] at hx170_1);(try rw [show ((0:Int)).toNat=0 from rfl] at hx170_2);(try rw [show 0*5=0 from rfl] at hx170_2);(try rw [Addr.add_zero'] at hx170_2);(try rw [show ((0:Int)).toNat=0 from rfl] at hx170_3);(try rw [show 0*5=0 from rfl] at hx170_3);(try rw [Addr.add_zero'] at hx170_3);(try rw [show ((0:Int)).toNat=0 from rfl] at hx170_4);(try rw [show 0*5=0 from rfl] at hx170_4);(try rw [Addr.add_zero'] at hx170_4);replace hx170_0:=(HB.out.cell (World.block_lt_of_cell? w _ hx170_0)).trans hx170_0;replace hx170_1:=(HB.out.cell (World.block_lt_of_cell? w _ hx170_1)).trans hx170_1;replace hx170_2:=(HB.out.cell (World.block_lt_of_cell? w _ hx170_2)).trans hx170_2;replace hx170_3:=(HB.out.cell (World.block_lt_of_cell? w _ hx170_3)).trans hx170_3;replace hx170_4:=(HB.out.cell (World.block_lt_of_cell? w _ hx170_4)).trans hx170_4;have HR170_3:=Aside0.mk hi170_3;have HC170_3:=Aside0.mk hl170_3;clear hi170_3 hl170_3;replace p170:=eq_true p170;replace q170:=eq_true q170;have p171:0≤(0:Int):=(by omega);have q171:0<(((rd_T46 l0 0).f3).length:Int):=of_decide_eq_true (by first | (with_reducible assumption)|assumption);obtain ⟨ad171,e171,hx171_0,hx171_1⟩:=at_T87 HR170_3.out 0 p171 q171;cases e171;have qi171:(0<((rd_T46 l0 0).f3).length)=True:=eq_true (by omega);(try rw [show ((0:Int)).toNat=0 from rfl] at hx171_0);(try rw [show 0*2=0 from rfl] at hx171_0);(try rw [Addr.add_zero'] at hx171_0);(try rw [show ((0:Int)).toNat=0 from rfl] at hx171_1);(try rw [show 0*2=0 from rfl] at hx171_1);(try rw [Addr.add_zero'] at hx171_1);replace hx171_0:=(HB.out.cell (World.block_lt_of_cell? w _ hx171_0)).trans hx171_0;replace hx171_1:=(HB.out.cell (World.block_lt_of_cell? w _ hx171_1)).trans hx171_1;replace p171:=eq_true p171;replace q171:=eq_true q171;have p172:0≤(0:Int):=(by omega);have q172:0<(l0.length:Int):=of_decide_eq_true (by first | (with_reducible assumption)|assumption);obtain ⟨ad172,A172_3,c172_3,e172,hx172_0,hx172_1,hx172_2,hx172_3,hx172_4,hl172_3,hi172_3⟩:=at_T46 HR0.out 0 p172 q172;obtain rfl:ad168=ad172:=(by injection e172);have qi172:(0<l0.length)=True:=eq_true (by omega);(try rw [show ((0:Int)).toNat=0 from rfl] at hx172_0);(try rw [show 0*5=0 from rfl] at hx172_0);(try rw [Addr.add_zero'] at hx172_0);(try rw [show ((0:Int)).toNat=0 from rfl] at hx172_1);(try rw [show 0*5=0 from rfl] at hx172_1);(try rw [Addr.add_zero'] at hx172_1);(try rw [show ((0:Int)).toNat=0 from rfl] at hx172_2);(try rw [show 0*5=0 from rfl] at hx172_2);(try rw [Addr.add_zero'] at hx172_2);(try rw [show ((0:Int)).toNat=0 from rfl] at hx172_3);(try rw [show 0*5=0 from rfl] at hx172_3);(try rw [Addr.add_zero'] at hx172_3);(try rw [show ((0:Int)).toNat=0 from rfl] at hx172_4);(try rw [show 0*5=0 from rfl] at hx172_4);(try rw [Addr.add_zero'] at hx172_4);replace hx172_0:=(HB.out.cell (World.block_lt_of_cell? w _ hx172_0)).trans hx172_0;replace hx172_1:=(HB.out.cell (World.block_lt_of_cell? w _ hx172_1)).trans hx172_1;replace hx172_2:=(HB.out.cell (World.block_lt_of_cell? w _ hx172_2)).trans hx172_2;replace hx172_3:=(HB.out.cell (World.block_lt_of_cell? w _ hx172_3)).trans hx172_3;replace hx172_4:=(HB.out.cell (World.block_lt_of_cell? w _ hx172_4)).trans hx172_4;have HR172_3:=Aside0.mk hi172_3;have HC172_3:=Aside0.mk hl172_3;clear hi172_3 hl172_3;replace p172:=eq_true p172;replace q172:=eq_true q172;have ea_:=Option.some.inj (hx170_3.symm.trans hx172_3);injection ea_ with ea_ en_ ec_;subst ea_;subst ec_;clear en_;have p173:0≤(0:Int):=(by omega);have q173:0<(((rd_T46 l0 0).f3).length:Int):=of_decide_eq_true (by first | (with_reducible assumption)|assumption);obtain ⟨ad173,e173,hx173_0,hx173_1⟩:=at_T87 HR172_3.out 0 p173 q173;cases e173;have qi173:(0<((rd_T46 l0 0).f3).length)=True:=eq_true (by omega);(try rw [show ((0:Int)).toNat=0 from rfl] at hx173_0);(try rw [show 0*2=0 from rfl] at hx173_0);(try rw [Addr.add_zero'] at hx173_0);(try rw [show ((0:Int)).toNat=0 from rfl] at hx173_1);(try rw [show 0*2=0 from rfl] at hx173_1);(try rw [Addr.add_zero'] at hx173_1);replace hx173_0:=(HB.out.cell (World.block_lt_of_cell? w _ hx173_0)).trans hx173_0;replace hx173_1:=(HB.out.cell (World.block_lt_of_cell? w _ hx173_1)).trans hx173_1;replace p173:=eq_true p173;replace q173:=eq_true q173))
           go_ret2
           exact ⟨by first|rfl | (simp [errW_none,errW_some]<;>rfl) | (simp [*,errW_none,errW_some]<;>rfl),by repeat (first | (with_reducible first|exact HB.out|apply below_alloc|apply pw_below_drewN|apply below_drew1)|exact HB.out)⟩
         · rw [if_neg c7] at H
           have c7b0:(((rd_T87 ((rd_T46 l0 0).f3) 0).f0).toList == ([120]:List UInt8))=false:=beq_eq_false_iff_ne.mpr c7
           have c7b1:(((rd_T87 ((rd_T46 l0 0).f3) 0).f0).toList != ([120]:List UInt8))=true:=bne_iff_ne.mpr c7
           simp only [Option.some.injEq,Prod.mk.injEq] at H
           obtain ⟨rfl,rfl⟩:=H
           have p168:0≤(0:Int):=(by omega)
           have q168:0<(l0.length:Int):=of_decide_eq_true (by first | (with_reducible assumption)|assumption)
           obtain ⟨ad168,A168_3,c168_3,e168,hx168_0,hx168_1,hx168_2,hx168_3,hx168_4,hl168_3,hi168_3⟩:=at_T46 HR0.out 0 p168 q168
           cases e168
           have qi168:(0<l0.length)=True:=eq_true (by omega)
           (try rw [show ((0:Int)).toNat=0 from rfl] at hx168_0)
           (try rw [show 0*5=0 from rfl] at hx168_0)
           (try rw [Addr.add_zero'] at hx168_0)
           (try rw [show ((0:Int)).toNat=0 from rfl] at hx168_1)
           (try rw [show 0*5=0 from rfl] at hx168_1)
           (try rw [Addr.add_zero'] at hx168_1)
           (try rw [show ((0:Int)).toNat=0 from rfl] at hx168_2)
           (try rw [show 0*5=0 from rfl] at hx168_2)
           (try rw [Addr.add_zero'] at hx168_2)
           (try rw [show ((0:Int)).toNat=0 from rfl] at hx168_3)
           (try rw [show 0*5=0 from rfl] at hx168_3)
           (try rw [Addr.add_zero'] at hx168_3)
           (try rw [show ((0:Int)).toNat=0 from rfl] at hx168_4)
           (try rw [show 0*5=0 from rfl] at hx168_4)
           (try rw [Addr.add_zero'] at hx168_4)
           have HR168_3:=Aside0.mk hi168_3
           have HC168_3:=Aside0.mk hl168_3
           clear hi168_3 hl168_3
           replace p168:=eq_true p168
           replace q168:=eq_true q168
           go_enter Tryz.func40,Tryz.ntmps40
           go_wp2_with (first | (go_at_call 66;(with_reducible refine (context_plain.calls ((rd_T46 l0 0).f0) ((rd_T46 l0 0).f1) ((rd_T46 l0 0).f2) _ _ ((rd_T46 l0 0).f3) ((rd_T46 l0 0).f4) 1 (⟨#[97]⟩:ByteArray) 1 true _ ?side1 ?side2 A4.out).mono ?_);(case side1=>repeat (first|exact HR168_3.out | (with_reducible refine Kd.C_alloc ?_ _) | (with_reducible refine Kd.C_drewN ?_ _) | (with_reducible refine Kd.C_drew ?_)));(case side2=>exact HC168_3.out);rintro e w9 ⟨rfl,hb⟩;have n0_:=Aside0.mk (below_step (by repeat (first | (with_reducible first|exact HB.out|apply below_alloc|apply pw_below_drewN|apply below_drew1)|exact HB.out)) hb);clear HB;have HB:=n0_;clear n0_;(try clear hb);(try clear hb2);(try clear hk);(try clear hi);have p170:0≤(0:Int):=(by omega);have q170:0<(l0.length:Int):=of_decide_eq_true (by first | (with_reducible assumption)|assumption);obtain ⟨ad170,A170_3,c170_3,e170,hx170_0,hx170_1,hx170_2,hx170_3,hx170_4,hl170_3,hi170_3⟩:=at_T46 HR0.out 0 p170 q170;obtain rfl:ad168=ad170:=(by injection e170);have qi170:(0<l0.length)=True:=eq_true (by omega);(try rw [show ((0:Int)).toNat=0 from rfl] at hx170_0);(try rw [show 0*5=0 from rfl] at hx170_0);(try rw [Addr.add_zero'] at hx170_0);(try rw [show ((0:Int)).toNat=0 from rfl] at hx170_1);(try rw [show 0*5=0 from rfl] at hx170_1);(try rw [Addr.add_zero'] at hx170_1);(try rw [show ((0:Int)).toNat=0 from rfl] at hx170_2);(try rw [show 0*5=0 from rfl] at hx170_2);(try rw [Addr.add_zero'] at hx170_2);(try rw [show ((0:Int)).toNat=0 from rfl] at hx170_3);(try rw [show 0*5=0 from rfl] at hx170_3);(try rw [Addr.add_zero'] at hx170_3);(try rw [show ((0:Int)).toNat=0 from rfl] at hx170_4);(try rw [show 0*5=0 from rfl] at hx170_4);(try rw [Addr.add_zero'] at hx170_4);replace hx170_0:=(HB.out.cell (World.block_lt_of_cell? w _ hx170_0)).trans hx170_0;replace hx170_1:=(HB.out.cell (World.block_lt_of_cell? w _ hx170_1)).trans hx170_1;replace hx170_2:=(HB.out.cell (World.block_lt_of_cell? w _ hx170_2)).trans hx170_2;replace hx170_3:=(HB.out.cell (World.block_lt_of_cell? w _ hx170_3)).trans hx170_3;replace hx170_4:=(HB.out.cell (World.block_lt_of_cell? w _ hx170_4)).trans hx170_4;have HR170_3:=Aside0.mk hi170_3;have HC170_3:=Aside0.mk hl170_3;clear hi170_3 hl170_3;replace p170:=eq_true p170;replace q170:=eq_true q170;have p171:0≤(0:Int):=(by omega);have q171:0<(((rd_T46 l0 0).f3).length:Int):=of_decide_eq_true (by first | (with_reducible assumption)|assumption);obtain ⟨ad171,e171,hx171_0,hx171_1⟩:=at_T87 HR170_3.out 0 p171 q171;cases e171;have qi171:(0<((rd_T46 l0 0).f3).length)=True:=eq_true (by omega);(try rw [show ((0:Int)).toNat=0 from rfl] at hx171_0);(try rw [show 0*2=0 from rfl] at hx171_0);(try rw [Addr.add_zero'] at hx171_0);(try rw [show ((0:Int)).toNat=0 from rfl] at hx171_1);(try rw [show 0*2=0 from rfl] at hx171_1);(try rw [Addr.add_zero'] at hx171_1);replace hx171_0:=(HB.out.cell (World.block_lt_of_cell? w _ hx171_0)).trans hx171_0;replace hx171_1:=(HB.out.cell (World.block_lt_of_cell? w _ hx171_1)).trans hx171_1;replace p171:=eq_true p171;replace q171:=eq_true q171))
           go_ret2
           exact ⟨by first|rfl | (simp [errW_none,errW_some]<;>rfl) | (simp [*,errW_none,errW_some]<;>rfl),by repeat (first | (with_reducible first|exact HB.out|apply below_alloc|apply pw_below_drewN|apply below_drew1)|exact HB.out)⟩
       · rw [if_neg c6] at H
         exact absurd H (by simp)
     · replace c5:=Bool.eq_false_iff.mpr c5
       subst c5
       have H1:(some ((⟨#[]⟩:ByteArray),false))=some (r1,r2):=by rw [if_neg (show ¬ (false=true) by decide)] at H;exact H
       clear H
       have H:=H1
       clear H1
       simp only [Option.some.injEq,Prod.mk.injEq] at H
       obtain ⟨rfl,rfl⟩:=H
       have p168:0≤(0:Int):=(by omega)
       have q168:0<(l0.length:Int):=of_decide_eq_true (by first | (with_reducible assumption)|assumption)
       obtain ⟨ad168,A168_3,c168_3,e168,hx168_0,hx168_1,hx168_2,hx168_3,hx168_4,hl168_3,hi168_3⟩:=at_T46 HR0.out 0 p168 q168
       cases e168
       have qi168:(0<l0.length)=True:=eq_true (by omega)
       (try rw [show ((0:Int)).toNat=0 from rfl] at hx168_0)
       (try rw [show 0*5=0 from rfl] at hx168_0)
       (try rw [Addr.add_zero'] at hx168_0)
       (try rw [show ((0:Int)).toNat=0 from rfl] at hx168_1)
       (try rw [show 0*5=0 from rfl] at hx168_1)
       (try rw [Addr.add_zero'] at hx168_1)
       (try rw [show ((0:Int)).toNat=0 from rfl] at hx168_2)
       (try rw [show 0*5=0 from rfl] at hx168_2)
       (try rw [Addr.add_zero'] at hx168_2)
       (try rw [show ((0:Int)).toNat=0 from rfl] at hx168_3)
       (try rw [show 0*5=0 from rfl] at hx168_3)
       (try rw [Addr.add_zero'] at hx168_3)
       (try rw [show ((0:Int)).toNat=0 from rfl] at hx168_4)
       (try rw [show 0*5=0 from rfl] at hx168_4)
       (try rw [Addr.add_zero'] at hx168_4)
       have HR168_3:=Aside0.mk hi168_3
       have HC168_3:=Aside0.mk hl168_3
       clear hi168_3 hl168_3
       replace p168:=eq_true p168
       replace q168:=eq_true q168
       go_enter Tryz.func40,Tryz.ntmps40
       go_wp2_with (first | (go_at_call 66;(with_reducible refine (context_plain.calls ((rd_T46 l0 0).f0) ((rd_T46 l0 0).f1) ((rd_T46 l0 0).f2) _ _ ((rd_T46 l0 0).f3) ((rd_T46 l0 0).f4) 1 (⟨#[97]⟩:ByteArray) 1 false _ ?side1 ?side2 A4.out).mono ?_);(case side1=>repeat (first|exact HR168_3.out | (with_reducible refine Kd.C_alloc ?_ _) | (with_reducible refine Kd.C_drewN ?_ _) | (with_reducible refine Kd.C_drew ?_)));(case side2=>exact HC168_3.out);rintro e w10 ⟨rfl,hb⟩;have n0_:=Aside0.mk (below_step (by repeat (first | (with_reducible first|exact HB.out|apply below_alloc|apply pw_below_drewN|apply below_drew1)|exact HB.out)) hb);clear HB;have HB:=n0_;clear n0_;(try clear hb);(try clear hb2);(try clear hk);(try clear hi)))
       go_ret2
       exact ⟨by first|rfl | (simp [errW_none,errW_some]<;>rfl) | (simp [*,errW_none,errW_some]<;>rfl),by repeat (first | (with_reducible first|exact HB.out|apply below_alloc|apply pw_below_drewN|apply below_drew1)|exact HB.out)⟩
   · rw [if_neg c3] at H
     exact absurd H (by simp)
 · rw [if_neg c2] at H
   have c2b0:((l0.length:Int) == 1)=false:=beq_eq_false_iff_ne.mpr c2
   have c2b1:((l0.length:Int) != 1)=true:=bne_iff_ne.mpr c2
   simp only [Option.some.injEq,Prod.mk.injEq] at H
   obtain ⟨rfl,rfl⟩:=H
   go_enter Tryz.func40,Tryz.ntmps40
   go_wp2
   go_ret2
   exact ⟨by first|rfl | (simp [errW_none,errW_some]<;>rfl) | (simp [*,errW_none,errW_some]<;>rfl),by repeat (first | (with_reducible first|exact HB.out|apply below_alloc|apply pw_below_drewN|apply below_drew1)|exact HB.out)⟩
noncomputable def stringslite_HasPrefix.f (a0:ByteArray) (a1:ByteArray):Option (Bool):=if (a0.size:Int)≥(a1.size:Int) then (if 0≤(a1.size:Int) then (if (a1.size:Int)≤(a0.size:Int) then (some ((a0.extract 0 ((a1.size:Int):Int).toNat).toList == a1.toList)) else (none)) else (none)) else (some false)
set_option maxHeartbeats 8000000 in
set_option maxRecDepth 100000 in
theorem stringslite_HasPrefix.calls (a0:ByteArray) (a1:ByteArray) (r:Bool) (w:World) (h:stringslite_HasPrefix.f a0 a1=some r) :
  Calls Tryz.prog 65 #[.string a0,.string a1] w fun e w'=>e = .returned (.bool r)∧Drawn0 w w':=by
 have H:(if (a0.size:Int)≥(a1.size:Int) then (if 0≤(a1.size:Int) then (if (a1.size:Int)≤(a0.size:Int) then (some ((a0.extract 0 ((a1.size:Int):Int).toNat).toList == a1.toList)) else (none)) else (none)) else (some false))=some r:=h
 clear h
 by_cases c3:(a0.size:Int)≥(a1.size:Int)
 · rw [if_pos c3] at H
   have c3b0:decide ((a1.size:Int)≤(a0.size:Int))=true:=decide_eq_true c3
   have c3b1:decide (a1.size≤a0.size)=true:=decide_eq_true (Int.ofNat_le.mp c3)
   clear c3
   by_cases c4:0≤(a1.size:Int)
   · rw [if_pos c4] at H
     have c4b0:=eq_true c4
     have c4b1:decide (0≤(a1.size:Int))=true:=decide_eq_true c4
     clear c4
     by_cases c5:(a1.size:Int)≤(a0.size:Int)
     · rw [if_pos c5] at H
       have c5b0:=eq_true c5
       have c5b1:decide ((a1.size:Int)≤(a0.size:Int))=true:=decide_eq_true c5
       clear c5
       obtain rfl:=Option.some.inj H
       go_enter Tryz.func65,Tryz.ntmps65
       go_wp2
       go_ret
       exact ⟨by first|rfl | (simp;done) | (simp [*];done),by repeat (first|exact Drawn0.refl _|apply Drawn0.step)⟩
     · rw [if_neg c5] at H
       exact absurd H (by simp)
   · rw [if_neg c4] at H
     exact absurd H (by simp)
 · rw [if_neg c3] at H
   have c3b0:decide ((a1.size:Int)≤(a0.size:Int))=false:=decide_eq_false c3
   have c3b1:decide (a1.size≤a0.size)=false:=decide_eq_false (fun h=>c3 (Int.ofNat_le.mpr h))
   clear c3
   obtain rfl:=Option.some.inj H
   go_enter Tryz.func65,Tryz.ntmps65
   go_wp2
   go_ret
   exact ⟨by first|rfl | (simp;done) | (simp [*];done),by repeat (first|exact Drawn0.refl _|apply Drawn0.step)⟩
noncomputable def stringslite_TrimPrefix.f (a0:ByteArray) (a1:ByteArray):Option (ByteArray):=(stringslite_HasPrefix.f a0 a1).bind fun t174=>(if t174=true then (if 0≤(a1.size:Int) then (if (a1.size:Int)≤(a0.size:Int) then (some (a0.extract ((a1.size:Int):Int).toNat a0.size)) else (none)) else (none)) else (some a0))
set_option maxHeartbeats 8000000 in
set_option maxRecDepth 100000 in
theorem stringslite_TrimPrefix.calls (a0:ByteArray) (a1:ByteArray) (r:ByteArray) (w:World) (h:stringslite_TrimPrefix.f a0 a1=some r) :
  Calls Tryz.prog 67 #[.string a0,.string a1] w fun e w'=>e = .returned (.string r)∧Drawn0 w w':=by
 have H:((stringslite_HasPrefix.f a0 a1).bind fun t174=>(if t174=true then (if 0≤(a1.size:Int) then (if (a1.size:Int)≤(a0.size:Int) then (some (a0.extract ((a1.size:Int):Int).toNat a0.size)) else (none)) else (none)) else (some a0)))=some r:=h
 clear h
 replace H:=Option.bind_eq_some_iff.mp H
 obtain ⟨t174,A30,H⟩:=H
 replace H:(if t174=true then (if 0≤(a1.size:Int) then (if (a1.size:Int)≤(a0.size:Int) then (some (a0.extract ((a1.size:Int):Int).toNat a0.size)) else (none)) else (none)) else (some a0))=some r:=H
 have A3:=Aside0.mk A30
 clear A30
 by_cases c4:t174=true
 · subst c4
   have H1:(if 0≤(a1.size:Int) then (if (a1.size:Int)≤(a0.size:Int) then (some (a0.extract ((a1.size:Int):Int).toNat a0.size)) else (none)) else (none))=some r:=by rw [if_pos rfl] at H;exact H
   clear H
   have H:=H1
   clear H1
   by_cases c5:0≤(a1.size:Int)
   · rw [if_pos c5] at H
     have c5b0:=eq_true c5
     have c5b1:decide (0≤(a1.size:Int))=true:=decide_eq_true c5
     clear c5
     by_cases c6:(a1.size:Int)≤(a0.size:Int)
     · rw [if_pos c6] at H
       have c6b0:=eq_true c6
       have c6b1:decide ((a1.size:Int)≤(a0.size:Int))=true:=decide_eq_true c6
       clear c6
       obtain rfl:=Option.some.inj H
       go_enter Tryz.func67,Tryz.ntmps67
       go_wp2_with (first | ((with_reducible refine gate_callee (f:=65) rfl ?_);refine goesL_ (some 7) rfl rfl Tryz.func65 (by kernel_rfl) rfl #[.string a0,.string a1] rfl (by (try simp only [List.map_toArray,List.map_cons,List.map_nil]);first|done|rfl | (simp only [List.length_drop,List.length_take];rfl)) ?_;(with_reducible refine (stringslite_HasPrefix.calls a0 a1 true _ A3.out).mono ?_);rintro e w' ⟨rfl,⟨nd,rfl⟩⟩;refine ⟨_,rfl,?_⟩))
       go_ret
       exact ⟨by first|rfl | (simp;done) | (simp [*];done),by repeat (first|exact Drawn0.refl _|apply Drawn0.step)⟩
     · rw [if_neg c6] at H
       exact absurd H (by simp)
   · rw [if_neg c5] at H
     exact absurd H (by simp)
 · replace c4:=Bool.eq_false_iff.mpr c4
   subst c4
   have H1:(some a0)=some r:=by rw [if_neg (show ¬ (false=true) by decide)] at H;exact H
   clear H
   have H:=H1
   clear H1
   obtain rfl:=Option.some.inj H
   go_enter Tryz.func67,Tryz.ntmps67
   go_wp2_with (first | ((with_reducible refine gate_callee (f:=65) rfl ?_);refine goesL_ (some 7) rfl rfl Tryz.func65 (by kernel_rfl) rfl #[.string a0,.string a1] rfl (by (try simp only [List.map_toArray,List.map_cons,List.map_nil]);first|done|rfl | (simp only [List.length_drop,List.length_take];rfl)) ?_;(with_reducible refine (stringslite_HasPrefix.calls a0 a1 false _ A3.out).mono ?_);rintro e w' ⟨rfl,⟨nd,rfl⟩⟩;refine ⟨_,rfl,?_⟩))
   go_ret
   exact ⟨by first|rfl | (simp;done) | (simp [*];done),by repeat (first|exact Drawn0.refl _|apply Drawn0.step)⟩
noncomputable def strings_TrimPrefix.f (a0:ByteArray) (a1:ByteArray):Option (ByteArray):=(stringslite_TrimPrefix.f a0 a1).bind fun t175=>(some t175)
set_option maxHeartbeats 8000000 in
set_option maxRecDepth 100000 in
theorem strings_TrimPrefix.calls (a0:ByteArray) (a1:ByteArray) (r:ByteArray) (w:World) (h:strings_TrimPrefix.f a0 a1=some r) :
  Calls Tryz.prog 42 #[.string a0,.string a1] w fun e w'=>e = .returned (.string r)∧Drawn0 w w':=by
 have H:((stringslite_TrimPrefix.f a0 a1).bind fun t175=>(some t175))=some r:=h
 clear h
 replace H:=Option.bind_eq_some_iff.mp H
 obtain ⟨t175,A30,H⟩:=H
 replace H:(some t175)=some r:=H
 have A3:=Aside0.mk A30
 clear A30
 obtain rfl:=Option.some.inj H
 go_enter Tryz.func42,Tryz.ntmps42
 go_wp2_with (first | ((with_reducible refine gate_callee (f:=67) rfl ?_);refine goesL_ (some 7) rfl rfl Tryz.func67 (by kernel_rfl) rfl #[.string a0,.string a1] rfl (by (try simp only [List.map_toArray,List.map_cons,List.map_nil]);first|done|rfl | (simp only [List.length_drop,List.length_take];rfl)) ?_;(with_reducible refine (stringslite_TrimPrefix.calls a0 a1 t175 _ A3.out).mono ?_);rintro e w' ⟨rfl,⟨nd,rfl⟩⟩;refine ⟨_,rfl,?_⟩))
 go_ret
 exact ⟨by first|rfl | (simp;done) | (simp [*];done),by repeat (first|exact Drawn0.refl _|apply Drawn0.step)⟩
noncomputable def context_within.j0:Nat→List (S46)→Int→Bool→Option (ByteArray×Bool)
 | 0,_,_,_=>none
 | k+1,x0,x4,x24=>if x24=true then (some ((⟨#[]⟩:ByteArray),false)) else (if 1≤x4 then (if x4≤(x0.length:Int) then ((context_only.f ((x0.take (x4:Int).toNat).drop 1)).bind fun bt184=>((strings_TrimPrefix.f bt184.1 (⟨#[10]⟩:ByteArray)).bind fun t186=>(some (t186,bt184.2)))) else (none)) else (none))
noncomputable def context_within.f (k:Nat) (l0:List (S46)):Option (ByteArray×Bool):=if (wrap64 ((l0.length:Int) - 1))<1 then (context_within.j0 k l0 (wrap64 ((l0.length:Int) - 1)) true) else (if 0<(l0.length:Int) then ((context_plain.f ((rd_T46 l0 0).f0) ((rd_T46 l0 0).f1) ((rd_T46 l0 0).f2) ((rd_T46 l0 0).f3) ((rd_T46 l0 0).f4) 1 (⟨#[116,101,120,116,97,114,101,97]⟩:ByteArray) 0).bind fun t177=>(if t177=true then (if 0≤(wrap64 ((l0.length:Int) - 1)) then (if (wrap64 ((l0.length:Int) - 1))<(l0.length:Int) then ((context_plain.f ((rd_T46 l0 (wrap64 ((l0.length:Int) - 1))).f0) ((rd_T46 l0 (wrap64 ((l0.length:Int) - 1))).f1) ((rd_T46 l0 (wrap64 ((l0.length:Int) - 1))).f2) ((rd_T46 l0 (wrap64 ((l0.length:Int) - 1))).f3) ((rd_T46 l0 (wrap64 ((l0.length:Int) - 1))).f4) 2 (⟨#[116,101,120,116,97,114,101,97]⟩:ByteArray) 0).bind fun t179=>(context_within.j0 k l0 (wrap64 ((l0.length:Int) - 1)) (!t179))) else (none)) else (none)) else (context_within.j0 k l0 (wrap64 ((l0.length:Int) - 1)) true))) else (none))
set_option maxHeartbeats 8000000 in
set_option maxRecDepth 100000 in
theorem context_within.calls (k:Nat) (A0:Option Addr) (c0:Nat) (l0:List (S46)) (r1:ByteArray) (r2:Bool) (w:World) (hr0:Kd.C k46 w A0 l0.length l0) (hc0:l0.length≤c0) (h:context_within.f k l0=some (r1,r2)) :
  Calls Tryz.prog 41 #[.slice A0 l0.length c0] w fun e w'=>e = .returned (.tuple #[.string r1,.bool r2])∧Below w.heap.size w w':=by
 have hu46:=Tryz.underlying46
 have HR0:=Aside0.mk hr0
 have HC0:=Aside0.mk hc0
 clear hr0 hc0
 have HB:=Aside0.mk (Below.refl w.heap.size w)
 have H:(if (wrap64 ((l0.length:Int) - 1))<1 then (context_within.j0 k l0 (wrap64 ((l0.length:Int) - 1)) true) else (if 0<(l0.length:Int) then ((context_plain.f ((rd_T46 l0 0).f0) ((rd_T46 l0 0).f1) ((rd_T46 l0 0).f2) ((rd_T46 l0 0).f3) ((rd_T46 l0 0).f4) 1 (⟨#[116,101,120,116,97,114,101,97]⟩:ByteArray) 0).bind fun t177=>(if t177=true then (if 0≤(wrap64 ((l0.length:Int) - 1)) then (if (wrap64 ((l0.length:Int) - 1))<(l0.length:Int) then ((context_plain.f ((rd_T46 l0 (wrap64 ((l0.length:Int) - 1))).f0) ((rd_T46 l0 (wrap64 ((l0.length:Int) - 1))).f1) ((rd_T46 l0 (wrap64 ((l0.length:Int) - 1))).f2) ((rd_T46 l0 (wrap64 ((l0.length:Int) - 1))).f3) ((rd_T46 l0 (wrap64 ((l0.length:Int) - 1))).f4) 2 (⟨#[116,101,120,116,97,114,101,97]⟩:ByteArray) 0).bind fun t179=>(context_within.j0 k l0 (wrap64 ((l0.length:Int) - 1)) (!t179))) else (none)) else (none)) else (context_within.j0 k l0 (wrap64 ((l0.length:Int) - 1)) true))) else (none)))=some (r1,r2):=h
 clear h
 have HC2:=Aside0.mk H
 clear H
 go_enter Tryz.func41,Tryz.ntmps41
 go_upto_region 2 with (fail)
 go_cut [24] (fun v24 wc => ∃ (kq:Nat) (x24_1:Bool),v24 = .bool x24_1∧Aside0 (context_within.j0 kq l0 (wrap64 ((l0.length:Int) - 1)) x24_1=some (r1,r2))∧Aside0 (kq≤k)∧Aside0 (Below w.heap.size w wc))
 case first =>
  have H:=HC2.out
  clear HC2
  by_cases c3:(wrap64 ((l0.length:Int) - 1))<1
  · rw [if_pos c3] at H
    have c3b0:decide ((wrap64 ((l0.length:Int) - 1))<1)=true:=decide_eq_true c3
    clear c3
    (first|rw [c3b0] | (simp only [i64_w,i32_w];rw [c3b0])|skip)
    have H':=Aside0.mk H
    clear H
    go_wp2
    go_meet
    case rel=>exact ⟨_,(true),(by first|rfl | (simp;done) | (simp [*];done)),H',⟨by first|omega|exact Nat.le_refl _⟩,⟨by repeat (first | (with_reducible first|exact HB.out|apply below_alloc|apply pw_below_drewN|apply below_drew1)|exact HB.out)⟩⟩
  · rw [if_neg c3] at H
    have c3b0:decide ((wrap64 ((l0.length:Int) - 1))<1)=false:=decide_eq_false c3
    clear c3
    (first|rw [c3b0] | (simp only [i64_w,i32_w];rw [c3b0])|skip)
    by_cases c4:0<(l0.length:Int)
    · rw [if_pos c4] at H
      have c4b0:decide (0<(l0.length:Int))=true:=decide_eq_true c4
      have c4b1:decide (0<l0.length)=true:=decide_eq_true (by omega)
      clear c4
      replace H:=Option.bind_eq_some_iff.mp H
      obtain ⟨t177,A50,H⟩:=H
      replace H:(if t177=true then (if 0≤(wrap64 ((l0.length:Int) - 1)) then (if (wrap64 ((l0.length:Int) - 1))<(l0.length:Int) then ((context_plain.f ((rd_T46 l0 (wrap64 ((l0.length:Int) - 1))).f0) ((rd_T46 l0 (wrap64 ((l0.length:Int) - 1))).f1) ((rd_T46 l0 (wrap64 ((l0.length:Int) - 1))).f2) ((rd_T46 l0 (wrap64 ((l0.length:Int) - 1))).f3) ((rd_T46 l0 (wrap64 ((l0.length:Int) - 1))).f4) 2 (⟨#[116,101,120,116,97,114,101,97]⟩:ByteArray) 0).bind fun t179=>(context_within.j0 k l0 (wrap64 ((l0.length:Int) - 1)) (!t179))) else (none)) else (none)) else (context_within.j0 k l0 (wrap64 ((l0.length:Int) - 1)) true))=some (r1,r2):=H
      have A5:=Aside0.mk A50
      clear A50
      by_cases c6:t177=true
      · subst c6
        have H1:(if 0≤(wrap64 ((l0.length:Int) - 1)) then (if (wrap64 ((l0.length:Int) - 1))<(l0.length:Int) then ((context_plain.f ((rd_T46 l0 (wrap64 ((l0.length:Int) - 1))).f0) ((rd_T46 l0 (wrap64 ((l0.length:Int) - 1))).f1) ((rd_T46 l0 (wrap64 ((l0.length:Int) - 1))).f2) ((rd_T46 l0 (wrap64 ((l0.length:Int) - 1))).f3) ((rd_T46 l0 (wrap64 ((l0.length:Int) - 1))).f4) 2 (⟨#[116,101,120,116,97,114,101,97]⟩:ByteArray) 0).bind fun t179=>(context_within.j0 k l0 (wrap64 ((l0.length:Int) - 1)) (!t179))) else (none)) else (none))=some (r1,r2):=by rw [if_pos rfl] at H;exact H
        clear H
        have H:=H1
        clear H1
        obtain ⟨ji7,hji7⟩:∃ j_:Int,(wrap64 ((l0.length:Int) - 1))=j_:=⟨_,rfl⟩
        replace H:(if 0≤(ji7) then (if (ji7)<(l0.length:Int) then ((context_plain.f ((rd_T46 l0 (ji7)).f0) ((rd_T46 l0 (ji7)).f1) ((rd_T46 l0 (ji7)).f2) ((rd_T46 l0 (ji7)).f3) ((rd_T46 l0 (ji7)).f4) 2 (⟨#[116,101,120,116,97,114,101,97]⟩:ByteArray) 0).bind fun t179=>(context_within.j0 k l0 ji7 (!t179))) else (none)) else (none))=some (r1,r2):=by first | (rw [hji7] at H;exact H) | (simp only [hji7] at H ⊢;exact H)
        (try rw [hji7] at c3b0)
        (try rw [hji7] at A5)
        have hji7w:(IntKind.i64.wrap ((l0.length:Int) - 1))=ji7:=(i64_w _).trans hji7
        by_cases c8:0≤(ji7)
        · rw [if_pos c8] at H
          have c8b0:decide (0≤(ji7))=true:=decide_eq_true c8
          clear c8
          by_cases c9:(ji7)<(l0.length:Int)
          · rw [if_pos c9] at H
            have c9b0:decide ((ji7)<(l0.length:Int))=true:=decide_eq_true c9
            clear c9
            replace H:=Option.bind_eq_some_iff.mp H
            obtain ⟨t179,A100,H⟩:=H
            replace H:(context_within.j0 k l0 ji7 (!t179))=some (r1,r2):=H
            have A10:=Aside0.mk A100
            clear A100
            have H':=Aside0.mk H
            clear H
            have p176:0≤(0:Int):=(by omega)
            have q176:0<(l0.length:Int):=of_decide_eq_true (by first | (with_reducible assumption)|assumption)
            obtain ⟨ad176,A176_3,c176_3,e176,hx176_0,hx176_1,hx176_2,hx176_3,hx176_4,hl176_3,hi176_3⟩:=at_T46 HR0.out 0 p176 q176
            cases e176
            have qi176:(0<l0.length)=True:=eq_true (by omega)
            (try rw [show ((0:Int)).toNat=0 from rfl] at hx176_0)
            (try rw [show 0*5=0 from rfl] at hx176_0)
            (try rw [Addr.add_zero'] at hx176_0)
            (try rw [show ((0:Int)).toNat=0 from rfl] at hx176_1)
            (try rw [show 0*5=0 from rfl] at hx176_1)
            (try rw [Addr.add_zero'] at hx176_1)
            (try rw [show ((0:Int)).toNat=0 from rfl] at hx176_2)
            (try rw [show 0*5=0 from rfl] at hx176_2)
            (try rw [Addr.add_zero'] at hx176_2)
            (try rw [show ((0:Int)).toNat=0 from rfl] at hx176_3)
            (try rw [show 0*5=0 from rfl] at hx176_3)
            (try rw [Addr.add_zero'] at hx176_3)
            (try rw [show ((0:Int)).toNat=0 from rfl] at hx176_4)
            (try rw [show 0*5=0 from rfl] at hx176_4)
            (try rw [Addr.add_zero'] at hx176_4)
            replace hx176_0:=(HB.out.cell (World.block_lt_of_cell? w _ hx176_0)).trans hx176_0
            replace hx176_1:=(HB.out.cell (World.block_lt_of_cell? w _ hx176_1)).trans hx176_1
            replace hx176_2:=(HB.out.cell (World.block_lt_of_cell? w _ hx176_2)).trans hx176_2
            replace hx176_3:=(HB.out.cell (World.block_lt_of_cell? w _ hx176_3)).trans hx176_3
            replace hx176_4:=(HB.out.cell (World.block_lt_of_cell? w _ hx176_4)).trans hx176_4
            have HR176_3:=Aside0.mk hi176_3
            have HC176_3:=Aside0.mk hl176_3
            clear hi176_3 hl176_3
            replace p176:=eq_true p176
            replace q176:=eq_true q176
            go_wp2_with (first | (go_at_call 66;(with_reducible refine (context_plain.calls ((rd_T46 l0 0).f0) ((rd_T46 l0 0).f1) ((rd_T46 l0 0).f2) _ _ ((rd_T46 l0 0).f3) ((rd_T46 l0 0).f4) 1 (⟨#[116,101,120,116,97,114,101,97]⟩:ByteArray) 0 true _ ?side1 ?side2 A5.out).mono ?_);(case side1=>repeat (first|exact (Kd.C_below HR176_3.out HB.out) | (with_reducible refine Kd.C_alloc ?_ _) | (with_reducible refine Kd.C_drewN ?_ _) | (with_reducible refine Kd.C_drew ?_)));(case side2=>exact HC176_3.out);rintro e w11 ⟨rfl,hb⟩;have n0_:=Aside0.mk (below_step (by repeat (first | (with_reducible first|exact HB.out|apply below_alloc|apply pw_below_drewN|apply below_drew1)|exact HB.out)) hb);clear HB;have HB:=n0_;clear n0_;(try clear hb);(try clear hb2);(try clear hk);(try clear hi);have p178:0≤((ji7):Int):=of_decide_eq_true (by first | (with_reducible assumption)|assumption);have q178:(ji7)<(l0.length:Int):=of_decide_eq_true (by first | (with_reducible assumption)|assumption);obtain ⟨ad178,A178_3,c178_3,e178,hx178_0,hx178_1,hx178_2,hx178_3,hx178_4,hl178_3,hi178_3⟩:=at_T46 HR0.out (ji7) p178 q178;obtain rfl:ad176=ad178:=(by injection e178);replace hx178_0:=(HB.out.cell (World.block_lt_of_cell? w _ hx178_0)).trans hx178_0;replace hx178_1:=(HB.out.cell (World.block_lt_of_cell? w _ hx178_1)).trans hx178_1;replace hx178_2:=(HB.out.cell (World.block_lt_of_cell? w _ hx178_2)).trans hx178_2;replace hx178_3:=(HB.out.cell (World.block_lt_of_cell? w _ hx178_3)).trans hx178_3;replace hx178_4:=(HB.out.cell (World.block_lt_of_cell? w _ hx178_4)).trans hx178_4;have HR178_3:=Aside0.mk hi178_3;have HC178_3:=Aside0.mk hl178_3;clear hi178_3 hl178_3;replace p178:=eq_true p178;replace q178:=eq_true q178) | (go_at_call 66;(with_reducible refine (context_plain.calls ((rd_T46 l0 (ji7)).f0) ((rd_T46 l0 (ji7)).f1) ((rd_T46 l0 (ji7)).f2) _ _ ((rd_T46 l0 (ji7)).f3) ((rd_T46 l0 (ji7)).f4) 2 (⟨#[116,101,120,116,97,114,101,97]⟩:ByteArray) 0 t179 _ ?side1 ?side2 A10.out).mono ?_);(case side1=>repeat (first|exact (Kd.C_below HR178_3.out HB.out) | (with_reducible refine Kd.C_alloc ?_ _) | (with_reducible refine Kd.C_drewN ?_ _) | (with_reducible refine Kd.C_drew ?_)));(case side2=>exact HC178_3.out);rintro e w12 ⟨rfl,hb⟩;have n0_:=Aside0.mk (below_step (by repeat (first | (with_reducible first|exact HB.out|apply below_alloc|apply pw_below_drewN|apply below_drew1)|exact HB.out)) hb);clear HB;have HB:=n0_;clear n0_;(try clear hb);(try clear hb2);(try clear hk);(try clear hi)))
            subst hji7
            go_meet
            case rel=>exact ⟨_,(!t179),(by first|rfl | (simp;done) | (simp [*];done)),H',⟨by first|omega|exact Nat.le_refl _⟩,⟨by repeat (first | (with_reducible first|exact HB.out|apply below_alloc|apply pw_below_drewN|apply below_drew1)|exact HB.out)⟩⟩
          · rw [if_neg c9] at H
            exact absurd H (by simp)
        · rw [if_neg c8] at H
          exact absurd H (by simp)
      · replace c6:=Bool.eq_false_iff.mpr c6
        subst c6
        have H1:(context_within.j0 k l0 (wrap64 ((l0.length:Int) - 1)) true)=some (r1,r2):=by rw [if_neg (show ¬ (false=true) by decide)] at H;exact H
        clear H
        have H:=H1
        clear H1
        have H':=Aside0.mk H
        clear H
        have p176:0≤(0:Int):=(by omega)
        have q176:0<(l0.length:Int):=of_decide_eq_true (by first | (with_reducible assumption)|assumption)
        obtain ⟨ad176,A176_3,c176_3,e176,hx176_0,hx176_1,hx176_2,hx176_3,hx176_4,hl176_3,hi176_3⟩:=at_T46 HR0.out 0 p176 q176
        cases e176
        have qi176:(0<l0.length)=True:=eq_true (by omega)
        (try rw [show ((0:Int)).toNat=0 from rfl] at hx176_0)
        (try rw [show 0*5=0 from rfl] at hx176_0)
        (try rw [Addr.add_zero'] at hx176_0)
        (try rw [show ((0:Int)).toNat=0 from rfl] at hx176_1)
        (try rw [show 0*5=0 from rfl] at hx176_1)
        (try rw [Addr.add_zero'] at hx176_1)
        (try rw [show ((0:Int)).toNat=0 from rfl] at hx176_2)
        (try rw [show 0*5=0 from rfl] at hx176_2)
        (try rw [Addr.add_zero'] at hx176_2)
        (try rw [show ((0:Int)).toNat=0 from rfl] at hx176_3)
        (try rw [show 0*5=0 from rfl] at hx176_3)
        (try rw [Addr.add_zero'] at hx176_3)
        (try rw [show ((0:Int)).toNat=0 from rfl] at hx176_4)
        (try rw [show 0*5=0 from rfl] at hx176_4)
        (try rw [Addr.add_zero'] at hx176_4)
        replace hx176_0:=(HB.out.cell (World.block_lt_of_cell? w _ hx176_0)).trans hx176_0
        replace hx176_1:=(HB.out.cell (World.block_lt_of_cell? w _ hx176_1)).trans hx176_1
        replace hx176_2:=(HB.out.cell (World.block_lt_of_cell? w _ hx176_2)).trans hx176_2
        replace hx176_3:=(HB.out.cell (World.block_lt_of_cell? w _ hx176_3)).trans hx176_3
        replace hx176_4:=(HB.out.cell (World.block_lt_of_cell? w _ hx176_4)).trans hx176_4
        have HR176_3:=Aside0.mk hi176_3
        have HC176_3:=Aside0.mk hl176_3
        clear hi176_3 hl176_3
        replace p176:=eq_true p176
        replace q176:=eq_true q176
        go_wp2_with (first | (go_at_call 66;(with_reducible refine (context_plain.calls ((rd_T46 l0 0).f0) ((rd_T46 l0 0).f1) ((rd_T46 l0 0).f2) _ _ ((rd_T46 l0 0).f3) ((rd_T46 l0 0).f4) 1 (⟨#[116,101,120,116,97,114,101,97]⟩:ByteArray) 0 false _ ?side1 ?side2 A5.out).mono ?_);(case side1=>repeat (first|exact (Kd.C_below HR176_3.out HB.out) | (with_reducible refine Kd.C_alloc ?_ _) | (with_reducible refine Kd.C_drewN ?_ _) | (with_reducible refine Kd.C_drew ?_)));(case side2=>exact HC176_3.out);rintro e w13 ⟨rfl,hb⟩;have n0_:=Aside0.mk (below_step (by repeat (first | (with_reducible first|exact HB.out|apply below_alloc|apply pw_below_drewN|apply below_drew1)|exact HB.out)) hb);clear HB;have HB:=n0_;clear n0_;(try clear hb);(try clear hb2);(try clear hk);(try clear hi)))
        go_meet
        case rel=>exact ⟨_,(true),(by first|rfl | (simp;done) | (simp [*];done)),H',⟨by first|omega|exact Nat.le_refl _⟩,⟨by repeat (first | (with_reducible first|exact HB.out|apply below_alloc|apply pw_below_drewN|apply below_drew1)|exact HB.out)⟩⟩
    · rw [if_neg c4] at H
      exact absurd H (by simp)
 case rest =>
  clear HC2
  try clear c1
  try clear p1
  try clear q1
  try clear hx1
  try clear qi1
  try clear p2
  try clear c3
  try clear c3b0
  try clear c4
  try clear c4b0
  try clear c4b1
  try clear c6
  try clear p6
  try clear c8
  try clear c8b0
  try clear c9
  try clear c9b0
  try clear hx176_0
  try clear hx176_1
  try clear hx176_2
  try clear hx176_3
  try clear hx176_4
  try clear hx178_0
  try clear hx178_1
  try clear hx178_2
  try clear hx178_3
  try clear hx178_4
  try clear p176
  try clear p178
  try clear q176
  try clear q178
  obtain ⟨kq,x24_1,rfl,HA,HJ1,HB⟩:=hcut
  cases kq with
  | zero=>exact absurd HA.out (by simp [context_within.j0])
  | succ kj1 =>
    have H:=HA.out
    clear HA
    simp only [context_within.j0] at H
    by_cases c14:x24_1=true
    · subst c14
      have H1:(some ((⟨#[]⟩:ByteArray),false))=some (r1,r2):=by rw [if_pos rfl] at H;exact H
      clear H
      have H:=H1
      clear H1
      simp only [Option.some.injEq,Prod.mk.injEq] at H
      obtain ⟨rfl,rfl⟩:=H
      go_wp2
      go_ret2
      exact ⟨by first|rfl | (simp [errW_none,errW_some]<;>rfl) | (simp [*,errW_none,errW_some]<;>rfl),by repeat (first | (with_reducible first|exact HB.out|apply below_alloc|apply pw_below_drewN|apply below_drew1)|exact HB.out)⟩
    · replace c14:=Bool.eq_false_iff.mpr c14
      subst c14
      have H1:(if 1≤(wrap64 ((l0.length:Int) - 1)) then (if (wrap64 ((l0.length:Int) - 1))≤(l0.length:Int) then ((context_only.f ((l0.take ((wrap64 ((l0.length:Int) - 1)):Int).toNat).drop 1)).bind fun bt184=>((strings_TrimPrefix.f bt184.1 (⟨#[10]⟩:ByteArray)).bind fun t186=>(some (t186,bt184.2)))) else (none)) else (none))=some (r1,r2):=by rw [if_neg (show ¬ (false=true) by decide)] at H;exact H
      clear H
      have H:=H1
      clear H1
      by_cases c15:1≤(wrap64 ((l0.length:Int) - 1))
      · rw [if_pos c15] at H
        have c15b0:=eq_true c15
        have c15b1:decide (1≤(wrap64 ((l0.length:Int) - 1)))=true:=decide_eq_true c15
        clear c15
        by_cases c16:(wrap64 ((l0.length:Int) - 1))≤(l0.length:Int)
        · rw [if_pos c16] at H
          have c16b0:=eq_true c16
          have c16b1:decide ((wrap64 ((l0.length:Int) - 1))≤(l0.length:Int))=true:=decide_eq_true c16
          clear c16
          obtain ⟨y180,hy180⟩:∃ y_:List (S46),y_=((l0.take ((wrap64 ((l0.length:Int) - 1)):Int).toNat).drop 1):=⟨_,rfl⟩
          replace H:((context_only.f y180).bind fun bt184=>((strings_TrimPrefix.f bt184.1 (⟨#[10]⟩:ByteArray)).bind fun t186=>(some (t186,bt184.2))))=some (r1,r2):=by first | (rw [hy180];with_reducible exact H) | (have H2_:=(Option.bind_some _ _).symm.trans H;rw [hy180];with_reducible exact H2_) | (have H2_:=(Option.bind_some _ _).symm.trans H;with_reducible exact H2_)|with_reducible exact H | (rw [hy180];exact H)|exact H
          have Ny180:=Aside0.mk hy180
          clear hy180
          replace H:=Option.bind_eq_some_iff.mp H
          obtain ⟨⟨t184,t185⟩,A170,H⟩:=H
          replace H:((strings_TrimPrefix.f t184 (⟨#[10]⟩:ByteArray)).bind fun t186=>(some (t186,t185)))=some (r1,r2):=H
          have A17:=Aside0.mk A170
          clear A170
          replace H:=Option.bind_eq_some_iff.mp H
          obtain ⟨t186,A180,H⟩:=H
          replace H:(some (t186,t185))=some (r1,r2):=H
          have A18:=Aside0.mk A180
          clear A180
          simp only [Option.some.injEq,Prod.mk.injEq] at H
          obtain ⟨rfl,rfl⟩:=H
          have q19:((wrap64 ((l0.length:Int) - 1)):Int)≤((l0.length:Int):Int):=of_decide_eq_true (by first | (with_reducible assumption)|assumption)
          obtain ⟨i019,hi019,_,hsz19,_⟩:=info_parts info46
          have hroom19:l0.length≤c0:=HC0.out
          have hC19:Kd.C k46 _ A0 l0.length l0:=HR0.out
          have ql19:(1:Int)≤((wrap64 ((l0.length:Int) - 1)):Int):=of_decide_eq_true (by first | (with_reducible assumption)|assumption)
          have hcut19:=cut_mid (P:=Tryz.prog) 42 46 .i64 .i64 Tryz.underlying42 hi019 5 hsz19 A0 l0.length c0 1 (wrap64 ((l0.length:Int) - 1)) (by omega) ql19 q19 hroom19
          have hr19:=Kd.C_mid (lo:=(1:Int).toNat) (hi:=((wrap64 ((l0.length:Int) - 1)):Int).toNat) (c:=c0) hC19 (by omega) (by omega) hroom19
          obtain ⟨A19,hA19⟩:∃ A1,A1=(if c0=(1:Int).toNat then A0 else (A0:Option Addr).map (·.add ((1:Int).toNat*5))):=⟨_,rfl⟩
          obtain ⟨c19,hc19⟩:∃ c1,c1=c0 - (1:Int).toNat:=⟨_,rfl⟩
          have hy19:y180.length=((wrap64 ((l0.length:Int) - 1)):Int).toNat - (1:Int).toNat:=(by rw [Ny180.out,List.length_drop,List.length_take]<;>omega)
          rw [show ((l0).take ((wrap64 ((l0.length:Int) - 1)):Int).toNat).drop (1:Int).toNat=y180 from Ny180.out.symm] at hr19
          replace hr19:Kd.C k46 _ A19 y180.length y180:=(by rw [hA19];exact hr19)
          rw [← hy19,← hA19,← hc19] at hcut19
          have HR183:=Aside0.mk hr19
          have HC183:=Aside0.mk (show y180.length≤c19 from by rw [hy19,hc19];exact Nat.sub_le_sub_right (Nat.le_trans (by omega) hroom19) _)
          clear hr19 hC19 hroom19 hi019 hsz19 hc19
          have KY19:=Aside0.mk hy19
          have KA19:=Aside0.mk hA19
          clear hy19 hA19
          replace q19:=eq_true q19
          go_wp2_with (first | ((with_reducible refine gate_callee (f:=39) rfl ?_);refine goesL_ (some 29) rfl rfl Tryz.func39 (by kernel_rfl) rfl #[.slice A19 y180.length c19] rfl (by (try simp only [List.map_toArray,List.map_cons,List.map_nil]);first|done|rfl | (simp only [List.length_drop,List.length_take];rfl)) ?_;(with_reducible refine (context_only.calls _ _ y180 t184 t185 _ ?side1 ?side2 A17.out).mono ?_);(case side1=>repeat (first|exact (Kd.C_below HR183.out HB.out) | (with_reducible refine Kd.C_alloc ?_ _) | (with_reducible refine Kd.C_drewN ?_ _) | (with_reducible refine Kd.C_drew ?_)));(case side2=>exact HC183.out);rintro e w' ⟨rfl,⟨nd,rfl⟩⟩;refine ⟨_,rfl,?_⟩) | ((with_reducible refine gate_callee (f:=42) rfl ?_);refine goesL_ (some 33) rfl rfl Tryz.func42 (by kernel_rfl) rfl #[.string t184,.string (⟨#[10]⟩:ByteArray)] rfl (by (try simp only [List.map_toArray,List.map_cons,List.map_nil]);first|done|rfl | (simp only [List.length_drop,List.length_take];rfl)) ?_;(with_reducible refine (strings_TrimPrefix.calls t184 (⟨#[10]⟩:ByteArray) t186 _ A18.out).mono ?_);rintro e w' ⟨rfl,⟨nd,rfl⟩⟩;refine ⟨_,rfl,?_⟩))
          go_ret2
          exact ⟨by first|rfl | (simp [errW_none,errW_some]<;>rfl) | (simp [*,errW_none,errW_some]<;>rfl),by repeat (first | (with_reducible first|exact HB.out|apply below_alloc|apply pw_below_drewN|apply below_drew1)|exact HB.out)⟩
        · rw [if_neg c16] at H
          exact absurd H (by simp)
      · rw [if_neg c15] at H
        exact absurd H (by simp)
end Go.Proofs.YtcecjoaeolglbaaGreatDoor.St
end

section
namespace Go.Proofs.YtcecjoaeolglbaaGreatDoor.Pure
open Go Go.RowKit Go.Proofs.YtcecjoaeolglbaaGreatDoor.K0 Go.Proofs.YtcecjoaeolglbaaGreatDoor.Hand Go.Proofs.YtcecjoaeolglbaaGreatDoor.Sa Go.Proofs.YtcecjoaeolglbaaGreatDoor.Si Go.Proofs.YtcecjoaeolglbaaGreatDoor.St Go.Proofs.YtcecjoaeolglbaaGreatDoorW.PrintWords Go.Proofs.YtcecjoaeolglbaaGreatDoorW.PrintMore Go.Proofs.YtcecjoaeolglbaaGreatDoor.Pl Go.Proofs.YtcecjoaeolglbaaGreatDoor.Pb
theorem only_f (l:List Tk):context_only.f (l.map ofK)=some (B (onlyL l).1,(onlyL l).2):=by
 match l with
 | []=>rfl
 | [t] =>
   unfold context_only.f
   rw [if_neg (by simp),if_pos (by simp),if_pos (by simp),show rd_T46 ([t].map ofK) 0=ofK t from rd_map (l:=[t]) (i:=0) (by simp)]
   cases t<;>rfl
 | t::u::r =>
   unfold context_only.f
   rw [if_neg (by simp;omega),if_neg (by simp;omega)]
   cases t<;>rfl
theorem B_eq_iff (x y:List UInt8):(B x).toList=(B y).toList↔x=y:=by rw [toList_data,toList_data,B_data,B_data]
theorem plain_start (k:Int) (n x:List UInt8) (al:List AttrT) (self:Bool) (k2:Int) (n2:List UInt8) (m:Int) :
  context_plain.f k (B n) (B x) (al.map ofT) self k2 (B n2) m=some (decide (k=k2)&&decide (n=n2)&&decide ((al.length:Int)=m) && !self):=by
 unfold context_plain.f
 by_cases h1:k=k2
 · rw [if_pos h1,decide_eq_true h1]
   by_cases h2:n=n2
   · rw [if_pos ((B_eq_iff n n2).2 h2),decide_eq_true h2,List.length_map]
     by_cases h3:(al.length:Int)=m
     · rw [if_pos h3,decide_eq_true h3];rfl
     · rw [if_neg h3,decide_eq_false h3];rfl
   · rw [if_neg (fun e=>h2 ((B_eq_iff n n2).1 e)),decide_eq_false h2];rfl
 · rw [if_neg h1,decide_eq_false h1];rfl
theorem plain_tk (t:Tk) (k2:Int) (n2:List UInt8) (m:Int):context_plain.f (ofK t).f0 (ofK t).f1 (ofK t).f2 (ofK t).f3 (ofK t).f4 k2 (B n2) m =
 some (decide ((tkC t).1=k2)&&decide ((tkC t).2.1=n2)&&decide (((tkC t).2.2.2.1.length:Int)=m) && !(tkC t).2.2.2.2):=plain_start _ _ _ _ _ _ _ _
theorem value_f (l:List Tk):context_value.f (l.map ofK)=some (B (valueL l).1,(valueL l).2):=by
 have bad:∀ l:List Tk,valueL l=([],false)→some ((⟨#[]⟩:ByteArray),false)=some (B (valueL l).1,(valueL l).2):=fun l h=>by rw [h];rfl
 by_cases h1:l.length=1
 · obtain ⟨t,rfl⟩:=List.length_eq_one_iff.1 h1
   unfold context_value.f
   rw [if_pos (by simp),if_pos (by simp),show rd_T46 ([t].map ofK) 0=ofK t from rd_map (l:=[t]) (i:=0) (by simp)]
   rw [show (⟨#[97]⟩:ByteArray)=B [97] from rfl,plain_tk,Option.bind_some]
   cases t with
   | start n al self =>
     match al with
     | []=>rw [if_neg (by simp [tkC])];exact bad _ rfl
     | a::b::r=>rw [if_neg (by show ¬ ((decide ((1:Int)=1)&&decide (n=[97])&&decide ((((a::b::r).length:Nat):Int)=1) && !self)=true);rw [decide_eq_false (show ¬ ((((a::b::r).length:Nat):Int)=1) by simp only [List.length_cons];omega)];simp)];exact bad _ rfl
     | [a] =>
       obtain ⟨an,av⟩:=a
       cases self with
       | true=>rw [if_neg (by simp [tkC])];exact bad _ rfl
       | false =>
         by_cases hn:n=[97]
         · subst hn
           rw [if_pos (by simp [tkC]),if_pos (by simp [ofK,tkC])]
           have hT:(rd_T87 (ofK (Tk.start [97] [(an,av)] false)).f3 0).f0.toList=an:=by show (B an).toList=an;rw [toList_data,B_data]
           rw [hT]
           by_cases ha:an=[120]
           · subst ha
             rw [if_pos rfl];rfl
           · rw [if_neg ha]
             refine bad _ ?_
             simp only [valueL,if_neg (fun e:_∧an=[120]=>ha e.2)]
         · rw [if_neg (by simp [tkC,hn])]
           refine bad _ ?_
           simp only [valueL,if_neg (fun e:n=[97]∧_=>hn e.1)]
   | text s=>rw [if_neg (by simp [tkC])];exact bad _ rfl
   | fin n=>rw [if_neg (by simp [tkC])];exact bad _ rfl
   | comment s=>rw [if_neg (by simp [tkC])];exact bad _ rfl
   | doctype s=>rw [if_neg (by simp [tkC])];exact bad _ rfl
 · unfold context_value.f
   rw [if_neg (by rw [List.length_map];omega)]
   refine bad _ ?_
   match l,h1 with
   | [],_=>rfl
   | [t],h1=>exact absurd rfl h1
   | t::u::r,_ =>
     cases t with
     | start n al self =>
       unfold valueL
       split
       · rename_i h;simp at h
       · rfl
     | _=>rfl
theorem trim_f (x:List UInt8):strings_TrimPrefix.f (B x) ⟨#[10]⟩=some (B (trimN x)):=by
 unfold strings_TrimPrefix.f stringslite_TrimPrefix.f stringslite_HasPrefix.f
 have h1:((⟨#[10]⟩:ByteArray).size:Int)=1:=rfl
 rw [h1,size_B]
 cases x with
 | nil=>rfl
 | cons c r =>
   have e:(B (c::r)).extract 0 (1:Int).toNat=B [c]:=by show (B (c::r)).extract 0 1=_;rw [B_extract];simp
   have e2:(B (c::r)).extract (1:Int).toNat (c::r).length=B r:=by show (B (c::r)).extract 1 _=_;rw [B_extract];simp
   rw [if_pos (by simp only [List.length_cons];omega),if_pos (by decide),if_pos (by simp only [List.length_cons];omega),Option.bind_some,e,e2,show (⟨#[10]⟩:ByteArray)=B [10] from rfl]
   have hb:((B [c]).toList == (B [10]).toList)=(c == 10):=by
    rw [Bool.eq_iff_iff,beq_iff_eq,beq_iff_eq,B_eq_iff];simp
   rw [hb]
   by_cases hc:c=10
   · subst hc;rw [if_pos (by decide),if_pos (by decide),if_pos (by simp only [List.length_cons];omega)];rfl
   · rw [if_neg (by simpa using hc),Option.bind_some]
     simp only [trimN,if_neg hc]
theorem isAreaO_eq (t:Tk):(decide ((tkC t).1=1)&&decide ((tkC t).2.1=areaW)&&decide (((tkC t).2.2.2.1.length:Int)=0) && !(tkC t).2.2.2.2)=isAreaO (some t):=by
 cases t with
 | start n al self =>
   cases al with
   | nil =>
     cases self with
     | true=>simp [tkC,isAreaO]
     | false=>show (decide ((1:Int)=1)&&decide (n=areaW)&&decide (((([]:List AttrT).length:Nat):Int)=0) && !false)=(n == areaW);rw [Bool.eq_iff_iff];simp
   | cons a r =>
     show (decide ((1:Int)=1)&&decide (n=areaW)&&decide ((((a::r).length:Nat):Int)=0) && !self)=false
     rw [decide_eq_false (show ¬ ((((a::r).length:Nat):Int)=0) by simp only [List.length_cons];omega)];simp
 | _=>simp [tkC,isAreaO]
theorem isAreaC_eq (t:Tk):(decide ((tkC t).1=2)&&decide ((tkC t).2.1=areaW)&&decide (((tkC t).2.2.2.1.length:Int)=0) && !(tkC t).2.2.2.2)=isAreaC (some t):=by
 cases t with
 | fin n=>show (decide ((2:Int)=2)&&decide (n=areaW)&&decide (((([]:List AttrT).length:Nat):Int)=0) && !false)=(n == areaW);rw [Bool.eq_iff_iff];simp
 | _=>simp [tkC,isAreaC]
theorem mid_eq (l:List Tk) (n:Nat) (h:l.length=n+1):(l.take n).drop 1=l.tail.dropLast:=by
 cases l with
 | nil=>simp at h
 | cons t r =>
   rw [List.length_cons,Nat.add_right_cancel_iff] at h
   cases n with
   | zero=>rw [List.length_eq_zero_iff] at h;subst h;rfl
   | succ m =>
     show r.take m=r.dropLast
     rw [List.dropLast_eq_take,h];rfl
theorem within_ev (l:List Tk) (hl:l.length≤1000000):Ev (fun k=>context_within.f k (l.map ofK)) (B (withinL l).1,(withinL l).2):=by
 have hw:wrap64 (((l.map ofK).length:Int) - 1)=(l.length:Int) - 1:=by rw [List.length_map];unfold wrap64;omega
 have bad:∀ j:Int,withinL l=([],false)→Ev (fun k=>context_within.j0 k (l.map ofK) j true) (B (withinL l).1,(withinL l).2):=fun j h=>by
  rw [h]
  exact Ev.step (f:=fun _=>some (⟨#[]⟩,false)) (fun k=>by rw [context_within.j0,if_pos rfl]) (Ev.now _)
 unfold context_within.f
 simp only [hw]
 by_cases h2:2≤l.length
 · obtain ⟨n,hn⟩:∃ n,l.length=n+1:=⟨l.length - 1,by omega⟩
   have e1:(l.length:Int) - 1=(n:Int):=by omega
   have hlen:((l.map ofK).length:Int)=(l.length:Int):=by rw [List.length_map]
   have hh:l.head? = some l[0]:=by rw [List.head?_eq_getElem?,List.getElem?_eq_getElem (by omega)]
   have ht:l.getLast? = some l[n]:=by rw [List.getLast?_eq_getElem?,show l.length - 1=n by omega,List.getElem?_eq_getElem (by omega)]
   have n1:¬ (n:Int)<1:=by omega
   have q0:(0:Int)<((l.map ofK).length:Int):=by rw [hlen];omega
   have q1:(0:Int)≤(n:Int):=by omega
   have q2:(n:Int)<((l.map ofK).length:Int):=by rw [hlen];omega
   have r0:rd_T46 (l.map ofK) 0=ofK l[0]:=rd_map (i:=0) (by omega)
   have rn:rd_T46 (l.map ofK) (n:Int)=ofK l[n]:=rd_map (by omega)
   simp only [e1,if_neg n1,if_pos q0,if_pos q1,if_pos q2,r0,rn,show (⟨#[116,101,120,116,97,114,101,97]⟩:ByteArray)=B areaW from rfl,plain_tk,Option.bind_some,isAreaO_eq,isAreaC_eq]
   cases ho:isAreaO (some l[0]) with
   | false =>
     simp only [Bool.false_eq_true,if_false]
     refine bad _ ?_
     unfold withinL
     rw [hh,ho,if_neg (by simp)]
   | true =>
     simp only [if_true]
     cases hc:isAreaC (some l[n]) with
     | false =>
       refine bad _ ?_
       unfold withinL
       rw [ht,hc,if_neg (by simp)]
     | true =>
       have hwl:withinL l=(trimN (onlyL l.tail.dropLast).1,(onlyL l.tail.dropLast).2):=by
        unfold withinL
        rw [hh,ho,ht,hc,if_pos ⟨h2,rfl,rfl⟩]
       rw [hwl]
       refine Ev.step (f:=fun _=>some (B (trimN (onlyL l.tail.dropLast).1),(onlyL l.tail.dropLast).2)) (fun k => ?_) (Ev.now _)
       have hsl:(List.take ((n:Int)).toNat (l.map ofK)).drop 1=(l.tail.dropLast).map ofK:=by
        rw [Int.toNat_natCast,← List.map_take,← List.map_drop]
        rw [mid_eq l n hn]
       rw [context_within.j0,if_neg (by decide),if_pos (by omega),if_pos (by rw [hlen];omega),hsl,only_f,Option.bind_some,trim_f,Option.bind_some]
 · have n1:(l.length:Int) - 1<1:=by omega
   simp only [if_pos n1]
   refine bad _ ?_
   unfold withinL
   rw [if_neg (fun e=>h2 e.1)]
end Go.Proofs.YtcecjoaeolglbaaGreatDoor.Pure
end

section
namespace Go.Proofs.YtcecjoaeolglbaaGreatDoor.Hand
open Go Go.RowKit Go.Proofs.YtcecjoaeolglbaaGreatDoor.K0 Go.Proofs.YtcecjoaeolglbaaGreatDoor.Pl Go.Proofs.YtcecjoaeolglbaaGreatDoor.Pb Go.Proofs.YtcecjoaeolglbaaGreatDoor.Sa Go.Proofs.YtcecjoaeolglbaaGreatDoor.St Go.Proofs.YtcecjoaeolglbaaGreatDoor.Pure Go.Proofs.YtcecjoaeolglbaaGreatDoorW.PrintWords Go.Proofs.YtcecjoaeolglbaaGreatDoorW.PrintLast Go.Proofs.YtcecjoaeolglbaaGreatDoorW.PrintMore
theorem big_no {n k:Nat} (h:n≤1000000) (hk:k≤1000):(9223372036854775807<k+n)=False:=eq_false (by omega)
theorem big_no2 {n k j:Nat} (h:n≤1000000) (hk:k≤1000) (hj:j≤1000):(9223372036854775807<k+n+j)=False:=eq_false (by omega)
set_option maxRecDepth 100000 in
set_option maxHeartbeats 4000000 in
theorem wrapB_c (d:Int) (single:Bool) (a:ByteArray) (ha:a.size≤1000000) (w:World) :
  Calls Tryz.prog 37 #[.int .i64 d,.bool single,.string a] w fun e w'=>e = .returned (.string (if d=0 then a else if d=1 then ⟨#[60,97,32,120,61]⟩++B [qB single]++a++B [qB single]++⟨#[62]⟩ else if d=2 then ⟨#[60,116,101,120,116,97,114,101,97,62]⟩++a++⟨#[60,47]⟩++⟨#[116,101,120,116,97,114,101,97]⟩++⟨#[62]⟩ else ⟨#[]⟩))∧Below w.heap.size w w':=by
 have f6:=big_no ha (show 6≤1000 by decide)
 have f61:=big_no2 ha (show 6≤1000 by decide) (show 1≤1000 by decide)
 have f611:=big_no2 ha (show 6≤1000 by decide) (show 1+1≤1000 by decide)
 have f612:=big_no2 ha (show 6≤1000 by decide) (show 2≤1000 by decide)
 have f10:=big_no ha (show 10≤1000 by decide)
 have f102:=big_no2 ha (show 10≤1000 by decide) (show 2≤1000 by decide)
 have fA:(9223372036854775807<6+a.size+1+1)=False:=eq_false (by omega)
 have fB:(9223372036854775807<10+a.size+2+8)=False:=eq_false (by omega)
 have fC:(9223372036854775807<10+a.size+2+8+1)=False:=eq_false (by omega)
 clear ha
 by_cases h0:d=0
 · rw [if_pos h0]
   subst h0
   cases single<;>(
    go_enter Tryz.func37,Tryz.ntmps37
    go_wp2_with fail
    go_ret
    exact ⟨rfl,Below.refl _ _⟩)
 · have n0:(d == 0)=false:=beq_eq_false_iff_ne.2 h0
   rw [if_neg h0]
   by_cases h1:d=1
   · rw [if_pos h1]
     subst h1
     cases single<;>(
      go_enter Tryz.func37,Tryz.ntmps37
      go_wp2_with fail
      go_ret
      exact ⟨rfl,Below.refl _ _⟩)
   · have n1:(d == 1)=false:=beq_eq_false_iff_ne.2 h1
     rw [if_neg h1]
     by_cases h2:d=2
     · rw [if_pos h2]
       subst h2
       cases single<;>(
        go_enter Tryz.func37,Tryz.ntmps37
        go_wp2_with fail
        go_ret
        exact ⟨rfl,Below.refl _ _⟩)
     · have n2:(d == 2)=false:=beq_eq_false_iff_ne.2 h2
       rw [if_neg h2]
       cases single<;>(
        go_enter Tryz.func37,Tryz.ntmps37
        go_wp2_with fail
        go_ret
        exact ⟨rfl,Below.refl _ _⟩)
theorem wrap_c (d:Int) (single:Bool) (s:List UInt8) (hs:s.length≤1000000) (w:World) :
  Calls Tryz.prog 37 #[.int .i64 d,.bool single,.string (B s)] w fun e w'=>e = .returned (.string (B (wrapL d single s)))∧Below w.heap.size w w':=by
 have h:=wrapB_c d single (B s) (by rw [size_B];exact hs) w
 have e:(if d=0 then B s else if d=1 then (⟨#[60,97,32,120,61]⟩:ByteArray)++B [qB single]++B s++B [qB single]++⟨#[62]⟩ else if d=2 then ⟨#[60,116,101,120,116,97,114,101,97,62]⟩++B s++⟨#[60,47]⟩++⟨#[116,101,120,116,97,114,101,97]⟩++⟨#[62]⟩ else ⟨#[]⟩)=B (wrapL d single s):=by
  unfold wrapL
  split
  · rfl
  · split
    · show B [60,97,32,120,61]++B [qB single]++B s++B [qB single]++B [62]=_
      simp only [B_append]
      congr 1
      simp [attrO]
    · split
      · show B [60,116,101,120,116,97,114,101,97,62]++B s++B [60,47]++B [116,101,120,116,97,114,101,97]++B [62]=_
        simp only [B_append]
        congr 1
        simp [areaO,areaC]
      · rfl
 rw [e] at h
 exact h
theorem wrapL_length (d:Int) (single:Bool) (s:List UInt8):(wrapL d single s).length≤s.length+30:=by
 unfold wrapL
 repeat' split
 all_goals simp [attrO,areaO,areaC]
abbrev PxC (w:World) (ab d:Nat) (F:Value) (W:World):Prop:=(Glob W∧Below w.heap.size w W)∧W.cell? ⟨ab,d,none⟩=some F
theorem PxC.call {w:World} {ab d:Nat} {F:Value} {W W':World} (hb:Below W.heap.size W W') (h:PxC w ab d F W):PxC w ab d F W' :=
 ⟨⟨h.1.1.step hb,h.1.2.trans (hb.mono h.1.2.size)⟩,(hb.cell (World.block_lt_of_cell? W _ h.2)).trans h.2⟩
def pkL (d:Nat) (l:List Tk):List UInt8×Bool:=if d=0 then onlyL l else if d=1 then valueL l else withinL l
def pkF (d:Nat):Nat:=if d=0 then 39 else if d=1 then 40 else 41
theorem pk_c (d:Nat) (l:List Tk) (hl:l.length≤1000000) (W:World) (v:Value) (b:Nat) (ok:Nat→Prop) (hV:Kd.V tkK 46 W b ok v (l.map ofK)) :
  Calls Tryz.prog (pkF d) #[v] W fun e w'=>e = .returned (.tuple #[.string (B (pkL d l).1),.bool (pkL d l).2])∧Below W.heap.size W w':=by
 obtain ⟨A,c,rfl⟩:=Kd.V_slice hV
 obtain ⟨_,h1,h2⟩:=Kd.V_reads' hV
 unfold pkF pkL
 by_cases h0:d=0
 · rw [if_pos h0,if_pos h0]
   exact (context_only.calls A c (l.map ofK) _ _ W h2 h1 (only_f l)).mono fun e w' h=>⟨h.1,h.2.below⟩
 · rw [if_neg h0,if_neg h0]
   by_cases h3:d=1
   · rw [if_pos h3,if_pos h3]
     exact context_value.calls A c (l.map ofK) _ _ W h2 h1 (value_f l)
   · rw [if_neg h3,if_neg h3]
     obtain ⟨k,hk⟩:=(within_ev l hl).rounds
     exact context_within.calls k A c (l.map ofK) _ _ W h2 h1 hk
set_option maxRecDepth 100000 in
set_option maxHeartbeats 16000000 in
theorem parse_in (d:Nat) (hd:d<3) (single:Bool) (s:List UInt8) (hs:s.length≤20000) (w:World) (hGl:Glob w) :
  Calls Tryz.prog 18 #[.int .i64 (d:Int),.bool single,.string (B s)] w fun e w'=>e = .returned (.tuple #[.string (B (pkL d (driveL (normL (wrapL d single s)))).1),.bool (pkL d (driveL (normL (wrapL d single s)))).2])∧Below w.heap.size w w':=by
 have hwl:=wrapL_length (d:Int) single s
 have hnl:=normL_length (wrapL (d:Int) single s)
 have WR:=Lib.hid (fun W=>wrap_c (d:Int) single s (by omega) W)
 have NR:Hid (∀ W,Calls Tryz.prog 24 #[.string (B (wrapL (d:Int) single s))] W fun e w'=>e = .returned (.string (B (normL (wrapL (d:Int) single s))))∧Below W.heap.size W w'):=Lib.hid (fun W=>by
  have:=norm_any (B (wrapL (d:Int) single s)) W (by rw [size_B];omega)
  rw [B_data] at this
  exact this)
 have DR:=Lib.hid (fun W hG=>drive_c (normL (wrapL (d:Int) single s)) (by omega) W hG)
 have hdl:(driveL (normL (wrapL (d:Int) single s))).length≤1000000:=by
  have h1:=(drv_bd _ (normL (wrapL (d:Int) single s)) (Nat.le_refl _)).2
  have h2:=jn_len (drvL (normL (wrapL (d:Int) single s))) (drvL (normL (wrapL (d:Int) single s))).length
  have h3:jn (drvL (normL (wrapL (d:Int) single s))) (drvL (normL (wrapL (d:Int) single s))).length=driveL (normL (wrapL (d:Int) single s)):=by unfold jn driveL;rw [List.take_length,join_eq]
  rw [h3] at h2
  omega
 have PK:=Lib.hid (fun W v b ok hV=>pk_c d (driveL (normL (wrapL (d:Int) single s))) hdl W v b ok hV)
 generalize driveL (normL (wrapL (d:Int) single s))=L at DR PK ⊢
 generalize normL (wrapL (d:Int) single s)=S2 at NR DR
 obtain ⟨a1,h1⟩:∃ a,B (wrapL (d:Int) single s)=a:=⟨_,rfl⟩
 obtain ⟨a2,h2⟩:∃ a,B S2=a:=⟨_,rfl⟩
 obtain ⟨a0,h0⟩:∃ a,B s=a:=⟨_,rfl⟩
 rw [h1] at WR NR
 rw [h2] at NR DR
 rw [h0] at WR ⊢
 obtain ⟨⟨r1,r2⟩,hr⟩:∃ r,pkL d L=r:=⟨_,rfl⟩
 rw [hr] at PK ⊢
 dsimp only at PK ⊢
 obtain ⟨r1,hr1⟩:∃ r,B r1=r:=⟨_,rfl⟩
 rw [hr1] at PK ⊢
 clear hr1 hr h0 h1 h2 hwl hnl hdl
 have HS0:∀ (j:Nat) F,j=d→(#[Value.func (.func 39) #[] #[],.func (.func 40) #[] #[],.func (.func 41) #[] #[]]:Array Value)[j]? = some F→PxC w w.heap.size d F (((w.alloc (.cells #[.nilFunc,.nilFunc,.nilFunc] 51)).setRow w.heap.size #[Value.func (.func 39) #[] #[],.func (.func 40) #[] #[],.func (.func 41) #[] #[]]).drew):=fun j F hj hF=>by
  subst hj
  have hb:Below w.heap.size w ((w.alloc (.cells #[.nilFunc,.nilFunc,.nilFunc] 51)).setRow w.heap.size #[Value.func (.func 39) #[] #[],.func (.func 40) #[] #[],.func (.func 41) #[] #[]]):=by rw [World.setRow_alloc_new];exact below_alloc (Below.refl _ _) _
  exact ⟨⟨hGl.step (below_drew hb),below_drew hb⟩,(cell_setRow_same _ _ _ _ _ _ _ (heap_alloc_last w _)).trans hF⟩
 have HG:=Lib.hid hGl
 clear hs hGl
 have hd3:d=0∨d=1∨d=2:=by omega
 clear hd
 rcases hd3 with rfl|rfl|rfl
 · have HS1:PxC w w.heap.size 0 (.func (.func 39) #[] #[]) (((w.alloc (.cells #[.nilFunc,.nilFunc,.nilFunc] 51)).setRow w.heap.size #[Value.func (.func 39) #[] #[],.func (.func 40) #[] #[],.func (.func 41) #[] #[]]).drew):=HS0 0 _ rfl rfl
   have e0:((0:Nat):Int)=0:=rfl
   rw [e0] at WR ⊢
   have HS2:=Lib.hid HS1
   clear HS0 HS1 e0
   go_enter Tryz.func18,Tryz.ntmps18
   go_wp2_with (first | (refine wpList_store_row rfl 51 (.tmp 8) (.tmp 9) rfl w.heap.size #[Value.func (.func 39) #[] #[],.func (.func 40) #[] #[],.func (.func 41) #[] #[]] rfl rfl 51 #[.nilFunc,.nilFunc,.nilFunc] (heap_alloc_last w _) (by kernel_rfl) rfl (by simp [Value.oneCell']) ?_))
   have HS:=HS2.out
   go_region_held3 (fun W=>(Glob W∧Below w.heap.size w W)∧W.cell? ⟨w.heap.size,0,none⟩=some (.func (.func 39) #[] #[])) (first|with_reducible assumption|with_reducible exact HS|exact PxC.call hb (by with_reducible assumption)) (first | (go_at_call 37;with_reducible refine (WR.out _).mono ?_;rintro e w' ⟨rfl,hb⟩) | (go_at_call 24;with_reducible refine (NR.out _).mono ?_;rintro e w' ⟨rfl,hb⟩) | (go_at_call 33;with_reducible refine (DR.out _ (And.left (And.left (by with_reducible assumption:PxC w w.heap.size 0 (.func (.func 39) #[] #[]) _)))).mono ?_;rintro e w' ⟨⟨v,rfl,hV⟩,hb⟩) | (go_at_call 39;refine (PK.out _ v _ _ (by assumption)).mono ?_;rintro e w' ⟨rfl,hb⟩))
   have HB:=And.right (And.left (by with_reducible assumption:PxC w w.heap.size 0 (.func (.func 39) #[] #[]) w'))
   go_wp2_with fail
   go_ret2
   exact ⟨rfl,HB⟩
 · have HS1:PxC w w.heap.size 1 (.func (.func 40) #[] #[]) (((w.alloc (.cells #[.nilFunc,.nilFunc,.nilFunc] 51)).setRow w.heap.size #[Value.func (.func 39) #[] #[],.func (.func 40) #[] #[],.func (.func 41) #[] #[]]).drew):=HS0 1 _ rfl rfl
   have e0:((1:Nat):Int)=1:=rfl
   rw [e0] at WR ⊢
   have HS2:=Lib.hid HS1
   clear HS0 HS1 e0
   go_enter Tryz.func18,Tryz.ntmps18
   go_wp2_with (first | (refine wpList_store_row rfl 51 (.tmp 8) (.tmp 9) rfl w.heap.size #[Value.func (.func 39) #[] #[],.func (.func 40) #[] #[],.func (.func 41) #[] #[]] rfl rfl 51 #[.nilFunc,.nilFunc,.nilFunc] (heap_alloc_last w _) (by kernel_rfl) rfl (by simp [Value.oneCell']) ?_))
   have HS:=HS2.out
   go_region_held3 (fun W=>(Glob W∧Below w.heap.size w W)∧W.cell? ⟨w.heap.size,1,none⟩=some (.func (.func 40) #[] #[])) (first|with_reducible assumption|with_reducible exact HS|exact PxC.call hb (by with_reducible assumption)) (first | (go_at_call 37;with_reducible refine (WR.out _).mono ?_;rintro e w' ⟨rfl,hb⟩) | (go_at_call 24;with_reducible refine (NR.out _).mono ?_;rintro e w' ⟨rfl,hb⟩) | (go_at_call 33;with_reducible refine (DR.out _ (And.left (And.left (by with_reducible assumption:PxC w w.heap.size 1 (.func (.func 40) #[] #[]) _)))).mono ?_;rintro e w' ⟨⟨v,rfl,hV⟩,hb⟩) | (go_at_call 40;refine (PK.out _ v _ _ (by assumption)).mono ?_;rintro e w' ⟨rfl,hb⟩))
   have HB:=And.right (And.left (by with_reducible assumption:PxC w w.heap.size 1 (.func (.func 40) #[] #[]) w'))
   go_wp2_with fail
   go_ret2
   exact ⟨rfl,HB⟩
 · have HS1:PxC w w.heap.size 2 (.func (.func 41) #[] #[]) (((w.alloc (.cells #[.nilFunc,.nilFunc,.nilFunc] 51)).setRow w.heap.size #[Value.func (.func 39) #[] #[],.func (.func 40) #[] #[],.func (.func 41) #[] #[]]).drew):=HS0 2 _ rfl rfl
   have e0:((2:Nat):Int)=2:=rfl
   rw [e0] at WR ⊢
   have HS2:=Lib.hid HS1
   clear HS0 HS1 e0
   go_enter Tryz.func18,Tryz.ntmps18
   go_wp2_with (first | (refine wpList_store_row rfl 51 (.tmp 8) (.tmp 9) rfl w.heap.size #[Value.func (.func 39) #[] #[],.func (.func 40) #[] #[],.func (.func 41) #[] #[]] rfl rfl 51 #[.nilFunc,.nilFunc,.nilFunc] (heap_alloc_last w _) (by kernel_rfl) rfl (by simp [Value.oneCell']) ?_))
   have HS:=HS2.out
   go_region_held3 (fun W=>(Glob W∧Below w.heap.size w W)∧W.cell? ⟨w.heap.size,2,none⟩=some (.func (.func 41) #[] #[])) (first|with_reducible assumption|with_reducible exact HS|exact PxC.call hb (by with_reducible assumption)) (first | (go_at_call 37;with_reducible refine (WR.out _).mono ?_;rintro e w' ⟨rfl,hb⟩) | (go_at_call 24;with_reducible refine (NR.out _).mono ?_;rintro e w' ⟨rfl,hb⟩) | (go_at_call 33;with_reducible refine (DR.out _ (And.left (And.left (by with_reducible assumption:PxC w w.heap.size 2 (.func (.func 41) #[] #[]) _)))).mono ?_;rintro e w' ⟨⟨v,rfl,hV⟩,hb⟩) | (go_at_call 41;refine (PK.out _ v _ _ (by assumption)).mono ?_;rintro e w' ⟨rfl,hb⟩))
   have HB:=And.right (And.left (by with_reducible assumption:PxC w w.heap.size 2 (.func (.func 41) #[] #[]) w'))
   go_wp2_with fail
   go_ret2
   exact ⟨rfl,HB⟩
set_option maxRecDepth 100000 in
theorem parse_out (d:Int) (hd:d<0∨2<d) (single:Bool) (a:ByteArray) (w:World) :
  Calls Tryz.prog 18 #[.int .i64 d,.bool single,.string a] w fun e w'=>e = .returned (.tuple #[.string ⟨#[]⟩,.bool false])∧Below w.heap.size w w':=by
 have hb:Below w.heap.size w ((w.alloc (.cells #[.nilFunc,.nilFunc,.nilFunc] 51)).setRow w.heap.size #[Value.func (.func 39) #[] #[],.func (.func 40) #[] #[],.func (.func 41) #[] #[]]):=by rw [World.setRow_alloc_new];exact below_alloc (Below.refl _ _) _
 have HB:=Lib.hid hb
 clear hb
 by_cases h:d<0
 · have q:decide (d<0)=true:=decide_eq_true h
   clear hd h
   go_enter Tryz.func18,Tryz.ntmps18
   go_wp2_with (first | (refine wpList_store_row rfl 51 (.tmp 8) (.tmp 9) rfl w.heap.size #[Value.func (.func 39) #[] #[],.func (.func 40) #[] #[],.func (.func 41) #[] #[]] rfl rfl 51 #[.nilFunc,.nilFunc,.nilFunc] (heap_alloc_last w _) (by kernel_rfl) rfl (by simp [Value.oneCell']) ?_))
   go_ret2
   exact ⟨rfl,HB.out⟩
 · have q:decide (d<0)=false:=decide_eq_false h
   have q2:decide (d≥3)=true:=decide_eq_true (by omega)
   have q3:decide (3≤d)=true:=decide_eq_true (by omega)
   clear hd h
   go_enter Tryz.func18,Tryz.ntmps18
   go_wp2_with (first | (refine wpList_store_row rfl 51 (.tmp 8) (.tmp 9) rfl w.heap.size #[Value.func (.func 39) #[] #[],.func (.func 40) #[] #[],.func (.func 41) #[] #[]] rfl rfl 51 #[.nilFunc,.nilFunc,.nilFunc] (heap_alloc_last w _) (by kernel_rfl) rfl (by simp [Value.oneCell']) ?_))
   go_ret2
   exact ⟨rfl,HB.out⟩
theorem parse_c (d:Int) (single:Bool) (s:List UInt8) (hs:s.length≤20000) (w:World) (hGl:Glob w) :
  Calls Tryz.prog 18 #[.int .i64 d,.bool single,.string (B s)] w fun e w'=>e = .returned (.tuple #[.string (B (parseL d single s).1),.bool (parseL d single s).2])∧Below w.heap.size w w':=by
 by_cases h:d<0∨2<d
 · have e:parseL d single s=([],false):=by unfold parseL;rw [if_neg (by omega),if_neg (by omega),if_neg (by omega)]
   rw [e]
   exact parse_out d h single _ w
 · obtain ⟨n,rfl⟩:=Int.eq_ofNat_of_zero_le (show 0≤d by omega)
   have hn:n<3:=by omega
   have e:parseL (n:Int) single s=pkL n (driveL (normL (wrapL n single s))):=by
    unfold parseL pkL
    by_cases h0:n=0
    · rw [if_pos (by omega),if_pos h0]
    · rw [if_neg (by omega),if_neg h0]
      by_cases h1:n=1
      · rw [if_pos (by omega),if_pos h1]
      · rw [if_neg (by omega),if_neg h1,if_pos (by omega)]
   rw [e]
   exact parse_in n hn single s hs w hGl
end Go.Proofs.YtcecjoaeolglbaaGreatDoor.Hand
end

section
namespace Go.Proofs.YtcecjoaeolglbaaGreatDoor.Pl
open Go Go.Proofs.YtcecjoaeolglbaaGreatDoor.Hand
structure Fl where
 told:List UInt8
 ends:Nat
 bl:List UInt8
structure Pg where
 fl:Fl
 op:List (List UInt8)
 kept:Nat
end Go.Proofs.YtcecjoaeolglbaaGreatDoor.Pl
end

section
namespace Go.Proofs.YtcecjoaeolglbaaGreatDoor.Hand
open Go Go.RowKit Go.Proofs.YtcecjoaeolglbaaGreatDoor.Pl Go.Proofs.YtcecjoaeolglbaaGreatDoor.Pb Go.Proofs.YtcecjoaeolglbaaGreatDoor.Pure
theorem clean_of {s:List UInt8} (h:(0:UInt8)∉s):cleanL s=s:=cleanL_of_no0 h
theorem trimN_of {s:List UInt8} (h:s.head? ≠ some 10):trimN s=s:=by
 cases s with
 | nil=>rfl
 | cons c r =>
   have hc:c≠10:=fun e=>h (by rw [e];rfl)
   show (if c=10 then r else c::r)=c::r
   rw [if_neg hc]
def roundsL (d:Int):Nat→List UInt8→List UInt8
 | 0,s=>s
 | n+1,s=>roundsL d n (roundL d s)
theorem norm_no13 (s:List UInt8):(13:UInt8)∉normL s:=normL_no13 s
theorem clean_no13 {s:List UInt8} (h:(13:UInt8)∉s):(13:UInt8)∉cleanL s:=by
 intro hm
 unfold cleanL at hm
 obtain ⟨c,hc,hx⟩:=List.mem_flatMap.1 hm
 unfold cleanB at hx
 split at hx
 · exact absurd hx (by decide)
 · rw [List.mem_singleton] at hx;exact h (hx ▸ hc)
theorem trimN_sub {s:List UInt8} {c:UInt8} (h:c∈trimN s):c∈s:=by
 cases s with
 | nil=>exact h
 | cons d r =>
   change c∈(if d=10 then r else d::r) at h
   split at h
   · exact List.mem_cons_of_mem _ h
   · exact h
theorem rounds_once (d:Int) (hd:d=0∨d=1) (s:List UInt8):∀ n,roundsL d n (roundL d s)=roundL d s:=by
 intro n
 induction n with
 | zero=>rfl
 | succ n ih =>
   have e:roundL d (roundL d s)=roundL d s:=by
    rcases hd with rfl|rfl
    · show normL (normL s)=normL s
      exact normL_of_no13 (norm_no13 s)
    · show cleanL (normL (cleanL (normL s)))=cleanL (normL s)
      rw [normL_of_no13 (clean_no13 (norm_no13 s)),clean_of (cleanL_no0 _)]
   rw [roundsL,e,ih]
def trimsN:Nat→List UInt8→List UInt8
 | 0,s=>s
 | n+1,s=>trimsN n (trimN s)
theorem rounds_trim {s:List UInt8} (h0:(0:UInt8)∉s) (h13:(13:UInt8)∉s):∀ n,roundsL 2 n s=trimsN n s:=by
 intro n
 induction n generalizing s with
 | zero=>rfl
 | succ n ih =>
   have e:roundL 2 s=trimN s:=by
    show trimN (cleanL (normL s))=trimN s
    rw [normL_of_no13 h13,clean_of h0]
   rw [roundsL,trimsN,e,ih (fun h=>h0 (trimN_sub h)) (fun h=>h13 (trimN_sub h))]
theorem round2_no (s:List UInt8):(0:UInt8)∉roundL 2 s∧(13:UInt8)∉roundL 2 s :=
 ⟨fun h=>cleanL_no0 _ (trimN_sub h),fun h=>clean_no13 (norm_no13 s) (trimN_sub h)⟩
end Go.Proofs.YtcecjoaeolglbaaGreatDoor.Hand
end

section
namespace Go.Proofs.YtcecjoaeolglbaaGreatDoor.Hand
open Go Go.RowKit Go.Proofs.YtcecjoaeolglbaaGreatDoor.Pl Go.Proofs.YtcecjoaeolglbaaGreatDoor.Pb Go.Proofs.YtcecjoaeolglbaaGreatDoor.Pure
theorem trimN_len (s:List UInt8):(trimN s).length≤s.length:=by
 cases s with
 | nil=>exact Nat.le_refl _
 | cons c r =>
   show (if c=10 then r else c::r).length≤_
   split
   · simp
   · exact Nat.le_refl _
theorem trimsN_len:∀ (n:Nat) (s:List UInt8),(trimsN n s).length≤s.length:=by
 intro n
 induction n with
 | zero=>intro s;exact Nat.le_refl _
 | succ n ih=>intro s;exact Nat.le_trans (ih (trimN s)) (trimN_len s)
theorem roundL_len (d:Int) (s:List UInt8):(roundL d s).length≤3*s.length:=by
 have h1:=normL_length s
 have h2:=(cleanL_length (normL s)).2
 have h3:=trimN_len (cleanL (normL s))
 unfold roundL
 repeat' split
 all_goals omega
theorem rounds_after (d:Int) (hd:d=0∨d=1∨d=2) (s:List UInt8) (n:Nat):roundsL d (n+1) s=if d=2 then trimsN n (roundL 2 s) else roundL d s:=by
 show roundsL d n (roundL d s)=_
 rcases hd with rfl|rfl|rfl
 · rw [if_neg (by decide)];exact rounds_once 0 (.inl rfl) s n
 · rw [if_neg (by decide)];exact rounds_once 1 (.inr rfl) s n
 · rw [if_pos rfl];exact rounds_trim (round2_no s).1 (round2_no s).2 n
theorem rounds_len (d:Int) (hd:d=0∨d=1∨d=2) (s:List UInt8):∀ n,(roundsL d n s).length≤3*s.length:=by
 intro n
 cases n with
 | zero=>show s.length≤_;omega
 | succ n =>
   rw [rounds_after d hd]
   have h1:=roundL_len d s
   split
   · have h2:=trimsN_len n (roundL 2 s)
     have h3:=roundL_len 2 s
     omega
   · exact h1
end Go.Proofs.YtcecjoaeolglbaaGreatDoor.Hand
end

section
namespace Go.Proofs.YtcecjoaeolglbaaGreatDoor.Hand
open Go Go.RowKit Go.Proofs.YtcecjoaeolglbaaGreatDoor.K0 Go.Proofs.YtcecjoaeolglbaaGreatDoor.Pl Go.Proofs.YtcecjoaeolglbaaGreatDoor.Pb Go.Proofs.YtcecjoaeolglbaaGreatDoor.Sa Go.Proofs.YtcecjoaeolglbaaGreatDoor.St Go.Proofs.YtcecjoaeolglbaaGreatDoor.Pure Go.Proofs.YtcecjoaeolglbaaGreatDoorW.PrintWords Go.Proofs.YtcecjoaeolglbaaGreatDoorW.PrintLast Go.Proofs.YtcecjoaeolglbaaGreatDoorW.PrintMore
set_option maxRecDepth 100000 in
set_option maxHeartbeats 4000000 in
theorem round_c (d:Int) (hd:d=0∨d=1∨d=2) (s:List UInt8) (hs:s.length≤3000) (w:World) (hGl:Glob w) :
  Calls Tryz.prog 23 #[.int .i64 d,.string (B s)] w fun e w'=>e = .returned (.tuple #[.string (B (roundL d s)),.bool true])∧Below w.heap.size w w':=by
 have hl:(serL d s).length≤6*s.length:=by
  unfold serL
  rw [if_neg (by omega)]
  exact (ser_length _ _ s (Nat.le_refl _)).2
 have SE:=serial_c d (by omega) s w (by omega)
 have PA:=fun W hG=>parse_c d false (serL d s) (by omega) W hG
 rw [parse_ser d hd s] at PA
 obtain ⟨a,ha⟩:∃ a,B s=a:=⟨_,rfl⟩
 obtain ⟨a2,ha2⟩:∃ a,B (serL d s)=a:=⟨_,rfl⟩
 obtain ⟨a3,ha3⟩:∃ a,B (roundL d s)=a:=⟨_,rfl⟩
 rw [ha,ha2] at SE
 rw [ha2] at PA
 dsimp only at PA
 rw [ha3] at PA ⊢
 rw [ha]
 replace SE:=Lib.hid SE
 replace PA:=Lib.hid PA
 have HG:=Lib.hid hGl
 clear hl ha ha2 ha3 hs hGl hd
 go_enter Tryz.func23,Tryz.ntmps23
 go_wp2_with fail
 refine SE.out.mono ?_
 rintro e w1 ⟨rfl,hb1⟩
 have P1:=Lib.hid (PA.out w1 (HG.out.step hb1))
 have HB:=Lib.hid hb1
 clear hb1 SE PA
 go_wp2_with fail
 refine P1.out.mono ?_
 rintro e w2 ⟨rfl,hb2⟩
 have HB2:=Lib.hid (HB.out.trans (hb2.mono HB.out.size))
 clear hb2 P1
 go_wp2_with fail
 go_ret2
 exact ⟨rfl,HB2.out⟩
def nxF (db nb:Nat):Value:=.func (.func 49) #[] #[.pointer (some ⟨db,0,none⟩),.pointer (some ⟨nb,0,none⟩)]
set_option maxRecDepth 100000 in
set_option maxHeartbeats 4000000 in
theorem next_rounds (d:Int) (hd:d=0∨d=1∨d=2) (db nb:Nat):∀ (n:Nat) (_:n≤1000) (s:List UInt8) (_:∀ j,j≤n→(roundsL d j s).length≤3000) (w:World) (_:Glob w) (_:w.cell? ⟨db,0,none⟩=some (.int .i64 d)) (_:w.cell? ⟨nb,0,none⟩=some (nxF db nb)),
  Calls Tryz.prog 49 #[.string (B s),.int .i64 (n:Int),.pointer (some ⟨db,0,none⟩),.pointer (some ⟨nb,0,none⟩)] w fun e w'=>e = .returned (.tuple #[.string (B (roundsL d n s)),.bool true])∧Below w.heap.size w w':=by
 intro n
 induction n with
 | zero =>
   intro _ s _ w _ c1 c2
   rw [show roundsL d 0 s=s from rfl]
   obtain ⟨a,ha⟩:∃ a,B s=a:=⟨_,rfl⟩
   rw [ha]
   clear ha
   go_enter Tryz.func49,Tryz.ntmps49
   go_wp2_with fail
   go_ret2
   exact ⟨rfl,Below.refl _ _⟩
 | succ n ih =>
   intro hn s hs w hG c1 c2
   have R:=round_c d hd s (hs 0 (by omega)) w hG
   have hc:∀ {W:World},Below w.heap.size w W→Glob W∧W.cell? ⟨db,0,none⟩=some (.int .i64 d)∧W.cell? ⟨nb,0,none⟩=some (nxF db nb):=fun hb =>
    ⟨hG.step hb,(hb.cell (World.block_lt_of_cell? w _ c1)).trans c1,(hb.cell (World.block_lt_of_cell? w _ c2)).trans c2⟩
   have NX:∀ W,Below w.heap.size w W→Calls Tryz.prog 49 #[.string (B (roundL d s)),.int .i64 (n:Int),.pointer (some ⟨db,0,none⟩),.pointer (some ⟨nb,0,none⟩)] W fun e w'=>e = .returned (.tuple #[.string (B (roundsL d n (roundL d s))),.bool true])∧Below W.heap.size W w':=fun W hb=>by
    obtain ⟨g1,g2,g3⟩:=hc hb
    exact ih (by omega) (roundL d s) (fun j hj=>hs (j+1) (by omega)) W g1 g2 g3
   have NC:Hid (∀ W,Below w.heap.size w W→W.cell? ⟨nb,0,none⟩=some (nxF db nb)):=Lib.hid (fun W hb=>(hc hb).2.2)
   rw [show roundsL d (n+1) s=roundsL d n (roundL d s) from rfl]
   obtain ⟨a,ha⟩:∃ a,B s=a:=⟨_,rfl⟩
   obtain ⟨a2,ha2⟩:∃ a,B (roundL d s)=a:=⟨_,rfl⟩
   obtain ⟨a3,ha3⟩:∃ a,B (roundsL d n (roundL d s))=a:=⟨_,rfl⟩
   rw [ha,ha2] at R
   rw [ha2,ha3] at NX
   rw [ha,ha3]
   have q:decide (((n+1:Nat):Int)<1)=false:=decide_eq_false (by omega)
   have qw:wrap64 (((n+1:Nat):Int) - 1)=(n:Int):=by unfold wrap64;omega
   replace R:=Lib.hid R
   replace NX:=Lib.hid NX
   clear ih hs hc c2 hG ha ha2 ha3 hd
   obtain ⟨m,hm⟩:∃ m:Int,((n+1:Nat):Int)=m:=⟨_,rfl⟩
   rw [hm] at q qw ⊢
   clear hm hn
   go_enter Tryz.func49,Tryz.ntmps49
   go_wp2_with fail
   refine R.out.mono ?_
   rintro e w1 ⟨rfl,hb1⟩
   have g3:=NC.out w1 hb1
   unfold nxF at g3
   have N1:=Lib.hid (NX.out w1 hb1)
   have HB:=Lib.hid hb1
   clear hb1 R NX NC
   go_wp2_with fail
   refine N1.out.mono ?_
   rintro e w2 ⟨rfl,hb2⟩
   have HB2:=Lib.hid (HB.out.trans (hb2.mono HB.out.size))
   clear hb2 N1
   go_wp2_with fail
   go_ret2
   exact ⟨rfl,HB2.out⟩
set_option maxRecDepth 100000 in
set_option maxHeartbeats 4000000 in
theorem rounds_c (d:Int) (hd:d=0∨d=1∨d=2) (n:Nat) (hn:n≤1000) (s:List UInt8) (hs:∀ j,j≤n→(roundsL d j s).length≤3000) (w:World) (hGl:Glob w) :
  Calls Tryz.prog 26 #[.int .i64 d,.string (B s),.int .i64 (n:Int)] w fun e w'=>e = .returned (.tuple #[.string (B (roundsL d n s)),.bool true])∧Below w.heap.size w w':=by
 have hm:∀ (ts:Array TypeId) (t:TypeId) (W:World),(Builtin.min_ ts t #[.int .i64 (n:Int),.int .i64 1000]).run Tryz.prog W = .ok (.int .i64 (n:Int)) W:=fun ts t W=>by
  rw [min_two,min2_int,if_neg (by omega)]
  rfl
 obtain ⟨W2,hW2⟩:∃ W,(w.alloc (.cells #[.int .i64 d] 3)).alloc (.cells #[nxF w.heap.size (w.heap.size+1)] 65)=W:=⟨_,rfl⟩
 have hB2:Below w.heap.size w W2:=by
  rw [← hW2]
  exact (Below.alloc (Below.refl w.heap.size w) (Nat.le_refl _) _).alloc (by simp) _
 have NX:Calls Tryz.prog 49 #[.string (B s),.int .i64 (n:Int),.pointer (some ⟨w.heap.size,0,none⟩),.pointer (some ⟨w.heap.size+1,0,none⟩)] W2 fun e w'=>e = .returned (.tuple #[.string (B (roundsL d n s)),.bool true])∧Below W2.heap.size W2 w':=by
  refine next_rounds d hd w.heap.size (w.heap.size+1) n hn s hs W2 (hGl.step hB2) ?_ ?_
  · rw [← hW2]
    have:=World.cell?_alloc_at (w:=w) #[.int .i64 d] 3 w.heap.size 0 rfl
    exact (World.cell?_of_block (Lib.alloc_old _ _ _ (by simp))).trans this
  · rw [← hW2]
    exact World.cell?_alloc_at _ _ _ 0 (by simp)
 have HB2:=Lib.hid hB2
 replace NX:=Lib.hid NX
 have HW:=Lib.hid hW2
 unfold nxF at HW
 obtain ⟨a,ha⟩:∃ a,B s=a:=⟨_,rfl⟩
 rw [ha] at NX ⊢
 have hst:∀ (W:World) (m:Mode),Sem.run Tryz.prog (store ⟨w.heap.size+1,0,none⟩ (.func (.func 49) #[] #[.pointer (some ⟨w.heap.size,0,none⟩),.pointer (some ⟨w.heap.size+1,0,none⟩)]) m) W=stored Tryz.prog W ⟨w.heap.size+1,0,none⟩ (.func (.func 49) #[] #[.pointer (some ⟨w.heap.size,0,none⟩),.pointer (some ⟨w.heap.size+1,0,none⟩)]) m:=fun W m=>run_store Tryz.prog W _ _ m rfl
 clear hs hGl hd hn ha hB2 hW2
 go_enter Tryz.func26,Tryz.ntmps26
 go_wp2_with fail
 rw [HW.out]
 refine NX.out.mono ?_
 rintro e w3 ⟨rfl,hb3⟩
 have HB3:=Lib.hid (HB2.out.trans (hb3.mono HB2.out.size))
 clear hb3 NX HB2 HW
 go_wp2_with fail
 go_ret2
 exact ⟨rfl,HB3.out⟩
noncomputable def rounds_Round.f (a0:Int) (a1:ByteArray):Option (ByteArray×Bool):=if a1.size≤3000∧(a0=0∨a0=1∨a0=2) then some (B (roundL a0 a1.data.toList),true) else none
theorem rounds_Round.calls (a0:Int) (a1:ByteArray) (r1:ByteArray) (r2:Bool) (w:World) (hGl:Glob w) (h:rounds_Round.f a0 a1=some (r1,r2)) :
  Calls Tryz.prog 23 #[.int .i64 a0,.string a1] w fun e w'=>e = .returned (.tuple #[.string r1,.bool r2])∧Below w.heap.size w w':=by
 obtain ⟨hc,h⟩:=hg_split h
 have h:=Option.some.inj h
 simp only [Prod.mk.injEq] at h
 obtain ⟨rfl,rfl⟩:=h
 have:=round_c a0 hc.2 a1.data.toList (by rw [Array.length_toList];exact hc.1) w hGl
 rwa [← B_of] at this
def okR (d:Int) (n:Int) (s:ByteArray):Prop:=(d=0∨d=1∨d=2)∧0≤n∧n≤1000∧s.size≤1000
instance (d:Int) (n:Int) (s:ByteArray):Decidable (okR d n s):=by unfold okR;infer_instance
noncomputable def rounds_Rounds.f (a0:Int) (a1:ByteArray) (a2:Int):Option (ByteArray×Bool):=if okR a0 a2 a1 then some (B (roundsL a0 a2.toNat a1.data.toList),true) else none
theorem rounds_Rounds.calls (a0:Int) (a1:ByteArray) (a2:Int) (r1:ByteArray) (r2:Bool) (w:World) (hGl:Glob w) (h:rounds_Rounds.f a0 a1 a2=some (r1,r2)) :
  Calls Tryz.prog 26 #[.int .i64 a0,.string a1,.int .i64 a2] w fun e w'=>e = .returned (.tuple #[.string r1,.bool r2])∧Below w.heap.size w w':=by
 obtain ⟨hc,h⟩:=hg_split h
 have h:=Option.some.inj h
 simp only [Prod.mk.injEq] at h
 obtain ⟨rfl,rfl⟩:=h
 obtain ⟨h1,h2,h3,h4⟩:=hc
 have:=rounds_c a0 h1 a2.toNat (by omega) a1.data.toList (fun j _=>by
  have h5:=rounds_len a0 h1 a1.data.toList j
  have h6:a1.data.toList.length=a1.size:=Array.length_toList
  exact Nat.le_trans h5 (by omega)) w hGl
 rw [← B_of,Int.toNat_of_nonneg h2] at this
 exact this
noncomputable def rounds_Serial.f (a0:Int) (a1:ByteArray):Option ByteArray:=if a1.size≤100000∧0≤a0∧a0≤2 then some (B (serL a0 a1.data.toList)) else none
theorem rounds_Serial.calls (a0:Int) (a1 r:ByteArray) (w:World) (h:rounds_Serial.f a0 a1=some r) :
  Calls Tryz.prog 27 #[.int .i64 a0,.string a1] w fun e w'=>e = .returned (.string r)∧Below w.heap.size w w':=by
 obtain ⟨hc,h⟩:=hg_split h
 obtain rfl:=Option.some.inj h
 have:=serial_c a0 hc.2 a1.data.toList w (by rw [Array.length_toList];exact hc.1)
 rwa [← B_of] at this
end Go.Proofs.YtcecjoaeolglbaaGreatDoor.Hand
end

section
namespace Go.Proofs.YtcecjoaeolglbaaGreatDoor.So
open Go.RowKit Go.Proofs.YtcecjoaeolglbaaGreatDoor.K0 Go.Proofs.YtcecjoaeolglbaaGreatDoor.Hand Go.Proofs.YtcecjoaeolglbaaGreatDoor.Sa Go.Proofs.YtcecjoaeolglbaaGreatDoorW.PrintWords Go.Proofs.YtcecjoaeolglbaaGreatDoorW.PrintLast Go.Proofs.YtcecjoaeolglbaaGreatDoorW.PrintMore
attribute [local go_sem] max2_int min2_int max_two min_two max_three min_three max_four min_four  
set_option linter.unusedVariables false
set_option linter.unusedSimpArgs false
noncomputable def flaillaw24_awake.f  : Option (Bool):=(rounds_Round.f 1 (⟨#[97,34,98,60]⟩:ByteArray)).bind fun bt101=>((rounds_Rounds.f 2 (⟨#[10,97]⟩:ByteArray) 3).bind fun bt103=>(if bt101.2=true then (if bt103.2=true then (if bt101.1.toList=([97,34,98,60]:List UInt8) then (if bt103.1.toList=([97]:List UInt8) then ((rounds_Serial.f 0 (⟨#[97,38,194,160]⟩:ByteArray)).bind fun t105=>(some (t105.toList == ([97,38,97,109,112,59,38,110,98,115,112,59]:List UInt8)))) else (some false)) else (some false)) else (some false)) else (some false)))
set_option maxHeartbeats 8000000 in
set_option maxRecDepth 100000 in
theorem flaillaw24_awake.calls  (r:Bool) (w:World) (hGl:Glob w) (h:flaillaw24_awake.f  = some r) :
  Calls Tryz.prog 22 #[] w fun e w'=>e = .returned (.bool r)∧Below w.heap.size w w':=by
 have HB:=Aside0.mk (Below.refl w.heap.size w)
 have H:((rounds_Round.f 1 (⟨#[97,34,98,60]⟩:ByteArray)).bind fun bt101=>((rounds_Rounds.f 2 (⟨#[10,97]⟩:ByteArray) 3).bind fun bt103=>(if bt101.2=true then (if bt103.2=true then (if bt101.1.toList=([97,34,98,60]:List UInt8) then (if bt103.1.toList=([97]:List UInt8) then ((rounds_Serial.f 0 (⟨#[97,38,194,160]⟩:ByteArray)).bind fun t105=>(some (t105.toList == ([97,38,97,109,112,59,38,110,98,115,112,59]:List UInt8)))) else (some false)) else (some false)) else (some false)) else (some false))))=some r:=h
 clear h
 replace H:=Option.bind_eq_some_iff.mp H
 obtain ⟨⟨t101,t102⟩,A10,H⟩:=H
 replace H:((rounds_Rounds.f 2 (⟨#[10,97]⟩:ByteArray) 3).bind fun bt103=>(if t102=true then (if bt103.2=true then (if t101.toList=([97,34,98,60]:List UInt8) then (if bt103.1.toList=([97]:List UInt8) then ((rounds_Serial.f 0 (⟨#[97,38,194,160]⟩:ByteArray)).bind fun t105=>(some (t105.toList == ([97,38,97,109,112,59,38,110,98,115,112,59]:List UInt8)))) else (some false)) else (some false)) else (some false)) else (some false)))=some r:=H
 have A1:=Aside0.mk A10
 clear A10
 replace H:=Option.bind_eq_some_iff.mp H
 obtain ⟨⟨t103,t104⟩,A20,H⟩:=H
 replace H:(if t102=true then (if t104=true then (if t101.toList=([97,34,98,60]:List UInt8) then (if t103.toList=([97]:List UInt8) then ((rounds_Serial.f 0 (⟨#[97,38,194,160]⟩:ByteArray)).bind fun t105=>(some (t105.toList == ([97,38,97,109,112,59,38,110,98,115,112,59]:List UInt8)))) else (some false)) else (some false)) else (some false)) else (some false))=some r:=H
 have A2:=Aside0.mk A20
 clear A20
 by_cases c3:t102=true
 · subst c3
   have H1:(if t104=true then (if t101.toList=([97,34,98,60]:List UInt8) then (if t103.toList=([97]:List UInt8) then ((rounds_Serial.f 0 (⟨#[97,38,194,160]⟩:ByteArray)).bind fun t105=>(some (t105.toList == ([97,38,97,109,112,59,38,110,98,115,112,59]:List UInt8)))) else (some false)) else (some false)) else (some false))=some r:=by rw [if_pos rfl] at H;exact H
   clear H
   have H:=H1
   clear H1
   by_cases c4:t104=true
   · subst c4
     have H1:(if t101.toList=([97,34,98,60]:List UInt8) then (if t103.toList=([97]:List UInt8) then ((rounds_Serial.f 0 (⟨#[97,38,194,160]⟩:ByteArray)).bind fun t105=>(some (t105.toList == ([97,38,97,109,112,59,38,110,98,115,112,59]:List UInt8)))) else (some false)) else (some false))=some r:=by rw [if_pos rfl] at H;exact H
     clear H
     have H:=H1
     clear H1
     by_cases c5:t101.toList=([97,34,98,60]:List UInt8)
     · rw [if_pos c5] at H
       have c5b0:(t101.toList == ([97,34,98,60]:List UInt8))=true:=beq_iff_eq.mpr c5
       have c5b1:(t101.toList != ([97,34,98,60]:List UInt8))=false:=bne_eq_false_iff_eq.mpr c5
       clear c5
       by_cases c6:t103.toList=([97]:List UInt8)
       · rw [if_pos c6] at H
         have c6b0:(t103.toList == ([97]:List UInt8))=true:=beq_iff_eq.mpr c6
         have c6b1:(t103.toList != ([97]:List UInt8))=false:=bne_eq_false_iff_eq.mpr c6
         clear c6
         replace H:=Option.bind_eq_some_iff.mp H
         obtain ⟨t105,A70,H⟩:=H
         replace H:(some (t105.toList == ([97,38,97,109,112,59,38,110,98,115,112,59]:List UInt8)))=some r:=H
         have A7:=Aside0.mk A70
         clear A70
         obtain rfl:=Option.some.inj H
         go_enter Tryz.func22,Tryz.ntmps22
         go_wp2_with (first | ((with_reducible refine gate_callee (f:=23) rfl ?_);refine goesL_ (some 6) rfl rfl Tryz.func23 (by kernel_rfl) rfl #[.int .i64 1,.string (⟨#[97,34,98,60]⟩:ByteArray)] rfl (by (try simp only [List.map_toArray,List.map_cons,List.map_nil]);first|done|rfl | (simp only [List.length_drop,List.length_take];rfl)) ?_;(with_reducible refine (rounds_Round.calls 1 (⟨#[97,34,98,60]⟩:ByteArray) t101 true _ ?side1 A1.out).mono ?_);(case side1=>exact Glob.step hGl (by repeat (first | (with_reducible first|exact HB.out|apply below_alloc|apply pw_below_drewN|apply below_drew1)|exact HB.out)));rintro e w8 ⟨rfl,hb⟩;refine ⟨_,rfl,?_⟩;have n0_:=Aside0.mk (below_step (by repeat (first | (with_reducible first|exact HB.out|apply below_alloc|apply pw_below_drewN|apply below_drew1)|exact HB.out)) hb);clear HB;have HB:=n0_;clear n0_;(try clear hb);(try clear hb2);(try clear hk);(try clear hi)) | ((with_reducible refine gate_callee (f:=26) rfl ?_);refine goesL_ (some 10) rfl rfl Tryz.func26 (by kernel_rfl) rfl #[.int .i64 2,.string (⟨#[10,97]⟩:ByteArray),.int .i64 3] rfl (by (try simp only [List.map_toArray,List.map_cons,List.map_nil]);first|done|rfl | (simp only [List.length_drop,List.length_take];rfl)) ?_;(with_reducible refine (rounds_Rounds.calls 2 (⟨#[10,97]⟩:ByteArray) 3 t103 true _ ?side1 A2.out).mono ?_);(case side1=>exact Glob.step hGl (by repeat (first | (with_reducible first|exact HB.out|apply below_alloc|apply pw_below_drewN|apply below_drew1)|exact HB.out)));rintro e w9 ⟨rfl,hb⟩;refine ⟨_,rfl,?_⟩;have n0_:=Aside0.mk (below_step (by repeat (first | (with_reducible first|exact HB.out|apply below_alloc|apply pw_below_drewN|apply below_drew1)|exact HB.out)) hb);clear HB;have HB:=n0_;clear n0_;(try clear hb);(try clear hb2);(try clear hk);(try clear hi)) | (go_at_call 27;(with_reducible refine (rounds_Serial.calls 0 (⟨#[97,38,194,160]⟩:ByteArray) t105 _ A7.out).mono ?_);rintro e w10 ⟨rfl,hb⟩;have n0_:=Aside0.mk (below_step (by repeat (first | (with_reducible first|exact HB.out|apply below_alloc|apply pw_below_drewN|apply below_drew1)|exact HB.out)) hb);clear HB;have HB:=n0_;clear n0_;(try clear hb);(try clear hb2);(try clear hk);(try clear hi)))
         go_ret
         exact ⟨by first|rfl | (simp [errW_none,errW_some]<;>rfl) | (simp [*,errW_none,errW_some]<;>rfl),by repeat (first | (with_reducible first|exact HB.out|apply below_alloc|apply pw_below_drewN|apply below_drew1)|exact HB.out)⟩
       · rw [if_neg c6] at H
         have c6b0:(t103.toList == ([97]:List UInt8))=false:=beq_eq_false_iff_ne.mpr c6
         have c6b1:(t103.toList != ([97]:List UInt8))=true:=bne_iff_ne.mpr c6
         obtain rfl:=Option.some.inj H
         go_enter Tryz.func22,Tryz.ntmps22
         go_wp2_with (first | ((with_reducible refine gate_callee (f:=23) rfl ?_);refine goesL_ (some 6) rfl rfl Tryz.func23 (by kernel_rfl) rfl #[.int .i64 1,.string (⟨#[97,34,98,60]⟩:ByteArray)] rfl (by (try simp only [List.map_toArray,List.map_cons,List.map_nil]);first|done|rfl | (simp only [List.length_drop,List.length_take];rfl)) ?_;(with_reducible refine (rounds_Round.calls 1 (⟨#[97,34,98,60]⟩:ByteArray) t101 true _ ?side1 A1.out).mono ?_);(case side1=>exact Glob.step hGl (by repeat (first | (with_reducible first|exact HB.out|apply below_alloc|apply pw_below_drewN|apply below_drew1)|exact HB.out)));rintro e w11 ⟨rfl,hb⟩;refine ⟨_,rfl,?_⟩;have n0_:=Aside0.mk (below_step (by repeat (first | (with_reducible first|exact HB.out|apply below_alloc|apply pw_below_drewN|apply below_drew1)|exact HB.out)) hb);clear HB;have HB:=n0_;clear n0_;(try clear hb);(try clear hb2);(try clear hk);(try clear hi)) | ((with_reducible refine gate_callee (f:=26) rfl ?_);refine goesL_ (some 10) rfl rfl Tryz.func26 (by kernel_rfl) rfl #[.int .i64 2,.string (⟨#[10,97]⟩:ByteArray),.int .i64 3] rfl (by (try simp only [List.map_toArray,List.map_cons,List.map_nil]);first|done|rfl | (simp only [List.length_drop,List.length_take];rfl)) ?_;(with_reducible refine (rounds_Rounds.calls 2 (⟨#[10,97]⟩:ByteArray) 3 t103 true _ ?side1 A2.out).mono ?_);(case side1=>exact Glob.step hGl (by repeat (first | (with_reducible first|exact HB.out|apply below_alloc|apply pw_below_drewN|apply below_drew1)|exact HB.out)));rintro e w12 ⟨rfl,hb⟩;refine ⟨_,rfl,?_⟩;have n0_:=Aside0.mk (below_step (by repeat (first | (with_reducible first|exact HB.out|apply below_alloc|apply pw_below_drewN|apply below_drew1)|exact HB.out)) hb);clear HB;have HB:=n0_;clear n0_;(try clear hb);(try clear hb2);(try clear hk);(try clear hi)))
         go_ret
         exact ⟨by first|rfl | (simp [errW_none,errW_some]<;>rfl) | (simp [*,errW_none,errW_some]<;>rfl),by repeat (first | (with_reducible first|exact HB.out|apply below_alloc|apply pw_below_drewN|apply below_drew1)|exact HB.out)⟩
     · rw [if_neg c5] at H
       have c5b0:(t101.toList == ([97,34,98,60]:List UInt8))=false:=beq_eq_false_iff_ne.mpr c5
       have c5b1:(t101.toList != ([97,34,98,60]:List UInt8))=true:=bne_iff_ne.mpr c5
       obtain rfl:=Option.some.inj H
       go_enter Tryz.func22,Tryz.ntmps22
       go_wp2_with (first | ((with_reducible refine gate_callee (f:=23) rfl ?_);refine goesL_ (some 6) rfl rfl Tryz.func23 (by kernel_rfl) rfl #[.int .i64 1,.string (⟨#[97,34,98,60]⟩:ByteArray)] rfl (by (try simp only [List.map_toArray,List.map_cons,List.map_nil]);first|done|rfl | (simp only [List.length_drop,List.length_take];rfl)) ?_;(with_reducible refine (rounds_Round.calls 1 (⟨#[97,34,98,60]⟩:ByteArray) t101 true _ ?side1 A1.out).mono ?_);(case side1=>exact Glob.step hGl (by repeat (first | (with_reducible first|exact HB.out|apply below_alloc|apply pw_below_drewN|apply below_drew1)|exact HB.out)));rintro e w13 ⟨rfl,hb⟩;refine ⟨_,rfl,?_⟩;have n0_:=Aside0.mk (below_step (by repeat (first | (with_reducible first|exact HB.out|apply below_alloc|apply pw_below_drewN|apply below_drew1)|exact HB.out)) hb);clear HB;have HB:=n0_;clear n0_;(try clear hb);(try clear hb2);(try clear hk);(try clear hi)) | ((with_reducible refine gate_callee (f:=26) rfl ?_);refine goesL_ (some 10) rfl rfl Tryz.func26 (by kernel_rfl) rfl #[.int .i64 2,.string (⟨#[10,97]⟩:ByteArray),.int .i64 3] rfl (by (try simp only [List.map_toArray,List.map_cons,List.map_nil]);first|done|rfl | (simp only [List.length_drop,List.length_take];rfl)) ?_;(with_reducible refine (rounds_Rounds.calls 2 (⟨#[10,97]⟩:ByteArray) 3 t103 true _ ?side1 A2.out).mono ?_);(case side1=>exact Glob.step hGl (by repeat (first | (with_reducible first|exact HB.out|apply below_alloc|apply pw_below_drewN|apply below_drew1)|exact HB.out)));rintro e w14 ⟨rfl,hb⟩;refine ⟨_,rfl,?_⟩;have n0_:=Aside0.mk (below_step (by repeat (first | (with_reducible first|exact HB.out|apply below_alloc|apply pw_below_drewN|apply below_drew1)|exact HB.out)) hb);clear HB;have HB:=n0_;clear n0_;(try clear hb);(try clear hb2);(try clear hk);(try clear hi)))
       go_ret
       exact ⟨by first|rfl | (simp [errW_none,errW_some]<;>rfl) | (simp [*,errW_none,errW_some]<;>rfl),by repeat (first | (with_reducible first|exact HB.out|apply below_alloc|apply pw_below_drewN|apply below_drew1)|exact HB.out)⟩
   · replace c4:=Bool.eq_false_iff.mpr c4
     subst c4
     have H1:(some false)=some r:=by rw [if_neg (show ¬ (false=true) by decide)] at H;exact H
     clear H
     have H:=H1
     clear H1
     obtain rfl:=Option.some.inj H
     go_enter Tryz.func22,Tryz.ntmps22
     go_wp2_with (first | ((with_reducible refine gate_callee (f:=23) rfl ?_);refine goesL_ (some 6) rfl rfl Tryz.func23 (by kernel_rfl) rfl #[.int .i64 1,.string (⟨#[97,34,98,60]⟩:ByteArray)] rfl (by (try simp only [List.map_toArray,List.map_cons,List.map_nil]);first|done|rfl | (simp only [List.length_drop,List.length_take];rfl)) ?_;(with_reducible refine (rounds_Round.calls 1 (⟨#[97,34,98,60]⟩:ByteArray) t101 true _ ?side1 A1.out).mono ?_);(case side1=>exact Glob.step hGl (by repeat (first | (with_reducible first|exact HB.out|apply below_alloc|apply pw_below_drewN|apply below_drew1)|exact HB.out)));rintro e w15 ⟨rfl,hb⟩;refine ⟨_,rfl,?_⟩;have n0_:=Aside0.mk (below_step (by repeat (first | (with_reducible first|exact HB.out|apply below_alloc|apply pw_below_drewN|apply below_drew1)|exact HB.out)) hb);clear HB;have HB:=n0_;clear n0_;(try clear hb);(try clear hb2);(try clear hk);(try clear hi)) | ((with_reducible refine gate_callee (f:=26) rfl ?_);refine goesL_ (some 10) rfl rfl Tryz.func26 (by kernel_rfl) rfl #[.int .i64 2,.string (⟨#[10,97]⟩:ByteArray),.int .i64 3] rfl (by (try simp only [List.map_toArray,List.map_cons,List.map_nil]);first|done|rfl | (simp only [List.length_drop,List.length_take];rfl)) ?_;(with_reducible refine (rounds_Rounds.calls 2 (⟨#[10,97]⟩:ByteArray) 3 t103 false _ ?side1 A2.out).mono ?_);(case side1=>exact Glob.step hGl (by repeat (first | (with_reducible first|exact HB.out|apply below_alloc|apply pw_below_drewN|apply below_drew1)|exact HB.out)));rintro e w16 ⟨rfl,hb⟩;refine ⟨_,rfl,?_⟩;have n0_:=Aside0.mk (below_step (by repeat (first | (with_reducible first|exact HB.out|apply below_alloc|apply pw_below_drewN|apply below_drew1)|exact HB.out)) hb);clear HB;have HB:=n0_;clear n0_;(try clear hb);(try clear hb2);(try clear hk);(try clear hi)))
     go_ret
     exact ⟨by first|rfl | (simp [errW_none,errW_some]<;>rfl) | (simp [*,errW_none,errW_some]<;>rfl),by repeat (first | (with_reducible first|exact HB.out|apply below_alloc|apply pw_below_drewN|apply below_drew1)|exact HB.out)⟩
 · replace c3:=Bool.eq_false_iff.mpr c3
   subst c3
   have H1:(some false)=some r:=by rw [if_neg (show ¬ (false=true) by decide)] at H;exact H
   clear H
   have H:=H1
   clear H1
   obtain rfl:=Option.some.inj H
   go_enter Tryz.func22,Tryz.ntmps22
   go_wp2_with (first | ((with_reducible refine gate_callee (f:=23) rfl ?_);refine goesL_ (some 6) rfl rfl Tryz.func23 (by kernel_rfl) rfl #[.int .i64 1,.string (⟨#[97,34,98,60]⟩:ByteArray)] rfl (by (try simp only [List.map_toArray,List.map_cons,List.map_nil]);first|done|rfl | (simp only [List.length_drop,List.length_take];rfl)) ?_;(with_reducible refine (rounds_Round.calls 1 (⟨#[97,34,98,60]⟩:ByteArray) t101 false _ ?side1 A1.out).mono ?_);(case side1=>exact Glob.step hGl (by repeat (first | (with_reducible first|exact HB.out|apply below_alloc|apply pw_below_drewN|apply below_drew1)|exact HB.out)));rintro e w17 ⟨rfl,hb⟩;refine ⟨_,rfl,?_⟩;have n0_:=Aside0.mk (below_step (by repeat (first | (with_reducible first|exact HB.out|apply below_alloc|apply pw_below_drewN|apply below_drew1)|exact HB.out)) hb);clear HB;have HB:=n0_;clear n0_;(try clear hb);(try clear hb2);(try clear hk);(try clear hi)) | ((with_reducible refine gate_callee (f:=26) rfl ?_);refine goesL_ (some 10) rfl rfl Tryz.func26 (by kernel_rfl) rfl #[.int .i64 2,.string (⟨#[10,97]⟩:ByteArray),.int .i64 3] rfl (by (try simp only [List.map_toArray,List.map_cons,List.map_nil]);first|done|rfl | (simp only [List.length_drop,List.length_take];rfl)) ?_;(with_reducible refine (rounds_Rounds.calls 2 (⟨#[10,97]⟩:ByteArray) 3 t103 t104 _ ?side1 A2.out).mono ?_);(case side1=>exact Glob.step hGl (by repeat (first | (with_reducible first|exact HB.out|apply below_alloc|apply pw_below_drewN|apply below_drew1)|exact HB.out)));rintro e w18 ⟨rfl,hb⟩;refine ⟨_,rfl,?_⟩;have n0_:=Aside0.mk (below_step (by repeat (first | (with_reducible first|exact HB.out|apply below_alloc|apply pw_below_drewN|apply below_drew1)|exact HB.out)) hb);clear HB;have HB:=n0_;clear n0_;(try clear hb);(try clear hb2);(try clear hk);(try clear hi)))
   go_ret
   exact ⟨by first|rfl | (simp [errW_none,errW_some]<;>rfl) | (simp [*,errW_none,errW_some]<;>rfl),by repeat (first | (with_reducible first|exact HB.out|apply below_alloc|apply pw_below_drewN|apply below_drew1)|exact HB.out)⟩
noncomputable def flailref01_Begins.f (a0:ByteArray) (a1:ByteArray):Option (Bool):=if (a0.size:Int)<(a1.size:Int) then (some false) else (if 0≤(a1.size:Int) then (if (a1.size:Int)≤(a0.size:Int) then (some ((a0.extract 0 ((a1.size:Int):Int).toNat).toList == a1.toList)) else (none)) else (none))
set_option maxHeartbeats 8000000 in
set_option maxRecDepth 100000 in
theorem flailref01_Begins.calls (a0:ByteArray) (a1:ByteArray) (r:Bool) (w:World) (h:flailref01_Begins.f a0 a1=some r) :
  Calls Tryz.prog 25 #[.string a0,.string a1] w fun e w'=>e = .returned (.bool r)∧Drawn0 w w':=by
 have H:(if (a0.size:Int)<(a1.size:Int) then (some false) else (if 0≤(a1.size:Int) then (if (a1.size:Int)≤(a0.size:Int) then (some ((a0.extract 0 ((a1.size:Int):Int).toNat).toList == a1.toList)) else (none)) else (none)))=some r:=h
 clear h
 by_cases c3:(a0.size:Int)<(a1.size:Int)
 · rw [if_pos c3] at H
   have c3b0:decide ((a0.size:Int)<(a1.size:Int))=true:=decide_eq_true c3
   have c3b1:decide (a0.size<a1.size)=true:=decide_eq_true (Int.ofNat_lt.mp c3)
   clear c3
   obtain rfl:=Option.some.inj H
   go_enter Tryz.func25,Tryz.ntmps25
   go_wp2
   go_ret
   exact ⟨by first|rfl | (simp;done) | (simp [*];done),by repeat (first|exact Drawn0.refl _|apply Drawn0.step)⟩
 · rw [if_neg c3] at H
   have c3b0:decide ((a0.size:Int)<(a1.size:Int))=false:=decide_eq_false c3
   have c3b1:decide (a0.size<a1.size)=false:=decide_eq_false (fun h=>c3 (Int.ofNat_lt.mpr h))
   clear c3
   by_cases c4:0≤(a1.size:Int)
   · rw [if_pos c4] at H
     have c4b0:=eq_true c4
     have c4b1:decide (0≤(a1.size:Int))=true:=decide_eq_true c4
     clear c4
     by_cases c5:(a1.size:Int)≤(a0.size:Int)
     · rw [if_pos c5] at H
       have c5b0:=eq_true c5
       have c5b1:decide ((a1.size:Int)≤(a0.size:Int))=true:=decide_eq_true c5
       clear c5
       obtain rfl:=Option.some.inj H
       go_enter Tryz.func25,Tryz.ntmps25
       go_wp2
       go_ret
       exact ⟨by first|rfl | (simp;done) | (simp [*];done),by repeat (first|exact Drawn0.refl _|apply Drawn0.step)⟩
     · rw [if_neg c5] at H
       exact absurd H (by simp)
   · rw [if_neg c4] at H
     exact absurd H (by simp)
mutual
noncomputable def flaillaw24_RoundsOnce.j0:Nat→Int→Bool→Int→ByteArray→ByteArray→Bool→Option (Bool)
 | 0,_,_,_,_,_,_=>none
 | k+1,x2,x7,x8,x9,x11,x43=>if x43=true then (some false) else (if x8=2 then (flaillaw24_RoundsOnce.l0 k x2 x7 x9 x11 0) else (if x7=true then (some (x11.toList == x9.toList)) else (some false)))
noncomputable def flaillaw24_RoundsOnce.l0:Nat→Int→Bool→ByteArray→ByteArray→Int→Option (Bool)
 | 0,_,_,_,_,_=>none
 | k+1,x2,x7,x9,x11,x13=>if x13<(wrap64 (Int.tmod x2 9)) then ((flailref01_Begins.f x9 (⟨#[10]⟩:ByteArray)).bind fun t118=>(if t118=true then (if 1≤(x9.size:Int) then (flaillaw24_RoundsOnce.l0 k x2 x7 (x9.extract 1 x9.size) x11 (wrap64 (x13+1))) else (none)) else (flaillaw24_RoundsOnce.l0 k x2 x7 x9 x11 (wrap64 (x13+1))))) else (if x7=true then (some (x11.toList == x9.toList)) else (some false))
end
noncomputable def flaillaw24_RoundsOnce.f (k:Nat) (a0:Int) (a1:ByteArray) (a2:Int):Option (Bool):=(flaillaw24_awake.f).bind fun t113=>(if (a1.size:Int)>300 then (some t113) else ((rounds_Round.f (wrap64 (Int.tmod a0 3)) a1).bind fun bt114=>((rounds_Rounds.f (wrap64 (Int.tmod a0 3)) a1 (wrap64 (1+(wrap64 (Int.tmod a2 9))))).bind fun bt116=>(if bt114.2=true then (flaillaw24_RoundsOnce.j0 k a2 t113 (wrap64 (Int.tmod a0 3)) bt114.1 bt116.1 (!bt116.2)) else (flaillaw24_RoundsOnce.j0 k a2 t113 (wrap64 (Int.tmod a0 3)) bt114.1 bt116.1 true)))))
set_option maxHeartbeats 8000000 in
set_option maxRecDepth 100000 in
theorem flaillaw24_RoundsOnce.calls (k:Nat) (a0:Int) (a1:ByteArray) (a2:Int) (r:Bool) (w:World) (hGl:Glob w) (h:flaillaw24_RoundsOnce.f k a0 a1 a2=some r) :
  Calls Tryz.prog 5 #[.int .u8 a0,.string a1,.int .u8 a2] w fun e w'=>e = .returned (.bool r)∧Below w.heap.size w w':=by
 have HB:=Aside0.mk (Below.refl w.heap.size w)
 have H:((flaillaw24_awake.f).bind fun t113=>(if (a1.size:Int)>300 then (some t113) else ((rounds_Round.f (wrap64 (Int.tmod a0 3)) a1).bind fun bt114=>((rounds_Rounds.f (wrap64 (Int.tmod a0 3)) a1 (wrap64 (1+(wrap64 (Int.tmod a2 9))))).bind fun bt116=>(if bt114.2=true then (flaillaw24_RoundsOnce.j0 k a2 t113 (wrap64 (Int.tmod a0 3)) bt114.1 bt116.1 (!bt116.2)) else (flaillaw24_RoundsOnce.j0 k a2 t113 (wrap64 (Int.tmod a0 3)) bt114.1 bt116.1 true))))))=some r:=h
 clear h
 replace H:=Option.bind_eq_some_iff.mp H
 obtain ⟨t113,A40,H⟩:=H
 replace H:(if (a1.size:Int)>300 then (some t113) else ((rounds_Round.f (wrap64 (Int.tmod a0 3)) a1).bind fun bt114=>((rounds_Rounds.f (wrap64 (Int.tmod a0 3)) a1 (wrap64 (1+(wrap64 (Int.tmod a2 9))))).bind fun bt116=>(if bt114.2=true then (flaillaw24_RoundsOnce.j0 k a2 t113 (wrap64 (Int.tmod a0 3)) bt114.1 bt116.1 (!bt116.2)) else (flaillaw24_RoundsOnce.j0 k a2 t113 (wrap64 (Int.tmod a0 3)) bt114.1 bt116.1 true)))))=some r:=H
 have A4:=Aside0.mk A40
 clear A40
 by_cases c5:(a1.size:Int)>300
 · rw [if_pos c5] at H
   have c5b0:decide (300<(a1.size:Int))=true:=decide_eq_true c5
   have c5b1:decide (300<a1.size)=true:=decide_eq_true (by omega)
   clear c5
   obtain rfl:=Option.some.inj H
   go_enter Tryz.func5,Tryz.ntmps5
   go_wp2_with (first | ((with_reducible refine gate_callee (f:=22) rfl ?_);refine goesL_ (some 14) rfl rfl Tryz.func22 (by kernel_rfl) rfl #[] rfl (by (try simp only [List.map_toArray,List.map_cons,List.map_nil]);first|done|rfl | (simp only [List.length_drop,List.length_take];rfl)) ?_;(with_reducible refine (flaillaw24_awake.calls  t113 _ ?side1 A4.out).mono ?_);(case side1=>exact Glob.step hGl (by repeat (first | (with_reducible first|exact HB.out|apply below_alloc|apply pw_below_drewN|apply below_drew1)|exact HB.out)));rintro e w6 ⟨rfl,hb⟩;refine ⟨_,rfl,?_⟩;have n0_:=Aside0.mk (below_step (by repeat (first | (with_reducible first|exact HB.out|apply below_alloc|apply pw_below_drewN|apply below_drew1)|exact HB.out)) hb);clear HB;have HB:=n0_;clear n0_;(try clear hb);(try clear hb2);(try clear hk);(try clear hi)))
   go_ret
   exact ⟨by first|rfl | (simp [errW_none,errW_some]<;>rfl) | (simp [*,errW_none,errW_some]<;>rfl),by repeat (first | (with_reducible first|exact HB.out|apply below_alloc|apply pw_below_drewN|apply below_drew1)|exact HB.out)⟩
 · rw [if_neg c5] at H
   have c5b0:decide (300<(a1.size:Int))=false:=decide_eq_false c5
   have c5b1:decide (300<a1.size)=false:=decide_eq_false (by omega)
   clear c5
   replace H:=Option.bind_eq_some_iff.mp H
   obtain ⟨⟨t114,t115⟩,A70,H⟩:=H
   replace H:((rounds_Rounds.f (wrap64 (Int.tmod a0 3)) a1 (wrap64 (1+(wrap64 (Int.tmod a2 9))))).bind fun bt116=>(if t115=true then (flaillaw24_RoundsOnce.j0 k a2 t113 (wrap64 (Int.tmod a0 3)) t114 bt116.1 (!bt116.2)) else (flaillaw24_RoundsOnce.j0 k a2 t113 (wrap64 (Int.tmod a0 3)) t114 bt116.1 true)))=some r:=H
   have A7:=Aside0.mk A70
   clear A70
   replace H:=Option.bind_eq_some_iff.mp H
   obtain ⟨⟨t116,t117⟩,A80,H⟩:=H
   replace H:(if t115=true then (flaillaw24_RoundsOnce.j0 k a2 t113 (wrap64 (Int.tmod a0 3)) t114 t116 (!t117)) else (flaillaw24_RoundsOnce.j0 k a2 t113 (wrap64 (Int.tmod a0 3)) t114 t116 true))=some r:=H
   have A8:=Aside0.mk A80
   clear A80
   have HC9:=Aside0.mk H
   clear H
   go_enter Tryz.func5,Tryz.ntmps5
   go_upto_region 7 with (first | ((with_reducible refine gate_callee (f:=22) rfl ?_);refine goesL_ (some 14) rfl rfl Tryz.func22 (by kernel_rfl) rfl #[] rfl (by (try simp only [List.map_toArray,List.map_cons,List.map_nil]);first|done|rfl | (simp only [List.length_drop,List.length_take];rfl)) ?_;(with_reducible refine (flaillaw24_awake.calls  t113 _ ?side1 A4.out).mono ?_);(case side1=>exact Glob.step hGl (by repeat (first | (with_reducible first|exact HB.out|apply below_alloc|apply pw_below_drewN|apply below_drew1)|exact HB.out)));rintro e w10 ⟨rfl,hb⟩;refine ⟨_,rfl,?_⟩;have n0_:=Aside0.mk (below_step (by repeat (first | (with_reducible first|exact HB.out|apply below_alloc|apply pw_below_drewN|apply below_drew1)|exact HB.out)) hb);clear HB;have HB:=n0_;clear n0_;(try clear hb);(try clear hb2);(try clear hk);(try clear hi)) | ((with_reducible refine gate_callee (f:=23) rfl ?_);refine goesL_ (some 25) rfl rfl Tryz.func23 (by kernel_rfl) rfl #[.int .i64 (wrap64 (Int.tmod a0 3)),.string a1] rfl (by (try simp only [List.map_toArray,List.map_cons,List.map_nil]);first|done|rfl | (simp only [List.length_drop,List.length_take];rfl)) ?_;(with_reducible refine (rounds_Round.calls (wrap64 (Int.tmod a0 3)) a1 t114 t115 _ ?side1 A7.out).mono ?_);(case side1=>exact Glob.step hGl (by repeat (first | (with_reducible first|exact HB.out|apply below_alloc|apply pw_below_drewN|apply below_drew1)|exact HB.out)));rintro e w11 ⟨rfl,hb⟩;refine ⟨_,rfl,?_⟩;have n0_:=Aside0.mk (below_step (by repeat (first | (with_reducible first|exact HB.out|apply below_alloc|apply pw_below_drewN|apply below_drew1)|exact HB.out)) hb);clear HB;have HB:=n0_;clear n0_;(try clear hb);(try clear hb2);(try clear hk);(try clear hi)) | ((with_reducible refine gate_callee (f:=26) rfl ?_);refine goesL_ (some 35) rfl rfl Tryz.func26 (by kernel_rfl) rfl #[.int .i64 (wrap64 (Int.tmod a0 3)),.string a1,.int .i64 (wrap64 (1+(wrap64 (Int.tmod a2 9))))] rfl (by (try simp only [List.map_toArray,List.map_cons,List.map_nil]);first|done|rfl | (simp only [List.length_drop,List.length_take];rfl)) ?_;(with_reducible refine (rounds_Rounds.calls (wrap64 (Int.tmod a0 3)) a1 (wrap64 (1+(wrap64 (Int.tmod a2 9)))) t116 t117 _ ?side1 A8.out).mono ?_);(case side1=>exact Glob.step hGl (by repeat (first | (with_reducible first|exact HB.out|apply below_alloc|apply pw_below_drewN|apply below_drew1)|exact HB.out)));rintro e w12 ⟨rfl,hb⟩;refine ⟨_,rfl,?_⟩;have n0_:=Aside0.mk (below_step (by repeat (first | (with_reducible first|exact HB.out|apply below_alloc|apply pw_below_drewN|apply below_drew1)|exact HB.out)) hb);clear HB;have HB:=n0_;clear n0_;(try clear hb);(try clear hb2);(try clear hk);(try clear hi)))
   (try simp only [Act.put,List.setIfInBounds_toArray,List.set_cons_zero,List.set_cons_succ])
   go_cut [43] (fun v43 wc => ∃ (kq:Nat) (x43_8:Bool),v43 = .bool x43_8∧Aside0 (flaillaw24_RoundsOnce.j0 kq a2 t113 (wrap64 (Int.tmod a0 3)) t114 t116 x43_8=some r)∧Aside0 (kq≤k)∧Aside0 (Below w.heap.size w wc))
   case first =>
    have H:=HC9.out
    clear HC9
    by_cases c13:t115=true
    · subst c13
      have H1:(flaillaw24_RoundsOnce.j0 k a2 t113 (wrap64 (Int.tmod a0 3)) t114 t116 (!t117))=some r:=by rw [if_pos rfl] at H;exact H
      clear H
      have H:=H1
      clear H1
      have H':=Aside0.mk H
      clear H
      go_wp2
      go_meet
      case rel=>exact ⟨_,(!t117),(by first|rfl | (simp;done) | (simp [*];done)),H',⟨by first|omega|exact Nat.le_refl _⟩,⟨by repeat (first | (with_reducible first|exact HB.out|apply below_alloc|apply pw_below_drewN|apply below_drew1)|exact HB.out)⟩⟩
    · replace c13:=Bool.eq_false_iff.mpr c13
      subst c13
      have H1:(flaillaw24_RoundsOnce.j0 k a2 t113 (wrap64 (Int.tmod a0 3)) t114 t116 true)=some r:=by rw [if_neg (show ¬ (false=true) by decide)] at H;exact H
      clear H
      have H:=H1
      clear H1
      have H':=Aside0.mk H
      clear H
      go_wp2
      go_meet
      case rel=>exact ⟨_,(true),(by first|rfl | (simp;done) | (simp [*];done)),H',⟨by first|omega|exact Nat.le_refl _⟩,⟨by repeat (first | (with_reducible first|exact HB.out|apply below_alloc|apply pw_below_drewN|apply below_drew1)|exact HB.out)⟩⟩
   case rest =>
    clear HC9
    try clear c1
    try clear c2
    try clear p2
    try clear c5
    try clear c5b0
    try clear c5b1
    try clear p6
    try clear c13
    obtain ⟨kq,x43_8,rfl,HA,HJ8,HB⟩:=hcut
    cases kq with
    | zero=>exact absurd HA.out (by simp [flaillaw24_RoundsOnce.j0])
    | succ kj8 =>
      have H:=HA.out
      clear HA
      simp only [flaillaw24_RoundsOnce.j0] at H
      by_cases c14:x43_8=true
      · subst c14
        have H1:(some false)=some r:=by rw [if_pos rfl] at H;exact H
        clear H
        have H:=H1
        clear H1
        obtain rfl:=Option.some.inj H
        go_wp2
        go_ret
        exact ⟨by first|rfl | (simp [errW_none,errW_some]<;>rfl) | (simp [*,errW_none,errW_some]<;>rfl),by repeat (first | (with_reducible first|exact HB.out|apply below_alloc|apply pw_below_drewN|apply below_drew1)|exact HB.out)⟩
      · replace c14:=Bool.eq_false_iff.mpr c14
        subst c14
        have H1:(if (wrap64 (Int.tmod a0 3))=2 then (flaillaw24_RoundsOnce.l0 kj8 a2 t113 t114 t116 0) else (if t113=true then (some (t116.toList == t114.toList)) else (some false)))=some r:=by rw [if_neg (show ¬ (false=true) by decide)] at H;exact H
        clear H
        have H:=H1
        clear H1
        by_cases c15:(wrap64 (Int.tmod a0 3))=2
        · rw [if_pos c15] at H
          have c15b0:((wrap64 (Int.tmod a0 3)) == 2)=true:=beq_iff_eq.mpr c15
          have c15b1:((wrap64 (Int.tmod a0 3)) != 2)=false:=bne_eq_false_iff_eq.mpr c15
          clear c15
          have H':=Aside0.mk H
          clear H
          go_wp2
          go_loopg [9,13] kj8 (fun kq v9 v13 w' => ∃ (x9_2:ByteArray) (x13_2:Int),v9 = .string x9_2∧v13 = .int .i64 x13_2∧Aside0 (flaillaw24_RoundsOnce.l0 kq a2 t113 x9_2 t116 x13_2=some r)∧Aside0 (kq≤kj8)∧Aside0 (Below w.heap.size w w'))
          case atStart=>exact ⟨(t114),(0),(by first|rfl | (simp;done) | (simp [*];done)),(by first|rfl | (simp;done) | (simp [*];done)),H',⟨Nat.le_refl _⟩,⟨by repeat (first | (with_reducible first|exact HB.out|apply below_alloc|apply pw_below_drewN|apply below_drew1)|exact HB.out)⟩⟩
          case round =>
           clear H'
           try clear c1
           try clear c2
           try clear p2
           try clear c5
           try clear c5b0
           try clear c5b1
           try clear p6
           try clear c13
           try clear c14
           try clear c15
           try clear c15b0
           try clear c15b1
           try clear p2
           try clear p6
           obtain ⟨x9_2,x13_2,rfl,rfl,HA,HK2,HB⟩:=hrel
           cases gk with
           | zero=>exact absurd HA.out (by simp [flaillaw24_RoundsOnce.l0])
           | succ k2 =>
             have H:=HA.out
             clear HA
             simp only [flaillaw24_RoundsOnce.l0] at H
             by_cases c16:x13_2<(wrap64 (Int.tmod a2 9))
             · rw [if_pos c16] at H
               have c16b0:decide (x13_2<(wrap64 (Int.tmod a2 9)))=true:=decide_eq_true c16
               clear c16
               replace H:=Option.bind_eq_some_iff.mp H
               obtain ⟨t118,A170,H⟩:=H
               replace H:(if t118=true then (if 1≤(x9_2.size:Int) then (flaillaw24_RoundsOnce.l0 k2 a2 t113 (x9_2.extract 1 x9_2.size) t116 (wrap64 (x13_2+1))) else (none)) else (flaillaw24_RoundsOnce.l0 k2 a2 t113 x9_2 t116 (wrap64 (x13_2+1))))=some r:=H
               have A17:=Aside0.mk A170
               clear A170
               by_cases c18:t118=true
               · subst c18
                 have H1:(if 1≤(x9_2.size:Int) then (flaillaw24_RoundsOnce.l0 k2 a2 t113 (x9_2.extract 1 x9_2.size) t116 (wrap64 (x13_2+1))) else (none))=some r:=by rw [if_pos rfl] at H;exact H
                 clear H
                 have H:=H1
                 clear H1
                 by_cases c19:1≤(x9_2.size:Int)
                 · rw [if_pos c19] at H
                   have c19b0:=eq_true c19
                   have c19b1:decide (1≤(x9_2.size:Int))=true:=decide_eq_true c19
                   clear c19
                   have H':=Aside0.mk H
                   clear H
                   go_wp2_with (first | ((with_reducible refine gate_callee (f:=25) rfl ?_);refine goesL_ (some 60) rfl rfl Tryz.func25 (by kernel_rfl) rfl #[.string x9_2,.string (⟨#[10]⟩:ByteArray)] rfl (by (try simp only [List.map_toArray,List.map_cons,List.map_nil]);first|done|rfl | (simp only [List.length_drop,List.length_take];rfl)) ?_;(with_reducible refine (flailref01_Begins.calls x9_2 (⟨#[10]⟩:ByteArray) true _ A17.out).mono ?_);rintro e w' ⟨rfl,⟨nd,rfl⟩⟩;refine ⟨_,rfl,?_⟩))
                   go_roundg k2
                   case measure=>have:=HJ8.out;have:=HK2.out;omega
                   case rel=>exact ⟨(x9_2.extract 1 x9_2.size),(wrap64 (x13_2+1)),(by first|rfl | (simp;done) | (simp [*];done)),(by first|rfl | (simp;done) | (simp [*];done)),H',⟨by have:=HJ8.out;have:=HK2.out;omega⟩,⟨by repeat (first | (with_reducible first|exact HB.out|apply below_alloc|apply pw_below_drewN|apply below_drew1)|exact HB.out)⟩⟩
                 · rw [if_neg c19] at H
                   exact absurd H (by simp)
               · replace c18:=Bool.eq_false_iff.mpr c18
                 subst c18
                 have H1:(flaillaw24_RoundsOnce.l0 k2 a2 t113 x9_2 t116 (wrap64 (x13_2+1)))=some r:=by rw [if_neg (show ¬ (false=true) by decide)] at H;exact H
                 clear H
                 have H:=H1
                 clear H1
                 have H':=Aside0.mk H
                 clear H
                 go_wp2_with (first | ((with_reducible refine gate_callee (f:=25) rfl ?_);refine goesL_ (some 60) rfl rfl Tryz.func25 (by kernel_rfl) rfl #[.string x9_2,.string (⟨#[10]⟩:ByteArray)] rfl (by (try simp only [List.map_toArray,List.map_cons,List.map_nil]);first|done|rfl | (simp only [List.length_drop,List.length_take];rfl)) ?_;(with_reducible refine (flailref01_Begins.calls x9_2 (⟨#[10]⟩:ByteArray) false _ A17.out).mono ?_);rintro e w' ⟨rfl,⟨nd,rfl⟩⟩;refine ⟨_,rfl,?_⟩))
                 go_roundg k2
                 case measure=>have:=HJ8.out;have:=HK2.out;omega
                 case rel=>exact ⟨(x9_2),(wrap64 (x13_2+1)),(by first|rfl | (simp;done) | (simp [*];done)),(by first|rfl | (simp;done) | (simp [*];done)),H',⟨by have:=HJ8.out;have:=HK2.out;omega⟩,⟨by repeat (first | (with_reducible first|exact HB.out|apply below_alloc|apply pw_below_drewN|apply below_drew1)|exact HB.out)⟩⟩
             · rw [if_neg c16] at H
               have c16b0:decide (x13_2<(wrap64 (Int.tmod a2 9)))=false:=decide_eq_false c16
               clear c16
               by_cases c20:t113=true
               · subst c20
                 have H1:(some (t116.toList == x9_2.toList))=some r:=by rw [if_pos rfl] at H;exact H
                 clear H
                 have H:=H1
                 clear H1
                 obtain rfl:=Option.some.inj H
                 go_wp2
                 go_ret
                 exact ⟨by first|rfl | (simp [errW_none,errW_some]<;>rfl) | (simp [*,errW_none,errW_some]<;>rfl),by repeat (first | (with_reducible first|exact HB.out|apply below_alloc|apply pw_below_drewN|apply below_drew1)|exact HB.out)⟩
               · replace c20:=Bool.eq_false_iff.mpr c20
                 subst c20
                 have H1:(some false)=some r:=by rw [if_neg (show ¬ (false=true) by decide)] at H;exact H
                 clear H
                 have H:=H1
                 clear H1
                 obtain rfl:=Option.some.inj H
                 go_wp2
                 go_ret
                 exact ⟨by first|rfl | (simp [errW_none,errW_some]<;>rfl) | (simp [*,errW_none,errW_some]<;>rfl),by repeat (first | (with_reducible first|exact HB.out|apply below_alloc|apply pw_below_drewN|apply below_drew1)|exact HB.out)⟩
        · rw [if_neg c15] at H
          have c15b0:((wrap64 (Int.tmod a0 3)) == 2)=false:=beq_eq_false_iff_ne.mpr c15
          have c15b1:((wrap64 (Int.tmod a0 3)) != 2)=true:=bne_iff_ne.mpr c15
          by_cases c21:t113=true
          · subst c21
            have H1:(some (t116.toList == t114.toList))=some r:=by rw [if_pos rfl] at H;exact H
            clear H
            have H:=H1
            clear H1
            obtain rfl:=Option.some.inj H
            go_wp2
            go_ret
            exact ⟨by first|rfl | (simp [errW_none,errW_some]<;>rfl) | (simp [*,errW_none,errW_some]<;>rfl),by repeat (first | (with_reducible first|exact HB.out|apply below_alloc|apply pw_below_drewN|apply below_drew1)|exact HB.out)⟩
          · replace c21:=Bool.eq_false_iff.mpr c21
            subst c21
            have H1:(some false)=some r:=by rw [if_neg (show ¬ (false=true) by decide)] at H;exact H
            clear H
            have H:=H1
            clear H1
            obtain rfl:=Option.some.inj H
            go_wp2
            go_ret
            exact ⟨by first|rfl | (simp [errW_none,errW_some]<;>rfl) | (simp [*,errW_none,errW_some]<;>rfl),by repeat (first | (with_reducible first|exact HB.out|apply below_alloc|apply pw_below_drewN|apply below_drew1)|exact HB.out)⟩
end Go.Proofs.YtcecjoaeolglbaaGreatDoor.So
end

section
namespace Go.Proofs.YtcecjoaeolglbaaGreatDoor.Pro
open Go Go.RowKit Go.Proofs.YtcecjoaeolglbaaGreatDoor.K0 Go.Proofs.YtcecjoaeolglbaaGreatDoor.Hand Go.Proofs.YtcecjoaeolglbaaGreatDoor.Sa Go.Proofs.YtcecjoaeolglbaaGreatDoor.So Go.Proofs.YtcecjoaeolglbaaGreatDoorW.PrintWords Go.Proofs.YtcecjoaeolglbaaGreatDoorW.PrintMore Go.Proofs.YtcecjoaeolglbaaGreatDoor.Pl Go.Proofs.YtcecjoaeolglbaaGreatDoor.Pb Go.Proofs.YtcecjoaeolglbaaGreatDoor.Pure
theorem int_wfo {k:IntKind} {d:Int} (h:(Lit.int k d).wf=true):k.min≤d∧d≤k.max:=by simpa [Lit.wf] using h
theorem u8_in {d:Int} (h:(Lit.int .u8 d).wf=true):0≤d∧d≤255:=⟨Int.le_trans (by decide) (int_wfo h).1,Int.le_trans (int_wfo h).2 (by decide)⟩
theorem mod3 {d:Int} (h:(Lit.int .u8 d).wf=true):wrap64 (Int.tmod d 3)=0∨wrap64 (Int.tmod d 3)=1∨wrap64 (Int.tmod d 3)=2:=by
 obtain ⟨r0,r1⟩:=u8_in h
 rw [Int.tmod_eq_emod_of_nonneg r0];unfold wrap64;omega
theorem round_f (k:Int) (hk:k=0∨k=1∨k=2) (s:List UInt8) (hs:s.length≤3000):rounds_Round.f k (B s)=some (B (roundL k s),true):=by
 unfold rounds_Round.f
 rw [if_pos ⟨by rw [size_B];exact hs,hk⟩,B_data]
theorem rounds_f (k:Int) (hk:k=0∨k=1∨k=2) (n:Nat) (hn:n≤1000) (s:List UInt8) (hs:s.length≤1000):rounds_Rounds.f k (B s) (n:Int)=some (B (roundsL k n s),true):=by
 unfold rounds_Rounds.f
 rw [if_pos ⟨hk,by omega,by omega,by rw [size_B];exact hs⟩,B_data,Int.toNat_natCast]
theorem serial_f (k:Int) (hk:k=0∨k=1∨k=2) (s:List UInt8) (hs:s.length≤100000):rounds_Serial.f k (B s)=some (B (serL k s)):=by
 unfold rounds_Serial.f
 rw [if_pos ⟨by rw [size_B];exact hs,by omega,by omega⟩,B_data]
theorem awake24:flaillaw24_awake.f=some true:=by
 unfold flaillaw24_awake.f
 rw [show (⟨#[97,34,98,60]⟩:ByteArray)=B [97,34,98,60] from rfl,show (⟨#[10,97]⟩:ByteArray)=B [10,97] from rfl,show (⟨#[97,38,194,160]⟩:ByteArray)=B [97,38,194,160] from rfl,
  round_f 1 (by decide) _ (by decide),show (3:Int)=((3:Nat):Int) from rfl,rounds_f 2 (by decide) 3 (by decide) _ (by decide),serial_f 0 (by decide) _ (by decide)]
 simp only [Option.bind_some,toList_B,if_true]
 rw [show roundL 1 [97,34,98,60]=[97,34,98,60] by decide +kernel,show roundsL 2 3 [10,97]=[97] by decide +kernel,show serL 0 [97,38,194,160]=[97,38,97,109,112,59,38,110,98,115,112,59] by decide +kernel]
 rfl
theorem begins10 (s:List UInt8):flailref01_Begins.f (B s) ⟨#[10]⟩=some (s.head? == some 10):=by
 have h1:(⟨#[10]⟩:ByteArray).size=1:=rfl
 unfold flailref01_Begins.f
 rw [h1,size_B]
 cases s with
 | nil=>rfl
 | cons c r =>
   rw [if_neg (by simp;omega),if_pos (by decide),if_pos (by simp;omega),show (⟨#[10]⟩:ByteArray)=B [10] from rfl,B_extract,toList_B,toList_B]
   congr 1
   show ([c] == [10])=(some c == some 10)
   rw [Bool.eq_iff_iff];simp
theorem head_trim {s:List UInt8} (h:s.head? = some 10):1≤s.length∧(B s).extract 1 s.length=B (trimN s):=by
 cases s with
 | nil=>cases h
 | cons c r =>
   have hc:c=10:=by simpa using h
   subst hc
   refine ⟨by simp,?_⟩
   rw [B_extract,List.take_length]
   rfl
theorem head_stay {s:List UInt8} (h:s.head? ≠ some 10):trimN s=s:=trimN_of h
theorem trims_succ:∀ (n:Nat) (s:List UInt8),trimsN (n+1) s=trimN (trimsN n s):=by
 intro n
 induction n with
 | zero=>intro s;rfl
 | succ n ih=>intro s;rw [trimsN,ih (trimN s)];rfl
theorem once_l0 (a2:Int) (m:Nat) (hm:wrap64 (Int.tmod a2 9)=(m:Int)) (hm9:m≤9) (x:List UInt8) (hx:x.length≤900):∀ d i:Nat,m - i=d→i≤m →
  Ev (fun k=>flaillaw24_RoundsOnce.l0 k a2 true (B (trimsN i x)) (B (trimsN m x)) (i:Int)) true:=by
 intro d
 induction d with
 | zero =>
   intro i hd hi
   obtain rfl:i=m:=by omega
   refine Ev.step (f:=fun _=>some true) (fun k => ?_) (Ev.now _)
   rw [flaillaw24_RoundsOnce.l0,hm,if_neg (by omega),if_pos rfl]
   simp
 | succ d ih =>
   intro i hd hi
   have hlt:i<m:=by omega
   have hl:=trimsN_len i x
   have w:wrap64 ((i:Int)+1)=((i+1:Nat):Int):=by unfold wrap64;omega
   have go:=ih (i+1) (by omega) (by omega)
   rw [trims_succ] at go
   by_cases hh:(trimsN i x).head? = some 10
   · obtain ⟨h1,h2⟩:=head_trim hh
     refine Ev.step (fun k => ?_) go
     rw [flaillaw24_RoundsOnce.l0,hm,if_pos (by omega),begins10,Option.bind_some,if_pos (by rw [hh];rfl),if_pos (by rw [size_B];omega),size_B,h2,w]
   · rw [head_stay hh] at go
     refine Ev.step (fun k => ?_) go
     rw [flaillaw24_RoundsOnce.l0,hm,if_pos (by omega),begins10,Option.bind_some,if_neg (by simpa using hh),w]
theorem once_f (a0 a2:Int) (s:List UInt8) (h0:(Lit.int .u8 a0).wf=true) (h2:(Lit.int .u8 a2).wf=true) (hs:s.length≤300):∃ k,flaillaw24_RoundsOnce.f k a0 (B s) a2=some true:=by
 have hk:=mod3 h0
 obtain ⟨r0,r1⟩:=u8_in h2
 obtain ⟨m,hm⟩:∃ m:Nat,wrap64 (Int.tmod a2 9)=(m:Int):=⟨(wrap64 (Int.tmod a2 9)).toNat,by rw [Int.tmod_eq_emod_of_nonneg r0];unfold wrap64;omega⟩
 have hm9:m≤9:=by rw [Int.tmod_eq_emod_of_nonneg r0] at hm;unfold wrap64 at hm;omega
 have hw:wrap64 (1+(m:Int))=((m+1:Nat):Int):=by unfold wrap64;omega
 have hE:Ev (fun k=>flaillaw24_RoundsOnce.j0 k a2 true (wrap64 (Int.tmod a0 3)) (B (roundL (wrap64 (Int.tmod a0 3)) s)) (B (roundsL (wrap64 (Int.tmod a0 3)) (m+1) s)) false) true:=by
  generalize wrap64 (Int.tmod a0 3)=k0 at hk
  rw [rounds_after k0 hk]
  by_cases h22:k0=2
  · subst h22
    have hl:=roundL_len 2 s
    refine Ev.step (fun k => ?_) (once_l0 a2 m hm hm9 (roundL 2 s) (by omega) m 0 (by omega) (Nat.zero_le _))
    rw [flaillaw24_RoundsOnce.j0,if_neg (by decide),if_pos rfl,if_pos rfl]
    rfl
  · refine Ev.step (f:=fun _=>some true) (fun k => ?_) (Ev.now _)
    rw [flaillaw24_RoundsOnce.j0,if_neg (by decide),if_neg h22,if_pos rfl,if_neg h22]
    simp
 obtain ⟨k,hkk⟩:=hE.rounds
 refine ⟨k,?_⟩
 unfold flaillaw24_RoundsOnce.f
 rw [awake24,Option.bind_some,if_neg (by rw [size_B];omega),round_f _ hk _ (by omega),Option.bind_some,hm,hw,rounds_f _ hk _ (by omega) _ (by omega),Option.bind_some,if_pos rfl]
 exact hkk
end Go.Proofs.YtcecjoaeolglbaaGreatDoor.Pro
namespace Go.Proofs.YtcecjoaeolglbaaGreatDoor.Hand
open Go Go.RowKit Go.Proofs.YtcecjoaeolglbaaGreatDoor.Pl Go.Proofs.YtcecjoaeolglbaaGreatDoor.Pb Go.Proofs.YtcecjoaeolglbaaGreatDoor.Pro Go.Proofs.YtcecjoaeolglbaaGreatDoor.So Go.Proofs.YtcecjoaeolglbaaGreatDoorW.PrintWords
theorem RoundsOnce_law (a0:Int) (a1:ByteArray) (a2:Int) (w:World) (w0:(Lit.int .u8 a0).wf=true) (_:a1.size≤140737488351232) (w2:(Lit.int .u8 a2).wf=true) (hGl:Glob w) :
  Calls Tryz.prog 5 #[.int .u8 a0,.string a1,.int .u8 a2] w fun e w'=>e = .returned (.bool true)∧Below w.heap.size w w':=by
 have h:∃ k,flaillaw24_RoundsOnce.f k a0 a1 a2=some true:=by
  obtain ⟨s,rfl⟩:=exists_B a1
  by_cases hb:300<s.length
  · exact ⟨0,by unfold flaillaw24_RoundsOnce.f;rw [awake24,Option.bind_some,if_pos (by rw [size_B];omega)]⟩
  · exact once_f a0 a2 s w0 w2 (by omega)
 obtain ⟨k,hk⟩:=h
 exact flaillaw24_RoundsOnce.calls k a0 a1 a2 true w hGl hk
end Go.Proofs.YtcecjoaeolglbaaGreatDoor.Hand
end
