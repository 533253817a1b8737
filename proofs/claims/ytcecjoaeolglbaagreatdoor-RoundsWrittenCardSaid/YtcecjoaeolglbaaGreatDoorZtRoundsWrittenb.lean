/-
  Texts of the claim RoundsWritten, merged by a program of this session (2).
-/
import Derived.Test.YtcecjoaeolglbaaGreatDoorZtRoundsWrittena
set_option linter.unusedVariables false
set_option linter.unusedSimpArgs false
section
namespace Go.Proofs.YtcecjoaeolglbaaGreatDoor.St
open Go.RowKit Go.Proofs.YtcecjoaeolglbaaGreatDoor.K0 Go.Proofs.YtcecjoaeolglbaaGreatDoor.Hand Go.Proofs.YtcecjoaeolglbaaGreatDoor.Sa Go.Proofs.YtcecjoaeolglbaaGreatDoor.Si Go.Proofs.YtcecjoaeolglbaaGreatDoorW.PrintWords Go.Proofs.YtcecjoaeolglbaaGreatDoorW.PrintLast Go.Proofs.YtcecjoaeolglbaaGreatDoorW.PrintMore
attribute [local go_sem] max2_int min2_int max_two min_two max_three min_three max_four min_four  
set_option linter.unusedVariables false
set_option linter.unusedSimpArgs false
noncomputable def context_value.f (l0:List (S46)):Option (ByteArray×Bool):=if (l0.length:Int)=1 then (if 0<(l0.length:Int) then ((context_plain.f ((rd_T46 l0 0).f0) ((rd_T46 l0 0).f1) ((rd_T46 l0 0).f2) ((rd_T46 l0 0).f3) ((rd_T46 l0 0).f4) 1 (⟨#[97]⟩:ByteArray) 1).bind fun t169=>(if t169=true then (if 0<(((rd_T46 l0 0).f3).length:Int) then (if ((rd_T87 ((rd_T46 l0 0).f3) 0).f0).toList=([120]:List UInt8) then (some ((rd_T87 ((rd_T46 l0 0).f3) 0).f1,true)) else (some ((⟨#[]⟩:ByteArray),false))) else (none)) else (some ((⟨#[]⟩:ByteArray),false)))) else (none)) else (some ((⟨#[]⟩:ByteArray),false))
set_option maxHeartbeats 8000000 in
set_option maxRecDepth 100000 in
theorem context_value.calls (A0:Option Addr) (c0:Nat) (l0:List (S46)) (r1:ByteArray) (r2:Bool) (w:World) (hr0:Kd.C k46 w A0 l0.length l0) (hc0:l0.length≤c0) (h:context_value.f l0=some (r1,r2)) :
  Calls Tryz.prog 40 #[.slice A0 l0.length c0] w fun e w'=>e = .returned (.tuple #[.string r1,.bool r2])∧Below w.heap.size w w':=by
 have hu46:=Tryz.underlying46
 have HR0:=Aside0.mk hr0
 have HC0:=Aside0.mk hc0
 clear hr0 hc0
 have HB:=Aside0.mk (Below.refl w.heap.size w)
 have H:(if (l0.length:Int)=1 then (if 0<(l0.length:Int) then ((context_plain.f ((rd_T46 l0 0).f0) ((rd_T46 l0 0).f1) ((rd_T46 l0 0).f2) ((rd_T46 l0 0).f3) ((rd_T46 l0 0).f4) 1 (⟨#[97]⟩:ByteArray) 1).bind fun t169=>(if t169=true then (if 0<(((rd_T46 l0 0).f3).length:Int) then (if ((rd_T87 ((rd_T46 l0 0).f3) 0).f0).toList=([120]:List UInt8) then (some ((rd_T87 ((rd_T46 l0 0).f3) 0).f1,true)) else (some ((⟨#[]⟩:ByteArray),false))) else (none)) else (some ((⟨#[]⟩:ByteArray),false)))) else (none)) else (some ((⟨#[]⟩:ByteArray),false)))=some (r1,r2):=h
 clear h
 by_cases c2:(l0.length:Int)=1
 · rw [if_pos c2] at H
   have c2b0:((l0.length:Int) == 1)=true:=beq_iff_eq.mpr c2
   have c2b1:((l0.length:Int) != 1)=false:=bne_eq_false_iff_eq.mpr c2
   clear c2
   by_cases c3:0<(l0.length:Int)
   · rw [if_pos c3] at H
     have c3b0:decide (0<(l0.length:Int))=true:=decide_eq_true c3
     have c3b1:decide (0<l0.length)=true:=decide_eq_true (by omega)
     clear c3
     replace H:=Option.bind_eq_some_iff.mp H
     obtain ⟨t169,A40,H⟩:=H
     replace H:(if t169=true then (if 0<(((rd_T46 l0 0).f3).length:Int) then (if ((rd_T87 ((rd_T46 l0 0).f3) 0).f0).toList=([120]:List UInt8) then (some ((rd_T87 ((rd_T46 l0 0).f3) 0).f1,true)) else (some ((⟨#[]⟩:ByteArray),false))) else (none)) else (some ((⟨#[]⟩:ByteArray),false)))=some (r1,r2):=H
     have A4:=Aside0.mk A40
     clear A40
     by_cases c5:t169=true
     · subst c5
       have H1:(if 0<(((rd_T46 l0 0).f3).length:Int) then (if ((rd_T87 ((rd_T46 l0 0).f3) 0).f0).toList=([120]:List UInt8) then (some ((rd_T87 ((rd_T46 l0 0).f3) 0).f1,true)) else (some ((⟨#[]⟩:ByteArray),false))) else (none))=some (r1,r2):=by rw [if_pos rfl] at H;exact H
       clear H
       have H:=H1
       clear H1
       by_cases c6:0<(((rd_T46 l0 0).f3).length:Int)
       · rw [if_pos c6] at H
         have c6b0:decide (0<(((rd_T46 l0 0).f3).length:Int))=true:=decide_eq_true c6
         have c6b1:decide (0<((rd_T46 l0 0).f3).length)=true:=decide_eq_true (by omega)
         clear c6
         by_cases c7:((rd_T87 ((rd_T46 l0 0).f3) 0).f0).toList=([120]:List UInt8)
         · rw [if_pos c7] at H
           have c7b0:(((rd_T87 ((rd_T46 l0 0).f3) 0).f0).toList == ([120]:List UInt8))=true:=beq_iff_eq.mpr c7
           have c7b1:(((rd_T87 ((rd_T46 l0 0).f3) 0).f0).toList != ([120]:List UInt8))=false:=bne_eq_false_iff_eq.mpr c7
           clear c7
           simp only [Option.some.injEq,Prod.mk.injEq] at H
           obtain ⟨rfl,rfl⟩:=H
           have p168:0≤(0:Int):=(by omega)
           have q168:0<(l0.length:Int):=of_decide_eq_true (by first | (with_reducible assumption)|assumption)
           obtain ⟨ad168,A168_3,c168_3,e168,hx168_0,hx168_1,hx168_2,hx168_3,hx168_4,hl168_3,hi168_3⟩:=at_T46 HR0.out 0 p168 q168
           cases e168
           have qi168:(0<l0.length)=True:=eq_true (by omega)
           (try rw [show ((0:Int)).toNat=0 from rfl] at hx168_0)
           (try rw [show 0*5=0 from rfl] at hx168_0)
           (try rw [Addr.add_zero'] at hx168_0)
           (try rw [show ((0:Int)).toNat=0 from rfl] at hx168_1)
           (try rw [show 0*5=0 from rfl] at hx168_1)
           (try rw [Addr.add_zero'] at hx168_1)
           (try rw [show ((0:Int)).toNat=0 from rfl] at hx168_2)
           (try rw [show 0*5=0 from rfl] at hx168_2)
           (try rw [Addr.add_zero'] at hx168_2)
           (try rw [show ((0:Int)).toNat=0 from rfl] at hx168_3)
           (try rw [show 0*5=0 from rfl] at hx168_3)
           (try rw [Addr.add_zero'] at hx168_3)
           (try rw [show ((0:Int)).toNat=0 from rfl] at hx168_4)
           (try rw [show 0*5=0 from rfl] at hx168_4)
           (try rw [Addr.add_zero'] at hx168_4)
           have HR168_3:=Aside0.mk hi168_3
           have HC168_3:=Aside0.mk hl168_3
           clear hi168_3 hl168_3
           replace p168:=eq_true p168
           replace q168:=eq_true q168
           go_enter Tryz.func40,Tryz.ntmps40
           go_wp2_with (first | (go_at_call 66;(with_reducible refine (context_plain.calls ((rd_T46 l0 0).f0) ((rd_T46 l0 0).f1) ((rd_T46 l0 0).f2) _ _ ((rd_T46 l0 0).f3) ((rd_T46 l0 0).f4) 1 (⟨#[97]⟩:ByteArray) 1 true _ ?side1 ?side2 A4.out).mono ?_);(case side1=>repeat (first|exact HR168_3.out | (with_reducible refine Kd.C_alloc ?_ _) | (with_reducible refine Kd.C_drewN ?_ _) | (with_reducible refine Kd.C_drew ?_)));(case side2=>exact HC168_3.out);rintro e w8 ⟨rfl,hb⟩;have n0_:=Aside0.mk (below_step (by repeat (first | (with_reducible first|exact HB.out|apply below_alloc|apply pw_below_drewN|apply below_drew1)|exact HB.out)) hb);clear HB;have HB:=n0_;clear n0_;(try clear hb);(try clear hb2);(try clear hk);(try clear hi);have p170:0≤(0:Int):=(by omega);have q170:0<(l0.length:Int):=of_decide_eq_true (by first | (with_reducible assumption)|assumption);obtain ⟨ad170,A170_3,c170_3,e170,hx170_0,hx170_1,hx170_2,hx170_3,hx170_4,hl170_3,hi170_3⟩:=at_T46 HR0.out 0 p170 q170;obtain rfl:ad168=ad170:=(by injection e170);have qi170:(0<l0.length)=True:=eq_true (by omega);(try rw [show ((0:Int)).toNat=0 from rfl] at hx170_0);(try rw [show 0*5=0 from rfl] at hx170_0);(try rw [Addr.add_zero'] at hx170_0);(try rw [show ((0:Int)).toNat=0 from rfl] at hx170_1);(try rw [show 0*5=0 from rfl] at hx170_1);(try rw [Addr.add_zero'] at hx170_1);(try rw [show ((0:Int)).toNat=0 from rfl] at hx170_2);(try rw [show 0*5=0 from rfl] at hx170_2);(try rw [Addr.add_zero'] at hx170_2);(try rw [show ((0:Int)).toNat=0 from rfl] at hx170_3);(try rw [show 0*5=0 from rfl] at hx170_3);(try rw [Addr.add_zero'] at hx170_3);(try rw [show ((0:Int)).toNat=0 from rfl] at hx170_4);(try rw [show 0*5=0 from rfl] at hx170_4);(try rw [Addr.add_zero'] at hx170_4);replace hx170_0:=(HB.out.cell (World.block_lt_of_cell? w _ hx170_0)).trans hx170_0;replace hx170_1:=(HB.out.cell (World.block_lt_of_cell? w _ hx170_1)).trans hx170_1;replace hx170_2:=(HB.out.cell (World.block_lt_of_cell? w _ hx170_2)).trans hx170_2;replace hx170_3:=(HB.out.cell (World.block_lt_of_cell? w _ hx170_3)).trans hx170_3;replace hx170_4:=(HB.out.cell (World.block_lt_of_cell? w _ hx170_4)).trans hx170_4;have HR170_3:=Aside0.mk hi170_3;have HC170_3:=Aside0.mk hl170_3;clear hi170_3 hl170_3;replace p170:=eq_true p170;replace q170:=eq_true q170;have p171:0≤(0:Int):=(by omega);have q171:0<(((rd_T46 l0 0).f3).length:Int):=of_decide_eq_true (by first | (with_reducible assumption)|assumption);obtain ⟨ad171,e171,hx171_0,hx171_1⟩:=at_T87 HR170_3.out 0 p171 q171;cases e171;have qi171:(0<((rd_T46 l0 0).f3).length)=True:=eq_true (by omega);(try rw [show ((0:Int)).toNat=0 from rfl] at hx171_0);(try rw [show 0*2=0 from rfl] at hx171_0);(try rw [Addr.add_zero'] at hx171_0);(try rw [show ((0:Int)).toNat=0 from rfl] at hx171_1);(try rw [show 0*2=0 from rfl] at hx171_1);(try rw [Addr.add_zero'] at hx171_1);replace hx171_0:=(HB.out.cell (World.block_lt_of_cell? w _ hx171_0)).trans hx171_0;replace hx171_1:=(HB.out.cell (World.block_lt_of_cell? w _ hx171_1)).trans hx171_1;replace p171:=eq_true p171;replace q171:=eq_true q171;have p172:0≤(0:Int):=(by omega);have q172:0<(l0.length:Int):=of_decide_eq_true (by first | (with_reducible assumption)|assumption);obtain ⟨ad172,A172_3,c172_3,e172,hx172_0,hx172_1,hx172_2,hx172_3,hx172_4,hl172_3,hi172_3⟩:=at_T46 HR0.out 0 p172 q172;obtain rfl:ad168=ad172:=(by injection e172);have qi172:(0<l0.length)=True:=eq_true (by omega);(try rw [show ((0:Int)).toNat=0 from rfl] at hx172_0);(try rw [show 0*5=0 from rfl] at hx172_0);(try rw [Addr.add_zero'] at hx172_0);(try rw [show ((0:Int)).toNat=0 from rfl] at hx172_1);(try rw [show 0*5=0 from rfl] at hx172_1);(try rw [Addr.add_zero'] at hx172_1);(try rw [show ((0:Int)).toNat=0 from rfl] at hx172_2);(try rw [show 0*5=0 from rfl] at hx172_2);(try rw [Addr.add_zero'] at hx172_2);(try rw [show ((0:Int)).toNat=0 from rfl] at hx172_3);(try rw [show 0*5=0 from rfl] at hx172_3);(try rw [Addr.add_zero'] at hx172_3);(try rw [show ((0:Int)).toNat=0 from rfl] at hx172_4);(try rw [show 0*5=0 from rfl] at hx172_4);(try rw [Addr.add_zero'] at hx172_4);replace hx172_0:=(HB.out.cell (World.block_lt_of_cell? w _ hx172_0)).trans hx172_0;replace hx172_1:=(HB.out.cell (World.block_lt_of_cell? w _ hx172_1)).trans hx172_1;replace hx172_2:=(HB.out.cell (World.block_lt_of_cell? w _ hx172_2)).trans hx172_2;replace hx172_3:=(HB.out.cell (World.block_lt_of_cell? w _ hx172_3)).trans hx172_3;replace hx172_4:=(HB.out.cell (World.block_lt_of_cell? w _ hx172_4)).trans hx172_4;have HR172_3:=Aside0.mk hi172_3;have HC172_3:=Aside0.mk hl172_3;clear hi172_3 hl172_3;replace p172:=eq_true p172;replace q172:=eq_true q172;have ea_:=Option.some.inj (hx170_3.symm.trans hx172_3);injection ea_ with ea_ en_ ec_;subst ea_;subst ec_;clear en_;have p173:0≤(0:Int):=(by omega);have q173:0<(((rd_T46 l0 0).f3).length:Int):=of_decide_eq_true (by first | (with_reducible assumption)|assumption);obtain ⟨ad173,e173,hx173_0,hx173_1⟩:=at_T87 HR172_3.out 0 p173 q173;cases e173;have qi173:(0<((rd_T46 l0 0).f3).length)=True:=eq_true (by omega);(try rw [show ((0:Int)).toNat=0 from rfl] at hx173_0);(try rw [show 0*2=0 from rfl] at hx173_0);(try rw [Addr.add_zero'] at hx173_0);(try rw [show ((0:Int)).toNat=0 from rfl] at hx173_1);(try rw [show 0*2=0 from rfl] at hx173_1);(try rw [Addr.add_zero'] at hx173_1);replace hx173_0:=(HB.out.cell (World.block_lt_of_cell? w _ hx173_0)).trans hx173_0;replace hx173_1:=(HB.out.cell (World.block_lt_of_cell? w _ hx173_1)).trans hx173_1;replace p173:=eq_true p173;replace q173:=eq_true q173))
           go_ret2
           exact ⟨by first|rfl | (simp [errW_none,errW_some]<;>rfl) | (simp [*,errW_none,errW_some]<;>rfl),by repeat (first | (with_reducible first|exact HB.out|apply below_alloc|apply pw_below_drewN|apply below_drew1)|exact HB.out)⟩
         · rw [if_neg c7] at H
           have c7b0:(((rd_T87 ((rd_T46 l0 0).f3) 0).f0).toList == ([120]:List UInt8))=false:=beq_eq_false_iff_ne.mpr c7
           have c7b1:(((rd_T87 ((rd_T46 l0 0).f3) 0).f0).toList != ([120]:List UInt8))=true:=bne_iff_ne.mpr c7
           simp only [Option.some.injEq,Prod.mk.injEq] at H
           obtain ⟨rfl,rfl⟩:=H
           have p168:0≤(0:Int):=(by omega)
           have q168:0<(l0.length:Int):=of_decide_eq_true (by first | (with_reducible assumption)|assumption)
           obtain ⟨ad168,A168_3,c168_3,e168,hx168_0,hx168_1,hx168_2,hx168_3,hx168_4,hl168_3,hi168_3⟩:=at_T46 HR0.out 0 p168 q168
           cases e168
           have qi168:(0<l0.length)=True:=eq_true (by omega)
           (try rw [show ((0:Int)).toNat=0 from rfl] at hx168_0)
           (try rw [show 0*5=0 from rfl] at hx168_0)
           (try rw [Addr.add_zero'] at hx168_0)
           (try rw [show ((0:Int)).toNat=0 from rfl] at hx168_1)
           (try rw [show 0*5=0 from rfl] at hx168_1)
           (try rw [Addr.add_zero'] at hx168_1)
           (try rw [show ((0:Int)).toNat=0 from rfl] at hx168_2)
           (try rw [show 0*5=0 from rfl] at hx168_2)
           (try rw [Addr.add_zero'] at hx168_2)
           (try rw [show ((0:Int)).toNat=0 from rfl] at hx168_3)
           (try rw [show 0*5=0 from rfl] at hx168_3)
           (try rw [Addr.add_zero'] at hx168_3)
           (try rw [show ((0:Int)).toNat=0 from rfl] at hx168_4)
           (try rw [show 0*5=0 from rfl] at hx168_4)
           (try rw [Addr.add_zero'] at hx168_4)
           have HR168_3:=Aside0.mk hi168_3
           have HC168_3:=Aside0.mk hl168_3
           clear hi168_3 hl168_3
           replace p168:=eq_true p168
           replace q168:=eq_true q168
           go_enter Tryz.func40,Tryz.ntmps40
           go_wp2_with (first | (go_at_call 66;(with_reducible refine (context_plain.calls ((rd_T46 l0 0).f0) ((rd_T46 l0 0).f1) ((rd_T46 l0 0).f2) _ _ ((rd_T46 l0 0).f3) ((rd_T46 l0 0).f4) 1 (⟨#[97]⟩:ByteArray) 1 true _ ?side1 ?side2 A4.out).mono ?_);(case side1=>repeat (first|exact HR168_3.out | (with_reducible refine Kd.C_alloc ?_ _) | (with_reducible refine Kd.C_drewN ?_ _) | (with_reducible refine Kd.C_drew ?_)));(case side2=>exact HC168_3.out);rintro e w9 ⟨rfl,hb⟩;have n0_:=Aside0.mk (below_step (by repeat (first | (with_reducible first|exact HB.out|apply below_alloc|apply pw_below_drewN|apply below_drew1)|exact HB.out)) hb);clear HB;have HB:=n0_;clear n0_;(try clear hb);(try clear hb2);(try clear hk);(try clear hi);have p170:0≤(0:Int):=(by omega);have q170:0<(l0.length:Int):=of_decide_eq_true (by first | (with_reducible assumption)|assumption);obtain ⟨ad170,A170_3,c170_3,e170,hx170_0,hx170_1,hx170_2,hx170_3,hx170_4,hl170_3,hi170_3⟩:=at_T46 HR0.out 0 p170 q170;obtain rfl:ad168=ad170:=(by injection e170);have qi170:(0<l0.length)=True:=eq_true (by omega);(try rw [show ((0:Int)).toNat=0 from rfl] at hx170_0);(try rw [show 0*5=0 from rfl] at hx170_0);(try rw [Addr.add_zero'] at hx170_0);(try rw [show ((0:Int)).toNat=0 from rfl] at hx170_1);(try rw [show 0*5=0 from rfl] at hx170_1);(try rw [Addr.add_zero'] at hx170_1);(try rw [show ((0:Int)).toNat=0 from rfl] at hx170_2);(try rw [show 0*5=0 from rfl] at hx170_2);(try rw [Addr.add_zero'] at hx170_2);(try rw [show ((0:Int)).toNat=0 from rfl] at hx170_3);(try rw [show 0*5=0 from rfl] at hx170_3);(try rw [Addr.add_zero'] at hx170_3);(try rw [show ((0:Int)).toNat=0 from rfl] at hx170_4);(try rw [show 0*5=0 from rfl] at hx170_4);(try rw [Addr.add_zero'] at hx170_4);replace hx170_0:=(HB.out.cell (World.block_lt_of_cell? w _ hx170_0)).trans hx170_0;replace hx170_1:=(HB.out.cell (World.block_lt_of_cell? w _ hx170_1)).trans hx170_1;replace hx170_2:=(HB.out.cell (World.block_lt_of_cell? w _ hx170_2)).trans hx170_2;replace hx170_3:=(HB.out.cell (World.block_lt_of_cell? w _ hx170_3)).trans hx170_3;replace hx170_4:=(HB.out.cell (World.block_lt_of_cell? w _ hx170_4)).trans hx170_4;have HR170_3:=Aside0.mk hi170_3;have HC170_3:=Aside0.mk hl170_3;clear hi170_3 hl170_3;replace p170:=eq_true p170;replace q170:=eq_true q170;have p171:0≤(0:Int):=(by omega);have q171:0<(((rd_T46 l0 0).f3).length:Int):=of_decide_eq_true (by first | (with_reducible assumption)|assumption);obtain ⟨ad171,e171,hx171_0,hx171_1⟩:=at_T87 HR170_3.out 0 p171 q171;cases e171;have qi171:(0<((rd_T46 l0 0).f3).length)=True:=eq_true (by omega);(try rw [show ((0:Int)).toNat=0 from rfl] at hx171_0);(try rw [show 0*2=0 from rfl] at hx171_0);(try rw [Addr.add_zero'] at hx171_0);(try rw [show ((0:Int)).toNat=0 from rfl] at hx171_1);(try rw [show 0*2=0 from rfl] at hx171_1);(try rw [Addr.add_zero'] at hx171_1);replace hx171_0:=(HB.out.cell (World.block_lt_of_cell? w _ hx171_0)).trans hx171_0;replace hx171_1:=(HB.out.cell (World.block_lt_of_cell? w _ hx171_1)).trans hx171_1;replace p171:=eq_true p171;replace q171:=eq_true q171))
           go_ret2
           exact ⟨by first|rfl | (simp [errW_none,errW_some]<;>rfl) | (simp [*,errW_none,errW_some]<;>rfl),by repeat (first | (with_reducible first|exact HB.out|apply below_alloc|apply pw_below_drewN|apply below_drew1)|exact HB.out)⟩
       · rw [if_neg c6] at H
         exact absurd H (by simp)
     · replace c5:=Bool.eq_false_iff.mpr c5
       subst c5
       have H1:(some ((⟨#[]⟩:ByteArray),false))=some (r1,r2):=by rw [if_neg (show ¬ (false=true) by decide)] at H;exact H
       clear H
       have H:=H1
       clear H1
       simp only [Option.some.injEq,Prod.mk.injEq] at H
       obtain ⟨rfl,rfl⟩:=H
       have p168:0≤(0:Int):=(by omega)
       have q168:0<(l0.length:Int):=of_decide_eq_true (by first | (with_reducible assumption)|assumption)
       obtain ⟨ad168,A168_3,c168_3,e168,hx168_0,hx168_1,hx168_2,hx168_3,hx168_4,hl168_3,hi168_3⟩:=at_T46 HR0.out 0 p168 q168
       cases e168
       have qi168:(0<l0.length)=True:=eq_true (by omega)
       (try rw [show ((0:Int)).toNat=0 from rfl] at hx168_0)
       (try rw [show 0*5=0 from rfl] at hx168_0)
       (try rw [Addr.add_zero'] at hx168_0)
       (try rw [show ((0:Int)).toNat=0 from rfl] at hx168_1)
       (try rw [show 0*5=0 from rfl] at hx168_1)
       (try rw [Addr.add_zero'] at hx168_1)
       (try rw [show ((0:Int)).toNat=0 from rfl] at hx168_2)
       (try rw [show 0*5=0 from rfl] at hx168_2)
       (try rw [Addr.add_zero'] at hx168_2)
       (try rw [show ((0:Int)).toNat=0 from rfl] at hx168_3)
       (try rw [show 0*5=0 from rfl] at hx168_3)
       (try rw [Addr.add_zero'] at hx168_3)
       (try rw [show ((0:Int)).toNat=0 from rfl] at hx168_4)
       (try rw [show 0*5=0 from rfl] at hx168_4)
       (try rw [Addr.add_zero'] at hx168_4)
       have HR168_3:=Aside0.mk hi168_3
       have HC168_3:=Aside0.mk hl168_3
       clear hi168_3 hl168_3
       replace p168:=eq_true p168
       replace q168:=eq_true q168
       go_enter Tryz.func40,Tryz.ntmps40
       go_wp2_with (first | (go_at_call 66;(with_reducible refine (context_plain.calls ((rd_T46 l0 0).f0) ((rd_T46 l0 0).f1) ((rd_T46 l0 0).f2) _ _ ((rd_T46 l0 0).f3) ((rd_T46 l0 0).f4) 1 (⟨#[97]⟩:ByteArray) 1 false _ ?side1 ?side2 A4.out).mono ?_);(case side1=>repeat (first|exact HR168_3.out | (with_reducible refine Kd.C_alloc ?_ _) | (with_reducible refine Kd.C_drewN ?_ _) | (with_reducible refine Kd.C_drew ?_)));(case side2=>exact HC168_3.out);rintro e w10 ⟨rfl,hb⟩;have n0_:=Aside0.mk (below_step (by repeat (first | (with_reducible first|exact HB.out|apply below_alloc|apply pw_below_drewN|apply below_drew1)|exact HB.out)) hb);clear HB;have HB:=n0_;clear n0_;(try clear hb);(try clear hb2);(try clear hk);(try clear hi)))
       go_ret2
       exact ⟨by first|rfl | (simp [errW_none,errW_some]<;>rfl) | (simp [*,errW_none,errW_some]<;>rfl),by repeat (first | (with_reducible first|exact HB.out|apply below_alloc|apply pw_below_drewN|apply below_drew1)|exact HB.out)⟩
   · rw [if_neg c3] at H
     exact absurd H (by simp)
 · rw [if_neg c2] at H
   have c2b0:((l0.length:Int) == 1)=false:=beq_eq_false_iff_ne.mpr c2
   have c2b1:((l0.length:Int) != 1)=true:=bne_iff_ne.mpr c2
   simp only [Option.some.injEq,Prod.mk.injEq] at H
   obtain ⟨rfl,rfl⟩:=H
   go_enter Tryz.func40,Tryz.ntmps40
   go_wp2
   go_ret2
   exact ⟨by first|rfl | (simp [errW_none,errW_some]<;>rfl) | (simp [*,errW_none,errW_some]<;>rfl),by repeat (first | (with_reducible first|exact HB.out|apply below_alloc|apply pw_below_drewN|apply below_drew1)|exact HB.out)⟩
noncomputable def stringslite_HasPrefix.f (a0:ByteArray) (a1:ByteArray):Option (Bool):=if (a0.size:Int)≥(a1.size:Int) then (if 0≤(a1.size:Int) then (if (a1.size:Int)≤(a0.size:Int) then (some ((a0.extract 0 ((a1.size:Int):Int).toNat).toList == a1.toList)) else (none)) else (none)) else (some false)
set_option maxHeartbeats 8000000 in
set_option maxRecDepth 100000 in
theorem stringslite_HasPrefix.calls (a0:ByteArray) (a1:ByteArray) (r:Bool) (w:World) (h:stringslite_HasPrefix.f a0 a1=some r) :
  Calls Tryz.prog 65 #[.string a0,.string a1] w fun e w'=>e = .returned (.bool r)∧Drawn0 w w':=by
 have H:(if (a0.size:Int)≥(a1.size:Int) then (if 0≤(a1.size:Int) then (if (a1.size:Int)≤(a0.size:Int) then (some ((a0.extract 0 ((a1.size:Int):Int).toNat).toList == a1.toList)) else (none)) else (none)) else (some false))=some r:=h
 clear h
 by_cases c3:(a0.size:Int)≥(a1.size:Int)
 · rw [if_pos c3] at H
   have c3b0:decide ((a1.size:Int)≤(a0.size:Int))=true:=decide_eq_true c3
   have c3b1:decide (a1.size≤a0.size)=true:=decide_eq_true (Int.ofNat_le.mp c3)
   clear c3
   by_cases c4:0≤(a1.size:Int)
   · rw [if_pos c4] at H
     have c4b0:=eq_true c4
     have c4b1:decide (0≤(a1.size:Int))=true:=decide_eq_true c4
     clear c4
     by_cases c5:(a1.size:Int)≤(a0.size:Int)
     · rw [if_pos c5] at H
       have c5b0:=eq_true c5
       have c5b1:decide ((a1.size:Int)≤(a0.size:Int))=true:=decide_eq_true c5
       clear c5
       obtain rfl:=Option.some.inj H
       go_enter Tryz.func65,Tryz.ntmps65
       go_wp2
       go_ret
       exact ⟨by first|rfl | (simp;done) | (simp [*];done),by repeat (first|exact Drawn0.refl _|apply Drawn0.step)⟩
     · rw [if_neg c5] at H
       exact absurd H (by simp)
   · rw [if_neg c4] at H
     exact absurd H (by simp)
 · rw [if_neg c3] at H
   have c3b0:decide ((a1.size:Int)≤(a0.size:Int))=false:=decide_eq_false c3
   have c3b1:decide (a1.size≤a0.size)=false:=decide_eq_false (fun h=>c3 (Int.ofNat_le.mpr h))
   clear c3
   obtain rfl:=Option.some.inj H
   go_enter Tryz.func65,Tryz.ntmps65
   go_wp2
   go_ret
   exact ⟨by first|rfl | (simp;done) | (simp [*];done),by repeat (first|exact Drawn0.refl _|apply Drawn0.step)⟩
noncomputable def stringslite_TrimPrefix.f (a0:ByteArray) (a1:ByteArray):Option (ByteArray):=(stringslite_HasPrefix.f a0 a1).bind fun t174=>(if t174=true then (if 0≤(a1.size:Int) then (if (a1.size:Int)≤(a0.size:Int) then (some (a0.extract ((a1.size:Int):Int).toNat a0.size)) else (none)) else (none)) else (some a0))
set_option maxHeartbeats 8000000 in
set_option maxRecDepth 100000 in
theorem stringslite_TrimPrefix.calls (a0:ByteArray) (a1:ByteArray) (r:ByteArray) (w:World) (h:stringslite_TrimPrefix.f a0 a1=some r) :
  Calls Tryz.prog 67 #[.string a0,.string a1] w fun e w'=>e = .returned (.string r)∧Drawn0 w w':=by
 have H:((stringslite_HasPrefix.f a0 a1).bind fun t174=>(if t174=true then (if 0≤(a1.size:Int) then (if (a1.size:Int)≤(a0.size:Int) then (some (a0.extract ((a1.size:Int):Int).toNat a0.size)) else (none)) else (none)) else (some a0)))=some r:=h
 clear h
 replace H:=Option.bind_eq_some_iff.mp H
 obtain ⟨t174,A30,H⟩:=H
 replace H:(if t174=true then (if 0≤(a1.size:Int) then (if (a1.size:Int)≤(a0.size:Int) then (some (a0.extract ((a1.size:Int):Int).toNat a0.size)) else (none)) else (none)) else (some a0))=some r:=H
 have A3:=Aside0.mk A30
 clear A30
 by_cases c4:t174=true
 · subst c4
   have H1:(if 0≤(a1.size:Int) then (if (a1.size:Int)≤(a0.size:Int) then (some (a0.extract ((a1.size:Int):Int).toNat a0.size)) else (none)) else (none))=some r:=by rw [if_pos rfl] at H;exact H
   clear H
   have H:=H1
   clear H1
   by_cases c5:0≤(a1.size:Int)
   · rw [if_pos c5] at H
     have c5b0:=eq_true c5
     have c5b1:decide (0≤(a1.size:Int))=true:=decide_eq_true c5
     clear c5
     by_cases c6:(a1.size:Int)≤(a0.size:Int)
     · rw [if_pos c6] at H
       have c6b0:=eq_true c6
       have c6b1:decide ((a1.size:Int)≤(a0.size:Int))=true:=decide_eq_true c6
       clear c6
       obtain rfl:=Option.some.inj H
       go_enter Tryz.func67,Tryz.ntmps67
       go_wp2_with (first | ((with_reducible refine gate_callee (f:=65) rfl ?_);refine goesL_ (some 7) rfl rfl Tryz.func65 (by kernel_rfl) rfl #[.string a0,.string a1] rfl (by (try simp only [List.map_toArray,List.map_cons,List.map_nil]);first|done|rfl | (simp only [List.length_drop,List.length_take];rfl)) ?_;(with_reducible refine (stringslite_HasPrefix.calls a0 a1 true _ A3.out).mono ?_);rintro e w' ⟨rfl,⟨nd,rfl⟩⟩;refine ⟨_,rfl,?_⟩))
       go_ret
       exact ⟨by first|rfl | (simp;done) | (simp [*];done),by repeat (first|exact Drawn0.refl _|apply Drawn0.step)⟩
     · rw [if_neg c6] at H
       exact absurd H (by simp)
   · rw [if_neg c5] at H
     exact absurd H (by simp)
 · replace c4:=Bool.eq_false_iff.mpr c4
   subst c4
   have H1:(some a0)=some r:=by rw [if_neg (show ¬ (false=true) by decide)] at H;exact H
   clear H
   have H:=H1
   clear H1
   obtain rfl:=Option.some.inj H
   go_enter Tryz.func67,Tryz.ntmps67
   go_wp2_with (first | ((with_reducible refine gate_callee (f:=65) rfl ?_);refine goesL_ (some 7) rfl rfl Tryz.func65 (by kernel_rfl) rfl #[.string a0,.string a1] rfl (by (try simp only [List.map_toArray,List.map_cons,List.map_nil]);first|done|rfl | (simp only [List.length_drop,List.length_take];rfl)) ?_;(with_reducible refine (stringslite_HasPrefix.calls a0 a1 false _ A3.out).mono ?_);rintro e w' ⟨rfl,⟨nd,rfl⟩⟩;refine ⟨_,rfl,?_⟩))
   go_ret
   exact ⟨by first|rfl | (simp;done) | (simp [*];done),by repeat (first|exact Drawn0.refl _|apply Drawn0.step)⟩
noncomputable def strings_TrimPrefix.f (a0:ByteArray) (a1:ByteArray):Option (ByteArray):=(stringslite_TrimPrefix.f a0 a1).bind fun t175=>(some t175)
set_option maxHeartbeats 8000000 in
set_option maxRecDepth 100000 in
theorem strings_TrimPrefix.calls (a0:ByteArray) (a1:ByteArray) (r:ByteArray) (w:World) (h:strings_TrimPrefix.f a0 a1=some r) :
  Calls Tryz.prog 42 #[.string a0,.string a1] w fun e w'=>e = .returned (.string r)∧Drawn0 w w':=by
 have H:((stringslite_TrimPrefix.f a0 a1).bind fun t175=>(some t175))=some r:=h
 clear h
 replace H:=Option.bind_eq_some_iff.mp H
 obtain ⟨t175,A30,H⟩:=H
 replace H:(some t175)=some r:=H
 have A3:=Aside0.mk A30
 clear A30
 obtain rfl:=Option.some.inj H
 go_enter Tryz.func42,Tryz.ntmps42
 go_wp2_with (first | ((with_reducible refine gate_callee (f:=67) rfl ?_);refine goesL_ (some 7) rfl rfl Tryz.func67 (by kernel_rfl) rfl #[.string a0,.string a1] rfl (by (try simp only [List.map_toArray,List.map_cons,List.map_nil]);first|done|rfl | (simp only [List.length_drop,List.length_take];rfl)) ?_;(with_reducible refine (stringslite_TrimPrefix.calls a0 a1 t175 _ A3.out).mono ?_);rintro e w' ⟨rfl,⟨nd,rfl⟩⟩;refine ⟨_,rfl,?_⟩))
 go_ret
 exact ⟨by first|rfl | (simp;done) | (simp [*];done),by repeat (first|exact Drawn0.refl _|apply Drawn0.step)⟩
noncomputable def context_within.j0:Nat→List (S46)→Int→Bool→Option (ByteArray×Bool)
 | 0,_,_,_=>none
 | k+1,x0,x4,x24=>if x24=true then (some ((⟨#[]⟩:ByteArray),false)) else (if 1≤x4 then (if x4≤(x0.length:Int) then ((context_only.f ((x0.take (x4:Int).toNat).drop 1)).bind fun bt184=>((strings_TrimPrefix.f bt184.1 (⟨#[10]⟩:ByteArray)).bind fun t186=>(some (t186,bt184.2)))) else (none)) else (none))
noncomputable def context_within.f (k:Nat) (l0:List (S46)):Option (ByteArray×Bool):=if (wrap64 ((l0.length:Int) - 1))<1 then (context_within.j0 k l0 (wrap64 ((l0.length:Int) - 1)) true) else (if 0<(l0.length:Int) then ((context_plain.f ((rd_T46 l0 0).f0) ((rd_T46 l0 0).f1) ((rd_T46 l0 0).f2) ((rd_T46 l0 0).f3) ((rd_T46 l0 0).f4) 1 (⟨#[116,101,120,116,97,114,101,97]⟩:ByteArray) 0).bind fun t177=>(if t177=true then (if 0≤(wrap64 ((l0.length:Int) - 1)) then (if (wrap64 ((l0.length:Int) - 1))<(l0.length:Int) then ((context_plain.f ((rd_T46 l0 (wrap64 ((l0.length:Int) - 1))).f0) ((rd_T46 l0 (wrap64 ((l0.length:Int) - 1))).f1) ((rd_T46 l0 (wrap64 ((l0.length:Int) - 1))).f2) ((rd_T46 l0 (wrap64 ((l0.length:Int) - 1))).f3) ((rd_T46 l0 (wrap64 ((l0.length:Int) - 1))).f4) 2 (⟨#[116,101,120,116,97,114,101,97]⟩:ByteArray) 0).bind fun t179=>(context_within.j0 k l0 (wrap64 ((l0.length:Int) - 1)) (!t179))) else (none)) else (none)) else (context_within.j0 k l0 (wrap64 ((l0.length:Int) - 1)) true))) else (none))
set_option maxHeartbeats 8000000 in
set_option maxRecDepth 100000 in
theorem context_within.calls (k:Nat) (A0:Option Addr) (c0:Nat) (l0:List (S46)) (r1:ByteArray) (r2:Bool) (w:World) (hr0:Kd.C k46 w A0 l0.length l0) (hc0:l0.length≤c0) (h:context_within.f k l0=some (r1,r2)) :
  Calls Tryz.prog 41 #[.slice A0 l0.length c0] w fun e w'=>e = .returned (.tuple #[.string r1,.bool r2])∧Below w.heap.size w w':=by
 have hu46:=Tryz.underlying46
 have HR0:=Aside0.mk hr0
 have HC0:=Aside0.mk hc0
 clear hr0 hc0
 have HB:=Aside0.mk (Below.refl w.heap.size w)
 have H:(if (wrap64 ((l0.length:Int) - 1))<1 then (context_within.j0 k l0 (wrap64 ((l0.length:Int) - 1)) true) else (if 0<(l0.length:Int) then ((context_plain.f ((rd_T46 l0 0).f0) ((rd_T46 l0 0).f1) ((rd_T46 l0 0).f2) ((rd_T46 l0 0).f3) ((rd_T46 l0 0).f4) 1 (⟨#[116,101,120,116,97,114,101,97]⟩:ByteArray) 0).bind fun t177=>(if t177=true then (if 0≤(wrap64 ((l0.length:Int) - 1)) then (if (wrap64 ((l0.length:Int) - 1))<(l0.length:Int) then ((context_plain.f ((rd_T46 l0 (wrap64 ((l0.length:Int) - 1))).f0) ((rd_T46 l0 (wrap64 ((l0.length:Int) - 1))).f1) ((rd_T46 l0 (wrap64 ((l0.length:Int) - 1))).f2) ((rd_T46 l0 (wrap64 ((l0.length:Int) - 1))).f3) ((rd_T46 l0 (wrap64 ((l0.length:Int) - 1))).f4) 2 (⟨#[116,101,120,116,97,114,101,97]⟩:ByteArray) 0).bind fun t179=>(context_within.j0 k l0 (wrap64 ((l0.length:Int) - 1)) (!t179))) else (none)) else (none)) else (context_within.j0 k l0 (wrap64 ((l0.length:Int) - 1)) true))) else (none)))=some (r1,r2):=h
 clear h
 have HC2:=Aside0.mk H
 clear H
 go_enter Tryz.func41,Tryz.ntmps41
 go_upto_region 2 with (fail)
 go_cut [24] (fun v24 wc => ∃ (kq:Nat) (x24_1:Bool),v24 = .bool x24_1∧Aside0 (context_within.j0 kq l0 (wrap64 ((l0.length:Int) - 1)) x24_1=some (r1,r2))∧Aside0 (kq≤k)∧Aside0 (Below w.heap.size w wc))
 case first =>
  have H:=HC2.out
  clear HC2
  by_cases c3:(wrap64 ((l0.length:Int) - 1))<1
  · rw [if_pos c3] at H
    have c3b0:decide ((wrap64 ((l0.length:Int) - 1))<1)=true:=decide_eq_true c3
    clear c3
    (first|rw [c3b0] | (simp only [i64_w,i32_w];rw [c3b0])|skip)
    have H':=Aside0.mk H
    clear H
    go_wp2
    go_meet
    case rel=>exact ⟨_,(true),(by first|rfl | (simp;done) | (simp [*];done)),H',⟨by first|omega|exact Nat.le_refl _⟩,⟨by repeat (first | (with_reducible first|exact HB.out|apply below_alloc|apply pw_below_drewN|apply below_drew1)|exact HB.out)⟩⟩
  · rw [if_neg c3] at H
    have c3b0:decide ((wrap64 ((l0.length:Int) - 1))<1)=false:=decide_eq_false c3
    clear c3
    (first|rw [c3b0] | (simp only [i64_w,i32_w];rw [c3b0])|skip)
    by_cases c4:0<(l0.length:Int)
    · rw [if_pos c4] at H
      have c4b0:decide (0<(l0.length:Int))=true:=decide_eq_true c4
      have c4b1:decide (0<l0.length)=true:=decide_eq_true (by omega)
      clear c4
      replace H:=Option.bind_eq_some_iff.mp H
      obtain ⟨t177,A50,H⟩:=H
      replace H:(if t177=true then (if 0≤(wrap64 ((l0.length:Int) - 1)) then (if (wrap64 ((l0.length:Int) - 1))<(l0.length:Int) then ((context_plain.f ((rd_T46 l0 (wrap64 ((l0.length:Int) - 1))).f0) ((rd_T46 l0 (wrap64 ((l0.length:Int) - 1))).f1) ((rd_T46 l0 (wrap64 ((l0.length:Int) - 1))).f2) ((rd_T46 l0 (wrap64 ((l0.length:Int) - 1))).f3) ((rd_T46 l0 (wrap64 ((l0.length:Int) - 1))).f4) 2 (⟨#[116,101,120,116,97,114,101,97]⟩:ByteArray) 0).bind fun t179=>(context_within.j0 k l0 (wrap64 ((l0.length:Int) - 1)) (!t179))) else (none)) else (none)) else (context_within.j0 k l0 (wrap64 ((l0.length:Int) - 1)) true))=some (r1,r2):=H
      have A5:=Aside0.mk A50
      clear A50
      by_cases c6:t177=true
      · subst c6
        have H1:(if 0≤(wrap64 ((l0.length:Int) - 1)) then (if (wrap64 ((l0.length:Int) - 1))<(l0.length:Int) then ((context_plain.f ((rd_T46 l0 (wrap64 ((l0.length:Int) - 1))).f0) ((rd_T46 l0 (wrap64 ((l0.length:Int) - 1))).f1) ((rd_T46 l0 (wrap64 ((l0.length:Int) - 1))).f2) ((rd_T46 l0 (wrap64 ((l0.length:Int) - 1))).f3) ((rd_T46 l0 (wrap64 ((l0.length:Int) - 1))).f4) 2 (⟨#[116,101,120,116,97,114,101,97]⟩:ByteArray) 0).bind fun t179=>(context_within.j0 k l0 (wrap64 ((l0.length:Int) - 1)) (!t179))) else (none)) else (none))=some (r1,r2):=by rw [if_pos rfl] at H;exact H
        clear H
        have H:=H1
        clear H1
        obtain ⟨ji7,hji7⟩:∃ j_:Int,(wrap64 ((l0.length:Int) - 1))=j_:=⟨_,rfl⟩
        replace H:(if 0≤(ji7) then (if (ji7)<(l0.length:Int) then ((context_plain.f ((rd_T46 l0 (ji7)).f0) ((rd_T46 l0 (ji7)).f1) ((rd_T46 l0 (ji7)).f2) ((rd_T46 l0 (ji7)).f3) ((rd_T46 l0 (ji7)).f4) 2 (⟨#[116,101,120,116,97,114,101,97]⟩:ByteArray) 0).bind fun t179=>(context_within.j0 k l0 ji7 (!t179))) else (none)) else (none))=some (r1,r2):=by first | (rw [hji7] at H;exact H) | (simp only [hji7] at H ⊢;exact H)
        (try rw [hji7] at c3b0)
        (try rw [hji7] at A5)
        have hji7w:(IntKind.i64.wrap ((l0.length:Int) - 1))=ji7:=(i64_w _).trans hji7
        by_cases c8:0≤(ji7)
        · rw [if_pos c8] at H
          have c8b0:decide (0≤(ji7))=true:=decide_eq_true c8
          clear c8
          by_cases c9:(ji7)<(l0.length:Int)
          · rw [if_pos c9] at H
            have c9b0:decide ((ji7)<(l0.length:Int))=true:=decide_eq_true c9
            clear c9
            replace H:=Option.bind_eq_some_iff.mp H
            obtain ⟨t179,A100,H⟩:=H
            replace H:(context_within.j0 k l0 ji7 (!t179))=some (r1,r2):=H
            have A10:=Aside0.mk A100
            clear A100
            have H':=Aside0.mk H
            clear H
            have p176:0≤(0:Int):=(by omega)
            have q176:0<(l0.length:Int):=of_decide_eq_true (by first | (with_reducible assumption)|assumption)
            obtain ⟨ad176,A176_3,c176_3,e176,hx176_0,hx176_1,hx176_2,hx176_3,hx176_4,hl176_3,hi176_3⟩:=at_T46 HR0.out 0 p176 q176
            cases e176
            have qi176:(0<l0.length)=True:=eq_true (by omega)
            (try rw [show ((0:Int)).toNat=0 from rfl] at hx176_0)
            (try rw [show 0*5=0 from rfl] at hx176_0)
            (try rw [Addr.add_zero'] at hx176_0)
            (try rw [show ((0:Int)).toNat=0 from rfl] at hx176_1)
            (try rw [show 0*5=0 from rfl] at hx176_1)
            (try rw [Addr.add_zero'] at hx176_1)
            (try rw [show ((0:Int)).toNat=0 from rfl] at hx176_2)
            (try rw [show 0*5=0 from rfl] at hx176_2)
            (try rw [Addr.add_zero'] at hx176_2)
            (try rw [show ((0:Int)).toNat=0 from rfl] at hx176_3)
            (try rw [show 0*5=0 from rfl] at hx176_3)
            (try rw [Addr.add_zero'] at hx176_3)
            (try rw [show ((0:Int)).toNat=0 from rfl] at hx176_4)
            (try rw [show 0*5=0 from rfl] at hx176_4)
            (try rw [Addr.add_zero'] at hx176_4)
            replace hx176_0:=(HB.out.cell (World.block_lt_of_cell? w _ hx176_0)).trans hx176_0
            replace hx176_1:=(HB.out.cell (World.block_lt_of_cell? w _ hx176_1)).trans hx176_1
            replace hx176_2:=(HB.out.cell (World.block_lt_of_cell? w _ hx176_2)).trans hx176_2
            replace hx176_3:=(HB.out.cell (World.block_lt_of_cell? w _ hx176_3)).trans hx176_3
            replace hx176_4:=(HB.out.cell (World.block_lt_of_cell? w _ hx176_4)).trans hx176_4
            have HR176_3:=Aside0.mk hi176_3
            have HC176_3:=Aside0.mk hl176_3
            clear hi176_3 hl176_3
            replace p176:=eq_true p176
            replace q176:=eq_true q176
            go_wp2_with (first | (go_at_call 66;(with_reducible refine (context_plain.calls ((rd_T46 l0 0).f0) ((rd_T46 l0 0).f1) ((rd_T46 l0 0).f2) _ _ ((rd_T46 l0 0).f3) ((rd_T46 l0 0).f4) 1 (⟨#[116,101,120,116,97,114,101,97]⟩:ByteArray) 0 true _ ?side1 ?side2 A5.out).mono ?_);(case side1=>repeat (first|exact (Kd.C_below HR176_3.out HB.out) | (with_reducible refine Kd.C_alloc ?_ _) | (with_reducible refine Kd.C_drewN ?_ _) | (with_reducible refine Kd.C_drew ?_)));(case side2=>exact HC176_3.out);rintro e w11 ⟨rfl,hb⟩;have n0_:=Aside0.mk (below_step (by repeat (first | (with_reducible first|exact HB.out|apply below_alloc|apply pw_below_drewN|apply below_drew1)|exact HB.out)) hb);clear HB;have HB:=n0_;clear n0_;(try clear hb);(try clear hb2);(try clear hk);(try clear hi);have p178:0≤((ji7):Int):=of_decide_eq_true (by first | (with_reducible assumption)|assumption);have q178:(ji7)<(l0.length:Int):=of_decide_eq_true (by first | (with_reducible assumption)|assumption);obtain ⟨ad178,A178_3,c178_3,e178,hx178_0,hx178_1,hx178_2,hx178_3,hx178_4,hl178_3,hi178_3⟩:=at_T46 HR0.out (ji7) p178 q178;obtain rfl:ad176=ad178:=(by injection e178);replace hx178_0:=(HB.out.cell (World.block_lt_of_cell? w _ hx178_0)).trans hx178_0;replace hx178_1:=(HB.out.cell (World.block_lt_of_cell? w _ hx178_1)).trans hx178_1;replace hx178_2:=(HB.out.cell (World.block_lt_of_cell? w _ hx178_2)).trans hx178_2;replace hx178_3:=(HB.out.cell (World.block_lt_of_cell? w _ hx178_3)).trans hx178_3;replace hx178_4:=(HB.out.cell (World.block_lt_of_cell? w _ hx178_4)).trans hx178_4;have HR178_3:=Aside0.mk hi178_3;have HC178_3:=Aside0.mk hl178_3;clear hi178_3 hl178_3;replace p178:=eq_true p178;replace q178:=eq_true q178) | (go_at_call 66;(with_reducible refine (context_plain.calls ((rd_T46 l0 (ji7)).f0) ((rd_T46 l0 (ji7)).f1) ((rd_T46 l0 (ji7)).f2) _ _ ((rd_T46 l0 (ji7)).f3) ((rd_T46 l0 (ji7)).f4) 2 (⟨#[116,101,120,116,97,114,101,97]⟩:ByteArray) 0 t179 _ ?side1 ?side2 A10.out).mono ?_);(case side1=>repeat (first|exact (Kd.C_below HR178_3.out HB.out) | (with_reducible refine Kd.C_alloc ?_ _) | (with_reducible refine Kd.C_drewN ?_ _) | (with_reducible refine Kd.C_drew ?_)));(case side2=>exact HC178_3.out);rintro e w12 ⟨rfl,hb⟩;have n0_:=Aside0.mk (below_step (by repeat (first | (with_reducible first|exact HB.out|apply below_alloc|apply pw_below_drewN|apply below_drew1)|exact HB.out)) hb);clear HB;have HB:=n0_;clear n0_;(try clear hb);(try clear hb2);(try clear hk);(try clear hi)))
            subst hji7
            go_meet
            case rel=>exact ⟨_,(!t179),(by first|rfl | (simp;done) | (simp [*];done)),H',⟨by first|omega|exact Nat.le_refl _⟩,⟨by repeat (first | (with_reducible first|exact HB.out|apply below_alloc|apply pw_below_drewN|apply below_drew1)|exact HB.out)⟩⟩
          · rw [if_neg c9] at H
            exact absurd H (by simp)
        · rw [if_neg c8] at H
          exact absurd H (by simp)
      · replace c6:=Bool.eq_false_iff.mpr c6
        subst c6
        have H1:(context_within.j0 k l0 (wrap64 ((l0.length:Int) - 1)) true)=some (r1,r2):=by rw [if_neg (show ¬ (false=true) by decide)] at H;exact H
        clear H
        have H:=H1
        clear H1
        have H':=Aside0.mk H
        clear H
        have p176:0≤(0:Int):=(by omega)
        have q176:0<(l0.length:Int):=of_decide_eq_true (by first | (with_reducible assumption)|assumption)
        obtain ⟨ad176,A176_3,c176_3,e176,hx176_0,hx176_1,hx176_2,hx176_3,hx176_4,hl176_3,hi176_3⟩:=at_T46 HR0.out 0 p176 q176
        cases e176
        have qi176:(0<l0.length)=True:=eq_true (by omega)
        (try rw [show ((0:Int)).toNat=0 from rfl] at hx176_0)
        (try rw [show 0*5=0 from rfl] at hx176_0)
        (try rw [Addr.add_zero'] at hx176_0)
        (try rw [show ((0:Int)).toNat=0 from rfl] at hx176_1)
        (try rw [show 0*5=0 from rfl] at hx176_1)
        (try rw [Addr.add_zero'] at hx176_1)
        (try rw [show ((0:Int)).toNat=0 from rfl] at hx176_2)
        (try rw [show 0*5=0 from rfl] at hx176_2)
        (try rw [Addr.add_zero'] at hx176_2)
        (try rw [show ((0:Int)).toNat=0 from rfl] at hx176_3)
        (try rw [show 0*5=0 from rfl] at hx176_3)
        (try rw [Addr.add_zero'] at hx176_3)
        (try rw [show ((0:Int)).toNat=0 from rfl] at hx176_4)
        (try rw [show 0*5=0 from rfl] at hx176_4)
        (try rw [Addr.add_zero'] at hx176_4)
        replace hx176_0:=(HB.out.cell (World.block_lt_of_cell? w _ hx176_0)).trans hx176_0
        replace hx176_1:=(HB.out.cell (World.block_lt_of_cell? w _ hx176_1)).trans hx176_1
        replace hx176_2:=(HB.out.cell (World.block_lt_of_cell? w _ hx176_2)).trans hx176_2
        replace hx176_3:=(HB.out.cell (World.block_lt_of_cell? w _ hx176_3)).trans hx176_3
        replace hx176_4:=(HB.out.cell (World.block_lt_of_cell? w _ hx176_4)).trans hx176_4
        have HR176_3:=Aside0.mk hi176_3
        have HC176_3:=Aside0.mk hl176_3
        clear hi176_3 hl176_3
        replace p176:=eq_true p176
        replace q176:=eq_true q176
        go_wp2_with (first | (go_at_call 66;(with_reducible refine (context_plain.calls ((rd_T46 l0 0).f0) ((rd_T46 l0 0).f1) ((rd_T46 l0 0).f2) _ _ ((rd_T46 l0 0).f3) ((rd_T46 l0 0).f4) 1 (⟨#[116,101,120,116,97,114,101,97]⟩:ByteArray) 0 false _ ?side1 ?side2 A5.out).mono ?_);(case side1=>repeat (first|exact (Kd.C_below HR176_3.out HB.out) | (with_reducible refine Kd.C_alloc ?_ _) | (with_reducible refine Kd.C_drewN ?_ _) | (with_reducible refine Kd.C_drew ?_)));(case side2=>exact HC176_3.out);rintro e w13 ⟨rfl,hb⟩;have n0_:=Aside0.mk (below_step (by repeat (first | (with_reducible first|exact HB.out|apply below_alloc|apply pw_below_drewN|apply below_drew1)|exact HB.out)) hb);clear HB;have HB:=n0_;clear n0_;(try clear hb);(try clear hb2);(try clear hk);(try clear hi)))
        go_meet
        case rel=>exact ⟨_,(true),(by first|rfl | (simp;done) | (simp [*];done)),H',⟨by first|omega|exact Nat.le_refl _⟩,⟨by repeat (first | (with_reducible first|exact HB.out|apply below_alloc|apply pw_below_drewN|apply below_drew1)|exact HB.out)⟩⟩
    · rw [if_neg c4] at H
      exact absurd H (by simp)
 case rest =>
  clear HC2
  try clear c1
  try clear p1
  try clear q1
  try clear hx1
  try clear qi1
  try clear p2
  try clear c3
  try clear c3b0
  try clear c4
  try clear c4b0
  try clear c4b1
  try clear c6
  try clear p6
  try clear c8
  try clear c8b0
  try clear c9
  try clear c9b0
  try clear hx176_0
  try clear hx176_1
  try clear hx176_2
  try clear hx176_3
  try clear hx176_4
  try clear hx178_0
  try clear hx178_1
  try clear hx178_2
  try clear hx178_3
  try clear hx178_4
  try clear p176
  try clear p178
  try clear q176
  try clear q178
  obtain ⟨kq,x24_1,rfl,HA,HJ1,HB⟩:=hcut
  cases kq with
  | zero=>exact absurd HA.out (by simp [context_within.j0])
  | succ kj1 =>
    have H:=HA.out
    clear HA
    simp only [context_within.j0] at H
    by_cases c14:x24_1=true
    · subst c14
      have H1:(some ((⟨#[]⟩:ByteArray),false))=some (r1,r2):=by rw [if_pos rfl] at H;exact H
      clear H
      have H:=H1
      clear H1
      simp only [Option.some.injEq,Prod.mk.injEq] at H
      obtain ⟨rfl,rfl⟩:=H
      go_wp2
      go_ret2
      exact ⟨by first|rfl | (simp [errW_none,errW_some]<;>rfl) | (simp [*,errW_none,errW_some]<;>rfl),by repeat (first | (with_reducible first|exact HB.out|apply below_alloc|apply pw_below_drewN|apply below_drew1)|exact HB.out)⟩
    · replace c14:=Bool.eq_false_iff.mpr c14
      subst c14
      have H1:(if 1≤(wrap64 ((l0.length:Int) - 1)) then (if (wrap64 ((l0.length:Int) - 1))≤(l0.length:Int) then ((context_only.f ((l0.take ((wrap64 ((l0.length:Int) - 1)):Int).toNat).drop 1)).bind fun bt184=>((strings_TrimPrefix.f bt184.1 (⟨#[10]⟩:ByteArray)).bind fun t186=>(some (t186,bt184.2)))) else (none)) else (none))=some (r1,r2):=by rw [if_neg (show ¬ (false=true) by decide)] at H;exact H
      clear H
      have H:=H1
      clear H1
      by_cases c15:1≤(wrap64 ((l0.length:Int) - 1))
      · rw [if_pos c15] at H
        have c15b0:=eq_true c15
        have c15b1:decide (1≤(wrap64 ((l0.length:Int) - 1)))=true:=decide_eq_true c15
        clear c15
        by_cases c16:(wrap64 ((l0.length:Int) - 1))≤(l0.length:Int)
        · rw [if_pos c16] at H
          have c16b0:=eq_true c16
          have c16b1:decide ((wrap64 ((l0.length:Int) - 1))≤(l0.length:Int))=true:=decide_eq_true c16
          clear c16
          obtain ⟨y180,hy180⟩:∃ y_:List (S46),y_=((l0.take ((wrap64 ((l0.length:Int) - 1)):Int).toNat).drop 1):=⟨_,rfl⟩
          replace H:((context_only.f y180).bind fun bt184=>((strings_TrimPrefix.f bt184.1 (⟨#[10]⟩:ByteArray)).bind fun t186=>(some (t186,bt184.2))))=some (r1,r2):=by first | (rw [hy180];with_reducible exact H) | (have H2_:=(Option.bind_some _ _).symm.trans H;rw [hy180];with_reducible exact H2_) | (have H2_:=(Option.bind_some _ _).symm.trans H;with_reducible exact H2_)|with_reducible exact H | (rw [hy180];exact H)|exact H
          have Ny180:=Aside0.mk hy180
          clear hy180
          replace H:=Option.bind_eq_some_iff.mp H
          obtain ⟨⟨t184,t185⟩,A170,H⟩:=H
          replace H:((strings_TrimPrefix.f t184 (⟨#[10]⟩:ByteArray)).bind fun t186=>(some (t186,t185)))=some (r1,r2):=H
          have A17:=Aside0.mk A170
          clear A170
          replace H:=Option.bind_eq_some_iff.mp H
          obtain ⟨t186,A180,H⟩:=H
          replace H:(some (t186,t185))=some (r1,r2):=H
          have A18:=Aside0.mk A180
          clear A180
          simp only [Option.some.injEq,Prod.mk.injEq] at H
          obtain ⟨rfl,rfl⟩:=H
          have q19:((wrap64 ((l0.length:Int) - 1)):Int)≤((l0.length:Int):Int):=of_decide_eq_true (by first | (with_reducible assumption)|assumption)
          obtain ⟨i019,hi019,_,hsz19,_⟩:=info_parts info46
          have hroom19:l0.length≤c0:=HC0.out
          have hC19:Kd.C k46 _ A0 l0.length l0:=HR0.out
          have ql19:(1:Int)≤((wrap64 ((l0.length:Int) - 1)):Int):=of_decide_eq_true (by first | (with_reducible assumption)|assumption)
          have hcut19:=cut_mid (P:=Tryz.prog) 42 46 .i64 .i64 Tryz.underlying42 hi019 5 hsz19 A0 l0.length c0 1 (wrap64 ((l0.length:Int) - 1)) (by omega) ql19 q19 hroom19
          have hr19:=Kd.C_mid (lo:=(1:Int).toNat) (hi:=((wrap64 ((l0.length:Int) - 1)):Int).toNat) (c:=c0) hC19 (by omega) (by omega) hroom19
          obtain ⟨A19,hA19⟩:∃ A1,A1=(if c0=(1:Int).toNat then A0 else (A0:Option Addr).map (·.add ((1:Int).toNat*5))):=⟨_,rfl⟩
          obtain ⟨c19,hc19⟩:∃ c1,c1=c0 - (1:Int).toNat:=⟨_,rfl⟩
          have hy19:y180.length=((wrap64 ((l0.length:Int) - 1)):Int).toNat - (1:Int).toNat:=(by rw [Ny180.out,List.length_drop,List.length_take]<;>omega)
          rw [show ((l0).take ((wrap64 ((l0.length:Int) - 1)):Int).toNat).drop (1:Int).toNat=y180 from Ny180.out.symm] at hr19
          replace hr19:Kd.C k46 _ A19 y180.length y180:=(by rw [hA19];exact hr19)
          rw [← hy19,← hA19,← hc19] at hcut19
          have HR183:=Aside0.mk hr19
          have HC183:=Aside0.mk (show y180.length≤c19 from by rw [hy19,hc19];exact Nat.sub_le_sub_right (Nat.le_trans (by omega) hroom19) _)
          clear hr19 hC19 hroom19 hi019 hsz19 hc19
          have KY19:=Aside0.mk hy19
          have KA19:=Aside0.mk hA19
          clear hy19 hA19
          replace q19:=eq_true q19
          go_wp2_with (first | ((with_reducible refine gate_callee (f:=39) rfl ?_);refine goesL_ (some 29) rfl rfl Tryz.func39 (by kernel_rfl) rfl #[.slice A19 y180.length c19] rfl (by (try simp only [List.map_toArray,List.map_cons,List.map_nil]);first|done|rfl | (simp only [List.length_drop,List.length_take];rfl)) ?_;(with_reducible refine (context_only.calls _ _ y180 t184 t185 _ ?side1 ?side2 A17.out).mono ?_);(case side1=>repeat (first|exact (Kd.C_below HR183.out HB.out) | (with_reducible refine Kd.C_alloc ?_ _) | (with_reducible refine Kd.C_drewN ?_ _) | (with_reducible refine Kd.C_drew ?_)));(case side2=>exact HC183.out);rintro e w' ⟨rfl,⟨nd,rfl⟩⟩;refine ⟨_,rfl,?_⟩) | ((with_reducible refine gate_callee (f:=42) rfl ?_);refine goesL_ (some 33) rfl rfl Tryz.func42 (by kernel_rfl) rfl #[.string t184,.string (⟨#[10]⟩:ByteArray)] rfl (by (try simp only [List.map_toArray,List.map_cons,List.map_nil]);first|done|rfl | (simp only [List.length_drop,List.length_take];rfl)) ?_;(with_reducible refine (strings_TrimPrefix.calls t184 (⟨#[10]⟩:ByteArray) t186 _ A18.out).mono ?_);rintro e w' ⟨rfl,⟨nd,rfl⟩⟩;refine ⟨_,rfl,?_⟩))
          go_ret2
          exact ⟨by first|rfl | (simp [errW_none,errW_some]<;>rfl) | (simp [*,errW_none,errW_some]<;>rfl),by repeat (first | (with_reducible first|exact HB.out|apply below_alloc|apply pw_below_drewN|apply below_drew1)|exact HB.out)⟩
        · rw [if_neg c16] at H
          exact absurd H (by simp)
      · rw [if_neg c15] at H
        exact absurd H (by simp)
end Go.Proofs.YtcecjoaeolglbaaGreatDoor.St
end

section
namespace Go.Proofs.YtcecjoaeolglbaaGreatDoor.Pure
open Go Go.RowKit Go.Proofs.YtcecjoaeolglbaaGreatDoor.K0 Go.Proofs.YtcecjoaeolglbaaGreatDoor.Hand Go.Proofs.YtcecjoaeolglbaaGreatDoor.Sa Go.Proofs.YtcecjoaeolglbaaGreatDoor.Si Go.Proofs.YtcecjoaeolglbaaGreatDoor.St Go.Proofs.YtcecjoaeolglbaaGreatDoorW.PrintWords Go.Proofs.YtcecjoaeolglbaaGreatDoorW.PrintMore Go.Proofs.YtcecjoaeolglbaaGreatDoor.Pl Go.Proofs.YtcecjoaeolglbaaGreatDoor.Pb
theorem only_f (l:List Tk):context_only.f (l.map ofK)=some (B (onlyL l).1,(onlyL l).2):=by
 match l with
 | []=>rfl
 | [t] =>
   unfold context_only.f
   rw [if_neg (by simp),if_pos (by simp),if_pos (by simp),show rd_T46 ([t].map ofK) 0=ofK t from rd_map (l:=[t]) (i:=0) (by simp)]
   cases t<;>rfl
 | t::u::r =>
   unfold context_only.f
   rw [if_neg (by simp;omega),if_neg (by simp;omega)]
   cases t<;>rfl
theorem B_eq_iff (x y:List UInt8):(B x).toList=(B y).toList↔x=y:=by rw [toList_data,toList_data,B_data,B_data]
theorem plain_start (k:Int) (n x:List UInt8) (al:List AttrT) (self:Bool) (k2:Int) (n2:List UInt8) (m:Int) :
  context_plain.f k (B n) (B x) (al.map ofT) self k2 (B n2) m=some (decide (k=k2)&&decide (n=n2)&&decide ((al.length:Int)=m) && !self):=by
 unfold context_plain.f
 by_cases h1:k=k2
 · rw [if_pos h1,decide_eq_true h1]
   by_cases h2:n=n2
   · rw [if_pos ((B_eq_iff n n2).2 h2),decide_eq_true h2,List.length_map]
     by_cases h3:(al.length:Int)=m
     · rw [if_pos h3,decide_eq_true h3];rfl
     · rw [if_neg h3,decide_eq_false h3];rfl
   · rw [if_neg (fun e=>h2 ((B_eq_iff n n2).1 e)),decide_eq_false h2];rfl
 · rw [if_neg h1,decide_eq_false h1];rfl
theorem plain_tk (t:Tk) (k2:Int) (n2:List UInt8) (m:Int):context_plain.f (ofK t).f0 (ofK t).f1 (ofK t).f2 (ofK t).f3 (ofK t).f4 k2 (B n2) m =
 some (decide ((tkC t).1=k2)&&decide ((tkC t).2.1=n2)&&decide (((tkC t).2.2.2.1.length:Int)=m) && !(tkC t).2.2.2.2):=plain_start _ _ _ _ _ _ _ _
theorem value_f (l:List Tk):context_value.f (l.map ofK)=some (B (valueL l).1,(valueL l).2):=by
 have bad:∀ l:List Tk,valueL l=([],false)→some ((⟨#[]⟩:ByteArray),false)=some (B (valueL l).1,(valueL l).2):=fun l h=>by rw [h];rfl
 by_cases h1:l.length=1
 · obtain ⟨t,rfl⟩:=List.length_eq_one_iff.1 h1
   unfold context_value.f
   rw [if_pos (by simp),if_pos (by simp),show rd_T46 ([t].map ofK) 0=ofK t from rd_map (l:=[t]) (i:=0) (by simp)]
   rw [show (⟨#[97]⟩:ByteArray)=B [97] from rfl,plain_tk,Option.bind_some]
   cases t with
   | start n al self =>
     match al with
     | []=>rw [if_neg (by simp [tkC])];exact bad _ rfl
     | a::b::r=>rw [if_neg (by show ¬ ((decide ((1:Int)=1)&&decide (n=[97])&&decide ((((a::b::r).length:Nat):Int)=1) && !self)=true);rw [decide_eq_false (show ¬ ((((a::b::r).length:Nat):Int)=1) by simp only [List.length_cons];omega)];simp)];exact bad _ rfl
     | [a] =>
       obtain ⟨an,av⟩:=a
       cases self with
       | true=>rw [if_neg (by simp [tkC])];exact bad _ rfl
       | false =>
         by_cases hn:n=[97]
         · subst hn
           rw [if_pos (by simp [tkC]),if_pos (by simp [ofK,tkC])]
           have hT:(rd_T87 (ofK (Tk.start [97] [(an,av)] false)).f3 0).f0.toList=an:=by show (B an).toList=an;rw [toList_data,B_data]
           rw [hT]
           by_cases ha:an=[120]
           · subst ha
             rw [if_pos rfl];rfl
           · rw [if_neg ha]
             refine bad _ ?_
             simp only [valueL,if_neg (fun e:_∧an=[120]=>ha e.2)]
         · rw [if_neg (by simp [tkC,hn])]
           refine bad _ ?_
           simp only [valueL,if_neg (fun e:n=[97]∧_=>hn e.1)]
   | text s=>rw [if_neg (by simp [tkC])];exact bad _ rfl
   | fin n=>rw [if_neg (by simp [tkC])];exact bad _ rfl
   | comment s=>rw [if_neg (by simp [tkC])];exact bad _ rfl
   | doctype s=>rw [if_neg (by simp [tkC])];exact bad _ rfl
 · unfold context_value.f
   rw [if_neg (by rw [List.length_map];omega)]
   refine bad _ ?_
   match l,h1 with
   | [],_=>rfl
   | [t],h1=>exact absurd rfl h1
   | t::u::r,_ =>
     cases t with
     | start n al self =>
       unfold valueL
       split
       · rename_i h;simp at h
       · rfl
     | _=>rfl
theorem trim_f (x:List UInt8):strings_TrimPrefix.f (B x) ⟨#[10]⟩=some (B (trimN x)):=by
 unfold strings_TrimPrefix.f stringslite_TrimPrefix.f stringslite_HasPrefix.f
 have h1:((⟨#[10]⟩:ByteArray).size:Int)=1:=rfl
 rw [h1,size_B]
 cases x with
 | nil=>rfl
 | cons c r =>
   have e:(B (c::r)).extract 0 (1:Int).toNat=B [c]:=by show (B (c::r)).extract 0 1=_;rw [B_extract];simp
   have e2:(B (c::r)).extract (1:Int).toNat (c::r).length=B r:=by show (B (c::r)).extract 1 _=_;rw [B_extract];simp
   rw [if_pos (by simp only [List.length_cons];omega),if_pos (by decide),if_pos (by simp only [List.length_cons];omega),Option.bind_some,e,e2,show (⟨#[10]⟩:ByteArray)=B [10] from rfl]
   have hb:((B [c]).toList == (B [10]).toList)=(c == 10):=by
    rw [Bool.eq_iff_iff,beq_iff_eq,beq_iff_eq,B_eq_iff];simp
   rw [hb]
   by_cases hc:c=10
   · subst hc;rw [if_pos (by decide),if_pos (by decide),if_pos (by simp only [List.length_cons];omega)];rfl
   · rw [if_neg (by simpa using hc),Option.bind_some]
     simp only [trimN,if_neg hc]
theorem isAreaO_eq (t:Tk):(decide ((tkC t).1=1)&&decide ((tkC t).2.1=areaW)&&decide (((tkC t).2.2.2.1.length:Int)=0) && !(tkC t).2.2.2.2)=isAreaO (some t):=by
 cases t with
 | start n al self =>
   cases al with
   | nil =>
     cases self with
     | true=>simp [tkC,isAreaO]
     | false=>show (decide ((1:Int)=1)&&decide (n=areaW)&&decide (((([]:List AttrT).length:Nat):Int)=0) && !false)=(n == areaW);rw [Bool.eq_iff_iff];simp
   | cons a r =>
     show (decide ((1:Int)=1)&&decide (n=areaW)&&decide ((((a::r).length:Nat):Int)=0) && !self)=false
     rw [decide_eq_false (show ¬ ((((a::r).length:Nat):Int)=0) by simp only [List.length_cons];omega)];simp
 | _=>simp [tkC,isAreaO]
theorem isAreaC_eq (t:Tk):(decide ((tkC t).1=2)&&decide ((tkC t).2.1=areaW)&&decide (((tkC t).2.2.2.1.length:Int)=0) && !(tkC t).2.2.2.2)=isAreaC (some t):=by
 cases t with
 | fin n=>show (decide ((2:Int)=2)&&decide (n=areaW)&&decide (((([]:List AttrT).length:Nat):Int)=0) && !false)=(n == areaW);rw [Bool.eq_iff_iff];simp
 | _=>simp [tkC,isAreaC]
theorem mid_eq (l:List Tk) (n:Nat) (h:l.length=n+1):(l.take n).drop 1=l.tail.dropLast:=by
 cases l with
 | nil=>simp at h
 | cons t r =>
   rw [List.length_cons,Nat.add_right_cancel_iff] at h
   cases n with
   | zero=>rw [List.length_eq_zero_iff] at h;subst h;rfl
   | succ m =>
     show r.take m=r.dropLast
     rw [List.dropLast_eq_take,h];rfl
theorem within_ev (l:List Tk) (hl:l.length≤1000000):Ev (fun k=>context_within.f k (l.map ofK)) (B (withinL l).1,(withinL l).2):=by
 have hw:wrap64 (((l.map ofK).length:Int) - 1)=(l.length:Int) - 1:=by rw [List.length_map];unfold wrap64;omega
 have bad:∀ j:Int,withinL l=([],false)→Ev (fun k=>context_within.j0 k (l.map ofK) j true) (B (withinL l).1,(withinL l).2):=fun j h=>by
  rw [h]
  exact Ev.step (f:=fun _=>some (⟨#[]⟩,false)) (fun k=>by rw [context_within.j0,if_pos rfl]) (Ev.now _)
 unfold context_within.f
 simp only [hw]
 by_cases h2:2≤l.length
 · obtain ⟨n,hn⟩:∃ n,l.length=n+1:=⟨l.length - 1,by omega⟩
   have e1:(l.length:Int) - 1=(n:Int):=by omega
   have hlen:((l.map ofK).length:Int)=(l.length:Int):=by rw [List.length_map]
   have hh:l.head? = some l[0]:=by rw [List.head?_eq_getElem?,List.getElem?_eq_getElem (by omega)]
   have ht:l.getLast? = some l[n]:=by rw [List.getLast?_eq_getElem?,show l.length - 1=n by omega,List.getElem?_eq_getElem (by omega)]
   have n1:¬ (n:Int)<1:=by omega
   have q0:(0:Int)<((l.map ofK).length:Int):=by rw [hlen];omega
   have q1:(0:Int)≤(n:Int):=by omega
   have q2:(n:Int)<((l.map ofK).length:Int):=by rw [hlen];omega
   have r0:rd_T46 (l.map ofK) 0=ofK l[0]:=rd_map (i:=0) (by omega)
   have rn:rd_T46 (l.map ofK) (n:Int)=ofK l[n]:=rd_map (by omega)
   simp only [e1,if_neg n1,if_pos q0,if_pos q1,if_pos q2,r0,rn,show (⟨#[116,101,120,116,97,114,101,97]⟩:ByteArray)=B areaW from rfl,plain_tk,Option.bind_some,isAreaO_eq,isAreaC_eq]
   cases ho:isAreaO (some l[0]) with
   | false =>
     simp only [Bool.false_eq_true,if_false]
     refine bad _ ?_
     unfold withinL
     rw [hh,ho,if_neg (by simp)]
   | true =>
     simp only [if_true]
     cases hc:isAreaC (some l[n]) with
     | false =>
       refine bad _ ?_
       unfold withinL
       rw [ht,hc,if_neg (by simp)]
     | true =>
       have hwl:withinL l=(trimN (onlyL l.tail.dropLast).1,(onlyL l.tail.dropLast).2):=by
        unfold withinL
        rw [hh,ho,ht,hc,if_pos ⟨h2,rfl,rfl⟩]
       rw [hwl]
       refine Ev.step (f:=fun _=>some (B (trimN (onlyL l.tail.dropLast).1),(onlyL l.tail.dropLast).2)) (fun k => ?_) (Ev.now _)
       have hsl:(List.take ((n:Int)).toNat (l.map ofK)).drop 1=(l.tail.dropLast).map ofK:=by
        rw [Int.toNat_natCast,← List.map_take,← List.map_drop]
        rw [mid_eq l n hn]
       rw [context_within.j0,if_neg (by decide),if_pos (by omega),if_pos (by rw [hlen];omega),hsl,only_f,Option.bind_some,trim_f,Option.bind_some]
 · have n1:(l.length:Int) - 1<1:=by omega
   simp only [if_pos n1]
   refine bad _ ?_
   unfold withinL
   rw [if_neg (fun e=>h2 e.1)]
end Go.Proofs.YtcecjoaeolglbaaGreatDoor.Pure
end

section
namespace Go.Proofs.YtcecjoaeolglbaaGreatDoor.Hand
open Go Go.RowKit Go.Proofs.YtcecjoaeolglbaaGreatDoor.K0 Go.Proofs.YtcecjoaeolglbaaGreatDoor.Pl Go.Proofs.YtcecjoaeolglbaaGreatDoor.Pb Go.Proofs.YtcecjoaeolglbaaGreatDoor.Sa Go.Proofs.YtcecjoaeolglbaaGreatDoor.St Go.Proofs.YtcecjoaeolglbaaGreatDoor.Pure Go.Proofs.YtcecjoaeolglbaaGreatDoorW.PrintWords Go.Proofs.YtcecjoaeolglbaaGreatDoorW.PrintLast Go.Proofs.YtcecjoaeolglbaaGreatDoorW.PrintMore
theorem big_no {n k:Nat} (h:n≤1000000) (hk:k≤1000):(9223372036854775807<k+n)=False:=eq_false (by omega)
theorem big_no2 {n k j:Nat} (h:n≤1000000) (hk:k≤1000) (hj:j≤1000):(9223372036854775807<k+n+j)=False:=eq_false (by omega)
set_option maxRecDepth 100000 in
set_option maxHeartbeats 4000000 in
theorem wrapB_c (d:Int) (single:Bool) (a:ByteArray) (ha:a.size≤1000000) (w:World) :
  Calls Tryz.prog 37 #[.int .i64 d,.bool single,.string a] w fun e w'=>e = .returned (.string (if d=0 then a else if d=1 then ⟨#[60,97,32,120,61]⟩++B [qB single]++a++B [qB single]++⟨#[62]⟩ else if d=2 then ⟨#[60,116,101,120,116,97,114,101,97,62]⟩++a++⟨#[60,47]⟩++⟨#[116,101,120,116,97,114,101,97]⟩++⟨#[62]⟩ else ⟨#[]⟩))∧Below w.heap.size w w':=by
 have f6:=big_no ha (show 6≤1000 by decide)
 have f61:=big_no2 ha (show 6≤1000 by decide) (show 1≤1000 by decide)
 have f611:=big_no2 ha (show 6≤1000 by decide) (show 1+1≤1000 by decide)
 have f612:=big_no2 ha (show 6≤1000 by decide) (show 2≤1000 by decide)
 have f10:=big_no ha (show 10≤1000 by decide)
 have f102:=big_no2 ha (show 10≤1000 by decide) (show 2≤1000 by decide)
 have fA:(9223372036854775807<6+a.size+1+1)=False:=eq_false (by omega)
 have fB:(9223372036854775807<10+a.size+2+8)=False:=eq_false (by omega)
 have fC:(9223372036854775807<10+a.size+2+8+1)=False:=eq_false (by omega)
 clear ha
 by_cases h0:d=0
 · rw [if_pos h0]
   subst h0
   cases single<;>(
    go_enter Tryz.func37,Tryz.ntmps37
    go_wp2_with fail
    go_ret
    exact ⟨rfl,Below.refl _ _⟩)
 · have n0:(d == 0)=false:=beq_eq_false_iff_ne.2 h0
   rw [if_neg h0]
   by_cases h1:d=1
   · rw [if_pos h1]
     subst h1
     cases single<;>(
      go_enter Tryz.func37,Tryz.ntmps37
      go_wp2_with fail
      go_ret
      exact ⟨rfl,Below.refl _ _⟩)
   · have n1:(d == 1)=false:=beq_eq_false_iff_ne.2 h1
     rw [if_neg h1]
     by_cases h2:d=2
     · rw [if_pos h2]
       subst h2
       cases single<;>(
        go_enter Tryz.func37,Tryz.ntmps37
        go_wp2_with fail
        go_ret
        exact ⟨rfl,Below.refl _ _⟩)
     · have n2:(d == 2)=false:=beq_eq_false_iff_ne.2 h2
       rw [if_neg h2]
       cases single<;>(
        go_enter Tryz.func37,Tryz.ntmps37
        go_wp2_with fail
        go_ret
        exact ⟨rfl,Below.refl _ _⟩)
theorem wrap_c (d:Int) (single:Bool) (s:List UInt8) (hs:s.length≤1000000) (w:World) :
  Calls Tryz.prog 37 #[.int .i64 d,.bool single,.string (B s)] w fun e w'=>e = .returned (.string (B (wrapL d single s)))∧Below w.heap.size w w':=by
 have h:=wrapB_c d single (B s) (by rw [size_B];exact hs) w
 have e:(if d=0 then B s else if d=1 then (⟨#[60,97,32,120,61]⟩:ByteArray)++B [qB single]++B s++B [qB single]++⟨#[62]⟩ else if d=2 then ⟨#[60,116,101,120,116,97,114,101,97,62]⟩++B s++⟨#[60,47]⟩++⟨#[116,101,120,116,97,114,101,97]⟩++⟨#[62]⟩ else ⟨#[]⟩)=B (wrapL d single s):=by
  unfold wrapL
  split
  · rfl
  · split
    · show B [60,97,32,120,61]++B [qB single]++B s++B [qB single]++B [62]=_
      simp only [B_append]
      congr 1
      simp [attrO]
    · split
      · show B [60,116,101,120,116,97,114,101,97,62]++B s++B [60,47]++B [116,101,120,116,97,114,101,97]++B [62]=_
        simp only [B_append]
        congr 1
        simp [areaO,areaC]
      · rfl
 rw [e] at h
 exact h
theorem wrapL_length (d:Int) (single:Bool) (s:List UInt8):(wrapL d single s).length≤s.length+30:=by
 unfold wrapL
 repeat' split
 all_goals simp [attrO,areaO,areaC]
abbrev PxC (w:World) (ab d:Nat) (F:Value) (W:World):Prop:=(Glob W∧Below w.heap.size w W)∧W.cell? ⟨ab,d,none⟩=some F
theorem PxC.call {w:World} {ab d:Nat} {F:Value} {W W':World} (hb:Below W.heap.size W W') (h:PxC w ab d F W):PxC w ab d F W' :=
 ⟨⟨h.1.1.step hb,h.1.2.trans (hb.mono h.1.2.size)⟩,(hb.cell (World.block_lt_of_cell? W _ h.2)).trans h.2⟩
def pkL (d:Nat) (l:List Tk):List UInt8×Bool:=if d=0 then onlyL l else if d=1 then valueL l else withinL l
def pkF (d:Nat):Nat:=if d=0 then 39 else if d=1 then 40 else 41
theorem pk_c (d:Nat) (l:List Tk) (hl:l.length≤1000000) (W:World) (v:Value) (b:Nat) (ok:Nat→Prop) (hV:Kd.V tkK 46 W b ok v (l.map ofK)) :
  Calls Tryz.prog (pkF d) #[v] W fun e w'=>e = .returned (.tuple #[.string (B (pkL d l).1),.bool (pkL d l).2])∧Below W.heap.size W w':=by
 obtain ⟨A,c,rfl⟩:=Kd.V_slice hV
 obtain ⟨_,h1,h2⟩:=Kd.V_reads' hV
 unfold pkF pkL
 by_cases h0:d=0
 · rw [if_pos h0,if_pos h0]
   exact (context_only.calls A c (l.map ofK) _ _ W h2 h1 (only_f l)).mono fun e w' h=>⟨h.1,h.2.below⟩
 · rw [if_neg h0,if_neg h0]
   by_cases h3:d=1
   · rw [if_pos h3,if_pos h3]
     exact context_value.calls A c (l.map ofK) _ _ W h2 h1 (value_f l)
   · rw [if_neg h3,if_neg h3]
     obtain ⟨k,hk⟩:=(within_ev l hl).rounds
     exact context_within.calls k A c (l.map ofK) _ _ W h2 h1 hk
set_option maxRecDepth 100000 in
set_option maxHeartbeats 16000000 in
theorem parse_in (d:Nat) (hd:d<3) (single:Bool) (s:List UInt8) (hs:s.length≤20000) (w:World) (hGl:Glob w) :
  Calls Tryz.prog 18 #[.int .i64 (d:Int),.bool single,.string (B s)] w fun e w'=>e = .returned (.tuple #[.string (B (pkL d (driveL (normL (wrapL d single s)))).1),.bool (pkL d (driveL (normL (wrapL d single s)))).2])∧Below w.heap.size w w':=by
 have hwl:=wrapL_length (d:Int) single s
 have hnl:=normL_length (wrapL (d:Int) single s)
 have WR:=Lib.hid (fun W=>wrap_c (d:Int) single s (by omega) W)
 have NR:Hid (∀ W,Calls Tryz.prog 24 #[.string (B (wrapL (d:Int) single s))] W fun e w'=>e = .returned (.string (B (normL (wrapL (d:Int) single s))))∧Below W.heap.size W w'):=Lib.hid (fun W=>by
  have:=norm_any (B (wrapL (d:Int) single s)) W (by rw [size_B];omega)
  rw [B_data] at this
  exact this)
 have DR:=Lib.hid (fun W hG=>drive_c (normL (wrapL (d:Int) single s)) (by omega) W hG)
 have hdl:(driveL (normL (wrapL (d:Int) single s))).length≤1000000:=by
  have h1:=(drv_bd _ (normL (wrapL (d:Int) single s)) (Nat.le_refl _)).2
  have h2:=jn_len (drvL (normL (wrapL (d:Int) single s))) (drvL (normL (wrapL (d:Int) single s))).length
  have h3:jn (drvL (normL (wrapL (d:Int) single s))) (drvL (normL (wrapL (d:Int) single s))).length=driveL (normL (wrapL (d:Int) single s)):=by unfold jn driveL;rw [List.take_length,join_eq]
  rw [h3] at h2
  omega
 have PK:=Lib.hid (fun W v b ok hV=>pk_c d (driveL (normL (wrapL (d:Int) single s))) hdl W v b ok hV)
 generalize driveL (normL (wrapL (d:Int) single s))=L at DR PK ⊢
 generalize normL (wrapL (d:Int) single s)=S2 at NR DR
 obtain ⟨a1,h1⟩:∃ a,B (wrapL (d:Int) single s)=a:=⟨_,rfl⟩
 obtain ⟨a2,h2⟩:∃ a,B S2=a:=⟨_,rfl⟩
 obtain ⟨a0,h0⟩:∃ a,B s=a:=⟨_,rfl⟩
 rw [h1] at WR NR
 rw [h2] at NR DR
 rw [h0] at WR ⊢
 obtain ⟨⟨r1,r2⟩,hr⟩:∃ r,pkL d L=r:=⟨_,rfl⟩
 rw [hr] at PK ⊢
 dsimp only at PK ⊢
 obtain ⟨r1,hr1⟩:∃ r,B r1=r:=⟨_,rfl⟩
 rw [hr1] at PK ⊢
 clear hr1 hr h0 h1 h2 hwl hnl hdl
 have HS0:∀ (j:Nat) F,j=d→(#[Value.func (.func 39) #[] #[],.func (.func 40) #[] #[],.func (.func 41) #[] #[]]:Array Value)[j]? = some F→PxC w w.heap.size d F (((w.alloc (.cells #[.nilFunc,.nilFunc,.nilFunc] 51)).setRow w.heap.size #[Value.func (.func 39) #[] #[],.func (.func 40) #[] #[],.func (.func 41) #[] #[]]).drew):=fun j F hj hF=>by
  subst hj
  have hb:Below w.heap.size w ((w.alloc (.cells #[.nilFunc,.nilFunc,.nilFunc] 51)).setRow w.heap.size #[Value.func (.func 39) #[] #[],.func (.func 40) #[] #[],.func (.func 41) #[] #[]]):=by rw [World.setRow_alloc_new];exact below_alloc (Below.refl _ _) _
  exact ⟨⟨hGl.step (below_drew hb),below_drew hb⟩,(cell_setRow_same _ _ _ _ _ _ _ (heap_alloc_last w _)).trans hF⟩
 have HG:=Lib.hid hGl
 clear hs hGl
 have hd3:d=0∨d=1∨d=2:=by omega
 clear hd
 rcases hd3 with rfl|rfl|rfl
 · have HS1:PxC w w.heap.size 0 (.func (.func 39) #[] #[]) (((w.alloc (.cells #[.nilFunc,.nilFunc,.nilFunc] 51)).setRow w.heap.size #[Value.func (.func 39) #[] #[],.func (.func 40) #[] #[],.func (.func 41) #[] #[]]).drew):=HS0 0 _ rfl rfl
   have e0:((0:Nat):Int)=0:=rfl
   rw [e0] at WR ⊢
   have HS2:=Lib.hid HS1
   clear HS0 HS1 e0
   go_enter Tryz.func18,Tryz.ntmps18
   go_wp2_with (first | (refine wpList_store_row rfl 51 (.tmp 8) (.tmp 9) rfl w.heap.size #[Value.func (.func 39) #[] #[],.func (.func 40) #[] #[],.func (.func 41) #[] #[]] rfl rfl 51 #[.nilFunc,.nilFunc,.nilFunc] (heap_alloc_last w _) (by kernel_rfl) rfl (by simp [Value.oneCell']) ?_))
   have HS:=HS2.out
   go_region_held3 (fun W=>(Glob W∧Below w.heap.size w W)∧W.cell? ⟨w.heap.size,0,none⟩=some (.func (.func 39) #[] #[])) (first|with_reducible assumption|with_reducible exact HS|exact PxC.call hb (by with_reducible assumption)) (first | (go_at_call 37;with_reducible refine (WR.out _).mono ?_;rintro e w' ⟨rfl,hb⟩) | (go_at_call 24;with_reducible refine (NR.out _).mono ?_;rintro e w' ⟨rfl,hb⟩) | (go_at_call 33;with_reducible refine (DR.out _ (And.left (And.left (by with_reducible assumption:PxC w w.heap.size 0 (.func (.func 39) #[] #[]) _)))).mono ?_;rintro e w' ⟨⟨v,rfl,hV⟩,hb⟩) | (go_at_call 39;refine (PK.out _ v _ _ (by assumption)).mono ?_;rintro e w' ⟨rfl,hb⟩))
   have HB:=And.right (And.left (by with_reducible assumption:PxC w w.heap.size 0 (.func (.func 39) #[] #[]) w'))
   go_wp2_with fail
   go_ret2
   exact ⟨rfl,HB⟩
 · have HS1:PxC w w.heap.size 1 (.func (.func 40) #[] #[]) (((w.alloc (.cells #[.nilFunc,.nilFunc,.nilFunc] 51)).setRow w.heap.size #[Value.func (.func 39) #[] #[],.func (.func 40) #[] #[],.func (.func 41) #[] #[]]).drew):=HS0 1 _ rfl rfl
   have e0:((1:Nat):Int)=1:=rfl
   rw [e0] at WR ⊢
   have HS2:=Lib.hid HS1
   clear HS0 HS1 e0
   go_enter Tryz.func18,Tryz.ntmps18
   go_wp2_with (first | (refine wpList_store_row rfl 51 (.tmp 8) (.tmp 9) rfl w.heap.size #[Value.func (.func 39) #[] #[],.func (.func 40) #[] #[],.func (.func 41) #[] #[]] rfl rfl 51 #[.nilFunc,.nilFunc,.nilFunc] (heap_alloc_last w _) (by kernel_rfl) rfl (by simp [Value.oneCell']) ?_))
   have HS:=HS2.out
   go_region_held3 (fun W=>(Glob W∧Below w.heap.size w W)∧W.cell? ⟨w.heap.size,1,none⟩=some (.func (.func 40) #[] #[])) (first|with_reducible assumption|with_reducible exact HS|exact PxC.call hb (by with_reducible assumption)) (first | (go_at_call 37;with_reducible refine (WR.out _).mono ?_;rintro e w' ⟨rfl,hb⟩) | (go_at_call 24;with_reducible refine (NR.out _).mono ?_;rintro e w' ⟨rfl,hb⟩) | (go_at_call 33;with_reducible refine (DR.out _ (And.left (And.left (by with_reducible assumption:PxC w w.heap.size 1 (.func (.func 40) #[] #[]) _)))).mono ?_;rintro e w' ⟨⟨v,rfl,hV⟩,hb⟩) | (go_at_call 40;refine (PK.out _ v _ _ (by assumption)).mono ?_;rintro e w' ⟨rfl,hb⟩))
   have HB:=And.right (And.left (by with_reducible assumption:PxC w w.heap.size 1 (.func (.func 40) #[] #[]) w'))
   go_wp2_with fail
   go_ret2
   exact ⟨rfl,HB⟩
 · have HS1:PxC w w.heap.size 2 (.func (.func 41) #[] #[]) (((w.alloc (.cells #[.nilFunc,.nilFunc,.nilFunc] 51)).setRow w.heap.size #[Value.func (.func 39) #[] #[],.func (.func 40) #[] #[],.func (.func 41) #[] #[]]).drew):=HS0 2 _ rfl rfl
   have e0:((2:Nat):Int)=2:=rfl
   rw [e0] at WR ⊢
   have HS2:=Lib.hid HS1
   clear HS0 HS1 e0
   go_enter Tryz.func18,Tryz.ntmps18
   go_wp2_with (first | (refine wpList_store_row rfl 51 (.tmp 8) (.tmp 9) rfl w.heap.size #[Value.func (.func 39) #[] #[],.func (.func 40) #[] #[],.func (.func 41) #[] #[]] rfl rfl 51 #[.nilFunc,.nilFunc,.nilFunc] (heap_alloc_last w _) (by kernel_rfl) rfl (by simp [Value.oneCell']) ?_))
   have HS:=HS2.out
   go_region_held3 (fun W=>(Glob W∧Below w.heap.size w W)∧W.cell? ⟨w.heap.size,2,none⟩=some (.func (.func 41) #[] #[])) (first|with_reducible assumption|with_reducible exact HS|exact PxC.call hb (by with_reducible assumption)) (first | (go_at_call 37;with_reducible refine (WR.out _).mono ?_;rintro e w' ⟨rfl,hb⟩) | (go_at_call 24;with_reducible refine (NR.out _).mono ?_;rintro e w' ⟨rfl,hb⟩) | (go_at_call 33;with_reducible refine (DR.out _ (And.left (And.left (by with_reducible assumption:PxC w w.heap.size 2 (.func (.func 41) #[] #[]) _)))).mono ?_;rintro e w' ⟨⟨v,rfl,hV⟩,hb⟩) | (go_at_call 41;refine (PK.out _ v _ _ (by assumption)).mono ?_;rintro e w' ⟨rfl,hb⟩))
   have HB:=And.right (And.left (by with_reducible assumption:PxC w w.heap.size 2 (.func (.func 41) #[] #[]) w'))
   go_wp2_with fail
   go_ret2
   exact ⟨rfl,HB⟩
set_option maxRecDepth 100000 in
theorem parse_out (d:Int) (hd:d<0∨2<d) (single:Bool) (a:ByteArray) (w:World) :
  Calls Tryz.prog 18 #[.int .i64 d,.bool single,.string a] w fun e w'=>e = .returned (.tuple #[.string ⟨#[]⟩,.bool false])∧Below w.heap.size w w':=by
 have hb:Below w.heap.size w ((w.alloc (.cells #[.nilFunc,.nilFunc,.nilFunc] 51)).setRow w.heap.size #[Value.func (.func 39) #[] #[],.func (.func 40) #[] #[],.func (.func 41) #[] #[]]):=by rw [World.setRow_alloc_new];exact below_alloc (Below.refl _ _) _
 have HB:=Lib.hid hb
 clear hb
 by_cases h:d<0
 · have q:decide (d<0)=true:=decide_eq_true h
   clear hd h
   go_enter Tryz.func18,Tryz.ntmps18
   go_wp2_with (first | (refine wpList_store_row rfl 51 (.tmp 8) (.tmp 9) rfl w.heap.size #[Value.func (.func 39) #[] #[],.func (.func 40) #[] #[],.func (.func 41) #[] #[]] rfl rfl 51 #[.nilFunc,.nilFunc,.nilFunc] (heap_alloc_last w _) (by kernel_rfl) rfl (by simp [Value.oneCell']) ?_))
   go_ret2
   exact ⟨rfl,HB.out⟩
 · have q:decide (d<0)=false:=decide_eq_false h
   have q2:decide (d≥3)=true:=decide_eq_true (by omega)
   have q3:decide (3≤d)=true:=decide_eq_true (by omega)
   clear hd h
   go_enter Tryz.func18,Tryz.ntmps18
   go_wp2_with (first | (refine wpList_store_row rfl 51 (.tmp 8) (.tmp 9) rfl w.heap.size #[Value.func (.func 39) #[] #[],.func (.func 40) #[] #[],.func (.func 41) #[] #[]] rfl rfl 51 #[.nilFunc,.nilFunc,.nilFunc] (heap_alloc_last w _) (by kernel_rfl) rfl (by simp [Value.oneCell']) ?_))
   go_ret2
   exact ⟨rfl,HB.out⟩
theorem parse_c (d:Int) (single:Bool) (s:List UInt8) (hs:s.length≤20000) (w:World) (hGl:Glob w) :
  Calls Tryz.prog 18 #[.int .i64 d,.bool single,.string (B s)] w fun e w'=>e = .returned (.tuple #[.string (B (parseL d single s).1),.bool (parseL d single s).2])∧Below w.heap.size w w':=by
 by_cases h:d<0∨2<d
 · have e:parseL d single s=([],false):=by unfold parseL;rw [if_neg (by omega),if_neg (by omega),if_neg (by omega)]
   rw [e]
   exact parse_out d h single _ w
 · obtain ⟨n,rfl⟩:=Int.eq_ofNat_of_zero_le (show 0≤d by omega)
   have hn:n<3:=by omega
   have e:parseL (n:Int) single s=pkL n (driveL (normL (wrapL n single s))):=by
    unfold parseL pkL
    by_cases h0:n=0
    · rw [if_pos (by omega),if_pos h0]
    · rw [if_neg (by omega),if_neg h0]
      by_cases h1:n=1
      · rw [if_pos (by omega),if_pos h1]
      · rw [if_neg (by omega),if_neg h1,if_pos (by omega)]
   rw [e]
   exact parse_in n hn single s hs w hGl
end Go.Proofs.YtcecjoaeolglbaaGreatDoor.Hand
end

section
namespace Go.Proofs.YtcecjoaeolglbaaGreatDoor.Pl
open Go Go.Proofs.YtcecjoaeolglbaaGreatDoor.Hand
structure Fl where
 told:List UInt8
 ends:Nat
 bl:List UInt8
structure Pg where
 fl:Fl
 op:List (List UInt8)
 kept:Nat
end Go.Proofs.YtcecjoaeolglbaaGreatDoor.Pl
end

section
namespace Go.Proofs.YtcecjoaeolglbaaGreatDoor.Hand
open Go Go.RowKit Go.Proofs.YtcecjoaeolglbaaGreatDoor.Pl Go.Proofs.YtcecjoaeolglbaaGreatDoor.Pb Go.Proofs.YtcecjoaeolglbaaGreatDoor.Pure
theorem clean_of {s:List UInt8} (h:(0:UInt8)∉s):cleanL s=s:=cleanL_of_no0 h
def roundsL (d:Int):Nat→List UInt8→List UInt8
 | 0,s=>s
 | n+1,s=>roundsL d n (roundL d s)
theorem norm_no13 (s:List UInt8):(13:UInt8)∉normL s:=normL_no13 s
theorem clean_no13 {s:List UInt8} (h:(13:UInt8)∉s):(13:UInt8)∉cleanL s:=by
 intro hm
 unfold cleanL at hm
 obtain ⟨c,hc,hx⟩:=List.mem_flatMap.1 hm
 unfold cleanB at hx
 split at hx
 · exact absurd hx (by decide)
 · rw [List.mem_singleton] at hx;exact h (hx ▸ hc)
theorem trimN_sub {s:List UInt8} {c:UInt8} (h:c∈trimN s):c∈s:=by
 cases s with
 | nil=>exact h
 | cons d r =>
   change c∈(if d=10 then r else d::r) at h
   split at h
   · exact List.mem_cons_of_mem _ h
   · exact h
theorem rounds_once (d:Int) (hd:d=0∨d=1) (s:List UInt8):∀ n,roundsL d n (roundL d s)=roundL d s:=by
 intro n
 induction n with
 | zero=>rfl
 | succ n ih =>
   have e:roundL d (roundL d s)=roundL d s:=by
    rcases hd with rfl|rfl
    · show normL (normL s)=normL s
      exact normL_of_no13 (norm_no13 s)
    · show cleanL (normL (cleanL (normL s)))=cleanL (normL s)
      rw [normL_of_no13 (clean_no13 (norm_no13 s)),clean_of (cleanL_no0 _)]
   rw [roundsL,e,ih]
def trimsN:Nat→List UInt8→List UInt8
 | 0,s=>s
 | n+1,s=>trimsN n (trimN s)
theorem rounds_trim {s:List UInt8} (h0:(0:UInt8)∉s) (h13:(13:UInt8)∉s):∀ n,roundsL 2 n s=trimsN n s:=by
 intro n
 induction n generalizing s with
 | zero=>rfl
 | succ n ih =>
   have e:roundL 2 s=trimN s:=by
    show trimN (cleanL (normL s))=trimN s
    rw [normL_of_no13 h13,clean_of h0]
   rw [roundsL,trimsN,e,ih (fun h=>h0 (trimN_sub h)) (fun h=>h13 (trimN_sub h))]
theorem round2_no (s:List UInt8):(0:UInt8)∉roundL 2 s∧(13:UInt8)∉roundL 2 s :=
 ⟨fun h=>cleanL_no0 _ (trimN_sub h),fun h=>clean_no13 (norm_no13 s) (trimN_sub h)⟩
end Go.Proofs.YtcecjoaeolglbaaGreatDoor.Hand
end

section
namespace Go.Proofs.YtcecjoaeolglbaaGreatDoor.Hand
open Go Go.RowKit Go.Proofs.YtcecjoaeolglbaaGreatDoor.Pl Go.Proofs.YtcecjoaeolglbaaGreatDoor.Pb Go.Proofs.YtcecjoaeolglbaaGreatDoor.Pure
theorem trimN_len (s:List UInt8):(trimN s).length≤s.length:=by
 cases s with
 | nil=>exact Nat.le_refl _
 | cons c r =>
   show (if c=10 then r else c::r).length≤_
   split
   · simp
   · exact Nat.le_refl _
theorem trimsN_len:∀ (n:Nat) (s:List UInt8),(trimsN n s).length≤s.length:=by
 intro n
 induction n with
 | zero=>intro s;exact Nat.le_refl _
 | succ n ih=>intro s;exact Nat.le_trans (ih (trimN s)) (trimN_len s)
theorem roundL_len (d:Int) (s:List UInt8):(roundL d s).length≤3*s.length:=by
 have h1:=normL_length s
 have h2:=(cleanL_length (normL s)).2
 have h3:=trimN_len (cleanL (normL s))
 unfold roundL
 repeat' split
 all_goals omega
theorem rounds_after (d:Int) (hd:d=0∨d=1∨d=2) (s:List UInt8) (n:Nat):roundsL d (n+1) s=if d=2 then trimsN n (roundL 2 s) else roundL d s:=by
 show roundsL d n (roundL d s)=_
 rcases hd with rfl|rfl|rfl
 · rw [if_neg (by decide)];exact rounds_once 0 (.inl rfl) s n
 · rw [if_neg (by decide)];exact rounds_once 1 (.inr rfl) s n
 · rw [if_pos rfl];exact rounds_trim (round2_no s).1 (round2_no s).2 n
theorem rounds_len (d:Int) (hd:d=0∨d=1∨d=2) (s:List UInt8):∀ n,(roundsL d n s).length≤3*s.length:=by
 intro n
 cases n with
 | zero=>show s.length≤_;omega
 | succ n =>
   rw [rounds_after d hd]
   have h1:=roundL_len d s
   split
   · have h2:=trimsN_len n (roundL 2 s)
     have h3:=roundL_len 2 s
     omega
   · exact h1
end Go.Proofs.YtcecjoaeolglbaaGreatDoor.Hand
end

section
namespace Go.Proofs.YtcecjoaeolglbaaGreatDoor.Hand
open Go Go.RowKit Go.Proofs.YtcecjoaeolglbaaGreatDoor.K0 Go.Proofs.YtcecjoaeolglbaaGreatDoor.Pl Go.Proofs.YtcecjoaeolglbaaGreatDoor.Pb Go.Proofs.YtcecjoaeolglbaaGreatDoor.Sa Go.Proofs.YtcecjoaeolglbaaGreatDoor.St Go.Proofs.YtcecjoaeolglbaaGreatDoor.Pure Go.Proofs.YtcecjoaeolglbaaGreatDoorW.PrintWords Go.Proofs.YtcecjoaeolglbaaGreatDoorW.PrintLast Go.Proofs.YtcecjoaeolglbaaGreatDoorW.PrintMore
set_option maxRecDepth 100000 in
set_option maxHeartbeats 4000000 in
theorem round_c (d:Int) (hd:d=0∨d=1∨d=2) (s:List UInt8) (hs:s.length≤3000) (w:World) (hGl:Glob w) :
  Calls Tryz.prog 23 #[.int .i64 d,.string (B s)] w fun e w'=>e = .returned (.tuple #[.string (B (roundL d s)),.bool true])∧Below w.heap.size w w':=by
 have hl:(serL d s).length≤6*s.length:=by
  unfold serL
  rw [if_neg (by omega)]
  exact (ser_length _ _ s (Nat.le_refl _)).2
 have SE:=serial_c d (by omega) s w (by omega)
 have PA:=fun W hG=>parse_c d false (serL d s) (by omega) W hG
 rw [parse_ser d hd s] at PA
 obtain ⟨a,ha⟩:∃ a,B s=a:=⟨_,rfl⟩
 obtain ⟨a2,ha2⟩:∃ a,B (serL d s)=a:=⟨_,rfl⟩
 obtain ⟨a3,ha3⟩:∃ a,B (roundL d s)=a:=⟨_,rfl⟩
 rw [ha,ha2] at SE
 rw [ha2] at PA
 dsimp only at PA
 rw [ha3] at PA ⊢
 rw [ha]
 replace SE:=Lib.hid SE
 replace PA:=Lib.hid PA
 have HG:=Lib.hid hGl
 clear hl ha ha2 ha3 hs hGl hd
 go_enter Tryz.func23,Tryz.ntmps23
 go_wp2_with fail
 refine SE.out.mono ?_
 rintro e w1 ⟨rfl,hb1⟩
 have P1:=Lib.hid (PA.out w1 (HG.out.step hb1))
 have HB:=Lib.hid hb1
 clear hb1 SE PA
 go_wp2_with fail
 refine P1.out.mono ?_
 rintro e w2 ⟨rfl,hb2⟩
 have HB2:=Lib.hid (HB.out.trans (hb2.mono HB.out.size))
 clear hb2 P1
 go_wp2_with fail
 go_ret2
 exact ⟨rfl,HB2.out⟩
def nxF (db nb:Nat):Value:=.func (.func 49) #[] #[.pointer (some ⟨db,0,none⟩),.pointer (some ⟨nb,0,none⟩)]
set_option maxRecDepth 100000 in
set_option maxHeartbeats 4000000 in
theorem next_rounds (d:Int) (hd:d=0∨d=1∨d=2) (db nb:Nat):∀ (n:Nat) (_:n≤1000) (s:List UInt8) (_:∀ j,j≤n→(roundsL d j s).length≤3000) (w:World) (_:Glob w) (_:w.cell? ⟨db,0,none⟩=some (.int .i64 d)) (_:w.cell? ⟨nb,0,none⟩=some (nxF db nb)),
  Calls Tryz.prog 49 #[.string (B s),.int .i64 (n:Int),.pointer (some ⟨db,0,none⟩),.pointer (some ⟨nb,0,none⟩)] w fun e w'=>e = .returned (.tuple #[.string (B (roundsL d n s)),.bool true])∧Below w.heap.size w w':=by
 intro n
 induction n with
 | zero =>
   intro _ s _ w _ c1 c2
   rw [show roundsL d 0 s=s from rfl]
   obtain ⟨a,ha⟩:∃ a,B s=a:=⟨_,rfl⟩
   rw [ha]
   clear ha
   go_enter Tryz.func49,Tryz.ntmps49
   go_wp2_with fail
   go_ret2
   exact ⟨rfl,Below.refl _ _⟩
 | succ n ih =>
   intro hn s hs w hG c1 c2
   have R:=round_c d hd s (hs 0 (by omega)) w hG
   have hc:∀ {W:World},Below w.heap.size w W→Glob W∧W.cell? ⟨db,0,none⟩=some (.int .i64 d)∧W.cell? ⟨nb,0,none⟩=some (nxF db nb):=fun hb =>
    ⟨hG.step hb,(hb.cell (World.block_lt_of_cell? w _ c1)).trans c1,(hb.cell (World.block_lt_of_cell? w _ c2)).trans c2⟩
   have NX:∀ W,Below w.heap.size w W→Calls Tryz.prog 49 #[.string (B (roundL d s)),.int .i64 (n:Int),.pointer (some ⟨db,0,none⟩),.pointer (some ⟨nb,0,none⟩)] W fun e w'=>e = .returned (.tuple #[.string (B (roundsL d n (roundL d s))),.bool true])∧Below W.heap.size W w':=fun W hb=>by
    obtain ⟨g1,g2,g3⟩:=hc hb
    exact ih (by omega) (roundL d s) (fun j hj=>hs (j+1) (by omega)) W g1 g2 g3
   have NC:Hid (∀ W,Below w.heap.size w W→W.cell? ⟨nb,0,none⟩=some (nxF db nb)):=Lib.hid (fun W hb=>(hc hb).2.2)
   rw [show roundsL d (n+1) s=roundsL d n (roundL d s) from rfl]
   obtain ⟨a,ha⟩:∃ a,B s=a:=⟨_,rfl⟩
   obtain ⟨a2,ha2⟩:∃ a,B (roundL d s)=a:=⟨_,rfl⟩
   obtain ⟨a3,ha3⟩:∃ a,B (roundsL d n (roundL d s))=a:=⟨_,rfl⟩
   rw [ha,ha2] at R
   rw [ha2,ha3] at NX
   rw [ha,ha3]
   have q:decide (((n+1:Nat):Int)<1)=false:=decide_eq_false (by omega)
   have qw:wrap64 (((n+1:Nat):Int) - 1)=(n:Int):=by unfold wrap64;omega
   replace R:=Lib.hid R
   replace NX:=Lib.hid NX
   clear ih hs hc c2 hG ha ha2 ha3 hd
   obtain ⟨m,hm⟩:∃ m:Int,((n+1:Nat):Int)=m:=⟨_,rfl⟩
   rw [hm] at q qw ⊢
   clear hm hn
   go_enter Tryz.func49,Tryz.ntmps49
   go_wp2_with fail
   refine R.out.mono ?_
   rintro e w1 ⟨rfl,hb1⟩
   have g3:=NC.out w1 hb1
   unfold nxF at g3
   have N1:=Lib.hid (NX.out w1 hb1)
   have HB:=Lib.hid hb1
   clear hb1 R NX NC
   go_wp2_with fail
   refine N1.out.mono ?_
   rintro e w2 ⟨rfl,hb2⟩
   have HB2:=Lib.hid (HB.out.trans (hb2.mono HB.out.size))
   clear hb2 N1
   go_wp2_with fail
   go_ret2
   exact ⟨rfl,HB2.out⟩
set_option maxRecDepth 100000 in
set_option maxHeartbeats 4000000 in
theorem rounds_c (d:Int) (hd:d=0∨d=1∨d=2) (n:Nat) (hn:n≤1000) (s:List UInt8) (hs:∀ j,j≤n→(roundsL d j s).length≤3000) (w:World) (hGl:Glob w) :
  Calls Tryz.prog 26 #[.int .i64 d,.string (B s),.int .i64 (n:Int)] w fun e w'=>e = .returned (.tuple #[.string (B (roundsL d n s)),.bool true])∧Below w.heap.size w w':=by
 have hm:∀ (ts:Array TypeId) (t:TypeId) (W:World),(Builtin.min_ ts t #[.int .i64 (n:Int),.int .i64 1000]).run Tryz.prog W = .ok (.int .i64 (n:Int)) W:=fun ts t W=>by
  rw [min_two,min2_int,if_neg (by omega)]
  rfl
 obtain ⟨W2,hW2⟩:∃ W,(w.alloc (.cells #[.int .i64 d] 3)).alloc (.cells #[nxF w.heap.size (w.heap.size+1)] 65)=W:=⟨_,rfl⟩
 have hB2:Below w.heap.size w W2:=by
  rw [← hW2]
  exact (Below.alloc (Below.refl w.heap.size w) (Nat.le_refl _) _).alloc (by simp) _
 have NX:Calls Tryz.prog 49 #[.string (B s),.int .i64 (n:Int),.pointer (some ⟨w.heap.size,0,none⟩),.pointer (some ⟨w.heap.size+1,0,none⟩)] W2 fun e w'=>e = .returned (.tuple #[.string (B (roundsL d n s)),.bool true])∧Below W2.heap.size W2 w':=by
  refine next_rounds d hd w.heap.size (w.heap.size+1) n hn s hs W2 (hGl.step hB2) ?_ ?_
  · rw [← hW2]
    have:=World.cell?_alloc_at (w:=w) #[.int .i64 d] 3 w.heap.size 0 rfl
    exact (World.cell?_of_block (Lib.alloc_old _ _ _ (by simp))).trans this
  · rw [← hW2]
    exact World.cell?_alloc_at _ _ _ 0 (by simp)
 have HB2:=Lib.hid hB2
 replace NX:=Lib.hid NX
 have HW:=Lib.hid hW2
 unfold nxF at HW
 obtain ⟨a,ha⟩:∃ a,B s=a:=⟨_,rfl⟩
 rw [ha] at NX ⊢
 have hst:∀ (W:World) (m:Mode),Sem.run Tryz.prog (store ⟨w.heap.size+1,0,none⟩ (.func (.func 49) #[] #[.pointer (some ⟨w.heap.size,0,none⟩),.pointer (some ⟨w.heap.size+1,0,none⟩)]) m) W=stored Tryz.prog W ⟨w.heap.size+1,0,none⟩ (.func (.func 49) #[] #[.pointer (some ⟨w.heap.size,0,none⟩),.pointer (some ⟨w.heap.size+1,0,none⟩)]) m:=fun W m=>run_store Tryz.prog W _ _ m rfl
 clear hs hGl hd hn ha hB2 hW2
 go_enter Tryz.func26,Tryz.ntmps26
 go_wp2_with fail
 rw [HW.out]
 refine NX.out.mono ?_
 rintro e w3 ⟨rfl,hb3⟩
 have HB3:=Lib.hid (HB2.out.trans (hb3.mono HB2.out.size))
 clear hb3 NX HB2 HW
 go_wp2_with fail
 go_ret2
 exact ⟨rfl,HB3.out⟩
noncomputable def rounds_Round.f (a0:Int) (a1:ByteArray):Option (ByteArray×Bool):=if a1.size≤3000∧(a0=0∨a0=1∨a0=2) then some (B (roundL a0 a1.data.toList),true) else none
theorem rounds_Round.calls (a0:Int) (a1:ByteArray) (r1:ByteArray) (r2:Bool) (w:World) (hGl:Glob w) (h:rounds_Round.f a0 a1=some (r1,r2)) :
  Calls Tryz.prog 23 #[.int .i64 a0,.string a1] w fun e w'=>e = .returned (.tuple #[.string r1,.bool r2])∧Below w.heap.size w w':=by
 obtain ⟨hc,h⟩:=hg_split h
 have h:=Option.some.inj h
 simp only [Prod.mk.injEq] at h
 obtain ⟨rfl,rfl⟩:=h
 have:=round_c a0 hc.2 a1.data.toList (by rw [Array.length_toList];exact hc.1) w hGl
 rwa [← B_of] at this
def okR (d:Int) (n:Int) (s:ByteArray):Prop:=(d=0∨d=1∨d=2)∧0≤n∧n≤1000∧s.size≤1000
instance (d:Int) (n:Int) (s:ByteArray):Decidable (okR d n s):=by unfold okR;infer_instance
noncomputable def rounds_Rounds.f (a0:Int) (a1:ByteArray) (a2:Int):Option (ByteArray×Bool):=if okR a0 a2 a1 then some (B (roundsL a0 a2.toNat a1.data.toList),true) else none
theorem rounds_Rounds.calls (a0:Int) (a1:ByteArray) (a2:Int) (r1:ByteArray) (r2:Bool) (w:World) (hGl:Glob w) (h:rounds_Rounds.f a0 a1 a2=some (r1,r2)) :
  Calls Tryz.prog 26 #[.int .i64 a0,.string a1,.int .i64 a2] w fun e w'=>e = .returned (.tuple #[.string r1,.bool r2])∧Below w.heap.size w w':=by
 obtain ⟨hc,h⟩:=hg_split h
 have h:=Option.some.inj h
 simp only [Prod.mk.injEq] at h
 obtain ⟨rfl,rfl⟩:=h
 obtain ⟨h1,h2,h3,h4⟩:=hc
 have:=rounds_c a0 h1 a2.toNat (by omega) a1.data.toList (fun j _=>by
  have h5:=rounds_len a0 h1 a1.data.toList j
  have h6:a1.data.toList.length=a1.size:=Array.length_toList
  exact Nat.le_trans h5 (by omega)) w hGl
 rw [← B_of,Int.toNat_of_nonneg h2] at this
 exact this
noncomputable def rounds_Serial.f (a0:Int) (a1:ByteArray):Option ByteArray:=if a1.size≤100000∧0≤a0∧a0≤2 then some (B (serL a0 a1.data.toList)) else none
theorem rounds_Serial.calls (a0:Int) (a1 r:ByteArray) (w:World) (h:rounds_Serial.f a0 a1=some r) :
  Calls Tryz.prog 27 #[.int .i64 a0,.string a1] w fun e w'=>e = .returned (.string r)∧Below w.heap.size w w':=by
 obtain ⟨hc,h⟩:=hg_split h
 obtain rfl:=Option.some.inj h
 have:=serial_c a0 hc.2 a1.data.toList w (by rw [Array.length_toList];exact hc.1)
 rwa [← B_of] at this
end Go.Proofs.YtcecjoaeolglbaaGreatDoor.Hand
end

section
namespace Go.Proofs.YtcecjoaeolglbaaGreatDoor.So
open Go.RowKit Go.Proofs.YtcecjoaeolglbaaGreatDoor.K0 Go.Proofs.YtcecjoaeolglbaaGreatDoor.Hand Go.Proofs.YtcecjoaeolglbaaGreatDoor.Sa Go.Proofs.YtcecjoaeolglbaaGreatDoorW.PrintWords Go.Proofs.YtcecjoaeolglbaaGreatDoorW.PrintLast Go.Proofs.YtcecjoaeolglbaaGreatDoorW.PrintMore
attribute [local go_sem] max2_int min2_int max_two min_two max_three min_three max_four min_four  
set_option linter.unusedVariables false
set_option linter.unusedSimpArgs false
noncomputable def flaillaw24_awake.f  : Option (Bool):=(rounds_Round.f 1 (⟨#[97,34,98,60]⟩:ByteArray)).bind fun bt101=>((rounds_Rounds.f 2 (⟨#[10,97]⟩:ByteArray) 3).bind fun bt103=>(if bt101.2=true then (if bt103.2=true then (if bt101.1.toList=([97,34,98,60]:List UInt8) then (if bt103.1.toList=([97]:List UInt8) then ((rounds_Serial.f 0 (⟨#[97,38,194,160]⟩:ByteArray)).bind fun t105=>(some (t105.toList == ([97,38,97,109,112,59,38,110,98,115,112,59]:List UInt8)))) else (some false)) else (some false)) else (some false)) else (some false)))
set_option maxHeartbeats 8000000 in
set_option maxRecDepth 100000 in
theorem flaillaw24_awake.calls  (r:Bool) (w:World) (hGl:Glob w) (h:flaillaw24_awake.f  = some r) :
  Calls Tryz.prog 22 #[] w fun e w'=>e = .returned (.bool r)∧Below w.heap.size w w':=by
 have HB:=Aside0.mk (Below.refl w.heap.size w)
 have H:((rounds_Round.f 1 (⟨#[97,34,98,60]⟩:ByteArray)).bind fun bt101=>((rounds_Rounds.f 2 (⟨#[10,97]⟩:ByteArray) 3).bind fun bt103=>(if bt101.2=true then (if bt103.2=true then (if bt101.1.toList=([97,34,98,60]:List UInt8) then (if bt103.1.toList=([97]:List UInt8) then ((rounds_Serial.f 0 (⟨#[97,38,194,160]⟩:ByteArray)).bind fun t105=>(some (t105.toList == ([97,38,97,109,112,59,38,110,98,115,112,59]:List UInt8)))) else (some false)) else (some false)) else (some false)) else (some false))))=some r:=h
 clear h
 replace H:=Option.bind_eq_some_iff.mp H
 obtain ⟨⟨t101,t102⟩,A10,H⟩:=H
 replace H:((rounds_Rounds.f 2 (⟨#[10,97]⟩:ByteArray) 3).bind fun bt103=>(if t102=true then (if bt103.2=true then (if t101.toList=([97,34,98,60]:List UInt8) then (if bt103.1.toList=([97]:List UInt8) then ((rounds_Serial.f 0 (⟨#[97,38,194,160]⟩:ByteArray)).bind fun t105=>(some (t105.toList == ([97,38,97,109,112,59,38,110,98,115,112,59]:List UInt8)))) else (some false)) else (some false)) else (some false)) else (some false)))=some r:=H
 have A1:=Aside0.mk A10
 clear A10
 replace H:=Option.bind_eq_some_iff.mp H
 obtain ⟨⟨t103,t104⟩,A20,H⟩:=H
 replace H:(if t102=true then (if t104=true then (if t101.toList=([97,34,98,60]:List UInt8) then (if t103.toList=([97]:List UInt8) then ((rounds_Serial.f 0 (⟨#[97,38,194,160]⟩:ByteArray)).bind fun t105=>(some (t105.toList == ([97,38,97,109,112,59,38,110,98,115,112,59]:List UInt8)))) else (some false)) else (some false)) else (some false)) else (some false))=some r:=H
 have A2:=Aside0.mk A20
 clear A20
 by_cases c3:t102=true
 · subst c3
   have H1:(if t104=true then (if t101.toList=([97,34,98,60]:List UInt8) then (if t103.toList=([97]:List UInt8) then ((rounds_Serial.f 0 (⟨#[97,38,194,160]⟩:ByteArray)).bind fun t105=>(some (t105.toList == ([97,38,97,109,112,59,38,110,98,115,112,59]:List UInt8)))) else (some false)) else (some false)) else (some false))=some r:=by rw [if_pos rfl] at H;exact H
   clear H
   have H:=H1
   clear H1
   by_cases c4:t104=true
   · subst c4
     have H1:(if t101.toList=([97,34,98,60]:List UInt8) then (if t103.toList=([97]:List UInt8) then ((rounds_Serial.f 0 (⟨#[97,38,194,160]⟩:ByteArray)).bind fun t105=>(some (t105.toList == ([97,38,97,109,112,59,38,110,98,115,112,59]:List UInt8)))) else (some false)) else (some false))=some r:=by rw [if_pos rfl] at H;exact H
     clear H
     have H:=H1
     clear H1
     by_cases c5:t101.toList=([97,34,98,60]:List UInt8)
     · rw [if_pos c5] at H
       have c5b0:(t101.toList == ([97,34,98,60]:List UInt8))=true:=beq_iff_eq.mpr c5
       have c5b1:(t101.toList != ([97,34,98,60]:List UInt8))=false:=bne_eq_false_iff_eq.mpr c5
       clear c5
       by_cases c6:t103.toList=([97]:List UInt8)
       · rw [if_pos c6] at H
         have c6b0:(t103.toList == ([97]:List UInt8))=true:=beq_iff_eq.mpr c6
         have c6b1:(t103.toList != ([97]:List UInt8))=false:=bne_eq_false_iff_eq.mpr c6
         clear c6
         replace H:=Option.bind_eq_some_iff.mp H
         obtain ⟨t105,A70,H⟩:=H
         replace H:(some (t105.toList == ([97,38,97,109,112,59,38,110,98,115,112,59]:List UInt8)))=some r:=H
         have A7:=Aside0.mk A70
         clear A70
         obtain rfl:=Option.some.inj H
         go_enter Tryz.func22,Tryz.ntmps22
         go_wp2_with (first | ((with_reducible refine gate_callee (f:=23) rfl ?_);refine goesL_ (some 6) rfl rfl Tryz.func23 (by kernel_rfl) rfl #[.int .i64 1,.string (⟨#[97,34,98,60]⟩:ByteArray)] rfl (by (try simp only [List.map_toArray,List.map_cons,List.map_nil]);first|done|rfl | (simp only [List.length_drop,List.length_take];rfl)) ?_;(with_reducible refine (rounds_Round.calls 1 (⟨#[97,34,98,60]⟩:ByteArray) t101 true _ ?side1 A1.out).mono ?_);(case side1=>exact Glob.step hGl (by repeat (first | (with_reducible first|exact HB.out|apply below_alloc|apply pw_below_drewN|apply below_drew1)|exact HB.out)));rintro e w8 ⟨rfl,hb⟩;refine ⟨_,rfl,?_⟩;have n0_:=Aside0.mk (below_step (by repeat (first | (with_reducible first|exact HB.out|apply below_alloc|apply pw_below_drewN|apply below_drew1)|exact HB.out)) hb);clear HB;have HB:=n0_;clear n0_;(try clear hb);(try clear hb2);(try clear hk);(try clear hi)) | ((with_reducible refine gate_callee (f:=26) rfl ?_);refine goesL_ (some 10) rfl rfl Tryz.func26 (by kernel_rfl) rfl #[.int .i64 2,.string (⟨#[10,97]⟩:ByteArray),.int .i64 3] rfl (by (try simp only [List.map_toArray,List.map_cons,List.map_nil]);first|done|rfl | (simp only [List.length_drop,List.length_take];rfl)) ?_;(with_reducible refine (rounds_Rounds.calls 2 (⟨#[10,97]⟩:ByteArray) 3 t103 true _ ?side1 A2.out).mono ?_);(case side1=>exact Glob.step hGl (by repeat (first | (with_reducible first|exact HB.out|apply below_alloc|apply pw_below_drewN|apply below_drew1)|exact HB.out)));rintro e w9 ⟨rfl,hb⟩;refine ⟨_,rfl,?_⟩;have n0_:=Aside0.mk (below_step (by repeat (first | (with_reducible first|exact HB.out|apply below_alloc|apply pw_below_drewN|apply below_drew1)|exact HB.out)) hb);clear HB;have HB:=n0_;clear n0_;(try clear hb);(try clear hb2);(try clear hk);(try clear hi)) | (go_at_call 27;(with_reducible refine (rounds_Serial.calls 0 (⟨#[97,38,194,160]⟩:ByteArray) t105 _ A7.out).mono ?_);rintro e w10 ⟨rfl,hb⟩;have n0_:=Aside0.mk (below_step (by repeat (first | (with_reducible first|exact HB.out|apply below_alloc|apply pw_below_drewN|apply below_drew1)|exact HB.out)) hb);clear HB;have HB:=n0_;clear n0_;(try clear hb);(try clear hb2);(try clear hk);(try clear hi)))
         go_ret
         exact ⟨by first|rfl | (simp [errW_none,errW_some]<;>rfl) | (simp [*,errW_none,errW_some]<;>rfl),by repeat (first | (with_reducible first|exact HB.out|apply below_alloc|apply pw_below_drewN|apply below_drew1)|exact HB.out)⟩
       · rw [if_neg c6] at H
         have c6b0:(t103.toList == ([97]:List UInt8))=false:=beq_eq_false_iff_ne.mpr c6
         have c6b1:(t103.toList != ([97]:List UInt8))=true:=bne_iff_ne.mpr c6
         obtain rfl:=Option.some.inj H
         go_enter Tryz.func22,Tryz.ntmps22
         go_wp2_with (first | ((with_reducible refine gate_callee (f:=23) rfl ?_);refine goesL_ (some 6) rfl rfl Tryz.func23 (by kernel_rfl) rfl #[.int .i64 1,.string (⟨#[97,34,98,60]⟩:ByteArray)] rfl (by (try simp only [List.map_toArray,List.map_cons,List.map_nil]);first|done|rfl | (simp only [List.length_drop,List.length_take];rfl)) ?_;(with_reducible refine (rounds_Round.calls 1 (⟨#[97,34,98,60]⟩:ByteArray) t101 true _ ?side1 A1.out).mono ?_);(case side1=>exact Glob.step hGl (by repeat (first | (with_reducible first|exact HB.out|apply below_alloc|apply pw_below_drewN|apply below_drew1)|exact HB.out)));rintro e w11 ⟨rfl,hb⟩;refine ⟨_,rfl,?_⟩;have n0_:=Aside0.mk (below_step (by repeat (first | (with_reducible first|exact HB.out|apply below_alloc|apply pw_below_drewN|apply below_drew1)|exact HB.out)) hb);clear HB;have HB:=n0_;clear n0_;(try clear hb);(try clear hb2);(try clear hk);(try clear hi)) | ((with_reducible refine gate_callee (f:=26) rfl ?_);refine goesL_ (some 10) rfl rfl Tryz.func26 (by kernel_rfl) rfl #[.int .i64 2,.string (⟨#[10,97]⟩:ByteArray),.int .i64 3] rfl (by (try simp only [List.map_toArray,List.map_cons,List.map_nil]);first|done|rfl | (simp only [List.length_drop,List.length_take];rfl)) ?_;(with_reducible refine (rounds_Rounds.calls 2 (⟨#[10,97]⟩:ByteArray) 3 t103 true _ ?side1 A2.out).mono ?_);(case side1=>exact Glob.step hGl (by repeat (first | (with_reducible first|exact HB.out|apply below_alloc|apply pw_below_drewN|apply below_drew1)|exact HB.out)));rintro e w12 ⟨rfl,hb⟩;refine ⟨_,rfl,?_⟩;have n0_:=Aside0.mk (below_step (by repeat (first | (with_reducible first|exact HB.out|apply below_alloc|apply pw_below_drewN|apply below_drew1)|exact HB.out)) hb);clear HB;have HB:=n0_;clear n0_;(try clear hb);(try clear hb2);(try clear hk);(try clear hi)))
         go_ret
         exact ⟨by first|rfl | (simp [errW_none,errW_some]<;>rfl) | (simp [*,errW_none,errW_some]<;>rfl),by repeat (first | (with_reducible first|exact HB.out|apply below_alloc|apply pw_below_drewN|apply below_drew1)|exact HB.out)⟩
     · rw [if_neg c5] at H
       have c5b0:(t101.toList == ([97,34,98,60]:List UInt8))=false:=beq_eq_false_iff_ne.mpr c5
       have c5b1:(t101.toList != ([97,34,98,60]:List UInt8))=true:=bne_iff_ne.mpr c5
       obtain rfl:=Option.some.inj H
       go_enter Tryz.func22,Tryz.ntmps22
       go_wp2_with (first | ((with_reducible refine gate_callee (f:=23) rfl ?_);refine goesL_ (some 6) rfl rfl Tryz.func23 (by kernel_rfl) rfl #[.int .i64 1,.string (⟨#[97,34,98,60]⟩:ByteArray)] rfl (by (try simp only [List.map_toArray,List.map_cons,List.map_nil]);first|done|rfl | (simp only [List.length_drop,List.length_take];rfl)) ?_;(with_reducible refine (rounds_Round.calls 1 (⟨#[97,34,98,60]⟩:ByteArray) t101 true _ ?side1 A1.out).mono ?_);(case side1=>exact Glob.step hGl (by repeat (first | (with_reducible first|exact HB.out|apply below_alloc|apply pw_below_drewN|apply below_drew1)|exact HB.out)));rintro e w13 ⟨rfl,hb⟩;refine ⟨_,rfl,?_⟩;have n0_:=Aside0.mk (below_step (by repeat (first | (with_reducible first|exact HB.out|apply below_alloc|apply pw_below_drewN|apply below_drew1)|exact HB.out)) hb);clear HB;have HB:=n0_;clear n0_;(try clear hb);(try clear hb2);(try clear hk);(try clear hi)) | ((with_reducible refine gate_callee (f:=26) rfl ?_);refine goesL_ (some 10) rfl rfl Tryz.func26 (by kernel_rfl) rfl #[.int .i64 2,.string (⟨#[10,97]⟩:ByteArray),.int .i64 3] rfl (by (try simp only [List.map_toArray,List.map_cons,List.map_nil]);first|done|rfl | (simp only [List.length_drop,List.length_take];rfl)) ?_;(with_reducible refine (rounds_Rounds.calls 2 (⟨#[10,97]⟩:ByteArray) 3 t103 true _ ?side1 A2.out).mono ?_);(case side1=>exact Glob.step hGl (by repeat (first | (with_reducible first|exact HB.out|apply below_alloc|apply pw_below_drewN|apply below_drew1)|exact HB.out)));rintro e w14 ⟨rfl,hb⟩;refine ⟨_,rfl,?_⟩;have n0_:=Aside0.mk (below_step (by repeat (first | (with_reducible first|exact HB.out|apply below_alloc|apply pw_below_drewN|apply below_drew1)|exact HB.out)) hb);clear HB;have HB:=n0_;clear n0_;(try clear hb);(try clear hb2);(try clear hk);(try clear hi)))
       go_ret
       exact ⟨by first|rfl | (simp [errW_none,errW_some]<;>rfl) | (simp [*,errW_none,errW_some]<;>rfl),by repeat (first | (with_reducible first|exact HB.out|apply below_alloc|apply pw_below_drewN|apply below_drew1)|exact HB.out)⟩
   · replace c4:=Bool.eq_false_iff.mpr c4
     subst c4
     have H1:(some false)=some r:=by rw [if_neg (show ¬ (false=true) by decide)] at H;exact H
     clear H
     have H:=H1
     clear H1
     obtain rfl:=Option.some.inj H
     go_enter Tryz.func22,Tryz.ntmps22
     go_wp2_with (first | ((with_reducible refine gate_callee (f:=23) rfl ?_);refine goesL_ (some 6) rfl rfl Tryz.func23 (by kernel_rfl) rfl #[.int .i64 1,.string (⟨#[97,34,98,60]⟩:ByteArray)] rfl (by (try simp only [List.map_toArray,List.map_cons,List.map_nil]);first|done|rfl | (simp only [List.length_drop,List.length_take];rfl)) ?_;(with_reducible refine (rounds_Round.calls 1 (⟨#[97,34,98,60]⟩:ByteArray) t101 true _ ?side1 A1.out).mono ?_);(case side1=>exact Glob.step hGl (by repeat (first | (with_reducible first|exact HB.out|apply below_alloc|apply pw_below_drewN|apply below_drew1)|exact HB.out)));rintro e w15 ⟨rfl,hb⟩;refine ⟨_,rfl,?_⟩;have n0_:=Aside0.mk (below_step (by repeat (first | (with_reducible first|exact HB.out|apply below_alloc|apply pw_below_drewN|apply below_drew1)|exact HB.out)) hb);clear HB;have HB:=n0_;clear n0_;(try clear hb);(try clear hb2);(try clear hk);(try clear hi)) | ((with_reducible refine gate_callee (f:=26) rfl ?_);refine goesL_ (some 10) rfl rfl Tryz.func26 (by kernel_rfl) rfl #[.int .i64 2,.string (⟨#[10,97]⟩:ByteArray),.int .i64 3] rfl (by (try simp only [List.map_toArray,List.map_cons,List.map_nil]);first|done|rfl | (simp only [List.length_drop,List.length_take];rfl)) ?_;(with_reducible refine (rounds_Rounds.calls 2 (⟨#[10,97]⟩:ByteArray) 3 t103 false _ ?side1 A2.out).mono ?_);(case side1=>exact Glob.step hGl (by repeat (first | (with_reducible first|exact HB.out|apply below_alloc|apply pw_below_drewN|apply below_drew1)|exact HB.out)));rintro e w16 ⟨rfl,hb⟩;refine ⟨_,rfl,?_⟩;have n0_:=Aside0.mk (below_step (by repeat (first | (with_reducible first|exact HB.out|apply below_alloc|apply pw_below_drewN|apply below_drew1)|exact HB.out)) hb);clear HB;have HB:=n0_;clear n0_;(try clear hb);(try clear hb2);(try clear hk);(try clear hi)))
     go_ret
     exact ⟨by first|rfl | (simp [errW_none,errW_some]<;>rfl) | (simp [*,errW_none,errW_some]<;>rfl),by repeat (first | (with_reducible first|exact HB.out|apply below_alloc|apply pw_below_drewN|apply below_drew1)|exact HB.out)⟩
 · replace c3:=Bool.eq_false_iff.mpr c3
   subst c3
   have H1:(some false)=some r:=by rw [if_neg (show ¬ (false=true) by decide)] at H;exact H
   clear H
   have H:=H1
   clear H1
   obtain rfl:=Option.some.inj H
   go_enter Tryz.func22,Tryz.ntmps22
   go_wp2_with (first | ((with_reducible refine gate_callee (f:=23) rfl ?_);refine goesL_ (some 6) rfl rfl Tryz.func23 (by kernel_rfl) rfl #[.int .i64 1,.string (⟨#[97,34,98,60]⟩:ByteArray)] rfl (by (try simp only [List.map_toArray,List.map_cons,List.map_nil]);first|done|rfl | (simp only [List.length_drop,List.length_take];rfl)) ?_;(with_reducible refine (rounds_Round.calls 1 (⟨#[97,34,98,60]⟩:ByteArray) t101 false _ ?side1 A1.out).mono ?_);(case side1=>exact Glob.step hGl (by repeat (first | (with_reducible first|exact HB.out|apply below_alloc|apply pw_below_drewN|apply below_drew1)|exact HB.out)));rintro e w17 ⟨rfl,hb⟩;refine ⟨_,rfl,?_⟩;have n0_:=Aside0.mk (below_step (by repeat (first | (with_reducible first|exact HB.out|apply below_alloc|apply pw_below_drewN|apply below_drew1)|exact HB.out)) hb);clear HB;have HB:=n0_;clear n0_;(try clear hb);(try clear hb2);(try clear hk);(try clear hi)) | ((with_reducible refine gate_callee (f:=26) rfl ?_);refine goesL_ (some 10) rfl rfl Tryz.func26 (by kernel_rfl) rfl #[.int .i64 2,.string (⟨#[10,97]⟩:ByteArray),.int .i64 3] rfl (by (try simp only [List.map_toArray,List.map_cons,List.map_nil]);first|done|rfl | (simp only [List.length_drop,List.length_take];rfl)) ?_;(with_reducible refine (rounds_Rounds.calls 2 (⟨#[10,97]⟩:ByteArray) 3 t103 t104 _ ?side1 A2.out).mono ?_);(case side1=>exact Glob.step hGl (by repeat (first | (with_reducible first|exact HB.out|apply below_alloc|apply pw_below_drewN|apply below_drew1)|exact HB.out)));rintro e w18 ⟨rfl,hb⟩;refine ⟨_,rfl,?_⟩;have n0_:=Aside0.mk (below_step (by repeat (first | (with_reducible first|exact HB.out|apply below_alloc|apply pw_below_drewN|apply below_drew1)|exact HB.out)) hb);clear HB;have HB:=n0_;clear n0_;(try clear hb);(try clear hb2);(try clear hk);(try clear hi)))
   go_ret
   exact ⟨by first|rfl | (simp [errW_none,errW_some]<;>rfl) | (simp [*,errW_none,errW_some]<;>rfl),by repeat (first | (with_reducible first|exact HB.out|apply below_alloc|apply pw_below_drewN|apply below_drew1)|exact HB.out)⟩
end Go.Proofs.YtcecjoaeolglbaaGreatDoor.So
end

section
namespace Go.Proofs.YtcecjoaeolglbaaGreatDoor.Sw
open Go.RowKit Go.Proofs.YtcecjoaeolglbaaGreatDoor.K0 Go.Proofs.YtcecjoaeolglbaaGreatDoor.Hand Go.Proofs.YtcecjoaeolglbaaGreatDoor.Sa Go.Proofs.YtcecjoaeolglbaaGreatDoor.So Go.Proofs.YtcecjoaeolglbaaGreatDoorW.PrintWords Go.Proofs.YtcecjoaeolglbaaGreatDoorW.PrintLast Go.Proofs.YtcecjoaeolglbaaGreatDoorW.PrintMore
attribute [local go_sem] max2_int min2_int max_two min_two max_three min_three max_four min_four  
set_option linter.unusedVariables false
set_option linter.unusedSimpArgs false
mutual
noncomputable def flaillaw24_RoundsWritten.j0:Nat→Int→ByteArray→ByteArray→Bool→Bool→Option (Bool)
 | 0,_,_,_,_,_=>none
 | k+1,x0,x1,x2,x7,x20=>if x20=true then (some x7) else (if (x2.size:Int)>0 then (if 0<(x2.size:Int) then (if (bt x2 0)=160 then (some x7) else (flaillaw24_RoundsWritten.j1 k x0 x1 x2 x7)) else (none)) else (flaillaw24_RoundsWritten.j1 k x0 x1 x2 x7))
noncomputable def flaillaw24_RoundsWritten.j1:Nat→Int→ByteArray→ByteArray→Bool→Option (Bool)
 | 0,_,_,_,_=>none
 | k+1,x0,x1,x2,x7=>(rounds_Serial.f (wrap64 (Int.tmod x0 3)) x1).bind fun t102=>(flaillaw24_RoundsWritten.l0 k x1 x2 x7 (wrap64 (Int.tmod x0 3)) t102 false 0)
noncomputable def flaillaw24_RoundsWritten.l0:Nat→ByteArray→ByteArray→Bool→Int→ByteArray→Bool→Int→Option (Bool)
 | 0,_,_,_,_,_,_,_=>none
 | k+1,x1,x2,x7,x8,x9,x10,x11=>if x11<(x9.size:Int) then (if 0≤x11 then (if (bt x9 x11)=60 then (flaillaw24_RoundsWritten.j3 k x1 x2 x7 x8 x9 x10 x11 (bt x9 x11) ((bt x9 x11) == 60)) else (flaillaw24_RoundsWritten.j3 k x1 x2 x7 x8 x9 x10 x11 (bt x9 x11) ((bt x9 x11) == 62))) else (none)) else (if x7=true then (if x10=true then (some false) else (if x1.size+x2.size≤9223372036854775807 then ((rounds_Serial.f x8 (x1++x2)).bind fun t103=>((rounds_Serial.f x8 x2).bind fun t104=>(if x9.size+t104.size≤9223372036854775807 then (if t103.toList=(x9++t104).toList then (if (x9.size:Int)≥(x1.size:Int) then (some (decide ((x9.size:Int)≤(wrap64 (6*(x1.size:Int)))))) else (some false)) else (some false)) else (none)))) else (none))) else (some false))
noncomputable def flaillaw24_RoundsWritten.j3:Nat→ByteArray→ByteArray→Bool→Int→ByteArray→Bool→Int→Int→Bool→Option (Bool)
 | 0,_,_,_,_,_,_,_,_,_=>none
 | k+1,x1,x2,x7,x8,x9,x10,x11,x43,x44=>if x44=true then (some false) else (if x43=34 then (if x8=1 then (some false) else (flaillaw24_RoundsWritten.l0 k x1 x2 x7 x8 x9 x10 (wrap64 (x11+1)))) else (if x43=38 then (if x10=true then (some false) else (flaillaw24_RoundsWritten.l0 k x1 x2 x7 x8 x9 true (wrap64 (x11+1)))) else (if x43=59 then (flaillaw24_RoundsWritten.l0 k x1 x2 x7 x8 x9 false (wrap64 (x11+1))) else (flaillaw24_RoundsWritten.l0 k x1 x2 x7 x8 x9 x10 (wrap64 (x11+1))))))
end
noncomputable def flaillaw24_RoundsWritten.f (k:Nat) (a0:Int) (a1:ByteArray) (a2:ByteArray):Option (Bool):=(flaillaw24_awake.f).bind fun t101=>(if (a1.size:Int)>300 then (flaillaw24_RoundsWritten.j0 k a0 a1 a2 t101 true) else (flaillaw24_RoundsWritten.j0 k a0 a1 a2 t101 (decide ((a2.size:Int)>300))))
set_option maxHeartbeats 8000000 in
set_option maxRecDepth 100000 in
theorem flaillaw24_RoundsWritten.calls (k:Nat) (a0:Int) (a1:ByteArray) (a2:ByteArray) (r:Bool) (w:World) (hGl:Glob w) (h:flaillaw24_RoundsWritten.f k a0 a1 a2=some r) :
  Calls Tryz.prog 6 #[.int .u8 a0,.string a1,.string a2] w fun e w'=>e = .returned (.bool r)∧Below w.heap.size w w':=by
 have HB:=Aside0.mk (Below.refl w.heap.size w)
 have H:((flaillaw24_awake.f).bind fun t101=>(if (a1.size:Int)>300 then (flaillaw24_RoundsWritten.j0 k a0 a1 a2 t101 true) else (flaillaw24_RoundsWritten.j0 k a0 a1 a2 t101 (decide ((a2.size:Int)>300)))))=some r:=h
 clear h
 replace H:=Option.bind_eq_some_iff.mp H
 obtain ⟨t101,A40,H⟩:=H
 replace H:(if (a1.size:Int)>300 then (flaillaw24_RoundsWritten.j0 k a0 a1 a2 t101 true) else (flaillaw24_RoundsWritten.j0 k a0 a1 a2 t101 (decide ((a2.size:Int)>300))))=some r:=H
 have A4:=Aside0.mk A40
 clear A40
 have HC5:=Aside0.mk H
 clear H
 go_enter Tryz.func6,Tryz.ntmps6
 go_upto_region 2 with (first | ((with_reducible refine gate_callee (f:=22) rfl ?_);refine goesL_ (some 12) rfl rfl Tryz.func22 (by kernel_rfl) rfl #[] rfl (by (try simp only [List.map_toArray,List.map_cons,List.map_nil]);first|done|rfl | (simp only [List.length_drop,List.length_take];rfl)) ?_;(with_reducible refine (flaillaw24_awake.calls  t101 _ ?side1 A4.out).mono ?_);(case side1=>exact Glob.step hGl (by repeat (first | (with_reducible first|exact HB.out|apply below_alloc|apply pw_below_drewN|apply below_drew1)|exact HB.out)));rintro e w6 ⟨rfl,hb⟩;refine ⟨_,rfl,?_⟩;have n0_:=Aside0.mk (below_step (by repeat (first | (with_reducible first|exact HB.out|apply below_alloc|apply pw_below_drewN|apply below_drew1)|exact HB.out)) hb);clear HB;have HB:=n0_;clear n0_;(try clear hb);(try clear hb2);(try clear hk);(try clear hi)))
 (try simp only [Act.put,List.setIfInBounds_toArray,List.set_cons_zero,List.set_cons_succ])
 go_cut [20] (fun v20 wc => ∃ (kq:Nat) (x20_4:Bool),v20 = .bool x20_4∧Aside0 (flaillaw24_RoundsWritten.j0 kq a0 a1 a2 t101 x20_4=some r)∧Aside0 (kq≤k)∧Aside0 (Below w.heap.size w wc))
 case first =>
  have H:=HC5.out
  clear HC5
  by_cases c7:(a1.size:Int)>300
  · rw [if_pos c7] at H
    have c7b0:decide (300<(a1.size:Int))=true:=decide_eq_true c7
    have c7b1:decide (300<a1.size)=true:=decide_eq_true (by omega)
    clear c7
    (first|rw [c7b0] | (simp only [i64_w,i32_w];rw [c7b0])|skip)
    have H':=Aside0.mk H
    clear H
    go_wp2
    go_meet
    case rel=>exact ⟨_,(true),(by first|rfl | (simp;done) | (simp [*];done)),H',⟨by first|omega|exact Nat.le_refl _⟩,⟨by repeat (first | (with_reducible first|exact HB.out|apply below_alloc|apply pw_below_drewN|apply below_drew1)|exact HB.out)⟩⟩
  · rw [if_neg c7] at H
    have c7b0:decide (300<(a1.size:Int))=false:=decide_eq_false c7
    have c7b1:decide (300<a1.size)=false:=decide_eq_false (by omega)
    clear c7
    (first|rw [c7b0] | (simp only [i64_w,i32_w];rw [c7b0])|skip)
    have H':=Aside0.mk H
    clear H
    go_wp2
    go_meet
    case rel=>exact ⟨_,(decide ((a2.size:Int)>300)),(by first|rfl | (simp;done) | (simp [*];done)),H',⟨by first|omega|exact Nat.le_refl _⟩,⟨by repeat (first | (with_reducible first|exact HB.out|apply below_alloc|apply pw_below_drewN|apply below_drew1)|exact HB.out)⟩⟩
 case rest =>
  clear HC5
  try clear c2
  try clear p2
  try clear c6
  try clear c7
  try clear c7b0
  try clear c7b1
  obtain ⟨kq,x20_4,rfl,HA,HJ4,HB⟩:=hcut
  cases kq with
  | zero=>exact absurd HA.out (by simp [flaillaw24_RoundsWritten.j0])
  | succ kj4 =>
    have H:=HA.out
    clear HA
    simp only [flaillaw24_RoundsWritten.j0] at H
    by_cases c8:x20_4=true
    · subst c8
      have H1:(some t101)=some r:=by rw [if_pos rfl] at H;exact H
      clear H
      have H:=H1
      clear H1
      obtain rfl:=Option.some.inj H
      go_wp2
      go_ret
      exact ⟨by first|rfl | (simp [errW_none,errW_some]<;>rfl) | (simp [*,errW_none,errW_some]<;>rfl),by repeat (first | (with_reducible first|exact HB.out|apply below_alloc|apply pw_below_drewN|apply below_drew1)|exact HB.out)⟩
    · replace c8:=Bool.eq_false_iff.mpr c8
      subst c8
      have H1:(if (a2.size:Int)>0 then (if 0<(a2.size:Int) then (if (bt a2 0)=160 then (some t101) else (flaillaw24_RoundsWritten.j1 kj4 a0 a1 a2 t101)) else (none)) else (flaillaw24_RoundsWritten.j1 kj4 a0 a1 a2 t101))=some r:=by rw [if_neg (show ¬ (false=true) by decide)] at H;exact H
      clear H
      have H:=H1
      clear H1
      have HC9:=Aside0.mk H
      clear H
      go_upto_if 24 with (fail)
      go_cut [] (fun wc => ∃ (kq:Nat),Aside0 (flaillaw24_RoundsWritten.j1 kq a0 a1 a2 t101=some r)∧Aside0 (kq≤kj4)∧Aside0 (Below w.heap.size w wc))
      case first =>
       have H:=HC9.out
       clear HC9
       by_cases c10:(a2.size:Int)>0
       · rw [if_pos c10] at H
         have c10b0:decide (0<(a2.size:Int))=true:=decide_eq_true c10
         have c10b1:decide (0<a2.size)=true:=decide_eq_true (by omega)
         clear c10
         (first|rw [c10b0]|rw [c10b1] | (simp only [i64_w,i32_w];rw [c10b0])|skip)
         by_cases c11:0<(a2.size:Int)
         · rw [if_pos c11] at H
           have c11b0:decide (0<(a2.size:Int))=true:=decide_eq_true c11
           have c11b1:decide (0<a2.size)=true:=decide_eq_true (by omega)
           clear c11
           by_cases c13:(bt a2 0)=160
           · rw [if_pos c13] at H
             have c13b0:((bt a2 0) == 160)=true:=beq_iff_eq.mpr c13
             have c13b1:((bt a2 0) != 160)=false:=bne_eq_false_iff_eq.mpr c13
             clear c13
             obtain rfl:=Option.some.inj H
             have p12:0≤(0:Int):=(by omega)
             have q12:0<a2.size:=(by have:(0:Int)<(a2.size:Int):=of_decide_eq_true (by first | (with_reducible assumption)|assumption);omega)
             have hx12:∀ h:0<a2.size,((a2[0]'h).toNat:Int)=bt a2 0:=bt_at a2 0
             clear p12
             have qi12:(0<(a2.size:Int))=True:=eq_true (of_decide_eq_true (by first | (with_reducible assumption)|assumption))
             replace q12:=eq_true q12
             go_wp2
             go_ret
             exact ⟨by first|rfl | (simp [errW_none,errW_some]<;>rfl) | (simp [*,errW_none,errW_some]<;>rfl),by repeat (first | (with_reducible first|exact HB.out|apply below_alloc|apply pw_below_drewN|apply below_drew1)|exact HB.out)⟩
           · rw [if_neg c13] at H
             have c13b0:((bt a2 0) == 160)=false:=beq_eq_false_iff_ne.mpr c13
             have c13b1:((bt a2 0) != 160)=true:=bne_iff_ne.mpr c13
             have H':=Aside0.mk H
             clear H
             have p12:0≤(0:Int):=(by omega)
             have q12:0<a2.size:=(by have:(0:Int)<(a2.size:Int):=of_decide_eq_true (by first | (with_reducible assumption)|assumption);omega)
             have hx12:∀ h:0<a2.size,((a2[0]'h).toNat:Int)=bt a2 0:=bt_at a2 0
             clear p12
             have qi12:(0<(a2.size:Int))=True:=eq_true (of_decide_eq_true (by first | (with_reducible assumption)|assumption))
             replace q12:=eq_true q12
             go_wp2
             go_meet
             case rel=>exact ⟨_,H',⟨by have:=HJ4.out;first|omega|exact Nat.le_refl _⟩,⟨by repeat (first | (with_reducible first|exact HB.out|apply below_alloc|apply pw_below_drewN|apply below_drew1)|exact HB.out)⟩⟩
         · rw [if_neg c11] at H
           exact absurd H (by simp)
       · rw [if_neg c10] at H
         have c10b0:decide (0<(a2.size:Int))=false:=decide_eq_false c10
         have c10b1:decide (0<a2.size)=false:=decide_eq_false (by omega)
         clear c10
         (first|rw [c10b0]|rw [c10b1] | (simp only [i64_w,i32_w];rw [c10b0])|skip)
         have H':=Aside0.mk H
         clear H
         go_wp2
         go_meet
         case rel=>exact ⟨_,H',⟨by have:=HJ4.out;first|omega|exact Nat.le_refl _⟩,⟨by repeat (first | (with_reducible first|exact HB.out|apply below_alloc|apply pw_below_drewN|apply below_drew1)|exact HB.out)⟩⟩
      case rest =>
       clear HC9
       try clear c1
       try clear p1
       try clear q1
       try clear hx1
       try clear qi1
       try clear c2
       try clear p2
       try clear c6
       try clear c7
       try clear c7b0
       try clear c7b1
       try clear c8
       try clear c10
       try clear c10b0
       try clear c10b1
       try clear c11
       try clear c11b0
       try clear c11b1
       try clear p12
       try clear q12
       try clear hx12
       try clear qi12
       try clear c13
       try clear c13b0
       try clear c13b1
       try clear p12
       try clear p2
       try clear q12
       obtain ⟨kq,HA,HJ8,HB⟩:=hcut
       cases kq with
       | zero=>exact absurd HA.out (by simp [flaillaw24_RoundsWritten.j1])
       | succ kj8 =>
         have H:=HA.out
         clear HA
         simp only [flaillaw24_RoundsWritten.j1] at H
         replace H:=Option.bind_eq_some_iff.mp H
         obtain ⟨t102,A140,H⟩:=H
         replace H:(flaillaw24_RoundsWritten.l0 kj8 a1 a2 t101 (wrap64 (Int.tmod a0 3)) t102 false 0)=some r:=H
         have A14:=Aside0.mk A140
         clear A140
         have H':=Aside0.mk H
         clear H
         go_wp2_with (first | ((with_reducible refine gate_callee (f:=27) rfl ?_);refine goesL_ (some 34) rfl rfl Tryz.func27 (by kernel_rfl) rfl #[.int .i64 (wrap64 (Int.tmod a0 3)),.string a1] rfl (by (try simp only [List.map_toArray,List.map_cons,List.map_nil]);first|done|rfl | (simp only [List.length_drop,List.length_take];rfl)) ?_;(with_reducible refine (rounds_Serial.calls (wrap64 (Int.tmod a0 3)) a1 t102 _ A14.out).mono ?_);rintro e w15 ⟨rfl,hb⟩;refine ⟨_,rfl,?_⟩;have n0_:=Aside0.mk (below_step (by repeat (first | (with_reducible first|exact HB.out|apply below_alloc|apply pw_below_drewN|apply below_drew1)|exact HB.out)) hb);clear HB;have HB:=n0_;clear n0_;(try clear hb);(try clear hb2);(try clear hk);(try clear hi)))
         go_loopg [10,11] kj8 (fun kq v10 v11 w' => ∃ (x10_3:Bool) (x11_3:Int),v10 = .bool x10_3∧v11 = .int .i64 x11_3∧Aside0 (flaillaw24_RoundsWritten.l0 kq a1 a2 t101 (wrap64 (Int.tmod a0 3)) t102 x10_3 x11_3=some r)∧Aside0 (kq≤kj8)∧Aside0 (Below w.heap.size w w'))
         case atStart=>exact ⟨(false),(0),(by first|rfl | (simp;done) | (simp [*];done)),(by first|rfl | (simp;done) | (simp [*];done)),H',⟨Nat.le_refl _⟩,⟨by repeat (first | (with_reducible first|exact HB.out|apply below_alloc|apply pw_below_drewN|apply below_drew1)|exact HB.out)⟩⟩
         case round =>
          clear H'
          try clear c1
          try clear p1
          try clear q1
          try clear hx1
          try clear qi1
          try clear c2
          try clear p2
          try clear c6
          try clear p6
          try clear c7
          try clear c7b0
          try clear c7b1
          try clear c8
          try clear c10
          try clear c10b0
          try clear c10b1
          try clear c11
          try clear c11b0
          try clear c11b1
          try clear p12
          try clear q12
          try clear hx12
          try clear qi12
          try clear c13
          try clear c13b0
          try clear c13b1
          try clear p1
          try clear p12
          try clear p2
          try clear q1
          try clear q12
          obtain ⟨x10_3,x11_3,rfl,rfl,HA,HK3,HB⟩:=hrel
          cases gk with
          | zero=>exact absurd HA.out (by simp [flaillaw24_RoundsWritten.l0])
          | succ k3 =>
            have H:=HA.out
            clear HA
            simp only [flaillaw24_RoundsWritten.l0] at H
            by_cases c16:x11_3<(t102.size:Int)
            · rw [if_pos c16] at H
              have c16b0:decide (x11_3<(t102.size:Int))=true:=decide_eq_true c16
              clear c16
              by_cases c17:0≤x11_3
              · rw [if_pos c17] at H
                have c17b0:decide (0≤x11_3)=true:=decide_eq_true c17
                clear c17
                have HC19:=Aside0.mk H
                clear H
                have p18:0≤(x11_3:Int):=of_decide_eq_true (by first | (with_reducible assumption)|assumption)
                have q18:x11_3<(t102.size:Int):=of_decide_eq_true (by first | (with_reducible assumption)|assumption)
                have hx18:=bt_at t102 x11_3
                replace p18:=eq_true p18
                replace q18:=eq_true q18
                go_upto_if 44 with (fail)
                go_cut [44] (fun v44 wc => ∃ (kq:Nat) (x44_18:Bool),v44 = .bool x44_18∧Aside0 (flaillaw24_RoundsWritten.j3 kq a1 a2 t101 (wrap64 (Int.tmod a0 3)) t102 x10_3 x11_3 (bt t102 x11_3) x44_18=some r)∧Aside0 (kq≤k3)∧Aside0 (Below w.heap.size w wc))
                case first =>
                 have H:=HC19.out
                 clear HC19
                 by_cases c20:(bt t102 x11_3)=60
                 · rw [if_pos c20] at H
                   have c20b0:((bt t102 x11_3) == 60)=true:=beq_iff_eq.mpr c20
                   have c20b1:((bt t102 x11_3) != 60)=false:=bne_eq_false_iff_eq.mpr c20
                   clear c20
                   (first|rw [c20b0] | (simp only [i64_w,i32_w];rw [c20b0])|skip)
                   have H':=Aside0.mk H
                   clear H
                   go_wp2
                   go_meet
                   case rel=>exact ⟨_,(((bt t102 x11_3) == 60)),(by first|rfl | (simp;done) | (simp [*];done)),H',⟨by have:=HJ4.out;have:=HJ8.out;have:=HK3.out;first|omega|exact Nat.le_refl _⟩,⟨by repeat (first | (with_reducible first|exact HB.out|apply below_alloc|apply pw_below_drewN|apply below_drew1)|exact HB.out)⟩⟩
                 · rw [if_neg c20] at H
                   have c20b0:((bt t102 x11_3) == 60)=false:=beq_eq_false_iff_ne.mpr c20
                   have c20b1:((bt t102 x11_3) != 60)=true:=bne_iff_ne.mpr c20
                   (first|rw [c20b0] | (simp only [i64_w,i32_w];rw [c20b0])|skip)
                   have H':=Aside0.mk H
                   clear H
                   go_wp2
                   go_meet
                   case rel=>exact ⟨_,(((bt t102 x11_3) == 62)),(by first|rfl | (simp;done) | (simp [*];done)),H',⟨by have:=HJ4.out;have:=HJ8.out;have:=HK3.out;first|omega|exact Nat.le_refl _⟩,⟨by repeat (first | (with_reducible first|exact HB.out|apply below_alloc|apply pw_below_drewN|apply below_drew1)|exact HB.out)⟩⟩
                case rest =>
                 clear HC19
                 try clear c1
                 try clear p1
                 try clear q1
                 try clear hx1
                 try clear qi1
                 try clear c2
                 try clear p2
                 try clear c6
                 try clear p6
                 try clear c7
                 try clear c7b0
                 try clear c7b1
                 try clear c8
                 try clear c10
                 try clear c10b0
                 try clear c10b1
                 try clear c11
                 try clear c11b0
                 try clear c11b1
                 try clear p12
                 try clear q12
                 try clear hx12
                 try clear qi12
                 try clear c13
                 try clear c13b0
                 try clear c13b1
                 try clear c16
                 try clear c16b0
                 try clear c17
                 try clear c17b0
                 try clear p18
                 try clear q18
                 try clear hx18
                 try clear c20
                 try clear c20b0
                 try clear c20b1
                 try clear p1
                 try clear p12
                 try clear p18
                 try clear p2
                 try clear p6
                 try clear q1
                 try clear q12
                 try clear q18
                 obtain ⟨kq,x44_18,rfl,HA,HJ18,HB⟩:=hcut
                 cases kq with
                 | zero=>exact absurd HA.out (by simp [flaillaw24_RoundsWritten.j3])
                 | succ kj18 =>
                   have H:=HA.out
                   clear HA
                   simp only [flaillaw24_RoundsWritten.j3] at H
                   by_cases c21:x44_18=true
                   · subst c21
                     have H1:(some false)=some r:=by rw [if_pos rfl] at H;exact H
                     clear H
                     have H:=H1
                     clear H1
                     obtain rfl:=Option.some.inj H
                     go_wp2
                     go_ret
                     exact ⟨by first|rfl | (simp [errW_none,errW_some]<;>rfl) | (simp [*,errW_none,errW_some]<;>rfl),by repeat (first | (with_reducible first|exact HB.out|apply below_alloc|apply pw_below_drewN|apply below_drew1)|exact HB.out)⟩
                   · replace c21:=Bool.eq_false_iff.mpr c21
                     subst c21
                     have H1:(if (bt t102 x11_3)=34 then (if (wrap64 (Int.tmod a0 3))=1 then (some false) else (flaillaw24_RoundsWritten.l0 kj18 a1 a2 t101 (wrap64 (Int.tmod a0 3)) t102 x10_3 (wrap64 (x11_3+1)))) else (if (bt t102 x11_3)=38 then (if x10_3=true then (some false) else (flaillaw24_RoundsWritten.l0 kj18 a1 a2 t101 (wrap64 (Int.tmod a0 3)) t102 true (wrap64 (x11_3+1)))) else (if (bt t102 x11_3)=59 then (flaillaw24_RoundsWritten.l0 kj18 a1 a2 t101 (wrap64 (Int.tmod a0 3)) t102 false (wrap64 (x11_3+1))) else (flaillaw24_RoundsWritten.l0 kj18 a1 a2 t101 (wrap64 (Int.tmod a0 3)) t102 x10_3 (wrap64 (x11_3+1))))))=some r:=by rw [if_neg (show ¬ (false=true) by decide)] at H;exact H
                     clear H
                     have H:=H1
                     clear H1
                     by_cases c22:(bt t102 x11_3)=34
                     · rw [if_pos c22] at H
                       have c22b0:((bt t102 x11_3) == 34)=true:=beq_iff_eq.mpr c22
                       have c22b1:((bt t102 x11_3) != 34)=false:=bne_eq_false_iff_eq.mpr c22
                       clear c22
                       by_cases c23:(wrap64 (Int.tmod a0 3))=1
                       · rw [if_pos c23] at H
                         have c23b0:((wrap64 (Int.tmod a0 3)) == 1)=true:=beq_iff_eq.mpr c23
                         have c23b1:((wrap64 (Int.tmod a0 3)) != 1)=false:=bne_eq_false_iff_eq.mpr c23
                         clear c23
                         obtain rfl:=Option.some.inj H
                         go_wp2
                         go_ret
                         exact ⟨by first|rfl | (simp [errW_none,errW_some]<;>rfl) | (simp [*,errW_none,errW_some]<;>rfl),by repeat (first | (with_reducible first|exact HB.out|apply below_alloc|apply pw_below_drewN|apply below_drew1)|exact HB.out)⟩
                       · rw [if_neg c23] at H
                         have c23b0:((wrap64 (Int.tmod a0 3)) == 1)=false:=beq_eq_false_iff_ne.mpr c23
                         have c23b1:((wrap64 (Int.tmod a0 3)) != 1)=true:=bne_iff_ne.mpr c23
                         have H':=Aside0.mk H
                         clear H
                         go_wp2
                         go_roundg kj18
                         case measure=>have:=HJ4.out;have:=HJ8.out;have:=HK3.out;have:=HJ18.out;omega
                         case rel=>exact ⟨(x10_3),(wrap64 (x11_3+1)),(by first|rfl | (simp;done) | (simp [*];done)),(by first|rfl | (simp;done) | (simp [*];done)),H',⟨by have:=HJ4.out;have:=HJ8.out;have:=HK3.out;have:=HJ18.out;omega⟩,⟨by repeat (first | (with_reducible first|exact HB.out|apply below_alloc|apply pw_below_drewN|apply below_drew1)|exact HB.out)⟩⟩
                     · rw [if_neg c22] at H
                       have c22b0:((bt t102 x11_3) == 34)=false:=beq_eq_false_iff_ne.mpr c22
                       have c22b1:((bt t102 x11_3) != 34)=true:=bne_iff_ne.mpr c22
                       by_cases c24:(bt t102 x11_3)=38
                       · rw [if_pos c24] at H
                         have c24b0:((bt t102 x11_3) == 38)=true:=beq_iff_eq.mpr c24
                         have c24b1:((bt t102 x11_3) != 38)=false:=bne_eq_false_iff_eq.mpr c24
                         clear c24
                         by_cases c25:x10_3=true
                         · subst c25
                           have H1:(some false)=some r:=by rw [if_pos rfl] at H;exact H
                           clear H
                           have H:=H1
                           clear H1
                           obtain rfl:=Option.some.inj H
                           go_wp2
                           go_ret
                           exact ⟨by first|rfl | (simp [errW_none,errW_some]<;>rfl) | (simp [*,errW_none,errW_some]<;>rfl),by repeat (first | (with_reducible first|exact HB.out|apply below_alloc|apply pw_below_drewN|apply below_drew1)|exact HB.out)⟩
                         · replace c25:=Bool.eq_false_iff.mpr c25
                           subst c25
                           have H1:(flaillaw24_RoundsWritten.l0 kj18 a1 a2 t101 (wrap64 (Int.tmod a0 3)) t102 true (wrap64 (x11_3+1)))=some r:=by rw [if_neg (show ¬ (false=true) by decide)] at H;exact H
                           clear H
                           have H:=H1
                           clear H1
                           have H':=Aside0.mk H
                           clear H
                           go_wp2
                           go_roundg kj18
                           case measure=>have:=HJ4.out;have:=HJ8.out;have:=HK3.out;have:=HJ18.out;omega
                           case rel=>exact ⟨(true),(wrap64 (x11_3+1)),(by first|rfl | (simp;done) | (simp [*];done)),(by first|rfl | (simp;done) | (simp [*];done)),H',⟨by have:=HJ4.out;have:=HJ8.out;have:=HK3.out;have:=HJ18.out;omega⟩,⟨by repeat (first | (with_reducible first|exact HB.out|apply below_alloc|apply pw_below_drewN|apply below_drew1)|exact HB.out)⟩⟩
                       · rw [if_neg c24] at H
                         have c24b0:((bt t102 x11_3) == 38)=false:=beq_eq_false_iff_ne.mpr c24
                         have c24b1:((bt t102 x11_3) != 38)=true:=bne_iff_ne.mpr c24
                         by_cases c26:(bt t102 x11_3)=59
                         · rw [if_pos c26] at H
                           have c26b0:((bt t102 x11_3) == 59)=true:=beq_iff_eq.mpr c26
                           have c26b1:((bt t102 x11_3) != 59)=false:=bne_eq_false_iff_eq.mpr c26
                           clear c26
                           have H':=Aside0.mk H
                           clear H
                           go_wp2
                           go_roundg kj18
                           case measure=>have:=HJ4.out;have:=HJ8.out;have:=HK3.out;have:=HJ18.out;omega
                           case rel=>exact ⟨(false),(wrap64 (x11_3+1)),(by first|rfl | (simp;done) | (simp [*];done)),(by first|rfl | (simp;done) | (simp [*];done)),H',⟨by have:=HJ4.out;have:=HJ8.out;have:=HK3.out;have:=HJ18.out;omega⟩,⟨by repeat (first | (with_reducible first|exact HB.out|apply below_alloc|apply pw_below_drewN|apply below_drew1)|exact HB.out)⟩⟩
                         · rw [if_neg c26] at H
                           have c26b0:((bt t102 x11_3) == 59)=false:=beq_eq_false_iff_ne.mpr c26
                           have c26b1:((bt t102 x11_3) != 59)=true:=bne_iff_ne.mpr c26
                           have H':=Aside0.mk H
                           clear H
                           go_wp2
                           go_roundg kj18
                           case measure=>have:=HJ4.out;have:=HJ8.out;have:=HK3.out;have:=HJ18.out;omega
                           case rel=>exact ⟨(x10_3),(wrap64 (x11_3+1)),(by first|rfl | (simp;done) | (simp [*];done)),(by first|rfl | (simp;done) | (simp [*];done)),H',⟨by have:=HJ4.out;have:=HJ8.out;have:=HK3.out;have:=HJ18.out;omega⟩,⟨by repeat (first | (with_reducible first|exact HB.out|apply below_alloc|apply pw_below_drewN|apply below_drew1)|exact HB.out)⟩⟩
              · rw [if_neg c17] at H
                exact absurd H (by simp)
            · rw [if_neg c16] at H
              have c16b0:decide (x11_3<(t102.size:Int))=false:=decide_eq_false c16
              clear c16
              by_cases c27:t101=true
              · subst c27
                have H1:(if x10_3=true then (some false) else (if a1.size+a2.size≤9223372036854775807 then ((rounds_Serial.f (wrap64 (Int.tmod a0 3)) (a1++a2)).bind fun t103=>((rounds_Serial.f (wrap64 (Int.tmod a0 3)) a2).bind fun t104=>(if t102.size+t104.size≤9223372036854775807 then (if t103.toList=(t102++t104).toList then (if (t102.size:Int)≥(a1.size:Int) then (some (decide ((t102.size:Int)≤(wrap64 (6*(a1.size:Int)))))) else (some false)) else (some false)) else (none)))) else (none)))=some r:=by rw [if_pos rfl] at H;exact H
                clear H
                have H:=H1
                clear H1
                by_cases c28:x10_3=true
                · subst c28
                  have H1:(some false)=some r:=by rw [if_pos rfl] at H;exact H
                  clear H
                  have H:=H1
                  clear H1
                  obtain rfl:=Option.some.inj H
                  go_wp2
                  go_ret
                  exact ⟨by first|rfl | (simp [errW_none,errW_some]<;>rfl) | (simp [*,errW_none,errW_some]<;>rfl),by repeat (first | (with_reducible first|exact HB.out|apply below_alloc|apply pw_below_drewN|apply below_drew1)|exact HB.out)⟩
                · replace c28:=Bool.eq_false_iff.mpr c28
                  subst c28
                  have H1:(if a1.size+a2.size≤9223372036854775807 then ((rounds_Serial.f (wrap64 (Int.tmod a0 3)) (a1++a2)).bind fun t103=>((rounds_Serial.f (wrap64 (Int.tmod a0 3)) a2).bind fun t104=>(if t102.size+t104.size≤9223372036854775807 then (if t103.toList=(t102++t104).toList then (if (t102.size:Int)≥(a1.size:Int) then (some (decide ((t102.size:Int)≤(wrap64 (6*(a1.size:Int)))))) else (some false)) else (some false)) else (none)))) else (none))=some r:=by rw [if_neg (show ¬ (false=true) by decide)] at H;exact H
                  clear H
                  have H:=H1
                  clear H1
                  by_cases c29:a1.size+a2.size≤9223372036854775807
                  · rw [if_pos c29] at H
                    have c29b0:=eq_true c29
                    have c29b1:decide (a1.size+a2.size≤9223372036854775807)=true:=decide_eq_true c29
                    try have c29b2:(9223372036854775807<a1.size+a2.size)=False:=eq_false (Nat.not_lt.2 c29)
                    replace H:=Option.bind_eq_some_iff.mp H
                    obtain ⟨t103,A300,H⟩:=H
                    replace H:((rounds_Serial.f (wrap64 (Int.tmod a0 3)) a2).bind fun t104=>(if t102.size+t104.size≤9223372036854775807 then (if t103.toList=(t102++t104).toList then (if (t102.size:Int)≥(a1.size:Int) then (some (decide ((t102.size:Int)≤(wrap64 (6*(a1.size:Int)))))) else (some false)) else (some false)) else (none)))=some r:=H
                    have A30:=Aside0.mk A300
                    clear A300
                    replace H:=Option.bind_eq_some_iff.mp H
                    obtain ⟨t104,A310,H⟩:=H
                    replace H:(if t102.size+t104.size≤9223372036854775807 then (if t103.toList=(t102++t104).toList then (if (t102.size:Int)≥(a1.size:Int) then (some (decide ((t102.size:Int)≤(wrap64 (6*(a1.size:Int)))))) else (some false)) else (some false)) else (none))=some r:=H
                    have A31:=Aside0.mk A310
                    clear A310
                    by_cases c32:t102.size+t104.size≤9223372036854775807
                    · rw [if_pos c32] at H
                      have c32b0:=eq_true c32
                      have c32b1:decide (t102.size+t104.size≤9223372036854775807)=true:=decide_eq_true c32
                      try have c32b2:(9223372036854775807<t102.size+t104.size)=False:=eq_false (Nat.not_lt.2 c32)
                      by_cases c33:t103.toList=(t102++t104).toList
                      · rw [if_pos c33] at H
                        have c33b0:(t103.toList == (t102++t104).toList)=true:=beq_iff_eq.mpr c33
                        have c33b1:(t103.toList != (t102++t104).toList)=false:=bne_eq_false_iff_eq.mpr c33
                        clear c33
                        by_cases c34:(t102.size:Int)≥(a1.size:Int)
                        · rw [if_pos c34] at H
                          have c34b0:decide ((a1.size:Int)≤(t102.size:Int))=true:=decide_eq_true c34
                          have c34b1:decide (a1.size≤t102.size)=true:=decide_eq_true (Int.ofNat_le.mp c34)
                          clear c34
                          obtain rfl:=Option.some.inj H
                          go_wp2_with (first | (go_at_call 27;(with_reducible refine (rounds_Serial.calls (wrap64 (Int.tmod a0 3)) (a1++a2) t103 _ A30.out).mono ?_);rintro e w35 ⟨rfl,hb⟩;have n0_:=Aside0.mk (below_step (by repeat (first | (with_reducible first|exact HB.out|apply below_alloc|apply pw_below_drewN|apply below_drew1)|exact HB.out)) hb);clear HB;have HB:=n0_;clear n0_;(try clear hb);(try clear hb2);(try clear hk);(try clear hi)) | (go_at_call 27;(with_reducible refine (rounds_Serial.calls (wrap64 (Int.tmod a0 3)) a2 t104 _ A31.out).mono ?_);rintro e w36 ⟨rfl,hb⟩;have n0_:=Aside0.mk (below_step (by repeat (first | (with_reducible first|exact HB.out|apply below_alloc|apply pw_below_drewN|apply below_drew1)|exact HB.out)) hb);clear HB;have HB:=n0_;clear n0_;(try clear hb);(try clear hb2);(try clear hk);(try clear hi)))
                          go_ret
                          exact ⟨by first|rfl | (simp [errW_none,errW_some]<;>rfl) | (simp [*,errW_none,errW_some]<;>rfl),by repeat (first | (with_reducible first|exact HB.out|apply below_alloc|apply pw_below_drewN|apply below_drew1)|exact HB.out)⟩
                        · rw [if_neg c34] at H
                          have c34b0:decide ((a1.size:Int)≤(t102.size:Int))=false:=decide_eq_false c34
                          have c34b1:decide (a1.size≤t102.size)=false:=decide_eq_false (fun h=>c34 (Int.ofNat_le.mpr h))
                          clear c34
                          obtain rfl:=Option.some.inj H
                          go_wp2_with (first | (go_at_call 27;(with_reducible refine (rounds_Serial.calls (wrap64 (Int.tmod a0 3)) (a1++a2) t103 _ A30.out).mono ?_);rintro e w37 ⟨rfl,hb⟩;have n0_:=Aside0.mk (below_step (by repeat (first | (with_reducible first|exact HB.out|apply below_alloc|apply pw_below_drewN|apply below_drew1)|exact HB.out)) hb);clear HB;have HB:=n0_;clear n0_;(try clear hb);(try clear hb2);(try clear hk);(try clear hi)) | (go_at_call 27;(with_reducible refine (rounds_Serial.calls (wrap64 (Int.tmod a0 3)) a2 t104 _ A31.out).mono ?_);rintro e w38 ⟨rfl,hb⟩;have n0_:=Aside0.mk (below_step (by repeat (first | (with_reducible first|exact HB.out|apply below_alloc|apply pw_below_drewN|apply below_drew1)|exact HB.out)) hb);clear HB;have HB:=n0_;clear n0_;(try clear hb);(try clear hb2);(try clear hk);(try clear hi)))
                          go_ret
                          exact ⟨by first|rfl | (simp [errW_none,errW_some]<;>rfl) | (simp [*,errW_none,errW_some]<;>rfl),by repeat (first | (with_reducible first|exact HB.out|apply below_alloc|apply pw_below_drewN|apply below_drew1)|exact HB.out)⟩
                      · rw [if_neg c33] at H
                        have c33b0:(t103.toList == (t102++t104).toList)=false:=beq_eq_false_iff_ne.mpr c33
                        have c33b1:(t103.toList != (t102++t104).toList)=true:=bne_iff_ne.mpr c33
                        obtain rfl:=Option.some.inj H
                        go_wp2_with (first | (go_at_call 27;(with_reducible refine (rounds_Serial.calls (wrap64 (Int.tmod a0 3)) (a1++a2) t103 _ A30.out).mono ?_);rintro e w39 ⟨rfl,hb⟩;have n0_:=Aside0.mk (below_step (by repeat (first | (with_reducible first|exact HB.out|apply below_alloc|apply pw_below_drewN|apply below_drew1)|exact HB.out)) hb);clear HB;have HB:=n0_;clear n0_;(try clear hb);(try clear hb2);(try clear hk);(try clear hi)) | (go_at_call 27;(with_reducible refine (rounds_Serial.calls (wrap64 (Int.tmod a0 3)) a2 t104 _ A31.out).mono ?_);rintro e w40 ⟨rfl,hb⟩;have n0_:=Aside0.mk (below_step (by repeat (first | (with_reducible first|exact HB.out|apply below_alloc|apply pw_below_drewN|apply below_drew1)|exact HB.out)) hb);clear HB;have HB:=n0_;clear n0_;(try clear hb);(try clear hb2);(try clear hk);(try clear hi)))
                        go_ret
                        exact ⟨by first|rfl | (simp [errW_none,errW_some]<;>rfl) | (simp [*,errW_none,errW_some]<;>rfl),by repeat (first | (with_reducible first|exact HB.out|apply below_alloc|apply pw_below_drewN|apply below_drew1)|exact HB.out)⟩
                    · rw [if_neg c32] at H
                      exact absurd H (by simp)
                  · rw [if_neg c29] at H
                    exact absurd H (by simp)
              · replace c27:=Bool.eq_false_iff.mpr c27
                subst c27
                have H1:(some false)=some r:=by rw [if_neg (show ¬ (false=true) by decide)] at H;exact H
                clear H
                have H:=H1
                clear H1
                obtain rfl:=Option.some.inj H
                go_wp2
                go_ret
                exact ⟨by first|rfl | (simp [errW_none,errW_some]<;>rfl) | (simp [*,errW_none,errW_some]<;>rfl),by repeat (first | (with_reducible first|exact HB.out|apply below_alloc|apply pw_below_drewN|apply below_drew1)|exact HB.out)⟩
end Go.Proofs.YtcecjoaeolglbaaGreatDoor.Sw
end

section
namespace Go.Proofs.YtcecjoaeolglbaaGreatDoor.Pro
open Go Go.RowKit Go.Proofs.YtcecjoaeolglbaaGreatDoor.K0 Go.Proofs.YtcecjoaeolglbaaGreatDoor.Hand Go.Proofs.YtcecjoaeolglbaaGreatDoor.Sa Go.Proofs.YtcecjoaeolglbaaGreatDoor.So Go.Proofs.YtcecjoaeolglbaaGreatDoorW.PrintWords Go.Proofs.YtcecjoaeolglbaaGreatDoorW.PrintMore Go.Proofs.YtcecjoaeolglbaaGreatDoor.Pl Go.Proofs.YtcecjoaeolglbaaGreatDoor.Pb Go.Proofs.YtcecjoaeolglbaaGreatDoor.Pure
theorem int_wfo {k:IntKind} {d:Int} (h:(Lit.int k d).wf=true):k.min≤d∧d≤k.max:=by simpa [Lit.wf] using h
theorem u8_in {d:Int} (h:(Lit.int .u8 d).wf=true):0≤d∧d≤255:=⟨Int.le_trans (by decide) (int_wfo h).1,Int.le_trans (int_wfo h).2 (by decide)⟩
theorem mod3 {d:Int} (h:(Lit.int .u8 d).wf=true):wrap64 (Int.tmod d 3)=0∨wrap64 (Int.tmod d 3)=1∨wrap64 (Int.tmod d 3)=2:=by
 obtain ⟨r0,r1⟩:=u8_in h
 rw [Int.tmod_eq_emod_of_nonneg r0];unfold wrap64;omega
theorem round_f (k:Int) (hk:k=0∨k=1∨k=2) (s:List UInt8) (hs:s.length≤3000):rounds_Round.f k (B s)=some (B (roundL k s),true):=by
 unfold rounds_Round.f
 rw [if_pos ⟨by rw [size_B];exact hs,hk⟩,B_data]
theorem rounds_f (k:Int) (hk:k=0∨k=1∨k=2) (n:Nat) (hn:n≤1000) (s:List UInt8) (hs:s.length≤1000):rounds_Rounds.f k (B s) (n:Int)=some (B (roundsL k n s),true):=by
 unfold rounds_Rounds.f
 rw [if_pos ⟨hk,by omega,by omega,by rw [size_B];exact hs⟩,B_data,Int.toNat_natCast]
theorem serial_f (k:Int) (hk:k=0∨k=1∨k=2) (s:List UInt8) (hs:s.length≤100000):rounds_Serial.f k (B s)=some (B (serL k s)):=by
 unfold rounds_Serial.f
 rw [if_pos ⟨by rw [size_B];exact hs,by omega,by omega⟩,B_data]
theorem awake24:flaillaw24_awake.f=some true:=by
 unfold flaillaw24_awake.f
 rw [show (⟨#[97,34,98,60]⟩:ByteArray)=B [97,34,98,60] from rfl,show (⟨#[10,97]⟩:ByteArray)=B [10,97] from rfl,show (⟨#[97,38,194,160]⟩:ByteArray)=B [97,38,194,160] from rfl,
  round_f 1 (by decide) _ (by decide),show (3:Int)=((3:Nat):Int) from rfl,rounds_f 2 (by decide) 3 (by decide) _ (by decide),serial_f 0 (by decide) _ (by decide)]
 simp only [Option.bind_some,toList_B,if_true]
 rw [show roundL 1 [97,34,98,60]=[97,34,98,60] by decide +kernel,show roundsL 2 3 [10,97]=[97] by decide +kernel,show serL 0 [97,38,194,160]=[97,38,97,109,112,59,38,110,98,115,112,59] by decide +kernel]
 rfl
end Go.Proofs.YtcecjoaeolglbaaGreatDoor.Pro
namespace Go.Proofs.YtcecjoaeolglbaaGreatDoor.Hand
open Go Go.RowKit Go.Proofs.YtcecjoaeolglbaaGreatDoor.Pl Go.Proofs.YtcecjoaeolglbaaGreatDoor.Pb Go.Proofs.YtcecjoaeolglbaaGreatDoor.Pro Go.Proofs.YtcecjoaeolglbaaGreatDoor.So Go.Proofs.YtcecjoaeolglbaaGreatDoorW.PrintWords
end Go.Proofs.YtcecjoaeolglbaaGreatDoor.Hand
end

section
namespace Go.Proofs.YtcecjoaeolglbaaGreatDoor.Pro
open Go Go.RowKit Go.Proofs.YtcecjoaeolglbaaGreatDoor.K0 Go.Proofs.YtcecjoaeolglbaaGreatDoor.Hand Go.Proofs.YtcecjoaeolglbaaGreatDoor.Sa Go.Proofs.YtcecjoaeolglbaaGreatDoor.So Go.Proofs.YtcecjoaeolglbaaGreatDoor.Sw Go.Proofs.YtcecjoaeolglbaaGreatDoorW.PrintWords Go.Proofs.YtcecjoaeolglbaaGreatDoorW.PrintMore Go.Proofs.YtcecjoaeolglbaaGreatDoor.Pl Go.Proofs.YtcecjoaeolglbaaGreatDoor.Pb Go.Proofs.YtcecjoaeolglbaaGreatDoor.Pure
theorem u8_eqo {c:UInt8} (m:UInt8) (n:Int) (h:(m.toNat:Int)=n):((c.toNat:Int)=n)↔c=m:=⟨fun e=>UInt8.toNat_inj.1 (by omega),fun e=>by rw [e,h]⟩
theorem serL_of (k:Int) (hk:k=0∨k=1∨k=2) (s:List UInt8):serL k s=serQ (decide (k=1)) s:=by unfold serL;rw [if_neg (by omega)]
theorem written_l0 (k:Int) (hk:k=0∨k=1∨k=2) (a b:List UInt8) (ha:a.length≤300) (hb:b.length≤300) (h160:b.head? ≠ some 160) (S:List UInt8) (hS:serL k a=S) :
  ∀ d i:Nat,S.length - i=d→i≤S.length→∀ o,scanR (decide (k=1)) o (S.drop i)=true→Ev (fun n=>flaillaw24_RoundsWritten.l0 n (B a) (B b) true k (B S) o (i:Int)) true:=by
 have hl:a.length≤S.length∧S.length≤6*a.length:=by rw [← hS,serL_of k hk];exact ser_length _ _ a (Nat.le_refl _)
 have hlb:(serL k b).length≤6*b.length:=by rw [serL_of k hk];exact (ser_length _ _ b (Nat.le_refl _)).2
 have happ:serL k (a++b)=S++serL k b:=by rw [← hS,serL_of k hk,serL_of k hk,serL_of k hk];exact ser_app _ b h160 _ a (Nat.le_refl _)
 intro d
 induction d with
 | zero =>
   intro i hd hi o ho
   obtain rfl:i=S.length:=by omega
   rw [List.drop_length] at ho
   have ho':o=false:=by simpa [scanR] using ho
   subst ho'
   refine Ev.step (f:=fun _=>some true) (fun n => ?_) (Ev.now _)
   rw [flaillaw24_RoundsWritten.l0,if_neg (by rw [size_B];omega),if_pos rfl,if_neg (by decide),if_pos (by rw [size_B,size_B];omega),B_append,serial_f k hk _ (by rw [List.length_append];omega),serial_f k hk _ (by omega),Option.bind_some,Option.bind_some,
    if_pos (by rw [size_B,size_B];omega),B_append,toList_B,toList_B,if_pos happ,if_pos (by rw [size_B,size_B];omega),size_B,size_B]
   have:wrap64 (6*(a.length:Int))=6*(a.length:Int):=by unfold wrap64;omega
   rw [this]
   simp
   omega
 | succ d ih =>
   intro i hd hi o ho
   have hlt:i<S.length:=by omega
   have hdr:=List.drop_eq_getElem_cons hlt
   have hbt:=bt_drop S i _ _ hdr
   have q1:(i:Int)<((B S).size:Int):=by rw [size_B];omega
   have q2:(0:Int)≤(i:Int):=by omega
   have q3:S.length - (i+1)=d:=by omega
   have q4:i+1≤S.length:=by omega
   have w:wrap64 ((i:Int)+1)=((i+1:Nat):Int):=by unfold wrap64;omega
   rw [hdr,scanR] at ho
   have n1:¬ (S[i]=60∨S[i]=62):=fun h=>by rw [if_pos h] at ho;cases ho
   rw [if_neg n1] at ho
   rw [not_or] at n1
   have e60:((S[i].toNat:Int) == 60)=false:=by rw [beq_eq_false_iff_ne];exact fun e=>n1.1 ((u8_eqo 60 60 rfl).1 e)
   have e62:((S[i].toNat:Int) == 62)=false:=by rw [beq_eq_false_iff_ne];exact fun e=>n1.2 ((u8_eqo 62 62 rfl).1 e)
   have hstep:∀ o',scanR (decide (k=1)) o' (S.drop (i+1))=true→(∀ n,flaillaw24_RoundsWritten.j3 (n+1) (B a) (B b) true k (B S) o (i:Int) (S[i].toNat:Int) false=flaillaw24_RoundsWritten.l0 n (B a) (B b) true k (B S) o' (wrap64 ((i:Int)+1)))→Ev (fun n=>flaillaw24_RoundsWritten.l0 n (B a) (B b) true k (B S) o (i:Int)) true:=fun o' h1 h2=>by
    have go:=ih (i+1) q3 q4 o' h1
    rw [← w] at go
    refine Ev.step (f:=fun n=>flaillaw24_RoundsWritten.j3 n (B a) (B b) true k (B S) o (i:Int) (S[i].toNat:Int) false) (fun n => ?_) (Ev.step h2 go)
    rw [flaillaw24_RoundsWritten.l0,if_pos q1,if_pos q2,hbt,if_neg (fun e=>n1.1 ((u8_eqo 60 60 rfl).1 e)),e62]
   by_cases c34:S[i]=34
   · rw [if_pos c34,Bool.and_eq_true] at ho
     have hk1:k≠1:=fun e=>by rw [e] at ho;exact absurd ho.1 (by decide)
     exact hstep o ho.2 fun n=>by rw [flaillaw24_RoundsWritten.j3,if_neg (by decide),if_pos ((u8_eqo 34 34 rfl).2 c34),if_neg hk1]
   rw [if_neg c34] at ho
   by_cases c38:S[i]=38
   · rw [if_pos c38,Bool.and_eq_true] at ho
     have ho1:o=false:=by simpa using ho.1
     subst ho1
     exact hstep true ho.2 fun n=>by rw [flaillaw24_RoundsWritten.j3,if_neg (by decide),if_neg (fun e=>c34 ((u8_eqo 34 34 rfl).1 e)),if_pos ((u8_eqo 38 38 rfl).2 c38),if_neg (by decide)]
   rw [if_neg c38] at ho
   by_cases c59:S[i]=59
   · rw [if_pos c59] at ho
     exact hstep false ho fun n=>by rw [flaillaw24_RoundsWritten.j3,if_neg (by decide),if_neg (fun e=>c34 ((u8_eqo 34 34 rfl).1 e)),if_neg (fun e=>c38 ((u8_eqo 38 38 rfl).1 e)),if_pos ((u8_eqo 59 59 rfl).2 c59)]
   rw [if_neg c59] at ho
   exact hstep o ho fun n=>by rw [flaillaw24_RoundsWritten.j3,if_neg (by decide),if_neg (fun e=>c34 ((u8_eqo 34 34 rfl).1 e)),if_neg (fun e=>c38 ((u8_eqo 38 38 rfl).1 e)),if_neg (fun e=>c59 ((u8_eqo 59 59 rfl).1 e))]
theorem written_f (a0:Int) (a b:List UInt8) (h0:(Lit.int .u8 a0).wf=true):∃ k,flaillaw24_RoundsWritten.f k a0 (B a) (B b)=some true:=by
 have hk:=mod3 h0
 by_cases ha:300<a.length
 · exact ⟨1,by unfold flaillaw24_RoundsWritten.f;rw [awake24,Option.bind_some,if_pos (by rw [size_B];omega),flaillaw24_RoundsWritten.j0,if_pos rfl]⟩
 by_cases hb:300<b.length
 · exact ⟨1,by unfold flaillaw24_RoundsWritten.f;rw [awake24,Option.bind_some,if_neg (by rw [size_B];omega),decide_eq_true (show ((B b).size:Int)>300 by rw [size_B];omega),flaillaw24_RoundsWritten.j0,if_pos rfl]⟩
 have main:b.head? ≠ some 160→Ev (fun n=>flaillaw24_RoundsWritten.j1 n a0 (B a) (B b) true) true:=fun h160=>by
  have hsc:scanR (decide (wrap64 (Int.tmod a0 3)=1)) false ((serL (wrap64 (Int.tmod a0 3)) a).drop 0)=true:=by rw [List.drop_zero,serL_of _ hk];exact scan_ser _ _ a (Nat.le_refl _)
  have go:=written_l0 (wrap64 (Int.tmod a0 3)) hk a b (by omega) (by omega) h160 _ rfl _ 0 rfl (Nat.zero_le _) false hsc
  refine Ev.step (fun n => ?_) go
  rw [flaillaw24_RoundsWritten.j1,serial_f _ hk _ (by omega),Option.bind_some]
  rfl
 have hj:Ev (fun n=>flaillaw24_RoundsWritten.j0 n a0 (B a) (B b) true false) true:=by
  cases b with
  | nil =>
    refine Ev.step (fun n => ?_) (main (by simp))
    rw [flaillaw24_RoundsWritten.j0,if_neg (by decide),if_neg (by decide)]
  | cons c r =>
    have hb0:=bt_drop (c::r) 0 c r rfl
    have p0:(0:Int)<((B (c::r)).size:Int):=by rw [size_B,List.length_cons];omega
    by_cases h160:c=160
    · refine Ev.step (f:=fun _=>some true) (fun n => ?_) (Ev.now _)
      rw [flaillaw24_RoundsWritten.j0,if_neg (by decide),if_pos p0,if_pos p0,show (0:Int)=((0:Nat):Int) from rfl,hb0,if_pos ((u8_eqo 160 160 rfl).2 h160)]
    · refine Ev.step (fun n => ?_) (main (by simpa using h160))
      rw [flaillaw24_RoundsWritten.j0,if_neg (by decide),if_pos p0,if_pos p0,show (0:Int)=((0:Nat):Int) from rfl,hb0,if_neg (fun e=>h160 ((u8_eqo 160 160 rfl).1 e))]
 obtain ⟨k,hkk⟩:=hj.rounds
 refine ⟨k,?_⟩
 unfold flaillaw24_RoundsWritten.f
 rw [awake24,Option.bind_some,if_neg (by rw [size_B];omega),decide_eq_false (show ¬ ((B b).size:Int)>300 by rw [size_B];omega)]
 exact hkk
end Go.Proofs.YtcecjoaeolglbaaGreatDoor.Pro
namespace Go.Proofs.YtcecjoaeolglbaaGreatDoor.Hand
open Go Go.RowKit Go.Proofs.YtcecjoaeolglbaaGreatDoor.Pl Go.Proofs.YtcecjoaeolglbaaGreatDoor.Pb Go.Proofs.YtcecjoaeolglbaaGreatDoor.Pro Go.Proofs.YtcecjoaeolglbaaGreatDoor.Sw Go.Proofs.YtcecjoaeolglbaaGreatDoorW.PrintWords
theorem RoundsWritten_law (a0:Int) (a1 a2:ByteArray) (w:World) (w0:(Lit.int .u8 a0).wf=true) (_:a1.size≤140737488351232) (_:a2.size≤140737488351232) (hGl:Glob w) :
  Calls Tryz.prog 6 #[.int .u8 a0,.string a1,.string a2] w fun e w'=>e = .returned (.bool true)∧Below w.heap.size w w':=by
 obtain ⟨a,rfl⟩:=exists_B a1
 obtain ⟨b,rfl⟩:=exists_B a2
 obtain ⟨k,hk⟩:=written_f a0 a b w0
 exact flaillaw24_RoundsWritten.calls k a0 _ _ true w hGl hk
end Go.Proofs.YtcecjoaeolglbaaGreatDoor.Hand
end
