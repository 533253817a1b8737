/-
  Texts that several claims of this seat share, merged by a program of this session (5).
-/
import Derived.RegionTactic
import Derived.ChangeAlike
import Derived.Deep.RegionHeld3
import Derived.Laws.Runes
import Derived.BigQuiet
import Derived.Deep.QuietTactic
import Derived.Laws.ResultCell
import Derived.Laws.Rows
import Derived.JoinedOf
import Derived.KernelRfl
import Derived.SevenTiedAt
import Derived.Test.YtcecjoaeolglbaaGreatDoorRows
import Derived.Test.YtcecjoaeolglbaaGreatDoorCards
import Derived.ProofKit
import Derived.Handed
import Derived.SizedLaws
import Derived.LaidMore
import Derived.Lay
import Derived.LaidLaws
import Derived.ChangeBears2
import Derived.MakeChecks
import Derived.Shelf.Vars
import Derived.Stop.Joined
import Derived.Test.YtcecjoaeolglbaaGreatDoorZsd
set_option linter.unusedVariables false
set_option linter.unusedSimpArgs false
section
namespace Go.Proofs.YtcecjoaeolglbaaGreatDoor.St
open Go.RowKit Go.Proofs.YtcecjoaeolglbaaGreatDoor.K0 Go.Proofs.YtcecjoaeolglbaaGreatDoor.Hand Go.Proofs.YtcecjoaeolglbaaGreatDoor.Sa Go.Proofs.YtcecjoaeolglbaaGreatDoor.Si Go.Proofs.YtcecjoaeolglbaaGreatDoorW.PrintWords Go.Proofs.YtcecjoaeolglbaaGreatDoorW.PrintLast Go.Proofs.YtcecjoaeolglbaaGreatDoorW.PrintMore
attribute [local go_sem] max2_int min2_int max_two min_two max_three min_three max_four min_four  
set_option linter.unusedVariables false
set_option linter.unusedSimpArgs false
noncomputable def tok_Next.f (a0:ByteArray) (a1:Int):Option (Int×ByteArray×ByteArray×(List (S87))×Bool×Int×Bool):=(tok_inside.f a0 a1).bind fun t102=>((tag_Begins.f a0 t102).bind fun t103=>(if t103=true then ((tag_Read.f a0 t102).bind fun bt104=>(some (bt104.1,bt104.2.1,bt104.2.2.1,bt104.2.2.2.1,bt104.2.2.2.2.1,bt104.2.2.2.2.2.1,bt104.2.2.2.2.2.2))) else ((comment_Begins.f a0 t102).bind fun t113=>(if t113=true then ((comment_Read.f a0 t102).bind fun bt114=>(some (bt114.1,bt114.2.1,bt114.2.2.1,bt114.2.2.2.1,bt114.2.2.2.2.1,bt114.2.2.2.2.2.1,bt114.2.2.2.2.2.2))) else ((doctype_Begins.f a0 t102).bind fun t123=>(if t123=true then ((doctype_Read.f a0 t102).bind fun bt124=>(some (bt124.1,bt124.2.1,bt124.2.2.1,bt124.2.2.2.1,bt124.2.2.2.2.1,bt124.2.2.2.2.2.1,bt124.2.2.2.2.2.2))) else ((sign_Begins.f a0 t102 (⟨#[60,47,62]⟩:ByteArray)).bind fun t133=>(if t133=true then (some (0,(⟨#[]⟩:ByteArray),(⟨#[]⟩:ByteArray),([]:List (S87)),false,wrap64 (t102+3),false)) else ((text_Read.f a0 t102).bind fun bt134=>(if bt134.2=t102 then (some (0,(⟨#[]⟩:ByteArray),(⟨#[]⟩:ByteArray),([]:List (S87)),false,t102,false)) else (some (0,(⟨#[]⟩:ByteArray),bt134.1,([]:List (S87)),false,bt134.2,true))))))))))))
set_option maxHeartbeats 8000000 in
set_option maxRecDepth 100000 in
theorem tok_Next.calls (a0:ByteArray) (a1:Int) (r1:Int) (r2:ByteArray) (r3:ByteArray) (r4:List (S87)) (r5:Bool) (r6:Int) (r7:Bool) (w:World) (hGl:Glob w) (h:tok_Next.f a0 a1=some (r1,r2,r3,r4,r5,r6,r7)) :
  Calls Tryz.prog 61 #[.string a0,.int .i64 a1] w fun e w' => ∃ v3_:Value,e = .returned (.tuple #[.agg #[.int .i64 r1,.string r2,.string r3,v3_,.bool r5],.int .i64 r6,.bool r7])∧Kd.R k87 87 w' w.heap.size (fun _=>True) v3_ r4∧Below w.heap.size w w':=by
 have hu46:=Tryz.underlying46
 have HB:=Aside0.mk (Below.refl w.heap.size w)
 have H:((tok_inside.f a0 a1).bind fun t102=>((tag_Begins.f a0 t102).bind fun t103=>(if t103=true then ((tag_Read.f a0 t102).bind fun bt104=>(some (bt104.1,bt104.2.1,bt104.2.2.1,bt104.2.2.2.1,bt104.2.2.2.2.1,bt104.2.2.2.2.2.1,bt104.2.2.2.2.2.2))) else ((comment_Begins.f a0 t102).bind fun t113=>(if t113=true then ((comment_Read.f a0 t102).bind fun bt114=>(some (bt114.1,bt114.2.1,bt114.2.2.1,bt114.2.2.2.1,bt114.2.2.2.2.1,bt114.2.2.2.2.2.1,bt114.2.2.2.2.2.2))) else ((doctype_Begins.f a0 t102).bind fun t123=>(if t123=true then ((doctype_Read.f a0 t102).bind fun bt124=>(some (bt124.1,bt124.2.1,bt124.2.2.1,bt124.2.2.2.1,bt124.2.2.2.2.1,bt124.2.2.2.2.2.1,bt124.2.2.2.2.2.2))) else ((sign_Begins.f a0 t102 (⟨#[60,47,62]⟩:ByteArray)).bind fun t133=>(if t133=true then (some (0,(⟨#[]⟩:ByteArray),(⟨#[]⟩:ByteArray),([]:List (S87)),false,wrap64 (t102+3),false)) else ((text_Read.f a0 t102).bind fun bt134=>(if bt134.2=t102 then (some (0,(⟨#[]⟩:ByteArray),(⟨#[]⟩:ByteArray),([]:List (S87)),false,t102,false)) else (some (0,(⟨#[]⟩:ByteArray),bt134.1,([]:List (S87)),false,bt134.2,true)))))))))))))=some (r1,r2,r3,r4,r5,r6,r7):=h
 clear h
 replace H:=Option.bind_eq_some_iff.mp H
 obtain ⟨t102,A30,H⟩:=H
 replace H:((tag_Begins.f a0 t102).bind fun t103=>(if t103=true then ((tag_Read.f a0 t102).bind fun bt104=>(some (bt104.1,bt104.2.1,bt104.2.2.1,bt104.2.2.2.1,bt104.2.2.2.2.1,bt104.2.2.2.2.2.1,bt104.2.2.2.2.2.2))) else ((comment_Begins.f a0 t102).bind fun t113=>(if t113=true then ((comment_Read.f a0 t102).bind fun bt114=>(some (bt114.1,bt114.2.1,bt114.2.2.1,bt114.2.2.2.1,bt114.2.2.2.2.1,bt114.2.2.2.2.2.1,bt114.2.2.2.2.2.2))) else ((doctype_Begins.f a0 t102).bind fun t123=>(if t123=true then ((doctype_Read.f a0 t102).bind fun bt124=>(some (bt124.1,bt124.2.1,bt124.2.2.1,bt124.2.2.2.1,bt124.2.2.2.2.1,bt124.2.2.2.2.2.1,bt124.2.2.2.2.2.2))) else ((sign_Begins.f a0 t102 (⟨#[60,47,62]⟩:ByteArray)).bind fun t133=>(if t133=true then (some (0,(⟨#[]⟩:ByteArray),(⟨#[]⟩:ByteArray),([]:List (S87)),false,wrap64 (t102+3),false)) else ((text_Read.f a0 t102).bind fun bt134=>(if bt134.2=t102 then (some (0,(⟨#[]⟩:ByteArray),(⟨#[]⟩:ByteArray),([]:List (S87)),false,t102,false)) else (some (0,(⟨#[]⟩:ByteArray),bt134.1,([]:List (S87)),false,bt134.2,true))))))))))))=some (r1,r2,r3,r4,r5,r6,r7):=H
 have A3:=Aside0.mk A30
 clear A30
 replace H:=Option.bind_eq_some_iff.mp H
 obtain ⟨t103,A40,H⟩:=H
 replace H:(if t103=true then ((tag_Read.f a0 t102).bind fun bt104=>(some (bt104.1,bt104.2.1,bt104.2.2.1,bt104.2.2.2.1,bt104.2.2.2.2.1,bt104.2.2.2.2.2.1,bt104.2.2.2.2.2.2))) else ((comment_Begins.f a0 t102).bind fun t113=>(if t113=true then ((comment_Read.f a0 t102).bind fun bt114=>(some (bt114.1,bt114.2.1,bt114.2.2.1,bt114.2.2.2.1,bt114.2.2.2.2.1,bt114.2.2.2.2.2.1,bt114.2.2.2.2.2.2))) else ((doctype_Begins.f a0 t102).bind fun t123=>(if t123=true then ((doctype_Read.f a0 t102).bind fun bt124=>(some (bt124.1,bt124.2.1,bt124.2.2.1,bt124.2.2.2.1,bt124.2.2.2.2.1,bt124.2.2.2.2.2.1,bt124.2.2.2.2.2.2))) else ((sign_Begins.f a0 t102 (⟨#[60,47,62]⟩:ByteArray)).bind fun t133=>(if t133=true then (some (0,(⟨#[]⟩:ByteArray),(⟨#[]⟩:ByteArray),([]:List (S87)),false,wrap64 (t102+3),false)) else ((text_Read.f a0 t102).bind fun bt134=>(if bt134.2=t102 then (some (0,(⟨#[]⟩:ByteArray),(⟨#[]⟩:ByteArray),([]:List (S87)),false,t102,false)) else (some (0,(⟨#[]⟩:ByteArray),bt134.1,([]:List (S87)),false,bt134.2,true)))))))))))=some (r1,r2,r3,r4,r5,r6,r7):=H
 have A4:=Aside0.mk A40
 clear A40
 by_cases c5:t103=true
 · subst c5
   have H1:((tag_Read.f a0 t102).bind fun bt104=>(some (bt104.1,bt104.2.1,bt104.2.2.1,bt104.2.2.2.1,bt104.2.2.2.2.1,bt104.2.2.2.2.2.1,bt104.2.2.2.2.2.2)))=some (r1,r2,r3,r4,r5,r6,r7):=by rw [if_pos rfl] at H;exact H
   clear H
   have H:=H1
   clear H1
   replace H:=Option.bind_eq_some_iff.mp H
   obtain ⟨⟨t104,t105,t106,t107,t110,t111,t112⟩,A60,H⟩:=H
   replace H:(some (t104,t105,t106,t107,t110,t111,t112))=some (r1,r2,r3,r4,r5,r6,r7):=H
   have A6:=Aside0.mk A60
   clear A60
   simp only [Option.some.injEq,Prod.mk.injEq] at H
   obtain ⟨rfl,rfl,rfl,rfl,rfl,rfl,rfl⟩:=H
   go_enter Tryz.func61,Tryz.ntmps61
   go_wp2_with (first | ((with_reducible refine gate_dst (N:=4) rfl ?_);refine box_event ?hg (N:=4) ?hd (cs := #[.int .i64 0,.string (⟨#[]⟩:ByteArray),.string (⟨#[]⟩:ByteArray),.slice none 0 0,.bool false]) (t:=46) ?hr ?_;(case hd=>rfl);(case hg=>rfl);(case hr=>first | (go_simp;done) | (go_simp;rfl));intro gb101 hg w7 hbox hb;have n0_:=Aside0.mk (below_step (by repeat (first | (with_reducible first|exact HB.out|apply below_alloc|apply pw_below_drewN|apply below_drew1)|exact HB.out)) hb);have n1_:=Aside0.mk (hbox);have n2_:=Aside0.mk ((by rw [hg];exact (below_size (by repeat (first | (with_reducible first|exact HB.out|apply below_alloc|apply pw_below_drewN|apply below_drew1)|exact HB.out))):w.heap.size≤gb101));have n3_:=Aside0.mk ((by rw [hg];exact (below_size (by repeat (first | (with_reducible first|exact HB.out|apply below_alloc|apply pw_below_drewN|apply below_drew1)|exact HB.out))):w.heap.size≤gb101));clear HB;have HB:=n0_;have BK101:=n1_;have GW101:=n2_;have GE101:=n3_;clear n0_ n1_ n2_ n3_;clear hb hbox hg) | ((with_reducible refine gate_callee (f:=88) rfl ?_);refine goesL_ (some 10) rfl rfl Tryz.func88 (by kernel_rfl) rfl #[.string a0,.int .i64 a1] rfl (by (try simp only [List.map_toArray,List.map_cons,List.map_nil]);first|done|rfl | (simp only [List.length_drop,List.length_take];rfl)) ?_;(with_reducible refine (tok_inside.calls a0 a1 t102 _ A3.out).mono ?_);rintro e w8 ⟨rfl,hb⟩;refine ⟨_,rfl,?_⟩;have n0_:=Aside0.mk (blk_below (g:=gb101) (o:=.cells #[.int .i64 0,.string (⟨#[]⟩:ByteArray),.string (⟨#[]⟩:ByteArray),.slice none 0 0,.bool false] 46 (0,0)) (by (with_reducible repeat (first|refine blk_drewN ?_ _|refine blk_drew ?_|refine blk_alloc ?_ _));exact BK101.out) hb);have n1_:=Aside0.mk (below_step (by repeat (first | (with_reducible first|exact HB.out|apply below_alloc|apply pw_below_drewN|apply below_drew1|refine below_set ?_ GE101.out)|exact HB.out)) hb);clear BK101;clear HB;have BK101:=n0_;have HB:=n1_;clear n0_ n1_;(try clear hb);(try clear hb2);(try clear hk);(try clear hi)) | ((with_reducible refine gate_callee (f:=89) rfl ?_);refine goesL_ (some 14) rfl rfl Tryz.func89 (by kernel_rfl) rfl #[.string a0,.int .i64 t102] rfl (by (try simp only [List.map_toArray,List.map_cons,List.map_nil]);first|done|rfl | (simp only [List.length_drop,List.length_take];rfl)) ?_;(with_reducible refine (tag_Begins.calls a0 t102 true _ A4.out).mono ?_);rintro e w9 ⟨rfl,hb⟩;refine ⟨_,rfl,?_⟩;have n0_:=Aside0.mk (blk_below (g:=gb101) (o:=.cells #[.int .i64 0,.string (⟨#[]⟩:ByteArray),.string (⟨#[]⟩:ByteArray),.slice none 0 0,.bool false] 46 (0,0)) (by (with_reducible repeat (first|refine blk_drewN ?_ _|refine blk_drew ?_|refine blk_alloc ?_ _));exact BK101.out) hb);have n1_:=Aside0.mk (below_step (by repeat (first | (with_reducible first|exact HB.out|apply below_alloc|apply pw_below_drewN|apply below_drew1|refine below_set ?_ GE101.out)|exact HB.out)) hb);clear BK101;clear HB;have BK101:=n0_;have HB:=n1_;clear n0_ n1_;(try clear hb);(try clear hb2);(try clear hk);(try clear hi)) | ((with_reducible refine gate_callee (f:=90) rfl ?_);refine goesL_ (some 17) rfl rfl Tryz.func90 (by kernel_rfl) rfl #[.string a0,.int .i64 t102] rfl (by (try simp only [List.map_toArray,List.map_cons,List.map_nil]);first|done|rfl | (simp only [List.length_drop,List.length_take];rfl)) ?_;(with_reducible refine (tag_Read.calls a0 t102 t104 t105 t106 t107 t110 t111 t112 _ ?side1 A6.out).mono ?_);(case side1=>exact Glob.step hGl (by repeat (first | (with_reducible first|exact HB.out|apply below_alloc|apply pw_below_drewN|apply below_drew1|refine below_set ?_ GE101.out)|exact HB.out)));rintro e w10 ⟨v108,rfl,ho0,hb⟩;refine ⟨_,rfl,?_⟩;have n0_:=Aside0.mk (Kd.R_lower ho0 (below_size (by repeat (first | (with_reducible first|exact HB.out|apply below_alloc|apply pw_below_drewN|apply below_drew1|refine below_set ?_ GE101.out)|exact HB.out))));have n1_:=Aside0.mk (blk_below (g:=gb101) (o:=.cells #[.int .i64 0,.string (⟨#[]⟩:ByteArray),.string (⟨#[]⟩:ByteArray),.slice none 0 0,.bool false] 46 (0,0)) (by (with_reducible repeat (first|refine blk_drewN ?_ _|refine blk_drew ?_|refine blk_alloc ?_ _));exact BK101.out) hb);have n2_:=Aside0.mk (below_step (by repeat (first | (with_reducible first|exact HB.out|apply below_alloc|apply pw_below_drewN|apply below_drew1|refine below_set ?_ GE101.out)|exact HB.out)) hb);clear BK101;clear HB;have HO109:=n0_;have BK101:=n1_;have HB:=n2_;clear n0_ n1_ n2_;(try clear hb);(try clear hb2);(try clear hk);(try clear hi);(try clear ho0);have hcz11_0:w10.cell? ⟨gb101,0,none⟩=some (.int .i64 0):=(blk_cell BK101.out 0).trans rfl;have hcz11_1:w10.cell? ⟨gb101,1,none⟩=some (.string (⟨#[]⟩:ByteArray)):=(blk_cell BK101.out 1).trans rfl;have hcz11_2:w10.cell? ⟨gb101,2,none⟩=some (.string (⟨#[]⟩:ByteArray)):=(blk_cell BK101.out 2).trans rfl;have hcz11_3:w10.cell? ⟨gb101,3,none⟩=some (.slice none 0 0):=(blk_cell BK101.out 3).trans rfl;have hcz11_4:w10.cell? ⟨gb101,4,none⟩=some (.bool false):=(blk_cell BK101.out 4).trans rfl;have hfz11_0:=blk_frozen BK101.out 0;have hfz11_1:=blk_frozen BK101.out 1;have hfz11_2:=blk_frozen BK101.out 2;have hfz11_3:=blk_frozen BK101.out 3;have hfz11_4:=blk_frozen BK101.out 4;obtain ⟨Ao12,co12,eo12⟩:=Kd.R_slice HO109.out;subst eo12))
   refine bodyPost_ret (results_ctt rfl _ _ gb101 46 #[.int .i64 t104,.string t105,.string t106,.slice Ao12 t107.length co12,.bool t110] (0,0) _ rfl (by (with_reducible repeat (first|refine blk_drewN ?_ _|refine blk_drew ?_|refine blk_alloc ?_ _));refine blk_put (cs := #[.int .i64 t104,.string t105,.string t106,.slice Ao12 t107.length co12,.bool false]) ?_ 4 _ rfl;(with_reducible repeat (first|refine blk_drewN ?_ _|refine blk_drew ?_|refine blk_alloc ?_ _));refine blk_put (cs := #[.int .i64 t104,.string t105,.string t106,.slice none 0 0,.bool false]) ?_ 3 _ rfl;(with_reducible repeat (first|refine blk_drewN ?_ _|refine blk_drew ?_|refine blk_alloc ?_ _));refine blk_put (cs := #[.int .i64 t104,.string t105,.string (⟨#[]⟩:ByteArray),.slice none 0 0,.bool false]) ?_ 2 _ rfl;(with_reducible repeat (first|refine blk_drewN ?_ _|refine blk_drew ?_|refine blk_alloc ?_ _));refine blk_put (cs := #[.int .i64 t104,.string (⟨#[]⟩:ByteArray),.string (⟨#[]⟩:ByteArray),.slice none 0 0,.bool false]) ?_ 1 _ rfl;(with_reducible repeat (first|refine blk_drewN ?_ _|refine blk_drew ?_|refine blk_alloc ?_ _));refine blk_put (cs := #[.int .i64 0,.string (⟨#[]⟩:ByteArray),.string (⟨#[]⟩:ByteArray),.slice none 0 0,.bool false]) ?_ 0 _ rfl;(with_reducible repeat (first|refine blk_drewN ?_ _|refine blk_drew ?_|refine blk_alloc ?_ _));exact BK101.out) Tryz.underlying46 rfl (by kernel_rfl)) rfl ?_
   exact ⟨_,by first|rfl | (simp [errW_none,errW_some]<;>rfl) | (simp [*,errW_none,errW_some]<;>rfl),by (with_reducible repeat (first|apply Kd.R_alloc|apply Kd.R_drewN|apply Kd.R_drew));exact Kd.R_mono (Kd.R_far (p:=⟨gb101,4,none⟩) (Kd.R_far (p:=⟨gb101,3,none⟩) (Kd.R_far (p:=⟨gb101,2,none⟩) (Kd.R_far (p:=⟨gb101,1,none⟩) (Kd.R_far (p:=⟨gb101,0,none⟩) (Kd.R_types HO109.out BK101.out (by decide)) (fun _ hk=>hk.2) (.int .i64 t104)) (fun _ hk=>hk.2) (.string t105)) (fun _ hk=>hk.2) (.string t106)) (fun _ hk=>hk.2) (.slice Ao12 t107.length co12)) (fun _ hk=>hk.2) (.bool t110)) (fun _ hk=>trivial),by repeat (first | (with_reducible first|exact HB.out|apply below_alloc|apply pw_below_drewN|apply below_drew1|refine below_set ?_ GE101.out)|exact HB.out)⟩
 · replace c5:=Bool.eq_false_iff.mpr c5
   subst c5
   have H1:((comment_Begins.f a0 t102).bind fun t113=>(if t113=true then ((comment_Read.f a0 t102).bind fun bt114=>(some (bt114.1,bt114.2.1,bt114.2.2.1,bt114.2.2.2.1,bt114.2.2.2.2.1,bt114.2.2.2.2.2.1,bt114.2.2.2.2.2.2))) else ((doctype_Begins.f a0 t102).bind fun t123=>(if t123=true then ((doctype_Read.f a0 t102).bind fun bt124=>(some (bt124.1,bt124.2.1,bt124.2.2.1,bt124.2.2.2.1,bt124.2.2.2.2.1,bt124.2.2.2.2.2.1,bt124.2.2.2.2.2.2))) else ((sign_Begins.f a0 t102 (⟨#[60,47,62]⟩:ByteArray)).bind fun t133=>(if t133=true then (some (0,(⟨#[]⟩:ByteArray),(⟨#[]⟩:ByteArray),([]:List (S87)),false,wrap64 (t102+3),false)) else ((text_Read.f a0 t102).bind fun bt134=>(if bt134.2=t102 then (some (0,(⟨#[]⟩:ByteArray),(⟨#[]⟩:ByteArray),([]:List (S87)),false,t102,false)) else (some (0,(⟨#[]⟩:ByteArray),bt134.1,([]:List (S87)),false,bt134.2,true))))))))))=some (r1,r2,r3,r4,r5,r6,r7):=by rw [if_neg (show ¬ (false=true) by decide)] at H;exact H
   clear H
   have H:=H1
   clear H1
   replace H:=Option.bind_eq_some_iff.mp H
   obtain ⟨t113,A130,H⟩:=H
   replace H:(if t113=true then ((comment_Read.f a0 t102).bind fun bt114=>(some (bt114.1,bt114.2.1,bt114.2.2.1,bt114.2.2.2.1,bt114.2.2.2.2.1,bt114.2.2.2.2.2.1,bt114.2.2.2.2.2.2))) else ((doctype_Begins.f a0 t102).bind fun t123=>(if t123=true then ((doctype_Read.f a0 t102).bind fun bt124=>(some (bt124.1,bt124.2.1,bt124.2.2.1,bt124.2.2.2.1,bt124.2.2.2.2.1,bt124.2.2.2.2.2.1,bt124.2.2.2.2.2.2))) else ((sign_Begins.f a0 t102 (⟨#[60,47,62]⟩:ByteArray)).bind fun t133=>(if t133=true then (some (0,(⟨#[]⟩:ByteArray),(⟨#[]⟩:ByteArray),([]:List (S87)),false,wrap64 (t102+3),false)) else ((text_Read.f a0 t102).bind fun bt134=>(if bt134.2=t102 then (some (0,(⟨#[]⟩:ByteArray),(⟨#[]⟩:ByteArray),([]:List (S87)),false,t102,false)) else (some (0,(⟨#[]⟩:ByteArray),bt134.1,([]:List (S87)),false,bt134.2,true)))))))))=some (r1,r2,r3,r4,r5,r6,r7):=H
   have A13:=Aside0.mk A130
   clear A130
   by_cases c14:t113=true
   · subst c14
     have H1:((comment_Read.f a0 t102).bind fun bt114=>(some (bt114.1,bt114.2.1,bt114.2.2.1,bt114.2.2.2.1,bt114.2.2.2.2.1,bt114.2.2.2.2.2.1,bt114.2.2.2.2.2.2)))=some (r1,r2,r3,r4,r5,r6,r7):=by rw [if_pos rfl] at H;exact H
     clear H
     have H:=H1
     clear H1
     replace H:=Option.bind_eq_some_iff.mp H
     obtain ⟨⟨t114,t115,t116,t117,t120,t121,t122⟩,A150,H⟩:=H
     replace H:(some (t114,t115,t116,t117,t120,t121,t122))=some (r1,r2,r3,r4,r5,r6,r7):=H
     have A15:=Aside0.mk A150
     clear A150
     simp only [Option.some.injEq,Prod.mk.injEq] at H
     obtain ⟨rfl,rfl,rfl,rfl,rfl,rfl,rfl⟩:=H
     go_enter Tryz.func61,Tryz.ntmps61
     go_wp2_with (first | ((with_reducible refine gate_dst (N:=4) rfl ?_);refine box_event ?hg (N:=4) ?hd (cs := #[.int .i64 0,.string (⟨#[]⟩:ByteArray),.string (⟨#[]⟩:ByteArray),.slice none 0 0,.bool false]) (t:=46) ?hr ?_;(case hd=>rfl);(case hg=>rfl);(case hr=>first | (go_simp;done) | (go_simp;rfl));intro gb101 hg w16 hbox hb;have n0_:=Aside0.mk (below_step (by repeat (first | (with_reducible first|exact HB.out|apply below_alloc|apply pw_below_drewN|apply below_drew1)|exact HB.out)) hb);have n1_:=Aside0.mk (hbox);have n2_:=Aside0.mk ((by rw [hg];exact (below_size (by repeat (first | (with_reducible first|exact HB.out|apply below_alloc|apply pw_below_drewN|apply below_drew1)|exact HB.out))):w.heap.size≤gb101));have n3_:=Aside0.mk ((by rw [hg];exact (below_size (by repeat (first | (with_reducible first|exact HB.out|apply below_alloc|apply pw_below_drewN|apply below_drew1)|exact HB.out))):w.heap.size≤gb101));clear HB;have HB:=n0_;have BK101:=n1_;have GW101:=n2_;have GE101:=n3_;clear n0_ n1_ n2_ n3_;clear hb hbox hg) | ((with_reducible refine gate_callee (f:=88) rfl ?_);refine goesL_ (some 10) rfl rfl Tryz.func88 (by kernel_rfl) rfl #[.string a0,.int .i64 a1] rfl (by (try simp only [List.map_toArray,List.map_cons,List.map_nil]);first|done|rfl | (simp only [List.length_drop,List.length_take];rfl)) ?_;(with_reducible refine (tok_inside.calls a0 a1 t102 _ A3.out).mono ?_);rintro e w17 ⟨rfl,hb⟩;refine ⟨_,rfl,?_⟩;have n0_:=Aside0.mk (blk_below (g:=gb101) (o:=.cells #[.int .i64 0,.string (⟨#[]⟩:ByteArray),.string (⟨#[]⟩:ByteArray),.slice none 0 0,.bool false] 46 (0,0)) (by (with_reducible repeat (first|refine blk_drewN ?_ _|refine blk_drew ?_|refine blk_alloc ?_ _));exact BK101.out) hb);have n1_:=Aside0.mk (below_step (by repeat (first | (with_reducible first|exact HB.out|apply below_alloc|apply pw_below_drewN|apply below_drew1|refine below_set ?_ GE101.out)|exact HB.out)) hb);clear BK101;clear HB;have BK101:=n0_;have HB:=n1_;clear n0_ n1_;(try clear hb);(try clear hb2);(try clear hk);(try clear hi)) | ((with_reducible refine gate_callee (f:=89) rfl ?_);refine goesL_ (some 14) rfl rfl Tryz.func89 (by kernel_rfl) rfl #[.string a0,.int .i64 t102] rfl (by (try simp only [List.map_toArray,List.map_cons,List.map_nil]);first|done|rfl | (simp only [List.length_drop,List.length_take];rfl)) ?_;(with_reducible refine (tag_Begins.calls a0 t102 false _ A4.out).mono ?_);rintro e w18 ⟨rfl,hb⟩;refine ⟨_,rfl,?_⟩;have n0_:=Aside0.mk (blk_below (g:=gb101) (o:=.cells #[.int .i64 0,.string (⟨#[]⟩:ByteArray),.string (⟨#[]⟩:ByteArray),.slice none 0 0,.bool false] 46 (0,0)) (by (with_reducible repeat (first|refine blk_drewN ?_ _|refine blk_drew ?_|refine blk_alloc ?_ _));exact BK101.out) hb);have n1_:=Aside0.mk (below_step (by repeat (first | (with_reducible first|exact HB.out|apply below_alloc|apply pw_below_drewN|apply below_drew1|refine below_set ?_ GE101.out)|exact HB.out)) hb);clear BK101;clear HB;have BK101:=n0_;have HB:=n1_;clear n0_ n1_;(try clear hb);(try clear hb2);(try clear hk);(try clear hi)) | ((with_reducible refine gate_callee (f:=91) rfl ?_);refine goesL_ (some 24) rfl rfl Tryz.func91 (by kernel_rfl) rfl #[.string a0,.int .i64 t102] rfl (by (try simp only [List.map_toArray,List.map_cons,List.map_nil]);first|done|rfl | (simp only [List.length_drop,List.length_take];rfl)) ?_;(with_reducible refine (comment_Begins.calls a0 t102 true _ A13.out).mono ?_);rintro e w19 ⟨rfl,hb⟩;refine ⟨_,rfl,?_⟩;have n0_:=Aside0.mk (blk_below (g:=gb101) (o:=.cells #[.int .i64 0,.string (⟨#[]⟩:ByteArray),.string (⟨#[]⟩:ByteArray),.slice none 0 0,.bool false] 46 (0,0)) (by (with_reducible repeat (first|refine blk_drewN ?_ _|refine blk_drew ?_|refine blk_alloc ?_ _));exact BK101.out) hb);have n1_:=Aside0.mk (below_step (by repeat (first | (with_reducible first|exact HB.out|apply below_alloc|apply pw_below_drewN|apply below_drew1|refine below_set ?_ GE101.out)|exact HB.out)) hb);clear BK101;clear HB;have BK101:=n0_;have HB:=n1_;clear n0_ n1_;(try clear hb);(try clear hb2);(try clear hk);(try clear hi)) | ((with_reducible refine gate_callee (f:=92) rfl ?_);refine goesL_ (some 27) rfl rfl Tryz.func92 (by kernel_rfl) rfl #[.string a0,.int .i64 t102] rfl (by (try simp only [List.map_toArray,List.map_cons,List.map_nil]);first|done|rfl | (simp only [List.length_drop,List.length_take];rfl)) ?_;(with_reducible refine (comment_Read.calls a0 t102 t114 t115 t116 t117 t120 t121 t122 _ ?side1 A15.out).mono ?_);(case side1=>exact Glob.step hGl (by repeat (first | (with_reducible first|exact HB.out|apply below_alloc|apply pw_below_drewN|apply below_drew1|refine below_set ?_ GE101.out)|exact HB.out)));rintro e w20 ⟨v118,rfl,ho0,hb⟩;refine ⟨_,rfl,?_⟩;have n0_:=Aside0.mk (Kd.R_lower ho0 (below_size (by repeat (first | (with_reducible first|exact HB.out|apply below_alloc|apply pw_below_drewN|apply below_drew1|refine below_set ?_ GE101.out)|exact HB.out))));have n1_:=Aside0.mk (blk_below (g:=gb101) (o:=.cells #[.int .i64 0,.string (⟨#[]⟩:ByteArray),.string (⟨#[]⟩:ByteArray),.slice none 0 0,.bool false] 46 (0,0)) (by (with_reducible repeat (first|refine blk_drewN ?_ _|refine blk_drew ?_|refine blk_alloc ?_ _));exact BK101.out) hb);have n2_:=Aside0.mk (below_step (by repeat (first | (with_reducible first|exact HB.out|apply below_alloc|apply pw_below_drewN|apply below_drew1|refine below_set ?_ GE101.out)|exact HB.out)) hb);clear BK101;clear HB;have HO119:=n0_;have BK101:=n1_;have HB:=n2_;clear n0_ n1_ n2_;(try clear hb);(try clear hb2);(try clear hk);(try clear hi);(try clear ho0);have hcz21_0:w20.cell? ⟨gb101,0,none⟩=some (.int .i64 0):=(blk_cell BK101.out 0).trans rfl;have hcz21_1:w20.cell? ⟨gb101,1,none⟩=some (.string (⟨#[]⟩:ByteArray)):=(blk_cell BK101.out 1).trans rfl;have hcz21_2:w20.cell? ⟨gb101,2,none⟩=some (.string (⟨#[]⟩:ByteArray)):=(blk_cell BK101.out 2).trans rfl;have hcz21_3:w20.cell? ⟨gb101,3,none⟩=some (.slice none 0 0):=(blk_cell BK101.out 3).trans rfl;have hcz21_4:w20.cell? ⟨gb101,4,none⟩=some (.bool false):=(blk_cell BK101.out 4).trans rfl;have hfz21_0:=blk_frozen BK101.out 0;have hfz21_1:=blk_frozen BK101.out 1;have hfz21_2:=blk_frozen BK101.out 2;have hfz21_3:=blk_frozen BK101.out 3;have hfz21_4:=blk_frozen BK101.out 4;obtain ⟨Ao22,co22,eo22⟩:=Kd.R_slice HO119.out;subst eo22))
     refine bodyPost_ret (results_ctt rfl _ _ gb101 46 #[.int .i64 t114,.string t115,.string t116,.slice Ao22 t117.length co22,.bool t120] (0,0) _ rfl (by (with_reducible repeat (first|refine blk_drewN ?_ _|refine blk_drew ?_|refine blk_alloc ?_ _));refine blk_put (cs := #[.int .i64 t114,.string t115,.string t116,.slice Ao22 t117.length co22,.bool false]) ?_ 4 _ rfl;(with_reducible repeat (first|refine blk_drewN ?_ _|refine blk_drew ?_|refine blk_alloc ?_ _));refine blk_put (cs := #[.int .i64 t114,.string t115,.string t116,.slice none 0 0,.bool false]) ?_ 3 _ rfl;(with_reducible repeat (first|refine blk_drewN ?_ _|refine blk_drew ?_|refine blk_alloc ?_ _));refine blk_put (cs := #[.int .i64 t114,.string t115,.string (⟨#[]⟩:ByteArray),.slice none 0 0,.bool false]) ?_ 2 _ rfl;(with_reducible repeat (first|refine blk_drewN ?_ _|refine blk_drew ?_|refine blk_alloc ?_ _));refine blk_put (cs := #[.int .i64 t114,.string (⟨#[]⟩:ByteArray),.string (⟨#[]⟩:ByteArray),.slice none 0 0,.bool false]) ?_ 1 _ rfl;(with_reducible repeat (first|refine blk_drewN ?_ _|refine blk_drew ?_|refine blk_alloc ?_ _));refine blk_put (cs := #[.int .i64 0,.string (⟨#[]⟩:ByteArray),.string (⟨#[]⟩:ByteArray),.slice none 0 0,.bool false]) ?_ 0 _ rfl;(with_reducible repeat (first|refine blk_drewN ?_ _|refine blk_drew ?_|refine blk_alloc ?_ _));exact BK101.out) Tryz.underlying46 rfl (by kernel_rfl)) rfl ?_
     exact ⟨_,by first|rfl | (simp [errW_none,errW_some]<;>rfl) | (simp [*,errW_none,errW_some]<;>rfl),by (with_reducible repeat (first|apply Kd.R_alloc|apply Kd.R_drewN|apply Kd.R_drew));exact Kd.R_mono (Kd.R_far (p:=⟨gb101,4,none⟩) (Kd.R_far (p:=⟨gb101,3,none⟩) (Kd.R_far (p:=⟨gb101,2,none⟩) (Kd.R_far (p:=⟨gb101,1,none⟩) (Kd.R_far (p:=⟨gb101,0,none⟩) (Kd.R_types HO119.out BK101.out (by decide)) (fun _ hk=>hk.2) (.int .i64 t114)) (fun _ hk=>hk.2) (.string t115)) (fun _ hk=>hk.2) (.string t116)) (fun _ hk=>hk.2) (.slice Ao22 t117.length co22)) (fun _ hk=>hk.2) (.bool t120)) (fun _ hk=>trivial),by repeat (first | (with_reducible first|exact HB.out|apply below_alloc|apply pw_below_drewN|apply below_drew1|refine below_set ?_ GE101.out)|exact HB.out)⟩
   · replace c14:=Bool.eq_false_iff.mpr c14
     subst c14
     have H1:((doctype_Begins.f a0 t102).bind fun t123=>(if t123=true then ((doctype_Read.f a0 t102).bind fun bt124=>(some (bt124.1,bt124.2.1,bt124.2.2.1,bt124.2.2.2.1,bt124.2.2.2.2.1,bt124.2.2.2.2.2.1,bt124.2.2.2.2.2.2))) else ((sign_Begins.f a0 t102 (⟨#[60,47,62]⟩:ByteArray)).bind fun t133=>(if t133=true then (some (0,(⟨#[]⟩:ByteArray),(⟨#[]⟩:ByteArray),([]:List (S87)),false,wrap64 (t102+3),false)) else ((text_Read.f a0 t102).bind fun bt134=>(if bt134.2=t102 then (some (0,(⟨#[]⟩:ByteArray),(⟨#[]⟩:ByteArray),([]:List (S87)),false,t102,false)) else (some (0,(⟨#[]⟩:ByteArray),bt134.1,([]:List (S87)),false,bt134.2,true))))))))=some (r1,r2,r3,r4,r5,r6,r7):=by rw [if_neg (show ¬ (false=true) by decide)] at H;exact H
     clear H
     have H:=H1
     clear H1
     replace H:=Option.bind_eq_some_iff.mp H
     obtain ⟨t123,A230,H⟩:=H
     replace H:(if t123=true then ((doctype_Read.f a0 t102).bind fun bt124=>(some (bt124.1,bt124.2.1,bt124.2.2.1,bt124.2.2.2.1,bt124.2.2.2.2.1,bt124.2.2.2.2.2.1,bt124.2.2.2.2.2.2))) else ((sign_Begins.f a0 t102 (⟨#[60,47,62]⟩:ByteArray)).bind fun t133=>(if t133=true then (some (0,(⟨#[]⟩:ByteArray),(⟨#[]⟩:ByteArray),([]:List (S87)),false,wrap64 (t102+3),false)) else ((text_Read.f a0 t102).bind fun bt134=>(if bt134.2=t102 then (some (0,(⟨#[]⟩:ByteArray),(⟨#[]⟩:ByteArray),([]:List (S87)),false,t102,false)) else (some (0,(⟨#[]⟩:ByteArray),bt134.1,([]:List (S87)),false,bt134.2,true)))))))=some (r1,r2,r3,r4,r5,r6,r7):=H
     have A23:=Aside0.mk A230
     clear A230
     by_cases c24:t123=true
     · subst c24
       have H1:((doctype_Read.f a0 t102).bind fun bt124=>(some (bt124.1,bt124.2.1,bt124.2.2.1,bt124.2.2.2.1,bt124.2.2.2.2.1,bt124.2.2.2.2.2.1,bt124.2.2.2.2.2.2)))=some (r1,r2,r3,r4,r5,r6,r7):=by rw [if_pos rfl] at H;exact H
       clear H
       have H:=H1
       clear H1
       replace H:=Option.bind_eq_some_iff.mp H
       obtain ⟨⟨t124,t125,t126,t127,t130,t131,t132⟩,A250,H⟩:=H
       replace H:(some (t124,t125,t126,t127,t130,t131,t132))=some (r1,r2,r3,r4,r5,r6,r7):=H
       have A25:=Aside0.mk A250
       clear A250
       simp only [Option.some.injEq,Prod.mk.injEq] at H
       obtain ⟨rfl,rfl,rfl,rfl,rfl,rfl,rfl⟩:=H
       go_enter Tryz.func61,Tryz.ntmps61
       go_wp2_with (first | ((with_reducible refine gate_dst (N:=4) rfl ?_);refine box_event ?hg (N:=4) ?hd (cs := #[.int .i64 0,.string (⟨#[]⟩:ByteArray),.string (⟨#[]⟩:ByteArray),.slice none 0 0,.bool false]) (t:=46) ?hr ?_;(case hd=>rfl);(case hg=>rfl);(case hr=>first | (go_simp;done) | (go_simp;rfl));intro gb101 hg w26 hbox hb;have n0_:=Aside0.mk (below_step (by repeat (first | (with_reducible first|exact HB.out|apply below_alloc|apply pw_below_drewN|apply below_drew1)|exact HB.out)) hb);have n1_:=Aside0.mk (hbox);have n2_:=Aside0.mk ((by rw [hg];exact (below_size (by repeat (first | (with_reducible first|exact HB.out|apply below_alloc|apply pw_below_drewN|apply below_drew1)|exact HB.out))):w.heap.size≤gb101));have n3_:=Aside0.mk ((by rw [hg];exact (below_size (by repeat (first | (with_reducible first|exact HB.out|apply below_alloc|apply pw_below_drewN|apply below_drew1)|exact HB.out))):w.heap.size≤gb101));clear HB;have HB:=n0_;have BK101:=n1_;have GW101:=n2_;have GE101:=n3_;clear n0_ n1_ n2_ n3_;clear hb hbox hg) | ((with_reducible refine gate_callee (f:=88) rfl ?_);refine goesL_ (some 10) rfl rfl Tryz.func88 (by kernel_rfl) rfl #[.string a0,.int .i64 a1] rfl (by (try simp only [List.map_toArray,List.map_cons,List.map_nil]);first|done|rfl | (simp only [List.length_drop,List.length_take];rfl)) ?_;(with_reducible refine (tok_inside.calls a0 a1 t102 _ A3.out).mono ?_);rintro e w27 ⟨rfl,hb⟩;refine ⟨_,rfl,?_⟩;have n0_:=Aside0.mk (blk_below (g:=gb101) (o:=.cells #[.int .i64 0,.string (⟨#[]⟩:ByteArray),.string (⟨#[]⟩:ByteArray),.slice none 0 0,.bool false] 46 (0,0)) (by (with_reducible repeat (first|refine blk_drewN ?_ _|refine blk_drew ?_|refine blk_alloc ?_ _));exact BK101.out) hb);have n1_:=Aside0.mk (below_step (by repeat (first | (with_reducible first|exact HB.out|apply below_alloc|apply pw_below_drewN|apply below_drew1|refine below_set ?_ GE101.out)|exact HB.out)) hb);clear BK101;clear HB;have BK101:=n0_;have HB:=n1_;clear n0_ n1_;(try clear hb);(try clear hb2);(try clear hk);(try clear hi)) | ((with_reducible refine gate_callee (f:=89) rfl ?_);refine goesL_ (some 14) rfl rfl Tryz.func89 (by kernel_rfl) rfl #[.string a0,.int .i64 t102] rfl (by (try simp only [List.map_toArray,List.map_cons,List.map_nil]);first|done|rfl | (simp only [List.length_drop,List.length_take];rfl)) ?_;(with_reducible refine (tag_Begins.calls a0 t102 false _ A4.out).mono ?_);rintro e w28 ⟨rfl,hb⟩;refine ⟨_,rfl,?_⟩;have n0_:=Aside0.mk (blk_below (g:=gb101) (o:=.cells #[.int .i64 0,.string (⟨#[]⟩:ByteArray),.string (⟨#[]⟩:ByteArray),.slice none 0 0,.bool false] 46 (0,0)) (by (with_reducible repeat (first|refine blk_drewN ?_ _|refine blk_drew ?_|refine blk_alloc ?_ _));exact BK101.out) hb);have n1_:=Aside0.mk (below_step (by repeat (first | (with_reducible first|exact HB.out|apply below_alloc|apply pw_below_drewN|apply below_drew1|refine below_set ?_ GE101.out)|exact HB.out)) hb);clear BK101;clear HB;have BK101:=n0_;have HB:=n1_;clear n0_ n1_;(try clear hb);(try clear hb2);(try clear hk);(try clear hi)) | ((with_reducible refine gate_callee (f:=91) rfl ?_);refine goesL_ (some 24) rfl rfl Tryz.func91 (by kernel_rfl) rfl #[.string a0,.int .i64 t102] rfl (by (try simp only [List.map_toArray,List.map_cons,List.map_nil]);first|done|rfl | (simp only [List.length_drop,List.length_take];rfl)) ?_;(with_reducible refine (comment_Begins.calls a0 t102 false _ A13.out).mono ?_);rintro e w29 ⟨rfl,hb⟩;refine ⟨_,rfl,?_⟩;have n0_:=Aside0.mk (blk_below (g:=gb101) (o:=.cells #[.int .i64 0,.string (⟨#[]⟩:ByteArray),.string (⟨#[]⟩:ByteArray),.slice none 0 0,.bool false] 46 (0,0)) (by (with_reducible repeat (first|refine blk_drewN ?_ _|refine blk_drew ?_|refine blk_alloc ?_ _));exact BK101.out) hb);have n1_:=Aside0.mk (below_step (by repeat (first | (with_reducible first|exact HB.out|apply below_alloc|apply pw_below_drewN|apply below_drew1|refine below_set ?_ GE101.out)|exact HB.out)) hb);clear BK101;clear HB;have BK101:=n0_;have HB:=n1_;clear n0_ n1_;(try clear hb);(try clear hb2);(try clear hk);(try clear hi)) | ((with_reducible refine gate_callee (f:=93) rfl ?_);refine goesL_ (some 34) rfl rfl Tryz.func93 (by kernel_rfl) rfl #[.string a0,.int .i64 t102] rfl (by (try simp only [List.map_toArray,List.map_cons,List.map_nil]);first|done|rfl | (simp only [List.length_drop,List.length_take];rfl)) ?_;(with_reducible refine (doctype_Begins.calls a0 t102 true _ A23.out).mono ?_);rintro e w30 ⟨rfl,hb⟩;refine ⟨_,rfl,?_⟩;have n0_:=Aside0.mk (blk_below (g:=gb101) (o:=.cells #[.int .i64 0,.string (⟨#[]⟩:ByteArray),.string (⟨#[]⟩:ByteArray),.slice none 0 0,.bool false] 46 (0,0)) (by (with_reducible repeat (first|refine blk_drewN ?_ _|refine blk_drew ?_|refine blk_alloc ?_ _));exact BK101.out) hb);have n1_:=Aside0.mk (below_step (by repeat (first | (with_reducible first|exact HB.out|apply below_alloc|apply pw_below_drewN|apply below_drew1|refine below_set ?_ GE101.out)|exact HB.out)) hb);clear BK101;clear HB;have BK101:=n0_;have HB:=n1_;clear n0_ n1_;(try clear hb);(try clear hb2);(try clear hk);(try clear hi)) | ((with_reducible refine gate_callee (f:=94) rfl ?_);refine goesL_ (some 37) rfl rfl Tryz.func94 (by kernel_rfl) rfl #[.string a0,.int .i64 t102] rfl (by (try simp only [List.map_toArray,List.map_cons,List.map_nil]);first|done|rfl | (simp only [List.length_drop,List.length_take];rfl)) ?_;(with_reducible refine (doctype_Read.calls a0 t102 t124 t125 t126 t127 t130 t131 t132 _ ?side1 A25.out).mono ?_);(case side1=>exact Glob.step hGl (by repeat (first | (with_reducible first|exact HB.out|apply below_alloc|apply pw_below_drewN|apply below_drew1|refine below_set ?_ GE101.out)|exact HB.out)));rintro e w31 ⟨v128,rfl,ho0,hb⟩;refine ⟨_,rfl,?_⟩;have n0_:=Aside0.mk (Kd.R_lower ho0 (below_size (by repeat (first | (with_reducible first|exact HB.out|apply below_alloc|apply pw_below_drewN|apply below_drew1|refine below_set ?_ GE101.out)|exact HB.out))));have n1_:=Aside0.mk (blk_below (g:=gb101) (o:=.cells #[.int .i64 0,.string (⟨#[]⟩:ByteArray),.string (⟨#[]⟩:ByteArray),.slice none 0 0,.bool false] 46 (0,0)) (by (with_reducible repeat (first|refine blk_drewN ?_ _|refine blk_drew ?_|refine blk_alloc ?_ _));exact BK101.out) hb);have n2_:=Aside0.mk (below_step (by repeat (first | (with_reducible first|exact HB.out|apply below_alloc|apply pw_below_drewN|apply below_drew1|refine below_set ?_ GE101.out)|exact HB.out)) hb);clear BK101;clear HB;have HO129:=n0_;have BK101:=n1_;have HB:=n2_;clear n0_ n1_ n2_;(try clear hb);(try clear hb2);(try clear hk);(try clear hi);(try clear ho0);have hcz32_0:w31.cell? ⟨gb101,0,none⟩=some (.int .i64 0):=(blk_cell BK101.out 0).trans rfl;have hcz32_1:w31.cell? ⟨gb101,1,none⟩=some (.string (⟨#[]⟩:ByteArray)):=(blk_cell BK101.out 1).trans rfl;have hcz32_2:w31.cell? ⟨gb101,2,none⟩=some (.string (⟨#[]⟩:ByteArray)):=(blk_cell BK101.out 2).trans rfl;have hcz32_3:w31.cell? ⟨gb101,3,none⟩=some (.slice none 0 0):=(blk_cell BK101.out 3).trans rfl;have hcz32_4:w31.cell? ⟨gb101,4,none⟩=some (.bool false):=(blk_cell BK101.out 4).trans rfl;have hfz32_0:=blk_frozen BK101.out 0;have hfz32_1:=blk_frozen BK101.out 1;have hfz32_2:=blk_frozen BK101.out 2;have hfz32_3:=blk_frozen BK101.out 3;have hfz32_4:=blk_frozen BK101.out 4;obtain ⟨Ao33,co33,eo33⟩:=Kd.R_slice HO129.out;subst eo33))
       refine bodyPost_ret (results_ctt rfl _ _ gb101 46 #[.int .i64 t124,.string t125,.string t126,.slice Ao33 t127.length co33,.bool t130] (0,0) _ rfl (by (with_reducible repeat (first|refine blk_drewN ?_ _|refine blk_drew ?_|refine blk_alloc ?_ _));refine blk_put (cs := #[.int .i64 t124,.string t125,.string t126,.slice Ao33 t127.length co33,.bool false]) ?_ 4 _ rfl;(with_reducible repeat (first|refine blk_drewN ?_ _|refine blk_drew ?_|refine blk_alloc ?_ _));refine blk_put (cs := #[.int .i64 t124,.string t125,.string t126,.slice none 0 0,.bool false]) ?_ 3 _ rfl;(with_reducible repeat (first|refine blk_drewN ?_ _|refine blk_drew ?_|refine blk_alloc ?_ _));refine blk_put (cs := #[.int .i64 t124,.string t125,.string (⟨#[]⟩:ByteArray),.slice none 0 0,.bool false]) ?_ 2 _ rfl;(with_reducible repeat (first|refine blk_drewN ?_ _|refine blk_drew ?_|refine blk_alloc ?_ _));refine blk_put (cs := #[.int .i64 t124,.string (⟨#[]⟩:ByteArray),.string (⟨#[]⟩:ByteArray),.slice none 0 0,.bool false]) ?_ 1 _ rfl;(with_reducible repeat (first|refine blk_drewN ?_ _|refine blk_drew ?_|refine blk_alloc ?_ _));refine blk_put (cs := #[.int .i64 0,.string (⟨#[]⟩:ByteArray),.string (⟨#[]⟩:ByteArray),.slice none 0 0,.bool false]) ?_ 0 _ rfl;(with_reducible repeat (first|refine blk_drewN ?_ _|refine blk_drew ?_|refine blk_alloc ?_ _));exact BK101.out) Tryz.underlying46 rfl (by kernel_rfl)) rfl ?_
       exact ⟨_,by first|rfl | (simp [errW_none,errW_some]<;>rfl) | (simp [*,errW_none,errW_some]<;>rfl),by (with_reducible repeat (first|apply Kd.R_alloc|apply Kd.R_drewN|apply Kd.R_drew));exact Kd.R_mono (Kd.R_far (p:=⟨gb101,4,none⟩) (Kd.R_far (p:=⟨gb101,3,none⟩) (Kd.R_far (p:=⟨gb101,2,none⟩) (Kd.R_far (p:=⟨gb101,1,none⟩) (Kd.R_far (p:=⟨gb101,0,none⟩) (Kd.R_types HO129.out BK101.out (by decide)) (fun _ hk=>hk.2) (.int .i64 t124)) (fun _ hk=>hk.2) (.string t125)) (fun _ hk=>hk.2) (.string t126)) (fun _ hk=>hk.2) (.slice Ao33 t127.length co33)) (fun _ hk=>hk.2) (.bool t130)) (fun _ hk=>trivial),by repeat (first | (with_reducible first|exact HB.out|apply below_alloc|apply pw_below_drewN|apply below_drew1|refine below_set ?_ GE101.out)|exact HB.out)⟩
     · replace c24:=Bool.eq_false_iff.mpr c24
       subst c24
       have H1:((sign_Begins.f a0 t102 (⟨#[60,47,62]⟩:ByteArray)).bind fun t133=>(if t133=true then (some (0,(⟨#[]⟩:ByteArray),(⟨#[]⟩:ByteArray),([]:List (S87)),false,wrap64 (t102+3),false)) else ((text_Read.f a0 t102).bind fun bt134=>(if bt134.2=t102 then (some (0,(⟨#[]⟩:ByteArray),(⟨#[]⟩:ByteArray),([]:List (S87)),false,t102,false)) else (some (0,(⟨#[]⟩:ByteArray),bt134.1,([]:List (S87)),false,bt134.2,true))))))=some (r1,r2,r3,r4,r5,r6,r7):=by rw [if_neg (show ¬ (false=true) by decide)] at H;exact H
       clear H
       have H:=H1
       clear H1
       replace H:=Option.bind_eq_some_iff.mp H
       obtain ⟨t133,A340,H⟩:=H
       replace H:(if t133=true then (some (0,(⟨#[]⟩:ByteArray),(⟨#[]⟩:ByteArray),([]:List (S87)),false,wrap64 (t102+3),false)) else ((text_Read.f a0 t102).bind fun bt134=>(if bt134.2=t102 then (some (0,(⟨#[]⟩:ByteArray),(⟨#[]⟩:ByteArray),([]:List (S87)),false,t102,false)) else (some (0,(⟨#[]⟩:ByteArray),bt134.1,([]:List (S87)),false,bt134.2,true)))))=some (r1,r2,r3,r4,r5,r6,r7):=H
       have A34:=Aside0.mk A340
       clear A340
       by_cases c35:t133=true
       · subst c35
         have H1:(some (0,(⟨#[]⟩:ByteArray),(⟨#[]⟩:ByteArray),([]:List (S87)),false,wrap64 (t102+3),false))=some (r1,r2,r3,r4,r5,r6,r7):=by rw [if_pos rfl] at H;exact H
         clear H
         have H:=H1
         clear H1
         simp only [Option.some.injEq,Prod.mk.injEq] at H
         obtain ⟨rfl,rfl,rfl,rfl,rfl,rfl,rfl⟩:=H
         go_enter Tryz.func61,Tryz.ntmps61
         go_wp2_with (first | ((with_reducible refine gate_dst (N:=4) rfl ?_);refine box_event ?hg (N:=4) ?hd (cs := #[.int .i64 0,.string (⟨#[]⟩:ByteArray),.string (⟨#[]⟩:ByteArray),.slice none 0 0,.bool false]) (t:=46) ?hr ?_;(case hd=>rfl);(case hg=>rfl);(case hr=>first | (go_simp;done) | (go_simp;rfl));intro gb101 hg w36 hbox hb;have n0_:=Aside0.mk (below_step (by repeat (first | (with_reducible first|exact HB.out|apply below_alloc|apply pw_below_drewN|apply below_drew1)|exact HB.out)) hb);have n1_:=Aside0.mk (hbox);have n2_:=Aside0.mk ((by rw [hg];exact (below_size (by repeat (first | (with_reducible first|exact HB.out|apply below_alloc|apply pw_below_drewN|apply below_drew1)|exact HB.out))):w.heap.size≤gb101));have n3_:=Aside0.mk ((by rw [hg];exact (below_size (by repeat (first | (with_reducible first|exact HB.out|apply below_alloc|apply pw_below_drewN|apply below_drew1)|exact HB.out))):w.heap.size≤gb101));clear HB;have HB:=n0_;have BK101:=n1_;have GW101:=n2_;have GE101:=n3_;clear n0_ n1_ n2_ n3_;clear hb hbox hg) | ((with_reducible refine gate_callee (f:=88) rfl ?_);refine goesL_ (some 10) rfl rfl Tryz.func88 (by kernel_rfl) rfl #[.string a0,.int .i64 a1] rfl (by (try simp only [List.map_toArray,List.map_cons,List.map_nil]);first|done|rfl | (simp only [List.length_drop,List.length_take];rfl)) ?_;(with_reducible refine (tok_inside.calls a0 a1 t102 _ A3.out).mono ?_);rintro e w37 ⟨rfl,hb⟩;refine ⟨_,rfl,?_⟩;have n0_:=Aside0.mk (blk_below (g:=gb101) (o:=.cells #[.int .i64 0,.string (⟨#[]⟩:ByteArray),.string (⟨#[]⟩:ByteArray),.slice none 0 0,.bool false] 46 (0,0)) (by (with_reducible repeat (first|refine blk_drewN ?_ _|refine blk_drew ?_|refine blk_alloc ?_ _));exact BK101.out) hb);have n1_:=Aside0.mk (below_step (by repeat (first | (with_reducible first|exact HB.out|apply below_alloc|apply pw_below_drewN|apply below_drew1|refine below_set ?_ GE101.out)|exact HB.out)) hb);clear BK101;clear HB;have BK101:=n0_;have HB:=n1_;clear n0_ n1_;(try clear hb);(try clear hb2);(try clear hk);(try clear hi)) | ((with_reducible refine gate_callee (f:=89) rfl ?_);refine goesL_ (some 14) rfl rfl Tryz.func89 (by kernel_rfl) rfl #[.string a0,.int .i64 t102] rfl (by (try simp only [List.map_toArray,List.map_cons,List.map_nil]);first|done|rfl | (simp only [List.length_drop,List.length_take];rfl)) ?_;(with_reducible refine (tag_Begins.calls a0 t102 false _ A4.out).mono ?_);rintro e w38 ⟨rfl,hb⟩;refine ⟨_,rfl,?_⟩;have n0_:=Aside0.mk (blk_below (g:=gb101) (o:=.cells #[.int .i64 0,.string (⟨#[]⟩:ByteArray),.string (⟨#[]⟩:ByteArray),.slice none 0 0,.bool false] 46 (0,0)) (by (with_reducible repeat (first|refine blk_drewN ?_ _|refine blk_drew ?_|refine blk_alloc ?_ _));exact BK101.out) hb);have n1_:=Aside0.mk (below_step (by repeat (first | (with_reducible first|exact HB.out|apply below_alloc|apply pw_below_drewN|apply below_drew1|refine below_set ?_ GE101.out)|exact HB.out)) hb);clear BK101;clear HB;have BK101:=n0_;have HB:=n1_;clear n0_ n1_;(try clear hb);(try clear hb2);(try clear hk);(try clear hi)) | ((with_reducible refine gate_callee (f:=91) rfl ?_);refine goesL_ (some 24) rfl rfl Tryz.func91 (by kernel_rfl) rfl #[.string a0,.int .i64 t102] rfl (by (try simp only [List.map_toArray,List.map_cons,List.map_nil]);first|done|rfl | (simp only [List.length_drop,List.length_take];rfl)) ?_;(with_reducible refine (comment_Begins.calls a0 t102 false _ A13.out).mono ?_);rintro e w39 ⟨rfl,hb⟩;refine ⟨_,rfl,?_⟩;have n0_:=Aside0.mk (blk_below (g:=gb101) (o:=.cells #[.int .i64 0,.string (⟨#[]⟩:ByteArray),.string (⟨#[]⟩:ByteArray),.slice none 0 0,.bool false] 46 (0,0)) (by (with_reducible repeat (first|refine blk_drewN ?_ _|refine blk_drew ?_|refine blk_alloc ?_ _));exact BK101.out) hb);have n1_:=Aside0.mk (below_step (by repeat (first | (with_reducible first|exact HB.out|apply below_alloc|apply pw_below_drewN|apply below_drew1|refine below_set ?_ GE101.out)|exact HB.out)) hb);clear BK101;clear HB;have BK101:=n0_;have HB:=n1_;clear n0_ n1_;(try clear hb);(try clear hb2);(try clear hk);(try clear hi)) | ((with_reducible refine gate_callee (f:=93) rfl ?_);refine goesL_ (some 34) rfl rfl Tryz.func93 (by kernel_rfl) rfl #[.string a0,.int .i64 t102] rfl (by (try simp only [List.map_toArray,List.map_cons,List.map_nil]);first|done|rfl | (simp only [List.length_drop,List.length_take];rfl)) ?_;(with_reducible refine (doctype_Begins.calls a0 t102 false _ A23.out).mono ?_);rintro e w40 ⟨rfl,hb⟩;refine ⟨_,rfl,?_⟩;have n0_:=Aside0.mk (blk_below (g:=gb101) (o:=.cells #[.int .i64 0,.string (⟨#[]⟩:ByteArray),.string (⟨#[]⟩:ByteArray),.slice none 0 0,.bool false] 46 (0,0)) (by (with_reducible repeat (first|refine blk_drewN ?_ _|refine blk_drew ?_|refine blk_alloc ?_ _));exact BK101.out) hb);have n1_:=Aside0.mk (below_step (by repeat (first | (with_reducible first|exact HB.out|apply below_alloc|apply pw_below_drewN|apply below_drew1|refine below_set ?_ GE101.out)|exact HB.out)) hb);clear BK101;clear HB;have BK101:=n0_;have HB:=n1_;clear n0_ n1_;(try clear hb);(try clear hb2);(try clear hk);(try clear hi)) | ((with_reducible refine gate_callee (f:=95) rfl ?_);refine goesL_ (some 44) rfl rfl Tryz.func95 (by kernel_rfl) rfl #[.string a0,.int .i64 t102,.string (⟨#[60,47,62]⟩:ByteArray)] rfl (by (try simp only [List.map_toArray,List.map_cons,List.map_nil]);first|done|rfl | (simp only [List.length_drop,List.length_take];rfl)) ?_;(with_reducible refine (sign_Begins.calls a0 t102 (⟨#[60,47,62]⟩:ByteArray) true _ A34.out).mono ?_);rintro e w41 ⟨rfl,hb⟩;refine ⟨_,rfl,?_⟩;have n0_:=Aside0.mk (blk_below (g:=gb101) (o:=.cells #[.int .i64 0,.string (⟨#[]⟩:ByteArray),.string (⟨#[]⟩:ByteArray),.slice none 0 0,.bool false] 46 (0,0)) (by (with_reducible repeat (first|refine blk_drewN ?_ _|refine blk_drew ?_|refine blk_alloc ?_ _));exact BK101.out) hb);have n1_:=Aside0.mk (below_step (by repeat (first | (with_reducible first|exact HB.out|apply below_alloc|apply pw_below_drewN|apply below_drew1|refine below_set ?_ GE101.out)|exact HB.out)) hb);clear BK101;clear HB;have BK101:=n0_;have HB:=n1_;clear n0_ n1_;(try clear hb);(try clear hb2);(try clear hk);(try clear hi);have hcz42_0:w41.cell? ⟨gb101,0,none⟩=some (.int .i64 0):=(blk_cell BK101.out 0).trans rfl;have hcz42_1:w41.cell? ⟨gb101,1,none⟩=some (.string (⟨#[]⟩:ByteArray)):=(blk_cell BK101.out 1).trans rfl;have hcz42_2:w41.cell? ⟨gb101,2,none⟩=some (.string (⟨#[]⟩:ByteArray)):=(blk_cell BK101.out 2).trans rfl;have hcz42_3:w41.cell? ⟨gb101,3,none⟩=some (.slice none 0 0):=(blk_cell BK101.out 3).trans rfl;have hcz42_4:w41.cell? ⟨gb101,4,none⟩=some (.bool false):=(blk_cell BK101.out 4).trans rfl;have hfz42_0:=blk_frozen BK101.out 0;have hfz42_1:=blk_frozen BK101.out 1;have hfz42_2:=blk_frozen BK101.out 2;have hfz42_3:=blk_frozen BK101.out 3;have hfz42_4:=blk_frozen BK101.out 4))
         refine bodyPost_ret (results_ctt rfl _ _ gb101 46 #[.int .i64 0,.string (⟨#[]⟩:ByteArray),.string (⟨#[]⟩:ByteArray),.slice none 0 0,.bool false] (0,0) _ rfl (by (with_reducible repeat (first|refine blk_drewN ?_ _|refine blk_drew ?_|refine blk_alloc ?_ _));refine blk_put (cs := #[.int .i64 0,.string (⟨#[]⟩:ByteArray),.string (⟨#[]⟩:ByteArray),.slice none 0 0,.bool false]) ?_ 4 _ rfl;(with_reducible repeat (first|refine blk_drewN ?_ _|refine blk_drew ?_|refine blk_alloc ?_ _));refine blk_put (cs := #[.int .i64 0,.string (⟨#[]⟩:ByteArray),.string (⟨#[]⟩:ByteArray),.slice none 0 0,.bool false]) ?_ 3 _ rfl;(with_reducible repeat (first|refine blk_drewN ?_ _|refine blk_drew ?_|refine blk_alloc ?_ _));refine blk_put (cs := #[.int .i64 0,.string (⟨#[]⟩:ByteArray),.string (⟨#[]⟩:ByteArray),.slice none 0 0,.bool false]) ?_ 2 _ rfl;(with_reducible repeat (first|refine blk_drewN ?_ _|refine blk_drew ?_|refine blk_alloc ?_ _));refine blk_put (cs := #[.int .i64 0,.string (⟨#[]⟩:ByteArray),.string (⟨#[]⟩:ByteArray),.slice none 0 0,.bool false]) ?_ 1 _ rfl;(with_reducible repeat (first|refine blk_drewN ?_ _|refine blk_drew ?_|refine blk_alloc ?_ _));refine blk_put (cs := #[.int .i64 0,.string (⟨#[]⟩:ByteArray),.string (⟨#[]⟩:ByteArray),.slice none 0 0,.bool false]) ?_ 0 _ rfl;(with_reducible repeat (first|refine blk_drewN ?_ _|refine blk_drew ?_|refine blk_alloc ?_ _));exact BK101.out) Tryz.underlying46 rfl (by kernel_rfl)) rfl ?_
         exact ⟨_,by first|rfl | (simp [errW_none,errW_some]<;>rfl) | (simp [*,errW_none,errW_some]<;>rfl),by first|exact Kd.R_nil _ _ _ _ _|exact Kd.N_nil _ _ _ _ _|exact Kd.V_nil _ _ _ _ _|exact Kd.Q_nil _ _ _ _ _|exact Kd.S_nil _ _ _ _ _,by repeat (first | (with_reducible first|exact HB.out|apply below_alloc|apply pw_below_drewN|apply below_drew1|refine below_set ?_ GE101.out)|exact HB.out)⟩
       · replace c35:=Bool.eq_false_iff.mpr c35
         subst c35
         have H1:((text_Read.f a0 t102).bind fun bt134=>(if bt134.2=t102 then (some (0,(⟨#[]⟩:ByteArray),(⟨#[]⟩:ByteArray),([]:List (S87)),false,t102,false)) else (some (0,(⟨#[]⟩:ByteArray),bt134.1,([]:List (S87)),false,bt134.2,true))))=some (r1,r2,r3,r4,r5,r6,r7):=by rw [if_neg (show ¬ (false=true) by decide)] at H;exact H
         clear H
         have H:=H1
         clear H1
         replace H:=Option.bind_eq_some_iff.mp H
         obtain ⟨⟨t134,t135⟩,A430,H⟩:=H
         replace H:(if t135=t102 then (some (0,(⟨#[]⟩:ByteArray),(⟨#[]⟩:ByteArray),([]:List (S87)),false,t102,false)) else (some (0,(⟨#[]⟩:ByteArray),t134,([]:List (S87)),false,t135,true)))=some (r1,r2,r3,r4,r5,r6,r7):=H
         have A43:=Aside0.mk A430
         clear A430
         by_cases c44:t135=t102
         · rw [if_pos c44] at H
           have c44b0:(t135 == t102)=true:=beq_iff_eq.mpr c44
           have c44b1:(t135 != t102)=false:=bne_eq_false_iff_eq.mpr c44
           clear c44
           simp only [Option.some.injEq,Prod.mk.injEq] at H
           obtain ⟨rfl,rfl,rfl,rfl,rfl,rfl,rfl⟩:=H
           go_enter Tryz.func61,Tryz.ntmps61
           go_wp2_with (first | ((with_reducible refine gate_dst (N:=4) rfl ?_);refine box_event ?hg (N:=4) ?hd (cs := #[.int .i64 0,.string (⟨#[]⟩:ByteArray),.string (⟨#[]⟩:ByteArray),.slice none 0 0,.bool false]) (t:=46) ?hr ?_;(case hd=>rfl);(case hg=>rfl);(case hr=>first | (go_simp;done) | (go_simp;rfl));intro gb101 hg w45 hbox hb;have n0_:=Aside0.mk (below_step (by repeat (first | (with_reducible first|exact HB.out|apply below_alloc|apply pw_below_drewN|apply below_drew1)|exact HB.out)) hb);have n1_:=Aside0.mk (hbox);have n2_:=Aside0.mk ((by rw [hg];exact (below_size (by repeat (first | (with_reducible first|exact HB.out|apply below_alloc|apply pw_below_drewN|apply below_drew1)|exact HB.out))):w.heap.size≤gb101));have n3_:=Aside0.mk ((by rw [hg];exact (below_size (by repeat (first | (with_reducible first|exact HB.out|apply below_alloc|apply pw_below_drewN|apply below_drew1)|exact HB.out))):w.heap.size≤gb101));clear HB;have HB:=n0_;have BK101:=n1_;have GW101:=n2_;have GE101:=n3_;clear n0_ n1_ n2_ n3_;clear hb hbox hg) | ((with_reducible refine gate_callee (f:=88) rfl ?_);refine goesL_ (some 10) rfl rfl Tryz.func88 (by kernel_rfl) rfl #[.string a0,.int .i64 a1] rfl (by (try simp only [List.map_toArray,List.map_cons,List.map_nil]);first|done|rfl | (simp only [List.length_drop,List.length_take];rfl)) ?_;(with_reducible refine (tok_inside.calls a0 a1 t102 _ A3.out).mono ?_);rintro e w46 ⟨rfl,hb⟩;refine ⟨_,rfl,?_⟩;have n0_:=Aside0.mk (blk_below (g:=gb101) (o:=.cells #[.int .i64 0,.string (⟨#[]⟩:ByteArray),.string (⟨#[]⟩:ByteArray),.slice none 0 0,.bool false] 46 (0,0)) (by (with_reducible repeat (first|refine blk_drewN ?_ _|refine blk_drew ?_|refine blk_alloc ?_ _));exact BK101.out) hb);have n1_:=Aside0.mk (below_step (by repeat (first | (with_reducible first|exact HB.out|apply below_alloc|apply pw_below_drewN|apply below_drew1|refine below_set ?_ GE101.out)|exact HB.out)) hb);clear BK101;clear HB;have BK101:=n0_;have HB:=n1_;clear n0_ n1_;(try clear hb);(try clear hb2);(try clear hk);(try clear hi)) | ((with_reducible refine gate_callee (f:=89) rfl ?_);refine goesL_ (some 14) rfl rfl Tryz.func89 (by kernel_rfl) rfl #[.string a0,.int .i64 t102] rfl (by (try simp only [List.map_toArray,List.map_cons,List.map_nil]);first|done|rfl | (simp only [List.length_drop,List.length_take];rfl)) ?_;(with_reducible refine (tag_Begins.calls a0 t102 false _ A4.out).mono ?_);rintro e w47 ⟨rfl,hb⟩;refine ⟨_,rfl,?_⟩;have n0_:=Aside0.mk (blk_below (g:=gb101) (o:=.cells #[.int .i64 0,.string (⟨#[]⟩:ByteArray),.string (⟨#[]⟩:ByteArray),.slice none 0 0,.bool false] 46 (0,0)) (by (with_reducible repeat (first|refine blk_drewN ?_ _|refine blk_drew ?_|refine blk_alloc ?_ _));exact BK101.out) hb);have n1_:=Aside0.mk (below_step (by repeat (first | (with_reducible first|exact HB.out|apply below_alloc|apply pw_below_drewN|apply below_drew1|refine below_set ?_ GE101.out)|exact HB.out)) hb);clear BK101;clear HB;have BK101:=n0_;have HB:=n1_;clear n0_ n1_;(try clear hb);(try clear hb2);(try clear hk);(try clear hi)) | ((with_reducible refine gate_callee (f:=91) rfl ?_);refine goesL_ (some 24) rfl rfl Tryz.func91 (by kernel_rfl) rfl #[.string a0,.int .i64 t102] rfl (by (try simp only [List.map_toArray,List.map_cons,List.map_nil]);first|done|rfl | (simp only [List.length_drop,List.length_take];rfl)) ?_;(with_reducible refine (comment_Begins.calls a0 t102 false _ A13.out).mono ?_);rintro e w48 ⟨rfl,hb⟩;refine ⟨_,rfl,?_⟩;have n0_:=Aside0.mk (blk_below (g:=gb101) (o:=.cells #[.int .i64 0,.string (⟨#[]⟩:ByteArray),.string (⟨#[]⟩:ByteArray),.slice none 0 0,.bool false] 46 (0,0)) (by (with_reducible repeat (first|refine blk_drewN ?_ _|refine blk_drew ?_|refine blk_alloc ?_ _));exact BK101.out) hb);have n1_:=Aside0.mk (below_step (by repeat (first | (with_reducible first|exact HB.out|apply below_alloc|apply pw_below_drewN|apply below_drew1|refine below_set ?_ GE101.out)|exact HB.out)) hb);clear BK101;clear HB;have BK101:=n0_;have HB:=n1_;clear n0_ n1_;(try clear hb);(try clear hb2);(try clear hk);(try clear hi)) | ((with_reducible refine gate_callee (f:=93) rfl ?_);refine goesL_ (some 34) rfl rfl Tryz.func93 (by kernel_rfl) rfl #[.string a0,.int .i64 t102] rfl (by (try simp only [List.map_toArray,List.map_cons,List.map_nil]);first|done|rfl | (simp only [List.length_drop,List.length_take];rfl)) ?_;(with_reducible refine (doctype_Begins.calls a0 t102 false _ A23.out).mono ?_);rintro e w49 ⟨rfl,hb⟩;refine ⟨_,rfl,?_⟩;have n0_:=Aside0.mk (blk_below (g:=gb101) (o:=.cells #[.int .i64 0,.string (⟨#[]⟩:ByteArray),.string (⟨#[]⟩:ByteArray),.slice none 0 0,.bool false] 46 (0,0)) (by (with_reducible repeat (first|refine blk_drewN ?_ _|refine blk_drew ?_|refine blk_alloc ?_ _));exact BK101.out) hb);have n1_:=Aside0.mk (below_step (by repeat (first | (with_reducible first|exact HB.out|apply below_alloc|apply pw_below_drewN|apply below_drew1|refine below_set ?_ GE101.out)|exact HB.out)) hb);clear BK101;clear HB;have BK101:=n0_;have HB:=n1_;clear n0_ n1_;(try clear hb);(try clear hb2);(try clear hk);(try clear hi)) | ((with_reducible refine gate_callee (f:=95) rfl ?_);refine goesL_ (some 44) rfl rfl Tryz.func95 (by kernel_rfl) rfl #[.string a0,.int .i64 t102,.string (⟨#[60,47,62]⟩:ByteArray)] rfl (by (try simp only [List.map_toArray,List.map_cons,List.map_nil]);first|done|rfl | (simp only [List.length_drop,List.length_take];rfl)) ?_;(with_reducible refine (sign_Begins.calls a0 t102 (⟨#[60,47,62]⟩:ByteArray) false _ A34.out).mono ?_);rintro e w50 ⟨rfl,hb⟩;refine ⟨_,rfl,?_⟩;have n0_:=Aside0.mk (blk_below (g:=gb101) (o:=.cells #[.int .i64 0,.string (⟨#[]⟩:ByteArray),.string (⟨#[]⟩:ByteArray),.slice none 0 0,.bool false] 46 (0,0)) (by (with_reducible repeat (first|refine blk_drewN ?_ _|refine blk_drew ?_|refine blk_alloc ?_ _));exact BK101.out) hb);have n1_:=Aside0.mk (below_step (by repeat (first | (with_reducible first|exact HB.out|apply below_alloc|apply pw_below_drewN|apply below_drew1|refine below_set ?_ GE101.out)|exact HB.out)) hb);clear BK101;clear HB;have BK101:=n0_;have HB:=n1_;clear n0_ n1_;(try clear hb);(try clear hb2);(try clear hk);(try clear hi)) | ((with_reducible refine gate_callee (f:=96) rfl ?_);refine goesL_ (some 51) rfl rfl Tryz.func96 (by kernel_rfl) rfl #[.string a0,.int .i64 t102] rfl (by (try simp only [List.map_toArray,List.map_cons,List.map_nil]);first|done|rfl | (simp only [List.length_drop,List.length_take];rfl)) ?_;(with_reducible refine (text_Read.calls a0 t102 t134 t135 _ ?side1 A43.out).mono ?_);(case side1=>exact Glob.step hGl (by repeat (first | (with_reducible first|exact HB.out|apply below_alloc|apply pw_below_drewN|apply below_drew1|refine below_set ?_ GE101.out)|exact HB.out)));rintro e w51 ⟨rfl,hb⟩;refine ⟨_,rfl,?_⟩;have n0_:=Aside0.mk (blk_below (g:=gb101) (o:=.cells #[.int .i64 0,.string (⟨#[]⟩:ByteArray),.string (⟨#[]⟩:ByteArray),.slice none 0 0,.bool false] 46 (0,0)) (by (with_reducible repeat (first|refine blk_drewN ?_ _|refine blk_drew ?_|refine blk_alloc ?_ _));exact BK101.out) hb);have n1_:=Aside0.mk (below_step (by repeat (first | (with_reducible first|exact HB.out|apply below_alloc|apply pw_below_drewN|apply below_drew1|refine below_set ?_ GE101.out)|exact HB.out)) hb);clear BK101;clear HB;have BK101:=n0_;have HB:=n1_;clear n0_ n1_;(try clear hb);(try clear hb2);(try clear hk);(try clear hi);have hcz52_0:w51.cell? ⟨gb101,0,none⟩=some (.int .i64 0):=(blk_cell BK101.out 0).trans rfl;have hcz52_1:w51.cell? ⟨gb101,1,none⟩=some (.string (⟨#[]⟩:ByteArray)):=(blk_cell BK101.out 1).trans rfl;have hcz52_2:w51.cell? ⟨gb101,2,none⟩=some (.string (⟨#[]⟩:ByteArray)):=(blk_cell BK101.out 2).trans rfl;have hcz52_3:w51.cell? ⟨gb101,3,none⟩=some (.slice none 0 0):=(blk_cell BK101.out 3).trans rfl;have hcz52_4:w51.cell? ⟨gb101,4,none⟩=some (.bool false):=(blk_cell BK101.out 4).trans rfl;have hfz52_0:=blk_frozen BK101.out 0;have hfz52_1:=blk_frozen BK101.out 1;have hfz52_2:=blk_frozen BK101.out 2;have hfz52_3:=blk_frozen BK101.out 3;have hfz52_4:=blk_frozen BK101.out 4))
           refine bodyPost_ret (results_ctt rfl _ _ gb101 46 #[.int .i64 0,.string (⟨#[]⟩:ByteArray),.string (⟨#[]⟩:ByteArray),.slice none 0 0,.bool false] (0,0) _ rfl (by (with_reducible repeat (first|refine blk_drewN ?_ _|refine blk_drew ?_|refine blk_alloc ?_ _));refine blk_put (cs := #[.int .i64 0,.string (⟨#[]⟩:ByteArray),.string (⟨#[]⟩:ByteArray),.slice none 0 0,.bool false]) ?_ 4 _ rfl;(with_reducible repeat (first|refine blk_drewN ?_ _|refine blk_drew ?_|refine blk_alloc ?_ _));refine blk_put (cs := #[.int .i64 0,.string (⟨#[]⟩:ByteArray),.string (⟨#[]⟩:ByteArray),.slice none 0 0,.bool false]) ?_ 3 _ rfl;(with_reducible repeat (first|refine blk_drewN ?_ _|refine blk_drew ?_|refine blk_alloc ?_ _));refine blk_put (cs := #[.int .i64 0,.string (⟨#[]⟩:ByteArray),.string (⟨#[]⟩:ByteArray),.slice none 0 0,.bool false]) ?_ 2 _ rfl;(with_reducible repeat (first|refine blk_drewN ?_ _|refine blk_drew ?_|refine blk_alloc ?_ _));refine blk_put (cs := #[.int .i64 0,.string (⟨#[]⟩:ByteArray),.string (⟨#[]⟩:ByteArray),.slice none 0 0,.bool false]) ?_ 1 _ rfl;(with_reducible repeat (first|refine blk_drewN ?_ _|refine blk_drew ?_|refine blk_alloc ?_ _));refine blk_put (cs := #[.int .i64 0,.string (⟨#[]⟩:ByteArray),.string (⟨#[]⟩:ByteArray),.slice none 0 0,.bool false]) ?_ 0 _ rfl;(with_reducible repeat (first|refine blk_drewN ?_ _|refine blk_drew ?_|refine blk_alloc ?_ _));exact BK101.out) Tryz.underlying46 rfl (by kernel_rfl)) rfl ?_
           exact ⟨_,by first|rfl | (simp [errW_none,errW_some]<;>rfl) | (simp [*,errW_none,errW_some]<;>rfl),by first|exact Kd.R_nil _ _ _ _ _|exact Kd.N_nil _ _ _ _ _|exact Kd.V_nil _ _ _ _ _|exact Kd.Q_nil _ _ _ _ _|exact Kd.S_nil _ _ _ _ _,by repeat (first | (with_reducible first|exact HB.out|apply below_alloc|apply pw_below_drewN|apply below_drew1|refine below_set ?_ GE101.out)|exact HB.out)⟩
         · rw [if_neg c44] at H
           have c44b0:(t135 == t102)=false:=beq_eq_false_iff_ne.mpr c44
           have c44b1:(t135 != t102)=true:=bne_iff_ne.mpr c44
           simp only [Option.some.injEq,Prod.mk.injEq] at H
           obtain ⟨rfl,rfl,rfl,rfl,rfl,rfl,rfl⟩:=H
           go_enter Tryz.func61,Tryz.ntmps61
           go_wp2_with (first | ((with_reducible refine gate_dst (N:=4) rfl ?_);refine box_event ?hg (N:=4) ?hd (cs := #[.int .i64 0,.string (⟨#[]⟩:ByteArray),.string (⟨#[]⟩:ByteArray),.slice none 0 0,.bool false]) (t:=46) ?hr ?_;(case hd=>rfl);(case hg=>rfl);(case hr=>first | (go_simp;done) | (go_simp;rfl));intro gb101 hg w53 hbox hb;have n0_:=Aside0.mk (below_step (by repeat (first | (with_reducible first|exact HB.out|apply below_alloc|apply pw_below_drewN|apply below_drew1)|exact HB.out)) hb);have n1_:=Aside0.mk (hbox);have n2_:=Aside0.mk ((by rw [hg];exact (below_size (by repeat (first | (with_reducible first|exact HB.out|apply below_alloc|apply pw_below_drewN|apply below_drew1)|exact HB.out))):w.heap.size≤gb101));have n3_:=Aside0.mk ((by rw [hg];exact (below_size (by repeat (first | (with_reducible first|exact HB.out|apply below_alloc|apply pw_below_drewN|apply below_drew1)|exact HB.out))):w.heap.size≤gb101));clear HB;have HB:=n0_;have BK101:=n1_;have GW101:=n2_;have GE101:=n3_;clear n0_ n1_ n2_ n3_;clear hb hbox hg) | ((with_reducible refine gate_callee (f:=88) rfl ?_);refine goesL_ (some 10) rfl rfl Tryz.func88 (by kernel_rfl) rfl #[.string a0,.int .i64 a1] rfl (by (try simp only [List.map_toArray,List.map_cons,List.map_nil]);first|done|rfl | (simp only [List.length_drop,List.length_take];rfl)) ?_;(with_reducible refine (tok_inside.calls a0 a1 t102 _ A3.out).mono ?_);rintro e w54 ⟨rfl,hb⟩;refine ⟨_,rfl,?_⟩;have n0_:=Aside0.mk (blk_below (g:=gb101) (o:=.cells #[.int .i64 0,.string (⟨#[]⟩:ByteArray),.string (⟨#[]⟩:ByteArray),.slice none 0 0,.bool false] 46 (0,0)) (by (with_reducible repeat (first|refine blk_drewN ?_ _|refine blk_drew ?_|refine blk_alloc ?_ _));exact BK101.out) hb);have n1_:=Aside0.mk (below_step (by repeat (first | (with_reducible first|exact HB.out|apply below_alloc|apply pw_below_drewN|apply below_drew1|refine below_set ?_ GE101.out)|exact HB.out)) hb);clear BK101;clear HB;have BK101:=n0_;have HB:=n1_;clear n0_ n1_;(try clear hb);(try clear hb2);(try clear hk);(try clear hi)) | ((with_reducible refine gate_callee (f:=89) rfl ?_);refine goesL_ (some 14) rfl rfl Tryz.func89 (by kernel_rfl) rfl #[.string a0,.int .i64 t102] rfl (by (try simp only [List.map_toArray,List.map_cons,List.map_nil]);first|done|rfl | (simp only [List.length_drop,List.length_take];rfl)) ?_;(with_reducible refine (tag_Begins.calls a0 t102 false _ A4.out).mono ?_);rintro e w55 ⟨rfl,hb⟩;refine ⟨_,rfl,?_⟩;have n0_:=Aside0.mk (blk_below (g:=gb101) (o:=.cells #[.int .i64 0,.string (⟨#[]⟩:ByteArray),.string (⟨#[]⟩:ByteArray),.slice none 0 0,.bool false] 46 (0,0)) (by (with_reducible repeat (first|refine blk_drewN ?_ _|refine blk_drew ?_|refine blk_alloc ?_ _));exact BK101.out) hb);have n1_:=Aside0.mk (below_step (by repeat (first | (with_reducible first|exact HB.out|apply below_alloc|apply pw_below_drewN|apply below_drew1|refine below_set ?_ GE101.out)|exact HB.out)) hb);clear BK101;clear HB;have BK101:=n0_;have HB:=n1_;clear n0_ n1_;(try clear hb);(try clear hb2);(try clear hk);(try clear hi)) | ((with_reducible refine gate_callee (f:=91) rfl ?_);refine goesL_ (some 24) rfl rfl Tryz.func91 (by kernel_rfl) rfl #[.string a0,.int .i64 t102] rfl (by (try simp only [List.map_toArray,List.map_cons,List.map_nil]);first|done|rfl | (simp only [List.length_drop,List.length_take];rfl)) ?_;(with_reducible refine (comment_Begins.calls a0 t102 false _ A13.out).mono ?_);rintro e w56 ⟨rfl,hb⟩;refine ⟨_,rfl,?_⟩;have n0_:=Aside0.mk (blk_below (g:=gb101) (o:=.cells #[.int .i64 0,.string (⟨#[]⟩:ByteArray),.string (⟨#[]⟩:ByteArray),.slice none 0 0,.bool false] 46 (0,0)) (by (with_reducible repeat (first|refine blk_drewN ?_ _|refine blk_drew ?_|refine blk_alloc ?_ _));exact BK101.out) hb);have n1_:=Aside0.mk (below_step (by repeat (first | (with_reducible first|exact HB.out|apply below_alloc|apply pw_below_drewN|apply below_drew1|refine below_set ?_ GE101.out)|exact HB.out)) hb);clear BK101;clear HB;have BK101:=n0_;have HB:=n1_;clear n0_ n1_;(try clear hb);(try clear hb2);(try clear hk);(try clear hi)) | ((with_reducible refine gate_callee (f:=93) rfl ?_);refine goesL_ (some 34) rfl rfl Tryz.func93 (by kernel_rfl) rfl #[.string a0,.int .i64 t102] rfl (by (try simp only [List.map_toArray,List.map_cons,List.map_nil]);first|done|rfl | (simp only [List.length_drop,List.length_take];rfl)) ?_;(with_reducible refine (doctype_Begins.calls a0 t102 false _ A23.out).mono ?_);rintro e w57 ⟨rfl,hb⟩;refine ⟨_,rfl,?_⟩;have n0_:=Aside0.mk (blk_below (g:=gb101) (o:=.cells #[.int .i64 0,.string (⟨#[]⟩:ByteArray),.string (⟨#[]⟩:ByteArray),.slice none 0 0,.bool false] 46 (0,0)) (by (with_reducible repeat (first|refine blk_drewN ?_ _|refine blk_drew ?_|refine blk_alloc ?_ _));exact BK101.out) hb);have n1_:=Aside0.mk (below_step (by repeat (first | (with_reducible first|exact HB.out|apply below_alloc|apply pw_below_drewN|apply below_drew1|refine below_set ?_ GE101.out)|exact HB.out)) hb);clear BK101;clear HB;have BK101:=n0_;have HB:=n1_;clear n0_ n1_;(try clear hb);(try clear hb2);(try clear hk);(try clear hi)) | ((with_reducible refine gate_callee (f:=95) rfl ?_);refine goesL_ (some 44) rfl rfl Tryz.func95 (by kernel_rfl) rfl #[.string a0,.int .i64 t102,.string (⟨#[60,47,62]⟩:ByteArray)] rfl (by (try simp only [List.map_toArray,List.map_cons,List.map_nil]);first|done|rfl | (simp only [List.length_drop,List.length_take];rfl)) ?_;(with_reducible refine (sign_Begins.calls a0 t102 (⟨#[60,47,62]⟩:ByteArray) false _ A34.out).mono ?_);rintro e w58 ⟨rfl,hb⟩;refine ⟨_,rfl,?_⟩;have n0_:=Aside0.mk (blk_below (g:=gb101) (o:=.cells #[.int .i64 0,.string (⟨#[]⟩:ByteArray),.string (⟨#[]⟩:ByteArray),.slice none 0 0,.bool false] 46 (0,0)) (by (with_reducible repeat (first|refine blk_drewN ?_ _|refine blk_drew ?_|refine blk_alloc ?_ _));exact BK101.out) hb);have n1_:=Aside0.mk (below_step (by repeat (first | (with_reducible first|exact HB.out|apply below_alloc|apply pw_below_drewN|apply below_drew1|refine below_set ?_ GE101.out)|exact HB.out)) hb);clear BK101;clear HB;have BK101:=n0_;have HB:=n1_;clear n0_ n1_;(try clear hb);(try clear hb2);(try clear hk);(try clear hi)) | ((with_reducible refine gate_callee (f:=96) rfl ?_);refine goesL_ (some 51) rfl rfl Tryz.func96 (by kernel_rfl) rfl #[.string a0,.int .i64 t102] rfl (by (try simp only [List.map_toArray,List.map_cons,List.map_nil]);first|done|rfl | (simp only [List.length_drop,List.length_take];rfl)) ?_;(with_reducible refine (text_Read.calls a0 t102 t134 t135 _ ?side1 A43.out).mono ?_);(case side1=>exact Glob.step hGl (by repeat (first | (with_reducible first|exact HB.out|apply below_alloc|apply pw_below_drewN|apply below_drew1|refine below_set ?_ GE101.out)|exact HB.out)));rintro e w59 ⟨rfl,hb⟩;refine ⟨_,rfl,?_⟩;have n0_:=Aside0.mk (blk_below (g:=gb101) (o:=.cells #[.int .i64 0,.string (⟨#[]⟩:ByteArray),.string (⟨#[]⟩:ByteArray),.slice none 0 0,.bool false] 46 (0,0)) (by (with_reducible repeat (first|refine blk_drewN ?_ _|refine blk_drew ?_|refine blk_alloc ?_ _));exact BK101.out) hb);have n1_:=Aside0.mk (below_step (by repeat (first | (with_reducible first|exact HB.out|apply below_alloc|apply pw_below_drewN|apply below_drew1|refine below_set ?_ GE101.out)|exact HB.out)) hb);clear BK101;clear HB;have BK101:=n0_;have HB:=n1_;clear n0_ n1_;(try clear hb);(try clear hb2);(try clear hk);(try clear hi);have hcz60_0:w59.cell? ⟨gb101,0,none⟩=some (.int .i64 0):=(blk_cell BK101.out 0).trans rfl;have hcz60_1:w59.cell? ⟨gb101,1,none⟩=some (.string (⟨#[]⟩:ByteArray)):=(blk_cell BK101.out 1).trans rfl;have hcz60_2:w59.cell? ⟨gb101,2,none⟩=some (.string (⟨#[]⟩:ByteArray)):=(blk_cell BK101.out 2).trans rfl;have hcz60_3:w59.cell? ⟨gb101,3,none⟩=some (.slice none 0 0):=(blk_cell BK101.out 3).trans rfl;have hcz60_4:w59.cell? ⟨gb101,4,none⟩=some (.bool false):=(blk_cell BK101.out 4).trans rfl;have hfz60_0:=blk_frozen BK101.out 0;have hfz60_1:=blk_frozen BK101.out 1;have hfz60_2:=blk_frozen BK101.out 2;have hfz60_3:=blk_frozen BK101.out 3;have hfz60_4:=blk_frozen BK101.out 4))
           refine bodyPost_ret (results_ctt rfl _ _ gb101 46 #[.int .i64 0,.string (⟨#[]⟩:ByteArray),.string t134,.slice none 0 0,.bool false] (0,0) _ rfl (by (with_reducible repeat (first|refine blk_drewN ?_ _|refine blk_drew ?_|refine blk_alloc ?_ _));refine blk_put (cs := #[.int .i64 0,.string (⟨#[]⟩:ByteArray),.string t134,.slice none 0 0,.bool false]) ?_ 4 _ rfl;(with_reducible repeat (first|refine blk_drewN ?_ _|refine blk_drew ?_|refine blk_alloc ?_ _));refine blk_put (cs := #[.int .i64 0,.string (⟨#[]⟩:ByteArray),.string t134,.slice none 0 0,.bool false]) ?_ 3 _ rfl;(with_reducible repeat (first|refine blk_drewN ?_ _|refine blk_drew ?_|refine blk_alloc ?_ _));refine blk_put (cs := #[.int .i64 0,.string (⟨#[]⟩:ByteArray),.string (⟨#[]⟩:ByteArray),.slice none 0 0,.bool false]) ?_ 2 _ rfl;(with_reducible repeat (first|refine blk_drewN ?_ _|refine blk_drew ?_|refine blk_alloc ?_ _));refine blk_put (cs := #[.int .i64 0,.string (⟨#[]⟩:ByteArray),.string (⟨#[]⟩:ByteArray),.slice none 0 0,.bool false]) ?_ 1 _ rfl;(with_reducible repeat (first|refine blk_drewN ?_ _|refine blk_drew ?_|refine blk_alloc ?_ _));refine blk_put (cs := #[.int .i64 0,.string (⟨#[]⟩:ByteArray),.string (⟨#[]⟩:ByteArray),.slice none 0 0,.bool false]) ?_ 0 _ rfl;(with_reducible repeat (first|refine blk_drewN ?_ _|refine blk_drew ?_|refine blk_alloc ?_ _));exact BK101.out) Tryz.underlying46 rfl (by kernel_rfl)) rfl ?_
           exact ⟨_,by first|rfl | (simp [errW_none,errW_some]<;>rfl) | (simp [*,errW_none,errW_some]<;>rfl),by first|exact Kd.R_nil _ _ _ _ _|exact Kd.N_nil _ _ _ _ _|exact Kd.V_nil _ _ _ _ _|exact Kd.Q_nil _ _ _ _ _|exact Kd.S_nil _ _ _ _ _,by repeat (first | (with_reducible first|exact HB.out|apply below_alloc|apply pw_below_drewN|apply below_drew1|refine below_set ?_ GE101.out)|exact HB.out)⟩
noncomputable def raw_Text.f (a0:ByteArray) (a1:Bool):Option (ByteArray):=if a1=true then ((ref_Decode.f a0 false).bind fun t136=>((lines_Clean.f t136).bind fun t137=>(some t137))) else ((lines_Clean.f a0).bind fun t138=>(some t138))
set_option maxHeartbeats 8000000 in
set_option maxRecDepth 100000 in
theorem raw_Text.calls (a0:ByteArray) (a1:Bool) (r:ByteArray) (w:World) (hGl:Glob w) (h:raw_Text.f a0 a1=some r) :
  Calls Tryz.prog 136 #[.string a0,.bool a1] w fun e w'=>e = .returned (.string r)∧Below w.heap.size w w':=by
 have HB:=Aside0.mk (Below.refl w.heap.size w)
 have H:(if a1=true then ((ref_Decode.f a0 false).bind fun t136=>((lines_Clean.f t136).bind fun t137=>(some t137))) else ((lines_Clean.f a0).bind fun t138=>(some t138)))=some r:=h
 clear h
 by_cases c3:a1=true
 · subst c3
   have H1:((ref_Decode.f a0 false).bind fun t136=>((lines_Clean.f t136).bind fun t137=>(some t137)))=some r:=by rw [if_pos rfl] at H;exact H
   clear H
   have H:=H1
   clear H1
   replace H:=Option.bind_eq_some_iff.mp H
   obtain ⟨t136,A40,H⟩:=H
   replace H:((lines_Clean.f t136).bind fun t137=>(some t137))=some r:=H
   have A4:=Aside0.mk A40
   clear A40
   replace H:=Option.bind_eq_some_iff.mp H
   obtain ⟨t137,A50,H⟩:=H
   replace H:(some t137)=some r:=H
   have A5:=Aside0.mk A50
   clear A50
   obtain rfl:=Option.some.inj H
   go_enter Tryz.func136,Tryz.ntmps136
   go_wp2_with (first | ((with_reducible refine gate_callee (f:=132) rfl ?_);refine goesL_ (some 7) rfl rfl Tryz.func132 (by kernel_rfl) rfl #[.string a0,.bool false] rfl (by (try simp only [List.map_toArray,List.map_cons,List.map_nil]);first|done|rfl | (simp only [List.length_drop,List.length_take];rfl)) ?_;(with_reducible refine (ref_Decode.calls a0 false t136 _ ?side1 A4.out).mono ?_);(case side1=>exact Glob.step hGl (by repeat (first | (with_reducible first|exact HB.out|apply below_alloc|apply pw_below_drewN|apply below_drew1)|exact HB.out)));rintro e w6 ⟨rfl,hb⟩;refine ⟨_,rfl,?_⟩;have n0_:=Aside0.mk (below_step (by repeat (first | (with_reducible first|exact HB.out|apply below_alloc|apply pw_below_drewN|apply below_drew1)|exact HB.out)) hb);clear HB;have HB:=n0_;clear n0_;(try clear hb);(try clear hb2);(try clear hk);(try clear hi)) | ((with_reducible refine gate_callee (f:=21) rfl ?_);refine goesL_ (some 9) rfl rfl Tryz.func21 (by kernel_rfl) rfl #[.string t136] rfl (by (try simp only [List.map_toArray,List.map_cons,List.map_nil]);first|done|rfl | (simp only [List.length_drop,List.length_take];rfl)) ?_;(with_reducible refine (lines_Clean.calls t136 t137 _ ?side1 A5.out).mono ?_);(case side1=>exact Glob.step hGl (by repeat (first | (with_reducible first|exact HB.out|apply below_alloc|apply pw_below_drewN|apply below_drew1)|exact HB.out)));rintro e w7 ⟨rfl,hb⟩;refine ⟨_,rfl,?_⟩;have n0_:=Aside0.mk (below_step (by repeat (first | (with_reducible first|exact HB.out|apply below_alloc|apply pw_below_drewN|apply below_drew1)|exact HB.out)) hb);clear HB;have HB:=n0_;clear n0_;(try clear hb);(try clear hb2);(try clear hk);(try clear hi)))
   go_ret
   exact ⟨by first|rfl | (simp [errW_none,errW_some]<;>rfl) | (simp [*,errW_none,errW_some]<;>rfl),by repeat (first | (with_reducible first|exact HB.out|apply below_alloc|apply pw_below_drewN|apply below_drew1)|exact HB.out)⟩
 · replace c3:=Bool.eq_false_iff.mpr c3
   subst c3
   have H1:((lines_Clean.f a0).bind fun t138=>(some t138))=some r:=by rw [if_neg (show ¬ (false=true) by decide)] at H;exact H
   clear H
   have H:=H1
   clear H1
   replace H:=Option.bind_eq_some_iff.mp H
   obtain ⟨t138,A80,H⟩:=H
   replace H:(some t138)=some r:=H
   have A8:=Aside0.mk A80
   clear A80
   obtain rfl:=Option.some.inj H
   go_enter Tryz.func136,Tryz.ntmps136
   go_wp2_with (first | ((with_reducible refine gate_callee (f:=21) rfl ?_);refine goesL_ (some 9) rfl rfl Tryz.func21 (by kernel_rfl) rfl #[.string a0] rfl (by (try simp only [List.map_toArray,List.map_cons,List.map_nil]);first|done|rfl | (simp only [List.length_drop,List.length_take];rfl)) ?_;(with_reducible refine (lines_Clean.calls a0 t138 _ ?side1 A8.out).mono ?_);(case side1=>exact Glob.step hGl (by repeat (first | (with_reducible first|exact HB.out|apply below_alloc|apply pw_below_drewN|apply below_drew1)|exact HB.out)));rintro e w9 ⟨rfl,hb⟩;refine ⟨_,rfl,?_⟩;have n0_:=Aside0.mk (below_step (by repeat (first | (with_reducible first|exact HB.out|apply below_alloc|apply pw_below_drewN|apply below_drew1)|exact HB.out)) hb);clear HB;have HB:=n0_;clear n0_;(try clear hb);(try clear hb2);(try clear hk);(try clear hi)))
   go_ret
   exact ⟨by first|rfl | (simp [errW_none,errW_some]<;>rfl) | (simp [*,errW_none,errW_some]<;>rfl),by repeat (first | (with_reducible first|exact HB.out|apply below_alloc|apply pw_below_drewN|apply below_drew1)|exact HB.out)⟩
noncomputable def tok_ends.j0:Nat→ByteArray→Int→Int→Int→Int→Bool→Option (ByteArray×Int×Bool)
 | 0,_,_,_,_,_,_=>none
 | k+1,x0,x1,x2,x9,x15,x18=>if x18=true then (if 0≤x1 then (if x1≤x9 then (if x9≤(x0.size:Int) then ((raw_Text.f (x0.extract (x1:Int).toNat (x9:Int).toNat) (x2 == 1)).bind fun t143=>(some (t143,x9,true))) else (none)) else (none)) else (none)) else (if x15=4 then (if 0≤x1 then (if x1≤(x0.size:Int) then ((lines_Clean.f (x0.extract (x1:Int).toNat x0.size)).bind fun t144=>(some (t144,(x0.size:Int),true))) else (none)) else (none)) else (some ((⟨#[]⟩:ByteArray),x1,false)))
noncomputable def tok_ends.f (k:Nat) (a0:ByteArray) (a1:Int) (a2:Int) (a3:ByteArray):Option (ByteArray×Int×Bool):=(raw_Find.f a0 a1 a3).bind fun t139=>(if a2=3 then ((script_Find.f k a0 a1).bind fun bt140=>(if 0≤a1 then (if a1≤bt140.1 then (if bt140.1≤(a0.size:Int) then ((raw_Text.f (a0.extract (a1:Int).toNat (bt140.1:Int).toNat) (a2 == 1)).bind fun t142=>(some (t142,bt140.1,true))) else (none)) else (none)) else (none))) else (if a2=1 then (tok_ends.j0 k a0 a1 a2 t139 a2 (a2 == 1)) else (tok_ends.j0 k a0 a1 a2 t139 a2 (a2 == 2))))
set_option maxHeartbeats 8000000 in
set_option maxRecDepth 100000 in
theorem tok_ends.calls (k:Nat) (a0:ByteArray) (a1:Int) (a2:Int) (a3:ByteArray) (r1:ByteArray) (r2:Int) (r3:Bool) (w:World) (hGl:Glob w) (h:tok_ends.f k a0 a1 a2 a3=some (r1,r2,r3)) :
  Calls Tryz.prog 97 #[.string a0,.int .i64 a1,.int .i64 a2,.string a3] w fun e w'=>e = .returned (.tuple #[.string r1,.int .i64 r2,.bool r3])∧Below w.heap.size w w':=by
 have HB:=Aside0.mk (Below.refl w.heap.size w)
 have H:((raw_Find.f a0 a1 a3).bind fun t139=>(if a2=3 then ((script_Find.f k a0 a1).bind fun bt140=>(if 0≤a1 then (if a1≤bt140.1 then (if bt140.1≤(a0.size:Int) then ((raw_Text.f (a0.extract (a1:Int).toNat (bt140.1:Int).toNat) (a2 == 1)).bind fun t142=>(some (t142,bt140.1,true))) else (none)) else (none)) else (none))) else (if a2=1 then (tok_ends.j0 k a0 a1 a2 t139 a2 (a2 == 1)) else (tok_ends.j0 k a0 a1 a2 t139 a2 (a2 == 2)))))=some (r1,r2,r3):=h
 clear h
 replace H:=Option.bind_eq_some_iff.mp H
 obtain ⟨t139,A50,H⟩:=H
 replace H:(if a2=3 then ((script_Find.f k a0 a1).bind fun bt140=>(if 0≤a1 then (if a1≤bt140.1 then (if bt140.1≤(a0.size:Int) then ((raw_Text.f (a0.extract (a1:Int).toNat (bt140.1:Int).toNat) (a2 == 1)).bind fun t142=>(some (t142,bt140.1,true))) else (none)) else (none)) else (none))) else (if a2=1 then (tok_ends.j0 k a0 a1 a2 t139 a2 (a2 == 1)) else (tok_ends.j0 k a0 a1 a2 t139 a2 (a2 == 2))))=some (r1,r2,r3):=H
 have A5:=Aside0.mk A50
 clear A50
 by_cases c6:a2=3
 · rw [if_pos c6] at H
   have c6b0:(a2 == 3)=true:=beq_iff_eq.mpr c6
   have c6b1:(a2 != 3)=false:=bne_eq_false_iff_eq.mpr c6
   clear c6
   replace H:=Option.bind_eq_some_iff.mp H
   obtain ⟨⟨t140,t141⟩,A70,H⟩:=H
   replace H:(if 0≤a1 then (if a1≤t140 then (if t140≤(a0.size:Int) then ((raw_Text.f (a0.extract (a1:Int).toNat (t140:Int).toNat) (a2 == 1)).bind fun t142=>(some (t142,t140,true))) else (none)) else (none)) else (none))=some (r1,r2,r3):=H
   have A7:=Aside0.mk A70
   clear A70
   by_cases c8:0≤a1
   · rw [if_pos c8] at H
     have c8b0:=eq_true c8
     have c8b1:decide (0≤a1)=true:=decide_eq_true c8
     clear c8
     by_cases c9:a1≤t140
     · rw [if_pos c9] at H
       have c9b0:=eq_true c9
       have c9b1:decide (a1≤t140)=true:=decide_eq_true c9
       clear c9
       by_cases c10:t140≤(a0.size:Int)
       · rw [if_pos c10] at H
         have c10b0:=eq_true c10
         have c10b1:decide (t140≤(a0.size:Int))=true:=decide_eq_true c10
         clear c10
         replace H:=Option.bind_eq_some_iff.mp H
         obtain ⟨t142,A110,H⟩:=H
         replace H:(some (t142,t140,true))=some (r1,r2,r3):=H
         have A11:=Aside0.mk A110
         clear A110
         simp only [Option.some.injEq,Prod.mk.injEq] at H
         obtain ⟨rfl,rfl,rfl⟩:=H
         go_enter Tryz.func97,Tryz.ntmps97
         go_wp2_with (first | ((with_reducible refine gate_callee (f:=134) rfl ?_);refine goesL_ (some 14) rfl rfl Tryz.func134 (by kernel_rfl) rfl #[.string a0,.int .i64 a1,.string a3] rfl (by (try simp only [List.map_toArray,List.map_cons,List.map_nil]);first|done|rfl | (simp only [List.length_drop,List.length_take];rfl)) ?_;(with_reducible refine (raw_Find.calls a0 a1 a3 t139 _ ?side1 A5.out).mono ?_);(case side1=>exact Glob.step hGl (by repeat (first | (with_reducible first|exact HB.out|apply below_alloc|apply pw_below_drewN|apply below_drew1)|exact HB.out)));rintro e w12 ⟨rfl,hb⟩;refine ⟨_,rfl,?_⟩;have n0_:=Aside0.mk (below_step (by repeat (first | (with_reducible first|exact HB.out|apply below_alloc|apply pw_below_drewN|apply below_drew1)|exact HB.out)) hb);clear HB;have HB:=n0_;clear n0_;(try clear hb);(try clear hb2);(try clear hk);(try clear hi)) | ((with_reducible refine gate_callee (f:=135) rfl ?_);refine goesL_ (some 26) rfl rfl Tryz.func135 (by kernel_rfl) rfl #[.string a0,.int .i64 a1] rfl (by (try simp only [List.map_toArray,List.map_cons,List.map_nil]);first|done|rfl | (simp only [List.length_drop,List.length_take];rfl)) ?_;(with_reducible refine (script_Find.calls k a0 a1 t140 t141 _ A7.out).mono ?_);rintro e w13 ⟨rfl,hb⟩;refine ⟨_,rfl,?_⟩;have n0_:=Aside0.mk (below_step (by repeat (first | (with_reducible first|exact HB.out|apply below_alloc|apply pw_below_drewN|apply below_drew1)|exact HB.out)) hb);clear HB;have HB:=n0_;clear n0_;(try clear hb);(try clear hb2);(try clear hk);(try clear hi)) | ((with_reducible refine gate_callee (f:=136) rfl ?_);refine goesL_ (some 35) rfl rfl Tryz.func136 (by kernel_rfl) rfl #[.string (a0.extract (a1:Int).toNat (t140:Int).toNat),.bool (a2 == 1)] rfl (by (try simp only [List.map_toArray,List.map_cons,List.map_nil]);first|done|rfl | (simp only [List.length_drop,List.length_take];rfl)) ?_;(with_reducible refine (raw_Text.calls (a0.extract (a1:Int).toNat (t140:Int).toNat) (a2 == 1) t142 _ ?side1 A11.out).mono ?_);(case side1=>exact Glob.step hGl (by repeat (first | (with_reducible first|exact HB.out|apply below_alloc|apply pw_below_drewN|apply below_drew1)|exact HB.out)));rintro e w14 ⟨rfl,hb⟩;refine ⟨_,rfl,?_⟩;have n0_:=Aside0.mk (below_step (by repeat (first | (with_reducible first|exact HB.out|apply below_alloc|apply pw_below_drewN|apply below_drew1)|exact HB.out)) hb);clear HB;have HB:=n0_;clear n0_;(try clear hb);(try clear hb2);(try clear hk);(try clear hi)))
         go_ret3
         exact ⟨by first|rfl | (simp [errW_none,errW_some]<;>rfl) | (simp [*,errW_none,errW_some]<;>rfl),by repeat (first | (with_reducible first|exact HB.out|apply below_alloc|apply pw_below_drewN|apply below_drew1)|exact HB.out)⟩
       · rw [if_neg c10] at H
         exact absurd H (by simp)
     · rw [if_neg c9] at H
       exact absurd H (by simp)
   · rw [if_neg c8] at H
     exact absurd H (by simp)
 · rw [if_neg c6] at H
   have c6b0:(a2 == 3)=false:=beq_eq_false_iff_ne.mpr c6
   have c6b1:(a2 != 3)=true:=bne_iff_ne.mpr c6
   have HC15:=Aside0.mk H
   clear H
   go_enter Tryz.func97,Tryz.ntmps97
   go_upto_if 18 with (first | ((with_reducible refine gate_callee (f:=134) rfl ?_);refine goesL_ (some 14) rfl rfl Tryz.func134 (by kernel_rfl) rfl #[.string a0,.int .i64 a1,.string a3] rfl (by (try simp only [List.map_toArray,List.map_cons,List.map_nil]);first|done|rfl | (simp only [List.length_drop,List.length_take];rfl)) ?_;(with_reducible refine (raw_Find.calls a0 a1 a3 t139 _ ?side1 A5.out).mono ?_);(case side1=>exact Glob.step hGl (by repeat (first | (with_reducible first|exact HB.out|apply below_alloc|apply pw_below_drewN|apply below_drew1)|exact HB.out)));rintro e w16 ⟨rfl,hb⟩;refine ⟨_,rfl,?_⟩;have n0_:=Aside0.mk (below_step (by repeat (first | (with_reducible first|exact HB.out|apply below_alloc|apply pw_below_drewN|apply below_drew1)|exact HB.out)) hb);clear HB;have HB:=n0_;clear n0_;(try clear hb);(try clear hb2);(try clear hk);(try clear hi)))
   (try simp only [Act.put,List.setIfInBounds_toArray,List.set_cons_zero,List.set_cons_succ])
   go_cut [18] (fun v18 wc => ∃ (kq:Nat) (x18_14:Bool),v18 = .bool x18_14∧Aside0 (tok_ends.j0 kq a0 a1 a2 t139 a2 x18_14=some (r1,r2,r3))∧Aside0 (kq≤k)∧Aside0 (Below w.heap.size w wc))
   case first =>
    have H:=HC15.out
    clear HC15
    by_cases c17:a2=1
    · rw [if_pos c17] at H
      have c17b0:(a2 == 1)=true:=beq_iff_eq.mpr c17
      have c17b1:(a2 != 1)=false:=bne_eq_false_iff_eq.mpr c17
      clear c17
      (first|rw [c17b0] | (simp only [i64_w,i32_w];rw [c17b0])|skip)
      have H':=Aside0.mk H
      clear H
      go_wp2
      go_meet
      case rel=>exact ⟨_,((a2 == 1)),(by first|rfl | (simp;done) | (simp [*];done)),H',⟨by first|omega|exact Nat.le_refl _⟩,⟨by repeat (first | (with_reducible first|exact HB.out|apply below_alloc|apply pw_below_drewN|apply below_drew1)|exact HB.out)⟩⟩
    · rw [if_neg c17] at H
      have c17b0:(a2 == 1)=false:=beq_eq_false_iff_ne.mpr c17
      have c17b1:(a2 != 1)=true:=bne_iff_ne.mpr c17
      (first|rw [c17b0] | (simp only [i64_w,i32_w];rw [c17b0])|skip)
      have H':=Aside0.mk H
      clear H
      go_wp2
      go_meet
      case rel=>exact ⟨_,((a2 == 2)),(by first|rfl | (simp;done) | (simp [*];done)),H',⟨by first|omega|exact Nat.le_refl _⟩,⟨by repeat (first | (with_reducible first|exact HB.out|apply below_alloc|apply pw_below_drewN|apply below_drew1)|exact HB.out)⟩⟩
   case rest =>
    clear HC15
    try clear c1
    try clear p2
    try clear c6
    try clear c6b0
    try clear c6b1
    try clear c8
    try clear c8b0
    try clear c8b1
    try clear c9
    try clear c9b0
    try clear c9b1
    try clear c10
    try clear c10b0
    try clear c10b1
    try clear c13
    try clear c17
    try clear c17b0
    try clear c17b1
    obtain ⟨kq,x18_14,rfl,HA,HJ14,HB⟩:=hcut
    cases kq with
    | zero=>exact absurd HA.out (by simp [tok_ends.j0])
    | succ kj14 =>
      have H:=HA.out
      clear HA
      simp only [tok_ends.j0] at H
      by_cases c18:x18_14=true
      · subst c18
        have H1:(if 0≤a1 then (if a1≤t139 then (if t139≤(a0.size:Int) then ((raw_Text.f (a0.extract (a1:Int).toNat (t139:Int).toNat) (a2 == 1)).bind fun t143=>(some (t143,t139,true))) else (none)) else (none)) else (none))=some (r1,r2,r3):=by rw [if_pos rfl] at H;exact H
        clear H
        have H:=H1
        clear H1
        by_cases c19:0≤a1
        · rw [if_pos c19] at H
          have c19b0:=eq_true c19
          have c19b1:decide (0≤a1)=true:=decide_eq_true c19
          clear c19
          by_cases c20:a1≤t139
          · rw [if_pos c20] at H
            have c20b0:=eq_true c20
            have c20b1:decide (a1≤t139)=true:=decide_eq_true c20
            clear c20
            by_cases c21:t139≤(a0.size:Int)
            · rw [if_pos c21] at H
              have c21b0:=eq_true c21
              have c21b1:decide (t139≤(a0.size:Int))=true:=decide_eq_true c21
              clear c21
              replace H:=Option.bind_eq_some_iff.mp H
              obtain ⟨t143,A220,H⟩:=H
              replace H:(some (t143,t139,true))=some (r1,r2,r3):=H
              have A22:=Aside0.mk A220
              clear A220
              simp only [Option.some.injEq,Prod.mk.injEq] at H
              obtain ⟨rfl,rfl,rfl⟩:=H
              go_wp2_with (first | ((with_reducible refine gate_callee (f:=136) rfl ?_);refine goesL_ (some 35) rfl rfl Tryz.func136 (by kernel_rfl) rfl #[.string (a0.extract (a1:Int).toNat (t139:Int).toNat),.bool (a2 == 1)] rfl (by (try simp only [List.map_toArray,List.map_cons,List.map_nil]);first|done|rfl | (simp only [List.length_drop,List.length_take];rfl)) ?_;(with_reducible refine (raw_Text.calls (a0.extract (a1:Int).toNat (t139:Int).toNat) (a2 == 1) t143 _ ?side1 A22.out).mono ?_);(case side1=>exact Glob.step hGl (by repeat (first | (with_reducible first|exact HB.out|apply below_alloc|apply pw_below_drewN|apply below_drew1)|exact HB.out)));rintro e w23 ⟨rfl,hb⟩;refine ⟨_,rfl,?_⟩;have n0_:=Aside0.mk (below_step (by repeat (first | (with_reducible first|exact HB.out|apply below_alloc|apply pw_below_drewN|apply below_drew1)|exact HB.out)) hb);clear HB;have HB:=n0_;clear n0_;(try clear hb);(try clear hb2);(try clear hk);(try clear hi)))
              go_ret3
              exact ⟨by first|rfl | (simp [errW_none,errW_some]<;>rfl) | (simp [*,errW_none,errW_some]<;>rfl),by repeat (first | (with_reducible first|exact HB.out|apply below_alloc|apply pw_below_drewN|apply below_drew1)|exact HB.out)⟩
            · rw [if_neg c21] at H
              exact absurd H (by simp)
          · rw [if_neg c20] at H
            exact absurd H (by simp)
        · rw [if_neg c19] at H
          exact absurd H (by simp)
      · replace c18:=Bool.eq_false_iff.mpr c18
        subst c18
        have H1:(if a2=4 then (if 0≤a1 then (if a1≤(a0.size:Int) then ((lines_Clean.f (a0.extract (a1:Int).toNat a0.size)).bind fun t144=>(some (t144,(a0.size:Int),true))) else (none)) else (none)) else (some ((⟨#[]⟩:ByteArray),a1,false)))=some (r1,r2,r3):=by rw [if_neg (show ¬ (false=true) by decide)] at H;exact H
        clear H
        have H:=H1
        clear H1
        by_cases c24:a2=4
        · rw [if_pos c24] at H
          have c24b0:(a2 == 4)=true:=beq_iff_eq.mpr c24
          have c24b1:(a2 != 4)=false:=bne_eq_false_iff_eq.mpr c24
          clear c24
          by_cases c25:0≤a1
          · rw [if_pos c25] at H
            have c25b0:=eq_true c25
            have c25b1:decide (0≤a1)=true:=decide_eq_true c25
            clear c25
            by_cases c26:a1≤(a0.size:Int)
            · rw [if_pos c26] at H
              have c26b0:=eq_true c26
              have c26b1:decide (a1≤(a0.size:Int))=true:=decide_eq_true c26
              clear c26
              replace H:=Option.bind_eq_some_iff.mp H
              obtain ⟨t144,A270,H⟩:=H
              replace H:(some (t144,(a0.size:Int),true))=some (r1,r2,r3):=H
              have A27:=Aside0.mk A270
              clear A270
              simp only [Option.some.injEq,Prod.mk.injEq] at H
              obtain ⟨rfl,rfl,rfl⟩:=H
              go_wp2_with (first | ((with_reducible refine gate_callee (f:=21) rfl ?_);refine goesL_ (some 40) rfl rfl Tryz.func21 (by kernel_rfl) rfl #[.string (a0.extract (a1:Int).toNat a0.size)] rfl (by (try simp only [List.map_toArray,List.map_cons,List.map_nil]);first|done|rfl | (simp only [List.length_drop,List.length_take];rfl)) ?_;(with_reducible refine (lines_Clean.calls (a0.extract (a1:Int).toNat a0.size) t144 _ ?side1 A27.out).mono ?_);(case side1=>exact Glob.step hGl (by repeat (first | (with_reducible first|exact HB.out|apply below_alloc|apply pw_below_drewN|apply below_drew1)|exact HB.out)));rintro e w28 ⟨rfl,hb⟩;refine ⟨_,rfl,?_⟩;have n0_:=Aside0.mk (below_step (by repeat (first | (with_reducible first|exact HB.out|apply below_alloc|apply pw_below_drewN|apply below_drew1)|exact HB.out)) hb);clear HB;have HB:=n0_;clear n0_;(try clear hb);(try clear hb2);(try clear hk);(try clear hi)))
              go_ret3
              exact ⟨by first|rfl | (simp [errW_none,errW_some]<;>rfl) | (simp [*,errW_none,errW_some]<;>rfl),by repeat (first | (with_reducible first|exact HB.out|apply below_alloc|apply pw_below_drewN|apply below_drew1)|exact HB.out)⟩
            · rw [if_neg c26] at H
              exact absurd H (by simp)
          · rw [if_neg c25] at H
            exact absurd H (by simp)
        · rw [if_neg c24] at H
          have c24b0:(a2 == 4)=false:=beq_eq_false_iff_ne.mpr c24
          have c24b1:(a2 != 4)=true:=bne_iff_ne.mpr c24
          simp only [Option.some.injEq,Prod.mk.injEq] at H
          obtain ⟨rfl,rfl,rfl⟩:=H
          go_wp2
          go_ret3
          exact ⟨by first|rfl | (simp [errW_none,errW_some]<;>rfl) | (simp [*,errW_none,errW_some]<;>rfl),by repeat (first | (with_reducible first|exact HB.out|apply below_alloc|apply pw_below_drewN|apply below_drew1)|exact HB.out)⟩
noncomputable def tok_Rest.j0:Nat→ByteArray→List (S46)→Int→Option ((List (S46))×Int)
 | 0,_,_,_=>none
 | k+1,x0,x8,x9=>if x9=(x0.size:Int) then (some (x8,x9)) else ((tag_Read.f x0 x9).bind fun bt152=>(if bt152.2.2.2.2.2.2=true then (if x8.length<1954687338268 then (some ((x8++[(⟨bt152.1,bt152.2.1,bt152.2.2.1,bt152.2.2.2.1,bt152.2.2.2.2.1⟩:S46)]),bt152.2.2.2.2.2.1)) else (none)) else (some (x8,bt152.2.2.2.2.2.1))))
noncomputable def tok_Rest.f (k:Nat) (a0:ByteArray) (a1:Int) (a2:Int) (a3:ByteArray):Option ((List (S46))×Int):=(tok_inside.f a0 a1).bind fun t145=>((tok_ends.f k a0 t145 a2 a3).bind fun bt146=>(if bt146.2.2=true then (if bt146.1.toList=([]:List UInt8) then (tok_Rest.j0 k a0 ([]:List (S46)) bt146.2.1) else (if ([]:List (S46)).length<1954687338268 then (tok_Rest.j0 k a0 (([]:List (S46))++[(⟨0,(⟨#[]⟩:ByteArray),bt146.1,([]:List (S87)),false⟩:S46)]) bt146.2.1) else (none))) else (some (([]:List (S46)),t145))))
set_option maxHeartbeats 8000000 in
set_option maxRecDepth 100000 in
theorem tok_Rest.calls (k:Nat) (a0:ByteArray) (a1:Int) (a2:Int) (a3:ByteArray) (r1:List (S46)) (r2:Int) (w:World) (hGl:Glob w) (h:tok_Rest.f k a0 a1 a2 a3=some (r1,r2)) :
  Calls Tryz.prog 62 #[.string a0,.int .i64 a1,.int .i64 a2,.string a3] w fun e w' => ∃ v0_:Value,e = .returned (.tuple #[v0_,.int .i64 r2])∧Kd.S k46 46 w' w.heap.size (fun _=>True) v0_ r1∧Below w.heap.size w w':=by
 have hu46:=Tryz.underlying46
 have HB:=Aside0.mk (Below.refl w.heap.size w)
 have H:((tok_inside.f a0 a1).bind fun t145=>((tok_ends.f k a0 t145 a2 a3).bind fun bt146=>(if bt146.2.2=true then (if bt146.1.toList=([]:List UInt8) then (tok_Rest.j0 k a0 ([]:List (S46)) bt146.2.1) else (if ([]:List (S46)).length<1954687338268 then (tok_Rest.j0 k a0 (([]:List (S46))++[(⟨0,(⟨#[]⟩:ByteArray),bt146.1,([]:List (S87)),false⟩:S46)]) bt146.2.1) else (none))) else (some (([]:List (S46)),t145)))))=some (r1,r2):=h
 clear h
 replace H:=Option.bind_eq_some_iff.mp H
 obtain ⟨t145,A50,H⟩:=H
 replace H:((tok_ends.f k a0 t145 a2 a3).bind fun bt146=>(if bt146.2.2=true then (if bt146.1.toList=([]:List UInt8) then (tok_Rest.j0 k a0 ([]:List (S46)) bt146.2.1) else (if ([]:List (S46)).length<1954687338268 then (tok_Rest.j0 k a0 (([]:List (S46))++[(⟨0,(⟨#[]⟩:ByteArray),bt146.1,([]:List (S87)),false⟩:S46)]) bt146.2.1) else (none))) else (some (([]:List (S46)),t145))))=some (r1,r2):=H
 have A5:=Aside0.mk A50
 clear A50
 replace H:=Option.bind_eq_some_iff.mp H
 obtain ⟨⟨t146,t147,t148⟩,A60,H⟩:=H
 replace H:(if t148=true then (if t146.toList=([]:List UInt8) then (tok_Rest.j0 k a0 ([]:List (S46)) t147) else (if ([]:List (S46)).length<1954687338268 then (tok_Rest.j0 k a0 (([]:List (S46))++[(⟨0,(⟨#[]⟩:ByteArray),t146,([]:List (S87)),false⟩:S46)]) t147) else (none))) else (some (([]:List (S46)),t145)))=some (r1,r2):=H
 have A6:=Aside0.mk A60
 clear A60
 by_cases c7:t148=true
 · subst c7
   have H1:(if t146.toList=([]:List UInt8) then (tok_Rest.j0 k a0 ([]:List (S46)) t147) else (if ([]:List (S46)).length<1954687338268 then (tok_Rest.j0 k a0 (([]:List (S46))++[(⟨0,(⟨#[]⟩:ByteArray),t146,([]:List (S87)),false⟩:S46)]) t147) else (none)))=some (r1,r2):=by rw [if_pos rfl] at H;exact H
   clear H
   have H:=H1
   clear H1
   have HC8:=Aside0.mk H
   clear H
   go_enter Tryz.func62,Tryz.ntmps62
   go_upto_if 29 with (first | ((with_reducible refine gate_callee (f:=88) rfl ?_);refine goesL_ (some 15) rfl rfl Tryz.func88 (by kernel_rfl) rfl #[.string a0,.int .i64 a1] rfl (by (try simp only [List.map_toArray,List.map_cons,List.map_nil]);first|done|rfl | (simp only [List.length_drop,List.length_take];rfl)) ?_;(with_reducible refine (tok_inside.calls a0 a1 t145 _ A5.out).mono ?_);rintro e w9 ⟨rfl,hb⟩;refine ⟨_,rfl,?_⟩;have n0_:=Aside0.mk (below_step (by repeat (first | (with_reducible first|exact HB.out|apply below_alloc|apply pw_below_drewN|apply below_drew1)|exact HB.out)) hb);clear HB;have HB:=n0_;clear n0_;(try clear hb);(try clear hb2);(try clear hk);(try clear hi)) | ((with_reducible refine gate_callee (f:=97) rfl ?_);refine goesL_ (some 21) rfl rfl Tryz.func97 (by kernel_rfl) rfl #[.string a0,.int .i64 t145,.int .i64 a2,.string a3] rfl (by (try simp only [List.map_toArray,List.map_cons,List.map_nil]);first|done|rfl | (simp only [List.length_drop,List.length_take];rfl)) ?_;(with_reducible refine (tok_ends.calls k a0 t145 a2 a3 t146 t147 true _ ?side1 A6.out).mono ?_);(case side1=>exact Glob.step hGl (by repeat (first | (with_reducible first|exact HB.out|apply below_alloc|apply pw_below_drewN|apply below_drew1)|exact HB.out)));rintro e w10 ⟨rfl,hb⟩;refine ⟨_,rfl,?_⟩;have n0_:=Aside0.mk (below_step (by repeat (first | (with_reducible first|exact HB.out|apply below_alloc|apply pw_below_drewN|apply below_drew1)|exact HB.out)) hb);clear HB;have HB:=n0_;clear n0_;(try clear hb);(try clear hb2);(try clear hk);(try clear hi)))
   (try simp only [Act.put,List.setIfInBounds_toArray,List.set_cons_zero,List.set_cons_succ])
   go_cut [8] (fun v8 wc => ∃ (kq:Nat) (x8_7:List (S46)),Aside0 (tok_Rest.j0 kq a0 x8_7 t147=some (r1,r2))∧Aside0 (kq≤k)∧Aside0 (Kd.S k46 46 wc w.heap.size (fun _=>True) v8 x8_7)∧Aside0 (Below w.heap.size w wc))
   case first =>
    have H:=HC8.out
    clear HC8
    by_cases c11:t146.toList=([]:List UInt8)
    · rw [if_pos c11] at H
      have c11b0:(t146.toList == ([]:List UInt8))=true:=beq_iff_eq.mpr c11
      have c11bE:(t146.toList).isEmpty=true:=List.isEmpty_iff.2 c11
      have c11b1:(t146.toList != ([]:List UInt8))=false:=bne_eq_false_iff_eq.mpr c11
      clear c11
      (first|rw [c11b0] | (simp only [i64_w,i32_w];rw [c11b0])|skip)
      (try rw [c11bE])
      have H':=Aside0.mk H
      clear H
      go_wp2
      go_meet
      case rel=>exact ⟨_,(([]:List (S46))),H',⟨by first|omega|exact Nat.le_refl _⟩,⟨by first|exact Kd.S_nil _ _ _ _ _|exact Kd.N_nil _ _ _ _ _|exact Kd.V_nil _ _ _ _ _|exact Kd.Q_nil _ _ _ _ _|exact Kd.R_nil _ _ _ _ _⟩,⟨by repeat (first | (with_reducible first|exact HB.out|apply below_alloc|apply pw_below_drewN|apply below_drew1)|exact HB.out)⟩⟩
    · rw [if_neg c11] at H
      have c11b0:(t146.toList == ([]:List UInt8))=false:=beq_eq_false_iff_ne.mpr c11
      have c11bE:(t146.toList).isEmpty=false:=List.isEmpty_eq_false_iff.2 c11
      have c11b1:(t146.toList != ([]:List UInt8))=true:=bne_iff_ne.mpr c11
      (first|rw [c11b0] | (simp only [i64_w,i32_w];rw [c11b0])|skip)
      (try rw [c11bE])
      by_cases c12:([]:List (S46)).length<1954687338268
      · rw [if_pos c12] at H
        have LMc12:=Aside0.mk c12
        clear c12
        obtain ⟨y149,hy149⟩:∃ y_:List (S46),y_=(([]:List (S46))++[(⟨0,(⟨#[]⟩:ByteArray),t146,([]:List (S87)),false⟩:S46)]):=⟨_,rfl⟩
        replace H:(tok_Rest.j0 k a0 y149 t147)=some (r1,r2):=by first | (rw [hy149];with_reducible exact H) | (have H2_:=(Option.bind_some _ _).symm.trans H;rw [hy149];with_reducible exact H2_) | (have H2_:=(Option.bind_some _ _).symm.trans H;with_reducible exact H2_)|with_reducible exact H | (rw [hy149];exact H)|exact H
        have Ny149:=Aside0.mk hy149
        clear hy149
        have H':=Aside0.mk H
        clear H
        go_wp2_with (first | ((with_reducible refine gate_builtin (b:=.append) (xs := #[.tmp 30,.tmp 33]) rfl ?_);at_builtin;refine Kd.S_append k46 (w0:=w) w.heap.size rfl (.tmp 30) (.tmp 33) 42 46 (.agg #[(.int .i64 0),(.string ⟨#[]⟩),(.string ⟨#[]⟩),(.slice none 0 0),(.bool false)]) 72 rfl Tryz.underlying42 info46 rfl (by decide) (by omega) (.slice none 0 0) ([]:List (S46)) (⟨0,(⟨#[]⟩:ByteArray),t146,([]:List (S87)),false⟩:S46) [.int .i64 0,.string (⟨#[]⟩:ByteArray),.string t146,.slice none 0 0,.bool false] (fun _=>True) (fun _=>False) rfl rfl ?aP (fun k_ hk_=>hk_.elim) ?aF ?aO ?aB ?aS ?aL ?_;(case aP=>exact k46_mkM _ _ _ (⟨0,(⟨#[]⟩:ByteArray),t146,([]:List (S87)),false⟩:S46) (Kd.R_nil _ _ _ _ _));(case aB=>exact (by repeat (first | (with_reducible first|exact HB.out|apply below_alloc|apply pw_below_drewN|apply below_drew1)|exact HB.out)));(case aF=>exact (fun _ _=>trivial));(case aO=>exact ((Kd.S_nil _ _ _ _ _)));(case aS=>exact (below_size (by repeat (first | (with_reducible first|exact HB.out|apply below_alloc|apply pw_below_drewN|apply below_drew1)|exact HB.out))));(case aL=>have:=LMc12.out;omega);intro v150 w13 ho hb hg hat;rw [← Ny149.out] at ho;have n0_:=Aside0.mk (hb);have n1_:=Aside0.mk (ho);clear HB;have HB:=n0_;have HO151:=n1_;clear n0_ n1_;clear ho hb hg hat))
        go_meet
        case rel=>exact ⟨_,(y149),H',⟨by first|omega|exact Nat.le_refl _⟩,⟨by (with_reducible repeat (first|apply Kd.S_alloc|apply Kd.S_drewN|apply Kd.S_drew));exact HO151.out⟩,⟨by repeat (first | (with_reducible first|exact HB.out|apply below_alloc|apply pw_below_drewN|apply below_drew1)|exact HB.out)⟩⟩
      · rw [if_neg c12] at H
        exact absurd H (by simp)
   case rest =>
    clear HC8
    try clear c1
    try clear p2
    try clear c6
    try clear c7
    try clear c8
    try clear c9
    try clear c11
    try clear c11b0
    try clear c11b1
    try clear c12
    obtain ⟨kq,x8_7,HA,HJ7,HO_8,HB⟩:=hcut
    cases kq with
    | zero=>exact absurd HA.out (by simp [tok_Rest.j0])
    | succ kj7 =>
      have H:=HA.out
      clear HA
      simp only [tok_Rest.j0] at H
      by_cases c14:t147=(a0.size:Int)
      · rw [if_pos c14] at H
        have c14b0:(t147 == (a0.size:Int))=true:=beq_iff_eq.mpr c14
        have c14b1:(t147 != (a0.size:Int))=false:=bne_eq_false_iff_eq.mpr c14
        clear c14
        simp only [Option.some.injEq,Prod.mk.injEq] at H
        obtain ⟨rfl,rfl⟩:=H
        go_wp2
        go_ret2
        exact ⟨_,by first|rfl | (simp [errW_none,errW_some]<;>rfl) | (simp [*,errW_none,errW_some]<;>rfl),by (with_reducible repeat (first|apply Kd.S_alloc|apply Kd.S_drewN|apply Kd.S_drew));exact HO_8.out,by repeat (first | (with_reducible first|exact HB.out|apply below_alloc|apply pw_below_drewN|apply below_drew1)|exact HB.out)⟩
      · rw [if_neg c14] at H
        have c14b0:(t147 == (a0.size:Int))=false:=beq_eq_false_iff_ne.mpr c14
        have c14b1:(t147 != (a0.size:Int))=true:=bne_iff_ne.mpr c14
        replace H:=Option.bind_eq_some_iff.mp H
        obtain ⟨⟨t152,t153,t154,t155,t158,t159,t160⟩,A150,H⟩:=H
        replace H:(if t160=true then (if x8_7.length<1954687338268 then (some ((x8_7++[(⟨t152,t153,t154,t155,t158⟩:S46)]),t159)) else (none)) else (some (x8_7,t159)))=some (r1,r2):=H
        have A15:=Aside0.mk A150
        clear A150
        by_cases c16:t160=true
        · subst c16
          have H1:(if x8_7.length<1954687338268 then (some ((x8_7++[(⟨t152,t153,t154,t155,t158⟩:S46)]),t159)) else (none))=some (r1,r2):=by rw [if_pos rfl] at H;exact H
          clear H
          have H:=H1
          clear H1
          by_cases c17:x8_7.length<1954687338268
          · rw [if_pos c17] at H
            have LMc17:=Aside0.mk c17
            clear c17
            obtain ⟨y162,hy162⟩:∃ y_:List (S46),y_=(x8_7++[(⟨t152,t153,t154,t155,t158⟩:S46)]):=⟨_,rfl⟩
            replace H:(some (y162,t159))=some (r1,r2):=by first | (rw [hy162];with_reducible exact H) | (have H2_:=(Option.bind_some _ _).symm.trans H;rw [hy162];with_reducible exact H2_) | (have H2_:=(Option.bind_some _ _).symm.trans H;with_reducible exact H2_)|with_reducible exact H | (rw [hy162];exact H)|exact H
            have Ny162:=Aside0.mk hy162
            clear hy162
            simp only [Option.some.injEq,Prod.mk.injEq] at H
            obtain ⟨rfl,rfl⟩:=H
            go_wp2_with (first | ((with_reducible refine gate_callee (f:=90) rfl ?_);refine goesL_ (some 44) rfl rfl Tryz.func90 (by kernel_rfl) rfl #[.string a0,.int .i64 t147] rfl (by (try simp only [List.map_toArray,List.map_cons,List.map_nil]);first|done|rfl | (simp only [List.length_drop,List.length_take];rfl)) ?_;(with_reducible refine (tag_Read.calls a0 t147 t152 t153 t154 t155 t158 t159 true _ ?side1 A15.out).mono ?_);(case side1=>exact Glob.step hGl (by repeat (first | (with_reducible first|exact HB.out|apply below_alloc|apply pw_below_drewN|apply below_drew1)|exact HB.out)));rintro e w18 ⟨v156,rfl,ho0,hb⟩;refine ⟨_,rfl,?_⟩;have n0_:=Aside0.mk (Kd.S_elder' (by (with_reducible repeat (first|apply Kd.S_alloc|apply Kd.S_drewN|apply Kd.S_drew));exact HO_8.out) (Kd.R_base ho0) hb);have n1_:=Aside0.mk (Kd.R_lower ho0 (below_size (by repeat (first | (with_reducible first|exact HB.out|apply below_alloc|apply pw_below_drewN|apply below_drew1)|exact HB.out))));have n2_:=Aside0.mk (below_step (by repeat (first | (with_reducible first|exact HB.out|apply below_alloc|apply pw_below_drewN|apply below_drew1)|exact HB.out)) hb);clear HO_8;clear HB;have HO_8:=n0_;have HO157:=n1_;have HB:=n2_;clear n0_ n1_ n2_;(try clear hb);(try clear hb2);(try clear hk);(try clear hi);(try clear ho0)) | ((with_reducible refine gate_dst (N:=12) rfl ?_);refine box_event ?hg (N:=12) ?hd (cs := #[.int .i64 0,.string (⟨#[]⟩:ByteArray),.string (⟨#[]⟩:ByteArray),.slice none 0 0,.bool false]) (t:=46) ?hr ?_;(case hd=>rfl);(case hg=>rfl);(case hr=>first | (go_simp;done) | (go_simp;rfl));intro gb161 hg w19 hbox hb;have n0_:=Aside0.mk (Kd.S_below (Kd.S_elderB (by (with_reducible repeat (first|apply Kd.S_alloc|apply Kd.S_drewN|apply Kd.S_drew));exact HO_8.out) gb161 (Nat.le_of_eq hg.symm)) hb);have n1_:=Aside0.mk (Kd.R_below (by (with_reducible repeat (first|apply Kd.R_alloc|apply Kd.R_drewN|apply Kd.R_drew));exact HO157.out) hb);have n2_:=Aside0.mk (below_step (by repeat (first | (with_reducible first|exact HB.out|apply below_alloc|apply pw_below_drewN|apply below_drew1)|exact HB.out)) hb);have n3_:=Aside0.mk (hbox);have n4_:=Aside0.mk ((by rw [hg];exact (below_size (by repeat (first | (with_reducible first|exact HB.out|apply below_alloc|apply pw_below_drewN|apply below_drew1)|exact HB.out))):w.heap.size≤gb161));have n5_:=Aside0.mk ((by rw [hg];exact (below_size (by repeat (first | (with_reducible first|exact HB.out|apply below_alloc|apply pw_below_drewN|apply below_drew1)|exact HB.out))):w.heap.size≤gb161));clear HO_8;clear HO157;clear HB;have HO_8:=n0_;have HO157:=n1_;have HB:=n2_;have BK161:=n3_;have GW161:=n4_;have GE161:=n5_;clear n0_ n1_ n2_ n3_ n4_ n5_;clear hb hbox hg;have hcz20_0:w19.cell? ⟨gb161,0,none⟩=some (.int .i64 0):=(blk_cell BK161.out 0).trans rfl;have hcz20_1:w19.cell? ⟨gb161,1,none⟩=some (.string (⟨#[]⟩:ByteArray)):=(blk_cell BK161.out 1).trans rfl;have hcz20_2:w19.cell? ⟨gb161,2,none⟩=some (.string (⟨#[]⟩:ByteArray)):=(blk_cell BK161.out 2).trans rfl;have hcz20_3:w19.cell? ⟨gb161,3,none⟩=some (.slice none 0 0):=(blk_cell BK161.out 3).trans rfl;have hcz20_4:w19.cell? ⟨gb161,4,none⟩=some (.bool false):=(blk_cell BK161.out 4).trans rfl;have hfz20_0:=blk_frozen BK161.out 0;have hfz20_1:=blk_frozen BK161.out 1;have hfz20_2:=blk_frozen BK161.out 2;have hfz20_3:=blk_frozen BK161.out 3;have hfz20_4:=blk_frozen BK161.out 4;obtain ⟨Ao21,co21,eo21⟩:=Kd.R_slice HO157.out;subst eo21) | ((with_reducible refine gate_store (t:=46) (p:=12) rfl ?_);refine store_event (t:=46) (p:=12) (v := ?vo_w22) (w1:=(((((w19.setCell ⟨gb161,0,none⟩ (.int .i64 t152)).setCell ⟨gb161,1,none⟩ (.string t153)).setCell ⟨gb161,2,none⟩ (.string t154)).setCell ⟨gb161,3,none⟩ (.slice Ao21 t155.length co21)).setCell ⟨gb161,4,none⟩ (.bool t158))) ?hg ?ho ?hn ?hr ?_;(case ho=>rfl);(case hg=>rfl);(case hn=>rfl);(case hr=>first | (go_simp;done) | (go_simp;rfl));intro w22 hw;have n0_:Aside0 (Kd.S k46 46 w22 w.heap.size (fun k_=>some k_≠(.slice Ao21 t155.length co21:Value).ownBlock∧k_≠gb161) u8 x8_7):=⟨(by rw [hw];exact (by (with_reducible repeat (first|apply Kd.S_alloc|apply Kd.S_drewN|apply Kd.S_drew));exact Kd.S_mono (Kd.S_far (p:=⟨gb161,4,none⟩) (Kd.S_far (p:=⟨gb161,3,none⟩) (Kd.S_far (p:=⟨gb161,2,none⟩) (Kd.S_far (p:=⟨gb161,1,none⟩) (Kd.S_far (p:=⟨gb161,0,none⟩) (Kd.S_mono HO_8.out (fun k_ hk=>(⟨hk,hk.2⟩:_∧k_≠gb161))) (fun _ hk=>hk.2) (.int .i64 t152)) (fun _ hk=>hk.2) (.string t153)) (fun _ hk=>hk.2) (.string t154)) (fun _ hk=>hk.2) (.slice Ao21 t155.length co21)) (fun _ hk=>hk.2) (.bool t158)) (fun _ hk=>⟨hk.1.1.2,hk.1.2⟩)))⟩;have n1_:Aside0 (Kd.R k87 87 w22 w.heap.size (fun _=>True) (.slice Ao21 t155.length co21) t155):=⟨(by rw [hw];exact (by (with_reducible repeat (first|apply Kd.R_alloc|apply Kd.R_drewN|apply Kd.R_drew));exact Kd.R_mono (Kd.R_far (p:=⟨gb161,4,none⟩) (Kd.R_far (p:=⟨gb161,3,none⟩) (Kd.R_far (p:=⟨gb161,2,none⟩) (Kd.R_far (p:=⟨gb161,1,none⟩) (Kd.R_far (p:=⟨gb161,0,none⟩) (Kd.R_types HO157.out BK161.out (by decide)) (fun _ hk=>hk.2) (.int .i64 t152)) (fun _ hk=>hk.2) (.string t153)) (fun _ hk=>hk.2) (.string t154)) (fun _ hk=>hk.2) (.slice Ao21 t155.length co21)) (fun _ hk=>hk.2) (.bool t158)) (fun _ hk=>trivial)))⟩;have n2_:Aside0 (w22.heap[gb161]? = some (.cells #[.int .i64 t152,.string t153,.string t154,.slice Ao21 t155.length co21,.bool t158] 46 (0,0))):=⟨(by rw [hw];exact (by (with_reducible repeat (first|refine blk_drewN ?_ _|refine blk_drew ?_|refine blk_alloc ?_ _));refine blk_put (cs := #[.int .i64 t152,.string t153,.string t154,.slice Ao21 t155.length co21,.bool false]) ?_ 4 _ rfl;(with_reducible repeat (first|refine blk_drewN ?_ _|refine blk_drew ?_|refine blk_alloc ?_ _));refine blk_put (cs := #[.int .i64 t152,.string t153,.string t154,.slice none 0 0,.bool false]) ?_ 3 _ rfl;(with_reducible repeat (first|refine blk_drewN ?_ _|refine blk_drew ?_|refine blk_alloc ?_ _));refine blk_put (cs := #[.int .i64 t152,.string t153,.string (⟨#[]⟩:ByteArray),.slice none 0 0,.bool false]) ?_ 2 _ rfl;(with_reducible repeat (first|refine blk_drewN ?_ _|refine blk_drew ?_|refine blk_alloc ?_ _));refine blk_put (cs := #[.int .i64 t152,.string (⟨#[]⟩:ByteArray),.string (⟨#[]⟩:ByteArray),.slice none 0 0,.bool false]) ?_ 1 _ rfl;(with_reducible repeat (first|refine blk_drewN ?_ _|refine blk_drew ?_|refine blk_alloc ?_ _));refine blk_put (cs := #[.int .i64 0,.string (⟨#[]⟩:ByteArray),.string (⟨#[]⟩:ByteArray),.slice none 0 0,.bool false]) ?_ 0 _ rfl;(with_reducible repeat (first|refine blk_drewN ?_ _|refine blk_drew ?_|refine blk_alloc ?_ _));exact BK161.out))⟩;have n3_:Aside0 (Below w.heap.size w w22):=⟨(by rw [hw];exact (by repeat (first | (with_reducible first|exact HB.out|apply below_alloc|apply pw_below_drewN|apply below_drew1|refine below_set ?_ GE161.out)|exact HB.out)))⟩;clear hw;clear HO_8;clear HO157;clear BK161;clear HB;have HO_8:=n0_;have HO157:=n1_;have BK161:=n2_;have HB:=n3_;clear n0_ n1_ n2_ n3_;have hcz23_0:w22.cell? ⟨gb161,0,none⟩=some (.int .i64 t152):=(blk_cell BK161.out 0).trans rfl;have hcz23_1:w22.cell? ⟨gb161,1,none⟩=some (.string t153):=(blk_cell BK161.out 1).trans rfl;have hcz23_2:w22.cell? ⟨gb161,2,none⟩=some (.string t154):=(blk_cell BK161.out 2).trans rfl;have hcz23_3:w22.cell? ⟨gb161,3,none⟩=some (.slice Ao21 t155.length co21):=(blk_cell BK161.out 3).trans rfl;have hcz23_4:w22.cell? ⟨gb161,4,none⟩=some (.bool t158):=(blk_cell BK161.out 4).trans rfl;have hfz23_0:=blk_frozen BK161.out 0;have hfz23_1:=blk_frozen BK161.out 1;have hfz23_2:=blk_frozen BK161.out 2;have hfz23_3:=blk_frozen BK161.out 3;have hfz23_4:=blk_frozen BK161.out 4) | ((with_reducible refine gate_builtin (b:=.append) (xs := #[.tmp 49,.tmp 51]) rfl ?_);at_builtin;refine Kd.S_append k46 (w0:=w) w.heap.size rfl (.tmp 49) (.tmp 51) 42 46 (.agg #[(.int .i64 0),(.string ⟨#[]⟩),(.string ⟨#[]⟩),(.slice none 0 0),(.bool false)]) 72 rfl Tryz.underlying42 info46 rfl (by decide) (by omega) u8 x8_7 (⟨t152,t153,t154,t155,t158⟩:S46) [.int .i64 t152,.string t153,.string t154,.slice Ao21 t155.length co21,.bool t158] (fun k_=>k_≠gb161) (fun k_=>some k_=(.slice Ao21 t155.length co21:Value).ownBlock) rfl rfl ?aP (fun k_ hk_=>((Kd.R_mono (ok':=fun k_=>((fun k_=>k_≠gb161)) k_∧some k_≠(u8:Value).ownBlock) (Kd.R_types (Kd.R_apart' (HO157.out) (Kd.S_typed HO_8.out) (by decide)) BK161.out (by decide)) (fun k_ hk=>⟨hk.2,hk.1.2⟩))).1 k_ hk_.symm) ?aF ?aO ?aB ?aS ?aL ?_;(case aP=>exact k46_mkM _ _ _ (⟨t152,t153,t154,t155,t158⟩:S46) (Kd.R_mono (Kd.R_tight rfl (Kd.R_mono (ok':=fun k_=>((fun k_=>k_≠gb161)) k_∧some k_≠(u8:Value).ownBlock) (Kd.R_types (Kd.R_apart' (HO157.out) (Kd.S_typed HO_8.out) (by decide)) BK161.out (by decide)) (fun k_ hk=>⟨hk.2,hk.1.2⟩))) (fun _ h_=>h_)));(case aB=>exact (by repeat (first | (with_reducible first|exact HB.out|apply below_alloc|apply pw_below_drewN|apply below_drew1|refine below_set ?_ GE161.out)|exact HB.out)));(case aF=>exact (fun k_ hk=>Kd.freshB (g:=gb161) (o:=.cells #[.int .i64 t152,.string t153,.string t154,.slice Ao21 t155.length co21,.bool t158] 46 (0,0)) (by (with_reducible repeat (first|refine blk_drewN ?_ _|refine blk_drew ?_|refine blk_alloc ?_ _));exact BK161.out) k_ hk));(case aO=>exact (by (with_reducible repeat (first|apply Kd.S_alloc|apply Kd.S_drewN|apply Kd.S_drew));exact Kd.S_mono HO_8.out (fun k_ hk=>⟨hk.2,fun e_=>hk.1 e_⟩)));(case aS=>exact (below_size (by repeat (first | (with_reducible first|exact HB.out|apply below_alloc|apply pw_below_drewN|apply below_drew1|refine below_set ?_ GE161.out)|exact HB.out))));(case aL=>have:=LMc17.out;omega);intro v163 w24 ho hb hg hat;rw [← Ny162.out] at ho;have n0_:=Aside0.mk (blk_grown (g:=gb161) (o:=.cells #[.int .i64 t152,.string t153,.string t154,.slice Ao21 t155.length co21,.bool t158] 46 (0,0)) (by (with_reducible repeat (first|refine blk_drewN ?_ _|refine blk_drew ?_|refine blk_alloc ?_ _));exact BK161.out) hg (Kd.S_away HO_8.out (fun _ hk=>hk.2)));have n1_:=Aside0.mk (hb);have n2_:=Aside0.mk (ho);clear BK161;clear HB;clear HO_8;clear HO157;have BK161:=n0_;have HB:=n1_;have HO164:=n2_;clear n0_ n1_ n2_;clear ho hb hg hat))
            go_ret2
            exact ⟨_,by first|rfl | (simp [errW_none,errW_some]<;>rfl) | (simp [*,errW_none,errW_some]<;>rfl),by (with_reducible repeat (first|apply Kd.S_alloc|apply Kd.S_drewN|apply Kd.S_drew));exact Kd.S_mono HO164.out (fun _ hk=>trivial),by repeat (first | (with_reducible first|exact HB.out|apply below_alloc|apply pw_below_drewN|apply below_drew1|refine below_set ?_ GE161.out)|exact HB.out)⟩
          · rw [if_neg c17] at H
            exact absurd H (by simp)
        · replace c16:=Bool.eq_false_iff.mpr c16
          subst c16
          have H1:(some (x8_7,t159))=some (r1,r2):=by rw [if_neg (show ¬ (false=true) by decide)] at H;exact H
          clear H
          have H:=H1
          clear H1
          simp only [Option.some.injEq,Prod.mk.injEq] at H
          obtain ⟨rfl,rfl⟩:=H
          go_wp2_with (first | ((with_reducible refine gate_callee (f:=90) rfl ?_);refine goesL_ (some 44) rfl rfl Tryz.func90 (by kernel_rfl) rfl #[.string a0,.int .i64 t147] rfl (by (try simp only [List.map_toArray,List.map_cons,List.map_nil]);first|done|rfl | (simp only [List.length_drop,List.length_take];rfl)) ?_;(with_reducible refine (tag_Read.calls a0 t147 t152 t153 t154 t155 t158 t159 false _ ?side1 A15.out).mono ?_);(case side1=>exact Glob.step hGl (by repeat (first | (with_reducible first|exact HB.out|apply below_alloc|apply pw_below_drewN|apply below_drew1)|exact HB.out)));rintro e w25 ⟨v156,rfl,ho0,hb⟩;refine ⟨_,rfl,?_⟩;have n0_:=Aside0.mk (Kd.S_elder' (by (with_reducible repeat (first|apply Kd.S_alloc|apply Kd.S_drewN|apply Kd.S_drew));exact HO_8.out) (Kd.R_base ho0) hb);have n1_:=Aside0.mk (Kd.R_lower ho0 (below_size (by repeat (first | (with_reducible first|exact HB.out|apply below_alloc|apply pw_below_drewN|apply below_drew1)|exact HB.out))));have n2_:=Aside0.mk (below_step (by repeat (first | (with_reducible first|exact HB.out|apply below_alloc|apply pw_below_drewN|apply below_drew1)|exact HB.out)) hb);clear HO_8;clear HB;have HO_8:=n0_;have HO157:=n1_;have HB:=n2_;clear n0_ n1_ n2_;(try clear hb);(try clear hb2);(try clear hk);(try clear hi);(try clear ho0)) | ((with_reducible refine gate_dst (N:=12) rfl ?_);refine box_event ?hg (N:=12) ?hd (cs := #[.int .i64 0,.string (⟨#[]⟩:ByteArray),.string (⟨#[]⟩:ByteArray),.slice none 0 0,.bool false]) (t:=46) ?hr ?_;(case hd=>rfl);(case hg=>rfl);(case hr=>first | (go_simp;done) | (go_simp;rfl));intro gb161 hg w26 hbox hb;have n0_:=Aside0.mk (Kd.S_below (Kd.S_elderB (by (with_reducible repeat (first|apply Kd.S_alloc|apply Kd.S_drewN|apply Kd.S_drew));exact HO_8.out) gb161 (Nat.le_of_eq hg.symm)) hb);have n1_:=Aside0.mk (Kd.R_below (by (with_reducible repeat (first|apply Kd.R_alloc|apply Kd.R_drewN|apply Kd.R_drew));exact HO157.out) hb);have n2_:=Aside0.mk (below_step (by repeat (first | (with_reducible first|exact HB.out|apply below_alloc|apply pw_below_drewN|apply below_drew1)|exact HB.out)) hb);have n3_:=Aside0.mk (hbox);have n4_:=Aside0.mk ((by rw [hg];exact (below_size (by repeat (first | (with_reducible first|exact HB.out|apply below_alloc|apply pw_below_drewN|apply below_drew1)|exact HB.out))):w.heap.size≤gb161));have n5_:=Aside0.mk ((by rw [hg];exact (below_size (by repeat (first | (with_reducible first|exact HB.out|apply below_alloc|apply pw_below_drewN|apply below_drew1)|exact HB.out))):w.heap.size≤gb161));clear HO_8;clear HO157;clear HB;have HO_8:=n0_;have HO157:=n1_;have HB:=n2_;have BK161:=n3_;have GW161:=n4_;have GE161:=n5_;clear n0_ n1_ n2_ n3_ n4_ n5_;clear hb hbox hg;have hcz27_0:w26.cell? ⟨gb161,0,none⟩=some (.int .i64 0):=(blk_cell BK161.out 0).trans rfl;have hcz27_1:w26.cell? ⟨gb161,1,none⟩=some (.string (⟨#[]⟩:ByteArray)):=(blk_cell BK161.out 1).trans rfl;have hcz27_2:w26.cell? ⟨gb161,2,none⟩=some (.string (⟨#[]⟩:ByteArray)):=(blk_cell BK161.out 2).trans rfl;have hcz27_3:w26.cell? ⟨gb161,3,none⟩=some (.slice none 0 0):=(blk_cell BK161.out 3).trans rfl;have hcz27_4:w26.cell? ⟨gb161,4,none⟩=some (.bool false):=(blk_cell BK161.out 4).trans rfl;have hfz27_0:=blk_frozen BK161.out 0;have hfz27_1:=blk_frozen BK161.out 1;have hfz27_2:=blk_frozen BK161.out 2;have hfz27_3:=blk_frozen BK161.out 3;have hfz27_4:=blk_frozen BK161.out 4;obtain ⟨Ao28,co28,eo28⟩:=Kd.R_slice HO157.out;subst eo28))
          go_ret2
          exact ⟨_,by first|rfl | (simp [errW_none,errW_some]<;>rfl) | (simp [*,errW_none,errW_some]<;>rfl),by (with_reducible repeat (first|apply Kd.S_alloc|apply Kd.S_drewN|apply Kd.S_drew));exact Kd.S_mono (Kd.S_far (p:=⟨gb161,4,none⟩) (Kd.S_far (p:=⟨gb161,3,none⟩) (Kd.S_far (p:=⟨gb161,2,none⟩) (Kd.S_far (p:=⟨gb161,1,none⟩) (Kd.S_far (p:=⟨gb161,0,none⟩) (Kd.S_mono HO_8.out (fun k_ hk=>(⟨hk,hk.2⟩:_∧k_≠gb161))) (fun _ hk=>hk.2) (.int .i64 t152)) (fun _ hk=>hk.2) (.string t153)) (fun _ hk=>hk.2) (.string t154)) (fun _ hk=>hk.2) (.slice Ao28 t155.length co28)) (fun _ hk=>hk.2) (.bool t158)) (fun _ hk=>trivial),by repeat (first | (with_reducible first|exact HB.out|apply below_alloc|apply pw_below_drewN|apply below_drew1|refine below_set ?_ GE161.out)|exact HB.out)⟩
 · replace c7:=Bool.eq_false_iff.mpr c7
   subst c7
   have H1:(some (([]:List (S46)),t145))=some (r1,r2):=by rw [if_neg (show ¬ (false=true) by decide)] at H;exact H
   clear H
   have H:=H1
   clear H1
   simp only [Option.some.injEq,Prod.mk.injEq] at H
   obtain ⟨rfl,rfl⟩:=H
   go_enter Tryz.func62,Tryz.ntmps62
   go_wp2_with (first | ((with_reducible refine gate_callee (f:=88) rfl ?_);refine goesL_ (some 15) rfl rfl Tryz.func88 (by kernel_rfl) rfl #[.string a0,.int .i64 a1] rfl (by (try simp only [List.map_toArray,List.map_cons,List.map_nil]);first|done|rfl | (simp only [List.length_drop,List.length_take];rfl)) ?_;(with_reducible refine (tok_inside.calls a0 a1 t145 _ A5.out).mono ?_);rintro e w29 ⟨rfl,hb⟩;refine ⟨_,rfl,?_⟩;have n0_:=Aside0.mk (below_step (by repeat (first | (with_reducible first|exact HB.out|apply below_alloc|apply pw_below_drewN|apply below_drew1)|exact HB.out)) hb);clear HB;have HB:=n0_;clear n0_;(try clear hb);(try clear hb2);(try clear hk);(try clear hi)) | ((with_reducible refine gate_callee (f:=97) rfl ?_);refine goesL_ (some 21) rfl rfl Tryz.func97 (by kernel_rfl) rfl #[.string a0,.int .i64 t145,.int .i64 a2,.string a3] rfl (by (try simp only [List.map_toArray,List.map_cons,List.map_nil]);first|done|rfl | (simp only [List.length_drop,List.length_take];rfl)) ?_;(with_reducible refine (tok_ends.calls k a0 t145 a2 a3 t146 t147 false _ ?side1 A6.out).mono ?_);(case side1=>exact Glob.step hGl (by repeat (first | (with_reducible first|exact HB.out|apply below_alloc|apply pw_below_drewN|apply below_drew1)|exact HB.out)));rintro e w30 ⟨rfl,hb⟩;refine ⟨_,rfl,?_⟩;have n0_:=Aside0.mk (below_step (by repeat (first | (with_reducible first|exact HB.out|apply below_alloc|apply pw_below_drewN|apply below_drew1)|exact HB.out)) hb);clear HB;have HB:=n0_;clear n0_;(try clear hb);(try clear hb2);(try clear hk);(try clear hi)))
   go_ret2
   exact ⟨_,by first|rfl | (simp [errW_none,errW_some]<;>rfl) | (simp [*,errW_none,errW_some]<;>rfl),by first|exact Kd.S_nil _ _ _ _ _|exact Kd.N_nil _ _ _ _ _|exact Kd.V_nil _ _ _ _ _|exact Kd.Q_nil _ _ _ _ _|exact Kd.R_nil _ _ _ _ _,by repeat (first | (with_reducible first|exact HB.out|apply below_alloc|apply pw_below_drewN|apply below_drew1)|exact HB.out)⟩
end Go.Proofs.YtcecjoaeolglbaaGreatDoor.St
end

section
namespace Go.Proofs.YtcecjoaeolglbaaGreatDoor.Hand
open Go Go.RowKit Go.Proofs.YtcecjoaeolglbaaGreatDoor.Pl Go.Proofs.YtcecjoaeolglbaaGreatDoor.Pb Go.Proofs.YtcecjoaeolglbaaGreatDoor.Pure
def stepJ (out:List Tk):Tk→List Tk
 | .text s=>if s=[] then out else match out.getLast? with
   | some (.text u)=>out.dropLast++[.text (u++s)]
   | _=>out++[.text s]
 | t=>out++[t]
def isTx:Tk→Bool
 | .text _=>true
 | _=>false
theorem joinL_nil0 (r:List Tk):joinL (.text []::r)=joinL r:=by
 rw [joinL]
 cases joinL r with
 | nil=>rfl
 | cons t q=>cases t<;>rfl
theorem joinL_no {t:Tk} (r:List Tk) (h:isTx t=false):joinL (t::r)=t::joinL r:=by
 cases t<;>first|rfl|cases h
theorem joinL_two (u s:List UInt8) (r:List Tk) (hs:s≠[]):joinL (.text u :: .text s::r)=joinL (.text (u++s)::r):=by
 rw [joinL,joinL,joinL]
 cases joinL r with
 | nil=>simp [txtT,hs]
 | cons t q=>cases t<;>simp [txtT,hs]
theorem joinL_txno {t:Tk} (u:List UInt8) (r:List Tk) (h:isTx t=false):joinL (.text u::t::r)=txtT u++t::joinL r:=by
 rw [joinL,joinL_no r h]
 cases t<;>first|rfl|cases h
theorem stepJ_no {t:Tk} (o:List Tk) (h:isTx t=false):stepJ o t=o++[t]:=by cases t<;>first|rfl|cases h
theorem stepJ_nil (o:List Tk):stepJ o (.text [])=o:=by unfold stepJ;simp
theorem stepJ_tt (o:List Tk) {u s:List UInt8} (hs:s≠[]):stepJ (o++[.text u]) (.text s)=o++[.text (u++s)]:=by unfold stepJ;simp [hs]
theorem stepJ_new (o:List Tk) {s:List UInt8} (hs:s≠[]) (h:∀ u,o.getLast? ≠ some (.text u)):stepJ o (.text s)=o++[.text s]:=by
 simp only [stepJ,if_neg hs]
theorem join_fold (l:List Tk):∀ o:List Tk,(∀ u,u≠[]→l.foldl stepJ (o++[.text u])=o++joinL (.text u::l))∧((∀ u,o.getLast? ≠ some (.text u))→l.foldl stepJ o=o++joinL l):=by
 induction l with
 | nil=>intro o;exact ⟨fun u hu=>by simp [joinL,txtT,hu],fun _=>by simp [joinL]⟩
 | cons t r ih =>
   intro o
   have other:isTx t=false→∀ o2:List Tk,(t::r).foldl stepJ o2=o2++t::joinL r:=fun ht o2=>by
    rw [List.foldl_cons,stepJ_no _ ht,(ih (o2++[t])).2 (fun u=>by
     rw [List.getLast?_append];intro e;simp at e;subst e;cases ht)]
    simp
   cases ht:isTx t with
   | false =>
     refine ⟨fun u hu => ?_,fun _ => ?_⟩
     · rw [other ht,joinL_txno u r ht]
       simp [txtT,hu]
     · rw [other ht,joinL_no r ht]
   | true =>
     obtain ⟨s,rfl⟩:∃ s,t = .text s:=by cases t<;>first|exact ⟨_,rfl⟩|cases ht
     by_cases hs:s=[]
     · subst hs
       refine ⟨fun u hu => ?_,fun h => ?_⟩
       · rw [List.foldl_cons,stepJ_nil,(ih o).1 u hu,joinL,joinL,joinL_nil0]
       · rw [List.foldl_cons,stepJ_nil,(ih o).2 h,joinL_nil0]
     · refine ⟨fun u hu => ?_,fun h => ?_⟩
       · rw [List.foldl_cons,stepJ_tt o hs,(ih o).1 _ (by simp [hu]),joinL_two u s r hs]
       · rw [List.foldl_cons,stepJ_new o hs h,(ih o).1 s hs]
theorem join_eq (l:List Tk):l.foldl stepJ []=joinL l:=by
 rw [(join_fold l []).2 (fun u=>by simp)];rfl
end Go.Proofs.YtcecjoaeolglbaaGreatDoor.Hand
end

section
namespace Go.Proofs.YtcecjoaeolglbaaGreatDoor.Pure
open Go Go.RowKit Go.Proofs.YtcecjoaeolglbaaGreatDoor.K0 Go.Proofs.YtcecjoaeolglbaaGreatDoor.Hand Go.Proofs.YtcecjoaeolglbaaGreatDoor.Sa Go.Proofs.YtcecjoaeolglbaaGreatDoor.Si Go.Proofs.YtcecjoaeolglbaaGreatDoor.St Go.Proofs.YtcecjoaeolglbaaGreatDoorW.PrintWords Go.Proofs.YtcecjoaeolglbaaGreatDoorW.PrintMore Go.Proofs.YtcecjoaeolglbaaGreatDoor.Pl Go.Proofs.YtcecjoaeolglbaaGreatDoor.Pb
abbrev TkS:=S46
def ofK (t:Tk):TkS:=⟨(tkC t).1,B (tkC t).2.1,B (tkC t).2.2.1,(tkC t).2.2.2.1.map ofT,(tkC t).2.2.2.2⟩
theorem inside_f {s:List UInt8} {p:Nat} (_:s.length≤100000) (hp:p≤s.length):tok_inside.f (B s) (p:Int)=some (p:Int):=by
 unfold tok_inside.f
 rw [size_B]
 congr 1
 unfold mn mx
 repeat' split
 all_goals omega
theorem inT_ok {s:List UInt8} {p:Nat} (hs:s.length≤100000) (hp:p≤s.length):inT (B s) (p:Int):=⟨by rw [size_B];exact hs,by omega,by rw [size_B];omega⟩
theorem atT_B (s:List UInt8) (p:Nat):atT (B s) (p:Int)=s.drop p:=by unfold atT;rw [B_data];rfl
theorem next_f {s:List UInt8} {p:Nat} (hs:s.length≤100000) (hp:p≤s.length):tok_Next.f (B s) (p:Int)=some (tkOut s.length (tokL (s.drop p))):=by
 have hin:=inT_ok hs hp
 unfold tok_Next.f
 rw [inside_f hs hp,Option.bind_some]
 unfold tag_Begins.f tag_Read.f doctype_Begins.f doctype_Read.f text_Read.f
 rw [if_pos hin,Option.bind_some,atT_B]
 by_cases h1:tagN (s.drop p)=0
 · rw [if_neg (by simp [h1]),Pcb.begC_f s p (by omega) hp,Option.bind_some]
   have hk:tokL (s.drop p)=if begC (s.drop p)=true then (some (.comment (cleanL (readC (s.drop p)).1)),(s.drop p).drop (readC (s.drop p)).2)
     else if begR (s.drop p) docL=true then (some (.doctype (cleanL (upto 62 ((s.drop p).drop 9)))),past 62 ((s.drop p).drop 9))
     else if begR (s.drop p) voidL=true then (none,(s.drop p).drop 3)
     else if txN (s.drop p)=0 then (none,s.drop p)
     else (some (.text (rdL false ((s.drop p).take (txN (s.drop p))))),(s.drop p).drop (txN (s.drop p))):=by
    unfold tokL;rw [if_neg (by simp [h1])]
   rw [hk]
   by_cases h2:begC (s.drop p)=true
   · rw [if_pos h2,if_pos h2,Pcm.read_f s p (by omega) hp,Option.bind_some]
     unfold Pcm.tokC
     rw [if_pos h2]
     have hn:p+(readC (s.drop p)).2=s.length - ((s.drop p).drop (readC (s.drop p)).2).length:=by
      have:=readC_in h2
      rw [List.length_drop] at this
      rw [List.length_drop,List.length_drop];omega
     unfold tkOut
     simp only [hn]
     rfl
   · rw [if_neg h2,if_neg h2,if_pos hin,Option.bind_some]
     by_cases h3:begR (s.drop p) docL=true
     · simp only [if_pos h3,if_pos hin,Option.bind_some,size_B]
     · rw [if_neg h3,if_neg h3,show (⟨#[60,47,62]⟩:ByteArray)=B voidL from rfl,begins_f s voidL p (by omega) (by decide) hp,Option.bind_some]
       by_cases h4:begR (s.drop p) voidL=true
       · rw [if_pos h4,if_pos h4]
         have hl:=begR_length _ _ h4
         rw [List.length_drop] at hl
         simp only [voidL,List.length_cons,List.length_nil] at hl
         have w:wrap64 ((p:Int)+3)=((s.length - ((s.drop p).drop 3).length:Nat):Int):=by
          rw [List.length_drop,List.length_drop];unfold wrap64;omega
         rw [w];rfl
       · rw [if_neg h4,if_neg h4,if_pos hin,Option.bind_some]
         have hl:=txN_le (s.drop p)
         rw [List.length_drop] at hl
         simp only [Int.toNat_natCast]
         by_cases h5:txN (s.drop p)=0
         · rw [if_pos (by rw [h5];rfl),if_pos h5]
           have:s.length - (s.drop p).length=p:=by rw [List.length_drop];omega
           unfold tkOut
           simp only [this]
         · rw [if_neg (by omega),if_neg h5]
           have:s.length - ((s.drop p).drop (txN (s.drop p))).length=p+txN (s.drop p):=by rw [List.length_drop,List.length_drop];omega
           unfold tkOut
           simp only [this]
           rfl
 · rw [if_pos (by simpa using h1),if_pos hin,Option.bind_some,size_B]
   have:tokL (s.drop p)=tagR (s.drop p):=by unfold tokL tagR;rw [if_pos h1,if_neg h1]
   rw [this]
theorem rawText_f {x:List UInt8} (refs:Bool) (hx:x.length≤100000):raw_Text.f (B x) refs=some (B (rawT refs x)):=by
 have hr:=rdL_le false x
 unfold raw_Text.f rawT ref_Decode.f
 cases refs with
 | true =>
   rw [if_pos rfl,if_pos (by rw [size_B];exact hx),Option.bind_some,B_data,clean_f _ (by omega)];rfl
 | false =>
   rw [if_neg (by decide),clean_f _ (by omega)];rfl
theorem tok_ends_ev {s:List UInt8} {p:Nat} (name:List UInt8) {st:Nat} (hs:s.length≤100000) (hp:p≤s.length) (hl:name.length≤100000) (h4:st≤4) :
  Ev (fun k=>tok_ends.f k (B s) (p:Int) (st:Int) (B name)) (if st=0 then (⟨#[]⟩,(p:Int),false) else (B (rawT (st == 1) ((s.drop p).take (endN st name (s.drop p)))),((p+endN st name (s.drop p):Nat):Int),true)):=by
 have hf:raw_Find.f (B s) (p:Int) (B name)=some ((p+firstE name (s.drop p):Nat):Int):=by
  unfold raw_Find.f
  rw [if_pos (by rw [size_B,size_B];omega),B_data,B_data,size_B,show clN s.length (p:Int)=p by unfold clN;split<;>(try split)<;>omega,rawFind_first s name p hp]
 have hfl:firstE name (s.drop p)≤s.length - p:=by
  have:∀ l:List UInt8,firstE name l≤l.length:=fun l=>by
   induction l with
   | nil=>exact Nat.le_refl _
   | cons c r ih=>rw [firstE];split<;>simp only [List.length_cons]<;>omega
  have:=this (s.drop p)
  rwa [List.length_drop] at this
 have hx:∀ n,(B s).extract p (p+n)=B ((s.drop p).take n):=fun n=>by rw [B_extract,List.drop_take,Nat.add_sub_cancel_left]
 have hz:((B s).size:Int)=(s.length:Int):=by rw [size_B]
 have hR:∀ n,n≤s.length - p→∀ b,raw_Text.f ((B s).extract ((p:Nat):Int).toNat ((p+n:Nat):Int).toNat) b=some (B (rawT b ((s.drop p).take n))):=fun n hn b=>by
  rw [Int.toNat_natCast,Int.toNat_natCast,hx,rawText_f b (by rw [List.length_take,List.length_drop];omega)]
 unfold tok_ends.f
 simp only [hf,Option.bind_some]
 have hj:∀ (n:Nat),n≤s.length - p→∀ v,Ev (fun k=>tok_ends.j0 k (B s) (p:Int) (st:Int) ((p+n:Nat):Int) v true) (B (rawT (st == 1) ((s.drop p).take n)),((p+n:Nat):Int),true):=fun n hn v=>by
  refine Ev.step (f:=fun _=>some (B (rawT (st == 1) ((s.drop p).take n)),((p+n:Nat):Int),true)) (fun k => ?_) (Ev.now _)
  have hb:((st:Int) == 1)=(st == 1):=by rw [Bool.eq_iff_iff,beq_iff_eq,beq_iff_eq];omega
  rw [tok_ends.j0,if_pos rfl,if_pos (by omega),if_pos (by omega),if_pos (by rw [hz];omega),hR n hn,Option.bind_some]
  simp only [hb]
 by_cases h3:st=3
 · subst h3
   simp only [if_pos (show (((3:Nat):Int)=3) from rfl),if_neg (show ¬ ((3:Nat)=0) by decide)]
   have hF:=find_f s (by omega) (p:Int)
   rw [show clampN s.length (p:Int)=p by unfold clampN;split<;>(try split)<;>omega] at hF
   have he:endN 3 name (s.drop p)=(findL 0 0 (s.drop p)).1:=rfl
   have hfe:(findL 0 0 (s.drop p)).1≤s.length - p:=by
    have:∀ n st ct (l:List UInt8),(runF n st ct l).1≤l.length:=fun n=>by
     induction n with
     | zero=>intro st ct l;exact Nat.zero_le _
     | succ n ih =>
       intro st ct l
       rw [runF]
       split
       · exact Nat.zero_le _
       · rename_i m st' ct' h
         have h1:=stepF_adv h
         have h2:=ih st' ct' (l.drop m)
         rw [List.length_drop] at h2
         simp only;omega
    have:=this (s.drop p).length 0 0 (s.drop p)
    rw [List.length_drop] at this
    unfold findL;rw [List.length_drop];exact this
   rw [he]
   refine Ev.bind hF ?_
   unfold findV
   simp only
   have q1:(0:Int)≤(p:Int):=by omega
   have q2:(p:Int)≤((p+(findL 0 0 (s.drop p)).1:Nat):Int):=by omega
   have q3:((p+(findL 0 0 (s.drop p)).1:Nat):Int)≤((B s).size:Int):=by rw [hz];omega
   simp only [if_pos q1,if_pos q2,if_pos q3,hR _ hfe,Option.bind_some]
   exact Ev.now _
 · have n3:¬ (st:Int)=3:=by omega
   simp only [if_neg n3]
   by_cases h1:st=1
   · subst h1
     simp only [if_pos (show (((1:Nat):Int)=1) from rfl),if_neg (show ¬ ((1:Nat)=0) by decide)]
     exact hj _ hfl _
   · have n1:¬ (st:Int)=1:=by omega
     simp only [if_neg n1]
     by_cases h2:st=2
     · subst h2
       rw [if_neg (by decide)]
       exact hj _ hfl _
     · have hb2:((st:Int) == 2)=false:=by rw [beq_eq_false_iff_ne];omega
       rw [hb2]
       by_cases h0:st=0
       · subst h0
         rw [if_pos rfl]
         exact Ev.step (f:=fun _=>some (⟨#[]⟩,(p:Int),false)) (fun k=>by rw [tok_ends.j0,if_neg (by decide),if_neg (by decide)]) (Ev.now _)
       · have h4':st=4:=by omega
         subst h4'
         rw [if_neg (by decide)]
         have he:endN 4 name (s.drop p)=s.length - p:=by unfold endN;rw [if_neg (by decide),if_neg (by decide),List.length_drop]
         rw [he]
         refine Ev.step (f:=fun _=>some (B (rawT false ((s.drop p).take (s.length - p))),((p+(s.length - p):Nat):Int),true)) (fun k => ?_) (Ev.now _)
         have e1:(s.drop p).take (s.length - p)=s.drop p:=List.take_of_length_le (Nat.le_of_eq List.length_drop)
         have e2:(B s).extract ((p:Nat):Int).toNat (B s).size=B (s.drop p):=by rw [Int.toNat_natCast,size_B,B_extract,List.take_length]
         rw [tok_ends.j0,if_neg (by decide),if_pos (by decide),if_pos (by omega),if_pos (by rw [hz];omega),e2,clean_f _ (by rw [List.length_drop];omega),Option.bind_some,e1,hz,show p+(s.length - p)=s.length by omega]
         rfl
theorem B_nil_iff (x:List UInt8):(B x).toList=[]↔x=[]:=by rw [toList_data,B_data]
theorem tagOut {s:List UInt8} {p:Nat} (X:List TkS) (hX:X.length≤100) (hs:s.length≤100000) (hp:p≤s.length) :
  Ev (fun k=>tok_Rest.j0 k (B s) X (p:Int)) (if p=s.length then (X,(p:Int)) else (X++((tagR (s.drop p)).1.toList.map ofK),((s.length - (tagR (s.drop p)).2.length:Nat):Int))):=by
 by_cases h:p=s.length
 · rw [if_pos h]
   exact Ev.step (f:=fun _=>some (X,(p:Int))) (fun k=>by rw [tok_Rest.j0,if_pos (by rw [size_B,h])]) (Ev.now _)
 · rw [if_neg h]
   refine Ev.step (f:=fun _=>some (X++((tagR (s.drop p)).1.toList.map ofK),((s.length - (tagR (s.drop p)).2.length:Nat):Int))) (fun k => ?_) (Ev.now _)
   rw [tok_Rest.j0,if_neg (by rw [size_B];omega)]
   unfold tag_Read.f
   rw [if_pos (inT_ok hs hp),Option.bind_some,atT_B,size_B]
   generalize tagR (s.drop p)=R
   obtain ⟨o,r⟩:=R
   cases o with
   | none=>simp [tkOut]
   | some t =>
     unfold tkOut
     simp only [if_true]
     rw [if_pos (by omega)]
     rfl
theorem rest_ev {s:List UInt8} {p:Nat} (name:List UInt8) {st:Nat} (hs:s.length≤100000) (hp:p≤s.length) (hl:name.length≤100000) (h4:st≤4) :
  Ev (fun k=>tok_Rest.f k (B s) (p:Int) (st:Int) (B name)) ((restL st name (s.drop p)).1.map ofK,((s.length - (restL st name (s.drop p)).2.length:Nat):Int)):=by
 have hE:=tok_ends_ev name hs hp hl h4
 unfold tok_Rest.f
 simp only [inside_f hs hp,Option.bind_some]
 refine Ev.bind hE ?_
 by_cases h0:st=0
 · have hr:restL st name (s.drop p)=([],s.drop p):=by unfold restL;rw [if_pos (.inl h0)]
   rw [if_pos h0,hr]
   have:s.length - (s.drop p).length=p:=by rw [List.length_drop];omega
   simp only [this]
   exact Ev.now _
 · rw [if_neg h0]
   have hno:¬ (st=0∨4<st):=by omega
   have hn:endN st name (s.drop p)≤s.length - p:=by
    have h1:∀ l:List UInt8,firstE name l≤l.length:=fun l=>by
     induction l with
     | nil=>exact Nat.le_refl _
     | cons c r ih=>rw [firstE];split<;>simp only [List.length_cons]<;>omega
    have h2:∀ n st ct (l:List UInt8),(runF n st ct l).1≤l.length:=fun n=>by
     induction n with
     | zero=>intro st ct l;exact Nat.zero_le _
     | succ n ih =>
       intro st ct l
       rw [runF]
       split
       · exact Nat.zero_le _
       · rename_i m st' ct' h
         have h1:=stepF_adv h
         have h2:=ih st' ct' (l.drop m)
         rw [List.length_drop] at h2
         simp only;omega
    have h3:=h1 (s.drop p)
    have h5:=h2 (s.drop p).length 0 0 (s.drop p)
    unfold endN findL
    rw [List.length_drop] at *
    split
    · exact h3
    · split
      · exact h5
      · exact Nat.le_refl _
   have hrest:restL st name (s.drop p)=if (s.drop p).drop (endN st name (s.drop p))=[] then (txtT (rawT (st == 1) ((s.drop p).take (endN st name (s.drop p)))),[])
     else (txtT (rawT (st == 1) ((s.drop p).take (endN st name (s.drop p))))++(tagR ((s.drop p).drop (endN st name (s.drop p)))).1.toList,(tagR ((s.drop p).drop (endN st name (s.drop p)))).2):=by
    unfold restL;rw [if_neg hno]
   rw [hrest]
   generalize rawT (st == 1) ((s.drop p).take (endN st name (s.drop p)))=u
   generalize endN st name (s.drop p)=n at *
   simp only [if_true]
   have key:∀ X:List TkS,X.length≤100→X=(txtT u).map ofK→Ev (fun k=>tok_Rest.j0 k (B s) X ((p+n:Nat):Int)) ((if (s.drop p).drop n=[] then (txtT u,[]) else (txtT u++(tagR ((s.drop p).drop n)).1.toList,(tagR ((s.drop p).drop n)).2)).1.map ofK,((s.length - (if (s.drop p).drop n=[] then (txtT u,([]:List UInt8)) else (txtT u++(tagR ((s.drop p).drop n)).1.toList,(tagR ((s.drop p).drop n)).2)).2.length:Nat):Int)):=by
    intro X hX hXe
    have hT:=tagOut (s:=s) (p:=p+n) X hX hs (by omega)
    rw [List.drop_drop]
    by_cases he:p+n=s.length
    · rw [if_pos he] at hT
      rw [if_pos (by rw [he,List.drop_length])]
      rw [hXe,he] at hT
      rw [hXe,he]
      exact hT
    · rw [if_neg he] at hT
      rw [if_neg (by rw [List.drop_eq_nil_iff];omega)]
      simp only [List.map_append]
      rw [← hXe]
      exact hT
   by_cases hu:u=[]
   · simp only [if_pos ((B_nil_iff u).2 hu)]
     refine key [] (by simp) ?_
     unfold txtT;rw [if_pos hu];rfl
   · simp only [if_neg (fun e=>hu ((B_nil_iff u).1 e))]
     have q:([]:List TkS).length<1954687338268:=by decide
     simp only [if_pos q]
     refine key _ (by simp) ?_
     unfold txtT;rw [if_neg hu];rfl
end Go.Proofs.YtcecjoaeolglbaaGreatDoor.Pure
end

section
namespace Go.Proofs.YtcecjoaeolglbaaGreatDoor.Pure
open Go Go.RowKit Go.Proofs.YtcecjoaeolglbaaGreatDoor.K0 Go.Proofs.YtcecjoaeolglbaaGreatDoor.Hand Go.Proofs.YtcecjoaeolglbaaGreatDoor.Sa Go.Proofs.YtcecjoaeolglbaaGreatDoor.Si Go.Proofs.YtcecjoaeolglbaaGreatDoor.St Go.Proofs.YtcecjoaeolglbaaGreatDoorW.PrintWords Go.Proofs.YtcecjoaeolglbaaGreatDoorW.PrintMore Go.Proofs.YtcecjoaeolglbaaGreatDoor.Pl Go.Proofs.YtcecjoaeolglbaaGreatDoor.Pb
theorem rd_map {l:List Tk} {i:Nat} (h:i<l.length):rd_T46 (l.map ofK) (i:Int)=ofK l[i]:=by
 unfold rd_T46
 rw [Int.toNat_natCast,List.getD_eq_getElem?_getD,List.getElem?_map,List.getElem?_eq_getElem h];rfl
end Go.Proofs.YtcecjoaeolglbaaGreatDoor.Pure
end

section
namespace Go.Proofs.YtcecjoaeolglbaaGreatDoor.Hand
open Go Go.RowKit Go.Proofs.YtcecjoaeolglbaaGreatDoor.Pl Go.Proofs.YtcecjoaeolglbaaGreatDoor.Pb Go.Proofs.YtcecjoaeolglbaaGreatDoor.Pure
theorem past_suf (c:UInt8) (l:List UInt8):past c l <:+ l:=List.drop_suffix _ _
theorem valA_suf {r v r':List UInt8} (h:valA r=some (v,r')):r' <:+ r:=by
 have h1:spL r <:+ r:=List.dropWhile_suffix _
 unfold valA at h
 split at h
 · rename_i r2 he
   have h2:r2 <:+ r:=((List.suffix_cons 61 r2).trans (he ▸ h1))
   have h3:spL r2 <:+ r2:=List.dropWhile_suffix _
   split at h
   · cases h;exact List.nil_suffix
   · rename_i c r3 he2
     have h4:c::r3 <:+ r:=he2 ▸ h3.trans h2
     have h5:r3 <:+ r:=(List.suffix_cons c r3).trans h4
     split at h
     · split at h
       · cases h;exact (past_suf _ _).trans h5
       · cases h
     · split at h
       · cases h;exact h4
       · cases h;exact (List.dropWhile_suffix _).trans h5
 · cases h;exact h1
theorem attrF_suf (f:Nat):∀ l s l' b r,attrF f l s=some (l',b,r)→r <:+ s:=by
 induction f with
 | zero=>intro l s l' b r h;cases h
 | succ f ih =>
   intro l s l' b r h
   have h1:spL s <:+ s:=List.dropWhile_suffix _
   simp only [attrF] at h
   split at h
   · cases h
   · rename_i c r0 he
     have h2:r0 <:+ s:=(List.suffix_cons c r0).trans (he ▸ h1)
     split at h
     · cases h;exact h2
     · split at h
       · split at h
         · exact (ih _ _ _ _ _ h).trans List.nil_suffix
         · rename_i d r' _
           split at h
           · cases h;exact (List.suffix_cons _ _).trans h2
           · exact (ih _ _ _ _ _ h).trans h2
       · split at h
         · cases h
         · rename_i v r' hv
           exact (ih _ _ _ _ _ h).trans ((valA_suf hv).trans ((List.dropWhile_suffix _).trans h2))
theorem tagL_suf (l:List UInt8):(tagL l).2 <:+ l:=by
 unfold tagL
 split
 · exact List.nil_suffix
 · rename_i al self r he
   exact (attrF_suf _ _ _ _ _ _ he).trans ((List.dropWhile_suffix _).trans (List.drop_suffix _ _))
theorem tagR_suf (l:List UInt8):(tagR l).2 <:+ l:=by
 unfold tagR
 split
 · exact List.suffix_refl _
 · exact tagL_suf l
theorem tokL_suf (l:List UInt8):(tokL l).2 <:+ l:=by
 unfold tokL
 split
 · exact tagL_suf l
 · split
   · exact List.drop_suffix _ _
   · split
     · exact (past_suf _ _).trans (List.drop_suffix _ _)
     · split
       · exact List.drop_suffix _ _
       · split
         · exact List.suffix_refl _
         · exact List.drop_suffix _ _
theorem restL_suf (st:Nat) (name l:List UInt8):(restL st name l).2 <:+ l:=by
 unfold restL
 split
 · exact List.suffix_refl _
 · split
   · exact List.nil_suffix
   · exact (tagR_suf _).trans (List.drop_suffix _ _)
theorem suf_drop {r s:List UInt8} (h:r <:+ s):s.drop (s.length - r.length)=r:=(List.suffix_iff_eq_drop.1 h).symm
def txB (t:Tk):Nat:=(tkC t).2.2.1.length
def nmB (t:Tk):Nat:=(tkC t).2.1.length
theorem clean_le (l:List UInt8):(cleanL l).length≤3*l.length:=by
 induction l with
 | nil=>exact Nat.le_refl _
 | cons c r ih =>
   rw [cleanL_cons,List.length_append,List.length_cons]
   have:(cleanB c).length≤3:=by unfold cleanB;split<;>simp
   omega
theorem upto_le (c:UInt8) (l:List UInt8):(upto c l).length≤l.length:=upto_length c l
theorem name_le (l:List UInt8):(nameL l).length≤3*l.length:=by
 unfold nameL
 have h1:=clean_le (lowL (l.takeWhile stC))
 have h2:=(List.takeWhile_prefix stC (l:=l)).length_le
 unfold lowL at h1
 rw [List.length_map] at h1
 unfold lowL
 omega
theorem tag_bd (l:List UInt8):∀ t∈(tagL l).1,txB t≤24*l.length∧nmB t≤3*l.length:=by
 have h1:=name_le (l.drop 1)
 have h2:=name_le (l.drop 2)
 rw [List.length_drop] at h1 h2
 unfold tagL
 split
 · intro t h;cases h
 · intro t h
   simp only [Option.mem_def,Option.some.injEq] at h
   subst h
   split
   · exact ⟨Nat.zero_le _,by show (nameL (l.drop 2)).length≤_;omega⟩
   · exact ⟨Nat.zero_le _,by show (nameL (l.drop 1)).length≤_;omega⟩
theorem tagR_bd (l:List UInt8):∀ t∈(tagR l).1,txB t≤24*l.length∧nmB t≤3*l.length:=by
 unfold tagR
 split
 · intro t h;cases h
 · exact tag_bd l
theorem tok_bd (l:List UInt8):∀ t∈(tokL l).1,txB t≤24*l.length∧nmB t≤3*l.length:=by
 unfold tokL
 split
 · exact tag_bd l
 · split
   · intro t h
     simp only [Option.mem_def,Option.some.injEq] at h
     subst h
     refine ⟨?_,Nat.zero_le _⟩
     show (cleanL (readC l).1).length≤_
     have h1:=clean_le (readC l).1
     have h2:(readC l).1.length≤l.length:=by
      unfold readC
      split
      · have:=(Pcm.plainL_le (l.drop 4)).1;rw [List.length_drop] at this;simp only;omega
      · split
        · have:=(Pcm.otherL_le (l.drop 1)).1;rw [List.length_drop] at this;simp only;omega
        · have:=(Pcm.otherL_le (l.drop 2)).1;rw [List.length_drop] at this;simp only;omega
     omega
   · split
     · intro t h
       simp only [Option.mem_def,Option.some.injEq] at h
       subst h
       refine ⟨?_,Nat.zero_le _⟩
       show (cleanL (upto 62 (l.drop 9))).length≤_
       have h1:=clean_le (upto 62 (l.drop 9))
       have h2:=upto_le 62 (l.drop 9)
       rw [List.length_drop] at h2
       omega
     · split
       · intro t h;cases h
       · split
         · intro t h;cases h
         · intro t h
           simp only [Option.mem_def,Option.some.injEq] at h
           subst h
           refine ⟨?_,Nat.zero_le _⟩
           show (rdL false (l.take (txN l))).length≤_
           have h1:=rdL_le false (l.take (txN l))
           rw [List.length_take] at h1
           omega
theorem rest_bd (st:Nat) (name l:List UInt8):(∀ t∈(restL st name l).1,txB t≤24*l.length)∧(restL st name l).1.length≤2:=by
 have hr:∀ n,(rawT (st == 1) (l.take n)).length≤24*l.length:=fun n=>by
  have h1:=rdL_le false (l.take n)
  have h2:=clean_le (rdL false (l.take n))
  have h3:=clean_le (l.take n)
  rw [List.length_take] at h1 h3
  unfold rawT
  split<;>omega
 have ht:∀ u:List UInt8,u.length≤24*l.length→(∀ t∈txtT u,txB t≤24*l.length)∧(txtT u).length≤1:=fun u hu=>by
  unfold txtT
  split
  · exact ⟨fun t h=>(nomatch h),Nat.zero_le _⟩
  · exact ⟨fun t h=>by rw [List.mem_singleton.1 h];exact hu,Nat.le_refl _⟩
 unfold restL
 split
 · exact ⟨fun t h=>(nomatch h),Nat.zero_le _⟩
 · split
   · have:=ht _ (hr (endN st name l))
     exact ⟨this.1,Nat.le_succ_of_le this.2⟩
   · have h1:=ht _ (hr (endN st name l))
     refine ⟨fun t h => ?_,?_⟩
     · rcases List.mem_append.1 h with h|h
       · exact h1.1 t h
       · have h2:=(tagR_bd (l.drop (endN st name l)) t (by simpa using h)).1
         rw [List.length_drop] at h2
         omega
     · simp only [List.length_append]
       have:((tagR (l.drop (endN st name l))).1.toList).length≤1:=by cases (tagR (l.drop (endN st name l))).1<;>simp
       have:=h1.2
       omega
theorem drv1_bd (l:List UInt8):(∀ t∈(drv1 (tokL l)).1,txB t≤24*l.length)∧(drv1 (tokL l)).1.length≤3∧(drv1 (tokL l)).2 <:+ l:=by
 have h1:=tok_bd l
 have h2:=tokL_suf l
 have h3:=h2.length_le
 generalize tokL l=R at h1 h2 h3
 obtain ⟨o,r⟩:=R
 unfold drv1
 split
 · rename_i n al self r' he
   cases he
   have h4:=rest_bd (stateN n) n r
   have h5:r.length≤l.length:=h3
   refine ⟨fun t h => ?_,by simp only [List.length_cons];omega,(restL_suf _ _ _).trans h2⟩
   rcases List.mem_cons.1 h with rfl|h
   · exact Nat.zero_le _
   · have:=h4.1 t h;omega
 · rename_i t r' _ he
   cases he
   exact ⟨fun t' h=>by rw [List.mem_singleton.1 h];exact (h1 t rfl).1,by simp,h2⟩
 · rename_i r' he
   cases he
   exact ⟨fun t h=>(nomatch h),Nat.zero_le _,h2⟩
theorem drv_bd:∀ n (l:List UInt8),l.length≤n→(∀ t∈drvL l,txB t≤24*n)∧(drvL l).length≤3*l.length:=by
 intro n
 induction n with
 | zero =>
   intro l h
   obtain rfl:=List.eq_nil_of_length_eq_zero (Nat.le_zero.1 h)
   exact ⟨fun t h=>(nomatch h),Nat.zero_le _⟩
 | succ n ih =>
   intro l h
   by_cases hl:l=[]
   · subst hl;exact ⟨fun t h=>(nomatch h),Nat.zero_le _⟩
   · have h1:=drv1_bd l
     have h2:=drv1_le (tokL l)
     have h3:=tokL_lt hl
     have h4:=ih (drv1 (tokL l)).2 (by omega)
     rw [drvL_eq hl]
     refine ⟨fun t ht => ?_,by rw [List.length_append];omega⟩
     rcases List.mem_append.1 ht with ht|ht
     · have:=h1.1 t ht;omega
     · have:=h4.1 t ht;omega
end Go.Proofs.YtcecjoaeolglbaaGreatDoor.Hand
end

section
namespace Go.Proofs.YtcecjoaeolglbaaGreatDoor.Hand
open Go Go.RowKit Go.Proofs.YtcecjoaeolglbaaGreatDoor.K0 Go.Proofs.YtcecjoaeolglbaaGreatDoor.Pl Go.Proofs.YtcecjoaeolglbaaGreatDoor.Pb Go.Proofs.YtcecjoaeolglbaaGreatDoor.Sa Go.Proofs.YtcecjoaeolglbaaGreatDoor.Pure Go.Proofs.YtcecjoaeolglbaaGreatDoorW.PrintWords Go.Proofs.YtcecjoaeolglbaaGreatDoorW.PrintLast Go.Proofs.YtcecjoaeolglbaaGreatDoorW.PrintMore
abbrev tkK:=k46
theorem infoK:(Tryz.prog.info? 46).map (fun i=>(i.zero,i.size,i.bytes))=some (some (.agg #[(.int .i64 0),(.string ⟨#[]⟩),(.string ⟨#[]⟩),(.slice none 0 0),(.bool false)]),5,72):=by kernel_rfl
def jn (l:List Tk) (i:Nat):List Tk:=(l.take i).foldl stepJ []
theorem jn_succ {l:List Tk} {i:Nat} (h:i<l.length):jn l (i+1)=stepJ (jn l i) l[i]:=by
 unfold jn;rw [List.take_succ_eq_append_getElem h,List.foldl_append];rfl
theorem stepJ_len (o:List Tk) (t:Tk):(stepJ o t).length≤o.length+1:=by
 cases ht:isTx t with
 | false=>rw [stepJ_no o ht];simp
 | true =>
   obtain ⟨s,rfl⟩:∃ s,t = .text s:=by cases t<;>first|exact ⟨_,rfl⟩|cases ht
   by_cases hs:s=[]
   · subst hs;rw [stepJ_nil];omega
   · by_cases hu:∃ u,o.getLast? = some (.text u)
     · obtain ⟨u,hu⟩:=hu
       have:o=o.dropLast++[.text u]:=by
        rcases List.eq_nil_or_concat o with rfl|⟨q,b,rfl⟩
        · cases hu
        · simp at hu;subst hu;simp
       rw [this,stepJ_tt _ hs];simp
     · rw [stepJ_new o hs (fun u h=>hu ⟨u,h⟩)];simp
theorem jn_len (l:List Tk) (i:Nat):(jn l i).length≤i:=by
 have:∀ (q o:List Tk),(q.foldl stepJ o).length≤o.length+q.length:=fun q=>by
  induction q with
  | nil=>intro o;exact Nat.le_refl _
  | cons t r ih=>intro o;rw [List.foldl_cons];have h1:=ih (stepJ o t);have h2:=stepJ_len o t;rw [List.length_cons];omega
 have h:=this (l.take i) []
 rw [List.length_take,List.length_nil] at h
 unfold jn;omega
theorem stepJ_bd {o:List Tk} {t:Tk} {a b:Nat} (ho:∀ x∈o,txB x≤a) (ht:txB t≤b):∀ x∈stepJ o t,txB x≤a+b:=by
 cases hx:isTx t with
 | false =>
   rw [stepJ_no o hx]
   intro x h
   rcases List.mem_append.1 h with h|h
   · have:=ho x h;omega
   · rw [List.mem_singleton.1 h];omega
 | true =>
   obtain ⟨s,rfl⟩:∃ s,t = .text s:=by cases t<;>first|exact ⟨_,rfl⟩|cases hx
   by_cases hs:s=[]
   · subst hs;rw [stepJ_nil];intro x h;have:=ho x h;omega
   · by_cases hu:∃ u,o.getLast? = some (.text u)
     · obtain ⟨u,hu⟩:=hu
       obtain ⟨q,rfl⟩:∃ q,o=q++[.text u]:=by
        rcases List.eq_nil_or_concat o with rfl|⟨q,b,rfl⟩
        · cases hu
        · simp at hu;subst hu;exact ⟨q,by simp⟩
       rw [stepJ_tt _ hs]
       intro x h
       rcases List.mem_append.1 h with h|h
       · have:=ho x (List.mem_append_left _ h);omega
       · rw [List.mem_singleton.1 h]
         have h1:=ho (.text u) (by simp)
         have e1:txB (.text u)=u.length:=rfl
         have e2:txB (.text s)=s.length:=rfl
         have e3:txB (.text (u++s))=u.length+s.length:=List.length_append
         omega
     · rw [stepJ_new o hs (fun u h=>hu ⟨u,h⟩)]
       intro x h
       rcases List.mem_append.1 h with h|h
       · have:=ho x h;omega
       · rw [List.mem_singleton.1 h];omega
theorem jn_bd {l:List Tk} {M:Nat} (h:∀ t∈l,txB t≤M):∀ i,i≤l.length→∀ x∈jn l i,txB x≤i*M:=by
 intro i
 induction i with
 | zero=>intro _ x hx;simp [jn] at hx
 | succ i ih =>
   intro hi
   rw [jn_succ (by omega),Nat.succ_mul]
   exact stepJ_bd (ih (by omega)) (h _ (List.getElem_mem _))
structure JnI (lo:Nat) (w W:World) (A:Option Addr) (n c:Nat) (l:List Tk) (v:Value) (X:List Tk):Prop where
 row:Kd.N tkK 46 W w.heap.size (fun k=>lo≤k) v (X.map ofK)
 arg:Kd.V tkK 46 W w.heap.size (fun k=>lo≤k∧k<w.heap.size) (.slice A n c) (l.map ofK)
 low:lo≤w.heap.size
 below:Below w.heap.size w W
theorem JnI.alloc {lo:Nat} {w W:World} {A:Option Addr} {n c:Nat} {l:List Tk} {v:Value} {X:List Tk} (h:JnI lo w W A n c l v X) (o:Obj):JnI lo w (W.alloc o) A n c l v X :=
 ⟨Kd.N_alloc h.row o,Kd.V_alloc h.arg o,h.low,below_alloc h.below o⟩
theorem JnI.lowW {lo:Nat} {w W:World} {A:Option Addr} {n c:Nat} {l:List Tk} {v:Value} {X:List Tk} (h:JnI lo w W A n c l v X):lo≤W.heap.size:=Nat.le_trans h.low h.below.size
theorem JnI.grown {lo:Nat} {w W w1:World} {A:Option Addr} {n c:Nat} {l:List Tk} {v v1:Value} {X X1:List Tk} (h:JnI lo w W A n c l v X) (ho:Kd.N tkK 46 w1 w.heap.size (fun k=>lo≤k) v1 (X1.map ofK)) (hb:Below w.heap.size w w1) (hg:W.grownBy w1 v.ownBlock) :
  JnI lo w w1 A n c l v1 X1 :=
 ⟨ho,Kd.V_grown h.arg hg (fun k hk he=>by have:=Kd.N_base h.row k he.symm;have:=hk.2;omega),h.low,hb⟩
theorem JnI.drew {lo:Nat} {w W:World} {A:Option Addr} {n c:Nat} {l:List Tk} {v:Value} {X:List Tk} (h:JnI lo w W A n c l v X):JnI lo w W.drew A n c l v X :=
 ⟨Kd.N_drew h.row,Kd.V_drew h.arg,h.low,below_drew h.below⟩
theorem JnI.elem {lo:Nat} {w W:World} {A:Option Addr} {n c:Nat} {l:List Tk} {v:Value} {X:List Tk} (h:JnI lo w W A n c l v X) {i:Nat} (hi:i<l.length) :
  ∃ ad A3 c3,A=some ad∧W.cell? (ad.add (i*5))=some (.int .i64 (ofK l[i]).f0)∧W.cell? ⟨(ad.add (i*5)).block,(ad.add (i*5)).off+1,none⟩=some (.string (ofK l[i]).f1) ∧
    W.cell? ⟨(ad.add (i*5)).block,(ad.add (i*5)).off+2,none⟩=some (.string (ofK l[i]).f2)∧W.cell? ⟨(ad.add (i*5)).block,(ad.add (i*5)).off+3,none⟩=some (.slice A3 (ofK l[i]).f3.length c3) ∧
    W.cell? ⟨(ad.add (i*5)).block,(ad.add (i*5)).off+4,none⟩=some (.bool (ofK l[i]).f4)∧(ofK l[i]).f3.length≤c3∧Kd.F k87 W (fun k=>lo≤k∧k<w.heap.size) A3 (ofK l[i]).f3.length (ofK l[i]).f3:=by
 have hn:=(Kd.V_at h.arg).1
 rw [List.length_map] at hn
 obtain ⟨ad,_,_,e,_⟩:=at_T46 (Kd.V_reads' h.arg).2.2 (i:Int) (by omega) (by rw [List.length_map];omega)
 subst e
 obtain ⟨cs,hcl,hF,hcc⟩:=Kd.V_get h.arg z46 (i:Int) (by omega) (by omega)
 have hr:(l.map ofK).getD (i:Int).toNat z46=ofK l[i]:=rd_map hi
 rw [hr] at hF
 obtain ⟨A3,c3,rfl,h3,h4⟩:=k46_openF hF
 exact ⟨ad,A3,c3,rfl,hcc 0 _ rfl,by rw [← add_field _ _ 1 (by omega)];exact hcc 1 _ rfl,by rw [← add_field _ _ 2 (by omega)];exact hcc 2 _ rfl,by rw [← add_field _ _ 3 (by omega)];exact hcc 3 _ rfl,by rw [← add_field _ _ 4 (by omega)];exact hcc 4 _ rfl,h3,h4⟩
theorem alloc_sz (w:World) (o:Obj):(w.alloc o).heap.size=w.heap.size+1:=by simp
theorem wrap_pred {m:Nat} (h:m≤100000):IntKind.i64.wrap ((m:Int) - 1)=(m:Int) - 1:=by simp [IntKind.wrap_i64];omega
set_option maxRecDepth 100000 in
set_option maxHeartbeats 16000000 in
theorem join_c (A:Option Addr) (c:Nat) (l:List Tk) (w:World) (lo:Nat) (hlo:lo≤w.heap.size) (hv:Kd.V tkK 46 w w.heap.size (fun k=>lo≤k∧k<w.heap.size) (.slice A l.length c) (l.map ofK)) (hm:l.length≤100000) (hB:∀ t∈l,txB t≤1000000) :
  Calls Tryz.prog 64 #[.slice A l.length c] w fun e w'=>(∃ v,e = .returned v∧Kd.V tkK 46 w' w.heap.size (fun k=>lo≤k∧k<w'.heap.size) v ((joinL l).map ofK))∧Below w.heap.size w w':=by
 have JS:=Lib.hid (fun i (h:i<l.length)=>jn_succ h)
 have JL:=Lib.hid (jn_len l)
 have JB:=Lib.hid (jn_bd hB)
 have HE:Hid (jn l l.length=joinL l):=Lib.hid (by unfold jn;rw [List.take_length,join_eq])
 have HBB:=Lib.hid hB
 have H0:Hid (JnI lo w w A l.length c l (.slice none 0 0) (jn l 0)):=Lib.hid ⟨Kd.N_nil _ _ _ _ _,hv,hlo,Below.refl _ _⟩
 obtain ⟨n,hn⟩:∃ n,l.length=n:=⟨_,rfl⟩
 have HN:=Lib.hid hn
 rw [hn] at H0 HE ⊢
 have HM:Hid (n≤100000):=Lib.hid (by omega)
 clear hv hB hm hn hlo
 go_enter Tryz.func64,Tryz.ntmps64
 go_wp2_with fail
 go_loopw [3,9] (fun v3 v9 wx => ∃ i:Nat,v9 = .int .i64 (i:Int)∧i≤n∧Hid (JnI lo w wx A n c l v3 (jn l i))) (fun _ v9 _=>n - (intOf v9).toNat)
 case atStart=>exact ⟨0,rfl,Nat.zero_le _,H0⟩
 case round =>
  clear H0
  obtain ⟨i,rfl,hi,HI⟩:=hrel
  by_cases hlt:i<n
  · have hll:i<l.length:=by rw [HN.out];exact hlt
    have q1:decide ((i:Int)<(n:Int))=true:=decide_eq_true (by omega)
    have i0:(0:Int)≤(i:Int):=by omega
    have i1:(i:Int)<(n:Int):=by omega
    have w3:IntKind.i64.wrap ((i:Int)+1)=((i+1:Nat):Int):=wrap_add2 (x:=i) (y:=1) rfl (by have:=HM.out;omega)
    obtain ⟨ad,A3,c3,hA,hx0,hx1,hx2,hx3,hx4,h3,hF⟩:=HI.out.elem hll
    subst hA
    have HS:=Lib.hid (JS.out i hll)
    have HEL:Hid (∃ t,t=l[i]∧ofK t=ofK l[i]):=Lib.hid ⟨_,rfl,rfl⟩
    obtain ⟨t,ht⟩:∃ t,l[i]=t:=⟨_,rfl⟩
    have HTB:Hid (txB t≤1000000):=Lib.hid (by rw [← ht];exact HBB.out _ (List.getElem_mem _))
    rw [ht] at hx0 hx1 hx2 hx3 hx4 h3 hF HS
    obtain ⟨A1,c1,hv3⟩:=Kd.N_slice HI.out.row
    have hml:=jn_len l i
    rw [List.length_map] at hv3
    obtain ⟨m,hm⟩:∃ m,(jn l i).length=m:=⟨_,rfl⟩
    rw [hm] at hv3 hml
    subst hv3
    have HML:=Lib.hid hm
    have hm6:m≤100000:=by have:=HM.out;omega
    have HLN:Hid ((((jn l i).map ofK).length+1)*72≤140737488355328):=Lib.hid (by rw [List.length_map,hm];omega)
    have hwl:=wrap_pred hm6
    obtain ⟨⟨k0,n0,x0,a0,s0⟩,hO⟩:∃ O,ofK t=O:=⟨_,rfl⟩
    have HO:=Lib.hid hO
    rw [hO] at hx0 hx1 hx2 hx3 hx4 h3 hF
    dsimp only at hx0 hx1 hx2 hx3 hx4 h3 hF
    have HP:Hid (∀ o:Obj,Kd.FK tkK (wr.alloc o) (fun k=>lo≤k∧some k≠(Value.slice A1 m c1).ownBlock) (⟨k0,n0,x0,a0,s0⟩:TkS) [.int .i64 k0,.string n0,.string x0,.slice A3 a0.length c3,.bool s0]):=Lib.hid (fun o=>k46_mkF _ _ (⟨k0,n0,x0,a0,s0⟩:TkS) h3 (Kd.F_mono (Kd.F_alloc hF o) (fun k hk=>⟨hk.1,fun he=>by have:=Kd.N_base HI.out.row k he.symm;have:=hk.2;omega⟩)))
    obtain ⟨o,ho⟩:∃ o,Obj.cells #[.int .i64 k0,.string n0,.string x0,.slice A3 a0.length c3,.bool s0] 46=o:=⟨_,rfl⟩
    have HO2:=Lib.hid ho
    have y0:(wr.alloc (.cells #[.int .i64 k0,.string n0,.string x0,.slice A3 a0.length c3,.bool s0] 46)).cell? ⟨wr.heap.size,0,none⟩=some (.int .i64 k0):=(World.cell?_alloc_at _ _ _ 0 rfl).trans rfl
    have y2:(wr.alloc (.cells #[.int .i64 k0,.string n0,.string x0,.slice A3 a0.length c3,.bool s0] 46)).cell? ⟨wr.heap.size,2,none⟩=some (.string x0):=(World.cell?_alloc_at _ _ _ 2 rfl).trans rfl
    clear ht hm hml HEL ho hO h3 hF
    cases hx:isTx t with
    | false =>
      have e0:(k0 == 0)=false:=by
       have:(ofK t).f0=k0:=by rw [HO.out]
       rw [← this,beq_eq_false_iff_ne]
       cases t<;>first|exact (show (1:Int)≠0 by decide)|exact (show (2:Int)≠0 by decide)|exact (show (3:Int)≠0 by decide)|exact (show (4:Int)≠0 by decide)|cases hx
      have HR:Hid (jn l (i+1)=jn l i++[t]):=Lib.hid (by rw [HS.out,stepJ_no _ hx])
      clear hx
      go_wp2_with (first | ((with_reducible refine gate_builtin (b:=.append) (xs := #[.tmp 16,.tmp 18]) rfl ?_);at_builtin;refine Kd.N_append tkK (w0:=w) w.heap.size rfl (.tmp 16) (.tmp 18) 42 46 (.agg #[(.int .i64 0),(.string ⟨#[]⟩),(.string ⟨#[]⟩),(.slice none 0 0),(.bool false)]) 72 rfl Tryz.underlying42 infoK rfl (by decide) (by decide) (.slice A1 m c1) ((jn l i).map ofK) ⟨k0,n0,x0,a0,s0⟩ [.int .i64 k0,.string n0,.string x0,.slice A3 a0.length c3,.bool s0] (fun k=>lo≤k) (fun k=>lo≤k∧some k≠(Value.slice A1 m c1).ownBlock) rfl (by rw [alloc_sz];rfl) ?aP (fun _ hk=>hk) (fun _ hk=>Nat.le_trans (HI.out.alloc _).lowW hk) ?aO ?aB ?aS ?aL ?_;(case aP=>exact HP.out _);(case aO=>exact (HI.out.alloc _).row);(case aB=>exact (HI.out.alloc _).below);(case aS=>exact (HI.out.alloc _).below.size);(case aL=>exact HLN.out);intro v1 w1 ho hb hg hat))
      go_roundw
      case rel =>
       exact ⟨i+1,by go_num,by omega,Lib.hid (by rw [HR.out];exact (HI.out.alloc _).grown (by rw [List.map_append,List.map_singleton,HO.out];exact ho) hb hg)⟩
      case measure=>simp [intOf];omega
    | true =>
      obtain ⟨s,rfl⟩:∃ s,t = .text s:=by cases t<;>first|exact ⟨_,rfl⟩|cases hx
      have hk0:k0=0:=by
       have:(ofK (Tk.text s)).f0=k0:=by rw [HO.out]
       exact this.symm
      have hx0':x0=B s:=by
       have:(ofK (Tk.text s)).f2=x0:=by rw [HO.out]
       exact this.symm
      have e0:(k0 == 0)=true:=by rw [hk0];rfl
      have hxl:x0.toList=s:=by rw [hx0',toList_data,B_data]
      by_cases hs:s=[]
      · have xe1:(x0.toList == ([]:List UInt8))=true:=by rw [hxl,hs];rfl
        have xe2:x0.toList.isEmpty=true:=by rw [hxl,hs];rfl
        have HR:Hid (jn l (i+1)=jn l i):=Lib.hid (by rw [HS.out,hs,stepJ_nil])
        clear hx hk0 hx0' hxl hs
        go_wp2_with fail
        go_roundw
        case rel=>exact ⟨i+1,by go_num,by omega,Lib.hid (by rw [HR.out];exact HI.out.alloc _)⟩
        case measure=>simp [intOf];omega
      · have xe1:(x0.toList == ([]:List UInt8))=false:=by rw [hxl,beq_eq_false_iff_ne];exact hs
        have xe2:x0.toList.isEmpty=false:=by rw [hxl];exact List.isEmpty_eq_false_iff.2 hs
        rcases Nat.eq_zero_or_pos m with hm0|hmp
        · have hw0:IntKind.i64.wrap ((m:Int) - 1) = -1:=by rw [hwl,hm0];rfl
          have HR:Hid (jn l (i+1)=jn l i++[.text s]):=Lib.hid (by
           have:jn l i=[]:=List.eq_nil_of_length_eq_zero (by rw [HML.out,hm0])
           rw [HS.out,stepJ_new _ hs (fun u=>by rw [this];simp)])
          clear hx hk0 hx0' hxl hs hwl hm0
          go_wp2_with (first | ((with_reducible refine gate_builtin (b:=.append) (xs := #[.tmp 16,.tmp 18]) rfl ?_);at_builtin;refine Kd.N_append tkK (w0:=w) w.heap.size rfl (.tmp 16) (.tmp 18) 42 46 (.agg #[(.int .i64 0),(.string ⟨#[]⟩),(.string ⟨#[]⟩),(.slice none 0 0),(.bool false)]) 72 rfl Tryz.underlying42 infoK rfl (by decide) (by decide) (.slice A1 m c1) ((jn l i).map ofK) ⟨k0,n0,x0,a0,s0⟩ [.int .i64 k0,.string n0,.string x0,.slice A3 a0.length c3,.bool s0] (fun k=>lo≤k) (fun k=>lo≤k∧some k≠(Value.slice A1 m c1).ownBlock) rfl (by rw [alloc_sz];rfl) ?aP (fun _ hk=>hk) (fun _ hk=>Nat.le_trans (HI.out.alloc _).lowW hk) ?aO ?aB ?aS ?aL ?_;(case aP=>exact HP.out _);(case aO=>exact (HI.out.alloc _).row);(case aB=>exact (HI.out.alloc _).below);(case aS=>exact (HI.out.alloc _).below.size);(case aL=>exact HLN.out);intro v1 w1 ho hb hg hat))
          go_roundw
          case rel =>
           exact ⟨i+1,by go_num,by omega,Lib.hid (by rw [HR.out];exact (HI.out.alloc _).grown (by rw [List.map_append,List.map_singleton,HO.out];exact ho) hb hg)⟩
          case measure=>simp [intOf];omega
        · obtain ⟨m1,hm1⟩:∃ m1,m=m1+1:=⟨m - 1,by omega⟩
          have hw0:IntKind.i64.wrap ((m:Int) - 1)=(m1:Int):=by rw [hwl,hm1];omega
          have hml1:m1<(jn l i).length:=by rw [HML.out];omega
          obtain ⟨g,cap,hv4,hg1,hg2,_⟩:=Kd.N_form HI.out.row (by rw [List.length_map];omega)
          obtain ⟨rfl,rfl⟩:A1=some ⟨g,0,none⟩∧c1=cap:=by injection hv4 with h1 h2 h3;exact ⟨h1,h3⟩
          have HW:=Lib.hid (HI.out.alloc (.cells #[.int .i64 k0,.string n0,.string x0,.slice A3 a0.length c3,.bool s0] 46))
          obtain ⟨cs,hcl,hcF,hcc,hcf⟩:=Kd.N_elem HW.out.row z46 (m1:Int) (by omega) (by clear hw0;omega)
          obtain ⟨u,hu⟩:∃ u,(jn l i)[m1]=u:=⟨_,rfl⟩
          have hgd:((jn l i).map ofK).getD (m1:Int).toNat z46=ofK u:=by rw [← hu];exact rd_map hml1
          rw [hgd] at hcF
          obtain ⟨⟨k1,n1,x1,a1,s1⟩,hU⟩:∃ O,ofK u=O:=⟨_,rfl⟩
          rw [hU] at hcF
          obtain ⟨A5,c5,rfl,h5,hF5⟩:=k46_openF hcF
          dsimp only at h5 hF5 hcc
          have z0:(wr.alloc (.cells #[.int .i64 k0,.string n0,.string x0,.slice A3 a0.length c3,.bool s0] 46)).cell? ⟨g,m1*5,none⟩=some (.int .i64 k1):=hcc 0 _ rfl
          have z2:(wr.alloc (.cells #[.int .i64 k0,.string n0,.string x0,.slice A3 a0.length c3,.bool s0] 46)).cell? ⟨g,m1*5+2,none⟩=some (.string x1):=hcc 2 _ rfl
          have zf:(wr.alloc (.cells #[.int .i64 k0,.string n0,.string x0,.slice A3 a0.length c3,.bool s0] 46)).frozen? ⟨g,m1*5+2,none⟩=false:=hcf 2
          have j0:(0:Int)≤(m1:Int):=by omega
          have j1:(m1:Int)<(m:Int):=by omega
          have hlast:jn l i=(jn l i).take m1++[u]:=by
           rw [← hu,← List.take_succ_eq_append_getElem hml1,List.take_of_length_le (by have:=HML.out;omega)]
          cases hxu:isTx u with
          | false =>
            have e1:(k1 == 0)=false:=by
             have:(ofK u).f0=k1:=by rw [hU]
             rw [← this,beq_eq_false_iff_ne]
             cases u<;>first|exact (show (1:Int)≠0 by decide)|exact (show (2:Int)≠0 by decide)|exact (show (3:Int)≠0 by decide)|exact (show (4:Int)≠0 by decide)|cases hxu
            have HR:Hid (jn l (i+1)=jn l i++[.text s]):=Lib.hid (by
             rw [HS.out,stepJ_new _ hs (fun v hv=>by
              rw [hlast,List.getLast?_append] at hv
              simp at hv
              rw [hv] at hxu;cases hxu)])
            clear hx hk0 hx0' hxl hs hwl hm1 hml1 hv4 hg1 hg2 hcl hgd hcF hu h5 hF5 hcc hcf hlast hxu hU zf
            go_wp2_with (first | ((with_reducible refine gate_builtin (b:=.append) (xs := #[.tmp 16,.tmp 18]) rfl ?_);at_builtin;refine Kd.N_append tkK (w0:=w) w.heap.size rfl (.tmp 16) (.tmp 18) 42 46 (.agg #[(.int .i64 0),(.string ⟨#[]⟩),(.string ⟨#[]⟩),(.slice none 0 0),(.bool false)]) 72 rfl Tryz.underlying42 infoK rfl (by decide) (by decide) (.slice (some ⟨g,0,none⟩) m c1) ((jn l i).map ofK) ⟨k0,n0,x0,a0,s0⟩ [.int .i64 k0,.string n0,.string x0,.slice A3 a0.length c3,.bool s0] (fun k=>lo≤k) (fun k=>lo≤k∧some k≠(Value.slice (some ⟨g,0,none⟩) m c1).ownBlock) rfl (by rw [alloc_sz];rfl) ?aP (fun _ hk=>hk) (fun _ hk=>Nat.le_trans (HI.out.alloc _).lowW hk) ?aO ?aB ?aS ?aL ?_;(case aP=>exact HP.out _);(case aO=>exact (HI.out.alloc _).row);(case aB=>exact (HI.out.alloc _).below);(case aS=>exact (HI.out.alloc _).below.size);(case aL=>exact HLN.out);intro v1 w1 ho hb hg hat))
            go_roundw
            case rel =>
             exact ⟨i+1,by go_num,by omega,Lib.hid (by rw [HR.out];exact (HI.out.alloc _).grown (by rw [List.map_append,List.map_singleton,HO.out];exact ho) hb hg)⟩
            case measure=>simp [intOf];omega
          | true =>
            obtain ⟨v,rfl⟩:∃ v,u = .text v:=by cases u<;>first|exact ⟨_,rfl⟩|cases hxu
            have hk1:k1=0:=by
             have:(ofK (Tk.text v)).f0=k1:=by rw [hU]
             exact this.symm
            have hx1':x1=B v:=by
             have:(ofK (Tk.text v)).f2=x1:=by rw [hU]
             exact this.symm
            have e1:(k1 == 0)=true:=by rw [hk1];rfl
            have hvb:v.length≤100000000000:=by
             have h1:=JB.out i (by omega) (.text v) (by rw [← hu];exact List.getElem_mem _)
             have h2:txB (.text v)=v.length:=rfl
             have:=HM.out
             have h3:i*1000000≤100000*1000000:=Nat.mul_le_mul_right _ (by omega)
             omega
            have hsb:s.length≤1000000:=HTB.out
            have g1:x1.size+x0.size≤9223372036854775807:=by rw [hx1',hx0',size_B,size_B];omega
            have g2:(9223372036854775807<x1.size+x0.size)=False:=eq_false (by omega)
            have HR:Hid ((jn l (i+1)).map ofK=((jn l i).map ofK).set m1 (ofK (.text (v++s)))):=Lib.hid (by
             rw [HS.out]
             have e:(jn l i).length=m1+1:=by rw [HML.out,hm1]
             have e2:((jn l i).take m1).length=m1:=by rw [List.length_take];omega
             rw [hlast,stepJ_tt _ hs,List.map_append,List.map_append,List.set_append_right _ _ (by rw [List.length_map,e2];exact Nat.le_refl _)]
             congr 1
             rw [List.length_map,e2,Nat.sub_self];rfl)
            have HXT:Hid (ofK (.text (v++s))=⟨k1,n1,x1++x0,a1,s1⟩):=Lib.hid (by
             have e:ofK (.text (v++s))=⟨(ofK (.text v)).f0,(ofK (.text v)).f1,(ofK (.text v)).f2++B s,(ofK (.text v)).f3,(ofK (.text v)).f4⟩:=by
              show (⟨0,B [],B (v++s),[],false⟩:TkS)=⟨0,B [],B v++B s,[],false⟩
              rw [B_append]
             rw [e,hU,hx0'])
            obtain ⟨cs',hcl',hcF',hcc',_⟩:=Kd.N_elem HI.out.row z46 (m1:Int) (by omega) (by clear hw0;omega)
            rw [hgd,hU] at hcF'
            obtain ⟨A6,c6,rfl,h6,hF6⟩:=k46_openF hcF'
            dsimp only at h6 hF6 hcc'
            have HSG:=Lib.hid (Kd.N_seg HI.out.row (m1:Int) (by omega) (by clear hw0;omega) (seg:=[.string (x1++x0)]) (j:=2) hcl' hcc' (show 2+1≤5 by decide) (x':=⟨k1,n1,x1++x0,a1,s1⟩) (okp:=fun k=>lo≤k∧k≠g) (k46_mkF _ _ (⟨k1,n1,x1++x0,a1,s1⟩:TkS) h6 hF6) (fun k hk=>hk))
            have HG1:=Lib.hid hg1
            clear hcl' hcF' hcc' h6 hF6 hx hk0 hx0' hxl hs hwl hm1 hml1 hv4 hcl hgd hcF hu h5 hF5 hcc hcf hlast hxu hU hk1 hx1' hvb hsb
            go_wp2_with fail
            go_region
            all_goals (
             go_wp2_with fail
             go_roundw
             case rel =>
              refine ⟨i+1,by go_num,by omega,Lib.hid ?_⟩
              obtain ⟨g3,g4⟩:=HSG.out
              have hJ:JnI lo w (wr.setCell ⟨g,m1*5+2,none⟩ (.string (x1++x0))) (some ad) n c l (.slice (some ⟨g,0,none⟩) m c1) (jn l (i+1)) :=
               ⟨by rw [HR.out,HXT.out];exact g3,Kd.V_grown HI.out.arg g4 (fun k hk he=>by have:=HG1.out;have:=hk.2;injection he with he;omega),HI.out.low,HI.out.below.setCell HG1.out _⟩
              exact (hJ.alloc _).drew
             case measure=>simp [intOf];omega)
  · have hin:i=n:=by omega
    subst hin
    have q9:decide ((i:Int)<(i:Int))=false:=decide_eq_false (by omega)
    go_wp2_with fail
    go_ret
    refine ⟨⟨_,rfl,?_⟩,HI.out.below⟩
    rw [← HE.out]
    exact Kd.V_mono (Kd.V_bound (Kd.N_V HI.out.row)) (fun k hk=>hk)
end Go.Proofs.YtcecjoaeolglbaaGreatDoor.Hand
end

section
namespace Go.Proofs.YtcecjoaeolglbaaGreatDoor.Hand
open Go Go.RowKit Go.Proofs.YtcecjoaeolglbaaGreatDoor.K0 Go.Proofs.YtcecjoaeolglbaaGreatDoor.Pl Go.Proofs.YtcecjoaeolglbaaGreatDoor.Pb Go.Proofs.YtcecjoaeolglbaaGreatDoor.Sa Go.Proofs.YtcecjoaeolglbaaGreatDoor.St Go.Proofs.YtcecjoaeolglbaaGreatDoor.Pure Go.Proofs.YtcecjoaeolglbaaGreatDoorW.PrintWords Go.Proofs.YtcecjoaeolglbaaGreatDoorW.PrintLast Go.Proofs.YtcecjoaeolglbaaGreatDoorW.PrintMore
theorem next_none {s:List UInt8} {p:Nat} (hs:s.length≤100000) (hp:p≤s.length) {r:List UInt8} (h:tokL (s.drop p)=(none,r)) (W:World) (hG:Glob W) :
  Calls Tryz.prog 61 #[.string (B s),.int .i64 (p:Int)] W fun e w'=>(∃ A c,e = .returned (.tuple #[.agg #[.int .i64 0,.string ⟨#[]⟩,.string ⟨#[]⟩,.slice A 0 c,.bool false],.int .i64 ((s.length - r.length:Nat):Int),.bool false]))∧Below W.heap.size W w':=by
 have hf:=next_f hs hp
 rw [h] at hf
 refine (tok_Next.calls _ _ _ _ _ _ _ _ _ W hG hf).mono ?_
 rintro e w' ⟨v,he,hR,hb⟩
 obtain ⟨A,c,rfl⟩:=Kd.R_slice hR
 exact ⟨⟨A,c,he⟩,hb⟩
theorem next_some {s:List UInt8} {p:Nat} (hs:s.length≤100000) (hp:p≤s.length) {t:Tk} {r:List UInt8} (h:tokL (s.drop p)=(some t,r)) {k0:Int} {n0 x0:ByteArray} {a0:List AtS} {s0:Bool} (ht:ofK t=⟨k0,n0,x0,a0,s0⟩) (W:World) (hG:Glob W) :
  Calls Tryz.prog 61 #[.string (B s),.int .i64 (p:Int)] W fun e w'=>(∃ A c,e = .returned (.tuple #[.agg #[.int .i64 k0,.string n0,.string x0,.slice A a0.length c,.bool s0],.int .i64 ((s.length - r.length:Nat):Int),.bool true]) ∧
   a0.length≤c∧Kd.F k87 w' (fun k=>W.heap.size≤k) A a0.length a0)∧Below W.heap.size W w':=by
 have hf:=next_f hs hp
 rw [h] at hf
 have e:tkOut s.length (some t,r)=((ofK t).f0,(ofK t).f1,(ofK t).f2,(ofK t).f3,(ofK t).f4,((s.length - r.length:Nat):Int),true):=rfl
 rw [e,ht] at hf
 refine (tok_Next.calls _ _ _ _ _ _ _ _ _ W hG hf).mono ?_
 rintro e w' ⟨v,he,hR,hb⟩
 have hV:=Kd.V_mono (Kd.R_V (base':=0) (Kd.R_bound hR)) (ok':=fun k=>W.heap.size≤k) (fun k hk=>hk.2.1)
 obtain ⟨A,c,rfl⟩:=Kd.V_slice hV
 exact ⟨⟨A,c,he,(Kd.V_at hV).2.1,Kd.V_F hV⟩,hb⟩
theorem rest_c {s:List UInt8} {p:Nat} (name:List UInt8) {st:Nat} (hs:s.length≤100000) (hp:p≤s.length) (hl:name.length≤100000) (h4:st≤4) (W:World) (hG:Glob W) :
  Calls Tryz.prog 62 #[.string (B s),.int .i64 (p:Int),.int .i64 (st:Int),.string (B name)] W fun e w'=>(∃ A c,e = .returned (.tuple #[.slice A (restL st name (s.drop p)).1.length c,.int .i64 ((s.length - (restL st name (s.drop p)).2.length:Nat):Int)]) ∧
   Kd.F tkK w' (fun k=>W.heap.size≤k) A (restL st name (s.drop p)).1.length ((restL st name (s.drop p)).1.map ofK))∧Below W.heap.size W w':=by
 obtain ⟨k,hk⟩:=(rest_ev name hs hp hl h4).rounds
 refine (tok_Rest.calls k _ _ _ _ _ _ W hG hk).mono ?_
 rintro e w' ⟨v,he,hR,hb⟩
 have hV:=Kd.V_mono (Kd.S_V (base':=0) (Kd.S_bound hR)) (ok':=fun k=>W.heap.size≤k) (fun k hk=>hk.2.1)
 obtain ⟨A,c,rfl⟩:=Kd.V_slice hV
 have hF:=Kd.V_F hV
 rw [List.length_map] at he hF
 exact ⟨⟨A,c,he,hF⟩,hb⟩
theorem stateN_le (n:List UInt8):stateN n≤4:=by
 unfold stateN
 repeat' split
 all_goals decide
structure DrI (w W:World) (v:Value) (X:List Tk):Prop where
 glob:Glob W
 row:Kd.N tkK 46 W w.heap.size (fun k=>w.heap.size≤k) v (X.map ofK)
 below:Below w.heap.size w W
theorem DrI.call {w W W':World} {v:Value} {X:List Tk} (h:DrI w W v X) (hb:Below W.heap.size W W'):DrI w W' v X :=
 ⟨h.glob.step hb,Kd.N_below h.row hb,h.below.trans (hb.mono h.below.size)⟩
theorem DrI.alloc {w W:World} {v:Value} {X:List Tk} (h:DrI w W v X) (o:Obj):DrI w (W.alloc o) v X:=h.call (below_alloc (Below.refl _ _) o)
theorem DrI.grown {w W':World} {v1:Value} {X1:List Tk} (hG:Glob w) (ho:Kd.N tkK 46 W' w.heap.size (fun k=>w.heap.size≤k) v1 (X1.map ofK)) (hb:Below w.heap.size w W'):DrI w W' v1 X1 :=
 ⟨hG.step hb,ho,hb⟩
abbrev DrC (w:World) (tb:Nat) (nm:ByteArray) (v:Value) (X:List Tk) (W:World):Prop:=DrI w W v X∧W.cell? ⟨tb,1,none⟩=some (.string nm)
theorem DrC.call {w:World} {tb:Nat} {nm:ByteArray} {v:Value} {X:List Tk} {W W':World} (hb:Below W.heap.size W W') (h:DrC w tb nm v X W):DrC w tb nm v X W' :=
 ⟨h.1.call hb,(hb.cell (World.block_lt_of_cell? W _ h.2)).trans h.2⟩
theorem DrC.drew {w:World} {tb:Nat} {nm:ByteArray} {v:Value} {X:List Tk} {W:World} (h:DrC w tb nm v X W):DrC w tb nm v X W.drew:=h.call (below_drew (Below.refl _ _))
set_option maxRecDepth 100000 in
set_option maxHeartbeats 16000000 in
theorem drive_c (s:List UInt8) (hs:s.length≤30000) (w:World) (hGl:Glob w) :
  Calls Tryz.prog 33 #[.string (B s)] w fun e w'=>(∃ v,e = .returned v∧Kd.V tkK 46 w' w.heap.size (fun k=>w.heap.size≤k∧k<w'.heap.size) v ((driveL s).map ofK))∧Below w.heap.size w w':=by
 have HG:=Lib.hid hGl
 have HS:=Lib.hid hs
 have NN:=Lib.hid (fun p (hp:p≤s.length) r (h:tokL (s.drop p)=(none,r)) W hG=>next_none (by omega) hp h W hG)
 have NS:=Lib.hid (fun p (hp:p≤s.length) t r (h:tokL (s.drop p)=(some t,r)) k0 n0 x0 a0 s0 (ht:ofK t=⟨k0,n0,x0,a0,s0⟩) W hG=>next_some (by omega) hp h ht W hG)
 have RS:=Lib.hid (fun p (hp:p≤s.length) name (hl:name.length≤100000) st (h4:st≤4) W hG=>rest_c name (by omega) hp hl h4 W hG)
 have JN:=Lib.hid (fun A c (hb:(∀ t∈drvL s,txB t≤1000000)∧(drvL s).length≤100000) W (hw:w.heap.size≤W.heap.size) hv=>join_c A c (drvL s) W w.heap.size hw hv hb.2 hb.1)
 have HBD:Hid ((∀ t∈drvL s,txB t≤1000000)∧(drvL s).length≤100000):=Lib.hid (by
  have:=drv_bd s.length s (Nat.le_refl _)
  exact ⟨fun t ht=>by have:=this.1 t ht;omega,by omega⟩)
 have HD:Hid (driveL s=joinL (drvL s)):=Lib.hid rfl
 obtain ⟨a,ha⟩:∃ a,B s=a:=⟨_,rfl⟩
 have HSZ:Hid (a.size=s.length):=Lib.hid (by rw [← ha,size_B])
 rw [ha] at NN NS RS ⊢
 have H0:Hid (DrI w w (.slice none 0 0) []):=Lib.hid ⟨hGl,Kd.N_nil _ _ _ _ _,Below.refl _ _⟩
 clear hs hGl ha
 go_enter Tryz.func33,Tryz.ntmps33
 go_wp2_with fail
 go_loopw [3,4] (fun v3 v4 wx => ∃ (p:Nat) (X:List Tk),v4 = .int .i64 (p:Int)∧p≤a.size∧Hid (X.length≤3*p)∧Hid (DrI w wx v3 X)∧Hid (drvL s=X++drvL (s.drop p))) (fun _ v4 _=>a.size - (intOf v4).toNat)
 case atStart=>exact ⟨0,[],rfl,Nat.zero_le _,Lib.hid (Nat.zero_le _),H0,Lib.hid rfl⟩
 case round =>
  clear H0
  obtain ⟨p,X,rfl,hp,HXL,HI,HQ⟩:=hrel
  by_cases hlt:p<a.size
  · have q1:decide ((p:Int)<(a.size:Int))=true:=decide_eq_true (by omega)
    have hps:p≤s.length:=by have:=HSZ.out;omega
    have hne:s.drop p≠[]:=by rw [Ne,List.drop_eq_nil_iff];have:=HSZ.out;omega
    have hdq:=drvL_eq hne
    have hsf:=tokL_suf (s.drop p)
    have hlt2:=tokL_lt hne
    have hbd:=tok_bd (s.drop p)
    obtain ⟨⟨o,r⟩,hR⟩:∃ R,tokL (s.drop p)=R:=⟨_,rfl⟩
    rw [hR] at hdq hsf hlt2 hbd
    dsimp only at hsf hlt2 hbd
    have hrs:r <:+ s:=hsf.trans (List.drop_suffix _ _)
    have hrl:=hrs.length_le
    rw [List.length_drop] at hlt2
    obtain ⟨q,hq⟩:∃ q,s.length - r.length=q:=⟨_,rfl⟩
    have hqd:s.drop q=r:=by rw [← hq];exact suf_drop hrs
    have hq1:p<q:=by omega
    have hq2:q≤a.size:=by have:=HSZ.out;omega
    obtain ⟨A1,c1,hv3⟩:=Kd.N_slice HI.out.row
    rw [List.length_map] at hv3
    have hxl:=HXL.out
    obtain ⟨m,hm⟩:∃ m,X.length=m:=⟨_,rfl⟩
    rw [hm] at hv3 hxl
    subst hv3
    cases o with
    | none =>
      have N1:=Lib.hid (NN.out p hps r hR)
      rw [hq] at N1
      have HQ2:Hid (drvL s=X++drvL (s.drop q)):=Lib.hid (by rw [HQ.out,hdq,hqd];rfl)
      clear hdq hsf hlt2 hbd hrs hrl hq hqd hR hne hps hm hxl
      go_wp2_with fail
      refine (N1.out _ HI.out.glob).mono ?_
      rintro e w2 ⟨⟨A3,c3,rfl⟩,hb⟩
      replace HI:=Lib.hid (HI.out.call hb)
      clear hb N1
      go_wp2_with fail
      go_roundw
      case rel=>exact ⟨q,X,by go_num,hq2,Lib.hid (by have:=HXL.out;omega),Lib.hid (HI.out.alloc _),HQ2⟩
      case measure=>simp [intOf];omega
    | some t =>
      obtain ⟨⟨k0,n0,x0,a0,s0⟩,hO⟩:∃ O,ofK t=O:=⟨_,rfl⟩
      have HO:=Lib.hid hO
      have N1:=Lib.hid (NS.out p hps t r hR k0 n0 x0 a0 s0 hO)
      rw [hq] at N1
      have HLN:Hid (((X.map ofK).length+1)*72≤140737488355328):=Lib.hid (by rw [List.length_map,hm];have:=HS.out;have:=HSZ.out;omega)
      by_cases hk:k0=1
      · have h0:(ofK t).f0=k0:=by rw [hO]
        obtain ⟨n,al,self,rfl⟩:∃ n al self,t = .start n al self:=by
         rw [hk] at h0
         cases t with
         | start n al self=>exact ⟨n,al,self,rfl⟩
         | text x=>exact absurd (show (0:Int)=1 from h0) (by decide)
         | fin x=>exact absurd (show (2:Int)=1 from h0) (by decide)
         | comment x=>exact absurd (show (3:Int)=1 from h0) (by decide)
         | doctype x=>exact absurd (show (4:Int)=1 from h0) (by decide)
        have hn0:n0=B n:=by
         have:(ofK (Tk.start n al self)).f1=n0:=by rw [hO]
         exact this.symm
        have hnl:n.length≤100000:=by
         have h1:=(hbd _ rfl).2
         have h2:nmB (Tk.start n al self)=n.length:=rfl
         rw [List.length_drop] at h1
         have:=HS.out
         omega
        have e1:(k0 != 1)=false:=by rw [hk];rfl
        have hr2:=restL_suf (stateN n) n r
        have hr3:=(rest_bd (stateN n) n r).2
        have hr4:=hr2.length_le
        have hRT:∀ (tb:Nat) (v1:Value) (X1:List Tk) W,DrC w tb n0 v1 X1 W→Calls Tryz.prog 62 #[.string a,.int .i64 (q:Int),.int .i64 ((stateN n:Nat):Int),.string n0] W fun e w'=>(∃ A c,e = .returned (.tuple #[.slice A (restL (stateN n) n r).1.length c,.int .i64 ((s.length - (restL (stateN n) n r).2.length:Nat):Int)]) ∧
          Kd.F tkK w' (fun k=>w.heap.size≤k∧some k≠v1.ownBlock) A (restL (stateN n) n r).1.length ((restL (stateN n) n r).1.map ofK))∧Below W.heap.size W w':=fun tb v1 X1 W hD=>by
         have h:=RS.out q (by have:=HSZ.out;omega) n hnl (stateN n) (stateN_le n) W hD.1.glob
         rw [hqd,← hn0] at h
         refine h.mono ?_
         rintro e w' ⟨⟨A,c,he,hF⟩,hb⟩
         exact ⟨⟨A,c,he,Kd.F_mono hF (fun k hk=>⟨Nat.le_trans hD.1.below.size hk,fun he=>by have:=Kd.N_lt hD.1.row k he.symm;omega⟩)⟩,hb⟩
        have hST:∀ W,Calls Tryz.prog 63 #[.string n0] W fun e w'=>e = .returned (.int .i64 ((stateN n:Nat):Int))∧Below W.heap.size W w':=fun W=>by
         rw [hn0];exact state_c n (by omega) W
        have hdv:drv1 (some (Tk.start n al self),r)=(.start n al self::(restL (stateN n) n r).1,(restL (stateN n) n r).2):=rfl
        have hrs2:(restL (stateN n) n r).2 <:+ s:=hr2.trans hrs
        obtain ⟨⟨R1,R2⟩,hRR⟩:∃ x,restL (stateN n) n r=x:=⟨_,rfl⟩
        rw [hRR] at hRT hdv hr3 hr4 hrs2
        dsimp only at hRT hdv hr3 hr4 hrs2
        obtain ⟨q2,hq2'⟩:∃ q,s.length - R2.length=q:=⟨_,rfl⟩
        have hqd2:s.drop q2=R2:=by rw [← hq2'];exact suf_drop hrs2
        have hq3:q≤q2:=by omega
        have hq4:q2≤a.size:=by have:=HSZ.out;omega
        obtain ⟨stn,hstn⟩:∃ x,stateN n=x:=⟨_,rfl⟩
        rw [hstn] at hRT hST
        rw [hq2'] at hRT
        obtain ⟨m2,hm2⟩:∃ x,R1.length=x:=⟨_,rfl⟩
        rw [hm2] at hRT hr3
        obtain ⟨X1,hX1⟩:∃ x,X++[Tk.start n al self]=x:=⟨_,rfl⟩
        have HX1:=Lib.hid hX1
        have HX1L:Hid (X1.length≤3*p+1):=Lib.hid (by rw [← hX1,List.length_append];simp;omega)
        have HQ2:Hid (drvL s=(X1++R1)++drvL (s.drop q2)):=Lib.hid (by rw [HQ.out,hdq,hdv,hqd2,← hX1];simp)
        have RT:=Lib.hid hRT
        have ST:=Lib.hid hST
        have HM2:=Lib.hid hm2
        have HLN2:Hid (((X1.map ofK).length+m2)*72≤140737488355328):=Lib.hid (by rw [List.length_map];have:=HX1L.out;have:=HS.out;have:=HSZ.out;omega)
        clear hdq hsf hlt2 hbd hrs hrl hq hqd hR hne hps hm hxl hk hO h0 hn0 hnl hr2 hr4 hRT hST hdv hrs2 hRR hq2' hqd2 hstn hm2 hX1
        go_wp2_with fail
        refine (N1.out _ HI.out.glob).mono ?_
        rintro e w2 ⟨⟨A3,c3,rfl,h3,hF⟩,hb⟩
        have HP:Hid (∀ o:Obj,Kd.FK tkK (w2.alloc o) (fun k=>w.heap.size≤k∧some k≠(Value.slice A1 m c1).ownBlock) (⟨k0,n0,x0,a0,s0⟩:TkS) [.int .i64 k0,.string n0,.string x0,.slice A3 a0.length c3,.bool s0]):=Lib.hid (fun o=>k46_mkF _ _ (⟨k0,n0,x0,a0,s0⟩:TkS) h3 (Kd.F_mono (Kd.F_alloc hF o) (fun k hk=>⟨Nat.le_trans HI.out.below.size hk,fun he=>by have:=Kd.N_lt HI.out.row k he.symm;omega⟩)))
        replace HI:=Lib.hid (HI.out.call hb)
        clear hb N1 h3 hF
        have HC0:Hid (∀ w3,(w2.alloc (.cells #[.int .i64 k0,.string n0,.string x0,.slice A3 a0.length c3,.bool s0] 46)).grownBy w3 (Value.slice A1 m c1).ownBlock→w3.cell? ⟨w2.heap.size,0,none⟩=some (.int .i64 k0)∧w3.cell? ⟨w2.heap.size,1,none⟩=some (.string n0)):=Lib.hid (fun w3 hg=>by
         have hne:some w2.heap.size≠(Value.slice A1 m c1).ownBlock:=fun he=>by have:=Kd.N_lt HI.out.row _ he.symm;omega
         exact ⟨cell_grown hg ((World.cell?_alloc_at _ _ _ 0 rfl).trans rfl) hne,cell_grown hg ((World.cell?_alloc_at _ _ _ 1 rfl).trans rfl) hne⟩)
        go_wp2_with (first | ((with_reducible refine gate_builtin (b:=.append) (xs := #[.tmp 23,.tmp 25]) rfl ?_);at_builtin;refine Kd.N_append tkK (w0:=w) w.heap.size rfl (.tmp 23) (.tmp 25) 42 46 (.agg #[(.int .i64 0),(.string ⟨#[]⟩),(.string ⟨#[]⟩),(.slice none 0 0),(.bool false)]) 72 rfl Tryz.underlying42 infoK rfl (by decide) (by decide) (.slice A1 m c1) (X.map ofK) ⟨k0,n0,x0,a0,s0⟩ [.int .i64 k0,.string n0,.string x0,.slice A3 a0.length c3,.bool s0] (fun k=>w.heap.size≤k) (fun k=>w.heap.size≤k∧some k≠(Value.slice A1 m c1).ownBlock) rfl (by rw [alloc_sz];rfl) ?aP (fun _ hk=>hk) (fun _ hk=>Nat.le_trans (HI.out.alloc _).below.size hk) ?aO ?aB ?aS ?aL ?_;(case aP=>exact HP.out _);(case aO=>exact (HI.out.alloc _).row);(case aB=>exact (HI.out.alloc _).below);(case aS=>exact (HI.out.alloc _).below.size);(case aL=>exact HLN.out);intro v1 w3 ho hb hg hat;obtain ⟨z0,z1⟩:=HC0.out _ hg;have HI3:Hid (DrI w w3 v1 X1):=Lib.hid (DrI.grown HG.out (by rw [← HX1.out,List.map_append,List.map_singleton,HO.out];exact ho) hb);clear ho hb hg hat))
        have HS0:DrC w w2.heap.size n0 v1 X1 (w3.drew):=DrC.drew ⟨HI3.out,z1⟩
        go_region_held3 (fun W=>DrI w W v1 X1∧W.cell? ⟨w2.heap.size,1,none⟩=some (.string n0)) (first|with_reducible assumption|with_reducible exact HS0|exact DrC.call hb (by with_reducible assumption)) (first | (go_at_call 63;with_reducible refine (ST.out _).mono ?_;rintro e w' ⟨rfl,hb⟩) | (go_at_call 62;with_reducible refine (RT.out _ _ _ _ (by with_reducible assumption:DrC w w2.heap.size n0 v1 X1 _)).mono ?_;rintro e w' ⟨⟨A5,c5,rfl,hF5⟩,hb⟩))
        have HI5:=Lib.hid (And.left (by with_reducible assumption:DrC w w2.heap.size n0 v1 X1 w'))
        go_wp2_with (first | ((with_reducible refine gate_builtin (b:=.append) (xs := #[.tmp 41,.tmp 42]) rfl ?_);at_builtin;refine Kd.N_append_rows tkK (w0:=w) w.heap.size rfl (.tmp 41) (.tmp 42) 42 46 (.agg #[(.int .i64 0),(.string ⟨#[]⟩),(.string ⟨#[]⟩),(.slice none 0 0),(.bool false)]) 72 rfl Tryz.underlying42 infoK rfl (by decide) (by decide) v1 (X1.map ofK) (R1.map ofK) A5 m2 c5 (fun k=>w.heap.size≤k) (fun k=>w.heap.size≤k∧some k≠v1.ownBlock) rfl rfl ?aO ?aR (fun _ hk=>hk) (fun _ hk=>Nat.le_trans HI5.out.below.size hk) ?aB ?aS ?aL ?_;(case aO=>exact HI5.out.row);(case aR=>exact hF5);(case aB=>exact HI5.out.below);(case aS=>exact HI5.out.below.size);(case aL=>exact HLN2.out);intro v2 w6 ho hb hg hat))
        go_roundw
        case rel=>exact ⟨q2,X1++R1,by go_num,hq4,Lib.hid (by rw [List.length_append];have:=HX1L.out;have:=HM2.out;omega),Lib.hid (DrI.grown HG.out (by rw [List.map_append];exact ho) hb),HQ2⟩
        case measure=>simp [intOf];omega
      · have e1:(k0 != 1)=true:=by rw [bne_iff_ne];exact hk
        have HQ2:Hid (drvL s=(X++[t])++drvL (s.drop q)):=Lib.hid (by
         rw [HQ.out,hdq,hqd]
         have:drv1 (some t,r)=([t],r):=by
          have h0:(ofK t).f0=k0:=by rw [hO]
          cases t with
          | start n al self=>exact absurd (h0.symm:k0=1) hk
          | _=>rfl
         rw [this];simp)
        clear hdq hsf hlt2 hbd hrs hrl hq hqd hR hne hps hm hxl hk hO
        go_wp2_with fail
        refine (N1.out _ HI.out.glob).mono ?_
        rintro e w2 ⟨⟨A3,c3,rfl,h3,hF⟩,hb⟩
        have HP:Hid (∀ o:Obj,Kd.FK tkK (w2.alloc o) (fun k=>w.heap.size≤k∧some k≠(Value.slice A1 m c1).ownBlock) (⟨k0,n0,x0,a0,s0⟩:TkS) [.int .i64 k0,.string n0,.string x0,.slice A3 a0.length c3,.bool s0]):=Lib.hid (fun o=>k46_mkF _ _ (⟨k0,n0,x0,a0,s0⟩:TkS) h3 (Kd.F_mono (Kd.F_alloc hF o) (fun k hk=>⟨Nat.le_trans HI.out.below.size hk,fun he=>by have:=Kd.N_lt HI.out.row k he.symm;omega⟩)))
        replace HI:=Lib.hid (HI.out.call hb)
        clear hb N1 h3 hF
        have HC0:Hid (∀ w3,(w2.alloc (.cells #[.int .i64 k0,.string n0,.string x0,.slice A3 a0.length c3,.bool s0] 46)).grownBy w3 (Value.slice A1 m c1).ownBlock→w3.cell? ⟨w2.heap.size,0,none⟩=some (.int .i64 k0)∧w3.cell? ⟨w2.heap.size,1,none⟩=some (.string n0)):=Lib.hid (fun w3 hg=>by
         have hne:some w2.heap.size≠(Value.slice A1 m c1).ownBlock:=fun he=>by have:=Kd.N_lt HI.out.row _ he.symm;omega
         exact ⟨cell_grown hg ((World.cell?_alloc_at _ _ _ 0 rfl).trans rfl) hne,cell_grown hg ((World.cell?_alloc_at _ _ _ 1 rfl).trans rfl) hne⟩)
        go_wp2_with (first | ((with_reducible refine gate_builtin (b:=.append) (xs := #[.tmp 23,.tmp 25]) rfl ?_);at_builtin;refine Kd.N_append tkK (w0:=w) w.heap.size rfl (.tmp 23) (.tmp 25) 42 46 (.agg #[(.int .i64 0),(.string ⟨#[]⟩),(.string ⟨#[]⟩),(.slice none 0 0),(.bool false)]) 72 rfl Tryz.underlying42 infoK rfl (by decide) (by decide) (.slice A1 m c1) (X.map ofK) ⟨k0,n0,x0,a0,s0⟩ [.int .i64 k0,.string n0,.string x0,.slice A3 a0.length c3,.bool s0] (fun k=>w.heap.size≤k) (fun k=>w.heap.size≤k∧some k≠(Value.slice A1 m c1).ownBlock) rfl (by rw [alloc_sz];rfl) ?aP (fun _ hk=>hk) (fun _ hk=>Nat.le_trans (HI.out.alloc _).below.size hk) ?aO ?aB ?aS ?aL ?_;(case aP=>exact HP.out _);(case aO=>exact (HI.out.alloc _).row);(case aB=>exact (HI.out.alloc _).below);(case aS=>exact (HI.out.alloc _).below.size);(case aL=>exact HLN.out);intro v1 w3 ho hb hg hat;obtain ⟨z0,z1⟩:=HC0.out _ hg))
        go_roundw
        case rel=>exact ⟨q,X++[t],by go_num,hq2,Lib.hid (by rw [List.length_append];have:=HXL.out;simp;omega),Lib.hid (DrI.grown HG.out (by rw [List.map_append,List.map_singleton,HO.out];exact ho) hb),HQ2⟩
        case measure=>simp [intOf];omega
  · have hpa:p=a.size:=by omega
    have q9:decide ((p:Int)<(a.size:Int))=false:=decide_eq_false (by omega)
    have hXe:drvL s=X:=by rw [HQ.out,List.drop_of_length_le (by have:=HSZ.out;omega),drvL_nil,List.append_nil]
    have HX:=Lib.hid hXe
    obtain ⟨A1,c1,hv3⟩:=Kd.N_slice HI.out.row
    rw [List.length_map] at hv3
    subst hv3
    have J1:Hid (∀ W,(∃ k,W=wr.drewN k)→Calls Tryz.prog 64 #[.slice A1 X.length c1] W fun e w'=>(∃ v,e = .returned v∧Kd.V tkK 46 w' W.heap.size (fun k=>w.heap.size≤k∧k<w'.heap.size) v ((joinL (drvL s)).map ofK))∧Below W.heap.size W w'):=Lib.hid (fun W hW=>by
     obtain ⟨k,rfl⟩:=hW
     have hv:Kd.V tkK 46 (wr.drewN k) (wr.drewN k).heap.size (fun j=>w.heap.size≤j∧j<(wr.drewN k).heap.size) (.slice A1 (drvL s).length c1) ((drvL s).map ofK):=by
      rw [hXe];exact Kd.V_drewN (Kd.V_mono (Kd.V_bound (Kd.N_V HI.out.row)) (fun k hk=>hk)) k
     have:=JN.out A1 c1 HBD.out (wr.drewN k) HI.out.below.size hv
     rw [hXe] at this ⊢
     exact this)
    clear hXe
    go_wp2_with fail
    refine (J1.out _ ⟨0,rfl⟩).mono ?_
    rintro e w2 ⟨⟨v,rfl,hV⟩,hb⟩
    go_wp2_with fail
    go_ret
    refine ⟨⟨_,rfl,?_⟩,HI.out.below.trans (hb.mono HI.out.below.size)⟩
    rw [HD.out]
    exact hV
end Go.Proofs.YtcecjoaeolglbaaGreatDoor.Hand
end

section
namespace Go.Proofs.YtcecjoaeolglbaaGreatDoor.Pl
open Go
def contO:Option Nat→Prop
 | none=>False
 | some x=>128≤x∧x≤191
instance (o:Option Nat):Decidable (contO o):=by cases o<;>unfold contO<;>infer_instance
def okV (n:Nat):Prop:=n<55296∨(57344≤n∧n≤1114111)
instance (n:Nat):Decidable (okV n):=by unfold okV;infer_instance
def inO (lo hi:Nat):Option Nat→Prop
 | none=>False
 | some x=>lo≤x∧x≤hi
instance (lo hi:Nat) (o:Option Nat):Decidable (inO lo hi o):=by cases o<;>unfold inO<;>infer_instance
end Go.Proofs.YtcecjoaeolglbaaGreatDoor.Pl
end

section
namespace Go.Proofs.YtcecjoaeolglbaaGreatDoor.Hand
open Go.RowKit Go.Proofs.YtcecjoaeolglbaaGreatDoor.Pl Go.Proofs.YtcecjoaeolglbaaGreatDoor.Pb
structure Sp (w:World) (p:Nat) (l h:Int) (W:World):Prop where
 lt:p<W.heap.size
 own:w.heap.size≤p
 blk:Blk p #[.int .u8 l,.int .u8 h] W
 below:Below w.heap.size w W
@[reducible] def SpC (w:World) (p:Nat) (l h:Int) (W:World):Prop:=Sp w p l h W∧W.cell? ⟨p,0,none⟩=some (.int .u8 l)∧W.cell? ⟨p,1,none⟩=some (.int .u8 h)
end Go.Proofs.YtcecjoaeolglbaaGreatDoor.Hand
end

section
namespace Go.Proofs.YtcecjoaeolglbaaGreatDoor.RowKit
open Go
def R:OpenClaim:=Rows.contextReadsRow
theorem p2:laidOutB Tryz.prog=true:=by kernel_rfl
theorem p3:mapsRowed Tryz.prog=true:=by kernel_rfl
theorem p7:(Tryz.prog.stops == [])=true:=by kernel_rfl
theorem p9:(Tryz.prog.stopKnobs == [])=true:=by kernel_rfl
theorem p23:(R.plainKeys == Tryz.prog.plainKeys)=true:=by kernel_rfl
theorem p25:Tryz.prog.stopsHeard=true:=by kernel_rfl
theorem p26:Tryz.prog.mayEnter=true:=by kernel_rfl
theorem p27:(R.lifted == Tryz.prog.liftsFinal)=true:=by kernel_rfl
theorem p28:(Tryz.prog.make == some R.make)=true:=by kernel_rfl
theorem looks_is:Tryz.prog.looks []=Rows.contextReadsCard.stood.looks:=by kernel_rfl
theorem main_is:Tryz.prog.mainIs=some (Rows.contextReadsCard.stood.harness.1,Rows.contextReadsCard.stood.harness.2.toList):=by kernel_rfl
end Go.Proofs.YtcecjoaeolglbaaGreatDoor.RowKit
end

section
namespace Go.Proofs.YtcecjoaeolglbaaGreatDoor.RowKit
open Go Go.RowKit
theorem out_of_shape {W:World} (h:W.ShapedOpen Tryz.prog):∃ m,W.cell? ⟨0,0,none⟩=some (.int .i64 m) :=
 Go.Proofs.cell_of_shapedOpen_int (zero := #[.int .i64 0]) (t:=3) h (of_decide_eq_true (by kernel_rfl)) (by kernel_rfl) rfl (by kernel_rfl) (by kernel_rfl) Tryz.underlying3
theorem laid_mem {P:Program} {w:World} {n:String} {d:DataW Unit}:∀ {l:List (String×DataW Unit)} {ps:List MemPlace},DataW.LaidVars P w l ps→(n,d)∈l →
  ∃ g t cs fuel p,P.globalNamed n=some g∧(P.globals[g]?).map (·.type)=some t∧w.var? P n=some cs∧DataW.trod (fun _=>()) P w 0 (fun _=>true) false fuel t cs.toList=some (d,p)
 | [],_,_,hm=>by cases hm
 | (m,e)::r,ps,h,hm=>by
   obtain ⟨g,t,cs,fuel,p,q,h1,h2,h3,h4,h5,_⟩:=h
   rcases List.mem_cons.1 hm with h'|h'
   · obtain ⟨rfl,rfl⟩:=Prod.mk.inj h'
     exact ⟨g,t,cs,fuel,p,h1,h2,h3,h4⟩
   · exact laid_mem h5 h'
theorem globE_of_laid {W:World} {laid:List (String×DataW Unit)} {nm:String} {d:DataW Unit} (h:laidMetH Tryz.prog laid W) (hp:(laid.all fun x=>x.2.handleName?.isNone)=true)
  (hm:("strconv.ErrSyntax",DataW.iface nm d)∈laid):Hand.GlobE W:=by
 rw [MakeChecks.laidMetH_plain _ _ _ hp] at h
 obtain ⟨ps,hl,_⟩:=h
 obtain ⟨g,t,cs,fuel,p,h1,h2,h3,h4⟩:=laid_mem hl hm
 have hg:Tryz.prog.globalNamed "strconv.ErrSyntax" = some 3:=by kernel_rfl
 obtain rfl:3=g:=Option.some.inj (hg.symm.trans h1)
 have ht:(Tryz.prog.globals[3]?).map (·.type)=some 59:=by kernel_rfl
 obtain rfl:59=t:=Option.some.inj (ht.symm.trans h2)
 obtain ⟨_,u,v,hc,_,_⟩:=iface_of_trod Tryz.underlying59 h4
 have hcell:=var?_cell h1 h3 0
 have hcs:cs = #[.iface u v]:=by cases cs;simpa using hc
 rw [hcs] at hcell
 exact ⟨_,hcell,.inr ⟨u,v,rfl⟩⟩
theorem glob_of_laid {W:World} (hs:W.ShapedOpen Tryz.prog) {laid:List (String×DataW Unit)} {nm:String} {d:DataW Unit} (h:laidMetH Tryz.prog laid W) (hp:(laid.all fun x=>x.2.handleName?.isNone)=true)
 (hm:("strconv.ErrSyntax",DataW.iface nm d)∈laid):Hand.Glob W:=⟨out_of_shape hs,(globE_of_laid h hp hm).out⟩
section
variable {H : Type} {enc : TypeId × Value → H}
theorem handed_and_shaped {a:Assume} {C:Checked} {os:Os} {f:FuncId} {fn:Func} {s:ChangeSpec} {conds:List PathCond} {apart fresh handsOn again:Bool} {X:World→Array Value→Prop}
  (hX:∀ (w w':World) (args:Array Value),w.heap=w'.heap→X w args→X w' args)
  (own:ownKnob C.prog.godebug=none) (started:os.Started) (noInit:C.prog.inits.idxOf? f=none) (hfn:C.prog.funcs[f]? = some fn)
  (witness:∃ (w:World) (tape:Tape) (i:Input),w.os=os∧(w.forCall tape i).Shaped C.prog∧i.vars=[]∧Input.okWide C.prog (w.forCall tape i) .any w.heap.size f i ∧
    ((s.pre enc C.prog fn conds apart (w.forCall tape i).memory i.args∧X (w.forCall tape i).memory i.args)∧sizedMet enc C.prog fn (OpenSpec.ofChange s) apart (w.forCall tape i).memory i.args) ∧
    a.holds C.prog (lone (Frame.enter C.prog f i.args .normal) [] (w.forCall tape i)))
  (contract:∀ (W:World) (base:Nat) (args:Array Value) (ds gs:List (DataW H)) (before:List MemPlace),
    (∀ (j:Nat) t v,fn.params[j]? = some t→args[j]? = some v→Value.okWide C.prog W .any base t v) →
    DataW.Whole enc C.prog fn.params.toList s.vars apart W args.toList ds gs before →
    (DataW.weightsEach C.prog (fn.params.toList++s.plain.varTypes C.prog) (ds++gs)).all (· ≤ reachBytes)=true→X W args→W.ShapedOpen C.prog →
    Calls C.prog f args W fun e W' => ∃ v,e = .returned v∧s.post enc C.prog fn apart fresh handsOn again W args v W') :
  ReturnsInHanded a C os f .any (fun w args=>(s.pre enc C.prog fn conds apart w args∧X w args)∧sizedMet enc C.prog fn (OpenSpec.ofChange s) apart w args) (s.post enc C.prog fn apart fresh handsOn again):=by
 refine returnsInHanded_of_calls own started noInit witness ?_
 intro w tape i _ hsh _ hok hpre _
 obtain ⟨_,_,_,fn',hfn',_,_,_,_,hval⟩:=hok
 have e:fn'=fn:=Option.some.inj (hfn'.symm.trans hfn)
 subst e
 obtain ⟨⟨⟨ds,gs,before,hw,_⟩,hx⟩,hz⟩:=hpre
 have hw':=DataW.Whole.of_heap (w':=w.forCall tape i) (by rfl) hw
 refine (contract (w.forCall tape i) w.heap.size i.args ds gs before hval hw' (hz.weights hw) (hX _ _ _ (by rfl) hx) hsh).mono fun e W' ⟨v,he,hp⟩ => ?_
 subst he
 exact ChangeSpec.post_blind hp
end
theorem joined {f:FuncId} {fn:Func} {s:ChangeSpec} {c:OpenClaim}
  (k1:c.wf (OpenSpec.ofChange s)=true) (k4:(fn.params.all (Tryz.prog.readableRec ·))=true) (k5:namedTie Tryz.prog c.named s.vars=true) (k6:(c.stops == [])=true) (k8:(c.knobs == [])=true)
  (k10:(c.inPlace == Tryz.prog.inPlace f)=true) (k11:(c.unfollowed == Tryz.prog.unfollowed f)=true) (k12:(c.recurses == Tryz.prog.recurses f)=true) (k13:(c.named == Tryz.prog.varsNamed f)=true)
  (k14:(c.maps == (fn.params.toList++s.plain.varTypes Tryz.prog).any (Tryz.prog.mapsRec ·))=true) (k15:(c.ifaces == (fn.params.toList++s.plain.varTypes Tryz.prog).any (Tryz.prog.ifacesRec ·))=true) (k16:(c.mapsOut == Tryz.prog.mapsAmong fn.resultTypes.toList)=true)
  (k17:(c.loops == (fn.params.toList++s.plain.varTypes Tryz.prog).any (Tryz.prog.loopsFrom ·))=true) (k18:(c.wideKeys == (fn.params.toList++s.plain.varTypes Tryz.prog++fn.resultTypes.toList).any (Tryz.prog.wideKeysFrom ·))=true)
  (k19:s.vars.all (Tryz.prog.varReadable ·)=true) (k20:fn.resultTypes.all (fun t=>Tryz.prog.readableRec t&&decide (t<Tryz.prog.types.size))=true) (k21:(c.ifacesOut == fn.resultTypes.toList.any (Tryz.prog.ifacesRec ·))=true) (k22:(c.loopsOut == fn.resultTypes.toList.any (Tryz.prog.loopsFrom ·))=true)
  (k23:c.plainKeys=R.plainKeys) (k24:c.shortTexts.isNone=true) (k27:c.lifted=R.lifted) (k28:c.make=R.make)
  (k29:c.domain=[]) (k29':c.kinds=[]) (k30:(c.pinned == c.pinnedBy)=true)
  (k31:(c.veiled == (fn.params.toList++s.plain.varTypes Tryz.prog++fn.resultTypes.toList).any (Tryz.prog.veiledRec ·))=true) (k32:c.veiledFits Tryz.prog fn.params.toList (fn.params.toList++s.plain.varTypes Tryz.prog++fn.resultTypes.toList)=true) :
  joinedFacts Tryz.prog f fn s c=true:=by
 have e23:(c.plainKeys == Tryz.prog.plainKeys)=true:=by rw [k23];exact p23
 have e27:(c.lifted == Tryz.prog.liftsFinal)=true:=by rw [k27];exact p27
 have e28:(Tryz.prog.make == some c.make)=true:=by rw [k28];exact p28
 unfold joinedFacts
 rw [k1,p2,p3,k4,k5,k6,p7,k8,p9,k10,k11,k12,k13,k14,k15,k16,k17,k18,k19,k20,k21,k22,e23,k24,p25,p26,e27,e28,k29,k29',k30,k31,k32]
 rfl
end Go.Proofs.YtcecjoaeolglbaaGreatDoor.RowKit
end
