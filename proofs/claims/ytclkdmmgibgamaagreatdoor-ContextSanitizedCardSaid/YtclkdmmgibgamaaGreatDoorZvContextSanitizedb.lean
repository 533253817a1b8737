/-
  Texts of the claim ContextSanitized, merged by a program of this session (2).
-/
import Derived.SizedLaws
import Derived.ChangeSlices
import Derived.Test.YtclkdmmgibgamaaGreatDoorZvContextSanitizeda
set_option linter.unusedVariables false
set_option linter.unusedSimpArgs false
set_option maxRecDepth 100000
set_option maxHeartbeats 16000000
namespace Go.Proofs.YtclkdmmgibgamaaGreatDoor
section
namespace Hand
open Go Go.RowKit K0 Pl Pb Sa St Go.Proofs.YtclkdmmgibgamaaGreatDoor.Pure YtclkdmmgibgamaaGreatDoorW.PrintWords YtclkdmmgibgamaaGreatDoorW.PrintLast YtclkdmmgibgamaaGreatDoorW.PrintMore
abbrev RowU8 (w:World) (a:Option Addr) (len cap:Nat) (z:List Int):Prop :=
 (a=none∧len=0∧cap=0∧z=[])∨∃ x,a=some x∧len≤cap∧cap≤maxLen∧z.length=cap∧(∀ i,i<z.length→w.cell? (x.add i)=some (.int .u8 (z.getD i 0)))∧∀ n∈z,(Lit.int .u8 n).wf=true
def numsB (l:List Int):List UInt8:=l.map fun n=>UInt8.ofNat n.toNat
theorem numsB_len (l:List Int):(numsB l).length=l.length:=List.length_map ..
theorem byt_of {l:List Int} {A:Option Addr} {w:World} (h:Kd.C (Kd.int .u8) w A l.length l) (c:Nat):Byt (numsB l) (.slice A l.length c) w:=fun _ hb =>
 Kd.C_string (P:=Tryz.prog) (c:=c) (src:=22) (dst:=9) Tryz.underlying22 Tryz.underlying5 Tryz.underlying9 (Kd.C_below h hb)
end Hand
end

section
namespace Sp
open Go.RowKit K0 Hand Sa YtclkdmmgibgamaaGreatDoorW.PrintWords YtclkdmmgibgamaaGreatDoorW.PrintLast YtclkdmmgibgamaaGreatDoorW.PrintMore
attribute [local go_sem] max2_int min2_int max_two min_two max_three min_three max_four min_four  
set_option linter.unusedVariables false
set_option linter.unusedSimpArgs false
noncomputable def flaillaw23_awake.f  : Option (Bool):=(context_Parse.f 0 false (⟨#[97,60,98,62]⟩:ByteArray)).bind fun bt101=>((context_Parse.f 1 false (⟨#[97,62,98]⟩:ByteArray)).bind fun bt103=>((context_Parse.f 2 false (⟨#[10,97]⟩:ByteArray)).bind fun bt105=>(if bt101.2=true then (some false) else (if bt103.2=true then (if bt105.2=true then (if bt103.1.toList=([97,62,98]:List UInt8) then (if bt105.1.toList=([97]:List UInt8) then ((context_Wrap.f 1 true (⟨#[122]⟩:ByteArray)).bind fun t107=>(some (t107.toList == ([60,97,32,120,61,39,122,39,62]:List UInt8)))) else (some false)) else (some false)) else (some false)) else (some false)))))
theorem flaillaw23_awake.calls  (r:Bool) (w:World) (hGl:Glob w) (h:flaillaw23_awake.f  = some r) :
  Calls Tryz.prog 22 #[] w fun e w'=>e = .returned (.bool r)∧Below w.heap.size w w':=by
 have HB:=Aside0.mk (Below.refl w.heap.size w)
 have H:((context_Parse.f 0 false (⟨#[97,60,98,62]⟩:ByteArray)).bind fun bt101=>((context_Parse.f 1 false (⟨#[97,62,98]⟩:ByteArray)).bind fun bt103=>((context_Parse.f 2 false (⟨#[10,97]⟩:ByteArray)).bind fun bt105=>(if bt101.2=true then (some false) else (if bt103.2=true then (if bt105.2=true then (if bt103.1.toList=([97,62,98]:List UInt8) then (if bt105.1.toList=([97]:List UInt8) then ((context_Wrap.f 1 true (⟨#[122]⟩:ByteArray)).bind fun t107=>(some (t107.toList == ([60,97,32,120,61,39,122,39,62]:List UInt8)))) else (some false)) else (some false)) else (some false)) else (some false))))))=some r:=h
 clear h
 replace H:=Option.bind_eq_some_iff.mp H
 obtain ⟨⟨t101,t102⟩,A10,H⟩:=H
 try dsimp only at H
 have A1:=Aside0.mk A10
 clear A10
 replace H:=Option.bind_eq_some_iff.mp H
 obtain ⟨⟨t103,t104⟩,A20,H⟩:=H
 try dsimp only at H
 have A2:=Aside0.mk A20
 clear A20
 replace H:=Option.bind_eq_some_iff.mp H
 obtain ⟨⟨t105,t106⟩,A30,H⟩:=H
 try dsimp only at H
 have A3:=Aside0.mk A30
 clear A30
 by_cases c4:t102=true
 ·subst c4
  rw [if_pos rfl] at H
  obtain rfl:=Option.some.inj H
  go_enter Tryz.func22,Tryz.ntmps22
  go_wp2_with (first | ((with_reducible refine gate_callee (f:=23) rfl ?_);refine goesL_ (some 8) rfl rfl Tryz.func23 zu13 rfl #[.int .i64 0,.bool false,.string (⟨#[97,60,98,62]⟩:ByteArray)] rfl zu2 ?_;(with_reducible refine (context_Parse.calls 0 false (⟨#[97,60,98,62]⟩:ByteArray) t101 true _ ?side1 A1.out).mono ?_);(case side1=>exact Glob.step hGl zu1);rintro e w5 ⟨rfl,hb⟩;refine ⟨_,rfl,?_⟩;have n0_:=Aside0.mk (below_step zu1 hb);clear HB;have HB:=n0_;clear n0_;(try clear hb);(try clear hb2);(try clear hk);(try clear hi)) | ((with_reducible refine gate_callee (f:=23) rfl ?_);refine goesL_ (some 12) rfl rfl Tryz.func23 zu13 rfl #[.int .i64 1,.bool false,.string (⟨#[97,62,98]⟩:ByteArray)] rfl zu2 ?_;(with_reducible refine (context_Parse.calls 1 false (⟨#[97,62,98]⟩:ByteArray) t103 t104 _ ?side1 A2.out).mono ?_);(case side1=>exact Glob.step hGl zu1);rintro e w6 ⟨rfl,hb⟩;refine ⟨_,rfl,?_⟩;have n0_:=Aside0.mk (below_step zu1 hb);clear HB;have HB:=n0_;clear n0_;(try clear hb);(try clear hb2);(try clear hk);(try clear hi)) | ((with_reducible refine gate_callee (f:=23) rfl ?_);refine goesL_ (some 16) rfl rfl Tryz.func23 zu13 rfl #[.int .i64 2,.bool false,.string (⟨#[10,97]⟩:ByteArray)] rfl zu2 ?_;(with_reducible refine (context_Parse.calls 2 false (⟨#[10,97]⟩:ByteArray) t105 t106 _ ?side1 A3.out).mono ?_);(case side1=>exact Glob.step hGl zu1);rintro e w7 ⟨rfl,hb⟩;refine ⟨_,rfl,?_⟩;have n0_:=Aside0.mk (below_step zu1 hb);clear HB;have HB:=n0_;clear n0_;(try clear hb);(try clear hb2);(try clear hk);(try clear hi)))
  go_ret
  exact zu5
 ·replace c4:=Bool.eq_false_iff.mpr c4
  subst c4
  rw [if_neg (show ¬ (false=true) by decide)] at H
  by_cases c8:t104=true
  ·subst c8
   rw [if_pos rfl] at H
   by_cases c9:t106=true
   ·subst c9
    rw [if_pos rfl] at H
    by_cases c10:t103.toList=([97,62,98]:List UInt8)
    ·rw [if_pos c10] at H
     have c10b0:(t103.toList == ([97,62,98]:List UInt8))=true:=beq_iff_eq.mpr c10
     have c10b1:(t103.toList != ([97,62,98]:List UInt8))=false:=bne_eq_false_iff_eq.mpr c10
     clear c10
     by_cases c11:t105.toList=([97]:List UInt8)
     ·rw [if_pos c11] at H
      have c11b0:(t105.toList == ([97]:List UInt8))=true:=beq_iff_eq.mpr c11
      have c11b1:(t105.toList != ([97]:List UInt8))=false:=bne_eq_false_iff_eq.mpr c11
      clear c11
      replace H:=Option.bind_eq_some_iff.mp H
      obtain ⟨t107,A120,H⟩:=H
      try dsimp only at H
      have A12:=Aside0.mk A120
      clear A120
      obtain rfl:=Option.some.inj H
      go_enter Tryz.func22,Tryz.ntmps22
      go_wp2_with (first | ((with_reducible refine gate_callee (f:=23) rfl ?_);refine goesL_ (some 8) rfl rfl Tryz.func23 zu13 rfl #[.int .i64 0,.bool false,.string (⟨#[97,60,98,62]⟩:ByteArray)] rfl zu2 ?_;(with_reducible refine (context_Parse.calls 0 false (⟨#[97,60,98,62]⟩:ByteArray) t101 false _ ?side1 A1.out).mono ?_);(case side1=>exact Glob.step hGl zu1);rintro e w13 ⟨rfl,hb⟩;refine ⟨_,rfl,?_⟩;have n0_:=Aside0.mk (below_step zu1 hb);clear HB;have HB:=n0_;clear n0_;(try clear hb);(try clear hb2);(try clear hk);(try clear hi)) | ((with_reducible refine gate_callee (f:=23) rfl ?_);refine goesL_ (some 12) rfl rfl Tryz.func23 zu13 rfl #[.int .i64 1,.bool false,.string (⟨#[97,62,98]⟩:ByteArray)] rfl zu2 ?_;(with_reducible refine (context_Parse.calls 1 false (⟨#[97,62,98]⟩:ByteArray) t103 true _ ?side1 A2.out).mono ?_);(case side1=>exact Glob.step hGl zu1);rintro e w14 ⟨rfl,hb⟩;refine ⟨_,rfl,?_⟩;have n0_:=Aside0.mk (below_step zu1 hb);clear HB;have HB:=n0_;clear n0_;(try clear hb);(try clear hb2);(try clear hk);(try clear hi)) | ((with_reducible refine gate_callee (f:=23) rfl ?_);refine goesL_ (some 16) rfl rfl Tryz.func23 zu13 rfl #[.int .i64 2,.bool false,.string (⟨#[10,97]⟩:ByteArray)] rfl zu2 ?_;(with_reducible refine (context_Parse.calls 2 false (⟨#[10,97]⟩:ByteArray) t105 true _ ?side1 A3.out).mono ?_);(case side1=>exact Glob.step hGl zu1);rintro e w15 ⟨rfl,hb⟩;refine ⟨_,rfl,?_⟩;have n0_:=Aside0.mk (below_step zu1 hb);clear HB;have HB:=n0_;clear n0_;(try clear hb);(try clear hb2);(try clear hk);(try clear hi)) | (go_at_call 48;(with_reducible refine (context_Wrap.calls 1 true (⟨#[122]⟩:ByteArray) t107 _ A12.out).mono ?_);rintro e w16 ⟨rfl,hb⟩;have n0_:=Aside0.mk (below_step zu1 hb);clear HB;have HB:=n0_;clear n0_;(try clear hb);(try clear hb2);(try clear hk);(try clear hi)))
      go_ret
      exact zu5
     ·rw [if_neg c11] at H
      have c11b0:(t105.toList == ([97]:List UInt8))=false:=beq_eq_false_iff_ne.mpr c11
      have c11b1:(t105.toList != ([97]:List UInt8))=true:=bne_iff_ne.mpr c11
      obtain rfl:=Option.some.inj H
      go_enter Tryz.func22,Tryz.ntmps22
      go_wp2_with (first | ((with_reducible refine gate_callee (f:=23) rfl ?_);refine goesL_ (some 8) rfl rfl Tryz.func23 zu13 rfl #[.int .i64 0,.bool false,.string (⟨#[97,60,98,62]⟩:ByteArray)] rfl zu2 ?_;(with_reducible refine (context_Parse.calls 0 false (⟨#[97,60,98,62]⟩:ByteArray) t101 false _ ?side1 A1.out).mono ?_);(case side1=>exact Glob.step hGl zu1);rintro e w17 ⟨rfl,hb⟩;refine ⟨_,rfl,?_⟩;have n0_:=Aside0.mk (below_step zu1 hb);clear HB;have HB:=n0_;clear n0_;(try clear hb);(try clear hb2);(try clear hk);(try clear hi)) | ((with_reducible refine gate_callee (f:=23) rfl ?_);refine goesL_ (some 12) rfl rfl Tryz.func23 zu13 rfl #[.int .i64 1,.bool false,.string (⟨#[97,62,98]⟩:ByteArray)] rfl zu2 ?_;(with_reducible refine (context_Parse.calls 1 false (⟨#[97,62,98]⟩:ByteArray) t103 true _ ?side1 A2.out).mono ?_);(case side1=>exact Glob.step hGl zu1);rintro e w18 ⟨rfl,hb⟩;refine ⟨_,rfl,?_⟩;have n0_:=Aside0.mk (below_step zu1 hb);clear HB;have HB:=n0_;clear n0_;(try clear hb);(try clear hb2);(try clear hk);(try clear hi)) | ((with_reducible refine gate_callee (f:=23) rfl ?_);refine goesL_ (some 16) rfl rfl Tryz.func23 zu13 rfl #[.int .i64 2,.bool false,.string (⟨#[10,97]⟩:ByteArray)] rfl zu2 ?_;(with_reducible refine (context_Parse.calls 2 false (⟨#[10,97]⟩:ByteArray) t105 true _ ?side1 A3.out).mono ?_);(case side1=>exact Glob.step hGl zu1);rintro e w19 ⟨rfl,hb⟩;refine ⟨_,rfl,?_⟩;have n0_:=Aside0.mk (below_step zu1 hb);clear HB;have HB:=n0_;clear n0_;(try clear hb);(try clear hb2);(try clear hk);(try clear hi)))
      go_ret
      exact zu5
    ·rw [if_neg c10] at H
     have c10b0:(t103.toList == ([97,62,98]:List UInt8))=false:=beq_eq_false_iff_ne.mpr c10
     have c10b1:(t103.toList != ([97,62,98]:List UInt8))=true:=bne_iff_ne.mpr c10
     obtain rfl:=Option.some.inj H
     go_enter Tryz.func22,Tryz.ntmps22
     go_wp2_with (first | ((with_reducible refine gate_callee (f:=23) rfl ?_);refine goesL_ (some 8) rfl rfl Tryz.func23 zu13 rfl #[.int .i64 0,.bool false,.string (⟨#[97,60,98,62]⟩:ByteArray)] rfl zu2 ?_;(with_reducible refine (context_Parse.calls 0 false (⟨#[97,60,98,62]⟩:ByteArray) t101 false _ ?side1 A1.out).mono ?_);(case side1=>exact Glob.step hGl zu1);rintro e w20 ⟨rfl,hb⟩;refine ⟨_,rfl,?_⟩;have n0_:=Aside0.mk (below_step zu1 hb);clear HB;have HB:=n0_;clear n0_;(try clear hb);(try clear hb2);(try clear hk);(try clear hi)) | ((with_reducible refine gate_callee (f:=23) rfl ?_);refine goesL_ (some 12) rfl rfl Tryz.func23 zu13 rfl #[.int .i64 1,.bool false,.string (⟨#[97,62,98]⟩:ByteArray)] rfl zu2 ?_;(with_reducible refine (context_Parse.calls 1 false (⟨#[97,62,98]⟩:ByteArray) t103 true _ ?side1 A2.out).mono ?_);(case side1=>exact Glob.step hGl zu1);rintro e w21 ⟨rfl,hb⟩;refine ⟨_,rfl,?_⟩;have n0_:=Aside0.mk (below_step zu1 hb);clear HB;have HB:=n0_;clear n0_;(try clear hb);(try clear hb2);(try clear hk);(try clear hi)) | ((with_reducible refine gate_callee (f:=23) rfl ?_);refine goesL_ (some 16) rfl rfl Tryz.func23 zu13 rfl #[.int .i64 2,.bool false,.string (⟨#[10,97]⟩:ByteArray)] rfl zu2 ?_;(with_reducible refine (context_Parse.calls 2 false (⟨#[10,97]⟩:ByteArray) t105 true _ ?side1 A3.out).mono ?_);(case side1=>exact Glob.step hGl zu1);rintro e w22 ⟨rfl,hb⟩;refine ⟨_,rfl,?_⟩;have n0_:=Aside0.mk (below_step zu1 hb);clear HB;have HB:=n0_;clear n0_;(try clear hb);(try clear hb2);(try clear hk);(try clear hi)))
     go_ret
     exact zu5
   ·replace c9:=Bool.eq_false_iff.mpr c9
    subst c9
    rw [if_neg (show ¬ (false=true) by decide)] at H
    obtain rfl:=Option.some.inj H
    go_enter Tryz.func22,Tryz.ntmps22
    go_wp2_with (first | ((with_reducible refine gate_callee (f:=23) rfl ?_);refine goesL_ (some 8) rfl rfl Tryz.func23 zu13 rfl #[.int .i64 0,.bool false,.string (⟨#[97,60,98,62]⟩:ByteArray)] rfl zu2 ?_;(with_reducible refine (context_Parse.calls 0 false (⟨#[97,60,98,62]⟩:ByteArray) t101 false _ ?side1 A1.out).mono ?_);(case side1=>exact Glob.step hGl zu1);rintro e w23 ⟨rfl,hb⟩;refine ⟨_,rfl,?_⟩;have n0_:=Aside0.mk (below_step zu1 hb);clear HB;have HB:=n0_;clear n0_;(try clear hb);(try clear hb2);(try clear hk);(try clear hi)) | ((with_reducible refine gate_callee (f:=23) rfl ?_);refine goesL_ (some 12) rfl rfl Tryz.func23 zu13 rfl #[.int .i64 1,.bool false,.string (⟨#[97,62,98]⟩:ByteArray)] rfl zu2 ?_;(with_reducible refine (context_Parse.calls 1 false (⟨#[97,62,98]⟩:ByteArray) t103 true _ ?side1 A2.out).mono ?_);(case side1=>exact Glob.step hGl zu1);rintro e w24 ⟨rfl,hb⟩;refine ⟨_,rfl,?_⟩;have n0_:=Aside0.mk (below_step zu1 hb);clear HB;have HB:=n0_;clear n0_;(try clear hb);(try clear hb2);(try clear hk);(try clear hi)) | ((with_reducible refine gate_callee (f:=23) rfl ?_);refine goesL_ (some 16) rfl rfl Tryz.func23 zu13 rfl #[.int .i64 2,.bool false,.string (⟨#[10,97]⟩:ByteArray)] rfl zu2 ?_;(with_reducible refine (context_Parse.calls 2 false (⟨#[10,97]⟩:ByteArray) t105 false _ ?side1 A3.out).mono ?_);(case side1=>exact Glob.step hGl zu1);rintro e w25 ⟨rfl,hb⟩;refine ⟨_,rfl,?_⟩;have n0_:=Aside0.mk (below_step zu1 hb);clear HB;have HB:=n0_;clear n0_;(try clear hb);(try clear hb2);(try clear hk);(try clear hi)))
    go_ret
    exact zu5
  ·replace c8:=Bool.eq_false_iff.mpr c8
   subst c8
   rw [if_neg (show ¬ (false=true) by decide)] at H
   obtain rfl:=Option.some.inj H
   go_enter Tryz.func22,Tryz.ntmps22
   go_wp2_with (first | ((with_reducible refine gate_callee (f:=23) rfl ?_);refine goesL_ (some 8) rfl rfl Tryz.func23 zu13 rfl #[.int .i64 0,.bool false,.string (⟨#[97,60,98,62]⟩:ByteArray)] rfl zu2 ?_;(with_reducible refine (context_Parse.calls 0 false (⟨#[97,60,98,62]⟩:ByteArray) t101 false _ ?side1 A1.out).mono ?_);(case side1=>exact Glob.step hGl zu1);rintro e w26 ⟨rfl,hb⟩;refine ⟨_,rfl,?_⟩;have n0_:=Aside0.mk (below_step zu1 hb);clear HB;have HB:=n0_;clear n0_;(try clear hb);(try clear hb2);(try clear hk);(try clear hi)) | ((with_reducible refine gate_callee (f:=23) rfl ?_);refine goesL_ (some 12) rfl rfl Tryz.func23 zu13 rfl #[.int .i64 1,.bool false,.string (⟨#[97,62,98]⟩:ByteArray)] rfl zu2 ?_;(with_reducible refine (context_Parse.calls 1 false (⟨#[97,62,98]⟩:ByteArray) t103 false _ ?side1 A2.out).mono ?_);(case side1=>exact Glob.step hGl zu1);rintro e w27 ⟨rfl,hb⟩;refine ⟨_,rfl,?_⟩;have n0_:=Aside0.mk (below_step zu1 hb);clear HB;have HB:=n0_;clear n0_;(try clear hb);(try clear hb2);(try clear hk);(try clear hi)) | ((with_reducible refine gate_callee (f:=23) rfl ?_);refine goesL_ (some 16) rfl rfl Tryz.func23 zu13 rfl #[.int .i64 2,.bool false,.string (⟨#[10,97]⟩:ByteArray)] rfl zu2 ?_;(with_reducible refine (context_Parse.calls 2 false (⟨#[10,97]⟩:ByteArray) t105 t106 _ ?side1 A3.out).mono ?_);(case side1=>exact Glob.step hGl zu1);rintro e w28 ⟨rfl,hb⟩;refine ⟨_,rfl,?_⟩;have n0_:=Aside0.mk (below_step zu1 hb);clear HB;have HB:=n0_;clear n0_;(try clear hb);(try clear hb2);(try clear hk);(try clear hi)))
   go_ret
   exact zu5
end Sp
end

section
namespace Pure
open Go Go.RowKit K0 Hand Sa Sp YtclkdmmgibgamaaGreatDoorW.PrintWords YtclkdmmgibgamaaGreatDoorW.PrintMore Pl Pb
theorem parse_f (d:Int) (single:Bool) (s:List UInt8) (hs:s.length≤20000):context_Parse.f d single (B s)=some (B (parseL d single s).1,(parseL d single s).2):=by
 unfold context_Parse.f
 rw [if_pos (by rw [size_B];exact hs),B_data]
theorem wrap_f (d:Int) (single:Bool) (s:List UInt8) (hs:s.length≤20000):context_Wrap.f d single (B s)=some (B (wrapL d single s)):=by
 unfold context_Wrap.f
 rw [if_pos zu36,B_data]
theorem B_list (x:List UInt8):(B x).toList=x:=by rw [toList_data,B_data]
theorem awake23:flaillaw23_awake.f=some true:=by
 unfold flaillaw23_awake.f
 rw [show (⟨#[97,60,98,62]⟩:ByteArray)=B [97,60,98,62] from rfl,show (⟨#[97,62,98]⟩:ByteArray)=B [97,62,98] from rfl,show (⟨#[10,97]⟩:ByteArray)=B [10,97] from rfl,show (⟨#[122]⟩:ByteArray)=B [122] from rfl,
  parse_f _ _ _ zu15,parse_f _ _ _ zu15,parse_f _ _ _ zu15,wrap_f _ _ _ zu15,aw_2,aw_3,Option.bind_some,Option.bind_some,Option.bind_some,aw_1,if_neg zu15,if_pos rfl,if_pos rfl,
  if_pos (B_list _),if_pos (B_list _),Option.bind_some,B_list]
 rfl
end Pure
namespace Pcq
open Go Go.RowKit K0 Hand YtclkdmmgibgamaaGreatDoorW.PrintWords YtclkdmmgibgamaaGreatDoorW.PrintMore Pl Pb Go.Proofs.YtclkdmmgibgamaaGreatDoor.Pure
end Pcq
end

section
namespace Hand
open Go Go.RowKit K0 Pl Pb Sa St Go.Proofs.YtclkdmmgibgamaaGreatDoor.Pure YtclkdmmgibgamaaGreatDoorW.PrintWords YtclkdmmgibgamaaGreatDoorW.PrintLast YtclkdmmgibgamaaGreatDoorW.PrintMore
theorem mod_three {d:Int} (h:(Lit.int .u8 d).wf=true):∃ k,d.tmod 3=k∧(k=0∨k=1∨k=2):=by
 have hw:IntKind.u8.min≤d∧d≤IntKind.u8.max:=by simpa [Lit.wf] using h
 have hd0:0≤d:=Int.le_trans zu15 hw.1
 exact ⟨_,rfl,by rw [Int.tmod_eq_emod_of_nonneg hd0];omega⟩
theorem sann_len {k:Int} (hk:k=0∨k=1∨k=2) (s:List UInt8) (hs:s.length≤300):(sanL k s).length≤5400:=by
 have:=san_len k s zu4
 omega
theorem ContextSanitized_law (a0 a1:Int) (single:Bool) (a3:Option Addr) (len3 cap3:Nat) (z3:List Int) (w:World) (w0:(Lit.int .u8 a0).wf=true) (w1:(Lit.int .u8 a1).wf=true) (w3:RowU8 w a3 len3 cap3 z3) (_:len3*1≤140737488351232) (hGl:Glob w) :
  Calls Tryz.prog 7 #[.int .u8 a0,.int .u8 a1,.bool single,.slice a3 len3 cap3] w fun e w'=>e = .returned (.bool true)∧Below w.heap.size w w':=by
 obtain ⟨l,rfl,hr,hm,hw,hc⟩:=ReadsInt.ofRowC w3
 have hv:=byt_of (Kd.C_of_reads (d:=(0:Int)) (h1:=fun _=>rfl) hr) cap3
 have hn:=numsB_len l
 obtain ⟨s,hs⟩:∃ s,numsB l=s:=⟨_,rfl⟩
 rw [hs] at hv hn
 have AW:=Lib.hid (fun W hG=>Sp.flaillaw23_awake.calls true W hG awake23)
 have HG:=Lib.hid hGl
 clear hr hm hw hc w3 hs
 obtain ⟨n,hnn⟩:∃ n,l.length=n:=⟨_,rfl⟩
 rw [hnn] at hv hn ⊢
 clear hnn
 by_cases c1:300<n
 ·have q1:decide (300<n)=true:=decide_eq_true c1
  have q1':decide ((300:Int)<(n:Int))=true:=decide_eq_true zu4
  clear c1 hv hn
  go_enter Tryz.func7,Tryz.ntmps7
  go_wp2_with fail
  refine (AW.out _ HG.out).mono ?_
  rintro e w1 ⟨rfl,hb⟩
  go_wp2_with fail
  go_ret
  exact ⟨rfl,hb⟩
 have q1:decide (300<n)=false:=decide_eq_false c1
 have q1':decide ((300:Int)<(n:Int))=false:=decide_eq_false zu4
 obtain ⟨k,m1,hk3⟩:=mod_three w0
 obtain ⟨p,m2,hp3⟩:=mod_three w1
 have m3:wrap64 k=k:=by unfold wrap64;omega
 have m4:wrap64 p=p:=by unfold wrap64;omega
 have zl:=sann_len hk3 s zu4
 have hsk:=san_same k zu4 s
 have SA:Hid (∀ W,Glob W→Below w.heap.size w W→Calls Tryz.prog 18 #[.int .i64 k,.slice a3 n cap3] W fun e w'=>e = .returned (.string (B (sanL k s)))∧Below W.heap.size W w'):=Lib.hid (fun W hG hb=>sanitize_c k s _ zu4 W hG (hv.step hb))
 have V:=Lib.hid (byt_conv (sanL k s))
 have DE:Hid (∀ W v,Byt (sanL k s) v W→Calls Tryz.prog 17 #[v] W fun e w'=>e = .returned (.string (B (sanL k s)))∧Below W.heap.size W w'):=Lib.hid (fun W v hv=>by
  have:=decode_b hv zu4
  rwa [dec_san] at this)
 have PA:Hid (∀ W,Glob W→Calls Tryz.prog 23 #[.int .i64 p,.bool single,.string (B (sanL k s))] W fun e w'=>e = .returned (.tuple #[.string (B (extL s)),.bool true])∧Below W.heap.size W w'):=Lib.hid (fun W hG=>by
  have:=parse_c p single (sanL k s) zu4 W hG
  rwa [hsk,parse_esc (ext_no s).1 (ext_ne10 s) p hp3 single,← hsk] at this)
 have EX:Hid (∀ W,Glob W→Below w.heap.size w W→Calls Tryz.prog 15 #[.slice a3 n cap3] W fun e w'=>e = .returned (.string (B (extL s)))∧Below W.heap.size W w'):=Lib.hid (fun W hG hb=>extract_c s _ zu4 W hG (hv.step hb))
 obtain ⟨a,ha⟩:∃ a,B (sanL k s)=a:=⟨_,rfl⟩
 obtain ⟨t,ht⟩:∃ t,sanL k s=t:=⟨_,rfl⟩
 obtain ⟨x,hx⟩:∃ a,B (extL s)=a:=⟨_,rfl⟩
 rw [ha] at SA V DE PA
 rw [ht] at V DE
 rw [hx] at PA EX
 clear ha ht hx zl hsk hv hk3 hp3 hn c1 w0 w1 hGl
 go_enter Tryz.func7,Tryz.ntmps7
 go_wp2_with fail
 refine (AW.out _ HG.out).mono ?_
 rintro e w1 ⟨rfl,hb⟩
 have HB:=Lib.hid hb
 clear hb
 go_wp2_with fail
 refine (SA.out _ (HG.out.step HB.out) HB.out).mono ?_
 rintro e w2 ⟨rfl,hb⟩
 replace HB:=Lib.hid (HB.out.trans (hb.mono HB.out.size))
 clear hb
 obtain ⟨v,w3,hv3,hb,D⟩:=V.out w2
 have HB4:=Lib.hid (HB.out.trans (hb.mono HB.out.size))
 have HD:=Lib.hid (DE.out _ _ D)
 clear hb D V DE
 go_wp2_with fail
 refine HD.out.mono ?_
 rintro e w4 ⟨rfl,hb⟩
 replace HB:=Lib.hid (HB4.out.trans (hb.mono HB4.out.size))
 clear hb hv3 HD HB4
 go_wp2_with fail
 refine (PA.out _ (HG.out.step HB.out)).mono ?_
 rintro e w5 ⟨rfl,hb⟩
 replace HB:=Lib.hid (HB.out.trans (hb.mono HB.out.size))
 clear hb
 go_wp2_with fail
 refine (EX.out _ (HG.out.step HB.out) HB.out).mono ?_
 rintro e w6 ⟨rfl,hb⟩
 replace HB:=Lib.hid (HB.out.trans (hb.mono HB.out.size))
 clear hb
 go_wp2_with fail
 go_ret
 exact ⟨zu19,HB.out⟩
end Hand
end

end Go.Proofs.YtclkdmmgibgamaaGreatDoor
section
namespace Go.Proofs.YtclkdmmgibgamaaGreatDoorW.PrintWords
open Go.ChangeShapes Go.WideShapes
theorem sized_ints {H:Type} {enc:TypeId×Value→H} {P:Program} {W:World} {base:Nat} {spare:Nat→Bool} {held:Bool} {t e:TypeId} {k:IntKind} {a:Option Addr} {len cap:Nat} {d:DataW H} {ps:List MemPlace} {ts:List TypeId} {ds:List (DataW H)} {j:Nat}
  (hsz:(DataW.weightsEach P ts ds).all (· ≤ reachBytes)=true) (ht:ts[j]? = some t) (hd:ds[j]? = some d) (hu:P.underlying t=some (.slice e)) (he:P.underlying e=some (.int k)) (hc:P.cellsOf e=1) {B:Nat} (hB:P.bytesOf e=B)
  (h:DataW.Trod enc P W base spare held t (.slice a len cap) d ps):len*B≤140737488351232:=by
 obtain ⟨fuel,hf⟩:=h
 rcases open_ints hu he hc hf with ⟨hcs,_⟩|⟨x,l,c,zs,hcs,_,hl,_,hz,hx,_,_⟩
 ·simp [Value.cells] at hcs
  obtain ⟨rfl,rfl,rfl⟩:=hcs
  simp
 ·simp [Value.cells] at hcs
  obtain ⟨rfl,rfl,rfl⟩:=hcs
  obtain ⟨hx,_⟩:=Prod.mk.inj hx
  subst hx
  have z:=sized_slice hsz ht hd hu
  rw [hB] at z
  have hl2:len≤zs.length:=by
   rw [hz]
   split
   ·exact hl
   ·exact Nat.le_refl _
  have h1:(lits (H:=H) k (zs.take len)).length+(lits (H:=H) k (zs.drop len)).length=zs.length:=by
   simp [lits]
   omega
  rw [h1] at z
  exact Nat.le_trans (Nat.mul_le_mul_right _ hl2) z
end Go.Proofs.YtclkdmmgibgamaaGreatDoorW.PrintWords
end
