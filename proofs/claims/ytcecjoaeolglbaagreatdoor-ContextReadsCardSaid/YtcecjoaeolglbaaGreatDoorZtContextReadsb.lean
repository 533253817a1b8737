/-
  Texts of the claim ContextReads, merged by a program of this session (2).
-/
import Derived.RangeFuncOwn
import Derived.RangeFuncKeeps
import Derived.Laws.Runes
import Derived.Laws.RangeString
import Derived.LoopN
import Derived.Deep.LoopGhost
import Derived.Deep.RegionHeld3
import Derived.BigQuiet
import Derived.Deep.QuietTactic
import Derived.Laws.ResultCell
import Derived.Laws.Rows
import Derived.Lib.Builder
import Derived.Lib.ConvBytes
import Derived.Laws.IdiomStrings
import Derived.Tactics
import Derived.Tactics2
import Derived.Defers
import Derived.Laws.Pointers
import Derived.Laws.LoneSync
import Derived.RegionTactic
import Derived.RegionCalls
import Derived.ChangeAlike
import Derived.Laws.NewBlocks
import Derived.StillTailTactics
import Derived.IntWalk
import Derived.Deep.DeepCutAuto
import Derived.Deep.OwnRows
import Derived.Lib.AppendStr
import Derived.OneCell
import Derived.Deep.RegionWith
import Derived.Laws.MakeOwn
import Derived.Test.YtcecjoaeolglbaaGreatDoorZtContextReadsa
set_option linter.unusedVariables false
set_option linter.unusedSimpArgs false
section
namespace Go.Proofs.YtcecjoaeolglbaaGreatDoor.Hand
open Go.RowKit Go.Proofs.YtcecjoaeolglbaaGreatDoor.Pl Go.Proofs.YtcecjoaeolglbaaGreatDoor.Pb
theorem run_next_gen {P:Program} (W:World) (b:Nat) (s:ByteArray) (pos:Nat) (ty:TypeId) (hb:W.heap[b]? = some (.stringIter s pos)) (h:pos<s.size) :
  (Instr.next (.pointer (some ⟨b,0,none⟩)) true ty).run P W =
    .ok (.tuple #[.bool true,.int .i64 pos,.int .i32 ((Utf8.decode s pos).1:Nat)]) (W.putObj b (.stringIter s (pos+(Utf8.decode s pos).2))):=by
 simp [Instr.next,getObj,setObj,Sem.run,hb,h,World.putObj,goInt]
theorem run_next_stop {P:Program} (W:World) (b:Nat) (s:ByteArray) (pos:Nat) (ty:TypeId) (hb:W.heap[b]? = some (.stringIter s pos)) (h:¬ pos<s.size) :
  (Instr.next (.pointer (some ⟨b,0,none⟩)) true ty).run P W = .ok (.tuple #[.bool false]) W:=by
 simp [Instr.next,getObj,Sem.run,hb,h]
theorem below_putObj {w W:World} {b:Nat} {o:Obj} (h:Below w.heap.size w W) (hb:w.heap.size≤b):Below w.heap.size w (W.putObj b o) :=
 h.grown (grownBy_putObj' W b o) h.size (fun k e=>by cases e;exact hb)
theorem drop_cut (s:List UInt8) (i:Nat):((B s).extract i (B s).size).data.toList=s.drop i:=by
 rw [show (B s).extract i (B s).size=B (s.drop i) from by
  rw [B_extract,size_B,List.take_length]]
 exact B_data _
set_option maxRecDepth 100000 in
set_option maxHeartbeats 8000000 in
theorem right_c (s:List UInt8) (w:World):Calls Tryz.prog 17 #[.string (B s)] w fun e w'=>e = .returned (.bool (rightL s))∧Below w.heap.size w w':=by
 obtain ⟨a,ha⟩:∃ a,B s=a:=⟨_,rfl⟩
 have hsz:a.size=s.length:=by rw [← ha];simp
 have hD:∀ i,a.data.toList.drop i=s.drop i:=fun i=>by rw [← ha,B_data]
 have hC:∀ i,(a.extract i a.size).data.toList=s.drop i:=fun i=>by rw [← ha];exact drop_cut s i
 rw [ha]
 have HP:Hid (∀ (i:Nat) (W:World),Calls Tryz.prog 38 #[.string (a.extract i a.size),.string ⟨#[239,191,189]⟩] W fun e w'=>e = .returned (.bool (badP.isPrefixOf (s.drop i)))∧w'=W):=Lib.hid (fun i W=>by
  have:=Tryz.strings_HasPrefix (a.extract i a.size) ⟨#[239,191,189]⟩ W
  rw [hC] at this
  exact this)
 have HD:=Lib.hid hD
 have HS:=Lib.hid hsz
 have HX:Hid (rightL s=rightL (s.drop 0)):=Lib.hid rfl
 clear hD hC ha hsz
 go_enter Tryz.func17,Tryz.ntmps17
 go_wp2_with fail
 go_loopg [9,10] a.size (fun g _ _ wx => ∃ i:Nat,i+g=a.size∧wx.heap[w.heap.size]? = some (.stringIter a i)∧Hid (rightL s=rightL (s.drop i))∧Hid (Below w.heap.size w wx))
 case atStart=>exact ⟨0,by omega,World.iter_heap _ _ _,HX,Lib.hid ((Below.refl _ _).alloc (Nat.le_refl _) _)⟩
 case round =>
  obtain ⟨i,hig,hit,hno,hbl⟩:=hrel
  cases gk with
  | zero =>
    obtain rfl:i=a.size:=by omega
    have hnx:=fun ty=>run_next_stop (P:=Tryz.prog) _ w.heap.size a a.size ty hit (by omega)
    have hr:true=rightL s:=by
     rw [hno.out,List.drop_of_length_le (by have:=HS.out;omega)];rfl
    have HR:=Lib.hid hr
    clear hit hr
    go_wp2_with fail
    go_ret
    exact ⟨by rw [← HR.out];rfl,hbl.out⟩
  | succ g =>
    have hi:i<a.size:=by omega
    have hil:i<s.length:=by have:=HS.out;omega
    obtain ⟨c0,r0,hr⟩:∃ c r,s.drop i=c::r:=⟨s[i],s.drop (i+1),List.drop_eq_getElem_cons hil⟩
    have hd:=decode_right (s:=a) (i:=i) ((HD.out i).trans hr)
    have hnx:=fun ty=>run_next_gen (P:=Tryz.prog) _ w.heap.size a i ty hit hi
    obtain ⟨⟨c,k⟩,hck⟩:∃ d,Utf8.decode a i=d:=⟨_,rfl⟩
    rw [hck] at hd hnx
    simp only at hnx hd
    have hlt2:=(Array.getElem?_eq_some_iff.1 hit).1
    have hbl2:=Lib.hid (below_putObj (b:=w.heap.size) (o:=.stringIter a (i+k)) hbl.out (Nat.le_refl _))
    have hput:=Lib.hid (World.putObj_heap_same (o:=.stringIter a (i+k)) hlt2)
    have hpos:=firstU_pos c0 r0
    have hrc:=rightL_cons c0 r0
    have HPi:=HP.out i
    rw [hr] at HPi
    have hlen:=congrArg List.length hr
    rw [List.length_drop] at hlen
    cases hF:(firstU (c0::r0)).2 with
    | true =>
      obtain ⟨hk,hb⟩:=hd.1 hF
      rw [← hk] at hpos hrc
      rw [hF,Bool.true_and,← hr,List.drop_drop] at hrc
      have HNX:Hid (rightL s=rightL (s.drop (i+k))):=Lib.hid (hno.out.trans hrc)
      have hk1:1≤k:=hpos.1
      have hk2:i+k≤a.size:=by have:=HS.out;have:=hpos.2.1;omega
      by_cases e:c=65533
      · subst e
        rw [hb rfl] at HPi
        have HPJ:=Lib.hid HPi
        clear hd hit hck hbl hno hpos hrc HPi hlen hF hk hb hr
        go_wp2_with fail
        refine (HPJ.out _).mono ?_
        rintro e w2 ⟨rfl,rfl⟩
        go_wp2_with fail
        go_roundg (g+1 - k)
        case measure=>omega
        case rel=>exact ⟨i+k,by omega,hput.out,HNX,hbl2⟩
      · have hne:(((c:Nat):Int) == 65533)=false:=by rw [beq_eq_false_iff_ne];omega
        clear hd hit hck hbl hno hpos hrc HPi hlen hF hk hb hr e
        go_wp2_with fail
        go_roundg (g+1 - k)
        case measure=>omega
        case rel=>exact ⟨i+k,by omega,hput.out,HNX,hbl2⟩
    | false =>
      obtain ⟨hk,hb⟩:=hd.2 hF
      subst hk
      rw [hF,Bool.false_and,← hr] at hrc
      rw [Bool.eq_false_iff.2 hb] at HPi
      have HNX:Hid (false=rightL s):=Lib.hid (hno.out.trans hrc).symm
      have HPJ:=Lib.hid HPi
      clear hd hit hck hbl hno hpos hrc HPi hlen hF hb hr
      go_wp2_with fail
      refine (HPJ.out _).mono ?_
      rintro e w2 ⟨rfl,rfl⟩
      go_wp2_with fail
      go_ret
      exact ⟨by rw [← HNX.out];rfl,hbl2.out⟩
end Go.Proofs.YtcecjoaeolglbaaGreatDoor.Hand
end

section
namespace Go.Proofs.YtcecjoaeolglbaaGreatDoor.Hand
open Go.RowKit Go.Proofs.YtcecjoaeolglbaaGreatDoor.Pl Go.Proofs.YtcecjoaeolglbaaGreatDoor.Pb
def spanV (lo hi:Int):Value:=.agg #[.int .u8 lo,.int .u8 hi]
theorem below_two (w:World) (o p:Obj):Below w.heap.size w ((w.alloc o).alloc p):=((Below.refl _ w).alloc (Nat.le_refl _) o).alloc (by simp) p
theorem load_span (w:World) (a b:Value) (p:Obj):(loadVar 89 ⟨w.heap.size,0,none⟩).run Tryz.prog ((w.alloc (.cells #[a,b] 89)).alloc p) = .ok (.agg #[a,b]) ((w.alloc (.cells #[a,b] 89)).alloc p) :=
 run_loadVar_row _ _ 89 89 #[a,b] (0,0) _ (by show ((w.heap.push _).push _)[w.heap.size]? = _;simp [Array.getElem?_push]) Tryz.underlying89 rfl (by kernel_rfl)
set_option maxRecDepth 100000 in
set_option maxHeartbeats 1000000 in
theorem tail_c0 (c:Nat) (w:World) (h:c<194):Calls Tryz.prog 68 #[.int .u8 (c:Int)] w fun e w'=>e = .returned (.tuple #[spanV 128 191,.int .i64 1])∧Below w.heap.size w w':=by
 have q1:decide ((194:Int)≤(c:Int))=false:=by simp;omega
 have q3:((c:Int) == 224)=false:=by simp;omega
 have q4:((c:Int) == 237)=false:=by simp;omega
 have q5:decide ((225:Int)≤(c:Int))=false:=by simp;omega
 have q7:((c:Int) == 240)=false:=by simp;omega
 have q8:((c:Int) == 244)=false:=by simp;omega
 have q9:decide ((241:Int)≤(c:Int))=false:=by simp;omega
 clear h
 go_enter Tryz.func68,Tryz.ntmps68
 go_wp2_with fail
 refine bodyPost_ret (v:=.tuple #[spanV 128 191,.int .i64 1]) ?_ rfl ⟨rfl,below_two w _ _⟩
 rw [results_cell_tmp rfl]
 simp only [Array.getD_eq_getD_getElem?,List.getElem?_toArray,List.getElem?_cons_succ,List.getElem?_cons_zero,Option.getD_some,asAddr,Sem.run_pure,Result.andThen_ok,load_span w]
 rfl
set_option maxRecDepth 100000 in
set_option maxHeartbeats 1000000 in
theorem tail_c1 (c:Nat) (w:World) (h:194≤c∧c≤223):Calls Tryz.prog 68 #[.int .u8 (c:Int)] w fun e w'=>e = .returned (.tuple #[spanV 128 191,.int .i64 2])∧Below w.heap.size w w':=by
 have q1:decide ((194:Int)≤(c:Int))=true:=by simp;omega
 have q2:decide ((c:Int)≤223)=true:=by simp;omega
 clear h
 go_enter Tryz.func68,Tryz.ntmps68
 go_wp2_with fail
 refine bodyPost_ret (v:=.tuple #[spanV 128 191,.int .i64 2]) ?_ rfl ⟨rfl,below_two w _ _⟩
 rw [results_cell_tmp rfl]
 simp only [Array.getD_eq_getD_getElem?,List.getElem?_toArray,List.getElem?_cons_succ,List.getElem?_cons_zero,Option.getD_some,asAddr,Sem.run_pure,Result.andThen_ok,load_span w]
 rfl
set_option maxRecDepth 100000 in
set_option maxHeartbeats 1000000 in
theorem tail_c2 (c:Nat) (w:World) (h:c=224):Calls Tryz.prog 68 #[.int .u8 (c:Int)] w fun e w'=>e = .returned (.tuple #[spanV 160 191,.int .i64 3])∧Below w.heap.size w w':=by
 have q1:decide ((194:Int)≤(c:Int))=true:=by simp;omega
 have q2:decide ((c:Int)≤223)=false:=by simp;omega
 have q3:((c:Int) == 224)=true:=by simp;omega
 clear h
 go_enter Tryz.func68,Tryz.ntmps68
 go_wp2_with fail
 refine bodyPost_ret (v:=.tuple #[spanV 160 191,.int .i64 3]) ?_ rfl ⟨rfl,below_two w _ _⟩
 rw [results_cell_tmp rfl]
 simp only [Array.getD_eq_getD_getElem?,List.getElem?_toArray,List.getElem?_cons_succ,List.getElem?_cons_zero,Option.getD_some,asAddr,Sem.run_pure,Result.andThen_ok,load_span w]
 rfl
set_option maxRecDepth 100000 in
set_option maxHeartbeats 1000000 in
theorem tail_c3 (c:Nat) (w:World) (h:c=237):Calls Tryz.prog 68 #[.int .u8 (c:Int)] w fun e w'=>e = .returned (.tuple #[spanV 128 159,.int .i64 3])∧Below w.heap.size w w':=by
 have q1:decide ((194:Int)≤(c:Int))=true:=by simp;omega
 have q2:decide ((c:Int)≤223)=false:=by simp;omega
 have q3:((c:Int) == 224)=false:=by simp;omega
 have q4:((c:Int) == 237)=true:=by simp;omega
 clear h
 go_enter Tryz.func68,Tryz.ntmps68
 go_wp2_with fail
 refine bodyPost_ret (v:=.tuple #[spanV 128 159,.int .i64 3]) ?_ rfl ⟨rfl,below_two w _ _⟩
 rw [results_cell_tmp rfl]
 simp only [Array.getD_eq_getD_getElem?,List.getElem?_toArray,List.getElem?_cons_succ,List.getElem?_cons_zero,Option.getD_some,asAddr,Sem.run_pure,Result.andThen_ok,load_span w]
 rfl
set_option maxRecDepth 100000 in
set_option maxHeartbeats 1000000 in
theorem tail_c4 (c:Nat) (w:World) (h:225≤c∧c≤239∧c≠237):Calls Tryz.prog 68 #[.int .u8 (c:Int)] w fun e w'=>e = .returned (.tuple #[spanV 128 191,.int .i64 3])∧Below w.heap.size w w':=by
 have q1:decide ((194:Int)≤(c:Int))=true:=by simp;omega
 have q2:decide ((c:Int)≤223)=false:=by simp;omega
 have q3:((c:Int) == 224)=false:=by simp;omega
 have q4:((c:Int) == 237)=false:=by simp;omega
 have q5:decide ((225:Int)≤(c:Int))=true:=by simp;omega
 have q6:decide ((c:Int)≤239)=true:=by simp;omega
 clear h
 go_enter Tryz.func68,Tryz.ntmps68
 go_wp2_with fail
 refine bodyPost_ret (v:=.tuple #[spanV 128 191,.int .i64 3]) ?_ rfl ⟨rfl,below_two w _ _⟩
 rw [results_cell_tmp rfl]
 simp only [Array.getD_eq_getD_getElem?,List.getElem?_toArray,List.getElem?_cons_succ,List.getElem?_cons_zero,Option.getD_some,asAddr,Sem.run_pure,Result.andThen_ok,load_span w]
 rfl
set_option maxRecDepth 100000 in
set_option maxHeartbeats 1000000 in
theorem tail_c5 (c:Nat) (w:World) (h:c=240):Calls Tryz.prog 68 #[.int .u8 (c:Int)] w fun e w'=>e = .returned (.tuple #[spanV 144 191,.int .i64 4])∧Below w.heap.size w w':=by
 have q1:decide ((194:Int)≤(c:Int))=true:=by simp;omega
 have q2:decide ((c:Int)≤223)=false:=by simp;omega
 have q3:((c:Int) == 224)=false:=by simp;omega
 have q4:((c:Int) == 237)=false:=by simp;omega
 have q5:decide ((225:Int)≤(c:Int))=true:=by simp;omega
 have q6:decide ((c:Int)≤239)=false:=by simp;omega
 have q7:((c:Int) == 240)=true:=by simp;omega
 clear h
 go_enter Tryz.func68,Tryz.ntmps68
 go_wp2_with fail
 refine bodyPost_ret (v:=.tuple #[spanV 144 191,.int .i64 4]) ?_ rfl ⟨rfl,below_two w _ _⟩
 rw [results_cell_tmp rfl]
 simp only [Array.getD_eq_getD_getElem?,List.getElem?_toArray,List.getElem?_cons_succ,List.getElem?_cons_zero,Option.getD_some,asAddr,Sem.run_pure,Result.andThen_ok,load_span w]
 rfl
set_option maxRecDepth 100000 in
set_option maxHeartbeats 1000000 in
theorem tail_c6 (c:Nat) (w:World) (h:c=244):Calls Tryz.prog 68 #[.int .u8 (c:Int)] w fun e w'=>e = .returned (.tuple #[spanV 128 143,.int .i64 4])∧Below w.heap.size w w':=by
 have q1:decide ((194:Int)≤(c:Int))=true:=by simp;omega
 have q2:decide ((c:Int)≤223)=false:=by simp;omega
 have q3:((c:Int) == 224)=false:=by simp;omega
 have q4:((c:Int) == 237)=false:=by simp;omega
 have q5:decide ((225:Int)≤(c:Int))=true:=by simp;omega
 have q6:decide ((c:Int)≤239)=false:=by simp;omega
 have q7:((c:Int) == 240)=false:=by simp;omega
 have q8:((c:Int) == 244)=true:=by simp;omega
 clear h
 go_enter Tryz.func68,Tryz.ntmps68
 go_wp2_with fail
 refine bodyPost_ret (v:=.tuple #[spanV 128 143,.int .i64 4]) ?_ rfl ⟨rfl,below_two w _ _⟩
 rw [results_cell_tmp rfl]
 simp only [Array.getD_eq_getD_getElem?,List.getElem?_toArray,List.getElem?_cons_succ,List.getElem?_cons_zero,Option.getD_some,asAddr,Sem.run_pure,Result.andThen_ok,load_span w]
 rfl
set_option maxRecDepth 100000 in
set_option maxHeartbeats 1000000 in
theorem tail_c7 (c:Nat) (w:World) (h:241≤c∧c≤243):Calls Tryz.prog 68 #[.int .u8 (c:Int)] w fun e w'=>e = .returned (.tuple #[spanV 128 191,.int .i64 4])∧Below w.heap.size w w':=by
 have q1:decide ((194:Int)≤(c:Int))=true:=by simp;omega
 have q2:decide ((c:Int)≤223)=false:=by simp;omega
 have q3:((c:Int) == 224)=false:=by simp;omega
 have q4:((c:Int) == 237)=false:=by simp;omega
 have q5:decide ((225:Int)≤(c:Int))=true:=by simp;omega
 have q6:decide ((c:Int)≤239)=false:=by simp;omega
 have q7:((c:Int) == 240)=false:=by simp;omega
 have q8:((c:Int) == 244)=false:=by simp;omega
 have q9:decide ((241:Int)≤(c:Int))=true:=by simp;omega
 have q10:decide ((c:Int)≤243)=true:=by simp;omega
 clear h
 go_enter Tryz.func68,Tryz.ntmps68
 go_wp2_with fail
 refine bodyPost_ret (v:=.tuple #[spanV 128 191,.int .i64 4]) ?_ rfl ⟨rfl,below_two w _ _⟩
 rw [results_cell_tmp rfl]
 simp only [Array.getD_eq_getD_getElem?,List.getElem?_toArray,List.getElem?_cons_succ,List.getElem?_cons_zero,Option.getD_some,asAddr,Sem.run_pure,Result.andThen_ok,load_span w]
 rfl
set_option maxRecDepth 100000 in
set_option maxHeartbeats 1000000 in
theorem tail_c8 (c:Nat) (w:World) (h:244<c):Calls Tryz.prog 68 #[.int .u8 (c:Int)] w fun e w'=>e = .returned (.tuple #[spanV 128 191,.int .i64 1])∧Below w.heap.size w w':=by
 have q1:decide ((194:Int)≤(c:Int))=true:=by simp;omega
 have q2:decide ((c:Int)≤223)=false:=by simp;omega
 have q3:((c:Int) == 224)=false:=by simp;omega
 have q4:((c:Int) == 237)=false:=by simp;omega
 have q5:decide ((225:Int)≤(c:Int))=true:=by simp;omega
 have q6:decide ((c:Int)≤239)=false:=by simp;omega
 have q7:((c:Int) == 240)=false:=by simp;omega
 have q8:((c:Int) == 244)=false:=by simp;omega
 have q9:decide ((241:Int)≤(c:Int))=true:=by simp;omega
 have q10:decide ((c:Int)≤243)=false:=by simp;omega
 clear h
 go_enter Tryz.func68,Tryz.ntmps68
 go_wp2_with fail
 refine bodyPost_ret (v:=.tuple #[spanV 128 191,.int .i64 1]) ?_ rfl ⟨rfl,below_two w _ _⟩
 rw [results_cell_tmp rfl]
 simp only [Array.getD_eq_getD_getElem?,List.getElem?_toArray,List.getElem?_cons_succ,List.getElem?_cons_zero,Option.getD_some,asAddr,Sem.run_pure,Result.andThen_ok,load_span w]
 rfl
theorem tail_any (c:Nat) (w:World):Calls Tryz.prog 68 #[.int .u8 (c:Int)] w fun e w'=>e = .returned (.tuple #[spanV (tailN c).1 (tailN c).2.1,.int .i64 (tailN c).2.2])∧Below w.heap.size w w':=by
 unfold tailN
 split
 · exact tail_c1 c w (by assumption)
 · split
   · exact tail_c2 c w (by assumption)
   · split
     · exact tail_c3 c w (by assumption)
     · split
       · exact tail_c4 c w (by omega)
       · split
         · exact tail_c5 c w (by assumption)
         · split
           · exact tail_c6 c w (by assumption)
           · split
             · exact tail_c7 c w (by assumption)
             · by_cases h:c<194
               · exact tail_c0 c w h
               · exact tail_c8 c w (by omega)
theorem cell_step {w W:World} {a:Addr} {v:Value} (hb:Below w.heap.size w W) (h:w.cell? a=some v):W.cell? a=some v:=(hb.cell (World.block_lt_of_cell? w _ h)).trans h
set_option maxRecDepth 100000 in
set_option maxHeartbeats 1000000 in
theorem has_c (lo hi c:Int) (w:World):Calls Tryz.prog 69 #[.agg #[.int .u8 lo,.int .u8 hi],.int .u8 c] w fun e w'=>e = .returned (.bool (decide (lo≤c∧c≤hi)))∧Below w.heap.size w w':=by
 have hB:∀ o,Below w.heap.size w (w.alloc o):=fun o=>(Below.refl _ w).alloc (Nat.le_refl _) o
 have HB:=Lib.hid hB
 clear hB
 by_cases h1:lo≤c
 · have q1:decide (lo≤c)=true:=by simp;omega
   by_cases h2:c≤hi
   · have q2:decide (c≤hi)=true:=by simp;omega
     have e:decide (lo≤c∧c≤hi)=true:=decide_eq_true ⟨h1,h2⟩
     rw [e]
     clear h1 h2 e
     go_enter Tryz.func69,Tryz.ntmps69
     go_wp2_with fail
     go_ret
     exact ⟨rfl,HB.out _⟩
   · have q2:decide (c≤hi)=false:=by simp;omega
     have e:decide (lo≤c∧c≤hi)=false:=decide_eq_false (by omega)
     rw [e]
     clear h1 h2 e
     go_enter Tryz.func69,Tryz.ntmps69
     go_wp2_with fail
     go_ret
     exact ⟨rfl,HB.out _⟩
 · have q1:decide (lo≤c)=false:=by simp;omega
   have e:decide (lo≤c∧c≤hi)=false:=decide_eq_false (by omega)
   rw [e]
   clear h1 e
   go_enter Tryz.func69,Tryz.ntmps69
   go_wp2_with fail
   go_ret
   exact ⟨rfl,HB.out _⟩
def scanF (all:Nat):Nat→Nat→Nat→List UInt8→Nat×Bool
 | k,_,_,[]=>if k<all then (k,false) else (k,decide (1<all))
 | k,lo,hi,d::r=>if k<all then (if lo≤d.toNat∧d.toNat≤hi then scanF all (k+1) 128 191 r else (k,false)) else (k,decide (1<all))
theorem scanF_end (all k lo hi:Nat) (r:List UInt8) (h:¬ k<all):scanF all k lo hi r=(k,decide (1<all)):=by
 cases r<;>rw [scanF,if_neg h]
theorem byteO_nil (k:Nat):byteO [] k=none:=rfl
theorem byteO_zero (d:UInt8) (r:List UInt8):byteO (d::r) 0=some d.toNat:=rfl
theorem byteO_succ (d:UInt8) (r:List UInt8) (k:Nat):byteO (d::r) (k+1)=byteO r k:=rfl
theorem tail_all (c:Nat):(tailN c).2.2=1∨(tailN c).2.2=2∨(tailN c).2.2=3∨(tailN c).2.2=4:=by
 unfold tailN
 repeat' split
 all_goals simp
set_option linter.unusedSimpArgs false in
theorem first_scan (c:UInt8) (r:List UInt8) (h:¬ c.toNat<128):firstU (c::r)=scanF (tailN c.toNat).2.2 1 (tailN c.toNat).1 (tailN c.toNat).2.1 r:=by
 show firstN c.toNat (byteO r 0) (byteO r 1) (byteO r 2)=_
 unfold firstN
 rw [if_neg h]
 obtain ⟨lo,hl⟩:∃ x,(tailN c.toNat).1=x:=⟨_,rfl⟩
 obtain ⟨hi,hh⟩:∃ x,(tailN c.toNat).2.1=x:=⟨_,rfl⟩
 rw [hl,hh]
 have e4:∀ q,scanF 4 4 128 191 q=(4,true):=fun q=>scanF_end _ _ _ _ _ (by omega)
 have e3:∀ q,scanF 3 3 128 191 q=(3,true):=fun q=>scanF_end _ _ _ _ _ (by omega)
 have e2:∀ q,scanF 2 2 128 191 q=(2,true):=fun q=>scanF_end _ _ _ _ _ (by omega)
 rcases tail_all c.toNat with h1|h1|h1|h1<;>rw [h1]
 · rw [if_pos rfl,scanF_end _ _ _ _ _ (by omega)];rfl
 all_goals
  rcases r with _|⟨d,_|⟨e,_|⟨f,r⟩⟩⟩
  · simp [scanF,byteO_nil,inO]
  · by_cases hd:lo≤d.toNat∧d.toNat≤hi<;>simp [scanF,byteO_nil,byteO_zero,byteO_succ,inO,contO,hd,e4,e3,e2]
  · by_cases hd:lo≤d.toNat∧d.toNat≤hi<;>by_cases he:128≤e.toNat∧e.toNat≤191<;>simp [scanF,byteO_nil,byteO_zero,byteO_succ,inO,contO,hd,he,e4,e3,e2]
  · by_cases hd:lo≤d.toNat∧d.toNat≤hi<;>by_cases he:128≤e.toNat∧e.toNat≤191<;>by_cases hf:128≤f.toNat∧f.toNat≤191<;>simp [scanF,byteO_nil,byteO_zero,byteO_succ,inO,contO,hd,he,hf,e4,e3,e2]
theorem Sp.call {w W W':World} {p:Nat} {l h:Int} (hs:Sp w p l h W) (hb:Below W.heap.size W W'):Sp w p l h W' :=
 ⟨Nat.lt_of_lt_of_le hs.lt hb.size,hs.own,hs.blk.below hb hs.lt,hs.below.trans (hb.mono hs.below.size)⟩
theorem Sp.cells {w W:World} {p:Nat} {l h:Int} (hs:Sp w p l h W):SpC w p l h W:=⟨hs,hs.blk.cell 0 (by simp),hs.blk.cell 1 (by simp)⟩
theorem SpC.call {w W W':World} {p:Nat} {l h:Int} (hb:Below W.heap.size W W') (hs:SpC w p l h W):SpC w p l h W':=(hs.1.call hb).cells
theorem Sp.drew {w W:World} {p:Nat} {l h:Int} (hs:Sp w p l h W):Sp w p l h W.drew:=hs.call (Below.drew (Below.refl _ _))
theorem Sp.put {w W:World} {p:Nat} {l h:Int} (hs:Sp w p l h W) (l' h':Int):Sp w p l' h' ((W.setCell ⟨p,0,none⟩ (.int .u8 l')).setCell ⟨p,1,none⟩ (.int .u8 h')) :=
 ⟨by simp;exact hs.lt,hs.own,by
   have:=(hs.blk.set 0 (.int .u8 l') (by simp)).set 1 (.int .u8 h') (by simp)
   simpa using this,by
   have b1:=hs.below.setCell (p:=⟨p,0,none⟩) hs.own (.int .u8 l')
   exact b1.setCell (p:=⟨p,1,none⟩) hs.own (.int .u8 h')⟩
theorem Sp.new (w w1:World) (l h:Int) (t:TypeId) (hb:Below w.heap.size w w1):Sp w w1.heap.size l h (w1.alloc (.cells #[.int .u8 l,.int .u8 h] t)) :=
 ⟨by simp,hb.size,Blk.of_alloc _ _ _,hb.alloc hb.size _⟩
set_option maxRecDepth 100000 in
set_option maxHeartbeats 4000000 in
theorem first_at (c:UInt8) (r:List UInt8) (n:Nat) (b:Bool) (hf:firstU (c::r)=(n,b)) (a:ByteArray) (ha:a.data.toList=c::r) (hz:a.size≤1000000000) (w:World) :
  Calls Tryz.prog 43 #[.string a] w fun e w'=>e = .returned (.tuple #[.int .i64 (n:Int),.bool b])∧Below w.heap.size w w':=by
 have h0:0<a.size:=by
  have:=congrArg List.length ha
  rw [Array.length_toList,List.length_cons] at this
  show 0<a.data.size
  omega
 have hc:a[0]=c:=by
  have:=congrArg (fun l=>l[0]?) ha
  rw [Array.getElem?_toList] at this
  rw [Array.getElem?_eq_getElem (show 0<a.data.size from h0)] at this
  exact Option.some.inj this
 by_cases h128:c.toNat<128
 · have q1:decide (((a[0].toNat:Nat):Int)<128)=true:=by rw [hc];simp;omega
   have hn:(n,b)=(1,true):=by rw [← hf];show firstN c.toNat (byteO r 0) (byteO r 1) (byteO r 2)=_;unfold firstN;rw [if_pos h128]
   injection hn with h1 h2
   subst h1;subst h2
   clear ha hc hf h128
   go_enter Tryz.func43,Tryz.ntmps43
   go_wp2_with fail
   go_ret2
   exact ⟨rfl,Below.refl _ _⟩
 · have q1:decide (((a[0].toNat:Nat):Int)<128)=false:=by rw [hc];simp;omega
   have hs:=first_scan c r h128
   rw [hf] at hs
   have T:=fun W=>tail_any a[0].toNat W
   rw [hc] at T
   have hall:=tail_all c.toNat
   obtain ⟨lo,hl⟩:∃ x,(tailN c.toNat).1=x:=⟨_,rfl⟩
   obtain ⟨hi,hh⟩:∃ x,(tailN c.toNat).2.1=x:=⟨_,rfl⟩
   obtain ⟨all,ht⟩:∃ x,(tailN c.toNat).2.2=x:=⟨_,rfl⟩
   rw [hl,hh,ht] at hs T
   rw [ht] at hall
   have HT:Hid (∀ W,Calls Tryz.prog 68 #[.int .u8 ((a[0].toNat:Nat):Int)] W fun e w'=>e = .returned (.tuple #[.agg #[.int .u8 (lo:Int),.int .u8 (hi:Int)],.int .i64 (all:Int)])∧Below W.heap.size W w'):=Lib.hid (fun W=>by rw [hc];exact T W)
   have HA:Hid ((n,b)=scanF all 1 lo hi (a.data.toList.drop 1)):=Lib.hid (by rw [ha];exact hs)
   have HH:=Lib.hid (fun lo hi c W=>has_c lo hi c W)
   have hall4:all≤4:=by omega
   clear ha hc hf h128 hs T hl hh ht hall
   go_enter Tryz.func43,Tryz.ntmps43
   go_wp2_with fail
   refine (HT.out _).mono ?_
   rintro e w1 ⟨rfl,hb⟩
   have HB:=Lib.hid hb
   clear hb
   go_wp2_with fail
   go_loopg [2] 4 (fun g v wx => ∃ k l h:Nat,k+g=5∧v = .int .i64 (k:Int)∧k≤a.size∧Hid (Sp w w1.heap.size l h wx)∧Hid ((n,b)=scanF all k l h (a.data.toList.drop k)))
   case atStart=>exact ⟨1,lo,hi,rfl,rfl,by omega,Lib.hid (Sp.new w w1 lo hi _ HB.out),HA⟩
   case round =>
    obtain ⟨k,l,h,hkg,rfl,hk,hB,hS⟩:=hrel
    by_cases hall:k<all
    · have q2:decide ((k:Int)<(all:Int))=true:=by simp;omega
      by_cases hlt:k<a.size
      · have q3:((k:Int) == (a.size:Int))=false:=by rw [beq_eq_false_iff_ne];omega
        have hd:=drop_cons a k hlt
        by_cases hin:l≤a[k].toNat∧a[k].toNat≤h
        · have F:Hid (∀ W,Calls Tryz.prog 69 #[.agg #[.int .u8 (l:Int),.int .u8 (h:Int)],.int .u8 ((a[k].toNat:Nat):Int)] W fun e w'=>e = .returned (.bool true)∧Below W.heap.size W w'):=Lib.hid (fun W=>by
           have:=HH.out l h (a[k].toNat:Nat) W
           rw [decide_eq_true (by omega)] at this
           exact this)
          have HN:Hid ((n,b)=scanF all (k+1) 128 191 (a.data.toList.drop (k+1))):=Lib.hid (by
           have:=hS.out
           rw [hd,scanF,if_pos hall,if_pos hin] at this
           exact this)
          clear hd hin hS
          go_wp2_with fail
          have HSD:=(Sp.drew hB.out).cells
          go_region_held3 (fun W=>Sp w w1.heap.size l h W∧W.cell? ⟨w1.heap.size,0,none⟩=some (.int .u8 (l:Int))∧W.cell? ⟨w1.heap.size,1,none⟩=some (.int .u8 (h:Int))) (first|with_reducible assumption|with_reducible exact HSD|exact SpC.call hb (by with_reducible assumption)) (first | (go_at_call 69;refine (F.out _).mono ?_;rintro e w' ⟨rfl,hb⟩))
          have HW:Hid (Sp w w1.heap.size (l:Int) (h:Int) _):=Lib.hid (And.left (by with_reducible assumption))
          have f0:=HW.out.blk.open_ 0
          have f1:=HW.out.blk.open_ 1
          clear HSD F
          go_wp2_with fail
          cases gk with
          | zero=>omega
          | succ g =>
            go_roundg g
            case measure=>omega
            case rel=>exact ⟨k+1,128,191,by omega,by go_num,by omega,Lib.hid (HW.out.put 128 191),HN⟩
        · have F:Hid (∀ W,Calls Tryz.prog 69 #[.agg #[.int .u8 (l:Int),.int .u8 (h:Int)],.int .u8 ((a[k].toNat:Nat):Int)] W fun e w'=>e = .returned (.bool false)∧Below W.heap.size W w'):=Lib.hid (fun W=>by
           have:=HH.out l h (a[k].toNat:Nat) W
           rw [decide_eq_false (by omega)] at this
           exact this)
          have HN:Hid ((n,b)=(k,false)):=Lib.hid (by
           have:=hS.out
           rw [hd,scanF,if_pos hall,if_neg hin] at this
           exact this)
          clear hd hin hS
          go_wp2_with fail
          have HSD:=(Sp.drew hB.out).cells
          go_region_held3 (fun W=>Sp w w1.heap.size l h W∧W.cell? ⟨w1.heap.size,0,none⟩=some (.int .u8 (l:Int))∧W.cell? ⟨w1.heap.size,1,none⟩=some (.int .u8 (h:Int))) (first|with_reducible assumption|with_reducible exact HSD|exact SpC.call hb (by with_reducible assumption)) (first | (go_at_call 69;refine (F.out _).mono ?_;rintro e w' ⟨rfl,hb⟩))
          have HW:Hid (Sp w w1.heap.size (l:Int) (h:Int) _):=Lib.hid (And.left (by with_reducible assumption))
          clear HSD F
          go_wp2_with fail
          go_ret2
          have hn:=HN.out
          injection hn with h1 h2
          subst h1;subst h2
          exact ⟨rfl,HW.out.below⟩
      · obtain rfl:k=a.size:=by omega
        have HN:Hid ((n,b)=(a.size,false)):=Lib.hid (by
         have:=hS.out
         rw [List.drop_eq_nil_of_le (by rw [Array.length_toList];show a.size≤a.size;omega),scanF,if_pos hall] at this
         exact this)
        clear hS
        go_wp2_with fail
        go_quiet (fail)
        go_wp2_with fail
        go_ret2
        have hn:=HN.out
        injection hn with h1 h2
        subst h1;subst h2
        exact ⟨rfl,hB.out.below.trans ⟨rfl,rfl,rfl,Nat.le_refl _,fun _ _=>rfl⟩⟩
    · have q2:decide ((k:Int)<(all:Int))=false:=by simp;omega
      have HN:Hid ((n,b)=(k,decide (1<all))):=Lib.hid (by
       have:=hS.out
       rw [scanF_end _ _ _ _ _ hall] at this
       exact this)
      clear hS
      have hn:=HN.out
      injection hn with h1 h2
      subst h1
      cases hb1:decide (1<all) with
      | true =>
        rw [hb1] at h2;subst h2
        have q4:decide ((1:Int)<(all:Int))=true:=by simp at hb1 ⊢;omega
        have q5:=hb1
        clear hb1 HN
        go_wp2_with fail
        go_ret2
        exact ⟨rfl,hB.out.below⟩
      | false =>
        rw [hb1] at h2;subst h2
        have q4:decide ((1:Int)<(all:Int))=false:=by simp at hb1 ⊢;omega
        have q5:=hb1
        clear hb1 HN
        go_wp2_with fail
        go_ret2
        exact ⟨rfl,hB.out.below⟩
end Go.Proofs.YtcecjoaeolglbaaGreatDoor.Hand
end

section
namespace Go.Proofs.YtcecjoaeolglbaaGreatDoor.Pl
open Go
theorem firstN_in (c:Nat) (d e f:Option Nat) (h:(firstN c d e f).2=true) :
  (2≤(firstN c d e f).1→∃ x,d=some x∧x≤191)∧(3≤(firstN c d e f).1→∃ x,e=some x∧x≤191)∧(4≤(firstN c d e f).1→∃ x,f=some x∧x≤191):=by
 have ht:(tailN c).2.1≤191:=by
  by_cases h1:c<194∨244<c
  · rw [(tail_1 h1).hi_];omega
  · by_cases h2:c≤223
    · rw [(tail_2 (by omega)).hi_];omega
    · by_cases h3:c≤239
      · obtain ⟨lo,hi,t,_,g,_⟩:=tail_3 (c:=c) (by omega)
        rw [t.hi_];exact g
      · obtain ⟨lo,hi,t,_,g,_⟩:=tail_4 (c:=c) (by omega)
        rw [t.hi_];exact g
 have hd:inO (tailN c).1 (tailN c).2.1 d→∃ x,d=some x∧x≤191:=fun h=>by
  obtain ⟨x,h1,h2,h3⟩:=(inO_iff _ _ d).1 h
  exact ⟨x,h1,by omega⟩
 have hc:∀ o,contO o→∃ x,o=some x∧x≤191:=fun o h=>by
  obtain ⟨x,h1,h2,h3⟩:=(contO_iff o).1 h
  exact ⟨x,h1,by omega⟩
 revert h
 unfold firstN
 split
 · simp
 · split
   · simp
   · split
     · simp
     · rename_i h1
       have h1':=hd (Decidable.not_not.1 h1)
       split
       · intro _;exact ⟨fun _=>h1',by simp,by simp⟩
       · split
         · simp
         · rename_i h2
           have h2':=hc _ (Decidable.not_not.1 h2)
           split
           · intro _;exact ⟨fun _=>h1',fun _=>h2',by simp⟩
           · split
             · rename_i h3
               intro _;exact ⟨fun _=>h1',fun _=>h2',fun _=>hc _ h3⟩
             · simp
theorem firstU_in {c:UInt8} {r:List UInt8} (h:(firstU (c::r)).2=true) (j:Nat) (h1:1≤j) (h2:j<(firstU (c::r)).1):∃ x,(c::r)[j]? = some x∧x.toNat≤191:=by
 obtain ⟨g1,g2,g3⟩:=firstN_in _ _ _ _ h
 have h4:=(firstU_pos c r).2.2
 have key:∀ k,(∃ x,byteO r k=some x∧x≤191)→∃ x,(c::r)[k+1]? = some x∧x.toNat≤191:=by
  rintro k ⟨x,hx,hl⟩
  unfold byteO at hx
  rw [List.getElem?_cons_succ]
  cases hq:r[k]? with
  | none=>rw [hq] at hx;cases hx
  | some y=>rw [hq] at hx;cases hx;exact ⟨y,rfl,hl⟩
 have h2':j<(firstN c.toNat (byteO r 0) (byteO r 1) (byteO r 2)).1:=h2
 rcases (show j=1∨j=2∨j=3 by omega) with rfl|rfl|rfl
 · exact key 0 (g1 (by omega))
 · exact key 1 (g2 (by omega))
 · exact key 2 (g3 (by omega))
end Go.Proofs.YtcecjoaeolglbaaGreatDoor.Pl
end

section
namespace Go.Proofs.YtcecjoaeolglbaaGreatDoor.Pl
open Go
theorem firstN_cut {c:Nat} {d e f d' e' f':Option Nat} (h:(firstN c d e f).2=true) (hd:2≤(firstN c d e f).1→d'=d) (he:3≤(firstN c d e f).1→e'=e) (hf:4≤(firstN c d e f).1→f'=f):firstN c d' e' f'=firstN c d e f:=by
 revert h hd he hf
 unfold firstN
 by_cases h1:c<128
 · rw [if_pos h1,if_pos h1];intros;rfl
 rw [if_neg h1,if_neg h1]
 by_cases h2:(tailN c).2.2=1
 · rw [if_pos h2,if_pos h2];intros;rfl
 rw [if_neg h2,if_neg h2]
 by_cases h3:¬ inO (tailN c).1 (tailN c).2.1 d
 · rw [if_pos h3];intro h;cases h
 rw [if_neg h3]
 by_cases h4:(tailN c).2.2=2
 · rw [if_pos h4]
   intro _ hd _ _
   rw [hd (by simp),if_neg h3,if_pos h4]
 rw [if_neg h4]
 by_cases h5:¬ contO e
 · rw [if_pos h5];intro h;cases h
 rw [if_neg h5]
 by_cases h6:(tailN c).2.2=3
 · rw [if_pos h6]
   intro _ hd he _
   rw [hd (by simp),if_neg h3,if_neg h4,he (by simp),if_neg h5,if_pos h6]
 rw [if_neg h6]
 by_cases h7:contO f
 · rw [if_pos h7]
   intro _ hd he hf
   rw [hd (by simp),if_neg h3,if_neg h4,he (by simp),if_neg h5,if_neg h6,hf (by simp),if_pos h7]
 · rw [if_neg h7];intro h;cases h
def Sig (a:List UInt8):Prop:=a≠[]∧∀ Y,firstU (a++Y)=(a.length,true)
theorem byteO_take (r Y:List UInt8) (n k:Nat) (hk:k<n) (hn:n≤r.length):byteO (r.take n++Y) k=byteO r k:=by
 unfold byteO
 rw [List.getElem?_append_left (by rw [List.length_take];omega),List.getElem?_take_of_lt hk]
theorem sig_split {s:List UInt8} (h:rightL s=true) (hne:s≠[]):∃ a q,s=a++q∧Sig a∧rightL q=true:=by
 cases s with
 | nil=>exact absurd rfl hne
 | cons c r =>
   rw [rightL_cons,Bool.and_eq_true] at h
   obtain ⟨h1,h2⟩:=h
   obtain ⟨p1,p2,p3⟩:=firstU_pos c r
   obtain ⟨n,hn⟩:∃ n,(firstU (c::r)).1=n+1:=⟨(firstU (c::r)).1 - 1,by omega⟩
   rw [hn] at h2 p2 p3
   simp only [List.length_cons] at p2
   refine ⟨(c::r).take (n+1),(c::r).drop (n+1),(List.take_append_drop _ _).symm,⟨by simp,fun Y => ?_⟩,h2⟩
   rw [List.take_succ_cons,List.cons_append]
   show firstN c.toNat (byteO (r.take n++Y) 0) (byteO (r.take n++Y) 1) (byteO (r.take n++Y) 2)=_
   have hf:(firstN c.toNat (byteO r 0) (byteO r 1) (byteO r 2)).1=n+1:=hn
   rw [firstN_cut (d:=byteO r 0) (e:=byteO r 1) (f:=byteO r 2) h1 (fun h=>byteO_take _ _ _ _ (by omega) (by omega)) (fun h=>byteO_take _ _ _ _ (by omega) (by omega)) (fun h=>byteO_take _ _ _ _ (by omega) (by omega))]
   rw [List.length_cons,List.length_take,Nat.min_eq_left (by omega),← hf]
   exact Prod.ext rfl h1
theorem right_app {a:List UInt8} (h:Sig a) (Y:List UInt8):rightL (a++Y)=rightL Y:=by
 obtain ⟨hne,h⟩:=h
 cases a with
 | nil=>exact absurd rfl hne
 | cons c r =>
   have:=h Y
   rw [List.cons_append] at this ⊢
   rw [rightL_cons,this]
   simp
theorem sig_ascii {c:UInt8} (h:c.toNat<128):Sig [c] :=
 ⟨by simp,fun Y=>by show firstN c.toNat _ _ _=_;unfold firstN;rw [if_pos h];rfl⟩
theorem right_ascii:∀ (w:List UInt8) (_:∀ c∈w,c.toNat<128) (Y:List UInt8),rightL (w++Y)=rightL Y:=by
 intro w
 induction w with
 | nil=>intro _ _;rfl
 | cons c w ih =>
   intro h Y
   rw [List.cons_append,← ih (fun x hx=>h x (by simp [hx])) Y]
   exact right_app (sig_ascii (h c (by simp))) (w++Y)
theorem sig_bytes {a:List UInt8} (h:Sig a):(∃ c,a=[c]∧c.toNat<128)∨(∃ c q,a=c::q∧194≤c.toNat∧q≠[]∧q.length≤3∧∀ x∈q,128≤x.toNat∧x.toNat≤191):=by
 obtain ⟨hne,h⟩:=h
 cases a with
 | nil=>exact absurd rfl hne
 | cons c q =>
   have h1:=h []
   rw [List.append_nil] at h1
   by_cases hc:c.toNat<128
   · left
     have:firstU (c::q)=(1,true):=by show firstN c.toNat _ _ _=_;unfold firstN;rw [if_pos hc]
     rw [this] at h1
     have:=(Prod.mk.inj h1).1
     simp only [List.length_cons] at this
     obtain rfl:=List.eq_nil_of_length_eq_zero (l:=q) (by omega)
     exact ⟨c,rfl,hc⟩
   · right
     have h2:(firstU (c::q)).2=true:=by rw [h1]
     have h3:(firstU (c::q)).1=q.length+1:=by rw [h1];rfl
     have h4:=(firstU_pos c q).2.2
     have hc2:194≤c.toNat:=by
      rcases Nat.lt_or_ge c.toNat 194 with hlt|hge
      · exfalso
        have:firstU (c::q)=(1,false):=first_bad1 (d:=byteO q 0) (e:=byteO q 1) (f:=byteO q 2) hc (tail_1 (.inl hlt)).one
        rw [this] at h2;cases h2
      · exact hge
     have hge:∀ k,k<q.length→128≤((q[k]?).getD 0).toNat:=by
      intro k hk
      have key:∀ (d e f:Option Nat),(firstN c.toNat d e f).2=true→(2≤(firstN c.toNat d e f).1→∃ x,d=some x∧128≤x)∧(3≤(firstN c.toNat d e f).1→∃ x,e=some x∧128≤x)∧(4≤(firstN c.toNat d e f).1→∃ x,f=some x∧128≤x):=by
       intro d e f
       have ht:128≤(tailN c.toNat).1:=by
        by_cases g1:c.toNat<194∨244<c.toNat
        · rw [(tail_1 g1).lo_];omega
        · by_cases g2:c.toNat≤223
          · rw [(tail_2 (by omega)).lo_];omega
          · by_cases g3:c.toNat≤239
            · obtain ⟨lo,hi,t,g,_⟩:=tail_3 (c:=c.toNat) (by omega)
              rw [t.lo_];exact g
            · obtain ⟨lo,hi,t,g,_⟩:=tail_4 (c:=c.toNat) (by omega)
              rw [t.lo_];exact g
       have hd:inO (tailN c.toNat).1 (tailN c.toNat).2.1 d→∃ x,d=some x∧128≤x:=fun h=>by
        obtain ⟨x,h1,h2,h3⟩:=(inO_iff _ _ d).1 h
        exact ⟨x,h1,by omega⟩
       have hcc:∀ o,contO o→∃ x,o=some x∧128≤x:=fun o h=>by
        obtain ⟨x,h1,h2,h3⟩:=(contO_iff o).1 h
        exact ⟨x,h1,by omega⟩
       unfold firstN
       rw [if_neg hc]
       split
       · simp
       · split
         · simp
         · rename_i h1
           have h1':=hd (Decidable.not_not.1 h1)
           split
           · intro _;exact ⟨fun _=>h1',by simp,by simp⟩
           · split
             · simp
             · rename_i h2
               have h2':=hcc _ (Decidable.not_not.1 h2)
               split
               · intro _;exact ⟨fun _=>h1',fun _=>h2',by simp⟩
               · split
                 · rename_i h3
                   intro _;exact ⟨fun _=>h1',fun _=>h2',fun _=>hcc _ h3⟩
                 · simp
      obtain ⟨k1,k2,k3⟩:=key _ _ _ h2
      have h3':(firstN c.toNat (byteO q 0) (byteO q 1) (byteO q 2)).1=q.length+1:=h3
      have use:∀ j,(∃ x,byteO q j=some x∧128≤x)→128≤((q[j]?).getD 0).toNat:=by
       rintro j ⟨x,hx,hl⟩
       unfold byteO at hx
       cases hq:q[j]? with
       | none=>rw [hq] at hx;cases hx
       | some y=>rw [hq] at hx;cases hx;exact hl
      rcases (show k=0∨k=1∨k=2 by omega) with rfl|rfl|rfl
      · exact use 0 (k1 (by omega))
      · exact use 1 (k2 (by omega))
      · exact use 2 (k3 (by omega))
     refine ⟨c,q,rfl,hc2,?_,by omega,?_⟩
     · rintro rfl
       have:(firstU [c])=(1,true):=h1
       have g:=firstN_pos c.toNat (byteO [] 0) (byteO [] 1) (byteO [] 2)
       have:firstN c.toNat none none none=(1,true):=h1
       unfold firstN at this
       rw [if_neg hc] at this
       split at this
       · cases this
       · rw [if_pos (by simp [inO])] at this;cases this
     · intro x hx
       obtain ⟨k,hk,rfl⟩:=List.getElem_of_mem hx
       obtain ⟨y,hy,hy2⟩:=firstU_in h2 (k+1) (by omega) (by omega)
       rw [List.getElem?_cons_succ,List.getElem?_eq_getElem hk] at hy
       cases hy
       have:=hge k hk
       rw [List.getElem?_eq_getElem hk] at this
       exact ⟨this,hy2⟩
theorem esc_high {c:UInt8} {r:List UInt8} (h:128≤c.toNat) (hm:c=239→¬ [187,191].isPrefixOf r=true):escL (c::r)=c::escL r:=by
 have ne:∀ d:UInt8,d.toNat<128→c≠d:=by rintro d hd rfl;omega
 unfold escL
 by_cases h8:c=239
 · have hf:escF c=some ([187,191],wMark):=by subst h8;rfl
   rw [replS_miss hf (hm h8)]
 · rw [replS_none (by simp [escF,ne 38 (by decide),ne 60 (by decide),ne 62 (by decide),ne 34 (by decide),ne 39 (by decide),ne 13 (by decide),ne 0 (by decide),h8])]
theorem esc_cont:∀ (q:List UInt8),(∀ x∈q,128≤x.toNat∧x.toNat≤191)→∀ Y,escL (q++Y)=q++escL Y:=by
 intro q
 induction q with
 | nil=>intro _ _;rfl
 | cons x q ih =>
   intro h Y
   have hx:=h x (by simp)
   rw [List.cons_append,esc_high hx.1 (by rintro rfl;exact absurd hx.2 (by decide)),ih (fun y hy=>h y (by simp [hy])),List.cons_append]
theorem esc_sig {a:List UInt8} (h:Sig a) (Y:List UInt8):escL (a++Y)=a++escL Y∨∃ w:List UInt8,escL (a++Y)=w++escL Y∧((∀ c∈w,c.toNat<128)∨w=wBad):=by
 rcases sig_bytes h with ⟨c,rfl,hc⟩|⟨c,q,rfl,h1,h2,h3,h4⟩
 · right
   refine esc_cases c Y (fun l => ∃ w:List UInt8,l=w++escL Y∧((∀ c∈w,c.toNat<128)∨w=wBad)) ?_ ?_ ?_ ?_ ?_ ?_ ?_ ?_ ?_
   · intro _;exact ⟨wAmp,rfl,.inl (by decide)⟩
   · intro _;exact ⟨wLt,rfl,.inl (by decide)⟩
   · intro _;exact ⟨wGt,rfl,.inl (by decide)⟩
   · intro _;exact ⟨wQuot,rfl,.inl (by decide)⟩
   · intro _;exact ⟨wApos,rfl,.inl (by decide)⟩
   · intro _;exact ⟨wCr,rfl,.inl (by decide)⟩
   · intro _;exact ⟨wBad,rfl,.inr rfl⟩
   · rintro q rfl _;exact absurd hc (by decide)
   · intros;exact ⟨[c],rfl,.inl (by simpa using hc)⟩
 · by_cases hm:c=239∧[187,191].isPrefixOf (q++Y)=true
   · right
     obtain ⟨rfl,hm⟩:=hm
     obtain ⟨Z,hZ⟩:=List.isPrefixOf_iff_prefix.1 hm
     have hq:q=[187,191]:=by
      have hlen:q.length=2:=by
       have hs:=h.2 []
       rw [List.append_nil] at hs
       have ht:=tail_3 (c:=239) (by omega)
       obtain ⟨lo,hi,t,_⟩:=ht
       have hn:(firstU (239::q)).1=q.length+1:=by rw [hs];rfl
       have h2':(firstU (239::q)).2=true:=by rw [hs]
       have:(firstN 239 (byteO q 0) (byteO q 1) (byteO q 2)).1=3:=by
        have hh:(firstN 239 (byteO q 0) (byteO q 1) (byteO q 2)).2=true:=h2'
        revert hh
        unfold firstN
        rw [if_neg (by omega),if_neg (by rw [t.one];omega)]
        split
        · intro hh;cases hh
        · rw [if_neg (by rw [t.one];omega)]
          split
          · intro hh;cases hh
          · rw [if_pos t.one];intro _;rfl
       have e2:(firstU (239::q)).1=3:=this
       omega
      match q,hlen,hZ with
      | [x,y],_,hZ =>
        simp only [List.cons_append,List.nil_append,List.cons.injEq] at hZ
        rw [hZ.1,hZ.2.1]
     subst hq
     refine ⟨wMark,?_,.inl (by decide)⟩
     unfold escL
     rw [List.cons_append,replS_hit (show escF 239=some ([187,191],wMark) from rfl) (by simp)]
     rfl
   · left
     rw [List.cons_append,esc_high (by omega) (fun e h=>hm ⟨e,h⟩),esc_cont q h4,List.cons_append]
theorem right_esc:∀ n (s:List UInt8),s.length≤n→rightL s=true→rightL (escL s)=true:=by
 intro n
 induction n with
 | zero=>intro s h _;obtain rfl:=List.eq_nil_of_length_eq_zero (Nat.le_zero.1 h);rfl
 | succ n ih =>
   intro s h hr
   by_cases hne:s=[]
   · subst hne;rfl
   · obtain ⟨a,q,rfl,hs,hq⟩:=sig_split hr hne
     have hlen:1≤a.length:=by
      rcases Nat.eq_zero_or_pos a.length with h0|h0
      · exact absurd (List.eq_nil_of_length_eq_zero h0) hs.1
      · exact h0
     have hi:=ih q (by rw [List.length_append] at h;omega) hq
     rcases esc_sig hs q with e|⟨w,e,hw|rfl⟩
     · rw [e,right_app hs];exact hi
     · rw [e,right_ascii w hw];exact hi
     · rw [e]
       have:Sig wBad:=⟨by decide,fun Y=>rfl⟩
       rw [right_app this];exact hi
theorem right_enc (k:Int) {s:List UInt8} (h:rightL s=true):rightL (encL k s)=true:=by
 have he:=right_esc _ s (Nat.le_refl _) h
 unfold encL
 split
 · exact he
 · split
   · split
     · exact (right_ascii [10] (by decide) (escL s)).trans he
     · exact he
   · rfl
theorem esc_head {x:UInt8} {s Z:List UInt8} (h:escL s=x::Z) (h1:128≤x.toNat) (h2:x≠239):∃ r,s=x::r∧escL r=Z:=by
 cases s with
 | nil=>cases h
 | cons c r =>
   revert h
   have no:∀ (w:List UInt8) (l:List UInt8),(w.head? = some 38∨w.head? = some 239)→w++l=x::Z→∃ q,c::r=x::q∧escL q=Z:=by
    intro w l hw e
    cases w with
    | nil=>rcases hw with h|h<;>cases h
    | cons y w =>
      rw [List.cons_append] at e
      have:=(List.cons.inj e).1
      subst this
      rcases hw with h|h
      · cases h;exact absurd h1 (by decide)
      · cases h;exact absurd rfl h2
   refine esc_cases c r (fun l=>l=x::Z→∃ q,c::r=x::q∧escL q=Z) ?_ ?_ ?_ ?_ ?_ ?_ ?_ ?_ ?_
   · intro _;exact no _ _ (.inl rfl)
   · intro _;exact no _ _ (.inl rfl)
   · intro _;exact no _ _ (.inl rfl)
   · intro _;exact no _ _ (.inl rfl)
   · intro _;exact no _ _ (.inl rfl)
   · intro _;exact no _ _ (.inl rfl)
   · intro _;exact no _ _ (.inr rfl)
   · intro q _ _;exact no _ _ (.inl rfl)
   · intro _ _ _ _ _ _ _ _ e
     injection e with e1 e2
     subst e1
     exact ⟨r,rfl,e2⟩
theorem esc_no_mark (s Z:List UInt8):escL s≠239::187::191::Z:=by
 cases s with
 | nil=>simp [escL,replS]
 | cons c r =>
   refine esc_cases c r (fun l=>l≠239::187::191::Z) ?_ ?_ ?_ ?_ ?_ ?_ ?_ ?_ ?_
   all_goals try (intros;simp [wAmp,wLt,wGt,wQuot,wApos,wCr,wBad,wMark];done)
   intro _ _ _ _ _ _ _ hc e
   injection e with e1 e2
   obtain ⟨r1,rfl,e3⟩:=esc_head e2 (by decide) (by decide)
   obtain ⟨r2,rfl,e4⟩:=esc_head e3 (by decide) (by decide)
   exact hc e1 (by simp)
def markP:List UInt8:=[239,187,191]
theorem enc_no_mark (k:Int) (s:List UInt8):markP.isPrefixOf (encL k s)=false:=by
 rw [Bool.eq_false_iff]
 intro h
 obtain ⟨Z,hZ⟩:=List.isPrefixOf_iff_prefix.1 h
 have he:=esc_no_mark s Z
 unfold encL at hZ
 split at hZ
 · exact he hZ.symm
 · split at hZ
   · split at hZ
     · simp [markP] at hZ
     · exact he hZ.symm
   · cases hZ
def decK:Nat→List UInt8→List UInt8
 | _,[]=>[]
 | k+1,_::r=>decK k r
 | 0,c::r=>(if (firstU (c::r)).2=true then (c::r).take (firstU (c::r)).1 else badP)++decK ((firstU (c::r)).1 - 1) r
def decL (s:List UInt8):List UInt8:=decK 0 s
theorem decK_skip:∀ (k:Nat) (s:List UInt8),decK k s=decL (s.drop k):=by
 intro k
 induction k with
 | zero=>intro s;rfl
 | succ k ih =>
   intro s
   cases s with
   | nil=>rfl
   | cons c r=>exact ih r
theorem decL_cons (c:UInt8) (r:List UInt8):decL (c::r)=(if (firstU (c::r)).2=true then (c::r).take (firstU (c::r)).1 else badP)++decL ((c::r).drop (firstU (c::r)).1):=by
 unfold decL
 rw [decK,decK_skip]
 have h:=(firstU_pos c r).1
 obtain ⟨n,hn⟩:∃ n,(firstU (c::r)).1=n+1:=⟨(firstU (c::r)).1 - 1,by omega⟩
 rw [hn]
 rfl
theorem decL_right:∀ n (s:List UInt8),s.length≤n→rightL s=true→decL s=s:=by
 intro n
 induction n with
 | zero=>intro s h _;obtain rfl:=List.eq_nil_of_length_eq_zero (Nat.le_zero.1 h);rfl
 | succ n ih =>
   intro s h hr
   cases s with
   | nil=>rfl
   | cons c r =>
     rw [rightL_cons,Bool.and_eq_true] at hr
     have hp:=(firstU_pos c r).1
     rw [decL_cons,if_pos hr.1,ih _ (by rw [List.length_drop];omega) hr.2,List.take_append_drop]
def trimL (s:List UInt8):List UInt8:=if markP.isPrefixOf s=true then s.drop 3 else s
theorem dec_enc (k:Int) {s:List UInt8} (h:rightL s=true):decL (trimL (encL k s))=encL k s:=by
 unfold trimL
 rw [enc_no_mark,if_neg (by decide)]
 exact decL_right _ _ (Nat.le_refl _) (right_enc k h)
end Go.Proofs.YtcecjoaeolglbaaGreatDoor.Pl
end

section
namespace Go.Proofs.YtcecjoaeolglbaaGreatDoor.Hand
open Go.RowKit Go.Proofs.YtcecjoaeolglbaaGreatDoor.Pl Go.Proofs.YtcecjoaeolglbaaGreatDoor.Pb
theorem trim_B (s:ByteArray):(⟨(Lib.trimPrefix s.data.toList (⟨#[239,187,191]⟩:ByteArray).data.toList).toArray⟩:ByteArray)=B (trimL s.data.toList):=rfl
theorem first_any (X:ByteArray) (h:0<X.size) (hz:X.size≤1000000000) :
  ∃ n b,1≤n∧n≤X.size∧decL X.data.toList=(if b=true then (X.extract 0 n).data.toList else badP)++decL (X.extract n X.size).data.toList ∧
    ∀ w,Calls Tryz.prog 43 #[.string X] w fun e w'=>e = .returned (.tuple #[.int .i64 (n:Int),.bool b])∧Below w.heap.size w w':=by
 obtain ⟨l,rfl⟩:=exists_B X
 cases l with
 | nil=>exact absurd h (by decide)
 | cons c r =>
   obtain ⟨p1,p2,_⟩:=firstU_pos c r
   refine ⟨(firstU (c::r)).1,(firstU (c::r)).2,p1,by rw [size_B];exact p2,?_,fun w=>first_at c r _ _ rfl _ (B_data _) hz w⟩
   rw [B_data,B_extract,B_extract,B_data,B_data,size_B,List.take_length,List.drop_zero,decL_cons]
theorem builderAt_below {T e:TypeId} {B0 b:Nat} {p:Value} {bs:List Value} {W W':World} (h:Lib.BuilderAt T e B0 b p bs W) (hb:Below W.heap.size W W'):Lib.BuilderAt T e B0 b p bs W':=by
 have lt:∀ {k:Nat} {o:Obj},W.heap[k]? = some o→k<W.heap.size:=fun h=>(Array.getElem?_eq_some_iff.1 h).1
 obtain ⟨hB,v,hv,hown,hne⟩:=h
 refine ⟨hB,v,(hb.block b (lt hv)).trans hv,⟨hown.1,?_⟩,hne⟩
 rcases hown.2 with h|⟨g,cap,cur,h1,h2,h3,h4⟩
 · exact .inl h
 · exact .inr ⟨g,cap,cur,h1,h2,(hb.block g (lt h3)).trans h3,h4⟩
theorem isB_below {T e:TypeId} {B0 b:Nat} {bs:List Value} {W W':World} (h:Lib.IsBuilder T e B0 b bs W) (hb:Below W.heap.size W W'):Lib.IsBuilder T e B0 b bs W' :=
 h.elim (fun x => .inl (builderAt_below x hb)) (fun x => .inr (builderAt_below x hb))
set_option maxRecDepth 100000 in
set_option maxHeartbeats 4000000 in
theorem decode_v (s:List UInt8) (v:Value) (w:World) (hz:s.length≤100000)
  (hback:∀ o,(convert 27 9 v).run Tryz.prog (w.alloc o)=Result.ok (Value.string (B s)) (w.alloc o)) :
  Calls Tryz.prog 19 #[v] w fun e w'=>e = .returned (.string (B (decL (trimL s))))∧Below w.heap.size w w':=by
 have hz2:(trimL s).length≤100000:=by unfold trimL;split<;>(try rw [List.length_drop])<;>omega
 have TP:∀ W,Calls Tryz.prog 42 #[.string (B s),.string ⟨#[239,187,191]⟩] W fun e w'=>e = .returned (.string (B (trimL s)))∧w'=W:=fun W=>by
  have:=Tryz.strings_TrimPrefix (B s) ⟨#[239,187,191]⟩ W
  rw [trim_B,B_data] at this
  exact this
 have HTP:=Lib.hid TP
 have DT:Hid (decL (B (trimL s)).data.toList=decL (trimL s)):=Lib.hid (by rw [B_data])
 have zT:(B (trimL s)).size≤100000:=by rw [size_B];exact hz2
 obtain ⟨T,hT⟩:∃ T,B (trimL s)=T:=⟨_,rfl⟩
 obtain ⟨D,hD⟩:∃ D,decL (trimL s)=D:=⟨_,rfl⟩
 obtain ⟨S,hS⟩:∃ S,B s=S:=⟨_,rfl⟩
 rw [hT,hS] at HTP
 rw [hT,hD] at DT
 rw [hT] at zT
 rw [hS] at hback
 rw [hD]
 clear hT hD hS TP hz2 hz
 go_enter Tryz.func19,Tryz.ntmps19
 go_wp2_with fail
 refine (HTP.out _).mono ?_
 rintro e w' ⟨rfl,rfl⟩
 clear hback HTP
 go_wp2_with fail
 go_loopg [4] T.size (fun g v wx => ∃ (X:ByteArray) (acc:List UInt8),X.size=g∧v = .string X∧X.size≤100000∧acc.length+3*X.size≤300000∧Hid (acc++decL X.data.toList=D)∧Hid (Lib.IsBuilder 54 5 w.heap.size w.heap.size (Lib.byteCells acc) wx)∧Hid (Below w.heap.size w wx))
 case atStart=>exact ⟨T,[],rfl,rfl,zT,by simp;omega,DT,Lib.hid (Lib.fresh_isBuilder 54 5 w),Lib.hid ((Below.refl _ w).alloc (Nat.le_refl _) _)⟩
 case round =>
  obtain ⟨X,acc,hg,rfl,hX,hacc,hD,hI,hB⟩:=hrel
  cases gk with
  | zero =>
    have q1:(X.toList == [])=true:=by
     obtain ⟨l,rfl⟩:=exists_B X
     rw [size_B] at hg
     obtain rfl:=List.eq_nil_of_length_eq_zero hg
     rw [toList_B];rfl
    have q2:(X.toList != [])=false:=by rw [bne,q1];rfl
    have e:acc=D:=by
     rw [← hD.out]
     obtain ⟨l,rfl⟩:=exists_B X
     rw [size_B] at hg
     obtain rfl:=List.eq_nil_of_length_eq_zero hg
     rw [B_data];exact (List.append_nil _).symm
    subst e
    have W:=Lib.hid (Tryz.Builder_String_any w.heap.size w.heap.size acc wr hI.out hB.out.size)
    clear hg hD
    go_wp2_with fail
    refine W.out.mono ?_
    rintro e w1 ⟨rfl,b1⟩
    have HB2:=Lib.hid (hB.out.trans b1)
    clear b1 W
    go_wp2_with fail
    go_ret
    exact ⟨rfl,HB2.out⟩
  | succ g =>
    have q1:(X.toList == [])=false:=by
     obtain ⟨l,rfl⟩:=exists_B X
     rw [toList_B,beq_eq_false_iff_ne]
     rintro rfl
     cases hg
    have q2:(X.toList != [])=true:=by rw [bne,q1];rfl
    obtain ⟨n,wh,hn1,hn2,hdec,F⟩:=first_any X (by omega) (by omega)
    have HG:=Lib.hid hg
    clear hg
    have HF:=Lib.hid F
    have zs:(X.extract n X.size).size=X.size - n:=by rw [ByteArray.size_extract];omega
    have ze:(X.extract 0 n).size=n:=by rw [ByteArray.size_extract];omega
    have HZ:=Lib.hid zs
    have HE:=Lib.hid ze
    have HD2:=Lib.hid hdec
    clear F zs ze hdec
    cases wh with
    | true =>
      have HD3:Hid ((acc++(X.extract 0 n).data.toList)++decL (X.extract n X.size).data.toList=D):=Lib.hid (by rw [← hD.out,HD2.out,if_pos rfl,List.append_assoc])
      have W:=Lib.hid (fun W (h:Lib.IsBuilder 54 5 w.heap.size w.heap.size (Lib.byteCells acc) W) hb=>Tryz.Builder_WriteString w.heap.size w.heap.size _ (X.extract 0 n) W h (by rw [Lib.byteCells_length,ByteArray.size_extract];omega) hb)
      clear HD2 hD
      go_wp2_with fail
      refine (HF.out _).mono ?_
      rintro e w1 ⟨rfl,b1⟩
      have HB2:=Lib.hid (hB.out.trans (b1.mono hB.out.size))
      have HI2:Hid (Lib.IsBuilder 54 5 w.heap.size w.heap.size (Lib.byteCells acc) w1):=Lib.hid (isB_below hI.out b1)
      clear b1 hB hI
      go_wp2_with fail
      refine (W.out _ HI2.out HB2.out.size).mono ?_
      rintro e w2 ⟨rfl,h1,b2⟩
      have HB3:=Lib.hid (HB2.out.trans b2)
      have HI3:Hid (Lib.IsBuilder 54 5 w.heap.size w.heap.size (Lib.byteCells (acc++(X.extract 0 n).data.toList)) w2):=Lib.hid (Or.inr (by rw [show Lib.byteCells (acc++(X.extract 0 n).data.toList)=Lib.byteCells acc++Lib.strCells (X.extract 0 n) by simp [Lib.byteCells,Lib.strCells]];exact h1))
      clear h1 b2 HB2 HI2 W
      go_wp2_with fail
      go_roundg (X.size - n)
      case measure=>have:=HG.out;omega
      case rel=>exact ⟨X.extract n X.size,_,HZ.out,rfl,by rw [HZ.out];omega,by rw [HZ.out,List.length_append,show (X.extract 0 n).data.toList.length=n from by rw [Array.length_toList];exact HE.out];omega,HD3,HI3,HB3⟩
    | false =>
      have HD3:Hid ((acc++badP)++decL (X.extract n X.size).data.toList=D):=Lib.hid (by rw [← hD.out,HD2.out,if_neg (by decide),List.append_assoc])
      have W:=Lib.hid (fun W (h:Lib.IsBuilder 54 5 w.heap.size w.heap.size (Lib.byteCells acc) W) hb=>Tryz.Builder_WriteString w.heap.size w.heap.size _ ⟨#[239,191,189]⟩ W h (by rw [Lib.byteCells_length,show (⟨#[239,191,189]⟩:ByteArray).size=3 from rfl];omega) hb)
      clear HD2 hD
      go_wp2_with fail
      refine (HF.out _).mono ?_
      rintro e w1 ⟨rfl,b1⟩
      have HB2:=Lib.hid (hB.out.trans (b1.mono hB.out.size))
      have HI2:Hid (Lib.IsBuilder 54 5 w.heap.size w.heap.size (Lib.byteCells acc) w1):=Lib.hid (isB_below hI.out b1)
      clear b1 hB hI
      go_wp2_with fail
      refine (W.out _ HI2.out HB2.out.size).mono ?_
      rintro e w2 ⟨rfl,h1,b2⟩
      have HB3:=Lib.hid (HB2.out.trans b2)
      have HI3:Hid (Lib.IsBuilder 54 5 w.heap.size w.heap.size (Lib.byteCells (acc++badP)) w2):=Lib.hid (Or.inr (by rw [show Lib.byteCells (acc++badP)=Lib.byteCells acc++Lib.strCells ⟨#[239,191,189]⟩ by simp [Lib.byteCells,Lib.strCells,badP]];exact h1))
      clear h1 b2 HB2 HI2 W
      go_wp2_with fail
      go_roundg (X.size - n)
      case measure=>have:=HG.out;omega
      case rel=>exact ⟨X.extract n X.size,_,HZ.out,rfl,by rw [HZ.out];omega,by rw [HZ.out,List.length_append,show badP.length=3 from rfl];omega,HD3,HI3,HB3⟩
theorem decode_at (s:List UInt8) (b:Nat) (cap:Nat) (w:World) (hz:s.length≤100000)
  (hc:∀ j,j<s.length→w.cell? ⟨b,j,none⟩=some (.int .u8 ((s.getD j 0).toNat:Int))) :
  Calls Tryz.prog 19 #[.slice (some ⟨b,0,none⟩) s.length cap] w fun e w'=>e = .returned (.string (B (decL (trimL s))))∧Below w.heap.size w w' :=
 decode_v s _ w hz fun o =>
  run_convert_bytes_back (P:=Tryz.prog) (w.alloc o) 27 9 5 ⟨b,0,none⟩ cap s Tryz.underlying27 Tryz.underlying5 Tryz.underlying9 (fun j hj=>by
   have h:=cell_step ((Below.refl _ w).alloc (Nat.le_refl _) o) (hc j hj)
   have ha:(⟨b,0,none⟩:Addr).add j=⟨b,j,none⟩:=by unfold Addr.add;split<;>simp_all
   rw [ha,h,List.getD_eq_getElem?_getD,List.getElem?_eq_getElem hj];rfl)
end Go.Proofs.YtcecjoaeolglbaaGreatDoor.Hand
end

section
namespace Go.Proofs.YtcecjoaeolglbaaGreatDoor.Hand
open Go.RowKit
theorem once_disable (w:World):(callFunc 204 #[]).run Tryz.prog w = .ok (.value (.tuple #[])) w:=run_call_mark0 Tryz.func204 (by kernel_rfl) (by kernel_rfl) (by kernel_rfl) .disable (by kernel_rfl) w
theorem once_enable (w:World):(callFunc 206 #[]).run Tryz.prog w = .ok (.value (.tuple #[])) w:=run_call_mark0 Tryz.func206 (by kernel_rfl) (by kernel_rfl) (by kernel_rfl) .enable (by kernel_rfl) w
theorem once_acquire (a:Addr) (w:World):(callFunc 207 #[.pointer (some a)]).run Tryz.prog w = .ok (.value (.tuple #[])) w:=run_call_marked Tryz.func207 (by kernel_rfl) (by kernel_rfl) (by kernel_rfl) .acquire (by kernel_rfl) a w
theorem once_releaseMerge (a:Addr) (w:World):(callFunc 209 #[.pointer (some a)]).run Tryz.prog w = .ok (.value (.tuple #[])) w:=run_call_marked Tryz.func209 (by kernel_rfl) (by kernel_rfl) (by kernel_rfl) .releaseMerge (by kernel_rfl) a w
theorem once_store_deferred (a:Addr) (x:Value) (u:FrameMode) (w:World) (hc:w.cell? a=some x) (hz:w.frozen? a=false) :
  CallsD Tryz.prog 145 #[.pointer (some a),.bool true] u w fun e u' w'=>u'=u∧(e = .returned (.tuple #[])∧w'=w.drew.setCell a (.int .u32 1)):=by
 have hc':w.drew.cell? a=some x:=by go_simp
 have hz':w.drew.frozen? a=false:=by go_simp
 have hst:=run_call_store (P:=Tryz.prog) Tryz.func188 (by kernel_rfl) (by kernel_rfl) (by kernel_rfl) (by kernel_rfl) (k:=.u32) (y:=1) hc' hz'
 go_enter_d Tryz.func145,Tryz.ntmps145
 go_wp2
 go_region_calls
 all_goals (go_end0;exact ⟨rfl,rfl⟩)
set_option maxRecDepth 100000 in
set_option maxHeartbeats 800000 in
theorem once_unlock_deferred (a:Addr) (u:FrameMode) (w:World) (hc:w.cell? a=some (.int .i32 1)) (hz:w.frozen? a=false) :
  CallsD Tryz.prog 144 #[.pointer (some a)] u w fun e u' w'=>u'=u∧(e = .returned (.tuple #[])∧w'=w.setCell a (.int .i32 0)):=by
 have hd:=once_disable
 have he:=once_enable
 have hr:=once_releaseMerge
 have hadd:=run_call_add (P:=Tryz.prog) Tryz.func210 (by kernel_rfl) (by kernel_rfl) (by kernel_rfl) .i32 (by kernel_rfl) (y := -1) (s:=0) hc hz (by simp [go_sem];rfl)
 have hcv:=run_convert_to_unsafe (P:=Tryz.prog) (src:=240) (dst:=132) Tryz.underlying240 Tryz.underlying132 (by kernel_rfl) hc
 go_enter_d Tryz.func144,Tryz.ntmps144
 go_wp2
 go_end0
 go_wp2
 go_end0
 exact ⟨rfl,rfl⟩
set_option maxRecDepth 100000 in
set_option maxHeartbeats 800000 in
theorem once_lock_free (a:Addr) (w:World) (hc:w.cell? a=some (.int .i32 0)) (hz:w.frozen? a=false) :
  Calls Tryz.prog 143 #[.pointer (some a)] w fun e w'=>e = .returned (.tuple #[])∧w'=w.setCell a (.int .i32 1):=by
 have hd:=once_disable
 have he:=once_enable
 have ha:=once_acquire
 have hcas:=run_call_cas_hit (P:=Tryz.prog) Tryz.func205 (by kernel_rfl) (by kernel_rfl) (by kernel_rfl) .i32 (by kernel_rfl) (y:=1) hc hz
 have hc':(w.setCell a (.int .i32 1)).cell? a=some (.int .i32 1):=World.cell?_setCell_same w a _ hc
 have hcv:=run_convert_to_unsafe (P:=Tryz.prog) (src:=240) (dst:=132) Tryz.underlying240 Tryz.underlying132 (by kernel_rfl) hc'
 go_enter Tryz.func143,Tryz.ntmps143
 go_wp2
 first|go_end0 | (simp only [Exit.inBlock,Exit.then];refine bodyPost_ret (results_none rfl _ _ _) rfl ?_)|refine bodyPost_ret (results_none rfl _ _ _) rfl ?_
 go_wp2
 go_end0
 exact ⟨rfl,rfl⟩
structure OnceRun (b:Nat) (w:World) (Post:World→Prop):Prop where
 run:Calls Tryz.prog 74 #[.pointer (some ⟨b,0,none⟩)] w fun e w'=>e = .returned (.tuple #[])∧(w'.cell? ⟨b,0,none⟩=some (.int .u32 0)∧w'.cell? ⟨b,1,none⟩=some (.int .i32 1)∧w'.frozen? ⟨b,0,none⟩=false∧w'.frozen? ⟨b,1,none⟩=false∧Post w')
set_option maxRecDepth 100000 in
set_option maxHeartbeats 1600000 in
theorem once_slow (b:Nat) (Post:World→Prop) (w:World)
  (h0:w.cell? ⟨b,0,none⟩=some (.int .u32 0)) (h1:w.cell? ⟨b,1,none⟩=some (.int .i32 0))
  (f0:w.frozen? ⟨b,0,none⟩=false) (f1:w.frozen? ⟨b,1,none⟩=false)
  (hrun:OnceRun b (w.setCell ⟨b,1,none⟩ (.int .i32 1)) Post) :
  Calls Tryz.prog 104 #[.pointer (some ⟨b,0,none⟩),.func (.func 74) #[.pointer (some ⟨b,0,none⟩)] #[]] w fun e w'=>e = .returned (.tuple #[]) ∧
   ∃ w2,Post w2∧w'=(w2.drew.setCell ⟨b,0,none⟩ (.int .u32 1)).setCell ⟨b,1,none⟩ (.int .i32 0):=by
 have hl:=run_call_load (P:=Tryz.prog) Tryz.func142 (by kernel_rfl) (by kernel_rfl) (by kernel_rfl) .u32 (by kernel_rfl) (w:=w.setCell ⟨b,1,none⟩ (.int .i32 1)) (a:=⟨b,0,none⟩) (x:=0) ((World.cell?_setCell_other _ ⟨b,1,none⟩ ⟨b,0,none⟩ _ (by simp)).trans h0)
 have hnot:∀ (x:Bool) (w:World),(Op.unary .not (.bool x)).run Tryz.prog w = .ok (.bool (!x)) w:=fun _ _=>rfl
 go_enter_defers Tryz.func104,Tryz.ntmps104
 go_wp2_with (first | (go_at_call 143;refine (once_lock_free ⟨b,1,none⟩ _ (by go_simp) (by go_simp)).mono ?_;rintro e w' ⟨rfl,rfl⟩) | (go_at_call 103;go_in))
 refine hrun.run.mono ?_
 rintro e w2 ⟨rfl,g0,g1,z0,z1,hp⟩
 have HP:=Lib.hid hp
 clear hp h0 h1 f0 f1 hrun hl
 go_wp2_with fail
 refine leaves_cons (f:=145) (args := #[.pointer (some ⟨b,0,none⟩),.bool true]) (by simp) (by simp [go_sem]) ?_
 refine (once_store_deferred ⟨b,0,none⟩ (.int .u32 0) .returning _ g0 z0).mono ?_
 rintro e u' w'' ⟨rfl,rfl,rfl⟩
 refine leaves_cons (f:=144) (args := #[.pointer (some ⟨b,1,none⟩)]) (by simp [settle]) (by simp [go_sem]) ?_
 refine (once_unlock_deferred ⟨b,1,none⟩ _ _ ?_ (by simp [z1])).mono ?_
 · refine (World.cell?_setCell_other _ ⟨b,0,none⟩ ⟨b,1,none⟩ _ (by simp)).trans ?_
   rw [World.cell?_drew]
   exact g1
 rintro e u' w'' ⟨rfl,rfl,rfl⟩
 exact ⟨.tuple #[],results_none rfl _ _ _,rfl,w2,HP.out,rfl⟩
set_option maxRecDepth 100000 in
set_option maxHeartbeats 1600000 in
theorem once_do (b:Nat) (Post:World→Prop) (w:World)
  (h0:w.cell? ⟨b,0,none⟩=some (.int .u32 0)) (h1:w.cell? ⟨b,1,none⟩=some (.int .i32 0))
  (f0:w.frozen? ⟨b,0,none⟩=false) (f1:w.frozen? ⟨b,1,none⟩=false)
  (hrun:OnceRun b (w.setCell ⟨b,1,none⟩ (.int .i32 1)) Post) :
  Calls Tryz.prog 73 #[.pointer (some ⟨b,0,none⟩),.func (.func 74) #[.pointer (some ⟨b,0,none⟩)] #[]] w fun e w'=>e = .returned (.tuple #[]) ∧
   ∃ w2,Post w2∧w'=(w2.drew.setCell ⟨b,0,none⟩ (.int .u32 1)).setCell ⟨b,1,none⟩ (.int .i32 0):=by
 have hl:=run_call_load (P:=Tryz.prog) Tryz.func142 (by kernel_rfl) (by kernel_rfl) (by kernel_rfl) .u32 (by kernel_rfl) h0
 have hnot:∀ (x:Bool) (w:World),(Op.unary .not (.bool x)).run Tryz.prog w = .ok (.bool (!x)) w:=fun _ _=>rfl
 have C:=Lib.hid (once_slow b Post w h0 h1 f0 f1 hrun)
 clear h0 h1 f0 f1 hrun
 go_enter Tryz.func73,Tryz.ntmps73
 go_wp2_with (go_at_call 103;go_in)
 refine C.out.mono ?_
 rintro e w' ⟨rfl,hw⟩
 have HW:=Lib.hid hw
 clear hw C
 go_wp2_with fail
 go_end0
 exact ⟨rfl,HW.out⟩
end Go.Proofs.YtcecjoaeolglbaaGreatDoor.Hand
end

section
namespace Go.Proofs.YtcecjoaeolglbaaGreatDoor.Hand
open Go.RowKit
def nodeZ:Array Value := #[.string ⟨#[]⟩,.int .i64 0,.string ⟨#[]⟩,.pointer none,.slice none 0 0]
def nodeV (v:ByteArray) (p:Int):Array Value := #[.string v,.int .i64 p,.string ⟨#[]⟩,.pointer none,.slice none 0 0]
def nodeP (t:ByteArray) (b:Nat):Array Value := #[.string ⟨#[]⟩,.int .i64 0,.string t,.pointer (some ⟨b,0,none⟩),.slice none 0 0]
set_option maxRecDepth 100000 in
set_option maxHeartbeats 2000000 in
theorem add_leaf (b:Nat) (v:ByteArray) (p:Int) (r:Value) (w:World) (hb:Blk b nodeZ w) :
  Calls Tryz.prog 191 #[.pointer (some ⟨b,0,none⟩),.string ⟨#[]⟩,.string v,.int .i64 p,r] w fun e w'=>e = .returned (.tuple #[]) ∧
   w'=(w.setCell ⟨b,0,none⟩ (.string v)).setCell ⟨b,1,none⟩ (.int .i64 p):=by
 have c0:=hb.cell 0 (by decide)
 have c1:=hb.cell 1 (by decide)
 have hz:=hb.open_
 have c1':∀ x,(w.setCell ⟨b,0,none⟩ x).cell? ⟨b,1,none⟩=some (.int .i64 0):=fun x=>by
  rw [World.cell?_setCell_other _ _ _ _ (by simp)];exact c1
 simp only [nodeZ,List.getElem?_toArray,List.getElem?_cons_succ,List.getElem?_cons_zero] at c0 c1
 clear hb
 go_enter Tryz.func191,Tryz.ntmps191
 go_wp2_with fail
 refine bodyPost_ret (results_none rfl _ _ _) rfl ?_
 exact ⟨rfl,rfl⟩
set_option maxRecDepth 100000 in
set_option maxHeartbeats 2000000 in
theorem add_tail (b:Nat) (t v:ByteArray) (p:Int) (r:Value) (w:World) (ht:¬ t.toList=[]) (hb:Blk b nodeZ w) (hlt:b<w.heap.size) :
  Calls Tryz.prog 191 #[.pointer (some ⟨b,0,none⟩),.string t,.string v,.int .i64 p,r] w fun e w'=>e = .returned (.tuple #[]) ∧
   w'=((((w.setCell ⟨b,2,none⟩ (.string t)).alloc (.cells nodeZ 222)).setCell ⟨b,3,none⟩ (.pointer (some ⟨w.heap.size,0,none⟩))).setCell ⟨w.heap.size,0,none⟩ (.string v)).setCell ⟨w.heap.size,1,none⟩ (.int .i64 p):=by
 have ht':t.toList.isEmpty=false:=by simpa using ht
 have c1:=hb.cell 1 (by decide)
 have c2:=hb.cell 2 (by decide)
 have c4:=hb.cell 4 (by decide)
 have hz:=hb.open_
 simp only [nodeZ,List.getElem?_toArray,List.getElem?_cons_succ,List.getElem?_cons_zero] at c1 c2 c4
 have hlt':b<(w.setCell ⟨b,2,none⟩ (.string t)).heap.size:=by simpa using hlt
 have d3:((w.setCell ⟨b,2,none⟩ (.string t)).alloc (.cells nodeZ 222)).cell? ⟨b,3,none⟩=some (.pointer none):=by
  rw [World.cell?_alloc_past _ _ _ hlt',World.cell?_setCell_other _ _ _ _ (by simp)]
  exact hb.cell 3 (by decide)
 have f3:∀ j,((w.setCell ⟨b,2,none⟩ (.string t)).alloc (.cells nodeZ 222)).frozen? ⟨b,j,none⟩=false:=fun j=>by
  rw [World.frozen?_alloc_past _ _ _ hlt',World.frozen?_setCell]
  exact hz j
 have d3':∀ x,(((w.setCell ⟨b,2,none⟩ (.string t)).alloc (.cells nodeZ 222)).setCell ⟨b,3,none⟩ x).cell? ⟨b,3,none⟩=some x:=fun x=>World.cell?_setCell_same _ _ _ d3
 have HN:Hid (∀ x,Blk w.heap.size nodeZ (((w.setCell ⟨b,2,none⟩ (.string t)).alloc (.cells nodeZ 222)).setCell ⟨b,3,none⟩ x)):=Lib.hid (fun x=>by
  have h:=(Blk.of_alloc nodeZ 222 (w.setCell ⟨b,2,none⟩ (.string t))).other (b':=b) 3 x (by simp;omega)
  rwa [World.size_setCell] at h)
 clear hlt hlt' hb
 unfold nodeZ at d3 f3 d3'
 go_enter Tryz.func191,Tryz.ntmps191
 go_wp2_with fail
 refine (add_leaf w.heap.size v p r _ (HN.out _)).mono ?_
 rintro e w' ⟨rfl,rfl⟩
 go_wp2_with fail
 go_end0
 exact ⟨rfl,rfl⟩
end Go.Proofs.YtcecjoaeolglbaaGreatDoor.Hand
end

section
namespace Go.Proofs.YtcecjoaeolglbaaGreatDoor.Hand
open Go.RowKit Go.Proofs.YtcecjoaeolglbaaGreatDoor.Pb
theorem wp_world {P:Program} {s:Code} {Q:Exit→Act→World→Prop} {a:Act} {w W:World} (h:w=W) (hw:s.wp P Q a W):s.wp P Q a w:=h ▸ hw
structure BlkF (b n:Nat) (f:Nat→Value) (W:World):Prop where
 cell:∀ j,j<n→W.cell? ⟨b,j,none⟩=some (f j)
 open_:∀ j,W.frozen? ⟨b,j,none⟩=false
def upd (f:Nat→Value) (k:Nat) (x:Value):Nat→Value:=fun j=>if j=k then x else f j
theorem upd_same (f:Nat→Value) (k:Nat) (x:Value):upd f k x k=x:=if_pos rfl
theorem upd_ne (f:Nat→Value) {k j:Nat} (x:Value) (h:j≠k):upd f k x j=f j:=if_neg h
theorem BlkF.set {b n:Nat} {f:Nat→Value} {W:World} (h:BlkF b n f W) (k:Nat) (x:Value) (hk:k<n):BlkF b n (upd f k x) (W.setCell ⟨b,k,none⟩ x):=by
 refine ⟨fun j hj => ?_,fun j=>by rw [World.frozen?_setCell];exact h.open_ j⟩
 by_cases e:j=k
 · subst e
   rw [World.cell?_setCell_same _ _ _ (h.cell j hj),upd_same]
 · rw [World.cell?_setCell_other _ _ _ _ (ne_off (Ne.symm e)),h.cell j hj,upd_ne _ _ e]
theorem BlkF.other {b b' n:Nat} {f:Nat→Value} {W:World} (h:BlkF b n f W) (k:Nat) (x:Value) (hb:b'≠b):BlkF b n f (W.setCell ⟨b',k,none⟩ x) :=
 ⟨fun j hj=>by rw [World.cell?_setCell_other _ _ _ _ (by intro e;injection e with e;exact hb e)];exact h.cell j hj,fun j=>by rw [World.frozen?_setCell];exact h.open_ j⟩
theorem BlkF.below {b n:Nat} {f:Nat→Value} {W W':World} (h:BlkF b n f W) {B:Nat} (hb:Below B W W') (hn:b<B):BlkF b n f W' :=
 ⟨fun j hj=>(hb.cell (p:=⟨b,j,none⟩) hn).trans (h.cell j hj),fun j=>(hb.frozen (p:=⟨b,j,none⟩) hn).trans (h.open_ j)⟩
theorem BlkF.congr {b n:Nat} {f g:Nat→Value} {W:World} (h:BlkF b n f W) (e:∀ j,j<n→f j=g j):BlkF b n g W:=⟨fun j hj=>by rw [h.cell j hj,e j hj],h.open_⟩
structure But (n bt:Nat) (w W:World):Prop where
 below:Below n w W
 same:∀ b,b<w.heap.size→b≠bt→(∀ j,W.cell? ⟨b,j,none⟩=w.cell? ⟨b,j,none⟩)∧(∀ j,W.frozen? ⟨b,j,none⟩=w.frozen? ⟨b,j,none⟩)
theorem But.refl (n bt:Nat) (w:World):But n bt w w:=⟨Below.refl _ _,fun _ _ _=>⟨fun _=>rfl,fun _=>rfl⟩⟩
theorem But.set {n bt:Nat} {w W:World} (h:But n bt w W) (b k:Nat) (x:Value) (hn:n≤b) (hb:b=bt∨w.heap.size≤b):But n bt w (W.setCell ⟨b,k,none⟩ x):=by
 refine ⟨h.below.setCell hn _,fun c hc hne => ?_⟩
 have hcb:b≠c:=by rintro rfl;rcases hb with h|h<;>omega
 refine ⟨fun j => ?_,fun j=>by rw [World.frozen?_setCell];exact (h.same c hc hne).2 j⟩
 rw [World.cell?_setCell_other _ _ _ _ (by intro e;injection e with e;exact hcb e)]
 exact (h.same c hc hne).1 j
theorem But.below' {n bt:Nat} {w W W':World} (h:But n bt w W) (hb:Below W.heap.size W W') (hn:n≤w.heap.size):But n bt w W' :=
 ⟨h.below.trans (hb.mono (Nat.le_trans hn h.below.size)),fun c hc hne=>⟨fun j=>(hb.cell (p:=⟨c,j,none⟩) (Nat.lt_of_lt_of_le hc h.below.size)).trans ((h.same c hc hne).1 j),fun j=>(hb.frozen (p:=⟨c,j,none⟩) (Nat.lt_of_lt_of_le hc h.below.size)).trans ((h.same c hc hne).2 j)⟩⟩
theorem But.alloc {n bt:Nat} {w W:World} (h:But n bt w W) (hn:n≤w.heap.size) (o:Obj):But n bt w (W.alloc o):=h.below' (Below.alloc (Below.refl _ _) (Nat.le_refl _) _) hn
theorem But.drewN {n bt:Nat} {w W:World} (h:But n bt w W) (hn:n≤w.heap.size) (k:Nat):But n bt w (W.drewN k):=h.below' ⟨rfl,rfl,rfl,Nat.le_refl _,fun _ _=>rfl⟩ hn
theorem But.drew {n bt:Nat} {w W:World} (h:But n bt w W) (hn:n≤w.heap.size):But n bt w W.drew:=h.below' (Below.drew (Below.refl _ _)) hn
theorem But.blkF {n bt b m:Nat} {f:Nat→Value} {w W:World} (h:But n bt w W) (hb:BlkF b m f w) (hs:b<w.heap.size) (hne:b≠bt):BlkF b m f W :=
 ⟨fun j hj=>((h.same b hs hne).1 j).trans (hb.cell j hj),fun j=>((h.same b hs hne).2 j).trans (hb.open_ j)⟩
theorem But.blk {n bt b:Nat} {v:Array Value} {w W:World} (h:But n bt w W) (hb:Blk b v w) (hs:b<w.heap.size) (hne:b≠bt):Blk b v W :=
 ⟨fun j hj=>((h.same b hs hne).1 j).trans (hb.cell j hj),fun j=>((h.same b hs hne).2 j).trans (hb.open_ j)⟩
def NodeAt (lo b:Nat) (t:List UInt8) (v:ByteArray) (p:Int) (W:World):Prop :=
 lo≤b∧b<W.heap.size∧((t=[]∧Blk b (nodeV v p) W)∨(t≠[]∧∃ b2,lo≤b2∧b2<W.heap.size∧Blk b (nodeP (B t) b2) W∧Blk b2 (nodeV v p) W))
theorem NodeAt.but {lo n bt b:Nat} {t:List UInt8} {v:ByteArray} {p:Int} {w W:World} (h:NodeAt lo b t v p w) (hb:But n bt w W) (hl:bt<lo):NodeAt lo b t v p W:=by
 obtain ⟨h1,h2,h3⟩:=h
 refine ⟨h1,Nat.lt_of_lt_of_le h2 hb.below.size,?_⟩
 rcases h3 with ⟨ht,h3⟩|⟨ht,b2,h4,h5,h6,h7⟩
 · exact .inl ⟨ht,hb.blk h3 h2 (by omega)⟩
 · exact .inr ⟨ht,b2,h4,Nat.lt_of_lt_of_le h5 hb.below.size,hb.blk h6 h2 (by omega),hb.blk h7 h5 (by omega)⟩
abbrev tailW (W:World) (b:Nat) (t v:ByteArray) (p:Int):World :=
 ((((W.setCell ⟨b,2,none⟩ (.string t)).alloc (.cells nodeZ 222)).setCell ⟨b,3,none⟩ (.pointer (some ⟨W.heap.size,0,none⟩))).setCell ⟨W.heap.size,0,none⟩ (.string v)).setCell ⟨W.heap.size,1,none⟩ (.int .i64 p)
theorem tail_facts {b:Nat} {t v:ByteArray} {p:Int} {W:World} (h:Blk b nodeZ W) (hlt:b<W.heap.size):Blk b (nodeP t W.heap.size) (tailW W b t v p)∧Blk W.heap.size (nodeV v p) (tailW W b t v p):=by
 have hs:(W.setCell ⟨b,2,none⟩ (.string t)).heap.size=W.heap.size:=World.size_setCell ..
 have h2:=(h.set 2 (.string t) (by decide)).below (Below.alloc (Below.refl (W.setCell ⟨b,2,none⟩ (.string t)).heap.size (W.setCell ⟨b,2,none⟩ (.string t))) (Nat.le_refl _) (.cells nodeZ 222)) (by omega)
 have h3:=((h2.set 3 (.pointer (some ⟨W.heap.size,0,none⟩)) (by simp [nodeZ])).other (b':=W.heap.size) 0 (.string v) (by omega)).other (b':=W.heap.size) 1 (.int .i64 p) (by omega)
 have g:=Blk.of_alloc nodeZ 222 (W.setCell ⟨b,2,none⟩ (.string t))
 rw [hs] at g
 have g3:=((g.other (b':=b) 3 (.pointer (some ⟨W.heap.size,0,none⟩)) (by omega)).set 0 (.string v) (by decide)).set 1 (.int .i64 p) (by simp [nodeZ])
 refine ⟨?_,?_⟩
 · have e:(nodeZ.setIfInBounds 2 (.string t)).setIfInBounds 3 (.pointer (some ⟨W.heap.size,0,none⟩))=nodeP t W.heap.size:=by simp [nodeZ,nodeP]
   rw [e] at h3;exact h3
 · have e:(nodeZ.setIfInBounds 0 (.string v)).setIfInBounds 1 (.int .i64 p)=nodeV v p:=by simp [nodeZ,nodeV]
   rw [e] at g3;exact g3
theorem tail_other {b bt ts:Nat} {f:Nat→Value} {t v:ByteArray} {p:Int} {W:World} (h:BlkF bt ts f W) (hlt:b<W.heap.size) (hb:b≠bt) (hbt:bt<W.heap.size):BlkF bt ts f (tailW W b t v p):=by
 have hs:(W.setCell ⟨b,2,none⟩ (.string t)).heap.size=W.heap.size:=World.size_setCell ..
 have h2:=(h.other (b':=b) 2 (.string t) hb).below (Below.alloc (Below.refl (W.setCell ⟨b,2,none⟩ (.string t)).heap.size (W.setCell ⟨b,2,none⟩ (.string t))) (Nat.le_refl _) (.cells nodeZ 222)) (by omega)
 exact ((h2.other (b':=b) 3 (.pointer (some ⟨W.heap.size,0,none⟩)) hb).other (b':=W.heap.size) 0 (.string v) (by omega)).other (b':=W.heap.size) 1 (.int .i64 p) (by omega)
theorem tail_but {n bt b:Nat} {t v:ByteArray} {p:Int} {w W:World} (h:But n bt w W) (hn:n≤w.heap.size) (hb:w.heap.size≤b) (hW:w.heap.size≤W.heap.size):But n bt w (tailW W b t v p) :=
 ((((h.set b 2 _ (by omega) (.inr hb)).alloc hn _).set b 3 _ (by omega) (.inr hb)).set W.heap.size 0 _ (by omega) (.inr hW)).set W.heap.size 1 _ (by omega) (.inr hW)
set_option maxRecDepth 100000 in
set_option maxHeartbeats 4000000 in
theorem add_root (br bt ts n:Nat) (R T:Nat→Value) (c:UInt8) (t:List UInt8) (v:ByteArray) (p:Int) (m:Nat) (w:World)
  (ht:t.length≤1000) (hts:ts≤1000) (hR:BlkF br 262 R w) (hT:BlkF bt ts T w) (hm:m<ts) (hne:br≠bt) (hbr:br<w.heap.size) (hbt:bt<w.heap.size) (hn:n≤bt)
  (r2:R 2 = .string ⟨#[]⟩) (r4:R 4 = .slice (some ⟨bt,0,none⟩) ts ts) (rm:R (6+c.toNat) = .int .u8 (m:Int)) (tm:T m = .pointer none) :
  Calls Tryz.prog 191 #[.pointer (some ⟨br,0,none⟩),.string (B (c::t)),.string v,.int .i64 p,.pointer (some ⟨br,0,none⟩)] w fun e w'=>e = .returned (.tuple #[]) ∧
   ∃ b,w.heap.size≤b∧b<w'.heap.size∧BlkF bt ts (upd T m (.pointer (some ⟨b,0,none⟩))) w'∧NodeAt w.heap.size b t v p w'∧But n bt w w':=by
 have hk:(B (c::t)).toList.isEmpty=false:=by simp
 have hk':¬ (B (c::t)).toList=[]:=by simp
 have c2:=hR.cell 2 (by omega)
 have c4:=hR.cell 4 (by omega)
 have cm:=hR.cell (6+c.toNat) (by have:=c.toNat_lt;omega)
 rw [r2] at c2
 rw [r4] at c4
 rw [rm] at cm
 have tc:=hT.cell m hm
 rw [tm] at tc
 have zr:=hR.open_
 have zt:=hT.open_
 obtain ⟨a,ha⟩:∃ a,B (c::t)=a:=⟨_,rfl⟩
 have hsz:0<a.size:=by rw [← ha];simp
 have hsz':a.size≤1001:=by rw [← ha];simp;omega
 have hc:a[0]=c:=by subst ha;rfl
 have hx:a.extract 1 a.size=B t:=by rw [← ha,B_extract];simp
 rw [ha] at hk hk' ⊢
 rw [← hc] at cm
 have hb0:(0:Int)≤(a[0].toNat:Int):=by omega
 have hb1:(a[0].toNat:Int)<256:=by have:=a[0].toNat_lt;omega
 have hb2:a[0].toNat<256:=by have:=a[0].toNat_lt;omega
 have d1:∀ q,((w.drewN q).alloc (.cells nodeZ 222)).cell? ⟨bt,m,none⟩=some (.pointer none):=fun q=>by
  rw [World.cell?_alloc_past _ _ _ (by simpa using hbt)];exact tc
 have d3:∀ q x,(((w.drewN q).alloc (.cells nodeZ 222)).setCell ⟨bt,m,none⟩ x).cell? ⟨br,4,none⟩=some (.slice (some ⟨bt,0,none⟩) ts ts):=fun q x=>by
  rw [World.cell?_setCell_other _ _ _ _ (by intro e;injection e with e;exact hne e.symm),World.cell?_alloc_past _ _ _ (by simpa using hbr)];exact c4
 have d2:∀ q x,(((w.drewN q).alloc (.cells nodeZ 222)).setCell ⟨bt,m,none⟩ x).cell? ⟨bt,m,none⟩=some x:=fun q x=>World.cell?_setCell_same _ _ _ (d1 q)
 have f1:∀ q,((w.drewN q).alloc (.cells nodeZ 222)).frozen? ⟨bt,m,none⟩=false:=fun q=>by
  rw [World.frozen?_alloc_past _ _ _ (by simpa using hbt)];exact zt m
 have HBT:=Lib.hid hbt
 have HBR:=Lib.hid hbr
 have HNE:=Lib.hid hne
 have HNT:=Lib.hid hn
 have HX:=Lib.hid hx
 have HR:=Lib.hid hR
 have HT:=Lib.hid hT
 clear hx hR hT ha hc r2 r4 rm tm hbt hbr hne hn
 unfold nodeZ at d1 d2 d3 f1
 go_enter Tryz.func191,Tryz.ntmps191
 go_wp2_with fail
 go_quiet (fail)
 go_wp2_with fail
 have hW:∃ W,(((w.drewN nq).alloc (.cells nodeZ 222)).setCell ⟨bt,m,none⟩ (.pointer (some ⟨w.heap.size,0,none⟩)))=W:=⟨_,rfl⟩
 obtain ⟨W,hW⟩:=hW
 have e4:=d3 nq (.pointer (some ⟨w.heap.size,0,none⟩))
 have em:=d2 nq (.pointer (some ⟨w.heap.size,0,none⟩))
 have eB:Blk w.heap.size nodeZ W:=by
  rw [← hW]
  exact (Blk.of_alloc nodeZ 222 (w.drewN nq)).other (b':=bt) m (.pointer (some ⟨w.heap.size,0,none⟩)) (Nat.ne_of_lt HBT.out)
 have eT:BlkF bt ts (upd T m (.pointer (some ⟨w.heap.size,0,none⟩))) W:=by
  rw [← hW]
  refine BlkF.set ?_ m _ hm
  exact HT.out.below (B:=w.heap.size) (Below.alloc (⟨rfl,rfl,rfl,Nat.le_refl _,fun _ _=>rfl⟩:Below w.heap.size w (w.drewN nq)) (Nat.le_refl _) _) HBT.out
 have eU:But n bt w W:=by
  rw [← hW]
  have hn':n≤w.heap.size:=Nat.le_of_lt (Nat.lt_of_le_of_lt HNT.out HBT.out)
  exact ((((But.refl n bt w).drewN hn' nq).alloc hn' _).set bt m _ HNT.out (.inl rfl))
 have eS:W.heap.size=w.heap.size+1:=by rw [← hW];simp
 unfold nodeZ at hW
 rw [hW] at e4 em
 refine wp_world hW ?_
 clear d1 d2 d3 f1 c2 c4 tc cm
 have HW:=Lib.hid hW
 have HB:=Lib.hid eB
 have HT':=Lib.hid eT
 have HU:=Lib.hid eU
 clear hW eB eT eU HT HR zr zt
 have hb3:1≤a.size:=by omega
 have hb4:(1:Int)≤(a.size:Int):=by omega
 go_still_tail 12,(by kernel_rfl)
 change wpList _ _ _ _ _ W.drew
 have hb':Below W.heap.size W W.drew:=Below.drew (Below.refl _ _)
 have HB2:=Lib.hid (HB.out.below hb' (by omega))
 have HT2:=Lib.hid (HT'.out.below hb' (by have:=HBT.out;omega))
 have HU2:=Lib.hid (HU.out.drew (Nat.le_of_lt (Nat.lt_of_le_of_lt HNT.out HBT.out)))
 have eS2:W.drew.heap.size=w.heap.size+1:=eS
 generalize W.drew=W2 at HB2 HT2 HU2 eS2 ⊢
 clear hb' HB HT' HU HW e4 em eS
 have hn':n≤w.heap.size:=Nat.le_of_lt (Nat.lt_of_le_of_lt HNT.out HBT.out)
 by_cases htl:t=[]
 · subst htl
   have hx2:a.extract 1 a.size=⟨#[]⟩:=HX.out
   have C:=Lib.hid (add_leaf w.heap.size v p (.pointer (some ⟨br,0,none⟩)) W2 HB2.out)
   go_wp2_with fail
   rw [hx2]
   refine C.out.mono ?_
   rintro e w' ⟨rfl,hw⟩
   have hS3:w'.heap.size=w.heap.size+1:=by rw [hw];simpa using eS2
   have hN:Blk w.heap.size (nodeV v p) ((W2.setCell ⟨w.heap.size,0,none⟩ (.string v)).setCell ⟨w.heap.size,1,none⟩ (.int .i64 p)):=by
    have h:=(HB2.out.set 0 (.string v) (by decide)).set 1 (.int .i64 p) (by simp [nodeZ])
    simpa only [nodeZ,nodeV,List.setIfInBounds_toArray,List.set_cons_succ,List.set_cons_zero] using h
   have hT3:=(HT2.out.other (b':=w.heap.size) 0 (.string v) (by have:=HBT.out;omega)).other (b':=w.heap.size) 1 (.int .i64 p) (by have:=HBT.out;omega)
   have hU3:=(HU2.out.set w.heap.size 0 (.string v) hn' (.inr (Nat.le_refl _))).set w.heap.size 1 (.int .i64 p) hn' (.inr (Nat.le_refl _))
   rw [← hw] at hN hT3 hU3
   have HF:=Lib.hid (And.intro hN (And.intro hT3 hU3))
   clear hN hT3 hU3 hw
   have HS3:=Lib.hid hS3
   clear hS3 eS2
   go_wp2_with fail
   go_end0
   exact ⟨rfl,w.heap.size,Nat.le_refl _,by have:=HS3.out;omega,HF.out.2.1,⟨Nat.le_refl _,by have:=HS3.out;omega,.inl ⟨rfl,HF.out.1⟩⟩,HF.out.2.2⟩
 · have htl':¬ (B t).toList=[]:=by simpa using htl
   have C:=Lib.hid (add_tail w.heap.size (B t) v p (.pointer (some ⟨br,0,none⟩)) W2 htl' HB2.out (by omega))
   have hx2:=HX.out
   go_wp2_with fail
   rw [hx2]
   refine C.out.mono ?_
   rintro e w' ⟨rfl,hw⟩
   have hlt:w.heap.size<W2.heap.size:=by omega
   have hS3:w'.heap.size=w.heap.size+2:=by rw [hw];simp;omega
   have hN:=tail_facts (t:=B t) (v:=v) (p:=p) HB2.out hlt
   have hT3:=tail_other (t:=B t) (v:=v) (p:=p) HT2.out hlt (by have:=HBT.out;omega) (by have:=HBT.out;omega)
   have hU3:But n bt w _:=tail_but (t:=B t) (v:=v) (p:=p) HU2.out hn' (Nat.le_refl _) (by omega)
   have hw2:w'=tailW W2 w.heap.size (B t) v p:=hw
   rw [← hw2] at hN hT3 hU3
   have HF:=Lib.hid (And.intro hN (And.intro hT3 hU3))
   clear hN hT3 hU3 hw hw2
   have HS3:=Lib.hid hS3
   have HS2:=Lib.hid eS2
   clear hS3 eS2 hlt
   go_wp2_with fail
   go_end0
   exact ⟨rfl,w.heap.size,Nat.le_refl _,by have:=HS3.out;omega,HF.out.2.1,⟨Nat.le_refl _,by have:=HS3.out;omega,.inr ⟨htl,W2.heap.size,by have:=HS2.out;omega,by have:=HS2.out;have:=HS3.out;omega,HF.out.1.1,HF.out.1.2⟩⟩,HF.out.2.2⟩
end Go.Proofs.YtcecjoaeolglbaaGreatDoor.Hand
end

section
namespace Go.Proofs.YtcecjoaeolglbaaGreatDoor.Hand
open Go.RowKit Go.Proofs.YtcecjoaeolglbaaGreatDoor.Pb
def usedB (l:List UInt8) (x:Nat):Bool:=l.any fun c=>c.toNat == x
def cntU (l:List UInt8):Nat→Nat
 | 0=>0
 | x+1=>cntU l x+if usedB l x=true then 1 else 0
theorem cnt_le (l:List UInt8):∀ x,cntU l x≤x:=by
 intro x
 induction x with
 | zero=>exact Nat.le_refl _
 | succ x ih=>simp only [cntU];split<;>omega
theorem cnt_mono (l:List UInt8) {x y:Nat} (h:x≤y):cntU l x≤cntU l y:=by
 induction h with
 | refl=>exact Nat.le_refl _
 | step h ih=>exact Nat.le_trans ih (by simp only [cntU];omega)
theorem cnt_lt (l:List UInt8) {x y:Nat} (hu:usedB l x=true) (h:x<y):cntU l x<cntU l y:=by
 have:=cnt_mono l (show x+1≤y from h)
 simp only [cntU,hu,if_true] at this
 omega
theorem used_append (l:List UInt8) (c:UInt8) (x:Nat):usedB (l++[c]) x=(usedB l x || c.toNat == x):=by simp [usedB]
def u8v (b:Bool):Value:=.int .u8 (if b=true then 1 else 0)
def rootF (l:List UInt8) (ts:Int) (j:Nat):Value :=
 if j=0 then .string ⟨#[]⟩ else if j=1 then .int .i64 0 else if j=2 then .string ⟨#[]⟩ else if j=3 then .pointer none else if j=4 then .slice none 0 0 else if j=5 then .int .i64 ts
 else u8v (usedB l (j - 6))
def zero82:Array Value := #[.string ⟨#[]⟩,.int .i64 0,.string ⟨#[]⟩,.pointer none,.slice none 0 0,.int .i64 0]++Array.replicate 256 (.int .u8 0)
theorem zero82_at (j:Nat) (h:j<262):zero82[j]? = some (rootF [] 0 j):=by
 by_cases h6:j<6
 · have:j=0∨j=1∨j=2∨j=3∨j=4∨j=5:=by omega
   unfold zero82
   rw [Array.getElem?_append_left (by simpa using h6)]
   rcases this with rfl|rfl|rfl|rfl|rfl|rfl<;>rfl
 · unfold zero82
   rw [Array.getElem?_append_right (by simp;omega)]
   have:rootF [] 0 j = .int .u8 0:=by
    unfold rootF
    rw [if_neg (by omega),if_neg (by omega),if_neg (by omega),if_neg (by omega),if_neg (by omega),if_neg (by omega)]
    rfl
   rw [this,Array.getElem?_replicate,if_pos (by simp;omega)]
theorem zero82_is:∀ w,(zeroValue 224).run Tryz.prog w = .ok (.agg zero82) w:=fun _=>by kernel_rfl
def flatKV (kv:List (List UInt8×ByteArray)):List ByteArray:=kv.flatMap fun x=>[B x.1,x.2]
theorem flatKV_length (kv:List (List UInt8×ByteArray)):(flatKV kv).length=2*kv.length:=by
 induction kv with
 | nil=>rfl
 | cons x r ih =>
   have:flatKV (x::r)=B x.1::x.2::flatKV r:=rfl
   rw [this];simp;omega
theorem flatKV_key (kv:List (List UInt8×ByteArray)):∀ q (h:q<kv.length),(flatKV kv)[2*q]? = some (B kv[q].1):=by
 induction kv with
 | nil=>intro q h;simp at h
 | cons x r ih =>
   intro q h
   have:flatKV (x::r)=B x.1::x.2::flatKV r:=rfl
   rw [this]
   cases q with
   | zero=>rfl
   | succ q=>rw [show 2*(q+1)=2*q+1+1 by omega,List.getElem?_cons_succ,List.getElem?_cons_succ];exact ih q (by simpa using h)
theorem flatKV_val (kv:List (List UInt8×ByteArray)):∀ q (h:q<kv.length),(flatKV kv)[2*q+1]? = some kv[q].2:=by
 induction kv with
 | nil=>intro q h;simp at h
 | cons x r ih =>
   intro q h
   have:flatKV (x::r)=B x.1::x.2::flatKV r:=rfl
   rw [this]
   cases q with
   | zero=>rfl
   | succ q=>rw [show 2*(q+1)+1=2*q+1+1+1 by omega,List.getElem?_cons_succ,List.getElem?_cons_succ];exact ih q (by simpa using h)
def strV (l:List ByteArray) (j:Nat):Value:=.string (l.getD j ⟨#[]⟩)
theorem strV_at {l:List ByteArray} {j:Nat} {s:ByteArray} (h:l[j]? = some s):strV l j = .string s:=by
 unfold strV;rw [List.getD_eq_getElem?_getD,h];rfl
def keysU (kv:List (List UInt8×ByteArray)) (q:Nat):List UInt8:=(kv.take q).flatMap fun x=>x.1
theorem keysU_succ (kv:List (List UInt8×ByteArray)) (q:Nat) (h:q<kv.length):keysU kv (q+1)=keysU kv q++kv[q].1:=by
 unfold keysU
 rw [List.take_succ_eq_append_getElem h,List.flatMap_append]
 simp
theorem rootF_mark (l:List UInt8) (c:UInt8) (ts:Int) (j:Nat):upd (rootF l ts) (6+c.toNat) (.int .u8 1) j=rootF (l++[c]) ts j:=by
 by_cases h:j=6+c.toNat
 · subst h
   rw [upd_same]
   unfold rootF
   rw [if_neg (by omega),if_neg (by omega),if_neg (by omega),if_neg (by omega),if_neg (by omega),if_neg (by omega),used_append]
   simp [u8v]
 · rw [upd_ne _ _ h]
   unfold rootF
   by_cases h6:j<6
   · have:j=0∨j=1∨j=2∨j=3∨j=4∨j=5:=by omega
     rcases this with rfl|rfl|rfl|rfl|rfl|rfl<;>rfl
   · have e:(c.toNat == j - 6)=false:=by rw [beq_eq_false_iff_ne];omega
     rw [used_append,e,Bool.or_false]
theorem rootF_map (l:List UInt8) (ts:Int) (k:Nat):rootF l ts (6+k)=u8v (usedB l k):=by
 unfold rootF
 rw [if_neg (by omega),if_neg (by omega),if_neg (by omega),if_neg (by omega),if_neg (by omega),if_neg (by omega),Nat.add_sub_cancel_left]
theorem rootF_5 (l:List UInt8) (ts:Int):rootF l ts 5 = .int .i64 ts:=rfl
theorem rootF_sz (l:List UInt8) (ts ts':Int) (j:Nat):upd (rootF l ts) 5 (.int .i64 ts') j=rootF l ts' j:=by
 unfold upd
 by_cases h:j=5
 · subst h;rw [if_pos rfl];rfl
 · rw [if_neg h];unfold rootF;rw [if_neg h,if_neg h]
def mapV (l:List UInt8) (ts x:Nat):Value:=.int .u8 ((if usedB l x=true then cntU l x else ts:Nat):Int)
def mapF (l:List UInt8) (ts k j:Nat):Value:=if j<6 then rootF l ts j else if j - 6<k then mapV l ts (j - 6) else u8v (usedB l (j - 6))
theorem mapF_5 (l:List UInt8) (ts k:Nat):mapF l ts k 5 = .int .i64 (ts:Int):=rfl
theorem mapF_4 (l:List UInt8) (ts k:Nat):mapF l ts k 4 = .slice none 0 0:=rfl
theorem info_node:(Tryz.prog.info? 219).map (fun i=>(i.zero,i.size,i.bytes))=some (some (.pointer none),1,8):=by kernel_rfl
def replF (l:List UInt8) (ts bt:Nat):Nat→Value:=upd (mapF l ts 256) 4 (.slice (some ⟨bt,0,none⟩) ts ts)
theorem replF_1 (l:List UInt8) (ts bt:Nat):replF l ts bt 1 = .int .i64 0:=rfl
theorem replF_4 (l:List UInt8) (ts bt:Nat):replF l ts bt 4 = .slice (some ⟨bt,0,none⟩) ts ts:=rfl
theorem replF_5 (l:List UInt8) (ts bt:Nat):replF l ts bt 5 = .int .i64 (ts:Int):=rfl
theorem replF_map (l:List UInt8) (ts bt x:Nat) (h:x<256):replF l ts bt (6+x)=mapV l ts x:=by
 unfold replF
 rw [upd_ne _ _ (by omega)]
 unfold mapF
 rw [if_neg (by omega),if_pos (by omega),Nat.add_sub_cancel_left]
structure TrieSt (n br bt lo ts:Nat) (U:List UInt8) (kv:List (List UInt8×ByteArray)) (q:Nat) (w W:World):Prop where
 root:BlkF br 262 (replF U ts bt) W
 tab:∃ T,BlkF bt ts T W∧(∀ j (h:j<kv.length),j<q→∀ c t,kv[j].1=c::t→∃ (b:Nat) (p:Int),0<p∧T (cntU U c.toNat) = .pointer (some ⟨b,0,none⟩)∧NodeAt lo b t kv[j].2 p W) ∧
  (∀ x,x<ts→(∀ j (h:j<kv.length),j<q→∀ c t,kv[j].1=c::t→cntU U c.toNat≠x)→T x = .pointer none)
 below:Below n w W
 size:lo≤W.heap.size
theorem NodeAt.mono {lo lo' b:Nat} {t:List UInt8} {v:ByteArray} {p:Int} {W:World} (h:NodeAt lo b t v p W) (hl:lo'≤lo):NodeAt lo' b t v p W:=by
 obtain ⟨h1,h2,h3⟩:=h
 refine ⟨by omega,h2,?_⟩
 rcases h3 with h3|⟨ht,b2,h4,h5⟩
 · exact .inl h3
 · exact .inr ⟨ht,b2,by omega,h5⟩
theorem used_of {kv:List (List UInt8×ByteArray)} {j:Nat} {c:UInt8} {t:List UInt8} (h:j<kv.length) (e:kv[j].1=c::t):usedB (keysU kv kv.length) c.toNat=true:=by
 unfold usedB keysU
 rw [List.take_length,List.any_eq_true]
 exact ⟨c,List.mem_flatMap.2 ⟨kv[j],List.getElem_mem h,by rw [e];simp⟩,by simp⟩
theorem cnt_inj {l:List UInt8} {x y:Nat} (hx:usedB l x=true) (hy:usedB l y=true) (h:x≠y):cntU l x≠cntU l y:=by
 rcases Nat.lt_or_gt_of_ne h with h|h
 · have:=cnt_lt l hx h;omega
 · have:=cnt_lt l hy h;omega
def Heads (kv:List (List UInt8×ByteArray)):Prop:=(∀ x∈kv,x.1≠[])∧∀ i j (hi:i<kv.length) (hj:j<kv.length),i≠j→kv[i].1.head? ≠ kv[j].1.head?
theorem Heads.ne {kv:List (List UInt8×ByteArray)} (h:Heads kv) {i j:Nat} (hi:i<kv.length) (hj:j<kv.length) (hne:i≠j) {c d:UInt8} {t u:List UInt8} (e:kv[i].1=c::t) (f:kv[j].1=d::u):c.toNat≠d.toNat:=by
 intro he
 have:=h.2 i j hi hj hne
 rw [e,f] at this
 exact this (by rw [UInt8.toNat_inj.1 he];rfl)
theorem TrieSt.fresh {n br bt lo ts q:Nat} {kv:List (List UInt8×ByteArray)} {w W:World} (h:TrieSt n br bt lo ts (keysU kv kv.length) kv q w W) (hh:Heads kv) (hq:q<kv.length) {c:UInt8} {t:List UInt8} (e:kv[q].1=c::t)
  {T:Nat→Value} (hE:∀ x,x<ts→(∀ j (h:j<kv.length),j<q→∀ c t,kv[j].1=c::t→cntU (keysU kv kv.length) c.toNat≠x)→T x = .pointer none) (hm:cntU (keysU kv kv.length) c.toNat<ts):T (cntU (keysU kv kv.length) c.toNat) = .pointer none :=
 hE _ hm fun j hj hjq d u f=>cnt_inj (used_of hj f) (used_of hq e) (hh.ne hj hq (by omega) f e)
theorem TrieSt.next {n br bt lo ts q b:Nat} {kv:List (List UInt8×ByteArray)} {w W W':World} {p:Int} (h:TrieSt n br bt lo ts (keysU kv kv.length) kv q w W) (hh:Heads kv) (hq:q<kv.length) {c:UInt8} {t:List UInt8} (e:kv[q].1=c::t)
  {T:Nat→Value} (hN:∀ j (h:j<kv.length),j<q→∀ c t,kv[j].1=c::t→∃ (b:Nat) (p:Int),0<p∧T (cntU (keysU kv kv.length) c.toNat) = .pointer (some ⟨b,0,none⟩)∧NodeAt lo b t kv[j].2 p W)
  (hE:∀ x,x<ts→(∀ j (h:j<kv.length),j<q→∀ c t,kv[j].1=c::t→cntU (keysU kv kv.length) c.toNat≠x)→T x = .pointer none) (hp:0<p) (hbt:bt<lo) (hbr:br<W.heap.size) (hne:br≠bt)
  (hT':BlkF bt ts (upd T (cntU (keysU kv kv.length) c.toNat) (.pointer (some ⟨b,0,none⟩))) W') (hB:NodeAt W.heap.size b t kv[q].2 p W') (hU:But n bt W W'):TrieSt n br bt lo ts (keysU kv kv.length) kv (q+1) w W':=by
 refine ⟨hU.blkF h.root hbr hne,⟨_,hT',?_,?_⟩,h.below.trans hU.below,Nat.le_trans h.size hU.below.size⟩
 · intro j hj hjq d u f
   by_cases hjq':j=q
   · subst hjq'
     rw [e] at f
     obtain ⟨rfl,rfl⟩:=List.cons.inj f
     exact ⟨b,p,hp,upd_same _ _ _,hB.mono h.size⟩
   · obtain ⟨b',p',h1,h2,h3⟩:=hN j hj (by omega) d u f
     exact ⟨b',p',h1,by rw [upd_ne _ _ (cnt_inj (used_of hj f) (used_of hq e) (hh.ne hj hq hjq' f e))];exact h2,h3.but hU hbt⟩
 · intro x hx hxe
   have hxm:x≠cntU (keysU kv kv.length) c.toNat:=fun e'=>hxe q hq (by omega) c t e e'.symm
   rw [upd_ne _ _ hxm]
   exact hE x hx fun j hj hjq=>hxe j hj (by omega)
theorem made_at (n j:Nat) (h:j<n):(madeCells #[Value.pointer none] n)[j]? = some (.pointer none):=by
 unfold madeCells
 rw [Array.getElem?_map,Array.getElem?_range,if_pos h]
 simp [Nat.mod_one]
theorem mapF_zero (l:List UInt8) (ts j:Nat):rootF l ts j=mapF l ts 0 j:=by
 unfold mapF
 by_cases h:j<6
 · rw [if_pos h]
 · rw [if_neg h,if_neg (by omega)]
   obtain ⟨k,rfl⟩:∃ k,j=6+k:=⟨j - 6,by omega⟩
   rw [rootF_map,Nat.add_sub_cancel_left]
theorem mapF_step (l:List UInt8) (ts k j:Nat):upd (mapF l ts k) (6+k) (mapV l ts k) j=mapF l ts (k+1) j:=by
 by_cases h:j=6+k
 · subst h
   rw [upd_same]
   unfold mapF
   rw [if_neg (by omega),if_pos (by omega),Nat.add_sub_cancel_left]
 · rw [upd_ne _ _ h]
   unfold mapF
   by_cases h6:j<6
   · rw [if_pos h6,if_pos h6]
   · rw [if_neg h6,if_neg h6]
     by_cases hk:j - 6<k
     · rw [if_pos hk,if_pos (by omega)]
     · rw [if_neg hk,if_neg (by omega)]
section
variable {P : Program}
theorem wpList_load_by {ops:Array Oper} {rest:List Oper} {o:Oper} {a:Act} {w:World} {Q:Exit→Act→World→Prop} (hgd:o.guard=none) (ty:TypeId) (x:Operand) (ho:o.op = .load ty x)
  (adr:Addr) (v:Value) (hx:a.eval x = .pointer (some adr)) (hrun:(loadVar ty adr).run P w = .ok v w) (h:wpList P ops Q rest (a.put o.dst v) w):wpList P ops Q (o::rest) a w :=
 wpList_plain hgd fun _ hK=>by
  unfold Oper.wp execOp
  simp only [ho,hx,Instr.loadAt,Instr.sureAddr,Sem.run_bind,Sem.run_pure,Result.andThen_ok,hrun]
  exact hK _ _ h
end
def arrF (f:Nat→Value) (o:Nat):Array Value:=Array.ofFn (n:=256) fun i=>f (o+i.val)
theorem arrF_at (f:Nat→Value) (o j:Nat) (h:j<256):(arrF f o)[j]? = some (f (o+j)):=by
 unfold arrF;rw [Array.getElem?_ofFn,dif_pos h]
theorem load256 {b n o:Nat} {f:Nat→Value} {W:World} (h:BlkF b n f W) (ho:o+256≤n):(loadVar 174 ⟨b,o,none⟩).run Tryz.prog W = .ok (.agg (arrF f o)) W:=by
 have hl:(loadCells ⟨b,o,none⟩ (arrF f o).toList.length).run Tryz.prog W = .ok (arrF f o).toList.toArray W :=
  run_loadCells_list (P:=Tryz.prog) W ⟨b,o,none⟩ (arrF f o).toList (fun j v hv=>by
   have hadd:(⟨b,o,none⟩:Addr).add j=⟨b,o+j,none⟩:=by unfold Addr.add;split<;>simp_all
   have hj:j<256:=by
    rcases Nat.lt_or_ge j 256 with h'|h'
    · exact h'
    · rw [List.getElem?_eq_none (by unfold arrF;rw [Array.length_toList,Array.size_ofFn];exact h')] at hv;cases hv
   rw [Array.getElem?_toList,arrF_at f o j hj] at hv
   rw [hadd,h.cell (o+j) (by omega),← hv])
 have hagg:(isAgg 174).run Tryz.prog W = .ok true W:=by
  unfold isAgg
  rw [Sem.run_bind,run_underlying Tryz.underlying174 W]
  rfl
 obtain ⟨i,hi⟩:=info_of_underlying (P:=Tryz.prog) Tryz.underlying174
 have hc:Tryz.prog.cellsOf 174=256:=by kernel_rfl
 have hsz:=run_sizeOf (P:=Tryz.prog) W hi
 rw [hc] at hsz
 have hlen:(arrF f o).toList.length=256:=by unfold arrF;rw [Array.length_toList,Array.size_ofFn]
 rw [hlen] at hl
 unfold loadVar
 rw [Sem.run_bind,hagg]
 simp only [Result.andThen_ok,if_true,Sem.run_bind,hsz,hl,Sem.run_pure,Array.toArray_toList]
theorem index256 {f:Nat→Value} {o j:Nat} (h:j<256) (W:World):(Instr.index 174 (.agg (arrF f o)) (.int .i64 (j:Int))).run Tryz.prog W = .ok (f (o+j)) W:=by
 obtain ⟨i,hi⟩:=info_of_underlying (P:=Tryz.prog) Tryz.underlying5
 exact run_index_agg (j:=j) Tryz.underlying174 hi (by kernel_rfl) (by kernel_rfl) h (arrF_at f o j h)
def Made (kv:List (List UInt8×ByteArray)) (w w':World):Prop := ∃ bt ts,ts=cntU (keysU kv kv.length) 256∧ts≤200∧w.heap.size<bt∧TrieSt w.heap.size w.heap.size bt (bt+1) ts (keysU kv kv.length) kv kv.length w w'
set_option maxRecDepth 100000 in
set_option maxHeartbeats 16000000 in
theorem make_gen (bo cap:Nat) (kv:List (List UInt8×ByteArray)) (w:World) (hn:kv.length≤100) (hts200:cntU (keysU kv kv.length) 256≤200) (hk:∀ x∈kv,x.1.length≤1000) (hh:Heads kv)
  (ho:BlkF bo (2*kv.length) (strV (flatKV kv)) w) (hbo:bo<w.heap.size) :
  Calls Tryz.prog 147 #[.slice (some ⟨bo,0,none⟩) (2*kv.length) cap] w fun e w'=>e = .returned (.pointer (some ⟨w.heap.size,0,none⟩))∧Made kv w w':=by
 have hz:=zero82_is
 have HO:=Lib.hid ho
 have HBO:=Lib.hid hbo
 have hR0:BlkF w.heap.size 262 (rootF [] 0) (w.alloc (.cells zero82 224)) :=
  ⟨fun j hj=>(World.cell?_alloc_at _ _ _ j rfl).trans (zero82_at j hj),fun j=>World.frozen?_alloc_at _ _ _ j rfl⟩
 have HR0:=Lib.hid hR0
 have HB0:=Lib.hid (Below.alloc (Below.refl w.heap.size w) (Nat.le_refl _) (.cells zero82 224))
 clear ho hbo hR0
 go_enter Tryz.func147,Tryz.ntmps147
 go_upto_block 0 with fail
 clear hz
 go_cut [] (fun wx=>Hid (BlkF w.heap.size 262 (rootF (keysU kv kv.length) 0) wx)∧Hid (Below w.heap.size w wx))
 case first =>
  go_wp2_with fail
  go_loopw [4] (fun i wr => ∃ q:Nat,q≤kv.length∧i = .int .i64 (2*(q:Int))∧Hid (BlkF w.heap.size 262 (rootF (keysU kv q) 0) wr)∧Hid (Below w.heap.size w wr)) (fun i _=>2*kv.length - (intOf i).toNat)
  case atStart=>exact ⟨0,Nat.zero_le _,rfl,HR0,HB0⟩
  case round =>
   obtain ⟨q,hq,rfl,HR,HB⟩:=hrel
   by_cases hlt:q<kv.length
   · have hks:=hk _ (List.getElem_mem hlt)
     have hkey:=(HO.out.below HB.out HBO.out).cell (2*q) (by omega)
     rw [strV_at (flatKV_key kv q hlt)] at hkey
     have hsucc:=keysU_succ kv q hlt
     obtain ⟨key,hkey'⟩:∃ k,kv[q].1=k:=⟨_,rfl⟩
     rw [hkey'] at hks hkey hsucc
     obtain ⟨K,hK⟩:∃ K,B key=K:=⟨_,rfl⟩
     rw [hK] at hkey
     have hKs:K.size=key.length:=by rw [← hK];simp
     have hKz:K.size≤1000:=by omega
     have HK:=Lib.hid hK
     have HKS:=Lib.hid hKs
     have HS:=Lib.hid hsucc
     clear hkey' hK hKs hsucc hks
     go_wp2_with fail
     clear hkey
     go_loopw [6] (fun i wr => ∃ k:Nat,k≤K.size∧i = .int .i64 (k:Int)∧Hid (BlkF w.heap.size 262 (rootF (keysU kv q++key.take k) 0) wr)∧Hid (Below w.heap.size w wr)) (fun i _=>K.size - (intOf i).toNat)
     case atStart=>exact ⟨0,Nat.zero_le _,rfl,Lib.hid (by rw [List.take_zero,List.append_nil];exact HR.out),HB⟩
     case round =>
      clear HR HB
      obtain ⟨k,hk',rfl,HR,HB⟩:=hrel
      by_cases hlk:k<K.size
      · have hb0:(0:Int)≤(K[k].toNat:Int):=by omega
        have hb1:(K[k].toNat:Int)<256:=by have:=K[k].toNat_lt;omega
        have hb2:K[k].toNat<256:=by have:=K[k].toNat_lt;omega
        have hc:=HR.out.cell (6+K[k].toNat) (by omega)
        have hf:=HR.out.open_
        have htk:key.take (k+1)=key.take k++[K[k]]:=by
         have hk2:k<key.length:=by rw [← HKS.out];exact hlk
         have e:K[k]=key[k]:=by
          have h:=HK.out
          subst h
          rfl
         rw [List.take_succ_eq_append_getElem hk2,e]
        have hstep:∀ W,BlkF w.heap.size 262 (rootF (keysU kv q++key.take k) 0) W→Below w.heap.size w W→BlkF w.heap.size 262 (rootF (keysU kv q++key.take (k+1)) 0) (W.setCell ⟨w.heap.size,6+K[k].toNat,none⟩ (.int .u8 1))∧Below w.heap.size w (W.setCell ⟨w.heap.size,6+K[k].toNat,none⟩ (.int .u8 1)):=by
         intro W h hb
         rw [htk,← List.append_assoc]
         exact ⟨(h.set _ _ (by omega)).congr fun j _=>rootF_mark _ _ _ j,hb.setCell (Nat.le_refl _) _⟩
        have HST:=Lib.hid hstep
        clear hstep htk
        go_wp2_with fail
        go_still_tail 7,(by kernel_rfl)
        change wpList _ _ _ _ _ wr.drew
        have hd:Below (w.heap.size+1) wr wr.drew:=Below.drew (Below.refl _ _)
        have HR2:=Lib.hid (HR.out.below hd (by omega))
        have HB2:=Lib.hid (HB.out.drew)
        have hc2:=HR2.out.cell (6+K[k].toNat) (by omega)
        have hf2:=HR2.out.open_
        clear hd hc hf
        generalize wr.drew=W2 at HR2 HB2 hc2 hf2 ⊢
        go_wp2_with fail
        go_roundw
        case rel=>exact ⟨k+1,by omega,by go_num,Lib.hid (HST.out _ HR2.out HB2.out).1,Lib.hid (HST.out _ HR2.out HB2.out).2⟩
        case measure=>simp [intOf];omega
      · obtain rfl:k=K.size:=by omega
        have HR3:Hid (BlkF w.heap.size 262 (rootF (keysU kv (q+1)) 0) wr):=Lib.hid (by
         have h:=HR.out
         rw [HKS.out,List.take_length] at h
         rw [HS.out];exact h)
        clear HR
        go_wp2_with fail
        go_roundw
        case rel=>exact ⟨q+1,by omega,by go_num,HR3,HB⟩
        case measure=>simp [intOf];omega
   · obtain rfl:q=kv.length:=by omega
     go_wp2_with fail
     go_meet
     case rel=>exact ⟨HR,HB⟩
 case rest =>
  clear HR0 HB0
  obtain ⟨HR,HB⟩:=hcut
  obtain ⟨U,hU⟩:∃ U,keysU kv kv.length=U:=⟨_,rfl⟩
  rw [hU] at HR
  have HL:=Lib.hid (load256 (o:=6) HR.out (by omega))
  have HU:=Lib.hid hU
  clear hU
  go_upto_block 4 with (with_reducible refine wpList_load_by rfl 174 (.tmp 39) rfl ⟨w.heap.size,6,none⟩ _ rfl HL.out ?_)
  clear HL
  go_cut [] (fun wx=>Hid (BlkF w.heap.size 262 (rootF U (cntU U 256)) wx)∧Hid (Below w.heap.size w wx))
  case first =>
   go_wp2_with fail
   go_loopw [41] (fun i wr => ∃ k:Nat,k≤256∧i = .int .i64 (k:Int)∧Hid (BlkF w.heap.size 262 (rootF U (cntU U k)) wr)∧Hid (Below w.heap.size w wr)) (fun i _=>256 - (intOf i).toNat)
   case atStart=>exact ⟨0,Nat.zero_le _,rfl,HR,HB⟩
   case round =>
    clear HR HB
    obtain ⟨k,hk',rfl,HR,HB⟩:=hrel
    by_cases hlk:k<256
    · have hix:=index256 (f:=rootF U 0) (o:=6) hlk
      rw [rootF_map U 0 k] at hix
      have hcl:=cnt_le U k
      have h5:=HR.out.cell 5 (by omega)
      rw [rootF_5] at h5
      have hf:=HR.out.open_
      have hstep:∀ x:Nat,x=cntU U (k+1)→Hid (BlkF w.heap.size 262 (rootF U (cntU U (k+1))) (wr.setCell ⟨w.heap.size,5,none⟩ (.int .i64 (x:Int))))∧Hid (Below w.heap.size w (wr.setCell ⟨w.heap.size,5,none⟩ (.int .i64 (x:Int)))):=by
       rintro x rfl
       exact ⟨Lib.hid ((HR.out.set 5 _ (by omega)).congr fun j _=>rootF_sz U _ _ j),Lib.hid (HB.out.setCell (Nat.le_refl _) _)⟩
      have HST:=Lib.hid hstep
      clear hstep
      cases hu:usedB U k with
      | true =>
        rw [hu] at hix
        have hx:cntU U k+1=cntU U (k+1):=by simp [cntU,hu]
        obtain ⟨q,hq⟩:∃ q,cntU U k=q:=⟨_,rfl⟩
        rw [hq] at hcl h5 hx
        have HX:=Lib.hid hx
        unfold u8v at hix
        clear hu hx hq HR
        go_wp2_with fail
        go_roundw
        case rel=>exact ⟨k+1,by omega,by go_num,by exact (HST.out (q+1) HX.out).1,(HST.out (q+1) HX.out).2⟩
        case measure=>simp [intOf];omega
      | false =>
        rw [hu] at hix
        have hx:cntU U k=cntU U (k+1):=by simp [cntU,hu]
        obtain ⟨q,hq⟩:∃ q,cntU U k=q:=⟨_,rfl⟩
        rw [hq] at hcl h5 hx
        have HX:=Lib.hid hx
        unfold u8v at hix
        clear hu hx hq HR
        go_wp2_with fail
        go_roundw
        case rel=>exact ⟨k+1,by omega,by go_num,by exact (HST.out q HX.out).1,(HST.out q HX.out).2⟩
        case measure=>simp [intOf];omega
    · obtain rfl:k=256:=by omega
      go_wp2_with fail
      go_meet
      case rel=>exact ⟨HR,HB⟩
  case rest =>
   clear HR HB
   obtain ⟨HR,HB⟩:=hcut
   obtain ⟨ts,hts⟩:∃ ts,cntU U 256=ts:=⟨_,rfl⟩
   have hsm:=hts200
   rw [HU.out,hts] at hsm
   rw [hts] at HR
   have HTS:=Lib.hid hts
   clear hts
   have HL:=Lib.hid (load256 (o:=6) HR.out (by omega))
   go_upto_block 6 with (with_reducible refine wpList_load_by rfl 174 (.tmp 56) rfl ⟨w.heap.size,6,none⟩ _ rfl HL.out ?_)
   clear HL
   go_cut [] (fun wx=>Hid (BlkF w.heap.size 262 (mapF U ts 256) wx)∧Hid (Below w.heap.size w wx))
   case first =>
    go_wp2_with fail
    go_loopw [9,58] (fun x i wr => ∃ k:Nat,k≤256∧x = .int .u8 (cntU U k:Int)∧i = .int .i64 (k:Int)∧Hid (BlkF w.heap.size 262 (mapF U ts k) wr)∧Hid (Below w.heap.size w wr)) (fun _ i _=>256 - (intOf i).toNat)
    case atStart=>exact ⟨0,Nat.zero_le _,rfl,rfl,Lib.hid (HR.out.congr fun j _=>mapF_zero U ts j),HB⟩
    case round =>
     clear HR HB
     obtain ⟨k,hk',rfl,rfl,HR,HB⟩:=hrel
     by_cases hlk:k<256
     · have hix:=index256 (f:=rootF U ts) (o:=6) hlk
       rw [rootF_map U ts k] at hix
       have hcl:cntU U k≤200:=by
        have:=cnt_mono U (show k≤256 from hk')
        rw [HTS.out] at this
        omega
       have hstep:∀ W,Hid (BlkF w.heap.size 262 (mapF U ts k) W)→Hid (Below w.heap.size w W)→Hid (BlkF w.heap.size 262 (mapF U ts (k+1)) (W.setCell ⟨w.heap.size,6+k,none⟩ (mapV U ts k)))∧Hid (Below w.heap.size w (W.setCell ⟨w.heap.size,6+k,none⟩ (mapV U ts k))) :=
        fun W h hb=>⟨Lib.hid ((h.out.set _ _ (by omega)).congr fun j _=>mapF_step U ts k j),Lib.hid (hb.out.setCell (Nat.le_refl _) _)⟩
       have hk0:(0:Int)≤(k:Int):=by omega
       have hk1:(k:Int)<256:=by omega
       have ht1:(ts:Int)<256:=by omega
       cases hu:usedB U k with
       | false =>
         rw [hu] at hix
         have hx:cntU U k=cntU U (k+1):=by simp [cntU,hu]
         have hm:mapV U ts k = .int .u8 (ts:Int):=by simp [mapV,hu]
         rw [hm] at hstep
         have HST:=Lib.hid hstep
         obtain ⟨q,hq⟩:∃ q,cntU U k=q:=⟨_,rfl⟩
         rw [hq] at hcl hx ⊢
         have HX:=Lib.hid hx
         unfold u8v at hix
         clear hu hx hq hm hstep
         have h5:=HR.out.cell 5 (by omega)
         rw [mapF_5] at h5
         go_wp2_with fail
         go_still_tail 10,(by kernel_rfl)
         change wpList _ _ _ _ _ wr.drew
         have hd:Below (w.heap.size+1) wr wr.drew:=Below.drew (Below.refl _ _)
         have HR2:=Lib.hid (HR.out.below hd (by omega))
         have HB2:=Lib.hid (HB.out.drew)
         have hc2:=HR2.out.cell (6+k) (by omega)
         have hf2:=HR2.out.open_
         clear hd h5
         generalize wr.drew=W2 at HR2 HB2 hc2 hf2 ⊢
         go_wp2_with fail
         go_roundw
         case rel=>exact ⟨k+1,by omega,by rw [HX.out],by go_num,(HST.out _ HR2 HB2).1,(HST.out _ HR2 HB2).2⟩
         case measure=>simp [intOf];omega
       | true =>
         rw [hu] at hix
         have hx:cntU U k+1=cntU U (k+1):=by simp [cntU,hu]
         have hm:mapV U ts k = .int .u8 (cntU U k:Int):=by simp [mapV,hu]
         rw [hm] at hstep
         have HST:=Lib.hid hstep
         have hc:=HR.out.cell (6+k) (by omega)
         have hf:=HR.out.open_
         obtain ⟨q,hq⟩:∃ q,cntU U k=q:=⟨_,rfl⟩
         rw [hq] at hcl hx HST ⊢
         have HX:=Lib.hid hx
         unfold u8v at hix
         clear hu hx hq hm hstep
         go_wp2_with fail
         go_roundw
         case rel=>exact ⟨k+1,by omega,by rw [← HX.out];go_num,by go_num,(HST.out _ HR HB).1,(HST.out _ HR HB).2⟩
         case measure=>simp [intOf];omega
     · obtain rfl:k=256:=by omega
       go_wp2_with fail
       go_meet
       case rel=>exact ⟨HR,HB⟩
   case rest =>
    clear HR HB
    obtain ⟨HR,HB⟩:=hcut
    have h5:=HR.out.cell 5 (by omega)
    rw [mapF_5] at h5
    have h4:=HR.out.cell 4 (by omega)
    rw [mapF_4] at h4
    have hf:=HR.out.open_
    have ht0:(0:Int)≤(ts:Int):=by omega
    have hmk:=run_make_row' (P:=Tryz.prog) 220 219 (.pointer none) 8 Tryz.underlying220 info_node rfl .i64 .i64 ts (by omega) (by omega) wc
    have hbr:=World.block_lt_of_cell? wc _ h4
    have h4':(wc.alloc (.cells (madeCells #[.pointer none] ts) 219)).cell? ⟨w.heap.size,4,none⟩=some (.slice none 0 0):=by
     rw [World.cell?_alloc_past _ _ _ hbr];exact h4
    have hf':∀ j,(wc.alloc (.cells (madeCells #[.pointer none] ts) 219)).frozen? ⟨w.heap.size,j,none⟩=false:=fun j=>by
     rw [World.frozen?_alloc_past _ _ _ hbr];exact hf j
    have hS:TrieSt w.heap.size w.heap.size wc.heap.size (wc.heap.size+1) ts (keysU kv kv.length) kv 0 w ((wc.alloc (.cells (madeCells #[.pointer none] ts) 219)).setCell ⟨w.heap.size,4,none⟩ (.slice (some ⟨wc.heap.size,0,none⟩) ts ts)):=by
     have hba:Below wc.heap.size wc (wc.alloc (.cells (madeCells #[.pointer none] ts) 219)):=Below.alloc (Below.refl _ _) (Nat.le_refl _) _
     refine ⟨?_,⟨fun _ => .pointer none,?_,fun j _ h=>absurd h (Nat.not_lt_zero _),fun _ _ _=>rfl⟩,?_,by simp⟩
     · rw [HU.out]
       exact (HR.out.below hba hbr).set 4 _ (by omega)
     · refine BlkF.other ?_ 4 _ (Nat.ne_of_lt hbr)
       exact ⟨fun j hj=>(World.cell?_alloc_at _ _ _ j rfl).trans (made_at ts j hj),fun j=>World.frozen?_alloc_at _ _ _ j rfl⟩
     · exact (HB.out.trans (hba.mono HB.out.size)).setCell (Nat.le_refl _) _
    have HS:=Lib.hid hS
    have HBR:=Lib.hid hbr
    clear hS HR hf hbr
    obtain ⟨bt,hbt⟩:∃ b,wc.heap.size=b:=⟨_,rfl⟩
    rw [hbt] at HS HBR hmk
    clear hbt
    go_upto_block 8 with fail
    clear hmk h4' hf' h5 h4
    have hbo2:bo<bt:=Nat.lt_trans HBO.out HBR.out
    have HBO2:=Lib.hid hbo2
    clear hbo2
    go_cut [] (fun wx=>Hid (TrieSt w.heap.size w.heap.size bt (bt+1) ts (keysU kv kv.length) kv kv.length w wx))
    case first =>
     go_wp2_with fail
     go_loopw [12] (fun i wr => ∃ q:Nat,q≤kv.length∧i = .int .i64 (2*(q:Int))∧Hid (TrieSt w.heap.size w.heap.size bt (bt+1) ts (keysU kv kv.length) kv q w wr)) (fun i _=>2*kv.length - (intOf i).toNat)
     case atStart=>exact ⟨0,Nat.zero_le _,rfl,HS⟩
     case round =>
      clear HS
      obtain ⟨q,hq,rfl,HS⟩:=hrel
      by_cases hlt:q<kv.length
      · have hks:=hk _ (List.getElem_mem hlt)
        have hbl:=HO.out.below HS.out.below HBO.out
        have hkey:=hbl.cell (2*q) (by omega)
        have hval:=hbl.cell (2*q+1) (by omega)
        rw [strV_at (flatKV_key kv q hlt)] at hkey
        rw [strV_at (flatKV_val kv q hlt)] at hval
        obtain ⟨c,t,hct⟩:=List.exists_cons_of_ne_nil (hh.1 _ (List.getElem_mem hlt))
        rw [hct] at hks hkey
        obtain ⟨T,hT,hN,hE⟩:=HS.out.tab
        have hm:cntU (keysU kv kv.length) c.toNat<ts:=by
         have h1:=cnt_lt (keysU kv kv.length) (used_of hlt hct) (show c.toNat<256 from c.toNat_lt)
         have h2:=HTS.out
         rw [← HU.out] at h2
         omega
        have hrm:replF (keysU kv kv.length) ts bt (6+c.toNat) = .int .u8 ((cntU (keysU kv kv.length) c.toNat:Nat):Int):=by
         rw [replF_map _ _ _ _ c.toNat_lt]
         simp only [mapV,used_of hlt hct,if_true]
        have hsz:=HS.out.size
        have CA:=fun W (h1:BlkF w.heap.size 262 (replF (keysU kv kv.length) ts bt) W) (h2:BlkF bt ts T W) (h3:bt<W.heap.size) =>
         add_root w.heap.size bt ts w.heap.size (replF (keysU kv kv.length) ts bt) T c t kv[q].2 (2*(kv.length:Int) - 2*(q:Int)) (cntU (keysU kv kv.length) c.toNat) W (by simp at hks;omega) (by omega) h1 h2 hm (Nat.ne_of_lt HBR.out) (Nat.lt_trans HBR.out h3) h3 (Nat.le_of_lt HBR.out) rfl rfl hrm (HS.out.fresh hh hlt hct hE hm)
        have HCA:=Lib.hid CA
        have HT:=Lib.hid hT
        have HN:=Lib.hid hN
        have HE:=Lib.hid hE
        have HCT:=Lib.hid hct
        obtain ⟨K,hK⟩:∃ K,B (c::t)=K:=⟨_,rfl⟩
        obtain ⟨V,hV⟩:∃ V,kv[q].2=V:=⟨_,rfl⟩
        rw [hK] at hkey HCA
        rw [hV] at hval HCA
        have HV:=Lib.hid hV
        clear CA hT hN hE hct hK hV hm hrm hks hbl
        have hi0:(0:Int)≤2*(q:Int):=by omega
        have hi1:2*(q:Int)+1<2*(kv.length:Int):=by omega
        have hi3:2*(q:Int)<2*(kv.length:Int):=by omega
        have hi4:(0:Int)≤2*(q:Int)+1:=by omega
        have hw1:IntKind.i64.wrap (2*(q:Int)+1)=2*(q:Int)+1:=by simp [IntKind.wrap_i64,wrap64];omega
        have hw2:IntKind.i64.wrap (2*(kv.length:Int) - 2*(q:Int))=2*(kv.length:Int) - 2*(q:Int):=by simp [IntKind.wrap_i64,wrap64];omega
        have ht1:(2*(q:Int)).toNat=2*q:=by omega
        have ht2:(2*(q:Int)+1).toNat=2*q+1:=by omega
        go_wp2_with fail
        go_still_tail 17,(by kernel_rfl)
        change wpList _ _ _ _ _ wr.drew
        have hd:Below (bt+1) wr wr.drew:=Below.drew (Below.refl _ _)
        have hrt:=HS.out.root.below hd (Nat.lt_succ_of_lt HBR.out)
        have HT2:=Lib.hid (HT.out.below hd (Nat.lt_succ_self _))
        have HR2:=Lib.hid hrt
        have hdz:bt<wr.drew.heap.size:=hsz
        have HDZ:=Lib.hid hdz
        have HUD:=Lib.hid ((But.refl w.heap.size bt wr).drew HS.out.below.size)
        clear hd hrt hdz hkey hval ht1 ht2 hw1 hw2
        obtain ⟨W2,hW2⟩:∃ W,wr.drew=W:=⟨_,rfl⟩
        have hW2s:W2.heap.size=wr.heap.size:=by rw [← hW2];rfl
        have HW2S:=Lib.hid hW2s
        change wpList _ _ _ _ _ wr.drew
        rw [hW2] at HT2 HR2 HDZ HUD ⊢
        clear hW2 hW2s
        go_wp2_with fail
        refine (HCA.out W2 HR2.out HT2.out HDZ.out).mono ?_
        rintro e w' ⟨rfl,b,hb1,hb2,hb3,hb4,hb5⟩
        have HNX:Hid (TrieSt w.heap.size w.heap.size bt (bt+1) ts (keysU kv kv.length) kv (q+1) w w'):=Lib.hid (by
         have hU:But w.heap.size bt wr w':=⟨HUD.out.below.trans hb5.below,fun b' h1 h2=>by
          have h3:=hb5.same b' (by rw [HW2S.out];exact h1) h2
          have h4:=HUD.out.same b' h1 h2
          exact ⟨fun j=>(h3.1 j).trans (h4.1 j),fun j=>(h3.2 j).trans (h4.2 j)⟩⟩
         rw [← HV.out] at hb4
         refine TrieSt.next HS.out hh hlt HCT.out HN.out HE.out (p:=2*(kv.length:Int) - 2*(q:Int)) (by omega) (Nat.lt_succ_self _) (Nat.lt_trans HBR.out hsz) (Nat.ne_of_lt HBR.out) hb3 ?_ hU
         exact hb4.mono (Nat.le_of_eq HW2S.out.symm))
        clear hb1 hb2 hb3 hb4 hb5
        go_wp2_with fail
        go_roundw
        case rel=>exact ⟨q+1,by omega,by go_num,HNX⟩
        case measure=>simp [intOf];omega
      · obtain rfl:q=kv.length:=by omega
        go_wp2_with fail
        go_meet
        case rel=>exact HS
    case rest =>
     go_wp2_with fail
     go_ret
     exact ⟨rfl,bt,ts,by rw [HU.out];exact HTS.out.symm,hsm,HBR.out,hcut.out⟩
end Go.Proofs.YtcecjoaeolglbaaGreatDoor.Hand
end

section
namespace Go.Proofs.YtcecjoaeolglbaaGreatDoor.Hand
open Go.RowKit Go.Proofs.YtcecjoaeolglbaaGreatDoor.Pb
theorem hasPrefix_t (s p:ByteArray) (w:World):Calls Tryz.prog 38 #[.string s,.string p] w fun e w'=>e = .returned (.bool (Lib.hasPrefix s.data.toList p.data.toList))∧w=w':=by
 refine (Tryz.strings_HasPrefix s p w).mono ?_
 rintro e w' h
 exact ⟨h.1,h.2.symm⟩
set_option maxRecDepth 100000 in
set_option maxHeartbeats 4000000 in
theorem lookup_leaf (br bt ts m b:Nat) (R T:Nat→Value) (a:ByteArray) (v:ByteArray) (p:Int) (w:World) (h0:0<a.size) (hz:a.size≤1000000)
  (hR:BlkF br 262 R w) (hT:BlkF bt ts T w) (hts:ts≤1000) (hm:m<ts) (hp:0<p)
  (r1:R 1 = .int .i64 0) (r4:R 4 = .slice (some ⟨bt,0,none⟩) ts ts) (r5:R 5 = .int .i64 (ts:Int)) (rm:R (6+a[0].toNat) = .int .u8 (m:Int)) (tm:T m = .pointer (some ⟨b,0,none⟩)) (hB:Blk b (nodeV v p) w) :
  Calls Tryz.prog 271 #[.pointer (some ⟨br,0,none⟩),.string a,.bool false] w fun e w'=>e = .returned (.tuple #[.string v,.int .i64 1,.bool true])∧∃ k,w'=w.drewN k:=by
 have c1:=hR.cell 1 (by omega)
 have c4:=hR.cell 4 (by omega)
 have c5:=hR.cell 5 (by omega)
 have cm:=hR.cell (6+a[0].toNat) (by have:=a[0].toNat_lt;omega)
 have tc:=hT.cell m hm
 rw [r1] at c1
 rw [r4] at c4
 rw [r5] at c5
 rw [rm] at cm
 rw [tm] at tc
 have n0:=hB.cell 0 (by simp [nodeV])
 have n1:=hB.cell 1 (by simp [nodeV])
 have n2:=hB.cell 2 (by simp [nodeV])
 have n4:=hB.cell 4 (by simp [nodeV])
 simp only [nodeV,List.getElem?_toArray,List.getElem?_cons_succ,List.getElem?_cons_zero] at n0 n1 n2 n4
 have hk:a.toList.isEmpty=false:=by
  rw [toList_data]
  cases h:a.data.toList with
  | nil=>have:=congrArg List.length h;rw [Array.length_toList] at this;have:a.size=0:=this;omega
  | cons c r=>rfl
 have hk':¬ a.toList=[]:=by simpa using hk
 have hb0:(0:Int)≤(a[0].toNat:Int):=by omega
 have hb1:(a[0].toNat:Int)<256:=by have:=a[0].toNat_lt;omega
 have hb2:a[0].toNat<256:=by have:=a[0].toNat_lt;omega
 have hb4:(1:Int)≤(a.size:Int):=by omega
 have hne:((m:Int) == (ts:Int))=false:=by rw [beq_eq_false_iff_ne];omega
 have hp1:decide ((0:Int)<p)=true:=by simp;omega
 have hm0:(0:Int)≤(m:Int):=by omega
 have hm1:(m:Int)<(ts:Int):=by omega
 obtain ⟨a2,ha2⟩:∃ x,a.extract 1 a.size=x:=⟨_,rfl⟩
 clear r1 r4 r5 rm tm hR hT hB
 go_enter Tryz.func271,Tryz.ntmps271
 go_wp2_with fail
 refine wp_loop_rounds 2 ?_
 rw [rounds_succ]
 go_wp2_with fail
 go_quiet (fail)
 go_wp2_with fail
 rw [rounds_succ]
 go_wp2_with fail
 all_goals
  go_ret3
  exact ⟨rfl,nq,rfl⟩
set_option maxRecDepth 100000 in
set_option maxHeartbeats 4000000 in
theorem lookup_tail (br bt ts m b:Nat) (R T:Nat→Value) (a:ByteArray) (v tl:ByteArray) (p:Int) (w:World) (h0:0<a.size) (hz:a.size≤1000000)
  (hR:BlkF br 262 R w) (hT:BlkF bt ts T w) (hts:ts≤1000) (hm:m<ts) (hp:0<p)
  (r1:R 1 = .int .i64 0) (r4:R 4 = .slice (some ⟨bt,0,none⟩) ts ts) (r5:R 5 = .int .i64 (ts:Int)) (rm:R (6+a[0].toNat) = .int .u8 (m:Int)) (tm:T m = .pointer (some ⟨b,0,none⟩)) (b2:Nat) (htl:¬ tl.toList=[]) (htz:tl.size≤1000) (hB:Blk b (nodeP tl b2) w) (hB2:Blk b2 (nodeV v p) w) (hpre:Lib.hasPrefix (a.extract 1 a.size).data.toList tl.data.toList=true) (hsz:tl.size≤(a.extract 1 a.size).size) :
  Calls Tryz.prog 271 #[.pointer (some ⟨br,0,none⟩),.string a,.bool false] w fun e w'=>e = .returned (.tuple #[.string v,.int .i64 (1+(tl.size:Int)),.bool true])∧∃ k,w'=w.drewN k:=by
 have c1:=hR.cell 1 (by omega)
 have c4:=hR.cell 4 (by omega)
 have c5:=hR.cell 5 (by omega)
 have cm:=hR.cell (6+a[0].toNat) (by have:=a[0].toNat_lt;omega)
 have tc:=hT.cell m hm
 rw [r1] at c1
 rw [r4] at c4
 rw [r5] at c5
 rw [rm] at cm
 rw [tm] at tc
 have n1:=hB.cell 1 (by simp [nodeP])
 have n2:=hB.cell 2 (by simp [nodeP])
 have n3:=hB.cell 3 (by simp [nodeP])
 have n4:=hB.cell 4 (by simp [nodeP])
 simp only [nodeP,List.getElem?_toArray,List.getElem?_cons_succ,List.getElem?_cons_zero] at n1 n2 n3 n4
 have ht1:tl.toList.isEmpty=false:=by simpa using htl
 have g0:=hB2.cell 0 (by simp [nodeV])
 have g1:=hB2.cell 1 (by simp [nodeV])
 have g2:=hB2.cell 2 (by simp [nodeV])
 have g4:=hB2.cell 4 (by simp [nodeV])
 simp only [nodeV,List.getElem?_toArray,List.getElem?_cons_succ,List.getElem?_cons_zero] at g0 g1 g2 g4
 clear hB2
 have hk:a.toList.isEmpty=false:=by
  rw [toList_data]
  cases h:a.data.toList with
  | nil=>have:=congrArg List.length h;rw [Array.length_toList] at this;have:a.size=0:=this;omega
  | cons c r=>rfl
 have hk':¬ a.toList=[]:=by simpa using hk
 have hb0:(0:Int)≤(a[0].toNat:Int):=by omega
 have hb1:(a[0].toNat:Int)<256:=by have:=a[0].toNat_lt;omega
 have hb2:a[0].toNat<256:=by have:=a[0].toNat_lt;omega
 have hb4:(1:Int)≤(a.size:Int):=by omega
 have hne:((m:Int) == (ts:Int))=false:=by rw [beq_eq_false_iff_ne];omega
 have hp1:decide ((0:Int)<p)=true:=by simp;omega
 have hm0:(0:Int)≤(m:Int):=by omega
 have hm1:(m:Int)<(ts:Int):=by omega
 obtain ⟨a2,ha2⟩:∃ x,a.extract 1 a.size=x:=⟨_,rfl⟩
 clear r1 r4 r5 rm tm hR hT hB
 go_enter Tryz.func271,Tryz.ntmps271
 go_wp2_with fail
 rw [ha2] at hpre hsz
 have HP:=Lib.hid (hasPrefix_t a2 tl)
 have ht3:0<tl.size:=by
  rw [toList_data] at htl
  rcases Nat.eq_zero_or_pos tl.size with h|h
  · exact absurd (List.eq_nil_of_length_eq_zero (by rw [Array.length_toList];exact h)) htl
  · exact h
 have ha3:a2.toList.isEmpty=false:=by
  rw [toList_data]
  cases h:a2.data.toList with
  | nil=>have:=congrArg List.length h;rw [Array.length_toList] at this;have:a2.size=0:=this;omega
  | cons c r=>rfl
 have ha4:¬ a2.toList=[]:=by simpa using ha3
 have hsz1:(tl.size:Int)≤(a2.size:Int):=by omega
 have ha2z:a2.size≤1000000:=by rw [← ha2,ByteArray.size_extract];omega
 rw [hpre] at HP
 clear hpre ht3
 refine wp_loop_rounds 3 ?_
 rw [rounds_succ]
 go_wp2_with fail
 go_quiet (fail)
 go_wp2_with fail
 rw [rounds_succ]
 go_wp2_with fail
 refine (HP.out _).mono ?_
 rintro e w' ⟨rfl,rfl⟩
 go_wp2_with fail
 rw [rounds_succ]
 go_wp2_with fail
 all_goals
  go_ret3
  exact ⟨rfl,nq,rfl⟩
set_option maxRecDepth 100000 in
set_option maxHeartbeats 4000000 in
theorem lookup_miss (br bt ts m b:Nat) (R T:Nat→Value) (a:ByteArray) (v tl:ByteArray) (p:Int) (w:World) (h0:0<a.size) (hz:a.size≤1000000)
  (hR:BlkF br 262 R w) (hT:BlkF bt ts T w) (hts:ts≤1000) (hm:m<ts) (hp:0<p)
  (r1:R 1 = .int .i64 0) (r4:R 4 = .slice (some ⟨bt,0,none⟩) ts ts) (r5:R 5 = .int .i64 (ts:Int)) (rm:R (6+a[0].toNat) = .int .u8 (m:Int)) (tm:T m = .pointer (some ⟨b,0,none⟩)) (b2:Nat) (htl:¬ tl.toList=[]) (htz:tl.size≤1000) (hB:Blk b (nodeP tl b2) w) (hpre:Lib.hasPrefix (a.extract 1 a.size).data.toList tl.data.toList=false) :
  Calls Tryz.prog 271 #[.pointer (some ⟨br,0,none⟩),.string a,.bool false] w fun e w'=>e = .returned (.tuple #[.string ⟨#[]⟩,.int .i64 0,.bool false])∧∃ k,w'=w.drewN k:=by
 have c1:=hR.cell 1 (by omega)
 have c4:=hR.cell 4 (by omega)
 have c5:=hR.cell 5 (by omega)
 have cm:=hR.cell (6+a[0].toNat) (by have:=a[0].toNat_lt;omega)
 have tc:=hT.cell m hm
 rw [r1] at c1
 rw [r4] at c4
 rw [r5] at c5
 rw [rm] at cm
 rw [tm] at tc
 have n1:=hB.cell 1 (by simp [nodeP])
 have n2:=hB.cell 2 (by simp [nodeP])
 have n3:=hB.cell 3 (by simp [nodeP])
 have n4:=hB.cell 4 (by simp [nodeP])
 simp only [nodeP,List.getElem?_toArray,List.getElem?_cons_succ,List.getElem?_cons_zero] at n1 n2 n3 n4
 have ht1:tl.toList.isEmpty=false:=by simpa using htl
 have hk:a.toList.isEmpty=false:=by
  rw [toList_data]
  cases h:a.data.toList with
  | nil=>have:=congrArg List.length h;rw [Array.length_toList] at this;have:a.size=0:=this;omega
  | cons c r=>rfl
 have hk':¬ a.toList=[]:=by simpa using hk
 have hb0:(0:Int)≤(a[0].toNat:Int):=by omega
 have hb1:(a[0].toNat:Int)<256:=by have:=a[0].toNat_lt;omega
 have hb2:a[0].toNat<256:=by have:=a[0].toNat_lt;omega
 have hb4:(1:Int)≤(a.size:Int):=by omega
 have hne:((m:Int) == (ts:Int))=false:=by rw [beq_eq_false_iff_ne];omega
 have hp1:decide ((0:Int)<p)=true:=by simp;omega
 have hm0:(0:Int)≤(m:Int):=by omega
 have hm1:(m:Int)<(ts:Int):=by omega
 obtain ⟨a2,ha2⟩:∃ x,a.extract 1 a.size=x:=⟨_,rfl⟩
 clear r1 r4 r5 rm tm hR hT hB
 go_enter Tryz.func271,Tryz.ntmps271
 go_wp2_with fail
 rw [ha2] at hpre
 have HP:=Lib.hid (hasPrefix_t a2 tl)
 rw [hpre] at HP
 clear hpre
 by_cases ha3:a2.toList=[]
 · have ha4:a2.toList.isEmpty=true:=by simpa using ha3
   refine wp_loop_rounds 2 ?_
   rw [rounds_succ]
   go_wp2_with fail
   go_quiet (fail)
   go_wp2_with fail
   rw [rounds_succ]
   go_wp2_with fail
   go_ret3
   exact ⟨rfl,nq,rfl⟩
 · have ha4:a2.toList.isEmpty=false:=by simpa using ha3
   refine wp_loop_rounds 2 ?_
   rw [rounds_succ]
   go_wp2_with fail
   go_quiet (fail)
   go_wp2_with fail
   rw [rounds_succ]
   go_wp2_with fail
   refine (HP.out _).mono ?_
   rintro e w' ⟨rfl,rfl⟩
   go_wp2_with fail
   go_ret3
   exact ⟨rfl,nq,rfl⟩
set_option maxRecDepth 100000 in
set_option maxHeartbeats 4000000 in
theorem lookup_end (br:Nat) (R:Nat→Value) (w:World) (hR:BlkF br 262 R w) (r1:R 1 = .int .i64 0) :
  Calls Tryz.prog 271 #[.pointer (some ⟨br,0,none⟩),.string ⟨#[]⟩,.bool false] w fun e w'=>e = .returned (.tuple #[.string ⟨#[]⟩,.int .i64 0,.bool false])∧∃ k,w'=w.drewN k:=by
 have c1:=hR.cell 1 (by omega)
 rw [r1] at c1
 clear r1 hR
 go_enter Tryz.func271,Tryz.ntmps271
 go_wp2_with fail
 refine wp_loop_rounds 1 ?_
 rw [rounds_succ]
 go_wp2_with fail
 go_ret3
 exact ⟨rfl,0,rfl⟩
end Go.Proofs.YtcecjoaeolglbaaGreatDoor.Hand
end

section
namespace Go.Proofs.YtcecjoaeolglbaaGreatDoor.Hand
open Go.RowKit Go.Proofs.YtcecjoaeolglbaaGreatDoor.Pb
structure Buf (bb lo:Nat) (acc:List UInt8) (W:World):Prop where
 val:∃ v,W.heap[bb]? = some (.cells #[v] 294 (0,0))∧W.ownsRow lo 5 1 v acc.length (Lib.byteCells acc)
 le:lo≤bb
theorem heap_lt {W:World} {b:Nat} {o:Obj} (h:W.heap[b]? = some o):b<W.heap.size:=by
 rcases Nat.lt_or_ge b W.heap.size with h'|h'
 · exact h'
 · rw [Array.getElem?_eq_none h'] at h;cases h
theorem own_ne {W:World} {bb lo n:Nat} {u v:Value} {xs:List Value} (hb:W.heap[bb]? = some (.cells #[u] 294 (0,0))) (h:W.ownsRow lo 5 1 v n xs):some bb≠v.ownBlock:=by
 rcases h.2 with ⟨rfl,_⟩|⟨g,cap,cur,rfl,_,hg,_⟩
 · simp [Value.ownBlock]
 · intro e
   have e2:bb=g:=by simpa [Value.ownBlock] using e
   subst e2
   rw [hb] at hg
   simp at hg
theorem own_set {W:World} {bb lo n:Nat} {u v:Value} {xs:List Value} (h:W.ownsRow lo 5 1 v n xs) (hne:some bb≠v.ownBlock) (x:Value):(W.setCell ⟨bb,0,none⟩ x).ownsRow lo 5 1 v n xs:=by
 obtain ⟨h1,h2⟩:=h
 refine ⟨h1,?_⟩
 rcases h2 with h2|⟨g,cap,cur,hv,hg,hh,r⟩
 · exact .inl h2
 · refine .inr ⟨g,cap,cur,hv,hg,?_,r⟩
   rw [Below.heap_setCell _ _ _ _ (by subst hv;intro e;exact hne (by simp [Value.ownBlock,e]))]
   exact hh
theorem owns_shape {W:World} {lo e size n:Nat} {v:Value} {xs:List Value} (h:W.ownsRow lo e size v n xs):∃ a c,v = .slice a n c:=by
 rcases h.2 with ⟨rfl,rfl⟩|⟨g,cap,cur,rfl,_⟩
 · exact ⟨_,_,rfl⟩
 · exact ⟨_,_,rfl⟩
theorem strCells_B (s:List UInt8):Lib.strCells (B s)=Lib.byteCells s:=by
 unfold Lib.strCells Lib.byteCells;rw [B_data]
theorem info_u8:(Tryz.prog.info? 5).map (fun i=>(i.zero,i.size,i.bytes))=some (some (.int .u8 0),1,1):=by kernel_rfl
set_option maxRecDepth 100000 in
set_option maxHeartbeats 4000000 in
theorem aw_write (bb lo:Nat) (acc s:List UInt8) (w:World) (h:Buf bb lo acc w) (hz:acc.length+s.length≤100000000) :
  Calls Tryz.prog 281 #[.pointer (some ⟨bb,0,none⟩),.string (B s)] w fun e w'=>e = .returned (.tuple #[.int .i64 (s.length:Int),.nilIface])∧Buf bb lo (acc++s) w'∧Below lo w w':=by
 obtain ⟨v,hh,hown⟩:=h.val
 have hv:=cell_of_one hh
 have hf:=free_of_one hh
 have hne:=own_ne hh hown
 have hlt:=heap_lt hh
 have hle:=h.le
 have hls:lo≤w.heap.size:=by omega
 obtain ⟨i,hi,hzz⟩:=Option.map_eq_some_iff.1 info_u8
 simp only [Prod.mk.injEq] at hzz
 obtain ⟨hz0,hs1,hb1⟩:=hzz
 have HHH:=Lib.hid hh
 have HNE:=Lib.hid hne
 clear hh hne
 have hsz:(B s).size=s.length:=by simp
 obtain ⟨S,hS⟩:∃ S,B s=S:=⟨_,rfl⟩
 rw [hS] at hsz ⊢
 have HS:=Lib.hid hS
 have HSZ:=Lib.hid hsz
 clear hS
 rw [← hsz] at hz
 have HOWN:=Lib.hid hown
 have HI:=Lib.hid hi
 have HZ:=Lib.hid hz0
 have HS1:=Lib.hid hs1
 have HB1:=Lib.hid hb1
 have HH:=Lib.hid h
 clear hsz hi hz0 hs1 hb1 hown h
 go_enter Tryz.func281,Tryz.ntmps281
 go_wp2_with (with_reducible refine Lib.wpList_append_own_string _ rfl (.tmp 9) (.tmp 10) 294 9 rfl lo 5 i Tryz.underlying294 Tryz.underlying9 HI.out HZ.out HS1.out HB1.out v acc.length (Lib.byteCells acc) rfl HOWN.out S rfl (by unfold maxLen;omega) (by omega) hls ?_)
 intro v' w1 hown' hgrow hnil
 have hrow:∀ k,v.ownBlock=some k→lo≤k:=fun k hk=>(HOWN.out.lt k hk).1
 have hh1:w1.heap[bb]? = some (.cells #[v] 294 (0,0)):=by rw [hgrow.block bb hlt HNE.out];exact HHH.out
 have hv1:=cell_of_one hh1
 have hfr:=free_of_one hh1
 have hbel:Below lo w w1:=(Below.refl lo w).grown hgrow hls hrow
 have hne1:=own_ne hh1 hown'
 obtain ⟨a',c',rfl⟩:=owns_shape hown'
 have HO:=Lib.hid hown'
 have HBL:=Lib.hid hbel
 have HH1:=Lib.hid hh1
 have HN1:=Lib.hid hne1
 clear hown' hgrow hnil hrow hbel hv hf hh1 hne1
 go_wp2_with fail
 go_ret2
 refine ⟨by rw [HSZ.out];rfl,⟨⟨_,one_setCell HH1.out,?_⟩,hle⟩,HBL.out.setCell hle _⟩
 have:=own_set (u:=v) HO.out HN1.out (.slice a' (acc.length+S.size) c')
 rw [List.length_append,← HSZ.out]
 rw [← HS.out,strCells_B] at this
 have e:Lib.byteCells acc++Lib.byteCells s=Lib.byteCells (acc++s):=by simp [Lib.byteCells]
 rw [e] at this
 rw [HSZ.out]
 simpa using this
set_option maxRecDepth 100000 in
set_option maxHeartbeats 4000000 in
theorem getSW (a:Addr) (w:World) :
  Calls Tryz.prog 270 #[.iface 295 (.pointer (some a))] w fun e w'=>e = .returned (.iface 295 (.pointer (some a)))∧w'=w:=by
 have hta:∀ w,(Instr.typeAssert (.iface 295 (.pointer (some a))) 297 299 true).run Tryz.prog w = .ok (.tuple #[.iface 295 (.pointer (some a)),.bool true]) w:=fun _=>by kernel_rfl
 go_enter Tryz.func270,Tryz.ntmps270
 go_wp2_with fail
 go_ret
 exact ⟨rfl,rfl⟩
end Go.Proofs.YtcecjoaeolglbaaGreatDoor.Hand
end

section
namespace Go.Proofs.YtcecjoaeolglbaaGreatDoor.Hand
open Go.RowKit Go.Proofs.YtcecjoaeolglbaaGreatDoor.Pb Go.Proofs.YtcecjoaeolglbaaGreatDoor.Pl
theorem Below.of_drewN (B:Nat) (w:World) (k:Nat):Below B w (w.drewN k):=⟨rfl,rfl,rfl,Nat.le_refl _,fun _ _=>rfl⟩
def pairF (kv:List (List UInt8×ByteArray)) (c:UInt8):Option (List UInt8×List UInt8):=(kv.find? fun x=>x.1.head? == some c).map fun x=>(x.1.tail,x.2.data.toList)
theorem pairF_some {kv:List (List UInt8×ByteArray)} {c:UInt8} {t v:List UInt8} (h:pairF kv c=some (t,v)):∃ j,∃ hj:j<kv.length,kv[j].1=c::t∧kv[j].2=B v:=by
 unfold pairF at h
 obtain ⟨x,hx,e⟩:=Option.map_eq_some_iff.1 h
 have hm:=List.mem_of_find?_eq_some hx
 have hp:=List.find?_some hx
 obtain ⟨j,hj,ej⟩:=List.mem_iff_getElem.1 hm
 refine ⟨j,hj,?_,?_⟩
 · rw [ej]
   simp only [beq_iff_eq] at hp
   have e1:x.1.tail=t:=(Prod.mk.inj e).1
   cases hxl:x.1 with
   | nil=>rw [hxl] at hp;cases hp
   | cons d r=>rw [hxl] at hp e1;simp at hp e1;rw [hp,e1]
 · rw [ej]
   have e2:x.2.data.toList=v:=(Prod.mk.inj e).2
   rw [← e2];exact B_of _
theorem pairF_none {kv:List (List UInt8×ByteArray)} {c:UInt8} (h:pairF kv c=none):∀ j (hj:j<kv.length) d t,kv[j].1=d::t→d≠c:=by
 unfold pairF at h
 simp only [Option.map_eq_none_iff,List.find?_eq_none] at h
 intro j hj d t e hd
 have:=h _ (List.getElem_mem hj)
 rw [e,hd] at this
 simp at this
structure TrieAt (kv:List (List UInt8×ByteArray)) (br bt ts:Nat) (W:World):Prop where
 root:BlkF br 262 (replF (keysU kv kv.length) ts bt) W
 tab:∃ T,BlkF bt ts T W∧(∀ j (h:j<kv.length),∀ c t,kv[j].1=c::t→∃ (b:Nat) (p:Int),0<p∧T (cntU (keysU kv kv.length) c.toNat) = .pointer (some ⟨b,0,none⟩)∧NodeAt (bt+1) b t kv[j].2 p W) ∧
  (∀ x,x<ts→(∀ j (h:j<kv.length),∀ c t,kv[j].1=c::t→cntU (keysU kv kv.length) c.toNat≠x)→T x = .pointer none)
 heads:Heads kv
 lens:∀ x∈kv,x.1.length≤1000
 lt:br<bt∧bt<W.heap.size
 many:ts=cntU (keysU kv kv.length) 256∧ts≤200
theorem NodeAt.below {lo b:Nat} {t:List UInt8} {v:ByteArray} {p:Int} {w W:World} (h:NodeAt lo b t v p w) (hb:Below w.heap.size w W):NodeAt lo b t v p W:=by
 obtain ⟨h1,h2,h3⟩:=h
 refine ⟨h1,Nat.lt_of_lt_of_le h2 hb.size,?_⟩
 rcases h3 with ⟨ht,h3⟩|⟨ht,b2,h4,h5,h6,h7⟩
 · exact .inl ⟨ht,h3.below hb h2⟩
 · exact .inr ⟨ht,b2,h4,Nat.lt_of_lt_of_le h5 hb.size,h6.below hb h2,h7.below hb h5⟩
theorem TrieAt.below {kv:List (List UInt8×ByteArray)} {br bt ts:Nat} {w W:World} (h:TrieAt kv br bt ts w) (hb:Below w.heap.size w W):TrieAt kv br bt ts W:=by
 obtain ⟨T,h1,h2,h3⟩:=h.tab
 refine ⟨h.root.below hb (Nat.lt_trans h.lt.1 h.lt.2),⟨T,h1.below hb h.lt.2,fun j hj c t e => ?_,h3⟩,h.heads,h.lens,⟨h.lt.1,Nat.lt_of_lt_of_le h.lt.2 hb.size⟩,h.many⟩
 obtain ⟨b,p,g1,g2,g3⟩:=h2 j hj c t e
 exact ⟨b,p,g1,g2,g3.below hb⟩
def LookR (kv:List (List UInt8×ByteArray)) (c:UInt8) (r:List UInt8):ByteArray×Nat×Bool :=
 match pairF kv c with
 | some (t,v)=>if t.isPrefixOf r=true then (B v,1+t.length,true) else (⟨#[]⟩,0,false)
 | none=>(⟨#[]⟩,0,false)
theorem look_c {kv:List (List UInt8×ByteArray)} {br bt ts:Nat} {W:World} (h:TrieAt kv br bt ts W) (c:UInt8) (r:List UInt8) (hr:r.length≤100000) (hp:(pairF kv c).isSome=true) :
  Calls Tryz.prog 271 #[.pointer (some ⟨br,0,none⟩),.string (B (c::r)),.bool false] W fun e w'=>e = .returned (.tuple #[.string (LookR kv c r).1,.int .i64 ((LookR kv c r).2.1:Int),.bool (LookR kv c r).2.2])∧∃ k,w'=W.drewN k:=by
 obtain ⟨tv,htv⟩:=Option.isSome_iff_exists.1 hp
 obtain ⟨t,v⟩:=tv
 obtain ⟨j,hj,e1,e2⟩:=pairF_some htv
 obtain ⟨T,h1,h2,h3⟩:=h.tab
 obtain ⟨b,p,g1,g2,g3⟩:=h2 j hj c t e1
 have hu:=used_of hj e1
 have hm:cntU (keysU kv kv.length) c.toNat<ts:=by
  rw [h.many.1];exact cnt_lt _ hu c.toNat_lt
 have hrm:replF (keysU kv kv.length) ts bt (6+c.toNat) = .int .u8 ((cntU (keysU kv kv.length) c.toNat:Nat):Int):=by
  rw [replF_map _ _ _ _ c.toNat_lt]
  simp only [mapV,hu,if_true]
 have hc0:∀ h,(B (c::r))[0]'h=c:=fun _=>rfl
 have hx:(B (c::r)).extract 1 (B (c::r)).size=B r:=by rw [B_extract];simp
 have htl:t.length≤1000:=by
  have:=h.lens _ (List.getElem_mem hj)
  rw [e1] at this;simp at this;omega
 have hts:=h.many.2
 rw [e2] at g3
 obtain ⟨_,_,g3⟩:=g3
 unfold LookR
 rw [htv]
 simp only
 rcases g3 with ⟨rfl,g3⟩|⟨hne,b2,_,_,g3,g4⟩
 · have:=lookup_leaf br bt ts _ b _ T (B (c::r)) (B v) p W (by simp) (by simp;omega) h.root h1 (by omega) hm g1 rfl rfl rfl (by rw [hc0];exact hrm) g2 g3
   simpa using this
 · have hne':¬ (B t).toList=[]:=by simpa using hne
   cases hpre:t.isPrefixOf r with
   | true =>
     have hle:t.length≤r.length:=(List.isPrefixOf_iff_prefix.1 hpre).length_le
     have:=lookup_tail br bt ts _ b _ T (B (c::r)) (B v) (B t) p W (by simp) (by simp;omega) h.root h1 (by omega) hm g1 rfl rfl rfl (by rw [hc0];exact hrm) g2 b2 hne' (by simpa using htl) g3 g4 (by rw [hx,B_data,B_data];exact hpre) (by rw [hx];simpa using hle)
     simpa using this
   | false =>
     have:=lookup_miss br bt ts _ b _ T (B (c::r)) (B v) (B t) p W (by simp) (by simp;omega) h.root h1 (by omega) hm g1 rfl rfl rfl (by rw [hc0];exact hrm) g2 b2 hne' (by simpa using htl) g3 (by rw [hx,B_data,B_data];exact hpre)
     simpa using this
theorem none_c {kv:List (List UInt8×ByteArray)} {br bt ts:Nat} {W:World} (h:TrieAt kv br bt ts W) (c:UInt8) (hp:pairF kv c=none) :
  ∃ m:Nat,W.cell? ⟨br,6+c.toNat,none⟩=some (.int .u8 (m:Int))∧(m=ts∨(m<ts∧W.cell? ⟨bt,m,none⟩=some (.pointer none))):=by
 obtain ⟨T,h1,h2,h3⟩:=h.tab
 have hc:=h.root.cell (6+c.toNat) (by have:=c.toNat_lt;omega)
 rw [replF_map _ _ _ _ c.toNat_lt] at hc
 unfold mapV at hc
 refine ⟨_,hc,?_⟩
 cases hu:usedB (keysU kv kv.length) c.toNat with
 | false=>exact .inl (by simp)
 | true =>
   refine .inr ?_
   simp only [if_true]
   have hm:cntU (keysU kv kv.length) c.toNat<ts:=by
    rw [h.many.1];exact cnt_lt _ hu c.toNat_lt
   refine ⟨hm,?_⟩
   rw [h1.cell _ hm,h3 _ hm]
   intro j hj d t e
   exact cnt_inj (used_of hj e) hu fun e'=>pairF_none hp j hj d t e (UInt8.toNat_inj.1 e')
theorem some_c {kv:List (List UInt8×ByteArray)} {br bt ts:Nat} {W:World} (h:TrieAt kv br bt ts W) (c:UInt8) (hp:(pairF kv c).isSome=true) :
  ∃ m b:Nat,W.cell? ⟨br,6+c.toNat,none⟩=some (.int .u8 (m:Int))∧m<ts∧W.cell? ⟨bt,m,none⟩=some (.pointer (some ⟨b,0,none⟩)):=by
 obtain ⟨tv,htv⟩:=Option.isSome_iff_exists.1 hp
 obtain ⟨t,v⟩:=tv
 obtain ⟨j,hj,e1,e2⟩:=pairF_some htv
 obtain ⟨T,h1,h2,h3⟩:=h.tab
 obtain ⟨b,p,g1,g2,g3⟩:=h2 j hj c t e1
 have hu:=used_of hj e1
 have hm:cntU (keysU kv kv.length) c.toNat<ts:=by
  rw [h.many.1];exact cnt_lt _ hu c.toNat_lt
 have hc:=h.root.cell (6+c.toNat) (by have:=c.toNat_lt;omega)
 rw [replF_map _ _ _ _ c.toNat_lt] at hc
 simp only [mapV,hu,if_true] at hc
 exact ⟨_,b,hc,hm,by rw [h1.cell _ hm,g2]⟩
end Go.Proofs.YtcecjoaeolglbaaGreatDoor.Hand
end

section
namespace Go.Proofs.YtcecjoaeolglbaaGreatDoor.Hand
open Go.RowKit Go.Proofs.YtcecjoaeolglbaaGreatDoor.Pb Go.Proofs.YtcecjoaeolglbaaGreatDoor.Pl
def TwoRes (e:Ending):Prop := ∃ n:Int,e = .returned (.tuple #[.int .i64 n,.nilIface])
theorem Buf.drewN {bb lo:Nat} {acc:List UInt8} {W:World} (h:Buf bb lo acc W) (k:Nat):Buf bb lo acc (W.drewN k) :=
 ⟨by obtain ⟨v,h1,h2⟩:=h.val;exact ⟨v,h1,h2⟩,h.le⟩
theorem Buf.drew {bb lo:Nat} {acc:List UInt8} {W:World} (h:Buf bb lo acc W):Buf bb lo acc W.drew :=
 ⟨by obtain ⟨v,h1,h2⟩:=h.val;exact ⟨v,h1,h2⟩,h.le⟩
theorem nil_ahead (n:Nat) (a:Addr) (w:World):(nilAhead (n+1) 295 (.pointer (some a)) "WriteString").run Tryz.prog w = .ok (some false) w:=by kernel_rfl
theorem meth_ws (n:Nat) (a:Addr) (w:World):(method (n+1) 295 (.pointer (some a)) "WriteString").run Tryz.prog w = .ok (281,.pointer (some a)) w:=by kernel_rfl
section
variable {f : UInt8 → Option (List UInt8 × List UInt8)} {acc s R : List UInt8} {l k : Nat}
theorem take_grow (hl:l≤k) (hk:k<s.length):(s.drop l).take (k+1 - l)=(s.drop l).take (k - l)++[s[k]]:=by
 rw [show k+1 - l=(k - l)+1 by omega,List.take_succ_eq_append_getElem (by simp;omega)]
 congr 2
 rw [List.getElem_drop]
 congr 1
 omega
theorem step_skip (hl:l≤k) (hk:k<s.length) (hs:replS f 0 (s.drop k)=s[k]::replS f 0 (s.drop (k+1))) (h:acc++(s.drop l).take (k - l)++replS f 0 (s.drop k)=R) :
  acc++(s.drop l).take (k+1 - l)++replS f 0 (s.drop (k+1))=R:=by
 rw [← h,hs,take_grow hl hk];simp
theorem step_hit (v:List UInt8) (n:Nat) (hs:replS f 0 (s.drop k)=v++replS f 0 (s.drop (k+n))) (h:acc++(s.drop l).take (k - l)++replS f 0 (s.drop k)=R) :
  (acc++(s.drop l).take (k - l)++v)++(s.drop (k+n)).take (k+n - (k+n))++replS f 0 (s.drop (k+n))=R:=by
 rw [← h,hs];simp
theorem step_end (hl:l≤s.length) (h:acc++(s.drop l).take (s.length - l)++replS f 0 (s.drop s.length)=R) :
  acc++(s.drop l).take (s.length+1 - l)++replS f 0 (s.drop (s.length+1))=R:=by
 rw [← h,List.drop_length,List.drop_eq_nil_of_le (show s.length≤s.length+1 by omega),List.take_of_length_le (by rw [List.length_drop];omega),List.take_of_length_le (by rw [List.length_drop];omega)]
theorem step_out (hl:l≤s.length) (h:acc++(s.drop l).take (s.length+1 - l)++replS f 0 (s.drop (s.length+1))=R):acc++s.drop l=R:=by
 rw [← h,List.drop_eq_nil_of_le (show s.length≤s.length+1 by omega),List.take_of_length_le (by rw [List.length_drop];omega),replS_nil,List.append_nil]
end
set_option maxRecDepth 100000 in
set_option maxHeartbeats 8000000 in
theorem gen_write (kv:List (List UInt8×ByteArray)) (br bt ts bb lo:Nat) (s:List UInt8) (W0 w:World) (hT:TrieAt kv br bt ts W0) (hw:Below W0.heap.size W0 w) (hs:s.length≤100000) (hbb:W0.heap.size≤lo) (hB:Buf bb lo [] w)
  (hv:∀ x∈kv,x.2.size≤100) :
  Calls Tryz.prog 269 #[.pointer (some ⟨br,0,none⟩),.iface 295 (.pointer (some ⟨bb,0,none⟩)),.string (B s)] w fun e w'=>TwoRes e∧Buf bb lo (replS (pairF kv) 0 s) w'∧Below W0.heap.size W0 w':=by
 have HT:=Lib.hid hT
 have HW:=Lib.hid hw
 have HB:=Lib.hid hB
 obtain ⟨R,hR⟩:∃ R,replS (pairF kv) 0 s=R:=⟨_,rfl⟩
 rw [hR]
 have HR:=Lib.hid hR
 obtain ⟨a,ha⟩:∃ a,B s=a:=⟨_,rfl⟩
 have hza:a.size=s.length:=by rw [← ha];simp
 have had:a.data.toList=s:=by rw [← ha,B_data]
 have hz:a.size≤100000:=by omega
 rw [ha]
 have HA:=Lib.hid ha
 have HZ:=Lib.hid hza
 have HV:=Lib.hid hv
 clear hT hw hB hR ha hza had hs hv
 go_enter Tryz.func269,Tryz.ntmps269
 go_wp2_with fail
 refine (getSW _ _).mono ?_
 rintro e w1 ⟨rfl,rfl⟩
 go_wp2_with fail
 go_loopw [6,7,9,11,12] (fun n er la pm i wr => ∃ (z:Int) (l k:Nat) (acc:List UInt8),n = .int .i64 z∧er = .nilIface∧la = .int .i64 (l:Int)∧pm = .bool false∧i = .int .i64 (k:Int)∧l≤k∧k≤a.size+1∧l≤a.size ∧
  Hid (acc++(s.drop l).take (k - l)++replS (pairF kv) 0 (s.drop k)=R)∧Hid (Buf bb lo acc wr)∧Hid (Below W0.heap.size W0 wr)∧Hid (acc.length≤100*l)) (fun _ _ _ _ i _=>a.size+1 - (intOf i).toNat)
 case atStart=>exact ⟨0,0,0,[],rfl,rfl,rfl,rfl,rfl,Nat.le_refl _,by omega,by omega,Lib.hid (by rw [Nat.sub_self,List.take_zero,List.drop_zero,List.nil_append];exact HR.out),HB,HW,Lib.hid (by simp)⟩
 case round =>
  clear HB HW
  obtain ⟨z,l,k,acc,rfl,rfl,rfl,rfl,rfl,hlk,hk,hl,HQ,HB,HW,HAL⟩:=hrel
  by_cases hlt:k<a.size
  · have hks:k<s.length:=by rw [← HZ.out];exact hlt
    have hca:a[k]=s[k]:=by
     have h:=HA.out
     subst h
     rfl
    have hdr:s.drop k=a[k]::s.drop (k+1):=by rw [List.drop_eq_getElem_cons hks,hca]
    have hTr:=HT.out.below HW.out
    have c1:=hTr.root.cell 1 (by omega)
    have c4:=hTr.root.cell 4 (by omega)
    have c5:=hTr.root.cell 5 (by omega)
    rw [replF_1] at c1
    rw [replF_4] at c4
    rw [replF_5] at c5
    have hts:=hTr.many.2
    have hb0:(0:Int)≤(a[k].toNat:Int):=by omega
    have hb1:(a[k].toNat:Int)<256:=by have:=a[k].toNat_lt;omega
    have hb2:a[k].toNat<256:=by have:=a[k].toNat_lt;omega
    have hk0:(0:Int)≤(k:Int):=by omega
    have hk1:(k:Int)<(a.size:Int):=by omega
    have hk2:(k:Int)≤(a.size:Int):=by omega
    have e0:((k:Int) != (a.size:Int))=true:=by rw [bne_iff_ne];omega
    cases hp:pairF kv (a[k]) with
    | none =>
      obtain ⟨m,hm,hor⟩:=none_c hTr (a[k]) hp
      have HQ2:Hid (acc++(s.drop l).take (k+1 - l)++replS (pairF kv) 0 (s.drop (k+1))=R):=Lib.hid (step_skip hlk hks (by rw [hdr,replS_none hp,hca]) HQ.out)
      clear hTr hdr hca hks HQ hp
      have hm0:(0:Int)≤(m:Int):=by omega
      have hml:m≤200:=by rcases hor with h|h<;>omega
      have HWM:=Lib.hid (show wrap64 (m:Int)=(m:Int) from wrap_id _ (by omega) (by omega))
      rcases hor with hor|⟨hmt,hor⟩
      · have e1:((m:Int) == (ts:Int))=true:=by rw [hor];simp
        clear hor
        have hwm:=HWM.out
        go_wp2_with fail
        go_quiet (fail)
        go_wp2_with fail
        clear hwm
        go_roundw
        case rel=>exact ⟨z,l,k+1,acc,rfl,rfl,rfl,rfl,by go_num,by omega,by omega,hl,HQ2,Lib.hid (HB.out.drewN _),Lib.hid (HW.out.trans (Below.of_drewN _ _ _)),HAL⟩
        case measure=>simp [intOf];omega
      · have e1:((m:Int) == (ts:Int))=false:=by rw [beq_eq_false_iff_ne];omega
        have hm1:(m:Int)<(ts:Int):=by omega
        have hwm:=HWM.out
        go_wp2_with fail
        go_quiet (fail)
        go_wp2_with fail
        clear hwm
        go_roundw
        case rel=>exact ⟨z,l,k+1,acc,rfl,rfl,rfl,rfl,by go_num,by omega,by omega,hl,HQ2,Lib.hid (HB.out.drewN _),Lib.hid (HW.out.trans (Below.of_drewN _ _ _)),HAL⟩
        case measure=>simp [intOf];omega
    | some tv =>
      obtain ⟨t,v⟩:=tv
      obtain ⟨m,b,hm,hmt,hmb⟩:=some_c hTr (a[k]) (by rw [hp];rfl)
      have hr:(s.drop (k+1)).length≤100000:=by have:=HZ.out;simp;omega
      have C:=fun W (hb:Below wr.heap.size wr W)=>look_c (hTr.below hb) (a[k]) (s.drop (k+1)) hr (by rw [hp];rfl)
      have hx:a.extract k a.size=B (a[k]::s.drop (k+1)):=by
       rw [← hdr,← HA.out,B_extract,size_B,List.take_length]
      rw [← hx] at C
      have hvz:v.length≤100:=by
       obtain ⟨j,hj,_,e2⟩:=pairF_some hp
       have:=HV.out _ (List.getElem_mem hj)
       rw [e2] at this;simpa using this
      have hm0:(0:Int)≤(m:Int):=by omega
      have hm1:(m:Int)<(ts:Int):=by omega
      have HWM:=Lib.hid (show wrap64 (m:Int)=(m:Int) from wrap_id _ (by omega) (by omega))
      have e1:((m:Int) == (ts:Int))=false:=by rw [beq_eq_false_iff_ne];omega
      unfold LookR at C
      rw [hp] at C
      simp only at C
      cases hpre:t.isPrefixOf (s.drop (k+1)) with
      | false =>
        rw [hpre] at C
        simp only [Bool.false_eq_true,if_false] at C
        have HQ2:Hid (acc++(s.drop l).take (k+1 - l)++replS (pairF kv) 0 (s.drop (k+1))=R):=Lib.hid (step_skip hlk hks (by rw [hdr,replS_miss hp (by rw [hpre];simp),hca]) HQ.out)
        have HC:=Lib.hid C
        clear hTr hdr hca hks HQ hp C hx hr hpre
        have hwm:=HWM.out
        go_wp2_with fail
        go_quiet (fail)
        go_wp2_with fail
        clear hwm
        refine (HC.out _ (Below.of_drewN _ _ _)).mono ?_
        rintro e w2 ⟨rfl,q,rfl⟩
        go_wp2_with fail
        go_roundw
        case rel=>exact ⟨z,l,k+1,acc,rfl,rfl,rfl,rfl,by go_num,by omega,by omega,hl,HQ2,Lib.hid (HB.out.drewN _),Lib.hid (HW.out.trans (Below.of_drewN _ _ _)),HAL⟩
        case measure=>simp [intOf];omega
      | true =>
        rw [hpre] at C
        simp only [if_true] at C
        have hle:t.length≤(s.drop (k+1)).length:=(List.isPrefixOf_iff_prefix.1 hpre).length_le
        rw [List.length_drop] at hle
        obtain ⟨n,hn⟩:∃ n,1+t.length=n:=⟨_,rfl⟩
        have hn1:1≤n:=by omega
        have hkn:k+n≤a.size:=by have:=HZ.out;omega
        have HQ2:Hid ((acc++(s.drop l).take (k - l)++v)++(s.drop (k+n)).take (k+n - (k+n))++replS (pairF kv) 0 (s.drop (k+n))=R) :=
         Lib.hid (step_hit v n (by rw [hdr,replS_hit hp hpre,List.drop_drop,← hn];congr 3;omega) HQ.out)
        rw [hn] at C
        have HC:=Lib.hid C
        have hx1:a.extract l k=B ((s.drop l).take (k - l)):=by
         rw [← HA.out,B_extract,List.drop_take]
        have HX1:=Lib.hid hx1
        have hsl:((s.drop l).take (k - l)).length≤k - l:=List.length_take_le _ _
        have HAL2:Hid ((acc++(s.drop l).take (k - l)++v).length≤100*(k+n)):=Lib.hid (by have:=HAL.out;simp only [List.length_append];omega)
        have hz1:acc.length+((s.drop l).take (k - l)).length≤100000000:=by have:=HAL.out;omega
        have hz2:(acc++(s.drop l).take (k - l)).length+v.length≤100000000:=by have:=HAL.out;rw [List.length_append];omega
        have D1:=Lib.hid (fun W (h:Buf bb lo acc W)=>aw_write bb lo acc ((s.drop l).take (k - l)) W h hz1)
        have D2:=Lib.hid (fun W (h:Buf bb lo (acc++(s.drop l).take (k - l)) W)=>aw_write bb lo (acc++(s.drop l).take (k - l)) v W h hz2)
        obtain ⟨vb,hvb⟩:∃ x,B v=x:=⟨_,rfl⟩
        rw [hvb] at HC D2
        have e2:((n:Int) == 0)=false:=by rw [beq_eq_false_iff_ne];omega
        have hl0:(0:Int)≤(l:Int):=by omega
        have hl1:(l:Int)≤(k:Int):=by omega
        clear hTr hdr hca hks HQ hp C hx hr hpre hn hx1 hsl hz1 hz2 hvb hle
        have HKN:=Lib.hid hkn
        have HN1:=Lib.hid hn1
        clear hkn hn1
        have hwm:=HWM.out
        go_wp2_with fail
        go_quiet (fail)
        go_wp2_with fail
        clear hwm
        refine (HC.out _ (Below.of_drewN _ _ _)).mono ?_
        rintro e w2 ⟨rfl,q,hw2⟩
        have HB2:Hid (Buf bb lo acc w2):=Lib.hid (by rw [hw2];exact (HB.out.drewN _).drewN _)
        have HW2:Hid (Below W0.heap.size W0 w2):=Lib.hid (by rw [hw2];exact (HW.out.trans (Below.of_drewN _ _ _)).trans (Below.of_drewN _ _ _))
        clear HC HB HW hw2 hm hmb c1 c4 c5 HWM
        have hmf:∀ (fn:Fn) (first cap:Array Value) (w:World),(Instr.makeFunc fn first cap).run Tryz.prog w = .ok (.func fn first cap) w:=fun _ _ _ _=>rfl
        have hna:=nil_ahead
        have hme:=meth_ws
        have HBd:=Lib.hid (HB2.out.drew)
        have HWd:=Lib.hid (HW2.out.drew)
        clear HB2 HW2
        go_wp2_with fail
        go_region_held3 (fun _=>True) (exact trivial) ((go_at_call 281;rw [HX1.out];refine (D1.out _ HBd.out).mono ?_;rintro e w3 ⟨rfl,hb1,hb2⟩))
        have HB3:=Lib.hid (by assumption:Buf bb lo (acc++(s.drop l).take (k - l)) _)
        have HW3:=Lib.hid (HWd.out.trans (Below.mono (by assumption:Below lo _ _) hbb))
        clear HBd HWd D1
        go_wp2_with fail
        refine (D2.out _ HB3.out).mono ?_
        rintro e w4 ⟨rfl,hb3,hb4⟩
        have HB4:=Lib.hid hb3
        have HW4:=Lib.hid (HW3.out.trans (hb4.mono hbb))
        clear hb3 hb4 HB3 HW3 D2
        have hkn2:k+n≤a.size:=HKN.out
        have hn2:1≤n:=HN1.out
        have hle2:k+n≤a.size+1:=by omega
        go_wp2_with fail
        go_roundw
        case rel=>exact ⟨_,k+n,k+n,acc++(s.drop l).take (k - l)++v,rfl,rfl,by go_num,rfl,by go_num,Nat.le_refl _,hle2,hkn2,HQ2,HB4,HW4,HAL2⟩
        case measure=>simp [intOf];omega
  · by_cases hke:k=a.size
    · subst hke
      have C:=Lib.hid (fun W (hW:Below W0.heap.size W0 W)=>lookup_end br _ W (HT.out.below hW).root rfl)
      have HQ2:Hid (acc++(s.drop l).take (a.size+1 - l)++replS (pairF kv) 0 (s.drop (a.size+1))=R):=Lib.hid (by
       have h:=HQ.out
       have h2:=HZ.out
       rw [h2] at h ⊢
       exact step_end (by omega) h)
      have hx:a.extract a.size a.size=⟨#[]⟩:=by
       have h:=HA.out
       subst h
       rw [B_extract,size_B,List.take_length,List.drop_length]
       rfl
      have e1:((a.size:Int) != (a.size:Int))=false:=by simp
      clear HQ
      go_wp2_with fail
      refine (C.out _ HW.out).mono ?_
      rintro e w2 ⟨rfl,q,rfl⟩
      replace HB:Hid (Buf bb lo acc (wr.drewN q)):=Lib.hid (HB.out.drewN q)
      replace HW:Hid (Below W0.heap.size W0 (wr.drewN q)):=Lib.hid (HW.out.trans (Below.of_drewN _ _ _))
      clear C
      go_wp2_with fail
      go_roundw
      case rel=>exact ⟨z,l,a.size+1,acc,rfl,rfl,rfl,rfl,by go_num,by omega,by omega,hl,HQ2,HB,HW,HAL⟩
      case measure=>simp [intOf]
    · obtain rfl:k=a.size+1:=by omega
      have hq:=HQ.out
      have h2:=HZ.out
      rw [h2] at hq
      have HO:Hid (acc++s.drop l=R):=Lib.hid (step_out (by omega) hq)
      clear hq h2 HQ
      by_cases hle:l=a.size
      · subst hle
        have HO2:Hid (acc=R):=Lib.hid (by have h:=HO.out;rw [List.drop_eq_nil_of_le (by have:=HZ.out;omega),List.append_nil] at h;exact h)
        have e1:((a.size:Int) != (a.size:Int))=false:=by simp
        clear HO
        go_wp2_with fail
        go_ret2
        exact ⟨⟨_,rfl⟩,by rw [← HO2.out];exact HB.out,HW.out⟩
      · have e1:((l:Int) != (a.size:Int))=true:=by rw [bne_iff_ne];omega
        have hx:a.extract l a.size=B (s.drop l):=by
         rw [← HA.out,B_extract,size_B,List.take_length]
        have HX:=Lib.hid hx
        clear hx
        have hmf:∀ (fn:Fn) (first cap:Array Value) (w:World),(Instr.makeFunc fn first cap).run Tryz.prog w = .ok (.func fn first cap) w:=fun _ _ _ _=>rfl
        have hl0:(0:Int)≤(l:Int):=by omega
        have hl1:(l:Int)≤(a.size:Int):=by omega
        go_wp2_with fail
        have hna:=nil_ahead
        have hme:=meth_ws
        have C:=Lib.hid (fun W (h:Buf bb lo acc W)=>aw_write bb lo acc (s.drop l) W h (by have:=HAL.out;have:=HZ.out;simp;omega))
        have HBd:=Lib.hid (HB.out.drew)
        have HWd:=Lib.hid (HW.out.drew)
        clear HB HW
        go_region_with (go_at_call 281;rw [HX.out];refine (C.out _ HBd.out).mono ?_;rintro e w2 ⟨rfl,hb1,hb2⟩)
        all_goals
         have HB:=Lib.hid (by assumption:Buf bb lo (acc++s.drop l) _)
         have HW:=Lib.hid (HWd.out.trans (Below.mono (by assumption:Below lo _ _) hbb))
         go_wp2_with fail
         go_ret2
         exact ⟨⟨_,rfl⟩,by rw [← HO.out];exact HB.out,HW.out⟩
end Go.Proofs.YtcecjoaeolglbaaGreatDoor.Hand
end

section
namespace Go.Proofs.YtcecjoaeolglbaaGreatDoor.Hand
open Go.RowKit Go.Proofs.YtcecjoaeolglbaaGreatDoor.Pb Go.Proofs.YtcecjoaeolglbaaGreatDoor.Pl
theorem owns_string {W:World} {lo:Nat} {v:Value} {l:List UInt8} (h:W.ownsRow lo 5 1 v l.length (Lib.byteCells l)):(convert 294 9 v).run Tryz.prog W = .ok (.string (B l)) W:=by
 rcases h.2 with ⟨rfl,hn⟩|⟨g,cap,cur,rfl,_⟩
 · obtain rfl:=List.eq_nil_of_length_eq_zero hn
   exact run_convert_bytes_nil W 294 5 Tryz.underlying294 Tryz.underlying5 0 0 9 Tryz.underlying9
 · have hc:=h.cells (g:=g) rfl
   exact run_convert_bytes_back (P:=Tryz.prog) W 294 9 5 ⟨g,0,none⟩ cap l Tryz.underlying294 Tryz.underlying5 Tryz.underlying9 (fun j hj=>hc j _ (by simp [Lib.byteCells,List.getElem?_eq_getElem hj]))
set_option maxRecDepth 100000 in
set_option maxHeartbeats 4000000 in
theorem gen_replace (kv:List (List UInt8×ByteArray)) (br bt ts:Nat) (s:List UInt8) (W0:World) (hT:TrieAt kv br bt ts W0) (hs:s.length≤100000)
  (hv:∀ x∈kv,x.2.size≤100) (hr:(replS (pairF kv) 0 s).length≤100000000) :
  Calls Tryz.prog 268 #[.pointer (some ⟨br,0,none⟩),.string (B s)] W0 fun e w'=>e = .returned (.string (B (replS (pairF kv) 0 s)))∧Below W0.heap.size W0 w':=by
 obtain ⟨i,hi,hzz⟩:=Option.map_eq_some_iff.1 info_u8
 simp only [Prod.mk.injEq] at hzz
 obtain ⟨hz0,hs1,hb1⟩:=hzz
 obtain ⟨w1,hmk,hown,hgr⟩:=run_makeSlice_owned (P:=Tryz.prog) W0 W0.heap.size 294 5 i (.int .u8 0) 1 Tryz.underlying294 hi hz0 hs1 .i64 .i64 s.length (by omega) (by rw [hb1];omega) (by unfold maxLen;omega) (Nat.le_refl _)
 have hb1:Below W0.heap.size W0 w1:=(Below.refl _ _).grown hgr (Nat.le_refl _) (fun k h=>by cases h)
 have hlt1:W0.heap.size<w1.heap.size:=(hown.lt W0.heap.size rfl).2
 have hB0:Buf w1.heap.size W0.heap.size [] (w1.alloc (.cells #[.slice (some ⟨W0.heap.size,0,none⟩) 0 s.length] 294)) :=
  ⟨⟨_,heap_alloc_new _ _,hown.alloc _⟩,Nat.le_of_lt hlt1⟩
 have C:=Lib.hid (gen_write kv br bt ts w1.heap.size W0.heap.size s W0 _ hT (hb1.alloc (Nat.le_of_lt hlt1) (.cells #[.slice (some ⟨W0.heap.size,0,none⟩) 0 s.length] 294)) hs (Nat.le_refl _) hB0 hv)
 obtain ⟨R,hR⟩:∃ R,replS (pairF kv) 0 s=R:=⟨_,rfl⟩
 rw [hR] at C hr ⊢
 have hsz:(B s).size=s.length:=by simp
 clear hR hB0 hb1 hlt1 hown hgr hi hz0 hs1
 go_enter Tryz.func268,Tryz.ntmps268
 go_wp2_with fail
 refine C.out.mono ?_
 rintro e w2 ⟨⟨n,rfl⟩,hB,hW⟩
 obtain ⟨v,hh,hown2⟩:=hB.val
 have hv1:=cell_of_one hh
 have hcv:=owns_string hown2
 have HW:=Lib.hid hW
 clear hmk hB hW hh hown2 C hT hv
 go_wp2_with fail
 go_ret
 exact ⟨rfl,HW.out⟩
end Go.Proofs.YtcecjoaeolglbaaGreatDoor.Hand
end

section
namespace Go.Proofs.YtcecjoaeolglbaaGreatDoor.Hand
open Go.RowKit Go.Proofs.YtcecjoaeolglbaaGreatDoor.Pb Go.Proofs.YtcecjoaeolglbaaGreatDoor.Pl
structure NewR (strs:List ByteArray) (rb b2 c:Nat) (w W:World):Prop where
 blk:Blk rb #[.int .u32 0,.int .i32 0,.int .u32 0,.nilIface,.slice (some ⟨b2,0,none⟩) strs.length c] W
 old:BlkF b2 strs.length (strV strs) W
 below:Below w.heap.size w W
 le:w.heap.size≤b2∧b2<rb∧rb<W.heap.size
theorem info_str:(Tryz.prog.info? 9).map (fun i=>(i.zero,i.size,i.bytes))=some (some (.string ByteArray.empty),1,16):=by kernel_rfl
theorem strV_get (l:List ByteArray) (j:Nat) (h:j<l.length):(l.map Value.string)[j]? = some (strV l j):=by
 rw [List.getElem?_map,List.getElem?_eq_getElem h]
 unfold strV
 rw [List.getD_eq_getElem?_getD,List.getElem?_eq_getElem h];rfl
theorem owns_blkF {W:World} {lo e g c:Nat} {l:List ByteArray} (h:W.ownsRow lo e 1 (.slice (some ⟨g,0,none⟩) l.length c) l.length (l.map .string)):BlkF g l.length (strV l) W:=by
 refine ⟨fun j hj => ?_,fun j => ?_⟩
 · have:=h.cells (g:=g) rfl j _ (strV_get l j hj)
   have hadd:(⟨g,0,none⟩:Addr).add j=⟨g,j,none⟩:=by unfold Addr.add;split<;>simp_all
   rw [hadd] at this;exact this
 · rcases h.2 with ⟨h1,_⟩|⟨g',cap,cur,h1,_,hh,_⟩
   · cases h1
   · have:g=g':=by simp at h1;exact h1.1
     subst this
     simp [World.frozen?,hh]
set_option maxRecDepth 100000 in
set_option maxHeartbeats 4000000 in
theorem new_replacer (bo cap:Nat) (strs:List ByteArray) (w:World) (ho:BlkF bo strs.length (strV strs) w) (hbo:bo<w.heap.size) (hn:0<strs.length) (h2:strs.length % 2=0) (hm:strs.length≤1000) :
  Calls Tryz.prog 51 #[.slice (some ⟨bo,0,none⟩) strs.length cap] w fun e w' => ∃ rb b2 c,e = .returned (.pointer (some ⟨rb,0,none⟩))∧NewR strs rb b2 c w w':=by
 obtain ⟨i,hi,hzz⟩:=Option.map_eq_some_iff.1 info_str
 simp only [Prod.mk.injEq] at hzz
 obtain ⟨hz0,hs1,hb1⟩:=hzz
 obtain ⟨N,hN⟩:∃ N,strs.length=N:=⟨_,rfl⟩
 have hnews:∀ j u,(strs.map Value.string)[j]? = some u→w.cell? ((⟨bo,0,none⟩:Addr).add j)=some u:=by
  intro j u hu
  have hj:j<strs.length:=by
   rcases Nat.lt_or_ge j strs.length with h|h
   · exact h
   · rw [List.getElem?_eq_none (by simpa using h)] at hu;cases hu
  have hadd:(⟨bo,0,none⟩:Addr).add j=⟨bo,j,none⟩:=by unfold Addr.add;split<;>simp_all
  rw [hadd,ho.cell j hj,← hu,strV_get strs j hj]
 have h1:∀ u∈strs.map Value.string,u.oneCell'=true:=by
  intro u hu
  obtain ⟨_,_,rfl⟩:=List.mem_map.1 hu
  rfl
 have hlen:(strs.map Value.string).length=strs.length*1:=by simp
 rw [hN] at hn h2 hm hlen ⊢
 have hrem:((N:Int).tmod 2 == 1)=false:=by
  rw [beq_eq_false_iff_ne,Int.tmod_eq_emod_of_nonneg (by omega)];omega
 have hrem2:((N:Int) % 2 == 1)=false:=by rw [beq_eq_false_iff_ne];omega
 have HI:=Lib.hid hi
 have HZ:=Lib.hid hz0
 have HS1:=Lib.hid hs1
 have HB1:=Lib.hid hb1
 have HNEWS:=Lib.hid hnews
 have H1:=Lib.hid h1
 have HL:=Lib.hid hlen
 have HN:=Lib.hid hN
 clear hi hz0 hs1 hb1 hnews h1 hlen ho hN
 go_enter Tryz.func51,Tryz.ntmps51
 go_wp2_with (with_reducible refine wpList_append_own _ rfl (.const (.slice none 0 0)) (.tmp 8) 67 rfl w.heap.size 9 i (.string ByteArray.empty) 1 16 Tryz.underlying67 HI.out HZ.out HS1.out HB1.out rfl (by decide) (.slice none 0 0) 0 [] rfl (World.ownsRow_nil _ _ _ _) ⟨bo,0,none⟩ N cap (strs.map Value.string) rfl HL.out HNEWS.out H1.out (by unfold maxLen;omega) (by omega) (Nat.le_refl _) ?_)
 intro v' w1 hown hgr hnil
 have hbel:Below w.heap.size w w1:=(Below.refl _ _).grown hgr (Nat.le_refl _) (fun k h=>by cases h)
 replace hown:w1.ownsRow w.heap.size 9 1 v' N (strs.map Value.string):=by simpa only [Nat.zero_add,List.nil_append] using hown
 rcases hown.2 with ⟨hv,h0⟩|⟨g,c,cur,rfl,hg1,hg2,_⟩
 · omega
 · have hlt:=(hown.lt g rfl).2
   have hF:BlkF g strs.length (strV strs) w1:=by
    have:=hown
    rw [← HN.out] at this
    exact owns_blkF this
   have HF:=Lib.hid hF
   have HB:=Lib.hid hbel
   clear hown hgr hnil hF hbel hg2
   have HA:=Lib.hid (Below.alloc (Below.refl w1.heap.size w1) (Nat.le_refl _) (.cells #[.int .u32 0,.int .i32 0,.int .u32 0,.nilIface,.slice (some ⟨g,0,none⟩) N c] 111))
   go_wp2_with fail
   go_ret
   refine ⟨w1.heap.size,g,c,rfl,⟨?_,HF.out.below HA.out hlt,HB.out.trans (HA.out.mono HB.out.size),hg1,hlt,by simp⟩⟩
   rw [HN.out]
   exact Blk.of_alloc _ _ _
end Go.Proofs.YtcecjoaeolglbaaGreatDoor.Hand
end

section
namespace Go.Proofs.YtcecjoaeolglbaaGreatDoor.Hand
open Go.RowKit Go.Proofs.YtcecjoaeolglbaaGreatDoor.Pb Go.Proofs.YtcecjoaeolglbaaGreatDoor.Pl
structure Words (kv:List (List UInt8×ByteArray)):Prop where
 heads:Heads kv
 lens:∀ x∈kv,x.1.length≤1000
 vals:∀ x∈kv,x.2.size≤100
 many:kv.length≤100
 cnt:cntU (keysU kv kv.length) 256≤200
 long:∃ j,∃ h:j<kv.length,kv[j].1.length≠1
 two:2≤kv.length
theorem trie_of {kv:List (List UInt8×ByteArray)} {n br bt ts:Nat} {w W:World} (hk:Words kv) (h:TrieSt n br bt (bt+1) ts (keysU kv kv.length) kv kv.length w W) (h1:br<bt) (h2:ts≤200) (h3:ts=cntU (keysU kv kv.length) 256):TrieAt kv br bt ts W:=by
 obtain ⟨T,g1,g2,g3⟩:=h.tab
 exact ⟨h.root,⟨T,g1,fun j hj c t e=>g2 j hj hj c t e,fun x hx hxe=>g3 x hx fun j hj _=>hxe j hj⟩,hk.heads,hk.lens,⟨h1,h.size⟩,h3,h2⟩
theorem NodeAt.put {lo b b0 k:Nat} {t:List UInt8} {v:ByteArray} {p:Int} {W:World} (h:NodeAt lo b t v p W) (x:Value) (hb:b0<lo):NodeAt lo b t v p (W.setCell ⟨b0,k,none⟩ x):=by
 obtain ⟨h1,h2,h3⟩:=h
 refine ⟨h1,by simpa using h2,?_⟩
 rcases h3 with ⟨ht,h3⟩|⟨ht,b2,h4,h5,h6,h7⟩
 · exact .inl ⟨ht,h3.other k x (by omega)⟩
 · exact .inr ⟨ht,b2,h4,by simpa using h5,h6.other k x (by omega),h7.other k x (by omega)⟩
theorem TrieAt.put {kv:List (List UInt8×ByteArray)} {br bt ts b0 k:Nat} {W:World} (h:TrieAt kv br bt ts W) (x:Value) (hb:b0<br):TrieAt kv br bt ts (W.setCell ⟨b0,k,none⟩ x):=by
 obtain ⟨T,h1,h2,h3⟩:=h.tab
 have hl:=h.lt
 refine ⟨h.root.other k x (by omega),⟨T,h1.other k x (by omega),fun j hj c t e => ?_,h3⟩,h.heads,h.lens,⟨hl.1,by simpa using hl.2⟩,h.many⟩
 obtain ⟨b,p,g1,g2,g3⟩:=h2 j hj c t e
 exact ⟨b,p,g1,g2,g3.put x (by omega)⟩
def Built (kv:List (List UInt8×ByteArray)) (w:World) (e:Ending) (w':World):Prop :=
 e = .returned (.iface 172 (.pointer (some ⟨w.heap.size,0,none⟩)))∧∃ bt ts,TrieAt kv w.heap.size bt ts w'∧Below w.heap.size w w'
set_option maxRecDepth 100000 in
set_option maxHeartbeats 8000000 in
theorem build_gen (kv:List (List UInt8×ByteArray)) (rb b2 c:Nat) (w:World) (hk:Words kv) (hc:w.cell? ⟨rb,4,none⟩=some (.slice (some ⟨b2,0,none⟩) (2*kv.length) c)) (hb:BlkF b2 (2*kv.length) (strV (flatKV kv)) w) (hb2:b2<w.heap.size) :
  Calls Tryz.prog 105 #[.pointer (some ⟨rb,0,none⟩)] w (Built kv w):=by
 have CM:Hid (Calls Tryz.prog 147 #[.slice (some ⟨b2,0,none⟩) (2*kv.length) c] w (fun e w'=>e = .returned (.pointer (some ⟨w.heap.size,0,none⟩))∧∃ bt ts,TrieAt kv w.heap.size bt ts w'∧Below w.heap.size w w')):=Lib.hid (by
  refine (make_gen b2 c kv w hk.many hk.cnt hk.lens hk.heads hb hb2).mono ?_
  rintro e w' ⟨rfl,bt,ts,h0,h1,h2,h4⟩
  exact ⟨rfl,bt,ts,trie_of hk h4 h2 h1 h0,h4.below⟩)
 obtain ⟨jl,hjl,hjn⟩:=hk.long
 have hmany:=hk.many
 have htwo:=hk.two
 have e2:(2*(kv.length:Int) == 2)=false:=by rw [beq_eq_false_iff_ne];omega
 have HB:=Lib.hid hb
 have HJ:=Lib.hid hjn
 clear hb hb2 hk hjn
 go_enter Tryz.func105,Tryz.ntmps105
 go_wp2_with fail
 go_loop [4,5] (fun x i => ∃ (b:Bool) (q:Nat),x = .bool b∧i = .int .i64 (2*(q:Int))∧q≤jl) (fun _ i=>2*kv.length - (intOf i).toNat)
 case atStart=>exact ⟨true,0,rfl,rfl,Nat.zero_le _⟩
 case round =>
  obtain ⟨b,q,rfl,rfl,hq⟩:=hrel
  have hlt:q<kv.length:=by omega
  have hkey:=HB.out.cell (2*q) (by omega)
  have hval:=HB.out.cell (2*q+1) (by omega)
  rw [strV_at (flatKV_key kv q hlt)] at hkey
  rw [strV_at (flatKV_val kv q hlt)] at hval
  obtain ⟨K,hK⟩:∃ K,B kv[q].1=K:=⟨_,rfl⟩
  obtain ⟨V,hV⟩:∃ V,kv[q].2=V:=⟨_,rfl⟩
  have hKs:K.size=kv[q].1.length:=by rw [← hK];simp
  rw [hK] at hkey
  rw [hV] at hval
  clear hK hV
  by_cases h1:K.size=1
  · have hqj:q<jl:=by
     rcases Nat.lt_or_ge q jl with h|h
     · exact h
     · obtain rfl:q=jl:=by omega
       exact absurd (hKs.symm.trans h1) HJ.out
    have e1:((K.size:Int) != 1)=false:=by rw [h1];rfl
    clear hKs h1
    by_cases h3:V.size=1
    · have e3:((V.size:Int) != 1)=false:=by rw [h3];rfl
      clear h3
      go_wp2_with fail
      go_round
      case rel=>exact ⟨b,q+1,rfl,by go_num,by omega⟩
      case measure=>simp [intOf];omega
    · have e3:((V.size:Int) != 1)=true:=by rw [bne_iff_ne];omega
      clear h3
      go_wp2_with fail
      go_round
      case rel=>exact ⟨false,q+1,rfl,by go_num,by omega⟩
      case measure=>simp [intOf];omega
  · have e1:((K.size:Int) != 1)=true:=by rw [bne_iff_ne];omega
    clear hKs h1
    go_wp2_with fail
    refine CM.out.mono ?_
    rintro e w' ⟨rfl,hw⟩
    have HW:=Lib.hid hw
    clear hw
    go_wp2_with fail
    go_ret
    exact ⟨rfl,HW.out⟩
structure Ready (kv:List (List UInt8×ByteArray)) (rb:Nat) (W:World):Prop where
 ex:∃ br bt ts,W.cell? ⟨rb,3,none⟩=some (.iface 172 (.pointer (some ⟨br,0,none⟩)))∧TrieAt kv br bt ts W∧rb<br
set_option maxRecDepth 100000 in
set_option maxHeartbeats 8000000 in
theorem build_once (kv:List (List UInt8×ByteArray)) (rb b2 c n:Nat) (w:World) (hk:Words kv) (hr:Blk rb #[.int .u32 0,.int .i32 1,.int .u32 0,.nilIface,.slice (some ⟨b2,0,none⟩) (2*kv.length) c] w) (hb:BlkF b2 (2*kv.length) (strV (flatKV kv)) w)
  (hb2:b2<w.heap.size) (hrb:rb<w.heap.size) (hn:n≤rb):OnceRun rb w (fun w'=>Ready kv rb w'∧Below n w w'):=by
 refine ⟨?_⟩
 have hc4:=hr.cell 4 (by simp)
 simp only [List.getElem?_toArray,List.getElem?_cons_succ,List.getElem?_cons_zero] at hc4
 have C:=Lib.hid (build_gen kv rb b2 c w hk hc4 hb hb2)
 have HR:=Lib.hid hr
 clear hr hc4 hb hb2 hk
 go_enter Tryz.func74,Tryz.ntmps74
 go_wp2_with fail
 refine C.out.mono ?_
 rintro e w1 ⟨rfl,bt,ts,hT,hB⟩
 have hr1:=HR.out.below hB hrb
 have c3:=hr1.cell 3 (by simp)
 simp only [List.getElem?_toArray,List.getElem?_cons_succ,List.getElem?_cons_zero] at c3
 have c4:=fun x=>(hr1.set 3 x (by simp)).cell 4 (by simp)
 simp only [List.setIfInBounds_toArray,List.set_cons_succ,List.set_cons_zero,List.getElem?_toArray,List.getElem?_cons_succ,List.getElem?_cons_zero] at c4
 have hf:=hr1.open_
 have hfin:=fun x y=>(hr1.set 3 x (by simp)).set 4 y (by simp)
 simp only [List.setIfInBounds_toArray,List.set_cons_succ,List.set_cons_zero] at hfin
 have HF:=Lib.hid hfin
 have HT:=Lib.hid (fun x y=>(hT.put (b0:=rb) (k:=3) x hrb).put (b0:=rb) (k:=4) y hrb)
 have HB:=Lib.hid (fun x y=>((hB.mono (show n≤w.heap.size by omega)).setCell (p:=⟨rb,3,none⟩) hn x).setCell (p:=⟨rb,4,none⟩) hn y)
 clear hr1 hfin hT hB C HR
 go_wp2_with fail
 go_end0
 refine ⟨rfl,?_,?_,?_,?_,⟨⟨w.heap.size,bt,ts,?_,HT.out _ _,hrb⟩⟩,HB.out _ _⟩
 · exact (HF.out _ _).cell 0 (by simp)
 · exact (HF.out _ _).cell 1 (by simp)
 · exact (HF.out _ _).open_ 0
 · exact (HF.out _ _).open_ 1
 · exact (HF.out _ _).cell 3 (by simp)
theorem meth_rep (n:Nat) (a:Addr) (w:World):(method (n+1) 172 (.pointer (some a)) "Replace").run Tryz.prog w = .ok (268,.pointer (some a)) w:=by kernel_rfl
set_option maxRecDepth 100000 in
set_option maxHeartbeats 8000000 in
theorem repl_replace (kv:List (List UInt8×ByteArray)) (rb b2 c n:Nat) (s:List UInt8) (w0 w:World) (hk:Words kv) (hN:NewR (flatKV kv) rb b2 c w0 w) (hn:n≤w0.heap.size) (hs:s.length≤100000) (hr:(replS (pairF kv) 0 s).length≤100000000) :
  Calls Tryz.prog 52 #[.pointer (some ⟨rb,0,none⟩),.string (B s)] w fun e w'=>e = .returned (.string (B (replS (pairF kv) 0 s)))∧Below n w w':=by
 have hlen:=flatKV_length kv
 obtain ⟨hblk,hold,hbel,hle⟩:=hN
 rw [hlen] at hblk hold
 have h1:=hblk.set 1 (.int .i32 1) (by simp)
 simp only [List.setIfInBounds_toArray,List.set_cons_succ,List.set_cons_zero] at h1
 have hon:=build_once kv rb b2 c n (w.setCell ⟨rb,1,none⟩ (.int .i32 1)) hk h1 (hold.other 1 _ (by omega)) (by simp;omega) (by simp;omega) (by omega)
 have g0:=hblk.cell 0 (by simp)
 have g1:=hblk.cell 1 (by simp)
 have C:=Lib.hid (once_do rb _ w g0 g1 (hblk.open_ 0) (hblk.open_ 1) hon)
 have hrn:n≤rb:=by omega
 have hnw:n≤w.heap.size:=by omega
 have hmf:∀ (fn:Fn) (first cap:Array Value) (w:World),(Instr.makeFunc fn first cap).run Tryz.prog w = .ok (.func fn first cap) w:=fun _ _ _ _=>rfl
 clear hblk hold hbel h1 hon g0 g1 hlen hle
 go_enter Tryz.func52,Tryz.ntmps52
 go_wp2_with fail
 refine C.out.mono ?_
 rintro e w1 ⟨rfl,w2,⟨⟨br,bt,ts,hc3,hT,hlt⟩,hB⟩,rfl⟩
 have hd:Below w2.heap.size w2 w2.drew:=Below.drew (Below.refl _ _)
 have hT2:=((hT.below hd).put (b0:=rb) (k:=0) (.int .u32 1) hlt).put (b0:=rb) (k:=1) (.int .i32 0) hlt
 have c3:((w2.drew.setCell ⟨rb,0,none⟩ (.int .u32 1)).setCell ⟨rb,1,none⟩ (.int .i32 0)).cell? ⟨rb,3,none⟩=some (.iface 172 (.pointer (some ⟨br,0,none⟩))):=by
  rw [World.cell?_setCell_other _ _ _ _ (ne_off (by decide)),World.cell?_setCell_other _ _ _ _ (ne_off (by decide))]
  exact hc3
 have hbl:Below n w ((w2.drew.setCell ⟨rb,0,none⟩ (.int .u32 1)).setCell ⟨rb,1,none⟩ (.int .i32 0)):=by
  refine ((Below.drew ?_).setCell hrn _).setCell hrn _
  exact ((Below.refl n w).setCell (p:=⟨rb,1,none⟩) hrn _).trans hB
 generalize (w2.drew.setCell ⟨rb,0,none⟩ (.int .u32 1)).setCell ⟨rb,1,none⟩ (.int .i32 0)=W3 at hT2 c3 hbl ⊢
 have D:=Lib.hid (gen_replace kv br bt ts s W3 hT2 hs hk.vals hr)
 have HBL:=Lib.hid hbl
 have hme:=meth_rep
 clear hT hT2 hd hB hc3 hbl C hk
 go_wp2_with fail
 refine D.out.mono ?_
 rintro e w4 ⟨rfl,hb4⟩
 have HB4:=Lib.hid (HBL.out.trans (hb4.mono (Nat.le_trans hnw HBL.out.size)))
 clear hb4 D
 go_wp2_with fail
 go_ret
 exact ⟨rfl,HB4.out⟩
end Go.Proofs.YtcecjoaeolglbaaGreatDoor.Hand
end

section
namespace Go.Proofs.YtcecjoaeolglbaaGreatDoor.Hand
open Go.RowKit Go.Proofs.YtcecjoaeolglbaaGreatDoor.Pb Go.Proofs.YtcecjoaeolglbaaGreatDoor.Pl
theorem replS_length {f:UInt8→Option (List UInt8×List UInt8)} (hf:∀ c t v,f c=some (t,v)→v.length≤100):∀ (s:List UInt8) (k:Nat),(replS f k s).length≤100*s.length:=by
 intro s
 induction s with
 | nil=>intro k;rw [replS_nil];simp
 | cons c r ih =>
   intro k
   cases k with
   | succ k=>have:=ih k;simp only [replS,List.length_cons];omega
   | zero =>
     simp only [replS]
     split
     · rename_i t v h
       have h1:=hf c t v h
       split
       · have:=ih t.length;simp only [List.length_append,List.length_cons];omega
       · have:=ih 0;simp only [List.length_cons];omega
     · have:=ih 0;simp only [List.length_cons];omega
theorem pairF_val {kv:List (List UInt8×ByteArray)} (hv:∀ x∈kv,x.2.size≤100) (c:UInt8) (t v:List UInt8) (h:pairF kv c=some (t,v)):v.length≤100:=by
 obtain ⟨j,hj,_,e⟩:=pairF_some h
 have:=hv _ (List.getElem_mem hj)
 rw [e] at this
 simpa using this
set_option maxRecDepth 100000 in
set_option maxHeartbeats 2000000 in
theorem replace_c (kv:List (List UInt8×ByteArray)) (hk:Words kv) (bo cap:Nat) (s:List UInt8) (w:World) (ho:BlkF bo (2*kv.length) (strV (flatKV kv)) w) (hbo:bo<w.heap.size) (hs:s.length≤100000) :
  Calls Tryz.prog 71 #[.string (B s),.slice (some ⟨bo,0,none⟩) (2*kv.length) cap] w fun e w'=>e = .returned (.string (B (replS (pairF kv) 0 s)))∧Below w.heap.size w w':=by
 have hl:=flatKV_length kv
 have hr:(replS (pairF kv) 0 s).length≤100000000:=by
  have:=replS_length (pairF_val hk.vals) s 0
  omega
 have h2:=hk.two
 have hm:=hk.many
 have C1:=new_replacer bo cap (flatKV kv) w (by rw [hl];exact ho) hbo (by omega) (by omega) (by omega)
 rw [hl] at C1
 replace C1:=Lib.hid C1
 have C2:=Lib.hid (fun rb b2 c w1 (hN:NewR (flatKV kv) rb b2 c w w1)=>repl_replace kv rb b2 c w.heap.size s w w1 hk hN (Nat.le_refl _) hs hr)
 clear hl hr h2 hm hk ho hbo
 go_enter Tryz.func71,Tryz.ntmps71
 go_wp2_with fail
 refine C1.out.mono ?_
 rintro e w1 ⟨rb,b2,c,rfl,hN⟩
 have HN:=Lib.hid hN
 clear hN C1
 go_wp2_with fail
 refine (C2.out rb b2 c _ HN.out).mono ?_
 rintro e w2 ⟨rfl,hb⟩
 have HB:=Lib.hid (HN.out.below.trans hb)
 clear hb C2 HN
 go_wp2_with fail
 go_ret
 exact ⟨rfl,HB.out⟩
def escP:List (List UInt8×ByteArray):=[([38],B wAmp),([60],B wLt),([62],B wGt),([34],B wQuot),([39],B wApos),([13],B wCr),([0],B wBad),([239,187,191],B wMark)]
theorem escP_pair:pairF escP=escF:=by
 funext c
 have:∀ n:Fin 256,pairF escP (UInt8.ofNat n.val)=escF (UInt8.ofNat n.val):=by decide +kernel
 have h':=this ⟨c.toNat,c.toNat_lt⟩
 simpa using h'
theorem heads_of {kv:List (List UInt8×ByteArray)} (h:(∀ x∈kv,x.1≠[])∧∀ i j:Fin kv.length,i≠j→kv[i].1.head? ≠ kv[j].1.head?):Heads kv :=
 ⟨h.1,fun i j hi hj hne=>h.2 ⟨i,hi⟩ ⟨j,hj⟩ (by simpa using hne)⟩
theorem escP_words:Words escP where
 heads:=heads_of (by decide +kernel)
 lens:=by decide +kernel
 vals:=by decide +kernel
 many:=by decide
 cnt:=by decide +kernel
 long:=⟨7,by decide,by decide⟩
 two:=by decide
def escCells:Array Value := #[.string ⟨#[38]⟩,.string ⟨#[38,97,109,112,59]⟩,.string ⟨#[60]⟩,.string ⟨#[38,108,116,59]⟩,.string ⟨#[62]⟩,.string ⟨#[38,103,116,59]⟩,.string ⟨#[34]⟩,.string ⟨#[38,113,117,111,116,59]⟩,
 .string ⟨#[39]⟩,.string ⟨#[38,35,51,57,59]⟩,.string ⟨#[13]⟩,.string ⟨#[38,35,49,51,59]⟩,.string ⟨#[0]⟩,.string ⟨#[239,191,189]⟩,.string ⟨#[239,187,191]⟩,.string ⟨#[38,35,54,53,50,55,57,59]⟩]
theorem cells_strs {l:List ByteArray} {cs:Array Value} (h:cs.toList=l.map .string) (t:TypeId) (w:World):BlkF w.heap.size l.length (strV l) (w.alloc (.cells cs t)):=by
 refine ⟨fun j hj=>(World.cell?_alloc_at _ _ _ j rfl).trans ?_,fun j=>World.frozen?_alloc_at _ _ _ j rfl⟩
 rw [← strV_get l j hj,← h,Array.getElem?_toList]
theorem sign_mark:signB 65279=⟨#[239,187,191]⟩:=by rfl
set_option maxRecDepth 100000 in
set_option maxHeartbeats 2000000 in
theorem marked_c (s:List UInt8) (w:World) (hs:s.length≤100000) :
  Calls Tryz.prog 46 #[.string (B s)] w fun e w'=>e = .returned (.string (B (escL s)))∧Below w.heap.size w w':=by
 have C1:=sign_c 65279 w (by omega)
 rw [sign_mark] at C1
 replace C1:=Lib.hid C1
 have hF:BlkF w.heap.size (2*escP.length) (strV (flatKV escP)) (w.alloc (.cells escCells 9)):=cells_strs (l:=flatKV escP) rfl 9 w
 have C2:Hid (Calls Tryz.prog 71 #[.string (B s),.slice (some ⟨w.heap.size,0,none⟩) 16 16] (w.alloc (.cells escCells 9)) fun e w'=>e = .returned (.string (B (escL s)))∧Below w.heap.size w w'):=Lib.hid (by
  have:=replace_c escP escP_words w.heap.size 16 s _ hF (by simp) hs
  rw [escP_pair] at this
  refine this.mono ?_
  rintro e w' ⟨h1,h2⟩
  exact ⟨h1,(Below.alloc (Below.refl _ _) (Nat.le_refl _) (.cells escCells 9)).trans (h2.mono (by simp))⟩)
 clear hF
 unfold escCells at C2
 go_enter Tryz.func46,Tryz.ntmps46
 go_wp2_with fail
 refine C1.out.mono ?_
 rintro e w1 ⟨rfl,rfl⟩
 go_wp2_with fail
 refine C2.out.mono ?_
 rintro e w2 ⟨rfl,hb⟩
 go_wp2_with fail
 go_ret
 exact ⟨rfl,hb⟩
theorem pre10 (s:List UInt8):Lib.hasPrefix s [10]=(s.head? == some 10):=by
 cases s with
 | nil=>rfl
 | cons c r=>rw [Bool.eq_iff_iff];simp only [Lib.hasPrefix,List.isPrefixOf,Bool.and_true,beq_iff_eq,List.head?_cons,Option.some.injEq];exact eq_comm
set_option maxRecDepth 100000 in
set_option maxHeartbeats 4000000 in
theorem enc_c (k:Int) (s:List UInt8) (w:World) (hs:s.length≤100000) :
  Calls Tryz.prog 20 #[.int .i64 k,.string (B s)] w fun e w'=>e = .returned (.string (B (encL k s)))∧Below w.heap.size w w':=by
 have C1:=Lib.hid (fun W=>marked_c s W hs)
 have C2:=fun W=>hasPrefix_t (B s) ⟨#[10]⟩ W
 have hpre:Lib.hasPrefix (B s).data.toList (⟨#[10]⟩:ByteArray).data.toList=(s.head? == some 10):=by rw [B_data];exact pre10 s
 rw [hpre] at C2
 clear hpre
 obtain ⟨a,ha⟩:∃ a,B s=a:=⟨_,rfl⟩
 rw [ha] at C1 C2 ⊢
 replace C2:=Lib.hid C2
 clear ha
 by_cases h0:k=0
 · subst h0
   have hr:encL 0 s=escL s:=by simp [encL]
   rw [hr]
   go_enter Tryz.func20,Tryz.ntmps20
   go_wp2_with fail
   refine (C1.out _).mono ?_
   rintro e w1 ⟨rfl,hb⟩
   go_wp2_with fail
   go_ret
   exact ⟨rfl,hb⟩
 by_cases h1:k=1
 · subst h1
   have hr:encL 1 s=escL s:=by simp [encL]
   rw [hr]
   go_enter Tryz.func20,Tryz.ntmps20
   go_wp2_with fail
   refine (C1.out _).mono ?_
   rintro e w1 ⟨rfl,hb⟩
   go_wp2_with fail
   go_ret
   exact ⟨rfl,hb⟩
 by_cases h2:k=2
 · subst h2
   cases hh:(s.head? == some 10) with
   | true =>
     rw [hh] at C2
     have hr:B (encL 2 s)=⟨#[10]⟩++B (escL s):=by
      have h:s.head? = some 10:=by simpa using hh
      have e:encL 2 s=[10]++escL s:=by simp [encL,h]
      rw [e,← B_append];rfl
     rw [hr]
     have hz:(escL s).length≤100000000:=by
      have:=(esc_length s.length s (Nat.le_refl _)).1
      omega
     have hz2:(B (escL s)).size≤100000000:=by simpa using hz
     obtain ⟨b,hb'⟩:∃ b,B (escL s)=b:=⟨_,rfl⟩
     rw [hb'] at C1 hz2 ⊢
     clear hh hr hz hb' h0 h1
     go_enter Tryz.func20,Tryz.ntmps20
     go_wp2_with fail
     refine (C1.out _).mono ?_
     rintro e w1 ⟨rfl,hb⟩
     go_wp2_with fail
     refine (C2.out _).mono ?_
     rintro e w2 ⟨rfl,rfl⟩
     go_wp2_with fail
     go_ret
     exact ⟨rfl,hb⟩
   | false =>
     rw [hh] at C2
     have hr:encL 2 s=escL s:=by
      have h:¬ s.head? = some 10:=by simpa using hh
      simp [encL,h]
     rw [hr]
     clear hh hr h0 h1
     go_enter Tryz.func20,Tryz.ntmps20
     go_wp2_with fail
     refine (C1.out _).mono ?_
     rintro e w1 ⟨rfl,hb⟩
     go_wp2_with fail
     refine (C2.out _).mono ?_
     rintro e w2 ⟨rfl,rfl⟩
     go_wp2_with fail
     go_ret
     exact ⟨rfl,hb⟩
 · have hr:encL k s=[]:=by simp [encL,h0,h1,h2]
   rw [hr]
   have e0:(k != 0)=true:=by rw [bne_iff_ne];exact h0
   have e1:(k != 1)=true:=by rw [bne_iff_ne];exact h1
   have e2:(k != 2)=true:=by rw [bne_iff_ne];exact h2
   clear h0 h1 h2 hr
   go_enter Tryz.func20,Tryz.ntmps20
   go_wp2_with fail
   go_ret
   exact ⟨rfl,Below.refl _ _⟩
end Go.Proofs.YtcecjoaeolglbaaGreatDoor.Hand
end

section
namespace Go.Proofs.YtcecjoaeolglbaaGreatDoor.Hand
open Go Go.RowKit Go.Proofs.YtcecjoaeolglbaaGreatDoor.K0 Go.Proofs.YtcecjoaeolglbaaGreatDoor.Pl Go.Proofs.YtcecjoaeolglbaaGreatDoor.Pb Go.Proofs.YtcecjoaeolglbaaGreatDoor.Pure Go.Proofs.YtcecjoaeolglbaaGreatDoorW.PrintWords
theorem conv_deco (t:List UInt8) (hz:t.length≤100000) (W:World):∃ v W',(convert 9 27 (.string (B t))).run Tryz.prog W = .ok v W'∧Below W.heap.size W W' ∧
  Calls Tryz.prog 19 #[v] W' fun e w'=>e = .returned (.string (B (decL (trimL t))))∧Below W'.heap.size W' w':=by
 have hconv:=Lib.run_convert_string_bytes (P:=Tryz.prog) W 9 27 5 (B t) Tryz.underlying9 Tryz.underlying27 Tryz.underlying5
 refine ⟨_,_,hconv,below_bytesWorld W 5 (B t),?_⟩
 rw [size_B]
 refine decode_at t W.heap.size _ _ hz fun j hj => ?_
 rw [Lib.bytesWorld_cell W 5 (B t) j (by rw [size_B];exact hj),B_data]
theorem right_x {s:List UInt8} {b:Bool} (h:rightL s=b) (w:World) :
 Calls Tryz.prog 17 #[.string (B s)] w fun e w'=>e = .returned (.bool b)∧Below w.heap.size w w':=by rw [← h];exact right_c s w
theorem clean_head {s:List UInt8} (h:s.head? ≠ some 10):trimN (cleanL s)=cleanL s:=by
 cases s with
 | nil=>rfl
 | cons c r =>
   have hc:c≠10:=fun e=>h (by rw [e];rfl)
   rw [cleanL_cons]
   unfold cleanB
   by_cases h0:c=0
   · rw [if_pos h0];rfl
   · rw [if_neg h0]
     show (if c=10 then _ else _)=_
     rw [if_neg hc];rfl
theorem enc_no2 (k:Int) (s:List UInt8):(60:UInt8)∉encL k s∧(34:UInt8)∉encL k s∧(39:UInt8)∉encL k s∧(13:UInt8)∉encL k s:=by
 have h:=Pcq.scan_all _ _ (scan_enc k s)
 exact ⟨fun m=>(h _ m).1 rfl,fun m=>(h _ m).2.2.1 rfl,fun m=>(h _ m).2.2.2.1 rfl,fun m=>(h _ m).2.2.2.2.2 rfl⟩
theorem reads_back (k:Int) (hk:k=0∨k=1∨k=2) (single:Bool) (s:List UInt8):parseL k single (encL k s)=(cleanL s,true):=by
 obtain ⟨h1,h2,h3,h4⟩:=enc_no2 k s
 have hn:=normL_of_no13 h4
 have h5:=Pcq.clean_twice s
 have hr:=read_enc false k (by omega) s
 rcases hk with rfl|rfl|rfl
 · rw [parse0,hn,only_txt h1,hr,if_neg (by omega)]
 · exact Pcq.parse_enc single s
 · rw [parse2,hn,within_txt single (area_plain h1) rfl,hr]
   by_cases he:s.head? = some 10
   · rw [if_pos ⟨rfl,he⟩,cleanL_cons,h5];rfl
   · rw [if_neg (fun e=>he e.2),h5,clean_head he]
set_option maxRecDepth 100000 in
set_option maxHeartbeats 4000000 in
theorem ContextReads_law (d:Int) (single:Bool) (a2:ByteArray) (w:World) (hk:(Lit.int .u8 d).wf=true) (_:a2.size≤140737488351232) (hGl:Glob w) :
  Calls Tryz.prog 3 #[.int .u8 d,.bool single,.string a2] w fun e w'=>e = .returned (.bool true)∧Below w.heap.size w w':=by
 have hw:=int_wfc hk
 have hd0:0≤d:=Int.le_trans (by decide) hw.1
 have hd1:d≤255:=Int.le_trans hw.2 (by decide)
 have AW:=Lib.hid (fun W hG=>Sp.flaillaw23_awake.calls true W hG awake23)
 have HG:=Lib.hid hGl
 clear hk hGl hw
 by_cases c1:300<a2.size
 · have q1:decide (300<a2.size)=true:=decide_eq_true c1
   have q1':decide ((300:Int)<(a2.size:Int))=true:=decide_eq_true (by omega)
   clear c1
   go_enter Tryz.func3,Tryz.ntmps3
   go_wp2_with fail
   refine (AW.out _ HG.out).mono ?_
   rintro e w1 ⟨rfl,hb⟩
   go_wp2_with fail
   go_ret
   exact ⟨rfl,hb⟩
 have q1:decide (300<a2.size)=false:=decide_eq_false c1
 have q1':decide ((300:Int)<(a2.size:Int))=false:=decide_eq_false (by omega)
 obtain ⟨s,rfl⟩:=exists_B a2
 have hs:s.length≤300:=by rw [size_B] at c1;omega
 clear c1
 cases r1:rightL s with
 | false =>
   have R1:=Lib.hid (fun W=>right_x r1 W)
   obtain ⟨a,ha⟩:∃ a,B s=a:=⟨_,rfl⟩
   rw [ha] at q1 q1' R1 ⊢
   clear ha r1
   go_enter Tryz.func3,Tryz.ntmps3
   go_wp2_with fail
   refine (AW.out _ HG.out).mono ?_
   rintro e w1 ⟨rfl,hb⟩
   have HB:=Lib.hid hb
   clear hb
   go_wp2_with fail
   refine (R1.out _).mono ?_
   rintro e w2 ⟨rfl,hb⟩
   replace HB:=Lib.hid (HB.out.trans (hb.mono HB.out.size))
   clear hb
   go_wp2_with fail
   go_ret
   exact ⟨rfl,HB.out⟩
 | true =>
   obtain ⟨k,hk⟩:∃ k,d % 3=k:=⟨_,rfl⟩
   have hk3:k=0∨k=1∨k=2:=by omega
   have R1:=Lib.hid (fun W=>right_x r1 W)
   have E1:=Lib.hid (fun W=>enc_c k s W (by omega))
   have zl:=enc_length k s
   have V:=fun W=>conv_deco (encL k s) (by omega) W
   rw [dec_enc k r1] at V
   have PA:=fun W hG=>parse_c k single (encL k s) (by omega) W hG
   rw [reads_back k hk3 single s] at PA
   have CR:∀ W,Glob W→Calls Tryz.prog 21 #[.string (B s)] W fun e w'=>e = .returned (.string (B (cleanL s)))∧Below W.heap.size W w':=fun W hG=>by
    have:=clean_any (B s) W (by rw [size_B];omega) hG
    unfold cleanBA at this
    rw [B_data] at this
    exact this
   have HV:=Lib.hid V
   have HP:=Lib.hid PA
   have HC:=Lib.hid CR
   obtain ⟨r,hr⟩:∃ a,B (encL k s)=a:=⟨_,rfl⟩
   obtain ⟨a,ha⟩:∃ a,B s=a:=⟨_,rfl⟩
   obtain ⟨c,hc⟩:∃ a,B (cleanL s)=a:=⟨_,rfl⟩
   rw [hr] at E1 HV HP
   rw [hc] at HP HC
   rw [ha] at q1 q1' R1 E1 HC ⊢
   have m1:d.tmod 3=k:=by rw [Int.tmod_eq_emod_of_nonneg hd0];exact hk
   clear ha r1 hr V PA CR zl hs hc hk3
   go_enter Tryz.func3,Tryz.ntmps3
   go_wp2_with fail
   refine (AW.out _ HG.out).mono ?_
   rintro e w1 ⟨rfl,hb⟩
   have HB:=Lib.hid hb
   clear hb
   go_wp2_with fail
   refine (R1.out _).mono ?_
   rintro e w2 ⟨rfl,hb⟩
   replace HB:=Lib.hid (HB.out.trans (hb.mono HB.out.size))
   clear hb
   go_wp2_with fail
   refine (E1.out _).mono ?_
   rintro e w3 ⟨rfl,hb⟩
   replace HB:=Lib.hid (HB.out.trans (hb.mono HB.out.size))
   clear hb
   obtain ⟨v,w4,hv,hb,D⟩:=HV.out w3
   have HB4:=Lib.hid (HB.out.trans (hb.mono HB.out.size))
   have HD:=Lib.hid D
   clear hb D
   go_wp2_with fail
   refine HD.out.mono ?_
   rintro e w5 ⟨rfl,hb⟩
   replace HB:=Lib.hid (HB4.out.trans (hb.mono HB4.out.size))
   clear hb hv HD HB4
   go_wp2_with fail
   refine (HP.out _ (HG.out.step HB.out)).mono ?_
   rintro e w6 ⟨rfl,hb⟩
   replace HB:=Lib.hid (HB.out.trans (hb.mono HB.out.size))
   clear hb
   go_wp2_with fail
   refine (HC.out _ (HG.out.step HB.out)).mono ?_
   rintro e w7 ⟨rfl,hb⟩
   replace HB:=Lib.hid (HB.out.trans (hb.mono HB.out.size))
   clear hb
   go_wp2_with fail
   go_ret
   exact ⟨by simp,HB.out⟩
end Go.Proofs.YtcecjoaeolglbaaGreatDoor.Hand
end
