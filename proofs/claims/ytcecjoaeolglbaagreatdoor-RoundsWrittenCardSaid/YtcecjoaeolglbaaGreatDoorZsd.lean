/-
  Texts that several claims of this seat share, merged by a program of this session (4).
-/
import Derived.LoopN
import Derived.ChangeKeysEq
import Derived.Laws.Rows
import Derived.Laws.Cells
import Derived.Lib.Index
import Derived.RangeFuncNested
import Derived.RangeFuncBound
import Derived.RangeFuncCalls
import Derived.RangeFuncLeaves
import Derived.RangeFuncFrom
import Derived.Shelf.Abstract
import Derived.Shelf.RegionOpen
import Derived.OwnWalkIn
import Derived.TacticsInMore
import Derived.LoopNIn
import Derived.LoopIn
import Derived.StringKeys
import Derived.Maps.OwnOps
import Derived.Maps.OwnSet
import Derived.Test.YtcecjoaeolglbaaGreatDoorProg
import Derived.Below
import Derived.Deep.Draws
import Derived.Deep.AppendLies
import Derived.Maps.AppendAt
import Derived.OwnWalk
import Derived.Laws.BytesArg
import Derived.Laws.MakeOwn
import Derived.Laws.OwnMore
import Derived.Deep.OwnRows
import Derived.Tactics
import Derived.Lib.ConvBytes
import Derived.Laws.Slices
import Derived.WalkKit
import Derived.KernelRfl
import Derived.RowKit3
import Derived.Deep.LoopGhost
import Derived.Deep.QuietTactic
import Derived.BigQuiet
import Derived.WideLaws
import Derived.Deep.DeepCutAuto
import Derived.Deep.CutBlock
import Derived.Deep.RegionHeld3
import Derived.Lib.AppendStr
import Derived.ArgAppend
import Derived.Laws.IdiomCopy
import Derived.OrdersHeld
import Derived.Laws.BitsLemmas
import Derived.RowKit
import Derived.Test.YtcecjoaeolglbaaGreatDoorZsc
set_option linter.unusedVariables false
set_option linter.unusedSimpArgs false
section
namespace Go.Proofs.YtcecjoaeolglbaaGreatDoor.Hand
open Go.RowKit Go.Proofs.YtcecjoaeolglbaaGreatDoor.K0 Go.Proofs.YtcecjoaeolglbaaGreatDoor.Pl Go.Proofs.YtcecjoaeolglbaaGreatDoorW.PrintWords Go.Proofs.YtcecjoaeolglbaaGreatDoorW.PrintLast Go.Proofs.YtcecjoaeolglbaaGreatDoorW.PrintMore
theorem cells9:Tryz.prog.cellsOf 9=1:=by kernel_rfl
theorem plain9:Tryz.prog.plainKey 9=true:=by kernel_rfl
theorem wrapId {n:Int} (h0 : -9223372036854775808≤n) (h:n<9223372036854775808):wrap64 n=n:=by unfold wrap64;omega
structure Tok (b:Nat) (v:Array Value) (W:World):Prop where
 cell:∀ j,j<5→W.cell? ⟨b,j,none⟩=v[j]?
 open_:∀ j,W.frozen? ⟨b,j,none⟩=false
theorem Tok.of_alloc (v:Array Value) (t:TypeId) (w:World):Tok w.heap.size v (w.alloc (.cells v t)) :=
 ⟨fun j _=>World.cell?_alloc_at v t _ j rfl,fun j=>World.frozen?_alloc_at v t _ j rfl⟩
theorem Tok.below {b:Nat} {v:Array Value} {W W':World} (h:Tok b v W) {n:Nat} (hb:Below n W W') (hn:b<n):Tok b v W' :=
 ⟨fun j hj=>(hb.cell (p:=⟨b,j,none⟩) hn).trans (h.cell j hj),fun j=>(hb.frozen (p:=⟨b,j,none⟩) hn).trans (h.open_ j)⟩
def putTok (W:World) (b:Nat) (x0 x1 x2 x3 x4:Value):World :=
 ((((W.setCell ⟨b,0,none⟩ x0).setCell ⟨b,1,none⟩ x1).setCell ⟨b,2,none⟩ x2).setCell ⟨b,3,none⟩ x3).setCell ⟨b,4,none⟩ x4
theorem put_below {w W:World} (b:Nat) (hb:w.heap.size≤b) (h:Below w.heap.size w W) (x0 x1 x2 x3 x4:Value):Below w.heap.size w (putTok W b x0 x1 x2 x3 x4) :=
 ((((h.setCell hb _).setCell hb _).setCell hb _).setCell hb _).setCell hb _
section
variable {b : Nat} {y0 y1 y2 y3 y4 : Value} {W : World} (h : Tok b #[y0, y1, y2, y3, y4] W)
include h
theorem Tok.f1 (x0:Value):(W.setCell ⟨b,0,none⟩ x0).cell? ⟨b,1,none⟩=some y1:=by rw [World.cell?_setCell_other _ _ _ _ (ne_off (by decide)),h.cell 1 (by decide)];rfl
theorem Tok.f2 (x0 x1:Value):((W.setCell ⟨b,0,none⟩ x0).setCell ⟨b,1,none⟩ x1).cell? ⟨b,2,none⟩=some y2:=by
 rw [World.cell?_setCell_other _ _ _ _ (ne_off (by decide)),World.cell?_setCell_other _ _ _ _ (ne_off (by decide)),h.cell 2 (by decide)];rfl
theorem Tok.f3 (x0 x1 x2:Value):(((W.setCell ⟨b,0,none⟩ x0).setCell ⟨b,1,none⟩ x1).setCell ⟨b,2,none⟩ x2).cell? ⟨b,3,none⟩=some y3:=by
 rw [World.cell?_setCell_other _ _ _ _ (ne_off (by decide)),World.cell?_setCell_other _ _ _ _ (ne_off (by decide)),World.cell?_setCell_other _ _ _ _ (ne_off (by decide)),h.cell 3 (by decide)];rfl
theorem Tok.f4 (x0 x1 x2 x3:Value):((((W.setCell ⟨b,0,none⟩ x0).setCell ⟨b,1,none⟩ x1).setCell ⟨b,2,none⟩ x2).setCell ⟨b,3,none⟩ x3).cell? ⟨b,4,none⟩=some y4:=by
 rw [World.cell?_setCell_other _ _ _ _ (ne_off (by decide)),World.cell?_setCell_other _ _ _ _ (ne_off (by decide)),World.cell?_setCell_other _ _ _ _ (ne_off (by decide)),World.cell?_setCell_other _ _ _ _ (ne_off (by decide)),h.cell 4 (by decide)];rfl
end
theorem Tok.put {b:Nat} {y0 y1 y2 y3 y4:Value} {W:World} (h:Tok b #[y0,y1,y2,y3,y4] W) (x0 x1 x2 x3 x4:Value):Tok b #[x0,x1,x2,x3,x4] (putTok W b x0 x1 x2 x3 x4):=by
 unfold putTok
 refine ⟨fun j hj => ?_,fun j=>by simp only [World.frozen?_setCell];exact h.open_ j⟩
 match j,hj with
 | 0,_ =>
   rw [World.cell?_setCell_other _ _ _ _ (ne_off (by decide)),World.cell?_setCell_other _ _ _ _ (ne_off (by decide)),World.cell?_setCell_other _ _ _ _ (ne_off (by decide)),World.cell?_setCell_other _ _ _ _ (ne_off (by decide)),World.cell?_setCell_same _ _ _ (h.cell 0 (by decide))];rfl
 | 1,_ =>
   rw [World.cell?_setCell_other _ _ _ _ (ne_off (by decide)),World.cell?_setCell_other _ _ _ _ (ne_off (by decide)),World.cell?_setCell_other _ _ _ _ (ne_off (by decide)),World.cell?_setCell_same _ _ _ (h.f1 _)];rfl
 | 2,_ =>
   rw [World.cell?_setCell_other _ _ _ _ (ne_off (by decide)),World.cell?_setCell_other _ _ _ _ (ne_off (by decide)),World.cell?_setCell_same _ _ _ (h.f2 _ _)];rfl
 | 3,_ =>
   rw [World.cell?_setCell_other _ _ _ _ (ne_off (by decide)),World.cell?_setCell_same _ _ _ (h.f3 _ _ _)];rfl
 | 4,_ =>
   rw [World.cell?_setCell_same _ _ _ (h.f4 _ _ _ _)];rfl
theorem Tok.load {b:Nat} {x0 x1 x2 x3 x4:Value} {W:World} (h:Tok b #[x0,x1,x2,x3,x4] W):(loadVar 46 ⟨b,0,none⟩).run Tryz.prog W = .ok (.agg #[x0,x1,x2,x3,x4]) W:=by
 have hl:(loadCells ⟨b,0,none⟩ [x0,x1,x2,x3,x4].length).run Tryz.prog W = .ok [x0,x1,x2,x3,x4].toArray W :=
  run_loadCells_list (P:=Tryz.prog) W ⟨b,0,none⟩ [x0,x1,x2,x3,x4] (fun j v hv=>by
   have hadd:(⟨b,0,none⟩:Addr).add j=⟨b,j,none⟩:=by unfold Addr.add;split<;>simp_all
   have hj:j<5:=by
    rcases Nat.lt_or_ge j 5 with h'|h'
    · exact h'
    · rw [List.getElem?_eq_none (by simpa using h')] at hv;cases hv
   rw [hadd,h.cell j hj,← hv];simp)
 have hagg:(isAgg 46).run Tryz.prog W = .ok true W:=by
  unfold isAgg
  rw [Sem.run_bind,run_underlying Tryz.underlying46 W]
  rfl
 obtain ⟨i,hi⟩:=info_of_underlying (P:=Tryz.prog) Tryz.underlying46
 have hc:Tryz.prog.cellsOf 46=5:=by kernel_rfl
 have hsz:=run_sizeOf (P:=Tryz.prog) W hi
 rw [hc] at hsz
 unfold loadVar
 rw [Sem.run_bind,hagg]
 simp only [Result.andThen_ok,if_true,Sem.run_bind,hsz]
 rw [show (5:Nat)=[x0,x1,x2,x3,x4].length from rfl,hl]
 rfl
theorem results_ctt {P:Program} {fn:Func} {p u v:Tmp} {ty:TypeId} {b:Nat} {X:Value} {tmps:Array Value} {w:World} (h:fn.results = #[.cell p ty,.tmp u,.tmp v]) (hp:tmps.getD p undef = .pointer (some ⟨b,0,none⟩))
  (hl:(loadVar ty ⟨b,0,none⟩).run P w = .ok X w):(results fn tmps).run P w = .ok (.tuple #[X,tmps.getD u undef,tmps.getD v undef]) w:=by
 have hp':tmps[p]?.getD undef = .pointer (some ⟨b,0,none⟩):=by simpa using hp
 simp only [results,h]
 first|simp [Result.andThen,hp',asAddr,hl]|simp [Sem.run_bind,Result.andThen,hp',asAddr,hl]
theorem hg_split {α:Type} {p:Prop} [Decidable p] {x:Option α} {r:α} (h:(if p then x else none)=some r):p∧x=some r:=by
 by_cases hp:p
 · rw [if_pos hp] at h;exact ⟨hp,h⟩
 · rw [if_neg hp] at h;cases h
theorem tup7 {α β γ δ ε ζ η:Type} {a a':α} {b b':β} {c c':γ} {d d':δ} {e e':ε} {f f':ζ} {g g':η} (h:some (a,b,c,d,e,f,g)=some (a',b',c',d',e',f',g')) :
  a=a'∧b=b'∧c=c'∧d=d'∧e=e'∧f=f'∧g=g':=by
 simp only [Option.some.injEq,Prod.mk.injEq] at h;exact h
def T0:Array Value := #[.int .i64 0,.string ⟨#[]⟩,.string ⟨#[]⟩,.slice none 0 0,.bool false]
end Go.Proofs.YtcecjoaeolglbaaGreatDoor.Hand
end

section
namespace Go.Proofs.YtcecjoaeolglbaaGreatDoor.Hand
open Go.RowKit Go.Proofs.YtcecjoaeolglbaaGreatDoor.Pl Go.Proofs.YtcecjoaeolglbaaGreatDoor.Sa Go.Proofs.YtcecjoaeolglbaaGreatDoorW.PrintWords Go.Proofs.YtcecjoaeolglbaaGreatDoorW.PrintLast Go.Proofs.YtcecjoaeolglbaaGreatDoorW.PrintMore
theorem arr83:Tryz.prog.underlying 201=some (.array 2 9):=by kernel_rfl
theorem arr84:Tryz.prog.underlying 202=some (.array 3 9):=by kernel_rfl
theorem ix2_0 (a b:ByteArray) (W:World):(Instr.index 201 (.agg #[.string a,.string b]) (.int .i64 0)).run Tryz.prog W = .ok (.string a) W:=by
 obtain ⟨i,hi⟩:=info_of_underlying (P:=Tryz.prog) Tryz.underlying9
 exact run_index_agg (j:=0) arr83 hi cells9 plain9 (by omega) rfl
theorem ix2_1 (a b:ByteArray) (W:World):(Instr.index 201 (.agg #[.string a,.string b]) (.int .i64 1)).run Tryz.prog W = .ok (.string b) W:=by
 obtain ⟨i,hi⟩:=info_of_underlying (P:=Tryz.prog) Tryz.underlying9
 exact run_index_agg (j:=1) arr83 hi cells9 plain9 (by omega) rfl
theorem ix3_0 (a b c:ByteArray) (W:World):(Instr.index 202 (.agg #[.string a,.string b,.string c]) (.int .i64 0)).run Tryz.prog W = .ok (.string a) W:=by
 obtain ⟨i,hi⟩:=info_of_underlying (P:=Tryz.prog) Tryz.underlying9
 exact run_index_agg (j:=0) arr84 hi cells9 plain9 (by omega) rfl
theorem ix3_1 (a b c:ByteArray) (W:World):(Instr.index 202 (.agg #[.string a,.string b,.string c]) (.int .i64 1)).run Tryz.prog W = .ok (.string b) W:=by
 obtain ⟨i,hi⟩:=info_of_underlying (P:=Tryz.prog) Tryz.underlying9
 exact run_index_agg (j:=1) arr84 hi cells9 plain9 (by omega) rfl
theorem ix3_2 (a b c:ByteArray) (W:World):(Instr.index 202 (.agg #[.string a,.string b,.string c]) (.int .i64 2)).run Tryz.prog W = .ok (.string c) W:=by
 obtain ⟨i,hi⟩:=info_of_underlying (P:=Tryz.prog) Tryz.underlying9
 exact run_index_agg (j:=2) arr84 hi cells9 plain9 (by omega) rfl
def cutV (s e0 e1:ByteArray) (k0 k1:Int):ByteArray×Int×Bool :=
 if 0≤k0 then (if 0≤k1∧k1<k0 then (s.extract 0 k1.toNat,k1+(e1.size:Int),true) else (s.extract 0 k0.toNat,k0+(e0.size:Int),true))
 else if 0≤k1 then (s.extract 0 k1.toNat,k1+(e1.size:Int),true) else (⟨#[]⟩,(s.size:Int),false)
set_option maxRecDepth 100000 in
set_option maxHeartbeats 4000000 in
theorem cut_any (s e0 e1:ByteArray) (w:World) (hs:s.size≤1000000000) (h0:e0.size≤1000) (h1:e1.size≤1000) (hGl:Glob w) :
  Calls Tryz.prog 175 #[.string s,.agg #[.string e0,.string e1]] w fun e w' =>
   e = .returned (.tuple #[.string (cutV s e0 e1 (Lib.index s.data.toList e0.data.toList) (Lib.index s.data.toList e1.data.toList)).1,.int .i64 (cutV s e0 e1 (Lib.index s.data.toList e0.data.toList) (Lib.index s.data.toList e1.data.toList)).2.1,
     .bool (cutV s e0 e1 (Lib.index s.data.toList e0.data.toList) (Lib.index s.data.toList e1.data.toList)).2.2])∧Below w.heap.size w w':=by
 have CA:∀ (x:ByteArray) (W:World),Glob W→Calls Tryz.prog 101 #[.string s,.string x] W fun e w'=>e = .returned (.int .i64 (Lib.index s.data.toList x.data.toList))∧w'=W:=by
  intro x W hG
  obtain ⟨m,hm⟩:=hG.out
  exact Tryz.strings_Index s x m W (by omega) hm
 have hG2:Glob (w.alloc (.cells #[.string e0,.string e1] 201)):=hGl.step (Below.alloc (Below.refl _ _) (Nat.le_refl _) _)
 have C0:=Lib.hid (CA e0 _ hG2)
 have C1:=Lib.hid (CA e1 _ hG2)
 clear CA hG2 hGl
 have I0:=ix2_0 e0 e1
 have I1:=ix2_1 e0 e1
 have b0:=Lib.index_ge s.data.toList e0.data.toList
 have b1:=Lib.index_ge s.data.toList e1.data.toList
 have t0:=Lib.index_le s.data.toList e0.data.toList
 have t1:=Lib.index_le s.data.toList e1.data.toList
 rw [Array.length_toList] at t0 t1
 obtain ⟨k0,hk0⟩:∃ k0,Lib.index s.data.toList e0.data.toList=k0:=⟨_,rfl⟩
 obtain ⟨k1,hk1⟩:∃ k1,Lib.index s.data.toList e1.data.toList=k1:=⟨_,rfl⟩
 rw [hk0] at C0 b0 t0
 rw [hk1] at C1 b1 t1
 rw [hk0,hk1]
 clear hk0 hk1
 have z:s.data.size=s.size:=rfl
 rw [z] at t0 t1
 clear z
 obtain ⟨V,hV0⟩:∃ V,cutV s e0 e1 k0 k1=V:=⟨_,rfl⟩
 rw [hV0]
 have hV:=Lib.hid hV0
 clear hV0
 go_enter Tryz.func175,Tryz.ntmps175
 go_wp2_with fail
 refine wp_loop_rounds 3 ?_
 rw [rounds_succ]
 go_wp2_with fail
 refine C0.out.mono ?_
 rintro e w1 ⟨rfl,rfl⟩
 clear C0 I0
 by_cases c0:0≤k0
 · have c0':¬ k0<0:=by omega
   have w0:wrap64 (k0+(e0.size:Int))=k0+(e0.size:Int):=wrapId (by omega) (by omega)
   go_wp2_with fail
   rw [rounds_succ]
   go_wp2_with fail
   refine C1.out.mono ?_
   rintro e w1 ⟨rfl,rfl⟩
   clear C1 I1
   by_cases c1:0≤k1
   · have w1:wrap64 (k1+(e1.size:Int))=k1+(e1.size:Int):=wrapId (by omega) (by omega)
     by_cases c2:k1<k0
     · have c1':¬ k1<0:=by omega
       go_wp2_with fail
       rw [rounds_succ]
       go_wp2_with fail
       go_ret3
       refine ⟨?_,Below.alloc (Below.refl _ _) (Nat.le_refl _) _⟩
       rw [← hV.out]
       unfold cutV
       rw [if_pos (by omega),if_pos (by omega)]
       rfl
     · have c1':¬ k1<0:=by omega
       go_wp2_with fail
       rw [rounds_succ]
       go_wp2_with fail
       go_ret3
       refine ⟨?_,Below.alloc (Below.refl _ _) (Nat.le_refl _) _⟩
       rw [← hV.out]
       unfold cutV
       rw [if_pos (by omega),if_neg (by omega)]
       rfl
   · have c1':k1<0:=by omega
     go_wp2_with fail
     rw [rounds_succ]
     go_wp2_with fail
     go_ret3
     refine ⟨?_,Below.alloc (Below.refl _ _) (Nat.le_refl _) _⟩
     rw [← hV.out]
     unfold cutV
     rw [if_pos (by omega),if_neg (by omega)]
     rfl
 · have c0':k0<0:=by omega
   go_wp2_with fail
   rw [rounds_succ]
   go_wp2_with fail
   refine C1.out.mono ?_
   rintro e w1 ⟨rfl,rfl⟩
   clear C1 I1
   by_cases c1:0≤k1
   · have w1:wrap64 (k1+(e1.size:Int))=k1+(e1.size:Int):=wrapId (by omega) (by omega)
     have c1':¬ k1<0:=by omega
     go_wp2_with fail
     rw [rounds_succ]
     go_wp2_with fail
     go_ret3
     refine ⟨?_,Below.alloc (Below.refl _ _) (Nat.le_refl _) _⟩
     rw [← hV.out]
     unfold cutV
     rw [if_neg (by omega),if_pos (by omega)]
     rfl
   · have c1':k1<0:=by omega
     go_wp2_with fail
     rw [rounds_succ]
     go_wp2_with fail
     go_ret3
     refine ⟨?_,Below.alloc (Below.refl _ _) (Nat.le_refl _) _⟩
     rw [← hV.out]
     unfold cutV
     rw [if_neg (by omega),if_neg (by omega)]
     rfl
def idx (s e:ByteArray):Int:=Lib.index s.data.toList e.data.toList
def cutW (s e0 e1:ByteArray):ByteArray×Int×Bool:=cutV s e0 e1 (idx s e0) (idx s e1)
theorem cut_c (s e0 e1:ByteArray) (w:World) (hs:s.size≤1000000000) (h0:e0.size≤1000) (h1:e1.size≤1000) (hGl:Glob w) :
  Calls Tryz.prog 175 #[.string s,.agg #[.string e0,.string e1]] w fun e w'=>e = .returned (.tuple #[.string (cutW s e0 e1).1,.int .i64 (cutW s e0 e1).2.1,.bool (cutW s e0 e1).2.2])∧Below w.heap.size w w' :=
 cut_any s e0 e1 w hs h0 h1 hGl
def cotherV (s:ByteArray):ByteArray×Int:=if (cutW s ⟨#[62]⟩ ⟨#[62]⟩).2.2=true then ((cutW s ⟨#[62]⟩ ⟨#[62]⟩).1,(cutW s ⟨#[62]⟩ ⟨#[62]⟩).2.1) else (s,(s.size:Int))
theorem cother_any (s:ByteArray) (w:World) (hs:s.size≤1000000000) (hGl:Glob w) :
  Calls Tryz.prog 128 #[.string s] w fun e w'=>e = .returned (.tuple #[.string (cotherV s).1,.int .i64 (cotherV s).2])∧Below w.heap.size w w':=by
 have C:=Lib.hid (cut_c s ⟨#[62]⟩ ⟨#[62]⟩ w hs (by decide) (by decide) hGl)
 have hV:=Lib.hid (show cotherV s=if (cutW s ⟨#[62]⟩ ⟨#[62]⟩).2.2=true then ((cutW s ⟨#[62]⟩ ⟨#[62]⟩).1,(cutW s ⟨#[62]⟩ ⟨#[62]⟩).2.1) else (s,(s.size:Int)) from rfl)
 generalize cotherV s=V at hV ⊢
 obtain ⟨⟨c1,c2,c3⟩,hc⟩:∃ c,cutW s ⟨#[62]⟩ ⟨#[62]⟩=c:=⟨_,rfl⟩
 rw [hc] at C hV
 clear hc
 simp only at C hV
 go_enter Tryz.func128,Tryz.ntmps128
 go_wp2_with fail
 refine C.out.mono ?_
 rintro e w1 ⟨rfl,hb⟩
 clear C
 cases c3 with
 | true =>
   go_wp2_with fail
   go_ret2
   refine ⟨?_,hb⟩
   have:=hV.out
   rw [if_pos (by simp)] at this
   rw [this];rfl
 | false =>
   go_wp2_with fail
   go_ret2
   refine ⟨?_,hb⟩
   have:=hV.out
   rw [if_neg (by decide)] at this
   rw [this];rfl
def pre (s p:ByteArray):Bool:=Lib.hasPrefix s.data.toList p.data.toList
def suf (s p:ByteArray):Bool:=Lib.hasSuffix s.data.toList p.data.toList
def trimS (s p:ByteArray):ByteArray:=⟨(Lib.trimSuffix s.data.toList p.data.toList).toArray⟩
def plainV (s:ByteArray):ByteArray×Int :=
 if pre s ⟨#[62]⟩=true then (⟨#[]⟩,1) else if pre s ⟨#[45,62]⟩=true then (⟨#[]⟩,2)
 else if (cutW s ⟨#[45,45,62]⟩ ⟨#[45,45,33,62]⟩).2.2=true then ((cutW s ⟨#[45,45,62]⟩ ⟨#[45,45,33,62]⟩).1,(cutW s ⟨#[45,45,62]⟩ ⟨#[45,45,33,62]⟩).2.1)
 else if suf s ⟨#[45,45,33]⟩=true then (trimS s ⟨#[45,45,33]⟩,(s.size:Int))
 else if suf s ⟨#[45,45]⟩=true then (trimS s ⟨#[45,45]⟩,(s.size:Int))
 else if suf s ⟨#[45]⟩=true then (trimS s ⟨#[45]⟩,(s.size:Int)) else (s,(s.size:Int))
set_option maxRecDepth 100000 in
set_option maxHeartbeats 4000000 in
theorem plain_any (s:ByteArray) (w:World) (hs:s.size≤1000000000) (hGl:Glob w) :
  Calls Tryz.prog 129 #[.string s] w fun e w'=>e = .returned (.tuple #[.string (plainV s).1,.int .i64 (plainV s).2])∧Below w.heap.size w w':=by
 have C:=Lib.hid (cut_c s ⟨#[45,45,62]⟩ ⟨#[45,45,33,62]⟩ w hs (by decide) (by decide) hGl)
 have P0:=Lib.hid (show Calls Tryz.prog 38 #[.string s,.string ⟨#[62]⟩] w fun e w'=>e = .returned (.bool (pre s ⟨#[62]⟩))∧w'=w from Tryz.strings_HasPrefix s ⟨#[62]⟩ w)
 have P1:=Lib.hid (show Calls Tryz.prog 38 #[.string s,.string ⟨#[45,62]⟩] w fun e w'=>e = .returned (.bool (pre s ⟨#[45,62]⟩))∧w'=w from Tryz.strings_HasPrefix s ⟨#[45,62]⟩ w)
 have SA:∀ (p:ByteArray) (W:World),Calls Tryz.prog 176 #[.string s,.string p] W fun e w'=>e = .returned (.tuple #[.string (trimS s p),.bool (suf s p)])∧w'=W:=fun p W=>Tryz.strings_CutSuffix s p W (by omega)
 have S0:=Lib.hid (SA ⟨#[45,45,33]⟩)
 have S1:=Lib.hid (SA ⟨#[45,45]⟩)
 have S2:=Lib.hid (SA ⟨#[45]⟩)
 clear SA
 have I0:=ix2_0 ⟨#[62]⟩ ⟨#[45,62]⟩
 have I1:=ix2_1 ⟨#[62]⟩ ⟨#[45,62]⟩
 have J0:=ix3_0 ⟨#[45,45,33]⟩ ⟨#[45,45]⟩ ⟨#[45]⟩
 have J1:=ix3_1 ⟨#[45,45,33]⟩ ⟨#[45,45]⟩ ⟨#[45]⟩
 have J2:=ix3_2 ⟨#[45,45,33]⟩ ⟨#[45,45]⟩ ⟨#[45]⟩
 have hV0:plainV s=plainV s:=rfl
 conv at hV0=>rhs;unfold plainV
 generalize plainV s=V at hV0 ⊢
 generalize pre s ⟨#[62]⟩=p0 at P0 hV0
 generalize pre s ⟨#[45,62]⟩=p1 at P1 hV0
 generalize suf s ⟨#[45,45,33]⟩=s0 at S0 hV0
 generalize suf s ⟨#[45,45]⟩=s1 at S1 hV0
 generalize suf s ⟨#[45]⟩=s2 at S2 hV0
 generalize trimS s ⟨#[45,45,33]⟩=t0 at S0 hV0
 generalize trimS s ⟨#[45,45]⟩=t1 at S1 hV0
 generalize trimS s ⟨#[45]⟩=t2 at S2 hV0
 obtain ⟨⟨c1,c2,c3⟩,hc⟩:∃ c,cutW s ⟨#[45,45,62]⟩ ⟨#[45,45,33,62]⟩=c:=⟨_,rfl⟩
 rw [hc] at C hV0
 clear hc
 simp only at C hV0
 have hV:=Lib.hid hV0
 clear hV0
 go_enter Tryz.func129,Tryz.ntmps129
 go_wp2_with fail
 refine wp_loop_rounds 3 ?_
 rw [rounds_succ]
 go_wp2_with fail
 refine P0.out.mono ?_
 rintro e w1 ⟨rfl,rfl⟩
 clear P0 I0
 cases p0 with
 | true =>
   go_wp2_with fail
   go_ret2
   refine ⟨?_,Below.refl _ _⟩
   rw [hV.out,if_pos (by simp)];rfl
 | false =>
   go_wp2_with fail
   rw [rounds_succ]
   go_wp2_with fail
   refine P1.out.mono ?_
   rintro e w1 ⟨rfl,rfl⟩
   clear P1 I1
   cases p1 with
   | true =>
     go_wp2_with fail
     go_ret2
     refine ⟨?_,Below.refl _ _⟩
     rw [hV.out,if_neg (by decide),if_pos (by simp)];rfl
   | false =>
     go_wp2_with fail
     rw [rounds_succ]
     go_wp2_with fail
     refine C.out.mono ?_
     rintro e w1 ⟨rfl,hb⟩
     clear C
     cases c3 with
     | true =>
       go_wp2_with fail
       go_ret2
       refine ⟨?_,hb⟩
       rw [hV.out,if_neg (by decide),if_neg (by decide),if_pos (by simp)];rfl
     | false =>
       go_wp2_with fail
       refine wp_loop_rounds 4 ?_
       rw [rounds_succ]
       go_wp2_with fail
       refine (S0.out _).mono ?_
       rintro e w2 ⟨rfl,rfl⟩
       clear S0 J0
       cases s0 with
       | true =>
         go_wp2_with fail
         go_ret2
         refine ⟨?_,hb⟩
         rw [hV.out,if_neg (by decide),if_neg (by decide),if_neg (by decide),if_pos (by simp)];rfl
       | false =>
         go_wp2_with fail
         rw [rounds_succ]
         go_wp2_with fail
         refine (S1.out _).mono ?_
         rintro e w2 ⟨rfl,rfl⟩
         clear S1 J1
         cases s1 with
         | true =>
           go_wp2_with fail
           go_ret2
           refine ⟨?_,hb⟩
           rw [hV.out,if_neg (by decide),if_neg (by decide),if_neg (by decide),if_neg (by decide),if_pos (by simp)];rfl
         | false =>
           go_wp2_with fail
           rw [rounds_succ]
           go_wp2_with fail
           refine (S2.out _).mono ?_
           rintro e w2 ⟨rfl,rfl⟩
           clear S2 J2
           cases s2 with
           | true =>
             go_wp2_with fail
             go_ret2
             refine ⟨?_,hb⟩
             rw [hV.out,if_neg (by decide),if_neg (by decide),if_neg (by decide),if_neg (by decide),if_neg (by decide),if_pos (by simp)];rfl
           | false =>
             go_wp2_with fail
             rw [rounds_succ]
             go_wp2_with fail
             go_ret2
             refine ⟨?_,hb⟩
             rw [hV.out,if_neg (by decide),if_neg (by decide),if_neg (by decide),if_neg (by decide),if_neg (by decide),if_neg (by decide)];rfl
end Go.Proofs.YtcecjoaeolglbaaGreatDoor.Hand
namespace Go.Proofs.YtcecjoaeolglbaaGreatDoor.Hand
open Go.RowKit Go.Proofs.YtcecjoaeolglbaaGreatDoor.K0 Go.Proofs.YtcecjoaeolglbaaGreatDoor.Pl Go.Proofs.YtcecjoaeolglbaaGreatDoor.Sa Go.Proofs.YtcecjoaeolglbaaGreatDoorW.PrintWords Go.Proofs.YtcecjoaeolglbaaGreatDoorW.PrintLast Go.Proofs.YtcecjoaeolglbaaGreatDoorW.PrintMore
def comment_Read.g (a0:ByteArray) (fr:Int) (V:ByteArray→ByteArray×Int):Option (Int×ByteArray×ByteArray×(List S87)×Bool×Int×Bool) :=
 if 0≤fr∧fr≤(a0.size:Int) then (lines_Clean.f (V (a0.extract fr.toNat a0.size)).1).bind fun t=>some (3,(⟨#[]⟩:ByteArray),t,([]:List S87),false,wrap64 (fr+(V (a0.extract fr.toNat a0.size)).2),true) else none
def comment_Read.f (a0:ByteArray) (a1:Int):Option (Int×ByteArray×ByteArray×(List S87)×Bool×Int×Bool) :=
 if a0.size≤1000000000 then (comment_Begins.f a0 a1).bind fun b =>
  if b=true then (sign_Begins.f a0 a1 ⟨#[60,33,45,45]⟩).bind fun c =>
   if c=true then comment_Read.g a0 (wrap64 (a1+4)) plainV
   else (sign_Begins.f a0 a1 ⟨#[60,63]⟩).bind fun d=>if d=true then comment_Read.g a0 (wrap64 (a1+1)) cotherV else comment_Read.g a0 (wrap64 (a1+2)) cotherV
  else some (0,(⟨#[]⟩:ByteArray),(⟨#[]⟩:ByteArray),([]:List S87),false,a1,false)
 else none
set_option maxRecDepth 100000 in
set_option maxHeartbeats 8000000 in
theorem comment_Read.exact (a0:ByteArray) (a1:Int) (r1:Int) (r2:ByteArray) (r3:ByteArray) (r4:List (S87)) (r5:Bool) (r6:Int) (r7:Bool) (w:World) (hGl:Glob w) (h:comment_Read.f a0 a1=some (r1,r2,r3,r4,r5,r6,r7)) :
  Calls Tryz.prog 92 #[.string a0,.int .i64 a1] w fun e w'=>e = .returned (.tuple #[.agg #[.int .i64 r1,.string r2,.string r3,.slice none 0 0,.bool r5],.int .i64 r6,.bool r7])∧r4=[]∧Below w.heap.size w w':=by
 have hu35:=Tryz.underlying46
 unfold comment_Read.f at h
 obtain ⟨hsize,h⟩:=hg_split h
 obtain ⟨b,hb,h⟩:=Option.bind_eq_some_iff.1 h
 have H:=Lib.hid h
 clear h
 have CB:=Lib.hid (fun W=>comment_Begins.calls a0 a1 b W hb)
 clear hb
 have hT:=Lib.hid (Tok.of_alloc T0 46 w)
 have hB0:=Lib.hid (Below.alloc (Below.refl w.heap.size w) (Nat.le_refl _) (.cells T0 46))
 have hsz:w.heap.size<(w.alloc (.cells T0 46)).heap.size:=by simp
 go_enter Tryz.func92,Tryz.ntmps92
 go_wp2_with fail
 refine (CB.out _).mono ?_
 rintro e w1 ⟨rfl,hb1⟩
 clear CB
 have hT1:=Lib.hid (hT.out.below hb1 hsz)
 have hB1:=Lib.hid (hB0.out.trans (hb1.mono (Nat.le_of_lt hsz)))
 have hl1:=Nat.lt_of_lt_of_le hsz hb1.size
 clear hb1 hsz hT hB0
 cases b with
 | false =>
   have H:=H.out
   rw [if_neg (by simp)] at H
   obtain ⟨rfl,rfl,rfl,rfl,rfl,rfl,rfl⟩:=tup7 H
   clear H
   have q0:w1.cell? ⟨w.heap.size,0,none⟩=some (.int .i64 0):=hT1.out.cell 0 (by decide)
   have q1:=Tok.f1 hT1.out
   have q2:=Tok.f2 hT1.out
   have q3:=Tok.f3 hT1.out
   have q4:=Tok.f4 hT1.out
   have q5:∀ j,w1.frozen? ⟨w.heap.size,j,none⟩=false:=hT1.out.open_
   go_wp2_with fail
   refine bodyPost_ret (results_ctt rfl rfl (Tok.load (hT1.out.put _ _ _ _ _))) rfl ?_
   first|exact ⟨rfl,rfl,put_below _ (Nat.le_refl _) hB1.out _ _ _ _ _⟩|exact ⟨rfl,put_below _ (Nat.le_refl _) hB1.out _ _ _ _ _⟩
 | true =>
   replace H:=H.out
   rw [if_pos (by simp)] at H
   obtain ⟨c,hc,H0⟩:=Option.bind_eq_some_iff.1 H
   clear H
   have H:=Lib.hid H0
   clear H0
   have CS:=Lib.hid (sign_Begins.calls a0 a1 ⟨#[60,33,45,45]⟩ c w1 hc)
   clear hc
   go_wp2_with fail
   refine CS.out.mono ?_
   rintro e w2 ⟨rfl,hb2⟩
   clear CS
   have hT2:=Lib.hid (hT1.out.below hb2 hl1)
   have hB2:=Lib.hid (hB1.out.trans (hb2.mono (Nat.le_of_lt hl1)))
   have hl2:=Nat.lt_of_lt_of_le hl1 hb2.size
   clear hb2 hT1 hB1 hl1
   cases c with
   | true =>
     replace H:=Lib.hid (by have:=H.out;rw [if_pos (by simp)] at this;exact this)
     unfold comment_Read.g at H
     obtain ⟨⟨z0,z1⟩,H⟩:=hg_split H.out
     obtain ⟨t,ht,H⟩:=Option.bind_eq_some_iff.1 H
     obtain ⟨rfl,rfl,rfl,rfl,rfl,e6,rfl⟩:=tup7 H
     have z0':=eq_true z0
     have z1':=eq_true z1
     have CV:=Lib.hid (plain_any (a0.extract (wrap64 (a1+4)).toNat a0.size) _ (by simp only [ByteArray.size_extract];omega) (hGl.step hB2.out))
     have ht:=Lib.hid ht
     obtain ⟨⟨x1,x2⟩,hx⟩:∃ x,plainV (a0.extract (wrap64 (a1+4)).toNat a0.size)=x:=⟨_,rfl⟩
     rw [hx] at CV ht e6
     clear hx
     simp only at CV ht e6
     obtain ⟨fr,hfr⟩:∃ fr,(wrap64 (a1+4))=fr:=⟨_,rfl⟩
     have hfr':(IntKind.i64.wrap (a1+4))=fr:=(i64_w _).trans hfr
     rw [hfr] at CV z0 z1 z0' z1' e6
     replace e6:=Lib.hid e6
     go_wp2_with fail
     refine CV.out.mono ?_
     rintro e w5 ⟨rfl,hb5⟩
     clear CV
     have hT5:=Lib.hid (hT2.out.below hb5 (hl2))
     have hB5:=Lib.hid (hB2.out.trans (hb5.mono (Nat.le_of_lt (hl2))))
     have hl5:=Nat.lt_of_lt_of_le (hl2) hb5.size
     have CC:=Lib.hid (lines_Clean.calls x1 t w5 (hGl.step hB5.out) ht.out)
     clear hb5 ht
     go_wp2_with fail
     refine CC.out.mono ?_
     rintro e w6 ⟨rfl,hb6⟩
     clear CC
     have hT6:=Lib.hid (hT5.out.below hb6 hl5)
     have hB6:=Lib.hid (hB5.out.trans (hb6.mono (Nat.le_of_lt hl5)))
     clear hb6 hT5 hB5
     have q0:w6.cell? ⟨w.heap.size,0,none⟩=some (.int .i64 0):=hT6.out.cell 0 (by decide)
     have q1:=Tok.f1 hT6.out
     have q2:=Tok.f2 hT6.out
     have q3:=Tok.f3 hT6.out
     have q4:=Tok.f4 hT6.out
     have q5:∀ j,w6.frozen? ⟨w.heap.size,j,none⟩=false:=hT6.out.open_
     go_wp2_with fail
     refine bodyPost_ret (results_ctt rfl rfl (Tok.load (hT6.out.put _ _ _ _ _))) rfl ?_
     first|refine ⟨?_,rfl,?_⟩|refine ⟨?_,?_⟩
     · show Ending.returned (.tuple #[_,.int .i64 (wrap64 (fr+x2)),.bool true])=_
       rw [e6.out]
     · exact put_below _ (Nat.le_refl _) hB6.out _ _ _ _ _
   | false =>
     have H0:=H.out
     rw [if_neg (by simp)] at H0
     clear H
     obtain ⟨d,hd,H1⟩:=Option.bind_eq_some_iff.1 H0
     clear H0
     have H:=Lib.hid H1
     clear H1
     have CD:=Lib.hid (sign_Begins.calls a0 a1 ⟨#[60,63]⟩ d w2 hd)
     clear hd
     go_wp2_with fail
     refine CD.out.mono ?_
     rintro e w3 ⟨rfl,hb3⟩
     clear CD
     have hT3:=Lib.hid (hT2.out.below hb3 hl2)
     have hB3:=Lib.hid (hB2.out.trans (hb3.mono (Nat.le_of_lt hl2)))
     have hl3:=Nat.lt_of_lt_of_le hl2 hb3.size
     clear hb3 hT2 hB2 hl2
     cases d with
     | true =>
       replace H:=Lib.hid (by have:=H.out;rw [if_pos (by simp)] at this;exact this)
       unfold comment_Read.g at H
       obtain ⟨⟨z0,z1⟩,H⟩:=hg_split H.out
       obtain ⟨t,ht,H⟩:=Option.bind_eq_some_iff.1 H
       obtain ⟨rfl,rfl,rfl,rfl,rfl,e6,rfl⟩:=tup7 H
       have z0':=eq_true z0
       have z1':=eq_true z1
       have CV:=Lib.hid (cother_any (a0.extract (wrap64 (a1+1)).toNat a0.size) _ (by simp only [ByteArray.size_extract];omega) (hGl.step hB3.out))
       have ht:=Lib.hid ht
       obtain ⟨⟨x1,x2⟩,hx⟩:∃ x,cotherV (a0.extract (wrap64 (a1+1)).toNat a0.size)=x:=⟨_,rfl⟩
       rw [hx] at CV ht e6
       clear hx
       simp only at CV ht e6
       obtain ⟨fr,hfr⟩:∃ fr,(wrap64 (a1+1))=fr:=⟨_,rfl⟩
       have hfr':(IntKind.i64.wrap (a1+1))=fr:=(i64_w _).trans hfr
       rw [hfr] at CV z0 z1 z0' z1' e6
       replace e6:=Lib.hid e6
       go_wp2_with fail
       refine CV.out.mono ?_
       rintro e w5 ⟨rfl,hb5⟩
       clear CV
       have hT5:=Lib.hid (hT3.out.below hb5 (hl3))
       have hB5:=Lib.hid (hB3.out.trans (hb5.mono (Nat.le_of_lt (hl3))))
       have hl5:=Nat.lt_of_lt_of_le (hl3) hb5.size
       have CC:=Lib.hid (lines_Clean.calls x1 t w5 (hGl.step hB5.out) ht.out)
       clear hb5 ht
       go_wp2_with fail
       refine CC.out.mono ?_
       rintro e w6 ⟨rfl,hb6⟩
       clear CC
       have hT6:=Lib.hid (hT5.out.below hb6 hl5)
       have hB6:=Lib.hid (hB5.out.trans (hb6.mono (Nat.le_of_lt hl5)))
       clear hb6 hT5 hB5
       have q0:w6.cell? ⟨w.heap.size,0,none⟩=some (.int .i64 0):=hT6.out.cell 0 (by decide)
       have q1:=Tok.f1 hT6.out
       have q2:=Tok.f2 hT6.out
       have q3:=Tok.f3 hT6.out
       have q4:=Tok.f4 hT6.out
       have q5:∀ j,w6.frozen? ⟨w.heap.size,j,none⟩=false:=hT6.out.open_
       go_wp2_with fail
       refine bodyPost_ret (results_ctt rfl rfl (Tok.load (hT6.out.put _ _ _ _ _))) rfl ?_
       first|refine ⟨?_,rfl,?_⟩|refine ⟨?_,?_⟩
       · show Ending.returned (.tuple #[_,.int .i64 (wrap64 (fr+x2)),.bool true])=_
         rw [e6.out]
       · exact put_below _ (Nat.le_refl _) hB6.out _ _ _ _ _
     | false =>
       replace H:=Lib.hid (by have:=H.out;rw [if_neg (by simp)] at this;exact this)
       unfold comment_Read.g at H
       obtain ⟨⟨z0,z1⟩,H⟩:=hg_split H.out
       obtain ⟨t,ht,H⟩:=Option.bind_eq_some_iff.1 H
       obtain ⟨rfl,rfl,rfl,rfl,rfl,e6,rfl⟩:=tup7 H
       have z0':=eq_true z0
       have z1':=eq_true z1
       have CV:=Lib.hid (cother_any (a0.extract (wrap64 (a1+2)).toNat a0.size) _ (by simp only [ByteArray.size_extract];omega) (hGl.step hB3.out))
       have ht:=Lib.hid ht
       obtain ⟨⟨x1,x2⟩,hx⟩:∃ x,cotherV (a0.extract (wrap64 (a1+2)).toNat a0.size)=x:=⟨_,rfl⟩
       rw [hx] at CV ht e6
       clear hx
       simp only at CV ht e6
       obtain ⟨fr,hfr⟩:∃ fr,(wrap64 (a1+2))=fr:=⟨_,rfl⟩
       have hfr':(IntKind.i64.wrap (a1+2))=fr:=(i64_w _).trans hfr
       rw [hfr] at CV z0 z1 z0' z1' e6
       replace e6:=Lib.hid e6
       go_wp2_with fail
       refine CV.out.mono ?_
       rintro e w5 ⟨rfl,hb5⟩
       clear CV
       have hT5:=Lib.hid (hT3.out.below hb5 (hl3))
       have hB5:=Lib.hid (hB3.out.trans (hb5.mono (Nat.le_of_lt (hl3))))
       have hl5:=Nat.lt_of_lt_of_le (hl3) hb5.size
       have CC:=Lib.hid (lines_Clean.calls x1 t w5 (hGl.step hB5.out) ht.out)
       clear hb5 ht
       go_wp2_with fail
       refine CC.out.mono ?_
       rintro e w6 ⟨rfl,hb6⟩
       clear CC
       have hT6:=Lib.hid (hT5.out.below hb6 hl5)
       have hB6:=Lib.hid (hB5.out.trans (hb6.mono (Nat.le_of_lt hl5)))
       clear hb6 hT5 hB5
       have q0:w6.cell? ⟨w.heap.size,0,none⟩=some (.int .i64 0):=hT6.out.cell 0 (by decide)
       have q1:=Tok.f1 hT6.out
       have q2:=Tok.f2 hT6.out
       have q3:=Tok.f3 hT6.out
       have q4:=Tok.f4 hT6.out
       have q5:∀ j,w6.frozen? ⟨w.heap.size,j,none⟩=false:=hT6.out.open_
       go_wp2_with fail
       refine bodyPost_ret (results_ctt rfl rfl (Tok.load (hT6.out.put _ _ _ _ _))) rfl ?_
       first|refine ⟨?_,rfl,?_⟩|refine ⟨?_,?_⟩
       · show Ending.returned (.tuple #[_,.int .i64 (wrap64 (fr+x2)),.bool true])=_
         rw [e6.out]
       · exact put_below _ (Nat.le_refl _) hB6.out _ _ _ _ _
end Go.Proofs.YtcecjoaeolglbaaGreatDoor.Hand
end

section
namespace Go.Proofs.YtcecjoaeolglbaaGreatDoor.Pcm
open Go Go.RowKit Go.Proofs.YtcecjoaeolglbaaGreatDoor.K0 Go.Proofs.YtcecjoaeolglbaaGreatDoor.Hand Go.Proofs.YtcecjoaeolglbaaGreatDoor.Sa Go.Proofs.YtcecjoaeolglbaaGreatDoorW.PrintWords Go.Proofs.YtcecjoaeolglbaaGreatDoorW.PrintMore Go.Proofs.YtcecjoaeolglbaaGreatDoor.Pl Go.Proofs.YtcecjoaeolglbaaGreatDoor.Pb Go.Proofs.YtcecjoaeolglbaaGreatDoor.Pcb Go.Proofs.YtcecjoaeolglbaaGreatDoor.Pure
attribute [local simp] B_nil
def EndI (p q s:List UInt8) (k0 k1:Int):Prop :=
 match endG p q s with
 | none=>k0 = -1∧k1 = -1
 | some (t,n) => ∃ i:Nat,t=s.take i∧i≤s.length∧((k0=i∧(k1 = -1∨k0≤k1)∧n=i+p.length)∨(k1=i∧(k0 = -1∨k1<k0)∧n=i+q.length))
theorem index_ge' (s p:List UInt8) : -1≤Lib.index s p:=Lib.index_ge s p
theorem endG_index (p q:List UInt8) (hp:p≠[]) (hq:q≠[]):∀ s,EndI p q s (Lib.index s p) (Lib.index s q):=by
 intro s
 induction s with
 | nil =>
   have h1:p.isEmpty=false:=by simpa using hp
   have h2:q.isEmpty=false:=by simpa using hq
   simp [EndI,endG,Lib.index,h1,h2]
 | cons c r ih =>
   have g0:=index_ge' r p
   have g1:=index_ge' r q
   unfold EndI at ih ⊢
   simp only [endG,Lib.index]
   by_cases h0:p.isPrefixOf (c::r)=true
   · simp only [if_pos h0]
     refine ⟨0,rfl,by simp,.inl ⟨rfl,?_,by simp⟩⟩
     by_cases h1:q.isPrefixOf (c::r)=true
     · simp only [if_pos h1];omega
     · simp only [if_neg h1]
       split
       · exact .inl rfl
       · right;rename_i hh;simp at hh;omega
   · simp only [if_neg h0]
     by_cases h1:q.isPrefixOf (c::r)=true
     · simp only [if_pos h1]
       refine ⟨0,rfl,by simp,.inr ⟨rfl,?_,by simp⟩⟩
       split
       · exact .inl rfl
       · right;rename_i hh;simp at hh;omega
     · simp only [if_neg h1]
       cases he:endG p q r with
       | none =>
         rw [he] at ih
         simp only at ih ⊢
         simp [ih.1,ih.2]
       | some x =>
         obtain ⟨t,n⟩:=x
         rw [he] at ih
         simp only at ih ⊢
         obtain ⟨i,ht,hi,hk⟩:=ih
         refine ⟨i+1,by simp [ht],by simp;omega,?_⟩
         rcases hk with ⟨h2,h3,h4⟩|⟨h2,h3,h4⟩
         · left
           have e0:(Lib.index r p == -1)=false:=by simp;omega
           simp only [e0,Bool.false_eq_true,if_false]
           refine ⟨by omega,?_,by omega⟩
           by_cases h5:Lib.index r q = -1
           · left;simp [h5]
           · right
             have e1:(Lib.index r q == -1)=false:=by simp [h5]
             simp only [e1,Bool.false_eq_true,if_false];omega
         · right
           have e1:(Lib.index r q == -1)=false:=by simp;omega
           simp only [e1,Bool.false_eq_true,if_false]
           refine ⟨by omega,?_,by omega⟩
           by_cases h5:Lib.index r p = -1
           · left;simp [h5]
           · right
             have e0:(Lib.index r p == -1)=false:=by simp [h5]
             simp only [e0,Bool.false_eq_true,if_false];omega
theorem cutW_B (s p q:List UInt8) (hp:p≠[]) (hq:q≠[]) :
  cutW (B s) (B p) (B q)=match endG p q s with|none=>(B [],(s.length:Int),false)|some (t,n)=>(B t,(n:Int),true):=by
 unfold cutW idx cutV
 have h:=endG_index p q hp hq s
 simp only [B_data,size_B]
 unfold EndI at h
 have g0:=index_ge' s p
 have g1:=index_ge' s q
 cases he:endG p q s with
 | none =>
   rw [he] at h
   simp only at h ⊢
   rw [h.1,h.2]
   simp
 | some x =>
   obtain ⟨t,n⟩:=x
   rw [he] at h
   simp only at h ⊢
   obtain ⟨i,ht,hi,hk⟩:=h
   have hx:(B s).extract 0 i=B t:=by rw [B_extract,ht];simp
   rcases hk with ⟨h2,h3,h4⟩|⟨h2,h3,h4⟩
   · rw [if_pos (by omega),if_neg (by omega),h2,Int.toNat_natCast,hx,h4];simp
   · rw [h2] at g1 h3 ⊢
     by_cases h0:0≤Lib.index s p
     · rw [if_pos h0,if_pos (by omega),Int.toNat_natCast,hx,h4];simp
     · rw [if_neg h0,if_pos (by omega),Int.toNat_natCast,hx,h4];simp
theorem cotherV_B (s:List UInt8):cotherV (B s)=(B (otherL s).1,((otherL s).2:Int)):=by
 unfold cotherV otherL
 rw [show (⟨#[62]⟩:ByteArray)=B [62] from rfl,cutW_B s [62] [62] (by simp) (by simp)]
 cases endG [62] [62] s with
 | none=>simp
 | some x=>simp
theorem pre_B (s p:List UInt8):pre (B s) (B p)=p.isPrefixOf s:=by unfold pre Lib.hasPrefix;rw [B_data,B_data]
theorem suf_B (s p:List UInt8):suf (B s) (B p)=p.isSuffixOf s:=by unfold suf Lib.hasSuffix;rw [B_data,B_data]
theorem trim_B (s p:List UInt8) (h:p.isSuffixOf s=true):trimS (B s) (B p)=B (s.take (s.length - p.length)):=by
 unfold trimS Lib.trimSuffix Lib.hasSuffix
 simp only [B_data,h,if_true];rfl
theorem plainV_B (s:List UInt8):plainV (B s)=(B (plainL s).1,((plainL s).2:Int)):=by
 unfold plainV plainL plainEnd
 simp only [show (⟨#[62]⟩:ByteArray)=B [62] from rfl,show (⟨#[45,62]⟩:ByteArray)=B [45,62] from rfl,show (⟨#[45,45,62]⟩:ByteArray)=B [45,45,62] from rfl,
  show (⟨#[45,45,33,62]⟩:ByteArray)=B [45,45,33,62] from rfl,show (⟨#[45,45,33]⟩:ByteArray)=B [45,45,33] from rfl,show (⟨#[45,45]⟩:ByteArray)=B [45,45] from rfl,show (⟨#[45]⟩:ByteArray)=B [45] from rfl,
  pre_B,suf_B,cutW_B s [45,45,62] [45,45,33,62] (by simp) (by simp),size_B]
 by_cases h1:[62].isPrefixOf s=true
 · simp only [if_pos h1];rfl
 · by_cases h2:[45,62].isPrefixOf s=true
   · simp only [if_neg h1,if_pos h2];rfl
   · simp only [if_neg h1,if_neg h2]
     cases he:endG [45,45,62] [45,45,33,62] s with
     | some x=>simp
     | none =>
       simp only [Bool.false_eq_true,if_false]
       by_cases h3:[45,45,33].isSuffixOf s=true
       · simp only [if_pos h3,trim_B s _ h3];rfl
       · by_cases h4:[45,45].isSuffixOf s=true
         · simp only [if_neg h3,if_pos h4,trim_B s _ h4];rfl
         · by_cases h5:[45].isSuffixOf s=true
           · simp only [if_neg h3,if_neg h4,if_pos h5,trim_B s _ h5];rfl
           · simp only [if_neg h3,if_neg h4,if_neg h5]
def tokC (n:Nat) (r:List UInt8):Int×ByteArray×ByteArray×List S87×Bool×Int×Bool :=
 if begC r=true then (3,B [],B (cleanL (readC r).1),[],false,((n+(readC r).2:Nat):Int),true) else (0,B [],B [],[],false,(n:Int),false)
theorem endG_le (p q:List UInt8):∀ s t n,endG p q s=some (t,n)→t.length≤s.length∧n≤s.length+p.length+q.length:=by
 intro s
 induction s with
 | nil=>intro t n h;simp [endG] at h
 | cons c r ih =>
   intro t n h
   simp only [endG] at h
   split at h
   · simp only [Option.some.injEq,Prod.mk.injEq] at h;obtain ⟨rfl,rfl⟩:=h;simp;try omega
   · split at h
     · simp only [Option.some.injEq,Prod.mk.injEq] at h;obtain ⟨rfl,rfl⟩:=h;simp;try omega
     · cases he:endG p q r with
       | none=>rw [he] at h;cases h
       | some x =>
         obtain ⟨t',n'⟩:=x
         rw [he] at h
         simp only [Option.some.injEq,Prod.mk.injEq] at h
         obtain ⟨rfl,rfl⟩:=h
         have:=ih t' n' he
         simp;omega
theorem otherL_le (s:List UInt8):(otherL s).1.length≤s.length∧(otherL s).2≤s.length+2:=by
 unfold otherL
 cases he:endG [62] [62] s with
 | none=>simp
 | some x=>obtain ⟨t,n⟩:=x;have:=endG_le _ _ _ _ _ he;simpa using this
theorem plainL_le (s:List UInt8):(plainL s).1.length≤s.length∧(plainL s).2≤s.length+7:=by
 unfold plainL plainEnd
 split
 · simp
 · split
   · simp
   · cases he:endG [45,45,62] [45,45,33,62] s with
     | some x=>obtain ⟨t,n⟩:=x;have:=endG_le _ _ _ _ _ he;simpa using this
     | none=>simp only;repeat' split
             all_goals simp;try omega
theorem extract_drop (s:List UInt8) (n:Nat) (_:n≤s.length):(B s).extract n s.length=B (s.drop n):=by
 rw [B_extract];simp
theorem read_f (s:List UInt8) (n:Nat) (hs:s.length≤1000000) (hn:n≤s.length):comment_Read.f (B s) (n:Int)=some (tokC n (s.drop n)):=by
 unfold comment_Read.f tokC
 rw [if_pos (by simp;omega),begC_f s n hs hn,Option.bind_some]
 cases hb:begC (s.drop n) with
 | false=>simp
 | true =>
   simp only [if_true,show (⟨#[60,33,45,45]⟩:ByteArray)=B [60,33,45,45] from rfl,show (⟨#[60,63]⟩:ByteArray)=B [60,63] from rfl,begins_f s _ n hs (show ([60,33,45,45]:List UInt8).length≤1000000 by simp) hn,
    begins_f s _ n hs (show ([60,63]:List UInt8).length≤1000000 by simp) hn,Option.bind_some]
   have h2:n+2≤s.length:=by
    match hr:s.drop n with
    | []=>rw [hr] at hb;simp [begC] at hb
    | [c]=>rw [hr] at hb;simp [begC] at hb
    | c::d::t =>
      have:(s.drop n).length=t.length+2:=by rw [hr];rfl
      simp only [List.length_drop] at this;omega
   have g:∀ (j:Nat) (V:ByteArray→ByteArray×Int) (VL:List UInt8→List UInt8×Nat),(∀ l,V (B l)=(B (VL l).1,((VL l).2:Int)))→(∀ l,(VL l).1.length≤l.length∧(VL l).2≤l.length+7)→n+j≤s.length →
     comment_Read.g (B s) (wrap64 ((n:Int)+(j:Int))) V=some (3,B [],B (cleanL (VL ((s.drop n).drop j)).1),[],false,((n+(j+(VL ((s.drop n).drop j)).2):Nat):Int),true):=by
    intro j V VL hV hL hj
    have w:wrap64 ((n:Int)+(j:Int))=((n+j:Nat):Int):=Pb.wrap_add n j (by omega)
    unfold comment_Read.g
    rw [w,if_pos (by simp;omega),size_B,Int.toNat_natCast,extract_drop s (n+j) hj,hV,List.drop_drop]
    have hl:=hL (s.drop (n+j))
    simp only [List.length_drop] at hl
    simp only
    rw [clean_f _ (by omega),Option.bind_some]
    have w2:wrap64 (((n+j:Nat):Int)+((VL (s.drop (n+j))).2:Int))=((n+(j+(VL (s.drop (n+j))).2):Nat):Int):=by unfold wrap64;omega
    rw [w2];rfl
   unfold readC
   cases h1:begR (s.drop n) [60,33,45,45] with
   | true =>
     have l1:=begR_length _ _ h1
     simp only [List.length_drop,List.length_cons,List.length_nil] at l1
     simp only [if_true]
     exact g 4 plainV plainL plainV_B plainL_le (by omega)
   | false =>
     simp only [Bool.false_eq_true,if_false]
     cases h3:begR (s.drop n) [60,63] with
     | true =>
       simp only [if_true]
       exact g 1 cotherV otherL cotherV_B (fun l=>⟨(otherL_le l).1,by have:=(otherL_le l).2;omega⟩) (by omega)
     | false =>
       simp only [Bool.false_eq_true,if_false]
       exact g 2 cotherV otherL cotherV_B (fun l=>⟨(otherL_le l).1,by have:=(otherL_le l).2;omega⟩) (by omega)
end Go.Proofs.YtcecjoaeolglbaaGreatDoor.Pcm
end

section
namespace Go.Proofs.YtcecjoaeolglbaaGreatDoor.Hand
open Go Go.RowKit Go.Proofs.YtcecjoaeolglbaaGreatDoor.K0 Go.Proofs.YtcecjoaeolglbaaGreatDoor.Pl Go.Proofs.YtcecjoaeolglbaaGreatDoor.Pb Go.Proofs.YtcecjoaeolglbaaGreatDoor.Sa Go.Proofs.YtcecjoaeolglbaaGreatDoor.Pure Go.Proofs.YtcecjoaeolglbaaGreatDoorW.PrintWords Go.Proofs.YtcecjoaeolglbaaGreatDoorW.PrintLast Go.Proofs.YtcecjoaeolglbaaGreatDoorW.PrintMore
def readD (r:List UInt8):List UInt8×Nat:=(upto 62 (r.drop 9),9+(upto 62 (r.drop 9)).length+if (62:UInt8)∈r.drop 9 then 1 else 0)
theorem begR_len9 {s:List UInt8} {n:Nat} (h:begR (s.drop n) docL=true) (hn:n≤s.length):n+9≤s.length:=by
 have:=begR_length _ _ h
 simp only [List.length_drop,docL,List.length_cons,List.length_nil] at this
 omega
set_option maxRecDepth 100000 in
set_option maxHeartbeats 8000000 in
theorem dread_yes (s:List UInt8) (n:Nat) (w:World) (hG:Glob w) (hs:s.length≤100000) (hn:n≤s.length) (hb:begR (s.drop n) docL=true) :
  Calls Tryz.prog 94 #[.string (B s),.int .i64 (n:Int)] w fun e w'=>e = .returned (.tuple #[.agg #[.int .i64 4,.string ⟨#[]⟩,.string (B (cleanL (readD (s.drop n)).1)),.slice none 0 0,.bool false],.int .i64 ((n+(readD (s.drop n)).2:Nat):Int),.bool true])∧Below w.heap.size w w':=by
 have hu35:=Tryz.underlying46
 have h9:=begR_len9 hb hn
 have C:=fun W=>docBegins_c s n hs hn W
 rw [hb] at C
 obtain ⟨r,hr⟩:∃ r,s.drop (n+9)=r:=⟨_,rfl⟩
 have hrl:r.length=s.length - (n+9):=by rw [← hr];simp
 have hup:=upto_length 62 r
 have hrd:readD (s.drop n)=(upto 62 r,9+(upto 62 r).length+if (62:UInt8)∈r then 1 else 0):=by unfold readD;rw [List.drop_drop,hr]
 rw [hrd]
 have hx:(B s).extract (n+9) (B s).size=B r:=by rw [B_extract,size_B,List.take_length,hr]
 obtain ⟨a,ha⟩:∃ a,B s=a:=⟨_,rfl⟩
 have hz:a.size=s.length:=by rw [← ha];simp
 rw [ha] at C hx ⊢
 have CU:∀ W,Glob W→Calls Tryz.prog 130 #[.string (a.extract (n+9) a.size),.string ⟨#[62]⟩] W fun e w'=>e = .returned (.tuple #[.string (B (upto 62 r)),.string (B (past 62 r)),.bool (decide ((62:UInt8)∈r))])∧Below W.heap.size W w':=by
  intro W hG
  rw [hx]
  exact scut_c 62 r W (by omega) hG
 have CL:=Lib.hid (fun W hG=>clean_any (B (upto 62 r)) W (by simp;omega) hG)
 obtain ⟨t1,ht1⟩:∃ t,B (upto 62 r)=t:=⟨_,rfl⟩
 have hcl:cleanBA t1=B (cleanL (upto 62 r)):=by rw [← ht1,(show ∀ l:List UInt8,cleanBA (B l)=B (cleanL l) from fun l=>by unfold cleanBA;rw [B_data];rfl)]
 have hzt:t1.size=(upto 62 r).length:=by rw [← ht1];simp
 rw [ht1] at CU CL
 rw [← hcl,← hzt]
 obtain ⟨bb,hbb⟩:∃ b,decide ((62:UInt8)∈r)=b:=⟨_,rfl⟩
 rw [hbb] at CU
 have hz3:n+9≤a.size:=by omega
 have hz4:t1.size≤1000000:=by omega
 have hz5:a.size≤1000000:=by omega
 have HC:=Lib.hid C
 have HU:=Lib.hid CU
 obtain ⟨N,hN⟩:∃ N,n+(9+t1.size+if (62:UInt8)∈r then 1 else 0)=N:=⟨_,rfl⟩
 have HN:Hid ((N:Int)=if bb=true then (n:Int)+9+t1.size+1 else (n:Int)+9+t1.size):=by
  rw [← hbb,← hN]
  by_cases hm:(62:UInt8)∈r
  · rw [if_pos hm,if_pos (by simpa using hm)];show _=_;omega
  · rw [if_neg hm,if_neg (by simpa using hm)];show _=_;omega
 rw [hN]
 clear C CU hb hr hrd hx ha hz hrl hup hcl hzt ht1 hbb h9 hs hn hN
 have hT:=Lib.hid (Tok.of_alloc T0 46 w)
 have hB0:=Lib.hid (Below.alloc (Below.refl w.heap.size w) (Nat.le_refl _) (.cells T0 46))
 have hsz:w.heap.size<(w.alloc (.cells T0 46)).heap.size:=by simp
 go_enter Tryz.func94,Tryz.ntmps94
 go_wp2_with fail
 refine (HC.out _).mono ?_
 rintro e w1 ⟨rfl,hb1⟩
 clear HC
 have hT1:=Lib.hid (hT.out.below hb1 hsz)
 have hB1:=Lib.hid (hB0.out.trans (hb1.mono (Nat.le_of_lt hsz)))
 have hl1:=Nat.lt_of_lt_of_le hsz hb1.size
 clear hb1 hsz hT hB0
 go_wp2_with fail
 refine (HU.out _ (hG.step hB1.out)).mono ?_
 rintro e w2 ⟨rfl,hb1⟩
 have hT2:=Lib.hid (hT1.out.below hb1 hl1)
 have hB2:=Lib.hid (hB1.out.trans (hb1.mono (Nat.le_of_lt hl1)))
 have hl2:=Nat.lt_of_lt_of_le hl1 hb1.size
 clear hb1 hl1 hT1 hB1 HU
 cases bb with
 | true =>
   go_wp2_with fail
   refine (CL.out _ (hG.step hB2.out)).mono ?_
   rintro e w3 ⟨rfl,hb1⟩
   have hT3:=Lib.hid (hT2.out.below hb1 hl2)
   have hB3:=Lib.hid (hB2.out.trans (hb1.mono (Nat.le_of_lt hl2)))
   clear hb1 hl2 hT2 hB2
   have q0:w3.cell? ⟨w.heap.size,0,none⟩=some (.int .i64 0):=hT3.out.cell 0 (by decide)
   have q1:=Tok.f1 hT3.out
   have q2:=Tok.f2 hT3.out
   have q3:=Tok.f3 hT3.out
   have q4:=Tok.f4 hT3.out
   have q5:∀ j,w3.frozen? ⟨w.heap.size,j,none⟩=false:=hT3.out.open_
   go_wp2_with fail
   refine bodyPost_ret (results_ctt rfl rfl (Tok.load (hT3.out.put _ _ _ _ _))) rfl ?_
   refine ⟨?_,put_below _ (Nat.le_refl _) hB3.out _ _ _ _ _⟩
   rw [HN.out];rfl
 | false =>
   go_wp2_with fail
   refine (CL.out _ (hG.step hB2.out)).mono ?_
   rintro e w3 ⟨rfl,hb1⟩
   have hT3:=Lib.hid (hT2.out.below hb1 hl2)
   have hB3:=Lib.hid (hB2.out.trans (hb1.mono (Nat.le_of_lt hl2)))
   clear hb1 hl2 hT2 hB2
   have q0:w3.cell? ⟨w.heap.size,0,none⟩=some (.int .i64 0):=hT3.out.cell 0 (by decide)
   have q1:=Tok.f1 hT3.out
   have q2:=Tok.f2 hT3.out
   have q3:=Tok.f3 hT3.out
   have q4:=Tok.f4 hT3.out
   have q5:∀ j,w3.frozen? ⟨w.heap.size,j,none⟩=false:=hT3.out.open_
   go_wp2_with fail
   refine bodyPost_ret (results_ctt rfl rfl (Tok.load (hT3.out.put _ _ _ _ _))) rfl ?_
   refine ⟨?_,put_below _ (Nat.le_refl _) hB3.out _ _ _ _ _⟩
   rw [HN.out];rfl
theorem past_len (c:UInt8) (l:List UInt8):l.length - (past c l).length=(upto c l).length+if c∈l then 1 else 0:=by
 by_cases h:c∈l
 · rw [if_pos h]
   have hlt:(upto c l).length<l.length:=by
    unfold upto
    rcases Nat.lt_or_ge (l.takeWhile (isNe c)).length l.length with h1|h1
    · exact h1
    · have e:l.takeWhile (isNe c)=l:=(List.takeWhile_prefix _).eq_of_length (Nat.le_antisymm (List.takeWhile_prefix _).length_le h1)
      have:=List.all_eq_true.1 (List.all_takeWhile (p:=isNe c) (l:=l)) c (by rw [e];exact h)
      simp [isNe] at this
   unfold past
   rw [List.length_drop];omega
 · rw [if_neg h,past_all c l h,upto_all c l h];simp
theorem docRead_c (s:List UInt8) (p:Nat) (hs:s.length≤100000) (hp:p≤s.length) (hb:begR (s.drop p) docL=true) (w:World) (hG:Glob w) :
  Calls Tryz.prog 94 #[.string (B s),.int .i64 (p:Int)] w fun e w'=>TkRet s (some (.doctype (cleanL (upto 62 ((s.drop p).drop 9)))),past 62 ((s.drop p).drop 9)) w e w'∧Below w.heap.size w w':=by
 refine (dread_yes s p w hG hs hp hb).mono ?_
 rintro e w' ⟨rfl,hb'⟩
 refine ⟨?_,hb'⟩
 refine ⟨.slice none 0 0,?_,Kd.R_nil _ _ _ _ _⟩
 have h9:=begR_len9 hb hp
 have h1:=past_len 62 ((s.drop p).drop 9)
 have h2:=past_le 62 ((s.drop p).drop 9)
 have e:p+(readD (s.drop p)).2=s.length - (past 62 ((s.drop p).drop 9)).length:=by
  unfold readD
  simp only
  have h3:((s.drop p).drop 9).length=s.length - p - 9:=by rw [List.length_drop,List.length_drop]
  split at h1<;>rename_i hm
  · rw [if_pos hm];omega
  · rw [if_neg hm];omega
 rw [e];rfl
theorem endG_in (p q:List UInt8):∀ s t n,endG p q s=some (t,n)→n≤s.length:=by
 intro s
 induction s with
 | nil=>intro t n h;simp [endG] at h
 | cons c r ih =>
   intro t n h
   simp only [endG] at h
   split at h
   · rename_i hp
     simp only [Option.some.injEq,Prod.mk.injEq] at h;obtain ⟨rfl,rfl⟩:=h
     exact (List.isPrefixOf_iff_prefix.1 hp).length_le
   · split at h
     · rename_i hp
       simp only [Option.some.injEq,Prod.mk.injEq] at h;obtain ⟨rfl,rfl⟩:=h
       exact (List.isPrefixOf_iff_prefix.1 hp).length_le
     · cases he:endG p q r with
       | none=>rw [he] at h;cases h
       | some x =>
         obtain ⟨t',n'⟩:=x
         rw [he] at h
         simp only [Option.some.injEq,Prod.mk.injEq] at h
         obtain ⟨rfl,rfl⟩:=h
         have:=ih t' n' he
         simp;omega
theorem otherL_in (s:List UInt8):(otherL s).2≤s.length:=by
 unfold otherL
 cases he:endG [62] [62] s with
 | none=>exact Nat.le_refl _
 | some x=>obtain ⟨t,n⟩:=x;exact endG_in _ _ _ _ _ he
theorem plainL_in (s:List UInt8):(plainL s).2≤s.length:=by
 unfold plainL plainEnd
 split
 · rename_i h;exact (List.isPrefixOf_iff_prefix.1 h).length_le
 · split
   · rename_i h;exact (List.isPrefixOf_iff_prefix.1 h).length_le
   · cases he:endG [45,45,62] [45,45,33,62] s with
     | some x=>obtain ⟨t,n⟩:=x;exact endG_in _ _ _ _ _ he
     | none=>simp only;repeat' split
             all_goals exact Nat.le_refl _
theorem readC_in {l:List UInt8} (h:begC l=true):(readC l).2≤l.length:=by
 have h2:2≤l.length:=by
  match l,h with
  | [],h=>simp [begC] at h
  | [c],h=>simp [begC] at h
  | c::d::t,_=>simp
 unfold readC
 split
 · rename_i h1
   have l1:=begR_length _ _ h1
   simp only [List.length_cons,List.length_nil] at l1
   have:=plainL_in (l.drop 4)
   rw [List.length_drop] at this
   simp only;omega
 · split
   · have:=otherL_in (l.drop 1)
     rw [List.length_drop] at this
     simp only;omega
   · have:=otherL_in (l.drop 2)
     rw [List.length_drop] at this
     simp only;omega
end Go.Proofs.YtcecjoaeolglbaaGreatDoor.Hand
end

section
namespace Go.Proofs.YtcecjoaeolglbaaGreatDoor.Hand
open Go.RowKit Go.Shelf Go.Proofs.YtcecjoaeolglbaaGreatDoor.K0 Go.Proofs.YtcecjoaeolglbaaGreatDoor.Pl Go.Proofs.YtcecjoaeolglbaaGreatDoor.Pb Go.Proofs.YtcecjoaeolglbaaGreatDoor.Sa Go.Proofs.YtcecjoaeolglbaaGreatDoor.Pure Go.Proofs.YtcecjoaeolglbaaGreatDoorW.PrintWords Go.Proofs.YtcecjoaeolglbaaGreatDoorW.PrintLast Go.Proofs.YtcecjoaeolglbaaGreatDoorW.PrintMore
theorem cell_new_l (W:World) (v:Value) (t:TypeId):(W.alloc (.cells #[v] t)).cell? ⟨W.heap.size,0,none⟩=some v∧(W.alloc (.cells #[v] t)).frozen? ⟨W.heap.size,0,none⟩=false :=
 ⟨World.cell?_alloc_at _ t _ 0 rfl,World.frozen?_alloc_at _ t _ 0 rfl⟩
theorem cell_alloc_l {W:World} {a:Addr} {v:Value} (o:Obj) (h:W.cell? a=some v):(W.alloc o).cell? a=some v:=cell_kept h (World.grownBy_alloc W o none) (fun r e=>by cases e)
theorem frozen_alloc_l {W:World} {a:Addr} {v:Value} (o:Obj) (h:W.cell? a=some v) (hf:W.frozen? a=false):(W.alloc o).frozen? a=false:=(frozen_kept h (World.grownBy_alloc W o none) (fun r e=>by cases e)).trans hf
set_option maxHeartbeats 400000 in
theorem places_any (s:ByteArray) (i:Int) (w:World):Calls Tryz.prog 179 #[.string s,.int .i64 i] w fun e w' =>
  e = .returned (.func (.func 202) #[] #[.pointer (some ⟨w.heap.size+1,0,none⟩),.pointer (some ⟨w.heap.size,0,none⟩)])∧w'=(w.alloc (.cells #[.string s] 9)).alloc (.cells #[.int .i64 i] 3):=by
 go_enter Tryz.func179,Tryz.ntmps179
 go_wp2
 go_ret
 exact ⟨rfl,rfl⟩
attribute [local go_sem] Oper.semAt_some
set_option maxRecDepth 100000 in
set_option maxHeartbeats 2000000 in
theorem places1_in (n l Ba Bs n₀:Nat) (s:ByteArray) (at0:Nat) (hn:1≤n) (hs:s.size≤1000000) (hat:at0≤s.size) (J Jx:List Nat→World→Prop)
  (hY:∀ pre x W,J pre W→pre.length<s.size+1→YieldAt Fence.wide (n - 1) Tryz.prog l #[.int .i64 (x:Nat)] W fun e W' =>
    (e = .returned (.bool true)∧J (pre++[x]) W'∧Below n₀ W W')∨(e = .returned (.bool false)∧Jx (pre++[x]) W'))
  (W:World) (hG:Glob W) (h00:0<n₀) (hBa:Ba<n₀) (hBs:Bs<n₀) (ha:W.cell? ⟨Ba,0,none⟩=some (.int .i64 at0)) (hc:W.cell? ⟨Bs,0,none⟩=some (.string s)) (h0:J [] W) :
  CallsIn Fence.wide n Tryz.prog 202 #[.func (.yield l) #[] #[],.pointer (some ⟨Ba,0,none⟩),.pointer (some ⟨Bs,0,none⟩)] W fun e W'=>(∃ v,e = .returned v) ∧
   ((∃ ys,ys=plc at0 (s.data.toList.drop at0)∧J ys W')∨(∃ pre,pre <+: plc at0 (s.data.toList.drop at0)∧Jx pre W')):=by
 refine callsIn_of_wp Tryz.func202 rfl trivial ?_ rfl
 simp only [Tryz.ntmps202,List.size_toArray,List.length_cons,List.length_nil,Nat.reduceAdd,Nat.reduceSub,Array.replicate_succ,Array.replicate_zero,List.push_toArray,List.append_toArray,List.nil_append,List.cons_append]
 gi_wp2
 gi_loopw [4] (fun i wr => ∃ (k:Nat) (pre:List Nat),k≤s.size∧i = .int .i64 k∧J pre wr∧pre++plc k (s.data.toList.drop k)=plc at0 (s.data.toList.drop at0)∧Below n₀ W wr) (fun i _=>s.size - (intOf i).toNat)
 case atStart=>exact ⟨at0,[],hat,rfl,h0,rfl,Below.refl _ _⟩
 case round =>
  obtain ⟨k,pre,hk,rfl,hJs,hp,hB⟩:=hrel
  have ha':=(hB.cell (p:=⟨Ba,0,none⟩) hBa).trans ha
  have hc':=(hB.cell (p:=⟨Bs,0,none⟩) hBs).trans hc
  have HP:=Lib.hid hp
  have HB:=Lib.hid hB
  obtain ⟨m,hm⟩:=hG.out
  have hm':=(hB.cell (p:=⟨0,0,none⟩) h00).trans hm
  have hx:=xdrop s k
  by_cases hlt:k<s.size
  · have CI:=Lib.hid (Tryz.strings_Index (s.extract k s.size) ⟨#[60,47]⟩ m wr (by simp;omega) hm')
    obtain ⟨q,hq⟩:∃ q,Lib.index (s.extract k s.size).data.toList [60,47]=q:=⟨_,rfl⟩
    have hq0:=Lib.index_ge (s.extract k s.size).data.toList [60,47]
    have hq1:=Lib.index_le (s.extract k s.size).data.toList [60,47]
    rw [hq] at hq0 hq1
    have hql:(s.extract k s.size).data.toList.length=s.size - k:=by rw [hx];simp
    rw [hql] at hq1
    replace CI:Hid (Calls Tryz.prog 101 #[.string (s.extract k s.size),.string ⟨#[60,47]⟩] wr fun e w'=>e = .returned (.int .i64 q)∧w'=wr):=by
     have:=CI.out
     rw [show (⟨#[60,47]⟩:ByteArray).data.toList=[60,47] from rfl,hq] at this
     exact this
    rw [hx] at hq
    have HQ:=Lib.hid hq
    clear hq hx hql hp hB hm
    by_cases hneg:q<0
    · gi_wp2_with (refine ⟨trivial,?_⟩;gi_at_call 101;refine (callsIn_wide.2 CI.out).mono ?_;rintro e w' ⟨rfl,rfl⟩)
      refine bodyPost_ret (results_none rfl _ _ _) rfl ?_
      exact ⟨⟨_,rfl⟩,.inl ⟨pre,by rw [← HP.out,plc_none _ _ (by rw [HQ.out];exact hneg),List.append_nil],hJs⟩⟩
    · obtain ⟨j,rfl⟩:∃ j:Nat,q=j:=⟨q.toNat,by omega⟩
      have hkj:k+j+1≤s.size:=by
       have h1:=index_lt _ j HQ.out
       rw [List.length_drop,Array.length_toList] at h1
       have:s.data.size=s.size:=rfl
       omega
      have hps:=plc_some (s.data.toList.drop k) k j HQ.out
      rw [List.drop_drop,show k+(j+1)=k+j+1 by omega] at hps
      have hlen:pre.length<s.size+1:=by
       have h1:=congrArg List.length HP.out
       have h2:=plc_length (s.data.toList.drop at0) at0
       simp only [List.length_append,List.length_drop,Array.length_toList] at h1 h2
       have:s.data.size=s.size:=rfl
       omega
      obtain ⟨fn,tmps,assign,body,hy,hR⟩:=hY pre (k+j) wr hJs hlen
      rw [Int.natCast_add] at hy
      have HP':=Lib.hid (show (pre++[k+j])++plc (k+j+1) (s.data.toList.drop (k+j+1))=plc at0 (s.data.toList.drop at0) by rw [← HP.out,hps];simp)
      clear hps hlen
      gi_wp2_with (refine ⟨trivial,?_⟩;gi_at_call 101;refine (callsIn_wide.2 CI.out).mono ?_;rintro e w' ⟨rfl,rfl⟩)
      refine hR.mono ?_
      rintro e W3 (⟨rfl,hJ3,hk3⟩|⟨rfl,hJx3⟩)
      · gi_wp2
        go_roundw
        case rel=>exact ⟨k+j+1,pre++[k+j],hkj,by go_num,hJ3,HP'.out,HB.out.trans hk3⟩
        case measure=>simp [intOf];omega
      · gi_wp2
        refine bodyPost_ret (results_none rfl _ _ _) rfl ?_
        exact ⟨⟨_,rfl⟩,.inr ⟨pre++[k+j],⟨_,HP'.out⟩,hJx3⟩⟩
  · obtain rfl:k=s.size:=by omega
    gi_wp2
    go_end0
    exact ⟨⟨_,rfl⟩,.inl ⟨pre,by rw [← HP.out,List.drop_eq_nil_of_le (by simp),plc,List.append_nil],hJs⟩⟩
theorem places_stops (n Ba Bs n₀:Nat) (s:ByteArray) (at0:Nat) (hn:1≤n) (hs:s.size≤1000000) (hat:at0≤s.size) (w:World) (hG:Glob w) (h00:0<n₀) (hBa:Ba<n₀) (hBs:Bs<n₀) (hn₀:n₀≤w.heap.size)
  (ha:w.cell? ⟨Ba,0,none⟩=some (.int .i64 at0)) (hc:w.cell? ⟨Bs,0,none⟩=some (.string s)) :
  SeqStopsK Fence.wide n Tryz.prog 202 #[.pointer (some ⟨Ba,0,none⟩),.pointer (some ⟨Bs,0,none⟩)] (fun x:Nat => #[Value.int .i64 x]) (Below n₀) (fun ys=>ys=plc at0 (s.data.toList.drop at0)) (fun pre=>pre <+: plc at0 (s.data.toList.drop at0)) (s.size+1) w :=
 fun l J Jx W hW _ _ hY h0=>places1_in n l Ba Bs n₀ s at0 hn hs hat J Jx hY W (hG.step hW) h00 hBa hBs ((hW.cell (p:=⟨Ba,0,none⟩) (Nat.lt_of_lt_of_le hBa hn₀)).trans ha) ((hW.cell (p:=⟨Bs,0,none⟩) (Nat.lt_of_lt_of_le hBs hn₀)).trans hc) h0
theorem ends_past (s name:List UInt8) (n k:Nat) (hn:s.length<n):raw_Ends.f (k+1) (B s) (n:Int) (B name)=some (endsL (s.drop n) name):=by
 have hd:s.drop n=[]:=List.drop_eq_nil_of_le (by omega)
 have he:endsL [] name=false:=by simp [endsL,begR]
 have j_true:raw_Ends.j0 (k+1) (B s) (n:Int) (B name) true=some false:=by rw [raw_Ends.j0,if_pos rfl]
 rw [hd,he]
 unfold raw_Ends.f
 by_cases hne:name=[]
 · subst hne
   rw [if_pos (by simp),j_true]
 · rw [if_neg (by simpa using hne),show (⟨#[60,47]⟩:ByteArray)=B [60,47] from rfl,begins_past s _ n (by omega),Option.bind_some,if_neg (by simp),j_true]
theorem ends_c (s name:List UInt8) (n:Nat) (hs:s.length≤1000000) (hl:name.length≤1000000) (w:World) :
  Calls Tryz.prog 180 #[.string (B s),.int .i64 n,.string (B name)] w fun e w'=>e = .returned (.bool (endsL (s.drop n) name))∧Below w.heap.size w w':=by
 by_cases h:n≤s.length
 · exact raw_Ends.calls 1 _ _ _ _ w (ends_f 0 s name n hs hl h)
 · exact raw_Ends.calls 1 _ _ _ _ w (ends_past s name n 0 (by omega))
theorem keeps_below {W W':World} (h:Below W.heap.size W W'):KeepsOthers W W' :=
 ⟨h.size,fun b _ hb _=>(h.block b (Array.getElem?_eq_some_iff.1 hb).1).trans hb⟩
def clN (n:Nat) (a:Int):Nat:=if a<0 then 0 else if (n:Int)<a then n else a.toNat
attribute [local go_sem] max2_int min2_int max_two min_two max_three min_three max_four min_four
def At3 (w W:World) (s name:ByteArray) (r:Int):Prop :=
 W.cell? ⟨w.heap.size,0,none⟩=some (.string s)∧W.cell? ⟨w.heap.size+1,0,none⟩=some (.string name)∧W.cell? ⟨w.heap.size+1+1,0,none⟩=some (.int .i64 r)∧W.frozen? ⟨w.heap.size+1+1,0,none⟩=false
theorem At3.kept {w A B':World} {s name:ByteArray} {r:Int} {row:Option Nat} (h:At3 w A s name r) (hg:A.grownBy B' row) (hr:∀ k,row=some k→∃ o,A.heap[k]? = some o∧o.isCells=false):At3 w B' s name r :=
 ⟨cell_kept h.1 hg hr,cell_kept h.2.1 hg hr,cell_kept h.2.2.1 hg hr,(frozen_kept h.2.2.1 hg hr).trans h.2.2.2⟩
theorem At3.below {w A B':World} {s name:ByteArray} {r:Int} {n:Nat} (h:At3 w A s name r) (hb:Below n A B') (hn:w.heap.size+1+1<n):At3 w B' s name r :=
 ⟨(hb.cell (p:=⟨_,0,none⟩) (by show w.heap.size<n;omega)).trans h.1,(hb.cell (p:=⟨_,0,none⟩) (by show w.heap.size+1<n;omega)).trans h.2.1,(hb.cell (p:=⟨_,0,none⟩) hn).trans h.2.2.1,(hb.frozen (p:=⟨_,0,none⟩) hn).trans h.2.2.2⟩
theorem At3.put {w A:World} {s name:ByteArray} {r:Int} (h:At3 w A s name r) (x:Int):At3 w (A.setCell ⟨w.heap.size+1+1,0,none⟩ (.int .i64 x)) s name x :=
 ⟨by rw [World.cell?_setCell_other _ _ _ _ (by intro e;injection e;omega)];exact h.1,by rw [World.cell?_setCell_other _ _ _ _ (by intro e;injection e;omega)];exact h.2.1,
   World.cell?_setCell_same' _ _ _ (by rw [h.2.2.1];rfl),by rw [World.frozen?_setCell];exact h.2.2.2⟩
set_option maxRecDepth 100000 in
set_option maxHeartbeats 4000000 in
theorem find_in (s name:List UInt8) (a:Int) (w:World) (hG:Glob w) (hs:s.length≤1000000) (hl:name.length≤1000000) :
  CallsIn Fence.wide 8 Tryz.prog 134 #[.string (B s),.int .i64 a,.string (B name)] w fun e w'=>e = .returned (.int .i64 (rawFind s (clN s.length a) name))∧Below w.heap.size w w':=by
 obtain ⟨j1,hj1⟩:∃ j,(if a<0 then 0 else a)=j:=⟨_,rfl⟩
 obtain ⟨j2,hj2⟩:∃ j,(if ((B s).size:Int)<j1 then ((B s).size:Int) else j1)=j:=⟨_,rfl⟩
 have hc:j2=(clN s.length a:Nat)∧clN s.length a≤s.length:=by
  rw [← hj2,← hj1,size_B];unfold clN
  repeat' split
  all_goals first|omega | (simp;omega)
 obtain ⟨hc1,hc2⟩:=hc
 obtain ⟨n,hn⟩:∃ n,clN s.length a=n:=⟨_,rfl⟩
 rw [hn] at hc1 hc2 ⊢
 clear hn
 subst hc1
 have E:=ends_c s name
 obtain ⟨sb,hsb⟩:∃ b,B s=b:=⟨_,rfl⟩
 obtain ⟨nb,hnb⟩:∃ b,B name=b:=⟨_,rfl⟩
 have hzs:sb.size=s.length:=by rw [← hsb];simp
 have hds:sb.data.toList=s:=by rw [← hsb,B_data]
 rw [hsb] at E hj2 ⊢
 rw [hnb] at E ⊢
 clear hsb hnb
 have EE:=Lib.hid E
 have HZ:=Lib.hid hzs
 have HD:=Lib.hid hds
 have hzb:sb.size≤1000000:=by omega
 clear E hzs hds
 refine callsIn_of_wp_marks Tryz.func134 rfl trivial ?_ rfl
 simp only [Tryz.ntmps134,List.size_toArray,List.length_cons,List.length_nil,Nat.reduceAdd,Nat.reduceSub,Array.replicate_succ,Array.replicate_zero,List.push_toArray,List.append_toArray,List.nil_append,List.cons_append]
 gi_wp2_with (refine ⟨trivial,?_⟩;gi_at_call 179;refine (callsIn_wide.2 (places_any _ _ _)).mono ?_;rintro e w' ⟨rfl,rfl⟩)
 obtain ⟨W0,hW0⟩:∃ W0,((((w.alloc (.cells #[.string sb] 9)).alloc (.cells #[.string nb] 9)).alloc (.cells #[.int .i64 0] 3)).alloc (.cells #[.string sb] 9)).alloc (.cells #[.int .i64 (n:Int)] 3)=W0:=⟨_,rfl⟩
 have hz0:W0.heap.size=w.heap.size+5:=by rw [← hW0];simp
 have hB0:Below w.heap.size w W0:=by
  rw [← hW0]
  exact (((((Below.refl _ w).alloc (Nat.le_refl _) _).alloc (by simp) _).alloc (by simp;omega) _).alloc (by simp;omega) _).alloc (by simp;omega) _
 have hA0:At3 w W0 sb nb 0:=by
  rw [← hW0]
  have c0:=cell_new_l w (.string sb) 9
  have c1:=cell_new_l (w.alloc (.cells #[.string sb] 9)) (.string nb) 9
  have c2:=cell_new_l ((w.alloc (.cells #[.string sb] 9)).alloc (.cells #[.string nb] 9)) (.int .i64 0) 3
  simp only [World.size_alloc] at c1 c2
  exact ⟨cell_alloc_l _ (cell_alloc_l _ (cell_alloc_l _ (cell_alloc_l _ c0.1))),cell_alloc_l _ (cell_alloc_l _ (cell_alloc_l _ c1.1)),cell_alloc_l _ (cell_alloc_l _ c2.1),frozen_alloc_l _ (cell_alloc_l _ c2.1) (frozen_alloc_l _ c2.1 c2.2)⟩
 have hBs:W0.cell? ⟨w.heap.size+1+1+1,0,none⟩=some (.string sb):=by
  rw [← hW0]
  have c3:=cell_new_l (((w.alloc (.cells #[.string sb] 9)).alloc (.cells #[.string nb] 9)).alloc (.cells #[.int .i64 0] 3)) (.string sb) 9
  simp only [World.size_alloc] at c3
  exact cell_alloc_l _ c3.1
 have hBa:W0.cell? ⟨w.heap.size+1+1+1+1,0,none⟩=some (.int .i64 (n:Int)):=by
  rw [← hW0]
  have c4:=cell_new_l ((((w.alloc (.cells #[.string sb] 9)).alloc (.cells #[.string nb] 9)).alloc (.cells #[.int .i64 0] 3)).alloc (.cells #[.string sb] 9)) (.int .i64 (n:Int)) 3
  simp only [World.size_alloc] at c4
  exact c4.1
 rw [hW0]
 have hGW:=hG.step hB0
 clear hW0
 obtain ⟨mG,hmG⟩:=hG.out
 have h00:=World.block_lt_of_cell? w _ hmG
 refine wpIn_rangeFunc_ownF rfl (by decide) (gf:=202) (lb := #[.pointer (some ⟨w.heap.size+1+1+1+1,0,none⟩),.pointer (some ⟨w.heap.size+1+1+1,0,none⟩)]) rfl trivial (enters_of Tryz.func202 (by kernel_rfl) rfl)
  (places_stops 7 (w.heap.size+1+1+1+1) (w.heap.size+1+1+1) W0.heap.size sb n (by decide) hzb (by rw [HZ.out];exact hc2) W0 hGW (by omega) (by omega) (by omega) (Nat.le_refl _) hBa hBs) belowK_t (belowK_b (Nat.le_refl _)) (Below.refl _ _) (fun _=>rfl)
  (fun pre W=>((∀ p∈pre,endsL (s.drop p) name=false)∧At3 w W sb nb 0∧W.cell? ⟨w.heap.size+1+1+1+1,0,none⟩=some (.int .i64 (n:Int)))∧Below w.heap.size w W)
  (fun c pre W=>(c = .ret∧∃ p x,pre=p++[x]∧(∀ q∈p,endsL (s.drop q) name=false)∧endsL (s.drop x) name=true∧At3 w W sb nb x)∧Below w.heap.size w W)
  (OwnFrom.and (Own.from (fun t A B' row hs' hg hr=>⟨hs'.1,hs'.2.1.kept hg hr,cell_kept hs'.2.2 hg hr⟩) _) (ownFrom_below (Nat.le_refl _) (by omega)))
  (fun c=>OwnFrom.and (Own.from (fun t A B' row ⟨e1,p,x,e2,e3,e4,e5⟩ hg hr=>⟨e1,p,x,e2,e3,e4,e5.kept hg hr⟩) _) (ownFrom_below (Nat.le_refl _) (by omega)))
  ⟨⟨by simp,hA0,hBa⟩,hB0⟩
  (fun x=>{ tmps := #[.string sb,.int .i64 a,.string nb,.pointer (some ⟨w.heap.size,0,none⟩),undef,.pointer (some ⟨w.heap.size+1,0,none⟩),.pointer (some ⟨w.heap.size+1+1,0,none⟩),.int .i64 (x:Nat),.string sb,.int .i64 a,.int .i64 j1,.string sb,.int .i64 (sb.size:Int),.int .i64 (n:Int),.func (.func 202) #[] #[.pointer (some ⟨w.heap.size+1+1+1+1,0,none⟩),.pointer (some ⟨w.heap.size+1+1+1,0,none⟩)],.int .i64 (x:Nat),undef,undef,undef,undef,undef,undef,undef],defers:=[] }) ?assign ?body ?done ?stop
 case assign =>
  intro l x W K hK
  gi_wp2
  exact hK
 case body =>
  rintro l pre x W ⟨⟨hp,hA,hcB⟩,hB⟩ _
  have hlt5:w.heap.size+1+1+1+1<W.heap.size:=World.block_lt_of_cell? W _ hcB
  have HCB:=Lib.hid hcB
  clear hcB
  have hcs:=hA.1
  have hcn:=hA.2.1
  have HA:=Lib.hid hA
  clear hA
  have EC:=Lib.hid (EE.out x hs hl W)
  obtain ⟨eb,heb⟩:∃ b,endsL (s.drop x) name=b:=⟨_,rfl⟩
  rw [heb] at EC
  have hsz:=hB.size
  have hlt3:w.heap.size+1+1<W.heap.size:=World.block_lt_of_cell? W _ HA.out.2.2.1
  have HHB:=Lib.hid hB
  clear hB
  cases eb with
  | true =>
    gi_wp2_with (refine ⟨trivial,?_⟩;gi_at_call 180;refine (CallsIn.inRound l (callsIn_wide.2 EC.out)).mono ?_;rintro e w' ⟨rfl,hbel⟩;have hA2:=HA.out.below hbel hlt3;have hcr:=hA2.2.2.1;have hfr:=hA2.2.2.2;have HA2:=Lib.hid hA2;clear hA2)
    refine ⟨(keeps_below hbel).trans (KeepsOthers.setCell _ _ _),⟨rfl,pre,x,rfl,hp,heb,?_⟩,(HHB.out.trans (hbel.mono hsz)).setCell (p:=⟨w.heap.size+1+1,0,none⟩) (by simp;omega) _⟩
    exact HA2.out.put x
  | false =>
    gi_wp2_with (refine ⟨trivial,?_⟩;gi_at_call 180;refine (CallsIn.inRound l (callsIn_wide.2 EC.out)).mono ?_;rintro e w' ⟨rfl,hbel⟩;have HA2:=Lib.hid (HA.out.below hbel hlt3))
    rename_i w' hbel HA2
    refine ⟨keeps_below hbel,hbel.mono (by omega),⟨fun q hq => ?_,HA2.out,(hbel.cell (p:=⟨_,0,none⟩) hlt5).trans HCB.out⟩,HHB.out.trans (hbel.mono hsz)⟩
    rcases List.mem_append.1 hq with hq|hq
    · exact hp q hq
    · rw [List.mem_singleton.1 hq];exact heb
 case done =>
  rintro D ys W hD rfl ⟨⟨hne,hA,-⟩,hB⟩ hK
  have hcs:=hA.1
  have hcr:=hA.2.2.1
  have hfr:=hA.2.2.2
  gi_wp2
  have hK':=(KeepsOthers.setCell W ⟨w.heap.size+1+1,0,none⟩ (.int .i64 (sb.size:Int))).same D _ hK rfl
  refine ⟨by simp,.inl ⟨_,_,rfl,run_takeDeferred hK',?_⟩⟩
  have hc5:=cell_kept (World.cell?_setCell_same' W ⟨w.heap.size+1+1,0,none⟩ (.int .i64 (sb.size:Int)) (by rw [hcr];rfl)) (grownBy_putObj' _ D (.deferred none)) (fun r e=>by cases e;exact ⟨_,hK',rfl⟩)
  refine ⟨.int .i64 (sb.size:Int),?_,by rw [rawFind_none (fun p hp=>hne p (by rw [HD.out];exact hp)),HZ.out],(hB.setCell (p:=⟨w.heap.size+1+1,0,none⟩) (by simp;omega) _).trans (belowK_b (w:=w) (Nat.le_refl _) _ D _ _ (by omega) hK' rfl rfl)⟩
  simp [results,Tryz.f134,go_sem,hc5]
 case stop =>
  rintro D c pre W hD hpre ⟨⟨rfl,p,x,rfl,e3,e4,hA⟩,hB⟩ hK
  gi_wp2
  refine ⟨by simp,.inl ⟨_,_,rfl,run_takeDeferred hK,?_⟩⟩
  have hc5:=cell_kept hA.2.2.1 (grownBy_putObj' _ D (.deferred none)) (fun r e=>by cases e;exact ⟨_,hK,rfl⟩)
  refine ⟨.int .i64 (x:Nat),?_,by rw [rawFind_some (by rw [HD.out] at hpre;exact hpre) e3 e4],hB.trans (belowK_b (w:=w) (Nat.le_refl _) W D _ _ (by omega) hK rfl rfl)⟩
  simp [results,Tryz.f134,go_sem,hc5]
theorem rawFind_any (s name:List UInt8) (a:Int) (w:World) (hG:Glob w) (hs:s.length≤1000000) (hl:name.length≤1000000) :
  Calls Tryz.prog 134 #[.string (B s),.int .i64 a,.string (B name)] w fun e w'=>e = .returned (.int .i64 (rawFind s (clN s.length a) name))∧Below w.heap.size w w' :=
 callsIn_wide.1 (find_in s name a w hG hs hl)
end Go.Proofs.YtcecjoaeolglbaaGreatDoor.Hand
end

section
namespace Go.Proofs.YtcecjoaeolglbaaGreatDoor.Pure
open Go Go.RowKit Go.Proofs.YtcecjoaeolglbaaGreatDoor.Hand Go.Proofs.YtcecjoaeolglbaaGreatDoor.Sa Go.Proofs.YtcecjoaeolglbaaGreatDoorW.PrintWords Go.Proofs.YtcecjoaeolglbaaGreatDoorW.PrintMore Go.Proofs.YtcecjoaeolglbaaGreatDoor.Pl Go.Proofs.YtcecjoaeolglbaaGreatDoor.Pb
attribute [local simp] B_nil
theorem ends_ev (s name:List UInt8) (n:Nat) (hs:s.length≤1000000) (hl:name.length≤1000000) (hn:n≤s.length) :
  Ev (fun k=>raw_Ends.f k (B s) (n:Int) (B name)) (endsL (s.drop n) name) :=
 Ev.step (f:=fun _=>some (endsL (s.drop n) name)) (fun k=>ends_f k s name n hs hl hn) (Ev.now _)
theorem word_ev (s opens:List UInt8) (n:Nat) (hs:s.length≤1000000) (hl:opens.length≤1000) (hn:n≤s.length) :
  Ev (fun k=>script_word.f k (B s) (n:Int) (B opens)) (if wordL (s.drop n) opens=true then ((opens.length+7:Nat):Int) else 0) :=
 Ev.step (f:=fun _=>some (if wordL (s.drop n) opens=true then ((opens.length+7:Nat):Int) else 0)) (fun k=>word_f k s opens n hs hl hn) (Ev.now _)
def stepM (st ct:Nat) (r:List UInt8) (c:UInt8):Nat×Nat×Nat :=
 if c=45 then (1,st,ct+1) else if c=62∧2≤ct then (1,0,0)
 else if st=1 then (if wordL r [60]=true then (8,2,0) else (1,1,0)) else (if wordL r [60,47]=true then (9,1,0) else (1,2,0))
theorem stepF_M {st ct:Nat} {r:List UInt8} {c:UInt8} (h0:st≠0) (he:¬(st≠2∧endsL (c::r) scriptL=true)) :
  stepF st ct (c::r)=some (stepM st ct (c::r) c):=by
 simp only [stepF,stepM,if_neg he,if_neg h0]
 repeat' split
 all_goals rfl
theorem stepM_ok (st ct n:Nat) (r:List UInt8) (c:UInt8) (hct:ct≤n) (h2:st≤2):(stepM st ct r c).2.2≤n+(stepM st ct r c).1∧(stepM st ct r c).2.1≤2:=by
 unfold stepM
 repeat' split
 all_goals simp only [] ;omega
theorem m_ev {s:List UInt8} {n:Nat} {c:UInt8} {r:List UInt8} {st ct:Nat} {L:Nat→Int→Int→Int→Option (Int×Int)} {v:Int×Int}
  (hs:s.length≤1000000) (hr:s.drop n=c::r) (hst:st=1∨st=2) (hct:ct≤n)
  (h:Ev (fun k=>L k ((n+(stepM st ct (c::r) c).1:Nat):Int) ((stepM st ct (c::r) c).2.1:Int) ((stepM st ct (c::r) c).2.2:Int)) v) :
  Ev (fun k=>script_Find.m k (L k) (B s) (n:Int) (st:Int) (ct:Int)) v:=by
 have hlt:=drop_lt hr
 unfold script_Find.m
 simp only [if_pos (show (0:Int)≤(n:Int) by omega),if_pos (show (n:Int)<((B s).size:Int) by simp;omega),bt_drop s n c r hr,u45,u62]
 have w1:wrap64 ((n:Int)+1)=((n+1:Nat):Int):=wrap_nat _ (by omega)
 have w2:wrap64 ((ct:Int)+1)=((ct+1:Nat):Int):=wrap_nat _ (by omega)
 simp only [w1,w2]
 unfold stepM at h
 by_cases h45:c=45
 · simp only [if_pos h45] at h ⊢;exact h
 · by_cases h62:c=62∧2≤ct
   · have h62':c=62∧(2:Int)≤(ct:Int):=⟨h62.1,by omega⟩
     simp only [if_neg h45,if_pos h62] at h
     simp only [if_neg h45,if_pos h62']
     exact h
   · have h62':¬ (c=62∧(2:Int)≤(ct:Int)):=fun e=>h62 ⟨e.1,by omega⟩
     simp only [if_neg h45,if_neg h62] at h
     simp only [if_neg h45,if_neg h62']
     rcases hst with rfl|rfl
     · simp only [if_true] at h
       simp only [show (((1:Nat):Int)=1)=True by simp,if_true]
       refine Ev.bind (word_ev s [60] n hs (by simp) (by omega)) ?_
       rw [hr]
       cases hw:wordL (c::r) [60] with
       | true =>
         simp only [hw,if_true] at h
         simp only [if_true,show (((([60]:List UInt8).length+7:Nat):Int)>0) by decide]
         have w:wrap64 ((n:Int)+((([60]:List UInt8).length+7:Nat):Int))=((n+8:Nat):Int):=by simp only [List.length_cons,List.length_nil];unfold wrap64;omega
         simp only [w];exact h
       | false =>
         simp only [hw,Bool.false_eq_true,if_false] at h
         simp only [Bool.false_eq_true,if_false,show ¬ ((0:Int)>0) by omega]
         exact h
     · simp only [show ((2:Nat)=1)=False by simp,if_false] at h
       simp only [show (((2:Nat):Int)=1)=False by simp,show (((2:Nat):Int)=2)=True by simp,if_true,if_false]
       refine Ev.bind (word_ev s [60,47] n hs (by simp) (by omega)) ?_
       rw [hr]
       cases hw:wordL (c::r) [60,47] with
       | true =>
         simp only [hw,if_true] at h
         simp only [if_true,show (((([60,47]:List UInt8).length+7:Nat):Int)>0) by decide]
         have w:wrap64 ((n:Int)+((([60,47]:List UInt8).length+7:Nat):Int))=((n+9:Nat):Int):=by simp only [List.length_cons,List.length_nil];unfold wrap64;omega
         simp only [w];exact h
       | false =>
         simp only [hw,Bool.false_eq_true,if_false] at h
         simp only [Bool.false_eq_true,if_false,show ¬ ((0:Int)>0) by omega]
         exact h
def findV (s:List UInt8) (n st ct:Nat):Int×Int:=(((n+(findL st ct (s.drop n)).1:Nat):Int),((findL st ct (s.drop n)).2:Int))
theorem findV_none {s:List UInt8} {n st ct:Nat} (h:stepF st ct (s.drop n)=none):findV s n st ct=((n:Int),(st:Int)):=by
 unfold findV;rw [findL_none h];simp
theorem findV_some {s:List UInt8} {n st ct a st' ct':Nat} (h:stepF st ct (s.drop n)=some (a,st',ct')):findV s n st ct=findV s (n+a) st' ct':=by
 unfold findV;rw [findL_some h,List.drop_drop];simp only [Nat.add_assoc]
theorem find_l (s:List UInt8) (hs:s.length≤1000000):∀ m n st ct:Nat,s.length - n≤m→n≤s.length→ct≤n→st≤2 →
  Ev (fun k=>script_Find.l k (B s) (n:Int) (st:Int) (ct:Int)) (findV s n st ct):=by
 intro m
 induction m with
 | zero =>
   intro n st ct hm hn hct hst
   have:s.drop n=[]:=List.drop_eq_nil_of_le (by omega)
   rw [findV_none (by rw [this];rfl)]
   refine Ev.step (f:=fun _=>some ((n:Int),(st:Int))) (fun k => ?_) (Ev.now _)
   rw [script_Find.l,if_pos (by simp;omega)]
 | succ m ih =>
   intro n st ct hm hn hct hst
   cases hr:s.drop n with
   | nil =>
     have:=drop_nil hr
     rw [findV_none (by rw [hr];rfl)]
     refine Ev.step (f:=fun _=>some ((n:Int),(st:Int))) (fun k => ?_) (Ev.now _)
     rw [script_Find.l,if_pos (by simp;omega)]
   | cons c r =>
     have hlt:=drop_lt hr
     have hgo:∀ a st' ct':Nat,stepF st ct (s.drop n)=some (a,st',ct')→ct'≤n+a→st'≤2 →
       Ev (fun k=>script_Find.l k (B s) ((n+a:Nat):Int) (st':Int) (ct':Int)) (findV s n st ct):=by
      intro a st' ct' h1 h2 h3
      have ha:=stepF_adv h1
      simp only [List.length_drop] at ha
      rw [findV_some h1]
      exact ih (n+a) st' ct' (by omega) (by omega) h2 h3
     have hM:st≠0→¬(st≠2∧endsL (c::r) scriptL=true)→Ev (fun k=>script_Find.m k (script_Find.l k (B s)) (B s) (n:Int) (st:Int) (ct:Int)) (findV s n st ct):=by
      intro h0 he
      have hok:=stepM_ok st ct n (c::r) c hct hst
      exact m_ev (L:=fun k=>script_Find.l k (B s)) hs hr (by omega) hct (hgo _ _ _ (by rw [hr];exact stepF_M h0 he) hok.1 hok.2)
     by_cases h2:st=2
     · subst h2
       refine Ev.step (fun k => ?_) (hM (by omega) (by simp))
       rw [script_Find.l,if_neg (by simp;omega),if_pos (by rfl)]
     · have hstep:∀ k,script_Find.l (k+1) (B s) (n:Int) (st:Int) (ct:Int)=(raw_Ends.f k (B s) (n:Int) (B scriptL)).bind fun e =>
         if e=true then some ((n:Int),(st:Int))
         else if (st:Int)=0 then (sign_Begins.f (B s) (n:Int) (B [60,33,45,45])).bind fun b=>if b=true then script_Find.l k (B s) (wrap64 ((n:Int)+4)) 1 2 else script_Find.l k (B s) (wrap64 ((n:Int)+1)) 0 (ct:Int)
         else script_Find.m k (script_Find.l k (B s)) (B s) (n:Int) (st:Int) (ct:Int):=by
        intro k
        rw [script_Find.l,if_neg (by simp;omega),if_neg (by omega)];rfl
       refine Ev.step hstep (Ev.bind (ends_ev s scriptL n hs (by simp [scriptL]) hn) ?_)
       rw [hr]
       cases he:endsL (c::r) scriptL with
       | true =>
         simp only [if_true]
         rw [findV_none (by rw [hr];simp only [stepF,if_pos (And.intro h2 he)])]
         exact Ev.now _
       | false =>
         have hne:¬ (st≠2∧endsL (c::r) scriptL=true):=by rw [he];simp
         simp only [Bool.false_eq_true,if_false]
         by_cases h0:st=0
         · subst h0
           simp only [show (((0:Nat):Int)=0)=True by simp,if_true,begins_f s [60,33,45,45] n hs (by simp) hn,Option.bind_some,hr]
           have w4:wrap64 ((n:Int)+4)=((n+4:Nat):Int):=by unfold wrap64;omega
           have w1:wrap64 ((n:Int)+1)=((n+1:Nat):Int):=by unfold wrap64;omega
           cases hb:begR (c::r) [60,33,45,45] with
           | true =>
             simp only [if_true,w4]
             exact hgo 4 1 2 (by rw [hr];simp only [stepF,if_neg hne,hb,if_true]) (by omega) (by omega)
           | false =>
             simp only [Bool.false_eq_true,if_false,w1]
             exact hgo 1 0 ct (by rw [hr];simp only [stepF,if_neg hne,hb,Bool.false_eq_true,if_false,if_true]) (by omega) (by omega)
         · simp only [show ((st:Int)=0)=False by simp;omega,if_false]
           exact hM h0 hne
def clampN (n:Nat) (at_:Int):Nat:=if at_<0 then 0 else if (n:Int)<at_ then n else at_.toNat
theorem clampN_le (n:Nat) (a:Int):clampN n a≤n:=by unfold clampN;split<;>(try split)<;>omega
theorem clampN_1 (n:Nat) (a:Int):mn (mx a 0) (n:Int)=(clampN n a:Int):=by
 unfold clampN mn mx
 repeat' split
 all_goals omega
theorem find_f (s:List UInt8) (hs:s.length≤1000000) (a:Int):Ev (fun k=>script_Find.f k (B s) a) (findV s (clampN s.length a) 0 0):=by
 unfold script_Find.f
 simp only [size_B,clampN_1]
 exact find_l s hs _ _ 0 0 (Nat.le_refl _) (clampN_le _ _) (by omega) (by omega)
end Go.Proofs.YtcecjoaeolglbaaGreatDoor.Pure
end

section
namespace Go.Proofs.YtcecjoaeolglbaaGreatDoor.Hand
open Go Go.RowKit Go.Proofs.YtcecjoaeolglbaaGreatDoor.K0 Go.Proofs.YtcecjoaeolglbaaGreatDoor.Pl Go.Proofs.YtcecjoaeolglbaaGreatDoor.Pb Go.Proofs.YtcecjoaeolglbaaGreatDoor.Sa Go.Proofs.YtcecjoaeolglbaaGreatDoor.Pure Go.Proofs.YtcecjoaeolglbaaGreatDoorW.PrintWords Go.Proofs.YtcecjoaeolglbaaGreatDoorW.PrintLast Go.Proofs.YtcecjoaeolglbaaGreatDoorW.PrintMore
abbrev inT (a0:ByteArray) (a1:Int):Prop:=a0.size≤100000∧0≤a1∧a1≤(a0.size:Int)
def atT (a0:ByteArray) (a1:Int):List UInt8:=a0.data.toList.drop a1.toNat
theorem inT_B {a0:ByteArray} {a1:Int} (h:inT a0 a1):∃ (s:List UInt8) (p:Nat),a0=B s∧a1=(p:Int)∧s.length≤100000∧p≤s.length∧atT a0 a1=s.drop p:=by
 obtain ⟨l,rfl⟩:=exists_B a0
 obtain ⟨h1,h2,h3⟩:=h
 rw [size_B] at h1 h3
 obtain ⟨p,rfl⟩:=Int.eq_ofNat_of_zero_le h2
 exact ⟨l,p,rfl,rfl,h1,by omega,by unfold atT;rw [B_data];rfl⟩
def tag_Begins.f (a0:ByteArray) (a1:Int):Option Bool:=if inT a0 a1 then some (tagN (atT a0 a1) != 0) else none
theorem tag_Begins.calls (a0:ByteArray) (a1:Int) (r:Bool) (w:World) (h:tag_Begins.f a0 a1=some r) :
  Calls Tryz.prog 89 #[.string a0,.int .i64 a1] w fun e w'=>e = .returned (.bool r)∧Below w.heap.size w w':=by
 obtain ⟨hc,h⟩:=hg_split h
 obtain ⟨s,p,rfl,rfl,hs,hp,ha⟩:=inT_B hc
 obtain rfl:=Option.some.inj h
 rw [ha]
 exact tagBegins_c s p hs hp w
def doctype_Begins.f (a0:ByteArray) (a1:Int):Option Bool:=if inT a0 a1 then some (begR (atT a0 a1) docL) else none
theorem doctype_Begins.calls (a0:ByteArray) (a1:Int) (r:Bool) (w:World) (h:doctype_Begins.f a0 a1=some r) :
  Calls Tryz.prog 93 #[.string a0,.int .i64 a1] w fun e w'=>e = .returned (.bool r)∧Below w.heap.size w w':=by
 obtain ⟨hc,h⟩:=hg_split h
 obtain ⟨s,p,rfl,rfl,hs,hp,ha⟩:=inT_B hc
 obtain rfl:=Option.some.inj h
 rw [ha]
 exact docBegins_c s p hs hp w
noncomputable def tkOut (n:Nat) (R:Option Tk×List UInt8):Int×ByteArray×ByteArray×List AtS×Bool×Int×Bool :=
 match R.1 with
 | none=>(0,⟨#[]⟩,⟨#[]⟩,[],false,((n - R.2.length:Nat):Int),false)
 | some t=>((tkC t).1,B (tkC t).2.1,B (tkC t).2.2.1,(tkC t).2.2.2.1.map ofT,(tkC t).2.2.2.2,((n - R.2.length:Nat):Int),true)
theorem tk_row {s:List UInt8} {R:Option Tk×List UInt8} {w w':World} {e:Ending} {r1:Int} {r2 r3:ByteArray} {r4:List AtS} {r5:Bool} {r6:Int} {r7:Bool} (h:TkRet s R w e w') (hR:tkOut s.length R=(r1,r2,r3,r4,r5,r6,r7)) :
  ∃ v3_:Value,e = .returned (.tuple #[.agg #[.int .i64 r1,.string r2,.string r3,v3_,.bool r5],.int .i64 r6,.bool r7])∧Kd.R atK 87 w' w.heap.size (fun _=>True) v3_ r4:=by
 obtain ⟨o,x⟩:=R
 unfold tkOut at hR
 unfold TkRet at h
 cases o with
 | none =>
   simp only [Prod.mk.injEq] at hR h
   obtain ⟨rfl,rfl,rfl,rfl,rfl,rfl,rfl⟩:=hR
   exact ⟨_,h,Kd.R_nil _ _ _ _ _⟩
 | some t =>
   simp only [Prod.mk.injEq] at hR h
   obtain ⟨rfl,rfl,rfl,rfl,rfl,rfl,rfl⟩:=hR
   obtain ⟨v,h1,h2⟩:=h
   exact ⟨v,h1,h2⟩
noncomputable def tag_Read.f (a0:ByteArray) (a1:Int):Option (Int×ByteArray×ByteArray×(List S87)×Bool×Int×Bool):=if inT a0 a1 then some (tkOut a0.size (tagR (atT a0 a1))) else none
theorem tag_Read.calls (a0:ByteArray) (a1:Int) (r1:Int) (r2:ByteArray) (r3:ByteArray) (r4:List (S87)) (r5:Bool) (r6:Int) (r7:Bool) (w:World) (hGl:Glob w) (h:tag_Read.f a0 a1=some (r1,r2,r3,r4,r5,r6,r7)) :
  Calls Tryz.prog 90 #[.string a0,.int .i64 a1] w fun e w' => ∃ v3_:Value,e = .returned (.tuple #[.agg #[.int .i64 r1,.string r2,.string r3,v3_,.bool r5],.int .i64 r6,.bool r7])∧Kd.R k87 87 w' w.heap.size (fun _=>True) v3_ r4∧Below w.heap.size w w':=by
 obtain ⟨hc,h⟩:=hg_split h
 obtain ⟨s,p,rfl,rfl,hs,hp,ha⟩:=inT_B hc
 have h:=Option.some.inj h
 rw [ha,size_B] at h
 refine (tagRead_c s p hs hp w hGl).mono fun e w' hr => ?_
 obtain ⟨v,h1,h2⟩:=tk_row hr.1 h
 exact ⟨v,h1,h2,hr.2⟩
noncomputable def doctype_Read.f (a0:ByteArray) (a1:Int):Option (Int×ByteArray×ByteArray×(List S87)×Bool×Int×Bool) :=
 if inT a0 a1 then (if begR (atT a0 a1) docL=true then some (tkOut a0.size (some (.doctype (cleanL (upto 62 ((atT a0 a1).drop 9)))),past 62 ((atT a0 a1).drop 9))) else none) else none
theorem doctype_Read.calls (a0:ByteArray) (a1:Int) (r1:Int) (r2:ByteArray) (r3:ByteArray) (r4:List (S87)) (r5:Bool) (r6:Int) (r7:Bool) (w:World) (hGl:Glob w) (h:doctype_Read.f a0 a1=some (r1,r2,r3,r4,r5,r6,r7)) :
  Calls Tryz.prog 94 #[.string a0,.int .i64 a1] w fun e w' => ∃ v3_:Value,e = .returned (.tuple #[.agg #[.int .i64 r1,.string r2,.string r3,v3_,.bool r5],.int .i64 r6,.bool r7])∧Kd.R k87 87 w' w.heap.size (fun _=>True) v3_ r4∧Below w.heap.size w w':=by
 obtain ⟨hc,h⟩:=hg_split h
 obtain ⟨s,p,rfl,rfl,hs,hp,ha⟩:=inT_B hc
 rw [ha] at h
 obtain ⟨hb,h⟩:=hg_split h
 have h:=Option.some.inj h
 rw [size_B] at h
 refine (docRead_c s p hs hp hb w hGl).mono fun e w' hr => ?_
 obtain ⟨v,h1,h2⟩:=tk_row hr.1 h
 exact ⟨v,h1,h2,hr.2⟩
theorem comment_Read.calls (a0:ByteArray) (a1:Int) (r1:Int) (r2:ByteArray) (r3:ByteArray) (r4:List (S87)) (r5:Bool) (r6:Int) (r7:Bool) (w:World) (hGl:Glob w) (h:comment_Read.f a0 a1=some (r1,r2,r3,r4,r5,r6,r7)) :
  Calls Tryz.prog 92 #[.string a0,.int .i64 a1] w fun e w' => ∃ v3_:Value,e = .returned (.tuple #[.agg #[.int .i64 r1,.string r2,.string r3,v3_,.bool r5],.int .i64 r6,.bool r7])∧Kd.R k87 87 w' w.heap.size (fun _=>True) v3_ r4∧Below w.heap.size w w':=by
 refine (comment_Read.exact a0 a1 r1 r2 r3 r4 r5 r6 r7 w hGl h).mono ?_
 rintro e w' ⟨h1,rfl,h2⟩
 exact ⟨_,h1,Kd.R_nil _ _ _ _ _,h2⟩
noncomputable def text_Read.f (a0:ByteArray) (a1:Int):Option (ByteArray×Int):=if inT a0 a1 then some (B (rdL false ((atT a0 a1).take (txN (atT a0 a1)))),((a1.toNat+txN (atT a0 a1):Nat):Int)) else none
theorem text_Read.calls (a0:ByteArray) (a1:Int) (r1:ByteArray) (r2:Int) (w:World) (hGl:Glob w) (h:text_Read.f a0 a1=some (r1,r2)) :
  Calls Tryz.prog 96 #[.string a0,.int .i64 a1] w fun e w'=>e = .returned (.tuple #[.string r1,.int .i64 r2])∧Below w.heap.size w w':=by
 obtain ⟨hc,h⟩:=hg_split h
 obtain ⟨s,p,rfl,rfl,hs,hp,ha⟩:=inT_B hc
 have h:=Option.some.inj h
 simp only [Prod.mk.injEq] at h
 obtain ⟨rfl,rfl⟩:=h
 rw [ha]
 exact txRead_c s p hs hp w hGl
noncomputable def ref_Decode.f (a0:ByteArray) (a1:Bool):Option ByteArray:=if a0.size≤100000 then some (B (rdL a1 a0.data.toList)) else none
theorem ref_Decode.calls (a0:ByteArray) (a1:Bool) (r:ByteArray) (w:World) (hGl:Glob w) (h:ref_Decode.f a0 a1=some r) :
  Calls Tryz.prog 132 #[.string a0,.bool a1] w fun e w'=>e = .returned (.string r)∧Below w.heap.size w w':=by
 obtain ⟨hc,h⟩:=hg_split h
 obtain rfl:=Option.some.inj h
 have:=rdecode_c a0.data.toList a1 (by rw [Array.length_toList];exact hc) w hGl hGl.toE
 rwa [← B_of] at this
def raw_Find.f (a0:ByteArray) (a1:Int) (a2:ByteArray):Option Int:=if a0.size≤1000000∧a2.size≤1000000 then some ((rawFind a0.data.toList (clN a0.size a1) a2.data.toList:Nat):Int) else none
theorem raw_Find.calls (a0:ByteArray) (a1:Int) (a2:ByteArray) (r:Int) (w:World) (hGl:Glob w) (h:raw_Find.f a0 a1 a2=some r) :
  Calls Tryz.prog 134 #[.string a0,.int .i64 a1,.string a2] w fun e w'=>e = .returned (.int .i64 r)∧Below w.heap.size w w':=by
 obtain ⟨⟨h1,h2⟩,h⟩:=hg_split h
 obtain rfl:=Option.some.inj h
 have:=rawFind_any a0.data.toList a2.data.toList a1 w hGl (by rw [Array.length_toList];exact h1) (by rw [Array.length_toList];exact h2)
 rw [← B_of,← B_of,Array.length_toList] at this
 exact this
end Go.Proofs.YtcecjoaeolglbaaGreatDoor.Hand
end

section
namespace Go.Proofs.YtcecjoaeolglbaaGreatDoor.Hand
open Go Go.RowKit Go.Maps Go.WideMaps Go.Proofs.YtcecjoaeolglbaaGreatDoor.K0 Go.Proofs.YtcecjoaeolglbaaGreatDoor.Pl Go.Proofs.YtcecjoaeolglbaaGreatDoor.Pb Go.Proofs.YtcecjoaeolglbaaGreatDoor.Sa Go.Proofs.YtcecjoaeolglbaaGreatDoor.Pure Go.Proofs.YtcecjoaeolglbaaGreatDoorW.PrintWords
theorem put_at {D:DataW Unit} (hD:IsMap D) (k:List UInt8) (x:List UInt8) (d z:DataW Unit):IsMap (D.put (.string k) d)∧(D.put (.string k) d).atKey (.string x) z=if x=k then d else D.atKey (.string x) z:=by
 refine ⟨by obtain ⟨es,rfl⟩:=hD;exact ⟨_,rfl⟩,?_⟩
 by_cases h:x=k
 · subst h;rw [if_pos rfl];exact atKey_put_same hD (by trivial) d z
 · rw [if_neg h];exact atKey_put_other (fun e=>h (by injection e)) d z
def stD:DataW Unit:=(((((((((((DataW.map []:DataW Unit).put (.string titleW) (.lit (.int .i64 1))).put (.string areaW) (.lit (.int .i64 1))).put (.string styleW) (.lit (.int .i64 2))).put (.string xmpW) (.lit (.int .i64 2))).put (.string iframeW) (.lit (.int .i64 2))).put (.string noembedW) (.lit (.int .i64 2))).put (.string noframesW) (.lit (.int .i64 2))).put (.string noscriptW) (.lit (.int .i64 2))).put (.string scriptL) (.lit (.int .i64 3))).put (.string plaintextW) (.lit (.int .i64 4)))
theorem st_look (x:List UInt8):stD.atKey (.string x) (.lit (.int .i64 0)) = .lit (.int .i64 ((stateN x:Nat):Int)):=by
 have m0:IsMap (DataW.map []:DataW Unit):=⟨_,rfl⟩
 obtain ⟨m1,e1⟩:=put_at m0 titleW x (.lit (.int .i64 1)) (.lit (.int .i64 0))
 obtain ⟨m2,e2⟩:=put_at m1 areaW x (.lit (.int .i64 1)) (.lit (.int .i64 0))
 obtain ⟨m3,e3⟩:=put_at m2 styleW x (.lit (.int .i64 2)) (.lit (.int .i64 0))
 obtain ⟨m4,e4⟩:=put_at m3 xmpW x (.lit (.int .i64 2)) (.lit (.int .i64 0))
 obtain ⟨m5,e5⟩:=put_at m4 iframeW x (.lit (.int .i64 2)) (.lit (.int .i64 0))
 obtain ⟨m6,e6⟩:=put_at m5 noembedW x (.lit (.int .i64 2)) (.lit (.int .i64 0))
 obtain ⟨m7,e7⟩:=put_at m6 noframesW x (.lit (.int .i64 2)) (.lit (.int .i64 0))
 obtain ⟨m8,e8⟩:=put_at m7 noscriptW x (.lit (.int .i64 2)) (.lit (.int .i64 0))
 obtain ⟨m9,e9⟩:=put_at m8 scriptL x (.lit (.int .i64 3)) (.lit (.int .i64 0))
 obtain ⟨m10,e10⟩:=put_at m9 plaintextW x (.lit (.int .i64 4)) (.lit (.int .i64 0))
 unfold stD
 rw [e10,e9,e8,e7,e6,e5,e4,e3,e2,e1]
 unfold stateN
 by_cases h_plaintextW:x=plaintextW
 · subst h_plaintextW;rfl
 by_cases h_scriptL:x=scriptL
 · subst h_scriptL;rfl
 by_cases h_noscriptW:x=noscriptW
 · subst h_noscriptW;rfl
 by_cases h_noframesW:x=noframesW
 · subst h_noframesW;rfl
 by_cases h_noembedW:x=noembedW
 · subst h_noembedW;rfl
 by_cases h_iframeW:x=iframeW
 · subst h_iframeW;rfl
 by_cases h_xmpW:x=xmpW
 · subst h_xmpW;rfl
 by_cases h_styleW:x=styleW
 · subst h_styleW;rfl
 by_cases h_areaW:x=areaW
 · subst h_areaW;rfl
 by_cases h_titleW:x=titleW
 · subst h_titleW;rfl
 simp only [h_titleW,h_areaW,h_styleW,h_xmpW,h_iframeW,h_noembedW,h_noframesW,h_noscriptW,h_scriptL,h_plaintextW,if_false,or_false]
 rfl
theorem zero3 (W:World):(zeroValue 3).run Tryz.prog W = .ok (.int .i64 0) W:=by kernel_rfl
set_option maxRecDepth 100000 in
set_option maxHeartbeats 4000000 in
theorem state_c (x:List UInt8) (hx:x.length≤1000000) (w:World) :
  Calls Tryz.prog 63 #[.string (B x)] w fun e w'=>e = .returned (.int .i64 ((stateN x:Nat):Int))∧Below w.heap.size w w':=by
 have law9:Keyed Tryz.prog 9:=string_keyed Tryz.underlying9
 have hmm:=@run_makeMap Tryz.prog
 have hkey:keyOf Tryz.prog 9 (.string (B x))=some (.string x):=by
  have:=keyOf_string_mk (P:=Tryz.prog) (k:=9) Tryz.underlying9 (s:=B x) (by rw [size_B];exact Nat.le_trans hx (by decide))
  rwa [B_data] at this
 have hL:=Lib.hid (st_look x)
 have hB0:Below w.heap.size w (w.alloc (.map #[] 0)):=Below.alloc (Below.refl _ _) (Nat.le_refl _) _
 have hown0:(w.alloc (.map #[] 0)).ownsMap Tryz.prog 9 (plainElem (H:=Unit) Tryz.prog 3) w.heap.size 0 (.map []):=World.ownsMap_made w Tryz.prog 9 (plainElem (H:=Unit) Tryz.prog 3)
 obtain ⟨N,hN⟩:∃ N,stateN x=N:=⟨_,rfl⟩
 rw [hN] at hL ⊢
 obtain ⟨a,ha⟩:∃ a,B x=a:=⟨_,rfl⟩
 rw [ha] at hkey ⊢
 clear ha hN
 go_enter Tryz.func63,Tryz.ntmps63
 go_wp2_with (first
  | (refine wp_insert_own _ rfl (.tmp 3) (.const (.string ⟨#[116,105,116,108,101]⟩)) (.const (.int .i64 1)) 131 rfl 9 3 law9 Tryz.underlying131 (plainElem (H:=Unit) Tryz.prog 3) w.heap.size 0 _ rfl hown0 (by decide) _ _ (.string titleW) rfl rfl (keyOf_string_mk Tryz.underlying9 (by decide)) _ [] (plainElem_int Tryz.underlying3 (by decide)) ?_;intro w1 hown1 hg1)
  | (refine wp_insert_own _ rfl (.tmp 3) (.const (.string ⟨#[116,101,120,116,97,114,101,97]⟩)) (.const (.int .i64 1)) 131 rfl 9 3 law9 Tryz.underlying131 (plainElem (H:=Unit) Tryz.prog 3) w.heap.size 1 _ rfl hown1 (by decide) _ _ (.string areaW) rfl rfl (keyOf_string_mk Tryz.underlying9 (by decide)) _ [] (plainElem_int Tryz.underlying3 (by decide)) ?_;intro w2 hown2 hg2)
  | (refine wp_insert_own _ rfl (.tmp 3) (.const (.string ⟨#[115,116,121,108,101]⟩)) (.const (.int .i64 2)) 131 rfl 9 3 law9 Tryz.underlying131 (plainElem (H:=Unit) Tryz.prog 3) w.heap.size 2 _ rfl hown2 (by decide) _ _ (.string styleW) rfl rfl (keyOf_string_mk Tryz.underlying9 (by decide)) _ [] (plainElem_int Tryz.underlying3 (by decide)) ?_;intro w3 hown3 hg3)
  | (refine wp_insert_own _ rfl (.tmp 3) (.const (.string ⟨#[120,109,112]⟩)) (.const (.int .i64 2)) 131 rfl 9 3 law9 Tryz.underlying131 (plainElem (H:=Unit) Tryz.prog 3) w.heap.size 3 _ rfl hown3 (by decide) _ _ (.string xmpW) rfl rfl (keyOf_string_mk Tryz.underlying9 (by decide)) _ [] (plainElem_int Tryz.underlying3 (by decide)) ?_;intro w4 hown4 hg4)
  | (refine wp_insert_own _ rfl (.tmp 3) (.const (.string ⟨#[105,102,114,97,109,101]⟩)) (.const (.int .i64 2)) 131 rfl 9 3 law9 Tryz.underlying131 (plainElem (H:=Unit) Tryz.prog 3) w.heap.size 4 _ rfl hown4 (by decide) _ _ (.string iframeW) rfl rfl (keyOf_string_mk Tryz.underlying9 (by decide)) _ [] (plainElem_int Tryz.underlying3 (by decide)) ?_;intro w5 hown5 hg5)
  | (refine wp_insert_own _ rfl (.tmp 3) (.const (.string ⟨#[110,111,101,109,98,101,100]⟩)) (.const (.int .i64 2)) 131 rfl 9 3 law9 Tryz.underlying131 (plainElem (H:=Unit) Tryz.prog 3) w.heap.size 5 _ rfl hown5 (by decide) _ _ (.string noembedW) rfl rfl (keyOf_string_mk Tryz.underlying9 (by decide)) _ [] (plainElem_int Tryz.underlying3 (by decide)) ?_;intro w6 hown6 hg6)
  | (refine wp_insert_own _ rfl (.tmp 3) (.const (.string ⟨#[110,111,102,114,97,109,101,115]⟩)) (.const (.int .i64 2)) 131 rfl 9 3 law9 Tryz.underlying131 (plainElem (H:=Unit) Tryz.prog 3) w.heap.size 6 _ rfl hown6 (by decide) _ _ (.string noframesW) rfl rfl (keyOf_string_mk Tryz.underlying9 (by decide)) _ [] (plainElem_int Tryz.underlying3 (by decide)) ?_;intro w7 hown7 hg7)
  | (refine wp_insert_own _ rfl (.tmp 3) (.const (.string ⟨#[110,111,115,99,114,105,112,116]⟩)) (.const (.int .i64 2)) 131 rfl 9 3 law9 Tryz.underlying131 (plainElem (H:=Unit) Tryz.prog 3) w.heap.size 7 _ rfl hown7 (by decide) _ _ (.string noscriptW) rfl rfl (keyOf_string_mk Tryz.underlying9 (by decide)) _ [] (plainElem_int Tryz.underlying3 (by decide)) ?_;intro w8 hown8 hg8)
  | (refine wp_insert_own _ rfl (.tmp 3) (.const (.string ⟨#[115,99,114,105,112,116]⟩)) (.const (.int .i64 3)) 131 rfl 9 3 law9 Tryz.underlying131 (plainElem (H:=Unit) Tryz.prog 3) w.heap.size 8 _ rfl hown8 (by decide) _ _ (.string scriptL) rfl rfl (keyOf_string_mk Tryz.underlying9 (by decide)) _ [] (plainElem_int Tryz.underlying3 (by decide)) ?_;intro w9 hown9 hg9)
  | (refine wp_insert_own _ rfl (.tmp 3) (.const (.string ⟨#[112,108,97,105,110,116,101,120,116]⟩)) (.const (.int .i64 4)) 131 rfl 9 3 law9 Tryz.underlying131 (plainElem (H:=Unit) Tryz.prog 3) w.heap.size 9 _ rfl hown9 (by decide) _ _ (.string plaintextW) rfl rfl (keyOf_string_mk Tryz.underlying9 (by decide)) _ [] (plainElem_int Tryz.underlying3 (by decide)) ?_;intro w10 hown10 hg10)
  | (at_lookup;refine wpList_lookup_own_int _ rfl _ _ 131 rfl 9 3 .i64 law9 Tryz.underlying131 Tryz.underlying3 (zero3 _) w.heap.size 10 _ rfl hown10 _ _ rfl hkey ?_;intro c hat hwc)
  | go_in)
 have hB1:=hB0.grown hg1 hB0.size (fun j hj=>by cases hj;exact Nat.le_refl _)
 have hB2:=hB1.grown hg2 hB1.size (fun j hj=>by cases hj;exact Nat.le_refl _)
 have hB3:=hB2.grown hg3 hB2.size (fun j hj=>by cases hj;exact Nat.le_refl _)
 have hB4:=hB3.grown hg4 hB3.size (fun j hj=>by cases hj;exact Nat.le_refl _)
 have hB5:=hB4.grown hg5 hB4.size (fun j hj=>by cases hj;exact Nat.le_refl _)
 have hB6:=hB5.grown hg6 hB5.size (fun j hj=>by cases hj;exact Nat.le_refl _)
 have hB7:=hB6.grown hg7 hB6.size (fun j hj=>by cases hj;exact Nat.le_refl _)
 have hB8:=hB7.grown hg8 hB7.size (fun j hj=>by cases hj;exact Nat.le_refl _)
 have hB9:=hB8.grown hg9 hB8.size (fun j hj=>by cases hj;exact Nat.le_refl _)
 have hB10:=hB9.grown hg10 hB9.size (fun j hj=>by cases hj;exact Nat.le_refl _)
 have hc:(DataW.lit (.int .i64 (N:Int)):DataW Unit) = .lit (.int .i64 c):=hL.out.symm.trans hat
 have hc2:c=(N:Int):=by injection hc with h1;injection h1 with _ h2;exact h2.symm
 go_ret
 exact ⟨by rw [hc2];rfl,hB10⟩
end Go.Proofs.YtcecjoaeolglbaaGreatDoor.Hand
end

section
namespace Go.Proofs.YtcecjoaeolglbaaGreatDoor.St
open Go.RowKit Go.Proofs.YtcecjoaeolglbaaGreatDoor.K0 Go.Proofs.YtcecjoaeolglbaaGreatDoor.Hand Go.Proofs.YtcecjoaeolglbaaGreatDoor.Sa Go.Proofs.YtcecjoaeolglbaaGreatDoor.Si Go.Proofs.YtcecjoaeolglbaaGreatDoorW.PrintWords Go.Proofs.YtcecjoaeolglbaaGreatDoorW.PrintLast Go.Proofs.YtcecjoaeolglbaaGreatDoorW.PrintMore
attribute [local go_sem] max2_int min2_int max_two min_two max_three min_three max_four min_four  
set_option linter.unusedVariables false
set_option linter.unusedSimpArgs false
theorem info46:(Tryz.prog.info? 46).map (fun i=>(i.zero,i.size,i.bytes))=some (some (.agg #[(.int .i64 0),(.string ⟨#[]⟩),(.string ⟨#[]⟩),(.slice none 0 0),(.bool false)]),5,72):=by kernel_rfl
end Go.Proofs.YtcecjoaeolglbaaGreatDoor.St
end
