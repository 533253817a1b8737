/-
  Texts that several claims of this seat share, merged by a program of this session (7).
-/
import Derived.Laws.Runes
import Derived.Deep.RegionHeld3
import Derived.BigQuiet
import Derived.Deep.QuietTactic
import Derived.Laws.ResultCell
import Derived.Laws.Rows
import Derived.Lib.Builder
import Derived.Lib.ConvBytes
import Derived.Laws.IdiomStrings
import Derived.JoinedOf
import Derived.KernelRfl
import Derived.SevenTiedAt
import Derived.Test.YtcecjoaeolglbaaGreatDoorRows
import Derived.Test.YtcecjoaeolglbaaGreatDoorCards
import Derived.ProofKit
import Derived.Handed
import Derived.SizedLaws
import Derived.LaidMore
import Derived.Lay
import Derived.LaidLaws
import Derived.ChangeBears2
import Derived.MakeChecks
import Derived.Shelf.Vars
import Derived.Stop.Joined
import Derived.Test.YtcecjoaeolglbaaGreatDoorZxf
set_option linter.unusedVariables false
set_option linter.unusedSimpArgs false
section
namespace Go.Proofs.YtcecjoaeolglbaaGreatDoor.Hand
open Go Go.RowKit Go.Proofs.YtcecjoaeolglbaaGreatDoor.Pl Go.Proofs.YtcecjoaeolglbaaGreatDoor.Pb Go.Proofs.YtcecjoaeolglbaaGreatDoorW.PrintWords Go.Proofs.YtcecjoaeolglbaaGreatDoorW.PrintLast Go.Proofs.YtcecjoaeolglbaaGreatDoorW.PrintMore
theorem back_stops (n Bs n₀:Nat) (A:Option Addr) (c:Nat) (o:List (List UInt8)) (hn:1≤n) (hs:o.length≤1000000) (w:World) (hn₀:n₀≤w.heap.size) (hBs:Bs<n₀) (hc:w.cell? ⟨Bs,0,none⟩=some (.slice A o.length c))
  (hA:∀ j (hj:j<o.length),∃ g,A=some ⟨g,0,none⟩∧g<n₀∧w.cell? ⟨g,j,none⟩=some (.string (B o[j]))) :
  SeqStopsK Fence.wide n Tryz.prog 153 #[.pointer (some ⟨Bs,0,none⟩)] (bkV o) (Below n₀) (fun ys=>ys=bkF o o.length (Nat.le_refl _)) (fun pre=>pre <+: bkF o o.length (Nat.le_refl _)) (o.length+1) w :=
 fun l J Jx W hW _ _ hY h0=>back1_in n l Bs n₀ A c o hn hs J Jx hY W hBs ((hW.cell (p:=⟨Bs,0,none⟩) (Nat.lt_of_lt_of_le hBs hn₀)).trans hc)
  (fun j hj=>by obtain ⟨g,h1,h2,h3⟩:=hA j hj;exact ⟨g,h1,h2,(hW.cell (p:=⟨g,j,none⟩) (Nat.lt_of_lt_of_le h2 hn₀)).trans h3⟩) h0
theorem cells_ne {W:World} {row:Option Nat} (hr:∀ r,row=some r→∃ o,W.heap[r]? = some o∧o.isCells=false) {k:Nat} {cs:Array Value} {t:TypeId} {fz:Nat×Nat} (h:W.heap[k]? = some (.cells cs t fz)):some k≠row:=fun e=>by
 obtain ⟨o,ho,hc⟩:=hr k e.symm
 rw [h] at ho
 obtain rfl:=Option.some.inj ho
 cases hc
theorem own_turn {W W':World} {row:Option Nat} {lo:Nat} {e:TypeId} {s n:Nat} {v:Value} {xs:List Value} (h:W.ownsRow lo e s v n xs) (hg:W.grownBy W' row) (hr:∀ r,row=some r→∃ o,W.heap[r]? = some o∧o.isCells=false):W'.ownsRow lo e s v n xs:=by
 refine own_other h hg ?_
 cases hv:v.ownBlock with
 | none=>exact .inl rfl
 | some k =>
   obtain ⟨c,fz,hc⟩:=own_kind h k hv
   exact .inr (cells_ne hr hc)
theorem PgAt.turn {lo pb fb:Nat} {z:Value} {g:Pg} {W W':World} {row:Option Nat} (h:PgAt lo pb fb z g W) (hg:W.grownBy W' row) (hr:∀ r,row=some r→∃ o,W.heap[r]? = some o∧o.isCells=false):PgAt lo pb fb z g W':=by
 obtain ⟨p,v,y,hp,hf⟩:=h.fl
 exact ⟨h.le,blk_grown h.blk hg (cells_ne hr h.blk),⟨p,v,y,hp,⟨hf.le,blk_grown hf.blk hg (cells_ne hr hf.blk),own_turn hf.told hg hr,own_turn hf.bl hg hr,hf.ne⟩⟩,own_turn h.op hg hr⟩
structure EnS (lo pb fb:Nat) (g:Pg) (w W:World):Prop where
 pg:IsPg lo pb fb g W
 below:Below lo w W
 pk:Pk pb fb w W
theorem EnS.turn {lo pb fb:Nat} {g:Pg} {w W W':World} {row:Option Nat} (h:EnS lo pb fb g w W) (hlo:lo≤w.heap.size) (hg:W.grownBy W' row) (hr:∀ r,row=some r→w.heap.size≤r∧∃ o,W.heap[r]? = some o∧o.isCells=false):EnS lo pb fb g w W':=by
 obtain ⟨z,hz⟩:=h.pg
 refine ⟨⟨z,hz.turn hg (fun r e=>(hr r e).2)⟩,h.below.grown hg (Nat.le_trans hlo h.below.size) (fun r e=>Nat.le_trans hlo (hr r e).1),fun k o hk h1 h2 h3 h4 => ?_⟩
 exact (hg.block k (blk_lt (h.pk k o hk h1 h2 h3 h4)) (fun e=>by have:=(hr k e.symm).1;have:=blk_lt hk;omega)).trans (h.pk k o hk h1 h2 h3 h4)
theorem EnS.call {lo pb fb:Nat} {g:Pg} {w W W':World} (h:EnS lo pb fb g w W) (hlo:lo≤w.heap.size) (hb:Below W.heap.size W W'):EnS lo pb fb g w W':=by
 obtain ⟨z,hz⟩:=h.pg
 exact ⟨⟨z,hz.call hb⟩,h.below.trans (hb.mono (Nat.le_trans hlo h.below.size)),h.pk.trans (Pk.of_below hb)⟩
theorem EnS.fin {lo pb fb D:Nat} {g:Pg} {w W:World} (h:EnS lo pb fb g w W) (hlo:lo≤w.heap.size) (hD:w.heap.size≤D) (hK:W.heap[D]? = some (.deferred (some []))):EnS lo pb fb g w (W.putObj D (.deferred none)) :=
 h.turn hlo (grownBy_putObj' W D _) (fun r e=>by cases e;exact ⟨hD,_,hK,rfl⟩)
theorem EnS.dec {lo pb fb:Nat} {z:Value} {fl:Fl} {o:List (List UInt8)} {k:Nat} {w W:World} {X:Int} {n:Nat} (h:EnS lo pb fb ⟨fl,o,k⟩ w W) (hle:lo≤pb) (hz:PgAt lo pb fb z ⟨fl,o,k⟩ W) (hX:X=n):EnS lo pb fb ⟨fl,o,n⟩ w (W.setCell ⟨pb,2,none⟩ (.int .i64 X)) :=
 ⟨⟨z,hz.setk hX⟩,h.below.setCell (p:=⟨pb,2,none⟩) hle _,h.pk.trans Pk.set⟩
theorem own_take {w:World} {lo n cap g:Nat} {o:List (List UInt8)} (h:w.ownsRow lo 9 1 (.slice (some ⟨g,0,none⟩) n cap) n (nmV o)) (i:Nat) (hi:i≤n):w.ownsRow lo 9 1 (.slice (some ⟨g,0,none⟩) i cap) (o.take i).length (nmV (o.take i)):=by
 have hl:o.length=n:=by have:=h.1;rw [nmV_length] at this;omega
 have hti:(o.take i).length=i:=by rw [List.length_take];omega
 rw [hti]
 rcases h.2 with ⟨h1,_⟩|⟨g',cap',cur,h1,hb,hg,hnc,hcm,hcs,htake⟩
 · cases h1
 obtain ⟨rfl,rfl⟩:g=g'∧cap=cap':=by simpa using h1
 refine ⟨by rw [nmV_length,hti,Nat.mul_one],.inr ⟨g,cap,cur,rfl,hb,hg,by omega,hcm,hcs,?_⟩⟩
 rw [Nat.mul_one] at htake ⊢
 rw [show nmV (o.take i)=(nmV o).take i by simp [nmV,List.map_take],← htake,List.take_take,Nat.min_eq_left hi]
theorem own_cap {w:World} {lo n cap:Nat} {A:Option Addr} {e s:Nat} {xs:List Value} (h:w.ownsRow lo e s (.slice A n cap) n xs):n≤cap:=by
 rcases h.2 with ⟨h1,rfl⟩|⟨g',cap',cur,h1,hb,hg,hnc,_⟩
 · exact Nat.zero_le _
 · obtain ⟨_,rfl⟩:_∧cap=cap':=by simpa using h1
   exact hnc
attribute [local go_sem] Oper.semAt_some
set_option maxRecDepth 100000 in
set_option maxHeartbeats 8000000 in
theorem end_in (lo pb fb:Nat) (g:Pg) (n:List UInt8) (k0:Int) (x0:ByteArray) (A0:Option Addr) (m0 c0:Nat) (s0:Bool) (w:World) (h:IsPg lo pb fb g w) (hz:flZ g.fl≤100000) (hk:g.kept≤1000000) (hol:g.op.length≤1000000) :
  CallsIn Fence.wide 8 Tryz.prog 80 #[.pointer (some ⟨pb,0,none⟩),.agg (tkAgg k0 (B n) x0 A0 m0 c0 s0)] w (PgTo lo pb fb (pgEnd g n) w):=by
 obtain ⟨z,h⟩:=h
 obtain ⟨fl,o,kept⟩:=g
 have hle:=h.le
 have hlt:=h.lt
 have hlo:=h.base
 obtain ⟨A,c,rfl⟩:=own_slice h.op
 dsimp only at hz hk hol
 obtain ⟨nb,hnb⟩:∃ b,B n=b:=⟨_,rfl⟩
 have HNB:=Lib.hid hnb
 rw [hnb]
 clear hnb
 obtain ⟨W0,hW0⟩:∃ W0,((w.alloc (.cells #[.pointer (some ⟨pb,0,none⟩)] 113)).alloc (.cells (tkAgg k0 nb x0 A0 m0 c0 s0) 46)).alloc (.cells #[.slice A o.length c] 67)=W0:=⟨_,rfl⟩
 have hz0:W0.heap.size=w.heap.size+3:=by rw [← hW0];simp
 have hB0:Below w.heap.size w W0:=by
  rw [← hW0]
  exact (((Below.refl _ w).alloc (Nat.le_refl _) _).alloc (by simp) _).alloc (by simp;omega) _
 have h0:=h.call hB0
 have kp:W0.cell? ⟨w.heap.size,0,none⟩=some (.pointer (some ⟨pb,0,none⟩)):=by
  rw [← hW0]
  exact cell_alloc_l _ (cell_alloc_l _ (cell_new_l w _ _).1)
 have Tt:W0.heap[w.heap.size+1]? = some (.cells (tkAgg k0 nb x0 A0 m0 c0 s0) 46 (0,0)):=by
  rw [← hW0]
  have:=heap_alloc_new (w.alloc (.cells #[.pointer (some ⟨pb,0,none⟩)] 113)) (.cells (tkAgg k0 nb x0 A0 m0 c0 s0) 46)
  rw [World.size_alloc] at this
  exact blk_alloc this _
 have ks:W0.cell? ⟨w.heap.size+1+1,0,none⟩=some (.slice A o.length c):=by
  rw [← hW0]
  have c2:=(cell_new_l ((w.alloc (.cells #[.pointer (some ⟨pb,0,none⟩)] 113)).alloc (.cells (tkAgg k0 nb x0 A0 m0 c0 s0) 46)) (.slice A o.length c) 67).1
  simp only [World.size_alloc] at c2
  exact c2
 have hA:∀ j (hj:j<o.length),∃ g,A=some ⟨g,0,none⟩∧g<W0.heap.size∧W0.cell? ⟨g,j,none⟩=some (.string (B o[j])):=fun j hj=>by
  rcases h0.op.2 with ⟨h1,hl⟩|⟨g,cap,cur,h1,_,hg,_⟩
  · have:o.length=0:=hl
    omega
  · obtain ⟨rfl,_⟩:A=some ⟨g,0,none⟩∧c=cap:=by simpa using h1
    refine ⟨g,rfl,blk_lt hg,?_⟩
    have:=h0.op.cells (g:=g) rfl j (.string (B o[j])) (by simp [nmV,hj])
    rwa [add_plain] at this
 have hcap:=own_cap h0.op
 have hfb:fb<w.heap.size:=h.fl.lt
 have hpb0:W0.heap[w.heap.size]? = some (.cells #[.pointer (some ⟨pb,0,none⟩)] 113 (0,0)):=by
  rw [← hW0]
  exact blk_alloc (blk_alloc (heap_alloc_new w _) _) _
 have hW0':=hW0
 unfold tkAgg at hW0'
 have c1:=h.c1
 refine callsIn_of_wp_marks Tryz.func80 rfl trivial ?_ rfl
 simp only [Tryz.ntmps80,List.size_toArray,List.length_cons,List.length_nil,Nat.reduceAdd,Nat.reduceSub,Array.replicate_succ,Array.replicate_zero,List.push_toArray,List.append_toArray,List.nil_append,List.cons_append]
 unfold tkAgg
 gi_wp2_with (refine ⟨trivial,?_⟩;gi_at_call 111;refine (callsIn_wide.2 (back_any _ _ _ _)).mono ?_;rintro e w' ⟨rfl,rfl⟩)
 try rw [hW0']
 clear c1 hW0' hW0
 refine wpIn_rangeFunc_ownF rfl (by decide) (gf:=153) (lb := #[.pointer (some ⟨w.heap.size+1+1,0,none⟩)]) rfl trivial (enters_of Tryz.func153 (by kernel_rfl) rfl)
  (back_stops 7 (w.heap.size+1+1) W0.heap.size A c o (by decide) hol W0 (Nat.le_refl _) (by omega) ks hA) belowK_t (belowK_b (Nat.le_refl _)) (Below.refl _ _) (fun _=>rfl)
  (fun pre W=>(∀ x∈pre,o[x]≠n)∧Below W0.heap.size W0 W)
  (fun cc pre W=>cc = .ret∧∃ p x,pre=p++[x]∧(∀ y∈p,o[y]≠n)∧o[x]=n∧EnS lo pb fb ⟨fl,o.take x.val,kept⟩ w W)
  (OwnFrom.and (Own.from (fun t A B' row hs' hg hr=>hs') _) (ownFrom_below (Nat.le_refl _) (Nat.le_refl _)))
  (fun cc t A B' row hs hg hr=>by
    obtain ⟨e1,p,x,e2,e3,e4,e5⟩:=hs
    exact ⟨e1,p,x,e2,e3,e4,e5.turn hlo hg (fun r e=>⟨by have:=(hr r e).1;omega,(hr r e).2⟩)⟩)
  ⟨by simp,Below.refl _ _⟩
  (fun x=>{ tmps := #[.pointer (some ⟨pb,0,none⟩),.agg #[.int .i64 k0,.string nb,.string x0,.slice A0 m0 c0,.bool s0],.pointer (some ⟨w.heap.size,0,none⟩),.pointer (some ⟨w.heap.size+1,0,none⟩),.int .i64 ((x.val:Nat):Int),.string (B o[x]),.pointer (some ⟨pb,0,none⟩),.pointer (some ⟨pb,0,none⟩),.pointer (some ⟨pb,1,none⟩),.slice A o.length c,.func (.func 153) #[] #[.pointer (some ⟨w.heap.size+1+1,0,none⟩)],.int .i64 ((x.val:Nat):Int),.string (B o[x]),undef,undef,undef,undef,undef,undef,undef,undef,undef,undef,undef,undef,undef,undef,undef,undef,undef,undef,undef,undef,undef,undef,undef,undef,undef,undef,undef,undef,undef,undef,undef,undef,undef,undef,undef,undef,undef,undef,undef,undef],defers:=[] }) ?assign ?body ?done ?stop
 case assign =>
  intro l x W K hK
  gi_wp2
  exact hK
 case body =>
  rintro l pre x W ⟨hp,hB⟩ _
  have h1:=h0.call hB
  have T1:=blk_below Tt hB
  have t1:W.cell? ⟨w.heap.size+1,1,none⟩=some (.string nb):=(blk_cell T1 1).trans rfl
  have p1:=cell_up hB kp
  have c1:=h1.c1
  have f1:=h1.fz 1
  have hxl:x.val<o.length:=x.isLt
  by_cases he:o[x]=n
  · have q:((B o[x]).toList == nb.toList)=true:=by rw [he,HNB.out];simp
    obtain ⟨b,hb⟩:∃ b,B o[x]=b:=⟨_,rfl⟩
    dsimp only
    rw [hb] at q ⊢
    obtain ⟨g,rfl,hg,_⟩:=hA x.val hxl
    have H1:=Lib.hid h1
    have HB:=Lib.hid hB
    have hE:EnS lo pb fb ⟨fl,o.take x.val,kept⟩ w (W.setCell ⟨pb,1,none⟩ (.slice (some ⟨g,0,none⟩) x.val c)).drew :=
     ⟨⟨_,(h1.seto (own_take h1.op x.val (by omega))).drew⟩,below_drew (((hB0.mono hlo).trans (hB.mono (by omega))).setCell (p:=⟨pb,1,none⟩) hle _),((Pk.of_below (hB0.trans (hB.mono (by omega)))).trans (Pk.set (k:=1) (x:=.slice (some ⟨g,0,none⟩) x.val c))).trans (Pk.of_below (below_drew (Below.refl _ _)))⟩
    have hKe:KeepsOthers W (W.setCell ⟨pb,1,none⟩ (.slice (some ⟨g,0,none⟩) x.val c)).drew:=(KeepsOthers.setCell _ _ _).trans (keeps_below (below_drew (Below.refl _ _)))
    have HE:=Lib.hid (And.intro hKe hE)
    have HEQ:=Lib.hid he
    have HP:=Lib.hid hp
    clear h1 hB hA T1 ks Tt h0 h hB0 hE hKe he hp
    gi_wp2
    gi_region
    all_goals
     gi_wp2
     exact ⟨HE.out.1,rfl,pre,x,rfl,HP.out,HEQ.out,HE.out.2⟩
  · have q:((B o[x]).toList == nb.toList)=false:=by rw [← HNB.out,toList_B,toList_B,beq_eq_false_iff_ne];exact he
    obtain ⟨b,hb⟩:∃ b,B o[x]=b:=⟨_,rfl⟩
    dsimp only
    rw [hb] at q ⊢
    have HB:=Lib.hid hB
    clear h1 hB hA T1 ks Tt h0 h hB0
    gi_wp2
    refine ⟨keeps_below (Below.refl _ _),Below.refl _ _,⟨fun y hy => ?_,HB.out⟩⟩
    rcases List.mem_append.1 hy with hy|hy
    · exact hp y hy
    · rw [List.mem_singleton.1 hy];exact he
 case done =>
  rintro D ys W hD rfl ⟨hne,hB⟩ hK
  have hlast:lastIx n o=none:=last_none n o fun y hy e=>by
   obtain ⟨j,hj,e2⟩:=List.getElem_of_mem hy
   exact hne ⟨j,hj⟩ (bk_all o o.length (Nat.le_refl _) j hj) (by show o[j]=n;rw [e2,e])
  have h1:=h0.call hB
  have T1:=blk_below Tt hB
  have t1:W.cell? ⟨w.heap.size+1,1,none⟩=some (.string nb):=(blk_cell T1 1).trans rfl
  have p1:=cell_up hB kp
  have c1:=h1.c1
  have hBw:Below w.heap.size w W:=hB0.trans (hB.mono (by omega))
  have hE1:EnS lo pb fb ⟨fl,o,kept⟩ w W:=⟨⟨_,h1⟩,hBw.mono hlo,Pk.of_below hBw⟩
  have hDw:w.heap.size≤D:=by omega
  have hpe:pgEnd ⟨fl,o,kept⟩ n=if o=[] then ⟨pgLines fl n,o,if keepsB n=true then kept - 1 else kept⟩ else ⟨fl,o,kept⟩:=by
   unfold pgEnd
   dsimp only
   rw [hlast]
  by_cases hoe:o=[]
  · rw [if_pos hoe] at hpe
    have HPE:=Lib.hid hpe
    clear hpe
    have qo:decide (0<o.length)=false:=by rw [hoe];rfl
    clear hoe
    have LN:=Lib.hid (pgLines_c lo pb fb ⟨fl,o,kept⟩ n W hE1.pg hz)
    have KP:=Lib.hid (fun V=>keeps_c n V)
    rw [HNB.out] at LN KP
    have HE1:=Lib.hid hE1
    have HT1:=Lib.hid T1
    have HK:=Lib.hid hK
    have hne1:w.heap.size+1≠pb:=by omega
    have hne2:w.heap.size+1≠fb:=by have:=hfb;omega
    have hne3:w.heap.size≠pb:=by omega
    have hne4:w.heap.size≠fb:=by have:=hfb;omega
    have hDp:D≠pb:=by omega
    have hDf:D≠fb:=by have:=hfb;omega
    have hpc:=blk_below (show W0.heap[w.heap.size]? = some (.cells #[.pointer (some ⟨pb,0,none⟩)] 113 (0,0)) from hpb0) hB
    have HPC:=Lib.hid hpc
    clear hlast h1 hB hE1 hBw T1 hA h0 ks hK hpc
    cases hkp:keepsB n with
    | false =>
      rw [hkp] at KP
      rw [hkp] at HPE
      replace HPE:Hid (pgEnd ⟨fl,o,kept⟩ n=⟨pgLines fl n,o,kept⟩):=HPE
      gi_wp2_with (first | (refine ⟨trivial,?_⟩;gi_at_call 109;refine (callsIn_wide.2 LN.out).mono ?_;rintro e V2 ⟨rfl,hp2,hb2,hk2⟩;have p2:V2.cell? ⟨w.heap.size,0,none⟩=some (.pointer (some ⟨pb,0,none⟩)):=(blk_cell (hk2 _ _ HPC.out hne3 hne4 (fun c fz e=>by injection e with _ e2 _;exact absurd e2 (by decide)) (fun c fz e=>by injection e with _ e2 _;exact absurd e2 (by decide))) 0).trans rfl;have t2:V2.cell? ⟨w.heap.size+1,1,none⟩=some (.string nb):=(blk_cell (pk_cells hk2 HT1.out hne1 hne2) 1).trans rfl;have HE2:=Lib.hid (EnS.mk hp2 (HE1.out.below.trans hb2) (HE1.out.pk.trans hk2));have HKD:=Lib.hid (hk2 _ _ HK.out hDp hDf (fun c fz e=>by cases e) (fun c fz e=>by cases e));clear hp2 hb2 hk2) | (refine ⟨trivial,?_⟩;gi_at_call 110;refine (callsIn_wide.2 (KP.out _)).mono ?_;rintro e V3 ⟨rfl,hb3⟩;have p3:=cell_up hb3 p2;have HE3:=Lib.hid (HE2.out.call hlo hb3);have HKD3:=Lib.hid ((hb3.block D (blk_lt HKD.out)).trans HKD.out);have HKD:=HKD3;have HF:=Lib.hid (HE3.out.fin hlo hDw HKD3.out)))
      refine ⟨by simp,.inl ⟨_,_,rfl,run_takeDeferred HKD.out,?_⟩⟩
      refine ⟨.tuple #[],?_,rfl,(by rw [HPE.out];exact HF.out.pg),HF.out.below,HF.out.pk⟩
      simp [results,Tryz.f80,go_sem]
    | true =>
      rw [hkp] at KP
      rw [hkp] at HPE
      replace HPE:Hid (pgEnd ⟨fl,o,kept⟩ n=⟨pgLines fl n,o,kept - 1⟩):=HPE
      by_cases hk0:kept=0
      · have qk:decide (0<kept)=false:=by rw [hk0];rfl
        have hkm:kept - 1=kept:=by omega
        rw [hkm] at HPE
        clear hk0 hkm
        gi_wp2_with (first | (refine ⟨trivial,?_⟩;gi_at_call 109;refine (callsIn_wide.2 LN.out).mono ?_;rintro e V2 ⟨rfl,hp2,hb2,hk2⟩;have p2:V2.cell? ⟨w.heap.size,0,none⟩=some (.pointer (some ⟨pb,0,none⟩)):=(blk_cell (hk2 _ _ HPC.out hne3 hne4 (fun c fz e=>by injection e with _ e2 _;exact absurd e2 (by decide)) (fun c fz e=>by injection e with _ e2 _;exact absurd e2 (by decide))) 0).trans rfl;have t2:V2.cell? ⟨w.heap.size+1,1,none⟩=some (.string nb):=(blk_cell (pk_cells hk2 HT1.out hne1 hne2) 1).trans rfl;have HE2:=Lib.hid (EnS.mk hp2 (HE1.out.below.trans hb2) (HE1.out.pk.trans hk2));have HKD:=Lib.hid (hk2 _ _ HK.out hDp hDf (fun c fz e=>by cases e) (fun c fz e=>by cases e));clear hp2 hb2 hk2) | (refine ⟨trivial,?_⟩;gi_at_call 110;refine (callsIn_wide.2 (KP.out _)).mono ?_;rintro e V3 ⟨rfl,hb3⟩;have p3:=cell_up hb3 p2;have HE3:=Lib.hid (HE2.out.call hlo hb3);have HKD3:=Lib.hid ((hb3.block D (blk_lt HKD.out)).trans HKD.out);have HKD:=HKD3;obtain ⟨z3,h3⟩:=HE3.out.pg;have k3:=h3.c2;dsimp only at k3;have HF:=Lib.hid (HE3.out.fin hlo hDw HKD3.out);clear h3))
        refine ⟨by simp,.inl ⟨_,_,rfl,run_takeDeferred HKD.out,?_⟩⟩
        refine ⟨.tuple #[],?_,rfl,(by rw [HPE.out];exact HF.out.pg),HF.out.below,HF.out.pk⟩
        simp [results,Tryz.f80,go_sem]
      · have qk:decide (0<kept)=true:=decide_eq_true (by omega)
        have wk:wrap64 ((kept:Int) - 1)=((kept - 1:Nat):Int):=by unfold wrap64;omega
        gi_wp2_with (first | (refine ⟨trivial,?_⟩;gi_at_call 109;refine (callsIn_wide.2 LN.out).mono ?_;rintro e V2 ⟨rfl,hp2,hb2,hk2⟩;have p2:V2.cell? ⟨w.heap.size,0,none⟩=some (.pointer (some ⟨pb,0,none⟩)):=(blk_cell (hk2 _ _ HPC.out hne3 hne4 (fun c fz e=>by injection e with _ e2 _;exact absurd e2 (by decide)) (fun c fz e=>by injection e with _ e2 _;exact absurd e2 (by decide))) 0).trans rfl;have t2:V2.cell? ⟨w.heap.size+1,1,none⟩=some (.string nb):=(blk_cell (pk_cells hk2 HT1.out hne1 hne2) 1).trans rfl;have HE2:=Lib.hid (EnS.mk hp2 (HE1.out.below.trans hb2) (HE1.out.pk.trans hk2));have HKD:=Lib.hid (hk2 _ _ HK.out hDp hDf (fun c fz e=>by cases e) (fun c fz e=>by cases e));clear hp2 hb2 hk2) | (refine ⟨trivial,?_⟩;gi_at_call 110;refine (callsIn_wide.2 (KP.out _)).mono ?_;rintro e V3 ⟨rfl,hb3⟩;have p3:=cell_up hb3 p2;have HE3:=Lib.hid (HE2.out.call hlo hb3);have HKD3:=Lib.hid ((hb3.block D (blk_lt HKD.out)).trans HKD.out);have HKD:=HKD3;obtain ⟨z3,h3⟩:=HE3.out.pg;have k3:=h3.c2;have f3:=h3.fz 2;dsimp only at k3;have HF2:=Lib.hid (fun X hX=>(HE3.out.dec (X:=X) (n:=kept - 1) hle h3 hX));clear h3))
        have hKF:=(Below.heap_setCell V3 ⟨pb,2,none⟩ (.int .i64 ((kept:Int) - 1)) D hDp).trans HKD3.out
        have HF:=Lib.hid ((HF2.out ((kept:Int) - 1) (by omega)).fin hlo hDw hKF)
        refine ⟨by simp,.inl ⟨_,_,rfl,run_takeDeferred hKF,?_⟩⟩
        refine ⟨.tuple #[],?_,rfl,(by rw [HPE.out];exact HF.out.pg),HF.out.below,HF.out.pk⟩
        simp [results,Tryz.f80,go_sem]
  · rw [if_neg hoe] at hpe
    have HPE:=Lib.hid hpe
    clear hpe
    have qo:decide (0<o.length)=true:=decide_eq_true (List.length_pos_iff.2 hoe)
    have HF:=Lib.hid (hE1.turn (W':=W.putObj D (.deferred none)) hlo (grownBy_putObj' W D _) (fun r e=>by cases e;exact ⟨hDw,_,hK,rfl⟩))
    clear hoe hlast h1 hB hE1 hBw T1 hA h0 ks
    gi_wp2
    refine ⟨by simp,.inl ⟨_,_,rfl,run_takeDeferred hK,?_⟩⟩
    refine ⟨.tuple #[],?_,rfl,(by rw [HPE.out];exact HF.out.pg),HF.out.below,HF.out.pk⟩
    simp [results,Tryz.f80,go_sem]
 case stop =>
  rintro D cc pre W hD hpre ⟨rfl,p,x,rfl,e3,e4,hE⟩ hK
  have hDw:w.heap.size≤D:=by omega
  have HF:=Lib.hid (hE.turn (W':=W.putObj D (.deferred none)) hlo (grownBy_putObj' W D _) (fun r e=>by cases e;exact ⟨hDw,_,hK,rfl⟩))
  gi_wp2
  refine ⟨by simp,.inl ⟨_,_,rfl,run_takeDeferred hK,?_⟩⟩
  have hlast:lastIx n o=some x.val:=by
   obtain ⟨_,h6⟩:=bk_pre o o.length (Nat.le_refl _) p x hpre
   exact last_some n o x.val x.isLt e4 (fun j hj hlt=>e3 _ (h6 j hj hlt))
  have HPE:=Lib.hid (show pgEnd ⟨fl,o,kept⟩ n=⟨fl,o.take x.val,kept⟩ by unfold pgEnd;dsimp only;rw [hlast])
  refine ⟨.tuple #[],?_,rfl,(by rw [HPE.out];exact HF.out.pg),HF.out.below,HF.out.pk⟩
  simp [results,Tryz.f80,go_sem]
theorem pgEnd_c (lo pb fb:Nat) (g:Pg) (n:List UInt8) (k0:Int) (x0:ByteArray) (A0:Option Addr) (m0 c0:Nat) (s0:Bool) (w:World) (h:IsPg lo pb fb g w) (hz:flZ g.fl≤100000) (hk:g.kept≤1000000) (hol:g.op.length≤1000000) :
  Calls Tryz.prog 80 #[.pointer (some ⟨pb,0,none⟩),.agg (tkAgg k0 (B n) x0 A0 m0 c0 s0)] w (PgTo lo pb fb (pgEnd g n) w) :=
 callsIn_wide.1 (end_in lo pb fb g n k0 x0 A0 m0 c0 s0 w h hz hk hol)
end Go.Proofs.YtcecjoaeolglbaaGreatDoor.Hand
end

section
namespace Go.Proofs.YtcecjoaeolglbaaGreatDoor.Pl
open Go
def tailN (c:Nat):Nat×Nat×Nat :=
 if 194≤c∧c≤223 then (128,191,2) else if c=224 then (160,191,3) else if c=237 then (128,159,3) else if 225≤c∧c≤239 then (128,191,3)
 else if c=240 then (144,191,4) else if c=244 then (128,143,4) else if 241≤c∧c≤243 then (128,191,4) else (128,191,1)
def contO:Option Nat→Prop
 | none=>False
 | some x=>128≤x∧x≤191
instance (o:Option Nat):Decidable (contO o):=by cases o<;>unfold contO<;>infer_instance
def okV (n:Nat):Prop:=n<55296∨(57344≤n∧n≤1114111)
instance (n:Nat):Decidable (okV n):=by unfold okV;infer_instance
def inO (lo hi:Nat):Option Nat→Prop
 | none=>False
 | some x=>lo≤x∧x≤hi
instance (lo hi:Nat) (o:Option Nat):Decidable (inO lo hi o):=by cases o<;>unfold inO<;>infer_instance
def firstN (c:Nat) (d e f:Option Nat):Nat×Bool :=
 if c<128 then (1,true)
 else if (tailN c).2.2=1 then (1,false)
 else if ¬ inO (tailN c).1 (tailN c).2.1 d then (1,false)
 else if (tailN c).2.2=2 then (2,true)
 else if ¬ contO e then (2,false)
 else if (tailN c).2.2=3 then (3,true)
 else if contO f then (4,true) else (3,false)
def byteO (L:List UInt8) (k:Nat):Option Nat:=L[k]?.map UInt8.toNat
def firstU:List UInt8→Nat×Bool
 | []=>(0,false)
 | c::r=>firstN c.toNat (byteO r 0) (byteO r 1) (byteO r 2)
theorem firstN_pos (c:Nat) (d e f:Option Nat):1≤(firstN c d e f).1∧(firstN c d e f).1≤4∧(2≤(firstN c d e f).1→d≠none)∧(3≤(firstN c d e f).1→e≠none)∧(4≤(firstN c d e f).1→f≠none):=by
 have hd:∀ lo hi,inO lo hi d→d≠none:=by rintro lo hi h rfl;exact h
 have he:contO e→e≠none:=by rintro h rfl;exact h
 have hf:contO f→f≠none:=by rintro h rfl;exact h
 unfold firstN
 split
 · simp
 · split
   · simp
   · split
     · simp
     · rename_i h1
       have h1':=hd _ _ (Decidable.not_not.1 h1)
       split
       · simp [h1']
       · split
         · simp [h1']
         · rename_i h2
           have h2':=he (Decidable.not_not.1 h2)
           split
           · simp [h1',h2']
           · split
             · rename_i h3;simp [h1',h2',hf h3]
             · simp [h1',h2']
theorem byteO_lt {L:List UInt8} {k:Nat} (h:byteO L k≠none):k<L.length:=by
 rcases Nat.lt_or_ge k L.length with h'|h'
 · exact h'
 · exact absurd (by unfold byteO;rw [List.getElem?_eq_none h'];rfl) h
theorem firstU_pos (c:UInt8) (r:List UInt8):1≤(firstU (c::r)).1∧(firstU (c::r)).1≤(c::r).length∧(firstU (c::r)).1≤4:=by
 obtain ⟨h1,h2,h3,h4,h5⟩:=firstN_pos c.toNat (byteO r 0) (byteO r 1) (byteO r 2)
 unfold firstU
 refine ⟨h1,?_,h2⟩
 have g3:=fun h=>byteO_lt (h3 h)
 have g4:=fun h=>byteO_lt (h4 h)
 have g5:=fun h=>byteO_lt (h5 h)
 simp only [List.length_cons]
 omega
def badP:List UInt8:=[239,191,189]
end Go.Proofs.YtcecjoaeolglbaaGreatDoor.Pl
end

section
namespace Go.Proofs.YtcecjoaeolglbaaGreatDoor.Pl
open Go
def markP:List UInt8:=[239,187,191]
def decK:Nat→List UInt8→List UInt8
 | _,[]=>[]
 | k+1,_::r=>decK k r
 | 0,c::r=>(if (firstU (c::r)).2=true then (c::r).take (firstU (c::r)).1 else badP)++decK ((firstU (c::r)).1 - 1) r
def decL (s:List UInt8):List UInt8:=decK 0 s
theorem decK_skip:∀ (k:Nat) (s:List UInt8),decK k s=decL (s.drop k):=by
 intro k
 induction k with
 | zero=>intro s;rfl
 | succ k ih =>
   intro s
   cases s with
   | nil=>rfl
   | cons c r=>exact ih r
theorem decL_cons (c:UInt8) (r:List UInt8):decL (c::r)=(if (firstU (c::r)).2=true then (c::r).take (firstU (c::r)).1 else badP)++decL ((c::r).drop (firstU (c::r)).1):=by
 unfold decL
 rw [decK,decK_skip]
 have h:=(firstU_pos c r).1
 obtain ⟨n,hn⟩:∃ n,(firstU (c::r)).1=n+1:=⟨(firstU (c::r)).1 - 1,by omega⟩
 rw [hn]
 rfl
def trimL (s:List UInt8):List UInt8:=if markP.isPrefixOf s=true then s.drop 3 else s
end Go.Proofs.YtcecjoaeolglbaaGreatDoor.Pl
end

section
namespace Go.Proofs.YtcecjoaeolglbaaGreatDoor.Hand
open Go Go.RowKit Go.Proofs.YtcecjoaeolglbaaGreatDoor.Pl Go.Proofs.YtcecjoaeolglbaaGreatDoor.Pb
def Asc (l:List UInt8):Prop := ∀ c∈l,c.toNat<128
theorem u8_of (n:Nat) (h:n<256):(UInt8.ofNat n).toNat=n:=by simp [UInt8.toNat_ofNat,Nat.mod_eq_of_lt h]
set_option maxRecDepth 100000 in
theorem names_asc:namesL.all (fun c=>decide (c.toNat<128))=true:=by decide +kernel
theorem key_asc {k:List UInt8} (h:isKey namesL k):Asc k:=by
 obtain ⟨p,_,rfl⟩:=h
 intro c hc
 have h1:c∈namesL:=by
  have h2:=(List.takeWhile_sublist _).subset hc
  have h3:=(List.takeWhile_sublist _).subset h2
  exact (List.drop_sublist p namesL).subset h3
 exact of_decide_eq_true (List.all_eq_true.1 names_asc c h1)
theorem low_asc {c d:UInt8} (h:lowB c=d) (hd:d.toNat<128):c.toNat<128:=by
 have hall:∀ n:Fin 256,128≤(UInt8.ofNat n.val).toNat→128≤(lowB (UInt8.ofNat n.val)).toNat:=by decide +kernel
 have h1:=hall ⟨c.toNat,c.toNat_lt⟩
 simp only [UInt8.ofNat_toNat] at h1
 rw [h] at h1
 omega
theorem dg_asc {six:Bool} {c:UInt8} (h:isDg six c=true):c.toNat<128:=by
 have hall:∀ n:Fin 256,isDg true (UInt8.ofNat n.val)=true→(UInt8.ofNat n.val).toNat<128:=by decide +kernel
 have h2:isDg true c=true:=by
  unfold isDg at h ⊢
  cases six
  · simp at h;simp [h]
  · exact h
 have h1:=hall ⟨c.toNat,c.toNat_lt⟩
 simp only [UInt8.ofNat_toNat] at h1
 exact h1 h2
theorem begR_asc:∀ (low r:List UInt8),Asc low→begR r low=true→Asc (r.take low.length):=by
 intro low
 induction low with
 | nil=>intro r _ _ c hc;simp at hc
 | cons d low ih =>
   intro r ha h
   cases r with
   | nil=>simp [begR] at h
   | cons c r =>
     rw [begR,Bool.and_eq_true,beq_iff_eq] at h
     intro x hx
     rw [List.length_cons,List.take_succ_cons] at hx
     rcases List.mem_cons.1 hx with rfl|hx
     · exact low_asc h.1 (ha d (by simp))
     · exact ih r (fun y hy=>ha y (by simp [hy])) h.2 x hx
theorem asc_take_add {l:List UInt8} {a b:Nat} (h1:Asc (l.take a)) (h2:Asc ((l.drop a).take b)):Asc (l.take (a+b)):=by
 rw [List.take_add]
 intro c hc
 rcases List.mem_append.1 hc with hc|hc
 · exact h1 c hc
 · exact h2 c hc
theorem asc1 {c:UInt8} (h:c.toNat<128):Asc [c]:=fun x hx=>by rw [List.mem_singleton.1 hx];exact h
theorem tw_all (p:UInt8→Bool):∀ (l:List UInt8),∀ x∈l.takeWhile p,p x=true:=by
 intro l
 induction l with
 | nil=>intro x h;cases h
 | cons c r ih =>
   intro x h
   rw [List.takeWhile_cons] at h
   split at h
   · rename_i hc
     rcases List.mem_cons.1 h with rfl|h
     · exact hc
     · exact ih x h
   · cases h
theorem numQ_asc {six:Bool} {q:List UInt8} {n k:Nat} (h:numQ six q=some (n,k)):Asc (q.take k):=by
 unfold numQ at h
 simp only at h
 have hd:Asc (q.take (digs six q).length):=by
  have e:q.take (digs six q).length=digs six q:=by
   exact (List.prefix_iff_eq_take.1 (List.takeWhile_prefix _)).symm
  rw [e]
  intro c hc
  exact dg_asc (tw_all _ _ c hc)
 split at h
 · cases h
 · obtain ⟨_,h2⟩:=Prod.mk.inj (Option.some.inj h)
   subst h2
   split
   · rename_i hb
     exact asc_take_add hd (begR_asc [59] _ (asc1 (by decide)) hb)
   · exact hd
theorem numL_asc {r:List UInt8} {n k:Nat} (h:numL r=some (n,k)):Asc (r.take k):=by
 unfold numL at h
 split at h
 · rename_i h1
   have a1:=begR_asc [35] r (asc1 (by decide)) h1
   split at h
   · rename_i h2
     have a2:=begR_asc [120] _ (asc1 (by decide)) h2
     obtain ⟨⟨n',k'⟩,h3,h4⟩:=Option.map_eq_some_iff.1 h
     obtain ⟨_,rfl⟩:=Prod.mk.inj h4
     have a3:=numQ_asc h3
     rw [Nat.add_comm]
     exact asc_take_add (asc_take_add (a:=1) (b:=1) a1 a2) a3
   · obtain ⟨⟨n',k'⟩,h3,h4⟩:=Option.map_eq_some_iff.1 h
     obtain ⟨_,rfl⟩:=Prod.mk.inj h4
     have a3:=numQ_asc h3
     rw [Nat.add_comm]
     exact asc_take_add a1 a3
 · cases h
theorem lng_asc (r:List UInt8):Asc (r.take (lngN r)):=by
 rcases (lngN_spec r).key with h|h
 · rw [h];intro c hc;simp at hc
 · exact key_asc h
theorem ref_asc (attr:Bool) (r:List UInt8):Asc ((38::r).take (refN attr (38::r)).2):=by
 have one:∀ k,Asc (r.take k)→Asc ((38::r).take (1+k)):=fun k h=>by
  rw [Nat.add_comm,List.take_succ_cons]
  intro c hc
  rcases List.mem_cons.1 hc with rfl|hc
  · decide
  · exact h c hc
 unfold refN
 rw [List.drop_succ_cons,List.drop_zero]
 split
 · rename_i m k h
   exact one k (numL_asc h)
 · split<;>exact one _ (lng_asc r)
end Go.Proofs.YtcecjoaeolglbaaGreatDoor.Hand
end

section
namespace Go.Proofs.YtcecjoaeolglbaaGreatDoor.Hand
open Go Go.RowKit Go.Proofs.YtcecjoaeolglbaaGreatDoor.Pl Go.Proofs.YtcecjoaeolglbaaGreatDoor.Pb Go.Proofs.YtcecjoaeolglbaaGreatDoor.Pure
theorem low_60 {c:UInt8} (h:lowB c=60):c=60:=by
 have hall:∀ n:Fin 256,lowB (UInt8.ofNat n.val)=60→UInt8.ofNat n.val=60:=by decide +kernel
 have h':=hall ⟨c.toNat,c.toNat_lt⟩
 simpa using h' (by simpa using h)
theorem beg_60 {c:UInt8} {r:List UInt8} (h:begM (c::r)=true):c=60:=by
 unfold begM at h
 simp only [Bool.or_eq_true,bne_iff_ne] at h
 rcases h with ((h|h)|h)|h
 · cases r with
   | nil=>exact absurd rfl h
   | cons d r =>
     refine Classical.byContradiction fun hc=>h ?_
     simp only [tagN,if_neg hc]
 · cases r with
   | nil=>simp [begC] at h
   | cons d r=>simp only [begC,Bool.and_eq_true,beq_iff_eq] at h;exact h.1
 · rw [docL,begR,Bool.and_eq_true,beq_iff_eq] at h;exact low_60 h.1
 · rw [voidL,begR,Bool.and_eq_true,beq_iff_eq] at h;exact low_60 h.1
end Go.Proofs.YtcecjoaeolglbaaGreatDoor.Hand
end

section
namespace Go.Proofs.YtcecjoaeolglbaaGreatDoor.Hand
open Go Go.RowKit Go.Proofs.YtcecjoaeolglbaaGreatDoor.Pl Go.Proofs.YtcecjoaeolglbaaGreatDoor.Pb Go.Proofs.YtcecjoaeolglbaaGreatDoor.Pure
noncomputable def extL (b:List UInt8):List UInt8:=renderL (driveL (normL (decL (trimL b))))
end Go.Proofs.YtcecjoaeolglbaaGreatDoor.Hand
end

section
namespace Go.Proofs.YtcecjoaeolglbaaGreatDoor.Hand
open Go Go.RowKit Go.Proofs.YtcecjoaeolglbaaGreatDoor.Pl Go.Proofs.YtcecjoaeolglbaaGreatDoor.Pb Go.Proofs.YtcecjoaeolglbaaGreatDoor.Pure
def wt (c:UInt8):Nat:=if c.toNat<128 then 3 else 1
def wtL (l:List UInt8):Nat:=(l.map wt).sum
theorem wt_nil:wtL []=0:=rfl
theorem wt_cons (c:UInt8) (r:List UInt8):wtL (c::r)=wt c+wtL r:=by simp [wtL]
theorem wt_app (a b:List UInt8):wtL (a++b)=wtL a+wtL b:=by simp [wtL]
theorem wt_cut (l:List UInt8) (n:Nat):wtL (l.take n)+wtL (l.drop n)=wtL l:=by rw [← wt_app,List.take_append_drop]
theorem wt_bd (c:UInt8):1≤wt c∧wt c≤3:=by unfold wt;split<;>omega
theorem wt_len (l:List UInt8):l.length≤wtL l∧wtL l≤3*l.length:=by
 induction l with
 | nil=>exact ⟨Nat.le_refl _,Nat.le_refl _⟩
 | cons c r ih =>
   have:=wt_bd c
   rw [wt_cons,List.length_cons]
   omega
theorem wt_suf {r l:List UInt8} (h:r <:+ l):wtL r≤wtL l:=by
 obtain ⟨p,rfl⟩:=h
 rw [wt_app];omega
theorem wt_asc {l:List UInt8} (h:Asc l):wtL l=3*l.length:=by
 induction l with
 | nil=>rfl
 | cons c r ih =>
   rw [wt_cons,ih (fun x hx=>h x (by simp [hx])),List.length_cons]
   unfold wt
   rw [if_pos (h c (by simp))]
   omega
theorem wt_dec:∀ n (s:List UInt8),s.length≤n→wtL (decL s)≤3*s.length:=by
 intro n
 induction n with
 | zero=>intro s h;obtain rfl:=List.eq_nil_of_length_eq_zero (Nat.le_zero.1 h);exact Nat.le_refl _
 | succ n ih =>
   intro s h
   cases s with
   | nil=>exact Nat.le_refl _
   | cons c r =>
     have hp:=firstU_pos c r
     have hi:=ih ((c::r).drop (firstU (c::r)).1) (by rw [List.length_drop];simp only [List.length_cons] at h ⊢;omega)
     rw [decL_cons,wt_app]
     have h2:wtL (if (firstU (c::r)).2=true then (c::r).take (firstU (c::r)).1 else badP)≤3*(firstU (c::r)).1:=by
      split
      · have:=(wt_len ((c::r).take (firstU (c::r)).1)).2
        rw [List.length_take] at this
        omega
      · have e:wtL badP=3:=by decide
        omega
     rw [List.length_drop] at hi
     omega
theorem trim_len (s:List UInt8):(trimL s).length≤s.length:=by
 unfold trimL
 split
 · rw [List.length_drop];omega
 · exact Nat.le_refl _
theorem clean_len (l:List UInt8):(cleanL l).length≤wtL l:=by
 induction l with
 | nil=>exact Nat.le_refl _
 | cons c r ih =>
   have e:cleanL (c::r)=cleanB c++cleanL r:=rfl
   have hb:=wt_bd c
   rw [e,List.length_append,wt_cons]
   have:(cleanB c).length≤wt c:=by
    unfold cleanB
    split
    · rename_i h;rw [h];decide
    · exact hb.1
   omega
theorem wt_high {l:List UInt8} (h:∀ x∈l,128≤x.toNat):wtL l=l.length:=by
 induction l with
 | nil=>rfl
 | cons c r ih =>
   rw [wt_cons,ih (fun x hx=>h x (by simp [hx])),List.length_cons]
   unfold wt
   rw [if_neg (by have:=h c (by simp);omega)]
   omega
theorem wt_enc (n:Int):wtL (Utf8.encode n).data.toList≤4:=by
 obtain ⟨c,hc⟩:∃ c,(if Utf8.valid n=true then n.toNat else Utf8.runeError)=c:=⟨_,rfl⟩
 have hv:c≤1114111:=by
  rw [← hc]
  split
  · rename_i h
    simp only [Utf8.valid,Bool.and_eq_true,Bool.or_eq_true,decide_eq_true_eq] at h
    omega
  · decide
 have e:Utf8.encode n=(if c<128 then ⟨#[UInt8.ofNat c]⟩ else if c<2048 then ⟨#[UInt8.ofNat (192+c / 64),UInt8.ofNat (128+c % 64)]⟩
  else if c<65536 then ⟨#[UInt8.ofNat (224+c / 4096),UInt8.ofNat (128+c / 64 % 64),UInt8.ofNat (128+c % 64)]⟩
  else ⟨#[UInt8.ofNat (240+c / 262144),UInt8.ofNat (128+c / 4096 % 64),UInt8.ofNat (128+c / 64 % 64),UInt8.ofNat (128+c % 64)]⟩):=by rw [← hc];rfl
 rw [e]
 have high:∀ l:List UInt8,(∀ x∈l,128≤x.toNat)→l.length≤4→wtL l≤4:=fun l h h4=>by rw [wt_high h];exact h4
 split
 · have:=wt_bd (UInt8.ofNat c)
   show wtL [UInt8.ofNat c]≤4
   rw [wt_cons,wt_nil];omega
 · split
   · refine high [UInt8.ofNat (192+c / 64),UInt8.ofNat (128+c % 64)] (fun x hx => ?_) (by simp)
     simp only [List.mem_cons,List.not_mem_nil,or_false] at hx
     rcases hx with rfl|rfl
     · rw [u8_of _ (by omega)];omega
     · rw [u8_of _ (by omega)];omega
   · split
     · refine high [UInt8.ofNat (224+c / 4096),UInt8.ofNat (128+c / 64 % 64),UInt8.ofNat (128+c % 64)] (fun x hx => ?_) (by simp)
       simp only [List.mem_cons,List.not_mem_nil,or_false] at hx
       rcases hx with rfl|rfl|rfl<;>(rw [u8_of _ (by omega)];omega)
     · refine high [UInt8.ofNat (240+c / 262144),UInt8.ofNat (128+c / 4096 % 64),UInt8.ofNat (128+c / 64 % 64),UInt8.ofNat (128+c % 64)] (fun x hx => ?_) (by simp)
       simp only [List.mem_cons,List.not_mem_nil,or_false] at hx
       rcases hx with rfl|rfl|rfl|rfl<;>(rw [u8_of _ (by omega)];omega)
theorem wt_sign (n:Int):wtL (signB n).data.toList≤4:=by
 unfold signB
 split
 · decide
 · exact wt_enc n
theorem wt_fix (n:Nat):wtL (fixB n).data.toList≤4:=by
 unfold fixB
 split
 · decide
 · split<;>exact wt_sign _
theorem wt_text (a b:Nat):wtL (textB a b).data.toList≤8:=by
 unfold textB
 split
 · have:=wt_sign (a:Int);omega
 · rw [show (signB (a:Int)++signB (b:Int)).data.toList=(signB (a:Int)).data.toList++(signB (b:Int)).data.toList by simp,wt_app]
   have h1:=wt_sign (a:Int)
   have h2:=wt_sign (b:Int)
   omega
theorem wt_name (k:List UInt8):wtL (nameT k)≤8:=by
 unfold nameT
 split
 · exact wt_text _ _
 · exact Nat.zero_le _
def two32:List UInt8→Bool
 | a::b::_=>a != 32&&a != 10&&b != 32&&b != 10
 | []=>true
 | _=>false
def shortOk:Bool→List UInt8→Bool
 | st,[] => !st || true
 | st,c::r=>(!st || two32 (c::r))&&shortOk (c == 10) r
theorem short_at:∀ (p:Nat) (st:Bool) (T:List UInt8),shortOk st T=true→(p=0∧st=true)∨(∃ q,p=q+1∧T[q]? = some 10)→two32 (T.drop p)=true:=by
 intro p
 induction p with
 | zero =>
   intro st T h hp
   cases T with
   | nil=>rfl
   | cons c r =>
     rcases hp with ⟨_,rfl⟩|⟨q,hq,_⟩
     · rw [shortOk,Bool.and_eq_true] at h;simpa using h.1
     · cases hq
 | succ p ih =>
   intro st T h hp
   cases T with
   | nil=>rfl
   | cons c r =>
     rw [shortOk,Bool.and_eq_true] at h
     rw [List.drop_succ_cons]
     refine ih (c == 10) r h.2 ?_
     rcases hp with ⟨h0,_⟩|⟨q,hq,hT⟩
     · cases h0
     · obtain rfl:p=q:=by omega
       cases p with
       | zero =>
         rw [List.getElem?_cons_zero,Option.some.injEq] at hT
         exact .inl ⟨rfl,by rw [hT];rfl⟩
       | succ p=>exact .inr ⟨p,rfl,by simpa using hT⟩
set_option maxRecDepth 100000 in
theorem names_short:shortOk true namesL=true:=by decide +kernel
theorem key_two {k:List UInt8} (h:isKey namesL k):k=[]∨2≤k.length:=by
 obtain ⟨p,hp,rfl⟩:=h
 have h2:=short_at p true namesL names_short (hp.elim (fun h => .inl ⟨h,rfl⟩) .inr)
 unfold kyT kyL lnT
 generalize namesL.drop p=T at h2
 match T,h2 with
 | [],_=>exact .inl rfl
 | [_],h2=>cases h2
 | a::b::r,h2 =>
   simp only [two32,Bool.and_eq_true,bne_iff_ne] at h2
   refine .inr ?_
   simp [List.takeWhile_cons,h2.1.1.1,h2.1.1.2,h2.1.2,h2.2]
theorem wt_ref (attr:Bool) (r:List UInt8):wtL (refN attr (38::r)).1≤3*(refN attr (38::r)).2:=by
 have hb:=refN_bd attr 38 r
 have ha:=ref_asc attr r
 have hlen:((38::r).take (refN attr (38::r)).2).length=(refN attr (38::r)).2:=by rw [List.length_take];omega
 unfold refN at ha hlen ⊢
 rw [List.drop_succ_cons,List.drop_zero] at ha hlen ⊢
 split
 · rename_i m k h
   have h1:=wt_fix m
   have h2:=(numL_le h).2.2
   show wtL (fixB m).data.toList≤3*(1+k)
   omega
 · rename_i h0
   rw [h0] at ha hlen
   simp only at ha hlen
   split
   · rename_i h1
     rw [if_pos h1] at ha hlen
     simp only at ha hlen ⊢
     rw [wt_asc ha,hlen]
     exact Nat.le_refl _
   · rename_i h1
     have h2:=wt_name (r.take (lngN r))
     have h3:2≤lngN r:=by
      have hs:=lngN_spec r
      rcases hs.key with h|h
      · exact absurd (.inl h) h1
      · have hl:=hs.le
        rcases key_two h with h|h
        · have:=congrArg List.length h
          rw [List.length_take,List.length_nil] at this
          exact absurd (.inl (by omega)) h1
        · rw [List.length_take] at h;omega
     show wtL (nameT (r.take (lngN r)))≤3*(1+lngN r)
     omega
theorem wt_rd (attr:Bool):∀ n (l:List UInt8),l.length≤n→wtL (rdL attr l)≤wtL l:=by
 intro n
 induction n with
 | zero=>intro l h;obtain rfl:=List.eq_nil_of_length_eq_zero (Nat.le_zero.1 h);exact Nat.le_refl _
 | succ n ih =>
   intro l h
   cases l with
   | nil=>exact Nat.le_refl _
   | cons c r =>
     simp only [List.length_cons] at h
     by_cases hc:c=38
     · subst hc
       have hb:=refN_bd attr 38 r
       simp only [List.length_cons] at hb
       have h1:=wt_ref attr r
       have h2:=ih ((38::r).drop (refN attr (38::r)).2) (by rw [List.length_drop,List.length_cons];omega)
       have h3:=wt_cut (38::r) (refN attr (38::r)).2
       have h4:=wt_asc (ref_asc attr r)
       rw [List.length_take,List.length_cons] at h4
       rw [rdL_amp,wt_app]
       omega
     · rw [rdL_ne attr r hc,wt_cons,wt_cons]
       have:=ih r (by omega)
       omega
theorem rd_len (attr:Bool) (l:List UInt8):(rdL attr l).length≤wtL l:=Nat.le_trans (wt_len _).1 (wt_rd attr _ l (Nat.le_refl _))
theorem rawT_len (b:Bool) (l:List UInt8):(rawT b l).length≤wtL l:=by
 unfold rawT
 split
 · exact Nat.le_trans (clean_len _) (wt_rd false _ l (Nat.le_refl _))
 · exact clean_len _
def tkS (l:List Tk):Nat:=(l.map tkT).sum
theorem tkS_app (a b:List Tk):tkS (a++b)=tkS a+tkS b:=by simp [tkS]
theorem tkS_cons (t:Tk) (r:List Tk):tkS (t::r)=tkT t+tkS r:=by simp [tkS]
theorem tkS_txt (u:List UInt8):tkS (txtT u)≤u.length:=by
 unfold txtT
 split
 · exact Nat.zero_le _
 · rw [tkS_cons];exact Nat.le_refl _
theorem wt_brk {l r:List UInt8} (hs:r <:+ l) (hr:r.length<l.length) (hl:∃ q,l=60::q):3+wtL r≤wtL l:=by
 obtain ⟨q,rfl⟩:=hl
 have h1:r <:+ q:=by
  rcases List.suffix_cons_iff.1 hs with h|h
  · rw [h] at hr;omega
  · exact h
 have:=wt_suf h1
 rw [wt_cons]
 have e:wt 60=3:=by decide
 omega
theorem beg_head {l:List UInt8} (h:begM l=true):∃ q,l=60::q:=by
 cases l with
 | nil=>simp [begM,tagN,begC,begR,docL,voidL] at h
 | cons c r=>exact ⟨r,by rw [beg_60 h]⟩
theorem tagR_wt (l:List UInt8):tkS (tagR l).1.toList+wtL (tagR l).2≤wtL l:=by
 unfold tagR
 split
 · exact Nat.le_of_eq (Nat.zero_add _)
 · rename_i h
   have hm:begM l=true:=by unfold begM;simp [h]
   obtain ⟨q,hq⟩:=beg_head hm
   have h1:=wt_brk (tagL_suf l) (tagL_lt (by rw [hq];exact List.cons_ne_nil _ _)) ⟨q,hq⟩
   have h2:tkS (tagL l).1.toList≤3:=by
    unfold tagL
    split
    · exact Nat.zero_le _
    · show tkS [_]≤3
      rw [tkS_cons]
      split<;>exact Nat.le_refl _
   omega
theorem tokL_wt {l:List UInt8} (hl:l≠[]):tkS (tokL l).1.toList+wtL (tokL l).2≤wtL l:=by
 have hlt:=tokL_lt hl
 have hsf:=tokL_suf l
 have one:∀ (o:Option Tk),(∀ t∈o,tkT t≤3)→tkS o.toList≤3:=by
  intro o h
  cases o with
  | none=>exact Nat.zero_le _
  | some t=>show tkS [t]≤3;rw [tkS_cons];exact h t rfl
 by_cases hm:begM l=true
 · have h1:=wt_brk hsf hlt (beg_head hm)
   have h2:tkS (tokL l).1.toList≤3:=by
    refine one _ fun t ht => ?_
    unfold tokL at ht
    split at ht
    · unfold tagL at ht
      split at ht
      · cases ht
      · simp only [Option.mem_def,Option.some.injEq] at ht
        subst ht
        split<;>exact Nat.le_refl _
    · split at ht
      · simp only [Option.mem_def,Option.some.injEq] at ht;subst ht;exact Nat.le_refl _
      · split at ht
        · simp only [Option.mem_def,Option.some.injEq] at ht;subst ht;exact Nat.le_refl _
        · split at ht
          · cases ht
          · split at ht
            · cases ht
            · rename_i a1 a2 a3 a4 a5
              exfalso
              cases l with
              | nil=>exact hl rfl
              | cons c r=>exact a5 (by rw [txN,if_pos hm])
   omega
 · have hb:=hm
   unfold begM at hb
   simp only [Bool.or_eq_true,bne_iff_ne,not_or,Decidable.not_not,Bool.not_eq_true] at hb
   obtain ⟨⟨⟨b1,b2⟩,b3⟩,b4⟩:=hb
   unfold tokL
   rw [if_neg (by rw [b1];decide),if_neg (by rw [b2];decide),if_neg (by rw [b3];decide),if_neg (by rw [b4];decide)]
   split
   · exact Nat.le_of_eq (Nat.zero_add _)
   · show tkS [_]+wtL (l.drop (txN l))≤_
     rw [tkS_cons]
     have h1:=rd_len false (l.take (txN l))
     have h2:=wt_cut l (txN l)
     show (rdL false (l.take (txN l))).length+0+_≤_
     omega
theorem restL_wt (st:Nat) (name l:List UInt8):tkS (restL st name l).1+wtL (restL st name l).2≤wtL l:=by
 have h1:=rawT_len (st == 1) (l.take (endN st name l))
 have h2:=tkS_txt (rawT (st == 1) (l.take (endN st name l)))
 have h3:=wt_cut l (endN st name l)
 have h4:=tagR_wt (l.drop (endN st name l))
 unfold restL
 split
 · exact Nat.le_of_eq (Nat.zero_add _)
 · split
   · show tkS (txtT _)+0≤_
     omega
   · show tkS (txtT _++(tagR (l.drop (endN st name l))).1.toList)+wtL (tagR (l.drop (endN st name l))).2≤_
     rw [tkS_app]
     omega
theorem drvL_wt:∀ n (l:List UInt8),l.length≤n→tkS (drvL l)≤wtL l:=by
 intro n
 induction n with
 | zero=>intro l h;obtain rfl:=List.eq_nil_of_length_eq_zero (Nat.le_zero.1 h);exact Nat.zero_le _
 | succ n ih =>
   intro l h
   by_cases hl:l=[]
   · subst hl;exact Nat.zero_le _
   · have h1:=tokL_wt hl
     have h2:=tokL_lt hl
     have h3:=drv1_le (tokL l)
     have h4:=ih (drv1 (tokL l)).2 (by omega)
     have h5:tkS (drv1 (tokL l)).1+wtL (drv1 (tokL l)).2≤tkS (tokL l).1.toList+wtL (tokL l).2:=by
      generalize tokL l=x
      unfold drv1
      split
      · rename_i n al self r
        have:=restL_wt (stateN n) n r
        show tkS (.start n al self::(restL (stateN n) n r).1)+wtL (restL (stateN n) n r).2≤tkS [.start n al self]+wtL r
        rw [tkS_cons,tkS_cons]
        have h0:tkS []=0:=rfl
        omega
      · exact Nat.le_refl _
      · exact Nat.le_refl _
     rw [drvL_eq hl,tkS_app]
     omega
theorem join_tkS (l:List Tk):tkS (joinL l)≤tkS l:=by
 induction l with
 | nil=>exact Nat.le_refl _
 | cons u r ih =>
   cases hx:isTx u with
   | false=>rw [joinL_no r hx,tkS_cons,tkS_cons];omega
   | true =>
     obtain ⟨s,rfl⟩:∃ s,u = .text s:=by cases u<;>first|exact ⟨_,rfl⟩|cases hx
     rw [joinL,tkS_cons]
     split
     · rename_i v r2 he
       rw [he,tkS_cons] at ih
       rw [tkS_cons]
       simp only [tkT,List.length_append] at ih ⊢
       omega
     · rw [tkS_app]
       have:=tkS_txt s
       simp only [tkT]
       omega
theorem render_z:∀ (l:List Tk) (p:Pg),flZ (renderP p l).fl≤flZ p.fl+tkS l:=by
 intro l
 induction l with
 | nil=>intro p;exact Nat.le_refl _
 | cons t r ih =>
   intro p
   have h1:=ih (pgTok p t)
   have h2:=pgTok_z p t
   rw [tkS_cons]
   show flZ (renderP (pgTok p t) r).fl≤_
   omega
end Go.Proofs.YtcecjoaeolglbaaGreatDoor.Hand
end

section
namespace Go.Proofs.YtcecjoaeolglbaaGreatDoor.Hand
open Go Go.RowKit Go.Proofs.YtcecjoaeolglbaaGreatDoor.Pl Go.Proofs.YtcecjoaeolglbaaGreatDoor.Pb Go.Proofs.YtcecjoaeolglbaaGreatDoor.K0 Go.Proofs.YtcecjoaeolglbaaGreatDoor.Sa Go.Proofs.YtcecjoaeolglbaaGreatDoor.St Go.Proofs.YtcecjoaeolglbaaGreatDoor.Pure Go.Proofs.YtcecjoaeolglbaaGreatDoorW.PrintWords Go.Proofs.YtcecjoaeolglbaaGreatDoorW.PrintLast Go.Proofs.YtcecjoaeolglbaaGreatDoorW.PrintMore
theorem rp_bd:∀ (l:List Tk) (p:Pg),(renderP p l).op.length≤p.op.length+l.length∧(renderP p l).kept≤p.kept+l.length:=by
 intro l
 induction l with
 | nil=>intro p;exact ⟨Nat.le_refl _,Nat.le_refl _⟩
 | cons t r ih =>
   intro p
   have h1:=ih (pgTok p t)
   have h2:=pgTok_op p t
   have h3:=pgTok_kept p t
   rw [List.length_cons]
   show (renderP (pgTok p t) r).op.length≤_∧(renderP (pgTok p t) r).kept≤_
   omega
theorem rp_succ (l:List Tk) (i:Nat) (h:i<l.length):renderP pg0 (l.take (i+1))=pgTok (renderP pg0 (l.take i)) l[i]:=by
 rw [List.take_succ_eq_append_getElem h]
 unfold renderP
 rw [List.foldl_append]
 rfl
theorem tkS_at (l:List Tk) (i:Nat) (h:i<l.length):tkS (l.take i)+tkT l[i]≤tkS l:=by
 have e:l=l.take i++(l[i]::l.drop (i+1)):=by rw [← List.drop_eq_getElem_cons h,List.take_append_drop]
 have h2:tkS l=tkS (l.take i)+(tkT l[i]+tkS (l.drop (i+1))):=by
  conv=>lhs;rw [e]
  rw [tkS_app,tkS_cons]
 omega
theorem tkS_take (l:List Tk) (i:Nat):tkS (l.take i)≤tkS l:=by
 have h2:tkS l=tkS (l.take i)+tkS (l.drop i):=by rw [← tkS_app,List.take_append_drop]
 omega
structure RnI (w W:World) (g:Pg):Prop where
 pg:IsPg w.heap.size (w.heap.size+1) w.heap.size g W
 below:Below w.heap.size w W
 var:W.heap[w.heap.size+1+1]? = some (.cells #[.pointer (some ⟨w.heap.size+1,0,none⟩)] 113 (0,0))
 map:W.heap[w.heap.size+1+1+1]? = some (.map (en3 (.func (.func 79) #[.pointer (some ⟨w.heap.size+1,0,none⟩)] #[]) (.func (.func 80) #[.pointer (some ⟨w.heap.size+1,0,none⟩)] #[]) (.func (.func 81) #[] #[.pointer (some ⟨w.heap.size+1+1,0,none⟩)])) 3)
theorem RnI.call {w W W':World} {g:Pg} (h:RnI w W g) (hb:Below W.heap.size W W'):RnI w W' g:=by
 obtain ⟨z,hz⟩:=h.pg
 exact ⟨⟨z,hz.call hb⟩,h.below.trans (hb.mono h.below.size),blk_below h.var hb,blk_below h.map hb⟩
theorem RnI.step {w W W':World} {g g':Pg} {e:Ending} (h:RnI w W g) (hp:PgTo w.heap.size (w.heap.size+1) w.heap.size g' W e W'):e = .returned (.tuple #[])∧RnI w W' g':=by
 obtain ⟨he,h1,h2,h3⟩:=hp
 refine ⟨he,h1,h.below.trans h2,?_,?_⟩
 · exact h3 _ _ h.var (by omega) (by omega) (fun c fz e=>by injection e with _ e2 _;exact absurd e2 (by decide)) (fun c fz e=>by injection e with _ e2 _;exact absurd e2 (by decide))
 · exact h3 _ _ h.map (by omega) (by omega) (fun c fz e=>by cases e) (fun c fz e=>by cases e)
set_option maxHeartbeats 8000000 in
set_option maxRecDepth 100000 in
theorem render_c (l:List Tk) (hz:tkS l≤90000) (hlen:l.length≤90000) (v:Value) (b:Nat) (ok:Nat→Prop) (w:World) (hV:Kd.V tkK 46 w b ok v (l.map ofK)) :
  Calls Tryz.prog 56 #[v] w fun e w'=>e = .returned (.string (B (renderL l)))∧Below w.heap.size w w':=by
 obtain ⟨A,c,rfl⟩:=Kd.V_slice hV
 rw [List.length_map] at hV ⊢
 have EL:=Lib.hid (fun i (hi:i<l.length)=>el_at hV hi)
 clear hV
 have hmf:∀ (fn:Fn) (first cap:Array Value) (w:World),(Instr.makeFunc fn first cap).run Tryz.prog w = .ok (.func fn first cap) w:=fun _ _ _ _=>rfl
 obtain ⟨W3,hW3⟩:∃ W,(((w.alloc (.cells #[.pointer none,.slice none 0 0,.int .i64 0,.slice none 0 0] 141)).alloc (.cells #[.pointer (some ⟨w.heap.size,0,none⟩),.slice none 0 0,.int .i64 0] 117)).alloc (.cells #[.pointer (some ⟨w.heap.size+1,0,none⟩)] 113)).alloc (.map #[] 0)=W:=⟨_,rfl⟩
 have m3:W3.heap[w.heap.size+1+1+1]? = some (.map #[] 0):=by
  rw [← hW3]
  have:=heap_alloc_new (((w.alloc (.cells #[.pointer none,.slice none 0 0,.int .i64 0,.slice none 0 0] 141)).alloc (.cells #[.pointer (some ⟨w.heap.size,0,none⟩),.slice none 0 0,.int .i64 0] 117)).alloc (.cells #[.pointer (some ⟨w.heap.size+1,0,none⟩)] 113)) (.map #[] 0)
  simpa only [World.size_alloc] using this
 obtain ⟨W4,u4,m4,b4,k4⟩:=upd_run (v:=(.func (.func 79) #[.pointer (some ⟨w.heap.size+1,0,none⟩)] #[])) (k:=1) m3 (fun i=>rfl)
 obtain ⟨W5,u5,m5,b5,k5⟩:=upd_run (v:=(.func (.func 80) #[.pointer (some ⟨w.heap.size+1,0,none⟩)] #[])) (k:=2) m4 (fun i=>rfl)
 obtain ⟨W6,u6,m6,b6,k6⟩:=upd_run (v:=(.func (.func 81) #[] #[.pointer (some ⟨w.heap.size+1+1,0,none⟩)])) (k:=0) m5 (fun i=>rfl)
 have p3:W3.heap[w.heap.size+1+1]? = some (.cells #[.pointer (some ⟨w.heap.size+1,0,none⟩)] 113 (0,0)):=by
  rw [← hW3]
  refine blk_alloc ?_ _
  have:=heap_alloc_new ((w.alloc (.cells #[.pointer none,.slice none 0 0,.int .i64 0,.slice none 0 0] 141)).alloc (.cells #[.pointer (some ⟨w.heap.size,0,none⟩),.slice none 0 0,.int .i64 0] 117)) (.cells #[.pointer (some ⟨w.heap.size+1,0,none⟩)] 113)
  simpa only [World.size_alloc] using this
 have p4:=(k4 (w.heap.size+1+1) (by omega)).trans p3
 have p5:=(k5 (w.heap.size+1+1) (by omega)).trans p4
 have p6:=(k6 (w.heap.size+1+1) (by omega)).trans p5
 have q4:W4.cell? ⟨w.heap.size+1+1,0,none⟩=some (.pointer (some ⟨w.heap.size+1,0,none⟩)):=(blk_cell p4 0).trans rfl
 have q3:W3.cell? ⟨w.heap.size+1+1,0,none⟩=some (.pointer (some ⟨w.heap.size+1,0,none⟩)):=(blk_cell p3 0).trans rfl
 have H6:Hid (RnI w W6 pg0):=Lib.hid (by
  have g3:W3.heap[w.heap.size+1]? = some (.cells #[.pointer (some ⟨w.heap.size,0,none⟩),.slice none 0 0,.int .i64 0] 117 (0,0)):=by
   rw [← hW3]
   refine blk_alloc (blk_alloc ?_ _) _
   have:=heap_alloc_new (w.alloc (.cells #[.pointer none,.slice none 0 0,.int .i64 0,.slice none 0 0] 141)) (.cells #[.pointer (some ⟨w.heap.size,0,none⟩),.slice none 0 0,.int .i64 0] 117)
   simpa only [World.size_alloc] using this
  have f3:W3.heap[w.heap.size]? = some (.cells #[.pointer none,.slice none 0 0,.int .i64 0,.slice none 0 0] 141 (0,0)):=by
   rw [← hW3]
   exact blk_alloc (blk_alloc (blk_alloc (heap_alloc_new w _) _) _) _
  have up:∀ j,j≠w.heap.size+1+1+1→W6.heap[j]? = W3.heap[j]? := fun j hj=>((k6 j hj).trans (k5 j hj)).trans (k4 j hj)
  refine ⟨⟨.slice none 0 0,by omega,(up _ (by omega)).trans g3,⟨.pointer none,.slice none 0 0,.slice none 0 0,.inl rfl,⟨Nat.le_refl _,(up _ (by omega)).trans f3,own_nil _ _ _ _,own_nil _ _ _ _,ne_nil _⟩⟩,own_nil _ _ _ _⟩,?_,p6,?_⟩
  · have hb3:Below w.heap.size w W3:=by
     rw [← hW3]
     exact ((((below_alloc (Below.refl _ _) _).alloc (by simp) _).alloc (by simp;omega) _).alloc (by simp;omega) _)
    exact ((hb3.trans (b4.mono (by omega))).trans (b5.mono (by omega))).trans (b6.mono (by omega))
  · exact m6)
 have hmm:=@run_makeMap Tryz.prog
 have N1:=Lib.hid (new_c w)
 clear m3 m4 m5 m6 b4 b5 b6 k4 k5 k6 p3 p4 p5 p6
 go_enter Tryz.func56,Tryz.ntmps56
 go_wp2_with fail
 refine N1.out.mono ?_
 rintro e w1 ⟨rfl,rfl⟩
 go_wp2_with fail
 have HLEN:=Lib.hid hlen
 have HZ:=Lib.hid hz
 clear hlen hz u4 u5 u6 q3 q4 hmm hmf
 obtain ⟨n,hn⟩:∃ n,l.length=n:=⟨_,rfl⟩
 have HN:=Lib.hid hn
 have hn9:n≤90000:=by rw [← hn];exact HLEN.out
 rw [hn]
 clear hn N1 hW3
 go_loopw [21] (fun t wr => ∃ i:Nat,t = .int .i64 (i:Int)∧i≤n∧Hid (RnI w wr (renderP pg0 (l.take i)))) (fun t _=>n - (intOf t).toNat)
 case atStart=>exact ⟨0,rfl,Nat.zero_le _,H6⟩
 case round =>
  clear H6
  obtain ⟨i,rfl,hi,HI⟩:=hrel
  by_cases hlt:i<n
  · have hll:i<l.length:=by rw [HN.out];exact hlt
    have q1:decide ((i:Int)<(n:Int))=true:=decide_eq_true (by omega)
    have i0:(0:Int)≤(i:Int):=by omega
    have i1:(i:Int)<(n:Int):=by omega
    obtain ⟨ad,A3,c3,hA,hx0,hx1,hx2,hx3,hx4⟩:=EL.out i hll
    subst hA
    have up:∀ {a:Addr} {x:Value},w.cell? a=some x→wr.cell? a=some x:=fun h=>(HI.out.below.cell (World.block_lt_of_cell? w _ h)).trans h
    replace hx0:=up hx0
    replace hx1:=up hx1
    replace hx2:=up hx2
    replace hx3:=up hx3
    replace hx4:=up hx4
    have hsuc:=rp_succ l i hll
    have hts:=tkS_at l i hll
    have hzt:=tkS_take l i
    have hr1:=render_z (l.take i) pg0
    have hr2:=rp_bd (l.take i) pg0
    rw [List.length_take] at hr2
    have hr0:flZ pg0.fl=0:=rfl
    have hr3:pg0.op.length=0:=rfl
    have hr4:pg0.kept=0:=rfl
    have hZ:=HZ.out
    obtain ⟨t,ht⟩:∃ t,l[i]=t:=⟨_,rfl⟩
    rw [ht] at hx0 hx1 hx2 hx3 hx4 hsuc hts
    obtain ⟨g,hg⟩:∃ g,renderP pg0 (l.take i)=g:=⟨_,rfl⟩
    rw [hg] at HI hsuc hr1 hr2
    have HSU:=Lib.hid hsuc
    have bz:flZ g.fl≤90000:=by omega
    have bzt:flZ g.fl+tkT t≤90000:=by omega
    have bk:g.kept≤1000000:=by omega
    have bo:g.op.length≤1000000:=by omega
    clear up hsuc ht hg hzt hr1 hr2 hr0 hr3 hr4
    have RA:=fun o=>HI.out.call (below_alloc (Below.refl _ _) o)
    cases t with
    | text s =>
      replace hx3:wr.cell? ⟨(ad.add (i*5)).block,(ad.add (i*5)).off+3,none⟩=some (.slice A3 0 c3):=hx3
      replace hx0:wr.cell? (ad.add (i*5))=some (.int .i64 0):=hx0
      replace hx1:wr.cell? ⟨(ad.add (i*5)).block,(ad.add (i*5)).off+1,none⟩=some (.string (⟨#[]⟩:ByteArray)):=hx1
      replace hx2:wr.cell? ⟨(ad.add (i*5)).block,(ad.add (i*5)).off+2,none⟩=some (.string (B s)):=hx2
      replace hx4:wr.cell? ⟨(ad.add (i*5)).block,(ad.add (i*5)).off+4,none⟩=some (.bool false):=hx4
      have R1:=RA (.cells #[.int .i64 0,.string (⟨#[]⟩:ByteArray),.string (B s),.slice A3 0 c3,.bool false] 46)
      have hlk:=look_run (k:=0) R1.map rfl
      have CL:Hid (Calls Tryz.prog 81 #[.agg #[.int .i64 0,.string (⟨#[]⟩:ByteArray),.string (B s),.slice A3 0 c3,.bool false],.pointer (some ⟨w.heap.size+1+1,0,none⟩)] (wr.alloc (.cells #[.int .i64 0,.string (⟨#[]⟩:ByteArray),.string (B s),.slice A3 0 c3,.bool false] 46)) fun e w'=>e = .returned (.tuple #[])∧RnI w w' (renderP pg0 (l.take (i+1)))):=Lib.hid (by
       rw [HSU.out]
       exact (pgText_c w.heap.size (w.heap.size+1) w.heap.size (w.heap.size+1+1) g s 0 _ A3 0 c3 false _ R1.pg R1.var (by have h0:tkT (.text s)=s.length:=rfl;omega) bo).mono fun e w' h=>R1.step h)
      clear R1 RA HSU hts bz bzt bk bo hZ
      go_wp2_with fail
      refine CL.out.mono ?_
      rintro e w2 ⟨rfl,h2⟩
      have H2:=Lib.hid h2
      clear h2 CL hlk
      go_wp2_with fail
      go_roundw
      case rel=>exact ⟨i+1,by go_num,by omega,H2⟩
      case measure=>simp [intOf];omega
    | start nm al self =>
      obtain ⟨m3,hm3⟩:∃ m,(ofK (.start nm al self)).f3.length=m:=⟨_,rfl⟩
      rw [hm3] at hx3
      replace hx0:wr.cell? (ad.add (i*5))=some (.int .i64 1):=hx0
      replace hx1:wr.cell? ⟨(ad.add (i*5)).block,(ad.add (i*5)).off+1,none⟩=some (.string (B nm)):=hx1
      replace hx2:wr.cell? ⟨(ad.add (i*5)).block,(ad.add (i*5)).off+2,none⟩=some (.string (⟨#[]⟩:ByteArray)):=hx2
      replace hx4:wr.cell? ⟨(ad.add (i*5)).block,(ad.add (i*5)).off+4,none⟩=some (.bool self):=hx4
      have R1:=RA (.cells #[.int .i64 1,.string (B nm),.string (⟨#[]⟩:ByteArray),.slice A3 m3 c3,.bool self] 46)
      have hlk:=look_run (k:=1) R1.map rfl
      have CL:Hid (Calls Tryz.prog 79 #[.pointer (some ⟨w.heap.size+1,0,none⟩),.agg #[.int .i64 1,.string (B nm),.string (⟨#[]⟩:ByteArray),.slice A3 m3 c3,.bool self]] (wr.alloc (.cells #[.int .i64 1,.string (B nm),.string (⟨#[]⟩:ByteArray),.slice A3 m3 c3,.bool self] 46)) fun e w'=>e = .returned (.tuple #[])∧RnI w w' (renderP pg0 (l.take (i+1)))):=Lib.hid (by
       rw [HSU.out]
       exact (pgStart_c w.heap.size (w.heap.size+1) w.heap.size g nm 1 _ A3 m3 c3 self _ R1.pg (by omega) bk bo).mono fun e w' h=>R1.step h)
      clear R1 RA HSU hts bz bzt bk bo hZ
      go_wp2_with fail
      refine CL.out.mono ?_
      rintro e w2 ⟨rfl,h2⟩
      have H2:=Lib.hid h2
      clear h2 CL hlk
      go_wp2_with fail
      go_roundw
      case rel=>exact ⟨i+1,by go_num,by omega,H2⟩
      case measure=>simp [intOf];omega
    | fin nm =>
      replace hx3:wr.cell? ⟨(ad.add (i*5)).block,(ad.add (i*5)).off+3,none⟩=some (.slice A3 0 c3):=hx3
      replace hx0:wr.cell? (ad.add (i*5))=some (.int .i64 2):=hx0
      replace hx1:wr.cell? ⟨(ad.add (i*5)).block,(ad.add (i*5)).off+1,none⟩=some (.string (B nm)):=hx1
      replace hx2:wr.cell? ⟨(ad.add (i*5)).block,(ad.add (i*5)).off+2,none⟩=some (.string (⟨#[]⟩:ByteArray)):=hx2
      replace hx4:wr.cell? ⟨(ad.add (i*5)).block,(ad.add (i*5)).off+4,none⟩=some (.bool false):=hx4
      have R1:=RA (.cells #[.int .i64 2,.string (B nm),.string (⟨#[]⟩:ByteArray),.slice A3 0 c3,.bool false] 46)
      have hlk:=look_run (k:=2) R1.map rfl
      have CL:Hid (Calls Tryz.prog 80 #[.pointer (some ⟨w.heap.size+1,0,none⟩),.agg #[.int .i64 2,.string (B nm),.string (⟨#[]⟩:ByteArray),.slice A3 0 c3,.bool false]] (wr.alloc (.cells #[.int .i64 2,.string (B nm),.string (⟨#[]⟩:ByteArray),.slice A3 0 c3,.bool false] 46)) fun e w'=>e = .returned (.tuple #[])∧RnI w w' (renderP pg0 (l.take (i+1)))):=Lib.hid (by
       rw [HSU.out]
       exact (pgEnd_c w.heap.size (w.heap.size+1) w.heap.size g nm 2 _ A3 0 c3 false _ R1.pg (by omega) bk bo).mono fun e w' h=>R1.step h)
      clear R1 RA HSU hts bz bzt bk bo hZ
      go_wp2_with fail
      refine CL.out.mono ?_
      rintro e w2 ⟨rfl,h2⟩
      have H2:=Lib.hid h2
      clear h2 CL hlk
      go_wp2_with fail
      go_roundw
      case rel=>exact ⟨i+1,by go_num,by omega,H2⟩
      case measure=>simp [intOf];omega
    | comment s =>
      replace hx3:wr.cell? ⟨(ad.add (i*5)).block,(ad.add (i*5)).off+3,none⟩=some (.slice A3 0 c3):=hx3
      replace hx0:wr.cell? (ad.add (i*5))=some (.int .i64 3):=hx0
      replace hx1:wr.cell? ⟨(ad.add (i*5)).block,(ad.add (i*5)).off+1,none⟩=some (.string (⟨#[]⟩:ByteArray)):=hx1
      replace hx2:wr.cell? ⟨(ad.add (i*5)).block,(ad.add (i*5)).off+2,none⟩=some (.string (B s)):=hx2
      replace hx4:wr.cell? ⟨(ad.add (i*5)).block,(ad.add (i*5)).off+4,none⟩=some (.bool false):=hx4
      have R1:=RA (.cells #[.int .i64 3,.string (⟨#[]⟩:ByteArray),.string (B s),.slice A3 0 c3,.bool false] 46)
      have hlk:=look_none (k:=3) R1.map rfl
      have H2:Hid (RnI w (wr.alloc (.cells #[.int .i64 3,.string (⟨#[]⟩:ByteArray),.string (B s),.slice A3 0 c3,.bool false] 46)) (renderP pg0 (l.take (i+1)))):=Lib.hid (by rw [HSU.out];exact R1)
      clear R1 RA HSU hts bz bzt bk bo hZ
      go_wp2_with fail
      go_roundw
      case rel=>exact ⟨i+1,by go_num,by omega,H2⟩
      case measure=>simp [intOf];omega
    | doctype s =>
      replace hx3:wr.cell? ⟨(ad.add (i*5)).block,(ad.add (i*5)).off+3,none⟩=some (.slice A3 0 c3):=hx3
      replace hx0:wr.cell? (ad.add (i*5))=some (.int .i64 4):=hx0
      replace hx1:wr.cell? ⟨(ad.add (i*5)).block,(ad.add (i*5)).off+1,none⟩=some (.string (⟨#[]⟩:ByteArray)):=hx1
      replace hx2:wr.cell? ⟨(ad.add (i*5)).block,(ad.add (i*5)).off+2,none⟩=some (.string (B s)):=hx2
      replace hx4:wr.cell? ⟨(ad.add (i*5)).block,(ad.add (i*5)).off+4,none⟩=some (.bool false):=hx4
      have R1:=RA (.cells #[.int .i64 4,.string (⟨#[]⟩:ByteArray),.string (B s),.slice A3 0 c3,.bool false] 46)
      have hlk:=look_none (k:=4) R1.map rfl
      have H2:Hid (RnI w (wr.alloc (.cells #[.int .i64 4,.string (⟨#[]⟩:ByteArray),.string (B s),.slice A3 0 c3,.bool false] 46)) (renderP pg0 (l.take (i+1)))):=Lib.hid (by rw [HSU.out];exact R1)
      clear R1 RA HSU hts bz bzt bk bo hZ
      go_wp2_with fail
      go_roundw
      case rel=>exact ⟨i+1,by go_num,by omega,H2⟩
      case measure=>simp [intOf];omega
  · have hie:i=n:=by omega
    have q1:decide ((i:Int)<(n:Int))=false:=decide_eq_false (by omega)
    obtain ⟨z,hz⟩:=HI.out.pg
    have pv:wr.cell? ⟨w.heap.size+1+1,0,none⟩=some (.pointer (some ⟨w.heap.size+1,0,none⟩)):=(blk_cell HI.out.var 0).trans rfl
    have pf:=hz.c0
    have TX:=text_c _ _ _ _ hz.fl
    rw [show (renderP pg0 (l.take i)).fl.told=renderL l by rw [hie,← HN.out,List.take_length];rfl] at TX
    replace TX:=Lib.hid TX
    clear hz
    go_wp2_with fail
    refine TX.out.mono ?_
    rintro e w2 ⟨rfl,hb⟩
    go_wp2_with fail
    go_ret
    exact ⟨rfl,HI.out.below.trans hb⟩
end Go.Proofs.YtcecjoaeolglbaaGreatDoor.Hand
end

section
namespace Go.Proofs.YtcecjoaeolglbaaGreatDoor.Hand
open Go.RowKit Go.Proofs.YtcecjoaeolglbaaGreatDoor.Pl Go.Proofs.YtcecjoaeolglbaaGreatDoor.Pb
def spanV (lo hi:Int):Value:=.agg #[.int .u8 lo,.int .u8 hi]
theorem below_two (w:World) (o p:Obj):Below w.heap.size w ((w.alloc o).alloc p):=((Below.refl _ w).alloc (Nat.le_refl _) o).alloc (by simp) p
theorem load_span (w:World) (a b:Value) (p:Obj):(loadVar 89 ⟨w.heap.size,0,none⟩).run Tryz.prog ((w.alloc (.cells #[a,b] 89)).alloc p) = .ok (.agg #[a,b]) ((w.alloc (.cells #[a,b] 89)).alloc p) :=
 run_loadVar_row _ _ 89 89 #[a,b] (0,0) _ (by show ((w.heap.push _).push _)[w.heap.size]? = _;simp [Array.getElem?_push]) Tryz.underlying89 rfl (by kernel_rfl)
set_option maxRecDepth 100000 in
set_option maxHeartbeats 1000000 in
theorem tail_c0 (c:Nat) (w:World) (h:c<194):Calls Tryz.prog 68 #[.int .u8 (c:Int)] w fun e w'=>e = .returned (.tuple #[spanV 128 191,.int .i64 1])∧Below w.heap.size w w':=by
 have q1:decide ((194:Int)≤(c:Int))=false:=by simp;omega
 have q3:((c:Int) == 224)=false:=by simp;omega
 have q4:((c:Int) == 237)=false:=by simp;omega
 have q5:decide ((225:Int)≤(c:Int))=false:=by simp;omega
 have q7:((c:Int) == 240)=false:=by simp;omega
 have q8:((c:Int) == 244)=false:=by simp;omega
 have q9:decide ((241:Int)≤(c:Int))=false:=by simp;omega
 clear h
 go_enter Tryz.func68,Tryz.ntmps68
 go_wp2_with fail
 refine bodyPost_ret (v:=.tuple #[spanV 128 191,.int .i64 1]) ?_ rfl ⟨rfl,below_two w _ _⟩
 rw [results_cell_tmp rfl]
 simp only [Array.getD_eq_getD_getElem?,List.getElem?_toArray,List.getElem?_cons_succ,List.getElem?_cons_zero,Option.getD_some,asAddr,Sem.run_pure,Result.andThen_ok,load_span w]
 rfl
set_option maxRecDepth 100000 in
set_option maxHeartbeats 1000000 in
theorem tail_c1 (c:Nat) (w:World) (h:194≤c∧c≤223):Calls Tryz.prog 68 #[.int .u8 (c:Int)] w fun e w'=>e = .returned (.tuple #[spanV 128 191,.int .i64 2])∧Below w.heap.size w w':=by
 have q1:decide ((194:Int)≤(c:Int))=true:=by simp;omega
 have q2:decide ((c:Int)≤223)=true:=by simp;omega
 clear h
 go_enter Tryz.func68,Tryz.ntmps68
 go_wp2_with fail
 refine bodyPost_ret (v:=.tuple #[spanV 128 191,.int .i64 2]) ?_ rfl ⟨rfl,below_two w _ _⟩
 rw [results_cell_tmp rfl]
 simp only [Array.getD_eq_getD_getElem?,List.getElem?_toArray,List.getElem?_cons_succ,List.getElem?_cons_zero,Option.getD_some,asAddr,Sem.run_pure,Result.andThen_ok,load_span w]
 rfl
set_option maxRecDepth 100000 in
set_option maxHeartbeats 1000000 in
theorem tail_c2 (c:Nat) (w:World) (h:c=224):Calls Tryz.prog 68 #[.int .u8 (c:Int)] w fun e w'=>e = .returned (.tuple #[spanV 160 191,.int .i64 3])∧Below w.heap.size w w':=by
 have q1:decide ((194:Int)≤(c:Int))=true:=by simp;omega
 have q2:decide ((c:Int)≤223)=false:=by simp;omega
 have q3:((c:Int) == 224)=true:=by simp;omega
 clear h
 go_enter Tryz.func68,Tryz.ntmps68
 go_wp2_with fail
 refine bodyPost_ret (v:=.tuple #[spanV 160 191,.int .i64 3]) ?_ rfl ⟨rfl,below_two w _ _⟩
 rw [results_cell_tmp rfl]
 simp only [Array.getD_eq_getD_getElem?,List.getElem?_toArray,List.getElem?_cons_succ,List.getElem?_cons_zero,Option.getD_some,asAddr,Sem.run_pure,Result.andThen_ok,load_span w]
 rfl
set_option maxRecDepth 100000 in
set_option maxHeartbeats 1000000 in
theorem tail_c3 (c:Nat) (w:World) (h:c=237):Calls Tryz.prog 68 #[.int .u8 (c:Int)] w fun e w'=>e = .returned (.tuple #[spanV 128 159,.int .i64 3])∧Below w.heap.size w w':=by
 have q1:decide ((194:Int)≤(c:Int))=true:=by simp;omega
 have q2:decide ((c:Int)≤223)=false:=by simp;omega
 have q3:((c:Int) == 224)=false:=by simp;omega
 have q4:((c:Int) == 237)=true:=by simp;omega
 clear h
 go_enter Tryz.func68,Tryz.ntmps68
 go_wp2_with fail
 refine bodyPost_ret (v:=.tuple #[spanV 128 159,.int .i64 3]) ?_ rfl ⟨rfl,below_two w _ _⟩
 rw [results_cell_tmp rfl]
 simp only [Array.getD_eq_getD_getElem?,List.getElem?_toArray,List.getElem?_cons_succ,List.getElem?_cons_zero,Option.getD_some,asAddr,Sem.run_pure,Result.andThen_ok,load_span w]
 rfl
set_option maxRecDepth 100000 in
set_option maxHeartbeats 1000000 in
theorem tail_c4 (c:Nat) (w:World) (h:225≤c∧c≤239∧c≠237):Calls Tryz.prog 68 #[.int .u8 (c:Int)] w fun e w'=>e = .returned (.tuple #[spanV 128 191,.int .i64 3])∧Below w.heap.size w w':=by
 have q1:decide ((194:Int)≤(c:Int))=true:=by simp;omega
 have q2:decide ((c:Int)≤223)=false:=by simp;omega
 have q3:((c:Int) == 224)=false:=by simp;omega
 have q4:((c:Int) == 237)=false:=by simp;omega
 have q5:decide ((225:Int)≤(c:Int))=true:=by simp;omega
 have q6:decide ((c:Int)≤239)=true:=by simp;omega
 clear h
 go_enter Tryz.func68,Tryz.ntmps68
 go_wp2_with fail
 refine bodyPost_ret (v:=.tuple #[spanV 128 191,.int .i64 3]) ?_ rfl ⟨rfl,below_two w _ _⟩
 rw [results_cell_tmp rfl]
 simp only [Array.getD_eq_getD_getElem?,List.getElem?_toArray,List.getElem?_cons_succ,List.getElem?_cons_zero,Option.getD_some,asAddr,Sem.run_pure,Result.andThen_ok,load_span w]
 rfl
set_option maxRecDepth 100000 in
set_option maxHeartbeats 1000000 in
theorem tail_c5 (c:Nat) (w:World) (h:c=240):Calls Tryz.prog 68 #[.int .u8 (c:Int)] w fun e w'=>e = .returned (.tuple #[spanV 144 191,.int .i64 4])∧Below w.heap.size w w':=by
 have q1:decide ((194:Int)≤(c:Int))=true:=by simp;omega
 have q2:decide ((c:Int)≤223)=false:=by simp;omega
 have q3:((c:Int) == 224)=false:=by simp;omega
 have q4:((c:Int) == 237)=false:=by simp;omega
 have q5:decide ((225:Int)≤(c:Int))=true:=by simp;omega
 have q6:decide ((c:Int)≤239)=false:=by simp;omega
 have q7:((c:Int) == 240)=true:=by simp;omega
 clear h
 go_enter Tryz.func68,Tryz.ntmps68
 go_wp2_with fail
 refine bodyPost_ret (v:=.tuple #[spanV 144 191,.int .i64 4]) ?_ rfl ⟨rfl,below_two w _ _⟩
 rw [results_cell_tmp rfl]
 simp only [Array.getD_eq_getD_getElem?,List.getElem?_toArray,List.getElem?_cons_succ,List.getElem?_cons_zero,Option.getD_some,asAddr,Sem.run_pure,Result.andThen_ok,load_span w]
 rfl
set_option maxRecDepth 100000 in
set_option maxHeartbeats 1000000 in
theorem tail_c6 (c:Nat) (w:World) (h:c=244):Calls Tryz.prog 68 #[.int .u8 (c:Int)] w fun e w'=>e = .returned (.tuple #[spanV 128 143,.int .i64 4])∧Below w.heap.size w w':=by
 have q1:decide ((194:Int)≤(c:Int))=true:=by simp;omega
 have q2:decide ((c:Int)≤223)=false:=by simp;omega
 have q3:((c:Int) == 224)=false:=by simp;omega
 have q4:((c:Int) == 237)=false:=by simp;omega
 have q5:decide ((225:Int)≤(c:Int))=true:=by simp;omega
 have q6:decide ((c:Int)≤239)=false:=by simp;omega
 have q7:((c:Int) == 240)=false:=by simp;omega
 have q8:((c:Int) == 244)=true:=by simp;omega
 clear h
 go_enter Tryz.func68,Tryz.ntmps68
 go_wp2_with fail
 refine bodyPost_ret (v:=.tuple #[spanV 128 143,.int .i64 4]) ?_ rfl ⟨rfl,below_two w _ _⟩
 rw [results_cell_tmp rfl]
 simp only [Array.getD_eq_getD_getElem?,List.getElem?_toArray,List.getElem?_cons_succ,List.getElem?_cons_zero,Option.getD_some,asAddr,Sem.run_pure,Result.andThen_ok,load_span w]
 rfl
set_option maxRecDepth 100000 in
set_option maxHeartbeats 1000000 in
theorem tail_c7 (c:Nat) (w:World) (h:241≤c∧c≤243):Calls Tryz.prog 68 #[.int .u8 (c:Int)] w fun e w'=>e = .returned (.tuple #[spanV 128 191,.int .i64 4])∧Below w.heap.size w w':=by
 have q1:decide ((194:Int)≤(c:Int))=true:=by simp;omega
 have q2:decide ((c:Int)≤223)=false:=by simp;omega
 have q3:((c:Int) == 224)=false:=by simp;omega
 have q4:((c:Int) == 237)=false:=by simp;omega
 have q5:decide ((225:Int)≤(c:Int))=true:=by simp;omega
 have q6:decide ((c:Int)≤239)=false:=by simp;omega
 have q7:((c:Int) == 240)=false:=by simp;omega
 have q8:((c:Int) == 244)=false:=by simp;omega
 have q9:decide ((241:Int)≤(c:Int))=true:=by simp;omega
 have q10:decide ((c:Int)≤243)=true:=by simp;omega
 clear h
 go_enter Tryz.func68,Tryz.ntmps68
 go_wp2_with fail
 refine bodyPost_ret (v:=.tuple #[spanV 128 191,.int .i64 4]) ?_ rfl ⟨rfl,below_two w _ _⟩
 rw [results_cell_tmp rfl]
 simp only [Array.getD_eq_getD_getElem?,List.getElem?_toArray,List.getElem?_cons_succ,List.getElem?_cons_zero,Option.getD_some,asAddr,Sem.run_pure,Result.andThen_ok,load_span w]
 rfl
set_option maxRecDepth 100000 in
set_option maxHeartbeats 1000000 in
theorem tail_c8 (c:Nat) (w:World) (h:244<c):Calls Tryz.prog 68 #[.int .u8 (c:Int)] w fun e w'=>e = .returned (.tuple #[spanV 128 191,.int .i64 1])∧Below w.heap.size w w':=by
 have q1:decide ((194:Int)≤(c:Int))=true:=by simp;omega
 have q2:decide ((c:Int)≤223)=false:=by simp;omega
 have q3:((c:Int) == 224)=false:=by simp;omega
 have q4:((c:Int) == 237)=false:=by simp;omega
 have q5:decide ((225:Int)≤(c:Int))=true:=by simp;omega
 have q6:decide ((c:Int)≤239)=false:=by simp;omega
 have q7:((c:Int) == 240)=false:=by simp;omega
 have q8:((c:Int) == 244)=false:=by simp;omega
 have q9:decide ((241:Int)≤(c:Int))=true:=by simp;omega
 have q10:decide ((c:Int)≤243)=false:=by simp;omega
 clear h
 go_enter Tryz.func68,Tryz.ntmps68
 go_wp2_with fail
 refine bodyPost_ret (v:=.tuple #[spanV 128 191,.int .i64 1]) ?_ rfl ⟨rfl,below_two w _ _⟩
 rw [results_cell_tmp rfl]
 simp only [Array.getD_eq_getD_getElem?,List.getElem?_toArray,List.getElem?_cons_succ,List.getElem?_cons_zero,Option.getD_some,asAddr,Sem.run_pure,Result.andThen_ok,load_span w]
 rfl
theorem tail_any (c:Nat) (w:World):Calls Tryz.prog 68 #[.int .u8 (c:Int)] w fun e w'=>e = .returned (.tuple #[spanV (tailN c).1 (tailN c).2.1,.int .i64 (tailN c).2.2])∧Below w.heap.size w w':=by
 unfold tailN
 split
 · exact tail_c1 c w (by assumption)
 · split
   · exact tail_c2 c w (by assumption)
   · split
     · exact tail_c3 c w (by assumption)
     · split
       · exact tail_c4 c w (by omega)
       · split
         · exact tail_c5 c w (by assumption)
         · split
           · exact tail_c6 c w (by assumption)
           · split
             · exact tail_c7 c w (by assumption)
             · by_cases h:c<194
               · exact tail_c0 c w h
               · exact tail_c8 c w (by omega)
set_option maxRecDepth 100000 in
set_option maxHeartbeats 1000000 in
theorem has_c (lo hi c:Int) (w:World):Calls Tryz.prog 69 #[.agg #[.int .u8 lo,.int .u8 hi],.int .u8 c] w fun e w'=>e = .returned (.bool (decide (lo≤c∧c≤hi)))∧Below w.heap.size w w':=by
 have hB:∀ o,Below w.heap.size w (w.alloc o):=fun o=>(Below.refl _ w).alloc (Nat.le_refl _) o
 have HB:=Lib.hid hB
 clear hB
 by_cases h1:lo≤c
 · have q1:decide (lo≤c)=true:=by simp;omega
   by_cases h2:c≤hi
   · have q2:decide (c≤hi)=true:=by simp;omega
     have e:decide (lo≤c∧c≤hi)=true:=decide_eq_true ⟨h1,h2⟩
     rw [e]
     clear h1 h2 e
     go_enter Tryz.func69,Tryz.ntmps69
     go_wp2_with fail
     go_ret
     exact ⟨rfl,HB.out _⟩
   · have q2:decide (c≤hi)=false:=by simp;omega
     have e:decide (lo≤c∧c≤hi)=false:=decide_eq_false (by omega)
     rw [e]
     clear h1 h2 e
     go_enter Tryz.func69,Tryz.ntmps69
     go_wp2_with fail
     go_ret
     exact ⟨rfl,HB.out _⟩
 · have q1:decide (lo≤c)=false:=by simp;omega
   have e:decide (lo≤c∧c≤hi)=false:=decide_eq_false (by omega)
   rw [e]
   clear h1 e
   go_enter Tryz.func69,Tryz.ntmps69
   go_wp2_with fail
   go_ret
   exact ⟨rfl,HB.out _⟩
def scanF (all:Nat):Nat→Nat→Nat→List UInt8→Nat×Bool
 | k,_,_,[]=>if k<all then (k,false) else (k,decide (1<all))
 | k,lo,hi,d::r=>if k<all then (if lo≤d.toNat∧d.toNat≤hi then scanF all (k+1) 128 191 r else (k,false)) else (k,decide (1<all))
theorem scanF_end (all k lo hi:Nat) (r:List UInt8) (h:¬ k<all):scanF all k lo hi r=(k,decide (1<all)):=by
 cases r<;>rw [scanF,if_neg h]
theorem byteO_nil (k:Nat):byteO [] k=none:=rfl
theorem byteO_zero (d:UInt8) (r:List UInt8):byteO (d::r) 0=some d.toNat:=rfl
theorem byteO_succ (d:UInt8) (r:List UInt8) (k:Nat):byteO (d::r) (k+1)=byteO r k:=rfl
theorem tail_all (c:Nat):(tailN c).2.2=1∨(tailN c).2.2=2∨(tailN c).2.2=3∨(tailN c).2.2=4:=by
 unfold tailN
 repeat' split
 all_goals simp
set_option linter.unusedSimpArgs false in
theorem first_scan (c:UInt8) (r:List UInt8) (h:¬ c.toNat<128):firstU (c::r)=scanF (tailN c.toNat).2.2 1 (tailN c.toNat).1 (tailN c.toNat).2.1 r:=by
 show firstN c.toNat (byteO r 0) (byteO r 1) (byteO r 2)=_
 unfold firstN
 rw [if_neg h]
 obtain ⟨lo,hl⟩:∃ x,(tailN c.toNat).1=x:=⟨_,rfl⟩
 obtain ⟨hi,hh⟩:∃ x,(tailN c.toNat).2.1=x:=⟨_,rfl⟩
 rw [hl,hh]
 have e4:∀ q,scanF 4 4 128 191 q=(4,true):=fun q=>scanF_end _ _ _ _ _ (by omega)
 have e3:∀ q,scanF 3 3 128 191 q=(3,true):=fun q=>scanF_end _ _ _ _ _ (by omega)
 have e2:∀ q,scanF 2 2 128 191 q=(2,true):=fun q=>scanF_end _ _ _ _ _ (by omega)
 rcases tail_all c.toNat with h1|h1|h1|h1<;>rw [h1]
 · rw [if_pos rfl,scanF_end _ _ _ _ _ (by omega)];rfl
 all_goals
  rcases r with _|⟨d,_|⟨e,_|⟨f,r⟩⟩⟩
  · simp [scanF,byteO_nil,inO]
  · by_cases hd:lo≤d.toNat∧d.toNat≤hi<;>simp [scanF,byteO_nil,byteO_zero,byteO_succ,inO,contO,hd,e4,e3,e2]
  · by_cases hd:lo≤d.toNat∧d.toNat≤hi<;>by_cases he:128≤e.toNat∧e.toNat≤191<;>simp [scanF,byteO_nil,byteO_zero,byteO_succ,inO,contO,hd,he,e4,e3,e2]
  · by_cases hd:lo≤d.toNat∧d.toNat≤hi<;>by_cases he:128≤e.toNat∧e.toNat≤191<;>by_cases hf:128≤f.toNat∧f.toNat≤191<;>simp [scanF,byteO_nil,byteO_zero,byteO_succ,inO,contO,hd,he,hf,e4,e3,e2]
structure Sp (w:World) (p:Nat) (l h:Int) (W:World):Prop where
 lt:p<W.heap.size
 own:w.heap.size≤p
 blk:Blk p #[.int .u8 l,.int .u8 h] W
 below:Below w.heap.size w W
theorem Sp.call {w W W':World} {p:Nat} {l h:Int} (hs:Sp w p l h W) (hb:Below W.heap.size W W'):Sp w p l h W' :=
 ⟨Nat.lt_of_lt_of_le hs.lt hb.size,hs.own,hs.blk.below hb hs.lt,hs.below.trans (hb.mono hs.below.size)⟩
@[reducible] def SpC (w:World) (p:Nat) (l h:Int) (W:World):Prop:=Sp w p l h W∧W.cell? ⟨p,0,none⟩=some (.int .u8 l)∧W.cell? ⟨p,1,none⟩=some (.int .u8 h)
theorem Sp.cells {w W:World} {p:Nat} {l h:Int} (hs:Sp w p l h W):SpC w p l h W:=⟨hs,hs.blk.cell 0 (by simp),hs.blk.cell 1 (by simp)⟩
theorem SpC.call {w W W':World} {p:Nat} {l h:Int} (hb:Below W.heap.size W W') (hs:SpC w p l h W):SpC w p l h W':=(hs.1.call hb).cells
theorem Sp.drew {w W:World} {p:Nat} {l h:Int} (hs:Sp w p l h W):Sp w p l h W.drew:=hs.call (Below.drew (Below.refl _ _))
theorem Sp.put {w W:World} {p:Nat} {l h:Int} (hs:Sp w p l h W) (l' h':Int):Sp w p l' h' ((W.setCell ⟨p,0,none⟩ (.int .u8 l')).setCell ⟨p,1,none⟩ (.int .u8 h')) :=
 ⟨by simp;exact hs.lt,hs.own,by
   have:=(hs.blk.set 0 (.int .u8 l') (by simp)).set 1 (.int .u8 h') (by simp)
   simpa using this,by
   have b1:=hs.below.setCell (p:=⟨p,0,none⟩) hs.own (.int .u8 l')
   exact b1.setCell (p:=⟨p,1,none⟩) hs.own (.int .u8 h')⟩
theorem Sp.new (w w1:World) (l h:Int) (t:TypeId) (hb:Below w.heap.size w w1):Sp w w1.heap.size l h (w1.alloc (.cells #[.int .u8 l,.int .u8 h] t)) :=
 ⟨by simp,hb.size,Blk.of_alloc _ _ _,hb.alloc hb.size _⟩
set_option maxRecDepth 100000 in
set_option maxHeartbeats 4000000 in
theorem first_at (c:UInt8) (r:List UInt8) (n:Nat) (b:Bool) (hf:firstU (c::r)=(n,b)) (a:ByteArray) (ha:a.data.toList=c::r) (hz:a.size≤1000000000) (w:World) :
  Calls Tryz.prog 43 #[.string a] w fun e w'=>e = .returned (.tuple #[.int .i64 (n:Int),.bool b])∧Below w.heap.size w w':=by
 have h0:0<a.size:=by
  have:=congrArg List.length ha
  rw [Array.length_toList,List.length_cons] at this
  show 0<a.data.size
  omega
 have hc:a[0]=c:=by
  have:=congrArg (fun l=>l[0]?) ha
  rw [Array.getElem?_toList] at this
  rw [Array.getElem?_eq_getElem (show 0<a.data.size from h0)] at this
  exact Option.some.inj this
 by_cases h128:c.toNat<128
 · have q1:decide (((a[0].toNat:Nat):Int)<128)=true:=by rw [hc];simp;omega
   have hn:(n,b)=(1,true):=by rw [← hf];show firstN c.toNat (byteO r 0) (byteO r 1) (byteO r 2)=_;unfold firstN;rw [if_pos h128]
   injection hn with h1 h2
   subst h1;subst h2
   clear ha hc hf h128
   go_enter Tryz.func43,Tryz.ntmps43
   go_wp2_with fail
   go_ret2
   exact ⟨rfl,Below.refl _ _⟩
 · have q1:decide (((a[0].toNat:Nat):Int)<128)=false:=by rw [hc];simp;omega
   have hs:=first_scan c r h128
   rw [hf] at hs
   have T:=fun W=>tail_any a[0].toNat W
   rw [hc] at T
   have hall:=tail_all c.toNat
   obtain ⟨lo,hl⟩:∃ x,(tailN c.toNat).1=x:=⟨_,rfl⟩
   obtain ⟨hi,hh⟩:∃ x,(tailN c.toNat).2.1=x:=⟨_,rfl⟩
   obtain ⟨all,ht⟩:∃ x,(tailN c.toNat).2.2=x:=⟨_,rfl⟩
   rw [hl,hh,ht] at hs T
   rw [ht] at hall
   have HT:Hid (∀ W,Calls Tryz.prog 68 #[.int .u8 ((a[0].toNat:Nat):Int)] W fun e w'=>e = .returned (.tuple #[.agg #[.int .u8 (lo:Int),.int .u8 (hi:Int)],.int .i64 (all:Int)])∧Below W.heap.size W w'):=Lib.hid (fun W=>by rw [hc];exact T W)
   have HA:Hid ((n,b)=scanF all 1 lo hi (a.data.toList.drop 1)):=Lib.hid (by rw [ha];exact hs)
   have HH:=Lib.hid (fun lo hi c W=>has_c lo hi c W)
   have hall4:all≤4:=by omega
   clear ha hc hf h128 hs T hl hh ht hall
   go_enter Tryz.func43,Tryz.ntmps43
   go_wp2_with fail
   refine (HT.out _).mono ?_
   rintro e w1 ⟨rfl,hb⟩
   have HB:=Lib.hid hb
   clear hb
   go_wp2_with fail
   go_loopg [2] 4 (fun g v wx => ∃ k l h:Nat,k+g=5∧v = .int .i64 (k:Int)∧k≤a.size∧Hid (Sp w w1.heap.size l h wx)∧Hid ((n,b)=scanF all k l h (a.data.toList.drop k)))
   case atStart=>exact ⟨1,lo,hi,rfl,rfl,by omega,Lib.hid (Sp.new w w1 lo hi _ HB.out),HA⟩
   case round =>
    obtain ⟨k,l,h,hkg,rfl,hk,hB,hS⟩:=hrel
    by_cases hall:k<all
    · have q2:decide ((k:Int)<(all:Int))=true:=by simp;omega
      by_cases hlt:k<a.size
      · have q3:((k:Int) == (a.size:Int))=false:=by rw [beq_eq_false_iff_ne];omega
        have hd:=drop_cons a k hlt
        by_cases hin:l≤a[k].toNat∧a[k].toNat≤h
        · have F:Hid (∀ W,Calls Tryz.prog 69 #[.agg #[.int .u8 (l:Int),.int .u8 (h:Int)],.int .u8 ((a[k].toNat:Nat):Int)] W fun e w'=>e = .returned (.bool true)∧Below W.heap.size W w'):=Lib.hid (fun W=>by
           have:=HH.out l h (a[k].toNat:Nat) W
           rw [decide_eq_true (by omega)] at this
           exact this)
          have HN:Hid ((n,b)=scanF all (k+1) 128 191 (a.data.toList.drop (k+1))):=Lib.hid (by
           have:=hS.out
           rw [hd,scanF,if_pos hall,if_pos hin] at this
           exact this)
          clear hd hin hS
          go_wp2_with fail
          have HSD:=(Sp.drew hB.out).cells
          go_region_held3 (fun W=>Sp w w1.heap.size l h W∧W.cell? ⟨w1.heap.size,0,none⟩=some (.int .u8 (l:Int))∧W.cell? ⟨w1.heap.size,1,none⟩=some (.int .u8 (h:Int))) (first|with_reducible assumption|with_reducible exact HSD|exact SpC.call hb (by with_reducible assumption)) (first | (go_at_call 69;refine (F.out _).mono ?_;rintro e w' ⟨rfl,hb⟩))
          have HW:Hid (Sp w w1.heap.size (l:Int) (h:Int) _):=Lib.hid (And.left (by with_reducible assumption))
          have f0:=HW.out.blk.open_ 0
          have f1:=HW.out.blk.open_ 1
          clear HSD F
          go_wp2_with fail
          cases gk with
          | zero=>omega
          | succ g =>
            go_roundg g
            case measure=>omega
            case rel=>exact ⟨k+1,128,191,by omega,by go_num,by omega,Lib.hid (HW.out.put 128 191),HN⟩
        · have F:Hid (∀ W,Calls Tryz.prog 69 #[.agg #[.int .u8 (l:Int),.int .u8 (h:Int)],.int .u8 ((a[k].toNat:Nat):Int)] W fun e w'=>e = .returned (.bool false)∧Below W.heap.size W w'):=Lib.hid (fun W=>by
           have:=HH.out l h (a[k].toNat:Nat) W
           rw [decide_eq_false (by omega)] at this
           exact this)
          have HN:Hid ((n,b)=(k,false)):=Lib.hid (by
           have:=hS.out
           rw [hd,scanF,if_pos hall,if_neg hin] at this
           exact this)
          clear hd hin hS
          go_wp2_with fail
          have HSD:=(Sp.drew hB.out).cells
          go_region_held3 (fun W=>Sp w w1.heap.size l h W∧W.cell? ⟨w1.heap.size,0,none⟩=some (.int .u8 (l:Int))∧W.cell? ⟨w1.heap.size,1,none⟩=some (.int .u8 (h:Int))) (first|with_reducible assumption|with_reducible exact HSD|exact SpC.call hb (by with_reducible assumption)) (first | (go_at_call 69;refine (F.out _).mono ?_;rintro e w' ⟨rfl,hb⟩))
          have HW:Hid (Sp w w1.heap.size (l:Int) (h:Int) _):=Lib.hid (And.left (by with_reducible assumption))
          clear HSD F
          go_wp2_with fail
          go_ret2
          have hn:=HN.out
          injection hn with h1 h2
          subst h1;subst h2
          exact ⟨rfl,HW.out.below⟩
      · obtain rfl:k=a.size:=by omega
        have HN:Hid ((n,b)=(a.size,false)):=Lib.hid (by
         have:=hS.out
         rw [List.drop_eq_nil_of_le (by rw [Array.length_toList];show a.size≤a.size;omega),scanF,if_pos hall] at this
         exact this)
        clear hS
        go_wp2_with fail
        go_quiet (fail)
        go_wp2_with fail
        go_ret2
        have hn:=HN.out
        injection hn with h1 h2
        subst h1;subst h2
        exact ⟨rfl,hB.out.below.trans ⟨rfl,rfl,rfl,Nat.le_refl _,fun _ _=>rfl⟩⟩
    · have q2:decide ((k:Int)<(all:Int))=false:=by simp;omega
      have HN:Hid ((n,b)=(k,decide (1<all))):=Lib.hid (by
       have:=hS.out
       rw [scanF_end _ _ _ _ _ hall] at this
       exact this)
      clear hS
      have hn:=HN.out
      injection hn with h1 h2
      subst h1
      cases hb1:decide (1<all) with
      | true =>
        rw [hb1] at h2;subst h2
        have q4:decide ((1:Int)<(all:Int))=true:=by simp at hb1 ⊢;omega
        have q5:=hb1
        clear hb1 HN
        go_wp2_with fail
        go_ret2
        exact ⟨rfl,hB.out.below⟩
      | false =>
        rw [hb1] at h2;subst h2
        have q4:decide ((1:Int)<(all:Int))=false:=by simp at hb1 ⊢;omega
        have q5:=hb1
        clear hb1 HN
        go_wp2_with fail
        go_ret2
        exact ⟨rfl,hB.out.below⟩
end Go.Proofs.YtcecjoaeolglbaaGreatDoor.Hand
end

section
namespace Go.Proofs.YtcecjoaeolglbaaGreatDoor.Hand
open Go.RowKit Go.Proofs.YtcecjoaeolglbaaGreatDoor.Pl Go.Proofs.YtcecjoaeolglbaaGreatDoor.Pb
theorem trim_B (s:ByteArray):(⟨(Lib.trimPrefix s.data.toList (⟨#[239,187,191]⟩:ByteArray).data.toList).toArray⟩:ByteArray)=B (trimL s.data.toList):=rfl
theorem first_any (X:ByteArray) (h:0<X.size) (hz:X.size≤1000000000) :
  ∃ n b,1≤n∧n≤X.size∧decL X.data.toList=(if b=true then (X.extract 0 n).data.toList else badP)++decL (X.extract n X.size).data.toList ∧
    ∀ w,Calls Tryz.prog 43 #[.string X] w fun e w'=>e = .returned (.tuple #[.int .i64 (n:Int),.bool b])∧Below w.heap.size w w':=by
 obtain ⟨l,rfl⟩:=exists_B X
 cases l with
 | nil=>exact absurd h (by decide)
 | cons c r =>
   obtain ⟨p1,p2,_⟩:=firstU_pos c r
   refine ⟨(firstU (c::r)).1,(firstU (c::r)).2,p1,by rw [size_B];exact p2,?_,fun w=>first_at c r _ _ rfl _ (B_data _) hz w⟩
   rw [B_data,B_extract,B_extract,B_data,B_data,size_B,List.take_length,List.drop_zero,decL_cons]
theorem builderAt_below {T e:TypeId} {B0 b:Nat} {p:Value} {bs:List Value} {W W':World} (h:Lib.BuilderAt T e B0 b p bs W) (hb:Below W.heap.size W W'):Lib.BuilderAt T e B0 b p bs W':=by
 have lt:∀ {k:Nat} {o:Obj},W.heap[k]? = some o→k<W.heap.size:=fun h=>(Array.getElem?_eq_some_iff.1 h).1
 obtain ⟨hB,v,hv,hown,hne⟩:=h
 refine ⟨hB,v,(hb.block b (lt hv)).trans hv,⟨hown.1,?_⟩,hne⟩
 rcases hown.2 with h|⟨g,cap,cur,h1,h2,h3,h4⟩
 · exact .inl h
 · exact .inr ⟨g,cap,cur,h1,h2,(hb.block g (lt h3)).trans h3,h4⟩
theorem isB_below {T e:TypeId} {B0 b:Nat} {bs:List Value} {W W':World} (h:Lib.IsBuilder T e B0 b bs W) (hb:Below W.heap.size W W'):Lib.IsBuilder T e B0 b bs W' :=
 h.elim (fun x => .inl (builderAt_below x hb)) (fun x => .inr (builderAt_below x hb))
set_option maxRecDepth 100000 in
set_option maxHeartbeats 4000000 in
theorem decode_v (s:List UInt8) (v:Value) (w:World) (hz:s.length≤100000)
  (hback:∀ o,(convert 27 9 v).run Tryz.prog (w.alloc o)=Result.ok (Value.string (B s)) (w.alloc o)) :
  Calls Tryz.prog 19 #[v] w fun e w'=>e = .returned (.string (B (decL (trimL s))))∧Below w.heap.size w w':=by
 have hz2:(trimL s).length≤100000:=by unfold trimL;split<;>(try rw [List.length_drop])<;>omega
 have TP:∀ W,Calls Tryz.prog 42 #[.string (B s),.string ⟨#[239,187,191]⟩] W fun e w'=>e = .returned (.string (B (trimL s)))∧w'=W:=fun W=>by
  have:=Tryz.strings_TrimPrefix (B s) ⟨#[239,187,191]⟩ W
  rw [trim_B,B_data] at this
  exact this
 have HTP:=Lib.hid TP
 have DT:Hid (decL (B (trimL s)).data.toList=decL (trimL s)):=Lib.hid (by rw [B_data])
 have zT:(B (trimL s)).size≤100000:=by rw [size_B];exact hz2
 obtain ⟨T,hT⟩:∃ T,B (trimL s)=T:=⟨_,rfl⟩
 obtain ⟨D,hD⟩:∃ D,decL (trimL s)=D:=⟨_,rfl⟩
 obtain ⟨S,hS⟩:∃ S,B s=S:=⟨_,rfl⟩
 rw [hT,hS] at HTP
 rw [hT,hD] at DT
 rw [hT] at zT
 rw [hS] at hback
 rw [hD]
 clear hT hD hS TP hz2 hz
 go_enter Tryz.func19,Tryz.ntmps19
 go_wp2_with fail
 refine (HTP.out _).mono ?_
 rintro e w' ⟨rfl,rfl⟩
 clear hback HTP
 go_wp2_with fail
 go_loopg [4] T.size (fun g v wx => ∃ (X:ByteArray) (acc:List UInt8),X.size=g∧v = .string X∧X.size≤100000∧acc.length+3*X.size≤300000∧Hid (acc++decL X.data.toList=D)∧Hid (Lib.IsBuilder 54 5 w.heap.size w.heap.size (Lib.byteCells acc) wx)∧Hid (Below w.heap.size w wx))
 case atStart=>exact ⟨T,[],rfl,rfl,zT,by simp;omega,DT,Lib.hid (Lib.fresh_isBuilder 54 5 w),Lib.hid ((Below.refl _ w).alloc (Nat.le_refl _) _)⟩
 case round =>
  obtain ⟨X,acc,hg,rfl,hX,hacc,hD,hI,hB⟩:=hrel
  cases gk with
  | zero =>
    have q1:(X.toList == [])=true:=by
     obtain ⟨l,rfl⟩:=exists_B X
     rw [size_B] at hg
     obtain rfl:=List.eq_nil_of_length_eq_zero hg
     rw [toList_B];rfl
    have q2:(X.toList != [])=false:=by rw [bne,q1];rfl
    have e:acc=D:=by
     rw [← hD.out]
     obtain ⟨l,rfl⟩:=exists_B X
     rw [size_B] at hg
     obtain rfl:=List.eq_nil_of_length_eq_zero hg
     rw [B_data];exact (List.append_nil _).symm
    subst e
    have W:=Lib.hid (Tryz.Builder_String_any w.heap.size w.heap.size acc wr hI.out hB.out.size)
    clear hg hD
    go_wp2_with fail
    refine W.out.mono ?_
    rintro e w1 ⟨rfl,b1⟩
    have HB2:=Lib.hid (hB.out.trans b1)
    clear b1 W
    go_wp2_with fail
    go_ret
    exact ⟨rfl,HB2.out⟩
  | succ g =>
    have q1:(X.toList == [])=false:=by
     obtain ⟨l,rfl⟩:=exists_B X
     rw [toList_B,beq_eq_false_iff_ne]
     rintro rfl
     cases hg
    have q2:(X.toList != [])=true:=by rw [bne,q1];rfl
    obtain ⟨n,wh,hn1,hn2,hdec,F⟩:=first_any X (by omega) (by omega)
    have HG:=Lib.hid hg
    clear hg
    have HF:=Lib.hid F
    have zs:(X.extract n X.size).size=X.size - n:=by rw [ByteArray.size_extract];omega
    have ze:(X.extract 0 n).size=n:=by rw [ByteArray.size_extract];omega
    have HZ:=Lib.hid zs
    have HE:=Lib.hid ze
    have HD2:=Lib.hid hdec
    clear F zs ze hdec
    cases wh with
    | true =>
      have HD3:Hid ((acc++(X.extract 0 n).data.toList)++decL (X.extract n X.size).data.toList=D):=Lib.hid (by rw [← hD.out,HD2.out,if_pos rfl,List.append_assoc])
      have W:=Lib.hid (fun W (h:Lib.IsBuilder 54 5 w.heap.size w.heap.size (Lib.byteCells acc) W) hb=>Tryz.Builder_WriteString w.heap.size w.heap.size _ (X.extract 0 n) W h (by rw [Lib.byteCells_length,ByteArray.size_extract];omega) hb)
      clear HD2 hD
      go_wp2_with fail
      refine (HF.out _).mono ?_
      rintro e w1 ⟨rfl,b1⟩
      have HB2:=Lib.hid (hB.out.trans (b1.mono hB.out.size))
      have HI2:Hid (Lib.IsBuilder 54 5 w.heap.size w.heap.size (Lib.byteCells acc) w1):=Lib.hid (isB_below hI.out b1)
      clear b1 hB hI
      go_wp2_with fail
      refine (W.out _ HI2.out HB2.out.size).mono ?_
      rintro e w2 ⟨rfl,h1,b2⟩
      have HB3:=Lib.hid (HB2.out.trans b2)
      have HI3:Hid (Lib.IsBuilder 54 5 w.heap.size w.heap.size (Lib.byteCells (acc++(X.extract 0 n).data.toList)) w2):=Lib.hid (Or.inr (by rw [show Lib.byteCells (acc++(X.extract 0 n).data.toList)=Lib.byteCells acc++Lib.strCells (X.extract 0 n) by simp [Lib.byteCells,Lib.strCells]];exact h1))
      clear h1 b2 HB2 HI2 W
      go_wp2_with fail
      go_roundg (X.size - n)
      case measure=>have:=HG.out;omega
      case rel=>exact ⟨X.extract n X.size,_,HZ.out,rfl,by rw [HZ.out];omega,by rw [HZ.out,List.length_append,show (X.extract 0 n).data.toList.length=n from by rw [Array.length_toList];exact HE.out];omega,HD3,HI3,HB3⟩
    | false =>
      have HD3:Hid ((acc++badP)++decL (X.extract n X.size).data.toList=D):=Lib.hid (by rw [← hD.out,HD2.out,if_neg (by decide),List.append_assoc])
      have W:=Lib.hid (fun W (h:Lib.IsBuilder 54 5 w.heap.size w.heap.size (Lib.byteCells acc) W) hb=>Tryz.Builder_WriteString w.heap.size w.heap.size _ ⟨#[239,191,189]⟩ W h (by rw [Lib.byteCells_length,show (⟨#[239,191,189]⟩:ByteArray).size=3 from rfl];omega) hb)
      clear HD2 hD
      go_wp2_with fail
      refine (HF.out _).mono ?_
      rintro e w1 ⟨rfl,b1⟩
      have HB2:=Lib.hid (hB.out.trans (b1.mono hB.out.size))
      have HI2:Hid (Lib.IsBuilder 54 5 w.heap.size w.heap.size (Lib.byteCells acc) w1):=Lib.hid (isB_below hI.out b1)
      clear b1 hB hI
      go_wp2_with fail
      refine (W.out _ HI2.out HB2.out.size).mono ?_
      rintro e w2 ⟨rfl,h1,b2⟩
      have HB3:=Lib.hid (HB2.out.trans b2)
      have HI3:Hid (Lib.IsBuilder 54 5 w.heap.size w.heap.size (Lib.byteCells (acc++badP)) w2):=Lib.hid (Or.inr (by rw [show Lib.byteCells (acc++badP)=Lib.byteCells acc++Lib.strCells ⟨#[239,191,189]⟩ by simp [Lib.byteCells,Lib.strCells,badP]];exact h1))
      clear h1 b2 HB2 HI2 W
      go_wp2_with fail
      go_roundg (X.size - n)
      case measure=>have:=HG.out;omega
      case rel=>exact ⟨X.extract n X.size,_,HZ.out,rfl,by rw [HZ.out];omega,by rw [HZ.out,List.length_append,show badP.length=3 from rfl];omega,HD3,HI3,HB3⟩
end Go.Proofs.YtcecjoaeolglbaaGreatDoor.Hand
end

section
namespace Go.Proofs.YtcecjoaeolglbaaGreatDoor.Hand
open Go Go.RowKit Go.Proofs.YtcecjoaeolglbaaGreatDoor.K0 Go.Proofs.YtcecjoaeolglbaaGreatDoor.Pl Go.Proofs.YtcecjoaeolglbaaGreatDoor.Pb Go.Proofs.YtcecjoaeolglbaaGreatDoor.Sa Go.Proofs.YtcecjoaeolglbaaGreatDoor.St Go.Proofs.YtcecjoaeolglbaaGreatDoor.Pure Go.Proofs.YtcecjoaeolglbaaGreatDoorW.PrintWords Go.Proofs.YtcecjoaeolglbaaGreatDoorW.PrintLast Go.Proofs.YtcecjoaeolglbaaGreatDoorW.PrintMore
def Byt (s:List UInt8) (v:Value) (w:World):Prop := ∀ W,Below w.heap.size w W→(convert 27 9 v).run Tryz.prog W = .ok (.string (B s)) W
theorem Byt.step {s:List UInt8} {v:Value} {w W:World} (h:Byt s v w) (hb:Below w.heap.size w W):Byt s v W:=fun W' hb'=>h W' (hb.trans (hb'.mono hb.size))
theorem decode_b {s:List UInt8} {v:Value} {w:World} (h:Byt s v w) (hs:s.length≤6000) :
  Calls Tryz.prog 19 #[v] w fun e w'=>e = .returned (.string (B (decL (trimL s))))∧Below w.heap.size w w' :=
 decode_v s v w (by omega) fun o=>h _ (below_alloc (Below.refl _ _) o)
abbrev fnV (k:Nat):Value:=.func (.func k) #[] #[]
abbrev clV (k p q:Nat):Value:=.func (.func k) #[] #[.pointer (some ⟨p,0,none⟩),.pointer (some ⟨q,0,none⟩)]
def TkV (W:World) (v:Value) (L:List TkS):Prop := ∃ b ok,Kd.V tkK 46 W b ok v L
abbrev ExI (w0:World) (p q:Nat) (F G:Value) (W:World):Prop:=(Glob W∧Below w0.heap.size w0 W)∧W.cell? ⟨p,0,none⟩=some F∧W.cell? ⟨q,0,none⟩=some G
theorem ExI.call {w0:World} {p q:Nat} {F G:Value} {W W':World} (hb:Below W.heap.size W W') (h:ExI w0 p q F G W):ExI w0 p q F G W' :=
 ⟨⟨h.1.1.step hb,h.1.2.trans (hb.mono h.1.2.size)⟩,(hb.cell (World.block_lt_of_cell? W _ h.2.1)).trans h.2.1,(hb.cell (World.block_lt_of_cell? W _ h.2.2)).trans h.2.2⟩
theorem dec_len (s:List UInt8):(decL s).length≤3*s.length:=Nat.le_trans (wt_len _).1 (wt_dec _ s (Nat.le_refl _))
def nrmL (s:List UInt8):List UInt8:=normL (decL (trimL s))
theorem nrm_len (s:List UInt8) (h:s.length≤6000):(decL (trimL s)).length≤18000∧(nrmL s).length≤18000:=by
 have h1:=trim_len s
 have h2:=dec_len (trimL s)
 have h3:=normL_length (decL (trimL s))
 unfold nrmL
 omega
theorem drive_small (s:List UInt8) (h:s.length≤6000):tkS (driveL (nrmL s))≤90000∧(driveL (nrmL s)).length≤90000:=by
 have h2:tkS (driveL (nrmL s))≤wtL (nrmL s):=Nat.le_trans (join_tkS _) (drvL_wt _ _ (Nat.le_refl _))
 have h3:=(wt_len (nrmL s)).2
 have h4:=(nrm_len s h).2
 refine ⟨by omega,?_⟩
 have h1:=(drv_bd _ (nrmL s) (Nat.le_refl _)).2
 have h5:=jn_len (drvL (nrmL s)) (drvL (nrmL s)).length
 have h6:jn (drvL (nrmL s)) (drvL (nrmL s)).length=driveL (nrmL s):=by unfold jn driveL;rw [List.take_length,join_eq]
 rw [h6] at h5
 omega
set_option maxRecDepth 100000 in
set_option maxHeartbeats 4000000 in
theorem th1_c (s:List UInt8) (v:Value) (hs:s.length≤6000) (p q:Nat) (w:World) (hG:Glob w) (hp:w.cell? ⟨p,0,none⟩=some (fnV 24)) (hq:w.cell? ⟨q,0,none⟩=some (fnV 19)) (hv:Byt s v w) :
  Calls Tryz.prog 75 #[v,.pointer (some ⟨p,0,none⟩),.pointer (some ⟨q,0,none⟩)] w fun e w'=>e = .returned (.string (B (nrmL s)))∧Below w.heap.size w w':=by
 have hl:=nrm_len s hs
 have DE:Hid (∀ W,Below w.heap.size w W→Calls Tryz.prog 19 #[v] W fun e w'=>e = .returned (.string (B (decL (trimL s))))∧Below W.heap.size W w'):=Lib.hid (fun W hb=>decode_b (hv.step hb) hs)
 have NR:Hid (∀ W,Calls Tryz.prog 24 #[.string (B (decL (trimL s)))] W fun e w'=>e = .returned (.string (B (nrmL s)))∧Below W.heap.size W w'):=Lib.hid (fun W=>by
  have:=norm_any (B (decL (trimL s))) W (by rw [size_B];omega)
  rw [B_data] at this
  exact this)
 have HS1:ExI w p q (fnV 24) (fnV 19) w.drew:=⟨⟨hG.step (below_drew (Below.refl _ _)),below_drew (Below.refl _ _)⟩,hp,hq⟩
 have HS2:=Lib.hid HS1
 obtain ⟨a1,h1⟩:∃ a,B (decL (trimL s))=a:=⟨_,rfl⟩
 obtain ⟨a2,h2⟩:∃ a,B (nrmL s)=a:=⟨_,rfl⟩
 rw [h1] at DE NR
 rw [h2] at NR ⊢
 clear h1 h2 hl hs hv hp hq hG HS1
 go_enter Tryz.func75,Tryz.ntmps75
 go_wp2_with fail
 have HS:=HS2.out
 go_region_held3 (fun W=>(Glob W∧Below w.heap.size w W)∧W.cell? ⟨p,0,none⟩=some (.func (.func 24) #[] #[])∧W.cell? ⟨q,0,none⟩=some (.func (.func 19) #[] #[])) (first|with_reducible assumption|with_reducible exact HS|exact ExI.call hb (by with_reducible assumption)) (first | (go_at_call 19;with_reducible refine (DE.out _ (And.right (And.left (by with_reducible assumption:ExI w p q (fnV 24) (fnV 19) _)))).mono ?_;rintro e w' ⟨rfl,hb⟩) | (go_at_call 24;with_reducible refine (NR.out _).mono ?_;rintro e w' ⟨rfl,hb⟩))
 have HB:=And.right (And.left (by with_reducible assumption:ExI w p q (fnV 24) (fnV 19) w'))
 go_wp2_with fail
 go_ret
 exact ⟨rfl,HB⟩
set_option maxRecDepth 100000 in
set_option maxHeartbeats 4000000 in
theorem th3_c (s:List UInt8) (v:Value) (hs:s.length≤6000) (p q p1 q1:Nat) (w:World) (hG:Glob w) (hp:w.cell? ⟨p,0,none⟩=some (fnV 33)) (hq:w.cell? ⟨q,0,none⟩=some (clV 75 p1 q1))
  (hp1:w.cell? ⟨p1,0,none⟩=some (fnV 24)) (hq1:w.cell? ⟨q1,0,none⟩=some (fnV 19)) (hv:Byt s v w) :
  Calls Tryz.prog 77 #[v,.pointer (some ⟨p,0,none⟩),.pointer (some ⟨q,0,none⟩)] w fun e w'=>(∃ v,e = .returned v∧TkV w' v ((driveL (nrmL s)).map ofK))∧Below w.heap.size w w':=by
 have hl:=nrm_len s hs
 have RD:Hid (∀ W,Below w.heap.size w W→Calls Tryz.prog 75 #[v,.pointer (some ⟨p1,0,none⟩),.pointer (some ⟨q1,0,none⟩)] W fun e w'=>e = .returned (.string (B (nrmL s)))∧Below W.heap.size W w'):=Lib.hid (fun W hb =>
  th1_c s v hs p1 q1 W (hG.step hb) ((hb.cell (World.block_lt_of_cell? w _ hp1)).trans hp1) ((hb.cell (World.block_lt_of_cell? w _ hq1)).trans hq1) (hv.step hb))
 have DR:Hid (∀ W,Glob W→Calls Tryz.prog 33 #[.string (B (nrmL s))] W fun e w'=>(∃ v,e = .returned v∧TkV w' v ((driveL (nrmL s)).map ofK))∧Below W.heap.size W w'):=Lib.hid (fun W hG=>(drive_c (nrmL s) (by omega) W hG).mono fun e w' ⟨⟨v,he,hV⟩,hb⟩=>⟨⟨v,he,_,_,hV⟩,hb⟩)
 have HS1:ExI w p q (fnV 33) (clV 75 p1 q1) w.drew:=⟨⟨hG.step (below_drew (Below.refl _ _)),below_drew (Below.refl _ _)⟩,hp,hq⟩
 have HS2:=Lib.hid HS1
 obtain ⟨a1,h1⟩:∃ a,B (nrmL s)=a:=⟨_,rfl⟩
 obtain ⟨L,h2⟩:∃ a,(driveL (nrmL s)).map ofK=a:=⟨_,rfl⟩
 rw [h1] at RD DR
 rw [h2] at DR ⊢
 clear h1 h2 hl hs hv hp hq hp1 hq1 hG HS1
 go_enter Tryz.func77,Tryz.ntmps77
 go_wp2_with fail
 have HS:=HS2.out
 go_region_held3 (fun W=>(Glob W∧Below w.heap.size w W)∧W.cell? ⟨p,0,none⟩=some (.func (.func 33) #[] #[])∧W.cell? ⟨q,0,none⟩=some (.func (.func 75) #[] #[.pointer (some ⟨p1,0,none⟩),.pointer (some ⟨q1,0,none⟩)])) (first|with_reducible assumption|with_reducible exact HS|exact ExI.call hb (by with_reducible assumption)) (first | (go_at_call 75;with_reducible refine (RD.out _ (And.right (And.left (by with_reducible assumption:ExI w p q (fnV 33) (clV 75 p1 q1) _)))).mono ?_;rintro e w' ⟨rfl,hb⟩) | (go_at_call 33;with_reducible refine (DR.out _ (And.left (And.left (by with_reducible assumption:ExI w p q (fnV 33) (clV 75 p1 q1) _)))).mono ?_;rintro e w' ⟨⟨v,rfl,hV⟩,hb⟩))
 have HB:=And.right (And.left (by with_reducible assumption:ExI w p q (fnV 33) (clV 75 p1 q1) w'))
 go_wp2_with fail
 go_ret
 exact ⟨⟨_,rfl,hV⟩,HB⟩
set_option maxRecDepth 100000 in
set_option maxHeartbeats 4000000 in
theorem th2_c (s:List UInt8) (v:Value) (hs:s.length≤6000) (p q p3 q3 p1 q1:Nat) (w:World) (hG:Glob w) (hp:w.cell? ⟨p,0,none⟩=some (fnV 56)) (hq:w.cell? ⟨q,0,none⟩=some (clV 77 p3 q3))
  (hp3:w.cell? ⟨p3,0,none⟩=some (fnV 33)) (hq3:w.cell? ⟨q3,0,none⟩=some (clV 75 p1 q1))
  (hp1:w.cell? ⟨p1,0,none⟩=some (fnV 24)) (hq1:w.cell? ⟨q1,0,none⟩=some (fnV 19)) (hv:Byt s v w) :
  Calls Tryz.prog 76 #[v,.pointer (some ⟨p,0,none⟩),.pointer (some ⟨q,0,none⟩)] w fun e w'=>e = .returned (.string (B (extL s)))∧Below w.heap.size w w':=by
 have hl:=nrm_len s hs
 have RD:Hid (∀ W,Below w.heap.size w W→Calls Tryz.prog 77 #[v,.pointer (some ⟨p3,0,none⟩),.pointer (some ⟨q3,0,none⟩)] W fun e w'=>(∃ v,e = .returned v∧TkV w' v ((driveL (nrmL s)).map ofK))∧Below W.heap.size W w'):=Lib.hid (fun W hb =>
  have cl:∀ {x:Nat} {F:Value},w.cell? ⟨x,0,none⟩=some F→W.cell? ⟨x,0,none⟩=some F:=fun h=>(hb.cell (World.block_lt_of_cell? w _ h)).trans h
  th3_c s v hs p3 q3 p1 q1 W (hG.step hb) (cl hp3) (cl hq3) (cl hp1) (cl hq1) (hv.step hb))
 have RN:Hid (∀ W v,TkV W v ((driveL (nrmL s)).map ofK)→Calls Tryz.prog 56 #[v] W fun e w'=>e = .returned (.string (B (extL s)))∧Below W.heap.size W w'):=Lib.hid (fun W v ⟨b,ok,hV⟩=>render_c (driveL (nrmL s)) (drive_small s hs).1 (drive_small s hs).2 v b ok W hV)
 have HS1:ExI w p q (fnV 56) (clV 77 p3 q3) w.drew:=⟨⟨hG.step (below_drew (Below.refl _ _)),below_drew (Below.refl _ _)⟩,hp,hq⟩
 have HS2:=Lib.hid HS1
 obtain ⟨a1,h1⟩:∃ a,B (extL s)=a:=⟨_,rfl⟩
 obtain ⟨L,h2⟩:∃ a,(driveL (nrmL s)).map ofK=a:=⟨_,rfl⟩
 rw [h2] at RD RN
 rw [h1] at RN ⊢
 clear h1 h2 hl hs hv hp hq hp1 hq1 hp3 hq3 hG HS1
 go_enter Tryz.func76,Tryz.ntmps76
 go_wp2_with fail
 have HS:=HS2.out
 go_region_held3 (fun W=>(Glob W∧Below w.heap.size w W)∧W.cell? ⟨p,0,none⟩=some (.func (.func 56) #[] #[])∧W.cell? ⟨q,0,none⟩=some (.func (.func 77) #[] #[.pointer (some ⟨p3,0,none⟩),.pointer (some ⟨q3,0,none⟩)])) (first|with_reducible assumption|with_reducible exact HS|exact ExI.call hb (by with_reducible assumption)) (first | (go_at_call 77;with_reducible refine (RD.out _ (And.right (And.left (by with_reducible assumption:ExI w p q (fnV 56) (clV 77 p3 q3) _)))).mono ?_;rintro e w' ⟨⟨v,rfl,hV⟩,hb⟩) | (go_at_call 56;refine (RN.out _ _ (by assumption)).mono ?_;rintro e w' ⟨rfl,hb⟩))
 have HB:=And.right (And.left (by with_reducible assumption:ExI w p q (fnV 56) (clV 77 p3 q3) w'))
 go_wp2_with fail
 go_ret
 exact ⟨rfl,HB⟩
theorem then1 (f g:Nat) (P Q:Array Value) (w:World):Calls Tryz.prog 53 #[.func (.func f) #[] P,.func (.func g) #[] Q] w fun e w' =>
  e = .returned (clV 75 (w.heap.size+1) w.heap.size)∧w'=(w.alloc (.cells #[.func (.func f) #[] P] 26)).alloc (.cells #[.func (.func g) #[] Q] 29):=by
 go_enter Tryz.func53,Tryz.ntmps53
 go_wp2
 go_ret
 exact ⟨rfl,rfl⟩
theorem then3 (f g:Nat) (P Q:Array Value) (w:World):Calls Tryz.prog 55 #[.func (.func f) #[] P,.func (.func g) #[] Q] w fun e w' =>
  e = .returned (clV 77 (w.heap.size+1) w.heap.size)∧w'=(w.alloc (.cells #[.func (.func f) #[] P] 26)).alloc (.cells #[.func (.func g) #[] Q] 43):=by
 go_enter Tryz.func55,Tryz.ntmps55
 go_wp2
 go_ret
 exact ⟨rfl,rfl⟩
theorem then2 (f g:Nat) (P Q:Array Value) (w:World):Calls Tryz.prog 54 #[.func (.func f) #[] P,.func (.func g) #[] Q] w fun e w' =>
  e = .returned (clV 76 (w.heap.size+1) w.heap.size)∧w'=(w.alloc (.cells #[.func (.func f) #[] P] 72)).alloc (.cells #[.func (.func g) #[] Q] 74):=by
 go_enter Tryz.func54,Tryz.ntmps54
 go_wp2
 go_ret
 exact ⟨rfl,rfl⟩
theorem cell_lay {W:World} {b:Nat} {x:Value} (o:Obj) (h:W.cell? ⟨b,0,none⟩=some x):(W.alloc o).cell? ⟨b,0,none⟩=some x:=(World.cell?_of_block (heap_alloc_old W o (World.block_lt_of_cell? W _ h))).trans h
set_option maxRecDepth 100000 in
set_option maxHeartbeats 4000000 in
theorem extract_c (s:List UInt8) (v:Value) (hs:s.length≤6000) (w:World) (hG:Glob w) (hv:Byt s v w) :
  Calls Tryz.prog 28 #[v] w fun e w'=>e = .returned (.string (B (extL s)))∧Below w.heap.size w w':=by
 obtain ⟨W1,h1⟩:∃ W,(w.alloc (.cells #[fnV 19] 26)).alloc (.cells #[fnV 24] 29)=W:=⟨_,rfl⟩
 obtain ⟨W2,h2⟩:∃ W,(W1.alloc (.cells #[clV 75 (w.heap.size+1) w.heap.size] 26)).alloc (.cells #[fnV 33] 43)=W:=⟨_,rfl⟩
 obtain ⟨W3,h3⟩:∃ W,(W2.alloc (.cells #[clV 77 (W1.heap.size+1) W1.heap.size] 72)).alloc (.cells #[fnV 56] 74)=W:=⟨_,rfl⟩
 have C1:=then1 19 24 #[] #[] w
 rw [h1] at C1
 have C2:=then3 75 33 #[.pointer (some ⟨w.heap.size+1,0,none⟩),.pointer (some ⟨w.heap.size,0,none⟩)] #[] W1
 rw [h2] at C2
 have C3:=then2 77 56 #[.pointer (some ⟨W1.heap.size+1,0,none⟩),.pointer (some ⟨W1.heap.size,0,none⟩)] #[] W2
 rw [h3] at C3
 have b1:Below w.heap.size w W1:=by rw [← h1];exact (below_alloc (Below.refl _ _) _).alloc (by simp) _
 have b2:Below W1.heap.size W1 W2:=by rw [← h2];exact (below_alloc (Below.refl _ _) _).alloc (by simp) _
 have b3:Below W2.heap.size W2 W3:=by rw [← h3];exact (below_alloc (Below.refl _ _) _).alloc (by simp) _
 have new:∀ (W:World) (x:Value) (t:TypeId),(W.alloc (.cells #[x] t)).cell? ⟨W.heap.size,0,none⟩=some x:=fun W x t=>World.cell?_alloc_at _ t _ 0 rfl
 have s1:=new w (fnV 19) 26
 have s2:W1.cell? ⟨w.heap.size,0,none⟩=some (fnV 19):=by rw [← h1];exact cell_lay _ s1
 have s3:W1.cell? ⟨w.heap.size+1,0,none⟩=some (fnV 24):=by
  rw [← h1];have:=new (w.alloc (.cells #[fnV 19] 26)) (fnV 24) 29
  simpa only [World.size_alloc] using this
 have s4:W2.cell? ⟨W1.heap.size,0,none⟩=some (clV 75 (w.heap.size+1) w.heap.size):=by rw [← h2];exact cell_lay _ (new _ _ _)
 have s5:W2.cell? ⟨W1.heap.size+1,0,none⟩=some (fnV 33):=by
  rw [← h2];have:=new (W1.alloc (.cells #[clV 75 (w.heap.size+1) w.heap.size] 26)) (fnV 33) 43
  simpa only [World.size_alloc] using this
 have s6:W3.cell? ⟨W2.heap.size,0,none⟩=some (clV 77 (W1.heap.size+1) W1.heap.size):=by rw [← h3];exact cell_lay _ (new _ _ _)
 have s7:W3.cell? ⟨W2.heap.size+1,0,none⟩=some (fnV 56):=by
  rw [← h3];have:=new (W2.alloc (.cells #[clV 77 (W1.heap.size+1) W1.heap.size] 72)) (fnV 56) 74
  simpa only [World.size_alloc] using this
 have up12:∀ {x:Nat} {F:Value},W1.cell? ⟨x,0,none⟩=some F→W2.cell? ⟨x,0,none⟩=some F:=fun h=>(b2.cell (World.block_lt_of_cell? W1 _ h)).trans h
 have up23:∀ {x:Nat} {F:Value},W2.cell? ⟨x,0,none⟩=some F→W3.cell? ⟨x,0,none⟩=some F:=fun h=>(b3.cell (World.block_lt_of_cell? W2 _ h)).trans h
 have hB3:Below w.heap.size w W3:=(b1.trans (b2.mono b1.size)).trans (b3.mono (Nat.le_trans b1.size b2.size))
 have C4:=th2_c s v hs (W2.heap.size+1) W2.heap.size (W1.heap.size+1) W1.heap.size (w.heap.size+1) w.heap.size W3 (hG.step hB3) s7 s6 (up23 s5) (up23 s4) (up23 (up12 s3)) (up23 (up12 s2)) (hv.step hB3)
 replace C1:=Lib.hid C1
 replace C2:=Lib.hid C2
 replace C3:=Lib.hid C3
 replace C4:=Lib.hid C4
 have HB:=Lib.hid hB3
 obtain ⟨a,ha⟩:∃ a,B (extL s)=a:=⟨_,rfl⟩
 rw [ha] at C4 ⊢
 clear h1 h2 h3 b1 b2 b3 new s1 s2 s3 s4 s5 s6 s7 up12 up23 hB3 ha hs hG hv
 go_enter Tryz.func28,Tryz.ntmps28
 go_wp2_with fail
 refine C1.out.mono ?_
 rintro e w1 ⟨rfl,rfl⟩
 go_wp2_with fail
 refine C2.out.mono ?_
 rintro e w2 ⟨rfl,rfl⟩
 go_wp2_with fail
 refine C3.out.mono ?_
 rintro e w3 ⟨rfl,rfl⟩
 go_wp2_with fail
 refine C4.out.mono ?_
 rintro e w4 ⟨rfl,hb⟩
 have HB4:=Lib.hid (HB.out.trans (hb.mono HB.out.size))
 clear hb C1 C2 C3 C4
 go_wp2_with fail
 go_ret
 exact ⟨rfl,HB4.out⟩
end Go.Proofs.YtcecjoaeolglbaaGreatDoor.Hand
end

section
namespace Go.Proofs.YtcecjoaeolglbaaGreatDoor.RowKit
open Go
def R:OpenClaim:=Rows.contextReadsRow
theorem p2:laidOutB Tryz.prog=true:=by kernel_rfl
theorem p3:mapsRowed Tryz.prog=true:=by kernel_rfl
theorem p7:(Tryz.prog.stops == [])=true:=by kernel_rfl
theorem p9:(Tryz.prog.stopKnobs == [])=true:=by kernel_rfl
theorem p23:(R.plainKeys == Tryz.prog.plainKeys)=true:=by kernel_rfl
theorem p25:Tryz.prog.stopsHeard=true:=by kernel_rfl
theorem p26:Tryz.prog.mayEnter=true:=by kernel_rfl
theorem p27:(R.lifted == Tryz.prog.liftsFinal)=true:=by kernel_rfl
theorem p28:(Tryz.prog.make == some R.make)=true:=by kernel_rfl
theorem looks_is:Tryz.prog.looks []=Rows.contextReadsCard.stood.looks:=by kernel_rfl
theorem main_is:Tryz.prog.mainIs=some (Rows.contextReadsCard.stood.harness.1,Rows.contextReadsCard.stood.harness.2.toList):=by kernel_rfl
end Go.Proofs.YtcecjoaeolglbaaGreatDoor.RowKit
end

section
namespace Go.Proofs.YtcecjoaeolglbaaGreatDoor.RowKit
open Go Go.RowKit
theorem out_of_shape {W:World} (h:W.ShapedOpen Tryz.prog):∃ m,W.cell? ⟨0,0,none⟩=some (.int .i64 m) :=
 Go.Proofs.cell_of_shapedOpen_int (zero := #[.int .i64 0]) (t:=3) h (of_decide_eq_true (by kernel_rfl)) (by kernel_rfl) rfl (by kernel_rfl) (by kernel_rfl) Tryz.underlying3
theorem laid_mem {P:Program} {w:World} {n:String} {d:DataW Unit}:∀ {l:List (String×DataW Unit)} {ps:List MemPlace},DataW.LaidVars P w l ps→(n,d)∈l →
  ∃ g t cs fuel p,P.globalNamed n=some g∧(P.globals[g]?).map (·.type)=some t∧w.var? P n=some cs∧DataW.trod (fun _=>()) P w 0 (fun _=>true) false fuel t cs.toList=some (d,p)
 | [],_,_,hm=>by cases hm
 | (m,e)::r,ps,h,hm=>by
   obtain ⟨g,t,cs,fuel,p,q,h1,h2,h3,h4,h5,_⟩:=h
   rcases List.mem_cons.1 hm with h'|h'
   · obtain ⟨rfl,rfl⟩:=Prod.mk.inj h'
     exact ⟨g,t,cs,fuel,p,h1,h2,h3,h4⟩
   · exact laid_mem h5 h'
theorem globE_of_laid {W:World} {laid:List (String×DataW Unit)} {nm:String} {d:DataW Unit} (h:laidMetH Tryz.prog laid W) (hp:(laid.all fun x=>x.2.handleName?.isNone)=true)
  (hm:("strconv.ErrSyntax",DataW.iface nm d)∈laid):Hand.GlobE W:=by
 rw [MakeChecks.laidMetH_plain _ _ _ hp] at h
 obtain ⟨ps,hl,_⟩:=h
 obtain ⟨g,t,cs,fuel,p,h1,h2,h3,h4⟩:=laid_mem hl hm
 have hg:Tryz.prog.globalNamed "strconv.ErrSyntax" = some 3:=by kernel_rfl
 obtain rfl:3=g:=Option.some.inj (hg.symm.trans h1)
 have ht:(Tryz.prog.globals[3]?).map (·.type)=some 59:=by kernel_rfl
 obtain rfl:59=t:=Option.some.inj (ht.symm.trans h2)
 obtain ⟨_,u,v,hc,_,_⟩:=iface_of_trod Tryz.underlying59 h4
 have hcell:=var?_cell h1 h3 0
 have hcs:cs = #[.iface u v]:=by cases cs;simpa using hc
 rw [hcs] at hcell
 exact ⟨_,hcell,.inr ⟨u,v,rfl⟩⟩
theorem glob_of_laid {W:World} (hs:W.ShapedOpen Tryz.prog) {laid:List (String×DataW Unit)} {nm:String} {d:DataW Unit} (h:laidMetH Tryz.prog laid W) (hp:(laid.all fun x=>x.2.handleName?.isNone)=true)
 (hm:("strconv.ErrSyntax",DataW.iface nm d)∈laid):Hand.Glob W:=⟨out_of_shape hs,(globE_of_laid h hp hm).out⟩
section
variable {H : Type} {enc : TypeId × Value → H}
theorem handed_and_shaped {a:Assume} {C:Checked} {os:Os} {f:FuncId} {fn:Func} {s:ChangeSpec} {conds:List PathCond} {apart fresh handsOn again:Bool} {X:World→Array Value→Prop}
  (hX:∀ (w w':World) (args:Array Value),w.heap=w'.heap→X w args→X w' args)
  (own:ownKnob C.prog.godebug=none) (started:os.Started) (noInit:C.prog.inits.idxOf? f=none) (hfn:C.prog.funcs[f]? = some fn)
  (witness:∃ (w:World) (tape:Tape) (i:Input),w.os=os∧(w.forCall tape i).Shaped C.prog∧i.vars=[]∧Input.okWide C.prog (w.forCall tape i) .any w.heap.size f i ∧
    ((s.pre enc C.prog fn conds apart (w.forCall tape i).memory i.args∧X (w.forCall tape i).memory i.args)∧sizedMet enc C.prog fn (OpenSpec.ofChange s) apart (w.forCall tape i).memory i.args) ∧
    a.holds C.prog (lone (Frame.enter C.prog f i.args .normal) [] (w.forCall tape i)))
  (contract:∀ (W:World) (base:Nat) (args:Array Value) (ds gs:List (DataW H)) (before:List MemPlace),
    (∀ (j:Nat) t v,fn.params[j]? = some t→args[j]? = some v→Value.okWide C.prog W .any base t v) →
    DataW.Whole enc C.prog fn.params.toList s.vars apart W args.toList ds gs before →
    (DataW.weightsEach C.prog (fn.params.toList++s.plain.varTypes C.prog) (ds++gs)).all (· ≤ reachBytes)=true→X W args→W.ShapedOpen C.prog →
    Calls C.prog f args W fun e W' => ∃ v,e = .returned v∧s.post enc C.prog fn apart fresh handsOn again W args v W') :
  ReturnsInHanded a C os f .any (fun w args=>(s.pre enc C.prog fn conds apart w args∧X w args)∧sizedMet enc C.prog fn (OpenSpec.ofChange s) apart w args) (s.post enc C.prog fn apart fresh handsOn again):=by
 refine returnsInHanded_of_calls own started noInit witness ?_
 intro w tape i _ hsh _ hok hpre _
 obtain ⟨_,_,_,fn',hfn',_,_,_,_,hval⟩:=hok
 have e:fn'=fn:=Option.some.inj (hfn'.symm.trans hfn)
 subst e
 obtain ⟨⟨⟨ds,gs,before,hw,_⟩,hx⟩,hz⟩:=hpre
 have hw':=DataW.Whole.of_heap (w':=w.forCall tape i) (by rfl) hw
 refine (contract (w.forCall tape i) w.heap.size i.args ds gs before hval hw' (hz.weights hw) (hX _ _ _ (by rfl) hx) hsh).mono fun e W' ⟨v,he,hp⟩ => ?_
 subst he
 exact ChangeSpec.post_blind hp
end
theorem joined {f:FuncId} {fn:Func} {s:ChangeSpec} {c:OpenClaim}
  (k1:c.wf (OpenSpec.ofChange s)=true) (k4:(fn.params.all (Tryz.prog.readableRec ·))=true) (k5:namedTie Tryz.prog c.named s.vars=true) (k6:(c.stops == [])=true) (k8:(c.knobs == [])=true)
  (k10:(c.inPlace == Tryz.prog.inPlace f)=true) (k11:(c.unfollowed == Tryz.prog.unfollowed f)=true) (k12:(c.recurses == Tryz.prog.recurses f)=true) (k13:(c.named == Tryz.prog.varsNamed f)=true)
  (k14:(c.maps == (fn.params.toList++s.plain.varTypes Tryz.prog).any (Tryz.prog.mapsRec ·))=true) (k15:(c.ifaces == (fn.params.toList++s.plain.varTypes Tryz.prog).any (Tryz.prog.ifacesRec ·))=true) (k16:(c.mapsOut == Tryz.prog.mapsAmong fn.resultTypes.toList)=true)
  (k17:(c.loops == (fn.params.toList++s.plain.varTypes Tryz.prog).any (Tryz.prog.loopsFrom ·))=true) (k18:(c.wideKeys == (fn.params.toList++s.plain.varTypes Tryz.prog++fn.resultTypes.toList).any (Tryz.prog.wideKeysFrom ·))=true)
  (k19:s.vars.all (Tryz.prog.varReadable ·)=true) (k20:fn.resultTypes.all (fun t=>Tryz.prog.readableRec t&&decide (t<Tryz.prog.types.size))=true) (k21:(c.ifacesOut == fn.resultTypes.toList.any (Tryz.prog.ifacesRec ·))=true) (k22:(c.loopsOut == fn.resultTypes.toList.any (Tryz.prog.loopsFrom ·))=true)
  (k23:c.plainKeys=R.plainKeys) (k24:c.shortTexts.isNone=true) (k27:c.lifted=R.lifted) (k28:c.make=R.make)
  (k29:c.domain=[]) (k29':c.kinds=[]) (k30:(c.pinned == c.pinnedBy)=true)
  (k31:(c.veiled == (fn.params.toList++s.plain.varTypes Tryz.prog++fn.resultTypes.toList).any (Tryz.prog.veiledRec ·))=true) (k32:c.veiledFits Tryz.prog fn.params.toList (fn.params.toList++s.plain.varTypes Tryz.prog++fn.resultTypes.toList)=true) :
  joinedFacts Tryz.prog f fn s c=true:=by
 have e23:(c.plainKeys == Tryz.prog.plainKeys)=true:=by rw [k23];exact p23
 have e27:(c.lifted == Tryz.prog.liftsFinal)=true:=by rw [k27];exact p27
 have e28:(Tryz.prog.make == some c.make)=true:=by rw [k28];exact p28
 unfold joinedFacts
 rw [k1,p2,p3,k4,k5,k6,p7,k8,p9,k10,k11,k12,k13,k14,k15,k16,k17,k18,k19,k20,k21,k22,e23,k24,p25,p26,e27,e28,k29,k29',k30,k31,k32]
 rfl
end Go.Proofs.YtcecjoaeolglbaaGreatDoor.RowKit
end
