/-
  Texts that several claims of this seat share, merged by a program of this session (7).
-/
import Derived.Laws.Rows
import Derived.Deep.DeepCutAuto
import Derived.Deep.OwnRows
import Derived.LoopN
import Derived.Lib.AppendStr
import Derived.OneCell
import Derived.Deep.RegionWith
import Derived.Deep.RegionHeld3
import Derived.Laws.MakeOwn
import Derived.JoinedOf
import Derived.KernelRfl
import Derived.SevenTiedAt
import Derived.Test.YtclkdmmgibgamaaGreatDoorRows
import Derived.Test.YtclkdmmgibgamaaGreatDoorCards
import Derived.ProofKit
import Derived.Handed
import Derived.SizedLaws
import Derived.LaidMore
import Derived.Lay
import Derived.LaidLaws
import Derived.ChangeBears2
import Derived.MakeChecks
import Derived.Shelf.Vars
import Derived.Stop.Joined
import Derived.Test.YtclkdmmgibgamaaGreatDoorZuf
set_option linter.unusedVariables false
set_option linter.unusedSimpArgs false
set_option maxRecDepth 100000
set_option maxHeartbeats 16000000
namespace Go.Proofs.YtclkdmmgibgamaaGreatDoor
section
namespace Hand
open Go.RowKit Pb
def usedB (l:List UInt8) (x:Nat):Bool:=l.any fun c=>c.toNat == x
def cntU (l:List UInt8):Nat→Nat
 | 0=>0
 | x+1=>cntU l x+if usedB l x=true then 1 else 0
theorem cnt_le (l:List UInt8):∀ x,cntU l x≤x:=by
 intro x
 induction x with
 | zero=>exact Nat.le_refl _
 | succ x ih=>simp only [cntU];split<;>omega
theorem cnt_mono (l:List UInt8) {x y:Nat} (h:x≤y):cntU l x≤cntU l y:=by
 induction h with
 | refl=>exact Nat.le_refl _
 | step h ih=>exact Nat.le_trans ih (by simp only [cntU];omega)
theorem cnt_lt (l:List UInt8) {x y:Nat} (hu:usedB l x=true) (h:x<y):cntU l x<cntU l y:=by
 have:=cnt_mono l (show x+1≤y from h)
 simp only [cntU,hu,if_true] at this
 omega
theorem used_append (l:List UInt8) (c:UInt8) (x:Nat):usedB (l++[c]) x=(usedB l x || c.toNat == x):=by simp [usedB]
def u8v (b:Bool):Value:=.int .u8 (if b=true then 1 else 0)
def rootF (l:List UInt8) (ts:Int) (j:Nat):Value :=
 if j=0 then .string ⟨#[]⟩ else if j=1 then .int .i64 0 else if j=2 then .string ⟨#[]⟩ else if j=3 then .pointer none else if j=4 then .slice none 0 0 else if j=5 then .int .i64 ts
 else u8v (usedB l (j - 6))
def zero82:Array Value := #[.string ⟨#[]⟩,.int .i64 0,.string ⟨#[]⟩,.pointer none,.slice none 0 0,.int .i64 0]++Array.replicate 256 (.int .u8 0)
theorem zero82_at (j:Nat) (h:j<262):zero82[j]? = some (rootF [] 0 j):=by
 by_cases h6:j<6
 ·have:j=0∨j=1∨j=2∨j=3∨j=4∨j=5:=by omega
  unfold zero82
  rw [Array.getElem?_append_left (by simpa using h6)]
  rcases this with rfl|rfl|rfl|rfl|rfl|rfl<;>rfl
 ·unfold zero82
  rw [Array.getElem?_append_right zu25]
  have:rootF [] 0 j = .int .u8 0:=by
   unfold rootF
   rw [if_neg zu4,if_neg zu4,if_neg zu4,if_neg zu4,if_neg zu4,if_neg zu4]
   rfl
  rw [this,Array.getElem?_replicate,if_pos zu25]
theorem zero82_is:∀ w,(zeroValue 241).run Tryz.prog w = .ok (.agg zero82) w:=fun _=>by kernel_rfl
def flatKV (kv:List (List UInt8×ByteArray)):List ByteArray:=kv.flatMap fun x=>[B x.1,x.2]
theorem flatKV_length (kv:List (List UInt8×ByteArray)):(flatKV kv).length=2*kv.length:=by
 induction kv with
 | nil=>rfl
 | cons x r ih =>
   have:flatKV (x::r)=B x.1::x.2::flatKV r:=rfl
   rw [this];simp;omega
theorem flatKV_key (kv:List (List UInt8×ByteArray)):∀ q (h:q<kv.length),(flatKV kv)[2*q]? = some (B kv[q].1):=by
 induction kv with
 | nil=>intro q h;simp at h
 | cons x r ih =>
   intro q h
   have:flatKV (x::r)=B x.1::x.2::flatKV r:=rfl
   rw [this]
   cases q with
   | zero=>rfl
   | succ q=>rw [show 2*(q+1)=2*q+1+1 by omega,List.getElem?_cons_succ,List.getElem?_cons_succ];exact ih q zu46
theorem flatKV_val (kv:List (List UInt8×ByteArray)):∀ q (h:q<kv.length),(flatKV kv)[2*q+1]? = some kv[q].2:=by
 induction kv with
 | nil=>intro q h;simp at h
 | cons x r ih =>
   intro q h
   have:flatKV (x::r)=B x.1::x.2::flatKV r:=rfl
   rw [this]
   cases q with
   | zero=>rfl
   | succ q=>rw [show 2*(q+1)+1=2*q+1+1+1 by omega,List.getElem?_cons_succ,List.getElem?_cons_succ];exact ih q zu46
def strV (l:List ByteArray) (j:Nat):Value:=.string (l.getD j ⟨#[]⟩)
theorem strV_at {l:List ByteArray} {j:Nat} {s:ByteArray} (h:l[j]? = some s):strV l j = .string s:=by
 unfold strV;rw [List.getD_eq_getElem?_getD,h];rfl
def keysU (kv:List (List UInt8×ByteArray)) (q:Nat):List UInt8:=(kv.take q).flatMap fun x=>x.1
theorem keysU_succ (kv:List (List UInt8×ByteArray)) (q:Nat) (h:q<kv.length):keysU kv (q+1)=keysU kv q++kv[q].1:=by
 unfold keysU
 rw [List.take_succ_eq_append_getElem h,List.flatMap_append]
 simp
theorem rootF_mark (l:List UInt8) (c:UInt8) (ts:Int) (j:Nat):upd (rootF l ts) (6+c.toNat) (.int .u8 1) j=rootF (l++[c]) ts j:=by
 by_cases h:j=6+c.toNat
 ·subst h
  rw [upd_same]
  unfold rootF
  rw [if_neg zu4,if_neg zu4,if_neg zu4,if_neg zu4,if_neg zu4,if_neg zu4,used_append]
  simp [u8v]
 ·rw [upd_ne _ _ h]
  unfold rootF
  by_cases h6:j<6
  ·have:j=0∨j=1∨j=2∨j=3∨j=4∨j=5:=by omega
   rcases this with rfl|rfl|rfl|rfl|rfl|rfl<;>rfl
  ·have e:(c.toNat == j - 6)=false:=by rw [beq_eq_false_iff_ne];omega
   rw [used_append,e,Bool.or_false]
theorem rootF_map (l:List UInt8) (ts:Int) (k:Nat):rootF l ts (6+k)=u8v (usedB l k):=by
 unfold rootF
 rw [if_neg zu4,if_neg zu4,if_neg zu4,if_neg zu4,if_neg zu4,if_neg zu4,Nat.add_sub_cancel_left]
theorem rootF_5 (l:List UInt8) (ts:Int):rootF l ts 5 = .int .i64 ts:=rfl
theorem rootF_sz (l:List UInt8) (ts ts':Int) (j:Nat):upd (rootF l ts) 5 (.int .i64 ts') j=rootF l ts' j:=by
 unfold upd
 by_cases h:j=5
 ·subst h;rw [if_pos rfl];rfl
 ·rw [if_neg h];unfold rootF;rw [if_neg h,if_neg h]
def mapV (l:List UInt8) (ts x:Nat):Value:=.int .u8 ((if usedB l x=true then cntU l x else ts:Nat):Int)
def mapF (l:List UInt8) (ts k j:Nat):Value:=if j<6 then rootF l ts j else if j - 6<k then mapV l ts (j - 6) else u8v (usedB l (j - 6))
theorem mapF_5 (l:List UInt8) (ts k:Nat):mapF l ts k 5 = .int .i64 (ts:Int):=rfl
theorem mapF_4 (l:List UInt8) (ts k:Nat):mapF l ts k 4 = .slice none 0 0:=rfl
theorem info_node:(Tryz.prog.info? 236).map (fun i=>(i.zero,i.size,i.bytes))=some (some (.pointer none),1,8):=by kernel_rfl
def replF (l:List UInt8) (ts bt:Nat):Nat→Value:=upd (mapF l ts 256) 4 (.slice (some ⟨bt,0,none⟩) ts ts)
theorem replF_1 (l:List UInt8) (ts bt:Nat):replF l ts bt 1 = .int .i64 0:=rfl
theorem replF_4 (l:List UInt8) (ts bt:Nat):replF l ts bt 4 = .slice (some ⟨bt,0,none⟩) ts ts:=rfl
theorem replF_5 (l:List UInt8) (ts bt:Nat):replF l ts bt 5 = .int .i64 (ts:Int):=rfl
theorem replF_map (l:List UInt8) (ts bt x:Nat) (h:x<256):replF l ts bt (6+x)=mapV l ts x:=by
 unfold replF
 rw [upd_ne _ _ zu4]
 unfold mapF
 rw [if_neg zu4,if_pos zu4,Nat.add_sub_cancel_left]
structure TrieSt (n br bt lo ts:Nat) (U:List UInt8) (kv:List (List UInt8×ByteArray)) (q:Nat) (w W:World):Prop where
 root:BlkF br 262 (replF U ts bt) W
 tab:∃ T,BlkF bt ts T W∧(∀ j (h:j<kv.length),j<q→∀ c t,kv[j].1=c::t→∃ (b:Nat) (p:Int),0<p∧T (cntU U c.toNat) = .pointer (some ⟨b,0,none⟩)∧NodeAt lo b t kv[j].2 p W) ∧
  (∀ x,x<ts→(∀ j (h:j<kv.length),j<q→∀ c t,kv[j].1=c::t→cntU U c.toNat≠x)→T x = .pointer none)
 below:Below n w W
 size:lo≤W.heap.size
theorem NodeAt.mono {lo lo' b:Nat} {t:List UInt8} {v:ByteArray} {p:Int} {W:World} (h:NodeAt lo b t v p W) (hl:lo'≤lo):NodeAt lo' b t v p W:=by
 obtain ⟨h1,h2,h3⟩:=h
 refine ⟨zu4,h2,?_⟩
 rcases h3 with h3|⟨ht,b2,h4,h5⟩
 ·exact .inl h3
 ·exact .inr ⟨ht,b2,zu4,h5⟩
theorem used_of {kv:List (List UInt8×ByteArray)} {j:Nat} {c:UInt8} {t:List UInt8} (h:j<kv.length) (e:kv[j].1=c::t):usedB (keysU kv kv.length) c.toNat=true:=by
 unfold usedB keysU
 rw [List.take_length,List.any_eq_true]
 exact ⟨c,List.mem_flatMap.2 ⟨kv[j],List.getElem_mem h,by rw [e];simp⟩,zu19⟩
theorem cnt_inj {l:List UInt8} {x y:Nat} (hx:usedB l x=true) (hy:usedB l y=true) (h:x≠y):cntU l x≠cntU l y:=by
 rcases Nat.lt_or_gt_of_ne h with h|h
 ·have:=cnt_lt l hx h;omega
 ·have:=cnt_lt l hy h;omega
def Heads (kv:List (List UInt8×ByteArray)):Prop:=(∀ x∈kv,x.1≠[])∧∀ i j (hi:i<kv.length) (hj:j<kv.length),i≠j→kv[i].1.head? ≠ kv[j].1.head?
theorem Heads.ne {kv:List (List UInt8×ByteArray)} (h:Heads kv) {i j:Nat} (hi:i<kv.length) (hj:j<kv.length) (hne:i≠j) {c d:UInt8} {t u:List UInt8} (e:kv[i].1=c::t) (f:kv[j].1=d::u):c.toNat≠d.toNat:=by
 intro he
 have:=h.2 i j hi hj hne
 rw [e,f] at this
 exact this (by rw [UInt8.toNat_inj.1 he];rfl)
theorem TrieSt.fresh {n br bt lo ts q:Nat} {kv:List (List UInt8×ByteArray)} {w W:World} (h:TrieSt n br bt lo ts (keysU kv kv.length) kv q w W) (hh:Heads kv) (hq:q<kv.length) {c:UInt8} {t:List UInt8} (e:kv[q].1=c::t)
  {T:Nat→Value} (hE:∀ x,x<ts→(∀ j (h:j<kv.length),j<q→∀ c t,kv[j].1=c::t→cntU (keysU kv kv.length) c.toNat≠x)→T x = .pointer none) (hm:cntU (keysU kv kv.length) c.toNat<ts):T (cntU (keysU kv kv.length) c.toNat) = .pointer none :=
 hE _ hm fun j hj hjq d u f=>cnt_inj (used_of hj f) (used_of hq e) (hh.ne hj hq zu4 f e)
theorem TrieSt.next {n br bt lo ts q b:Nat} {kv:List (List UInt8×ByteArray)} {w W W':World} {p:Int} (h:TrieSt n br bt lo ts (keysU kv kv.length) kv q w W) (hh:Heads kv) (hq:q<kv.length) {c:UInt8} {t:List UInt8} (e:kv[q].1=c::t)
  {T:Nat→Value} (hN:∀ j (h:j<kv.length),j<q→∀ c t,kv[j].1=c::t→∃ (b:Nat) (p:Int),0<p∧T (cntU (keysU kv kv.length) c.toNat) = .pointer (some ⟨b,0,none⟩)∧NodeAt lo b t kv[j].2 p W)
  (hE:∀ x,x<ts→(∀ j (h:j<kv.length),j<q→∀ c t,kv[j].1=c::t→cntU (keysU kv kv.length) c.toNat≠x)→T x = .pointer none) (hp:0<p) (hbt:bt<lo) (hbr:br<W.heap.size) (hne:br≠bt)
  (hT':BlkF bt ts (upd T (cntU (keysU kv kv.length) c.toNat) (.pointer (some ⟨b,0,none⟩))) W') (hB:NodeAt W.heap.size b t kv[q].2 p W') (hU:But n bt W W'):TrieSt n br bt lo ts (keysU kv kv.length) kv (q+1) w W':=by
 refine ⟨hU.blkF h.root hbr hne,⟨_,hT',?_,?_⟩,h.below.trans hU.below,Nat.le_trans h.size hU.below.size⟩
 ·intro j hj hjq d u f
  by_cases hjq':j=q
  ·subst hjq'
   rw [e] at f
   obtain ⟨rfl,rfl⟩:=List.cons.inj f
   exact ⟨b,p,hp,upd_same _ _ _,hB.mono h.size⟩
  ·obtain ⟨b',p',h1,h2,h3⟩:=hN j hj zu4 d u f
   exact ⟨b',p',h1,by rw [upd_ne _ _ (cnt_inj (used_of hj f) (used_of hq e) (hh.ne hj hq hjq' f e))];exact h2,h3.but hU hbt⟩
 ·intro x hx hxe
  have hxm:x≠cntU (keysU kv kv.length) c.toNat:=fun e'=>hxe q hq zu4 c t e e'.symm
  rw [upd_ne _ _ hxm]
  exact hE x hx fun j hj hjq=>hxe j hj zu4
theorem made_at (n j:Nat) (h:j<n):(madeCells #[Value.pointer none] n)[j]? = some (.pointer none):=by
 unfold madeCells
 rw [Array.getElem?_map,Array.getElem?_range,if_pos h]
 simp [Nat.mod_one]
theorem mapF_zero (l:List UInt8) (ts j:Nat):rootF l ts j=mapF l ts 0 j:=by
 unfold mapF
 by_cases h:j<6
 ·rw [if_pos h]
 ·rw [if_neg h,if_neg zu4]
  obtain ⟨k,rfl⟩:∃ k,j=6+k:=⟨j - 6,zu4⟩
  rw [rootF_map,Nat.add_sub_cancel_left]
theorem mapF_step (l:List UInt8) (ts k j:Nat):upd (mapF l ts k) (6+k) (mapV l ts k) j=mapF l ts (k+1) j:=by
 by_cases h:j=6+k
 ·subst h
  rw [upd_same]
  unfold mapF
  rw [if_neg zu4,if_pos zu4,Nat.add_sub_cancel_left]
 ·rw [upd_ne _ _ h]
  unfold mapF
  by_cases h6:j<6
  ·rw [if_pos h6,if_pos h6]
  ·rw [if_neg h6,if_neg h6]
   by_cases hk:j - 6<k
   ·rw [if_pos hk,if_pos zu4]
   ·rw [if_neg hk,if_neg zu4]
section
variable {P : Program}
theorem wpList_load_by {ops:Array Oper} {rest:List Oper} {o:Oper} {a:Act} {w:World} {Q:Exit→Act→World→Prop} (hgd:o.guard=none) (ty:TypeId) (x:Operand) (ho:o.op = .load ty x)
  (adr:Addr) (v:Value) (hx:a.eval x = .pointer (some adr)) (hrun:(loadVar ty adr).run P w = .ok v w) (h:wpList P ops Q rest (a.put o.dst v) w):wpList P ops Q (o::rest) a w :=
 wpList_plain hgd fun _ hK=>by
  unfold Oper.wp execOp
  simp only [ho,hx,Instr.loadAt,Instr.sureAddr,Sem.run_bind,Sem.run_pure,Result.andThen_ok,hrun]
  exact hK _ _ h
end
def arrF (f:Nat→Value) (o:Nat):Array Value:=Array.ofFn (n:=256) fun i=>f (o+i.val)
theorem arrF_at (f:Nat→Value) (o j:Nat) (h:j<256):(arrF f o)[j]? = some (f (o+j)):=by
 unfold arrF;rw [Array.getElem?_ofFn,dif_pos h]
theorem load256 {b n o:Nat} {f:Nat→Value} {W:World} (h:BlkF b n f W) (ho:o+256≤n):(loadVar 211 ⟨b,o,none⟩).run Tryz.prog W = .ok (.agg (arrF f o)) W:=by
 have hl:(loadCells ⟨b,o,none⟩ (arrF f o).toList.length).run Tryz.prog W = .ok (arrF f o).toList.toArray W :=
  run_loadCells_list (P:=Tryz.prog) W ⟨b,o,none⟩ (arrF f o).toList (fun j v hv=>by
   have hadd:(⟨b,o,none⟩:Addr).add j=⟨b,o+j,none⟩:=by unfold Addr.add;split<;>simp_all
   have hj:j<256:=by
    rcases Nat.lt_or_ge j 256 with h'|h'
    ·exact h'
    ·rw [List.getElem?_eq_none (by unfold arrF;rw [Array.length_toList,Array.size_ofFn];exact h')] at hv;cases hv
   rw [Array.getElem?_toList,arrF_at f o j hj] at hv
   rw [hadd,h.cell (o+j) zu4,← hv])
 have hagg:(isAgg 211).run Tryz.prog W = .ok true W:=by
  unfold isAgg
  rw [Sem.run_bind,run_underlying Tryz.underlying211 W]
  rfl
 obtain ⟨i,hi⟩:=info_of_underlying (P:=Tryz.prog) Tryz.underlying211
 have hc:Tryz.prog.cellsOf 211=256:=by kernel_rfl
 have hsz:=run_sizeOf (P:=Tryz.prog) W hi
 rw [hc] at hsz
 have hlen:(arrF f o).toList.length=256:=by unfold arrF;rw [Array.length_toList,Array.size_ofFn]
 rw [hlen] at hl
 unfold loadVar
 rw [Sem.run_bind,hagg]
 simp only [Result.andThen_ok,if_true,Sem.run_bind,hsz,hl,Sem.run_pure,Array.toArray_toList]
theorem index256 {f:Nat→Value} {o j:Nat} (h:j<256) (W:World):(Instr.index 211 (.agg (arrF f o)) (.int .i64 (j:Int))).run Tryz.prog W = .ok (f (o+j)) W:=by
 obtain ⟨i,hi⟩:=info_of_underlying (P:=Tryz.prog) Tryz.underlying5
 exact run_index_agg (j:=j) Tryz.underlying211 hi zu13 zu13 h (arrF_at f o j h)
def Made (kv:List (List UInt8×ByteArray)) (w w':World):Prop := ∃ bt ts,ts=cntU (keysU kv kv.length) 256∧ts≤200∧w.heap.size<bt∧TrieSt w.heap.size w.heap.size bt (bt+1) ts (keysU kv kv.length) kv kv.length w w'
theorem make_gen (bo cap:Nat) (kv:List (List UInt8×ByteArray)) (w:World) (hn:kv.length≤100) (hts200:cntU (keysU kv kv.length) 256≤200) (hk:∀ x∈kv,x.1.length≤1000) (hh:Heads kv)
  (ho:BlkF bo (2*kv.length) (strV (flatKV kv)) w) (hbo:bo<w.heap.size) :
  Calls Tryz.prog 193 #[.slice (some ⟨bo,0,none⟩) (2*kv.length) cap] w fun e w'=>e = .returned (.pointer (some ⟨w.heap.size,0,none⟩))∧Made kv w w':=by
 have hz:=zero82_is
 have HO:=Lib.hid ho
 have HBO:=Lib.hid hbo
 have hR0:BlkF w.heap.size 262 (rootF [] 0) (w.alloc (.cells zero82 241)) :=
  ⟨fun j hj=>(World.cell?_alloc_at _ _ _ j rfl).trans (zero82_at j hj),fun j=>World.frozen?_alloc_at _ _ _ j rfl⟩
 have HR0:=Lib.hid hR0
 have HB0:=Lib.hid (Below.alloc (Below.refl w.heap.size w) (Nat.le_refl _) (.cells zero82 241))
 clear ho hbo hR0
 go_enter Tryz.func193,Tryz.ntmps193
 go_upto_block 0 with fail
 clear hz
 go_cut [] (fun wx=>Hid (BlkF w.heap.size 262 (rootF (keysU kv kv.length) 0) wx)∧Hid (Below w.heap.size w wx))
 case first =>
  go_wp2_with fail
  go_loopw [4] (fun i wr => ∃ q:Nat,q≤kv.length∧i = .int .i64 (2*(q:Int))∧Hid (BlkF w.heap.size 262 (rootF (keysU kv q) 0) wr)∧Hid (Below w.heap.size w wr)) (fun i _=>2*kv.length - (intOf i).toNat)
  case atStart=>exact ⟨0,Nat.zero_le _,rfl,HR0,HB0⟩
  case round =>
   obtain ⟨q,hq,rfl,HR,HB⟩:=hrel
   by_cases hlt:q<kv.length
   ·have hks:=hk _ (List.getElem_mem hlt)
    have hkey:=(HO.out.below HB.out HBO.out).cell (2*q) zu4
    rw [strV_at (flatKV_key kv q hlt)] at hkey
    have hsucc:=keysU_succ kv q hlt
    obtain ⟨key,hkey'⟩:∃ k,kv[q].1=k:=⟨_,rfl⟩
    rw [hkey'] at hks hkey hsucc
    obtain ⟨K,hK⟩:∃ K,B key=K:=⟨_,rfl⟩
    rw [hK] at hkey
    have hKs:K.size=key.length:=by rw [← hK];simp
    have hKz:K.size≤1000:=by omega
    have HK:=Lib.hid hK
    have HKS:=Lib.hid hKs
    have HS:=Lib.hid hsucc
    clear hkey' hK hKs hsucc hks
    go_wp2_with fail
    clear hkey
    go_loopw [6] (fun i wr => ∃ k:Nat,k≤K.size∧i = .int .i64 (k:Int)∧Hid (BlkF w.heap.size 262 (rootF (keysU kv q++key.take k) 0) wr)∧Hid (Below w.heap.size w wr)) (fun i _=>K.size - (intOf i).toNat)
    case atStart=>exact ⟨0,Nat.zero_le _,rfl,Lib.hid (by rw [List.take_zero,List.append_nil];exact HR.out),HB⟩
    case round =>
     clear HR HB
     obtain ⟨k,hk',rfl,HR,HB⟩:=hrel
     by_cases hlk:k<K.size
     ·have hb0:(0:Int)≤(K[k].toNat:Int):=by omega
      have hb1:(K[k].toNat:Int)<256:=by have:=K[k].toNat_lt;omega
      have hb2:K[k].toNat<256:=by have:=K[k].toNat_lt;omega
      have hc:=HR.out.cell (6+K[k].toNat) zu4
      have hf:=HR.out.open_
      have htk:key.take (k+1)=key.take k++[K[k]]:=by
       have hk2:k<key.length:=by rw [← HKS.out];exact hlk
       have e:K[k]=key[k]:=by
        have h:=HK.out
        subst h
        rfl
       rw [List.take_succ_eq_append_getElem hk2,e]
      have hstep:∀ W,BlkF w.heap.size 262 (rootF (keysU kv q++key.take k) 0) W→Below w.heap.size w W→BlkF w.heap.size 262 (rootF (keysU kv q++key.take (k+1)) 0) (W.setCell ⟨w.heap.size,6+K[k].toNat,none⟩ (.int .u8 1))∧Below w.heap.size w (W.setCell ⟨w.heap.size,6+K[k].toNat,none⟩ (.int .u8 1)):=by
       intro W h hb
       rw [htk,← List.append_assoc]
       exact ⟨(h.set _ _ zu4).congr fun j _=>rootF_mark _ _ _ j,hb.setCell (Nat.le_refl _) _⟩
      have HST:=Lib.hid hstep
      clear hstep htk
      go_wp2_with fail
      go_still_tail 7,zu13
      change wpList _ _ _ _ _ wr.drew
      have hd:Below (w.heap.size+1) wr wr.drew:=Below.drew (Below.refl _ _)
      have HR2:=Lib.hid (HR.out.below hd zu4)
      have HB2:=Lib.hid (HB.out.drew)
      have hc2:=HR2.out.cell (6+K[k].toNat) zu4
      have hf2:=HR2.out.open_
      clear hd hc hf
      generalize wr.drew=W2 at HR2 HB2 hc2 hf2 ⊢
      go_wp2_with fail
      go_roundw
      case rel=>exact ⟨k+1,zu4,by go_num,Lib.hid (HST.out _ HR2.out HB2.out).1,Lib.hid (HST.out _ HR2.out HB2.out).2⟩
      case measure=>simp [intOf];omega
     ·obtain rfl:k=K.size:=by omega
      have HR3:Hid (BlkF w.heap.size 262 (rootF (keysU kv (q+1)) 0) wr):=Lib.hid (by
       have h:=HR.out
       rw [HKS.out,List.take_length] at h
       rw [HS.out];exact h)
      clear HR
      go_wp2_with fail
      go_roundw
      case rel=>exact ⟨q+1,zu4,by go_num,HR3,HB⟩
      case measure=>simp [intOf];omega
   ·obtain rfl:q=kv.length:=by omega
    go_wp2_with fail
    go_meet
    case rel=>exact ⟨HR,HB⟩
 case rest =>
  clear HR0 HB0
  obtain ⟨HR,HB⟩:=hcut
  obtain ⟨U,hU⟩:∃ U,keysU kv kv.length=U:=⟨_,rfl⟩
  rw [hU] at HR
  have HL:=Lib.hid (load256 (o:=6) HR.out zu4)
  have HU:=Lib.hid hU
  clear hU
  go_upto_block 4 with (with_reducible refine wpList_load_by rfl 211 (.tmp 39) rfl ⟨w.heap.size,6,none⟩ _ rfl HL.out ?_)
  clear HL
  go_cut [] (fun wx=>Hid (BlkF w.heap.size 262 (rootF U (cntU U 256)) wx)∧Hid (Below w.heap.size w wx))
  case first =>
   go_wp2_with fail
   go_loopw [41] (fun i wr => ∃ k:Nat,k≤256∧i = .int .i64 (k:Int)∧Hid (BlkF w.heap.size 262 (rootF U (cntU U k)) wr)∧Hid (Below w.heap.size w wr)) (fun i _=>256 - (intOf i).toNat)
   case atStart=>exact ⟨0,Nat.zero_le _,rfl,HR,HB⟩
   case round =>
    clear HR HB
    obtain ⟨k,hk',rfl,HR,HB⟩:=hrel
    by_cases hlk:k<256
    ·have hix:=index256 (f:=rootF U 0) (o:=6) hlk
     rw [rootF_map U 0 k] at hix
     have hcl:=cnt_le U k
     have h5:=HR.out.cell 5 zu4
     rw [rootF_5] at h5
     have hf:=HR.out.open_
     have hstep:∀ x:Nat,x=cntU U (k+1)→Hid (BlkF w.heap.size 262 (rootF U (cntU U (k+1))) (wr.setCell ⟨w.heap.size,5,none⟩ (.int .i64 (x:Int))))∧Hid (Below w.heap.size w (wr.setCell ⟨w.heap.size,5,none⟩ (.int .i64 (x:Int)))):=by
      rintro x rfl
      exact ⟨Lib.hid ((HR.out.set 5 _ zu4).congr fun j _=>rootF_sz U _ _ j),Lib.hid (HB.out.setCell (Nat.le_refl _) _)⟩
     have HST:=Lib.hid hstep
     clear hstep
     cases hu:usedB U k with
     | true =>
       rw [hu] at hix
       have hx:cntU U k+1=cntU U (k+1):=by simp [cntU,hu]
       obtain ⟨q,hq⟩:∃ q,cntU U k=q:=⟨_,rfl⟩
       rw [hq] at hcl h5 hx
       have HX:=Lib.hid hx
       unfold u8v at hix
       clear hu hx hq HR
       go_wp2_with fail
       go_roundw
       case rel=>exact ⟨k+1,zu4,by go_num,by exact (HST.out (q+1) HX.out).1,(HST.out (q+1) HX.out).2⟩
       case measure=>simp [intOf];omega
     | false =>
       rw [hu] at hix
       have hx:cntU U k=cntU U (k+1):=by simp [cntU,hu]
       obtain ⟨q,hq⟩:∃ q,cntU U k=q:=⟨_,rfl⟩
       rw [hq] at hcl h5 hx
       have HX:=Lib.hid hx
       unfold u8v at hix
       clear hu hx hq HR
       go_wp2_with fail
       go_roundw
       case rel=>exact ⟨k+1,zu4,by go_num,by exact (HST.out q HX.out).1,(HST.out q HX.out).2⟩
       case measure=>simp [intOf];omega
    ·obtain rfl:k=256:=by omega
     go_wp2_with fail
     go_meet
     case rel=>exact ⟨HR,HB⟩
  case rest =>
   clear HR HB
   obtain ⟨HR,HB⟩:=hcut
   obtain ⟨ts,hts⟩:∃ ts,cntU U 256=ts:=⟨_,rfl⟩
   have hsm:=hts200
   rw [HU.out,hts] at hsm
   rw [hts] at HR
   have HTS:=Lib.hid hts
   clear hts
   have HL:=Lib.hid (load256 (o:=6) HR.out zu4)
   go_upto_block 6 with (with_reducible refine wpList_load_by rfl 211 (.tmp 56) rfl ⟨w.heap.size,6,none⟩ _ rfl HL.out ?_)
   clear HL
   go_cut [] (fun wx=>Hid (BlkF w.heap.size 262 (mapF U ts 256) wx)∧Hid (Below w.heap.size w wx))
   case first =>
    go_wp2_with fail
    go_loopw [9,58] (fun x i wr => ∃ k:Nat,k≤256∧x = .int .u8 (cntU U k:Int)∧i = .int .i64 (k:Int)∧Hid (BlkF w.heap.size 262 (mapF U ts k) wr)∧Hid (Below w.heap.size w wr)) (fun _ i _=>256 - (intOf i).toNat)
    case atStart=>exact ⟨0,Nat.zero_le _,rfl,rfl,Lib.hid (HR.out.congr fun j _=>mapF_zero U ts j),HB⟩
    case round =>
     clear HR HB
     obtain ⟨k,hk',rfl,rfl,HR,HB⟩:=hrel
     by_cases hlk:k<256
     ·have hix:=index256 (f:=rootF U ts) (o:=6) hlk
      rw [rootF_map U ts k] at hix
      have hcl:cntU U k≤200:=by
       have:=cnt_mono U (show k≤256 from hk')
       rw [HTS.out] at this
       omega
      have hstep:∀ W,Hid (BlkF w.heap.size 262 (mapF U ts k) W)→Hid (Below w.heap.size w W)→Hid (BlkF w.heap.size 262 (mapF U ts (k+1)) (W.setCell ⟨w.heap.size,6+k,none⟩ (mapV U ts k)))∧Hid (Below w.heap.size w (W.setCell ⟨w.heap.size,6+k,none⟩ (mapV U ts k))) :=
       fun W h hb=>⟨Lib.hid ((h.out.set _ _ zu4).congr fun j _=>mapF_step U ts k j),Lib.hid (hb.out.setCell (Nat.le_refl _) _)⟩
      have hk0:(0:Int)≤(k:Int):=by omega
      have hk1:(k:Int)<256:=by omega
      have ht1:(ts:Int)<256:=by omega
      cases hu:usedB U k with
      | false =>
        rw [hu] at hix
        have hx:cntU U k=cntU U (k+1):=by simp [cntU,hu]
        have hm:mapV U ts k = .int .u8 (ts:Int):=by simp [mapV,hu]
        rw [hm] at hstep
        have HST:=Lib.hid hstep
        obtain ⟨q,hq⟩:∃ q,cntU U k=q:=⟨_,rfl⟩
        rw [hq] at hcl hx ⊢
        have HX:=Lib.hid hx
        unfold u8v at hix
        clear hu hx hq hm hstep
        have h5:=HR.out.cell 5 zu4
        rw [mapF_5] at h5
        go_wp2_with fail
        go_still_tail 10,zu13
        change wpList _ _ _ _ _ wr.drew
        have hd:Below (w.heap.size+1) wr wr.drew:=Below.drew (Below.refl _ _)
        have HR2:=Lib.hid (HR.out.below hd zu4)
        have HB2:=Lib.hid (HB.out.drew)
        have hc2:=HR2.out.cell (6+k) zu4
        have hf2:=HR2.out.open_
        clear hd h5
        generalize wr.drew=W2 at HR2 HB2 hc2 hf2 ⊢
        go_wp2_with fail
        go_roundw
        case rel=>exact ⟨k+1,zu4,by rw [HX.out],by go_num,(HST.out _ HR2 HB2).1,(HST.out _ HR2 HB2).2⟩
        case measure=>simp [intOf];omega
      | true =>
        rw [hu] at hix
        have hx:cntU U k+1=cntU U (k+1):=by simp [cntU,hu]
        have hm:mapV U ts k = .int .u8 (cntU U k:Int):=by simp [mapV,hu]
        rw [hm] at hstep
        have HST:=Lib.hid hstep
        have hc:=HR.out.cell (6+k) zu4
        have hf:=HR.out.open_
        obtain ⟨q,hq⟩:∃ q,cntU U k=q:=⟨_,rfl⟩
        rw [hq] at hcl hx HST ⊢
        have HX:=Lib.hid hx
        unfold u8v at hix
        clear hu hx hq hm hstep
        go_wp2_with fail
        go_roundw
        case rel=>exact ⟨k+1,zu4,by rw [← HX.out];go_num,by go_num,(HST.out _ HR HB).1,(HST.out _ HR HB).2⟩
        case measure=>simp [intOf];omega
     ·obtain rfl:k=256:=by omega
      go_wp2_with fail
      go_meet
      case rel=>exact ⟨HR,HB⟩
   case rest =>
    clear HR HB
    obtain ⟨HR,HB⟩:=hcut
    have h5:=HR.out.cell 5 zu4
    rw [mapF_5] at h5
    have h4:=HR.out.cell 4 zu4
    rw [mapF_4] at h4
    have hf:=HR.out.open_
    have ht0:(0:Int)≤(ts:Int):=by omega
    have hmk:=run_make_row' (P:=Tryz.prog) 237 236 (.pointer none) 8 Tryz.underlying237 info_node rfl .i64 .i64 ts zu4 zu4 wc
    have hbr:=World.block_lt_of_cell? wc _ h4
    have h4':(wc.alloc (.cells (madeCells #[.pointer none] ts) 236)).cell? ⟨w.heap.size,4,none⟩=some (.slice none 0 0):=by
     rw [World.cell?_alloc_past _ _ _ hbr];exact h4
    have hf':∀ j,(wc.alloc (.cells (madeCells #[.pointer none] ts) 236)).frozen? ⟨w.heap.size,j,none⟩=false:=fun j=>by
     rw [World.frozen?_alloc_past _ _ _ hbr];exact hf j
    have hS:TrieSt w.heap.size w.heap.size wc.heap.size (wc.heap.size+1) ts (keysU kv kv.length) kv 0 w ((wc.alloc (.cells (madeCells #[.pointer none] ts) 236)).setCell ⟨w.heap.size,4,none⟩ (.slice (some ⟨wc.heap.size,0,none⟩) ts ts)):=by
     have hba:Below wc.heap.size wc (wc.alloc (.cells (madeCells #[.pointer none] ts) 236)):=Below.alloc (Below.refl _ _) (Nat.le_refl _) _
     refine ⟨?_,⟨fun _ => .pointer none,?_,fun j _ h=>absurd h (Nat.not_lt_zero _),fun _ _ _=>rfl⟩,?_,zu19⟩
     ·rw [HU.out]
      exact (HR.out.below hba hbr).set 4 _ zu4
     ·refine BlkF.other ?_ 4 _ (Nat.ne_of_lt hbr)
      exact ⟨fun j hj=>(World.cell?_alloc_at _ _ _ j rfl).trans (made_at ts j hj),fun j=>World.frozen?_alloc_at _ _ _ j rfl⟩
     ·exact (HB.out.trans (hba.mono HB.out.size)).setCell (Nat.le_refl _) _
    have HS:=Lib.hid hS
    have HBR:=Lib.hid hbr
    clear hS HR hf hbr
    obtain ⟨bt,hbt⟩:∃ b,wc.heap.size=b:=⟨_,rfl⟩
    rw [hbt] at HS HBR hmk
    clear hbt
    go_upto_block 8 with fail
    clear hmk h4' hf' h5 h4
    have hbo2:bo<bt:=Nat.lt_trans HBO.out HBR.out
    have HBO2:=Lib.hid hbo2
    clear hbo2
    go_cut [] (fun wx=>Hid (TrieSt w.heap.size w.heap.size bt (bt+1) ts (keysU kv kv.length) kv kv.length w wx))
    case first =>
     go_wp2_with fail
     go_loopw [12] (fun i wr => ∃ q:Nat,q≤kv.length∧i = .int .i64 (2*(q:Int))∧Hid (TrieSt w.heap.size w.heap.size bt (bt+1) ts (keysU kv kv.length) kv q w wr)) (fun i _=>2*kv.length - (intOf i).toNat)
     case atStart=>exact ⟨0,Nat.zero_le _,rfl,HS⟩
     case round =>
      clear HS
      obtain ⟨q,hq,rfl,HS⟩:=hrel
      by_cases hlt:q<kv.length
      ·have hks:=hk _ (List.getElem_mem hlt)
       have hbl:=HO.out.below HS.out.below HBO.out
       have hkey:=hbl.cell (2*q) zu4
       have hval:=hbl.cell (2*q+1) zu4
       rw [strV_at (flatKV_key kv q hlt)] at hkey
       rw [strV_at (flatKV_val kv q hlt)] at hval
       obtain ⟨c,t,hct⟩:=List.exists_cons_of_ne_nil (hh.1 _ (List.getElem_mem hlt))
       rw [hct] at hks hkey
       obtain ⟨T,hT,hN,hE⟩:=HS.out.tab
       have hm:cntU (keysU kv kv.length) c.toNat<ts:=by
        have h1:=cnt_lt (keysU kv kv.length) (used_of hlt hct) (show c.toNat<256 from c.toNat_lt)
        have h2:=HTS.out
        rw [← HU.out] at h2
        omega
       have hrm:replF (keysU kv kv.length) ts bt (6+c.toNat) = .int .u8 ((cntU (keysU kv kv.length) c.toNat:Nat):Int):=by
        rw [replF_map _ _ _ _ c.toNat_lt]
        simp only [mapV,used_of hlt hct,if_true]
       have hsz:=HS.out.size
       have CA:=fun W (h1:BlkF w.heap.size 262 (replF (keysU kv kv.length) ts bt) W) (h2:BlkF bt ts T W) (h3:bt<W.heap.size) =>
        add_root w.heap.size bt ts w.heap.size (replF (keysU kv kv.length) ts bt) T c t kv[q].2 (2*(kv.length:Int) - 2*(q:Int)) (cntU (keysU kv kv.length) c.toNat) W (by simp at hks;omega) zu4 h1 h2 hm (Nat.ne_of_lt HBR.out) (Nat.lt_trans HBR.out h3) h3 (Nat.le_of_lt HBR.out) rfl rfl hrm (HS.out.fresh hh hlt hct hE hm)
       have HCA:=Lib.hid CA
       have HT:=Lib.hid hT
       have HN:=Lib.hid hN
       have HE:=Lib.hid hE
       have HCT:=Lib.hid hct
       obtain ⟨K,hK⟩:∃ K,B (c::t)=K:=⟨_,rfl⟩
       obtain ⟨V,hV⟩:∃ V,kv[q].2=V:=⟨_,rfl⟩
       rw [hK] at hkey HCA
       rw [hV] at hval HCA
       have HV:=Lib.hid hV
       clear CA hT hN hE hct hK hV hm hrm hks hbl
       have hi0:(0:Int)≤2*(q:Int):=by omega
       have hi1:2*(q:Int)+1<2*(kv.length:Int):=by omega
       have hi3:2*(q:Int)<2*(kv.length:Int):=by omega
       have hi4:(0:Int)≤2*(q:Int)+1:=by omega
       have hw1:IntKind.i64.wrap (2*(q:Int)+1)=2*(q:Int)+1:=by simp [IntKind.wrap_i64,wrap64];omega
       have hw2:IntKind.i64.wrap (2*(kv.length:Int) - 2*(q:Int))=2*(kv.length:Int) - 2*(q:Int):=by simp [IntKind.wrap_i64,wrap64];omega
       have ht1:(2*(q:Int)).toNat=2*q:=by omega
       have ht2:(2*(q:Int)+1).toNat=2*q+1:=by omega
       go_wp2_with fail
       go_still_tail 17,zu13
       change wpList _ _ _ _ _ wr.drew
       have hd:Below (bt+1) wr wr.drew:=Below.drew (Below.refl _ _)
       have hrt:=HS.out.root.below hd (Nat.lt_succ_of_lt HBR.out)
       have HT2:=Lib.hid (HT.out.below hd (Nat.lt_succ_self _))
       have HR2:=Lib.hid hrt
       have hdz:bt<wr.drew.heap.size:=hsz
       have HDZ:=Lib.hid hdz
       have HUD:=Lib.hid ((But.refl w.heap.size bt wr).drew HS.out.below.size)
       clear hd hrt hdz hkey hval ht1 ht2 hw1 hw2
       obtain ⟨W2,hW2⟩:∃ W,wr.drew=W:=⟨_,rfl⟩
       have hW2s:W2.heap.size=wr.heap.size:=by rw [← hW2];rfl
       have HW2S:=Lib.hid hW2s
       change wpList _ _ _ _ _ wr.drew
       rw [hW2] at HT2 HR2 HDZ HUD ⊢
       clear hW2 hW2s
       go_wp2_with fail
       refine (HCA.out W2 HR2.out HT2.out HDZ.out).mono ?_
       rintro e w' ⟨rfl,b,hb1,hb2,hb3,hb4,hb5⟩
       have HNX:Hid (TrieSt w.heap.size w.heap.size bt (bt+1) ts (keysU kv kv.length) kv (q+1) w w'):=Lib.hid (by
        have hU:But w.heap.size bt wr w':=⟨HUD.out.below.trans hb5.below,fun b' h1 h2=>by
         have h3:=hb5.same b' (by rw [HW2S.out];exact h1) h2
         have h4:=HUD.out.same b' h1 h2
         exact ⟨fun j=>(h3.1 j).trans (h4.1 j),fun j=>(h3.2 j).trans (h4.2 j)⟩⟩
        rw [← HV.out] at hb4
        refine TrieSt.next HS.out hh hlt HCT.out HN.out HE.out (p:=2*(kv.length:Int) - 2*(q:Int)) zu4 (Nat.lt_succ_self _) (Nat.lt_trans HBR.out hsz) (Nat.ne_of_lt HBR.out) hb3 ?_ hU
        exact hb4.mono (Nat.le_of_eq HW2S.out.symm))
       clear hb1 hb2 hb3 hb4 hb5
       go_wp2_with fail
       go_roundw
       case rel=>exact ⟨q+1,zu4,by go_num,HNX⟩
       case measure=>simp [intOf];omega
      ·obtain rfl:q=kv.length:=by omega
       go_wp2_with fail
       go_meet
       case rel=>exact HS
    case rest =>
     go_wp2_with fail
     go_ret
     exact ⟨rfl,bt,ts,by rw [HU.out];exact HTS.out.symm,hsm,HBR.out,hcut.out⟩
end Hand
end

section
namespace Hand
open Go.RowKit Pb
theorem hasPrefix_t (s p:ByteArray) (w:World):Calls Tryz.prog 47 #[.string s,.string p] w fun e w'=>e = .returned (.bool (Lib.hasPrefix s.data.toList p.data.toList))∧w=w':=by
 refine (Tryz.strings_HasPrefix s p w).mono ?_
 rintro e w' h
 exact ⟨h.1,h.2.symm⟩
theorem lookup_leaf (br bt ts m b:Nat) (R T:Nat→Value) (a:ByteArray) (v:ByteArray) (p:Int) (w:World) (h0:0<a.size) (hz:a.size≤1000000)
  (hR:BlkF br 262 R w) (hT:BlkF bt ts T w) (hts:ts≤1000) (hm:m<ts) (hp:0<p)
  (r1:R 1 = .int .i64 0) (r4:R 4 = .slice (some ⟨bt,0,none⟩) ts ts) (r5:R 5 = .int .i64 (ts:Int)) (rm:R (6+a[0].toNat) = .int .u8 (m:Int)) (tm:T m = .pointer (some ⟨b,0,none⟩)) (hB:Blk b (nodeV v p) w) :
  Calls Tryz.prog 269 #[.pointer (some ⟨br,0,none⟩),.string a,.bool false] w fun e w'=>e = .returned (.tuple #[.string v,.int .i64 1,.bool true])∧∃ k,w'=w.drewN k:=by
 have c1:=hR.cell 1 zu4
 have c4:=hR.cell 4 zu4
 have c5:=hR.cell 5 zu4
 have cm:=hR.cell (6+a[0].toNat) (by have:=a[0].toNat_lt;omega)
 have tc:=hT.cell m hm
 rw [r1] at c1
 rw [r4] at c4
 rw [r5] at c5
 rw [rm] at cm
 rw [tm] at tc
 have n0:=hB.cell 0 zu71
 have n1:=hB.cell 1 zu71
 have n2:=hB.cell 2 zu71
 have n4:=hB.cell 4 zu71
 simp only [nodeV,List.getElem?_toArray,List.getElem?_cons_succ,List.getElem?_cons_zero] at n0 n1 n2 n4
 have hk:a.toList.isEmpty=false:=by
  rw [toList_data]
  cases h:a.data.toList with
  | nil=>have:=congrArg List.length h;rw [Array.length_toList] at this;have:a.size=0:=this;omega
  | cons c r=>rfl
 have hk':¬ a.toList=[]:=by simpa using hk
 have hb0:(0:Int)≤(a[0].toNat:Int):=by omega
 have hb1:(a[0].toNat:Int)<256:=by have:=a[0].toNat_lt;omega
 have hb2:a[0].toNat<256:=by have:=a[0].toNat_lt;omega
 have hb4:(1:Int)≤(a.size:Int):=by omega
 have hne:((m:Int) == (ts:Int))=false:=by rw [beq_eq_false_iff_ne];omega
 have hp1:decide ((0:Int)<p)=true:=by simp;omega
 have hm0:(0:Int)≤(m:Int):=by omega
 have hm1:(m:Int)<(ts:Int):=by omega
 obtain ⟨a2,ha2⟩:∃ x,a.extract 1 a.size=x:=⟨_,rfl⟩
 clear r1 r4 r5 rm tm hR hT hB
 go_enter Tryz.func269,Tryz.ntmps269
 go_wp2_with fail
 refine wp_loop_rounds 2 ?_
 rw [rounds_succ]
 go_wp2_with fail
 go_quiet (fail)
 go_wp2_with fail
 rw [rounds_succ]
 go_wp2_with fail
 all_goals
  go_ret3
  exact ⟨rfl,nq,rfl⟩
theorem lookup_tail (br bt ts m b:Nat) (R T:Nat→Value) (a:ByteArray) (v tl:ByteArray) (p:Int) (w:World) (h0:0<a.size) (hz:a.size≤1000000)
  (hR:BlkF br 262 R w) (hT:BlkF bt ts T w) (hts:ts≤1000) (hm:m<ts) (hp:0<p)
  (r1:R 1 = .int .i64 0) (r4:R 4 = .slice (some ⟨bt,0,none⟩) ts ts) (r5:R 5 = .int .i64 (ts:Int)) (rm:R (6+a[0].toNat) = .int .u8 (m:Int)) (tm:T m = .pointer (some ⟨b,0,none⟩)) (b2:Nat) (htl:¬ tl.toList=[]) (htz:tl.size≤1000) (hB:Blk b (nodeP tl b2) w) (hB2:Blk b2 (nodeV v p) w) (hpre:Lib.hasPrefix (a.extract 1 a.size).data.toList tl.data.toList=true) (hsz:tl.size≤(a.extract 1 a.size).size) :
  Calls Tryz.prog 269 #[.pointer (some ⟨br,0,none⟩),.string a,.bool false] w fun e w'=>e = .returned (.tuple #[.string v,.int .i64 (1+(tl.size:Int)),.bool true])∧∃ k,w'=w.drewN k:=by
 have c1:=hR.cell 1 zu4
 have c4:=hR.cell 4 zu4
 have c5:=hR.cell 5 zu4
 have cm:=hR.cell (6+a[0].toNat) (by have:=a[0].toNat_lt;omega)
 have tc:=hT.cell m hm
 rw [r1] at c1
 rw [r4] at c4
 rw [r5] at c5
 rw [rm] at cm
 rw [tm] at tc
 have n1:=hB.cell 1 zu72
 have n2:=hB.cell 2 zu72
 have n3:=hB.cell 3 zu72
 have n4:=hB.cell 4 zu72
 simp only [nodeP,List.getElem?_toArray,List.getElem?_cons_succ,List.getElem?_cons_zero] at n1 n2 n3 n4
 have ht1:tl.toList.isEmpty=false:=by simpa using htl
 have g0:=hB2.cell 0 zu71
 have g1:=hB2.cell 1 zu71
 have g2:=hB2.cell 2 zu71
 have g4:=hB2.cell 4 zu71
 simp only [nodeV,List.getElem?_toArray,List.getElem?_cons_succ,List.getElem?_cons_zero] at g0 g1 g2 g4
 clear hB2
 have hk:a.toList.isEmpty=false:=by
  rw [toList_data]
  cases h:a.data.toList with
  | nil=>have:=congrArg List.length h;rw [Array.length_toList] at this;have:a.size=0:=this;omega
  | cons c r=>rfl
 have hk':¬ a.toList=[]:=by simpa using hk
 have hb0:(0:Int)≤(a[0].toNat:Int):=by omega
 have hb1:(a[0].toNat:Int)<256:=by have:=a[0].toNat_lt;omega
 have hb2:a[0].toNat<256:=by have:=a[0].toNat_lt;omega
 have hb4:(1:Int)≤(a.size:Int):=by omega
 have hne:((m:Int) == (ts:Int))=false:=by rw [beq_eq_false_iff_ne];omega
 have hp1:decide ((0:Int)<p)=true:=by simp;omega
 have hm0:(0:Int)≤(m:Int):=by omega
 have hm1:(m:Int)<(ts:Int):=by omega
 obtain ⟨a2,ha2⟩:∃ x,a.extract 1 a.size=x:=⟨_,rfl⟩
 clear r1 r4 r5 rm tm hR hT hB
 go_enter Tryz.func269,Tryz.ntmps269
 go_wp2_with fail
 rw [ha2] at hpre hsz
 have HP:=Lib.hid (hasPrefix_t a2 tl)
 have ht3:0<tl.size:=by
  rw [toList_data] at htl
  rcases Nat.eq_zero_or_pos tl.size with h|h
  ·exact absurd (List.eq_nil_of_length_eq_zero (by rw [Array.length_toList];exact h)) htl
  ·exact h
 have ha3:a2.toList.isEmpty=false:=by
  rw [toList_data]
  cases h:a2.data.toList with
  | nil=>have:=congrArg List.length h;rw [Array.length_toList] at this;have:a2.size=0:=this;omega
  | cons c r=>rfl
 have ha4:¬ a2.toList=[]:=by simpa using ha3
 have hsz1:(tl.size:Int)≤(a2.size:Int):=by omega
 have ha2z:a2.size≤1000000:=by rw [← ha2,ByteArray.size_extract];omega
 rw [hpre] at HP
 clear hpre ht3
 refine wp_loop_rounds 3 ?_
 rw [rounds_succ]
 go_wp2_with fail
 go_quiet (fail)
 go_wp2_with fail
 rw [rounds_succ]
 go_wp2_with fail
 refine (HP.out _).mono ?_
 rintro e w' ⟨rfl,rfl⟩
 go_wp2_with fail
 rw [rounds_succ]
 go_wp2_with fail
 all_goals
  go_ret3
  exact ⟨rfl,nq,rfl⟩
theorem lookup_miss (br bt ts m b:Nat) (R T:Nat→Value) (a:ByteArray) (v tl:ByteArray) (p:Int) (w:World) (h0:0<a.size) (hz:a.size≤1000000)
  (hR:BlkF br 262 R w) (hT:BlkF bt ts T w) (hts:ts≤1000) (hm:m<ts) (hp:0<p)
  (r1:R 1 = .int .i64 0) (r4:R 4 = .slice (some ⟨bt,0,none⟩) ts ts) (r5:R 5 = .int .i64 (ts:Int)) (rm:R (6+a[0].toNat) = .int .u8 (m:Int)) (tm:T m = .pointer (some ⟨b,0,none⟩)) (b2:Nat) (htl:¬ tl.toList=[]) (htz:tl.size≤1000) (hB:Blk b (nodeP tl b2) w) (hpre:Lib.hasPrefix (a.extract 1 a.size).data.toList tl.data.toList=false) :
  Calls Tryz.prog 269 #[.pointer (some ⟨br,0,none⟩),.string a,.bool false] w fun e w'=>e = .returned (.tuple #[.string ⟨#[]⟩,.int .i64 0,.bool false])∧∃ k,w'=w.drewN k:=by
 have c1:=hR.cell 1 zu4
 have c4:=hR.cell 4 zu4
 have c5:=hR.cell 5 zu4
 have cm:=hR.cell (6+a[0].toNat) (by have:=a[0].toNat_lt;omega)
 have tc:=hT.cell m hm
 rw [r1] at c1
 rw [r4] at c4
 rw [r5] at c5
 rw [rm] at cm
 rw [tm] at tc
 have n1:=hB.cell 1 zu72
 have n2:=hB.cell 2 zu72
 have n3:=hB.cell 3 zu72
 have n4:=hB.cell 4 zu72
 simp only [nodeP,List.getElem?_toArray,List.getElem?_cons_succ,List.getElem?_cons_zero] at n1 n2 n3 n4
 have ht1:tl.toList.isEmpty=false:=by simpa using htl
 have hk:a.toList.isEmpty=false:=by
  rw [toList_data]
  cases h:a.data.toList with
  | nil=>have:=congrArg List.length h;rw [Array.length_toList] at this;have:a.size=0:=this;omega
  | cons c r=>rfl
 have hk':¬ a.toList=[]:=by simpa using hk
 have hb0:(0:Int)≤(a[0].toNat:Int):=by omega
 have hb1:(a[0].toNat:Int)<256:=by have:=a[0].toNat_lt;omega
 have hb2:a[0].toNat<256:=by have:=a[0].toNat_lt;omega
 have hb4:(1:Int)≤(a.size:Int):=by omega
 have hne:((m:Int) == (ts:Int))=false:=by rw [beq_eq_false_iff_ne];omega
 have hp1:decide ((0:Int)<p)=true:=by simp;omega
 have hm0:(0:Int)≤(m:Int):=by omega
 have hm1:(m:Int)<(ts:Int):=by omega
 obtain ⟨a2,ha2⟩:∃ x,a.extract 1 a.size=x:=⟨_,rfl⟩
 clear r1 r4 r5 rm tm hR hT hB
 go_enter Tryz.func269,Tryz.ntmps269
 go_wp2_with fail
 rw [ha2] at hpre
 have HP:=Lib.hid (hasPrefix_t a2 tl)
 rw [hpre] at HP
 clear hpre
 by_cases ha3:a2.toList=[]
 ·have ha4:a2.toList.isEmpty=true:=by simpa using ha3
  refine wp_loop_rounds 2 ?_
  rw [rounds_succ]
  go_wp2_with fail
  go_quiet (fail)
  go_wp2_with fail
  rw [rounds_succ]
  go_wp2_with fail
  go_ret3
  exact ⟨rfl,nq,rfl⟩
 ·have ha4:a2.toList.isEmpty=false:=by simpa using ha3
  refine wp_loop_rounds 2 ?_
  rw [rounds_succ]
  go_wp2_with fail
  go_quiet (fail)
  go_wp2_with fail
  rw [rounds_succ]
  go_wp2_with fail
  refine (HP.out _).mono ?_
  rintro e w' ⟨rfl,rfl⟩
  go_wp2_with fail
  go_ret3
  exact ⟨rfl,nq,rfl⟩
theorem lookup_end (br:Nat) (R:Nat→Value) (w:World) (hR:BlkF br 262 R w) (r1:R 1 = .int .i64 0) :
  Calls Tryz.prog 269 #[.pointer (some ⟨br,0,none⟩),.string ⟨#[]⟩,.bool false] w fun e w'=>e = .returned (.tuple #[.string ⟨#[]⟩,.int .i64 0,.bool false])∧∃ k,w'=w.drewN k:=by
 have c1:=hR.cell 1 zu4
 rw [r1] at c1
 clear r1 hR
 go_enter Tryz.func269,Tryz.ntmps269
 go_wp2_with fail
 refine wp_loop_rounds 1 ?_
 rw [rounds_succ]
 go_wp2_with fail
 go_ret3
 exact ⟨rfl,0,rfl⟩
end Hand
end

section
namespace Hand
open Go.RowKit Pb
structure Buf (bb lo:Nat) (acc:List UInt8) (W:World):Prop where
 val:∃ v,W.heap[bb]? = some (.cells #[v] 292 (0,0))∧W.ownsRow lo 5 1 v acc.length (Lib.byteCells acc)
 le:lo≤bb
theorem heap_lt {W:World} {b:Nat} {o:Obj} (h:W.heap[b]? = some o):b<W.heap.size:=by
 rcases Nat.lt_or_ge b W.heap.size with h'|h'
 ·exact h'
 ·rw [Array.getElem?_eq_none h'] at h;cases h
theorem own_ne {W:World} {bb lo n:Nat} {u v:Value} {xs:List Value} (hb:W.heap[bb]? = some (.cells #[u] 292 (0,0))) (h:W.ownsRow lo 5 1 v n xs):some bb≠v.ownBlock:=by
 rcases h.2 with ⟨rfl,_⟩|⟨g,cap,cur,rfl,_,hg,_⟩
 ·simp [Value.ownBlock]
 ·intro e
  have e2:bb=g:=by simpa [Value.ownBlock] using e
  subst e2
  rw [hb] at hg
  simp at hg
theorem own_set {W:World} {bb lo n:Nat} {u v:Value} {xs:List Value} (h:W.ownsRow lo 5 1 v n xs) (hne:some bb≠v.ownBlock) (x:Value):(W.setCell ⟨bb,0,none⟩ x).ownsRow lo 5 1 v n xs:=by
 obtain ⟨h1,h2⟩:=h
 refine ⟨h1,?_⟩
 rcases h2 with h2|⟨g,cap,cur,hv,hg,hh,r⟩
 ·exact .inl h2
 ·refine .inr ⟨g,cap,cur,hv,hg,?_,r⟩
  rw [Below.heap_setCell _ _ _ _ (by subst hv;intro e;exact hne (by simp [Value.ownBlock,e]))]
  exact hh
theorem owns_shape {W:World} {lo e size n:Nat} {v:Value} {xs:List Value} (h:W.ownsRow lo e size v n xs):∃ a c,v = .slice a n c:=by
 rcases h.2 with ⟨rfl,rfl⟩|⟨g,cap,cur,rfl,_⟩
 ·exact ⟨_,_,rfl⟩
 ·exact ⟨_,_,rfl⟩
theorem strCells_B (s:List UInt8):Lib.strCells (B s)=Lib.byteCells s:=by
 unfold Lib.strCells Lib.byteCells;rw [B_data]
theorem info_u8:(Tryz.prog.info? 5).map (fun i=>(i.zero,i.size,i.bytes))=some (some (.int .u8 0),1,1):=by kernel_rfl
theorem aw_write (bb lo:Nat) (acc s:List UInt8) (w:World) (h:Buf bb lo acc w) (hz:acc.length+s.length≤100000000) :
  Calls Tryz.prog 279 #[.pointer (some ⟨bb,0,none⟩),.string (B s)] w fun e w'=>e = .returned (.tuple #[.int .i64 (s.length:Int),.nilIface])∧Buf bb lo (acc++s) w'∧Below lo w w':=by
 obtain ⟨v,hh,hown⟩:=h.val
 have hv:=cell_of_one hh
 have hf:=free_of_one hh
 have hne:=own_ne hh hown
 have hlt:=heap_lt hh
 have hle:=h.le
 have hls:lo≤w.heap.size:=by omega
 obtain ⟨i,hi,hzz⟩:=Option.map_eq_some_iff.1 info_u8
 simp only [Prod.mk.injEq] at hzz
 obtain ⟨hz0,hs1,hb1⟩:=hzz
 have HHH:=Lib.hid hh
 have HNE:=Lib.hid hne
 clear hh hne
 have hsz:(B s).size=s.length:=by simp
 obtain ⟨S,hS⟩:∃ S,B s=S:=⟨_,rfl⟩
 rw [hS] at hsz ⊢
 have HS:=Lib.hid hS
 have HSZ:=Lib.hid hsz
 clear hS
 rw [← hsz] at hz
 have HOWN:=Lib.hid hown
 have HI:=Lib.hid hi
 have HZ:=Lib.hid hz0
 have HS1:=Lib.hid hs1
 have HB1:=Lib.hid hb1
 have HH:=Lib.hid h
 clear hsz hi hz0 hs1 hb1 hown h
 go_enter Tryz.func279,Tryz.ntmps279
 go_wp2_with (with_reducible refine Lib.wpList_append_own_string _ rfl (.tmp 9) (.tmp 10) 292 9 rfl lo 5 i Tryz.underlying292 Tryz.underlying9 HI.out HZ.out HS1.out HB1.out v acc.length (Lib.byteCells acc) rfl HOWN.out S rfl zu73 zu4 hls ?_)
 intro v' w1 hown' hgrow hnil
 have hrow:∀ k,v.ownBlock=some k→lo≤k:=fun k hk=>(HOWN.out.lt k hk).1
 have hh1:w1.heap[bb]? = some (.cells #[v] 292 (0,0)):=by rw [hgrow.block bb hlt HNE.out];exact HHH.out
 have hv1:=cell_of_one hh1
 have hfr:=free_of_one hh1
 have hbel:Below lo w w1:=(Below.refl lo w).grown hgrow hls hrow
 have hne1:=own_ne hh1 hown'
 obtain ⟨a',c',rfl⟩:=owns_shape hown'
 have HO:=Lib.hid hown'
 have HBL:=Lib.hid hbel
 have HH1:=Lib.hid hh1
 have HN1:=Lib.hid hne1
 clear hown' hgrow hnil hrow hbel hv hf hh1 hne1
 go_wp2_with fail
 go_ret2
 refine ⟨by rw [HSZ.out];rfl,⟨⟨_,one_setCell HH1.out,?_⟩,hle⟩,HBL.out.setCell hle _⟩
 have:=own_set (u:=v) HO.out HN1.out (.slice a' (acc.length+S.size) c')
 rw [List.length_append,← HSZ.out]
 rw [← HS.out,strCells_B] at this
 have e:Lib.byteCells acc++Lib.byteCells s=Lib.byteCells (acc++s):=by simp [Lib.byteCells]
 rw [e] at this
 rw [HSZ.out]
 simpa using this
theorem getSW (a:Addr) (w:World) :
  Calls Tryz.prog 268 #[.iface 293 (.pointer (some a))] w fun e w'=>e = .returned (.iface 293 (.pointer (some a)))∧w'=w:=by
 have hta:∀ w,(Instr.typeAssert (.iface 293 (.pointer (some a))) 295 297 true).run Tryz.prog w = .ok (.tuple #[.iface 293 (.pointer (some a)),.bool true]) w:=fun _=>by kernel_rfl
 go_enter Tryz.func268,Tryz.ntmps268
 go_wp2_with fail
 go_ret
 exact ⟨rfl,rfl⟩
end Hand
end

section
namespace Hand
open Go.RowKit Pb Pl
theorem Below.of_drewN (B:Nat) (w:World) (k:Nat):Below B w (w.drewN k):=⟨rfl,rfl,rfl,Nat.le_refl _,fun _ _=>rfl⟩
def pairF (kv:List (List UInt8×ByteArray)) (c:UInt8):Option (List UInt8×List UInt8):=(kv.find? fun x=>x.1.head? == some c).map fun x=>(x.1.tail,x.2.data.toList)
theorem pairF_some {kv:List (List UInt8×ByteArray)} {c:UInt8} {t v:List UInt8} (h:pairF kv c=some (t,v)):∃ j,∃ hj:j<kv.length,kv[j].1=c::t∧kv[j].2=B v:=by
 unfold pairF at h
 obtain ⟨x,hx,e⟩:=Option.map_eq_some_iff.1 h
 have hm:=List.mem_of_find?_eq_some hx
 have hp:=List.find?_some hx
 obtain ⟨j,hj,ej⟩:=List.mem_iff_getElem.1 hm
 refine ⟨j,hj,?_,?_⟩
 ·rw [ej]
  simp only [beq_iff_eq] at hp
  have e1:x.1.tail=t:=(Prod.mk.inj e).1
  cases hxl:x.1 with
  | nil=>rw [hxl] at hp;cases hp
  | cons d r=>rw [hxl] at hp e1;simp at hp e1;rw [hp,e1]
 ·rw [ej]
  have e2:x.2.data.toList=v:=(Prod.mk.inj e).2
  rw [← e2];exact B_of _
theorem pairF_none {kv:List (List UInt8×ByteArray)} {c:UInt8} (h:pairF kv c=none):∀ j (hj:j<kv.length) d t,kv[j].1=d::t→d≠c:=by
 unfold pairF at h
 simp only [Option.map_eq_none_iff,List.find?_eq_none] at h
 intro j hj d t e hd
 have:=h _ (List.getElem_mem hj)
 rw [e,hd] at this
 simp at this
structure TrieAt (kv:List (List UInt8×ByteArray)) (br bt ts:Nat) (W:World):Prop where
 root:BlkF br 262 (replF (keysU kv kv.length) ts bt) W
 tab:∃ T,BlkF bt ts T W∧(∀ j (h:j<kv.length),∀ c t,kv[j].1=c::t→∃ (b:Nat) (p:Int),0<p∧T (cntU (keysU kv kv.length) c.toNat) = .pointer (some ⟨b,0,none⟩)∧NodeAt (bt+1) b t kv[j].2 p W) ∧
  (∀ x,x<ts→(∀ j (h:j<kv.length),∀ c t,kv[j].1=c::t→cntU (keysU kv kv.length) c.toNat≠x)→T x = .pointer none)
 heads:Heads kv
 lens:∀ x∈kv,x.1.length≤1000
 lt:br<bt∧bt<W.heap.size
 many:ts=cntU (keysU kv kv.length) 256∧ts≤200
theorem NodeAt.below {lo b:Nat} {t:List UInt8} {v:ByteArray} {p:Int} {w W:World} (h:NodeAt lo b t v p w) (hb:Below w.heap.size w W):NodeAt lo b t v p W:=by
 obtain ⟨h1,h2,h3⟩:=h
 refine ⟨h1,Nat.lt_of_lt_of_le h2 hb.size,?_⟩
 rcases h3 with ⟨ht,h3⟩|⟨ht,b2,h4,h5,h6,h7⟩
 ·exact .inl ⟨ht,h3.below hb h2⟩
 ·exact .inr ⟨ht,b2,h4,Nat.lt_of_lt_of_le h5 hb.size,h6.below hb h2,h7.below hb h5⟩
theorem TrieAt.below {kv:List (List UInt8×ByteArray)} {br bt ts:Nat} {w W:World} (h:TrieAt kv br bt ts w) (hb:Below w.heap.size w W):TrieAt kv br bt ts W:=by
 obtain ⟨T,h1,h2,h3⟩:=h.tab
 refine ⟨h.root.below hb (Nat.lt_trans h.lt.1 h.lt.2),⟨T,h1.below hb h.lt.2,fun j hj c t e => ?_,h3⟩,h.heads,h.lens,⟨h.lt.1,Nat.lt_of_lt_of_le h.lt.2 hb.size⟩,h.many⟩
 obtain ⟨b,p,g1,g2,g3⟩:=h2 j hj c t e
 exact ⟨b,p,g1,g2,g3.below hb⟩
def LookR (kv:List (List UInt8×ByteArray)) (c:UInt8) (r:List UInt8):ByteArray×Nat×Bool :=
 match pairF kv c with
 | some (t,v)=>if t.isPrefixOf r=true then (B v,1+t.length,true) else (⟨#[]⟩,0,false)
 | none=>(⟨#[]⟩,0,false)
theorem look_c {kv:List (List UInt8×ByteArray)} {br bt ts:Nat} {W:World} (h:TrieAt kv br bt ts W) (c:UInt8) (r:List UInt8) (hr:r.length≤100000) (hp:(pairF kv c).isSome=true) :
  Calls Tryz.prog 269 #[.pointer (some ⟨br,0,none⟩),.string (B (c::r)),.bool false] W fun e w'=>e = .returned (.tuple #[.string (LookR kv c r).1,.int .i64 ((LookR kv c r).2.1:Int),.bool (LookR kv c r).2.2])∧∃ k,w'=W.drewN k:=by
 obtain ⟨tv,htv⟩:=Option.isSome_iff_exists.1 hp
 obtain ⟨t,v⟩:=tv
 obtain ⟨j,hj,e1,e2⟩:=pairF_some htv
 obtain ⟨T,h1,h2,h3⟩:=h.tab
 obtain ⟨b,p,g1,g2,g3⟩:=h2 j hj c t e1
 have hu:=used_of hj e1
 have hm:cntU (keysU kv kv.length) c.toNat<ts:=by
  rw [h.many.1];exact cnt_lt _ hu c.toNat_lt
 have hrm:replF (keysU kv kv.length) ts bt (6+c.toNat) = .int .u8 ((cntU (keysU kv kv.length) c.toNat:Nat):Int):=by
  rw [replF_map _ _ _ _ c.toNat_lt]
  simp only [mapV,hu,if_true]
 have hc0:∀ h,(B (c::r))[0]'h=c:=fun _=>rfl
 have hx:(B (c::r)).extract 1 (B (c::r)).size=B r:=by rw [B_extract];simp
 have htl:t.length≤1000:=by
  have:=h.lens _ (List.getElem_mem hj)
  rw [e1] at this;simp at this;omega
 have hts:=h.many.2
 rw [e2] at g3
 obtain ⟨_,_,g3⟩:=g3
 unfold LookR
 rw [htv]
 simp only
 rcases g3 with ⟨rfl,g3⟩|⟨hne,b2,_,_,g3,g4⟩
 ·have:=lookup_leaf br bt ts _ b _ T (B (c::r)) (B v) p W zu19 zu25 h.root h1 zu4 hm g1 rfl rfl rfl (by rw [hc0];exact hrm) g2 g3
  simpa using this
 ·have hne':¬ (B t).toList=[]:=by simpa using hne
  cases hpre:t.isPrefixOf r with
  | true =>
    have hle:t.length≤r.length:=(List.isPrefixOf_iff_prefix.1 hpre).length_le
    have:=lookup_tail br bt ts _ b _ T (B (c::r)) (B v) (B t) p W zu19 zu25 h.root h1 zu4 hm g1 rfl rfl rfl (by rw [hc0];exact hrm) g2 b2 hne' (by simpa using htl) g3 g4 (by rw [hx,B_data,B_data];exact hpre) (by rw [hx];simpa using hle)
    simpa using this
  | false =>
    have:=lookup_miss br bt ts _ b _ T (B (c::r)) (B v) (B t) p W zu19 zu25 h.root h1 zu4 hm g1 rfl rfl rfl (by rw [hc0];exact hrm) g2 b2 hne' (by simpa using htl) g3 (by rw [hx,B_data,B_data];exact hpre)
    simpa using this
theorem none_c {kv:List (List UInt8×ByteArray)} {br bt ts:Nat} {W:World} (h:TrieAt kv br bt ts W) (c:UInt8) (hp:pairF kv c=none) :
  ∃ m:Nat,W.cell? ⟨br,6+c.toNat,none⟩=some (.int .u8 (m:Int))∧(m=ts∨(m<ts∧W.cell? ⟨bt,m,none⟩=some (.pointer none))):=by
 obtain ⟨T,h1,h2,h3⟩:=h.tab
 have hc:=h.root.cell (6+c.toNat) (by have:=c.toNat_lt;omega)
 rw [replF_map _ _ _ _ c.toNat_lt] at hc
 unfold mapV at hc
 refine ⟨_,hc,?_⟩
 cases hu:usedB (keysU kv kv.length) c.toNat with
 | false=>exact .inl zu19
 | true =>
   refine .inr ?_
   simp only [if_true]
   have hm:cntU (keysU kv kv.length) c.toNat<ts:=by
    rw [h.many.1];exact cnt_lt _ hu c.toNat_lt
   refine ⟨hm,?_⟩
   rw [h1.cell _ hm,h3 _ hm]
   intro j hj d t e
   exact cnt_inj (used_of hj e) hu fun e'=>pairF_none hp j hj d t e (UInt8.toNat_inj.1 e')
theorem some_c {kv:List (List UInt8×ByteArray)} {br bt ts:Nat} {W:World} (h:TrieAt kv br bt ts W) (c:UInt8) (hp:(pairF kv c).isSome=true) :
  ∃ m b:Nat,W.cell? ⟨br,6+c.toNat,none⟩=some (.int .u8 (m:Int))∧m<ts∧W.cell? ⟨bt,m,none⟩=some (.pointer (some ⟨b,0,none⟩)):=by
 obtain ⟨tv,htv⟩:=Option.isSome_iff_exists.1 hp
 obtain ⟨t,v⟩:=tv
 obtain ⟨j,hj,e1,e2⟩:=pairF_some htv
 obtain ⟨T,h1,h2,h3⟩:=h.tab
 obtain ⟨b,p,g1,g2,g3⟩:=h2 j hj c t e1
 have hu:=used_of hj e1
 have hm:cntU (keysU kv kv.length) c.toNat<ts:=by
  rw [h.many.1];exact cnt_lt _ hu c.toNat_lt
 have hc:=h.root.cell (6+c.toNat) (by have:=c.toNat_lt;omega)
 rw [replF_map _ _ _ _ c.toNat_lt] at hc
 simp only [mapV,hu,if_true] at hc
 exact ⟨_,b,hc,hm,by rw [h1.cell _ hm,g2]⟩
end Hand
end

section
namespace Hand
open Go.RowKit Pb Pl
def TwoRes (e:Ending):Prop := ∃ n:Int,e = .returned (.tuple #[.int .i64 n,.nilIface])
theorem Buf.drewN {bb lo:Nat} {acc:List UInt8} {W:World} (h:Buf bb lo acc W) (k:Nat):Buf bb lo acc (W.drewN k) :=
 ⟨by obtain ⟨v,h1,h2⟩:=h.val;exact ⟨v,h1,h2⟩,h.le⟩
theorem Buf.drew {bb lo:Nat} {acc:List UInt8} {W:World} (h:Buf bb lo acc W):Buf bb lo acc W.drew :=
 ⟨by obtain ⟨v,h1,h2⟩:=h.val;exact ⟨v,h1,h2⟩,h.le⟩
theorem nil_ahead (n:Nat) (a:Addr) (w:World):(nilAhead (n+1) 293 (.pointer (some a)) "WriteString").run Tryz.prog w = .ok (some false) w:=by kernel_rfl
theorem meth_ws (n:Nat) (a:Addr) (w:World):(method (n+1) 293 (.pointer (some a)) "WriteString").run Tryz.prog w = .ok (279,.pointer (some a)) w:=by kernel_rfl
section
variable {f : UInt8 → Option (List UInt8 × List UInt8)} {acc s R : List UInt8} {l k : Nat}
theorem take_grow (hl:l≤k) (hk:k<s.length):(s.drop l).take (k+1 - l)=(s.drop l).take (k - l)++[s[k]]:=by
 rw [show k+1 - l=(k - l)+1 by omega,List.take_succ_eq_append_getElem zu25]
 congr 2
 rw [List.getElem_drop]
 congr 1
 omega
theorem step_skip (hl:l≤k) (hk:k<s.length) (hs:replS f 0 (s.drop k)=s[k]::replS f 0 (s.drop (k+1))) (h:acc++(s.drop l).take (k - l)++replS f 0 (s.drop k)=R) :
  acc++(s.drop l).take (k+1 - l)++replS f 0 (s.drop (k+1))=R:=by
 rw [← h,hs,take_grow hl hk];simp
theorem step_hit (v:List UInt8) (n:Nat) (hs:replS f 0 (s.drop k)=v++replS f 0 (s.drop (k+n))) (h:acc++(s.drop l).take (k - l)++replS f 0 (s.drop k)=R) :
  (acc++(s.drop l).take (k - l)++v)++(s.drop (k+n)).take (k+n - (k+n))++replS f 0 (s.drop (k+n))=R:=by
 rw [← h,hs];simp
theorem step_end (hl:l≤s.length) (h:acc++(s.drop l).take (s.length - l)++replS f 0 (s.drop s.length)=R) :
  acc++(s.drop l).take (s.length+1 - l)++replS f 0 (s.drop (s.length+1))=R:=by
 rw [← h,List.drop_length,List.drop_eq_nil_of_le (show s.length≤s.length+1 by omega),List.take_of_length_le zu47,List.take_of_length_le zu47]
theorem step_out (hl:l≤s.length) (h:acc++(s.drop l).take (s.length+1 - l)++replS f 0 (s.drop (s.length+1))=R):acc++s.drop l=R:=by
 rw [← h,List.drop_eq_nil_of_le (show s.length≤s.length+1 by omega),List.take_of_length_le zu47,replS_nil,List.append_nil]
end
theorem gen_write (kv:List (List UInt8×ByteArray)) (br bt ts bb lo:Nat) (s:List UInt8) (W0 w:World) (hT:TrieAt kv br bt ts W0) (hw:Below W0.heap.size W0 w) (hs:s.length≤100000) (hbb:W0.heap.size≤lo) (hB:Buf bb lo [] w)
  (hv:∀ x∈kv,x.2.size≤100) :
  Calls Tryz.prog 267 #[.pointer (some ⟨br,0,none⟩),.iface 293 (.pointer (some ⟨bb,0,none⟩)),.string (B s)] w fun e w'=>TwoRes e∧Buf bb lo (replS (pairF kv) 0 s) w'∧Below W0.heap.size W0 w':=by
 have HT:=Lib.hid hT
 have HW:=Lib.hid hw
 have HB:=Lib.hid hB
 obtain ⟨R,hR⟩:∃ R,replS (pairF kv) 0 s=R:=⟨_,rfl⟩
 rw [hR]
 have HR:=Lib.hid hR
 obtain ⟨a,ha⟩:∃ a,B s=a:=⟨_,rfl⟩
 have hza:a.size=s.length:=by rw [← ha];simp
 have had:a.data.toList=s:=by rw [← ha,B_data]
 have hz:a.size≤100000:=by omega
 rw [ha]
 have HA:=Lib.hid ha
 have HZ:=Lib.hid hza
 have HV:=Lib.hid hv
 clear hT hw hB hR ha hza had hs hv
 go_enter Tryz.func267,Tryz.ntmps267
 go_wp2_with fail
 refine (getSW _ _).mono ?_
 rintro e w1 ⟨rfl,rfl⟩
 go_wp2_with fail
 go_loopw [6,7,9,11,12] (fun n er la pm i wr => ∃ (z:Int) (l k:Nat) (acc:List UInt8),n = .int .i64 z∧er = .nilIface∧la = .int .i64 (l:Int)∧pm = .bool false∧i = .int .i64 (k:Int)∧l≤k∧k≤a.size+1∧l≤a.size ∧
  Hid (acc++(s.drop l).take (k - l)++replS (pairF kv) 0 (s.drop k)=R)∧Hid (Buf bb lo acc wr)∧Hid (Below W0.heap.size W0 wr)∧Hid (acc.length≤100*l)) (fun _ _ _ _ i _=>a.size+1 - (intOf i).toNat)
 case atStart=>exact ⟨0,0,0,[],rfl,rfl,rfl,rfl,rfl,Nat.le_refl _,zu4,zu4,Lib.hid (by rw [Nat.sub_self,List.take_zero,List.drop_zero,List.nil_append];exact HR.out),HB,HW,Lib.hid zu19⟩
 case round =>
  clear HB HW
  obtain ⟨z,l,k,acc,rfl,rfl,rfl,rfl,rfl,hlk,hk,hl,HQ,HB,HW,HAL⟩:=hrel
  by_cases hlt:k<a.size
  ·have hks:k<s.length:=by rw [← HZ.out];exact hlt
   have hca:a[k]=s[k]:=by
    have h:=HA.out
    subst h
    rfl
   have hdr:s.drop k=a[k]::s.drop (k+1):=by rw [List.drop_eq_getElem_cons hks,hca]
   have hTr:=HT.out.below HW.out
   have c1:=hTr.root.cell 1 zu4
   have c4:=hTr.root.cell 4 zu4
   have c5:=hTr.root.cell 5 zu4
   rw [replF_1] at c1
   rw [replF_4] at c4
   rw [replF_5] at c5
   have hts:=hTr.many.2
   have hb0:(0:Int)≤(a[k].toNat:Int):=by omega
   have hb1:(a[k].toNat:Int)<256:=by have:=a[k].toNat_lt;omega
   have hb2:a[k].toNat<256:=by have:=a[k].toNat_lt;omega
   have hk0:(0:Int)≤(k:Int):=by omega
   have hk1:(k:Int)<(a.size:Int):=by omega
   have hk2:(k:Int)≤(a.size:Int):=by omega
   have e0:((k:Int) != (a.size:Int))=true:=by rw [bne_iff_ne];omega
   cases hp:pairF kv (a[k]) with
   | none =>
     obtain ⟨m,hm,hor⟩:=none_c hTr (a[k]) hp
     have HQ2:Hid (acc++(s.drop l).take (k+1 - l)++replS (pairF kv) 0 (s.drop (k+1))=R):=Lib.hid (step_skip hlk hks (by rw [hdr,replS_none hp,hca]) HQ.out)
     clear hTr hdr hca hks HQ hp
     have hm0:(0:Int)≤(m:Int):=by omega
     have hml:m≤200:=by rcases hor with h|h<;>omega
     have HWM:=Lib.hid (show wrap64 (m:Int)=(m:Int) from wrap_id _ zu4 zu4)
     rcases hor with hor|⟨hmt,hor⟩
     ·have e1:((m:Int) == (ts:Int))=true:=by rw [hor];simp
      clear hor
      have hwm:=HWM.out
      go_wp2_with fail
      go_quiet (fail)
      go_wp2_with fail
      clear hwm
      go_roundw
      case rel=>exact ⟨z,l,k+1,acc,rfl,rfl,rfl,rfl,by go_num,zu4,zu4,hl,HQ2,Lib.hid (HB.out.drewN _),Lib.hid (HW.out.trans (Below.of_drewN _ _ _)),HAL⟩
      case measure=>simp [intOf];omega
     ·have e1:((m:Int) == (ts:Int))=false:=by rw [beq_eq_false_iff_ne];omega
      have hm1:(m:Int)<(ts:Int):=by omega
      have hwm:=HWM.out
      go_wp2_with fail
      go_quiet (fail)
      go_wp2_with fail
      clear hwm
      go_roundw
      case rel=>exact ⟨z,l,k+1,acc,rfl,rfl,rfl,rfl,by go_num,zu4,zu4,hl,HQ2,Lib.hid (HB.out.drewN _),Lib.hid (HW.out.trans (Below.of_drewN _ _ _)),HAL⟩
      case measure=>simp [intOf];omega
   | some tv =>
     obtain ⟨t,v⟩:=tv
     obtain ⟨m,b,hm,hmt,hmb⟩:=some_c hTr (a[k]) (by rw [hp];rfl)
     have hr:(s.drop (k+1)).length≤100000:=by have:=HZ.out;simp;omega
     have C:=fun W (hb:Below wr.heap.size wr W)=>look_c (hTr.below hb) (a[k]) (s.drop (k+1)) hr (by rw [hp];rfl)
     have hx:a.extract k a.size=B (a[k]::s.drop (k+1)):=by
      rw [← hdr,← HA.out,B_extract,size_B,List.take_length]
     rw [← hx] at C
     have hvz:v.length≤100:=by
      obtain ⟨j,hj,_,e2⟩:=pairF_some hp
      have:=HV.out _ (List.getElem_mem hj)
      rw [e2] at this;simpa using this
     have hm0:(0:Int)≤(m:Int):=by omega
     have hm1:(m:Int)<(ts:Int):=by omega
     have HWM:=Lib.hid (show wrap64 (m:Int)=(m:Int) from wrap_id _ zu4 zu4)
     have e1:((m:Int) == (ts:Int))=false:=by rw [beq_eq_false_iff_ne];omega
     unfold LookR at C
     rw [hp] at C
     simp only at C
     cases hpre:t.isPrefixOf (s.drop (k+1)) with
     | false =>
       rw [hpre] at C
       simp only [Bool.false_eq_true,if_false] at C
       have HQ2:Hid (acc++(s.drop l).take (k+1 - l)++replS (pairF kv) 0 (s.drop (k+1))=R):=Lib.hid (step_skip hlk hks (by rw [hdr,replS_miss hp (by rw [hpre];simp),hca]) HQ.out)
       have HC:=Lib.hid C
       clear hTr hdr hca hks HQ hp C hx hr hpre
       have hwm:=HWM.out
       go_wp2_with fail
       go_quiet (fail)
       go_wp2_with fail
       clear hwm
       refine (HC.out _ (Below.of_drewN _ _ _)).mono ?_
       rintro e w2 ⟨rfl,q,rfl⟩
       go_wp2_with fail
       go_roundw
       case rel=>exact ⟨z,l,k+1,acc,rfl,rfl,rfl,rfl,by go_num,zu4,zu4,hl,HQ2,Lib.hid (HB.out.drewN _),Lib.hid (HW.out.trans (Below.of_drewN _ _ _)),HAL⟩
       case measure=>simp [intOf];omega
     | true =>
       rw [hpre] at C
       simp only [if_true] at C
       have hle:t.length≤(s.drop (k+1)).length:=(List.isPrefixOf_iff_prefix.1 hpre).length_le
       rw [List.length_drop] at hle
       obtain ⟨n,hn⟩:∃ n,1+t.length=n:=⟨_,rfl⟩
       have hn1:1≤n:=by omega
       have hkn:k+n≤a.size:=by have:=HZ.out;omega
       have HQ2:Hid ((acc++(s.drop l).take (k - l)++v)++(s.drop (k+n)).take (k+n - (k+n))++replS (pairF kv) 0 (s.drop (k+n))=R) :=
        Lib.hid (step_hit v n (by rw [hdr,replS_hit hp hpre,List.drop_drop,← hn];congr 3;omega) HQ.out)
       rw [hn] at C
       have HC:=Lib.hid C
       have hx1:a.extract l k=B ((s.drop l).take (k - l)):=by
        rw [← HA.out,B_extract,List.drop_take]
       have HX1:=Lib.hid hx1
       have hsl:((s.drop l).take (k - l)).length≤k - l:=List.length_take_le _ _
       have HAL2:Hid ((acc++(s.drop l).take (k - l)++v).length≤100*(k+n)):=Lib.hid (by have:=HAL.out;simp only [List.length_append];omega)
       have hz1:acc.length+((s.drop l).take (k - l)).length≤100000000:=by have:=HAL.out;omega
       have hz2:(acc++(s.drop l).take (k - l)).length+v.length≤100000000:=by have:=HAL.out;rw [List.length_append];omega
       have D1:=Lib.hid (fun W (h:Buf bb lo acc W)=>aw_write bb lo acc ((s.drop l).take (k - l)) W h hz1)
       have D2:=Lib.hid (fun W (h:Buf bb lo (acc++(s.drop l).take (k - l)) W)=>aw_write bb lo (acc++(s.drop l).take (k - l)) v W h hz2)
       obtain ⟨vb,hvb⟩:∃ x,B v=x:=⟨_,rfl⟩
       rw [hvb] at HC D2
       have e2:((n:Int) == 0)=false:=by rw [beq_eq_false_iff_ne];omega
       have hl0:(0:Int)≤(l:Int):=by omega
       have hl1:(l:Int)≤(k:Int):=by omega
       clear hTr hdr hca hks HQ hp C hx hr hpre hn hx1 hsl hz1 hz2 hvb hle
       have HKN:=Lib.hid hkn
       have HN1:=Lib.hid hn1
       clear hkn hn1
       have hwm:=HWM.out
       go_wp2_with fail
       go_quiet (fail)
       go_wp2_with fail
       clear hwm
       refine (HC.out _ (Below.of_drewN _ _ _)).mono ?_
       rintro e w2 ⟨rfl,q,hw2⟩
       have HB2:Hid (Buf bb lo acc w2):=Lib.hid (by rw [hw2];exact (HB.out.drewN _).drewN _)
       have HW2:Hid (Below W0.heap.size W0 w2):=Lib.hid (by rw [hw2];exact (HW.out.trans (Below.of_drewN _ _ _)).trans (Below.of_drewN _ _ _))
       clear HC HB HW hw2 hm hmb c1 c4 c5 HWM
       have hmf:∀ (fn:Fn) (first cap:Array Value) (w:World),(Instr.makeFunc fn first cap).run Tryz.prog w = .ok (.func fn first cap) w:=fun _ _ _ _=>rfl
       have hna:=nil_ahead
       have hme:=meth_ws
       have HBd:=Lib.hid (HB2.out.drew)
       have HWd:=Lib.hid (HW2.out.drew)
       clear HB2 HW2
       go_wp2_with fail
       go_region_held3 (fun _=>True) (exact trivial) ((go_at_call 279;rw [HX1.out];refine (D1.out _ HBd.out).mono ?_;rintro e w3 ⟨rfl,hb1,hb2⟩))
       have HB3:=Lib.hid (by assumption:Buf bb lo (acc++(s.drop l).take (k - l)) _)
       have HW3:=Lib.hid (HWd.out.trans (Below.mono (by assumption:Below lo _ _) hbb))
       clear HBd HWd D1
       go_wp2_with fail
       refine (D2.out _ HB3.out).mono ?_
       rintro e w4 ⟨rfl,hb3,hb4⟩
       have HB4:=Lib.hid hb3
       have HW4:=Lib.hid (HW3.out.trans (hb4.mono hbb))
       clear hb3 hb4 HB3 HW3 D2
       have hkn2:k+n≤a.size:=HKN.out
       have hn2:1≤n:=HN1.out
       have hle2:k+n≤a.size+1:=by omega
       go_wp2_with fail
       go_roundw
       case rel=>exact ⟨_,k+n,k+n,acc++(s.drop l).take (k - l)++v,rfl,rfl,by go_num,rfl,by go_num,Nat.le_refl _,hle2,hkn2,HQ2,HB4,HW4,HAL2⟩
       case measure=>simp [intOf];omega
  ·by_cases hke:k=a.size
   ·subst hke
    have C:=Lib.hid (fun W (hW:Below W0.heap.size W0 W)=>lookup_end br _ W (HT.out.below hW).root rfl)
    have HQ2:Hid (acc++(s.drop l).take (a.size+1 - l)++replS (pairF kv) 0 (s.drop (a.size+1))=R):=Lib.hid (by
     have h:=HQ.out
     have h2:=HZ.out
     rw [h2] at h ⊢
     exact step_end zu4 h)
    have hx:a.extract a.size a.size=⟨#[]⟩:=by
     have h:=HA.out
     subst h
     rw [B_extract,size_B,List.take_length,List.drop_length]
     rfl
    have e1:((a.size:Int) != (a.size:Int))=false:=by simp
    clear HQ
    go_wp2_with fail
    refine (C.out _ HW.out).mono ?_
    rintro e w2 ⟨rfl,q,rfl⟩
    replace HB:Hid (Buf bb lo acc (wr.drewN q)):=Lib.hid (HB.out.drewN q)
    replace HW:Hid (Below W0.heap.size W0 (wr.drewN q)):=Lib.hid (HW.out.trans (Below.of_drewN _ _ _))
    clear C
    go_wp2_with fail
    go_roundw
    case rel=>exact ⟨z,l,a.size+1,acc,rfl,rfl,rfl,rfl,by go_num,zu4,zu4,hl,HQ2,HB,HW,HAL⟩
    case measure=>simp [intOf]
   ·obtain rfl:k=a.size+1:=by omega
    have hq:=HQ.out
    have h2:=HZ.out
    rw [h2] at hq
    have HO:Hid (acc++s.drop l=R):=Lib.hid (step_out zu4 hq)
    clear hq h2 HQ
    by_cases hle:l=a.size
    ·subst hle
     have HO2:Hid (acc=R):=Lib.hid (by have h:=HO.out;rw [List.drop_eq_nil_of_le (by have:=HZ.out;omega),List.append_nil] at h;exact h)
     have e1:((a.size:Int) != (a.size:Int))=false:=by simp
     clear HO
     go_wp2_with fail
     go_ret2
     exact ⟨⟨_,rfl⟩,by rw [← HO2.out];exact HB.out,HW.out⟩
    ·have e1:((l:Int) != (a.size:Int))=true:=by rw [bne_iff_ne];omega
     have hx:a.extract l a.size=B (s.drop l):=by
      rw [← HA.out,B_extract,size_B,List.take_length]
     have HX:=Lib.hid hx
     clear hx
     have hmf:∀ (fn:Fn) (first cap:Array Value) (w:World),(Instr.makeFunc fn first cap).run Tryz.prog w = .ok (.func fn first cap) w:=fun _ _ _ _=>rfl
     have hl0:(0:Int)≤(l:Int):=by omega
     have hl1:(l:Int)≤(a.size:Int):=by omega
     go_wp2_with fail
     have hna:=nil_ahead
     have hme:=meth_ws
     have C:=Lib.hid (fun W (h:Buf bb lo acc W)=>aw_write bb lo acc (s.drop l) W h (by have:=HAL.out;have:=HZ.out;simp;omega))
     have HBd:=Lib.hid (HB.out.drew)
     have HWd:=Lib.hid (HW.out.drew)
     clear HB HW
     go_region_with (go_at_call 279;rw [HX.out];refine (C.out _ HBd.out).mono ?_;rintro e w2 ⟨rfl,hb1,hb2⟩)
     all_goals
      have HB:=Lib.hid (by assumption:Buf bb lo (acc++s.drop l) _)
      have HW:=Lib.hid (HWd.out.trans (Below.mono (by assumption:Below lo _ _) hbb))
      go_wp2_with fail
      go_ret2
      exact ⟨⟨_,rfl⟩,by rw [← HO.out];exact HB.out,HW.out⟩
end Hand
end

section
namespace Hand
open Go.RowKit Pb Pl
theorem owns_string {W:World} {lo:Nat} {v:Value} {l:List UInt8} (h:W.ownsRow lo 5 1 v l.length (Lib.byteCells l)):(convert 292 9 v).run Tryz.prog W = .ok (.string (B l)) W:=by
 rcases h.2 with ⟨rfl,hn⟩|⟨g,cap,cur,rfl,_⟩
 ·obtain rfl:=List.eq_nil_of_length_eq_zero hn
  exact run_convert_bytes_nil W 292 5 Tryz.underlying292 Tryz.underlying5 0 0 9 Tryz.underlying9
 ·have hc:=h.cells (g:=g) rfl
  exact run_convert_bytes_back (P:=Tryz.prog) W 292 9 5 ⟨g,0,none⟩ cap l Tryz.underlying292 Tryz.underlying5 Tryz.underlying9 (fun j hj=>hc j _ (by simp [Lib.byteCells,List.getElem?_eq_getElem hj]))
theorem gen_replace (kv:List (List UInt8×ByteArray)) (br bt ts:Nat) (s:List UInt8) (W0:World) (hT:TrieAt kv br bt ts W0) (hs:s.length≤100000)
  (hv:∀ x∈kv,x.2.size≤100) (hr:(replS (pairF kv) 0 s).length≤100000000) :
  Calls Tryz.prog 266 #[.pointer (some ⟨br,0,none⟩),.string (B s)] W0 fun e w'=>e = .returned (.string (B (replS (pairF kv) 0 s)))∧Below W0.heap.size W0 w':=by
 obtain ⟨i,hi,hzz⟩:=Option.map_eq_some_iff.1 info_u8
 simp only [Prod.mk.injEq] at hzz
 obtain ⟨hz0,hs1,hb1⟩:=hzz
 obtain ⟨w1,hmk,hown,hgr⟩:=run_makeSlice_owned (P:=Tryz.prog) W0 W0.heap.size 292 5 i (.int .u8 0) 1 Tryz.underlying292 hi hz0 hs1 .i64 .i64 s.length zu4 (by rw [hb1];omega) zu73 (Nat.le_refl _)
 have hb1:Below W0.heap.size W0 w1:=(Below.refl _ _).grown hgr (Nat.le_refl _) (fun k h=>by cases h)
 have hlt1:W0.heap.size<w1.heap.size:=(hown.lt W0.heap.size rfl).2
 have hB0:Buf w1.heap.size W0.heap.size [] (w1.alloc (.cells #[.slice (some ⟨W0.heap.size,0,none⟩) 0 s.length] 292)) :=
  ⟨⟨_,heap_alloc_new _ _,hown.alloc _⟩,Nat.le_of_lt hlt1⟩
 have C:=Lib.hid (gen_write kv br bt ts w1.heap.size W0.heap.size s W0 _ hT (hb1.alloc (Nat.le_of_lt hlt1) (.cells #[.slice (some ⟨W0.heap.size,0,none⟩) 0 s.length] 292)) hs (Nat.le_refl _) hB0 hv)
 obtain ⟨R,hR⟩:∃ R,replS (pairF kv) 0 s=R:=⟨_,rfl⟩
 rw [hR] at C hr ⊢
 have hsz:(B s).size=s.length:=by simp
 clear hR hB0 hb1 hlt1 hown hgr hi hz0 hs1
 go_enter Tryz.func266,Tryz.ntmps266
 go_wp2_with fail
 refine C.out.mono ?_
 rintro e w2 ⟨⟨n,rfl⟩,hB,hW⟩
 obtain ⟨v,hh,hown2⟩:=hB.val
 have hv1:=cell_of_one hh
 have hcv:=owns_string hown2
 have HW:=Lib.hid hW
 clear hmk hB hW hh hown2 C hT hv
 go_wp2_with fail
 go_ret
 exact ⟨rfl,HW.out⟩
end Hand
end

section
namespace Hand
open Go.RowKit Pb Pl
structure NewR (strs:List ByteArray) (rb b2 c:Nat) (w W:World):Prop where
 blk:Blk rb #[.int .u32 0,.int .i32 0,.int .u32 0,.nilIface,.slice (some ⟨b2,0,none⟩) strs.length c] W
 old:BlkF b2 strs.length (strV strs) W
 below:Below w.heap.size w W
 le:w.heap.size≤b2∧b2<rb∧rb<W.heap.size
theorem info_str:(Tryz.prog.info? 9).map (fun i=>(i.zero,i.size,i.bytes))=some (some (.string ByteArray.empty),1,16):=by kernel_rfl
theorem strV_get (l:List ByteArray) (j:Nat) (h:j<l.length):(l.map Value.string)[j]? = some (strV l j):=by
 rw [List.getElem?_map,List.getElem?_eq_getElem h]
 unfold strV
 rw [List.getD_eq_getElem?_getD,List.getElem?_eq_getElem h];rfl
theorem owns_blkF {W:World} {lo e g c:Nat} {l:List ByteArray} (h:W.ownsRow lo e 1 (.slice (some ⟨g,0,none⟩) l.length c) l.length (l.map .string)):BlkF g l.length (strV l) W:=by
 refine ⟨fun j hj => ?_,fun j => ?_⟩
 ·have:=h.cells (g:=g) rfl j _ (strV_get l j hj)
  have hadd:(⟨g,0,none⟩:Addr).add j=⟨g,j,none⟩:=by unfold Addr.add;split<;>simp_all
  rw [hadd] at this;exact this
 ·rcases h.2 with ⟨h1,_⟩|⟨g',cap,cur,h1,_,hh,_⟩
  ·cases h1
  ·have:g=g':=by simp at h1;exact h1.1
   subst this
   simp [World.frozen?,hh]
theorem new_replacer (bo cap:Nat) (strs:List ByteArray) (w:World) (ho:BlkF bo strs.length (strV strs) w) (hbo:bo<w.heap.size) (hn:0<strs.length) (h2:strs.length % 2=0) (hm:strs.length≤1000) :
  Calls Tryz.prog 91 #[.slice (some ⟨bo,0,none⟩) strs.length cap] w fun e w' => ∃ rb b2 c,e = .returned (.pointer (some ⟨rb,0,none⟩))∧NewR strs rb b2 c w w':=by
 obtain ⟨i,hi,hzz⟩:=Option.map_eq_some_iff.1 info_str
 simp only [Prod.mk.injEq] at hzz
 obtain ⟨hz0,hs1,hb1⟩:=hzz
 obtain ⟨N,hN⟩:∃ N,strs.length=N:=⟨_,rfl⟩
 have hnews:∀ j u,(strs.map Value.string)[j]? = some u→w.cell? ((⟨bo,0,none⟩:Addr).add j)=some u:=by
  intro j u hu
  have hj:j<strs.length:=by
   rcases Nat.lt_or_ge j strs.length with h|h
   ·exact h
   ·rw [List.getElem?_eq_none zu46] at hu;cases hu
  have hadd:(⟨bo,0,none⟩:Addr).add j=⟨bo,j,none⟩:=by unfold Addr.add;split<;>simp_all
  rw [hadd,ho.cell j hj,← hu,strV_get strs j hj]
 have h1:∀ u∈strs.map Value.string,u.oneCell'=true:=by
  intro u hu
  obtain ⟨_,_,rfl⟩:=List.mem_map.1 hu
  rfl
 have hlen:(strs.map Value.string).length=strs.length*1:=by simp
 rw [hN] at hn h2 hm hlen ⊢
 have hrem:((N:Int).tmod 2 == 1)=false:=by
  rw [beq_eq_false_iff_ne,Int.tmod_eq_emod_of_nonneg zu4];omega
 have hrem2:((N:Int) % 2 == 1)=false:=by rw [beq_eq_false_iff_ne];omega
 have HI:=Lib.hid hi
 have HZ:=Lib.hid hz0
 have HS1:=Lib.hid hs1
 have HB1:=Lib.hid hb1
 have HNEWS:=Lib.hid hnews
 have H1:=Lib.hid h1
 have HL:=Lib.hid hlen
 have HN:=Lib.hid hN
 clear hi hz0 hs1 hb1 hnews h1 hlen ho hN
 go_enter Tryz.func91,Tryz.ntmps91
 go_wp2_with (with_reducible refine wpList_append_own _ rfl (.const (.slice none 0 0)) (.tmp 8) 42 rfl w.heap.size 9 i (.string ByteArray.empty) 1 16 Tryz.underlying42 HI.out HZ.out HS1.out HB1.out rfl zu15 (.slice none 0 0) 0 [] rfl (World.ownsRow_nil _ _ _ _) ⟨bo,0,none⟩ N cap (strs.map Value.string) rfl HL.out HNEWS.out H1.out zu73 zu4 (Nat.le_refl _) ?_)
 intro v' w1 hown hgr hnil
 have hbel:Below w.heap.size w w1:=(Below.refl _ _).grown hgr (Nat.le_refl _) (fun k h=>by cases h)
 replace hown:w1.ownsRow w.heap.size 9 1 v' N (strs.map Value.string):=by simpa only [Nat.zero_add,List.nil_append] using hown
 rcases hown.2 with ⟨hv,h0⟩|⟨g,c,cur,rfl,hg1,hg2,_⟩
 ·omega
 ·have hlt:=(hown.lt g rfl).2
  have hF:BlkF g strs.length (strV strs) w1:=by
   have:=hown
   rw [← HN.out] at this
   exact owns_blkF this
  have HF:=Lib.hid hF
  have HB:=Lib.hid hbel
  clear hown hgr hnil hF hbel hg2
  have HA:=Lib.hid (Below.alloc (Below.refl w1.heap.size w1) (Nat.le_refl _) (.cells #[.int .u32 0,.int .i32 0,.int .u32 0,.nilIface,.slice (some ⟨g,0,none⟩) N c] 157))
  go_wp2_with fail
  go_ret
  refine ⟨w1.heap.size,g,c,rfl,⟨?_,HF.out.below HA.out hlt,HB.out.trans (HA.out.mono HB.out.size),hg1,hlt,zu19⟩⟩
  rw [HN.out]
  exact Blk.of_alloc _ _ _
end Hand
end

section
namespace Hand
open Go.RowKit Pb Pl
structure Words (kv:List (List UInt8×ByteArray)):Prop where
 heads:Heads kv
 lens:∀ x∈kv,x.1.length≤1000
 vals:∀ x∈kv,x.2.size≤100
 many:kv.length≤100
 cnt:cntU (keysU kv kv.length) 256≤200
 long:∃ j,∃ h:j<kv.length,kv[j].1.length≠1
 two:2≤kv.length
theorem trie_of {kv:List (List UInt8×ByteArray)} {n br bt ts:Nat} {w W:World} (hk:Words kv) (h:TrieSt n br bt (bt+1) ts (keysU kv kv.length) kv kv.length w W) (h1:br<bt) (h2:ts≤200) (h3:ts=cntU (keysU kv kv.length) 256):TrieAt kv br bt ts W:=by
 obtain ⟨T,g1,g2,g3⟩:=h.tab
 exact ⟨h.root,⟨T,g1,fun j hj c t e=>g2 j hj hj c t e,fun x hx hxe=>g3 x hx fun j hj _=>hxe j hj⟩,hk.heads,hk.lens,⟨h1,h.size⟩,h3,h2⟩
theorem NodeAt.put {lo b b0 k:Nat} {t:List UInt8} {v:ByteArray} {p:Int} {W:World} (h:NodeAt lo b t v p W) (x:Value) (hb:b0<lo):NodeAt lo b t v p (W.setCell ⟨b0,k,none⟩ x):=by
 obtain ⟨h1,h2,h3⟩:=h
 refine ⟨h1,by simpa using h2,?_⟩
 rcases h3 with ⟨ht,h3⟩|⟨ht,b2,h4,h5,h6,h7⟩
 ·exact .inl ⟨ht,h3.other k x zu4⟩
 ·exact .inr ⟨ht,b2,h4,by simpa using h5,h6.other k x zu4,h7.other k x zu4⟩
theorem TrieAt.put {kv:List (List UInt8×ByteArray)} {br bt ts b0 k:Nat} {W:World} (h:TrieAt kv br bt ts W) (x:Value) (hb:b0<br):TrieAt kv br bt ts (W.setCell ⟨b0,k,none⟩ x):=by
 obtain ⟨T,h1,h2,h3⟩:=h.tab
 have hl:=h.lt
 refine ⟨h.root.other k x zu4,⟨T,h1.other k x zu4,fun j hj c t e => ?_,h3⟩,h.heads,h.lens,⟨hl.1,by simpa using hl.2⟩,h.many⟩
 obtain ⟨b,p,g1,g2,g3⟩:=h2 j hj c t e
 exact ⟨b,p,g1,g2,g3.put x zu4⟩
def Built (kv:List (List UInt8×ByteArray)) (w:World) (e:Ending) (w':World):Prop :=
 e = .returned (.iface 209 (.pointer (some ⟨w.heap.size,0,none⟩)))∧∃ bt ts,TrieAt kv w.heap.size bt ts w'∧Below w.heap.size w w'
theorem build_gen (kv:List (List UInt8×ByteArray)) (rb b2 c:Nat) (w:World) (hk:Words kv) (hc:w.cell? ⟨rb,4,none⟩=some (.slice (some ⟨b2,0,none⟩) (2*kv.length) c)) (hb:BlkF b2 (2*kv.length) (strV (flatKV kv)) w) (hb2:b2<w.heap.size) :
  Calls Tryz.prog 169 #[.pointer (some ⟨rb,0,none⟩)] w (Built kv w):=by
 have CM:Hid (Calls Tryz.prog 193 #[.slice (some ⟨b2,0,none⟩) (2*kv.length) c] w (fun e w'=>e = .returned (.pointer (some ⟨w.heap.size,0,none⟩))∧∃ bt ts,TrieAt kv w.heap.size bt ts w'∧Below w.heap.size w w')):=Lib.hid (by
  refine (make_gen b2 c kv w hk.many hk.cnt hk.lens hk.heads hb hb2).mono ?_
  rintro e w' ⟨rfl,bt,ts,h0,h1,h2,h4⟩
  exact ⟨rfl,bt,ts,trie_of hk h4 h2 h1 h0,h4.below⟩)
 obtain ⟨jl,hjl,hjn⟩:=hk.long
 have hmany:=hk.many
 have htwo:=hk.two
 have e2:(2*(kv.length:Int) == 2)=false:=by rw [beq_eq_false_iff_ne];omega
 have HB:=Lib.hid hb
 have HJ:=Lib.hid hjn
 clear hb hb2 hk hjn
 go_enter Tryz.func169,Tryz.ntmps169
 go_wp2_with fail
 go_loop [4,5] (fun x i => ∃ (b:Bool) (q:Nat),x = .bool b∧i = .int .i64 (2*(q:Int))∧q≤jl) (fun _ i=>2*kv.length - (intOf i).toNat)
 case atStart=>exact ⟨true,0,rfl,rfl,Nat.zero_le _⟩
 case round =>
  obtain ⟨b,q,rfl,rfl,hq⟩:=hrel
  have hlt:q<kv.length:=by omega
  have hkey:=HB.out.cell (2*q) zu4
  have hval:=HB.out.cell (2*q+1) zu4
  rw [strV_at (flatKV_key kv q hlt)] at hkey
  rw [strV_at (flatKV_val kv q hlt)] at hval
  obtain ⟨K,hK⟩:∃ K,B kv[q].1=K:=⟨_,rfl⟩
  obtain ⟨V,hV⟩:∃ V,kv[q].2=V:=⟨_,rfl⟩
  have hKs:K.size=kv[q].1.length:=by rw [← hK];simp
  rw [hK] at hkey
  rw [hV] at hval
  clear hK hV
  by_cases h1:K.size=1
  ·have hqj:q<jl:=by
    rcases Nat.lt_or_ge q jl with h|h
    ·exact h
    ·obtain rfl:q=jl:=by omega
     exact absurd (hKs.symm.trans h1) HJ.out
   have e1:((K.size:Int) != 1)=false:=by rw [h1];rfl
   clear hKs h1
   by_cases h3:V.size=1
   ·have e3:((V.size:Int) != 1)=false:=by rw [h3];rfl
    clear h3
    go_wp2_with fail
    go_round
    case rel=>exact ⟨b,q+1,rfl,by go_num,zu4⟩
    case measure=>simp [intOf];omega
   ·have e3:((V.size:Int) != 1)=true:=by rw [bne_iff_ne];omega
    clear h3
    go_wp2_with fail
    go_round
    case rel=>exact ⟨false,q+1,rfl,by go_num,zu4⟩
    case measure=>simp [intOf];omega
  ·have e1:((K.size:Int) != 1)=true:=by rw [bne_iff_ne];omega
   clear hKs h1
   go_wp2_with fail
   refine CM.out.mono ?_
   rintro e w' ⟨rfl,hw⟩
   have HW:=Lib.hid hw
   clear hw
   go_wp2_with fail
   go_ret
   exact ⟨rfl,HW.out⟩
structure Ready (kv:List (List UInt8×ByteArray)) (rb:Nat) (W:World):Prop where
 ex:∃ br bt ts,W.cell? ⟨rb,3,none⟩=some (.iface 209 (.pointer (some ⟨br,0,none⟩)))∧TrieAt kv br bt ts W∧rb<br
theorem build_once (kv:List (List UInt8×ByteArray)) (rb b2 c n:Nat) (w:World) (hk:Words kv) (hr:Blk rb #[.int .u32 0,.int .i32 1,.int .u32 0,.nilIface,.slice (some ⟨b2,0,none⟩) (2*kv.length) c] w) (hb:BlkF b2 (2*kv.length) (strV (flatKV kv)) w)
  (hb2:b2<w.heap.size) (hrb:rb<w.heap.size) (hn:n≤rb):OnceRun rb w (fun w'=>Ready kv rb w'∧Below n w w'):=by
 refine ⟨?_⟩
 have hc4:=hr.cell 4 zu19
 simp only [List.getElem?_toArray,List.getElem?_cons_succ,List.getElem?_cons_zero] at hc4
 have C:=Lib.hid (build_gen kv rb b2 c w hk hc4 hb hb2)
 have HR:=Lib.hid hr
 clear hr hc4 hb hb2 hk
 go_enter Tryz.func128,Tryz.ntmps128
 go_wp2_with fail
 refine C.out.mono ?_
 rintro e w1 ⟨rfl,bt,ts,hT,hB⟩
 have hr1:=HR.out.below hB hrb
 have c3:=hr1.cell 3 zu19
 simp only [List.getElem?_toArray,List.getElem?_cons_succ,List.getElem?_cons_zero] at c3
 have c4:=fun x=>(hr1.set 3 x zu19).cell 4 zu19
 simp only [List.setIfInBounds_toArray,List.set_cons_succ,List.set_cons_zero,List.getElem?_toArray,List.getElem?_cons_succ,List.getElem?_cons_zero] at c4
 have hf:=hr1.open_
 have hfin:=fun x y=>(hr1.set 3 x zu19).set 4 y zu19
 simp only [List.setIfInBounds_toArray,List.set_cons_succ,List.set_cons_zero] at hfin
 have HF:=Lib.hid hfin
 have HT:=Lib.hid (fun x y=>(hT.put (b0:=rb) (k:=3) x hrb).put (b0:=rb) (k:=4) y hrb)
 have HB:=Lib.hid (fun x y=>((hB.mono (show n≤w.heap.size by omega)).setCell (p:=⟨rb,3,none⟩) hn x).setCell (p:=⟨rb,4,none⟩) hn y)
 clear hr1 hfin hT hB C HR
 go_wp2_with fail
 go_end0
 refine ⟨rfl,?_,?_,?_,?_,⟨⟨w.heap.size,bt,ts,?_,HT.out _ _,hrb⟩⟩,HB.out _ _⟩
 ·exact (HF.out _ _).cell 0 zu19
 ·exact (HF.out _ _).cell 1 zu19
 ·exact (HF.out _ _).open_ 0
 ·exact (HF.out _ _).open_ 1
 ·exact (HF.out _ _).cell 3 zu19
theorem meth_rep (n:Nat) (a:Addr) (w:World):(method (n+1) 209 (.pointer (some a)) "Replace").run Tryz.prog w = .ok (266,.pointer (some a)) w:=by kernel_rfl
theorem repl_replace (kv:List (List UInt8×ByteArray)) (rb b2 c n:Nat) (s:List UInt8) (w0 w:World) (hk:Words kv) (hN:NewR (flatKV kv) rb b2 c w0 w) (hn:n≤w0.heap.size) (hs:s.length≤100000) (hr:(replS (pairF kv) 0 s).length≤100000000) :
  Calls Tryz.prog 92 #[.pointer (some ⟨rb,0,none⟩),.string (B s)] w fun e w'=>e = .returned (.string (B (replS (pairF kv) 0 s)))∧Below n w w':=by
 have hlen:=flatKV_length kv
 obtain ⟨hblk,hold,hbel,hle⟩:=hN
 rw [hlen] at hblk hold
 have h1:=hblk.set 1 (.int .i32 1) zu19
 simp only [List.setIfInBounds_toArray,List.set_cons_succ,List.set_cons_zero] at h1
 have hon:=build_once kv rb b2 c n (w.setCell ⟨rb,1,none⟩ (.int .i32 1)) hk h1 (hold.other 1 _ zu4) zu25 zu25 zu4
 have g0:=hblk.cell 0 zu19
 have g1:=hblk.cell 1 zu19
 have C:=Lib.hid (once_do rb _ w g0 g1 (hblk.open_ 0) (hblk.open_ 1) hon)
 have hrn:n≤rb:=by omega
 have hnw:n≤w.heap.size:=by omega
 have hmf:∀ (fn:Fn) (first cap:Array Value) (w:World),(Instr.makeFunc fn first cap).run Tryz.prog w = .ok (.func fn first cap) w:=fun _ _ _ _=>rfl
 clear hblk hold hbel h1 hon g0 g1 hlen hle
 go_enter Tryz.func92,Tryz.ntmps92
 go_wp2_with fail
 refine C.out.mono ?_
 rintro e w1 ⟨rfl,w2,⟨⟨br,bt,ts,hc3,hT,hlt⟩,hB⟩,rfl⟩
 have hd:Below w2.heap.size w2 w2.drew:=Below.drew (Below.refl _ _)
 have hT2:=((hT.below hd).put (b0:=rb) (k:=0) (.int .u32 1) hlt).put (b0:=rb) (k:=1) (.int .i32 0) hlt
 have c3:((w2.drew.setCell ⟨rb,0,none⟩ (.int .u32 1)).setCell ⟨rb,1,none⟩ (.int .i32 0)).cell? ⟨rb,3,none⟩=some (.iface 209 (.pointer (some ⟨br,0,none⟩))):=by
  rw [World.cell?_setCell_other _ _ _ _ (ne_off zu15),World.cell?_setCell_other _ _ _ _ (ne_off zu15)]
  exact hc3
 have hbl:Below n w ((w2.drew.setCell ⟨rb,0,none⟩ (.int .u32 1)).setCell ⟨rb,1,none⟩ (.int .i32 0)):=by
  refine ((Below.drew ?_).setCell hrn _).setCell hrn _
  exact ((Below.refl n w).setCell (p:=⟨rb,1,none⟩) hrn _).trans hB
 generalize (w2.drew.setCell ⟨rb,0,none⟩ (.int .u32 1)).setCell ⟨rb,1,none⟩ (.int .i32 0)=W3 at hT2 c3 hbl ⊢
 have D:=Lib.hid (gen_replace kv br bt ts s W3 hT2 hs hk.vals hr)
 have HBL:=Lib.hid hbl
 have hme:=meth_rep
 clear hT hT2 hd hB hc3 hbl C hk
 go_wp2_with fail
 refine D.out.mono ?_
 rintro e w4 ⟨rfl,hb4⟩
 have HB4:=Lib.hid (HBL.out.trans (hb4.mono (Nat.le_trans hnw HBL.out.size)))
 clear hb4 D
 go_wp2_with fail
 go_ret
 exact ⟨rfl,HB4.out⟩
end Hand
end

section
namespace Hand
open Go.RowKit Pb Pl
theorem replS_length {f:UInt8→Option (List UInt8×List UInt8)} (hf:∀ c t v,f c=some (t,v)→v.length≤100):∀ (s:List UInt8) (k:Nat),(replS f k s).length≤100*s.length:=by
 intro s
 induction s with
 | nil=>intro k;rw [replS_nil];simp
 | cons c r ih =>
   intro k
   cases k with
   | succ k=>have:=ih k;simp only [replS,List.length_cons];omega
   | zero =>
     simp only [replS]
     split
     ·rename_i t v h
      have h1:=hf c t v h
      split
      ·have:=ih t.length;simp only [List.length_append,List.length_cons];omega
      ·have:=ih 0;simp only [List.length_cons];omega
     ·have:=ih 0;simp only [List.length_cons];omega
theorem pairF_val {kv:List (List UInt8×ByteArray)} (hv:∀ x∈kv,x.2.size≤100) (c:UInt8) (t v:List UInt8) (h:pairF kv c=some (t,v)):v.length≤100:=by
 obtain ⟨j,hj,_,e⟩:=pairF_some h
 have:=hv _ (List.getElem_mem hj)
 rw [e] at this
 simpa using this
theorem replace_c (kv:List (List UInt8×ByteArray)) (hk:Words kv) (bo cap:Nat) (s:List UInt8) (w:World) (ho:BlkF bo (2*kv.length) (strV (flatKV kv)) w) (hbo:bo<w.heap.size) (hs:s.length≤100000) :
  Calls Tryz.prog 89 #[.string (B s),.slice (some ⟨bo,0,none⟩) (2*kv.length) cap] w fun e w'=>e = .returned (.string (B (replS (pairF kv) 0 s)))∧Below w.heap.size w w':=by
 have hl:=flatKV_length kv
 have hr:(replS (pairF kv) 0 s).length≤100000000:=by
  have:=replS_length (pairF_val hk.vals) s 0
  omega
 have h2:=hk.two
 have hm:=hk.many
 have C1:=new_replacer bo cap (flatKV kv) w (by rw [hl];exact ho) hbo zu4 zu4 zu4
 rw [hl] at C1
 replace C1:=Lib.hid C1
 have C2:=Lib.hid (fun rb b2 c w1 (hN:NewR (flatKV kv) rb b2 c w w1)=>repl_replace kv rb b2 c w.heap.size s w w1 hk hN (Nat.le_refl _) hs hr)
 clear hl hr h2 hm hk ho hbo
 go_enter Tryz.func89,Tryz.ntmps89
 go_wp2_with fail
 refine C1.out.mono ?_
 rintro e w1 ⟨rb,b2,c,rfl,hN⟩
 have HN:=Lib.hid hN
 clear hN C1
 go_wp2_with fail
 refine (C2.out rb b2 c _ HN.out).mono ?_
 rintro e w2 ⟨rfl,hb⟩
 have HB:=Lib.hid (HN.out.below.trans hb)
 clear hb C2 HN
 go_wp2_with fail
 go_ret
 exact ⟨rfl,HB.out⟩
def escP:List (List UInt8×ByteArray):=[([38],B wAmp),([60],B wLt),([62],B wGt),([34],B wQuot),([39],B wApos),([13],B wCr),([0],B wBad),([239,187,191],B wMark)]
theorem escP_pair:pairF escP=escF:=by
 funext c
 have:∀ n:Fin 256,pairF escP (UInt8.ofNat n.val)=escF (UInt8.ofNat n.val):=by decide +kernel
 have h':=this ⟨c.toNat,c.toNat_lt⟩
 simpa using h'
theorem heads_of {kv:List (List UInt8×ByteArray)} (h:(∀ x∈kv,x.1≠[])∧∀ i j:Fin kv.length,i≠j→kv[i].1.head? ≠ kv[j].1.head?):Heads kv :=
 ⟨h.1,fun i j hi hj hne=>h.2 ⟨i,hi⟩ ⟨j,hj⟩ (by simpa using hne)⟩
theorem escP_words:Words escP where
 heads:=heads_of (by decide +kernel)
 lens:=by decide +kernel
 vals:=by decide +kernel
 many:=by decide
 cnt:=by decide +kernel
 long:=⟨7,zu15,zu15⟩
 two:=by decide
def escCells:Array Value := #[.string ⟨#[38]⟩,.string ⟨#[38,97,109,112,59]⟩,.string ⟨#[60]⟩,.string ⟨#[38,108,116,59]⟩,.string ⟨#[62]⟩,.string ⟨#[38,103,116,59]⟩,.string ⟨#[34]⟩,.string ⟨#[38,113,117,111,116,59]⟩,
 .string ⟨#[39]⟩,.string ⟨#[38,35,51,57,59]⟩,.string ⟨#[13]⟩,.string ⟨#[38,35,49,51,59]⟩,.string ⟨#[0]⟩,.string ⟨#[239,191,189]⟩,.string ⟨#[239,187,191]⟩,.string ⟨#[38,35,54,53,50,55,57,59]⟩]
theorem cells_strs {l:List ByteArray} {cs:Array Value} (h:cs.toList=l.map .string) (t:TypeId) (w:World):BlkF w.heap.size l.length (strV l) (w.alloc (.cells cs t)):=by
 refine ⟨fun j hj=>(World.cell?_alloc_at _ _ _ j rfl).trans ?_,fun j=>World.frozen?_alloc_at _ _ _ j rfl⟩
 rw [← strV_get l j hj,← h,Array.getElem?_toList]
theorem sign_mark:signB 65279=⟨#[239,187,191]⟩:=by rfl
theorem marked_c (s:List UInt8) (w:World) (hs:s.length≤100000) :
  Calls Tryz.prog 54 #[.string (B s)] w fun e w'=>e = .returned (.string (B (escL s)))∧Below w.heap.size w w':=by
 have C1:=sign_c 65279 w zu4
 rw [sign_mark] at C1
 replace C1:=Lib.hid C1
 have hF:BlkF w.heap.size (2*escP.length) (strV (flatKV escP)) (w.alloc (.cells escCells 9)):=cells_strs (l:=flatKV escP) rfl 9 w
 have C2:Hid (Calls Tryz.prog 89 #[.string (B s),.slice (some ⟨w.heap.size,0,none⟩) 16 16] (w.alloc (.cells escCells 9)) fun e w'=>e = .returned (.string (B (escL s)))∧Below w.heap.size w w'):=Lib.hid (by
  have:=replace_c escP escP_words w.heap.size 16 s _ hF zu19 hs
  rw [escP_pair] at this
  refine this.mono ?_
  rintro e w' ⟨h1,h2⟩
  exact ⟨h1,(Below.alloc (Below.refl _ _) (Nat.le_refl _) (.cells escCells 9)).trans (h2.mono zu19)⟩)
 clear hF
 unfold escCells at C2
 go_enter Tryz.func54,Tryz.ntmps54
 go_wp2_with fail
 refine C1.out.mono ?_
 rintro e w1 ⟨rfl,rfl⟩
 go_wp2_with fail
 refine C2.out.mono ?_
 rintro e w2 ⟨rfl,hb⟩
 go_wp2_with fail
 go_ret
 exact ⟨rfl,hb⟩
theorem pre10 (s:List UInt8):Lib.hasPrefix s [10]=(s.head? == some 10):=by
 cases s with
 | nil=>rfl
 | cons c r=>rw [Bool.eq_iff_iff];simp only [Lib.hasPrefix,List.isPrefixOf,Bool.and_true,beq_iff_eq,List.head?_cons,Option.some.injEq];exact eq_comm
theorem enc_c (k:Int) (s:List UInt8) (w:World) (hs:s.length≤100000) :
  Calls Tryz.prog 26 #[.int .i64 k,.string (B s)] w fun e w'=>e = .returned (.string (B (encL k s)))∧Below w.heap.size w w':=by
 have C1:=Lib.hid (fun W=>marked_c s W hs)
 have C2:=fun W=>hasPrefix_t (B s) ⟨#[10]⟩ W
 have hpre:Lib.hasPrefix (B s).data.toList (⟨#[10]⟩:ByteArray).data.toList=(s.head? == some 10):=by rw [B_data];exact pre10 s
 rw [hpre] at C2
 clear hpre
 obtain ⟨a,ha⟩:∃ a,B s=a:=⟨_,rfl⟩
 rw [ha] at C1 C2 ⊢
 replace C2:=Lib.hid C2
 clear ha
 by_cases h0:k=0
 ·subst h0
  have hr:encL 0 s=escL s:=by simp [encL]
  rw [hr]
  go_enter Tryz.func26,Tryz.ntmps26
  go_wp2_with fail
  refine (C1.out _).mono ?_
  rintro e w1 ⟨rfl,hb⟩
  go_wp2_with fail
  go_ret
  exact ⟨rfl,hb⟩
 by_cases h1:k=1
 ·subst h1
  have hr:encL 1 s=escL s:=by simp [encL]
  rw [hr]
  go_enter Tryz.func26,Tryz.ntmps26
  go_wp2_with fail
  refine (C1.out _).mono ?_
  rintro e w1 ⟨rfl,hb⟩
  go_wp2_with fail
  go_ret
  exact ⟨rfl,hb⟩
 by_cases h2:k=2
 ·subst h2
  cases hh:(s.head? == some 10) with
  | true =>
    rw [hh] at C2
    have hr:B (encL 2 s)=⟨#[10]⟩++B (escL s):=by
     have h:s.head? = some 10:=by simpa using hh
     have e:encL 2 s=[10]++escL s:=by simp [encL,h]
     rw [e,← B_append];rfl
    rw [hr]
    have hz:(escL s).length≤100000000:=by
     have:=(esc_length s.length s (Nat.le_refl _)).1
     omega
    have hz2:(B (escL s)).size≤100000000:=by simpa using hz
    obtain ⟨b,hb'⟩:∃ b,B (escL s)=b:=⟨_,rfl⟩
    rw [hb'] at C1 hz2 ⊢
    clear hh hr hz hb' h0 h1
    go_enter Tryz.func26,Tryz.ntmps26
    go_wp2_with fail
    refine (C1.out _).mono ?_
    rintro e w1 ⟨rfl,hb⟩
    go_wp2_with fail
    refine (C2.out _).mono ?_
    rintro e w2 ⟨rfl,rfl⟩
    go_wp2_with fail
    go_ret
    exact ⟨rfl,hb⟩
  | false =>
    rw [hh] at C2
    have hr:encL 2 s=escL s:=by
     have h:¬ s.head? = some 10:=by simpa using hh
     simp [encL,h]
    rw [hr]
    clear hh hr h0 h1
    go_enter Tryz.func26,Tryz.ntmps26
    go_wp2_with fail
    refine (C1.out _).mono ?_
    rintro e w1 ⟨rfl,hb⟩
    go_wp2_with fail
    refine (C2.out _).mono ?_
    rintro e w2 ⟨rfl,rfl⟩
    go_wp2_with fail
    go_ret
    exact ⟨rfl,hb⟩
 ·have hr:encL k s=[]:=by simp [encL,h0,h1,h2]
  rw [hr]
  have e0:(k != 0)=true:=by rw [bne_iff_ne];exact h0
  have e1:(k != 1)=true:=by rw [bne_iff_ne];exact h1
  have e2:(k != 2)=true:=by rw [bne_iff_ne];exact h2
  clear h0 h1 h2 hr
  go_enter Tryz.func26,Tryz.ntmps26
  go_wp2_with fail
  go_ret
  exact ⟨rfl,Below.refl _ _⟩
end Hand
end

section
namespace Hand
open Go Go.RowKit Pl Pb Go.Proofs.YtclkdmmgibgamaaGreatDoor.Pure
noncomputable def sanL (k:Int) (b:List UInt8):List UInt8:=encL k (extL b)
end Hand
end

section
namespace Hand
open Go Go.RowKit K0 Pl Pb Sa St Go.Proofs.YtclkdmmgibgamaaGreatDoor.Pure YtclkdmmgibgamaaGreatDoorW.PrintWords YtclkdmmgibgamaaGreatDoorW.PrintLast YtclkdmmgibgamaaGreatDoorW.PrintMore
def Byt (s:List UInt8) (v:Value) (w:World):Prop := ∀ W,Below w.heap.size w W→(convert 22 9 v).run Tryz.prog W = .ok (.string (B s)) W
theorem Byt.step {s:List UInt8} {v:Value} {w W:World} (h:Byt s v w) (hb:Below w.heap.size w W):Byt s v W:=fun W' hb'=>h W' (hb.trans (hb'.mono hb.size))
theorem decode_b {s:List UInt8} {v:Value} {w:World} (h:Byt s v w) (hs:s.length≤6000) :
  Calls Tryz.prog 17 #[v] w fun e w'=>e = .returned (.string (B (decL (trimL s))))∧Below w.heap.size w w' :=
 decode_v s v w zu4 fun o=>h _ (below_alloc (Below.refl _ _) o)
abbrev fnV (k:Nat):Value:=.func (.func k) #[] #[]
abbrev clV (k p q:Nat):Value:=.func (.func k) #[] #[.pointer (some ⟨p,0,none⟩),.pointer (some ⟨q,0,none⟩)]
def TkV (W:World) (v:Value) (L:List TkS):Prop := ∃ b ok,Kd.V tkK 30 W b ok v L
abbrev ExI (w0:World) (p q:Nat) (F G:Value) (W:World):Prop:=(Glob W∧Below w0.heap.size w0 W)∧W.cell? ⟨p,0,none⟩=some F∧W.cell? ⟨q,0,none⟩=some G
theorem ExI.call {w0:World} {p q:Nat} {F G:Value} {W W':World} (hb:Below W.heap.size W W') (h:ExI w0 p q F G W):ExI w0 p q F G W' :=
 ⟨⟨h.1.1.step hb,h.1.2.trans (hb.mono h.1.2.size)⟩,(hb.cell (World.block_lt_of_cell? W _ h.2.1)).trans h.2.1,(hb.cell (World.block_lt_of_cell? W _ h.2.2)).trans h.2.2⟩
theorem dec_len (s:List UInt8):(decL s).length≤3*s.length:=Nat.le_trans (wt_len _).1 (wt_dec _ s (Nat.le_refl _))
def nrmL (s:List UInt8):List UInt8:=normL (decL (trimL s))
theorem nrm_len (s:List UInt8) (h:s.length≤6000):(decL (trimL s)).length≤18000∧(nrmL s).length≤18000:=by
 have h1:=trim_len s
 have h2:=dec_len (trimL s)
 have h3:=normL_length (decL (trimL s))
 unfold nrmL
 omega
theorem drive_small (s:List UInt8) (h:s.length≤6000):tkS (driveL (nrmL s))≤90000∧(driveL (nrmL s)).length≤90000:=by
 have h2:tkS (driveL (nrmL s))≤wtL (nrmL s):=Nat.le_trans (join_tkS _) (drvL_wt _ _ (Nat.le_refl _))
 have h3:=(wt_len (nrmL s)).2
 have h4:=(nrm_len s h).2
 refine ⟨zu4,?_⟩
 have h1:=(drv_bd _ (nrmL s) (Nat.le_refl _)).2
 have h5:=jn_len (drvL (nrmL s)) (drvL (nrmL s)).length
 have h6:jn (drvL (nrmL s)) (drvL (nrmL s)).length=driveL (nrmL s):=by unfold jn driveL;rw [List.take_length,join_eq]
 rw [h6] at h5
 omega
theorem th1_c (s:List UInt8) (v:Value) (hs:s.length≤6000) (p q:Nat) (w:World) (hG:Glob w) (hp:w.cell? ⟨p,0,none⟩=some (fnV 34)) (hq:w.cell? ⟨q,0,none⟩=some (fnV 17)) (hv:Byt s v w) :
  Calls Tryz.prog 65 #[v,.pointer (some ⟨p,0,none⟩),.pointer (some ⟨q,0,none⟩)] w fun e w'=>e = .returned (.string (B (nrmL s)))∧Below w.heap.size w w':=by
 have hl:=nrm_len s hs
 have DE:Hid (∀ W,Below w.heap.size w W→Calls Tryz.prog 17 #[v] W fun e w'=>e = .returned (.string (B (decL (trimL s))))∧Below W.heap.size W w'):=Lib.hid (fun W hb=>decode_b (hv.step hb) hs)
 have NR:Hid (∀ W,Calls Tryz.prog 34 #[.string (B (decL (trimL s)))] W fun e w'=>e = .returned (.string (B (nrmL s)))∧Below W.heap.size W w'):=Lib.hid (fun W=>by
  have:=norm_any (B (decL (trimL s))) W zu36
  rw [B_data] at this
  exact this)
 have HS1:ExI w p q (fnV 34) (fnV 17) w.drew:=⟨⟨hG.step (below_drew (Below.refl _ _)),below_drew (Below.refl _ _)⟩,hp,hq⟩
 have HS2:=Lib.hid HS1
 obtain ⟨a1,h1⟩:∃ a,B (decL (trimL s))=a:=⟨_,rfl⟩
 obtain ⟨a2,h2⟩:∃ a,B (nrmL s)=a:=⟨_,rfl⟩
 rw [h1] at DE NR
 rw [h2] at NR ⊢
 clear h1 h2 hl hs hv hp hq hG HS1
 go_enter Tryz.func65,Tryz.ntmps65
 go_wp2_with fail
 have HS:=HS2.out
 go_region_held3 (fun W=>(Glob W∧Below w.heap.size w W)∧W.cell? ⟨p,0,none⟩=some (.func (.func 34) #[] #[])∧W.cell? ⟨q,0,none⟩=some (.func (.func 17) #[] #[])) (first|with_reducible assumption|with_reducible exact HS|exact ExI.call hb zu42) (first | (go_at_call 17;with_reducible refine (DE.out _ (And.right (And.left (by with_reducible assumption:ExI w p q (fnV 34) (fnV 17) _)))).mono ?_;rintro e w' ⟨rfl,hb⟩) | (go_at_call 34;with_reducible refine (NR.out _).mono ?_;rintro e w' ⟨rfl,hb⟩))
 have HB:=And.right (And.left (by with_reducible assumption:ExI w p q (fnV 34) (fnV 17) w'))
 go_wp2_with fail
 go_ret
 exact ⟨rfl,HB⟩
theorem th3_c (s:List UInt8) (v:Value) (hs:s.length≤6000) (p q p1 q1:Nat) (w:World) (hG:Glob w) (hp:w.cell? ⟨p,0,none⟩=some (fnV 16)) (hq:w.cell? ⟨q,0,none⟩=some (clV 65 p1 q1))
  (hp1:w.cell? ⟨p1,0,none⟩=some (fnV 34)) (hq1:w.cell? ⟨q1,0,none⟩=some (fnV 17)) (hv:Byt s v w) :
  Calls Tryz.prog 68 #[v,.pointer (some ⟨p,0,none⟩),.pointer (some ⟨q,0,none⟩)] w fun e w'=>(∃ v,e = .returned v∧TkV w' v ((driveL (nrmL s)).map ofK))∧Below w.heap.size w w':=by
 have hl:=nrm_len s hs
 have RD:Hid (∀ W,Below w.heap.size w W→Calls Tryz.prog 65 #[v,.pointer (some ⟨p1,0,none⟩),.pointer (some ⟨q1,0,none⟩)] W fun e w'=>e = .returned (.string (B (nrmL s)))∧Below W.heap.size W w'):=Lib.hid (fun W hb =>
  th1_c s v hs p1 q1 W (hG.step hb) ((hb.cell (World.block_lt_of_cell? w _ hp1)).trans hp1) ((hb.cell (World.block_lt_of_cell? w _ hq1)).trans hq1) (hv.step hb))
 have DR:Hid (∀ W,Glob W→Calls Tryz.prog 16 #[.string (B (nrmL s))] W fun e w'=>(∃ v,e = .returned v∧TkV w' v ((driveL (nrmL s)).map ofK))∧Below W.heap.size W w'):=Lib.hid (fun W hG=>(drive_c (nrmL s) zu4 W hG).mono fun e w' ⟨⟨v,he,hV⟩,hb⟩=>⟨⟨v,he,_,_,hV⟩,hb⟩)
 have HS1:ExI w p q (fnV 16) (clV 65 p1 q1) w.drew:=⟨⟨hG.step (below_drew (Below.refl _ _)),below_drew (Below.refl _ _)⟩,hp,hq⟩
 have HS2:=Lib.hid HS1
 obtain ⟨a1,h1⟩:∃ a,B (nrmL s)=a:=⟨_,rfl⟩
 obtain ⟨L,h2⟩:∃ a,(driveL (nrmL s)).map ofK=a:=⟨_,rfl⟩
 rw [h1] at RD DR
 rw [h2] at DR ⊢
 clear h1 h2 hl hs hv hp hq hp1 hq1 hG HS1
 go_enter Tryz.func68,Tryz.ntmps68
 go_wp2_with fail
 have HS:=HS2.out
 go_region_held3 (fun W=>(Glob W∧Below w.heap.size w W)∧W.cell? ⟨p,0,none⟩=some (.func (.func 16) #[] #[])∧W.cell? ⟨q,0,none⟩=some (.func (.func 65) #[] #[.pointer (some ⟨p1,0,none⟩),.pointer (some ⟨q1,0,none⟩)])) (first|with_reducible assumption|with_reducible exact HS|exact ExI.call hb zu42) (first | (go_at_call 65;with_reducible refine (RD.out _ (And.right (And.left (by with_reducible assumption:ExI w p q (fnV 16) (clV 65 p1 q1) _)))).mono ?_;rintro e w' ⟨rfl,hb⟩) | (go_at_call 16;with_reducible refine (DR.out _ (And.left (And.left (by with_reducible assumption:ExI w p q (fnV 16) (clV 65 p1 q1) _)))).mono ?_;rintro e w' ⟨⟨v,rfl,hV⟩,hb⟩))
 have HB:=And.right (And.left (by with_reducible assumption:ExI w p q (fnV 16) (clV 65 p1 q1) w'))
 go_wp2_with fail
 go_ret
 exact ⟨⟨_,rfl,hV⟩,HB⟩
theorem th2_c (s:List UInt8) (v:Value) (hs:s.length≤6000) (p q p3 q3 p1 q1:Nat) (w:World) (hG:Glob w) (hp:w.cell? ⟨p,0,none⟩=some (fnV 31)) (hq:w.cell? ⟨q,0,none⟩=some (clV 68 p3 q3))
  (hp3:w.cell? ⟨p3,0,none⟩=some (fnV 16)) (hq3:w.cell? ⟨q3,0,none⟩=some (clV 65 p1 q1))
  (hp1:w.cell? ⟨p1,0,none⟩=some (fnV 34)) (hq1:w.cell? ⟨q1,0,none⟩=some (fnV 17)) (hv:Byt s v w) :
  Calls Tryz.prog 67 #[v,.pointer (some ⟨p,0,none⟩),.pointer (some ⟨q,0,none⟩)] w fun e w'=>e = .returned (.string (B (extL s)))∧Below w.heap.size w w':=by
 have hl:=nrm_len s hs
 have RD:Hid (∀ W,Below w.heap.size w W→Calls Tryz.prog 68 #[v,.pointer (some ⟨p3,0,none⟩),.pointer (some ⟨q3,0,none⟩)] W fun e w'=>(∃ v,e = .returned v∧TkV w' v ((driveL (nrmL s)).map ofK))∧Below W.heap.size W w'):=Lib.hid (fun W hb =>
  have cl:∀ {x:Nat} {F:Value},w.cell? ⟨x,0,none⟩=some F→W.cell? ⟨x,0,none⟩=some F:=fun h=>(hb.cell (World.block_lt_of_cell? w _ h)).trans h
  th3_c s v hs p3 q3 p1 q1 W (hG.step hb) (cl hp3) (cl hq3) (cl hp1) (cl hq1) (hv.step hb))
 have RN:Hid (∀ W v,TkV W v ((driveL (nrmL s)).map ofK)→Calls Tryz.prog 31 #[v] W fun e w'=>e = .returned (.string (B (extL s)))∧Below W.heap.size W w'):=Lib.hid (fun W v ⟨b,ok,hV⟩=>render_c (driveL (nrmL s)) (drive_small s hs).1 (drive_small s hs).2 v b ok W hV)
 have HS1:ExI w p q (fnV 31) (clV 68 p3 q3) w.drew:=⟨⟨hG.step (below_drew (Below.refl _ _)),below_drew (Below.refl _ _)⟩,hp,hq⟩
 have HS2:=Lib.hid HS1
 obtain ⟨a1,h1⟩:∃ a,B (extL s)=a:=⟨_,rfl⟩
 obtain ⟨L,h2⟩:∃ a,(driveL (nrmL s)).map ofK=a:=⟨_,rfl⟩
 rw [h2] at RD RN
 rw [h1] at RN ⊢
 clear h1 h2 hl hs hv hp hq hp1 hq1 hp3 hq3 hG HS1
 go_enter Tryz.func67,Tryz.ntmps67
 go_wp2_with fail
 have HS:=HS2.out
 go_region_held3 (fun W=>(Glob W∧Below w.heap.size w W)∧W.cell? ⟨p,0,none⟩=some (.func (.func 31) #[] #[])∧W.cell? ⟨q,0,none⟩=some (.func (.func 68) #[] #[.pointer (some ⟨p3,0,none⟩),.pointer (some ⟨q3,0,none⟩)])) (first|with_reducible assumption|with_reducible exact HS|exact ExI.call hb zu42) (first | (go_at_call 68;with_reducible refine (RD.out _ (And.right (And.left (by with_reducible assumption:ExI w p q (fnV 31) (clV 68 p3 q3) _)))).mono ?_;rintro e w' ⟨⟨v,rfl,hV⟩,hb⟩) | (go_at_call 31;refine (RN.out _ _ zu57).mono ?_;rintro e w' ⟨rfl,hb⟩))
 have HB:=And.right (And.left (by with_reducible assumption:ExI w p q (fnV 31) (clV 68 p3 q3) w'))
 go_wp2_with fail
 go_ret
 exact ⟨rfl,HB⟩
theorem then1 (f g:Nat) (P Q:Array Value) (w:World):Calls Tryz.prog 33 #[.func (.func f) #[] P,.func (.func g) #[] Q] w fun e w' =>
  e = .returned (clV 65 (w.heap.size+1) w.heap.size)∧w'=(w.alloc (.cells #[.func (.func f) #[] P] 24)).alloc (.cells #[.func (.func g) #[] Q] 34):=by
 go_enter Tryz.func33,Tryz.ntmps33
 go_wp2
 go_ret
 exact ⟨rfl,rfl⟩
theorem then3 (f g:Nat) (P Q:Array Value) (w:World):Calls Tryz.prog 36 #[.func (.func f) #[] P,.func (.func g) #[] Q] w fun e w' =>
  e = .returned (clV 68 (w.heap.size+1) w.heap.size)∧w'=(w.alloc (.cells #[.func (.func f) #[] P] 24)).alloc (.cells #[.func (.func g) #[] Q] 26):=by
 go_enter Tryz.func36,Tryz.ntmps36
 go_wp2
 go_ret
 exact ⟨rfl,rfl⟩
theorem then2 (f g:Nat) (P Q:Array Value) (w:World):Calls Tryz.prog 35 #[.func (.func f) #[] P,.func (.func g) #[] Q] w fun e w' =>
  e = .returned (clV 67 (w.heap.size+1) w.heap.size)∧w'=(w.alloc (.cells #[.func (.func f) #[] P] 49)).alloc (.cells #[.func (.func g) #[] Q] 46):=by
 go_enter Tryz.func35,Tryz.ntmps35
 go_wp2
 go_ret
 exact ⟨rfl,rfl⟩
theorem cell_lay {W:World} {b:Nat} {x:Value} (o:Obj) (h:W.cell? ⟨b,0,none⟩=some x):(W.alloc o).cell? ⟨b,0,none⟩=some x:=(World.cell?_of_block (heap_alloc_old W o (World.block_lt_of_cell? W _ h))).trans h
theorem extract_c (s:List UInt8) (v:Value) (hs:s.length≤6000) (w:World) (hG:Glob w) (hv:Byt s v w) :
  Calls Tryz.prog 15 #[v] w fun e w'=>e = .returned (.string (B (extL s)))∧Below w.heap.size w w':=by
 obtain ⟨W1,h1⟩:∃ W,(w.alloc (.cells #[fnV 17] 24)).alloc (.cells #[fnV 34] 34)=W:=⟨_,rfl⟩
 obtain ⟨W2,h2⟩:∃ W,(W1.alloc (.cells #[clV 65 (w.heap.size+1) w.heap.size] 24)).alloc (.cells #[fnV 16] 26)=W:=⟨_,rfl⟩
 obtain ⟨W3,h3⟩:∃ W,(W2.alloc (.cells #[clV 68 (W1.heap.size+1) W1.heap.size] 49)).alloc (.cells #[fnV 31] 46)=W:=⟨_,rfl⟩
 have C1:=then1 17 34 #[] #[] w
 rw [h1] at C1
 have C2:=then3 65 16 #[.pointer (some ⟨w.heap.size+1,0,none⟩),.pointer (some ⟨w.heap.size,0,none⟩)] #[] W1
 rw [h2] at C2
 have C3:=then2 68 31 #[.pointer (some ⟨W1.heap.size+1,0,none⟩),.pointer (some ⟨W1.heap.size,0,none⟩)] #[] W2
 rw [h3] at C3
 have b1:Below w.heap.size w W1:=by rw [← h1];exact (below_alloc (Below.refl _ _) _).alloc zu19 _
 have b2:Below W1.heap.size W1 W2:=by rw [← h2];exact (below_alloc (Below.refl _ _) _).alloc zu19 _
 have b3:Below W2.heap.size W2 W3:=by rw [← h3];exact (below_alloc (Below.refl _ _) _).alloc zu19 _
 have new:∀ (W:World) (x:Value) (t:TypeId),(W.alloc (.cells #[x] t)).cell? ⟨W.heap.size,0,none⟩=some x:=fun W x t=>World.cell?_alloc_at _ t _ 0 rfl
 have s1:=new w (fnV 17) 24
 have s2:W1.cell? ⟨w.heap.size,0,none⟩=some (fnV 17):=by rw [← h1];exact cell_lay _ s1
 have s3:W1.cell? ⟨w.heap.size+1,0,none⟩=some (fnV 34):=by
  rw [← h1];have:=new (w.alloc (.cells #[fnV 17] 24)) (fnV 34) 34
  simpa only [World.size_alloc] using this
 have s4:W2.cell? ⟨W1.heap.size,0,none⟩=some (clV 65 (w.heap.size+1) w.heap.size):=by rw [← h2];exact cell_lay _ (new _ _ _)
 have s5:W2.cell? ⟨W1.heap.size+1,0,none⟩=some (fnV 16):=by
  rw [← h2];have:=new (W1.alloc (.cells #[clV 65 (w.heap.size+1) w.heap.size] 24)) (fnV 16) 26
  simpa only [World.size_alloc] using this
 have s6:W3.cell? ⟨W2.heap.size,0,none⟩=some (clV 68 (W1.heap.size+1) W1.heap.size):=by rw [← h3];exact cell_lay _ (new _ _ _)
 have s7:W3.cell? ⟨W2.heap.size+1,0,none⟩=some (fnV 31):=by
  rw [← h3];have:=new (W2.alloc (.cells #[clV 68 (W1.heap.size+1) W1.heap.size] 49)) (fnV 31) 46
  simpa only [World.size_alloc] using this
 have up12:∀ {x:Nat} {F:Value},W1.cell? ⟨x,0,none⟩=some F→W2.cell? ⟨x,0,none⟩=some F:=fun h=>(b2.cell (World.block_lt_of_cell? W1 _ h)).trans h
 have up23:∀ {x:Nat} {F:Value},W2.cell? ⟨x,0,none⟩=some F→W3.cell? ⟨x,0,none⟩=some F:=fun h=>(b3.cell (World.block_lt_of_cell? W2 _ h)).trans h
 have hB3:Below w.heap.size w W3:=(b1.trans (b2.mono b1.size)).trans (b3.mono (Nat.le_trans b1.size b2.size))
 have C4:=th2_c s v hs (W2.heap.size+1) W2.heap.size (W1.heap.size+1) W1.heap.size (w.heap.size+1) w.heap.size W3 (hG.step hB3) s7 s6 (up23 s5) (up23 s4) (up23 (up12 s3)) (up23 (up12 s2)) (hv.step hB3)
 replace C1:=Lib.hid C1
 replace C2:=Lib.hid C2
 replace C3:=Lib.hid C3
 replace C4:=Lib.hid C4
 have HB:=Lib.hid hB3
 obtain ⟨a,ha⟩:∃ a,B (extL s)=a:=⟨_,rfl⟩
 rw [ha] at C4 ⊢
 clear h1 h2 h3 b1 b2 b3 new s1 s2 s3 s4 s5 s6 s7 up12 up23 hB3 ha hs hG hv
 go_enter Tryz.func15,Tryz.ntmps15
 go_wp2_with fail
 refine C1.out.mono ?_
 rintro e w1 ⟨rfl,rfl⟩
 go_wp2_with fail
 refine C2.out.mono ?_
 rintro e w2 ⟨rfl,rfl⟩
 go_wp2_with fail
 refine C3.out.mono ?_
 rintro e w3 ⟨rfl,rfl⟩
 go_wp2_with fail
 refine C4.out.mono ?_
 rintro e w4 ⟨rfl,hb⟩
 have HB4:=Lib.hid (HB.out.trans (hb.mono HB.out.size))
 clear hb C1 C2 C3 C4
 go_wp2_with fail
 go_ret
 exact ⟨rfl,HB4.out⟩
theorem safe1_c (k:Int) (s:List UInt8) (v:Value) (hs:s.length≤6000) (p:Nat) (w:World) (hG:Glob w) (hp:w.cell? ⟨p,0,none⟩=some (.int .i64 k)) (hv:Byt s v w) :
  Calls Tryz.prog 83 #[v,.pointer (some ⟨p,0,none⟩)] w fun e w'=>e = .returned (.string (B (sanL k s)))∧Below w.heap.size w w':=by
 have hl:=ext_length s
 have EX:Hid (∀ W,Glob W→Below w.heap.size w W→Calls Tryz.prog 15 #[v] W fun e w'=>e = .returned (.string (B (extL s)))∧Below W.heap.size W w'):=Lib.hid (fun W hG hb=>extract_c s v hs W hG (hv.step hb))
 have EN:Hid (∀ W,Calls Tryz.prog 26 #[.int .i64 k,.string (B (extL s))] W fun e w'=>e = .returned (.string (B (sanL k s)))∧Below W.heap.size W w'):=Lib.hid (fun W=>enc_c k (extL s) W zu4)
 have HS1:(Glob w.drew∧Below w.heap.size w w.drew)∧w.drew.cell? ⟨p,0,none⟩=some (.int .i64 k):=⟨⟨hG.step (below_drew (Below.refl _ _)),below_drew (Below.refl _ _)⟩,hp⟩
 have HS2:=Lib.hid HS1
 obtain ⟨a1,h1⟩:∃ a,B (extL s)=a:=⟨_,rfl⟩
 obtain ⟨a2,h2⟩:∃ a,B (sanL k s)=a:=⟨_,rfl⟩
 rw [h1] at EX EN
 rw [h2] at EN ⊢
 clear h1 h2 hl hs hv hp hG HS1
 go_enter Tryz.func83,Tryz.ntmps83
 go_wp2_with fail
 have HS:=HS2.out
 go_region_held3 (fun W=>(Glob W∧Below w.heap.size w W)∧W.cell? ⟨p,0,none⟩=some (.int .i64 k)) (first|with_reducible assumption|with_reducible exact HS|exact PxC.call hb zu42) (first | (go_at_call 15;with_reducible refine (EX.out _ (And.left (And.left (by with_reducible assumption:PxC w p 0 (.int .i64 k) _))) (And.right (And.left (by with_reducible assumption:PxC w p 0 (.int .i64 k) _)))).mono ?_;rintro e w' ⟨rfl,hb⟩) | (go_at_call 26;with_reducible refine (EN.out _).mono ?_;rintro e w' ⟨rfl,hb⟩))
 have HB:=And.right (And.left (by with_reducible assumption:PxC w p 0 (.int .i64 k) w'))
 go_wp2_with fail
 go_ret
 exact ⟨rfl,HB⟩
theorem safe_c' (k:Int) (w:World):Calls Tryz.prog 46 #[.int .i64 k] w fun e w' =>
  e = .returned (.func (.func 83) #[] #[.pointer (some ⟨w.heap.size,0,none⟩)])∧w'=w.alloc (.cells #[.int .i64 k] 3):=by
 go_enter Tryz.func46,Tryz.ntmps46
 go_wp2
 go_ret
 exact ⟨rfl,rfl⟩
abbrev sfV (p:Nat):Value:=.func (.func 83) #[] #[.pointer (some ⟨p,0,none⟩)]
theorem times1_c (k:Int) (s:List UInt8) (v:Value) (hs:s.length≤6000) (p:Nat) (w:World) (hG:Glob w) (hp:w.cell? ⟨p,0,none⟩=some (.int .i64 k)) (hv:Byt s v w) :
  Calls Tryz.prog 45 #[.int .i64 1,v,sfV p] w fun e w'=>e = .returned (.string (B (sanL k s)))∧Below w.heap.size w w':=by
 have C:=Lib.hid (safe1_c k s v hs p w hG hp hv)
 obtain ⟨a,ha⟩:∃ a,B (sanL k s)=a:=⟨_,rfl⟩
 rw [ha] at C ⊢
 clear ha hs hG hp hv
 unfold sfV
 go_enter Tryz.func45,Tryz.ntmps45
 go_wp2_with fail
 go_loopw [0,1] (fun x y wr=>x = .int .i64 1∧y=v∧wr=w) (fun _ _ _=>0)
 case atStart=>exact ⟨rfl,rfl,rfl⟩
 case round =>
  obtain ⟨rfl,rfl,rfl⟩:=hrel
  go_wp2_with fail
  refine C.out.mono ?_
  rintro e w1 ⟨rfl,hb⟩
  go_wp2_with fail
  go_ret
  exact ⟨rfl,hb⟩
theorem sanitize_c (k:Int) (s:List UInt8) (v:Value) (hs:s.length≤6000) (w:World) (hG:Glob w) (hv:Byt s v w) :
  Calls Tryz.prog 18 #[.int .i64 k,v] w fun e w'=>e = .returned (.string (B (sanL k s)))∧Below w.heap.size w w':=by
 have hb0:Below w.heap.size w (w.alloc (.cells #[.int .i64 k] 3)):=below_alloc (Below.refl _ _) _
 have C1:=Lib.hid (safe_c' k w)
 have C2:=times1_c k s v hs w.heap.size (w.alloc (.cells #[.int .i64 k] 3)) (hG.step hb0) (World.cell?_alloc_at _ _ _ 0 rfl) (hv.step hb0)
 obtain ⟨a,ha⟩:∃ a,B (sanL k s)=a:=⟨_,rfl⟩
 rw [ha] at C2 ⊢
 replace C2:=Lib.hid C2
 clear ha hs hG hv
 go_enter Tryz.func18,Tryz.ntmps18
 go_wp2_with fail
 refine C1.out.mono ?_
 rintro e w1 ⟨rfl,rfl⟩
 go_wp2_with fail
 refine C2.out.mono ?_
 rintro e w2 ⟨rfl,hb⟩
 go_wp2_with fail
 go_ret
 exact ⟨rfl,hb0.trans (hb.mono hb0.size)⟩
end Hand
end

section
namespace Hand
open Go Go.RowKit K0 Pl Pb Sa St Go.Proofs.YtclkdmmgibgamaaGreatDoor.Pure YtclkdmmgibgamaaGreatDoorW.PrintWords YtclkdmmgibgamaaGreatDoorW.PrintLast YtclkdmmgibgamaaGreatDoorW.PrintMore
def okR (d:Int) (n:Int) (s:ByteArray):Prop:=(d=0∨d=1∨d=2)∧0≤n∧n≤1000∧s.size≤1000
instance (d:Int) (n:Int) (s:ByteArray):Decidable (okR d n s):=by unfold okR;infer_instance
end Hand
end

section
namespace RowKit
open Go
def R:OpenClaim:=Rows.sanitizeTextRow
theorem p2:laidOutB Tryz.prog=true:=by kernel_rfl
theorem p3:mapsRowed Tryz.prog=true:=by kernel_rfl
theorem p7:(Tryz.prog.stops == [])=true:=by kernel_rfl
theorem p9:(Tryz.prog.stopKnobs == [])=true:=by kernel_rfl
theorem p23:(R.plainKeys == Tryz.prog.plainKeys)=true:=by kernel_rfl
theorem p25:Tryz.prog.stopsHeard=true:=by kernel_rfl
theorem p26:Tryz.prog.mayEnter=true:=by kernel_rfl
theorem p27:(R.lifted == Tryz.prog.liftsFinal)=true:=by kernel_rfl
theorem p28:(Tryz.prog.make == some R.make)=true:=by kernel_rfl
theorem looks_is:Tryz.prog.looks []=Rows.sanitizeTextCard.stood.looks:=by kernel_rfl
theorem main_is:Tryz.prog.mainIs=some (Rows.sanitizeTextCard.stood.harness.1,Rows.sanitizeTextCard.stood.harness.2.toList):=by kernel_rfl
end RowKit
end

section
namespace RowKit
open Go Go.RowKit
theorem out_of_shape {W:World} (h:W.ShapedOpen Tryz.prog):∃ m,W.cell? ⟨0,0,none⟩=some (.int .i64 m) :=
 Go.Proofs.cell_of_shapedOpen_int (zero := #[.int .i64 0]) (t:=3) h (of_decide_eq_true zu13) zu13 rfl zu13 zu13 Tryz.underlying3
theorem laid_mem {P:Program} {w:World} {n:String} {d:DataW Unit}:∀ {l:List (String×DataW Unit)} {ps:List MemPlace},DataW.LaidVars P w l ps→(n,d)∈l →
  ∃ g t cs fuel p,P.globalNamed n=some g∧(P.globals[g]?).map (·.type)=some t∧w.var? P n=some cs∧DataW.trod (fun _=>()) P w 0 (fun _=>true) false fuel t cs.toList=some (d,p)
 | [],_,_,hm=>by cases hm
 | (m,e)::r,ps,h,hm=>by
   obtain ⟨g,t,cs,fuel,p,q,h1,h2,h3,h4,h5,_⟩:=h
   rcases List.mem_cons.1 hm with h'|h'
   ·obtain ⟨rfl,rfl⟩:=Prod.mk.inj h'
    exact ⟨g,t,cs,fuel,p,h1,h2,h3,h4⟩
   ·exact laid_mem h5 h'
theorem globE_of_laid {W:World} {laid:List (String×DataW Unit)} {nm:String} {d:DataW Unit} (h:laidMetH Tryz.prog laid W) (hp:(laid.all fun x=>x.2.handleName?.isNone)=true)
  (hm:("strconv.ErrSyntax",DataW.iface nm d)∈laid):Hand.GlobE W:=by
 rw [MakeChecks.laidMetH_plain _ _ _ hp] at h
 obtain ⟨ps,hl,_⟩:=h
 obtain ⟨g,t,cs,fuel,p,h1,h2,h3,h4⟩:=laid_mem hl hm
 have hg:Tryz.prog.globalNamed "strconv.ErrSyntax" = some 3:=by kernel_rfl
 obtain rfl:3=g:=Option.some.inj (hg.symm.trans h1)
 have ht:(Tryz.prog.globals[3]?).map (·.type)=some 64:=by kernel_rfl
 obtain rfl:64=t:=Option.some.inj (ht.symm.trans h2)
 obtain ⟨_,u,v,hc,_,_⟩:=iface_of_trod Tryz.underlying64 h4
 have hcell:=var?_cell h1 h3 0
 have hcs:cs = #[.iface u v]:=by cases cs;simpa using hc
 rw [hcs] at hcell
 exact ⟨_,hcell,.inr ⟨u,v,rfl⟩⟩
theorem glob_of_laid {W:World} (hs:W.ShapedOpen Tryz.prog) {laid:List (String×DataW Unit)} {nm:String} {d:DataW Unit} (h:laidMetH Tryz.prog laid W) (hp:(laid.all fun x=>x.2.handleName?.isNone)=true)
 (hm:("strconv.ErrSyntax",DataW.iface nm d)∈laid):Hand.Glob W:=⟨out_of_shape hs,(globE_of_laid h hp hm).out⟩
section
variable {H : Type} {enc : TypeId × Value → H}
theorem handed_and_shaped {a:Assume} {C:Checked} {os:Os} {f:FuncId} {fn:Func} {s:ChangeSpec} {conds:List PathCond} {apart fresh handsOn again:Bool} {X:World→Array Value→Prop}
  (hX:∀ (w w':World) (args:Array Value),w.heap=w'.heap→X w args→X w' args)
  (own:ownKnob C.prog.godebug=none) (started:os.Started) (noInit:C.prog.inits.idxOf? f=none) (hfn:C.prog.funcs[f]? = some fn)
  (witness:∃ (w:World) (tape:Tape) (i:Input),w.os=os∧(w.forCall tape i).Shaped C.prog∧i.vars=[]∧Input.okWide C.prog (w.forCall tape i) .any w.heap.size f i ∧
    ((s.pre enc C.prog fn conds apart (w.forCall tape i).memory i.args∧X (w.forCall tape i).memory i.args)∧sizedMet enc C.prog fn (OpenSpec.ofChange s) apart (w.forCall tape i).memory i.args) ∧
    a.holds C.prog (lone (Frame.enter C.prog f i.args .normal) [] (w.forCall tape i)))
  (contract:∀ (W:World) (base:Nat) (args:Array Value) (ds gs:List (DataW H)) (before:List MemPlace),
    (∀ (j:Nat) t v,fn.params[j]? = some t→args[j]? = some v→Value.okWide C.prog W .any base t v) →
    DataW.Whole enc C.prog fn.params.toList s.vars apart W args.toList ds gs before →
    (DataW.weightsEach C.prog (fn.params.toList++s.plain.varTypes C.prog) (ds++gs)).all (· ≤ reachBytes)=true→X W args→W.ShapedOpen C.prog →
    Calls C.prog f args W fun e W' => ∃ v,e = .returned v∧s.post enc C.prog fn apart fresh handsOn again W args v W') :
  ReturnsInHanded a C os f .any (fun w args=>(s.pre enc C.prog fn conds apart w args∧X w args)∧sizedMet enc C.prog fn (OpenSpec.ofChange s) apart w args) (s.post enc C.prog fn apart fresh handsOn again):=by
 refine returnsInHanded_of_calls own started noInit witness ?_
 intro w tape i _ hsh _ hok hpre _
 obtain ⟨_,_,_,fn',hfn',_,_,_,_,hval⟩:=hok
 have e:fn'=fn:=Option.some.inj (hfn'.symm.trans hfn)
 subst e
 obtain ⟨⟨⟨ds,gs,before,hw,_⟩,hx⟩,hz⟩:=hpre
 have hw':=DataW.Whole.of_heap (w':=w.forCall tape i) (by rfl) hw
 refine (contract (w.forCall tape i) w.heap.size i.args ds gs before hval hw' (hz.weights hw) (hX _ _ _ (by rfl) hx) hsh).mono fun e W' ⟨v,he,hp⟩ => ?_
 subst he
 exact ChangeSpec.post_blind hp
end
theorem joined {f:FuncId} {fn:Func} {s:ChangeSpec} {c:OpenClaim}
  (k1:c.wf (OpenSpec.ofChange s)=true) (k4:(fn.params.all (Tryz.prog.readableRec ·))=true) (k5:namedTie Tryz.prog c.named s.vars=true) (k6:(c.stops == [])=true) (k8:(c.knobs == [])=true)
  (k10:(c.inPlace == Tryz.prog.inPlace f)=true) (k11:(c.unfollowed == Tryz.prog.unfollowed f)=true) (k12:(c.recurses == Tryz.prog.recurses f)=true) (k13:(c.named == Tryz.prog.varsNamed f)=true)
  (k14:(c.maps == (fn.params.toList++s.plain.varTypes Tryz.prog).any (Tryz.prog.mapsRec ·))=true) (k15:(c.ifaces == (fn.params.toList++s.plain.varTypes Tryz.prog).any (Tryz.prog.ifacesRec ·))=true) (k16:(c.mapsOut == Tryz.prog.mapsAmong fn.resultTypes.toList)=true)
  (k17:(c.loops == (fn.params.toList++s.plain.varTypes Tryz.prog).any (Tryz.prog.loopsFrom ·))=true) (k18:(c.wideKeys == (fn.params.toList++s.plain.varTypes Tryz.prog++fn.resultTypes.toList).any (Tryz.prog.wideKeysFrom ·))=true)
  (k19:s.vars.all (Tryz.prog.varReadable ·)=true) (k20:fn.resultTypes.all (fun t=>Tryz.prog.readableRec t&&decide (t<Tryz.prog.types.size))=true) (k21:(c.ifacesOut == fn.resultTypes.toList.any (Tryz.prog.ifacesRec ·))=true) (k22:(c.loopsOut == fn.resultTypes.toList.any (Tryz.prog.loopsFrom ·))=true)
  (k23:c.plainKeys=R.plainKeys) (k24:c.shortTexts.isNone=true) (k27:c.lifted=R.lifted) (k28:c.make=R.make)
  (k29:c.domain=[]) (k29':c.kinds=[]) (k30:(c.pinned == c.pinnedBy)=true)
  (k31:(c.veiled == (fn.params.toList++s.plain.varTypes Tryz.prog++fn.resultTypes.toList).any (Tryz.prog.veiledRec ·))=true) (k32:c.veiledFits Tryz.prog fn.params.toList (fn.params.toList++s.plain.varTypes Tryz.prog++fn.resultTypes.toList)=true) :
  joinedFacts Tryz.prog f fn s c=true:=by
 have e23:(c.plainKeys == Tryz.prog.plainKeys)=true:=by rw [k23];exact p23
 have e27:(c.lifted == Tryz.prog.liftsFinal)=true:=by rw [k27];exact p27
 have e28:(Tryz.prog.make == some c.make)=true:=by rw [k28];exact p28
 unfold joinedFacts
 rw [k1,p2,p3,k4,k5,k6,p7,k8,p9,k10,k11,k12,k13,k14,k15,k16,k17,k18,k19,k20,k21,k22,e23,k24,p25,p26,e27,e28,k29,k29',k30,k31,k32]
 rfl
end RowKit
end

end Go.Proofs.YtclkdmmgibgamaaGreatDoor