/-
  Texts that several claims of this seat share, merged by a program of this session (4).
-/
import Derived.Maps.StringElems
import Derived.Maps.Views
import Derived.Deep.QuietTactic
import Derived.BigQuiet
import Derived.Lib.Builder
import Derived.LoopN
import Derived.ChangeKeysEq
import Derived.Laws.Rows
import Derived.Laws.Cells
import Derived.Test.YtclkdmmgibgamaaGreatDoorZuc
set_option linter.unusedVariables false
set_option linter.unusedSimpArgs false
set_option maxRecDepth 100000
set_option maxHeartbeats 16000000
namespace Go.Proofs.YtclkdmmgibgamaaGreatDoor
section
namespace Hand
open Go Go.RowKit Go.Maps Pl Pb Sa Si Go.Proofs.YtclkdmmgibgamaaGreatDoor.Pure YtclkdmmgibgamaaGreatDoorW.PrintWords
theorem wp_insert_own {H:Type} {P:Program} (w:World) {ops:Array Oper} {rest:List Oper} {o:Oper} {a:Act} {Q:Exit→Act→World→Prop}
  (hg:o.guard=none) (m x v:Operand) (t:TypeId) (hop:o.op=Op.insert t m x v)
  (k e:TypeId) (K:Keyed P k) (ht:P.underlying t=some (.map k e)) (R:Value→Option (DataW H×List MemPlace)) (b n:Nat) (D:DataW H)
  (hm:a.eval m = .map (some b)) (hown:w.ownsMap P k R b n D) (hn:n<maxLen) (key val:Value) (kl:Lit) (hx:a.eval x=key) (hv:a.eval v=val) (hkey:keyOf P k key=some kl)
  (d:DataW H) (ps:List MemPlace) (hval:R val=some (d,ps))
  (hK:∀ w',w'.ownsMap P k R b (n+1) (D.put kl d)→w.grownBy w' (some b)→wpList P ops Q rest (a.put o.dst undef) w') :
  wpList P ops Q (o::rest) a w:=by
 refine wpList_plain hg fun K' hK' => ?_
 obtain ⟨w',hrun,r1,r2⟩:=hown.update K ht hn hkey hval
 unfold Oper.wp
 simp [execOp,hop,hm,hx,hv,hrun,Result.andThen]
 exact hK' _ _ (hK w' r1 r2)
def letAt (l:List UInt8):Bool:=match l with | []=>false|c::_=>isLetB c
theorem letter_at (s:List UInt8) (p n:Nat) (hs:s.length≤1000000) (hp:p≤s.length) (hn:n≤2) (w:World) :
  Calls Tryz.prog 141 #[.agg #[.string (B s),.int .i64 (p:Int)],.int .i64 (n:Int)] w fun e w'=>e = .returned (.bool (letAt (s.drop (p+n))))∧Below w.heap.size w w':=by
 refine tag_place_letter.calls _ _ _ _ w ?_
 have hw:wrap64 ((p:Int)+(n:Int))=((p+n:Nat):Int):=by unfold wrap64;omega
 unfold tag_place_letter.f
 rw [hw,size_B]
 by_cases h:p+n<s.length
 ·rw [if_pos zu4,if_pos zu4]
  have hd:=List.drop_eq_getElem_cons h
  rw [bt_drop s (p+n) _ _ hd,letter_f,hd]
  rfl
 ·rw [if_neg zu4,List.drop_eq_nil_of_le zu4]
  rfl
noncomputable def tgD:DataW Unit:=((DataW.map []).put (.int .i64 1) (.lit (.string [60]))).put (.int .i64 2) (.lit (.string [60,47]))
theorem tgD_at {x:Int} {c:ByteArray} (h:∀ z,tgD.atKey (.int .i64 x) z = .lit (.string c.data.toList)):(x=1∧c=⟨#[60]⟩)∨(x=2∧c=⟨#[60,47]⟩):=by
 have m0:IsMap (DataW.map []:DataW Unit):=⟨[],rfl⟩
 have hc:∀ l:List UInt8,(DataW.lit (.string l):DataW Unit) = .lit (.string c.data.toList)→c=B l:=fun l e=>by
  have e2:l=c.data.toList:=by injection e with e;injection e
  rw [e2];rfl
 unfold tgD at h
 by_cases h2:x=2
 ·subst h2
  have:=h (.map [])
  rw [atKey_put_same (m0.put _ _) (show WideAt.IsKeyLit (.int _ _) from trivial)] at this
  exact .inr ⟨rfl,hc _ this⟩
 ·have n2:(Lit.int .i64 x)≠.int .i64 2:=fun e=>h2 (by injection e)
  by_cases h1:x=1
  ·subst h1
   have:=h (.map [])
   rw [atKey_put_other n2,atKey_put_same m0 (show WideAt.IsKeyLit (.int _ _) from trivial)] at this
   exact .inl ⟨rfl,hc _ this⟩
  ·have n1:(Lit.int .i64 x)≠.int .i64 1:=fun e=>h1 (by injection e)
   have:=h (.map [])
   rw [atKey_put_other n2,atKey_put_other n1] at this
   cases this
theorem tgD_has:Maps.has tgD (.int .i64 1)=true∧Maps.has tgD (.int .i64 2)=true:=by
 have m0:IsMap (DataW.map []:DataW Unit):=⟨[],rfl⟩
 unfold tgD
 refine ⟨?_,has_put_same (m0.put _ _) (show WideAt.IsKeyLit (.int _ _) from trivial) _⟩
 rw [has_put_other (fun e=>by injection e with _ e;cases e)]
 exact has_put_same m0 (show WideAt.IsKeyLit (.int _ _) from trivial) _
def tgT (l:List UInt8) (n:Nat):Bool:=if n=1 then begR l [60]&&letAt (l.drop 1) else begR l [60,47]&&letAt (l.drop 2)
theorem low_eq (c:UInt8):(lowB c == 60)=(c == 60)∧(lowB c == 47)=(c == 47):=by
 have:∀ n:Fin 256,(lowB (UInt8.ofNat n.val) == 60)=(UInt8.ofNat n.val == 60)∧(lowB (UInt8.ofNat n.val) == 47)=(UInt8.ofNat n.val == 47):=by decide +kernel
 have h:=this ⟨c.toNat,c.toNat_lt⟩
 simpa using h
theorem tagN_cons (a c:UInt8) (r:List UInt8):tagN (a::c::r)=if a=60 then (if isLetB c=true then 1 else if c=47 then (match r with | []=>0|d::_=>if isLetB d=true then 2 else 0) else 0) else 0:=rfl
theorem tgT_1 {l:List UInt8} (h:tgT l 1=true):tagN l=1:=by
 unfold tgT at h
 rw [if_pos rfl,Bool.and_eq_true] at h
 obtain ⟨h1,h2⟩:=h
 match l,h1,h2 with
 | [],h1,_=>cases h1
 | [c],_,h2=>cases h2
 | c::d::r,h1,h2 =>
   rw [begR,(low_eq c).1,Bool.and_eq_true,beq_iff_eq] at h1
   change isLetB d=true at h2
   rw [tagN_cons,if_pos h1.1,if_pos h2]
theorem tgT_2 {l:List UInt8} (h:tgT l 2=true):tagN l=2:=by
 unfold tgT at h
 rw [if_neg zu15,Bool.and_eq_true] at h
 obtain ⟨h1,h2⟩:=h
 match l,h1,h2 with
 | [],h1,_=>cases h1
 | [c],_,h2=>cases h2
 | [c,d],_,h2=>cases h2
 | c::d::e::r,h1,h2 =>
   rw [begR,begR,(low_eq c).1,(low_eq d).2,Bool.and_eq_true,Bool.and_eq_true,beq_iff_eq,beq_iff_eq] at h1
   change isLetB e=true at h2
   obtain ⟨rfl,rfl,_⟩:=h1
   rw [tagN_cons,if_pos rfl,if_neg zu15,if_pos rfl]
   exact if_pos h2
theorem tgT_0 {l:List UInt8} (h:tgT l 1=false) (h2:tgT l 2=false):tagN l=0:=by
 unfold tgT at h h2
 rw [if_pos rfl] at h
 rw [if_neg zu15] at h2
 match l,h,h2 with
 | [],_,_=>rfl
 | [c],_,_=>rfl
 | c::d::r,h,h2 =>
   rw [begR,(low_eq c).1] at h
   rw [begR,begR,(low_eq c).1,(low_eq d).2] at h2
   change (c == 60&&begR (d::r) []&&isLetB d)=false at h
   rw [tagN_cons]
   by_cases hc:c=60
   ·subst hc
    rw [if_pos rfl]
    have hd:isLetB d=false:=by simpa [begR] using h
    rw [if_neg (by rw [hd];decide)]
    by_cases h47:d=47
    ·subst h47
     rw [if_pos rfl]
     cases r with
     | nil=>rfl
     | cons e r =>
       have he:isLetB e=false:=by simpa [begR,letAt] using h2
       simp only [he]
       rfl
    ·rw [if_neg h47]
   ·rw [if_neg hc]
theorem name_c (s:List UInt8) (p:Nat) (hs:s.length≤100000) (hp:p≤s.length) (w:World) :
  Calls Tryz.prog 104 #[.agg #[.string (B s),.int .i64 (p:Int)]] w fun e w'=>e = .returned (.int .i64 ((tagN (s.drop p):Nat):Int))∧Below w.heap.size w w':=by
 have BG:=Lib.hid (fun low (hl:low.length≤100) W=>nbegins_c s low p zu4 zu4 hp W)
 have LT:=Lib.hid (fun n (hn:n≤2) W=>letter_at s p n zu4 hp hn W)
 have hT1:=tgT_1 (l:=s.drop p)
 have hT2:=tgT_2 (l:=s.drop p)
 have hT0:=tgT_0 (l:=s.drop p)
 have B1:=Lib.hid (BG.out [60] zu15)
 have B2:=Lib.hid (BG.out [60,47] zu15)
 have L1:=Lib.hid (LT.out 1 zu15)
 have L2:=Lib.hid (LT.out 2 zu15)
 unfold tgT at hT1 hT2 hT0
 rw [if_pos rfl,List.drop_drop] at hT1 hT0
 rw [if_neg zu15,List.drop_drop] at hT2 hT0
 obtain ⟨x1,e1⟩:∃ x,begR (s.drop p) [60]=x:=⟨_,rfl⟩
 obtain ⟨x2,e2⟩:∃ x,begR (s.drop p) [60,47]=x:=⟨_,rfl⟩
 obtain ⟨y1,f1⟩:∃ x,letAt (s.drop (p+1))=x:=⟨_,rfl⟩
 obtain ⟨y2,f2⟩:∃ x,letAt (s.drop (p+2))=x:=⟨_,rfl⟩
 rw [e1,f1] at hT1 hT0
 rw [e2,f2] at hT2 hT0
 rw [e1] at B1
 rw [e2] at B2
 rw [f1] at L1
 rw [f2] at L2
 obtain ⟨T,hT⟩:∃ T,tagN (s.drop p)=T:=⟨_,rfl⟩
 rw [hT] at hT1 hT2 hT0 ⊢
 have HT1:=Lib.hid hT1
 have HT2:=Lib.hid hT2
 have HT0:=Lib.hid hT0
 clear hT1 hT2 hT0 BG LT
 obtain ⟨a,ha⟩:∃ a,B s=a:=⟨_,rfl⟩
 rw [ha] at B1 B2 L1 L2 ⊢
 clear ha e1 e2 f1 f2 hT
 have law3:Keyed Tryz.prog 3:=int_keyed Tryz.underlying3
 have hmm:=@run_makeMap Tryz.prog
 have hown0:((w.alloc (.cells #[.string a,.int .i64 (p:Int)] 123)).alloc (.map #[] 0)).ownsMap Tryz.prog 3 (plainElem (H:=Unit) Tryz.prog 9) (w.heap.size+1) 0 (.map []):=by
  have:=World.ownsMap_made (w.alloc (.cells #[.string a,.int .i64 (p:Int)] 123)) Tryz.prog 3 (plainElem (H:=Unit) Tryz.prog 9)
  simpa using this
 go_enter Tryz.func104,Tryz.ntmps104
 go_wp2_with (first
  | (refine wp_insert_own _ rfl (.tmp 5) (.const (.int .i64 1)) (.const (.string ⟨#[60]⟩)) 166 rfl 3 9 law3 Tryz.underlying166 (plainElem (H:=Unit) Tryz.prog 9) (w.heap.size+1) 0 _ rfl hown0 zu15 _ _ (.int .i64 1) rfl rfl (keyOf_int_mk Tryz.underlying3 zu15) _ [] (plainElem_string Tryz.underlying9 zu15) ?_;intro w2 hown2 hg2)
  | (refine wp_insert_own _ rfl (.tmp 5) (.const (.int .i64 2)) (.const (.string ⟨#[60,47]⟩)) 166 rfl 3 9 law3 Tryz.underlying166 (plainElem (H:=Unit) Tryz.prog 9) (w.heap.size+1) 1 _ rfl hown2 zu15 _ _ (.int .i64 2) rfl rfl (keyOf_int_mk Tryz.underlying3 zu15) _ [] (plainElem_string Tryz.underlying9 zu15) ?_;intro w3 hown3 hg3)
  | (at_range;refine wpList_range_own _ rfl _ 166 rfl 3 9 law3 Tryz.underlying166 _ (w.heap.size+1) 2 _ rfl hown3 ?_;intro w0 hrg0 hg0 hs0)
  | go_in)
 try go_frame
 have hb0:((w.alloc (.cells #[.string a,.int .i64 (p:Int)] 123)).alloc (.map #[] 0)).heap[w.heap.size]? = some (.cells #[.string a,.int .i64 (p:Int)] 123 (0,0)):=by
  have h1:(w.alloc (.cells #[.string a,.int .i64 (p:Int)] 123)).heap[w.heap.size]? = some (.cells #[.string a,.int .i64 (p:Int)] 123 (0,0)):=Array.getElem?_push_size
  exact (((Below.refl _ _).alloc (Nat.le_refl _) _).block w.heap.size (blk_lt h1)).trans h1
 have hb2:=blk_grown hb0 hg2 zu19
 have hb3:=blk_grown hb2 hg3 zu19
 have hb4:=Lib.hid (blk_grown hb3 hg0 zu19)
 have hB1:Below w.heap.size w ((w.alloc (.cells #[.string a,.int .i64 (p:Int)] 123)).alloc (.map #[] 0)):=below_alloc (below_alloc (Below.refl _ _) _) _
 have hB2:=hB1.grown hg2 hB1.size (fun j hj=>by cases hj;exact Nat.le_succ _)
 have hB3:=hB2.grown hg3 hB2.size (fun j hj=>by cases hj;exact Nat.le_succ _)
 have hB4:=Lib.hid (hB3.grown hg0 hB3.size (fun j hj=>by cases hj))
 have HRG:=Lib.hid hrg0
 have hz:=hB3.size
 obtain ⟨r,hr⟩:∃ r,w3.heap.size=r:=⟨_,rfl⟩
 have hbr:w.heap.size+1<r:=by rw [← hr];exact hown3.lt
 rw [hr] at HRG hz ⊢
 clear hown0 hown2 hown3 hg2 hg3 hg0 hs0 hrg0 hb0 hb2 hb3 hB1 hB2 hB3 hr hmm
 go_loopw [3,4] (fun _ _ wr => ∃ (left:Lit→Bool) (cnt:Nat),Hid (wr.ranges Tryz.prog 3 (plainElem (H:=Unit) Tryz.prog 9) (w.heap.size+1) r 2 tgD left cnt)∧Hid (wr.heap[w.heap.size]? = some (.cells #[.string a,.int .i64 (p:Int)] 123 (0,0)))∧Hid (Below w.heap.size w wr)∧Hid ((left (.int .i64 1)=false→(x1&&y1)=false)∧(left (.int .i64 2)=false→(x2&&y2)=false)))
  (fun _ _ wr=>wr.rangeLeft (w.heap.size+1) r)
 case atStart =>
  exact ⟨_,_,HRG,hb4,hB4,Lib.hid ⟨fun h=>absurd (tgD_has.1.symm.trans h) zu15,fun h=>absurd (tgD_has.2.symm.trans h) zu15⟩⟩
 case round =>
  obtain ⟨left,cnt,hrg,hbk,hB,hI⟩:=hrel
  go_wp2_with (first
   | (at_next;refine wpList_next_ranges_is _ rfl _ rfl 3 9 .i64 law3 Tryz.underlying3 Tryz.underlying9 (w.heap.size+1) r 2 _ _ _ rfl hrg.out ?_ ?_)
   | go_in)
  ·intro hc0 hl0
   go_wp2
   go_ret
   exact ⟨by rw [HT0.out (hI.out.1 (hl0 _)) (hI.out.2 (hl0 _))];rfl,hB.out⟩
  ·intro x c w1 cnt1 hwx hwc hlx hat hrg1 hlt hg1 hs1 hen
   have hbk1:=Lib.hid (blk_grown hbk.out hg1 zu25)
   have hB1:=Lib.hid (hB.out.grown hg1 hB.out.size (fun j hj=>by cases hj;omega))
   have HR1:=Lib.hid hrg1
   have hc0:w1.cell? ⟨w.heap.size,0,none⟩=some (.string a):=(blk_cell hbk1.out 0).trans rfl
   have hc1:w1.cell? ⟨w.heap.size,1,none⟩=some (.int .i64 (p:Int)):=(blk_cell hbk1.out 1).trans rfl
   have HG1:Hid (cnt1<cnt):=Lib.hid hlt
   have HLX:=Lib.hid hlx
   have hkk:(∀ y,(left (.int .i64 y) && !(Lit.int .i64 y).sameKey (.int .i64 x))=false→left (.int .i64 y)=false∨y=x):=by
    intro y hy
    rw [Bool.and_eq_false_iff,Bool.not_eq_false'] at hy
    rcases hy with hy|hy
    ·exact .inl hy
    ·have:=WideAt.sameKey_eq hy
     injection this with _ e
     exact .inr e
   have HKK:=Lib.hid hkk
   have hrgl:=Lib.hid hrg.out.left_eq
   rcases tgD_at (c:=c) hat with ⟨rfl,rfl⟩|⟨rfl,rfl⟩
   ·clear hat hwx hwc hlx hrg1 hg1 hs1 hlt hkk hrg hbk
    have HLK:Hid (∀ y,(left (.int .i64 y) && !(Lit.int .i64 y).sameKey (.int .i64 1))=false→left (.int .i64 y)=false∨y=1):=HKK
    clear HKK
    cases x1 with
    | false =>
      go_wp2_with fail
      refine (B1.out _).mono ?_
      rintro e w2 ⟨rfl,hb⟩
      have HR2:=Lib.hid (HR1.out.kept (grown_of_below hb none) zu19 zu19)
      have HB2:=Lib.hid (hB1.out.trans (hb.mono hB1.out.size))
      have HK2:=Lib.hid ((hb.block _ (blk_lt hbk1.out)).trans hbk1.out)
      clear hb HR1 hbk1 hB1
      go_wp2_with fail
      refine ⟨⟨_,_,HR2,HK2,HB2,Lib.hid ⟨fun h => ?_,fun h => ?_⟩⟩,?_⟩
      ·rcases HLK.out _ h with h|h
       ·exact hI.out.1 h
       ·first|rfl|exact absurd h zu15
      ·rcases HLK.out _ h with h|h
       ·exact hI.out.2 h
       ·first|rfl|exact absurd h zu15
      ·rw [HR2.out.left_eq,hrgl.out];exact HG1.out
    | true =>
      have hc0':=hc0
      go_wp2_with fail
      refine (B1.out _).mono ?_
      rintro e w2 ⟨rfl,hb⟩
      have HR2:=Lib.hid (HR1.out.kept (grown_of_below hb none) zu19 zu19)
      have HB2:=Lib.hid (hB1.out.trans (hb.mono hB1.out.size))
      have HK2:=Lib.hid ((hb.block _ (blk_lt hbk1.out)).trans hbk1.out)
      have hd0:w2.cell? ⟨w.heap.size,0,none⟩=some (.string a):=(blk_cell HK2.out 0).trans rfl
      have hd1:w2.cell? ⟨w.heap.size,1,none⟩=some (.int .i64 (p:Int)):=(blk_cell HK2.out 1).trans rfl
      clear hb HR1 hbk1 hB1 hc0 hc1
      go_wp2_with fail
      refine (L1.out _).mono ?_
      rintro e w3 ⟨rfl,hb⟩
      replace HR2:=Lib.hid (HR2.out.kept (grown_of_below hb none) zu19 zu19)
      replace HB2:=Lib.hid (HB2.out.trans (hb.mono HB2.out.size))
      replace HK2:=Lib.hid ((hb.block _ (blk_lt HK2.out)).trans HK2.out)
      clear hb hd0 hd1
      cases y1 with
      | true =>
        go_wp2_with fail
        go_ret
        exact ⟨by rw [HT1.out rfl];rfl,HB2.out⟩
      | false =>
        go_wp2_with fail
        refine ⟨⟨_,_,HR2,HK2,HB2,Lib.hid ⟨fun h => ?_,fun h => ?_⟩⟩,?_⟩
        ·rcases HLK.out _ h with h|h
         ·exact hI.out.1 h
         ·first|rfl|exact absurd h zu15
        ·rcases HLK.out _ h with h|h
         ·exact hI.out.2 h
         ·first|rfl|exact absurd h zu15
        ·rw [HR2.out.left_eq,hrgl.out];exact HG1.out
   ·clear hat hwx hwc hlx hrg1 hg1 hs1 hlt hkk hrg hbk
    have HLK:Hid (∀ y,(left (.int .i64 y) && !(Lit.int .i64 y).sameKey (.int .i64 2))=false→left (.int .i64 y)=false∨y=2):=HKK
    clear HKK
    cases x2 with
    | false =>
      go_wp2_with fail
      refine (B2.out _).mono ?_
      rintro e w2 ⟨rfl,hb⟩
      have HR2:=Lib.hid (HR1.out.kept (grown_of_below hb none) zu19 zu19)
      have HB2:=Lib.hid (hB1.out.trans (hb.mono hB1.out.size))
      have HK2:=Lib.hid ((hb.block _ (blk_lt hbk1.out)).trans hbk1.out)
      clear hb HR1 hbk1 hB1
      go_wp2_with fail
      refine ⟨⟨_,_,HR2,HK2,HB2,Lib.hid ⟨fun h => ?_,fun h => ?_⟩⟩,?_⟩
      ·rcases HLK.out _ h with h|h
       ·exact hI.out.1 h
       ·first|rfl|exact absurd h zu15
      ·rcases HLK.out _ h with h|h
       ·exact hI.out.2 h
       ·first|rfl|exact absurd h zu15
      ·rw [HR2.out.left_eq,hrgl.out];exact HG1.out
    | true =>
      have hc0':=hc0
      go_wp2_with fail
      refine (B2.out _).mono ?_
      rintro e w2 ⟨rfl,hb⟩
      have HR2:=Lib.hid (HR1.out.kept (grown_of_below hb none) zu19 zu19)
      have HB2:=Lib.hid (hB1.out.trans (hb.mono hB1.out.size))
      have HK2:=Lib.hid ((hb.block _ (blk_lt hbk1.out)).trans hbk1.out)
      have hd0:w2.cell? ⟨w.heap.size,0,none⟩=some (.string a):=(blk_cell HK2.out 0).trans rfl
      have hd1:w2.cell? ⟨w.heap.size,1,none⟩=some (.int .i64 (p:Int)):=(blk_cell HK2.out 1).trans rfl
      clear hb HR1 hbk1 hB1 hc0 hc1
      go_wp2_with fail
      refine (L2.out _).mono ?_
      rintro e w3 ⟨rfl,hb⟩
      replace HR2:=Lib.hid (HR2.out.kept (grown_of_below hb none) zu19 zu19)
      replace HB2:=Lib.hid (HB2.out.trans (hb.mono HB2.out.size))
      replace HK2:=Lib.hid ((hb.block _ (blk_lt HK2.out)).trans HK2.out)
      clear hb hd0 hd1
      cases y2 with
      | true =>
        go_wp2_with fail
        go_ret
        exact ⟨by rw [HT2.out rfl];rfl,HB2.out⟩
      | false =>
        go_wp2_with fail
        refine ⟨⟨_,_,HR2,HK2,HB2,Lib.hid ⟨fun h => ?_,fun h => ?_⟩⟩,?_⟩
        ·rcases HLK.out _ h with h|h
         ·exact hI.out.1 h
         ·first|rfl|exact absurd h zu15
        ·rcases HLK.out _ h with h|h
         ·exact hI.out.2 h
         ·first|rfl|exact absurd h zu15
        ·rw [HR2.out.left_eq,hrgl.out];exact HG1.out
end Hand
end

section
namespace Sx
open Go.RowKit K0 Hand Sa YtclkdmmgibgamaaGreatDoorW.PrintWords YtclkdmmgibgamaaGreatDoorW.PrintLast YtclkdmmgibgamaaGreatDoorW.PrintMore
attribute [local go_sem] max2_int min2_int max_two min_two max_three min_three max_four min_four  
set_option linter.unusedVariables false
set_option linter.unusedSimpArgs false
def IsS170 (w0 W:World) (g:Nat) (f0:ByteArray) (f1:Int):Prop:=W.heap[g]? = some (.cells #[.string f0,.int .i64 f1] 170 (0,0))∧w0.heap.size≤g
theorem IsS170.grown {w0 W:World} {g:Nat} {f0:ByteArray} {f1:Int} {W1:World} {row:Option Nat} (h:IsS170 w0 W g f0 f1) (hw:W.grownBy W1 row) (hne:some g≠row):IsS170 w0 W1 g f0 f1:=by
 obtain ⟨hb,hg⟩:=h
 exact ⟨blk_grown hb hw hne,hg⟩
theorem IsS170.below {w0 W:World} {g:Nat} {f0:ByteArray} {f1:Int} {W1:World} (h:IsS170 w0 W g f0 f1) (hw:Below W.heap.size W W1):IsS170 w0 W1 g f0 f1:=h.grown (grown_of_below hw none) zu19
theorem IsS170.alloc {w0 W:World} {g:Nat} {f0:ByteArray} {f1:Int} (h:IsS170 w0 W g f0 f1) (o:Obj):IsS170 w0 (W.alloc o) g f0 f1:=h.below (below_alloc (Below.refl _ _) o)
theorem IsS170.drewN {w0 W:World} {g:Nat} {f0:ByteArray} {f1:Int} (h:IsS170 w0 W g f0 f1) (m:Nat):IsS170 w0 (W.drewN m) g f0 f1:=h
theorem IsS170.drew {w0 W:World} {g:Nat} {f0:ByteArray} {f1:Int} (h:IsS170 w0 W g f0 f1):IsS170 w0 W.drew g f0 f1:=h
theorem IsS170.ge {w0 W:World} {g:Nat} {f0:ByteArray} {f1:Int} (h:IsS170 w0 W g f0 f1):w0.heap.size≤g:=by
 obtain ⟨hb,hg⟩:=h
 exact hg
theorem IsS170.far {w0 W:World} {g:Nat} {f0:ByteArray} {f1:Int} {p:Addr} (h:IsS170 w0 W g f0 f1) (hne:g≠p.block) (u:Value):IsS170 w0 (W.setCell p u) g f0 f1:=by
 obtain ⟨hb,hg⟩:=h
 exact ⟨blk_far hb hne u,hg⟩
theorem cellS170_0 {W:World} {g:Nat} {f0:ByteArray} {f1:Int} (h:W.heap[g]? = some (.cells #[.string f0,.int .i64 f1] 170 (0,0))):W.cell? ⟨g,0,none⟩=some (.string f0):=(blk_cell h 0).trans rfl
theorem IsS170.set_0 {w0 W:World} {g:Nat} {f0:ByteArray} {f1:Int} (h:IsS170 w0 W g f0 f1) (x:ByteArray):IsS170 w0 (W.setCell ⟨g,0,none⟩ (.string x)) g x f1:=by
 obtain ⟨hb,hg⟩:=h
 exact ⟨by simpa using blk_set hb 0 (.string x),hg⟩
theorem cellS170_1 {W:World} {g:Nat} {f0:ByteArray} {f1:Int} (h:W.heap[g]? = some (.cells #[.string f0,.int .i64 f1] 170 (0,0))):W.cell? ⟨g,1,none⟩=some (.int .i64 f1):=(blk_cell h 1).trans rfl
theorem IsS170.set_1 {w0 W:World} {g:Nat} {f0:ByteArray} {f1:Int} (h:IsS170 w0 W g f0 f1) (x:Int):IsS170 w0 (W.setCell ⟨g,1,none⟩ (.int .i64 x)) g f0 x:=by
 obtain ⟨hb,hg⟩:=h
 exact ⟨by simpa using blk_set hb 1 (.int .i64 x),hg⟩
theorem IsS170.new (w0 W:World) (f0:ByteArray) (f1:Int) (hB:Below w0.heap.size w0 W):IsS170 w0 (W.alloc (.cells #[.string f0,.int .i64 f1] 170)) W.heap.size f0 f1:=⟨by simpa using heap_alloc_new W _,hB.size⟩
def attrs_reader_spaces.l0:Nat→ByteArray→Int→Option (ByteArray×Int)
 | 0,_,_=>none
 | k+1,x1000,x1001=>if x1001<(x1000.size:Int) then (if 0≤x1001 then ((sign_Space.f (bt x1000 x1001)).bind fun t101=>(if t101=true then (attrs_reader_spaces.l0 k x1000 (wrap64 (x1001+1))) else (some (x1000,x1001)))) else (none)) else (some (x1000,x1001))
def attrs_reader_spaces.f (k:Nat) (s0_0:ByteArray) (s0_1:Int):Option (ByteArray×Int):=attrs_reader_spaces.l0 k s0_0 s0_1
theorem attrs_reader_spaces.calls (k:Nat) (g:Nat) (s0_0:ByteArray) (s0_1:Int) (r1:ByteArray) (r2:Int) (w0 w:World) (hI:IsS170 w0 w g s0_0 s0_1) (hB:Below w0.heap.size w0 w) (h:attrs_reader_spaces.f k s0_0 s0_1=some (r1,r2)) :
  Calls Tryz.prog 142 #[.pointer (some ⟨g,0,none⟩)] w fun e w'=>e = .returned (.tuple #[])∧IsS170 w0 w' g r1 r2∧Below w0.heap.size w0 w'∧KeepBut w w' g none:=by
 have HI0:=Aside0.mk hI
 have HK:=Aside0.mk (KeepBut.refl w g none)
 have HL:=Aside0.mk hB.size
 clear hI
 have HW0:=Aside0.mk hB.size
 have HB:=Aside0.mk hB
 clear hB
 have H:(attrs_reader_spaces.l0 k s0_0 s0_1)=some (r1,r2):=h
 clear h
 have H':=Aside0.mk H
 clear H
 go_enter Tryz.func142,Tryz.ntmps142
 go_wp2
 repeat (go_quiet (fail);try go_wp2)
 go_loopg [] k (fun kq w' => ∃ (x1001_1:Int),Aside0 (attrs_reader_spaces.l0 kq s0_0 x1001_1=some (r1,r2))∧Aside0 (kq≤k)∧Aside0 (IsS170 w0 w' g s0_0 x1001_1)∧Aside0 (KeepBut w w' g none)∧Aside0 (Below w0.heap.size w0 w'))
 case atStart=>exact ⟨(s0_1),H',⟨Nat.le_refl _⟩,⟨zu10⟩,⟨zu11⟩,⟨zu9⟩⟩
 case round =>
  clear H'
  try clear c1
  obtain ⟨x1001_1,HA,HK1,HI0,HK,HB⟩:=hrel
  cases gk with
  | zero=>exact absurd HA.out (by simp [attrs_reader_spaces.l0])
  | succ k1 =>
    have H:=HA.out
    clear HA
    simp only [attrs_reader_spaces.l0] at H
    by_cases c2:x1001_1<(s0_0.size:Int)
    ·rw [if_pos c2] at H
     have c2b0:decide (x1001_1<(s0_0.size:Int))=true:=decide_eq_true c2
     clear c2
     by_cases c3:0≤x1001_1
     ·rw [if_pos c3] at H
      have c3b0:decide (0≤x1001_1)=true:=decide_eq_true c3
      clear c3
      replace H:=Option.bind_eq_some_iff.mp H
      obtain ⟨t101,A50,H⟩:=H
      try dsimp only at H
      have A5:=Aside0.mk A50
      clear A50
      by_cases c6:t101=true
      ·subst c6
       rw [if_pos rfl] at H
       have H':=Aside0.mk H
       clear H
       obtain ⟨HGz7,hgz7⟩:=HI0.out
       have hcz7_0:=cellS170_0 HGz7
       have hcz7_1:=cellS170_1 HGz7
       have hfz7_0:=blk_frozen HGz7 0
       have hfz7_1:=blk_frozen HGz7 1
       clear HGz7 hgz7
       have p4:0≤(x1001_1:Int):=of_decide_eq_true zu17
       have q4:x1001_1<(s0_0.size:Int):=of_decide_eq_true zu17
       have hx4:=bt_at s0_0 x1001_1
       replace p4:=eq_true p4
       replace q4:=eq_true q4
       go_wp2_with (first | (go_at_call 105;(with_reducible refine (sign_Space.calls (bt s0_0 x1001_1) true _ A5.out).mono ?_);rintro e w' ⟨rfl,⟨nd,rfl⟩⟩;(try first|exact ⟨rfl,_,World.drewN_drewN _ _ _⟩|exact ⟨rfl,_,Eq.trans (World.drewN_drewN _ _ _) (congrArg (World.drewN _) (Nat.add_assoc _ _ _))⟩)))
       repeat (go_quiet (first | (go_at_call 105;(with_reducible refine (sign_Space.calls (bt s0_0 x1001_1) true _ A5.out).mono ?_);rintro e w' ⟨rfl,⟨nd,rfl⟩⟩;(try first|exact ⟨rfl,_,World.drewN_drewN _ _ _⟩|exact ⟨rfl,_,Eq.trans (World.drewN_drewN _ _ _) (congrArg (World.drewN _) (Nat.add_assoc _ _ _))⟩)));try go_wp2_with (first | (go_at_call 105;(with_reducible refine (sign_Space.calls (bt s0_0 x1001_1) true _ A5.out).mono ?_);rintro e w' ⟨rfl,⟨nd,rfl⟩⟩;(try first|exact ⟨rfl,_,World.drewN_drewN _ _ _⟩|exact ⟨rfl,_,Eq.trans (World.drewN_drewN _ _ _) (congrArg (World.drewN _) (Nat.add_assoc _ _ _))⟩))))
       go_roundg k1
       case measure=>have:=HK1.out;omega
       case rel=>exact ⟨(wrap64 (x1001_1+1)),H',⟨by have:=HK1.out;omega⟩,⟨zu10⟩,⟨zu11⟩,⟨zu9⟩⟩
      ·replace c6:=Bool.eq_false_iff.mpr c6
       subst c6
       rw [if_neg (show ¬ (false=true) by decide)] at H
       simp only [Option.some.injEq,Prod.mk.injEq] at H
       obtain ⟨rfl,rfl⟩:=H
       obtain ⟨HGz8,hgz8⟩:=HI0.out
       have hcz8_0:=cellS170_0 HGz8
       have hcz8_1:=cellS170_1 HGz8
       have hfz8_0:=blk_frozen HGz8 0
       have hfz8_1:=blk_frozen HGz8 1
       clear HGz8 hgz8
       have p4:0≤(x1001_1:Int):=of_decide_eq_true zu17
       have q4:x1001_1<(s0_0.size:Int):=of_decide_eq_true zu17
       have hx4:=bt_at s0_0 x1001_1
       replace p4:=eq_true p4
       replace q4:=eq_true q4
       go_wp2_with (first | (go_at_call 105;(with_reducible refine (sign_Space.calls (bt s0_0 x1001_1) false _ A5.out).mono ?_);rintro e w' ⟨rfl,⟨nd,rfl⟩⟩;(try first|exact ⟨rfl,_,World.drewN_drewN _ _ _⟩|exact ⟨rfl,_,Eq.trans (World.drewN_drewN _ _ _) (congrArg (World.drewN _) (Nat.add_assoc _ _ _))⟩)))
       repeat (go_quiet (first | (go_at_call 105;(with_reducible refine (sign_Space.calls (bt s0_0 x1001_1) false _ A5.out).mono ?_);rintro e w' ⟨rfl,⟨nd,rfl⟩⟩;(try first|exact ⟨rfl,_,World.drewN_drewN _ _ _⟩|exact ⟨rfl,_,Eq.trans (World.drewN_drewN _ _ _) (congrArg (World.drewN _) (Nat.add_assoc _ _ _))⟩)));try go_wp2_with (first | (go_at_call 105;(with_reducible refine (sign_Space.calls (bt s0_0 x1001_1) false _ A5.out).mono ?_);rintro e w' ⟨rfl,⟨nd,rfl⟩⟩;(try first|exact ⟨rfl,_,World.drewN_drewN _ _ _⟩|exact ⟨rfl,_,Eq.trans (World.drewN_drewN _ _ _) (congrArg (World.drewN _) (Nat.add_assoc _ _ _))⟩))))
       first|go_end0 | ((try simp only [Exit.inBlock,Exit.then]);refine bodyPost_ret (results_none rfl _ _ _) rfl ?_)
       exact zu6
     ·rw [if_neg c3] at H
      exact absurd H zu19
    ·rw [if_neg c2] at H
     have c2b0:decide (x1001_1<(s0_0.size:Int))=false:=decide_eq_false c2
     clear c2
     simp only [Option.some.injEq,Prod.mk.injEq] at H
     obtain ⟨rfl,rfl⟩:=H
     obtain ⟨HGz9,hgz9⟩:=HI0.out
     have hcz9_0:=cellS170_0 HGz9
     have hcz9_1:=cellS170_1 HGz9
     have hfz9_0:=blk_frozen HGz9 0
     have hfz9_1:=blk_frozen HGz9 1
     clear HGz9 hgz9
     go_wp2
     repeat (go_quiet (fail);try go_wp2)
     first|go_end0 | ((try simp only [Exit.inBlock,Exit.then]);refine bodyPost_ret (results_none rfl _ _ _) rfl ?_)
     exact zu6
def attrs_reader_is.f (s0_0:ByteArray) (s0_1:Int) (a1:Int):Option (Bool×ByteArray×Int):=if s0_1<(s0_0.size:Int) then (if 0≤s0_1 then (some (((bt s0_0 s0_1) == a1),s0_0,s0_1)) else (none)) else (some (false,s0_0,s0_1))
theorem attrs_reader_is.calls (g:Nat) (s0_0:ByteArray) (s0_1:Int) (a1:Int) (r1:Bool) (r2:ByteArray) (r3:Int) (w0 w:World) (hI:IsS170 w0 w g s0_0 s0_1) (hB:Below w0.heap.size w0 w) (h:attrs_reader_is.f s0_0 s0_1 a1=some (r1,r2,r3)) :
  Calls Tryz.prog 143 #[.pointer (some ⟨g,0,none⟩),.int .u8 a1] w fun e w'=>e = .returned (.bool r1)∧IsS170 w0 w' g r2 r3∧Below w0.heap.size w0 w'∧KeepBut w w' g none:=by
 have HI0:=Aside0.mk hI
 have HK:=Aside0.mk (KeepBut.refl w g none)
 have HL:=Aside0.mk hB.size
 clear hI
 have HW0:=Aside0.mk hB.size
 have HB:=Aside0.mk hB
 clear hB
 have H:(if s0_1<(s0_0.size:Int) then (if 0≤s0_1 then (some (((bt s0_0 s0_1) == a1),s0_0,s0_1)) else (none)) else (some (false,s0_0,s0_1)))=some (r1,r2,r3):=h
 clear h
 by_cases c3:s0_1<(s0_0.size:Int)
 ·rw [if_pos c3] at H
  have c3b0:decide (s0_1<(s0_0.size:Int))=true:=decide_eq_true c3
  clear c3
  by_cases c4:0≤s0_1
  ·rw [if_pos c4] at H
   have c4b0:decide (0≤s0_1)=true:=decide_eq_true c4
   clear c4
   simp only [Option.some.injEq,Prod.mk.injEq] at H
   obtain ⟨rfl,rfl,rfl⟩:=H
   obtain ⟨HGz6,hgz6⟩:=HI0.out
   have hcz6_0:=cellS170_0 HGz6
   have hcz6_1:=cellS170_1 HGz6
   have hfz6_0:=blk_frozen HGz6 0
   have hfz6_1:=blk_frozen HGz6 1
   clear HGz6 hgz6
   have p5:0≤(s0_1:Int):=of_decide_eq_true zu17
   have q5:s0_1<(s0_0.size:Int):=of_decide_eq_true zu17
   have hx5:=bt_at s0_0 s0_1
   replace p5:=eq_true p5
   replace q5:=eq_true q5
   go_enter Tryz.func143,Tryz.ntmps143
   go_wp2
   repeat (go_quiet (fail);try go_wp2)
   go_ret
   exact zu6
  ·rw [if_neg c4] at H
   exact absurd H zu19
 ·rw [if_neg c3] at H
  have c3b0:decide (s0_1<(s0_0.size:Int))=false:=decide_eq_false c3
  clear c3
  simp only [Option.some.injEq,Prod.mk.injEq] at H
  obtain ⟨rfl,rfl,rfl⟩:=H
  obtain ⟨HGz7,hgz7⟩:=HI0.out
  have hcz7_0:=cellS170_0 HGz7
  have hcz7_1:=cellS170_1 HGz7
  have hfz7_0:=blk_frozen HGz7 0
  have hfz7_1:=blk_frozen HGz7 1
  clear HGz7 hgz7
  go_enter Tryz.func143,Tryz.ntmps143
  go_wp2
  repeat (go_quiet (fail);try go_wp2)
  go_ret
  exact zu6
def attrs_reader_upTo.l0:Nat→ByteArray→Int→ByteArray→Int→Option (ByteArray×ByteArray×Int)
 | 0,_,_,_,_=>none
 | k+1,x1,x5,x1000,x1001=>if x1001<(x1000.size:Int) then (if 0≤x1001 then ((sign_Space.f (bt x1000 x1001)).bind fun t102=>(if t102=true then (if 0≤x5 then (if x5≤x1001 then (if x1001≤(x1000.size:Int) then (some (x1000.extract (x5:Int).toNat (x1001:Int).toNat,x1000,x1001)) else (none)) else (none)) else (none)) else ((strings_IndexByte.f x1 (bt x1000 x1001)).bind fun t103=>(if t103≥0 then (if 0≤x5 then (if x5≤x1001 then (if x1001≤(x1000.size:Int) then (some (x1000.extract (x5:Int).toNat (x1001:Int).toNat,x1000,x1001)) else (none)) else (none)) else (none)) else (attrs_reader_upTo.l0 k x1 x5 x1000 (wrap64 (x1001+1))))))) else (none)) else (if 0≤x5 then (if x5≤x1001 then (if x1001≤(x1000.size:Int) then (some (x1000.extract (x5:Int).toNat (x1001:Int).toNat,x1000,x1001)) else (none)) else (none)) else (none))
def attrs_reader_upTo.f (k:Nat) (s0_0:ByteArray) (s0_1:Int) (a1:ByteArray):Option (ByteArray×ByteArray×Int):=attrs_reader_upTo.l0 k a1 s0_1 s0_0 (wrap64 (s0_1+1))
theorem attrs_reader_upTo.calls (k:Nat) (g:Nat) (s0_0:ByteArray) (s0_1:Int) (a1:ByteArray) (r1:ByteArray) (r2:ByteArray) (r3:Int) (w0 w:World) (hI:IsS170 w0 w g s0_0 s0_1) (hB:Below w0.heap.size w0 w) (h:attrs_reader_upTo.f k s0_0 s0_1 a1=some (r1,r2,r3)) :
  Calls Tryz.prog 144 #[.pointer (some ⟨g,0,none⟩),.string a1] w fun e w'=>e = .returned (.string r1)∧IsS170 w0 w' g r2 r3∧Below w0.heap.size w0 w'∧KeepBut w w' g none:=by
 have HI0:=Aside0.mk hI
 have HK:=Aside0.mk (KeepBut.refl w g none)
 have HL:=Aside0.mk hB.size
 clear hI
 have HW0:=Aside0.mk hB.size
 have HB:=Aside0.mk hB
 clear hB
 have H:(attrs_reader_upTo.l0 k a1 s0_1 s0_0 (wrap64 (s0_1+1)))=some (r1,r2,r3):=h
 clear h
 have H':=Aside0.mk H
 clear H
 obtain ⟨HGz3,hgz3⟩:=HI0.out
 have hcz3_0:=cellS170_0 HGz3
 have hcz3_1:=cellS170_1 HGz3
 have hfz3_0:=blk_frozen HGz3 0
 have hfz3_1:=blk_frozen HGz3 1
 clear HGz3 hgz3
 go_enter Tryz.func144,Tryz.ntmps144
 go_wp2
 repeat (go_quiet (fail);try go_wp2)
 go_loopg [] k (fun kq w' => ∃ (x1001_1:Int),Aside0 (attrs_reader_upTo.l0 kq a1 s0_1 s0_0 x1001_1=some (r1,r2,r3))∧Aside0 (kq≤k)∧Aside0 (IsS170 w0 w' g s0_0 x1001_1)∧Aside0 (KeepBut w w' g none)∧Aside0 (Below w0.heap.size w0 w'))
 case atStart=>exact ⟨(wrap64 (s0_1+1)),H',⟨Nat.le_refl _⟩,⟨zu10⟩,⟨zu11⟩,⟨zu9⟩⟩
 case round =>
  clear H'
  try clear c1
  try clear p2
  try clear hcz3_0
  try clear hcz3_1
  try clear hfz3_0
  try clear hfz3_1
  obtain ⟨x1001_1,HA,HK1,HI0,HK,HB⟩:=hrel
  cases gk with
  | zero=>exact absurd HA.out (by simp [attrs_reader_upTo.l0])
  | succ k1 =>
    have H:=HA.out
    clear HA
    simp only [attrs_reader_upTo.l0] at H
    by_cases c4:x1001_1<(s0_0.size:Int)
    ·rw [if_pos c4] at H
     have c4b0:decide (x1001_1<(s0_0.size:Int))=true:=decide_eq_true c4
     clear c4
     by_cases c5:0≤x1001_1
     ·rw [if_pos c5] at H
      have c5b0:decide (0≤x1001_1)=true:=decide_eq_true c5
      clear c5
      replace H:=Option.bind_eq_some_iff.mp H
      obtain ⟨t102,A70,H⟩:=H
      try dsimp only at H
      have A7:=Aside0.mk A70
      clear A70
      by_cases c8:t102=true
      ·subst c8
       rw [if_pos rfl] at H
       by_cases c9:0≤s0_1
       ·rw [if_pos c9] at H
        have c9b0:=eq_true c9
        have c9b1:decide (0≤s0_1)=true:=decide_eq_true c9
        clear c9
        by_cases c10:s0_1≤x1001_1
        ·rw [if_pos c10] at H
         have c10b0:=eq_true c10
         have c10b1:decide (s0_1≤x1001_1)=true:=decide_eq_true c10
         clear c10
         by_cases c11:x1001_1≤(s0_0.size:Int)
         ·rw [if_pos c11] at H
          have c11b0:=eq_true c11
          have c11b1:decide (x1001_1≤(s0_0.size:Int))=true:=decide_eq_true c11
          clear c11
          simp only [Option.some.injEq,Prod.mk.injEq] at H
          obtain ⟨rfl,rfl,rfl⟩:=H
          obtain ⟨HGz12,hgz12⟩:=HI0.out
          have hcz12_0:=cellS170_0 HGz12
          have hcz12_1:=cellS170_1 HGz12
          have hfz12_0:=blk_frozen HGz12 0
          have hfz12_1:=blk_frozen HGz12 1
          clear HGz12 hgz12
          have p6:0≤(x1001_1:Int):=of_decide_eq_true zu17
          have q6:x1001_1<(s0_0.size:Int):=of_decide_eq_true zu17
          have hx6:=bt_at s0_0 x1001_1
          replace p6:=eq_true p6
          replace q6:=eq_true q6
          go_wp2_with (first | (go_at_call 105;(with_reducible refine (sign_Space.calls (bt s0_0 x1001_1) true _ A7.out).mono ?_);rintro e w' ⟨rfl,⟨nd,rfl⟩⟩;(try first|exact ⟨rfl,_,World.drewN_drewN _ _ _⟩|exact ⟨rfl,_,Eq.trans (World.drewN_drewN _ _ _) (congrArg (World.drewN _) (Nat.add_assoc _ _ _))⟩)))
          repeat (go_quiet (first | (go_at_call 105;(with_reducible refine (sign_Space.calls (bt s0_0 x1001_1) true _ A7.out).mono ?_);rintro e w' ⟨rfl,⟨nd,rfl⟩⟩;(try first|exact ⟨rfl,_,World.drewN_drewN _ _ _⟩|exact ⟨rfl,_,Eq.trans (World.drewN_drewN _ _ _) (congrArg (World.drewN _) (Nat.add_assoc _ _ _))⟩)));try go_wp2_with (first | (go_at_call 105;(with_reducible refine (sign_Space.calls (bt s0_0 x1001_1) true _ A7.out).mono ?_);rintro e w' ⟨rfl,⟨nd,rfl⟩⟩;(try first|exact ⟨rfl,_,World.drewN_drewN _ _ _⟩|exact ⟨rfl,_,Eq.trans (World.drewN_drewN _ _ _) (congrArg (World.drewN _) (Nat.add_assoc _ _ _))⟩))))
          go_ret
          exact zu6
         ·rw [if_neg c11] at H
          exact absurd H zu19
        ·rw [if_neg c10] at H
         exact absurd H zu19
       ·rw [if_neg c9] at H
        exact absurd H zu19
      ·replace c8:=Bool.eq_false_iff.mpr c8
       subst c8
       rw [if_neg (show ¬ (false=true) by decide)] at H
       replace H:=Option.bind_eq_some_iff.mp H
       obtain ⟨t103,A130,H⟩:=H
       try dsimp only at H
       have A13:=Aside0.mk A130
       clear A130
       by_cases c14:t103≥0
       ·rw [if_pos c14] at H
        have c14b0:decide (0≤t103)=true:=decide_eq_true c14
        clear c14
        by_cases c15:0≤s0_1
        ·rw [if_pos c15] at H
         have c15b0:=eq_true c15
         have c15b1:decide (0≤s0_1)=true:=decide_eq_true c15
         clear c15
         by_cases c16:s0_1≤x1001_1
         ·rw [if_pos c16] at H
          have c16b0:=eq_true c16
          have c16b1:decide (s0_1≤x1001_1)=true:=decide_eq_true c16
          clear c16
          by_cases c17:x1001_1≤(s0_0.size:Int)
          ·rw [if_pos c17] at H
           have c17b0:=eq_true c17
           have c17b1:decide (x1001_1≤(s0_0.size:Int))=true:=decide_eq_true c17
           clear c17
           simp only [Option.some.injEq,Prod.mk.injEq] at H
           obtain ⟨rfl,rfl,rfl⟩:=H
           obtain ⟨HGz18,hgz18⟩:=HI0.out
           have hcz18_0:=cellS170_0 HGz18
           have hcz18_1:=cellS170_1 HGz18
           have hfz18_0:=blk_frozen HGz18 0
           have hfz18_1:=blk_frozen HGz18 1
           clear HGz18 hgz18
           have p6:0≤(x1001_1:Int):=of_decide_eq_true zu17
           have q6:x1001_1<(s0_0.size:Int):=of_decide_eq_true zu17
           have hx6:=bt_at s0_0 x1001_1
           replace p6:=eq_true p6
           replace q6:=eq_true q6
           go_wp2_with (first | (go_at_call 105;(with_reducible refine (sign_Space.calls (bt s0_0 x1001_1) false _ A7.out).mono ?_);rintro e w' ⟨rfl,⟨nd,rfl⟩⟩;(try first|exact ⟨rfl,_,World.drewN_drewN _ _ _⟩|exact ⟨rfl,_,Eq.trans (World.drewN_drewN _ _ _) (congrArg (World.drewN _) (Nat.add_assoc _ _ _))⟩)) | (go_at_call 87;(with_reducible refine (strings_IndexByte.calls a1 (bt s0_0 x1001_1) t103 _ A13.out).mono ?_);rintro e w19 ⟨rfl,hb⟩;have n0_:=Aside0.mk (IsS170.below zu10 hb);have n1_:=Aside0.mk (KeepBut.trans zu11 (KeepBut.of_below hb g none) (.inl rfl));have n2_:=Aside0.mk (below_step zu9 hb);clear HI0;clear HK;clear HB;have HI0:=n0_;have HK:=n1_;have HB:=n2_;clear n0_ n1_ n2_;(try clear hb);(try clear hb2);(try clear hk);(try clear hi);obtain ⟨HGz20,hgz20⟩:=HI0.out;have hcz20_0:=cellS170_0 HGz20;have hcz20_1:=cellS170_1 HGz20;have hfz20_0:=blk_frozen HGz20 0;have hfz20_1:=blk_frozen HGz20 1;clear HGz20 hgz20))
           repeat (go_quiet (first | (go_at_call 105;(with_reducible refine (sign_Space.calls (bt s0_0 x1001_1) false _ A7.out).mono ?_);rintro e w' ⟨rfl,⟨nd,rfl⟩⟩;(try first|exact ⟨rfl,_,World.drewN_drewN _ _ _⟩|exact ⟨rfl,_,Eq.trans (World.drewN_drewN _ _ _) (congrArg (World.drewN _) (Nat.add_assoc _ _ _))⟩)) | (go_at_call 87;(with_reducible refine (strings_IndexByte.calls a1 (bt s0_0 x1001_1) t103 _ A13.out).mono ?_);rintro e w19 ⟨rfl,hb⟩;have n0_:=Aside0.mk (IsS170.below zu10 hb);have n1_:=Aside0.mk (KeepBut.trans zu11 (KeepBut.of_below hb g none) (.inl rfl));have n2_:=Aside0.mk (below_step zu9 hb);clear HI0;clear HK;clear HB;have HI0:=n0_;have HK:=n1_;have HB:=n2_;clear n0_ n1_ n2_;(try clear hb);(try clear hb2);(try clear hk);(try clear hi);obtain ⟨HGz20,hgz20⟩:=HI0.out;have hcz20_0:=cellS170_0 HGz20;have hcz20_1:=cellS170_1 HGz20;have hfz20_0:=blk_frozen HGz20 0;have hfz20_1:=blk_frozen HGz20 1;clear HGz20 hgz20));try go_wp2_with (first | (go_at_call 105;(with_reducible refine (sign_Space.calls (bt s0_0 x1001_1) false _ A7.out).mono ?_);rintro e w' ⟨rfl,⟨nd,rfl⟩⟩;(try first|exact ⟨rfl,_,World.drewN_drewN _ _ _⟩|exact ⟨rfl,_,Eq.trans (World.drewN_drewN _ _ _) (congrArg (World.drewN _) (Nat.add_assoc _ _ _))⟩)) | (go_at_call 87;(with_reducible refine (strings_IndexByte.calls a1 (bt s0_0 x1001_1) t103 _ A13.out).mono ?_);rintro e w19 ⟨rfl,hb⟩;have n0_:=Aside0.mk (IsS170.below zu10 hb);have n1_:=Aside0.mk (KeepBut.trans zu11 (KeepBut.of_below hb g none) (.inl rfl));have n2_:=Aside0.mk (below_step zu9 hb);clear HI0;clear HK;clear HB;have HI0:=n0_;have HK:=n1_;have HB:=n2_;clear n0_ n1_ n2_;(try clear hb);(try clear hb2);(try clear hk);(try clear hi);obtain ⟨HGz20,hgz20⟩:=HI0.out;have hcz20_0:=cellS170_0 HGz20;have hcz20_1:=cellS170_1 HGz20;have hfz20_0:=blk_frozen HGz20 0;have hfz20_1:=blk_frozen HGz20 1;clear HGz20 hgz20)))
           go_ret
           exact zu6
          ·rw [if_neg c17] at H
           exact absurd H zu19
         ·rw [if_neg c16] at H
          exact absurd H zu19
        ·rw [if_neg c15] at H
         exact absurd H zu19
       ·rw [if_neg c14] at H
        have c14b0:decide (0≤t103)=false:=decide_eq_false c14
        clear c14
        have H':=Aside0.mk H
        clear H
        obtain ⟨HGz21,hgz21⟩:=HI0.out
        have hcz21_0:=cellS170_0 HGz21
        have hcz21_1:=cellS170_1 HGz21
        have hfz21_0:=blk_frozen HGz21 0
        have hfz21_1:=blk_frozen HGz21 1
        clear HGz21 hgz21
        have p6:0≤(x1001_1:Int):=of_decide_eq_true zu17
        have q6:x1001_1<(s0_0.size:Int):=of_decide_eq_true zu17
        have hx6:=bt_at s0_0 x1001_1
        replace p6:=eq_true p6
        replace q6:=eq_true q6
        go_wp2_with (first | (go_at_call 105;(with_reducible refine (sign_Space.calls (bt s0_0 x1001_1) false _ A7.out).mono ?_);rintro e w' ⟨rfl,⟨nd,rfl⟩⟩;(try first|exact ⟨rfl,_,World.drewN_drewN _ _ _⟩|exact ⟨rfl,_,Eq.trans (World.drewN_drewN _ _ _) (congrArg (World.drewN _) (Nat.add_assoc _ _ _))⟩)) | (go_at_call 87;(with_reducible refine (strings_IndexByte.calls a1 (bt s0_0 x1001_1) t103 _ A13.out).mono ?_);rintro e w22 ⟨rfl,hb⟩;have n0_:=Aside0.mk (IsS170.below zu10 hb);have n1_:=Aside0.mk (KeepBut.trans zu11 (KeepBut.of_below hb g none) (.inl rfl));have n2_:=Aside0.mk (below_step zu9 hb);clear HI0;clear HK;clear HB;have HI0:=n0_;have HK:=n1_;have HB:=n2_;clear n0_ n1_ n2_;(try clear hb);(try clear hb2);(try clear hk);(try clear hi);obtain ⟨HGz23,hgz23⟩:=HI0.out;have hcz23_0:=cellS170_0 HGz23;have hcz23_1:=cellS170_1 HGz23;have hfz23_0:=blk_frozen HGz23 0;have hfz23_1:=blk_frozen HGz23 1;clear HGz23 hgz23))
        repeat (go_quiet (first | (go_at_call 105;(with_reducible refine (sign_Space.calls (bt s0_0 x1001_1) false _ A7.out).mono ?_);rintro e w' ⟨rfl,⟨nd,rfl⟩⟩;(try first|exact ⟨rfl,_,World.drewN_drewN _ _ _⟩|exact ⟨rfl,_,Eq.trans (World.drewN_drewN _ _ _) (congrArg (World.drewN _) (Nat.add_assoc _ _ _))⟩)) | (go_at_call 87;(with_reducible refine (strings_IndexByte.calls a1 (bt s0_0 x1001_1) t103 _ A13.out).mono ?_);rintro e w22 ⟨rfl,hb⟩;have n0_:=Aside0.mk (IsS170.below zu10 hb);have n1_:=Aside0.mk (KeepBut.trans zu11 (KeepBut.of_below hb g none) (.inl rfl));have n2_:=Aside0.mk (below_step zu9 hb);clear HI0;clear HK;clear HB;have HI0:=n0_;have HK:=n1_;have HB:=n2_;clear n0_ n1_ n2_;(try clear hb);(try clear hb2);(try clear hk);(try clear hi);obtain ⟨HGz23,hgz23⟩:=HI0.out;have hcz23_0:=cellS170_0 HGz23;have hcz23_1:=cellS170_1 HGz23;have hfz23_0:=blk_frozen HGz23 0;have hfz23_1:=blk_frozen HGz23 1;clear HGz23 hgz23));try go_wp2_with (first | (go_at_call 105;(with_reducible refine (sign_Space.calls (bt s0_0 x1001_1) false _ A7.out).mono ?_);rintro e w' ⟨rfl,⟨nd,rfl⟩⟩;(try first|exact ⟨rfl,_,World.drewN_drewN _ _ _⟩|exact ⟨rfl,_,Eq.trans (World.drewN_drewN _ _ _) (congrArg (World.drewN _) (Nat.add_assoc _ _ _))⟩)) | (go_at_call 87;(with_reducible refine (strings_IndexByte.calls a1 (bt s0_0 x1001_1) t103 _ A13.out).mono ?_);rintro e w22 ⟨rfl,hb⟩;have n0_:=Aside0.mk (IsS170.below zu10 hb);have n1_:=Aside0.mk (KeepBut.trans zu11 (KeepBut.of_below hb g none) (.inl rfl));have n2_:=Aside0.mk (below_step zu9 hb);clear HI0;clear HK;clear HB;have HI0:=n0_;have HK:=n1_;have HB:=n2_;clear n0_ n1_ n2_;(try clear hb);(try clear hb2);(try clear hk);(try clear hi);obtain ⟨HGz23,hgz23⟩:=HI0.out;have hcz23_0:=cellS170_0 HGz23;have hcz23_1:=cellS170_1 HGz23;have hfz23_0:=blk_frozen HGz23 0;have hfz23_1:=blk_frozen HGz23 1;clear HGz23 hgz23)))
        go_roundg k1
        case measure=>have:=HK1.out;omega
        case rel=>exact ⟨(wrap64 (x1001_1+1)),H',⟨by have:=HK1.out;omega⟩,⟨zu10⟩,⟨zu11⟩,⟨zu9⟩⟩
     ·rw [if_neg c5] at H
      exact absurd H zu19
    ·rw [if_neg c4] at H
     have c4b0:decide (x1001_1<(s0_0.size:Int))=false:=decide_eq_false c4
     clear c4
     by_cases c24:0≤s0_1
     ·rw [if_pos c24] at H
      have c24b0:=eq_true c24
      have c24b1:decide (0≤s0_1)=true:=decide_eq_true c24
      clear c24
      by_cases c25:s0_1≤x1001_1
      ·rw [if_pos c25] at H
       have c25b0:=eq_true c25
       have c25b1:decide (s0_1≤x1001_1)=true:=decide_eq_true c25
       clear c25
       by_cases c26:x1001_1≤(s0_0.size:Int)
       ·rw [if_pos c26] at H
        have c26b0:=eq_true c26
        have c26b1:decide (x1001_1≤(s0_0.size:Int))=true:=decide_eq_true c26
        clear c26
        simp only [Option.some.injEq,Prod.mk.injEq] at H
        obtain ⟨rfl,rfl,rfl⟩:=H
        obtain ⟨HGz27,hgz27⟩:=HI0.out
        have hcz27_0:=cellS170_0 HGz27
        have hcz27_1:=cellS170_1 HGz27
        have hfz27_0:=blk_frozen HGz27 0
        have hfz27_1:=blk_frozen HGz27 1
        clear HGz27 hgz27
        go_wp2
        repeat (go_quiet (fail);try go_wp2)
        go_ret
        exact zu6
       ·rw [if_neg c26] at H
        exact absurd H zu19
      ·rw [if_neg c25] at H
       exact absurd H zu19
     ·rw [if_neg c24] at H
      exact absurd H zu19
end Sx
end

section
namespace Hand
open Go Go.RowKit Pl Pb Sx Sa Go.Proofs.YtclkdmmgibgamaaGreatDoor.Pure YtclkdmmgibgamaaGreatDoorW.PrintWords YtclkdmmgibgamaaGreatDoorW.PrintLast YtclkdmmgibgamaaGreatDoorW.PrintMore
abbrev Rdr (w0 W:World) (g:Nat) (s:List UInt8) (pos:Nat):Prop:=IsS170 w0 W g (B s) (pos:Int)
theorem sp_f (c:UInt8):sign_Space.f (c.toNat:Int)=some (isSp c):=by
 have:∀ n:Fin 256,sign_Space.f ((n.val:Nat):Int)=some (isSp (UInt8.ofNat n.val)):=by decide +kernel
 have h:=this ⟨c.toNat,c.toNat_lt⟩
 simpa using h
def spc (l:List UInt8):Nat:=(l.takeWhile isSp).length
theorem spc_drop (l:List UInt8):l.drop (spc l)=spL l:=by
 unfold spc spL
 conv=>lhs;arg 2;rw [← List.takeWhile_append_dropWhile (p:=isSp) (l:=l)]
 rw [List.drop_left]
theorem tw_len {α:Type} (p:α→Bool) (l:List α):(l.takeWhile p).length≤l.length:=by
 induction l with
 | nil=>simp
 | cons a l ih=>rw [List.takeWhile_cons];split<;>simp<;>omega
theorem spaces_l (s:List UInt8) (hs:s.length≤1000000):∀ (r:List UInt8) (i k:Nat),s.drop i=r→i≤s.length→attrs_reader_spaces.l0 (r.length+1+k) (B s) (i:Int)=some (B s,((i+spc r:Nat):Int)):=by
 intro r
 induction r with
 | nil =>
   intro i k hd hi
   have:=List.drop_eq_nil_iff.1 hd
   rw [show ([]:List UInt8).length+1+k=k+1 by simp;omega,attrs_reader_spaces.l0,if_neg zu36];rfl
 | cons c r ih =>
   intro i k hd hi
   have hlt:=drop_lt hd
   have hd2:s.drop (i+1)=r:=by rw [← List.drop_drop,hd];rfl
   have w1:wrap64 ((i:Int)+1)=((i+1:Nat):Int):=by unfold wrap64;omega
   rw [show (c::r).length+1+k=(r.length+1+k)+1 by simp;omega,attrs_reader_spaces.l0,if_pos zu36,if_pos zu4,bt_drop s i c r hd,sp_f,Option.bind_some,w1]
   cases h:isSp c with
   | true =>
     rw [if_pos rfl,ih (i+1) k hd2 zu4]
     have:spc (c::r)=spc r+1:=by unfold spc;rw [List.takeWhile_cons,if_pos h];rfl
     rw [this];congr 3;omega
   | false =>
     rw [if_neg zu15]
     have:spc (c::r)=0:=by unfold spc;rw [List.takeWhile_cons,h];rfl
     rw [this];rfl
theorem spaces_c (w0 w:World) (g:Nat) (s:List UInt8) (pos:Nat) (hs:s.length≤1000000) (hp:pos≤s.length) (hI:Rdr w0 w g s pos) (hB:Below w0.heap.size w0 w) :
  Calls Tryz.prog 142 #[.pointer (some ⟨g,0,none⟩)] w fun e w'=>e = .returned (.tuple #[])∧Rdr w0 w' g s (pos+spc (s.drop pos))∧Below w0.heap.size w0 w'∧KeepBut w w' g none :=
 attrs_reader_spaces.calls _ g _ _ _ _ w0 w hI hB (spaces_l s hs (s.drop pos) pos 0 rfl hp)
def isB (c:UInt8) (l:List UInt8):Bool:=l.head? == some c
theorem is_c (c:UInt8) (w0 w:World) (g:Nat) (s:List UInt8) (pos:Nat) (hI:Rdr w0 w g s pos) (hB:Below w0.heap.size w0 w) :
  Calls Tryz.prog 143 #[.pointer (some ⟨g,0,none⟩),.int .u8 (c.toNat:Int)] w fun e w'=>e = .returned (.bool (isB c (s.drop pos)))∧Rdr w0 w' g s pos∧Below w0.heap.size w0 w'∧KeepBut w w' g none:=by
 refine attrs_reader_is.calls g _ _ _ _ _ _ w0 w hI hB ?_
 unfold attrs_reader_is.f
 cases hd:s.drop pos with
 | nil =>
   have:=List.drop_eq_nil_iff.1 hd
   rw [if_neg zu36];rfl
 | cons d r =>
   have hlt:=drop_lt hd
   rw [if_pos zu36,if_pos zu4,bt_drop s pos d r hd]
   congr 2
   unfold isB
   rw [List.head?_cons,Bool.eq_iff_iff,beq_iff_eq,beq_iff_eq]
   constructor
   ·intro e;rw [UInt8.toNat_inj.1 (show d.toNat=c.toNat by omega)]
   ·intro e;rw [Option.some.inj e]
def upC (ends:List UInt8) (c:UInt8):Bool := !(isSp c || decide (c∈ends))
theorem index_mem (ends:List UInt8) (c:UInt8):(Lib.indexByte ends c≥0)=(c∈ends):=by
 apply propext
 constructor
 ·intro h
  obtain ⟨o,ho⟩:∃ o:Nat,Lib.indexByte ends c=o:=⟨_,(Int.toNat_of_nonneg h).symm⟩
  exact List.mem_of_getElem? (Lib.indexByte_some ho).1
 ·intro h
  rcases Int.lt_or_le (Lib.indexByte ends c) 0 with h'|h'
  ·exfalso
   have h1:Lib.indexByte ends c = -1:=by have:=Lib.indexByte_ge ends c;omega
   obtain ⟨k,hk,he⟩:=List.getElem_of_mem h
   exact Lib.indexByte_none h1 k (by rw [List.getElem?_eq_getElem hk,he])
  ·exact h'
theorem upTo_l (ends s:List UInt8) (hs:s.length≤1000000) (fr:Nat):∀ (r:List UInt8) (i k:Nat),s.drop i=r→i≤s.length→fr≤i →
  attrs_reader_upTo.l0 (r.length+1+k) (B ends) (fr:Int) (B s) (i:Int)=some ((B s).extract fr (i+(r.takeWhile (upC ends)).length),B s,((i+(r.takeWhile (upC ends)).length:Nat):Int)):=by
 intro r
 induction r with
 | nil =>
   intro i k hd hi hf
   have:=List.drop_eq_nil_iff.1 hd
   rw [show ([]:List UInt8).length+1+k=k+1 by simp;omega,attrs_reader_upTo.l0,if_neg zu36,if_pos zu4,if_pos zu4,if_pos zu36]
   rfl
 | cons c r ih =>
   intro i k hd hi hf
   have hlt:=drop_lt hd
   have hd2:s.drop (i+1)=r:=by rw [← List.drop_drop,hd];rfl
   have w1:wrap64 ((i:Int)+1)=((i+1:Nat):Int):=by unfold wrap64;omega
   have hc:((c.toNat:Int)).toNat.toUInt8=c:=by rw [Int.toNat_natCast];simp
   rw [show (c::r).length+1+k=(r.length+1+k)+1 by simp;omega,attrs_reader_upTo.l0,if_pos zu36,if_pos zu4,bt_drop s i c r hd,sp_f,Option.bind_some,w1]
   cases h:isSp c with
   | true =>
     have e:(c::r).takeWhile (upC ends)=[]:=by rw [List.takeWhile_cons,if_neg];unfold upC;rw [h];simp
     rw [if_pos rfl,if_pos zu4,if_pos zu4,if_pos zu36,e];rfl
   | false =>
     rw [if_neg zu15]
     unfold strings_IndexByte.f
     rw [Option.bind_some,hc,B_data]
     by_cases hm:c∈ends
     ·have e:(c::r).takeWhile (upC ends)=[]:=by rw [List.takeWhile_cons,if_neg];unfold upC;rw [h,decide_eq_true hm];simp
      rw [if_pos (by rw [index_mem];exact hm),if_pos zu4,if_pos zu4,if_pos zu36,e];rfl
     ·have e:(c::r).takeWhile (upC ends)=c::r.takeWhile (upC ends):=by rw [List.takeWhile_cons,if_pos];unfold upC;rw [h,decide_eq_false hm];rfl
      rw [if_neg (by rw [index_mem];exact hm),ih (i+1) k hd2 zu4 zu4,e,List.length_cons,show i+1+(r.takeWhile (upC ends)).length=i+((r.takeWhile (upC ends)).length+1) by omega]
theorem upTo_c (ends:List UInt8) (w0 w:World) (g:Nat) (s:List UInt8) (pos:Nat) (hs:s.length≤1000000) (hp:pos<s.length) (hI:Rdr w0 w g s pos) (hB:Below w0.heap.size w0 w) :
  Calls Tryz.prog 144 #[.pointer (some ⟨g,0,none⟩),.string (B ends)] w fun e w' =>
   e = .returned (.string (B (s[pos]::(s.drop (pos+1)).takeWhile (upC ends))))∧Rdr w0 w' g s (pos+1+((s.drop (pos+1)).takeWhile (upC ends)).length)∧Below w0.heap.size w0 w'∧KeepBut w w' g none:=by
 have w1:wrap64 ((pos:Int)+1)=((pos+1:Nat):Int):=by unfold wrap64;omega
 have h:=upTo_l ends s hs pos (s.drop (pos+1)) (pos+1) 0 rfl zu4 zu4
 have hx:(B s).extract pos (pos+1+((s.drop (pos+1)).takeWhile (upC ends)).length)=B (s[pos]::(s.drop (pos+1)).takeWhile (upC ends)):=by
  have hl:=tw_len (upC ends) (s.drop (pos+1))
  rw [B_extract,List.drop_take,List.drop_eq_getElem_cons hp,show pos+1+((s.drop (pos+1)).takeWhile (upC ends)).length - pos=((s.drop (pos+1)).takeWhile (upC ends)).length+1 by omega,List.take_succ_cons]
  congr 2
  conv=>lhs;arg 2;rw [← List.takeWhile_append_dropWhile (p:=upC ends) (l:=s.drop (pos+1))]
  rw [List.take_left]
 rw [hx] at h
 exact attrs_reader_upTo.calls ((s.drop (pos+1)).length+1+0) g _ _ _ _ _ _ w0 w hI hB (by unfold attrs_reader_upTo.f;rw [w1];exact h)
theorem quiet_at {P:Program} {f:FuncId} {args:Array Value} {W:World} {n:Nat} {v:Value} (h:Calls P f args (W.drewN n) fun e w'=>e = .returned v∧w'=W.drewN n) :
 Calls P f args (W.drewN n) fun e w''=>e = .returned v∧∃ m,w''=W.drewN m:=h.mono fun _ _ ⟨he,hm⟩=>⟨he,n,hm⟩
def quoP (s:List UInt8) (pos:Nat) (q:UInt8):List UInt8×Bool×Nat :=
 if q∈s.drop (pos+1) then (upto q (s.drop (pos+1)),true,pos+1+(upto q (s.drop (pos+1))).length+1) else ([],false,pos+1)
theorem quoted_c (w0 w:World) (g:Nat) (s:List UInt8) (pos:Nat) (q:UInt8) (hs:s.length≤1000000) (hp:pos<s.length) (hq:s[pos]=q) (hI:Rdr w0 w g s pos) (hB:Below w0.heap.size w0 w) :
  Calls Tryz.prog 176 #[.pointer (some ⟨g,0,none⟩)] w fun e w' =>
   e = .returned (.tuple #[.string (B (quoP s pos q).1),.bool (quoP s pos q).2.1])∧Rdr w0 w' g s (quoP s pos q).2.2∧Below w0.heap.size w0 w'∧KeepBut w w' g none:=by
 have I:=fun W=>Tryz.strings_IndexByte ((B s).extract (pos+1) (B s).size) (q.toNat:Int) W
 have hr:((B s).extract (pos+1) (B s).size).data.toList=s.drop (pos+1):=by rw [size_B,B_extract,List.take_length,B_data]
 rw [hr,show ((q.toNat:Int)).toNat.toUInt8=q by rw [Int.toNat_natCast];simp] at I
 have HI0:=Aside0.mk hI
 have HK:=Aside0.mk (KeepBut.refl w g none)
 have HB:=Aside0.mk hB
 obtain ⟨HG,hg⟩:=hI
 have hc0:=cellS170_0 HG
 have hc1:=cellS170_1 HG
 have hf0:=blk_frozen HG 0
 have hf1:=blk_frozen HG 1
 have hlen:(B s).size=s.length:=size_B s
 have hby:∀ (h:pos<(B s).size),(B s)[pos]=q:=fun h=>hq
 have hxt:∀ o,(B s).extract (pos+1) (pos+1+o)=B ((s.drop (pos+1)).take o):=fun o=>by rw [B_extract,List.drop_take,Nat.add_sub_cancel_left]
 obtain ⟨a,ha⟩:∃ a,B s=a:=⟨_,rfl⟩
 have HI1:Aside0 (Rdr w0 w g s pos=IsS170 w0 w g a (pos:Int)):=Aside0.mk (by rw [← ha])
 have HE:Aside0 (∀ W p,Rdr w0 W g s p=IsS170 w0 W g a (p:Int)):=Aside0.mk (fun W p=>by rw [← ha])
 rw [ha] at I hc0 hlen hxt
 replace HI0:=Aside0.mk (HI1.out ▸ HI0.out)
 have hpa:pos<a.size:=by omega
 have i1:(pos:Int)<(a.size:Int):=by omega
 have i2:(pos:Int)+1≤(a.size:Int):=by omega
 have hby2:a[pos]=q:=by subst ha;exact hby (by rw [size_B];exact hp)
 have hza:a.size≤1000000:=by omega
 have hsl:∀ W,(Instr.slice 9 (.string a) (some (.int .i64 ((pos:Int)+1))) none none).run Tryz.prog W = .ok (.string (a.extract (pos+1) a.size)) W:=fun W=>by
  rw [run_slice_string_from_if W 9 a .i64 _ Tryz.underlying9,if_pos zu4,show ((pos:Int)+1).toNat=pos+1 by omega]
 clear HI1 hby HG hg hB ha hr hq hp
 rcases Int.lt_or_le (Lib.indexByte (s.drop (pos+1)) q) 0 with h|h
 ·have h1:Lib.indexByte (s.drop (pos+1)) q = -1:=by have:=Lib.indexByte_ge (s.drop (pos+1)) q;omega
  have hno:q∉s.drop (pos+1):=by
   intro hm
   obtain ⟨k,hk,e⟩:=List.getElem_of_mem hm
   exact zu67
  have hqp:quoP s pos q=([],false,pos+1):=by unfold quoP;rw [if_neg hno]
  rw [hqp];simp only [HE.out]
  rw [h1] at I
  have HIX:=Lib.hid I
  clear I h h1 hno hqp hxt HE hlen hs
  go_enter Tryz.func176,Tryz.ntmps176
  go_wp2
  repeat (go_quiet (fail);try go_wp2)
  go_quiet ((go_at_call 87;exact quiet_at (HIX.out _)))
  go_wp2
  go_ret2
  exact ⟨zu18,by rw [show ((pos+1:Nat):Int)=(pos:Int)+1 by omega];repeat (first | (with_reducible first|exact HI0.out|apply IsS170.drewN|apply IsS170.drew|apply IsS170.set_1)|exact HI0.out),zu9,zu11⟩
 ·obtain ⟨o,ho⟩:∃ o:Nat,Lib.indexByte (s.drop (pos+1)) q=o:=⟨_,(Int.toNat_of_nonneg h).symm⟩
  obtain ⟨h1,h2⟩:=Lib.indexByte_some ho
  have hup:upto q (s.drop (pos+1))=(s.drop (pos+1)).take o:=by
   obtain ⟨hl,he⟩:=List.getElem?_eq_some_iff.1 h1
   have e:s.drop (pos+1)=(s.drop (pos+1)).take o++q::(s.drop (pos+1)).drop (o+1):=by
    conv=>lhs;rw [← List.take_append_drop o (s.drop (pos+1)),List.drop_eq_getElem_cons hl,he]
   conv=>lhs;rw [e]
   unfold upto isNe
   rw [tw_app _ _ _ (fun c hc => ?_),List.takeWhile_cons,if_neg zu19,List.append_nil]
   rw [bne_iff_ne]
   rintro rfl
   obtain ⟨k,hk,e2⟩:=List.getElem_of_mem hc
   rw [List.length_take] at hk
   rw [List.getElem_take] at e2
   exact h2 k zu4 (by rw [List.getElem?_eq_getElem zu4,e2])
  have hol:(s.drop (pos+1))[o]? ≠ none:=by rw [h1];simp
  have hol2:o<(s.drop (pos+1)).length:=(List.getElem?_eq_some_iff.1 h1).1
  rw [List.length_drop] at hol2
  have hqp:quoP s pos q=((s.drop (pos+1)).take o,true,pos+1+o+1):=by
   unfold quoP;rw [if_pos (List.mem_of_getElem? h1),hup,List.length_take,List.length_drop,Nat.min_eq_left zu4]
  rw [hqp];simp only [HE.out]
  rw [ho] at I
  have hx:=hxt o
  obtain ⟨t,ht⟩:∃ t,B ((s.drop (pos+1)).take o)=t:=⟨_,rfl⟩
  rw [ht] at hx
  simp only [ht]
  have hpo:pos+1+o≤a.size:=by omega
  have hs2:∀ W,(Instr.slice 9 (.string a) (some (.int .i64 ((pos:Int)+1))) (some (.int .i64 ((pos:Int)+1+(o:Int)))) none).run Tryz.prog W = .ok (.string t) W:=fun W=>by
   rw [run_slice_string W 9 a .i64 .i64 _ _ Tryz.underlying9 zu4 zu4 zu4,show ((pos:Int)+1).toNat=pos+1 by omega,show ((pos:Int)+1+(o:Int)).toNat=pos+1+o by omega,hx]
  have HIX:=Lib.hid I
  clear I h ho h1 h2 hup hol hol2 hqp hxt HE hlen hs ht
  go_enter Tryz.func176,Tryz.ntmps176
  go_wp2
  repeat (go_quiet (fail);try go_wp2)
  go_quiet ((go_at_call 87;exact quiet_at (HIX.out _)))
  go_wp2
  repeat (go_quiet (fail);try go_wp2)
  go_ret2
  exact ⟨zu18,by rw [show ((pos+1+o+1:Nat):Int)=(pos:Int)+1+((o:Int)+1) by omega];repeat (first | (with_reducible first|exact HI0.out|apply IsS170.drewN|apply IsS170.drew|apply IsS170.set_1)|exact HI0.out),zu9,zu11⟩
end Hand
end

section
namespace Hand
open Go Go.RowKit Pl Pb
theorem take_up (c:UInt8) (l:List UInt8) (h:c∈l):l=upto c l++c::past c l:=by
 induction l with
 | nil=>cases h
 | cons d r ih =>
   unfold upto past isNe at *
   by_cases e:d=c
   ·subst e;simp [upto,isNe]
   ·have hne:(d != c)=true:=by simpa using e
    have hr:c∈r:=by
     rcases List.mem_cons.1 h with h|h
     ·exact absurd h.symm e
     ·exact h
    have:=ih hr
    simp only [List.takeWhile_cons,hne,if_true,List.cons_append,upto,isNe,List.length_cons,List.drop_succ_cons]
    first|simp only [upto] at this|simp only [upto,isNe] at this
    exact congrArg _ this
end Hand
end

section
namespace Hand
open Go Go.RowKit Pl Pb Sx YtclkdmmgibgamaaGreatDoorW.PrintWords YtclkdmmgibgamaaGreatDoorW.PrintLast YtclkdmmgibgamaaGreatDoorW.PrintMore
structure RdSt (w0 w W:World) (g:Nat) (s:List UInt8) (pos:Nat):Prop where
 rd:Rdr w0 W g s pos
 below:Below w0.heap.size w0 W
 keep:KeepBut w W g none
theorem RdSt.next {w0 w W W':World} {g:Nat} {s:List UInt8} {pos pos':Nat} (h:RdSt w0 w W g s pos) (h2:Rdr w0 W' g s pos'∧Below w0.heap.size w0 W'∧KeepBut W W' g none):RdSt w0 w W' g s pos' :=
 ⟨h2.1,h2.2.1,h.keep.trans h2.2.2 (.inl rfl)⟩
def ValOk (s:List UInt8) (pos:Nat) (v:List UInt8) (b:Bool) (p:Nat):Prop :=
 p≤s.length∧pos≤p∧v.length≤s.length∧((b=true∧valA (s.drop pos)=some (v,s.drop p))∨(b=false∧valA (s.drop pos)=none))
theorem spc_le (s:List UInt8) (p:Nat) (h:p≤s.length):p+spc (s.drop p)≤s.length:=by
 have:=tw_len isSp (s.drop p);rw [List.length_drop] at this;unfold spc;omega
theorem isB_true {c:UInt8} {l:List UInt8} (h:isB c l=true):∃ r,l=c::r:=by
 unfold isB at h
 rw [beq_iff_eq] at h
 cases l with
 | nil=>cases h
 | cons d r=>exact ⟨r,by rw [Option.some.inj h]⟩
theorem isB_false {c d:UInt8} {r:List UInt8} (h:isB c (d::r)=false):d≠c:=by
 unfold isB at h
 rw [beq_eq_false_iff_ne] at h
 rintro rfl;exact h rfl
theorem sp_at (s:List UInt8) (p:Nat):s.drop (p+spc (s.drop p))=spL (s.drop p):=by rw [← List.drop_drop,spc_drop]
theorem upC62 (c:UInt8):upC [62] c=vlC c:=by unfold upC vlC;simp;rfl
theorem upC_vl:upC [62]=vlC:=funext upC62
theorem dw_drop {α:Type} (p:α→Bool) (l:List α):l.dropWhile p=l.drop (l.takeWhile p).length:=by
 conv=>rhs;arg 2;rw [← List.takeWhile_append_dropWhile (p:=p) (l:=l)]
 rw [List.drop_left]
section
variable {s : List UInt8} {pos : Nat} (hp : pos ≤ s.length)
include hp
theorem val_none (h:isB 61 (s.drop (pos+spc (s.drop pos)))=false):ValOk s pos [] true (pos+spc (s.drop pos)):=by
 refine ⟨spc_le s pos hp,zu4,zu19,.inl ⟨rfl,?_⟩⟩
 rw [sp_at] at h ⊢
 unfold valA
 split
 ·rename_i r2 he;rw [he] at h;cases h
 ·rfl
variable (h61 : isB 61 (s.drop (pos + spc (s.drop pos))) = true)
include h61
theorem val_eq:∃ p2,p2=pos+spc (s.drop pos)+1∧p2≤s.length∧valA (s.drop pos)=(match spL (s.drop p2) with
  | []=>some ([],[])
  | c::r3=>if c=34∨c=39 then (if c∈r3 then some (upto c r3,past c r3) else none) else if c=62 then some ([],c::r3) else some (c::r3.takeWhile vlC,r3.dropWhile vlC)):=by
 have _hp:=hp
 obtain ⟨r2,he⟩:=isB_true h61
 have hl:=congrArg List.length he
 rw [List.length_drop,List.length_cons] at hl
 refine ⟨_,rfl,zu4,?_⟩
 rw [← List.drop_drop,he]
 rw [sp_at] at he
 unfold valA
 rw [he];rfl
theorem val_quo {q:UInt8} (hq:q=34∨q=39) (p3:Nat) (h3:p3=pos+spc (s.drop pos)+1+spc (s.drop (pos+spc (s.drop pos)+1))) (hb:isB q (s.drop p3)=true) :
  p3<s.length∧s[p3]? = some q∧ValOk s pos (quoP s p3 q).1 (quoP s p3 q).2.1 (quoP s p3 q).2.2:=by
 obtain ⟨p2,e2,l2,hv⟩:=val_eq hp h61
 rw [← e2] at h3
 obtain ⟨r,he⟩:=isB_true hb
 have hl:=congrArg List.length he
 rw [List.length_drop,List.length_cons] at hl
 have hr:s.drop (p3+1)=r:=by rw [← List.drop_drop,he];rfl
 refine ⟨zu4,?_,?_⟩
 ·have:=congrArg List.head? he
  rw [List.head?_drop] at this
  exact this
 ·rw [h3,sp_at] at he
  rw [he] at hv
  simp only at hv
  rw [if_pos hq] at hv
  unfold quoP
  rw [hr]
  by_cases hm:q∈r
  ·rw [if_pos hm] at hv ⊢
   have hu:=tw_len (isNe q) r
   have ht:=take_up q r hm
   have htl:=congrArg List.length ht
   rw [List.length_append,List.length_cons] at htl
   refine ⟨by simp only;omega,by simp only;omega,by simp only;omega,.inl ⟨rfl,?_⟩⟩
   rw [hv]
   congr 2
   unfold past
   rw [← hr,List.drop_drop];congr 1
  ·rw [if_neg hm] at hv ⊢
   exact ⟨by simp only;omega,by simp only;omega,zu19,.inr ⟨rfl,hv⟩⟩
theorem val_end (p3:Nat) (h3:p3=pos+spc (s.drop pos)+1+spc (s.drop (pos+spc (s.drop pos)+1))) (hb:isB 62 (s.drop p3)=true∨p3=s.length):ValOk s pos [] true p3:=by
 obtain ⟨p2,e2,l2,hv⟩:=val_eq hp h61
 rw [← e2] at h3
 have hle:=spc_le s p2 l2
 rw [← h3] at hle
 refine ⟨hle,zu4,zu19,.inl ⟨rfl,?_⟩⟩
 rw [hv,← sp_at,← h3]
 rcases hb with hb|hb
 ·obtain ⟨r,he⟩:=isB_true hb
  rw [he];simp
 ·rw [hb,List.drop_length]
theorem val_word (p3:Nat) (h3:p3=pos+spc (s.drop pos)+1+spc (s.drop (pos+spc (s.drop pos)+1))) (hlt:p3<s.length) (n34:isB 34 (s.drop p3)=false) (n39:isB 39 (s.drop p3)=false) (n62:isB 62 (s.drop p3)=false) :
  ValOk s pos (s[p3]::(s.drop (p3+1)).takeWhile (upC [62])) true (p3+1+((s.drop (p3+1)).takeWhile (upC [62])).length):=by
 obtain ⟨p2,e2,l2,hv⟩:=val_eq hp h61
 rw [← e2] at h3
 have hd:=List.drop_eq_getElem_cons hlt
 have hl:=tw_len (upC [62]) (s.drop (p3+1))
 rw [List.length_drop] at hl
 refine ⟨zu4,zu4,by simp only [List.length_cons];omega,.inl ⟨rfl,?_⟩⟩
 rw [hd] at n34 n39 n62
 rw [hv,← sp_at,← h3,hd]
 simp only
 rw [if_neg (by rintro (e|e);exact isB_false n34 e;exact isB_false n39 e),if_neg (isB_false n62),upC_vl,dw_drop,List.drop_drop]
end
theorem value_c (w0 w:World) (g:Nat) (s:List UInt8) (pos:Nat) (hs:s.length≤1000000) (hp:pos≤s.length) (hI:Rdr w0 w g s pos) (hB:Below w0.heap.size w0 w) :
  Calls Tryz.prog 145 #[.pointer (some ⟨g,0,none⟩)] w fun e w' =>
   (∃ v b p,ValOk s pos v b p∧e = .returned (.tuple #[.string (B v),.bool b])∧Rdr w0 w' g s p)∧Below w0.heap.size w0 w'∧KeepBut w w' g none:=by
 have HS:=Lib.hid (RdSt.mk hI hB (KeepBut.refl w g none))
 have SP:=Lib.hid (fun W p (hp:p≤s.length) hI hB=>spaces_c w0 W g s p hs hp hI hB)
 have IS:=Lib.hid (fun c W p hI hB=>is_c c w0 W g s p hI hB)
 have QU:=Lib.hid (fun W p q (hp:p<s.length) hq hI hB=>quoted_c w0 W g s p q hs hp hq hI hB)
 have UP:=Lib.hid (fun W p (hp:p<s.length) hI hB=>upTo_c [62] w0 W g s p hs hp hI hB)
 have HP:=Lib.hid hp
 have hle1:=Lib.hid (spc_le s pos hp)
 have hlenB:Hid ((B s).size=s.length):=Lib.hid (size_B s)
 have hsz:s.length≤1000000:=hs
 clear hI hB hs hp
 go_enter Tryz.func145,Tryz.ntmps145
 go_wp2_with fail
 refine (SP.out _ pos HP.out HS.out.rd HS.out.below).mono ?_
 rintro e w1 ⟨rfl,h2⟩
 replace HS:=Lib.hid (HS.out.next h2)
 clear h2
 obtain ⟨b61,e61⟩:∃ b,isB 61 (s.drop (pos+spc (s.drop pos)))=b:=⟨_,rfl⟩
 have I1:=IS.out 61 _ _ HS.out.rd HS.out.below
 rw [e61] at I1
 have HI1:=Lib.hid I1
 have E61:=Lib.hid e61
 clear I1 e61
 go_wp2_with fail
 refine HI1.out.mono ?_
 rintro e w2 ⟨rfl,h2⟩
 replace HS:=Lib.hid (HS.out.next h2)
 clear h2 HI1
 cases b61 with
 | false =>
   have hv:=Lib.hid (val_none HP.out E61.out)
   go_wp2_with fail
   go_ret2
   exact ⟨⟨_,_,_,hv.out,rfl,HS.out.rd⟩,HS.out.below,HS.out.keep⟩
 | true =>
   obtain ⟨p2,e2,l2,_⟩:=val_eq HP.out E61.out
   have hc0:=cellS170_0 HS.out.rd.1
   have hc1:=cellS170_1 HS.out.rd.1
   have hf1:=blk_frozen HS.out.rd.1 1
   have hpb:pos+spc (s.drop pos)≤1000000:=by omega
   obtain ⟨p1,hp1⟩:∃ p1,pos+spc (s.drop pos)=p1:=⟨_,rfl⟩
   have HP1:=Lib.hid hp1
   rw [hp1] at hc1 hpb
   rw [hp1] at e2
   subst e2
   have HL2:=Lib.hid l2
   have HST:Hid (RdSt w0 w (w2.setCell ⟨g,1,none⟩ (.int .i64 ((p1:Int)+1))) g s (p1+1)):=Lib.hid (by
    have h:=HS.out
    rw [hp1] at h
    refine ⟨?_,h.below.setCell h.rd.2 _,h.keep.set_ 1 _⟩
    have:=h.rd.set_1 ((p1:Int)+1)
    exact this)
   clear hp1 l2
   go_wp2_with fail
   refine (SP.out _ (p1+1) HL2.out HST.out.rd HST.out.below).mono ?_
   rintro e w3 ⟨rfl,h2⟩
   replace HS:=Lib.hid (HST.out.next h2)
   clear h2 hc0 hc1 hf1 HST
   have hle3:=Lib.hid (spc_le s (p1+1) HL2.out)
   obtain ⟨p3,hp3⟩:∃ p3,p1+1+spc (s.drop (p1+1))=p3:=⟨_,rfl⟩
   rw [hp3] at HS hle3
   have HP3:Hid (p3=pos+spc (s.drop pos)+1+spc (s.drop (pos+spc (s.drop pos)+1))):=Lib.hid (by rw [HP1.out];exact hp3.symm)
   clear hp3
   obtain ⟨b34,e34⟩:∃ b,isB 34 (s.drop p3)=b:=⟨_,rfl⟩
   have I1:=IS.out 34 _ _ HS.out.rd HS.out.below
   rw [e34] at I1
   have HI1:=Lib.hid I1
   have E34:=Lib.hid e34
   clear I1 e34
   go_wp2_with fail
   refine HI1.out.mono ?_
   rintro e w4 ⟨rfl,h2⟩
   replace HS:=Lib.hid (HS.out.next h2)
   clear h2 HI1
   cases b34 with
   | true =>
     obtain ⟨q1,q2,q3⟩:=val_quo HP.out E61.out (.inl rfl) p3 HP3.out E34.out
     have Q:=Lib.hid (QU.out _ p3 34 q1 zu64 HS.out.rd HS.out.below)
     have HV:=Lib.hid q3
     clear q1 q2 q3
     go_wp2_with fail
     refine Q.out.mono ?_
     rintro e w5 ⟨rfl,h2⟩
     replace HS:=Lib.hid (HS.out.next h2)
     clear h2
     go_wp2_with fail
     go_ret2
     exact zu53
   | false =>
     obtain ⟨b39,e39⟩:∃ b,isB 39 (s.drop p3)=b:=⟨_,rfl⟩
     have I1:=IS.out 39 _ _ HS.out.rd HS.out.below
     rw [e39] at I1
     have HI1:=Lib.hid I1
     have E39:=Lib.hid e39
     clear I1 e39
     go_wp2_with fail
     refine HI1.out.mono ?_
     rintro e w5 ⟨rfl,h2⟩
     replace HS:=Lib.hid (HS.out.next h2)
     clear h2 HI1
     cases b39 with
     | true =>
       obtain ⟨q1,q2,q3⟩:=val_quo HP.out E61.out (.inr rfl) p3 HP3.out E39.out
       have Q:=Lib.hid (QU.out _ p3 39 q1 zu64 HS.out.rd HS.out.below)
       have HV:=Lib.hid q3
       clear q1 q2 q3
       go_wp2_with fail
       refine Q.out.mono ?_
       rintro e w6 ⟨rfl,h2⟩
       replace HS:=Lib.hid (HS.out.next h2)
       clear h2
       go_wp2_with fail
       go_ret2
       exact zu53
     | false =>
       obtain ⟨b62,e62⟩:∃ b,isB 62 (s.drop p3)=b:=⟨_,rfl⟩
       have I1:=IS.out 62 _ _ HS.out.rd HS.out.below
       rw [e62] at I1
       have HI1:=Lib.hid I1
       have E62:=Lib.hid e62
       clear I1 e62
       go_wp2_with fail
       refine HI1.out.mono ?_
       rintro e w6 ⟨rfl,h2⟩
       replace HS:=Lib.hid (HS.out.next h2)
       clear h2 HI1
       cases b62 with
       | true =>
         have HV:=Lib.hid (val_end HP.out E61.out p3 HP3.out (.inl E62.out))
         go_wp2_with fail
         go_ret2
         exact zu53
       | false =>
         have hc0:=cellS170_0 HS.out.rd.1
         have hc1:=cellS170_1 HS.out.rd.1
         obtain ⟨z,hz⟩:∃ z,(B s).size=z:=⟨_,rfl⟩
         have hzl:z=s.length:=by rw [← hz];exact hlenB.out
         obtain ⟨a,ha⟩:∃ a,B s=a:=⟨_,rfl⟩
         rw [ha] at hc0 hz
         have HZ:=Lib.hid hz
         have HZL:=Lib.hid hzl
         by_cases hend:p3=s.length
         ·have q1:((p3:Int) == (a.size:Int))=true:=by rw [beq_iff_eq];omega
          have q1n:(p3 == a.size)=true:=by rw [beq_iff_eq];omega
          have HV:=Lib.hid (val_end HP.out E61.out p3 HP3.out (.inr hend))
          clear hend hz hzl ha
          go_wp2_with fail
          go_quiet (fail)
          go_wp2_with fail
          go_ret2
          exact ⟨⟨_,_,_,HV.out,rfl,HS.out.rd⟩,pw_below_drewN HS.out.below _,keep_drewN HS.out.keep _⟩
         ·have q1:((p3:Int) == (a.size:Int))=false:=by rw [beq_eq_false_iff_ne];omega
          have q1n:(p3 == a.size)=false:=by rw [beq_eq_false_iff_ne];omega
          have hlt:p3<s.length:=by have:=hle3.out;omega
          have HV:=Lib.hid (val_word HP.out E61.out p3 HP3.out hlt E34.out E39.out E62.out)
          have U:=Lib.hid (fun n=>UP.out (w6.drewN n) p3 hlt HS.out.rd (pw_below_drewN HS.out.below n))
          have HK:=Lib.hid (fun n=>keep_drewN HS.out.keep n)
          clear hend hz hzl ha
          go_wp2_with fail
          go_quiet (fail)
          go_wp2_with fail
          refine (U.out _).mono ?_
          rintro e w7 ⟨rfl,h2,h3,h4⟩
          go_wp2_with fail
          go_ret2
          exact ⟨⟨_,_,_,HV.out,rfl,h2⟩,h3,(HK.out _).trans h4 (.inl rfl)⟩
end Hand
end

section
namespace Hand
open Go Go.RowKit K0 Pl Pb YtclkdmmgibgamaaGreatDoorW.PrintWords YtclkdmmgibgamaaGreatDoorW.PrintLast YtclkdmmgibgamaaGreatDoorW.PrintMore
abbrev AtS:=S105
abbrev atK:=k105
theorem same_c (x y nm:ByteArray) (ga:Nat) (w:World) (hc:w.cell? ⟨ga,0,none⟩=some (.string nm)) :
  Calls Tryz.prog 147 #[.agg #[.string x,.string y],.pointer (some ⟨ga,0,none⟩)] w fun e w'=>e = .returned (.bool (x.toList == nm.toList))∧Below w.heap.size w w':=by
 have hc2:(w.alloc (.cells #[.string x,.string y] 105)).cell? ⟨ga,0,none⟩=some (.string nm):=by
  rw [World.cell?_alloc_past _ _ _ (World.block_lt_of_cell? w _ hc)];exact hc
 have hc3:(w.alloc (.cells #[.string x,.string y] 105)).cell? ⟨w.heap.size,0,none⟩=some (.string x):=(World.cell?_alloc_at _ _ _ 0 rfl).trans rfl
 clear hc
 go_enter Tryz.func147,Tryz.ntmps147
 go_wp2_with fail
 go_ret
 exact ⟨rfl,(Below.refl _ w).alloc (Nat.le_refl _) _⟩
def hasN (nm:ByteArray) (l:List AtS):Bool:=l.any fun a=>a.f0.toList == nm.toList
theorem indexF_c (A:Option Addr) (c:Nat) (l:List AtS) (nm:ByteArray) (ga:Nat) (w:World) (hr:Kd.C atK w A l.length l) (hl:l.length≤c) (hm:l.length≤1000000) (hc:w.cell? ⟨ga,0,none⟩=some (.string nm)) :
  Calls Tryz.prog 177 #[.slice A l.length c,.func (.func 147) #[] #[.pointer (some ⟨ga,0,none⟩)]] w fun e w' =>
   (∃ r:Int,e = .returned (.int .i64 r)∧decide (0≤r)=hasN nm l)∧Below w.heap.size w w':=by
 have HR:=Lib.hid hr
 have HC:=Lib.hid hc
 have CL:=Lib.hid (fun x y W (h:W.cell? ⟨ga,0,none⟩=some (.string nm))=>same_c x y nm ga W h)
 obtain ⟨n,hn⟩:∃ n,l.length=n:=⟨_,rfl⟩
 rw [hn] at hl hm HR ⊢
 have HN:=Lib.hid hn
 clear hr hc hn
 go_enter Tryz.func177,Tryz.ntmps177
 go_wp2_with fail
 go_loopw [8] (fun v wx => ∃ i:Nat,v = .int .i64 (i:Int)∧i≤n∧Hid (Below w.heap.size w wx)∧Hid (hasN nm (l.take i)=false)) (fun v _=>n - (intOf v).toNat)
 case atStart=>exact ⟨0,rfl,Nat.zero_le _,Lib.hid (Below.refl _ _),Lib.hid rfl⟩
 case round =>
  obtain ⟨i,rfl,hi,HW,HD⟩:=hrel
  by_cases hlt:i<n
  ·have q1:decide ((i:Int)<(n:Int))=true:=decide_eq_true zu4
   have i0:(0:Int)≤(i:Int):=by omega
   have i1:(i:Int)<(n:Int):=by omega
   have hll:i<l.length:=by rw [HN.out];exact hlt
   obtain ⟨ad,rfl,hx0,hx1⟩:=at_T105 (Kd.C_below HR.out HW.out) (i:Int) i0 i1
   have hrd:rd_T105 l (i:Int)=l[i]:=by unfold rd_T105;rw [Int.toNat_natCast,List.getD_eq_getElem?_getD,List.getElem?_eq_getElem hll];rfl
   rw [hrd,Int.toNat_natCast] at hx0 hx1
   obtain ⟨x,hx⟩:∃ x,l[i].f0=x:=⟨_,rfl⟩
   obtain ⟨y,hy⟩:∃ y,l[i].f1=y:=⟨_,rfl⟩
   rw [hx] at hx0
   rw [hy] at hx1
   have C1:=Lib.hid (CL.out x y _ ((HW.out.cell (World.block_lt_of_cell? w _ HC.out)).trans HC.out))
   have htk:l.take (i+1)=l.take i++[l[i]]:=List.take_succ_eq_append_getElem hll
   have hsplit:hasN nm (l.take (i+1))=(x.toList == nm.toList):=by
    unfold hasN
    rw [htk,List.any_append]
    have:=HD.out
    unfold hasN at this
    rw [this];simp [hx]
   have hall:(x.toList == nm.toList)=true→hasN nm l=true:=fun h=>by
    unfold hasN
    rw [List.any_eq_true]
    exact ⟨l[i],List.getElem_mem hll,by rw [hx];exact h⟩
   obtain ⟨b,hb⟩:∃ b,(x.toList == nm.toList)=b:=⟨_,rfl⟩
   rw [hb] at C1 hsplit hall
   have HSP:=Lib.hid hsplit
   have HALL:=Lib.hid hall
   clear hrd hx hy htk hsplit hall hb
   cases b with
   | true =>
     have HX:=Lib.hid (HALL.out rfl)
     go_wp2_with fail
     refine C1.out.mono ?_
     rintro e w1 ⟨rfl,hb⟩
     have HW2:=Lib.hid (HW.out.trans (hb.mono HW.out.size))
     clear hb
     go_wp2_with fail
     go_ret
     exact ⟨⟨(i:Int),rfl,by rw [HX.out,decide_eq_true zu4]⟩,HW2.out⟩
   | false =>
     go_wp2_with fail
     refine C1.out.mono ?_
     rintro e w1 ⟨rfl,hb⟩
     have HW2:=Lib.hid (HW.out.trans (hb.mono HW.out.size))
     clear hb
     go_wp2_with fail
     go_roundw
     case rel=>exact ⟨i+1,by go_num,zu4,HW2,HSP⟩
     case measure=>simp [intOf];omega
  ·obtain rfl:i=n:=by omega
   have HX:Hid (hasN nm l=false):=Lib.hid (by have:=HD.out;rwa [← HN.out,List.take_length] at this)
   go_wp2_with fail
   go_ret
   exact ⟨⟨-1,rfl,by rw [HX.out];rfl⟩,HW.out⟩
theorem contains_c (A:Option Addr) (c:Nat) (l:List AtS) (nm:ByteArray) (ga:Nat) (w:World) (hr:Kd.C atK w A l.length l) (hl:l.length≤c) (hm:l.length≤1000000) (hc:w.cell? ⟨ga,0,none⟩=some (.string nm)) :
  Calls Tryz.prog 146 #[.slice A l.length c,.func (.func 147) #[] #[.pointer (some ⟨ga,0,none⟩)]] w fun e w' =>
   e = .returned (.bool (hasN nm l))∧Below w.heap.size w w':=by
 have I:=Lib.hid (indexF_c A c l nm ga w hr hl hm hc)
 obtain ⟨n,hn⟩:∃ n,l.length=n:=⟨_,rfl⟩
 obtain ⟨R,hR⟩:∃ R,hasN nm l=R:=⟨_,rfl⟩
 rw [hn,hR] at I
 rw [hn,hR]
 clear hr hl hm hc hn hR
 go_enter Tryz.func146,Tryz.ntmps146
 go_wp2_with fail
 refine I.out.mono ?_
 rintro e w1 ⟨⟨r,rfl,hr⟩,hb⟩
 go_wp2_with fail
 go_ret
 exact ⟨by rw [← hr];rfl,hb⟩
end Hand
end

section
namespace Hand
open Go Go.RowKit Pl Pb
theorem no38 {l:List UInt8} {o:Nat} (h:∀ k,k<o→l[k]? ≠ some 38):(38:UInt8)∉l.take o:=by
 intro hm
 obtain ⟨k,hk,e⟩:=List.getElem_of_mem hm
 rw [List.length_take] at hk
 rw [List.getElem_take] at e
 exact h k zu4 (by rw [List.getElem?_eq_getElem zu4,e])
theorem rdL_step {s:List UInt8} {i o:Nat} (attr:Bool) (h1:(s.drop i)[o]? = some 38) (h2:∀ k,k<o→(s.drop i)[k]? ≠ some 38) :
  rdL attr (s.drop i)=(s.drop i).take o++((refN attr (s.drop (i+o))).1++rdL attr (s.drop (i+o+(refN attr (s.drop (i+o))).2)))∧begR (s.drop (i+o)) [38]=true ∧
   1≤(refN attr (s.drop (i+o))).2∧i+o+(refN attr (s.drop (i+o))).2≤s.length∧(refN attr (s.drop (i+o))).1.length≤8*(refN attr (s.drop (i+o))).2:=by
 rw [List.getElem?_drop] at h1
 obtain ⟨hl,he⟩:=List.getElem?_eq_some_iff.1 h1
 have hd:s.drop (i+o)=38::s.drop (i+o+1):=by rw [List.drop_eq_getElem_cons hl,he]
 have hs:s.drop i=(s.drop i).take o++38::s.drop (i+o+1):=by rw [← hd,← List.drop_drop,List.take_append_drop]
 have hb:=refN_bd attr 38 (s.drop (i+o+1))
 refine ⟨?_,?_,?_⟩
 ·conv=>lhs;rw [hs]
  rw [rdL_app attr _ (no38 h2),rdL_amp,← hd,List.drop_drop]
 ·rw [hd];simp [begR,show lowB 38=38 by decide]
 ·rw [← hd,List.length_drop] at hb
  exact ⟨hb.1,zu4,hb.2.2⟩
theorem isB_below' {T e:TypeId} {B0 b:Nat} {bs:List Value} {W W':World} (h:Lib.IsBuilder T e B0 b bs W) (hb:Below W.heap.size W W'):Lib.IsBuilder T e B0 b bs W':=by
 have at_:∀ {p:Value},Lib.BuilderAt T e B0 b p bs W→Lib.BuilderAt T e B0 b p bs W':=fun h=>by
  have lt:∀ {k:Nat} {o:Obj},W.heap[k]? = some o→k<W.heap.size:=fun h=>(Array.getElem?_eq_some_iff.1 h).1
  obtain ⟨hB,v,hv,hown,hne⟩:=h
  refine ⟨hB,v,(hb.block b (lt hv)).trans hv,⟨hown.1,?_⟩,hne⟩
  rcases hown.2 with h|⟨g,cap,cur,h1,h2,h3,h4⟩
  ·exact .inl h
  ·exact .inr ⟨g,cap,cur,h1,h2,(hb.block g (lt h3)).trans h3,h4⟩
 exact h.elim (fun x => .inl (at_ x)) (fun x => .inr (at_ x))
def DecJ (a:ByteArray) (s:List UInt8) (attr:Bool) (w:World) (R:List UInt8) (a':Act) (wr:World):Prop :=
 ∃ (pos:Nat) (acc:List UInt8) (u2 u3 u7 u8 u9 u10 u11 u12 u13 u14 u15 u16 u17 u18 u19 u20 u21 u22 u23 u24 u25 u26 u27 u28 u29 u30 u31 u32 u33 u34 u35 u36 u37:Value),
   a'={ tmps := #[.string a,.bool attr,u2,u3,.string ⟨#[]⟩,.pointer (some ⟨w.heap.size,0,none⟩),.int .i64 pos,u7,u8,u9,u10,u11,u12,u13,u14,u15,u16,u17,u18,u19,u20,u21,u22,u23,u24,u25,u26,u27,u28,u29,u30,u31,u32,u33,u34,u35,u36,u37],defers:=[] } ∧
   Hid (Lib.IsBuilder 59 5 w.heap.size w.heap.size (Lib.byteCells acc) wr)∧Hid (Below w.heap.size w wr)∧pos≤a.size∧acc.length≤8*pos∧Hid (acc++rdL attr (s.drop pos)=R)
theorem rdecode_c (s:List UInt8) (attr:Bool) (hs:s.length≤100000) (w:World) (hGl:Glob w) (hGE:GlobE w) :
  Calls Tryz.prog 113 #[.string (B s),.bool attr] w fun e w'=>e = .returned (.string (B (rdL attr s)))∧Below w.heap.size w w':=by
 have HG:=Lib.hid hGl
 have HE:=Lib.hid hGE
 have RD:=Lib.hid (fun n (hn:n≤s.length) (h:begR (s.drop n) [38]=true) W hG hE=>readN_c s n attr hs hn h W hG hE)
 have ST:=Lib.hid (fun (i o:Nat) (h1:(s.drop i)[o]? = some 38) (h2:∀ k,k<o→(s.drop i)[k]? ≠ some 38)=>rdL_step attr h1 h2)
 obtain ⟨R,hR⟩:∃ R,rdL attr s=R:=⟨_,rfl⟩
 have HR:Hid (rdL attr (s.drop 0)=R):=Lib.hid hR
 rw [hR]
 obtain ⟨a,ha⟩:∃ a,B s=a:=⟨_,rfl⟩
 have hsz:a.size=s.length:=by rw [← ha];simp
 have hx:∀ i,(a.extract i a.size).data.toList=s.drop i:=fun i=>by rw [← ha,size_B,B_extract,List.take_length,B_data]
 have hy:∀ i o,(a.extract i (i+o)).data.toList=(s.drop i).take o:=fun i o=>by rw [← ha,B_extract,B_data,List.drop_take,Nat.add_sub_cancel_left]
 rw [ha] at RD ⊢
 have HX:=Lib.hid hx
 have HY:=Lib.hid hy
 have HSZ:=Lib.hid hsz
 have hza:a.size≤100000:=by omega
 clear hs hGl hGE ha hsz hx hy hR
 go_enter Tryz.func113,Tryz.ntmps113
 go_wp2_with fail
 refine wp_scope_at 0 (DecJ a s attr w R) (fun a' _=>a.size - (intOf (a'.tmps.getD 6 undef)).toNat) rfl ?_ ?_
 ·intro hB
  have HB:=Lib.hid hB
  clear hB
  go_wp2_with fail
  refine wp_label_k zu57 (HB.out _ _ ?_)
  exact ⟨0,[],_,_,_,_,_,_,_,_,_,_,_,_,_,_,_,_,_,_,_,_,_,_,_,_,_,_,_,_,_,_,_,_,_,rfl,Lib.hid (Lib.fresh_isBuilder 59 5 w),Lib.hid ((Below.refl _ w).alloc (Nat.le_refl _) _),zu4,zu19,HR⟩
 ·rintro a' wr ⟨pos,acc,u2,u3,u7,u8,u9,u10,u11,u12,u13,u14,u15,u16,u17,u18,u19,u20,u21,u22,u23,u24,u25,u26,u27,u28,u29,u30,u31,u32,u33,u34,u35,u36,u37,rfl,HI,HW,hp,hl,HA⟩
  have I:=fun W=>Tryz.strings_IndexByte (a.extract pos a.size) 38 W
  rw [HX.out pos] at I
  rcases Int.lt_or_le (Lib.indexByte (s.drop pos) 38) 0 with h|h
  ·have h1:Lib.indexByte (s.drop pos) 38 = -1:=by have:=Lib.indexByte_ge (s.drop pos) 38;omega
   have I2:Hid (∀ W,Calls Tryz.prog 87 #[.string (a.extract pos a.size),.int .u8 38] W fun e w'=>e = .returned (.int .i64 (-1))∧w'=W):=Lib.hid (fun W=>by rw [← h1];exact I W)
   have hno:(38:UInt8)∉s.drop pos:=by
    intro hm
    obtain ⟨k,hk,e⟩:=List.getElem_of_mem hm
    exact zu67
   have HN:Hid (acc++(a.extract pos a.size).data.toList=R):=Lib.hid (by rw [HX.out,← HA.out,rdL_no attr hno])
   have zx:(a.extract pos a.size).size=a.size - pos:=by rw [ByteArray.size_extract];omega
   have WS:=Lib.hid (fun W (hI:Lib.IsBuilder 59 5 w.heap.size w.heap.size (Lib.byteCells acc) W) hb=>Tryz.Builder_WriteString w.heap.size w.heap.size (Lib.byteCells acc) (a.extract pos a.size) W hI (by rw [Lib.byteCells_length,zx];omega) hb)
   clear I h h1 hno zx HA
   go_wp2_with fail
   refine (I2.out _).mono ?_
   rintro e w1 ⟨rfl,rfl⟩
   go_wp2_with fail
   refine (WS.out _ HI.out HW.out.size).mono ?_
   rintro e w2 ⟨rfl,h1,b2⟩
   have HW2:=Lib.hid (HW.out.trans b2)
   have HI2:Hid (Lib.IsBuilder 59 5 w.heap.size w.heap.size (Lib.byteCells (acc++(a.extract pos a.size).data.toList)) w2):=Lib.hid (Or.inr (by rw [show Lib.byteCells (acc++(a.extract pos a.size).data.toList)=Lib.byteCells acc++Lib.strCells (a.extract pos a.size) by simp [Lib.byteCells,Lib.strCells]];exact h1))
   rw [HN.out] at HI2
   have WT:=Lib.hid (Tryz.Builder_String_any w.heap.size w.heap.size R w2 HI2.out HW2.out.size)
   clear h1 b2 WS I2
   go_wp2_with fail
   refine WT.out.mono ?_
   rintro e w3 ⟨rfl,b3⟩
   have HW3:=Lib.hid (HW2.out.trans b3)
   clear b3
   go_wp2_with fail
   simp only [Exit.jump]
   go_ret
   exact ⟨rfl,HW3.out⟩
  ·obtain ⟨o,ho⟩:∃ o:Nat,Lib.indexByte (s.drop pos) 38=o:=⟨_,(Int.toNat_of_nonneg h).symm⟩
   have I2:Hid (∀ W,Calls Tryz.prog 87 #[.string (a.extract pos a.size),.int .u8 38] W fun e w'=>e = .returned (.int .i64 (o:Int))∧w'=W):=Lib.hid (fun W=>by rw [← ho];exact I W)
   obtain ⟨h1,h2⟩:=Lib.indexByte_some ho
   obtain ⟨s1,s2,s3,s4,s5⟩:=ST.out pos o h1 h2
   have RI:=fun W hG hE=>RD.out (pos+o) zu4 s2 W hG hE
   rw [s1] at HA
   obtain ⟨t,ht⟩:∃ t,(refN attr (s.drop (pos+o))).1=t:=⟨_,rfl⟩
   obtain ⟨k,hk⟩:∃ t,(refN attr (s.drop (pos+o))).2=t:=⟨_,rfl⟩
   rw [ht,hk] at HA RI
   rw [hk] at s3 s4
   rw [ht,hk] at s5
   rw [← HSZ.out] at s4
   have HRI:=Lib.hid RI
   have zx:(a.extract pos (pos+o)).size=o:=by rw [ByteArray.size_extract];omega
   have zt:(B t).size=t.length:=size_B t
   have HN:Hid ((acc++(a.extract pos (pos+o)).data.toList)++(B t).data.toList++rdL attr (s.drop (pos+o+k))=R):=Lib.hid (by rw [HY.out,B_data,← HA.out];simp only [List.append_assoc])
   have WS:=Lib.hid (fun W (hI:Lib.IsBuilder 59 5 w.heap.size w.heap.size (Lib.byteCells acc) W) hb=>Tryz.Builder_WriteString w.heap.size w.heap.size (Lib.byteCells acc) (a.extract pos (pos+o)) W hI (by rw [Lib.byteCells_length,zx];omega) hb)
   have ze:(acc++(a.extract pos (pos+o)).data.toList).length=acc.length+o:=by rw [List.length_append,Array.length_toList];exact congrArg _ zx
   have WS2:=Lib.hid (fun W (hI:Lib.IsBuilder 59 5 w.heap.size w.heap.size (Lib.byteCells (acc++(a.extract pos (pos+o)).data.toList)) W) hb=>Tryz.Builder_WriteString w.heap.size w.heap.size (Lib.byteCells (acc++(a.extract pos (pos+o)).data.toList)) (B t) W hI (by rw [Lib.byteCells_length,ze,zt];omega) hb)
   have zf:((acc++(a.extract pos (pos+o)).data.toList)++(B t).data.toList).length≤8*(pos+o+k):=by rw [List.length_append,ze,B_data];omega
   obtain ⟨tb,htb⟩:∃ tb,B t=tb:=⟨_,rfl⟩
   rw [htb] at HRI HN WS2 zf
   have HZF:=Lib.hid zf
   have hpo:pos+o≤a.size:=by omega
   clear I h ho h1 h2 s1 s2 RI ht hk zx zt ze zf htb s5 HA
   go_wp2_with fail
   refine (I2.out _).mono ?_
   rintro e w1 ⟨rfl,rfl⟩
   clear I2
   go_wp2_with fail
   refine (WS.out _ HI.out HW.out.size).mono ?_
   rintro e w2 ⟨rfl,h1,b2⟩
   have HW2:=Lib.hid (HW.out.trans b2)
   have HI2:Hid (Lib.IsBuilder 59 5 w.heap.size w.heap.size (Lib.byteCells (acc++(a.extract pos (pos+o)).data.toList)) w2):=Lib.hid (Or.inr (by rw [show Lib.byteCells (acc++(a.extract pos (pos+o)).data.toList)=Lib.byteCells acc++Lib.strCells (a.extract pos (pos+o)) by simp [Lib.byteCells,Lib.strCells]];exact h1))
   clear h1 b2 WS HI HW
   go_wp2_with fail
   refine (HRI.out _ (HG.out.step HW2.out) (HE.out.step HW2.out)).mono ?_
   rintro e w3 ⟨rfl,b3⟩
   have HW3:=Lib.hid (HW2.out.trans (b3.mono HW2.out.size))
   have HI3:=Lib.hid (isB_below' HI2.out b3)
   clear b3 HRI HI2 HW2
   go_wp2_with fail
   refine (WS2.out _ HI3.out HW3.out.size).mono ?_
   rintro e w4 ⟨rfl,h1,b4⟩
   have HW4:=Lib.hid (HW3.out.trans b4)
   have HI4:Hid (Lib.IsBuilder 59 5 w.heap.size w.heap.size (Lib.byteCells ((acc++(a.extract pos (pos+o)).data.toList)++tb.data.toList)) w4):=Lib.hid (Or.inr (by rw [show Lib.byteCells ((acc++(a.extract pos (pos+o)).data.toList)++tb.data.toList)=Lib.byteCells (acc++(a.extract pos (pos+o)).data.toList)++Lib.strCells tb by simp [Lib.byteCells,Lib.strCells]];exact h1))
   clear h1 b4 WS2 HI3 HW3
   go_wp2_with fail
   go_step3
   refine ⟨rfl,⟨pos+o+k,_,_,_,_,_,_,_,_,_,_,_,_,_,_,_,_,_,_,_,_,_,_,_,_,_,_,_,_,_,_,_,_,_,_,rfl,HI4,HW4,s4,HZF.out,HN⟩,?_⟩
   simp [intOf];omega
end Hand
end

section
namespace Hand
open Go Go.RowKit K0 Pl Pb Sx YtclkdmmgibgamaaGreatDoorW.PrintWords YtclkdmmgibgamaaGreatDoorW.PrintLast YtclkdmmgibgamaaGreatDoorW.PrintMore
def ofT (x:AttrT):AtS:=⟨B x.1,B x.2⟩
theorem has_of (nm:List UInt8) (L:List AttrT):hasN (B nm) (L.map ofT)=L.any (fun a=>a.1 == nm):=by
 unfold hasN
 rw [List.any_map]
 congr 1
 funext a
 show ((B a.1).toList == (B nm).toList)=_
 rw [toList_B,toList_B]
def slotA (a:Act) (i:Nat):Value:=a.tmps.getD i undef
def AtF (a:ByteArray) (at_:Int) (g:Nat) (v:Value) (wh:Bool) (u:Nat→Value):Act :=
 { tmps := #[.string a,.int .i64 at_,u 2,u 3,v,.bool false,.int .i64 0,.bool false,.pointer (some ⟨g,0,none⟩),.pointer (some ⟨g+1,0,none⟩),.bool wh,u 11,u 12,u 13,u 14,u 15,u 16,u 17,u 18,u 19,u 20,u 21,u 22,u 23,u 24,u 25,u 26,u 27,u 28,u 29,u 30,u 31,u 32,u 33,u 34,u 35,u 36,u 37,u 38,u 39,u 40,u 41,u 42,u 43,u 44,u 45,u 46,u 47,u 48,u 49,u 50,u 51,u 52,u 53,u 54,u 55,u 56,u 57,u 58,u 59,u 60,u 61,u 62,u 63,u 64,u 65,u 66,u 67,u 68,u 69,u 70,u 71,u 72,u 73,u 74,u 75,u 76,u 77,u 78,u 79,u 80,u 81,u 82,u 83,u 84,u 85,u 86,u 87,u 88,u 89,u 90,u 91,u 92,u 93,u 94,u 95],defers:=[] }
def okA (g:Nat) (k:Nat):Prop:=k≠g∧k≠g+1
structure ASt (w W:World) (s:List UInt8) (pos:Nat) (x y:ByteArray) (v:Value) (l:List AtS):Prop where
 rd:Rdr w W w.heap.size s pos
 blk:W.heap[w.heap.size+1]? = some (.cells #[.string x,.string y] 105 (0,0))
 row:Kd.R atK 105 W w.heap.size (okA w.heap.size) v l
 below:Below w.heap.size w W
section
variable {w W W' : World} {s : List UInt8} {pos pos' : Nat} {x y : ByteArray} {v : Value} {l : List AtS} (h : ASt w W s pos x y v l)
include h
theorem ASt.lt:w.heap.size+1<W.heap.size:=blk_lt h.blk
theorem ASt.step (h2:Rdr w W' w.heap.size s pos'∧Below w.heap.size w W'∧KeepBut W W' w.heap.size none):ASt w W' s pos' x y v l :=
 ⟨h2.1,(h2.2.2.2 _ h.lt zu4 zu19).trans h.blk,Kd.R_keep h.row h2.2.2 (fun _ hk=>hk.1),h2.2.1⟩
theorem ASt.call (hb:Below W.heap.size W W'):ASt w W' s pos x y v l :=
 ⟨h.rd.below hb,(hb.block _ h.lt).trans h.blk,Kd.R_below h.row hb,h.below.trans (hb.mono h.below.size)⟩
theorem ASt.drewN (n:Nat):ASt w (W.drewN n) s pos x y v l:=h.call (below_drewN _ _)
theorem ASt.setx (z:ByteArray):ASt w (W.setCell ⟨w.heap.size+1,0,none⟩ (.string z)) s pos z y v l :=
 ⟨h.rd.far zu19 _,by simpa using blk_set h.blk 0 (.string z),Kd.R_far (p:=⟨w.heap.size+1,0,none⟩) h.row (fun _ hk=>hk.2) _,h.below.setCell zu19 _⟩
theorem ASt.sety (z:ByteArray):ASt w (W.setCell ⟨w.heap.size+1,1,none⟩ (.string z)) s pos x z v l :=
 ⟨h.rd.far zu19 _,by simpa using blk_set h.blk 1 (.string z),Kd.R_far (p:=⟨w.heap.size+1,1,none⟩) h.row (fun _ hk=>hk.2) _,h.below.setCell zu19 _⟩
theorem ASt.setp (z:Nat):ASt w (W.setCell ⟨w.heap.size,1,none⟩ (.int .i64 (z:Int))) s z x y v l :=
 ⟨h.rd.set_1 _,(blk_far h.blk zu19 _),Kd.R_far (p:=⟨w.heap.size,1,none⟩) h.row (fun _ hk=>hk.1) _,h.below.setCell (Nat.le_refl _) _⟩
theorem ASt.grown {v1:Value} {l1:List AtS} (hr:Kd.R atK 105 W' w.heap.size (okA w.heap.size) v1 l1) (hb:Below w.heap.size w W') (hg:W.grownBy W' v.ownBlock):ASt w W' s pos x y v1 l1 :=
 ⟨h.rd.grown hg (fun e=>(h.row.1 _ e.symm).1 rfl),(hg.block _ h.lt (fun e=>(h.row.1 _ e.symm).2 rfl)).trans h.blk,hr,hb⟩
theorem ASt.c0:W.cell? ⟨w.heap.size,0,none⟩=some (.string (B s)):=cellS170_0 h.rd.1
theorem ASt.c1:W.cell? ⟨w.heap.size,1,none⟩=some (.int .i64 (pos:Int)):=cellS170_1 h.rd.1
theorem ASt.f1:W.frozen? ⟨w.heap.size,1,none⟩=false:=blk_frozen h.rd.1 1
theorem ASt.d0:W.cell? ⟨w.heap.size+1,0,none⟩=some (.string x):=(blk_cell h.blk 0).trans rfl
theorem ASt.d1:W.cell? ⟨w.heap.size+1,1,none⟩=some (.string y):=(blk_cell h.blk 1).trans rfl
theorem ASt.g0:W.frozen? ⟨w.heap.size+1,0,none⟩=false:=blk_frozen h.blk 0
theorem ASt.g1:W.frozen? ⟨w.heap.size+1,1,none⟩=false:=blk_frozen h.blk 1
end
theorem infoA:(Tryz.prog.info? 105).map (fun i=>(i.zero,i.size,i.bytes))=some (some (.agg #[.string ⟨#[]⟩,.string ⟨#[]⟩]),2,32):=by kernel_rfl
noncomputable def atRes (s:List UInt8) (R:Option (List AttrT×Bool×List UInt8)):List AtS×Bool×Int×Bool :=
 match R with
 | none=>([],false,(s.length:Int),false)
 | some (L,self,r)=>(L.map ofT,self,((s.length - r.length:Nat):Int),true)
def AtJ (a:ByteArray) (at_:Int) (s:List UInt8) (w:World) (R:Option (List AttrT×Bool×List UInt8)) (n:Nat) (a':Act) (W:World):Prop :=
 ∃ (pos:Nat) (x y:ByteArray) (v:Value) (wh:Bool) (L:List AttrT),a'=AtF a at_ w.heap.size v wh (slotA a')∧Hid (ASt w W s pos x y v (L.map ofT))∧pos≤s.length∧s.length - pos<n∧L.length≤pos∧Hid (attrL L (s.drop pos)=R)
theorem nm_upC:upC [47,62,61]=nmC:=by
 funext c
 have:∀ n:Fin 256,upC [47,62,61] (UInt8.ofNat n.val)=nmC (UInt8.ofNat n.val):=by decide +kernel
 have h:=this ⟨c.toNat,c.toNat_lt⟩
 simpa using h
theorem attrL_end {L:List AttrT} {s:List UInt8} {pos:Nat} (h:pos+spc (s.drop pos)=s.length):attrL L (s.drop pos)=none:=by
 rw [attrL_eq,← sp_at,h,List.drop_length]
theorem attrL_at {L:List AttrT} {s:List UInt8} {pos p:Nat} (hp:pos+spc (s.drop pos)=p) (h:p<s.length):attrL L (s.drop pos) =
  (if s[p]=62 then some (L,false,s.drop (p+1))
  else if s[p]=47 then (match s.drop (p+1) with
   | []=>none
   | d::r'=>if d=62 then some (L,true,r') else attrL L (d::r'))
  else match valA ((s.drop (p+1)).dropWhile nmC) with
   | none=>none
   | some (v,r')=>attrL (addA L (s[p]::(s.drop (p+1)).takeWhile nmC) v) r'):=by
 conv=>lhs;rw [attrL_eq,← sp_at,hp,List.drop_eq_getElem_cons h]
 all_goals rfl
theorem isB_at {s:List UInt8} {p:Nat} (h:p<s.length) (c:UInt8):isB c (s.drop p)=(s[p] == c):=by
 unfold isB
 rw [List.head?_drop,List.getElem?_eq_getElem h,Bool.eq_iff_iff,beq_iff_eq,beq_iff_eq]
 exact ⟨Option.some.inj,congrArg some⟩
theorem beg_close {s:List UInt8} {p:Nat} (h:p<s.length):begR (s.drop p) [47,62]=(s[p] == 47&&s[p+1]? == some 62):=by
 have l47:∀ n:Fin 256,(lowB (UInt8.ofNat n.val) == 47)=(UInt8.ofNat n.val == 47):=by decide +kernel
 have l62:∀ n:Fin 256,(lowB (UInt8.ofNat n.val) == 62)=(UInt8.ofNat n.val == 62):=by decide +kernel
 have e1:=l47 ⟨s[p].toNat,s[p].toNat_lt⟩
 simp only [UInt8.ofNat_toNat] at e1
 rw [List.drop_eq_getElem_cons h,begR,e1]
 congr 1
 cases hd:s.drop (p+1) with
 | nil =>
   have:=List.drop_eq_nil_iff.1 hd
   rw [List.getElem?_eq_none zu4];rfl
 | cons d r =>
   have hg:s[p+1]? = some d:=by have:=congrArg List.head? hd;rwa [List.head?_drop] at this
   have e2:=l62 ⟨d.toNat,d.toNat_lt⟩
   simp only [UInt8.ofNat_toNat] at e2
   rw [hg,begR,e2]
   simp [begR]
theorem attrs_c (s:List UInt8) (at_:Nat) (hs:s.length≤100000) (hat:at_≤s.length) (w:World) (hGl:Glob w) :
  Calls Tryz.prog 106 #[.string (B s),.int .i64 (at_:Int)] w fun e w'=>(∃ v,e = .returned (.tuple #[v,.bool (atRes s (attrL [] (s.drop at_))).2.1,.int .i64 (atRes s (attrL [] (s.drop at_))).2.2.1,.bool (atRes s (attrL [] (s.drop at_))).2.2.2]) ∧
   Kd.R atK 105 w' w.heap.size (fun _=>True) v (atRes s (attrL [] (s.drop at_))).1)∧Below w.heap.size w w':=by
 have HG:=Lib.hid hGl
 have SP:=Lib.hid (fun W p (hp:p≤s.length) hI hB=>spaces_c w W w.heap.size s p zu4 hp hI hB)
 have IS:=Lib.hid (fun c W p hI hB=>is_c c w W w.heap.size s p hI hB)
 have UP:=Lib.hid (fun W p (hp:p<s.length) hI hB=>upTo_c [47,62,61] w W w.heap.size s p zu4 hp hI hB)
 have VA:=Lib.hid (fun W p (hp:p≤s.length) hI hB=>value_c w W w.heap.size s p zu4 hp hI hB)
 have BG:=Lib.hid (fun p (hp:p≤s.length) W=>nbegins_c s [47,62] p zu4 zu15 hp W)
 have LW:Hid (∀ l:List UInt8,l.length≤1000000→∀ W,Calls Tryz.prog 107 #[.string (B l)] W fun e w'=>e = .returned (.string (B (lowL l)))∧Below W.heap.size W w'):=Lib.hid (fun l hl W=>by
  have:=lower_any (B l) W zu36
  unfold lowBA at this
  rw [B_data] at this
  exact this)
 have CLN:Hid (∀ l:List UInt8,l.length≤10000000→∀ W,Glob W→Calls Tryz.prog 32 #[.string (B l)] W fun e w'=>e = .returned (.string (B (cleanL l)))∧Below W.heap.size W w'):=Lib.hid (fun l hl W hG=>by
  have:=clean_any (B l) W zu36 hG
  unfold cleanBA at this
  rw [B_data] at this
  exact this)
 have RD:=Lib.hid (fun (l:List UInt8) (hl:l.length≤100000) W hG=>rdecode_c l true hl W hG hG.toE)
 have CT:=Lib.hid (fun A c l nm W hr hl hm hc=>contains_c A c l nm (w.heap.size+1) W hr hl hm hc)
 have HSL:=Lib.hid hs
 obtain ⟨R,hR⟩:∃ R,attrL [] (s.drop at_)=R:=⟨_,rfl⟩
 have HR:=Lib.hid hR
 rw [hR]
 obtain ⟨a,ha⟩:∃ a,B s=a:=⟨_,rfl⟩
 have hsz:a.size=s.length:=by rw [← ha];simp
 have HA:=Lib.hid ha
 have HSZ:=Lib.hid hsz
 rw [ha] at BG
 have hz:a.size≤100000:=by omega
 have q1:decide ((at_:Int)<0)=false:=decide_eq_false zu4
 have q2:decide (a.size<at_)=false:=decide_eq_false zu4
 have HAT:=Lib.hid hat
 have hS0:Hid (ASt w ((w.alloc (.cells #[.string a,.int .i64 (at_:Int)] 170)).alloc (.cells #[.string ⟨#[]⟩,.string ⟨#[]⟩] 105)) s at_ ⟨#[]⟩ ⟨#[]⟩ (.slice none 0 0) []):=Lib.hid (by
  have h1:=IsS170.new w w a (at_:Int) (Below.refl _ _)
  have e:Rdr w (w.alloc (.cells #[.string a,.int .i64 (at_:Int)] 170)) w.heap.size s at_:=by show IsS170 _ _ _ (B s) _;rw [ha];exact h1
  refine ⟨e.alloc _,?_,Kd.R_nil _ _ _ _ _,below_alloc (below_alloc (Below.refl _ _) _) _⟩
  have:=heap_alloc_new (w.alloc (.cells #[.string a,.int .i64 (at_:Int)] 170)) (.cells #[.string ⟨#[]⟩,.string ⟨#[]⟩] 105)
  simpa using this)
 rw [ha]
 clear hGl hs hR ha hsz hat
 go_enter Tryz.func106,Tryz.ntmps106
 go_wp2_with fail
 refine wp_scope_back 0 (AtJ a (at_:Int) s w R) rfl ?_ ?_
 ·intro hB
  have HB:=Lib.hid hB
  clear hB
  go_wp2_with fail
  refine wp_label_k zu57 (HB.out (s.length - at_+1) _ _ ?_)
  exact ⟨at_,⟨#[]⟩,⟨#[]⟩,.slice none 0 0,false,[],rfl,hS0,HAT.out,Nat.lt_succ_self _,Nat.zero_le _,HR⟩
 ·rintro n a' W ⟨pos,x,y,v,wh,L,hu,HS,hp,hn,hL,HQ⟩
  obtain ⟨u,rfl⟩:∃ u,a'=AtF a (at_:Int) w.heap.size v wh u:=⟨_,hu⟩
  clear hu
  clear hS0
  unfold AtF
  go_wp2_with fail
  refine (SP.out _ pos hp HS.out.rd HS.out.below).mono ?_
  rintro e w1 ⟨rfl,h2⟩
  replace HS:=Lib.hid (HS.out.step h2)
  clear h2
  have hp1:=spc_le s pos hp
  obtain ⟨p,hpe⟩:∃ p,pos+spc (s.drop pos)=p:=⟨_,rfl⟩
  rw [hpe] at HS hp1
  have HPE:=Lib.hid hpe
  have hpp:pos≤p:=by omega
  have hpb:p≤100000:=by have:=HSL.out;omega
  have c0:=HS.out.c0
  have c1:=HS.out.c1
  rw [HA.out] at c0
  clear hpe
  by_cases hend:p=s.length
  ·have qe:((p:Int) == (a.size:Int))=true:=by rw [beq_iff_eq];have:=HSZ.out;omega
   have qe2:(p == a.size)=true:=by rw [beq_iff_eq];have:=HSZ.out;omega
   have hRn:R=none:=by rw [← HQ.out];exact attrL_end (by rw [HPE.out];exact hend)
   have HRn:=Lib.hid hRn
   clear hend hRn
   go_wp2_with fail
   simp only [Exit.jumps]
   refine bodyPost_ret (v:=.tuple #[.slice none 0 0,.bool false,.int .i64 (a.size:Int),.bool false]) (by simp [results,Tryz.results106,go_sem]) rfl ?_
   rw [HRn.out]
   exact ⟨⟨_,by rw [HSZ.out];rfl,Kd.R_nil _ _ _ _ _⟩,HS.out.below⟩
  have hlt:p<s.length:=by omega
  have qe:((p:Int) == (a.size:Int))=false:=by rw [beq_eq_false_iff_ne];have:=HSZ.out;omega
  have qe2:(p == a.size)=false:=by rw [beq_eq_false_iff_ne];have:=HSZ.out;omega
  have hQ:=attrL_at (L:=L) HPE.out hlt
  rw [HQ.out] at hQ
  obtain ⟨c,hc⟩:∃ c,s[p]=c:=⟨_,rfl⟩
  rw [hc] at hQ
  have I62:=IS.out 62 _ p HS.out.rd HS.out.below
  rw [isB_at hlt,hc] at I62
  have HI62:=Lib.hid I62
  have HQ2:=Lib.hid hQ
  have HC:=Lib.hid hc
  clear I62 hQ hc HQ hend
  by_cases h62:c=62
  ·have e62:(c == 62)=true:=by rw [h62];rfl
   have hRn:R=some (L,false,s.drop (p+1)):=by rw [HQ2.out,if_pos h62]
   have HRn:=Lib.hid hRn
   rw [e62] at HI62
   clear h62 e62 hRn
   go_wp2_with fail
   refine HI62.out.mono ?_
   rintro e w2 ⟨rfl,h2⟩
   replace HS:=Lib.hid (HS.out.step h2)
   clear h2 c0 c1
   have c1:=HS.out.c1
   go_wp2_with fail
   go_quiet (fail)
   go_wp2_with fail
   simp only [Exit.jumps]
   refine bodyPost_ret (v:=.tuple #[v,.bool false,.int .i64 ((p:Int)+1),.bool true]) (by simp [results,Tryz.results106,go_sem]) rfl ?_
   rw [HRn.out]
   have hS2:=HS.out.drewN (w2.drewN 0 |> fun _=>0)
   refine ⟨⟨v,?_,Kd.R_mono (HS.out.drewN _).row (fun _ _=>trivial)⟩,(HS.out.drewN _).below⟩
   have:s.length - (s.drop (p+1)).length=p+1:=by rw [List.length_drop];omega
   simp only [atRes,this];rfl
  have e62:(c == 62)=false:=by rw [beq_eq_false_iff_ne];exact h62
  rw [e62] at HI62
  have hQ3:=HQ2.out
  rw [if_neg h62] at hQ3
  have HQ3:=Lib.hid hQ3
  have B1:=fun W=>BG.out p hp1 W
  rw [beg_close hlt,HC.out] at B1
  obtain ⟨bc,hbc⟩:∃ b,(c == 47&&s[p+1]? == some 62)=b:=⟨_,rfl⟩
  rw [hbc] at B1
  have HB1:=Lib.hid B1
  have HBC:=Lib.hid hbc
  clear hQ3 B1 hbc e62 HQ2
  have h62':=Lib.hid h62
  clear h62
  go_wp2_with fail
  refine HI62.out.mono ?_
  rintro e w2 ⟨rfl,h2⟩
  replace HS:=Lib.hid (HS.out.step h2)
  clear h2 c0 c1 HI62
  have c1:=HS.out.c1
  go_wp2_with fail
  refine (HB1.out _).mono ?_
  rintro e w3 ⟨rfl,hb⟩
  replace HS:=Lib.hid (HS.out.call hb)
  clear hb c1 HB1
  have c1:=HS.out.c1
  cases bc with
  | true =>
    have hcc:=HBC.out
    rw [Bool.and_eq_true,beq_iff_eq,beq_iff_eq] at hcc
    obtain ⟨h47,hg⟩:=hcc
    have hlt2:p+1<s.length:=(List.getElem?_eq_some_iff.1 hg).1
    have hd1:s.drop (p+1)=62::s.drop (p+2):=by rw [List.drop_eq_getElem_cons hlt2,(List.getElem?_eq_some_iff.1 hg).2]
    have hRn:R=some (L,true,s.drop (p+2)):=by rw [HQ3.out,if_pos h47,hd1];simp
    have HRn:=Lib.hid hRn
    clear h47 hg hd1 hRn
    go_wp2_with fail
    go_quiet (fail)
    go_wp2_with fail
    simp only [Exit.jumps]
    refine bodyPost_ret (v:=.tuple #[v,.bool true,.int .i64 ((p:Int)+2),.bool true]) (by simp [results,Tryz.results106,go_sem]) rfl ?_
    rw [HRn.out]
    refine ⟨⟨v,?_,Kd.R_mono (HS.out.drewN _).row (fun _ _=>trivial)⟩,(HS.out.drewN _).below⟩
    have:s.length - (s.drop (p+2)).length=p+2:=by rw [List.length_drop];omega
    simp only [atRes,this];rfl
  | false =>
    have I47:=IS.out 47 _ p HS.out.rd HS.out.below
    rw [isB_at hlt,HC.out] at I47
    by_cases h47:c=47
    ·have e47:(c == 47)=true:=by rw [h47];rfl
     rw [e47] at I47
     have HI47:=Lib.hid I47
     have hn62:s[p+1]? ≠ some 62:=by
      intro e
      have:=HBC.out
      rw [e47,e] at this
      cases this
     have hQ4:attrL L (s.drop (p+1))=R:=by
      rw [HQ3.out,if_pos h47]
      cases hd:s.drop (p+1) with
      | nil =>
        have e:attrL L ([]:List UInt8)=none:=by rw [attrL_eq];rfl
        rw [e]
      | cons d r =>
        have hg:s[p+1]? = some d:=by have:=congrArg List.head? hd;rwa [List.head?_drop] at this
        simp only
        rw [if_neg (by rintro rfl;exact hn62 hg)]
     have HQ4:=Lib.hid hQ4
     clear I47 e47 hn62 hQ4 h47 HQ3
     go_wp2_with fail
     refine HI47.out.mono ?_
     rintro e w4 ⟨rfl,h2⟩
     replace HS:=Lib.hid (HS.out.step h2)
     clear h2 c1 HI47
     have c1:=HS.out.c1
     have f1:=HS.out.f1
     have HSP:=HS.out.setp (p+1)
     rw [show ((p+1:Nat):Int)=(p:Int)+1 by omega] at HSP
     have HSP2:=Lib.hid HSP
     clear HSP
     go_wp2_with fail
     go_step3
     exact ⟨rfl,s.length - (p+1)+1,zu4,p+1,x,y,v,wh,L,rfl,HSP2,zu4,Nat.lt_succ_self _,zu4,HQ4⟩
    ·have e47:(c == 47)=false:=by rw [beq_eq_false_iff_ne];exact h47
     rw [e47] at I47
     have HI47:=Lib.hid I47
     have hQ4:=HQ3.out
     rw [if_neg h47] at hQ4
     obtain ⟨nm,hnm⟩:∃ nm,c::(s.drop (p+1)).takeWhile nmC=nm:=⟨_,rfl⟩
     have hnl:nm.length≤100000:=by
      have h1:=tw_len nmC (s.drop (p+1))
      rw [List.length_drop] at h1
      have h2:=HSL.out
      rw [← hnm,List.length_cons];omega
     obtain ⟨p2,hp2⟩:∃ p2,p+1+((s.drop (p+1)).takeWhile nmC).length=p2:=⟨_,rfl⟩
     have hp2l:p2≤s.length:=by
      have h1:=tw_len nmC (s.drop (p+1))
      rw [List.length_drop] at h1
      omega
     have hp2g:p+1≤p2:=by omega
     rw [dw_drop,List.drop_drop,hp2,hnm] at hQ4
     have HQ4:=Lib.hid hQ4
     have UPc:=fun W hI hB=>UP.out W p hlt hI hB
     rw [nm_upC,hp2,HC.out,hnm] at UPc
     have HUP:=Lib.hid UPc
     have LWn:=Lib.hid (LW.out nm zu4)
     have hll:(lowL nm).length≤100000:=by unfold lowL;rw [List.length_map];exact hnl
     have CLn:=Lib.hid (CLN.out (lowL nm) zu4)
     obtain ⟨ln,hln⟩:∃ ln,lowL nm=ln:=⟨_,rfl⟩
     obtain ⟨cn,hcn⟩:∃ cn,cleanL ln=cn:=⟨_,rfl⟩
     rw [hln] at LWn CLn
     rw [hcn] at CLn
     have HCN:Hid (cleanL (lowL nm)=cn):=Lib.hid (by rw [hln,hcn])
     have HP2:=Lib.hid hp2l
     clear I47 e47 hQ4 h47 HQ3 hnm hp2 UPc hll hln hcn hnl
     go_wp2_with fail
     refine HI47.out.mono ?_
     rintro e w4 ⟨rfl,h2⟩
     replace HS:=Lib.hid (HS.out.step h2)
     clear h2 c1 HI47
     go_wp2_with fail
     refine (HUP.out _ HS.out.rd HS.out.below).mono ?_
     rintro e w5 ⟨rfl,h2⟩
     replace HS:=Lib.hid (HS.out.step h2)
     clear h2 HUP
     go_wp2_with fail
     refine (LWn.out _).mono ?_
     rintro e w6 ⟨rfl,hb⟩
     replace HS:=Lib.hid (HS.out.call hb)
     clear hb LWn
     go_wp2_with fail
     refine (CLn.out _ (HG.out.step HS.out.below)).mono ?_
     rintro e w7 ⟨rfl,hb⟩
     replace HS:=Lib.hid (HS.out.call hb)
     clear hb CLn
     have d0:=HS.out.d0
     have g0:=HS.out.g0
     have HSX:=Lib.hid (HS.out.setx (B cn))
     have V1:=Lib.hid (VA.out _ p2 HP2.out HSX.out.rd HSX.out.below)
     go_wp2_with fail
     refine V1.out.mono ?_
     rintro e w8 ⟨⟨vv,b,p4,hvo,rfl,hrd⟩,hbw,hkp⟩
     replace HS:=Lib.hid (HSX.out.step ⟨hrd,hbw,hkp⟩)
     clear hrd hbw hkp V1 HSX d0 g0
     have HVO:=Lib.hid hvo
     clear hvo
     have d1:=HS.out.d1
     have g1:=HS.out.g1
     cases b with
     | false =>
       have hRn:R=none:=by
        rw [HQ4.out]
        rcases HVO.out.2.2.2 with ⟨h,_⟩|⟨_,h⟩
        ·cases h
        ·rw [h]
       have HRn:=Lib.hid hRn
       have HSY:=Lib.hid (HS.out.sety (B vv))
       clear hRn
       go_wp2_with fail
       simp only [Exit.jumps]
       refine bodyPost_ret (v:=.tuple #[.slice none 0 0,.bool false,.int .i64 (a.size:Int),.bool false]) (by simp [results,Tryz.results106,go_sem]) rfl ?_
       rw [HRn.out]
       exact ⟨⟨_,by rw [HSZ.out];rfl,Kd.R_nil _ _ _ _ _⟩,HSY.out.below⟩
     | true =>
       obtain ⟨v1,v2,v3,v4⟩:=HVO.out
       have hv:valA (s.drop p2)=some (vv,s.drop p4):=by
        rcases v4 with ⟨_,h⟩|⟨h,_⟩
        ·exact h
        ·cases h
       have hR4:attrL (addA L nm vv) (s.drop p4)=R:=by rw [HQ4.out,hv]
       have RDn:=Lib.hid (RD.out vv (by have:=HSL.out;omega))
       have hrl:=rdL_le true vv
       obtain ⟨dv,hdv⟩:∃ dv,rdL true vv=dv:=⟨_,rfl⟩
       rw [hdv] at hrl RDn
       have CLv:=Lib.hid (CLN.out dv (by have:=HSL.out;omega))
       obtain ⟨cv,hcv⟩:∃ cv,cleanL dv=cv:=⟨_,rfl⟩
       rw [hcv] at CLv
       have hadd:addA L nm vv=if L.any (fun a=>a.1 == cn)=true then L else L++[(cn,cv)]:=by
        unfold addA;rw [HCN.out,hdv,hcv]
       rw [hadd] at hR4
       have HR4:=Lib.hid hR4
       have hany:=has_of cn L
       have HANY:=Lib.hid hany
       have HSY:=Lib.hid (HS.out.sety (B vv))
       have e1:=HSY.out.d1
       have h1:=HSY.out.g1
       have hp4:p+1≤p4:=by omega
       have HP4:=Lib.hid v1
       clear v1 v2 v3 v4 hv hR4 hrl hdv hcv hadd hany HVO
       go_wp2_with fail
       refine (RDn.out _ (HG.out.step HSY.out.below)).mono ?_
       rintro e w9 ⟨rfl,hb⟩
       replace HS:=Lib.hid (HSY.out.call hb)
       clear hb RDn e1 h1 d1 g1 HSY
       go_wp2_with fail
       refine (CLv.out _ (HG.out.step HS.out.below)).mono ?_
       rintro e w10 ⟨rfl,hb⟩
       replace HS:=Lib.hid (HS.out.call hb)
       clear hb CLv
       have d1:=HS.out.d1
       have g1:=HS.out.g1
       have HSY:=Lib.hid (HS.out.sety (B cv))
       obtain ⟨A0,c00,hv0,hlc,hrC⟩:=Kd.R_reads HSY.out.row
       have CTn:=Lib.hid (CT.out A0 c00 (L.map ofT) (B cn) _ hrC hlc zu45 HSY.out.d0)
       rw [HANY.out] at CTn
       rw [← hv0] at CTn
       have HV0:=Lib.hid hv0
       clear hrC hv0 hlc
       obtain ⟨bn,hbn⟩:∃ b,(L.any (fun a=>a.1 == cn))=b:=⟨_,rfl⟩
       have hR5:=HR4.out
       rw [hbn] at hR5 CTn
       have HR5:=Lib.hid hR5
       clear hR5 HR4 HANY hbn
       have hnotc:c=c:=rfl
       go_wp2_with fail
       refine CTn.out.mono ?_
       rintro e w11 ⟨rfl,hb⟩
       replace HS:=Lib.hid (HSY.out.call hb)
       clear hb CTn HSY d1 g1
       cases bn with
       | true =>
         go_wp2_with fail
         go_step3
         exact ⟨rfl,s.length - p4+1,zu4,p4,_,_,v,_,L,rfl,HS,HP4.out,Nat.lt_succ_self _,zu4,HR5.out⟩
       | false =>
         have d0:=HS.out.d0
         have d1:=HS.out.d1
         have HLL:=Lib.hid hL
         rw [if_neg zu15] at HR5
         go_wp2_with (first | ((with_reducible refine gate_builtin (b:=.append) (xs := #[.tmp 92,.tmp 94]) rfl ?_);at_builtin;refine Kd.R_append atK (w0:=w) w.heap.size rfl (.tmp 92) (.tmp 94) 28 105 (.agg #[.string ⟨#[]⟩,.string ⟨#[]⟩]) 32 rfl Tryz.underlying28 infoA rfl zu15 zu15 v (L.map ofT) (ofT (cn,cv)) [.string (B cn),.string (B cv)] (okA w.heap.size) (fun _=>False) rfl rfl (k105_mkM _ _ _ _) (fun _ h=>h.elim) ?aF ?aO ?aB ?aS ?aL ?_;(case aF=>exact (fun k hk=>⟨by have:=HS.out.lt;omega,by have:=HS.out.lt;omega⟩));(case aO=>exact HS.out.row);(case aB=>exact HS.out.below);(case aS=>exact HS.out.below.size);(case aL=>(rw [List.length_map];have:=HSL.out;have:=HLL.out;omega));intro v1 w12 ho hb hg hat))
         have hSF:=HS.out.grown (v1:=v1) (l1:=(L++[(cn,cv)]).map ofT) (by rw [List.map_append];exact ho) hb hg
         have HSF:=Lib.hid hSF
         clear ho hb hg hat hSF d0 d1
         go_wp2_with fail
         go_step3
         exact ⟨rfl,s.length - p4+1,zu4,p4,_,_,v1,_,L++[(cn,cv)],rfl,HSF,HP4.out,Nat.lt_succ_self _,by rw [List.length_append];simp;omega,HR5.out⟩
end Hand
end

section
namespace Hand
open Go Go.RowKit K0 Pl Pb Sa Go.Proofs.YtclkdmmgibgamaaGreatDoor.Pure YtclkdmmgibgamaaGreatDoorW.PrintWords
theorem tagBegins_c (s:List UInt8) (p:Nat) (hs:s.length≤100000) (hp:p≤s.length) (w:World) :
  Calls Tryz.prog 70 #[.string (B s),.int .i64 (p:Int)] w fun e w'=>e = .returned (.bool (tagN (s.drop p) != 0))∧Below w.heap.size w w':=by
 have NM:=Lib.hid (name_c s p hs hp)
 obtain ⟨T,hT⟩:∃ T,tagN (s.drop p)=T:=⟨_,rfl⟩
 rw [hT] at NM ⊢
 obtain ⟨a,ha⟩:∃ a,B s=a:=⟨_,rfl⟩
 rw [ha] at NM ⊢
 have q:decide ((0:Int)<(T:Int))=(T != 0):=by
  rw [Bool.eq_iff_iff,decide_eq_true_iff,bne_iff_ne];omega
 clear hT ha
 go_enter Tryz.func70,Tryz.ntmps70
 go_wp2_with fail
 refine (NM.out _).mono ?_
 rintro e w1 ⟨rfl,hb⟩
 go_wp2_with fail
 go_ret
 exact ⟨by rw [← q];simp,hb⟩
def tkC:Tk→Int×List UInt8×List UInt8×List AttrT×Bool
 | .text s=>(0,[],s,[],false)
 | .start n l b=>(1,n,[],l,b)
 | .fin n=>(2,n,[],[],false)
 | .comment s=>(3,[],s,[],false)
 | .doctype s=>(4,[],s,[],false)
def TkRet (s:List UInt8) (R:Option Tk×List UInt8) (w:World) (e:Ending) (w':World):Prop :=
 match R.1 with
 | none=>e = .returned (.tuple #[.agg #[.int .i64 0,.string ⟨#[]⟩,.string ⟨#[]⟩,.slice none 0 0,.bool false],.int .i64 ((s.length - R.2.length:Nat):Int),.bool false])
 | some t => ∃ v,e = .returned (.tuple #[.agg #[.int .i64 (tkC t).1,.string (B (tkC t).2.1),.string (B (tkC t).2.2.1),v,.bool (tkC t).2.2.2.2],.int .i64 ((s.length - R.2.length:Nat):Int),.bool true]) ∧
    Kd.R atK 105 w' w.heap.size (fun _=>True) v ((tkC t).2.2.2.1.map ofT)
theorem dw_tw (f:UInt8→Bool) (l:List UInt8):l.dropWhile f=l.drop (l.takeWhile f).length∧l.takeWhile f=l.take (l.takeWhile f).length:=by
 induction l with
 | nil=>exact ⟨rfl,rfl⟩
 | cons c r ih =>
   rw [List.dropWhile_cons,List.takeWhile_cons]
   split
   ·exact ⟨ih.1,by rw [List.length_cons,List.take_succ_cons,← ih.2]⟩
   ·exact ⟨rfl,rfl⟩
theorem tw_in (f:UInt8→Bool) (l:List UInt8):∀ j (h:j<l.length),j<(l.takeWhile f).length→f l[j]=true:=by
 intro j h hj
 have h1:=(List.takeWhile_prefix f (l:=l)).getElem hj
 rw [← h1]
 exact List.all_eq_true.1 (List.all_takeWhile (p:=f) (l:=l)) _ (List.getElem_mem hj)
theorem tw_out (f:UInt8→Bool) (l:List UInt8):∀ (h:(l.takeWhile f).length<l.length),f l[(l.takeWhile f).length]=false:=by
 induction l with
 | nil=>intro h;exact absurd h zu19
 | cons c r ih =>
   intro h
   by_cases hc:f c=true
   ·have e:(c::r).takeWhile f=c::r.takeWhile f:=by rw [List.takeWhile_cons,if_pos hc]
    simp only [e,List.length_cons,List.getElem_cons_succ] at h ⊢
    exact ih zu4
   ·have e:(c::r).takeWhile f=[]:=by rw [List.takeWhile_cons,if_neg hc]
    simp only [e,List.length_nil,List.getElem_cons_zero]
    exact Bool.eq_false_iff.2 hc
theorem tagN_le (l:List UInt8):tagN l≤2∧tagN l≤l.length:=by
 match l with
 | []=>exact ⟨Nat.zero_le _,Nat.zero_le _⟩
 | [c]=>exact ⟨Nat.zero_le _,Nat.zero_le _⟩
 | a::c::r =>
   rw [tagN_cons]
   refine ⟨?_,?_⟩
   ·repeat' split
    all_goals omega
   ·simp only [List.length_cons]
    repeat' split
    all_goals omega
theorem byte_ne (n:Int) {c m:UInt8} (h:c≠m) (hm:(m.toNat:Int)=n:=by rfl):(((c.toNat:Int)) == n)=false:=by
 rw [beq_eq_false_iff_ne,← hm]
 intro e
 exact h (UInt8.toNat_inj.1 zu4)
theorem byte_eq (n:Int) {c m:UInt8} (h:c=m) (hm:(m.toNat:Int)=n:=by rfl):(((c.toNat:Int)) == n)=true:=by
 rw [beq_iff_eq,h,hm]
theorem wrap_add {x y z:Nat} (h:x+y=z) (hz:z≤200000):wrap64 ((x:Int)+(y:Int))=(z:Int):=by unfold wrap64;omega
theorem wrap_add2 {x y z:Nat} (h:x+y=z) (hz:z≤200000):IntKind.i64.wrap ((x:Int)+(y:Int))=(z:Int):=by simp [IntKind.wrap_i64];omega
structure TkB (w W:World) (cs:Array Value):Prop where
 glob:Glob W
 below:Below w.heap.size w W
 lt:w.heap.size<W.heap.size
 row:W.heap[w.heap.size]? = some (.cells cs 30 (0,0))
theorem TkB.call {w W W':World} {cs:Array Value} (h:TkB w W cs) (hb:Below W.heap.size W W'):TkB w W' cs :=
 ⟨h.glob.step hb,h.below.trans (hb.mono h.below.size),Nat.lt_of_lt_of_le h.lt hb.size,(hb.block _ h.lt).trans h.row⟩
theorem TkB.start {w:World} (h:Glob w) (cs:Array Value):TkB w (w.alloc (.cells cs 30)) cs:=by
 have hb:Below w.heap.size w (w.alloc (.cells cs 30)):=Below.alloc (Below.refl _ _) (Nat.le_refl _) _
 exact ⟨h.step hb,hb,zu19,Array.getElem?_push_size⟩
theorem TkB.set {w W:World} {cs:Array Value} (h:TkB w W cs) (cs':Array Value):Below w.heap.size w (W.setRow w.heap.size cs')∧(∀ j,(W.setRow w.heap.size cs').cell? ⟨w.heap.size,j,none⟩=cs'[j]?)∧KeepBut W (W.setRow w.heap.size cs') w.heap.size none :=
 ⟨⟨by rw [setRow_os];exact h.below.os,by rw [setRow_tape];exact h.below.tape,by rw [setRow_output];exact h.below.output,by rw [setRow_size];exact h.below.size,fun i hi=>by
    rw [setRow_other _ _ _ _ zu4];exact h.below.block i hi⟩,
   fun j=>cell_setRow_same _ _ _ _ _ _ _ h.row,by rw [setRow_size];exact Nat.le_refl _,fun i hi hne _=>setRow_other _ _ _ _ hne⟩
theorem at_lower {w:World} {base base':Nat} {ok:Nat→Prop} {v:Value} {l:List AtS} (h:Kd.R atK 105 w base ok v l) (hb:base'≤base):Kd.R atK 105 w base' ok v l :=
 ⟨h.1,(h.2.lower hb).imp_ (fun p c hp=>by rw [k105_openM hp];exact k105_mkM _ _ _ _)⟩
abbrev tkV (k:Int) (n t:ByteArray) (v:Value) (b:Bool):Array Value := #[.int .i64 k,.string n,.string t,v,.bool b]
theorem tkV_one (k:Int) (n t:ByteArray) (A:Option Addr) (m c:Nat) (b:Bool):(tkV k n t (.slice A m c) b).all (·.oneCell')=true:=by simp [tkV,Value.oneCell']
abbrev tkZ:Array Value:=tkV 0 ⟨#[]⟩ ⟨#[]⟩ (.slice none 0 0) false
theorem tagRead_c (s:List UInt8) (p:Nat) (hs:s.length≤100000) (hp:p≤s.length) (w:World) (hGl:Glob w) :
  Calls Tryz.prog 71 #[.string (B s),.int .i64 (p:Int)] w fun e w'=>TkRet s (tagR (s.drop p)) w e w'∧Below w.heap.size w w':=by
 have HG:=Lib.hid hGl
 have NM:=Lib.hid (name_c s p hs hp)
 have AT:=Lib.hid (fun q (hq:q≤s.length) W hG=>attrs_c s q hs hq W hG)
 obtain ⟨T,hT⟩:∃ T,tagN (s.drop p)=T:=⟨_,rfl⟩
 have hR:tagR (s.drop p)=if T=0 then (none,s.drop p) else tagL (s.drop p):=by unfold tagR;rw [hT]
 rw [hT] at NM
 rw [hR]
 obtain ⟨a,ha⟩:∃ a,B s=a:=⟨_,rfl⟩
 rw [ha] at NM ⊢
 by_cases h0:T=0
 ·subst h0
  rw [if_pos rfl]
  have HS:Hid (s.length - (s.drop p).length=p):=Lib.hid zu47
  have HB:=Lib.hid (TkB.start hGl tkZ)
  clear hR hGl ha AT
  go_enter Tryz.func71,Tryz.ntmps71
  go_wp2_with fail
  refine (NM.out _).mono ?_
  rintro e w1 ⟨rfl,hb⟩
  replace HB:=Lib.hid (HB.out.call hb)
  clear hb
  go_wp2_with (first | (refine wpList_store_row rfl 30 (.tmp 4) (.tmp 22) rfl w.heap.size tkZ rfl rfl 30 tkZ HB.out.row zu13 rfl (tkV_one _ _ _ _ _ _ _) ?_)|go_in)
  refine bodyPost_ret (results_ctt (p:=4) (u:=5) (v:=6) rfl _ _ w.heap.size 30 tkZ (0,0) _ rfl (setRow_heap _ _ _ _ _ _ HB.out.row) Tryz.underlying30 rfl zu13) rfl ?_
  exact ⟨by unfold TkRet;rw [HS.out];rfl,(HB.out.set tkZ).1⟩
 rw [if_neg h0]
 have hl:=tagN_le (s.drop p)
 rw [hT,List.length_drop] at hl
 obtain ⟨fr,hfr⟩:∃ fr,p+T=fr:=⟨_,rfl⟩
 have hfl:fr≤s.length:=by omega
 have hf2:fr≤200000:=by omega
 obtain ⟨d1,d2⟩:=dw_tw stC (s.drop fr)
 have t1:=tw_in stC (s.drop fr)
 have t2:=tw_out stC (s.drop fr)
 obtain ⟨k,hk⟩:∃ k,((s.drop fr).takeWhile stC).length=k:=⟨_,rfl⟩
 have hkl:k≤s.length - fr:=by
  have:=(List.takeWhile_prefix stC (l:=s.drop fr)).length_le
  rw [hk,List.length_drop] at this;exact this
 obtain ⟨en,hen⟩:∃ e,fr+k=e:=⟨_,rfl⟩
 have hfe:fr≤en:=hen ▸ Nat.le_add_right fr k
 have hel:en≤s.length:=by omega
 have IN:Hid (∀ j (h:j<s.length),fr≤j→j<en→stC s[j]=true):=Lib.hid (fun j h h1 h2=>by
  have:=t1 (j - fr) zu47 (by rw [hk];omega)
  rw [List.getElem_drop] at this
  have e:fr+(j - fr)=j:=by omega
  simp only [e] at this
  exact this)
 have OUT:Hid (∀ (h:en<s.length),stC s[en]=false):=Lib.hid (fun h=>by
  have:=t2 (by rw [hk,List.length_drop];omega)
  rw [List.getElem_drop] at this
  have e:fr+((s.drop fr).takeWhile stC).length=en:=by rw [hk];exact hen
  simp only [e] at this
  exact this)
 rw [hk,List.drop_drop,hen] at d1
 rw [hk] at d2
 have hNM:∀ X,nameL ((s.drop p).drop T)=cleanL (lowL X)↔cleanL (lowL ((s.drop fr).take k))=cleanL (lowL X):=by
  intro X;unfold nameL;rw [List.drop_drop,hfr,d2]
 have htag:tagL (s.drop p)=match attrL [] (s.drop en) with
   | none=>(none,[])
   | some (al,self,r)=>(some (if T=2 then .fin (cleanL (lowL ((s.drop fr).take k))) else .start (cleanL (lowL ((s.drop fr).take k))) al self),r):=by
  unfold tagL
  rw [hT,List.drop_drop,hfr,d1]
  cases attrL [] (s.drop en) with
  | none=>rfl
  | some x =>
    obtain ⟨al,self,r⟩:=x
    simp only
    by_cases h2:T=2
    ·rw [if_pos h2,if_pos h2,← h2,List.drop_drop,hfr];unfold nameL;rw [d2]
    ·have h1:T=1:=by omega
     rw [if_neg h2,if_neg h2,← h1,List.drop_drop,hfr];unfold nameL;rw [d2]
 rw [htag]
 have A1:=Lib.hid (fun W hG=>AT.out en hel W hG)
 have hsz:a.size=s.length:=by rw [← ha,size_B]
 have HX:Hid (∀ j (h:j<a.size) (h':j<s.length),a[j]=s[j]):=Lib.hid (fun j h h'=>by subst ha;rfl)
 have SP:=Lib.hid (fun (c:UInt8) W=>((sign_Space.calls _ _ W (sp_f c)).mono fun _ _ h=>⟨h.1,h.2.below⟩:Calls Tryz.prog 105 #[.int .u8 (c.toNat:Int)] W fun e w'=>e = .returned (.bool (isSp c))∧Below W.heap.size W w'))
 have HB:=Lib.hid (TkB.start hGl tkZ)
 have HSZ:=Lib.hid hsz
 have q0:((T:Int) == 0)=false:=by rw [beq_eq_false_iff_ne];omega
 have HFE:Hid (fr≤en∧en≤s.length∧s.length≤100000):=Lib.hid ⟨hfe,hel,hs⟩
 clear hR htag hNM t1 t2 d1 hGl AT hkl
 have hex:a.extract fr en=B ((s.drop fr).take k):=by rw [← ha,B_extract,← hen,List.drop_take,Nat.add_sub_cancel_left]
 have LW:Hid (∀ W,Calls Tryz.prog 107 #[.string (a.extract fr en)] W fun e w'=>e = .returned (.string (B (lowL ((s.drop fr).take k))))∧Below W.heap.size W w'):=Lib.hid (fun W=>by
  rw [hex]
  have:=lower_any (B ((s.drop fr).take k)) W (by rw [size_B,List.length_take,List.length_drop];omega)
  unfold lowBA at this
  rw [B_data] at this
  exact this)
 have CLN:Hid (∀ W,Glob W→Calls Tryz.prog 32 #[.string (B (lowL ((s.drop fr).take k)))] W fun e w'=>e = .returned (.string (B (cleanL (lowL ((s.drop fr).take k)))))∧Below W.heap.size W w'):=Lib.hid (fun W hG=>by
  have:=clean_any (B (lowL ((s.drop fr).take k))) W (by rw [size_B];unfold lowL;rw [List.length_map,List.length_take,List.length_drop];omega) hG
  unfold cleanBA at this
  rw [B_data] at this
  exact this)
 obtain ⟨NM0,hNM0⟩:∃ X,cleanL (lowL ((s.drop fr).take k))=X:=⟨_,rfl⟩
 rw [hNM0] at CLN ⊢
 obtain ⟨LO,hLO⟩:∃ X,B (lowL ((s.drop fr).take k))=X:=⟨_,rfl⟩
 rw [hLO] at LW CLN
 obtain ⟨X,hX⟩:∃ X,attrL [] (s.drop en)=X:=⟨_,rfl⟩
 rw [hX] at A1 ⊢
 have g1:(0:Int)≤(fr:Int):=by clear d2;omega
 have g2:(fr:Int)≤(en:Int):=Int.ofNat_le.2 hfe
 have g3:(en:Int)≤(a.size:Int):=by rw [hsz];exact Int.ofNat_le.2 hel
 have T12:T=1∨T=2:=by clear d2;omega
 clear hX hex hNM0 hLO d2 hk hen hel hfl hl hfe
 have w1:wrap64 ((p:Int)+(T:Int))=(fr:Int):=wrap_add hfr hf2
 have w2:IntKind.i64.wrap ((p:Int)+(T:Int))=(fr:Int):=wrap_add2 hfr hf2
 clear hf2
 rw [ha] at A1
 go_enter Tryz.func71,Tryz.ntmps71
 go_wp2_with fail
 refine (NM.out _).mono ?_
 rintro e w1 ⟨rfl,hb⟩
 replace HB:=Lib.hid (HB.out.call hb)
 clear hb
 go_upto_block 0 with fail
 go_cut [10] from 28 to 52 (fun v10 wc=>v10 = .int .i64 (en:Int)∧Hid (TkB w wc tkZ))
 case first =>
  go_wp2_with fail
  go_loopw [10] (fun v wx => ∃ i:Nat,v = .int .i64 (i:Int)∧fr≤i∧i≤en∧Hid (TkB w wx tkZ)) (fun v _=>en - (intOf v).toNat)
  case atStart=>exact ⟨fr,rfl,Nat.le_refl _,HFE.out.1,HB⟩
  case round =>
   clear HB
   obtain ⟨i,rfl,hi1,hi2,HB⟩:=hrel
   by_cases hlt:i<a.size
   ·have hls:i<s.length:=by have:=HSZ.out;omega
    have hcg:=HX.out i hlt hls
    have S1:=Lib.hid (SP.out a[i])
    have i1:(0:Int)≤(i:Int):=by omega
    have i2:(i:Int)<(a.size:Int):=by omega
    have w3:IntKind.i64.wrap ((i:Int)+1)=((i+1:Nat):Int):=wrap_add2 (x:=i) (y:=1) rfl (by have:=HFE.out;omega)
    by_cases hin:i<en
    ·have hst:stops a[i]=false:=by have:=IN.out i hls hi1 hin;rw [← hcg] at this;unfold stC at this;simpa using this
     unfold stops at hst
     rw [Bool.or_eq_false_iff,Bool.or_eq_false_iff] at hst
     obtain ⟨⟨b1,b2⟩,b3⟩:=hst
     have e1:(((a[i].toNat:Nat):Int) == 47)=false:=byte_ne 47 (by simpa using b2)
     have e2:(((a[i].toNat:Nat):Int) == 62)=false:=byte_ne 62 (by simpa using b3)
     have e1':(((a[i].toNat:Nat):Int) != 47)=true:=by rw [bne,e1];rfl
     have e2':(((a[i].toNat:Nat):Int) != 62)=true:=by rw [bne,e2];rfl
     have F:Hid (∀ W,Calls Tryz.prog 105 #[.int .u8 ((a[i].toNat:Nat):Int)] W fun e w'=>e = .returned (.bool false)∧Below W.heap.size W w'):=Lib.hid (fun W=>by rw [← b1];exact S1.out W)
     clear hcg S1 b1 b2 b3
     go_wp2_with fail
     refine (F.out _).mono ?_
     rintro e w4 ⟨rfl,hb⟩
     replace HB:=Lib.hid (HB.out.call hb)
     clear hb
     go_wp2_with fail
     refine ⟨⟨i+1,by go_num,zu4,zu4,HB⟩,?_⟩
     simp [intOf];omega
    ·have hie:i=en:=by omega
     subst hie
     have hst:stops a[i]=true:=by have:=OUT.out hls;rw [← hcg] at this;unfold stC at this;simpa using this
     unfold stops at hst
     cases b1:isSp a[i] with
     | true =>
       have F:Hid (∀ W,Calls Tryz.prog 105 #[.int .u8 ((a[i].toNat:Nat):Int)] W fun e w'=>e = .returned (.bool true)∧Below W.heap.size W w'):=Lib.hid (fun W=>by rw [← b1];exact S1.out W)
       clear hcg S1 b1 hst
       go_wp2_with fail
       refine (F.out _).mono ?_
       rintro e w4 ⟨rfl,hb⟩
       replace HB:=Lib.hid (HB.out.call hb)
       clear hb
       go_wp2_with fail
       go_meet
       exact ⟨rfl,HB⟩
     | false =>
       have F:Hid (∀ W,Calls Tryz.prog 105 #[.int .u8 ((a[i].toNat:Nat):Int)] W fun e w'=>e = .returned (.bool false)∧Below W.heap.size W w'):=Lib.hid (fun W=>by rw [← b1];exact S1.out W)
       rw [b1,Bool.false_or] at hst
       by_cases b2:a[i]=47
       ·have e1:(((a[i].toNat:Nat):Int) == 47)=true:=byte_eq 47 b2
        have e1':(((a[i].toNat:Nat):Int) != 47)=false:=by rw [bne,e1];rfl
        clear hcg S1 b1 hst b2
        go_wp2_with fail
        refine (F.out _).mono ?_
        rintro e w4 ⟨rfl,hb⟩
        replace HB:=Lib.hid (HB.out.call hb)
        clear hb
        go_wp2_with fail
        go_meet
        exact ⟨rfl,HB⟩
       ·have b3:a[i]=62:=by
         rw [Bool.or_eq_true,beq_iff_eq,beq_iff_eq] at hst
         exact hst.resolve_left b2
        have e1:(((a[i].toNat:Nat):Int) == 47)=false:=byte_ne 47 b2
        have e2:(((a[i].toNat:Nat):Int) == 62)=true:=byte_eq 62 b3
        have e1':(((a[i].toNat:Nat):Int) != 47)=true:=by rw [bne,e1];rfl
        have e2':(((a[i].toNat:Nat):Int) != 62)=false:=by rw [bne,e2];rfl
        clear hcg S1 b1 hst b2 b3
        go_wp2_with fail
        refine (F.out _).mono ?_
        rintro e w4 ⟨rfl,hb⟩
        replace HB:=Lib.hid (HB.out.call hb)
        clear hb
        go_wp2_with fail
        go_meet
        exact ⟨rfl,HB⟩
   ·have hie:i=en:=by have:=HSZ.out;have:=HFE.out;omega
    subst hie
    have q9:decide ((i:Int)<(a.size:Int))=false:=decide_eq_false zu4
    go_wp2_with fail
    go_meet
    exact ⟨rfl,HB⟩
 case rest =>
  obtain ⟨rfl,HB⟩:=hcut
  cases X with
  | none =>
    have A2:Hid (∀ W,Glob W→Calls Tryz.prog 106 #[.string a,.int .i64 (en:Int)] W fun e w'=>(∃ v,e = .returned (.tuple #[v,.bool false,.int .i64 (s.length:Int),.bool false]))∧Below W.heap.size W w'):=Lib.hid (fun W hG=>(A1.out W hG).mono fun e w' h=>by
     obtain ⟨⟨v,he,_⟩,hb⟩:=h;exact ⟨⟨v,he⟩,hb⟩)
    clear A1
    go_wp2_with fail
    refine (A2.out _ HB.out.glob).mono ?_
    rintro e w4 ⟨⟨v,rfl⟩,hb⟩
    replace HB:=Lib.hid (HB.out.call hb)
    clear hb A2
    go_wp2_with (first | (refine wpList_store_row rfl 30 (.tmp 4) (.tmp 63) rfl w.heap.size tkZ rfl rfl 30 tkZ HB.out.row zu13 rfl (tkV_one _ _ _ _ _ _ _) ?_)|go_in)
    refine bodyPost_ret (results_ctt (p:=4) (u:=5) (v:=6) rfl _ _ w.heap.size 30 tkZ (0,0) _ rfl (setRow_heap _ _ _ _ _ _ HB.out.row) Tryz.underlying30 rfl zu13) rfl ?_
    refine ⟨?_,(HB.out.set tkZ).1⟩
    unfold TkRet
    show _=Ending.returned (.tuple #[_,.int .i64 ((s.length - 0:Nat):Int),_])
    rw [Nat.sub_zero,← HSZ.out];rfl
  | some x =>
    obtain ⟨al,self,r⟩:=x
    have A2:Hid (∀ W,Glob W→Calls Tryz.prog 106 #[.string a,.int .i64 (en:Int)] W fun e w'=>(∃ A c,e = .returned (.tuple #[.slice A al.length c,.bool self,.int .i64 ((s.length - r.length:Nat):Int),.bool true])∧Kd.R atK 105 w' W.heap.size (fun _=>True) (.slice A al.length c) (al.map ofT))∧Below W.heap.size W w'):=Lib.hid (fun W hG=>(A1.out W hG).mono fun e w' h=>by
     obtain ⟨⟨v,he,hR⟩,hb⟩:=h
     obtain ⟨A,c,hv,_,_⟩:=Kd.R_reads hR
     change Kd.R atK _ w' W.heap.size (fun _=>True) v (al.map ofT) at hR
     have hv2:v = .slice A al.length c:=by rw [hv];congr 1;exact List.length_map ..
     subst hv2
     exact ⟨⟨A,c,he,hR⟩,hb⟩)
    clear A1
    obtain ⟨nx,hnx⟩:∃ n:Nat,s.length - r.length=n:=⟨_,rfl⟩
    rw [hnx] at A2
    have HNX:=Lib.hid hnx
    clear hnx
    rcases T12 with rfl|rfl
    ·have q2:decide ((1:Int)<((1:Nat):Int))=false:=by decide
     go_wp2_with fail
     refine (A2.out _ HB.out.glob).mono ?_
     rintro e w4 ⟨⟨A,c,rfl,hR⟩,hb⟩
     have HR:=Lib.hid (at_lower hR HB.out.below.size)
     have HNE:Hid (some w.heap.size≠(Value.slice A al.length c).ownBlock):=Lib.hid (fun e=>by have:=Kd.R_base hR _ e.symm;have:=HB.out.lt;omega)
     replace HB:=Lib.hid (HB.out.call hb)
     clear hb A2 hR
     go_wp2_with fail
     refine (LW.out _).mono ?_
     rintro e w5 ⟨rfl,hb⟩
     replace HB:=Lib.hid (HB.out.call hb)
     replace HR:=Lib.hid (Kd.R_below HR.out hb)
     clear hb
     go_wp2_with fail
     refine (CLN.out _ HB.out.glob).mono ?_
     rintro e w6 ⟨rfl,hb⟩
     replace HB:=Lib.hid (HB.out.call hb)
     replace HR:=Lib.hid (Kd.R_below HR.out hb)
     clear hb
     go_wp2_with (first | (refine wpList_store_row rfl 30 (.tmp 4) (.tmp 80) rfl w.heap.size (tkV 1 (B NM0) ⟨#[]⟩ (.slice A al.length c) self) rfl rfl 30 tkZ HB.out.row zu13 rfl (tkV_one _ _ _ _ _ _ _) ?_)|go_in)
     refine bodyPost_ret (results_ctt (p:=4) (u:=5) (v:=6) rfl _ _ w.heap.size 30 (tkV 1 (B NM0) ⟨#[]⟩ (.slice A al.length c) self) (0,0) _ rfl (setRow_heap _ _ _ _ _ _ HB.out.row) Tryz.underlying30 rfl zu13) rfl ?_
     refine ⟨?_,(HB.out.set _).1⟩
     unfold TkRet
     refine ⟨.slice A al.length c,by simp only;rw [HNX.out];rfl,?_⟩
     exact Kd.R_mono (Kd.R_keep (Kd.R_far1 HR.out rfl HNE.out) (HB.out.set _).2.2 (fun _ h=>h.2)) (fun _ _=>trivial)
    ·have q2:decide ((1:Int)<((2:Nat):Int))=true:=by decide
     go_wp2_with fail
     refine (A2.out _ HB.out.glob).mono ?_
     rintro e w4 ⟨⟨A,c,rfl,hR⟩,hb⟩
     replace HB:=Lib.hid (HB.out.call hb)
     clear hb A2 hR
     go_wp2_with fail
     refine (LW.out _).mono ?_
     rintro e w5 ⟨rfl,hb⟩
     replace HB:=Lib.hid (HB.out.call hb)
     clear hb
     go_wp2_with fail
     refine (CLN.out _ HB.out.glob).mono ?_
     rintro e w6 ⟨rfl,hb⟩
     replace HB:=Lib.hid (HB.out.call hb)
     clear hb
     go_wp2_with (first | (refine wpList_store_row rfl 30 (.tmp 4) (.tmp 75) rfl w.heap.size (tkV 2 (B NM0) ⟨#[]⟩ (.slice none 0 0) false) rfl rfl 30 tkZ HB.out.row zu13 rfl (tkV_one _ _ _ _ _ _ _) ?_)|go_in)
     refine bodyPost_ret (results_ctt (p:=4) (u:=5) (v:=6) rfl _ _ w.heap.size 30 (tkV 2 (B NM0) ⟨#[]⟩ (.slice none 0 0) false) (0,0) _ rfl (setRow_heap _ _ _ _ _ _ HB.out.row) Tryz.underlying30 rfl zu13) rfl ?_
     refine ⟨?_,(HB.out.set _).1⟩
     unfold TkRet
     exact ⟨.slice none 0 0,by simp only;rw [HNX.out];rfl,Kd.R_nil _ _ _ _ _⟩
end Hand
end

section
namespace Pcb
open Go Go.RowKit K0 Hand Sa Go.Proofs.YtclkdmmgibgamaaGreatDoor.Pure YtclkdmmgibgamaaGreatDoorW.PrintWords Pl Pb
attribute [local simp] B_nil
theorem letter_f (c:UInt8):sign_Letter.f (c.toNat:Int)=some (letB c):=by
 have:∀ n:Fin 256,sign_Letter.f ((n.val:Nat):Int)=some (letB (UInt8.ofNat n.val)):=by decide +kernel
 have h:=this ⟨c.toNat,c.toNat_lt⟩
 simpa using h
theorem lowB_sign (c:UInt8) (m:Fin 65):(lowB c == UInt8.ofNat m.val)=(c == UInt8.ofNat m.val):=by
 have:∀ n:Fin 256,∀ m:Fin 65,(lowB (UInt8.ofNat n.val) == UInt8.ofNat m.val)=(UInt8.ofNat n.val == UInt8.ofNat m.val):=by decide +kernel
 have h:=this ⟨c.toNat,c.toNat_lt⟩ m
 simpa using h
theorem lw60 (c:UInt8):(lowB c == 60)=(c == 60):=lowB_sign c 60
theorem lw33 (c:UInt8):(lowB c == 33)=(c == 33):=lowB_sign c 33
theorem lw63 (c:UInt8):(lowB c == 63)=(c == 63):=lowB_sign c 63
theorem lw47 (c:UInt8):(lowB c == 47)=(c == 47):=lowB_sign c 47
theorem begC_f (s:List UInt8) (n:Nat) (hs:s.length≤1000000) (hn:n≤s.length):comment_Begins.f (B s) (n:Int)=some (begC (s.drop n)):=by
 unfold comment_Begins.f
 simp only [show (⟨#[60,33]⟩:ByteArray)=B [60,33] from rfl,show (⟨#[60,63]⟩:ByteArray)=B [60,63] from rfl,show (⟨#[60,47]⟩:ByteArray)=B [60,47] from rfl,
  show (⟨#[60,33,100,111,99,116,121,112,101]⟩:ByteArray)=B (60::33::doctypeL) from rfl,
  begins_f s _ n hs (show ([60,33]:List UInt8).length≤1000000 by simp) hn,begins_f s _ n hs (show ([60,63]:List UInt8).length≤1000000 by simp) hn,begins_f s _ n hs (show ([60,47]:List UInt8).length≤1000000 by simp) hn,
  begins_f s _ n hs (show (60::33::doctypeL:List UInt8).length≤1000000 by simp [doctypeL]) hn,Option.bind_some]
 have w:wrap64 ((n:Int)+2)=((n+2:Nat):Int):=by unfold wrap64;omega
 rw [w]
 match hr:s.drop n with
 | []=>simp [begR,begC]
 | [c]=>simp [begR,begC]
 | c::d::t =>
   simp only [begR,lw60,lw33,lw63,lw47,begC,Bool.and_true]
   by_cases hc:c=60
   ·subst hc
    simp only [BEq.rfl,Bool.true_and]
    by_cases h33:d=33
    ·subst h33;simp
    ·by_cases h63:d=63
     ·subst h63;simp
     ·by_cases h47:d=47
      ·subst h47
       have ht:s.drop (n+2)=t:=by rw [← List.drop_drop,hr];rfl
       cases t with
       | nil =>
         have h1:=drop_nil ht
         have h2:(s.drop n).length=2:=by rw [hr];rfl
         simp only [List.length_drop] at h2
         simp only [show ((47:UInt8) == 33)=false by decide,show ((47:UInt8) == 63)=false by decide,Bool.false_eq_true,if_false,BEq.rfl,if_true,if_pos (show ((n+2:Nat):Int)=((B s).size:Int) by simp;omega)]
         simp
       | cons e t =>
         have h1:=drop_lt ht
         simp only [show ((47:UInt8) == 33)=false by decide,show ((47:UInt8) == 63)=false by decide,Bool.false_eq_true,if_false,BEq.rfl,if_true,if_neg (show ¬ ((n+2:Nat):Int)=((B s).size:Int) by simp;omega),
          if_pos (show (0:Int)≤((n+2:Nat):Int) by omega),if_pos (show ((n+2:Nat):Int)<((B s).size:Int) by simp;omega),bt_drop s (n+2) e t ht,u62,letter_f,Option.bind_some]
         by_cases he:e=62
         ·simp [he]
         ·simp [he]
      ·simp [h33,h63,h47]
   ·simp [hc]
end Pcb
end

section
namespace Hand
open Go Go.RowKit Pl Pb Sa Go.Proofs.YtclkdmmgibgamaaGreatDoor.Pure YtclkdmmgibgamaaGreatDoorW.PrintWords
theorem cmtBegins_c (s:List UInt8) (p:Nat) (hs:s.length≤100000) (hp:p≤s.length) (w:World) :
  Calls Tryz.prog 72 #[.string (B s),.int .i64 (p:Int)] w fun e w'=>e = .returned (.bool (begC (s.drop p)))∧Below w.heap.size w w' :=
 comment_Begins.calls _ _ _ w (Pcb.begC_f s p zu4 hp)
theorem txVoid_c (s:List UInt8) (p:Nat) (hs:s.length≤100000) (hp:p≤s.length) (w:World) :
  Calls Tryz.prog 179 #[.string (B s),.int .i64 (p:Int)] w fun e w'=>e = .returned (.bool (begR (s.drop p) voidL))∧Below w.heap.size w w':=by
 have BG:=Lib.hid (fun W=>nbegins_c s voidL p zu4 zu15 hp W)
 obtain ⟨x,hx⟩:∃ x,begR (s.drop p) voidL=x:=⟨_,rfl⟩
 rw [hx] at BG ⊢
 unfold voidL B at BG
 obtain ⟨a,ha⟩:∃ a,B s=a:=⟨_,rfl⟩
 have ha':(⟨s.toArray⟩:ByteArray)=a:=ha
 rw [ha'] at BG
 rw [ha]
 clear hx
 go_enter Tryz.func179,Tryz.ntmps179
 go_wp2_with fail
 refine (BG.out _).mono ?_
 rintro e w1 ⟨rfl,hb⟩
 go_wp2_with fail
 go_ret
 exact ⟨rfl,hb⟩
theorem docBegins_c (s:List UInt8) (p:Nat) (hs:s.length≤100000) (hp:p≤s.length) (w:World) :
  Calls Tryz.prog 74 #[.string (B s),.int .i64 (p:Int)] w fun e w'=>e = .returned (.bool (begR (s.drop p) docL))∧Below w.heap.size w w':=by
 have BG:=Lib.hid (fun W=>nbegins_c s docL p zu4 zu15 hp W)
 obtain ⟨x,hx⟩:∃ x,begR (s.drop p) docL=x:=⟨_,rfl⟩
 rw [hx] at BG ⊢
 unfold docL B at BG
 obtain ⟨a,ha⟩:∃ a,B s=a:=⟨_,rfl⟩
 have ha':(⟨s.toArray⟩:ByteArray)=a:=ha
 rw [ha'] at BG
 rw [ha]
 clear hx
 go_enter Tryz.func74,Tryz.ntmps74
 go_wp2_with fail
 refine (BG.out _).mono ?_
 rintro e w1 ⟨rfl,hb⟩
 go_wp2_with fail
 go_ret
 exact ⟨rfl,hb⟩
def TxI (i:Nat) (x1 x2 x3 x4:Bool):Prop:=(1≤i→x1=false)∧(2≤i→x2=false)∧(3≤i→x3=false)∧(4≤i→x4=false)
theorem txBegins_c (s:List UInt8) (p:Nat) (hs:s.length≤100000) (hp:p≤s.length) (w:World) :
  Calls Tryz.prog 152 #[.string (B s),.int .i64 (p:Int)] w fun e w'=>e = .returned (.bool (begM (s.drop p)))∧Below w.heap.size w w':=by
 have C1:=Lib.hid (fun W=>tagBegins_c s p hs hp W)
 have C2:=Lib.hid (fun W=>cmtBegins_c s p hs hp W)
 have C3:=Lib.hid (fun W=>docBegins_c s p hs hp W)
 have C4:=Lib.hid (fun W=>txVoid_c s p hs hp W)
 have hM:begM (s.drop p)=((tagN (s.drop p) != 0) || begC (s.drop p) || begR (s.drop p) docL || begR (s.drop p) voidL):=rfl
 obtain ⟨x1,h1⟩:∃ x,(tagN (s.drop p) != 0)=x:=⟨_,rfl⟩
 obtain ⟨x2,h2⟩:∃ x,begC (s.drop p)=x:=⟨_,rfl⟩
 obtain ⟨x3,h3⟩:∃ x,begR (s.drop p) docL=x:=⟨_,rfl⟩
 obtain ⟨x4,h4⟩:∃ x,begR (s.drop p) voidL=x:=⟨_,rfl⟩
 rw [h1,h2,h3,h4] at hM
 rw [h1] at C1
 rw [h2] at C2
 rw [h3] at C3
 rw [h4] at C4
 rw [hM]
 obtain ⟨a,ha⟩:∃ a,B s=a:=⟨_,rfl⟩
 rw [ha] at C1 C2 C3 C4 ⊢
 clear h1 h2 h3 h4 hM ha
 have r0:∀ W:World,Sem.run Tryz.prog (Instr.index 196 (.agg #[.func (.func 70) #[] #[],.func (.func 72) #[] #[],.func (.func 74) #[] #[],.func (.func 179) #[] #[]]) (.int .i64 0)) W=Result.ok (.agg #[.func (.func 70) #[] #[]]) W:=fun W=>by rfl
 have r1:∀ W:World,Sem.run Tryz.prog (Instr.index 196 (.agg #[.func (.func 70) #[] #[],.func (.func 72) #[] #[],.func (.func 74) #[] #[],.func (.func 179) #[] #[]]) (.int .i64 1)) W=Result.ok (.agg #[.func (.func 72) #[] #[]]) W:=fun W=>by rfl
 have r2:∀ W:World,Sem.run Tryz.prog (Instr.index 196 (.agg #[.func (.func 70) #[] #[],.func (.func 72) #[] #[],.func (.func 74) #[] #[],.func (.func 179) #[] #[]]) (.int .i64 2)) W=Result.ok (.agg #[.func (.func 74) #[] #[]]) W:=fun W=>by rfl
 have r3:∀ W:World,Sem.run Tryz.prog (Instr.index 196 (.agg #[.func (.func 70) #[] #[],.func (.func 72) #[] #[],.func (.func 74) #[] #[],.func (.func 179) #[] #[]]) (.int .i64 3)) W=Result.ok (.agg #[.func (.func 179) #[] #[]]) W:=fun W=>by rfl
 go_enter Tryz.func152,Tryz.ntmps152
 go_wp2_with fail
 go_loopw [12] (fun v wx => ∃ i:Nat,v = .int .i64 (i:Int)∧i≤4∧Hid (Below w.heap.size w wx)∧TxI i x1 x2 x3 x4) (fun v _=>4 - (intOf v).toNat)
 case atStart=>exact ⟨0,rfl,Nat.zero_le _,Lib.hid (Below.refl _ _),⟨zu4,zu4,zu4,zu4⟩⟩
 case round =>
  obtain ⟨i,rfl,hi,HB,HI⟩:=hrel
  have hh:i=0∨i=1∨i=2∨i=3∨i=4:=by omega
  rcases hh with rfl|rfl|rfl|rfl|rfl
  ·have hc0:((wr.alloc (.cells #[.nilFunc] 195)).setRow wr.heap.size #[.func (.func 70) #[] #[]]).cell? ⟨wr.heap.size,0,none⟩=some (.func (.func 70) #[] #[]):=(cell_setRow_same _ _ 0 _ _ _ _ (heap_alloc_last wr _)).trans rfl
   have hb0:Below w.heap.size w ((wr.alloc (.cells #[.nilFunc] 195)).setRow wr.heap.size #[.func (.func 70) #[] #[]]):=by
    rw [World.setRow_alloc_new];exact HB.out.alloc HB.out.size _
   have HB0:=Lib.hid hb0
   clear hb0
   go_wp2_with (first | (refine wpList_store_row rfl 195 (.tmp 6) (.tmp 14) rfl wr.heap.size #[.func (.func 70) #[] #[]] rfl rfl 195 #[.nilFunc] (heap_alloc_last wr _) zu13 rfl zu70 ?_))
   refine (C1.out _).mono ?_
   rintro e w4 ⟨rfl,hb⟩
   have HB1:=Lib.hid (HB0.out.trans (hb.mono HB0.out.size))
   clear hb hc0 HB0
   cases x1 with
   | true =>
     go_wp2_with fail
     go_ret
     exact ⟨zu19,HB1.out⟩
   | false =>
     go_wp2_with fail
     refine ⟨⟨1,rfl,zu4,HB1,⟨fun _=>rfl,fun h=>absurd h zu15,fun h=>absurd h zu15,fun h=>absurd h zu15⟩⟩,?_⟩
     simp [intOf]
  ·have hc0:((wr.alloc (.cells #[.nilFunc] 195)).setRow wr.heap.size #[.func (.func 72) #[] #[]]).cell? ⟨wr.heap.size,0,none⟩=some (.func (.func 72) #[] #[]):=(cell_setRow_same _ _ 0 _ _ _ _ (heap_alloc_last wr _)).trans rfl
   have hb0:Below w.heap.size w ((wr.alloc (.cells #[.nilFunc] 195)).setRow wr.heap.size #[.func (.func 72) #[] #[]]):=by
    rw [World.setRow_alloc_new];exact HB.out.alloc HB.out.size _
   have HB0:=Lib.hid hb0
   clear hb0
   go_wp2_with (first | (refine wpList_store_row rfl 195 (.tmp 6) (.tmp 14) rfl wr.heap.size #[.func (.func 72) #[] #[]] rfl rfl 195 #[.nilFunc] (heap_alloc_last wr _) zu13 rfl zu70 ?_))
   refine (C2.out _).mono ?_
   rintro e w4 ⟨rfl,hb⟩
   have HB1:=Lib.hid (HB0.out.trans (hb.mono HB0.out.size))
   clear hb hc0 HB0
   cases x2 with
   | true =>
     go_wp2_with fail
     go_ret
     exact ⟨zu19,HB1.out⟩
   | false =>
     go_wp2_with fail
     refine ⟨⟨2,rfl,zu4,HB1,⟨fun _=>HI.1 zu4,fun _=>rfl,fun h=>absurd h zu15,fun h=>absurd h zu15⟩⟩,?_⟩
     simp [intOf]
  ·have hc0:((wr.alloc (.cells #[.nilFunc] 195)).setRow wr.heap.size #[.func (.func 74) #[] #[]]).cell? ⟨wr.heap.size,0,none⟩=some (.func (.func 74) #[] #[]):=(cell_setRow_same _ _ 0 _ _ _ _ (heap_alloc_last wr _)).trans rfl
   have hb0:Below w.heap.size w ((wr.alloc (.cells #[.nilFunc] 195)).setRow wr.heap.size #[.func (.func 74) #[] #[]]):=by
    rw [World.setRow_alloc_new];exact HB.out.alloc HB.out.size _
   have HB0:=Lib.hid hb0
   clear hb0
   go_wp2_with (first | (refine wpList_store_row rfl 195 (.tmp 6) (.tmp 14) rfl wr.heap.size #[.func (.func 74) #[] #[]] rfl rfl 195 #[.nilFunc] (heap_alloc_last wr _) zu13 rfl zu70 ?_))
   refine (C3.out _).mono ?_
   rintro e w4 ⟨rfl,hb⟩
   have HB1:=Lib.hid (HB0.out.trans (hb.mono HB0.out.size))
   clear hb hc0 HB0
   cases x3 with
   | true =>
     go_wp2_with fail
     go_ret
     exact ⟨zu19,HB1.out⟩
   | false =>
     go_wp2_with fail
     refine ⟨⟨3,rfl,zu4,HB1,⟨fun _=>HI.1 zu4,fun _=>HI.2.1 zu4,fun _=>rfl,fun h=>absurd h zu15⟩⟩,?_⟩
     simp [intOf]
  ·have hc0:((wr.alloc (.cells #[.nilFunc] 195)).setRow wr.heap.size #[.func (.func 179) #[] #[]]).cell? ⟨wr.heap.size,0,none⟩=some (.func (.func 179) #[] #[]):=(cell_setRow_same _ _ 0 _ _ _ _ (heap_alloc_last wr _)).trans rfl
   have hb0:Below w.heap.size w ((wr.alloc (.cells #[.nilFunc] 195)).setRow wr.heap.size #[.func (.func 179) #[] #[]]):=by
    rw [World.setRow_alloc_new];exact HB.out.alloc HB.out.size _
   have HB0:=Lib.hid hb0
   clear hb0
   go_wp2_with (first | (refine wpList_store_row rfl 195 (.tmp 6) (.tmp 14) rfl wr.heap.size #[.func (.func 179) #[] #[]] rfl rfl 195 #[.nilFunc] (heap_alloc_last wr _) zu13 rfl zu70 ?_))
   refine (C4.out _).mono ?_
   rintro e w4 ⟨rfl,hb⟩
   have HB1:=Lib.hid (HB0.out.trans (hb.mono HB0.out.size))
   clear hb hc0 HB0
   cases x4 with
   | true =>
     go_wp2_with fail
     go_ret
     exact ⟨zu19,HB1.out⟩
   | false =>
     go_wp2_with fail
     refine ⟨⟨4,rfl,zu4,HB1,⟨fun _=>HI.1 zu4,fun _=>HI.2.1 zu4,fun _=>HI.2.2.1 zu4,fun _=>rfl⟩⟩,?_⟩
     simp [intOf]
  ·obtain rfl:=HI.1 zu4
   obtain rfl:=HI.2.1 zu4
   obtain rfl:=HI.2.2.1 zu4
   obtain rfl:=HI.2.2.2 zu4
   go_wp2_with fail
   go_ret
   exact ⟨rfl,HB.out⟩
end Hand
end

section
namespace Hand
open Go Go.RowKit Pl Pb Go.Proofs.YtclkdmmgibgamaaGreatDoor.Pure
theorem begM_no {c:UInt8} (r:List UInt8) (h:c≠60):begM (c::r)=false:=by
 have hl:∀ n:Fin 256,(lowB (UInt8.ofNat n.val) == 60)=(UInt8.ofNat n.val == 60):=by decide +kernel
 have e:(lowB c == 60)=false:=by
  have:=hl ⟨c.toNat,c.toNat_lt⟩
  simp only [UInt8.ofNat_toNat] at this
  rw [this,beq_eq_false_iff_ne];exact h
 have t:tagN (c::r)=0:=by
  cases r with
  | nil=>rfl
  | cons d q=>show (if c=60 then _ else 0)=0;rw [if_neg h]
 have b:begC (c::r)=false:=by
  have hc:(c == 60)=false:=beq_eq_false_iff_ne.2 h
  cases r with
  | nil=>rfl
  | cons d q=>unfold begC;simp only [hc,Bool.false_and]
 unfold begM
 rw [t,b,docL,voidL,begR,begR,e]
 rfl
theorem txN_skip (o:Nat):∀ (l:List UInt8),o≤l.length→(∀ j,j<o→l[j]? ≠ some 60)→txN l=o+txN (l.drop o):=by
 induction o with
 | zero=>intro l _ _;rw [List.drop_zero,Nat.zero_add]
 | succ o ih =>
   intro l hl h
   cases l with
   | nil=>simp at hl
   | cons c r =>
     have hc:c≠60:=fun e=>h 0 zu4 (by rw [e];rfl)
     rw [txN,if_neg (by rw [begM_no r hc];decide),ih r (by simpa using hl) (fun j hj=>by have:=h (j+1) zu4;simpa using this),List.drop_succ_cons]
     omega
end Hand
end

section
namespace Hand
open Go Go.RowKit Pl Pb Sa Si Go.Proofs.YtclkdmmgibgamaaGreatDoor.Pure YtclkdmmgibgamaaGreatDoorW.PrintWords
theorem inside_c (s:List UInt8) (p:Nat) (_:s.length≤100000) (hp:p≤s.length) (w:World) :
  Calls Tryz.prog 114 #[.string (B s),.int .i64 (p:Int)] w fun e w'=>e = .returned (.int .i64 (p:Int))∧Below w.heap.size w w':=by
 refine text_inside.calls _ _ (p:Int) w ?_
 unfold text_inside.f
 rw [size_B]
 congr 1
 unfold mn mx
 repeat' split
 all_goals omega
theorem txN_cons0 {l:List UInt8} (h:begM l=true):txN l=0:=by
 cases l with
 | nil=>rfl
 | cons c r=>rw [txN,if_pos h]
theorem txN_cons1 {c:UInt8} {r:List UInt8} (h:begM (c::r)=false):txN (c::r)=1+txN r:=by
 rw [txN,if_neg (by rw [h];decide)]
theorem txNext_c (s:List UInt8) (p:Nat) (hs:s.length≤100000) (hp:p≤s.length) (w:World) :
  Calls Tryz.prog 112 #[.string (B s),.int .i64 (p:Int)] w fun e w'=>e = .returned (.int .i64 ((p+txN (s.drop p):Nat):Int))∧Below w.heap.size w w':=by
 have IN:=Lib.hid (fun W=>inside_c s p hs hp W)
 have BG:=Lib.hid (fun q (hq:q≤s.length) W=>txBegins_c s q hs hq W)
 have IX:Hid (∀ i,i≤s.length→∀ W,Calls Tryz.prog 87 #[.string ((B s).extract i (B s).size),.int .u8 60] W fun e w'=>e = .returned (.int .i64 (Lib.indexByte (s.drop i) 60))∧Below W.heap.size W w'):=Lib.hid (fun i hi W=>by
  have I:=Tryz.strings_IndexByte ((B s).extract i (B s).size) 60 W
  rw [size_B,B_extract,List.take_length,B_data] at I
  rw [size_B,B_extract,List.take_length]
  exact I.mono fun _ _ h=>⟨h.1,by rw [h.2];exact Below.refl _ _⟩)
 obtain ⟨a,ha⟩:∃ a,B s=a:=⟨_,rfl⟩
 have HSZ:Hid (a.size=s.length):=Lib.hid (by rw [← ha,size_B])
 rw [ha] at IN BG IX ⊢
 have HP:Hid (p≤s.length∧s.length≤100000):=Lib.hid ⟨hp,hs⟩
 clear ha
 go_enter Tryz.func112,Tryz.ntmps112
 go_wp2_with fail
 refine (IN.out _).mono ?_
 rintro e w1 ⟨rfl,hb⟩
 have HB:=Lib.hid hb
 clear hb
 go_wp2_with fail
 go_loopw [5] (fun v wx => ∃ i:Nat,v = .int .i64 (i:Int)∧p≤i∧i≤a.size∧Hid (Below w.heap.size w wx)∧Hid (p+txN (s.drop p)=i+txN (s.drop i))) (fun v _=>a.size - (intOf v).toNat)
 case atStart=>exact ⟨p,rfl,Nat.le_refl _,by have:=HP.out;have:=HSZ.out;omega,HB,Lib.hid rfl⟩
 case round =>
  clear HB
  obtain ⟨i,rfl,hi1,hi2,HB,HT⟩:=hrel
  have his:i≤s.length:=by have:=HSZ.out;omega
  by_cases hlt:i<a.size
  ·have I:=Lib.hid (IX.out i his)
   have i1:(0:Int)≤(i:Int):=by omega
   have i2:(i:Int)≤(a.size:Int):=by omega
   rcases Int.lt_or_le (Lib.indexByte (s.drop i) 60) 0 with h|h
   ·have h1:Lib.indexByte (s.drop i) 60 = -1:=by have:=Lib.indexByte_ge (s.drop i) 60;omega
    have hN:=txN_skip (s.drop i).length (s.drop i) (Nat.le_refl _) (fun j _=>Lib.indexByte_none h1 j)
    rw [h1] at I
    have HE:Hid (p+txN (s.drop p)=a.size):=Lib.hid (by
     rw [HT.out,hN,List.drop_length,HSZ.out];simp [txN];omega)
    clear h h1 hN
    go_wp2_with fail
    refine (I.out _).mono ?_
    rintro e w2 ⟨rfl,hb⟩
    replace HB:=Lib.hid (HB.out.trans (hb.mono HB.out.size))
    clear hb
    go_wp2_with fail
    go_ret
    exact ⟨by rw [HE.out];rfl,HB.out⟩
   ·obtain ⟨o,ho⟩:∃ o:Nat,Lib.indexByte (s.drop i) 60=o:=⟨_,(Int.toNat_of_nonneg h).symm⟩
    rw [ho] at I
    obtain ⟨x1,x2⟩:=Lib.indexByte_some ho
    obtain ⟨hol,_⟩:=List.getElem?_eq_some_iff.1 x1
    rw [List.length_drop] at hol
    have hk:=txN_skip o (s.drop i) zu47 x2
    rw [List.drop_drop] at hk
    obtain ⟨q,hq⟩:∃ q,i+o=q:=⟨_,rfl⟩
    rw [hq] at hk
    have hql:q<s.length:=by omega
    have hqa:q<a.size:=by have:=HSZ.out;omega
    have hiq:i≤q:=by omega
    have hT2:p+txN (s.drop p)=q+txN (s.drop q):=by rw [HT.out,hk];omega
    have G:=Lib.hid (BG.out q zu4)
    have hz:q≤100000:=by have:=HP.out;omega
    have o1:decide ((o:Int)<0)=false:=by simp
    cases hbm:begM (s.drop q) with
    | true =>
      have HE:Hid (p+txN (s.drop p)=q):=Lib.hid (by rw [hT2,txN_cons0 hbm];rfl)
      rw [hbm] at G
      have ww:IntKind.i64.wrap ((i:Int)+(o:Int))=(q:Int):=wrap_add2 hq zu4
      clear h ho x1 x2 hk hT2 hol hbm
      go_wp2_with fail
      refine (I.out _).mono ?_
      rintro e w2 ⟨rfl,hb⟩
      replace HB:=Lib.hid (HB.out.trans (hb.mono HB.out.size))
      clear hb
      go_wp2_with fail
      refine (G.out _).mono ?_
      rintro e w3 ⟨rfl,hb⟩
      replace HB:=Lib.hid (HB.out.trans (hb.mono HB.out.size))
      clear hb
      go_wp2_with fail
      go_ret
      exact ⟨by rw [HE.out];rfl,HB.out⟩
    | false =>
      have hd:=List.drop_eq_getElem_cons hql
      have HE:Hid (p+txN (s.drop p)=(q+1)+txN (s.drop (q+1))):=Lib.hid (by
       rw [hT2,hd,txN_cons1 (by rw [← hd];exact hbm)];omega)
      rw [hbm] at G
      have ww:IntKind.i64.wrap ((i:Int)+(o:Int))=(q:Int):=wrap_add2 hq zu4
      have ww2:IntKind.i64.wrap ((q:Int)+1)=((q+1:Nat):Int):=wrap_add2 (x:=q) (y:=1) rfl zu4
      clear h ho x1 x2 hk hT2 hol hbm hd
      go_wp2_with fail
      refine (I.out _).mono ?_
      rintro e w2 ⟨rfl,hb⟩
      replace HB:=Lib.hid (HB.out.trans (hb.mono HB.out.size))
      clear hb
      go_wp2_with fail
      refine (G.out _).mono ?_
      rintro e w3 ⟨rfl,hb⟩
      replace HB:=Lib.hid (HB.out.trans (hb.mono HB.out.size))
      clear hb
      go_wp2_with fail
      go_roundw
      case rel=>exact ⟨q+1,by go_num,zu4,zu4,HB,HE⟩
      case measure=>simp [intOf];omega
  ·have hie:i=a.size:=by omega
   have q9:decide ((i:Int)<(a.size:Int))=false:=decide_eq_false zu4
   have HE:Hid (p+txN (s.drop p)=a.size):=Lib.hid (by
    rw [HT.out,hie,HSZ.out,List.drop_length];rfl)
   go_wp2_with fail
   go_ret
   exact ⟨by rw [HE.out];rfl,HB.out⟩
end Hand
end

section
namespace Hand
open Go Go.RowKit Pl Pb Sa Si Go.Proofs.YtclkdmmgibgamaaGreatDoor.Pure YtclkdmmgibgamaaGreatDoorW.PrintWords
theorem txRead_c (s:List UInt8) (p:Nat) (hs:s.length≤100000) (hp:p≤s.length) (w:World) (hGl:Glob w) :
  Calls Tryz.prog 77 #[.string (B s),.int .i64 (p:Int)] w fun e w'=>e = .returned (.tuple #[.string (B (rdL false ((s.drop p).take (txN (s.drop p))))),.int .i64 ((p+txN (s.drop p):Nat):Int)])∧Below w.heap.size w w':=by
 have NX:=Lib.hid (fun W=>txNext_c s p hs hp W)
 have IN:=Lib.hid (fun W=>inside_c s p hs hp W)
 have hl:=txN_le (s.drop p)
 rw [List.length_drop] at hl
 obtain ⟨n,hn⟩:∃ n,p+txN (s.drop p)=n:=⟨_,rfl⟩
 have RD:Hid (∀ W,Glob W→Calls Tryz.prog 113 #[.string ((B s).extract p n),.bool false] W fun e w'=>e = .returned (.string (B (rdL false ((s.drop p).take (txN (s.drop p))))))∧Below W.heap.size W w'):=Lib.hid (fun W hG=>by
  rw [B_extract,← hn,List.drop_take,Nat.add_sub_cancel_left]
  exact rdecode_c _ false (by rw [List.length_take,List.length_drop];omega) W hG hG.toE)
 obtain ⟨R,hR⟩:∃ R,B (rdL false ((s.drop p).take (txN (s.drop p))))=R:=⟨_,rfl⟩
 rw [hR] at RD ⊢
 rw [hn] at NX ⊢
 have hz:(B s).size=s.length:=size_B s
 obtain ⟨a,ha⟩:∃ a,B s=a:=⟨_,rfl⟩
 rw [ha] at NX IN RD hz ⊢
 have i1:(0:Int)≤(p:Int):=by omega
 have i2:(p:Int)≤(n:Int):=by omega
 have i3:(n:Int)≤(a.size:Int):=by omega
 have HG:=Lib.hid hGl
 clear hR hn ha hl hz hGl
 go_enter Tryz.func77,Tryz.ntmps77
 go_wp2_with fail
 refine (NX.out _).mono ?_
 rintro e w1 ⟨rfl,hb⟩
 have HB:=Lib.hid hb
 clear hb
 go_wp2_with fail
 refine (IN.out _).mono ?_
 rintro e w2 ⟨rfl,hb⟩
 replace HB:=Lib.hid (HB.out.trans (hb.mono HB.out.size))
 clear hb
 go_wp2_with fail
 refine (RD.out _ (HG.out.step HB.out)).mono ?_
 rintro e w3 ⟨rfl,hb⟩
 replace HB:=Lib.hid (HB.out.trans (hb.mono HB.out.size))
 clear hb
 go_wp2_with fail
 go_ret2
 exact ⟨rfl,HB.out⟩
end Hand
end

section
namespace Hand
open Go.RowKit K0 Pl YtclkdmmgibgamaaGreatDoorW.PrintWords YtclkdmmgibgamaaGreatDoorW.PrintLast YtclkdmmgibgamaaGreatDoorW.PrintMore
theorem cells9:Tryz.prog.cellsOf 9=1:=by kernel_rfl
theorem plain9:Tryz.prog.plainKey 9=true:=by kernel_rfl
theorem wrapId {n:Int} (h0 : -9223372036854775808≤n) (h:n<9223372036854775808):wrap64 n=n:=by unfold wrap64;omega
structure Tok (b:Nat) (v:Array Value) (W:World):Prop where
 cell:∀ j,j<5→W.cell? ⟨b,j,none⟩=v[j]?
 open_:∀ j,W.frozen? ⟨b,j,none⟩=false
theorem Tok.of_alloc (v:Array Value) (t:TypeId) (w:World):Tok w.heap.size v (w.alloc (.cells v t)) :=
 ⟨fun j _=>World.cell?_alloc_at v t _ j rfl,fun j=>World.frozen?_alloc_at v t _ j rfl⟩
theorem Tok.below {b:Nat} {v:Array Value} {W W':World} (h:Tok b v W) {n:Nat} (hb:Below n W W') (hn:b<n):Tok b v W' :=
 ⟨fun j hj=>(hb.cell (p:=⟨b,j,none⟩) hn).trans (h.cell j hj),fun j=>(hb.frozen (p:=⟨b,j,none⟩) hn).trans (h.open_ j)⟩
def putTok (W:World) (b:Nat) (x0 x1 x2 x3 x4:Value):World :=
 ((((W.setCell ⟨b,0,none⟩ x0).setCell ⟨b,1,none⟩ x1).setCell ⟨b,2,none⟩ x2).setCell ⟨b,3,none⟩ x3).setCell ⟨b,4,none⟩ x4
theorem put_below {w W:World} (b:Nat) (hb:w.heap.size≤b) (h:Below w.heap.size w W) (x0 x1 x2 x3 x4:Value):Below w.heap.size w (putTok W b x0 x1 x2 x3 x4) :=
 ((((h.setCell hb _).setCell hb _).setCell hb _).setCell hb _).setCell hb _
section
variable {b : Nat} {y0 y1 y2 y3 y4 : Value} {W : World} (h : Tok b #[y0, y1, y2, y3, y4] W)
include h
theorem Tok.f1 (x0:Value):(W.setCell ⟨b,0,none⟩ x0).cell? ⟨b,1,none⟩=some y1:=by rw [World.cell?_setCell_other _ _ _ _ (ne_off zu15),h.cell 1 zu15];rfl
theorem Tok.f2 (x0 x1:Value):((W.setCell ⟨b,0,none⟩ x0).setCell ⟨b,1,none⟩ x1).cell? ⟨b,2,none⟩=some y2:=by
 rw [World.cell?_setCell_other _ _ _ _ (ne_off zu15),World.cell?_setCell_other _ _ _ _ (ne_off zu15),h.cell 2 zu15];rfl
theorem Tok.f3 (x0 x1 x2:Value):(((W.setCell ⟨b,0,none⟩ x0).setCell ⟨b,1,none⟩ x1).setCell ⟨b,2,none⟩ x2).cell? ⟨b,3,none⟩=some y3:=by
 rw [World.cell?_setCell_other _ _ _ _ (ne_off zu15),World.cell?_setCell_other _ _ _ _ (ne_off zu15),World.cell?_setCell_other _ _ _ _ (ne_off zu15),h.cell 3 zu15];rfl
theorem Tok.f4 (x0 x1 x2 x3:Value):((((W.setCell ⟨b,0,none⟩ x0).setCell ⟨b,1,none⟩ x1).setCell ⟨b,2,none⟩ x2).setCell ⟨b,3,none⟩ x3).cell? ⟨b,4,none⟩=some y4:=by
 rw [World.cell?_setCell_other _ _ _ _ (ne_off zu15),World.cell?_setCell_other _ _ _ _ (ne_off zu15),World.cell?_setCell_other _ _ _ _ (ne_off zu15),World.cell?_setCell_other _ _ _ _ (ne_off zu15),h.cell 4 zu15];rfl
end
theorem Tok.put {b:Nat} {y0 y1 y2 y3 y4:Value} {W:World} (h:Tok b #[y0,y1,y2,y3,y4] W) (x0 x1 x2 x3 x4:Value):Tok b #[x0,x1,x2,x3,x4] (putTok W b x0 x1 x2 x3 x4):=by
 unfold putTok
 refine ⟨fun j hj => ?_,fun j=>by simp only [World.frozen?_setCell];exact h.open_ j⟩
 match j,hj with
 | 0,_ =>
   rw [World.cell?_setCell_other _ _ _ _ (ne_off zu15),World.cell?_setCell_other _ _ _ _ (ne_off zu15),World.cell?_setCell_other _ _ _ _ (ne_off zu15),World.cell?_setCell_other _ _ _ _ (ne_off zu15),World.cell?_setCell_same _ _ _ (h.cell 0 zu15)];rfl
 | 1,_ =>
   rw [World.cell?_setCell_other _ _ _ _ (ne_off zu15),World.cell?_setCell_other _ _ _ _ (ne_off zu15),World.cell?_setCell_other _ _ _ _ (ne_off zu15),World.cell?_setCell_same _ _ _ (h.f1 _)];rfl
 | 2,_ =>
   rw [World.cell?_setCell_other _ _ _ _ (ne_off zu15),World.cell?_setCell_other _ _ _ _ (ne_off zu15),World.cell?_setCell_same _ _ _ (h.f2 _ _)];rfl
 | 3,_ =>
   rw [World.cell?_setCell_other _ _ _ _ (ne_off zu15),World.cell?_setCell_same _ _ _ (h.f3 _ _ _)];rfl
 | 4,_ =>
   rw [World.cell?_setCell_same _ _ _ (h.f4 _ _ _ _)];rfl
theorem Tok.load {b:Nat} {x0 x1 x2 x3 x4:Value} {W:World} (h:Tok b #[x0,x1,x2,x3,x4] W):(loadVar 30 ⟨b,0,none⟩).run Tryz.prog W = .ok (.agg #[x0,x1,x2,x3,x4]) W:=by
 have hl:(loadCells ⟨b,0,none⟩ [x0,x1,x2,x3,x4].length).run Tryz.prog W = .ok [x0,x1,x2,x3,x4].toArray W :=
  run_loadCells_list (P:=Tryz.prog) W ⟨b,0,none⟩ [x0,x1,x2,x3,x4] (fun j v hv=>by
   have hadd:(⟨b,0,none⟩:Addr).add j=⟨b,j,none⟩:=by unfold Addr.add;split<;>simp_all
   have hj:j<5:=by
    rcases Nat.lt_or_ge j 5 with h'|h'
    ·exact h'
    ·rw [List.getElem?_eq_none (by simpa using h')] at hv;cases hv
   rw [hadd,h.cell j hj,← hv];simp)
 have hagg:(isAgg 30).run Tryz.prog W = .ok true W:=by
  unfold isAgg
  rw [Sem.run_bind,run_underlying Tryz.underlying30 W]
  rfl
 obtain ⟨i,hi⟩:=info_of_underlying (P:=Tryz.prog) Tryz.underlying30
 have hc:Tryz.prog.cellsOf 30=5:=by kernel_rfl
 have hsz:=run_sizeOf (P:=Tryz.prog) W hi
 rw [hc] at hsz
 unfold loadVar
 rw [Sem.run_bind,hagg]
 simp only [Result.andThen_ok,if_true,Sem.run_bind,hsz]
 rw [show (5:Nat)=[x0,x1,x2,x3,x4].length from rfl,hl]
 rfl
theorem results_ctt {P:Program} {fn:Func} {p u v:Tmp} {ty:TypeId} {b:Nat} {X:Value} {tmps:Array Value} {w:World} (h:fn.results = #[.cell p ty,.tmp u,.tmp v]) (hp:tmps.getD p undef = .pointer (some ⟨b,0,none⟩))
  (hl:(loadVar ty ⟨b,0,none⟩).run P w = .ok X w):(results fn tmps).run P w = .ok (.tuple #[X,tmps.getD u undef,tmps.getD v undef]) w:=by
 have hp':tmps[p]?.getD undef = .pointer (some ⟨b,0,none⟩):=by simpa using hp
 simp only [results,h]
 first|simp [Result.andThen,hp',asAddr,hl]|simp [Sem.run_bind,Result.andThen,hp',asAddr,hl]
theorem hg_split {α:Type} {p:Prop} [Decidable p] {x:Option α} {r:α} (h:(if p then x else none)=some r):p∧x=some r:=by
 by_cases hp:p
 ·rw [if_pos hp] at h;exact ⟨hp,h⟩
 ·rw [if_neg hp] at h;cases h
theorem tup7 {α β γ δ ε ζ η:Type} {a a':α} {b b':β} {c c':γ} {d d':δ} {e e':ε} {f f':ζ} {g g':η} (h:some (a,b,c,d,e,f,g)=some (a',b',c',d',e',f',g')) :
  a=a'∧b=b'∧c=c'∧d=d'∧e=e'∧f=f'∧g=g':=by
 simp only [Option.some.injEq,Prod.mk.injEq] at h;exact h
def T0:Array Value := #[.int .i64 0,.string ⟨#[]⟩,.string ⟨#[]⟩,.slice none 0 0,.bool false]
end Hand
end

section
namespace Hand
open Go.RowKit Pl Sa YtclkdmmgibgamaaGreatDoorW.PrintWords YtclkdmmgibgamaaGreatDoorW.PrintLast YtclkdmmgibgamaaGreatDoorW.PrintMore
theorem arr83:Tryz.prog.underlying 176=some (.array 2 9):=by kernel_rfl
theorem arr84:Tryz.prog.underlying 177=some (.array 3 9):=by kernel_rfl
theorem ix2_0 (a b:ByteArray) (W:World):(Instr.index 176 (.agg #[.string a,.string b]) (.int .i64 0)).run Tryz.prog W = .ok (.string a) W:=by
 obtain ⟨i,hi⟩:=info_of_underlying (P:=Tryz.prog) Tryz.underlying9
 exact run_index_agg (j:=0) arr83 hi cells9 plain9 zu4 rfl
theorem ix2_1 (a b:ByteArray) (W:World):(Instr.index 176 (.agg #[.string a,.string b]) (.int .i64 1)).run Tryz.prog W = .ok (.string b) W:=by
 obtain ⟨i,hi⟩:=info_of_underlying (P:=Tryz.prog) Tryz.underlying9
 exact run_index_agg (j:=1) arr83 hi cells9 plain9 zu4 rfl
theorem ix3_0 (a b c:ByteArray) (W:World):(Instr.index 177 (.agg #[.string a,.string b,.string c]) (.int .i64 0)).run Tryz.prog W = .ok (.string a) W:=by
 obtain ⟨i,hi⟩:=info_of_underlying (P:=Tryz.prog) Tryz.underlying9
 exact run_index_agg (j:=0) arr84 hi cells9 plain9 zu4 rfl
theorem ix3_1 (a b c:ByteArray) (W:World):(Instr.index 177 (.agg #[.string a,.string b,.string c]) (.int .i64 1)).run Tryz.prog W = .ok (.string b) W:=by
 obtain ⟨i,hi⟩:=info_of_underlying (P:=Tryz.prog) Tryz.underlying9
 exact run_index_agg (j:=1) arr84 hi cells9 plain9 zu4 rfl
theorem ix3_2 (a b c:ByteArray) (W:World):(Instr.index 177 (.agg #[.string a,.string b,.string c]) (.int .i64 2)).run Tryz.prog W = .ok (.string c) W:=by
 obtain ⟨i,hi⟩:=info_of_underlying (P:=Tryz.prog) Tryz.underlying9
 exact run_index_agg (j:=2) arr84 hi cells9 plain9 zu4 rfl
def cutV (s e0 e1:ByteArray) (k0 k1:Int):ByteArray×Int×Bool :=
 if 0≤k0 then (if 0≤k1∧k1<k0 then (s.extract 0 k1.toNat,k1+(e1.size:Int),true) else (s.extract 0 k0.toNat,k0+(e0.size:Int),true))
 else if 0≤k1 then (s.extract 0 k1.toNat,k1+(e1.size:Int),true) else (⟨#[]⟩,(s.size:Int),false)
theorem cut_any (s e0 e1:ByteArray) (w:World) (hs:s.size≤1000000000) (h0:e0.size≤1000) (h1:e1.size≤1000) (hGl:Glob w) :
  Calls Tryz.prog 149 #[.string s,.agg #[.string e0,.string e1]] w fun e w' =>
   e = .returned (.tuple #[.string (cutV s e0 e1 (Lib.index s.data.toList e0.data.toList) (Lib.index s.data.toList e1.data.toList)).1,.int .i64 (cutV s e0 e1 (Lib.index s.data.toList e0.data.toList) (Lib.index s.data.toList e1.data.toList)).2.1,
     .bool (cutV s e0 e1 (Lib.index s.data.toList e0.data.toList) (Lib.index s.data.toList e1.data.toList)).2.2])∧Below w.heap.size w w':=by
 have CA:∀ (x:ByteArray) (W:World),Glob W→Calls Tryz.prog 119 #[.string s,.string x] W fun e w'=>e = .returned (.int .i64 (Lib.index s.data.toList x.data.toList))∧w'=W:=by
  intro x W hG
  obtain ⟨m,hm⟩:=hG.out
  exact Tryz.strings_Index s x m W zu4 hm
 have hG2:Glob (w.alloc (.cells #[.string e0,.string e1] 176)):=hGl.step (Below.alloc (Below.refl _ _) (Nat.le_refl _) _)
 have C0:=Lib.hid (CA e0 _ hG2)
 have C1:=Lib.hid (CA e1 _ hG2)
 clear CA hG2 hGl
 have I0:=ix2_0 e0 e1
 have I1:=ix2_1 e0 e1
 have b0:=Lib.index_ge s.data.toList e0.data.toList
 have b1:=Lib.index_ge s.data.toList e1.data.toList
 have t0:=Lib.index_le s.data.toList e0.data.toList
 have t1:=Lib.index_le s.data.toList e1.data.toList
 rw [Array.length_toList] at t0 t1
 obtain ⟨k0,hk0⟩:∃ k0,Lib.index s.data.toList e0.data.toList=k0:=⟨_,rfl⟩
 obtain ⟨k1,hk1⟩:∃ k1,Lib.index s.data.toList e1.data.toList=k1:=⟨_,rfl⟩
 rw [hk0] at C0 b0 t0
 rw [hk1] at C1 b1 t1
 rw [hk0,hk1]
 clear hk0 hk1
 have z:s.data.size=s.size:=rfl
 rw [z] at t0 t1
 clear z
 obtain ⟨V,hV0⟩:∃ V,cutV s e0 e1 k0 k1=V:=⟨_,rfl⟩
 rw [hV0]
 have hV:=Lib.hid hV0
 clear hV0
 go_enter Tryz.func149,Tryz.ntmps149
 go_wp2_with fail
 refine wp_loop_rounds 3 ?_
 rw [rounds_succ]
 go_wp2_with fail
 refine C0.out.mono ?_
 rintro e w1 ⟨rfl,rfl⟩
 clear C0 I0
 by_cases c0:0≤k0
 ·have c0':¬ k0<0:=by omega
  have w0:wrap64 (k0+(e0.size:Int))=k0+(e0.size:Int):=wrapId zu4 zu4
  go_wp2_with fail
  rw [rounds_succ]
  go_wp2_with fail
  refine C1.out.mono ?_
  rintro e w1 ⟨rfl,rfl⟩
  clear C1 I1
  by_cases c1:0≤k1
  ·have w1:wrap64 (k1+(e1.size:Int))=k1+(e1.size:Int):=wrapId zu4 zu4
   by_cases c2:k1<k0
   ·have c1':¬ k1<0:=by omega
    go_wp2_with fail
    rw [rounds_succ]
    go_wp2_with fail
    go_ret3
    refine ⟨?_,Below.alloc (Below.refl _ _) (Nat.le_refl _) _⟩
    rw [← hV.out]
    unfold cutV
    rw [if_pos zu4,if_pos zu4]
    rfl
   ·have c1':¬ k1<0:=by omega
    go_wp2_with fail
    rw [rounds_succ]
    go_wp2_with fail
    go_ret3
    refine ⟨?_,Below.alloc (Below.refl _ _) (Nat.le_refl _) _⟩
    rw [← hV.out]
    unfold cutV
    rw [if_pos zu4,if_neg zu4]
    rfl
  ·have c1':k1<0:=by omega
   go_wp2_with fail
   rw [rounds_succ]
   go_wp2_with fail
   go_ret3
   refine ⟨?_,Below.alloc (Below.refl _ _) (Nat.le_refl _) _⟩
   rw [← hV.out]
   unfold cutV
   rw [if_pos zu4,if_neg zu4]
   rfl
 ·have c0':k0<0:=by omega
  go_wp2_with fail
  rw [rounds_succ]
  go_wp2_with fail
  refine C1.out.mono ?_
  rintro e w1 ⟨rfl,rfl⟩
  clear C1 I1
  by_cases c1:0≤k1
  ·have w1:wrap64 (k1+(e1.size:Int))=k1+(e1.size:Int):=wrapId zu4 zu4
   have c1':¬ k1<0:=by omega
   go_wp2_with fail
   rw [rounds_succ]
   go_wp2_with fail
   go_ret3
   refine ⟨?_,Below.alloc (Below.refl _ _) (Nat.le_refl _) _⟩
   rw [← hV.out]
   unfold cutV
   rw [if_neg zu4,if_pos zu4]
   rfl
  ·have c1':k1<0:=by omega
   go_wp2_with fail
   rw [rounds_succ]
   go_wp2_with fail
   go_ret3
   refine ⟨?_,Below.alloc (Below.refl _ _) (Nat.le_refl _) _⟩
   rw [← hV.out]
   unfold cutV
   rw [if_neg zu4,if_neg zu4]
   rfl
def idx (s e:ByteArray):Int:=Lib.index s.data.toList e.data.toList
def cutW (s e0 e1:ByteArray):ByteArray×Int×Bool:=cutV s e0 e1 (idx s e0) (idx s e1)
theorem cut_c (s e0 e1:ByteArray) (w:World) (hs:s.size≤1000000000) (h0:e0.size≤1000) (h1:e1.size≤1000) (hGl:Glob w) :
  Calls Tryz.prog 149 #[.string s,.agg #[.string e0,.string e1]] w fun e w'=>e = .returned (.tuple #[.string (cutW s e0 e1).1,.int .i64 (cutW s e0 e1).2.1,.bool (cutW s e0 e1).2.2])∧Below w.heap.size w w' :=
 cut_any s e0 e1 w hs h0 h1 hGl
def cotherV (s:ByteArray):ByteArray×Int:=if (cutW s ⟨#[62]⟩ ⟨#[62]⟩).2.2=true then ((cutW s ⟨#[62]⟩ ⟨#[62]⟩).1,(cutW s ⟨#[62]⟩ ⟨#[62]⟩).2.1) else (s,(s.size:Int))
theorem cother_any (s:ByteArray) (w:World) (hs:s.size≤1000000000) (hGl:Glob w) :
  Calls Tryz.prog 109 #[.string s] w fun e w'=>e = .returned (.tuple #[.string (cotherV s).1,.int .i64 (cotherV s).2])∧Below w.heap.size w w':=by
 have C:=Lib.hid (cut_c s ⟨#[62]⟩ ⟨#[62]⟩ w hs zu15 zu15 hGl)
 have hV:=Lib.hid (show cotherV s=if (cutW s ⟨#[62]⟩ ⟨#[62]⟩).2.2=true then ((cutW s ⟨#[62]⟩ ⟨#[62]⟩).1,(cutW s ⟨#[62]⟩ ⟨#[62]⟩).2.1) else (s,(s.size:Int)) from rfl)
 generalize cotherV s=V at hV ⊢
 obtain ⟨⟨c1,c2,c3⟩,hc⟩:∃ c,cutW s ⟨#[62]⟩ ⟨#[62]⟩=c:=⟨_,rfl⟩
 rw [hc] at C hV
 clear hc
 simp only at C hV
 go_enter Tryz.func109,Tryz.ntmps109
 go_wp2_with fail
 refine C.out.mono ?_
 rintro e w1 ⟨rfl,hb⟩
 clear C
 cases c3 with
 | true =>
   go_wp2_with fail
   go_ret2
   refine ⟨?_,hb⟩
   have:=hV.out
   rw [if_pos zu19] at this
   rw [this];rfl
 | false =>
   go_wp2_with fail
   go_ret2
   refine ⟨?_,hb⟩
   have:=hV.out
   rw [if_neg zu15] at this
   rw [this];rfl
def pre (s p:ByteArray):Bool:=Lib.hasPrefix s.data.toList p.data.toList
def suf (s p:ByteArray):Bool:=Lib.hasSuffix s.data.toList p.data.toList
def trimS (s p:ByteArray):ByteArray:=⟨(Lib.trimSuffix s.data.toList p.data.toList).toArray⟩
def plainV (s:ByteArray):ByteArray×Int :=
 if pre s ⟨#[62]⟩=true then (⟨#[]⟩,1) else if pre s ⟨#[45,62]⟩=true then (⟨#[]⟩,2)
 else if (cutW s ⟨#[45,45,62]⟩ ⟨#[45,45,33,62]⟩).2.2=true then ((cutW s ⟨#[45,45,62]⟩ ⟨#[45,45,33,62]⟩).1,(cutW s ⟨#[45,45,62]⟩ ⟨#[45,45,33,62]⟩).2.1)
 else if suf s ⟨#[45,45,33]⟩=true then (trimS s ⟨#[45,45,33]⟩,(s.size:Int))
 else if suf s ⟨#[45,45]⟩=true then (trimS s ⟨#[45,45]⟩,(s.size:Int))
 else if suf s ⟨#[45]⟩=true then (trimS s ⟨#[45]⟩,(s.size:Int)) else (s,(s.size:Int))
theorem plain_any (s:ByteArray) (w:World) (hs:s.size≤1000000000) (hGl:Glob w) :
  Calls Tryz.prog 110 #[.string s] w fun e w'=>e = .returned (.tuple #[.string (plainV s).1,.int .i64 (plainV s).2])∧Below w.heap.size w w':=by
 have C:=Lib.hid (cut_c s ⟨#[45,45,62]⟩ ⟨#[45,45,33,62]⟩ w hs zu15 zu15 hGl)
 have P0:=Lib.hid (show Calls Tryz.prog 47 #[.string s,.string ⟨#[62]⟩] w fun e w'=>e = .returned (.bool (pre s ⟨#[62]⟩))∧w'=w from Tryz.strings_HasPrefix s ⟨#[62]⟩ w)
 have P1:=Lib.hid (show Calls Tryz.prog 47 #[.string s,.string ⟨#[45,62]⟩] w fun e w'=>e = .returned (.bool (pre s ⟨#[45,62]⟩))∧w'=w from Tryz.strings_HasPrefix s ⟨#[45,62]⟩ w)
 have SA:∀ (p:ByteArray) (W:World),Calls Tryz.prog 150 #[.string s,.string p] W fun e w'=>e = .returned (.tuple #[.string (trimS s p),.bool (suf s p)])∧w'=W:=fun p W=>Tryz.strings_CutSuffix s p W zu4
 have S0:=Lib.hid (SA ⟨#[45,45,33]⟩)
 have S1:=Lib.hid (SA ⟨#[45,45]⟩)
 have S2:=Lib.hid (SA ⟨#[45]⟩)
 clear SA
 have I0:=ix2_0 ⟨#[62]⟩ ⟨#[45,62]⟩
 have I1:=ix2_1 ⟨#[62]⟩ ⟨#[45,62]⟩
 have J0:=ix3_0 ⟨#[45,45,33]⟩ ⟨#[45,45]⟩ ⟨#[45]⟩
 have J1:=ix3_1 ⟨#[45,45,33]⟩ ⟨#[45,45]⟩ ⟨#[45]⟩
 have J2:=ix3_2 ⟨#[45,45,33]⟩ ⟨#[45,45]⟩ ⟨#[45]⟩
 have hV0:plainV s=plainV s:=rfl
 conv at hV0=>rhs;unfold plainV
 generalize plainV s=V at hV0 ⊢
 generalize pre s ⟨#[62]⟩=p0 at P0 hV0
 generalize pre s ⟨#[45,62]⟩=p1 at P1 hV0
 generalize suf s ⟨#[45,45,33]⟩=s0 at S0 hV0
 generalize suf s ⟨#[45,45]⟩=s1 at S1 hV0
 generalize suf s ⟨#[45]⟩=s2 at S2 hV0
 generalize trimS s ⟨#[45,45,33]⟩=t0 at S0 hV0
 generalize trimS s ⟨#[45,45]⟩=t1 at S1 hV0
 generalize trimS s ⟨#[45]⟩=t2 at S2 hV0
 obtain ⟨⟨c1,c2,c3⟩,hc⟩:∃ c,cutW s ⟨#[45,45,62]⟩ ⟨#[45,45,33,62]⟩=c:=⟨_,rfl⟩
 rw [hc] at C hV0
 clear hc
 simp only at C hV0
 have hV:=Lib.hid hV0
 clear hV0
 go_enter Tryz.func110,Tryz.ntmps110
 go_wp2_with fail
 refine wp_loop_rounds 3 ?_
 rw [rounds_succ]
 go_wp2_with fail
 refine P0.out.mono ?_
 rintro e w1 ⟨rfl,rfl⟩
 clear P0 I0
 cases p0 with
 | true =>
   go_wp2_with fail
   go_ret2
   refine ⟨?_,Below.refl _ _⟩
   rw [hV.out,if_pos zu19];rfl
 | false =>
   go_wp2_with fail
   rw [rounds_succ]
   go_wp2_with fail
   refine P1.out.mono ?_
   rintro e w1 ⟨rfl,rfl⟩
   clear P1 I1
   cases p1 with
   | true =>
     go_wp2_with fail
     go_ret2
     refine ⟨?_,Below.refl _ _⟩
     rw [hV.out,if_neg zu15,if_pos zu19];rfl
   | false =>
     go_wp2_with fail
     rw [rounds_succ]
     go_wp2_with fail
     refine C.out.mono ?_
     rintro e w1 ⟨rfl,hb⟩
     clear C
     cases c3 with
     | true =>
       go_wp2_with fail
       go_ret2
       refine ⟨?_,hb⟩
       rw [hV.out,if_neg zu15,if_neg zu15,if_pos zu19];rfl
     | false =>
       go_wp2_with fail
       refine wp_loop_rounds 4 ?_
       rw [rounds_succ]
       go_wp2_with fail
       refine (S0.out _).mono ?_
       rintro e w2 ⟨rfl,rfl⟩
       clear S0 J0
       cases s0 with
       | true =>
         go_wp2_with fail
         go_ret2
         refine ⟨?_,hb⟩
         rw [hV.out,if_neg zu15,if_neg zu15,if_neg zu15,if_pos zu19];rfl
       | false =>
         go_wp2_with fail
         rw [rounds_succ]
         go_wp2_with fail
         refine (S1.out _).mono ?_
         rintro e w2 ⟨rfl,rfl⟩
         clear S1 J1
         cases s1 with
         | true =>
           go_wp2_with fail
           go_ret2
           refine ⟨?_,hb⟩
           rw [hV.out,if_neg zu15,if_neg zu15,if_neg zu15,if_neg zu15,if_pos zu19];rfl
         | false =>
           go_wp2_with fail
           rw [rounds_succ]
           go_wp2_with fail
           refine (S2.out _).mono ?_
           rintro e w2 ⟨rfl,rfl⟩
           clear S2 J2
           cases s2 with
           | true =>
             go_wp2_with fail
             go_ret2
             refine ⟨?_,hb⟩
             rw [hV.out,if_neg zu15,if_neg zu15,if_neg zu15,if_neg zu15,if_neg zu15,if_pos zu19];rfl
           | false =>
             go_wp2_with fail
             rw [rounds_succ]
             go_wp2_with fail
             go_ret2
             refine ⟨?_,hb⟩
             rw [hV.out,if_neg zu15,if_neg zu15,if_neg zu15,if_neg zu15,if_neg zu15,if_neg zu15];rfl
end Hand
namespace Hand
open Go.RowKit K0 Pl Sa YtclkdmmgibgamaaGreatDoorW.PrintWords YtclkdmmgibgamaaGreatDoorW.PrintLast YtclkdmmgibgamaaGreatDoorW.PrintMore
def comment_Read.g (a0:ByteArray) (fr:Int) (V:ByteArray→ByteArray×Int):Option (Int×ByteArray×ByteArray×(List S105)×Bool×Int×Bool) :=
 if 0≤fr∧fr≤(a0.size:Int) then (lines_Clean.f (V (a0.extract fr.toNat a0.size)).1).bind fun t=>some (3,(⟨#[]⟩:ByteArray),t,([]:List S105),false,wrap64 (fr+(V (a0.extract fr.toNat a0.size)).2),true) else none
def comment_Read.f (a0:ByteArray) (a1:Int):Option (Int×ByteArray×ByteArray×(List S105)×Bool×Int×Bool) :=
 if a0.size≤1000000000 then (comment_Begins.f a0 a1).bind fun b =>
  if b=true then (sign_Begins.f a0 a1 ⟨#[60,33,45,45]⟩).bind fun c =>
   if c=true then comment_Read.g a0 (wrap64 (a1+4)) plainV
   else (sign_Begins.f a0 a1 ⟨#[60,63]⟩).bind fun d=>if d=true then comment_Read.g a0 (wrap64 (a1+1)) cotherV else comment_Read.g a0 (wrap64 (a1+2)) cotherV
  else some (0,(⟨#[]⟩:ByteArray),(⟨#[]⟩:ByteArray),([]:List S105),false,a1,false)
 else none
theorem comment_Read.exact (a0:ByteArray) (a1:Int) (r1:Int) (r2:ByteArray) (r3:ByteArray) (r4:List (S105)) (r5:Bool) (r6:Int) (r7:Bool) (w:World) (hGl:Glob w) (h:comment_Read.f a0 a1=some (r1,r2,r3,r4,r5,r6,r7)) :
  Calls Tryz.prog 73 #[.string a0,.int .i64 a1] w fun e w'=>e = .returned (.tuple #[.agg #[.int .i64 r1,.string r2,.string r3,.slice none 0 0,.bool r5],.int .i64 r6,.bool r7])∧r4=[]∧Below w.heap.size w w':=by
 have hu35:=Tryz.underlying30
 unfold comment_Read.f at h
 obtain ⟨hsize,h⟩:=hg_split h
 obtain ⟨b,hb,h⟩:=Option.bind_eq_some_iff.1 h
 have H:=Lib.hid h
 clear h
 have CB:=Lib.hid (fun W=>comment_Begins.calls a0 a1 b W hb)
 clear hb
 have hT:=Lib.hid (Tok.of_alloc T0 30 w)
 have hB0:=Lib.hid (Below.alloc (Below.refl w.heap.size w) (Nat.le_refl _) (.cells T0 30))
 have hsz:w.heap.size<(w.alloc (.cells T0 30)).heap.size:=by simp
 go_enter Tryz.func73,Tryz.ntmps73
 go_wp2_with fail
 refine (CB.out _).mono ?_
 rintro e w1 ⟨rfl,hb1⟩
 clear CB
 have hT1:=Lib.hid (hT.out.below hb1 hsz)
 have hB1:=Lib.hid (hB0.out.trans (hb1.mono (Nat.le_of_lt hsz)))
 have hl1:=Nat.lt_of_lt_of_le hsz hb1.size
 clear hb1 hsz hT hB0
 cases b with
 | false =>
   have H:=H.out
   rw [if_neg zu19] at H
   obtain ⟨rfl,rfl,rfl,rfl,rfl,rfl,rfl⟩:=tup7 H
   clear H
   have q0:w1.cell? ⟨w.heap.size,0,none⟩=some (.int .i64 0):=hT1.out.cell 0 zu15
   have q1:=Tok.f1 hT1.out
   have q2:=Tok.f2 hT1.out
   have q3:=Tok.f3 hT1.out
   have q4:=Tok.f4 hT1.out
   have q5:∀ j,w1.frozen? ⟨w.heap.size,j,none⟩=false:=hT1.out.open_
   go_wp2_with fail
   refine bodyPost_ret (results_ctt rfl rfl (Tok.load (hT1.out.put _ _ _ _ _))) rfl ?_
   first|exact ⟨rfl,rfl,put_below _ (Nat.le_refl _) hB1.out _ _ _ _ _⟩|exact ⟨rfl,put_below _ (Nat.le_refl _) hB1.out _ _ _ _ _⟩
 | true =>
   replace H:=H.out
   rw [if_pos zu19] at H
   obtain ⟨c,hc,H0⟩:=Option.bind_eq_some_iff.1 H
   clear H
   have H:=Lib.hid H0
   clear H0
   have CS:=Lib.hid (sign_Begins.calls a0 a1 ⟨#[60,33,45,45]⟩ c w1 hc)
   clear hc
   go_wp2_with fail
   refine CS.out.mono ?_
   rintro e w2 ⟨rfl,hb2⟩
   clear CS
   have hT2:=Lib.hid (hT1.out.below hb2 hl1)
   have hB2:=Lib.hid (hB1.out.trans (hb2.mono (Nat.le_of_lt hl1)))
   have hl2:=Nat.lt_of_lt_of_le hl1 hb2.size
   clear hb2 hT1 hB1 hl1
   cases c with
   | true =>
     replace H:=Lib.hid (by have:=H.out;rw [if_pos zu19] at this;exact this)
     unfold comment_Read.g at H
     obtain ⟨⟨z0,z1⟩,H⟩:=hg_split H.out
     obtain ⟨t,ht,H⟩:=Option.bind_eq_some_iff.1 H
     obtain ⟨rfl,rfl,rfl,rfl,rfl,e6,rfl⟩:=tup7 H
     have z0':=eq_true z0
     have z1':=eq_true z1
     have CV:=Lib.hid (plain_any (a0.extract (wrap64 (a1+4)).toNat a0.size) _ zu65 (hGl.step hB2.out))
     have ht:=Lib.hid ht
     obtain ⟨⟨x1,x2⟩,hx⟩:∃ x,plainV (a0.extract (wrap64 (a1+4)).toNat a0.size)=x:=⟨_,rfl⟩
     rw [hx] at CV ht e6
     clear hx
     simp only at CV ht e6
     obtain ⟨fr,hfr⟩:∃ fr,(wrap64 (a1+4))=fr:=⟨_,rfl⟩
     have hfr':(IntKind.i64.wrap (a1+4))=fr:=(i64_w _).trans hfr
     rw [hfr] at CV z0 z1 z0' z1' e6
     replace e6:=Lib.hid e6
     go_wp2_with fail
     refine CV.out.mono ?_
     rintro e w5 ⟨rfl,hb5⟩
     clear CV
     have hT5:=Lib.hid (hT2.out.below hb5 (hl2))
     have hB5:=Lib.hid (hB2.out.trans (hb5.mono (Nat.le_of_lt (hl2))))
     have hl5:=Nat.lt_of_lt_of_le (hl2) hb5.size
     have CC:=Lib.hid (lines_Clean.calls x1 t w5 (hGl.step hB5.out) ht.out)
     clear hb5 ht
     go_wp2_with fail
     refine CC.out.mono ?_
     rintro e w6 ⟨rfl,hb6⟩
     clear CC
     have hT6:=Lib.hid (hT5.out.below hb6 hl5)
     have hB6:=Lib.hid (hB5.out.trans (hb6.mono (Nat.le_of_lt hl5)))
     clear hb6 hT5 hB5
     have q0:w6.cell? ⟨w.heap.size,0,none⟩=some (.int .i64 0):=hT6.out.cell 0 zu15
     have q1:=Tok.f1 hT6.out
     have q2:=Tok.f2 hT6.out
     have q3:=Tok.f3 hT6.out
     have q4:=Tok.f4 hT6.out
     have q5:∀ j,w6.frozen? ⟨w.heap.size,j,none⟩=false:=hT6.out.open_
     go_wp2_with fail
     refine bodyPost_ret (results_ctt rfl rfl (Tok.load (hT6.out.put _ _ _ _ _))) rfl ?_
     first|refine ⟨?_,rfl,?_⟩|refine ⟨?_,?_⟩
     ·show Ending.returned (.tuple #[_,.int .i64 (wrap64 (fr+x2)),.bool true])=_
      rw [e6.out]
     ·exact put_below _ (Nat.le_refl _) hB6.out _ _ _ _ _
   | false =>
     have H0:=H.out
     rw [if_neg zu19] at H0
     clear H
     obtain ⟨d,hd,H1⟩:=Option.bind_eq_some_iff.1 H0
     clear H0
     have H:=Lib.hid H1
     clear H1
     have CD:=Lib.hid (sign_Begins.calls a0 a1 ⟨#[60,63]⟩ d w2 hd)
     clear hd
     go_wp2_with fail
     refine CD.out.mono ?_
     rintro e w3 ⟨rfl,hb3⟩
     clear CD
     have hT3:=Lib.hid (hT2.out.below hb3 hl2)
     have hB3:=Lib.hid (hB2.out.trans (hb3.mono (Nat.le_of_lt hl2)))
     have hl3:=Nat.lt_of_lt_of_le hl2 hb3.size
     clear hb3 hT2 hB2 hl2
     cases d with
     | true =>
       replace H:=Lib.hid (by have:=H.out;rw [if_pos zu19] at this;exact this)
       unfold comment_Read.g at H
       obtain ⟨⟨z0,z1⟩,H⟩:=hg_split H.out
       obtain ⟨t,ht,H⟩:=Option.bind_eq_some_iff.1 H
       obtain ⟨rfl,rfl,rfl,rfl,rfl,e6,rfl⟩:=tup7 H
       have z0':=eq_true z0
       have z1':=eq_true z1
       have CV:=Lib.hid (cother_any (a0.extract (wrap64 (a1+1)).toNat a0.size) _ zu65 (hGl.step hB3.out))
       have ht:=Lib.hid ht
       obtain ⟨⟨x1,x2⟩,hx⟩:∃ x,cotherV (a0.extract (wrap64 (a1+1)).toNat a0.size)=x:=⟨_,rfl⟩
       rw [hx] at CV ht e6
       clear hx
       simp only at CV ht e6
       obtain ⟨fr,hfr⟩:∃ fr,(wrap64 (a1+1))=fr:=⟨_,rfl⟩
       have hfr':(IntKind.i64.wrap (a1+1))=fr:=(i64_w _).trans hfr
       rw [hfr] at CV z0 z1 z0' z1' e6
       replace e6:=Lib.hid e6
       go_wp2_with fail
       refine CV.out.mono ?_
       rintro e w5 ⟨rfl,hb5⟩
       clear CV
       have hT5:=Lib.hid (hT3.out.below hb5 (hl3))
       have hB5:=Lib.hid (hB3.out.trans (hb5.mono (Nat.le_of_lt (hl3))))
       have hl5:=Nat.lt_of_lt_of_le (hl3) hb5.size
       have CC:=Lib.hid (lines_Clean.calls x1 t w5 (hGl.step hB5.out) ht.out)
       clear hb5 ht
       go_wp2_with fail
       refine CC.out.mono ?_
       rintro e w6 ⟨rfl,hb6⟩
       clear CC
       have hT6:=Lib.hid (hT5.out.below hb6 hl5)
       have hB6:=Lib.hid (hB5.out.trans (hb6.mono (Nat.le_of_lt hl5)))
       clear hb6 hT5 hB5
       have q0:w6.cell? ⟨w.heap.size,0,none⟩=some (.int .i64 0):=hT6.out.cell 0 zu15
       have q1:=Tok.f1 hT6.out
       have q2:=Tok.f2 hT6.out
       have q3:=Tok.f3 hT6.out
       have q4:=Tok.f4 hT6.out
       have q5:∀ j,w6.frozen? ⟨w.heap.size,j,none⟩=false:=hT6.out.open_
       go_wp2_with fail
       refine bodyPost_ret (results_ctt rfl rfl (Tok.load (hT6.out.put _ _ _ _ _))) rfl ?_
       first|refine ⟨?_,rfl,?_⟩|refine ⟨?_,?_⟩
       ·show Ending.returned (.tuple #[_,.int .i64 (wrap64 (fr+x2)),.bool true])=_
        rw [e6.out]
       ·exact put_below _ (Nat.le_refl _) hB6.out _ _ _ _ _
     | false =>
       replace H:=Lib.hid (by have:=H.out;rw [if_neg zu19] at this;exact this)
       unfold comment_Read.g at H
       obtain ⟨⟨z0,z1⟩,H⟩:=hg_split H.out
       obtain ⟨t,ht,H⟩:=Option.bind_eq_some_iff.1 H
       obtain ⟨rfl,rfl,rfl,rfl,rfl,e6,rfl⟩:=tup7 H
       have z0':=eq_true z0
       have z1':=eq_true z1
       have CV:=Lib.hid (cother_any (a0.extract (wrap64 (a1+2)).toNat a0.size) _ zu65 (hGl.step hB3.out))
       have ht:=Lib.hid ht
       obtain ⟨⟨x1,x2⟩,hx⟩:∃ x,cotherV (a0.extract (wrap64 (a1+2)).toNat a0.size)=x:=⟨_,rfl⟩
       rw [hx] at CV ht e6
       clear hx
       simp only at CV ht e6
       obtain ⟨fr,hfr⟩:∃ fr,(wrap64 (a1+2))=fr:=⟨_,rfl⟩
       have hfr':(IntKind.i64.wrap (a1+2))=fr:=(i64_w _).trans hfr
       rw [hfr] at CV z0 z1 z0' z1' e6
       replace e6:=Lib.hid e6
       go_wp2_with fail
       refine CV.out.mono ?_
       rintro e w5 ⟨rfl,hb5⟩
       clear CV
       have hT5:=Lib.hid (hT3.out.below hb5 (hl3))
       have hB5:=Lib.hid (hB3.out.trans (hb5.mono (Nat.le_of_lt (hl3))))
       have hl5:=Nat.lt_of_lt_of_le (hl3) hb5.size
       have CC:=Lib.hid (lines_Clean.calls x1 t w5 (hGl.step hB5.out) ht.out)
       clear hb5 ht
       go_wp2_with fail
       refine CC.out.mono ?_
       rintro e w6 ⟨rfl,hb6⟩
       clear CC
       have hT6:=Lib.hid (hT5.out.below hb6 hl5)
       have hB6:=Lib.hid (hB5.out.trans (hb6.mono (Nat.le_of_lt hl5)))
       clear hb6 hT5 hB5
       have q0:w6.cell? ⟨w.heap.size,0,none⟩=some (.int .i64 0):=hT6.out.cell 0 zu15
       have q1:=Tok.f1 hT6.out
       have q2:=Tok.f2 hT6.out
       have q3:=Tok.f3 hT6.out
       have q4:=Tok.f4 hT6.out
       have q5:∀ j,w6.frozen? ⟨w.heap.size,j,none⟩=false:=hT6.out.open_
       go_wp2_with fail
       refine bodyPost_ret (results_ctt rfl rfl (Tok.load (hT6.out.put _ _ _ _ _))) rfl ?_
       first|refine ⟨?_,rfl,?_⟩|refine ⟨?_,?_⟩
       ·show Ending.returned (.tuple #[_,.int .i64 (wrap64 (fr+x2)),.bool true])=_
        rw [e6.out]
       ·exact put_below _ (Nat.le_refl _) hB6.out _ _ _ _ _
end Hand
end

end Go.Proofs.YtclkdmmgibgamaaGreatDoor