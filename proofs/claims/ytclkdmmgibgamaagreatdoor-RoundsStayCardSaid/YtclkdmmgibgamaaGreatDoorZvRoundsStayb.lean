/-
  Texts of the claim RoundsStay, merged by a program of this session (2).
-/
import Derived.SizedLaws
import Derived.ChangeSlices
import Derived.Test.YtclkdmmgibgamaaGreatDoorZvRoundsStaya
set_option linter.unusedVariables false
set_option linter.unusedSimpArgs false
set_option maxRecDepth 100000
set_option maxHeartbeats 16000000
namespace Go.Proofs.YtclkdmmgibgamaaGreatDoor
section
namespace Hand
open Go Go.RowKit Pl Pb
def wNbsp:List UInt8:=[38,110,98,115,112,59]
def serF (q:Bool) (c:UInt8):Option (List UInt8×List UInt8) :=
 if c=38 then some ([],wAmp) else if c=194 then some ([160],wNbsp) else if c=60 then some ([],wLt) else if c=62 then some ([],wGt) else if c=34∧q=true then some ([],wQuot) else none
def serQ (q:Bool) (s:List UInt8):List UInt8:=replS (serF q) 0 s
def serL (d:Int) (s:List UInt8):List UInt8:=if d<0∨d>2 then [] else serQ (decide (d=1)) s
theorem ser_nil (q:Bool):serQ q []=[]:=rfl
theorem ser_cases (q:Bool) (c:UInt8) (r:List UInt8) (P:List UInt8→Prop)
  (h38:c=38→P (wAmp++serQ q r)) (h60:c=60→P (wLt++serQ q r)) (h62:c=62→P (wGt++serQ q r)) (h34:c=34→q=true→P (wQuot++serQ q r))
  (hm:∀ t,c=194→r=160::t→P (wNbsp++serQ q t))
  (hc:c≠38→c≠60→c≠62→(c=34→q=false)→(c=194→r.head? ≠ some 160)→P (c::serQ q r)):P (serQ q (c::r)):=by
 unfold serQ at *
 have hit:∀ {v:List UInt8},serF q c=some ([],v)→P (v++replS (serF q) 0 r)→P (replS (serF q) 0 (c::r)):=by
  intro v h hp
  rw [replS_hit h rfl];exact hp
 by_cases e1:c=38
 ·exact hit (by simp [serF,e1]) (h38 e1)
 by_cases e2:c=60
 ·exact hit (by simp [serF,e2]) (h60 e2)
 by_cases e3:c=62
 ·exact hit (by simp [serF,e3]) (h62 e3)
 by_cases e4:c=34∧q=true
 ·exact hit (by simp [serF,e4.1,e4.2]) (h34 e4.1 e4.2)
 by_cases e8:c=194
 ·have hf:serF q c=some ([160],wNbsp):=by simp [serF,e8]
  by_cases hp:[160].isPrefixOf r=true
  ·rw [replS_hit hf hp]
   obtain ⟨t,rfl⟩:=List.isPrefixOf_iff_prefix.1 hp
   exact hm t e8 rfl
  ·rw [replS_miss hf hp]
   refine hc e1 e2 e3 (fun e=>by cases q<;>simp_all) fun _ hh=>hp ?_
   cases r with
   | nil=>cases hh
   | cons d t=>simp at hh;subst hh;rfl
 ·rw [replS_none (by simp only [serF,if_neg e1,if_neg e2,if_neg e3,if_neg e4,if_neg e8])]
  exact hc e1 e2 e3 (fun e=>by cases q<;>simp_all) fun e=>absurd e e8
theorem dec_nbsp (attr:Bool) (r:List UInt8):rdL attr (wNbsp++r)=194::160::rdL attr r:=by
 have:=rdL_semi (attr:=attr) (w:=wordNbsp) r (fnd_key fnd_nbsp)
 exact this.trans (by rw [nameT_nbsp];rfl)
theorem read_ser (attr q:Bool):∀ n (s:List UInt8),s.length≤n→rdL attr (serQ q s)=s:=by
 intro n
 induction n with
 | zero=>intro s h;obtain rfl:=List.eq_nil_of_length_eq_zero (Nat.le_zero.1 h);rfl
 | succ n ih =>
   intro s h
   cases s with
   | nil=>rfl
   | cons c r =>
     simp only [List.length_cons] at h
     have hr:=ih r zu4
     refine ser_cases q c r (fun l=>rdL attr l=c::r) ?_ ?_ ?_ ?_ ?_ ?_
     ·rintro rfl;rw [dec_amp,hr]
     ·rintro rfl;rw [dec_lt,hr]
     ·rintro rfl;rw [dec_gt,hr]
     ·rintro rfl _;rw [dec_quot,hr]
     ·rintro t rfl rfl
      simp only [List.length_cons] at h
      rw [dec_nbsp,ih t zu4]
     ·intro h38 _ _ _ _
      rw [rdL_ne attr _ h38,hr]
theorem ser_no (q:Bool):∀ n (s:List UInt8),s.length≤n→(60:UInt8)∉serQ q s∧(62:UInt8)∉serQ q s∧(q=true→(34:UInt8)∉serQ q s):=by
 intro n
 induction n with
 | zero=>intro s h;obtain rfl:=List.eq_nil_of_length_eq_zero (Nat.le_zero.1 h);rw [ser_nil];simp
 | succ n ih =>
   intro s h
   cases s with
   | nil=>rw [ser_nil];simp
   | cons c r =>
     simp only [List.length_cons] at h
     obtain ⟨r1,r2,r3⟩:=ih r zu4
     refine ser_cases q c r (fun l=>(60:UInt8)∉l∧(62:UInt8)∉l∧(q=true→(34:UInt8)∉l)) ?_ ?_ ?_ ?_ ?_ ?_
     all_goals try (intro _;exact ⟨by simp [wAmp,wLt,wGt,r1],by simp [wAmp,wLt,wGt,r2],fun hq=>by simp [wAmp,wLt,wGt,r3 hq]⟩)
     ·intro _ _;exact ⟨by simp [wQuot,r1],by simp [wQuot,r2],fun hq=>by simp [wQuot,r3 hq]⟩
     ·rintro t rfl rfl
      simp only [List.length_cons] at h
      obtain ⟨t1,t2,t3⟩:=ih t zu4
      exact ⟨by simp [wNbsp,t1],by simp [wNbsp,t2],fun hq=>by simp [wNbsp,t3 hq]⟩
     ·intro h38 h60 h62 h34 _
      exact ⟨by simp [r1,Ne.symm h60],by simp [r2,Ne.symm h62],fun hq=>by
       have h34':c≠34:=fun e=>by have:=h34 e;rw [hq] at this;cases this
       simp [r3 hq,Ne.symm h34']⟩
theorem norm_ser (q:Bool):∀ n (s:List UInt8),s.length≤n→∀ b,normF b (serQ q s)=serQ q (normF b s):=by
 intro n
 induction n with
 | zero=>intro s h b;obtain rfl:=List.eq_nil_of_length_eq_zero (Nat.le_zero.1 h);rfl
 | succ n ih =>
   intro s h b
   cases s with
   | nil=>rfl
   | cons c r =>
     simp only [List.length_cons] at h
     have hr:=ih r zu4
     have hit:∀ {v:List UInt8},serF q c=some ([],v)→serQ q (c::normF false r)=v++serQ q (normF false r):=fun hv=>replS_hit hv rfl
     refine ser_cases q c r (fun l=>normF b l=serQ q (normF b (c::r))) ?_ ?_ ?_ ?_ ?_ ?_
     ·rintro rfl
      rw [show normF b (38::r)=38::normF false r by simp [normF],hit (v:=wAmp) (by simp [serF]),← hr];simp [wAmp,normF]
     ·rintro rfl
      rw [show normF b (60::r)=60::normF false r by simp [normF],hit (v:=wLt) (by simp [serF]),← hr];simp [wLt,normF]
     ·rintro rfl
      rw [show normF b (62::r)=62::normF false r by simp [normF],hit (v:=wGt) (by simp [serF]),← hr];simp [wGt,normF]
     ·rintro rfl rfl
      rw [show normF b (34::r)=34::normF false r by simp [normF],hit (v:=wQuot) (by simp [serF]),← hr];simp [wQuot,normF]
     ·rintro t rfl rfl
      simp only [List.length_cons] at h
      have ht:=ih t zu4 false
      have e:serQ q (194::160::normF false t)=wNbsp++serQ q (normF false t):=(replS_hit (f:=serF q) (c:=194) (t:=[160]) (v:=wNbsp) (by simp [serF]) zu19).trans rfl
      rw [show normF b (194::160::t)=194::160::normF false t by simp [normF],e,← ht];simp [wNbsp,normF]
     ·intro h38 h60 h62 h34 hm
      by_cases hb:b=true∧c=10
      ·rw [show normF b (c::serQ q r)=normF false (serQ q r) by simp [normF,hb.1,hb.2],show normF b (c::r)=normF false r by simp [normF,hb.1,hb.2],hr]
      ·by_cases h13:c=13
       ·subst h13
        rw [show normF b (13::serQ q r)=10::normF true (serQ q r) by simp [normF],show normF b (13::r)=10::normF true r by simp [normF],hr true]
        exact (replS_none (by simp [serF]) _).symm
       ·rw [show normF b (c::serQ q r)=c::normF false (serQ q r) by simp only [normF,if_neg hb,if_neg h13],show normF b (c::r)=c::normF false r by simp only [normF,if_neg hb,if_neg h13],hr false]
        have e4:¬ (c=34∧q=true):=fun e=>by have:=h34 e.1;rw [e.2] at this;cases this
        by_cases h194:c=194
        ·have hh:=hm h194
         have hf:serF q c=some ([160],wNbsp):=by simp [serF,h194]
         refine (replS_miss hf ?_:serQ q (c::normF false r)=_).symm
         cases r with
         | nil=>simp [normF]
         | cons d t =>
           simp only [List.head?_cons,ne_eq,Option.some.injEq] at hh
           by_cases hd:d=13
           ·subst hd;simp [normF]
           ·rw [show normF false (d::t)=d::normF false t by simp [normF,hd]]
            simp [Ne.symm hh]
        ·exact (replS_none (by simp only [serF,if_neg h38,if_neg h60,if_neg h62,if_neg e4,if_neg h194]) _).symm
theorem norm_serL (q:Bool) (s:List UInt8):normL (serQ q s)=serQ q (normL s):=norm_ser q _ s (Nat.le_refl _) false
def roundL (d:Int) (s:List UInt8):List UInt8:=if d=0 then normL s else if d=1 then cleanL (normL s) else trimN (cleanL (normL s))
theorem parse_ser (d:Int) (hd:d=0∨d=1∨d=2) (s:List UInt8):parseL d false (serL d s)=(roundL d s,true):=by
 have hno:=fun q=>ser_no q _ (normL s) (Nat.le_refl _)
 rcases hd with rfl|rfl|rfl
 ·rw [parse0,show serL 0 s=serQ false s from rfl,norm_serL,only_txt (hno false).1,read_ser _ _ _ _ (Nat.le_refl _)];rfl
 ·rw [parse1,show serL 1 s=serQ true s from rfl,norm_serL,value_txt false ((hno true).2.2 rfl),read_ser _ _ _ _ (Nat.le_refl _)];rfl
 ·rw [parse2,show serL 2 s=serQ false s from rfl,norm_serL,within_txt false (area_plain (hno false).1) rfl,read_ser _ _ _ _ (Nat.le_refl _)];rfl
theorem ser_length (q:Bool):∀ n (s:List UInt8),s.length≤n→s.length≤(serQ q s).length∧(serQ q s).length≤6*s.length:=by
 intro n
 induction n with
 | zero=>intro s h;obtain rfl:=List.eq_nil_of_length_eq_zero (Nat.le_zero.1 h);rw [ser_nil];simp
 | succ n ih =>
   intro s h
   cases s with
   | nil=>rw [ser_nil];simp
   | cons c r =>
     simp only [List.length_cons] at h
     have hr:=ih r zu4
     refine ser_cases q c r (fun l=>(c::r).length≤l.length∧l.length≤6*(c::r).length) ?_ ?_ ?_ ?_ ?_ ?_
     all_goals try (intro _;simp [wAmp,wLt,wGt];omega)
     ·intro _ _;simp [wQuot];omega
     ·rintro t _ rfl
      simp only [List.length_cons] at h
      have ht:=ih t zu4
      simp [wNbsp];omega
end Hand
end

section
namespace Hand
open Go Go.RowKit Pl Pb Go.Proofs.YtclkdmmgibgamaaGreatDoor.Pure
theorem ext_ne10 (b:List UInt8):(extL b).head? ≠ some 10:=fun h=>by have:=ext_hd b h;exact absurd this zu15
theorem enc_same {s:List UInt8} (h:s.head? ≠ some 10) (k:Int) (hk:0≤k∧k≤2):encL k s=escL s:=by
 have hk2:k=0∨k=1∨k=2:=by omega
 rcases hk2 with rfl|rfl|rfl<;>simp [encL,h]
theorem san_same (k:Int) (hk:0≤k∧k≤2) (b:List UInt8):sanL k b=escL (extL b):=enc_same (ext_ne10 b) k hk
theorem dec_san (k:Int) (b:List UInt8):decL (trimL (sanL k b))=sanL k b:=dec_enc k (ext_right b)
theorem esc_no (s:List UInt8):∀ c∈escL s,c≠60∧c≠62∧c≠34∧c≠39∧c≠0∧c≠13:=by
 have gen:∀ (t:List UInt8) (o:Bool),scanE o t=true→∀ c∈t,c≠60∧c≠62∧c≠34∧c≠39∧c≠0∧c≠13:=by
  intro t
  induction t with
  | nil=>intro _ _ _ h;cases h
  | cons d r ih =>
    intro o h c hc
    rw [scanE] at h
    split at h
    ·cases h
    ·rename_i hd
     simp only [not_or] at hd
     rcases List.mem_cons.1 hc with rfl|hc
     ·exact hd
     ·split at h
      ·rw [Bool.and_eq_true] at h;exact ih true h.2 c hc
      ·split at h
       ·exact ih false h c hc
       ·exact ih o h c hc
 exact gen _ false (scan_esc _ s (Nat.le_refl _))
theorem clean_of {s:List UInt8} (h:(0:UInt8)∉s):cleanL s=s:=cleanL_of_no0 h
theorem norm_esc (s:List UInt8):normL (escL s)=escL s:=normL_of_no13 fun h=>(esc_no s _ h).2.2.2.2.2 rfl
theorem trimN_of {s:List UInt8} (h:s.head? ≠ some 10):trimN s=s:=by
 cases s with
 | nil=>rfl
 | cons c r =>
   have hc:c≠10:=fun e=>h (by rw [e];rfl)
   show (if c=10 then r else c::r)=c::r
   rw [if_neg hc]
theorem parse_esc {s:List UInt8} (h0:(0:UInt8)∉s) (h10:s.head? ≠ some 10) (d:Int) (hd:d=0∨d=1∨d=2) (single:Bool):parseL d single (escL s)=(s,true):=by
 have hn:=esc_no s
 have h60:(60:UInt8)∉escL s:=fun h=>(hn _ h).1 rfl
 rcases hd with rfl|rfl|rfl
 ·rw [parse0,norm_esc,only_txt h60,read_esc false _ s (Nat.le_refl _),clean_of h0]
 ·rw [parse1,norm_esc,value_txt single (by cases single<;>exact fun h=>by first|exact (hn _ h).2.2.1 rfl|exact (hn _ h).2.2.2.1 rfl),read_esc true _ s (Nat.le_refl _),clean_of h0,clean_of h0]
 ·rw [parse2,norm_esc,within_txt single (area_plain h60) rfl,read_esc false _ s (Nat.le_refl _),clean_of h0,clean_of h0,trimN_of h10]
theorem round_of {s:List UInt8} (h0:(0:UInt8)∉s) (h13:(13:UInt8)∉s) (h10:s.head? ≠ some 10) (d:Int):roundL d s=s:=by
 unfold roundL
 rw [normL_of_no13 h13,clean_of h0,trimN_of h10]
 repeat' split
 all_goals rfl
def roundsL (d:Int):Nat→List UInt8→List UInt8
 | 0,s=>s
 | n+1,s=>roundsL d n (roundL d s)
theorem rounds_of {s:List UInt8} (h0:(0:UInt8)∉s) (h13:(13:UInt8)∉s) (h10:s.head? ≠ some 10) (d:Int):∀ n,roundsL d n s=s:=by
 intro n
 induction n with
 | zero=>rfl
 | succ n ih=>rw [roundsL,round_of h0 h13 h10,ih]
theorem norm_no13 (s:List UInt8):(13:UInt8)∉normL s:=normL_no13 s
theorem clean_no13 {s:List UInt8} (h:(13:UInt8)∉s):(13:UInt8)∉cleanL s:=by
 intro hm
 unfold cleanL at hm
 obtain ⟨c,hc,hx⟩:=List.mem_flatMap.1 hm
 unfold cleanB at hx
 split at hx
 ·exact absurd hx zu15
 ·rw [List.mem_singleton] at hx;exact h (hx ▸ hc)
theorem trimN_sub {s:List UInt8} {c:UInt8} (h:c∈trimN s):c∈s:=by
 cases s with
 | nil=>exact h
 | cons d r =>
   change c∈(if d=10 then r else d::r) at h
   split at h
   ·exact List.mem_cons_of_mem _ h
   ·exact h
theorem rounds_once (d:Int) (hd:d=0∨d=1) (s:List UInt8):∀ n,roundsL d n (roundL d s)=roundL d s:=by
 intro n
 induction n with
 | zero=>rfl
 | succ n ih =>
   have e:roundL d (roundL d s)=roundL d s:=by
    rcases hd with rfl|rfl
    ·show normL (normL s)=normL s
     exact normL_of_no13 (norm_no13 s)
    ·show cleanL (normL (cleanL (normL s)))=cleanL (normL s)
     rw [normL_of_no13 (clean_no13 (norm_no13 s)),clean_of (cleanL_no0 _)]
   rw [roundsL,e,ih]
def trimsN:Nat→List UInt8→List UInt8
 | 0,s=>s
 | n+1,s=>trimsN n (trimN s)
theorem rounds_trim {s:List UInt8} (h0:(0:UInt8)∉s) (h13:(13:UInt8)∉s):∀ n,roundsL 2 n s=trimsN n s:=by
 intro n
 induction n generalizing s with
 | zero=>rfl
 | succ n ih =>
   have e:roundL 2 s=trimN s:=by
    show trimN (cleanL (normL s))=trimN s
    rw [normL_of_no13 h13,clean_of h0]
   rw [roundsL,trimsN,e,ih (fun h=>h0 (trimN_sub h)) (fun h=>h13 (trimN_sub h))]
theorem round2_no (s:List UInt8):(0:UInt8)∉roundL 2 s∧(13:UInt8)∉roundL 2 s :=
 ⟨fun h=>cleanL_no0 _ (trimN_sub h),fun h=>clean_no13 (norm_no13 s) (trimN_sub h)⟩
end Hand
end

section
namespace Hand
open Go Go.RowKit K0 Pl Pb Sa St Go.Proofs.YtclkdmmgibgamaaGreatDoor.Pure YtclkdmmgibgamaaGreatDoorW.PrintWords YtclkdmmgibgamaaGreatDoorW.PrintLast YtclkdmmgibgamaaGreatDoorW.PrintMore
theorem byt_conv (t:List UInt8) (W:World):∃ v W',(convert 9 22 (.string (B t))).run Tryz.prog W = .ok v W'∧Below W.heap.size W W'∧Byt t v W':=by
 have hconv:=Lib.run_convert_string_bytes (P:=Tryz.prog) W 9 22 5 (B t) Tryz.underlying9 Tryz.underlying22 Tryz.underlying5
 refine ⟨_,_,hconv,below_bytesWorld W 5 (B t),fun W' hb => ?_⟩
 rw [size_B]
 refine run_convert_bytes_back (P:=Tryz.prog) W' 22 9 5 ⟨W.heap.size,0,none⟩ _ t Tryz.underlying22 Tryz.underlying5 Tryz.underlying9 (fun j hj => ?_)
 have ha:(⟨W.heap.size,0,none⟩:Addr).add j=⟨W.heap.size,j,none⟩:=by unfold Addr.add;split<;>simp_all
 have hc:(Lib.bytesWorld W 5 (B t)).cell? ⟨W.heap.size,j,none⟩=some (.int .u8 (t[j].toNat:Int)):=by
  rw [Lib.bytesWorld_cell W 5 (B t) j (by rw [size_B];exact hj),B_data,List.getD_eq_getElem?_getD,List.getElem?_eq_getElem hj];rfl
 rw [ha]
 exact (hb.cell (World.block_lt_of_cell? _ _ hc)).trans hc
theorem san_len (k:Int) (s:List UInt8) (hk:0≤k∧k≤2):(sanL k s).length≤18*s.length:=by
 rw [san_same k hk]
 have h1:=(esc_length _ (extL s) (Nat.le_refl _)).1
 have h2:=ext_length s
 omega
end Hand
end

section
namespace Hand
open Go Go.RowKit K0 Pl Pb Sa St Go.Proofs.YtclkdmmgibgamaaGreatDoor.Pure YtclkdmmgibgamaaGreatDoorW.PrintWords YtclkdmmgibgamaaGreatDoorW.PrintLast YtclkdmmgibgamaaGreatDoorW.PrintMore
abbrev RowU8 (w:World) (a:Option Addr) (len cap:Nat) (z:List Int):Prop :=
 (a=none∧len=0∧cap=0∧z=[])∨∃ x,a=some x∧len≤cap∧cap≤maxLen∧z.length=cap∧(∀ i,i<z.length→w.cell? (x.add i)=some (.int .u8 (z.getD i 0)))∧∀ n∈z,(Lit.int .u8 n).wf=true
def numsB (l:List Int):List UInt8:=l.map fun n=>UInt8.ofNat n.toNat
theorem numsB_len (l:List Int):(numsB l).length=l.length:=List.length_map ..
theorem byt_of {l:List Int} {A:Option Addr} {w:World} (h:Kd.C (Kd.int .u8) w A l.length l) (c:Nat):Byt (numsB l) (.slice A l.length c) w:=fun _ hb =>
 Kd.C_string (P:=Tryz.prog) (c:=c) (src:=22) (dst:=9) Tryz.underlying22 Tryz.underlying5 Tryz.underlying9 (Kd.C_below h hb)
end Hand
end

section
namespace Hand
open Go Go.RowKit Pb Pl
def serP:List (List UInt8×ByteArray):=[([38],B wAmp),([194,160],B wNbsp),([60],B wLt),([62],B wGt)]
def serPq:List (List UInt8×ByteArray):=[([38],B wAmp),([194,160],B wNbsp),([60],B wLt),([62],B wGt),([34],B wQuot)]
theorem serP_pair:pairF serP=serF false:=by
 funext c
 have:∀ n:Fin 256,pairF serP (UInt8.ofNat n.val)=serF false (UInt8.ofNat n.val):=by decide +kernel
 have h':=this ⟨c.toNat,c.toNat_lt⟩
 simpa using h'
theorem serPq_pair:pairF serPq=serF true:=by
 funext c
 have:∀ n:Fin 256,pairF serPq (UInt8.ofNat n.val)=serF true (UInt8.ofNat n.val):=by decide +kernel
 have h':=this ⟨c.toNat,c.toNat_lt⟩
 simpa using h'
theorem serP_words:Words serP where
 heads:=heads_of (by decide +kernel)
 lens:=by decide +kernel
 vals:=by decide +kernel
 many:=by decide
 cnt:=by decide +kernel
 long:=⟨1,zu15,zu15⟩
 two:=by decide
theorem serPq_words:Words serPq where
 heads:=heads_of (by decide +kernel)
 lens:=by decide +kernel
 vals:=by decide +kernel
 many:=by decide
 cnt:=by decide +kernel
 long:=⟨1,zu15,zu15⟩
 two:=by decide
def serCells:Array Value := #[.string ⟨#[38]⟩,.string ⟨#[38,97,109,112,59]⟩,.string ⟨#[194,160]⟩,.string ⟨#[38,110,98,115,112,59]⟩,.string ⟨#[60]⟩,.string ⟨#[38,108,116,59]⟩,.string ⟨#[62]⟩,.string ⟨#[38,103,116,59]⟩]
theorem sign_nbsp:signB 160=⟨#[194,160]⟩:=by rfl
theorem ser_made (kv:List (List UInt8×ByteArray)) (hk:Words kv) (bo cap:Nat) (s:List UInt8) (w W:World) (hw:Below w.heap.size w W) (ho:BlkF bo (2*kv.length) (strV (flatKV kv)) W) (hbo:bo<W.heap.size) (hs:s.length≤100000) :
  Calls Tryz.prog 91 #[.slice (some ⟨bo,0,none⟩) (2*kv.length) cap] W fun e w' => ∃ rb,e = .returned (.pointer (some ⟨rb,0,none⟩)) ∧
   Calls Tryz.prog 92 #[.pointer (some ⟨rb,0,none⟩),.string (B s)] w' fun e w2=>e = .returned (.string (B (replS (pairF kv) 0 s)))∧Below w.heap.size w w2:=by
 have hl:=flatKV_length kv
 have hr:(replS (pairF kv) 0 s).length≤100000000:=by
  have:=replS_length (pairF_val hk.vals) s 0
  omega
 have h2:=hk.two
 have hm:=hk.many
 have C1:=new_replacer bo cap (flatKV kv) W (by rw [hl];exact ho) hbo zu4 zu4 zu4
 rw [hl] at C1
 refine C1.mono ?_
 rintro e w1 ⟨rb,b2,c,rfl,hN⟩
 refine ⟨rb,rfl,(repl_replace kv rb b2 c w.heap.size s W w1 hk hN hw.size hs hr).mono ?_⟩
 rintro e w2 ⟨h1,h2⟩
 exact ⟨h1,(hw.trans (hN.below.mono hw.size)).trans h2⟩
theorem ser0_c (k:Int) (hk:k=0∨k=2) (s:List UInt8) (w:World) (hs:s.length≤100000) :
  Calls Tryz.prog 56 #[.int .i64 k,.string (B s)] w fun e w'=>e = .returned (.string (B (serQ false s)))∧Below w.heap.size w w':=by
 have C1:=sign_c 160 w zu4
 rw [sign_nbsp] at C1
 replace C1:=Lib.hid C1
 have hF:BlkF w.heap.size (2*serP.length) (strV (flatKV serP)) (w.alloc (.cells serCells 9)):=cells_strs (l:=flatKV serP) rfl 9 w
 have C2:=Lib.hid (ser_made serP serP_words w.heap.size 8 s w _ (Below.alloc (Below.refl _ _) (Nat.le_refl _) (.cells serCells 9)) hF zu19 hs)
 rw [serP_pair,show replS (serF false) 0 s=serQ false s from rfl,show 2*serP.length=8 from rfl] at C2
 clear hF
 unfold serCells at C2
 rcases hk with rfl|rfl <;>
 ·go_enter Tryz.func56,Tryz.ntmps56
  go_wp2_with fail
  refine C1.out.mono ?_
  rintro e w1 ⟨rfl,rfl⟩
  go_wp2_with fail
  refine C2.out.mono ?_
  rintro e w2 ⟨rb,rfl,hC⟩
  have C3:=Lib.hid hC
  clear hC C2 C1
  go_wp2_with fail
  refine C3.out.mono ?_
  rintro e w3 ⟨rfl,hb⟩
  go_wp2_with fail
  go_ret
  exact ⟨rfl,hb⟩
theorem ser1_c (s:List UInt8) (w:World) (hs:s.length≤100000) :
  Calls Tryz.prog 56 #[.int .i64 1,.string (B s)] w fun e w'=>e = .returned (.string (B (serQ true s)))∧Below w.heap.size w w':=by
 obtain ⟨i,hi,hzz⟩:=Option.map_eq_some_iff.1 info_str
 simp only [Prod.mk.injEq] at hzz
 obtain ⟨hz0,hs1,hb1⟩:=hzz
 have C1:=sign_c 160 w zu4
 rw [sign_nbsp] at C1
 replace C1:=Lib.hid C1
 have hown:((w.alloc (.cells serCells 9)).alloc (.cells #[.string ⟨#[34]⟩,.string ⟨#[38,113,117,111,116,59]⟩] 9)).ownsRow w.heap.size 9 1 (.slice (some ⟨w.heap.size,0,none⟩) 8 8) 8 serCells.toList :=
  (World.ownsRow_lit (base:=w.heap.size) (e:=9) (size:=1) w serCells 8 (Nat.le_refl _) zu73 rfl).alloc _
 have hnews:∀ j u,([.string ⟨#[34]⟩,.string ⟨#[38,113,117,111,116,59]⟩]:List Value)[j]? = some u→((w.alloc (.cells serCells 9)).alloc (.cells #[.string ⟨#[34]⟩,.string ⟨#[38,113,117,111,116,59]⟩] 9)).cell? ((⟨w.heap.size+1,0,none⟩:Addr).add j)=some u:=by
  intro j u hu
  have hadd:(⟨w.heap.size+1,0,none⟩:Addr).add j=⟨w.heap.size+1,j,none⟩:=by unfold Addr.add;split<;>simp_all
  rw [hadd]
  refine (World.cell?_alloc_at _ _ _ j zu19).trans ?_
  rw [← Array.getElem?_toList];exact hu
 have h1:∀ u∈([.string ⟨#[34]⟩,.string ⟨#[38,113,117,111,116,59]⟩]:List Value),u.oneCell'=true:=by
  intro u hu
  simp only [List.mem_cons,List.not_mem_nil,or_false] at hu
  rcases hu with rfl|rfl<;>rfl
 have hbel:Below w.heap.size w ((w.alloc (.cells serCells 9)).alloc (.cells #[.string ⟨#[34]⟩,.string ⟨#[38,113,117,111,116,59]⟩] 9)):=(Below.alloc (Below.refl _ _) (Nat.le_refl _) _).alloc zu19 _
 have HI:=Lib.hid hi
 have HZ:=Lib.hid hz0
 have HS1:=Lib.hid hs1
 have HB1:=Lib.hid hb1
 have HOWN:=Lib.hid hown
 have HNEWS:=Lib.hid hnews
 have H1:=Lib.hid h1
 have HBEL:=Lib.hid hbel
 clear hi hz0 hs1 hb1 hown hnews h1 hbel
 unfold serCells at HOWN HNEWS HBEL
 go_enter Tryz.func56,Tryz.ntmps56
 go_wp2_with fail
 refine C1.out.mono ?_
 rintro e w1 ⟨rfl,rfl⟩
 go_wp2_with (at_builtin;refine wpList_append_own _ rfl _ _ 42 rfl w1.heap.size 9 i (.string ByteArray.empty) 1 16 Tryz.underlying42 HI.out HZ.out HS1.out HB1.out rfl zu15 _ 8 _ rfl HOWN.out ⟨w1.heap.size+1,0,none⟩ 2 2 _ rfl rfl HNEWS.out H1.out zu73 zu4 zu25 ?_)
 intro v' w2 hown2 hgr _
 have hb2:=HBEL.out.grown hgr zu25 (fun k hk=>(HOWN.out.lt k hk).1)
 rcases hown2.2 with ⟨hv,h0⟩|⟨g,c,cur,rfl,hg1,hg2,_⟩
 ·omega
 ·have hlt:=(hown2.lt g rfl).2
  have hF:BlkF g (2*serPq.length) (strV (flatKV serPq)) w2:=owns_blkF (l:=flatKV serPq) (c:=c) hown2
  have C2:=Lib.hid (ser_made serPq serPq_words g c s w1 w2 hb2 hF hlt hs)
  rw [serPq_pair,show replS (serF true) 0 s=serQ true s from rfl,show 2*serPq.length=10 from rfl] at C2
  clear hF hown2 hgr hg2 hb2 HOWN HNEWS H1 HBEL C1
  go_wp2_with fail
  refine C2.out.mono ?_
  rintro e w3 ⟨rb,rfl,hC⟩
  have C3:=Lib.hid hC
  clear hC C2
  go_wp2_with fail
  refine C3.out.mono ?_
  rintro e w4 ⟨rfl,hb⟩
  go_wp2_with fail
  go_ret
  exact ⟨rfl,hb⟩
theorem serial_c (k:Int) (hk:0≤k∧k≤2) (s:List UInt8) (w:World) (hs:s.length≤100000) :
  Calls Tryz.prog 56 #[.int .i64 k,.string (B s)] w fun e w'=>e = .returned (.string (B (serL k s)))∧Below w.heap.size w w':=by
 unfold serL
 rw [if_neg zu4]
 by_cases h1:k=1
 ·subst h1;exact ser1_c s w hs
 ·rw [decide_eq_false h1];exact ser0_c k zu4 s w hs
end Hand
end

section
namespace Hand
open Go Go.RowKit Pl Pb Go.Proofs.YtclkdmmgibgamaaGreatDoor.Pure
theorem trimN_len (s:List UInt8):(trimN s).length≤s.length:=by
 cases s with
 | nil=>exact Nat.le_refl _
 | cons c r =>
   show (if c=10 then r else c::r).length≤_
   split
   ·simp
   ·exact Nat.le_refl _
theorem trimsN_len:∀ (n:Nat) (s:List UInt8),(trimsN n s).length≤s.length:=by
 intro n
 induction n with
 | zero=>intro s;exact Nat.le_refl _
 | succ n ih=>intro s;exact Nat.le_trans (ih (trimN s)) (trimN_len s)
theorem roundL_len (d:Int) (s:List UInt8):(roundL d s).length≤3*s.length:=by
 have h1:=normL_length s
 have h2:=(cleanL_length (normL s)).2
 have h3:=trimN_len (cleanL (normL s))
 unfold roundL
 repeat' split
 all_goals omega
theorem rounds_after (d:Int) (hd:d=0∨d=1∨d=2) (s:List UInt8) (n:Nat):roundsL d (n+1) s=if d=2 then trimsN n (roundL 2 s) else roundL d s:=by
 show roundsL d n (roundL d s)=_
 rcases hd with rfl|rfl|rfl
 ·rw [if_neg zu15];exact rounds_once 0 (.inl rfl) s n
 ·rw [if_neg zu15];exact rounds_once 1 (.inr rfl) s n
 ·rw [if_pos rfl];exact rounds_trim (round2_no s).1 (round2_no s).2 n
theorem rounds_len (d:Int) (hd:d=0∨d=1∨d=2) (s:List UInt8):∀ n,(roundsL d n s).length≤3*s.length:=by
 intro n
 cases n with
 | zero=>show s.length≤_;omega
 | succ n =>
   rw [rounds_after d hd]
   have h1:=roundL_len d s
   split
   ·have h2:=trimsN_len n (roundL 2 s)
    have h3:=roundL_len 2 s
    omega
   ·exact h1
end Hand
end

section
namespace Hand
open Go Go.RowKit K0 Pl Pb Sa St Go.Proofs.YtclkdmmgibgamaaGreatDoor.Pure YtclkdmmgibgamaaGreatDoorW.PrintWords YtclkdmmgibgamaaGreatDoorW.PrintLast YtclkdmmgibgamaaGreatDoorW.PrintMore
theorem round_c (d:Int) (hd:d=0∨d=1∨d=2) (s:List UInt8) (hs:s.length≤3000) (w:World) (hGl:Glob w) :
  Calls Tryz.prog 55 #[.int .i64 d,.string (B s)] w fun e w'=>e = .returned (.tuple #[.string (B (roundL d s)),.bool true])∧Below w.heap.size w w':=by
 have hl:(serL d s).length≤6*s.length:=by
  unfold serL
  rw [if_neg zu4]
  exact (ser_length _ _ s (Nat.le_refl _)).2
 have SE:=serial_c d zu4 s w zu4
 have PA:=fun W hG=>parse_c d false (serL d s) zu4 W hG
 rw [parse_ser d hd s] at PA
 obtain ⟨a,ha⟩:∃ a,B s=a:=⟨_,rfl⟩
 obtain ⟨a2,ha2⟩:∃ a,B (serL d s)=a:=⟨_,rfl⟩
 obtain ⟨a3,ha3⟩:∃ a,B (roundL d s)=a:=⟨_,rfl⟩
 rw [ha,ha2] at SE
 rw [ha2] at PA
 dsimp only at PA
 rw [ha3] at PA ⊢
 rw [ha]
 replace SE:=Lib.hid SE
 replace PA:=Lib.hid PA
 have HG:=Lib.hid hGl
 clear hl ha ha2 ha3 hs hGl hd
 go_enter Tryz.func55,Tryz.ntmps55
 go_wp2_with fail
 refine SE.out.mono ?_
 rintro e w1 ⟨rfl,hb1⟩
 have P1:=Lib.hid (PA.out w1 (HG.out.step hb1))
 have HB:=Lib.hid hb1
 clear hb1 SE PA
 go_wp2_with fail
 refine P1.out.mono ?_
 rintro e w2 ⟨rfl,hb2⟩
 have HB2:=Lib.hid (HB.out.trans (hb2.mono HB.out.size))
 clear hb2 P1
 go_wp2_with fail
 go_ret2
 exact ⟨rfl,HB2.out⟩
def nxF (db nb:Nat):Value:=.func (.func 57) #[] #[.pointer (some ⟨db,0,none⟩),.pointer (some ⟨nb,0,none⟩)]
theorem next_rounds (d:Int) (hd:d=0∨d=1∨d=2) (db nb:Nat):∀ (n:Nat) (_:n≤1000) (s:List UInt8) (_:∀ j,j≤n→(roundsL d j s).length≤3000) (w:World) (_:Glob w) (_:w.cell? ⟨db,0,none⟩=some (.int .i64 d)) (_:w.cell? ⟨nb,0,none⟩=some (nxF db nb)),
  Calls Tryz.prog 57 #[.string (B s),.int .i64 (n:Int),.pointer (some ⟨db,0,none⟩),.pointer (some ⟨nb,0,none⟩)] w fun e w'=>e = .returned (.tuple #[.string (B (roundsL d n s)),.bool true])∧Below w.heap.size w w':=by
 intro n
 induction n with
 | zero =>
   intro _ s _ w _ c1 c2
   rw [show roundsL d 0 s=s from rfl]
   obtain ⟨a,ha⟩:∃ a,B s=a:=⟨_,rfl⟩
   rw [ha]
   clear ha
   go_enter Tryz.func57,Tryz.ntmps57
   go_wp2_with fail
   go_ret2
   exact ⟨rfl,Below.refl _ _⟩
 | succ n ih =>
   intro hn s hs w hG c1 c2
   have R:=round_c d hd s (hs 0 zu4) w hG
   have hc:∀ {W:World},Below w.heap.size w W→Glob W∧W.cell? ⟨db,0,none⟩=some (.int .i64 d)∧W.cell? ⟨nb,0,none⟩=some (nxF db nb):=fun hb =>
    ⟨hG.step hb,(hb.cell (World.block_lt_of_cell? w _ c1)).trans c1,(hb.cell (World.block_lt_of_cell? w _ c2)).trans c2⟩
   have NX:∀ W,Below w.heap.size w W→Calls Tryz.prog 57 #[.string (B (roundL d s)),.int .i64 (n:Int),.pointer (some ⟨db,0,none⟩),.pointer (some ⟨nb,0,none⟩)] W fun e w'=>e = .returned (.tuple #[.string (B (roundsL d n (roundL d s))),.bool true])∧Below W.heap.size W w':=fun W hb=>by
    obtain ⟨g1,g2,g3⟩:=hc hb
    exact ih zu4 (roundL d s) (fun j hj=>hs (j+1) zu4) W g1 g2 g3
   have NC:Hid (∀ W,Below w.heap.size w W→W.cell? ⟨nb,0,none⟩=some (nxF db nb)):=Lib.hid (fun W hb=>(hc hb).2.2)
   rw [show roundsL d (n+1) s=roundsL d n (roundL d s) from rfl]
   obtain ⟨a,ha⟩:∃ a,B s=a:=⟨_,rfl⟩
   obtain ⟨a2,ha2⟩:∃ a,B (roundL d s)=a:=⟨_,rfl⟩
   obtain ⟨a3,ha3⟩:∃ a,B (roundsL d n (roundL d s))=a:=⟨_,rfl⟩
   rw [ha,ha2] at R
   rw [ha2,ha3] at NX
   rw [ha,ha3]
   have q:decide (((n+1:Nat):Int)<1)=false:=decide_eq_false zu4
   have qw:wrap64 (((n+1:Nat):Int) - 1)=(n:Int):=by unfold wrap64;omega
   replace R:=Lib.hid R
   replace NX:=Lib.hid NX
   clear ih hs hc c2 hG ha ha2 ha3 hd
   obtain ⟨m,hm⟩:∃ m:Int,((n+1:Nat):Int)=m:=⟨_,rfl⟩
   rw [hm] at q qw ⊢
   clear hm hn
   go_enter Tryz.func57,Tryz.ntmps57
   go_wp2_with fail
   refine R.out.mono ?_
   rintro e w1 ⟨rfl,hb1⟩
   have g3:=NC.out w1 hb1
   unfold nxF at g3
   have N1:=Lib.hid (NX.out w1 hb1)
   have HB:=Lib.hid hb1
   clear hb1 R NX NC
   go_wp2_with fail
   refine N1.out.mono ?_
   rintro e w2 ⟨rfl,hb2⟩
   have HB2:=Lib.hid (HB.out.trans (hb2.mono HB.out.size))
   clear hb2 N1
   go_wp2_with fail
   go_ret2
   exact ⟨rfl,HB2.out⟩
theorem rounds_c (d:Int) (hd:d=0∨d=1∨d=2) (n:Nat) (hn:n≤1000) (s:List UInt8) (hs:∀ j,j≤n→(roundsL d j s).length≤3000) (w:World) (hGl:Glob w) :
  Calls Tryz.prog 28 #[.int .i64 d,.string (B s),.int .i64 (n:Int)] w fun e w'=>e = .returned (.tuple #[.string (B (roundsL d n s)),.bool true])∧Below w.heap.size w w':=by
 have hm:∀ (ts:Array TypeId) (t:TypeId) (W:World),(Builtin.min_ ts t #[.int .i64 (n:Int),.int .i64 1000]).run Tryz.prog W = .ok (.int .i64 (n:Int)) W:=fun ts t W=>by
  rw [min_two,min2_int,if_neg zu4]
  rfl
 obtain ⟨W2,hW2⟩:∃ W,(w.alloc (.cells #[.int .i64 d] 3)).alloc (.cells #[nxF w.heap.size (w.heap.size+1)] 77)=W:=⟨_,rfl⟩
 have hB2:Below w.heap.size w W2:=by
  rw [← hW2]
  exact (Below.alloc (Below.refl w.heap.size w) (Nat.le_refl _) _).alloc zu19 _
 have NX:Calls Tryz.prog 57 #[.string (B s),.int .i64 (n:Int),.pointer (some ⟨w.heap.size,0,none⟩),.pointer (some ⟨w.heap.size+1,0,none⟩)] W2 fun e w'=>e = .returned (.tuple #[.string (B (roundsL d n s)),.bool true])∧Below W2.heap.size W2 w':=by
  refine next_rounds d hd w.heap.size (w.heap.size+1) n hn s hs W2 (hGl.step hB2) ?_ ?_
  ·rw [← hW2]
   have:=World.cell?_alloc_at (w:=w) #[.int .i64 d] 3 w.heap.size 0 rfl
   exact (World.cell?_of_block (Lib.alloc_old _ _ _ zu19)).trans this
  ·rw [← hW2]
   exact World.cell?_alloc_at _ _ _ 0 zu19
 have HB2:=Lib.hid hB2
 replace NX:=Lib.hid NX
 have HW:=Lib.hid hW2
 unfold nxF at HW
 obtain ⟨a,ha⟩:∃ a,B s=a:=⟨_,rfl⟩
 rw [ha] at NX ⊢
 have hst:∀ (W:World) (m:Mode),Sem.run Tryz.prog (store ⟨w.heap.size+1,0,none⟩ (.func (.func 57) #[] #[.pointer (some ⟨w.heap.size,0,none⟩),.pointer (some ⟨w.heap.size+1,0,none⟩)]) m) W=stored Tryz.prog W ⟨w.heap.size+1,0,none⟩ (.func (.func 57) #[] #[.pointer (some ⟨w.heap.size,0,none⟩),.pointer (some ⟨w.heap.size+1,0,none⟩)]) m:=fun W m=>run_store Tryz.prog W _ _ m rfl
 clear hs hGl hd hn ha hB2 hW2
 go_enter Tryz.func28,Tryz.ntmps28
 go_wp2_with fail
 rw [HW.out]
 refine NX.out.mono ?_
 rintro e w3 ⟨rfl,hb3⟩
 have HB3:=Lib.hid (HB2.out.trans (hb3.mono HB2.out.size))
 clear hb3 NX HB2 HW
 go_wp2_with fail
 go_ret2
 exact ⟨rfl,HB3.out⟩
noncomputable def rounds_Round.f (a0:Int) (a1:ByteArray):Option (ByteArray×Bool):=if a1.size≤3000∧(a0=0∨a0=1∨a0=2) then some (B (roundL a0 a1.data.toList),true) else none
theorem rounds_Round.calls (a0:Int) (a1:ByteArray) (r1:ByteArray) (r2:Bool) (w:World) (hGl:Glob w) (h:rounds_Round.f a0 a1=some (r1,r2)) :
  Calls Tryz.prog 55 #[.int .i64 a0,.string a1] w fun e w'=>e = .returned (.tuple #[.string r1,.bool r2])∧Below w.heap.size w w':=by
 obtain ⟨hc,h⟩:=hg_split h
 have h:=Option.some.inj h
 simp only [Prod.mk.injEq] at h
 obtain ⟨rfl,rfl⟩:=h
 have:=round_c a0 hc.2 a1.data.toList (by rw [Array.length_toList];exact hc.1) w hGl
 rwa [← B_of] at this
noncomputable def rounds_Rounds.f (a0:Int) (a1:ByteArray) (a2:Int):Option (ByteArray×Bool):=if okR a0 a2 a1 then some (B (roundsL a0 a2.toNat a1.data.toList),true) else none
theorem rounds_Rounds.calls (a0:Int) (a1:ByteArray) (a2:Int) (r1:ByteArray) (r2:Bool) (w:World) (hGl:Glob w) (h:rounds_Rounds.f a0 a1 a2=some (r1,r2)) :
  Calls Tryz.prog 28 #[.int .i64 a0,.string a1,.int .i64 a2] w fun e w'=>e = .returned (.tuple #[.string r1,.bool r2])∧Below w.heap.size w w':=by
 obtain ⟨hc,h⟩:=hg_split h
 have h:=Option.some.inj h
 simp only [Prod.mk.injEq] at h
 obtain ⟨rfl,rfl⟩:=h
 obtain ⟨h1,h2,h3,h4⟩:=hc
 have:=rounds_c a0 h1 a2.toNat zu4 a1.data.toList (fun j _=>by
  have h5:=rounds_len a0 h1 a1.data.toList j
  have h6:a1.data.toList.length=a1.size:=Array.length_toList
  exact Nat.le_trans h5 zu4) w hGl
 rw [← B_of,Int.toNat_of_nonneg h2] at this
 exact this
noncomputable def rounds_Serial.f (a0:Int) (a1:ByteArray):Option ByteArray:=if a1.size≤100000∧0≤a0∧a0≤2 then some (B (serL a0 a1.data.toList)) else none
theorem rounds_Serial.calls (a0:Int) (a1 r:ByteArray) (w:World) (h:rounds_Serial.f a0 a1=some r) :
  Calls Tryz.prog 56 #[.int .i64 a0,.string a1] w fun e w'=>e = .returned (.string r)∧Below w.heap.size w w':=by
 obtain ⟨hc,h⟩:=hg_split h
 obtain rfl:=Option.some.inj h
 have:=serial_c a0 hc.2 a1.data.toList w (by rw [Array.length_toList];exact hc.1)
 rwa [← B_of] at this
end Hand
end

section
namespace So
open Go.RowKit K0 Hand Sa YtclkdmmgibgamaaGreatDoorW.PrintWords YtclkdmmgibgamaaGreatDoorW.PrintLast YtclkdmmgibgamaaGreatDoorW.PrintMore
attribute [local go_sem] max2_int min2_int max_two min_two max_three min_three max_four min_four  
set_option linter.unusedVariables false
set_option linter.unusedSimpArgs false
noncomputable def flaillaw24_awake.f  : Option (Bool):=(rounds_Round.f 1 (⟨#[97,34,98,60]⟩:ByteArray)).bind fun bt101=>((rounds_Rounds.f 2 (⟨#[10,97]⟩:ByteArray) 3).bind fun bt103=>(if bt101.2=true then (if bt103.2=true then (if bt101.1.toList=([97,34,98,60]:List UInt8) then (if bt103.1.toList=([97]:List UInt8) then ((rounds_Serial.f 0 (⟨#[97,38,194,160]⟩:ByteArray)).bind fun t105=>(some (t105.toList == ([97,38,97,109,112,59,38,110,98,115,112,59]:List UInt8)))) else (some false)) else (some false)) else (some false)) else (some false)))
theorem flaillaw24_awake.calls  (r:Bool) (w:World) (hGl:Glob w) (h:flaillaw24_awake.f  = some r) :
  Calls Tryz.prog 27 #[] w fun e w'=>e = .returned (.bool r)∧Below w.heap.size w w':=by
 have HB:=Aside0.mk (Below.refl w.heap.size w)
 have H:((rounds_Round.f 1 (⟨#[97,34,98,60]⟩:ByteArray)).bind fun bt101=>((rounds_Rounds.f 2 (⟨#[10,97]⟩:ByteArray) 3).bind fun bt103=>(if bt101.2=true then (if bt103.2=true then (if bt101.1.toList=([97,34,98,60]:List UInt8) then (if bt103.1.toList=([97]:List UInt8) then ((rounds_Serial.f 0 (⟨#[97,38,194,160]⟩:ByteArray)).bind fun t105=>(some (t105.toList == ([97,38,97,109,112,59,38,110,98,115,112,59]:List UInt8)))) else (some false)) else (some false)) else (some false)) else (some false))))=some r:=h
 clear h
 replace H:=Option.bind_eq_some_iff.mp H
 obtain ⟨⟨t101,t102⟩,A10,H⟩:=H
 try dsimp only at H
 have A1:=Aside0.mk A10
 clear A10
 replace H:=Option.bind_eq_some_iff.mp H
 obtain ⟨⟨t103,t104⟩,A20,H⟩:=H
 try dsimp only at H
 have A2:=Aside0.mk A20
 clear A20
 by_cases c3:t102=true
 ·subst c3
  rw [if_pos rfl] at H
  by_cases c4:t104=true
  ·subst c4
   rw [if_pos rfl] at H
   by_cases c5:t101.toList=([97,34,98,60]:List UInt8)
   ·rw [if_pos c5] at H
    have c5b0:(t101.toList == ([97,34,98,60]:List UInt8))=true:=beq_iff_eq.mpr c5
    have c5b1:(t101.toList != ([97,34,98,60]:List UInt8))=false:=bne_eq_false_iff_eq.mpr c5
    clear c5
    by_cases c6:t103.toList=([97]:List UInt8)
    ·rw [if_pos c6] at H
     have c6b0:(t103.toList == ([97]:List UInt8))=true:=beq_iff_eq.mpr c6
     have c6b1:(t103.toList != ([97]:List UInt8))=false:=bne_eq_false_iff_eq.mpr c6
     clear c6
     replace H:=Option.bind_eq_some_iff.mp H
     obtain ⟨t105,A70,H⟩:=H
     try dsimp only at H
     have A7:=Aside0.mk A70
     clear A70
     obtain rfl:=Option.some.inj H
     go_enter Tryz.func27,Tryz.ntmps27
     go_wp2_with (first | ((with_reducible refine gate_callee (f:=55) rfl ?_);refine goesL_ (some 6) rfl rfl Tryz.func55 zu13 rfl #[.int .i64 1,.string (⟨#[97,34,98,60]⟩:ByteArray)] rfl zu2 ?_;(with_reducible refine (rounds_Round.calls 1 (⟨#[97,34,98,60]⟩:ByteArray) t101 true _ ?side1 A1.out).mono ?_);(case side1=>exact Glob.step hGl zu1);rintro e w8 ⟨rfl,hb⟩;refine ⟨_,rfl,?_⟩;have n0_:=Aside0.mk (below_step zu1 hb);clear HB;have HB:=n0_;clear n0_;(try clear hb);(try clear hb2);(try clear hk);(try clear hi)) | ((with_reducible refine gate_callee (f:=28) rfl ?_);refine goesL_ (some 10) rfl rfl Tryz.func28 zu13 rfl #[.int .i64 2,.string (⟨#[10,97]⟩:ByteArray),.int .i64 3] rfl zu2 ?_;(with_reducible refine (rounds_Rounds.calls 2 (⟨#[10,97]⟩:ByteArray) 3 t103 true _ ?side1 A2.out).mono ?_);(case side1=>exact Glob.step hGl zu1);rintro e w9 ⟨rfl,hb⟩;refine ⟨_,rfl,?_⟩;have n0_:=Aside0.mk (below_step zu1 hb);clear HB;have HB:=n0_;clear n0_;(try clear hb);(try clear hb2);(try clear hk);(try clear hi)) | (go_at_call 56;(with_reducible refine (rounds_Serial.calls 0 (⟨#[97,38,194,160]⟩:ByteArray) t105 _ A7.out).mono ?_);rintro e w10 ⟨rfl,hb⟩;have n0_:=Aside0.mk (below_step zu1 hb);clear HB;have HB:=n0_;clear n0_;(try clear hb);(try clear hb2);(try clear hk);(try clear hi)))
     go_ret
     exact zu5
    ·rw [if_neg c6] at H
     have c6b0:(t103.toList == ([97]:List UInt8))=false:=beq_eq_false_iff_ne.mpr c6
     have c6b1:(t103.toList != ([97]:List UInt8))=true:=bne_iff_ne.mpr c6
     obtain rfl:=Option.some.inj H
     go_enter Tryz.func27,Tryz.ntmps27
     go_wp2_with (first | ((with_reducible refine gate_callee (f:=55) rfl ?_);refine goesL_ (some 6) rfl rfl Tryz.func55 zu13 rfl #[.int .i64 1,.string (⟨#[97,34,98,60]⟩:ByteArray)] rfl zu2 ?_;(with_reducible refine (rounds_Round.calls 1 (⟨#[97,34,98,60]⟩:ByteArray) t101 true _ ?side1 A1.out).mono ?_);(case side1=>exact Glob.step hGl zu1);rintro e w11 ⟨rfl,hb⟩;refine ⟨_,rfl,?_⟩;have n0_:=Aside0.mk (below_step zu1 hb);clear HB;have HB:=n0_;clear n0_;(try clear hb);(try clear hb2);(try clear hk);(try clear hi)) | ((with_reducible refine gate_callee (f:=28) rfl ?_);refine goesL_ (some 10) rfl rfl Tryz.func28 zu13 rfl #[.int .i64 2,.string (⟨#[10,97]⟩:ByteArray),.int .i64 3] rfl zu2 ?_;(with_reducible refine (rounds_Rounds.calls 2 (⟨#[10,97]⟩:ByteArray) 3 t103 true _ ?side1 A2.out).mono ?_);(case side1=>exact Glob.step hGl zu1);rintro e w12 ⟨rfl,hb⟩;refine ⟨_,rfl,?_⟩;have n0_:=Aside0.mk (below_step zu1 hb);clear HB;have HB:=n0_;clear n0_;(try clear hb);(try clear hb2);(try clear hk);(try clear hi)))
     go_ret
     exact zu5
   ·rw [if_neg c5] at H
    have c5b0:(t101.toList == ([97,34,98,60]:List UInt8))=false:=beq_eq_false_iff_ne.mpr c5
    have c5b1:(t101.toList != ([97,34,98,60]:List UInt8))=true:=bne_iff_ne.mpr c5
    obtain rfl:=Option.some.inj H
    go_enter Tryz.func27,Tryz.ntmps27
    go_wp2_with (first | ((with_reducible refine gate_callee (f:=55) rfl ?_);refine goesL_ (some 6) rfl rfl Tryz.func55 zu13 rfl #[.int .i64 1,.string (⟨#[97,34,98,60]⟩:ByteArray)] rfl zu2 ?_;(with_reducible refine (rounds_Round.calls 1 (⟨#[97,34,98,60]⟩:ByteArray) t101 true _ ?side1 A1.out).mono ?_);(case side1=>exact Glob.step hGl zu1);rintro e w13 ⟨rfl,hb⟩;refine ⟨_,rfl,?_⟩;have n0_:=Aside0.mk (below_step zu1 hb);clear HB;have HB:=n0_;clear n0_;(try clear hb);(try clear hb2);(try clear hk);(try clear hi)) | ((with_reducible refine gate_callee (f:=28) rfl ?_);refine goesL_ (some 10) rfl rfl Tryz.func28 zu13 rfl #[.int .i64 2,.string (⟨#[10,97]⟩:ByteArray),.int .i64 3] rfl zu2 ?_;(with_reducible refine (rounds_Rounds.calls 2 (⟨#[10,97]⟩:ByteArray) 3 t103 true _ ?side1 A2.out).mono ?_);(case side1=>exact Glob.step hGl zu1);rintro e w14 ⟨rfl,hb⟩;refine ⟨_,rfl,?_⟩;have n0_:=Aside0.mk (below_step zu1 hb);clear HB;have HB:=n0_;clear n0_;(try clear hb);(try clear hb2);(try clear hk);(try clear hi)))
    go_ret
    exact zu5
  ·replace c4:=Bool.eq_false_iff.mpr c4
   subst c4
   rw [if_neg (show ¬ (false=true) by decide)] at H
   obtain rfl:=Option.some.inj H
   go_enter Tryz.func27,Tryz.ntmps27
   go_wp2_with (first | ((with_reducible refine gate_callee (f:=55) rfl ?_);refine goesL_ (some 6) rfl rfl Tryz.func55 zu13 rfl #[.int .i64 1,.string (⟨#[97,34,98,60]⟩:ByteArray)] rfl zu2 ?_;(with_reducible refine (rounds_Round.calls 1 (⟨#[97,34,98,60]⟩:ByteArray) t101 true _ ?side1 A1.out).mono ?_);(case side1=>exact Glob.step hGl zu1);rintro e w15 ⟨rfl,hb⟩;refine ⟨_,rfl,?_⟩;have n0_:=Aside0.mk (below_step zu1 hb);clear HB;have HB:=n0_;clear n0_;(try clear hb);(try clear hb2);(try clear hk);(try clear hi)) | ((with_reducible refine gate_callee (f:=28) rfl ?_);refine goesL_ (some 10) rfl rfl Tryz.func28 zu13 rfl #[.int .i64 2,.string (⟨#[10,97]⟩:ByteArray),.int .i64 3] rfl zu2 ?_;(with_reducible refine (rounds_Rounds.calls 2 (⟨#[10,97]⟩:ByteArray) 3 t103 false _ ?side1 A2.out).mono ?_);(case side1=>exact Glob.step hGl zu1);rintro e w16 ⟨rfl,hb⟩;refine ⟨_,rfl,?_⟩;have n0_:=Aside0.mk (below_step zu1 hb);clear HB;have HB:=n0_;clear n0_;(try clear hb);(try clear hb2);(try clear hk);(try clear hi)))
   go_ret
   exact zu5
 ·replace c3:=Bool.eq_false_iff.mpr c3
  subst c3
  rw [if_neg (show ¬ (false=true) by decide)] at H
  obtain rfl:=Option.some.inj H
  go_enter Tryz.func27,Tryz.ntmps27
  go_wp2_with (first | ((with_reducible refine gate_callee (f:=55) rfl ?_);refine goesL_ (some 6) rfl rfl Tryz.func55 zu13 rfl #[.int .i64 1,.string (⟨#[97,34,98,60]⟩:ByteArray)] rfl zu2 ?_;(with_reducible refine (rounds_Round.calls 1 (⟨#[97,34,98,60]⟩:ByteArray) t101 false _ ?side1 A1.out).mono ?_);(case side1=>exact Glob.step hGl zu1);rintro e w17 ⟨rfl,hb⟩;refine ⟨_,rfl,?_⟩;have n0_:=Aside0.mk (below_step zu1 hb);clear HB;have HB:=n0_;clear n0_;(try clear hb);(try clear hb2);(try clear hk);(try clear hi)) | ((with_reducible refine gate_callee (f:=28) rfl ?_);refine goesL_ (some 10) rfl rfl Tryz.func28 zu13 rfl #[.int .i64 2,.string (⟨#[10,97]⟩:ByteArray),.int .i64 3] rfl zu2 ?_;(with_reducible refine (rounds_Rounds.calls 2 (⟨#[10,97]⟩:ByteArray) 3 t103 t104 _ ?side1 A2.out).mono ?_);(case side1=>exact Glob.step hGl zu1);rintro e w18 ⟨rfl,hb⟩;refine ⟨_,rfl,?_⟩;have n0_:=Aside0.mk (below_step zu1 hb);clear HB;have HB:=n0_;clear n0_;(try clear hb);(try clear hb2);(try clear hk);(try clear hi)))
  go_ret
  exact zu5
end So
end

section
namespace Pro
open Go Go.RowKit K0 Hand Sa Go.Proofs.YtclkdmmgibgamaaGreatDoor.So YtclkdmmgibgamaaGreatDoorW.PrintWords YtclkdmmgibgamaaGreatDoorW.PrintMore Pl Pb Go.Proofs.YtclkdmmgibgamaaGreatDoor.Pure
theorem round_f (k:Int) (hk:k=0∨k=1∨k=2) (s:List UInt8) (hs:s.length≤3000):rounds_Round.f k (B s)=some (B (roundL k s),true):=by
 unfold rounds_Round.f
 rw [if_pos ⟨by rw [size_B];exact hs,hk⟩,B_data]
theorem rounds_f (k:Int) (hk:k=0∨k=1∨k=2) (n:Nat) (hn:n≤1000) (s:List UInt8) (hs:s.length≤1000):rounds_Rounds.f k (B s) (n:Int)=some (B (roundsL k n s),true):=by
 unfold rounds_Rounds.f
 rw [if_pos ⟨hk,zu4,zu4,by rw [size_B];exact hs⟩,B_data,Int.toNat_natCast]
theorem serial_f (k:Int) (hk:k=0∨k=1∨k=2) (s:List UInt8) (hs:s.length≤100000):rounds_Serial.f k (B s)=some (B (serL k s)):=by
 unfold rounds_Serial.f
 rw [if_pos ⟨by rw [size_B];exact hs,zu4,zu4⟩,B_data]
theorem awake24:flaillaw24_awake.f=some true:=by
 unfold flaillaw24_awake.f
 rw [show (⟨#[97,34,98,60]⟩:ByteArray)=B [97,34,98,60] from rfl,show (⟨#[10,97]⟩:ByteArray)=B [10,97] from rfl,show (⟨#[97,38,194,160]⟩:ByteArray)=B [97,38,194,160] from rfl,
  round_f 1 zu15 _ zu15,show (3:Int)=((3:Nat):Int) from rfl,rounds_f 2 zu15 3 zu15 _ zu15,serial_f 0 zu15 _ zu15]
 simp only [Option.bind_some,toList_B,if_true]
 rw [show roundL 1 [97,34,98,60]=[97,34,98,60] by decide +kernel,show roundsL 2 3 [10,97]=[97] by decide +kernel,show serL 0 [97,38,194,160]=[97,38,97,109,112,59,38,110,98,115,112,59] by decide +kernel]
 rfl
end Pro
namespace Hand
open Go Go.RowKit Pl Pb Pro Go.Proofs.YtclkdmmgibgamaaGreatDoor.So YtclkdmmgibgamaaGreatDoorW.PrintWords
end Hand
end

section
namespace Hand
open Go Go.RowKit K0 Pl Pb Sa St Go.Proofs.YtclkdmmgibgamaaGreatDoor.Pure YtclkdmmgibgamaaGreatDoorW.PrintWords YtclkdmmgibgamaaGreatDoorW.PrintLast YtclkdmmgibgamaaGreatDoorW.PrintMore
theorem mod_three {d:Int} (h:(Lit.int .u8 d).wf=true):∃ k,d.tmod 3=k∧(k=0∨k=1∨k=2):=by
 have hw:IntKind.u8.min≤d∧d≤IntKind.u8.max:=by simpa [Lit.wf] using h
 have hd0:0≤d:=Int.le_trans zu15 hw.1
 exact ⟨_,rfl,by rw [Int.tmod_eq_emod_of_nonneg hd0];omega⟩
theorem mod_ten {d:Int} (h:(Lit.int .u8 d).wf=true):∃ k:Nat,d.tmod 10=(k:Int)∧k≤9:=by
 have hw:IntKind.u8.min≤d∧d≤IntKind.u8.max:=by simpa [Lit.wf] using h
 have hd0:0≤d:=Int.le_trans zu15 hw.1
 refine ⟨(d.tmod 10).toNat,?_,?_⟩<;>rw [Int.tmod_eq_emod_of_nonneg hd0]<;>omega
theorem sann_len {k:Int} (hk:k=0∨k=1∨k=2) (s:List UInt8) (hs:s.length≤300):(sanL k s).length≤5400:=by
 have:=san_len k s zu4
 omega
theorem RoundsStay_law (a0:Int) (a1:Option Addr) (len1 cap1:Nat) (z1:List Int) (a2:Int) (w:World) (w0:(Lit.int .u8 a0).wf=true) (w1:RowU8 w a1 len1 cap1 z1) (_:len1*1≤140737488351232) (w2:(Lit.int .u8 a2).wf=true) (hGl:Glob w) :
  Calls Tryz.prog 9 #[.int .u8 a0,.slice a1 len1 cap1,.int .u8 a2] w fun e w'=>e = .returned (.bool true)∧Below w.heap.size w w':=by
 obtain ⟨l,rfl,hr,hm,hw,hc⟩:=ReadsInt.ofRowC w1
 have hv:=byt_of (Kd.C_of_reads (d:=(0:Int)) (h1:=fun _=>rfl) hr) cap1
 have hn:=numsB_len l
 obtain ⟨s,hs⟩:∃ s,numsB l=s:=⟨_,rfl⟩
 rw [hs] at hv hn
 have AW:=Lib.hid (fun W hG=>So.flaillaw24_awake.calls true W hG Pro.awake24)
 have HG:=Lib.hid hGl
 clear hr hm hw hc w1 hs
 obtain ⟨n,hnn⟩:∃ n,l.length=n:=⟨_,rfl⟩
 rw [hnn] at hv hn ⊢
 clear hnn
 by_cases c1:300<n
 ·have q1:decide (300<n)=true:=decide_eq_true c1
  have q1':decide ((300:Int)<(n:Int))=true:=decide_eq_true zu4
  clear c1 hv hn
  go_enter Tryz.func9,Tryz.ntmps9
  go_wp2_with fail
  refine (AW.out _ HG.out).mono ?_
  rintro e w1 ⟨rfl,hb⟩
  go_wp2_with fail
  go_ret
  exact ⟨rfl,hb⟩
 have q1:decide (300<n)=false:=decide_eq_false c1
 have q1':decide ((300:Int)<(n:Int))=false:=decide_eq_false zu4
 obtain ⟨k,m1,hk3⟩:=mod_three w0
 obtain ⟨p,m2,hp9⟩:=mod_ten w2
 have m3:wrap64 k=k:=by unfold wrap64;omega
 have m4:wrap64 (p:Int)=(p:Int):=by unfold wrap64;omega
 have zl:=sann_len hk3 s zu4
 have xl:=ext_length s
 have hsk:=san_same k zu4 s
 have SA:Hid (∀ W,Glob W→Below w.heap.size w W→Calls Tryz.prog 18 #[.int .i64 k,.slice a1 n cap1] W fun e w'=>e = .returned (.string (B (sanL k s)))∧Below W.heap.size W w'):=Lib.hid (fun W hG hb=>sanitize_c k s _ zu4 W hG (hv.step hb))
 have V:=Lib.hid (byt_conv (sanL k s))
 have DE:Hid (∀ W v,Byt (sanL k s) v W→Calls Tryz.prog 17 #[v] W fun e w'=>e = .returned (.string (B (sanL k s)))∧Below W.heap.size W w'):=Lib.hid (fun W v hv=>by
  have:=decode_b hv zu4
  rwa [dec_san] at this)
 have PA:Hid (∀ W,Glob W→Calls Tryz.prog 23 #[.int .i64 k,.bool false,.string (B (sanL k s))] W fun e w'=>e = .returned (.tuple #[.string (B (extL s)),.bool true])∧Below W.heap.size W w'):=Lib.hid (fun W hG=>by
  have:=parse_c k false (sanL k s) zu4 W hG
  rwa [hsk,parse_esc (ext_no s).1 (ext_ne10 s) k hk3 false,← hsk] at this)
 have hro:=rounds_of (ext_no s).1 (ext_no s).2 (ext_ne10 s) k
 have RO:Hid (∀ W,Glob W→Calls Tryz.prog 28 #[.int .i64 k,.string (B (extL s)),.int .i64 (p:Int)] W fun e w'=>e = .returned (.tuple #[.string (B (extL s)),.bool true])∧Below W.heap.size W w'):=Lib.hid (fun W hG=>by
  have:=rounds_c k hk3 p zu4 (extL s) (fun j _=>by rw [hro];omega) W hG
  rwa [hro] at this)
 have EX:Hid (∀ W,Glob W→Below w.heap.size w W→Calls Tryz.prog 15 #[.slice a1 n cap1] W fun e w'=>e = .returned (.string (B (extL s)))∧Below W.heap.size W w'):=Lib.hid (fun W hG hb=>extract_c s _ zu4 W hG (hv.step hb))
 obtain ⟨a,ha⟩:∃ a,B (sanL k s)=a:=⟨_,rfl⟩
 obtain ⟨t,ht⟩:∃ t,sanL k s=t:=⟨_,rfl⟩
 obtain ⟨x,hx⟩:∃ a,B (extL s)=a:=⟨_,rfl⟩
 rw [ha] at SA V DE PA
 rw [ht] at V DE
 rw [hx] at PA EX RO
 clear ha ht hx zl xl hro hsk hv hk3 hp9 hn c1 w0 w2 hGl
 go_enter Tryz.func9,Tryz.ntmps9
 go_wp2_with fail
 refine (AW.out _ HG.out).mono ?_
 rintro e w1 ⟨rfl,hb⟩
 have HB:=Lib.hid hb
 clear hb
 go_wp2_with fail
 refine (EX.out _ (HG.out.step HB.out) HB.out).mono ?_
 rintro e w6 ⟨rfl,hb⟩
 replace HB:=Lib.hid (HB.out.trans (hb.mono HB.out.size))
 clear hb
 go_wp2_with fail
 refine (SA.out _ (HG.out.step HB.out) HB.out).mono ?_
 rintro e w2 ⟨rfl,hb⟩
 replace HB:=Lib.hid (HB.out.trans (hb.mono HB.out.size))
 clear hb
 obtain ⟨v,w3,hv3,hb,D⟩:=V.out w2
 have HB4:=Lib.hid (HB.out.trans (hb.mono HB.out.size))
 have HD:=Lib.hid (DE.out _ _ D)
 clear hb D V DE
 go_wp2_with fail
 refine HD.out.mono ?_
 rintro e w4 ⟨rfl,hb⟩
 replace HB:=Lib.hid (HB4.out.trans (hb.mono HB4.out.size))
 clear hb hv3 HD HB4
 go_wp2_with fail
 refine (PA.out _ (HG.out.step HB.out)).mono ?_
 rintro e w5 ⟨rfl,hb⟩
 replace HB:=Lib.hid (HB.out.trans (hb.mono HB.out.size))
 clear hb
 go_wp2_with fail
 refine (RO.out _ (HG.out.step HB.out)).mono ?_
 rintro e w7 ⟨rfl,hb⟩
 replace HB:=Lib.hid (HB.out.trans (hb.mono HB.out.size))
 clear hb
 go_wp2_with fail
 go_ret
 exact ⟨zu19,HB.out⟩
end Hand
end

end Go.Proofs.YtclkdmmgibgamaaGreatDoor
section
namespace Go.Proofs.YtclkdmmgibgamaaGreatDoorW.PrintWords
open Go.ChangeShapes Go.WideShapes
theorem sized_ints {H:Type} {enc:TypeId×Value→H} {P:Program} {W:World} {base:Nat} {spare:Nat→Bool} {held:Bool} {t e:TypeId} {k:IntKind} {a:Option Addr} {len cap:Nat} {d:DataW H} {ps:List MemPlace} {ts:List TypeId} {ds:List (DataW H)} {j:Nat}
  (hsz:(DataW.weightsEach P ts ds).all (· ≤ reachBytes)=true) (ht:ts[j]? = some t) (hd:ds[j]? = some d) (hu:P.underlying t=some (.slice e)) (he:P.underlying e=some (.int k)) (hc:P.cellsOf e=1) {B:Nat} (hB:P.bytesOf e=B)
  (h:DataW.Trod enc P W base spare held t (.slice a len cap) d ps):len*B≤140737488351232:=by
 obtain ⟨fuel,hf⟩:=h
 rcases open_ints hu he hc hf with ⟨hcs,_⟩|⟨x,l,c,zs,hcs,_,hl,_,hz,hx,_,_⟩
 ·simp [Value.cells] at hcs
  obtain ⟨rfl,rfl,rfl⟩:=hcs
  simp
 ·simp [Value.cells] at hcs
  obtain ⟨rfl,rfl,rfl⟩:=hcs
  obtain ⟨hx,_⟩:=Prod.mk.inj hx
  subst hx
  have z:=sized_slice hsz ht hd hu
  rw [hB] at z
  have hl2:len≤zs.length:=by
   rw [hz]
   split
   ·exact hl
   ·exact Nat.le_refl _
  have h1:(lits (H:=H) k (zs.take len)).length+(lits (H:=H) k (zs.drop len)).length=zs.length:=by
   simp [lits]
   omega
  rw [h1] at z
  exact Nat.le_trans (Nat.mul_le_mul_right _ hl2) z
end Go.Proofs.YtclkdmmgibgamaaGreatDoorW.PrintWords
end
