/-
  Texts of the claim SafeWritten, merged by a program of this session (1).
-/
import Derived.Test.YtclkdmmgibgamaaGreatDoorZug
import Derived.Shelf.Strings.Builder1
import Derived.Shelf.Strings.Builder2
import Derived.Shelf.Small.Strs
import Derived.Shelf.Small.Wraps
import Derived.Shelf.Strings.BuilderF
import Derived.Shelf.Strings.BuilderK
import Derived.Shelf.Utf8.RuneCount
import Derived.Shelf.Strconv.Itoa0
import Derived.Shelf.LaysM
import Derived.Shelf.Strconv.Clone
import Derived.Shelf.Strconv.SyntaxError
import Derived.Shelf.LaysC
import Derived.Shelf.Strconv.ToError
import Derived.Shelf.Strconv.Lower
import Derived.Shelf.Strconv.ParseUintEmpty
import Derived.Shelf.Strings.Search1
import Derived.Shelf.Strings.Search2
import Derived.Shelf.Strings.Search3
import Derived.Shelf.Strings.Cut
import Derived.Shelf.Strings.Count
import Derived.Shelf.Strings.Shaped
import Derived.Shelf.Strings.LastIndex
import Derived.Shelf.Strings.Prefix
import Derived.Shelf.Strings.Split
import Derived.Shelf.Strings.Replace
import Derived.Shelf.Strings.SplitShaped
import Derived.Shelf.Unicode.Decode
import Derived.Shelf.Strings.RuneCount
import Derived.Shelf.Bits.Mul64
import Derived.Shelf.Unicode.DecodeSlow
import Derived.Shelf.Unicode.DecodeAny
import Derived.Ground.SlgfProg
import Derived.Shelf.SlicesE.IndexFunc
import Derived.Shelf.SlicesE.DeleteFunc
import Derived.Test.YtclkdmmgibgamaaGreatDoorProg
import Derived.Lib.Replace
import Derived.Lib.CountLaws
import Derived.Lib.IndexLaws
import Derived.Below
import Derived.Deep.Draws
import Derived.Deep.AppendLies
import Derived.Maps.AppendAt
import Derived.OwnWalk
import Derived.Laws.BytesArg
import Derived.Laws.MakeOwn
import Derived.Laws.OwnMore
import Derived.Deep.OwnRows
import Derived.Tactics
import Derived.Lib.ConvBytes
import Derived.Laws.Slices
import Derived.WalkKit
import Derived.KernelRfl
import Derived.RowKit3
import Derived.Deep.LoopGhost
import Derived.Deep.QuietTactic
import Derived.BigQuiet
import Derived.WideLaws
import Derived.Deep.DeepCutAuto
import Derived.Deep.CutBlock
import Derived.Deep.RegionHeld3
import Derived.Laws.Rows
import Derived.Lib.AppendStr
import Derived.ArgAppend
import Derived.Laws.IdiomCopy
import Derived.RowKit
import Derived.OrdersHeld
import Derived.Laws.BitsLemmas
import Derived.Laws.Runes
import Derived.SizedLaws
import Derived.ChangeSlices
set_option linter.unusedVariables false
set_option linter.unusedSimpArgs false
namespace Go.Proofs.YtclkdmmgibgamaaGreatDoor
theorem zv1{p:Prop}(h:p:=by unfold SafeR;rw [K13.out,if_neg (by decide),if_pos (by decide)];exact ⟨true,HX.out,by rw [K60.out];rfl⟩):p:=h
theorem zv2{p:Prop}(h:p:=by unfold SafeR;rw [K13.out,if_neg (by decide),if_pos (by decide)];exact ⟨false,HX.out,rfl⟩):p:=h
theorem zv3{p:Prop}(h:p:=by unfold SafeR;rw [K13.out,if_neg (by decide),if_neg (by decide),if_pos (by decide),K60.out]):p:=h
theorem zv4{p:Prop}(h:p:=by rw [Decidable.not_not,contO_iff];exact ⟨_,rfl,by omega,by omega⟩):p:=h
end Go.Proofs.YtclkdmmgibgamaaGreatDoor
set_option maxRecDepth 100000
set_option maxHeartbeats 16000000
namespace Foot
end Foot
namespace Go.Proofs
end Go.Proofs
namespace Go.Proofs.YtclkdmmgibgamaaGreatDoor.Hand
end Go.Proofs.YtclkdmmgibgamaaGreatDoor.Hand
namespace Go.Proofs.YtclkdmmgibgamaaGreatDoor.K0
end Go.Proofs.YtclkdmmgibgamaaGreatDoor.K0
namespace Go.Proofs.YtclkdmmgibgamaaGreatDoor.Pb
end Go.Proofs.YtclkdmmgibgamaaGreatDoor.Pb
namespace Go.Proofs.YtclkdmmgibgamaaGreatDoor.Pcb
end Go.Proofs.YtclkdmmgibgamaaGreatDoor.Pcb
namespace Go.Proofs.YtclkdmmgibgamaaGreatDoor.Pcm
end Go.Proofs.YtclkdmmgibgamaaGreatDoor.Pcm
namespace Go.Proofs.YtclkdmmgibgamaaGreatDoor.Pcq
end Go.Proofs.YtclkdmmgibgamaaGreatDoor.Pcq
namespace Go.Proofs.YtclkdmmgibgamaaGreatDoor.Pl
end Go.Proofs.YtclkdmmgibgamaaGreatDoor.Pl
namespace Go.Proofs.YtclkdmmgibgamaaGreatDoor.Pro
end Go.Proofs.YtclkdmmgibgamaaGreatDoor.Pro
namespace Go.Proofs.YtclkdmmgibgamaaGreatDoor.Pure
end Go.Proofs.YtclkdmmgibgamaaGreatDoor.Pure
namespace Go.Proofs.YtclkdmmgibgamaaGreatDoor.RowKit
end Go.Proofs.YtclkdmmgibgamaaGreatDoor.RowKit
namespace Go.Proofs.YtclkdmmgibgamaaGreatDoor.Sa
end Go.Proofs.YtclkdmmgibgamaaGreatDoor.Sa
namespace Go.Proofs.YtclkdmmgibgamaaGreatDoor.Sf
end Go.Proofs.YtclkdmmgibgamaaGreatDoor.Sf
namespace Go.Proofs.YtclkdmmgibgamaaGreatDoor.Si
end Go.Proofs.YtclkdmmgibgamaaGreatDoor.Si
namespace Go.Proofs.YtclkdmmgibgamaaGreatDoor.Sk
end Go.Proofs.YtclkdmmgibgamaaGreatDoor.Sk
namespace Go.Proofs.YtclkdmmgibgamaaGreatDoor.So
end Go.Proofs.YtclkdmmgibgamaaGreatDoor.So
namespace Go.Proofs.YtclkdmmgibgamaaGreatDoor.Sp
end Go.Proofs.YtclkdmmgibgamaaGreatDoor.Sp
namespace Go.Proofs.YtclkdmmgibgamaaGreatDoor.St
end Go.Proofs.YtclkdmmgibgamaaGreatDoor.St
namespace Go.Proofs.YtclkdmmgibgamaaGreatDoor.Sx
end Go.Proofs.YtclkdmmgibgamaaGreatDoor.Sx
namespace Go.Proofs.YtclkdmmgibgamaaGreatDoorW.PrintLast
end Go.Proofs.YtclkdmmgibgamaaGreatDoorW.PrintLast
namespace Go.Proofs.YtclkdmmgibgamaaGreatDoorW.PrintMore
end Go.Proofs.YtclkdmmgibgamaaGreatDoorW.PrintMore
namespace Go.Proofs.YtclkdmmgibgamaaGreatDoorW.PrintWords
end Go.Proofs.YtclkdmmgibgamaaGreatDoorW.PrintWords
namespace Kd
end Kd

section
namespace Go.Proofs
open Go.Shelf
def Tryz.lays144_ren:Go.Shelf.Ren:=⟨fun|144=>86|143=>119|219=>156|217=>120|225=>181|224=>182|267=>183|266=>157|314=>198|n=>n,fun|9=>9|4=>4|3=>3|5=>5|46=>190|146=>219|51=>145|n=>n,fun|1=>0|n=>n⟩
theorem Tryz.lays144:Go.Proofs.Lays.n144 Tryz.prog Tryz.lays144_ren:={
 mixed:=by kernel_rfl
 f143:=Tryz.func119.trans (congrArg some (by kernel_rfl))
 f144:=Tryz.func86.trans (congrArg some (by kernel_rfl))
 f217:=Tryz.func120.trans (congrArg some (by kernel_rfl))
 f219:=Tryz.func156.trans (congrArg some (by kernel_rfl))
 f224:=Tryz.func182.trans (congrArg some (by kernel_rfl))
 f225:=Tryz.func181.trans (congrArg some (by kernel_rfl))
 f266:=Tryz.func157.trans (congrArg some (by kernel_rfl))
 f267:=Tryz.func183.trans (congrArg some (by kernel_rfl))
 f314:=Tryz.func198.trans (congrArg some (by kernel_rfl))
 t3:=Tryz.underlying3
 a3:=Tryz.isAgg3
 z3:=Tryz.sizeOf3
 v3:=Tryz.zeroValue3
 t4:=Tryz.underlying4
 a4:=Tryz.isAgg4
 z4:=Tryz.sizeOf4
 v4:=Tryz.zeroValue4
 t5:=Tryz.underlying5
 a5:=Tryz.isAgg5
 z5:=Tryz.sizeOf5
 v5:=Tryz.zeroValue5
 t9:=Tryz.underlying9
 a9:=Tryz.isAgg9
 z9:=Tryz.sizeOf9
 v9:=Tryz.zeroValue9
 t46:=Tryz.underlying190
 a46:=Tryz.isAgg190
 z46:=Tryz.sizeOf190
 v46:=Tryz.zeroValue190
 t51:=Tryz.underlying145
 a51:=Tryz.isAgg145
 z51:=Tryz.sizeOf145
 v51:=Tryz.zeroValue145
 t146:=Tryz.underlying219
 a146:=Tryz.isAgg219
 z146:=Tryz.sizeOf219
 v146:=Tryz.zeroValue219
 g1:=by kernel_rfl }
open Go.RowKit Go.Lib in
theorem Tryz.strings_Contains_one (s:ByteArray) (c:UInt8) (w:World) :
 Calls Tryz.prog 86 #[.string s,.string ⟨#[c]⟩] w fun e w'=>e = .returned (.bool (decide (0≤Lib.indexByte s.data.toList c)))∧w'=w:=Any.strings_Contains_one Tryz.lays144 s c w
end Go.Proofs
end

namespace Go.Proofs.YtclkdmmgibgamaaGreatDoor
section
namespace Pl
open Go
theorem normF_true_ne {d:UInt8} {r:List UInt8} (h:d≠10):normF true (d::r)=normF false (d::r):=by simp [normF,h]
theorem cleanL_of_no0:∀ {l:List UInt8},(0:UInt8)∉l→cleanL l=l
 | [],_=>rfl
 | c::r,h=>by
   have h1:c≠0:=fun e=>h (by simp [e])
   rw [cleanL_cons,cleanL_of_no0 (fun e=>h (by simp [e]))];simp [cleanB,h1]
theorem normF_no13 (l:List UInt8):∀ b,(13:UInt8)∉normF b l:=by
 induction l with
 | nil=>intro b;simp [normF]
 | cons c r ih =>
   intro b
   simp only [normF]
   split
   ·exact ih _
   ·split
    ·simp [ih]
    ·rename_i h;simp only [List.mem_cons,not_or];exact ⟨fun e=>h e.symm,ih _⟩
theorem normL_no13 (l:List UInt8):(13:UInt8)∉normL l:=normF_no13 l false
theorem normL_of_no13:∀ {l:List UInt8},(13:UInt8)∉l→normL l=l
 | [],_=>rfl
 | c::r,h=>by
   have h1:c≠13:=fun e=>h (by simp [e])
   rw [normL_ne h1,normL_of_no13 (fun e=>h (by simp [e]))]
def flag13 (b:Bool) (l:List UInt8):Bool:=match l.getLast? with|some c=>c == 13|none=>b
theorem flag13_cons (b:Bool) (c:UInt8) (r:List UInt8):flag13 b (c::r)=flag13 (c == 13) r:=by
 cases r with
 | nil=>rfl
 | cons d r=>simp [flag13,List.getLast?_eq_some_getLast]
theorem normF_append (l m:List UInt8):∀ b,normF b (l++m)=normF b l++normF (flag13 b l) m:=by
 induction l with
 | nil=>intro b;rfl
 | cons c r ih =>
   intro b
   rw [flag13_cons,List.cons_append]
   simp only [normF]
   split
   ·rename_i h
    rw [ih,h.2];rfl
   ·split
    ·rename_i h;subst h;rw [ih];rfl
    ·rename_i h
     rw [ih,show (c == 13)=false by simpa using h];rfl
theorem normF_true_eq {m:List UInt8} (h:∀ r,m≠10::r):normF true m=normF false m:=by
 cases m with
 | nil=>rfl
 | cons d r=>exact normF_true_ne fun e=>h r (by rw [e])
end Pl
end

section
namespace Hand
open Go.RowKit
structure Live (w W:World) (L:List (Nat×Array Value)):Prop where
 glob:Glob W
 below:Below w.heap.size w W
 blk:∀ x∈L,x.1<W.heap.size∧Blk x.1 x.2 W
theorem Live.call {w W W':World} {L:List (Nat×Array Value)} (h:Live w W L) (hb:Below W.heap.size W W'):Live w W' L :=
 ⟨h.glob.step hb,h.below.trans (hb.mono h.below.size),fun x hx=>⟨Nat.lt_of_lt_of_le (h.blk x hx).1 hb.size,(h.blk x hx).2.below hb (h.blk x hx).1⟩⟩
end Hand
end

end Go.Proofs.YtclkdmmgibgamaaGreatDoor
section
set_option linter.unusedVariables false
set_option linter.unusedSimpArgs false
namespace Go.Proofs.YtclkdmmgibgamaaGreatDoorW.PrintWords
open Go.RowKit
section
variable {P : Program} {ops : Array Oper} {rest : List Oper} {o : Oper} {a : Act} {Q : Exit → Act → World → Prop}
end
section
variable {P : Program}
end
section
variable {P : Program} {ops : Array Oper} {rest : List Oper} {o : Oper} {a : Act} {Q : Exit → Act → World → Prop}
end
def LeO {α:Type} (a b:Option α):Prop := ∀ r,a=some r→b=some r
theorem LeO.refl {α:Type} (a:Option α):LeO a a:=fun _ h=>h
theorem LeO.none {α:Type} (b:Option α):LeO Option.none b:=fun _ h=>by cases h
theorem LeO.trans {α:Type} {a b c:Option α} (h:LeO a b) (k:LeO b c):LeO a c:=fun r hr=>k r (h r hr)
theorem more_rounds {α:Type} {g:Nat→Option α} (h:∀ k,LeO (g k) (g (k+1))) (k:Nat):∀ j,LeO (g k) (g (k+j))
 | 0=>LeO.refl _
 | j+1=>(more_rounds h k j).trans (h (k+j))
theorem at_rounds {α:Type} {g:Nat→Option α} (h:∀ k,LeO (g k) (g (k+1))) {k k':Nat} (hk:k≤k') {r:α} (hr:g k=some r):g k'=some r:=by
 have:=more_rounds h k (k' - k) r hr
 rwa [Nat.add_sub_cancel' hk] at this
section
variable {P : Program} {ops : Array Oper} {rest : List Oper} {o : Oper} {a : Act} {Q : Exit → Act → World → Prop}
end
theorem KeepBut.blk {w w1:World} {g g':Nat} {row:Option Nat} {o:Obj} (h:KeepBut w w1 g row) (hb:w.heap[g']? = some o) (hg:g'≠g) (hr:some g'≠row):w1.heap[g']? = some o:=(h.2 g' (blk_lt hb) hg hr).trans hb
theorem KeepBut.own {w w1:World} {g:Nat} {row:Option Nat} {base:Nat} {e:TypeId} {size n:Nat} {v:Value} {xs:List Value} (h:KeepBut w w1 g row) (ho:w.ownsRow base e size v n xs) (hg:v.ownBlock≠some g) (hr:v.ownBlock=none∨v.ownBlock≠row):w1.ownsRow base e size v n xs:=by
 obtain ⟨h1,h2⟩:=ho
 refine ⟨h1,?_⟩
 rcases h2 with h2|⟨b,cap,cur,rfl,hb,hh,r⟩
 ·exact .inl h2
 ·refine .inr ⟨b,cap,cur,rfl,hb,h.blk hh ?_ ?_,r⟩
  ·intro e
   exact hg (by rw [← e];rfl)
  ·rcases hr with hr|hr
   ·simp [Value.ownBlock] at hr
   ·exact hr
theorem Ev.of {α:Type} {g:Nat→Option α} {r:α} (hg:∀ k,LeO (g k) (g (k+1))) {k:Nat} (h:g k=some r):Ev g r:=⟨k,fun _ hk=>at_rounds hg hk h⟩
section
variable {P : Program} {ops : Array Oper} {o : Oper} {a : Act} {Q : Exit → Act → World → Prop} {K : Act → World → Prop}
end
section
variable {α : Type} {enc : α → Value} {d : α}
end
section
variable {α : Type} {P : Program} {ops : Array Oper} {rest : List Oper} {o : Oper} {a : Act} {Q : Exit → Act → World → Prop}
end
section
variable {P : Program}
end
section
variable {α : Type} {R R' : α → List Value → Prop} {e : TypeId} {size : Nat} {w w1 : World} {base : Nat} {v : Value} {ps : List α}
end
section
variable {P : Program} {ops : Array Oper} {rest : List Oper} {o : Oper} {a : Act} {Q : Exit → Act → World → Prop} {α : Type} {R : α → List Value → Prop}
end
section
variable {P : Program} {ops : Array Oper} {o : Oper} {a : Act} {Q : Exit → Act → World → Prop} {K : Act → World → Prop} {α : Type} {R : α → List Value → Prop}
end
section
variable {α : Type} {P : Program}
end
section
variable {P : Program} {ops : Array Oper} {rest : List Oper} {o : Oper} {a : Act} {Q : Exit → Act → World → Prop}
end
namespace Kd
section
variable {α : Type} {d : Kd α} {e : Nat} {w w1 : World} {base : Nat} {ok ok' : Nat → Prop} {v : Value} {xs : List α}
end
section
variable {P : Program} {ops : Array Oper} {rest : List Oper} {o : Oper} {a : Act} {Q : Exit → Act → World → Prop} {α : Type}
end
section
variable {P : Program} {ops : Array Oper} {o : Oper} {a : Act} {Q : Exit → Act → World → Prop} {Kc : Act → World → Prop} {α : Type}
end
theorem C_of_reads {α:Type} {enc:α→Value} {d:α} {h1:∀ x,(enc x).oneCell'=true} {w:World} {A:Option Addr} {n:Nat} {xs:List α} (h:ReadsOf enc d w A n xs):(scalar enc h1).C w A n xs:=by
 refine ⟨h.1,h.2.1,fun hn => ?_⟩
 obtain ⟨ad,e,hc⟩:=h.2.2 hn
 refine ⟨ad,e,fun j p hj=>⟨[enc p],rfl,rfl,fun i u hu => ?_⟩⟩
 obtain ⟨hl,hp⟩:=List.getElem?_eq_some_iff.1 hj
 have h2:=hc j (by have:=h.1;omega)
 rw [List.getD_eq_getElem?_getD,hj] at h2
 cases i with
 | zero =>
   have:enc p=u:=by simpa using hu
   subst this
   simpa [scalar] using h2
 | succ i=>simp at hu
end Kd
namespace Kd
section
variable {α : Type} {F : Kd α → Kd α} {sz : Nat} {E : List Nat} {hs : ∀ n, (upto F sz E n).sz = sz} {hE : ∀ n q, q ∈ (upto F sz E n).E → q ∈ E}
end
end Kd
namespace Kd
end Kd
namespace Kd
section
variable {α β : Type} {d : Kd α} {d' : Kd β} {e e' : Nat} {w w1 W : World} {base b b' : Nat} {ok ok' okv oku : Nat → Prop} {v u : Value} {xs : List α} {ys : List β}
end
section
variable {w W : World} {A : Option Addr} {n : Nat}
variable {α : Type} {enc : α → Value} {h1 : ∀ x, (enc x).oneCell' = true} {e base g cap : Nat} {ok : Nat → Prop} {xs : List α}
end
section
variable {P : Program} {ops : Array Oper} {rest : List Oper} {o : Oper} {a : Act} {Q : Exit → Act → World → Prop}
variable {α : Type}
end
end Kd
section
variable {P : Program}
end
section
variable {w w1 : World} {base n size : Nat} {e : TypeId} {v : Value} {xs : List Value}
end
section
variable {P : Program}
end
namespace Kd
section
variable {α : Type} {d : Kd α} {e : Nat} {w w1 W : World} {base : Nat} {ok ok' : Nat → Prop} {v : Value} {xs : List α}
end
section
variable {P : Program} {ops : Array Oper} {rest : List Oper} {o : Oper} {a : Act} {Q' : Exit → Act → World → Prop} {Kc : Act → World → Prop} {α : Type}
end
end Kd
namespace Kd
section
variable {α : Type} {d : Kd α} {e e' : Nat} {w w1 W : World} {base : Nat} {ok : Nat → Prop} {u v : Value} {xs : List α}
end
end Kd
namespace Kd
section
variable {α : Type} {d : Kd α} {e base g n cap : Nat} {ok okp : Nat → Prop} {W : World} {xs : List α}
end
end Kd
namespace Kd
section
variable {α : Type} {F : Kd α → Kd α} {sz : Nat} {E : List Nat} {hs : ∀ n, (upto F sz E n).sz = sz} {hE : ∀ n q, q ∈ (upto F sz E n).E → q ∈ E}
end
end Kd
namespace Kd
section
variable {P : Program} {ops : Array Oper} {rest : List Oper} {o : Oper} {a : Act} {Q : Exit → Act → World → Prop} {α : Type}
end
end Kd
namespace Kd
section
variable {P : Program} {ops : Array Oper} {rest : List Oper} {o : Oper} {a : Act} {Q : Exit → Act → World → Prop} {α : Type}
end
end Kd
namespace Kd
section
variable {α : Type} {k : Kd α} {w : World} {A : Option Addr} {xs : List α} {m c : Nat}
end
end Kd
section
variable {P : Program}
end
theorem string_of_reads {P:Program} {w:World} {src dst e:TypeId} {A:Option Addr} {n c:Nat} {xs:List Int} (hs:P.underlying src=some (.slice e)) (he:P.underlying e=some (.int .u8)) (hd:P.underlying dst=some .string)
  (h:ReadsInt w .u8 A n xs):(convert src dst (.slice A n c)).run P w = .ok (.string (strOfNums xs)) w:=by
 have hn:xs.length=n:=h.1
 rcases A with _|ad
 ·have h0:n=0:=by
   rcases Nat.eq_zero_or_pos n with h0|h0
   ·exact h0
   ·obtain ⟨ad,h',_⟩:=h.2.2 h0
    cases h'
  subst h0
  obtain rfl:xs=[]:=List.eq_nil_of_length_eq_zero hn
  exact run_convert_bytes_nil w src e hs he 0 c dst hd
 ·have hl:(loadCells ad n).run P w = .ok (xs.map (Value.int .u8)).toArray w:=by
   have:=run_loadCells_list (P:=P) w ad (xs.map (Value.int .u8)) (fun j v hj=>by
    have hjl:j<xs.length:=by
     rcases Nat.lt_or_ge j xs.length with h'|h'
     ·exact h'
     ·rw [List.getElem?_eq_none (by rw [List.length_map];exact h')] at hj
      cases hj
    obtain ⟨ad',he',hc⟩:=h.2.2 (by omega)
    injection he' with he'
    subst he'
    rw [hc j (by omega)]
    rw [List.getElem?_map,List.getElem?_eq_getElem hjl] at hj
    simp at hj
    subst hj
    simp [List.getD_eq_getElem?_getD,List.getElem?_eq_getElem hjl])
   simpa [hn] using this
  rw [run_convert_bytes_string w src dst e _ n c hs he hd,run_bytesToString w ad n c xs hl,foldl_push_bytes]
  simp [strOfNums,ByteArray.empty,ByteArray.emptyWithCapacity]
  rfl
theorem Kd.C_string {P:Program} {w:World} {src dst e:TypeId} {A:Option Addr} {n c:Nat} {xs:List Int} (hs:P.underlying src=some (.slice e)) (he:P.underlying e=some (.int .u8)) (hd:P.underlying dst=some .string)
  (h:(Kd.int .u8).C w A n xs):(convert src dst (.slice A n c)).run P w = .ok (.string (strOfNums xs)) w :=
 string_of_reads hs he hd (Kd.reads_of_C (enc:=Value.int .u8) (d:=(0:Int)) (h1:=fun _=>rfl) h)
theorem ReadsInt.nil (W:World) (k:IntKind):ReadsInt W k none ([]:List Int).length []:=⟨rfl,by simp,fun h=>absurd h (Nat.lt_irrefl 0)⟩
theorem ReadsInt.ofRow {k:IntKind} {w:World} {a:Option Addr} {len cap:Nat} {zs:List Int} (h:(a=none∧len=0∧cap=0∧zs=[])∨∃ x,a=some x∧len≤cap∧cap≤maxLen∧zs.length=cap∧(∀ i,i<zs.length→w.cell? (x.add i)=some (.int k (zs.getD i 0)))∧∀ n∈zs,(Lit.int k n).wf=true) :
  ∃ l:List Int,len=l.length∧ReadsInt w k a l.length l∧l.length≤maxLen∧∀ x∈l,(Lit.int k x).wf=true:=by
 rcases h with ⟨rfl,rfl,rfl,rfl⟩|⟨x,rfl,hl,hm,hz,hc,hw⟩
 ·exact ⟨[],rfl,ReadsInt.nil _ _,Nat.zero_le _,fun x hx=>by simp at hx⟩
 ·have e:(zs.take len).length=len:=by simp;omega
  have hm':len≤maxLen:=Nat.le_trans hl hm
  refine ⟨zs.take len,e.symm,⟨rfl,by rw [e];simpa [maxLen] using hm',fun _=>⟨x,rfl,fun j hj => ?_⟩⟩,by rw [e];exact hm',fun y hy=>hw y (List.mem_of_mem_take hy)⟩
  rw [e] at hj
  rw [hc j (by omega)]
  simp [List.getD,List.getElem?_take,hj]
theorem ReadsInt.ofRowC {k:IntKind} {w:World} {a:Option Addr} {len cap:Nat} {zs:List Int} (h:(a=none∧len=0∧cap=0∧zs=[])∨∃ x,a=some x∧len≤cap∧cap≤maxLen∧zs.length=cap∧(∀ i,i<zs.length→w.cell? (x.add i)=some (.int k (zs.getD i 0)))∧∀ n∈zs,(Lit.int k n).wf=true) :
  ∃ l:List Int,len=l.length∧ReadsInt w k a l.length l∧l.length≤maxLen∧(∀ x∈l,(Lit.int k x).wf=true)∧l.length≤cap:=by
 have hl:len≤cap:=by
  rcases h with ⟨_,rfl,rfl,_⟩|⟨_,_,h,_⟩
  ·exact Nat.le_refl _
  ·exact h
 obtain ⟨l,e,h1,h2,h3⟩:=ReadsInt.ofRow h
 exact ⟨l,e,h1,h2,h3,e ▸ hl⟩
namespace Kd
section
variable {α β : Type} {d : Kd α} {d' : Kd β} {e e' base base' n : Nat} {ok ok' : Nat → Prop} {w W w1 W1 : World} {v u : Value} {xs : List α} {ys : List β} {A : Option Addr} {c : Nat}
end
section
variable {α : Type} {enc : α → Value} {h1 : ∀ x, (enc x).oneCell' = true} {w W : World} {A : Option Addr} {n g : Nat} {xs : List α}
end
end Kd
namespace Kd
section
variable {α : Type} {d : Kd α} {e base g : Nat} {ok : Nat → Prop} {w w1 : World} {v : Value} {xs : List α} {o : Obj}
end
end Kd
section
variable {P : Program} {ops : Array Oper} {rest : List Oper} {o : Oper} {a : Act} {Q : Exit → Act → World → Prop}
end
namespace Kd
section
variable {α : Type} {enc : α → Value} {h1 : ∀ x, (enc x).oneCell' = true} {e base g n cap : Nat} {ok : Nat → Prop} {W : World} {xs : List α}
end
end Kd
section
variable {P : Program} {ops : Array Oper} {rest : List Oper} {o : Oper} {a : Act} {Q : Exit → Act → World → Prop}
end
namespace Kd
section
variable {α : Type} {enc : α → Value} {h1 : ∀ x, (enc x).oneCell' = true} {e base g n cap : Nat} {ok : Nat → Prop} {W : World} {xs : List α}
end
end Kd
section
variable {P : Program} {ops : Array Oper} {rest : List Oper} {o : Oper} {a : Act} {Q : Exit → Act → World → Prop} {W : World}
end
section
variable {P : Program} {ops : Array Oper} {o : Oper} {a : Act} {Q : Exit → Act → World → Prop} {Kc : Act → World → Prop}
namespace Kd
variable {α : Type}
end Kd
end
section
variable {P : Program} {tmps : Array Value} {w : World}
end
namespace Kd
section
variable {P : Program} {α : Type}
end
section
variable {P : Program} {ops : Array Oper} {rest : List Oper} {o : Oper} {a : Act} {Q : Exit → Act → World → Prop} {Kc : Act → World → Prop} {α : Type}
end
end Kd
end Go.Proofs.YtclkdmmgibgamaaGreatDoorW.PrintWords
end

section
namespace Go.Proofs.YtclkdmmgibgamaaGreatDoorW.PrintWords
open Go.RowKit
namespace Kd
section
variable {α β : Type} {d : Kd α} {d' : Kd β} {e e' : Nat} {w w1 W : World} {base b : Nat} {ok ok' okv oku : Nat → Prop} {u v : Value} {xs : List α} {ys : List β}
end
section
variable {α β : Type} {d : Kd α} {d' : Kd β} {e e' g : Nat} {w w1 W : World} {base b : Nat} {ok ok' okv oku : Nat → Prop} {u v : Value} {xs : List α} {ys : List β}
end
section
variable {P : Program} {ops : Array Oper} {rest : List Oper} {o : Oper} {a : Act} {Q : Exit → Act → World → Prop} {Kc : Act → World → Prop} {α : Type}
end
def gap {α:Type} (f:Nat→Nat) (d:Kd α) (i:Nat) (c:List Value):Kd (α×Nat) where
 sz:=d.sz
 E:=d.E
 K:=fun w x cs=>(x.2=i→cs=c∧cs.length=d.sz∧∀ u∈cs,u.oneCell'=true)∧(x.2≠i→d.K w x.1 cs)
 M:=fun w base ok x cs=>(x.2=i→cs=c∧cs.length=d.sz∧∀ u∈cs,u.oneCell'=true)∧(x.2≠i→d.M w base (fun k=>ok k∧f k=x.2) x.1 cs)
 K_len:=fun {w x cs} h=>by
  by_cases hx:x.2=i
  ·exact (h.1 hx).2.1
  ·exact d.K_len (h.2 hx)
 K_one:=fun {w x cs} h=>by
  by_cases hx:x.2=i
  ·exact (h.1 hx).2.2
  ·exact d.K_one (h.2 hx)
 K_below:=fun hb h=>⟨h.1,fun hx=>d.K_below hb (h.2 hx)⟩
 K_of_M:=fun h=>⟨h.1,fun hx=>d.K_of_M (h.2 hx)⟩
 M_mono:=fun hok h=>⟨h.1,fun hx=>d.M_mono (fun k hk=>⟨hok k hk.1,hk.2⟩) (h.2 hx)⟩
 M_bound:=fun h=>⟨h.1,fun hx=>d.M_mono (fun _ hk=>⟨⟨hk.1.1,hk.2⟩,hk.1.2⟩) (d.M_bound (h.2 hx))⟩
 M_move:=fun hm h=>⟨h.1,fun hx=>d.M_move (fun k hk=>hm k hk.1) (h.2 hx)⟩
 M_lower:=fun hb h=>⟨h.1,fun hx=>d.M_lower hb (h.2 hx)⟩
def H {α:Type} (d:Kd α) (e:Nat) (w:World) (base:Nat) (ok:Nat→Prop) (v:Value) (xs:List α) (i:Int) (oki:Nat→Prop) (c:List Value):Prop :=
 (∀ k,oki k→ok k)∧∃ f,(gap f d i.toNat c).R e w base (fun k=>ok k∧¬ oki k) v xs.zipIdx
section
variable {α β : Type} {d : Kd α} {e e' g n cap : Nat} {w w1 W : World} {base : Nat} {ok ok' oki okp : Nat → Prop} {u v : Value} {xs : List α} {i : Int} {c : List Value}
end
section
variable {P : Program} {ops : Array Oper} {rest : List Oper} {o : Oper} {a : Act} {Q : Exit → Act → World → Prop} {α : Type}
end
end Kd
end Go.Proofs.YtclkdmmgibgamaaGreatDoorW.PrintWords
end

section
namespace Go.Proofs.YtclkdmmgibgamaaGreatDoorW.PrintWords
open Go.RowKit
namespace Kd
structure Heap {α:Type} (d:Kd α):Prop where
 K:∀ {w w1:World} {x:α} {cs:List Value},(∀ k,k<w.heap.size→w1.heap[k]? = w.heap[k]?)→d.K w x cs→d.K w1 x cs
theorem cell_heap {w w1:World} (hb:∀ k,k<w.heap.size→w1.heap[k]? = w.heap[k]?) {a:Addr} {v:Value} (h:w.cell? a=some v):w1.cell? a=some v:=by
 have:=hb a.block (World.block_lt_of_cell? w a h)
 simpa [World.cell?,this] using h
theorem Heap.C {α:Type} {d:Kd α} (hd:Heap d) {w w1:World} {A:Option Addr} {n:Nat} {xs:List α} (hb:∀ k,k<w.heap.size→w1.heap[k]? = w.heap[k]?) (h:d.C w A n xs):d.C w1 A n xs :=
 ⟨h.1,h.2.1,fun hn=>by
   obtain ⟨ad,e,hc⟩:=h.2.2 hn
   refine ⟨ad,e,fun j p hj => ?_⟩
   obtain ⟨c,hs,hr,hcell⟩:=hc j p hj
   exact ⟨c,hs,hd.K hb hr,fun i u hu=>cell_heap hb (hcell i u hu)⟩⟩
section
variable {α : Type} {d : Kd α} {e base g n c : Nat} {ok : Nat → Prop} {w w0 W : World} {A : Option Addr} {xs : List α}
end
end Kd
end Go.Proofs.YtclkdmmgibgamaaGreatDoorW.PrintWords
end

section
namespace Go.Proofs.YtclkdmmgibgamaaGreatDoorW.PrintWords
open Go.RowKit
def Kept (w W:World) (S:Nat→Prop):Prop:=w.heap.size≤W.heap.size∧∀ i,i<w.heap.size→¬ S i→W.heap[i]? = w.heap[i]?
section
variable {w W W2 : World} {S S2 S' : Nat → Prop}
theorem Kept.mono (h:Kept w W S) (hs:∀ k,S k→S' k):Kept w W S':=⟨h.1,fun i hi hn=>h.2 i hi (fun hk=>hn (hs i hk))⟩
end
namespace Kd
section
variable {α : Type} {d : Kd α} {e base n c : Nat} {ok oki S S2 : Nat → Prop} {w w0 W W1 W2 : World} {v : Value} {A : Option Addr} {xs : List α} {i : Int} {cs : List Value}
end
end Kd
end Go.Proofs.YtclkdmmgibgamaaGreatDoorW.PrintWords
end

namespace Go.Proofs.YtclkdmmgibgamaaGreatDoor
section
namespace K0
open Go.RowKit YtclkdmmgibgamaaGreatDoorW.PrintWords YtclkdmmgibgamaaGreatDoorW.PrintLast YtclkdmmgibgamaaGreatDoorW.PrintMore
attribute [local go_sem] max2_int min2_int max_two min_two max_three min_three max_four min_four  
set_option linter.unusedVariables false
set_option linter.unusedSimpArgs false
structure S7 where
 f0:Int
 f1:Int
 f2:Bool
 f3:Int
structure S8 where
 f0:Int
 f1:Int
 f2:Bool
 f3:Int
def k8:Kd S8:=Kd.iso (Kd.pair (Kd.int .i64) (Kd.pair (Kd.int .i64) (Kd.pair Kd.bool (Kd.int .u8)))) (fun x:S8=>(x.f0,x.f1,x.f2,x.f3))
structure S13 where
 f0:ByteArray
 f1:Int
def k13:Kd S13:=Kd.iso (Kd.pair Kd.string (Kd.int .u64)) (fun x:S13=>(x.f0,x.f1))
structure S14 where
 f0:ByteArray
 f1:Int
def k14:Kd S14:=Kd.iso (Kd.pair Kd.string (Kd.int .u64)) (fun x:S14=>(x.f0,x.f1))
structure S29 where
 f0:Int
 f1:ByteArray
 f2:ByteArray
 f3:(List S105)
 f4:Bool
structure S97 where
 f0:Int
 f1:Int
structure S98 where
 f0:Int
 f1:Int
structure S104 where
 f0:ByteArray
 f1:ByteArray
structure S122 where
 f0:ByteArray
 f1:Int
structure S123 where
 f0:ByteArray
 f1:Int
structure S148 where
 f0:Int
 f1:Int
structure S149 where
 f0:Int
 f1:Int
structure S169 where
 f0:ByteArray
 f1:Int
structure S170 where
 f0:ByteArray
 f1:Int
structure S224 where
 f0:Int
 f1:Int
structure S225 where
 f0:Int
 f1:Int
structure S264 where
 f0:ByteArray
structure S265 where
 f0:ByteArray
end K0
end

section
namespace Pl
theorem begR_append (a b:List UInt8):∀ r,begR r (a++b)=(begR r a&&begR (r.drop a.length) b):=by
 induction a with
 | nil=>intro r;simp [begR]
 | cons d a ih =>
   intro r
   cases r with
   | nil=>simp [begR]
   | cons c r=>simp [begR,ih,Bool.and_assoc]
end Pl
end

section
namespace Hand
open Go Go.RowKit Pl Pb
def kyC (c:UInt8):Bool:=(decide (65≤c.toNat)&&decide (c.toNat≤90)) || (decide (97≤c.toNat)&&decide (c.toNat≤122)) || (decide (48≤c.toNat)&&decide (c.toNat≤57))
def hdC:List UInt8→Bool
 | []=>false
 | c::_=>(decide (65≤c.toNat)&&decide (c.toNat≤90)) || (decide (97≤c.toNat)&&decide (c.toNat≤122))
def keyOk (l:List UInt8):Bool:=decide ((kyL l).length≤32)&&((kyL l).dropLast.all kyC&&(hdC (kyL l)&&(match (kyL l).getLast? with|some c=>kyC c || c == 59|none=>false)))
def keysOk (T:List UInt8):Bool:=keyOk (linesOf T).1&&(linesOf T).2.all keyOk
theorem names_keys:keysOk namesL=true:=by kernel_rfl
theorem keys_all {T:List UInt8} (h:keysOk T=true) (p:Nat) (hp:St T p):keyOk (lnT T p)=true:=by
 unfold keysOk at h
 rw [Bool.and_eq_true,List.all_eq_true] at h
 rcases hp with rfl|⟨q,rfl,hq⟩
 ·rw [lines_head];exact h.1
 ·exact h.2 _ (lines_mem T q hq)
structure KeyP (k:List UInt8):Prop where
 le:k.length≤32
 pos:k≠[]
 inner:∀ c∈k.dropLast,kyC c=true
 head:hdC k=true
 last:∃ c,k.getLast? = some c∧(kyC c=true∨c=59)
theorem key_facts {k:List UInt8} (h:isKey namesL k):KeyP k:=by
 obtain ⟨p,h1,rfl⟩:=h
 have:=keys_all names_keys p h1
 unfold keyOk at this
 rw [Bool.and_eq_true,Bool.and_eq_true,Bool.and_eq_true,decide_eq_true_eq,List.all_eq_true] at this
 obtain ⟨g1,g2,g3,g4⟩:=this
 change (kyT namesL p).length≤32 at g1
 change hdC (kyT namesL p)=true at g3
 refine ⟨g1,?_,g2,g3,?_⟩
 ·intro e;rw [e] at g3;cases g3
 ·change (match (kyT namesL p).getLast? with|some c=>kyC c || c == 59|none=>false)=true at g4
  split at g4
  ·rename_i c hc
   refine ⟨c,hc,?_⟩
   simpa using g4
  ·cases g4
end Hand
end

section
namespace Pl
def scanE:Bool→List UInt8→Bool
 | o,[] => !o
 | o,c::r=>if c=60∨c=62∨c=34∨c=39∨c=0∨c=13 then false else if c=38 then !o&&scanE true r else if c=59 then scanE false r else scanE o r
theorem scan_plain {o:Bool} {c:UInt8} {r:List UInt8} (h1:c≠60) (h2:c≠62) (h3:c≠34) (h4:c≠39) (h5:c≠0) (h6:c≠13) (h7:c≠38):scanE o (c::r)=scanE (if c=59 then false else o) r:=by
 rw [scanE,if_neg (by simp [h1,h2,h3,h4,h5,h6]),if_neg h7]
 by_cases h:c=59<;>simp [h]
theorem scan_esc:∀ n (s:List UInt8),s.length≤n→scanE false (escL s)=true:=by
 intro n
 induction n with
 | zero=>intro s h;obtain rfl:=List.eq_nil_of_length_eq_zero (Nat.le_zero.1 h);rfl
 | succ n ih =>
   intro s h
   cases s with
   | nil=>rfl
   | cons c r =>
     have hr:=ih r (by simp at h;omega)
     refine esc_cases c r (fun l=>scanE false l=true) ?_ ?_ ?_ ?_ ?_ ?_ ?_ ?_ ?_
     all_goals try (intro _;simp [wAmp,wLt,wGt,wQuot,wApos,wCr,wBad,scanE,hr];done)
     ·intro q _ e
      have hq:=ih q (by subst e;simp at h;omega)
      simp [wMark,scanE,hq]
     ·intro h38 h60 h62 h34 h39 h13 h0 _
      rw [scan_plain h60 h62 h34 h39 h0 h13 h38]
      simp [hr]
theorem enc_length (k:Int) (s:List UInt8):(encL k s).length≤6*s.length:=by
 have h:=esc_length s.length s (Nat.le_refl _)
 unfold encL
 split
 ·exact h.1
 ·split
  ·split
   ·rename_i h10;have:=h.2 h10;simp;omega
   ·exact h.1
  ·simp
end Pl
end

section
namespace Pl
open Go
def rightK:Nat→List UInt8→Bool
 | _,[]=>true
 | k+1,_::r=>rightK k r
 | 0,c::r=>(firstU (c::r)).2&&rightK ((firstU (c::r)).1 - 1) r
def rightL (s:List UInt8):Bool:=rightK 0 s
theorem rightK_skip:∀ (k:Nat) (s:List UInt8),rightK k s=rightL (s.drop k):=by
 intro k
 induction k with
 | zero=>intro s;rfl
 | succ k ih =>
   intro s
   cases s with
   | nil=>rfl
   | cons c r=>exact ih r
theorem rightL_cons (c:UInt8) (r:List UInt8):rightL (c::r)=((firstU (c::r)).2&&rightL ((c::r).drop (firstU (c::r)).1)):=by
 unfold rightL
 rw [rightK,rightK_skip]
 have h:=(firstU_pos c r).1
 obtain ⟨n,hn⟩:∃ n,(firstU (c::r)).1=n+1:=⟨(firstU (c::r)).1 - 1,zu4⟩
 rw [hn]
 rfl
structure Kd (c lo hi n:Nat):Prop where
 one:(tailN c).2.2=n
 lo_:(tailN c).1=lo
 hi_:(tailN c).2.1=hi
theorem kd_of {c lo hi n:Nat} (h:tailN c=(lo,hi,n)):Kd c lo hi n:=⟨by rw [h],by rw [h],by rw [h]⟩
theorem tail_1 {c:Nat} (h:c<194∨244<c):Kd c 128 191 1:=kd_of (by unfold tailN;rw [if_neg zu4,if_neg zu4,if_neg zu4,if_neg zu4,if_neg zu4,if_neg zu4,if_neg zu4])
theorem tail_2 {c:Nat} (h:194≤c∧c≤223):Kd c 128 191 2:=kd_of (by unfold tailN;rw [if_pos h])
theorem tail_3 {c:Nat} (h:224≤c∧c≤239):∃ lo hi,Kd c lo hi 3∧128≤lo∧hi≤191∧(c=224→lo=160)∧(c=237→hi=159)∧(c≠224→lo=128)∧(c≠237→hi=191):=by
 by_cases h1:c=224
 ·exact ⟨160,191,kd_of (by subst h1;rfl),zu4⟩
 ·by_cases h2:c=237
  ·exact ⟨128,159,kd_of (by subst h2;rfl),zu4⟩
  ·exact ⟨128,191,kd_of (by unfold tailN;rw [if_neg zu4,if_neg h1,if_neg h2,if_pos zu4]),zu4⟩
theorem tail_4 {c:Nat} (h:240≤c∧c≤244):∃ lo hi,Kd c lo hi 4∧128≤lo∧hi≤191∧(c=240→lo=144)∧(c=244→hi=143)∧(c≠240→lo=128)∧(c≠244→hi=191):=by
 by_cases h1:c=240
 ·exact ⟨144,191,kd_of (by subst h1;rfl),zu4⟩
 ·by_cases h2:c=244
  ·exact ⟨128,143,kd_of (by subst h2;rfl),zu4⟩
  ·exact ⟨128,191,kd_of (by unfold tailN;rw [if_neg zu4,if_neg zu4,if_neg zu4,if_neg zu4,if_neg h1,if_neg h2,if_pos zu4]),zu4⟩
theorem first_bad1 {c:Nat} {d e f:Option Nat} (h:¬ c<128) (ht:(tailN c).2.2=1):firstN c d e f=(1,false):=by
 unfold firstN;rw [if_neg h,if_pos ht]
theorem contO_iff (o:Option Nat):contO o↔∃ x,o=some x∧128≤x∧x≤191:=by
 cases o with
 | none=>simp [contO]
 | some x=>simp [contO]
theorem inO_iff (lo hi:Nat) (o:Option Nat):inO lo hi o↔∃ x,o=some x∧lo≤x∧x≤hi:=by
 cases o with
 | none=>simp [inO]
 | some x=>simp [inO]
end Pl
end

section
namespace Pl
open Go
theorem firstN_in (c:Nat) (d e f:Option Nat) (h:(firstN c d e f).2=true) :
  (2≤(firstN c d e f).1→∃ x,d=some x∧x≤191)∧(3≤(firstN c d e f).1→∃ x,e=some x∧x≤191)∧(4≤(firstN c d e f).1→∃ x,f=some x∧x≤191):=by
 have ht:(tailN c).2.1≤191:=by
  by_cases h1:c<194∨244<c
  ·rw [(tail_1 h1).hi_];omega
  ·by_cases h2:c≤223
   ·rw [(tail_2 zu4).hi_];omega
   ·by_cases h3:c≤239
    ·obtain ⟨lo,hi,t,_,g,_⟩:=tail_3 (c:=c) zu4
     rw [t.hi_];exact g
    ·obtain ⟨lo,hi,t,_,g,_⟩:=tail_4 (c:=c) zu4
     rw [t.hi_];exact g
 have hd:inO (tailN c).1 (tailN c).2.1 d→∃ x,d=some x∧x≤191:=fun h=>by
  obtain ⟨x,h1,h2,h3⟩:=(inO_iff _ _ d).1 h
  exact ⟨x,h1,zu4⟩
 have hc:∀ o,contO o→∃ x,o=some x∧x≤191:=fun o h=>by
  obtain ⟨x,h1,h2,h3⟩:=(contO_iff o).1 h
  exact ⟨x,h1,zu4⟩
 revert h
 unfold firstN
 split
 ·simp
 ·split
  ·simp
  ·split
   ·simp
   ·rename_i h1
    have h1':=hd (Decidable.not_not.1 h1)
    split
    ·intro _;exact ⟨fun _=>h1',zu19,zu19⟩
    ·split
     ·simp
     ·rename_i h2
      have h2':=hc _ (Decidable.not_not.1 h2)
      split
      ·intro _;exact ⟨fun _=>h1',fun _=>h2',zu19⟩
      ·split
       ·rename_i h3
        intro _;exact ⟨fun _=>h1',fun _=>h2',fun _=>hc _ h3⟩
       ·simp
theorem firstU_in {c:UInt8} {r:List UInt8} (h:(firstU (c::r)).2=true) (j:Nat) (h1:1≤j) (h2:j<(firstU (c::r)).1):∃ x,(c::r)[j]? = some x∧x.toNat≤191:=by
 obtain ⟨g1,g2,g3⟩:=firstN_in _ _ _ _ h
 have h4:=(firstU_pos c r).2.2
 have key:∀ k,(∃ x,byteO r k=some x∧x≤191)→∃ x,(c::r)[k+1]? = some x∧x.toNat≤191:=by
  rintro k ⟨x,hx,hl⟩
  unfold byteO at hx
  rw [List.getElem?_cons_succ]
  cases hq:r[k]? with
  | none=>rw [hq] at hx;cases hx
  | some y=>rw [hq] at hx;cases hx;exact ⟨y,rfl,hl⟩
 have h2':j<(firstN c.toNat (byteO r 0) (byteO r 1) (byteO r 2)).1:=h2
 rcases (show j=1∨j=2∨j=3 by omega) with rfl|rfl|rfl
 ·exact key 0 (g1 zu4)
 ·exact key 1 (g2 zu4)
 ·exact key 2 (g3 zu4)
end Pl
end

section
namespace Pl
open Go
theorem firstN_cut {c:Nat} {d e f d' e' f':Option Nat} (h:(firstN c d e f).2=true) (hd:2≤(firstN c d e f).1→d'=d) (he:3≤(firstN c d e f).1→e'=e) (hf:4≤(firstN c d e f).1→f'=f):firstN c d' e' f'=firstN c d e f:=by
 revert h hd he hf
 unfold firstN
 by_cases h1:c<128
 ·rw [if_pos h1,if_pos h1];intros;rfl
 rw [if_neg h1,if_neg h1]
 by_cases h2:(tailN c).2.2=1
 ·rw [if_pos h2,if_pos h2];intros;rfl
 rw [if_neg h2,if_neg h2]
 by_cases h3:¬ inO (tailN c).1 (tailN c).2.1 d
 ·rw [if_pos h3];intro h;cases h
 rw [if_neg h3]
 by_cases h4:(tailN c).2.2=2
 ·rw [if_pos h4]
  intro _ hd _ _
  rw [hd zu19,if_neg h3,if_pos h4]
 rw [if_neg h4]
 by_cases h5:¬ contO e
 ·rw [if_pos h5];intro h;cases h
 rw [if_neg h5]
 by_cases h6:(tailN c).2.2=3
 ·rw [if_pos h6]
  intro _ hd he _
  rw [hd zu19,if_neg h3,if_neg h4,he zu19,if_neg h5,if_pos h6]
 rw [if_neg h6]
 by_cases h7:contO f
 ·rw [if_pos h7]
  intro _ hd he hf
  rw [hd zu19,if_neg h3,if_neg h4,he zu19,if_neg h5,if_neg h6,hf zu19,if_pos h7]
 ·rw [if_neg h7];intro h;cases h
def Sig (a:List UInt8):Prop:=a≠[]∧∀ Y,firstU (a++Y)=(a.length,true)
theorem byteO_take (r Y:List UInt8) (n k:Nat) (hk:k<n) (hn:n≤r.length):byteO (r.take n++Y) k=byteO r k:=by
 unfold byteO
 rw [List.getElem?_append_left (by rw [List.length_take];omega),List.getElem?_take_of_lt hk]
theorem sig_split {s:List UInt8} (h:rightL s=true) (hne:s≠[]):∃ a q,s=a++q∧Sig a∧rightL q=true:=by
 cases s with
 | nil=>exact absurd rfl hne
 | cons c r =>
   rw [rightL_cons,Bool.and_eq_true] at h
   obtain ⟨h1,h2⟩:=h
   obtain ⟨p1,p2,p3⟩:=firstU_pos c r
   obtain ⟨n,hn⟩:∃ n,(firstU (c::r)).1=n+1:=⟨(firstU (c::r)).1 - 1,zu4⟩
   rw [hn] at h2 p2 p3
   simp only [List.length_cons] at p2
   refine ⟨(c::r).take (n+1),(c::r).drop (n+1),(List.take_append_drop _ _).symm,⟨zu19,fun Y => ?_⟩,h2⟩
   rw [List.take_succ_cons,List.cons_append]
   show firstN c.toNat (byteO (r.take n++Y) 0) (byteO (r.take n++Y) 1) (byteO (r.take n++Y) 2)=_
   have hf:(firstN c.toNat (byteO r 0) (byteO r 1) (byteO r 2)).1=n+1:=hn
   rw [firstN_cut (d:=byteO r 0) (e:=byteO r 1) (f:=byteO r 2) h1 (fun h=>byteO_take _ _ _ _ zu4 zu4) (fun h=>byteO_take _ _ _ _ zu4 zu4) (fun h=>byteO_take _ _ _ _ zu4 zu4)]
   rw [List.length_cons,List.length_take,Nat.min_eq_left zu4,← hf]
   exact Prod.ext rfl h1
theorem right_app {a:List UInt8} (h:Sig a) (Y:List UInt8):rightL (a++Y)=rightL Y:=by
 obtain ⟨hne,h⟩:=h
 cases a with
 | nil=>exact absurd rfl hne
 | cons c r =>
   have:=h Y
   rw [List.cons_append] at this ⊢
   rw [rightL_cons,this]
   simp
theorem sig_ascii {c:UInt8} (h:c.toNat<128):Sig [c] :=
 ⟨zu19,fun Y=>by show firstN c.toNat _ _ _=_;unfold firstN;rw [if_pos h];rfl⟩
theorem right_ascii:∀ (w:List UInt8) (_:∀ c∈w,c.toNat<128) (Y:List UInt8),rightL (w++Y)=rightL Y:=by
 intro w
 induction w with
 | nil=>intro _ _;rfl
 | cons c w ih =>
   intro h Y
   rw [List.cons_append,← ih (fun x hx=>h x (by simp [hx])) Y]
   exact right_app (sig_ascii (h c zu19)) (w++Y)
theorem sig_bytes {a:List UInt8} (h:Sig a):(∃ c,a=[c]∧c.toNat<128)∨(∃ c q,a=c::q∧194≤c.toNat∧q≠[]∧q.length≤3∧∀ x∈q,128≤x.toNat∧x.toNat≤191):=by
 obtain ⟨hne,h⟩:=h
 cases a with
 | nil=>exact absurd rfl hne
 | cons c q =>
   have h1:=h []
   rw [List.append_nil] at h1
   by_cases hc:c.toNat<128
   ·left
    have:firstU (c::q)=(1,true):=by show firstN c.toNat _ _ _=_;unfold firstN;rw [if_pos hc]
    rw [this] at h1
    have:=(Prod.mk.inj h1).1
    simp only [List.length_cons] at this
    obtain rfl:=List.eq_nil_of_length_eq_zero (l:=q) zu4
    exact ⟨c,rfl,hc⟩
   ·right
    have h2:(firstU (c::q)).2=true:=by rw [h1]
    have h3:(firstU (c::q)).1=q.length+1:=by rw [h1];rfl
    have h4:=(firstU_pos c q).2.2
    have hc2:194≤c.toNat:=by
     rcases Nat.lt_or_ge c.toNat 194 with hlt|hge
     ·exfalso
      have:firstU (c::q)=(1,false):=first_bad1 (d:=byteO q 0) (e:=byteO q 1) (f:=byteO q 2) hc (tail_1 (.inl hlt)).one
      rw [this] at h2;cases h2
     ·exact hge
    have hge:∀ k,k<q.length→128≤((q[k]?).getD 0).toNat:=by
     intro k hk
     have key:∀ (d e f:Option Nat),(firstN c.toNat d e f).2=true→(2≤(firstN c.toNat d e f).1→∃ x,d=some x∧128≤x)∧(3≤(firstN c.toNat d e f).1→∃ x,e=some x∧128≤x)∧(4≤(firstN c.toNat d e f).1→∃ x,f=some x∧128≤x):=by
      intro d e f
      have ht:128≤(tailN c.toNat).1:=by
       by_cases g1:c.toNat<194∨244<c.toNat
       ·rw [(tail_1 g1).lo_];omega
       ·by_cases g2:c.toNat≤223
        ·rw [(tail_2 zu4).lo_];omega
        ·by_cases g3:c.toNat≤239
         ·obtain ⟨lo,hi,t,g,_⟩:=tail_3 (c:=c.toNat) zu4
          rw [t.lo_];exact g
         ·obtain ⟨lo,hi,t,g,_⟩:=tail_4 (c:=c.toNat) zu4
          rw [t.lo_];exact g
      have hd:inO (tailN c.toNat).1 (tailN c.toNat).2.1 d→∃ x,d=some x∧128≤x:=fun h=>by
       obtain ⟨x,h1,h2,h3⟩:=(inO_iff _ _ d).1 h
       exact ⟨x,h1,zu4⟩
      have hcc:∀ o,contO o→∃ x,o=some x∧128≤x:=fun o h=>by
       obtain ⟨x,h1,h2,h3⟩:=(contO_iff o).1 h
       exact ⟨x,h1,zu4⟩
      unfold firstN
      rw [if_neg hc]
      split
      ·simp
      ·split
       ·simp
       ·rename_i h1
        have h1':=hd (Decidable.not_not.1 h1)
        split
        ·intro _;exact ⟨fun _=>h1',zu19,zu19⟩
        ·split
         ·simp
         ·rename_i h2
          have h2':=hcc _ (Decidable.not_not.1 h2)
          split
          ·intro _;exact ⟨fun _=>h1',fun _=>h2',zu19⟩
          ·split
           ·rename_i h3
            intro _;exact ⟨fun _=>h1',fun _=>h2',fun _=>hcc _ h3⟩
           ·simp
     obtain ⟨k1,k2,k3⟩:=key _ _ _ h2
     have h3':(firstN c.toNat (byteO q 0) (byteO q 1) (byteO q 2)).1=q.length+1:=h3
     have use:∀ j,(∃ x,byteO q j=some x∧128≤x)→128≤((q[j]?).getD 0).toNat:=by
      rintro j ⟨x,hx,hl⟩
      unfold byteO at hx
      cases hq:q[j]? with
      | none=>rw [hq] at hx;cases hx
      | some y=>rw [hq] at hx;cases hx;exact hl
     rcases (show k=0∨k=1∨k=2 by omega) with rfl|rfl|rfl
     ·exact use 0 (k1 zu4)
     ·exact use 1 (k2 zu4)
     ·exact use 2 (k3 zu4)
    refine ⟨c,q,rfl,hc2,?_,zu4,?_⟩
    ·rintro rfl
     have:(firstU [c])=(1,true):=h1
     have g:=firstN_pos c.toNat (byteO [] 0) (byteO [] 1) (byteO [] 2)
     have:firstN c.toNat none none none=(1,true):=h1
     unfold firstN at this
     rw [if_neg hc] at this
     split at this
     ·cases this
     ·rw [if_pos (by simp [inO])] at this;cases this
    ·intro x hx
     obtain ⟨k,hk,rfl⟩:=List.getElem_of_mem hx
     obtain ⟨y,hy,hy2⟩:=firstU_in h2 (k+1) zu4 zu4
     rw [List.getElem?_cons_succ,List.getElem?_eq_getElem hk] at hy
     cases hy
     have:=hge k hk
     rw [List.getElem?_eq_getElem hk] at this
     exact ⟨this,hy2⟩
end Pl
end

section
namespace Hand
open Go Go.RowKit Pl Pb
def rowAt (T:List UInt8) (p:Nat) (key rest:List UInt8):Bool:=(T[p]? == some 10)&&(lnT T (p+1) == key++32::rest)
def wordAmp:List UInt8:=[97,109,112]
def wordLt:List UInt8:=[108,116]
def wordGt:List UInt8:=[103,116]
def wordQuot:List UInt8:=[113,117,111,116]
def wordNbsp:List UInt8:=[110,98,115,112]
theorem rows_are:(rowAt namesL 9820 (wordAmp++[59]) [50,54]&&(rowAt namesL 9813 wordAmp [50,54]&&(rowAt namesL 19023 (wordLt++[59]) [51,67]&&(rowAt namesL 15791 (wordGt++[59]) [51,69]&&(rowAt namesL 23656 (wordQuot++[59]) [50,50]&&rowAt namesL 20038 (wordNbsp++[59]) [65,48])))))=true:=by kernel_rfl
theorem row_fnd {p:Nat} {key rest:List UInt8} (h:rowAt namesL p key rest=true) (hk:∀ c∈key,c≠10∧c≠32):Fnd namesL key (some rest):=by
 unfold rowAt at h
 rw [Bool.and_eq_true,beq_iff_eq,beq_iff_eq] at h
 obtain ⟨h1,h2⟩:=h
 refine .inl ⟨p+1,.inr ⟨p,rfl,h1⟩,?_,?_⟩
 ·unfold kyT;rw [h2,ky_row hk]
 ·rw [h2];unfold rsL;rw [ky_row hk,List.drop_append,List.drop_eq_nil_of_le zu4,List.nil_append,show key.length+1 - key.length=1 by omega];rfl
theorem fnd_amp:Fnd namesL (wordAmp++[59]) (some [50,54]):=row_fnd (Bool.and_eq_true_iff.1 rows_are).1 zu15
theorem fnd_amp0:Fnd namesL wordAmp (some [50,54]):=row_fnd (Bool.and_eq_true_iff.1 (Bool.and_eq_true_iff.1 rows_are).2).1 zu15
theorem fnd_lt:Fnd namesL (wordLt++[59]) (some [51,67]):=row_fnd (Bool.and_eq_true_iff.1 (Bool.and_eq_true_iff.1 (Bool.and_eq_true_iff.1 rows_are).2).2).1 zu15
theorem fnd_gt:Fnd namesL (wordGt++[59]) (some [51,69]):=row_fnd (Bool.and_eq_true_iff.1 (Bool.and_eq_true_iff.1 (Bool.and_eq_true_iff.1 (Bool.and_eq_true_iff.1 rows_are).2).2).2).1 zu15
theorem fnd_quot:Fnd namesL (wordQuot++[59]) (some [50,50]):=row_fnd (Bool.and_eq_true_iff.1 (Bool.and_eq_true_iff.1 (Bool.and_eq_true_iff.1 (Bool.and_eq_true_iff.1 (Bool.and_eq_true_iff.1 rows_are).2).2).2).2).1 zu15
theorem fnd_key {key rest:List UInt8} (h:Fnd namesL key (some rest)):isKey namesL key:=(fnd_rest h).2.2
theorem nameT_of {key rest:List UInt8} (h:Fnd namesL key (some rest)):nameT key=(textB (num1 rest) (num2 rest)).data.toList:=by unfold nameT;rw [rowN_eq h]
theorem nameT_amp0:nameT wordAmp=[38]:=by rw [nameT_of fnd_amp0];decide +kernel
theorem lng_stop {k r:List UInt8} {c:UInt8} (hk:isKey namesL k) (hc:kyC c=false∧c≠59∨k.getLast? = some 59):lngN (k++c::r)=k.length:=by
 have hf:=key_facts hk
 refine lngN_eq ⟨?_,.inr (by rw [List.take_left];exact hk),fun m h1 h2 hm => ?_⟩
 ·have:=hf.le;simp;omega
 ·have hg:=key_facts hm
  have h2':m≤(k++c::r).length:=by omega
  obtain ⟨d,rfl⟩:∃ d,m=k.length+1+d:=⟨m - (k.length+1),zu4⟩
  have e:(k++c::r).take (k.length+1+d)=k++c::r.take d:=by
   rw [List.take_append,List.take_of_length_le zu4,show k.length+1+d - k.length=d+1 by omega,List.take_succ_cons]
  rw [e] at hg
  rcases hc with ⟨h3,h4⟩|h3
  ·
   cases hd:r.take d with
   | nil =>
     rw [hd] at hg
     obtain ⟨x,hx,hx2⟩:=hg.last
     simp at hx
     subst hx
     rcases hx2 with h|h
     ·rw [h3] at h;cases h
     ·exact h4 h
   | cons y t =>
     rw [hd] at hg
     have hmem:c∈(k++c::y::t).dropLast:=by
      rw [List.dropLast_append_of_ne_nil zu19]
      simp
     have:=hg.inner c hmem
     rw [h3] at this;cases this
  ·have hmem:(59:UInt8)∈(k++c::r.take d).dropLast:=by
    rw [List.dropLast_append_of_ne_nil zu19]
    exact List.mem_append_left _ (List.mem_of_getLast? h3)
   have:=hg.inner 59 hmem
   exact absurd this zu15
theorem num_letter {k r:List UInt8} (hk:isKey namesL k):numL (k++r)=none:=by
 have hf:=key_facts hk
 cases k with
 | nil=>exact absurd rfl hf.pos
 | cons c k =>
   have hh:=hf.head
   have h35:c≠35:=by rintro rfl;exact absurd hh (by simp [hdC])
   unfold numL
   rw [if_neg]
   simp [begR,h35]
   have:∀ n:Fin 256,lowB (UInt8.ofNat n.val)=35→UInt8.ofNat n.val=35:=by decide +kernel
   have h:=this ⟨c.toNat,c.toNat_lt⟩
   simp only [UInt8.ofNat_toNat] at h
   exact fun e=>h35 (h e)
theorem refN_semi {attr:Bool} {w:List UInt8} (r:List UInt8) (hk:isKey namesL (w++[59])):refN attr (38::(w++59::r))=(nameT (w++[59]),w.length+2):=by
 have hl:lngN (w++59::r)=w.length+1:=by
  cases r with
  | nil =>
    refine lngN_eq ⟨?_,.inr ?_,fun m h1 h2 _ => ?_⟩
    ·have:=(key_facts hk).le;simp at this ⊢;omega
    ·rw [List.take_of_length_le zu19];exact hk
    ·simp at h2;omega
  | cons c r =>
    have:=lng_stop (c:=c) (r:=r) hk (.inr zu19)
    rw [List.append_assoc] at this
    simpa using this
 have hn:numL (w++59::r)=none:=by
  have:=num_letter (r:=r) hk
  rwa [List.append_assoc] at this
 have ht:(w++59::r).take (w.length+1)=w++[59]:=by
  rw [List.take_append,List.take_of_length_le zu4,show w.length+1 - w.length=1 by omega];rfl
 unfold refN
 rw [List.drop_succ_cons,List.drop_zero,hn,hl,ht]
 simp only
 rw [if_neg,show 1+(w.length+1)=w.length+2 by omega]
 rintro (e|e)
 ·omega
 ·unfold leftL at e
  rw [show Lib.hasSuffix (w++[59]) [59]=true by unfold Lib.hasSuffix;simp] at e
  simp at e
theorem numL_dec (ds r:List UInt8) (h:∀ c∈ds,isDg false c=true) (h0:ds≠[]) {m:Nat} (hv:valL 10 ds=m):numL (35::(ds++59::r))=some (m,ds.length+2):=by
 have hx:begR (ds++59::r) [120]=false:=by
  cases ds with
  | nil=>exact absurd rfl h0
  | cons c ds =>
    have hc:=h c zu19
    have:∀ n:Fin 256,isDg false (UInt8.ofNat n.val)=true→(lowB (UInt8.ofNat n.val) == 120)=false:=by decide +kernel
    have g:=this ⟨c.toNat,c.toNat_lt⟩
    simp only [UInt8.ofNat_toNat] at g
    simp [begR,g hc]
 have hd:digs false (ds++59::r)=ds:=by
  unfold digs
  rw [tw_app _ _ _ h,List.takeWhile_cons,if_neg zu15,List.append_nil]
 unfold numL
 rw [show begR (35::(ds++59::r)) [35]=true by simp [begR,lowB],if_pos rfl,List.drop_succ_cons,List.drop_zero,hx,if_neg zu15]
 unfold numQ
 simp only [hd]
 rw [show baseN false=10 from rfl,hv,if_neg zu4,List.drop_left,show begR (59::r) [59]=true by simp [begR,lowB],if_pos rfl]
 simp only [Option.map_some,Int.toNat_natCast]
theorem refN_dec {attr:Bool} (ds r:List UInt8) (h:∀ c∈ds,isDg false c=true) (h0:ds≠[]) {m:Nat} (hv:valL 10 ds=m):refN attr (38::35::(ds++59::r))=((fixB m).data.toList,ds.length+3):=by
 unfold refN
 rw [List.drop_succ_cons,List.drop_zero,numL_dec ds r h h0 hv]
 simp only
 rw [show 1+(ds.length+2)=ds.length+3 by omega]
end Hand
end

section
namespace Hand
open Go Go.RowKit Pl Pb
theorem right_append {y:List UInt8}:∀ n (x:List UInt8),x.length≤n→rightL x=true→rightL (x++y)=rightL y:=by
 intro n
 induction n with
 | zero=>intro x h _;obtain rfl:=List.eq_nil_of_length_eq_zero (Nat.le_zero.1 h);rfl
 | succ n ih =>
   intro x h hx
   by_cases hne:x=[]
   ·subst hne;rfl
   ·obtain ⟨a,q,rfl,ha,hq⟩:=sig_split hx hne
    have h0:=List.length_pos_iff.2 ha.1
    rw [List.length_append] at h
    rw [List.append_assoc,right_app ha,ih q zu4 hq]
theorem right_cat {x y:List UInt8} (hx:rightL x=true) (hy:rightL y=true):rightL (x++y)=true:=by rw [right_append _ x (Nat.le_refl _) hx,hy]
theorem right_asc {x:List UInt8} (h:Asc x):rightL x=true:=by
 have:=right_ascii x h []
 rw [List.append_nil] at this
 exact this
def Edge (x r:List UInt8):Prop:=r=[]∨(∃ c q,r=c::q∧c.toNat<128)∨∃ p c,x=p++[c]∧c.toNat<128
theorem cut_right:∀ n (x r:List UInt8),x.length≤n→rightL (x++r)=true→Edge x r→rightL x=true∧rightL r=true:=by
 intro n
 induction n with
 | zero=>intro x r h hr _;obtain rfl:=List.eq_nil_of_length_eq_zero (Nat.le_zero.1 h);exact ⟨rfl,hr⟩
 | succ n ih =>
   intro x r h hr he
   by_cases hx:x=[]
   ·subst hx;exact ⟨rfl,hr⟩
   ·have hne:x++r≠[]:=by simp [hx]
    obtain ⟨a,q,e,ha,hq⟩:=sig_split hr hne
    have h0:=List.length_pos_iff.2 ha.1
    rcases List.append_eq_append_iff.1 e with ⟨l,h1,h2⟩|⟨l,h1,h2⟩
    ·
     cases l with
     | nil =>
       rw [List.append_nil] at h1
       subst h1
       rw [List.nil_append] at h2
       subst h2
       have:=right_app ha []
       rw [List.append_nil] at this
       exact ⟨this,hq⟩
     | cons d l =>
       exfalso
       rcases sig_bytes ha with ⟨c,e1,_⟩|⟨c,q0,e1,hc,_,_,hall⟩
       ·rw [e1] at h1
        have:=congrArg List.length h1
        have h3:=List.length_pos_iff.2 hx
        simp only [List.length_append,List.length_cons,List.length_nil] at this
        omega
       ·rw [e1] at h1
        obtain ⟨x0,xr,rfl⟩:∃ y z,x=y::z:=by cases x with|nil=>exact absurd rfl hx|cons y z=>exact ⟨y,z,rfl⟩
        rw [List.cons_append] at h1
        obtain ⟨h3,h4⟩:=List.cons.inj h1
        have hd:128≤d.toNat:=(hall d (by rw [h4];simp)).1
        rcases he with he|⟨c',q',he,hc'⟩|⟨p,c',he,hc'⟩
        ·rw [he] at h2;cases h2
        ·rw [he] at h2
         obtain ⟨h5,_⟩:=List.cons.inj h2
         rw [h5] at hc';omega
        ·have hm:c'∈x0::xr:=by rw [he];simp
         rcases List.mem_cons.1 hm with rfl|hm
         ·rw [← h3] at hc';omega
         ·have:=(hall c' (by rw [h4];simp [hm])).1;omega
    ·
     subst h1
     rw [List.length_append] at h
     have hr2:rightL (l++r)=true:=by rw [← h2];exact hq
     by_cases hl:l=[]
     ·subst hl
      have:=right_app ha []
      rw [List.append_nil] at this ⊢
      exact ⟨this,hr2⟩
     ·have he2:Edge l r:=by
       rcases he with he|he|⟨p,c,he,hc⟩
       ·exact .inl he
       ·exact .inr (.inl he)
       ·refine .inr (.inr ⟨l.dropLast,c,?_,hc⟩)
        have hlast:l.getLast hl=c:=by
         have h5:(a++l).getLast (by simp [hl])=c:=by simp [he]
         rw [List.getLast_append_of_ne_nil (by simp [hl]) hl] at h5
         exact h5
        rw [← hlast,List.dropLast_concat_getLast]
      obtain ⟨h3,h4⟩:=ih l r zu4 hr2 he2
      exact ⟨right_cat (by have:=right_app ha [];rw [List.append_nil] at this;exact this) h3,h4⟩
theorem cut_at {l:List UInt8} {n:Nat} (h:rightL l=true) (he:Edge (l.take n) (l.drop n)):rightL (l.take n)=true∧rightL (l.drop n)=true :=
 cut_right _ _ _ (Nat.le_refl _) (by rw [List.take_append_drop];exact h) he
theorem right_behind {c:UInt8} {r l:List UInt8} (h:rightL l=true) (hs:c::r <:+ l) (hc:c.toNat<128):rightL r=true:=by
 obtain ⟨p,rfl⟩:=hs
 have e:p++c::r=(p++[c])++r:=by simp
 rw [e] at h
 exact (cut_right _ _ _ (Nat.le_refl _) h (.inr (.inr ⟨p,c,rfl,hc⟩))).2
theorem right_dropAsc {l:List UInt8} {n:Nat} (h:rightL l=true) (ha:Asc (l.take n)):rightL (l.drop n)=true:=by
 have:=right_ascii (l.take n) ha (l.drop n)
 rw [List.take_append_drop,h] at this
 exact this.symm
theorem enc_right (n:Int):rightL (Utf8.encode n).data.toList=true:=by
 obtain ⟨c,hc⟩:∃ c,(if Utf8.valid n=true then n.toNat else Utf8.runeError)=c:=⟨_,rfl⟩
 have hv:c<55296∨57344≤c∧c≤1114111:=by
  rw [← hc]
  split
  ·rename_i h
   simp only [Utf8.valid,Bool.and_eq_true,Bool.or_eq_true,decide_eq_true_eq] at h
   omega
  ·exact .inr zu15
 have hone:∀ a:List UInt8,a≠[]→firstU a=(a.length,true)→rightL a=true:=by
  intro a ha hf
  cases a with
  | nil=>exact absurd rfl ha
  | cons x r=>rw [rightL_cons,hf];simp [rightL,rightK]
 have e:Utf8.encode n=(if c<128 then ⟨#[UInt8.ofNat c]⟩ else if c<2048 then ⟨#[UInt8.ofNat (192+c / 64),UInt8.ofNat (128+c % 64)]⟩
  else if c<65536 then ⟨#[UInt8.ofNat (224+c / 4096),UInt8.ofNat (128+c / 64 % 64),UInt8.ofNat (128+c % 64)]⟩
  else ⟨#[UInt8.ofNat (240+c / 262144),UInt8.ofNat (128+c / 4096 % 64),UInt8.ofNat (128+c / 64 % 64),UInt8.ofNat (128+c % 64)]⟩):=by rw [← hc];rfl
 rw [e]
 refine hone _ ?_ ?_
 ·repeat' split
  all_goals simp
 ·split
  ·rename_i h
   simp only [firstU,u8_of c zu4]
   unfold firstN
   rw [if_pos zu4];rfl
  ·split
   ·rename_i h1 h2
    simp only [firstU,byteO,u8_of (192+c / 64) zu4,List.getElem?_cons_zero,List.getElem?_cons_succ,List.getElem?_nil,Option.map_some,Option.map_none,u8_of (128+c % 64) zu4]
    unfold firstN
    have ht:=tail_2 (c:=192+c / 64) zu4
    rw [if_neg zu4,ht.one,if_neg zu15,ht.lo_,ht.hi_,if_neg (by rw [Decidable.not_not,inO_iff];exact ⟨_,rfl,zu4,zu4⟩),if_pos rfl];rfl
   ·split
    ·rename_i h1 h2 h3
     simp only [firstU,byteO,u8_of (224+c / 4096) zu4,List.getElem?_cons_zero,List.getElem?_cons_succ,List.getElem?_nil,Option.map_some,Option.map_none,u8_of (128+c / 64 % 64) zu4,u8_of (128+c % 64) zu4]
     unfold firstN
     obtain ⟨lo,hi,ht,_,_,f1,f2,f3,f4⟩:=tail_3 (c:=224+c / 4096) zu4
     rw [if_neg zu4,ht.one,if_neg zu15,ht.lo_,ht.hi_,if_neg (by
      rw [Decidable.not_not,inO_iff]
      refine ⟨_,rfl,?_,?_⟩
      ·by_cases hq:224+c / 4096=224
       ·rw [f1 hq];omega
       ·rw [f3 hq];omega
      ·by_cases hq:224+c / 4096=237
       ·rw [f2 hq];omega
       ·rw [f4 hq];omega),if_neg zu15,if_neg zv4,if_pos rfl];rfl
    ·rename_i h1 h2 h3
     simp only [firstU,byteO,u8_of (240+c / 262144) zu4,List.getElem?_cons_zero,List.getElem?_cons_succ,List.getElem?_nil,Option.map_some,Option.map_none,u8_of (128+c / 4096 % 64) zu4,u8_of (128+c / 64 % 64) zu4,u8_of (128+c % 64) zu4]
     unfold firstN
     obtain ⟨lo,hi,ht,_,_,f1,f2,f3,f4⟩:=tail_4 (c:=240+c / 262144) zu4
     rw [if_neg zu4,ht.one,if_neg zu15,ht.lo_,ht.hi_,if_neg (by
      rw [Decidable.not_not,inO_iff]
      refine ⟨_,rfl,?_,?_⟩
      ·by_cases hq:240+c / 262144=240
       ·rw [f1 hq];omega
       ·rw [f3 hq];omega
      ·by_cases hq:240+c / 262144=244
       ·rw [f2 hq];omega
       ·rw [f4 hq];omega),if_neg zu15,if_neg zv4,if_neg zu15,if_pos (by rw [contO_iff];exact ⟨_,rfl,zu4,zu4⟩)];rfl
theorem sign_right (n:Int):rightL (signB n).data.toList=true:=by
 unfold signB
 split
 ·decide
 ·exact enc_right n
theorem fix_right (n:Nat):rightL (fixB n).data.toList=true:=by
 unfold fixB
 split
 ·decide
 ·split<;>exact sign_right _
theorem text_right (a b:Nat):rightL (textB a b).data.toList=true:=by
 unfold textB
 split
 ·exact sign_right _
 ·rw [show (signB (a:Int)++signB (b:Int)).data.toList=(signB (a:Int)).data.toList++(signB (b:Int)).data.toList by simp]
  exact right_cat (sign_right _) (sign_right _)
theorem nameT_right (k:List UInt8):rightL (nameT k)=true:=by
 unfold nameT
 split
 ·exact text_right _ _
 ·rfl
theorem ref_right (attr:Bool) (r:List UInt8):rightL (refN attr (38::r)).1=true:=by
 have h:=ref_asc attr r
 unfold refN at h ⊢
 split
 ·exact fix_right _
 ·rename_i h0
  rw [h0] at h
  simp only at h
  split
  ·rename_i h1
   rw [if_pos h1] at h
   exact right_asc h
  ·exact nameT_right _
theorem rd_right (attr:Bool):∀ n (l:List UInt8),l.length≤n→rightL l=true→rightL (rdL attr l)=true:=by
 intro n
 induction n with
 | zero=>intro l h _;obtain rfl:=List.eq_nil_of_length_eq_zero (Nat.le_zero.1 h);rfl
 | succ n ih =>
   intro l h hr
   cases l with
   | nil=>rfl
   | cons c r =>
     by_cases hc:c=38
     ·subst hc
      have hb:=refN_bd attr 38 r
      rw [rdL_amp]
      simp only [List.length_cons] at h hb
      exact right_cat (ref_right attr r) (ih _ zu48 (right_dropAsc hr (ref_asc attr r)))
     ·obtain ⟨a,q,e,ha,hq⟩:=sig_split hr (List.cons_ne_nil _ _)
      have hno:(38:UInt8)∉a:=by
       rcases sig_bytes ha with ⟨c',rfl,_⟩|⟨c',q0,rfl,h1,_,_,h2⟩
       ·obtain ⟨h3,_⟩:=List.cons.inj e
        rw [List.mem_singleton];rw [← h3];exact fun e=>hc e.symm
       ·rw [List.mem_cons,not_or]
        refine ⟨fun e => ?_,fun hm => ?_⟩
        ·rw [← e] at h1;exact absurd h1 zu15
        ·have:=(h2 _ hm).1;exact absurd this zu15
      have h0:=List.length_pos_iff.2 ha.1
      rw [e,List.length_append] at h
      rw [e,rdL_app attr q hno,right_app ha]
      exact ih q zu4 hq
theorem clean_right:∀ n (l:List UInt8),l.length≤n→rightL l=true→rightL (cleanL l)=true:=by
 intro n
 induction n with
 | zero=>intro l h _;obtain rfl:=List.eq_nil_of_length_eq_zero (Nat.le_zero.1 h);rfl
 | succ n ih =>
   intro l h hr
   by_cases hl:l=[]
   ·subst hl;rfl
   ·obtain ⟨a,q,rfl,ha,hq⟩:=sig_split hr hl
    have h0:=List.length_pos_iff.2 ha.1
    rw [List.length_append] at h
    have e:cleanL (a++q)=cleanL a++cleanL q:=by simp [cleanL]
    rw [e]
    refine right_cat ?_ (ih q zu4 hq)
    by_cases h00:(0:UInt8)∈a
    ·rcases sig_bytes ha with ⟨c',rfl,_⟩|⟨c',q0,rfl,h1,_,_,h2⟩
     ·rw [List.mem_singleton] at h00;rw [← h00];decide
     ·rcases List.mem_cons.1 h00 with e|hm
      ·rw [← e] at h1;exact absurd h1 zu15
      ·have:=(h2 _ hm).1;exact absurd this zu15
    ·rw [cleanL_of_no0 h00]
     have:=right_app ha []
     rw [List.append_nil] at this
     exact this
end Hand
end

section
namespace Hand
open Go Go.RowKit Pl Pb Go.Proofs.YtclkdmmgibgamaaGreatDoor.Pure
theorem ends_ne {c:UInt8} (r name:List UInt8) (h:c≠60):endsL (c::r) name=false:=by
 cases he:endsL (c::r) name with
 | false=>rfl
 | true =>
   have:=ends_pref he
   simp [List.isPrefixOf] at this
   exact absurd this.1.symm h
end Hand
end

section
namespace Hand
open Go Go.RowKit Pl Pb Go.Proofs.YtclkdmmgibgamaaGreatDoor.Pure
def Aft (l r:List UInt8):Prop:=r=[]∨62::r <:+ l
theorem aft_right {l r:List UInt8} (h:rightL l=true) (ha:Aft l r):rightL r=true:=by
 rcases ha with rfl|ha
 ·rfl
 ·exact right_behind h ha zu15
theorem aft_trans {l m r:List UInt8} (hs:m <:+ l) (h:Aft m r):Aft l r:=by
 rcases h with h|h
 ·exact .inl h
 ·exact .inr (h.trans hs)
theorem attrF_aft (f:Nat):∀ l s l' b r,attrF f l s=some (l',b,r)→62::r <:+ s:=by
 induction f with
 | zero=>intro l s l' b r h;cases h
 | succ f ih =>
   intro l s l' b r h
   have h1:spL s <:+ s:=List.dropWhile_suffix _
   simp only [attrF] at h
   split at h
   ·cases h
   ·rename_i c r0 he
    have h0:c::r0 <:+ s:=he ▸ h1
    have h2:r0 <:+ s:=(List.suffix_cons c r0).trans h0
    split at h
    ·rename_i hc;cases h;rw [← hc];exact h0
    ·split at h
     ·split at h
      ·exact (ih _ _ _ _ _ h).trans List.nil_suffix
      ·rename_i d r' _
       split at h
       ·rename_i hd;cases h;rw [← hd];exact h2
       ·exact (ih _ _ _ _ _ h).trans h2
     ·split at h
      ·cases h
      ·rename_i v r' hv
       exact (ih _ _ _ _ _ h).trans ((valA_suf hv).trans ((List.dropWhile_suffix _).trans h2))
theorem tagL_aft (l:List UInt8):Aft l (tagL l).2:=by
 unfold tagL
 split
 ·exact .inl rfl
 ·rename_i al self r he
  exact .inr ((attrF_aft _ _ _ _ _ _ he).trans ((List.dropWhile_suffix _).trans (List.drop_suffix _ _)))
theorem past_aft (l:List UInt8):Aft l (past 62 l):=by
 induction l with
 | nil=>exact .inl rfl
 | cons c r ih =>
   have e:past 62 (c::r)=if c=62 then r else past 62 r:=by
    unfold past
    rw [upto_cons]
    split
    ·rfl
    ·rfl
   rw [e]
   split
   ·rename_i hc;subst hc;exact .inr (List.suffix_refl _)
   ·exact aft_trans (List.suffix_cons _ _) ih
theorem endG_aft {p q:List UInt8} (hp:∃ p0,p=p0++[62]) (hq:∃ q0,q=q0++[62]):∀ (s t:List UInt8) (n:Nat),endG p q s=some (t,n)→62::s.drop n <:+ s:=by
 have one:∀ {w s:List UInt8},(∃ w0,w=w0++[62])→w.isPrefixOf s=true→62::s.drop w.length <:+ s:=by
  rintro w s ⟨w0,rfl⟩ h
  obtain ⟨y,rfl⟩:=List.isPrefixOf_iff_prefix.1 h
  rw [List.drop_left]
  exact ⟨w0,zu19⟩
 intro s
 induction s with
 | nil=>intro t n h;cases h
 | cons c r ih =>
   intro t n h
   rw [endG] at h
   split at h
   ·rename_i h1;cases h;exact one hp h1
   ·split at h
    ·rename_i h1;cases h;exact one hq h1
    ·split at h
     ·cases h
     ·rename_i t' n' he
      cases h
      rw [List.drop_succ_cons]
      exact (ih _ _ he).trans (List.suffix_cons _ _)
theorem otherL_aft (s:List UInt8):Aft s (s.drop (otherL s).2):=by
 unfold otherL
 split
 ·exact .inl zu19
 ·rename_i x he
  obtain ⟨t,n⟩:=x
  exact .inr (endG_aft ⟨[],rfl⟩ ⟨[],rfl⟩ s t n he)
theorem plainL_aft (s:List UInt8):Aft s (s.drop (plainL s).2):=by
 unfold plainL
 split
 ·rename_i h
  obtain ⟨y,rfl⟩:=List.isPrefixOf_iff_prefix.1 h
  exact .inr (List.suffix_refl _)
 ·split
  ·rename_i h
   obtain ⟨y,rfl⟩:=List.isPrefixOf_iff_prefix.1 h
   exact .inr ⟨[45],rfl⟩
  ·split
   ·rename_i x he
    obtain ⟨t,n⟩:=x
    exact .inr (endG_aft ⟨[45,45],rfl⟩ ⟨[45,45,33],rfl⟩ s t n he)
   ·refine .inl ?_
    unfold plainEnd
    repeat' split
    all_goals exact List.drop_length
theorem readC_aft (l:List UInt8):Aft l (l.drop (readC l).2):=by
 unfold readC
 split
 ·rw [show (l.drop (4+(plainL (l.drop 4)).2))=(l.drop 4).drop (plainL (l.drop 4)).2 by rw [List.drop_drop]]
  exact aft_trans (List.drop_suffix _ _) (plainL_aft _)
 ·split
  ·rw [show (l.drop (1+(otherL (l.drop 1)).2))=(l.drop 1).drop (otherL (l.drop 1)).2 by rw [List.drop_drop]]
   exact aft_trans (List.drop_suffix _ _) (otherL_aft _)
  ·rw [show (l.drop (2+(otherL (l.drop 2)).2))=(l.drop 2).drop (otherL (l.drop 2)).2 by rw [List.drop_drop]]
   exact aft_trans (List.drop_suffix _ _) (otherL_aft _)
def Cut60 (l:List UInt8) (n:Nat):Prop:=l.drop n=[]∨∃ q,l.drop n=60::q
theorem cut60 {l:List UInt8} {n:Nat} (h:rightL l=true) (hc:Cut60 l n):rightL (l.take n)=true∧rightL (l.drop n)=true:=by
 refine cut_at h ?_
 rcases hc with hc|⟨q,hc⟩
 ·exact .inl hc
 ·exact .inr (.inl ⟨60,q,hc,zu15⟩)
theorem txN_cut (l:List UInt8):Cut60 l (txN l):=by
 induction l with
 | nil=>exact .inl rfl
 | cons c r ih =>
   rw [txN]
   split
   ·rename_i h;exact .inr ⟨r,by rw [beg_60 h];rfl⟩
   ·rw [Nat.add_comm];exact ih
theorem firstE_cut (name l:List UInt8):Cut60 l (firstE name l):=by
 induction l with
 | nil=>exact .inl rfl
 | cons c r ih =>
   rw [firstE]
   split
   ·rename_i h
    by_cases hc:c=60
    ·exact .inr ⟨r,by rw [hc];rfl⟩
    ·rw [ends_ne r name hc] at h;cases h
   ·rw [Nat.add_comm];exact ih
theorem step_none {st ct:Nat} {c:UInt8} {r:List UInt8} (h:stepF st ct (c::r)=none):c=60:=by
 refine Classical.byContradiction fun hc => ?_
 unfold stepF at h
 simp only [ends_ne r scriptL hc] at h
 repeat' split at h
 all_goals first | (simp at h;done)|simp_all
theorem find_cut:∀ n (l:List UInt8) (st ct:Nat),l.length≤n→Cut60 l (findL st ct l).1:=by
 intro n
 induction n with
 | zero=>intro l st ct h;obtain rfl:=List.eq_nil_of_length_eq_zero (Nat.le_zero.1 h);exact .inl zu19
 | succ n ih =>
   intro l st ct h
   cases hs:stepF st ct l with
   | none =>
     rw [findL_none hs]
     cases l with
     | nil=>exact .inl rfl
     | cons c r=>exact .inr ⟨r,by rw [step_none hs];rfl⟩
   | some x =>
     obtain ⟨m,st',ct'⟩:=x
     have ha:=stepF_adv hs
     rw [findL_some hs]
     have:=ih (l.drop m) st' ct' zu47
     unfold Cut60 at this ⊢
     rw [List.drop_drop] at this
     exact this
theorem endN_cut (st:Nat) (name l:List UInt8):Cut60 l (endN st name l):=by
 unfold endN
 split
 ·exact firstE_cut name l
 ·split
  ·exact find_cut _ l 0 0 (Nat.le_refl _)
  ·exact .inl List.drop_length
def TkR:Tk→Prop
 | .text s=>rightL s=true
 | _=>True
theorem tagL_txt (l:List UInt8):∀ t∈(tagL l).1,TkR t:=by
 unfold tagL
 split
 ·intro t h;cases h
 ·intro t h
  simp only [Option.mem_def,Option.some.injEq] at h
  subst h
  split<;>trivial
theorem tagR_txt (l:List UInt8):∀ t∈(tagR l).1,TkR t:=by
 unfold tagR
 split
 ·intro t h;cases h
 ·exact tagL_txt l
theorem tagR_right {l:List UInt8} (h:rightL l=true):rightL (tagR l).2=true:=by
 unfold tagR
 split
 ·exact h
 ·exact aft_right h (tagL_aft l)
theorem void_aft {l:List UInt8} (h:begR l voidL=true):Aft l (l.drop 3):=by
 have h1:begR l ([60,47]++[62])=true:=h
 rw [begR_append,Bool.and_eq_true] at h1
 have h2:=h1.2
 have e:l.drop 3=(l.drop 2).drop 1:=by rw [List.drop_drop]
 rw [e]
 refine aft_trans (List.drop_suffix 2 l) ?_
 cases hd:l.drop 2 with
 | nil=>exact .inl rfl
 | cons c r =>
   have h3:begR (c::r) [62]=true:=by rw [← hd];exact h2
   rw [begR,Bool.and_eq_true,beq_iff_eq] at h3
   have hall:∀ n:Fin 256,lowB (UInt8.ofNat n.val)=62→UInt8.ofNat n.val=62:=by decide +kernel
   have h':=hall ⟨c.toNat,c.toNat_lt⟩
   have hc:c=62:=by simpa using h' (by simpa using h3.1)
   subst hc
   exact .inr (List.suffix_refl _)
theorem tokL_right {l:List UInt8} (h:rightL l=true):(∀ t∈(tokL l).1,TkR t)∧rightL (tokL l).2=true:=by
 unfold tokL
 split
 ·exact ⟨tagL_txt l,aft_right h (tagL_aft l)⟩
 ·split
  ·exact ⟨fun t ht=>by simp only [Option.mem_def,Option.some.injEq] at ht;subst ht;trivial,aft_right h (readC_aft l)⟩
  ·split
   ·exact ⟨fun t ht=>by simp only [Option.mem_def,Option.some.injEq] at ht;subst ht;trivial,aft_right h (aft_trans (List.drop_suffix 9 l) (past_aft _))⟩
   ·split
    ·rename_i hv
     exact ⟨fun t ht=>(by cases ht),aft_right h (void_aft hv)⟩
    ·split
     ·exact ⟨fun t ht=>(by cases ht),h⟩
     ·have hc:=cut60 h (txN_cut l)
      exact ⟨fun t ht=>by simp only [Option.mem_def,Option.some.injEq] at ht;subst ht;exact rd_right false _ _ (Nat.le_refl _) hc.1,hc.2⟩
theorem rawT_right (b:Bool) {s:List UInt8} (h:rightL s=true):rightL (rawT b s)=true:=by
 unfold rawT
 split
 ·exact clean_right _ _ (Nat.le_refl _) (rd_right false _ _ (Nat.le_refl _) h)
 ·exact clean_right _ _ (Nat.le_refl _) h
theorem txtT_right {s:List UInt8} (h:rightL s=true):∀ t∈txtT s,TkR t:=by
 unfold txtT
 split
 ·intro t ht;cases ht
 ·intro t ht;rw [List.mem_singleton.1 ht];exact h
theorem restL_right (st:Nat) (name:List UInt8) {l:List UInt8} (h:rightL l=true):(∀ t∈(restL st name l).1,TkR t)∧rightL (restL st name l).2=true:=by
 have hc:=cut60 h (endN_cut st name l)
 unfold restL
 split
 ·exact ⟨fun t ht=>(by cases ht),h⟩
 ·split
  ·exact ⟨txtT_right (rawT_right _ hc.1),rfl⟩
  ·refine ⟨fun t ht => ?_,tagR_right hc.2⟩
   rcases List.mem_append.1 ht with ht|ht
   ·exact txtT_right (rawT_right _ hc.1) t ht
   ·exact tagR_txt _ t (by simpa using ht)
theorem drv1_right {x:Option Tk×List UInt8} (h1:∀ t∈x.1,TkR t) (h2:rightL x.2=true):(∀ t∈(drv1 x).1,TkR t)∧rightL (drv1 x).2=true:=by
 unfold drv1
 split
 ·rename_i n al self r
  have h3:=restL_right (stateN n) n (l:=r) h2
  refine ⟨fun t ht => ?_,h3.2⟩
  rcases List.mem_cons.1 ht with rfl|ht
  ·trivial
  ·exact h3.1 t ht
 ·rename_i t r _
  exact ⟨fun u hu=>by rw [List.mem_singleton.1 hu];exact h1 t rfl,h2⟩
 ·exact ⟨fun t ht=>(by cases ht),h2⟩
theorem drvL_right:∀ n (l:List UInt8),l.length≤n→rightL l=true→∀ t∈drvL l,TkR t:=by
 intro n
 induction n with
 | zero=>intro l h _;obtain rfl:=List.eq_nil_of_length_eq_zero (Nat.le_zero.1 h);intro t ht;cases ht
 | succ n ih =>
   intro l h hr
   by_cases hl:l=[]
   ·subst hl;intro t ht;cases ht
   ·have h1:=tokL_right hr
    have h2:=drv1_right h1.1 h1.2
    have h3:=tokL_lt hl
    have h4:=drv1_le (tokL l)
    rw [drvL_eq hl]
    intro t ht
    rcases List.mem_append.1 ht with ht|ht
    ·exact h2.1 t ht
    ·exact ih _ zu4 h2.2 t ht
theorem join_right {l:List Tk} (h:∀ t∈l,TkR t):∀ t∈joinL l,TkR t:=by
 induction l with
 | nil=>intro t ht;cases ht
 | cons u r ih =>
   have ihr:=ih (fun t ht=>h t (List.mem_cons_of_mem _ ht))
   cases hx:isTx u with
   | false =>
     rw [joinL_no r hx]
     intro t ht
     rcases List.mem_cons.1 ht with rfl|ht
     ·exact h _ List.mem_cons_self
     ·exact ihr t ht
   | true =>
     obtain ⟨s,rfl⟩:∃ s,u = .text s:=by cases u<;>first|exact ⟨_,rfl⟩|cases hx
     have hs:rightL s=true:=h (.text s) List.mem_cons_self
     rw [joinL]
     split
     ·rename_i v r2 he
      intro t ht
      rcases List.mem_cons.1 ht with rfl|ht
      ·exact right_cat hs (ihr (.text v) (by rw [he];exact List.mem_cons_self))
      ·exact ihr t (by rw [he];exact List.mem_cons_of_mem _ ht)
     ·intro t ht
      rcases List.mem_append.1 ht with ht|ht
      ·exact txtT_right hs t ht
      ·exact ihr t ht
theorem drive_right {l:List UInt8} (h:rightL l=true):∀ t∈driveL l,TkR t:=join_right (drvL_right _ l (Nat.le_refl _) h)
end Hand
end

section
namespace Hand
open Go Go.RowKit Pl Pb Go.Proofs.YtclkdmmgibgamaaGreatDoor.Pure
structure FlOk (f:Fl):Prop where
 bl:∀ c∈f.bl,c=9∨c=12∨c=32
 no:∀ c∈f.told,c≠0∧c≠13
 hd:∀ c,f.told.head? = some c→isBl c=false
 lst:∀ c,f.told.getLast? = some c→isBl c=false
 right:rightL f.told=true
theorem FlOk.nil:FlOk ⟨[],0,[]⟩:=by
 constructor
 ·intro c hc;cases hc
 ·intro c hc;cases hc
 ·intro c hc;cases hc
 ·intro c hc;cases hc
 ·rfl
theorem FlOk.line {f:Fl} (h:FlOk f):FlOk (flLine f):=⟨fun c hc=>(by cases hc),h.no,h.hd,h.lst,h.right⟩
theorem FlOk.brk {f:Fl} (h:FlOk f) (n:Nat):FlOk (flBreak f n):=⟨fun c hc=>(by cases hc),h.no,h.hd,h.lst,h.right⟩
theorem FlOk.lose {f:Fl} (h:FlOk f):FlOk (flLose f):=by
 unfold flLose
 split
 ·exact ⟨fun c hc=>by rw [List.mem_singleton.1 hc];exact .inr (.inr rfl),h.no,h.hd,h.lst,h.right⟩
 ·exact h
theorem isBl_iff (c:UInt8):isBl c=true↔c=9∨c=10∨c=12∨c=13∨c=32:=by simp [isBl,or_assoc]
theorem FlOk.keep {f:Fl} (h:FlOk f) {c:UInt8} (hc:isBl c=true):FlOk (flKeep f c):=by
 unfold flKeep
 split
 ·exact h.line
 ·rename_i hn
  refine ⟨fun x hx => ?_,h.no,h.hd,h.lst,h.right⟩
  rcases List.mem_append.1 hx with hx|hx
  ·exact h.bl x hx
  ·rw [List.mem_singleton.1 hx]
   rcases (isBl_iff c).1 hc with e|e|e|e|e
   ·exact .inl e
   ·exact absurd (.inl e) hn
   ·exact .inr (.inl e)
   ·exact absurd (.inr e) hn
   ·exact .inr (.inr e)
theorem FlOk.add {f:Fl} (h:FlOk f):∀ c∈flAdd f,c=9∨c=10∨c=12∨c=32:=by
 intro c hc
 unfold flAdd at hc
 split at hc
 ·cases hc
 ·rcases List.mem_append.1 hc with hc|hc
  ·exact .inr (.inl (List.eq_of_mem_replicate hc))
  ·rcases h.bl c hc with e|e|e
   ·exact .inl e
   ·exact .inr (.inr (.inl e))
   ·exact .inr (.inr (.inr e))
theorem FlOk.addAsc {f:Fl} (h:FlOk f):Asc (flAdd f):=by
 intro c hc
 rcases h.add c hc with rfl|rfl|rfl|rfl<;>decide
theorem put_high (k:Bool):∀ (q:List UInt8) (f:Fl),(∀ x∈q,128≤x.toNat)→f.told≠[]→f.ends=0→f.bl=[]→flPut k f q=⟨f.told++q,0,[]⟩:=by
 intro q
 induction q with
 | nil=>rintro ⟨t,e,b⟩ _ _ rfl rfl;rw [List.append_nil];rfl
 | cons c q ih =>
   rintro ⟨t,e,b⟩ h h0 rfl rfl
   have hc:=h c zu19
   have hz:c≠0:=fun e=>by rw [e] at hc;exact absurd hc zu15
   have hb:¬ isBl c=true:=fun e=>by
    rcases (isBl_iff c).1 e with e|e|e|e|e<;>(rw [e] at hc;exact absurd hc zu15)
   have e1:flByte k ⟨t,0,[]⟩ c=⟨t++[c],0,[]⟩:=by
    unfold flByte
    rw [if_neg hz,if_neg hb]
    unfold flWord flAdd
    simp
   rw [show flPut k ⟨t,0,[]⟩ (c::q)=flPut k (flByte k ⟨t,0,[]⟩ c) q from rfl,e1,ih _ (fun x hx=>h x (by simp [hx])) zu19 rfl rfl]
   simp
theorem FlOk.word {f:Fl} (h:FlOk f) {c:UInt8} {q:List UInt8} (h0:c≠0) (hb:isBl c=false) (hq:∀ x∈q,128≤x.toNat) (hr:rightL (c::q)=true):FlOk ⟨f.told++flAdd f++c::q,0,[]⟩:=by
 have hnb:∀ x∈c::q,isBl x=false∧x≠0∧x≠13:=by
  intro x hx
  rcases List.mem_cons.1 hx with rfl|hx
  ·refine ⟨hb,h0,fun e => ?_⟩
   rw [e] at hb;exact absurd hb zu15
  ·have hc:=hq x hx
   refine ⟨?_,fun e=>by rw [e] at hc;exact absurd hc zu15,fun e=>by rw [e] at hc;exact absurd hc zu15⟩
   cases hx2:isBl x with
   | false=>rfl
   | true=>rcases (isBl_iff x).1 hx2 with e|e|e|e|e<;>(rw [e] at hc;exact absurd hc zu15)
 refine ⟨fun x hx=>(by cases hx),fun x hx => ?_,fun x hx => ?_,fun x hx => ?_,?_⟩
 ·rcases List.mem_append.1 hx with hx|hx
  ·rcases List.mem_append.1 hx with hx|hx
   ·exact h.no x hx
   ·rcases h.add x hx with rfl|rfl|rfl|rfl<;>exact ⟨zu15,zu15⟩
  ·exact (hnb x hx).2
 ·cases ht:f.told with
  | nil =>
    have e:flAdd f=[]:=by unfold flAdd;rw [if_pos ht]
    rw [ht,e] at hx
    simp only [List.nil_append,List.head?_cons,Option.some.injEq] at hx
    rw [← hx];exact hb
  | cons d t =>
    rw [ht] at hx
    exact h.hd x (by rw [ht];simpa using hx)
 ·rw [List.getLast?_append] at hx
  have:(c::q).getLast? = some x:=by
   cases hg:(c::q).getLast? with
   | none=>simp at hg
   | some y=>rw [hg] at hx;simpa using hx
  exact (hnb x (List.mem_of_getLast? this)).1
 ·exact right_cat (right_cat h.right (right_asc h.addAsc)) hr
theorem FlOk.put {k:Bool}:∀ n (s:List UInt8) (f:Fl),s.length≤n→FlOk f→rightL s=true→FlOk (flPut k f s):=by
 intro n
 induction n with
 | zero=>intro s f h hf _;obtain rfl:=List.eq_nil_of_length_eq_zero (Nat.le_zero.1 h);exact hf
 | succ n ih =>
   intro s f h hf hr
   by_cases hs:s=[]
   ·subst hs;exact hf
   ·obtain ⟨a,q,rfl,ha,hq⟩:=sig_split hr hs
    have h0:=List.length_pos_iff.2 ha.1
    rw [List.length_append] at h
    have e:flPut k f (a++q)=flPut k (flPut k f a) q:=List.foldl_append ..
    rw [e]
    refine ih q _ zu4 ?_ hq
    have hra:rightL a=true:=by have:=right_app ha [];rw [List.append_nil] at this;exact this
    rcases sig_bytes ha with ⟨c,rfl,hc⟩|⟨c,q0,rfl,h1,_,_,h2⟩
    ·show FlOk (flByte k f c)
     unfold flByte
     split
     ·exact hf
     ·rename_i hz
      split
      ·rename_i hb
       split
       ·exact hf.keep hb
       ·exact hf.lose
      ·rename_i hb
       exact hf.word (q:=[]) hz (by simpa using hb) (fun x hx=>by cases hx) hra
    ·have hz:c≠0:=fun e=>by rw [e] at h1;exact absurd h1 zu15
     have hb:isBl c=false:=by
      cases hx2:isBl c with
      | false=>rfl
      | true=>rcases (isBl_iff c).1 hx2 with e|e|e|e|e<;>(rw [e] at h1;exact absurd h1 zu15)
     have e1:flPut k f (c::q0)=⟨f.told++flAdd f++c::q0,0,[]⟩:=by
      rw [show flPut k f (c::q0)=flPut k (flByte k f c) q0 from rfl]
      unfold flByte
      rw [if_neg hz,if_neg (by rw [hb];decide)]
      rw [put_high k q0 _ (fun x hx=>(h2 x hx).1) (by unfold flWord;simp) rfl rfl]
      unfold flWord
      simp
     rw [e1]
     exact hf.word hz hb (fun x hx=>(h2 x hx).1) hra
theorem FlOk.lines {f:Fl} (h:FlOk f) (n:List UInt8):FlOk (pgLines f n):=by
 unfold pgLines
 dsimp only
 split
 ·split
  ·exact h.line
  ·exact h
 ·split
  ·exact h.line.brk _
  ·exact h.brk _
theorem FlOk.tok {p:Pg} (h:FlOk p.fl) {t:Tk} (ht:TkR t):FlOk (pgTok p t).fl:=by
 cases t with
 | text s =>
   show FlOk (pgText p s).fl
   unfold pgText
   split
   ·exact FlOk.put _ s _ (Nat.le_refl _) h ht
   ·exact h
 | start n l b =>
   show FlOk (pgStart p n).fl
   unfold pgStart
   dsimp only
   repeat' split
   all_goals first|exact h|exact h.lines n
 | fin n =>
   show FlOk (pgEnd p n).fl
   unfold pgEnd
   split
   ·exact h
   ·split
    ·exact h.lines n
    ·exact h
 | comment s=>exact h
 | doctype s=>exact h
theorem FlOk.render:∀ (l:List Tk) (p:Pg),FlOk p.fl→(∀ t∈l,TkR t)→FlOk (renderP p l).fl:=by
 intro l
 induction l with
 | nil=>intro p h _;exact h
 | cons t r ih =>
   intro p h ht
   exact ih (pgTok p t) (h.tok (ht t List.mem_cons_self)) fun u hu=>ht u (List.mem_cons_of_mem _ hu)
theorem norm_right:∀ n (s:List UInt8),s.length≤n→rightL s=true→∀ b,rightL (normF b s)=true:=by
 intro n
 induction n with
 | zero=>intro s h _ b;obtain rfl:=List.eq_nil_of_length_eq_zero (Nat.le_zero.1 h);rfl
 | succ n ih =>
   intro s h hr b
   by_cases hs:s=[]
   ·subst hs;rfl
   ·obtain ⟨a,q,rfl,ha,hq⟩:=sig_split hr hs
    have h0:=List.length_pos_iff.2 ha.1
    rw [List.length_append] at h
    have hra:rightL a=true:=by have:=right_app ha [];rw [List.append_nil] at this;exact this
    have hi:=ih q zu4 hq
    rw [normF_append]
    refine right_cat ?_ (hi _)
    rcases sig_bytes ha with ⟨c,rfl,hc⟩|⟨c,q0,rfl,h1,_,_,h2⟩
    ·refine right_asc fun x hx => ?_
     simp only [normF] at hx
     split at hx
     ·cases hx
     ·split at hx
      ·rw [List.mem_singleton.1 hx];decide
      ·rw [List.mem_singleton.1 hx];exact hc
    ·have h13:(13:UInt8)∉c::q0:=by
      intro hm
      rcases List.mem_cons.1 hm with e|hm
      ·rw [← e] at h1;exact absurd h1 zu15
      ·have:=(h2 _ hm).1;exact absurd this zu15
     have h10:∀ r,c::q0≠10::r:=fun r e=>by
      obtain ⟨e,_⟩:=List.cons.inj e
      rw [e] at h1;exact absurd h1 zu15
     have e:normF b (c::q0)=c::q0:=by
      have e1:normF b (c::q0)=normF false (c::q0):=by
       cases b
       ·rfl
       ·exact normF_true_eq h10
      rw [e1]
      exact normL_of_no13 h13
     rw [e]
     exact hra
theorem sig_take {c:UInt8} {r:List UInt8} (h1:(firstU (c::r)).2=true):Sig ((c::r).take (firstU (c::r)).1):=by
 obtain ⟨p1,p2,p3⟩:=firstU_pos c r
 obtain ⟨n,hn⟩:∃ n,(firstU (c::r)).1=n+1:=⟨(firstU (c::r)).1 - 1,zu4⟩
 rw [hn] at p2 p3 ⊢
 simp only [List.length_cons] at p2
 refine ⟨zu19,fun Y => ?_⟩
 rw [List.take_succ_cons,List.cons_append]
 show firstN c.toNat (byteO (r.take n++Y) 0) (byteO (r.take n++Y) 1) (byteO (r.take n++Y) 2)=_
 have hf:(firstN c.toNat (byteO r 0) (byteO r 1) (byteO r 2)).1=n+1:=hn
 rw [firstN_cut (d:=byteO r 0) (e:=byteO r 1) (f:=byteO r 2) h1 (fun h=>byteO_take _ _ _ _ zu4 zu4) (fun h=>byteO_take _ _ _ _ zu4 zu4) (fun h=>byteO_take _ _ _ _ zu4 zu4)]
 rw [List.length_cons,List.length_take,Nat.min_eq_left zu4,← hf]
 exact Prod.ext rfl h1
theorem dec_right:∀ n (s:List UInt8),s.length≤n→rightL (decL s)=true:=by
 intro n
 induction n with
 | zero=>intro s h;obtain rfl:=List.eq_nil_of_length_eq_zero (Nat.le_zero.1 h);rfl
 | succ n ih =>
   intro s h
   cases s with
   | nil=>rfl
   | cons c r =>
     have hp:=firstU_pos c r
     rw [decL_cons]
     refine right_cat ?_ (ih _ (by rw [List.length_drop];simp only [List.length_cons] at h ⊢;omega))
     split
     ·rename_i hf
      have hs:∃ a q,c::r=a++q∧Sig a∧a.length=(firstU (c::r)).1:=by
       have h1:Sig ((c::r).take (firstU (c::r)).1):=sig_take hf
       exact ⟨_,_,(List.take_append_drop _ _).symm,h1,by rw [List.length_take];omega⟩
      obtain ⟨a,q,e,ha,hl⟩:=hs
      rw [← hl,e,List.take_left]
      have:=right_app ha []
      rw [List.append_nil] at this
      exact this
     ·decide
theorem ext_ok (b:List UInt8):FlOk (renderP pg0 (driveL (normL (decL (trimL b))))).fl:=FlOk.render _ _ FlOk.nil (drive_right (norm_right _ _ (Nat.le_refl _) (dec_right _ _ (Nat.le_refl _)) false))
theorem ext_hd (b:List UInt8) {c:UInt8} (h:(extL b).head? = some c):isBl c=false:=(ext_ok b).hd c h
end Hand
end

section
namespace Hand
open Go Go.RowKit Pl Pb Go.Proofs.YtclkdmmgibgamaaGreatDoor.Pure
theorem ext_ne10 (b:List UInt8):(extL b).head? ≠ some 10:=fun h=>by have:=ext_hd b h;exact absurd this zu15
theorem enc_same {s:List UInt8} (h:s.head? ≠ some 10) (k:Int) (hk:0≤k∧k≤2):encL k s=escL s:=by
 have hk2:k=0∨k=1∨k=2:=by omega
 rcases hk2 with rfl|rfl|rfl<;>simp [encL,h]
theorem san_same (k:Int) (hk:0≤k∧k≤2) (b:List UInt8):sanL k b=escL (extL b):=enc_same (ext_ne10 b) k hk
theorem esc_no (s:List UInt8):∀ c∈escL s,c≠60∧c≠62∧c≠34∧c≠39∧c≠0∧c≠13:=by
 have gen:∀ (t:List UInt8) (o:Bool),scanE o t=true→∀ c∈t,c≠60∧c≠62∧c≠34∧c≠39∧c≠0∧c≠13:=by
  intro t
  induction t with
  | nil=>intro _ _ _ h;cases h
  | cons d r ih =>
    intro o h c hc
    rw [scanE] at h
    split at h
    ·cases h
    ·rename_i hd
     simp only [not_or] at hd
     rcases List.mem_cons.1 hc with rfl|hc
     ·exact hd
     ·split at h
      ·rw [Bool.and_eq_true] at h;exact ih true h.2 c hc
      ·split at h
       ·exact ih false h c hc
       ·exact ih o h c hc
 exact gen _ false (scan_esc _ s (Nat.le_refl _))
end Hand
end

section
namespace Hand
open Go Go.RowKit K0 Pl Pb Sa St Go.Proofs.YtclkdmmgibgamaaGreatDoor.Pure YtclkdmmgibgamaaGreatDoorW.PrintWords YtclkdmmgibgamaaGreatDoorW.PrintLast YtclkdmmgibgamaaGreatDoorW.PrintMore
theorem san_len (k:Int) (s:List UInt8) (hk:0≤k∧k≤2):(sanL k s).length≤18*s.length:=by
 rw [san_same k hk]
 have h1:=(esc_length _ (extL s) (Nat.le_refl _)).1
 have h2:=ext_length s
 omega
end Hand
end

section
namespace Hand
open Go Go.RowKit K0 Pl Pb Sa St Go.Proofs.YtclkdmmgibgamaaGreatDoor.Pure YtclkdmmgibgamaaGreatDoorW.PrintWords YtclkdmmgibgamaaGreatDoorW.PrintLast YtclkdmmgibgamaaGreatDoorW.PrintMore
abbrev RowU8 (w:World) (a:Option Addr) (len cap:Nat) (z:List Int):Prop :=
 (a=none∧len=0∧cap=0∧z=[])∨∃ x,a=some x∧len≤cap∧cap≤maxLen∧z.length=cap∧(∀ i,i<z.length→w.cell? (x.add i)=some (.int .u8 (z.getD i 0)))∧∀ n∈z,(Lit.int .u8 n).wf=true
def numsB (l:List Int):List UInt8:=l.map fun n=>UInt8.ofNat n.toNat
theorem numsB_len (l:List Int):(numsB l).length=l.length:=List.length_map ..
theorem byt_of {l:List Int} {A:Option Addr} {w:World} (h:Kd.C (Kd.int .u8) w A l.length l) (c:Nat):Byt (numsB l) (.slice A l.length c) w:=fun _ hb =>
 Kd.C_string (P:=Tryz.prog) (c:=c) (src:=22) (dst:=9) Tryz.underlying22 Tryz.underlying5 Tryz.underlying9 (Kd.C_below h hb)
end Hand
end

section
namespace Hand
open Go Go.RowKit K0 Pl Pb Sa St Go.Proofs.YtclkdmmgibgamaaGreatDoor.Pure YtclkdmmgibgamaaGreatDoorW.PrintWords YtclkdmmgibgamaaGreatDoorW.PrintLast YtclkdmmgibgamaaGreatDoorW.PrintMore
theorem mod_three {d:Int} (h:(Lit.int .u8 d).wf=true):∃ k,d.tmod 3=k∧(k=0∨k=1∨k=2):=by
 have hw:IntKind.u8.min≤d∧d≤IntKind.u8.max:=by simpa [Lit.wf] using h
 have hd0:0≤d:=Int.le_trans zu15 hw.1
 exact ⟨_,rfl,by rw [Int.tmod_eq_emod_of_nonneg hd0];omega⟩
theorem sann_len {k:Int} (hk:k=0∨k=1∨k=2) (s:List UInt8) (hs:s.length≤300):(sanL k s).length≤5400:=by
 have:=san_len k s zu4
 omega
end Hand
end

section
namespace Hand
open Go Go.RowKit Pl Pb
theorem RefR.next {s:List UInt8} {n:Nat} {attr:Bool} {v:Value} (h:RefR s n attr v) (hb:begR (s.drop n) [38]=true):∃ t m,v = .tuple #[.string t,.int .i64 ((m:Nat):Int)]∧n+1≤m∧m≤s.length:=by
 have hn:n+1≤s.length:=by have:=begR_one hb;rw [List.length_drop] at this;omega
 cases h with
 | no h=>rw [hb] at h;cases h
 | num h m k h2 =>
   have:=(numL_le h2).2.1
   rw [List.length_drop] at this
   exact ⟨_,_,rfl,zu4,zu4⟩
 | left h h2 k h3 h4 =>
   have:=h3.le
   rw [List.length_drop] at this
   exact ⟨_,_,rfl,zu4,zu4⟩
 | name h h2 k h3 h4 h5 rest h6 =>
   have:=h3.le
   rw [List.length_drop] at this
   exact ⟨_,_,rfl,zu4,zu4⟩
inductive Whl (s:List UInt8) (attr:Bool):Nat→Bool→Prop
 | stop (i:Nat) (h:∀ k:Nat,(s.drop i)[k]? ≠ some 38):Whl s attr i true
 | bad (i o m:Nat) (t:ByteArray) (h1:(s.drop i)[o]? = some 38) (h2:∀ k,k<o→(s.drop i)[k]? ≠ some 38) (h3:RefR s (i+o) attr (.tuple #[.string t,.int .i64 (m:Int)])) (h4:s[m - 1]? ≠ some 59):Whl s attr i false
 | go (i o m:Nat) (t:ByteArray) (b:Bool) (h1:(s.drop i)[o]? = some 38) (h2:∀ k,k<o→(s.drop i)[k]? ≠ some 38) (h3:RefR s (i+o) attr (.tuple #[.string t,.int .i64 (m:Int)])) (h4:s[m - 1]? = some 59) (h5:Whl s attr m b):Whl s attr i b
theorem begR_amp {s:List UInt8} {i o:Nat} (h:(s.drop i)[o]? = some 38):begR (s.drop (i+o)) [38]=true:=by
 rw [List.getElem?_drop] at h
 obtain ⟨hl,he⟩:=List.getElem?_eq_some_iff.1 h
 rw [List.drop_eq_getElem_cons hl,he]
 simp [begR,show lowB 38=38 by decide]
theorem whole_c (s:List UInt8) (attr:Bool) (hs:s.length≤100000) (w:World) (hGl:Glob w) (hGE:GlobE w) :
  Calls Tryz.prog 53 #[.string (B s),.bool attr] w fun e w'=>(∃ b,Whl s attr 0 b∧e = .returned (.bool b))∧Below w.heap.size w w':=by
 have HG:=Lib.hid hGl
 have HE:=Lib.hid hGE
 have RD:=Lib.hid (fun n (hn:n≤s.length) W hG hE=>read_c s n attr hs hn W hG hE)
 obtain ⟨a,ha⟩:∃ a,B s=a:=⟨_,rfl⟩
 have hsz:a.size=s.length:=by rw [← ha];simp
 have hx:∀ i,(a.extract i a.size).data.toList=s.drop i:=fun i=>by rw [← ha,size_B,B_extract,List.take_length,B_data]
 have hb:∀ i (h:i<a.size),s[i]? = some a[i]:=fun i h=>by
  subst ha
  rw [List.getElem?_eq_getElem zu46];rfl
 rw [ha] at RD ⊢
 have HX:=Lib.hid hx
 have HBY:=Lib.hid hb
 have HSZ:=Lib.hid hsz
 have hza:a.size≤100000:=by omega
 clear hs hGl hGE ha hsz hx hb
 go_enter Tryz.func53,Tryz.ntmps53
 go_wp2_with fail
 go_loopw [5] (fun v wx => ∃ i:Nat,v = .int .i64 (i:Int)∧i≤a.size∧Hid (Below w.heap.size w wx)∧Hid (∀ b,Whl s attr i b→Whl s attr 0 b)) (fun v _=>a.size - (intOf v).toNat)
 case atStart=>exact ⟨0,rfl,Nat.zero_le _,Lib.hid (Below.refl _ _),Lib.hid (fun _ h=>h)⟩
 case round =>
  obtain ⟨i,rfl,hi,HW,HR⟩:=hrel
  have I:=fun W=>Tryz.strings_IndexByte (a.extract i a.size) 38 W
  rw [HX.out i] at I
  rcases Int.lt_or_le (Lib.indexByte (s.drop i) 38) 0 with h|h
  ·have h1:Lib.indexByte (s.drop i) 38 = -1:=by have:=Lib.indexByte_ge (s.drop i) 38;omega
   have I2:Hid (∀ W,Calls Tryz.prog 87 #[.string (a.extract i a.size),.int .u8 38] W fun e w'=>e = .returned (.int .i64 (-1))∧w'=W):=Lib.hid (fun W=>by rw [← h1];exact I W)
   have HN:=Lib.hid (HR.out true (Whl.stop i (fun k=>Lib.indexByte_none h1 k)))
   clear I h h1
   go_wp2_with fail
   refine (I2.out _).mono ?_
   rintro e w1 ⟨rfl,rfl⟩
   go_wp2_with fail
   go_ret
   exact ⟨⟨true,HN.out,rfl⟩,HW.out⟩
  ·obtain ⟨o,ho⟩:∃ o:Nat,Lib.indexByte (s.drop i) 38=o:=⟨_,(Int.toNat_of_nonneg h).symm⟩
   have I2:Hid (∀ W,Calls Tryz.prog 87 #[.string (a.extract i a.size),.int .u8 38] W fun e w'=>e = .returned (.int .i64 (o:Int))∧w'=W):=Lib.hid (fun W=>by rw [← ho];exact I W)
   obtain ⟨h1,h2⟩:=Lib.indexByte_some ho
   have hba:=begR_amp h1
   have hio:i+o<a.size:=by
    obtain ⟨hl,_⟩:=List.getElem?_eq_some_iff.1 h1
    rw [List.length_drop] at hl
    have:=HSZ.out
    omega
   have H1:=Lib.hid h1
   have H2:=Lib.hid h2
   have RI:=fun W hG hE=>RD.out (i+o) zu60 W hG hE
   have HRI:=Lib.hid RI
   have HBA:=Lib.hid hba
   clear I h ho h1 h2 hba RI
   go_wp2_with fail
   refine (I2.out _).mono ?_
   rintro e w1 ⟨rfl,rfl⟩
   go_wp2_with fail
   refine (HRI.out _ (HG.out.step HW.out) (HE.out.step HW.out)).mono ?_
   rintro e w2 ⟨⟨v,hv,rfl⟩,hb⟩
   have HW2:=Lib.hid (HW.out.trans (hb.mono HW.out.size))
   obtain ⟨t,m,rfl,hm1,hm2⟩:=hv.next HBA.out
   have HV:=Lib.hid hv
   have hmz:m≤a.size:=by have:=HSZ.out;omega
   have hm0:m - 1<a.size:=by omega
   have hby:=HBY.out (m - 1) hm0
   have hm3:0<m:=by omega
   have hmi:((m:Int) - 1)=((m - 1:Nat):Int):=by omega
   by_cases h59:a[m - 1]=59
   ·have q1:(((a[m - 1].toNat:Nat):Int) != 59)=false:=by rw [h59];rfl
    have HN:Hid (∀ b,Whl s attr m b→Whl s attr 0 b):=Lib.hid (fun b h=>HR.out b (Whl.go i o m t b H1.out H2.out HV.out (by rw [hby,h59]) h))
    clear hb hv hby h59 hm2
    go_wp2_with fail
    go_roundw
    case rel=>exact ⟨m,rfl,hmz,HW2,HN⟩
    case measure=>simp [intOf];omega
   ·have q1:(((a[m - 1].toNat:Nat):Int) != 59)=true:=by
     rw [bne_iff_ne]
     intro e
     exact h59 (UInt8.toNat_inj.1 (show a[m - 1].toNat=59 by omega))
    have HN:=Lib.hid (HR.out false (Whl.bad i o m t H1.out H2.out HV.out (by rw [hby];intro e;exact h59 (Option.some.inj e))))
    clear hb hv hby h59 hm2
    go_wp2_with fail
    go_ret
    exact ⟨⟨false,HN.out,rfl⟩,HW2.out⟩
end Hand
end

section
namespace Hand
open Go Go.RowKit Pl Pb
def hasB (s:List UInt8) (c:UInt8):Bool:=decide (c∈s)
theorem index_has (c:UInt8):∀ s:List UInt8,decide (0≤Lib.indexByte s c)=hasB s c:=by
 intro s
 unfold hasB
 rw [Bool.eq_iff_iff,decide_eq_true_eq,decide_eq_true_eq]
 constructor
 ·intro h
  obtain ⟨o,ho⟩:∃ o:Nat,Lib.indexByte s c=o:=⟨_,(Int.toNat_of_nonneg h).symm⟩
  exact List.mem_of_getElem? (Lib.indexByte_some ho).1
 ·intro h
  rcases Int.lt_or_le (Lib.indexByte s c) 0 with h'|h'
  ·exfalso
   have h1:Lib.indexByte s c = -1:=by have:=Lib.indexByte_ge s c;omega
   obtain ⟨k,hk,he⟩:=List.getElem_of_mem h
   exact Lib.indexByte_none h1 k (by rw [List.getElem?_eq_getElem hk,he])
  ·exact h'
def SafeR (s:List UInt8) (st:Int) (b:Bool):Prop :=
 if hasB s 13=true then b=false
 else if st=0∨st=1 then ∃ x,Whl s false 0 x∧b=(x && !hasB s 60)
 else if st=2∨st=3 then b = !hasB s 60
 else if st=4 then b=true
 else if st=6 then (hasB s 39=true∧b=false)∨(hasB s 39=false∧Whl s true 0 b)
 else if st=5 then (hasB s 34=true∧b=false)∨(hasB s 34=false∧Whl s true 0 b)
 else b=false
def SafeP (s:List UInt8) (st:Int) (e:Ending):Prop := ∃ b,SafeR s st b∧e = .returned (.bool b)
theorem norm_has (s:List UInt8):(normL s == s) = !hasB s 13:=by
 unfold hasB
 by_cases h:13∈s
 ·rw [decide_eq_true h,beq_eq_false_iff_ne.2];rfl
  intro e
  have:=normL_no13 s
  rw [e] at this
  exact this h
 ·rw [decide_eq_false h,normL_of_no13 h];simp
theorem safe_c (s:List UInt8) (st:Int) (hs:s.length≤100000) (w:World) (hGl:Glob w) (hGE:GlobE w) :
  Calls Tryz.prog 52 #[.int .i64 st,.string (B s)] w fun e w'=>SafeP s st e∧Below w.heap.size w w':=by
 have HG:=Lib.hid hGl
 have HE:=Lib.hid hGE
 have HWH:=Lib.hid (fun attr W hG hE=>whole_c s attr hs W hG hE)
 have HC:=Lib.hid (fun (c:UInt8) W=>(by have:=Tryz.strings_Contains_one (B s) c W;rw [B_data,index_has] at this;exact this:Calls Tryz.prog 86 #[.string (B s),.string ⟨#[c]⟩] W fun e w'=>e = .returned (.bool (hasB s c))∧w'=W))
 have NM:∀ W,Calls Tryz.prog 34 #[.string (B s)] W fun e w'=>e = .returned (.string (B (normL s)))∧Below W.heap.size W w':=fun W=>by
  have:=norm_any (B s) W zu36
  rw [B_data] at this
  exact this
 have e1:((B (normL s)).toList == (B s).toList) = !hasB s 13:=by rw [toList_B,toList_B];exact norm_has s
 have HN:=Lib.hid NM
 obtain ⟨a,ha⟩:∃ a,B s=a:=⟨_,rfl⟩
 obtain ⟨nm,hnm⟩:∃ a,B (normL s)=a:=⟨_,rfl⟩
 rw [ha] at HWH HC HN e1 ⊢
 rw [hnm] at HN e1
 have e2:(nm.toList != a.toList)=hasB s 13:=by rw [bne,e1];simp
 obtain ⟨h13,hh13⟩:∃ b,hasB s 13=b:=⟨_,rfl⟩
 obtain ⟨h60,hh60⟩:∃ b,hasB s 60=b:=⟨_,rfl⟩
 obtain ⟨h39,hh39⟩:∃ b,hasB s 39=b:=⟨_,rfl⟩
 obtain ⟨h34,hh34⟩:∃ b,hasB s 34=b:=⟨_,rfl⟩
 have C60:Hid (∀ W,Calls Tryz.prog 86 #[.string a,.string ⟨#[60]⟩] W fun e w'=>e = .returned (.bool h60)∧w'=W):=Lib.hid (fun W=>by rw [← hh60];exact HC.out 60 W)
 have C39:Hid (∀ W,Calls Tryz.prog 86 #[.string a,.string ⟨#[39]⟩] W fun e w'=>e = .returned (.bool h39)∧w'=W):=Lib.hid (fun W=>by rw [← hh39];exact HC.out 39 W)
 have C34:Hid (∀ W,Calls Tryz.prog 86 #[.string a,.string ⟨#[34]⟩] W fun e w'=>e = .returned (.bool h34)∧w'=W):=Lib.hid (fun W=>by rw [← hh34];exact HC.out 34 W)
 rw [hh13] at e1 e2
 have K13:=Lib.hid hh13
 have K60:=Lib.hid hh60
 have K39:=Lib.hid hh39
 have K34:=Lib.hid hh34
 clear NM ha hnm hh13 hh60 hh39 hh34 hGl hGE hs HC
 cases h13 with
 | true =>
   go_enter Tryz.func52,Tryz.ntmps52
   go_wp2_with fail
   refine (HN.out _).mono ?_
   rintro e w1 ⟨rfl,hb⟩
   have HW:=Lib.hid hb
   clear hb
   go_wp2_with fail
   go_ret
   exact ⟨⟨false,by unfold SafeR;rw [K13.out,if_pos rfl],rfl⟩,HW.out⟩
 | false =>
   rw [Bool.not_false] at e1
   by_cases s01:st=0∨st=1
   ·rcases s01 with rfl|rfl
    ·go_enter Tryz.func52,Tryz.ntmps52
     go_wp2_with fail
     refine (HN.out _).mono ?_
     rintro e w1 ⟨rfl,hb⟩
     have HW:=Lib.hid hb
     clear hb
     go_wp2_with fail
     refine (HWH.out false _ (HG.out.step HW.out) (HE.out.step HW.out)).mono ?_
     rintro e w2 ⟨⟨x,hx,rfl⟩,hb⟩
     replace HW:=Lib.hid (HW.out.trans (hb.mono HW.out.size))
     have HX:=Lib.hid hx
     clear hb hx
     cases x with
     | false =>
       go_wp2_with fail
       go_ret
       exact ⟨⟨false,zv2,rfl⟩,HW.out⟩
     | true =>
       go_wp2_with fail
       refine (C60.out _).mono ?_
       rintro e w3 ⟨rfl,rfl⟩
       go_wp2_with fail
       go_ret
       exact ⟨⟨_,zv1,rfl⟩,HW.out⟩
    ·go_enter Tryz.func52,Tryz.ntmps52
     go_wp2_with fail
     refine (HN.out _).mono ?_
     rintro e w1 ⟨rfl,hb⟩
     have HW:=Lib.hid hb
     clear hb
     go_wp2_with fail
     refine (HWH.out false _ (HG.out.step HW.out) (HE.out.step HW.out)).mono ?_
     rintro e w2 ⟨⟨x,hx,rfl⟩,hb⟩
     replace HW:=Lib.hid (HW.out.trans (hb.mono HW.out.size))
     have HX:=Lib.hid hx
     clear hb hx
     cases x with
     | false =>
       go_wp2_with fail
       go_ret
       exact ⟨⟨false,zv2,rfl⟩,HW.out⟩
     | true =>
       go_wp2_with fail
       refine (C60.out _).mono ?_
       rintro e w3 ⟨rfl,rfl⟩
       go_wp2_with fail
       go_ret
       exact ⟨⟨_,zv1,rfl⟩,HW.out⟩
   by_cases s23:st=2∨st=3
   ·rcases s23 with rfl|rfl
    ·go_enter Tryz.func52,Tryz.ntmps52
     go_wp2_with fail
     refine (HN.out _).mono ?_
     rintro e w1 ⟨rfl,hb⟩
     have HW:=Lib.hid hb
     clear hb
     go_wp2_with fail
     refine (C60.out _).mono ?_
     rintro e w3 ⟨rfl,rfl⟩
     go_wp2_with fail
     go_ret
     exact ⟨⟨_,zv3,rfl⟩,HW.out⟩
    ·go_enter Tryz.func52,Tryz.ntmps52
     go_wp2_with fail
     refine (HN.out _).mono ?_
     rintro e w1 ⟨rfl,hb⟩
     have HW:=Lib.hid hb
     clear hb
     go_wp2_with fail
     refine (C60.out _).mono ?_
     rintro e w3 ⟨rfl,rfl⟩
     go_wp2_with fail
     go_ret
     exact ⟨⟨_,zv3,rfl⟩,HW.out⟩
   by_cases s4:st=4
   ·subst s4
    go_enter Tryz.func52,Tryz.ntmps52
    go_wp2_with fail
    refine (HN.out _).mono ?_
    rintro e w1 ⟨rfl,hb⟩
    have HW:=Lib.hid hb
    clear hb
    go_wp2_with fail
    go_ret
    exact ⟨⟨true,by unfold SafeR;rw [K13.out,if_neg zu15,if_neg zu15,if_neg zu15,if_pos rfl],rfl⟩,HW.out⟩
   by_cases s6:st=6
   ·subst s6
    go_enter Tryz.func52,Tryz.ntmps52
    go_wp2_with fail
    refine (HN.out _).mono ?_
    rintro e w1 ⟨rfl,hb⟩
    have HW:=Lib.hid hb
    clear hb
    go_wp2_with fail
    refine (C39.out _).mono ?_
    rintro e w3 ⟨rfl,rfl⟩
    cases h39 with
    | true =>
      go_wp2_with fail
      go_ret
      exact ⟨⟨false,by unfold SafeR;rw [K13.out,if_neg zu15,if_neg zu15,if_neg zu15,if_neg zu15,if_pos rfl];exact .inl ⟨K39.out,rfl⟩,rfl⟩,HW.out⟩
    | false =>
      go_wp2_with fail
      refine (HWH.out true _ (HG.out.step HW.out) (HE.out.step HW.out)).mono ?_
      rintro e w4 ⟨⟨x,hx,rfl⟩,hb⟩
      replace HW:=Lib.hid (HW.out.trans (hb.mono HW.out.size))
      have HX:=Lib.hid hx
      clear hb hx
      go_wp2_with fail
      go_ret
      exact ⟨⟨x,by unfold SafeR;rw [K13.out,if_neg zu15,if_neg zu15,if_neg zu15,if_neg zu15,if_pos rfl];exact .inr ⟨K39.out,HX.out⟩,rfl⟩,HW.out⟩
   by_cases s5:st=5
   ·subst s5
    go_enter Tryz.func52,Tryz.ntmps52
    go_wp2_with fail
    refine (HN.out _).mono ?_
    rintro e w1 ⟨rfl,hb⟩
    have HW:=Lib.hid hb
    clear hb
    go_wp2_with fail
    refine (C34.out _).mono ?_
    rintro e w3 ⟨rfl,rfl⟩
    cases h34 with
    | true =>
      go_wp2_with fail
      go_ret
      exact ⟨⟨false,by unfold SafeR;rw [K13.out,if_neg zu15,if_neg zu15,if_neg zu15,if_neg zu15,if_neg zu15,if_pos rfl];exact .inl ⟨K34.out,rfl⟩,rfl⟩,HW.out⟩
    | false =>
      go_wp2_with fail
      refine (HWH.out true _ (HG.out.step HW.out) (HE.out.step HW.out)).mono ?_
      rintro e w4 ⟨⟨x,hx,rfl⟩,hb⟩
      replace HW:=Lib.hid (HW.out.trans (hb.mono HW.out.size))
      have HX:=Lib.hid hx
      clear hb hx
      go_wp2_with fail
      go_ret
      exact ⟨⟨x,by unfold SafeR;rw [K13.out,if_neg zu15,if_neg zu15,if_neg zu15,if_neg zu15,if_neg zu15,if_pos rfl];exact .inr ⟨K34.out,HX.out⟩,rfl⟩,HW.out⟩
   have q0:(st == 0)=false:=by rw [beq_eq_false_iff_ne];omega
   have q1:(st == 1)=false:=by rw [beq_eq_false_iff_ne];omega
   have q2:(st == 2)=false:=by rw [beq_eq_false_iff_ne];omega
   have q3:(st == 3)=false:=by rw [beq_eq_false_iff_ne];omega
   have q4:(st == 4)=false:=by rw [beq_eq_false_iff_ne];omega
   have q5:(st == 5)=false:=by rw [beq_eq_false_iff_ne];omega
   have q6:(st == 6)=false:=by rw [beq_eq_false_iff_ne];omega
   go_enter Tryz.func52,Tryz.ntmps52
   go_wp2_with fail
   refine (HN.out _).mono ?_
   rintro e w1 ⟨rfl,hb⟩
   have HW:=Lib.hid hb
   clear hb
   go_wp2_with fail
   go_ret
   exact ⟨⟨false,by unfold SafeR;rw [K13.out,if_neg zu15,if_neg s01,if_neg s23,if_neg s4,if_neg s6,if_neg s5],rfl⟩,HW.out⟩
end Hand
end

section
namespace Hand
open Go Go.RowKit Pl Pb
def EvP (s:List UInt8) (e:Ending):Prop :=
 (e = .returned (.bool true)∧∀ k:Nat,k<7→SafeR s (k:Int) true)∨(e = .returned (.bool false)∧∃ k:Nat,k<7∧SafeR s (k:Int) false)
theorem every_c (s:List UInt8) (hs:s.length≤100000) (w:World) (hGl:Glob w) (hGE:GlobE w) :
  Calls Tryz.prog 25 #[.string (B s)] w fun e w'=>EvP s e∧Below w.heap.size w w':=by
 have HG:=Lib.hid hGl
 have HE:=Lib.hid hGE
 have HS:=Lib.hid (fun (k:Nat) W hG hE=>safe_c s (k:Int) hs W hG hE)
 obtain ⟨a,ha⟩:∃ a,B s=a:=⟨_,rfl⟩
 rw [ha] at HS ⊢
 clear ha hs hGl hGE
 go_enter Tryz.func25,Tryz.ntmps25
 go_wp2_with fail
 go_loopw [4] (fun v wx => ∃ k:Nat,v = .int .i64 (k:Int)∧k≤7∧Hid (Below w.heap.size w wx)∧Hid (∀ j:Nat,j<k→SafeR s (j:Int) true)) (fun v _=>7 - (intOf v).toNat)
 case atStart=>exact ⟨0,rfl,zu15,Lib.hid (Below.refl _ _),Lib.hid (fun j h=>by omega)⟩
 case round =>
  obtain ⟨k,rfl,hk,HW,HD⟩:=hrel
  by_cases hlt:k<7
  ·have q1:decide ((k:Int)<7)=true:=decide_eq_true zu4
   go_wp2_with fail
   refine (HS.out k _ (HG.out.step HW.out) (HE.out.step HW.out)).mono ?_
   rintro e w1 ⟨⟨b,hb,rfl⟩,hbl⟩
   have HW2:=Lib.hid (HW.out.trans (hbl.mono HW.out.size))
   cases b with
   | true =>
     have HN:Hid (∀ j:Nat,j<k+1→SafeR s (j:Int) true):=Lib.hid (fun j h=>by
      by_cases e:j=k
      ·subst e;exact hb
      ·exact HD.out j zu4)
     clear hb hbl
     go_wp2_with fail
     go_roundw
     case rel=>exact ⟨k+1,by go_num,zu4,HW2,HN⟩
     case measure=>simp [intOf];omega
   | false =>
     have HN:=Lib.hid hb
     clear hb hbl
     go_wp2_with fail
     go_ret
     exact ⟨.inr ⟨rfl,k,hlt,HN.out⟩,HW2.out⟩
  ·obtain rfl:k=7:=by omega
   go_wp2_with fail
   go_ret
   exact ⟨.inl ⟨rfl,HD.out⟩,HW.out⟩
end Hand
end

section
namespace Hand
open Go Go.RowKit Pl Pb
noncomputable def whF (attr:Bool):Nat→List UInt8→Bool
 | 0,_=>true
 | _+1,[]=>true
 | f+1,c::r=>if c=38 then ((c::r)[(refN attr (c::r)).2 - 1]? == some 59)&&whF attr f ((c::r).drop (refN attr (c::r)).2) else whF attr f r
theorem whF_more (attr:Bool) (f:Nat):∀ l f',l.length≤f→l.length≤f'→whF attr f l=whF attr f' l:=by
 induction f with
 | zero =>
   intro l f' h h'
   obtain rfl:=List.eq_nil_of_length_eq_zero (Nat.le_zero.1 h)
   cases f'<;>rfl
 | succ f ih =>
   intro l f' h h'
   cases l with
   | nil=>cases f'<;>rfl
   | cons c r =>
     cases f' with
     | zero=>simp at h'
     | succ f' =>
       have hb:=refN_bd attr c r
       simp only [List.length_cons] at h h' hb
       simp only [whF]
       split
       ·rw [ih _ f' zu48 zu48]
       ·rw [ih r f' zu4 zu4]
noncomputable def whL (attr:Bool) (l:List UInt8):Bool:=whF attr l.length l
theorem whL_nil (attr:Bool):whL attr []=true:=rfl
theorem whL_ne {c:UInt8} (attr:Bool) (r:List UInt8) (h:c≠38):whL attr (c::r)=whL attr r:=by
 unfold whL;simp only [List.length_cons,whF,if_neg h]
theorem whL_amp (attr:Bool) (r:List UInt8):whL attr (38::r)=(((38::r)[(refN attr (38::r)).2 - 1]? == some 59)&&whL attr ((38::r).drop (refN attr (38::r)).2)):=by
 have hb:=refN_bd attr 38 r
 simp only [List.length_cons] at hb
 unfold whL
 rw [List.length_cons,whF,if_pos rfl,whF_more attr r.length _ _ zu48 (Nat.le_refl _)]
theorem whL_app {p:List UInt8} (attr:Bool) (r:List UInt8) (h:(38:UInt8)∉p):whL attr (p++r)=whL attr r:=by
 induction p with
 | nil=>rfl
 | cons c p ih =>
   rw [List.cons_append,whL_ne attr _ (fun e=>h (by rw [e];simp)),ih (fun e=>h (by simp [e]))]
theorem no38_take {l:List UInt8} {o:Nat} (h:∀ k,k<o→l[k]? ≠ some 38):(38:UInt8)∉l.take o:=by
 intro hm
 obtain ⟨k,hk,e⟩:=List.getElem_of_mem hm
 rw [List.length_take] at hk
 rw [List.getElem_take] at e
 exact h k zu4 (by rw [List.getElem?_eq_getElem zu4,e])
theorem split_at {s:List UInt8} {i o:Nat} (h1:(s.drop i)[o]? = some 38):s.drop i=(s.drop i).take o++38::s.drop (i+o+1)∧s.drop (i+o)=38::s.drop (i+o+1):=by
 rw [List.getElem?_drop] at h1
 obtain ⟨hl,he⟩:=List.getElem?_eq_some_iff.1 h1
 have hd:s.drop (i+o)=38::s.drop (i+o+1):=by rw [List.drop_eq_getElem_cons hl,he]
 refine ⟨?_,hd⟩
 rw [← hd,← List.drop_drop,List.take_append_drop]
theorem refR_next {s:List UInt8} {n m:Nat} {attr:Bool} {t:ByteArray} (h:RefR s n attr (.tuple #[.string t,.int .i64 (m:Int)])) (hb:begR (s.drop n) [38]=true):m=n+(refN attr (s.drop n)).2∧t=B (refN attr (s.drop n)).1:=by
 have e:=refR_refN h hb
 simp only [Value.tuple.injEq,Array.mk.injEq,List.cons.injEq,Value.int.injEq,Value.string.injEq] at e
 exact ⟨zu4,e.1⟩
theorem whl_fun {s:List UInt8} {attr:Bool} {i:Nat} {b:Bool} (h:Whl s attr i b):b=whL attr (s.drop i):=by
 induction h with
 | stop i h =>
   have:(38:UInt8)∉s.drop i:=by
    intro hm
    obtain ⟨k,hk,e⟩:=List.getElem_of_mem hm
    exact h k (by rw [List.getElem?_eq_getElem hk,e])
   have e:=whL_app attr [] this
   rw [List.append_nil,whL_nil] at e
   exact e.symm
 | bad i o m t h1 h2 h3 h4 =>
   obtain ⟨e1,e2⟩:=split_at h1
   obtain ⟨e3,_⟩:=refR_next h3 (begR_amp h1)
   have hb:=refN_bd attr 38 (s.drop (i+o+1))
   rw [e1,whL_app attr _ (no38_take h2),whL_amp,← e2]
   rw [← e2] at hb
   have:(s.drop (i+o))[(refN attr (s.drop (i+o))).2 - 1]? = s[m - 1]? := by rw [List.getElem?_drop,e3];congr 1;omega
   rw [this,show (s[m - 1]? == some 59)=false by rw [beq_eq_false_iff_ne];exact h4];rfl
 | go i o m t b h1 h2 h3 h4 h5 ih =>
   obtain ⟨e1,e2⟩:=split_at h1
   obtain ⟨e3,_⟩:=refR_next h3 (begR_amp h1)
   have hb:=refN_bd attr 38 (s.drop (i+o+1))
   rw [e1,whL_app attr _ (no38_take h2),whL_amp,← e2]
   rw [← e2] at hb
   have:(s.drop (i+o))[(refN attr (s.drop (i+o))).2 - 1]? = s[m - 1]? := by rw [List.getElem?_drop,e3];congr 1;omega
   rw [this,h4,ih,List.drop_drop,← e3];rfl
theorem wholeN_c (s:List UInt8) (attr:Bool) (hs:s.length≤100000) (w:World) (hGl:Glob w) (hGE:GlobE w) :
  Calls Tryz.prog 53 #[.string (B s),.bool attr] w fun e w'=>e = .returned (.bool (whL attr s))∧Below w.heap.size w w' :=
 (whole_c s attr hs w hGl hGE).mono fun e w' h=>by
   obtain ⟨⟨v,hv,he⟩,hb2⟩:=h
   exact ⟨by rw [he,whl_fun hv,List.drop_zero],hb2⟩
end Hand
end

section
namespace Hand
open Go Go.RowKit Pl Pb
noncomputable def safL (st:Int) (s:List UInt8):Bool :=
 !hasB s 13&&(if st=0∨st=1 then !hasB s 60&&whL false s else if st=2∨st=3 then !hasB s 60 else if st=4 then true else if st=5 then !hasB s 34&&whL true s else if st=6 then !hasB s 39&&whL true s else false)
theorem saf_fun {s:List UInt8} {st:Int} {b:Bool} (h:SafeR s st b):b=safL st s:=by
 unfold SafeR at h
 unfold safL
 split at h
 ·rename_i g;rw [h,g];rfl
 ·rename_i g
  rw [Bool.not_eq_true] at g
  rw [g,Bool.not_false,Bool.true_and]
  split at h
  ·rename_i g1;rw [if_pos g1]
   obtain ⟨x,hx,rfl⟩:=h
   rw [whl_fun hx,List.drop_zero,Bool.and_comm]
  ·rename_i g1;rw [if_neg g1]
   split at h
   ·rename_i g2;rw [if_pos g2];exact h
   ·rename_i g2;rw [if_neg g2]
    split at h
    ·rename_i g3;rw [if_pos g3];exact h
    ·rename_i g3;rw [if_neg g3]
     split at h
     ·rename_i g6
      rw [if_neg zu4,if_pos g6]
      rcases h with ⟨a1,a2⟩|⟨a1,a2⟩
      ·rw [a2,a1];rfl
      ·rw [whl_fun a2,a1,List.drop_zero];rfl
     ·rename_i g6
      split at h
      ·rename_i g5;rw [if_pos g5]
       rcases h with ⟨a1,a2⟩|⟨a1,a2⟩
       ·rw [a2,a1];rfl
       ·rw [whl_fun a2,a1,List.drop_zero];rfl
      ·rename_i g5;rw [if_neg g5,if_neg g6];exact h
theorem safeN_c (s:List UInt8) (st:Int) (hs:s.length≤100000) (w:World) (hGl:Glob w) (hGE:GlobE w) :
  Calls Tryz.prog 52 #[.int .i64 st,.string (B s)] w fun e w'=>e = .returned (.bool (safL st s))∧Below w.heap.size w w' :=
 (safe_c s st hs w hGl hGE).mono fun e w' h=>by
   obtain ⟨⟨b,hb,he⟩,h2⟩:=h
   exact ⟨by rw [he,saf_fun hb],h2⟩
noncomputable def everL (s:List UInt8):Bool:=safL 0 s&&(safL 1 s&&(safL 2 s&&(safL 3 s&&(safL 4 s&&(safL 5 s&&safL 6 s)))))
theorem everN_c (s:List UInt8) (hs:s.length≤100000) (w:World) (hGl:Glob w) (hGE:GlobE w) :
  Calls Tryz.prog 25 #[.string (B s)] w fun e w'=>e = .returned (.bool (everL s))∧Below w.heap.size w w' :=
 (every_c s hs w hGl hGE).mono fun e w' h=>by
   obtain ⟨h1,h2⟩:=h
   refine ⟨?_,h2⟩
   rcases h1 with ⟨rfl,hh⟩|⟨rfl,k,hk,hh⟩
   ·have g:=fun k hk=>(saf_fun (hh k hk)).symm
    have:everL s=true:=by
     unfold everL
     rw [show safL 0 s=true from g 0 zu15,show safL 1 s=true from g 1 zu15,show safL 2 s=true from g 2 zu15,show safL 3 s=true from g 3 zu15,show safL 4 s=true from g 4 zu15,show safL 5 s=true from g 5 zu15,show safL 6 s=true from g 6 zu15]
     rfl
    rw [this]
   ·have g:=(saf_fun hh).symm
    have:everL s=false:=by
     unfold everL
     match k,hk with
     | 0,_=>rw [show safL 0 s=false from g];rfl
     | 1,_=>rw [show safL 1 s=false from g];simp
     | 2,_=>rw [show safL 2 s=false from g];simp
     | 3,_=>rw [show safL 3 s=false from g];simp
     | 4,_=>rw [show safL 4 s=false from g];simp
     | 5,_=>rw [show safL 5 s=false from g];simp
     | 6,_=>rw [show safL 6 s=false from g];simp
    rw [this]
end Hand
end

section
namespace Hand
open Go Go.RowKit Pl Pb
theorem whL_semi {attr:Bool} {w:List UInt8} (r:List UInt8) (hk:isKey namesL (w++[59])):whL attr (38::(w++59::r))=whL attr r:=by
 rw [whL_amp,refN_semi r hk]
 simp only
 rw [show w.length+2 - 1=w.length+1 by omega,List.getElem?_cons_succ,List.getElem?_append_right (Nat.le_refl _),Nat.sub_self,List.drop_succ_cons,List.drop_append,List.drop_eq_nil_of_le zu4,show w.length+1 - w.length=1 by omega]
 rfl
theorem whL_dec {attr:Bool} (ds r:List UInt8) (h:∀ c∈ds,isDg false c=true) (h0:ds≠[]) {m:Nat} (hv:valL 10 ds=m):whL attr (38::35::(ds++59::r))=whL attr r:=by
 rw [whL_amp,refN_dec ds r h h0 hv]
 simp only
 rw [show ds.length+3 - 1=(ds.length+1)+1 by omega,List.getElem?_cons_succ,List.getElem?_cons_succ,List.getElem?_append_right (Nat.le_refl _),Nat.sub_self,show ds.length+3=(ds.length+1)+2 by omega,List.drop_succ_cons,List.drop_succ_cons,List.drop_append,List.drop_eq_nil_of_le zu4,show ds.length+1 - ds.length=1 by omega]
 rfl
theorem whL_no {attr:Bool} {p:List UInt8} (h:(38:UInt8)∉p):whL attr p=true:=by
 have:=whL_app attr [] h
 rwa [List.append_nil,whL_nil] at this
end Hand
end

section
namespace Hand
open Go Go.RowKit Pl Pb
theorem ever_amp:everL [97,38,97,109,112,59]=true:=by
 have hw:∀ attr,whL attr [97,38,97,109,112,59]=true:=fun attr=>by
  rw [whL_ne attr _ zu15]
  exact (whL_semi (w:=wordAmp) [] (fnd_key fnd_amp)).trans (whL_nil _)
 unfold everL safL
 rw [hw,hw];decide
theorem saf_amp0:safL 0 [97,38,97,109,112]=false:=by
 have hl:lngN wordAmp=3:=lngN_eq ⟨zu15,.inr (fnd_key fnd_amp0),fun m h1 h2 _=>by have:min 32 wordAmp.length=3:=rfl;omega⟩
 have hr:refN false (38::wordAmp)=([38],4):=by
  unfold refN
  rw [show (38::wordAmp).drop 1=wordAmp from rfl,show numL wordAmp=none by decide +kernel]
  simp only [hl]
  rw [if_neg,show wordAmp.take 3=wordAmp from rfl,nameT_amp0]
  rintro (e|e)
  ·cases e
  ·exact absurd e zu15
 have hw:whL false [97,38,97,109,112]=false:=by
  rw [whL_ne false _ zu15]
  refine (whL_amp false wordAmp).trans ?_
  rw [hr];rfl
 unfold safL
 rw [if_pos (.inl rfl),hw,Bool.and_false,Bool.and_false]
theorem awake25_any (w:World) (hGl:Glob w) (hGE:GlobE w):Calls Tryz.prog 24 #[] w fun e w'=>e = .returned (.bool true)∧Below w.heap.size w w':=by
 have G1:=Lib.hid (fun W hG hE=>everN_c [97,38,97,109,112,59] zu15 W hG hE)
 have G2:=Lib.hid (fun W hG hE=>safeN_c [97,38,97,109,112] 0 zu15 W hG hE)
 have G3:=Lib.hid (fun W hG hE=>safeN_c [39] 5 zu15 W hG hE)
 have G4:=Lib.hid (fun W hG hE=>safeN_c [39] 6 zu15 W hG hE)
 have G5:=Lib.hid (fun W hG hE=>wholeN_c [97] true zu15 W hG hE)
 rw [ever_amp] at G1
 rw [saf_amp0] at G2
 rw [show safL 5 [39]=true by unfold safL;rw [whL_no zu15];decide] at G3
 rw [show safL 6 [39]=false by unfold safL;decide] at G4
 rw [whL_no zu15] at G5
 unfold B at G1 G2 G3 G4 G5
 have HG:=Lib.hid hGl
 have HE:=Lib.hid hGE
 clear hGl hGE
 go_enter Tryz.func24,Tryz.ntmps24
 go_wp2_with fail
 refine (G1.out _ HG.out HE.out).mono ?_
 rintro e w1 ⟨rfl,hb⟩
 have HB:=Lib.hid hb
 clear hb
 go_wp2_with fail
 refine (G2.out _ (HG.out.step HB.out) (HE.out.step HB.out)).mono ?_
 rintro e w2 ⟨rfl,hb⟩
 replace HB:=Lib.hid (HB.out.trans (hb.mono HB.out.size))
 clear hb
 go_wp2_with fail
 refine (G3.out _ (HG.out.step HB.out) (HE.out.step HB.out)).mono ?_
 rintro e w3 ⟨rfl,hb⟩
 replace HB:=Lib.hid (HB.out.trans (hb.mono HB.out.size))
 clear hb
 go_wp2_with fail
 refine (G4.out _ (HG.out.step HB.out) (HE.out.step HB.out)).mono ?_
 rintro e w4 ⟨rfl,hb⟩
 replace HB:=Lib.hid (HB.out.trans (hb.mono HB.out.size))
 clear hb
 go_wp2_with fail
 refine (G5.out _ (HG.out.step HB.out) (HE.out.step HB.out)).mono ?_
 rintro e w5 ⟨rfl,hb⟩
 replace HB:=Lib.hid (HB.out.trans (hb.mono HB.out.size))
 clear hb
 go_wp2_with fail
 go_ret
 exact ⟨rfl,HB.out⟩
end Hand
end

section
namespace Hand
open Go Go.RowKit Pl Pb
theorem wh_amp (attr:Bool) (r:List UInt8):whL attr (wAmp++r)=whL attr r:=whL_semi (w:=wordAmp) r (fnd_key fnd_amp)
theorem wh_lt (attr:Bool) (r:List UInt8):whL attr (wLt++r)=whL attr r:=whL_semi (w:=wordLt) r (fnd_key fnd_lt)
theorem wh_gt (attr:Bool) (r:List UInt8):whL attr (wGt++r)=whL attr r:=whL_semi (w:=wordGt) r (fnd_key fnd_gt)
theorem wh_quot (attr:Bool) (r:List UInt8):whL attr (wQuot++r)=whL attr r:=whL_semi (w:=wordQuot) r (fnd_key fnd_quot)
theorem wh_apos (attr:Bool) (r:List UInt8):whL attr (wApos++r)=whL attr r:=whL_dec (m:=39) [51,57] r zu15 zu15 zu15
theorem wh_cr (attr:Bool) (r:List UInt8):whL attr (wCr++r)=whL attr r:=whL_dec (m:=13) [49,51] r zu15 zu15 zu15
theorem wh_mark (attr:Bool) (r:List UInt8):whL attr (wMark++r)=whL attr r:=whL_dec (m:=65279) [54,53,50,55,57] r zu15 zu15 zu15
theorem wh_esc (attr:Bool):∀ n (s:List UInt8),s.length≤n→whL attr (escL s)=true:=by
 intro n
 induction n with
 | zero=>intro s h;obtain rfl:=List.eq_nil_of_length_eq_zero (Nat.le_zero.1 h);rfl
 | succ n ih =>
   intro s h
   cases s with
   | nil=>rfl
   | cons c r =>
     have hr:r.length≤n:=by simp only [List.length_cons] at h;omega
     refine esc_cases c r (fun l=>whL attr l=true) ?_ ?_ ?_ ?_ ?_ ?_ ?_ ?_ ?_
     ·intro _;rw [wh_amp];exact ih r hr
     ·intro _;rw [wh_lt];exact ih r hr
     ·intro _;rw [wh_gt];exact ih r hr
     ·intro _;rw [wh_quot];exact ih r hr
     ·intro _;rw [wh_apos];exact ih r hr
     ·intro _;rw [wh_cr];exact ih r hr
     ·intro _;rw [whL_app attr _ zu15];exact ih r hr
     ·intro q _ e
      rw [wh_mark]
      exact ih q (by rw [e] at hr;simp only [List.length_cons] at hr;omega)
     ·intro h38 _ _ _ _ _ _ _;rw [whL_ne attr _ h38];exact ih r hr
theorem ever_of {s:List UInt8} (h:∀ c∈s,c≠60∧c≠34∧c≠39∧c≠13) (hw:∀ attr,whL attr s=true):everL s=true:=by
 have n60:hasB s 60=false:=decide_eq_false fun m=>(h _ m).1 rfl
 have n34:hasB s 34=false:=decide_eq_false fun m=>(h _ m).2.1 rfl
 have n39:hasB s 39=false:=decide_eq_false fun m=>(h _ m).2.2.1 rfl
 have n13:hasB s 13=false:=decide_eq_false fun m=>(h _ m).2.2.2 rfl
 unfold everL safL
 rw [n60,n34,n39,n13,hw,hw]
 decide
theorem ever_esc (s:List UInt8):everL (escL s)=true :=
 ever_of (fun c hc=>by obtain ⟨h1,_,h3,h4,_,h6⟩:=esc_no s c hc;exact ⟨h1,h3,h4,h6⟩) fun attr=>wh_esc attr _ s (Nat.le_refl _)
theorem ever_enc {k:Int} (hk:k=0∨k=1∨k=2) (s:List UInt8):everL (encL k s)=true:=by
 unfold encL
 by_cases h:k=0∨k=1
 ·rw [if_pos h];exact ever_esc s
 ·rw [if_neg h,if_pos zu4]
  split
  ·refine ever_of (fun c hc => ?_) fun attr=>by rw [whL_ne attr _ zu15];exact wh_esc attr _ s (Nat.le_refl _)
   rcases List.mem_cons.1 hc with rfl|hc
   ·decide
   ·obtain ⟨h1,_,h3,h4,_,h6⟩:=esc_no s c hc;exact ⟨h1,h3,h4,h6⟩
  ·exact ever_esc s
end Hand
end

section
namespace Hand
open Go Go.RowKit K0 Pl Pb Sa St Go.Proofs.YtclkdmmgibgamaaGreatDoor.Pure YtclkdmmgibgamaaGreatDoorW.PrintWords YtclkdmmgibgamaaGreatDoorW.PrintLast YtclkdmmgibgamaaGreatDoorW.PrintMore
theorem SafeWritten_law (a0:Int) (a1:ByteArray) (a2:Option Addr) (len2 cap2:Nat) (z2:List Int) (w:World) (w0:(Lit.int .u8 a0).wf=true) (_:a1.size≤140737488351232) (w2:RowU8 w a2 len2 cap2 z2) (_:len2*1≤140737488351232) (hGl:Glob w) :
  Calls Tryz.prog 8 #[.int .u8 a0,.string a1,.slice a2 len2 cap2] w fun e w'=>e = .returned (.bool true)∧Below w.heap.size w w':=by
 obtain ⟨l,rfl,hr,hm,hw,hc⟩:=ReadsInt.ofRowC w2
 have hv:=byt_of (Kd.C_of_reads (d:=(0:Int)) (h1:=fun _=>rfl) hr) cap2
 have hn:=numsB_len l
 obtain ⟨s,hs⟩:∃ s,numsB l=s:=⟨_,rfl⟩
 rw [hs] at hv hn
 have AW:=Lib.hid (fun W hG=>awake25_any W hG hG.toE)
 have HG:=Lib.hid hGl
 clear hr hm hw hc w2 hs
 obtain ⟨n,hnn⟩:∃ n,l.length=n:=⟨_,rfl⟩
 rw [hnn] at hv hn ⊢
 clear hnn
 by_cases c0:300<a1.size
 ·have q0:decide (300<a1.size)=true:=decide_eq_true c0
  have q0':decide ((300:Int)<(a1.size:Int))=true:=decide_eq_true zu4
  clear c0 hv hn
  go_enter Tryz.func8,Tryz.ntmps8
  go_wp2_with fail
  refine (AW.out _ HG.out).mono ?_
  rintro e w1 ⟨rfl,hb⟩
  go_wp2_with fail
  go_ret
  exact ⟨rfl,hb⟩
 have q0:decide (300<a1.size)=false:=decide_eq_false c0
 have q0':decide ((300:Int)<(a1.size:Int))=false:=decide_eq_false zu4
 by_cases c1:300<n
 ·have q1:decide (300<n)=true:=decide_eq_true c1
  have q1':decide ((300:Int)<(n:Int))=true:=decide_eq_true zu4
  clear c0 c1 hv hn
  go_enter Tryz.func8,Tryz.ntmps8
  go_wp2_with fail
  refine (AW.out _ HG.out).mono ?_
  rintro e w1 ⟨rfl,hb⟩
  go_wp2_with fail
  go_ret
  exact ⟨rfl,hb⟩
 have q1:decide (300<n)=false:=decide_eq_false c1
 have q1':decide ((300:Int)<(n:Int))=false:=decide_eq_false zu4
 obtain ⟨x,rfl⟩:=exists_B a1
 have hx:x.length≤300:=by rw [size_B] at c0;omega
 obtain ⟨k,m1,hk3⟩:=mod_three w0
 have m3:wrap64 k=k:=by unfold wrap64;omega
 have zl:=sann_len hk3 s zu4
 have el:=enc_length k x
 have EN:Hid (∀ W,Calls Tryz.prog 26 #[.int .i64 k,.string (B x)] W fun e w'=>e = .returned (.string (B (encL k x)))∧Below W.heap.size W w'):=Lib.hid (fun W=>enc_c k x W zu4)
 have E1:Hid (∀ W,Glob W→Calls Tryz.prog 25 #[.string (B (encL k x))] W fun e w'=>e = .returned (.bool true)∧Below W.heap.size W w'):=Lib.hid (fun W hG=>by
  have:=everN_c (encL k x) zu4 W hG hG.toE
  rwa [ever_enc hk3] at this)
 have SA:Hid (∀ W,Glob W→Below w.heap.size w W→Calls Tryz.prog 18 #[.int .i64 k,.slice a2 n cap2] W fun e w'=>e = .returned (.string (B (sanL k s)))∧Below W.heap.size W w'):=Lib.hid (fun W hG hb=>sanitize_c k s _ zu4 W hG (hv.step hb))
 have E2:Hid (∀ W,Glob W→Calls Tryz.prog 25 #[.string (B (sanL k s))] W fun e w'=>e = .returned (.bool true)∧Below W.heap.size W w'):=Lib.hid (fun W hG=>by
  have:=everN_c (sanL k s) zu4 W hG hG.toE
  rwa [show everL (sanL k s)=true by rw [san_same k zu4];exact ever_esc _] at this)
 obtain ⟨a,ha⟩:∃ a,B x=a:=⟨_,rfl⟩
 obtain ⟨b,hb'⟩:∃ a,B (encL k x)=a:=⟨_,rfl⟩
 obtain ⟨c,hc'⟩:∃ a,B (sanL k s)=a:=⟨_,rfl⟩
 rw [ha] at q0 q0' EN ⊢
 rw [hb'] at EN E1
 rw [hc'] at SA E2
 clear ha hb' hc' zl el hv hk3 hn c0 c1 w0 hGl hx
 go_enter Tryz.func8,Tryz.ntmps8
 go_wp2_with fail
 refine (AW.out _ HG.out).mono ?_
 rintro e w1 ⟨rfl,hb⟩
 have HB:=Lib.hid hb
 clear hb
 go_wp2_with fail
 refine (EN.out _).mono ?_
 rintro e w2 ⟨rfl,hb⟩
 replace HB:=Lib.hid (HB.out.trans (hb.mono HB.out.size))
 clear hb
 go_wp2_with fail
 refine (E1.out _ (HG.out.step HB.out)).mono ?_
 rintro e w3 ⟨rfl,hb⟩
 replace HB:=Lib.hid (HB.out.trans (hb.mono HB.out.size))
 clear hb
 go_wp2_with fail
 refine (SA.out _ (HG.out.step HB.out) HB.out).mono ?_
 rintro e w4 ⟨rfl,hb⟩
 replace HB:=Lib.hid (HB.out.trans (hb.mono HB.out.size))
 clear hb
 go_wp2_with fail
 refine (E2.out _ (HG.out.step HB.out)).mono ?_
 rintro e w5 ⟨rfl,hb⟩
 replace HB:=Lib.hid (HB.out.trans (hb.mono HB.out.size))
 clear hb
 go_wp2_with fail
 go_ret
 exact ⟨rfl,HB.out⟩
end Hand
end

end Go.Proofs.YtclkdmmgibgamaaGreatDoor
section
namespace Go.Proofs.YtclkdmmgibgamaaGreatDoorW.PrintWords
open Go.ChangeShapes Go.WideShapes
theorem sized_ints {H:Type} {enc:TypeId×Value→H} {P:Program} {W:World} {base:Nat} {spare:Nat→Bool} {held:Bool} {t e:TypeId} {k:IntKind} {a:Option Addr} {len cap:Nat} {d:DataW H} {ps:List MemPlace} {ts:List TypeId} {ds:List (DataW H)} {j:Nat}
  (hsz:(DataW.weightsEach P ts ds).all (· ≤ reachBytes)=true) (ht:ts[j]? = some t) (hd:ds[j]? = some d) (hu:P.underlying t=some (.slice e)) (he:P.underlying e=some (.int k)) (hc:P.cellsOf e=1) {B:Nat} (hB:P.bytesOf e=B)
  (h:DataW.Trod enc P W base spare held t (.slice a len cap) d ps):len*B≤140737488351232:=by
 obtain ⟨fuel,hf⟩:=h
 rcases open_ints hu he hc hf with ⟨hcs,_⟩|⟨x,l,c,zs,hcs,_,hl,_,hz,hx,_,_⟩
 ·simp [Value.cells] at hcs
  obtain ⟨rfl,rfl,rfl⟩:=hcs
  simp
 ·simp [Value.cells] at hcs
  obtain ⟨rfl,rfl,rfl⟩:=hcs
  obtain ⟨hx,_⟩:=Prod.mk.inj hx
  subst hx
  have z:=sized_slice hsz ht hd hu
  rw [hB] at z
  have hl2:len≤zs.length:=by
   rw [hz]
   split
   ·exact hl
   ·exact Nat.le_refl _
  have h1:(lits (H:=H) k (zs.take len)).length+(lits (H:=H) k (zs.drop len)).length=zs.length:=by
   simp [lits]
   omega
  rw [h1] at z
  exact Nat.le_trans (Nat.mul_le_mul_right _ hl2) z
end Go.Proofs.YtclkdmmgibgamaaGreatDoorW.PrintWords
end
