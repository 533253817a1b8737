/-
  Texts that several claims of this seat share, merged by a program of this session (1).
-/
import Derived.Shelf.Strings.Builder1
import Derived.Shelf.Strings.Builder2
import Derived.Shelf.Small.Strs
import Derived.Shelf.Small.Wraps
import Derived.Shelf.Strings.BuilderF
import Derived.Shelf.Strings.BuilderK
import Derived.Shelf.Utf8.RuneCount
import Derived.Shelf.Strconv.Itoa0
import Derived.Shelf.LaysM
import Derived.Shelf.Strconv.Clone
import Derived.Shelf.Strconv.SyntaxError
import Derived.Shelf.LaysC
import Derived.Shelf.Strconv.ToError
import Derived.Shelf.Strconv.Lower
import Derived.Shelf.Strconv.ParseUintEmpty
import Derived.Shelf.Strings.Search1
import Derived.Shelf.Strings.Search2
import Derived.Shelf.Strings.Search3
import Derived.Shelf.Strings.Cut
import Derived.Shelf.Strings.Count
import Derived.Shelf.Strings.Shaped
import Derived.Shelf.Strings.LastIndex
import Derived.Shelf.Strings.Prefix
import Derived.Shelf.Strings.Split
import Derived.Shelf.Strings.Replace
import Derived.Shelf.Strings.SplitShaped
import Derived.Shelf.Unicode.Decode
import Derived.Shelf.Strings.RuneCount
import Derived.Shelf.Bits.Mul64
import Derived.Shelf.Unicode.DecodeSlow
import Derived.Shelf.Unicode.DecodeAny
import Derived.Ground.SlgfProg
import Derived.Shelf.SlicesE.IndexFunc
import Derived.Shelf.SlicesE.DeleteFunc
import Derived.Test.YtclkdmmgibgamaaGreatDoorProg
import Derived.Shelf.Strings.Repeat
import Derived.KernelRfl
import Derived.Lib.IndexLaws
import Derived.Lib.LastIndexByte
import Derived.Lib.Replace
import Derived.Lib.CountLaws
import Derived.WalkKit
import Derived.WalkSpells
import Derived.WalkLawsBesides
import Derived.WalkMore
import Derived.ScopeJumps
import Derived.Lib.Hide
import Derived.Below
import Derived.Deep.Draws
import Derived.Deep.AppendLies
import Derived.Maps.AppendAt
import Derived.OwnWalk
import Derived.Laws.BytesArg
import Derived.Laws.MakeOwn
import Derived.Laws.OwnMore
import Derived.Deep.OwnRows
import Derived.Tactics
import Derived.Lib.ConvBytes
import Derived.Laws.Slices
import Derived.RowKit3
import Derived.Deep.LoopGhost
import Derived.Deep.QuietTactic
import Derived.BigQuiet
import Derived.WideLaws
import Derived.Deep.DeepCutAuto
import Derived.Deep.CutBlock
import Derived.Deep.RegionHeld3
import Derived.Laws.Rows
import Derived.Lib.AppendStr
import Derived.ArgAppend
import Derived.Laws.IdiomCopy
import Derived.RowKit
import Derived.Laws.Cover1
import Derived.LoopN
import Derived.Laws.IdiomStrings
import Derived.Laws.FloatArith
import Derived.Laws.Cover2
import Derived.OrdersHeld
import Derived.Laws.BitsLemmas
set_option linter.unusedVariables false
set_option linter.unusedSimpArgs false
namespace Go.Proofs.YtclkdmmgibgamaaGreatDoor
theorem zu1{p:Prop}(h:p:=by repeat (first | (with_reducible first|exact HB.out|apply below_alloc|apply pw_below_drewN|apply below_drew1)|exact HB.out)):p:=h
theorem zu2{p:Prop}(h:p:=by (try simp only [List.map_toArray,List.map_cons,List.map_nil]);first|done|rfl | (simp only [List.length_drop,List.length_take];rfl)):p:=h
theorem zu3{p:Prop}(h:p:=by repeat (first | (with_reducible first|exact HB.out|apply below_alloc|apply pw_below_drewN|apply below_drew1|refine below_set ?_ GE101.out)|exact HB.out)):p:=h
theorem zu4{p:Prop}(h:p:=by omega):p:=h
theorem zu5{p:Prop}(h:p:=by exact ⟨by first|rfl | (simp [errW_none,errW_some]<;>rfl) | (simp [*,errW_none,errW_some]<;>rfl),by repeat (first | (with_reducible first|exact HB.out|apply below_alloc|apply pw_below_drewN|apply below_drew1)|exact HB.out)⟩):p:=h
theorem zu6{p:Prop}(h:p:=by exact ⟨by first|rfl | (simp [errW_none,errW_some]<;>rfl) | (simp [*,errW_none,errW_some]<;>rfl),by repeat (first | (with_reducible first|exact HI0.out|apply IsS170.alloc|apply IsS170.drewN|apply IsS170.drew|apply IsS170.set_0|apply IsS170.set_1)|exact HI0.out),by repeat (first | (with_reducible first|exact HB.out|apply below_alloc|apply pw_below_drewN|apply below_drew1|refine below_set ?_ (IsS170.ge HI0.out))|exact HB.out),by repeat (first | (with_reducible first|exact HK.out|apply KeepBut.set_|apply keep_drewN|apply keep_drew|apply keep_alloc)|exact HK.out)⟩):p:=h
theorem zu7{p:Prop}(h:p:=by first|rfl | (simp [errW_none,errW_some]<;>rfl) | (simp [*,errW_none,errW_some]<;>rfl)):p:=h
theorem zu8{p:Prop}(h:p:=by (with_reducible repeat (first|refine blk_drewN ?_ _|refine blk_drew ?_|refine blk_alloc ?_ _));exact BK101.out):p:=h
theorem zu9{p:Prop}(h:p:=by repeat (first | (with_reducible first|exact HB.out|apply below_alloc|apply pw_below_drewN|apply below_drew1|refine below_set ?_ (IsS170.ge HI0.out))|exact HB.out)):p:=h
theorem zu10{p:Prop}(h:p:=by repeat (first | (with_reducible first|exact HI0.out|apply IsS170.alloc|apply IsS170.drewN|apply IsS170.drew|apply IsS170.set_0|apply IsS170.set_1)|exact HI0.out)):p:=h
theorem zu11{p:Prop}(h:p:=by repeat (first | (with_reducible first|exact HK.out|apply KeepBut.set_|apply keep_drewN|apply keep_drew|apply keep_alloc)|exact HK.out)):p:=h
theorem zu12{p:Prop}(h:p:=by (with_reducible repeat (first|refine blk_drewN ?_ _|refine blk_drew ?_|refine blk_alloc ?_ _));refine blk_put (cs := #[.int .i64 0,.string (⟨#[]⟩:ByteArray),.string (⟨#[]⟩:ByteArray),.slice none 0 0,.bool false]) ?_ 4 _ rfl;(with_reducible repeat (first|refine blk_drewN ?_ _|refine blk_drew ?_|refine blk_alloc ?_ _));refine blk_put (cs := #[.int .i64 0,.string (⟨#[]⟩:ByteArray),.string (⟨#[]⟩:ByteArray),.slice none 0 0,.bool false]) ?_ 3 _ rfl;(with_reducible repeat (first|refine blk_drewN ?_ _|refine blk_drew ?_|refine blk_alloc ?_ _));refine blk_put (cs := #[.int .i64 0,.string (⟨#[]⟩:ByteArray),.string (⟨#[]⟩:ByteArray),.slice none 0 0,.bool false]) ?_ 2 _ rfl;(with_reducible repeat (first|refine blk_drewN ?_ _|refine blk_drew ?_|refine blk_alloc ?_ _));refine blk_put (cs := #[.int .i64 0,.string (⟨#[]⟩:ByteArray),.string (⟨#[]⟩:ByteArray),.slice none 0 0,.bool false]) ?_ 1 _ rfl;(with_reducible repeat (first|refine blk_drewN ?_ _|refine blk_drew ?_|refine blk_alloc ?_ _));refine blk_put (cs := #[.int .i64 0,.string (⟨#[]⟩:ByteArray),.string (⟨#[]⟩:ByteArray),.slice none 0 0,.bool false]) ?_ 0 _ rfl;(with_reducible repeat (first|refine blk_drewN ?_ _|refine blk_drew ?_|refine blk_alloc ?_ _));exact BK101.out):p:=h
theorem zu13{p:Prop}(h:p:=by kernel_rfl):p:=h
theorem zu14{p:Prop}(h:p:=by exact ⟨by first|rfl | (simp;done) | (simp [*];done),by repeat (first|exact Drawn0.refl _|apply Drawn0.step)⟩):p:=h
theorem zu15{p:Prop}(h:p:=by decide):p:=h
theorem zu16{p:Prop}(h:p:=by exact ⟨rfl,g,Nat.lt_succ_self _,_,_,_,_,_,_,_,_,_,_,_,_,_,_,_,_,_,_,_,_,_,_,_,_,_,_,_,_,_,_,_,_,_,_,_,_,_,_,_,_,_,_,_,_,_,_,_,_,_,_,_,_,_,_,_,_,_,_,_,_,_,_,_,_,_,_,_,_,_,_,_,_,_,_,_,rfl,H.out,HB.out⟩):p:=h
theorem zu17{p:Prop}(h:p:=by first | (with_reducible assumption)|assumption):p:=h
theorem zu18{p:Prop}(h:p:=by first|rfl | (simp;done) | (simp [*];done)):p:=h
theorem zu19{p:Prop}(h:p:=by simp):p:=h
theorem zu20{p:Prop}(h:p:=by repeat (first|exact Drawn0.refl _|apply Drawn0.step)):p:=h
theorem zu21{p:Prop}(h:p:=by exact ⟨by first|rfl | (simp [errW_none,errW_some]<;>rfl) | (simp only [← hji11];first|rfl | (simp [errW_none,errW_some]<;>rfl)) | (simp [*,errW_none,errW_some]<;>rfl),by repeat (first | (with_reducible first|exact HB.out|apply below_alloc|apply pw_below_drewN|apply below_drew1)|exact HB.out)⟩):p:=h
theorem zu22{p:Prop}(h:p:=by exact ⟨_,by first|rfl | (simp [errW_none,errW_some]<;>rfl) | (simp [*,errW_none,errW_some]<;>rfl),by first|exact Kd.R_nil _ _ _ _ _|exact Kd.N_nil _ _ _ _ _|exact Kd.V_nil _ _ _ _ _|exact Kd.Q_nil _ _ _ _ _|exact Kd.S_nil _ _ _ _ _,by repeat (first | (with_reducible first|exact HB.out|apply below_alloc|apply pw_below_drewN|apply below_drew1|refine below_set ?_ GE101.out)|exact HB.out)⟩):p:=h
theorem zu23{p:Prop}(h:p:=by (with_reducible repeat (first|apply Kd.R_alloc|apply Kd.R_drewN|apply Kd.R_drew));exact HO114.out):p:=h
theorem zu24{p:Prop}(h:p:=by exact ⟨by first|rfl | (simp [errW_none,errW_some]<;>rfl) | (simp only [← hji14];first|rfl | (simp [errW_none,errW_some]<;>rfl)) | (simp [*,errW_none,errW_some]<;>rfl),by repeat (first | (with_reducible first|exact HB.out|apply below_alloc|apply pw_below_drewN|apply below_drew1)|exact HB.out)⟩):p:=h
theorem zu25{p:Prop}(h:p:=by simp;omega):p:=h
theorem zu26{p:Prop}(h:p:=by repeat (first | (with_reducible first|exact HB.out|apply below_alloc|apply pw_below_drewN|apply below_drew1|refine below_set ?_ GE161.out)|exact HB.out)):p:=h
theorem zu27{p:Prop}(h:p:=by first|rfl | (simp [errW_none,errW_some]<;>rfl) | (simp only [← hji11];first|rfl | (simp [errW_none,errW_some]<;>rfl)) | (simp [*,errW_none,errW_some]<;>rfl)):p:=h
theorem zu28{p:Prop}(h:p:=by (try simp only [List.map_toArray,List.map_cons,List.map_nil]);first|done | (simp only [hji11];rfl)|rfl | (simp only [List.length_drop,List.length_take];rfl)):p:=h
theorem zu29{p:Prop}(h:p:=by exact ⟨by first|rfl | (simp [errW_none,errW_some]<;>rfl) | (simp only [← hji3,← hji4];first|rfl | (simp [errW_none,errW_some]<;>rfl)) | (simp [*,errW_none,errW_some]<;>rfl),by repeat (first | (with_reducible first|exact HB.out|apply below_alloc|apply pw_below_drewN|apply below_drew1)|exact HB.out)⟩):p:=h
theorem zu30{p:Prop}(h:p:=by exact ⟨by first|rfl | (simp [errW_none,errW_some]<;>rfl) | (simp only [← hji18];first|rfl | (simp [errW_none,errW_some]<;>rfl)) | (simp [*,errW_none,errW_some]<;>rfl),by repeat (first | (with_reducible first|exact HB.out|apply below_alloc|apply pw_below_drewN|apply below_drew1)|exact HB.out)⟩):p:=h
theorem zu31{p:Prop}(h:p:=by (with_reducible repeat (first|apply Kd.S_alloc|apply Kd.S_drewN|apply Kd.S_drew));exact HO_8.out):p:=h
theorem zu32{p:Prop}(h:p:=by first|rfl | (simp [errW_none,errW_some]<;>rfl) | (simp only [← hji14];first|rfl | (simp [errW_none,errW_some]<;>rfl)) | (simp [*,errW_none,errW_some]<;>rfl)):p:=h
theorem zu33{p:Prop}(h:p:=by (try simp only [List.map_toArray,List.map_cons,List.map_nil]);first|done | (simp only [hji14];rfl)|rfl | (simp only [List.length_drop,List.length_take];rfl)):p:=h
theorem zu34{p:Prop}(h:p:=by (with_reducible repeat (first|apply Kd.R_alloc|apply Kd.R_drewN|apply Kd.R_drew));exact HO118.out):p:=h
theorem zu35{p:Prop}(h:p:=by first|exact Kd.R_nil _ _ _ _ _|exact Kd.N_nil _ _ _ _ _|exact Kd.V_nil _ _ _ _ _|exact Kd.Q_nil _ _ _ _ _|exact Kd.S_nil _ _ _ _ _):p:=h
theorem zu36{p:Prop}(h:p:=by rw [size_B];omega):p:=h
theorem zu37{p:Prop}(h:p:=by first|rfl | (simp [errW_none,errW_some]<;>rfl) | (simp only [← hji3,← hji4];first|rfl | (simp [errW_none,errW_some]<;>rfl)) | (simp [*,errW_none,errW_some]<;>rfl)):p:=h
theorem zu38{p:Prop}(h:p:=by rw [HR.out];exact (HI.out.alloc _).grown (by rw [List.map_append,List.map_singleton,HO.out];exact ho) hb hg):p:=h
theorem zu39{p:Prop}(h:p:=by first|rfl | (simp [errW_none,errW_some]<;>rfl) | (simp only [← hji18];first|rfl | (simp [errW_none,errW_some]<;>rfl)) | (simp [*,errW_none,errW_some]<;>rfl)):p:=h
theorem zu40{p:Prop}(h:p:=by exact ⟨⟨_,RefR.name hB1.out hNL.out k hLG.out (by omega) (by rw [HLL.out];rfl) rest HF.out,rfl⟩,HW.out⟩):p:=h
theorem zu41{p:Prop}(h:p:=by first|omega|exact Nat.le_refl _):p:=h
theorem zu42{p:Prop}(h:p:=by with_reducible assumption):p:=h
theorem zu43{p:Prop}(h:p:=by simp [Lib.bytesWorld,World.freeze,World.alloc,World.drew,-World.alloc_eq,-World.drew_eq]):p:=h
theorem zu44{p:Prop}(h:p:=by first|exact Kd.S_nil _ _ _ _ _|exact Kd.N_nil _ _ _ _ _|exact Kd.V_nil _ _ _ _ _|exact Kd.Q_nil _ _ _ _ _|exact Kd.R_nil _ _ _ _ _):p:=h
theorem zu45{p:Prop}(h:p:=by rw [List.length_map];omega):p:=h
theorem zu46{p:Prop}(h:p:=by simpa using h):p:=h
theorem zu47{p:Prop}(h:p:=by rw [List.length_drop];omega):p:=h
theorem zu48{p:Prop}(h:p:=by rw [List.length_drop,List.length_cons];omega):p:=h
theorem zu49{p:Prop}(h:p:=by rw [List.map_append,List.map_singleton,HO.out];exact ho):p:=h
theorem zu50{p:Prop}(h:p:=by (with_reducible repeat (first|refine blk_drewN ?_ _|refine blk_drew ?_|refine blk_alloc ?_ _));exact BK161.out):p:=h
theorem zu51{p:Prop}(h:p:=by (with_reducible repeat (first|apply Kd.R_alloc|apply Kd.R_drewN|apply Kd.R_drew));exact HO157.out):p:=h
theorem zu52{p:Prop}(h:p:=by exact Or.inr (by rw [← byteCells_snoc];exact H1.out)):p:=h
theorem zu53{p:Prop}(h:p:=by exact ⟨⟨_,_,_,HV.out,rfl,HS.out.rd⟩,HS.out.below,HS.out.keep⟩):p:=h
theorem zu54{p:Prop}(h:p:=by rw [HE.out (by omega),← HR2.out];rfl):p:=h
theorem zu55{p:Prop}(h:p:=by first|exact below_drew (Below.refl _ _)|exact pw_below_drewN (Below.refl _ _) _):p:=h
theorem zu56{p:Prop}(h:p:=by rw [Array.length_toList];show a.size≤a.size;omega):p:=h
theorem zu57{p:Prop}(h:p:=by assumption):p:=h
theorem zu58{p:Prop}(h:p:=by rw [← byteCells_snoc];exact H1.out):p:=h
theorem zu59{p:Prop}(h:p:=by rw [HPE.out];exact HF.out.pg):p:=h
theorem zu60{p:Prop}(h:p:=by have:=HSZ.out;omega):p:=h
theorem zu61{p:Prop}(h:p:=by rw [HV.out];simp only [if_true];rfl):p:=h
theorem zu62{p:Prop}(h:p:=by exact ⟨rfl,⟨p,v,y,HP.out,H.out⟩,Below.refl _ _,Lib.OthersKept.refl _ _ w⟩):p:=h
theorem zu63{p:Prop}(h:p:=by rw [HV.out];rfl):p:=h
theorem zu64{p:Prop}(h:p:=by rw [List.getElem?_eq_getElem q1] at q2;exact Option.some.inj q2):p:=h
theorem zu65{p:Prop}(h:p:=by simp only [ByteArray.size_extract];omega):p:=h
theorem zu66{p:Prop}(h:p:=by exact ⟨ev,(hb.cell (World.block_lt_of_cell? w _ h1)).trans h1,h2⟩):p:=h
theorem zu67{p:Prop}(h:p:=by exact Lib.indexByte_none h1 k (by rw [List.getElem?_eq_getElem hk,e])):p:=h
theorem zu68{p:Prop}(h:p:=by exact .inr ⟨beq_iff_eq.2 e,decide_eq_false fun h=>d3 ⟨e,h⟩⟩):p:=h
theorem zu69{p:Prop}(h:p:=by rw [Tryz.underlying185];rfl):p:=h
theorem zu70{p:Prop}(h:p:=by simp [Value.oneCell']):p:=h
theorem zu71{p:Prop}(h:p:=by simp [nodeV]):p:=h
theorem zu72{p:Prop}(h:p:=by simp [nodeP]):p:=h
theorem zu73{p:Prop}(h:p:=by unfold maxLen;omega):p:=h
theorem zu74{p:Prop}(h:p:=by have:=HBT.out;omega):p:=h
theorem zu75{p:Prop}(h:p:=by rw [alloc_sz];rfl):p:=h
end Go.Proofs.YtclkdmmgibgamaaGreatDoor
set_option maxRecDepth 100000
set_option maxHeartbeats 16000000
namespace Foot
end Foot
namespace Go.Proofs
end Go.Proofs
namespace Go.Proofs.YtclkdmmgibgamaaGreatDoor.Hand
end Go.Proofs.YtclkdmmgibgamaaGreatDoor.Hand
namespace Go.Proofs.YtclkdmmgibgamaaGreatDoor.K0
end Go.Proofs.YtclkdmmgibgamaaGreatDoor.K0
namespace Go.Proofs.YtclkdmmgibgamaaGreatDoor.Pb
end Go.Proofs.YtclkdmmgibgamaaGreatDoor.Pb
namespace Go.Proofs.YtclkdmmgibgamaaGreatDoor.Pcb
end Go.Proofs.YtclkdmmgibgamaaGreatDoor.Pcb
namespace Go.Proofs.YtclkdmmgibgamaaGreatDoor.Pcm
end Go.Proofs.YtclkdmmgibgamaaGreatDoor.Pcm
namespace Go.Proofs.YtclkdmmgibgamaaGreatDoor.Pcq
end Go.Proofs.YtclkdmmgibgamaaGreatDoor.Pcq
namespace Go.Proofs.YtclkdmmgibgamaaGreatDoor.Pl
end Go.Proofs.YtclkdmmgibgamaaGreatDoor.Pl
namespace Go.Proofs.YtclkdmmgibgamaaGreatDoor.Pro
end Go.Proofs.YtclkdmmgibgamaaGreatDoor.Pro
namespace Go.Proofs.YtclkdmmgibgamaaGreatDoor.Pure
end Go.Proofs.YtclkdmmgibgamaaGreatDoor.Pure
namespace Go.Proofs.YtclkdmmgibgamaaGreatDoor.RowKit
end Go.Proofs.YtclkdmmgibgamaaGreatDoor.RowKit
namespace Go.Proofs.YtclkdmmgibgamaaGreatDoor.Sa
end Go.Proofs.YtclkdmmgibgamaaGreatDoor.Sa
namespace Go.Proofs.YtclkdmmgibgamaaGreatDoor.Sf
end Go.Proofs.YtclkdmmgibgamaaGreatDoor.Sf
namespace Go.Proofs.YtclkdmmgibgamaaGreatDoor.Si
end Go.Proofs.YtclkdmmgibgamaaGreatDoor.Si
namespace Go.Proofs.YtclkdmmgibgamaaGreatDoor.Sk
end Go.Proofs.YtclkdmmgibgamaaGreatDoor.Sk
namespace Go.Proofs.YtclkdmmgibgamaaGreatDoor.So
end Go.Proofs.YtclkdmmgibgamaaGreatDoor.So
namespace Go.Proofs.YtclkdmmgibgamaaGreatDoor.Sp
end Go.Proofs.YtclkdmmgibgamaaGreatDoor.Sp
namespace Go.Proofs.YtclkdmmgibgamaaGreatDoor.St
end Go.Proofs.YtclkdmmgibgamaaGreatDoor.St
namespace Go.Proofs.YtclkdmmgibgamaaGreatDoor.Sx
end Go.Proofs.YtclkdmmgibgamaaGreatDoor.Sx
namespace Go.Proofs.YtclkdmmgibgamaaGreatDoorW.PrintLast
end Go.Proofs.YtclkdmmgibgamaaGreatDoorW.PrintLast
namespace Go.Proofs.YtclkdmmgibgamaaGreatDoorW.PrintMore
end Go.Proofs.YtclkdmmgibgamaaGreatDoorW.PrintMore
namespace Go.Proofs.YtclkdmmgibgamaaGreatDoorW.PrintWords
end Go.Proofs.YtclkdmmgibgamaaGreatDoorW.PrintWords
namespace Kd
end Kd

section
namespace Go.Proofs
open Go.Shelf
def Tryz.lays240_ren:Go.Shelf.Ren:=⟨fun|6=>129|10=>93|99=>47|100=>165|101=>41|104=>150|129=>241|137=>87|138=>138|143=>119|144=>86|145=>111|149=>199|154=>103|155=>64|165=>139|166=>43|167=>66|169=>44|170=>135|171=>226|195=>172|197=>140|205=>225|206=>84|207=>187|208=>79|211=>178|212=>171|217=>120|218=>173|219=>156|220=>151|222=>208|224=>182|225=>181|240=>82|241=>174|243=>234|245=>201|246=>235|260=>175|263=>195|264=>196|266=>157|267=>183|276=>118|277=>197|279=>211|280=>212|281=>213|282=>214|283=>236|284=>237|285=>238|286=>239|287=>200|314=>198|316=>224|317=>240|318=>242|319=>243|320=>244|321=>209|322=>210|337=>245|338=>246|n=>n,fun|21=>21|22=>42|23=>9|24=>35|25=>32|37=>22|46=>190|51=>145|53=>200|59=>128|70=>57|72=>59|75=>64|76=>65|80=>67|105=>164|119=>211|127=>102|138=>225|139=>226|143=>263|145=>265|146=>219|148=>221|164=>134|167=>243|168=>245|171=>267|173=>270|210=>259|212=>273|213=>274|232=>277|233=>278|n=>n,fun|n=>n⟩
def Tryz.lays167_ren:Go.Shelf.Ren:=⟨fun|6=>129|10=>93|99=>47|100=>165|101=>41|104=>150|129=>241|137=>87|138=>138|143=>119|144=>86|145=>111|149=>199|154=>103|155=>64|165=>139|166=>43|167=>66|169=>44|170=>135|171=>226|195=>172|197=>140|205=>225|206=>84|207=>187|208=>79|211=>178|212=>171|217=>120|218=>173|219=>156|220=>151|222=>208|224=>182|225=>181|240=>82|241=>174|243=>234|245=>201|246=>235|260=>175|263=>195|264=>196|266=>157|267=>183|276=>118|277=>197|279=>211|280=>212|281=>213|282=>214|283=>236|284=>237|285=>238|286=>239|287=>200|314=>198|316=>224|317=>240|318=>242|319=>243|320=>244|321=>209|322=>210|337=>245|338=>246|n=>n,fun|21=>21|22=>42|23=>9|24=>35|25=>32|37=>22|46=>190|51=>145|53=>200|59=>128|70=>57|72=>59|75=>64|76=>65|80=>67|105=>164|119=>211|127=>102|138=>225|139=>226|143=>263|145=>265|146=>219|148=>221|164=>134|167=>243|168=>245|171=>267|173=>270|210=>259|212=>273|213=>274|232=>277|233=>278|n=>n,fun|n=>n⟩
theorem Tryz.lays167:Go.Proofs.Lays.n167 Tryz.prog Tryz.lays167_ren:={
 mixed:=by kernel_rfl
 f167:=Tryz.func66.trans (congrArg some (by kernel_rfl))
 f240:=Tryz.func82.trans (congrArg some (by kernel_rfl))
 f276:=Tryz.func118.trans (congrArg some (by kernel_rfl))
 t0:=Tryz.underlying0
 a0:=Tryz.isAgg0
 z0:=Tryz.sizeOf0
 v0:=Tryz.zeroValue0
 t4:=Tryz.underlying4
 a4:=Tryz.isAgg4
 z4:=Tryz.sizeOf4
 v4:=Tryz.zeroValue4
 t5:=Tryz.underlying5
 a5:=Tryz.isAgg5
 z5:=Tryz.sizeOf5
 v5:=Tryz.zeroValue5
 t9:=Tryz.underlying9
 a9:=Tryz.isAgg9
 z9:=Tryz.sizeOf9
 v9:=Tryz.zeroValue9
 t20:=Tryz.underlying20
 a20:=Tryz.isAgg20
 z20:=Tryz.sizeOf20
 v20:=Tryz.zeroValue20
 t37:=Tryz.underlying22
 a37:=Tryz.isAgg22
 z37:=Tryz.sizeOf22
 v37:=Tryz.zeroValue22
 t70:=Tryz.underlying57
 a70:=Tryz.isAgg57
 z70:=Tryz.sizeOf57
 v70:=Tryz.zeroValue57
 t72:=Tryz.underlying59
 a72:=Tryz.isAgg59
 z72:=Tryz.sizeOf59
 v72:=Tryz.zeroValue59
 t75:=Tryz.underlying64
 a75:=Tryz.isAgg64
 z75:=Tryz.sizeOf64
 v75:=Tryz.zeroValue64
 t164:=Tryz.underlying134
 a164:=Tryz.isAgg134
 z164:=Tryz.sizeOf134
 v164:=Tryz.zeroValue134 }
theorem Tryz.Builder_Extra_167:Builder.Extra Tryz.prog Tryz.lays167_ren:={
 sizeBuilder:=by kernel_rfl
 liesBuilder:=by kernel_rfl
 t5:=Tryz.underlying5
 a5:=Tryz.isAgg5
 z5:=Tryz.sizeOf5
 v5:=Tryz.zeroValue5
 infoByte:=by kernel_rfl
 cellsByte:=by kernel_rfl
 sizeByte:=by kernel_rfl
 neB5:=by decide }
open Go.RowKit in
theorem Tryz.Builder_WriteByte (B b:Nat) (bs:List Value) (c:Int) (w:World) (h:Lib.IsBuilder 59 5 B b bs w) (hlen:bs.length+1≤140737488355328) (hBw:B≤w.heap.size) :
 Calls Tryz.prog 66 #[.pointer (some ⟨b,0,none⟩),.int .u8 c] w fun e w'=>e = .returned .nilIface∧(Lib.BuilderAt 59 5 B b (.pointer (some ⟨b,0,none⟩)) (bs++[.int .u8 c]) w'∧Below B w w'):=Any.Builder_WriteByte Tryz.lays167 Tryz.Builder_Extra_167 B b bs c w h hlen hBw
def Tryz.lays166_ren:Go.Shelf.Ren:=⟨fun|6=>129|10=>93|99=>47|100=>165|101=>41|104=>150|129=>241|137=>87|138=>138|143=>119|144=>86|145=>111|149=>199|154=>103|155=>64|165=>139|166=>43|167=>66|169=>44|170=>135|171=>226|195=>172|197=>140|205=>225|206=>84|207=>187|208=>79|211=>178|212=>171|217=>120|218=>173|219=>156|220=>151|222=>208|224=>182|225=>181|240=>82|241=>174|243=>234|245=>201|246=>235|260=>175|263=>195|264=>196|266=>157|267=>183|276=>118|277=>197|279=>211|280=>212|281=>213|282=>214|283=>236|284=>237|285=>238|286=>239|287=>200|314=>198|316=>224|317=>240|318=>242|319=>243|320=>244|321=>209|322=>210|337=>245|338=>246|n=>n,fun|21=>21|22=>42|23=>9|24=>35|25=>32|37=>22|46=>190|51=>145|53=>200|59=>128|70=>57|72=>59|75=>64|76=>65|80=>67|105=>164|119=>211|127=>102|138=>225|139=>226|143=>263|145=>265|146=>219|148=>221|164=>134|167=>243|168=>245|171=>267|173=>270|210=>259|212=>273|213=>274|232=>277|233=>278|n=>n,fun|n=>n⟩
theorem Tryz.lays166:Go.Proofs.Lays.n166 Tryz.prog Tryz.lays166_ren:={
 mixed:=by kernel_rfl
 f166:=Tryz.func43.trans (congrArg some (by kernel_rfl))
 f240:=Tryz.func82.trans (congrArg some (by kernel_rfl))
 f276:=Tryz.func118.trans (congrArg some (by kernel_rfl))
 t0:=Tryz.underlying0
 a0:=Tryz.isAgg0
 z0:=Tryz.sizeOf0
 v0:=Tryz.zeroValue0
 t3:=Tryz.underlying3
 a3:=Tryz.isAgg3
 z3:=Tryz.sizeOf3
 v3:=Tryz.zeroValue3
 t4:=Tryz.underlying4
 a4:=Tryz.isAgg4
 z4:=Tryz.sizeOf4
 v4:=Tryz.zeroValue4
 t9:=Tryz.underlying9
 a9:=Tryz.isAgg9
 z9:=Tryz.sizeOf9
 v9:=Tryz.zeroValue9
 t20:=Tryz.underlying20
 a20:=Tryz.isAgg20
 z20:=Tryz.sizeOf20
 v20:=Tryz.zeroValue20
 t37:=Tryz.underlying22
 a37:=Tryz.isAgg22
 z37:=Tryz.sizeOf22
 v37:=Tryz.zeroValue22
 t70:=Tryz.underlying57
 a70:=Tryz.isAgg57
 z70:=Tryz.sizeOf57
 v70:=Tryz.zeroValue57
 t72:=Tryz.underlying59
 a72:=Tryz.isAgg59
 z72:=Tryz.sizeOf59
 v72:=Tryz.zeroValue59
 t75:=Tryz.underlying64
 a75:=Tryz.isAgg64
 z75:=Tryz.sizeOf64
 v75:=Tryz.zeroValue64
 t164:=Tryz.underlying134
 a164:=Tryz.isAgg134
 z164:=Tryz.sizeOf134
 v164:=Tryz.zeroValue134 }
theorem Tryz.Builder_Extra_166:Builder.Extra Tryz.prog Tryz.lays166_ren:={
 sizeBuilder:=by kernel_rfl
 liesBuilder:=by kernel_rfl
 t5:=Tryz.underlying5
 a5:=Tryz.isAgg5
 z5:=Tryz.sizeOf5
 v5:=Tryz.zeroValue5
 infoByte:=by kernel_rfl
 cellsByte:=by kernel_rfl
 sizeByte:=by kernel_rfl
 neB5:=by decide }
open Go.RowKit in
theorem Tryz.Builder_WriteString (B b:Nat) (bs:List Value) (s:ByteArray) (w:World) (h:Lib.IsBuilder 59 5 B b bs w) (hlen:bs.length+s.size≤140737488355328) (hBw:B≤w.heap.size) :
 Calls Tryz.prog 43 #[.pointer (some ⟨b,0,none⟩),.string s] w fun e w'=>e = .returned (.tuple #[.int .i64 s.size,.nilIface])∧(Lib.BuilderAt 59 5 B b (.pointer (some ⟨b,0,none⟩)) (bs++Lib.strCells s) w'∧Below B w w'):=Any.Builder_WriteString Tryz.lays166 Tryz.Builder_Extra_166 B b bs s w h hlen hBw
def Tryz.lays169_ren:Go.Shelf.Ren:=⟨fun|169=>44|n=>n,fun|70=>57|9=>9|0=>0|72=>59|37=>22|127=>102|3=>3|5=>5|n=>n,fun|n=>n⟩
theorem Tryz.lays169:Go.Proofs.Lays.n169 Tryz.prog Tryz.lays169_ren:={
 mixed:=by kernel_rfl
 f169:=Tryz.func44.trans (congrArg some (by kernel_rfl))
 t0:=Tryz.underlying0
 a0:=Tryz.isAgg0
 z0:=Tryz.sizeOf0
 v0:=Tryz.zeroValue0
 t3:=Tryz.underlying3
 a3:=Tryz.isAgg3
 z3:=Tryz.sizeOf3
 v3:=Tryz.zeroValue3
 t9:=Tryz.underlying9
 a9:=Tryz.isAgg9
 z9:=Tryz.sizeOf9
 v9:=Tryz.zeroValue9
 t37:=Tryz.underlying22
 a37:=Tryz.isAgg22
 z37:=Tryz.sizeOf22
 v37:=Tryz.zeroValue22
 t70:=Tryz.underlying57
 a70:=Tryz.isAgg57
 z70:=Tryz.sizeOf57
 v70:=Tryz.zeroValue57
 t72:=Tryz.underlying59
 a72:=Tryz.isAgg59
 z72:=Tryz.sizeOf59
 v72:=Tryz.zeroValue59
 t127:=Tryz.underlying102
 a127:=Tryz.isAgg102
 z127:=Tryz.sizeOf102
 v127:=Tryz.zeroValue102 }
theorem Tryz.Builder_Extra_169:Builder.Extra Tryz.prog Tryz.lays169_ren:={
 sizeBuilder:=by kernel_rfl
 liesBuilder:=by kernel_rfl
 t5:=Tryz.underlying5
 a5:=Tryz.isAgg5
 z5:=Tryz.sizeOf5
 v5:=Tryz.zeroValue5
 infoByte:=by kernel_rfl
 cellsByte:=by kernel_rfl
 sizeByte:=by kernel_rfl
 neB5:=by decide }
open Go.RowKit in
theorem Tryz.Builder_String_any (B b:Nat) (l:List UInt8) (w:World) (h:Lib.IsBuilder 59 5 B b (Lib.byteCells l) w) (hBw:B≤w.heap.size) :
 Calls Tryz.prog 44 #[.pointer (some ⟨b,0,none⟩)] w fun e w'=>e = .returned (.string ⟨l.toArray⟩)∧Below B w w':=Any.Builder_String_any Tryz.lays169 Tryz.Builder_Extra_169 B b l w h hBw
def Tryz.lays137_ren:Go.Shelf.Ren:=⟨fun|137=>87|217=>120|266=>157|n=>n,fun|9=>9|5=>5|3=>3|n=>n,fun|n=>n⟩
theorem Tryz.lays137:Go.Proofs.Lays.n137 Tryz.prog Tryz.lays137_ren:={
 mixed:=by kernel_rfl
 f137:=Tryz.func87.trans (congrArg some (by kernel_rfl))
 f217:=Tryz.func120.trans (congrArg some (by kernel_rfl))
 f266:=Tryz.func157.trans (congrArg some (by kernel_rfl))
 t3:=Tryz.underlying3
 a3:=Tryz.isAgg3
 z3:=Tryz.sizeOf3
 v3:=Tryz.zeroValue3
 t5:=Tryz.underlying5
 a5:=Tryz.isAgg5
 z5:=Tryz.sizeOf5
 v5:=Tryz.zeroValue5
 t9:=Tryz.underlying9
 a9:=Tryz.isAgg9
 z9:=Tryz.sizeOf9
 v9:=Tryz.zeroValue9 }
open Go.RowKit in
theorem Tryz.strings_IndexByte (s:ByteArray) (c:Int) (w:World) :
 Calls Tryz.prog 87 #[.string s,.int .u8 c] w fun e w'=>e = .returned (.int .i64 (Lib.indexByte s.data.toList c.toNat.toUInt8))∧w'=w:=Any.strings_IndexByte Tryz.lays137 s c w
def Tryz.lays211_ren:Go.Shelf.Ren:=⟨fun|211=>178|207=>187|n=>n,fun|9=>9|4=>4|3=>3|n=>n,fun|n=>n⟩
def Tryz.lays104_ren:Go.Shelf.Ren:=⟨fun|104=>150|211=>178|207=>187|n=>n,fun|9=>9|4=>4|24=>35|3=>3|n=>n,fun|n=>n⟩
theorem Tryz.lays104:Go.Proofs.Lays.n104 Tryz.prog Tryz.lays104_ren:={
 mixed:=by kernel_rfl
 f104:=Tryz.func150.trans (congrArg some (by kernel_rfl))
 f207:=Tryz.func187.trans (congrArg some (by kernel_rfl))
 f211:=Tryz.func178.trans (congrArg some (by kernel_rfl))
 t3:=Tryz.underlying3
 a3:=Tryz.isAgg3
 z3:=Tryz.sizeOf3
 v3:=Tryz.zeroValue3
 t4:=Tryz.underlying4
 a4:=Tryz.isAgg4
 z4:=Tryz.sizeOf4
 v4:=Tryz.zeroValue4
 t9:=Tryz.underlying9
 a9:=Tryz.isAgg9
 z9:=Tryz.sizeOf9
 v9:=Tryz.zeroValue9
 t24:=Tryz.underlying35
 a24:=Tryz.isAgg35
 z24:=Tryz.sizeOf35
 v24:=Tryz.zeroValue35 }
open Go.RowKit in
theorem Tryz.strings_CutSuffix (s p:ByteArray) (w:World) (hs:s.size≤9223372036854775807) :
 Calls Tryz.prog 150 #[.string s,.string p] w fun e w'=>e = .returned (.tuple #[.string ⟨(Lib.trimSuffix s.data.toList p.data.toList).toArray⟩,.bool (Lib.hasSuffix s.data.toList p.data.toList)])∧w'=w:=Any.strings_CutSuffix Tryz.lays104 s p w hs
def Tryz.laysC245_ren:Go.Shelf.Ren:=⟨fun|245=>201|279=>211|280=>212|281=>213|282=>214|316=>224|171=>226|205=>225|243=>234|246=>235|283=>236|284=>237|285=>238|286=>239|129=>241|317=>240|318=>242|319=>243|320=>244|337=>245|338=>246|n=>n,fun|9=>9|3=>3|75=>64|167=>243|4=>4|168=>245|210=>259|37=>22|0=>0|127=>102|145=>265|143=>263|2=>2|171=>267|53=>200|5=>5|173=>270|212=>273|51=>145|20=>20|213=>274|46=>190|232=>277|233=>278|80=>67|n=>n,fun|15=>3|16=>4|17=>5|18=>6|19=>7|n=>n⟩
theorem Tryz.laysC245:Go.Proofs.LaysC.n245 Tryz.prog Tryz.laysC245_ren:={
 mixed:=by kernel_rfl
 f129:=Tryz.func241.trans (congrArg some (by kernel_rfl))
 f171:=Tryz.func226.trans (congrArg some (by kernel_rfl))
 f205:=Tryz.func225.trans (congrArg some (by kernel_rfl))
 f243:=Tryz.func234.trans (congrArg some (by kernel_rfl))
 f245:=Tryz.func201.trans (congrArg some (by kernel_rfl))
 f246:=Tryz.func235.trans (congrArg some (by kernel_rfl))
 f279:=Tryz.func211.trans (congrArg some (by kernel_rfl))
 f280:=Tryz.func212.trans (congrArg some (by kernel_rfl))
 f281:=Tryz.func213.trans (congrArg some (by kernel_rfl))
 f282:=Tryz.func214.trans (congrArg some (by kernel_rfl))
 f283:=Tryz.func236.trans (congrArg some (by kernel_rfl))
 f284:=Tryz.func237.trans (congrArg some (by kernel_rfl))
 f285:=Tryz.func238.trans (congrArg some (by kernel_rfl))
 f286:=Tryz.func239.trans (congrArg some (by kernel_rfl))
 f316:=Tryz.func224.trans (congrArg some (by kernel_rfl))
 f317:=Tryz.func240.trans (congrArg some (by kernel_rfl))
 f318:=Tryz.func242.trans (congrArg some (by kernel_rfl))
 f319:=Tryz.func243.trans (congrArg some (by kernel_rfl))
 f320:=Tryz.func244.trans (congrArg some (by kernel_rfl))
 f337:=Tryz.func245.trans (congrArg some (by kernel_rfl))
 f338:=Tryz.func246.trans (congrArg some (by kernel_rfl))
 t0:=Tryz.underlying0
 a0:=Tryz.isAgg0
 z0:=Tryz.sizeOf0
 v0:=Tryz.zeroValue0
 t2:=Tryz.underlying2
 a2:=Tryz.isAgg2
 z2:=Tryz.sizeOf2
 v2:=Tryz.zeroValue2
 t3:=Tryz.underlying3
 a3:=Tryz.isAgg3
 z3:=Tryz.sizeOf3
 v3:=Tryz.zeroValue3
 t4:=Tryz.underlying4
 a4:=Tryz.isAgg4
 z4:=Tryz.sizeOf4
 v4:=Tryz.zeroValue4
 t5:=Tryz.underlying5
 a5:=Tryz.isAgg5
 z5:=Tryz.sizeOf5
 v5:=Tryz.zeroValue5
 t9:=Tryz.underlying9
 a9:=Tryz.isAgg9
 z9:=Tryz.sizeOf9
 v9:=Tryz.zeroValue9
 t20:=Tryz.underlying20
 a20:=Tryz.isAgg20
 z20:=Tryz.sizeOf20
 v20:=Tryz.zeroValue20
 t37:=Tryz.underlying22
 a37:=Tryz.isAgg22
 z37:=Tryz.sizeOf22
 v37:=Tryz.zeroValue22
 t46:=Tryz.underlying190
 a46:=Tryz.isAgg190
 z46:=Tryz.sizeOf190
 v46:=Tryz.zeroValue190
 t51:=Tryz.underlying145
 a51:=Tryz.isAgg145
 z51:=Tryz.sizeOf145
 v51:=Tryz.zeroValue145
 t53:=Tryz.underlying200
 a53:=Tryz.isAgg200
 z53:=Tryz.sizeOf200
 v53:=Tryz.zeroValue200
 t75:=Tryz.underlying64
 a75:=Tryz.isAgg64
 z75:=Tryz.sizeOf64
 v75:=Tryz.zeroValue64
 t127:=Tryz.underlying102
 a127:=Tryz.isAgg102
 z127:=Tryz.sizeOf102
 v127:=Tryz.zeroValue102
 t143:=Tryz.underlying263
 a143:=Tryz.isAgg263
 z143:=Tryz.sizeOf263
 v143:=Tryz.zeroValue263
 t145:=Tryz.underlying265
 a145:=Tryz.isAgg265
 z145:=Tryz.sizeOf265
 v145:=Tryz.zeroValue265
 t167:=Tryz.underlying243
 a167:=Tryz.isAgg243
 z167:=Tryz.sizeOf243
 v167:=Tryz.zeroValue243
 t168:=Tryz.underlying245
 a168:=Tryz.isAgg245
 z168:=Tryz.sizeOf245
 v168:=Tryz.zeroValue245
 t171:=Tryz.underlying267
 a171:=Tryz.isAgg267
 z171:=Tryz.sizeOf267
 v171:=Tryz.zeroValue267
 t173:=Tryz.underlying270
 a173:=Tryz.isAgg270
 z173:=Tryz.sizeOf270
 v173:=Tryz.zeroValue270
 t210:=Tryz.underlying259
 a210:=Tryz.isAgg259
 z210:=Tryz.sizeOf259
 v210:=Tryz.zeroValue259
 t212:=Tryz.underlying273
 a212:=Tryz.isAgg273
 z212:=Tryz.sizeOf273
 v212:=Tryz.zeroValue273
 t213:=Tryz.underlying274
 a213:=Tryz.isAgg274
 z213:=Tryz.sizeOf274
 t232:=Tryz.underlying277
 a232:=Tryz.isAgg277
 z232:=Tryz.sizeOf277
 v232:=Tryz.zeroValue277
 t233:=Tryz.underlying278
 a233:=Tryz.isAgg278
 z233:=Tryz.sizeOf278
 v233:=Tryz.zeroValue278
 g15:=by kernel_rfl
 g16:=by kernel_rfl
 g17:=by kernel_rfl
 g18:=by kernel_rfl
 g19:=by kernel_rfl
 t80:=Tryz.underlying67
 a80:=Tryz.isAgg67
 z80:=Tryz.sizeOf67
 v80:=Tryz.zeroValue67
 i0:=by kernel_rfl
 i2:=by kernel_rfl
 i3:=by kernel_rfl
 i4:=by kernel_rfl
 i5:=by kernel_rfl
 i9:=by kernel_rfl
 i20:=by kernel_rfl
 i37:=by kernel_rfl
 i46:=by kernel_rfl
 i51:=by kernel_rfl
 i53:=by kernel_rfl
 i75:=by kernel_rfl
 i80:=by kernel_rfl
 i127:=by kernel_rfl
 i143:=by kernel_rfl
 i145:=by kernel_rfl
 i167:=by kernel_rfl
 i168:=by kernel_rfl
 i171:=by kernel_rfl
 i173:=by kernel_rfl
 i210:=by kernel_rfl
 i212:=by kernel_rfl
 i232:=by kernel_rfl
 i233:=by kernel_rfl
 m15:=by kernel_rfl
 m16:=by kernel_rfl
 m17:=by kernel_rfl
 m18:=by kernel_rfl
 m19:=by kernel_rfl
 c0:=by kernel_rfl
 c2:=by kernel_rfl
 c3:=by kernel_rfl
 c4:=by kernel_rfl
 c5:=by kernel_rfl
 c9:=by kernel_rfl
 c20:=by kernel_rfl
 c37:=by kernel_rfl
 c46:=by kernel_rfl
 c51:=by kernel_rfl
 c53:=by kernel_rfl
 c75:=by kernel_rfl
 c80:=by kernel_rfl
 c127:=by kernel_rfl
 c143:=by kernel_rfl
 c145:=by kernel_rfl
 c167:=by kernel_rfl
 c168:=by kernel_rfl
 c171:=by kernel_rfl
 c173:=by kernel_rfl
 c210:=by kernel_rfl
 c212:=by kernel_rfl
 c213:=by kernel_rfl
 c232:=by kernel_rfl
 c233:=by kernel_rfl }
open Go.RowKit in
theorem Tryz.strconv_toError_syntax (fn s:ByteArray) (base bits:Int) (ev:Value) (w:World) (hlim:s.size≤281474976710656) (hv:w.cell? ⟨3,0,none⟩=some ev) (hev:ev = .nilIface∨∃ te pe,ev = .iface te pe) :
 Calls Tryz.prog 201 #[.string fn,.string s,.int .i64 base,.int .i64 bits,.iface 243 (.int .i64 2)] w fun e w' => ∃ N,e = .returned (.iface 245 (.pointer (some ⟨N,0,none⟩)))∧w.heap.size≤N∧w'.heap[N]? = some (.cells #[.string fn,.string s,ev] 259 (0,0))∧Below w.heap.size w w':=Any.strconv_toError_syntax Tryz.laysC245 fn s base bits ev w hlim hv hev
def Tryz.lays321_ren:Go.Shelf.Ren:=⟨fun|321=>209|n=>n,fun|5=>5|n=>n,fun|n=>n⟩
theorem Tryz.lays321:Go.Proofs.Lays.n321 Tryz.prog Tryz.lays321_ren:={
 mixed:=by kernel_rfl
 f321:=Tryz.func209.trans (congrArg some (by kernel_rfl))
 t5:=Tryz.underlying5
 a5:=Tryz.isAgg5
 z5:=Tryz.sizeOf5
 v5:=Tryz.zeroValue5 }
open Go.RowKit in
theorem Tryz.internal_strconv_lower (c:Int) (w:World) :
 Calls Tryz.prog 209 #[.int .u8 c] w fun e w'=>e = .returned (.int .u8 (bits .or .u8 c 32))∧w'=w:=Any.internal_strconv_lower Tryz.lays321 c w
def Tryz.lays287_ren:Go.Shelf.Ren:=⟨fun|287=>200|321=>209|322=>210|n=>n,fun|9=>9|3=>3|53=>200|75=>64|4=>4|167=>243|5=>5|46=>190|37=>22|0=>0|21=>21|80=>67|n=>n,fun|n=>n⟩
theorem Tryz.lays287:Go.Proofs.Lays.n287 Tryz.prog Tryz.lays287_ren:={
 mixed:=by kernel_rfl
 f287:=Tryz.func200.trans (congrArg some (by kernel_rfl))
 f321:=Tryz.func209.trans (congrArg some (by kernel_rfl))
 f322:=Tryz.func210.trans (congrArg some (by kernel_rfl))
 t0:=Tryz.underlying0
 a0:=Tryz.isAgg0
 z0:=Tryz.sizeOf0
 v0:=Tryz.zeroValue0
 t3:=Tryz.underlying3
 a3:=Tryz.isAgg3
 z3:=Tryz.sizeOf3
 v3:=Tryz.zeroValue3
 t4:=Tryz.underlying4
 a4:=Tryz.isAgg4
 z4:=Tryz.sizeOf4
 v4:=Tryz.zeroValue4
 t5:=Tryz.underlying5
 a5:=Tryz.isAgg5
 z5:=Tryz.sizeOf5
 v5:=Tryz.zeroValue5
 t9:=Tryz.underlying9
 a9:=Tryz.isAgg9
 z9:=Tryz.sizeOf9
 v9:=Tryz.zeroValue9
 t21:=Tryz.underlying21
 a21:=Tryz.isAgg21
 z21:=Tryz.sizeOf21
 v21:=Tryz.zeroValue21
 t37:=Tryz.underlying22
 a37:=Tryz.isAgg22
 z37:=Tryz.sizeOf22
 v37:=Tryz.zeroValue22
 t46:=Tryz.underlying190
 a46:=Tryz.isAgg190
 z46:=Tryz.sizeOf190
 v46:=Tryz.zeroValue190
 t53:=Tryz.underlying200
 a53:=Tryz.isAgg200
 z53:=Tryz.sizeOf200
 v53:=Tryz.zeroValue200
 t75:=Tryz.underlying64
 a75:=Tryz.isAgg64
 z75:=Tryz.sizeOf64
 v75:=Tryz.zeroValue64
 t167:=Tryz.underlying243
 a167:=Tryz.isAgg243
 z167:=Tryz.sizeOf243
 v167:=Tryz.zeroValue243 }
open Go.RowKit in
theorem Tryz.internal_strconv_ParseUint_empty (base bits:Int) (w:World) :
 Calls Tryz.prog 200 #[.string ⟨#[]⟩,.int .i64 base,.int .i64 bits] w fun e w'=>e = .returned (.tuple #[.int .u64 0,.iface 243 (.int .i64 2)])∧w'=w:=Any.internal_strconv_ParseUint_empty Tryz.lays287 base bits w
def Tryz.lays219_ren:Go.Shelf.Ren:=⟨fun|219=>156|217=>120|225=>181|224=>182|267=>183|266=>157|314=>198|n=>n,fun|9=>9|3=>3|4=>4|5=>5|46=>190|146=>219|51=>145|n=>n,fun|1=>0|n=>n⟩
def Tryz.lays143_ren:Go.Shelf.Ren:=⟨fun|143=>119|219=>156|217=>120|225=>181|224=>182|267=>183|266=>157|314=>198|n=>n,fun|9=>9|3=>3|4=>4|5=>5|46=>190|146=>219|51=>145|n=>n,fun|1=>0|n=>n⟩
theorem Tryz.lays143:Go.Proofs.Lays.n143 Tryz.prog Tryz.lays143_ren:={
 mixed:=by kernel_rfl
 f143:=Tryz.func119.trans (congrArg some (by kernel_rfl))
 f217:=Tryz.func120.trans (congrArg some (by kernel_rfl))
 f219:=Tryz.func156.trans (congrArg some (by kernel_rfl))
 f224:=Tryz.func182.trans (congrArg some (by kernel_rfl))
 f225:=Tryz.func181.trans (congrArg some (by kernel_rfl))
 f266:=Tryz.func157.trans (congrArg some (by kernel_rfl))
 f267:=Tryz.func183.trans (congrArg some (by kernel_rfl))
 f314:=Tryz.func198.trans (congrArg some (by kernel_rfl))
 t3:=Tryz.underlying3
 a3:=Tryz.isAgg3
 z3:=Tryz.sizeOf3
 v3:=Tryz.zeroValue3
 t4:=Tryz.underlying4
 a4:=Tryz.isAgg4
 z4:=Tryz.sizeOf4
 v4:=Tryz.zeroValue4
 t5:=Tryz.underlying5
 a5:=Tryz.isAgg5
 z5:=Tryz.sizeOf5
 v5:=Tryz.zeroValue5
 t9:=Tryz.underlying9
 a9:=Tryz.isAgg9
 z9:=Tryz.sizeOf9
 v9:=Tryz.zeroValue9
 t46:=Tryz.underlying190
 a46:=Tryz.isAgg190
 z46:=Tryz.sizeOf190
 v46:=Tryz.zeroValue190
 t51:=Tryz.underlying145
 a51:=Tryz.isAgg145
 z51:=Tryz.sizeOf145
 v51:=Tryz.zeroValue145
 t146:=Tryz.underlying219
 a146:=Tryz.isAgg219
 z146:=Tryz.sizeOf219
 v146:=Tryz.zeroValue219
 g1:=by kernel_rfl }
open Go.RowKit Go.Lib in
theorem Tryz.strings_Index (s sub:ByteArray) (m:Int) (w:World) (hs:s.size<4294967281) (hm:w.cell? ⟨0,0,none⟩=some (.int .i64 m)) :
 Calls Tryz.prog 119 #[.string s,.string sub] w fun e w'=>e = .returned (.int .i64 (Lib.index s.data.toList sub.data.toList))∧w'=w:=Any.strings_Index Tryz.lays143 s sub m w hs hm
def Tryz.lays145_ren:Go.Shelf.Ren:=⟨fun|145=>111|220=>151|219=>156|217=>120|225=>181|224=>182|267=>183|266=>157|314=>198|n=>n,fun|9=>9|4=>4|59=>128|3=>3|5=>5|46=>190|146=>219|51=>145|n=>n,fun|1=>0|n=>n⟩
theorem Tryz.lays145:Go.Proofs.Lays.n145 Tryz.prog Tryz.lays145_ren:={
 mixed:=by kernel_rfl
 f145:=Tryz.func111.trans (congrArg some (by kernel_rfl))
 f217:=Tryz.func120.trans (congrArg some (by kernel_rfl))
 f219:=Tryz.func156.trans (congrArg some (by kernel_rfl))
 f220:=Tryz.func151.trans (congrArg some (by kernel_rfl))
 f224:=Tryz.func182.trans (congrArg some (by kernel_rfl))
 f225:=Tryz.func181.trans (congrArg some (by kernel_rfl))
 f266:=Tryz.func157.trans (congrArg some (by kernel_rfl))
 f267:=Tryz.func183.trans (congrArg some (by kernel_rfl))
 f314:=Tryz.func198.trans (congrArg some (by kernel_rfl))
 t3:=Tryz.underlying3
 a3:=Tryz.isAgg3
 z3:=Tryz.sizeOf3
 v3:=Tryz.zeroValue3
 t4:=Tryz.underlying4
 a4:=Tryz.isAgg4
 z4:=Tryz.sizeOf4
 v4:=Tryz.zeroValue4
 t5:=Tryz.underlying5
 a5:=Tryz.isAgg5
 z5:=Tryz.sizeOf5
 v5:=Tryz.zeroValue5
 t9:=Tryz.underlying9
 a9:=Tryz.isAgg9
 z9:=Tryz.sizeOf9
 v9:=Tryz.zeroValue9
 t46:=Tryz.underlying190
 a46:=Tryz.isAgg190
 z46:=Tryz.sizeOf190
 v46:=Tryz.zeroValue190
 t51:=Tryz.underlying145
 a51:=Tryz.isAgg145
 z51:=Tryz.sizeOf145
 v51:=Tryz.zeroValue145
 t59:=Tryz.underlying128
 a59:=Tryz.isAgg128
 z59:=Tryz.sizeOf128
 v59:=Tryz.zeroValue128
 t146:=Tryz.underlying219
 a146:=Tryz.isAgg219
 z146:=Tryz.sizeOf219
 v146:=Tryz.zeroValue219
 g1:=by kernel_rfl }
open Go.RowKit Go.Lib in
theorem Tryz.strings_Cut (s sep:ByteArray) (m:Int) (w:World) (hs:s.size<4294967281) (hm:w.cell? ⟨0,0,none⟩=some (.int .i64 m)) :
 Calls Tryz.prog 111 #[.string s,.string sep] w fun e w'=>e = .returned (.tuple #[.string ⟨(Lib.cut s.data.toList sep.data.toList).1.toArray⟩,.string ⟨(Lib.cut s.data.toList sep.data.toList).2.1.toArray⟩,.bool (Lib.cut s.data.toList sep.data.toList).2.2])∧∃ n,w'=w.drewN n:=Any.strings_Cut Tryz.lays145 s sep m w hs hm
def Tryz.lays222_ren:Go.Shelf.Ren:=⟨fun|222=>208|n=>n,fun|9=>9|5=>5|3=>3|4=>4|n=>n,fun|n=>n⟩
def Tryz.lays149_ren:Go.Shelf.Ren:=⟨fun|149=>199|222=>208|n=>n,fun|9=>9|5=>5|3=>3|4=>4|n=>n,fun|n=>n⟩
theorem Tryz.lays149:Go.Proofs.Lays.n149 Tryz.prog Tryz.lays149_ren:={
 mixed:=by kernel_rfl
 f149:=Tryz.func199.trans (congrArg some (by kernel_rfl))
 f222:=Tryz.func208.trans (congrArg some (by kernel_rfl))
 t3:=Tryz.underlying3
 a3:=Tryz.isAgg3
 z3:=Tryz.sizeOf3
 v3:=Tryz.zeroValue3
 t4:=Tryz.underlying4
 a4:=Tryz.isAgg4
 z4:=Tryz.sizeOf4
 v4:=Tryz.zeroValue4
 t5:=Tryz.underlying5
 a5:=Tryz.isAgg5
 z5:=Tryz.sizeOf5
 v5:=Tryz.zeroValue5
 t9:=Tryz.underlying9
 a9:=Tryz.isAgg9
 z9:=Tryz.sizeOf9
 v9:=Tryz.zeroValue9 }
open Go.RowKit Go.Lib in
theorem Tryz.strings_LastIndexByte (s:ByteArray) (c:Int) (hs:s.size<4611686018427387904) (w:World) :
 Calls Tryz.prog 199 #[.string s,.int .u8 c] w fun e w'=>e = .returned (.int .i64 (Lib.lastIndexByte s c))∧w'=w:=Any.strings_LastIndexByte Tryz.lays149 s c hs w
def Tryz.lays99_ren:Go.Shelf.Ren:=⟨fun|99=>47|206=>84|n=>n,fun|9=>9|4=>4|3=>3|n=>n,fun|n=>n⟩
theorem Tryz.lays99:Go.Proofs.Lays.n99 Tryz.prog Tryz.lays99_ren:={
 mixed:=by kernel_rfl
 f99:=Tryz.func47.trans (congrArg some (by kernel_rfl))
 f206:=Tryz.func84.trans (congrArg some (by kernel_rfl))
 t3:=Tryz.underlying3
 a3:=Tryz.isAgg3
 z3:=Tryz.sizeOf3
 v3:=Tryz.zeroValue3
 t4:=Tryz.underlying4
 a4:=Tryz.isAgg4
 z4:=Tryz.sizeOf4
 v4:=Tryz.zeroValue4
 t9:=Tryz.underlying9
 a9:=Tryz.isAgg9
 z9:=Tryz.sizeOf9
 v9:=Tryz.zeroValue9 }
open Go.RowKit Go.Lib in
theorem Tryz.strings_HasPrefix (s p:ByteArray) (w:World) :
 Calls Tryz.prog 47 #[.string s,.string p] w fun e w'=>e = .returned (.bool (Lib.hasPrefix s.data.toList p.data.toList))∧w'=w:=Any.strings_HasPrefix Tryz.lays99 s p w
def Tryz.lays100_ren:Go.Shelf.Ren:=⟨fun|100=>165|207=>187|n=>n,fun|9=>9|4=>4|3=>3|n=>n,fun|n=>n⟩
theorem Tryz.lays100:Go.Proofs.Lays.n100 Tryz.prog Tryz.lays100_ren:={
 mixed:=by kernel_rfl
 f100:=Tryz.func165.trans (congrArg some (by kernel_rfl))
 f207:=Tryz.func187.trans (congrArg some (by kernel_rfl))
 t3:=Tryz.underlying3
 a3:=Tryz.isAgg3
 z3:=Tryz.sizeOf3
 v3:=Tryz.zeroValue3
 t4:=Tryz.underlying4
 a4:=Tryz.isAgg4
 z4:=Tryz.sizeOf4
 v4:=Tryz.zeroValue4
 t9:=Tryz.underlying9
 a9:=Tryz.isAgg9
 z9:=Tryz.sizeOf9
 v9:=Tryz.zeroValue9 }
open Go.RowKit Go.Lib in
theorem Tryz.strings_HasSuffix (s p:ByteArray) (w:World) (hs:s.size≤9223372036854775807) :
 Calls Tryz.prog 165 #[.string s,.string p] w fun e w'=>e = .returned (.bool (Lib.hasSuffix s.data.toList p.data.toList))∧w'=w:=Any.strings_HasSuffix Tryz.lays100 s p w hs
def Tryz.lays101_ren:Go.Shelf.Ren:=⟨fun|101=>41|208=>79|206=>84|n=>n,fun|9=>9|4=>4|3=>3|n=>n,fun|n=>n⟩
theorem Tryz.lays101:Go.Proofs.Lays.n101 Tryz.prog Tryz.lays101_ren:={
 mixed:=by kernel_rfl
 f101:=Tryz.func41.trans (congrArg some (by kernel_rfl))
 f206:=Tryz.func84.trans (congrArg some (by kernel_rfl))
 f208:=Tryz.func79.trans (congrArg some (by kernel_rfl))
 t3:=Tryz.underlying3
 a3:=Tryz.isAgg3
 z3:=Tryz.sizeOf3
 v3:=Tryz.zeroValue3
 t4:=Tryz.underlying4
 a4:=Tryz.isAgg4
 z4:=Tryz.sizeOf4
 v4:=Tryz.zeroValue4
 t9:=Tryz.underlying9
 a9:=Tryz.isAgg9
 z9:=Tryz.sizeOf9
 v9:=Tryz.zeroValue9 }
open Go.RowKit Go.Lib in
theorem Tryz.strings_TrimPrefix (s p:ByteArray) (w:World) :
 Calls Tryz.prog 41 #[.string s,.string p] w fun e w'=>e = .returned (.string ⟨(Lib.trimPrefix s.data.toList p.data.toList).toArray⟩)∧w'=w:=Any.strings_TrimPrefix Tryz.lays101 s p w
def Tryz.lays154_ren:Go.Shelf.Ren:=⟨fun|154=>103|138=>138|165=>139|143=>119|166=>43|197=>140|169=>44|195=>172|218=>173|240=>82|241=>174|219=>156|260=>175|276=>118|277=>197|217=>120|225=>181|224=>182|267=>183|266=>157|314=>198|n=>n,fun|9=>9|3=>3|4=>4|72=>59|0=>0|76=>65|105=>164|21=>21|5=>5|70=>57|20=>20|37=>22|75=>64|127=>102|164=>134|46=>190|119=>211|139=>226|138=>225|146=>219|51=>145|80=>67|n=>n,fun|1=>0|3=>1|4=>2|n=>n⟩
def Tryz.lays155_ren:Go.Shelf.Ren:=⟨fun|155=>64|154=>103|138=>138|165=>139|143=>119|166=>43|197=>140|169=>44|195=>172|218=>173|240=>82|241=>174|219=>156|260=>175|276=>118|277=>197|217=>120|225=>181|224=>182|267=>183|266=>157|314=>198|n=>n,fun|9=>9|3=>3|4=>4|72=>59|0=>0|76=>65|105=>164|21=>21|5=>5|70=>57|20=>20|37=>22|75=>64|127=>102|164=>134|46=>190|119=>211|139=>226|138=>225|146=>219|51=>145|80=>67|n=>n,fun|1=>0|3=>1|4=>2|n=>n⟩
theorem Tryz.lays155:Go.Proofs.Lays.n155 Tryz.prog Tryz.lays155_ren:={
 mixed:=by kernel_rfl
 f138:=Tryz.func138.trans (congrArg some (by kernel_rfl))
 f143:=Tryz.func119.trans (congrArg some (by kernel_rfl))
 f154:=Tryz.func103.trans (congrArg some (by kernel_rfl))
 f155:=Tryz.func64.trans (congrArg some (by kernel_rfl))
 f165:=Tryz.func139.trans (congrArg some (by kernel_rfl))
 f166:=Tryz.func43.trans (congrArg some (by kernel_rfl))
 f169:=Tryz.func44.trans (congrArg some (by kernel_rfl))
 f195:=Tryz.func172.trans (congrArg some (by kernel_rfl))
 f197:=Tryz.func140.trans (congrArg some (by kernel_rfl))
 f217:=Tryz.func120.trans (congrArg some (by kernel_rfl))
 f218:=Tryz.func173.trans (congrArg some (by kernel_rfl))
 f219:=Tryz.func156.trans (congrArg some (by kernel_rfl))
 f224:=Tryz.func182.trans (congrArg some (by kernel_rfl))
 f225:=Tryz.func181.trans (congrArg some (by kernel_rfl))
 f240:=Tryz.func82.trans (congrArg some (by kernel_rfl))
 f241:=Tryz.func174.trans (congrArg some (by kernel_rfl))
 f260:=Tryz.func175.trans (congrArg some (by kernel_rfl))
 f266:=Tryz.func157.trans (congrArg some (by kernel_rfl))
 f267:=Tryz.func183.trans (congrArg some (by kernel_rfl))
 f276:=Tryz.func118.trans (congrArg some (by kernel_rfl))
 f277:=Tryz.func197.trans (congrArg some (by kernel_rfl))
 f314:=Tryz.func198.trans (congrArg some (by kernel_rfl))
 t0:=Tryz.underlying0
 a0:=Tryz.isAgg0
 z0:=Tryz.sizeOf0
 v0:=Tryz.zeroValue0
 t3:=Tryz.underlying3
 a3:=Tryz.isAgg3
 z3:=Tryz.sizeOf3
 v3:=Tryz.zeroValue3
 t4:=Tryz.underlying4
 a4:=Tryz.isAgg4
 z4:=Tryz.sizeOf4
 v4:=Tryz.zeroValue4
 t5:=Tryz.underlying5
 a5:=Tryz.isAgg5
 z5:=Tryz.sizeOf5
 v5:=Tryz.zeroValue5
 t9:=Tryz.underlying9
 a9:=Tryz.isAgg9
 z9:=Tryz.sizeOf9
 v9:=Tryz.zeroValue9
 t20:=Tryz.underlying20
 a20:=Tryz.isAgg20
 z20:=Tryz.sizeOf20
 v20:=Tryz.zeroValue20
 t21:=Tryz.underlying21
 a21:=Tryz.isAgg21
 z21:=Tryz.sizeOf21
 v21:=Tryz.zeroValue21
 t37:=Tryz.underlying22
 a37:=Tryz.isAgg22
 z37:=Tryz.sizeOf22
 v37:=Tryz.zeroValue22
 t46:=Tryz.underlying190
 a46:=Tryz.isAgg190
 z46:=Tryz.sizeOf190
 v46:=Tryz.zeroValue190
 t51:=Tryz.underlying145
 a51:=Tryz.isAgg145
 z51:=Tryz.sizeOf145
 v51:=Tryz.zeroValue145
 t70:=Tryz.underlying57
 a70:=Tryz.isAgg57
 z70:=Tryz.sizeOf57
 v70:=Tryz.zeroValue57
 t72:=Tryz.underlying59
 a72:=Tryz.isAgg59
 z72:=Tryz.sizeOf59
 v72:=Tryz.zeroValue59
 t75:=Tryz.underlying64
 a75:=Tryz.isAgg64
 z75:=Tryz.sizeOf64
 v75:=Tryz.zeroValue64
 t76:=Tryz.underlying65
 a76:=Tryz.isAgg65
 z76:=Tryz.sizeOf65
 v76:=Tryz.zeroValue65
 t105:=Tryz.underlying164
 a105:=Tryz.isAgg164
 z105:=Tryz.sizeOf164
 v105:=Tryz.zeroValue164
 t119:=Tryz.underlying211
 a119:=Tryz.isAgg211
 z119:=Tryz.sizeOf211
 t127:=Tryz.underlying102
 a127:=Tryz.isAgg102
 z127:=Tryz.sizeOf102
 v127:=Tryz.zeroValue102
 t138:=Tryz.underlying225
 a138:=Tryz.isAgg225
 z138:=Tryz.sizeOf225
 v138:=Tryz.zeroValue225
 t139:=Tryz.underlying226
 a139:=Tryz.isAgg226
 z139:=Tryz.sizeOf226
 v139:=Tryz.zeroValue226
 t146:=Tryz.underlying219
 a146:=Tryz.isAgg219
 z146:=Tryz.sizeOf219
 v146:=Tryz.zeroValue219
 t164:=Tryz.underlying134
 a164:=Tryz.isAgg134
 z164:=Tryz.sizeOf134
 v164:=Tryz.zeroValue134
 g1:=by kernel_rfl
 g3:=by kernel_rfl
 g4:=by kernel_rfl }
theorem Tryz.Builder_Extra_155:Builder.Extra Tryz.prog Tryz.lays155_ren:={
 sizeBuilder:=by kernel_rfl
 liesBuilder:=by kernel_rfl
 t5:=Tryz.underlying5
 a5:=Tryz.isAgg5
 z5:=Tryz.sizeOf5
 v5:=Tryz.zeroValue5
 infoByte:=by kernel_rfl
 cellsByte:=by kernel_rfl
 sizeByte:=by kernel_rfl
 neB5:=by decide }
open Go.RowKit Go.Lib in
theorem Tryz.strings_ReplaceAll (s old new:ByteArray) (m:Int) (w:World) (hs:s.size<4294967281) (hm:w.cell? ⟨0,0,none⟩=some (.int .i64 m)) (h1:1≤old.size) (hlen:s.size+Lib.countB s old*new.size≤140737488355328) :
 Calls Tryz.prog 64 #[.string s,.string old,.string new] w fun e w' =>
  e = .returned (.string ⟨(Lib.replaceAll s.data.toList old.data.toList new.data.toList).toArray⟩)∧Below w.heap.size w w':=Any.strings_ReplaceAll Tryz.lays155 Tryz.Builder_Extra_155 s old new m w hs hm h1 hlen
end Go.Proofs
end

section
namespace Go.Proofs
open Go.Shelf
def Tryz.lays105_ren:Go.Shelf.Ren:=⟨fun|105=>136|212=>171|99=>47|165=>139|166=>43|170=>135|169=>44|263=>195|264=>196|206=>84|240=>82|241=>174|276=>118|277=>197|n=>n,fun|9=>9|3=>3|4=>4|20=>20|0=>0|46=>190|109=>191|5=>5|72=>59|76=>65|51=>145|146=>219|53=>200|148=>221|70=>57|37=>22|75=>64|127=>102|164=>134|80=>67|n=>n,fun|n=>n⟩
theorem Tryz.lays105:Go.Proofs.Lays.n105 Tryz.prog Tryz.lays105_ren:={
 mixed:=by kernel_rfl
 f99:=Tryz.func47.trans (congrArg some (by kernel_rfl))
 f105:=Tryz.func136.trans (congrArg some (by kernel_rfl))
 f165:=Tryz.func139.trans (congrArg some (by kernel_rfl))
 f166:=Tryz.func43.trans (congrArg some (by kernel_rfl))
 f169:=Tryz.func44.trans (congrArg some (by kernel_rfl))
 f170:=Tryz.func135.trans (congrArg some (by kernel_rfl))
 f206:=Tryz.func84.trans (congrArg some (by kernel_rfl))
 f212:=Tryz.func171.trans (congrArg some (by kernel_rfl))
 f240:=Tryz.func82.trans (congrArg some (by kernel_rfl))
 f241:=Tryz.func174.trans (congrArg some (by kernel_rfl))
 f263:=Tryz.func195.trans (congrArg some (by kernel_rfl))
 f264:=Tryz.func196.trans (congrArg some (by kernel_rfl))
 f276:=Tryz.func118.trans (congrArg some (by kernel_rfl))
 f277:=Tryz.func197.trans (congrArg some (by kernel_rfl))
 t0:=Tryz.underlying0
 a0:=Tryz.isAgg0
 z0:=Tryz.sizeOf0
 v0:=Tryz.zeroValue0
 t3:=Tryz.underlying3
 a3:=Tryz.isAgg3
 z3:=Tryz.sizeOf3
 v3:=Tryz.zeroValue3
 t4:=Tryz.underlying4
 a4:=Tryz.isAgg4
 z4:=Tryz.sizeOf4
 v4:=Tryz.zeroValue4
 t5:=Tryz.underlying5
 a5:=Tryz.isAgg5
 z5:=Tryz.sizeOf5
 v5:=Tryz.zeroValue5
 t9:=Tryz.underlying9
 a9:=Tryz.isAgg9
 z9:=Tryz.sizeOf9
 v9:=Tryz.zeroValue9
 t20:=Tryz.underlying20
 a20:=Tryz.isAgg20
 z20:=Tryz.sizeOf20
 v20:=Tryz.zeroValue20
 t37:=Tryz.underlying22
 a37:=Tryz.isAgg22
 z37:=Tryz.sizeOf22
 v37:=Tryz.zeroValue22
 t46:=Tryz.underlying190
 a46:=Tryz.isAgg190
 z46:=Tryz.sizeOf190
 v46:=Tryz.zeroValue190
 t51:=Tryz.underlying145
 a51:=Tryz.isAgg145
 z51:=Tryz.sizeOf145
 v51:=Tryz.zeroValue145
 t53:=Tryz.underlying200
 a53:=Tryz.isAgg200
 z53:=Tryz.sizeOf200
 v53:=Tryz.zeroValue200
 t70:=Tryz.underlying57
 a70:=Tryz.isAgg57
 z70:=Tryz.sizeOf57
 v70:=Tryz.zeroValue57
 t72:=Tryz.underlying59
 a72:=Tryz.isAgg59
 z72:=Tryz.sizeOf59
 v72:=Tryz.zeroValue59
 t75:=Tryz.underlying64
 a75:=Tryz.isAgg64
 z75:=Tryz.sizeOf64
 v75:=Tryz.zeroValue64
 t76:=Tryz.underlying65
 a76:=Tryz.isAgg65
 z76:=Tryz.sizeOf65
 v76:=Tryz.zeroValue65
 t109:=Tryz.underlying191
 a109:=Tryz.isAgg191
 z109:=Tryz.sizeOf191
 v109:=Tryz.zeroValue191
 t127:=Tryz.underlying102
 a127:=Tryz.isAgg102
 z127:=Tryz.sizeOf102
 v127:=Tryz.zeroValue102
 t146:=Tryz.underlying219
 a146:=Tryz.isAgg219
 z146:=Tryz.sizeOf219
 v146:=Tryz.zeroValue219
 t148:=Tryz.underlying221
 a148:=Tryz.isAgg221
 z148:=Tryz.sizeOf221
 v148:=Tryz.zeroValue221
 t164:=Tryz.underlying134
 a164:=Tryz.isAgg134
 z164:=Tryz.sizeOf134
 v164:=Tryz.zeroValue134 }
theorem Tryz.Builder_Extra_105:Builder.Extra Tryz.prog Tryz.lays105_ren:={
 sizeBuilder:=by kernel_rfl
 liesBuilder:=by kernel_rfl
 t5:=Tryz.underlying5
 a5:=Tryz.isAgg5
 z5:=Tryz.sizeOf5
 v5:=Tryz.zeroValue5
 infoByte:=by kernel_rfl
 cellsByte:=by kernel_rfl
 sizeByte:=by kernel_rfl
 neB5:=by decide }
open Go.RowKit Go.Lib in
theorem Tryz.strings_Repeat (s:ByteArray) (c:Nat) (w:World) (hc:c≤9223372036854775807) (hlen:s.size*c≤140737488355328) :
 Calls Tryz.prog 136 #[.string s,.int .i64 c] w fun e w'=>e = .returned (.string ⟨(Lib.repeatL s.data.toList c).toArray⟩)∧Below w.heap.size w w':=Any.strings_Repeat Tryz.lays105 Tryz.Builder_Extra_105 s c w hc hlen
end Go.Proofs
end

namespace Go.Proofs.YtclkdmmgibgamaaGreatDoor
section
namespace Pl
def ltB:List UInt8→List UInt8→Bool
 | [],[]=>false
 | [],_::_=>true
 | _::_,[]=>false
 | a::l,b::m=>if a.toNat<b.toNat then true else if b.toNat<a.toNat then false else ltB l m
theorem ltB_trans:∀ {a b c:List UInt8},ltB a b=true→ltB b c=true→ltB a c=true:=by
 intro a
 induction a with
 | nil =>
   intro b c h1 h2
   cases c with
   | nil=>cases b<;>simp [ltB] at h1 h2
   | cons=>rfl
 | cons x l ih =>
   intro b c h1 h2
   cases b with
   | nil=>simp [ltB] at h1
   | cons y m =>
     cases c with
     | nil=>simp [ltB] at h2
     | cons z n =>
       simp only [ltB] at h1 h2 ⊢
       by_cases hxy:x.toNat<y.toNat
       ·by_cases hyz:y.toNat<z.toNat
        ·rw [if_pos zu4]
        ·by_cases hzy:z.toNat<y.toNat
         ·rw [if_neg hyz,if_pos hzy] at h2;cases h2
         ·rw [if_pos zu4]
       ·by_cases hyx:y.toNat<x.toNat
        ·rw [if_neg hxy,if_pos hyx] at h1;cases h1
        ·rw [if_neg hxy,if_neg hyx] at h1
         by_cases hyz:y.toNat<z.toNat
         ·rw [if_pos zu4]
         ·by_cases hzy:z.toNat<y.toNat
          ·rw [if_neg hyz,if_pos hzy] at h2;cases h2
          ·rw [if_neg hyz,if_neg hzy] at h2
           rw [if_neg zu4,if_neg zu4]
           exact ih h1 h2
theorem ltB_irrefl:∀ a:List UInt8,ltB a a=false:=by
 intro a
 induction a with
 | nil=>rfl
 | cons x l ih=>simp [ltB,ih]
theorem ltB_total:∀ a b:List UInt8,ltB a b=false→ltB b a=false→a=b:=by
 intro a
 induction a with
 | nil=>intro b h _;cases b with
   | nil=>rfl
   | cons=>simp [ltB] at h
 | cons x l ih =>
   intro b h1 h2
   cases b with
   | nil=>simp [ltB] at h2
   | cons y m =>
     simp only [ltB] at h1 h2
     by_cases hxy:x.toNat<y.toNat
     ·rw [if_pos hxy] at h1;cases h1
     ·by_cases hyx:y.toNat<x.toNat
      ·rw [if_pos hyx] at h2;cases h2
      ·rw [if_neg hxy,if_neg hyx] at h1
       rw [if_neg hyx,if_neg hxy] at h2
       have:x=y:=UInt8.toNat_inj.1 zu4
       rw [this,ih m h1 h2]
theorem ltB_ne {a b:List UInt8} (h:ltB a b=true):a≠b:=by rintro rfl;rw [ltB_irrefl] at h;cases h
def isHexU (c:UInt8):Bool:=(48≤c.toNat&&c.toNat≤57) || (65≤c.toNat&&c.toNat≤70)
def tabOk:List UInt8→List UInt8→List UInt8→Bool→Bool
 | [],_,_,inKey => !inKey
 | c::r,last,acc,true=>if c.toNat=32 then (ltB last acc.reverse&&tabOk r acc.reverse [] false) else (c.toNat≠10&&tabOk r last (c::acc) true)
 | c::r,last,acc,false=>if c.toNat=10 then tabOk r last [] true else ((isHexU c || c.toNat == 32)&&tabOk r last acc false)
theorem tab_rest:∀ (r last acc:List UInt8),tabOk r last acc false=true→∃ q t,r=q++t∧(∀ c∈q,c≠10∧(isHexU c=true∨c=32))∧(t=[]∨∃ r',t=10::r'∧tabOk r' last [] true=true):=by
 intro r
 induction r with
 | nil=>intro last acc _;exact ⟨[],[],rfl,zu19,.inl rfl⟩
 | cons c r ih =>
   intro last acc h
   rw [tabOk] at h
   by_cases h10:c.toNat=10
   ·rw [if_pos h10] at h
    obtain rfl:c=10:=UInt8.toNat_inj.1 h10
    exact ⟨[],10::r,rfl,zu19,.inr ⟨r,rfl,h⟩⟩
   ·rw [if_neg h10,Bool.and_eq_true,Bool.or_eq_true] at h
    obtain ⟨q,t,rfl,h1,h2⟩:=ih last acc h.2
    refine ⟨c::q,t,rfl,?_,h2⟩
    intro x hx
    rcases List.mem_cons.1 hx with rfl|hx
    ·refine ⟨fun e=>h10 (by rw [e];rfl),?_⟩
     rcases h.1 with h|h
     ·exact .inl h
     ·right;apply UInt8.toNat_inj.1;simpa using h
    ·exact h1 x hx
theorem tab_key:∀ (r last acc:List UInt8),tabOk r last acc true=true→∃ k q t,r=k++32::(q++t)∧(∀ c∈k,c≠10∧c≠32)∧(∀ c∈q,c≠10∧(isHexU c=true∨c=32))∧ltB last (acc.reverse++k)=true∧(t=[]∨∃ r',t=10::r'∧tabOk r' (acc.reverse++k) [] true=true):=by
 intro r
 induction r with
 | nil=>intro last acc h;cases h
 | cons c r ih =>
   intro last acc h
   rw [tabOk] at h
   by_cases h32:c.toNat=32
   ·rw [if_pos h32,Bool.and_eq_true] at h
    obtain rfl:c=32:=UInt8.toNat_inj.1 h32
    obtain ⟨q,t,rfl,h1,h2⟩:=tab_rest _ _ _ h.2
    refine ⟨[],q,t,rfl,zu19,h1,by simpa using h.1,?_⟩
    rw [List.append_nil];exact h2
   ·rw [if_neg h32,Bool.and_eq_true] at h
    obtain ⟨k,q,t,rfl,h1,h2,h3,h4⟩:=ih _ _ h.2
    refine ⟨c::k,q,t,rfl,?_,h2,by simpa using h3,by simpa using h4⟩
    intro x hx
    rcases List.mem_cons.1 hx with rfl|hx
    ·exact ⟨fun e=>by have:=h.1;rw [e] at this;exact absurd this zu15,fun e=>h32 (by rw [e];rfl)⟩
    ·exact h1 x hx
def St (T:List UInt8) (p:Nat):Prop:=p=0∨∃ q,p=q+1∧T[q]? = some 10
def lnT (T:List UInt8) (p:Nat):List UInt8:=(T.drop p).takeWhile (fun c=>c != 10)
def kyL (l:List UInt8):List UInt8:=l.takeWhile (fun c=>c != 32)
def rsL (l:List UInt8):List UInt8:=l.drop ((kyL l).length+1)
def kyT (T:List UInt8) (p:Nat):List UInt8:=kyL (lnT T p)
theorem tw_app {α:Type} (f:α→Bool) (a b:List α) (h:∀ x∈a,f x=true):(a++b).takeWhile f=a++b.takeWhile f:=by
 induction a with
 | nil=>rfl
 | cons x a ih=>rw [List.cons_append,List.takeWhile_cons,h x zu19,if_pos rfl,ih (fun y hy=>h y (by simp [hy]))];rfl
theorem ln_row {k q t:List UInt8} (hk:∀ c∈k,c≠10∧c≠32) (hq:∀ c∈q,c≠10∧(isHexU c=true∨c=32)) (ht:t=[]∨∃ r',t=10::r'):lnT (k++32::(q++t)) 0=k++32::q:=by
 unfold lnT
 rw [List.drop_zero,tw_app _ _ _ (fun x hx=>by simpa using (hk x hx).1),List.takeWhile_cons,show ((32:UInt8) != 10)=true from rfl,if_pos rfl,tw_app _ _ _ (fun x hx=>by simpa using (hq x hx).1)]
 rcases ht with rfl|⟨r',rfl⟩
 ·simp
 ·rw [List.takeWhile_cons,show ((10:UInt8) != 10)=false from rfl];simp
theorem ky_row {k q:List UInt8} (hk:∀ c∈k,c≠10∧c≠32):kyL (k++32::q)=k:=by
 unfold kyL
 rw [tw_app _ _ _ (fun x hx=>by simpa using (hk x hx).2),List.takeWhile_cons,show ((32:UInt8) != 32)=false from rfl];simp
structure Tab (T last:List UInt8):Prop where
 above:∀ p,St T p→ltB last (kyT T p)=true
 rise:∀ p p',St T p→St T p'→p<p'→ltB (kyT T p) (kyT T p')=true
 inside:∀ p,St T p→p<T.length
 row:∀ p,St T p→∃ q,lnT T p=kyT T p++32::q∧(∀ c∈q,isHexU c=true∨c=32)∧(∀ c∈kyT T p,c≠10∧c≠32)
theorem tab_all:∀ n (T last:List UInt8),T.length≤n→tabOk T last [] true=true→Tab T last:=by
 intro n
 induction n with
 | zero=>intro T last h h';obtain rfl:=List.eq_nil_of_length_eq_zero (Nat.le_zero.1 h);cases h'
 | succ n ih =>
   intro T last hn h
   obtain ⟨k,q,t,rfl,hk,hq,hl,ht⟩:=tab_key _ _ _ h
   rw [List.reverse_nil,List.nil_append] at hl ht
   have hln:=ln_row (t:=t) hk hq (by rcases ht with h|⟨r',h,_⟩;exact .inl h;exact .inr ⟨r',h⟩)
   have hk0:kyT (k++32::(q++t)) 0=k:=by unfold kyT;rw [hln,ky_row hk]
   have hrow0:∃ q',lnT (k++32::(q++t)) 0=kyT (k++32::(q++t)) 0++32::q'∧(∀ c∈q',isHexU c=true∨c=32)∧(∀ c∈kyT (k++32::(q++t)) 0,c≠10∧c≠32) :=
    ⟨q,by rw [hk0,hln],fun c hc=>(hq c hc).2,by rw [hk0];exact hk⟩
   have hst:∀ p,St (k++32::(q++t)) p→p=0∨∃ r' p',t=10::r'∧tabOk r' k [] true=true∧p=(k.length+1+q.length+1)+p'∧St r' p'∧kyT (k++32::(q++t)) p=kyT r' p'∧lnT (k++32::(q++t)) p=lnT r' p':=by
    intro p hp
    rcases hp with rfl|⟨j,rfl,hj⟩
    ·exact .inl rfl
    ·right
     have e:k++32::(q++t)=(k++32::q)++t:=by simp
     rw [e] at hj
     have hpre:∀ c∈k++32::q,c≠10:=by
      intro c hc
      rcases List.mem_append.1 hc with hc|hc
      ·exact (hk c hc).1
      ·rcases List.mem_cons.1 hc with rfl|hc
       ·decide
       ·exact (hq c hc).1
     rcases Nat.lt_or_ge j (k++32::q).length with hlt|hge
     ·rw [List.getElem?_append_left hlt,List.getElem?_eq_getElem hlt] at hj
      exact absurd (Option.some.inj hj) (hpre _ (List.getElem_mem _))
     ·rw [List.getElem?_append_right hge] at hj
      rcases ht with rfl|⟨r',rfl,hr'⟩
      ·cases hj
      ·obtain ⟨d,hd⟩:=Nat.exists_eq_add_of_le hge
       rw [hd,Nat.add_sub_cancel_left] at hj
       have hlen:(k++32::q).length=k.length+1+q.length:=by simp;omega
       have hdrop:(k++32::(q++10::r')).drop (j+1)=r'.drop d:=by
        rw [e,hd,List.drop_append,List.drop_eq_nil_of_le zu4,List.nil_append,show (k++32::q).length+d+1 - (k++32::q).length=d+1 by omega,List.drop_succ_cons]
       refine ⟨r',d,rfl,hr',zu4,?_,?_,?_⟩
       ·cases d with
        | zero=>exact .inl rfl
        | succ d=>right;exact ⟨d,rfl,by simpa using hj⟩
       ·unfold kyT lnT;rw [hdrop]
       ·unfold lnT;rw [hdrop]
   have hih:∀ r',t=10::r'→tabOk r' k [] true=true→Tab r' k:=fun r' e h'=>ih r' k (by subst e;simp at hn;omega) h'
   refine ⟨?_,?_,?_,?_⟩
   ·intro p hp
    rcases hst p hp with rfl|⟨r',p',e,h',rfl,hs,hky,_⟩
    ·rw [hk0];exact hl
    ·rw [hky];exact ltB_trans hl ((hih r' e h').above p' hs)
   ·intro p p' hp hp' hlt
    rcases hst p' hp' with rfl|⟨r',b,e,h',rfl,hs,hky,_⟩
    ·omega
    ·rw [hky]
     rcases hst p hp with rfl|⟨r2,a,e2,_,rfl,hs2,hky2,_⟩
     ·rw [hk0];exact (hih r' e h').above b hs
     ·rw [hky2]
      rw [e] at e2
      obtain rfl:=(List.cons.inj e2).2
      exact (hih _ e h').rise a b hs2 hs zu4
   ·intro p hp
    rcases hst p hp with rfl|⟨r',p',e,h',rfl,hs,_,_⟩
    ·simp only [List.length_append,List.length_cons];omega
    ·have:=(hih r' e h').inside p' hs
     subst e
     simp
     omega
   ·intro p hp
    rcases hst p hp with rfl|⟨r',p',e,h',rfl,hs,hky,hln'⟩
    ·exact hrow0
    ·rw [hky,hln'];exact (hih r' e h').row p' hs
end Pl
end

section
namespace Hand
open Go Go.RowKit Pl
def strOf:Operand→ByteArray
 | .const (.string s)=>s
 | _=>⟨#[]⟩
def argOf (i:Nat):Op→ByteArray
 | .call c=>match c.args[i]? with|some x=>strOf x|none=>⟨#[]⟩
 | _=>⟨#[]⟩
def operOf (k:Nat):Code→ByteArray
 | .region _ ops _=>match ops[k]? with|some o=>argOf 0 o.op|none=>⟨#[]⟩
 | _=>⟨#[]⟩
def secondOf (k:Nat):Option Code→ByteArray
 | some (.seq _ (.seq x _))=>operOf k x
 | _=>⟨#[]⟩
noncomputable def namesB:ByteArray:=secondOf 1 Tryz.f123.body
noncomputable def namesL:List UInt8:=namesB.data.toList
theorem names_ok:tabOk namesL [] [] true=true:=by kernel_rfl
theorem names_tab:Tab namesL []:=tab_all _ _ _ (Nat.le_refl _) names_ok
end Hand
end

section
namespace Pl
open Go
theorem tw_first {l:List UInt8} {o:Nat} (h:l[o]? = some 10) (hn:∀ k,k<o→l[k]? ≠ some 10):(l.takeWhile (fun c=>c != 10)).length=o:=by
 induction l generalizing o with
 | nil=>cases h
 | cons c l ih =>
   cases o with
   | zero=>obtain rfl:c=10:=by simpa using h
           rfl
   | succ o =>
     have hc:c≠10:=fun e=>hn 0 zu4 (by simp [e])
     rw [List.takeWhile_cons,show (c != 10)=true by simpa using hc,if_pos rfl,List.length_cons,ih zu46 (fun k hk=>by have:=hn (k+1) zu4;simpa using this)]
theorem tw_none {l:List UInt8} (hn:∀ k:Nat,l[k]? ≠ some 10):l.takeWhile (fun c=>c != 10)=l:=by
 induction l with
 | nil=>rfl
 | cons c l ih =>
   have hc:c≠10:=fun e=>hn 0 (by simp [e])
   rw [List.takeWhile_cons,show (c != 10)=true by simpa using hc,if_pos rfl,ih (fun k=>by have:=hn (k+1);simpa using this)]
theorem tw_mem {l:List UInt8} {x:UInt8} (h:x∈l.takeWhile (fun c=>c != 10)):x≠10:=by
 induction l with
 | nil=>cases h
 | cons c l ih =>
   rw [List.takeWhile_cons] at h
   split at h
   ·rename_i hc
    rcases List.mem_cons.1 h with rfl|h
    ·simpa using hc
    ·exact ih h
   ·cases h
theorem ln_le (T:List UInt8) (p:Nat) (hp:p≤T.length):p+(lnT T p).length≤T.length:=by
 unfold lnT
 have:∀ l:List UInt8,(l.takeWhile (fun c=>c != 10)).length≤l.length:=by
  intro l
  induction l with
  | nil=>simp
  | cons a l ih=>rw [List.takeWhile_cons];split<;>simp<;>omega
 have:=this (T.drop p)
 rw [List.length_drop] at this
 omega
theorem st_within {T:List UInt8} {p q:Nat} (hq:St T q) (h1:p<q):p+(lnT T p).length<q:=by
 rcases hq with rfl|⟨j,rfl,hj⟩
 ·omega
 ·rcases Nat.lt_or_ge (p+(lnT T p).length) (j+1) with h|h
  ·exact h
  ·exfalso
   have hlt:j - p<(lnT T p).length:=by omega
   have:(lnT T p)[j - p]? = some 10:=by
    unfold lnT at hlt ⊢
    obtain ⟨m,hm⟩:=List.takeWhile_prefix (fun c:UInt8=>c != 10) (l:=T.drop p)
    have h2:=List.getElem?_append_left hlt (l₂:=m)
    rw [hm,List.getElem?_drop,show p+(j - p)=j by omega,hj] at h2
    exact h2.symm
   have hmem:=List.mem_of_getElem? this
   exact tw_mem hmem rfl
def Fnd (T key:List UInt8) (r:Option (List UInt8)):Prop :=
 (∃ p,St T p∧kyT T p=key∧r=some (rsL (lnT T p)))∨((∀ p,St T p→kyT T p≠key)∧r=none)
structure Half (T key:List UInt8) (low high:Nat):Prop where
 lows:∀ p,St T p→p<low→ltB (kyT T p) key=true
 highs:∀ p,St T p→high≤p→ltB key (kyT T p)=true
 at_:St T low∨T.length<low
 le:high≤T.length
theorem Half.start {T last:List UInt8} (h:Tab T last) (key:List UInt8):Half T key 0 T.length :=
 ⟨fun p _ hp=>by omega,fun p hp hl=>by have:=h.inside p hp;omega,.inl (.inl rfl),Nat.le_refl _⟩
theorem Half.none {T key:List UInt8} {low high:Nat} (h:Half T key low high) (hl:high≤low):∀ p,St T p→kyT T p≠key:=by
 intro p hp
 rcases Nat.lt_or_ge p low with h1|h1
 ·exact ltB_ne (h.lows p hp h1)
 ·exact fun e=>ltB_ne (h.highs p hp zu4) e.symm
theorem Half.up {T last key:List UInt8} {low high p:Nat} (t:Tab T last) (h:Half T key low high) (hp:St T p) (hk:ltB (kyT T p) key=true) (hph:p<high):Half T key (p+(lnT T p).length+1) high:=by
 refine ⟨fun q hq hl => ?_,h.highs,?_,h.le⟩
 ·rcases Nat.lt_trichotomy q p with h1|h1|h1
  ·exact ltB_trans (t.rise q p hq hp h1) hk
  ·rw [h1];exact hk
  ·have:=st_within hq h1;omega
 ·have hle:=ln_le T p (by have:=h.le;omega)
  rcases Nat.lt_or_ge (p+(lnT T p).length) T.length with hlt|hge
  ·left;right
   refine ⟨_,rfl,?_⟩
   rw [List.getElem?_eq_getElem hlt]
   have hsp:(T.drop p)=lnT T p++(T.drop p).dropWhile (fun c=>c != 10):=(List.takeWhile_append_dropWhile).symm
   have hlen:=congrArg List.length hsp
   rw [List.length_append,List.length_drop] at hlen
   cases hd:(T.drop p).dropWhile (fun c=>c != 10) with
   | nil=>rw [hd] at hlen;simp at hlen;omega
   | cons x m =>
     have hx:x=10:=by
      have:=List.head_dropWhile_not (fun c:UInt8=>c != 10) (l:=T.drop p) (by rw [hd];simp)
      simp only [hd,List.head_cons] at this
      simpa using this
     have:(T.drop p)[(lnT T p).length]? = some x:=by
      rw [hsp,hd,List.getElem?_append_right (Nat.le_refl _),Nat.sub_self];rfl
     rw [List.getElem?_drop,List.getElem?_eq_getElem hlt] at this
     rw [Option.some.inj this,hx]
  ·right;omega
theorem Half.down {T last key:List UInt8} {low high p:Nat} (t:Tab T last) (h:Half T key low high) (hp:St T p) (hk:ltB key (kyT T p)=true) (hph:p<high):Half T key low p:=by
 refine ⟨h.lows,fun q hq hl => ?_,h.at_,by have:=h.le;omega⟩
 rcases Nat.lt_or_ge p q with h1|h1
 ·exact ltB_trans hk (t.rise p q hp hq h1)
 ·obtain rfl:p=q:=by omega
  exact hk
end Pl
end

section
namespace Pl
open Go
def normF:Bool→List UInt8→List UInt8
 | _,[]=>[]
 | b,c::r=>if b=true∧c=10 then normF false r else if c=13 then 10::normF true r else c::normF false r
def normL (l:List UInt8):List UInt8:=normF false l
theorem normL_nil:normL []=[]:=rfl
theorem normL_ne {c:UInt8} {r:List UInt8} (h:c≠13):normL (c::r)=c::normL r:=by simp [normL,normF,h]
theorem normL_13_10 {r:List UInt8}:normL (13::10::r)=10::normL r:=by simp [normL,normF]
theorem normL_13_ne {d:UInt8} {r:List UInt8} (h:d≠10):normL (13::d::r)=10::normL (d::r):=by simp [normL,normF,h]
theorem normL_13_end:normL [13]=[10]:=rfl
theorem normF_length (l:List UInt8):∀ b,(normF b l).length≤l.length:=by
 induction l with
 | nil=>intro b;simp [normF]
 | cons c r ih =>
   intro b
   have h0:=ih false
   have h1:=ih true
   simp only [normF,List.length_cons]
   split
   ·omega
   ·split<;>simp only [List.length_cons]<;>omega
theorem normL_length (l:List UInt8):(normL l).length≤l.length:=normF_length l false
def cleanB (c:UInt8):List UInt8:=if c=0 then [239,191,189] else [c]
def cleanL (l:List UInt8):List UInt8:=l.flatMap cleanB
theorem cleanL_cons (c:UInt8) (r:List UInt8):cleanL (c::r)=cleanB c++cleanL r:=rfl
def lowB (c:UInt8):UInt8:=if 65≤c∧c≤90 then c+32 else c
def lowL (l:List UInt8):List UInt8:=l.map lowB
theorem index_cons (d c:UInt8) (r:List UInt8):Lib.index (d::r) [c]=if d=c then 0 else if Lib.index r [c] = -1 then -1 else Lib.index r [c]+1:=by
 conv=>lhs;unfold Lib.index
 by_cases h:d=c
 ·subst h;simp [List.isPrefixOf]
 ·have h':([c].isPrefixOf (d::r))=false:=by simp [List.isPrefixOf];exact fun e=>h e.symm
  rw [h',if_neg h]
  simp
theorem count_cons (d c:UInt8) (r:List UInt8):Lib.count (d::r) [c]=(if d=c then 1 else 0)+Lib.count r [c]:=by
 have hne:([c]:List UInt8)≠[]:=by simp
 by_cases h:d=c
 ·subst h
  rw [Lib.count_hit (i:=0) hne (by rw [index_cons];simp)];simp
 ·have hi:=index_cons d c r
  rw [if_neg h] at hi
  by_cases hm:Lib.index r [c] = -1
  ·rw [if_pos hm] at hi
   rw [Lib.count_miss hi,Lib.count_miss hm];simp [h]
  ·rw [if_neg hm] at hi
   obtain ⟨i,hi2⟩:∃ i:Nat,Lib.index r [c]=i:=⟨(Lib.index r [c]).toNat,by have:=Lib.index_ge r [c];omega⟩
   rw [Lib.count_hit (i:=i+1) hne (by rw [hi,hi2];push_cast;rfl),Lib.count_hit (i:=i) hne hi2]
   simp [h]
theorem replaceK_cons_eq (c:UInt8) (new:List UInt8) (k:Nat) (r:List UInt8):Lib.replaceK [c] new (k+1) (c::r)=new++Lib.replaceK [c] new k r:=by
 rw [Lib.replaceK_hit [c] new k (c::r) 0 (by rw [index_cons];simp)];simp
theorem replaceK_cons_ne {d c:UInt8} (h:d≠c) (new:List UInt8) (k:Nat) (r:List UInt8):Lib.replaceK [c] new k (d::r)=d::Lib.replaceK [c] new k r:=by
 cases k with
 | zero=>rfl
 | succ k =>
   have hi:=index_cons d c r
   rw [if_neg h] at hi
   by_cases hm:Lib.index r [c] = -1
   ·rw [if_pos hm] at hi
    simp [Lib.replaceK,hi,hm]
   ·rw [if_neg hm] at hi
    obtain ⟨i,hi2⟩:∃ i:Nat,Lib.index r [c]=i:=⟨(Lib.index r [c]).toNat,by have:=Lib.index_ge r [c];omega⟩
    rw [Lib.replaceK_hit _ _ _ _ (i+1) (by rw [hi,hi2];push_cast;rfl),Lib.replaceK_hit _ _ _ _ i hi2]
    simp
theorem replaceK_one (c:UInt8) (new:List UInt8):∀ (s:List UInt8) (k:Nat),Lib.count s [c]≤k→Lib.replaceK [c] new k s=s.flatMap fun d=>if d=c then new else [d]:=by
 intro s
 induction s with
 | nil=>intro k _;cases k<;>simp [Lib.replaceK,Lib.index]
 | cons d r ih =>
   intro k hk
   rw [count_cons] at hk
   by_cases h:d=c
   ·subst h
    simp only [if_true] at hk
    obtain ⟨j,rfl⟩:∃ j,k=j+1:=⟨k - 1,zu4⟩
    rw [replaceK_cons_eq,ih j zu4];simp
   ·rw [if_neg h] at hk
    rw [replaceK_cons_ne h,ih k zu4];simp [h]
theorem replaceAll_one (c:UInt8) (new s:List UInt8):Lib.replaceAll s [c] new=s.flatMap fun d=>if d=c then new else [d]:=by
 unfold Lib.replaceAll Lib.replace
 split
 ·rename_i h
  have h:=beq_iff_eq.1 h
  subst h
  induction s with
  | nil=>rfl
  | cons d r ih =>
    rw [List.flatMap_cons,← ih]
    by_cases h:d=c
    ·subst h;simp
    ·simp [h]
 ·exact replaceK_one c new s _ (by simp [Lib.replaceNum])
theorem replaceAll_clean (s:List UInt8):Lib.replaceAll s [0] [239,191,189]=cleanL s:=by rw [replaceAll_one];rfl
theorem count_le_length (c:UInt8) (s:List UInt8):Lib.count s [c]≤s.length:=by
 induction s with
 | nil=>simp [Lib.count,Lib.countFrom,Lib.index]
 | cons d r ih=>rw [count_cons,List.length_cons];split<;>omega
end Pl
end

section
namespace Hand
open Go.RowKit Pl
structure Glob (w:World):Prop where
 mk ::
 out:∃ m,w.cell? ⟨0,0,none⟩=some (.int .i64 m)
 err:∃ ev,w.cell? ⟨3,0,none⟩=some ev∧(ev = .nilIface∨∃ te pe,ev = .iface te pe)
theorem Glob.step {w W:World} (h:Glob w) (hb:Below w.heap.size w W):Glob W where
 out:=by
  obtain ⟨m,hm⟩:=h.out
  exact ⟨m,(hb.cell (World.block_lt_of_cell? w _ hm)).trans hm⟩
 err:=by
  obtain ⟨ev,h1,h2⟩:=h.err
  exact zu66
def intOf:Value→Int | .int _ q=>q|_=>0
section
variable {P : Program} {a : Act} {w : World} {Q : Exit → Act → World → Prop}
theorem Exit_jump_mono {l:Nat} {J J':Act→World→Prop} (h:∀ a w,J a w→J' a w):∀ e a w,Exit.jump l J Q e a w→Exit.jump l J' Q e a w:=by
 intro e a w hq
 cases e with
 | goto l'=>exact ⟨hq.1,h _ _ hq.2⟩
 | _=>exact hq
theorem wp_scope_at {c B:Code} (l:Nat) (J:Act→World→Prop) (μ:Act→World→Nat) (hf:findLabel c l=some (.seq .skip B))
  (first:(∀ a w,J a w→B.wp P (Exit.jump l J Q) a w)→c.wp P (Exit.jump l J Q) a w)
  (pass:∀ a w,J a w→B.wp P (Exit.jump l (fun a' w'=>J a' w'∧μ a' w'<μ a w) Q) a w):(Code.scope c).wp P Q a w :=
 wp_scope_jumps l J μ hf (first fun a w hJ=>wp_mono (pass a w hJ) (Exit_jump_mono fun _ _ h=>h.1)) fun a w hJ=>wp_seq (wp_skip (pass a w hJ))
theorem wp_label_k {l:Nat} {B:Code} {K:Act→World→Prop} (hK:∀ a w,B.wp P Q a w→K a w) (hB:B.wp P Q a w):(Code.label l).wp P (Exit.then K Q) a w:=wp_label (hK _ _ hB)
end
theorem ret_str {a b:ByteArray} (h:a=b):Ending.returned (.string a) = .returned (.string b):=by rw [h]
theorem drop_cons (s:ByteArray) (pos:Nat) (h:pos<s.size):s.data.toList.drop pos=s[pos]::s.data.toList.drop (pos+1):=by
 rw [List.drop_eq_getElem_cons zu46];rfl
theorem byteCells_snoc (acc:List UInt8) (c:UInt8):Lib.byteCells acc++[.int .u8 (c.toNat:Int)]=Lib.byteCells (acc++[c]):=by
 simp [Lib.byteCells]
def NormJ (s:ByteArray) (w:World) (a':Act) (wr:World):Prop :=
 ∃ (pos:Nat) (acc:List UInt8) (u1 u5 u6 u7 u8 u9 u10 u11 u12 u13 u14 u15 u16 u17 u18 u19 u20 u21 u22 u23 u24 u25 u26 u27 u28 u29 u30 u31 u32 u33 u34:Value),
   a'={ tmps := #[.string s,u1,.string ⟨#[]⟩,.pointer (some ⟨w.heap.size,0,none⟩),.int .i64 pos,u5,u6,u7,u8,u9,u10,u11,u12,u13,u14,u15,u16,u17,u18,u19,u20,u21,u22,u23,u24,u25,u26,u27,u28,u29,u30,u31,u32,u33,u34],defers:=[] } ∧
   Lib.IsBuilder 59 5 w.heap.size w.heap.size (Lib.byteCells acc) wr∧Below w.heap.size w wr∧pos≤s.size∧acc.length≤pos∧acc++normL (s.data.toList.drop pos)=normL s.data.toList
theorem norm_any (s:ByteArray) (w:World) (hs:s.size≤35184372088832) :
  Calls Tryz.prog 34 #[.string s] w fun e w'=>e = .returned (.string ⟨(normL s.data.toList).toArray⟩)∧Below w.heap.size w w':=by
 go_enter Tryz.func34,Tryz.ntmps34
 go_wp2
 refine wp_scope_at 0 (NormJ s w) (fun a' _=>s.size - (intOf (a'.tmps.getD 4 undef)).toNat) rfl ?_ ?_
 ·intro hB
  have HB:=Lib.hid hB
  clear hB
  go_wp2
  refine wp_label_k zu57 (HB.out _ _ ?_)
  refine ⟨0,[],undef,undef,undef,undef,undef,undef,undef,undef,undef,undef,undef,undef,undef,undef,undef,undef,undef,undef,undef,undef,undef,undef,undef,undef,undef,undef,undef,undef,undef,undef,undef,rfl,Lib.fresh_isBuilder 59 5 w,(Below.refl _ w).alloc (Nat.le_refl _) _,zu4,zu19,zu19⟩
 ·rintro a' wr ⟨pos,acc,u1,u5,u6,u7,u8,u9,u10,u11,u12,u13,u14,u15,u16,u17,u18,u19,u20,u21,u22,u23,u24,u25,u26,u27,u28,u29,u30,u31,u32,u33,u34,rfl,hI,hb,hp,hl,hacc⟩
  have hbs:=hb.size
  by_cases hlt:pos<s.size
  ·by_cases h13:s[pos]=13
   ·have h13':(((s[pos].toNat:Int)) != 13)=false:=by rw [h13];rfl
    have hd:=drop_cons s pos hlt
    rw [h13] at hd
    have HD:=Lib.hid hd
    have HA:=Lib.hid hacc
    clear hd hacc h13
    go_wp2_with (go_at_call 66;refine (Tryz.Builder_WriteByte w.heap.size w.heap.size _ 10 wr hI (by rw [Lib.byteCells_length];omega) hbs).mono ?_)
    rintro e w1 ⟨rfl,h1,b1⟩
    have HW:=Lib.hid (hb.trans b1)
    have H1:=Lib.hid h1
    clear h1 b1 hb hI hbs
    go_wp2
    ·rename_i hq1 hq2 hq3
     have hlt1:pos+1<s.size:=by omega
     have h10:s[pos+1]=10:=by
      have:=beq_iff_eq.1 hq3;apply UInt8.toNat_inj.1;exact Int.ofNat_inj.1 this
     have hd1:=drop_cons s (pos+1) hlt1
     go_step3
     refine ⟨rfl,⟨pos+2,acc++[10],_,_,_,_,_,_,_,_,_,_,_,_,_,_,_,_,_,_,_,_,_,_,_,_,_,_,_,_,_,_,_,rfl,?_,HW.out,zu4,zu25,?_⟩,?_⟩
     ·exact zu52
     ·rw [← HA.out,HD.out,hd1,h10,normL_13_10];simp
     ·simp [intOf];omega
    ·rename_i hq1 hq2 hq3
     have hlt1:pos+1<s.size:=by omega
     have h10:s[pos+1]≠10:=by
      intro h;rw [h] at hq3;simp at hq3
     have hd1:=drop_cons s (pos+1) hlt1
     go_step3
     refine ⟨rfl,⟨pos+1,acc++[10],_,_,_,_,_,_,_,_,_,_,_,_,_,_,_,_,_,_,_,_,_,_,_,_,_,_,_,_,_,_,_,rfl,?_,HW.out,zu4,zu25,?_⟩,?_⟩
     ·exact zu52
     ·rw [← HA.out,HD.out,hd1,normL_13_ne h10];simp
     ·simp [intOf];omega
    ·have hd1:s.data.toList.drop (pos+1)=[]:=List.drop_eq_nil_of_le zu25
     go_step3
     refine ⟨rfl,⟨pos+1,acc++[10],_,_,_,_,_,_,_,_,_,_,_,_,_,_,_,_,_,_,_,_,_,_,_,_,_,_,_,_,_,_,_,rfl,?_,HW.out,zu4,zu25,?_⟩,?_⟩
     ·exact zu52
     ·rw [← HA.out,HD.out,hd1,normL_13_end,normL_nil];simp
     ·simp [intOf];omega
   ·have h13':(((s[pos].toNat:Int)) != 13)=true:=by
     rw [bne_iff_ne];intro h;apply h13;apply UInt8.toNat_inj.1;exact Int.ofNat_inj.1 h
    have hd:=drop_cons s pos hlt
    have HD:=Lib.hid hd
    have HA:=Lib.hid hacc
    clear hd hacc
    go_wp2_with (go_at_call 66;refine (Tryz.Builder_WriteByte w.heap.size w.heap.size _ _ wr hI (by rw [Lib.byteCells_length];omega) hbs).mono ?_)
    rintro e w1 ⟨rfl,h1,b1⟩
    have HW:=Lib.hid (hb.trans b1)
    have H1:=Lib.hid h1
    clear h1 b1 hb hI hbs
    go_wp2
    go_step3
    refine ⟨rfl,⟨pos+1,acc++[s[pos]],_,_,_,_,_,_,_,_,_,_,_,_,_,_,_,_,_,_,_,_,_,_,_,_,_,_,_,_,_,_,_,rfl,?_,HW.out,zu4,zu25,?_⟩,?_⟩
    ·exact zu52
    ·rw [← HA.out,HD.out,normL_ne h13];simp
    ·simp [intOf];omega
  ·obtain rfl:pos=s.size:=by omega
   have HA:=Lib.hid hacc
   clear hacc
   go_wp2_with (go_at_call 44;refine (Tryz.Builder_String_any w.heap.size w.heap.size acc wr hI hbs).mono ?_)
   rintro e w1 ⟨rfl,b1⟩
   go_wp2
   simp only [Exit.jump]
   go_ret
   have he:acc=normL s.data.toList:=by rw [← HA.out,List.drop_eq_nil_of_le zu19,normL_nil,List.append_nil]
   rw [he]
   exact ⟨rfl,hb.trans b1⟩
def cleanBA (s:ByteArray):ByteArray:=⟨(cleanL s.data.toList).toArray⟩
theorem clean_any (s:ByteArray) (w:World) (hs:s.size≤1000000000) (hGl:Glob w) :
  Calls Tryz.prog 32 #[.string s] w fun e w'=>e = .returned (.string (cleanBA s))∧Below w.heap.size w w':=by
 obtain ⟨m,hm⟩:=hGl.out
 have hc:=count_le_length 0 s.data.toList
 rw [Array.length_toList] at hc
 have hc2:Lib.countB s ⟨#[0]⟩≤s.size:=hc
 have C:=Lib.hid (Tryz.strings_ReplaceAll s ⟨#[0]⟩ ⟨#[239,191,189]⟩ m w zu4 hm (Nat.le_refl 1) (by
  have e:(⟨#[239,191,189]⟩:ByteArray).size=3:=rfl
  rw [e];omega))
 clear hc hc2 hm
 go_enter Tryz.func32,Tryz.ntmps32
 go_wp2_with fail
 refine C.out.mono ?_
 rintro e w1 ⟨rfl,hb⟩
 clear C
 go_wp2
 go_ret
 exact ⟨ret_str (by show (⟨(Lib.replaceAll s.data.toList [0] [239,191,189]).toArray⟩:ByteArray)=_;rw [replaceAll_clean];rfl),hb⟩
def lines_Clean.f (a0:ByteArray):Option ByteArray:=if a0.size≤1000000000 then some (cleanBA a0) else none
theorem lines_Clean.calls (a0 r:ByteArray) (w:World) (hGl:Glob w) (h:lines_Clean.f a0=some r) :
  Calls Tryz.prog 32 #[.string a0] w fun e w'=>e = .returned (.string r)∧Below w.heap.size w w':=by
 unfold lines_Clean.f at h
 split at h
 ·obtain rfl:=Option.some.inj h
  exact clean_any a0 w ‹_› hGl
 ·cases h
end Hand
end

section
namespace Hand
open Go.RowKit
structure Blk (b:Nat) (v:Array Value) (W:World):Prop where
 cell:∀ j,j<v.size→W.cell? ⟨b,j,none⟩=v[j]?
 open_:∀ j,W.frozen? ⟨b,j,none⟩=false
theorem Blk.of_alloc (v:Array Value) (t:TypeId) (w:World):Blk w.heap.size v (w.alloc (.cells v t)) :=
 ⟨fun j _=>World.cell?_alloc_at v t _ j rfl,fun j=>World.frozen?_alloc_at v t _ j rfl⟩
theorem Blk.below {b:Nat} {v:Array Value} {W W':World} (h:Blk b v W) {n:Nat} (hb:Below n W W') (hn:b<n):Blk b v W' :=
 ⟨fun j hj=>(hb.cell (p:=⟨b,j,none⟩) hn).trans (h.cell j hj),fun j=>(hb.frozen (p:=⟨b,j,none⟩) hn).trans (h.open_ j)⟩
end Hand
end

end Go.Proofs.YtclkdmmgibgamaaGreatDoor
section
set_option linter.unusedVariables false
set_option linter.unusedSimpArgs false
namespace Go.Proofs.YtclkdmmgibgamaaGreatDoorW.PrintWords
open Go.RowKit
structure Aside0 (p:Prop):Prop where mk::(out:p)
structure Drawn0 (w w':World):Prop where mk::(out:∃ n,w'=w.drewN n)
theorem Drawn0.refl (w:World):Drawn0 w w:=⟨⟨0,rfl⟩⟩
theorem Drawn0.step {w w':World} (h:Drawn0 w w') (n:Nat):Drawn0 w (w'.drewN n):=by
 obtain ⟨m,rfl⟩:=h
 exact ⟨⟨m+n,World.drewN_drewN ..⟩⟩
theorem Drawn0.below {w w':World} (h:Drawn0 w w'):Below w.heap.size w w':=by
 obtain ⟨n,rfl⟩:=h
 induction n with
 | zero=>exact Below.refl _ _
 | succ n ih=>rw [← World.drew_drewN];exact ih.drew
def bt (s:ByteArray) (i:Int):Int:=if h:i.toNat<s.size then ((s[i.toNat]'h).toNat:Int) else 0
theorem bt_at (s:ByteArray) (i:Int):∀ h:i.toNat<s.size,((s[i.toNat]'h).toNat:Int)=bt s i:=fun h=>by simp [bt,h]
def nums (k:IntKind) (xs:List Int):List Value:=xs.map fun x => .int k x
theorem nums_length (k:IntKind) (xs:List Int):(nums k xs).length=xs.length:=by simp [nums]
theorem nums_append (k:IntKind) (xs ys:List Int):nums k (xs++ys)=nums k xs++nums k ys:=by simp [nums]
theorem below_alloc {w W:World} (h:Below w.heap.size w W) (o:Obj):Below w.heap.size w (W.alloc o):=h.alloc h.size o
theorem below_drew {B:Nat} {w W:World} (h:Below B w W):Below B w W.drew:=⟨h.os,h.tape,h.output,h.size,h.block⟩
theorem pw_below_drewN {B:Nat} {w W:World} (h:Below B w W) (n:Nat):Below B w (W.drewN n):=⟨h.os,h.tape,h.output,h.size,h.block⟩
theorem below_then {B:Nat} {w w1 w2:World} (h:Below B w w1) (hB:B≤w1.heap.size) (k:Below w1.heap.size w1 w2):Below B w w2 :=
 h.trans ⟨k.os,k.tape,k.output,k.size,fun i hi=>k.block i (Nat.lt_of_lt_of_le hi hB)⟩
theorem grown_of_below {w w1:World} (h:Below w.heap.size w w1) (row:Option Nat):w.grownBy w1 row:=⟨h.os,h.tape,h.output,h.size,fun i hi _=>h.block i hi⟩
theorem pw_cell_below {w w1:World} (h:Below w.heap.size w w1) {a:Addr} {v:Value} (hc:w.cell? a=some v):w1.cell? a=some v:=(h.cell (World.block_lt_of_cell? w a hc)).trans hc
theorem add_plain (g j:Nat):(⟨g,0,none⟩:Addr).add j=⟨g,j,none⟩:=by unfold Addr.add;split<;>simp_all
def ReadsInt (w:World) (k:IntKind) (A:Option Addr) (n:Nat) (xs:List Int):Prop :=
 xs.length=n∧n≤9223372036854775807∧(0<n→∃ ad,A=some ad∧∀ j,j<n→w.cell? (ad.add j)=some (.int k (xs.getD j 0)))
theorem own_nil (W:World) (base:Nat) (e:TypeId) (size:Nat):W.ownsRow base e size (.slice none 0 0) 0 []:=⟨by simp,.inl ⟨rfl,rfl⟩⟩
theorem own_base {w:World} {base:Nat} {e:TypeId} {size n:Nat} {v:Value} {xs:List Value} (h:w.ownsRow base e size v n xs) (k:Nat) (hk:v.ownBlock=some k):base≤k:=by
 rcases h.2 with ⟨rfl,_⟩|⟨g,cap,cur,rfl,hb,_⟩
 ·simp [Value.ownBlock] at hk
 ·have:g=k:=by simpa [Value.ownBlock] using hk
  omega
theorem own_lt {w:World} {base:Nat} {e:TypeId} {size n:Nat} {v:Value} {xs:List Value} (h:w.ownsRow base e size v n xs) (k:Nat) (hk:v.ownBlock=some k):k<w.heap.size:=by
 rcases h.2 with ⟨rfl,_⟩|⟨g,cap,cur,rfl,hb,hh,_⟩
 ·simp [Value.ownBlock] at hk
 ·have:g=k:=by simpa [Value.ownBlock] using hk
  subst this
  exact (Array.getElem?_eq_some_iff.1 hh).1
theorem pw_own_below {w w1:World} {base:Nat} {e:TypeId} {size n:Nat} {v:Value} {xs:List Value} (h:w.ownsRow base e size v n xs) (hb:Below w.heap.size w w1):w1.ownsRow base e size v n xs :=
 h.kept (grown_of_below hb none) (by cases v.ownBlock<;>simp)
theorem own_other {w w1:World} {base:Nat} {e:TypeId} {size n:Nat} {v:Value} {xs:List Value} (h:w.ownsRow base e size v n xs) {row:Option Nat} (hg:w.grownBy w1 row) (hne:v.ownBlock=none∨v.ownBlock≠row):w1.ownsRow base e size v n xs:=h.kept hg hne
theorem own_type_ne {w:World} {b b':Nat} {e e':TypeId} {s s' n n':Nat} {v v':Value} {xs xs':List Value} (h:w.ownsRow b e s v n xs) (h':w.ownsRow b' e' s' v' n' xs') (hne:e≠e'):v.ownBlock=none∨v.ownBlock≠v'.ownBlock:=by
 rcases h.2 with ⟨rfl,_⟩|⟨g,cap,cur,rfl,_,hh,_⟩
 ·exact .inl rfl
 ·refine .inr fun hk => ?_
  rcases h'.2 with ⟨rfl,_⟩|⟨g',cap',cur',rfl,_,hh',_⟩
  ·simp [Value.ownBlock] at hk
  ·have:g=g':=by simpa [Value.ownBlock] using hk
   subst this
   rw [hh] at hh'
   injection hh' with hh'
   injection hh' with _ ht
   exact hne ht
theorem own_reads {w:World} {base n:Nat} {e:TypeId} {k:IntKind} {v:Value} {xs:List Int} (h:w.ownsRow base e 1 v n (nums k xs)):∃ A c,v = .slice A n c∧ReadsInt w k A n xs:=by
 have hl:xs.length=n:=by have:=h.1;simp [nums] at this;exact this
 rcases Nat.eq_zero_or_pos n with h0|h0
 ·rcases h.2 with ⟨rfl,rfl⟩|⟨g,cap,cur,rfl,_⟩
  ·exact ⟨none,0,rfl,hl,by omega,fun hp=>absurd hp (by omega)⟩
  ·exact ⟨_,cap,rfl,hl,by omega,fun hp=>absurd hp (by omega)⟩
 ·obtain ⟨g,cap,rfl,_,_⟩:=h.form h0
  have hm:n≤9223372036854775807:=by
   rcases h.2 with ⟨_,h1⟩|⟨g',cap',cur,he,_,_,h1,h2,_⟩
   ·omega
   ·simp only [maxLen] at h2
    omega
  refine ⟨_,cap,rfl,hl,hm,fun _=>⟨_,rfl,fun j hj=>h.cells (g:=g) rfl j _ ?_⟩⟩
  simp [nums,List.getElem?_eq_getElem (show j<xs.length by omega),List.getD_eq_getElem?_getD]
theorem own_slice {w:World} {base n:Nat} {e:TypeId} {size:Nat} {v:Value} {xs:List Value} (h:w.ownsRow base e size v n xs):∃ A c,v = .slice A n c:=by
 rcases h.2 with ⟨rfl,rfl⟩|⟨g,cap,cur,rfl,_⟩
 ·exact ⟨none,0,rfl⟩
 ·exact ⟨_,cap,rfl⟩
section
variable {P : Program} {ops : Array Oper} {rest : List Oper} {o : Oper} {a : Act} {Q : Exit → Act → World → Prop}
theorem print_append {w0 W:World} (base:Nat) (hgd:o.guard=none) (s x:Operand) (t e:TypeId) (z:Value) (bytes:Nat)
  (ho:o.op = .call { callee:=.builtin .append,args := #[s,x],argTypes := #[t,t] })
  (ht:P.underlying t=some (.slice e)) (hinfo:(P.info? e).map (fun i=>(i.zero,i.size,i.bytes))=some (some z,1,bytes)) (hz:z.cells.size=1) (hb0:0<bytes)
  (v:Value) (xs:List Value) (y:Value) (hs:a.eval s=v) (hx:a.eval x = .slice (some ⟨W.heap.size,0,none⟩) 1 1) (h1:y.oneCell'=true)
  (HO:W.ownsRow base e 1 v xs.length xs) (HB:Below base w0 W) (hbase:base≤W.heap.size) (hl:(xs.length+1)*bytes≤140737488355328)
  (h:∀ v1 w1,w1.ownsRow base e 1 v1 (xs++[y]).length (xs++[y])→Below base w0 w1→W.grownBy w1 v.ownBlock→(v1.ownBlock=v.ownBlock∨∃ b,v1.ownBlock=some b∧W.heap.size≤b)→wpList P ops Q rest (a.put o.dst v1) w1) :
  wpList P ops Q (o::rest) a (W.alloc (.cells #[y] e)):=by
 obtain ⟨i0,hi,hzz⟩:=Option.map_eq_some_iff.1 hinfo
 simp only [Prod.mk.injEq] at hzz
 obtain ⟨hz0,hz1,hz2⟩:=hzz
 have hlen:xs.length+1≤140737488355328:=Nat.le_trans (Nat.le_mul_of_pos_right _ hb0) hl
 refine wpList_append_own_at (W.alloc (.cells #[y] e)) hgd s x t ho base e i0 z 1 bytes ht hi hz0 hz1 hz2 hz (by omega) v xs.length xs hs (HO.alloc _) ⟨W.heap.size,0,none⟩ 1 1 [y] hx rfl
  (World.news_of_block (cs := #[y]) (t:=e) (fr:=(0,0)) (heap_alloc_new W _)) (by simpa using h1) (by simp only [maxLen];omega) hl (by simp;omega) ?_
 intro v1 w1 hown hg _ hat
 refine h v1 w1 (by simpa using hown) ((HB.alloc hbase _).grown hg (by simp;omega) (own_base HO)) (World.grownBy.trans (World.grownBy_alloc W _ _) hg) ?_
 rcases hat with hat|hat
 ·exact .inl hat
 ·exact .inr ⟨_,hat,by simp⟩
theorem print_append_num {w0 W:World} (base:Nat) (hgd:o.guard=none) (s x:Operand) (t e:TypeId) (k:IntKind) (bytes:Nat)
  (ho:o.op = .call { callee:=.builtin .append,args := #[s,x],argTypes := #[t,t] })
  (ht:P.underlying t=some (.slice e)) (hinfo:(P.info? e).map (fun i=>(i.zero,i.size,i.bytes))=some (some (.int k 0),1,bytes)) (hb0:0<bytes)
  (v:Value) (xs:List Int) (y:Int) (hs:a.eval s=v) (hx:a.eval x = .slice (some ⟨W.heap.size,0,none⟩) 1 1)
  (HO:W.ownsRow base e 1 v xs.length (nums k xs)) (HB:Below base w0 W) (hbase:base≤W.heap.size) (hl:(xs.length+1)*bytes≤140737488355328)
  (h:∀ v1 w1,w1.ownsRow base e 1 v1 (xs++[y]).length (nums k (xs++[y]))→Below base w0 w1→W.grownBy w1 v.ownBlock→(v1.ownBlock=v.ownBlock∨∃ b,v1.ownBlock=some b∧W.heap.size≤b)→wpList P ops Q rest (a.put o.dst v1) w1) :
  wpList P ops Q (o::rest) a (W.alloc (.cells #[.int k y] e)) :=
 print_append base hgd s x t e (.int k 0) bytes ho ht hinfo rfl hb0 v (nums k xs) (.int k y) hs hx rfl (by rw [nums_length];exact HO) HB hbase (by rw [nums_length];exact hl)
  fun v1 w1 hown hB hg hat=>h v1 w1 (by simpa [nums] using hown) hB hg hat
end
section
variable {P : Program}
end
theorem own_lit (W:World) (base:Nat) (e:TypeId) (k:IntKind) (xs:List Int) (hb:base≤W.heap.size) (hm:xs.length≤9223372036854775807) :
  (W.alloc (.cells (nums k xs).toArray e)).ownsRow base e 1 (.slice (some ⟨W.heap.size,0,none⟩) xs.length xs.length) xs.length (nums k xs):=by
 have h:=World.ownsRow_lit (base:=base) (e:=e) (size:=1) W (nums k xs).toArray xs.length hb (by simpa [maxLen] using hm) (by simp [nums])
 simpa using h
section
variable {P : Program} {ops : Array Oper} {rest : List Oper} {o : Oper} {a : Act} {Q : Exit → Act → World → Prop}
theorem print_append_row {w0 W:World} (base:Nat) (hgd:o.guard=none) (s x:Operand) (t e:TypeId) (k:IntKind) (bytes:Nat)
  (ho:o.op = .call { callee:=.builtin .append,args := #[s,x],argTypes := #[t,t] })
  (ht:P.underlying t=some (.slice e)) (hinfo:(P.info? e).map (fun i=>(i.zero,i.size,i.bytes))=some (some (.int k 0),1,bytes)) (hb0:0<bytes)
  (v:Value) (xs ys:List Int) (A:Option Addr) (m c:Nat) (hs:a.eval s=v) (hx:a.eval x = .slice A m c)
  (HO:W.ownsRow base e 1 v xs.length (nums k xs)) (HR:ReadsInt W k A m ys) (HB:Below base w0 W) (hbase:base≤W.heap.size) (hl:(xs.length+m)*bytes≤140737488355328)
  (h:∀ v1 w1,w1.ownsRow base e 1 v1 (xs++ys).length (nums k (xs++ys))→Below base w0 w1→W.grownBy w1 v.ownBlock→(v1.ownBlock=v.ownBlock∨∃ b,v1.ownBlock=some b∧W.heap.size≤b)→wpList P ops Q rest (a.put o.dst v1) w1) :
  wpList P ops Q (o::rest) a W:=by
 obtain ⟨i0,hi,hzz⟩:=Option.map_eq_some_iff.1 hinfo
 simp only [Prod.mk.injEq] at hzz
 obtain ⟨hz0,hz1,hz2⟩:=hzz
 have hm:ys.length=m:=HR.1
 have hlen:xs.length+m≤140737488355328:=Nat.le_trans (Nat.le_mul_of_pos_right _ hb0) hl
 have hrun:∃ v1 w1,(Builtin.append_ #[t,t] o.type #[v,.slice A m c]).run P W = .ok v1 w1∧w1.ownsRow base e 1 v1 (xs++ys).length (nums k (xs++ys))∧W.grownBy w1 v.ownBlock∧(v1.ownBlock=v.ownBlock∨v1.ownBlock=some W.heap.size):=by
  rcases A with _|ad
  ·have h0:m=0:=by
    rcases Nat.eq_zero_or_pos m with h0|h0
    ·exact h0
    ·obtain ⟨ad,h,_⟩:=HR.2.2 h0
     cases h
   subst h0
   obtain rfl:ys=[]:=List.eq_nil_of_length_eq_zero hm
   refine ⟨v,W,?_,by simpa using HO,World.grownBy.refl W _,.inl rfl⟩
   rcases HO.2 with ⟨rfl,hn⟩|⟨g,cap,cur,rfl,_,_,hnc,_⟩
   ·simp [Builtin.append_,run_underlying ht,sizeOf,typeInfo,hi,Builtin.lenOf,Builtin.firstCells]
   ·simp [Builtin.append_,run_underlying ht,sizeOf,typeInfo,hi,Builtin.lenOf,Builtin.firstCells,hnc,storeCells]
  ·have hcells:∀ j u,(nums k ys)[j]? = some u→W.cell? (ad.add j)=some u:=by
    intro j u hu
    have hj:j<ys.length:=by
     rcases Nat.lt_or_ge j ys.length with h|h
     ·exact h
     ·simp [nums,List.getElem?_eq_none h] at hu
    obtain ⟨ad',h',hc⟩:=HR.2.2 (by omega)
    injection h' with h'
    subst h'
    have:=hc j (by omega)
    simp [nums,List.getElem?_eq_getElem hj] at hu
    subst hu
    rw [this]
    simp [List.getD_eq_getElem?_getD,List.getElem?_eq_getElem hj]
   obtain ⟨v1,w1,hr,h2,h3,_,h5⟩:=run_append_own_at (P:=P) W base t o.type e i0 (.int k 0) 1 bytes ht hi hz0 hz1 hz2 rfl (by omega) v xs.length (nums k xs) HO ad m c (nums k ys) (by simp [nums,hm]) hcells
    (by intro u hu;simp only [nums,List.mem_map] at hu;obtain ⟨q,_,rfl⟩:=hu;rfl) (by simp only [maxLen];omega) hl hbase
   exact ⟨v1,w1,hr,by simpa [nums,hm] using h2,h3,h5⟩
 obtain ⟨v1,w1,hr,hown,hg,hat⟩:=hrun
 refine wpList_plain hgd fun K hK => ?_
 unfold Oper.wp execOp
 simp only [ho,resolve,invoke,builtin,Sem.run_bind,Sem.run_pure,Result.andThen_ok,List.map_toArray,List.map_cons,List.map_nil,hs,hx,hr]
 refine hK _ _ (h v1 w1 hown (HB.grown hg hbase (own_base HO)) hg ?_)
 rcases hat with hat|hat
 ·exact .inl hat
 ·exact .inr ⟨_,hat,Nat.le_refl _⟩
end
def Reps {α:Type} (R:α→List Value→Prop) (size:Nat) (ps:List α) (cs:List Value):Prop :=
 cs.length=ps.length*size∧∀ j p,ps[j]? = some p→R p ((cs.drop (j*size)).take size)
theorem Reps.none {α:Type} (R:α→List Value→Prop) (size:Nat):Reps R size [] []:=⟨by simp,fun j p h=>by simp at h⟩
theorem Reps.snoc {α:Type} {R:α→List Value→Prop} {size:Nat} {ps:List α} {cs c:List Value} {p:α} (h:Reps R size ps cs) (hp:R p c) (hc:c.length=size):Reps R size (ps++[p]) (cs++c):=by
 refine ⟨by rw [List.length_append,h.1,hc,List.length_append,List.length_singleton,Nat.add_mul,Nat.one_mul],fun j q hq => ?_⟩
 rcases Nat.lt_or_ge j ps.length with hj|hj
 ·rw [List.getElem?_append_left hj] at hq
  have h1:j*size+size≤cs.length:=by rw [h.1,← Nat.succ_mul];exact Nat.mul_le_mul_right _ hj
  have h2:=h.2 j q hq
  rw [List.drop_append_of_le_length (by omega),List.take_append_of_le_length (by rw [List.length_drop];omega)]
  exact h2
 ·have hj':j=ps.length:=by
   have:=(List.getElem?_eq_some_iff.1 hq).1
   rw [List.length_append,List.length_singleton] at this
   omega
  subst hj'
  have hq':p=q:=by simpa using hq
  subst hq'
  rw [← h.1,List.drop_left,← hc,List.take_length]
  exact hp
theorem Reps.imp_ {α:Type} {R R':α→List Value→Prop} {size:Nat} {ps:List α} {cs:List Value} (h:Reps R size ps cs) (hR:∀ p c,R p c→R' p c):Reps R' size ps cs:=⟨h.1,fun j p hj=>hR _ _ (h.2 j p hj)⟩
def ReadsRow {α:Type} (R:α→List Value→Prop) (size:Nat) (w:World) (A:Option Addr) (n:Nat) (ps:List α):Prop :=
 ps.length=n∧n≤9223372036854775807∧(0<n→∃ ad,A=some ad∧∀ j p,ps[j]? = some p→∃ c,c.length=size∧R p c∧∀ i u,c[i]? = some u→w.cell? (ad.add (j*size+i))=some u)
theorem ReadsRow.get_ {α:Type} {R:α→List Value→Prop} {size:Nat} {w:World} {A:Option Addr} {n:Nat} {ps:List α} (h:ReadsRow R size w A n ps) (d:α) (i:Int) (h0:0≤i) (h1:i<n) :
  ∃ ad c,A=some ad∧c.length=size∧R (ps.getD i.toNat d) c∧∀ j u,c[j]? = some u→w.cell? (ad.add (i.toNat*size+j))=some u:=by
 obtain ⟨ad,e,hc⟩:=h.2.2 (by omega)
 have hl:i.toNat<ps.length:=by have:=h.1;omega
 obtain ⟨c,hs,hr,hcell⟩:=hc i.toNat _ (List.getElem?_eq_getElem hl)
 refine ⟨ad,c,e,hs,?_,hcell⟩
 rw [List.getD_eq_getElem?_getD,List.getElem?_eq_getElem hl]
 exact hr
theorem ReadsRow.imp_ {α:Type} {R R':α→List Value→Prop} {size:Nat} {w w1:World} {A:Option Addr} {n:Nat} {ps:List α} (h:ReadsRow R size w A n ps) (hb:Below w.heap.size w w1) (hR:∀ p c,R p c→R' p c):ReadsRow R' size w1 A n ps :=
 ⟨h.1,h.2.1,fun hn=>by
   obtain ⟨ad,e,hc⟩:=h.2.2 hn
   refine ⟨ad,e,fun j p hj => ?_⟩
   obtain ⟨c,hs,hr,hcell⟩:=hc j p hj
   exact ⟨c,hs,hR _ _ hr,fun i u hu=>pw_cell_below hb (hcell i u hu)⟩⟩
theorem own_reads_row {α:Type} {R:α→List Value→Prop} {w:World} {base n size:Nat} {e:TypeId} {v:Value} {ps:List α} {cs:List Value} (h:w.ownsRow base e size v n cs) (hR:Reps R size ps cs) (hn:ps.length=n) :
  ∃ A c,v = .slice A n c∧ReadsRow R size w A n ps:=by
 rcases Nat.eq_zero_or_pos n with h0|h0
 ·rcases h.2 with ⟨rfl,rfl⟩|⟨g,cap,cur,rfl,_⟩
  ·exact ⟨none,0,rfl,hn,by omega,fun hp=>absurd hp (by omega)⟩
  ·exact ⟨_,cap,rfl,hn,by omega,fun hp=>absurd hp (by omega)⟩
 ·obtain ⟨g,cap,rfl,_,_⟩:=h.form h0
  have hm:n≤9223372036854775807:=by
   rcases h.2 with ⟨_,h1⟩|⟨g',cap',cur,he,_,_,h1,h2,_⟩
   ·omega
   ·simp only [maxLen] at h2
    omega
  refine ⟨_,cap,rfl,hn,hm,fun _=>⟨_,rfl,fun j p hj=>⟨(cs.drop (j*size)).take size,?_,hR.2 j p hj,fun i u hu => ?_⟩⟩⟩
  ·have hjl:=(List.getElem?_eq_some_iff.1 hj).1
   have h1:j*size+size≤cs.length:=by rw [hR.1,← Nat.succ_mul];exact Nat.mul_le_mul_right _ hjl
   rw [List.length_take,List.length_drop]
   omega
  ·refine h.cells (g:=g) rfl _ u ?_
   rw [List.getElem?_take] at hu
   split at hu
   ·rw [List.getElem?_drop] at hu
    exact hu
   ·cases hu
theorem add_field (ad:Addr) (m j:Nat) (hj:0<j):ad.add (m+j)=⟨(ad.add m).block,(ad.add m).off+j,none⟩:=by
 unfold Addr.add
 by_cases hm:m=0
 ·subst hm
  simp [Nat.ne_of_gt hj]
 ·simp [hm,Nat.add_assoc]
section
variable {P : Program} {ops : Array Oper} {rest : List Oper} {o : Oper} {a : Act} {Q : Exit → Act → World → Prop}
theorem print_append_cells {w0 W:World} (base:Nat) (hgd:o.guard=none) (s x:Operand) (t e:TypeId) (z:Value) (size bytes:Nat)
  (ho:o.op = .call { callee:=.builtin .append,args := #[s,x],argTypes := #[t,t] })
  (ht:P.underlying t=some (.slice e)) (hinfo:(P.info? e).map (fun i=>(i.zero,i.size,i.bytes))=some (some z,size,bytes)) (hz:z.cells.size=size) (hs0:0<size) (hb0:0<bytes)
  (v:Value) (n:Nat) (xs ys:List Value) (hs:a.eval s=v) (hx:a.eval x = .slice (some ⟨W.heap.size,0,none⟩) 1 1) (hys:ys.length=size) (h1:∀ u∈ys,u.oneCell'=true)
  (HO:W.ownsRow base e size v n xs) (HB:Below base w0 W) (hbase:base≤W.heap.size) (hl:(n+1)*bytes≤140737488355328)
  (h:∀ v1 w1,w1.ownsRow base e size v1 (n+1) (xs++ys)→Below base w0 w1→W.grownBy w1 v.ownBlock→(v1.ownBlock=v.ownBlock∨∃ b,v1.ownBlock=some b∧W.heap.size≤b)→wpList P ops Q rest (a.put o.dst v1) w1) :
  wpList P ops Q (o::rest) a (W.alloc (.cells ys.toArray e)):=by
 obtain ⟨i0,hi,hzz⟩:=Option.map_eq_some_iff.1 hinfo
 simp only [Prod.mk.injEq] at hzz
 obtain ⟨hz0,hz1,hz2⟩:=hzz
 have hlen:n+1≤140737488355328:=Nat.le_trans (Nat.le_mul_of_pos_right _ hb0) hl
 refine wpList_append_own_at (W.alloc (.cells ys.toArray e)) hgd s x t ho base e i0 z size bytes ht hi hz0 hz1 hz2 hz hs0 v n xs hs (HO.alloc _) ⟨W.heap.size,0,none⟩ 1 1 ys hx (by rw [hys];simp)
  (by simpa using World.news_of_block (cs:=ys.toArray) (t:=e) (fr:=(0,0)) (heap_alloc_new W (.cells ys.toArray e))) h1 (by simp only [maxLen];omega) hl (by simp;omega) ?_
 intro v1 w1 hown hg _ hat
 refine h v1 w1 hown ((HB.alloc hbase _).grown hg (by simp;omega) (own_base HO)) (World.grownBy.trans (World.grownBy_alloc W _ _) hg) ?_
 rcases hat with hat|hat
 ·exact .inl hat
 ·exact .inr ⟨_,hat,by simp⟩
end
theorem blk_set {w:World} {g:Nat} {t:TypeId} {cs:Array Value} (h:w.heap[g]? = some (.cells cs t (0,0))) (i:Nat) (u:Value):(w.setCell ⟨g,i,none⟩ u).heap[g]? = some (.cells (cs.setIfInBounds i u) t (0,0)):=by
 simp [World.setCell,Array.getElem?_modify,h]
theorem blk_far {w:World} {g:Nat} {t:TypeId} {cs:Array Value} (h:w.heap[g]? = some (.cells cs t (0,0))) {p:Addr} (hp:g≠p.block) (u:Value):(w.setCell p u).heap[g]? = some (.cells cs t (0,0)):=(Below.heap_setCell w p u g hp).trans h
theorem blk_lt {w:World} {g:Nat} {o:Obj} (h:w.heap[g]? = some o):g<w.heap.size:=(Array.getElem?_eq_some_iff.1 h).1
theorem blk_cell {w:World} {g:Nat} {t:TypeId} {cs:Array Value} (h:w.heap[g]? = some (.cells cs t (0,0))) (i:Nat):w.cell? ⟨g,i,none⟩=cs[i]? := cell_of_row w g i cs t (0,0) h
theorem blk_frozen {w:World} {g:Nat} {t:TypeId} {cs:Array Value} (h:w.heap[g]? = some (.cells cs t (0,0))) (i:Nat):w.frozen? ⟨g,i,none⟩=false:=by simp [World.frozen?,h]
theorem blk_grown {w w1:World} {g:Nat} {o:Obj} {row:Option Nat} (h:w.heap[g]? = some o) (hg:w.grownBy w1 row) (hne:some g≠row):w1.heap[g]? = some o:=(hg.block g (blk_lt h) hne).trans h
theorem blk_ne {w:World} {g g':Nat} {t t':TypeId} {cs cs':Array Value} (h:w.heap[g]? = some (.cells cs t (0,0))) (h':w.heap[g']? = some (.cells cs' t' (0,0))) (hne:t≠t'):g≠g':=by
 rintro rfl
 rw [h] at h'
 injection h' with h'
 injection h' with _ ht
 exact hne ht
def KeepBut (w w':World) (g:Nat) (row:Option Nat):Prop:=w.heap.size≤w'.heap.size∧∀ i,i<w.heap.size→i≠g→some i≠row→w'.heap[i]? = w.heap[i]?
theorem KeepBut.refl (w:World) (g:Nat) (row:Option Nat):KeepBut w w g row:=⟨Nat.le_refl _,fun _ _ _ _=>rfl⟩
theorem KeepBut.of_below {w w1:World} (h:Below w.heap.size w w1) (g:Nat) (row:Option Nat):KeepBut w w1 g row:=⟨h.size,fun i hi _ _=>h.block i hi⟩
theorem KeepBut.set_ {w w1:World} {g:Nat} {row:Option Nat} (h:KeepBut w w1 g row) (j:Nat) (u:Value):KeepBut w (w1.setCell ⟨g,j,none⟩ u) g row :=
 ⟨by simpa [World.setCell] using h.1,fun i hi hg hr=>(Below.heap_setCell w1 ⟨g,j,none⟩ u i hg).trans (h.2 i hi hg hr)⟩
theorem KeepBut.trans {w w1 w2:World} {g:Nat} {row row1:Option Nat} (h:KeepBut w w1 g row) (k:KeepBut w1 w2 g row1) (hr:row1=row∨∃ b,row1=some b∧w.heap.size≤b):KeepBut w w2 g row :=
 ⟨Nat.le_trans h.1 k.1,fun i hi hg hn=>by
   refine (k.2 i (Nat.lt_of_lt_of_le hi h.1) hg ?_).trans (h.2 i hi hg hn)
   rcases hr with rfl|⟨b,rfl,hb⟩
   ·exact hn
   ·intro e
    injection e with e
    omega⟩
def Ev {α:Type} (g:Nat→Option α) (r:α):Prop := ∃ K,∀ k,K≤k→g k=some r
theorem Ev.now {α:Type} (r:α):Ev (fun _=>some r) r:=⟨0,fun _ _=>rfl⟩
theorem Ev.rounds {α:Type} {g:Nat→Option α} {r:α} (h:Ev g r):∃ k,g k=some r:=by
 obtain ⟨K,h⟩:=h
 exact ⟨K,h K (Nat.le_refl _)⟩
theorem Ev.bind {α β:Type} {g:Nat→Option α} {f:Nat→α→Option β} {a:α} {r:β} (h:Ev g a) (k:Ev (fun n=>f n a) r):Ev (fun n=>(g n).bind (f n)) r:=by
 obtain ⟨K,h⟩:=h
 obtain ⟨K',k⟩:=k
 refine ⟨max K K',fun n hn => ?_⟩
 have h1:=h n (by omega)
 have h2:=k n (by omega)
 simp only [h1,Option.bind_some]
 exact h2
theorem Ev.step {α:Type} {g f:Nat→Option α} {r:α} (h:∀ k,g (k+1)=f k) (k:Ev f r):Ev g r:=by
 obtain ⟨K,k⟩:=k
 refine ⟨K+1,fun n hn => ?_⟩
 obtain ⟨m,rfl⟩:∃ m,n=m+1:=⟨n - 1,by omega⟩
 rw [h]
 exact k m (by omega)
section
variable {P : Program} {ops : Array Oper} {o : Oper} {a : Act} {Q : Exit → Act → World → Prop} {K : Act → World → Prop}
end
theorem own_weaken {w:World} {base base':Nat} {e:TypeId} {size n:Nat} {v:Value} {xs:List Value} (h:w.ownsRow base e size v n xs) (hb:base'≤base):w.ownsRow base' e size v n xs:=by
 obtain ⟨h1,h2⟩:=h
 refine ⟨h1,?_⟩
 rcases h2 with h2|⟨g,cap,cur,rfl,hg,r⟩
 ·exact .inl h2
 ·exact .inr ⟨g,cap,cur,rfl,Nat.le_trans hb hg,r⟩
section
variable {α : Type} {enc : α → Value} {d : α}
def rdOf (d:α) (xs:List α) (i:Int):α:=xs.getD i.toNat d
def ReadsOf (enc:α→Value) (d:α) (w:World) (A:Option Addr) (n:Nat) (xs:List α):Prop :=
 xs.length=n∧n≤9223372036854775807∧(0<n→∃ ad,A=some ad∧∀ j,j<n→w.cell? (ad.add j)=some (enc (xs.getD j d)))
theorem ReadsOf.at_ {w:World} {A:Option Addr} {n:Nat} {xs:List α} (h:ReadsOf enc d w A n xs) (i:Int) (h0:0≤i) (h1:i<n):∃ ad,A=some ad∧w.cell? (ad.add i.toNat)=some (enc (rdOf d xs i)):=by
 obtain ⟨ad,e,hc⟩:=h.2.2 (by omega)
 exact ⟨ad,e,hc _ (by omega)⟩
end
section
variable {α : Type} {P : Program} {ops : Array Oper} {rest : List Oper} {o : Oper} {a : Act} {Q : Exit → Act → World → Prop}
end
def NeRow (v v':Value):Prop := ∀ k,v.ownBlock=some k→v'.ownBlock≠some k
theorem ne_symm {v v':Value} (h:NeRow v v'):NeRow v' v:=fun k hk hk'=>h k hk' hk
theorem ne_other {v v':Value} (h:NeRow v v'):v'.ownBlock=none∨v'.ownBlock≠v.ownBlock:=by
 cases hv:v'.ownBlock with
 | none=>exact .inl rfl
 | some k=>exact .inr fun e=>h k e.symm hv
theorem ne_nil (v':Value):NeRow (.slice none 0 0) v':=fun k hk=>by simp [Value.ownBlock] at hk
theorem ne_nil' (v:Value):NeRow v (.slice none 0 0):=ne_symm (ne_nil v)
theorem ne_append {W:World} {v v1 v':Value} {base n size:Nat} {e:TypeId} {xs:List Value} (h:NeRow v v') (hat:v1.ownBlock=v.ownBlock∨∃ b,v1.ownBlock=some b∧W.heap.size≤b) (ho:W.ownsRow base e size v' n xs):NeRow v1 v':=by
 intro k hk hk'
 rcases hat with hat|⟨b,hb,hle⟩
 ·exact h k (hat ▸ hk) hk'
 ·have:=own_lt ho k hk'
  rw [hb] at hk
  injection hk with hk
  omega
theorem ne_append' {W:World} {v v1 v':Value} {base n size:Nat} {e:TypeId} {xs:List Value} (h:NeRow v' v) (hat:v1.ownBlock=v.ownBlock∨∃ b,v1.ownBlock=some b∧W.heap.size≤b) (ho:W.ownsRow base e size v' n xs):NeRow v' v1:=ne_symm (ne_append (ne_symm h) hat ho)
theorem ne_made {W:World} {v':Value} {base n size len cap:Nat} {e:TypeId} {xs:List Value} (ho:W.ownsRow base e size v' n xs):NeRow (.slice (some ⟨W.heap.size,0,none⟩) len cap) v':=by
 intro k hk hk'
 have h3:=own_lt ho k hk'
 have:W.heap.size=k:=by simpa [Value.ownBlock] using hk
 omega
theorem blk_alloc {w:World} {g:Nat} {o:Obj} (h:w.heap[g]? = some o) (o':Obj):(w.alloc o').heap[g]? = some o:=(Below.heap_alloc w o' g (blk_lt h)).trans h
theorem blk_drew {w:World} {g:Nat} {o:Obj} (h:w.heap[g]? = some o):w.drew.heap[g]? = some o:=h
theorem blk_drewN {w:World} {g:Nat} {o:Obj} (h:w.heap[g]? = some o) (n:Nat):(w.drewN n).heap[g]? = some o:=h
theorem blk_below {w w1:World} {g:Nat} {o:Obj} (h:w.heap[g]? = some o) (hb:Below w.heap.size w w1):w1.heap[g]? = some o:=(hb.block g (blk_lt h)).trans h
theorem blk_new (w:World) (o:Obj):(w.alloc o).heap[w.heap.size]? = some o:=heap_alloc_new w o
section
variable {P : Program}
theorem results_ct {fn:Func} {p u:Tmp} {ty:TypeId} (h:fn.results = #[.cell p ty,.tmp u]) (tmps:Array Value) (w:World) (g:Nat) (t:TypeId) (cs:Array Value) (fr:Nat×Nat) (d:TypeDesc)
  (hp:tmps.getD p undef = .pointer (some ⟨g,0,none⟩)) (hg:w.heap[g]? = some (.cells cs t fr))
  (hu:P.underlying ty=some d) (hd:(match d with | .struct _ | .array _ _=>true|_=>false)=true) (hi:(P.info? ty).map (·.size)=some cs.size) :
  (results fn tmps).run P w = .ok (.tuple #[.agg cs,tmps.getD u undef]) w:=by
 have hp':tmps[p]?.getD undef = .pointer (some ⟨g,0,none⟩):=by simpa using hp
 simp [results,h,hp',asAddr,run_loadVar_row w g t ty cs fr d hg hu hd hi]
theorem results_ctt {fn:Func} {p u v:Tmp} {ty:TypeId} (h:fn.results = #[.cell p ty,.tmp u,.tmp v]) (tmps:Array Value) (w:World) (g:Nat) (t:TypeId) (cs:Array Value) (fr:Nat×Nat) (d:TypeDesc)
  (hp:tmps.getD p undef = .pointer (some ⟨g,0,none⟩)) (hg:w.heap[g]? = some (.cells cs t fr))
  (hu:P.underlying ty=some d) (hd:(match d with | .struct _ | .array _ _=>true|_=>false)=true) (hi:(P.info? ty).map (·.size)=some cs.size) :
  (results fn tmps).run P w = .ok (.tuple #[.agg cs,tmps.getD u undef,tmps.getD v undef]) w:=by
 have hp':tmps[p]?.getD undef = .pointer (some ⟨g,0,none⟩):=by simpa using hp
 simp [results,h,hp',asAddr,run_loadVar_row w g t ty cs fr d hg hu hd hi]
end
theorem own_le {w:World} {base n m c size:Nat} {e:TypeId} {A:Option Addr} {xs:List Value} (h:w.ownsRow base e size (.slice A m c) n xs):m≤c:=by
 rcases h.2 with ⟨he,_⟩|⟨g,cap,cur,he,_,_,hnc,_⟩
 ·injection he with _ h2 h3
  omega
 ·injection he with _ h2 h3
  omega
def OwnRow {α:Type} (R:α→List Value→Prop) (e:TypeId) (size:Nat) (w:World) (base:Nat) (v:Value) (ps:List α):Prop :=
 ∃ inner,w.ownsRow base e size v ps.length inner∧Reps R size ps inner
section
variable {α : Type} {R R' : α → List Value → Prop} {e : TypeId} {size : Nat} {w w1 : World} {base : Nat} {v : Value} {ps : List α}
theorem OwnRow.none_ (R:α→List Value→Prop) (e:TypeId) (size:Nat) (w:World) (base:Nat):OwnRow R e size w base (.slice none 0 0) []:=⟨[],own_nil _ _ _ _,Reps.none _ _⟩
theorem OwnRow.imp_ (h:OwnRow R e size w base v ps) (hR:∀ p c,R p c→R' p c):OwnRow R' e size w base v ps:=by
 obtain ⟨inner,ho,hr⟩:=h
 exact ⟨inner,ho,hr.imp_ hR⟩
theorem OwnRow.lower (h:OwnRow R e size w base v ps) {base':Nat} (hb:base'≤base):OwnRow R e size w base' v ps:=by
 obtain ⟨inner,ho,hr⟩:=h
 exact ⟨inner,own_weaken ho hb,hr⟩
theorem OwnRow.reads (h:OwnRow R e size w base v ps):∃ A c,v = .slice A ps.length c∧ps.length≤c∧ReadsRow R size w A ps.length ps:=by
 obtain ⟨inner,ho,hr⟩:=h
 obtain ⟨A,c,rfl,hrow⟩:=own_reads_row ho hr rfl
 exact ⟨A,c,rfl,own_le ho,hrow⟩
end
section
variable {P : Program} {ops : Array Oper} {rest : List Oper} {o : Oper} {a : Act} {Q : Exit → Act → World → Prop} {α : Type} {R : α → List Value → Prop}
end
section
variable {P : Program} {ops : Array Oper} {o : Oper} {a : Act} {Q : Exit → Act → World → Prop} {K : Act → World → Prop} {α : Type} {R : α → List Value → Prop}
end
theorem ReadsRow.inner_ {α:Type} {R:α→List Value→Prop} {size:Nat} {w:World} {ad:Addr} {n:Nat} {ps:List α} (h:ReadsRow R size w (some ad) n ps) :
  ∃ inner,Reps R size ps inner∧∀ j u,inner[j]? = some u→w.cell? (ad.add j)=some u:=by
 have key:∀ m,m≤ps.length→∃ inner,Reps R size (ps.take m) inner∧∀ j u,inner[j]? = some u→w.cell? (ad.add j)=some u:=by
  intro m
  induction m with
  | zero=>exact fun _=>⟨[],Reps.none _ _,fun j u hu=>by simp at hu⟩
  | succ m ih =>
    intro hm
    obtain ⟨inner,hr,hc⟩:=ih (by omega)
    obtain ⟨ad',he,hcell⟩:=h.2.2 (by have:=h.1;omega)
    injection he with he
    subst he
    obtain ⟨c,hcl,hp,hcc⟩:=hcell m _ (List.getElem?_eq_getElem (show m<ps.length by omega))
    refine ⟨inner++c,?_,fun j u hu => ?_⟩
    ·rw [List.take_succ_eq_append_getElem (show m<ps.length by omega)]
     exact hr.snoc hp hcl
    ·have hil:inner.length=m*size:=by rw [hr.1,List.length_take,Nat.min_eq_left (by omega)]
     rcases Nat.lt_or_ge j inner.length with hj|hj
     ·rw [List.getElem?_append_left hj] at hu
      exact hc j u hu
     ·rw [List.getElem?_append_right hj] at hu
      have:=hcc (j - inner.length) u hu
      rwa [hil,Nat.add_sub_cancel' (by omega)] at this
 obtain ⟨inner,hr,hc⟩:=key ps.length (Nat.le_refl _)
 rw [List.take_length] at hr
 exact ⟨inner,hr,hc⟩
section
variable {α : Type} {P : Program}
end
section
variable {P : Program} {ops : Array Oper} {rest : List Oper} {o : Oper} {a : Act} {Q : Exit → Act → World → Prop}
end
structure Kd (α:Type) where
 sz:Nat
 E:List Nat
 K:World→α→List Value→Prop
 M:World→Nat→(Nat→Prop)→α→List Value→Prop
 K_len:∀ {w x cs},K w x cs→cs.length=sz
 K_one:∀ {w x cs},K w x cs→∀ u∈cs,u.oneCell'=true
 K_below:∀ {w w1:World} {x cs},Below w.heap.size w w1→K w x cs→K w1 x cs
 K_of_M:∀ {w base ok x cs},M w base ok x cs→K w x cs
 M_mono:∀ {w base ok ok' x cs},(∀ k,ok k→ok' k)→M w base ok x cs→M w base ok' x cs
 M_bound:∀ {w:World} {base ok x cs},M w base ok x cs→M w base (fun k=>ok k∧base≤k∧k<w.heap.size∧∃ q,q∈E∧∃ cells,w.heap[k]? = some (.cells cells q (0,0))) x cs
 M_move:∀ {w w1:World} {base ok x cs},(∀ k,ok k→w1.heap[k]? = w.heap[k]?)→M w base ok x cs→M w1 base ok x cs
 M_lower:∀ {w base base' ok x cs},base'≤base→M w base ok x cs→M w base' ok x cs
theorem own_move {w w1:World} {base:Nat} {e:TypeId} {size n:Nat} {v:Value} {xs:List Value} (h:w.ownsRow base e size v n xs) (hm:∀ k,v.ownBlock=some k→w1.heap[k]? = w.heap[k]?):w1.ownsRow base e size v n xs:=by
 obtain ⟨h1,h2⟩:=h
 refine ⟨h1,?_⟩
 rcases h2 with h2|⟨g,cap,cur,rfl,hg,hh,r⟩
 ·exact .inl h2
 ·exact .inr ⟨g,cap,cur,rfl,hg,(hm g (by simp [Value.ownBlock])).trans hh,r⟩
theorem own_typed {w:World} {base:Nat} {e:TypeId} {size n:Nat} {v:Value} {xs:List Value} (h:w.ownsRow base e size v n xs) (k:Nat) (hk:v.ownBlock=some k):∃ cells,w.heap[k]? = some (.cells cells e (0,0)):=by
 rcases h.2 with ⟨rfl,_⟩|⟨g,cap,cur,rfl,hg,hh,r⟩
 ·simp [Value.ownBlock] at hk
 ·have:g=k:=by simpa [Value.ownBlock] using hk
  subst this
  exact ⟨cur,hh⟩
namespace Kd
def C {α:Type} (d:Kd α) (w:World) (A:Option Addr) (n:Nat) (xs:List α):Prop:=ReadsRow (d.K w) d.sz w A n xs
def R {α:Type} (d:Kd α) (e:Nat) (w:World) (base:Nat) (ok:Nat→Prop) (v:Value) (xs:List α):Prop :=
 (∀ k,v.ownBlock=some k→ok k)∧OwnRow (d.M w base (fun k=>ok k∧some k≠v.ownBlock)) e d.sz w base v xs
section
variable {α : Type} {d : Kd α} {e : Nat} {w w1 : World} {base : Nat} {ok ok' : Nat → Prop} {v : Value} {xs : List α}
theorem C_below {A:Option Addr} {n:Nat} (h:d.C w A n xs) (hb:Below w.heap.size w w1):d.C w1 A n xs:=ReadsRow.imp_ h hb (fun _ _ hp=>d.K_below hb hp)
theorem R_nil (d:Kd α) (e:Nat) (w:World) (base:Nat) (ok:Nat→Prop):d.R e w base ok (.slice none 0 0) []:=⟨fun k hk=>by simp [Value.ownBlock] at hk,OwnRow.none_ _ _ _ _ _⟩
theorem R_mono (h:d.R e w base ok v xs) (hok:∀ k,ok k→ok' k):d.R e w base ok' v xs:=⟨fun k hk=>hok k (h.1 k hk),h.2.imp_ (fun _ _ hp=>d.M_mono (fun k hk=>⟨hok k hk.1,hk.2⟩) hp)⟩
theorem R_bound (h:d.R e w base ok v xs):d.R e w base (fun k=>ok k∧base≤k∧k<w.heap.size∧∃ q,q∈e::d.E∧∃ cells,w.heap[k]? = some (.cells cells q (0,0))) v xs:=by
 obtain ⟨h0,inner,ho,hr⟩:=h
 refine ⟨fun k hk => ?_,inner,ho,hr.imp_ (fun _ _ hp=>d.M_mono (fun k hk => ?_) (d.M_bound hp))⟩
 ·obtain ⟨cells,hc⟩:=own_typed ho k hk
  exact ⟨h0 k hk,own_base ho k hk,own_lt ho k hk,e,List.mem_cons_self,cells,hc⟩
 ·obtain ⟨⟨h1,h2⟩,h3,h4,q,hq,hc⟩:=hk
  exact ⟨⟨h1,h3,h4,q,List.mem_cons_of_mem _ hq,hc⟩,h2⟩
theorem R_move (h:d.R e w base ok v xs) (hm:∀ k,ok k→w1.heap[k]? = w.heap[k]?):d.R e w1 base ok v xs:=by
 obtain ⟨h0,inner,ho,hr⟩:=h
 exact ⟨h0,inner,own_move ho (fun k hk=>hm k (h0 k hk)),hr.imp_ (fun _ _ hp=>d.M_move (fun k hk=>hm k hk.1) hp)⟩
theorem R_lower {base':Nat} (h:d.R e w base ok v xs) (hb:base'≤base):d.R e w base' ok v xs:=by
 obtain ⟨h0,inner,ho,hr⟩:=h
 exact ⟨h0,inner,own_weaken ho hb,hr.imp_ (fun _ _ hp=>d.M_lower hb hp)⟩
theorem R_step (h:d.R e w base ok v xs) (hm:∀ k,ok k→k<w.heap.size→w1.heap[k]? = w.heap[k]?):d.R e w1 base ok v xs :=
 R_mono (R_move (R_bound h) (fun k hk=>hm k hk.1 hk.2.2.1)) (fun _ hk=>hk.1)
theorem M_step {x:α} {cs:List Value} (h:d.M w base ok x cs) (hm:∀ k,ok k→k<w.heap.size→w1.heap[k]? = w.heap[k]?):d.M w1 base ok x cs :=
 d.M_mono (fun _ hk=>hk.1) (d.M_move (fun k hk=>hm k hk.1 hk.2.2.1) (d.M_bound h))
theorem R_below (h:d.R e w base ok v xs) (hb:Below w.heap.size w w1):d.R e w1 base ok v xs:=R_step h (fun k _ hk=>hb.block k hk)
theorem M_below {x:α} {cs:List Value} (h:d.M w base ok x cs) (hb:Below w.heap.size w w1):d.M w1 base ok x cs:=M_step h (fun k _ hk=>hb.block k hk)
theorem R_far (h:d.R e w base ok v xs) {p:Addr} (hok:∀ k,ok k→k≠p.block) (u:Value):d.R e (w.setCell p u) base ok v xs:=R_step h (fun k ho _=>Below.heap_setCell w p u k (hok k ho))
theorem R_keep (h:d.R e w base ok v xs) {g:Nat} (hk:KeepBut w w1 g none) (hok:∀ k,ok k→k≠g):d.R e w1 base ok v xs:=R_step h (fun k ho hlt=>hk.2 k hlt (hok k ho) (by simp))
theorem R_types (h:d.R e w base ok v xs) {g t:Nat} {cells:Array Value} (hb:w.heap[g]? = some (.cells cells t (0,0))) (ht:∀ q,q∈e::d.E→q≠t):d.R e w base (fun k=>ok k∧k≠g) v xs :=
 R_mono (R_bound h) (fun k hk=>⟨hk.1,by
  obtain ⟨_,_,_,q,hq,cells',hc⟩:=hk
  rintro rfl
  rw [hc] at hb
  injection hb with hb
  injection hb with _ hb
  exact ht q hq hb⟩)
theorem R_reads (h:d.R e w base ok v xs):∃ A c,v = .slice A xs.length c∧xs.length≤c∧d.C w A xs.length xs:=by
 obtain ⟨A,c,he,hl,hr⟩:=OwnRow.reads h.2
 exact ⟨A,c,he,hl,hr.imp_ (Below.refl _ _) (fun _ _ hp=>d.K_of_M hp)⟩
theorem R_slice (h:d.R e w base ok v xs):∃ A c,v = .slice A xs.length c:=by
 obtain ⟨A,c,he,_⟩:=R_reads h
 exact ⟨A,c,he⟩
theorem R_own (h:d.R e w base ok v xs):∃ inner,w.ownsRow base e d.sz v xs.length inner:=by
 obtain ⟨_,inner,ho,_⟩:=h
 exact ⟨inner,ho⟩
end
def scalar {α:Type} (enc:α→Value) (h1:∀ x,(enc x).oneCell'=true):Kd α where
 sz:=1
 E:=[]
 K:=fun _ x cs=>cs=[enc x]
 M:=fun _ _ _ x cs=>cs=[enc x]
 K_len:=fun h=>by rw [h];rfl
 K_one:=fun h u hu=>by
  rw [h] at hu
  rw [List.mem_singleton.1 hu]
  exact h1 _
 K_below:=fun _ h=>h
 K_of_M:=fun h=>h
 M_mono:=fun _ h=>h
 M_bound:=fun h=>h
 M_move:=fun _ h=>h
 M_lower:=fun _ h=>h
def int (k:IntKind):Kd Int:=scalar (Value.int k) (fun _=>rfl)
def bool:Kd Bool:=scalar Value.bool (fun _=>rfl)
def string:Kd ByteArray:=scalar Value.string (fun _=>rfl)
def slice {α:Type} (e:Nat) (d:Kd α):Kd (List α) where
 sz:=1
 E:=e::d.E
 K:=fun w xs cs => ∃ A c,cs=[.slice A xs.length c]∧xs.length≤c∧d.C w A xs.length xs
 M:=fun w base ok xs cs => ∃ v,cs=[v]∧d.R e w base ok v xs
 K_len:=by
  rintro w x cs ⟨A,c,rfl,_⟩
  rfl
 K_one:=by
  rintro w x cs ⟨A,c,rfl,_⟩ u hu
  rw [List.mem_singleton.1 hu]
  rfl
 K_below:=by
  rintro w w1 x cs hb ⟨A,c,rfl,hl,hr⟩
  exact ⟨A,c,rfl,hl,C_below hr hb⟩
 K_of_M:=by
  rintro w base ok x cs ⟨v,rfl,h⟩
  obtain ⟨A,c,rfl,hl,hr⟩:=R_reads h
  exact ⟨A,c,rfl,hl,hr⟩
 M_mono:=by
  rintro w base ok ok' x cs hok ⟨v,rfl,h⟩
  exact ⟨v,rfl,R_mono h hok⟩
 M_bound:=by
  rintro w base ok x cs ⟨v,rfl,h⟩
  exact ⟨v,rfl,R_bound h⟩
 M_move:=by
  rintro w w1 base ok x cs hm ⟨v,rfl,h⟩
  exact ⟨v,rfl,R_move h hm⟩
 M_lower:=by
  rintro w base base' ok x cs hb ⟨v,rfl,h⟩
  exact ⟨v,rfl,R_lower h hb⟩
def pair {α β:Type} (a:Kd α) (b:Kd β):Kd (α×β) where
 sz:=a.sz+b.sz
 E:=a.E++b.E
 K:=fun w x cs => ∃ c0 c1,cs=c0++c1∧a.K w x.1 c0∧b.K w x.2 c1
 M:=fun w base ok x cs => ∃ c0 c1,cs=c0++c1∧a.M w base ok x.1 c0∧b.M w base ok x.2 c1
 K_len:=by
  rintro w x cs ⟨c0,c1,rfl,h0,h1⟩
  rw [List.length_append,a.K_len h0,b.K_len h1]
 K_one:=by
  rintro w x cs ⟨c0,c1,rfl,h0,h1⟩ u hu
  rcases List.mem_append.1 hu with hu|hu
  ·exact a.K_one h0 u hu
  ·exact b.K_one h1 u hu
 K_below:=by
  rintro w w1 x cs hb ⟨c0,c1,rfl,h0,h1⟩
  exact ⟨c0,c1,rfl,a.K_below hb h0,b.K_below hb h1⟩
 K_of_M:=by
  rintro w base ok x cs ⟨c0,c1,rfl,h0,h1⟩
  exact ⟨c0,c1,rfl,a.K_of_M h0,b.K_of_M h1⟩
 M_mono:=by
  rintro w base ok ok' x cs hok ⟨c0,c1,rfl,h0,h1⟩
  exact ⟨c0,c1,rfl,a.M_mono hok h0,b.M_mono hok h1⟩
 M_bound:=by
  rintro w base ok x cs ⟨c0,c1,rfl,h0,h1⟩
  refine ⟨c0,c1,rfl,a.M_mono ?_ (a.M_bound h0),b.M_mono ?_ (b.M_bound h1)⟩
  ·rintro k ⟨h2,h3,h4,q,hq,hc⟩
   exact ⟨h2,h3,h4,q,List.mem_append_left _ hq,hc⟩
  ·rintro k ⟨h2,h3,h4,q,hq,hc⟩
   exact ⟨h2,h3,h4,q,List.mem_append_right _ hq,hc⟩
 M_move:=by
  rintro w w1 base ok x cs hm ⟨c0,c1,rfl,h0,h1⟩
  exact ⟨c0,c1,rfl,a.M_move hm h0,b.M_move hm h1⟩
 M_lower:=by
  rintro w base base' ok x cs hb ⟨c0,c1,rfl,h0,h1⟩
  exact ⟨c0,c1,rfl,a.M_lower hb h0,b.M_lower hb h1⟩
def iso {α β:Type} (d:Kd α) (f:β→α):Kd β where
 sz:=d.sz
 E:=d.E
 K:=fun w x cs=>d.K w (f x) cs
 M:=fun w base ok x cs=>d.M w base ok (f x) cs
 K_len:=d.K_len
 K_one:=d.K_one
 K_below:=d.K_below
 K_of_M:=d.K_of_M
 M_mono:=d.M_mono
 M_bound:=d.M_bound
 M_move:=d.M_move
 M_lower:=d.M_lower
def bot {α:Type} (sz:Nat) (E:List Nat):Kd α where
 sz:=sz
 E:=E
 K:=fun _ _ _=>False
 M:=fun _ _ _ _ _=>False
 K_len:=fun h=>h.elim
 K_one:=fun h=>h.elim
 K_below:=fun _ h=>h
 K_of_M:=fun h=>h
 M_mono:=fun _ h=>h
 M_bound:=fun h=>h
 M_move:=fun _ h=>h
 M_lower:=fun _ h=>h
def upto {α:Type} (F:Kd α→Kd α) (sz:Nat) (E:List Nat):Nat→Kd α
 | 0=>bot sz E
 | n+1=>F (upto F sz E n)
theorem C_get {α:Type} {d:Kd α} {w:World} {A:Option Addr} {n:Nat} {xs:List α} (h:d.C w A n xs) (z:α) (i:Int) (h0:0≤i) (h1:i<n) :
 ∃ ad c,A=some ad∧c.length=d.sz∧d.K w (xs.getD i.toNat z) c∧∀ j u,c[j]? = some u→w.cell? (ad.add (i.toNat*d.sz+j))=some u:=ReadsRow.get_ h z i h0 h1
theorem R_appended {α:Type} {d:Kd α} {e base:Nat} {ok okp:Nat→Prop} {W w1:World} {v v1:Value} {xs:List α} {p:α} {inner cs:List Value} (h0:∀ k,v.ownBlock=some k→ok k) (hr:Reps (d.M W base (fun k=>ok k∧some k≠v.ownBlock)) d.sz xs inner) (hp:d.M W base okp p cs) (hokp:∀ k,okp k→ok k∧some k≠v.ownBlock) (hfresh:∀ k,W.heap.size≤k→ok k)
  (hown:w1.ownsRow base e d.sz v1 (xs.length+1) (inner++cs)) (hg:W.grownBy w1 v.ownBlock) (hat:v1.ownBlock=v.ownBlock∨∃ b,v1.ownBlock=some b∧W.heap.size≤b):d.R e w1 base ok v1 (xs++[p]):=by
 have hne:∀ k,some k≠v.ownBlock→k<W.heap.size→some k≠v1.ownBlock:=by
  intro k hk hlt
  rcases hat with hat|⟨b,hb,hle⟩
  ·rw [hat];exact hk
  ·rw [hb]
   intro he
   injection he with he
   omega
 have step:∀ {q:α} {c:List Value} {o:Nat→Prop},d.M W base o q c→(∀ k,o k→ok k∧some k≠v.ownBlock)→d.M w1 base (fun k=>ok k∧some k≠v1.ownBlock) q c:=by
  intro q c o hq ho
  have h1:=d.M_move (w1:=w1) (fun k hk=>hg.block k hk.2.2.1 (ho k hk.1).2) (d.M_bound hq)
  exact d.M_mono (fun k hk=>⟨(ho k hk.1).1,hne k (ho k hk.1).2 hk.2.2.1⟩) h1
 refine ⟨fun k hk => ?_,inner++cs,by rw [List.length_append,List.length_singleton];exact hown,?_⟩
 ·rcases hat with hat|⟨b,hb,hle⟩
  ·exact h0 k (hat ▸ hk)
  ·rw [hb] at hk
   injection hk with hk
   exact hfresh k (by omega)
 ·exact (hr.imp_ (fun _ _ hq=>step hq (fun _ hk=>hk))).snoc (step hp hokp) (d.K_len (d.K_of_M hp))
section
variable {P : Program} {ops : Array Oper} {rest : List Oper} {o : Oper} {a : Act} {Q : Exit → Act → World → Prop} {α : Type}
theorem R_append (d:Kd α) {w0 W:World} (base:Nat) (hgd:o.guard=none) (s x:Operand) (t e:TypeId) (z:Value) (bytes:Nat)
  (ho:o.op = .call { callee:=.builtin .append,args := #[s,x],argTypes := #[t,t] })
  (ht:P.underlying t=some (.slice e)) (hinfo:(P.info? e).map (fun i=>(i.zero,i.size,i.bytes))=some (some z,d.sz,bytes)) (hz:z.cells.size=d.sz) (hs0:0<d.sz) (hb0:0<bytes)
  (v:Value) (xs:List α) (p:α) (cs:List Value) (ok okp:Nat→Prop) (hs:a.eval s=v) (hx:a.eval x = .slice (some ⟨W.heap.size,0,none⟩) 1 1) (hp:d.M W base okp p cs) (hokp:∀ k,okp k→ok k∧some k≠v.ownBlock) (hfresh:∀ k,W.heap.size≤k→ok k)
  (HO:d.R e W base ok v xs) (HB:Below base w0 W) (hbase:base≤W.heap.size) (hl:(xs.length+1)*bytes≤140737488355328)
  (h:∀ v1 w1,d.R e w1 base ok v1 (xs++[p])→Below base w0 w1→W.grownBy w1 v.ownBlock→(v1.ownBlock=v.ownBlock∨∃ b,v1.ownBlock=some b∧W.heap.size≤b)→wpList P ops Q rest (a.put o.dst v1) w1) :
  wpList P ops Q (o::rest) a (W.alloc (.cells cs.toArray e)):=by
 obtain ⟨h0,inner,hown,hr⟩:=HO
 refine print_append_cells base hgd s x t e z d.sz bytes ho ht hinfo hz hs0 hb0 v xs.length inner cs hs hx (d.K_len (d.K_of_M hp)) (d.K_one (d.K_of_M hp)) hown HB hbase hl ?_
 intro v1 w1 hown1 hb1 hg1 hat1
 exact h v1 w1 (R_appended h0 hr hp hokp hfresh hown1 hg1 hat1) hb1 hg1 hat1
end
section
variable {P : Program} {ops : Array Oper} {o : Oper} {a : Act} {Q : Exit → Act → World → Prop} {Kc : Act → World → Prop} {α : Type}
end
theorem reads_of_C {α:Type} {enc:α→Value} {d:α} {h1:∀ x,(enc x).oneCell'=true} {w:World} {A:Option Addr} {n:Nat} {xs:List α} (h:(scalar enc h1).C w A n xs):ReadsOf enc d w A n xs:=by
 refine ⟨h.1,h.2.1,fun hn => ?_⟩
 obtain ⟨ad,e,hc⟩:=h.2.2 hn
 refine ⟨ad,e,fun j hj => ?_⟩
 have hl:j<xs.length:=by have:=h.1;omega
 obtain ⟨c,_,hK,hcell⟩:=hc j _ (List.getElem?_eq_getElem hl)
 have hK':c=[enc xs[j]]:=hK
 subst hK'
 have:=hcell 0 _ rfl
 simpa [scalar,List.getD_eq_getElem?_getD,List.getElem?_eq_getElem hl] using this
end Kd
namespace Kd
section
variable {α : Type} {F : Kd α → Kd α} {sz : Nat} {E : List Nat} {hs : ∀ n, (upto F sz E n).sz = sz} {hE : ∀ n q, q ∈ (upto F sz E n).E → q ∈ E}
end
end Kd
namespace Kd
end Kd
namespace Kd
section
variable {α β : Type} {d : Kd α} {d' : Kd β} {e e' : Nat} {w w1 W : World} {base b b' : Nat} {ok ok' okv oku : Nat → Prop} {v u : Value} {xs : List α} {ys : List β}
theorem R_alloc (h:d.R e w base ok v xs) (o:Obj):d.R e (w.alloc o) base ok v xs:=R_below h (below_alloc (Below.refl _ _) o)
theorem R_drew (h:d.R e w base ok v xs):d.R e w.drew base ok v xs:=R_below h (below_drew (Below.refl _ _))
theorem R_drewN (h:d.R e w base ok v xs) (m:Nat):d.R e (w.drewN m) base ok v xs:=R_below h (pw_below_drewN (Below.refl _ _) m)
theorem R_reads' {A:Option Addr} {n c:Nat} (h:d.R e w base ok (.slice A n c) xs):n=xs.length∧n≤c∧d.C w A xs.length xs:=by
 obtain ⟨A',c',he,hl,hr⟩:=R_reads h
 injection he with h1 h2 h3
 subst h1
 exact ⟨h2,by omega,hr⟩
theorem R_lt (h:d.R e w base ok v xs):∀ k,v.ownBlock=some k→k<w.heap.size:=by
 obtain ⟨inner,ho⟩:=R_own h
 exact own_lt ho
theorem R_base (h:d.R e w base ok v xs):∀ k,v.ownBlock=some k→base≤k:=by
 obtain ⟨inner,ho⟩:=R_own h
 exact own_base ho
theorem R_away (h:d.R e w base ok v xs) {g:Nat} (hok:∀ k,ok k→k≠g):some g≠v.ownBlock:=fun e=>hok g (h.1 g e.symm) rfl
theorem R_form (h:d.R e w base ok v xs) (hp:0<xs.length):∃ g cap,v = .slice (some ⟨g,0,none⟩) xs.length cap∧base≤g∧g<w.heap.size∧∃ cells,w.heap[g]? = some (.cells cells e (0,0)):=by
 obtain ⟨inner,ho⟩:=R_own h
 obtain ⟨g,cap,he,hb,hl⟩:=ho.form hp
 obtain ⟨cells,hc⟩:=own_typed ho g (by rw [he];simp [Value.ownBlock])
 exact ⟨g,cap,he,hb,hl,cells,hc⟩
end
section
variable {w W : World} {A : Option Addr} {n : Nat}
theorem at_string {xs:List ByteArray} (h:Kd.string.C w A n xs) (i:Int) (h0:0≤i) (h1:i<n):∃ ad,A=some ad∧w.cell? (ad.add i.toNat)=some (.string (rdOf ByteArray.empty xs i)) :=
 ReadsOf.at_ (reads_of_C (enc:=Value.string) (d:=ByteArray.empty) (h1:=fun _=>rfl) h) i h0 h1
variable {α : Type} {enc : α → Value} {h1 : ∀ x, (enc x).oneCell' = true} {e base g cap : Nat} {ok : Nat → Prop} {xs : List α}
end
section
variable {P : Program} {ops : Array Oper} {rest : List Oper} {o : Oper} {a : Act} {Q : Exit → Act → World → Prop}
theorem event_run {W w1:World} {v:Value} (hgd:o.guard=none) (hrun:(execOp a.eval o).run P W = .ok (.value v) w1) (h:wpList P ops Q rest (a.put o.dst v) w1):wpList P ops Q (o::rest) a W:=by
 refine wpList_plain hgd fun K hK => ?_
 unfold Oper.wp
 rw [hrun]
 exact hK _ _ h
variable {α : Type}
theorem R_lit (d:Kd α) {w0 W:World} (base e:Nat) (hgd:o.guard=none) {N:Tmp} (_hd:o.dst=some N) {xs:List α} {inner:List Value} {ok okp:Nat→Prop}
  (hrun:(execOp a.eval o).run P W = .ok (.value (.slice (some ⟨W.heap.size,0,none⟩) xs.length xs.length)) (W.alloc (.cells inner.toArray e)))
  (hrep:Reps (d.M W base okp) d.sz xs inner) (hok:∀ k,okp k→ok k) (hfresh:ok W.heap.size) (HB:Below base w0 W) (hbase:base≤W.heap.size) (hm:xs.length≤9223372036854775807)
  (h:∀ v1 w1,d.R e w1 base ok v1 xs→Below base w0 w1→W.grownBy w1 none→(∃ b,v1.ownBlock=some b∧W.heap.size≤b)→wpList P ops Q rest (a.put o.dst v1) w1):wpList P ops Q (o::rest) a W:=by
 refine event_run hgd hrun (h _ _ ⟨fun k hk => ?_,inner,?_,?_⟩ (HB.alloc hbase _) (World.grownBy_alloc W _ none) ⟨W.heap.size,by simp [Value.ownBlock],Nat.le_refl _⟩)
 ·have:W.heap.size=k:=by simpa [Value.ownBlock] using hk
  subst this
  exact hfresh
 ·have h2:=World.ownsRow_lit (base:=base) (e:=e) (size:=d.sz) W inner.toArray xs.length hbase (by simpa [maxLen] using hm) (by simpa using hrep.1)
  simpa using h2
 ·refine hrep.imp_ (fun p c hp=>d.M_mono (fun k hk=>⟨hok k hk.1,fun he => ?_⟩) (M_below (d.M_bound hp) (below_alloc (Below.refl _ _) _)))
  have h3:k=W.heap.size:=by simpa [Value.ownBlock] using he
  have:=hk.2.2.1
  omega
end
end Kd
section
variable {P : Program}
end
section
variable {w w1 : World} {base n size : Nat} {e : TypeId} {v : Value} {xs : List Value}
theorem setCells_far {g:Nat}:∀ (vs:List Value) (o:Nat) {w:World} (k:Nat),k≠g→(w.setCells g o vs).heap[k]? = w.heap[k]?
 | [],_,_,_,_=>rfl
 | v::r,o,w,k,hk=>by
   rw [World.setCells,setCells_far r (o+1) k hk]
   exact Below.heap_setCell w ⟨g,o,none⟩ v k hk
theorem setCells_same (g:Nat):∀ (vs:List Value) (o:Nat) (w:World),(w.setCells g o vs).os=w.os∧(w.setCells g o vs).tape=w.tape∧(w.setCells g o vs).output=w.output∧(w.setCells g o vs).heap.size=w.heap.size
 | [],_,_=>⟨rfl,rfl,rfl,rfl⟩
 | v::r,o,w=>by
   obtain ⟨h1,h2,h3,h4⟩:=setCells_same g r (o+1) (w.setCell ⟨g,o,none⟩ v)
   rw [World.setCells]
   exact ⟨h1,h2,h3,by rw [h4];simp [World.setCell]⟩
theorem setCells_row {g:Nat} {e:TypeId}:∀ (vs:List Value) (o:Nat) (w:World) (cur:Array Value),w.heap[g]? = some (.cells cur e (0,0))→o+vs.length≤cur.size →
  ∃ cur',(w.setCells g o vs).heap[g]? = some (.cells cur' e (0,0))∧cur'.size=cur.size∧cur'.toList=cur.toList.take o++vs++cur.toList.drop (o+vs.length)
 | [],o,w,cur,h,_=>⟨cur,h,rfl,by simp⟩
 | v::r,o,w,cur,h,hl=>by
   have h2:=blk_set h o v
   simp only [List.length_cons] at hl
   obtain ⟨cur',h3,h4,h5⟩:=setCells_row r (o+1) (w.setCell ⟨g,o,none⟩ v) _ h2 (by simp;omega)
   refine ⟨cur',h3,by rw [h4];simp,?_⟩
   rw [h5,Array.toList_setIfInBounds]
   have ho:o<cur.toList.length:=by rw [Array.length_toList];omega
   rw [List.take_set,List.drop_set_of_lt (by omega)]
   simp only [List.length_cons]
   rw [show o+1+r.length=o+(r.length+1) by omega]
   congr 1
   rw [List.take_succ_eq_append_getElem ho,List.set_append_right _ _ (by rw [List.length_take];omega)]
   have ho':o<cur.size:=by omega
   simp [Nat.min_eq_left (Nat.le_of_lt ho')]
end
section
variable {P : Program}
end
namespace Kd
section
variable {α : Type} {d : Kd α} {e : Nat} {w w1 W : World} {base : Nat} {ok ok' : Nat → Prop} {v : Value} {xs : List α}
end
section
variable {P : Program} {ops : Array Oper} {rest : List Oper} {o : Oper} {a : Act} {Q' : Exit → Act → World → Prop} {Kc : Act → World → Prop} {α : Type}
end
end Kd
namespace Kd
section
variable {α : Type} {d : Kd α} {e e' : Nat} {w w1 W : World} {base : Nat} {ok : Nat → Prop} {u v : Value} {xs : List α}
theorem R_typed (h:d.R e w base ok v xs):∀ k,v.ownBlock=some k→∃ cells,w.heap[k]? = some (.cells cells e (0,0)):=by
 obtain ⟨inner,ho⟩:=R_own h
 exact fun k hk=>own_typed ho k hk
theorem R_apart' (h:d.R e W base ok u xs) (hty:∀ k,v.ownBlock=some k→∃ cells,W.heap[k]? = some (.cells cells e' (0,0))) (ht:∀ q,q∈e::d.E→q≠e'):d.R e W base (fun k=>ok k∧some k≠v.ownBlock) u xs:=by
 refine R_mono (R_bound h) (fun k hk=>⟨hk.1,fun he => ?_⟩)
 obtain ⟨_,_,_,q,hq,cells,hc⟩:=hk
 obtain ⟨cells',hc'⟩:=hty k he.symm
 rw [hc] at hc'
 injection hc' with hc'
 injection hc' with _ hc'
 exact ht q hq hc'
theorem R_elder' (hu:d.R e W base ok u xs) (hbase:∀ k,v.ownBlock=some k→W.heap.size≤k) (hb:Below W.heap.size W w1):d.R e w1 base (fun k=>ok k∧some k≠v.ownBlock) u xs :=
 R_mono (R_move (R_bound hu) (fun k hk=>hb.block k hk.2.2.1)) (fun k hk=>⟨hk.1,fun he=>by have:=hbase k he.symm;have:=hk.2.2.1;omega⟩)
theorem R_new' (h:d.R e w1 W.heap.size ok v xs) (hlt:∀ k,u.ownBlock=some k→k<W.heap.size):d.R e w1 W.heap.size (fun k=>ok k∧some k≠u.ownBlock) v xs :=
 R_mono (R_bound h) (fun k hk=>⟨hk.1,fun he=>by have:=hlt k he.symm;have:=hk.2.1;omega⟩)
end
end Kd
theorem seg_get {α:Type} (a seg:List α) (o:Nat) (h:o+seg.length≤a.length) (q:Nat) :
  (a.take o++seg++a.drop (o+seg.length))[q]? = if q<o then a[q]? else if q<o+seg.length then seg[q - o]? else a[q]? := by
 have hl:(a.take o).length=o:=by rw [List.length_take];omega
 rw [List.append_assoc]
 by_cases h1:q<o
 ·rw [if_pos h1,List.getElem?_append_left (by omega),List.getElem?_take,if_pos h1]
 ·rw [if_neg h1,List.getElem?_append_right (by omega),hl]
  by_cases h2:q<o+seg.length
  ·rw [if_pos h2,List.getElem?_append_left (by omega)]
  ·rw [if_neg h2,List.getElem?_append_right (by omega),List.getElem?_drop]
   congr 1
   omega
namespace Kd
section
variable {α : Type} {d : Kd α} {e base g n cap : Nat} {ok okp : Nat → Prop} {W : World} {xs : List α}
theorem R_elem (h:d.R e W base ok (.slice (some ⟨g,0,none⟩) n cap) xs) (z:α) (i:Int) (h0:0≤i) (h1:i<n) :
  ∃ c,c.length=d.sz∧d.M W base (fun k=>ok k∧k≠g) (xs.getD i.toNat z) c∧(∀ j u,c[j]? = some u→W.cell? ⟨g,i.toNat*d.sz+j,none⟩=some u)∧∀ j,W.frozen? ⟨g,i.toNat*d.sz+j,none⟩=false:=by
 obtain ⟨hn,hnc,hC⟩:=R_reads' h
 obtain ⟨_,inner,ho,hr⟩:=h
 have hil:i.toNat<xs.length:=by omega
 have hseg:i.toNat*d.sz+d.sz≤inner.length:=by rw [hr.1,← Nat.succ_mul];exact Nat.mul_le_mul_right _ hil
 have hM:=hr.2 i.toNat _ (List.getElem?_eq_getElem hil)
 refine ⟨(inner.drop (i.toNat*d.sz)).take d.sz,by rw [List.length_take,List.length_drop];omega,?_,fun j u hu => ?_,fun j => ?_⟩
 ·rw [List.getD_eq_getElem?_getD,List.getElem?_eq_getElem hil]
  exact d.M_mono (fun k hk=>⟨hk.1,fun he=>hk.2 (by rw [he];simp [Value.ownBlock])⟩) hM
 ·rw [List.getElem?_take] at hu
  split at hu
  ·rw [List.getElem?_drop] at hu
   have:=ho.cells (g:=g) (by simp [Value.ownBlock]) _ u hu
   rwa [add_plain] at this
  ·cases hu
 ·obtain ⟨cells,hc⟩:=own_typed ho g (by simp [Value.ownBlock])
  exact blk_frozen hc _
theorem R_seg (h:d.R e W base ok (.slice (some ⟨g,0,none⟩) n cap) xs) (i:Int) (h0:0≤i) (h1:i<n) {c seg:List Value} {j:Nat} (hcl:c.length=d.sz) (hcc:∀ j u,c[j]? = some u→W.cell? ⟨g,i.toNat*d.sz+j,none⟩=some u)
  (hj:j+seg.length≤d.sz) {x':α} (hM:d.M W base okp x' (c.take j++seg++c.drop (j+seg.length))) (hokp:∀ k,okp k→ok k∧k≠g) :
  d.R e (W.setCells g (i.toNat*d.sz+j) seg) base ok (.slice (some ⟨g,0,none⟩) n cap) (xs.set i.toNat x')∧W.grownBy (W.setCells g (i.toNat*d.sz+j) seg) (some g):=by
 obtain ⟨hn,hnc,_⟩:=R_reads' h
 obtain ⟨hok,inner,ho,hr⟩:=h
 have hil:i.toNat<xs.length:=by omega
 have hseg:i.toNat*d.sz+d.sz≤inner.length:=by rw [hr.1,← Nat.succ_mul];exact Nat.mul_le_mul_right _ hil
 have hin:inner.length=n*d.sz:=by rw [hr.1,hn]
 obtain ⟨ho1,ho2⟩:=ho
 rcases ho2 with ⟨hv,_⟩|⟨g',cap',cur,hv,hb,hh,hnc',hcm,hcs,ht⟩
 ·cases hv
 injection hv with ha _ hc
 injection ha with ha
 injection ha with hg
 subst hg;subst hc
 have hfit:i.toNat*d.sz+j+seg.length≤cur.size:=by
  have:n*d.sz≤cap*d.sz:=Nat.mul_le_mul_right _ hnc
  omega
 obtain ⟨cur',h3,h4,h5⟩:=setCells_row seg (i.toNat*d.sz+j) W cur hh hfit
 obtain ⟨s1,s2,s3,s4⟩:=setCells_same g seg (i.toNat*d.sz+j) W
 have hfar:∀ k,k≠g→(W.setCells g (i.toNat*d.sz+j) seg).heap[k]? = W.heap[k]? := fun k hk=>setCells_far seg _ k hk
 have hcin:∀ q,q<d.sz→c[q]? = inner[i.toNat*d.sz+q]? := by
  intro q hq
  have hq':q<c.length:=by omega
  have h6:=hcc q _ (List.getElem?_eq_getElem hq')
  rw [cell_of_row W g _ cur e (0,0) hh] at h6
  rw [List.getElem?_eq_getElem hq',← h6,← ht,List.getElem?_take,if_pos (by rw [← hn];omega),Array.getElem?_toList]
 refine ⟨⟨hok,inner.take (i.toNat*d.sz+j)++seg++inner.drop (i.toNat*d.sz+j+seg.length),⟨?_,.inr ⟨g,cap,cur',by rw [List.length_set,hn],hb,h3,by rw [List.length_set,← hn];exact hnc,hcm,by rw [h4,hcs],?_⟩⟩,?_⟩,
  ⟨s1,s2,s3,by rw [s4];exact Nat.le_refl _,fun k _ hk=>hfar k (fun he=>hk (by rw [he]))⟩⟩
 ·rw [List.length_set]
  simp only [List.length_append,List.length_take,List.length_drop]
  rw [hr.1] at hseg ⊢
  omega
 ·rw [List.length_set,← hn]
  apply List.ext_getElem?
  intro q
  rw [List.getElem?_take,h5]
  rw [seg_get cur.toList seg (i.toNat*d.sz+j) (by rw [Array.length_toList];omega) q,seg_get inner seg (i.toNat*d.sz+j) (by omega) q]
  have hcur:∀ q,q<n*d.sz→cur.toList[q]? = inner[q]? := by
   intro q hq
   rw [← ht,List.getElem?_take,if_pos (by rw [← hn];exact hq)]
  by_cases hq:q<n*d.sz
  ·rw [if_pos hq,hcur q hq]
  ·rw [if_neg hq,if_neg (by omega),if_neg (by omega),List.getElem?_eq_none (by omega)]
 ·refine ⟨?_,fun m p hm => ?_⟩
  ·rw [List.length_set]
   simp only [List.length_append,List.length_take,List.length_drop]
   rw [hr.1] at hseg ⊢
   omega
  ·have hml:m<xs.length:=by
    have:=(List.getElem?_eq_some_iff.1 hm).1
    rwa [List.length_set] at this
   have hmfit:m*d.sz+d.sz≤inner.length:=by rw [hr.1,← Nat.succ_mul];exact Nat.mul_le_mul_right _ hml
   have hgo:some g=(Value.slice (some ⟨g,0,none⟩) n cap).ownBlock:=by simp [Value.ownBlock]
   by_cases hmi:m=i.toNat
   ·subst hmi
    rw [List.getElem?_set_self (by omega)] at hm
    injection hm with hm
    subst hm
    have hcells:((inner.take (i.toNat*d.sz+j)++seg++inner.drop (i.toNat*d.sz+j+seg.length)).drop (i.toNat*d.sz)).take d.sz=c.take j++seg++c.drop (j+seg.length):=by
     apply List.ext_getElem?
     intro q
     rw [List.getElem?_take,List.getElem?_drop,seg_get inner seg _ (by omega),seg_get c seg j (by omega) q]
     by_cases hq:q<d.sz
     ·rw [if_pos hq,hcin q hq]
      by_cases hq1:q<j
      ·rw [if_pos (by omega),if_pos hq1]
      ·rw [if_neg (by omega),if_neg hq1]
       by_cases hq2:q<j+seg.length
       ·rw [if_pos (by omega),if_pos hq2]
        congr 1
        omega
       ·rw [if_neg (by omega),if_neg hq2]
     ·rw [if_neg hq,if_neg (by omega),if_neg (by omega),List.getElem?_eq_none (by omega)]
    rw [hcells]
    refine d.M_mono (fun k hk => ?_) (d.M_move (w1:=W.setCells g (i.toNat*d.sz+j) seg) (fun k hk=>hfar k (hokp k hk).2) hM)
    exact ⟨(hokp k hk).1,fun he=>(hokp k hk).2 (by rw [← hgo] at he;injection he)⟩
   ·rw [List.getElem?_set_ne (by omega)] at hm
    have hold:=hr.2 m p hm
    have hcells:((inner.take (i.toNat*d.sz+j)++seg++inner.drop (i.toNat*d.sz+j+seg.length)).drop (m*d.sz)).take d.sz=(inner.drop (m*d.sz)).take d.sz:=by
     apply List.ext_getElem?
     intro q
     rw [List.getElem?_take,List.getElem?_take,List.getElem?_drop,List.getElem?_drop,seg_get inner seg _ (by omega)]
     by_cases hq:q<d.sz
     ·rw [if_pos hq,if_pos hq]
      rcases Nat.lt_or_gt_of_ne hmi with hlt|hgt
      ·have:m*d.sz+d.sz≤i.toNat*d.sz:=by rw [← Nat.succ_mul];exact Nat.mul_le_mul_right _ hlt
       rw [if_pos (by omega)]
      ·have:i.toNat*d.sz+d.sz≤m*d.sz:=by rw [← Nat.succ_mul];exact Nat.mul_le_mul_right _ hgt
       rw [if_neg (by omega),if_neg (by omega)]
     ·rw [if_neg hq,if_neg hq]
    rw [hcells]
    refine d.M_move (fun k hk=>hfar k (fun he=>hk.2 (by rw [he];exact hgo))) hold
end
end Kd
namespace Kd
section
variable {α : Type} {F : Kd α → Kd α} {sz : Nat} {E : List Nat} {hs : ∀ n, (upto F sz E n).sz = sz} {hE : ∀ n q, q ∈ (upto F sz E n).E → q ∈ E}
end
end Kd
namespace Kd
theorem reps_append {α:Type} {R:α→List Value→Prop} {size:Nat} {ps qs:List α} {cs ds:List Value} (h:Reps R size ps cs) (h':Reps R size qs ds):Reps R size (ps++qs) (cs++ds):=by
 refine ⟨by rw [List.length_append,List.length_append,h.1,h'.1,Nat.add_mul],fun j p hj => ?_⟩
 rcases Nat.lt_or_ge j ps.length with hlt|hge
 ·rw [List.getElem?_append_left hlt] at hj
  have hle:j*size+size≤cs.length:=by rw [h.1,← Nat.succ_mul];exact Nat.mul_le_mul_right _ hlt
  rw [List.drop_append_of_le_length (by omega),List.take_append_of_le_length (by rw [List.length_drop];omega)]
  exact h.2 j p hj
 ·rw [List.getElem?_append_right hge] at hj
  have h2:=h'.2 (j - ps.length) p hj
  have hle:ps.length*size≤j*size:=Nat.mul_le_mul_right _ hge
  rw [List.drop_append,List.drop_eq_nil_of_le (by rw [h.1];exact hle),List.nil_append,h.1,← Nat.sub_mul]
  exact h2
section
variable {P : Program} {ops : Array Oper} {rest : List Oper} {o : Oper} {a : Act} {Q : Exit → Act → World → Prop} {α : Type}
theorem R_append_rows (d:Kd α) {Rr:α→List Value→Prop} {w0 W:World} (base:Nat) (hgd:o.guard=none) (s x:Operand) (t e:TypeId) (z:Value) (bytes:Nat)
  (ho:o.op = .call { callee:=.builtin .append,args := #[s,x],argTypes := #[t,t] })
  (ht:P.underlying t=some (.slice e)) (hinfo:(P.info? e).map (fun i=>(i.zero,i.size,i.bytes))=some (some z,d.sz,bytes)) (hz:z.cells.size=d.sz) (hs0:0<d.sz) (hb0:0<bytes)
  (v:Value) (xs ys:List α) (A:Option Addr) (m c:Nat) (ok okp:Nat→Prop) (hs:a.eval s=v) (hx:a.eval x = .slice A m c)
  (HO:d.R e W base ok v xs) (HR:ReadsRow Rr d.sz W A m ys) (hKM:∀ x cs,Rr x cs→d.M W base okp x cs) (hokp:∀ k,okp k→ok k∧some k≠v.ownBlock) (hfresh:∀ k,W.heap.size≤k→ok k)
  (HB:Below base w0 W) (hbase:base≤W.heap.size) (hl:(xs.length+m)*bytes≤140737488355328)
  (h:∀ v1 w1,d.R e w1 base ok v1 (xs++ys)→Below base w0 w1→W.grownBy w1 v.ownBlock→(v1.ownBlock=v.ownBlock∨∃ b,v1.ownBlock=some b∧W.heap.size≤b)→wpList P ops Q rest (a.put o.dst v1) w1) :
  wpList P ops Q (o::rest) a W:=by
 obtain ⟨i0,hi,hzz⟩:=Option.map_eq_some_iff.1 hinfo
 simp only [Prod.mk.injEq] at hzz
 obtain ⟨hz0,hz1,hz2⟩:=hzz
 have hm:ys.length=m:=HR.1
 have hlen:xs.length+m≤140737488355328:=Nat.le_trans (Nat.le_mul_of_pos_right _ hb0) hl
 obtain ⟨hok,inner,hown,hr⟩:=HO
 have hrun:∃ v1 w1,(Builtin.append_ #[t,t] o.type #[v,.slice A m c]).run P W = .ok v1 w1∧d.R e w1 base ok v1 (xs++ys)∧W.grownBy w1 v.ownBlock∧(v1.ownBlock=v.ownBlock∨∃ b,v1.ownBlock=some b∧W.heap.size≤b):=by
  rcases A with _|ad
  ·have h0:m=0:=by
    rcases Nat.eq_zero_or_pos m with h0|h0
    ·exact h0
    ·obtain ⟨ad,h,_⟩:=HR.2.2 h0
     cases h
   subst h0
   obtain rfl:ys=[]:=List.eq_nil_of_length_eq_zero hm
   refine ⟨v,W,?_,by rw [List.append_nil];exact ⟨hok,inner,hown,hr⟩,World.grownBy.refl W _,.inl rfl⟩
   rcases hown.2 with ⟨rfl,hn⟩|⟨g,cap,cur,rfl,_,_,hnc,_⟩
   ·simp [Builtin.append_,run_underlying ht,sizeOf,typeInfo,hi,Builtin.lenOf,Builtin.firstCells]
   ·simp [Builtin.append_,run_underlying ht,sizeOf,typeInfo,hi,Builtin.lenOf,Builtin.firstCells,hnc,storeCells]
  ·obtain ⟨news,hnr,hnc⟩:=ReadsRow.inner_ HR
   have hnM:Reps (d.M W base okp) d.sz ys news:=hnr.imp_ (fun p c hp=>hKM p c hp)
   have hone:∀ u∈news,u.oneCell'=true:=by
    intro u hu
    obtain ⟨q,hq,rfl⟩:=List.mem_iff_getElem.1 hu
    have hql:q / d.sz<ys.length:=by
     rw [Nat.div_lt_iff_lt_mul hs0]
     rw [← hnM.1]
     exact hq
    have hc:=hnM.2 (q / d.sz) _ (List.getElem?_eq_getElem hql)
    refine d.K_one (d.K_of_M hc) _ ?_
    rw [List.mem_iff_getElem?]
    refine ⟨q % d.sz,?_⟩
    rw [List.getElem?_take,if_pos (Nat.mod_lt _ hs0),List.getElem?_drop,Nat.mul_comm,Nat.div_add_mod,List.getElem?_eq_getElem hq]
   obtain ⟨v1,w1,hrun,h2,hg,_,hat⟩:=run_append_own_at (P:=P) W base t o.type e i0 z d.sz bytes ht hi hz0 hz1 hz2 hz hs0 v xs.length inner hown ad m c news (by rw [hnM.1,hm]) hnc hone (by simp only [maxLen];omega) hl hbase
   have hat':v1.ownBlock=v.ownBlock∨∃ b,v1.ownBlock=some b∧W.heap.size≤b:=by
    rcases hat with hat|hat
    ·exact .inl hat
    ·exact .inr ⟨_,hat,Nat.le_refl _⟩
   have hne:∀ k,some k≠v.ownBlock→k<W.heap.size→some k≠v1.ownBlock:=by
    intro k hk hlt
    rcases hat' with hat|⟨b,hb,hle⟩
    ·rw [hat];exact hk
    ·rw [hb]
     intro he
     injection he with he
     omega
   have step:∀ {q:α} {c:List Value} {o:Nat→Prop},d.M W base o q c→(∀ k,o k→ok k∧some k≠v.ownBlock)→d.M w1 base (fun k=>ok k∧some k≠v1.ownBlock) q c:=by
    intro q c o hq ho
    have h1:=d.M_move (w1:=w1) (fun k hk=>hg.block k hk.2.2.1 (ho k hk.1).2) (d.M_bound hq)
    exact d.M_mono (fun k hk=>⟨(ho k hk.1).1,hne k (ho k hk.1).2 hk.2.2.1⟩) h1
   refine ⟨v1,w1,hrun,⟨fun k hk => ?_,inner++news,by rw [List.length_append,hm];exact h2,reps_append (hr.imp_ (fun _ _ hq=>step hq (fun _ hk=>hk))) (hnM.imp_ (fun _ _ hq=>step hq hokp))⟩,hg,hat'⟩
   rcases hat' with hat|⟨b,hb,hle⟩
   ·exact hok k (hat ▸ hk)
   ·rw [hb] at hk
    injection hk with hk
    exact hfresh k (by omega)
 obtain ⟨v1,w1,hr1,h1,hg,hat⟩:=hrun
 refine wpList_plain hgd fun K hK => ?_
 unfold Oper.wp execOp
 simp only [ho,resolve,invoke,builtin,Sem.run_bind,Sem.run_pure,Result.andThen_ok,List.map_toArray,List.map_cons,List.map_nil,hs,hx,hr1]
 exact hK _ _ (h v1 w1 h1 (HB.grown hg hbase (own_base hown)) hg hat)
end
end Kd
namespace Kd
section
variable {P : Program} {ops : Array Oper} {rest : List Oper} {o : Oper} {a : Act} {Q : Exit → Act → World → Prop} {α : Type}
end
end Kd
namespace Kd
section
variable {α : Type} {k : Kd α} {w : World} {A : Option Addr} {xs : List α} {m c : Nat}
end
end Kd
section
variable {P : Program}
end
theorem below_size {w W:World} (h:Below w.heap.size w W):w.heap.size≤W.heap.size:=h.size
theorem below_step {w W w2:World} (h:Below w.heap.size w W) (k:Below W.heap.size W w2):Below w.heap.size w w2:=below_then h h.size k
theorem below_set {w W:World} {g j:Nat} {v:Value} (h:Below w.heap.size w W) (hg:w.heap.size≤g):Below w.heap.size w (W.setCell ⟨g,j,none⟩ v):=h.setCell hg _
theorem keep_drewN {w W:World} {g:Nat} {row:Option Nat} (h:KeepBut w W g row) (m:Nat):KeepBut w (W.drewN m) g row:=h
theorem add_block (a:Addr) (i:Nat):(a.add i).block=a.block:=by unfold Addr.add;split<;>rfl
theorem blk_put {w:World} {g:Nat} {t:TypeId} {cs cs':Array Value} (h:w.heap[g]? = some (.cells cs t (0,0))) (i:Nat) (u:Value) (e:cs.setIfInBounds i u=cs'):(w.setCell ⟨g,i,none⟩ u).heap[g]? = some (.cells cs' t (0,0)):=e ▸ blk_set h i u
theorem below_drew1 {base:Nat} {w W:World} (h:Below base w W):Below base w W.drew:=h.drew
namespace Kd
section
variable {α β : Type} {d : Kd α} {d' : Kd β} {e e' base base' n : Nat} {ok ok' : Nat → Prop} {w W w1 W1 : World} {v u : Value} {xs : List α} {ys : List β} {A : Option Addr} {c : Nat}
end
section
variable {α : Type} {enc : α → Value} {h1 : ∀ x, (enc x).oneCell' = true} {w W : World} {A : Option Addr} {n g : Nat} {xs : List α}
end
end Kd
namespace Kd
section
variable {α : Type} {d : Kd α} {e base g : Nat} {ok : Nat → Prop} {w w1 : World} {v : Value} {xs : List α} {o : Obj}
theorem freshB (hb:w.heap[g]? = some o):∀ k,w.heap.size≤k→k≠g:=fun k hk=>by have:=blk_lt hb;omega
end
end Kd
section
variable {P : Program} {ops : Array Oper} {rest : List Oper} {o : Oper} {a : Act} {Q : Exit → Act → World → Prop}
theorem box_event {W:World} (hgd:o.guard=none) {N:Tmp} (_hd:o.dst=some N) {cs:Array Value} {t:TypeId}
  (hrun:(execOp a.eval o).run P W = .ok (.value (.pointer (some ⟨W.heap.size,0,none⟩))) (W.alloc (.cells cs t (0,0))))
  (h:∀ g,g=W.heap.size→∀ w1,w1.heap[g]? = some (.cells cs t (0,0))→Below W.heap.size W w1→wpList P ops Q rest (a.put o.dst (.pointer (some ⟨g,0,none⟩))) w1):wpList P ops Q (o::rest) a W :=
 Kd.event_run hgd hrun (h _ rfl _ (blk_new W _) (below_alloc (Below.refl _ _) _))
end
namespace Kd
section
variable {α : Type} {enc : α → Value} {h1 : ∀ x, (enc x).oneCell' = true} {e base g n cap : Nat} {ok : Nat → Prop} {W : World} {xs : List α}
end
end Kd
section
variable {P : Program} {ops : Array Oper} {rest : List Oper} {o : Oper} {a : Act} {Q : Exit → Act → World → Prop}
theorem store_event {W w1:World} (hgd:o.guard=none) {t:TypeId} {p:Tmp} {v:Operand} (_ho:o.op = .store t (.tmp p) v) (hN:o.dst=none)
  (hrun:(execOp a.eval o).run P W = .ok .skip w1) (h:∀ w',w'=w1→wpList P ops Q rest a w'):wpList P ops Q (o::rest) a W:=by
 refine wpList_plain hgd fun K hK => ?_
 unfold Oper.wp
 rw [hrun]
 show K (a.put o.dst undef) w1
 rw [hN]
 exact hK _ _ (h _ rfl)
end
namespace Kd
section
variable {α : Type} {enc : α → Value} {h1 : ∀ x, (enc x).oneCell' = true} {e base g n cap : Nat} {ok : Nat → Prop} {W : World} {xs : List α}
end
end Kd
section
variable {P : Program} {ops : Array Oper} {rest : List Oper} {o : Oper} {a : Act} {Q : Exit → Act → World → Prop} {W : World}
theorem gate_dst {N:Tmp} (_hN:o.dst=some N) (h:wpList P ops Q (o::rest) a W):wpList P ops Q (o::rest) a W:=h
theorem gate_store {t:TypeId} {p:Tmp} {v:Operand} (_ho:o.op = .store t (.tmp p) v) (h:wpList P ops Q (o::rest) a W):wpList P ops Q (o::rest) a W:=h
end
section
variable {P : Program} {ops : Array Oper} {o : Oper} {a : Act} {Q : Exit → Act → World → Prop} {Kc : Act → World → Prop}
namespace Kd
variable {α : Type}
end Kd
end
section
variable {P : Program} {tmps : Array Value} {w : World}
end
namespace Kd
section
variable {P : Program} {α : Type}
end
section
variable {P : Program} {ops : Array Oper} {rest : List Oper} {o : Oper} {a : Act} {Q : Exit → Act → World → Prop} {Kc : Act → World → Prop} {α : Type}
end
end Kd
end Go.Proofs.YtclkdmmgibgamaaGreatDoorW.PrintWords
end

namespace Go.Proofs.YtclkdmmgibgamaaGreatDoor
section
namespace Pb
open Go Go.RowKit YtclkdmmgibgamaaGreatDoorW.PrintWords
def B (l:List UInt8):ByteArray:=⟨l.toArray⟩
theorem B_data (l:List UInt8):(B l).data.toList=l:=by simp [B]
theorem B_of (s:ByteArray):s=B s.data.toList:=by cases s;simp [B]
theorem exists_B (s:ByteArray):∃ l,s=B l:=⟨_,B_of s⟩
theorem B_nil:(⟨#[]⟩:ByteArray)=B []:=rfl
@[simp] theorem size_B (l:List UInt8):(B l).size=l.length:=by simp [B,ByteArray.size]
@[simp] theorem B_append (l m:List UInt8):B l++B m=B (l++m):=by
  apply ByteArray.ext;rw [ByteArray.data_append];simp [B]
theorem B_extract (l:List UInt8) (i j:Nat):(B l).extract i j=B ((l.take j).drop i):=by
 apply ByteArray.ext;rw [ByteArray.data_extract];simp [B,List.drop_take]
theorem toList_loop (bs:ByteArray) (n:Nat):∀ i r,bs.size - i=n→ByteArray.toList.loop bs i r=r.reverse++bs.data.toList.drop i:=by
 induction n with
 | zero =>
   intro i r h
   unfold ByteArray.toList.loop
   rw [if_neg zu4,List.drop_eq_nil_of_le (by simp;have:bs.data.size=bs.size:=rfl;omega),List.append_nil]
 | succ n ih =>
   intro i r h
   unfold ByteArray.toList.loop
   have hi:i<bs.size:=by omega
   rw [if_pos hi,ih (i+1) _ zu4]
   have hd:bs.data.toList.drop i=bs.get! i::bs.data.toList.drop (i+1):=by
    rw [List.drop_eq_getElem_cons (by simpa using hi)]
    congr 1
    cases bs with
    | mk d =>
      show d.toList[i]=d[i]!
      have hd:i<d.size:=hi
      rw [getElem!_pos d i hd];simp
   rw [hd];simp
theorem toList_data (bs:ByteArray):bs.toList=bs.data.toList:=by
 unfold ByteArray.toList;rw [toList_loop bs bs.size 0 [] zu4];simp
@[simp] theorem toList_B (l:List UInt8):(B l).toList=l:=by rw [toList_data,B_data]
theorem bt_B (l:List UInt8) (i:Nat) (h:i<l.length):bt (B l) (i:Int)=((l[i]'h).toNat:Int):=by
 unfold bt
 have this:(i:Int).toNat<(B l).size:=by simpa using h
 rw [dif_pos this]
 have e:(B l)[(i:Int).toNat]'this=l[i]'h:=by
  show (l.toArray)[(i:Int).toNat]' zu46=l[i]'h
  simp only [Int.toNat_natCast,List.getElem_toArray]
 exact congrArg (fun c:UInt8=>(c.toNat:Int)) e
@[simp] theorem bt_mid (p r:List UInt8) (c:UInt8):bt (B (p++c::r)) (p.length:Int)=(c.toNat:Int):=by
  rw [bt_B _ _ zu19];simp
theorem wrap_nat (n:Nat) (h:n<9223372036854775807):wrap64 ((n:Int)+1)=((n+1:Nat):Int):=by unfold wrap64;omega
theorem wrap_add (n k:Nat) (h:n+k<9223372036854775808):wrap64 ((n:Int)+(k:Int))=((n+k:Nat):Int):=by unfold wrap64;omega
theorem wrap_id (n:Int) (h0 : -9223372036854775808≤n) (h:n<9223372036854775808):wrap64 n=n:=by unfold wrap64;omega
theorem u8_eq (c:UInt8) (n:Nat) (h:n<256):(((c.toNat:Int))=((n:Nat):Int))=(c=UInt8.ofNat n):=by
 apply propext
 constructor
 ·intro e;apply UInt8.toNat_inj.1;simp [UInt8.toNat_ofNat'];omega
 ·intro e;subst e;simp [UInt8.toNat_ofNat'];omega
end Pb
end

section
namespace Hand
open Go Go.RowKit Pl Pb
theorem byte10 {t:ByteArray} {j:Nat} (hj:j<t.size):((t.data[j]!).toNat:Int)=10↔t.data.toList[j]? = some 10:=by
 have h1:t.data[j]! = t.data[j]'hj:=getElem!_pos t.data j hj
 have h2:t.data.toList[j]? = some (t.data[j]'hj):=by rw [Array.getElem?_toList,Array.getElem?_eq_getElem hj]
 rw [h1,h2]
 constructor
 ·intro h
  have:t.data[j]'hj=10:=UInt8.toNat_inj.1 (by
   have:(t.data[j]'hj).toNat=10:=by omega
   rw [this];rfl)
  rw [this]
 ·intro h
  rw [Option.some.inj h];rfl
theorem last_10 (t:ByteArray) (i:Nat) (hi:i≤t.size) :
  ∃ p:Nat,Lib.lastIndexByte (t.extract 0 i) 10+1=p ∧ -1≤Lib.lastIndexByte (t.extract 0 i) 10∧p≤i∧St t.data.toList p∧∀ j,p≤j→j<i→t.data.toList[j]? ≠ some 10:=by
 have hz:(t.extract 0 i).size=i:=by rw [ByteArray.size_extract];omega
 have same:∀ j,j<i→(t.extract 0 i).data.toList[j]? = t.data.toList[j]? := fun j h1=>by
  rw [ByteArray.data_extract,Array.toList_extract]
  simp [List.extract]
  rw [List.getElem?_take_of_lt h1,Array.getElem?_toList]
 rcases Lib.lastIndexByte_spec (t.extract 0 i) 10 with ⟨h1,hno⟩|⟨j,h1,h2,h3,hno⟩
 ·exact ⟨0,by rw [h1];rfl,by rw [h1];decide,Nat.zero_le _,.inl rfl,fun j _ hj e=>hno j (by rw [hz];exact hj) ((byte10 (t:=t.extract 0 i) (by rw [hz];exact hj)).2 (by rw [same j hj];exact e))⟩
 ·rw [hz] at h1
  refine ⟨j+1,by rw [h2];rfl,by rw [h2];omega,zu4,.inr ⟨j,rfl,?_⟩,fun k hk1 hk e=>hno k zu4 (by rw [hz];exact hk) ((byte10 (t:=t.extract 0 i) (by rw [hz];exact hk)).2 (by rw [same k hk];exact e))⟩
  have h4:=(byte10 (t:=t.extract 0 i) (by rw [hz];exact h1)).1 h3
  rw [same j h1] at h4
  exact h4
theorem next_10 (t:ByteArray) (p:Nat) (hp:p≤t.size) :
  (Lib.indexByte (t.extract p t.size).data.toList 10 = -1∧p+(lnT t.data.toList p).length=t.size) ∨
  ∃ o:Nat,Lib.indexByte (t.extract p t.size).data.toList 10=o∧(lnT t.data.toList p).length=o∧p+o≤t.size:=by
 obtain ⟨l,rfl⟩:=exists_B t
 rw [size_B,B_extract,B_data,B_data,List.take_length]
 rw [size_B] at hp
 rcases Int.lt_or_le (Lib.indexByte (l.drop p) 10) 0 with h|h
 ·left
  have h1:Lib.indexByte (l.drop p) 10 = -1:=by have:=Lib.indexByte_ge (l.drop p) 10;omega
  refine ⟨h1,?_⟩
  unfold lnT
  rw [tw_none (fun k=>Lib.indexByte_none h1 k),List.length_drop];omega
 ·right
  obtain ⟨o,ho⟩:∃ o:Nat,Lib.indexByte (l.drop p) 10=o:=⟨_,(Int.toNat_of_nonneg h).symm⟩
  obtain ⟨h1,h2⟩:=Lib.indexByte_some ho
  have:(lnT l p).length=o:=tw_first h1 h2
  exact ⟨o,ho,this,by have:=ln_le l p hp;omega⟩
theorem line_c (t:ByteArray) (i:Nat) (hz:t.size≤1000000) (hi:i≤t.size) :
  ∃ p,St t.data.toList p∧(∀ j,p≤j→j<i→t.data.toList[j]? ≠ some 10)∧p≤i∧p+(lnT t.data.toList p).length≤t.size∧∀ w,Calls Tryz.prog 185 #[.string t,.int .i64 (i:Int)] w fun e w'=>e = .returned (.tuple #[.int .i64 (p:Int),.int .i64 ((p+(lnT t.data.toList p).length:Nat):Int)])∧w'=w:=by
 obtain ⟨p,h1,h1',h2,h3,hno⟩:=last_10 t i hi
 have hle:=ln_le t.data.toList p (by rw [Array.length_toList];show p≤t.size;omega)
 rw [show t.data.toList.length=t.size from Array.length_toList] at hle
 refine ⟨p,h3,hno,h2,hle,fun w => ?_⟩
 have L:=Lib.hid (fun W=>Tryz.strings_LastIndexByte (t.extract 0 i) 10 (by rw [ByteArray.size_extract];omega) W)
 have hn:=next_10 t p zu4
 obtain ⟨x,hx⟩:∃ x,Lib.lastIndexByte (t.extract 0 i) 10=x:=⟨_,rfl⟩
 rw [hx] at h1 h1' L
 obtain rfl:x=(p:Int) - 1:=by omega
 have I:=fun W=>Tryz.strings_IndexByte (t.extract p t.size) 10 W
 have hpz:p≤t.size:=by omega
 obtain ⟨m,hm⟩:∃ m,(lnT t.data.toList p).length=m:=⟨_,rfl⟩
 rw [hm] at hn hle ⊢
 clear hx h3 hm h1 hno
 rcases hn with ⟨g1,g2⟩|⟨o,g1,g2,g3⟩
 ·have I2:Hid (∀ W,Calls Tryz.prog 87 #[.string (t.extract p t.size),.int .u8 10] W fun e w'=>e = .returned (.int .i64 (-1))∧w'=W):=Lib.hid (fun W=>by rw [← g1];exact I W)
  have G2:=Lib.hid g2
  clear I g1 g2 hle
  go_enter Tryz.func185,Tryz.ntmps185
  go_wp2_with fail
  refine (L.out _).mono ?_
  rintro e w1 ⟨rfl,rfl⟩
  have hw:wrap64 ((p:Int) - 1+1)=(p:Int):=by unfold wrap64;omega
  go_wp2_with fail
  refine (I2.out _).mono ?_
  rintro e w2 ⟨rfl,rfl⟩
  go_wp2_with fail
  go_ret2
  exact ⟨by rw [G2.out];rfl,rfl⟩
 ·have I2:Hid (∀ W,Calls Tryz.prog 87 #[.string (t.extract p t.size),.int .u8 10] W fun e w'=>e = .returned (.int .i64 (o:Int))∧w'=W):=Lib.hid (fun W=>by rw [← g1];exact I W)
  subst g2
  clear I g1 hle
  go_enter Tryz.func185,Tryz.ntmps185
  go_wp2_with fail
  refine (L.out _).mono ?_
  rintro e w1 ⟨rfl,rfl⟩
  have hw:wrap64 ((p:Int) - 1+1)=(p:Int):=by unfold wrap64;omega
  go_wp2_with fail
  refine (I2.out _).mono ?_
  rintro e w2 ⟨rfl,rfl⟩
  go_wp2_with fail
  go_ret2
  exact ⟨rfl,rfl⟩
end Hand
end

section
namespace Hand
open Go.RowKit Pl Pb
def isNe (c x:UInt8):Bool:=x != c
def upto (c:UInt8) (s:List UInt8):List UInt8:=s.takeWhile (isNe c)
def past (c:UInt8) (s:List UInt8):List UInt8:=s.drop ((upto c s).length+1)
theorem upto_cons (c x:UInt8) (r:List UInt8):upto c (x::r)=if x=c then [] else x::upto c r:=by
 unfold upto isNe
 rw [List.takeWhile_cons]
 by_cases h:x=c<;>simp [h]
theorem index_byte (c:UInt8):∀ s:List UInt8,Lib.index s [c]=if c∈s then ((upto c s).length:Int) else -1:=by
 intro s
 induction s with
 | nil=>rfl
 | cons x r ih =>
   rw [index_cons,ih,upto_cons]
   by_cases h:x=c
   ·simp [h]
   ·rw [if_neg h,if_neg h]
    by_cases hm:c∈r
    ·rw [if_pos hm,if_pos (List.mem_cons_of_mem _ hm),if_neg zu4];simp
    ·rw [if_neg hm,if_pos rfl,if_neg (by simp [hm,Ne.symm h])]
theorem upto_length (c:UInt8):∀ s:List UInt8,(upto c s).length≤s.length:=by
 intro s
 induction s with
 | nil=>simp [upto]
 | cons x r ih=>rw [upto_cons];split<;>simp;exact ih
theorem upto_take (c:UInt8):∀ s:List UInt8,s.take (upto c s).length=upto c s:=by
 intro s
 induction s with
 | nil=>rfl
 | cons x r ih=>rw [upto_cons];split<;>simp;exact ih
theorem upto_all (c:UInt8):∀ s:List UInt8,c∉s→upto c s=s:=by
 intro s
 induction s with
 | nil=>intro _;rfl
 | cons x r ih =>
   intro h
   simp only [List.mem_cons,not_or] at h
   rw [upto_cons,if_neg (Ne.symm h.1),ih h.2]
theorem past_all (c:UInt8) (s:List UInt8) (h:c∉s):past c s=[]:=by
 unfold past;rw [upto_all c s h];simp
theorem cut_byte (c:UInt8) (s:List UInt8):Lib.cut s [c]=(upto c s,past c s,decide (c∈s)):=by
 unfold Lib.cut
 rw [index_byte]
 by_cases h:c∈s
 ·simp [h,upto_take,past]
 ·simp [h,upto_all c s h,past_all c s h]
theorem below_drewN {B:Nat} (w:World) (n:Nat):Below B w (w.drewN n):=⟨rfl,rfl,rfl,Nat.le_refl _,fun _ _=>rfl⟩
theorem scut_c (c:UInt8) (s:List UInt8) (w:World) (hs:s.length≤1000000000) (hG:Glob w) :
  Calls Tryz.prog 111 #[.string (B s),.string (B [c])] w fun e w'=>e = .returned (.tuple #[.string (B (upto c s)),.string (B (past c s)),.bool (decide (c∈s))])∧Below w.heap.size w w':=by
 obtain ⟨m,hm⟩:=hG.out
 refine (Tryz.strings_Cut (B s) (B [c]) m w zu25 hm).mono ?_
 rintro e w' ⟨h1,n,rfl⟩
 rw [B_data,B_data,cut_byte] at h1
 exact ⟨h1,below_drewN _ _⟩
end Hand
end

section
namespace Hand
open Go Go.RowKit Pl Pb
theorem less_ltB:∀ a b:List UInt8,Op.bytesLess a b=ltB a b:=by
 intro a
 induction a with
 | nil=>intro b;cases b<;>rfl
 | cons x l ih =>
   intro b
   cases b with
   | nil=>rfl
   | cons y m =>
     rw [Op.bytesLess,ltB,ih]
     by_cases h1:x.toNat<y.toNat
     ·rw [if_pos h1,decide_eq_true (show x<y from h1)];rfl
     ·rw [if_neg h1,decide_eq_false (show ¬ x<y from h1),Bool.false_or]
      by_cases h2:y.toNat<x.toNat
      ·rw [if_pos h2,show (x == y)=false by rw [beq_eq_false_iff_ne];rintro rfl;omega];rfl
      ·rw [if_neg h2,show (x == y)=true by rw [beq_iff_eq];exact UInt8.toNat_inj.1 zu4];rfl
def fndV (key:ByteArray):Option (List UInt8)→Value
 | none => .tuple #[.string ⟨#[]⟩,.bool false]
 | some r => .tuple #[.string (B r),.bool (!key.toList.isEmpty)]
def LineJ (t key:ByteArray) (w:World) (a':Act) (wr:World):Prop :=
 ∃ (low high:Nat) (u2 u3 u4 u5 u8 u9 u10 u11 u12 u13 u14 u15 u16 u17 u18 u19 u20 u21 u22 u23 u24 u25 u26 u27 u28 u29 u30 u31 u32 u33 u34 u35 u36 u37 u38 u39 u40 u41 u42 u43 u44 u45 u46 u47:Value),
   a'={ tmps := #[.string t,.string key,u2,u3,u4,u5,.int .i64 (low:Int),.int .i64 (high:Int),u8,u9,u10,u11,u12,u13,u14,u15,u16,u17,u18,u19,u20,u21,u22,u23,u24,u25,u26,u27,u28,u29,u30,u31,u32,u33,u34,u35,u36,u37,u38,u39,u40,u41,u42,u43,u44,u45,u46,u47],defers:=[] }∧Below w.heap.size w wr∧low≤t.size+1∧high≤t.size∧Half t.data.toList key.data.toList low high
theorem extract_ln (t:ByteArray) (p:Nat) (h:p+(lnT t.data.toList p).length≤t.size):t.extract p (p+(lnT t.data.toList p).length)=B (lnT t.data.toList p):=by
 obtain ⟨l,rfl⟩:=exists_B t
 rw [B_data,B_extract]
 congr 1
 unfold lnT
 rw [List.drop_take,Nat.add_sub_cancel_left]
 exact (List.prefix_iff_eq_take.1 (List.takeWhile_prefix _)).symm
theorem sline_c (t key:ByteArray) (last:List UInt8) (hT:Tab t.data.toList last) (hz:t.size≤1000000) (w:World) (hGl:Glob w) :
  Calls Tryz.prog 163 #[.string t,.string key] w fun e w'=>(∃ r,Fnd t.data.toList key.data.toList r∧e = .returned (fndV key r))∧Below w.heap.size w w':=by
 have HT:=Lib.hid hT
 have HG:=Lib.hid hGl
 have HL:=Lib.hid (fun i (hi:i≤t.size)=>line_c t i hz hi)
 clear hT hGl
 go_enter Tryz.func163,Tryz.ntmps163
 go_wp2
 refine wp_scope_at 0 (LineJ t key w) (fun a' _=>(intOf (a'.tmps.getD 7 undef)).toNat+(t.size+1 - (intOf (a'.tmps.getD 6 undef)).toNat)) rfl ?_ ?_
 ·intro hB
  have HB:=Lib.hid hB
  clear hB
  go_wp2
  refine wp_label_k zu57 (HB.out _ _ ?_)
  exact ⟨0,t.size,_,_,_,_,_,_,_,_,_,_,_,_,_,_,_,_,_,_,_,_,_,_,_,_,_,_,_,_,_,_,_,_,_,_,_,_,_,_,_,_,_,_,_,_,rfl,Below.refl _ _,zu4,Nat.le_refl _,Half.start HT.out key.data.toList⟩
 ·rintro a' wr ⟨low,high,u2,u3,u4,u5,u8,u9,u10,u11,u12,u13,u14,u15,u16,u17,u18,u19,u20,u21,u22,u23,u24,u25,u26,u27,u28,u29,u30,u31,u32,u33,u34,u35,u36,u37,u38,u39,u40,u41,u42,u43,u44,u45,u46,u47,rfl,hb,hlo,hhi,hH⟩
  have HH:=Lib.hid hH
  have HW:=Lib.hid hb
  clear hH hb
  by_cases hlt:low<high
  ·obtain ⟨q,hq⟩:∃ q,(low+high) / 2=q:=⟨_,rfl⟩
   have hq1:low≤q:=by omega
   have hq2:q<high:=by omega
   have hqd:((low:Int)+(high:Int)).tdiv 2=(q:Int):=by rw [Int.tdiv_eq_ediv_of_nonneg zu4];omega
   obtain ⟨p,hp,hno,hpq,hpl,F⟩:=HL.out q zu4
   have hlp:low≤p:=by
    rcases HH.out.at_ with h|h
    ·rcases h with rfl|⟨j,rfl,hj⟩
     ·omega
     ·rcases Nat.lt_or_ge j p with h'|h'
      ·omega
      ·exact absurd hj (hno j h' zu4)
    ·have e:t.data.toList.length=t.size:=Array.length_toList
     omega
   clear hno
   have HF:=Lib.hid F
   have hx:=extract_ln t p hpl
   have hC:=fun (W:World) (hG:Glob W)=>scut_c 32 (lnT t.data.toList p) W zu4 hG
   rw [← hx] at hC
   obtain ⟨m,hm⟩:∃ m,(lnT t.data.toList p).length=m:=⟨_,rfl⟩
   rw [hm] at hC HF hpl
   obtain ⟨K,hK⟩:∃ K,B (upto 32 (lnT t.data.toList p))=K:=⟨_,rfl⟩
   obtain ⟨R,hR⟩:∃ R,B (past 32 (lnT t.data.toList p))=R:=⟨_,rfl⟩
   obtain ⟨bf,hbf⟩:∃ b,decide ((32:UInt8)∈lnT t.data.toList p)=b:=⟨_,rfl⟩
   rw [hK,hR,hbf] at hC
   have HC:=Lib.hid hC
   have hKl:K.toList=kyT t.data.toList p:=by rw [← hK,toList_B];rfl
   have hkl:key.toList=key.data.toList:=by
    obtain ⟨l,rfl⟩:=exists_B key
    rw [toList_B,B_data]
   have HP:=Lib.hid hp
   have HM:=Lib.hid hm
   have hRr:B (rsL (lnT t.data.toList p))=R:=by rw [← hR];rfl
   have HRR:=Lib.hid hRr
   have c0:decide ((high:Int)≤(low:Int))=false:=decide_eq_false zu4
   clear F hx hC hK hR hbf hp hm hRr hq
   cases hlk:ltB (kyT t.data.toList p) key.data.toList with
   | true =>
     have c1:Op.bytesLess K.toList key.toList=true:=by rw [less_ltB,hKl,hkl];exact hlk
     have HN:=Lib.hid (HH.out.up HT.out HP.out hlk zu4)
     clear hKl hkl hlk
     go_wp2_with fail
     refine (HF.out _).mono ?_
     rintro e w1 ⟨rfl,rfl⟩
     go_wp2_with fail
     refine (HC.out _ (HG.out.step HW.out)).mono ?_
     rintro e w2 ⟨rfl,hb⟩
     have HW2:=Lib.hid (HW.out.trans (hb.mono HW.out.size))
     clear hb
     go_wp2_with fail
     go_step3
     refine ⟨rfl,⟨p+m+1,high,_,_,_,_,_,_,_,_,_,_,_,_,_,_,_,_,_,_,_,_,_,_,_,_,_,_,_,_,_,_,_,_,_,_,_,_,_,_,_,_,_,_,_,_,rfl,HW2.out,zu4,hhi,by rw [← HM.out];exact HN.out⟩,?_⟩
     simp [intOf];omega
   | false =>
     have c1:Op.bytesLess K.toList key.toList=false:=by rw [less_ltB,hKl,hkl];exact hlk
     cases hgk:ltB key.data.toList (kyT t.data.toList p) with
     | true =>
       have c2:(K.toList == key.toList)=false:=by rw [hKl,hkl,beq_eq_false_iff_ne];exact fun e=>ltB_ne hgk e.symm
       have HN:=Lib.hid (HH.out.down HT.out HP.out hgk zu4)
       clear hKl hkl hlk hgk
       go_wp2_with fail
       refine (HF.out _).mono ?_
       rintro e w1 ⟨rfl,rfl⟩
       go_wp2_with fail
       refine (HC.out _ (HG.out.step HW.out)).mono ?_
       rintro e w2 ⟨rfl,hb⟩
       have HW2:=Lib.hid (HW.out.trans (hb.mono HW.out.size))
       clear hb
       go_wp2_with fail
       go_step3
       refine ⟨rfl,⟨low,p,_,_,_,_,_,_,_,_,_,_,_,_,_,_,_,_,_,_,_,_,_,_,_,_,_,_,_,_,_,_,_,_,_,_,_,_,_,_,_,_,_,_,_,_,rfl,HW2.out,hlo,zu4,HN.out⟩,?_⟩
       simp [intOf];omega
     | false =>
       have he:=ltB_total _ _ hlk hgk
       have c2:(K.toList == key.toList)=true:=by rw [hKl,hkl,beq_iff_eq];exact he
       have HE:=Lib.hid he
       clear hKl hkl hlk hgk he
       go_wp2_with fail
       refine (HF.out _).mono ?_
       rintro e w1 ⟨rfl,rfl⟩
       go_wp2_with fail
       refine (HC.out _ (HG.out.step HW.out)).mono ?_
       rintro e w2 ⟨rfl,hb⟩
       have HW2:=Lib.hid (HW.out.trans (hb.mono HW.out.size))
       clear hb
       go_wp2_with fail
       simp only [Exit.jump]
       go_ret2
       exact ⟨⟨_,.inl ⟨p,HP.out,HE.out,rfl⟩,by show _=Ending.returned (.tuple #[.string (B (rsL (lnT t.data.toList p))),.bool (!key.toList.isEmpty)]);rw [HRR.out];rfl⟩,HW2.out⟩
  ·have c0:decide ((high:Int)≤(low:Int))=true:=decide_eq_true zu4
   go_wp2_with fail
   simp only [Exit.jump]
   go_ret2
   exact ⟨⟨none,.inr ⟨HH.out.none zu4,rfl⟩,rfl⟩,HW.out⟩
end Hand
end

section
namespace Hand
open Go Go.RowKit Pl Pb
def isKey (T k:List UInt8):Prop := ∃ p,St T p∧kyT T p=k
structure Lng (T r:List UInt8) (n:Nat):Prop where
 le:n≤min 32 r.length
 key:n=0∨isKey T (r.take n)
 more:∀ m,n<m→m≤min 32 r.length→¬ isKey T (r.take m)
theorem Lng.uniq {T r:List UInt8} {n m:Nat} (h:Lng T r n) (h':Lng T r m):n=m:=by
 rcases Nat.lt_trichotomy n m with hl|he|hg
 ·rcases h'.key with h0|hk
  ·omega
  ·exact absurd hk (h.more m hl h'.le)
 ·exact he
 ·rcases h.key with h0|hk
  ·omega
  ·exact absurd hk (h'.more n hg h.le)
theorem slongest_c (t:ByteArray) (s last:List UInt8) (n:Nat) (hT:Tab t.data.toList last) (hz:t.size≤1000000) (hs:s.length≤1000000) (hn:n≤s.length) (w:World) (hGl:Glob w) :
  Calls Tryz.prog 162 #[.string t,.string (B s),.int .i64 (n:Int),.int .i64 32] w fun e w'=>(∃ k:Nat,Lng t.data.toList (s.drop n) k∧e = .returned (.int .i64 (k:Int)))∧Below w.heap.size w w':=by
 obtain ⟨M,hM⟩:∃ M,min 32 (s.drop n).length=M:=⟨_,rfl⟩
 have HG:=Lib.hid hGl
 have HL:=Lib.hid (fun (key:ByteArray) W hG=>sline_c t key last hT hz W hG)
 obtain ⟨a,ha⟩:∃ a,B s=a:=⟨_,rfl⟩
 have hsz:a.size=s.length:=by rw [← ha];simp
 have hMle:M≤32∧n+M≤a.size:=by rw [← hM,List.length_drop];omega
 have hmin:min (32:Int) ((a.size:Int) - (n:Int))=(M:Int):=by
  rw [← hM,List.length_drop]
  omega
 have HMIN:=Lib.hid hmin
 have hx:∀ k,k≤M→(a.extract n (n+k)).data.toList=(s.drop n).take k:=fun k hk=>by
  rw [← ha,B_extract,B_data,List.drop_take,Nat.add_sub_cancel_left]
 have HX:=Lib.hid hx
 have HMM:=Lib.hid hM
 have HSZ:=Lib.hid hsz
 obtain ⟨hM1,hM2⟩:=hMle
 have hna:n≤a.size:=by omega
 have hz2:a.size≤1000000:=by omega
 have q0:decide ((n:Int)<0)=false:=decide_eq_false zu4
 have q1:decide ((a.size:Int)<(n:Int))=false:=decide_eq_false zu4
 rw [ha]
 clear ha hsz hM hx hT hz hs hn hGl hmin
 go_enter Tryz.func162,Tryz.ntmps162
 go_wp2_with fail
 go_loopw [9] (fun v wx => ∃ k:Nat,v = .int .i64 (k:Int)∧k≤M∧Below w.heap.size w wx∧Hid (∀ m,k<m→m≤M→¬ isKey t.data.toList ((s.drop n).take m))) (fun v _=>(intOf v).toNat)
 case atStart=>exact ⟨M,by rw [HMIN.out],Nat.le_refl _,Below.refl _ _,Lib.hid (fun m h1 h2=>by omega)⟩
 case round =>
  obtain ⟨k,rfl,hk,hB,hno⟩:=hrel
  have HW:=Lib.hid hB
  clear hB
  by_cases h0:0<k
  ·have q2:decide ((0:Int)<(k:Int))=true:=decide_eq_true zu4
   have hkx:=HX.out k hk
   have hke:(a.extract n (n+k)).toList.isEmpty=false:=by
    obtain ⟨l,hl⟩:=exists_B (a.extract n (n+k))
    rw [hl,B_data] at hkx
    rw [hl,toList_B,hkx]
    have:((s.drop n).take k).length=k:=by
     rw [List.length_take]
     have:=HMM.out
     omega
    cases hq:(s.drop n).take k with
    | nil=>rw [hq] at this;simp at this;omega
    | cons=>rfl
   have HKX:=Lib.hid hkx
   have HKE:=Lib.hid hke
   clear hkx hke
   go_wp2_with fail
   refine (HL.out _ _ (HG.out.step HW.out)).mono ?_
   rintro e w1 ⟨⟨r,hf,rfl⟩,hb⟩
   have HW2:=Lib.hid (HW.out.trans (hb.mono HW.out.size))
   have HF:=Lib.hid hf
   clear hb hf
   cases r with
   | none =>
     dsimp only [fndV]
     have HN:Hid (∀ m,k - 1<m→m≤M→¬ isKey t.data.toList ((s.drop n).take m)):=Lib.hid (fun m h1 h2=>by
      rcases Nat.lt_or_ge k m with h|h
      ·exact hno.out m h h2
      ·obtain rfl:m=k:=by omega
       rintro ⟨p,hp1,hp2⟩
       rcases HF.out with ⟨_,_,_,e⟩|⟨e,_⟩
       ·cases e
       ·exact e p hp1 (by rw [HKX.out];exact hp2))
     go_wp2_with fail
     go_roundw
     case rel=>exact ⟨k - 1,by go_num,zu4,HW2.out,HN⟩
     case measure=>simp [intOf];omega
   | some rest =>
     dsimp only [fndV]
     have hke:=HKE.out
     rw [hke]
     clear hke
     go_wp2_with fail
     go_ret
     refine ⟨⟨k,⟨by rw [HMM.out];exact hk,.inr ?_,fun m h1 h2=>hno.out m h1 (by rw [← HMM.out];exact h2)⟩,rfl⟩,HW2.out⟩
     rcases HF.out with ⟨p,h1,h2,_⟩|⟨_,e⟩
     ·exact ⟨p,h1,by rw [h2,HKX.out]⟩
     ·cases e
  ·obtain rfl:k=0:=by omega
   go_wp2_with fail
   go_ret
   exact ⟨⟨0,⟨Nat.zero_le _,.inl rfl,fun m h1 h2=>hno.out m h1 (by rw [← HMM.out];exact h2)⟩,rfl⟩,HW.out⟩
theorem nlongest_c (s:List UInt8) (n:Nat) (hs:s.length≤1000000) (hn:n≤s.length) (hz:namesB.size≤1000000) (w:World) (hGl:Glob w) :
  Calls Tryz.prog 122 #[.string (B s),.int .i64 (n:Int)] w fun e w'=>(∃ k:Nat,Lng namesL (s.drop n) k∧e = .returned (.int .i64 (k:Int)))∧Below w.heap.size w w':=by
 have HL:=Lib.hid (fun W (hG:Glob W)=>slongest_c namesB s [] n names_tab hz hs hn W hG)
 have HG:=Lib.hid hGl
 obtain ⟨a,ha⟩:∃ a,B s=a:=⟨_,rfl⟩
 rw [ha] at HL ⊢
 clear ha hs hn hGl hz
 refine calls_of_wp Tryz.func122 rfl ?_
 generalize hN:ByteArray.mk _=N
 have hN2:N=namesB:=hN.symm.trans rfl
 clear hN
 subst hN2
 simp only [Tryz.ntmps122,List.size_toArray,List.length_cons,List.length_nil,Nat.reduceAdd,Nat.reduceSub,Array.replicate_succ,Array.replicate_zero,List.push_toArray,List.append_toArray,List.nil_append,List.cons_append]
 go_wp2_with fail
 refine (HL.out _ HG.out).mono ?_
 rintro e w' ⟨⟨k,hk,rfl⟩,hb⟩
 have HK:=Lib.hid hk
 clear hk
 go_wp2_with fail
 go_ret
 exact ⟨⟨k,HK.out,rfl⟩,hb⟩
end Hand
end

section
namespace Hand
open Go.RowKit Pl
def LowAt (s:ByteArray) (b k:Nat) (W:World):Prop :=
 ∀ j (hj:j<s.size),W.cell? ⟨b,j,none⟩=some (.int .u8 (((if j<k then lowB s[j] else s[j]).toNat:Nat):Int))∧W.frozen? ⟨b,j,none⟩=false
theorem LowAt.set {s:ByteArray} {b k:Nat} {W:World} (h:LowAt s b k W) (hk:k<s.size):LowAt s b (k+1) (W.setCell ⟨b,k,none⟩ (.int .u8 ((lowB s[k]).toNat:Int))):=by
 intro j hj
 rw [World.frozen?_setCell]
 refine ⟨?_,(h j hj).2⟩
 by_cases e:j=k
 ·subst e
  rw [World.cell?_setCell_same _ _ _ (h j hj).1,if_pos zu4]
 ·rw [World.cell?_setCell_other _ _ _ _ (by intro h';injection h' with _ h2 _;exact e h2.symm),(h j hj).1]
  by_cases h1:j<k
  ·rw [if_pos h1,if_pos zu4]
  ·rw [if_neg h1,if_neg zu4]
theorem LowAt.next {s:ByteArray} {b k:Nat} {W:World} (h:LowAt s b k W) (hk:k<s.size) (hc:lowB s[k]=s[k]):LowAt s b (k+1) W:=by
 intro j hj
 refine ⟨?_,(h j hj).2⟩
 rw [(h j hj).1]
 by_cases e:j=k
 ·subst e
  rw [if_neg zu4,if_pos zu4,hc]
 ·by_cases h1:j<k
  ·rw [if_pos h1,if_pos zu4]
  ·rw [if_neg h1,if_neg zu4]
theorem lowB_or (c:UInt8) (h1:65≤c.toNat) (h2:c.toNat≤90):bits .or .u8 (c.toNat:Int) 32=((lowB c).toNat:Int):=by
 have key:∀ n:Fin 26,bits .or .u8 ((65+n.val:Nat):Int) 32=((65+n.val+32:Nat):Int):=by decide
 have hl:(lowB c).toNat=c.toNat+32:=by
  unfold lowB
  rw [if_pos ⟨by rw [UInt8.le_iff_toNat_le];exact h1,by rw [UInt8.le_iff_toNat_le];exact h2⟩,UInt8.toNat_add]
  show (c.toNat+32) % 256=_
  omega
 have:=key ⟨c.toNat - 65,zu4⟩
 rw [show 65+(c.toNat - 65)=c.toNat from by omega] at this
 rw [this,hl]
theorem lowB_id (c:UInt8) (h:c.toNat<65∨90<c.toNat):lowB c=c:=by
 unfold lowB
 rw [if_neg]
 rintro ⟨a,b⟩
 rw [UInt8.le_iff_toNat_le] at a b
 have:(65:UInt8).toNat=65:=rfl
 have:(90:UInt8).toNat=90:=rfl
 omega
def lowBA (s:ByteArray):ByteArray:=⟨(lowL s.data.toList).toArray⟩
theorem below_bytesWorld (w:World) (e:TypeId) (s:ByteArray):Below w.heap.size w (Lib.bytesWorld w e s) :=
 ⟨zu43,zu43,zu43,by rw [Lib.bytesWorld_size];omega,fun j hj=>Lib.bytesWorld_at_old w e s j hj⟩
theorem lower_any (s:ByteArray) (w:World) (hs:s.size≤1000000000) :
  Calls Tryz.prog 107 #[.string s] w fun e w'=>e = .returned (.string (lowBA s))∧Below w.heap.size w w':=by
 have hconv:=Lib.run_convert_string_bytes (P:=Tryz.prog) w 9 22 5 s Tryz.underlying9 Tryz.underlying22 Tryz.underlying5
 have hL:LowAt s w.heap.size 0 (Lib.bytesWorld w 5 s):=by
  intro j hj
  refine ⟨?_,?_⟩
  ·rw [Lib.bytesWorld_cell w 5 s j hj,if_neg zu4]
   have:s.data.toList.getD j 0=s[j]:=by
    rw [List.getD_eq_getElem?_getD,List.getElem?_eq_getElem (by simpa using hj)];rfl
   rw [this]
  ·have h1:=Lib.bytesWorld_at_new w 5 s
   have h2:s.size≤(Lib.bytesCells w 5 s).size:=by simp [Lib.bytesCells]
   unfold World.frozen?
   rw [h1]
   simp
   omega
 have hb0:=below_bytesWorld w 5 s
 generalize Lib.bytesWorld w 5 s=W0 at hconv hL hb0
 generalize grownCap w s.size 0 5=cap at hconv
 have HL:=Lib.hid hL
 have HB0:=Lib.hid hb0
 clear hL hb0
 go_enter Tryz.func107,Tryz.ntmps107
 go_wp2
 clear hconv
 go_loopw [10] (fun t wr => ∃ k:Nat,k≤s.size∧t = .int .i64 k∧Below w.heap.size w wr∧LowAt s w.heap.size k wr) (fun t _=>s.size - (intOf t).toNat)
 case atStart=>exact ⟨0,zu4,rfl,HB0.out,HL.out⟩
 case round =>
  obtain ⟨k,hk,rfl,hb,hL⟩:=hrel
  by_cases hlt:k<s.size
  ·have hc:=(hL k hlt).1
   rw [if_neg zu4] at hc
   have hf:=(hL k hlt).2
   have HL2:=Lib.hid hL
   have HB:=Lib.hid hb
   clear hL hb
   by_cases h1:65≤s[k].toNat
   ·by_cases h2:s[k].toNat≤90
    ·have e1:decide ((65:Int)≤(s[k].toNat:Int))=true:=by simp;omega
     have e2:decide ((s[k].toNat:Int)≤90)=true:=by simp;omega
     have hor:=lowB_or s[k] h1 h2
     go_wp2
     go_roundw
     case rel=>exact ⟨k+1,zu4,by go_num,HB.out.setCell (Nat.le_refl _) _,by first|exact HL2.out.set hlt | (rw [hor];exact HL2.out.set hlt)⟩
     case measure=>simp [intOf];omega
    ·have e1:decide ((65:Int)≤(s[k].toNat:Int))=true:=by simp;omega
     have e2:decide ((s[k].toNat:Int)≤90)=false:=by simp;omega
     have hn:=HL2.out.next hlt (lowB_id _ (.inr zu4))
     have HN:=Lib.hid hn
     clear hn
     go_wp2
     go_roundw
     case rel=>exact ⟨k+1,zu4,by go_num,HB.out,HN.out⟩
     case measure=>simp [intOf];omega
   ·have e1:decide ((65:Int)≤(s[k].toNat:Int))=false:=by simp;omega
    have hn:=HL2.out.next hlt (lowB_id _ (.inl zu4))
    have HN:=Lib.hid hn
    clear hn
    go_wp2
    go_roundw
    case rel=>exact ⟨k+1,zu4,by go_num,HB.out,HN.out⟩
    case measure=>simp [intOf];omega
  ·obtain rfl:k=s.size:=by omega
   have hlen:(lowL s.data.toList).length=s.size:=by simp [lowL]
   have hback:=run_convert_bytes_back (P:=Tryz.prog) wr 22 9 5 ⟨w.heap.size,0,none⟩ cap (lowL s.data.toList) Tryz.underlying22 Tryz.underlying5 Tryz.underlying9 (fun j hj=>by
    have hj':j<s.size:=by omega
    have:=(hL j hj').1
    rw [if_pos zu4] at this
    have ha:(⟨w.heap.size,0,none⟩:Addr).add j=⟨w.heap.size,j,none⟩:=by unfold Addr.add;split<;>simp_all
    rw [ha,this]
    congr 3
    simp [lowL]
    rfl)
   rw [hlen] at hback
   have HB:=Lib.hid hb
   clear hL hb
   go_wp2
   go_ret
   exact ⟨rfl,HB.out⟩
def sign_Lower.f (a0:ByteArray):Option ByteArray:=if a0.size≤1000000000 then some (lowBA a0) else none
theorem sign_Lower.calls (a0 r:ByteArray) (w:World) (h:sign_Lower.f a0=some r) :
  Calls Tryz.prog 107 #[.string a0] w fun e w'=>e = .returned (.string r)∧Below w.heap.size w w':=by
 unfold sign_Lower.f at h
 split at h
 ·obtain rfl:=Option.some.inj h
  exact lower_any a0 w ‹_›
 ·cases h
end Hand
end

section
namespace Pl
open Go
def fW (n:Nat):Nat:=if n=0 then 0 else (n.log2+1022)*2 ^ 52+n*2 ^ (52 - n.log2)
def Rep (m:Nat) (p:Int) (n:Nat):Prop := ∃ K:Nat,0≤p+K∧m*2 ^ (p+K).toNat=n*2 ^ K
theorem Rep.at {m:Nat} {p:Int} {n:Nat} (h:Rep m p n) (J:Nat) (hJ:0≤p+J):m*2 ^ (p+J).toNat=n*2 ^ J:=by
 obtain ⟨K,hK,h⟩:=h
 rcases Nat.le_total K J with hl|hl
 ·obtain ⟨d,rfl⟩:=Nat.exists_eq_add_of_le hl
  rw [show (p+((K+d:Nat):Int)).toNat=(p+K).toNat+d by omega,Nat.pow_add,Nat.pow_add,← Nat.mul_assoc,← Nat.mul_assoc,h]
 ·obtain ⟨d,rfl⟩:=Nat.exists_eq_add_of_le hl
  rw [show (p+((J+d:Nat):Int)).toNat=(p+J).toNat+d by omega,Nat.pow_add,Nat.pow_add,← Nat.mul_assoc,← Nat.mul_assoc] at h
  exact Nat.eq_of_mul_eq_mul_right (Nat.two_pow_pos d) h
theorem Rep.zero {m:Nat} {p:Int} {n:Nat} (h:Rep m p n):m=0↔n=0:=by
 obtain ⟨K,hK,h⟩:=h
 constructor
 ·rintro rfl
  rw [Nat.zero_mul] at h
  rcases Nat.mul_eq_zero.1 h.symm with h|h
  ·exact h
  ·exact absurd h (Nat.ne_of_gt (Nat.two_pow_pos K))
 ·rintro rfl
  rw [Nat.zero_mul] at h
  rcases Nat.mul_eq_zero.1 h with h|h
  ·exact h
  ·exact absurd h (Nat.ne_of_gt (Nat.two_pow_pos _))
theorem log2_mul_pow (n k:Nat) (h:n≠0):(n*2 ^ k).log2=n.log2+k:=by
 have h1:n*2 ^ k≠0:=Nat.mul_ne_zero h (Nat.ne_of_gt (Nat.two_pow_pos k))
 rw [Nat.log2_eq_iff h1]
 have h2:=(Nat.log2_eq_iff h (k:=n.log2)).1 rfl
 rw [Nat.pow_add,show n.log2+k+1=(n.log2+1)+k by omega,Nat.pow_add]
 exact ⟨Nat.mul_le_mul_right _ h2.1,Nat.mul_lt_mul_of_pos_right h2.2 (Nat.two_pow_pos k)⟩
theorem Rep.log {m:Nat} {p:Int} {n:Nat} (h:Rep m p n) (hn:n≠0):(m.log2:Int)+p=n.log2:=by
 have hm:m≠0:=fun e=>hn (h.zero.1 e)
 obtain ⟨K,hK,h⟩:=h
 have:=congrArg Nat.log2 h
 rw [log2_mul_pow _ _ hm,log2_mul_pow _ _ hn] at this
 omega
theorem cut_zero (n:Nat):Ieee.Toward.even.cut false n 0=n:=by
 unfold Ieee.Toward.cut
 simp [Nat.mod_one]
theorem cut_exact (a d:Nat) (h:d≤(a*2 ^ d).log2+2):Ieee.Toward.even.cut false (a*2 ^ d) d=a:=by
 unfold Ieee.Toward.cut
 have hg:1 <<< min d ((a*2 ^ d).log2+2)=2 ^ d:=by rw [Nat.min_eq_left h,Nat.one_shiftLeft]
 have h0:(0 == 2 ^ d)=false:=by rw [beq_eq_false_iff_ne];exact Nat.ne_of_lt (Nat.two_pow_pos d)
 have hp:=Nat.two_pow_pos d
 have h1:(2 ^ d == 0)=false:=by rw [beq_eq_false_iff_ne];omega
 simp only [hg,Nat.mul_div_cancel _ hp,Nat.mul_mod_left,Nat.mul_zero,h1,Bool.false_and,Bool.or_false,show ¬ 2 ^ d<0 by omega,decide_false]
 rfl
theorem log2_lt {n k:Nat} (h:n≠0) (hk:n<2 ^ k):n.log2<k:=(Nat.log2_lt h).2 hk
theorem nearest_rep {m:Nat} {p:Int} {n:Nat} (h:Rep m p n) (hn:n<2 ^ 53):Ieee.double.nearest false m p=fW n:=by
 unfold Ieee.Format.nearest fW
 by_cases h0:n=0
 ·rw [if_pos (h.zero.2 h0),if_pos h0];rfl
 rw [if_neg (fun e=>h0 (h.zero.1 e)),if_neg h0]
 have hl:=h.log h0
 have h53:=log2_lt h0 hn
 have hlast:max (p+(m.log2:Int) - (Ieee.double.fractionBits:Int)) Ieee.double.leastPlace=(n.log2:Int) - 52:=by
  have e1:(Ieee.double.fractionBits:Int)=52:=rfl
  have e2:Ieee.double.leastPlace = -1074:=by decide
  rw [e1,e2]
  omega
 simp only [hlast]
 have hkept:Ieee.Toward.even.cut false (m <<< (p - ((n.log2:Int) - 52)).toNat) (((n.log2:Int) - 52) - p).toNat=n*2 ^ (52 - n.log2):=by
  rcases Int.lt_or_le p ((n.log2:Int) - 52) with hlt|hge
  ·obtain ⟨d,hd⟩:∃ d:Nat,((n.log2:Int) - 52) - p=d:=⟨_,(Int.toNat_of_nonneg zu4).symm⟩
   rw [hd,show (p - ((n.log2:Int) - 52)).toNat=0 by omega,Nat.shiftLeft_zero,Int.toNat_natCast]
   have hr:=h.at ((52 - n.log2)+d) zu4
   rw [show (p+(((52 - n.log2)+d:Nat):Int)).toNat=0 by omega,Nat.pow_zero,Nat.mul_one,Nat.pow_add,← Nat.mul_assoc] at hr
   have hml:m.log2=52+d:=by omega
   rw [hr] at hml ⊢
   exact cut_exact _ _ zu4
  ·rw [show (((n.log2:Int) - 52) - p).toNat=0 by omega,cut_zero,Nat.shiftLeft_eq]
   have hr:=h.at (52 - n.log2) zu4
   rw [← hr]
   congr 2
   omega
 rw [hkept]
 have hb:Ieee.double.binade=2 ^ 52:=rfl
 have hi:Ieee.double.infRung=2047*2 ^ 52:=by decide
 have hp:n*2 ^ (52 - n.log2)<2 ^ 53:=by
  have:=(Nat.log2_eq_iff h0 (k:=n.log2)).1 rfl
  calc n*2 ^ (52 - n.log2)<2 ^ (n.log2+1)*2 ^ (52 - n.log2):=Nat.mul_lt_mul_of_pos_right this.2 (Nat.two_pow_pos _)
   _=2 ^ 53:=by rw [← Nat.pow_add];congr 1;omega
 unfold Ieee.Format.word
 rw [hb,hi,show (((n.log2:Int) - 52) - Ieee.double.leastPlace).toNat=n.log2+1022 by rw [show Ieee.double.leastPlace = -1074 by decide];omega,Nat.min_eq_left zu4]
 rfl
set_option exponentiation.threshold 2000 in
theorem read_fW (n:Nat) (hn:n<2 ^ 53):∃ m p,Ieee.double.read (fW n) = .number false m p∧Rep m p n:=by
 unfold fW
 by_cases h0:n=0
 ·subst h0
  exact ⟨0,-1074,zu15,1074,zu15,by rw [Nat.zero_mul,Nat.zero_mul]⟩
 ·rw [if_neg h0]
  have h53:=log2_lt h0 hn
  have h2:=(Nat.log2_eq_iff h0 (k:=n.log2)).1 rfl
  have hlo:2 ^ 52≤n*2 ^ (52 - n.log2):=by
   calc 2 ^ 52=2 ^ n.log2*2 ^ (52 - n.log2):=by rw [← Nat.pow_add];congr 1;omega
    _≤n*2 ^ (52 - n.log2):=Nat.mul_le_mul_right _ h2.1
  have hhi:n*2 ^ (52 - n.log2)<2 ^ 53:=by
   calc n*2 ^ (52 - n.log2)<2 ^ (n.log2+1)*2 ^ (52 - n.log2):=Nat.mul_lt_mul_of_pos_right h2.2 (Nat.two_pow_pos _)
    _=2 ^ 53:=by rw [← Nat.pow_add];congr 1;omega
  refine ⟨n*2 ^ (52 - n.log2),(n.log2:Int) - 52,?_,52 - n.log2,zu4,by rw [show ((n.log2:Int) - 52+((52 - n.log2:Nat):Int)).toNat=0 by omega,Nat.pow_zero,Nat.mul_one]⟩
  obtain ⟨M,hM⟩:∃ M,n*2 ^ (52 - n.log2)=M:=⟨_,rfl⟩
  obtain ⟨l,hl⟩:∃ l,n.log2=l:=⟨_,rfl⟩
  rw [hM] at hlo hhi ⊢
  rw [hl] at h53 ⊢
  have hb:Ieee.double.binade=4503599627370496:=by decide
  have hi:Ieee.double.infRung=9218868437227405312:=by decide
  have hs:Ieee.double.signWeight=9223372036854775808:=by decide
  have hp:Ieee.double.leastPlace = -1074:=by decide
  unfold Ieee.Format.read
  rw [hb,hi,hs,hp]
  have e1:((l+1022)*2 ^ 52+M) / 9223372036854775808=0:=by omega
  have e2:((l+1022)*2 ^ 52+M) % 9223372036854775808=(l+1022)*4503599627370496+M:=by omega
  have e3:((l+1022)*4503599627370496+M) % 4503599627370496=M - 4503599627370496:=by omega
  have e4:((l+1022)*4503599627370496+M) / 4503599627370496=l+1023:=by omega
  simp only [e1,e2]
  rw [if_neg zu4,if_pos zu4,e3,e4]
  have e5:4503599627370496+(M - 4503599627370496)=M:=by omega
  have e6:(-1074:Int)+((l+1023 - 1:Nat):Int)=(l:Int) - 52:=by omega
  rw [e5,e6]
  rfl
theorem write_rep {m:Nat} {p:Int} {n:Nat} (h:Rep m p n) (hn:n<2 ^ 53):Ieee.double.write (.number false m p)=fW n:=nearest_rep h hn
theorem Rep.mul {m m':Nat} {p p':Int} {n n':Nat} (h:Rep m p n) (h':Rep m' p' n'):Rep (m*m') (p+p') (n*n'):=by
 obtain ⟨K,hK,h⟩:=h
 obtain ⟨J,hJ,h'⟩:=h'
 refine ⟨K+J,zu4,?_⟩
 rw [show (p+p'+((K+J:Nat):Int)).toNat=(p+K).toNat+(p'+J).toNat by omega,Nat.pow_add,Nat.pow_add]
 calc m*m'*(2 ^ (p+K).toNat*2 ^ (p'+J).toNat)=(m*2 ^ (p+K).toNat)*(m'*2 ^ (p'+J).toNat):=by
       rw [Nat.mul_mul_mul_comm]
  _=n*n'*(2 ^ K*2 ^ J):=by rw [h,h',Nat.mul_mul_mul_comm]
theorem Rep.shift {m:Nat} {p:Int} {n:Nat} (h:Rep m p n) (b:Int) (hb:b≤p):Rep (m <<< (p - b).toNat) b n:=by
 obtain ⟨K,hK,h⟩:=h
 refine ⟨K+(p - b).toNat+(b.natAbs),zu4,?_⟩
 have:=Rep.at ⟨K,hK,h⟩ (K+(p - b).toNat+b.natAbs) zu4
 rw [← this,Nat.shiftLeft_eq,Nat.mul_assoc,← Nat.pow_add]
 congr 2
 omega
theorem Rep.add {m m':Nat} {p:Int} {n n':Nat} (h:Rep m p n) (h':Rep m' p n'):Rep (m+m') p (n+n'):=by
 obtain ⟨K,hK,h⟩:=h
 exact ⟨K,hK,by rw [Nat.add_mul,h,Rep.at h' K hK,Nat.add_mul]⟩
theorem fW_mul (a b:Nat) (h:a*b<2 ^ 53) (ha:a<2 ^ 53) (hb:b<2 ^ 53):floatBits .mul .f64 (fW a) (fW b)=some (fW (a*b)):=by
 obtain ⟨m,p,e,r⟩:=read_fW a ha
 obtain ⟨m',p',e',r'⟩:=read_fW b hb
 show ((Ieee.double.read (fW a)).product (Ieee.double.read (fW b))).map Ieee.double.write=_
 rw [e,e']
 show some (Ieee.double.write (.number (false ^^ false) (m*m') (p+p')))=_
 rw [show (false ^^ false)=false from rfl,write_rep (r.mul r') h]
theorem fW_add (a b:Nat) (h:a+b<2 ^ 53):floatBits .add .f64 (fW a) (fW b)=some (fW (a+b)):=by
 obtain ⟨m,p,e,r⟩:=read_fW a zu4
 obtain ⟨m',p',e',r'⟩:=read_fW b zu4
 show ((Ieee.double.read (fW a)).sum (Ieee.double.read (fW b))).map Ieee.double.write=_
 rw [e,e']
 have s1:=r.shift (min p p') zu4
 have s2:=r'.shift (min p p') zu4
 have s3:=s1.add s2
 obtain ⟨X,hX⟩:∃ X,m <<< (p - min p p').toNat=X:=⟨_,rfl⟩
 obtain ⟨Y,hY⟩:∃ Y,m' <<< (p' - min p p').toNat=Y:=⟨_,rfl⟩
 have e3:(Ieee.Datum.number false m p).sum (.number false m' p')=some (.number false (X+Y) (min p p')):=by
  unfold Ieee.Datum.sum Ieee.signed
  simp only [hX,hY,Bool.false_eq_true,if_false]
  rw [show (((X:Nat):Int)+((Y:Nat):Int)).natAbs=X+Y by omega]
  split
  ·rfl
  ·rw [decide_eq_false zu4]
 rw [hX,hY] at s3
 rw [e3]
 show some (Ieee.double.write (.number false (X+Y) (min p p')))=_
 rw [write_rep s3 h]
theorem fW_order (a b:Nat) (ha:a<2 ^ 53) (hb:b<2 ^ 53):Ieee.double.order (fW a) (fW b)=some (compare a b):=by
 obtain ⟨m,p,e,r⟩:=read_fW a ha
 obtain ⟨m',p',e',r'⟩:=read_fW b hb
 unfold Ieee.Format.order
 rw [e,e']
 have s1:=r.shift (min p p') zu4
 have s2:=r'.shift (min p p') zu4
 obtain ⟨X,hX⟩:∃ X,m <<< (p - min p p').toNat=X:=⟨_,rfl⟩
 obtain ⟨Y,hY⟩:∃ Y,m' <<< (p' - min p p').toNat=Y:=⟨_,rfl⟩
 rw [hX] at s1
 rw [hY] at s2
 have e3:(Ieee.Datum.number false m p).order (.number false m' p')=some (compare (X:Int) (Y:Int)):=by
  unfold Ieee.Datum.order Ieee.signed
  simp only [hX,hY,Bool.false_eq_true,if_false]
 rw [e3]
 congr 1
 have t1:=s1.at (min p p').natAbs zu4
 have t2:=s2.at (min p p').natAbs zu4
 have hp1:=Nat.two_pow_pos (min p p'+((min p p').natAbs:Int)).toNat
 have hp2:=Nat.two_pow_pos (min p p').natAbs
 rcases Nat.lt_trichotomy a b with hlt|heq|hgt
 ·have:X<Y:=Nat.lt_of_mul_lt_mul_right (by rw [t1,t2];exact Nat.mul_lt_mul_of_pos_right hlt hp2)
  rw [Int.compare_eq_lt.2 zu4,Nat.compare_eq_lt.2 hlt]
 ·have:X=Y:=Nat.eq_of_mul_eq_mul_right hp1 (by rw [t1,t2,heq])
  rw [Int.compare_eq_eq.2 zu4,Nat.compare_eq_eq.2 heq]
 ·have:Y<X:=Nat.lt_of_mul_lt_mul_right (by rw [t1,t2];exact Nat.mul_lt_mul_of_pos_right hgt hp2)
  rw [Int.compare_eq_gt.2 zu4,Nat.compare_eq_gt.2 hgt]
theorem fW_ofInt (n:Nat) (hn:n<2 ^ 53):floatOfInt .f64 (n:Int)=fW n:=by
 show Ieee.double.write (.number (decide ((n:Int)<0)) (n:Int).natAbs 0)=_
 rw [decide_eq_false zu4,Int.natAbs_natCast,write_rep ⟨0,zu15,zu19⟩ hn]
theorem cut_way_exact (a d:Nat) (h:a≠0→d≤(a*2 ^ d).log2+2):Ieee.Toward.zero.cut false (a*2 ^ d) d=a:=by
 unfold Ieee.Toward.cut
 by_cases h0:a=0
 ·subst h0;simp
 ·have hg:1 <<< min d ((a*2 ^ d).log2+2)=2 ^ d:=by rw [Nat.min_eq_left (h h0),Nat.one_shiftLeft]
  simp only [hg,Nat.mul_div_cancel _ (Nat.two_pow_pos d)]
  rfl
theorem fW_toInt (n:Nat) (hn:n<2 ^ 53):floatToIntVal .f64 (fW n) .i64=some (n:Int):=by
 obtain ⟨m,p,e,r⟩:=read_fW n hn
 have hI:(Ieee.double.read (fW n)).toInt .zero=some (n:Int):=by
  rw [e]
  unfold Ieee.Datum.toInt Ieee.Datum.integral
  have:Ieee.Toward.zero.cut false (m <<< p.toNat) (-p).toNat=n:=by
   rcases Int.lt_or_le p 0 with hlt|hge
   ·obtain ⟨d,hd⟩:∃ d:Nat,-p=d:=⟨_,(Int.toNat_of_nonneg zu4).symm⟩
    have hr:=r.at d zu4
    rw [show (p+(d:Int)).toNat=0 by omega,Nat.pow_zero,Nat.mul_one] at hr
    rw [show p.toNat=0 by omega,Nat.shiftLeft_zero,hd,Int.toNat_natCast,hr]
    refine cut_way_exact n d fun h0 => ?_
    rw [log2_mul_pow _ _ h0];omega
   ·have hr:=r.at 0 zu4
    rw [show (p+((0:Nat):Int)).toNat=p.toNat by omega,Nat.pow_zero,Nat.mul_one] at hr
    rw [Nat.shiftLeft_eq,hr,show (-p).toNat=0 by omega]
    have:=cut_way_exact n 0 (fun _=>by omega)
    simpa using this
  simp only [this]
  show some (Ieee.signed false n 0)=_
  unfold Ieee.signed
  simp
 unfold floatToIntVal
 show (match (Ieee.double.read (fW n)).toInt .zero with|some n=>if IntKind.i64.min≤n∧n≤IntKind.i64.max then some n else none|none=>none)=_
 rw [hI]
 have e1:IntKind.i64.min = -9223372036854775808:=by decide
 have e2:IntKind.i64.max=9223372036854775807:=by decide
 simp only [e1,e2]
 rw [if_pos zu4]
end Pl
end

section
namespace Pl
open Go
def hexV (c:UInt8):Int:=if 48≤c.toNat∧c.toNat≤57 then c.toNat - 48 else if 65≤c.toNat∧c.toNat≤70 then c.toNat - 55 else if 97≤c.toNat∧c.toNat≤102 then c.toNat - 87 else -1
theorem hexV_bound (c:UInt8) : -1≤hexV c∧hexV c≤15:=by unfold hexV;split<;>(try split)<;>(try split)<;>omega
def valR (base:Nat):Nat→List UInt8→Option Nat
 | n,[]=>some n
 | n,c::r=>if hexV c<0∨(base:Int)≤hexV c then none else valR base (min (n*base+(hexV c).toNat) 1114112) r
def valM:Option Nat→Int
 | none => -1
 | some n=>n
def valL (base:Nat) (s:List UInt8):Int:=if s=[] then -1 else valM (valR base 0 s)
theorem valR_le (base:Nat):∀ (s:List UInt8) (n m:Nat),n≤1114112→valR base n s=some m→m≤1114112:=by
 intro s
 induction s with
 | nil=>intro n m h e;cases e;exact h
 | cons c r ih =>
   intro n m h e
   rw [valR] at e
   split at e
   ·cases e
   ·exact ih _ m (Nat.min_le_right _ _) e
theorem valL_bound (base:Nat) (s:List UInt8) : -1≤valL base s∧valL base s≤1114112:=by
 unfold valL
 split
 ·omega
 ·cases h:valR base 0 s with
  | none=>exact ⟨zu15,zu15⟩
  | some n =>
    have:=valR_le base s 0 n zu4 h
    show -1≤(n:Int)∧(n:Int)≤1114112
    omega
theorem fW_0:fW 0=0:=by decide
theorem fW_1:fW 1=4607182418800017408:=by decide
theorem fW_10:fW 10=4621819117588971520:=by decide
theorem fW_16:fW 16=4625196817309499392:=by decide
theorem fW_beyond:fW 1114112=4697535886324137984:=by decide
theorem fneg:floatOfInt .f64 (-1)=13830554455654793216:=by decide
theorem ord_lt {a b:Nat} (ha:a<2 ^ 53) (hb:b<2 ^ 53):(FloatKind.f64.format.order (fW a) (fW b) == some Ordering.lt)=decide (a<b):=by
 rw [show FloatKind.f64.format.order (fW a) (fW b)=some (compare a b) from fW_order a b ha hb]
 rcases Nat.lt_trichotomy a b with h|h|h
 ·rw [Nat.compare_eq_lt.2 h,decide_eq_true h];rfl
 ·rw [Nat.compare_eq_eq.2 h,decide_eq_false zu4];rfl
 ·rw [Nat.compare_eq_gt.2 h,decide_eq_false zu4];rfl
theorem ord_gt {a b:Nat} (ha:a<2 ^ 53) (hb:b<2 ^ 53):(FloatKind.f64.format.order (fW a) (fW b) == some Ordering.gt)=decide (b<a):=by
 rw [show FloatKind.f64.format.order (fW a) (fW b)=some (compare a b) from fW_order a b ha hb]
 rcases Nat.lt_trichotomy a b with h|h|h
 ·rw [Nat.compare_eq_lt.2 h,decide_eq_false zu4];rfl
 ·rw [Nat.compare_eq_eq.2 h,decide_eq_false zu4];rfl
 ·rw [Nat.compare_eq_gt.2 h,decide_eq_true h];rfl
theorem ord_eq {a b:Nat} (ha:a<2 ^ 53) (hb:b<2 ^ 53):(FloatKind.f64.format.order (fW a) (fW b) == some Ordering.eq)=decide (a=b):=by
 rw [show FloatKind.f64.format.order (fW a) (fW b)=some (compare a b) from fW_order a b ha hb]
 rcases Nat.lt_trichotomy a b with h|h|h
 ·rw [Nat.compare_eq_lt.2 h,decide_eq_false zu4];rfl
 ·rw [Nat.compare_eq_eq.2 h,decide_eq_true h];rfl
 ·rw [Nat.compare_eq_gt.2 h,decide_eq_false zu4];rfl
theorem run_min_float {P:Program} (ts:Array TypeId) (t:TypeId) (a b:Nat) (ha:a<2 ^ 53) (hb:b<2 ^ 53) (w:World) :
  (Builtin.min_ ts t #[.float .f64 (fW a),.float .f64 (fW b)]).run P w = .ok (.float .f64 (fW (min a b))) w:=by
 have ho:FloatKind.f64.format.order (fW a) (fW b)=some (compare a b):=fW_order a b ha hb
 have hm:Builtin.min_ ts t #[.float .f64 (fW a),.float .f64 (fW b)]=Builtin.min2 (.float .f64 (fW a)) (.float .f64 (fW b)):=by
  simp [Builtin.min_,List.foldlM]
 rw [hm]
 unfold Builtin.min2
 simp only [ho]
 rcases Nat.lt_trichotomy a b with h|h|h
 ·rw [Nat.compare_eq_lt.2 h,Nat.min_eq_left zu4];rfl
 ·subst h;rw [Nat.compare_eq_eq.2 rfl,Nat.min_self];simp
 ·rw [Nat.compare_eq_gt.2 h,Nat.min_eq_right zu4];rfl
end Pl
end

section
namespace Hand
open Go Go.RowKit Pl Pb
def hexN (n:Nat):List UInt8→Nat
 | []=>n
 | c::r=>hexN (16*n+(hexV c).toNat) r
theorem hexU_cases {c:UInt8} (h:isHexU c=true):(48≤c.toNat∧c.toNat≤57)∨(65≤c.toNat∧c.toNat≤70):=by
 unfold isHexU at h
 simpa using h
theorem iparse_c (s:ByteArray) (hx:∀ c∈s.data.toList,isHexU c=true) (h1:1≤s.size) (h8:s.size≤8) (w:World) :
  Calls Tryz.prog 200 #[.string s,.int .i64 16,.int .i64 32] w fun e w'=>e = .returned (.tuple #[.int .u64 (hexN 0 s.data.toList:Nat),.nilIface])∧Below w.heap.size w w':=by
 have he:(s.toList == [])=false:=by
  obtain ⟨l,rfl⟩:=exists_B s
  rw [toList_B,beq_eq_false_iff_ne]
  rintro rfl
  exact absurd h1 zu15
 have hconv:=Lib.run_convert_string_bytes (P:=Tryz.prog) w 9 22 5 s Tryz.underlying9 Tryz.underlying22 Tryz.underlying5
 have hcell:∀ j (hj:j<s.size),(Lib.bytesWorld w 5 s).cell? ⟨w.heap.size,j,none⟩=some (.int .u8 ((s[j].toNat:Nat):Int)):=fun j hj=>by
  rw [Lib.bytesWorld_cell w 5 s j hj]
  have:s.data.toList.getD j 0=s[j]:=by
   rw [List.getD_eq_getElem?_getD,List.getElem?_eq_getElem (by simpa using hj)];rfl
  rw [this]
 have hb0:=below_bytesWorld w 5 s
 generalize Lib.bytesWorld w 5 s=W0 at hconv hcell hb0
 generalize grownCap w s.size 0 5=cap at hconv
 have HC:=Lib.hid hcell
 have HB0:=Lib.hid hb0
 have HX:=Lib.hid hx
 clear hcell hb0 hx
 go_enter Tryz.func200,Tryz.ntmps200
 obtain ⟨R,hR⟩:∃ R,hexN 0 s.data.toList=R:=⟨_,rfl⟩
 rw [hR]
 have HR:Hid (hexN 0 (s.data.toList.drop 0)=R):=Lib.hid hR
 clear hR
 go_wp2_with fail
 clear hconv
 go_loop [12,13,101] (fun u v i => ∃ (k:Nat) (a:Int),u = .bool false∧v = .int .u64 a∧i = .int .i64 (k:Int)∧k≤s.size∧Hid (0≤a∧a<((16 ^ k:Nat):Int)∧hexN a.toNat (s.data.toList.drop k)=R)) (fun _ _ i=>s.size - (intOf i).toNat)
 case atStart=>exact ⟨0,0,rfl,rfl,rfl,Nat.zero_le _,Lib.hid ⟨zu15,zu15,HR.out⟩⟩
 case round =>
  obtain ⟨k,a,rfl,rfl,rfl,hk,hh⟩:=hrel
  obtain ⟨a0,ha,hV⟩:=hh.out
  clear hh
  by_cases hlt:k<s.size
  ·have hck:=HC.out k hlt
   have hd:=drop_cons s k hlt
   have hu:=HX.out s[k] (List.mem_of_mem_drop (i:=k) (by rw [hd];simp))
   have a1:a≤268435455:=by
    have:16 ^ k≤16 ^ 7:=Nat.pow_le_pow_right zu15 zu4
    have e:(16:Nat) ^ 7=268435456:=by decide
    omega
   have HM:Hid (∀ d:Int,0≤d→d<16→a*16+d<((16 ^ (k+1):Nat):Int)):=Lib.hid (fun d h0 h1=>by rw [Nat.pow_succ];omega)
   rw [hd,hexN] at hV
   have hu2:=hexU_cases hu
   obtain ⟨v,hv⟩:∃ v,hexV s[k]=v:=⟨_,rfl⟩
   have hv2:(48≤s[k].toNat∧s[k].toNat≤57→v=s[k].toNat - 48)∧(65≤s[k].toNat∧s[k].toNat≤70→v=s[k].toNat - 55):=by
    rw [← hv];unfold hexV
    constructor
    ·intro h;rw [if_pos h]
    ·intro h;rw [if_neg zu4,if_pos h]
   rw [hv] at hV
   generalize s[k]=c at hck hu2 hv2
   clear hd hu hv ha
   by_cases hdig:48≤c.toNat∧c.toNat≤57
   ·obtain rfl:=hv2.1 hdig
    obtain ⟨hd0,hd1⟩:=hdig
    have HN:Hid (0≤a*16+((c.toNat:Int) - 48)∧a*16+((c.toNat:Int) - 48)<((16 ^ (k+1):Nat):Int)∧hexN (a*16+((c.toNat:Int) - 48)).toNat (s.data.toList.drop (k+1))=R):=Lib.hid ⟨zu4,HM.out _ zu4 zu4,by rw [← hV];congr 1;omega⟩
    have iov:a*16+((c.toNat:Int) - 48)≤4294967295:=by omega
    clear hV hu2 hv2
    go_wp2_with fail
    exact ⟨⟨k+1,_,rfl,rfl,by first|rfl | (congr 1;omega),zu4,HN⟩,by simp [intOf];omega⟩
   ·have hl:65≤c.toNat∧c.toNat≤70:=by omega
    obtain rfl:=hv2.2 hl
    obtain ⟨hd0,hd1⟩:=hl
    have hor:bits .or .u8 (c.toNat:Int) 32=(c.toNat:Int)+32:=by
     rcases (show c.toNat=65∨c.toNat=66∨c.toNat=67∨c.toNat=68∨c.toNat=69∨c.toNat=70 by omega) with h|h|h|h|h|h<;>rw [h]<;>decide
    have F:Hid (∀ W,Calls Tryz.prog 209 #[.int .u8 (c.toNat:Int)] W fun e w'=>e = .returned (.int .u8 ((c.toNat:Int)+32))∧w'=W):=Lib.hid (fun W=>by
     have:=Tryz.internal_strconv_lower (c.toNat:Int) W
     rw [hor] at this
     exact this)
    have HN:Hid (0≤a*16+((c.toNat:Int) - 55)∧a*16+((c.toNat:Int) - 55)<((16 ^ (k+1):Nat):Int)∧hexN (a*16+((c.toNat:Int) - 55)).toNat (s.data.toList.drop (k+1))=R):=Lib.hid ⟨zu4,HM.out _ zu4 zu4,by rw [← hV];congr 1;omega⟩
    have iov:a*16+((c.toNat:Int) - 55)≤4294967295:=by omega
    clear hV hu2 hv2 hor hdig
    go_wp2_with fail
    refine (F.out _).mono ?_
    rintro e w1 ⟨rfl,rfl⟩
    go_wp2_with fail
    refine (F.out _).mono ?_
    rintro e w1 ⟨rfl,rfl⟩
    go_wp2_with fail
    refine (F.out _).mono ?_
    rintro e w1 ⟨rfl,rfl⟩
    go_wp2_with fail
    refine ⟨⟨k+1,a*16+((c.toNat:Int) - 55),rfl,?_,by first|rfl | (congr 1;omega),zu4,HN⟩,by simp [intOf];omega⟩
    first|rfl | (congr 1;omega)
  ·obtain rfl:k=s.size:=by omega
   rw [List.drop_eq_nil_of_le (by rw [Array.length_toList];show s.size≤s.size;omega),hexN] at hV
   obtain rfl:a=(R:Int):=by omega
   have HE:=Lib.hid (show hexN 0 s.data.toList=R from HR.out)
   clear hV ha a0
   go_wp2_with fail
   go_ret2
   exact ⟨rfl,HB0.out⟩
end Hand
end

end Go.Proofs.YtclkdmmgibgamaaGreatDoor
section
namespace Go.Proofs.YtclkdmmgibgamaaGreatDoorW.PrintLast
section
variable {P : Program} {ops : Array Oper} {Q : Exit → Act → World → Prop} {md : Region.Mode} {S : World → Prop} {ds : List Nat}
end
section
variable {P : Program} {ops : Array Oper} {Q : Exit → Act → World → Prop} {md : Region.Mode} {S : World → Prop} {ds : List Nat}
theorem enters_ {f:FuncId} {fn:Func} (hf:P.funcs[f]? = some fn) (hname:(fn.name == "runtime.NumGoroutine")=false) (hb:fn.body.isSome=true) (args:Array Value) (w:World):(callFunc f args).run P w = .ok (.enter f args) w:=by
 have h1:fn.name ≠ "runtime.NumGoroutine" := by simpa using hname
 obtain ⟨c,hc⟩:=Option.isSome_iff_exists.1 hb
 simp [callFunc,hf,h1,hc]
theorem goesL_ {rest:List Oper} {oi:Oper} {a:Act} {w:World} (N:Option Tmp) (hd:oi.dst=N) (hg:oi.guard=none) {f:FuncId} {fn:Func} {as_:Array Operand} {ts:Array TypeId} (hf:P.funcs[f]? = some fn) (hname:(fn.name == "runtime.NumGoroutine")=false) (hb:fn.body.isSome=true) (args:Array Value)
  (hop:oi.op = .call { callee:=.value (.func f),args:=as_,argTypes:=ts }) (hargs:as_.map a.eval=args)
  (h:Calls P f args w fun e w' => ∃ v,e = .returned v∧wpList P ops Q rest (a.put N v) w'):wpList P ops Q (oi::rest) a w:=by
 refine wpList_plain hg fun K hK => ?_
 have he:=enters_ hf hname hb args w
 have hrun:(execOp a.eval oi).run P w = .ok (.enter f args) w:=by
  unfold execOp
  simp [hop,resolve,Deferred.ofValue,invoke,Act.eval,hargs,he]
 unfold Oper.wp
 rw [hrun,Oper.upon_enter]
 refine h.mono fun e w'' hh => ?_
 obtain ⟨v,rfl,hk⟩:=hh
 subst hd
 exact hK _ _ hk
theorem i64_w (n:Int):IntKind.i64.wrap n=Go.RowKit.wrap64 n:=by unfold Go.RowKit.wrap64;exact IntKind.wrap_i64 n
theorem i32_w (n:Int):IntKind.i32.wrap n=Go.RowKit.wrap32 n:=by unfold Go.RowKit.wrap32;exact IntKind.wrap_i32 n
end
end Go.Proofs.YtclkdmmgibgamaaGreatDoorW.PrintLast
end

section
namespace Go.Proofs.YtclkdmmgibgamaaGreatDoorW.PrintWords
open Go.RowKit
namespace Kd
def tag {α:Type} (f:Nat→Nat) (d:Kd α):Kd (α×Nat) where
 sz:=d.sz
 E:=d.E
 K:=fun w x cs=>d.K w x.1 cs
 M:=fun w base ok x cs=>d.M w base (fun k=>ok k∧f k=x.2) x.1 cs
 K_len:=fun h=>d.K_len h
 K_one:=fun h=>d.K_one h
 K_below:=fun hb h=>d.K_below hb h
 K_of_M:=fun h=>d.K_of_M h
 M_mono:=fun hok h=>d.M_mono (fun k hk=>⟨hok k hk.1,hk.2⟩) h
 M_bound:=fun h=>d.M_mono (fun _ hk=>⟨⟨hk.1.1,hk.2⟩,hk.1.2⟩) (d.M_bound h)
 M_move:=fun hm h=>d.M_move (fun k hk=>hm k hk.1) h
 M_lower:=fun hb h=>d.M_lower hb h
def raw (sz:Nat):Kd (List Value) where
 sz:=sz
 E:=[]
 K:=fun _ x cs=>cs=x∧cs.length=sz∧∀ u∈cs,u.oneCell'=true
 M:=fun _ _ _ x cs=>cs=x∧cs.length=sz∧∀ u∈cs,u.oneCell'=true
 K_len:=fun h=>h.2.1
 K_one:=fun h=>h.2.2
 K_below:=fun _ h=>h
 K_of_M:=fun h=>h
 M_mono:=fun _ h=>h
 M_bound:=fun h=>h
 M_move:=fun _ h=>h
 M_lower:=fun _ h=>h
def S {α:Type} (d:Kd α) (e:Nat) (w:World) (base:Nat) (ok:Nat→Prop) (v:Value) (xs:List α):Prop := ∃ f,(tag f d).R e w base ok v xs.zipIdx
section
variable {α β : Type} {d : Kd α} {d' : Kd β} {e e' : Nat} {w w1 W : World} {base b : Nat} {ok ok' okv oku : Nat → Prop} {u v : Value} {xs : List α} {ys : List β}
theorem zip_at {xs:List α} {j:Nat} {p:α} (h:xs[j]? = some p):xs.zipIdx[j]? = some (p,j):=by rw [List.getElem?_zipIdx,h,Nat.zero_add];rfl
theorem S_R (h:S d e w base ok v xs):d.R e w base ok v xs:=by
 obtain ⟨f,h0,inner,ho,hr⟩:=h
 rw [List.length_zipIdx] at ho
 exact ⟨h0,inner,ho,by have:=hr.1;rw [List.length_zipIdx] at this;exact this,fun j p hj=>d.M_mono (fun _ hk=>hk.1) (hr.2 j (p,j) (zip_at hj))⟩
theorem R_tight (hE:d.E=[]) (h:d.R e w base ok v xs):d.R e w base (fun k=>some k=v.ownBlock) v xs:=by
 obtain ⟨h0,inner,ho,hr⟩:=h
 refine ⟨fun k hk=>hk.symm,inner,ho,hr.imp_ (fun p c hp=>d.M_mono (fun k hk => ?_) (d.M_bound hp))⟩
 obtain ⟨_,_,_,q,hq,_⟩:=hk
 rw [hE] at hq
 cases hq
theorem S_nil (d:Kd α) (e:Nat) (w:World) (base:Nat) (ok:Nat→Prop):S d e w base ok (.slice none 0 0) []:=⟨fun _=>0,R_nil _ _ _ _ _⟩
theorem S_mono (h:S d e w base ok v xs) (hok:∀ k,ok k→ok' k):S d e w base ok' v xs:=by
 obtain ⟨f,h⟩:=h
 exact ⟨f,R_mono h hok⟩
theorem S_bound (h:S d e w base ok v xs):S d e w base (fun k=>ok k∧base≤k∧k<w.heap.size∧∃ q,q∈e::d.E∧∃ cells,w.heap[k]? = some (.cells cells q (0,0))) v xs:=by
 obtain ⟨f,h⟩:=h
 exact ⟨f,R_bound h⟩
theorem S_move (h:S d e w base ok v xs) (hm:∀ k,ok k→w1.heap[k]? = w.heap[k]?):S d e w1 base ok v xs:=by
 obtain ⟨f,h⟩:=h
 exact ⟨f,R_move h hm⟩
theorem S_step (h:S d e w base ok v xs) (hm:∀ k,ok k→k<w.heap.size→w1.heap[k]? = w.heap[k]?):S d e w1 base ok v xs :=
 S_mono (S_move (S_bound h) (fun k hk=>hm k hk.1 hk.2.2.1)) (fun _ hk=>hk.1)
theorem S_below (h:S d e w base ok v xs) (hb:Below w.heap.size w w1):S d e w1 base ok v xs:=S_step h (fun k _ hk=>hb.block k hk)
theorem S_alloc (h:S d e w base ok v xs) (o:Obj):S d e (w.alloc o) base ok v xs:=S_below h (below_alloc (Below.refl _ _) o)
theorem S_drew (h:S d e w base ok v xs):S d e w.drew base ok v xs:=S_below h (below_drew (Below.refl _ _))
theorem S_drewN (h:S d e w base ok v xs) (m:Nat):S d e (w.drewN m) base ok v xs:=S_below h (pw_below_drewN (Below.refl _ _) m)
theorem S_far (h:S d e w base ok v xs) {p:Addr} (hok:∀ k,ok k→k≠p.block) (u:Value):S d e (w.setCell p u) base ok v xs:=S_step h (fun k ho _=>Below.heap_setCell w p u k (hok k ho))
theorem S_typed (h:S d e w base ok v xs):∀ k,v.ownBlock=some k→∃ cells,w.heap[k]? = some (.cells cells e (0,0)):=R_typed (S_R h)
theorem S_elder' (h:S d e W base ok u xs) (hbase:∀ k,v.ownBlock=some k→W.heap.size≤k) (hb:Below W.heap.size W w1):S d e w1 base (fun k=>ok k∧some k≠v.ownBlock) u xs:=by
 obtain ⟨f,h⟩:=h
 exact ⟨f,R_elder' h hbase hb⟩
theorem R_tag {f f':Nat→Nat} {zs:List (α×Nat)} (h:(tag f d).R e w base ok v zs) (hf:∀ k,ok k→k<w.heap.size→f' k=f k):(tag f' d).R e w base ok v zs:=by
 obtain ⟨h0,inner,ho,hr⟩:=R_bound h
 exact ⟨fun k hk=>(h0 k hk).1,inner,ho,hr.1,fun j p hj=>d.M_mono (fun k hk=>⟨⟨hk.1.1.1,hk.1.2⟩,(hf k hk.1.1.1 hk.1.1.2.2.1).trans hk.2⟩) (hr.2 j p hj)⟩
end
section
variable {α β : Type} {d : Kd α} {d' : Kd β} {e e' g : Nat} {w w1 W : World} {base b : Nat} {ok ok' okv oku : Nat → Prop} {u v : Value} {xs : List α} {ys : List β}
theorem S_away (h:S d e w base ok v xs) (hok:∀ k,ok k→k≠g):some g≠v.ownBlock:=R_away (S_R h) hok
theorem S_elderB (h:S d e w base ok v xs) (a:Nat) (ha:w.heap.size≤a):S d e w base (fun k=>ok k∧k≠a) v xs:=S_mono (S_bound h) (fun k hk=>⟨hk.1,by have:=hk.2.2.1;omega⟩)
theorem zip_snoc (xs:List α) (p:α):(xs++[p]).zipIdx=xs.zipIdx++[(p,xs.length)]:=by rw [List.zipIdx_append];simp
end
section
open Classical in
theorem S_tag {α:Type} {d:Kd α} {e base:Nat} {okv:Nat→Prop} {w:World} {v:Value} {xs:List α} (h:S d e w base okv v xs) (m:Nat) (okp:Nat→Prop) (hap:∀ k,okp k→¬ okv k):∃ f,(∀ k,okp k→f k=m)∧(tag f d).R e w base okv v xs.zipIdx:=by
 obtain ⟨f,h⟩:=h
 exact ⟨fun k=>if okp k then m else f k,fun k hk=>if_pos hk,R_tag h (fun k hk _=>if_neg (fun h2=>hap k h2 hk))⟩
variable {P : Program} {ops : Array Oper} {rest : List Oper} {o : Oper} {a : Act} {Q : Exit → Act → World → Prop} {Kc : Act → World → Prop} {α : Type}
theorem S_append (d:Kd α) {w0 W:World} (base:Nat) (hgd:o.guard=none) (s x:Operand) (t e:TypeId) (z:Value) (bytes:Nat)
  (ho:o.op = .call { callee:=.builtin .append,args := #[s,x],argTypes := #[t,t] })
  (ht:P.underlying t=some (.slice e)) (hinfo:(P.info? e).map (fun i=>(i.zero,i.size,i.bytes))=some (some z,d.sz,bytes)) (hz:z.cells.size=d.sz) (hs0:0<d.sz) (hb0:0<bytes)
  (v:Value) (xs:List α) (p:α) (cs:List Value) (ok okp:Nat→Prop) (hs:a.eval s=v) (hx:a.eval x = .slice (some ⟨W.heap.size,0,none⟩) 1 1) (hp:d.M W base okp p cs) (hokp:∀ k,okp k→ok k∧some k≠v.ownBlock) (hfresh:∀ k,W.heap.size≤k→ok k)
  (HO:S d e W base (fun k=>ok k∧¬ okp k) v xs) (HB:Below base w0 W) (hbase:base≤W.heap.size) (hl:(xs.length+1)*bytes≤140737488355328)
  (h:∀ v1 w1,S d e w1 base ok v1 (xs++[p])→Below base w0 w1→W.grownBy w1 v.ownBlock→(v1.ownBlock=v.ownBlock∨∃ b,v1.ownBlock=some b∧W.heap.size≤b)→wpList P ops Q rest (a.put o.dst v1) w1) :
  wpList P ops Q (o::rest) a (W.alloc (.cells cs.toArray e)):=by
 obtain ⟨f,hf,hR⟩:=S_tag HO xs.length okp (fun _ hk h2=>h2.2 hk)
 refine R_append (tag f d) base hgd s x t e z bytes ho ht hinfo hz hs0 hb0 v xs.zipIdx (p,xs.length) cs ok okp hs hx (d.M_mono (fun k hk=>⟨hk,hf k hk⟩) hp) hokp hfresh (R_mono hR (fun _ hk=>hk.1)) HB hbase (by rw [List.length_zipIdx];exact hl) ?_
 intro v1 w1 hr
 rw [← zip_snoc] at hr
 exact h v1 w1 ⟨f,hr⟩
end
section
variable {α β : Type} {d : Kd α} {e e' g n cap : Nat} {w w1 W : World} {base : Nat} {ok ok' oki okp : Nat → Prop} {u v : Value} {xs : List α} {i : Int} {c : List Value}
end
section
variable {P : Program} {ops : Array Oper} {rest : List Oper} {o : Oper} {a : Act} {Q : Exit → Act → World → Prop} {α : Type}
end
end Kd
end Go.Proofs.YtclkdmmgibgamaaGreatDoorW.PrintWords
end

section
namespace Go.Proofs.YtclkdmmgibgamaaGreatDoorW.PrintWords
open Go.RowKit
def Foot (P:World→Prop) (W:World) (ok:Nat→Prop):Prop := ∀ W':World,(∀ k,ok k→k<W.heap.size→W'.heap[k]? = W.heap[k]?)→P W'
theorem heap_lt {W W1:World} {k:Nat} (h:W1.heap[k]? = W.heap[k]?) (hlt:k<W.heap.size):k<W1.heap.size:=by
 rw [Array.getElem?_eq_getElem hlt] at h
 exact (Array.getElem?_eq_some_iff.1 h).1
namespace Foot
variable {P Q : World → Prop} {W W1 : World} {ok ok' : Nat → Prop}
theorem now (h:Foot P W ok):P W:=h W (fun _ _ _=>rfl)
theorem mono (h:Foot P W ok) (hok:∀ k,ok k→ok' k):Foot P W ok':=fun W' hW=>h W' (fun k hk hlt=>hW k (hok k hk) hlt)
theorem bound (h:Foot P W ok):Foot P W (fun k=>ok k∧k<W.heap.size):=fun W' hW=>h W' (fun k hk hlt=>hW k ⟨hk,hlt⟩ hlt)
theorem step (h:Foot P W ok) (hm:∀ k,ok k→k<W.heap.size→W1.heap[k]? = W.heap[k]?):Foot P W1 ok:=fun W' hW=>h W' (fun k hk hlt=>(hW k hk (heap_lt (hm k hk hlt) hlt)).trans (hm k hk hlt))
end Foot
namespace Kd
def F {α:Type} (d:Kd α) (W:World) (ok:Nat→Prop) (A:Option Addr) (n:Nat) (xs:List α):Prop:=Foot (fun W=>d.C W A n xs) W ok
def FK {α:Type} (d:Kd α) (W:World) (ok:Nat→Prop) (x:α) (c:List Value):Prop:=Foot (fun W=>d.K W x c) W ok
section
variable {α β : Type} {d : Kd α} {e base n n' cc g N : Nat} {ok ok' okp S : Nat → Prop} {w w0 w1 W W1 : World} {A A' : Option Addr} {u v v1 : Value} {xs : List α} {xs' : List β} {d' : Kd β} {x : α} {c : List Value}
theorem F_now (h:F d W ok A n xs):d.C W A n xs:=Foot.now h
theorem F_mono (h:F d W ok A n xs) (hok:∀ k,ok k→ok' k):F d W ok' A n xs:=Foot.mono h hok
theorem F_bound (h:F d W ok A n xs):F d W (fun k=>ok k∧k<W.heap.size) A n xs:=Foot.bound h
theorem F_step (h:F d W ok A n xs) (hm:∀ k,ok k→k<W.heap.size→W1.heap[k]? = W.heap[k]?):F d W1 ok A n xs:=Foot.step h hm
theorem F_below (h:F d W ok A n xs) (hb:Below W.heap.size W W1):F d W1 ok A n xs:=F_step h (fun k _ hlt=>hb.block k hlt)
theorem F_alloc (h:F d W ok A n xs) (o:Obj):F d (W.alloc o) ok A n xs:=F_below h (below_alloc (Below.refl _ _) o)
theorem F_drew (h:F d W ok A n xs):F d W.drew ok A n xs:=F_below h (below_drew (Below.refl _ _))
theorem F_drewN (h:F d W ok A n xs) (m:Nat):F d (W.drewN m) ok A n xs:=F_below h (pw_below_drewN (Below.refl _ _) m)
theorem F_grown (h:F d W ok A n xs) {row:Option Nat} (hg:W.grownBy W1 row) (hok:∀ k,ok k→some k≠row):F d W1 ok A n xs:=F_step h (fun k hk hlt=>hg.block k hlt (hok k hk))
theorem R_F (h:d.R e W base ok (.slice A n cc) xs):F d W ok A n xs:=fun W' hW=>by
 have h2:=R_reads' (R_step h hW)
 rw [h2.1]
 exact h2.2.2
theorem FK_now (h:FK d W ok x c):d.K W x c:=Foot.now h
theorem FK_mono (h:FK d W ok x c) (hok:∀ k,ok k→ok' k):FK d W ok' x c:=Foot.mono h hok
theorem FK_bound (h:FK d W ok x c):FK d W (fun k=>ok k∧k<W.heap.size) x c:=Foot.bound h
theorem FK_step (h:FK d W ok x c) (hm:∀ k,ok k→k<W.heap.size→W1.heap[k]? = W.heap[k]?):FK d W1 ok x c:=Foot.step h hm
theorem FK_of_M (h:d.M W base ok x c):FK d W ok x c:=fun _ hW=>d.K_of_M (M_step h hW)
theorem emptied (W:World) (g:Nat):∃ W':World,(∀ k,k≠g→W'.heap[k]? = W.heap[k]?)∧∀ a:Addr,a.block=g→W'.cell? a=none:=by
 refine ⟨{ W with heap:=W.heap.setIfInBounds g (.cells #[] 0) },fun k hk=>by simp [Ne.symm hk],fun a ha => ?_⟩
 subst ha
 by_cases hlt:a.block<W.heap.size
 ·simp [World.cell?,hlt]
 ·simp [World.cell?,hlt]
end
end Kd
end Go.Proofs.YtclkdmmgibgamaaGreatDoorW.PrintWords
end
