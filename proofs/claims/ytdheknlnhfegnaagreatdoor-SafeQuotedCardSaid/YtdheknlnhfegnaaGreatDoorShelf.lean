/-
  The shelf's contracts at this seat's program, as plain text (written by a program of this session over the kit's laying tools): each is one application of a proved contract of the library.
-/
import Derived.Shelf.Strings.Builder1
import Derived.Shelf.Strings.Builder2
import Derived.Shelf.Small.Strs
import Derived.Shelf.Small.Wraps
import Derived.Shelf.Strings.BuilderF
import Derived.Shelf.Strings.BuilderK
import Derived.Shelf.Utf8.RuneCount
import Derived.Shelf.Strconv.Itoa0
import Derived.Shelf.Strconv.Itoa1
import Derived.Shelf.LaysM
import Derived.Shelf.Strconv.Itoa2
import Derived.Shelf.Strconv.Itoa3
import Derived.Shelf.Strconv.Clone
import Derived.Shelf.Strconv.SyntaxError
import Derived.Shelf.LaysC
import Derived.Shelf.Strconv.ToError
import Derived.Shelf.Strconv.Lower
import Derived.Shelf.Strconv.ParseUintEmpty
import Derived.Shelf.Strings.Search1
import Derived.Shelf.Strings.Search2
import Derived.Shelf.Strings.Search3
import Derived.Shelf.Strings.Cut
import Derived.Shelf.Strings.Count
import Derived.Shelf.Strings.Shaped
import Derived.Shelf.Strings.LastIndex
import Derived.Shelf.Strings.Prefix
import Derived.Shelf.Strings.Split
import Derived.Shelf.Strings.Replace
import Derived.Shelf.Strings.SplitShaped
import Derived.Shelf.Unicode.Decode
import Derived.Shelf.Strings.RuneCount
import Derived.Shelf.Unicode.DecodeSlow
import Derived.Shelf.Unicode.DecodeAny
import Derived.Test.YtdheknlnhfegnaaGreatDoorProg
namespace Go.Proofs
open Go.Shelf
def Tryz.lays240_ren : Go.Shelf.Ren := ⟨fun | 99 => 36 | 100 => 81 | 104 => 113 | 129 => 171 | 137 => 31 | 138 => 68 | 143 => 41 | 144 => 21 | 145 => 79 | 149 => 117 | 154 => 46 | 155 => 30 | 165 => 69 | 166 => 32 | 167 => 40 | 169 => 33 | 171 => 141 | 195 => 97 | 197 => 70 | 205 => 140 | 206 => 57 | 207 => 105 | 211 => 124 | 217 => 47 | 218 => 98 | 219 => 67 | 220 => 103 | 222 => 126 | 224 => 95 | 225 => 94 | 240 => 48 | 241 => 99 | 243 => 148 | 245 => 119 | 246 => 158 | 260 => 100 | 266 => 71 | 267 => 96 | 276 => 72 | 277 => 116 | 279 => 129 | 280 => 130 | 281 => 131 | 282 => 132 | 283 => 166 | 284 => 167 | 285 => 168 | 286 => 169 | 287 => 118 | 314 => 115 | 316 => 139 | 317 => 170 | 318 => 172 | 319 => 173 | 320 => 174 | 321 => 127 | 322 => 128 | 337 => 175 | 338 => 176 | n => n, fun | 21 => 21 | 24 => 49 | 37 => 55 | 46 => 113 | 51 => 123 | 53 => 117 | 59 => 98 | 70 => 54 | 72 => 57 | 75 => 60 | 76 => 61 | 80 => 63 | 105 => 90 | 119 => 148 | 127 => 76 | 138 => 150 | 139 => 151 | 143 => 194 | 145 => 196 | 146 => 145 | 164 => 92 | 167 => 158 | 168 => 160 | 171 => 211 | 173 => 214 | 210 => 178 | 212 => 217 | 213 => 218 | 232 => 221 | 233 => 222 | n => n, fun | n => n⟩
theorem Tryz.lays240 : Go.Proofs.Lays.n240 Tryz.prog Tryz.lays240_ren := {
  mixed := by kernel_rfl
  f240 := Tryz.func48.trans (congrArg some (by kernel_rfl))
  f276 := Tryz.func72.trans (congrArg some (by kernel_rfl))
  t0 := Tryz.underlying0
  a0 := Tryz.isAgg0
  z0 := Tryz.sizeOf0
  v0 := Tryz.zeroValue0
  t4 := Tryz.underlying4
  a4 := Tryz.isAgg4
  z4 := Tryz.sizeOf4
  v4 := Tryz.zeroValue4
  t9 := Tryz.underlying9
  a9 := Tryz.isAgg9
  z9 := Tryz.sizeOf9
  v9 := Tryz.zeroValue9
  t20 := Tryz.underlying20
  a20 := Tryz.isAgg20
  z20 := Tryz.sizeOf20
  v20 := Tryz.zeroValue20
  t70 := Tryz.underlying54
  a70 := Tryz.isAgg54
  z70 := Tryz.sizeOf54
  v70 := Tryz.zeroValue54
  t72 := Tryz.underlying57
  a72 := Tryz.isAgg57
  z72 := Tryz.sizeOf57
  v72 := Tryz.zeroValue57
  t164 := Tryz.underlying92
  a164 := Tryz.isAgg92
  z164 := Tryz.sizeOf92
  v164 := Tryz.zeroValue92 }
theorem Tryz.Builder_X72_240 : Builder.X72 Tryz.prog Tryz.lays240_ren := {
  sizeBuilder := by kernel_rfl
  liesBuilder := by kernel_rfl }
open Go.RowKit in
theorem Tryz.Builder_copyCheck (B b : Nat) (bs : List Value) (w : World) (h : Lib.IsBuilder 57 5 B b bs w) :
    Calls Tryz.prog 48 #[.pointer (some ⟨b, 0, none⟩)] w fun e w' => e = .returned (.tuple #[]) ∧ (Lib.BuilderAt 57 5 B b (.pointer (some ⟨b, 0, none⟩)) bs w' ∧ Below B w w') := Any.Builder_copyCheck Tryz.lays240 Tryz.Builder_X72_240 B b bs w h
def Tryz.lays167_ren : Go.Shelf.Ren := ⟨fun | 99 => 36 | 100 => 81 | 104 => 113 | 129 => 171 | 137 => 31 | 138 => 68 | 143 => 41 | 144 => 21 | 145 => 79 | 149 => 117 | 154 => 46 | 155 => 30 | 165 => 69 | 166 => 32 | 167 => 40 | 169 => 33 | 171 => 141 | 195 => 97 | 197 => 70 | 205 => 140 | 206 => 57 | 207 => 105 | 211 => 124 | 217 => 47 | 218 => 98 | 219 => 67 | 220 => 103 | 222 => 126 | 224 => 95 | 225 => 94 | 240 => 48 | 241 => 99 | 243 => 148 | 245 => 119 | 246 => 158 | 260 => 100 | 266 => 71 | 267 => 96 | 276 => 72 | 277 => 116 | 279 => 129 | 280 => 130 | 281 => 131 | 282 => 132 | 283 => 166 | 284 => 167 | 285 => 168 | 286 => 169 | 287 => 118 | 314 => 115 | 316 => 139 | 317 => 170 | 318 => 172 | 319 => 173 | 320 => 174 | 321 => 127 | 322 => 128 | 337 => 175 | 338 => 176 | n => n, fun | 21 => 21 | 24 => 49 | 37 => 55 | 46 => 113 | 51 => 123 | 53 => 117 | 59 => 98 | 70 => 54 | 72 => 57 | 75 => 60 | 76 => 61 | 80 => 63 | 105 => 90 | 119 => 148 | 127 => 76 | 138 => 150 | 139 => 151 | 143 => 194 | 145 => 196 | 146 => 145 | 164 => 92 | 167 => 158 | 168 => 160 | 171 => 211 | 173 => 214 | 210 => 178 | 212 => 217 | 213 => 218 | 232 => 221 | 233 => 222 | n => n, fun | n => n⟩
theorem Tryz.lays167 : Go.Proofs.Lays.n167 Tryz.prog Tryz.lays167_ren := {
  mixed := by kernel_rfl
  f167 := Tryz.func40.trans (congrArg some (by kernel_rfl))
  f240 := Tryz.func48.trans (congrArg some (by kernel_rfl))
  f276 := Tryz.func72.trans (congrArg some (by kernel_rfl))
  t0 := Tryz.underlying0
  a0 := Tryz.isAgg0
  z0 := Tryz.sizeOf0
  v0 := Tryz.zeroValue0
  t4 := Tryz.underlying4
  a4 := Tryz.isAgg4
  z4 := Tryz.sizeOf4
  v4 := Tryz.zeroValue4
  t5 := Tryz.underlying5
  a5 := Tryz.isAgg5
  z5 := Tryz.sizeOf5
  v5 := Tryz.zeroValue5
  t9 := Tryz.underlying9
  a9 := Tryz.isAgg9
  z9 := Tryz.sizeOf9
  v9 := Tryz.zeroValue9
  t20 := Tryz.underlying20
  a20 := Tryz.isAgg20
  z20 := Tryz.sizeOf20
  v20 := Tryz.zeroValue20
  t37 := Tryz.underlying55
  a37 := Tryz.isAgg55
  z37 := Tryz.sizeOf55
  v37 := Tryz.zeroValue55
  t70 := Tryz.underlying54
  a70 := Tryz.isAgg54
  z70 := Tryz.sizeOf54
  v70 := Tryz.zeroValue54
  t72 := Tryz.underlying57
  a72 := Tryz.isAgg57
  z72 := Tryz.sizeOf57
  v72 := Tryz.zeroValue57
  t75 := Tryz.underlying60
  a75 := Tryz.isAgg60
  z75 := Tryz.sizeOf60
  v75 := Tryz.zeroValue60
  t164 := Tryz.underlying92
  a164 := Tryz.isAgg92
  z164 := Tryz.sizeOf92
  v164 := Tryz.zeroValue92 }
theorem Tryz.Builder_Extra_167 : Builder.Extra Tryz.prog Tryz.lays167_ren := {
  sizeBuilder := by kernel_rfl
  liesBuilder := by kernel_rfl
  t5 := Tryz.underlying5
  a5 := Tryz.isAgg5
  z5 := Tryz.sizeOf5
  v5 := Tryz.zeroValue5
  infoByte := by kernel_rfl
  cellsByte := by kernel_rfl
  sizeByte := by kernel_rfl
  neB5 := by decide }
open Go.RowKit in
theorem Tryz.Builder_WriteByte (B b : Nat) (bs : List Value) (c : Int) (w : World) (h : Lib.IsBuilder 57 5 B b bs w) (hlen : bs.length + 1 ≤ 140737488355328) (hBw : B ≤ w.heap.size) :
    Calls Tryz.prog 40 #[.pointer (some ⟨b, 0, none⟩), .int .u8 c] w fun e w' => e = .returned .nilIface ∧ (Lib.BuilderAt 57 5 B b (.pointer (some ⟨b, 0, none⟩)) (bs ++ [.int .u8 c]) w' ∧ Below B w w') := Any.Builder_WriteByte Tryz.lays167 Tryz.Builder_Extra_167 B b bs c w h hlen hBw
def Tryz.lays166_ren : Go.Shelf.Ren := ⟨fun | 99 => 36 | 100 => 81 | 104 => 113 | 129 => 171 | 137 => 31 | 138 => 68 | 143 => 41 | 144 => 21 | 145 => 79 | 149 => 117 | 154 => 46 | 155 => 30 | 165 => 69 | 166 => 32 | 167 => 40 | 169 => 33 | 171 => 141 | 195 => 97 | 197 => 70 | 205 => 140 | 206 => 57 | 207 => 105 | 211 => 124 | 217 => 47 | 218 => 98 | 219 => 67 | 220 => 103 | 222 => 126 | 224 => 95 | 225 => 94 | 240 => 48 | 241 => 99 | 243 => 148 | 245 => 119 | 246 => 158 | 260 => 100 | 266 => 71 | 267 => 96 | 276 => 72 | 277 => 116 | 279 => 129 | 280 => 130 | 281 => 131 | 282 => 132 | 283 => 166 | 284 => 167 | 285 => 168 | 286 => 169 | 287 => 118 | 314 => 115 | 316 => 139 | 317 => 170 | 318 => 172 | 319 => 173 | 320 => 174 | 321 => 127 | 322 => 128 | 337 => 175 | 338 => 176 | n => n, fun | 21 => 21 | 24 => 49 | 37 => 55 | 46 => 113 | 51 => 123 | 53 => 117 | 59 => 98 | 70 => 54 | 72 => 57 | 75 => 60 | 76 => 61 | 80 => 63 | 105 => 90 | 119 => 148 | 127 => 76 | 138 => 150 | 139 => 151 | 143 => 194 | 145 => 196 | 146 => 145 | 164 => 92 | 167 => 158 | 168 => 160 | 171 => 211 | 173 => 214 | 210 => 178 | 212 => 217 | 213 => 218 | 232 => 221 | 233 => 222 | n => n, fun | n => n⟩
theorem Tryz.lays166 : Go.Proofs.Lays.n166 Tryz.prog Tryz.lays166_ren := {
  mixed := by kernel_rfl
  f166 := Tryz.func32.trans (congrArg some (by kernel_rfl))
  f240 := Tryz.func48.trans (congrArg some (by kernel_rfl))
  f276 := Tryz.func72.trans (congrArg some (by kernel_rfl))
  t0 := Tryz.underlying0
  a0 := Tryz.isAgg0
  z0 := Tryz.sizeOf0
  v0 := Tryz.zeroValue0
  t3 := Tryz.underlying3
  a3 := Tryz.isAgg3
  z3 := Tryz.sizeOf3
  v3 := Tryz.zeroValue3
  t4 := Tryz.underlying4
  a4 := Tryz.isAgg4
  z4 := Tryz.sizeOf4
  v4 := Tryz.zeroValue4
  t9 := Tryz.underlying9
  a9 := Tryz.isAgg9
  z9 := Tryz.sizeOf9
  v9 := Tryz.zeroValue9
  t20 := Tryz.underlying20
  a20 := Tryz.isAgg20
  z20 := Tryz.sizeOf20
  v20 := Tryz.zeroValue20
  t37 := Tryz.underlying55
  a37 := Tryz.isAgg55
  z37 := Tryz.sizeOf55
  v37 := Tryz.zeroValue55
  t70 := Tryz.underlying54
  a70 := Tryz.isAgg54
  z70 := Tryz.sizeOf54
  v70 := Tryz.zeroValue54
  t72 := Tryz.underlying57
  a72 := Tryz.isAgg57
  z72 := Tryz.sizeOf57
  v72 := Tryz.zeroValue57
  t75 := Tryz.underlying60
  a75 := Tryz.isAgg60
  z75 := Tryz.sizeOf60
  v75 := Tryz.zeroValue60
  t164 := Tryz.underlying92
  a164 := Tryz.isAgg92
  z164 := Tryz.sizeOf92
  v164 := Tryz.zeroValue92 }
theorem Tryz.Builder_Extra_166 : Builder.Extra Tryz.prog Tryz.lays166_ren := {
  sizeBuilder := by kernel_rfl
  liesBuilder := by kernel_rfl
  t5 := Tryz.underlying5
  a5 := Tryz.isAgg5
  z5 := Tryz.sizeOf5
  v5 := Tryz.zeroValue5
  infoByte := by kernel_rfl
  cellsByte := by kernel_rfl
  sizeByte := by kernel_rfl
  neB5 := by decide }
open Go.RowKit in
theorem Tryz.Builder_WriteString (B b : Nat) (bs : List Value) (s : ByteArray) (w : World) (h : Lib.IsBuilder 57 5 B b bs w) (hlen : bs.length + s.size ≤ 140737488355328) (hBw : B ≤ w.heap.size) :
    Calls Tryz.prog 32 #[.pointer (some ⟨b, 0, none⟩), .string s] w fun e w' => e = .returned (.tuple #[.int .i64 s.size, .nilIface]) ∧ (Lib.BuilderAt 57 5 B b (.pointer (some ⟨b, 0, none⟩)) (bs ++ Lib.strCells s) w' ∧ Below B w w') := Any.Builder_WriteString Tryz.lays166 Tryz.Builder_Extra_166 B b bs s w h hlen hBw
def Tryz.lays169_ren : Go.Shelf.Ren := ⟨fun | 169 => 33 | n => n, fun | 70 => 54 | 9 => 9 | 0 => 0 | 72 => 57 | 37 => 55 | 127 => 76 | 3 => 3 | 5 => 5 | n => n, fun | n => n⟩
theorem Tryz.lays169 : Go.Proofs.Lays.n169 Tryz.prog Tryz.lays169_ren := {
  mixed := by kernel_rfl
  f169 := Tryz.func33.trans (congrArg some (by kernel_rfl))
  t0 := Tryz.underlying0
  a0 := Tryz.isAgg0
  z0 := Tryz.sizeOf0
  v0 := Tryz.zeroValue0
  t3 := Tryz.underlying3
  a3 := Tryz.isAgg3
  z3 := Tryz.sizeOf3
  v3 := Tryz.zeroValue3
  t9 := Tryz.underlying9
  a9 := Tryz.isAgg9
  z9 := Tryz.sizeOf9
  v9 := Tryz.zeroValue9
  t37 := Tryz.underlying55
  a37 := Tryz.isAgg55
  z37 := Tryz.sizeOf55
  v37 := Tryz.zeroValue55
  t70 := Tryz.underlying54
  a70 := Tryz.isAgg54
  z70 := Tryz.sizeOf54
  v70 := Tryz.zeroValue54
  t72 := Tryz.underlying57
  a72 := Tryz.isAgg57
  z72 := Tryz.sizeOf57
  v72 := Tryz.zeroValue57
  t127 := Tryz.underlying76
  a127 := Tryz.isAgg76
  z127 := Tryz.sizeOf76
  v127 := Tryz.zeroValue76 }
theorem Tryz.Builder_Extra_169 : Builder.Extra Tryz.prog Tryz.lays169_ren := {
  sizeBuilder := by kernel_rfl
  liesBuilder := by kernel_rfl
  t5 := Tryz.underlying5
  a5 := Tryz.isAgg5
  z5 := Tryz.sizeOf5
  v5 := Tryz.zeroValue5
  infoByte := by kernel_rfl
  cellsByte := by kernel_rfl
  sizeByte := by kernel_rfl
  neB5 := by decide }
open Go.RowKit in
theorem Tryz.Builder_String (B b : Nat) (l : List UInt8) (w : World) (h : Lib.IsBuilder 57 5 B b (Lib.byteCells l) w) (h0 : l ≠ []) :
    Calls Tryz.prog 33 #[.pointer (some ⟨b, 0, none⟩)] w fun e w' => e = .returned (.string ⟨l.toArray⟩) ∧ Below B w w' := Any.Builder_String Tryz.lays169 Tryz.Builder_Extra_169 B b l w h h0
open Go.RowKit in
theorem Tryz.Builder_String_empty (B b : Nat) (w : World) (h : Lib.IsBuilder 57 5 B b [] w) (hBw : B ≤ w.heap.size) :
    Calls Tryz.prog 33 #[.pointer (some ⟨b, 0, none⟩)] w fun e w' => e = .returned (.string ⟨#[]⟩) ∧ Below B w w' := Any.Builder_String_empty Tryz.lays169 Tryz.Builder_Extra_169 B b w h hBw
open Go.RowKit in
theorem Tryz.Builder_String_any (B b : Nat) (l : List UInt8) (w : World) (h : Lib.IsBuilder 57 5 B b (Lib.byteCells l) w) (hBw : B ≤ w.heap.size) :
    Calls Tryz.prog 33 #[.pointer (some ⟨b, 0, none⟩)] w fun e w' => e = .returned (.string ⟨l.toArray⟩) ∧ Below B w w' := Any.Builder_String_any Tryz.lays169 Tryz.Builder_Extra_169 B b l w h hBw
def Tryz.lays241_ren : Go.Shelf.Ren := ⟨fun | 241 => 99 | 277 => 116 | n => n, fun | 70 => 54 | 3 => 3 | 0 => 0 | 72 => 57 | 37 => 55 | 5 => 5 | n => n, fun | n => n⟩
theorem Tryz.lays241 : Go.Proofs.Lays.n241 Tryz.prog Tryz.lays241_ren := {
  mixed := by kernel_rfl
  f241 := Tryz.func99.trans (congrArg some (by kernel_rfl))
  f277 := Tryz.func116.trans (congrArg some (by kernel_rfl))
  t0 := Tryz.underlying0
  a0 := Tryz.isAgg0
  z0 := Tryz.sizeOf0
  v0 := Tryz.zeroValue0
  t3 := Tryz.underlying3
  a3 := Tryz.isAgg3
  z3 := Tryz.sizeOf3
  v3 := Tryz.zeroValue3
  t37 := Tryz.underlying55
  a37 := Tryz.isAgg55
  z37 := Tryz.sizeOf55
  v37 := Tryz.zeroValue55
  t70 := Tryz.underlying54
  a70 := Tryz.isAgg54
  z70 := Tryz.sizeOf54
  v70 := Tryz.zeroValue54
  t72 := Tryz.underlying57
  a72 := Tryz.isAgg57
  z72 := Tryz.sizeOf57
  v72 := Tryz.zeroValue57 }
theorem Tryz.Builder_Extra_241 : Builder.Extra Tryz.prog Tryz.lays241_ren := {
  sizeBuilder := by kernel_rfl
  liesBuilder := by kernel_rfl
  t5 := Tryz.underlying5
  a5 := Tryz.isAgg5
  z5 := Tryz.sizeOf5
  v5 := Tryz.zeroValue5
  infoByte := by kernel_rfl
  cellsByte := by kernel_rfl
  sizeByte := by kernel_rfl
  neB5 := by decide }
open Go.RowKit in
theorem Tryz.Builder_grow_fresh (B b n : Nat) (w : World) (hB : B ≤ b) (hbk : w.heap[b]? = some (.cells #[.pointer (some ⟨b, 0, none⟩), .slice none 0 0] 57 (0, 0))) (hBw : B ≤ w.heap.size) (hn : n ≤ 281474976710656) :
    Calls Tryz.prog 99 #[.pointer (some ⟨b, 0, none⟩), .int .i64 n] w fun e w' => e = .returned (.tuple #[]) ∧ (Lib.BuilderAt 57 5 B b (.pointer (some ⟨b, 0, none⟩)) [] w' ∧ Below B w w') := Any.Builder_grow_fresh Tryz.lays241 Tryz.Builder_Extra_241 B b n w hB hbk hBw hn
def Tryz.lays165_ren : Go.Shelf.Ren := ⟨fun | 165 => 69 | 240 => 48 | 241 => 99 | 276 => 72 | 277 => 116 | n => n, fun | 70 => 54 | 3 => 3 | 0 => 0 | 4 => 4 | 9 => 9 | 20 => 20 | 72 => 57 | 37 => 55 | 164 => 92 | 5 => 5 | n => n, fun | n => n⟩
theorem Tryz.lays165 : Go.Proofs.Lays.n165 Tryz.prog Tryz.lays165_ren := {
  mixed := by kernel_rfl
  f165 := Tryz.func69.trans (congrArg some (by kernel_rfl))
  f240 := Tryz.func48.trans (congrArg some (by kernel_rfl))
  f241 := Tryz.func99.trans (congrArg some (by kernel_rfl))
  f276 := Tryz.func72.trans (congrArg some (by kernel_rfl))
  f277 := Tryz.func116.trans (congrArg some (by kernel_rfl))
  t0 := Tryz.underlying0
  a0 := Tryz.isAgg0
  z0 := Tryz.sizeOf0
  v0 := Tryz.zeroValue0
  t3 := Tryz.underlying3
  a3 := Tryz.isAgg3
  z3 := Tryz.sizeOf3
  v3 := Tryz.zeroValue3
  t4 := Tryz.underlying4
  a4 := Tryz.isAgg4
  z4 := Tryz.sizeOf4
  v4 := Tryz.zeroValue4
  t9 := Tryz.underlying9
  a9 := Tryz.isAgg9
  z9 := Tryz.sizeOf9
  v9 := Tryz.zeroValue9
  t20 := Tryz.underlying20
  a20 := Tryz.isAgg20
  z20 := Tryz.sizeOf20
  v20 := Tryz.zeroValue20
  t37 := Tryz.underlying55
  a37 := Tryz.isAgg55
  z37 := Tryz.sizeOf55
  v37 := Tryz.zeroValue55
  t70 := Tryz.underlying54
  a70 := Tryz.isAgg54
  z70 := Tryz.sizeOf54
  v70 := Tryz.zeroValue54
  t72 := Tryz.underlying57
  a72 := Tryz.isAgg57
  z72 := Tryz.sizeOf57
  v72 := Tryz.zeroValue57
  t164 := Tryz.underlying92
  a164 := Tryz.isAgg92
  z164 := Tryz.sizeOf92
  v164 := Tryz.zeroValue92 }
theorem Tryz.Builder_Extra_165 : Builder.Extra Tryz.prog Tryz.lays165_ren := {
  sizeBuilder := by kernel_rfl
  liesBuilder := by kernel_rfl
  t5 := Tryz.underlying5
  a5 := Tryz.isAgg5
  z5 := Tryz.sizeOf5
  v5 := Tryz.zeroValue5
  infoByte := by kernel_rfl
  cellsByte := by kernel_rfl
  sizeByte := by kernel_rfl
  neB5 := by decide }
open Go.RowKit in
theorem Tryz.Builder_Grow_fresh (B b n : Nat) (w : World) (hB : B ≤ b) (hbk : w.heap[b]? = some (.cells #[.pointer none, .slice none 0 0] 57 (0, 0))) (hBw : B ≤ w.heap.size) (hn : n ≤ 281474976710656) :
    Calls Tryz.prog 69 #[.pointer (some ⟨b, 0, none⟩), .int .i64 n] w fun e w' => e = .returned (.tuple #[]) ∧ (Lib.BuilderAt 57 5 B b (.pointer (some ⟨b, 0, none⟩)) [] w' ∧ Below B w w') := Any.Builder_Grow_fresh Tryz.lays165 Tryz.Builder_Extra_165 B b n w hB hbk hBw hn
def Tryz.lays137_ren : Go.Shelf.Ren := ⟨fun | 137 => 31 | 217 => 47 | 266 => 71 | n => n, fun | 9 => 9 | 5 => 5 | 3 => 3 | n => n, fun | n => n⟩
theorem Tryz.lays137 : Go.Proofs.Lays.n137 Tryz.prog Tryz.lays137_ren := {
  mixed := by kernel_rfl
  f137 := Tryz.func31.trans (congrArg some (by kernel_rfl))
  f217 := Tryz.func47.trans (congrArg some (by kernel_rfl))
  f266 := Tryz.func71.trans (congrArg some (by kernel_rfl))
  t3 := Tryz.underlying3
  a3 := Tryz.isAgg3
  z3 := Tryz.sizeOf3
  v3 := Tryz.zeroValue3
  t5 := Tryz.underlying5
  a5 := Tryz.isAgg5
  z5 := Tryz.sizeOf5
  v5 := Tryz.zeroValue5
  t9 := Tryz.underlying9
  a9 := Tryz.isAgg9
  z9 := Tryz.sizeOf9
  v9 := Tryz.zeroValue9 }
open Go.RowKit in
theorem Tryz.strings_IndexByte (s : ByteArray) (c : Int) (w : World) :
    Calls Tryz.prog 31 #[.string s, .int .u8 c] w fun e w' => e = .returned (.int .i64 (Lib.indexByte s.data.toList c.toNat.toUInt8)) ∧ w' = w := Any.strings_IndexByte Tryz.lays137 s c w
def Tryz.lays211_ren : Go.Shelf.Ren := ⟨fun | 211 => 124 | 207 => 105 | n => n, fun | 9 => 9 | 4 => 4 | 3 => 3 | n => n, fun | n => n⟩
theorem Tryz.lays211 : Go.Proofs.Lays.n211 Tryz.prog Tryz.lays211_ren := {
  mixed := by kernel_rfl
  f207 := Tryz.func105.trans (congrArg some (by kernel_rfl))
  f211 := Tryz.func124.trans (congrArg some (by kernel_rfl))
  t3 := Tryz.underlying3
  a3 := Tryz.isAgg3
  z3 := Tryz.sizeOf3
  v3 := Tryz.zeroValue3
  t4 := Tryz.underlying4
  a4 := Tryz.isAgg4
  z4 := Tryz.sizeOf4
  v4 := Tryz.zeroValue4
  t9 := Tryz.underlying9
  a9 := Tryz.isAgg9
  z9 := Tryz.sizeOf9
  v9 := Tryz.zeroValue9 }
open Go.RowKit in
theorem Tryz.stringslite_CutSuffix (s p : ByteArray) (w : World) (hs : s.size ≤ 9223372036854775807) :
    Calls Tryz.prog 124 #[.string s, .string p] w fun e w' => e = .returned (.tuple #[.string ⟨(Lib.trimSuffix s.data.toList p.data.toList).toArray⟩, .bool (Lib.hasSuffix s.data.toList p.data.toList)]) ∧ w' = w := Any.stringslite_CutSuffix Tryz.lays211 s p w hs
def Tryz.lays104_ren : Go.Shelf.Ren := ⟨fun | 104 => 113 | 211 => 124 | 207 => 105 | n => n, fun | 9 => 9 | 4 => 4 | 24 => 49 | 3 => 3 | n => n, fun | n => n⟩
theorem Tryz.lays104 : Go.Proofs.Lays.n104 Tryz.prog Tryz.lays104_ren := {
  mixed := by kernel_rfl
  f104 := Tryz.func113.trans (congrArg some (by kernel_rfl))
  f207 := Tryz.func105.trans (congrArg some (by kernel_rfl))
  f211 := Tryz.func124.trans (congrArg some (by kernel_rfl))
  t3 := Tryz.underlying3
  a3 := Tryz.isAgg3
  z3 := Tryz.sizeOf3
  v3 := Tryz.zeroValue3
  t4 := Tryz.underlying4
  a4 := Tryz.isAgg4
  z4 := Tryz.sizeOf4
  v4 := Tryz.zeroValue4
  t9 := Tryz.underlying9
  a9 := Tryz.isAgg9
  z9 := Tryz.sizeOf9
  v9 := Tryz.zeroValue9
  t24 := Tryz.underlying49
  a24 := Tryz.isAgg49
  z24 := Tryz.sizeOf49
  v24 := Tryz.zeroValue49 }
open Go.RowKit in
theorem Tryz.strings_CutSuffix (s p : ByteArray) (w : World) (hs : s.size ≤ 9223372036854775807) :
    Calls Tryz.prog 113 #[.string s, .string p] w fun e w' => e = .returned (.tuple #[.string ⟨(Lib.trimSuffix s.data.toList p.data.toList).toArray⟩, .bool (Lib.hasSuffix s.data.toList p.data.toList)]) ∧ w' = w := Any.strings_CutSuffix Tryz.lays104 s p w hs
open Go.RowKit in
theorem Tryz.Builder_copyCheck_f (B b : Nat) (bs : List Value) (w : World) (h : Lib.IsBuilderF 57 5 B b bs w) :
    Calls Tryz.prog 48 #[.pointer (some ⟨b, 0, none⟩)] w fun e w' => e = .returned (.tuple #[]) ∧ (Lib.BuilderAtF 57 5 B b (.pointer (some ⟨b, 0, none⟩)) bs w' ∧ Below B w w') := Any.Builder_copyCheck_f Tryz.lays240 Tryz.Builder_X72_240 B b bs w h
open Go.RowKit in
theorem Tryz.Builder_WriteString_f (B b : Nat) (bs : List Value) (s : ByteArray) (w : World) (h : Lib.IsBuilderF 57 5 B b bs w) (hlen : bs.length + s.size ≤ 140737488355328) (hBw : B ≤ w.heap.size) :
    Calls Tryz.prog 32 #[.pointer (some ⟨b, 0, none⟩), .string s] w fun e w' => e = .returned (.tuple #[.int .i64 s.size, .nilIface]) ∧ (Lib.BuilderAtF 57 5 B b (.pointer (some ⟨b, 0, none⟩)) (bs ++ Lib.strCells s) w' ∧ Below B w w') := Any.Builder_WriteString_f Tryz.lays166 Tryz.Builder_Extra_166 B b bs s w h hlen hBw
open Go.RowKit in
theorem Tryz.Builder_String_f (B b : Nat) (l : List UInt8) (w : World) (h : Lib.IsBuilderF 57 5 B b (Lib.byteCells l) w) (h0 : l ≠ []) :
    Calls Tryz.prog 33 #[.pointer (some ⟨b, 0, none⟩)] w fun e w' => e = .returned (.string ⟨l.toArray⟩) ∧ (Lib.IsBuilderF 57 5 B b (Lib.byteCells l) w' ∧ Below B w w') := Any.Builder_String_f Tryz.lays169 Tryz.Builder_Extra_169 B b l w h h0
open Go.RowKit in
theorem Tryz.Builder_String_empty_f (B b : Nat) (w : World) (h : Lib.IsBuilderF 57 5 B b [] w) (hBw : B ≤ w.heap.size) :
    Calls Tryz.prog 33 #[.pointer (some ⟨b, 0, none⟩)] w fun e w' => e = .returned (.string ⟨#[]⟩) ∧ (Lib.IsBuilderF 57 5 B b [] w' ∧ Below B w w') := Any.Builder_String_empty_f Tryz.lays169 Tryz.Builder_Extra_169 B b w h hBw
open Go.RowKit in
theorem Tryz.Builder_String_any_f (B b : Nat) (l : List UInt8) (w : World) (h : Lib.IsBuilderF 57 5 B b (Lib.byteCells l) w) (hBw : B ≤ w.heap.size) :
    Calls Tryz.prog 33 #[.pointer (some ⟨b, 0, none⟩)] w fun e w' => e = .returned (.string ⟨l.toArray⟩) ∧ (Lib.IsBuilderF 57 5 B b (Lib.byteCells l) w' ∧ Below B w w') := Any.Builder_String_any_f Tryz.lays169 Tryz.Builder_Extra_169 B b l w h hBw
open Go.RowKit in
theorem Tryz.Builder_copyCheck_k (B b : Nat) (bs : List Value) (w : World) (h : Lib.IsBuilderF 57 5 B b bs w) :
    Calls Tryz.prog 48 #[.pointer (some ⟨b, 0, none⟩)] w fun e w' => e = .returned (.tuple #[]) ∧ (Lib.BuilderAtF 57 5 B b (.pointer (some ⟨b, 0, none⟩)) bs w' ∧ Below B w w' ∧ Lib.OthersKept 5 (some b) w w') := Any.Builder_copyCheck_k Tryz.lays240 Tryz.Builder_X72_240 B b bs w h
open Go.RowKit in
theorem Tryz.Builder_WriteByte_k (B b : Nat) (bs : List Value) (c : Int) (w : World) (h : Lib.IsBuilderF 57 5 B b bs w) (hlen : bs.length + 1 ≤ 140737488355328) (hBw : B ≤ w.heap.size) :
    Calls Tryz.prog 40 #[.pointer (some ⟨b, 0, none⟩), .int .u8 c] w fun e w' => e = .returned .nilIface ∧ (Lib.BuilderAtF 57 5 B b (.pointer (some ⟨b, 0, none⟩)) (bs ++ [.int .u8 c]) w' ∧ Below B w w' ∧ Lib.OthersKept 5 (some b) w w') := Any.Builder_WriteByte_k Tryz.lays167 Tryz.Builder_Extra_167 B b bs c w h hlen hBw
open Go.RowKit in
theorem Tryz.Builder_WriteString_k (B b : Nat) (bs : List Value) (s : ByteArray) (w : World) (h : Lib.IsBuilderF 57 5 B b bs w) (hlen : bs.length + s.size ≤ 140737488355328) (hBw : B ≤ w.heap.size) :
    Calls Tryz.prog 32 #[.pointer (some ⟨b, 0, none⟩), .string s] w fun e w' => e = .returned (.tuple #[.int .i64 s.size, .nilIface]) ∧ (Lib.BuilderAtF 57 5 B b (.pointer (some ⟨b, 0, none⟩)) (bs ++ Lib.strCells s) w' ∧ Below B w w' ∧ Lib.OthersKept 5 (some b) w w') := Any.Builder_WriteString_k Tryz.lays166 Tryz.Builder_Extra_166 B b bs s w h hlen hBw
open Go.RowKit in
theorem Tryz.Builder_String_k (B b : Nat) (l : List UInt8) (w : World) (h : Lib.IsBuilderF 57 5 B b (Lib.byteCells l) w) (h0 : l ≠ []) :
    Calls Tryz.prog 33 #[.pointer (some ⟨b, 0, none⟩)] w fun e w' => e = .returned (.string ⟨l.toArray⟩) ∧ (Lib.IsBuilderF 57 5 B b (Lib.byteCells l) w' ∧ Below B w w' ∧ Lib.OthersKept 5 (some b) w w') := Any.Builder_String_k Tryz.lays169 Tryz.Builder_Extra_169 B b l w h h0
open Go.RowKit in
theorem Tryz.Builder_String_empty_k (B b : Nat) (w : World) (h : Lib.IsBuilderF 57 5 B b [] w) (hBw : B ≤ w.heap.size) :
    Calls Tryz.prog 33 #[.pointer (some ⟨b, 0, none⟩)] w fun e w' => e = .returned (.string ⟨#[]⟩) ∧ (Lib.IsBuilderF 57 5 B b [] w' ∧ Below B w w' ∧ Lib.OthersKept 5 (some b) w w') := Any.Builder_String_empty_k Tryz.lays169 Tryz.Builder_Extra_169 B b w h hBw
open Go.RowKit in
theorem Tryz.Builder_String_any_k (B b : Nat) (l : List UInt8) (w : World) (h : Lib.IsBuilderF 57 5 B b (Lib.byteCells l) w) (hBw : B ≤ w.heap.size) :
    Calls Tryz.prog 33 #[.pointer (some ⟨b, 0, none⟩)] w fun e w' => e = .returned (.string ⟨l.toArray⟩) ∧ (Lib.IsBuilderF 57 5 B b (Lib.byteCells l) w' ∧ Below B w w' ∧ Lib.OthersKept 5 (some b) w w') := Any.Builder_String_any_k Tryz.lays169 Tryz.Builder_Extra_169 B b l w h hBw
def Tryz.lays195_ren : Go.Shelf.Ren := ⟨fun | 195 => 97 | n => n, fun | 9 => 9 | 3 => 3 | 0 => 0 | 4 => 4 | n => n, fun | n => n⟩
theorem Tryz.lays195 : Go.Proofs.Lays.n195 Tryz.prog Tryz.lays195_ren := {
  mixed := by kernel_rfl
  f195 := Tryz.func97.trans (congrArg some (by kernel_rfl))
  t0 := Tryz.underlying0
  a0 := Tryz.isAgg0
  z0 := Tryz.sizeOf0
  v0 := Tryz.zeroValue0
  t3 := Tryz.underlying3
  a3 := Tryz.isAgg3
  z3 := Tryz.sizeOf3
  v3 := Tryz.zeroValue3
  t4 := Tryz.underlying4
  a4 := Tryz.isAgg4
  z4 := Tryz.sizeOf4
  v4 := Tryz.zeroValue4
  t9 := Tryz.underlying9
  a9 := Tryz.isAgg9
  z9 := Tryz.sizeOf9
  v9 := Tryz.zeroValue9 }
open Go.RowKit in
theorem Tryz.utf8_RuneCountInString (s : ByteArray) (w : World) (hs : s.size < 9223372036854775807) :
    Calls Tryz.prog 97 #[.string s] w fun e w' => e = .returned (.int .i64 (Lib.runeCount s)) ∧ ∃ pos, w' = w.iter s pos := Any.utf8_RuneCountInString Tryz.lays195 s w hs
def Tryz.lays129_ren : Go.Shelf.Ren := ⟨fun | 129 => 171 | n => n, fun | 53 => 117 | 3 => 3 | 4 => 4 | 46 => 113 | 5 => 5 | 9 => 9 | n => n, fun | n => n⟩
theorem Tryz.lays129 : Go.Proofs.Lays.n129 Tryz.prog Tryz.lays129_ren := {
  mixed := by kernel_rfl
  f129 := Tryz.func171.trans (congrArg some (by kernel_rfl))
  t3 := Tryz.underlying3
  a3 := Tryz.isAgg3
  z3 := Tryz.sizeOf3
  v3 := Tryz.zeroValue3
  t4 := Tryz.underlying4
  a4 := Tryz.isAgg4
  z4 := Tryz.sizeOf4
  v4 := Tryz.zeroValue4
  t5 := Tryz.underlying5
  a5 := Tryz.isAgg5
  z5 := Tryz.sizeOf5
  v5 := Tryz.zeroValue5
  t9 := Tryz.underlying9
  a9 := Tryz.isAgg9
  z9 := Tryz.sizeOf9
  v9 := Tryz.zeroValue9
  t46 := Tryz.underlying113
  a46 := Tryz.isAgg113
  z46 := Tryz.sizeOf113
  v46 := Tryz.zeroValue113
  t53 := Tryz.underlying117
  a53 := Tryz.isAgg117
  z53 := Tryz.sizeOf117
  v53 := Tryz.zeroValue117 }
theorem Tryz.bits_Len64 (x : Int) (w : World) (h0 : 0 ≤ x) (h1 : x ≤ 18446744073709551615) :
    Calls Tryz.prog 171 #[.int .u64 x] w fun e w' => e = .returned (.int .i64 (Lib.bitLen x.toNat)) ∧ w' = w := Any.bits_Len64 Tryz.lays129 x w h0 h1
def Tryz.lays317_ren : Go.Shelf.Ren := ⟨fun | 317 => 170 | n => n, fun | 3 => 3 | 46 => 113 | n => n, fun | n => n⟩
theorem Tryz.lays317 : Go.Proofs.Lays.n317 Tryz.prog Tryz.lays317_ren := {
  mixed := by kernel_rfl
  f317 := Tryz.func170.trans (congrArg some (by kernel_rfl))
  t3 := Tryz.underlying3
  a3 := Tryz.isAgg3
  z3 := Tryz.sizeOf3
  v3 := Tryz.zeroValue3
  t46 := Tryz.underlying113
  a46 := Tryz.isAgg113
  z46 := Tryz.sizeOf113
  v46 := Tryz.zeroValue113 }
open Go.Lib in
theorem Tryz.internal_strconv_log10Pow2 (x : Nat) (h : x ≤ 64) (w : World) :
    Calls Tryz.prog 170 #[.int .i64 x] w fun e w' => e = .returned (.int .i64 (Lib.l10 x)) ∧ w' = w := Any.internal_strconv_log10Pow2 Tryz.lays317 x h w
def Tryz.lays318_ren : Go.Shelf.Ren := ⟨fun | 318 => 172 | n => n, fun | 3 => 3 | 4 => 4 | n => n, fun | n => n⟩
theorem Tryz.lays318 : Go.Proofs.Lays.n318 Tryz.prog Tryz.lays318_ren := {
  mixed := by kernel_rfl
  f318 := Tryz.func172.trans (congrArg some (by kernel_rfl))
  t3 := Tryz.underlying3
  a3 := Tryz.isAgg3
  z3 := Tryz.sizeOf3
  v3 := Tryz.zeroValue3
  t4 := Tryz.underlying4
  a4 := Tryz.isAgg4
  z4 := Tryz.sizeOf4
  v4 := Tryz.zeroValue4 }
open Go.Lib in
theorem Tryz.internal_strconv_bool2_int (b : Bool) (w : World) :
    Calls Tryz.prog 172 #[.bool b] w fun e w' => e = .returned (.int .i64 (if b then 1 else 0)) ∧ w' = w := Any.internal_strconv_bool2_int Tryz.lays318 b w
def Tryz.lays283_ren : Go.Shelf.Ren := ⟨fun | 283 => 166 | n => n, fun | 3 => 3 | 9 => 9 | 4 => 4 | n => n, fun | n => n⟩
theorem Tryz.lays283 : Go.Proofs.Lays.n283 Tryz.prog Tryz.lays283_ren := {
  mixed := by kernel_rfl
  f283 := Tryz.func166.trans (congrArg some (by kernel_rfl))
  t3 := Tryz.underlying3
  a3 := Tryz.isAgg3
  z3 := Tryz.sizeOf3
  v3 := Tryz.zeroValue3
  t4 := Tryz.underlying4
  a4 := Tryz.isAgg4
  z4 := Tryz.sizeOf4
  v4 := Tryz.zeroValue4
  t9 := Tryz.underlying9
  a9 := Tryz.isAgg9
  z9 := Tryz.sizeOf9
  v9 := Tryz.zeroValue9 }
open Go.Lib in
theorem Tryz.internal_strconv_small (i : Nat) (h : i < 100) (w : World) :
    Calls Tryz.prog 166 #[.int .i64 i] w fun e w' => e = .returned (.string ⟨(Lib.decDigits i).toArray⟩) ∧ w' = w := Any.internal_strconv_small Tryz.lays283 i h w
def Tryz.laysM284_ren : Go.Shelf.Ren := ⟨fun | 284 => 167 | 129 => 171 | 317 => 170 | 318 => 172 | n => n, fun | 53 => 117 | 3 => 3 | 212 => 217 | 0 => 0 | 4 => 4 | 46 => 113 | 5 => 5 | 9 => 9 | n => n, fun | 17 => 5 | n => n⟩
theorem Tryz.laysM284 : Go.Proofs.LaysM.n284 Tryz.prog Tryz.laysM284_ren := {
  mixed := by kernel_rfl
  f129 := Tryz.func171.trans (congrArg some (by kernel_rfl))
  f284 := Tryz.func167.trans (congrArg some (by kernel_rfl))
  f317 := Tryz.func170.trans (congrArg some (by kernel_rfl))
  f318 := Tryz.func172.trans (congrArg some (by kernel_rfl))
  t0 := Tryz.underlying0
  a0 := Tryz.isAgg0
  z0 := Tryz.sizeOf0
  v0 := Tryz.zeroValue0
  t3 := Tryz.underlying3
  a3 := Tryz.isAgg3
  z3 := Tryz.sizeOf3
  v3 := Tryz.zeroValue3
  t4 := Tryz.underlying4
  a4 := Tryz.isAgg4
  z4 := Tryz.sizeOf4
  v4 := Tryz.zeroValue4
  t5 := Tryz.underlying5
  a5 := Tryz.isAgg5
  z5 := Tryz.sizeOf5
  v5 := Tryz.zeroValue5
  t9 := Tryz.underlying9
  a9 := Tryz.isAgg9
  z9 := Tryz.sizeOf9
  v9 := Tryz.zeroValue9
  t46 := Tryz.underlying113
  a46 := Tryz.isAgg113
  z46 := Tryz.sizeOf113
  v46 := Tryz.zeroValue113
  t53 := Tryz.underlying117
  a53 := Tryz.isAgg117
  z53 := Tryz.sizeOf117
  v53 := Tryz.zeroValue117
  t212 := Tryz.underlying217
  a212 := Tryz.isAgg217
  z212 := Tryz.sizeOf217
  v212 := Tryz.zeroValue217
  g17 := by kernel_rfl
  i0 := by kernel_rfl
  i3 := by kernel_rfl
  i4 := by kernel_rfl
  i5 := by kernel_rfl
  i9 := by kernel_rfl
  i46 := by kernel_rfl
  i53 := by kernel_rfl
  i212 := by kernel_rfl
  m17 := by kernel_rfl }
open Go.Lib in
theorem Tryz.internal_strconv_numDigits (u : Nat) (h1 : 1 ≤ u) (h2 : u < 18446744073709551616) (w : World) (htab : Lib.TabIs Tryz.prog w "internal/strconv.uint64pow10" .u64 Lib.pow10Tab) :
    Calls Tryz.prog 167 #[.int .u64 u] w fun e w' => e = .returned (.int .i64 (Lib.nDigits u)) ∧ w' = w := Any.internal_strconv_numDigits Tryz.laysM284 u h1 h2 w htab
def Tryz.lays285_ren : Go.Shelf.Ren := ⟨fun | 285 => 168 | n => n, fun | 37 => 55 | 53 => 117 | 3 => 3 | 4 => 4 | 51 => 123 | 9 => 9 | 5 => 5 | 0 => 0 | n => n, fun | n => n⟩
theorem Tryz.lays285 : Go.Proofs.Lays.n285 Tryz.prog Tryz.lays285_ren := {
  mixed := by kernel_rfl
  f285 := Tryz.func168.trans (congrArg some (by kernel_rfl))
  t0 := Tryz.underlying0
  a0 := Tryz.isAgg0
  z0 := Tryz.sizeOf0
  v0 := Tryz.zeroValue0
  t3 := Tryz.underlying3
  a3 := Tryz.isAgg3
  z3 := Tryz.sizeOf3
  v3 := Tryz.zeroValue3
  t4 := Tryz.underlying4
  a4 := Tryz.isAgg4
  z4 := Tryz.sizeOf4
  v4 := Tryz.zeroValue4
  t5 := Tryz.underlying5
  a5 := Tryz.isAgg5
  z5 := Tryz.sizeOf5
  v5 := Tryz.zeroValue5
  t9 := Tryz.underlying9
  a9 := Tryz.isAgg9
  z9 := Tryz.sizeOf9
  v9 := Tryz.zeroValue9
  t37 := Tryz.underlying55
  a37 := Tryz.isAgg55
  z37 := Tryz.sizeOf55
  v37 := Tryz.zeroValue55
  t51 := Tryz.underlying123
  a51 := Tryz.isAgg123
  z51 := Tryz.sizeOf123
  v51 := Tryz.zeroValue123
  t53 := Tryz.underlying117
  a53 := Tryz.isAgg117
  z53 := Tryz.sizeOf117
  v53 := Tryz.zeroValue117 }
open Go.RowKit Go.Sort Go.Lib in
theorem Tryz.internal_strconv_formatBase10 (blk off cap : Nat) (u : Nat) (d : Array UInt8) (w : World) (hH : Holds (fun (b : UInt8) => Value.int .u8 (b.toNat : Int)) w blk off d) (hu : u < 10 ^ d.size) (hu64 : u < 18446744073709551616) (hsz : d.size < 4611686018427387904) :
    Calls Tryz.prog 168 #[.slice (some ⟨blk, off, none⟩) d.size cap, .int .u64 u] w fun e w' =>
      e = .returned (.tuple #[]) ∧ ∃ (n v' : Nat) (dk : Array UInt8), w' = (putRow (fun (b : UInt8) => Value.int .u8 (b.toNat : Int)) w blk off dk).drewN n ∧ FmtInv d.size u 0 v' dk := Any.internal_strconv_formatBase10 Tryz.lays285 blk off cap u d w hH hu hu64 hsz
def Tryz.laysM246_ren : Go.Shelf.Ren := ⟨fun | 246 => 158 | 283 => 166 | 284 => 167 | 285 => 168 | 286 => 169 | 129 => 171 | 317 => 170 | 318 => 172 | 319 => 173 | 320 => 174 | 337 => 175 | 338 => 176 | n => n, fun | 2 => 2 | 3 => 3 | 9 => 9 | 4 => 4 | 171 => 211 | 0 => 0 | 53 => 117 | 37 => 55 | 5 => 5 | 173 => 214 | 212 => 217 | 51 => 123 | 20 => 20 | 213 => 218 | 46 => 113 | 232 => 221 | 233 => 222 | n => n, fun | 17 => 5 | 18 => 6 | 19 => 7 | n => n⟩
theorem Tryz.laysM246 : Go.Proofs.LaysM.n246 Tryz.prog Tryz.laysM246_ren := {
  mixed := by kernel_rfl
  f129 := Tryz.func171.trans (congrArg some (by kernel_rfl))
  f246 := Tryz.func158.trans (congrArg some (by kernel_rfl))
  f283 := Tryz.func166.trans (congrArg some (by kernel_rfl))
  f284 := Tryz.func167.trans (congrArg some (by kernel_rfl))
  f285 := Tryz.func168.trans (congrArg some (by kernel_rfl))
  f286 := Tryz.func169.trans (congrArg some (by kernel_rfl))
  f317 := Tryz.func170.trans (congrArg some (by kernel_rfl))
  f318 := Tryz.func172.trans (congrArg some (by kernel_rfl))
  f319 := Tryz.func173.trans (congrArg some (by kernel_rfl))
  f320 := Tryz.func174.trans (congrArg some (by kernel_rfl))
  f337 := Tryz.func175.trans (congrArg some (by kernel_rfl))
  f338 := Tryz.func176.trans (congrArg some (by kernel_rfl))
  t0 := Tryz.underlying0
  a0 := Tryz.isAgg0
  z0 := Tryz.sizeOf0
  v0 := Tryz.zeroValue0
  t2 := Tryz.underlying2
  a2 := Tryz.isAgg2
  z2 := Tryz.sizeOf2
  v2 := Tryz.zeroValue2
  t3 := Tryz.underlying3
  a3 := Tryz.isAgg3
  z3 := Tryz.sizeOf3
  v3 := Tryz.zeroValue3
  t4 := Tryz.underlying4
  a4 := Tryz.isAgg4
  z4 := Tryz.sizeOf4
  v4 := Tryz.zeroValue4
  t5 := Tryz.underlying5
  a5 := Tryz.isAgg5
  z5 := Tryz.sizeOf5
  v5 := Tryz.zeroValue5
  t9 := Tryz.underlying9
  a9 := Tryz.isAgg9
  z9 := Tryz.sizeOf9
  v9 := Tryz.zeroValue9
  t20 := Tryz.underlying20
  a20 := Tryz.isAgg20
  z20 := Tryz.sizeOf20
  v20 := Tryz.zeroValue20
  t37 := Tryz.underlying55
  a37 := Tryz.isAgg55
  z37 := Tryz.sizeOf55
  v37 := Tryz.zeroValue55
  t46 := Tryz.underlying113
  a46 := Tryz.isAgg113
  z46 := Tryz.sizeOf113
  v46 := Tryz.zeroValue113
  t51 := Tryz.underlying123
  a51 := Tryz.isAgg123
  z51 := Tryz.sizeOf123
  v51 := Tryz.zeroValue123
  t53 := Tryz.underlying117
  a53 := Tryz.isAgg117
  z53 := Tryz.sizeOf117
  v53 := Tryz.zeroValue117
  t171 := Tryz.underlying211
  a171 := Tryz.isAgg211
  z171 := Tryz.sizeOf211
  v171 := Tryz.zeroValue211
  t173 := Tryz.underlying214
  a173 := Tryz.isAgg214
  z173 := Tryz.sizeOf214
  v173 := Tryz.zeroValue214
  t212 := Tryz.underlying217
  a212 := Tryz.isAgg217
  z212 := Tryz.sizeOf217
  v212 := Tryz.zeroValue217
  t213 := Tryz.underlying218
  a213 := Tryz.isAgg218
  z213 := Tryz.sizeOf218
  t232 := Tryz.underlying221
  a232 := Tryz.isAgg221
  z232 := Tryz.sizeOf221
  v232 := Tryz.zeroValue221
  t233 := Tryz.underlying222
  a233 := Tryz.isAgg222
  z233 := Tryz.sizeOf222
  v233 := Tryz.zeroValue222
  g17 := by kernel_rfl
  g18 := by kernel_rfl
  g19 := by kernel_rfl
  i0 := by kernel_rfl
  i2 := by kernel_rfl
  i3 := by kernel_rfl
  i4 := by kernel_rfl
  i5 := by kernel_rfl
  i9 := by kernel_rfl
  i20 := by kernel_rfl
  i37 := by kernel_rfl
  i46 := by kernel_rfl
  i51 := by kernel_rfl
  i53 := by kernel_rfl
  i171 := by kernel_rfl
  i173 := by kernel_rfl
  i212 := by kernel_rfl
  i232 := by kernel_rfl
  i233 := by kernel_rfl
  m17 := by kernel_rfl
  m18 := by kernel_rfl
  m19 := by kernel_rfl }
open Go.RowKit Go.Sort Go.Lib in
theorem Tryz.internal_strconv_FormatInt_10 (n : Int) (h0 : -9223372036854775808 ≤ n) (h1 : n ≤ 9223372036854775807) (w : World) (htab : Lib.TabIs Tryz.prog w "internal/strconv.uint64pow10" .u64 Lib.pow10Tab) :
    Calls Tryz.prog 158 #[.int .i64 n, .int .i64 10] w fun e w' => e = .returned (.string ⟨(Lib.itoa n).toArray⟩) ∧ ∃ k os, w' = grow (w.drewN k) os := Any.internal_strconv_FormatInt_10 Tryz.laysM246 n h0 h1 w htab
def Tryz.lays246_ren : Go.Shelf.Ren := ⟨fun | 246 => 158 | 283 => 166 | 284 => 167 | 285 => 168 | 286 => 169 | 129 => 171 | 317 => 170 | 318 => 172 | 319 => 173 | 320 => 174 | 337 => 175 | 338 => 176 | n => n, fun | 2 => 2 | 3 => 3 | 9 => 9 | 4 => 4 | 171 => 211 | 0 => 0 | 53 => 117 | 37 => 55 | 5 => 5 | 173 => 214 | 212 => 217 | 51 => 123 | 20 => 20 | 213 => 218 | 46 => 113 | 232 => 221 | 233 => 222 | n => n, fun | 17 => 5 | 18 => 6 | 19 => 7 | n => n⟩
theorem Tryz.lays246 : Go.Proofs.Lays.n246 Tryz.prog Tryz.lays246_ren := {
  mixed := by kernel_rfl
  f129 := Tryz.func171.trans (congrArg some (by kernel_rfl))
  f246 := Tryz.func158.trans (congrArg some (by kernel_rfl))
  f283 := Tryz.func166.trans (congrArg some (by kernel_rfl))
  f284 := Tryz.func167.trans (congrArg some (by kernel_rfl))
  f285 := Tryz.func168.trans (congrArg some (by kernel_rfl))
  f286 := Tryz.func169.trans (congrArg some (by kernel_rfl))
  f317 := Tryz.func170.trans (congrArg some (by kernel_rfl))
  f318 := Tryz.func172.trans (congrArg some (by kernel_rfl))
  f319 := Tryz.func173.trans (congrArg some (by kernel_rfl))
  f320 := Tryz.func174.trans (congrArg some (by kernel_rfl))
  f337 := Tryz.func175.trans (congrArg some (by kernel_rfl))
  f338 := Tryz.func176.trans (congrArg some (by kernel_rfl))
  t0 := Tryz.underlying0
  a0 := Tryz.isAgg0
  z0 := Tryz.sizeOf0
  v0 := Tryz.zeroValue0
  t2 := Tryz.underlying2
  a2 := Tryz.isAgg2
  z2 := Tryz.sizeOf2
  v2 := Tryz.zeroValue2
  t3 := Tryz.underlying3
  a3 := Tryz.isAgg3
  z3 := Tryz.sizeOf3
  v3 := Tryz.zeroValue3
  t4 := Tryz.underlying4
  a4 := Tryz.isAgg4
  z4 := Tryz.sizeOf4
  v4 := Tryz.zeroValue4
  t5 := Tryz.underlying5
  a5 := Tryz.isAgg5
  z5 := Tryz.sizeOf5
  v5 := Tryz.zeroValue5
  t9 := Tryz.underlying9
  a9 := Tryz.isAgg9
  z9 := Tryz.sizeOf9
  v9 := Tryz.zeroValue9
  t20 := Tryz.underlying20
  a20 := Tryz.isAgg20
  z20 := Tryz.sizeOf20
  v20 := Tryz.zeroValue20
  t37 := Tryz.underlying55
  a37 := Tryz.isAgg55
  z37 := Tryz.sizeOf55
  v37 := Tryz.zeroValue55
  t46 := Tryz.underlying113
  a46 := Tryz.isAgg113
  z46 := Tryz.sizeOf113
  v46 := Tryz.zeroValue113
  t51 := Tryz.underlying123
  a51 := Tryz.isAgg123
  z51 := Tryz.sizeOf123
  v51 := Tryz.zeroValue123
  t53 := Tryz.underlying117
  a53 := Tryz.isAgg117
  z53 := Tryz.sizeOf117
  v53 := Tryz.zeroValue117
  t171 := Tryz.underlying211
  a171 := Tryz.isAgg211
  z171 := Tryz.sizeOf211
  v171 := Tryz.zeroValue211
  t173 := Tryz.underlying214
  a173 := Tryz.isAgg214
  z173 := Tryz.sizeOf214
  v173 := Tryz.zeroValue214
  t212 := Tryz.underlying217
  a212 := Tryz.isAgg217
  z212 := Tryz.sizeOf217
  v212 := Tryz.zeroValue217
  t213 := Tryz.underlying218
  a213 := Tryz.isAgg218
  z213 := Tryz.sizeOf218
  t232 := Tryz.underlying221
  a232 := Tryz.isAgg221
  z232 := Tryz.sizeOf221
  v232 := Tryz.zeroValue221
  t233 := Tryz.underlying222
  a233 := Tryz.isAgg222
  z233 := Tryz.sizeOf222
  v233 := Tryz.zeroValue222
  g17 := by kernel_rfl
  g18 := by kernel_rfl
  g19 := by kernel_rfl }
open Go.RowKit Go.Sort Go.Lib in
theorem Tryz.internal_strconv_FormatInt_10_small (i : Nat) (hi : i < 100) (w : World) :
    Calls Tryz.prog 158 #[.int .i64 i, .int .i64 10] w fun e w' => e = .returned (.string ⟨(Lib.decDigits i).toArray⟩) ∧ w' = w := Any.internal_strconv_FormatInt_10_small Tryz.lays246 i hi w
def Tryz.laysM243_ren : Go.Shelf.Ren := ⟨fun | 243 => 148 | 246 => 158 | 283 => 166 | 284 => 167 | 285 => 168 | 286 => 169 | 129 => 171 | 317 => 170 | 318 => 172 | 319 => 173 | 320 => 174 | 337 => 175 | 338 => 176 | n => n, fun | 3 => 3 | 9 => 9 | 2 => 2 | 4 => 4 | 171 => 211 | 0 => 0 | 53 => 117 | 37 => 55 | 5 => 5 | 173 => 214 | 212 => 217 | 51 => 123 | 20 => 20 | 213 => 218 | 46 => 113 | 232 => 221 | 233 => 222 | n => n, fun | 17 => 5 | 18 => 6 | 19 => 7 | n => n⟩
theorem Tryz.laysM243 : Go.Proofs.LaysM.n243 Tryz.prog Tryz.laysM243_ren := {
  mixed := by kernel_rfl
  f129 := Tryz.func171.trans (congrArg some (by kernel_rfl))
  f243 := Tryz.func148.trans (congrArg some (by kernel_rfl))
  f246 := Tryz.func158.trans (congrArg some (by kernel_rfl))
  f283 := Tryz.func166.trans (congrArg some (by kernel_rfl))
  f284 := Tryz.func167.trans (congrArg some (by kernel_rfl))
  f285 := Tryz.func168.trans (congrArg some (by kernel_rfl))
  f286 := Tryz.func169.trans (congrArg some (by kernel_rfl))
  f317 := Tryz.func170.trans (congrArg some (by kernel_rfl))
  f318 := Tryz.func172.trans (congrArg some (by kernel_rfl))
  f319 := Tryz.func173.trans (congrArg some (by kernel_rfl))
  f320 := Tryz.func174.trans (congrArg some (by kernel_rfl))
  f337 := Tryz.func175.trans (congrArg some (by kernel_rfl))
  f338 := Tryz.func176.trans (congrArg some (by kernel_rfl))
  t0 := Tryz.underlying0
  a0 := Tryz.isAgg0
  z0 := Tryz.sizeOf0
  v0 := Tryz.zeroValue0
  t2 := Tryz.underlying2
  a2 := Tryz.isAgg2
  z2 := Tryz.sizeOf2
  v2 := Tryz.zeroValue2
  t3 := Tryz.underlying3
  a3 := Tryz.isAgg3
  z3 := Tryz.sizeOf3
  v3 := Tryz.zeroValue3
  t4 := Tryz.underlying4
  a4 := Tryz.isAgg4
  z4 := Tryz.sizeOf4
  v4 := Tryz.zeroValue4
  t5 := Tryz.underlying5
  a5 := Tryz.isAgg5
  z5 := Tryz.sizeOf5
  v5 := Tryz.zeroValue5
  t9 := Tryz.underlying9
  a9 := Tryz.isAgg9
  z9 := Tryz.sizeOf9
  v9 := Tryz.zeroValue9
  t20 := Tryz.underlying20
  a20 := Tryz.isAgg20
  z20 := Tryz.sizeOf20
  v20 := Tryz.zeroValue20
  t37 := Tryz.underlying55
  a37 := Tryz.isAgg55
  z37 := Tryz.sizeOf55
  v37 := Tryz.zeroValue55
  t46 := Tryz.underlying113
  a46 := Tryz.isAgg113
  z46 := Tryz.sizeOf113
  v46 := Tryz.zeroValue113
  t51 := Tryz.underlying123
  a51 := Tryz.isAgg123
  z51 := Tryz.sizeOf123
  v51 := Tryz.zeroValue123
  t53 := Tryz.underlying117
  a53 := Tryz.isAgg117
  z53 := Tryz.sizeOf117
  v53 := Tryz.zeroValue117
  t171 := Tryz.underlying211
  a171 := Tryz.isAgg211
  z171 := Tryz.sizeOf211
  v171 := Tryz.zeroValue211
  t173 := Tryz.underlying214
  a173 := Tryz.isAgg214
  z173 := Tryz.sizeOf214
  v173 := Tryz.zeroValue214
  t212 := Tryz.underlying217
  a212 := Tryz.isAgg217
  z212 := Tryz.sizeOf217
  v212 := Tryz.zeroValue217
  t213 := Tryz.underlying218
  a213 := Tryz.isAgg218
  z213 := Tryz.sizeOf218
  t232 := Tryz.underlying221
  a232 := Tryz.isAgg221
  z232 := Tryz.sizeOf221
  v232 := Tryz.zeroValue221
  t233 := Tryz.underlying222
  a233 := Tryz.isAgg222
  z233 := Tryz.sizeOf222
  v233 := Tryz.zeroValue222
  g17 := by kernel_rfl
  g18 := by kernel_rfl
  g19 := by kernel_rfl
  i0 := by kernel_rfl
  i2 := by kernel_rfl
  i3 := by kernel_rfl
  i4 := by kernel_rfl
  i5 := by kernel_rfl
  i9 := by kernel_rfl
  i20 := by kernel_rfl
  i37 := by kernel_rfl
  i46 := by kernel_rfl
  i51 := by kernel_rfl
  i53 := by kernel_rfl
  i171 := by kernel_rfl
  i173 := by kernel_rfl
  i212 := by kernel_rfl
  i232 := by kernel_rfl
  i233 := by kernel_rfl
  m17 := by kernel_rfl
  m18 := by kernel_rfl
  m19 := by kernel_rfl }
open Go.RowKit Go.Sort Go.Lib in
theorem Tryz.internal_strconv_Itoa (n : Int) (h0 : -9223372036854775808 ≤ n) (h1 : n ≤ 9223372036854775807) (w : World) (htab : Lib.TabIs Tryz.prog w "internal/strconv.uint64pow10" .u64 Lib.pow10Tab) :
    Calls Tryz.prog 148 #[.int .i64 n] w fun e w' => e = .returned (.string ⟨(Lib.itoa n).toArray⟩) ∧ ∃ k os, w' = grow (w.drewN k) os := Any.internal_strconv_Itoa Tryz.laysM243 n h0 h1 w htab
def Tryz.lays243_ren : Go.Shelf.Ren := ⟨fun | 243 => 148 | 246 => 158 | 283 => 166 | 284 => 167 | 285 => 168 | 286 => 169 | 129 => 171 | 317 => 170 | 318 => 172 | 319 => 173 | 320 => 174 | 337 => 175 | 338 => 176 | n => n, fun | 3 => 3 | 9 => 9 | 2 => 2 | 4 => 4 | 171 => 211 | 0 => 0 | 53 => 117 | 37 => 55 | 5 => 5 | 173 => 214 | 212 => 217 | 51 => 123 | 20 => 20 | 213 => 218 | 46 => 113 | 232 => 221 | 233 => 222 | n => n, fun | 17 => 5 | 18 => 6 | 19 => 7 | n => n⟩
theorem Tryz.lays243 : Go.Proofs.Lays.n243 Tryz.prog Tryz.lays243_ren := {
  mixed := by kernel_rfl
  f129 := Tryz.func171.trans (congrArg some (by kernel_rfl))
  f243 := Tryz.func148.trans (congrArg some (by kernel_rfl))
  f246 := Tryz.func158.trans (congrArg some (by kernel_rfl))
  f283 := Tryz.func166.trans (congrArg some (by kernel_rfl))
  f284 := Tryz.func167.trans (congrArg some (by kernel_rfl))
  f285 := Tryz.func168.trans (congrArg some (by kernel_rfl))
  f286 := Tryz.func169.trans (congrArg some (by kernel_rfl))
  f317 := Tryz.func170.trans (congrArg some (by kernel_rfl))
  f318 := Tryz.func172.trans (congrArg some (by kernel_rfl))
  f319 := Tryz.func173.trans (congrArg some (by kernel_rfl))
  f320 := Tryz.func174.trans (congrArg some (by kernel_rfl))
  f337 := Tryz.func175.trans (congrArg some (by kernel_rfl))
  f338 := Tryz.func176.trans (congrArg some (by kernel_rfl))
  t0 := Tryz.underlying0
  a0 := Tryz.isAgg0
  z0 := Tryz.sizeOf0
  v0 := Tryz.zeroValue0
  t2 := Tryz.underlying2
  a2 := Tryz.isAgg2
  z2 := Tryz.sizeOf2
  v2 := Tryz.zeroValue2
  t3 := Tryz.underlying3
  a3 := Tryz.isAgg3
  z3 := Tryz.sizeOf3
  v3 := Tryz.zeroValue3
  t4 := Tryz.underlying4
  a4 := Tryz.isAgg4
  z4 := Tryz.sizeOf4
  v4 := Tryz.zeroValue4
  t5 := Tryz.underlying5
  a5 := Tryz.isAgg5
  z5 := Tryz.sizeOf5
  v5 := Tryz.zeroValue5
  t9 := Tryz.underlying9
  a9 := Tryz.isAgg9
  z9 := Tryz.sizeOf9
  v9 := Tryz.zeroValue9
  t20 := Tryz.underlying20
  a20 := Tryz.isAgg20
  z20 := Tryz.sizeOf20
  v20 := Tryz.zeroValue20
  t37 := Tryz.underlying55
  a37 := Tryz.isAgg55
  z37 := Tryz.sizeOf55
  v37 := Tryz.zeroValue55
  t46 := Tryz.underlying113
  a46 := Tryz.isAgg113
  z46 := Tryz.sizeOf113
  v46 := Tryz.zeroValue113
  t51 := Tryz.underlying123
  a51 := Tryz.isAgg123
  z51 := Tryz.sizeOf123
  v51 := Tryz.zeroValue123
  t53 := Tryz.underlying117
  a53 := Tryz.isAgg117
  z53 := Tryz.sizeOf117
  v53 := Tryz.zeroValue117
  t171 := Tryz.underlying211
  a171 := Tryz.isAgg211
  z171 := Tryz.sizeOf211
  v171 := Tryz.zeroValue211
  t173 := Tryz.underlying214
  a173 := Tryz.isAgg214
  z173 := Tryz.sizeOf214
  v173 := Tryz.zeroValue214
  t212 := Tryz.underlying217
  a212 := Tryz.isAgg217
  z212 := Tryz.sizeOf217
  v212 := Tryz.zeroValue217
  t213 := Tryz.underlying218
  a213 := Tryz.isAgg218
  z213 := Tryz.sizeOf218
  t232 := Tryz.underlying221
  a232 := Tryz.isAgg221
  z232 := Tryz.sizeOf221
  v232 := Tryz.zeroValue221
  t233 := Tryz.underlying222
  a233 := Tryz.isAgg222
  z233 := Tryz.sizeOf222
  v233 := Tryz.zeroValue222
  g17 := by kernel_rfl
  g18 := by kernel_rfl
  g19 := by kernel_rfl }
open Go.RowKit Go.Sort Go.Lib in
theorem Tryz.internal_strconv_Itoa_small (i : Nat) (hi : i < 100) (w : World) :
    Calls Tryz.prog 148 #[.int .i64 i] w fun e w' => e = .returned (.string ⟨(Lib.decDigits i).toArray⟩) ∧ w' = w := Any.internal_strconv_Itoa_small Tryz.lays243 i hi w
def Tryz.laysM171_ren : Go.Shelf.Ren := ⟨fun | 171 => 141 | 243 => 148 | 246 => 158 | 283 => 166 | 284 => 167 | 285 => 168 | 286 => 169 | 129 => 171 | 317 => 170 | 318 => 172 | 319 => 173 | 320 => 174 | 337 => 175 | 338 => 176 | n => n, fun | 3 => 3 | 9 => 9 | 2 => 2 | 4 => 4 | 171 => 211 | 0 => 0 | 53 => 117 | 37 => 55 | 5 => 5 | 173 => 214 | 212 => 217 | 51 => 123 | 20 => 20 | 213 => 218 | 46 => 113 | 232 => 221 | 233 => 222 | n => n, fun | 17 => 5 | 18 => 6 | 19 => 7 | n => n⟩
theorem Tryz.laysM171 : Go.Proofs.LaysM.n171 Tryz.prog Tryz.laysM171_ren := {
  mixed := by kernel_rfl
  f129 := Tryz.func171.trans (congrArg some (by kernel_rfl))
  f171 := Tryz.func141.trans (congrArg some (by kernel_rfl))
  f243 := Tryz.func148.trans (congrArg some (by kernel_rfl))
  f246 := Tryz.func158.trans (congrArg some (by kernel_rfl))
  f283 := Tryz.func166.trans (congrArg some (by kernel_rfl))
  f284 := Tryz.func167.trans (congrArg some (by kernel_rfl))
  f285 := Tryz.func168.trans (congrArg some (by kernel_rfl))
  f286 := Tryz.func169.trans (congrArg some (by kernel_rfl))
  f317 := Tryz.func170.trans (congrArg some (by kernel_rfl))
  f318 := Tryz.func172.trans (congrArg some (by kernel_rfl))
  f319 := Tryz.func173.trans (congrArg some (by kernel_rfl))
  f320 := Tryz.func174.trans (congrArg some (by kernel_rfl))
  f337 := Tryz.func175.trans (congrArg some (by kernel_rfl))
  f338 := Tryz.func176.trans (congrArg some (by kernel_rfl))
  t0 := Tryz.underlying0
  a0 := Tryz.isAgg0
  z0 := Tryz.sizeOf0
  v0 := Tryz.zeroValue0
  t2 := Tryz.underlying2
  a2 := Tryz.isAgg2
  z2 := Tryz.sizeOf2
  v2 := Tryz.zeroValue2
  t3 := Tryz.underlying3
  a3 := Tryz.isAgg3
  z3 := Tryz.sizeOf3
  v3 := Tryz.zeroValue3
  t4 := Tryz.underlying4
  a4 := Tryz.isAgg4
  z4 := Tryz.sizeOf4
  v4 := Tryz.zeroValue4
  t5 := Tryz.underlying5
  a5 := Tryz.isAgg5
  z5 := Tryz.sizeOf5
  v5 := Tryz.zeroValue5
  t9 := Tryz.underlying9
  a9 := Tryz.isAgg9
  z9 := Tryz.sizeOf9
  v9 := Tryz.zeroValue9
  t20 := Tryz.underlying20
  a20 := Tryz.isAgg20
  z20 := Tryz.sizeOf20
  v20 := Tryz.zeroValue20
  t37 := Tryz.underlying55
  a37 := Tryz.isAgg55
  z37 := Tryz.sizeOf55
  v37 := Tryz.zeroValue55
  t46 := Tryz.underlying113
  a46 := Tryz.isAgg113
  z46 := Tryz.sizeOf113
  v46 := Tryz.zeroValue113
  t51 := Tryz.underlying123
  a51 := Tryz.isAgg123
  z51 := Tryz.sizeOf123
  v51 := Tryz.zeroValue123
  t53 := Tryz.underlying117
  a53 := Tryz.isAgg117
  z53 := Tryz.sizeOf117
  v53 := Tryz.zeroValue117
  t171 := Tryz.underlying211
  a171 := Tryz.isAgg211
  z171 := Tryz.sizeOf211
  v171 := Tryz.zeroValue211
  t173 := Tryz.underlying214
  a173 := Tryz.isAgg214
  z173 := Tryz.sizeOf214
  v173 := Tryz.zeroValue214
  t212 := Tryz.underlying217
  a212 := Tryz.isAgg217
  z212 := Tryz.sizeOf217
  v212 := Tryz.zeroValue217
  t213 := Tryz.underlying218
  a213 := Tryz.isAgg218
  z213 := Tryz.sizeOf218
  t232 := Tryz.underlying221
  a232 := Tryz.isAgg221
  z232 := Tryz.sizeOf221
  v232 := Tryz.zeroValue221
  t233 := Tryz.underlying222
  a233 := Tryz.isAgg222
  z233 := Tryz.sizeOf222
  v233 := Tryz.zeroValue222
  g17 := by kernel_rfl
  g18 := by kernel_rfl
  g19 := by kernel_rfl
  i0 := by kernel_rfl
  i2 := by kernel_rfl
  i3 := by kernel_rfl
  i4 := by kernel_rfl
  i5 := by kernel_rfl
  i9 := by kernel_rfl
  i20 := by kernel_rfl
  i37 := by kernel_rfl
  i46 := by kernel_rfl
  i51 := by kernel_rfl
  i53 := by kernel_rfl
  i171 := by kernel_rfl
  i173 := by kernel_rfl
  i212 := by kernel_rfl
  i232 := by kernel_rfl
  i233 := by kernel_rfl
  m17 := by kernel_rfl
  m18 := by kernel_rfl
  m19 := by kernel_rfl }
open Go.RowKit Go.Sort Go.Lib in
theorem Tryz.strconv_Itoa (n : Int) (h0 : -9223372036854775808 ≤ n) (h1 : n ≤ 9223372036854775807) (w : World) (htab : Lib.TabIs Tryz.prog w "internal/strconv.uint64pow10" .u64 Lib.pow10Tab) :
    Calls Tryz.prog 141 #[.int .i64 n] w fun e w' => e = .returned (.string ⟨(Lib.itoa n).toArray⟩) ∧ ∃ k os, w' = grow (w.drewN k) os := Any.strconv_Itoa Tryz.laysM171 n h0 h1 w htab
def Tryz.lays171_ren : Go.Shelf.Ren := ⟨fun | 171 => 141 | 243 => 148 | 246 => 158 | 283 => 166 | 284 => 167 | 285 => 168 | 286 => 169 | 129 => 171 | 317 => 170 | 318 => 172 | 319 => 173 | 320 => 174 | 337 => 175 | 338 => 176 | n => n, fun | 3 => 3 | 9 => 9 | 2 => 2 | 4 => 4 | 171 => 211 | 0 => 0 | 53 => 117 | 37 => 55 | 5 => 5 | 173 => 214 | 212 => 217 | 51 => 123 | 20 => 20 | 213 => 218 | 46 => 113 | 232 => 221 | 233 => 222 | n => n, fun | 17 => 5 | 18 => 6 | 19 => 7 | n => n⟩
theorem Tryz.lays171 : Go.Proofs.Lays.n171 Tryz.prog Tryz.lays171_ren := {
  mixed := by kernel_rfl
  f129 := Tryz.func171.trans (congrArg some (by kernel_rfl))
  f171 := Tryz.func141.trans (congrArg some (by kernel_rfl))
  f243 := Tryz.func148.trans (congrArg some (by kernel_rfl))
  f246 := Tryz.func158.trans (congrArg some (by kernel_rfl))
  f283 := Tryz.func166.trans (congrArg some (by kernel_rfl))
  f284 := Tryz.func167.trans (congrArg some (by kernel_rfl))
  f285 := Tryz.func168.trans (congrArg some (by kernel_rfl))
  f286 := Tryz.func169.trans (congrArg some (by kernel_rfl))
  f317 := Tryz.func170.trans (congrArg some (by kernel_rfl))
  f318 := Tryz.func172.trans (congrArg some (by kernel_rfl))
  f319 := Tryz.func173.trans (congrArg some (by kernel_rfl))
  f320 := Tryz.func174.trans (congrArg some (by kernel_rfl))
  f337 := Tryz.func175.trans (congrArg some (by kernel_rfl))
  f338 := Tryz.func176.trans (congrArg some (by kernel_rfl))
  t0 := Tryz.underlying0
  a0 := Tryz.isAgg0
  z0 := Tryz.sizeOf0
  v0 := Tryz.zeroValue0
  t2 := Tryz.underlying2
  a2 := Tryz.isAgg2
  z2 := Tryz.sizeOf2
  v2 := Tryz.zeroValue2
  t3 := Tryz.underlying3
  a3 := Tryz.isAgg3
  z3 := Tryz.sizeOf3
  v3 := Tryz.zeroValue3
  t4 := Tryz.underlying4
  a4 := Tryz.isAgg4
  z4 := Tryz.sizeOf4
  v4 := Tryz.zeroValue4
  t5 := Tryz.underlying5
  a5 := Tryz.isAgg5
  z5 := Tryz.sizeOf5
  v5 := Tryz.zeroValue5
  t9 := Tryz.underlying9
  a9 := Tryz.isAgg9
  z9 := Tryz.sizeOf9
  v9 := Tryz.zeroValue9
  t20 := Tryz.underlying20
  a20 := Tryz.isAgg20
  z20 := Tryz.sizeOf20
  v20 := Tryz.zeroValue20
  t37 := Tryz.underlying55
  a37 := Tryz.isAgg55
  z37 := Tryz.sizeOf55
  v37 := Tryz.zeroValue55
  t46 := Tryz.underlying113
  a46 := Tryz.isAgg113
  z46 := Tryz.sizeOf113
  v46 := Tryz.zeroValue113
  t51 := Tryz.underlying123
  a51 := Tryz.isAgg123
  z51 := Tryz.sizeOf123
  v51 := Tryz.zeroValue123
  t53 := Tryz.underlying117
  a53 := Tryz.isAgg117
  z53 := Tryz.sizeOf117
  v53 := Tryz.zeroValue117
  t171 := Tryz.underlying211
  a171 := Tryz.isAgg211
  z171 := Tryz.sizeOf211
  v171 := Tryz.zeroValue211
  t173 := Tryz.underlying214
  a173 := Tryz.isAgg214
  z173 := Tryz.sizeOf214
  v173 := Tryz.zeroValue214
  t212 := Tryz.underlying217
  a212 := Tryz.isAgg217
  z212 := Tryz.sizeOf217
  v212 := Tryz.zeroValue217
  t213 := Tryz.underlying218
  a213 := Tryz.isAgg218
  z213 := Tryz.sizeOf218
  t232 := Tryz.underlying221
  a232 := Tryz.isAgg221
  z232 := Tryz.sizeOf221
  v232 := Tryz.zeroValue221
  t233 := Tryz.underlying222
  a233 := Tryz.isAgg222
  z233 := Tryz.sizeOf222
  v233 := Tryz.zeroValue222
  g17 := by kernel_rfl
  g18 := by kernel_rfl
  g19 := by kernel_rfl }
open Go.RowKit Go.Sort Go.Lib in
theorem Tryz.strconv_Itoa_small (i : Nat) (hi : i < 100) (w : World) :
    Calls Tryz.prog 141 #[.int .i64 i] w fun e w' => e = .returned (.string ⟨(Lib.decDigits i).toArray⟩) ∧ w' = w := Any.strconv_Itoa_small Tryz.lays171 i hi w
def Tryz.laysM316_ren : Go.Shelf.Ren := ⟨fun | 316 => 139 | n => n, fun | 9 => 9 | 3 => 3 | 4 => 4 | 37 => 55 | 0 => 0 | 127 => 76 | 5 => 5 | n => n, fun | n => n⟩
theorem Tryz.laysM316 : Go.Proofs.LaysM.n316 Tryz.prog Tryz.laysM316_ren := {
  mixed := by kernel_rfl
  f316 := Tryz.func139.trans (congrArg some (by kernel_rfl))
  t0 := Tryz.underlying0
  a0 := Tryz.isAgg0
  z0 := Tryz.sizeOf0
  v0 := Tryz.zeroValue0
  t3 := Tryz.underlying3
  a3 := Tryz.isAgg3
  z3 := Tryz.sizeOf3
  v3 := Tryz.zeroValue3
  t4 := Tryz.underlying4
  a4 := Tryz.isAgg4
  z4 := Tryz.sizeOf4
  v4 := Tryz.zeroValue4
  t9 := Tryz.underlying9
  a9 := Tryz.isAgg9
  z9 := Tryz.sizeOf9
  v9 := Tryz.zeroValue9
  t37 := Tryz.underlying55
  a37 := Tryz.isAgg55
  z37 := Tryz.sizeOf55
  v37 := Tryz.zeroValue55
  t127 := Tryz.underlying76
  a127 := Tryz.isAgg76
  z127 := Tryz.sizeOf76
  v127 := Tryz.zeroValue76
  t5 := Tryz.underlying5
  a5 := Tryz.isAgg5
  z5 := Tryz.sizeOf5
  v5 := Tryz.zeroValue5
  i0 := by kernel_rfl
  i3 := by kernel_rfl
  i4 := by kernel_rfl
  i5 := by kernel_rfl
  i9 := by kernel_rfl
  i37 := by kernel_rfl
  i127 := by kernel_rfl }
open Go.RowKit in
theorem Tryz.stringslite_Clone (s : ByteArray) (w : World) (hlim : s.size ≤ 281474976710656) :
    Calls Tryz.prog 139 #[.string s] w fun e w' => e = .returned (.string s) ∧ Below w.heap.size w w' := Any.stringslite_Clone Tryz.laysM316 s w hlim
def Tryz.laysM279_ren : Go.Shelf.Ren := ⟨fun | 279 => 129 | 316 => 139 | n => n, fun | 9 => 9 | 168 => 160 | 75 => 60 | 210 => 178 | 3 => 3 | 4 => 4 | 37 => 55 | 0 => 0 | 127 => 76 | 80 => 63 | 5 => 5 | n => n, fun | 15 => 3 | n => n⟩
theorem Tryz.laysM279 : Go.Proofs.LaysM.n279 Tryz.prog Tryz.laysM279_ren := {
  mixed := by kernel_rfl
  f279 := Tryz.func129.trans (congrArg some (by kernel_rfl))
  f316 := Tryz.func139.trans (congrArg some (by kernel_rfl))
  t0 := Tryz.underlying0
  a0 := Tryz.isAgg0
  z0 := Tryz.sizeOf0
  v0 := Tryz.zeroValue0
  t3 := Tryz.underlying3
  a3 := Tryz.isAgg3
  z3 := Tryz.sizeOf3
  v3 := Tryz.zeroValue3
  t4 := Tryz.underlying4
  a4 := Tryz.isAgg4
  z4 := Tryz.sizeOf4
  v4 := Tryz.zeroValue4
  t9 := Tryz.underlying9
  a9 := Tryz.isAgg9
  z9 := Tryz.sizeOf9
  v9 := Tryz.zeroValue9
  t37 := Tryz.underlying55
  a37 := Tryz.isAgg55
  z37 := Tryz.sizeOf55
  v37 := Tryz.zeroValue55
  t75 := Tryz.underlying60
  a75 := Tryz.isAgg60
  z75 := Tryz.sizeOf60
  v75 := Tryz.zeroValue60
  t127 := Tryz.underlying76
  a127 := Tryz.isAgg76
  z127 := Tryz.sizeOf76
  v127 := Tryz.zeroValue76
  t168 := Tryz.underlying160
  a168 := Tryz.isAgg160
  z168 := Tryz.sizeOf160
  v168 := Tryz.zeroValue160
  t210 := Tryz.underlying178
  a210 := Tryz.isAgg178
  z210 := Tryz.sizeOf178
  v210 := Tryz.zeroValue178
  g15 := by kernel_rfl
  t5 := Tryz.underlying5
  a5 := Tryz.isAgg5
  z5 := Tryz.sizeOf5
  v5 := Tryz.zeroValue5
  t80 := Tryz.underlying63
  a80 := Tryz.isAgg63
  z80 := Tryz.sizeOf63
  v80 := Tryz.zeroValue63
  i0 := by kernel_rfl
  i3 := by kernel_rfl
  i4 := by kernel_rfl
  i5 := by kernel_rfl
  i9 := by kernel_rfl
  i37 := by kernel_rfl
  i75 := by kernel_rfl
  i80 := by kernel_rfl
  i127 := by kernel_rfl
  i168 := by kernel_rfl
  i210 := by kernel_rfl
  m15 := by kernel_rfl }
open Go.RowKit in
theorem Tryz.strconv_syntaxError (fn s : ByteArray) (ev : Value) (w : World) (hlim : s.size ≤ 281474976710656) (hv : w.cell? ⟨3, 0, none⟩ = some ev) (hev : ev = .nilIface ∨ ∃ te pe, ev = .iface te pe) :
    Calls Tryz.prog 129 #[.string fn, .string s] w fun e w' => ∃ N, e = .returned (.pointer (some ⟨N, 0, none⟩)) ∧ w.heap.size ≤ N ∧ w'.heap[N]? = some (.cells #[.string fn, .string s, ev] 178 (0, 0)) ∧ Below w.heap.size w w' := Any.strconv_syntaxError Tryz.laysM279 fn s ev w hlim hv hev
def Tryz.laysC245_ren : Go.Shelf.Ren := ⟨fun | 245 => 119 | 279 => 129 | 280 => 130 | 281 => 131 | 282 => 132 | 316 => 139 | 171 => 141 | 205 => 140 | 243 => 148 | 246 => 158 | 283 => 166 | 284 => 167 | 285 => 168 | 286 => 169 | 129 => 171 | 317 => 170 | 318 => 172 | 319 => 173 | 320 => 174 | 337 => 175 | 338 => 176 | n => n, fun | 9 => 9 | 3 => 3 | 75 => 60 | 167 => 158 | 4 => 4 | 168 => 160 | 210 => 178 | 37 => 55 | 0 => 0 | 127 => 76 | 145 => 196 | 143 => 194 | 2 => 2 | 171 => 211 | 53 => 117 | 5 => 5 | 173 => 214 | 212 => 217 | 51 => 123 | 20 => 20 | 213 => 218 | 46 => 113 | 232 => 221 | 233 => 222 | 80 => 63 | n => n, fun | 15 => 3 | 16 => 4 | 17 => 5 | 18 => 6 | 19 => 7 | n => n⟩
theorem Tryz.laysC245 : Go.Proofs.LaysC.n245 Tryz.prog Tryz.laysC245_ren := {
  mixed := by kernel_rfl
  f129 := Tryz.func171.trans (congrArg some (by kernel_rfl))
  f171 := Tryz.func141.trans (congrArg some (by kernel_rfl))
  f205 := Tryz.func140.trans (congrArg some (by kernel_rfl))
  f243 := Tryz.func148.trans (congrArg some (by kernel_rfl))
  f245 := Tryz.func119.trans (congrArg some (by kernel_rfl))
  f246 := Tryz.func158.trans (congrArg some (by kernel_rfl))
  f279 := Tryz.func129.trans (congrArg some (by kernel_rfl))
  f280 := Tryz.func130.trans (congrArg some (by kernel_rfl))
  f281 := Tryz.func131.trans (congrArg some (by kernel_rfl))
  f282 := Tryz.func132.trans (congrArg some (by kernel_rfl))
  f283 := Tryz.func166.trans (congrArg some (by kernel_rfl))
  f284 := Tryz.func167.trans (congrArg some (by kernel_rfl))
  f285 := Tryz.func168.trans (congrArg some (by kernel_rfl))
  f286 := Tryz.func169.trans (congrArg some (by kernel_rfl))
  f316 := Tryz.func139.trans (congrArg some (by kernel_rfl))
  f317 := Tryz.func170.trans (congrArg some (by kernel_rfl))
  f318 := Tryz.func172.trans (congrArg some (by kernel_rfl))
  f319 := Tryz.func173.trans (congrArg some (by kernel_rfl))
  f320 := Tryz.func174.trans (congrArg some (by kernel_rfl))
  f337 := Tryz.func175.trans (congrArg some (by kernel_rfl))
  f338 := Tryz.func176.trans (congrArg some (by kernel_rfl))
  t0 := Tryz.underlying0
  a0 := Tryz.isAgg0
  z0 := Tryz.sizeOf0
  v0 := Tryz.zeroValue0
  t2 := Tryz.underlying2
  a2 := Tryz.isAgg2
  z2 := Tryz.sizeOf2
  v2 := Tryz.zeroValue2
  t3 := Tryz.underlying3
  a3 := Tryz.isAgg3
  z3 := Tryz.sizeOf3
  v3 := Tryz.zeroValue3
  t4 := Tryz.underlying4
  a4 := Tryz.isAgg4
  z4 := Tryz.sizeOf4
  v4 := Tryz.zeroValue4
  t5 := Tryz.underlying5
  a5 := Tryz.isAgg5
  z5 := Tryz.sizeOf5
  v5 := Tryz.zeroValue5
  t9 := Tryz.underlying9
  a9 := Tryz.isAgg9
  z9 := Tryz.sizeOf9
  v9 := Tryz.zeroValue9
  t20 := Tryz.underlying20
  a20 := Tryz.isAgg20
  z20 := Tryz.sizeOf20
  v20 := Tryz.zeroValue20
  t37 := Tryz.underlying55
  a37 := Tryz.isAgg55
  z37 := Tryz.sizeOf55
  v37 := Tryz.zeroValue55
  t46 := Tryz.underlying113
  a46 := Tryz.isAgg113
  z46 := Tryz.sizeOf113
  v46 := Tryz.zeroValue113
  t51 := Tryz.underlying123
  a51 := Tryz.isAgg123
  z51 := Tryz.sizeOf123
  v51 := Tryz.zeroValue123
  t53 := Tryz.underlying117
  a53 := Tryz.isAgg117
  z53 := Tryz.sizeOf117
  v53 := Tryz.zeroValue117
  t75 := Tryz.underlying60
  a75 := Tryz.isAgg60
  z75 := Tryz.sizeOf60
  v75 := Tryz.zeroValue60
  t127 := Tryz.underlying76
  a127 := Tryz.isAgg76
  z127 := Tryz.sizeOf76
  v127 := Tryz.zeroValue76
  t143 := Tryz.underlying194
  a143 := Tryz.isAgg194
  z143 := Tryz.sizeOf194
  v143 := Tryz.zeroValue194
  t145 := Tryz.underlying196
  a145 := Tryz.isAgg196
  z145 := Tryz.sizeOf196
  v145 := Tryz.zeroValue196
  t167 := Tryz.underlying158
  a167 := Tryz.isAgg158
  z167 := Tryz.sizeOf158
  v167 := Tryz.zeroValue158
  t168 := Tryz.underlying160
  a168 := Tryz.isAgg160
  z168 := Tryz.sizeOf160
  v168 := Tryz.zeroValue160
  t171 := Tryz.underlying211
  a171 := Tryz.isAgg211
  z171 := Tryz.sizeOf211
  v171 := Tryz.zeroValue211
  t173 := Tryz.underlying214
  a173 := Tryz.isAgg214
  z173 := Tryz.sizeOf214
  v173 := Tryz.zeroValue214
  t210 := Tryz.underlying178
  a210 := Tryz.isAgg178
  z210 := Tryz.sizeOf178
  v210 := Tryz.zeroValue178
  t212 := Tryz.underlying217
  a212 := Tryz.isAgg217
  z212 := Tryz.sizeOf217
  v212 := Tryz.zeroValue217
  t213 := Tryz.underlying218
  a213 := Tryz.isAgg218
  z213 := Tryz.sizeOf218
  t232 := Tryz.underlying221
  a232 := Tryz.isAgg221
  z232 := Tryz.sizeOf221
  v232 := Tryz.zeroValue221
  t233 := Tryz.underlying222
  a233 := Tryz.isAgg222
  z233 := Tryz.sizeOf222
  v233 := Tryz.zeroValue222
  g15 := by kernel_rfl
  g16 := by kernel_rfl
  g17 := by kernel_rfl
  g18 := by kernel_rfl
  g19 := by kernel_rfl
  t80 := Tryz.underlying63
  a80 := Tryz.isAgg63
  z80 := Tryz.sizeOf63
  v80 := Tryz.zeroValue63
  i0 := by kernel_rfl
  i2 := by kernel_rfl
  i3 := by kernel_rfl
  i4 := by kernel_rfl
  i5 := by kernel_rfl
  i9 := by kernel_rfl
  i20 := by kernel_rfl
  i37 := by kernel_rfl
  i46 := by kernel_rfl
  i51 := by kernel_rfl
  i53 := by kernel_rfl
  i75 := by kernel_rfl
  i80 := by kernel_rfl
  i127 := by kernel_rfl
  i143 := by kernel_rfl
  i145 := by kernel_rfl
  i167 := by kernel_rfl
  i168 := by kernel_rfl
  i171 := by kernel_rfl
  i173 := by kernel_rfl
  i210 := by kernel_rfl
  i212 := by kernel_rfl
  i232 := by kernel_rfl
  i233 := by kernel_rfl
  m15 := by kernel_rfl
  m16 := by kernel_rfl
  m17 := by kernel_rfl
  m18 := by kernel_rfl
  m19 := by kernel_rfl
  c0 := by kernel_rfl
  c2 := by kernel_rfl
  c3 := by kernel_rfl
  c4 := by kernel_rfl
  c5 := by kernel_rfl
  c9 := by kernel_rfl
  c20 := by kernel_rfl
  c37 := by kernel_rfl
  c46 := by kernel_rfl
  c51 := by kernel_rfl
  c53 := by kernel_rfl
  c75 := by kernel_rfl
  c80 := by kernel_rfl
  c127 := by kernel_rfl
  c143 := by kernel_rfl
  c145 := by kernel_rfl
  c167 := by kernel_rfl
  c168 := by kernel_rfl
  c171 := by kernel_rfl
  c173 := by kernel_rfl
  c210 := by kernel_rfl
  c212 := by kernel_rfl
  c213 := by kernel_rfl
  c232 := by kernel_rfl
  c233 := by kernel_rfl }
open Go.RowKit in
theorem Tryz.strconv_toError_syntax (fn s : ByteArray) (base bits : Int) (ev : Value) (w : World) (hlim : s.size ≤ 281474976710656) (hv : w.cell? ⟨3, 0, none⟩ = some ev) (hev : ev = .nilIface ∨ ∃ te pe, ev = .iface te pe) :
    Calls Tryz.prog 119 #[.string fn, .string s, .int .i64 base, .int .i64 bits, .iface 158 (.int .i64 2)] w fun e w' => ∃ N, e = .returned (.iface 160 (.pointer (some ⟨N, 0, none⟩))) ∧ w.heap.size ≤ N ∧ w'.heap[N]? = some (.cells #[.string fn, .string s, ev] 178 (0, 0)) ∧ Below w.heap.size w w' := Any.strconv_toError_syntax Tryz.laysC245 fn s base bits ev w hlim hv hev
def Tryz.lays321_ren : Go.Shelf.Ren := ⟨fun | 321 => 127 | n => n, fun | 5 => 5 | n => n, fun | n => n⟩
theorem Tryz.lays321 : Go.Proofs.Lays.n321 Tryz.prog Tryz.lays321_ren := {
  mixed := by kernel_rfl
  f321 := Tryz.func127.trans (congrArg some (by kernel_rfl))
  t5 := Tryz.underlying5
  a5 := Tryz.isAgg5
  z5 := Tryz.sizeOf5
  v5 := Tryz.zeroValue5 }
open Go.RowKit in
theorem Tryz.internal_strconv_lower (c : Int) (w : World) :
    Calls Tryz.prog 127 #[.int .u8 c] w fun e w' => e = .returned (.int .u8 (bits .or .u8 c 32)) ∧ w' = w := Any.internal_strconv_lower Tryz.lays321 c w
def Tryz.lays287_ren : Go.Shelf.Ren := ⟨fun | 287 => 118 | 321 => 127 | 322 => 128 | n => n, fun | 9 => 9 | 3 => 3 | 53 => 117 | 75 => 60 | 4 => 4 | 167 => 158 | 5 => 5 | 46 => 113 | 37 => 55 | 0 => 0 | 21 => 21 | 80 => 63 | n => n, fun | n => n⟩
theorem Tryz.lays287 : Go.Proofs.Lays.n287 Tryz.prog Tryz.lays287_ren := {
  mixed := by kernel_rfl
  f287 := Tryz.func118.trans (congrArg some (by kernel_rfl))
  f321 := Tryz.func127.trans (congrArg some (by kernel_rfl))
  f322 := Tryz.func128.trans (congrArg some (by kernel_rfl))
  t0 := Tryz.underlying0
  a0 := Tryz.isAgg0
  z0 := Tryz.sizeOf0
  v0 := Tryz.zeroValue0
  t3 := Tryz.underlying3
  a3 := Tryz.isAgg3
  z3 := Tryz.sizeOf3
  v3 := Tryz.zeroValue3
  t4 := Tryz.underlying4
  a4 := Tryz.isAgg4
  z4 := Tryz.sizeOf4
  v4 := Tryz.zeroValue4
  t5 := Tryz.underlying5
  a5 := Tryz.isAgg5
  z5 := Tryz.sizeOf5
  v5 := Tryz.zeroValue5
  t9 := Tryz.underlying9
  a9 := Tryz.isAgg9
  z9 := Tryz.sizeOf9
  v9 := Tryz.zeroValue9
  t21 := Tryz.underlying21
  a21 := Tryz.isAgg21
  z21 := Tryz.sizeOf21
  v21 := Tryz.zeroValue21
  t37 := Tryz.underlying55
  a37 := Tryz.isAgg55
  z37 := Tryz.sizeOf55
  v37 := Tryz.zeroValue55
  t46 := Tryz.underlying113
  a46 := Tryz.isAgg113
  z46 := Tryz.sizeOf113
  v46 := Tryz.zeroValue113
  t53 := Tryz.underlying117
  a53 := Tryz.isAgg117
  z53 := Tryz.sizeOf117
  v53 := Tryz.zeroValue117
  t75 := Tryz.underlying60
  a75 := Tryz.isAgg60
  z75 := Tryz.sizeOf60
  v75 := Tryz.zeroValue60
  t167 := Tryz.underlying158
  a167 := Tryz.isAgg158
  z167 := Tryz.sizeOf158
  v167 := Tryz.zeroValue158 }
open Go.RowKit in
theorem Tryz.internal_strconv_ParseUint_empty (base bits : Int) (w : World) :
    Calls Tryz.prog 118 #[.string ⟨#[]⟩, .int .i64 base, .int .i64 bits] w fun e w' => e = .returned (.tuple #[.int .u64 0, .iface 158 (.int .i64 2)]) ∧ w' = w := Any.internal_strconv_ParseUint_empty Tryz.lays287 base bits w
def Tryz.lays217_ren : Go.Shelf.Ren := ⟨fun | 217 => 47 | 266 => 71 | n => n, fun | 9 => 9 | 5 => 5 | 3 => 3 | n => n, fun | n => n⟩
theorem Tryz.lays217 : Go.Proofs.Lays.n217 Tryz.prog Tryz.lays217_ren := {
  mixed := by kernel_rfl
  f217 := Tryz.func47.trans (congrArg some (by kernel_rfl))
  f266 := Tryz.func71.trans (congrArg some (by kernel_rfl))
  t3 := Tryz.underlying3
  a3 := Tryz.isAgg3
  z3 := Tryz.sizeOf3
  v3 := Tryz.zeroValue3
  t5 := Tryz.underlying5
  a5 := Tryz.isAgg5
  z5 := Tryz.sizeOf5
  v5 := Tryz.zeroValue5
  t9 := Tryz.underlying9
  a9 := Tryz.isAgg9
  z9 := Tryz.sizeOf9
  v9 := Tryz.zeroValue9 }
open Go.RowKit Go.Lib in
theorem Tryz.stringslite_IndexByte (s : ByteArray) (c : Int) (w : World) :
    Calls Tryz.prog 47 #[.string s, .int .u8 c] w fun e w' => e = .returned (.int .i64 (Lib.indexByte s.data.toList c.toNat.toUInt8)) ∧ w' = w := Any.stringslite_IndexByte Tryz.lays217 s c w
def Tryz.lays224_ren : Go.Shelf.Ren := ⟨fun | 224 => 95 | n => n, fun | 3 => 3 | n => n, fun | n => n⟩
theorem Tryz.lays224 : Go.Proofs.Lays.n224 Tryz.prog Tryz.lays224_ren := {
  mixed := by kernel_rfl
  f224 := Tryz.func95.trans (congrArg some (by kernel_rfl))
  t3 := Tryz.underlying3
  a3 := Tryz.isAgg3
  z3 := Tryz.sizeOf3
  v3 := Tryz.zeroValue3 }
open Go.RowKit Go.Lib in
theorem Tryz.bytealg_Cutover (n : Int) (h0 : 0 ≤ n) (h1 : n < 4611686018427387904) (w : World) :
    Calls Tryz.prog 95 #[.int .i64 n] w fun e w' => e = .returned (.int .i64 ((n + 16) / 8)) ∧ w' = w := Any.bytealg_Cutover Tryz.lays224 n h0 h1 w
def Tryz.lays314_ren : Go.Shelf.Ren := ⟨fun | 314 => 115 | n => n, fun | 9 => 9 | 51 => 123 | 3 => 3 | 4 => 4 | 5 => 5 | 46 => 113 | n => n, fun | n => n⟩
theorem Tryz.lays314 : Go.Proofs.Lays.n314 Tryz.prog Tryz.lays314_ren := {
  mixed := by kernel_rfl
  f314 := Tryz.func115.trans (congrArg some (by kernel_rfl))
  t3 := Tryz.underlying3
  a3 := Tryz.isAgg3
  z3 := Tryz.sizeOf3
  v3 := Tryz.zeroValue3
  t4 := Tryz.underlying4
  a4 := Tryz.isAgg4
  z4 := Tryz.sizeOf4
  v4 := Tryz.zeroValue4
  t5 := Tryz.underlying5
  a5 := Tryz.isAgg5
  z5 := Tryz.sizeOf5
  v5 := Tryz.zeroValue5
  t9 := Tryz.underlying9
  a9 := Tryz.isAgg9
  z9 := Tryz.sizeOf9
  v9 := Tryz.zeroValue9
  t46 := Tryz.underlying113
  a46 := Tryz.isAgg113
  z46 := Tryz.sizeOf113
  v46 := Tryz.zeroValue113
  t51 := Tryz.underlying123
  a51 := Tryz.isAgg123
  z51 := Tryz.sizeOf123
  v51 := Tryz.zeroValue123 }
open Go.RowKit Go.Lib in
theorem Tryz.bytealg_hashStr (sep : ByteArray) (hs : sep.size < 4294967281) (w : World) :
    Calls Tryz.prog 115 #[.string sep] w fun e w' => e = .returned (.tuple #[.int .u32 (RK.H sep.data.toList % 4294967296), .int .u32 (16777619 ^ sep.size % 4294967296)]) ∧ w' = w := Any.bytealg_hashStr Tryz.lays314 sep hs w
def Tryz.lays267_ren : Go.Shelf.Ren := ⟨fun | 267 => 96 | 314 => 115 | n => n, fun | 9 => 9 | 3 => 3 | 146 => 145 | 51 => 123 | 4 => 4 | 5 => 5 | 46 => 113 | n => n, fun | n => n⟩
theorem Tryz.lays267 : Go.Proofs.Lays.n267 Tryz.prog Tryz.lays267_ren := {
  mixed := by kernel_rfl
  f267 := Tryz.func96.trans (congrArg some (by kernel_rfl))
  f314 := Tryz.func115.trans (congrArg some (by kernel_rfl))
  t3 := Tryz.underlying3
  a3 := Tryz.isAgg3
  z3 := Tryz.sizeOf3
  v3 := Tryz.zeroValue3
  t4 := Tryz.underlying4
  a4 := Tryz.isAgg4
  z4 := Tryz.sizeOf4
  v4 := Tryz.zeroValue4
  t5 := Tryz.underlying5
  a5 := Tryz.isAgg5
  z5 := Tryz.sizeOf5
  v5 := Tryz.zeroValue5
  t9 := Tryz.underlying9
  a9 := Tryz.isAgg9
  z9 := Tryz.sizeOf9
  v9 := Tryz.zeroValue9
  t46 := Tryz.underlying113
  a46 := Tryz.isAgg113
  z46 := Tryz.sizeOf113
  v46 := Tryz.zeroValue113
  t51 := Tryz.underlying123
  a51 := Tryz.isAgg123
  z51 := Tryz.sizeOf123
  v51 := Tryz.zeroValue123
  t146 := Tryz.underlying145
  a146 := Tryz.isAgg145
  z146 := Tryz.sizeOf145
  v146 := Tryz.zeroValue145 }
open Go.RowKit Go.Lib in
theorem Tryz.bytealg_IndexRabinKarp (s sep : ByteArray) (h1 : 1 ≤ sep.size) (h2 : sep.size ≤ s.size) (hs : s.size < 4294967281) (w : World) :
    Calls Tryz.prog 96 #[.string s, .string sep] w fun e w' => e = .returned (.int .i64 (Lib.index s.data.toList sep.data.toList)) ∧ w' = w := Any.bytealg_IndexRabinKarp Tryz.lays267 s sep h1 h2 hs w
def Tryz.lays219_ren : Go.Shelf.Ren := ⟨fun | 219 => 67 | 217 => 47 | 225 => 94 | 224 => 95 | 267 => 96 | 266 => 71 | 314 => 115 | n => n, fun | 9 => 9 | 3 => 3 | 4 => 4 | 5 => 5 | 46 => 113 | 146 => 145 | 51 => 123 | n => n, fun | 1 => 0 | n => n⟩
theorem Tryz.lays219 : Go.Proofs.Lays.n219 Tryz.prog Tryz.lays219_ren := {
  mixed := by kernel_rfl
  f217 := Tryz.func47.trans (congrArg some (by kernel_rfl))
  f219 := Tryz.func67.trans (congrArg some (by kernel_rfl))
  f224 := Tryz.func95.trans (congrArg some (by kernel_rfl))
  f225 := Tryz.func94.trans (congrArg some (by kernel_rfl))
  f266 := Tryz.func71.trans (congrArg some (by kernel_rfl))
  f267 := Tryz.func96.trans (congrArg some (by kernel_rfl))
  f314 := Tryz.func115.trans (congrArg some (by kernel_rfl))
  t3 := Tryz.underlying3
  a3 := Tryz.isAgg3
  z3 := Tryz.sizeOf3
  v3 := Tryz.zeroValue3
  t4 := Tryz.underlying4
  a4 := Tryz.isAgg4
  z4 := Tryz.sizeOf4
  v4 := Tryz.zeroValue4
  t5 := Tryz.underlying5
  a5 := Tryz.isAgg5
  z5 := Tryz.sizeOf5
  v5 := Tryz.zeroValue5
  t9 := Tryz.underlying9
  a9 := Tryz.isAgg9
  z9 := Tryz.sizeOf9
  v9 := Tryz.zeroValue9
  t46 := Tryz.underlying113
  a46 := Tryz.isAgg113
  z46 := Tryz.sizeOf113
  v46 := Tryz.zeroValue113
  t51 := Tryz.underlying123
  a51 := Tryz.isAgg123
  z51 := Tryz.sizeOf123
  v51 := Tryz.zeroValue123
  t146 := Tryz.underlying145
  a146 := Tryz.isAgg145
  z146 := Tryz.sizeOf145
  v146 := Tryz.zeroValue145
  g1 := by kernel_rfl }
open Go.RowKit Go.Lib in
theorem Tryz.stringslite_Index_one (s : ByteArray) (c : UInt8) (w : World) :
    Calls Tryz.prog 67 #[.string s, .string ⟨#[c]⟩] w fun e w' => e = .returned (.int .i64 (Lib.indexByte s.data.toList c)) ∧ w' = w := Any.stringslite_Index_one Tryz.lays219 s c w
open Go.RowKit Go.Lib in
theorem Tryz.stringslite_Index (s sub : ByteArray) (m : Int) (w : World) (hs : s.size < 4294967281) (hm : w.cell? ⟨0, 0, none⟩ = some (.int .i64 m)) :
    Calls Tryz.prog 67 #[.string s, .string sub] w fun e w' => e = .returned (.int .i64 (Lib.index s.data.toList sub.data.toList)) ∧ w' = w := Any.stringslite_Index Tryz.lays219 s sub m w hs hm
def Tryz.lays143_ren : Go.Shelf.Ren := ⟨fun | 143 => 41 | 219 => 67 | 217 => 47 | 225 => 94 | 224 => 95 | 267 => 96 | 266 => 71 | 314 => 115 | n => n, fun | 9 => 9 | 3 => 3 | 4 => 4 | 5 => 5 | 46 => 113 | 146 => 145 | 51 => 123 | n => n, fun | 1 => 0 | n => n⟩
theorem Tryz.lays143 : Go.Proofs.Lays.n143 Tryz.prog Tryz.lays143_ren := {
  mixed := by kernel_rfl
  f143 := Tryz.func41.trans (congrArg some (by kernel_rfl))
  f217 := Tryz.func47.trans (congrArg some (by kernel_rfl))
  f219 := Tryz.func67.trans (congrArg some (by kernel_rfl))
  f224 := Tryz.func95.trans (congrArg some (by kernel_rfl))
  f225 := Tryz.func94.trans (congrArg some (by kernel_rfl))
  f266 := Tryz.func71.trans (congrArg some (by kernel_rfl))
  f267 := Tryz.func96.trans (congrArg some (by kernel_rfl))
  f314 := Tryz.func115.trans (congrArg some (by kernel_rfl))
  t3 := Tryz.underlying3
  a3 := Tryz.isAgg3
  z3 := Tryz.sizeOf3
  v3 := Tryz.zeroValue3
  t4 := Tryz.underlying4
  a4 := Tryz.isAgg4
  z4 := Tryz.sizeOf4
  v4 := Tryz.zeroValue4
  t5 := Tryz.underlying5
  a5 := Tryz.isAgg5
  z5 := Tryz.sizeOf5
  v5 := Tryz.zeroValue5
  t9 := Tryz.underlying9
  a9 := Tryz.isAgg9
  z9 := Tryz.sizeOf9
  v9 := Tryz.zeroValue9
  t46 := Tryz.underlying113
  a46 := Tryz.isAgg113
  z46 := Tryz.sizeOf113
  v46 := Tryz.zeroValue113
  t51 := Tryz.underlying123
  a51 := Tryz.isAgg123
  z51 := Tryz.sizeOf123
  v51 := Tryz.zeroValue123
  t146 := Tryz.underlying145
  a146 := Tryz.isAgg145
  z146 := Tryz.sizeOf145
  v146 := Tryz.zeroValue145
  g1 := by kernel_rfl }
open Go.RowKit Go.Lib in
theorem Tryz.strings_Index_one (s : ByteArray) (c : UInt8) (w : World) :
    Calls Tryz.prog 41 #[.string s, .string ⟨#[c]⟩] w fun e w' => e = .returned (.int .i64 (Lib.indexByte s.data.toList c)) ∧ w' = w := Any.strings_Index_one Tryz.lays143 s c w
open Go.RowKit Go.Lib in
theorem Tryz.strings_Index (s sub : ByteArray) (m : Int) (w : World) (hs : s.size < 4294967281) (hm : w.cell? ⟨0, 0, none⟩ = some (.int .i64 m)) :
    Calls Tryz.prog 41 #[.string s, .string sub] w fun e w' => e = .returned (.int .i64 (Lib.index s.data.toList sub.data.toList)) ∧ w' = w := Any.strings_Index Tryz.lays143 s sub m w hs hm
def Tryz.lays144_ren : Go.Shelf.Ren := ⟨fun | 144 => 21 | 143 => 41 | 219 => 67 | 217 => 47 | 225 => 94 | 224 => 95 | 267 => 96 | 266 => 71 | 314 => 115 | n => n, fun | 9 => 9 | 4 => 4 | 3 => 3 | 5 => 5 | 46 => 113 | 146 => 145 | 51 => 123 | n => n, fun | 1 => 0 | n => n⟩
theorem Tryz.lays144 : Go.Proofs.Lays.n144 Tryz.prog Tryz.lays144_ren := {
  mixed := by kernel_rfl
  f143 := Tryz.func41.trans (congrArg some (by kernel_rfl))
  f144 := Tryz.func21.trans (congrArg some (by kernel_rfl))
  f217 := Tryz.func47.trans (congrArg some (by kernel_rfl))
  f219 := Tryz.func67.trans (congrArg some (by kernel_rfl))
  f224 := Tryz.func95.trans (congrArg some (by kernel_rfl))
  f225 := Tryz.func94.trans (congrArg some (by kernel_rfl))
  f266 := Tryz.func71.trans (congrArg some (by kernel_rfl))
  f267 := Tryz.func96.trans (congrArg some (by kernel_rfl))
  f314 := Tryz.func115.trans (congrArg some (by kernel_rfl))
  t3 := Tryz.underlying3
  a3 := Tryz.isAgg3
  z3 := Tryz.sizeOf3
  v3 := Tryz.zeroValue3
  t4 := Tryz.underlying4
  a4 := Tryz.isAgg4
  z4 := Tryz.sizeOf4
  v4 := Tryz.zeroValue4
  t5 := Tryz.underlying5
  a5 := Tryz.isAgg5
  z5 := Tryz.sizeOf5
  v5 := Tryz.zeroValue5
  t9 := Tryz.underlying9
  a9 := Tryz.isAgg9
  z9 := Tryz.sizeOf9
  v9 := Tryz.zeroValue9
  t46 := Tryz.underlying113
  a46 := Tryz.isAgg113
  z46 := Tryz.sizeOf113
  v46 := Tryz.zeroValue113
  t51 := Tryz.underlying123
  a51 := Tryz.isAgg123
  z51 := Tryz.sizeOf123
  v51 := Tryz.zeroValue123
  t146 := Tryz.underlying145
  a146 := Tryz.isAgg145
  z146 := Tryz.sizeOf145
  v146 := Tryz.zeroValue145
  g1 := by kernel_rfl }
open Go.RowKit Go.Lib in
theorem Tryz.strings_Contains_one (s : ByteArray) (c : UInt8) (w : World) :
    Calls Tryz.prog 21 #[.string s, .string ⟨#[c]⟩] w fun e w' => e = .returned (.bool (decide (0 ≤ Lib.indexByte s.data.toList c))) ∧ w' = w := Any.strings_Contains_one Tryz.lays144 s c w
open Go.RowKit Go.Lib in
theorem Tryz.strings_Contains (s sub : ByteArray) (m : Int) (w : World) (hs : s.size < 4294967281) (hm : w.cell? ⟨0, 0, none⟩ = some (.int .i64 m)) :
    Calls Tryz.prog 21 #[.string s, .string sub] w fun e w' => e = .returned (.bool (Lib.contains s.data.toList sub.data.toList)) ∧ w' = w := Any.strings_Contains Tryz.lays144 s sub m w hs hm
def Tryz.lays220_ren : Go.Shelf.Ren := ⟨fun | 220 => 103 | 219 => 67 | 217 => 47 | 225 => 94 | 224 => 95 | 267 => 96 | 266 => 71 | 314 => 115 | n => n, fun | 9 => 9 | 4 => 4 | 3 => 3 | 5 => 5 | 46 => 113 | 146 => 145 | 51 => 123 | n => n, fun | 1 => 0 | n => n⟩
theorem Tryz.lays220 : Go.Proofs.Lays.n220 Tryz.prog Tryz.lays220_ren := {
  mixed := by kernel_rfl
  f217 := Tryz.func47.trans (congrArg some (by kernel_rfl))
  f219 := Tryz.func67.trans (congrArg some (by kernel_rfl))
  f220 := Tryz.func103.trans (congrArg some (by kernel_rfl))
  f224 := Tryz.func95.trans (congrArg some (by kernel_rfl))
  f225 := Tryz.func94.trans (congrArg some (by kernel_rfl))
  f266 := Tryz.func71.trans (congrArg some (by kernel_rfl))
  f267 := Tryz.func96.trans (congrArg some (by kernel_rfl))
  f314 := Tryz.func115.trans (congrArg some (by kernel_rfl))
  t3 := Tryz.underlying3
  a3 := Tryz.isAgg3
  z3 := Tryz.sizeOf3
  v3 := Tryz.zeroValue3
  t4 := Tryz.underlying4
  a4 := Tryz.isAgg4
  z4 := Tryz.sizeOf4
  v4 := Tryz.zeroValue4
  t5 := Tryz.underlying5
  a5 := Tryz.isAgg5
  z5 := Tryz.sizeOf5
  v5 := Tryz.zeroValue5
  t9 := Tryz.underlying9
  a9 := Tryz.isAgg9
  z9 := Tryz.sizeOf9
  v9 := Tryz.zeroValue9
  t46 := Tryz.underlying113
  a46 := Tryz.isAgg113
  z46 := Tryz.sizeOf113
  v46 := Tryz.zeroValue113
  t51 := Tryz.underlying123
  a51 := Tryz.isAgg123
  z51 := Tryz.sizeOf123
  v51 := Tryz.zeroValue123
  t146 := Tryz.underlying145
  a146 := Tryz.isAgg145
  z146 := Tryz.sizeOf145
  v146 := Tryz.zeroValue145
  g1 := by kernel_rfl }
open Go.RowKit Go.Lib in
theorem Tryz.stringslite_Cut (s sep : ByteArray) (m : Int) (w : World) (hs : s.size < 4294967281) (hm : w.cell? ⟨0, 0, none⟩ = some (.int .i64 m)) :
    Calls Tryz.prog 103 #[.string s, .string sep] w fun e w' => e = .returned (.tuple #[.string ⟨(Lib.cut s.data.toList sep.data.toList).1.toArray⟩, .string ⟨(Lib.cut s.data.toList sep.data.toList).2.1.toArray⟩, .bool (Lib.cut s.data.toList sep.data.toList).2.2]) ∧ ∃ n, w' = w.drewN n := Any.stringslite_Cut Tryz.lays220 s sep m w hs hm
def Tryz.lays145_ren : Go.Shelf.Ren := ⟨fun | 145 => 79 | 220 => 103 | 219 => 67 | 217 => 47 | 225 => 94 | 224 => 95 | 267 => 96 | 266 => 71 | 314 => 115 | n => n, fun | 9 => 9 | 4 => 4 | 59 => 98 | 3 => 3 | 5 => 5 | 46 => 113 | 146 => 145 | 51 => 123 | n => n, fun | 1 => 0 | n => n⟩
theorem Tryz.lays145 : Go.Proofs.Lays.n145 Tryz.prog Tryz.lays145_ren := {
  mixed := by kernel_rfl
  f145 := Tryz.func79.trans (congrArg some (by kernel_rfl))
  f217 := Tryz.func47.trans (congrArg some (by kernel_rfl))
  f219 := Tryz.func67.trans (congrArg some (by kernel_rfl))
  f220 := Tryz.func103.trans (congrArg some (by kernel_rfl))
  f224 := Tryz.func95.trans (congrArg some (by kernel_rfl))
  f225 := Tryz.func94.trans (congrArg some (by kernel_rfl))
  f266 := Tryz.func71.trans (congrArg some (by kernel_rfl))
  f267 := Tryz.func96.trans (congrArg some (by kernel_rfl))
  f314 := Tryz.func115.trans (congrArg some (by kernel_rfl))
  t3 := Tryz.underlying3
  a3 := Tryz.isAgg3
  z3 := Tryz.sizeOf3
  v3 := Tryz.zeroValue3
  t4 := Tryz.underlying4
  a4 := Tryz.isAgg4
  z4 := Tryz.sizeOf4
  v4 := Tryz.zeroValue4
  t5 := Tryz.underlying5
  a5 := Tryz.isAgg5
  z5 := Tryz.sizeOf5
  v5 := Tryz.zeroValue5
  t9 := Tryz.underlying9
  a9 := Tryz.isAgg9
  z9 := Tryz.sizeOf9
  v9 := Tryz.zeroValue9
  t46 := Tryz.underlying113
  a46 := Tryz.isAgg113
  z46 := Tryz.sizeOf113
  v46 := Tryz.zeroValue113
  t51 := Tryz.underlying123
  a51 := Tryz.isAgg123
  z51 := Tryz.sizeOf123
  v51 := Tryz.zeroValue123
  t59 := Tryz.underlying98
  a59 := Tryz.isAgg98
  z59 := Tryz.sizeOf98
  v59 := Tryz.zeroValue98
  t146 := Tryz.underlying145
  a146 := Tryz.isAgg145
  z146 := Tryz.sizeOf145
  v146 := Tryz.zeroValue145
  g1 := by kernel_rfl }
open Go.RowKit Go.Lib in
theorem Tryz.strings_Cut (s sep : ByteArray) (m : Int) (w : World) (hs : s.size < 4294967281) (hm : w.cell? ⟨0, 0, none⟩ = some (.int .i64 m)) :
    Calls Tryz.prog 79 #[.string s, .string sep] w fun e w' => e = .returned (.tuple #[.string ⟨(Lib.cut s.data.toList sep.data.toList).1.toArray⟩, .string ⟨(Lib.cut s.data.toList sep.data.toList).2.1.toArray⟩, .bool (Lib.cut s.data.toList sep.data.toList).2.2]) ∧ ∃ n, w' = w.drewN n := Any.strings_Cut Tryz.lays145 s sep m w hs hm
def Tryz.lays138_ren : Go.Shelf.Ren := ⟨fun | 138 => 68 | 195 => 97 | 218 => 98 | 143 => 41 | 219 => 67 | 217 => 47 | 225 => 94 | 224 => 95 | 267 => 96 | 266 => 71 | 314 => 115 | n => n, fun | 9 => 9 | 3 => 3 | 4 => 4 | 5 => 5 | 0 => 0 | 46 => 113 | 146 => 145 | 51 => 123 | n => n, fun | 1 => 0 | n => n⟩
theorem Tryz.lays138 : Go.Proofs.Lays.n138 Tryz.prog Tryz.lays138_ren := {
  mixed := by kernel_rfl
  f138 := Tryz.func68.trans (congrArg some (by kernel_rfl))
  f143 := Tryz.func41.trans (congrArg some (by kernel_rfl))
  f195 := Tryz.func97.trans (congrArg some (by kernel_rfl))
  f217 := Tryz.func47.trans (congrArg some (by kernel_rfl))
  f218 := Tryz.func98.trans (congrArg some (by kernel_rfl))
  f219 := Tryz.func67.trans (congrArg some (by kernel_rfl))
  f224 := Tryz.func95.trans (congrArg some (by kernel_rfl))
  f225 := Tryz.func94.trans (congrArg some (by kernel_rfl))
  f266 := Tryz.func71.trans (congrArg some (by kernel_rfl))
  f267 := Tryz.func96.trans (congrArg some (by kernel_rfl))
  f314 := Tryz.func115.trans (congrArg some (by kernel_rfl))
  t0 := Tryz.underlying0
  a0 := Tryz.isAgg0
  z0 := Tryz.sizeOf0
  v0 := Tryz.zeroValue0
  t3 := Tryz.underlying3
  a3 := Tryz.isAgg3
  z3 := Tryz.sizeOf3
  v3 := Tryz.zeroValue3
  t4 := Tryz.underlying4
  a4 := Tryz.isAgg4
  z4 := Tryz.sizeOf4
  v4 := Tryz.zeroValue4
  t5 := Tryz.underlying5
  a5 := Tryz.isAgg5
  z5 := Tryz.sizeOf5
  v5 := Tryz.zeroValue5
  t9 := Tryz.underlying9
  a9 := Tryz.isAgg9
  z9 := Tryz.sizeOf9
  v9 := Tryz.zeroValue9
  t46 := Tryz.underlying113
  a46 := Tryz.isAgg113
  z46 := Tryz.sizeOf113
  v46 := Tryz.zeroValue113
  t51 := Tryz.underlying123
  a51 := Tryz.isAgg123
  z51 := Tryz.sizeOf123
  v51 := Tryz.zeroValue123
  t146 := Tryz.underlying145
  a146 := Tryz.isAgg145
  z146 := Tryz.sizeOf145
  v146 := Tryz.zeroValue145
  g1 := by kernel_rfl }
open Go.RowKit Go.Lib in
theorem Tryz.strings_Count_one (s : ByteArray) (c : UInt8) (w : World) :
    Calls Tryz.prog 68 #[.string s, .string ⟨#[c]⟩] w fun e w' => e = .returned (.int .i64 (Lib.countByte s.data.toList c)) ∧ w' = w := Any.strings_Count_one Tryz.lays138 s c w
open Go.RowKit Go.Lib in
theorem Tryz.strings_Count (s sub : ByteArray) (m : Int) (w : World) (hs : s.size < 4294967281) (hm : w.cell? ⟨0, 0, none⟩ = some (.int .i64 m)) (h2 : 2 ≤ sub.size) :
    Calls Tryz.prog 68 #[.string s, .string sub] w fun e w' => e = .returned (.int .i64 (Lib.countB s sub)) ∧ w' = w := Any.strings_Count Tryz.lays138 s sub m w hs hm h2
def Tryz.laysM219_ren : Go.Shelf.Ren := ⟨fun | 219 => 67 | 217 => 47 | 225 => 94 | 224 => 95 | 267 => 96 | 266 => 71 | 314 => 115 | n => n, fun | 9 => 9 | 3 => 3 | 4 => 4 | 5 => 5 | 46 => 113 | 146 => 145 | 51 => 123 | n => n, fun | 1 => 0 | n => n⟩
theorem Tryz.laysM219 : Go.Proofs.LaysM.n219 Tryz.prog Tryz.laysM219_ren := {
  mixed := by kernel_rfl
  f217 := Tryz.func47.trans (congrArg some (by kernel_rfl))
  f219 := Tryz.func67.trans (congrArg some (by kernel_rfl))
  f224 := Tryz.func95.trans (congrArg some (by kernel_rfl))
  f225 := Tryz.func94.trans (congrArg some (by kernel_rfl))
  f266 := Tryz.func71.trans (congrArg some (by kernel_rfl))
  f267 := Tryz.func96.trans (congrArg some (by kernel_rfl))
  f314 := Tryz.func115.trans (congrArg some (by kernel_rfl))
  t3 := Tryz.underlying3
  a3 := Tryz.isAgg3
  z3 := Tryz.sizeOf3
  v3 := Tryz.zeroValue3
  t4 := Tryz.underlying4
  a4 := Tryz.isAgg4
  z4 := Tryz.sizeOf4
  v4 := Tryz.zeroValue4
  t5 := Tryz.underlying5
  a5 := Tryz.isAgg5
  z5 := Tryz.sizeOf5
  v5 := Tryz.zeroValue5
  t9 := Tryz.underlying9
  a9 := Tryz.isAgg9
  z9 := Tryz.sizeOf9
  v9 := Tryz.zeroValue9
  t46 := Tryz.underlying113
  a46 := Tryz.isAgg113
  z46 := Tryz.sizeOf113
  v46 := Tryz.zeroValue113
  t51 := Tryz.underlying123
  a51 := Tryz.isAgg123
  z51 := Tryz.sizeOf123
  v51 := Tryz.zeroValue123
  t146 := Tryz.underlying145
  a146 := Tryz.isAgg145
  z146 := Tryz.sizeOf145
  v146 := Tryz.zeroValue145
  g1 := by kernel_rfl
  i3 := by kernel_rfl
  i4 := by kernel_rfl
  i5 := by kernel_rfl
  i9 := by kernel_rfl
  i46 := by kernel_rfl
  i51 := by kernel_rfl
  i146 := by kernel_rfl
  m1 := by kernel_rfl
  s1_3 := fun w h => Go.Proofs.cell_of_shapedOpen_int (zero := #[.int .i64 0]) (t := 3) h (of_decide_eq_true (by kernel_rfl)) (by kernel_rfl) rfl (by kernel_rfl) (by kernel_rfl) Tryz.underlying3 }
open Go.RowKit Go.Lib in
theorem Tryz.stringslite_Index_shaped (s sub : ByteArray) (w : World) (h : w.ShapedOpen Tryz.prog) (hs : s.size < 4294967281) :
    Calls Tryz.prog 67 #[.string s, .string sub] w fun e w' => e = .returned (.int .i64 (Lib.index s.data.toList sub.data.toList)) ∧ w' = w := Any.stringslite_Index_shaped Tryz.laysM219 s sub w h hs
def Tryz.laysM143_ren : Go.Shelf.Ren := ⟨fun | 143 => 41 | 219 => 67 | 217 => 47 | 225 => 94 | 224 => 95 | 267 => 96 | 266 => 71 | 314 => 115 | n => n, fun | 9 => 9 | 3 => 3 | 4 => 4 | 5 => 5 | 46 => 113 | 146 => 145 | 51 => 123 | n => n, fun | 1 => 0 | n => n⟩
theorem Tryz.laysM143 : Go.Proofs.LaysM.n143 Tryz.prog Tryz.laysM143_ren := {
  mixed := by kernel_rfl
  f143 := Tryz.func41.trans (congrArg some (by kernel_rfl))
  f217 := Tryz.func47.trans (congrArg some (by kernel_rfl))
  f219 := Tryz.func67.trans (congrArg some (by kernel_rfl))
  f224 := Tryz.func95.trans (congrArg some (by kernel_rfl))
  f225 := Tryz.func94.trans (congrArg some (by kernel_rfl))
  f266 := Tryz.func71.trans (congrArg some (by kernel_rfl))
  f267 := Tryz.func96.trans (congrArg some (by kernel_rfl))
  f314 := Tryz.func115.trans (congrArg some (by kernel_rfl))
  t3 := Tryz.underlying3
  a3 := Tryz.isAgg3
  z3 := Tryz.sizeOf3
  v3 := Tryz.zeroValue3
  t4 := Tryz.underlying4
  a4 := Tryz.isAgg4
  z4 := Tryz.sizeOf4
  v4 := Tryz.zeroValue4
  t5 := Tryz.underlying5
  a5 := Tryz.isAgg5
  z5 := Tryz.sizeOf5
  v5 := Tryz.zeroValue5
  t9 := Tryz.underlying9
  a9 := Tryz.isAgg9
  z9 := Tryz.sizeOf9
  v9 := Tryz.zeroValue9
  t46 := Tryz.underlying113
  a46 := Tryz.isAgg113
  z46 := Tryz.sizeOf113
  v46 := Tryz.zeroValue113
  t51 := Tryz.underlying123
  a51 := Tryz.isAgg123
  z51 := Tryz.sizeOf123
  v51 := Tryz.zeroValue123
  t146 := Tryz.underlying145
  a146 := Tryz.isAgg145
  z146 := Tryz.sizeOf145
  v146 := Tryz.zeroValue145
  g1 := by kernel_rfl
  i3 := by kernel_rfl
  i4 := by kernel_rfl
  i5 := by kernel_rfl
  i9 := by kernel_rfl
  i46 := by kernel_rfl
  i51 := by kernel_rfl
  i146 := by kernel_rfl
  m1 := by kernel_rfl
  s1_3 := fun w h => Go.Proofs.cell_of_shapedOpen_int (zero := #[.int .i64 0]) (t := 3) h (of_decide_eq_true (by kernel_rfl)) (by kernel_rfl) rfl (by kernel_rfl) (by kernel_rfl) Tryz.underlying3 }
open Go.RowKit Go.Lib in
theorem Tryz.strings_Index_shaped (s sub : ByteArray) (w : World) (h : w.ShapedOpen Tryz.prog) (hs : s.size < 4294967281) :
    Calls Tryz.prog 41 #[.string s, .string sub] w fun e w' => e = .returned (.int .i64 (Lib.index s.data.toList sub.data.toList)) ∧ w' = w := Any.strings_Index_shaped Tryz.laysM143 s sub w h hs
def Tryz.laysM144_ren : Go.Shelf.Ren := ⟨fun | 144 => 21 | 143 => 41 | 219 => 67 | 217 => 47 | 225 => 94 | 224 => 95 | 267 => 96 | 266 => 71 | 314 => 115 | n => n, fun | 9 => 9 | 4 => 4 | 3 => 3 | 5 => 5 | 46 => 113 | 146 => 145 | 51 => 123 | n => n, fun | 1 => 0 | n => n⟩
theorem Tryz.laysM144 : Go.Proofs.LaysM.n144 Tryz.prog Tryz.laysM144_ren := {
  mixed := by kernel_rfl
  f143 := Tryz.func41.trans (congrArg some (by kernel_rfl))
  f144 := Tryz.func21.trans (congrArg some (by kernel_rfl))
  f217 := Tryz.func47.trans (congrArg some (by kernel_rfl))
  f219 := Tryz.func67.trans (congrArg some (by kernel_rfl))
  f224 := Tryz.func95.trans (congrArg some (by kernel_rfl))
  f225 := Tryz.func94.trans (congrArg some (by kernel_rfl))
  f266 := Tryz.func71.trans (congrArg some (by kernel_rfl))
  f267 := Tryz.func96.trans (congrArg some (by kernel_rfl))
  f314 := Tryz.func115.trans (congrArg some (by kernel_rfl))
  t3 := Tryz.underlying3
  a3 := Tryz.isAgg3
  z3 := Tryz.sizeOf3
  v3 := Tryz.zeroValue3
  t4 := Tryz.underlying4
  a4 := Tryz.isAgg4
  z4 := Tryz.sizeOf4
  v4 := Tryz.zeroValue4
  t5 := Tryz.underlying5
  a5 := Tryz.isAgg5
  z5 := Tryz.sizeOf5
  v5 := Tryz.zeroValue5
  t9 := Tryz.underlying9
  a9 := Tryz.isAgg9
  z9 := Tryz.sizeOf9
  v9 := Tryz.zeroValue9
  t46 := Tryz.underlying113
  a46 := Tryz.isAgg113
  z46 := Tryz.sizeOf113
  v46 := Tryz.zeroValue113
  t51 := Tryz.underlying123
  a51 := Tryz.isAgg123
  z51 := Tryz.sizeOf123
  v51 := Tryz.zeroValue123
  t146 := Tryz.underlying145
  a146 := Tryz.isAgg145
  z146 := Tryz.sizeOf145
  v146 := Tryz.zeroValue145
  g1 := by kernel_rfl
  i3 := by kernel_rfl
  i4 := by kernel_rfl
  i5 := by kernel_rfl
  i9 := by kernel_rfl
  i46 := by kernel_rfl
  i51 := by kernel_rfl
  i146 := by kernel_rfl
  m1 := by kernel_rfl
  s1_3 := fun w h => Go.Proofs.cell_of_shapedOpen_int (zero := #[.int .i64 0]) (t := 3) h (of_decide_eq_true (by kernel_rfl)) (by kernel_rfl) rfl (by kernel_rfl) (by kernel_rfl) Tryz.underlying3 }
open Go.RowKit Go.Lib in
theorem Tryz.strings_Contains_shaped (s sub : ByteArray) (w : World) (h : w.ShapedOpen Tryz.prog) (hs : s.size < 4294967281) :
    Calls Tryz.prog 21 #[.string s, .string sub] w fun e w' => e = .returned (.bool (Lib.contains s.data.toList sub.data.toList)) ∧ w' = w := Any.strings_Contains_shaped Tryz.laysM144 s sub w h hs
def Tryz.laysM220_ren : Go.Shelf.Ren := ⟨fun | 220 => 103 | 219 => 67 | 217 => 47 | 225 => 94 | 224 => 95 | 267 => 96 | 266 => 71 | 314 => 115 | n => n, fun | 9 => 9 | 4 => 4 | 3 => 3 | 5 => 5 | 46 => 113 | 146 => 145 | 51 => 123 | n => n, fun | 1 => 0 | n => n⟩
theorem Tryz.laysM220 : Go.Proofs.LaysM.n220 Tryz.prog Tryz.laysM220_ren := {
  mixed := by kernel_rfl
  f217 := Tryz.func47.trans (congrArg some (by kernel_rfl))
  f219 := Tryz.func67.trans (congrArg some (by kernel_rfl))
  f220 := Tryz.func103.trans (congrArg some (by kernel_rfl))
  f224 := Tryz.func95.trans (congrArg some (by kernel_rfl))
  f225 := Tryz.func94.trans (congrArg some (by kernel_rfl))
  f266 := Tryz.func71.trans (congrArg some (by kernel_rfl))
  f267 := Tryz.func96.trans (congrArg some (by kernel_rfl))
  f314 := Tryz.func115.trans (congrArg some (by kernel_rfl))
  t3 := Tryz.underlying3
  a3 := Tryz.isAgg3
  z3 := Tryz.sizeOf3
  v3 := Tryz.zeroValue3
  t4 := Tryz.underlying4
  a4 := Tryz.isAgg4
  z4 := Tryz.sizeOf4
  v4 := Tryz.zeroValue4
  t5 := Tryz.underlying5
  a5 := Tryz.isAgg5
  z5 := Tryz.sizeOf5
  v5 := Tryz.zeroValue5
  t9 := Tryz.underlying9
  a9 := Tryz.isAgg9
  z9 := Tryz.sizeOf9
  v9 := Tryz.zeroValue9
  t46 := Tryz.underlying113
  a46 := Tryz.isAgg113
  z46 := Tryz.sizeOf113
  v46 := Tryz.zeroValue113
  t51 := Tryz.underlying123
  a51 := Tryz.isAgg123
  z51 := Tryz.sizeOf123
  v51 := Tryz.zeroValue123
  t146 := Tryz.underlying145
  a146 := Tryz.isAgg145
  z146 := Tryz.sizeOf145
  v146 := Tryz.zeroValue145
  g1 := by kernel_rfl
  i3 := by kernel_rfl
  i4 := by kernel_rfl
  i5 := by kernel_rfl
  i9 := by kernel_rfl
  i46 := by kernel_rfl
  i51 := by kernel_rfl
  i146 := by kernel_rfl
  m1 := by kernel_rfl
  s1_3 := fun w h => Go.Proofs.cell_of_shapedOpen_int (zero := #[.int .i64 0]) (t := 3) h (of_decide_eq_true (by kernel_rfl)) (by kernel_rfl) rfl (by kernel_rfl) (by kernel_rfl) Tryz.underlying3 }
open Go.RowKit Go.Lib in
theorem Tryz.stringslite_Cut_shaped (s sep : ByteArray) (w : World) (h : w.ShapedOpen Tryz.prog) (hs : s.size < 4294967281) :
    Calls Tryz.prog 103 #[.string s, .string sep] w fun e w' => e = .returned (.tuple #[.string ⟨(Lib.cut s.data.toList sep.data.toList).1.toArray⟩, .string ⟨(Lib.cut s.data.toList sep.data.toList).2.1.toArray⟩, .bool (Lib.cut s.data.toList sep.data.toList).2.2]) ∧ ∃ n, w' = w.drewN n := Any.stringslite_Cut_shaped Tryz.laysM220 s sep w h hs
def Tryz.laysM145_ren : Go.Shelf.Ren := ⟨fun | 145 => 79 | 220 => 103 | 219 => 67 | 217 => 47 | 225 => 94 | 224 => 95 | 267 => 96 | 266 => 71 | 314 => 115 | n => n, fun | 9 => 9 | 4 => 4 | 59 => 98 | 3 => 3 | 5 => 5 | 46 => 113 | 146 => 145 | 51 => 123 | n => n, fun | 1 => 0 | n => n⟩
theorem Tryz.laysM145 : Go.Proofs.LaysM.n145 Tryz.prog Tryz.laysM145_ren := {
  mixed := by kernel_rfl
  f145 := Tryz.func79.trans (congrArg some (by kernel_rfl))
  f217 := Tryz.func47.trans (congrArg some (by kernel_rfl))
  f219 := Tryz.func67.trans (congrArg some (by kernel_rfl))
  f220 := Tryz.func103.trans (congrArg some (by kernel_rfl))
  f224 := Tryz.func95.trans (congrArg some (by kernel_rfl))
  f225 := Tryz.func94.trans (congrArg some (by kernel_rfl))
  f266 := Tryz.func71.trans (congrArg some (by kernel_rfl))
  f267 := Tryz.func96.trans (congrArg some (by kernel_rfl))
  f314 := Tryz.func115.trans (congrArg some (by kernel_rfl))
  t3 := Tryz.underlying3
  a3 := Tryz.isAgg3
  z3 := Tryz.sizeOf3
  v3 := Tryz.zeroValue3
  t4 := Tryz.underlying4
  a4 := Tryz.isAgg4
  z4 := Tryz.sizeOf4
  v4 := Tryz.zeroValue4
  t5 := Tryz.underlying5
  a5 := Tryz.isAgg5
  z5 := Tryz.sizeOf5
  v5 := Tryz.zeroValue5
  t9 := Tryz.underlying9
  a9 := Tryz.isAgg9
  z9 := Tryz.sizeOf9
  v9 := Tryz.zeroValue9
  t46 := Tryz.underlying113
  a46 := Tryz.isAgg113
  z46 := Tryz.sizeOf113
  v46 := Tryz.zeroValue113
  t51 := Tryz.underlying123
  a51 := Tryz.isAgg123
  z51 := Tryz.sizeOf123
  v51 := Tryz.zeroValue123
  t59 := Tryz.underlying98
  a59 := Tryz.isAgg98
  z59 := Tryz.sizeOf98
  v59 := Tryz.zeroValue98
  t146 := Tryz.underlying145
  a146 := Tryz.isAgg145
  z146 := Tryz.sizeOf145
  v146 := Tryz.zeroValue145
  g1 := by kernel_rfl
  i3 := by kernel_rfl
  i4 := by kernel_rfl
  i5 := by kernel_rfl
  i9 := by kernel_rfl
  i46 := by kernel_rfl
  i51 := by kernel_rfl
  i59 := by kernel_rfl
  i146 := by kernel_rfl
  m1 := by kernel_rfl
  s1_3 := fun w h => Go.Proofs.cell_of_shapedOpen_int (zero := #[.int .i64 0]) (t := 3) h (of_decide_eq_true (by kernel_rfl)) (by kernel_rfl) rfl (by kernel_rfl) (by kernel_rfl) Tryz.underlying3 }
open Go.RowKit Go.Lib in
theorem Tryz.strings_Cut_shaped (s sep : ByteArray) (w : World) (h : w.ShapedOpen Tryz.prog) (hs : s.size < 4294967281) :
    Calls Tryz.prog 79 #[.string s, .string sep] w fun e w' => e = .returned (.tuple #[.string ⟨(Lib.cut s.data.toList sep.data.toList).1.toArray⟩, .string ⟨(Lib.cut s.data.toList sep.data.toList).2.1.toArray⟩, .bool (Lib.cut s.data.toList sep.data.toList).2.2]) ∧ ∃ n, w' = w.drewN n := Any.strings_Cut_shaped Tryz.laysM145 s sep w h hs
def Tryz.laysM138_ren : Go.Shelf.Ren := ⟨fun | 138 => 68 | 195 => 97 | 218 => 98 | 143 => 41 | 219 => 67 | 217 => 47 | 225 => 94 | 224 => 95 | 267 => 96 | 266 => 71 | 314 => 115 | n => n, fun | 9 => 9 | 3 => 3 | 4 => 4 | 5 => 5 | 0 => 0 | 46 => 113 | 146 => 145 | 51 => 123 | n => n, fun | 1 => 0 | n => n⟩
theorem Tryz.laysM138 : Go.Proofs.LaysM.n138 Tryz.prog Tryz.laysM138_ren := {
  mixed := by kernel_rfl
  f138 := Tryz.func68.trans (congrArg some (by kernel_rfl))
  f143 := Tryz.func41.trans (congrArg some (by kernel_rfl))
  f195 := Tryz.func97.trans (congrArg some (by kernel_rfl))
  f217 := Tryz.func47.trans (congrArg some (by kernel_rfl))
  f218 := Tryz.func98.trans (congrArg some (by kernel_rfl))
  f219 := Tryz.func67.trans (congrArg some (by kernel_rfl))
  f224 := Tryz.func95.trans (congrArg some (by kernel_rfl))
  f225 := Tryz.func94.trans (congrArg some (by kernel_rfl))
  f266 := Tryz.func71.trans (congrArg some (by kernel_rfl))
  f267 := Tryz.func96.trans (congrArg some (by kernel_rfl))
  f314 := Tryz.func115.trans (congrArg some (by kernel_rfl))
  t0 := Tryz.underlying0
  a0 := Tryz.isAgg0
  z0 := Tryz.sizeOf0
  v0 := Tryz.zeroValue0
  t3 := Tryz.underlying3
  a3 := Tryz.isAgg3
  z3 := Tryz.sizeOf3
  v3 := Tryz.zeroValue3
  t4 := Tryz.underlying4
  a4 := Tryz.isAgg4
  z4 := Tryz.sizeOf4
  v4 := Tryz.zeroValue4
  t5 := Tryz.underlying5
  a5 := Tryz.isAgg5
  z5 := Tryz.sizeOf5
  v5 := Tryz.zeroValue5
  t9 := Tryz.underlying9
  a9 := Tryz.isAgg9
  z9 := Tryz.sizeOf9
  v9 := Tryz.zeroValue9
  t46 := Tryz.underlying113
  a46 := Tryz.isAgg113
  z46 := Tryz.sizeOf113
  v46 := Tryz.zeroValue113
  t51 := Tryz.underlying123
  a51 := Tryz.isAgg123
  z51 := Tryz.sizeOf123
  v51 := Tryz.zeroValue123
  t146 := Tryz.underlying145
  a146 := Tryz.isAgg145
  z146 := Tryz.sizeOf145
  v146 := Tryz.zeroValue145
  g1 := by kernel_rfl
  i0 := by kernel_rfl
  i3 := by kernel_rfl
  i4 := by kernel_rfl
  i5 := by kernel_rfl
  i9 := by kernel_rfl
  i46 := by kernel_rfl
  i51 := by kernel_rfl
  i146 := by kernel_rfl
  m1 := by kernel_rfl
  s1_3 := fun w h => Go.Proofs.cell_of_shapedOpen_int (zero := #[.int .i64 0]) (t := 3) h (of_decide_eq_true (by kernel_rfl)) (by kernel_rfl) rfl (by kernel_rfl) (by kernel_rfl) Tryz.underlying3 }
open Go.RowKit Go.Lib in
theorem Tryz.strings_Count_shaped (s sub : ByteArray) (w : World) (h : w.ShapedOpen Tryz.prog) (hs : s.size < 4294967281) (h2 : 2 ≤ sub.size) :
    Calls Tryz.prog 68 #[.string s, .string sub] w fun e w' => e = .returned (.int .i64 (Lib.countB s sub)) ∧ w' = w := Any.strings_Count_shaped Tryz.laysM138 s sub w h hs h2
def Tryz.lays222_ren : Go.Shelf.Ren := ⟨fun | 222 => 126 | n => n, fun | 9 => 9 | 5 => 5 | 3 => 3 | 4 => 4 | n => n, fun | n => n⟩
theorem Tryz.lays222 : Go.Proofs.Lays.n222 Tryz.prog Tryz.lays222_ren := {
  mixed := by kernel_rfl
  f222 := Tryz.func126.trans (congrArg some (by kernel_rfl))
  t3 := Tryz.underlying3
  a3 := Tryz.isAgg3
  z3 := Tryz.sizeOf3
  v3 := Tryz.zeroValue3
  t4 := Tryz.underlying4
  a4 := Tryz.isAgg4
  z4 := Tryz.sizeOf4
  v4 := Tryz.zeroValue4
  t5 := Tryz.underlying5
  a5 := Tryz.isAgg5
  z5 := Tryz.sizeOf5
  v5 := Tryz.zeroValue5
  t9 := Tryz.underlying9
  a9 := Tryz.isAgg9
  z9 := Tryz.sizeOf9
  v9 := Tryz.zeroValue9 }
open Go.RowKit Go.Lib in
theorem Tryz.bytealg_LastIndexByteString_nm (s : ByteArray) (c : Int) (hs : s.size < 4611686018427387904) (w : World) :
    Calls Tryz.prog 126 #[.string s, .int .u8 c] w fun e w' => e = .returned (.int .i64 (Lib.lastIndexByte s c)) ∧ w' = w := Any.bytealg_LastIndexByteString_nm Tryz.lays222 s c hs w
def Tryz.lays149_ren : Go.Shelf.Ren := ⟨fun | 149 => 117 | 222 => 126 | n => n, fun | 9 => 9 | 5 => 5 | 3 => 3 | 4 => 4 | n => n, fun | n => n⟩
theorem Tryz.lays149 : Go.Proofs.Lays.n149 Tryz.prog Tryz.lays149_ren := {
  mixed := by kernel_rfl
  f149 := Tryz.func117.trans (congrArg some (by kernel_rfl))
  f222 := Tryz.func126.trans (congrArg some (by kernel_rfl))
  t3 := Tryz.underlying3
  a3 := Tryz.isAgg3
  z3 := Tryz.sizeOf3
  v3 := Tryz.zeroValue3
  t4 := Tryz.underlying4
  a4 := Tryz.isAgg4
  z4 := Tryz.sizeOf4
  v4 := Tryz.zeroValue4
  t5 := Tryz.underlying5
  a5 := Tryz.isAgg5
  z5 := Tryz.sizeOf5
  v5 := Tryz.zeroValue5
  t9 := Tryz.underlying9
  a9 := Tryz.isAgg9
  z9 := Tryz.sizeOf9
  v9 := Tryz.zeroValue9 }
open Go.RowKit Go.Lib in
theorem Tryz.strings_LastIndexByte (s : ByteArray) (c : Int) (hs : s.size < 4611686018427387904) (w : World) :
    Calls Tryz.prog 117 #[.string s, .int .u8 c] w fun e w' => e = .returned (.int .i64 (Lib.lastIndexByte s c)) ∧ w' = w := Any.strings_LastIndexByte Tryz.lays149 s c hs w
def Tryz.lays206_ren : Go.Shelf.Ren := ⟨fun | 206 => 57 | n => n, fun | 9 => 9 | 4 => 4 | 3 => 3 | n => n, fun | n => n⟩
theorem Tryz.lays206 : Go.Proofs.Lays.n206 Tryz.prog Tryz.lays206_ren := {
  mixed := by kernel_rfl
  f206 := Tryz.func57.trans (congrArg some (by kernel_rfl))
  t3 := Tryz.underlying3
  a3 := Tryz.isAgg3
  z3 := Tryz.sizeOf3
  v3 := Tryz.zeroValue3
  t4 := Tryz.underlying4
  a4 := Tryz.isAgg4
  z4 := Tryz.sizeOf4
  v4 := Tryz.zeroValue4
  t9 := Tryz.underlying9
  a9 := Tryz.isAgg9
  z9 := Tryz.sizeOf9
  v9 := Tryz.zeroValue9 }
open Go.RowKit Go.Lib in
theorem Tryz.stringslite_HasPrefix (s p : ByteArray) (w : World) :
    Calls Tryz.prog 57 #[.string s, .string p] w fun e w' => e = .returned (.bool (Lib.hasPrefix s.data.toList p.data.toList)) ∧ w' = w := Any.stringslite_HasPrefix Tryz.lays206 s p w
def Tryz.lays99_ren : Go.Shelf.Ren := ⟨fun | 99 => 36 | 206 => 57 | n => n, fun | 9 => 9 | 4 => 4 | 3 => 3 | n => n, fun | n => n⟩
theorem Tryz.lays99 : Go.Proofs.Lays.n99 Tryz.prog Tryz.lays99_ren := {
  mixed := by kernel_rfl
  f99 := Tryz.func36.trans (congrArg some (by kernel_rfl))
  f206 := Tryz.func57.trans (congrArg some (by kernel_rfl))
  t3 := Tryz.underlying3
  a3 := Tryz.isAgg3
  z3 := Tryz.sizeOf3
  v3 := Tryz.zeroValue3
  t4 := Tryz.underlying4
  a4 := Tryz.isAgg4
  z4 := Tryz.sizeOf4
  v4 := Tryz.zeroValue4
  t9 := Tryz.underlying9
  a9 := Tryz.isAgg9
  z9 := Tryz.sizeOf9
  v9 := Tryz.zeroValue9 }
open Go.RowKit Go.Lib in
theorem Tryz.strings_HasPrefix (s p : ByteArray) (w : World) :
    Calls Tryz.prog 36 #[.string s, .string p] w fun e w' => e = .returned (.bool (Lib.hasPrefix s.data.toList p.data.toList)) ∧ w' = w := Any.strings_HasPrefix Tryz.lays99 s p w
def Tryz.lays207_ren : Go.Shelf.Ren := ⟨fun | 207 => 105 | n => n, fun | 9 => 9 | 4 => 4 | 3 => 3 | n => n, fun | n => n⟩
theorem Tryz.lays207 : Go.Proofs.Lays.n207 Tryz.prog Tryz.lays207_ren := {
  mixed := by kernel_rfl
  f207 := Tryz.func105.trans (congrArg some (by kernel_rfl))
  t3 := Tryz.underlying3
  a3 := Tryz.isAgg3
  z3 := Tryz.sizeOf3
  v3 := Tryz.zeroValue3
  t4 := Tryz.underlying4
  a4 := Tryz.isAgg4
  z4 := Tryz.sizeOf4
  v4 := Tryz.zeroValue4
  t9 := Tryz.underlying9
  a9 := Tryz.isAgg9
  z9 := Tryz.sizeOf9
  v9 := Tryz.zeroValue9 }
open Go.RowKit Go.Lib in
theorem Tryz.stringslite_HasSuffix (s p : ByteArray) (w : World) (hs : s.size ≤ 9223372036854775807) :
    Calls Tryz.prog 105 #[.string s, .string p] w fun e w' => e = .returned (.bool (Lib.hasSuffix s.data.toList p.data.toList)) ∧ w' = w := Any.stringslite_HasSuffix Tryz.lays207 s p w hs
def Tryz.lays100_ren : Go.Shelf.Ren := ⟨fun | 100 => 81 | 207 => 105 | n => n, fun | 9 => 9 | 4 => 4 | 3 => 3 | n => n, fun | n => n⟩
theorem Tryz.lays100 : Go.Proofs.Lays.n100 Tryz.prog Tryz.lays100_ren := {
  mixed := by kernel_rfl
  f100 := Tryz.func81.trans (congrArg some (by kernel_rfl))
  f207 := Tryz.func105.trans (congrArg some (by kernel_rfl))
  t3 := Tryz.underlying3
  a3 := Tryz.isAgg3
  z3 := Tryz.sizeOf3
  v3 := Tryz.zeroValue3
  t4 := Tryz.underlying4
  a4 := Tryz.isAgg4
  z4 := Tryz.sizeOf4
  v4 := Tryz.zeroValue4
  t9 := Tryz.underlying9
  a9 := Tryz.isAgg9
  z9 := Tryz.sizeOf9
  v9 := Tryz.zeroValue9 }
open Go.RowKit Go.Lib in
theorem Tryz.strings_HasSuffix (s p : ByteArray) (w : World) (hs : s.size ≤ 9223372036854775807) :
    Calls Tryz.prog 81 #[.string s, .string p] w fun e w' => e = .returned (.bool (Lib.hasSuffix s.data.toList p.data.toList)) ∧ w' = w := Any.strings_HasSuffix Tryz.lays100 s p w hs
open Go.RowKit Go.Lib in
theorem Tryz.strings_Count_any (s sep : ByteArray) (m : Int) (w : World) (hs : s.size < 4294967281) (hm : w.cell? ⟨0, 0, none⟩ = some (.int .i64 m)) (h1 : 1 ≤ sep.size) :
    Calls Tryz.prog 68 #[.string s, .string sep] w fun e w' => e = .returned (.int .i64 (Lib.countB s sep)) ∧ w' = w := Any.strings_Count_any Tryz.lays138 s sep m w hs hm h1
def Tryz.lays154_ren : Go.Shelf.Ren := ⟨fun | 154 => 46 | 138 => 68 | 165 => 69 | 143 => 41 | 166 => 32 | 197 => 70 | 169 => 33 | 195 => 97 | 218 => 98 | 240 => 48 | 241 => 99 | 219 => 67 | 260 => 100 | 276 => 72 | 277 => 116 | 217 => 47 | 225 => 94 | 224 => 95 | 267 => 96 | 266 => 71 | 314 => 115 | n => n, fun | 9 => 9 | 3 => 3 | 4 => 4 | 72 => 57 | 0 => 0 | 76 => 61 | 105 => 90 | 21 => 21 | 5 => 5 | 70 => 54 | 20 => 20 | 37 => 55 | 75 => 60 | 127 => 76 | 164 => 92 | 46 => 113 | 119 => 148 | 139 => 151 | 138 => 150 | 146 => 145 | 51 => 123 | 80 => 63 | n => n, fun | 1 => 0 | 3 => 1 | 4 => 2 | n => n⟩
theorem Tryz.lays154 : Go.Proofs.Lays.n154 Tryz.prog Tryz.lays154_ren := {
  mixed := by kernel_rfl
  f138 := Tryz.func68.trans (congrArg some (by kernel_rfl))
  f143 := Tryz.func41.trans (congrArg some (by kernel_rfl))
  f154 := Tryz.func46.trans (congrArg some (by kernel_rfl))
  f165 := Tryz.func69.trans (congrArg some (by kernel_rfl))
  f166 := Tryz.func32.trans (congrArg some (by kernel_rfl))
  f169 := Tryz.func33.trans (congrArg some (by kernel_rfl))
  f195 := Tryz.func97.trans (congrArg some (by kernel_rfl))
  f197 := Tryz.func70.trans (congrArg some (by kernel_rfl))
  f217 := Tryz.func47.trans (congrArg some (by kernel_rfl))
  f218 := Tryz.func98.trans (congrArg some (by kernel_rfl))
  f219 := Tryz.func67.trans (congrArg some (by kernel_rfl))
  f224 := Tryz.func95.trans (congrArg some (by kernel_rfl))
  f225 := Tryz.func94.trans (congrArg some (by kernel_rfl))
  f240 := Tryz.func48.trans (congrArg some (by kernel_rfl))
  f241 := Tryz.func99.trans (congrArg some (by kernel_rfl))
  f260 := Tryz.func100.trans (congrArg some (by kernel_rfl))
  f266 := Tryz.func71.trans (congrArg some (by kernel_rfl))
  f267 := Tryz.func96.trans (congrArg some (by kernel_rfl))
  f276 := Tryz.func72.trans (congrArg some (by kernel_rfl))
  f277 := Tryz.func116.trans (congrArg some (by kernel_rfl))
  f314 := Tryz.func115.trans (congrArg some (by kernel_rfl))
  t0 := Tryz.underlying0
  a0 := Tryz.isAgg0
  z0 := Tryz.sizeOf0
  v0 := Tryz.zeroValue0
  t3 := Tryz.underlying3
  a3 := Tryz.isAgg3
  z3 := Tryz.sizeOf3
  v3 := Tryz.zeroValue3
  t4 := Tryz.underlying4
  a4 := Tryz.isAgg4
  z4 := Tryz.sizeOf4
  v4 := Tryz.zeroValue4
  t5 := Tryz.underlying5
  a5 := Tryz.isAgg5
  z5 := Tryz.sizeOf5
  v5 := Tryz.zeroValue5
  t9 := Tryz.underlying9
  a9 := Tryz.isAgg9
  z9 := Tryz.sizeOf9
  v9 := Tryz.zeroValue9
  t20 := Tryz.underlying20
  a20 := Tryz.isAgg20
  z20 := Tryz.sizeOf20
  v20 := Tryz.zeroValue20
  t21 := Tryz.underlying21
  a21 := Tryz.isAgg21
  z21 := Tryz.sizeOf21
  v21 := Tryz.zeroValue21
  t37 := Tryz.underlying55
  a37 := Tryz.isAgg55
  z37 := Tryz.sizeOf55
  v37 := Tryz.zeroValue55
  t46 := Tryz.underlying113
  a46 := Tryz.isAgg113
  z46 := Tryz.sizeOf113
  v46 := Tryz.zeroValue113
  t51 := Tryz.underlying123
  a51 := Tryz.isAgg123
  z51 := Tryz.sizeOf123
  v51 := Tryz.zeroValue123
  t70 := Tryz.underlying54
  a70 := Tryz.isAgg54
  z70 := Tryz.sizeOf54
  v70 := Tryz.zeroValue54
  t72 := Tryz.underlying57
  a72 := Tryz.isAgg57
  z72 := Tryz.sizeOf57
  v72 := Tryz.zeroValue57
  t75 := Tryz.underlying60
  a75 := Tryz.isAgg60
  z75 := Tryz.sizeOf60
  v75 := Tryz.zeroValue60
  t76 := Tryz.underlying61
  a76 := Tryz.isAgg61
  z76 := Tryz.sizeOf61
  v76 := Tryz.zeroValue61
  t105 := Tryz.underlying90
  a105 := Tryz.isAgg90
  z105 := Tryz.sizeOf90
  v105 := Tryz.zeroValue90
  t119 := Tryz.underlying148
  a119 := Tryz.isAgg148
  z119 := Tryz.sizeOf148
  t127 := Tryz.underlying76
  a127 := Tryz.isAgg76
  z127 := Tryz.sizeOf76
  v127 := Tryz.zeroValue76
  t138 := Tryz.underlying150
  a138 := Tryz.isAgg150
  z138 := Tryz.sizeOf150
  v138 := Tryz.zeroValue150
  t139 := Tryz.underlying151
  a139 := Tryz.isAgg151
  z139 := Tryz.sizeOf151
  v139 := Tryz.zeroValue151
  t146 := Tryz.underlying145
  a146 := Tryz.isAgg145
  z146 := Tryz.sizeOf145
  v146 := Tryz.zeroValue145
  t164 := Tryz.underlying92
  a164 := Tryz.isAgg92
  z164 := Tryz.sizeOf92
  v164 := Tryz.zeroValue92
  g1 := by kernel_rfl
  g3 := by kernel_rfl
  g4 := by kernel_rfl }
theorem Tryz.Builder_Extra_154 : Builder.Extra Tryz.prog Tryz.lays154_ren := {
  sizeBuilder := by kernel_rfl
  liesBuilder := by kernel_rfl
  t5 := Tryz.underlying5
  a5 := Tryz.isAgg5
  z5 := Tryz.sizeOf5
  v5 := Tryz.zeroValue5
  infoByte := by kernel_rfl
  cellsByte := by kernel_rfl
  sizeByte := by kernel_rfl
  neB5 := by decide }
open Go.RowKit Go.Lib in
theorem Tryz.strings_Replace_some (s old new : ByteArray) (n : Int) (m : Int) (w : World) (hs : s.size < 4294967281) (hm : w.cell? ⟨0, 0, none⟩ = some (.int .i64 m)) (h1 : 1 ≤ old.size) (hne : old ≠ new) (hn0 : n ≠ 0) (hc0 : Lib.countB s old ≠ 0) (hlen : s.size + Lib.countB s old * new.size ≤ 140737488355328) :
    Calls Tryz.prog 46 #[.string s, .string old, .string new, .int .i64 n] w fun e w' =>
      e = .returned (.string ⟨(Lib.replaceK old.data.toList new.data.toList (Lib.replaceNum s.data.toList old.data.toList n) s.data.toList).toArray⟩) ∧ Below w.heap.size w w' := Any.strings_Replace_some Tryz.lays154 Tryz.Builder_Extra_154 s old new n m w hs hm h1 hne hn0 hc0 hlen
open Go.RowKit Go.Lib in
theorem Tryz.strings_Replace_none (s old new : ByteArray) (n : Int) (w : World) (h : old = new ∨ n = 0) :
    Calls Tryz.prog 46 #[.string s, .string old, .string new, .int .i64 n] w fun e w' => e = .returned (.string s) ∧ w' = w := Any.strings_Replace_none Tryz.lays154 s old new n w h
open Go.RowKit Go.Lib in
theorem Tryz.strings_Replace_absent (s old new : ByteArray) (n : Int) (m : Int) (w : World) (hs : s.size < 4294967281) (hm : w.cell? ⟨0, 0, none⟩ = some (.int .i64 m)) (h1 : 1 ≤ old.size) (hne : old ≠ new) (hn0 : n ≠ 0) (hc0 : Lib.countB s old = 0) :
    Calls Tryz.prog 46 #[.string s, .string old, .string new, .int .i64 n] w fun e w' => e = .returned (.string s) ∧ w' = w := Any.strings_Replace_absent Tryz.lays154 s old new n m w hs hm h1 hne hn0 hc0
open Go.RowKit Go.Lib in
theorem Tryz.strings_Replace (s old new : ByteArray) (n : Int) (m : Int) (w : World) (hs : s.size < 4294967281) (hm : w.cell? ⟨0, 0, none⟩ = some (.int .i64 m)) (h1 : 1 ≤ old.size) (hlen : s.size + Lib.countB s old * new.size ≤ 140737488355328) :
    Calls Tryz.prog 46 #[.string s, .string old, .string new, .int .i64 n] w fun e w' =>
      e = .returned (.string ⟨(Lib.replace s.data.toList old.data.toList new.data.toList n).toArray⟩) ∧ Below w.heap.size w w' := Any.strings_Replace Tryz.lays154 Tryz.Builder_Extra_154 s old new n m w hs hm h1 hlen
def Tryz.lays155_ren : Go.Shelf.Ren := ⟨fun | 155 => 30 | 154 => 46 | 138 => 68 | 165 => 69 | 143 => 41 | 166 => 32 | 197 => 70 | 169 => 33 | 195 => 97 | 218 => 98 | 240 => 48 | 241 => 99 | 219 => 67 | 260 => 100 | 276 => 72 | 277 => 116 | 217 => 47 | 225 => 94 | 224 => 95 | 267 => 96 | 266 => 71 | 314 => 115 | n => n, fun | 9 => 9 | 3 => 3 | 4 => 4 | 72 => 57 | 0 => 0 | 76 => 61 | 105 => 90 | 21 => 21 | 5 => 5 | 70 => 54 | 20 => 20 | 37 => 55 | 75 => 60 | 127 => 76 | 164 => 92 | 46 => 113 | 119 => 148 | 139 => 151 | 138 => 150 | 146 => 145 | 51 => 123 | 80 => 63 | n => n, fun | 1 => 0 | 3 => 1 | 4 => 2 | n => n⟩
theorem Tryz.lays155 : Go.Proofs.Lays.n155 Tryz.prog Tryz.lays155_ren := {
  mixed := by kernel_rfl
  f138 := Tryz.func68.trans (congrArg some (by kernel_rfl))
  f143 := Tryz.func41.trans (congrArg some (by kernel_rfl))
  f154 := Tryz.func46.trans (congrArg some (by kernel_rfl))
  f155 := Tryz.func30.trans (congrArg some (by kernel_rfl))
  f165 := Tryz.func69.trans (congrArg some (by kernel_rfl))
  f166 := Tryz.func32.trans (congrArg some (by kernel_rfl))
  f169 := Tryz.func33.trans (congrArg some (by kernel_rfl))
  f195 := Tryz.func97.trans (congrArg some (by kernel_rfl))
  f197 := Tryz.func70.trans (congrArg some (by kernel_rfl))
  f217 := Tryz.func47.trans (congrArg some (by kernel_rfl))
  f218 := Tryz.func98.trans (congrArg some (by kernel_rfl))
  f219 := Tryz.func67.trans (congrArg some (by kernel_rfl))
  f224 := Tryz.func95.trans (congrArg some (by kernel_rfl))
  f225 := Tryz.func94.trans (congrArg some (by kernel_rfl))
  f240 := Tryz.func48.trans (congrArg some (by kernel_rfl))
  f241 := Tryz.func99.trans (congrArg some (by kernel_rfl))
  f260 := Tryz.func100.trans (congrArg some (by kernel_rfl))
  f266 := Tryz.func71.trans (congrArg some (by kernel_rfl))
  f267 := Tryz.func96.trans (congrArg some (by kernel_rfl))
  f276 := Tryz.func72.trans (congrArg some (by kernel_rfl))
  f277 := Tryz.func116.trans (congrArg some (by kernel_rfl))
  f314 := Tryz.func115.trans (congrArg some (by kernel_rfl))
  t0 := Tryz.underlying0
  a0 := Tryz.isAgg0
  z0 := Tryz.sizeOf0
  v0 := Tryz.zeroValue0
  t3 := Tryz.underlying3
  a3 := Tryz.isAgg3
  z3 := Tryz.sizeOf3
  v3 := Tryz.zeroValue3
  t4 := Tryz.underlying4
  a4 := Tryz.isAgg4
  z4 := Tryz.sizeOf4
  v4 := Tryz.zeroValue4
  t5 := Tryz.underlying5
  a5 := Tryz.isAgg5
  z5 := Tryz.sizeOf5
  v5 := Tryz.zeroValue5
  t9 := Tryz.underlying9
  a9 := Tryz.isAgg9
  z9 := Tryz.sizeOf9
  v9 := Tryz.zeroValue9
  t20 := Tryz.underlying20
  a20 := Tryz.isAgg20
  z20 := Tryz.sizeOf20
  v20 := Tryz.zeroValue20
  t21 := Tryz.underlying21
  a21 := Tryz.isAgg21
  z21 := Tryz.sizeOf21
  v21 := Tryz.zeroValue21
  t37 := Tryz.underlying55
  a37 := Tryz.isAgg55
  z37 := Tryz.sizeOf55
  v37 := Tryz.zeroValue55
  t46 := Tryz.underlying113
  a46 := Tryz.isAgg113
  z46 := Tryz.sizeOf113
  v46 := Tryz.zeroValue113
  t51 := Tryz.underlying123
  a51 := Tryz.isAgg123
  z51 := Tryz.sizeOf123
  v51 := Tryz.zeroValue123
  t70 := Tryz.underlying54
  a70 := Tryz.isAgg54
  z70 := Tryz.sizeOf54
  v70 := Tryz.zeroValue54
  t72 := Tryz.underlying57
  a72 := Tryz.isAgg57
  z72 := Tryz.sizeOf57
  v72 := Tryz.zeroValue57
  t75 := Tryz.underlying60
  a75 := Tryz.isAgg60
  z75 := Tryz.sizeOf60
  v75 := Tryz.zeroValue60
  t76 := Tryz.underlying61
  a76 := Tryz.isAgg61
  z76 := Tryz.sizeOf61
  v76 := Tryz.zeroValue61
  t105 := Tryz.underlying90
  a105 := Tryz.isAgg90
  z105 := Tryz.sizeOf90
  v105 := Tryz.zeroValue90
  t119 := Tryz.underlying148
  a119 := Tryz.isAgg148
  z119 := Tryz.sizeOf148
  t127 := Tryz.underlying76
  a127 := Tryz.isAgg76
  z127 := Tryz.sizeOf76
  v127 := Tryz.zeroValue76
  t138 := Tryz.underlying150
  a138 := Tryz.isAgg150
  z138 := Tryz.sizeOf150
  v138 := Tryz.zeroValue150
  t139 := Tryz.underlying151
  a139 := Tryz.isAgg151
  z139 := Tryz.sizeOf151
  v139 := Tryz.zeroValue151
  t146 := Tryz.underlying145
  a146 := Tryz.isAgg145
  z146 := Tryz.sizeOf145
  v146 := Tryz.zeroValue145
  t164 := Tryz.underlying92
  a164 := Tryz.isAgg92
  z164 := Tryz.sizeOf92
  v164 := Tryz.zeroValue92
  g1 := by kernel_rfl
  g3 := by kernel_rfl
  g4 := by kernel_rfl }
theorem Tryz.Builder_Extra_155 : Builder.Extra Tryz.prog Tryz.lays155_ren := {
  sizeBuilder := by kernel_rfl
  liesBuilder := by kernel_rfl
  t5 := Tryz.underlying5
  a5 := Tryz.isAgg5
  z5 := Tryz.sizeOf5
  v5 := Tryz.zeroValue5
  infoByte := by kernel_rfl
  cellsByte := by kernel_rfl
  sizeByte := by kernel_rfl
  neB5 := by decide }
open Go.RowKit Go.Lib in
theorem Tryz.strings_ReplaceAll (s old new : ByteArray) (m : Int) (w : World) (hs : s.size < 4294967281) (hm : w.cell? ⟨0, 0, none⟩ = some (.int .i64 m)) (h1 : 1 ≤ old.size) (hlen : s.size + Lib.countB s old * new.size ≤ 140737488355328) :
    Calls Tryz.prog 30 #[.string s, .string old, .string new] w fun e w' =>
      e = .returned (.string ⟨(Lib.replaceAll s.data.toList old.data.toList new.data.toList).toArray⟩) ∧ Below w.heap.size w w' := Any.strings_ReplaceAll Tryz.lays155 Tryz.Builder_Extra_155 s old new m w hs hm h1 hlen
def Tryz.laysM154_ren : Go.Shelf.Ren := ⟨fun | 154 => 46 | 138 => 68 | 165 => 69 | 143 => 41 | 166 => 32 | 197 => 70 | 169 => 33 | 195 => 97 | 218 => 98 | 240 => 48 | 241 => 99 | 219 => 67 | 260 => 100 | 276 => 72 | 277 => 116 | 217 => 47 | 225 => 94 | 224 => 95 | 267 => 96 | 266 => 71 | 314 => 115 | n => n, fun | 9 => 9 | 3 => 3 | 4 => 4 | 72 => 57 | 0 => 0 | 76 => 61 | 105 => 90 | 21 => 21 | 5 => 5 | 70 => 54 | 20 => 20 | 37 => 55 | 75 => 60 | 127 => 76 | 164 => 92 | 46 => 113 | 119 => 148 | 139 => 151 | 138 => 150 | 146 => 145 | 51 => 123 | 80 => 63 | n => n, fun | 1 => 0 | 3 => 1 | 4 => 2 | n => n⟩
theorem Tryz.laysM154 : Go.Proofs.LaysM.n154 Tryz.prog Tryz.laysM154_ren := {
  mixed := by kernel_rfl
  f138 := Tryz.func68.trans (congrArg some (by kernel_rfl))
  f143 := Tryz.func41.trans (congrArg some (by kernel_rfl))
  f154 := Tryz.func46.trans (congrArg some (by kernel_rfl))
  f165 := Tryz.func69.trans (congrArg some (by kernel_rfl))
  f166 := Tryz.func32.trans (congrArg some (by kernel_rfl))
  f169 := Tryz.func33.trans (congrArg some (by kernel_rfl))
  f195 := Tryz.func97.trans (congrArg some (by kernel_rfl))
  f197 := Tryz.func70.trans (congrArg some (by kernel_rfl))
  f217 := Tryz.func47.trans (congrArg some (by kernel_rfl))
  f218 := Tryz.func98.trans (congrArg some (by kernel_rfl))
  f219 := Tryz.func67.trans (congrArg some (by kernel_rfl))
  f224 := Tryz.func95.trans (congrArg some (by kernel_rfl))
  f225 := Tryz.func94.trans (congrArg some (by kernel_rfl))
  f240 := Tryz.func48.trans (congrArg some (by kernel_rfl))
  f241 := Tryz.func99.trans (congrArg some (by kernel_rfl))
  f260 := Tryz.func100.trans (congrArg some (by kernel_rfl))
  f266 := Tryz.func71.trans (congrArg some (by kernel_rfl))
  f267 := Tryz.func96.trans (congrArg some (by kernel_rfl))
  f276 := Tryz.func72.trans (congrArg some (by kernel_rfl))
  f277 := Tryz.func116.trans (congrArg some (by kernel_rfl))
  f314 := Tryz.func115.trans (congrArg some (by kernel_rfl))
  t0 := Tryz.underlying0
  a0 := Tryz.isAgg0
  z0 := Tryz.sizeOf0
  v0 := Tryz.zeroValue0
  t3 := Tryz.underlying3
  a3 := Tryz.isAgg3
  z3 := Tryz.sizeOf3
  v3 := Tryz.zeroValue3
  t4 := Tryz.underlying4
  a4 := Tryz.isAgg4
  z4 := Tryz.sizeOf4
  v4 := Tryz.zeroValue4
  t5 := Tryz.underlying5
  a5 := Tryz.isAgg5
  z5 := Tryz.sizeOf5
  v5 := Tryz.zeroValue5
  t9 := Tryz.underlying9
  a9 := Tryz.isAgg9
  z9 := Tryz.sizeOf9
  v9 := Tryz.zeroValue9
  t20 := Tryz.underlying20
  a20 := Tryz.isAgg20
  z20 := Tryz.sizeOf20
  v20 := Tryz.zeroValue20
  t21 := Tryz.underlying21
  a21 := Tryz.isAgg21
  z21 := Tryz.sizeOf21
  v21 := Tryz.zeroValue21
  t37 := Tryz.underlying55
  a37 := Tryz.isAgg55
  z37 := Tryz.sizeOf55
  v37 := Tryz.zeroValue55
  t46 := Tryz.underlying113
  a46 := Tryz.isAgg113
  z46 := Tryz.sizeOf113
  v46 := Tryz.zeroValue113
  t51 := Tryz.underlying123
  a51 := Tryz.isAgg123
  z51 := Tryz.sizeOf123
  v51 := Tryz.zeroValue123
  t70 := Tryz.underlying54
  a70 := Tryz.isAgg54
  z70 := Tryz.sizeOf54
  v70 := Tryz.zeroValue54
  t72 := Tryz.underlying57
  a72 := Tryz.isAgg57
  z72 := Tryz.sizeOf57
  v72 := Tryz.zeroValue57
  t75 := Tryz.underlying60
  a75 := Tryz.isAgg60
  z75 := Tryz.sizeOf60
  v75 := Tryz.zeroValue60
  t76 := Tryz.underlying61
  a76 := Tryz.isAgg61
  z76 := Tryz.sizeOf61
  v76 := Tryz.zeroValue61
  t105 := Tryz.underlying90
  a105 := Tryz.isAgg90
  z105 := Tryz.sizeOf90
  v105 := Tryz.zeroValue90
  t119 := Tryz.underlying148
  a119 := Tryz.isAgg148
  z119 := Tryz.sizeOf148
  t127 := Tryz.underlying76
  a127 := Tryz.isAgg76
  z127 := Tryz.sizeOf76
  v127 := Tryz.zeroValue76
  t138 := Tryz.underlying150
  a138 := Tryz.isAgg150
  z138 := Tryz.sizeOf150
  v138 := Tryz.zeroValue150
  t139 := Tryz.underlying151
  a139 := Tryz.isAgg151
  z139 := Tryz.sizeOf151
  v139 := Tryz.zeroValue151
  t146 := Tryz.underlying145
  a146 := Tryz.isAgg145
  z146 := Tryz.sizeOf145
  v146 := Tryz.zeroValue145
  t164 := Tryz.underlying92
  a164 := Tryz.isAgg92
  z164 := Tryz.sizeOf92
  v164 := Tryz.zeroValue92
  g1 := by kernel_rfl
  g3 := by kernel_rfl
  g4 := by kernel_rfl
  t80 := Tryz.underlying63
  a80 := Tryz.isAgg63
  z80 := Tryz.sizeOf63
  v80 := Tryz.zeroValue63
  i0 := by kernel_rfl
  i3 := by kernel_rfl
  i4 := by kernel_rfl
  i5 := by kernel_rfl
  i9 := by kernel_rfl
  i20 := by kernel_rfl
  i21 := by kernel_rfl
  i37 := by kernel_rfl
  i46 := by kernel_rfl
  i51 := by kernel_rfl
  i70 := by kernel_rfl
  i72 := by kernel_rfl
  i75 := by kernel_rfl
  i76 := by kernel_rfl
  i80 := by kernel_rfl
  i105 := by kernel_rfl
  i127 := by kernel_rfl
  i138 := by kernel_rfl
  i139 := by kernel_rfl
  i146 := by kernel_rfl
  i164 := by kernel_rfl
  m1 := by kernel_rfl
  s1_3 := fun w h => Go.Proofs.cell_of_shapedOpen_int (zero := #[.int .i64 0]) (t := 3) h (of_decide_eq_true (by kernel_rfl)) (by kernel_rfl) rfl (by kernel_rfl) (by kernel_rfl) Tryz.underlying3
  m3 := by kernel_rfl
  m4 := by kernel_rfl }
theorem Tryz.Builder_Extra_M154 : Builder.Extra Tryz.prog Tryz.laysM154_ren := {
  sizeBuilder := by kernel_rfl
  liesBuilder := by kernel_rfl
  t5 := Tryz.underlying5
  a5 := Tryz.isAgg5
  z5 := Tryz.sizeOf5
  v5 := Tryz.zeroValue5
  infoByte := by kernel_rfl
  cellsByte := by kernel_rfl
  sizeByte := by kernel_rfl
  neB5 := by decide }
open Go.RowKit Go.Lib in
theorem Tryz.strings_Replace_shaped (s old new : ByteArray) (n : Int) (w : World) (h : w.ShapedOpen Tryz.prog) (hs : s.size < 4294967281) (h1 : 1 ≤ old.size) (hlen : s.size + Lib.countB s old * new.size ≤ 140737488355328) :
    Calls Tryz.prog 46 #[.string s, .string old, .string new, .int .i64 n] w fun e w' =>
      e = .returned (.string ⟨(Lib.replace s.data.toList old.data.toList new.data.toList n).toArray⟩) ∧ Below w.heap.size w w' := Any.strings_Replace_shaped Tryz.laysM154 Tryz.Builder_Extra_M154 s old new n w h hs h1 hlen
def Tryz.laysM155_ren : Go.Shelf.Ren := ⟨fun | 155 => 30 | 154 => 46 | 138 => 68 | 165 => 69 | 143 => 41 | 166 => 32 | 197 => 70 | 169 => 33 | 195 => 97 | 218 => 98 | 240 => 48 | 241 => 99 | 219 => 67 | 260 => 100 | 276 => 72 | 277 => 116 | 217 => 47 | 225 => 94 | 224 => 95 | 267 => 96 | 266 => 71 | 314 => 115 | n => n, fun | 9 => 9 | 3 => 3 | 4 => 4 | 72 => 57 | 0 => 0 | 76 => 61 | 105 => 90 | 21 => 21 | 5 => 5 | 70 => 54 | 20 => 20 | 37 => 55 | 75 => 60 | 127 => 76 | 164 => 92 | 46 => 113 | 119 => 148 | 139 => 151 | 138 => 150 | 146 => 145 | 51 => 123 | 80 => 63 | n => n, fun | 1 => 0 | 3 => 1 | 4 => 2 | n => n⟩
theorem Tryz.laysM155 : Go.Proofs.LaysM.n155 Tryz.prog Tryz.laysM155_ren := {
  mixed := by kernel_rfl
  f138 := Tryz.func68.trans (congrArg some (by kernel_rfl))
  f143 := Tryz.func41.trans (congrArg some (by kernel_rfl))
  f154 := Tryz.func46.trans (congrArg some (by kernel_rfl))
  f155 := Tryz.func30.trans (congrArg some (by kernel_rfl))
  f165 := Tryz.func69.trans (congrArg some (by kernel_rfl))
  f166 := Tryz.func32.trans (congrArg some (by kernel_rfl))
  f169 := Tryz.func33.trans (congrArg some (by kernel_rfl))
  f195 := Tryz.func97.trans (congrArg some (by kernel_rfl))
  f197 := Tryz.func70.trans (congrArg some (by kernel_rfl))
  f217 := Tryz.func47.trans (congrArg some (by kernel_rfl))
  f218 := Tryz.func98.trans (congrArg some (by kernel_rfl))
  f219 := Tryz.func67.trans (congrArg some (by kernel_rfl))
  f224 := Tryz.func95.trans (congrArg some (by kernel_rfl))
  f225 := Tryz.func94.trans (congrArg some (by kernel_rfl))
  f240 := Tryz.func48.trans (congrArg some (by kernel_rfl))
  f241 := Tryz.func99.trans (congrArg some (by kernel_rfl))
  f260 := Tryz.func100.trans (congrArg some (by kernel_rfl))
  f266 := Tryz.func71.trans (congrArg some (by kernel_rfl))
  f267 := Tryz.func96.trans (congrArg some (by kernel_rfl))
  f276 := Tryz.func72.trans (congrArg some (by kernel_rfl))
  f277 := Tryz.func116.trans (congrArg some (by kernel_rfl))
  f314 := Tryz.func115.trans (congrArg some (by kernel_rfl))
  t0 := Tryz.underlying0
  a0 := Tryz.isAgg0
  z0 := Tryz.sizeOf0
  v0 := Tryz.zeroValue0
  t3 := Tryz.underlying3
  a3 := Tryz.isAgg3
  z3 := Tryz.sizeOf3
  v3 := Tryz.zeroValue3
  t4 := Tryz.underlying4
  a4 := Tryz.isAgg4
  z4 := Tryz.sizeOf4
  v4 := Tryz.zeroValue4
  t5 := Tryz.underlying5
  a5 := Tryz.isAgg5
  z5 := Tryz.sizeOf5
  v5 := Tryz.zeroValue5
  t9 := Tryz.underlying9
  a9 := Tryz.isAgg9
  z9 := Tryz.sizeOf9
  v9 := Tryz.zeroValue9
  t20 := Tryz.underlying20
  a20 := Tryz.isAgg20
  z20 := Tryz.sizeOf20
  v20 := Tryz.zeroValue20
  t21 := Tryz.underlying21
  a21 := Tryz.isAgg21
  z21 := Tryz.sizeOf21
  v21 := Tryz.zeroValue21
  t37 := Tryz.underlying55
  a37 := Tryz.isAgg55
  z37 := Tryz.sizeOf55
  v37 := Tryz.zeroValue55
  t46 := Tryz.underlying113
  a46 := Tryz.isAgg113
  z46 := Tryz.sizeOf113
  v46 := Tryz.zeroValue113
  t51 := Tryz.underlying123
  a51 := Tryz.isAgg123
  z51 := Tryz.sizeOf123
  v51 := Tryz.zeroValue123
  t70 := Tryz.underlying54
  a70 := Tryz.isAgg54
  z70 := Tryz.sizeOf54
  v70 := Tryz.zeroValue54
  t72 := Tryz.underlying57
  a72 := Tryz.isAgg57
  z72 := Tryz.sizeOf57
  v72 := Tryz.zeroValue57
  t75 := Tryz.underlying60
  a75 := Tryz.isAgg60
  z75 := Tryz.sizeOf60
  v75 := Tryz.zeroValue60
  t76 := Tryz.underlying61
  a76 := Tryz.isAgg61
  z76 := Tryz.sizeOf61
  v76 := Tryz.zeroValue61
  t105 := Tryz.underlying90
  a105 := Tryz.isAgg90
  z105 := Tryz.sizeOf90
  v105 := Tryz.zeroValue90
  t119 := Tryz.underlying148
  a119 := Tryz.isAgg148
  z119 := Tryz.sizeOf148
  t127 := Tryz.underlying76
  a127 := Tryz.isAgg76
  z127 := Tryz.sizeOf76
  v127 := Tryz.zeroValue76
  t138 := Tryz.underlying150
  a138 := Tryz.isAgg150
  z138 := Tryz.sizeOf150
  v138 := Tryz.zeroValue150
  t139 := Tryz.underlying151
  a139 := Tryz.isAgg151
  z139 := Tryz.sizeOf151
  v139 := Tryz.zeroValue151
  t146 := Tryz.underlying145
  a146 := Tryz.isAgg145
  z146 := Tryz.sizeOf145
  v146 := Tryz.zeroValue145
  t164 := Tryz.underlying92
  a164 := Tryz.isAgg92
  z164 := Tryz.sizeOf92
  v164 := Tryz.zeroValue92
  g1 := by kernel_rfl
  g3 := by kernel_rfl
  g4 := by kernel_rfl
  t80 := Tryz.underlying63
  a80 := Tryz.isAgg63
  z80 := Tryz.sizeOf63
  v80 := Tryz.zeroValue63
  i0 := by kernel_rfl
  i3 := by kernel_rfl
  i4 := by kernel_rfl
  i5 := by kernel_rfl
  i9 := by kernel_rfl
  i20 := by kernel_rfl
  i21 := by kernel_rfl
  i37 := by kernel_rfl
  i46 := by kernel_rfl
  i51 := by kernel_rfl
  i70 := by kernel_rfl
  i72 := by kernel_rfl
  i75 := by kernel_rfl
  i76 := by kernel_rfl
  i80 := by kernel_rfl
  i105 := by kernel_rfl
  i127 := by kernel_rfl
  i138 := by kernel_rfl
  i139 := by kernel_rfl
  i146 := by kernel_rfl
  i164 := by kernel_rfl
  m1 := by kernel_rfl
  s1_3 := fun w h => Go.Proofs.cell_of_shapedOpen_int (zero := #[.int .i64 0]) (t := 3) h (of_decide_eq_true (by kernel_rfl)) (by kernel_rfl) rfl (by kernel_rfl) (by kernel_rfl) Tryz.underlying3
  m3 := by kernel_rfl
  m4 := by kernel_rfl }
theorem Tryz.Builder_Extra_M155 : Builder.Extra Tryz.prog Tryz.laysM155_ren := {
  sizeBuilder := by kernel_rfl
  liesBuilder := by kernel_rfl
  t5 := Tryz.underlying5
  a5 := Tryz.isAgg5
  z5 := Tryz.sizeOf5
  v5 := Tryz.zeroValue5
  infoByte := by kernel_rfl
  cellsByte := by kernel_rfl
  sizeByte := by kernel_rfl
  neB5 := by decide }
open Go.RowKit Go.Lib in
theorem Tryz.strings_ReplaceAll_shaped (s old new : ByteArray) (w : World) (h : w.ShapedOpen Tryz.prog) (hs : s.size < 4294967281) (h1 : 1 ≤ old.size) (hlen : s.size + Lib.countB s old * new.size ≤ 140737488355328) :
    Calls Tryz.prog 30 #[.string s, .string old, .string new] w fun e w' =>
      e = .returned (.string ⟨(Lib.replaceAll s.data.toList old.data.toList new.data.toList).toArray⟩) ∧ Below w.heap.size w w' := Any.strings_ReplaceAll_shaped Tryz.laysM155 Tryz.Builder_Extra_M155 s old new w h hs h1 hlen
def Tryz.lays197_ren : Go.Shelf.Ren := ⟨fun | 197 => 70 | 260 => 100 | n => n, fun | 9 => 9 | 21 => 21 | 3 => 3 | 4 => 4 | 5 => 5 | 105 => 90 | 119 => 148 | 0 => 0 | 46 => 113 | 139 => 151 | 138 => 150 | n => n, fun | 3 => 1 | 4 => 2 | n => n⟩
theorem Tryz.lays197 : Go.Proofs.Lays.n197 Tryz.prog Tryz.lays197_ren := {
  mixed := by kernel_rfl
  f197 := Tryz.func70.trans (congrArg some (by kernel_rfl))
  f260 := Tryz.func100.trans (congrArg some (by kernel_rfl))
  t0 := Tryz.underlying0
  a0 := Tryz.isAgg0
  z0 := Tryz.sizeOf0
  v0 := Tryz.zeroValue0
  t3 := Tryz.underlying3
  a3 := Tryz.isAgg3
  z3 := Tryz.sizeOf3
  v3 := Tryz.zeroValue3
  t4 := Tryz.underlying4
  a4 := Tryz.isAgg4
  z4 := Tryz.sizeOf4
  v4 := Tryz.zeroValue4
  t5 := Tryz.underlying5
  a5 := Tryz.isAgg5
  z5 := Tryz.sizeOf5
  v5 := Tryz.zeroValue5
  t9 := Tryz.underlying9
  a9 := Tryz.isAgg9
  z9 := Tryz.sizeOf9
  v9 := Tryz.zeroValue9
  t21 := Tryz.underlying21
  a21 := Tryz.isAgg21
  z21 := Tryz.sizeOf21
  v21 := Tryz.zeroValue21
  t46 := Tryz.underlying113
  a46 := Tryz.isAgg113
  z46 := Tryz.sizeOf113
  v46 := Tryz.zeroValue113
  t105 := Tryz.underlying90
  a105 := Tryz.isAgg90
  z105 := Tryz.sizeOf90
  v105 := Tryz.zeroValue90
  t119 := Tryz.underlying148
  a119 := Tryz.isAgg148
  z119 := Tryz.sizeOf148
  t138 := Tryz.underlying150
  a138 := Tryz.isAgg150
  z138 := Tryz.sizeOf150
  v138 := Tryz.zeroValue150
  t139 := Tryz.underlying151
  a139 := Tryz.isAgg151
  z139 := Tryz.sizeOf151
  v139 := Tryz.zeroValue151
  g3 := by kernel_rfl
  g4 := by kernel_rfl }
open Go.RowKit Go.Lib in
theorem Tryz.utf8_DecodeRuneInString_ascii (s : ByteArray) (x : UInt8) (w : World) (h0 : s.data.toList[0]? = some x) (hx : x.toNat < 128) :
    Calls Tryz.prog 70 #[.string s] w fun e w' => e = .returned (.tuple #[.int .i32 x.toNat, .int .i64 1]) ∧ w' = w := Any.utf8_DecodeRuneInString_ascii Tryz.lays197 s x w h0 hx
open Go.RowKit Go.Lib in
theorem Tryz.utf8_RuneCountInString_ascii (s : ByteArray) (w : World) (hs : s.size < 4294967281) (hascii : ∀ (j : Nat) b, s.data.toList[j]? = some b → b.toNat < 128) :
    Calls Tryz.prog 97 #[.string s] w fun e w' => e = .returned (.int .i64 s.size) ∧ w' = w.iter s s.size := Any.utf8_RuneCountInString_ascii Tryz.lays195 s w hs hascii
def Tryz.lays260_ren : Go.Shelf.Ren := ⟨fun | 260 => 100 | n => n, fun | 9 => 9 | 21 => 21 | 3 => 3 | 4 => 4 | 5 => 5 | 119 => 148 | 0 => 0 | 46 => 113 | 139 => 151 | 138 => 150 | n => n, fun | 3 => 1 | 4 => 2 | n => n⟩
theorem Tryz.lays260 : Go.Proofs.Lays.n260 Tryz.prog Tryz.lays260_ren := {
  mixed := by kernel_rfl
  f260 := Tryz.func100.trans (congrArg some (by kernel_rfl))
  t0 := Tryz.underlying0
  a0 := Tryz.isAgg0
  z0 := Tryz.sizeOf0
  v0 := Tryz.zeroValue0
  t3 := Tryz.underlying3
  a3 := Tryz.isAgg3
  z3 := Tryz.sizeOf3
  v3 := Tryz.zeroValue3
  t4 := Tryz.underlying4
  a4 := Tryz.isAgg4
  z4 := Tryz.sizeOf4
  v4 := Tryz.zeroValue4
  t5 := Tryz.underlying5
  a5 := Tryz.isAgg5
  z5 := Tryz.sizeOf5
  v5 := Tryz.zeroValue5
  t9 := Tryz.underlying9
  a9 := Tryz.isAgg9
  z9 := Tryz.sizeOf9
  v9 := Tryz.zeroValue9
  t21 := Tryz.underlying21
  a21 := Tryz.isAgg21
  z21 := Tryz.sizeOf21
  v21 := Tryz.zeroValue21
  t46 := Tryz.underlying113
  a46 := Tryz.isAgg113
  z46 := Tryz.sizeOf113
  v46 := Tryz.zeroValue113
  t119 := Tryz.underlying148
  a119 := Tryz.isAgg148
  z119 := Tryz.sizeOf148
  t138 := Tryz.underlying150
  a138 := Tryz.isAgg150
  z138 := Tryz.sizeOf150
  v138 := Tryz.zeroValue150
  t139 := Tryz.underlying151
  a139 := Tryz.isAgg151
  z139 := Tryz.sizeOf151
  v139 := Tryz.zeroValue151
  g3 := by kernel_rfl
  g4 := by kernel_rfl }
open Go.RowKit Go.Lib in
theorem Tryz.utf8_decodeRuneInStringSlow (s : ByteArray) (w : World) (hT : Lib.Utf8Tabs 1 2 w) :
    Calls Tryz.prog 100 #[.string s] w fun e w' => e = .returned (.tuple #[.int .i32 (Lib.decodeGo s).1, .int .i64 (Lib.decodeGo s).2]) ∧ Below w.heap.size w w' := Any.utf8_decodeRuneInStringSlow Tryz.lays260 s w hT
open Go.RowKit Go.Lib in
theorem Tryz.utf8_DecodeRuneInString (s : ByteArray) (w : World) (hT : Lib.Utf8Tabs 1 2 w) :
    Calls Tryz.prog 70 #[.string s] w fun e w' => e = .returned (.tuple #[.int .i32 (Lib.decodeGo s).1, .int .i64 (Lib.decodeGo s).2]) ∧ Below w.heap.size w w' := Any.utf8_DecodeRuneInString Tryz.lays197 s w hT
end Go.Proofs
