/-
  DERIVED: THE SHELF's CONTRACTS AT THIS DUMP, IN PLAIN WORDS (tools/lay-plain.mjs out of 'TryzShelf.lean', which tools/lay-shelf.mjs wrote): THE SAME DECLARATIONS UNDER THE SAME NAMES: 'import', 'namespace', 'open', 'def', 'theorem' AND NOTHING ELSE: no command of the shelf's: FOR A HAND-IN. Each laying: the table of numbers ('.._ren') and one theorem, a field a fact of the dump's own or the kernel's comparison; each contract: ONE APPLICATION.
-/
import Derived.Shelf.Strings.Builder1
import Derived.Shelf.Strings.Builder2
import Derived.Shelf.Strings.TrimSpace
import Derived.Shelf.Small.Utf8
import Derived.Shelf.Small.Strs
import Derived.Shelf.Strings.BuilderF
import Derived.Shelf.Strings.BuilderK
import Derived.Shelf.Strings.BuilderRune
import Derived.Shelf.Utf8.AppendRune
import Derived.Shelf.LaysM
import Derived.Shelf.Strconv.Clone
import Derived.Shelf.Strconv.SyntaxError
import Derived.Shelf.LaysC
import Derived.Shelf.Strconv.ToError
import Derived.Shelf.Strconv.Lower
import Derived.Shelf.Strconv.ParseUint10
import Derived.Shelf.Strconv.ParseUint10Empty
import Derived.Shelf.Strconv.ParseUint10Any
import Derived.Shelf.Strings.Search1
import Derived.Shelf.Strings.Prefix
import Derived.Shelf.Unicode.Latin
import Derived.Shelf.Bits.Mul64
import Derived.Shelf.Unicode.DecodeSlow
import Derived.Shelf.Unicode.Is16White
import Derived.Shelf.Unicode.IsSpaceAny
import Derived.Shelf.Unicode.CaseLookup
import Derived.Shelf.Unicode.CaseConvert
import Derived.Shelf.Unicode.CaseTo
import Derived.Shelf.Unicode.CaseLaid
import Derived.Shelf.Unicode.Is16Any
import Derived.Shelf.Unicode.Is32Any
import Derived.Shelf.Unicode.ExclAny
import Derived.Shelf.Bytes.IndexByte
import Derived.Test.YtfnncdngfggcjaaGreatDoorProg
namespace Go.Proofs
open Go.Shelf
def Tryz.lays170_ren : Go.Shelf.Ren := ⟨fun | 170 => 79 | n => n, fun | 70 => 122 | 3 => 3 | 0 => 0 | 72 => 124 | 37 => 49 | 5 => 5 | n => n, fun | n => n⟩
theorem Tryz.lays170 : Go.Proofs.Lays.n170 Tryz.prog Tryz.lays170_ren := {
  mixed := by kernel_rfl
  f170 := Tryz.func79.trans (congrArg some (by kernel_rfl))
  t0 := Tryz.underlying0
  a0 := Tryz.isAgg0
  z0 := Tryz.sizeOf0
  v0 := Tryz.zeroValue0
  t3 := Tryz.underlying3
  a3 := Tryz.isAgg3
  z3 := Tryz.sizeOf3
  v3 := Tryz.zeroValue3
  t37 := Tryz.underlying49
  a37 := Tryz.isAgg49
  z37 := Tryz.sizeOf49
  v37 := Tryz.zeroValue49
  t70 := Tryz.underlying122
  a70 := Tryz.isAgg122
  z70 := Tryz.sizeOf122
  v70 := Tryz.zeroValue122
  t72 := Tryz.underlying124
  a72 := Tryz.isAgg124
  z72 := Tryz.sizeOf124
  v72 := Tryz.zeroValue124 }
open Go.RowKit in
/-- (*strings.Builder).Len: "Len returns the number of accumulated bytes; b.Len() == len(b.String()).": the world is as it was. (LAID: no walk: one application.) -/
theorem Tryz.Builder_Len (B b : Nat) (bs : List Value) (w : World) (h : Lib.IsBuilder 124 5 B b bs w) :
    Calls Tryz.prog 79 #[.pointer (some ⟨b, 0, none⟩)] w fun e w' => e = .returned (.int .i64 bs.length) ∧ w' = w := Any.Builder_Len Tryz.lays170 B b bs w h
def Tryz.lays169_ren : Go.Shelf.Ren := ⟨fun | 169 => 77 | n => n, fun | 70 => 122 | 9 => 9 | 0 => 0 | 72 => 124 | 37 => 49 | 127 => 164 | 3 => 3 | 5 => 5 | n => n, fun | n => n⟩
theorem Tryz.lays169 : Go.Proofs.Lays.n169 Tryz.prog Tryz.lays169_ren := {
  mixed := by kernel_rfl
  f169 := Tryz.func77.trans (congrArg some (by kernel_rfl))
  t0 := Tryz.underlying0
  a0 := Tryz.isAgg0
  z0 := Tryz.sizeOf0
  v0 := Tryz.zeroValue0
  t3 := Tryz.underlying3
  a3 := Tryz.isAgg3
  z3 := Tryz.sizeOf3
  v3 := Tryz.zeroValue3
  t9 := Tryz.underlying9
  a9 := Tryz.isAgg9
  z9 := Tryz.sizeOf9
  v9 := Tryz.zeroValue9
  t37 := Tryz.underlying49
  a37 := Tryz.isAgg49
  z37 := Tryz.sizeOf49
  v37 := Tryz.zeroValue49
  t70 := Tryz.underlying122
  a70 := Tryz.isAgg122
  z70 := Tryz.sizeOf122
  v70 := Tryz.zeroValue122
  t72 := Tryz.underlying124
  a72 := Tryz.isAgg124
  z72 := Tryz.sizeOf124
  v72 := Tryz.zeroValue124
  t127 := Tryz.underlying164
  a127 := Tryz.isAgg164
  z127 := Tryz.sizeOf164
  v127 := Tryz.zeroValue164 }
theorem Tryz.Builder_Extra_169 : Builder.Extra Tryz.prog Tryz.lays169_ren := {
  sizeBuilder := by kernel_rfl
  liesBuilder := by kernel_rfl
  t5 := Tryz.underlying5
  a5 := Tryz.isAgg5
  z5 := Tryz.sizeOf5
  v5 := Tryz.zeroValue5
  infoByte := by kernel_rfl
  cellsByte := by kernel_rfl
  sizeByte := by kernel_rfl
  neB5 := by decide }
open Go.RowKit in
/-- (*strings.Builder).String: "String returns the accumulated string.": OF A BUILDER THAT HOLDS AT LEAST ONE BYTE. ✋ THE MODEL FREEZES THOSE BYTES IN THE BUFFER (unsafe.String): a later write INTO them ends the model's run without an answer; a later append BEHIND them goes on. The statement's order of evaluation is drawn: one draw. (LAID: no walk: one application.) -/
theorem Tryz.Builder_String (B b : Nat) (l : List UInt8) (w : World) (h : Lib.IsBuilder 124 5 B b (Lib.byteCells l) w) (h0 : l ≠ []) :
    Calls Tryz.prog 77 #[.pointer (some ⟨b, 0, none⟩)] w fun e w' => e = .returned (.string ⟨l.toArray⟩) ∧ Below B w w' := Any.Builder_String Tryz.lays169 Tryz.Builder_Extra_169 B b l w h h0
open Go.RowKit in
/-- (*strings.Builder).String OF A BUILDER THAT HOLDS NO BYTE: the empty string. (Its buffer is nil, or a row of which it has taken nothing yet; where that row has NO capacity the model lays one new block for unsafe.SliceData's 'some address'.) One draw. (LAID: no walk: one application.) -/
theorem Tryz.Builder_String_empty (B b : Nat) (w : World) (h : Lib.IsBuilder 124 5 B b [] w) (hBw : B ≤ w.heap.size) :
    Calls Tryz.prog 77 #[.pointer (some ⟨b, 0, none⟩)] w fun e w' => e = .returned (.string ⟨#[]⟩) ∧ Below B w w' := Any.Builder_String_empty Tryz.lays169 Tryz.Builder_Extra_169 B b w h hBw
open Go.RowKit in
/-- (*strings.Builder).String: "String returns the accumulated string.": WHATEVER THE BUILDER HOLDS. (LAID: no walk: one application.) -/
theorem Tryz.Builder_String_any (B b : Nat) (l : List UInt8) (w : World) (h : Lib.IsBuilder 124 5 B b (Lib.byteCells l) w) (hBw : B ≤ w.heap.size) :
    Calls Tryz.prog 77 #[.pointer (some ⟨b, 0, none⟩)] w fun e w' => e = .returned (.string ⟨l.toArray⟩) ∧ Below B w w' := Any.Builder_String_any Tryz.lays169 Tryz.Builder_Extra_169 B b l w h hBw
def Tryz.lays241_ren : Go.Shelf.Ren := ⟨fun | 241 => 96 | 277 => 118 | n => n, fun | 70 => 122 | 3 => 3 | 0 => 0 | 72 => 124 | 37 => 49 | 5 => 5 | n => n, fun | n => n⟩
theorem Tryz.lays241 : Go.Proofs.Lays.n241 Tryz.prog Tryz.lays241_ren := {
  mixed := by kernel_rfl
  f241 := Tryz.func96.trans (congrArg some (by kernel_rfl))
  f277 := Tryz.func118.trans (congrArg some (by kernel_rfl))
  t0 := Tryz.underlying0
  a0 := Tryz.isAgg0
  z0 := Tryz.sizeOf0
  v0 := Tryz.zeroValue0
  t3 := Tryz.underlying3
  a3 := Tryz.isAgg3
  z3 := Tryz.sizeOf3
  v3 := Tryz.zeroValue3
  t37 := Tryz.underlying49
  a37 := Tryz.isAgg49
  z37 := Tryz.sizeOf49
  v37 := Tryz.zeroValue49
  t70 := Tryz.underlying122
  a70 := Tryz.isAgg122
  z70 := Tryz.sizeOf122
  v70 := Tryz.zeroValue122
  t72 := Tryz.underlying124
  a72 := Tryz.isAgg124
  z72 := Tryz.sizeOf124
  v72 := Tryz.zeroValue124 }
theorem Tryz.Builder_Extra_241 : Builder.Extra Tryz.prog Tryz.lays241_ren := {
  sizeBuilder := by kernel_rfl
  liesBuilder := by kernel_rfl
  t5 := Tryz.underlying5
  a5 := Tryz.isAgg5
  z5 := Tryz.sizeOf5
  v5 := Tryz.zeroValue5
  infoByte := by kernel_rfl
  cellsByte := by kernel_rfl
  sizeByte := by kernel_rfl
  neB5 := by decide }
open Go.RowKit in
/-- (*strings.Builder).grow (no doc but "grow copies the buffer to a new, larger buffer so that there are at least n bytes of capacity beyond len(b.buf)."): AT A BUILDER WITHOUT A BUFFER: a new row of whatever bytes for its buffer, none of them its own yet. Three draws. (LAID: no walk: one application.) -/
theorem Tryz.Builder_grow_fresh (B b n : Nat) (w : World) (hB : B ≤ b) (hbk : w.heap[b]? = some (.cells #[.pointer (some ⟨b, 0, none⟩), .slice none 0 0] 124 (0, 0))) (hBw : B ≤ w.heap.size) (hn : n ≤ 281474976710656) :
    Calls Tryz.prog 96 #[.pointer (some ⟨b, 0, none⟩), .int .i64 n] w fun e w' => e = .returned (.tuple #[]) ∧ (Lib.BuilderAt 124 5 B b (.pointer (some ⟨b, 0, none⟩)) [] w' ∧ Below B w w') := Any.Builder_grow_fresh Tryz.lays241 Tryz.Builder_Extra_241 B b n w hB hbk hBw hn
def Tryz.lays165_ren : Go.Shelf.Ren := ⟨fun | 165 => 72 | 240 => 95 | 241 => 96 | 276 => 117 | 277 => 118 | n => n, fun | 70 => 122 | 3 => 3 | 0 => 0 | 4 => 4 | 9 => 9 | 20 => 20 | 72 => 124 | 37 => 49 | 164 => 186 | 5 => 5 | n => n, fun | n => n⟩
theorem Tryz.lays165 : Go.Proofs.Lays.n165 Tryz.prog Tryz.lays165_ren := {
  mixed := by kernel_rfl
  f165 := Tryz.func72.trans (congrArg some (by kernel_rfl))
  f240 := Tryz.func95.trans (congrArg some (by kernel_rfl))
  f241 := Tryz.func96.trans (congrArg some (by kernel_rfl))
  f276 := Tryz.func117.trans (congrArg some (by kernel_rfl))
  f277 := Tryz.func118.trans (congrArg some (by kernel_rfl))
  t0 := Tryz.underlying0
  a0 := Tryz.isAgg0
  z0 := Tryz.sizeOf0
  v0 := Tryz.zeroValue0
  t3 := Tryz.underlying3
  a3 := Tryz.isAgg3
  z3 := Tryz.sizeOf3
  v3 := Tryz.zeroValue3
  t4 := Tryz.underlying4
  a4 := Tryz.isAgg4
  z4 := Tryz.sizeOf4
  v4 := Tryz.zeroValue4
  t9 := Tryz.underlying9
  a9 := Tryz.isAgg9
  z9 := Tryz.sizeOf9
  v9 := Tryz.zeroValue9
  t20 := Tryz.underlying20
  a20 := Tryz.isAgg20
  z20 := Tryz.sizeOf20
  v20 := Tryz.zeroValue20
  t37 := Tryz.underlying49
  a37 := Tryz.isAgg49
  z37 := Tryz.sizeOf49
  v37 := Tryz.zeroValue49
  t70 := Tryz.underlying122
  a70 := Tryz.isAgg122
  z70 := Tryz.sizeOf122
  v70 := Tryz.zeroValue122
  t72 := Tryz.underlying124
  a72 := Tryz.isAgg124
  z72 := Tryz.sizeOf124
  v72 := Tryz.zeroValue124
  t164 := Tryz.underlying186
  a164 := Tryz.isAgg186
  z164 := Tryz.sizeOf186
  v164 := Tryz.zeroValue186 }
theorem Tryz.Builder_Extra_165 : Builder.Extra Tryz.prog Tryz.lays165_ren := {
  sizeBuilder := by kernel_rfl
  liesBuilder := by kernel_rfl
  t5 := Tryz.underlying5
  a5 := Tryz.isAgg5
  z5 := Tryz.sizeOf5
  v5 := Tryz.zeroValue5
  infoByte := by kernel_rfl
  cellsByte := by kernel_rfl
  sizeByte := by kernel_rfl
  neB5 := by decide }
open Go.RowKit in
/-- (*strings.Builder).Grow AT A BUILDER THAT HAS NOT BEEN WRITTEN ('var b strings.Builder; b.Grow(n)'): "Grow grows b's capacity, if necessary, to guarantee space for another n bytes.": it holds no byte behind it as before it. (LAID: no walk: one application.) -/
theorem Tryz.Builder_Grow_fresh (B b n : Nat) (w : World) (hB : B ≤ b) (hbk : w.heap[b]? = some (.cells #[.pointer none, .slice none 0 0] 124 (0, 0))) (hBw : B ≤ w.heap.size) (hn : n ≤ 281474976710656) :
    Calls Tryz.prog 72 #[.pointer (some ⟨b, 0, none⟩), .int .i64 n] w fun e w' => e = .returned (.tuple #[]) ∧ (Lib.BuilderAt 124 5 B b (.pointer (some ⟨b, 0, none⟩)) [] w' ∧ Below B w w') := Any.Builder_Grow_fresh Tryz.lays165 Tryz.Builder_Extra_165 B b n w hB hbk hBw hn
def Tryz.lays163_ren : Go.Shelf.Ren := ⟨fun | 163 => 76 | 237 => 100 | 199 => 101 | 238 => 102 | 272 => 120 | 261 => 121 | 273 => 122 | 197 => 75 | 315 => 155 | 311 => 156 | 312 => 157 | 271 => 158 | 260 => 99 | 120 => 179 | n => n, fun | 9 => 9 | 37 => 49 | 3 => 3 | 0 => 0 | 5 => 5 | 4 => 4 | 40 => 162 | 119 => 163 | 21 => 21 | 51 => 189 | 141 => 194 | 105 => 129 | 196 => 234 | 193 => 231 | 198 => 237 | 49 => 235 | 194 => 232 | 201 => 240 | 226 => 263 | 46 => 182 | 227 => 264 | 139 => 192 | 138 => 191 | n => n, fun | 0 => 0 | 6 => 3 | 3 => 1 | 4 => 2 | n => n⟩
theorem Tryz.lays163 : Go.Proofs.Lays.n163 Tryz.prog Tryz.lays163_ren := {
  mixed := by kernel_rfl
  f120 := Tryz.func179.trans (congrArg some (by kernel_rfl))
  f163 := Tryz.func76.trans (congrArg some (by kernel_rfl))
  f197 := Tryz.func75.trans (congrArg some (by kernel_rfl))
  f199 := Tryz.func101.trans (congrArg some (by kernel_rfl))
  f237 := Tryz.func100.trans (congrArg some (by kernel_rfl))
  f238 := Tryz.func102.trans (congrArg some (by kernel_rfl))
  f260 := Tryz.func99.trans (congrArg some (by kernel_rfl))
  f261 := Tryz.func121.trans (congrArg some (by kernel_rfl))
  f271 := Tryz.func158.trans (congrArg some (by kernel_rfl))
  f272 := Tryz.func120.trans (congrArg some (by kernel_rfl))
  f273 := Tryz.func122.trans (congrArg some (by kernel_rfl))
  f311 := Tryz.func156.trans (congrArg some (by kernel_rfl))
  f312 := Tryz.func157.trans (congrArg some (by kernel_rfl))
  f315 := Tryz.func155.trans (congrArg some (by kernel_rfl))
  t0 := Tryz.underlying0
  a0 := Tryz.isAgg0
  z0 := Tryz.sizeOf0
  v0 := Tryz.zeroValue0
  t3 := Tryz.underlying3
  a3 := Tryz.isAgg3
  z3 := Tryz.sizeOf3
  v3 := Tryz.zeroValue3
  t4 := Tryz.underlying4
  a4 := Tryz.isAgg4
  z4 := Tryz.sizeOf4
  v4 := Tryz.zeroValue4
  t5 := Tryz.underlying5
  a5 := Tryz.isAgg5
  z5 := Tryz.sizeOf5
  v5 := Tryz.zeroValue5
  t9 := Tryz.underlying9
  a9 := Tryz.isAgg9
  z9 := Tryz.sizeOf9
  v9 := Tryz.zeroValue9
  t21 := Tryz.underlying21
  a21 := Tryz.isAgg21
  z21 := Tryz.sizeOf21
  v21 := Tryz.zeroValue21
  t37 := Tryz.underlying49
  a37 := Tryz.isAgg49
  z37 := Tryz.sizeOf49
  v37 := Tryz.zeroValue49
  t40 := Tryz.underlying162
  a40 := Tryz.isAgg162
  z40 := Tryz.sizeOf162
  v40 := Tryz.zeroValue162
  t46 := Tryz.underlying182
  a46 := Tryz.isAgg182
  z46 := Tryz.sizeOf182
  v46 := Tryz.zeroValue182
  t49 := Tryz.underlying235
  a49 := Tryz.isAgg235
  z49 := Tryz.sizeOf235
  v49 := Tryz.zeroValue235
  t51 := Tryz.underlying189
  a51 := Tryz.isAgg189
  z51 := Tryz.sizeOf189
  v51 := Tryz.zeroValue189
  t105 := Tryz.underlying129
  a105 := Tryz.isAgg129
  z105 := Tryz.sizeOf129
  v105 := Tryz.zeroValue129
  t119 := Tryz.underlying163
  a119 := Tryz.isAgg163
  z119 := Tryz.sizeOf163
  t138 := Tryz.underlying191
  a138 := Tryz.isAgg191
  z138 := Tryz.sizeOf191
  v138 := Tryz.zeroValue191
  t139 := Tryz.underlying192
  a139 := Tryz.isAgg192
  z139 := Tryz.sizeOf192
  v139 := Tryz.zeroValue192
  t141 := Tryz.underlying194
  a141 := Tryz.isAgg194
  z141 := Tryz.sizeOf194
  v141 := Tryz.zeroValue194
  t193 := Tryz.underlying231
  a193 := Tryz.isAgg231
  z193 := Tryz.sizeOf231
  v193 := Tryz.zeroValue231
  t194 := Tryz.underlying232
  a194 := Tryz.isAgg232
  z194 := Tryz.sizeOf232
  v194 := Tryz.zeroValue232
  t196 := Tryz.underlying234
  a196 := Tryz.isAgg234
  z196 := Tryz.sizeOf234
  v196 := Tryz.zeroValue234
  t198 := Tryz.underlying237
  a198 := Tryz.isAgg237
  z198 := Tryz.sizeOf237
  v198 := Tryz.zeroValue237
  t201 := Tryz.underlying240
  a201 := Tryz.isAgg240
  z201 := Tryz.sizeOf240
  v201 := Tryz.zeroValue240
  t226 := Tryz.underlying263
  a226 := Tryz.isAgg263
  z226 := Tryz.sizeOf263
  v226 := Tryz.zeroValue263
  t227 := Tryz.underlying264
  a227 := Tryz.isAgg264
  z227 := Tryz.sizeOf264
  v227 := Tryz.zeroValue264
  g0 := by kernel_rfl
  g3 := by kernel_rfl
  g4 := by kernel_rfl
  g6 := by kernel_rfl }
theorem Tryz.Space_Extra_163 : Space.Extra Tryz.prog Tryz.lays163_ren := {
  gNamed := by kernel_rfl }
open Go.RowKit in
theorem Tryz.strings_TrimSpace (s : ByteArray) (w : World) (hs : s.size ≤ 9223372036854775807) (hascii : ∀ (j : Nat) b, s.data.toList[j]? = some b → b.toNat < 128) (htab : Lib.TabIs Tryz.prog w "strings.asciiSpace" .u8 Lib.asciiSpaceTab) :
    Calls Tryz.prog 76 #[.string s] w fun e w' => e = .returned (.string ⟨(Lib.trimSpace s.data.toList).toArray⟩) ∧ w' = Lib.bytesWorld w 5 s := Any.strings_TrimSpace Tryz.lays163 Tryz.Space_Extra_163 s w hs hascii htab
def Tryz.lays118_ren : Go.Shelf.Ren := ⟨fun | 118 => 105 | n => n, fun | 21 => 21 | 3 => 3 | 4 => 4 | n => n, fun | n => n⟩
theorem Tryz.lays118 : Go.Proofs.Lays.n118 Tryz.prog Tryz.lays118_ren := {
  mixed := by kernel_rfl
  f118 := Tryz.func105.trans (congrArg some (by kernel_rfl))
  t3 := Tryz.underlying3
  a3 := Tryz.isAgg3
  z3 := Tryz.sizeOf3
  v3 := Tryz.zeroValue3
  t4 := Tryz.underlying4
  a4 := Tryz.isAgg4
  z4 := Tryz.sizeOf4
  v4 := Tryz.zeroValue4
  t21 := Tryz.underlying21
  a21 := Tryz.isAgg21
  z21 := Tryz.sizeOf21
  v21 := Tryz.zeroValue21 }
/-- utf8.RuneLen: "RuneLen returns the number of bytes in the UTF-8 encoding of the rune. It returns -1 if the rune is not a valid value to encode in UTF-8.": IT RETURNS 'Lib.runeLen r'; the world is as it was. (LAID: no walk: one application.) -/
theorem Tryz.utf8_RuneLen (r : Int) (w : World) :
    Calls Tryz.prog 105 #[.int .i32 r] w fun e w' => e = .returned (.int .i64 (Lib.runeLen r)) ∧ w' = w := Any.utf8_RuneLen Tryz.lays118 r w
def Tryz.lays120_ren : Go.Shelf.Ren := ⟨fun | 120 => 179 | n => n, fun | 5 => 5 | 4 => 4 | n => n, fun | n => n⟩
theorem Tryz.lays120 : Go.Proofs.Lays.n120 Tryz.prog Tryz.lays120_ren := {
  mixed := by kernel_rfl
  f120 := Tryz.func179.trans (congrArg some (by kernel_rfl))
  t4 := Tryz.underlying4
  a4 := Tryz.isAgg4
  z4 := Tryz.sizeOf4
  v4 := Tryz.zeroValue4
  t5 := Tryz.underlying5
  a5 := Tryz.isAgg5
  z5 := Tryz.sizeOf5
  v5 := Tryz.zeroValue5 }
/-- utf8.RuneStart: "RuneStart reports whether the byte could be the first byte of an encoded, possibly invalid rune. Second and subsequent bytes always have the top two bits set to 10.": IT RETURNS 'Lib.runeStart b'; the world is as it was. ('h0', 'h1': b is a byte: a caller has it of every byte that it was handed.) (LAID: no walk: one application.) -/
theorem Tryz.utf8_RuneStart (b : Int) (w : World) (h0 : 0 ≤ b) (h1 : b < 256) :
    Calls Tryz.prog 179 #[.int .u8 b] w fun e w' => e = .returned (.bool (Lib.runeStart b)) ∧ w' = w := Any.utf8_RuneStart Tryz.lays120 b w h0 h1
def Tryz.lays137_ren : Go.Shelf.Ren := ⟨fun | 137 => 194 | 217 => 203 | 266 => 210 | n => n, fun | 9 => 9 | 5 => 5 | 3 => 3 | n => n, fun | n => n⟩
theorem Tryz.lays137 : Go.Proofs.Lays.n137 Tryz.prog Tryz.lays137_ren := {
  mixed := by kernel_rfl
  f137 := Tryz.func194.trans (congrArg some (by kernel_rfl))
  f217 := Tryz.func203.trans (congrArg some (by kernel_rfl))
  f266 := Tryz.func210.trans (congrArg some (by kernel_rfl))
  t3 := Tryz.underlying3
  a3 := Tryz.isAgg3
  z3 := Tryz.sizeOf3
  v3 := Tryz.zeroValue3
  t5 := Tryz.underlying5
  a5 := Tryz.isAgg5
  z5 := Tryz.sizeOf5
  v5 := Tryz.zeroValue5
  t9 := Tryz.underlying9
  a9 := Tryz.isAgg9
  z9 := Tryz.sizeOf9
  v9 := Tryz.zeroValue9 }
open Go.RowKit in
/-- strings.IndexByte: "IndexByte returns the index of the first instance of c in s, or -1 if c is not present in s.": IT RETURNS 'Lib.indexByte s c'; the world is as it was. (LAID: no walk: one application.) -/
theorem Tryz.strings_IndexByte (s : ByteArray) (c : Int) (w : World) :
    Calls Tryz.prog 194 #[.string s, .int .u8 c] w fun e w' => e = .returned (.int .i64 (Lib.indexByte s.data.toList c.toNat.toUInt8)) ∧ w' = w := Any.strings_IndexByte Tryz.lays137 s c w
open Go.RowKit in
/-- (*strings.Builder).Len: "Len returns the number of accumulated bytes; b.Len() == len(b.String()).": the world is as it was. (THE FORM '_f': 'Lib.IsBuilderF'.) (LAID: no walk: one application.) -/
theorem Tryz.Builder_Len_f (B b : Nat) (bs : List Value) (w : World) (h : Lib.IsBuilderF 124 5 B b bs w) :
    Calls Tryz.prog 79 #[.pointer (some ⟨b, 0, none⟩)] w fun e w' => e = .returned (.int .i64 bs.length) ∧ w' = w := Any.Builder_Len_f Tryz.lays170 B b bs w h
open Go.RowKit in
/-- (*strings.Builder).String: "String returns the accumulated string.": OF A BUILDER THAT HOLDS AT LEAST ONE BYTE. ✋ THE MODEL FREEZES THOSE BYTES IN THE BUFFER (unsafe.String): a later write INTO them ends the model's run without an answer; a later append BEHIND them goes on. The statement's order of evaluation is drawn: one draw. THE FORM '_f': IT SAYS BESIDES THAT THE BUILDER IS A BUILDER STILL ('Lib.IsBuilderF', the same bytes): SO IT CAN BE WRITTEN ON: 'b.WriteString(b.String()[:k])'. (LAID: no walk: one application.) -/
theorem Tryz.Builder_String_f (B b : Nat) (l : List UInt8) (w : World) (h : Lib.IsBuilderF 124 5 B b (Lib.byteCells l) w) (h0 : l ≠ []) :
    Calls Tryz.prog 77 #[.pointer (some ⟨b, 0, none⟩)] w fun e w' => e = .returned (.string ⟨l.toArray⟩) ∧ (Lib.IsBuilderF 124 5 B b (Lib.byteCells l) w' ∧ Below B w w') := Any.Builder_String_f Tryz.lays169 Tryz.Builder_Extra_169 B b l w h h0
open Go.RowKit in
/-- (*strings.Builder).String OF A BUILDER THAT HOLDS NO BYTE: the empty string; THE FORM '_f': a builder still. (LAID: no walk: one application.) -/
theorem Tryz.Builder_String_empty_f (B b : Nat) (w : World) (h : Lib.IsBuilderF 124 5 B b [] w) (hBw : B ≤ w.heap.size) :
    Calls Tryz.prog 77 #[.pointer (some ⟨b, 0, none⟩)] w fun e w' => e = .returned (.string ⟨#[]⟩) ∧ (Lib.IsBuilderF 124 5 B b [] w' ∧ Below B w w') := Any.Builder_String_empty_f Tryz.lays169 Tryz.Builder_Extra_169 B b w h hBw
open Go.RowKit in
/-- (*strings.Builder).String: "String returns the accumulated string.": WHATEVER THE BUILDER HOLDS; THE FORM '_f': OF A BUILDER THAT MAY HAVE BEEN READ BEFORE; AND IT IS A BUILDER STILL, holding the same bytes: it can be written on. (LAID: no walk: one application.) -/
theorem Tryz.Builder_String_any_f (B b : Nat) (l : List UInt8) (w : World) (h : Lib.IsBuilderF 124 5 B b (Lib.byteCells l) w) (hBw : B ≤ w.heap.size) :
    Calls Tryz.prog 77 #[.pointer (some ⟨b, 0, none⟩)] w fun e w' => e = .returned (.string ⟨l.toArray⟩) ∧ (Lib.IsBuilderF 124 5 B b (Lib.byteCells l) w' ∧ Below B w w') := Any.Builder_String_any_f Tryz.lays169 Tryz.Builder_Extra_169 B b l w h hBw
open Go.RowKit in
/-- (*strings.Builder).String: "String returns the accumulated string.": OF A BUILDER THAT HOLDS AT LEAST ONE BYTE. ✋ THE MODEL FREEZES THOSE BYTES IN THE BUFFER (unsafe.String): a later write INTO them ends the model's run without an answer; a later append BEHIND them goes on. The statement's order of evaluation is drawn: one draw. THE FORM '_k': OVER 'Lib.IsBuilderF' (a builder that 'String()' may have read), AND WITH THE FRAME THAT REACHES ABOVE THE BUILDER: 'Lib.OthersKept': every block that is not b and is no row of uint8's stands as it stood: the iterator of a range among them. (LAID: no walk: one application.) -/
theorem Tryz.Builder_String_k (B b : Nat) (l : List UInt8) (w : World) (h : Lib.IsBuilderF 124 5 B b (Lib.byteCells l) w) (h0 : l ≠ []) :
    Calls Tryz.prog 77 #[.pointer (some ⟨b, 0, none⟩)] w fun e w' => e = .returned (.string ⟨l.toArray⟩) ∧ (Lib.IsBuilderF 124 5 B b (Lib.byteCells l) w' ∧ Below B w w' ∧ Lib.OthersKept 5 (some b) w w') := Any.Builder_String_k Tryz.lays169 Tryz.Builder_Extra_169 B b l w h h0
open Go.RowKit in
/-- (*strings.Builder).String OF A BUILDER THAT HOLDS NO BYTE: the empty string; THE FORM '_k': OVER 'Lib.IsBuilderF' (a builder that 'String()' may have read), AND WITH THE FRAME THAT REACHES ABOVE THE BUILDER: 'Lib.OthersKept': every block that is not b and is no row of uint8's stands as it stood: the iterator of a range among them. (LAID: no walk: one application.) -/
theorem Tryz.Builder_String_empty_k (B b : Nat) (w : World) (h : Lib.IsBuilderF 124 5 B b [] w) (hBw : B ≤ w.heap.size) :
    Calls Tryz.prog 77 #[.pointer (some ⟨b, 0, none⟩)] w fun e w' => e = .returned (.string ⟨#[]⟩) ∧ (Lib.IsBuilderF 124 5 B b [] w' ∧ Below B w w' ∧ Lib.OthersKept 5 (some b) w w') := Any.Builder_String_empty_k Tryz.lays169 Tryz.Builder_Extra_169 B b w h hBw
open Go.RowKit in
/-- (*strings.Builder).String: "String returns the accumulated string.": WHATEVER THE BUILDER HOLDS; THE FORM '_k': OVER 'Lib.IsBuilderF' (a builder that 'String()' may have read), AND WITH THE FRAME THAT REACHES ABOVE THE BUILDER: 'Lib.OthersKept': every block that is not b and is no row of uint8's stands as it stood: the iterator of a range among them. (LAID: no walk: one application.) -/
theorem Tryz.Builder_String_any_k (B b : Nat) (l : List UInt8) (w : World) (h : Lib.IsBuilderF 124 5 B b (Lib.byteCells l) w) (hBw : B ≤ w.heap.size) :
    Calls Tryz.prog 77 #[.pointer (some ⟨b, 0, none⟩)] w fun e w' => e = .returned (.string ⟨l.toArray⟩) ∧ (Lib.IsBuilderF 124 5 B b (Lib.byteCells l) w' ∧ Below B w w' ∧ Lib.OthersKept 5 (some b) w w') := Any.Builder_String_any_k Tryz.lays169 Tryz.Builder_Extra_169 B b l w h hBw
def Tryz.lays278_ren : Go.Shelf.Ren := ⟨fun | 278 => 119 | n => n, fun | 37 => 49 | 21 => 21 | 51 => 189 | 4 => 4 | 46 => 182 | 5 => 5 | n => n, fun | n => n⟩
theorem Tryz.lays278 : Go.Proofs.Lays.n278 Tryz.prog Tryz.lays278_ren := {
  mixed := by kernel_rfl
  f278 := Tryz.func119.trans (congrArg some (by kernel_rfl))
  t4 := Tryz.underlying4
  a4 := Tryz.isAgg4
  z4 := Tryz.sizeOf4
  v4 := Tryz.zeroValue4
  t5 := Tryz.underlying5
  a5 := Tryz.isAgg5
  z5 := Tryz.sizeOf5
  v5 := Tryz.zeroValue5
  t21 := Tryz.underlying21
  a21 := Tryz.isAgg21
  z21 := Tryz.sizeOf21
  v21 := Tryz.zeroValue21
  t37 := Tryz.underlying49
  a37 := Tryz.isAgg49
  z37 := Tryz.sizeOf49
  v37 := Tryz.zeroValue49
  t46 := Tryz.underlying182
  a46 := Tryz.isAgg182
  z46 := Tryz.sizeOf182
  v46 := Tryz.zeroValue182
  t51 := Tryz.underlying189
  a51 := Tryz.isAgg189
  z51 := Tryz.sizeOf189
  v51 := Tryz.zeroValue189 }
open Go.RowKit in
/-- unicode/utf8.appendRuneNonASCII (what AppendRune calls for all but ASCII), ONTO A ROW OF BYTES THAT THE CALL OWNS: every int32 that is no ASCII rune: 'Lib.runeCells r' goes in behind what the row holds. (LAID: no walk: one application.) -/
theorem Tryz.utf8_appendRuneNonASCII_row (B : Nat) (v : Value) (n : Nat) (xs : List Value) (r : Int) (hr0 : -2147483648 ≤ r) (hr1 : r ≤ 2147483647) (hna : r < 0 ∨ 128 ≤ r) (w : World) (hown : w.ownsRowF B 5 1 v n xs) (hlen : n + 4 ≤ 140737488355328) (hBw : B ≤ w.heap.size) :
    Calls Tryz.prog 119 #[v, .int .i32 r] w fun e w' => ∃ v', e = .returned v' ∧ w'.ownsRowF B 5 1 v' (n + (Lib.runeCells r).length) (xs ++ Lib.runeCells r) ∧ ∃ o, (w.alloc o).grownBy w' v.ownBlock := Any.utf8_appendRuneNonASCII_row Tryz.lays278 (by kernel_rfl) B v n xs r hr0 hr1 hna w hown hlen hBw
def Tryz.lays242_ren : Go.Shelf.Ren := ⟨fun | 242 => 98 | 278 => 119 | n => n, fun | 37 => 49 | 21 => 21 | 51 => 189 | 4 => 4 | 5 => 5 | 46 => 182 | n => n, fun | n => n⟩
theorem Tryz.lays242 : Go.Proofs.Lays.n242 Tryz.prog Tryz.lays242_ren := {
  mixed := by kernel_rfl
  f242 := Tryz.func98.trans (congrArg some (by kernel_rfl))
  f278 := Tryz.func119.trans (congrArg some (by kernel_rfl))
  t4 := Tryz.underlying4
  a4 := Tryz.isAgg4
  z4 := Tryz.sizeOf4
  v4 := Tryz.zeroValue4
  t5 := Tryz.underlying5
  a5 := Tryz.isAgg5
  z5 := Tryz.sizeOf5
  v5 := Tryz.zeroValue5
  t21 := Tryz.underlying21
  a21 := Tryz.isAgg21
  z21 := Tryz.sizeOf21
  v21 := Tryz.zeroValue21
  t37 := Tryz.underlying49
  a37 := Tryz.isAgg49
  z37 := Tryz.sizeOf49
  v37 := Tryz.zeroValue49
  t46 := Tryz.underlying182
  a46 := Tryz.isAgg182
  z46 := Tryz.sizeOf182
  v46 := Tryz.zeroValue182
  t51 := Tryz.underlying189
  a51 := Tryz.isAgg189
  z51 := Tryz.sizeOf189
  v51 := Tryz.zeroValue189 }
open Go.RowKit in
/-- unicode/utf8.AppendRune: "AppendRune appends the UTF-8 encoding of r to the end of p and returns the extended buffer. If the rune is out of range, it appends the encoding of RuneError.": ONTO A ROW OF BYTES THAT THE CALL OWNS (its head frozen or not): EVERY int32: 'Lib.runeCells r' goes in behind what the row holds; the world: one new block (the bytes as the call's variadic argument), then what 'append' does to the row. (LAID: no walk: one application.) -/
theorem Tryz.utf8_AppendRune_row (B : Nat) (v : Value) (n : Nat) (xs : List Value) (r : Int) (hr0 : -2147483648 ≤ r) (hr1 : r ≤ 2147483647) (w : World) (hown : w.ownsRowF B 5 1 v n xs) (hlen : n + 4 ≤ 140737488355328) (hBw : B ≤ w.heap.size) :
    Calls Tryz.prog 98 #[v, .int .i32 r] w fun e w' => ∃ v', e = .returned v' ∧ w'.ownsRowF B 5 1 v' (n + (Lib.runeCells r).length) (xs ++ Lib.runeCells r) ∧ ∃ o, (w.alloc o).grownBy w' v.ownBlock := Any.utf8_AppendRune_row Tryz.lays242 (by kernel_rfl) B v n xs r hr0 hr1 w hown hlen hBw
def Tryz.laysM316_ren : Go.Shelf.Ren := ⟨fun | 316 => 154 | n => n, fun | 9 => 9 | 3 => 3 | 4 => 4 | 37 => 49 | 0 => 0 | 127 => 164 | 5 => 5 | n => n, fun | n => n⟩
theorem Tryz.laysM316 : Go.Proofs.LaysM.n316 Tryz.prog Tryz.laysM316_ren := {
  mixed := by kernel_rfl
  f316 := Tryz.func154.trans (congrArg some (by kernel_rfl))
  t0 := Tryz.underlying0
  a0 := Tryz.isAgg0
  z0 := Tryz.sizeOf0
  v0 := Tryz.zeroValue0
  t3 := Tryz.underlying3
  a3 := Tryz.isAgg3
  z3 := Tryz.sizeOf3
  v3 := Tryz.zeroValue3
  t4 := Tryz.underlying4
  a4 := Tryz.isAgg4
  z4 := Tryz.sizeOf4
  v4 := Tryz.zeroValue4
  t9 := Tryz.underlying9
  a9 := Tryz.isAgg9
  z9 := Tryz.sizeOf9
  v9 := Tryz.zeroValue9
  t37 := Tryz.underlying49
  a37 := Tryz.isAgg49
  z37 := Tryz.sizeOf49
  v37 := Tryz.zeroValue49
  t127 := Tryz.underlying164
  a127 := Tryz.isAgg164
  z127 := Tryz.sizeOf164
  v127 := Tryz.zeroValue164
  t5 := Tryz.underlying5
  a5 := Tryz.isAgg5
  z5 := Tryz.sizeOf5
  v5 := Tryz.zeroValue5
  i0 := by kernel_rfl
  i3 := by kernel_rfl
  i4 := by kernel_rfl
  i5 := by kernel_rfl
  i9 := by kernel_rfl
  i37 := by kernel_rfl
  i127 := by kernel_rfl }
open Go.RowKit in
/-- internal/stringslite.Clone (what strings.Clone calls): "Clone returns a fresh copy of s.": THE SAME BYTES. Of what was there nothing has turned (a new row is laid, and frozen, where s is not empty). (LAID: no walk: one application.) -/
theorem Tryz.stringslite_Clone (s : ByteArray) (w : World) (hlim : s.size ≤ 281474976710656) :
    Calls Tryz.prog 154 #[.string s] w fun e w' => e = .returned (.string s) ∧ Below w.heap.size w w' := Any.stringslite_Clone Tryz.laysM316 s w hlim
def Tryz.laysM279_ren : Go.Shelf.Ren := ⟨fun | 279 => 112 | 316 => 154 | n => n, fun | 9 => 9 | 168 => 183 | 75 => 65 | 210 => 230 | 3 => 3 | 4 => 4 | 37 => 49 | 0 => 0 | 127 => 164 | 80 => 82 | 5 => 5 | n => n, fun | 15 => 6 | n => n⟩
theorem Tryz.laysM279 : Go.Proofs.LaysM.n279 Tryz.prog Tryz.laysM279_ren := {
  mixed := by kernel_rfl
  f279 := Tryz.func112.trans (congrArg some (by kernel_rfl))
  f316 := Tryz.func154.trans (congrArg some (by kernel_rfl))
  t0 := Tryz.underlying0
  a0 := Tryz.isAgg0
  z0 := Tryz.sizeOf0
  v0 := Tryz.zeroValue0
  t3 := Tryz.underlying3
  a3 := Tryz.isAgg3
  z3 := Tryz.sizeOf3
  v3 := Tryz.zeroValue3
  t4 := Tryz.underlying4
  a4 := Tryz.isAgg4
  z4 := Tryz.sizeOf4
  v4 := Tryz.zeroValue4
  t9 := Tryz.underlying9
  a9 := Tryz.isAgg9
  z9 := Tryz.sizeOf9
  v9 := Tryz.zeroValue9
  t37 := Tryz.underlying49
  a37 := Tryz.isAgg49
  z37 := Tryz.sizeOf49
  v37 := Tryz.zeroValue49
  t75 := Tryz.underlying65
  a75 := Tryz.isAgg65
  z75 := Tryz.sizeOf65
  v75 := Tryz.zeroValue65
  t127 := Tryz.underlying164
  a127 := Tryz.isAgg164
  z127 := Tryz.sizeOf164
  v127 := Tryz.zeroValue164
  t168 := Tryz.underlying183
  a168 := Tryz.isAgg183
  z168 := Tryz.sizeOf183
  v168 := Tryz.zeroValue183
  t210 := Tryz.underlying230
  a210 := Tryz.isAgg230
  z210 := Tryz.sizeOf230
  v210 := Tryz.zeroValue230
  g15 := by kernel_rfl
  t5 := Tryz.underlying5
  a5 := Tryz.isAgg5
  z5 := Tryz.sizeOf5
  v5 := Tryz.zeroValue5
  t80 := Tryz.underlying82
  a80 := Tryz.isAgg82
  z80 := Tryz.sizeOf82
  v80 := Tryz.zeroValue82
  i0 := by kernel_rfl
  i3 := by kernel_rfl
  i4 := by kernel_rfl
  i5 := by kernel_rfl
  i9 := by kernel_rfl
  i37 := by kernel_rfl
  i75 := by kernel_rfl
  i80 := by kernel_rfl
  i127 := by kernel_rfl
  i168 := by kernel_rfl
  i210 := by kernel_rfl
  m15 := by kernel_rfl }
open Go.RowKit in
/-- strconv.syntaxError: '&NumError{fn, stringslite.Clone(str), ErrSyntax}': A POINTER TO A NEW BLOCK that holds fn, str's bytes, and what the variable ErrSyntax holds. Of what was there nothing has turned. (LAID: no walk: one application.) -/
theorem Tryz.strconv_syntaxError (fn s : ByteArray) (ev : Value) (w : World) (hlim : s.size ≤ 281474976710656) (hv : w.cell? ⟨6, 0, none⟩ = some ev) (hev : ev = .nilIface ∨ ∃ te pe, ev = .iface te pe) :
    Calls Tryz.prog 112 #[.string fn, .string s] w fun e w' => ∃ N, e = .returned (.pointer (some ⟨N, 0, none⟩)) ∧ w.heap.size ≤ N ∧ w'.heap[N]? = some (.cells #[.string fn, .string s, ev] 230 (0, 0)) ∧ Below w.heap.size w w' := Any.strconv_syntaxError Tryz.laysM279 fn s ev w hlim hv hev
def Tryz.laysC245_ren : Go.Shelf.Ren := ⟨fun | 245 => 93 | 279 => 112 | 280 => 113 | 281 => 114 | 282 => 115 | 316 => 154 | 171 => 150 | 205 => 55 | 243 => 178 | 246 => 195 | 283 => 204 | 284 => 205 | 285 => 206 | 286 => 207 | 129 => 212 | 317 => 211 | 318 => 213 | 319 => 214 | 320 => 215 | 337 => 217 | 338 => 218 | n => n, fun | 9 => 9 | 3 => 3 | 75 => 65 | 167 => 178 | 4 => 4 | 168 => 183 | 210 => 230 | 37 => 49 | 0 => 0 | 127 => 164 | 145 => 137 | 143 => 135 | 2 => 2 | 171 => 288 | 53 => 179 | 5 => 5 | 173 => 291 | 212 => 294 | 51 => 189 | 20 => 20 | 213 => 295 | 46 => 182 | 232 => 299 | 233 => 300 | 80 => 82 | n => n, fun | 15 => 6 | 16 => 7 | 17 => 18 | 18 => 19 | 19 => 20 | n => n⟩
theorem Tryz.laysC245 : Go.Proofs.LaysC.n245 Tryz.prog Tryz.laysC245_ren := {
  mixed := by kernel_rfl
  f129 := Tryz.func212.trans (congrArg some (by kernel_rfl))
  f171 := Tryz.func150.trans (congrArg some (by kernel_rfl))
  f205 := Tryz.func55.trans (congrArg some (by kernel_rfl))
  f243 := Tryz.func178.trans (congrArg some (by kernel_rfl))
  f245 := Tryz.func93.trans (congrArg some (by kernel_rfl))
  f246 := Tryz.func195.trans (congrArg some (by kernel_rfl))
  f279 := Tryz.func112.trans (congrArg some (by kernel_rfl))
  f280 := Tryz.func113.trans (congrArg some (by kernel_rfl))
  f281 := Tryz.func114.trans (congrArg some (by kernel_rfl))
  f282 := Tryz.func115.trans (congrArg some (by kernel_rfl))
  f283 := Tryz.func204.trans (congrArg some (by kernel_rfl))
  f284 := Tryz.func205.trans (congrArg some (by kernel_rfl))
  f285 := Tryz.func206.trans (congrArg some (by kernel_rfl))
  f286 := Tryz.func207.trans (congrArg some (by kernel_rfl))
  f316 := Tryz.func154.trans (congrArg some (by kernel_rfl))
  f317 := Tryz.func211.trans (congrArg some (by kernel_rfl))
  f318 := Tryz.func213.trans (congrArg some (by kernel_rfl))
  f319 := Tryz.func214.trans (congrArg some (by kernel_rfl))
  f320 := Tryz.func215.trans (congrArg some (by kernel_rfl))
  f337 := Tryz.func217.trans (congrArg some (by kernel_rfl))
  f338 := Tryz.func218.trans (congrArg some (by kernel_rfl))
  t0 := Tryz.underlying0
  a0 := Tryz.isAgg0
  z0 := Tryz.sizeOf0
  v0 := Tryz.zeroValue0
  t2 := Tryz.underlying2
  a2 := Tryz.isAgg2
  z2 := Tryz.sizeOf2
  v2 := Tryz.zeroValue2
  t3 := Tryz.underlying3
  a3 := Tryz.isAgg3
  z3 := Tryz.sizeOf3
  v3 := Tryz.zeroValue3
  t4 := Tryz.underlying4
  a4 := Tryz.isAgg4
  z4 := Tryz.sizeOf4
  v4 := Tryz.zeroValue4
  t5 := Tryz.underlying5
  a5 := Tryz.isAgg5
  z5 := Tryz.sizeOf5
  v5 := Tryz.zeroValue5
  t9 := Tryz.underlying9
  a9 := Tryz.isAgg9
  z9 := Tryz.sizeOf9
  v9 := Tryz.zeroValue9
  t20 := Tryz.underlying20
  a20 := Tryz.isAgg20
  z20 := Tryz.sizeOf20
  v20 := Tryz.zeroValue20
  t37 := Tryz.underlying49
  a37 := Tryz.isAgg49
  z37 := Tryz.sizeOf49
  v37 := Tryz.zeroValue49
  t46 := Tryz.underlying182
  a46 := Tryz.isAgg182
  z46 := Tryz.sizeOf182
  v46 := Tryz.zeroValue182
  t51 := Tryz.underlying189
  a51 := Tryz.isAgg189
  z51 := Tryz.sizeOf189
  v51 := Tryz.zeroValue189
  t53 := Tryz.underlying179
  a53 := Tryz.isAgg179
  z53 := Tryz.sizeOf179
  v53 := Tryz.zeroValue179
  t75 := Tryz.underlying65
  a75 := Tryz.isAgg65
  z75 := Tryz.sizeOf65
  v75 := Tryz.zeroValue65
  t127 := Tryz.underlying164
  a127 := Tryz.isAgg164
  z127 := Tryz.sizeOf164
  v127 := Tryz.zeroValue164
  t143 := Tryz.underlying135
  a143 := Tryz.isAgg135
  z143 := Tryz.sizeOf135
  v143 := Tryz.zeroValue135
  t145 := Tryz.underlying137
  a145 := Tryz.isAgg137
  z145 := Tryz.sizeOf137
  v145 := Tryz.zeroValue137
  t167 := Tryz.underlying178
  a167 := Tryz.isAgg178
  z167 := Tryz.sizeOf178
  v167 := Tryz.zeroValue178
  t168 := Tryz.underlying183
  a168 := Tryz.isAgg183
  z168 := Tryz.sizeOf183
  v168 := Tryz.zeroValue183
  t171 := Tryz.underlying288
  a171 := Tryz.isAgg288
  z171 := Tryz.sizeOf288
  v171 := Tryz.zeroValue288
  t173 := Tryz.underlying291
  a173 := Tryz.isAgg291
  z173 := Tryz.sizeOf291
  v173 := Tryz.zeroValue291
  t210 := Tryz.underlying230
  a210 := Tryz.isAgg230
  z210 := Tryz.sizeOf230
  v210 := Tryz.zeroValue230
  t212 := Tryz.underlying294
  a212 := Tryz.isAgg294
  z212 := Tryz.sizeOf294
  v212 := Tryz.zeroValue294
  t213 := Tryz.underlying295
  a213 := Tryz.isAgg295
  z213 := Tryz.sizeOf295
  t232 := Tryz.underlying299
  a232 := Tryz.isAgg299
  z232 := Tryz.sizeOf299
  v232 := Tryz.zeroValue299
  t233 := Tryz.underlying300
  a233 := Tryz.isAgg300
  z233 := Tryz.sizeOf300
  v233 := Tryz.zeroValue300
  g15 := by kernel_rfl
  g16 := by kernel_rfl
  g17 := by kernel_rfl
  g18 := by kernel_rfl
  g19 := by kernel_rfl
  t80 := Tryz.underlying82
  a80 := Tryz.isAgg82
  z80 := Tryz.sizeOf82
  v80 := Tryz.zeroValue82
  i0 := by kernel_rfl
  i2 := by kernel_rfl
  i3 := by kernel_rfl
  i4 := by kernel_rfl
  i5 := by kernel_rfl
  i9 := by kernel_rfl
  i20 := by kernel_rfl
  i37 := by kernel_rfl
  i46 := by kernel_rfl
  i51 := by kernel_rfl
  i53 := by kernel_rfl
  i75 := by kernel_rfl
  i80 := by kernel_rfl
  i127 := by kernel_rfl
  i143 := by kernel_rfl
  i145 := by kernel_rfl
  i167 := by kernel_rfl
  i168 := by kernel_rfl
  i171 := by kernel_rfl
  i173 := by kernel_rfl
  i210 := by kernel_rfl
  i212 := by kernel_rfl
  i232 := by kernel_rfl
  i233 := by kernel_rfl
  m15 := by kernel_rfl
  m16 := by kernel_rfl
  m17 := by kernel_rfl
  m18 := by kernel_rfl
  m19 := by kernel_rfl
  c0 := by kernel_rfl
  c2 := by kernel_rfl
  c3 := by kernel_rfl
  c4 := by kernel_rfl
  c5 := by kernel_rfl
  c9 := by kernel_rfl
  c20 := by kernel_rfl
  c37 := by kernel_rfl
  c46 := by kernel_rfl
  c51 := by kernel_rfl
  c53 := by kernel_rfl
  c75 := by kernel_rfl
  c80 := by kernel_rfl
  c127 := by kernel_rfl
  c143 := by kernel_rfl
  c145 := by kernel_rfl
  c167 := by kernel_rfl
  c168 := by kernel_rfl
  c171 := by kernel_rfl
  c173 := by kernel_rfl
  c210 := by kernel_rfl
  c212 := by kernel_rfl
  c213 := by kernel_rfl
  c232 := by kernel_rfl
  c233 := by kernel_rfl }
open Go.RowKit in
/-- strconv.toError, at the inner package's ErrSyntax: 'syntaxError(fn, s)' as an error: A *NumError IN A NEW BLOCK. (LAID: no walk: one application.) -/
theorem Tryz.strconv_toError_syntax (fn s : ByteArray) (base bits : Int) (ev : Value) (w : World) (hlim : s.size ≤ 281474976710656) (hv : w.cell? ⟨6, 0, none⟩ = some ev) (hev : ev = .nilIface ∨ ∃ te pe, ev = .iface te pe) :
    Calls Tryz.prog 93 #[.string fn, .string s, .int .i64 base, .int .i64 bits, .iface 178 (.int .i64 2)] w fun e w' => ∃ N, e = .returned (.iface 183 (.pointer (some ⟨N, 0, none⟩))) ∧ w.heap.size ≤ N ∧ w'.heap[N]? = some (.cells #[.string fn, .string s, ev] 230 (0, 0)) ∧ Below w.heap.size w w' := Any.strconv_toError_syntax Tryz.laysC245 fn s base bits ev w hlim hv hev
def Tryz.lays321_ren : Go.Shelf.Ren := ⟨fun | 321 => 152 | n => n, fun | 5 => 5 | n => n, fun | n => n⟩
theorem Tryz.lays321 : Go.Proofs.Lays.n321 Tryz.prog Tryz.lays321_ren := {
  mixed := by kernel_rfl
  f321 := Tryz.func152.trans (congrArg some (by kernel_rfl))
  t5 := Tryz.underlying5
  a5 := Tryz.isAgg5
  z5 := Tryz.sizeOf5
  v5 := Tryz.zeroValue5 }
open Go.RowKit in
/-- internal/strconv.lower: 'c | ('x' - 'X')': the bit 32 set. The world is as it was. (LAID: no walk: one application.) -/
theorem Tryz.internal_strconv_lower (c : Int) (w : World) :
    Calls Tryz.prog 152 #[.int .u8 c] w fun e w' => e = .returned (.int .u8 (bits .or .u8 c 32)) ∧ w' = w := Any.internal_strconv_lower Tryz.lays321 c w
def Tryz.lays287_ren : Go.Shelf.Ren := ⟨fun | 287 => 111 | 321 => 152 | 322 => 153 | n => n, fun | 9 => 9 | 3 => 3 | 53 => 179 | 75 => 65 | 4 => 4 | 167 => 178 | 5 => 5 | 46 => 182 | 37 => 49 | 0 => 0 | 21 => 21 | 80 => 82 | n => n, fun | n => n⟩
theorem Tryz.lays287 : Go.Proofs.Lays.n287 Tryz.prog Tryz.lays287_ren := {
  mixed := by kernel_rfl
  f287 := Tryz.func111.trans (congrArg some (by kernel_rfl))
  f321 := Tryz.func152.trans (congrArg some (by kernel_rfl))
  f322 := Tryz.func153.trans (congrArg some (by kernel_rfl))
  t0 := Tryz.underlying0
  a0 := Tryz.isAgg0
  z0 := Tryz.sizeOf0
  v0 := Tryz.zeroValue0
  t3 := Tryz.underlying3
  a3 := Tryz.isAgg3
  z3 := Tryz.sizeOf3
  v3 := Tryz.zeroValue3
  t4 := Tryz.underlying4
  a4 := Tryz.isAgg4
  z4 := Tryz.sizeOf4
  v4 := Tryz.zeroValue4
  t5 := Tryz.underlying5
  a5 := Tryz.isAgg5
  z5 := Tryz.sizeOf5
  v5 := Tryz.zeroValue5
  t9 := Tryz.underlying9
  a9 := Tryz.isAgg9
  z9 := Tryz.sizeOf9
  v9 := Tryz.zeroValue9
  t21 := Tryz.underlying21
  a21 := Tryz.isAgg21
  z21 := Tryz.sizeOf21
  v21 := Tryz.zeroValue21
  t37 := Tryz.underlying49
  a37 := Tryz.isAgg49
  z37 := Tryz.sizeOf49
  v37 := Tryz.zeroValue49
  t46 := Tryz.underlying182
  a46 := Tryz.isAgg182
  z46 := Tryz.sizeOf182
  v46 := Tryz.zeroValue182
  t53 := Tryz.underlying179
  a53 := Tryz.isAgg179
  z53 := Tryz.sizeOf179
  v53 := Tryz.zeroValue179
  t75 := Tryz.underlying65
  a75 := Tryz.isAgg65
  z75 := Tryz.sizeOf65
  v75 := Tryz.zeroValue65
  t167 := Tryz.underlying178
  a167 := Tryz.isAgg178
  z167 := Tryz.sizeOf178
  v167 := Tryz.zeroValue178 }
open Go.RowKit in
/-- internal/strconv.ParseUint(s, 10, 0), s NOT EMPTY: 'Lib.parseUint10 0' OF ITS BYTES: the number; or (0, ErrSyntax); or (the greatest uint64, ErrRange). The world behind the call: the one new row that '[]byte(s)' lays. (LAID: no walk: one application.) -/
theorem Tryz.internal_strconv_ParseUint_10 (t : ByteArray) (hne : t.size ≠ 0) (hmax : t.size ≤ 9223372036854775806) (w : World) :
    Calls Tryz.prog 111 #[.string t, .int .i64 10, .int .i64 0] w fun e w' => e = .returned (Lib.uintTuple 178 (Lib.parseUint10 0 t.data.toList)) ∧ w' = Lib.bytesWorld w 5 t := Any.internal_strconv_ParseUint_10 Tryz.lays287 t hne hmax w
open Go.RowKit in
/-- internal/strconv.ParseUint(s, 10, 0): 'Lib.parseMag' OF ITS BYTES. The world: as it was (the empty string), or with the one new row that '[]byte(s)' lays. (LAID: no walk: one application.) -/
theorem Tryz.internal_strconv_ParseUint_10_any (t : ByteArray) (hmax : t.size ≤ 9223372036854775806) (w : World) :
    Calls Tryz.prog 111 #[.string t, .int .i64 10, .int .i64 0] w fun e w' => e = .returned (Lib.uintTuple 178 (Lib.parseMag t.data.toList)) ∧ (w' = w ∨ w' = Lib.bytesWorld w 5 t) := Any.internal_strconv_ParseUint_10_any Tryz.lays287 t hmax w
def Tryz.lays217_ren : Go.Shelf.Ren := ⟨fun | 217 => 203 | 266 => 210 | n => n, fun | 9 => 9 | 5 => 5 | 3 => 3 | n => n, fun | n => n⟩
theorem Tryz.lays217 : Go.Proofs.Lays.n217 Tryz.prog Tryz.lays217_ren := {
  mixed := by kernel_rfl
  f217 := Tryz.func203.trans (congrArg some (by kernel_rfl))
  f266 := Tryz.func210.trans (congrArg some (by kernel_rfl))
  t3 := Tryz.underlying3
  a3 := Tryz.isAgg3
  z3 := Tryz.sizeOf3
  v3 := Tryz.zeroValue3
  t5 := Tryz.underlying5
  a5 := Tryz.isAgg5
  z5 := Tryz.sizeOf5
  v5 := Tryz.zeroValue5
  t9 := Tryz.underlying9
  a9 := Tryz.isAgg9
  z9 := Tryz.sizeOf9
  v9 := Tryz.zeroValue9 }
open Go.RowKit Go.Lib in
/-- internal/stringslite.IndexByte (what strings.IndexByte calls): IT RETURNS 'Lib.indexByte s c'; the world is as it was. (LAID: no walk: one application.) -/
theorem Tryz.stringslite_IndexByte (s : ByteArray) (c : Int) (w : World) :
    Calls Tryz.prog 203 #[.string s, .int .u8 c] w fun e w' => e = .returned (.int .i64 (Lib.indexByte s.data.toList c.toNat.toUInt8)) ∧ w' = w := Any.stringslite_IndexByte Tryz.lays217 s c w
def Tryz.lays206_ren : Go.Shelf.Ren := ⟨fun | 206 => 97 | n => n, fun | 9 => 9 | 4 => 4 | 3 => 3 | n => n, fun | n => n⟩
theorem Tryz.lays206 : Go.Proofs.Lays.n206 Tryz.prog Tryz.lays206_ren := {
  mixed := by kernel_rfl
  f206 := Tryz.func97.trans (congrArg some (by kernel_rfl))
  t3 := Tryz.underlying3
  a3 := Tryz.isAgg3
  z3 := Tryz.sizeOf3
  v3 := Tryz.zeroValue3
  t4 := Tryz.underlying4
  a4 := Tryz.isAgg4
  z4 := Tryz.sizeOf4
  v4 := Tryz.zeroValue4
  t9 := Tryz.underlying9
  a9 := Tryz.isAgg9
  z9 := Tryz.sizeOf9
  v9 := Tryz.zeroValue9 }
open Go.RowKit Go.Lib in
/-- internal/stringslite.HasPrefix (what strings.HasPrefix calls). (LAID: no walk: one application.) -/
theorem Tryz.stringslite_HasPrefix (s p : ByteArray) (w : World) :
    Calls Tryz.prog 97 #[.string s, .string p] w fun e w' => e = .returned (.bool (Lib.hasPrefix s.data.toList p.data.toList)) ∧ w' = w := Any.stringslite_HasPrefix Tryz.lays206 s p w
def Tryz.lays99_ren : Go.Shelf.Ren := ⟨fun | 99 => 73 | 206 => 97 | n => n, fun | 9 => 9 | 4 => 4 | 3 => 3 | n => n, fun | n => n⟩
theorem Tryz.lays99 : Go.Proofs.Lays.n99 Tryz.prog Tryz.lays99_ren := {
  mixed := by kernel_rfl
  f99 := Tryz.func73.trans (congrArg some (by kernel_rfl))
  f206 := Tryz.func97.trans (congrArg some (by kernel_rfl))
  t3 := Tryz.underlying3
  a3 := Tryz.isAgg3
  z3 := Tryz.sizeOf3
  v3 := Tryz.zeroValue3
  t4 := Tryz.underlying4
  a4 := Tryz.isAgg4
  z4 := Tryz.sizeOf4
  v4 := Tryz.zeroValue4
  t9 := Tryz.underlying9
  a9 := Tryz.isAgg9
  z9 := Tryz.sizeOf9
  v9 := Tryz.zeroValue9 }
open Go.RowKit Go.Lib in
/-- strings.HasPrefix: "HasPrefix reports whether the string s begins with prefix.": IT RETURNS 'Lib.hasPrefix s prefix'; the world is as it was. (LAID: no walk: one application.) -/
theorem Tryz.strings_HasPrefix (s p : ByteArray) (w : World) :
    Calls Tryz.prog 73 #[.string s, .string p] w fun e w' => e = .returned (.bool (Lib.hasPrefix s.data.toList p.data.toList)) ∧ w' = w := Any.strings_HasPrefix Tryz.lays99 s p w
def Tryz.lays207_ren : Go.Shelf.Ren := ⟨fun | 207 => 202 | n => n, fun | 9 => 9 | 4 => 4 | 3 => 3 | n => n, fun | n => n⟩
theorem Tryz.lays207 : Go.Proofs.Lays.n207 Tryz.prog Tryz.lays207_ren := {
  mixed := by kernel_rfl
  f207 := Tryz.func202.trans (congrArg some (by kernel_rfl))
  t3 := Tryz.underlying3
  a3 := Tryz.isAgg3
  z3 := Tryz.sizeOf3
  v3 := Tryz.zeroValue3
  t4 := Tryz.underlying4
  a4 := Tryz.isAgg4
  z4 := Tryz.sizeOf4
  v4 := Tryz.zeroValue4
  t9 := Tryz.underlying9
  a9 := Tryz.isAgg9
  z9 := Tryz.sizeOf9
  v9 := Tryz.zeroValue9 }
open Go.RowKit Go.Lib in
/-- internal/stringslite.HasSuffix (what strings.HasSuffix calls). (LAID: no walk: one application.) -/
theorem Tryz.stringslite_HasSuffix (s p : ByteArray) (w : World) (hs : s.size ≤ 9223372036854775807) :
    Calls Tryz.prog 202 #[.string s, .string p] w fun e w' => e = .returned (.bool (Lib.hasSuffix s.data.toList p.data.toList)) ∧ w' = w := Any.stringslite_HasSuffix Tryz.lays207 s p w hs
def Tryz.lays100_ren : Go.Shelf.Ren := ⟨fun | 100 => 193 | 207 => 202 | n => n, fun | 9 => 9 | 4 => 4 | 3 => 3 | n => n, fun | n => n⟩
theorem Tryz.lays100 : Go.Proofs.Lays.n100 Tryz.prog Tryz.lays100_ren := {
  mixed := by kernel_rfl
  f100 := Tryz.func193.trans (congrArg some (by kernel_rfl))
  f207 := Tryz.func202.trans (congrArg some (by kernel_rfl))
  t3 := Tryz.underlying3
  a3 := Tryz.isAgg3
  z3 := Tryz.sizeOf3
  v3 := Tryz.zeroValue3
  t4 := Tryz.underlying4
  a4 := Tryz.isAgg4
  z4 := Tryz.sizeOf4
  v4 := Tryz.zeroValue4
  t9 := Tryz.underlying9
  a9 := Tryz.isAgg9
  z9 := Tryz.sizeOf9
  v9 := Tryz.zeroValue9 }
open Go.RowKit Go.Lib in
/-- strings.HasSuffix: "HasSuffix reports whether the string s ends with suffix.": IT RETURNS 'Lib.hasSuffix s suffix'; the world is as it was. ('hs': no Go string is longer: a caller has it of every string that it was handed.) (LAID: no walk: one application.) -/
theorem Tryz.strings_HasSuffix (s p : ByteArray) (w : World) (hs : s.size ≤ 9223372036854775807) :
    Calls Tryz.prog 193 #[.string s, .string p] w fun e w' => e = .returned (.bool (Lib.hasSuffix s.data.toList p.data.toList)) ∧ w' = w := Any.strings_HasSuffix Tryz.lays100 s p w hs
def Tryz.lays199_ren : Go.Shelf.Ren := ⟨fun | 199 => 101 | 261 => 121 | 311 => 156 | 312 => 157 | n => n, fun | 21 => 21 | 4 => 4 | 51 => 189 | 141 => 194 | 0 => 0 | 196 => 234 | 193 => 231 | 3 => 3 | 198 => 237 | 49 => 235 | 194 => 232 | 201 => 240 | 226 => 263 | 46 => 182 | 227 => 264 | n => n, fun | 6 => 3 | n => n⟩
theorem Tryz.lays199 : Go.Proofs.Lays.n199 Tryz.prog Tryz.lays199_ren := {
  mixed := by kernel_rfl
  f199 := Tryz.func101.trans (congrArg some (by kernel_rfl))
  f261 := Tryz.func121.trans (congrArg some (by kernel_rfl))
  f311 := Tryz.func156.trans (congrArg some (by kernel_rfl))
  f312 := Tryz.func157.trans (congrArg some (by kernel_rfl))
  t0 := Tryz.underlying0
  a0 := Tryz.isAgg0
  z0 := Tryz.sizeOf0
  v0 := Tryz.zeroValue0
  t3 := Tryz.underlying3
  a3 := Tryz.isAgg3
  z3 := Tryz.sizeOf3
  v3 := Tryz.zeroValue3
  t4 := Tryz.underlying4
  a4 := Tryz.isAgg4
  z4 := Tryz.sizeOf4
  v4 := Tryz.zeroValue4
  t21 := Tryz.underlying21
  a21 := Tryz.isAgg21
  z21 := Tryz.sizeOf21
  v21 := Tryz.zeroValue21
  t46 := Tryz.underlying182
  a46 := Tryz.isAgg182
  z46 := Tryz.sizeOf182
  v46 := Tryz.zeroValue182
  t49 := Tryz.underlying235
  a49 := Tryz.isAgg235
  z49 := Tryz.sizeOf235
  v49 := Tryz.zeroValue235
  t51 := Tryz.underlying189
  a51 := Tryz.isAgg189
  z51 := Tryz.sizeOf189
  v51 := Tryz.zeroValue189
  t141 := Tryz.underlying194
  a141 := Tryz.isAgg194
  z141 := Tryz.sizeOf194
  v141 := Tryz.zeroValue194
  t193 := Tryz.underlying231
  a193 := Tryz.isAgg231
  z193 := Tryz.sizeOf231
  v193 := Tryz.zeroValue231
  t194 := Tryz.underlying232
  a194 := Tryz.isAgg232
  z194 := Tryz.sizeOf232
  v194 := Tryz.zeroValue232
  t196 := Tryz.underlying234
  a196 := Tryz.isAgg234
  z196 := Tryz.sizeOf234
  v196 := Tryz.zeroValue234
  t198 := Tryz.underlying237
  a198 := Tryz.isAgg237
  z198 := Tryz.sizeOf237
  v198 := Tryz.zeroValue237
  t201 := Tryz.underlying240
  a201 := Tryz.isAgg240
  z201 := Tryz.sizeOf240
  v201 := Tryz.zeroValue240
  t226 := Tryz.underlying263
  a226 := Tryz.isAgg263
  z226 := Tryz.sizeOf263
  v226 := Tryz.zeroValue263
  t227 := Tryz.underlying264
  a227 := Tryz.isAgg264
  z227 := Tryz.sizeOf264
  v227 := Tryz.zeroValue264
  g6 := by kernel_rfl }
open Go.RowKit Go.Lib in
theorem Tryz.unicode_IsSpace (r : Int) (w : World) (h0 : 0 ≤ r) (h : r ≤ 255) :
    Calls Tryz.prog 101 #[.int .i32 r] w fun e w' => e = .returned (.bool (Lib.isSpaceL r)) ∧ w' = w := Any.unicode_IsSpace Tryz.lays199 r w h0 h
def Tryz.lays203_ren : Go.Shelf.Ren := ⟨fun | 203 => 161 | 262 => 107 | 313 => 134 | 274 => 163 | 275 => 164 | n => n, fun | 21 => 21 | 4 => 4 | 3 => 3 | 162 => 205 | 203 => 203 | 160 => 247 | 46 => 182 | 0 => 0 | 208 => 272 | 51 => 189 | 206 => 270 | n => n, fun | 13 => 5 | n => n⟩
theorem Tryz.lays203 : Go.Proofs.Lays.n203 Tryz.prog Tryz.lays203_ren := {
  mixed := by kernel_rfl
  f203 := Tryz.func161.trans (congrArg some (by kernel_rfl))
  f262 := Tryz.func107.trans (congrArg some (by kernel_rfl))
  f274 := Tryz.func163.trans (congrArg some (by kernel_rfl))
  f275 := Tryz.func164.trans (congrArg some (by kernel_rfl))
  f313 := Tryz.func134.trans (congrArg some (by kernel_rfl))
  t0 := Tryz.underlying0
  a0 := Tryz.isAgg0
  z0 := Tryz.sizeOf0
  v0 := Tryz.zeroValue0
  t3 := Tryz.underlying3
  a3 := Tryz.isAgg3
  z3 := Tryz.sizeOf3
  v3 := Tryz.zeroValue3
  t4 := Tryz.underlying4
  a4 := Tryz.isAgg4
  z4 := Tryz.sizeOf4
  v4 := Tryz.zeroValue4
  t21 := Tryz.underlying21
  a21 := Tryz.isAgg21
  z21 := Tryz.sizeOf21
  v21 := Tryz.zeroValue21
  t46 := Tryz.underlying182
  a46 := Tryz.isAgg182
  z46 := Tryz.sizeOf182
  v46 := Tryz.zeroValue182
  t51 := Tryz.underlying189
  a51 := Tryz.isAgg189
  z51 := Tryz.sizeOf189
  v51 := Tryz.zeroValue189
  t160 := Tryz.underlying247
  a160 := Tryz.isAgg247
  z160 := Tryz.sizeOf247
  v160 := Tryz.zeroValue247
  t162 := Tryz.underlying205
  a162 := Tryz.isAgg205
  z162 := Tryz.sizeOf205
  v162 := Tryz.zeroValue205
  t203 := Tryz.underlying203
  a203 := Tryz.isAgg203
  z203 := Tryz.sizeOf203
  v203 := Tryz.zeroValue203
  t206 := Tryz.underlying270
  a206 := Tryz.isAgg270
  z206 := Tryz.sizeOf270
  v206 := Tryz.zeroValue270
  t208 := Tryz.underlying272
  a208 := Tryz.isAgg272
  z208 := Tryz.sizeOf272
  v208 := Tryz.zeroValue272
  g13 := by kernel_rfl }
open Go.RowKit Go.Lib in
theorem Tryz.unicode_ToUpper (r : Int) (w : World) (h : r ≤ 127) :
    Calls Tryz.prog 161 #[.int .i32 r] w fun e w' => e = .returned (.int .i32 (Lib.toUpperR r)) ∧ w' = w := Any.unicode_ToUpper Tryz.lays203 r w h
def Tryz.lays204_ren : Go.Shelf.Ren := ⟨fun | 204 => 84 | 262 => 107 | 313 => 134 | 274 => 163 | 275 => 164 | n => n, fun | 21 => 21 | 4 => 4 | 3 => 3 | 162 => 205 | 203 => 203 | 160 => 247 | 46 => 182 | 0 => 0 | 208 => 272 | 51 => 189 | 206 => 270 | n => n, fun | 13 => 5 | n => n⟩
theorem Tryz.lays204 : Go.Proofs.Lays.n204 Tryz.prog Tryz.lays204_ren := {
  mixed := by kernel_rfl
  f204 := Tryz.func84.trans (congrArg some (by kernel_rfl))
  f262 := Tryz.func107.trans (congrArg some (by kernel_rfl))
  f274 := Tryz.func163.trans (congrArg some (by kernel_rfl))
  f275 := Tryz.func164.trans (congrArg some (by kernel_rfl))
  f313 := Tryz.func134.trans (congrArg some (by kernel_rfl))
  t0 := Tryz.underlying0
  a0 := Tryz.isAgg0
  z0 := Tryz.sizeOf0
  v0 := Tryz.zeroValue0
  t3 := Tryz.underlying3
  a3 := Tryz.isAgg3
  z3 := Tryz.sizeOf3
  v3 := Tryz.zeroValue3
  t4 := Tryz.underlying4
  a4 := Tryz.isAgg4
  z4 := Tryz.sizeOf4
  v4 := Tryz.zeroValue4
  t21 := Tryz.underlying21
  a21 := Tryz.isAgg21
  z21 := Tryz.sizeOf21
  v21 := Tryz.zeroValue21
  t46 := Tryz.underlying182
  a46 := Tryz.isAgg182
  z46 := Tryz.sizeOf182
  v46 := Tryz.zeroValue182
  t51 := Tryz.underlying189
  a51 := Tryz.isAgg189
  z51 := Tryz.sizeOf189
  v51 := Tryz.zeroValue189
  t160 := Tryz.underlying247
  a160 := Tryz.isAgg247
  z160 := Tryz.sizeOf247
  v160 := Tryz.zeroValue247
  t162 := Tryz.underlying205
  a162 := Tryz.isAgg205
  z162 := Tryz.sizeOf205
  v162 := Tryz.zeroValue205
  t203 := Tryz.underlying203
  a203 := Tryz.isAgg203
  z203 := Tryz.sizeOf203
  v203 := Tryz.zeroValue203
  t206 := Tryz.underlying270
  a206 := Tryz.isAgg270
  z206 := Tryz.sizeOf270
  v206 := Tryz.zeroValue270
  t208 := Tryz.underlying272
  a208 := Tryz.isAgg272
  z208 := Tryz.sizeOf272
  v208 := Tryz.zeroValue272
  g13 := by kernel_rfl }
open Go.RowKit Go.Lib in
theorem Tryz.unicode_ToLower (r : Int) (w : World) (h : r ≤ 127) :
    Calls Tryz.prog 84 #[.int .i32 r] w fun e w' => e = .returned (.int .i32 (Lib.toLowerR r)) ∧ w' = w := Any.unicode_ToLower Tryz.lays204 r w h
def Tryz.lays264_ren : Go.Shelf.Ren := ⟨fun | 264 => 182 | n => n, fun | 53 => 179 | 46 => 182 | n => n, fun | n => n⟩
theorem Tryz.lays264 : Go.Proofs.Lays.n264 Tryz.prog Tryz.lays264_ren := {
  mixed := by kernel_rfl
  f264 := Tryz.func182.trans (congrArg some (by kernel_rfl))
  t46 := Tryz.underlying182
  a46 := Tryz.isAgg182
  z46 := Tryz.sizeOf182
  v46 := Tryz.zeroValue182
  t53 := Tryz.underlying179
  a53 := Tryz.isAgg179
  z53 := Tryz.sizeOf179
  v53 := Tryz.zeroValue179 }
open Go.RowKit Go.Lib in
theorem Tryz.bits_Mul64 (x y : Nat) (hx : x < 18446744073709551616) (hy : y < 18446744073709551616) (w : World) :
    Calls Tryz.prog 182 #[.int .u64 x, .int .u64 y] w fun e w' => e = .returned (.tuple #[.int .u64 ((x * y / 18446744073709551616 : Nat) : Int), .int .u64 ((x * y % 18446744073709551616 : Nat) : Int)]) ∧ w' = w := Any.bits_Mul64 Tryz.lays264 x y hx hy w
def Tryz.lays212_ren : Go.Shelf.Ren := ⟨fun | 212 => 162 | 263 => 181 | 264 => 182 | n => n, fun | 46 => 182 | 51 => 189 | 146 => 265 | 53 => 179 | 148 => 267 | n => n, fun | n => n⟩
theorem Tryz.lays212 : Go.Proofs.Lays.n212 Tryz.prog Tryz.lays212_ren := {
  mixed := by kernel_rfl
  f212 := Tryz.func162.trans (congrArg some (by kernel_rfl))
  f263 := Tryz.func181.trans (congrArg some (by kernel_rfl))
  f264 := Tryz.func182.trans (congrArg some (by kernel_rfl))
  t46 := Tryz.underlying182
  a46 := Tryz.isAgg182
  z46 := Tryz.sizeOf182
  v46 := Tryz.zeroValue182
  t51 := Tryz.underlying189
  a51 := Tryz.isAgg189
  z51 := Tryz.sizeOf189
  v51 := Tryz.zeroValue189
  t53 := Tryz.underlying179
  a53 := Tryz.isAgg179
  z53 := Tryz.sizeOf179
  v53 := Tryz.zeroValue179
  t146 := Tryz.underlying265
  a146 := Tryz.isAgg265
  z146 := Tryz.sizeOf265
  v146 := Tryz.zeroValue265
  t148 := Tryz.underlying267
  a148 := Tryz.isAgg267
  z148 := Tryz.sizeOf267
  v148 := Tryz.zeroValue267 }
open Go.RowKit Go.Lib in
/-- math/bits.Mul: "Mul returns the full-width product of x and y": on a machine of 64 bits: Mul64's. (LAID: no walk: one application.) -/
theorem Tryz.bits_Mul (x y : Nat) (hx : x < 18446744073709551616) (hy : y < 18446744073709551616) (w : World) :
    Calls Tryz.prog 162 #[.int .u64 x, .int .u64 y] w fun e w' => e = .returned (.tuple #[.int .u64 ((x * y / 18446744073709551616 : Nat) : Int), .int .u64 ((x * y % 18446744073709551616 : Nat) : Int)]) ∧ w' = w := Any.bits_Mul Tryz.lays212 x y hx hy w
def Tryz.lays260_ren : Go.Shelf.Ren := ⟨fun | 260 => 99 | n => n, fun | 9 => 9 | 21 => 21 | 3 => 3 | 4 => 4 | 5 => 5 | 119 => 163 | 0 => 0 | 46 => 182 | 139 => 192 | 138 => 191 | n => n, fun | 3 => 1 | 4 => 2 | n => n⟩
theorem Tryz.lays260 : Go.Proofs.Lays.n260 Tryz.prog Tryz.lays260_ren := {
  mixed := by kernel_rfl
  f260 := Tryz.func99.trans (congrArg some (by kernel_rfl))
  t0 := Tryz.underlying0
  a0 := Tryz.isAgg0
  z0 := Tryz.sizeOf0
  v0 := Tryz.zeroValue0
  t3 := Tryz.underlying3
  a3 := Tryz.isAgg3
  z3 := Tryz.sizeOf3
  v3 := Tryz.zeroValue3
  t4 := Tryz.underlying4
  a4 := Tryz.isAgg4
  z4 := Tryz.sizeOf4
  v4 := Tryz.zeroValue4
  t5 := Tryz.underlying5
  a5 := Tryz.isAgg5
  z5 := Tryz.sizeOf5
  v5 := Tryz.zeroValue5
  t9 := Tryz.underlying9
  a9 := Tryz.isAgg9
  z9 := Tryz.sizeOf9
  v9 := Tryz.zeroValue9
  t21 := Tryz.underlying21
  a21 := Tryz.isAgg21
  z21 := Tryz.sizeOf21
  v21 := Tryz.zeroValue21
  t46 := Tryz.underlying182
  a46 := Tryz.isAgg182
  z46 := Tryz.sizeOf182
  v46 := Tryz.zeroValue182
  t119 := Tryz.underlying163
  a119 := Tryz.isAgg163
  z119 := Tryz.sizeOf163
  t138 := Tryz.underlying191
  a138 := Tryz.isAgg191
  z138 := Tryz.sizeOf191
  v138 := Tryz.zeroValue191
  t139 := Tryz.underlying192
  a139 := Tryz.isAgg192
  z139 := Tryz.sizeOf192
  v139 := Tryz.zeroValue192
  g3 := by kernel_rfl
  g4 := by kernel_rfl }
open Go.RowKit Go.Lib in
theorem Tryz.utf8_decodeRuneInStringSlow (s : ByteArray) (w : World) (hT : Lib.Utf8Tabs 1 2 w) :
    Calls Tryz.prog 99 #[.string s] w fun e w' => e = .returned (.tuple #[.int .i32 (Lib.decodeGo s).1, .int .i64 (Lib.decodeGo s).2]) ∧ Below w.heap.size w w' := Any.utf8_decodeRuneInStringSlow Tryz.lays260 s w hT
def Tryz.lays311_ren : Go.Shelf.Ren := ⟨fun | 311 => 156 | n => n, fun | 193 => 231 | 49 => 235 | 4 => 4 | 3 => 3 | 0 => 0 | 226 => 263 | 198 => 237 | 46 => 182 | n => n, fun | n => n⟩
theorem Tryz.lays311 : Go.Proofs.Lays.n311 Tryz.prog Tryz.lays311_ren := {
  mixed := by kernel_rfl
  f311 := Tryz.func156.trans (congrArg some (by kernel_rfl))
  t0 := Tryz.underlying0
  a0 := Tryz.isAgg0
  z0 := Tryz.sizeOf0
  v0 := Tryz.zeroValue0
  t3 := Tryz.underlying3
  a3 := Tryz.isAgg3
  z3 := Tryz.sizeOf3
  v3 := Tryz.zeroValue3
  t4 := Tryz.underlying4
  a4 := Tryz.isAgg4
  z4 := Tryz.sizeOf4
  v4 := Tryz.zeroValue4
  t46 := Tryz.underlying182
  a46 := Tryz.isAgg182
  z46 := Tryz.sizeOf182
  v46 := Tryz.zeroValue182
  t49 := Tryz.underlying235
  a49 := Tryz.isAgg235
  z49 := Tryz.sizeOf235
  v49 := Tryz.zeroValue235
  t193 := Tryz.underlying231
  a193 := Tryz.isAgg231
  z193 := Tryz.sizeOf231
  v193 := Tryz.zeroValue231
  t198 := Tryz.underlying237
  a198 := Tryz.isAgg237
  z198 := Tryz.sizeOf237
  v198 := Tryz.zeroValue237
  t226 := Tryz.underlying263
  a226 := Tryz.isAgg263
  z226 := Tryz.sizeOf263
  v226 := Tryz.zeroValue263 }
open Go.RowKit Go.Lib in
theorem Tryz.unicode_is16_white (R oR : Nat) (z : Nat) (w : World) (hz : z < 65536) (hz0 : 255 < z) (c6 : w.cell? ⟨R, oR + 6, none⟩ = some (.int .u16 160)) (c7 : w.cell? ⟨R, oR + 7, none⟩ = some (.int .u16 5760)) (c8 : w.cell? ⟨R, oR + 8, none⟩ = some (.int .u16 5600)) (c9 : w.cell? ⟨R, oR + 9, none⟩ = some (.int .u16 8192)) (c10 : w.cell? ⟨R, oR + 10, none⟩ = some (.int .u16 8202)) (c11 : w.cell? ⟨R, oR + 11, none⟩ = some (.int .u16 1)) (c12 : w.cell? ⟨R, oR + 12, none⟩ = some (.int .u16 8232)) (c13 : w.cell? ⟨R, oR + 13, none⟩ = some (.int .u16 8233)) (c14 : w.cell? ⟨R, oR + 14, none⟩ = some (.int .u16 1)) (c15 : w.cell? ⟨R, oR + 15, none⟩ = some (.int .u16 8239)) (c16 : w.cell? ⟨R, oR + 16, none⟩ = some (.int .u16 8287)) (c17 : w.cell? ⟨R, oR + 17, none⟩ = some (.int .u16 48)) (c18 : w.cell? ⟨R, oR + 18, none⟩ = some (.int .u16 12288)) (c19 : w.cell? ⟨R, oR + 19, none⟩ = some (.int .u16 12288)) (c20 : w.cell? ⟨R, oR + 20, none⟩ = some (.int .u16 1)) :
    Calls Tryz.prog 156 #[.slice (some ⟨R, oR + 6, none⟩) 5 5, .int .u16 z] w fun e w' => e = .returned (.bool (Lib.isSpaceR z)) ∧ Below w.heap.size w w' := Any.unicode_is16_white Tryz.lays311 R oR z w hz hz0 c6 c7 c8 c9 c10 c11 c12 c13 c14 c15 c16 c17 c18 c19 c20
def Tryz.lays261_ren : Go.Shelf.Ren := ⟨fun | 261 => 121 | 311 => 156 | 312 => 157 | n => n, fun | 141 => 194 | 21 => 21 | 4 => 4 | 0 => 0 | 196 => 234 | 193 => 231 | 3 => 3 | 51 => 189 | 198 => 237 | 49 => 235 | 194 => 232 | 201 => 240 | 226 => 263 | 46 => 182 | 227 => 264 | n => n, fun | n => n⟩
theorem Tryz.lays261 : Go.Proofs.Lays.n261 Tryz.prog Tryz.lays261_ren := {
  mixed := by kernel_rfl
  f261 := Tryz.func121.trans (congrArg some (by kernel_rfl))
  f311 := Tryz.func156.trans (congrArg some (by kernel_rfl))
  f312 := Tryz.func157.trans (congrArg some (by kernel_rfl))
  t0 := Tryz.underlying0
  a0 := Tryz.isAgg0
  z0 := Tryz.sizeOf0
  v0 := Tryz.zeroValue0
  t3 := Tryz.underlying3
  a3 := Tryz.isAgg3
  z3 := Tryz.sizeOf3
  v3 := Tryz.zeroValue3
  t4 := Tryz.underlying4
  a4 := Tryz.isAgg4
  z4 := Tryz.sizeOf4
  v4 := Tryz.zeroValue4
  t21 := Tryz.underlying21
  a21 := Tryz.isAgg21
  z21 := Tryz.sizeOf21
  v21 := Tryz.zeroValue21
  t46 := Tryz.underlying182
  a46 := Tryz.isAgg182
  z46 := Tryz.sizeOf182
  v46 := Tryz.zeroValue182
  t49 := Tryz.underlying235
  a49 := Tryz.isAgg235
  z49 := Tryz.sizeOf235
  v49 := Tryz.zeroValue235
  t51 := Tryz.underlying189
  a51 := Tryz.isAgg189
  z51 := Tryz.sizeOf189
  v51 := Tryz.zeroValue189
  t141 := Tryz.underlying194
  a141 := Tryz.isAgg194
  z141 := Tryz.sizeOf194
  v141 := Tryz.zeroValue194
  t193 := Tryz.underlying231
  a193 := Tryz.isAgg231
  z193 := Tryz.sizeOf231
  v193 := Tryz.zeroValue231
  t194 := Tryz.underlying232
  a194 := Tryz.isAgg232
  z194 := Tryz.sizeOf232
  v194 := Tryz.zeroValue232
  t196 := Tryz.underlying234
  a196 := Tryz.isAgg234
  z196 := Tryz.sizeOf234
  v196 := Tryz.zeroValue234
  t198 := Tryz.underlying237
  a198 := Tryz.isAgg237
  z198 := Tryz.sizeOf237
  v198 := Tryz.zeroValue237
  t201 := Tryz.underlying240
  a201 := Tryz.isAgg240
  z201 := Tryz.sizeOf240
  v201 := Tryz.zeroValue240
  t226 := Tryz.underlying263
  a226 := Tryz.isAgg263
  z226 := Tryz.sizeOf263
  v226 := Tryz.zeroValue263
  t227 := Tryz.underlying264
  a227 := Tryz.isAgg264
  z227 := Tryz.sizeOf264
  v227 := Tryz.zeroValue264 }
open Go.RowKit Go.Lib in
/-- unicode.isExcludingLatin(White_Space, r), r beyond U+00FF or negative. (LAID: no walk: one application.) -/
theorem Tryz.unicode_isExcludingLatin_white (T oT R oR : Nat) (r : Int) (w : World) (hlo : -2147483648 ≤ r) (hhi : r ≤ 2147483647) (hr : r < 0 ∨ 255 < r) (h2 : w.cell? ⟨T, oT, none⟩ = some (.slice (some ⟨R, oR, none⟩) 7 7)) (h3 : w.cell? ⟨T, oT + 1, none⟩ = some (.slice none 0 0)) (h4 : w.cell? ⟨T, oT + 2, none⟩ = some (.int .i64 2)) (h5 : ∀ i, i < 21 → w.cell? ⟨R, oR + i, none⟩ = some (.int .u16 (whiteT.getD i 0))) :
    Calls Tryz.prog 121 #[.pointer (some ⟨T, oT, none⟩), .int .i32 r] w fun e w' => e = .returned (.bool (Lib.isSpaceZ r)) ∧ Below w.heap.size w w' := Any.unicode_isExcludingLatin_white Tryz.lays261 T oT R oR r w hlo hhi hr h2 h3 h4 h5
open Go.RowKit Go.Lib in
/-- **unicode.IsSpace AT EVERY int32.** (LAID: no walk: one application.) -/
theorem Tryz.unicode_IsSpace_any (r : Int) (w : World) (hlo : -2147483648 ≤ r) (hhi : r ≤ 2147483647) (hW : Lib.WhiteTab 3 w) :
    Calls Tryz.prog 101 #[.int .i32 r] w fun e w' => e = .returned (.bool (Lib.isSpaceZ r)) ∧ Below w.heap.size w w' := Any.unicode_IsSpace_any Tryz.lays199 r w hlo hhi hW
def Tryz.lays274_ren : Go.Shelf.Ren := ⟨fun | 274 => 163 | n => n, fun | 21 => 21 | 162 => 205 | 160 => 247 | 3 => 3 | 4 => 4 | 46 => 182 | 0 => 0 | 208 => 272 | 51 => 189 | 206 => 270 | n => n, fun | n => n⟩
theorem Tryz.lays274 : Go.Proofs.Lays.n274 Tryz.prog Tryz.lays274_ren := {
  mixed := by kernel_rfl
  f274 := Tryz.func163.trans (congrArg some (by kernel_rfl))
  t0 := Tryz.underlying0
  a0 := Tryz.isAgg0
  z0 := Tryz.sizeOf0
  v0 := Tryz.zeroValue0
  t3 := Tryz.underlying3
  a3 := Tryz.isAgg3
  z3 := Tryz.sizeOf3
  v3 := Tryz.zeroValue3
  t4 := Tryz.underlying4
  a4 := Tryz.isAgg4
  z4 := Tryz.sizeOf4
  v4 := Tryz.zeroValue4
  t21 := Tryz.underlying21
  a21 := Tryz.isAgg21
  z21 := Tryz.sizeOf21
  v21 := Tryz.zeroValue21
  t46 := Tryz.underlying182
  a46 := Tryz.isAgg182
  z46 := Tryz.sizeOf182
  v46 := Tryz.zeroValue182
  t51 := Tryz.underlying189
  a51 := Tryz.isAgg189
  z51 := Tryz.sizeOf189
  v51 := Tryz.zeroValue189
  t160 := Tryz.underlying247
  a160 := Tryz.isAgg247
  z160 := Tryz.sizeOf247
  v160 := Tryz.zeroValue247
  t162 := Tryz.underlying205
  a162 := Tryz.isAgg205
  z162 := Tryz.sizeOf205
  v162 := Tryz.zeroValue205
  t208 := Tryz.underlying272
  a208 := Tryz.isAgg272
  z208 := Tryz.sizeOf272
  v208 := Tryz.zeroValue272 }
open Go.RowKit Go.Lib in
theorem Tryz.unicode_lookupCaseRange (T : Array CaseRow) (R oR cap : Nat) (r : Int) (w : World) (hT : CaseTab R oR T w) (hok : CaseOk T) (hn : T.size ≤ 1000000000) :
    Calls Tryz.prog 163 #[.int .i32 r, .slice (some ⟨R, oR, none⟩) T.size cap] w fun e w' =>
      e = .returned (match lookupIdx T r (T.size + 1) 0 T.size with | some i => .pointer (some ⟨R, oR + i * 5, none⟩) | none => .pointer none) ∧ w' = w := Any.unicode_lookupCaseRange Tryz.lays274 T R oR cap r w hT hok hn
def Tryz.lays275_ren : Go.Shelf.Ren := ⟨fun | 275 => 164 | n => n, fun | 3 => 3 | 21 => 21 | 160 => 247 | 0 => 0 | 208 => 272 | 206 => 270 | 4 => 4 | 51 => 189 | n => n, fun | n => n⟩
theorem Tryz.lays275 : Go.Proofs.Lays.n275 Tryz.prog Tryz.lays275_ren := {
  mixed := by kernel_rfl
  f275 := Tryz.func164.trans (congrArg some (by kernel_rfl))
  t0 := Tryz.underlying0
  a0 := Tryz.isAgg0
  z0 := Tryz.sizeOf0
  v0 := Tryz.zeroValue0
  t3 := Tryz.underlying3
  a3 := Tryz.isAgg3
  z3 := Tryz.sizeOf3
  v3 := Tryz.zeroValue3
  t4 := Tryz.underlying4
  a4 := Tryz.isAgg4
  z4 := Tryz.sizeOf4
  v4 := Tryz.zeroValue4
  t21 := Tryz.underlying21
  a21 := Tryz.isAgg21
  z21 := Tryz.sizeOf21
  v21 := Tryz.zeroValue21
  t51 := Tryz.underlying189
  a51 := Tryz.isAgg189
  z51 := Tryz.sizeOf189
  v51 := Tryz.zeroValue189
  t160 := Tryz.underlying247
  a160 := Tryz.isAgg247
  z160 := Tryz.sizeOf247
  v160 := Tryz.zeroValue247
  t206 := Tryz.underlying270
  a206 := Tryz.isAgg270
  z206 := Tryz.sizeOf270
  v206 := Tryz.zeroValue270
  t208 := Tryz.underlying272
  a208 := Tryz.isAgg272
  z208 := Tryz.sizeOf272
  v208 := Tryz.zeroValue272 }
open Go.RowKit Go.Lib in
theorem Tryz.unicode_convertCase (c : Nat) (hc : c < 3) (r : Int) (A o : Nat) (x : CaseRow) (w : World) (hlo : (x.1 : Int) ≤ r) (hhi : r ≤ (x.2.1 : Int)) (hH : x.2.1 < 2147483647) (c0 : w.cell? ⟨A, o, none⟩ = some (.int .u32 x.1)) (cD : w.cell? ⟨A, o + 2 + c, none⟩ = some (.int .i32 (x.delta c))) :
    Calls Tryz.prog 164 #[.int .i64 c, .int .i32 r, .pointer (some ⟨A, o, none⟩)] w fun e w' => e = .returned (.int .i32 (wrap32 (convertR c r x))) ∧ ∃ q, w' = w.drewN q := Any.unicode_convertCase Tryz.lays275 c hc r A o x w hlo hhi hH c0 cD
def Tryz.lays313_ren : Go.Shelf.Ren := ⟨fun | 313 => 134 | 274 => 163 | 275 => 164 | n => n, fun | 3 => 3 | 21 => 21 | 162 => 205 | 4 => 4 | 160 => 247 | 46 => 182 | 0 => 0 | 208 => 272 | 51 => 189 | 206 => 270 | n => n, fun | n => n⟩
theorem Tryz.lays313 : Go.Proofs.Lays.n313 Tryz.prog Tryz.lays313_ren := {
  mixed := by kernel_rfl
  f274 := Tryz.func163.trans (congrArg some (by kernel_rfl))
  f275 := Tryz.func164.trans (congrArg some (by kernel_rfl))
  f313 := Tryz.func134.trans (congrArg some (by kernel_rfl))
  t0 := Tryz.underlying0
  a0 := Tryz.isAgg0
  z0 := Tryz.sizeOf0
  v0 := Tryz.zeroValue0
  t3 := Tryz.underlying3
  a3 := Tryz.isAgg3
  z3 := Tryz.sizeOf3
  v3 := Tryz.zeroValue3
  t4 := Tryz.underlying4
  a4 := Tryz.isAgg4
  z4 := Tryz.sizeOf4
  v4 := Tryz.zeroValue4
  t21 := Tryz.underlying21
  a21 := Tryz.isAgg21
  z21 := Tryz.sizeOf21
  v21 := Tryz.zeroValue21
  t46 := Tryz.underlying182
  a46 := Tryz.isAgg182
  z46 := Tryz.sizeOf182
  v46 := Tryz.zeroValue182
  t51 := Tryz.underlying189
  a51 := Tryz.isAgg189
  z51 := Tryz.sizeOf189
  v51 := Tryz.zeroValue189
  t160 := Tryz.underlying247
  a160 := Tryz.isAgg247
  z160 := Tryz.sizeOf247
  v160 := Tryz.zeroValue247
  t162 := Tryz.underlying205
  a162 := Tryz.isAgg205
  z162 := Tryz.sizeOf205
  v162 := Tryz.zeroValue205
  t206 := Tryz.underlying270
  a206 := Tryz.isAgg270
  z206 := Tryz.sizeOf270
  v206 := Tryz.zeroValue270
  t208 := Tryz.underlying272
  a208 := Tryz.isAgg272
  z208 := Tryz.sizeOf272
  v208 := Tryz.zeroValue272 }
open Go.RowKit Go.Lib in
theorem Tryz.unicode_to (c : Nat) (hc : c < 3) (r : Int) (T : Array CaseRow) (R oR cap : Nat) (w : World) (hT : CaseTab R oR T w) (hok : CaseOk2 T) (hn : T.size ≤ 1000000000) :
    Calls Tryz.prog 134 #[.int .i64 c, .int .i32 r, .slice (some ⟨R, oR, none⟩) T.size cap] w fun e w' => e = .returned (.tuple #[.int .i32 (toW T c r), .bool (lookupIdx T r (T.size + 1) 0 T.size).isSome]) ∧ ∃ q, w' = w.drewN q := Any.unicode_to Tryz.lays313 c hc r T R oR cap w hT hok hn
def Tryz.lays262_ren : Go.Shelf.Ren := ⟨fun | 262 => 107 | 313 => 134 | 274 => 163 | 275 => 164 | n => n, fun | 3 => 3 | 21 => 21 | 162 => 205 | 203 => 203 | 4 => 4 | 160 => 247 | 46 => 182 | 0 => 0 | 208 => 272 | 51 => 189 | 206 => 270 | n => n, fun | 13 => 5 | n => n⟩
theorem Tryz.lays262 : Go.Proofs.Lays.n262 Tryz.prog Tryz.lays262_ren := {
  mixed := by kernel_rfl
  f262 := Tryz.func107.trans (congrArg some (by kernel_rfl))
  f274 := Tryz.func163.trans (congrArg some (by kernel_rfl))
  f275 := Tryz.func164.trans (congrArg some (by kernel_rfl))
  f313 := Tryz.func134.trans (congrArg some (by kernel_rfl))
  t0 := Tryz.underlying0
  a0 := Tryz.isAgg0
  z0 := Tryz.sizeOf0
  v0 := Tryz.zeroValue0
  t3 := Tryz.underlying3
  a3 := Tryz.isAgg3
  z3 := Tryz.sizeOf3
  v3 := Tryz.zeroValue3
  t4 := Tryz.underlying4
  a4 := Tryz.isAgg4
  z4 := Tryz.sizeOf4
  v4 := Tryz.zeroValue4
  t21 := Tryz.underlying21
  a21 := Tryz.isAgg21
  z21 := Tryz.sizeOf21
  v21 := Tryz.zeroValue21
  t46 := Tryz.underlying182
  a46 := Tryz.isAgg182
  z46 := Tryz.sizeOf182
  v46 := Tryz.zeroValue182
  t51 := Tryz.underlying189
  a51 := Tryz.isAgg189
  z51 := Tryz.sizeOf189
  v51 := Tryz.zeroValue189
  t160 := Tryz.underlying247
  a160 := Tryz.isAgg247
  z160 := Tryz.sizeOf247
  v160 := Tryz.zeroValue247
  t162 := Tryz.underlying205
  a162 := Tryz.isAgg205
  z162 := Tryz.sizeOf205
  v162 := Tryz.zeroValue205
  t203 := Tryz.underlying203
  a203 := Tryz.isAgg203
  z203 := Tryz.sizeOf203
  v203 := Tryz.zeroValue203
  t206 := Tryz.underlying270
  a206 := Tryz.isAgg270
  z206 := Tryz.sizeOf270
  v206 := Tryz.zeroValue270
  t208 := Tryz.underlying272
  a208 := Tryz.isAgg272
  z208 := Tryz.sizeOf272
  v208 := Tryz.zeroValue272
  g13 := by kernel_rfl }
open Go.RowKit Go.Lib in
theorem Tryz.unicode_To (c : Nat) (hc : c < 3) (r : Int) (T : Array CaseRow) (w : World) (hV : CaseVar 5 T w) (hok : CaseOk2 T) (hn : T.size ≤ 1000000000) :
    Calls Tryz.prog 107 #[.int .i64 c, .int .i32 r] w fun e w' => e = .returned (.int .i32 (toW T c r)) ∧ ∃ q, w' = w.drewN q := Any.unicode_To Tryz.lays262 c hc r T w hV hok hn
open Go.RowKit Go.Lib in
theorem Tryz.unicode_ToLower_any (r : Int) (T : Array CaseRow) (w : World) (hV : CaseVar 5 T w) (hok : CaseOk2 T) (hn : T.size ≤ 1000000000) :
    Calls Tryz.prog 84 #[.int .i32 r] w fun e w' => e = .returned (.int .i32 (Lib.toLowerW T r)) ∧ ∃ q, w' = w.drewN q := Any.unicode_ToLower_any Tryz.lays204 r T w hV hok hn
open Go.RowKit Go.Lib in
theorem Tryz.unicode_ToUpper_any (r : Int) (T : Array CaseRow) (w : World) (hV : CaseVar 5 T w) (hok : CaseOk2 T) (hn : T.size ≤ 1000000000) :
    Calls Tryz.prog 161 #[.int .i32 r] w fun e w' => e = .returned (.int .i32 (Lib.toUpperW T r)) ∧ ∃ q, w' = w.drewN q := Any.unicode_ToUpper_any Tryz.lays203 r T w hV hok hn
open Go.RowKit Go.Lib in
theorem Tryz.unicode_ToLower_laid (r : Int) (w : World) (hV : CaseVar 5 caseA w) :
    Calls Tryz.prog 84 #[.int .i32 r] w fun e w' => e = .returned (.int .i32 (toLowerU r)) ∧ ∃ q, w' = w.drewN q := Any.unicode_ToLower_laid Tryz.lays204 r w hV
open Go.RowKit Go.Lib in
theorem Tryz.unicode_ToUpper_laid (r : Int) (w : World) (hV : CaseVar 5 caseA w) :
    Calls Tryz.prog 161 #[.int .i32 r] w fun e w' => e = .returned (.int .i32 (toUpperU r)) ∧ ∃ q, w' = w.drewN q := Any.unicode_ToUpper_laid Tryz.lays203 r w hV
open Go.RowKit Go.Lib in
theorem Tryz.unicode_is16_any (T : Array Rg) (R oR cap : Nat) (z : Nat) (w : World) (hz : z < 65536) (hT : RgTab .u16 R oR T w) (hok : RgOk 65536 T) (hn : T.size ≤ 1000000000) :
    Calls Tryz.prog 156 #[.slice (some ⟨R, oR, none⟩) T.size cap, .int .u16 z] w fun e w' => e = .returned (.bool (is16Go T z)) ∧ ∃ q, w' = w.drewN q := Any.unicode_is16_any Tryz.lays311 T R oR cap z w hz hT hok hn
def Tryz.lays312_ren : Go.Shelf.Ren := ⟨fun | 312 => 157 | n => n, fun | 194 => 232 | 51 => 189 | 4 => 4 | 3 => 3 | 0 => 0 | 227 => 264 | 201 => 240 | 46 => 182 | n => n, fun | n => n⟩
theorem Tryz.lays312 : Go.Proofs.Lays.n312 Tryz.prog Tryz.lays312_ren := {
  mixed := by kernel_rfl
  f312 := Tryz.func157.trans (congrArg some (by kernel_rfl))
  t0 := Tryz.underlying0
  a0 := Tryz.isAgg0
  z0 := Tryz.sizeOf0
  v0 := Tryz.zeroValue0
  t3 := Tryz.underlying3
  a3 := Tryz.isAgg3
  z3 := Tryz.sizeOf3
  v3 := Tryz.zeroValue3
  t4 := Tryz.underlying4
  a4 := Tryz.isAgg4
  z4 := Tryz.sizeOf4
  v4 := Tryz.zeroValue4
  t46 := Tryz.underlying182
  a46 := Tryz.isAgg182
  z46 := Tryz.sizeOf182
  v46 := Tryz.zeroValue182
  t51 := Tryz.underlying189
  a51 := Tryz.isAgg189
  z51 := Tryz.sizeOf189
  v51 := Tryz.zeroValue189
  t194 := Tryz.underlying232
  a194 := Tryz.isAgg232
  z194 := Tryz.sizeOf232
  v194 := Tryz.zeroValue232
  t201 := Tryz.underlying240
  a201 := Tryz.isAgg240
  z201 := Tryz.sizeOf240
  v201 := Tryz.zeroValue240
  t227 := Tryz.underlying264
  a227 := Tryz.isAgg264
  z227 := Tryz.sizeOf264
  v227 := Tryz.zeroValue264 }
open Go.RowKit Go.Lib in
theorem Tryz.unicode_is32_any (T : Array Rg) (R oR cap : Nat) (z : Nat) (w : World) (hz : z < 4294967296) (hT : RgTab .u32 R oR T w) (hok : RgOk 4294967296 T) (hn : T.size ≤ 1000000000) :
    Calls Tryz.prog 157 #[.slice (some ⟨R, oR, none⟩) T.size cap, .int .u32 z] w fun e w' => e = .returned (.bool (is32Go T z)) ∧ Below w.heap.size w w' := Any.unicode_is32_any Tryz.lays312 T R oR cap z w hz hT hok hn
open Go.RowKit Go.Lib in
theorem Tryz.unicode_isExcludingLatin_any (Tb oT : Nat) (T : RTab) (r : Int) (w : World) (hlo : -2147483648 ≤ r) (hhi : r ≤ 2147483647) (hA : RTabAt Tb oT T w) (hok : RTabOk T) :
    Calls Tryz.prog 121 #[.pointer (some ⟨Tb, oT, none⟩), .int .i32 r] w fun e w' => e = .returned (.bool (exclGo T r)) ∧ Below w.heap.size w w' := Any.unicode_isExcludingLatin_any Tryz.lays261 Tb oT T r w hlo hhi hA hok
def Tryz.lays187_ren : Go.Shelf.Ren := ⟨fun | 187 => 208 | 255 => 216 | n => n, fun | 37 => 49 | 5 => 5 | 3 => 3 | n => n, fun | n => n⟩
theorem Tryz.lays187 : Go.Proofs.Lays.n187 Tryz.prog Tryz.lays187_ren := {
  mixed := by kernel_rfl
  f187 := Tryz.func208.trans (congrArg some (by kernel_rfl))
  f255 := Tryz.func216.trans (congrArg some (by kernel_rfl))
  t3 := Tryz.underlying3
  a3 := Tryz.isAgg3
  z3 := Tryz.sizeOf3
  v3 := Tryz.zeroValue3
  t5 := Tryz.underlying5
  a5 := Tryz.isAgg5
  z5 := Tryz.sizeOf5
  v5 := Tryz.zeroValue5
  t37 := Tryz.underlying49
  a37 := Tryz.isAgg49
  z37 := Tryz.sizeOf49
  v37 := Tryz.zeroValue49 }
/-- bytes.IndexByte: "IndexByte returns the index of the first instance of c in b, or -1 if c is not present in b.": IT RETURNS 'Lib.indexByte (the bytes of b) c'; the world is as it was. 'xs': the numbers that the slice's cells hold. (LAID: no walk: one application.) -/
theorem Tryz.bytes_IndexByte (b o n c : Nat) (xs : List Int) (cv : Int) (w : World) (hx : xs.length = n) (hc : ∀ i, i < n → w.cell? ⟨b, o + i, none⟩ = some (.int .u8 (xs.getD i 0))) :
    Calls Tryz.prog 208 #[.slice (some ⟨b, o, none⟩) n c, .int .u8 cv] w fun e w' => e = .returned (.int .i64 (Lib.indexByte (Lib.bytesOf xs) cv.toNat.toUInt8)) ∧ w' = w := Any.bytes_IndexByte Tryz.lays187 b o n c xs cv w hx hc
/-- bytes.IndexByte AT nil: -1. (LAID: no walk: one application.) -/
theorem Tryz.bytes_IndexByte_nil (cv : Int) (w : World) :
    Calls Tryz.prog 208 #[.slice none 0 0, .int .u8 cv] w fun e w' => e = .returned (.int .i64 (-1)) ∧ w' = w := Any.bytes_IndexByte_nil Tryz.lays187 cv w
end Go.Proofs
