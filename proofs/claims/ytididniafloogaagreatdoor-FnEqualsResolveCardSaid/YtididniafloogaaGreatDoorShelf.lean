/-
  DERIVED: THE SHELF's CONTRACTS AT THIS DUMP, IN PLAIN WORDS (tools/lay-plain.mjs out of 'TryzShelf.lean', which tools/lay-shelf.mjs wrote): THE SAME DECLARATIONS UNDER THE SAME NAMES: 'import', 'namespace', 'open', 'def', 'theorem' AND NOTHING ELSE: no command of the shelf's: FOR A HAND-IN. Each laying: the table of numbers ('.._ren') and one theorem, a field a fact of the dump's own or the kernel's comparison; each contract: ONE APPLICATION.
-/
import Derived.Shelf.Strings.Builder1
import Derived.Shelf.Strings.Builder2
import Derived.Shelf.Strings.OnBuilder
import Derived.Shelf.Strings.TrimSpace
import Derived.Shelf.Small.Utf8
import Derived.Shelf.Small.Bits
import Derived.Shelf.Strings.BuilderF
import Derived.Shelf.Strings.BuilderK
import Derived.Shelf.Strings.BuilderRune
import Derived.Shelf.Strconv.ParseBool
import Derived.Shelf.Strconv.Itoa0
import Derived.Shelf.LaysM
import Derived.Shelf.Strconv.Clone
import Derived.Shelf.Strconv.SyntaxError
import Derived.Shelf.LaysC
import Derived.Shelf.Strconv.ToError
import Derived.Shelf.Strconv.ParseBoolErrInner
import Derived.Shelf.Strconv.ParseBoolErr
import Derived.Shelf.Strconv.ErrVar
import Derived.Ground.GgsProg
import Derived.Shelf.GgSortFunc.Insertion
import Derived.Shelf.GgSortFunc.Small
import Derived.Shelf.GgSortFunc.InsertionK
import Derived.Shelf.GgSortFunc.SmallK
import Derived.Shelf.GgSortFunc.Tiny
import Derived.Shelf.GgSortFunc.Compose
import Derived.Shelf.GgSortFunc.LotD
import Derived.Shelf.GgClosure.StringsIndexFunc
import Derived.Shelf.GgClosure.StringsTrimFunc
import Derived.Shelf.Unicode.Latin
import Derived.Shelf.Unicode.Decode
import Derived.Shelf.Unicode.DecodeSlow
import Derived.Shelf.Unicode.DecodeAny
import Derived.Shelf.Unicode.Is16White
import Derived.Shelf.Unicode.IsSpaceAny
import Derived.Shelf.Unicode.DecodeLast
import Derived.Shelf.Strings.TrimSpaceAny
import Derived.Shelf.Unicode.CaseLookup
import Derived.Shelf.Unicode.CaseConvert
import Derived.Shelf.Unicode.CaseTo
import Derived.Shelf.Unicode.CaseLaid
import Derived.Shelf.Strings.MapAny
import Derived.Shelf.Strings.CaseAny
import Derived.Shelf.Unicode.Is16Any
import Derived.Shelf.Unicode.Is32Any
import Derived.Shelf.Unicode.ExclAny
import Derived.Shelf.Strings.FuncGrows
import Derived.Shelf.Slices.Turned
import Derived.Shelf.SlSortFunc.Xorshift
import Derived.Shelf.SlSortFuncK.ComposeK
import Derived.Shelf.SlSortFuncK.SiftDownK
import Derived.Shelf.SlSortFuncK.HeapSortK
import Derived.Shelf.SlSortFuncK.PartialInsertionK
import Derived.Shelf.SlSortFuncK.LotDK
import Derived.Shelf.SlSortFuncK.PivotK
import Derived.Shelf.SlSortFuncK.PartitionK
import Derived.Shelf.SlSortFuncK.PdqK
import Derived.Shelf.SlSortFuncK.WholeK
import Derived.Test.YtididniafloogaaGreatDoorProg
namespace Go.Proofs
open Go.Shelf
def Tryz.lays169_ren : Go.Shelf.Ren := ⟨fun | 169 => 103 | n => n, fun | 70 => 139 | 9 => 9 | 0 => 0 | 72 => 142 | 37 => 140 | 127 => 178 | 3 => 3 | 5 => 5 | n => n, fun | n => n⟩
theorem Tryz.lays169 : Go.Proofs.Lays.n169 Tryz.prog Tryz.lays169_ren := {
  mixed := by kernel_rfl
  f169 := Tryz.func103.trans (congrArg some (by kernel_rfl))
  t0 := Tryz.underlying0
  a0 := Tryz.isAgg0
  z0 := Tryz.sizeOf0
  v0 := Tryz.zeroValue0
  t3 := Tryz.underlying3
  a3 := Tryz.isAgg3
  z3 := Tryz.sizeOf3
  v3 := Tryz.zeroValue3
  t9 := Tryz.underlying9
  a9 := Tryz.isAgg9
  z9 := Tryz.sizeOf9
  v9 := Tryz.zeroValue9
  t37 := Tryz.underlying140
  a37 := Tryz.isAgg140
  z37 := Tryz.sizeOf140
  v37 := Tryz.zeroValue140
  t70 := Tryz.underlying139
  a70 := Tryz.isAgg139
  z70 := Tryz.sizeOf139
  v70 := Tryz.zeroValue139
  t72 := Tryz.underlying142
  a72 := Tryz.isAgg142
  z72 := Tryz.sizeOf142
  v72 := Tryz.zeroValue142
  t127 := Tryz.underlying178
  a127 := Tryz.isAgg178
  z127 := Tryz.sizeOf178
  v127 := Tryz.zeroValue178 }
theorem Tryz.Builder_Extra_169 : Builder.Extra Tryz.prog Tryz.lays169_ren := {
  sizeBuilder := by kernel_rfl
  liesBuilder := by kernel_rfl
  t5 := Tryz.underlying5
  a5 := Tryz.isAgg5
  z5 := Tryz.sizeOf5
  v5 := Tryz.zeroValue5
  infoByte := by kernel_rfl
  cellsByte := by kernel_rfl
  sizeByte := by kernel_rfl
  neB5 := by decide }
open Go.RowKit in
/-- (*strings.Builder).String: "String returns the accumulated string.": OF A BUILDER THAT HOLDS AT LEAST ONE BYTE. ✋ THE MODEL FREEZES THOSE BYTES IN THE BUFFER (unsafe.String): a later write INTO them ends the model's run without an answer; a later append BEHIND them goes on. The statement's order of evaluation is drawn: one draw. (LAID: no walk: one application.) -/
theorem Tryz.Builder_String (B b : Nat) (l : List UInt8) (w : World) (h : Lib.IsBuilder 142 5 B b (Lib.byteCells l) w) (h0 : l ≠ []) :
    Calls Tryz.prog 103 #[.pointer (some ⟨b, 0, none⟩)] w fun e w' => e = .returned (.string ⟨l.toArray⟩) ∧ Below B w w' := Any.Builder_String Tryz.lays169 Tryz.Builder_Extra_169 B b l w h h0
open Go.RowKit in
/-- (*strings.Builder).String OF A BUILDER THAT HOLDS NO BYTE: the empty string. (Its buffer is nil, or a row of which it has taken nothing yet; where that row has NO capacity the model lays one new block for unsafe.SliceData's 'some address'.) One draw. (LAID: no walk: one application.) -/
theorem Tryz.Builder_String_empty (B b : Nat) (w : World) (h : Lib.IsBuilder 142 5 B b [] w) (hBw : B ≤ w.heap.size) :
    Calls Tryz.prog 103 #[.pointer (some ⟨b, 0, none⟩)] w fun e w' => e = .returned (.string ⟨#[]⟩) ∧ Below B w w' := Any.Builder_String_empty Tryz.lays169 Tryz.Builder_Extra_169 B b w h hBw
open Go.RowKit in
/-- (*strings.Builder).String: "String returns the accumulated string.": WHATEVER THE BUILDER HOLDS. (LAID: no walk: one application.) -/
theorem Tryz.Builder_String_any (B b : Nat) (l : List UInt8) (w : World) (h : Lib.IsBuilder 142 5 B b (Lib.byteCells l) w) (hBw : B ≤ w.heap.size) :
    Calls Tryz.prog 103 #[.pointer (some ⟨b, 0, none⟩)] w fun e w' => e = .returned (.string ⟨l.toArray⟩) ∧ Below B w w' := Any.Builder_String_any Tryz.lays169 Tryz.Builder_Extra_169 B b l w h hBw
def Tryz.lays241_ren : Go.Shelf.Ren := ⟨fun | 241 => 137 | 277 => 156 | n => n, fun | 70 => 139 | 3 => 3 | 0 => 0 | 72 => 142 | 37 => 140 | 5 => 5 | n => n, fun | n => n⟩
theorem Tryz.lays241 : Go.Proofs.Lays.n241 Tryz.prog Tryz.lays241_ren := {
  mixed := by kernel_rfl
  f241 := Tryz.func137.trans (congrArg some (by kernel_rfl))
  f277 := Tryz.func156.trans (congrArg some (by kernel_rfl))
  t0 := Tryz.underlying0
  a0 := Tryz.isAgg0
  z0 := Tryz.sizeOf0
  v0 := Tryz.zeroValue0
  t3 := Tryz.underlying3
  a3 := Tryz.isAgg3
  z3 := Tryz.sizeOf3
  v3 := Tryz.zeroValue3
  t37 := Tryz.underlying140
  a37 := Tryz.isAgg140
  z37 := Tryz.sizeOf140
  v37 := Tryz.zeroValue140
  t70 := Tryz.underlying139
  a70 := Tryz.isAgg139
  z70 := Tryz.sizeOf139
  v70 := Tryz.zeroValue139
  t72 := Tryz.underlying142
  a72 := Tryz.isAgg142
  z72 := Tryz.sizeOf142
  v72 := Tryz.zeroValue142 }
theorem Tryz.Builder_Extra_241 : Builder.Extra Tryz.prog Tryz.lays241_ren := {
  sizeBuilder := by kernel_rfl
  liesBuilder := by kernel_rfl
  t5 := Tryz.underlying5
  a5 := Tryz.isAgg5
  z5 := Tryz.sizeOf5
  v5 := Tryz.zeroValue5
  infoByte := by kernel_rfl
  cellsByte := by kernel_rfl
  sizeByte := by kernel_rfl
  neB5 := by decide }
open Go.RowKit in
/-- (*strings.Builder).grow (no doc but "grow copies the buffer to a new, larger buffer so that there are at least n bytes of capacity beyond len(b.buf)."): AT A BUILDER WITHOUT A BUFFER: a new row of whatever bytes for its buffer, none of them its own yet. Three draws. (LAID: no walk: one application.) -/
theorem Tryz.Builder_grow_fresh (B b n : Nat) (w : World) (hB : B ≤ b) (hbk : w.heap[b]? = some (.cells #[.pointer (some ⟨b, 0, none⟩), .slice none 0 0] 142 (0, 0))) (hBw : B ≤ w.heap.size) (hn : n ≤ 281474976710656) :
    Calls Tryz.prog 137 #[.pointer (some ⟨b, 0, none⟩), .int .i64 n] w fun e w' => e = .returned (.tuple #[]) ∧ (Lib.BuilderAt 142 5 B b (.pointer (some ⟨b, 0, none⟩)) [] w' ∧ Below B w w') := Any.Builder_grow_fresh Tryz.lays241 Tryz.Builder_Extra_241 B b n w hB hbk hBw hn
def Tryz.lays165_ren : Go.Shelf.Ren := ⟨fun | 165 => 100 | 240 => 136 | 241 => 137 | 276 => 155 | 277 => 156 | n => n, fun | 70 => 139 | 3 => 3 | 0 => 0 | 4 => 4 | 9 => 9 | 20 => 20 | 72 => 142 | 37 => 140 | 164 => 124 | 5 => 5 | n => n, fun | n => n⟩
theorem Tryz.lays165 : Go.Proofs.Lays.n165 Tryz.prog Tryz.lays165_ren := {
  mixed := by kernel_rfl
  f165 := Tryz.func100.trans (congrArg some (by kernel_rfl))
  f240 := Tryz.func136.trans (congrArg some (by kernel_rfl))
  f241 := Tryz.func137.trans (congrArg some (by kernel_rfl))
  f276 := Tryz.func155.trans (congrArg some (by kernel_rfl))
  f277 := Tryz.func156.trans (congrArg some (by kernel_rfl))
  t0 := Tryz.underlying0
  a0 := Tryz.isAgg0
  z0 := Tryz.sizeOf0
  v0 := Tryz.zeroValue0
  t3 := Tryz.underlying3
  a3 := Tryz.isAgg3
  z3 := Tryz.sizeOf3
  v3 := Tryz.zeroValue3
  t4 := Tryz.underlying4
  a4 := Tryz.isAgg4
  z4 := Tryz.sizeOf4
  v4 := Tryz.zeroValue4
  t9 := Tryz.underlying9
  a9 := Tryz.isAgg9
  z9 := Tryz.sizeOf9
  v9 := Tryz.zeroValue9
  t20 := Tryz.underlying20
  a20 := Tryz.isAgg20
  z20 := Tryz.sizeOf20
  v20 := Tryz.zeroValue20
  t37 := Tryz.underlying140
  a37 := Tryz.isAgg140
  z37 := Tryz.sizeOf140
  v37 := Tryz.zeroValue140
  t70 := Tryz.underlying139
  a70 := Tryz.isAgg139
  z70 := Tryz.sizeOf139
  v70 := Tryz.zeroValue139
  t72 := Tryz.underlying142
  a72 := Tryz.isAgg142
  z72 := Tryz.sizeOf142
  v72 := Tryz.zeroValue142
  t164 := Tryz.underlying124
  a164 := Tryz.isAgg124
  z164 := Tryz.sizeOf124
  v164 := Tryz.zeroValue124 }
theorem Tryz.Builder_Extra_165 : Builder.Extra Tryz.prog Tryz.lays165_ren := {
  sizeBuilder := by kernel_rfl
  liesBuilder := by kernel_rfl
  t5 := Tryz.underlying5
  a5 := Tryz.isAgg5
  z5 := Tryz.sizeOf5
  v5 := Tryz.zeroValue5
  infoByte := by kernel_rfl
  cellsByte := by kernel_rfl
  sizeByte := by kernel_rfl
  neB5 := by decide }
open Go.RowKit in
/-- (*strings.Builder).Grow AT A BUILDER THAT HAS NOT BEEN WRITTEN ('var b strings.Builder; b.Grow(n)'): "Grow grows b's capacity, if necessary, to guarantee space for another n bytes.": it holds no byte behind it as before it. (LAID: no walk: one application.) -/
theorem Tryz.Builder_Grow_fresh (B b n : Nat) (w : World) (hB : B ≤ b) (hbk : w.heap[b]? = some (.cells #[.pointer none, .slice none 0 0] 142 (0, 0))) (hBw : B ≤ w.heap.size) (hn : n ≤ 281474976710656) :
    Calls Tryz.prog 100 #[.pointer (some ⟨b, 0, none⟩), .int .i64 n] w fun e w' => e = .returned (.tuple #[]) ∧ (Lib.BuilderAt 142 5 B b (.pointer (some ⟨b, 0, none⟩)) [] w' ∧ Below B w w') := Any.Builder_Grow_fresh Tryz.lays165 Tryz.Builder_Extra_165 B b n w hB hbk hBw hn
def Tryz.lays159_ren : Go.Shelf.Ren := ⟨fun | 159 => 83 | 165 => 100 | 166 => 101 | 167 => 102 | 169 => 103 | 230 => 104 | 204 => 105 | 240 => 136 | 241 => 137 | 197 => 138 | 118 => 139 | 168 => 140 | 270 => 141 | 262 => 142 | 276 => 155 | 277 => 156 | 260 => 157 | 242 => 158 | 313 => 159 | 278 => 175 | 274 => 176 | 275 => 177 | n => n, fun | 9 => 9 | 4 => 4 | 3 => 3 | 5 => 5 | 72 => 142 | 0 => 0 | 76 => 144 | 75 => 104 | 107 => 149 | 70 => 139 | 20 => 20 | 37 => 140 | 127 => 178 | 21 => 21 | 105 => 179 | 164 => 124 | 162 => 202 | 203 => 200 | 119 => 152 | 46 => 133 | 139 => 226 | 138 => 225 | 51 => 163 | 160 => 227 | 208 => 240 | 206 => 238 | 80 => 147 | n => n, fun | 13 => 4 | 3 => 6 | 4 => 7 | n => n⟩
theorem Tryz.lays159 : Go.Proofs.Lays.n159 Tryz.prog Tryz.lays159_ren := {
  mixed := by kernel_rfl
  f118 := Tryz.func139.trans (congrArg some (by kernel_rfl))
  f159 := Tryz.func83.trans (congrArg some (by kernel_rfl))
  f165 := Tryz.func100.trans (congrArg some (by kernel_rfl))
  f166 := Tryz.func101.trans (congrArg some (by kernel_rfl))
  f167 := Tryz.func102.trans (congrArg some (by kernel_rfl))
  f168 := Tryz.func140.trans (congrArg some (by kernel_rfl))
  f169 := Tryz.func103.trans (congrArg some (by kernel_rfl))
  f197 := Tryz.func138.trans (congrArg some (by kernel_rfl))
  f204 := Tryz.func105.trans (congrArg some (by kernel_rfl))
  f230 := Tryz.func104.trans (congrArg some (by kernel_rfl))
  f240 := Tryz.func136.trans (congrArg some (by kernel_rfl))
  f241 := Tryz.func137.trans (congrArg some (by kernel_rfl))
  f242 := Tryz.func158.trans (congrArg some (by kernel_rfl))
  f260 := Tryz.func157.trans (congrArg some (by kernel_rfl))
  f262 := Tryz.func142.trans (congrArg some (by kernel_rfl))
  f270 := Tryz.func141.trans (congrArg some (by kernel_rfl))
  f274 := Tryz.func176.trans (congrArg some (by kernel_rfl))
  f275 := Tryz.func177.trans (congrArg some (by kernel_rfl))
  f276 := Tryz.func155.trans (congrArg some (by kernel_rfl))
  f277 := Tryz.func156.trans (congrArg some (by kernel_rfl))
  f278 := Tryz.func175.trans (congrArg some (by kernel_rfl))
  f313 := Tryz.func159.trans (congrArg some (by kernel_rfl))
  t0 := Tryz.underlying0
  a0 := Tryz.isAgg0
  z0 := Tryz.sizeOf0
  v0 := Tryz.zeroValue0
  t3 := Tryz.underlying3
  a3 := Tryz.isAgg3
  z3 := Tryz.sizeOf3
  v3 := Tryz.zeroValue3
  t4 := Tryz.underlying4
  a4 := Tryz.isAgg4
  z4 := Tryz.sizeOf4
  v4 := Tryz.zeroValue4
  t5 := Tryz.underlying5
  a5 := Tryz.isAgg5
  z5 := Tryz.sizeOf5
  v5 := Tryz.zeroValue5
  t9 := Tryz.underlying9
  a9 := Tryz.isAgg9
  z9 := Tryz.sizeOf9
  v9 := Tryz.zeroValue9
  t20 := Tryz.underlying20
  a20 := Tryz.isAgg20
  z20 := Tryz.sizeOf20
  v20 := Tryz.zeroValue20
  t21 := Tryz.underlying21
  a21 := Tryz.isAgg21
  z21 := Tryz.sizeOf21
  v21 := Tryz.zeroValue21
  t37 := Tryz.underlying140
  a37 := Tryz.isAgg140
  z37 := Tryz.sizeOf140
  v37 := Tryz.zeroValue140
  t46 := Tryz.underlying133
  a46 := Tryz.isAgg133
  z46 := Tryz.sizeOf133
  v46 := Tryz.zeroValue133
  t51 := Tryz.underlying163
  a51 := Tryz.isAgg163
  z51 := Tryz.sizeOf163
  v51 := Tryz.zeroValue163
  t70 := Tryz.underlying139
  a70 := Tryz.isAgg139
  z70 := Tryz.sizeOf139
  v70 := Tryz.zeroValue139
  t72 := Tryz.underlying142
  a72 := Tryz.isAgg142
  z72 := Tryz.sizeOf142
  v72 := Tryz.zeroValue142
  t75 := Tryz.underlying104
  a75 := Tryz.isAgg104
  z75 := Tryz.sizeOf104
  v75 := Tryz.zeroValue104
  t76 := Tryz.underlying144
  a76 := Tryz.isAgg144
  z76 := Tryz.sizeOf144
  v76 := Tryz.zeroValue144
  t105 := Tryz.underlying179
  a105 := Tryz.isAgg179
  z105 := Tryz.sizeOf179
  v105 := Tryz.zeroValue179
  t107 := Tryz.underlying149
  a107 := Tryz.isAgg149
  z107 := Tryz.sizeOf149
  v107 := Tryz.zeroValue149
  t119 := Tryz.underlying152
  a119 := Tryz.isAgg152
  z119 := Tryz.sizeOf152
  t127 := Tryz.underlying178
  a127 := Tryz.isAgg178
  z127 := Tryz.sizeOf178
  v127 := Tryz.zeroValue178
  t138 := Tryz.underlying225
  a138 := Tryz.isAgg225
  z138 := Tryz.sizeOf225
  v138 := Tryz.zeroValue225
  t139 := Tryz.underlying226
  a139 := Tryz.isAgg226
  z139 := Tryz.sizeOf226
  v139 := Tryz.zeroValue226
  t160 := Tryz.underlying227
  a160 := Tryz.isAgg227
  z160 := Tryz.sizeOf227
  v160 := Tryz.zeroValue227
  t162 := Tryz.underlying202
  a162 := Tryz.isAgg202
  z162 := Tryz.sizeOf202
  v162 := Tryz.zeroValue202
  t164 := Tryz.underlying124
  a164 := Tryz.isAgg124
  z164 := Tryz.sizeOf124
  v164 := Tryz.zeroValue124
  t203 := Tryz.underlying200
  a203 := Tryz.isAgg200
  z203 := Tryz.sizeOf200
  v203 := Tryz.zeroValue200
  t206 := Tryz.underlying238
  a206 := Tryz.isAgg238
  z206 := Tryz.sizeOf238
  v206 := Tryz.zeroValue238
  t208 := Tryz.underlying240
  a208 := Tryz.isAgg240
  z208 := Tryz.sizeOf240
  v208 := Tryz.zeroValue240
  g3 := by kernel_rfl
  g4 := by kernel_rfl
  g13 := by kernel_rfl }
theorem Tryz.Builder_Extra_159 : Builder.Extra Tryz.prog Tryz.lays159_ren := {
  sizeBuilder := by kernel_rfl
  liesBuilder := by kernel_rfl
  t5 := Tryz.underlying5
  a5 := Tryz.isAgg5
  z5 := Tryz.sizeOf5
  v5 := Tryz.zeroValue5
  infoByte := by kernel_rfl
  cellsByte := by kernel_rfl
  sizeByte := by kernel_rfl
  neB5 := by decide }
open Go.RowKit in
/-- strings.ToLower: "ToLower returns s with all Unicode letters mapped to their lower case.": ON ASCII TEXT OF AT MOST 2^47 BYTES. Below the heap's end the world is as it was: where a letter turns, the call makes a builder and its buffer. (LAID: no walk: one application.) -/
theorem Tryz.strings_ToLower_ascii (s : ByteArray) (w : World) (hs : s.size ≤ 140737488355328) (hascii : ∀ (j : Nat) (b : UInt8), s.data.toList[j]? = some b → b.toNat < 128) :
    Calls Tryz.prog 83 #[.string s] w fun e w' => e = .returned (.string ⟨(Lib.toLowerA s.data.toList).toArray⟩) ∧ Below w.heap.size w w' := Any.strings_ToLower_ascii Tryz.lays159 Tryz.Builder_Extra_159 s w hs hascii
def Tryz.lays163_ren : Go.Shelf.Ren := ⟨fun | 163 => 84 | 237 => 106 | 199 => 107 | 238 => 108 | 272 => 143 | 261 => 144 | 273 => 145 | 197 => 138 | 315 => 160 | 311 => 161 | 312 => 162 | 271 => 163 | 260 => 157 | 120 => 178 | n => n, fun | 9 => 9 | 37 => 140 | 3 => 3 | 0 => 0 | 5 => 5 | 4 => 4 | 40 => 151 | 119 => 152 | 21 => 21 | 51 => 163 | 141 => 185 | 105 => 179 | 196 => 206 | 193 => 203 | 198 => 209 | 49 => 207 | 194 => 204 | 201 => 212 | 226 => 230 | 46 => 133 | 227 => 231 | 139 => 226 | 138 => 225 | n => n, fun | 0 => 0 | 6 => 1 | 3 => 6 | 4 => 7 | n => n⟩
theorem Tryz.lays163 : Go.Proofs.Lays.n163 Tryz.prog Tryz.lays163_ren := {
  mixed := by kernel_rfl
  f120 := Tryz.func178.trans (congrArg some (by kernel_rfl))
  f163 := Tryz.func84.trans (congrArg some (by kernel_rfl))
  f197 := Tryz.func138.trans (congrArg some (by kernel_rfl))
  f199 := Tryz.func107.trans (congrArg some (by kernel_rfl))
  f237 := Tryz.func106.trans (congrArg some (by kernel_rfl))
  f238 := Tryz.func108.trans (congrArg some (by kernel_rfl))
  f260 := Tryz.func157.trans (congrArg some (by kernel_rfl))
  f261 := Tryz.func144.trans (congrArg some (by kernel_rfl))
  f271 := Tryz.func163.trans (congrArg some (by kernel_rfl))
  f272 := Tryz.func143.trans (congrArg some (by kernel_rfl))
  f273 := Tryz.func145.trans (congrArg some (by kernel_rfl))
  f311 := Tryz.func161.trans (congrArg some (by kernel_rfl))
  f312 := Tryz.func162.trans (congrArg some (by kernel_rfl))
  f315 := Tryz.func160.trans (congrArg some (by kernel_rfl))
  t0 := Tryz.underlying0
  a0 := Tryz.isAgg0
  z0 := Tryz.sizeOf0
  v0 := Tryz.zeroValue0
  t3 := Tryz.underlying3
  a3 := Tryz.isAgg3
  z3 := Tryz.sizeOf3
  v3 := Tryz.zeroValue3
  t4 := Tryz.underlying4
  a4 := Tryz.isAgg4
  z4 := Tryz.sizeOf4
  v4 := Tryz.zeroValue4
  t5 := Tryz.underlying5
  a5 := Tryz.isAgg5
  z5 := Tryz.sizeOf5
  v5 := Tryz.zeroValue5
  t9 := Tryz.underlying9
  a9 := Tryz.isAgg9
  z9 := Tryz.sizeOf9
  v9 := Tryz.zeroValue9
  t21 := Tryz.underlying21
  a21 := Tryz.isAgg21
  z21 := Tryz.sizeOf21
  v21 := Tryz.zeroValue21
  t37 := Tryz.underlying140
  a37 := Tryz.isAgg140
  z37 := Tryz.sizeOf140
  v37 := Tryz.zeroValue140
  t40 := Tryz.underlying151
  a40 := Tryz.isAgg151
  z40 := Tryz.sizeOf151
  v40 := Tryz.zeroValue151
  t46 := Tryz.underlying133
  a46 := Tryz.isAgg133
  z46 := Tryz.sizeOf133
  v46 := Tryz.zeroValue133
  t49 := Tryz.underlying207
  a49 := Tryz.isAgg207
  z49 := Tryz.sizeOf207
  v49 := Tryz.zeroValue207
  t51 := Tryz.underlying163
  a51 := Tryz.isAgg163
  z51 := Tryz.sizeOf163
  v51 := Tryz.zeroValue163
  t105 := Tryz.underlying179
  a105 := Tryz.isAgg179
  z105 := Tryz.sizeOf179
  v105 := Tryz.zeroValue179
  t119 := Tryz.underlying152
  a119 := Tryz.isAgg152
  z119 := Tryz.sizeOf152
  t138 := Tryz.underlying225
  a138 := Tryz.isAgg225
  z138 := Tryz.sizeOf225
  v138 := Tryz.zeroValue225
  t139 := Tryz.underlying226
  a139 := Tryz.isAgg226
  z139 := Tryz.sizeOf226
  v139 := Tryz.zeroValue226
  t141 := Tryz.underlying185
  a141 := Tryz.isAgg185
  z141 := Tryz.sizeOf185
  v141 := Tryz.zeroValue185
  t193 := Tryz.underlying203
  a193 := Tryz.isAgg203
  z193 := Tryz.sizeOf203
  v193 := Tryz.zeroValue203
  t194 := Tryz.underlying204
  a194 := Tryz.isAgg204
  z194 := Tryz.sizeOf204
  v194 := Tryz.zeroValue204
  t196 := Tryz.underlying206
  a196 := Tryz.isAgg206
  z196 := Tryz.sizeOf206
  v196 := Tryz.zeroValue206
  t198 := Tryz.underlying209
  a198 := Tryz.isAgg209
  z198 := Tryz.sizeOf209
  v198 := Tryz.zeroValue209
  t201 := Tryz.underlying212
  a201 := Tryz.isAgg212
  z201 := Tryz.sizeOf212
  v201 := Tryz.zeroValue212
  t226 := Tryz.underlying230
  a226 := Tryz.isAgg230
  z226 := Tryz.sizeOf230
  v226 := Tryz.zeroValue230
  t227 := Tryz.underlying231
  a227 := Tryz.isAgg231
  z227 := Tryz.sizeOf231
  v227 := Tryz.zeroValue231
  g0 := by kernel_rfl
  g3 := by kernel_rfl
  g4 := by kernel_rfl
  g6 := by kernel_rfl }
theorem Tryz.Space_Extra_163 : Space.Extra Tryz.prog Tryz.lays163_ren := {
  gNamed := by kernel_rfl }
open Go.RowKit in
theorem Tryz.strings_TrimSpace (s : ByteArray) (w : World) (hs : s.size ≤ 9223372036854775807) (hascii : ∀ (j : Nat) b, s.data.toList[j]? = some b → b.toNat < 128) (htab : Lib.TabIs Tryz.prog w "strings.asciiSpace" .u8 Lib.asciiSpaceTab) :
    Calls Tryz.prog 84 #[.string s] w fun e w' => e = .returned (.string ⟨(Lib.trimSpace s.data.toList).toArray⟩) ∧ w' = Lib.bytesWorld w 5 s := Any.strings_TrimSpace Tryz.lays163 Tryz.Space_Extra_163 s w hs hascii htab
def Tryz.lays118_ren : Go.Shelf.Ren := ⟨fun | 118 => 139 | n => n, fun | 21 => 21 | 3 => 3 | 4 => 4 | n => n, fun | n => n⟩
theorem Tryz.lays118 : Go.Proofs.Lays.n118 Tryz.prog Tryz.lays118_ren := {
  mixed := by kernel_rfl
  f118 := Tryz.func139.trans (congrArg some (by kernel_rfl))
  t3 := Tryz.underlying3
  a3 := Tryz.isAgg3
  z3 := Tryz.sizeOf3
  v3 := Tryz.zeroValue3
  t4 := Tryz.underlying4
  a4 := Tryz.isAgg4
  z4 := Tryz.sizeOf4
  v4 := Tryz.zeroValue4
  t21 := Tryz.underlying21
  a21 := Tryz.isAgg21
  z21 := Tryz.sizeOf21
  v21 := Tryz.zeroValue21 }
/-- utf8.RuneLen: "RuneLen returns the number of bytes in the UTF-8 encoding of the rune. It returns -1 if the rune is not a valid value to encode in UTF-8.": IT RETURNS 'Lib.runeLen r'; the world is as it was. (LAID: no walk: one application.) -/
theorem Tryz.utf8_RuneLen (r : Int) (w : World) :
    Calls Tryz.prog 139 #[.int .i32 r] w fun e w' => e = .returned (.int .i64 (Lib.runeLen r)) ∧ w' = w := Any.utf8_RuneLen Tryz.lays118 r w
def Tryz.lays120_ren : Go.Shelf.Ren := ⟨fun | 120 => 178 | n => n, fun | 5 => 5 | 4 => 4 | n => n, fun | n => n⟩
theorem Tryz.lays120 : Go.Proofs.Lays.n120 Tryz.prog Tryz.lays120_ren := {
  mixed := by kernel_rfl
  f120 := Tryz.func178.trans (congrArg some (by kernel_rfl))
  t4 := Tryz.underlying4
  a4 := Tryz.isAgg4
  z4 := Tryz.sizeOf4
  v4 := Tryz.zeroValue4
  t5 := Tryz.underlying5
  a5 := Tryz.isAgg5
  z5 := Tryz.sizeOf5
  v5 := Tryz.zeroValue5 }
/-- utf8.RuneStart: "RuneStart reports whether the byte could be the first byte of an encoded, possibly invalid rune. Second and subsequent bytes always have the top two bits set to 10.": IT RETURNS 'Lib.runeStart b'; the world is as it was. ('h0', 'h1': b is a byte: a caller has it of every byte that it was handed.) (LAID: no walk: one application.) -/
theorem Tryz.utf8_RuneStart (b : Int) (w : World) (h0 : 0 ≤ b) (h1 : b < 256) :
    Calls Tryz.prog 178 #[.int .u8 b] w fun e w' => e = .returned (.bool (Lib.runeStart b)) ∧ w' = w := Any.utf8_RuneStart Tryz.lays120 b w h0 h1
def Tryz.lays128_ren : Go.Shelf.Ren := ⟨fun | 128 => 121 | n => n, fun | 51 => 163 | 3 => 3 | 4 => 4 | 46 => 133 | 5 => 5 | 9 => 9 | n => n, fun | n => n⟩
theorem Tryz.lays128 : Go.Proofs.Lays.n128 Tryz.prog Tryz.lays128_ren := {
  mixed := by kernel_rfl
  f128 := Tryz.func121.trans (congrArg some (by kernel_rfl))
  t3 := Tryz.underlying3
  a3 := Tryz.isAgg3
  z3 := Tryz.sizeOf3
  v3 := Tryz.zeroValue3
  t4 := Tryz.underlying4
  a4 := Tryz.isAgg4
  z4 := Tryz.sizeOf4
  v4 := Tryz.zeroValue4
  t5 := Tryz.underlying5
  a5 := Tryz.isAgg5
  z5 := Tryz.sizeOf5
  v5 := Tryz.zeroValue5
  t9 := Tryz.underlying9
  a9 := Tryz.isAgg9
  z9 := Tryz.sizeOf9
  v9 := Tryz.zeroValue9
  t46 := Tryz.underlying133
  a46 := Tryz.isAgg133
  z46 := Tryz.sizeOf133
  v46 := Tryz.zeroValue133
  t51 := Tryz.underlying163
  a51 := Tryz.isAgg163
  z51 := Tryz.sizeOf163
  v51 := Tryz.zeroValue163 }
/-- bits.Len32: "Len32 returns the minimum number of bits required to represent x; the result is 0 for x == 0.": IT RETURNS 'Lib.bitLen x'; the world is as it was. ('h0', 'h1': x is a uint32.) (LAID: no walk: one application.) -/
theorem Tryz.bits_Len32 (x : Int) (w : World) (h0 : 0 ≤ x) (h1 : x ≤ 4294967295) :
    Calls Tryz.prog 121 #[.int .u32 x] w fun e w' => e = .returned (.int .i64 (Lib.bitLen x.toNat)) ∧ w' = w := Any.bits_Len32 Tryz.lays128 x w h0 h1
def Tryz.lays125_ren : Go.Shelf.Ren := ⟨fun | 125 => 95 | 128 => 121 | 129 => 122 | n => n, fun | 46 => 133 | 3 => 3 | 51 => 163 | 53 => 165 | 4 => 4 | 5 => 5 | 9 => 9 | n => n, fun | n => n⟩
theorem Tryz.lays125 : Go.Proofs.Lays.n125 Tryz.prog Tryz.lays125_ren := {
  mixed := by kernel_rfl
  f125 := Tryz.func95.trans (congrArg some (by kernel_rfl))
  f128 := Tryz.func121.trans (congrArg some (by kernel_rfl))
  f129 := Tryz.func122.trans (congrArg some (by kernel_rfl))
  t3 := Tryz.underlying3
  a3 := Tryz.isAgg3
  z3 := Tryz.sizeOf3
  v3 := Tryz.zeroValue3
  t4 := Tryz.underlying4
  a4 := Tryz.isAgg4
  z4 := Tryz.sizeOf4
  v4 := Tryz.zeroValue4
  t5 := Tryz.underlying5
  a5 := Tryz.isAgg5
  z5 := Tryz.sizeOf5
  v5 := Tryz.zeroValue5
  t9 := Tryz.underlying9
  a9 := Tryz.isAgg9
  z9 := Tryz.sizeOf9
  v9 := Tryz.zeroValue9
  t46 := Tryz.underlying133
  a46 := Tryz.isAgg133
  z46 := Tryz.sizeOf133
  v46 := Tryz.zeroValue133
  t51 := Tryz.underlying163
  a51 := Tryz.isAgg163
  z51 := Tryz.sizeOf163
  v51 := Tryz.zeroValue163
  t53 := Tryz.underlying165
  a53 := Tryz.isAgg165
  z53 := Tryz.sizeOf165
  v53 := Tryz.zeroValue165 }
/-- bits.Len: "Len returns the minimum number of bits required to represent x; the result is 0 for x == 0.": IT RETURNS 'Lib.bitLen x'; the world is as it was. (A uint has 64 bits in the model.) ITS CALLEE bits.Len64 IS MET BY ITS OWN CONTRACT OFF THE SHELF (lay that first). (LAID: no walk: one application.) -/
theorem Tryz.bits_Len (x : Int) (w : World) (h0 : 0 ≤ x) (h1 : x ≤ 18446744073709551615) :
    Calls Tryz.prog 95 #[.int .u64 x] w fun e w' => e = .returned (.int .i64 (Lib.bitLen x.toNat)) ∧ w' = w := Any.bits_Len Tryz.lays125 x w h0 h1
open Go.RowKit in
/-- (*strings.Builder).String: "String returns the accumulated string.": OF A BUILDER THAT HOLDS AT LEAST ONE BYTE. ✋ THE MODEL FREEZES THOSE BYTES IN THE BUFFER (unsafe.String): a later write INTO them ends the model's run without an answer; a later append BEHIND them goes on. The statement's order of evaluation is drawn: one draw. THE FORM '_f': IT SAYS BESIDES THAT THE BUILDER IS A BUILDER STILL ('Lib.IsBuilderF', the same bytes): SO IT CAN BE WRITTEN ON: 'b.WriteString(b.String()[:k])'. (LAID: no walk: one application.) -/
theorem Tryz.Builder_String_f (B b : Nat) (l : List UInt8) (w : World) (h : Lib.IsBuilderF 142 5 B b (Lib.byteCells l) w) (h0 : l ≠ []) :
    Calls Tryz.prog 103 #[.pointer (some ⟨b, 0, none⟩)] w fun e w' => e = .returned (.string ⟨l.toArray⟩) ∧ (Lib.IsBuilderF 142 5 B b (Lib.byteCells l) w' ∧ Below B w w') := Any.Builder_String_f Tryz.lays169 Tryz.Builder_Extra_169 B b l w h h0
open Go.RowKit in
/-- (*strings.Builder).String OF A BUILDER THAT HOLDS NO BYTE: the empty string; THE FORM '_f': a builder still. (LAID: no walk: one application.) -/
theorem Tryz.Builder_String_empty_f (B b : Nat) (w : World) (h : Lib.IsBuilderF 142 5 B b [] w) (hBw : B ≤ w.heap.size) :
    Calls Tryz.prog 103 #[.pointer (some ⟨b, 0, none⟩)] w fun e w' => e = .returned (.string ⟨#[]⟩) ∧ (Lib.IsBuilderF 142 5 B b [] w' ∧ Below B w w') := Any.Builder_String_empty_f Tryz.lays169 Tryz.Builder_Extra_169 B b w h hBw
open Go.RowKit in
/-- (*strings.Builder).String: "String returns the accumulated string.": WHATEVER THE BUILDER HOLDS; THE FORM '_f': OF A BUILDER THAT MAY HAVE BEEN READ BEFORE; AND IT IS A BUILDER STILL, holding the same bytes: it can be written on. (LAID: no walk: one application.) -/
theorem Tryz.Builder_String_any_f (B b : Nat) (l : List UInt8) (w : World) (h : Lib.IsBuilderF 142 5 B b (Lib.byteCells l) w) (hBw : B ≤ w.heap.size) :
    Calls Tryz.prog 103 #[.pointer (some ⟨b, 0, none⟩)] w fun e w' => e = .returned (.string ⟨l.toArray⟩) ∧ (Lib.IsBuilderF 142 5 B b (Lib.byteCells l) w' ∧ Below B w w') := Any.Builder_String_any_f Tryz.lays169 Tryz.Builder_Extra_169 B b l w h hBw
open Go.RowKit in
/-- (*strings.Builder).String: "String returns the accumulated string.": OF A BUILDER THAT HOLDS AT LEAST ONE BYTE. ✋ THE MODEL FREEZES THOSE BYTES IN THE BUFFER (unsafe.String): a later write INTO them ends the model's run without an answer; a later append BEHIND them goes on. The statement's order of evaluation is drawn: one draw. THE FORM '_k': OVER 'Lib.IsBuilderF' (a builder that 'String()' may have read), AND WITH THE FRAME THAT REACHES ABOVE THE BUILDER: 'Lib.OthersKept': every block that is not b and is no row of uint8's stands as it stood: the iterator of a range among them. (LAID: no walk: one application.) -/
theorem Tryz.Builder_String_k (B b : Nat) (l : List UInt8) (w : World) (h : Lib.IsBuilderF 142 5 B b (Lib.byteCells l) w) (h0 : l ≠ []) :
    Calls Tryz.prog 103 #[.pointer (some ⟨b, 0, none⟩)] w fun e w' => e = .returned (.string ⟨l.toArray⟩) ∧ (Lib.IsBuilderF 142 5 B b (Lib.byteCells l) w' ∧ Below B w w' ∧ Lib.OthersKept 5 (some b) w w') := Any.Builder_String_k Tryz.lays169 Tryz.Builder_Extra_169 B b l w h h0
open Go.RowKit in
/-- (*strings.Builder).String OF A BUILDER THAT HOLDS NO BYTE: the empty string; THE FORM '_k': OVER 'Lib.IsBuilderF' (a builder that 'String()' may have read), AND WITH THE FRAME THAT REACHES ABOVE THE BUILDER: 'Lib.OthersKept': every block that is not b and is no row of uint8's stands as it stood: the iterator of a range among them. (LAID: no walk: one application.) -/
theorem Tryz.Builder_String_empty_k (B b : Nat) (w : World) (h : Lib.IsBuilderF 142 5 B b [] w) (hBw : B ≤ w.heap.size) :
    Calls Tryz.prog 103 #[.pointer (some ⟨b, 0, none⟩)] w fun e w' => e = .returned (.string ⟨#[]⟩) ∧ (Lib.IsBuilderF 142 5 B b [] w' ∧ Below B w w' ∧ Lib.OthersKept 5 (some b) w w') := Any.Builder_String_empty_k Tryz.lays169 Tryz.Builder_Extra_169 B b w h hBw
open Go.RowKit in
/-- (*strings.Builder).String: "String returns the accumulated string.": WHATEVER THE BUILDER HOLDS; THE FORM '_k': OVER 'Lib.IsBuilderF' (a builder that 'String()' may have read), AND WITH THE FRAME THAT REACHES ABOVE THE BUILDER: 'Lib.OthersKept': every block that is not b and is no row of uint8's stands as it stood: the iterator of a range among them. (LAID: no walk: one application.) -/
theorem Tryz.Builder_String_any_k (B b : Nat) (l : List UInt8) (w : World) (h : Lib.IsBuilderF 142 5 B b (Lib.byteCells l) w) (hBw : B ≤ w.heap.size) :
    Calls Tryz.prog 103 #[.pointer (some ⟨b, 0, none⟩)] w fun e w' => e = .returned (.string ⟨l.toArray⟩) ∧ (Lib.IsBuilderF 142 5 B b (Lib.byteCells l) w' ∧ Below B w w' ∧ Lib.OthersKept 5 (some b) w w') := Any.Builder_String_any_k Tryz.lays169 Tryz.Builder_Extra_169 B b l w h hBw
def Tryz.lays248_ren : Go.Shelf.Ren := ⟨fun | 248 => 98 | n => n, fun | 9 => 9 | 4 => 4 | 75 => 104 | 167 => 174 | 80 => 147 | n => n, fun | n => n⟩
theorem Tryz.lays248 : Go.Proofs.Lays.n248 Tryz.prog Tryz.lays248_ren := {
  mixed := by kernel_rfl
  f248 := Tryz.func98.trans (congrArg some (by kernel_rfl))
  t4 := Tryz.underlying4
  a4 := Tryz.isAgg4
  z4 := Tryz.sizeOf4
  v4 := Tryz.zeroValue4
  t9 := Tryz.underlying9
  a9 := Tryz.isAgg9
  z9 := Tryz.sizeOf9
  v9 := Tryz.zeroValue9
  t75 := Tryz.underlying104
  a75 := Tryz.isAgg104
  z75 := Tryz.sizeOf104
  v75 := Tryz.zeroValue104
  t167 := Tryz.underlying174
  a167 := Tryz.isAgg174
  z167 := Tryz.sizeOf174
  v167 := Tryz.zeroValue174 }
/-- internal/strconv.ParseBool, at a string that it accepts: the value, and no error. The world is as it was. (LAID: no walk: one application.) -/
theorem Tryz.internal_strconv_ParseBool (s : ByteArray) (b : Bool) (h : Lib.parseBool s.data.toList = some b) (w : World) :
    Calls Tryz.prog 98 #[.string s] w fun e w' => e = .returned (.tuple #[.bool b, .nilIface]) ∧ w' = w := Any.internal_strconv_ParseBool Tryz.lays248 s b h w
def Tryz.lays175_ren : Go.Shelf.Ren := ⟨fun | 175 => 82 | 248 => 98 | 245 => 99 | 279 => 132 | 280 => 133 | 281 => 134 | 282 => 135 | 316 => 153 | 171 => 154 | 205 => 90 | 243 => 174 | 246 => 185 | 283 => 187 | 284 => 188 | 285 => 189 | 286 => 190 | 129 => 122 | 317 => 191 | 318 => 192 | 319 => 193 | 320 => 194 | 337 => 195 | 338 => 196 | n => n, fun | 9 => 9 | 4 => 4 | 75 => 104 | 87 => 116 | 3 => 3 | 167 => 174 | 168 => 175 | 210 => 195 | 37 => 140 | 0 => 0 | 127 => 178 | 145 => 157 | 143 => 155 | 2 => 2 | 171 => 243 | 53 => 165 | 5 => 5 | 173 => 245 | 212 => 249 | 51 => 163 | 20 => 20 | 213 => 250 | 46 => 133 | 232 => 252 | 233 => 253 | 80 => 147 | n => n, fun | 15 => 2 | 16 => 3 | 17 => 8 | 18 => 9 | 19 => 10 | n => n⟩
theorem Tryz.lays175 : Go.Proofs.Lays.n175 Tryz.prog Tryz.lays175_ren := {
  mixed := by kernel_rfl
  f129 := Tryz.func122.trans (congrArg some (by kernel_rfl))
  f171 := Tryz.func154.trans (congrArg some (by kernel_rfl))
  f175 := Tryz.func82.trans (congrArg some (by kernel_rfl))
  f205 := Tryz.func90.trans (congrArg some (by kernel_rfl))
  f243 := Tryz.func174.trans (congrArg some (by kernel_rfl))
  f245 := Tryz.func99.trans (congrArg some (by kernel_rfl))
  f246 := Tryz.func185.trans (congrArg some (by kernel_rfl))
  f248 := Tryz.func98.trans (congrArg some (by kernel_rfl))
  f279 := Tryz.func132.trans (congrArg some (by kernel_rfl))
  f280 := Tryz.func133.trans (congrArg some (by kernel_rfl))
  f281 := Tryz.func134.trans (congrArg some (by kernel_rfl))
  f282 := Tryz.func135.trans (congrArg some (by kernel_rfl))
  f283 := Tryz.func187.trans (congrArg some (by kernel_rfl))
  f284 := Tryz.func188.trans (congrArg some (by kernel_rfl))
  f285 := Tryz.func189.trans (congrArg some (by kernel_rfl))
  f286 := Tryz.func190.trans (congrArg some (by kernel_rfl))
  f316 := Tryz.func153.trans (congrArg some (by kernel_rfl))
  f317 := Tryz.func191.trans (congrArg some (by kernel_rfl))
  f318 := Tryz.func192.trans (congrArg some (by kernel_rfl))
  f319 := Tryz.func193.trans (congrArg some (by kernel_rfl))
  f320 := Tryz.func194.trans (congrArg some (by kernel_rfl))
  f337 := Tryz.func195.trans (congrArg some (by kernel_rfl))
  f338 := Tryz.func196.trans (congrArg some (by kernel_rfl))
  t0 := Tryz.underlying0
  a0 := Tryz.isAgg0
  z0 := Tryz.sizeOf0
  v0 := Tryz.zeroValue0
  t2 := Tryz.underlying2
  a2 := Tryz.isAgg2
  z2 := Tryz.sizeOf2
  v2 := Tryz.zeroValue2
  t3 := Tryz.underlying3
  a3 := Tryz.isAgg3
  z3 := Tryz.sizeOf3
  v3 := Tryz.zeroValue3
  t4 := Tryz.underlying4
  a4 := Tryz.isAgg4
  z4 := Tryz.sizeOf4
  v4 := Tryz.zeroValue4
  t5 := Tryz.underlying5
  a5 := Tryz.isAgg5
  z5 := Tryz.sizeOf5
  v5 := Tryz.zeroValue5
  t9 := Tryz.underlying9
  a9 := Tryz.isAgg9
  z9 := Tryz.sizeOf9
  v9 := Tryz.zeroValue9
  t20 := Tryz.underlying20
  a20 := Tryz.isAgg20
  z20 := Tryz.sizeOf20
  v20 := Tryz.zeroValue20
  t37 := Tryz.underlying140
  a37 := Tryz.isAgg140
  z37 := Tryz.sizeOf140
  v37 := Tryz.zeroValue140
  t46 := Tryz.underlying133
  a46 := Tryz.isAgg133
  z46 := Tryz.sizeOf133
  v46 := Tryz.zeroValue133
  t51 := Tryz.underlying163
  a51 := Tryz.isAgg163
  z51 := Tryz.sizeOf163
  v51 := Tryz.zeroValue163
  t53 := Tryz.underlying165
  a53 := Tryz.isAgg165
  z53 := Tryz.sizeOf165
  v53 := Tryz.zeroValue165
  t75 := Tryz.underlying104
  a75 := Tryz.isAgg104
  z75 := Tryz.sizeOf104
  v75 := Tryz.zeroValue104
  t87 := Tryz.underlying116
  a87 := Tryz.isAgg116
  z87 := Tryz.sizeOf116
  v87 := Tryz.zeroValue116
  t127 := Tryz.underlying178
  a127 := Tryz.isAgg178
  z127 := Tryz.sizeOf178
  v127 := Tryz.zeroValue178
  t143 := Tryz.underlying155
  a143 := Tryz.isAgg155
  z143 := Tryz.sizeOf155
  v143 := Tryz.zeroValue155
  t145 := Tryz.underlying157
  a145 := Tryz.isAgg157
  z145 := Tryz.sizeOf157
  v145 := Tryz.zeroValue157
  t167 := Tryz.underlying174
  a167 := Tryz.isAgg174
  z167 := Tryz.sizeOf174
  v167 := Tryz.zeroValue174
  t168 := Tryz.underlying175
  a168 := Tryz.isAgg175
  z168 := Tryz.sizeOf175
  v168 := Tryz.zeroValue175
  t171 := Tryz.underlying243
  a171 := Tryz.isAgg243
  z171 := Tryz.sizeOf243
  v171 := Tryz.zeroValue243
  t173 := Tryz.underlying245
  a173 := Tryz.isAgg245
  z173 := Tryz.sizeOf245
  v173 := Tryz.zeroValue245
  t210 := Tryz.underlying195
  a210 := Tryz.isAgg195
  z210 := Tryz.sizeOf195
  v210 := Tryz.zeroValue195
  t212 := Tryz.underlying249
  a212 := Tryz.isAgg249
  z212 := Tryz.sizeOf249
  v212 := Tryz.zeroValue249
  t213 := Tryz.underlying250
  a213 := Tryz.isAgg250
  z213 := Tryz.sizeOf250
  t232 := Tryz.underlying252
  a232 := Tryz.isAgg252
  z232 := Tryz.sizeOf252
  v232 := Tryz.zeroValue252
  t233 := Tryz.underlying253
  a233 := Tryz.isAgg253
  z233 := Tryz.sizeOf253
  v233 := Tryz.zeroValue253
  g15 := by kernel_rfl
  g16 := by kernel_rfl
  g17 := by kernel_rfl
  g18 := by kernel_rfl
  g19 := by kernel_rfl }
/-- strconv.ParseBool: "ParseBool returns the boolean value represented by the string. It accepts 1, t, T, TRUE, true, True, 0, f, F, FALSE, false, False. Any other value returns an error.": AT ONE OF THE TWELVE. The world is as it was. (LAID: no walk: one application.) -/
theorem Tryz.strconv_ParseBool (s : ByteArray) (b : Bool) (h : Lib.parseBool s.data.toList = some b) (w : World) :
    Calls Tryz.prog 82 #[.string s] w fun e w' => e = .returned (.tuple #[.bool b, .nilIface]) ∧ w' = w := Any.strconv_ParseBool Tryz.lays175 s b h w
def Tryz.lays129_ren : Go.Shelf.Ren := ⟨fun | 129 => 122 | n => n, fun | 53 => 165 | 3 => 3 | 4 => 4 | 46 => 133 | 5 => 5 | 9 => 9 | n => n, fun | n => n⟩
theorem Tryz.lays129 : Go.Proofs.Lays.n129 Tryz.prog Tryz.lays129_ren := {
  mixed := by kernel_rfl
  f129 := Tryz.func122.trans (congrArg some (by kernel_rfl))
  t3 := Tryz.underlying3
  a3 := Tryz.isAgg3
  z3 := Tryz.sizeOf3
  v3 := Tryz.zeroValue3
  t4 := Tryz.underlying4
  a4 := Tryz.isAgg4
  z4 := Tryz.sizeOf4
  v4 := Tryz.zeroValue4
  t5 := Tryz.underlying5
  a5 := Tryz.isAgg5
  z5 := Tryz.sizeOf5
  v5 := Tryz.zeroValue5
  t9 := Tryz.underlying9
  a9 := Tryz.isAgg9
  z9 := Tryz.sizeOf9
  v9 := Tryz.zeroValue9
  t46 := Tryz.underlying133
  a46 := Tryz.isAgg133
  z46 := Tryz.sizeOf133
  v46 := Tryz.zeroValue133
  t53 := Tryz.underlying165
  a53 := Tryz.isAgg165
  z53 := Tryz.sizeOf165
  v53 := Tryz.zeroValue165 }
/-- bits.Len64: "Len64 returns the minimum number of bits required to represent x; the result is 0 for x == 0.": IT RETURNS 'Lib.bitLen x'; the world is as it was. ('h0', 'h1': x is a uint64.) (LAID: no walk: one application.) -/
theorem Tryz.bits_Len64 (x : Int) (w : World) (h0 : 0 ≤ x) (h1 : x ≤ 18446744073709551615) :
    Calls Tryz.prog 122 #[.int .u64 x] w fun e w' => e = .returned (.int .i64 (Lib.bitLen x.toNat)) ∧ w' = w := Any.bits_Len64 Tryz.lays129 x w h0 h1
def Tryz.laysM316_ren : Go.Shelf.Ren := ⟨fun | 316 => 153 | n => n, fun | 9 => 9 | 3 => 3 | 4 => 4 | 37 => 140 | 0 => 0 | 127 => 178 | 5 => 5 | n => n, fun | n => n⟩
theorem Tryz.laysM316 : Go.Proofs.LaysM.n316 Tryz.prog Tryz.laysM316_ren := {
  mixed := by kernel_rfl
  f316 := Tryz.func153.trans (congrArg some (by kernel_rfl))
  t0 := Tryz.underlying0
  a0 := Tryz.isAgg0
  z0 := Tryz.sizeOf0
  v0 := Tryz.zeroValue0
  t3 := Tryz.underlying3
  a3 := Tryz.isAgg3
  z3 := Tryz.sizeOf3
  v3 := Tryz.zeroValue3
  t4 := Tryz.underlying4
  a4 := Tryz.isAgg4
  z4 := Tryz.sizeOf4
  v4 := Tryz.zeroValue4
  t9 := Tryz.underlying9
  a9 := Tryz.isAgg9
  z9 := Tryz.sizeOf9
  v9 := Tryz.zeroValue9
  t37 := Tryz.underlying140
  a37 := Tryz.isAgg140
  z37 := Tryz.sizeOf140
  v37 := Tryz.zeroValue140
  t127 := Tryz.underlying178
  a127 := Tryz.isAgg178
  z127 := Tryz.sizeOf178
  v127 := Tryz.zeroValue178
  t5 := Tryz.underlying5
  a5 := Tryz.isAgg5
  z5 := Tryz.sizeOf5
  v5 := Tryz.zeroValue5
  i0 := by kernel_rfl
  i3 := by kernel_rfl
  i4 := by kernel_rfl
  i5 := by kernel_rfl
  i9 := by kernel_rfl
  i37 := by kernel_rfl
  i127 := by kernel_rfl }
open Go.RowKit in
/-- internal/stringslite.Clone (what strings.Clone calls): "Clone returns a fresh copy of s.": THE SAME BYTES. Of what was there nothing has turned (a new row is laid, and frozen, where s is not empty). (LAID: no walk: one application.) -/
theorem Tryz.stringslite_Clone (s : ByteArray) (w : World) (hlim : s.size ≤ 281474976710656) :
    Calls Tryz.prog 153 #[.string s] w fun e w' => e = .returned (.string s) ∧ Below w.heap.size w w' := Any.stringslite_Clone Tryz.laysM316 s w hlim
def Tryz.laysM279_ren : Go.Shelf.Ren := ⟨fun | 279 => 132 | 316 => 153 | n => n, fun | 9 => 9 | 168 => 175 | 75 => 104 | 210 => 195 | 3 => 3 | 4 => 4 | 37 => 140 | 0 => 0 | 127 => 178 | 80 => 147 | 5 => 5 | n => n, fun | 15 => 2 | n => n⟩
theorem Tryz.laysM279 : Go.Proofs.LaysM.n279 Tryz.prog Tryz.laysM279_ren := {
  mixed := by kernel_rfl
  f279 := Tryz.func132.trans (congrArg some (by kernel_rfl))
  f316 := Tryz.func153.trans (congrArg some (by kernel_rfl))
  t0 := Tryz.underlying0
  a0 := Tryz.isAgg0
  z0 := Tryz.sizeOf0
  v0 := Tryz.zeroValue0
  t3 := Tryz.underlying3
  a3 := Tryz.isAgg3
  z3 := Tryz.sizeOf3
  v3 := Tryz.zeroValue3
  t4 := Tryz.underlying4
  a4 := Tryz.isAgg4
  z4 := Tryz.sizeOf4
  v4 := Tryz.zeroValue4
  t9 := Tryz.underlying9
  a9 := Tryz.isAgg9
  z9 := Tryz.sizeOf9
  v9 := Tryz.zeroValue9
  t37 := Tryz.underlying140
  a37 := Tryz.isAgg140
  z37 := Tryz.sizeOf140
  v37 := Tryz.zeroValue140
  t75 := Tryz.underlying104
  a75 := Tryz.isAgg104
  z75 := Tryz.sizeOf104
  v75 := Tryz.zeroValue104
  t127 := Tryz.underlying178
  a127 := Tryz.isAgg178
  z127 := Tryz.sizeOf178
  v127 := Tryz.zeroValue178
  t168 := Tryz.underlying175
  a168 := Tryz.isAgg175
  z168 := Tryz.sizeOf175
  v168 := Tryz.zeroValue175
  t210 := Tryz.underlying195
  a210 := Tryz.isAgg195
  z210 := Tryz.sizeOf195
  v210 := Tryz.zeroValue195
  g15 := by kernel_rfl
  t5 := Tryz.underlying5
  a5 := Tryz.isAgg5
  z5 := Tryz.sizeOf5
  v5 := Tryz.zeroValue5
  t80 := Tryz.underlying147
  a80 := Tryz.isAgg147
  z80 := Tryz.sizeOf147
  v80 := Tryz.zeroValue147
  i0 := by kernel_rfl
  i3 := by kernel_rfl
  i4 := by kernel_rfl
  i5 := by kernel_rfl
  i9 := by kernel_rfl
  i37 := by kernel_rfl
  i75 := by kernel_rfl
  i80 := by kernel_rfl
  i127 := by kernel_rfl
  i168 := by kernel_rfl
  i210 := by kernel_rfl
  m15 := by kernel_rfl }
open Go.RowKit in
/-- strconv.syntaxError: '&NumError{fn, stringslite.Clone(str), ErrSyntax}': A POINTER TO A NEW BLOCK that holds fn, str's bytes, and what the variable ErrSyntax holds. Of what was there nothing has turned. (LAID: no walk: one application.) -/
theorem Tryz.strconv_syntaxError (fn s : ByteArray) (ev : Value) (w : World) (hlim : s.size ≤ 281474976710656) (hv : w.cell? ⟨2, 0, none⟩ = some ev) (hev : ev = .nilIface ∨ ∃ te pe, ev = .iface te pe) :
    Calls Tryz.prog 132 #[.string fn, .string s] w fun e w' => ∃ N, e = .returned (.pointer (some ⟨N, 0, none⟩)) ∧ w.heap.size ≤ N ∧ w'.heap[N]? = some (.cells #[.string fn, .string s, ev] 195 (0, 0)) ∧ Below w.heap.size w w' := Any.strconv_syntaxError Tryz.laysM279 fn s ev w hlim hv hev
def Tryz.laysC245_ren : Go.Shelf.Ren := ⟨fun | 245 => 99 | 279 => 132 | 280 => 133 | 281 => 134 | 282 => 135 | 316 => 153 | 171 => 154 | 205 => 90 | 243 => 174 | 246 => 185 | 283 => 187 | 284 => 188 | 285 => 189 | 286 => 190 | 129 => 122 | 317 => 191 | 318 => 192 | 319 => 193 | 320 => 194 | 337 => 195 | 338 => 196 | n => n, fun | 9 => 9 | 3 => 3 | 75 => 104 | 167 => 174 | 4 => 4 | 168 => 175 | 210 => 195 | 37 => 140 | 0 => 0 | 127 => 178 | 145 => 157 | 143 => 155 | 2 => 2 | 171 => 243 | 53 => 165 | 5 => 5 | 173 => 245 | 212 => 249 | 51 => 163 | 20 => 20 | 213 => 250 | 46 => 133 | 232 => 252 | 233 => 253 | 80 => 147 | n => n, fun | 15 => 2 | 16 => 3 | 17 => 8 | 18 => 9 | 19 => 10 | n => n⟩
theorem Tryz.laysC245 : Go.Proofs.LaysC.n245 Tryz.prog Tryz.laysC245_ren := {
  mixed := by kernel_rfl
  f129 := Tryz.func122.trans (congrArg some (by kernel_rfl))
  f171 := Tryz.func154.trans (congrArg some (by kernel_rfl))
  f205 := Tryz.func90.trans (congrArg some (by kernel_rfl))
  f243 := Tryz.func174.trans (congrArg some (by kernel_rfl))
  f245 := Tryz.func99.trans (congrArg some (by kernel_rfl))
  f246 := Tryz.func185.trans (congrArg some (by kernel_rfl))
  f279 := Tryz.func132.trans (congrArg some (by kernel_rfl))
  f280 := Tryz.func133.trans (congrArg some (by kernel_rfl))
  f281 := Tryz.func134.trans (congrArg some (by kernel_rfl))
  f282 := Tryz.func135.trans (congrArg some (by kernel_rfl))
  f283 := Tryz.func187.trans (congrArg some (by kernel_rfl))
  f284 := Tryz.func188.trans (congrArg some (by kernel_rfl))
  f285 := Tryz.func189.trans (congrArg some (by kernel_rfl))
  f286 := Tryz.func190.trans (congrArg some (by kernel_rfl))
  f316 := Tryz.func153.trans (congrArg some (by kernel_rfl))
  f317 := Tryz.func191.trans (congrArg some (by kernel_rfl))
  f318 := Tryz.func192.trans (congrArg some (by kernel_rfl))
  f319 := Tryz.func193.trans (congrArg some (by kernel_rfl))
  f320 := Tryz.func194.trans (congrArg some (by kernel_rfl))
  f337 := Tryz.func195.trans (congrArg some (by kernel_rfl))
  f338 := Tryz.func196.trans (congrArg some (by kernel_rfl))
  t0 := Tryz.underlying0
  a0 := Tryz.isAgg0
  z0 := Tryz.sizeOf0
  v0 := Tryz.zeroValue0
  t2 := Tryz.underlying2
  a2 := Tryz.isAgg2
  z2 := Tryz.sizeOf2
  v2 := Tryz.zeroValue2
  t3 := Tryz.underlying3
  a3 := Tryz.isAgg3
  z3 := Tryz.sizeOf3
  v3 := Tryz.zeroValue3
  t4 := Tryz.underlying4
  a4 := Tryz.isAgg4
  z4 := Tryz.sizeOf4
  v4 := Tryz.zeroValue4
  t5 := Tryz.underlying5
  a5 := Tryz.isAgg5
  z5 := Tryz.sizeOf5
  v5 := Tryz.zeroValue5
  t9 := Tryz.underlying9
  a9 := Tryz.isAgg9
  z9 := Tryz.sizeOf9
  v9 := Tryz.zeroValue9
  t20 := Tryz.underlying20
  a20 := Tryz.isAgg20
  z20 := Tryz.sizeOf20
  v20 := Tryz.zeroValue20
  t37 := Tryz.underlying140
  a37 := Tryz.isAgg140
  z37 := Tryz.sizeOf140
  v37 := Tryz.zeroValue140
  t46 := Tryz.underlying133
  a46 := Tryz.isAgg133
  z46 := Tryz.sizeOf133
  v46 := Tryz.zeroValue133
  t51 := Tryz.underlying163
  a51 := Tryz.isAgg163
  z51 := Tryz.sizeOf163
  v51 := Tryz.zeroValue163
  t53 := Tryz.underlying165
  a53 := Tryz.isAgg165
  z53 := Tryz.sizeOf165
  v53 := Tryz.zeroValue165
  t75 := Tryz.underlying104
  a75 := Tryz.isAgg104
  z75 := Tryz.sizeOf104
  v75 := Tryz.zeroValue104
  t127 := Tryz.underlying178
  a127 := Tryz.isAgg178
  z127 := Tryz.sizeOf178
  v127 := Tryz.zeroValue178
  t143 := Tryz.underlying155
  a143 := Tryz.isAgg155
  z143 := Tryz.sizeOf155
  v143 := Tryz.zeroValue155
  t145 := Tryz.underlying157
  a145 := Tryz.isAgg157
  z145 := Tryz.sizeOf157
  v145 := Tryz.zeroValue157
  t167 := Tryz.underlying174
  a167 := Tryz.isAgg174
  z167 := Tryz.sizeOf174
  v167 := Tryz.zeroValue174
  t168 := Tryz.underlying175
  a168 := Tryz.isAgg175
  z168 := Tryz.sizeOf175
  v168 := Tryz.zeroValue175
  t171 := Tryz.underlying243
  a171 := Tryz.isAgg243
  z171 := Tryz.sizeOf243
  v171 := Tryz.zeroValue243
  t173 := Tryz.underlying245
  a173 := Tryz.isAgg245
  z173 := Tryz.sizeOf245
  v173 := Tryz.zeroValue245
  t210 := Tryz.underlying195
  a210 := Tryz.isAgg195
  z210 := Tryz.sizeOf195
  v210 := Tryz.zeroValue195
  t212 := Tryz.underlying249
  a212 := Tryz.isAgg249
  z212 := Tryz.sizeOf249
  v212 := Tryz.zeroValue249
  t213 := Tryz.underlying250
  a213 := Tryz.isAgg250
  z213 := Tryz.sizeOf250
  t232 := Tryz.underlying252
  a232 := Tryz.isAgg252
  z232 := Tryz.sizeOf252
  v232 := Tryz.zeroValue252
  t233 := Tryz.underlying253
  a233 := Tryz.isAgg253
  z233 := Tryz.sizeOf253
  v233 := Tryz.zeroValue253
  g15 := by kernel_rfl
  g16 := by kernel_rfl
  g17 := by kernel_rfl
  g18 := by kernel_rfl
  g19 := by kernel_rfl
  t80 := Tryz.underlying147
  a80 := Tryz.isAgg147
  z80 := Tryz.sizeOf147
  v80 := Tryz.zeroValue147
  i0 := by kernel_rfl
  i2 := by kernel_rfl
  i3 := by kernel_rfl
  i4 := by kernel_rfl
  i5 := by kernel_rfl
  i9 := by kernel_rfl
  i20 := by kernel_rfl
  i37 := by kernel_rfl
  i46 := by kernel_rfl
  i51 := by kernel_rfl
  i53 := by kernel_rfl
  i75 := by kernel_rfl
  i80 := by kernel_rfl
  i127 := by kernel_rfl
  i143 := by kernel_rfl
  i145 := by kernel_rfl
  i167 := by kernel_rfl
  i168 := by kernel_rfl
  i171 := by kernel_rfl
  i173 := by kernel_rfl
  i210 := by kernel_rfl
  i212 := by kernel_rfl
  i232 := by kernel_rfl
  i233 := by kernel_rfl
  m15 := by kernel_rfl
  m16 := by kernel_rfl
  m17 := by kernel_rfl
  m18 := by kernel_rfl
  m19 := by kernel_rfl
  c0 := by kernel_rfl
  c2 := by kernel_rfl
  c3 := by kernel_rfl
  c4 := by kernel_rfl
  c5 := by kernel_rfl
  c9 := by kernel_rfl
  c20 := by kernel_rfl
  c37 := by kernel_rfl
  c46 := by kernel_rfl
  c51 := by kernel_rfl
  c53 := by kernel_rfl
  c75 := by kernel_rfl
  c80 := by kernel_rfl
  c127 := by kernel_rfl
  c143 := by kernel_rfl
  c145 := by kernel_rfl
  c167 := by kernel_rfl
  c168 := by kernel_rfl
  c171 := by kernel_rfl
  c173 := by kernel_rfl
  c210 := by kernel_rfl
  c212 := by kernel_rfl
  c213 := by kernel_rfl
  c232 := by kernel_rfl
  c233 := by kernel_rfl }
open Go.RowKit in
/-- strconv.toError, at the inner package's ErrSyntax: 'syntaxError(fn, s)' as an error: A *NumError IN A NEW BLOCK. (LAID: no walk: one application.) -/
theorem Tryz.strconv_toError_syntax (fn s : ByteArray) (base bits : Int) (ev : Value) (w : World) (hlim : s.size ≤ 281474976710656) (hv : w.cell? ⟨2, 0, none⟩ = some ev) (hev : ev = .nilIface ∨ ∃ te pe, ev = .iface te pe) :
    Calls Tryz.prog 99 #[.string fn, .string s, .int .i64 base, .int .i64 bits, .iface 174 (.int .i64 2)] w fun e w' => ∃ N, e = .returned (.iface 175 (.pointer (some ⟨N, 0, none⟩))) ∧ w.heap.size ≤ N ∧ w'.heap[N]? = some (.cells #[.string fn, .string s, ev] 195 (0, 0)) ∧ Below w.heap.size w w' := Any.strconv_toError_syntax Tryz.laysC245 fn s base bits ev w hlim hv hev
/-- internal/strconv.ParseBool, AT EVERY STRING THAT IT DOES NOT ACCEPT: false, and ErrSyntax. The world is as it was. (LAID: no walk: one application.) -/
theorem Tryz.internal_strconv_ParseBool_err (s : ByteArray) (h : Lib.parseBool s.data.toList = none) (w : World) :
    Calls Tryz.prog 98 #[.string s] w fun e w' => e = .returned (.tuple #[.bool false, (.iface 174 (.int .i64 2))]) ∧ w' = w := Any.internal_strconv_ParseBool_err Tryz.lays248 s h w
def Tryz.laysC175_ren : Go.Shelf.Ren := ⟨fun | 175 => 82 | 248 => 98 | 245 => 99 | 279 => 132 | 280 => 133 | 281 => 134 | 282 => 135 | 316 => 153 | 171 => 154 | 205 => 90 | 243 => 174 | 246 => 185 | 283 => 187 | 284 => 188 | 285 => 189 | 286 => 190 | 129 => 122 | 317 => 191 | 318 => 192 | 319 => 193 | 320 => 194 | 337 => 195 | 338 => 196 | n => n, fun | 9 => 9 | 4 => 4 | 75 => 104 | 87 => 116 | 3 => 3 | 167 => 174 | 168 => 175 | 210 => 195 | 37 => 140 | 0 => 0 | 127 => 178 | 145 => 157 | 143 => 155 | 2 => 2 | 171 => 243 | 53 => 165 | 5 => 5 | 173 => 245 | 212 => 249 | 51 => 163 | 20 => 20 | 213 => 250 | 46 => 133 | 232 => 252 | 233 => 253 | 80 => 147 | n => n, fun | 15 => 2 | 16 => 3 | 17 => 8 | 18 => 9 | 19 => 10 | n => n⟩
theorem Tryz.laysC175 : Go.Proofs.LaysC.n175 Tryz.prog Tryz.laysC175_ren := {
  mixed := by kernel_rfl
  f129 := Tryz.func122.trans (congrArg some (by kernel_rfl))
  f171 := Tryz.func154.trans (congrArg some (by kernel_rfl))
  f175 := Tryz.func82.trans (congrArg some (by kernel_rfl))
  f205 := Tryz.func90.trans (congrArg some (by kernel_rfl))
  f243 := Tryz.func174.trans (congrArg some (by kernel_rfl))
  f245 := Tryz.func99.trans (congrArg some (by kernel_rfl))
  f246 := Tryz.func185.trans (congrArg some (by kernel_rfl))
  f248 := Tryz.func98.trans (congrArg some (by kernel_rfl))
  f279 := Tryz.func132.trans (congrArg some (by kernel_rfl))
  f280 := Tryz.func133.trans (congrArg some (by kernel_rfl))
  f281 := Tryz.func134.trans (congrArg some (by kernel_rfl))
  f282 := Tryz.func135.trans (congrArg some (by kernel_rfl))
  f283 := Tryz.func187.trans (congrArg some (by kernel_rfl))
  f284 := Tryz.func188.trans (congrArg some (by kernel_rfl))
  f285 := Tryz.func189.trans (congrArg some (by kernel_rfl))
  f286 := Tryz.func190.trans (congrArg some (by kernel_rfl))
  f316 := Tryz.func153.trans (congrArg some (by kernel_rfl))
  f317 := Tryz.func191.trans (congrArg some (by kernel_rfl))
  f318 := Tryz.func192.trans (congrArg some (by kernel_rfl))
  f319 := Tryz.func193.trans (congrArg some (by kernel_rfl))
  f320 := Tryz.func194.trans (congrArg some (by kernel_rfl))
  f337 := Tryz.func195.trans (congrArg some (by kernel_rfl))
  f338 := Tryz.func196.trans (congrArg some (by kernel_rfl))
  t0 := Tryz.underlying0
  a0 := Tryz.isAgg0
  z0 := Tryz.sizeOf0
  v0 := Tryz.zeroValue0
  t2 := Tryz.underlying2
  a2 := Tryz.isAgg2
  z2 := Tryz.sizeOf2
  v2 := Tryz.zeroValue2
  t3 := Tryz.underlying3
  a3 := Tryz.isAgg3
  z3 := Tryz.sizeOf3
  v3 := Tryz.zeroValue3
  t4 := Tryz.underlying4
  a4 := Tryz.isAgg4
  z4 := Tryz.sizeOf4
  v4 := Tryz.zeroValue4
  t5 := Tryz.underlying5
  a5 := Tryz.isAgg5
  z5 := Tryz.sizeOf5
  v5 := Tryz.zeroValue5
  t9 := Tryz.underlying9
  a9 := Tryz.isAgg9
  z9 := Tryz.sizeOf9
  v9 := Tryz.zeroValue9
  t20 := Tryz.underlying20
  a20 := Tryz.isAgg20
  z20 := Tryz.sizeOf20
  v20 := Tryz.zeroValue20
  t37 := Tryz.underlying140
  a37 := Tryz.isAgg140
  z37 := Tryz.sizeOf140
  v37 := Tryz.zeroValue140
  t46 := Tryz.underlying133
  a46 := Tryz.isAgg133
  z46 := Tryz.sizeOf133
  v46 := Tryz.zeroValue133
  t51 := Tryz.underlying163
  a51 := Tryz.isAgg163
  z51 := Tryz.sizeOf163
  v51 := Tryz.zeroValue163
  t53 := Tryz.underlying165
  a53 := Tryz.isAgg165
  z53 := Tryz.sizeOf165
  v53 := Tryz.zeroValue165
  t75 := Tryz.underlying104
  a75 := Tryz.isAgg104
  z75 := Tryz.sizeOf104
  v75 := Tryz.zeroValue104
  t87 := Tryz.underlying116
  a87 := Tryz.isAgg116
  z87 := Tryz.sizeOf116
  v87 := Tryz.zeroValue116
  t127 := Tryz.underlying178
  a127 := Tryz.isAgg178
  z127 := Tryz.sizeOf178
  v127 := Tryz.zeroValue178
  t143 := Tryz.underlying155
  a143 := Tryz.isAgg155
  z143 := Tryz.sizeOf155
  v143 := Tryz.zeroValue155
  t145 := Tryz.underlying157
  a145 := Tryz.isAgg157
  z145 := Tryz.sizeOf157
  v145 := Tryz.zeroValue157
  t167 := Tryz.underlying174
  a167 := Tryz.isAgg174
  z167 := Tryz.sizeOf174
  v167 := Tryz.zeroValue174
  t168 := Tryz.underlying175
  a168 := Tryz.isAgg175
  z168 := Tryz.sizeOf175
  v168 := Tryz.zeroValue175
  t171 := Tryz.underlying243
  a171 := Tryz.isAgg243
  z171 := Tryz.sizeOf243
  v171 := Tryz.zeroValue243
  t173 := Tryz.underlying245
  a173 := Tryz.isAgg245
  z173 := Tryz.sizeOf245
  v173 := Tryz.zeroValue245
  t210 := Tryz.underlying195
  a210 := Tryz.isAgg195
  z210 := Tryz.sizeOf195
  v210 := Tryz.zeroValue195
  t212 := Tryz.underlying249
  a212 := Tryz.isAgg249
  z212 := Tryz.sizeOf249
  v212 := Tryz.zeroValue249
  t213 := Tryz.underlying250
  a213 := Tryz.isAgg250
  z213 := Tryz.sizeOf250
  t232 := Tryz.underlying252
  a232 := Tryz.isAgg252
  z232 := Tryz.sizeOf252
  v232 := Tryz.zeroValue252
  t233 := Tryz.underlying253
  a233 := Tryz.isAgg253
  z233 := Tryz.sizeOf253
  v233 := Tryz.zeroValue253
  g15 := by kernel_rfl
  g16 := by kernel_rfl
  g17 := by kernel_rfl
  g18 := by kernel_rfl
  g19 := by kernel_rfl
  t80 := Tryz.underlying147
  a80 := Tryz.isAgg147
  z80 := Tryz.sizeOf147
  v80 := Tryz.zeroValue147
  i0 := by kernel_rfl
  i2 := by kernel_rfl
  i3 := by kernel_rfl
  i4 := by kernel_rfl
  i5 := by kernel_rfl
  i9 := by kernel_rfl
  i20 := by kernel_rfl
  i37 := by kernel_rfl
  i46 := by kernel_rfl
  i51 := by kernel_rfl
  i53 := by kernel_rfl
  i75 := by kernel_rfl
  i80 := by kernel_rfl
  i87 := by kernel_rfl
  i127 := by kernel_rfl
  i143 := by kernel_rfl
  i145 := by kernel_rfl
  i167 := by kernel_rfl
  i168 := by kernel_rfl
  i171 := by kernel_rfl
  i173 := by kernel_rfl
  i210 := by kernel_rfl
  i212 := by kernel_rfl
  i232 := by kernel_rfl
  i233 := by kernel_rfl
  m15 := by kernel_rfl
  m16 := by kernel_rfl
  m17 := by kernel_rfl
  m18 := by kernel_rfl
  m19 := by kernel_rfl
  c0 := by kernel_rfl
  c2 := by kernel_rfl
  c3 := by kernel_rfl
  c4 := by kernel_rfl
  c5 := by kernel_rfl
  c9 := by kernel_rfl
  c20 := by kernel_rfl
  c37 := by kernel_rfl
  c46 := by kernel_rfl
  c51 := by kernel_rfl
  c53 := by kernel_rfl
  c75 := by kernel_rfl
  c80 := by kernel_rfl
  c87 := by kernel_rfl
  c127 := by kernel_rfl
  c143 := by kernel_rfl
  c145 := by kernel_rfl
  c167 := by kernel_rfl
  c168 := by kernel_rfl
  c171 := by kernel_rfl
  c173 := by kernel_rfl
  c210 := by kernel_rfl
  c212 := by kernel_rfl
  c213 := by kernel_rfl
  c232 := by kernel_rfl
  c233 := by kernel_rfl }
open Go.RowKit in
/-- strconv.ParseBool: ".. Any other value returns an error.": AT EVERY STRING THAT IS NONE OF THE TWELVE: false, AND AN ERROR THAT IS NOT nil: a *NumError in a new block N: {Func: "ParseBool", Num: s's bytes, Err: what the variable ErrSyntax holds}. Of what was there nothing has turned. (LAID: no walk: one application.) -/
theorem Tryz.strconv_ParseBool_err (s : ByteArray) (hlim : s.size ≤ 281474976710656) (h : Lib.parseBool s.data.toList = none) (ev : Value) (w : World) (hv : w.cell? ⟨2, 0, none⟩ = some ev) (hev : ev = .nilIface ∨ ∃ te pe, ev = .iface te pe) :
    Calls Tryz.prog 82 #[.string s] w fun e w' => ∃ N, e = .returned (.tuple #[.bool false, .iface 175 (.pointer (some ⟨N, 0, none⟩))]) ∧ w.heap.size ≤ N ∧ w'.heap[N]? = some (.cells #[.string ⟨#[80, 97, 114, 115, 101, 66, 111, 111, 108]⟩, .string s, ev] 195 (0, 0)) ∧ Below w.heap.size w w' := Any.strconv_ParseBool_err Tryz.laysC175 s hlim h ev w hv hev
open Go.RowKit in
theorem Tryz.strconv_ParseBool_err_var (s : ByteArray) (hlim : s.size ≤ 281474976710656) (h : Lib.parseBool s.data.toList = none) (tp : TypeId) (p : Value) (w : World) (hvar : w.var? Tryz.prog "strconv.ErrSyntax" = some #[.iface tp p]) :
    Calls Tryz.prog 82 #[.string s] w fun e w' => ∃ N, e = .returned (.tuple #[.bool false, .iface 175 (.pointer (some ⟨N, 0, none⟩))]) ∧ w.heap.size ≤ N ∧ w'.heap[N]? = some (.cells #[.string ⟨#[80, 97, 114, 115, 101, 66, 111, 111, 108]⟩, .string s, .iface tp p] 195 (0, 0)) ∧ Below w.heap.size w w' := Any.strconv_ParseBool_err_var Tryz.laysC175 s hlim h tp p w hvar
def Tryz.laysGg26_ren : Go.Shelf.Ren := ⟨fun | 26 => 123 | n => n, fun | 44 => 136 | 3 => 3 | 0 => 0 | 4 => 4 | 26 => 109 | 37 => 129 | n => n, fun | n => n⟩
theorem Tryz.laysGg26 : Go.Proofs.LaysGg.n26 Tryz.prog Tryz.laysGg26_ren := {
  mixed := by kernel_rfl
  f26 := Tryz.func123.trans (congrArg some (by kernel_rfl))
  t0 := Tryz.underlying0
  a0 := Tryz.isAgg0
  z0 := Tryz.sizeOf0
  v0 := Tryz.zeroValue0
  i0 := by kernel_rfl
  t3 := Tryz.underlying3
  a3 := Tryz.isAgg3
  z3 := Tryz.sizeOf3
  v3 := Tryz.zeroValue3
  i3 := by kernel_rfl
  t4 := Tryz.underlying4
  a4 := Tryz.isAgg4
  z4 := Tryz.sizeOf4
  v4 := Tryz.zeroValue4
  i4 := by kernel_rfl
  t26 := Tryz.underlying109
  a26 := Tryz.isAgg109
  z26 := Tryz.sizeOf109
  v26 := Tryz.zeroValue109
  i26 := by kernel_rfl
  t37 := Tryz.underlying129
  a37 := Tryz.isAgg129
  z37 := Tryz.sizeOf129
  v37 := Tryz.zeroValue129
  i37 := by kernel_rfl
  t44 := Tryz.underlying136
  a44 := Tryz.isAgg136
  z44 := Tryz.sizeOf136
  v44 := Tryz.zeroValue136
  i44 := by kernel_rfl }
open Go.RowKit Go.Lib Go.Sort in
theorem Tryz.insertionSort_func_one {α : Type} [Inhabited α] (enc : α → Value) (lt : α → α → Bool) (g : Nat) (lb : Array Value) (sf : Nat) (sb : Array Value) (blk off a b : Nat) (d : Array α) (w : World) (eg : ∀ args w, (callFunc g args).run Tryz.prog w = .ok (.enter g args) w) (hless : LessReads Tryz.prog g lb enc lt blk off d.size w) (hswap : SwapSwaps Tryz.prog sf sb enc blk off d.size) (hH : Holds enc w blk off d) (hblk : blk < w.heap.size) (hab : a ≤ b) (hb : b ≤ d.size) (hsz : d.size < 4611686018427387904) :
    Calls Tryz.prog 123 #[.agg #[.func (.func g) #[] lb, .func (.func sf) #[] sb], .int .i64 a, .int .i64 b] w fun e w' =>
      e = .returned (.tuple #[]) ∧ ∃ n, w' = putRow enc (Sort.ahead (w.alloc (.cells #[.func (.func g) #[] lb, .func (.func sf) #[] sb] 136)) n) blk off (Sort.insertionSort lt d a b) := Any.insertionSort_func_one Tryz.laysGg26 enc lt g lb sf sb blk off a b d w eg hless hswap hH hblk hab hb hsz
def Tryz.laysGg14_ren : Go.Shelf.Ren := ⟨fun | 14 => 96 | 26 => 123 | 27 => 124 | 28 => 125 | 29 => 126 | 30 => 127 | 31 => 128 | 32 => 129 | 33 => 130 | 34 => 147 | 35 => 148 | 36 => 149 | 37 => 150 | 38 => 151 | 13 => 95 | 39 => 164 | 24 => 121 | 25 => 122 | n => n, fun | 44 => 136 | 3 => 3 | 0 => 0 | 4 => 4 | 54 => 168 | 53 => 167 | 26 => 109 | 58 => 172 | 37 => 129 | 60 => 187 | 41 => 133 | 51 => 165 | 64 => 191 | 66 => 214 | 67 => 215 | 49 => 163 | 5 => 5 | 9 => 9 | n => n, fun | n => n⟩
theorem Tryz.laysGg14 : Go.Proofs.LaysGg.n14 Tryz.prog Tryz.laysGg14_ren := {
  mixed := by kernel_rfl
  f13 := Tryz.func95.trans (congrArg some (by kernel_rfl))
  f14 := Tryz.func96.trans (congrArg some (by kernel_rfl))
  f24 := Tryz.func121.trans (congrArg some (by kernel_rfl))
  f25 := Tryz.func122.trans (congrArg some (by kernel_rfl))
  f26 := Tryz.func123.trans (congrArg some (by kernel_rfl))
  f27 := Tryz.func124.trans (congrArg some (by kernel_rfl))
  f28 := Tryz.func125.trans (congrArg some (by kernel_rfl))
  f29 := Tryz.func126.trans (congrArg some (by kernel_rfl))
  f30 := Tryz.func127.trans (congrArg some (by kernel_rfl))
  f31 := Tryz.func128.trans (congrArg some (by kernel_rfl))
  f32 := Tryz.func129.trans (congrArg some (by kernel_rfl))
  f33 := Tryz.func130.trans (congrArg some (by kernel_rfl))
  f34 := Tryz.func147.trans (congrArg some (by kernel_rfl))
  f35 := Tryz.func148.trans (congrArg some (by kernel_rfl))
  f36 := Tryz.func149.trans (congrArg some (by kernel_rfl))
  f37 := Tryz.func150.trans (congrArg some (by kernel_rfl))
  f38 := Tryz.func151.trans (congrArg some (by kernel_rfl))
  f39 := Tryz.func164.trans (congrArg some (by kernel_rfl))
  t0 := Tryz.underlying0
  a0 := Tryz.isAgg0
  z0 := Tryz.sizeOf0
  v0 := Tryz.zeroValue0
  i0 := by kernel_rfl
  t3 := Tryz.underlying3
  a3 := Tryz.isAgg3
  z3 := Tryz.sizeOf3
  v3 := Tryz.zeroValue3
  i3 := by kernel_rfl
  t4 := Tryz.underlying4
  a4 := Tryz.isAgg4
  z4 := Tryz.sizeOf4
  v4 := Tryz.zeroValue4
  i4 := by kernel_rfl
  t5 := Tryz.underlying5
  a5 := Tryz.isAgg5
  z5 := Tryz.sizeOf5
  v5 := Tryz.zeroValue5
  i5 := by kernel_rfl
  t9 := Tryz.underlying9
  a9 := Tryz.isAgg9
  z9 := Tryz.sizeOf9
  v9 := Tryz.zeroValue9
  i9 := by kernel_rfl
  t26 := Tryz.underlying109
  a26 := Tryz.isAgg109
  z26 := Tryz.sizeOf109
  v26 := Tryz.zeroValue109
  i26 := by kernel_rfl
  t37 := Tryz.underlying129
  a37 := Tryz.isAgg129
  z37 := Tryz.sizeOf129
  v37 := Tryz.zeroValue129
  i37 := by kernel_rfl
  t41 := Tryz.underlying133
  a41 := Tryz.isAgg133
  z41 := Tryz.sizeOf133
  v41 := Tryz.zeroValue133
  i41 := by kernel_rfl
  t44 := Tryz.underlying136
  a44 := Tryz.isAgg136
  z44 := Tryz.sizeOf136
  v44 := Tryz.zeroValue136
  i44 := by kernel_rfl
  t49 := Tryz.underlying163
  a49 := Tryz.isAgg163
  z49 := Tryz.sizeOf163
  v49 := Tryz.zeroValue163
  i49 := by kernel_rfl
  t51 := Tryz.underlying165
  a51 := Tryz.isAgg165
  z51 := Tryz.sizeOf165
  v51 := Tryz.zeroValue165
  i51 := by kernel_rfl
  t53 := Tryz.underlying167
  a53 := Tryz.isAgg167
  z53 := Tryz.sizeOf167
  v53 := Tryz.zeroValue167
  i53 := by kernel_rfl
  t54 := Tryz.underlying168
  a54 := Tryz.isAgg168
  z54 := Tryz.sizeOf168
  v54 := Tryz.zeroValue168
  i54 := by kernel_rfl
  t58 := Tryz.underlying172
  a58 := Tryz.isAgg172
  z58 := Tryz.sizeOf172
  v58 := Tryz.zeroValue172
  i58 := by kernel_rfl
  t60 := Tryz.underlying187
  a60 := Tryz.isAgg187
  z60 := Tryz.sizeOf187
  v60 := Tryz.zeroValue187
  i60 := by kernel_rfl
  t64 := Tryz.underlying191
  a64 := Tryz.isAgg191
  z64 := Tryz.sizeOf191
  v64 := Tryz.zeroValue191
  i64 := by kernel_rfl
  t66 := Tryz.underlying214
  a66 := Tryz.isAgg214
  z66 := Tryz.sizeOf214
  v66 := Tryz.zeroValue214
  i66 := by kernel_rfl
  t67 := Tryz.underlying215
  a67 := Tryz.isAgg215
  z67 := Tryz.sizeOf215
  v67 := Tryz.zeroValue215
  i67 := by kernel_rfl }
open Go.RowKit Go.Lib Go.Sort in
/-- sort.pdqsort_func AT A RANGE OF AT MOST 12. (LAID: no walk: one application.) -/
theorem Tryz.pdqsort_func_small {α : Type} [Inhabited α] (enc : α → Value) (lt : α → α → Bool) (g : Nat) (lb : Array Value) (sf : Nat) (sb : Array Value) (blk off a b : Nat) (lim : Int) (d : Array α) (w : World) (eg : ∀ args w, (callFunc g args).run Tryz.prog w = .ok (.enter g args) w) (hless : LessReads Tryz.prog g lb enc lt blk off d.size w) (hswap : SwapSwaps Tryz.prog sf sb enc blk off d.size) (hH : Holds enc w blk off d) (hblk : blk < w.heap.size) (hab : a ≤ b) (hb : b ≤ d.size) (hsz : d.size < 4611686018427387904) (h12 : b - a ≤ 12) :
    Calls Tryz.prog 96 #[.agg #[.func (.func g) #[] lb, .func (.func sf) #[] sb], .int .i64 a, .int .i64 b, .int .i64 lim] w fun e w' =>
      e = .returned (.tuple #[]) ∧ ∃ n, w' = putRow enc (Sort.ahead ((w.alloc (.cells #[.func (.func g) #[] lb, .func (.func sf) #[] sb] 136)).alloc (.cells #[.func (.func g) #[] lb, .func (.func sf) #[] sb] 136)) n) blk off (Sort.insertionSort lt d a b) := Any.pdqsort_func_small Tryz.laysGg14 enc lt g lb sf sb blk off a b lim d w eg hless hswap hH hblk hab hb hsz h12
def Tryz.laysGg6_ren : Go.Shelf.Ren := ⟨fun | 6 => 70 | 10 => 92 | 11 => 93 | 12 => 94 | 13 => 95 | 14 => 96 | 24 => 121 | 25 => 122 | 26 => 123 | 27 => 124 | 28 => 125 | 29 => 126 | 30 => 127 | 31 => 128 | 32 => 129 | 33 => 130 | 34 => 147 | 35 => 148 | 36 => 149 | 37 => 150 | 38 => 151 | 39 => 164 | n => n, fun | 20 => 20 | 26 => 109 | 35 => 127 | 0 => 0 | 37 => 129 | 3 => 3 | 41 => 133 | 44 => 136 | 49 => 163 | 51 => 165 | 4 => 4 | 54 => 168 | 53 => 167 | 58 => 172 | 5 => 5 | 9 => 9 | 60 => 187 | 64 => 191 | 66 => 214 | 67 => 215 | 17 => 17 | 32 => 124 | 33 => 125 | 82 => 265 | 12 => 12 | 75 => 259 | 76 => 260 | 77 => 261 | 78 => 178 | 79 => 262 | 80 => 263 | n => n, fun | n => n⟩
theorem Tryz.laysGg6 : Go.Proofs.LaysGg.n6 Tryz.prog Tryz.laysGg6_ren := {
  mixed := by kernel_rfl
  f6 := Tryz.func70.trans (congrArg some (by kernel_rfl))
  f10 := Tryz.func92.trans (congrArg some (by kernel_rfl))
  f11 := Tryz.func93.trans (congrArg some (by kernel_rfl))
  f12 := Tryz.func94.trans (congrArg some (by kernel_rfl))
  f13 := Tryz.func95.trans (congrArg some (by kernel_rfl))
  f14 := Tryz.func96.trans (congrArg some (by kernel_rfl))
  f24 := Tryz.func121.trans (congrArg some (by kernel_rfl))
  f25 := Tryz.func122.trans (congrArg some (by kernel_rfl))
  f26 := Tryz.func123.trans (congrArg some (by kernel_rfl))
  f27 := Tryz.func124.trans (congrArg some (by kernel_rfl))
  f28 := Tryz.func125.trans (congrArg some (by kernel_rfl))
  f29 := Tryz.func126.trans (congrArg some (by kernel_rfl))
  f30 := Tryz.func127.trans (congrArg some (by kernel_rfl))
  f31 := Tryz.func128.trans (congrArg some (by kernel_rfl))
  f32 := Tryz.func129.trans (congrArg some (by kernel_rfl))
  f33 := Tryz.func130.trans (congrArg some (by kernel_rfl))
  f34 := Tryz.func147.trans (congrArg some (by kernel_rfl))
  f35 := Tryz.func148.trans (congrArg some (by kernel_rfl))
  f36 := Tryz.func149.trans (congrArg some (by kernel_rfl))
  f37 := Tryz.func150.trans (congrArg some (by kernel_rfl))
  f38 := Tryz.func151.trans (congrArg some (by kernel_rfl))
  f39 := Tryz.func164.trans (congrArg some (by kernel_rfl))
  t0 := Tryz.underlying0
  a0 := Tryz.isAgg0
  z0 := Tryz.sizeOf0
  v0 := Tryz.zeroValue0
  i0 := by kernel_rfl
  t3 := Tryz.underlying3
  a3 := Tryz.isAgg3
  z3 := Tryz.sizeOf3
  v3 := Tryz.zeroValue3
  i3 := by kernel_rfl
  t4 := Tryz.underlying4
  a4 := Tryz.isAgg4
  z4 := Tryz.sizeOf4
  v4 := Tryz.zeroValue4
  i4 := by kernel_rfl
  t5 := Tryz.underlying5
  a5 := Tryz.isAgg5
  z5 := Tryz.sizeOf5
  v5 := Tryz.zeroValue5
  i5 := by kernel_rfl
  t9 := Tryz.underlying9
  a9 := Tryz.isAgg9
  z9 := Tryz.sizeOf9
  v9 := Tryz.zeroValue9
  i9 := by kernel_rfl
  t12 := Tryz.underlying12
  a12 := Tryz.isAgg12
  z12 := Tryz.sizeOf12
  v12 := Tryz.zeroValue12
  i12 := by kernel_rfl
  t17 := Tryz.underlying17
  a17 := Tryz.isAgg17
  z17 := Tryz.sizeOf17
  v17 := Tryz.zeroValue17
  i17 := by kernel_rfl
  t20 := Tryz.underlying20
  a20 := Tryz.isAgg20
  z20 := Tryz.sizeOf20
  v20 := Tryz.zeroValue20
  i20 := by kernel_rfl
  t26 := Tryz.underlying109
  a26 := Tryz.isAgg109
  z26 := Tryz.sizeOf109
  v26 := Tryz.zeroValue109
  i26 := by kernel_rfl
  t32 := Tryz.underlying124
  a32 := Tryz.isAgg124
  z32 := Tryz.sizeOf124
  v32 := Tryz.zeroValue124
  i32 := by kernel_rfl
  t33 := Tryz.underlying125
  a33 := Tryz.isAgg125
  z33 := Tryz.sizeOf125
  v33 := Tryz.zeroValue125
  i33 := by kernel_rfl
  t35 := Tryz.underlying127
  a35 := Tryz.isAgg127
  z35 := Tryz.sizeOf127
  v35 := Tryz.zeroValue127
  i35 := by kernel_rfl
  t37 := Tryz.underlying129
  a37 := Tryz.isAgg129
  z37 := Tryz.sizeOf129
  v37 := Tryz.zeroValue129
  i37 := by kernel_rfl
  t41 := Tryz.underlying133
  a41 := Tryz.isAgg133
  z41 := Tryz.sizeOf133
  v41 := Tryz.zeroValue133
  i41 := by kernel_rfl
  t44 := Tryz.underlying136
  a44 := Tryz.isAgg136
  z44 := Tryz.sizeOf136
  v44 := Tryz.zeroValue136
  i44 := by kernel_rfl
  t49 := Tryz.underlying163
  a49 := Tryz.isAgg163
  z49 := Tryz.sizeOf163
  v49 := Tryz.zeroValue163
  i49 := by kernel_rfl
  t51 := Tryz.underlying165
  a51 := Tryz.isAgg165
  z51 := Tryz.sizeOf165
  v51 := Tryz.zeroValue165
  i51 := by kernel_rfl
  t53 := Tryz.underlying167
  a53 := Tryz.isAgg167
  z53 := Tryz.sizeOf167
  v53 := Tryz.zeroValue167
  i53 := by kernel_rfl
  t54 := Tryz.underlying168
  a54 := Tryz.isAgg168
  z54 := Tryz.sizeOf168
  v54 := Tryz.zeroValue168
  i54 := by kernel_rfl
  t58 := Tryz.underlying172
  a58 := Tryz.isAgg172
  z58 := Tryz.sizeOf172
  v58 := Tryz.zeroValue172
  i58 := by kernel_rfl
  t60 := Tryz.underlying187
  a60 := Tryz.isAgg187
  z60 := Tryz.sizeOf187
  v60 := Tryz.zeroValue187
  i60 := by kernel_rfl
  t64 := Tryz.underlying191
  a64 := Tryz.isAgg191
  z64 := Tryz.sizeOf191
  v64 := Tryz.zeroValue191
  i64 := by kernel_rfl
  t66 := Tryz.underlying214
  a66 := Tryz.isAgg214
  z66 := Tryz.sizeOf214
  v66 := Tryz.zeroValue214
  i66 := by kernel_rfl
  t67 := Tryz.underlying215
  a67 := Tryz.isAgg215
  z67 := Tryz.sizeOf215
  v67 := Tryz.zeroValue215
  i67 := by kernel_rfl
  t75 := Tryz.underlying259
  a75 := Tryz.isAgg259
  z75 := Tryz.sizeOf259
  v75 := Tryz.zeroValue259
  i75 := by kernel_rfl
  t76 := Tryz.underlying260
  a76 := Tryz.isAgg260
  z76 := Tryz.sizeOf260
  v76 := Tryz.zeroValue260
  i76 := by kernel_rfl
  t77 := Tryz.underlying261
  a77 := Tryz.isAgg261
  z77 := Tryz.sizeOf261
  v77 := Tryz.zeroValue261
  i77 := by kernel_rfl
  t78 := Tryz.underlying178
  a78 := Tryz.isAgg178
  z78 := Tryz.sizeOf178
  v78 := Tryz.zeroValue178
  i78 := by kernel_rfl
  t79 := Tryz.underlying262
  a79 := Tryz.isAgg262
  z79 := Tryz.sizeOf262
  v79 := Tryz.zeroValue262
  i79 := by kernel_rfl
  t80 := Tryz.underlying263
  a80 := Tryz.isAgg263
  z80 := Tryz.sizeOf263
  v80 := Tryz.zeroValue263
  i80 := by kernel_rfl
  t82 := Tryz.underlying265
  a82 := Tryz.isAgg265
  z82 := Tryz.sizeOf265
  v82 := Tryz.zeroValue265
  i82 := by kernel_rfl }
open Go.RowKit Go.Lib Go.Sort in
theorem Tryz.insertionSort_func_cells {α : Type} [Inhabited α] (enc : α → List Value) (k : Nat) (hk : ∀ x, (enc x).length = k) (lt : α → α → Bool) (g : Nat) (lb : Array Value) (sf : Nat) (sb : Array Value) (blk off a b : Nat) (d : Array α) (w : World) (eg : ∀ args w, (callFunc g args).run Tryz.prog w = .ok (.enter g args) w) (hless : LessReadsK Tryz.prog g lb enc k lt blk off d.size w) (hswap : SwapSwapsK Tryz.prog sf sb enc k blk off d.size) (hH : HoldsK enc k w blk off d) (hblk : blk < w.heap.size) (hab : a ≤ b) (hb : b ≤ d.size) (hsz : d.size < 4611686018427387904) :
    Calls Tryz.prog 123 #[.agg #[.func (.func g) #[] lb, .func (.func sf) #[] sb], .int .i64 a, .int .i64 b] w fun e w' =>
      e = .returned (.tuple #[]) ∧ ∃ n, w' = putRowK enc k (Sort.ahead (w.alloc (.cells #[.func (.func g) #[] lb, .func (.func sf) #[] sb] 136)) n) blk off (Sort.insertionSort lt d a b) := Any.insertionSort_func_cells Tryz.laysGg26 enc k hk lt g lb sf sb blk off a b d w eg hless hswap hH hblk hab hb hsz
open Go.RowKit Go.Lib Go.Sort in
/-- sort.pdqsort_func AT A RANGE OF AT MOST 12. (LAID: no walk: one application.) -/
theorem Tryz.pdqsort_func_small_cells {α : Type} [Inhabited α] (enc : α → List Value) (k : Nat) (hk : ∀ x, (enc x).length = k) (lt : α → α → Bool) (g : Nat) (lb : Array Value) (sf : Nat) (sb : Array Value) (blk off a b : Nat) (lim : Int) (d : Array α) (w : World) (eg : ∀ args w, (callFunc g args).run Tryz.prog w = .ok (.enter g args) w) (hless : LessReadsK Tryz.prog g lb enc k lt blk off d.size w) (hswap : SwapSwapsK Tryz.prog sf sb enc k blk off d.size) (hH : HoldsK enc k w blk off d) (hblk : blk < w.heap.size) (hab : a ≤ b) (hb : b ≤ d.size) (hsz : d.size < 4611686018427387904) (h12 : b - a ≤ 12) :
    Calls Tryz.prog 96 #[.agg #[.func (.func g) #[] lb, .func (.func sf) #[] sb], .int .i64 a, .int .i64 b, .int .i64 lim] w fun e w' =>
      e = .returned (.tuple #[]) ∧ ∃ n, w' = putRowK enc k (Sort.ahead ((w.alloc (.cells #[.func (.func g) #[] lb, .func (.func sf) #[] sb] 136)).alloc (.cells #[.func (.func g) #[] lb, .func (.func sf) #[] sb] 136)) n) blk off (Sort.insertionSort lt d a b) := Any.pdqsort_func_small_cells Tryz.laysGg14 enc k hk lt g lb sf sb blk off a b lim d w eg hless hswap hH hblk hab hb hsz h12
open Go.RowKit Go.Lib Go.Sort in
theorem Tryz.insertionSort_func_none (lf : Fn) (la lb : Array Value) (f : Nat) (sb : Array Value) (a b : Nat) (h : b ≤ a + 1) (ha : a < 4611686018427387904) (w : World) :
    Calls Tryz.prog 123 #[.agg #[.func lf la lb, .func (.func f) #[] sb], .int .i64 a, .int .i64 b] w fun e w' => e = .returned (.tuple #[]) ∧ w' = w.alloc (.cells #[.func lf la lb, .func (.func f) #[] sb] 136) := Any.insertionSort_func_none Tryz.laysGg26 lf la lb f sb a b h ha w
open Go.RowKit Go.Lib Go.Sort in
theorem Tryz.pdqsort_func_tiny (lf : Fn) (la lb : Array Value) (f : Nat) (sb : Array Value) (n : Nat) (h : n ≤ 1) (lim : Int) (w : World) :
    Calls Tryz.prog 96 #[.agg #[.func lf la lb, .func (.func f) #[] sb], .int .i64 0, .int .i64 n, .int .i64 lim] w fun e w' => e = .returned (.tuple #[]) ∧ w' = (w.alloc (.cells #[.func lf la lb, .func (.func f) #[] sb] 136)).alloc (.cells #[.func lf la lb, .func (.func f) #[] sb] 136) := Any.pdqsort_func_tiny Tryz.laysGg14 lf la lb f sb n h lim w
open Go.RowKit Go.Lib Go.Sort in
/-- sort.insertionSort_func, from a world to a 'sortWorld' of it. (LAID: no walk: one application.) -/
theorem Tryz.insertionSort_func_w {α : Type} [Inhabited α] (enc : α → Value) (lt : α → α → Bool) (g : Nat) (lb : Array Value) (sf : Nat) (sb : Array Value) (blk off a b : Nat) (d : Array α) (w : World) (eg : ∀ args w, (callFunc g args).run Tryz.prog w = .ok (.enter g args) w) (hless : LessReads Tryz.prog g lb enc lt blk off d.size w) (hswap : SwapSwaps Tryz.prog sf sb enc blk off d.size) (hH : Holds enc w blk off d) (hblk : blk < w.heap.size) (hab : a ≤ b) (hb : b ≤ d.size) (hsz : d.size < 4611686018427387904) :
    Calls Tryz.prog 123 #[.agg #[.func (.func g) #[] lb, .func (.func sf) #[] sb], .int .i64 a, .int .i64 b] w fun e w' => e = .returned (.tuple #[]) ∧ ∃ n os, w' = sortWorld enc w blk off n (Sort.insertionSort lt d a b) os := Any.insertionSort_func_w Tryz.laysGg26 enc lt g lb sf sb blk off a b d w eg hless hswap hH hblk hab hb hsz
def Tryz.laysGg30_ren : Go.Shelf.Ren := ⟨fun | 30 => 127 | n => n, fun | 44 => 136 | 3 => 3 | 0 => 0 | 4 => 4 | 37 => 129 | 26 => 109 | n => n, fun | n => n⟩
theorem Tryz.laysGg30 : Go.Proofs.LaysGg.n30 Tryz.prog Tryz.laysGg30_ren := {
  mixed := by kernel_rfl
  f30 := Tryz.func127.trans (congrArg some (by kernel_rfl))
  t0 := Tryz.underlying0
  a0 := Tryz.isAgg0
  z0 := Tryz.sizeOf0
  v0 := Tryz.zeroValue0
  i0 := by kernel_rfl
  t3 := Tryz.underlying3
  a3 := Tryz.isAgg3
  z3 := Tryz.sizeOf3
  v3 := Tryz.zeroValue3
  i3 := by kernel_rfl
  t4 := Tryz.underlying4
  a4 := Tryz.isAgg4
  z4 := Tryz.sizeOf4
  v4 := Tryz.zeroValue4
  i4 := by kernel_rfl
  t26 := Tryz.underlying109
  a26 := Tryz.isAgg109
  z26 := Tryz.sizeOf109
  v26 := Tryz.zeroValue109
  i26 := by kernel_rfl
  t37 := Tryz.underlying129
  a37 := Tryz.isAgg129
  z37 := Tryz.sizeOf129
  v37 := Tryz.zeroValue129
  i37 := by kernel_rfl
  t44 := Tryz.underlying136
  a44 := Tryz.isAgg136
  z44 := Tryz.sizeOf136
  v44 := Tryz.zeroValue136
  i44 := by kernel_rfl }
open Go.RowKit Go.Lib Go.Sort in
theorem Tryz.reverseRange_func_one {α : Type} [Inhabited α] (enc : α → Value) (lf : Fn) (la lb : Array Value) (sf : Nat) (sb : Array Value) (blk off a b : Nat) (d : Array α) (w : World) (hswap : SwapSwaps Tryz.prog sf sb enc blk off d.size) (hH : Holds enc w blk off d) (hblk : blk < w.heap.size) (hab : a ≤ b) (hb : b ≤ d.size) (hsz : d.size < 4611686018427387904) :
    Calls Tryz.prog 127 #[.agg #[.func lf la lb, .func (.func sf) #[] sb], .int .i64 a, .int .i64 b] w fun e w' => e = .returned (.tuple #[]) ∧ ∃ n, w' = putRow enc (Sort.ahead (w.alloc (.cells #[.func lf la lb, .func (.func sf) #[] sb] 136)) n) blk off (reverseRange d a b) := Any.reverseRange_func_one Tryz.laysGg30 enc lf la lb sf sb blk off a b d w hswap hH hblk hab hb hsz
open Go.RowKit Go.Lib Go.Sort in
/-- sort.reverseRange_func, from a world to a 'sortWorld' of it. (LAID: no walk: one application.) -/
theorem Tryz.reverseRange_func_w {α : Type} [Inhabited α] (enc : α → Value) (lf : Fn) (la lb : Array Value) (sf : Nat) (sb : Array Value) (blk off a b : Nat) (d : Array α) (w : World) (hswap : SwapSwaps Tryz.prog sf sb enc blk off d.size) (hH : Holds enc w blk off d) (hblk : blk < w.heap.size) (hab : a ≤ b) (hb : b ≤ d.size) (hsz : d.size < 4611686018427387904) :
    Calls Tryz.prog 127 #[.agg #[.func lf la lb, .func (.func sf) #[] sb], .int .i64 a, .int .i64 b] w fun e w' => e = .returned (.tuple #[]) ∧ ∃ n os, w' = sortWorld enc w blk off n (reverseRange d a b) os := Any.reverseRange_func_w Tryz.laysGg30 enc lf la lb sf sb blk off a b d w hswap hH hblk hab hb hsz
def Tryz.laysGg39_ren : Go.Shelf.Ren := ⟨fun | 39 => 164 | n => n, fun | 44 => 136 | 3 => 3 | 64 => 191 | 0 => 0 | 26 => 109 | 4 => 4 | 37 => 129 | n => n, fun | n => n⟩
theorem Tryz.laysGg39 : Go.Proofs.LaysGg.n39 Tryz.prog Tryz.laysGg39_ren := {
  mixed := by kernel_rfl
  f39 := Tryz.func164.trans (congrArg some (by kernel_rfl))
  t0 := Tryz.underlying0
  a0 := Tryz.isAgg0
  z0 := Tryz.sizeOf0
  v0 := Tryz.zeroValue0
  i0 := by kernel_rfl
  t3 := Tryz.underlying3
  a3 := Tryz.isAgg3
  z3 := Tryz.sizeOf3
  v3 := Tryz.zeroValue3
  i3 := by kernel_rfl
  t4 := Tryz.underlying4
  a4 := Tryz.isAgg4
  z4 := Tryz.sizeOf4
  v4 := Tryz.zeroValue4
  i4 := by kernel_rfl
  t26 := Tryz.underlying109
  a26 := Tryz.isAgg109
  z26 := Tryz.sizeOf109
  v26 := Tryz.zeroValue109
  i26 := by kernel_rfl
  t37 := Tryz.underlying129
  a37 := Tryz.isAgg129
  z37 := Tryz.sizeOf129
  v37 := Tryz.zeroValue129
  i37 := by kernel_rfl
  t44 := Tryz.underlying136
  a44 := Tryz.isAgg136
  z44 := Tryz.sizeOf136
  v44 := Tryz.zeroValue136
  i44 := by kernel_rfl
  t64 := Tryz.underlying191
  a64 := Tryz.isAgg191
  z64 := Tryz.sizeOf191
  v64 := Tryz.zeroValue191
  i64 := by kernel_rfl }
open Go.RowKit Go.Lib Go.Sort in
theorem Tryz.order2_func {α : Type} [Inhabited α] (enc : α → Value) (lt : α → α → Bool) (g : Nat) (lb : Array Value) (sfn : Fn) (sa sb : Array Value) (blk off : Nat) (w0 W : World) (d : Array α) (a b cb co s : Nat) (eg : ∀ args w, (callFunc g args).run Tryz.prog w = .ok (.enter g args) w) (hL : LessReads Tryz.prog g lb enc lt blk off d.size w0) (hW : SW enc w0 blk off d W) (ha : a < d.size) (hb : b < d.size) (hS : Holds (Value.int .i64) W cb co (one s)) (hcb : cb < W.heap.size) (hs : s < 4611686018427387904) :
    Calls Tryz.prog 164 #[.agg #[.func (.func g) #[] lb, .func sfn sa sb], .int .i64 a, .int .i64 b, .pointer (some ⟨cb, co, none⟩)] W fun e w' =>
      e = .returned (.tuple #[.int .i64 (order2 lt d a b s).1, .int .i64 (order2 lt d a b s).2.1]) ∧ ∃ n os, w' = sortWorld (Value.int .i64) W cb co n (one (order2 lt d a b s).2.2) os := Any.order2_func Tryz.laysGg39 enc lt g lb sfn sa sb blk off w0 W d a b cb co s eg hL hW ha hb hS hcb hs
def Tryz.laysGg38_ren : Go.Shelf.Ren := ⟨fun | 38 => 151 | 39 => 164 | n => n, fun | 44 => 136 | 3 => 3 | 64 => 191 | 0 => 0 | 67 => 215 | 26 => 109 | 4 => 4 | 37 => 129 | n => n, fun | n => n⟩
theorem Tryz.laysGg38 : Go.Proofs.LaysGg.n38 Tryz.prog Tryz.laysGg38_ren := {
  mixed := by kernel_rfl
  f38 := Tryz.func151.trans (congrArg some (by kernel_rfl))
  f39 := Tryz.func164.trans (congrArg some (by kernel_rfl))
  t0 := Tryz.underlying0
  a0 := Tryz.isAgg0
  z0 := Tryz.sizeOf0
  v0 := Tryz.zeroValue0
  i0 := by kernel_rfl
  t3 := Tryz.underlying3
  a3 := Tryz.isAgg3
  z3 := Tryz.sizeOf3
  v3 := Tryz.zeroValue3
  i3 := by kernel_rfl
  t4 := Tryz.underlying4
  a4 := Tryz.isAgg4
  z4 := Tryz.sizeOf4
  v4 := Tryz.zeroValue4
  i4 := by kernel_rfl
  t26 := Tryz.underlying109
  a26 := Tryz.isAgg109
  z26 := Tryz.sizeOf109
  v26 := Tryz.zeroValue109
  i26 := by kernel_rfl
  t37 := Tryz.underlying129
  a37 := Tryz.isAgg129
  z37 := Tryz.sizeOf129
  v37 := Tryz.zeroValue129
  i37 := by kernel_rfl
  t44 := Tryz.underlying136
  a44 := Tryz.isAgg136
  z44 := Tryz.sizeOf136
  v44 := Tryz.zeroValue136
  i44 := by kernel_rfl
  t64 := Tryz.underlying191
  a64 := Tryz.isAgg191
  z64 := Tryz.sizeOf191
  v64 := Tryz.zeroValue191
  i64 := by kernel_rfl
  t67 := Tryz.underlying215
  a67 := Tryz.isAgg215
  z67 := Tryz.sizeOf215
  v67 := Tryz.zeroValue215
  i67 := by kernel_rfl }
open Go.RowKit Go.Lib Go.Sort in
theorem Tryz.median_func {α : Type} [Inhabited α] (enc : α → Value) (lt : α → α → Bool) (g : Nat) (lb : Array Value) (sfn : Fn) (sa sb : Array Value) (blk off : Nat) (w0 W : World) (d : Array α) (a b c cb co s : Nat) (eg : ∀ args w, (callFunc g args).run Tryz.prog w = .ok (.enter g args) w) (hL : LessReads Tryz.prog g lb enc lt blk off d.size w0) (hW : SW enc w0 blk off d W) (ha : a < d.size) (hb : b < d.size) (hc : c < d.size) (hS : Holds (Value.int .i64) W cb co (one s)) (hcb0 : w0.heap.size ≤ cb) (hcb : cb < W.heap.size) (hs : s + 3 < 4611686018427387904) :
    Calls Tryz.prog 151 #[.agg #[.func (.func g) #[] lb, .func sfn sa sb], .int .i64 a, .int .i64 b, .int .i64 c, .pointer (some ⟨cb, co, none⟩)] W fun e w' =>
      e = .returned (.int .i64 (median lt d a b c s).1) ∧ ∃ n os, w' = sortWorld (Value.int .i64) W cb co n (one (median lt d a b c s).2) os := Any.median_func Tryz.laysGg38 enc lt g lb sfn sa sb blk off w0 W d a b c cb co s eg hL hW ha hb hc hS hcb0 hcb hs
def Tryz.laysGg37_ren : Go.Shelf.Ren := ⟨fun | 37 => 150 | 38 => 151 | 39 => 164 | n => n, fun | 44 => 136 | 3 => 3 | 64 => 191 | 0 => 0 | 67 => 215 | 26 => 109 | 4 => 4 | 37 => 129 | n => n, fun | n => n⟩
theorem Tryz.laysGg37 : Go.Proofs.LaysGg.n37 Tryz.prog Tryz.laysGg37_ren := {
  mixed := by kernel_rfl
  f37 := Tryz.func150.trans (congrArg some (by kernel_rfl))
  f38 := Tryz.func151.trans (congrArg some (by kernel_rfl))
  f39 := Tryz.func164.trans (congrArg some (by kernel_rfl))
  t0 := Tryz.underlying0
  a0 := Tryz.isAgg0
  z0 := Tryz.sizeOf0
  v0 := Tryz.zeroValue0
  i0 := by kernel_rfl
  t3 := Tryz.underlying3
  a3 := Tryz.isAgg3
  z3 := Tryz.sizeOf3
  v3 := Tryz.zeroValue3
  i3 := by kernel_rfl
  t4 := Tryz.underlying4
  a4 := Tryz.isAgg4
  z4 := Tryz.sizeOf4
  v4 := Tryz.zeroValue4
  i4 := by kernel_rfl
  t26 := Tryz.underlying109
  a26 := Tryz.isAgg109
  z26 := Tryz.sizeOf109
  v26 := Tryz.zeroValue109
  i26 := by kernel_rfl
  t37 := Tryz.underlying129
  a37 := Tryz.isAgg129
  z37 := Tryz.sizeOf129
  v37 := Tryz.zeroValue129
  i37 := by kernel_rfl
  t44 := Tryz.underlying136
  a44 := Tryz.isAgg136
  z44 := Tryz.sizeOf136
  v44 := Tryz.zeroValue136
  i44 := by kernel_rfl
  t64 := Tryz.underlying191
  a64 := Tryz.isAgg191
  z64 := Tryz.sizeOf191
  v64 := Tryz.zeroValue191
  i64 := by kernel_rfl
  t67 := Tryz.underlying215
  a67 := Tryz.isAgg215
  z67 := Tryz.sizeOf215
  v67 := Tryz.zeroValue215
  i67 := by kernel_rfl }
open Go.RowKit Go.Lib Go.Sort in
theorem Tryz.medianAdjacent_func {α : Type} [Inhabited α] (enc : α → Value) (lt : α → α → Bool) (g : Nat) (lb : Array Value) (sfn : Fn) (sa sb : Array Value) (blk off : Nat) (w0 W : World) (d : Array α) (a cb co s : Nat) (eg : ∀ args w, (callFunc g args).run Tryz.prog w = .ok (.enter g args) w) (hL : LessReads Tryz.prog g lb enc lt blk off d.size w0) (hW : SW enc w0 blk off d W) (ha1 : 1 ≤ a) (ha2 : a + 1 < d.size) (hsz : d.size < 4611686018427387904) (hS : Holds (Value.int .i64) W cb co (one s)) (hcb0 : w0.heap.size ≤ cb) (hcb : cb < W.heap.size) (hs : s + 3 < 4611686018427387904) :
    Calls Tryz.prog 150 #[.agg #[.func (.func g) #[] lb, .func sfn sa sb], .int .i64 a, .pointer (some ⟨cb, co, none⟩)] W fun e w' =>
      e = .returned (.int .i64 (medianAdjacent lt d a s).1) ∧ ∃ n os, w' = sortWorld (Value.int .i64) W cb co n (one (medianAdjacent lt d a s).2) os := Any.medianAdjacent_func Tryz.laysGg37 enc lt g lb sfn sa sb blk off w0 W d a cb co s eg hL hW ha1 ha2 hsz hS hcb0 hcb hs
def Tryz.lays315_ren : Go.Shelf.Ren := ⟨fun | 315 => 160 | n => n, fun | 9 => 9 | 40 => 151 | 4 => 4 | 3 => 3 | 0 => 0 | 21 => 21 | n => n, fun | n => n⟩
theorem Tryz.lays315 : Go.Proofs.Lays.n315 Tryz.prog Tryz.lays315_ren := {
  mixed := by kernel_rfl
  f315 := Tryz.func160.trans (congrArg some (by kernel_rfl))
  t0 := Tryz.underlying0
  a0 := Tryz.isAgg0
  z0 := Tryz.sizeOf0
  v0 := Tryz.zeroValue0
  t3 := Tryz.underlying3
  a3 := Tryz.isAgg3
  z3 := Tryz.sizeOf3
  v3 := Tryz.zeroValue3
  t4 := Tryz.underlying4
  a4 := Tryz.isAgg4
  z4 := Tryz.sizeOf4
  v4 := Tryz.zeroValue4
  t9 := Tryz.underlying9
  a9 := Tryz.isAgg9
  z9 := Tryz.sizeOf9
  v9 := Tryz.zeroValue9
  t21 := Tryz.underlying21
  a21 := Tryz.isAgg21
  z21 := Tryz.sizeOf21
  v21 := Tryz.zeroValue21
  t40 := Tryz.underlying151
  a40 := Tryz.isAgg151
  z40 := Tryz.sizeOf151
  v40 := Tryz.zeroValue151 }
open Go.RowKit Go.Lib in
theorem Tryz.strings_indexFunc (g : Nat) (lb : Array Value) (eg : ∀ args w, (callFunc g args).run Tryz.prog w = .ok (.enter g args) w) (p : Nat → Bool) (truth : Bool) (s : ByteArray) (w : World) (hp : PredAt Tryz.prog g lb encR p w) :
    Calls Tryz.prog 160 #[.string s, .func (.func g) #[] lb, .bool truth] w fun e w' => e = .returned (.int .i64 (Lib.idxFunc p truth s)) ∧ Below w.heap.size w w' := Any.strings_indexFunc Tryz.lays315 g lb eg p truth s w hp
def Tryz.lays273_ren : Go.Shelf.Ren := ⟨fun | 273 => 145 | 271 => 163 | 120 => 178 | 197 => 138 | 260 => 157 | n => n, fun | 9 => 9 | 40 => 151 | 4 => 4 | 3 => 3 | 105 => 179 | 21 => 21 | 5 => 5 | 119 => 152 | 0 => 0 | 46 => 133 | 139 => 226 | 138 => 225 | n => n, fun | 3 => 6 | 4 => 7 | n => n⟩
theorem Tryz.lays273 : Go.Proofs.Lays.n273 Tryz.prog Tryz.lays273_ren := {
  mixed := by kernel_rfl
  f120 := Tryz.func178.trans (congrArg some (by kernel_rfl))
  f197 := Tryz.func138.trans (congrArg some (by kernel_rfl))
  f260 := Tryz.func157.trans (congrArg some (by kernel_rfl))
  f271 := Tryz.func163.trans (congrArg some (by kernel_rfl))
  f273 := Tryz.func145.trans (congrArg some (by kernel_rfl))
  t0 := Tryz.underlying0
  a0 := Tryz.isAgg0
  z0 := Tryz.sizeOf0
  v0 := Tryz.zeroValue0
  t3 := Tryz.underlying3
  a3 := Tryz.isAgg3
  z3 := Tryz.sizeOf3
  v3 := Tryz.zeroValue3
  t4 := Tryz.underlying4
  a4 := Tryz.isAgg4
  z4 := Tryz.sizeOf4
  v4 := Tryz.zeroValue4
  t5 := Tryz.underlying5
  a5 := Tryz.isAgg5
  z5 := Tryz.sizeOf5
  v5 := Tryz.zeroValue5
  t9 := Tryz.underlying9
  a9 := Tryz.isAgg9
  z9 := Tryz.sizeOf9
  v9 := Tryz.zeroValue9
  t21 := Tryz.underlying21
  a21 := Tryz.isAgg21
  z21 := Tryz.sizeOf21
  v21 := Tryz.zeroValue21
  t40 := Tryz.underlying151
  a40 := Tryz.isAgg151
  z40 := Tryz.sizeOf151
  v40 := Tryz.zeroValue151
  t46 := Tryz.underlying133
  a46 := Tryz.isAgg133
  z46 := Tryz.sizeOf133
  v46 := Tryz.zeroValue133
  t105 := Tryz.underlying179
  a105 := Tryz.isAgg179
  z105 := Tryz.sizeOf179
  v105 := Tryz.zeroValue179
  t119 := Tryz.underlying152
  a119 := Tryz.isAgg152
  z119 := Tryz.sizeOf152
  t138 := Tryz.underlying225
  a138 := Tryz.isAgg225
  z138 := Tryz.sizeOf225
  v138 := Tryz.zeroValue225
  t139 := Tryz.underlying226
  a139 := Tryz.isAgg226
  z139 := Tryz.sizeOf226
  v139 := Tryz.zeroValue226
  g3 := by kernel_rfl
  g4 := by kernel_rfl }
open Go.RowKit Go.Lib in
theorem Tryz.strings_lastIndexFunc (g : Nat) (lb : Array Value) (eg : ∀ args w, (callFunc g args).run Tryz.prog w = .ok (.enter g args) w) (p : Nat → Bool) (truth : Bool) (s : ByteArray) (w : World) (hs : s.size ≤ 9223372036854775807) (hT : Lib.Utf8Tabs 6 7 w) (hp : PredAt Tryz.prog g lb encR p w) :
    Calls Tryz.prog 145 #[.string s, .func (.func g) #[] lb, .bool truth] w fun e w' => e = .returned (.int .i64 (Lib.lastIdxFunc p truth s)) ∧ Below w.heap.size w w' := Any.strings_lastIndexFunc Tryz.lays273 g lb eg p truth s w hs hT hp
def Tryz.lays272_ren : Go.Shelf.Ren := ⟨fun | 272 => 143 | 315 => 160 | n => n, fun | 9 => 9 | 40 => 151 | 4 => 4 | 3 => 3 | 0 => 0 | 21 => 21 | n => n, fun | n => n⟩
theorem Tryz.lays272 : Go.Proofs.Lays.n272 Tryz.prog Tryz.lays272_ren := {
  mixed := by kernel_rfl
  f272 := Tryz.func143.trans (congrArg some (by kernel_rfl))
  f315 := Tryz.func160.trans (congrArg some (by kernel_rfl))
  t0 := Tryz.underlying0
  a0 := Tryz.isAgg0
  z0 := Tryz.sizeOf0
  v0 := Tryz.zeroValue0
  t3 := Tryz.underlying3
  a3 := Tryz.isAgg3
  z3 := Tryz.sizeOf3
  v3 := Tryz.zeroValue3
  t4 := Tryz.underlying4
  a4 := Tryz.isAgg4
  z4 := Tryz.sizeOf4
  v4 := Tryz.zeroValue4
  t9 := Tryz.underlying9
  a9 := Tryz.isAgg9
  z9 := Tryz.sizeOf9
  v9 := Tryz.zeroValue9
  t21 := Tryz.underlying21
  a21 := Tryz.isAgg21
  z21 := Tryz.sizeOf21
  v21 := Tryz.zeroValue21
  t40 := Tryz.underlying151
  a40 := Tryz.isAgg151
  z40 := Tryz.sizeOf151
  v40 := Tryz.zeroValue151 }
open Go.RowKit Go.Lib in
theorem Tryz.strings_TrimLeftFunc (g : Nat) (lb : Array Value) (eg : ∀ args w, (callFunc g args).run Tryz.prog w = .ok (.enter g args) w) (p : Nat → Bool) (s : ByteArray) (w : World) (hp : PredAt Tryz.prog g lb encR p w) :
    Calls Tryz.prog 143 #[.string s, .func (.func g) #[] lb] w fun e w' => e = .returned (.string (Lib.trimLeftF p s)) ∧ Below w.heap.size w w' := Any.strings_TrimLeftFunc Tryz.lays272 g lb eg p s w hp
def Tryz.lays238_ren : Go.Shelf.Ren := ⟨fun | 238 => 108 | 273 => 145 | 197 => 138 | 271 => 163 | 260 => 157 | 120 => 178 | n => n, fun | 9 => 9 | 40 => 151 | 4 => 4 | 3 => 3 | 105 => 179 | 21 => 21 | 5 => 5 | 119 => 152 | 0 => 0 | 46 => 133 | 139 => 226 | 138 => 225 | n => n, fun | 3 => 6 | 4 => 7 | n => n⟩
theorem Tryz.lays238 : Go.Proofs.Lays.n238 Tryz.prog Tryz.lays238_ren := {
  mixed := by kernel_rfl
  f120 := Tryz.func178.trans (congrArg some (by kernel_rfl))
  f197 := Tryz.func138.trans (congrArg some (by kernel_rfl))
  f238 := Tryz.func108.trans (congrArg some (by kernel_rfl))
  f260 := Tryz.func157.trans (congrArg some (by kernel_rfl))
  f271 := Tryz.func163.trans (congrArg some (by kernel_rfl))
  f273 := Tryz.func145.trans (congrArg some (by kernel_rfl))
  t0 := Tryz.underlying0
  a0 := Tryz.isAgg0
  z0 := Tryz.sizeOf0
  v0 := Tryz.zeroValue0
  t3 := Tryz.underlying3
  a3 := Tryz.isAgg3
  z3 := Tryz.sizeOf3
  v3 := Tryz.zeroValue3
  t4 := Tryz.underlying4
  a4 := Tryz.isAgg4
  z4 := Tryz.sizeOf4
  v4 := Tryz.zeroValue4
  t5 := Tryz.underlying5
  a5 := Tryz.isAgg5
  z5 := Tryz.sizeOf5
  v5 := Tryz.zeroValue5
  t9 := Tryz.underlying9
  a9 := Tryz.isAgg9
  z9 := Tryz.sizeOf9
  v9 := Tryz.zeroValue9
  t21 := Tryz.underlying21
  a21 := Tryz.isAgg21
  z21 := Tryz.sizeOf21
  v21 := Tryz.zeroValue21
  t40 := Tryz.underlying151
  a40 := Tryz.isAgg151
  z40 := Tryz.sizeOf151
  v40 := Tryz.zeroValue151
  t46 := Tryz.underlying133
  a46 := Tryz.isAgg133
  z46 := Tryz.sizeOf133
  v46 := Tryz.zeroValue133
  t105 := Tryz.underlying179
  a105 := Tryz.isAgg179
  z105 := Tryz.sizeOf179
  v105 := Tryz.zeroValue179
  t119 := Tryz.underlying152
  a119 := Tryz.isAgg152
  z119 := Tryz.sizeOf152
  t138 := Tryz.underlying225
  a138 := Tryz.isAgg225
  z138 := Tryz.sizeOf225
  v138 := Tryz.zeroValue225
  t139 := Tryz.underlying226
  a139 := Tryz.isAgg226
  z139 := Tryz.sizeOf226
  v139 := Tryz.zeroValue226
  g3 := by kernel_rfl
  g4 := by kernel_rfl }
open Go.RowKit Go.Lib in
theorem Tryz.strings_TrimRightFunc (g : Nat) (lb : Array Value) (eg : ∀ args w, (callFunc g args).run Tryz.prog w = .ok (.enter g args) w) (p : Nat → Bool) (s : ByteArray) (w : World) (hs : s.size ≤ 9223372036854775807) (hT : Lib.Utf8Tabs 6 7 w) (hp : PredAt Tryz.prog g lb encR p w) :
    Calls Tryz.prog 108 #[.string s, .func (.func g) #[] lb] w fun e w' => e = .returned (.string (Lib.trimRightF p s)) ∧ Below w.heap.size w w' := Any.strings_TrimRightFunc Tryz.lays238 g lb eg p s w hs hT hp
def Tryz.lays237_ren : Go.Shelf.Ren := ⟨fun | 237 => 106 | 272 => 143 | 238 => 108 | 315 => 160 | 273 => 145 | 197 => 138 | 271 => 163 | 260 => 157 | 120 => 178 | n => n, fun | 9 => 9 | 40 => 151 | 4 => 4 | 3 => 3 | 105 => 179 | 21 => 21 | 0 => 0 | 5 => 5 | 119 => 152 | 46 => 133 | 139 => 226 | 138 => 225 | n => n, fun | 3 => 6 | 4 => 7 | n => n⟩
theorem Tryz.lays237 : Go.Proofs.Lays.n237 Tryz.prog Tryz.lays237_ren := {
  mixed := by kernel_rfl
  f120 := Tryz.func178.trans (congrArg some (by kernel_rfl))
  f197 := Tryz.func138.trans (congrArg some (by kernel_rfl))
  f237 := Tryz.func106.trans (congrArg some (by kernel_rfl))
  f238 := Tryz.func108.trans (congrArg some (by kernel_rfl))
  f260 := Tryz.func157.trans (congrArg some (by kernel_rfl))
  f271 := Tryz.func163.trans (congrArg some (by kernel_rfl))
  f272 := Tryz.func143.trans (congrArg some (by kernel_rfl))
  f273 := Tryz.func145.trans (congrArg some (by kernel_rfl))
  f315 := Tryz.func160.trans (congrArg some (by kernel_rfl))
  t0 := Tryz.underlying0
  a0 := Tryz.isAgg0
  z0 := Tryz.sizeOf0
  v0 := Tryz.zeroValue0
  t3 := Tryz.underlying3
  a3 := Tryz.isAgg3
  z3 := Tryz.sizeOf3
  v3 := Tryz.zeroValue3
  t4 := Tryz.underlying4
  a4 := Tryz.isAgg4
  z4 := Tryz.sizeOf4
  v4 := Tryz.zeroValue4
  t5 := Tryz.underlying5
  a5 := Tryz.isAgg5
  z5 := Tryz.sizeOf5
  v5 := Tryz.zeroValue5
  t9 := Tryz.underlying9
  a9 := Tryz.isAgg9
  z9 := Tryz.sizeOf9
  v9 := Tryz.zeroValue9
  t21 := Tryz.underlying21
  a21 := Tryz.isAgg21
  z21 := Tryz.sizeOf21
  v21 := Tryz.zeroValue21
  t40 := Tryz.underlying151
  a40 := Tryz.isAgg151
  z40 := Tryz.sizeOf151
  v40 := Tryz.zeroValue151
  t46 := Tryz.underlying133
  a46 := Tryz.isAgg133
  z46 := Tryz.sizeOf133
  v46 := Tryz.zeroValue133
  t105 := Tryz.underlying179
  a105 := Tryz.isAgg179
  z105 := Tryz.sizeOf179
  v105 := Tryz.zeroValue179
  t119 := Tryz.underlying152
  a119 := Tryz.isAgg152
  z119 := Tryz.sizeOf152
  t138 := Tryz.underlying225
  a138 := Tryz.isAgg225
  z138 := Tryz.sizeOf225
  v138 := Tryz.zeroValue225
  t139 := Tryz.underlying226
  a139 := Tryz.isAgg226
  z139 := Tryz.sizeOf226
  v139 := Tryz.zeroValue226
  g3 := by kernel_rfl
  g4 := by kernel_rfl }
open Go.RowKit Go.Lib in
/-- **strings.TrimFunc(s, f) AT EVERY STRING, AT WHATEVER FUNCTION VALUE.** (LAID: no walk: one application.) -/
theorem Tryz.strings_TrimFunc (g : Nat) (lb : Array Value) (eg : ∀ args w, (callFunc g args).run Tryz.prog w = .ok (.enter g args) w) (p : Nat → Bool) (s : ByteArray) (w : World) (hs : s.size ≤ 9223372036854775807) (hT : Lib.Utf8Tabs 6 7 w) (hp : PredAt Tryz.prog g lb encR p w) :
    Calls Tryz.prog 106 #[.string s, .func (.func g) #[] lb] w fun e w' => e = .returned (.string (Lib.trimF p s)) ∧ Below w.heap.size w w' := Any.strings_TrimFunc Tryz.lays237 g lb eg p s w hs hT hp
def Tryz.lays199_ren : Go.Shelf.Ren := ⟨fun | 199 => 107 | 261 => 144 | 311 => 161 | 312 => 162 | n => n, fun | 21 => 21 | 4 => 4 | 51 => 163 | 141 => 185 | 0 => 0 | 196 => 206 | 193 => 203 | 3 => 3 | 198 => 209 | 49 => 207 | 194 => 204 | 201 => 212 | 226 => 230 | 46 => 133 | 227 => 231 | n => n, fun | 6 => 1 | n => n⟩
theorem Tryz.lays199 : Go.Proofs.Lays.n199 Tryz.prog Tryz.lays199_ren := {
  mixed := by kernel_rfl
  f199 := Tryz.func107.trans (congrArg some (by kernel_rfl))
  f261 := Tryz.func144.trans (congrArg some (by kernel_rfl))
  f311 := Tryz.func161.trans (congrArg some (by kernel_rfl))
  f312 := Tryz.func162.trans (congrArg some (by kernel_rfl))
  t0 := Tryz.underlying0
  a0 := Tryz.isAgg0
  z0 := Tryz.sizeOf0
  v0 := Tryz.zeroValue0
  t3 := Tryz.underlying3
  a3 := Tryz.isAgg3
  z3 := Tryz.sizeOf3
  v3 := Tryz.zeroValue3
  t4 := Tryz.underlying4
  a4 := Tryz.isAgg4
  z4 := Tryz.sizeOf4
  v4 := Tryz.zeroValue4
  t21 := Tryz.underlying21
  a21 := Tryz.isAgg21
  z21 := Tryz.sizeOf21
  v21 := Tryz.zeroValue21
  t46 := Tryz.underlying133
  a46 := Tryz.isAgg133
  z46 := Tryz.sizeOf133
  v46 := Tryz.zeroValue133
  t49 := Tryz.underlying207
  a49 := Tryz.isAgg207
  z49 := Tryz.sizeOf207
  v49 := Tryz.zeroValue207
  t51 := Tryz.underlying163
  a51 := Tryz.isAgg163
  z51 := Tryz.sizeOf163
  v51 := Tryz.zeroValue163
  t141 := Tryz.underlying185
  a141 := Tryz.isAgg185
  z141 := Tryz.sizeOf185
  v141 := Tryz.zeroValue185
  t193 := Tryz.underlying203
  a193 := Tryz.isAgg203
  z193 := Tryz.sizeOf203
  v193 := Tryz.zeroValue203
  t194 := Tryz.underlying204
  a194 := Tryz.isAgg204
  z194 := Tryz.sizeOf204
  v194 := Tryz.zeroValue204
  t196 := Tryz.underlying206
  a196 := Tryz.isAgg206
  z196 := Tryz.sizeOf206
  v196 := Tryz.zeroValue206
  t198 := Tryz.underlying209
  a198 := Tryz.isAgg209
  z198 := Tryz.sizeOf209
  v198 := Tryz.zeroValue209
  t201 := Tryz.underlying212
  a201 := Tryz.isAgg212
  z201 := Tryz.sizeOf212
  v201 := Tryz.zeroValue212
  t226 := Tryz.underlying230
  a226 := Tryz.isAgg230
  z226 := Tryz.sizeOf230
  v226 := Tryz.zeroValue230
  t227 := Tryz.underlying231
  a227 := Tryz.isAgg231
  z227 := Tryz.sizeOf231
  v227 := Tryz.zeroValue231
  g6 := by kernel_rfl }
open Go.RowKit Go.Lib in
theorem Tryz.unicode_IsSpace (r : Int) (w : World) (h0 : 0 ≤ r) (h : r ≤ 255) :
    Calls Tryz.prog 107 #[.int .i32 r] w fun e w' => e = .returned (.bool (Lib.isSpaceL r)) ∧ w' = w := Any.unicode_IsSpace Tryz.lays199 r w h0 h
def Tryz.lays204_ren : Go.Shelf.Ren := ⟨fun | 204 => 105 | 262 => 142 | 313 => 159 | 274 => 176 | 275 => 177 | n => n, fun | 21 => 21 | 4 => 4 | 3 => 3 | 162 => 202 | 203 => 200 | 160 => 227 | 46 => 133 | 0 => 0 | 208 => 240 | 51 => 163 | 206 => 238 | n => n, fun | 13 => 4 | n => n⟩
theorem Tryz.lays204 : Go.Proofs.Lays.n204 Tryz.prog Tryz.lays204_ren := {
  mixed := by kernel_rfl
  f204 := Tryz.func105.trans (congrArg some (by kernel_rfl))
  f262 := Tryz.func142.trans (congrArg some (by kernel_rfl))
  f274 := Tryz.func176.trans (congrArg some (by kernel_rfl))
  f275 := Tryz.func177.trans (congrArg some (by kernel_rfl))
  f313 := Tryz.func159.trans (congrArg some (by kernel_rfl))
  t0 := Tryz.underlying0
  a0 := Tryz.isAgg0
  z0 := Tryz.sizeOf0
  v0 := Tryz.zeroValue0
  t3 := Tryz.underlying3
  a3 := Tryz.isAgg3
  z3 := Tryz.sizeOf3
  v3 := Tryz.zeroValue3
  t4 := Tryz.underlying4
  a4 := Tryz.isAgg4
  z4 := Tryz.sizeOf4
  v4 := Tryz.zeroValue4
  t21 := Tryz.underlying21
  a21 := Tryz.isAgg21
  z21 := Tryz.sizeOf21
  v21 := Tryz.zeroValue21
  t46 := Tryz.underlying133
  a46 := Tryz.isAgg133
  z46 := Tryz.sizeOf133
  v46 := Tryz.zeroValue133
  t51 := Tryz.underlying163
  a51 := Tryz.isAgg163
  z51 := Tryz.sizeOf163
  v51 := Tryz.zeroValue163
  t160 := Tryz.underlying227
  a160 := Tryz.isAgg227
  z160 := Tryz.sizeOf227
  v160 := Tryz.zeroValue227
  t162 := Tryz.underlying202
  a162 := Tryz.isAgg202
  z162 := Tryz.sizeOf202
  v162 := Tryz.zeroValue202
  t203 := Tryz.underlying200
  a203 := Tryz.isAgg200
  z203 := Tryz.sizeOf200
  v203 := Tryz.zeroValue200
  t206 := Tryz.underlying238
  a206 := Tryz.isAgg238
  z206 := Tryz.sizeOf238
  v206 := Tryz.zeroValue238
  t208 := Tryz.underlying240
  a208 := Tryz.isAgg240
  z208 := Tryz.sizeOf240
  v208 := Tryz.zeroValue240
  g13 := by kernel_rfl }
open Go.RowKit Go.Lib in
theorem Tryz.unicode_ToLower (r : Int) (w : World) (h : r ≤ 127) :
    Calls Tryz.prog 105 #[.int .i32 r] w fun e w' => e = .returned (.int .i32 (Lib.toLowerR r)) ∧ w' = w := Any.unicode_ToLower Tryz.lays204 r w h
def Tryz.lays197_ren : Go.Shelf.Ren := ⟨fun | 197 => 138 | 260 => 157 | n => n, fun | 9 => 9 | 21 => 21 | 3 => 3 | 4 => 4 | 5 => 5 | 105 => 179 | 119 => 152 | 0 => 0 | 46 => 133 | 139 => 226 | 138 => 225 | n => n, fun | 3 => 6 | 4 => 7 | n => n⟩
theorem Tryz.lays197 : Go.Proofs.Lays.n197 Tryz.prog Tryz.lays197_ren := {
  mixed := by kernel_rfl
  f197 := Tryz.func138.trans (congrArg some (by kernel_rfl))
  f260 := Tryz.func157.trans (congrArg some (by kernel_rfl))
  t0 := Tryz.underlying0
  a0 := Tryz.isAgg0
  z0 := Tryz.sizeOf0
  v0 := Tryz.zeroValue0
  t3 := Tryz.underlying3
  a3 := Tryz.isAgg3
  z3 := Tryz.sizeOf3
  v3 := Tryz.zeroValue3
  t4 := Tryz.underlying4
  a4 := Tryz.isAgg4
  z4 := Tryz.sizeOf4
  v4 := Tryz.zeroValue4
  t5 := Tryz.underlying5
  a5 := Tryz.isAgg5
  z5 := Tryz.sizeOf5
  v5 := Tryz.zeroValue5
  t9 := Tryz.underlying9
  a9 := Tryz.isAgg9
  z9 := Tryz.sizeOf9
  v9 := Tryz.zeroValue9
  t21 := Tryz.underlying21
  a21 := Tryz.isAgg21
  z21 := Tryz.sizeOf21
  v21 := Tryz.zeroValue21
  t46 := Tryz.underlying133
  a46 := Tryz.isAgg133
  z46 := Tryz.sizeOf133
  v46 := Tryz.zeroValue133
  t105 := Tryz.underlying179
  a105 := Tryz.isAgg179
  z105 := Tryz.sizeOf179
  v105 := Tryz.zeroValue179
  t119 := Tryz.underlying152
  a119 := Tryz.isAgg152
  z119 := Tryz.sizeOf152
  t138 := Tryz.underlying225
  a138 := Tryz.isAgg225
  z138 := Tryz.sizeOf225
  v138 := Tryz.zeroValue225
  t139 := Tryz.underlying226
  a139 := Tryz.isAgg226
  z139 := Tryz.sizeOf226
  v139 := Tryz.zeroValue226
  g3 := by kernel_rfl
  g4 := by kernel_rfl }
open Go.RowKit Go.Lib in
/-- unicode/utf8.DecodeRuneInString: "DecodeRuneInString is like DecodeRune but its input is a string.": ("DecodeRune unpacks the first UTF-8 encoding in p and returns the rune and its width in bytes."): WHERE s BEGINS WITH AN ASCII BYTE x: (x, 1). (LAID: no walk: one application.) -/
theorem Tryz.utf8_DecodeRuneInString_ascii (s : ByteArray) (x : UInt8) (w : World) (h0 : s.data.toList[0]? = some x) (hx : x.toNat < 128) :
    Calls Tryz.prog 138 #[.string s] w fun e w' => e = .returned (.tuple #[.int .i32 x.toNat, .int .i64 1]) ∧ w' = w := Any.utf8_DecodeRuneInString_ascii Tryz.lays197 s x w h0 hx
def Tryz.lays260_ren : Go.Shelf.Ren := ⟨fun | 260 => 157 | n => n, fun | 9 => 9 | 21 => 21 | 3 => 3 | 4 => 4 | 5 => 5 | 119 => 152 | 0 => 0 | 46 => 133 | 139 => 226 | 138 => 225 | n => n, fun | 3 => 6 | 4 => 7 | n => n⟩
theorem Tryz.lays260 : Go.Proofs.Lays.n260 Tryz.prog Tryz.lays260_ren := {
  mixed := by kernel_rfl
  f260 := Tryz.func157.trans (congrArg some (by kernel_rfl))
  t0 := Tryz.underlying0
  a0 := Tryz.isAgg0
  z0 := Tryz.sizeOf0
  v0 := Tryz.zeroValue0
  t3 := Tryz.underlying3
  a3 := Tryz.isAgg3
  z3 := Tryz.sizeOf3
  v3 := Tryz.zeroValue3
  t4 := Tryz.underlying4
  a4 := Tryz.isAgg4
  z4 := Tryz.sizeOf4
  v4 := Tryz.zeroValue4
  t5 := Tryz.underlying5
  a5 := Tryz.isAgg5
  z5 := Tryz.sizeOf5
  v5 := Tryz.zeroValue5
  t9 := Tryz.underlying9
  a9 := Tryz.isAgg9
  z9 := Tryz.sizeOf9
  v9 := Tryz.zeroValue9
  t21 := Tryz.underlying21
  a21 := Tryz.isAgg21
  z21 := Tryz.sizeOf21
  v21 := Tryz.zeroValue21
  t46 := Tryz.underlying133
  a46 := Tryz.isAgg133
  z46 := Tryz.sizeOf133
  v46 := Tryz.zeroValue133
  t119 := Tryz.underlying152
  a119 := Tryz.isAgg152
  z119 := Tryz.sizeOf152
  t138 := Tryz.underlying225
  a138 := Tryz.isAgg225
  z138 := Tryz.sizeOf225
  v138 := Tryz.zeroValue225
  t139 := Tryz.underlying226
  a139 := Tryz.isAgg226
  z139 := Tryz.sizeOf226
  v139 := Tryz.zeroValue226
  g3 := by kernel_rfl
  g4 := by kernel_rfl }
open Go.RowKit Go.Lib in
theorem Tryz.utf8_decodeRuneInStringSlow (s : ByteArray) (w : World) (hT : Lib.Utf8Tabs 6 7 w) :
    Calls Tryz.prog 157 #[.string s] w fun e w' => e = .returned (.tuple #[.int .i32 (Lib.decodeGo s).1, .int .i64 (Lib.decodeGo s).2]) ∧ Below w.heap.size w w' := Any.utf8_decodeRuneInStringSlow Tryz.lays260 s w hT
open Go.RowKit Go.Lib in
/-- **unicode/utf8.DecodeRuneInString AT EVERY STRING.** (LAID: no walk: one application.) -/
theorem Tryz.utf8_DecodeRuneInString (s : ByteArray) (w : World) (hT : Lib.Utf8Tabs 6 7 w) :
    Calls Tryz.prog 138 #[.string s] w fun e w' => e = .returned (.tuple #[.int .i32 (Lib.decodeGo s).1, .int .i64 (Lib.decodeGo s).2]) ∧ Below w.heap.size w w' := Any.utf8_DecodeRuneInString Tryz.lays197 s w hT
def Tryz.lays311_ren : Go.Shelf.Ren := ⟨fun | 311 => 161 | n => n, fun | 193 => 203 | 49 => 207 | 4 => 4 | 3 => 3 | 0 => 0 | 226 => 230 | 198 => 209 | 46 => 133 | n => n, fun | n => n⟩
theorem Tryz.lays311 : Go.Proofs.Lays.n311 Tryz.prog Tryz.lays311_ren := {
  mixed := by kernel_rfl
  f311 := Tryz.func161.trans (congrArg some (by kernel_rfl))
  t0 := Tryz.underlying0
  a0 := Tryz.isAgg0
  z0 := Tryz.sizeOf0
  v0 := Tryz.zeroValue0
  t3 := Tryz.underlying3
  a3 := Tryz.isAgg3
  z3 := Tryz.sizeOf3
  v3 := Tryz.zeroValue3
  t4 := Tryz.underlying4
  a4 := Tryz.isAgg4
  z4 := Tryz.sizeOf4
  v4 := Tryz.zeroValue4
  t46 := Tryz.underlying133
  a46 := Tryz.isAgg133
  z46 := Tryz.sizeOf133
  v46 := Tryz.zeroValue133
  t49 := Tryz.underlying207
  a49 := Tryz.isAgg207
  z49 := Tryz.sizeOf207
  v49 := Tryz.zeroValue207
  t193 := Tryz.underlying203
  a193 := Tryz.isAgg203
  z193 := Tryz.sizeOf203
  v193 := Tryz.zeroValue203
  t198 := Tryz.underlying209
  a198 := Tryz.isAgg209
  z198 := Tryz.sizeOf209
  v198 := Tryz.zeroValue209
  t226 := Tryz.underlying230
  a226 := Tryz.isAgg230
  z226 := Tryz.sizeOf230
  v226 := Tryz.zeroValue230 }
open Go.RowKit Go.Lib in
theorem Tryz.unicode_is16_white (R oR : Nat) (z : Nat) (w : World) (hz : z < 65536) (hz0 : 255 < z) (c6 : w.cell? ⟨R, oR + 6, none⟩ = some (.int .u16 160)) (c7 : w.cell? ⟨R, oR + 7, none⟩ = some (.int .u16 5760)) (c8 : w.cell? ⟨R, oR + 8, none⟩ = some (.int .u16 5600)) (c9 : w.cell? ⟨R, oR + 9, none⟩ = some (.int .u16 8192)) (c10 : w.cell? ⟨R, oR + 10, none⟩ = some (.int .u16 8202)) (c11 : w.cell? ⟨R, oR + 11, none⟩ = some (.int .u16 1)) (c12 : w.cell? ⟨R, oR + 12, none⟩ = some (.int .u16 8232)) (c13 : w.cell? ⟨R, oR + 13, none⟩ = some (.int .u16 8233)) (c14 : w.cell? ⟨R, oR + 14, none⟩ = some (.int .u16 1)) (c15 : w.cell? ⟨R, oR + 15, none⟩ = some (.int .u16 8239)) (c16 : w.cell? ⟨R, oR + 16, none⟩ = some (.int .u16 8287)) (c17 : w.cell? ⟨R, oR + 17, none⟩ = some (.int .u16 48)) (c18 : w.cell? ⟨R, oR + 18, none⟩ = some (.int .u16 12288)) (c19 : w.cell? ⟨R, oR + 19, none⟩ = some (.int .u16 12288)) (c20 : w.cell? ⟨R, oR + 20, none⟩ = some (.int .u16 1)) :
    Calls Tryz.prog 161 #[.slice (some ⟨R, oR + 6, none⟩) 5 5, .int .u16 z] w fun e w' => e = .returned (.bool (Lib.isSpaceR z)) ∧ Below w.heap.size w w' := Any.unicode_is16_white Tryz.lays311 R oR z w hz hz0 c6 c7 c8 c9 c10 c11 c12 c13 c14 c15 c16 c17 c18 c19 c20
def Tryz.lays261_ren : Go.Shelf.Ren := ⟨fun | 261 => 144 | 311 => 161 | 312 => 162 | n => n, fun | 141 => 185 | 21 => 21 | 4 => 4 | 0 => 0 | 196 => 206 | 193 => 203 | 3 => 3 | 51 => 163 | 198 => 209 | 49 => 207 | 194 => 204 | 201 => 212 | 226 => 230 | 46 => 133 | 227 => 231 | n => n, fun | n => n⟩
theorem Tryz.lays261 : Go.Proofs.Lays.n261 Tryz.prog Tryz.lays261_ren := {
  mixed := by kernel_rfl
  f261 := Tryz.func144.trans (congrArg some (by kernel_rfl))
  f311 := Tryz.func161.trans (congrArg some (by kernel_rfl))
  f312 := Tryz.func162.trans (congrArg some (by kernel_rfl))
  t0 := Tryz.underlying0
  a0 := Tryz.isAgg0
  z0 := Tryz.sizeOf0
  v0 := Tryz.zeroValue0
  t3 := Tryz.underlying3
  a3 := Tryz.isAgg3
  z3 := Tryz.sizeOf3
  v3 := Tryz.zeroValue3
  t4 := Tryz.underlying4
  a4 := Tryz.isAgg4
  z4 := Tryz.sizeOf4
  v4 := Tryz.zeroValue4
  t21 := Tryz.underlying21
  a21 := Tryz.isAgg21
  z21 := Tryz.sizeOf21
  v21 := Tryz.zeroValue21
  t46 := Tryz.underlying133
  a46 := Tryz.isAgg133
  z46 := Tryz.sizeOf133
  v46 := Tryz.zeroValue133
  t49 := Tryz.underlying207
  a49 := Tryz.isAgg207
  z49 := Tryz.sizeOf207
  v49 := Tryz.zeroValue207
  t51 := Tryz.underlying163
  a51 := Tryz.isAgg163
  z51 := Tryz.sizeOf163
  v51 := Tryz.zeroValue163
  t141 := Tryz.underlying185
  a141 := Tryz.isAgg185
  z141 := Tryz.sizeOf185
  v141 := Tryz.zeroValue185
  t193 := Tryz.underlying203
  a193 := Tryz.isAgg203
  z193 := Tryz.sizeOf203
  v193 := Tryz.zeroValue203
  t194 := Tryz.underlying204
  a194 := Tryz.isAgg204
  z194 := Tryz.sizeOf204
  v194 := Tryz.zeroValue204
  t196 := Tryz.underlying206
  a196 := Tryz.isAgg206
  z196 := Tryz.sizeOf206
  v196 := Tryz.zeroValue206
  t198 := Tryz.underlying209
  a198 := Tryz.isAgg209
  z198 := Tryz.sizeOf209
  v198 := Tryz.zeroValue209
  t201 := Tryz.underlying212
  a201 := Tryz.isAgg212
  z201 := Tryz.sizeOf212
  v201 := Tryz.zeroValue212
  t226 := Tryz.underlying230
  a226 := Tryz.isAgg230
  z226 := Tryz.sizeOf230
  v226 := Tryz.zeroValue230
  t227 := Tryz.underlying231
  a227 := Tryz.isAgg231
  z227 := Tryz.sizeOf231
  v227 := Tryz.zeroValue231 }
open Go.RowKit Go.Lib in
/-- unicode.isExcludingLatin(White_Space, r), r beyond U+00FF or negative. (LAID: no walk: one application.) -/
theorem Tryz.unicode_isExcludingLatin_white (T oT R oR : Nat) (r : Int) (w : World) (hlo : -2147483648 ≤ r) (hhi : r ≤ 2147483647) (hr : r < 0 ∨ 255 < r) (h2 : w.cell? ⟨T, oT, none⟩ = some (.slice (some ⟨R, oR, none⟩) 7 7)) (h3 : w.cell? ⟨T, oT + 1, none⟩ = some (.slice none 0 0)) (h4 : w.cell? ⟨T, oT + 2, none⟩ = some (.int .i64 2)) (h5 : ∀ i, i < 21 → w.cell? ⟨R, oR + i, none⟩ = some (.int .u16 (whiteT.getD i 0))) :
    Calls Tryz.prog 144 #[.pointer (some ⟨T, oT, none⟩), .int .i32 r] w fun e w' => e = .returned (.bool (Lib.isSpaceZ r)) ∧ Below w.heap.size w w' := Any.unicode_isExcludingLatin_white Tryz.lays261 T oT R oR r w hlo hhi hr h2 h3 h4 h5
open Go.RowKit Go.Lib in
/-- **unicode.IsSpace AT EVERY int32.** (LAID: no walk: one application.) -/
theorem Tryz.unicode_IsSpace_any (r : Int) (w : World) (hlo : -2147483648 ≤ r) (hhi : r ≤ 2147483647) (hW : Lib.WhiteTab 1 w) :
    Calls Tryz.prog 107 #[.int .i32 r] w fun e w' => e = .returned (.bool (Lib.isSpaceZ r)) ∧ Below w.heap.size w w' := Any.unicode_IsSpace_any Tryz.lays199 r w hlo hhi hW
def Tryz.lays271_ren : Go.Shelf.Ren := ⟨fun | 271 => 163 | 120 => 178 | 197 => 138 | 260 => 157 | n => n, fun | 9 => 9 | 21 => 21 | 3 => 3 | 4 => 4 | 5 => 5 | 105 => 179 | 119 => 152 | 0 => 0 | 46 => 133 | 139 => 226 | 138 => 225 | n => n, fun | 3 => 6 | 4 => 7 | n => n⟩
theorem Tryz.lays271 : Go.Proofs.Lays.n271 Tryz.prog Tryz.lays271_ren := {
  mixed := by kernel_rfl
  f120 := Tryz.func178.trans (congrArg some (by kernel_rfl))
  f197 := Tryz.func138.trans (congrArg some (by kernel_rfl))
  f260 := Tryz.func157.trans (congrArg some (by kernel_rfl))
  f271 := Tryz.func163.trans (congrArg some (by kernel_rfl))
  t0 := Tryz.underlying0
  a0 := Tryz.isAgg0
  z0 := Tryz.sizeOf0
  v0 := Tryz.zeroValue0
  t3 := Tryz.underlying3
  a3 := Tryz.isAgg3
  z3 := Tryz.sizeOf3
  v3 := Tryz.zeroValue3
  t4 := Tryz.underlying4
  a4 := Tryz.isAgg4
  z4 := Tryz.sizeOf4
  v4 := Tryz.zeroValue4
  t5 := Tryz.underlying5
  a5 := Tryz.isAgg5
  z5 := Tryz.sizeOf5
  v5 := Tryz.zeroValue5
  t9 := Tryz.underlying9
  a9 := Tryz.isAgg9
  z9 := Tryz.sizeOf9
  v9 := Tryz.zeroValue9
  t21 := Tryz.underlying21
  a21 := Tryz.isAgg21
  z21 := Tryz.sizeOf21
  v21 := Tryz.zeroValue21
  t46 := Tryz.underlying133
  a46 := Tryz.isAgg133
  z46 := Tryz.sizeOf133
  v46 := Tryz.zeroValue133
  t105 := Tryz.underlying179
  a105 := Tryz.isAgg179
  z105 := Tryz.sizeOf179
  v105 := Tryz.zeroValue179
  t119 := Tryz.underlying152
  a119 := Tryz.isAgg152
  z119 := Tryz.sizeOf152
  t138 := Tryz.underlying225
  a138 := Tryz.isAgg225
  z138 := Tryz.sizeOf225
  v138 := Tryz.zeroValue225
  t139 := Tryz.underlying226
  a139 := Tryz.isAgg226
  z139 := Tryz.sizeOf226
  v139 := Tryz.zeroValue226
  g3 := by kernel_rfl
  g4 := by kernel_rfl }
open Go.RowKit Go.Lib in
/-- **unicode/utf8.DecodeLastRuneInString AT EVERY STRING.** (LAID: no walk: one application.) -/
theorem Tryz.utf8_DecodeLastRuneInString (s : ByteArray) (w : World) (hs : s.size ≤ 9223372036854775807) (hT : Lib.Utf8Tabs 6 7 w) :
    Calls Tryz.prog 163 #[.string s] w fun e w' => e = .returned (.tuple #[.int .i32 (Lib.decodeLastL s.data.toList).1, .int .i64 (Lib.decodeLastL s.data.toList).2]) ∧ Below w.heap.size w w' := Any.utf8_DecodeLastRuneInString Tryz.lays271 s w hs hT
open Go.RowKit in
theorem Tryz.strings_TrimSpace_any (s : ByteArray) (w : World) (hs : s.size ≤ 9223372036854775807) (htab : Lib.TabIs Tryz.prog w "strings.asciiSpace" .u8 Lib.asciiSpaceTab) (hU8 : Lib.Utf8Tabs 6 7 w) (hWS : Lib.WhiteTab 1 w) :
    Calls Tryz.prog 84 #[.string s] w fun e w' => e = .returned (.string ⟨(Lib.trimSpaceD s.data.toList).toArray⟩) ∧ Below w.heap.size w w' := Any.strings_TrimSpace_any Tryz.lays163 Tryz.Space_Extra_163 s w hs htab hU8 hWS
def Tryz.lays274_ren : Go.Shelf.Ren := ⟨fun | 274 => 176 | n => n, fun | 21 => 21 | 162 => 202 | 160 => 227 | 3 => 3 | 4 => 4 | 46 => 133 | 0 => 0 | 208 => 240 | 51 => 163 | 206 => 238 | n => n, fun | n => n⟩
theorem Tryz.lays274 : Go.Proofs.Lays.n274 Tryz.prog Tryz.lays274_ren := {
  mixed := by kernel_rfl
  f274 := Tryz.func176.trans (congrArg some (by kernel_rfl))
  t0 := Tryz.underlying0
  a0 := Tryz.isAgg0
  z0 := Tryz.sizeOf0
  v0 := Tryz.zeroValue0
  t3 := Tryz.underlying3
  a3 := Tryz.isAgg3
  z3 := Tryz.sizeOf3
  v3 := Tryz.zeroValue3
  t4 := Tryz.underlying4
  a4 := Tryz.isAgg4
  z4 := Tryz.sizeOf4
  v4 := Tryz.zeroValue4
  t21 := Tryz.underlying21
  a21 := Tryz.isAgg21
  z21 := Tryz.sizeOf21
  v21 := Tryz.zeroValue21
  t46 := Tryz.underlying133
  a46 := Tryz.isAgg133
  z46 := Tryz.sizeOf133
  v46 := Tryz.zeroValue133
  t51 := Tryz.underlying163
  a51 := Tryz.isAgg163
  z51 := Tryz.sizeOf163
  v51 := Tryz.zeroValue163
  t160 := Tryz.underlying227
  a160 := Tryz.isAgg227
  z160 := Tryz.sizeOf227
  v160 := Tryz.zeroValue227
  t162 := Tryz.underlying202
  a162 := Tryz.isAgg202
  z162 := Tryz.sizeOf202
  v162 := Tryz.zeroValue202
  t208 := Tryz.underlying240
  a208 := Tryz.isAgg240
  z208 := Tryz.sizeOf240
  v208 := Tryz.zeroValue240 }
open Go.RowKit Go.Lib in
theorem Tryz.unicode_lookupCaseRange (T : Array CaseRow) (R oR cap : Nat) (r : Int) (w : World) (hT : CaseTab R oR T w) (hok : CaseOk T) (hn : T.size ≤ 1000000000) :
    Calls Tryz.prog 176 #[.int .i32 r, .slice (some ⟨R, oR, none⟩) T.size cap] w fun e w' =>
      e = .returned (match lookupIdx T r (T.size + 1) 0 T.size with | some i => .pointer (some ⟨R, oR + i * 5, none⟩) | none => .pointer none) ∧ w' = w := Any.unicode_lookupCaseRange Tryz.lays274 T R oR cap r w hT hok hn
def Tryz.lays275_ren : Go.Shelf.Ren := ⟨fun | 275 => 177 | n => n, fun | 3 => 3 | 21 => 21 | 160 => 227 | 0 => 0 | 208 => 240 | 206 => 238 | 4 => 4 | 51 => 163 | n => n, fun | n => n⟩
theorem Tryz.lays275 : Go.Proofs.Lays.n275 Tryz.prog Tryz.lays275_ren := {
  mixed := by kernel_rfl
  f275 := Tryz.func177.trans (congrArg some (by kernel_rfl))
  t0 := Tryz.underlying0
  a0 := Tryz.isAgg0
  z0 := Tryz.sizeOf0
  v0 := Tryz.zeroValue0
  t3 := Tryz.underlying3
  a3 := Tryz.isAgg3
  z3 := Tryz.sizeOf3
  v3 := Tryz.zeroValue3
  t4 := Tryz.underlying4
  a4 := Tryz.isAgg4
  z4 := Tryz.sizeOf4
  v4 := Tryz.zeroValue4
  t21 := Tryz.underlying21
  a21 := Tryz.isAgg21
  z21 := Tryz.sizeOf21
  v21 := Tryz.zeroValue21
  t51 := Tryz.underlying163
  a51 := Tryz.isAgg163
  z51 := Tryz.sizeOf163
  v51 := Tryz.zeroValue163
  t160 := Tryz.underlying227
  a160 := Tryz.isAgg227
  z160 := Tryz.sizeOf227
  v160 := Tryz.zeroValue227
  t206 := Tryz.underlying238
  a206 := Tryz.isAgg238
  z206 := Tryz.sizeOf238
  v206 := Tryz.zeroValue238
  t208 := Tryz.underlying240
  a208 := Tryz.isAgg240
  z208 := Tryz.sizeOf240
  v208 := Tryz.zeroValue240 }
open Go.RowKit Go.Lib in
theorem Tryz.unicode_convertCase (c : Nat) (hc : c < 3) (r : Int) (A o : Nat) (x : CaseRow) (w : World) (hlo : (x.1 : Int) ≤ r) (hhi : r ≤ (x.2.1 : Int)) (hH : x.2.1 < 2147483647) (c0 : w.cell? ⟨A, o, none⟩ = some (.int .u32 x.1)) (cD : w.cell? ⟨A, o + 2 + c, none⟩ = some (.int .i32 (x.delta c))) :
    Calls Tryz.prog 177 #[.int .i64 c, .int .i32 r, .pointer (some ⟨A, o, none⟩)] w fun e w' => e = .returned (.int .i32 (wrap32 (convertR c r x))) ∧ ∃ q, w' = w.drewN q := Any.unicode_convertCase Tryz.lays275 c hc r A o x w hlo hhi hH c0 cD
def Tryz.lays313_ren : Go.Shelf.Ren := ⟨fun | 313 => 159 | 274 => 176 | 275 => 177 | n => n, fun | 3 => 3 | 21 => 21 | 162 => 202 | 4 => 4 | 160 => 227 | 46 => 133 | 0 => 0 | 208 => 240 | 51 => 163 | 206 => 238 | n => n, fun | n => n⟩
theorem Tryz.lays313 : Go.Proofs.Lays.n313 Tryz.prog Tryz.lays313_ren := {
  mixed := by kernel_rfl
  f274 := Tryz.func176.trans (congrArg some (by kernel_rfl))
  f275 := Tryz.func177.trans (congrArg some (by kernel_rfl))
  f313 := Tryz.func159.trans (congrArg some (by kernel_rfl))
  t0 := Tryz.underlying0
  a0 := Tryz.isAgg0
  z0 := Tryz.sizeOf0
  v0 := Tryz.zeroValue0
  t3 := Tryz.underlying3
  a3 := Tryz.isAgg3
  z3 := Tryz.sizeOf3
  v3 := Tryz.zeroValue3
  t4 := Tryz.underlying4
  a4 := Tryz.isAgg4
  z4 := Tryz.sizeOf4
  v4 := Tryz.zeroValue4
  t21 := Tryz.underlying21
  a21 := Tryz.isAgg21
  z21 := Tryz.sizeOf21
  v21 := Tryz.zeroValue21
  t46 := Tryz.underlying133
  a46 := Tryz.isAgg133
  z46 := Tryz.sizeOf133
  v46 := Tryz.zeroValue133
  t51 := Tryz.underlying163
  a51 := Tryz.isAgg163
  z51 := Tryz.sizeOf163
  v51 := Tryz.zeroValue163
  t160 := Tryz.underlying227
  a160 := Tryz.isAgg227
  z160 := Tryz.sizeOf227
  v160 := Tryz.zeroValue227
  t162 := Tryz.underlying202
  a162 := Tryz.isAgg202
  z162 := Tryz.sizeOf202
  v162 := Tryz.zeroValue202
  t206 := Tryz.underlying238
  a206 := Tryz.isAgg238
  z206 := Tryz.sizeOf238
  v206 := Tryz.zeroValue238
  t208 := Tryz.underlying240
  a208 := Tryz.isAgg240
  z208 := Tryz.sizeOf240
  v208 := Tryz.zeroValue240 }
open Go.RowKit Go.Lib in
theorem Tryz.unicode_to (c : Nat) (hc : c < 3) (r : Int) (T : Array CaseRow) (R oR cap : Nat) (w : World) (hT : CaseTab R oR T w) (hok : CaseOk2 T) (hn : T.size ≤ 1000000000) :
    Calls Tryz.prog 159 #[.int .i64 c, .int .i32 r, .slice (some ⟨R, oR, none⟩) T.size cap] w fun e w' => e = .returned (.tuple #[.int .i32 (toW T c r), .bool (lookupIdx T r (T.size + 1) 0 T.size).isSome]) ∧ ∃ q, w' = w.drewN q := Any.unicode_to Tryz.lays313 c hc r T R oR cap w hT hok hn
def Tryz.lays262_ren : Go.Shelf.Ren := ⟨fun | 262 => 142 | 313 => 159 | 274 => 176 | 275 => 177 | n => n, fun | 3 => 3 | 21 => 21 | 162 => 202 | 203 => 200 | 4 => 4 | 160 => 227 | 46 => 133 | 0 => 0 | 208 => 240 | 51 => 163 | 206 => 238 | n => n, fun | 13 => 4 | n => n⟩
theorem Tryz.lays262 : Go.Proofs.Lays.n262 Tryz.prog Tryz.lays262_ren := {
  mixed := by kernel_rfl
  f262 := Tryz.func142.trans (congrArg some (by kernel_rfl))
  f274 := Tryz.func176.trans (congrArg some (by kernel_rfl))
  f275 := Tryz.func177.trans (congrArg some (by kernel_rfl))
  f313 := Tryz.func159.trans (congrArg some (by kernel_rfl))
  t0 := Tryz.underlying0
  a0 := Tryz.isAgg0
  z0 := Tryz.sizeOf0
  v0 := Tryz.zeroValue0
  t3 := Tryz.underlying3
  a3 := Tryz.isAgg3
  z3 := Tryz.sizeOf3
  v3 := Tryz.zeroValue3
  t4 := Tryz.underlying4
  a4 := Tryz.isAgg4
  z4 := Tryz.sizeOf4
  v4 := Tryz.zeroValue4
  t21 := Tryz.underlying21
  a21 := Tryz.isAgg21
  z21 := Tryz.sizeOf21
  v21 := Tryz.zeroValue21
  t46 := Tryz.underlying133
  a46 := Tryz.isAgg133
  z46 := Tryz.sizeOf133
  v46 := Tryz.zeroValue133
  t51 := Tryz.underlying163
  a51 := Tryz.isAgg163
  z51 := Tryz.sizeOf163
  v51 := Tryz.zeroValue163
  t160 := Tryz.underlying227
  a160 := Tryz.isAgg227
  z160 := Tryz.sizeOf227
  v160 := Tryz.zeroValue227
  t162 := Tryz.underlying202
  a162 := Tryz.isAgg202
  z162 := Tryz.sizeOf202
  v162 := Tryz.zeroValue202
  t203 := Tryz.underlying200
  a203 := Tryz.isAgg200
  z203 := Tryz.sizeOf200
  v203 := Tryz.zeroValue200
  t206 := Tryz.underlying238
  a206 := Tryz.isAgg238
  z206 := Tryz.sizeOf238
  v206 := Tryz.zeroValue238
  t208 := Tryz.underlying240
  a208 := Tryz.isAgg240
  z208 := Tryz.sizeOf240
  v208 := Tryz.zeroValue240
  g13 := by kernel_rfl }
open Go.RowKit Go.Lib in
theorem Tryz.unicode_To (c : Nat) (hc : c < 3) (r : Int) (T : Array CaseRow) (w : World) (hV : CaseVar 4 T w) (hok : CaseOk2 T) (hn : T.size ≤ 1000000000) :
    Calls Tryz.prog 142 #[.int .i64 c, .int .i32 r] w fun e w' => e = .returned (.int .i32 (toW T c r)) ∧ ∃ q, w' = w.drewN q := Any.unicode_To Tryz.lays262 c hc r T w hV hok hn
open Go.RowKit Go.Lib in
theorem Tryz.unicode_ToLower_any (r : Int) (T : Array CaseRow) (w : World) (hV : CaseVar 4 T w) (hok : CaseOk2 T) (hn : T.size ≤ 1000000000) :
    Calls Tryz.prog 105 #[.int .i32 r] w fun e w' => e = .returned (.int .i32 (Lib.toLowerW T r)) ∧ ∃ q, w' = w.drewN q := Any.unicode_ToLower_any Tryz.lays204 r T w hV hok hn
open Go.RowKit Go.Lib in
theorem Tryz.unicode_ToLower_laid (r : Int) (w : World) (hV : CaseVar 4 caseA w) :
    Calls Tryz.prog 105 #[.int .i32 r] w fun e w' => e = .returned (.int .i32 (toLowerU r)) ∧ ∃ q, w' = w.drewN q := Any.unicode_ToLower_laid Tryz.lays204 r w hV
def Tryz.lays270_ren : Go.Shelf.Ren := ⟨fun | 270 => 141 | n => n, fun | 70 => 139 | 3 => 3 | 0 => 0 | 72 => 142 | 37 => 140 | 5 => 5 | n => n, fun | n => n⟩
theorem Tryz.lays270 : Go.Proofs.Lays.n270 Tryz.prog Tryz.lays270_ren := {
  mixed := by kernel_rfl
  f270 := Tryz.func141.trans (congrArg some (by kernel_rfl))
  t0 := Tryz.underlying0
  a0 := Tryz.isAgg0
  z0 := Tryz.sizeOf0
  v0 := Tryz.zeroValue0
  t3 := Tryz.underlying3
  a3 := Tryz.isAgg3
  z3 := Tryz.sizeOf3
  v3 := Tryz.zeroValue3
  t37 := Tryz.underlying140
  a37 := Tryz.isAgg140
  z37 := Tryz.sizeOf140
  v37 := Tryz.zeroValue140
  t70 := Tryz.underlying139
  a70 := Tryz.isAgg139
  z70 := Tryz.sizeOf139
  v70 := Tryz.zeroValue139
  t72 := Tryz.underlying142
  a72 := Tryz.isAgg142
  z72 := Tryz.sizeOf142
  v72 := Tryz.zeroValue142 }
open Go.RowKit Go.Lib in
/-- (*strings.Builder).Cap: "Cap returns the capacity of the builder's underlying byte slice." (LAID: no walk: one application.) -/
theorem Tryz.Builder_Cap_cell (b : Nat) (p : Option Addr) (n cap : Nat) (w : World) (c1 : w.cell? ⟨b, 1, none⟩ = some (.slice p n cap)) :
    Calls Tryz.prog 141 #[.pointer (some ⟨b, 0, none⟩)] w fun e w' => e = .returned (.int .i64 cap) ∧ w' = w := Any.Builder_Cap_cell Tryz.lays270 b p n cap w c1
def Tryz.lays230_ren : Go.Shelf.Ren := ⟨fun | 230 => 104 | 197 => 138 | 118 => 139 | 165 => 100 | 166 => 101 | 168 => 140 | 270 => 141 | 167 => 102 | 169 => 103 | 260 => 157 | 240 => 136 | 241 => 137 | 242 => 158 | 276 => 155 | 277 => 156 | 278 => 175 | n => n, fun | 107 => 149 | 9 => 9 | 72 => 142 | 0 => 0 | 4 => 4 | 3 => 3 | 21 => 21 | 105 => 179 | 76 => 144 | 5 => 5 | 75 => 104 | 70 => 139 | 20 => 20 | 37 => 140 | 127 => 178 | 119 => 152 | 46 => 133 | 139 => 226 | 138 => 225 | 164 => 124 | 51 => 163 | 80 => 147 | n => n, fun | 3 => 6 | 4 => 7 | n => n⟩
theorem Tryz.lays230 : Go.Proofs.Lays.n230 Tryz.prog Tryz.lays230_ren := {
  mixed := by kernel_rfl
  f118 := Tryz.func139.trans (congrArg some (by kernel_rfl))
  f165 := Tryz.func100.trans (congrArg some (by kernel_rfl))
  f166 := Tryz.func101.trans (congrArg some (by kernel_rfl))
  f167 := Tryz.func102.trans (congrArg some (by kernel_rfl))
  f168 := Tryz.func140.trans (congrArg some (by kernel_rfl))
  f169 := Tryz.func103.trans (congrArg some (by kernel_rfl))
  f197 := Tryz.func138.trans (congrArg some (by kernel_rfl))
  f230 := Tryz.func104.trans (congrArg some (by kernel_rfl))
  f240 := Tryz.func136.trans (congrArg some (by kernel_rfl))
  f241 := Tryz.func137.trans (congrArg some (by kernel_rfl))
  f242 := Tryz.func158.trans (congrArg some (by kernel_rfl))
  f260 := Tryz.func157.trans (congrArg some (by kernel_rfl))
  f270 := Tryz.func141.trans (congrArg some (by kernel_rfl))
  f276 := Tryz.func155.trans (congrArg some (by kernel_rfl))
  f277 := Tryz.func156.trans (congrArg some (by kernel_rfl))
  f278 := Tryz.func175.trans (congrArg some (by kernel_rfl))
  t0 := Tryz.underlying0
  a0 := Tryz.isAgg0
  z0 := Tryz.sizeOf0
  v0 := Tryz.zeroValue0
  t3 := Tryz.underlying3
  a3 := Tryz.isAgg3
  z3 := Tryz.sizeOf3
  v3 := Tryz.zeroValue3
  t4 := Tryz.underlying4
  a4 := Tryz.isAgg4
  z4 := Tryz.sizeOf4
  v4 := Tryz.zeroValue4
  t5 := Tryz.underlying5
  a5 := Tryz.isAgg5
  z5 := Tryz.sizeOf5
  v5 := Tryz.zeroValue5
  t9 := Tryz.underlying9
  a9 := Tryz.isAgg9
  z9 := Tryz.sizeOf9
  v9 := Tryz.zeroValue9
  t20 := Tryz.underlying20
  a20 := Tryz.isAgg20
  z20 := Tryz.sizeOf20
  v20 := Tryz.zeroValue20
  t21 := Tryz.underlying21
  a21 := Tryz.isAgg21
  z21 := Tryz.sizeOf21
  v21 := Tryz.zeroValue21
  t37 := Tryz.underlying140
  a37 := Tryz.isAgg140
  z37 := Tryz.sizeOf140
  v37 := Tryz.zeroValue140
  t46 := Tryz.underlying133
  a46 := Tryz.isAgg133
  z46 := Tryz.sizeOf133
  v46 := Tryz.zeroValue133
  t51 := Tryz.underlying163
  a51 := Tryz.isAgg163
  z51 := Tryz.sizeOf163
  v51 := Tryz.zeroValue163
  t70 := Tryz.underlying139
  a70 := Tryz.isAgg139
  z70 := Tryz.sizeOf139
  v70 := Tryz.zeroValue139
  t72 := Tryz.underlying142
  a72 := Tryz.isAgg142
  z72 := Tryz.sizeOf142
  v72 := Tryz.zeroValue142
  t75 := Tryz.underlying104
  a75 := Tryz.isAgg104
  z75 := Tryz.sizeOf104
  v75 := Tryz.zeroValue104
  t76 := Tryz.underlying144
  a76 := Tryz.isAgg144
  z76 := Tryz.sizeOf144
  v76 := Tryz.zeroValue144
  t105 := Tryz.underlying179
  a105 := Tryz.isAgg179
  z105 := Tryz.sizeOf179
  v105 := Tryz.zeroValue179
  t107 := Tryz.underlying149
  a107 := Tryz.isAgg149
  z107 := Tryz.sizeOf149
  v107 := Tryz.zeroValue149
  t119 := Tryz.underlying152
  a119 := Tryz.isAgg152
  z119 := Tryz.sizeOf152
  t127 := Tryz.underlying178
  a127 := Tryz.isAgg178
  z127 := Tryz.sizeOf178
  v127 := Tryz.zeroValue178
  t138 := Tryz.underlying225
  a138 := Tryz.isAgg225
  z138 := Tryz.sizeOf225
  v138 := Tryz.zeroValue225
  t139 := Tryz.underlying226
  a139 := Tryz.isAgg226
  z139 := Tryz.sizeOf226
  v139 := Tryz.zeroValue226
  t164 := Tryz.underlying124
  a164 := Tryz.isAgg124
  z164 := Tryz.sizeOf124
  v164 := Tryz.zeroValue124
  g3 := by kernel_rfl
  g4 := by kernel_rfl }
theorem Tryz.Builder_Extra_230 : Builder.Extra Tryz.prog Tryz.lays230_ren := {
  sizeBuilder := by kernel_rfl
  liesBuilder := by kernel_rfl
  t5 := Tryz.underlying5
  a5 := Tryz.isAgg5
  z5 := Tryz.sizeOf5
  v5 := Tryz.zeroValue5
  infoByte := by kernel_rfl
  cellsByte := by kernel_rfl
  sizeByte := by kernel_rfl
  neB5 := by decide }
open Go.RowKit Go.Lib in
theorem Tryz.strings_Map_runes (g : Nat) (lb : Array Value) (eg : ∀ args w, (callFunc g args).run Tryz.prog w = .ok (.enter g args) w) (f : Int → Int) (s : ByteArray) (w : World) (hs : s.size < 35184372088832) (hf : MapAtRunes Tryz.prog g lb f w) (hnn : ∀ x : Nat, x ≤ 1114111 → 0 ≤ f x ∧ f x ≤ 2147483647) (hT : Lib.Utf8Tabs 6 7 w) :
    Calls Tryz.prog 104 #[.func (.func g) #[] lb, .string s] w fun e w' => e = .returned (.string ⟨(Lib.mapD f s.data.toList).toArray⟩) ∧ Below w.heap.size w w' := Any.strings_Map_runes Tryz.lays230 Tryz.Builder_Extra_230 g lb eg f s w hs hf hnn hT
open Go.RowKit Go.Lib in
theorem Tryz.strings_ToLower_beyond (s : ByteArray) (w : World) (hs : s.size < 35184372088832) (hhigh : ∃ (j : Nat) (b : UInt8), s.data.toList[j]? = some b ∧ 128 ≤ b.toNat) (hV : CaseVar 4 caseA w) (hT : Lib.Utf8Tabs 6 7 w) :
    Calls Tryz.prog 83 #[.string s] w fun e w' => e = .returned (.string ⟨(Lib.toLowerD s.data.toList).toArray⟩) ∧ Below w.heap.size w w' := Any.strings_ToLower_beyond Tryz.lays159 Tryz.Builder_Extra_159 s w hs hhigh hV hT
open Go.RowKit Go.Lib in
/-- **strings.ToLower AT EVERY STRING, VALID UTF-8 OR NOT.** (LAID: no walk: one application.) -/
theorem Tryz.strings_ToLower_any (s : ByteArray) (w : World) (hs : s.size < 35184372088832) (hV : CaseVar 4 caseA w) (hT : Lib.Utf8Tabs 6 7 w) :
    Calls Tryz.prog 83 #[.string s] w fun e w' => e = .returned (.string ⟨(Lib.toLowerD s.data.toList).toArray⟩) ∧ Below w.heap.size w w' := Any.strings_ToLower_any Tryz.lays159 Tryz.Builder_Extra_159 s w hs hV hT
open Go.RowKit Go.Lib in
theorem Tryz.unicode_is16_any (T : Array Rg) (R oR cap : Nat) (z : Nat) (w : World) (hz : z < 65536) (hT : RgTab .u16 R oR T w) (hok : RgOk 65536 T) (hn : T.size ≤ 1000000000) :
    Calls Tryz.prog 161 #[.slice (some ⟨R, oR, none⟩) T.size cap, .int .u16 z] w fun e w' => e = .returned (.bool (is16Go T z)) ∧ ∃ q, w' = w.drewN q := Any.unicode_is16_any Tryz.lays311 T R oR cap z w hz hT hok hn
def Tryz.lays312_ren : Go.Shelf.Ren := ⟨fun | 312 => 162 | n => n, fun | 194 => 204 | 51 => 163 | 4 => 4 | 3 => 3 | 0 => 0 | 227 => 231 | 201 => 212 | 46 => 133 | n => n, fun | n => n⟩
theorem Tryz.lays312 : Go.Proofs.Lays.n312 Tryz.prog Tryz.lays312_ren := {
  mixed := by kernel_rfl
  f312 := Tryz.func162.trans (congrArg some (by kernel_rfl))
  t0 := Tryz.underlying0
  a0 := Tryz.isAgg0
  z0 := Tryz.sizeOf0
  v0 := Tryz.zeroValue0
  t3 := Tryz.underlying3
  a3 := Tryz.isAgg3
  z3 := Tryz.sizeOf3
  v3 := Tryz.zeroValue3
  t4 := Tryz.underlying4
  a4 := Tryz.isAgg4
  z4 := Tryz.sizeOf4
  v4 := Tryz.zeroValue4
  t46 := Tryz.underlying133
  a46 := Tryz.isAgg133
  z46 := Tryz.sizeOf133
  v46 := Tryz.zeroValue133
  t51 := Tryz.underlying163
  a51 := Tryz.isAgg163
  z51 := Tryz.sizeOf163
  v51 := Tryz.zeroValue163
  t194 := Tryz.underlying204
  a194 := Tryz.isAgg204
  z194 := Tryz.sizeOf204
  v194 := Tryz.zeroValue204
  t201 := Tryz.underlying212
  a201 := Tryz.isAgg212
  z201 := Tryz.sizeOf212
  v201 := Tryz.zeroValue212
  t227 := Tryz.underlying231
  a227 := Tryz.isAgg231
  z227 := Tryz.sizeOf231
  v227 := Tryz.zeroValue231 }
open Go.RowKit Go.Lib in
theorem Tryz.unicode_is32_any (T : Array Rg) (R oR cap : Nat) (z : Nat) (w : World) (hz : z < 4294967296) (hT : RgTab .u32 R oR T w) (hok : RgOk 4294967296 T) (hn : T.size ≤ 1000000000) :
    Calls Tryz.prog 162 #[.slice (some ⟨R, oR, none⟩) T.size cap, .int .u32 z] w fun e w' => e = .returned (.bool (is32Go T z)) ∧ Below w.heap.size w w' := Any.unicode_is32_any Tryz.lays312 T R oR cap z w hz hT hok hn
open Go.RowKit Go.Lib in
theorem Tryz.unicode_isExcludingLatin_any (Tb oT : Nat) (T : RTab) (r : Int) (w : World) (hlo : -2147483648 ≤ r) (hhi : r ≤ 2147483647) (hA : RTabAt Tb oT T w) (hok : RTabOk T) :
    Calls Tryz.prog 144 #[.pointer (some ⟨Tb, oT, none⟩), .int .i32 r] w fun e w' => e = .returned (.bool (exclGo T r)) ∧ Below w.heap.size w w' := Any.unicode_isExcludingLatin_any Tryz.lays261 Tb oT T r w hlo hhi hA hok
open Go.RowKit Go.Lib in
theorem Tryz.strings_indexFunc_grows (g : Nat) (lb : Array Value) (eg : ∀ args w, (callFunc g args).run Tryz.prog w = .ok (.enter g args) w) (p : Nat → Bool) (truth : Bool) (s : ByteArray) (w : World) (hp : PredGrows Tryz.prog g lb p w) :
    Calls Tryz.prog 160 #[.string s, .func (.func g) #[] lb, .bool truth] w fun e w' => e = .returned (.int .i64 (Lib.idxFunc p truth s)) ∧ Below w.heap.size w w' := Any.strings_indexFunc_grows Tryz.lays315 g lb eg p truth s w hp
open Go.RowKit Go.Lib in
theorem Tryz.strings_lastIndexFunc_grows (g : Nat) (lb : Array Value) (eg : ∀ args w, (callFunc g args).run Tryz.prog w = .ok (.enter g args) w) (p : Nat → Bool) (truth : Bool) (s : ByteArray) (w : World) (hs : s.size ≤ 9223372036854775807) (hT : Lib.Utf8Tabs 6 7 w) (hp : PredGrows Tryz.prog g lb p w) :
    Calls Tryz.prog 145 #[.string s, .func (.func g) #[] lb, .bool truth] w fun e w' => e = .returned (.int .i64 (Lib.lastIdxFunc p truth s)) ∧ Below w.heap.size w w' := Any.strings_lastIndexFunc_grows Tryz.lays273 g lb eg p truth s w hs hT hp
open Go.RowKit Go.Lib in
theorem Tryz.strings_TrimLeftFunc_grows (g : Nat) (lb : Array Value) (eg : ∀ args w, (callFunc g args).run Tryz.prog w = .ok (.enter g args) w) (p : Nat → Bool) (s : ByteArray) (w : World) (hp : PredGrows Tryz.prog g lb p w) :
    Calls Tryz.prog 143 #[.string s, .func (.func g) #[] lb] w fun e w' => e = .returned (.string (Lib.trimLeftF p s)) ∧ Below w.heap.size w w' := Any.strings_TrimLeftFunc_grows Tryz.lays272 g lb eg p s w hp
open Go.RowKit Go.Lib in
theorem Tryz.strings_TrimRightFunc_grows (g : Nat) (lb : Array Value) (eg : ∀ args w, (callFunc g args).run Tryz.prog w = .ok (.enter g args) w) (p : Nat → Bool) (s : ByteArray) (w : World) (hs : s.size ≤ 9223372036854775807) (hT : Lib.Utf8Tabs 6 7 w) (hp : PredGrows Tryz.prog g lb p w) :
    Calls Tryz.prog 108 #[.string s, .func (.func g) #[] lb] w fun e w' => e = .returned (.string (Lib.trimRightF p s)) ∧ Below w.heap.size w w' := Any.strings_TrimRightFunc_grows Tryz.lays238 g lb eg p s w hs hT hp
open Go.RowKit Go.Lib in
/-- **strings.TrimFunc(s, f) AT EVERY STRING, AT WHATEVER FUNCTION VALUE.** (LAID: no walk: one application.) -/
theorem Tryz.strings_TrimFunc_grows (g : Nat) (lb : Array Value) (eg : ∀ args w, (callFunc g args).run Tryz.prog w = .ok (.enter g args) w) (p : Nat → Bool) (s : ByteArray) (w : World) (hs : s.size ≤ 9223372036854775807) (hT : Lib.Utf8Tabs 6 7 w) (hp : PredGrows Tryz.prog g lb p w) :
    Calls Tryz.prog 106 #[.string s, .func (.func g) #[] lb] w fun e w' => e = .returned (.string (Lib.trimF p s)) ∧ Below w.heap.size w w' := Any.strings_TrimFunc_grows Tryz.lays237 g lb eg p s w hs hT hp
def Tryz.lays109_ren : Go.Shelf.Ren := ⟨fun | 109 => 109 | n => n, fun | 31 => 22 | 9 => 9 | 3 => 3 | 0 => 0 | 4 => 4 | n => n, fun | n => n⟩
theorem Tryz.lays109 : Go.Proofs.Lays.n109 Tryz.prog Tryz.lays109_ren := {
  mixed := by kernel_rfl
  f109 := Tryz.func109.trans (congrArg some (by kernel_rfl))
  t0 := Tryz.underlying0
  a0 := Tryz.isAgg0
  z0 := Tryz.sizeOf0
  v0 := Tryz.zeroValue0
  t3 := Tryz.underlying3
  a3 := Tryz.isAgg3
  z3 := Tryz.sizeOf3
  v3 := Tryz.zeroValue3
  t4 := Tryz.underlying4
  a4 := Tryz.isAgg4
  z4 := Tryz.sizeOf4
  v4 := Tryz.zeroValue4
  t9 := Tryz.underlying9
  a9 := Tryz.isAgg9
  z9 := Tryz.sizeOf9
  v9 := Tryz.zeroValue9
  t31 := Tryz.underlying22
  a31 := Tryz.isAgg22
  z31 := Tryz.sizeOf22
  v31 := Tryz.zeroValue22 }
open Go.Lib in
/-- slices.Index at []string: "Index returns the index of the first occurrence of v in s, or -1 if not present.": IT RETURNS 'Lib.idxOfS (the elements) v'; the world is as it was. 'zs': what the cells behind the slice's address hold (its spare capacity too, if you have it); 'zs.take n': its elements. (LAID: no walk: one application.) -/
theorem Tryz.slices_Index_string (b off n c : Nat) (zs : List ByteArray) (x : ByteArray) (w : World) (hz : n ≤ zs.length) (hbig : n ≤ 9223372036854775807) (hc : ∀ j, j < zs.length → w.cell? ⟨b, off + j, none⟩ = some (.string (zs.getD j ByteArray.empty))) :
    Calls Tryz.prog 109 #[.slice (some ⟨b, off, none⟩) n c, .string x] w fun e w' => e = .returned (.int .i64 (Lib.idxOfS (zs.take n) x)) ∧ w' = w := Any.slices_Index_string Tryz.lays109 b off n c zs x w hz hbig hc
open Go.Lib in
/-- The same at a slice of length 0, a nil one too: no cell is known, none is asked for. (LAID: no walk: one application.) -/
theorem Tryz.slices_Index_string_empty (a : Option Addr) (c : Nat) (x : ByteArray) (w : World) :
    Calls Tryz.prog 109 #[.slice a 0 c, .string x] w fun e w' => e = .returned (.int .i64 (Lib.idxOfS [] x)) ∧ w' = w := Any.slices_Index_string_empty Tryz.lays109 a c x w
def Tryz.lays110_ren : Go.Shelf.Ren := ⟨fun | 110 => 85 | 109 => 109 | n => n, fun | 31 => 22 | 9 => 9 | 4 => 4 | 3 => 3 | 0 => 0 | n => n, fun | n => n⟩
theorem Tryz.lays110 : Go.Proofs.Lays.n110 Tryz.prog Tryz.lays110_ren := {
  mixed := by kernel_rfl
  f109 := Tryz.func109.trans (congrArg some (by kernel_rfl))
  f110 := Tryz.func85.trans (congrArg some (by kernel_rfl))
  t0 := Tryz.underlying0
  a0 := Tryz.isAgg0
  z0 := Tryz.sizeOf0
  v0 := Tryz.zeroValue0
  t3 := Tryz.underlying3
  a3 := Tryz.isAgg3
  z3 := Tryz.sizeOf3
  v3 := Tryz.zeroValue3
  t4 := Tryz.underlying4
  a4 := Tryz.isAgg4
  z4 := Tryz.sizeOf4
  v4 := Tryz.zeroValue4
  t9 := Tryz.underlying9
  a9 := Tryz.isAgg9
  z9 := Tryz.sizeOf9
  v9 := Tryz.zeroValue9
  t31 := Tryz.underlying22
  a31 := Tryz.isAgg22
  z31 := Tryz.sizeOf22
  v31 := Tryz.zeroValue22 }
open Go.Lib in
/-- slices.Contains at []string: "Contains reports whether v is present in s.": IT RETURNS 'Lib.containsS (the elements) v', which is true just where v is among them ('Lib.containsS_iff'); the world is as it was. ITS CALLEE slices.Index IS MET BY ITS OWN CONTRACT OFF THE SHELF (lay that first): no loop is walked here. (LAID: no walk: one application.) -/
theorem Tryz.slices_Contains_string (b off n c : Nat) (zs : List ByteArray) (x : ByteArray) (w : World) (hz : n ≤ zs.length) (hbig : n ≤ 9223372036854775807) (hc : ∀ j, j < zs.length → w.cell? ⟨b, off + j, none⟩ = some (.string (zs.getD j ByteArray.empty))) :
    Calls Tryz.prog 85 #[.slice (some ⟨b, off, none⟩) n c, .string x] w fun e w' => e = .returned (.bool (Lib.containsS (zs.take n) x)) ∧ w' = w := Any.slices_Contains_string Tryz.lays110 b off n c zs x w hz hbig hc
open Go.Lib in
/-- The same at a slice of length 0, a nil one too. (LAID: no walk: one application.) -/
theorem Tryz.slices_Contains_string_empty (a : Option Addr) (c : Nat) (x : ByteArray) (w : World) :
    Calls Tryz.prog 85 #[.slice a 0 c, .string x] w fun e w' => e = .returned (.bool false) ∧ w' = w := Any.slices_Contains_string_empty Tryz.lays110 a c x w
def Tryz.laysGg36_ren : Go.Shelf.Ren := ⟨fun | 36 => 149 | n => n, fun | 66 => 214 | 51 => 165 | 0 => 0 | 60 => 187 | 41 => 133 | n => n, fun | n => n⟩
theorem Tryz.laysGg36 : Go.Proofs.LaysGg.n36 Tryz.prog Tryz.laysGg36_ren := {
  mixed := by kernel_rfl
  f36 := Tryz.func149.trans (congrArg some (by kernel_rfl))
  t0 := Tryz.underlying0
  a0 := Tryz.isAgg0
  z0 := Tryz.sizeOf0
  v0 := Tryz.zeroValue0
  i0 := by kernel_rfl
  t41 := Tryz.underlying133
  a41 := Tryz.isAgg133
  z41 := Tryz.sizeOf133
  v41 := Tryz.zeroValue133
  i41 := by kernel_rfl
  t51 := Tryz.underlying165
  a51 := Tryz.isAgg165
  z51 := Tryz.sizeOf165
  v51 := Tryz.zeroValue165
  i51 := by kernel_rfl
  t60 := Tryz.underlying187
  a60 := Tryz.isAgg187
  z60 := Tryz.sizeOf187
  v60 := Tryz.zeroValue187
  i60 := by kernel_rfl
  t66 := Tryz.underlying214
  a66 := Tryz.isAgg214
  z66 := Tryz.sizeOf214
  v66 := Tryz.zeroValue214
  i66 := by kernel_rfl }
open Go.RowKit Go.Lib Go.Sort in
/-- '*r ^= *r << 13; *r ^= *r >> 7; *r ^= *r << 17; return uint64(*r)': the cell holds 'xorNextN X' and that is handed back; three draws; nothing else turns. (LAID: no walk: one application.) -/
theorem Tryz.xorshift_Next (rb ro X : Nat) (hX : X < 18446744073709551616) (w : World) (hc : w.cell? ⟨rb, ro, none⟩ = some (.int .u64 X)) (hf : w.frozen? ⟨rb, ro, none⟩ = false) :
    Calls Tryz.prog 149 #[.pointer (some ⟨rb, ro, none⟩)] w fun e w' => e = .returned (.int .u64 (xorNextN X : Nat)) ∧ w' = (w.setCell ⟨rb, ro, none⟩ (.int .u64 (xorNextN X : Nat))).drewN 3 := Any.xorshift_Next Tryz.laysGg36 rb ro X hX w hc hf
def Tryz.laysGg35_ren : Go.Shelf.Ren := ⟨fun | 35 => 148 | 13 => 95 | 24 => 121 | 25 => 122 | n => n, fun | 3 => 3 | 41 => 133 | 49 => 163 | 51 => 165 | 4 => 4 | 5 => 5 | 9 => 9 | n => n, fun | n => n⟩
theorem Tryz.laysGg35 : Go.Proofs.LaysGg.n35 Tryz.prog Tryz.laysGg35_ren := {
  mixed := by kernel_rfl
  f13 := Tryz.func95.trans (congrArg some (by kernel_rfl))
  f24 := Tryz.func121.trans (congrArg some (by kernel_rfl))
  f25 := Tryz.func122.trans (congrArg some (by kernel_rfl))
  f35 := Tryz.func148.trans (congrArg some (by kernel_rfl))
  t3 := Tryz.underlying3
  a3 := Tryz.isAgg3
  z3 := Tryz.sizeOf3
  v3 := Tryz.zeroValue3
  i3 := by kernel_rfl
  t4 := Tryz.underlying4
  a4 := Tryz.isAgg4
  z4 := Tryz.sizeOf4
  v4 := Tryz.zeroValue4
  i4 := by kernel_rfl
  t5 := Tryz.underlying5
  a5 := Tryz.isAgg5
  z5 := Tryz.sizeOf5
  v5 := Tryz.zeroValue5
  i5 := by kernel_rfl
  t9 := Tryz.underlying9
  a9 := Tryz.isAgg9
  z9 := Tryz.sizeOf9
  v9 := Tryz.zeroValue9
  i9 := by kernel_rfl
  t41 := Tryz.underlying133
  a41 := Tryz.isAgg133
  z41 := Tryz.sizeOf133
  v41 := Tryz.zeroValue133
  i41 := by kernel_rfl
  t49 := Tryz.underlying163
  a49 := Tryz.isAgg163
  z49 := Tryz.sizeOf163
  v49 := Tryz.zeroValue163
  i49 := by kernel_rfl
  t51 := Tryz.underlying165
  a51 := Tryz.isAgg165
  z51 := Tryz.sizeOf165
  v51 := Tryz.zeroValue165
  i51 := by kernel_rfl }
open Go.RowKit Go.Lib Go.Sort in
/-- 'return 1 << bits.Len(uint(length))'. (LAID: no walk: one application.) -/
theorem Tryz.nextPowerOfTwo (n : Nat) (hn : n < 4611686018427387904) (w : World) :
    Calls Tryz.prog 148 #[.int .i64 n] w fun e w' => e = .returned (.int .u64 ((1 <<< bitsLen n : Nat) : Int)) ∧ w' = w := Any.nextPowerOfTwo Tryz.laysGg35 n hn w
open Go.RowKit Go.Lib Go.Sort in
/-- sort.insertionSort_func, from a world to a 'sortWorld' of it. (LAID: no walk: one application.) -/
theorem Tryz.insertionSort_func_cells_w {α : Type} [Inhabited α] (enc : α → List Value) (k : Nat) (hk : ∀ x, (enc x).length = k) (lt : α → α → Bool) (g : Nat) (lb : Array Value) (sf : Nat) (sb : Array Value) (blk off a b : Nat) (d : Array α) (w : World) (eg : ∀ args w, (callFunc g args).run Tryz.prog w = .ok (.enter g args) w) (hless : LessReadsK Tryz.prog g lb enc k lt blk off d.size w) (hswap : SwapSwapsK Tryz.prog sf sb enc k blk off d.size) (hH : HoldsK enc k w blk off d) (hblk : blk < w.heap.size) (hab : a ≤ b) (hb : b ≤ d.size) (hsz : d.size < 4611686018427387904) :
    Calls Tryz.prog 123 #[.agg #[.func (.func g) #[] lb, .func (.func sf) #[] sb], .int .i64 a, .int .i64 b] w fun e w' => e = .returned (.tuple #[]) ∧ ∃ n os, w' = sortWorldK enc k w blk off n (Sort.insertionSort lt d a b) os := Any.insertionSort_func_cells_w Tryz.laysGg26 enc k hk lt g lb sf sb blk off a b d w eg hless hswap hH hblk hab hb hsz
open Go.RowKit Go.Lib Go.Sort in
theorem Tryz.reverseRange_func_cells {α : Type} [Inhabited α] (enc : α → List Value) (k : Nat) (hk : ∀ x, (enc x).length = k) (lf : Fn) (la lb : Array Value) (sf : Nat) (sb : Array Value) (blk off a b : Nat) (d : Array α) (w : World) (hswap : SwapSwapsK Tryz.prog sf sb enc k blk off d.size) (hH : HoldsK enc k w blk off d) (hblk : blk < w.heap.size) (hab : a ≤ b) (hb : b ≤ d.size) (hsz : d.size < 4611686018427387904) :
    Calls Tryz.prog 127 #[.agg #[.func lf la lb, .func (.func sf) #[] sb], .int .i64 a, .int .i64 b] w fun e w' => e = .returned (.tuple #[]) ∧ ∃ n, w' = putRowK enc k (Sort.ahead (w.alloc (.cells #[.func lf la lb, .func (.func sf) #[] sb] 136)) n) blk off (reverseRange d a b) := Any.reverseRange_func_cells Tryz.laysGg30 enc k hk lf la lb sf sb blk off a b d w hswap hH hblk hab hb hsz
open Go.RowKit Go.Lib Go.Sort in
/-- sort.reverseRange_func, from a world to a 'sortWorld' of it. (LAID: no walk: one application.) -/
theorem Tryz.reverseRange_func_cells_w {α : Type} [Inhabited α] (enc : α → List Value) (k : Nat) (hk : ∀ x, (enc x).length = k) (lf : Fn) (la lb : Array Value) (sf : Nat) (sb : Array Value) (blk off a b : Nat) (d : Array α) (w : World) (hswap : SwapSwapsK Tryz.prog sf sb enc k blk off d.size) (hH : HoldsK enc k w blk off d) (hblk : blk < w.heap.size) (hab : a ≤ b) (hb : b ≤ d.size) (hsz : d.size < 4611686018427387904) :
    Calls Tryz.prog 127 #[.agg #[.func lf la lb, .func (.func sf) #[] sb], .int .i64 a, .int .i64 b] w fun e w' => e = .returned (.tuple #[]) ∧ ∃ n os, w' = sortWorldK enc k w blk off n (reverseRange d a b) os := Any.reverseRange_func_cells_w Tryz.laysGg30 enc k hk lf la lb sf sb blk off a b d w hswap hH hblk hab hb hsz
def Tryz.laysGg34_ren : Go.Shelf.Ren := ⟨fun | 34 => 147 | n => n, fun | 44 => 136 | 3 => 3 | 0 => 0 | 4 => 4 | 26 => 109 | 37 => 129 | n => n, fun | n => n⟩
theorem Tryz.laysGg34 : Go.Proofs.LaysGg.n34 Tryz.prog Tryz.laysGg34_ren := {
  mixed := by kernel_rfl
  f34 := Tryz.func147.trans (congrArg some (by kernel_rfl))
  t0 := Tryz.underlying0
  a0 := Tryz.isAgg0
  z0 := Tryz.sizeOf0
  v0 := Tryz.zeroValue0
  i0 := by kernel_rfl
  t3 := Tryz.underlying3
  a3 := Tryz.isAgg3
  z3 := Tryz.sizeOf3
  v3 := Tryz.zeroValue3
  i3 := by kernel_rfl
  t4 := Tryz.underlying4
  a4 := Tryz.isAgg4
  z4 := Tryz.sizeOf4
  v4 := Tryz.zeroValue4
  i4 := by kernel_rfl
  t26 := Tryz.underlying109
  a26 := Tryz.isAgg109
  z26 := Tryz.sizeOf109
  v26 := Tryz.zeroValue109
  i26 := by kernel_rfl
  t37 := Tryz.underlying129
  a37 := Tryz.isAgg129
  z37 := Tryz.sizeOf129
  v37 := Tryz.zeroValue129
  i37 := by kernel_rfl
  t44 := Tryz.underlying136
  a44 := Tryz.isAgg136
  z44 := Tryz.sizeOf136
  v44 := Tryz.zeroValue136
  i44 := by kernel_rfl }
open Go.RowKit Go.Lib Go.Sort in
theorem Tryz.siftDown_func_cells {α : Type} [Inhabited α] (enc : α → List Value) (k : Nat) (hk : ∀ x, (enc x).length = k) (lt : α → α → Bool) (g : Nat) (lb : Array Value) (sf : Nat) (sb : Array Value) (blk off lo hi first : Nat) (d : Array α) (w : World) (eg : ∀ args w, (callFunc g args).run Tryz.prog w = .ok (.enter g args) w) (hless : LessReadsK Tryz.prog g lb enc k lt blk off d.size w) (hswap : SwapSwapsK Tryz.prog sf sb enc k blk off d.size) (hH : HoldsK enc k w blk off d) (hblk : blk < w.heap.size) (hlo : lo ≤ hi) (hb : first + hi ≤ d.size) (hsz : d.size < 4611686018427387904) :
    Calls Tryz.prog 147 #[.agg #[.func (.func g) #[] lb, .func (.func sf) #[] sb], .int .i64 lo, .int .i64 hi, .int .i64 first] w fun e w' =>
      e = .returned (.tuple #[]) ∧ ∃ n, w' = putRowK enc k (Sort.ahead (w.alloc (.cells #[.func (.func g) #[] lb, .func (.func sf) #[] sb] 136)) n) blk off (siftDown lt hi first lo d) := Any.siftDown_func_cells Tryz.laysGg34 enc k hk lt g lb sf sb blk off lo hi first d w eg hless hswap hH hblk hlo hb hsz
open Go.RowKit Go.Lib Go.Sort in
/-- sort.siftDown_func, from a world to a 'sortWorld' of it. (LAID: no walk: one application.) -/
theorem Tryz.siftDown_func_cells_w {α : Type} [Inhabited α] (enc : α → List Value) (k : Nat) (hk : ∀ x, (enc x).length = k) (lt : α → α → Bool) (g : Nat) (lb : Array Value) (sf : Nat) (sb : Array Value) (blk off lo hi first : Nat) (d : Array α) (w : World) (eg : ∀ args w, (callFunc g args).run Tryz.prog w = .ok (.enter g args) w) (hless : LessReadsK Tryz.prog g lb enc k lt blk off d.size w) (hswap : SwapSwapsK Tryz.prog sf sb enc k blk off d.size) (hH : HoldsK enc k w blk off d) (hblk : blk < w.heap.size) (hlo : lo ≤ hi) (hb : first + hi ≤ d.size) (hsz : d.size < 4611686018427387904) :
    Calls Tryz.prog 147 #[.agg #[.func (.func g) #[] lb, .func (.func sf) #[] sb], .int .i64 lo, .int .i64 hi, .int .i64 first] w fun e w' => e = .returned (.tuple #[]) ∧ ∃ n os, w' = sortWorldK enc k w blk off n (siftDown lt hi first lo d) os := Any.siftDown_func_cells_w Tryz.laysGg34 enc k hk lt g lb sf sb blk off lo hi first d w eg hless hswap hH hblk hlo hb hsz
def Tryz.laysGg27_ren : Go.Shelf.Ren := ⟨fun | 27 => 124 | 34 => 147 | n => n, fun | 44 => 136 | 3 => 3 | 0 => 0 | 4 => 4 | 37 => 129 | 26 => 109 | n => n, fun | n => n⟩
theorem Tryz.laysGg27 : Go.Proofs.LaysGg.n27 Tryz.prog Tryz.laysGg27_ren := {
  mixed := by kernel_rfl
  f27 := Tryz.func124.trans (congrArg some (by kernel_rfl))
  f34 := Tryz.func147.trans (congrArg some (by kernel_rfl))
  t0 := Tryz.underlying0
  a0 := Tryz.isAgg0
  z0 := Tryz.sizeOf0
  v0 := Tryz.zeroValue0
  i0 := by kernel_rfl
  t3 := Tryz.underlying3
  a3 := Tryz.isAgg3
  z3 := Tryz.sizeOf3
  v3 := Tryz.zeroValue3
  i3 := by kernel_rfl
  t4 := Tryz.underlying4
  a4 := Tryz.isAgg4
  z4 := Tryz.sizeOf4
  v4 := Tryz.zeroValue4
  i4 := by kernel_rfl
  t26 := Tryz.underlying109
  a26 := Tryz.isAgg109
  z26 := Tryz.sizeOf109
  v26 := Tryz.zeroValue109
  i26 := by kernel_rfl
  t37 := Tryz.underlying129
  a37 := Tryz.isAgg129
  z37 := Tryz.sizeOf129
  v37 := Tryz.zeroValue129
  i37 := by kernel_rfl
  t44 := Tryz.underlying136
  a44 := Tryz.isAgg136
  z44 := Tryz.sizeOf136
  v44 := Tryz.zeroValue136
  i44 := by kernel_rfl }
open Go.RowKit Go.Lib Go.Sort in
theorem Tryz.heapSort_func_cells_w {α : Type} [Inhabited α] (enc : α → List Value) (k : Nat) (hk : ∀ x, (enc x).length = k) (lt : α → α → Bool) (g : Nat) (lb : Array Value) (sf : Nat) (sb : Array Value) (blk off a b : Nat) (d : Array α) (w : World) (eg : ∀ args w, (callFunc g args).run Tryz.prog w = .ok (.enter g args) w) (hless : LessReadsK Tryz.prog g lb enc k lt blk off d.size w) (hswap : SwapSwapsK Tryz.prog sf sb enc k blk off d.size) (hH : HoldsK enc k w blk off d) (hblk : blk < w.heap.size) (hab : a ≤ b) (hb : b ≤ d.size) (hsz : d.size < 4611686018427387904) :
    Calls Tryz.prog 124 #[.agg #[.func (.func g) #[] lb, .func (.func sf) #[] sb], .int .i64 a, .int .i64 b] w fun e w' => e = .returned (.tuple #[]) ∧ ∃ n os, w' = sortWorldK enc k w blk off n (heapSort lt d a b) os := Any.heapSort_func_cells_w Tryz.laysGg27 enc k hk lt g lb sf sb blk off a b d w eg hless hswap hH hblk hab hb hsz
def Tryz.laysGg31_ren : Go.Shelf.Ren := ⟨fun | 31 => 128 | n => n, fun | 44 => 136 | 3 => 3 | 4 => 4 | 0 => 0 | 26 => 109 | 37 => 129 | n => n, fun | n => n⟩
theorem Tryz.laysGg31 : Go.Proofs.LaysGg.n31 Tryz.prog Tryz.laysGg31_ren := {
  mixed := by kernel_rfl
  f31 := Tryz.func128.trans (congrArg some (by kernel_rfl))
  t0 := Tryz.underlying0
  a0 := Tryz.isAgg0
  z0 := Tryz.sizeOf0
  v0 := Tryz.zeroValue0
  i0 := by kernel_rfl
  t3 := Tryz.underlying3
  a3 := Tryz.isAgg3
  z3 := Tryz.sizeOf3
  v3 := Tryz.zeroValue3
  i3 := by kernel_rfl
  t4 := Tryz.underlying4
  a4 := Tryz.isAgg4
  z4 := Tryz.sizeOf4
  v4 := Tryz.zeroValue4
  i4 := by kernel_rfl
  t26 := Tryz.underlying109
  a26 := Tryz.isAgg109
  z26 := Tryz.sizeOf109
  v26 := Tryz.zeroValue109
  i26 := by kernel_rfl
  t37 := Tryz.underlying129
  a37 := Tryz.isAgg129
  z37 := Tryz.sizeOf129
  v37 := Tryz.zeroValue129
  i37 := by kernel_rfl
  t44 := Tryz.underlying136
  a44 := Tryz.isAgg136
  z44 := Tryz.sizeOf136
  v44 := Tryz.zeroValue136
  i44 := by kernel_rfl }
open Go.RowKit Go.Lib Go.Sort in
theorem Tryz.partialInsertionSort_func_cells {α : Type} [Inhabited α] (enc : α → List Value) (k : Nat) (hk : ∀ x, (enc x).length = k) (lt : α → α → Bool) (g : Nat) (lb : Array Value) (sf : Nat) (sb : Array Value) (blk off a b : Nat) (d : Array α) (w : World) (eg : ∀ args w, (callFunc g args).run Tryz.prog w = .ok (.enter g args) w) (hless : LessReadsK Tryz.prog g lb enc k lt blk off d.size w) (hswap : SwapSwapsK Tryz.prog sf sb enc k blk off d.size) (hH : HoldsK enc k w blk off d) (hblk : blk < w.heap.size) (hab : a < b) (hb : b ≤ d.size) (hsz : d.size < 4611686018427387904) :
    Calls Tryz.prog 128 #[.agg #[.func (.func g) #[] lb, .func (.func sf) #[] sb], .int .i64 a, .int .i64 b] w fun e w' =>
      e = .returned (.bool (Sort.partialInsertionSort lt d a b).2) ∧ ∃ n, w' = putRowK enc k (Sort.ahead (w.alloc (.cells #[.func (.func g) #[] lb, .func (.func sf) #[] sb] 136)) n) blk off (Sort.partialInsertionSort lt d a b).1 := Any.partialInsertionSort_func_cells Tryz.laysGg31 enc k hk lt g lb sf sb blk off a b d w eg hless hswap hH hblk hab hb hsz
open Go.RowKit Go.Lib Go.Sort in
/-- sort.partialInsertionSort_func, from a world to a 'sortWorld' of it. (LAID: no walk: one application.) -/
theorem Tryz.partialInsertionSort_func_cells_w {α : Type} [Inhabited α] (enc : α → List Value) (k : Nat) (hk : ∀ x, (enc x).length = k) (lt : α → α → Bool) (g : Nat) (lb : Array Value) (sf : Nat) (sb : Array Value) (blk off a b : Nat) (d : Array α) (w : World) (eg : ∀ args w, (callFunc g args).run Tryz.prog w = .ok (.enter g args) w) (hless : LessReadsK Tryz.prog g lb enc k lt blk off d.size w) (hswap : SwapSwapsK Tryz.prog sf sb enc k blk off d.size) (hH : HoldsK enc k w blk off d) (hblk : blk < w.heap.size) (hab : a < b) (hb : b ≤ d.size) (hsz : d.size < 4611686018427387904) :
    Calls Tryz.prog 128 #[.agg #[.func (.func g) #[] lb, .func (.func sf) #[] sb], .int .i64 a, .int .i64 b] w fun e w' => e = .returned (.bool (Sort.partialInsertionSort lt d a b).2) ∧ ∃ n os, w' = sortWorldK enc k w blk off n (Sort.partialInsertionSort lt d a b).1 os := Any.partialInsertionSort_func_cells_w Tryz.laysGg31 enc k hk lt g lb sf sb blk off a b d w eg hless hswap hH hblk hab hb hsz
open Go.RowKit Go.Lib Go.Sort in
theorem Tryz.order2_func_cells {α : Type} [Inhabited α] (enc : α → List Value) (k : Nat) (hk : ∀ x, (enc x).length = k) (lt : α → α → Bool) (g : Nat) (lb : Array Value) (sfn : Fn) (sa sb : Array Value) (blk off : Nat) (w0 W : World) (d : Array α) (a b cb co s : Nat) (eg : ∀ args w, (callFunc g args).run Tryz.prog w = .ok (.enter g args) w) (hL : LessReadsK Tryz.prog g lb enc k lt blk off d.size w0) (hW : SWK enc k w0 blk off d W) (ha : a < d.size) (hb : b < d.size) (hS : Holds (Value.int .i64) W cb co (one s)) (hcb : cb < W.heap.size) (hs : s < 4611686018427387904) :
    Calls Tryz.prog 164 #[.agg #[.func (.func g) #[] lb, .func sfn sa sb], .int .i64 a, .int .i64 b, .pointer (some ⟨cb, co, none⟩)] W fun e w' =>
      e = .returned (.tuple #[.int .i64 (order2 lt d a b s).1, .int .i64 (order2 lt d a b s).2.1]) ∧ ∃ n os, w' = sortWorld (Value.int .i64) W cb co n (one (order2 lt d a b s).2.2) os := Any.order2_func_cells Tryz.laysGg39 enc k hk lt g lb sfn sa sb blk off w0 W d a b cb co s eg hL hW ha hb hS hcb hs
open Go.RowKit Go.Lib Go.Sort in
theorem Tryz.median_func_cells {α : Type} [Inhabited α] (enc : α → List Value) (k : Nat) (hk : ∀ x, (enc x).length = k) (lt : α → α → Bool) (g : Nat) (lb : Array Value) (sfn : Fn) (sa sb : Array Value) (blk off : Nat) (w0 W : World) (d : Array α) (a b c cb co s : Nat) (eg : ∀ args w, (callFunc g args).run Tryz.prog w = .ok (.enter g args) w) (hL : LessReadsK Tryz.prog g lb enc k lt blk off d.size w0) (hW : SWK enc k w0 blk off d W) (ha : a < d.size) (hb : b < d.size) (hc : c < d.size) (hS : Holds (Value.int .i64) W cb co (one s)) (hcb0 : w0.heap.size ≤ cb) (hcb : cb < W.heap.size) (hs : s + 3 < 4611686018427387904) :
    Calls Tryz.prog 151 #[.agg #[.func (.func g) #[] lb, .func sfn sa sb], .int .i64 a, .int .i64 b, .int .i64 c, .pointer (some ⟨cb, co, none⟩)] W fun e w' =>
      e = .returned (.int .i64 (median lt d a b c s).1) ∧ ∃ n os, w' = sortWorld (Value.int .i64) W cb co n (one (median lt d a b c s).2) os := Any.median_func_cells Tryz.laysGg38 enc k hk lt g lb sfn sa sb blk off w0 W d a b c cb co s eg hL hW ha hb hc hS hcb0 hcb hs
open Go.RowKit Go.Lib Go.Sort in
theorem Tryz.medianAdjacent_func_cells {α : Type} [Inhabited α] (enc : α → List Value) (k : Nat) (hk : ∀ x, (enc x).length = k) (lt : α → α → Bool) (g : Nat) (lb : Array Value) (sfn : Fn) (sa sb : Array Value) (blk off : Nat) (w0 W : World) (d : Array α) (a cb co s : Nat) (eg : ∀ args w, (callFunc g args).run Tryz.prog w = .ok (.enter g args) w) (hL : LessReadsK Tryz.prog g lb enc k lt blk off d.size w0) (hW : SWK enc k w0 blk off d W) (ha1 : 1 ≤ a) (ha2 : a + 1 < d.size) (hsz : d.size < 4611686018427387904) (hS : Holds (Value.int .i64) W cb co (one s)) (hcb0 : w0.heap.size ≤ cb) (hcb : cb < W.heap.size) (hs : s + 3 < 4611686018427387904) :
    Calls Tryz.prog 150 #[.agg #[.func (.func g) #[] lb, .func sfn sa sb], .int .i64 a, .pointer (some ⟨cb, co, none⟩)] W fun e w' =>
      e = .returned (.int .i64 (medianAdjacent lt d a s).1) ∧ ∃ n os, w' = sortWorld (Value.int .i64) W cb co n (one (medianAdjacent lt d a s).2) os := Any.medianAdjacent_func_cells Tryz.laysGg37 enc k hk lt g lb sfn sa sb blk off w0 W d a cb co s eg hL hW ha1 ha2 hsz hS hcb0 hcb hs
def Tryz.laysGg29_ren : Go.Shelf.Ren := ⟨fun | 29 => 126 | 37 => 150 | 38 => 151 | 39 => 164 | n => n, fun | 44 => 136 | 3 => 3 | 53 => 167 | 0 => 0 | 4 => 4 | 64 => 191 | 67 => 215 | 26 => 109 | 37 => 129 | n => n, fun | n => n⟩
theorem Tryz.laysGg29 : Go.Proofs.LaysGg.n29 Tryz.prog Tryz.laysGg29_ren := {
  mixed := by kernel_rfl
  f29 := Tryz.func126.trans (congrArg some (by kernel_rfl))
  f37 := Tryz.func150.trans (congrArg some (by kernel_rfl))
  f38 := Tryz.func151.trans (congrArg some (by kernel_rfl))
  f39 := Tryz.func164.trans (congrArg some (by kernel_rfl))
  t0 := Tryz.underlying0
  a0 := Tryz.isAgg0
  z0 := Tryz.sizeOf0
  v0 := Tryz.zeroValue0
  i0 := by kernel_rfl
  t3 := Tryz.underlying3
  a3 := Tryz.isAgg3
  z3 := Tryz.sizeOf3
  v3 := Tryz.zeroValue3
  i3 := by kernel_rfl
  t4 := Tryz.underlying4
  a4 := Tryz.isAgg4
  z4 := Tryz.sizeOf4
  v4 := Tryz.zeroValue4
  i4 := by kernel_rfl
  t26 := Tryz.underlying109
  a26 := Tryz.isAgg109
  z26 := Tryz.sizeOf109
  v26 := Tryz.zeroValue109
  i26 := by kernel_rfl
  t37 := Tryz.underlying129
  a37 := Tryz.isAgg129
  z37 := Tryz.sizeOf129
  v37 := Tryz.zeroValue129
  i37 := by kernel_rfl
  t44 := Tryz.underlying136
  a44 := Tryz.isAgg136
  z44 := Tryz.sizeOf136
  v44 := Tryz.zeroValue136
  i44 := by kernel_rfl
  t53 := Tryz.underlying167
  a53 := Tryz.isAgg167
  z53 := Tryz.sizeOf167
  v53 := Tryz.zeroValue167
  i53 := by kernel_rfl
  t64 := Tryz.underlying191
  a64 := Tryz.isAgg191
  z64 := Tryz.sizeOf191
  v64 := Tryz.zeroValue191
  i64 := by kernel_rfl
  t67 := Tryz.underlying215
  a67 := Tryz.isAgg215
  z67 := Tryz.sizeOf215
  v67 := Tryz.zeroValue215
  i67 := by kernel_rfl }
open Go.RowKit Go.Lib Go.Sort in
/-- sort.choosePivot_func: THE LIBRARY's OWN TEXT COMPUTES 'Sort.choosePivot lt d a b'; the row is not turned; W is grown. (After Derived/Sort/Walk11.lean's 'So.choosePivot_int', row for row.) (LAID: no walk: one application.) -/
theorem Tryz.choosePivot_func_cells {α : Type} [Inhabited α] (enc : α → List Value) (k : Nat) (hk : ∀ x, (enc x).length = k) (lt : α → α → Bool) (g : Nat) (lb : Array Value) (sfn : Fn) (sa sb : Array Value) (blk off a b : Nat) (W : World) (d : Array α) (eg : ∀ args w, (callFunc g args).run Tryz.prog w = .ok (.enter g args) w) (hless : LessReadsK Tryz.prog g lb enc k lt blk off d.size W) (hH : HoldsK enc k W blk off d) (hab : a < b) (hb : b ≤ d.size) (hsz : d.size < 4611686018427387904) :
    Calls Tryz.prog 126 #[.agg #[.func (.func g) #[] lb, .func sfn sa sb], .int .i64 a, .int .i64 b] W fun e w' =>
      e = .returned (.tuple #[.int .i64 (choosePivot lt d a b).1, .int .i64 (hintCode (choosePivot lt d a b).2)]) ∧ ∃ n os, w' = grow (Sort.ahead W n) os := Any.choosePivot_func_cells Tryz.laysGg29 enc k hk lt g lb sfn sa sb blk off a b W d eg hless hH hab hb hsz
def Tryz.laysGg32_ren : Go.Shelf.Ren := ⟨fun | 32 => 129 | n => n, fun | 44 => 136 | 3 => 3 | 0 => 0 | 37 => 129 | 4 => 4 | 26 => 109 | n => n, fun | n => n⟩
theorem Tryz.laysGg32 : Go.Proofs.LaysGg.n32 Tryz.prog Tryz.laysGg32_ren := {
  mixed := by kernel_rfl
  f32 := Tryz.func129.trans (congrArg some (by kernel_rfl))
  t0 := Tryz.underlying0
  a0 := Tryz.isAgg0
  z0 := Tryz.sizeOf0
  v0 := Tryz.zeroValue0
  i0 := by kernel_rfl
  t3 := Tryz.underlying3
  a3 := Tryz.isAgg3
  z3 := Tryz.sizeOf3
  v3 := Tryz.zeroValue3
  i3 := by kernel_rfl
  t4 := Tryz.underlying4
  a4 := Tryz.isAgg4
  z4 := Tryz.sizeOf4
  v4 := Tryz.zeroValue4
  i4 := by kernel_rfl
  t26 := Tryz.underlying109
  a26 := Tryz.isAgg109
  z26 := Tryz.sizeOf109
  v26 := Tryz.zeroValue109
  i26 := by kernel_rfl
  t37 := Tryz.underlying129
  a37 := Tryz.isAgg129
  z37 := Tryz.sizeOf129
  v37 := Tryz.zeroValue129
  i37 := by kernel_rfl
  t44 := Tryz.underlying136
  a44 := Tryz.isAgg136
  z44 := Tryz.sizeOf136
  v44 := Tryz.zeroValue136
  i44 := by kernel_rfl }
open Go.RowKit Go.Lib Go.Sort in
theorem Tryz.partitionEqual_func_cells {α : Type} [Inhabited α] (enc : α → List Value) (k : Nat) (hk : ∀ x, (enc x).length = k) (lt : α → α → Bool) (g : Nat) (lb : Array Value) (sf : Nat) (sb : Array Value) (blk off a b pivot : Nat) (d : Array α) (W : World) (eg : ∀ args w, (callFunc g args).run Tryz.prog w = .ok (.enter g args) w) (hless : LessReadsK Tryz.prog g lb enc k lt blk off d.size W) (hswap : SwapSwapsK Tryz.prog sf sb enc k blk off d.size) (hH : HoldsK enc k W blk off d) (hblk : blk < W.heap.size) (hap : a ≤ pivot) (hpb : pivot < b) (hb : b ≤ d.size) (hsz : d.size < 4611686018427387904) :
    Calls Tryz.prog 129 #[.agg #[.func (.func g) #[] lb, .func (.func sf) #[] sb], .int .i64 a, .int .i64 b, .int .i64 pivot] W fun e w' =>
      e = .returned (.int .i64 (Sort.partitionEqual lt d a b pivot).1) ∧ ∃ n, w' = (putRowK enc k (W.alloc (.cells #[.func (.func g) #[] lb, .func (.func sf) #[] sb] 136)) blk off (Sort.partitionEqual lt d a b pivot).2).drewN n := Any.partitionEqual_func_cells Tryz.laysGg32 enc k hk lt g lb sf sb blk off a b pivot d W eg hless hswap hH hblk hap hpb hb hsz
def Tryz.laysGg33_ren : Go.Shelf.Ren := ⟨fun | 33 => 130 | n => n, fun | 44 => 136 | 3 => 3 | 4 => 4 | 0 => 0 | 37 => 129 | 26 => 109 | n => n, fun | n => n⟩
theorem Tryz.laysGg33 : Go.Proofs.LaysGg.n33 Tryz.prog Tryz.laysGg33_ren := {
  mixed := by kernel_rfl
  f33 := Tryz.func130.trans (congrArg some (by kernel_rfl))
  t0 := Tryz.underlying0
  a0 := Tryz.isAgg0
  z0 := Tryz.sizeOf0
  v0 := Tryz.zeroValue0
  i0 := by kernel_rfl
  t3 := Tryz.underlying3
  a3 := Tryz.isAgg3
  z3 := Tryz.sizeOf3
  v3 := Tryz.zeroValue3
  i3 := by kernel_rfl
  t4 := Tryz.underlying4
  a4 := Tryz.isAgg4
  z4 := Tryz.sizeOf4
  v4 := Tryz.zeroValue4
  i4 := by kernel_rfl
  t26 := Tryz.underlying109
  a26 := Tryz.isAgg109
  z26 := Tryz.sizeOf109
  v26 := Tryz.zeroValue109
  i26 := by kernel_rfl
  t37 := Tryz.underlying129
  a37 := Tryz.isAgg129
  z37 := Tryz.sizeOf129
  v37 := Tryz.zeroValue129
  i37 := by kernel_rfl
  t44 := Tryz.underlying136
  a44 := Tryz.isAgg136
  z44 := Tryz.sizeOf136
  v44 := Tryz.zeroValue136
  i44 := by kernel_rfl }
open Go.RowKit Go.Lib Go.Sort in
theorem Tryz.partition_func_cells {α : Type} [Inhabited α] (enc : α → List Value) (k : Nat) (hk : ∀ x, (enc x).length = k) (lt : α → α → Bool) (g : Nat) (lb : Array Value) (sf : Nat) (sb : Array Value) (blk off a b pivot : Nat) (d : Array α) (W : World) (eg : ∀ args w, (callFunc g args).run Tryz.prog w = .ok (.enter g args) w) (hless : LessReadsK Tryz.prog g lb enc k lt blk off d.size W) (hswap : SwapSwapsK Tryz.prog sf sb enc k blk off d.size) (hH : HoldsK enc k W blk off d) (hblk : blk < W.heap.size) (hap : a ≤ pivot) (hpb : pivot < b) (hb : b ≤ d.size) (hsz : d.size < 4611686018427387904) :
    Calls Tryz.prog 130 #[.agg #[.func (.func g) #[] lb, .func (.func sf) #[] sb], .int .i64 a, .int .i64 b, .int .i64 pivot] W fun e w' =>
      e = .returned (.tuple #[.int .i64 (Sort.partition lt d a b pivot).1, .bool (Sort.partition lt d a b pivot).2.1]) ∧ ∃ n, w' = (putRowK enc k (W.alloc (.cells #[.func (.func g) #[] lb, .func (.func sf) #[] sb] 136)) blk off (Sort.partition lt d a b pivot).2.2).drewN n := Any.partition_func_cells Tryz.laysGg33 enc k hk lt g lb sf sb blk off a b pivot d W eg hless hswap hH hblk hap hpb hb hsz
open Go.RowKit Go.Lib Go.Sort in
/-- sort.partitionEqual_func, from a world to a 'sortWorld' of it. (LAID: no walk: one application.) -/
theorem Tryz.partitionEqual_func_cells_w {α : Type} [Inhabited α] (enc : α → List Value) (k : Nat) (hk : ∀ x, (enc x).length = k) (lt : α → α → Bool) (g : Nat) (lb : Array Value) (sf : Nat) (sb : Array Value) (blk off a b pivot : Nat) (d : Array α) (W : World) (eg : ∀ args w, (callFunc g args).run Tryz.prog w = .ok (.enter g args) w) (hless : LessReadsK Tryz.prog g lb enc k lt blk off d.size W) (hswap : SwapSwapsK Tryz.prog sf sb enc k blk off d.size) (hH : HoldsK enc k W blk off d) (hblk : blk < W.heap.size) (hap : a ≤ pivot) (hpb : pivot < b) (hb : b ≤ d.size) (hsz : d.size < 4611686018427387904) :
    Calls Tryz.prog 129 #[.agg #[.func (.func g) #[] lb, .func (.func sf) #[] sb], .int .i64 a, .int .i64 b, .int .i64 pivot] W fun e w' => e = .returned (.int .i64 (Sort.partitionEqual lt d a b pivot).1) ∧ ∃ n os, w' = sortWorldK enc k W blk off n (Sort.partitionEqual lt d a b pivot).2 os := Any.partitionEqual_func_cells_w Tryz.laysGg32 enc k hk lt g lb sf sb blk off a b pivot d W eg hless hswap hH hblk hap hpb hb hsz
open Go.RowKit Go.Lib Go.Sort in
/-- sort.partition_func, from a world to a 'sortWorld' of it. (LAID: no walk: one application.) -/
theorem Tryz.partition_func_cells_w {α : Type} [Inhabited α] (enc : α → List Value) (k : Nat) (hk : ∀ x, (enc x).length = k) (lt : α → α → Bool) (g : Nat) (lb : Array Value) (sf : Nat) (sb : Array Value) (blk off a b pivot : Nat) (d : Array α) (W : World) (eg : ∀ args w, (callFunc g args).run Tryz.prog w = .ok (.enter g args) w) (hless : LessReadsK Tryz.prog g lb enc k lt blk off d.size W) (hswap : SwapSwapsK Tryz.prog sf sb enc k blk off d.size) (hH : HoldsK enc k W blk off d) (hblk : blk < W.heap.size) (hap : a ≤ pivot) (hpb : pivot < b) (hb : b ≤ d.size) (hsz : d.size < 4611686018427387904) :
    Calls Tryz.prog 130 #[.agg #[.func (.func g) #[] lb, .func (.func sf) #[] sb], .int .i64 a, .int .i64 b, .int .i64 pivot] W fun e w' => e = .returned (.tuple #[.int .i64 (Sort.partition lt d a b pivot).1, .bool (Sort.partition lt d a b pivot).2.1]) ∧ ∃ n os, w' = sortWorldK enc k W blk off n (Sort.partition lt d a b pivot).2.2 os := Any.partition_func_cells_w Tryz.laysGg33 enc k hk lt g lb sf sb blk off a b pivot d W eg hless hswap hH hblk hap hpb hb hsz
open Go.RowKit Go.Lib Go.Sort in
theorem Tryz.pdqsort_func_cells_all {α : Type} [Inhabited α] (enc : α → List Value) (k : Nat) (hk : ∀ x, (enc x).length = k) (lt : α → α → Bool) (hO : SWO lt) (g : Nat) (lb : Array Value) (sf : Nat) (sb : Array Value) (eg : ∀ args w, (callFunc g args).run Tryz.prog w = .ok (.enter g args) w) :
    ∀ (N blk off a b limit : Nat) (d : Array α) (w : World), b - a < N → LessReadsK Tryz.prog g lb enc k lt blk off d.size w → SwapSwapsK Tryz.prog sf sb enc k blk off d.size → HoldsK enc k w blk off d → blk < w.heap.size → a ≤ b → b ≤ d.size → d.size < 4611686018427387904 → limit < 4611686018427387904 → Below lt a b d →
    Calls Tryz.prog 96 #[.agg #[.func (.func g) #[] lb, .func (.func sf) #[] sb], .int .i64 a, .int .i64 b, .int .i64 limit] w fun e w' => e = .returned (.tuple #[]) ∧ AtK enc k w blk off (pdq lt d a b limit true true) w' := Any.pdqsort_func_cells_all Tryz.laysGg14 enc k hk lt hO g lb sf sb eg
end Go.Proofs
