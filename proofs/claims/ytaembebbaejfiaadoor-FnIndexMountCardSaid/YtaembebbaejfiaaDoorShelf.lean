/-
  DERIVED: THE SHELF's CONTRACTS AT THIS DUMP, IN PLAIN WORDS (tools/lay-plain.mjs out of 'TrydShelf.lean', which tools/lay-shelf.mjs wrote): THE SAME DECLARATIONS UNDER THE SAME NAMES: 'import', 'namespace', 'open', 'def', 'theorem' AND NOTHING ELSE: no command of the shelf's: FOR A HAND-IN. Each laying: the table of numbers ('.._ren') and one theorem, a field a fact of the dump's own or the kernel's comparison; each contract: ONE APPLICATION.
-/
import Derived.Shelf.Strings.Builder1
import Derived.Shelf.Strings.Builder2
import Derived.Shelf.Strings.OnBuilder
import Derived.Shelf.Small.Bits
import Derived.Shelf.Small.Wraps
import Derived.Shelf.Strconv.Itoa0
import Derived.Shelf.Strconv.Itoa1
import Derived.Shelf.LaysM
import Derived.Shelf.Strconv.Itoa2
import Derived.Shelf.Strconv.Itoa3
import Derived.Shelf.Strings.Prefix
import Derived.Shelf.Unicode.Props
import Derived.Shelf.Unicode.DecodeSlow
import Derived.Shelf.Unicode.Is16White
import Derived.Shelf.Unicode.IsSpaceAny
import Derived.Shelf.Unicode.Is16Any
import Derived.Shelf.Unicode.Is32Any
import Derived.Shelf.Unicode.ExclAny
import Derived.Shelf.Unicode.PredsAny
import Derived.Test.YtaembebbaejfiaaDoorProg
namespace Go.Proofs
open Go.Shelf
def Tryd.lays169_ren : Go.Shelf.Ren := ⟨fun | 169 => 78 | n => n, fun | 70 => 101 | 9 => 9 | 0 => 0 | 72 => 103 | 37 => 71 | 127 => 116 | 3 => 3 | 5 => 5 | n => n, fun | n => n⟩
theorem Tryd.lays169 : Go.Proofs.Lays.n169 Tryd.prog Tryd.lays169_ren := {
  mixed := by kernel_rfl
  f169 := Tryd.func78.trans (congrArg some (by kernel_rfl))
  t0 := Tryd.underlying0
  a0 := Tryd.isAgg0
  z0 := Tryd.sizeOf0
  v0 := Tryd.zeroValue0
  t3 := Tryd.underlying3
  a3 := Tryd.isAgg3
  z3 := Tryd.sizeOf3
  v3 := Tryd.zeroValue3
  t9 := Tryd.underlying9
  a9 := Tryd.isAgg9
  z9 := Tryd.sizeOf9
  v9 := Tryd.zeroValue9
  t37 := Tryd.underlying71
  a37 := Tryd.isAgg71
  z37 := Tryd.sizeOf71
  v37 := Tryd.zeroValue71
  t70 := Tryd.underlying101
  a70 := Tryd.isAgg101
  z70 := Tryd.sizeOf101
  v70 := Tryd.zeroValue101
  t72 := Tryd.underlying103
  a72 := Tryd.isAgg103
  z72 := Tryd.sizeOf103
  v72 := Tryd.zeroValue103
  t127 := Tryd.underlying116
  a127 := Tryd.isAgg116
  z127 := Tryd.sizeOf116
  v127 := Tryd.zeroValue116 }
theorem Tryd.Builder_Extra_169 : Builder.Extra Tryd.prog Tryd.lays169_ren := {
  sizeBuilder := by kernel_rfl
  liesBuilder := by kernel_rfl
  t5 := Tryd.underlying5
  a5 := Tryd.isAgg5
  z5 := Tryd.sizeOf5
  v5 := Tryd.zeroValue5
  infoByte := by kernel_rfl
  cellsByte := by kernel_rfl
  sizeByte := by kernel_rfl
  neB5 := by decide }
open Go.RowKit in
/-- (*strings.Builder).String: "String returns the accumulated string.": OF A BUILDER THAT HOLDS AT LEAST ONE BYTE. ✋ THE MODEL FREEZES THOSE BYTES IN THE BUFFER (unsafe.String): a later write INTO them ends the model's run without an answer; a later append BEHIND them goes on. The statement's order of evaluation is drawn: one draw. (LAID: no walk: one application.) -/
theorem Tryd.Builder_String (B b : Nat) (l : List UInt8) (w : World) (h : Lib.IsBuilder 103 5 B b (Lib.byteCells l) w) (h0 : l ≠ []) :
    Calls Tryd.prog 78 #[.pointer (some ⟨b, 0, none⟩)] w fun e w' => e = .returned (.string ⟨l.toArray⟩) ∧ Below B w w' := Any.Builder_String Tryd.lays169 Tryd.Builder_Extra_169 B b l w h h0
open Go.RowKit in
/-- (*strings.Builder).String OF A BUILDER THAT HOLDS NO BYTE: the empty string. (Its buffer is nil, or a row of which it has taken nothing yet; where that row has NO capacity the model lays one new block for unsafe.SliceData's 'some address'.) One draw. (LAID: no walk: one application.) -/
theorem Tryd.Builder_String_empty (B b : Nat) (w : World) (h : Lib.IsBuilder 103 5 B b [] w) (hBw : B ≤ w.heap.size) :
    Calls Tryd.prog 78 #[.pointer (some ⟨b, 0, none⟩)] w fun e w' => e = .returned (.string ⟨#[]⟩) ∧ Below B w w' := Any.Builder_String_empty Tryd.lays169 Tryd.Builder_Extra_169 B b w h hBw
open Go.RowKit in
/-- (*strings.Builder).String: "String returns the accumulated string.": WHATEVER THE BUILDER HOLDS. (LAID: no walk: one application.) -/
theorem Tryd.Builder_String_any (B b : Nat) (l : List UInt8) (w : World) (h : Lib.IsBuilder 103 5 B b (Lib.byteCells l) w) (hBw : B ≤ w.heap.size) :
    Calls Tryd.prog 78 #[.pointer (some ⟨b, 0, none⟩)] w fun e w' => e = .returned (.string ⟨l.toArray⟩) ∧ Below B w w' := Any.Builder_String_any Tryd.lays169 Tryd.Builder_Extra_169 B b l w h hBw
def Tryd.lays241_ren : Go.Shelf.Ren := ⟨fun | 241 => 88 | 277 => 106 | n => n, fun | 70 => 101 | 3 => 3 | 0 => 0 | 72 => 103 | 37 => 71 | 5 => 5 | n => n, fun | n => n⟩
theorem Tryd.lays241 : Go.Proofs.Lays.n241 Tryd.prog Tryd.lays241_ren := {
  mixed := by kernel_rfl
  f241 := Tryd.func88.trans (congrArg some (by kernel_rfl))
  f277 := Tryd.func106.trans (congrArg some (by kernel_rfl))
  t0 := Tryd.underlying0
  a0 := Tryd.isAgg0
  z0 := Tryd.sizeOf0
  v0 := Tryd.zeroValue0
  t3 := Tryd.underlying3
  a3 := Tryd.isAgg3
  z3 := Tryd.sizeOf3
  v3 := Tryd.zeroValue3
  t37 := Tryd.underlying71
  a37 := Tryd.isAgg71
  z37 := Tryd.sizeOf71
  v37 := Tryd.zeroValue71
  t70 := Tryd.underlying101
  a70 := Tryd.isAgg101
  z70 := Tryd.sizeOf101
  v70 := Tryd.zeroValue101
  t72 := Tryd.underlying103
  a72 := Tryd.isAgg103
  z72 := Tryd.sizeOf103
  v72 := Tryd.zeroValue103 }
theorem Tryd.Builder_Extra_241 : Builder.Extra Tryd.prog Tryd.lays241_ren := {
  sizeBuilder := by kernel_rfl
  liesBuilder := by kernel_rfl
  t5 := Tryd.underlying5
  a5 := Tryd.isAgg5
  z5 := Tryd.sizeOf5
  v5 := Tryd.zeroValue5
  infoByte := by kernel_rfl
  cellsByte := by kernel_rfl
  sizeByte := by kernel_rfl
  neB5 := by decide }
open Go.RowKit in
/-- (*strings.Builder).grow (no doc but "grow copies the buffer to a new, larger buffer so that there are at least n bytes of capacity beyond len(b.buf)."): AT A BUILDER WITHOUT A BUFFER: a new row of whatever bytes for its buffer, none of them its own yet. Three draws. (LAID: no walk: one application.) -/
theorem Tryd.Builder_grow_fresh (B b n : Nat) (w : World) (hB : B ≤ b) (hbk : w.heap[b]? = some (.cells #[.pointer (some ⟨b, 0, none⟩), .slice none 0 0] 103 (0, 0))) (hBw : B ≤ w.heap.size) (hn : n ≤ 281474976710656) :
    Calls Tryd.prog 88 #[.pointer (some ⟨b, 0, none⟩), .int .i64 n] w fun e w' => e = .returned (.tuple #[]) ∧ (Lib.BuilderAt 103 5 B b (.pointer (some ⟨b, 0, none⟩)) [] w' ∧ Below B w w') := Any.Builder_grow_fresh Tryd.lays241 Tryd.Builder_Extra_241 B b n w hB hbk hBw hn
def Tryd.lays165_ren : Go.Shelf.Ren := ⟨fun | 165 => 76 | 240 => 87 | 241 => 88 | 276 => 105 | 277 => 106 | n => n, fun | 70 => 101 | 3 => 3 | 0 => 0 | 4 => 4 | 9 => 9 | 20 => 20 | 72 => 103 | 37 => 71 | 164 => 139 | 5 => 5 | n => n, fun | n => n⟩
theorem Tryd.lays165 : Go.Proofs.Lays.n165 Tryd.prog Tryd.lays165_ren := {
  mixed := by kernel_rfl
  f165 := Tryd.func76.trans (congrArg some (by kernel_rfl))
  f240 := Tryd.func87.trans (congrArg some (by kernel_rfl))
  f241 := Tryd.func88.trans (congrArg some (by kernel_rfl))
  f276 := Tryd.func105.trans (congrArg some (by kernel_rfl))
  f277 := Tryd.func106.trans (congrArg some (by kernel_rfl))
  t0 := Tryd.underlying0
  a0 := Tryd.isAgg0
  z0 := Tryd.sizeOf0
  v0 := Tryd.zeroValue0
  t3 := Tryd.underlying3
  a3 := Tryd.isAgg3
  z3 := Tryd.sizeOf3
  v3 := Tryd.zeroValue3
  t4 := Tryd.underlying4
  a4 := Tryd.isAgg4
  z4 := Tryd.sizeOf4
  v4 := Tryd.zeroValue4
  t9 := Tryd.underlying9
  a9 := Tryd.isAgg9
  z9 := Tryd.sizeOf9
  v9 := Tryd.zeroValue9
  t20 := Tryd.underlying20
  a20 := Tryd.isAgg20
  z20 := Tryd.sizeOf20
  v20 := Tryd.zeroValue20
  t37 := Tryd.underlying71
  a37 := Tryd.isAgg71
  z37 := Tryd.sizeOf71
  v37 := Tryd.zeroValue71
  t70 := Tryd.underlying101
  a70 := Tryd.isAgg101
  z70 := Tryd.sizeOf101
  v70 := Tryd.zeroValue101
  t72 := Tryd.underlying103
  a72 := Tryd.isAgg103
  z72 := Tryd.sizeOf103
  v72 := Tryd.zeroValue103
  t164 := Tryd.underlying139
  a164 := Tryd.isAgg139
  z164 := Tryd.sizeOf139
  v164 := Tryd.zeroValue139 }
theorem Tryd.Builder_Extra_165 : Builder.Extra Tryd.prog Tryd.lays165_ren := {
  sizeBuilder := by kernel_rfl
  liesBuilder := by kernel_rfl
  t5 := Tryd.underlying5
  a5 := Tryd.isAgg5
  z5 := Tryd.sizeOf5
  v5 := Tryd.zeroValue5
  infoByte := by kernel_rfl
  cellsByte := by kernel_rfl
  sizeByte := by kernel_rfl
  neB5 := by decide }
open Go.RowKit in
/-- (*strings.Builder).Grow AT A BUILDER THAT HAS NOT BEEN WRITTEN ('var b strings.Builder; b.Grow(n)'): "Grow grows b's capacity, if necessary, to guarantee space for another n bytes.": it holds no byte behind it as before it. (LAID: no walk: one application.) -/
theorem Tryd.Builder_Grow_fresh (B b n : Nat) (w : World) (hB : B ≤ b) (hbk : w.heap[b]? = some (.cells #[.pointer none, .slice none 0 0] 103 (0, 0))) (hBw : B ≤ w.heap.size) (hn : n ≤ 281474976710656) :
    Calls Tryd.prog 76 #[.pointer (some ⟨b, 0, none⟩), .int .i64 n] w fun e w' => e = .returned (.tuple #[]) ∧ (Lib.BuilderAt 103 5 B b (.pointer (some ⟨b, 0, none⟩)) [] w' ∧ Below B w w') := Any.Builder_Grow_fresh Tryd.lays165 Tryd.Builder_Extra_165 B b n w hB hbk hBw hn
def Tryd.lays156_ren : Go.Shelf.Ren := ⟨fun | 156 => 64 | 165 => 76 | 166 => 77 | 169 => 78 | 240 => 87 | 241 => 88 | 276 => 105 | 277 => 106 | n => n, fun | 31 => 25 | 9 => 9 | 3 => 3 | 4 => 4 | 0 => 0 | 20 => 20 | 72 => 103 | 76 => 105 | 70 => 101 | 37 => 71 | 75 => 50 | 127 => 116 | 164 => 139 | 5 => 5 | 80 => 107 | n => n, fun | n => n⟩
theorem Tryd.lays156 : Go.Proofs.Lays.n156 Tryd.prog Tryd.lays156_ren := {
  mixed := by kernel_rfl
  f156 := Tryd.func64.trans (congrArg some (by kernel_rfl))
  f165 := Tryd.func76.trans (congrArg some (by kernel_rfl))
  f166 := Tryd.func77.trans (congrArg some (by kernel_rfl))
  f169 := Tryd.func78.trans (congrArg some (by kernel_rfl))
  f240 := Tryd.func87.trans (congrArg some (by kernel_rfl))
  f241 := Tryd.func88.trans (congrArg some (by kernel_rfl))
  f276 := Tryd.func105.trans (congrArg some (by kernel_rfl))
  f277 := Tryd.func106.trans (congrArg some (by kernel_rfl))
  t0 := Tryd.underlying0
  a0 := Tryd.isAgg0
  z0 := Tryd.sizeOf0
  v0 := Tryd.zeroValue0
  t3 := Tryd.underlying3
  a3 := Tryd.isAgg3
  z3 := Tryd.sizeOf3
  v3 := Tryd.zeroValue3
  t4 := Tryd.underlying4
  a4 := Tryd.isAgg4
  z4 := Tryd.sizeOf4
  v4 := Tryd.zeroValue4
  t9 := Tryd.underlying9
  a9 := Tryd.isAgg9
  z9 := Tryd.sizeOf9
  v9 := Tryd.zeroValue9
  t20 := Tryd.underlying20
  a20 := Tryd.isAgg20
  z20 := Tryd.sizeOf20
  v20 := Tryd.zeroValue20
  t31 := Tryd.underlying25
  a31 := Tryd.isAgg25
  z31 := Tryd.sizeOf25
  v31 := Tryd.zeroValue25
  t37 := Tryd.underlying71
  a37 := Tryd.isAgg71
  z37 := Tryd.sizeOf71
  v37 := Tryd.zeroValue71
  t70 := Tryd.underlying101
  a70 := Tryd.isAgg101
  z70 := Tryd.sizeOf101
  v70 := Tryd.zeroValue101
  t72 := Tryd.underlying103
  a72 := Tryd.isAgg103
  z72 := Tryd.sizeOf103
  v72 := Tryd.zeroValue103
  t75 := Tryd.underlying50
  a75 := Tryd.isAgg50
  z75 := Tryd.sizeOf50
  v75 := Tryd.zeroValue50
  t76 := Tryd.underlying105
  a76 := Tryd.isAgg105
  z76 := Tryd.sizeOf105
  v76 := Tryd.zeroValue105
  t127 := Tryd.underlying116
  a127 := Tryd.isAgg116
  z127 := Tryd.sizeOf116
  v127 := Tryd.zeroValue116
  t164 := Tryd.underlying139
  a164 := Tryd.isAgg139
  z164 := Tryd.sizeOf139
  v164 := Tryd.zeroValue139 }
theorem Tryd.Builder_Extra_156 : Builder.Extra Tryd.prog Tryd.lays156_ren := {
  sizeBuilder := by kernel_rfl
  liesBuilder := by kernel_rfl
  t5 := Tryd.underlying5
  a5 := Tryd.isAgg5
  z5 := Tryd.sizeOf5
  v5 := Tryd.zeroValue5
  infoByte := by kernel_rfl
  cellsByte := by kernel_rfl
  sizeByte := by kernel_rfl
  neB5 := by decide }
open Go.RowKit in
/-- No element: the empty string; the world is as it was. (Whatever the slice's address and capacity: a nil slice too.) (LAID: no walk: one application.) -/
theorem Tryd.strings_Join_none (a : Option Addr) (c : Nat) (sep : ByteArray) (w : World) :
    Calls Tryd.prog 64 #[.slice a 0 c, .string sep] w fun e w' => e = .returned (.string ⟨#[]⟩) ∧ w' = w := Any.strings_Join_none Tryd.lays156 Tryd.Builder_Extra_156 a c sep w
open Go.RowKit in
/-- strings.Join: "Join concatenates the elements of its first argument to create a single string. The separator string sep is placed between elements in the resulting string.": HOWEVER MANY ELEMENTS. Below the heap's end the world is as it was. (LAID: no walk: one application.) -/
theorem Tryd.strings_Join (bk o c : Nat) (xs : List ByteArray) (sep : ByteArray) (w : World) (hcells : ∀ (j : Nat) x, xs[j]? = some x → w.cell? ⟨bk, o + j, none⟩ = some (.string x)) (hbk : bk < w.heap.size) (hN : xs.length ≤ 140737488355328) (hcap : xs.length ≤ c) (hlen : (Lib.join (xs.map (·.data.toList)) sep.data.toList).length ≤ 140737488355328) :
    Calls Tryd.prog 64 #[.slice (some ⟨bk, o, none⟩) xs.length c, .string sep] w fun e w' => e = .returned (.string ⟨(Lib.join (xs.map (·.data.toList)) sep.data.toList).toArray⟩) ∧ Below w.heap.size w w' := Any.strings_Join Tryd.lays156 Tryd.Builder_Extra_156 bk o c xs sep w hcells hbk hN hcap hlen
def Tryd.lays128_ren : Go.Shelf.Ren := ⟨fun | 128 => 103 | n => n, fun | 51 => 136 | 3 => 3 | 4 => 4 | 46 => 115 | 5 => 5 | 9 => 9 | n => n, fun | n => n⟩
theorem Tryd.lays128 : Go.Proofs.Lays.n128 Tryd.prog Tryd.lays128_ren := {
  mixed := by kernel_rfl
  f128 := Tryd.func103.trans (congrArg some (by kernel_rfl))
  t3 := Tryd.underlying3
  a3 := Tryd.isAgg3
  z3 := Tryd.sizeOf3
  v3 := Tryd.zeroValue3
  t4 := Tryd.underlying4
  a4 := Tryd.isAgg4
  z4 := Tryd.sizeOf4
  v4 := Tryd.zeroValue4
  t5 := Tryd.underlying5
  a5 := Tryd.isAgg5
  z5 := Tryd.sizeOf5
  v5 := Tryd.zeroValue5
  t9 := Tryd.underlying9
  a9 := Tryd.isAgg9
  z9 := Tryd.sizeOf9
  v9 := Tryd.zeroValue9
  t46 := Tryd.underlying115
  a46 := Tryd.isAgg115
  z46 := Tryd.sizeOf115
  v46 := Tryd.zeroValue115
  t51 := Tryd.underlying136
  a51 := Tryd.isAgg136
  z51 := Tryd.sizeOf136
  v51 := Tryd.zeroValue136 }
/-- bits.Len32: "Len32 returns the minimum number of bits required to represent x; the result is 0 for x == 0.": IT RETURNS 'Lib.bitLen x'; the world is as it was. ('h0', 'h1': x is a uint32.) (LAID: no walk: one application.) -/
theorem Tryd.bits_Len32 (x : Int) (w : World) (h0 : 0 ≤ x) (h1 : x ≤ 4294967295) :
    Calls Tryd.prog 103 #[.int .u32 x] w fun e w' => e = .returned (.int .i64 (Lib.bitLen x.toNat)) ∧ w' = w := Any.bits_Len32 Tryd.lays128 x w h0 h1
def Tryd.lays125_ren : Go.Shelf.Ren := ⟨fun | 125 => 84 | 128 => 103 | 129 => 104 | n => n, fun | 46 => 115 | 3 => 3 | 51 => 136 | 53 => 138 | 4 => 4 | 5 => 5 | 9 => 9 | n => n, fun | n => n⟩
theorem Tryd.lays125 : Go.Proofs.Lays.n125 Tryd.prog Tryd.lays125_ren := {
  mixed := by kernel_rfl
  f125 := Tryd.func84.trans (congrArg some (by kernel_rfl))
  f128 := Tryd.func103.trans (congrArg some (by kernel_rfl))
  f129 := Tryd.func104.trans (congrArg some (by kernel_rfl))
  t3 := Tryd.underlying3
  a3 := Tryd.isAgg3
  z3 := Tryd.sizeOf3
  v3 := Tryd.zeroValue3
  t4 := Tryd.underlying4
  a4 := Tryd.isAgg4
  z4 := Tryd.sizeOf4
  v4 := Tryd.zeroValue4
  t5 := Tryd.underlying5
  a5 := Tryd.isAgg5
  z5 := Tryd.sizeOf5
  v5 := Tryd.zeroValue5
  t9 := Tryd.underlying9
  a9 := Tryd.isAgg9
  z9 := Tryd.sizeOf9
  v9 := Tryd.zeroValue9
  t46 := Tryd.underlying115
  a46 := Tryd.isAgg115
  z46 := Tryd.sizeOf115
  v46 := Tryd.zeroValue115
  t51 := Tryd.underlying136
  a51 := Tryd.isAgg136
  z51 := Tryd.sizeOf136
  v51 := Tryd.zeroValue136
  t53 := Tryd.underlying138
  a53 := Tryd.isAgg138
  z53 := Tryd.sizeOf138
  v53 := Tryd.zeroValue138 }
/-- bits.Len: "Len returns the minimum number of bits required to represent x; the result is 0 for x == 0.": IT RETURNS 'Lib.bitLen x'; the world is as it was. (A uint has 64 bits in the model.) ITS CALLEE bits.Len64 IS MET BY ITS OWN CONTRACT OFF THE SHELF (lay that first). (LAID: no walk: one application.) -/
theorem Tryd.bits_Len (x : Int) (w : World) (h0 : 0 ≤ x) (h1 : x ≤ 18446744073709551615) :
    Calls Tryd.prog 84 #[.int .u64 x] w fun e w' => e = .returned (.int .i64 (Lib.bitLen x.toNat)) ∧ w' = w := Any.bits_Len Tryd.lays125 x w h0 h1
def Tryd.lays214_ren : Go.Shelf.Ren := ⟨fun | 214 => 86 | n => n, fun | 4 => 4 | 9 => 9 | n => n, fun | n => n⟩
theorem Tryd.lays214 : Go.Proofs.Lays.n214 Tryd.prog Tryd.lays214_ren := {
  mixed := by kernel_rfl
  f214 := Tryd.func86.trans (congrArg some (by kernel_rfl))
  t4 := Tryd.underlying4
  a4 := Tryd.isAgg4
  z4 := Tryd.sizeOf4
  v4 := Tryd.zeroValue4
  t9 := Tryd.underlying9
  a9 := Tryd.isAgg9
  z9 := Tryd.sizeOf9
  v9 := Tryd.zeroValue9 }
open Go.RowKit in
/-- internal/strconv.FormatBool (what strconv.FormatBool calls). (LAID: no walk: one application.) -/
theorem Tryd.internal_strconv_FormatBool (b : Bool) (w : World) :
    Calls Tryd.prog 86 #[.bool b] w fun e w' => e = .returned (.string ⟨(Lib.formatBool b).toArray⟩) ∧ w' = w := Any.internal_strconv_FormatBool Tryd.lays214 b w
def Tryd.lays121_ren : Go.Shelf.Ren := ⟨fun | 121 => 75 | 214 => 86 | n => n, fun | 4 => 4 | 9 => 9 | n => n, fun | n => n⟩
theorem Tryd.lays121 : Go.Proofs.Lays.n121 Tryd.prog Tryd.lays121_ren := {
  mixed := by kernel_rfl
  f121 := Tryd.func75.trans (congrArg some (by kernel_rfl))
  f214 := Tryd.func86.trans (congrArg some (by kernel_rfl))
  t4 := Tryd.underlying4
  a4 := Tryd.isAgg4
  z4 := Tryd.sizeOf4
  v4 := Tryd.zeroValue4
  t9 := Tryd.underlying9
  a9 := Tryd.isAgg9
  z9 := Tryd.sizeOf9
  v9 := Tryd.zeroValue9 }
open Go.RowKit in
/-- strconv.FormatBool: "FormatBool returns "true" or "false" according to the value of b.": IT RETURNS 'Lib.formatBool b'; the world is as it was. (LAID: no walk: one application.) -/
theorem Tryd.strconv_FormatBool (b : Bool) (w : World) :
    Calls Tryd.prog 75 #[.bool b] w fun e w' => e = .returned (.string ⟨(Lib.formatBool b).toArray⟩) ∧ w' = w := Any.strconv_FormatBool Tryd.lays121 b w
def Tryd.lays129_ren : Go.Shelf.Ren := ⟨fun | 129 => 104 | n => n, fun | 53 => 138 | 3 => 3 | 4 => 4 | 46 => 115 | 5 => 5 | 9 => 9 | n => n, fun | n => n⟩
theorem Tryd.lays129 : Go.Proofs.Lays.n129 Tryd.prog Tryd.lays129_ren := {
  mixed := by kernel_rfl
  f129 := Tryd.func104.trans (congrArg some (by kernel_rfl))
  t3 := Tryd.underlying3
  a3 := Tryd.isAgg3
  z3 := Tryd.sizeOf3
  v3 := Tryd.zeroValue3
  t4 := Tryd.underlying4
  a4 := Tryd.isAgg4
  z4 := Tryd.sizeOf4
  v4 := Tryd.zeroValue4
  t5 := Tryd.underlying5
  a5 := Tryd.isAgg5
  z5 := Tryd.sizeOf5
  v5 := Tryd.zeroValue5
  t9 := Tryd.underlying9
  a9 := Tryd.isAgg9
  z9 := Tryd.sizeOf9
  v9 := Tryd.zeroValue9
  t46 := Tryd.underlying115
  a46 := Tryd.isAgg115
  z46 := Tryd.sizeOf115
  v46 := Tryd.zeroValue115
  t53 := Tryd.underlying138
  a53 := Tryd.isAgg138
  z53 := Tryd.sizeOf138
  v53 := Tryd.zeroValue138 }
/-- bits.Len64: "Len64 returns the minimum number of bits required to represent x; the result is 0 for x == 0.": IT RETURNS 'Lib.bitLen x'; the world is as it was. ('h0', 'h1': x is a uint64.) (LAID: no walk: one application.) -/
theorem Tryd.bits_Len64 (x : Int) (w : World) (h0 : 0 ≤ x) (h1 : x ≤ 18446744073709551615) :
    Calls Tryd.prog 104 #[.int .u64 x] w fun e w' => e = .returned (.int .i64 (Lib.bitLen x.toNat)) ∧ w' = w := Any.bits_Len64 Tryd.lays129 x w h0 h1
def Tryd.lays317_ren : Go.Shelf.Ren := ⟨fun | 317 => 122 | n => n, fun | 3 => 3 | 46 => 115 | n => n, fun | n => n⟩
theorem Tryd.lays317 : Go.Proofs.Lays.n317 Tryd.prog Tryd.lays317_ren := {
  mixed := by kernel_rfl
  f317 := Tryd.func122.trans (congrArg some (by kernel_rfl))
  t3 := Tryd.underlying3
  a3 := Tryd.isAgg3
  z3 := Tryd.sizeOf3
  v3 := Tryd.zeroValue3
  t46 := Tryd.underlying115
  a46 := Tryd.isAgg115
  z46 := Tryd.sizeOf115
  v46 := Tryd.zeroValue115 }
open Go.Lib in
/-- internal/strconv.log10Pow2: "log10Pow2(x) returns ⌊log₁₀ 2**x⌋ = ⌊x * log₁₀ 2⌋.": '(x * 78913) >> 18', at an x up to 64 (a length in bits). The world is as it was. (LAID: no walk: one application.) -/
theorem Tryd.internal_strconv_log10Pow2 (x : Nat) (h : x ≤ 64) (w : World) :
    Calls Tryd.prog 122 #[.int .i64 x] w fun e w' => e = .returned (.int .i64 (Lib.l10 x)) ∧ w' = w := Any.internal_strconv_log10Pow2 Tryd.lays317 x h w
def Tryd.lays318_ren : Go.Shelf.Ren := ⟨fun | 318 => 123 | n => n, fun | 3 => 3 | 4 => 4 | n => n, fun | n => n⟩
theorem Tryd.lays318 : Go.Proofs.Lays.n318 Tryd.prog Tryd.lays318_ren := {
  mixed := by kernel_rfl
  f318 := Tryd.func123.trans (congrArg some (by kernel_rfl))
  t3 := Tryd.underlying3
  a3 := Tryd.isAgg3
  z3 := Tryd.sizeOf3
  v3 := Tryd.zeroValue3
  t4 := Tryd.underlying4
  a4 := Tryd.isAgg4
  z4 := Tryd.sizeOf4
  v4 := Tryd.zeroValue4 }
open Go.Lib in
/-- internal/strconv.bool2: "bool2 converts b to an integer: 1 for true, 0 for false." The world is as it was. (LAID: no walk: one application.) -/
theorem Tryd.internal_strconv_bool2_int (b : Bool) (w : World) :
    Calls Tryd.prog 123 #[.bool b] w fun e w' => e = .returned (.int .i64 (if b then 1 else 0)) ∧ w' = w := Any.internal_strconv_bool2_int Tryd.lays318 b w
def Tryd.lays283_ren : Go.Shelf.Ren := ⟨fun | 283 => 107 | n => n, fun | 3 => 3 | 9 => 9 | 4 => 4 | n => n, fun | n => n⟩
theorem Tryd.lays283 : Go.Proofs.Lays.n283 Tryd.prog Tryd.lays283_ren := {
  mixed := by kernel_rfl
  f283 := Tryd.func107.trans (congrArg some (by kernel_rfl))
  t3 := Tryd.underlying3
  a3 := Tryd.isAgg3
  z3 := Tryd.sizeOf3
  v3 := Tryd.zeroValue3
  t4 := Tryd.underlying4
  a4 := Tryd.isAgg4
  z4 := Tryd.sizeOf4
  v4 := Tryd.zeroValue4
  t9 := Tryd.underlying9
  a9 := Tryd.isAgg9
  z9 := Tryd.sizeOf9
  v9 := Tryd.zeroValue9 }
open Go.Lib in
/-- internal/strconv.small: "small returns the string for an i with 0 <= i < nSmalls.": i's decimal numeral. The world is as it was. (LAID: no walk: one application.) -/
theorem Tryd.internal_strconv_small (i : Nat) (h : i < 100) (w : World) :
    Calls Tryd.prog 107 #[.int .i64 i] w fun e w' => e = .returned (.string ⟨(Lib.decDigits i).toArray⟩) ∧ w' = w := Any.internal_strconv_small Tryd.lays283 i h w
def Tryd.laysM284_ren : Go.Shelf.Ren := ⟨fun | 284 => 108 | 129 => 104 | 317 => 122 | 318 => 123 | n => n, fun | 53 => 138 | 3 => 3 | 212 => 160 | 0 => 0 | 4 => 4 | 46 => 115 | 5 => 5 | 9 => 9 | n => n, fun | 17 => 3 | n => n⟩
theorem Tryd.laysM284 : Go.Proofs.LaysM.n284 Tryd.prog Tryd.laysM284_ren := {
  mixed := by kernel_rfl
  f129 := Tryd.func104.trans (congrArg some (by kernel_rfl))
  f284 := Tryd.func108.trans (congrArg some (by kernel_rfl))
  f317 := Tryd.func122.trans (congrArg some (by kernel_rfl))
  f318 := Tryd.func123.trans (congrArg some (by kernel_rfl))
  t0 := Tryd.underlying0
  a0 := Tryd.isAgg0
  z0 := Tryd.sizeOf0
  v0 := Tryd.zeroValue0
  t3 := Tryd.underlying3
  a3 := Tryd.isAgg3
  z3 := Tryd.sizeOf3
  v3 := Tryd.zeroValue3
  t4 := Tryd.underlying4
  a4 := Tryd.isAgg4
  z4 := Tryd.sizeOf4
  v4 := Tryd.zeroValue4
  t5 := Tryd.underlying5
  a5 := Tryd.isAgg5
  z5 := Tryd.sizeOf5
  v5 := Tryd.zeroValue5
  t9 := Tryd.underlying9
  a9 := Tryd.isAgg9
  z9 := Tryd.sizeOf9
  v9 := Tryd.zeroValue9
  t46 := Tryd.underlying115
  a46 := Tryd.isAgg115
  z46 := Tryd.sizeOf115
  v46 := Tryd.zeroValue115
  t53 := Tryd.underlying138
  a53 := Tryd.isAgg138
  z53 := Tryd.sizeOf138
  v53 := Tryd.zeroValue138
  t212 := Tryd.underlying160
  a212 := Tryd.isAgg160
  z212 := Tryd.sizeOf160
  v212 := Tryd.zeroValue160
  g17 := by kernel_rfl
  i0 := by kernel_rfl
  i3 := by kernel_rfl
  i4 := by kernel_rfl
  i5 := by kernel_rfl
  i9 := by kernel_rfl
  i46 := by kernel_rfl
  i53 := by kernel_rfl
  i212 := by kernel_rfl
  m17 := by kernel_rfl }
open Go.Lib in
/-- internal/strconv.numDigits, at a d that is not 0: THE NUMBER OF d's DECIMAL DIGITS. The world is as it was. (LAID: no walk: one application.) -/
theorem Tryd.internal_strconv_numDigits (u : Nat) (h1 : 1 ≤ u) (h2 : u < 18446744073709551616) (w : World) (htab : Lib.TabIs Tryd.prog w "internal/strconv.uint64pow10" .u64 Lib.pow10Tab) :
    Calls Tryd.prog 108 #[.int .u64 u] w fun e w' => e = .returned (.int .i64 (Lib.nDigits u)) ∧ w' = w := Any.internal_strconv_numDigits Tryd.laysM284 u h1 h2 w htab
def Tryd.lays285_ren : Go.Shelf.Ren := ⟨fun | 285 => 109 | n => n, fun | 37 => 71 | 53 => 138 | 3 => 3 | 4 => 4 | 51 => 136 | 9 => 9 | 5 => 5 | 0 => 0 | n => n, fun | n => n⟩
theorem Tryd.lays285 : Go.Proofs.Lays.n285 Tryd.prog Tryd.lays285_ren := {
  mixed := by kernel_rfl
  f285 := Tryd.func109.trans (congrArg some (by kernel_rfl))
  t0 := Tryd.underlying0
  a0 := Tryd.isAgg0
  z0 := Tryd.sizeOf0
  v0 := Tryd.zeroValue0
  t3 := Tryd.underlying3
  a3 := Tryd.isAgg3
  z3 := Tryd.sizeOf3
  v3 := Tryd.zeroValue3
  t4 := Tryd.underlying4
  a4 := Tryd.isAgg4
  z4 := Tryd.sizeOf4
  v4 := Tryd.zeroValue4
  t5 := Tryd.underlying5
  a5 := Tryd.isAgg5
  z5 := Tryd.sizeOf5
  v5 := Tryd.zeroValue5
  t9 := Tryd.underlying9
  a9 := Tryd.isAgg9
  z9 := Tryd.sizeOf9
  v9 := Tryd.zeroValue9
  t37 := Tryd.underlying71
  a37 := Tryd.isAgg71
  z37 := Tryd.sizeOf71
  v37 := Tryd.zeroValue71
  t51 := Tryd.underlying136
  a51 := Tryd.isAgg136
  z51 := Tryd.sizeOf136
  v51 := Tryd.zeroValue136
  t53 := Tryd.underlying138
  a53 := Tryd.isAgg138
  z53 := Tryd.sizeOf138
  v53 := Tryd.zeroValue138 }
open Go.RowKit Go.Sort Go.Lib in
/-- internal/strconv.formatBase10: "formatBase10 formats the decimal representation of u into a. The caller is responsible for ensuring that a is big enough to hold u. If a is too big, leading zeros will be filled in as needed.": THE ROW HOLDS u's DIGITS ('FmtInv .. 0 ..': every place t holds 'dg u (len - 1 - t)'); all else is as it was but for the count of draws. (LAID: no walk: one application.) -/
theorem Tryd.internal_strconv_formatBase10 (blk off cap : Nat) (u : Nat) (d : Array UInt8) (w : World) (hH : Holds (fun (b : UInt8) => Value.int .u8 (b.toNat : Int)) w blk off d) (hu : u < 10 ^ d.size) (hu64 : u < 18446744073709551616) (hsz : d.size < 4611686018427387904) :
    Calls Tryd.prog 109 #[.slice (some ⟨blk, off, none⟩) d.size cap, .int .u64 u] w fun e w' =>
      e = .returned (.tuple #[]) ∧ ∃ (n v' : Nat) (dk : Array UInt8), w' = (putRow (fun (b : UInt8) => Value.int .u8 (b.toNat : Int)) w blk off dk).drewN n ∧ FmtInv d.size u 0 v' dk := Any.internal_strconv_formatBase10 Tryd.lays285 blk off cap u d w hH hu hu64 hsz
def Tryd.laysM246_ren : Go.Shelf.Ren := ⟨fun | 246 => 89 | 283 => 107 | 284 => 108 | 285 => 109 | 286 => 110 | 129 => 104 | 317 => 122 | 318 => 123 | 319 => 124 | 320 => 125 | 337 => 131 | 338 => 132 | n => n, fun | 2 => 2 | 3 => 3 | 9 => 9 | 4 => 4 | 171 => 142 | 0 => 0 | 53 => 138 | 37 => 71 | 5 => 5 | 173 => 144 | 212 => 160 | 51 => 136 | 20 => 20 | 213 => 161 | 46 => 115 | 232 => 182 | 233 => 183 | n => n, fun | 17 => 3 | 18 => 6 | 19 => 7 | n => n⟩
theorem Tryd.laysM246 : Go.Proofs.LaysM.n246 Tryd.prog Tryd.laysM246_ren := {
  mixed := by kernel_rfl
  f129 := Tryd.func104.trans (congrArg some (by kernel_rfl))
  f246 := Tryd.func89.trans (congrArg some (by kernel_rfl))
  f283 := Tryd.func107.trans (congrArg some (by kernel_rfl))
  f284 := Tryd.func108.trans (congrArg some (by kernel_rfl))
  f285 := Tryd.func109.trans (congrArg some (by kernel_rfl))
  f286 := Tryd.func110.trans (congrArg some (by kernel_rfl))
  f317 := Tryd.func122.trans (congrArg some (by kernel_rfl))
  f318 := Tryd.func123.trans (congrArg some (by kernel_rfl))
  f319 := Tryd.func124.trans (congrArg some (by kernel_rfl))
  f320 := Tryd.func125.trans (congrArg some (by kernel_rfl))
  f337 := Tryd.func131.trans (congrArg some (by kernel_rfl))
  f338 := Tryd.func132.trans (congrArg some (by kernel_rfl))
  t0 := Tryd.underlying0
  a0 := Tryd.isAgg0
  z0 := Tryd.sizeOf0
  v0 := Tryd.zeroValue0
  t2 := Tryd.underlying2
  a2 := Tryd.isAgg2
  z2 := Tryd.sizeOf2
  v2 := Tryd.zeroValue2
  t3 := Tryd.underlying3
  a3 := Tryd.isAgg3
  z3 := Tryd.sizeOf3
  v3 := Tryd.zeroValue3
  t4 := Tryd.underlying4
  a4 := Tryd.isAgg4
  z4 := Tryd.sizeOf4
  v4 := Tryd.zeroValue4
  t5 := Tryd.underlying5
  a5 := Tryd.isAgg5
  z5 := Tryd.sizeOf5
  v5 := Tryd.zeroValue5
  t9 := Tryd.underlying9
  a9 := Tryd.isAgg9
  z9 := Tryd.sizeOf9
  v9 := Tryd.zeroValue9
  t20 := Tryd.underlying20
  a20 := Tryd.isAgg20
  z20 := Tryd.sizeOf20
  v20 := Tryd.zeroValue20
  t37 := Tryd.underlying71
  a37 := Tryd.isAgg71
  z37 := Tryd.sizeOf71
  v37 := Tryd.zeroValue71
  t46 := Tryd.underlying115
  a46 := Tryd.isAgg115
  z46 := Tryd.sizeOf115
  v46 := Tryd.zeroValue115
  t51 := Tryd.underlying136
  a51 := Tryd.isAgg136
  z51 := Tryd.sizeOf136
  v51 := Tryd.zeroValue136
  t53 := Tryd.underlying138
  a53 := Tryd.isAgg138
  z53 := Tryd.sizeOf138
  v53 := Tryd.zeroValue138
  t171 := Tryd.underlying142
  a171 := Tryd.isAgg142
  z171 := Tryd.sizeOf142
  v171 := Tryd.zeroValue142
  t173 := Tryd.underlying144
  a173 := Tryd.isAgg144
  z173 := Tryd.sizeOf144
  v173 := Tryd.zeroValue144
  t212 := Tryd.underlying160
  a212 := Tryd.isAgg160
  z212 := Tryd.sizeOf160
  v212 := Tryd.zeroValue160
  t213 := Tryd.underlying161
  a213 := Tryd.isAgg161
  z213 := Tryd.sizeOf161
  t232 := Tryd.underlying182
  a232 := Tryd.isAgg182
  z232 := Tryd.sizeOf182
  v232 := Tryd.zeroValue182
  t233 := Tryd.underlying183
  a233 := Tryd.isAgg183
  z233 := Tryd.sizeOf183
  v233 := Tryd.zeroValue183
  g17 := by kernel_rfl
  g18 := by kernel_rfl
  g19 := by kernel_rfl
  i0 := by kernel_rfl
  i2 := by kernel_rfl
  i3 := by kernel_rfl
  i4 := by kernel_rfl
  i5 := by kernel_rfl
  i9 := by kernel_rfl
  i20 := by kernel_rfl
  i37 := by kernel_rfl
  i46 := by kernel_rfl
  i51 := by kernel_rfl
  i53 := by kernel_rfl
  i171 := by kernel_rfl
  i173 := by kernel_rfl
  i212 := by kernel_rfl
  i232 := by kernel_rfl
  i233 := by kernel_rfl
  m17 := by kernel_rfl
  m18 := by kernel_rfl
  m19 := by kernel_rfl }
open Go.RowKit Go.Sort Go.Lib in
/-- internal/strconv.FormatInt: "FormatInt returns the string representation of i in the given base": AT BASE 10: i's decimal numeral, for every int64. The world behind the call: the world before it, new blocks behind the heap, draws. (LAID: no walk: one application.) -/
theorem Tryd.internal_strconv_FormatInt_10 (n : Int) (h0 : -9223372036854775808 ≤ n) (h1 : n ≤ 9223372036854775807) (w : World) (htab : Lib.TabIs Tryd.prog w "internal/strconv.uint64pow10" .u64 Lib.pow10Tab) :
    Calls Tryd.prog 89 #[.int .i64 n, .int .i64 10] w fun e w' => e = .returned (.string ⟨(Lib.itoa n).toArray⟩) ∧ ∃ k os, w' = grow (w.drewN k) os := Any.internal_strconv_FormatInt_10 Tryd.laysM246 n h0 h1 w htab
def Tryd.lays246_ren : Go.Shelf.Ren := ⟨fun | 246 => 89 | 283 => 107 | 284 => 108 | 285 => 109 | 286 => 110 | 129 => 104 | 317 => 122 | 318 => 123 | 319 => 124 | 320 => 125 | 337 => 131 | 338 => 132 | n => n, fun | 2 => 2 | 3 => 3 | 9 => 9 | 4 => 4 | 171 => 142 | 0 => 0 | 53 => 138 | 37 => 71 | 5 => 5 | 173 => 144 | 212 => 160 | 51 => 136 | 20 => 20 | 213 => 161 | 46 => 115 | 232 => 182 | 233 => 183 | n => n, fun | 17 => 3 | 18 => 6 | 19 => 7 | n => n⟩
theorem Tryd.lays246 : Go.Proofs.Lays.n246 Tryd.prog Tryd.lays246_ren := {
  mixed := by kernel_rfl
  f129 := Tryd.func104.trans (congrArg some (by kernel_rfl))
  f246 := Tryd.func89.trans (congrArg some (by kernel_rfl))
  f283 := Tryd.func107.trans (congrArg some (by kernel_rfl))
  f284 := Tryd.func108.trans (congrArg some (by kernel_rfl))
  f285 := Tryd.func109.trans (congrArg some (by kernel_rfl))
  f286 := Tryd.func110.trans (congrArg some (by kernel_rfl))
  f317 := Tryd.func122.trans (congrArg some (by kernel_rfl))
  f318 := Tryd.func123.trans (congrArg some (by kernel_rfl))
  f319 := Tryd.func124.trans (congrArg some (by kernel_rfl))
  f320 := Tryd.func125.trans (congrArg some (by kernel_rfl))
  f337 := Tryd.func131.trans (congrArg some (by kernel_rfl))
  f338 := Tryd.func132.trans (congrArg some (by kernel_rfl))
  t0 := Tryd.underlying0
  a0 := Tryd.isAgg0
  z0 := Tryd.sizeOf0
  v0 := Tryd.zeroValue0
  t2 := Tryd.underlying2
  a2 := Tryd.isAgg2
  z2 := Tryd.sizeOf2
  v2 := Tryd.zeroValue2
  t3 := Tryd.underlying3
  a3 := Tryd.isAgg3
  z3 := Tryd.sizeOf3
  v3 := Tryd.zeroValue3
  t4 := Tryd.underlying4
  a4 := Tryd.isAgg4
  z4 := Tryd.sizeOf4
  v4 := Tryd.zeroValue4
  t5 := Tryd.underlying5
  a5 := Tryd.isAgg5
  z5 := Tryd.sizeOf5
  v5 := Tryd.zeroValue5
  t9 := Tryd.underlying9
  a9 := Tryd.isAgg9
  z9 := Tryd.sizeOf9
  v9 := Tryd.zeroValue9
  t20 := Tryd.underlying20
  a20 := Tryd.isAgg20
  z20 := Tryd.sizeOf20
  v20 := Tryd.zeroValue20
  t37 := Tryd.underlying71
  a37 := Tryd.isAgg71
  z37 := Tryd.sizeOf71
  v37 := Tryd.zeroValue71
  t46 := Tryd.underlying115
  a46 := Tryd.isAgg115
  z46 := Tryd.sizeOf115
  v46 := Tryd.zeroValue115
  t51 := Tryd.underlying136
  a51 := Tryd.isAgg136
  z51 := Tryd.sizeOf136
  v51 := Tryd.zeroValue136
  t53 := Tryd.underlying138
  a53 := Tryd.isAgg138
  z53 := Tryd.sizeOf138
  v53 := Tryd.zeroValue138
  t171 := Tryd.underlying142
  a171 := Tryd.isAgg142
  z171 := Tryd.sizeOf142
  v171 := Tryd.zeroValue142
  t173 := Tryd.underlying144
  a173 := Tryd.isAgg144
  z173 := Tryd.sizeOf144
  v173 := Tryd.zeroValue144
  t212 := Tryd.underlying160
  a212 := Tryd.isAgg160
  z212 := Tryd.sizeOf160
  v212 := Tryd.zeroValue160
  t213 := Tryd.underlying161
  a213 := Tryd.isAgg161
  z213 := Tryd.sizeOf161
  t232 := Tryd.underlying182
  a232 := Tryd.isAgg182
  z232 := Tryd.sizeOf182
  v232 := Tryd.zeroValue182
  t233 := Tryd.underlying183
  a233 := Tryd.isAgg183
  z233 := Tryd.sizeOf183
  v233 := Tryd.zeroValue183
  g17 := by kernel_rfl
  g18 := by kernel_rfl
  g19 := by kernel_rfl }
open Go.RowKit Go.Sort Go.Lib in
/-- THE ROAD WITHOUT THE TABLE: 0 <= i < 100: two constants are read, nothing is laid: no premise on the world, and the world is as it was. (LAID: no walk: one application.) -/
theorem Tryd.internal_strconv_FormatInt_10_small (i : Nat) (hi : i < 100) (w : World) :
    Calls Tryd.prog 89 #[.int .i64 i, .int .i64 10] w fun e w' => e = .returned (.string ⟨(Lib.decDigits i).toArray⟩) ∧ w' = w := Any.internal_strconv_FormatInt_10_small Tryd.lays246 i hi w
def Tryd.laysM243_ren : Go.Shelf.Ren := ⟨fun | 243 => 79 | 246 => 89 | 283 => 107 | 284 => 108 | 285 => 109 | 286 => 110 | 129 => 104 | 317 => 122 | 318 => 123 | 319 => 124 | 320 => 125 | 337 => 131 | 338 => 132 | n => n, fun | 3 => 3 | 9 => 9 | 2 => 2 | 4 => 4 | 171 => 142 | 0 => 0 | 53 => 138 | 37 => 71 | 5 => 5 | 173 => 144 | 212 => 160 | 51 => 136 | 20 => 20 | 213 => 161 | 46 => 115 | 232 => 182 | 233 => 183 | n => n, fun | 17 => 3 | 18 => 6 | 19 => 7 | n => n⟩
theorem Tryd.laysM243 : Go.Proofs.LaysM.n243 Tryd.prog Tryd.laysM243_ren := {
  mixed := by kernel_rfl
  f129 := Tryd.func104.trans (congrArg some (by kernel_rfl))
  f243 := Tryd.func79.trans (congrArg some (by kernel_rfl))
  f246 := Tryd.func89.trans (congrArg some (by kernel_rfl))
  f283 := Tryd.func107.trans (congrArg some (by kernel_rfl))
  f284 := Tryd.func108.trans (congrArg some (by kernel_rfl))
  f285 := Tryd.func109.trans (congrArg some (by kernel_rfl))
  f286 := Tryd.func110.trans (congrArg some (by kernel_rfl))
  f317 := Tryd.func122.trans (congrArg some (by kernel_rfl))
  f318 := Tryd.func123.trans (congrArg some (by kernel_rfl))
  f319 := Tryd.func124.trans (congrArg some (by kernel_rfl))
  f320 := Tryd.func125.trans (congrArg some (by kernel_rfl))
  f337 := Tryd.func131.trans (congrArg some (by kernel_rfl))
  f338 := Tryd.func132.trans (congrArg some (by kernel_rfl))
  t0 := Tryd.underlying0
  a0 := Tryd.isAgg0
  z0 := Tryd.sizeOf0
  v0 := Tryd.zeroValue0
  t2 := Tryd.underlying2
  a2 := Tryd.isAgg2
  z2 := Tryd.sizeOf2
  v2 := Tryd.zeroValue2
  t3 := Tryd.underlying3
  a3 := Tryd.isAgg3
  z3 := Tryd.sizeOf3
  v3 := Tryd.zeroValue3
  t4 := Tryd.underlying4
  a4 := Tryd.isAgg4
  z4 := Tryd.sizeOf4
  v4 := Tryd.zeroValue4
  t5 := Tryd.underlying5
  a5 := Tryd.isAgg5
  z5 := Tryd.sizeOf5
  v5 := Tryd.zeroValue5
  t9 := Tryd.underlying9
  a9 := Tryd.isAgg9
  z9 := Tryd.sizeOf9
  v9 := Tryd.zeroValue9
  t20 := Tryd.underlying20
  a20 := Tryd.isAgg20
  z20 := Tryd.sizeOf20
  v20 := Tryd.zeroValue20
  t37 := Tryd.underlying71
  a37 := Tryd.isAgg71
  z37 := Tryd.sizeOf71
  v37 := Tryd.zeroValue71
  t46 := Tryd.underlying115
  a46 := Tryd.isAgg115
  z46 := Tryd.sizeOf115
  v46 := Tryd.zeroValue115
  t51 := Tryd.underlying136
  a51 := Tryd.isAgg136
  z51 := Tryd.sizeOf136
  v51 := Tryd.zeroValue136
  t53 := Tryd.underlying138
  a53 := Tryd.isAgg138
  z53 := Tryd.sizeOf138
  v53 := Tryd.zeroValue138
  t171 := Tryd.underlying142
  a171 := Tryd.isAgg142
  z171 := Tryd.sizeOf142
  v171 := Tryd.zeroValue142
  t173 := Tryd.underlying144
  a173 := Tryd.isAgg144
  z173 := Tryd.sizeOf144
  v173 := Tryd.zeroValue144
  t212 := Tryd.underlying160
  a212 := Tryd.isAgg160
  z212 := Tryd.sizeOf160
  v212 := Tryd.zeroValue160
  t213 := Tryd.underlying161
  a213 := Tryd.isAgg161
  z213 := Tryd.sizeOf161
  t232 := Tryd.underlying182
  a232 := Tryd.isAgg182
  z232 := Tryd.sizeOf182
  v232 := Tryd.zeroValue182
  t233 := Tryd.underlying183
  a233 := Tryd.isAgg183
  z233 := Tryd.sizeOf183
  v233 := Tryd.zeroValue183
  g17 := by kernel_rfl
  g18 := by kernel_rfl
  g19 := by kernel_rfl
  i0 := by kernel_rfl
  i2 := by kernel_rfl
  i3 := by kernel_rfl
  i4 := by kernel_rfl
  i5 := by kernel_rfl
  i9 := by kernel_rfl
  i20 := by kernel_rfl
  i37 := by kernel_rfl
  i46 := by kernel_rfl
  i51 := by kernel_rfl
  i53 := by kernel_rfl
  i171 := by kernel_rfl
  i173 := by kernel_rfl
  i212 := by kernel_rfl
  i232 := by kernel_rfl
  i233 := by kernel_rfl
  m17 := by kernel_rfl
  m18 := by kernel_rfl
  m19 := by kernel_rfl }
open Go.RowKit Go.Sort Go.Lib in
/-- internal/strconv.Itoa: "Itoa is equivalent to FormatInt(int64(i), 10).": i's decimal numeral, for every int. (LAID: no walk: one application.) -/
theorem Tryd.internal_strconv_Itoa (n : Int) (h0 : -9223372036854775808 ≤ n) (h1 : n ≤ 9223372036854775807) (w : World) (htab : Lib.TabIs Tryd.prog w "internal/strconv.uint64pow10" .u64 Lib.pow10Tab) :
    Calls Tryd.prog 79 #[.int .i64 n] w fun e w' => e = .returned (.string ⟨(Lib.itoa n).toArray⟩) ∧ ∃ k os, w' = grow (w.drewN k) os := Any.internal_strconv_Itoa Tryd.laysM243 n h0 h1 w htab
def Tryd.lays243_ren : Go.Shelf.Ren := ⟨fun | 243 => 79 | 246 => 89 | 283 => 107 | 284 => 108 | 285 => 109 | 286 => 110 | 129 => 104 | 317 => 122 | 318 => 123 | 319 => 124 | 320 => 125 | 337 => 131 | 338 => 132 | n => n, fun | 3 => 3 | 9 => 9 | 2 => 2 | 4 => 4 | 171 => 142 | 0 => 0 | 53 => 138 | 37 => 71 | 5 => 5 | 173 => 144 | 212 => 160 | 51 => 136 | 20 => 20 | 213 => 161 | 46 => 115 | 232 => 182 | 233 => 183 | n => n, fun | 17 => 3 | 18 => 6 | 19 => 7 | n => n⟩
theorem Tryd.lays243 : Go.Proofs.Lays.n243 Tryd.prog Tryd.lays243_ren := {
  mixed := by kernel_rfl
  f129 := Tryd.func104.trans (congrArg some (by kernel_rfl))
  f243 := Tryd.func79.trans (congrArg some (by kernel_rfl))
  f246 := Tryd.func89.trans (congrArg some (by kernel_rfl))
  f283 := Tryd.func107.trans (congrArg some (by kernel_rfl))
  f284 := Tryd.func108.trans (congrArg some (by kernel_rfl))
  f285 := Tryd.func109.trans (congrArg some (by kernel_rfl))
  f286 := Tryd.func110.trans (congrArg some (by kernel_rfl))
  f317 := Tryd.func122.trans (congrArg some (by kernel_rfl))
  f318 := Tryd.func123.trans (congrArg some (by kernel_rfl))
  f319 := Tryd.func124.trans (congrArg some (by kernel_rfl))
  f320 := Tryd.func125.trans (congrArg some (by kernel_rfl))
  f337 := Tryd.func131.trans (congrArg some (by kernel_rfl))
  f338 := Tryd.func132.trans (congrArg some (by kernel_rfl))
  t0 := Tryd.underlying0
  a0 := Tryd.isAgg0
  z0 := Tryd.sizeOf0
  v0 := Tryd.zeroValue0
  t2 := Tryd.underlying2
  a2 := Tryd.isAgg2
  z2 := Tryd.sizeOf2
  v2 := Tryd.zeroValue2
  t3 := Tryd.underlying3
  a3 := Tryd.isAgg3
  z3 := Tryd.sizeOf3
  v3 := Tryd.zeroValue3
  t4 := Tryd.underlying4
  a4 := Tryd.isAgg4
  z4 := Tryd.sizeOf4
  v4 := Tryd.zeroValue4
  t5 := Tryd.underlying5
  a5 := Tryd.isAgg5
  z5 := Tryd.sizeOf5
  v5 := Tryd.zeroValue5
  t9 := Tryd.underlying9
  a9 := Tryd.isAgg9
  z9 := Tryd.sizeOf9
  v9 := Tryd.zeroValue9
  t20 := Tryd.underlying20
  a20 := Tryd.isAgg20
  z20 := Tryd.sizeOf20
  v20 := Tryd.zeroValue20
  t37 := Tryd.underlying71
  a37 := Tryd.isAgg71
  z37 := Tryd.sizeOf71
  v37 := Tryd.zeroValue71
  t46 := Tryd.underlying115
  a46 := Tryd.isAgg115
  z46 := Tryd.sizeOf115
  v46 := Tryd.zeroValue115
  t51 := Tryd.underlying136
  a51 := Tryd.isAgg136
  z51 := Tryd.sizeOf136
  v51 := Tryd.zeroValue136
  t53 := Tryd.underlying138
  a53 := Tryd.isAgg138
  z53 := Tryd.sizeOf138
  v53 := Tryd.zeroValue138
  t171 := Tryd.underlying142
  a171 := Tryd.isAgg142
  z171 := Tryd.sizeOf142
  v171 := Tryd.zeroValue142
  t173 := Tryd.underlying144
  a173 := Tryd.isAgg144
  z173 := Tryd.sizeOf144
  v173 := Tryd.zeroValue144
  t212 := Tryd.underlying160
  a212 := Tryd.isAgg160
  z212 := Tryd.sizeOf160
  v212 := Tryd.zeroValue160
  t213 := Tryd.underlying161
  a213 := Tryd.isAgg161
  z213 := Tryd.sizeOf161
  t232 := Tryd.underlying182
  a232 := Tryd.isAgg182
  z232 := Tryd.sizeOf182
  v232 := Tryd.zeroValue182
  t233 := Tryd.underlying183
  a233 := Tryd.isAgg183
  z233 := Tryd.sizeOf183
  v233 := Tryd.zeroValue183
  g17 := by kernel_rfl
  g18 := by kernel_rfl
  g19 := by kernel_rfl }
open Go.RowKit Go.Sort Go.Lib in
/-- THE ROAD WITHOUT THE TABLE: 0 <= i < 100. (LAID: no walk: one application.) -/
theorem Tryd.internal_strconv_Itoa_small (i : Nat) (hi : i < 100) (w : World) :
    Calls Tryd.prog 79 #[.int .i64 i] w fun e w' => e = .returned (.string ⟨(Lib.decDigits i).toArray⟩) ∧ w' = w := Any.internal_strconv_Itoa_small Tryd.lays243 i hi w
def Tryd.laysM171_ren : Go.Shelf.Ren := ⟨fun | 171 => 67 | 243 => 79 | 246 => 89 | 283 => 107 | 284 => 108 | 285 => 109 | 286 => 110 | 129 => 104 | 317 => 122 | 318 => 123 | 319 => 124 | 320 => 125 | 337 => 131 | 338 => 132 | n => n, fun | 3 => 3 | 9 => 9 | 2 => 2 | 4 => 4 | 171 => 142 | 0 => 0 | 53 => 138 | 37 => 71 | 5 => 5 | 173 => 144 | 212 => 160 | 51 => 136 | 20 => 20 | 213 => 161 | 46 => 115 | 232 => 182 | 233 => 183 | n => n, fun | 17 => 3 | 18 => 6 | 19 => 7 | n => n⟩
theorem Tryd.laysM171 : Go.Proofs.LaysM.n171 Tryd.prog Tryd.laysM171_ren := {
  mixed := by kernel_rfl
  f129 := Tryd.func104.trans (congrArg some (by kernel_rfl))
  f171 := Tryd.func67.trans (congrArg some (by kernel_rfl))
  f243 := Tryd.func79.trans (congrArg some (by kernel_rfl))
  f246 := Tryd.func89.trans (congrArg some (by kernel_rfl))
  f283 := Tryd.func107.trans (congrArg some (by kernel_rfl))
  f284 := Tryd.func108.trans (congrArg some (by kernel_rfl))
  f285 := Tryd.func109.trans (congrArg some (by kernel_rfl))
  f286 := Tryd.func110.trans (congrArg some (by kernel_rfl))
  f317 := Tryd.func122.trans (congrArg some (by kernel_rfl))
  f318 := Tryd.func123.trans (congrArg some (by kernel_rfl))
  f319 := Tryd.func124.trans (congrArg some (by kernel_rfl))
  f320 := Tryd.func125.trans (congrArg some (by kernel_rfl))
  f337 := Tryd.func131.trans (congrArg some (by kernel_rfl))
  f338 := Tryd.func132.trans (congrArg some (by kernel_rfl))
  t0 := Tryd.underlying0
  a0 := Tryd.isAgg0
  z0 := Tryd.sizeOf0
  v0 := Tryd.zeroValue0
  t2 := Tryd.underlying2
  a2 := Tryd.isAgg2
  z2 := Tryd.sizeOf2
  v2 := Tryd.zeroValue2
  t3 := Tryd.underlying3
  a3 := Tryd.isAgg3
  z3 := Tryd.sizeOf3
  v3 := Tryd.zeroValue3
  t4 := Tryd.underlying4
  a4 := Tryd.isAgg4
  z4 := Tryd.sizeOf4
  v4 := Tryd.zeroValue4
  t5 := Tryd.underlying5
  a5 := Tryd.isAgg5
  z5 := Tryd.sizeOf5
  v5 := Tryd.zeroValue5
  t9 := Tryd.underlying9
  a9 := Tryd.isAgg9
  z9 := Tryd.sizeOf9
  v9 := Tryd.zeroValue9
  t20 := Tryd.underlying20
  a20 := Tryd.isAgg20
  z20 := Tryd.sizeOf20
  v20 := Tryd.zeroValue20
  t37 := Tryd.underlying71
  a37 := Tryd.isAgg71
  z37 := Tryd.sizeOf71
  v37 := Tryd.zeroValue71
  t46 := Tryd.underlying115
  a46 := Tryd.isAgg115
  z46 := Tryd.sizeOf115
  v46 := Tryd.zeroValue115
  t51 := Tryd.underlying136
  a51 := Tryd.isAgg136
  z51 := Tryd.sizeOf136
  v51 := Tryd.zeroValue136
  t53 := Tryd.underlying138
  a53 := Tryd.isAgg138
  z53 := Tryd.sizeOf138
  v53 := Tryd.zeroValue138
  t171 := Tryd.underlying142
  a171 := Tryd.isAgg142
  z171 := Tryd.sizeOf142
  v171 := Tryd.zeroValue142
  t173 := Tryd.underlying144
  a173 := Tryd.isAgg144
  z173 := Tryd.sizeOf144
  v173 := Tryd.zeroValue144
  t212 := Tryd.underlying160
  a212 := Tryd.isAgg160
  z212 := Tryd.sizeOf160
  v212 := Tryd.zeroValue160
  t213 := Tryd.underlying161
  a213 := Tryd.isAgg161
  z213 := Tryd.sizeOf161
  t232 := Tryd.underlying182
  a232 := Tryd.isAgg182
  z232 := Tryd.sizeOf182
  v232 := Tryd.zeroValue182
  t233 := Tryd.underlying183
  a233 := Tryd.isAgg183
  z233 := Tryd.sizeOf183
  v233 := Tryd.zeroValue183
  g17 := by kernel_rfl
  g18 := by kernel_rfl
  g19 := by kernel_rfl
  i0 := by kernel_rfl
  i2 := by kernel_rfl
  i3 := by kernel_rfl
  i4 := by kernel_rfl
  i5 := by kernel_rfl
  i9 := by kernel_rfl
  i20 := by kernel_rfl
  i37 := by kernel_rfl
  i46 := by kernel_rfl
  i51 := by kernel_rfl
  i53 := by kernel_rfl
  i171 := by kernel_rfl
  i173 := by kernel_rfl
  i212 := by kernel_rfl
  i232 := by kernel_rfl
  i233 := by kernel_rfl
  m17 := by kernel_rfl
  m18 := by kernel_rfl
  m19 := by kernel_rfl }
open Go.RowKit Go.Sort Go.Lib in
/-- strconv.Itoa: "Itoa is equivalent to FormatInt(int64(i), 10).": i's DECIMAL NUMERAL ('Lib.itoa': a '-' where i is negative, then the digits), FOR EVERY int. The world behind the call: the world before it, new blocks behind the heap (the library's 'var a [24]byte'), draws. (LAID: no walk: one application.) -/
theorem Tryd.strconv_Itoa (n : Int) (h0 : -9223372036854775808 ≤ n) (h1 : n ≤ 9223372036854775807) (w : World) (htab : Lib.TabIs Tryd.prog w "internal/strconv.uint64pow10" .u64 Lib.pow10Tab) :
    Calls Tryd.prog 67 #[.int .i64 n] w fun e w' => e = .returned (.string ⟨(Lib.itoa n).toArray⟩) ∧ ∃ k os, w' = grow (w.drewN k) os := Any.strconv_Itoa Tryd.laysM171 n h0 h1 w htab
def Tryd.lays171_ren : Go.Shelf.Ren := ⟨fun | 171 => 67 | 243 => 79 | 246 => 89 | 283 => 107 | 284 => 108 | 285 => 109 | 286 => 110 | 129 => 104 | 317 => 122 | 318 => 123 | 319 => 124 | 320 => 125 | 337 => 131 | 338 => 132 | n => n, fun | 3 => 3 | 9 => 9 | 2 => 2 | 4 => 4 | 171 => 142 | 0 => 0 | 53 => 138 | 37 => 71 | 5 => 5 | 173 => 144 | 212 => 160 | 51 => 136 | 20 => 20 | 213 => 161 | 46 => 115 | 232 => 182 | 233 => 183 | n => n, fun | 17 => 3 | 18 => 6 | 19 => 7 | n => n⟩
theorem Tryd.lays171 : Go.Proofs.Lays.n171 Tryd.prog Tryd.lays171_ren := {
  mixed := by kernel_rfl
  f129 := Tryd.func104.trans (congrArg some (by kernel_rfl))
  f171 := Tryd.func67.trans (congrArg some (by kernel_rfl))
  f243 := Tryd.func79.trans (congrArg some (by kernel_rfl))
  f246 := Tryd.func89.trans (congrArg some (by kernel_rfl))
  f283 := Tryd.func107.trans (congrArg some (by kernel_rfl))
  f284 := Tryd.func108.trans (congrArg some (by kernel_rfl))
  f285 := Tryd.func109.trans (congrArg some (by kernel_rfl))
  f286 := Tryd.func110.trans (congrArg some (by kernel_rfl))
  f317 := Tryd.func122.trans (congrArg some (by kernel_rfl))
  f318 := Tryd.func123.trans (congrArg some (by kernel_rfl))
  f319 := Tryd.func124.trans (congrArg some (by kernel_rfl))
  f320 := Tryd.func125.trans (congrArg some (by kernel_rfl))
  f337 := Tryd.func131.trans (congrArg some (by kernel_rfl))
  f338 := Tryd.func132.trans (congrArg some (by kernel_rfl))
  t0 := Tryd.underlying0
  a0 := Tryd.isAgg0
  z0 := Tryd.sizeOf0
  v0 := Tryd.zeroValue0
  t2 := Tryd.underlying2
  a2 := Tryd.isAgg2
  z2 := Tryd.sizeOf2
  v2 := Tryd.zeroValue2
  t3 := Tryd.underlying3
  a3 := Tryd.isAgg3
  z3 := Tryd.sizeOf3
  v3 := Tryd.zeroValue3
  t4 := Tryd.underlying4
  a4 := Tryd.isAgg4
  z4 := Tryd.sizeOf4
  v4 := Tryd.zeroValue4
  t5 := Tryd.underlying5
  a5 := Tryd.isAgg5
  z5 := Tryd.sizeOf5
  v5 := Tryd.zeroValue5
  t9 := Tryd.underlying9
  a9 := Tryd.isAgg9
  z9 := Tryd.sizeOf9
  v9 := Tryd.zeroValue9
  t20 := Tryd.underlying20
  a20 := Tryd.isAgg20
  z20 := Tryd.sizeOf20
  v20 := Tryd.zeroValue20
  t37 := Tryd.underlying71
  a37 := Tryd.isAgg71
  z37 := Tryd.sizeOf71
  v37 := Tryd.zeroValue71
  t46 := Tryd.underlying115
  a46 := Tryd.isAgg115
  z46 := Tryd.sizeOf115
  v46 := Tryd.zeroValue115
  t51 := Tryd.underlying136
  a51 := Tryd.isAgg136
  z51 := Tryd.sizeOf136
  v51 := Tryd.zeroValue136
  t53 := Tryd.underlying138
  a53 := Tryd.isAgg138
  z53 := Tryd.sizeOf138
  v53 := Tryd.zeroValue138
  t171 := Tryd.underlying142
  a171 := Tryd.isAgg142
  z171 := Tryd.sizeOf142
  v171 := Tryd.zeroValue142
  t173 := Tryd.underlying144
  a173 := Tryd.isAgg144
  z173 := Tryd.sizeOf144
  v173 := Tryd.zeroValue144
  t212 := Tryd.underlying160
  a212 := Tryd.isAgg160
  z212 := Tryd.sizeOf160
  v212 := Tryd.zeroValue160
  t213 := Tryd.underlying161
  a213 := Tryd.isAgg161
  z213 := Tryd.sizeOf161
  t232 := Tryd.underlying182
  a232 := Tryd.isAgg182
  z232 := Tryd.sizeOf182
  v232 := Tryd.zeroValue182
  t233 := Tryd.underlying183
  a233 := Tryd.isAgg183
  z233 := Tryd.sizeOf183
  v233 := Tryd.zeroValue183
  g17 := by kernel_rfl
  g18 := by kernel_rfl
  g19 := by kernel_rfl }
open Go.RowKit Go.Sort Go.Lib in
/-- THE ROAD WITHOUT THE TABLE: 0 <= i < 100: NO PREMISE ON THE WORLD, AND THE WORLD IS AS IT WAS: a row that keeps its argument in that range need list no table ('laid = []'). (LAID: no walk: one application.) -/
theorem Tryd.strconv_Itoa_small (i : Nat) (hi : i < 100) (w : World) :
    Calls Tryd.prog 67 #[.int .i64 i] w fun e w' => e = .returned (.string ⟨(Lib.decDigits i).toArray⟩) ∧ w' = w := Any.strconv_Itoa_small Tryd.lays171 i hi w
def Tryd.lays206_ren : Go.Shelf.Ren := ⟨fun | 206 => 128 | n => n, fun | 9 => 9 | 4 => 4 | 3 => 3 | n => n, fun | n => n⟩
theorem Tryd.lays206 : Go.Proofs.Lays.n206 Tryd.prog Tryd.lays206_ren := {
  mixed := by kernel_rfl
  f206 := Tryd.func128.trans (congrArg some (by kernel_rfl))
  t3 := Tryd.underlying3
  a3 := Tryd.isAgg3
  z3 := Tryd.sizeOf3
  v3 := Tryd.zeroValue3
  t4 := Tryd.underlying4
  a4 := Tryd.isAgg4
  z4 := Tryd.sizeOf4
  v4 := Tryd.zeroValue4
  t9 := Tryd.underlying9
  a9 := Tryd.isAgg9
  z9 := Tryd.sizeOf9
  v9 := Tryd.zeroValue9 }
open Go.RowKit Go.Lib in
/-- internal/stringslite.HasPrefix (what strings.HasPrefix calls). (LAID: no walk: one application.) -/
theorem Tryd.stringslite_HasPrefix (s p : ByteArray) (w : World) :
    Calls Tryd.prog 128 #[.string s, .string p] w fun e w' => e = .returned (.bool (Lib.hasPrefix s.data.toList p.data.toList)) ∧ w' = w := Any.stringslite_HasPrefix Tryd.lays206 s p w
def Tryd.lays99_ren : Go.Shelf.Ren := ⟨fun | 99 => 115 | 206 => 128 | n => n, fun | 9 => 9 | 4 => 4 | 3 => 3 | n => n, fun | n => n⟩
theorem Tryd.lays99 : Go.Proofs.Lays.n99 Tryd.prog Tryd.lays99_ren := {
  mixed := by kernel_rfl
  f99 := Tryd.func115.trans (congrArg some (by kernel_rfl))
  f206 := Tryd.func128.trans (congrArg some (by kernel_rfl))
  t3 := Tryd.underlying3
  a3 := Tryd.isAgg3
  z3 := Tryd.sizeOf3
  v3 := Tryd.zeroValue3
  t4 := Tryd.underlying4
  a4 := Tryd.isAgg4
  z4 := Tryd.sizeOf4
  v4 := Tryd.zeroValue4
  t9 := Tryd.underlying9
  a9 := Tryd.isAgg9
  z9 := Tryd.sizeOf9
  v9 := Tryd.zeroValue9 }
open Go.RowKit Go.Lib in
/-- strings.HasPrefix: "HasPrefix reports whether the string s begins with prefix.": IT RETURNS 'Lib.hasPrefix s prefix'; the world is as it was. (LAID: no walk: one application.) -/
theorem Tryd.strings_HasPrefix (s p : ByteArray) (w : World) :
    Calls Tryd.prog 115 #[.string s, .string p] w fun e w' => e = .returned (.bool (Lib.hasPrefix s.data.toList p.data.toList)) ∧ w' = w := Any.strings_HasPrefix Tryd.lays99 s p w
def Tryd.lays200_ren : Go.Shelf.Ren := ⟨fun | 200 => 90 | 261 => 111 | 311 => 126 | 312 => 127 | n => n, fun | 21 => 21 | 4 => 4 | 51 => 136 | 5 => 5 | 119 => 146 | 0 => 0 | 141 => 148 | 196 => 166 | 193 => 163 | 3 => 3 | 198 => 169 | 49 => 167 | 194 => 164 | 201 => 172 | 226 => 177 | 46 => 115 | 227 => 178 | n => n, fun | 7 => 0 | 8 => 1 | n => n⟩
theorem Tryd.lays200 : Go.Proofs.Lays.n200 Tryd.prog Tryd.lays200_ren := {
  mixed := by kernel_rfl
  f200 := Tryd.func90.trans (congrArg some (by kernel_rfl))
  f261 := Tryd.func111.trans (congrArg some (by kernel_rfl))
  f311 := Tryd.func126.trans (congrArg some (by kernel_rfl))
  f312 := Tryd.func127.trans (congrArg some (by kernel_rfl))
  t0 := Tryd.underlying0
  a0 := Tryd.isAgg0
  z0 := Tryd.sizeOf0
  v0 := Tryd.zeroValue0
  t3 := Tryd.underlying3
  a3 := Tryd.isAgg3
  z3 := Tryd.sizeOf3
  v3 := Tryd.zeroValue3
  t4 := Tryd.underlying4
  a4 := Tryd.isAgg4
  z4 := Tryd.sizeOf4
  v4 := Tryd.zeroValue4
  t5 := Tryd.underlying5
  a5 := Tryd.isAgg5
  z5 := Tryd.sizeOf5
  v5 := Tryd.zeroValue5
  t21 := Tryd.underlying21
  a21 := Tryd.isAgg21
  z21 := Tryd.sizeOf21
  v21 := Tryd.zeroValue21
  t46 := Tryd.underlying115
  a46 := Tryd.isAgg115
  z46 := Tryd.sizeOf115
  v46 := Tryd.zeroValue115
  t49 := Tryd.underlying167
  a49 := Tryd.isAgg167
  z49 := Tryd.sizeOf167
  v49 := Tryd.zeroValue167
  t51 := Tryd.underlying136
  a51 := Tryd.isAgg136
  z51 := Tryd.sizeOf136
  v51 := Tryd.zeroValue136
  t119 := Tryd.underlying146
  a119 := Tryd.isAgg146
  z119 := Tryd.sizeOf146
  t141 := Tryd.underlying148
  a141 := Tryd.isAgg148
  z141 := Tryd.sizeOf148
  v141 := Tryd.zeroValue148
  t193 := Tryd.underlying163
  a193 := Tryd.isAgg163
  z193 := Tryd.sizeOf163
  v193 := Tryd.zeroValue163
  t194 := Tryd.underlying164
  a194 := Tryd.isAgg164
  z194 := Tryd.sizeOf164
  v194 := Tryd.zeroValue164
  t196 := Tryd.underlying166
  a196 := Tryd.isAgg166
  z196 := Tryd.sizeOf166
  v196 := Tryd.zeroValue166
  t198 := Tryd.underlying169
  a198 := Tryd.isAgg169
  z198 := Tryd.sizeOf169
  v198 := Tryd.zeroValue169
  t201 := Tryd.underlying172
  a201 := Tryd.isAgg172
  z201 := Tryd.sizeOf172
  v201 := Tryd.zeroValue172
  t226 := Tryd.underlying177
  a226 := Tryd.isAgg177
  z226 := Tryd.sizeOf177
  v226 := Tryd.zeroValue177
  t227 := Tryd.underlying178
  a227 := Tryd.isAgg178
  z227 := Tryd.sizeOf178
  v227 := Tryd.zeroValue178
  g7 := by kernel_rfl
  g8 := by kernel_rfl }
open Go.RowKit Go.Lib in
theorem Tryd.unicode_IsLetter (c : Nat) (w : World) (hc : c < 256) (htab : Lib.TabIs Tryd.prog w "unicode.properties" .u8 Lib.propertiesTab) :
    Calls Tryd.prog 90 #[.int .i32 c] w fun e w' => e = .returned (.bool (Lib.isLetterL c)) ∧ w' = w := Any.unicode_IsLetter Tryd.lays200 (by kernel_rfl) c w hc htab
def Tryd.lays260_ren : Go.Shelf.Ren := ⟨fun | 260 => 129 | n => n, fun | 9 => 9 | 21 => 21 | 3 => 3 | 4 => 4 | 5 => 5 | 119 => 146 | 0 => 0 | 46 => 115 | 139 => 181 | 138 => 180 | n => n, fun | 3 => 4 | 4 => 5 | n => n⟩
theorem Tryd.lays260 : Go.Proofs.Lays.n260 Tryd.prog Tryd.lays260_ren := {
  mixed := by kernel_rfl
  f260 := Tryd.func129.trans (congrArg some (by kernel_rfl))
  t0 := Tryd.underlying0
  a0 := Tryd.isAgg0
  z0 := Tryd.sizeOf0
  v0 := Tryd.zeroValue0
  t3 := Tryd.underlying3
  a3 := Tryd.isAgg3
  z3 := Tryd.sizeOf3
  v3 := Tryd.zeroValue3
  t4 := Tryd.underlying4
  a4 := Tryd.isAgg4
  z4 := Tryd.sizeOf4
  v4 := Tryd.zeroValue4
  t5 := Tryd.underlying5
  a5 := Tryd.isAgg5
  z5 := Tryd.sizeOf5
  v5 := Tryd.zeroValue5
  t9 := Tryd.underlying9
  a9 := Tryd.isAgg9
  z9 := Tryd.sizeOf9
  v9 := Tryd.zeroValue9
  t21 := Tryd.underlying21
  a21 := Tryd.isAgg21
  z21 := Tryd.sizeOf21
  v21 := Tryd.zeroValue21
  t46 := Tryd.underlying115
  a46 := Tryd.isAgg115
  z46 := Tryd.sizeOf115
  v46 := Tryd.zeroValue115
  t119 := Tryd.underlying146
  a119 := Tryd.isAgg146
  z119 := Tryd.sizeOf146
  t138 := Tryd.underlying180
  a138 := Tryd.isAgg180
  z138 := Tryd.sizeOf180
  v138 := Tryd.zeroValue180
  t139 := Tryd.underlying181
  a139 := Tryd.isAgg181
  z139 := Tryd.sizeOf181
  v139 := Tryd.zeroValue181
  g3 := by kernel_rfl
  g4 := by kernel_rfl }
open Go.RowKit Go.Lib in
theorem Tryd.utf8_decodeRuneInStringSlow (s : ByteArray) (w : World) (hT : Lib.Utf8Tabs 4 5 w) :
    Calls Tryd.prog 129 #[.string s] w fun e w' => e = .returned (.tuple #[.int .i32 (Lib.decodeGo s).1, .int .i64 (Lib.decodeGo s).2]) ∧ Below w.heap.size w w' := Any.utf8_decodeRuneInStringSlow Tryd.lays260 s w hT
def Tryd.lays311_ren : Go.Shelf.Ren := ⟨fun | 311 => 126 | n => n, fun | 193 => 163 | 49 => 167 | 4 => 4 | 3 => 3 | 0 => 0 | 226 => 177 | 198 => 169 | 46 => 115 | n => n, fun | n => n⟩
theorem Tryd.lays311 : Go.Proofs.Lays.n311 Tryd.prog Tryd.lays311_ren := {
  mixed := by kernel_rfl
  f311 := Tryd.func126.trans (congrArg some (by kernel_rfl))
  t0 := Tryd.underlying0
  a0 := Tryd.isAgg0
  z0 := Tryd.sizeOf0
  v0 := Tryd.zeroValue0
  t3 := Tryd.underlying3
  a3 := Tryd.isAgg3
  z3 := Tryd.sizeOf3
  v3 := Tryd.zeroValue3
  t4 := Tryd.underlying4
  a4 := Tryd.isAgg4
  z4 := Tryd.sizeOf4
  v4 := Tryd.zeroValue4
  t46 := Tryd.underlying115
  a46 := Tryd.isAgg115
  z46 := Tryd.sizeOf115
  v46 := Tryd.zeroValue115
  t49 := Tryd.underlying167
  a49 := Tryd.isAgg167
  z49 := Tryd.sizeOf167
  v49 := Tryd.zeroValue167
  t193 := Tryd.underlying163
  a193 := Tryd.isAgg163
  z193 := Tryd.sizeOf163
  v193 := Tryd.zeroValue163
  t198 := Tryd.underlying169
  a198 := Tryd.isAgg169
  z198 := Tryd.sizeOf169
  v198 := Tryd.zeroValue169
  t226 := Tryd.underlying177
  a226 := Tryd.isAgg177
  z226 := Tryd.sizeOf177
  v226 := Tryd.zeroValue177 }
open Go.RowKit Go.Lib in
theorem Tryd.unicode_is16_white (R oR : Nat) (z : Nat) (w : World) (hz : z < 65536) (hz0 : 255 < z) (c6 : w.cell? ⟨R, oR + 6, none⟩ = some (.int .u16 160)) (c7 : w.cell? ⟨R, oR + 7, none⟩ = some (.int .u16 5760)) (c8 : w.cell? ⟨R, oR + 8, none⟩ = some (.int .u16 5600)) (c9 : w.cell? ⟨R, oR + 9, none⟩ = some (.int .u16 8192)) (c10 : w.cell? ⟨R, oR + 10, none⟩ = some (.int .u16 8202)) (c11 : w.cell? ⟨R, oR + 11, none⟩ = some (.int .u16 1)) (c12 : w.cell? ⟨R, oR + 12, none⟩ = some (.int .u16 8232)) (c13 : w.cell? ⟨R, oR + 13, none⟩ = some (.int .u16 8233)) (c14 : w.cell? ⟨R, oR + 14, none⟩ = some (.int .u16 1)) (c15 : w.cell? ⟨R, oR + 15, none⟩ = some (.int .u16 8239)) (c16 : w.cell? ⟨R, oR + 16, none⟩ = some (.int .u16 8287)) (c17 : w.cell? ⟨R, oR + 17, none⟩ = some (.int .u16 48)) (c18 : w.cell? ⟨R, oR + 18, none⟩ = some (.int .u16 12288)) (c19 : w.cell? ⟨R, oR + 19, none⟩ = some (.int .u16 12288)) (c20 : w.cell? ⟨R, oR + 20, none⟩ = some (.int .u16 1)) :
    Calls Tryd.prog 126 #[.slice (some ⟨R, oR + 6, none⟩) 5 5, .int .u16 z] w fun e w' => e = .returned (.bool (Lib.isSpaceR z)) ∧ Below w.heap.size w w' := Any.unicode_is16_white Tryd.lays311 R oR z w hz hz0 c6 c7 c8 c9 c10 c11 c12 c13 c14 c15 c16 c17 c18 c19 c20
def Tryd.lays261_ren : Go.Shelf.Ren := ⟨fun | 261 => 111 | 311 => 126 | 312 => 127 | n => n, fun | 141 => 148 | 21 => 21 | 4 => 4 | 0 => 0 | 196 => 166 | 193 => 163 | 3 => 3 | 51 => 136 | 198 => 169 | 49 => 167 | 194 => 164 | 201 => 172 | 226 => 177 | 46 => 115 | 227 => 178 | n => n, fun | n => n⟩
theorem Tryd.lays261 : Go.Proofs.Lays.n261 Tryd.prog Tryd.lays261_ren := {
  mixed := by kernel_rfl
  f261 := Tryd.func111.trans (congrArg some (by kernel_rfl))
  f311 := Tryd.func126.trans (congrArg some (by kernel_rfl))
  f312 := Tryd.func127.trans (congrArg some (by kernel_rfl))
  t0 := Tryd.underlying0
  a0 := Tryd.isAgg0
  z0 := Tryd.sizeOf0
  v0 := Tryd.zeroValue0
  t3 := Tryd.underlying3
  a3 := Tryd.isAgg3
  z3 := Tryd.sizeOf3
  v3 := Tryd.zeroValue3
  t4 := Tryd.underlying4
  a4 := Tryd.isAgg4
  z4 := Tryd.sizeOf4
  v4 := Tryd.zeroValue4
  t21 := Tryd.underlying21
  a21 := Tryd.isAgg21
  z21 := Tryd.sizeOf21
  v21 := Tryd.zeroValue21
  t46 := Tryd.underlying115
  a46 := Tryd.isAgg115
  z46 := Tryd.sizeOf115
  v46 := Tryd.zeroValue115
  t49 := Tryd.underlying167
  a49 := Tryd.isAgg167
  z49 := Tryd.sizeOf167
  v49 := Tryd.zeroValue167
  t51 := Tryd.underlying136
  a51 := Tryd.isAgg136
  z51 := Tryd.sizeOf136
  v51 := Tryd.zeroValue136
  t141 := Tryd.underlying148
  a141 := Tryd.isAgg148
  z141 := Tryd.sizeOf148
  v141 := Tryd.zeroValue148
  t193 := Tryd.underlying163
  a193 := Tryd.isAgg163
  z193 := Tryd.sizeOf163
  v193 := Tryd.zeroValue163
  t194 := Tryd.underlying164
  a194 := Tryd.isAgg164
  z194 := Tryd.sizeOf164
  v194 := Tryd.zeroValue164
  t196 := Tryd.underlying166
  a196 := Tryd.isAgg166
  z196 := Tryd.sizeOf166
  v196 := Tryd.zeroValue166
  t198 := Tryd.underlying169
  a198 := Tryd.isAgg169
  z198 := Tryd.sizeOf169
  v198 := Tryd.zeroValue169
  t201 := Tryd.underlying172
  a201 := Tryd.isAgg172
  z201 := Tryd.sizeOf172
  v201 := Tryd.zeroValue172
  t226 := Tryd.underlying177
  a226 := Tryd.isAgg177
  z226 := Tryd.sizeOf177
  v226 := Tryd.zeroValue177
  t227 := Tryd.underlying178
  a227 := Tryd.isAgg178
  z227 := Tryd.sizeOf178
  v227 := Tryd.zeroValue178 }
open Go.RowKit Go.Lib in
/-- unicode.isExcludingLatin(White_Space, r), r beyond U+00FF or negative. (LAID: no walk: one application.) -/
theorem Tryd.unicode_isExcludingLatin_white (T oT R oR : Nat) (r : Int) (w : World) (hlo : -2147483648 ≤ r) (hhi : r ≤ 2147483647) (hr : r < 0 ∨ 255 < r) (h2 : w.cell? ⟨T, oT, none⟩ = some (.slice (some ⟨R, oR, none⟩) 7 7)) (h3 : w.cell? ⟨T, oT + 1, none⟩ = some (.slice none 0 0)) (h4 : w.cell? ⟨T, oT + 2, none⟩ = some (.int .i64 2)) (h5 : ∀ i, i < 21 → w.cell? ⟨R, oR + i, none⟩ = some (.int .u16 (whiteT.getD i 0))) :
    Calls Tryd.prog 111 #[.pointer (some ⟨T, oT, none⟩), .int .i32 r] w fun e w' => e = .returned (.bool (Lib.isSpaceZ r)) ∧ Below w.heap.size w w' := Any.unicode_isExcludingLatin_white Tryd.lays261 T oT R oR r w hlo hhi hr h2 h3 h4 h5
open Go.RowKit Go.Lib in
theorem Tryd.unicode_is16_any (T : Array Rg) (R oR cap : Nat) (z : Nat) (w : World) (hz : z < 65536) (hT : RgTab .u16 R oR T w) (hok : RgOk 65536 T) (hn : T.size ≤ 1000000000) :
    Calls Tryd.prog 126 #[.slice (some ⟨R, oR, none⟩) T.size cap, .int .u16 z] w fun e w' => e = .returned (.bool (is16Go T z)) ∧ ∃ q, w' = w.drewN q := Any.unicode_is16_any Tryd.lays311 T R oR cap z w hz hT hok hn
def Tryd.lays312_ren : Go.Shelf.Ren := ⟨fun | 312 => 127 | n => n, fun | 194 => 164 | 51 => 136 | 4 => 4 | 3 => 3 | 0 => 0 | 227 => 178 | 201 => 172 | 46 => 115 | n => n, fun | n => n⟩
theorem Tryd.lays312 : Go.Proofs.Lays.n312 Tryd.prog Tryd.lays312_ren := {
  mixed := by kernel_rfl
  f312 := Tryd.func127.trans (congrArg some (by kernel_rfl))
  t0 := Tryd.underlying0
  a0 := Tryd.isAgg0
  z0 := Tryd.sizeOf0
  v0 := Tryd.zeroValue0
  t3 := Tryd.underlying3
  a3 := Tryd.isAgg3
  z3 := Tryd.sizeOf3
  v3 := Tryd.zeroValue3
  t4 := Tryd.underlying4
  a4 := Tryd.isAgg4
  z4 := Tryd.sizeOf4
  v4 := Tryd.zeroValue4
  t46 := Tryd.underlying115
  a46 := Tryd.isAgg115
  z46 := Tryd.sizeOf115
  v46 := Tryd.zeroValue115
  t51 := Tryd.underlying136
  a51 := Tryd.isAgg136
  z51 := Tryd.sizeOf136
  v51 := Tryd.zeroValue136
  t194 := Tryd.underlying164
  a194 := Tryd.isAgg164
  z194 := Tryd.sizeOf164
  v194 := Tryd.zeroValue164
  t201 := Tryd.underlying172
  a201 := Tryd.isAgg172
  z201 := Tryd.sizeOf172
  v201 := Tryd.zeroValue172
  t227 := Tryd.underlying178
  a227 := Tryd.isAgg178
  z227 := Tryd.sizeOf178
  v227 := Tryd.zeroValue178 }
open Go.RowKit Go.Lib in
theorem Tryd.unicode_is32_any (T : Array Rg) (R oR cap : Nat) (z : Nat) (w : World) (hz : z < 4294967296) (hT : RgTab .u32 R oR T w) (hok : RgOk 4294967296 T) (hn : T.size ≤ 1000000000) :
    Calls Tryd.prog 127 #[.slice (some ⟨R, oR, none⟩) T.size cap, .int .u32 z] w fun e w' => e = .returned (.bool (is32Go T z)) ∧ Below w.heap.size w w' := Any.unicode_is32_any Tryd.lays312 T R oR cap z w hz hT hok hn
open Go.RowKit Go.Lib in
theorem Tryd.unicode_isExcludingLatin_any (Tb oT : Nat) (T : RTab) (r : Int) (w : World) (hlo : -2147483648 ≤ r) (hhi : r ≤ 2147483647) (hA : RTabAt Tb oT T w) (hok : RTabOk T) :
    Calls Tryd.prog 111 #[.pointer (some ⟨Tb, oT, none⟩), .int .i32 r] w fun e w' => e = .returned (.bool (exclGo T r)) ∧ Below w.heap.size w w' := Any.unicode_isExcludingLatin_any Tryd.lays261 Tb oT T r w hlo hhi hA hok
open Go.RowKit Go.Lib in
/-- unicode.IsLetter(r) AT EVERY int32, over whatever table the variable unicode.Letter leads to. (LAID: no walk: one application.) -/
theorem Tryd.unicode_IsLetter_any (T : RTab) (r : Int) (w : World) (hlo : -2147483648 ≤ r) (hhi : r ≤ 2147483647) (htab : Lib.TabIs Tryd.prog w "unicode.properties" .u8 Lib.propertiesTab) (hV : RVar 1 T w) (hok : RTabOk T) :
    Calls Tryd.prog 90 #[.int .i32 r] w fun e w' => e = .returned (.bool (if latin1 r then isLetterL r else exclGo T r)) ∧ Below w.heap.size w w' := Any.unicode_IsLetter_any Tryd.lays200 (by kernel_rfl) T r w hlo hhi htab hV hok
end Go.Proofs
